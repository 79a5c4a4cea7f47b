import JvmDerived
import JvmDerived.Pilot.@@N@@Statement
import JvmDerived.Pilot.@@N@@Code
set_option maxRecDepth 65536
set_option maxHeartbeats 40000000
set_option linter.unusedVariables false
set_option linter.unusedSimpArgs false
namespace Jvm.Pilot.@@N@@
open Jvm Jvm.ClassFile Sem Op Lib Jvm.Free Jvm.Stand Jvm.LawKit Jvm.RoadKit Bundle Jvm.Pilot.@@N@@.Jvm.D
def own_SC (Z : State) (cs0 : Int32) : Prop := Sta Z Z.heap "java/lang/String" "COMPACT_STRINGS" "Z" (.int cs0) ∧ ¬ cs0 = 0
def own_SU (Z : State) : Prop := Sta Z Z.heap "java/lang/StringUTF16" "$assertionsDisabled" "Z" (.int (1 : Int32)) ∧ Sta Z Z.heap "java/lang/StringUTF16" "HI_BYTE_SHIFT" "I" (.int (0 : Int32)) ∧ Sta Z Z.heap "java/lang/StringUTF16" "LO_BYTE_SHIFT" "I" (.int (8 : Int32))
abbrev F'0 (Z : State) (h : Heap) (a : Addr) (v : Value) : Prop := Fld Z h a "java/lang/String" "coder" "B" v
abbrev F'1 (Z : State) (h : Heap) (a : Addr) (v : Value) : Prop := Fld Z h a "java/lang/String" "value" "[B" v
abbrev b'1 := method_4_code
abbrev b'2 := method_3_code
abbrev b'3 := method_2_code
abbrev b'4 := jdk_42_method_3_code
abbrev b'5 := jdk_42_method_149_code
abbrev b'7 := prog_40_method_2_code
abbrev b'8 := jdk_42_method_66_code
abbrev b'9 := jdk_43_method_13_code
abbrev b'10 := jdk_52_method_16_code
abbrev b'11 := jdk_52_method_21_code
abbrev b'12 := jdk_52_method_15_code
abbrev b'13 := jdk_52_method_14_code
abbrev b'14 := jdk_52_method_2_code
abbrev b'15 := jdk_52_method_3_code
abbrev b'16 := jdk_52_method_4_code
abbrev b'17 := jdk_52_method_5_code
abbrev v'0 : Value := .int 0
abbrev v'1 : Value := .int 1
abbrev v'2 : Value := .int 2
abbrev v'3 : Value := .int 3
abbrev v'4 : Value := .int 4
abbrev v'5 : Value := .int 5
abbrev v'6 : Value := .int 6
abbrev v'7 : Value := .int 7
abbrev v'45 : Value := .int 45
abbrev v'101 : Value := .int 101
abbrev v'104 : Value := .int 104
abbrev v'108 : Value := .int 108
abbrev v'112 : Value := .int 112
theorem own_dummy : True := trivial
section Own
variable {p : Program} {l : Launch} {e : Env} {R : Room} {s : State} {m : MethodId} {args : Array Value} {below : List Frame} {meth : Method} {c : Code} {T : State} {locs : List Loc} {cells slots : Nat}
def own_Fin (p : Program) (e : Env) (below : List Frame) (P : Outcome → State → Prop) (U : State) : Prop := ∃ s₂ o, Steps p.tables e below U s₂ ∧ s₂.status = .running ∧ Ended s₂ below o ∧ P o s₂
def own_P (Q : Option Value → Heap → List Loc → Prop) (s : State) (C S : Nat) : Outcome → State → Prop := fun o t => ∃ v L, o = .returned v ∧ Q v t.heap L ∧ FrameEnd s o t L C S
theorem own_go {P : Outcome → State → Prop} {U U' : State} (k : own_Fin p e below P U') (h : ∀ t, Steps p.tables e below U' t → Steps p.tables e below U t) : own_Fin p e below P U := by
 obtain ⟨t, o, h1, r⟩ := k; exact ⟨t, o, h t h1, r⟩
theorem own_cut {P : Outcome → State → Prop} {U : State} (A : Prop) (k : A) (h : A → own_Fin p e below P U) : own_Fin p e below P U := h k
theorem own_retN (X : Stand p l e R s m args below meth c T locs cells slots) (hx : p.tables.exec = Jvm.exec) {pc : Nat} {Ls : Array Slot} {z : Int32} {t : FieldType} {rest : List Value} (hret : meth.sig.returnType = some t) (ht : t = .boolean ∨ t = .byte ∨ t = .char ∨ t = .short)
  (hd : decode c.code pc = .ok (.ireturn, 1)) (hlk : meth.locks = false) {Q : Option Value → Heap → List Loc → Prop} {C S : Nat} (hQ : Q (some (.int (nar t z))) T.heap locs) (hC : cells ≤ C) (hS : slots ≤ S) : own_Fin p e below (own_P Q s C S) (T.setTop (mkF m pc Ls (.int z :: rest))) := by
 obtain ⟨fs, hr, hrun, hended, hW, hsame⟩ := X.leave (v := some (.int (nar t z))) (fun h => by rw [hret] at h; cases h) hlk
 exact ⟨_, _, retN X hx hret ht hd hr, hrun, hended, _, _, rfl, hQ, ⟨_, rfl⟩, hW, hsame.mono hC hS⟩
theorem own_retO (X : Stand p l e R s m args below meth c T locs cells slots) (hx : p.tables.exec = Jvm.exec) {pc : Nat} {Ls : Array Slot} {w : Value} {t : FieldType} {i : Instr} {rest : List Value} (hret : meth.sig.returnType = some t) (hn : narrow t w = w)
  (hi : (i = .ireturn ∧ (t = .int ∨ t = .boolean ∨ t = .byte ∨ t = .char ∨ t = .short) ∧ ∃ z, w = .int z) ∨ (i = .lreturn ∧ t = .long ∧ ∃ z, w = .long z) ∨ (i = .dreturn ∧ t = .double ∧ ∃ z, w = .double z) ∨ (i = .freturn ∧ t = .float ∧ ∃ z, w = .float z) ∨ (i = .areturn ∧ t.isReference = true ∧ w.isRef = true))
  (hd : decode c.code pc = .ok (i, 1)) (hlk : meth.locks = false) {Q : Option Value → Heap → List Loc → Prop} {C S : Nat} (hQ : Q (some w) T.heap locs) (hC : cells ≤ C) (hS : slots ≤ S) : own_Fin p e below (own_P Q s C S) (T.setTop (mkF m pc Ls (w :: rest))) := by
 obtain ⟨fs, hr, hrun, hended, hW, hsame⟩ := X.leave (v := some w) (fun h => by rw [hret] at h; cases h) hlk
 exact ⟨_, _, retOut X hx hret hn hi hd hr, hrun, hended, _, _, rfl, hQ, ⟨_, rfl⟩, hW, hsame.mono hC hS⟩
theorem own_retV (X : Stand p l e R s m args below meth c T locs cells slots) (hx : p.tables.exec = Jvm.exec) {pc : Nat} {Ls : Array Slot} (hret : meth.sig.returnType = none)
  (hd : decode c.code pc = .ok (.return_, 1)) (hlk : meth.locks = false) {Q : Option Value → Heap → List Loc → Prop} {C S : Nat} (hQ : Q none T.heap locs) (hC : cells ≤ C) (hS : slots ≤ S) : own_Fin p e below (own_P Q s C S) (T.setTop (mkF m pc Ls [])) := by
 obtain ⟨fs, hr, hrun, hended, hW, hsame⟩ := X.leave (v := none) (fun _ => rfl) hlk
 exact ⟨_, _, X.returnOut hx hret hd hr, hrun, hended, _, _, rfl, hQ, ⟨_, rfl⟩, hW, hsame.mono hC hS⟩
def own_PW (Q : Option Value → Heap → List Loc → Prop) (s : State) (C S : Nat) : Outcome → State → Prop := fun o t => ∃ v L, o = .returned v ∧ Q v t.heap L ∧ ReturnedEndW s o t L C S
theorem own_wmono {s t : State} {o : Outcome} {L : List Loc} {k n C S : Nat} (h : ReturnedEndW s o t L k n) (hC : k ≤ C) (hS : n ≤ S) : ReturnedEndW s o t L C S := ⟨h.1, h.2.1, h.2.2.1, h.2.2.2.mono hC hS⟩
theorem own_retNW {vm0 : Vm} (X : Stand p l e R (s.setVm vm0) m args below meth c T locs cells slots) {k0 : Nat} (hS : s.Since vm0 k0) (hk : k0 ≤ T.heap.size) (hx : p.tables.exec = Jvm.exec) {pc : Nat} {Ls : Array Slot} {z : Int32} {t : FieldType} {rest : List Value} (hret : meth.sig.returnType = some t) (ht : t = .boolean ∨ t = .byte ∨ t = .char ∨ t = .short)
  (hd : decode c.code pc = .ok (.ireturn, 1)) (hlk : meth.locks = false) {Q : Option Value → Heap → List Loc → Prop} {C S : Nat} (hQ : Q (some (.int (nar t z))) T.heap locs) (hC : cells ≤ C) (hS' : slots ≤ S) : own_Fin p e below (own_PW Q s C S) (T.setTop (mkF m pc Ls (.int z :: rest))) := by
 obtain ⟨fs, hr, hrun, hended, hW⟩ := X.leaveW hS hk (v := some (.int (nar t z))) (fun h => by rw [hret] at h; cases h) hlk
 exact ⟨_, _, retN X hx hret ht hd hr, hrun, hended, _, _, rfl, hQ, own_wmono hW hC hS'⟩
theorem own_retOW {vm0 : Vm} (X : Stand p l e R (s.setVm vm0) m args below meth c T locs cells slots) {k0 : Nat} (hS : s.Since vm0 k0) (hk : k0 ≤ T.heap.size) (hx : p.tables.exec = Jvm.exec) {pc : Nat} {Ls : Array Slot} {w : Value} {t : FieldType} {i : Instr} {rest : List Value} (hret : meth.sig.returnType = some t) (hn : narrow t w = w)
  (hi : (i = .ireturn ∧ (t = .int ∨ t = .boolean ∨ t = .byte ∨ t = .char ∨ t = .short) ∧ ∃ z, w = .int z) ∨ (i = .lreturn ∧ t = .long ∧ ∃ z, w = .long z) ∨ (i = .dreturn ∧ t = .double ∧ ∃ z, w = .double z) ∨ (i = .freturn ∧ t = .float ∧ ∃ z, w = .float z) ∨ (i = .areturn ∧ t.isReference = true ∧ w.isRef = true))
  (hd : decode c.code pc = .ok (i, 1)) (hlk : meth.locks = false) {Q : Option Value → Heap → List Loc → Prop} {C S : Nat} (hQ : Q (some w) T.heap locs) (hC : cells ≤ C) (hS' : slots ≤ S) : own_Fin p e below (own_PW Q s C S) (T.setTop (mkF m pc Ls (w :: rest))) := by
 obtain ⟨fs, hr, hrun, hended, hW⟩ := X.leaveW hS hk (v := some w) (fun h => by rw [hret] at h; cases h) hlk
 exact ⟨_, _, retOut X hx hret hn hi hd hr, hrun, hended, _, _, rfl, hQ, own_wmono hW hC hS'⟩
theorem own_retVW {vm0 : Vm} (X : Stand p l e R (s.setVm vm0) m args below meth c T locs cells slots) {k0 : Nat} (hS : s.Since vm0 k0) (hk : k0 ≤ T.heap.size) (hx : p.tables.exec = Jvm.exec) {pc : Nat} {Ls : Array Slot} (hret : meth.sig.returnType = none)
  (hd : decode c.code pc = .ok (.return_, 1)) (hlk : meth.locks = false) {Q : Option Value → Heap → List Loc → Prop} {C S : Nat} (hQ : Q none T.heap locs) (hC : cells ≤ C) (hS' : slots ≤ S) : own_Fin p e below (own_PW Q s C S) (T.setTop (mkF m pc Ls [])) := by
 obtain ⟨fs, hr, hrun, hended, hW⟩ := X.leaveW hS hk (v := none) (fun _ => rfl) hlk
 exact ⟨_, _, X.returnOut hx hret hd hr, hrun, hended, _, _, rfl, hQ, own_wmono hW hC hS'⟩
theorem own_getR {Z : State} {a0 : Array Value} {h : Heap} (X : Stand p l e R s m args below meth c T locs cells slots) (hx : p.tables.exec = Jvm.exec) (hZ : Z.Warmed39 s.vm) {own O n d : String} {index : Nat} (hown : s.vm.findClass own = some m.cls) (w : (Jvm.Cond.fieldRef own index O n d).before a0 Z = true)
  (eT : T.heap = h) {a : Addr} {v : Value} (F : Fld Z h a O n d v) {g : JFrame} (hg : g.method = m) {rest : List Value} (hs : g.stack = .ref a :: rest) (hd : decode c.code g.pc = .ok (.getfield index, 3)) :
  ∀ target, Steps p.tables e below (T.setTop { g with pc := g.pc + 3, stack := v :: rest }) target → Steps p.tables e below (T.setTop g) target := by
 obtain ⟨cell, cf, k, i, f, h1, h2, h3, h4, -, -, h7⟩ := F
 have hU : Z.Warmed39 T.vm := wtrans hZ X.warmed
 have w0 : (Jvm.Cond.fieldRef own index O n d).before a0 (Z.setVm T.vm) = true := Cond.fieldRef_warmed39 hU w
 have w' : (Jvm.Cond.fieldRef own index O n d).before args T = true := w0
 have hc : T.vm.findClass own = some m.cls := by rw [X.warmed.alike.findClass]; exact hown
 obtain ⟨c', k', i', f', q1, q2⟩ := Cond.fieldRef_spec hc w'
 obtain ⟨k2, hi, -⟩ := State.fieldFound?_setVm (s := Z) hU.alike h2
 have hi' : T.fieldFound? O n d = some (cf, k2, i, f) := hi
 cases q1.symm.trans hi'
 intro target ht
 exact (X.getfieldR hx hg q2 h3 hs (by rw [eT]; exact h1) h4 h7 hd (Steps.refl _)).trans ht
end Own
abbrev own_hw (a0 : Array Value) (Z : State) : Prop := ∀ d ∈ tables_1, d.before a0 Z = true
def own_q (p : Program) (c : Code) (b : ByteArray) : Prop := p.tables.exec = Jvm.exec ∧ c.code = b
abbrev own_D (b : ByteArray) (pc : Nat) (i : Instr) (n pc' : Nat) : Prop := decode b pc = .ok (i, n) ∧ pc + n = pc'
def own_dk (b : ByteArray) (pc : Nat) : Option (Int32 × Nat) := match decode b pc with
 | .ok (.iconst i, 1) => some (Int32.ofInt i, pc + 1)
 | .ok (.bipush i, 2) => some ((Int8.ofInt i).toInt32, pc + 2)
 | .ok (.sipush i, 3) => some ((Int16.ofInt i).toInt32, pc + 3)
 | _ => none
abbrev own_DK (b : ByteArray) (pc : Nat) (z : Int32) (pc' : Nat) : Prop := own_dk b pc = some (z, pc')
theorem own_dkE {b : ByteArray} {pc pc' : Nat} {z : Int32} (d : own_DK b pc z pc') : (∃ i, decode b pc = .ok (.iconst i, 1) ∧ Int32.ofInt i = z ∧ pc + 1 = pc') ∨ (∃ i, decode b pc = .ok (.bipush i, 2) ∧ (Int8.ofInt i).toInt32 = z ∧ pc + 2 = pc') ∨ (∃ i, decode b pc = .ok (.sipush i, 3) ∧ (Int16.ofInt i).toInt32 = z ∧ pc + 3 = pc') := by
 unfold own_DK own_dk at d
 split at d
 ·rename_i i hd; cases d; exact Or.inl ⟨_, hd, rfl, rfl⟩
 ·rename_i i hd; cases d; exact Or.inr (Or.inl ⟨_, hd, rfl, rfl⟩)
 ·rename_i i hd; cases d; exact Or.inr (Or.inr ⟨_, hd, rfl, rfl⟩)
 ·cases d
def own_di (b : ByteArray) (pc : Nat) : Option (Nat × Int32 × Nat) := match decode b pc with
 | .ok (.iinc k i, 3) => some (k, Int32.ofInt i, pc + 3)
 | _ => none
abbrev own_DI (b : ByteArray) (pc k : Nat) (z : Int32) (pc' : Nat) : Prop := own_di b pc = some (k, z, pc')
theorem own_diE {b : ByteArray} {pc k pc' : Nat} {z : Int32} (d : own_DI b pc k z pc') : ∃ i, decode b pc = .ok (.iinc k i, 3) ∧ Int32.ofInt i = z ∧ pc + 3 = pc' := by
 unfold own_DI own_di at d
 split at d
 ·rename_i k i hd; cases d; exact ⟨_, hd, rfl, rfl⟩
 ·cases d
def own_dg (b : ByteArray) (pc : Nat) : Option Nat := match decode b pc with
 | .ok (.goto o, 3) => if 0 ≤ (pc : Int) + o then some ((pc : Int) + o).toNat else none
 | _ => none
abbrev own_DG (b : ByteArray) (pc t : Nat) : Prop := own_dg b pc = some t
theorem own_dgE {b : ByteArray} {pc t : Nat} (d : own_DG b pc t) : ∃ o, decode b pc = .ok (.goto o, 3) ∧ 0 ≤ (pc : Int) + o ∧ ((pc : Int) + o).toNat = t := by
 unfold own_DG own_dg at d
 split at d
 ·rename_i o hd
  split at d
  ·rename_i h; cases d; exact ⟨_, hd, h, rfl⟩
  ·cases d
 ·cases d
def own_dj (b : ByteArray) (pc : Nat) : Option (ClassFile.Cond × Nat × Nat) := match decode b pc with
 | .ok (.if_icmp cd o, 3) => if 0 ≤ (pc : Int) + o then some (cd, ((pc : Int) + o).toNat, pc + 3) else none
 | _ => none
abbrev own_DJ (b : ByteArray) (pc : Nat) (cd : ClassFile.Cond) (t n : Nat) : Prop := own_dj b pc = some (cd, t, n)
theorem own_djE {b : ByteArray} {pc t n : Nat} {cd : ClassFile.Cond} (d : own_DJ b pc cd t n) : ∃ o, decode b pc = .ok (.if_icmp cd o, 3) ∧ 0 ≤ (pc : Int) + o ∧ ((pc : Int) + o).toNat = t ∧ pc + 3 = n := by
 unfold own_DJ own_dj at d
 split at d
 ·rename_i cd o hd
  split at d
  ·rename_i h; cases d; exact ⟨_, hd, h, rfl, rfl⟩
  ·cases d
 ·cases d
def own_dz (b : ByteArray) (pc : Nat) : Option (ClassFile.Cond × Nat × Nat) := match decode b pc with
 | .ok (.ifCond cd o, 3) => if 0 ≤ (pc : Int) + o then some (cd, ((pc : Int) + o).toNat, pc + 3) else none
 | _ => none
abbrev own_DZ (b : ByteArray) (pc : Nat) (cd : ClassFile.Cond) (t n : Nat) : Prop := own_dz b pc = some (cd, t, n)
theorem own_dzE {b : ByteArray} {pc t n : Nat} {cd : ClassFile.Cond} (d : own_DZ b pc cd t n) : ∃ o, decode b pc = .ok (.ifCond cd o, 3) ∧ 0 ≤ (pc : Int) + o ∧ ((pc : Int) + o).toNat = t ∧ pc + 3 = n := by
 unfold own_DZ own_dz at d
 split at d
 ·rename_i cd o hd
  split at d
  ·rename_i h; cases d; exact ⟨_, hd, h, rfl, rfl⟩
  ·cases d
 ·cases d
section OwnC
variable {p : Program} {l : Launch} {e : Env} {R : Room} {s : State} {m : MethodId} {args : Array Value} {below : List Frame} {meth : Method} {c : Code} {T T' : State} {locs : List Loc} {cells slots : Nat} {b : ByteArray} {P : Outcome → State → Prop} {Ls l' : Array Slot} {S S' : List Value} {pc pc' t n : Nat}
theorem own_q.d {i : Instr} (q : own_q p c b) (d : own_D b pc i n pc') : decode c.code pc = .ok (i, n) := hb q.2 d.1
theorem own_w {Z : State} {a0 : Array Value} (hw : ∀ d ∈ tables_1, d.before a0 Z = true) (i : Nat) {d : Jvm.Cond} (h : tables_1[i]? = some d) : d.before a0 Z = true := hw d (List.mem_of_getElem? h)
theorem own_let (h : let g := mkF m pc Ls S; own_Fin p e below P (T.setTop g)) : own_Fin p e below P (T.setTop (mkF m pc Ls S)) := h
theorem own_stp (k : Nat) (st : ∀ t, Steps p.tables e below (T'.setTop (mkF m k Ls S')) t → Steps p.tables e below (T.setTop (mkF m pc Ls S)) t) (K : own_Fin p e below P (T'.setTop (mkF m k Ls S'))) : own_Fin p e below P (T.setTop (mkF m pc Ls S)) := own_go K st
theorem own_stq (k : Nat) (S' : List Value) (st : ∀ t, Steps p.tables e below (T'.setTop (mkF m k Ls S')) t → Steps p.tables e below (T.setTop (mkF m pc Ls S)) t) (K : own_Fin p e below P (T'.setTop (mkF m k Ls S'))) : own_Fin p e below P (T.setTop (mkF m pc Ls S)) := own_go K st
section OwnC2
theorem own_il {k : Nat} {v : Int32} (X : Stand p l e R s m args below meth c T locs cells slots) (q : own_q p c b) (d : own_D b pc (.iload k) 2 pc') (h : Ls[k]? = some (.val (.int v))) (K : own_Fin p e below P (T.setTop (mkF m pc' Ls (.int v :: S)))) : own_Fin p e below P (T.setTop (mkF m pc Ls S)) := by
 obtain ⟨hd, rfl⟩ := d
 exact own_go K fun t k => XS.iload X.here q.1 rfl (hb q.2 hd) h k
theorem own_iln {k : Fin 4} {v : Int32} (X : Stand p l e R s m args below meth c T locs cells slots) (q : own_q p c b) (d : own_D b pc (.iload_n k) 1 pc') (h : Ls[k.val]? = some (.val (.int v))) (K : own_Fin p e below P (T.setTop (mkF m pc' Ls (.int v :: S)))) : own_Fin p e below P (T.setTop (mkF m pc Ls S)) := by
 obtain ⟨hd, rfl⟩ := d
 exact own_go K fun t k => XS.iloadN X.here q.1 rfl (hb q.2 hd) h k
theorem own_ll {k : Nat} {v : Int64} (X : Stand p l e R s m args below meth c T locs cells slots) (q : own_q p c b) (d : own_D b pc (.lload k) 2 pc') (h : Ls[k]? = some (.val (.long v))) (K : own_Fin p e below P (T.setTop (mkF m pc' Ls (.long v :: S)))) : own_Fin p e below P (T.setTop (mkF m pc Ls S)) := by
 obtain ⟨hd, rfl⟩ := d
 exact own_go K fun t k => XS.lload X.here q.1 rfl (hb q.2 hd) h k
theorem own_lln {k : Fin 4} {v : Int64} (X : Stand p l e R s m args below meth c T locs cells slots) (q : own_q p c b) (d : own_D b pc (.lload_n k) 1 pc') (h : Ls[k.val]? = some (.val (.long v))) (K : own_Fin p e below P (T.setTop (mkF m pc' Ls (.long v :: S)))) : own_Fin p e below P (T.setTop (mkF m pc Ls S)) := by
 obtain ⟨hd, rfl⟩ := d
 exact own_go K fun t k => XS.lloadN X.here q.1 rfl (hb q.2 hd) h k
theorem own_al {k : Nat} {v : Value} (X : Stand p l e R s m args below meth c T locs cells slots) (q : own_q p c b) (d : own_D b pc (.aload k) 2 pc') (h : Ls[k]? = some (.val v)) (hv : v.isRef = true) (K : own_Fin p e below P (T.setTop (mkF m pc' Ls (v :: S)))) : own_Fin p e below P (T.setTop (mkF m pc Ls S)) := by
 obtain ⟨hd, rfl⟩ := d
 exact own_go K fun t k => XS.aload X.here q.1 rfl (hb q.2 hd) h hv k
theorem own_aln {k : Fin 4} {v : Value} (X : Stand p l e R s m args below meth c T locs cells slots) (q : own_q p c b) (d : own_D b pc (.aload_n k) 1 pc') (h : Ls[k.val]? = some (.val v)) (hv : v.isRef = true) (K : own_Fin p e below P (T.setTop (mkF m pc' Ls (v :: S)))) : own_Fin p e below P (T.setTop (mkF m pc Ls S)) := by
 obtain ⟨hd, rfl⟩ := d
 exact own_go K fun t k => XS.aloadN X.here q.1 rfl (hb q.2 hd) h hv k
theorem own_is {k : Nat} {v : Int32} (X : Stand p l e R s m args below meth c T locs cells slots) (q : own_q p c b) (d : own_D b pc (.istore k) 2 pc') (h : storeLocals Ls k (.int v) = some l') (K : own_Fin p e below P (T.setTop (mkF m pc' l' S))) : own_Fin p e below P (T.setTop (mkF m pc Ls (.int v :: S))) := by
 obtain ⟨hd, rfl⟩ := d
 exact own_go K fun t k => XS.istore X.here q.1 rfl (hb q.2 hd) rfl h k
theorem own_isn {k : Fin 4} {v : Int32} (X : Stand p l e R s m args below meth c T locs cells slots) (q : own_q p c b) (d : own_D b pc (.istore_n k) 1 pc') (h : storeLocals Ls k.val (.int v) = some l') (K : own_Fin p e below P (T.setTop (mkF m pc' l' S))) : own_Fin p e below P (T.setTop (mkF m pc Ls (.int v :: S))) := by
 obtain ⟨hd, rfl⟩ := d
 exact own_go K fun t k => XS.istoreN X.here q.1 rfl (hb q.2 hd) rfl h k
theorem own_ls {k : Nat} {v : Int64} (X : Stand p l e R s m args below meth c T locs cells slots) (q : own_q p c b) (d : own_D b pc (.lstore k) 2 pc') (h : storeLocals Ls k (.long v) = some l') (K : own_Fin p e below P (T.setTop (mkF m pc' l' S))) : own_Fin p e below P (T.setTop (mkF m pc Ls (.long v :: S))) := by
 obtain ⟨hd, rfl⟩ := d
 exact own_go K fun t k => XS.lstore X.here q.1 rfl (hb q.2 hd) rfl h k
theorem own_as {k : Nat} {v : Value} (X : Stand p l e R s m args below meth c T locs cells slots) (q : own_q p c b) (d : own_D b pc (.astore k) 2 pc') (hv : v.isRef = true) (h : storeLocals Ls k v = some l') (K : own_Fin p e below P (T.setTop (mkF m pc' l' S))) : own_Fin p e below P (T.setTop (mkF m pc Ls (v :: S))) := by
 obtain ⟨hd, rfl⟩ := d
 exact own_go K fun t k => XS.astore X.here q.1 rfl (hb q.2 hd) rfl hv h k
theorem own_asn {k : Fin 4} {v : Value} (X : Stand p l e R s m args below meth c T locs cells slots) (q : own_q p c b) (d : own_D b pc (.astore_n k) 1 pc') (hv : v.isRef = true) (h : storeLocals Ls k.val v = some l') (K : own_Fin p e below P (T.setTop (mkF m pc' l' S))) : own_Fin p e below P (T.setTop (mkF m pc Ls (v :: S))) := by
 obtain ⟨hd, rfl⟩ := d
 exact own_go K fun t k => XS.astoreN X.here q.1 rfl (hb q.2 hd) rfl hv h k
theorem own_k {z : Int32} (X : Stand p l e R s m args below meth c T locs cells slots) (q : own_q p c b) (d : own_DK b pc z pc') (K : own_Fin p e below P (T.setTop (mkF m pc' Ls (.int z :: S)))) : own_Fin p e below P (T.setTop (mkF m pc Ls S)) := by
 rcases own_dkE d with ⟨i, hd, rfl, rfl⟩ | ⟨i, hd, rfl, rfl⟩ | ⟨i, hd, rfl, rfl⟩
 ·exact own_go K fun t k => XS.iconst X.here q.1 rfl (hb q.2 hd) k
 ·exact own_go K fun t k => XS.bipush X.here q.1 rfl (hb q.2 hd) k
 ·exact own_go K fun t k => XS.sipush X.here q.1 rfl (hb q.2 hd) k
theorem own_nl (X : Stand p l e R s m args below meth c T locs cells slots) (q : own_q p c b) (d : own_D b pc .aconst_null 1 pc') (K : own_Fin p e below P (T.setTop (mkF m pc' Ls (.null :: S)))) : own_Fin p e below P (T.setTop (mkF m pc Ls S)) := by
 obtain ⟨hd, rfl⟩ := d
 exact own_go K fun t k => XS.aconstNull X.here q.1 rfl (hb q.2 hd) k
theorem own_ii {k : Nat} {x z : Int32} (X : Stand p l e R s m args below meth c T locs cells slots) (q : own_q p c b) (d : own_DI b pc k z pc') (h : Ls[k]? = some (.val (.int x))) (h' : storeLocals Ls k (.int (x + z)) = some l') (K : own_Fin p e below P (T.setTop (mkF m pc' l' S))) : own_Fin p e below P (T.setTop (mkF m pc Ls S)) := by
 obtain ⟨i, hd, rfl, rfl⟩ := own_diE d
 exact own_go K fun t k => XS.iinc X.here q.1 rfl (hb q.2 hd) h h' k
theorem own_iik {k : Nat} {x y z : Int32} (X : Stand p l e R s m args below meth c T locs cells slots) (q : own_q p c b) (d : own_DI b pc k z pc') (h : Ls[k]? = some (.val (.int x))) (hy : x + z = y) (h' : storeLocals Ls k (.int y) = some l') (K : own_Fin p e below P (T.setTop (mkF m pc' l' S))) : own_Fin p e below P (T.setTop (mkF m pc Ls S)) := by
 subst hy; exact own_ii X q d h h' K
theorem own_dp {v : Value} (X : Stand p l e R s m args below meth c T locs cells slots) (q : own_q p c b) (d : own_D b pc .dup 1 pc') (hc : v.category = 1) (K : own_Fin p e below P (T.setTop (mkF m pc' Ls (v :: v :: S)))) : own_Fin p e below P (T.setTop (mkF m pc Ls (v :: S))) := by
 obtain ⟨hd, rfl⟩ := d
 exact own_go K fun t k => XS.dup X.here q.1 rfl (hb q.2 hd) rfl hc k
theorem own_isub {x y : Int32} (X : Stand p l e R s m args below meth c T locs cells slots) (q : own_q p c b) (d : own_D b pc .isub 1 pc') (K : own_Fin p e below P (T.setTop (mkF m pc' Ls (.int (x - y) :: S)))) : own_Fin p e below P (T.setTop (mkF m pc Ls (.int y :: .int x :: S))) := by
 obtain ⟨hd, rfl⟩ := d
 exact own_go K fun t k => XS.isub X.here q.1 rfl (hb q.2 hd) rfl k
theorem own_isubk (z : Int32) {x y : Int32} (X : Stand p l e R s m args below meth c T locs cells slots) (q : own_q p c b) (d : own_D b pc .isub 1 pc') (h : x - y = z) (K : own_Fin p e below P (T.setTop (mkF m pc' Ls (.int z :: S)))) : own_Fin p e below P (T.setTop (mkF m pc Ls (.int y :: .int x :: S))) := own_isub X q d (h.symm ▸ K)
theorem own_gt (X : Stand p l e R s m args below meth c T locs cells slots) (q : own_q p c b) (d : own_DG b pc t) (K : own_Fin p e below P (T.setTop (mkF m t Ls S))) : own_Fin p e below P (T.setTop (mkF m pc Ls S)) := by
 obtain ⟨o, hd, h1, h2⟩ := own_dgE d
 exact own_go K fun t k => XS.goto X.here q.1 rfl rfl (hb q.2 hd) h1 h2 k
theorem own_cy {cd : ClassFile.Cond} {x y : Int32} (X : Stand p l e R s m args below meth c T locs cells slots) (q : own_q p c b) (d : own_DJ b pc cd t n) (h : if_icmp.holds cd x y = true) (K : own_Fin p e below P (T.setTop (mkF m t Ls S))) : own_Fin p e below P (T.setTop (mkF m pc Ls (.int y :: .int x :: S))) := by
 obtain ⟨o, hd, h1, h2, -⟩ := own_djE d
 exact own_go K fun t k => XS.icmpYes X.here q.1 rfl rfl (hb q.2 hd) rfl h h1 h2 k
theorem own_cn {cd : ClassFile.Cond} {x y : Int32} (X : Stand p l e R s m args below meth c T locs cells slots) (q : own_q p c b) (d : own_DJ b pc cd t n) (h : if_icmp.holds cd x y = false) (K : own_Fin p e below P (T.setTop (mkF m n Ls S))) : own_Fin p e below P (T.setTop (mkF m pc Ls (.int y :: .int x :: S))) := by
 obtain ⟨o, hd, -, -, rfl⟩ := own_djE d
 exact own_go K fun t k => XS.icmpNo X.here q.1 rfl (hb q.2 hd) rfl h k
theorem own_zy {cd : ClassFile.Cond} {x : Int32} (X : Stand p l e R s m args below meth c T locs cells slots) (q : own_q p c b) (d : own_DZ b pc cd t n) (h : ifCond.holds cd x = true) (K : own_Fin p e below P (T.setTop (mkF m t Ls S))) : own_Fin p e below P (T.setTop (mkF m pc Ls (.int x :: S))) := by
 obtain ⟨o, hd, h1, h2, -⟩ := own_dzE d
 exact own_go K fun t k => XS.ifYes X.here q.1 rfl rfl (hb q.2 hd) rfl h h1 h2 k
theorem own_zn {cd : ClassFile.Cond} {x : Int32} (X : Stand p l e R s m args below meth c T locs cells slots) (q : own_q p c b) (d : own_DZ b pc cd t n) (h : ifCond.holds cd x = false) (K : own_Fin p e below P (T.setTop (mkF m n Ls S))) : own_Fin p e below P (T.setTop (mkF m pc Ls (.int x :: S))) := by
 obtain ⟨o, hd, -, -, rfl⟩ := own_dzE d
 exact own_go K fun t k => XS.ifNo X.here q.1 rfl (hb q.2 hd) rfl h k
end OwnC2
end OwnC
abbrev own_M (l : Launch) (Z : State) (ws : List Jvm.Cond) (y : MethodName) (b : ByteArray) (ml : Nat) (rt : Option FieldType) (R : Room) (A : Array Value) (h0 : Heap) (Q : Option Value → Heap → List Loc → Prop) : Prop := MetFree l y (head1 (Jvm.Cond.code y b ml rt :: ws) R) (fun a U => a = A ∧ Z.Warmed39 U.vm ∧ U.heap = h0) (fun _ _ _ _ _ => True) (fun _ U o U' => ∃ v L, o = .returned v ∧ Q v U'.heap L ∧ FrameEnd U o U' L R.cells R.slots)
theorem own_start {l : Launch} {Z : State} {ws : List Jvm.Cond} {y : MethodName} {b : ByteArray} {ml : Nat} {rt : Option FieldType} {R : Room} {A : Array Value} {h0 : Heap} {Q : Option Value → Heap → List Loc → Prop} {a0 : Array Value} {n0 : Nat} (hw : own_hw a0 Z) (own : String) {L : Array Slot} (pn : plainFor y = true)
  (H : ∀ {p : Program} {e : Env} {s : State} {m : MethodId} {below : List Frame} {meth : Method} {c : Code} {s₁ : State}, own_q p c b → p.tables.exec = Jvm.exec → (∀ (i : Nat) {d : Jvm.Cond}, tables_1[i]? = some d → d.before a0 Z = true) → c.maxLocals = ml → Z.Warmed39 s.vm → s.vm.findClass own = some m.cls → meth.name = y.name → meth.locks = false → meth.sig.returnType = rt → Stand p l e R s m A below meth c s₁ [] 0 0 → s₁.heap = h0 → Fr n0 [] → own_Fin p e below (own_P Q s R.cells R.slots) (s₁.setTop (mkF m 0 L [])))
  (ho : y.cls = own := by rfl) (hE : ∀ m, entryFrame m A ml = mkF m 0 L [] := by intro m; first | (simp [entryFrame, mkF, argsToLocals, Value.category]; done) | rfl) : own_M l Z ws y b ml rt R A h0 Q := by
 refine MetFree.of_bodySF pn hisR ?_
 intro p e s m args below meth c s₁ Bd hml0 hP hK
 obtain ⟨rfl, hZ, hh⟩ := hP
 have X0 : Stand p l e R s m args below meth c s₁ [] 0 0 := Stand.of_body Bd
 have e0 : s₁.heap = h0 := by rw [← hh, Bd.state]; rfl
 show own_Fin p e below (own_P Q s R.cells R.slots) (s₁.setTop (entryFrame m args ml))
 rw [hE m]
 exact H ⟨Bd.exec, Bd.bytes⟩ Bd.exec (own_w hw) hml0 hZ (ho ▸ findClass_of_methodNamed Bd.named) (name_of_methodNamed Bd.named Bd.method).1 (BodyLoose.notSynchronized Bd) Bd.returns X0 e0 (Fr.nil n0)
section OwnE
variable {p : Program} {l : Launch} {e : Env} {R : Room} {s : State} {m : MethodId} {args : Array Value} {below : List Frame} {meth : Method} {c : Code} {T : State} {locs : List Loc} {cells slots C S' : Nat} {b : ByteArray} {Ls : Array Slot} {S : List Value} {pc pc' : Nat} {t : FieldType} {Q : Option Value → Heap → List Loc → Prop}
theorem own_rA {a : Addr} (X : Stand p l e R s m args below meth c T locs cells slots) (q : own_q p c b) (hr : meth.sig.returnType = some t) (d : own_D b pc .areturn 1 pc') (hlk : meth.locks = false) (hc : cells ≤ C ∧ slots ≤ S') (hQ : Q (some (.ref a)) T.heap locs) (hn : narrow t (.ref a) = .ref a := by rfl) (ht : t.isReference = true := by rfl) : own_Fin p e below (own_P Q s C S') (T.setTop (mkF m pc Ls (.ref a :: S))) :=
 own_retO X q.1 hr hn (Or.inr (Or.inr (Or.inr (Or.inr ⟨rfl, ht, rfl⟩)))) (q.d d) hlk hQ hc.1 hc.2
theorem own_rI {z : Int32} (X : Stand p l e R s m args below meth c T locs cells slots) (q : own_q p c b) (hr : meth.sig.returnType = some .int) (d : own_D b pc .ireturn 1 pc') (hlk : meth.locks = false) (hc : cells ≤ C ∧ slots ≤ S') (hQ : Q (some (.int z)) T.heap locs) : own_Fin p e below (own_P Q s C S') (T.setTop (mkF m pc Ls (.int z :: S))) :=
 own_retO X q.1 hr rfl (Or.inl ⟨rfl, Or.inl rfl, _, rfl⟩) (q.d d) hlk hQ hc.1 hc.2
theorem own_rN {z : Int32} (X : Stand p l e R s m args below meth c T locs cells slots) (q : own_q p c b) (hr : meth.sig.returnType = some t) (ht : t = .boolean ∨ t = .byte ∨ t = .char ∨ t = .short) (d : own_D b pc .ireturn 1 pc') (hlk : meth.locks = false) (hc : cells ≤ C ∧ slots ≤ S') (hQ : Q (some (.int (nar t z))) T.heap locs) : own_Fin p e below (own_P Q s C S') (T.setTop (mkF m pc Ls (.int z :: S))) :=
 own_retN X q.1 hr ht (q.d d) hlk hQ hc.1 hc.2
theorem own_rV (X : Stand p l e R s m args below meth c T locs cells slots) (q : own_q p c b) (hr : meth.sig.returnType = none) (d : own_D b pc .return_ 1 pc') (hlk : meth.locks = false) (hc : cells ≤ C ∧ slots ≤ S') (hQ : Q none T.heap locs) : own_Fin p e below (own_P Q s C S') (T.setTop (mkF m pc Ls [])) :=
 own_retV X q.1 hr (q.d d) hlk hQ hc.1 hc.2
end OwnE
section OwnD
variable {p : Program} {l : Launch} {e : Env} {R : Room} {s : State} {m : MethodId} {args : Array Value} {below : List Frame} {meth : Method} {c : Code} {T : State} {locs : List Loc} {cells slots : Nat} {b : ByteArray} {P : Outcome → State → Prop} {Ls : Array Slot} {S : List Value} {pc pc' : Nat} {Z : State} {a0 : Array Value} {h : Heap}
theorem own_nv {v : Value} (K : own_Fin p e below P (T.setTop (mkF m pc Ls (v :: S)))) : own_Fin p e below P (T.setTop (mkF m pc Ls ((some v).toList ++ S))) := K
theorem own_nn (K : own_Fin p e below P (T.setTop (mkF m pc Ls S))) : own_Fin p e below P (T.setTop (mkF m pc Ls ((none : Option Value).toList ++ S))) := K
theorem own_cS {own : String} {index : Nat} {y : MethodName} {bytes : ByteArray} {maxL : Nat} {ret : Option FieldType} {rm : Room} {as' : Array Value} {Q : Option Value → Heap → List Loc → Prop} {ps : List FieldType} {r : Option FieldType}
  (X : Stand p l e R s m args below meth c T locs cells slots) (q : own_q p c b) (hZ : Z.Warmed39 s.vm) (eT : T.heap = h) (hown : s.vm.findClass own = some m.cls) {ml : Nat} (hml : c.maxLocals = ml) (w1 : (Jvm.Cond.methodLink own index y).before a0 Z = true) (w2 : (Jvm.Cond.static y).before a0 Z = true) (w3 : (Jvm.Cond.initialized y.cls).before a0 Z = true) (w4 : (Jvm.Cond.code y bytes maxL ret).before a0 Z = true)
  (hM : own_M l Z [] y bytes maxL ret rm as' h Q) (d : own_D b pc (.invokestatic index) 3 pc') (argsL rest : List Value) (pd : parseMethodDescriptor y.desc = some ⟨ps, r⟩) (hl : argsL.length = ps.length) (ha : argsL.toArray = as') (W : Nat) (hW : (rest.map fun v => v.category).sum ≤ W)
  (dec : (y.cls ≠ "java/lang/invoke/MethodHandle" ∧ y.cls ≠ "java/lang/invoke/VarHandle") ∧ rm.frames + 1 ≤ R.frames ∧ W + (maxL + 11) + rm.locals ≤ R.locals ∧ cells + rm.cells ≤ R.cells ∧ slots + rm.slots ≤ R.slots)
  (K : ∀ (v : Option Value) (T' : State) (L : List Loc), Stand p l e R s m args below meth c T' (locs ++ L) (cells + rm.cells) (slots + rm.slots) → Q v T'.heap L → own_Fin p e below P (T'.setTop (mkF m pc' Ls (v.toList ++ rest)))) (hs : Ls.size = ml := by rfl) :
  own_Fin p e below P (T.setTop (mkF m pc Ls (argsL.reverse ++ rest))) := by
 obtain ⟨hd, rfl⟩ := d
 obtain ⟨v, _, ⟨T', L', k', n'⟩, -, X', ⟨L, hQ, l1, l2, l3⟩, st⟩ := Jvm.LawKit.callS X q.1 (y := y) hown (mvT hZ w1) (mvT hZ w2) (mvT hZ w3) (mvT hZ w4) dec.1 (backOf (W := W) hM hZ w4 w3 dec.2.1 dec.2.2.1) (g := mkF m pc Ls (argsL.reverse ++ rest)) rfl (hs.trans hml.symm) (argsL := argsL) (rest := rest) (lenOf pd hl) rfl (by show 2 * 0 + _ ≤ _; omega) (hb q.2 hd) (fun _ _ => ⟨ha, eT, dec.2.2.2.1, dec.2.2.2.2⟩)
 dsimp only [Pt.U, Pt.locs, Pt.cells, Pt.slots] at X' l1 l2 l3 st hQ
 rw [l1, l2, l3] at X'
 exact own_go (K v T' L X' hQ) st
theorem own_cI {own : String} {index : Nat} {y : MethodName} {bytes : ByteArray} {maxL : Nat} {rm : Room} {as' : Array Value} {Q : Option Value → Heap → List Loc → Prop} {ps : List FieldType} {r : Option FieldType} {a : Addr}
  (X : Stand p l e R s m args below meth c T locs cells slots) (q : own_q p c b) (hZ : Z.Warmed39 s.vm) (eT : T.heap = h) (hown : s.vm.findClass own = some m.cls) {ml : Nat} (hml : c.maxLocals = ml) (w1 : (Jvm.Cond.methodLink own index y).before a0 Z = true) (w2 : (Jvm.Cond.instanceMethod y).before a0 Z = true) (w3 : (Jvm.Cond.initialized y.cls).before a0 Z = true) (w4 : (Jvm.Cond.code y bytes maxL none).before a0 Z = true)
  (hM : own_M l Z [] y bytes maxL none rm as' h Q) (d : own_D b pc (.invokespecial index) 3 pc') (argsL rest : List Value) (pd : parseMethodDescriptor y.desc = some ⟨ps, r⟩) (hl : argsL.length = ps.length) (ha : (Value.ref a :: argsL).toArray = as') (W : Nat) (hW : (rest.map fun v => v.category).sum ≤ W) (hy1 : y.name = "<init>")
  (dec : (y.cls ≠ "java/lang/invoke/MethodHandle" ∧ y.cls ≠ "java/lang/invoke/VarHandle") ∧ rm.frames + 1 ≤ R.frames ∧ W + (maxL + 11) + rm.locals ≤ R.locals ∧ cells + rm.cells ≤ R.cells ∧ slots + rm.slots ≤ R.slots)
  (K : ∀ (v : Option Value) (T' : State) (L : List Loc), Stand p l e R s m args below meth c T' (locs ++ L) (cells + rm.cells) (slots + rm.slots) → Q v T'.heap L → own_Fin p e below P (T'.setTop (mkF m pc' Ls (v.toList ++ rest)))) (hs : Ls.size = ml := by rfl) :
  own_Fin p e below P (T.setTop (mkF m pc Ls (argsL.reverse ++ .ref a :: rest))) := by
 obtain ⟨hd, rfl⟩ := d
 obtain ⟨v, _, ⟨T', L', k', n'⟩, -, X', ⟨L, hQ, l1, l2, l3⟩, st⟩ := X.specialBack q.1 (y := y) hy1 hown (mvT hZ w1) (mvT hZ w2) (mvT hZ w4) dec.1 (backOf (W := W) hM hZ w4 w3 dec.2.1 dec.2.2.1) (g := mkF m pc Ls (argsL.reverse ++ .ref a :: rest)) rfl (hs.trans hml.symm) (Steps.refl _) (a := a) (argsL := argsL) (rest := rest) (lenOf pd hl) rfl (by show 2 * 0 + _ ≤ _; omega) (hb q.2 hd) (fun _ _ => ⟨ha, eT, dec.2.2.2.1, dec.2.2.2.2⟩)
 dsimp only [Pt.U, Pt.locs, Pt.cells, Pt.slots] at X' l1 l2 l3 st hQ
 rw [l1, l2, l3] at X'
 exact own_go (K v T' L X' hQ) fun t k => st.trans k
theorem own_cV {own C : String} {index : Nat} {y z : MethodName} {bytes : ByteArray} {maxL : Nat} {ret : Option FieldType} {rm : Room} {as' : Array Value} {Q : Option Value → Heap → List Loc → Prop} {ps : List FieldType} {r : Option FieldType} {a : Addr}
  (X : Stand p l e R s m args below meth c T locs cells slots) (q : own_q p c b) (hZ : Z.Warmed39 s.vm) (eT : T.heap = h) (hown : s.vm.findClass own = some m.cls) {ml : Nat} (hml : c.maxLocals = ml) (w1 : (Jvm.Cond.methodLink own index y).before a0 Z = true) (w2 : (Jvm.Cond.declares y).before a0 Z = true) (w5 : (Jvm.Cond.selects C y z).before a0 Z = true) (w6 : (Jvm.Cond.instanceMethod z).before a0 Z = true) (w3 : (Jvm.Cond.initialized z.cls).before a0 Z = true) (w4 : (Jvm.Cond.code z bytes maxL ret).before a0 Z = true) (hzy : z = y) (E : Exa Z h a C)
  (hM : own_M l Z [] z bytes maxL ret rm as' h Q) (d : own_D b pc (.invokevirtual index) 3 pc') (argsL rest : List Value) (pd : parseMethodDescriptor y.desc = some ⟨ps, r⟩) (hl : argsL.length = ps.length) (ha : (Value.ref a :: argsL).toArray = as') (W : Nat) (hW : (rest.map fun v => v.category).sum ≤ W)
  (dec : (y.cls ≠ "java/lang/invoke/MethodHandle" ∧ y.cls ≠ "java/lang/invoke/VarHandle") ∧ rm.frames + 1 ≤ R.frames ∧ W + (maxL + 11) + rm.locals ≤ R.locals ∧ cells + rm.cells ≤ R.cells ∧ slots + rm.slots ≤ R.slots)
  (K : ∀ (v : Option Value) (T' : State) (L : List Loc), Stand p l e R s m args below meth c T' (locs ++ L) (cells + rm.cells) (slots + rm.slots) → Q v T'.heap L → own_Fin p e below P (T'.setTop (mkF m pc' Ls (v.toList ++ rest)))) (hs : Ls.size = ml := by rfl) :
  own_Fin p e below P (T.setTop (mkF m pc Ls (argsL.reverse ++ .ref a :: rest))) := by
 obtain ⟨hd, rfl⟩ := d
 subst hzy
 obtain ⟨cq, kq, qa, qb, qc⟩ := isOf hZ eT E
 obtain ⟨v, _, ⟨T', L', k', n'⟩, -, X', ⟨L, hQ, l1, l2, l3⟩, st⟩ := X.virtualBack q.1 hown (mvT hZ w1) (mvT hZ w2) (notFace_of_selects (args := #[]) (mvT hZ w5)) (mvT hZ w5) (mvT hZ w6) dec.1 (backOf (W := W) hM hZ w4 w3 dec.2.1 dec.2.2.1) qa qc (g := mkF m pc Ls (argsL.reverse ++ .ref a :: rest)) rfl (hs.trans hml.symm) (Steps.refl _) (argsL := argsL) (rest := rest) (lenOf pd hl) rfl (by show 2 * 0 + _ ≤ _; omega) (hb q.2 hd) (fun _ _ => ⟨ha, eT, dec.2.2.2.1, dec.2.2.2.2⟩)
 dsimp only [Pt.U, Pt.locs, Pt.cells, Pt.slots] at X' l1 l2 l3 st hQ
 rw [l1, l2, l3] at X'
 exact own_go (K v T' L X' hQ) fun t k => st.trans k
theorem own_cSh {own : String} {index : Nat} {y : MethodName} {bytes : ByteArray} {maxL : Nat} {ret : Option FieldType} {rm : Room} {as' : Array Value} {Q : Option Value → Heap → List Loc → Prop} {ps : List FieldType} {r : Option FieldType}
  (X : Stand p l e R s m args below meth c T locs cells slots) (q : own_q p c b) (hZ : Z.Warmed39 s.vm) (eT : T.heap = h) (hown : s.vm.findClass own = some m.cls) {ml : Nat} (hml : c.maxLocals = ml) (w1 : (Jvm.Cond.methodLink own index y).before a0 Z = true) (w2 : (Jvm.Cond.static y).before a0 Z = true) (w3 : (Jvm.Cond.initialized y.cls).before a0 Z = true) (w4 : (Jvm.Cond.code y bytes maxL ret).before a0 Z = true)
  (hM : own_M l Z [] y bytes maxL ret rm as' h Q) (d : own_D b pc (.invokestatic index) 3 pc') (argsL rest : List Value) (pd : parseMethodDescriptor y.desc = some ⟨ps, r⟩) (hl : argsL.length = ps.length) (ha : argsL.toArray = as') (W : Nat) (hW : (rest.map fun v => v.category).sum ≤ W)
  (dec : (y.cls ≠ "java/lang/invoke/MethodHandle" ∧ y.cls ≠ "java/lang/invoke/VarHandle") ∧ rm.frames + 1 ≤ R.frames ∧ W + (maxL + 11) + rm.locals ≤ R.locals ∧ cells + rm.cells ≤ R.cells ∧ slots + rm.slots ≤ R.slots)
  (K : ∀ (v : Option Value) (T' : State) (L : List Loc) (h' : Heap), T'.heap = h' → Stand p l e R s m args below meth c T' (locs ++ L) (cells + rm.cells) (slots + rm.slots) → Q v h' L → own_Fin p e below P (T'.setTop (mkF m pc' Ls (v.toList ++ rest)))) (hs : Ls.size = ml := by rfl) :
  own_Fin p e below P (T.setTop (mkF m pc Ls (argsL.reverse ++ rest))) :=
 own_cS X q hZ eT hown hml w1 w2 w3 w4 hM d argsL rest pd hl ha W hW dec (fun v T' L X' hQ => K v T' L _ rfl X' hQ) hs
theorem own_cIh {own : String} {index : Nat} {y : MethodName} {bytes : ByteArray} {maxL : Nat} {rm : Room} {as' : Array Value} {Q : Option Value → Heap → List Loc → Prop} {ps : List FieldType} {r : Option FieldType} {a : Addr}
  (X : Stand p l e R s m args below meth c T locs cells slots) (q : own_q p c b) (hZ : Z.Warmed39 s.vm) (eT : T.heap = h) (hown : s.vm.findClass own = some m.cls) {ml : Nat} (hml : c.maxLocals = ml) (w1 : (Jvm.Cond.methodLink own index y).before a0 Z = true) (w2 : (Jvm.Cond.instanceMethod y).before a0 Z = true) (w3 : (Jvm.Cond.initialized y.cls).before a0 Z = true) (w4 : (Jvm.Cond.code y bytes maxL none).before a0 Z = true)
  (hM : own_M l Z [] y bytes maxL none rm as' h Q) (d : own_D b pc (.invokespecial index) 3 pc') (argsL rest : List Value) (pd : parseMethodDescriptor y.desc = some ⟨ps, r⟩) (hl : argsL.length = ps.length) (ha : (Value.ref a :: argsL).toArray = as') (W : Nat) (hW : (rest.map fun v => v.category).sum ≤ W) (hy1 : y.name = "<init>")
  (dec : (y.cls ≠ "java/lang/invoke/MethodHandle" ∧ y.cls ≠ "java/lang/invoke/VarHandle") ∧ rm.frames + 1 ≤ R.frames ∧ W + (maxL + 11) + rm.locals ≤ R.locals ∧ cells + rm.cells ≤ R.cells ∧ slots + rm.slots ≤ R.slots)
  (K : ∀ (v : Option Value) (T' : State) (L : List Loc) (h' : Heap), T'.heap = h' → Stand p l e R s m args below meth c T' (locs ++ L) (cells + rm.cells) (slots + rm.slots) → Q v h' L → own_Fin p e below P (T'.setTop (mkF m pc' Ls (v.toList ++ rest)))) (hs : Ls.size = ml := by rfl) :
  own_Fin p e below P (T.setTop (mkF m pc Ls (argsL.reverse ++ .ref a :: rest))) :=
 own_cI X q hZ eT hown hml w1 w2 w3 w4 hM d argsL rest pd hl ha W hW hy1 dec (fun v T' L X' hQ => K v T' L _ rfl X' hQ) hs
theorem own_bld {a : Addr} {k : ClassId} {n : Int32} {vs : List Value} {dv v : Value} {j : Int32} (X : Stand p l e R s m args below meth c T locs cells slots) (q : own_q p c b) (hZ : Z.Warmed39 s.vm) (eT : T.heap = h) (V : Arv Z h a k .byte n vs dv) (d : own_D b pc .baload 1 pc') (hj : ¬ j < 0 ∧ j < n) (hv : vs.getD j.toNatClampNeg dv = v) (K : own_Fin p e below P (T.setTop (mkF m pc' Ls (v :: S)))) : own_Fin p e below P (T.setTop (mkF m pc Ls (.int j :: .ref a :: S))) := by
 obtain ⟨cl, Ar, _, S1, _, H, _⟩ := V
 obtain ⟨hd, rfl⟩ := d
 exact own_go K fun t k => X.baloadBytes q.1 (j := j) (v := v) (by rw [eT]; exact Ar.1) (State.isArrayOf_alike hZ.alike Ar.2.1) Ar.2.2 (inb_of S1 hj) (Has.at H (inb_of S1 hj) hv) (g := mkF m pc Ls (.int j :: .ref a :: S)) rfl rfl (hb q.2 hd) _ k
theorem own_bst {a : Addr} {k : ClassId} {n : Int32} {vs : List Value} {dv : Value} {j x : Int32} {n0 : Nat} (X : Stand p l e R s m args below meth c T locs cells slots) (q : own_q p c b) (hZ : Z.Warmed39 s.vm) (eT : T.heap = h) (V : Arv Z h a k .byte n vs dv) (d : own_D b pc .bastore 1 pc') (hj : ¬ j < 0 ∧ j < n) (hi : j.toNatClampNeg < vs.length) (N : Fr n0 locs) (ga : n0 ≤ a)
  (K : ∀ (T' : State) (h' : Heap), Stand p l e R s m args below meth c T' (locs ++ [⟨a, j.toNatClampNeg⟩]) cells slots → T'.heap = h' → Wr h h' a j.toNatClampNeg (.int (nar .byte x)) → Arv Z h' a k .byte n (vs.set j.toNatClampNeg (.int (nar .byte x))) dv → Fr n0 (locs ++ [⟨a, j.toNatClampNeg⟩]) → own_Fin p e below P (T'.setTop (mkF m pc' Ls S))) : own_Fin p e below P (T.setTop (mkF m pc Ls (.int x :: .int j :: .ref a :: S))) := by
 obtain ⟨cl, Ar, q1, S1, M1, H1, G1⟩ := V
 obtain ⟨hd, rfl⟩ := d
 obtain ⟨T', h', X', e', W', st⟩ := stB X q.1 hZ eT Ar (j := j) (x := x) (inb_of S1 hj) (g := mkF m pc Ls (.int x :: .int j :: .ref a :: S)) rfl rfl (hb q.2 hd)
 exact own_go (K T' h' X' e' W' (Arv.set Ar q1 S1 M1 H1 G1 (fits_nar_byte _) W' _ rfl hi) (Fr.snoc X' N ga)) st
theorem own_cld {a : Addr} {k : ClassId} {n : Int32} {vs : List Value} {dv v : Value} {j : Int32} (X : Stand p l e R s m args below meth c T locs cells slots) (q : own_q p c b) (hZ : Z.Warmed39 s.vm) (eT : T.heap = h) (V : Arv Z h a k .char n vs dv) (d : own_D b pc .caload 1 pc') (hj : ¬ j < 0 ∧ j < n) (hv : vs.getD j.toNatClampNeg dv = v) (K : own_Fin p e below P (T.setTop (mkF m pc' Ls (v :: S)))) : own_Fin p e below P (T.setTop (mkF m pc Ls (.int j :: .ref a :: S))) := by
 obtain ⟨cl, Ar, _, S1, _, H, _⟩ := V
 obtain ⟨hd, rfl⟩ := d
 exact own_go K fun t k => X.caload q.1 (j := j) (v := v) (by rw [eT]; exact Ar.1) (State.isArrayOf_alike hZ.alike Ar.2.1) Ar.2.2 (inb_of S1 hj) (Has.at H (inb_of S1 hj) hv) (g := mkF m pc Ls (.int j :: .ref a :: S)) rfl rfl (hb q.2 hd) _ k
theorem own_cst {a : Addr} {k : ClassId} {n : Int32} {vs : List Value} {dv : Value} {j x : Int32} {n0 : Nat} (X : Stand p l e R s m args below meth c T locs cells slots) (q : own_q p c b) (hZ : Z.Warmed39 s.vm) (eT : T.heap = h) (V : Arv Z h a k .char n vs dv) (d : own_D b pc .castore 1 pc') (hj : ¬ j < 0 ∧ j < n) (hi : j.toNatClampNeg < vs.length) (N : Fr n0 locs) (ga : n0 ≤ a)
  (K : ∀ (T' : State) (h' : Heap), Stand p l e R s m args below meth c T' (locs ++ [⟨a, j.toNatClampNeg⟩]) cells slots → T'.heap = h' → Wr h h' a j.toNatClampNeg (.int (nar .char x)) → Arv Z h' a k .char n (vs.set j.toNatClampNeg (.int (nar .char x))) dv → Fr n0 (locs ++ [⟨a, j.toNatClampNeg⟩]) → own_Fin p e below P (T'.setTop (mkF m pc' Ls S))) : own_Fin p e below P (T.setTop (mkF m pc Ls (.int x :: .int j :: .ref a :: S))) := by
 obtain ⟨cl, Ar, q1, S1, M1, H1, G1⟩ := V
 obtain ⟨hd, rfl⟩ := d
 obtain ⟨T', h', X', e', W', st⟩ := stC X q.1 hZ eT Ar (j := j) (x := x) (inb_of S1 hj) (g := mkF m pc Ls (.int x :: .int j :: .ref a :: S)) rfl rfl (hb q.2 hd)
 exact own_go (K T' h' X' e' W' (Arv.set Ar q1 S1 M1 H1 G1 (fits_nar_char _) W' _ rfl hi) (Fr.snoc X' N ga)) st
theorem own_i0 {a : Addr} {L : List Addr} {Q : Prop} : a ∈ a :: L ∨ Q := Or.inl (List.mem_cons_self ..)
theorem own_ne {a a' n : Nat} (h1 : a < n) (h2 : n ≤ a') : a ≠ a' := Nat.ne_of_lt (Nat.lt_of_lt_of_le h1 h2)
theorem own_alen {a : Addr} {k : ClassId} {ty : FieldType} {n : Int32} {vs : List Value} {dv : Value} (X : Stand p l e R s m args below meth c T locs cells slots) (q : own_q p c b) (hZ : Z.Warmed39 s.vm) (eT : T.heap = h) (V : Arv Z h a k ty n vs dv) (d : own_D b pc .arraylength 1 pc') (K : own_Fin p e below P (T.setTop (mkF m pc' Ls (.int n :: S)))) : own_Fin p e below P (T.setTop (mkF m pc Ls (.ref a :: S))) := by
 obtain ⟨cl, Ar, -, S1, M1, -, -⟩ := V
 obtain ⟨hd, rfl⟩ := d
 exact own_go K fun t k => X.arraylength q.1 (by rw [eT]; exact Ar.1) (State.isArrayOf_alike hZ.alike Ar.2.1) (g := mkF m pc Ls (.ref a :: S)) rfl rfl (hb q.2 hd) _ (by rw [len_of S1 M1]; exact k)
theorem own_gF {own O n d : String} {index : Nat} {a : Addr} {v : Value} (X : Stand p l e R s m args below meth c T locs cells slots) (q : own_q p c b) (hZ : Z.Warmed39 s.vm) (eT : T.heap = h) (hown : s.vm.findClass own = some m.cls) (w : (Jvm.Cond.fieldLink own index O n d).before a0 Z = true) (F : Fld Z h a O n d v) (dd : own_D b pc (.getfield index) 3 pc') (K : ∀ T' : State, Stand p l e R s m args below meth c T' locs cells slots → T'.heap = h → own_Fin p e below P (T'.setTop (mkF m pc' Ls (v :: S)))) : own_Fin p e below P (T.setTop (mkF m pc Ls (.ref a :: S))) := by
 obtain ⟨hd, rfl⟩ := dd
 obtain ⟨T', X', e', st⟩ := getF X q.1 hZ hown (host := "") (Or.inl w) Via.refl eT F (g := mkF m pc Ls (.ref a :: S)) rfl rfl (hb q.2 hd)
 exact own_go (K T' X' e') st
theorem own_gS {own O n d : String} {index : Nat} {v : Value} (X : Stand p l e R s m args below meth c T locs cells slots) (q : own_q p c b) (hZ : Z.Warmed39 s.vm) (eT : T.heap = h) (hown : s.vm.findClass own = some m.cls) (w : (Jvm.Cond.fieldLink own index O n d).before a0 Z = true) (F : Sta Z h O n d v) (dd : own_D b pc (.getstatic index) 3 pc') (K : ∀ T' : State, Stand p l e R s m args below meth c T' locs cells slots → T'.heap = h → own_Fin p e below P (T'.setTop (mkF m pc' Ls (v :: S)))) : own_Fin p e below P (T.setTop (mkF m pc Ls S)) := by
 obtain ⟨hd, rfl⟩ := dd
 obtain ⟨T', X', e', st⟩ := getS2 X q.1 hZ hown (host := "") (Or.inl w) Via.refl eT F (g := mkF m pc Ls S) rfl (hb q.2 hd)
 exact own_go (K T' X' e') st
end OwnD
section OwnH
variable {p : Program} {l : Launch} {e : Env} {R : Room} {s : State} {m : MethodId} {args : Array Value} {below : List Frame} {meth : Method} {c : Code} {T : State} {locs : List Loc} {cells slots : Nat} {Z : State} {a0 : Array Value} {EL : List (String × Nat)} {h : Heap} {vm0 : Vm}
def own_PH (Z : State) (EL : List (String × Nat)) (Q : Option Value → Heap → List Loc → Prop) (s : State) (C S : Nat) : Outcome → State → Prop := fun o t => ∃ v L, o = .returned v ∧ Q v t.heap L ∧ CHr Z EL s.vm s.heap t.vm t.heap ∧ ReturnedEndW s o t L C S
theorem own_retNH (X : Stand p l e R (s.setVm vm0) m args below meth c T locs cells slots) {k0 : Nat} (hS : s.Since vm0 k0) (hk : k0 ≤ T.heap.size) (hR : CHr Z EL s.vm s.heap T.vm T.heap) (hx : p.tables.exec = Jvm.exec) {pc : Nat} {Ls : Array Slot} {z : Int32} {t : FieldType} {rest : List Value} (hret : meth.sig.returnType = some t) (ht : t = .boolean ∨ t = .byte ∨ t = .char ∨ t = .short)
  (hd : decode c.code pc = .ok (.ireturn, 1)) (hlk : meth.locks = false) {Q : Option Value → Heap → List Loc → Prop} {C S : Nat} (hQ : Q (some (.int (nar t z))) T.heap locs) (hC : cells ≤ C) (hS' : slots ≤ S) : own_Fin p e below (own_PH Z EL Q s C S) (T.setTop (mkF m pc Ls (.int z :: rest))) := by
 obtain ⟨fs, hr, hrun, hended, hW⟩ := X.leaveW hS hk (v := some (.int (nar t z))) (fun h => by rw [hret] at h; cases h) hlk
 exact ⟨_, _, retN X hx hret ht hd hr, hrun, hended, _, _, rfl, hQ, hR, own_wmono hW hC hS'⟩
theorem own_retOH (X : Stand p l e R (s.setVm vm0) m args below meth c T locs cells slots) {k0 : Nat} (hS : s.Since vm0 k0) (hk : k0 ≤ T.heap.size) (hR : CHr Z EL s.vm s.heap T.vm T.heap) (hx : p.tables.exec = Jvm.exec) {pc : Nat} {Ls : Array Slot} {w : Value} {t : FieldType} {i : Instr} {rest : List Value} (hret : meth.sig.returnType = some t) (hn : narrow t w = w)
  (hi : (i = .ireturn ∧ (t = .int ∨ t = .boolean ∨ t = .byte ∨ t = .char ∨ t = .short) ∧ ∃ z, w = .int z) ∨ (i = .lreturn ∧ t = .long ∧ ∃ z, w = .long z) ∨ (i = .dreturn ∧ t = .double ∧ ∃ z, w = .double z) ∨ (i = .freturn ∧ t = .float ∧ ∃ z, w = .float z) ∨ (i = .areturn ∧ t.isReference = true ∧ w.isRef = true))
  (hd : decode c.code pc = .ok (i, 1)) (hlk : meth.locks = false) {Q : Option Value → Heap → List Loc → Prop} {C S : Nat} (hQ : Q (some w) T.heap locs) (hC : cells ≤ C) (hS' : slots ≤ S) : own_Fin p e below (own_PH Z EL Q s C S) (T.setTop (mkF m pc Ls (w :: rest))) := by
 obtain ⟨fs, hr, hrun, hended, hW⟩ := X.leaveW hS hk (v := some w) (fun h => by rw [hret] at h; cases h) hlk
 exact ⟨_, _, retOut X hx hret hn hi hd hr, hrun, hended, _, _, rfl, hQ, hR, own_wmono hW hC hS'⟩
theorem own_retVH (X : Stand p l e R (s.setVm vm0) m args below meth c T locs cells slots) {k0 : Nat} (hS : s.Since vm0 k0) (hk : k0 ≤ T.heap.size) (hR : CHr Z EL s.vm s.heap T.vm T.heap) (hx : p.tables.exec = Jvm.exec) {pc : Nat} {Ls : Array Slot} (hret : meth.sig.returnType = none)
  (hd : decode c.code pc = .ok (.return_, 1)) (hlk : meth.locks = false) {Q : Option Value → Heap → List Loc → Prop} {C S : Nat} (hQ : Q none T.heap locs) (hC : cells ≤ C) (hS' : slots ≤ S) : own_Fin p e below (own_PH Z EL Q s C S) (T.setTop (mkF m pc Ls [])) := by
 obtain ⟨fs, hr, hrun, hended, hW⟩ := X.leaveW hS hk (v := none) (fun _ => rfl) hlk
 exact ⟨_, _, X.returnOut hx hret hd hr, hrun, hended, _, _, rfl, hQ, hR, own_wmono hW hC hS'⟩
theorem own_backHS {y : MethodName} {bytes : ByteArray} {maxL : Nat} {ret : Option FieldType} {rm : Room} {len W : Nat} {as' : Array Value} {Q : Option Value → Heap → List Loc → Prop} {ss : List Addr}
  (hM : MetFree l y (head1 [Jvm.Cond.code y bytes maxL ret] rm) (fun a U => a = as' ∧ Z.Warmed39 U.vm ∧ U.heap = h ∧ CHv Z EL U.vm h ∧ ∀ x ∈ ss, Safe Z EL U.vm h x) (fun _ _ _ _ _ => True) (fun _ U o U' => ∃ v L, o = .returned v ∧ Q v U'.heap L ∧ CHr Z EL U.vm U.heap U'.vm U'.heap ∧ ReturnedEndW U o U' L rm.cells rm.slots))
  (hZ : Z.Warmed39 vm0) (wc : (Jvm.Cond.code y bytes maxL ret).before a0 Z = true) (wz : (Jvm.Cond.initialized y.cls).before a0 Z = true) (hf : rm.frames + 1 ≤ R.frames) (hl : W + (maxL + 11) + rm.locals ≤ R.locals) (hEL : EW Z a0 EL) (H : CHv Z EL vm0 h) (hss : ∀ x ∈ ss, x < h.size ∧ Safe Z EL vm0 h x) :
  BackS l R p e below (s.setVm vm0) args y len W (fun A a => a = as' ∧ A.U.heap = h ∧ A.cells + rm.cells ≤ R.cells ∧ A.slots + rm.slots ≤ R.slots)
   (fun A _ v B => ∃ L, Q v B.U.heap L ∧ B.locs = A.locs ++ L ∧ B.cells = A.cells + rm.cells ∧ B.slots = A.slots + rm.slots ∧ CHr Z EL vm0 h B.U.vm B.U.heap) := by
 refine BackS.of_freeW (bytes := bytes) (maxL := maxL) (ret := ret) (E := fun _ first o t L k n => k = rm.cells ∧ n = rm.slots ∧ (∃ v, o = .returned v ∧ Q v t.heap L) ∧ CHr Z EL first.vm first.heap t.vm t.heap) hM hf hl ?_ ?_ (fun _ _ _ _ _ _ _ _ _ => trivial) ?_ ?_
 ·intro m meth c A a Y hp
  have hU : Z.Warmed39 A.U.vm := wtrans (s := s.setVm vm0) hZ Y.warmed
  refine ⟨?_, mv hU wc, mv hU wz, hp.2.2.1, hp.2.2.2⟩
  show (Jvm.Cond.and _ .tt).before a A.U = true
  rw [Cond.before_and, mv hU wc]; rfl
 ·intro m meth c A a g mk Y hp
  have r := CHv.at Y hZ hEL H
  exact ⟨hp.1, wtrans (s := s.setVm vm0) hZ Y.warmed, hp.2.1, r.1, fun x hx => r.safe (hss x hx).1 (hss x hx).2⟩
 ·intro _ _ _ _ hq
  obtain ⟨v, L, h1, h2, h3, h4⟩ := hq
  exact ⟨L, _, _, h4, rfl, rfl, ⟨v, h1, h2⟩, h3⟩
 ·intro m meth c A a g mk v t L k n Y hp _ _ hq
  obtain ⟨e1, e2, ⟨v', e3, e4⟩, e5⟩ := hq
  cases e3; subst e1 e2
  refine ⟨L, e4, rfl, rfl, rfl, (CHv.at Y hZ hEL H).trans ?_⟩
  rw [← hp.2.1]; exact e5
end OwnH
theorem own_extK {h0 h : Heap} (K : Keep h0 h []) : Ext h0 h := ⟨K.1, fun a c q => K.2.1 a c q nin0⟩
theorem own_c255 (x : Int32) : ¬ (255 : Int32) < ((x &&& (255 : Int32)).toUInt32.toUInt16.toUInt32.toInt32) := by
 rw [i2c_mask]
 have := c_and x 255 (by decide)
 rw [Int32.lt_iff_toInt_lt]
 have e : (255 : Int32).toInt = 255 := rfl
 omega
theorem own_toInt {i : Nat} (h : i ≤ 1000) : (Int32.ofNat i).toInt = i := Int32.toInt_ofNat_of_lt (by omega)
theorem own_ltN {i j : Nat} (hi : i ≤ 1000) (hj : j ≤ 1000) : Int32.ofNat i < Int32.ofNat j ↔ i < j := by
 rw [Int32.lt_iff_toInt_lt, own_toInt hi, own_toInt hj]; omega
theorem own_clamp {i : Nat} (h : i ≤ 1000) : (Int32.ofNat i).toNatClampNeg = i := by
 simp only [Int32.toNatClampNeg, own_toInt h]; rfl
theorem own_inN {i n : Nat} (h : i < n) (hn : n ≤ 1000) : ¬ Int32.ofNat i < 0 ∧ Int32.ofNat i < Int32.ofNat n := by
 have e1 : (0 : Int32) = Int32.ofNat 0 := rfl
 rw [e1, own_ltN (by omega) (by omega), own_ltN (by omega) (by omega)]
 omega
theorem own_dbl {p2 : Int32} {i n : Nat} (hp : p2 = Int32.ofNat i) (hn : n ≤ 1000) (hi : 2 * i + 1 < n) : p2 <<< ((1 : Int32) &&& 31) = Int32.ofNat (2 * i) := by
 have q := c_ishl p2 1 1 (by decide)
 have e : ((2 ^ 1 : Nat) : Int) = 2 := rfl
 have r := own_toInt (i := i) (by omega)
 rw [e, hp, r] at q
 rw [← Int32.toInt_inj, own_toInt (by omega), hp]
 have g := rng32 (Int32.ofNat i <<< ((1 : Int32) &&& 31))
 omega
theorem own_pi0 {p2 : Int32} {i n : Nat} (hp : p2 = Int32.ofNat i) (hn : n ≤ 1000) (hi : 2 * i + 1 < n) : ¬ p2 <<< ((1 : Int32) &&& 31) < 0 ∧ p2 <<< ((1 : Int32) &&& 31) < Int32.ofNat n := by
 rw [own_dbl hp hn hi]; exact own_inN (by omega) hn
theorem own_pj0 {p2 : Int32} {i n : Nat} (hp : p2 = Int32.ofNat i) (hn : n ≤ 1000) (hi : 2 * i + 1 < n) : (p2 <<< ((1 : Int32) &&& 31)).toNatClampNeg = 2 * i := by
 rw [own_dbl hp hn hi]; exact own_clamp (by omega)
theorem own_dbl1 {p2 : Int32} {i n : Nat} (hp : p2 = Int32.ofNat i) (hn : n ≤ 1000) (hi : 2 * i + 1 < n) : p2 <<< ((1 : Int32) &&& 31) + (1 : Int32) = Int32.ofNat (2 * i + 1) := by
 rw [own_dbl hp hn hi, Int32.ofNat_add]; rfl
theorem own_pi1 {p2 : Int32} {i n : Nat} (hp : p2 = Int32.ofNat i) (hn : n ≤ 1000) (hi : 2 * i + 1 < n) : ¬ p2 <<< ((1 : Int32) &&& 31) + (1 : Int32) < 0 ∧ p2 <<< ((1 : Int32) &&& 31) + (1 : Int32) < Int32.ofNat n := by
 rw [own_dbl1 hp hn hi]; exact own_inN (by omega) hn
theorem own_pj1 {p2 : Int32} {i n : Nat} (hp : p2 = Int32.ofNat i) (hn : n ≤ 1000) (hi : 2 * i + 1 < n) : (p2 <<< ((1 : Int32) &&& 31) + (1 : Int32)).toNatClampNeg = 2 * i + 1 := by
 rw [own_dbl1 hp hn hi]; exact own_clamp (by omega)
def own_c16 (x : Int32) : Prop := 0 ≤ x.toInt ∧ x.toInt ≤ 65535
theorem own_nc16 (x : Int32) : own_c16 (nar .char x) := by
 have b := c_i2c x
 have q : nar .char x = x.toUInt32.toUInt16.toUInt32.toInt32 := rfl
 unfold own_c16; rw [q]; omega
theorem own_nc {x : Int32} (h : own_c16 x) : nar .char x = x := by
 have b := c_i2c x
 have q : nar .char x = x.toUInt32.toUInt16.toUInt32.toInt32 := rfl
 unfold own_c16 at h
 rw [q, ← Int32.toInt_inj]; omega
/-- what toBytes and getChar make of a sign -/
def own_gc (x : Int32) : Int32 := nar .char ((((nar .byte ((x >>> ((0 : Int32) &&& 31)).toInt8.toInt32)) &&& (255 : Int32)) <<< ((0 : Int32) &&& 31)) ||| (((nar .byte ((x >>> ((8 : Int32) &&& 31)).toInt8.toInt32)) &&& (255 : Int32)) <<< ((8 : Int32) &&& 31))).toUInt32.toUInt16.toUInt32.toInt32
theorem own_mask8 (y : Int32) : (nar .byte (y.toInt8.toInt32) &&& (255 : Int32)).toInt = y.toInt % 256 := by
 have a := c_mask (nar .byte (y.toInt8.toInt32)) 255 8 (by decide) (by decide)
 have b := c_i2b y
 have b2 := c_i2b (y.toInt8.toInt32)
 have q : nar .byte (y.toInt8.toInt32) = (y.toInt8.toInt32).toInt8.toInt32 := rfl
 have e : ((2 ^ 8 : Nat) : Int) = 256 := rfl
 rw [e] at a
 rw [a, q]; omega
theorem own_gcE {x : Int32} (h : own_c16 x) : own_gc x = x := by
 unfold own_c16 at h
 have s0 := c_ishr x 0 0 (by decide)
 have s8 := c_ishr x 8 8 (by decide)
 have e0 : ((2 ^ 0 : Nat) : Int) = 1 := rfl
 have e8 : ((2 ^ 8 : Nat) : Int) = 256 := rfl
 rw [e0] at s0
 rw [e8] at s8
 have m0 := own_mask8 (x >>> ((0 : Int32) &&& 31))
 have m8 := own_mask8 (x >>> ((8 : Int32) &&& 31))
 have t0 := c_ishl (nar .byte ((x >>> ((0 : Int32) &&& 31)).toInt8.toInt32) &&& (255 : Int32)) 0 0 (by decide)
 have t8 := c_ishl (nar .byte ((x >>> ((8 : Int32) &&& 31)).toInt8.toInt32) &&& (255 : Int32)) 8 8 (by decide)
 rw [e0] at t0
 rw [e8] at t8
 unfold own_gc
 generalize ((nar .byte ((x >>> ((0 : Int32) &&& 31)).toInt8.toInt32)) &&& (255 : Int32)) <<< ((0 : Int32) &&& 31) = A at *
 generalize ((nar .byte ((x >>> ((8 : Int32) &&& 31)).toInt8.toInt32)) &&& (255 : Int32)) <<< ((8 : Int32) &&& 31) = B at *
 have rA := rng32 A
 have rB := rng32 B
 have o := c_or' A B 8 (by decide) 256 rfl (by omega) (by omega) (by omega)
 have rO := rng32 (A ||| B)
 have i := c_i2c (A ||| B)
 have i2 := own_nc (x := (A ||| B).toUInt32.toUInt16.toUInt32.toInt32) (by unfold own_c16; omega)
 rw [i2, ← Int32.toInt_inj]
 omega
def own_yes (M : Prop) (z : Int32) : Prop := (z = 1 ∧ M) ∨ (z = 0 ∧ ¬ M)
theorem own_bE {x k : Int32} (hx : own_c16 x) (h : ¬ (255 : Int32) < nar .char x) (hk : 0 ≤ k.toInt ∧ k.toInt ≤ 127) : nar .byte ((nar .char x).toInt8.toInt32) = k ↔ x = k := by
 rw [own_nc hx] at *
 have b := c_i2b x
 have b2 := c_i2b (x.toInt8.toInt32)
 have q : nar .byte (x.toInt8.toInt32) = (x.toInt8.toInt32).toInt8.toInt32 := rfl
 rw [Int32.lt_iff_toInt_lt] at h
 have e : (255 : Int32).toInt = 255 := rfl
 unfold own_c16 at hx
 rw [q, ← Int32.toInt_inj, ← Int32.toInt_inj]
 constructor <;> intro r <;> omega
theorem own_len8 (n : Int32) : (n &&& (7 : Int32)) = 0 ∨ (n &&& (7 : Int32)) = 1 ∨ (n &&& (7 : Int32)) = 2 ∨ (n &&& (7 : Int32)) = 3 ∨ (n &&& (7 : Int32)) = 4 ∨ (n &&& (7 : Int32)) = 5 ∨ (n &&& (7 : Int32)) = 6 ∨ (n &&& (7 : Int32)) = 7 := by
 have a := c_and n 7 (by decide)
 have e0 : (0 : Int32).toInt = 0 := rfl
 have e1 : (1 : Int32).toInt = 1 := rfl
 have e2 : (2 : Int32).toInt = 2 := rfl
 have e3 : (3 : Int32).toInt = 3 := rfl
 have e4 : (4 : Int32).toInt = 4 := rfl
 have e5 : (5 : Int32).toInt = 5 := rfl
 have e6 : (6 : Int32).toInt = 6 := rfl
 have e7 : (7 : Int32).toInt = 7 := rfl
 simp only [← Int32.toInt_inj]
 omega
abbrev own_y0 : MethodName := (⟨"java/lang/StringUTF16", "newBytesLength", "(I)I"⟩ : MethodName)
abbrev own_y1 : MethodName := (⟨"java/lang/StringUTF16", "compress", "([CI[BII)I"⟩ : MethodName)
abbrev own_y2 : MethodName := (⟨"java/lang/StringUTF16", "putChar", "([BII)V"⟩ : MethodName)
abbrev own_y3 : MethodName := (⟨"java/lang/StringUTF16", "getChar", "([BI)C"⟩ : MethodName)
abbrev own_y4 : MethodName := (⟨"java/lang/StringUTF16", "newBytesFor", "(I)[B"⟩ : MethodName)
abbrev own_y5 : MethodName := (⟨"java/lang/StringUTF16", "toBytes", "([CII)[B"⟩ : MethodName)
abbrev own_y6 : MethodName := (⟨"java/lang/StringUTF16", "compress", "([CII)[B"⟩ : MethodName)
abbrev own_y7 : MethodName := (⟨"java/lang/StringUTF16", "coderFromArrayLen", "([BI)B"⟩ : MethodName)
abbrev own_y8 : MethodName := (⟨"java/lang/String", "<init>", "([CIILjava/lang/Void;)V"⟩ : MethodName)
abbrev own_y9 : MethodName := (⟨"java/lang/String", "<init>", "([C)V"⟩ : MethodName)
abbrev own_y10 : MethodName := (⟨"com/example/ballast_ledger/ballastledger/cli/HelpIsAskedPinLaw", "template", "(II)C"⟩ : MethodName)
abbrev own_y11 : MethodName := (⟨"com/example/ballast_ledger/ballastledger/cli/HelpIsAskedPinLaw", "drawn", "(JJI)C"⟩ : MethodName)
abbrev own_y12 : MethodName := (⟨"com/example/ballast_ledger/ballastledger/cli/HelpIsAskedPinLaw", "at", "(IIJJI)C"⟩ : MethodName)
abbrev own_y13 : MethodName := (⟨"java/lang/StringLatin1", "equals", "([B[B)Z"⟩ : MethodName)
abbrev own_y14 : MethodName := (⟨"java/lang/String", "equals", "(Ljava/lang/Object;)Z"⟩ : MethodName)
abbrev own_y15 : MethodName := (⟨"com/example/ballast_ledger/ballastledger/cli/Help", "isAsked", "(Ljava/lang/String;)Z"⟩ : MethodName)
def QI (z : Int32) (h0 : Heap) (n0 : Nat) (v : Option Value) (h : Heap) (L : List Loc) : Prop := v = some (.int z) ∧ Fr n0 L ∧ h = h0
def QC1a (Z : State) (b : Addr) (k2 : ClassId) (x0 : Int32) (h0 : Heap) (n0 : Nat) (v : Option Value) (h : Heap) (L : List Loc) : Prop := ∃ z : Int32, v = some (.int z) ∧ Fr n0 L ∧ Keep h0 h [b] ∧ ((z = (1 : Int32) ∧ (¬ (255 : Int32) < x0) ∧ Arv Z h b k2 .byte (1 : Int32) [(.int (nar .byte (x0.toInt8.toInt32)))] v'0) ∨ (z = (0 : Int32) ∧ (255 : Int32) < x0))
def QPC (Z : State) (a1 : Addr) (k1 : ClassId) (p3 : Int32) (vs : List Value) (n i : Nat) (h0 : Heap) (n0 : Nat) (v : Option Value) (h : Heap) (L : List Loc) : Prop := v = none ∧ Fr n0 L ∧ Keep h0 h [a1] ∧ Arv Z h a1 k1 .byte (Int32.ofNat n) ((vs.set (2 * i) (.int (nar .byte ((p3 >>> ((0 : Int32) &&& 31)).toInt8.toInt32)))).set (2 * i + 1) (.int (nar .byte ((p3 >>> ((8 : Int32) &&& 31)).toInt8.toInt32)))) v'0
def QNB1 (Z : State) (h0 : Heap) (n0 : Nat) (v : Option Value) (h : Heap) (L : List Loc) : Prop := ∃ (b : Addr) (k : ClassId), v = some (.ref b) ∧ Fr n0 L ∧ Ext h0 h ∧ h0.size ≤ b ∧ Arv Z h b k .byte (2 : Int32) [v'0, v'0] v'0
def QTB1 (Z : State) (x0 : Int32) (h0 : Heap) (n0 : Nat) (v : Option Value) (h : Heap) (L : List Loc) : Prop := ∃ (b : Addr) (k : ClassId), v = some (.ref b) ∧ Fr n0 L ∧ Ext h0 h ∧ h0.size ≤ b ∧ Arv Z h b k .byte (2 : Int32) [(.int (nar .byte ((x0 >>> ((0 : Int32) &&& 31)).toInt8.toInt32))), (.int (nar .byte ((x0 >>> ((8 : Int32) &&& 31)).toInt8.toInt32)))] v'0
def QC1b (Z : State) (x0 : Int32) (h0 : Heap) (n0 : Nat) (v : Option Value) (h : Heap) (L : List Loc) : Prop := ∃ (b : Addr) (k : ClassId), v = some (.ref b) ∧ Fr n0 L ∧ Ext h0 h ∧ h0.size ≤ b ∧ (((¬ (255 : Int32) < x0) ∧ Arv Z h b k .byte (1 : Int32) [(.int (nar .byte (x0.toInt8.toInt32)))] v'0) ∨ (((255 : Int32) < x0) ∧ Arv Z h b k .byte (2 : Int32) [(.int (nar .byte ((x0 >>> ((0 : Int32) &&& 31)).toInt8.toInt32))), (.int (nar .byte ((x0 >>> ((8 : Int32) &&& 31)).toInt8.toInt32)))] v'0))
def QI1 (Z : State) (a1 : Addr) (x0 : Int32) (h0 : Heap) (n0 : Nat) (v : Option Value) (h : Heap) (L : List Loc) : Prop := ∃ (t : Addr) (k : ClassId), v = none ∧ Fr n0 L ∧ Keep h0 h [a1] ∧ h0.size ≤ t ∧ F'1 Z h a1 (.ref t) ∧ ((F'0 Z h a1 v'0 ∧ (¬ (255 : Int32) < x0) ∧ Arv Z h t k .byte (1 : Int32) [(.int (nar .byte (x0.toInt8.toInt32)))] v'0) ∨ (F'0 Z h a1 v'1 ∧ ((255 : Int32) < x0) ∧ Arv Z h t k .byte (2 : Int32) [(.int (nar .byte ((x0 >>> ((0 : Int32) &&& 31)).toInt8.toInt32))), (.int (nar .byte ((x0 >>> ((8 : Int32) &&& 31)).toInt8.toInt32)))] v'0))
def QC2a (Z : State) (b : Addr) (k2 : ClassId) (x0 x1 : Int32) (h0 : Heap) (n0 : Nat) (v : Option Value) (h : Heap) (L : List Loc) : Prop := ∃ z : Int32, v = some (.int z) ∧ Fr n0 L ∧ Keep h0 h [b] ∧ ((z = (2 : Int32) ∧ (¬ (255 : Int32) < x0 ∧ ¬ (255 : Int32) < x1) ∧ Arv Z h b k2 .byte (2 : Int32) [(.int (nar .byte (x0.toInt8.toInt32))), (.int (nar .byte (x1.toInt8.toInt32)))] v'0) ∨ (z = (0 : Int32) ∧ (255 : Int32) < x0) ∨ (z = (1 : Int32) ∧ (255 : Int32) < x1))
def QNB2 (Z : State) (h0 : Heap) (n0 : Nat) (v : Option Value) (h : Heap) (L : List Loc) : Prop := ∃ (b : Addr) (k : ClassId), v = some (.ref b) ∧ Fr n0 L ∧ Ext h0 h ∧ h0.size ≤ b ∧ Arv Z h b k .byte (4 : Int32) [v'0, v'0, v'0, v'0] v'0
def QTB2 (Z : State) (x0 x1 : Int32) (h0 : Heap) (n0 : Nat) (v : Option Value) (h : Heap) (L : List Loc) : Prop := ∃ (b : Addr) (k : ClassId), v = some (.ref b) ∧ Fr n0 L ∧ Ext h0 h ∧ h0.size ≤ b ∧ Arv Z h b k .byte (4 : Int32) [(.int (nar .byte ((x0 >>> ((0 : Int32) &&& 31)).toInt8.toInt32))), (.int (nar .byte ((x0 >>> ((8 : Int32) &&& 31)).toInt8.toInt32))), (.int (nar .byte ((x1 >>> ((0 : Int32) &&& 31)).toInt8.toInt32))), (.int (nar .byte ((x1 >>> ((8 : Int32) &&& 31)).toInt8.toInt32)))] v'0
def QC2b (Z : State) (x0 x1 : Int32) (h0 : Heap) (n0 : Nat) (v : Option Value) (h : Heap) (L : List Loc) : Prop := ∃ (b : Addr) (k : ClassId), v = some (.ref b) ∧ Fr n0 L ∧ Ext h0 h ∧ h0.size ≤ b ∧ (((¬ (255 : Int32) < x0 ∧ ¬ (255 : Int32) < x1) ∧ Arv Z h b k .byte (2 : Int32) [(.int (nar .byte (x0.toInt8.toInt32))), (.int (nar .byte (x1.toInt8.toInt32)))] v'0) ∨ (((255 : Int32) < x0 ∨ (255 : Int32) < x1) ∧ Arv Z h b k .byte (4 : Int32) [(.int (nar .byte ((x0 >>> ((0 : Int32) &&& 31)).toInt8.toInt32))), (.int (nar .byte ((x0 >>> ((8 : Int32) &&& 31)).toInt8.toInt32))), (.int (nar .byte ((x1 >>> ((0 : Int32) &&& 31)).toInt8.toInt32))), (.int (nar .byte ((x1 >>> ((8 : Int32) &&& 31)).toInt8.toInt32)))] v'0))
def QI2 (Z : State) (a1 : Addr) (x0 x1 : Int32) (h0 : Heap) (n0 : Nat) (v : Option Value) (h : Heap) (L : List Loc) : Prop := ∃ (t : Addr) (k : ClassId), v = none ∧ Fr n0 L ∧ Keep h0 h [a1] ∧ h0.size ≤ t ∧ F'1 Z h a1 (.ref t) ∧ ((F'0 Z h a1 v'0 ∧ (¬ (255 : Int32) < x0 ∧ ¬ (255 : Int32) < x1) ∧ Arv Z h t k .byte (2 : Int32) [(.int (nar .byte (x0.toInt8.toInt32))), (.int (nar .byte (x1.toInt8.toInt32)))] v'0) ∨ (F'0 Z h a1 v'1 ∧ ((255 : Int32) < x0 ∨ (255 : Int32) < x1) ∧ Arv Z h t k .byte (4 : Int32) [(.int (nar .byte ((x0 >>> ((0 : Int32) &&& 31)).toInt8.toInt32))), (.int (nar .byte ((x0 >>> ((8 : Int32) &&& 31)).toInt8.toInt32))), (.int (nar .byte ((x1 >>> ((0 : Int32) &&& 31)).toInt8.toInt32))), (.int (nar .byte ((x1 >>> ((8 : Int32) &&& 31)).toInt8.toInt32)))] v'0))
def QC3a (Z : State) (b : Addr) (k2 : ClassId) (x0 x1 x2 : Int32) (h0 : Heap) (n0 : Nat) (v : Option Value) (h : Heap) (L : List Loc) : Prop := ∃ z : Int32, v = some (.int z) ∧ Fr n0 L ∧ Keep h0 h [b] ∧ ((z = (3 : Int32) ∧ (¬ (255 : Int32) < x0 ∧ ¬ (255 : Int32) < x1 ∧ ¬ (255 : Int32) < x2) ∧ Arv Z h b k2 .byte (3 : Int32) [(.int (nar .byte (x0.toInt8.toInt32))), (.int (nar .byte (x1.toInt8.toInt32))), (.int (nar .byte (x2.toInt8.toInt32)))] v'0) ∨ (z = (0 : Int32) ∧ (255 : Int32) < x0) ∨ (z = (1 : Int32) ∧ (255 : Int32) < x1) ∨ (z = (2 : Int32) ∧ (255 : Int32) < x2))
def QNB3 (Z : State) (h0 : Heap) (n0 : Nat) (v : Option Value) (h : Heap) (L : List Loc) : Prop := ∃ (b : Addr) (k : ClassId), v = some (.ref b) ∧ Fr n0 L ∧ Ext h0 h ∧ h0.size ≤ b ∧ Arv Z h b k .byte (6 : Int32) [v'0, v'0, v'0, v'0, v'0, v'0] v'0
def QTB3 (Z : State) (x0 x1 x2 : Int32) (h0 : Heap) (n0 : Nat) (v : Option Value) (h : Heap) (L : List Loc) : Prop := ∃ (b : Addr) (k : ClassId), v = some (.ref b) ∧ Fr n0 L ∧ Ext h0 h ∧ h0.size ≤ b ∧ Arv Z h b k .byte (6 : Int32) [(.int (nar .byte ((x0 >>> ((0 : Int32) &&& 31)).toInt8.toInt32))), (.int (nar .byte ((x0 >>> ((8 : Int32) &&& 31)).toInt8.toInt32))), (.int (nar .byte ((x1 >>> ((0 : Int32) &&& 31)).toInt8.toInt32))), (.int (nar .byte ((x1 >>> ((8 : Int32) &&& 31)).toInt8.toInt32))), (.int (nar .byte ((x2 >>> ((0 : Int32) &&& 31)).toInt8.toInt32))), (.int (nar .byte ((x2 >>> ((8 : Int32) &&& 31)).toInt8.toInt32)))] v'0
def QC3b (Z : State) (x0 x1 x2 : Int32) (h0 : Heap) (n0 : Nat) (v : Option Value) (h : Heap) (L : List Loc) : Prop := ∃ (b : Addr) (k : ClassId), v = some (.ref b) ∧ Fr n0 L ∧ Ext h0 h ∧ h0.size ≤ b ∧ (((¬ (255 : Int32) < x0 ∧ ¬ (255 : Int32) < x1 ∧ ¬ (255 : Int32) < x2) ∧ Arv Z h b k .byte (3 : Int32) [(.int (nar .byte (x0.toInt8.toInt32))), (.int (nar .byte (x1.toInt8.toInt32))), (.int (nar .byte (x2.toInt8.toInt32)))] v'0) ∨ (((255 : Int32) < x0 ∨ (255 : Int32) < x1 ∨ (255 : Int32) < x2) ∧ Arv Z h b k .byte (6 : Int32) [(.int (nar .byte ((x0 >>> ((0 : Int32) &&& 31)).toInt8.toInt32))), (.int (nar .byte ((x0 >>> ((8 : Int32) &&& 31)).toInt8.toInt32))), (.int (nar .byte ((x1 >>> ((0 : Int32) &&& 31)).toInt8.toInt32))), (.int (nar .byte ((x1 >>> ((8 : Int32) &&& 31)).toInt8.toInt32))), (.int (nar .byte ((x2 >>> ((0 : Int32) &&& 31)).toInt8.toInt32))), (.int (nar .byte ((x2 >>> ((8 : Int32) &&& 31)).toInt8.toInt32)))] v'0))
def QI3 (Z : State) (a1 : Addr) (x0 x1 x2 : Int32) (h0 : Heap) (n0 : Nat) (v : Option Value) (h : Heap) (L : List Loc) : Prop := ∃ (t : Addr) (k : ClassId), v = none ∧ Fr n0 L ∧ Keep h0 h [a1] ∧ h0.size ≤ t ∧ F'1 Z h a1 (.ref t) ∧ ((F'0 Z h a1 v'0 ∧ (¬ (255 : Int32) < x0 ∧ ¬ (255 : Int32) < x1 ∧ ¬ (255 : Int32) < x2) ∧ Arv Z h t k .byte (3 : Int32) [(.int (nar .byte (x0.toInt8.toInt32))), (.int (nar .byte (x1.toInt8.toInt32))), (.int (nar .byte (x2.toInt8.toInt32)))] v'0) ∨ (F'0 Z h a1 v'1 ∧ ((255 : Int32) < x0 ∨ (255 : Int32) < x1 ∨ (255 : Int32) < x2) ∧ Arv Z h t k .byte (6 : Int32) [(.int (nar .byte ((x0 >>> ((0 : Int32) &&& 31)).toInt8.toInt32))), (.int (nar .byte ((x0 >>> ((8 : Int32) &&& 31)).toInt8.toInt32))), (.int (nar .byte ((x1 >>> ((0 : Int32) &&& 31)).toInt8.toInt32))), (.int (nar .byte ((x1 >>> ((8 : Int32) &&& 31)).toInt8.toInt32))), (.int (nar .byte ((x2 >>> ((0 : Int32) &&& 31)).toInt8.toInt32))), (.int (nar .byte ((x2 >>> ((8 : Int32) &&& 31)).toInt8.toInt32)))] v'0))
def QC4a (Z : State) (b : Addr) (k2 : ClassId) (x0 x1 x2 x3 : Int32) (h0 : Heap) (n0 : Nat) (v : Option Value) (h : Heap) (L : List Loc) : Prop := ∃ z : Int32, v = some (.int z) ∧ Fr n0 L ∧ Keep h0 h [b] ∧ ((z = (4 : Int32) ∧ (¬ (255 : Int32) < x0 ∧ ¬ (255 : Int32) < x1 ∧ ¬ (255 : Int32) < x2 ∧ ¬ (255 : Int32) < x3) ∧ Arv Z h b k2 .byte (4 : Int32) [(.int (nar .byte (x0.toInt8.toInt32))), (.int (nar .byte (x1.toInt8.toInt32))), (.int (nar .byte (x2.toInt8.toInt32))), (.int (nar .byte (x3.toInt8.toInt32)))] v'0) ∨ (z = (0 : Int32) ∧ (255 : Int32) < x0) ∨ (z = (1 : Int32) ∧ (255 : Int32) < x1) ∨ (z = (2 : Int32) ∧ (255 : Int32) < x2) ∨ (z = (3 : Int32) ∧ (255 : Int32) < x3))
def QNB4 (Z : State) (h0 : Heap) (n0 : Nat) (v : Option Value) (h : Heap) (L : List Loc) : Prop := ∃ (b : Addr) (k : ClassId), v = some (.ref b) ∧ Fr n0 L ∧ Ext h0 h ∧ h0.size ≤ b ∧ Arv Z h b k .byte (8 : Int32) [v'0, v'0, v'0, v'0, v'0, v'0, v'0, v'0] v'0
def QTB4 (Z : State) (x0 x1 x2 x3 : Int32) (h0 : Heap) (n0 : Nat) (v : Option Value) (h : Heap) (L : List Loc) : Prop := ∃ (b : Addr) (k : ClassId), v = some (.ref b) ∧ Fr n0 L ∧ Ext h0 h ∧ h0.size ≤ b ∧ Arv Z h b k .byte (8 : Int32) [(.int (nar .byte ((x0 >>> ((0 : Int32) &&& 31)).toInt8.toInt32))), (.int (nar .byte ((x0 >>> ((8 : Int32) &&& 31)).toInt8.toInt32))), (.int (nar .byte ((x1 >>> ((0 : Int32) &&& 31)).toInt8.toInt32))), (.int (nar .byte ((x1 >>> ((8 : Int32) &&& 31)).toInt8.toInt32))), (.int (nar .byte ((x2 >>> ((0 : Int32) &&& 31)).toInt8.toInt32))), (.int (nar .byte ((x2 >>> ((8 : Int32) &&& 31)).toInt8.toInt32))), (.int (nar .byte ((x3 >>> ((0 : Int32) &&& 31)).toInt8.toInt32))), (.int (nar .byte ((x3 >>> ((8 : Int32) &&& 31)).toInt8.toInt32)))] v'0
def QC4b (Z : State) (x0 x1 x2 x3 : Int32) (h0 : Heap) (n0 : Nat) (v : Option Value) (h : Heap) (L : List Loc) : Prop := ∃ (b : Addr) (k : ClassId), v = some (.ref b) ∧ Fr n0 L ∧ Ext h0 h ∧ h0.size ≤ b ∧ (((¬ (255 : Int32) < x0 ∧ ¬ (255 : Int32) < x1 ∧ ¬ (255 : Int32) < x2 ∧ ¬ (255 : Int32) < x3) ∧ Arv Z h b k .byte (4 : Int32) [(.int (nar .byte (x0.toInt8.toInt32))), (.int (nar .byte (x1.toInt8.toInt32))), (.int (nar .byte (x2.toInt8.toInt32))), (.int (nar .byte (x3.toInt8.toInt32)))] v'0) ∨ (((255 : Int32) < x0 ∨ (255 : Int32) < x1 ∨ (255 : Int32) < x2 ∨ (255 : Int32) < x3) ∧ Arv Z h b k .byte (8 : Int32) [(.int (nar .byte ((x0 >>> ((0 : Int32) &&& 31)).toInt8.toInt32))), (.int (nar .byte ((x0 >>> ((8 : Int32) &&& 31)).toInt8.toInt32))), (.int (nar .byte ((x1 >>> ((0 : Int32) &&& 31)).toInt8.toInt32))), (.int (nar .byte ((x1 >>> ((8 : Int32) &&& 31)).toInt8.toInt32))), (.int (nar .byte ((x2 >>> ((0 : Int32) &&& 31)).toInt8.toInt32))), (.int (nar .byte ((x2 >>> ((8 : Int32) &&& 31)).toInt8.toInt32))), (.int (nar .byte ((x3 >>> ((0 : Int32) &&& 31)).toInt8.toInt32))), (.int (nar .byte ((x3 >>> ((8 : Int32) &&& 31)).toInt8.toInt32)))] v'0))
def QI4 (Z : State) (a1 : Addr) (x0 x1 x2 x3 : Int32) (h0 : Heap) (n0 : Nat) (v : Option Value) (h : Heap) (L : List Loc) : Prop := ∃ (t : Addr) (k : ClassId), v = none ∧ Fr n0 L ∧ Keep h0 h [a1] ∧ h0.size ≤ t ∧ F'1 Z h a1 (.ref t) ∧ ((F'0 Z h a1 v'0 ∧ (¬ (255 : Int32) < x0 ∧ ¬ (255 : Int32) < x1 ∧ ¬ (255 : Int32) < x2 ∧ ¬ (255 : Int32) < x3) ∧ Arv Z h t k .byte (4 : Int32) [(.int (nar .byte (x0.toInt8.toInt32))), (.int (nar .byte (x1.toInt8.toInt32))), (.int (nar .byte (x2.toInt8.toInt32))), (.int (nar .byte (x3.toInt8.toInt32)))] v'0) ∨ (F'0 Z h a1 v'1 ∧ ((255 : Int32) < x0 ∨ (255 : Int32) < x1 ∨ (255 : Int32) < x2 ∨ (255 : Int32) < x3) ∧ Arv Z h t k .byte (8 : Int32) [(.int (nar .byte ((x0 >>> ((0 : Int32) &&& 31)).toInt8.toInt32))), (.int (nar .byte ((x0 >>> ((8 : Int32) &&& 31)).toInt8.toInt32))), (.int (nar .byte ((x1 >>> ((0 : Int32) &&& 31)).toInt8.toInt32))), (.int (nar .byte ((x1 >>> ((8 : Int32) &&& 31)).toInt8.toInt32))), (.int (nar .byte ((x2 >>> ((0 : Int32) &&& 31)).toInt8.toInt32))), (.int (nar .byte ((x2 >>> ((8 : Int32) &&& 31)).toInt8.toInt32))), (.int (nar .byte ((x3 >>> ((0 : Int32) &&& 31)).toInt8.toInt32))), (.int (nar .byte ((x3 >>> ((8 : Int32) &&& 31)).toInt8.toInt32)))] v'0))
def QC5a (Z : State) (b : Addr) (k2 : ClassId) (x0 x1 x2 x3 x4 : Int32) (h0 : Heap) (n0 : Nat) (v : Option Value) (h : Heap) (L : List Loc) : Prop := ∃ z : Int32, v = some (.int z) ∧ Fr n0 L ∧ Keep h0 h [b] ∧ ((z = (5 : Int32) ∧ (¬ (255 : Int32) < x0 ∧ ¬ (255 : Int32) < x1 ∧ ¬ (255 : Int32) < x2 ∧ ¬ (255 : Int32) < x3 ∧ ¬ (255 : Int32) < x4) ∧ Arv Z h b k2 .byte (5 : Int32) [(.int (nar .byte (x0.toInt8.toInt32))), (.int (nar .byte (x1.toInt8.toInt32))), (.int (nar .byte (x2.toInt8.toInt32))), (.int (nar .byte (x3.toInt8.toInt32))), (.int (nar .byte (x4.toInt8.toInt32)))] v'0) ∨ (z = (0 : Int32) ∧ (255 : Int32) < x0) ∨ (z = (1 : Int32) ∧ (255 : Int32) < x1) ∨ (z = (2 : Int32) ∧ (255 : Int32) < x2) ∨ (z = (3 : Int32) ∧ (255 : Int32) < x3) ∨ (z = (4 : Int32) ∧ (255 : Int32) < x4))
def QNB5 (Z : State) (h0 : Heap) (n0 : Nat) (v : Option Value) (h : Heap) (L : List Loc) : Prop := ∃ (b : Addr) (k : ClassId), v = some (.ref b) ∧ Fr n0 L ∧ Ext h0 h ∧ h0.size ≤ b ∧ Arv Z h b k .byte (10 : Int32) [v'0, v'0, v'0, v'0, v'0, v'0, v'0, v'0, v'0, v'0] v'0
def QTB5 (Z : State) (x0 x1 x2 x3 x4 : Int32) (h0 : Heap) (n0 : Nat) (v : Option Value) (h : Heap) (L : List Loc) : Prop := ∃ (b : Addr) (k : ClassId), v = some (.ref b) ∧ Fr n0 L ∧ Ext h0 h ∧ h0.size ≤ b ∧ Arv Z h b k .byte (10 : Int32) [(.int (nar .byte ((x0 >>> ((0 : Int32) &&& 31)).toInt8.toInt32))), (.int (nar .byte ((x0 >>> ((8 : Int32) &&& 31)).toInt8.toInt32))), (.int (nar .byte ((x1 >>> ((0 : Int32) &&& 31)).toInt8.toInt32))), (.int (nar .byte ((x1 >>> ((8 : Int32) &&& 31)).toInt8.toInt32))), (.int (nar .byte ((x2 >>> ((0 : Int32) &&& 31)).toInt8.toInt32))), (.int (nar .byte ((x2 >>> ((8 : Int32) &&& 31)).toInt8.toInt32))), (.int (nar .byte ((x3 >>> ((0 : Int32) &&& 31)).toInt8.toInt32))), (.int (nar .byte ((x3 >>> ((8 : Int32) &&& 31)).toInt8.toInt32))), (.int (nar .byte ((x4 >>> ((0 : Int32) &&& 31)).toInt8.toInt32))), (.int (nar .byte ((x4 >>> ((8 : Int32) &&& 31)).toInt8.toInt32)))] v'0
def QC5b (Z : State) (x0 x1 x2 x3 x4 : Int32) (h0 : Heap) (n0 : Nat) (v : Option Value) (h : Heap) (L : List Loc) : Prop := ∃ (b : Addr) (k : ClassId), v = some (.ref b) ∧ Fr n0 L ∧ Ext h0 h ∧ h0.size ≤ b ∧ (((¬ (255 : Int32) < x0 ∧ ¬ (255 : Int32) < x1 ∧ ¬ (255 : Int32) < x2 ∧ ¬ (255 : Int32) < x3 ∧ ¬ (255 : Int32) < x4) ∧ Arv Z h b k .byte (5 : Int32) [(.int (nar .byte (x0.toInt8.toInt32))), (.int (nar .byte (x1.toInt8.toInt32))), (.int (nar .byte (x2.toInt8.toInt32))), (.int (nar .byte (x3.toInt8.toInt32))), (.int (nar .byte (x4.toInt8.toInt32)))] v'0) ∨ (((255 : Int32) < x0 ∨ (255 : Int32) < x1 ∨ (255 : Int32) < x2 ∨ (255 : Int32) < x3 ∨ (255 : Int32) < x4) ∧ Arv Z h b k .byte (10 : Int32) [(.int (nar .byte ((x0 >>> ((0 : Int32) &&& 31)).toInt8.toInt32))), (.int (nar .byte ((x0 >>> ((8 : Int32) &&& 31)).toInt8.toInt32))), (.int (nar .byte ((x1 >>> ((0 : Int32) &&& 31)).toInt8.toInt32))), (.int (nar .byte ((x1 >>> ((8 : Int32) &&& 31)).toInt8.toInt32))), (.int (nar .byte ((x2 >>> ((0 : Int32) &&& 31)).toInt8.toInt32))), (.int (nar .byte ((x2 >>> ((8 : Int32) &&& 31)).toInt8.toInt32))), (.int (nar .byte ((x3 >>> ((0 : Int32) &&& 31)).toInt8.toInt32))), (.int (nar .byte ((x3 >>> ((8 : Int32) &&& 31)).toInt8.toInt32))), (.int (nar .byte ((x4 >>> ((0 : Int32) &&& 31)).toInt8.toInt32))), (.int (nar .byte ((x4 >>> ((8 : Int32) &&& 31)).toInt8.toInt32)))] v'0))
def QI5 (Z : State) (a1 : Addr) (x0 x1 x2 x3 x4 : Int32) (h0 : Heap) (n0 : Nat) (v : Option Value) (h : Heap) (L : List Loc) : Prop := ∃ (t : Addr) (k : ClassId), v = none ∧ Fr n0 L ∧ Keep h0 h [a1] ∧ h0.size ≤ t ∧ F'1 Z h a1 (.ref t) ∧ ((F'0 Z h a1 v'0 ∧ (¬ (255 : Int32) < x0 ∧ ¬ (255 : Int32) < x1 ∧ ¬ (255 : Int32) < x2 ∧ ¬ (255 : Int32) < x3 ∧ ¬ (255 : Int32) < x4) ∧ Arv Z h t k .byte (5 : Int32) [(.int (nar .byte (x0.toInt8.toInt32))), (.int (nar .byte (x1.toInt8.toInt32))), (.int (nar .byte (x2.toInt8.toInt32))), (.int (nar .byte (x3.toInt8.toInt32))), (.int (nar .byte (x4.toInt8.toInt32)))] v'0) ∨ (F'0 Z h a1 v'1 ∧ ((255 : Int32) < x0 ∨ (255 : Int32) < x1 ∨ (255 : Int32) < x2 ∨ (255 : Int32) < x3 ∨ (255 : Int32) < x4) ∧ Arv Z h t k .byte (10 : Int32) [(.int (nar .byte ((x0 >>> ((0 : Int32) &&& 31)).toInt8.toInt32))), (.int (nar .byte ((x0 >>> ((8 : Int32) &&& 31)).toInt8.toInt32))), (.int (nar .byte ((x1 >>> ((0 : Int32) &&& 31)).toInt8.toInt32))), (.int (nar .byte ((x1 >>> ((8 : Int32) &&& 31)).toInt8.toInt32))), (.int (nar .byte ((x2 >>> ((0 : Int32) &&& 31)).toInt8.toInt32))), (.int (nar .byte ((x2 >>> ((8 : Int32) &&& 31)).toInt8.toInt32))), (.int (nar .byte ((x3 >>> ((0 : Int32) &&& 31)).toInt8.toInt32))), (.int (nar .byte ((x3 >>> ((8 : Int32) &&& 31)).toInt8.toInt32))), (.int (nar .byte ((x4 >>> ((0 : Int32) &&& 31)).toInt8.toInt32))), (.int (nar .byte ((x4 >>> ((8 : Int32) &&& 31)).toInt8.toInt32)))] v'0))
def QC6a (Z : State) (b : Addr) (k2 : ClassId) (x0 x1 x2 x3 x4 x5 : Int32) (h0 : Heap) (n0 : Nat) (v : Option Value) (h : Heap) (L : List Loc) : Prop := ∃ z : Int32, v = some (.int z) ∧ Fr n0 L ∧ Keep h0 h [b] ∧ ((z = (6 : Int32) ∧ (¬ (255 : Int32) < x0 ∧ ¬ (255 : Int32) < x1 ∧ ¬ (255 : Int32) < x2 ∧ ¬ (255 : Int32) < x3 ∧ ¬ (255 : Int32) < x4 ∧ ¬ (255 : Int32) < x5) ∧ Arv Z h b k2 .byte (6 : Int32) [(.int (nar .byte (x0.toInt8.toInt32))), (.int (nar .byte (x1.toInt8.toInt32))), (.int (nar .byte (x2.toInt8.toInt32))), (.int (nar .byte (x3.toInt8.toInt32))), (.int (nar .byte (x4.toInt8.toInt32))), (.int (nar .byte (x5.toInt8.toInt32)))] v'0) ∨ (z = (0 : Int32) ∧ (255 : Int32) < x0) ∨ (z = (1 : Int32) ∧ (255 : Int32) < x1) ∨ (z = (2 : Int32) ∧ (255 : Int32) < x2) ∨ (z = (3 : Int32) ∧ (255 : Int32) < x3) ∨ (z = (4 : Int32) ∧ (255 : Int32) < x4) ∨ (z = (5 : Int32) ∧ (255 : Int32) < x5))
def QNB6 (Z : State) (h0 : Heap) (n0 : Nat) (v : Option Value) (h : Heap) (L : List Loc) : Prop := ∃ (b : Addr) (k : ClassId), v = some (.ref b) ∧ Fr n0 L ∧ Ext h0 h ∧ h0.size ≤ b ∧ Arv Z h b k .byte (12 : Int32) [v'0, v'0, v'0, v'0, v'0, v'0, v'0, v'0, v'0, v'0, v'0, v'0] v'0
def QTB6 (Z : State) (x0 x1 x2 x3 x4 x5 : Int32) (h0 : Heap) (n0 : Nat) (v : Option Value) (h : Heap) (L : List Loc) : Prop := ∃ (b : Addr) (k : ClassId), v = some (.ref b) ∧ Fr n0 L ∧ Ext h0 h ∧ h0.size ≤ b ∧ Arv Z h b k .byte (12 : Int32) [(.int (nar .byte ((x0 >>> ((0 : Int32) &&& 31)).toInt8.toInt32))), (.int (nar .byte ((x0 >>> ((8 : Int32) &&& 31)).toInt8.toInt32))), (.int (nar .byte ((x1 >>> ((0 : Int32) &&& 31)).toInt8.toInt32))), (.int (nar .byte ((x1 >>> ((8 : Int32) &&& 31)).toInt8.toInt32))), (.int (nar .byte ((x2 >>> ((0 : Int32) &&& 31)).toInt8.toInt32))), (.int (nar .byte ((x2 >>> ((8 : Int32) &&& 31)).toInt8.toInt32))), (.int (nar .byte ((x3 >>> ((0 : Int32) &&& 31)).toInt8.toInt32))), (.int (nar .byte ((x3 >>> ((8 : Int32) &&& 31)).toInt8.toInt32))), (.int (nar .byte ((x4 >>> ((0 : Int32) &&& 31)).toInt8.toInt32))), (.int (nar .byte ((x4 >>> ((8 : Int32) &&& 31)).toInt8.toInt32))), (.int (nar .byte ((x5 >>> ((0 : Int32) &&& 31)).toInt8.toInt32))), (.int (nar .byte ((x5 >>> ((8 : Int32) &&& 31)).toInt8.toInt32)))] v'0
def QC6b (Z : State) (x0 x1 x2 x3 x4 x5 : Int32) (h0 : Heap) (n0 : Nat) (v : Option Value) (h : Heap) (L : List Loc) : Prop := ∃ (b : Addr) (k : ClassId), v = some (.ref b) ∧ Fr n0 L ∧ Ext h0 h ∧ h0.size ≤ b ∧ (((¬ (255 : Int32) < x0 ∧ ¬ (255 : Int32) < x1 ∧ ¬ (255 : Int32) < x2 ∧ ¬ (255 : Int32) < x3 ∧ ¬ (255 : Int32) < x4 ∧ ¬ (255 : Int32) < x5) ∧ Arv Z h b k .byte (6 : Int32) [(.int (nar .byte (x0.toInt8.toInt32))), (.int (nar .byte (x1.toInt8.toInt32))), (.int (nar .byte (x2.toInt8.toInt32))), (.int (nar .byte (x3.toInt8.toInt32))), (.int (nar .byte (x4.toInt8.toInt32))), (.int (nar .byte (x5.toInt8.toInt32)))] v'0) ∨ (((255 : Int32) < x0 ∨ (255 : Int32) < x1 ∨ (255 : Int32) < x2 ∨ (255 : Int32) < x3 ∨ (255 : Int32) < x4 ∨ (255 : Int32) < x5) ∧ Arv Z h b k .byte (12 : Int32) [(.int (nar .byte ((x0 >>> ((0 : Int32) &&& 31)).toInt8.toInt32))), (.int (nar .byte ((x0 >>> ((8 : Int32) &&& 31)).toInt8.toInt32))), (.int (nar .byte ((x1 >>> ((0 : Int32) &&& 31)).toInt8.toInt32))), (.int (nar .byte ((x1 >>> ((8 : Int32) &&& 31)).toInt8.toInt32))), (.int (nar .byte ((x2 >>> ((0 : Int32) &&& 31)).toInt8.toInt32))), (.int (nar .byte ((x2 >>> ((8 : Int32) &&& 31)).toInt8.toInt32))), (.int (nar .byte ((x3 >>> ((0 : Int32) &&& 31)).toInt8.toInt32))), (.int (nar .byte ((x3 >>> ((8 : Int32) &&& 31)).toInt8.toInt32))), (.int (nar .byte ((x4 >>> ((0 : Int32) &&& 31)).toInt8.toInt32))), (.int (nar .byte ((x4 >>> ((8 : Int32) &&& 31)).toInt8.toInt32))), (.int (nar .byte ((x5 >>> ((0 : Int32) &&& 31)).toInt8.toInt32))), (.int (nar .byte ((x5 >>> ((8 : Int32) &&& 31)).toInt8.toInt32)))] v'0))
def QI6 (Z : State) (a1 : Addr) (x0 x1 x2 x3 x4 x5 : Int32) (h0 : Heap) (n0 : Nat) (v : Option Value) (h : Heap) (L : List Loc) : Prop := ∃ (t : Addr) (k : ClassId), v = none ∧ Fr n0 L ∧ Keep h0 h [a1] ∧ h0.size ≤ t ∧ F'1 Z h a1 (.ref t) ∧ ((F'0 Z h a1 v'0 ∧ (¬ (255 : Int32) < x0 ∧ ¬ (255 : Int32) < x1 ∧ ¬ (255 : Int32) < x2 ∧ ¬ (255 : Int32) < x3 ∧ ¬ (255 : Int32) < x4 ∧ ¬ (255 : Int32) < x5) ∧ Arv Z h t k .byte (6 : Int32) [(.int (nar .byte (x0.toInt8.toInt32))), (.int (nar .byte (x1.toInt8.toInt32))), (.int (nar .byte (x2.toInt8.toInt32))), (.int (nar .byte (x3.toInt8.toInt32))), (.int (nar .byte (x4.toInt8.toInt32))), (.int (nar .byte (x5.toInt8.toInt32)))] v'0) ∨ (F'0 Z h a1 v'1 ∧ ((255 : Int32) < x0 ∨ (255 : Int32) < x1 ∨ (255 : Int32) < x2 ∨ (255 : Int32) < x3 ∨ (255 : Int32) < x4 ∨ (255 : Int32) < x5) ∧ Arv Z h t k .byte (12 : Int32) [(.int (nar .byte ((x0 >>> ((0 : Int32) &&& 31)).toInt8.toInt32))), (.int (nar .byte ((x0 >>> ((8 : Int32) &&& 31)).toInt8.toInt32))), (.int (nar .byte ((x1 >>> ((0 : Int32) &&& 31)).toInt8.toInt32))), (.int (nar .byte ((x1 >>> ((8 : Int32) &&& 31)).toInt8.toInt32))), (.int (nar .byte ((x2 >>> ((0 : Int32) &&& 31)).toInt8.toInt32))), (.int (nar .byte ((x2 >>> ((8 : Int32) &&& 31)).toInt8.toInt32))), (.int (nar .byte ((x3 >>> ((0 : Int32) &&& 31)).toInt8.toInt32))), (.int (nar .byte ((x3 >>> ((8 : Int32) &&& 31)).toInt8.toInt32))), (.int (nar .byte ((x4 >>> ((0 : Int32) &&& 31)).toInt8.toInt32))), (.int (nar .byte ((x4 >>> ((8 : Int32) &&& 31)).toInt8.toInt32))), (.int (nar .byte ((x5 >>> ((0 : Int32) &&& 31)).toInt8.toInt32))), (.int (nar .byte ((x5 >>> ((8 : Int32) &&& 31)).toInt8.toInt32)))] v'0))
def QC7a (Z : State) (b : Addr) (k2 : ClassId) (x0 x1 x2 x3 x4 x5 x6 : Int32) (h0 : Heap) (n0 : Nat) (v : Option Value) (h : Heap) (L : List Loc) : Prop := ∃ z : Int32, v = some (.int z) ∧ Fr n0 L ∧ Keep h0 h [b] ∧ ((z = (7 : Int32) ∧ (¬ (255 : Int32) < x0 ∧ ¬ (255 : Int32) < x1 ∧ ¬ (255 : Int32) < x2 ∧ ¬ (255 : Int32) < x3 ∧ ¬ (255 : Int32) < x4 ∧ ¬ (255 : Int32) < x5 ∧ ¬ (255 : Int32) < x6) ∧ Arv Z h b k2 .byte (7 : Int32) [(.int (nar .byte (x0.toInt8.toInt32))), (.int (nar .byte (x1.toInt8.toInt32))), (.int (nar .byte (x2.toInt8.toInt32))), (.int (nar .byte (x3.toInt8.toInt32))), (.int (nar .byte (x4.toInt8.toInt32))), (.int (nar .byte (x5.toInt8.toInt32))), (.int (nar .byte (x6.toInt8.toInt32)))] v'0) ∨ (z = (0 : Int32) ∧ (255 : Int32) < x0) ∨ (z = (1 : Int32) ∧ (255 : Int32) < x1) ∨ (z = (2 : Int32) ∧ (255 : Int32) < x2) ∨ (z = (3 : Int32) ∧ (255 : Int32) < x3) ∨ (z = (4 : Int32) ∧ (255 : Int32) < x4) ∨ (z = (5 : Int32) ∧ (255 : Int32) < x5) ∨ (z = (6 : Int32) ∧ (255 : Int32) < x6))
def QNB7 (Z : State) (h0 : Heap) (n0 : Nat) (v : Option Value) (h : Heap) (L : List Loc) : Prop := ∃ (b : Addr) (k : ClassId), v = some (.ref b) ∧ Fr n0 L ∧ Ext h0 h ∧ h0.size ≤ b ∧ Arv Z h b k .byte (14 : Int32) [v'0, v'0, v'0, v'0, v'0, v'0, v'0, v'0, v'0, v'0, v'0, v'0, v'0, v'0] v'0
def QTB7 (Z : State) (x0 x1 x2 x3 x4 x5 x6 : Int32) (h0 : Heap) (n0 : Nat) (v : Option Value) (h : Heap) (L : List Loc) : Prop := ∃ (b : Addr) (k : ClassId), v = some (.ref b) ∧ Fr n0 L ∧ Ext h0 h ∧ h0.size ≤ b ∧ Arv Z h b k .byte (14 : Int32) [(.int (nar .byte ((x0 >>> ((0 : Int32) &&& 31)).toInt8.toInt32))), (.int (nar .byte ((x0 >>> ((8 : Int32) &&& 31)).toInt8.toInt32))), (.int (nar .byte ((x1 >>> ((0 : Int32) &&& 31)).toInt8.toInt32))), (.int (nar .byte ((x1 >>> ((8 : Int32) &&& 31)).toInt8.toInt32))), (.int (nar .byte ((x2 >>> ((0 : Int32) &&& 31)).toInt8.toInt32))), (.int (nar .byte ((x2 >>> ((8 : Int32) &&& 31)).toInt8.toInt32))), (.int (nar .byte ((x3 >>> ((0 : Int32) &&& 31)).toInt8.toInt32))), (.int (nar .byte ((x3 >>> ((8 : Int32) &&& 31)).toInt8.toInt32))), (.int (nar .byte ((x4 >>> ((0 : Int32) &&& 31)).toInt8.toInt32))), (.int (nar .byte ((x4 >>> ((8 : Int32) &&& 31)).toInt8.toInt32))), (.int (nar .byte ((x5 >>> ((0 : Int32) &&& 31)).toInt8.toInt32))), (.int (nar .byte ((x5 >>> ((8 : Int32) &&& 31)).toInt8.toInt32))), (.int (nar .byte ((x6 >>> ((0 : Int32) &&& 31)).toInt8.toInt32))), (.int (nar .byte ((x6 >>> ((8 : Int32) &&& 31)).toInt8.toInt32)))] v'0
def QC7b (Z : State) (x0 x1 x2 x3 x4 x5 x6 : Int32) (h0 : Heap) (n0 : Nat) (v : Option Value) (h : Heap) (L : List Loc) : Prop := ∃ (b : Addr) (k : ClassId), v = some (.ref b) ∧ Fr n0 L ∧ Ext h0 h ∧ h0.size ≤ b ∧ (((¬ (255 : Int32) < x0 ∧ ¬ (255 : Int32) < x1 ∧ ¬ (255 : Int32) < x2 ∧ ¬ (255 : Int32) < x3 ∧ ¬ (255 : Int32) < x4 ∧ ¬ (255 : Int32) < x5 ∧ ¬ (255 : Int32) < x6) ∧ Arv Z h b k .byte (7 : Int32) [(.int (nar .byte (x0.toInt8.toInt32))), (.int (nar .byte (x1.toInt8.toInt32))), (.int (nar .byte (x2.toInt8.toInt32))), (.int (nar .byte (x3.toInt8.toInt32))), (.int (nar .byte (x4.toInt8.toInt32))), (.int (nar .byte (x5.toInt8.toInt32))), (.int (nar .byte (x6.toInt8.toInt32)))] v'0) ∨ (((255 : Int32) < x0 ∨ (255 : Int32) < x1 ∨ (255 : Int32) < x2 ∨ (255 : Int32) < x3 ∨ (255 : Int32) < x4 ∨ (255 : Int32) < x5 ∨ (255 : Int32) < x6) ∧ Arv Z h b k .byte (14 : Int32) [(.int (nar .byte ((x0 >>> ((0 : Int32) &&& 31)).toInt8.toInt32))), (.int (nar .byte ((x0 >>> ((8 : Int32) &&& 31)).toInt8.toInt32))), (.int (nar .byte ((x1 >>> ((0 : Int32) &&& 31)).toInt8.toInt32))), (.int (nar .byte ((x1 >>> ((8 : Int32) &&& 31)).toInt8.toInt32))), (.int (nar .byte ((x2 >>> ((0 : Int32) &&& 31)).toInt8.toInt32))), (.int (nar .byte ((x2 >>> ((8 : Int32) &&& 31)).toInt8.toInt32))), (.int (nar .byte ((x3 >>> ((0 : Int32) &&& 31)).toInt8.toInt32))), (.int (nar .byte ((x3 >>> ((8 : Int32) &&& 31)).toInt8.toInt32))), (.int (nar .byte ((x4 >>> ((0 : Int32) &&& 31)).toInt8.toInt32))), (.int (nar .byte ((x4 >>> ((8 : Int32) &&& 31)).toInt8.toInt32))), (.int (nar .byte ((x5 >>> ((0 : Int32) &&& 31)).toInt8.toInt32))), (.int (nar .byte ((x5 >>> ((8 : Int32) &&& 31)).toInt8.toInt32))), (.int (nar .byte ((x6 >>> ((0 : Int32) &&& 31)).toInt8.toInt32))), (.int (nar .byte ((x6 >>> ((8 : Int32) &&& 31)).toInt8.toInt32)))] v'0))
def QI7 (Z : State) (a1 : Addr) (x0 x1 x2 x3 x4 x5 x6 : Int32) (h0 : Heap) (n0 : Nat) (v : Option Value) (h : Heap) (L : List Loc) : Prop := ∃ (t : Addr) (k : ClassId), v = none ∧ Fr n0 L ∧ Keep h0 h [a1] ∧ h0.size ≤ t ∧ F'1 Z h a1 (.ref t) ∧ ((F'0 Z h a1 v'0 ∧ (¬ (255 : Int32) < x0 ∧ ¬ (255 : Int32) < x1 ∧ ¬ (255 : Int32) < x2 ∧ ¬ (255 : Int32) < x3 ∧ ¬ (255 : Int32) < x4 ∧ ¬ (255 : Int32) < x5 ∧ ¬ (255 : Int32) < x6) ∧ Arv Z h t k .byte (7 : Int32) [(.int (nar .byte (x0.toInt8.toInt32))), (.int (nar .byte (x1.toInt8.toInt32))), (.int (nar .byte (x2.toInt8.toInt32))), (.int (nar .byte (x3.toInt8.toInt32))), (.int (nar .byte (x4.toInt8.toInt32))), (.int (nar .byte (x5.toInt8.toInt32))), (.int (nar .byte (x6.toInt8.toInt32)))] v'0) ∨ (F'0 Z h a1 v'1 ∧ ((255 : Int32) < x0 ∨ (255 : Int32) < x1 ∨ (255 : Int32) < x2 ∨ (255 : Int32) < x3 ∨ (255 : Int32) < x4 ∨ (255 : Int32) < x5 ∨ (255 : Int32) < x6) ∧ Arv Z h t k .byte (14 : Int32) [(.int (nar .byte ((x0 >>> ((0 : Int32) &&& 31)).toInt8.toInt32))), (.int (nar .byte ((x0 >>> ((8 : Int32) &&& 31)).toInt8.toInt32))), (.int (nar .byte ((x1 >>> ((0 : Int32) &&& 31)).toInt8.toInt32))), (.int (nar .byte ((x1 >>> ((8 : Int32) &&& 31)).toInt8.toInt32))), (.int (nar .byte ((x2 >>> ((0 : Int32) &&& 31)).toInt8.toInt32))), (.int (nar .byte ((x2 >>> ((8 : Int32) &&& 31)).toInt8.toInt32))), (.int (nar .byte ((x3 >>> ((0 : Int32) &&& 31)).toInt8.toInt32))), (.int (nar .byte ((x3 >>> ((8 : Int32) &&& 31)).toInt8.toInt32))), (.int (nar .byte ((x4 >>> ((0 : Int32) &&& 31)).toInt8.toInt32))), (.int (nar .byte ((x4 >>> ((8 : Int32) &&& 31)).toInt8.toInt32))), (.int (nar .byte ((x5 >>> ((0 : Int32) &&& 31)).toInt8.toInt32))), (.int (nar .byte ((x5 >>> ((8 : Int32) &&& 31)).toInt8.toInt32))), (.int (nar .byte ((x6 >>> ((0 : Int32) &&& 31)).toInt8.toInt32))), (.int (nar .byte ((x6 >>> ((8 : Int32) &&& 31)).toInt8.toInt32)))] v'0))
def QI0 (Z : State) (a1 : Addr) (h0 : Heap) (n0 : Nat) (v : Option Value) (h : Heap) (L : List Loc) : Prop := ∃ (t : Addr) (k : ClassId), v = none ∧ Fr n0 L ∧ Keep h0 h [a1] ∧ F'1 Z h a1 (.ref t) ∧ F'0 Z h a1 v'0 ∧ Arv Z h t k .byte (0 : Int32) [] v'0
def QM (M : Prop) (h0 : Heap) (n0 : Nat) (v : Option Value) (h : Heap) (L : List Loc) : Prop := ∃ z : Int32, v = some (.int z) ∧ Fr n0 L ∧ h = h0 ∧ own_yes M z
def QME (M : Prop) (h0 : Heap) (n0 : Nat) (v : Option Value) (h : Heap) (L : List Loc) : Prop := ∃ z : Int32, v = some (.int z) ∧ Fr n0 L ∧ Ext h0 h ∧ own_yes M z
def QCH (h0 : Heap) (n0 : Nat) (v : Option Value) (h : Heap) (L : List Loc) : Prop := ∃ z : Int32, v = some (.int z) ∧ Fr n0 L ∧ h = h0 ∧ own_c16 z
def Q0 (n0 : Nat) (v : Option Value) (h : Heap) (L : List Loc) : Prop := v = some (.int 1) ∧ Fr n0 L
theorem own_pd0 : parseMethodDescriptor "(I)I" = some ⟨[.int], some .int⟩ := by decide +kernel
theorem own_pd1 : parseMethodDescriptor "(I)[B" = some ⟨[.int], some (.array .byte)⟩ := by decide +kernel
theorem own_pd2 : parseMethodDescriptor "([BII)V" = some ⟨[(.array .byte), .int, .int], none⟩ := by decide +kernel
theorem own_pd3 : parseMethodDescriptor "([CI[BII)I" = some ⟨[(.array .char), .int, (.array .byte), .int, .int], some .int⟩ := by decide +kernel
theorem own_pd4 : parseMethodDescriptor "([CII)[B" = some ⟨[(.array .char), .int, .int], some (.array .byte)⟩ := by decide +kernel
theorem own_pd5 : parseMethodDescriptor "([BI)C" = some ⟨[(.array .byte), .int], some .char⟩ := by decide +kernel
theorem own_pd6 : parseMethodDescriptor "([BI)B" = some ⟨[(.array .byte), .int], some .byte⟩ := by decide +kernel
theorem own_pd7 : parseMethodDescriptor "([CIILjava/lang/Void;)V" = some ⟨[(.array .char), .int, .int, (.object "java/lang/Void")], none⟩ := by decide +kernel
theorem own_pd8 : parseMethodDescriptor "(JJI)C" = some ⟨[.long, .long, .int], some .char⟩ := by decide +kernel
theorem own_pd9 : parseMethodDescriptor "(II)C" = some ⟨[.int, .int], some .char⟩ := by decide +kernel
theorem own_pd10 : parseMethodDescriptor "([B[B)Z" = some ⟨[(.array .byte), (.array .byte)], some .boolean⟩ := by decide +kernel
theorem own_pd11 : parseMethodDescriptor "(Ljava/lang/Object;)Z" = some ⟨[(.object "java/lang/Object")], some .boolean⟩ := by decide +kernel
theorem own_pd12 : parseMethodDescriptor "(IIJJI)C" = some ⟨[.int, .int, .long, .long, .int], some .char⟩ := by decide +kernel
theorem own_pd13 : parseMethodDescriptor "([C)V" = some ⟨[(.array .char)], none⟩ := by decide +kernel
theorem own_pd14 : parseMethodDescriptor "(Ljava/lang/String;)Z" = some ⟨[(.object "java/lang/String")], some .boolean⟩ := by decide +kernel
theorem d15_0 : own_D b'15 0 (.iload_n 0) 1 1 := by decide +kernel
theorem d15_1 : own_DZ b'15 1 .ge 12 4 := by decide +kernel
theorem d15_4 : own_D b'15 4 (.new 17) 3 7 := by decide +kernel
theorem d15_7 : own_D b'15 7 .dup 1 8 := by decide +kernel
theorem d15_8 : own_D b'15 8 (.invokespecial 19) 3 11 := by decide +kernel
theorem d15_11 : own_D b'15 11 .athrow 1 12 := by decide +kernel
theorem d15_12 : own_D b'15 12 (.iload_n 0) 1 13 := by decide +kernel
theorem d15_13 : own_D b'15 13 (.ldc 20) 2 15 := by decide +kernel
theorem d15_15 : own_DJ b'15 15 .lt 55 18 := by decide +kernel
theorem d15_18 : own_D b'15 18 (.new 21) 3 21 := by decide +kernel
theorem d15_21 : own_D b'15 21 .dup 1 22 := by decide +kernel
theorem d15_22 : own_D b'15 22 (.new 23) 3 25 := by decide +kernel
theorem d15_25 : own_D b'15 25 .dup 1 26 := by decide +kernel
theorem d15_26 : own_D b'15 26 (.invokespecial 25) 3 29 := by decide +kernel
theorem d15_29 : own_D b'15 29 (.ldc 26) 2 31 := by decide +kernel
theorem d15_31 : own_D b'15 31 (.invokevirtual 28) 3 34 := by decide +kernel
theorem d15_34 : own_D b'15 34 (.iload_n 0) 1 35 := by decide +kernel
theorem d15_35 : own_D b'15 35 (.invokevirtual 32) 3 38 := by decide +kernel
theorem d15_38 : own_D b'15 38 (.ldc 35) 2 40 := by decide +kernel
theorem d15_40 : own_D b'15 40 (.invokevirtual 28) 3 43 := by decide +kernel
theorem d15_43 : own_D b'15 43 (.ldc 20) 2 45 := by decide +kernel
theorem d15_45 : own_D b'15 45 (.invokevirtual 32) 3 48 := by decide +kernel
theorem d15_48 : own_D b'15 48 (.invokevirtual 37) 3 51 := by decide +kernel
theorem d15_51 : own_D b'15 51 (.invokespecial 41) 3 54 := by decide +kernel
theorem d15_54 : own_D b'15 54 .athrow 1 55 := by decide +kernel
theorem d15_55 : own_D b'15 55 (.iload_n 0) 1 56 := by decide +kernel
theorem d15_56 : own_DK b'15 56 1 57 := by decide +kernel
theorem d15_57 : own_D b'15 57 .ishl 1 58 := by decide +kernel
theorem d15_58 : own_D b'15 58 .ireturn 1 59 := by decide +kernel
theorem pn_15 : plainFor (⟨"java/lang/StringUTF16", "newBytesLength", "(I)I"⟩ : MethodName) = true := plainFor_of_name (by first | (simp [plainName, overriddenIn]; done) | decide +kernel)
theorem rm15 (l : Launch) (Z : State) (a0 : Array Value) (hw : own_hw a0 Z) (p1 : Int32) (z : Int32) (h0 : Heap) (n0 : Nat) (Z0 : n0 ≤ h0.size) (h0_ : ¬ p1 < (0 : Int32)) (h1_ : p1 < (1073741823 : Int32)) (hz : p1 <<< ((1 : Int32) &&& 31) = z) :
  own_M l Z [] own_y0 b'15 1 (some .int) ⟨0, 0, 0, 0⟩ #[(.int p1)] h0 (QI z h0 n0) := by
 refine own_start (n0 := n0) hw "java/lang/StringUTF16" (L := #[.val (.int p1)]) pn_15 (fun {p e s m below meth c s₁} q hx W hml hZ hown hnm hlk hrt X0 e0 N0 => ?_)
 refine own_iln X0 q d15_0 rfl (own_zy X0 q d15_1 (((if0 _ _).trans (flt (h0_ : ¬ (p1 < (0 : Int32)))).2.1)) (own_iln X0 q d15_12 rfl (own_stq 15 [(.int (1073741823 : Int32)), (.int p1)] (fun _ k => X0.ldcInt hx hown (mvT hZ (W 69 rfl)) (g := mkF m 13 _ _) rfl (q.d d15_13) _ k) (own_cy X0 q d15_15 ((tlt (h1_ : p1 < (1073741823 : Int32))).1) (own_iln X0 q d15_55 rfl (own_k X0 q d15_56 (own_stp 58 (fun _ k => XS.ishl X0.here hx rfl (q.d d15_57) rfl k) ?_)))))))
 refine own_rI X0 q hrt d15_58 hlk (by decide) ?_
 show QI z h0 n0 _ s₁.heap _
 rw [e0]
 exact ⟨by rw [← hz], N0, rfl⟩
theorem d11_0 : own_DK b'11 0 0 1 := by decide +kernel
theorem d11_1 : own_D b'11 1 (.istore 5) 2 3 := by decide +kernel
theorem d11_3 : own_D b'11 3 (.iload 5) 2 5 := by decide +kernel
theorem d11_5 : own_D b'11 5 (.iload 4) 2 7 := by decide +kernel
theorem d11_7 : own_DJ b'11 7 .ge 44 10 := by decide +kernel
theorem d11_10 : own_D b'11 10 (.aload_n 0) 1 11 := by decide +kernel
theorem d11_11 : own_D b'11 11 (.iload_n 1) 1 12 := by decide +kernel
theorem d11_12 : own_D b'11 12 .caload 1 13 := by decide +kernel
theorem d11_13 : own_D b'11 13 (.istore 6) 2 15 := by decide +kernel
theorem d11_15 : own_D b'11 15 (.iload 6) 2 17 := by decide +kernel
theorem d11_17 : own_DK b'11 17 255 20 := by decide +kernel
theorem d11_20 : own_DJ b'11 20 .le 26 23 := by decide +kernel
theorem d11_23 : own_D b'11 23 (.iload 5) 2 25 := by decide +kernel
theorem d11_25 : own_D b'11 25 .ireturn 1 26 := by decide +kernel
theorem d11_26 : own_D b'11 26 (.aload_n 2) 1 27 := by decide +kernel
theorem d11_27 : own_D b'11 27 (.iload_n 3) 1 28 := by decide +kernel
theorem d11_28 : own_D b'11 28 (.iload 6) 2 30 := by decide +kernel
theorem d11_30 : own_D b'11 30 .i2b 1 31 := by decide +kernel
theorem d11_31 : own_D b'11 31 .bastore 1 32 := by decide +kernel
theorem d11_32 : own_DI b'11 32 1 1 35 := by decide +kernel
theorem d11_35 : own_DI b'11 35 3 1 38 := by decide +kernel
theorem d11_38 : own_DI b'11 38 5 1 41 := by decide +kernel
theorem d11_41 : own_DG b'11 41 3 := by decide +kernel
theorem d11_44 : own_D b'11 44 (.iload 4) 2 46 := by decide +kernel
theorem d11_46 : own_D b'11 46 .ireturn 1 47 := by decide +kernel
theorem pn_11 : plainFor (⟨"java/lang/StringUTF16", "compress", "([CI[BII)I"⟩ : MethodName) = true := plainFor_of_name (by first | (simp [plainName, overriddenIn]; done) | decide +kernel)
theorem rm11_1 (l : Launch) (Z : State) (a0 : Array Value) (hw : own_hw a0 Z) (a1 : Addr) (b : Addr) (k1 k2 : ClassId) (x0 : Int32) (h0 : Heap) (n0 : Nat) (Z0 : n0 ≤ h0.size) (VA : Arv Z h0 a1 k1 .char (1 : Int32) [(.int x0)] v'0) (VB : Arv Z h0 b k2 .byte (1 : Int32) [v'0] v'0) (gb : n0 ≤ b) (nab : a1 ≠ b) :
  own_M l Z [] own_y1 b'11 7 (some .int) ⟨0, 0, 0, 0⟩ #[(.ref a1), v'0, (.ref b), v'0, v'1] h0 (QC1a Z b k2 x0 h0 n0) := by
 refine own_start (n0 := n0) hw "java/lang/StringUTF16" (L := #[.val (.ref a1), .val v'0, .val (.ref b), .val v'0, .val v'1, .unset, .unset]) pn_11 (fun {p e s m below meth c s₁} q hx W hml hZ hown hnm hlk hrt X0 e0 N0 => ?_)
 have kp0 := Keep.refl h0 [b]
 refine own_k X0 q d11_0 (own_is X0 q d11_1 (l' := #[.val (.ref a1), .val v'0, .val (.ref b), .val v'0, .val v'1, .val v'0, .unset]) rfl (own_il X0 q d11_3 rfl (own_il X0 q d11_5 rfl (own_cn X0 q d11_7 ((tlt ((by decide) : (0 : Int32) < (1 : Int32))).2.1) (own_aln X0 q d11_10 rfl rfl (own_iln X0 q d11_11 rfl (own_cld (v := (.int x0)) X0 q hZ e0 VA d11_12 (by decide) rfl (own_is X0 q d11_13 (l' := #[.val (.ref a1), .val v'0, .val (.ref b), .val v'0, .val v'1, .val v'0, .val (.int x0)]) rfl (own_il X0 q d11_15 rfl (own_k X0 q d11_17 ?_))))))))))
 by_cases hc20_4 : (255 : Int32) < x0
 ·refine own_cn X0 q d11_20 ((tlt hc20_4).2.2.2) (own_il X0 q d11_23 rfl ?_)
  refine own_rI X0 q hrt d11_25 hlk (by decide) ?_
  show QC1a Z b k2 x0 h0 n0 _ s₁.heap _
  rw [e0]
  exact ⟨_, rfl, N0, kp0, Or.inr ⟨rfl, hc20_4⟩⟩
 ·refine own_cy X0 q d11_20 ((flt hc20_4).2.2.2) (own_aln X0 q d11_26 rfl rfl (own_iln X0 q d11_27 rfl (own_il X0 q d11_28 rfl (own_stp 31 (fun _ k => XS.i2b X0.here hx rfl (q.d d11_30) rfl k) ?_))))
  refine own_bst X0 q hZ e0 VB d11_31 (by decide) (Nat.le_of_ble_eq_true rfl) N0 gb fun T5 h5 X5 e5 W5 V5 N5 => ?_
  have zs6 := Nat.le_trans Z0 (Keep.of_wr W5).1
  have kp6 := kp0.wr W5 (own_i0)
  refine own_iik X5 q d11_32 rfl (show ((0 : Int32) + (1 : Int32)) = (1 : Int32) by decide) (l' := #[.val (.ref a1), .val v'1, .val (.ref b), .val v'0, .val v'1, .val v'0, .val (.int x0)]) rfl (own_iik X5 q d11_35 rfl (show ((0 : Int32) + (1 : Int32)) = (1 : Int32) by decide) (l' := #[.val (.ref a1), .val v'1, .val (.ref b), .val v'1, .val v'1, .val v'0, .val (.int x0)]) rfl (own_iik X5 q d11_38 rfl (show ((0 : Int32) + (1 : Int32)) = (1 : Int32) by decide) (l' := #[.val (.ref a1), .val v'1, .val (.ref b), .val v'1, .val v'1, .val v'1, .val (.int x0)]) rfl (own_gt X5 q d11_41 (own_il X5 q d11_3 rfl (own_il X5 q d11_5 rfl (own_cy X5 q d11_7 ((flt (Int32.lt_irrefl : ¬ ((1 : Int32) < (1 : Int32)))).2.1) (own_il X5 q d11_44 rfl ?_)))))))
  refine own_rI X5 q hrt d11_46 hlk (by decide) ?_
  show QC1a Z b k2 x0 h0 n0 _ T5.heap _
  rw [e5]
  exact ⟨_, rfl, N5, kp6, Or.inl ⟨rfl, hc20_4, V5⟩⟩
theorem d16_0 : own_D b'16 0 (.getstatic 44) 3 3 := by decide +kernel
theorem d16_3 : own_DZ b'16 3 .ne 28 6 := by decide +kernel
theorem d16_6 : own_D b'16 6 (.iload_n 1) 1 7 := by decide +kernel
theorem d16_7 : own_DZ b'16 7 .lt 18 10 := by decide +kernel
theorem d16_10 : own_D b'16 10 (.iload_n 1) 1 11 := by decide +kernel
theorem d16_11 : own_D b'16 11 (.aload_n 0) 1 12 := by decide +kernel
theorem d16_12 : own_D b'16 12 (.invokestatic 48) 3 15 := by decide +kernel
theorem d16_15 : own_DJ b'16 15 .lt 28 18 := by decide +kernel
theorem d16_18 : own_D b'16 18 (.new 52) 3 21 := by decide +kernel
theorem d16_21 : own_D b'16 21 .dup 1 22 := by decide +kernel
theorem d16_22 : own_D b'16 22 (.ldc 54) 2 24 := by decide +kernel
theorem d16_24 : own_D b'16 24 (.invokespecial 56) 3 27 := by decide +kernel
theorem d16_27 : own_D b'16 27 .athrow 1 28 := by decide +kernel
theorem d16_28 : own_D b'16 28 (.iload_n 1) 1 29 := by decide +kernel
theorem d16_29 : own_DK b'16 29 1 30 := by decide +kernel
theorem d16_30 : own_D b'16 30 .ishl 1 31 := by decide +kernel
theorem d16_31 : own_D b'16 31 (.istore_n 1) 1 32 := by decide +kernel
theorem d16_32 : own_D b'16 32 (.aload_n 0) 1 33 := by decide +kernel
theorem d16_33 : own_D b'16 33 (.iload_n 1) 1 34 := by decide +kernel
theorem d16_34 : own_DI b'16 34 1 1 37 := by decide +kernel
theorem d16_37 : own_D b'16 37 (.iload_n 2) 1 38 := by decide +kernel
theorem d16_38 : own_D b'16 38 (.getstatic 59) 3 41 := by decide +kernel
theorem d16_41 : own_D b'16 41 .ishr 1 42 := by decide +kernel
theorem d16_42 : own_D b'16 42 .i2b 1 43 := by decide +kernel
theorem d16_43 : own_D b'16 43 .bastore 1 44 := by decide +kernel
theorem d16_44 : own_D b'16 44 (.aload_n 0) 1 45 := by decide +kernel
theorem d16_45 : own_D b'16 45 (.iload_n 1) 1 46 := by decide +kernel
theorem d16_46 : own_D b'16 46 (.iload_n 2) 1 47 := by decide +kernel
theorem d16_47 : own_D b'16 47 (.getstatic 63) 3 50 := by decide +kernel
theorem d16_50 : own_D b'16 50 .ishr 1 51 := by decide +kernel
theorem d16_51 : own_D b'16 51 .i2b 1 52 := by decide +kernel
theorem d16_52 : own_D b'16 52 .bastore 1 53 := by decide +kernel
theorem d16_53 : own_D b'16 53 .return_ 1 54 := by decide +kernel
theorem pn_16 : plainFor (⟨"java/lang/StringUTF16", "putChar", "([BII)V"⟩ : MethodName) = true := plainFor_of_name (by first | (simp [plainName, overriddenIn]; done) | decide +kernel)
theorem rm16 (l : Launch) (Z : State) (a0 : Array Value) (hw : own_hw a0 Z) (a1 : Addr) (p2 : Int32) (p3 : Int32) (k1 : ClassId) (vs : List Value) (n i : Nat) (h0 : Heap) (n0 : Nat) (Z0 : n0 ≤ h0.size) (O0 : Old Z n0 h0) (SU_ : own_SU Z) (VA : Arv Z h0 a1 k1 .byte (Int32.ofNat n) vs v'0) (hp : p2 = Int32.ofNat i) (hn : n ≤ 1000) (hi : 2 * i + 1 < n) (hv : vs.length = n) (g1 : n0 ≤ a1) :
  own_M l Z [] own_y2 b'16 3 none ⟨0, 0, 0, 0⟩ #[(.ref a1), (.int p2), (.int p3)] h0 (QPC Z a1 k1 p3 vs n i h0 n0) := by
 obtain ⟨SAD, SHI, SLO⟩ := SU_
 refine own_start (n0 := n0) hw "java/lang/StringUTF16" (L := #[.val (.ref a1), .val (.int p2), .val (.int p3)]) pn_16 (fun {p e s m below meth c s₁} q hx W hml hZ hown hnm hlk hrt X0 e0 N0 => ?_)
 have kp0 := Keep.refl h0 [a1]
 refine own_gS X0 q hZ e0 hown (W 73 rfl) (SAD.ext O0.2) d16_0 fun T18 X18 e18 => ?_
 refine own_zy X18 q d16_3 (((if0 _ _).trans (feq ((by decide) : ¬ ((1 : Int32) = (0 : Int32)))).2)) (own_iln X18 q d16_28 rfl (own_k X18 q d16_29 (own_stp 31 (fun _ k => XS.ishl X18.here hx rfl (q.d d16_30) rfl k) (own_isn X18 q d16_31 (l' := #[.val (.ref a1), .val (.int (p2 <<< ((1 : Int32) &&& 31))), .val (.int p3)]) rfl (own_aln X18 q d16_32 rfl rfl (own_iln X18 q d16_33 rfl (own_ii X18 q d16_34 rfl (l' := #[.val (.ref a1), .val (.int ((p2 <<< ((1 : Int32) &&& 31)) + (1 : Int32))), .val (.int p3)]) rfl (own_iln X18 q d16_37 rfl ?_))))))))
 refine own_gS X18 q hZ e18 hown (W 74 rfl) (SHI.ext O0.2) d16_38 fun T19 X19 e19 => ?_
 refine own_stp 42 (fun _ k => XS.ishr X19.here hx rfl (q.d d16_41) rfl k) (own_stp 43 (fun _ k => XS.i2b X19.here hx rfl (q.d d16_42) rfl k) ?_)
 refine own_let ?_; intro g20_
 obtain ⟨cl21, Ar21, q21, S21, M21, H21, G21⟩ := id VA
 obtain ⟨T22, h22, X22, e22, W22, st22⟩ := stB X19 hx hZ e19 Ar21 (j := (p2 <<< ((1 : Int32) &&& 31))) (inb_of S21 (own_pi0 hp hn hi)) (g := g20_) rfl rfl (q.d d16_43)
 have zs23 := Nat.le_trans Z0 (Keep.of_wr W22).1
 have od23 := O0.wr W22 g1
 have kp23 := kp0.wr W22 (own_i0)
 have V22 := Arv.set Ar21 q21 S21 M21 H21 G21 (fits_nar_byte _) W22 (2 * i) (own_pj0 hp hn hi) (by rw [hv]; omega)
 have N22 := Fr.snoc X22 N0 g1
 refine own_stp 44 st22 (own_aln X22 q d16_44 rfl rfl (own_iln X22 q d16_45 rfl (own_iln X22 q d16_46 rfl ?_)))
 refine own_gS X22 q hZ e22 hown (W 75 rfl) (SLO.ext od23.2) d16_47 fun T24 X24 e24 => ?_
 refine own_stp 51 (fun _ k => XS.ishr X24.here hx rfl (q.d d16_50) rfl k) (own_stp 52 (fun _ k => XS.i2b X24.here hx rfl (q.d d16_51) rfl k) ?_)
 refine own_let ?_; intro g25_
 obtain ⟨cl26, Ar26, q26, S26, M26, H26, G26⟩ := id V22
 obtain ⟨T27, h27, X27, e27, W27, st27⟩ := stB X24 hx hZ e24 Ar26 (j := ((p2 <<< ((1 : Int32) &&& 31)) + (1 : Int32))) (inb_of S26 (own_pi1 hp hn hi)) (g := g25_) rfl rfl (q.d d16_52)
 have zs28 := Nat.le_trans zs23 (Keep.of_wr W27).1
 have od28 := od23.wr W27 g1
 have kp28 := kp23.wr W27 (own_i0)
 have V27 := Arv.set Ar26 q26 S26 M26 H26 G26 (fits_nar_byte _) W27 (2 * i + 1) (own_pj1 hp hn hi) (by rw [List.length_set]; rw [hv]; omega)
 have N27 := Fr.snoc X27 N22 g1
 refine own_stp 53 st27 ?_
 refine own_rV X27 q hrt d16_53 hlk (by decide) ?_
 show QPC Z a1 k1 p3 vs n i h0 n0 _ T27.heap _
 rw [e27]
 exact ⟨rfl, N27, kp28, V27⟩
theorem d17_0 : own_D b'17 0 (.getstatic 44) 3 3 := by decide +kernel
theorem d17_3 : own_DZ b'17 3 .ne 28 6 := by decide +kernel
theorem d17_6 : own_D b'17 6 (.iload_n 1) 1 7 := by decide +kernel
theorem d17_7 : own_DZ b'17 7 .lt 18 10 := by decide +kernel
theorem d17_10 : own_D b'17 10 (.iload_n 1) 1 11 := by decide +kernel
theorem d17_11 : own_D b'17 11 (.aload_n 0) 1 12 := by decide +kernel
theorem d17_12 : own_D b'17 12 (.invokestatic 48) 3 15 := by decide +kernel
theorem d17_15 : own_DJ b'17 15 .lt 28 18 := by decide +kernel
theorem d17_18 : own_D b'17 18 (.new 52) 3 21 := by decide +kernel
theorem d17_21 : own_D b'17 21 .dup 1 22 := by decide +kernel
theorem d17_22 : own_D b'17 22 (.ldc 54) 2 24 := by decide +kernel
theorem d17_24 : own_D b'17 24 (.invokespecial 56) 3 27 := by decide +kernel
theorem d17_27 : own_D b'17 27 .athrow 1 28 := by decide +kernel
theorem d17_28 : own_D b'17 28 (.iload_n 1) 1 29 := by decide +kernel
theorem d17_29 : own_DK b'17 29 1 30 := by decide +kernel
theorem d17_30 : own_D b'17 30 .ishl 1 31 := by decide +kernel
theorem d17_31 : own_D b'17 31 (.istore_n 1) 1 32 := by decide +kernel
theorem d17_32 : own_D b'17 32 (.aload_n 0) 1 33 := by decide +kernel
theorem d17_33 : own_D b'17 33 (.iload_n 1) 1 34 := by decide +kernel
theorem d17_34 : own_DI b'17 34 1 1 37 := by decide +kernel
theorem d17_37 : own_D b'17 37 .baload 1 38 := by decide +kernel
theorem d17_38 : own_DK b'17 38 255 41 := by decide +kernel
theorem d17_41 : own_D b'17 41 .iand 1 42 := by decide +kernel
theorem d17_42 : own_D b'17 42 (.getstatic 59) 3 45 := by decide +kernel
theorem d17_45 : own_D b'17 45 .ishl 1 46 := by decide +kernel
theorem d17_46 : own_D b'17 46 (.aload_n 0) 1 47 := by decide +kernel
theorem d17_47 : own_D b'17 47 (.iload_n 1) 1 48 := by decide +kernel
theorem d17_48 : own_D b'17 48 .baload 1 49 := by decide +kernel
theorem d17_49 : own_DK b'17 49 255 52 := by decide +kernel
theorem d17_52 : own_D b'17 52 .iand 1 53 := by decide +kernel
theorem d17_53 : own_D b'17 53 (.getstatic 63) 3 56 := by decide +kernel
theorem d17_56 : own_D b'17 56 .ishl 1 57 := by decide +kernel
theorem d17_57 : own_D b'17 57 .ior 1 58 := by decide +kernel
theorem d17_58 : own_D b'17 58 .i2c 1 59 := by decide +kernel
theorem d17_59 : own_D b'17 59 .ireturn 1 60 := by decide +kernel
theorem pn_17 : plainFor (⟨"java/lang/StringUTF16", "getChar", "([BI)C"⟩ : MethodName) = true := plainFor_of_name (by first | (simp [plainName, overriddenIn]; done) | decide +kernel)
theorem rm17 (l : Launch) (Z : State) (a0 : Array Value) (hw : own_hw a0 Z) (a1 : Addr) (p2 : Int32) (k1 : ClassId) (vs : List Value) (n i : Nat) (x : Int32) (h0 : Heap) (n0 : Nat) (Z0 : n0 ≤ h0.size) (O0 : Old Z n0 h0) (SU_ : own_SU Z) (VA : Arv Z h0 a1 k1 .byte (Int32.ofNat n) vs v'0) (hp : p2 = Int32.ofNat i) (hn : n ≤ 1000) (hi : 2 * i + 1 < n) (hx0 : vs.getD (2 * i) v'0 = (.int (nar .byte ((x >>> ((0 : Int32) &&& 31)).toInt8.toInt32)))) (hx1 : vs.getD (2 * i + 1) v'0 = (.int (nar .byte ((x >>> ((8 : Int32) &&& 31)).toInt8.toInt32)))) :
  own_M l Z [] own_y3 b'17 2 (some .char) ⟨0, 0, 0, 0⟩ #[(.ref a1), (.int p2)] h0 (QI (own_gc x) h0 n0) := by
 obtain ⟨SAD, SHI, SLO⟩ := SU_
 refine own_start (n0 := n0) hw "java/lang/StringUTF16" (L := #[.val (.ref a1), .val (.int p2)]) pn_17 (fun {p e s m below meth c s₁} q hx W hml hZ hown hnm hlk hrt X0 e0 N0 => ?_)
 refine own_gS X0 q hZ e0 hown (W 73 rfl) (SAD.ext O0.2) d17_0 fun T34 X34 e34 => ?_
 refine own_zy X34 q d17_3 (((if0 _ _).trans (feq ((by decide) : ¬ ((1 : Int32) = (0 : Int32)))).2)) (own_iln X34 q d17_28 rfl (own_k X34 q d17_29 (own_stp 31 (fun _ k => XS.ishl X34.here hx rfl (q.d d17_30) rfl k) (own_isn X34 q d17_31 (l' := #[.val (.ref a1), .val (.int (p2 <<< ((1 : Int32) &&& 31)))]) rfl (own_aln X34 q d17_32 rfl rfl (own_iln X34 q d17_33 rfl (own_ii X34 q d17_34 rfl (l' := #[.val (.ref a1), .val (.int ((p2 <<< ((1 : Int32) &&& 31)) + (1 : Int32)))]) rfl ?_)))))))
 obtain ⟨cl35, Ar35, q35, S35, M35, H35, G35⟩ := id VA
 refine own_stp 38 (fun _ k => X34.baloadBytes hx (j := (p2 <<< ((1 : Int32) &&& 31))) (v := (.int (nar .byte ((x >>> ((0 : Int32) &&& 31)).toInt8.toInt32)))) (by rw [e34]; exact Ar35.1) (State.isArrayOf_alike hZ.alike Ar35.2.1) Ar35.2.2 (inb_of S35 (own_pi0 hp hn hi)) (Has.at H35 (inb_of S35 (own_pi0 hp hn hi)) (by rw [own_pj0 hp hn hi]; exact hx0)) (g := mkF m 37 _ _) rfl rfl (q.d d17_37) _ k) (own_k X34 q d17_38 (own_stp 42 (fun _ k => XS.iand X34.here hx rfl (q.d d17_41) rfl k) ?_))
 refine own_gS X34 q hZ e34 hown (W 74 rfl) (SHI.ext O0.2) d17_42 fun T36 X36 e36 => ?_
 refine own_stp 46 (fun _ k => XS.ishl X36.here hx rfl (q.d d17_45) rfl k) (own_aln X36 q d17_46 rfl rfl (own_iln X36 q d17_47 rfl ?_))
 obtain ⟨cl37, Ar37, q37, S37, M37, H37, G37⟩ := id VA
 refine own_stp 49 (fun _ k => X36.baloadBytes hx (j := ((p2 <<< ((1 : Int32) &&& 31)) + (1 : Int32))) (v := (.int (nar .byte ((x >>> ((8 : Int32) &&& 31)).toInt8.toInt32)))) (by rw [e36]; exact Ar37.1) (State.isArrayOf_alike hZ.alike Ar37.2.1) Ar37.2.2 (inb_of S37 (own_pi1 hp hn hi)) (Has.at H37 (inb_of S37 (own_pi1 hp hn hi)) (by rw [own_pj1 hp hn hi]; exact hx1)) (g := mkF m 48 _ _) rfl rfl (q.d d17_48) _ k) (own_k X36 q d17_49 (own_stp 53 (fun _ k => XS.iand X36.here hx rfl (q.d d17_52) rfl k) ?_))
 refine own_gS X36 q hZ e36 hown (W 75 rfl) (SLO.ext O0.2) d17_53 fun T38 X38 e38 => ?_
 refine own_stp 57 (fun _ k => XS.ishl X38.here hx rfl (q.d d17_56) rfl k) (own_stp 58 (fun _ k => XS.ior X38.here hx rfl (q.d d17_57) rfl k) (own_stp 59 (fun _ k => XS.i2c X38.here hx rfl (q.d d17_58) rfl k) ?_))
 refine own_rN X38 q hrt (by simp) d17_59 hlk (by decide) ?_
 show QI (own_gc x) h0 n0 _ T38.heap _
 rw [e38]
 exact ⟨rfl, N0, rfl⟩
theorem d14_0 : own_D b'14 0 (.iload_n 0) 1 1 := by decide +kernel
theorem d14_1 : own_D b'14 1 (.invokestatic 11) 3 4 := by decide +kernel
theorem d14_4 : own_D b'14 4 (.newarray .byte) 2 6 := by decide +kernel
theorem d14_6 : own_D b'14 6 .areturn 1 7 := by decide +kernel
theorem pn_14 : plainFor (⟨"java/lang/StringUTF16", "newBytesFor", "(I)[B"⟩ : MethodName) = true := plainFor_of_name (by first | (simp [plainName, overriddenIn]; done) | decide +kernel)
theorem rm14_1 (l : Launch) (Z : State) (a0 : Array Value) (hw : own_hw a0 Z)   (h0 : Heap) (n0 : Nat) (Z0 : n0 ≤ h0.size) :
  own_M l Z [] own_y4 b'14 1 (some (.array .byte)) ⟨1, 1, 2, 12⟩ #[v'1] h0 (QNB1 Z h0 n0) := by
 refine own_start (n0 := n0) hw "java/lang/StringUTF16" (L := #[.val v'1]) pn_14 (fun {p e s m below meth c s₁} q hx W hml hZ hown hnm hlk hrt X0 e0 N0 => ?_)
 have kp0 := Keep.refl h0 []
 refine own_iln X0 q d14_0 rfl ?_
 refine own_cS X0 q hZ e0 hown hml (W 66 rfl) (W 67 rfl) (W 52 rfl) (W 68 rfl) (rm15 l Z a0 hw (1 : Int32) (2 : Int32) h0 n0 Z0 (by decide) (by decide) (by decide)) d14_1 [v'1] [] own_pd0 rfl rfl 0 (Nat.le_refl _) (by decide) (fun v43 T43 L43 X43 hQ43 => ?_)
 obtain ⟨rfl, N43q, e43⟩ := hQ43
 have N43 := Fr.app N0 N43q
 refine own_nv ?_
 refine own_let ?_; intro g44_
 obtain ⟨T45, h45, k45, X45, e45, E45, A45, st45⟩ := newP X43 hx hZ (W 26 rfl) e43 (g := g44_) rfl (q.d d14_4) rfl (by decide) (cap := 2) (by decide) (by decide) (by decide) (by decide)
 obtain ⟨b45, g45⟩ : ∃ z, z = h0.size := ⟨_, rfl⟩
 rw [← g45] at A45 st45
 have V45 : Arv Z h45 b45 k45 .byte (2 : Int32) [v'0, v'0] v'0 := (Arv.new A45 (by decide)).pad (pad_rep [] v'0 2)
 have zs46 := Nat.le_trans Z0 E45.1
 have kp46 := kp0.ext E45
 have g_b45 : n0 ≤ b45 := Nat.le_trans Z0 (Nat.le_of_eq g45.symm)
 have sz_b45 : h0.size ≤ b45 := Nat.le_trans kp0.1 (Nat.le_of_eq g45.symm)
 refine own_stp 6 st45 ?_
 refine own_rA X45 q hrt d14_6 hlk (by decide) ?_
 show QNB1 Z h0 n0 _ T45.heap _
 rw [e45]
 exact ⟨_, _, rfl, N43, own_extK kp46, sz_b45, V45⟩
theorem d13_0 : own_D b'13 0 (.iload_n 2) 1 1 := by decide +kernel
theorem d13_1 : own_D b'13 1 (.invokestatic 107) 3 4 := by decide +kernel
theorem d13_4 : own_D b'13 4 (.astore_n 3) 1 5 := by decide +kernel
theorem d13_5 : own_DK b'13 5 0 6 := by decide +kernel
theorem d13_6 : own_D b'13 6 (.istore 4) 2 8 := by decide +kernel
theorem d13_8 : own_D b'13 8 (.iload 4) 2 10 := by decide +kernel
theorem d13_10 : own_D b'13 10 (.iload_n 2) 1 11 := by decide +kernel
theorem d13_11 : own_DJ b'13 11 .ge 32 14 := by decide +kernel
theorem d13_14 : own_D b'13 14 (.aload_n 3) 1 15 := by decide +kernel
theorem d13_15 : own_D b'13 15 (.iload 4) 2 17 := by decide +kernel
theorem d13_17 : own_D b'13 17 (.aload_n 0) 1 18 := by decide +kernel
theorem d13_18 : own_D b'13 18 (.iload_n 1) 1 19 := by decide +kernel
theorem d13_19 : own_D b'13 19 .caload 1 20 := by decide +kernel
theorem d13_20 : own_D b'13 20 (.invokestatic 111) 3 23 := by decide +kernel
theorem d13_23 : own_DI b'13 23 1 1 26 := by decide +kernel
theorem d13_26 : own_DI b'13 26 4 1 29 := by decide +kernel
theorem d13_29 : own_DG b'13 29 8 := by decide +kernel
theorem d13_32 : own_D b'13 32 (.aload_n 3) 1 33 := by decide +kernel
theorem d13_33 : own_D b'13 33 .areturn 1 34 := by decide +kernel
theorem pn_13 : plainFor (⟨"java/lang/StringUTF16", "toBytes", "([CII)[B"⟩ : MethodName) = true := plainFor_of_name (by first | (simp [plainName, overriddenIn]; done) | decide +kernel)
theorem rm13_1 (l : Launch) (Z : State) (a0 : Array Value) (hw : own_hw a0 Z) (a1 : Addr) (k1 : ClassId) (x0 : Int32) (h0 : Heap) (n0 : Nat) (Z0 : n0 ≤ h0.size) (O0 : Old Z n0 h0) (SU_ : own_SU Z) (VA : Arv Z h0 a1 k1 .char (1 : Int32) [(.int x0)] v'0) :
  own_M l Z [] own_y5 b'13 5 (some (.array .byte)) ⟨2, 1, 2, 24⟩ #[(.ref a1), v'0, v'1] h0 (QTB1 Z x0 h0 n0) := by
 obtain ⟨SAD, SHI, SLO⟩ := SU_
 refine own_start (n0 := n0) hw "java/lang/StringUTF16" (L := #[.val (.ref a1), .val v'0, .val v'1, .unset, .unset]) pn_13 (fun {p e s m below meth c s₁} q hx W hml hZ hown hnm hlk hrt X0 e0 N0 => ?_)
 have kp0 := Keep.refl h0 []
 refine own_iln X0 q d13_0 rfl ?_
 refine own_cSh X0 q hZ e0 hown hml (W 63 rfl) (W 64 rfl) (W 52 rfl) (W 65 rfl) (rm14_1 l Z a0 hw h0 n0 Z0) d13_1 [v'1] [] own_pd1 rfl rfl 0 (Nat.le_refl _) (by decide) (fun v51 T51 L51 h51 e51' X51 hQ51 => ?_)
 obtain ⟨b51, k51, rfl, N51q, E51, lo51, V51⟩ := hQ51
 have N51 := Fr.app N0 N51q
 have zs52 := Nat.le_trans Z0 E51.1
 have od52 := O0.ext E51
 have kp52 := kp0.ext E51
 have g_b51 : n0 ≤ b51 := Nat.le_trans Z0 lo51
 have sz_b51 : h0.size ≤ b51 := Nat.le_trans kp0.1 lo51
 refine own_nv (own_asn X51 q d13_4 rfl (l' := #[.val (.ref a1), .val v'0, .val v'1, .val (.ref b51), .unset]) rfl (own_k X51 q d13_5 (own_is X51 q d13_6 (l' := #[.val (.ref a1), .val v'0, .val v'1, .val (.ref b51), .val v'0]) rfl (own_il X51 q d13_8 rfl (own_iln X51 q d13_10 rfl (own_cn X51 q d13_11 ((tlt ((by decide) : (0 : Int32) < (1 : Int32))).2.1) (own_aln X51 q d13_14 rfl rfl (own_il X51 q d13_15 rfl (own_aln X51 q d13_17 rfl rfl (own_iln X51 q d13_18 rfl (own_cld (v := (.int x0)) X51 q hZ e51' (VA.ext E51) d13_19 (by decide) rfl ?_)))))))))))
 refine own_cSh X51 q hZ e51' hown hml (W 70 rfl) (W 71 rfl) (W 52 rfl) (W 72 rfl) (rm16 l Z a0 hw b51 (0 : Int32) x0 k51 _ 2 0 h51 n0 zs52 od52 ⟨SAD, SHI, SLO⟩ V51 rfl (by decide) (by decide) rfl g_b51) d13_20 [(.ref b51), v'0, (.int x0)] [] own_pd2 rfl rfl 0 (Nat.le_refl _) (by decide) (fun v53 T53 L53 h53 e53' X53 hQ53 => ?_)
 obtain ⟨rfl, N53q, K53, V53⟩ := hQ53
 have N53 := Fr.app N51 N53q
 have zs54 := Nat.le_trans zs52 K53.1
 have od54 := od52.keep K53 (allS g_b51 all0)
 have kp54 := kp52.trans K53 (allS (Or.inr sz_b51) all0)
 refine own_nn (own_iik X53 q d13_23 rfl (show ((0 : Int32) + (1 : Int32)) = (1 : Int32) by decide) (l' := #[.val (.ref a1), .val v'1, .val v'1, .val (.ref b51), .val v'0]) rfl (own_iik X53 q d13_26 rfl (show ((0 : Int32) + (1 : Int32)) = (1 : Int32) by decide) (l' := #[.val (.ref a1), .val v'1, .val v'1, .val (.ref b51), .val v'1]) rfl (own_gt X53 q d13_29 (own_il X53 q d13_8 rfl (own_iln X53 q d13_10 rfl (own_cy X53 q d13_11 ((flt (Int32.lt_irrefl : ¬ ((1 : Int32) < (1 : Int32)))).2.1) (own_aln X53 q d13_32 rfl rfl ?_)))))))
 refine own_rA X53 q hrt d13_33 hlk (by decide) ?_
 show QTB1 Z x0 h0 n0 _ T53.heap _
 rw [e53']
 exact ⟨_, _, rfl, N53, own_extK kp54, sz_b51, V53⟩
theorem d10_0 : own_D b'10 0 (.iload_n 2) 1 1 := by decide +kernel
theorem d10_1 : own_D b'10 1 (.newarray .byte) 2 3 := by decide +kernel
theorem d10_3 : own_D b'10 3 (.astore_n 3) 1 4 := by decide +kernel
theorem d10_4 : own_D b'10 4 (.aload_n 0) 1 5 := by decide +kernel
theorem d10_5 : own_D b'10 5 (.iload_n 1) 1 6 := by decide +kernel
theorem d10_6 : own_D b'10 6 (.aload_n 3) 1 7 := by decide +kernel
theorem d10_7 : own_DK b'10 7 0 8 := by decide +kernel
theorem d10_8 : own_D b'10 8 (.iload_n 2) 1 9 := by decide +kernel
theorem d10_9 : own_D b'10 9 (.invokestatic 115) 3 12 := by decide +kernel
theorem d10_12 : own_D b'10 12 (.istore 4) 2 14 := by decide +kernel
theorem d10_14 : own_D b'10 14 (.iload 4) 2 16 := by decide +kernel
theorem d10_16 : own_D b'10 16 (.iload_n 2) 1 17 := by decide +kernel
theorem d10_17 : own_DJ b'10 17 .eq 57 20 := by decide +kernel
theorem d10_20 : own_D b'10 20 (.aload_n 0) 1 21 := by decide +kernel
theorem d10_21 : own_D b'10 21 (.iload_n 1) 1 22 := by decide +kernel
theorem d10_22 : own_D b'10 22 (.iload_n 2) 1 23 := by decide +kernel
theorem d10_23 : own_D b'10 23 (.invokestatic 119) 3 26 := by decide +kernel
theorem d10_26 : own_D b'10 26 (.astore 5) 2 28 := by decide +kernel
theorem d10_28 : own_D b'10 28 (.aload 5) 2 30 := by decide +kernel
theorem d10_30 : own_D b'10 30 (.iload 4) 2 32 := by decide +kernel
theorem d10_32 : own_D b'10 32 (.invokestatic 71) 3 35 := by decide +kernel
theorem d10_35 : own_DK b'10 35 255 38 := by decide +kernel
theorem d10_38 : own_DJ b'10 38 .gt 54 41 := by decide +kernel
theorem d10_41 : own_D b'10 41 (.aload 5) 2 43 := by decide +kernel
theorem d10_43 : own_DK b'10 43 0 44 := by decide +kernel
theorem d10_44 : own_D b'10 44 (.aload_n 3) 1 45 := by decide +kernel
theorem d10_45 : own_DK b'10 45 0 46 := by decide +kernel
theorem d10_46 : own_D b'10 46 (.iload_n 2) 1 47 := by decide +kernel
theorem d10_47 : own_D b'10 47 (.invokestatic 123) 3 50 := by decide +kernel
theorem d10_50 : own_D b'10 50 (.iload_n 2) 1 51 := by decide +kernel
theorem d10_51 : own_DJ b'10 51 .eq 57 54 := by decide +kernel
theorem d10_54 : own_D b'10 54 (.aload 5) 2 56 := by decide +kernel
theorem d10_56 : own_D b'10 56 .areturn 1 57 := by decide +kernel
theorem d10_57 : own_D b'10 57 (.aload_n 3) 1 58 := by decide +kernel
theorem d10_58 : own_D b'10 58 .areturn 1 59 := by decide +kernel
theorem pn_10 : plainFor (⟨"java/lang/StringUTF16", "compress", "([CII)[B"⟩ : MethodName) = true := plainFor_of_name (by first | (simp [plainName, overriddenIn]; done) | decide +kernel)
theorem rm10_1 (l : Launch) (Z : State) (a0 : Array Value) (hw : own_hw a0 Z) (a1 : Addr) (k1 : ClassId) (x0 : Int32) (h0 : Heap) (n0 : Nat) (Z0 : n0 ≤ h0.size) (O0 : Old Z n0 h0) (SU_ : own_SU Z) (VA : Arv Z h0 a1 k1 .char (1 : Int32) [(.int x0)] v'0) (hd0 : own_c16 x0) :
  own_M l Z [] own_y6 b'10 6 (some (.array .byte)) ⟨3, 2, 3, 40⟩ #[(.ref a1), v'0, v'1] h0 (QC1b Z x0 h0 n0) := by
 obtain ⟨SAD, SHI, SLO⟩ := SU_
 refine own_start (n0 := n0) hw "java/lang/StringUTF16" (L := #[.val (.ref a1), .val v'0, .val v'1, .unset, .unset, .unset]) pn_10 (fun {p e s m below meth c s₁} q hx W hml hZ hown hnm hlk hrt X0 e0 N0 => ?_)
 have hby := q.2
 have kp0 := Keep.refl h0 []
 refine own_iln X0 q d10_0 rfl ?_
 refine own_let ?_; intro g63_
 obtain ⟨T64, h64, k64, X64, e64, E64, A64, st64⟩ := newP X0 hx hZ (W 26 rfl) e0 (g := g63_) rfl (q.d d10_1) rfl (by decide) (cap := 1) (by decide) (by decide) (by decide) (by decide)
 obtain ⟨b64, g64⟩ : ∃ z, z = h0.size := ⟨_, rfl⟩
 rw [← g64] at A64 st64
 have V64 : Arv Z h64 b64 k64 .byte (1 : Int32) [v'0] v'0 := (Arv.new A64 (by decide)).pad (pad_rep [] v'0 1)
 have zs65 := Nat.le_trans Z0 E64.1
 have od65 := O0.ext E64
 have kp65 := kp0.ext E64
 have g_b64 : n0 ≤ b64 := Nat.le_trans Z0 (Nat.le_of_eq g64.symm)
 have sz_b64 : h0.size ≤ b64 := Nat.le_trans kp0.1 (Nat.le_of_eq g64.symm)
 refine own_stp 3 st64 (own_asn X64 q d10_3 rfl (l' := #[.val (.ref a1), .val v'0, .val v'1, .val (.ref b64), .unset, .unset]) rfl (own_aln X64 q d10_4 rfl rfl (own_iln X64 q d10_5 rfl (own_aln X64 q d10_6 rfl rfl (own_k X64 q d10_7 (own_iln X64 q d10_8 rfl ?_))))))
 refine own_cSh X64 q hZ e64 hown hml (W 54 rfl) (W 55 rfl) (W 52 rfl) (W 56 rfl) (rm11_1 l Z a0 hw a1 b64 k1 k64 x0 h64 n0 zs65 (VA.ext E64) V64 g_b64 (own_ne (VA).lt (Nat.le_of_eq g64.symm))) d10_9 [(.ref a1), v'0, (.ref b64), v'0, v'1] [] own_pd3 rfl rfl 0 (Nat.le_refl _) (by decide) (fun v66 T66 L66 h66 e66' X66 hQ66 => ?_)
 obtain ⟨z66, rfl, N66q, K66, D66⟩ := hQ66
 have N66 := Fr.app N0 N66q
 have zs67 := Nat.le_trans zs65 K66.1
 have od67 := od65.keep K66 (allS g_b64 all0)
 have kp67 := kp65.trans K66 (allS (Or.inr sz_b64) all0)
 refine own_nv ?_
 rcases D66 with ⟨hz, hA, hV⟩ | ⟨hz, hB⟩
 ·subst hz
  show own_Fin _ _ _ _ (T66.setTop (mkF m 12 #[.val (.ref a1), .val v'0, .val v'1, .val (.ref b64), .unset, .unset] [v'1]))
  refine own_is X66 q d10_12 (l' := #[.val (.ref a1), .val v'0, .val v'1, .val (.ref b64), .val v'1, .unset]) rfl (own_il X66 q d10_14 rfl (own_iln X66 q d10_16 rfl (own_cy X66 q d10_17 ((teq (rfl : (1 : Int32) = (1 : Int32))).1) (own_aln X66 q d10_57 rfl rfl ?_))))
  refine own_rA X66 q hrt d10_58 hlk (by decide) ?_
  show QC1b Z x0 h0 n0 _ T66.heap _
  rw [e66']
  exact ⟨_, _, rfl, N66, own_extK kp67, sz_b64, Or.inl ⟨hA, hV⟩⟩
 ·subst hz
  show own_Fin _ _ _ _ (T66.setTop (mkF m 12 #[.val (.ref a1), .val v'0, .val v'1, .val (.ref b64), .unset, .unset] [v'0]))
  refine own_is X66 q d10_12 (l' := #[.val (.ref a1), .val v'0, .val v'1, .val (.ref b64), .val v'0, .unset]) rfl (own_il X66 q d10_14 rfl (own_iln X66 q d10_16 rfl (own_cn X66 q d10_17 ((feq ((by decide) : ¬ ((0 : Int32) = (1 : Int32)))).1) (own_aln X66 q d10_20 rfl rfl (own_iln X66 q d10_21 rfl (own_iln X66 q d10_22 rfl ?_))))))
  refine own_cSh X66 q hZ e66' hown hml (W 60 rfl) (W 61 rfl) (W 52 rfl) (W 62 rfl) (rm13_1 l Z a0 hw a1 k1 x0 h66 n0 zs67 od67 ⟨SAD, SHI, SLO⟩ ((VA.ext E64).keep K66 (ninS (own_ne (VA).lt (Nat.le_of_eq g64.symm)) nin0))) d10_23 [(.ref a1), v'0, v'1] [] own_pd4 rfl rfl 0 (Nat.le_refl _) (by decide) (fun v68 T68 L68 h68 e68' X68 hQ68 => ?_)
  obtain ⟨b68, k68, rfl, N68q, E68, lo68, V68⟩ := hQ68
  have N68 := Fr.app N66 N68q
  have zs69 := Nat.le_trans zs67 E68.1
  have od69 := od67.ext E68
  have kp69 := kp67.ext E68
  have g_b68 : n0 ≤ b68 := Nat.le_trans zs67 lo68
  have sz_b68 : h0.size ≤ b68 := Nat.le_trans kp67.1 lo68
  refine own_nv (own_as X68 q d10_26 rfl (l' := #[.val (.ref a1), .val v'0, .val v'1, .val (.ref b64), .val v'0, .val (.ref b68)]) rfl (own_al X68 q d10_28 rfl rfl (own_il X68 q d10_30 rfl ?_)))
  refine own_cS X68 q hZ e68' hown hml (W 76 rfl) (W 77 rfl) (W 52 rfl) (W 78 rfl) (rm17 l Z a0 hw b68 (0 : Int32) k68 _ 2 0 x0 h68 n0 zs69 od69 ⟨SAD, SHI, SLO⟩ V68 rfl (by decide) (by decide) rfl rfl) d10_32 [(.ref b68), v'0] [] own_pd5 rfl rfl 0 (Nat.le_refl _) (by decide) (fun v70 T70 L70 X70 hQ70 => ?_)
  obtain ⟨rfl, N70q, e70⟩ := hQ70
  have N70 := Fr.app N68 N70q
  refine own_nv (own_k X70 q d10_35 (own_cy X70 q d10_38 ((tlt ((by rw [own_gcE hd0]; exact hB) : (255 : Int32) < (own_gc x0))).2.2.1) (own_al X70 q d10_54 rfl rfl ?_)))
  refine own_rA X70 q hrt d10_56 hlk (by decide) ?_
  show QC1b Z x0 h0 n0 _ T70.heap _
  rw [e70]
  exact ⟨_, _, rfl, N70, own_extK kp69, sz_b68, Or.inr ⟨hB, V68⟩⟩
theorem d12_0 : own_D b'12 0 (.iload_n 1) 1 1 := by decide +kernel
theorem d12_1 : own_D b'12 1 (.aload_n 0) 1 2 := by decide +kernel
theorem d12_2 : own_D b'12 2 .arraylength 1 3 := by decide +kernel
theorem d12_3 : own_D b'12 3 .isub 1 4 := by decide +kernel
theorem d12_4 : own_DK b'12 4 31 6 := by decide +kernel
theorem d12_6 : own_D b'12 6 .iushr 1 7 := by decide +kernel
theorem d12_7 : own_D b'12 7 .i2b 1 8 := by decide +kernel
theorem d12_8 : own_D b'12 8 .ireturn 1 9 := by decide +kernel
theorem pn_12 : plainFor (⟨"java/lang/StringUTF16", "coderFromArrayLen", "([BI)B"⟩ : MethodName) = true := plainFor_of_name (by first | (simp [plainName, overriddenIn]; done) | decide +kernel)
theorem rm12_1_1 (l : Launch) (Z : State) (a0 : Array Value) (hw : own_hw a0 Z) (a1 : Addr) (k1 : ClassId) (vs : List Value) (h0 : Heap) (n0 : Nat) (Z0 : n0 ≤ h0.size) (VA : Arv Z h0 a1 k1 .byte (1 : Int32) vs v'0) :
  own_M l Z [] own_y7 b'12 2 (some .byte) ⟨0, 0, 0, 0⟩ #[(.ref a1), v'1] h0 (QI (0 : Int32) h0 n0) := by
 refine own_start (n0 := n0) hw "java/lang/StringUTF16" (L := #[.val (.ref a1), .val v'1]) pn_12 (fun {p e s m below meth c s₁} q hx W hml hZ hown hnm hlk hrt X0 e0 N0 => ?_)
 refine own_iln X0 q d12_0 rfl (own_aln X0 q d12_1 rfl rfl (own_alen (n := (1 : Int32)) X0 q hZ e0 VA d12_2 (own_isubk 0 X0 q d12_3 (by decide) (own_k X0 q d12_4 (own_stp 7 (fun _ k => XS.iushr X0.here hx rfl (q.d d12_6) rfl k) ?_)))))
 rw [show (((0 : Int32).toUInt32 >>> ((31 : Int32) &&& 31).toUInt32).toInt32) = (0 : Int32) from by decide]
 refine own_stp 8 (fun _ k => XS.i2b X0.here hx rfl (q.d d12_7) rfl k) ?_
 rw [show ((0 : Int32).toInt8.toInt32) = (0 : Int32) from by decide]
 refine own_rN X0 q hrt (by simp) d12_8 hlk (by decide) ?_
 show QI (0 : Int32) h0 n0 _ s₁.heap _
 rw [e0]
 exact ⟨rfl, N0, rfl⟩
theorem rm12_1_2 (l : Launch) (Z : State) (a0 : Array Value) (hw : own_hw a0 Z) (a1 : Addr) (k1 : ClassId) (vs : List Value) (h0 : Heap) (n0 : Nat) (Z0 : n0 ≤ h0.size) (VA : Arv Z h0 a1 k1 .byte (2 : Int32) vs v'0) :
  own_M l Z [] own_y7 b'12 2 (some .byte) ⟨0, 0, 0, 0⟩ #[(.ref a1), v'1] h0 (QI (1 : Int32) h0 n0) := by
 refine own_start (n0 := n0) hw "java/lang/StringUTF16" (L := #[.val (.ref a1), .val v'1]) pn_12 (fun {p e s m below meth c s₁} q hx W hml hZ hown hnm hlk hrt X0 e0 N0 => ?_)
 refine own_iln X0 q d12_0 rfl (own_aln X0 q d12_1 rfl rfl (own_alen (n := (2 : Int32)) X0 q hZ e0 VA d12_2 (own_isubk (-1) X0 q d12_3 (by decide) (own_k X0 q d12_4 (own_stp 7 (fun _ k => XS.iushr X0.here hx rfl (q.d d12_6) rfl k) ?_)))))
 rw [show (((-1 : Int32).toUInt32 >>> ((31 : Int32) &&& 31).toUInt32).toInt32) = (1 : Int32) from by decide]
 refine own_stp 8 (fun _ k => XS.i2b X0.here hx rfl (q.d d12_7) rfl k) ?_
 rw [show ((1 : Int32).toInt8.toInt32) = (1 : Int32) from by decide]
 refine own_rN X0 q hrt (by simp) d12_8 hlk (by decide) ?_
 show QI (1 : Int32) h0 n0 _ s₁.heap _
 rw [e0]
 exact ⟨rfl, N0, rfl⟩
theorem d5_0 : own_D b'5 0 (.aload_n 0) 1 1 := by decide +kernel
theorem d5_1 : own_D b'5 1 (.invokespecial 1) 3 4 := by decide +kernel
theorem d5_4 : own_D b'5 4 (.iload_n 3) 1 5 := by decide +kernel
theorem d5_5 : own_DZ b'5 5 .ne 27 8 := by decide +kernel
theorem d5_8 : own_D b'5 8 (.aload_n 0) 1 9 := by decide +kernel
theorem d5_9 : own_D b'5 9 (.ldc 7) 2 11 := by decide +kernel
theorem d5_11 : own_D b'5 11 (.getfield 9) 3 14 := by decide +kernel
theorem d5_14 : own_D b'5 14 (.putfield 9) 3 17 := by decide +kernel
theorem d5_17 : own_D b'5 17 (.aload_n 0) 1 18 := by decide +kernel
theorem d5_18 : own_D b'5 18 (.ldc 7) 2 20 := by decide +kernel
theorem d5_20 : own_D b'5 20 (.getfield 15) 3 23 := by decide +kernel
theorem d5_23 : own_D b'5 23 (.putfield 15) 3 26 := by decide +kernel
theorem d5_26 : own_D b'5 26 .return_ 1 27 := by decide +kernel
theorem d5_27 : own_D b'5 27 (.getstatic 38) 3 30 := by decide +kernel
theorem d5_30 : own_DZ b'5 30 .eq 58 33 := by decide +kernel
theorem d5_33 : own_D b'5 33 (.aload_n 1) 1 34 := by decide +kernel
theorem d5_34 : own_D b'5 34 (.iload_n 2) 1 35 := by decide +kernel
theorem d5_35 : own_D b'5 35 (.iload_n 3) 1 36 := by decide +kernel
theorem d5_36 : own_D b'5 36 (.invokestatic 177) 3 39 := by decide +kernel
theorem d5_39 : own_D b'5 39 (.astore 5) 2 41 := by decide +kernel
theorem d5_41 : own_D b'5 41 (.aload_n 0) 1 42 := by decide +kernel
theorem d5_42 : own_D b'5 42 (.aload 5) 2 44 := by decide +kernel
theorem d5_44 : own_D b'5 44 (.iload_n 3) 1 45 := by decide +kernel
theorem d5_45 : own_D b'5 45 (.invokestatic 47) 3 48 := by decide +kernel
theorem d5_48 : own_D b'5 48 (.putfield 15) 3 51 := by decide +kernel
theorem d5_51 : own_D b'5 51 (.aload_n 0) 1 52 := by decide +kernel
theorem d5_52 : own_D b'5 52 (.aload 5) 2 54 := by decide +kernel
theorem d5_54 : own_D b'5 54 (.putfield 9) 3 57 := by decide +kernel
theorem d5_57 : own_D b'5 57 .return_ 1 58 := by decide +kernel
theorem d5_58 : own_D b'5 58 (.aload_n 0) 1 59 := by decide +kernel
theorem d5_59 : own_DK b'5 59 1 60 := by decide +kernel
theorem d5_60 : own_D b'5 60 (.putfield 15) 3 63 := by decide +kernel
theorem d5_63 : own_D b'5 63 (.aload_n 0) 1 64 := by decide +kernel
theorem d5_64 : own_D b'5 64 (.aload_n 1) 1 65 := by decide +kernel
theorem d5_65 : own_D b'5 65 (.iload_n 2) 1 66 := by decide +kernel
theorem d5_66 : own_D b'5 66 (.iload_n 3) 1 67 := by decide +kernel
theorem d5_67 : own_D b'5 67 (.invokestatic 180) 3 70 := by decide +kernel
theorem d5_70 : own_D b'5 70 (.putfield 9) 3 73 := by decide +kernel
theorem d5_73 : own_D b'5 73 .return_ 1 74 := by decide +kernel
theorem pn_5 : plainFor (⟨"java/lang/String", "<init>", "([CIILjava/lang/Void;)V"⟩ : MethodName) = true := plainFor_of_name (by first | (simp [plainName, overriddenIn]; done) | decide +kernel)
theorem rm5_1 (l : Launch) (Z : State) (a0 : Array Value) (hw : own_hw a0 Z) (a1 : Addr) (a2 : Addr) (k1 : ClassId) (x0 : Int32) (cs0 : Int32) (h0 : Heap) (n0 : Nat) (Z0 : n0 ≤ h0.size) (E1 : Exa Z h0 a1 "java/lang/String") (FV : F'1 Z h0 a1 .null) (FC : F'0 Z h0 a1 v'0) (VA : Arv Z h0 a2 k1 .char (1 : Int32) [(.int x0)] v'0) (g1 : n0 ≤ a1) (n12 : a1 ≠ a2) (O0 : Old Z n0 h0) (SC_ : own_SC Z cs0) (SU_ : own_SU Z) (hd0 : own_c16 x0) :
  own_M l Z [] own_y8 b'5 6 none ⟨4, 2, 3, 57⟩ #[(.ref a1), (.ref a2), v'0, v'1, .null] h0 (QI1 Z a1 x0 h0 n0) := by
 obtain ⟨SCS, hcs⟩ := SC_; obtain ⟨SAD, SHI, SLO⟩ := SU_
 refine own_start (n0 := n0) hw "java/lang/String" (L := #[.val (.ref a1), .val (.ref a2), .val v'0, .val v'1, .val .null, .unset]) pn_5 (fun {p e s m below meth c s₁} q hx W hml hZ hown hnm hlk hrt X0 e0 N0 => ?_)
 have hby := q.2
 have kp0 := Keep.refl h0 [a1]
 refine own_aln X0 q d5_0 rfl rfl ?_
 refine own_let ?_; intro g90_
 obtain ⟨T91, X91, e91, st91⟩ := initO X0 hx hZ hown (W 22 rfl) (W 23 rfl) (W 24 rfl) e0 (g := g90_) rfl (by rw [hml]; rfl) rfl (q.d d5_1) (by decide) (W := 0) (by show 2 * 0 + _ ≤ _; exact Nat.le_of_eq rfl) (by decide)
 refine own_stp 4 st91 (own_iln X91 q d5_4 rfl (own_zy X91 q d5_5 (((if0 _ _).trans (feq ((by decide) : ¬ ((1 : Int32) = (0 : Int32)))).2)) ?_))
 refine own_gS X91 q hZ e91 hown (W 44 rfl) (SCS.ext O0.2) d5_27 fun T92 X92 e92 => ?_
 refine own_zn X92 q d5_30 (((if0 _ _).trans (feq hcs).1)) (own_aln X92 q d5_33 rfl rfl (own_iln X92 q d5_34 rfl (own_iln X92 q d5_35 rfl ?_)))
 refine own_cSh X92 q hZ e92 hown hml (W 50 rfl) (W 51 rfl) (W 52 rfl) (W 53 rfl) (rm10_1 l Z a0 hw a2 k1 x0 h0 n0 Z0 O0 ⟨SAD, SHI, SLO⟩ VA hd0) d5_36 [(.ref a2), v'0, v'1] [] own_pd4 rfl rfl 0 (Nat.le_refl _) (by decide) (fun v93 T93 L93 h93 e93' X93 hQ93 => ?_)
 obtain ⟨b93, k93, rfl, N93q, E93, lo93, D93⟩ := hQ93
 have N93 := Fr.app N0 N93q
 have zs94 := Nat.le_trans Z0 E93.1
 have od94 := O0.ext E93
 have kp94 := kp0.ext E93
 have g_b93 : n0 ≤ b93 := Nat.le_trans Z0 lo93
 have sz_b93 : h0.size ≤ b93 := Nat.le_trans kp0.1 lo93
 refine own_nv ?_
 rcases D93 with ⟨hA, hV⟩ | ⟨hA, hV⟩
 ·have hV_ := hV
  show own_Fin _ _ _ _ (T93.setTop (mkF m 39 #[.val (.ref a1), .val (.ref a2), .val v'0, .val v'1, .val .null, .unset] [(.ref b93)]))
  refine own_as X93 q d5_39 rfl (l' := #[.val (.ref a1), .val (.ref a2), .val v'0, .val v'1, .val .null, .val (.ref b93)]) rfl (own_aln X93 q d5_41 rfl rfl (own_al X93 q d5_42 rfl rfl (own_iln X93 q d5_44 rfl ?_)))
  refine own_cS X93 q hZ e93' hown hml (W 57 rfl) (W 58 rfl) (W 52 rfl) (W 59 rfl) (rm12_1_1 l Z a0 hw b93 k93 _ h93 n0 zs94 hV) d5_45 [(.ref b93), v'1] [(.ref a1)] own_pd6 rfl rfl 1 (Nat.le_refl _) (by decide) (fun v95 T95 L95 X95 hQ95 => ?_)
  obtain ⟨rfl, N95q, e95⟩ := hQ95
  have N95 := Fr.app N93 N95q
  refine own_nv ?_
  refine own_let ?_; intro g96_
  obtain ⟨T97, h97, X97, e97, W97, st97⟩ := putFN X95 hx hZ hown (W 32 rfl) Via.refl e95 (FC.ext E93) (E1.ext E93) (Or.inr ⟨(W 28 rfl), rfl, hnm⟩) (W 13 rfl) (ty := .byte) (v' := v'0) (by decide) rfl rfl (g := g96_) rfl rfl (q.d d5_48)
  have zs98 := Nat.le_trans zs94 (Keep.of_wr W97).1
  have od98 := od94.wr W97 g1
  have kp98 := kp94.wr W97 (own_i0)
  have Fw97 := ((FC.ext E93)).same W97
  have N97 := Fr.snoc X97 N95 g1
  refine own_stp 51 st97 (own_aln X97 q d5_51 rfl rfl (own_al X97 q d5_52 rfl rfl ?_))
  refine own_let ?_; intro g99_
  obtain ⟨T100, h100, X100, e100, W100, st100⟩ := putF X97 hx hZ hown (host := "") (Or.inl (W 31 rfl)) Via.refl e97 ((FV.ext E93).other W97 (Or.inr (slot_ne (Or.inr (W 27 rfl)) (Or.inr (W 28 rfl)) (by decide) (t := (.array .byte)) (t' := .byte) (by decide) (by decide)))) ((E1.ext E93).wr W97) (Or.inr ⟨(W 27 rfl), rfl, hnm⟩) (W 13 rfl) (ty := (.array .byte)) (by decide) rfl rfl (g := g99_) rfl rfl (q.d d5_54)
  have zs101 := Nat.le_trans zs98 (Keep.of_wr W100).1
  have od101 := od98.wr W100 g1
  have kp101 := kp98.wr W100 (own_i0)
  have Fw100 := (((FV.ext E93).other W97 (Or.inr (slot_ne (Or.inr (W 27 rfl)) (Or.inr (W 28 rfl)) (by decide) (t := (.array .byte)) (t' := .byte) (by decide) (by decide))))).same W100
  have N100 := Fr.snoc X100 N97 g1
  refine own_stp 57 st100 ?_
  refine own_rV X100 q hrt d5_57 hlk (by decide) ?_
  show QI1 Z a1 x0 h0 n0 _ T100.heap _
  rw [e100]
  exact ⟨_, _, rfl, N100, kp101, sz_b93, Fw100, Or.inl ⟨(Fw97.other W100 (Or.inr (slot_ne (Or.inr (W 28 rfl)) (Or.inr (W 27 rfl)) (by decide) (t := .byte) (t' := (.array .byte)) (by decide) (by decide)))), hA, ((hV.other W97 (Ne.symm (own_ne (E1).lt lo93))).other W100 (Ne.symm (own_ne (E1).lt lo93)))⟩⟩
 ·have hV_ := hV
  show own_Fin _ _ _ _ (T93.setTop (mkF m 39 #[.val (.ref a1), .val (.ref a2), .val v'0, .val v'1, .val .null, .unset] [(.ref b93)]))
  refine own_as X93 q d5_39 rfl (l' := #[.val (.ref a1), .val (.ref a2), .val v'0, .val v'1, .val .null, .val (.ref b93)]) rfl (own_aln X93 q d5_41 rfl rfl (own_al X93 q d5_42 rfl rfl (own_iln X93 q d5_44 rfl ?_)))
  refine own_cS X93 q hZ e93' hown hml (W 57 rfl) (W 58 rfl) (W 52 rfl) (W 59 rfl) (rm12_1_2 l Z a0 hw b93 k93 _ h93 n0 zs94 hV) d5_45 [(.ref b93), v'1] [(.ref a1)] own_pd6 rfl rfl 1 (Nat.le_refl _) (by decide) (fun v102 T102 L102 X102 hQ102 => ?_)
  obtain ⟨rfl, N102q, e102⟩ := hQ102
  have N102 := Fr.app N93 N102q
  refine own_nv ?_
  refine own_let ?_; intro g103_
  obtain ⟨T104, h104, X104, e104, W104, st104⟩ := putFN X102 hx hZ hown (W 32 rfl) Via.refl e102 (FC.ext E93) (E1.ext E93) (Or.inr ⟨(W 28 rfl), rfl, hnm⟩) (W 13 rfl) (ty := .byte) (v' := v'1) (by decide) rfl rfl (g := g103_) rfl rfl (q.d d5_48)
  have zs105 := Nat.le_trans zs94 (Keep.of_wr W104).1
  have od105 := od94.wr W104 g1
  have kp105 := kp94.wr W104 (own_i0)
  have Fw104 := ((FC.ext E93)).same W104
  have N104 := Fr.snoc X104 N102 g1
  refine own_stp 51 st104 (own_aln X104 q d5_51 rfl rfl (own_al X104 q d5_52 rfl rfl ?_))
  refine own_let ?_; intro g106_
  obtain ⟨T107, h107, X107, e107, W107, st107⟩ := putF X104 hx hZ hown (host := "") (Or.inl (W 31 rfl)) Via.refl e104 ((FV.ext E93).other W104 (Or.inr (slot_ne (Or.inr (W 27 rfl)) (Or.inr (W 28 rfl)) (by decide) (t := (.array .byte)) (t' := .byte) (by decide) (by decide)))) ((E1.ext E93).wr W104) (Or.inr ⟨(W 27 rfl), rfl, hnm⟩) (W 13 rfl) (ty := (.array .byte)) (by decide) rfl rfl (g := g106_) rfl rfl (q.d d5_54)
  have zs108 := Nat.le_trans zs105 (Keep.of_wr W107).1
  have od108 := od105.wr W107 g1
  have kp108 := kp105.wr W107 (own_i0)
  have Fw107 := (((FV.ext E93).other W104 (Or.inr (slot_ne (Or.inr (W 27 rfl)) (Or.inr (W 28 rfl)) (by decide) (t := (.array .byte)) (t' := .byte) (by decide) (by decide))))).same W107
  have N107 := Fr.snoc X107 N104 g1
  refine own_stp 57 st107 ?_
  refine own_rV X107 q hrt d5_57 hlk (by decide) ?_
  show QI1 Z a1 x0 h0 n0 _ T107.heap _
  rw [e107]
  exact ⟨_, _, rfl, N107, kp108, sz_b93, Fw107, Or.inr ⟨(Fw104.other W107 (Or.inr (slot_ne (Or.inr (W 28 rfl)) (Or.inr (W 27 rfl)) (by decide) (t := .byte) (t' := (.array .byte)) (by decide) (by decide)))), hA, ((hV.other W104 (Ne.symm (own_ne (E1).lt lo93))).other W107 (Ne.symm (own_ne (E1).lt lo93)))⟩⟩
theorem d4_0 : own_D b'4 0 (.aload_n 0) 1 1 := by decide +kernel
theorem d4_1 : own_D b'4 1 (.aload_n 1) 1 2 := by decide +kernel
theorem d4_2 : own_DK b'4 2 0 3 := by decide +kernel
theorem d4_3 : own_D b'4 3 (.aload_n 1) 1 4 := by decide +kernel
theorem d4_4 : own_D b'4 4 .arraylength 1 5 := by decide +kernel
theorem d4_5 : own_D b'4 5 .aconst_null 1 6 := by decide +kernel
theorem d4_6 : own_D b'4 6 (.invokespecial 27) 3 9 := by decide +kernel
theorem d4_9 : own_D b'4 9 .return_ 1 10 := by decide +kernel
theorem pn_4 : plainFor (⟨"java/lang/String", "<init>", "([C)V"⟩ : MethodName) = true := plainFor_of_name (by first | (simp [plainName, overriddenIn]; done) | decide +kernel)
theorem rm4_1 (l : Launch) (Z : State) (a0 : Array Value) (hw : own_hw a0 Z) (a1 : Addr) (a2 : Addr) (k1 : ClassId) (x0 : Int32) (cs0 : Int32) (h0 : Heap) (n0 : Nat) (Z0 : n0 ≤ h0.size) (E1 : Exa Z h0 a1 "java/lang/String") (FV : F'1 Z h0 a1 .null) (FC : F'0 Z h0 a1 v'0) (VA : Arv Z h0 a2 k1 .char (1 : Int32) [(.int x0)] v'0) (g1 : n0 ≤ a1) (n12 : a1 ≠ a2) (O0 : Old Z n0 h0) (SC_ : own_SC Z cs0) (SU_ : own_SU Z) (hd0 : own_c16 x0) :
  own_M l Z [] own_y9 b'4 2 none ⟨5, 2, 3, 74⟩ #[(.ref a1), (.ref a2)] h0 (QI1 Z a1 x0 h0 n0) := by
 obtain ⟨SCS, hcs⟩ := SC_; obtain ⟨SAD, SHI, SLO⟩ := SU_
 refine own_start (n0 := n0) hw "java/lang/String" (L := #[.val (.ref a1), .val (.ref a2)]) pn_4 (fun {p e s m below meth c s₁} q hx W hml hZ hown hnm hlk hrt X0 e0 N0 => ?_)
 have kp0 := Keep.refl h0 [a1]
 refine own_aln X0 q d4_0 rfl rfl (own_aln X0 q d4_1 rfl rfl (own_k X0 q d4_2 (own_aln X0 q d4_3 rfl rfl (own_alen (n := (1 : Int32)) X0 q hZ e0 VA d4_4 (own_nl X0 q d4_5 ?_)))))
 refine own_cIh (a := a1) X0 q hZ e0 hown hml (W 18 rfl) (W 19 rfl) (W 14 rfl) (W 21 rfl) (rm5_1 l Z a0 hw a1 a2 k1 x0 cs0 h0 n0 Z0 E1 FV FC VA g1 n12 O0 ⟨SCS, hcs⟩ ⟨SAD, SHI, SLO⟩ hd0) d4_6 [(.ref a2), v'0, v'1, .null] [] own_pd7 rfl rfl 0 (Nat.le_refl _) rfl (by decide) (fun v111 T111 L111 h111 e111' X111 hQ111 => ?_)
 obtain ⟨t111, k111, rfl, N111q, K111, lo111, Fv111, D111⟩ := hQ111
 have N111 := Fr.app N0 N111q
 have zs112 := Nat.le_trans Z0 K111.1
 have od112 := O0.keep K111 (allS g1 all0)
 have kp112 := kp0.trans K111 (allS (own_i0) all0)
 have g_t111 : n0 ≤ t111 := Nat.le_trans Z0 lo111
 have sz_t111 : h0.size ≤ t111 := Nat.le_trans kp0.1 lo111
 refine own_nn ?_
 refine own_rV X111 q hrt d4_9 hlk (by decide) ?_
 show QI1 Z a1 x0 h0 n0 _ T111.heap _
 rw [e111']
 exact ⟨_, _, rfl, N111, kp112, sz_t111, Fv111, D111⟩
theorem rm11_2 (l : Launch) (Z : State) (a0 : Array Value) (hw : own_hw a0 Z) (a1 : Addr) (b : Addr) (k1 k2 : ClassId) (x0 x1 : Int32) (h0 : Heap) (n0 : Nat) (Z0 : n0 ≤ h0.size) (VA : Arv Z h0 a1 k1 .char (2 : Int32) [(.int x0), (.int x1)] v'0) (VB : Arv Z h0 b k2 .byte (2 : Int32) [v'0, v'0] v'0) (gb : n0 ≤ b) (nab : a1 ≠ b) :
  own_M l Z [] own_y1 b'11 7 (some .int) ⟨0, 0, 0, 0⟩ #[(.ref a1), v'0, (.ref b), v'0, v'2] h0 (QC2a Z b k2 x0 x1 h0 n0) := by
 refine own_start (n0 := n0) hw "java/lang/StringUTF16" (L := #[.val (.ref a1), .val v'0, .val (.ref b), .val v'0, .val v'2, .unset, .unset]) pn_11 (fun {p e s m below meth c s₁} q hx W hml hZ hown hnm hlk hrt X0 e0 N0 => ?_)
 have kp0 := Keep.refl h0 [b]
 refine own_k X0 q d11_0 (own_is X0 q d11_1 (l' := #[.val (.ref a1), .val v'0, .val (.ref b), .val v'0, .val v'2, .val v'0, .unset]) rfl (own_il X0 q d11_3 rfl (own_il X0 q d11_5 rfl (own_cn X0 q d11_7 ((tlt ((by decide) : (0 : Int32) < (2 : Int32))).2.1) (own_aln X0 q d11_10 rfl rfl (own_iln X0 q d11_11 rfl (own_cld (v := (.int x0)) X0 q hZ e0 VA d11_12 (by decide) rfl (own_is X0 q d11_13 (l' := #[.val (.ref a1), .val v'0, .val (.ref b), .val v'0, .val v'2, .val v'0, .val (.int x0)]) rfl (own_il X0 q d11_15 rfl (own_k X0 q d11_17 ?_))))))))))
 by_cases hc20_119 : (255 : Int32) < x0
 ·refine own_cn X0 q d11_20 ((tlt hc20_119).2.2.2) (own_il X0 q d11_23 rfl ?_)
  refine own_rI X0 q hrt d11_25 hlk (by decide) ?_
  show QC2a Z b k2 x0 x1 h0 n0 _ s₁.heap _
  rw [e0]
  exact ⟨_, rfl, N0, kp0, Or.inr (Or.inl ⟨rfl, hc20_119⟩)⟩
 ·refine own_cy X0 q d11_20 ((flt hc20_119).2.2.2) (own_aln X0 q d11_26 rfl rfl (own_iln X0 q d11_27 rfl (own_il X0 q d11_28 rfl (own_stp 31 (fun _ k => XS.i2b X0.here hx rfl (q.d d11_30) rfl k) ?_))))
  refine own_bst X0 q hZ e0 VB d11_31 (by decide) (Nat.le_of_ble_eq_true rfl) N0 gb fun T120 h120 X120 e120 W120 V120 N120 => ?_
  have zs121 := Nat.le_trans Z0 (Keep.of_wr W120).1
  have kp121 := kp0.wr W120 (own_i0)
  refine own_iik X120 q d11_32 rfl (show ((0 : Int32) + (1 : Int32)) = (1 : Int32) by decide) (l' := #[.val (.ref a1), .val v'1, .val (.ref b), .val v'0, .val v'2, .val v'0, .val (.int x0)]) rfl (own_iik X120 q d11_35 rfl (show ((0 : Int32) + (1 : Int32)) = (1 : Int32) by decide) (l' := #[.val (.ref a1), .val v'1, .val (.ref b), .val v'1, .val v'2, .val v'0, .val (.int x0)]) rfl (own_iik X120 q d11_38 rfl (show ((0 : Int32) + (1 : Int32)) = (1 : Int32) by decide) (l' := #[.val (.ref a1), .val v'1, .val (.ref b), .val v'1, .val v'2, .val v'1, .val (.int x0)]) rfl (own_gt X120 q d11_41 (own_il X120 q d11_3 rfl (own_il X120 q d11_5 rfl (own_cn X120 q d11_7 ((tlt ((by decide) : (1 : Int32) < (2 : Int32))).2.1) (own_aln X120 q d11_10 rfl rfl (own_iln X120 q d11_11 rfl (own_cld (v := (.int x1)) X120 q hZ e120 (VA.other W120 nab) d11_12 (by decide) rfl (own_is X120 q d11_13 (l' := #[.val (.ref a1), .val v'1, .val (.ref b), .val v'1, .val v'2, .val v'1, .val (.int x1)]) rfl (own_il X120 q d11_15 rfl ?_)))))))))))
  refine own_k X120 q d11_17 ?_
  by_cases hc20_122 : (255 : Int32) < x1
  ·refine own_cn X120 q d11_20 ((tlt hc20_122).2.2.2) (own_il X120 q d11_23 rfl ?_)
   refine own_rI X120 q hrt d11_25 hlk (by decide) ?_
   show QC2a Z b k2 x0 x1 h0 n0 _ T120.heap _
   rw [e120]
   exact ⟨_, rfl, N120, kp121, Or.inr (Or.inr ⟨rfl, hc20_122⟩)⟩
  ·refine own_cy X120 q d11_20 ((flt hc20_122).2.2.2) (own_aln X120 q d11_26 rfl rfl (own_iln X120 q d11_27 rfl (own_il X120 q d11_28 rfl (own_stp 31 (fun _ k => XS.i2b X120.here hx rfl (q.d d11_30) rfl k) ?_))))
   refine own_bst X120 q hZ e120 V120 d11_31 (by decide) (Nat.le_of_ble_eq_true rfl) N120 gb fun T123 h123 X123 e123 W123 V123 N123 => ?_
   have zs124 := Nat.le_trans zs121 (Keep.of_wr W123).1
   have kp124 := kp121.wr W123 (own_i0)
   refine own_iik X123 q d11_32 rfl (show ((1 : Int32) + (1 : Int32)) = (2 : Int32) by decide) (l' := #[.val (.ref a1), .val v'2, .val (.ref b), .val v'1, .val v'2, .val v'1, .val (.int x1)]) rfl (own_iik X123 q d11_35 rfl (show ((1 : Int32) + (1 : Int32)) = (2 : Int32) by decide) (l' := #[.val (.ref a1), .val v'2, .val (.ref b), .val v'2, .val v'2, .val v'1, .val (.int x1)]) rfl (own_iik X123 q d11_38 rfl (show ((1 : Int32) + (1 : Int32)) = (2 : Int32) by decide) (l' := #[.val (.ref a1), .val v'2, .val (.ref b), .val v'2, .val v'2, .val v'2, .val (.int x1)]) rfl (own_gt X123 q d11_41 (own_il X123 q d11_3 rfl (own_il X123 q d11_5 rfl (own_cy X123 q d11_7 ((flt (Int32.lt_irrefl : ¬ ((2 : Int32) < (2 : Int32)))).2.1) (own_il X123 q d11_44 rfl ?_)))))))
   refine own_rI X123 q hrt d11_46 hlk (by decide) ?_
   show QC2a Z b k2 x0 x1 h0 n0 _ T123.heap _
   rw [e123]
   exact ⟨_, rfl, N123, kp124, Or.inl ⟨rfl, ⟨hc20_119, hc20_122⟩, V123⟩⟩
theorem rm14_2 (l : Launch) (Z : State) (a0 : Array Value) (hw : own_hw a0 Z)   (h0 : Heap) (n0 : Nat) (Z0 : n0 ≤ h0.size) :
  own_M l Z [] own_y4 b'14 1 (some (.array .byte)) ⟨1, 1, 4, 12⟩ #[v'2] h0 (QNB2 Z h0 n0) := by
 refine own_start (n0 := n0) hw "java/lang/StringUTF16" (L := #[.val v'2]) pn_14 (fun {p e s m below meth c s₁} q hx W hml hZ hown hnm hlk hrt X0 e0 N0 => ?_)
 have kp0 := Keep.refl h0 []
 refine own_iln X0 q d14_0 rfl ?_
 refine own_cS X0 q hZ e0 hown hml (W 66 rfl) (W 67 rfl) (W 52 rfl) (W 68 rfl) (rm15 l Z a0 hw (2 : Int32) (4 : Int32) h0 n0 Z0 (by decide) (by decide) (by decide)) d14_1 [v'2] [] own_pd0 rfl rfl 0 (Nat.le_refl _) (by decide) (fun v129 T129 L129 X129 hQ129 => ?_)
 obtain ⟨rfl, N129q, e129⟩ := hQ129
 have N129 := Fr.app N0 N129q
 refine own_nv ?_
 refine own_let ?_; intro g130_
 obtain ⟨T131, h131, k131, X131, e131, E131, A131, st131⟩ := newP X129 hx hZ (W 26 rfl) e129 (g := g130_) rfl (q.d d14_4) rfl (by decide) (cap := 4) (by decide) (by decide) (by decide) (by decide)
 obtain ⟨b131, g131⟩ : ∃ z, z = h0.size := ⟨_, rfl⟩
 rw [← g131] at A131 st131
 have V131 : Arv Z h131 b131 k131 .byte (4 : Int32) [v'0, v'0, v'0, v'0] v'0 := (Arv.new A131 (by decide)).pad (pad_rep [] v'0 4)
 have zs132 := Nat.le_trans Z0 E131.1
 have kp132 := kp0.ext E131
 have g_b131 : n0 ≤ b131 := Nat.le_trans Z0 (Nat.le_of_eq g131.symm)
 have sz_b131 : h0.size ≤ b131 := Nat.le_trans kp0.1 (Nat.le_of_eq g131.symm)
 refine own_stp 6 st131 ?_
 refine own_rA X131 q hrt d14_6 hlk (by decide) ?_
 show QNB2 Z h0 n0 _ T131.heap _
 rw [e131]
 exact ⟨_, _, rfl, N129, own_extK kp132, sz_b131, V131⟩
theorem rm13_2 (l : Launch) (Z : State) (a0 : Array Value) (hw : own_hw a0 Z) (a1 : Addr) (k1 : ClassId) (x0 x1 : Int32) (h0 : Heap) (n0 : Nat) (Z0 : n0 ≤ h0.size) (O0 : Old Z n0 h0) (SU_ : own_SU Z) (VA : Arv Z h0 a1 k1 .char (2 : Int32) [(.int x0), (.int x1)] v'0) :
  own_M l Z [] own_y5 b'13 5 (some (.array .byte)) ⟨2, 1, 4, 24⟩ #[(.ref a1), v'0, v'2] h0 (QTB2 Z x0 x1 h0 n0) := by
 obtain ⟨SAD, SHI, SLO⟩ := SU_
 refine own_start (n0 := n0) hw "java/lang/StringUTF16" (L := #[.val (.ref a1), .val v'0, .val v'2, .unset, .unset]) pn_13 (fun {p e s m below meth c s₁} q hx W hml hZ hown hnm hlk hrt X0 e0 N0 => ?_)
 have kp0 := Keep.refl h0 []
 refine own_iln X0 q d13_0 rfl ?_
 refine own_cSh X0 q hZ e0 hown hml (W 63 rfl) (W 64 rfl) (W 52 rfl) (W 65 rfl) (rm14_2 l Z a0 hw h0 n0 Z0) d13_1 [v'2] [] own_pd1 rfl rfl 0 (Nat.le_refl _) (by decide) (fun v139 T139 L139 h139 e139' X139 hQ139 => ?_)
 obtain ⟨b139, k139, rfl, N139q, E139, lo139, V139⟩ := hQ139
 have N139 := Fr.app N0 N139q
 have zs140 := Nat.le_trans Z0 E139.1
 have od140 := O0.ext E139
 have kp140 := kp0.ext E139
 have g_b139 : n0 ≤ b139 := Nat.le_trans Z0 lo139
 have sz_b139 : h0.size ≤ b139 := Nat.le_trans kp0.1 lo139
 refine own_nv (own_asn X139 q d13_4 rfl (l' := #[.val (.ref a1), .val v'0, .val v'2, .val (.ref b139), .unset]) rfl (own_k X139 q d13_5 (own_is X139 q d13_6 (l' := #[.val (.ref a1), .val v'0, .val v'2, .val (.ref b139), .val v'0]) rfl (own_il X139 q d13_8 rfl (own_iln X139 q d13_10 rfl (own_cn X139 q d13_11 ((tlt ((by decide) : (0 : Int32) < (2 : Int32))).2.1) (own_aln X139 q d13_14 rfl rfl (own_il X139 q d13_15 rfl (own_aln X139 q d13_17 rfl rfl (own_iln X139 q d13_18 rfl (own_cld (v := (.int x0)) X139 q hZ e139' (VA.ext E139) d13_19 (by decide) rfl ?_)))))))))))
 refine own_cSh X139 q hZ e139' hown hml (W 70 rfl) (W 71 rfl) (W 52 rfl) (W 72 rfl) (rm16 l Z a0 hw b139 (0 : Int32) x0 k139 _ 4 0 h139 n0 zs140 od140 ⟨SAD, SHI, SLO⟩ V139 rfl (by decide) (by decide) rfl g_b139) d13_20 [(.ref b139), v'0, (.int x0)] [] own_pd2 rfl rfl 0 (Nat.le_refl _) (by decide) (fun v141 T141 L141 h141 e141' X141 hQ141 => ?_)
 obtain ⟨rfl, N141q, K141, V141⟩ := hQ141
 have N141 := Fr.app N139 N141q
 have zs142 := Nat.le_trans zs140 K141.1
 have od142 := od140.keep K141 (allS g_b139 all0)
 have kp142 := kp140.trans K141 (allS (Or.inr sz_b139) all0)
 refine own_nn (own_iik X141 q d13_23 rfl (show ((0 : Int32) + (1 : Int32)) = (1 : Int32) by decide) (l' := #[.val (.ref a1), .val v'1, .val v'2, .val (.ref b139), .val v'0]) rfl (own_iik X141 q d13_26 rfl (show ((0 : Int32) + (1 : Int32)) = (1 : Int32) by decide) (l' := #[.val (.ref a1), .val v'1, .val v'2, .val (.ref b139), .val v'1]) rfl (own_gt X141 q d13_29 (own_il X141 q d13_8 rfl (own_iln X141 q d13_10 rfl (own_cn X141 q d13_11 ((tlt ((by decide) : (1 : Int32) < (2 : Int32))).2.1) (own_aln X141 q d13_14 rfl rfl (own_il X141 q d13_15 rfl (own_aln X141 q d13_17 rfl rfl (own_iln X141 q d13_18 rfl (own_cld (v := (.int x1)) X141 q hZ e141' ((VA.ext E139).keep K141 (ninS (own_ne (VA).lt lo139) nin0)) d13_19 (by decide) rfl ?_)))))))))))
 refine own_cSh X141 q hZ e141' hown hml (W 70 rfl) (W 71 rfl) (W 52 rfl) (W 72 rfl) (rm16 l Z a0 hw b139 (1 : Int32) x1 k139 _ 4 1 h141 n0 zs142 od142 ⟨SAD, SHI, SLO⟩ V141 rfl (by decide) (by decide) rfl g_b139) d13_20 [(.ref b139), v'1, (.int x1)] [] own_pd2 rfl rfl 0 (Nat.le_refl _) (by decide) (fun v143 T143 L143 h143 e143' X143 hQ143 => ?_)
 obtain ⟨rfl, N143q, K143, V143⟩ := hQ143
 have N143 := Fr.app N141 N143q
 have zs144 := Nat.le_trans zs142 K143.1
 have od144 := od142.keep K143 (allS g_b139 all0)
 have kp144 := kp142.trans K143 (allS (Or.inr sz_b139) all0)
 refine own_nn (own_iik X143 q d13_23 rfl (show ((1 : Int32) + (1 : Int32)) = (2 : Int32) by decide) (l' := #[.val (.ref a1), .val v'2, .val v'2, .val (.ref b139), .val v'1]) rfl (own_iik X143 q d13_26 rfl (show ((1 : Int32) + (1 : Int32)) = (2 : Int32) by decide) (l' := #[.val (.ref a1), .val v'2, .val v'2, .val (.ref b139), .val v'2]) rfl (own_gt X143 q d13_29 (own_il X143 q d13_8 rfl (own_iln X143 q d13_10 rfl (own_cy X143 q d13_11 ((flt (Int32.lt_irrefl : ¬ ((2 : Int32) < (2 : Int32)))).2.1) (own_aln X143 q d13_32 rfl rfl ?_)))))))
 refine own_rA X143 q hrt d13_33 hlk (by decide) ?_
 show QTB2 Z x0 x1 h0 n0 _ T143.heap _
 rw [e143']
 exact ⟨_, _, rfl, N143, own_extK kp144, sz_b139, V143⟩
theorem rm10_2 (l : Launch) (Z : State) (a0 : Array Value) (hw : own_hw a0 Z) (a1 : Addr) (k1 : ClassId) (x0 x1 : Int32) (h0 : Heap) (n0 : Nat) (Z0 : n0 ≤ h0.size) (O0 : Old Z n0 h0) (SU_ : own_SU Z) (VA : Arv Z h0 a1 k1 .char (2 : Int32) [(.int x0), (.int x1)] v'0) (hd0 : own_c16 x0) (hd1 : own_c16 x1) :
  own_M l Z [] own_y6 b'10 6 (some (.array .byte)) ⟨3, 2, 6, 40⟩ #[(.ref a1), v'0, v'2] h0 (QC2b Z x0 x1 h0 n0) := by
 obtain ⟨SAD, SHI, SLO⟩ := SU_
 refine own_start (n0 := n0) hw "java/lang/StringUTF16" (L := #[.val (.ref a1), .val v'0, .val v'2, .unset, .unset, .unset]) pn_10 (fun {p e s m below meth c s₁} q hx W hml hZ hown hnm hlk hrt X0 e0 N0 => ?_)
 have hby := q.2
 have kp0 := Keep.refl h0 []
 refine own_iln X0 q d10_0 rfl ?_
 refine own_let ?_; intro g156_
 obtain ⟨T157, h157, k157, X157, e157, E157, A157, st157⟩ := newP X0 hx hZ (W 26 rfl) e0 (g := g156_) rfl (q.d d10_1) rfl (by decide) (cap := 2) (by decide) (by decide) (by decide) (by decide)
 obtain ⟨b157, g157⟩ : ∃ z, z = h0.size := ⟨_, rfl⟩
 rw [← g157] at A157 st157
 have V157 : Arv Z h157 b157 k157 .byte (2 : Int32) [v'0, v'0] v'0 := (Arv.new A157 (by decide)).pad (pad_rep [] v'0 2)
 have zs158 := Nat.le_trans Z0 E157.1
 have od158 := O0.ext E157
 have kp158 := kp0.ext E157
 have g_b157 : n0 ≤ b157 := Nat.le_trans Z0 (Nat.le_of_eq g157.symm)
 have sz_b157 : h0.size ≤ b157 := Nat.le_trans kp0.1 (Nat.le_of_eq g157.symm)
 refine own_stp 3 st157 (own_asn X157 q d10_3 rfl (l' := #[.val (.ref a1), .val v'0, .val v'2, .val (.ref b157), .unset, .unset]) rfl (own_aln X157 q d10_4 rfl rfl (own_iln X157 q d10_5 rfl (own_aln X157 q d10_6 rfl rfl (own_k X157 q d10_7 (own_iln X157 q d10_8 rfl ?_))))))
 refine own_cSh X157 q hZ e157 hown hml (W 54 rfl) (W 55 rfl) (W 52 rfl) (W 56 rfl) (rm11_2 l Z a0 hw a1 b157 k1 k157 x0 x1 h157 n0 zs158 (VA.ext E157) V157 g_b157 (own_ne (VA).lt (Nat.le_of_eq g157.symm))) d10_9 [(.ref a1), v'0, (.ref b157), v'0, v'2] [] own_pd3 rfl rfl 0 (Nat.le_refl _) (by decide) (fun v159 T159 L159 h159 e159' X159 hQ159 => ?_)
 obtain ⟨z159, rfl, N159q, K159, D159⟩ := hQ159
 have N159 := Fr.app N0 N159q
 have zs160 := Nat.le_trans zs158 K159.1
 have od160 := od158.keep K159 (allS g_b157 all0)
 have kp160 := kp158.trans K159 (allS (Or.inr sz_b157) all0)
 refine own_nv ?_
 rcases D159 with ⟨hz, hA, hV⟩ | ⟨hz, hB⟩ | ⟨hz, hB⟩
 ·subst hz
  show own_Fin _ _ _ _ (T159.setTop (mkF m 12 #[.val (.ref a1), .val v'0, .val v'2, .val (.ref b157), .unset, .unset] [v'2]))
  refine own_is X159 q d10_12 (l' := #[.val (.ref a1), .val v'0, .val v'2, .val (.ref b157), .val v'2, .unset]) rfl (own_il X159 q d10_14 rfl (own_iln X159 q d10_16 rfl (own_cy X159 q d10_17 ((teq (rfl : (2 : Int32) = (2 : Int32))).1) (own_aln X159 q d10_57 rfl rfl ?_))))
  refine own_rA X159 q hrt d10_58 hlk (by decide) ?_
  show QC2b Z x0 x1 h0 n0 _ T159.heap _
  rw [e159']
  exact ⟨_, _, rfl, N159, own_extK kp160, sz_b157, Or.inl ⟨hA, hV⟩⟩
 ·subst hz
  show own_Fin _ _ _ _ (T159.setTop (mkF m 12 #[.val (.ref a1), .val v'0, .val v'2, .val (.ref b157), .unset, .unset] [v'0]))
  refine own_is X159 q d10_12 (l' := #[.val (.ref a1), .val v'0, .val v'2, .val (.ref b157), .val v'0, .unset]) rfl (own_il X159 q d10_14 rfl (own_iln X159 q d10_16 rfl (own_cn X159 q d10_17 ((feq ((by decide) : ¬ ((0 : Int32) = (2 : Int32)))).1) (own_aln X159 q d10_20 rfl rfl (own_iln X159 q d10_21 rfl (own_iln X159 q d10_22 rfl ?_))))))
  refine own_cSh X159 q hZ e159' hown hml (W 60 rfl) (W 61 rfl) (W 52 rfl) (W 62 rfl) (rm13_2 l Z a0 hw a1 k1 x0 x1 h159 n0 zs160 od160 ⟨SAD, SHI, SLO⟩ ((VA.ext E157).keep K159 (ninS (own_ne (VA).lt (Nat.le_of_eq g157.symm)) nin0))) d10_23 [(.ref a1), v'0, v'2] [] own_pd4 rfl rfl 0 (Nat.le_refl _) (by decide) (fun v161 T161 L161 h161 e161' X161 hQ161 => ?_)
  obtain ⟨b161, k161, rfl, N161q, E161, lo161, V161⟩ := hQ161
  have N161 := Fr.app N159 N161q
  have zs162 := Nat.le_trans zs160 E161.1
  have od162 := od160.ext E161
  have kp162 := kp160.ext E161
  have g_b161 : n0 ≤ b161 := Nat.le_trans zs160 lo161
  have sz_b161 : h0.size ≤ b161 := Nat.le_trans kp160.1 lo161
  refine own_nv (own_as X161 q d10_26 rfl (l' := #[.val (.ref a1), .val v'0, .val v'2, .val (.ref b157), .val v'0, .val (.ref b161)]) rfl (own_al X161 q d10_28 rfl rfl (own_il X161 q d10_30 rfl ?_)))
  refine own_cS X161 q hZ e161' hown hml (W 76 rfl) (W 77 rfl) (W 52 rfl) (W 78 rfl) (rm17 l Z a0 hw b161 (0 : Int32) k161 _ 4 0 x0 h161 n0 zs162 od162 ⟨SAD, SHI, SLO⟩ V161 rfl (by decide) (by decide) rfl rfl) d10_32 [(.ref b161), v'0] [] own_pd5 rfl rfl 0 (Nat.le_refl _) (by decide) (fun v163 T163 L163 X163 hQ163 => ?_)
  obtain ⟨rfl, N163q, e163⟩ := hQ163
  have N163 := Fr.app N161 N163q
  refine own_nv (own_k X163 q d10_35 (own_cy X163 q d10_38 ((tlt ((by rw [own_gcE hd0]; exact hB) : (255 : Int32) < (own_gc x0))).2.2.1) (own_al X163 q d10_54 rfl rfl ?_)))
  refine own_rA X163 q hrt d10_56 hlk (by decide) ?_
  show QC2b Z x0 x1 h0 n0 _ T163.heap _
  rw [e163]
  exact ⟨_, _, rfl, N163, own_extK kp162, sz_b161, Or.inr ⟨(Or.inl hB), V161⟩⟩
 ·subst hz
  show own_Fin _ _ _ _ (T159.setTop (mkF m 12 #[.val (.ref a1), .val v'0, .val v'2, .val (.ref b157), .unset, .unset] [v'1]))
  refine own_is X159 q d10_12 (l' := #[.val (.ref a1), .val v'0, .val v'2, .val (.ref b157), .val v'1, .unset]) rfl (own_il X159 q d10_14 rfl (own_iln X159 q d10_16 rfl (own_cn X159 q d10_17 ((feq ((by decide) : ¬ ((1 : Int32) = (2 : Int32)))).1) (own_aln X159 q d10_20 rfl rfl (own_iln X159 q d10_21 rfl (own_iln X159 q d10_22 rfl ?_))))))
  refine own_cSh X159 q hZ e159' hown hml (W 60 rfl) (W 61 rfl) (W 52 rfl) (W 62 rfl) (rm13_2 l Z a0 hw a1 k1 x0 x1 h159 n0 zs160 od160 ⟨SAD, SHI, SLO⟩ ((VA.ext E157).keep K159 (ninS (own_ne (VA).lt (Nat.le_of_eq g157.symm)) nin0))) d10_23 [(.ref a1), v'0, v'2] [] own_pd4 rfl rfl 0 (Nat.le_refl _) (by decide) (fun v164 T164 L164 h164 e164' X164 hQ164 => ?_)
  obtain ⟨b164, k164, rfl, N164q, E164, lo164, V164⟩ := hQ164
  have N164 := Fr.app N159 N164q
  have zs165 := Nat.le_trans zs160 E164.1
  have od165 := od160.ext E164
  have kp165 := kp160.ext E164
  have g_b164 : n0 ≤ b164 := Nat.le_trans zs160 lo164
  have sz_b164 : h0.size ≤ b164 := Nat.le_trans kp160.1 lo164
  refine own_nv (own_as X164 q d10_26 rfl (l' := #[.val (.ref a1), .val v'0, .val v'2, .val (.ref b157), .val v'1, .val (.ref b164)]) rfl (own_al X164 q d10_28 rfl rfl (own_il X164 q d10_30 rfl ?_)))
  refine own_cS X164 q hZ e164' hown hml (W 76 rfl) (W 77 rfl) (W 52 rfl) (W 78 rfl) (rm17 l Z a0 hw b164 (1 : Int32) k164 _ 4 1 x1 h164 n0 zs165 od165 ⟨SAD, SHI, SLO⟩ V164 rfl (by decide) (by decide) rfl rfl) d10_32 [(.ref b164), v'1] [] own_pd5 rfl rfl 0 (Nat.le_refl _) (by decide) (fun v166 T166 L166 X166 hQ166 => ?_)
  obtain ⟨rfl, N166q, e166⟩ := hQ166
  have N166 := Fr.app N164 N166q
  refine own_nv (own_k X166 q d10_35 (own_cy X166 q d10_38 ((tlt ((by rw [own_gcE hd1]; exact hB) : (255 : Int32) < (own_gc x1))).2.2.1) (own_al X166 q d10_54 rfl rfl ?_)))
  refine own_rA X166 q hrt d10_56 hlk (by decide) ?_
  show QC2b Z x0 x1 h0 n0 _ T166.heap _
  rw [e166]
  exact ⟨_, _, rfl, N166, own_extK kp165, sz_b164, Or.inr ⟨(Or.inr hB), V164⟩⟩
theorem rm12_2_2 (l : Launch) (Z : State) (a0 : Array Value) (hw : own_hw a0 Z) (a1 : Addr) (k1 : ClassId) (vs : List Value) (h0 : Heap) (n0 : Nat) (Z0 : n0 ≤ h0.size) (VA : Arv Z h0 a1 k1 .byte (2 : Int32) vs v'0) :
  own_M l Z [] own_y7 b'12 2 (some .byte) ⟨0, 0, 0, 0⟩ #[(.ref a1), v'2] h0 (QI (0 : Int32) h0 n0) := by
 refine own_start (n0 := n0) hw "java/lang/StringUTF16" (L := #[.val (.ref a1), .val v'2]) pn_12 (fun {p e s m below meth c s₁} q hx W hml hZ hown hnm hlk hrt X0 e0 N0 => ?_)
 refine own_iln X0 q d12_0 rfl (own_aln X0 q d12_1 rfl rfl (own_alen (n := (2 : Int32)) X0 q hZ e0 VA d12_2 (own_isubk 0 X0 q d12_3 (by decide) (own_k X0 q d12_4 (own_stp 7 (fun _ k => XS.iushr X0.here hx rfl (q.d d12_6) rfl k) ?_)))))
 rw [show (((0 : Int32).toUInt32 >>> ((31 : Int32) &&& 31).toUInt32).toInt32) = (0 : Int32) from by decide]
 refine own_stp 8 (fun _ k => XS.i2b X0.here hx rfl (q.d d12_7) rfl k) ?_
 rw [show ((0 : Int32).toInt8.toInt32) = (0 : Int32) from by decide]
 refine own_rN X0 q hrt (by simp) d12_8 hlk (by decide) ?_
 show QI (0 : Int32) h0 n0 _ s₁.heap _
 rw [e0]
 exact ⟨rfl, N0, rfl⟩
theorem rm12_2_4 (l : Launch) (Z : State) (a0 : Array Value) (hw : own_hw a0 Z) (a1 : Addr) (k1 : ClassId) (vs : List Value) (h0 : Heap) (n0 : Nat) (Z0 : n0 ≤ h0.size) (VA : Arv Z h0 a1 k1 .byte (4 : Int32) vs v'0) :
  own_M l Z [] own_y7 b'12 2 (some .byte) ⟨0, 0, 0, 0⟩ #[(.ref a1), v'2] h0 (QI (1 : Int32) h0 n0) := by
 refine own_start (n0 := n0) hw "java/lang/StringUTF16" (L := #[.val (.ref a1), .val v'2]) pn_12 (fun {p e s m below meth c s₁} q hx W hml hZ hown hnm hlk hrt X0 e0 N0 => ?_)
 refine own_iln X0 q d12_0 rfl (own_aln X0 q d12_1 rfl rfl (own_alen (n := (4 : Int32)) X0 q hZ e0 VA d12_2 (own_isubk (-2) X0 q d12_3 (by decide) (own_k X0 q d12_4 (own_stp 7 (fun _ k => XS.iushr X0.here hx rfl (q.d d12_6) rfl k) ?_)))))
 rw [show (((-2 : Int32).toUInt32 >>> ((31 : Int32) &&& 31).toUInt32).toInt32) = (1 : Int32) from by decide]
 refine own_stp 8 (fun _ k => XS.i2b X0.here hx rfl (q.d d12_7) rfl k) ?_
 rw [show ((1 : Int32).toInt8.toInt32) = (1 : Int32) from by decide]
 refine own_rN X0 q hrt (by simp) d12_8 hlk (by decide) ?_
 show QI (1 : Int32) h0 n0 _ s₁.heap _
 rw [e0]
 exact ⟨rfl, N0, rfl⟩
theorem rm5_2 (l : Launch) (Z : State) (a0 : Array Value) (hw : own_hw a0 Z) (a1 : Addr) (a2 : Addr) (k1 : ClassId) (x0 x1 : Int32) (cs0 : Int32) (h0 : Heap) (n0 : Nat) (Z0 : n0 ≤ h0.size) (E1 : Exa Z h0 a1 "java/lang/String") (FV : F'1 Z h0 a1 .null) (FC : F'0 Z h0 a1 v'0) (VA : Arv Z h0 a2 k1 .char (2 : Int32) [(.int x0), (.int x1)] v'0) (g1 : n0 ≤ a1) (n12 : a1 ≠ a2) (O0 : Old Z n0 h0) (SC_ : own_SC Z cs0) (SU_ : own_SU Z) (hd0 : own_c16 x0) (hd1 : own_c16 x1) :
  own_M l Z [] own_y8 b'5 6 none ⟨4, 2, 6, 57⟩ #[(.ref a1), (.ref a2), v'0, v'2, .null] h0 (QI2 Z a1 x0 x1 h0 n0) := by
 obtain ⟨SCS, hcs⟩ := SC_; obtain ⟨SAD, SHI, SLO⟩ := SU_
 refine own_start (n0 := n0) hw "java/lang/String" (L := #[.val (.ref a1), .val (.ref a2), .val v'0, .val v'2, .val .null, .unset]) pn_5 (fun {p e s m below meth c s₁} q hx W hml hZ hown hnm hlk hrt X0 e0 N0 => ?_)
 have hby := q.2
 have kp0 := Keep.refl h0 [a1]
 refine own_aln X0 q d5_0 rfl rfl ?_
 refine own_let ?_; intro g186_
 obtain ⟨T187, X187, e187, st187⟩ := initO X0 hx hZ hown (W 22 rfl) (W 23 rfl) (W 24 rfl) e0 (g := g186_) rfl (by rw [hml]; rfl) rfl (q.d d5_1) (by decide) (W := 0) (by show 2 * 0 + _ ≤ _; exact Nat.le_of_eq rfl) (by decide)
 refine own_stp 4 st187 (own_iln X187 q d5_4 rfl (own_zy X187 q d5_5 (((if0 _ _).trans (feq ((by decide) : ¬ ((2 : Int32) = (0 : Int32)))).2)) ?_))
 refine own_gS X187 q hZ e187 hown (W 44 rfl) (SCS.ext O0.2) d5_27 fun T188 X188 e188 => ?_
 refine own_zn X188 q d5_30 (((if0 _ _).trans (feq hcs).1)) (own_aln X188 q d5_33 rfl rfl (own_iln X188 q d5_34 rfl (own_iln X188 q d5_35 rfl ?_)))
 refine own_cSh X188 q hZ e188 hown hml (W 50 rfl) (W 51 rfl) (W 52 rfl) (W 53 rfl) (rm10_2 l Z a0 hw a2 k1 x0 x1 h0 n0 Z0 O0 ⟨SAD, SHI, SLO⟩ VA hd0 hd1) d5_36 [(.ref a2), v'0, v'2] [] own_pd4 rfl rfl 0 (Nat.le_refl _) (by decide) (fun v189 T189 L189 h189 e189' X189 hQ189 => ?_)
 obtain ⟨b189, k189, rfl, N189q, E189, lo189, D189⟩ := hQ189
 have N189 := Fr.app N0 N189q
 have zs190 := Nat.le_trans Z0 E189.1
 have od190 := O0.ext E189
 have kp190 := kp0.ext E189
 have g_b189 : n0 ≤ b189 := Nat.le_trans Z0 lo189
 have sz_b189 : h0.size ≤ b189 := Nat.le_trans kp0.1 lo189
 refine own_nv ?_
 rcases D189 with ⟨hA, hV⟩ | ⟨hA, hV⟩
 ·have hV_ := hV
  show own_Fin _ _ _ _ (T189.setTop (mkF m 39 #[.val (.ref a1), .val (.ref a2), .val v'0, .val v'2, .val .null, .unset] [(.ref b189)]))
  refine own_as X189 q d5_39 rfl (l' := #[.val (.ref a1), .val (.ref a2), .val v'0, .val v'2, .val .null, .val (.ref b189)]) rfl (own_aln X189 q d5_41 rfl rfl (own_al X189 q d5_42 rfl rfl (own_iln X189 q d5_44 rfl ?_)))
  refine own_cS X189 q hZ e189' hown hml (W 57 rfl) (W 58 rfl) (W 52 rfl) (W 59 rfl) (rm12_2_2 l Z a0 hw b189 k189 _ h189 n0 zs190 hV) d5_45 [(.ref b189), v'2] [(.ref a1)] own_pd6 rfl rfl 1 (Nat.le_refl _) (by decide) (fun v191 T191 L191 X191 hQ191 => ?_)
  obtain ⟨rfl, N191q, e191⟩ := hQ191
  have N191 := Fr.app N189 N191q
  refine own_nv ?_
  refine own_let ?_; intro g192_
  obtain ⟨T193, h193, X193, e193, W193, st193⟩ := putFN X191 hx hZ hown (W 32 rfl) Via.refl e191 (FC.ext E189) (E1.ext E189) (Or.inr ⟨(W 28 rfl), rfl, hnm⟩) (W 13 rfl) (ty := .byte) (v' := v'0) (by decide) rfl rfl (g := g192_) rfl rfl (q.d d5_48)
  have zs194 := Nat.le_trans zs190 (Keep.of_wr W193).1
  have od194 := od190.wr W193 g1
  have kp194 := kp190.wr W193 (own_i0)
  have Fw193 := ((FC.ext E189)).same W193
  have N193 := Fr.snoc X193 N191 g1
  refine own_stp 51 st193 (own_aln X193 q d5_51 rfl rfl (own_al X193 q d5_52 rfl rfl ?_))
  refine own_let ?_; intro g195_
  obtain ⟨T196, h196, X196, e196, W196, st196⟩ := putF X193 hx hZ hown (host := "") (Or.inl (W 31 rfl)) Via.refl e193 ((FV.ext E189).other W193 (Or.inr (slot_ne (Or.inr (W 27 rfl)) (Or.inr (W 28 rfl)) (by decide) (t := (.array .byte)) (t' := .byte) (by decide) (by decide)))) ((E1.ext E189).wr W193) (Or.inr ⟨(W 27 rfl), rfl, hnm⟩) (W 13 rfl) (ty := (.array .byte)) (by decide) rfl rfl (g := g195_) rfl rfl (q.d d5_54)
  have zs197 := Nat.le_trans zs194 (Keep.of_wr W196).1
  have od197 := od194.wr W196 g1
  have kp197 := kp194.wr W196 (own_i0)
  have Fw196 := (((FV.ext E189).other W193 (Or.inr (slot_ne (Or.inr (W 27 rfl)) (Or.inr (W 28 rfl)) (by decide) (t := (.array .byte)) (t' := .byte) (by decide) (by decide))))).same W196
  have N196 := Fr.snoc X196 N193 g1
  refine own_stp 57 st196 ?_
  refine own_rV X196 q hrt d5_57 hlk (by decide) ?_
  show QI2 Z a1 x0 x1 h0 n0 _ T196.heap _
  rw [e196]
  exact ⟨_, _, rfl, N196, kp197, sz_b189, Fw196, Or.inl ⟨(Fw193.other W196 (Or.inr (slot_ne (Or.inr (W 28 rfl)) (Or.inr (W 27 rfl)) (by decide) (t := .byte) (t' := (.array .byte)) (by decide) (by decide)))), hA, ((hV.other W193 (Ne.symm (own_ne (E1).lt lo189))).other W196 (Ne.symm (own_ne (E1).lt lo189)))⟩⟩
 ·have hV_ := hV
  show own_Fin _ _ _ _ (T189.setTop (mkF m 39 #[.val (.ref a1), .val (.ref a2), .val v'0, .val v'2, .val .null, .unset] [(.ref b189)]))
  refine own_as X189 q d5_39 rfl (l' := #[.val (.ref a1), .val (.ref a2), .val v'0, .val v'2, .val .null, .val (.ref b189)]) rfl (own_aln X189 q d5_41 rfl rfl (own_al X189 q d5_42 rfl rfl (own_iln X189 q d5_44 rfl ?_)))
  refine own_cS X189 q hZ e189' hown hml (W 57 rfl) (W 58 rfl) (W 52 rfl) (W 59 rfl) (rm12_2_4 l Z a0 hw b189 k189 _ h189 n0 zs190 hV) d5_45 [(.ref b189), v'2] [(.ref a1)] own_pd6 rfl rfl 1 (Nat.le_refl _) (by decide) (fun v198 T198 L198 X198 hQ198 => ?_)
  obtain ⟨rfl, N198q, e198⟩ := hQ198
  have N198 := Fr.app N189 N198q
  refine own_nv ?_
  refine own_let ?_; intro g199_
  obtain ⟨T200, h200, X200, e200, W200, st200⟩ := putFN X198 hx hZ hown (W 32 rfl) Via.refl e198 (FC.ext E189) (E1.ext E189) (Or.inr ⟨(W 28 rfl), rfl, hnm⟩) (W 13 rfl) (ty := .byte) (v' := v'1) (by decide) rfl rfl (g := g199_) rfl rfl (q.d d5_48)
  have zs201 := Nat.le_trans zs190 (Keep.of_wr W200).1
  have od201 := od190.wr W200 g1
  have kp201 := kp190.wr W200 (own_i0)
  have Fw200 := ((FC.ext E189)).same W200
  have N200 := Fr.snoc X200 N198 g1
  refine own_stp 51 st200 (own_aln X200 q d5_51 rfl rfl (own_al X200 q d5_52 rfl rfl ?_))
  refine own_let ?_; intro g202_
  obtain ⟨T203, h203, X203, e203, W203, st203⟩ := putF X200 hx hZ hown (host := "") (Or.inl (W 31 rfl)) Via.refl e200 ((FV.ext E189).other W200 (Or.inr (slot_ne (Or.inr (W 27 rfl)) (Or.inr (W 28 rfl)) (by decide) (t := (.array .byte)) (t' := .byte) (by decide) (by decide)))) ((E1.ext E189).wr W200) (Or.inr ⟨(W 27 rfl), rfl, hnm⟩) (W 13 rfl) (ty := (.array .byte)) (by decide) rfl rfl (g := g202_) rfl rfl (q.d d5_54)
  have zs204 := Nat.le_trans zs201 (Keep.of_wr W203).1
  have od204 := od201.wr W203 g1
  have kp204 := kp201.wr W203 (own_i0)
  have Fw203 := (((FV.ext E189).other W200 (Or.inr (slot_ne (Or.inr (W 27 rfl)) (Or.inr (W 28 rfl)) (by decide) (t := (.array .byte)) (t' := .byte) (by decide) (by decide))))).same W203
  have N203 := Fr.snoc X203 N200 g1
  refine own_stp 57 st203 ?_
  refine own_rV X203 q hrt d5_57 hlk (by decide) ?_
  show QI2 Z a1 x0 x1 h0 n0 _ T203.heap _
  rw [e203]
  exact ⟨_, _, rfl, N203, kp204, sz_b189, Fw203, Or.inr ⟨(Fw200.other W203 (Or.inr (slot_ne (Or.inr (W 28 rfl)) (Or.inr (W 27 rfl)) (by decide) (t := .byte) (t' := (.array .byte)) (by decide) (by decide)))), hA, ((hV.other W200 (Ne.symm (own_ne (E1).lt lo189))).other W203 (Ne.symm (own_ne (E1).lt lo189)))⟩⟩
theorem rm4_2 (l : Launch) (Z : State) (a0 : Array Value) (hw : own_hw a0 Z) (a1 : Addr) (a2 : Addr) (k1 : ClassId) (x0 x1 : Int32) (cs0 : Int32) (h0 : Heap) (n0 : Nat) (Z0 : n0 ≤ h0.size) (E1 : Exa Z h0 a1 "java/lang/String") (FV : F'1 Z h0 a1 .null) (FC : F'0 Z h0 a1 v'0) (VA : Arv Z h0 a2 k1 .char (2 : Int32) [(.int x0), (.int x1)] v'0) (g1 : n0 ≤ a1) (n12 : a1 ≠ a2) (O0 : Old Z n0 h0) (SC_ : own_SC Z cs0) (SU_ : own_SU Z) (hd0 : own_c16 x0) (hd1 : own_c16 x1) :
  own_M l Z [] own_y9 b'4 2 none ⟨5, 2, 6, 74⟩ #[(.ref a1), (.ref a2)] h0 (QI2 Z a1 x0 x1 h0 n0) := by
 obtain ⟨SCS, hcs⟩ := SC_; obtain ⟨SAD, SHI, SLO⟩ := SU_
 refine own_start (n0 := n0) hw "java/lang/String" (L := #[.val (.ref a1), .val (.ref a2)]) pn_4 (fun {p e s m below meth c s₁} q hx W hml hZ hown hnm hlk hrt X0 e0 N0 => ?_)
 have kp0 := Keep.refl h0 [a1]
 refine own_aln X0 q d4_0 rfl rfl (own_aln X0 q d4_1 rfl rfl (own_k X0 q d4_2 (own_aln X0 q d4_3 rfl rfl (own_alen (n := (2 : Int32)) X0 q hZ e0 VA d4_4 (own_nl X0 q d4_5 ?_)))))
 refine own_cIh (a := a1) X0 q hZ e0 hown hml (W 18 rfl) (W 19 rfl) (W 14 rfl) (W 21 rfl) (rm5_2 l Z a0 hw a1 a2 k1 x0 x1 cs0 h0 n0 Z0 E1 FV FC VA g1 n12 O0 ⟨SCS, hcs⟩ ⟨SAD, SHI, SLO⟩ hd0 hd1) d4_6 [(.ref a2), v'0, v'2, .null] [] own_pd7 rfl rfl 0 (Nat.le_refl _) rfl (by decide) (fun v207 T207 L207 h207 e207' X207 hQ207 => ?_)
 obtain ⟨t207, k207, rfl, N207q, K207, lo207, Fv207, D207⟩ := hQ207
 have N207 := Fr.app N0 N207q
 have zs208 := Nat.le_trans Z0 K207.1
 have od208 := O0.keep K207 (allS g1 all0)
 have kp208 := kp0.trans K207 (allS (own_i0) all0)
 have g_t207 : n0 ≤ t207 := Nat.le_trans Z0 lo207
 have sz_t207 : h0.size ≤ t207 := Nat.le_trans kp0.1 lo207
 refine own_nn ?_
 refine own_rV X207 q hrt d4_9 hlk (by decide) ?_
 show QI2 Z a1 x0 x1 h0 n0 _ T207.heap _
 rw [e207']
 exact ⟨_, _, rfl, N207, kp208, sz_t207, Fv207, D207⟩
theorem rm11_3 (l : Launch) (Z : State) (a0 : Array Value) (hw : own_hw a0 Z) (a1 : Addr) (b : Addr) (k1 k2 : ClassId) (x0 x1 x2 : Int32) (h0 : Heap) (n0 : Nat) (Z0 : n0 ≤ h0.size) (VA : Arv Z h0 a1 k1 .char (3 : Int32) [(.int x0), (.int x1), (.int x2)] v'0) (VB : Arv Z h0 b k2 .byte (3 : Int32) [v'0, v'0, v'0] v'0) (gb : n0 ≤ b) (nab : a1 ≠ b) :
  own_M l Z [] own_y1 b'11 7 (some .int) ⟨0, 0, 0, 0⟩ #[(.ref a1), v'0, (.ref b), v'0, v'3] h0 (QC3a Z b k2 x0 x1 x2 h0 n0) := by
 refine own_start (n0 := n0) hw "java/lang/StringUTF16" (L := #[.val (.ref a1), .val v'0, .val (.ref b), .val v'0, .val v'3, .unset, .unset]) pn_11 (fun {p e s m below meth c s₁} q hx W hml hZ hown hnm hlk hrt X0 e0 N0 => ?_)
 have kp0 := Keep.refl h0 [b]
 refine own_k X0 q d11_0 (own_is X0 q d11_1 (l' := #[.val (.ref a1), .val v'0, .val (.ref b), .val v'0, .val v'3, .val v'0, .unset]) rfl (own_il X0 q d11_3 rfl (own_il X0 q d11_5 rfl (own_cn X0 q d11_7 ((tlt ((by decide) : (0 : Int32) < (3 : Int32))).2.1) (own_aln X0 q d11_10 rfl rfl (own_iln X0 q d11_11 rfl (own_cld (v := (.int x0)) X0 q hZ e0 VA d11_12 (by decide) rfl (own_is X0 q d11_13 (l' := #[.val (.ref a1), .val v'0, .val (.ref b), .val v'0, .val v'3, .val v'0, .val (.int x0)]) rfl (own_il X0 q d11_15 rfl (own_k X0 q d11_17 ?_))))))))))
 by_cases hc20_218 : (255 : Int32) < x0
 ·refine own_cn X0 q d11_20 ((tlt hc20_218).2.2.2) (own_il X0 q d11_23 rfl ?_)
  refine own_rI X0 q hrt d11_25 hlk (by decide) ?_
  show QC3a Z b k2 x0 x1 x2 h0 n0 _ s₁.heap _
  rw [e0]
  exact ⟨_, rfl, N0, kp0, Or.inr (Or.inl ⟨rfl, hc20_218⟩)⟩
 ·refine own_cy X0 q d11_20 ((flt hc20_218).2.2.2) (own_aln X0 q d11_26 rfl rfl (own_iln X0 q d11_27 rfl (own_il X0 q d11_28 rfl (own_stp 31 (fun _ k => XS.i2b X0.here hx rfl (q.d d11_30) rfl k) ?_))))
  refine own_bst X0 q hZ e0 VB d11_31 (by decide) (Nat.le_of_ble_eq_true rfl) N0 gb fun T219 h219 X219 e219 W219 V219 N219 => ?_
  have zs220 := Nat.le_trans Z0 (Keep.of_wr W219).1
  have kp220 := kp0.wr W219 (own_i0)
  refine own_iik X219 q d11_32 rfl (show ((0 : Int32) + (1 : Int32)) = (1 : Int32) by decide) (l' := #[.val (.ref a1), .val v'1, .val (.ref b), .val v'0, .val v'3, .val v'0, .val (.int x0)]) rfl (own_iik X219 q d11_35 rfl (show ((0 : Int32) + (1 : Int32)) = (1 : Int32) by decide) (l' := #[.val (.ref a1), .val v'1, .val (.ref b), .val v'1, .val v'3, .val v'0, .val (.int x0)]) rfl (own_iik X219 q d11_38 rfl (show ((0 : Int32) + (1 : Int32)) = (1 : Int32) by decide) (l' := #[.val (.ref a1), .val v'1, .val (.ref b), .val v'1, .val v'3, .val v'1, .val (.int x0)]) rfl (own_gt X219 q d11_41 (own_il X219 q d11_3 rfl (own_il X219 q d11_5 rfl (own_cn X219 q d11_7 ((tlt ((by decide) : (1 : Int32) < (3 : Int32))).2.1) (own_aln X219 q d11_10 rfl rfl (own_iln X219 q d11_11 rfl (own_cld (v := (.int x1)) X219 q hZ e219 (VA.other W219 nab) d11_12 (by decide) rfl (own_is X219 q d11_13 (l' := #[.val (.ref a1), .val v'1, .val (.ref b), .val v'1, .val v'3, .val v'1, .val (.int x1)]) rfl (own_il X219 q d11_15 rfl ?_)))))))))))
  refine own_k X219 q d11_17 ?_
  by_cases hc20_221 : (255 : Int32) < x1
  ·refine own_cn X219 q d11_20 ((tlt hc20_221).2.2.2) (own_il X219 q d11_23 rfl ?_)
   refine own_rI X219 q hrt d11_25 hlk (by decide) ?_
   show QC3a Z b k2 x0 x1 x2 h0 n0 _ T219.heap _
   rw [e219]
   exact ⟨_, rfl, N219, kp220, Or.inr (Or.inr (Or.inl ⟨rfl, hc20_221⟩))⟩
  ·refine own_cy X219 q d11_20 ((flt hc20_221).2.2.2) (own_aln X219 q d11_26 rfl rfl (own_iln X219 q d11_27 rfl (own_il X219 q d11_28 rfl (own_stp 31 (fun _ k => XS.i2b X219.here hx rfl (q.d d11_30) rfl k) ?_))))
   refine own_bst X219 q hZ e219 V219 d11_31 (by decide) (Nat.le_of_ble_eq_true rfl) N219 gb fun T222 h222 X222 e222 W222 V222 N222 => ?_
   have zs223 := Nat.le_trans zs220 (Keep.of_wr W222).1
   have kp223 := kp220.wr W222 (own_i0)
   refine own_iik X222 q d11_32 rfl (show ((1 : Int32) + (1 : Int32)) = (2 : Int32) by decide) (l' := #[.val (.ref a1), .val v'2, .val (.ref b), .val v'1, .val v'3, .val v'1, .val (.int x1)]) rfl (own_iik X222 q d11_35 rfl (show ((1 : Int32) + (1 : Int32)) = (2 : Int32) by decide) (l' := #[.val (.ref a1), .val v'2, .val (.ref b), .val v'2, .val v'3, .val v'1, .val (.int x1)]) rfl (own_iik X222 q d11_38 rfl (show ((1 : Int32) + (1 : Int32)) = (2 : Int32) by decide) (l' := #[.val (.ref a1), .val v'2, .val (.ref b), .val v'2, .val v'3, .val v'2, .val (.int x1)]) rfl (own_gt X222 q d11_41 (own_il X222 q d11_3 rfl (own_il X222 q d11_5 rfl (own_cn X222 q d11_7 ((tlt ((by decide) : (2 : Int32) < (3 : Int32))).2.1) (own_aln X222 q d11_10 rfl rfl (own_iln X222 q d11_11 rfl (own_cld (v := (.int x2)) X222 q hZ e222 ((VA.other W219 nab).other W222 nab) d11_12 (by decide) rfl (own_is X222 q d11_13 (l' := #[.val (.ref a1), .val v'2, .val (.ref b), .val v'2, .val v'3, .val v'2, .val (.int x2)]) rfl (own_il X222 q d11_15 rfl ?_)))))))))))
   refine own_k X222 q d11_17 ?_
   by_cases hc20_224 : (255 : Int32) < x2
   ·refine own_cn X222 q d11_20 ((tlt hc20_224).2.2.2) (own_il X222 q d11_23 rfl ?_)
    refine own_rI X222 q hrt d11_25 hlk (by decide) ?_
    show QC3a Z b k2 x0 x1 x2 h0 n0 _ T222.heap _
    rw [e222]
    exact ⟨_, rfl, N222, kp223, Or.inr (Or.inr (Or.inr ⟨rfl, hc20_224⟩))⟩
   ·refine own_cy X222 q d11_20 ((flt hc20_224).2.2.2) (own_aln X222 q d11_26 rfl rfl (own_iln X222 q d11_27 rfl (own_il X222 q d11_28 rfl (own_stp 31 (fun _ k => XS.i2b X222.here hx rfl (q.d d11_30) rfl k) ?_))))
    refine own_bst X222 q hZ e222 V222 d11_31 (by decide) (Nat.le_of_ble_eq_true rfl) N222 gb fun T225 h225 X225 e225 W225 V225 N225 => ?_
    have zs226 := Nat.le_trans zs223 (Keep.of_wr W225).1
    have kp226 := kp223.wr W225 (own_i0)
    refine own_iik X225 q d11_32 rfl (show ((2 : Int32) + (1 : Int32)) = (3 : Int32) by decide) (l' := #[.val (.ref a1), .val v'3, .val (.ref b), .val v'2, .val v'3, .val v'2, .val (.int x2)]) rfl (own_iik X225 q d11_35 rfl (show ((2 : Int32) + (1 : Int32)) = (3 : Int32) by decide) (l' := #[.val (.ref a1), .val v'3, .val (.ref b), .val v'3, .val v'3, .val v'2, .val (.int x2)]) rfl (own_iik X225 q d11_38 rfl (show ((2 : Int32) + (1 : Int32)) = (3 : Int32) by decide) (l' := #[.val (.ref a1), .val v'3, .val (.ref b), .val v'3, .val v'3, .val v'3, .val (.int x2)]) rfl (own_gt X225 q d11_41 (own_il X225 q d11_3 rfl (own_il X225 q d11_5 rfl (own_cy X225 q d11_7 ((flt (Int32.lt_irrefl : ¬ ((3 : Int32) < (3 : Int32)))).2.1) (own_il X225 q d11_44 rfl ?_)))))))
    refine own_rI X225 q hrt d11_46 hlk (by decide) ?_
    show QC3a Z b k2 x0 x1 x2 h0 n0 _ T225.heap _
    rw [e225]
    exact ⟨_, rfl, N225, kp226, Or.inl ⟨rfl, ⟨hc20_218, hc20_221, hc20_224⟩, V225⟩⟩
theorem rm14_3 (l : Launch) (Z : State) (a0 : Array Value) (hw : own_hw a0 Z)   (h0 : Heap) (n0 : Nat) (Z0 : n0 ≤ h0.size) :
  own_M l Z [] own_y4 b'14 1 (some (.array .byte)) ⟨1, 1, 6, 12⟩ #[v'3] h0 (QNB3 Z h0 n0) := by
 refine own_start (n0 := n0) hw "java/lang/StringUTF16" (L := #[.val v'3]) pn_14 (fun {p e s m below meth c s₁} q hx W hml hZ hown hnm hlk hrt X0 e0 N0 => ?_)
 have kp0 := Keep.refl h0 []
 refine own_iln X0 q d14_0 rfl ?_
 refine own_cS X0 q hZ e0 hown hml (W 66 rfl) (W 67 rfl) (W 52 rfl) (W 68 rfl) (rm15 l Z a0 hw (3 : Int32) (6 : Int32) h0 n0 Z0 (by decide) (by decide) (by decide)) d14_1 [v'3] [] own_pd0 rfl rfl 0 (Nat.le_refl _) (by decide) (fun v231 T231 L231 X231 hQ231 => ?_)
 obtain ⟨rfl, N231q, e231⟩ := hQ231
 have N231 := Fr.app N0 N231q
 refine own_nv ?_
 refine own_let ?_; intro g232_
 obtain ⟨T233, h233, k233, X233, e233, E233, A233, st233⟩ := newP X231 hx hZ (W 26 rfl) e231 (g := g232_) rfl (q.d d14_4) rfl (by decide) (cap := 6) (by decide) (by decide) (by decide) (by decide)
 obtain ⟨b233, g233⟩ : ∃ z, z = h0.size := ⟨_, rfl⟩
 rw [← g233] at A233 st233
 have V233 : Arv Z h233 b233 k233 .byte (6 : Int32) [v'0, v'0, v'0, v'0, v'0, v'0] v'0 := (Arv.new A233 (by decide)).pad (pad_rep [] v'0 6)
 have zs234 := Nat.le_trans Z0 E233.1
 have kp234 := kp0.ext E233
 have g_b233 : n0 ≤ b233 := Nat.le_trans Z0 (Nat.le_of_eq g233.symm)
 have sz_b233 : h0.size ≤ b233 := Nat.le_trans kp0.1 (Nat.le_of_eq g233.symm)
 refine own_stp 6 st233 ?_
 refine own_rA X233 q hrt d14_6 hlk (by decide) ?_
 show QNB3 Z h0 n0 _ T233.heap _
 rw [e233]
 exact ⟨_, _, rfl, N231, own_extK kp234, sz_b233, V233⟩
theorem rm13_3 (l : Launch) (Z : State) (a0 : Array Value) (hw : own_hw a0 Z) (a1 : Addr) (k1 : ClassId) (x0 x1 x2 : Int32) (h0 : Heap) (n0 : Nat) (Z0 : n0 ≤ h0.size) (O0 : Old Z n0 h0) (SU_ : own_SU Z) (VA : Arv Z h0 a1 k1 .char (3 : Int32) [(.int x0), (.int x1), (.int x2)] v'0) :
  own_M l Z [] own_y5 b'13 5 (some (.array .byte)) ⟨2, 1, 6, 24⟩ #[(.ref a1), v'0, v'3] h0 (QTB3 Z x0 x1 x2 h0 n0) := by
 obtain ⟨SAD, SHI, SLO⟩ := SU_
 refine own_start (n0 := n0) hw "java/lang/StringUTF16" (L := #[.val (.ref a1), .val v'0, .val v'3, .unset, .unset]) pn_13 (fun {p e s m below meth c s₁} q hx W hml hZ hown hnm hlk hrt X0 e0 N0 => ?_)
 have kp0 := Keep.refl h0 []
 refine own_iln X0 q d13_0 rfl ?_
 refine own_cSh X0 q hZ e0 hown hml (W 63 rfl) (W 64 rfl) (W 52 rfl) (W 65 rfl) (rm14_3 l Z a0 hw h0 n0 Z0) d13_1 [v'3] [] own_pd1 rfl rfl 0 (Nat.le_refl _) (by decide) (fun v243 T243 L243 h243 e243' X243 hQ243 => ?_)
 obtain ⟨b243, k243, rfl, N243q, E243, lo243, V243⟩ := hQ243
 have N243 := Fr.app N0 N243q
 have zs244 := Nat.le_trans Z0 E243.1
 have od244 := O0.ext E243
 have kp244 := kp0.ext E243
 have g_b243 : n0 ≤ b243 := Nat.le_trans Z0 lo243
 have sz_b243 : h0.size ≤ b243 := Nat.le_trans kp0.1 lo243
 refine own_nv (own_asn X243 q d13_4 rfl (l' := #[.val (.ref a1), .val v'0, .val v'3, .val (.ref b243), .unset]) rfl (own_k X243 q d13_5 (own_is X243 q d13_6 (l' := #[.val (.ref a1), .val v'0, .val v'3, .val (.ref b243), .val v'0]) rfl (own_il X243 q d13_8 rfl (own_iln X243 q d13_10 rfl (own_cn X243 q d13_11 ((tlt ((by decide) : (0 : Int32) < (3 : Int32))).2.1) (own_aln X243 q d13_14 rfl rfl (own_il X243 q d13_15 rfl (own_aln X243 q d13_17 rfl rfl (own_iln X243 q d13_18 rfl (own_cld (v := (.int x0)) X243 q hZ e243' (VA.ext E243) d13_19 (by decide) rfl ?_)))))))))))
 refine own_cSh X243 q hZ e243' hown hml (W 70 rfl) (W 71 rfl) (W 52 rfl) (W 72 rfl) (rm16 l Z a0 hw b243 (0 : Int32) x0 k243 _ 6 0 h243 n0 zs244 od244 ⟨SAD, SHI, SLO⟩ V243 rfl (by decide) (by decide) rfl g_b243) d13_20 [(.ref b243), v'0, (.int x0)] [] own_pd2 rfl rfl 0 (Nat.le_refl _) (by decide) (fun v245 T245 L245 h245 e245' X245 hQ245 => ?_)
 obtain ⟨rfl, N245q, K245, V245⟩ := hQ245
 have N245 := Fr.app N243 N245q
 have zs246 := Nat.le_trans zs244 K245.1
 have od246 := od244.keep K245 (allS g_b243 all0)
 have kp246 := kp244.trans K245 (allS (Or.inr sz_b243) all0)
 refine own_nn (own_iik X245 q d13_23 rfl (show ((0 : Int32) + (1 : Int32)) = (1 : Int32) by decide) (l' := #[.val (.ref a1), .val v'1, .val v'3, .val (.ref b243), .val v'0]) rfl (own_iik X245 q d13_26 rfl (show ((0 : Int32) + (1 : Int32)) = (1 : Int32) by decide) (l' := #[.val (.ref a1), .val v'1, .val v'3, .val (.ref b243), .val v'1]) rfl (own_gt X245 q d13_29 (own_il X245 q d13_8 rfl (own_iln X245 q d13_10 rfl (own_cn X245 q d13_11 ((tlt ((by decide) : (1 : Int32) < (3 : Int32))).2.1) (own_aln X245 q d13_14 rfl rfl (own_il X245 q d13_15 rfl (own_aln X245 q d13_17 rfl rfl (own_iln X245 q d13_18 rfl (own_cld (v := (.int x1)) X245 q hZ e245' ((VA.ext E243).keep K245 (ninS (own_ne (VA).lt lo243) nin0)) d13_19 (by decide) rfl ?_)))))))))))
 refine own_cSh X245 q hZ e245' hown hml (W 70 rfl) (W 71 rfl) (W 52 rfl) (W 72 rfl) (rm16 l Z a0 hw b243 (1 : Int32) x1 k243 _ 6 1 h245 n0 zs246 od246 ⟨SAD, SHI, SLO⟩ V245 rfl (by decide) (by decide) rfl g_b243) d13_20 [(.ref b243), v'1, (.int x1)] [] own_pd2 rfl rfl 0 (Nat.le_refl _) (by decide) (fun v247 T247 L247 h247 e247' X247 hQ247 => ?_)
 obtain ⟨rfl, N247q, K247, V247⟩ := hQ247
 have N247 := Fr.app N245 N247q
 have zs248 := Nat.le_trans zs246 K247.1
 have od248 := od246.keep K247 (allS g_b243 all0)
 have kp248 := kp246.trans K247 (allS (Or.inr sz_b243) all0)
 refine own_nn (own_iik X247 q d13_23 rfl (show ((1 : Int32) + (1 : Int32)) = (2 : Int32) by decide) (l' := #[.val (.ref a1), .val v'2, .val v'3, .val (.ref b243), .val v'1]) rfl (own_iik X247 q d13_26 rfl (show ((1 : Int32) + (1 : Int32)) = (2 : Int32) by decide) (l' := #[.val (.ref a1), .val v'2, .val v'3, .val (.ref b243), .val v'2]) rfl (own_gt X247 q d13_29 (own_il X247 q d13_8 rfl (own_iln X247 q d13_10 rfl (own_cn X247 q d13_11 ((tlt ((by decide) : (2 : Int32) < (3 : Int32))).2.1) (own_aln X247 q d13_14 rfl rfl (own_il X247 q d13_15 rfl (own_aln X247 q d13_17 rfl rfl (own_iln X247 q d13_18 rfl (own_cld (v := (.int x2)) X247 q hZ e247' (((VA.ext E243).keep K245 (ninS (own_ne (VA).lt lo243) nin0)).keep K247 (ninS (own_ne (VA).lt lo243) nin0)) d13_19 (by decide) rfl ?_)))))))))))
 refine own_cSh X247 q hZ e247' hown hml (W 70 rfl) (W 71 rfl) (W 52 rfl) (W 72 rfl) (rm16 l Z a0 hw b243 (2 : Int32) x2 k243 _ 6 2 h247 n0 zs248 od248 ⟨SAD, SHI, SLO⟩ V247 rfl (by decide) (by decide) rfl g_b243) d13_20 [(.ref b243), v'2, (.int x2)] [] own_pd2 rfl rfl 0 (Nat.le_refl _) (by decide) (fun v249 T249 L249 h249 e249' X249 hQ249 => ?_)
 obtain ⟨rfl, N249q, K249, V249⟩ := hQ249
 have N249 := Fr.app N247 N249q
 have zs250 := Nat.le_trans zs248 K249.1
 have od250 := od248.keep K249 (allS g_b243 all0)
 have kp250 := kp248.trans K249 (allS (Or.inr sz_b243) all0)
 refine own_nn (own_iik X249 q d13_23 rfl (show ((2 : Int32) + (1 : Int32)) = (3 : Int32) by decide) (l' := #[.val (.ref a1), .val v'3, .val v'3, .val (.ref b243), .val v'2]) rfl (own_iik X249 q d13_26 rfl (show ((2 : Int32) + (1 : Int32)) = (3 : Int32) by decide) (l' := #[.val (.ref a1), .val v'3, .val v'3, .val (.ref b243), .val v'3]) rfl (own_gt X249 q d13_29 (own_il X249 q d13_8 rfl (own_iln X249 q d13_10 rfl (own_cy X249 q d13_11 ((flt (Int32.lt_irrefl : ¬ ((3 : Int32) < (3 : Int32)))).2.1) (own_aln X249 q d13_32 rfl rfl ?_)))))))
 refine own_rA X249 q hrt d13_33 hlk (by decide) ?_
 show QTB3 Z x0 x1 x2 h0 n0 _ T249.heap _
 rw [e249']
 exact ⟨_, _, rfl, N249, own_extK kp250, sz_b243, V249⟩
theorem rm10_3 (l : Launch) (Z : State) (a0 : Array Value) (hw : own_hw a0 Z) (a1 : Addr) (k1 : ClassId) (x0 x1 x2 : Int32) (h0 : Heap) (n0 : Nat) (Z0 : n0 ≤ h0.size) (O0 : Old Z n0 h0) (SU_ : own_SU Z) (VA : Arv Z h0 a1 k1 .char (3 : Int32) [(.int x0), (.int x1), (.int x2)] v'0) (hd0 : own_c16 x0) (hd1 : own_c16 x1) (hd2 : own_c16 x2) :
  own_M l Z [] own_y6 b'10 6 (some (.array .byte)) ⟨3, 2, 9, 40⟩ #[(.ref a1), v'0, v'3] h0 (QC3b Z x0 x1 x2 h0 n0) := by
 obtain ⟨SAD, SHI, SLO⟩ := SU_
 refine own_start (n0 := n0) hw "java/lang/StringUTF16" (L := #[.val (.ref a1), .val v'0, .val v'3, .unset, .unset, .unset]) pn_10 (fun {p e s m below meth c s₁} q hx W hml hZ hown hnm hlk hrt X0 e0 N0 => ?_)
 have hby := q.2
 have kp0 := Keep.refl h0 []
 refine own_iln X0 q d10_0 rfl ?_
 refine own_let ?_; intro g265_
 obtain ⟨T266, h266, k266, X266, e266, E266, A266, st266⟩ := newP X0 hx hZ (W 26 rfl) e0 (g := g265_) rfl (q.d d10_1) rfl (by decide) (cap := 3) (by decide) (by decide) (by decide) (by decide)
 obtain ⟨b266, g266⟩ : ∃ z, z = h0.size := ⟨_, rfl⟩
 rw [← g266] at A266 st266
 have V266 : Arv Z h266 b266 k266 .byte (3 : Int32) [v'0, v'0, v'0] v'0 := (Arv.new A266 (by decide)).pad (pad_rep [] v'0 3)
 have zs267 := Nat.le_trans Z0 E266.1
 have od267 := O0.ext E266
 have kp267 := kp0.ext E266
 have g_b266 : n0 ≤ b266 := Nat.le_trans Z0 (Nat.le_of_eq g266.symm)
 have sz_b266 : h0.size ≤ b266 := Nat.le_trans kp0.1 (Nat.le_of_eq g266.symm)
 refine own_stp 3 st266 (own_asn X266 q d10_3 rfl (l' := #[.val (.ref a1), .val v'0, .val v'3, .val (.ref b266), .unset, .unset]) rfl (own_aln X266 q d10_4 rfl rfl (own_iln X266 q d10_5 rfl (own_aln X266 q d10_6 rfl rfl (own_k X266 q d10_7 (own_iln X266 q d10_8 rfl ?_))))))
 refine own_cSh X266 q hZ e266 hown hml (W 54 rfl) (W 55 rfl) (W 52 rfl) (W 56 rfl) (rm11_3 l Z a0 hw a1 b266 k1 k266 x0 x1 x2 h266 n0 zs267 (VA.ext E266) V266 g_b266 (own_ne (VA).lt (Nat.le_of_eq g266.symm))) d10_9 [(.ref a1), v'0, (.ref b266), v'0, v'3] [] own_pd3 rfl rfl 0 (Nat.le_refl _) (by decide) (fun v268 T268 L268 h268 e268' X268 hQ268 => ?_)
 obtain ⟨z268, rfl, N268q, K268, D268⟩ := hQ268
 have N268 := Fr.app N0 N268q
 have zs269 := Nat.le_trans zs267 K268.1
 have od269 := od267.keep K268 (allS g_b266 all0)
 have kp269 := kp267.trans K268 (allS (Or.inr sz_b266) all0)
 refine own_nv ?_
 rcases D268 with ⟨hz, hA, hV⟩ | ⟨hz, hB⟩ | ⟨hz, hB⟩ | ⟨hz, hB⟩
 ·subst hz
  show own_Fin _ _ _ _ (T268.setTop (mkF m 12 #[.val (.ref a1), .val v'0, .val v'3, .val (.ref b266), .unset, .unset] [v'3]))
  refine own_is X268 q d10_12 (l' := #[.val (.ref a1), .val v'0, .val v'3, .val (.ref b266), .val v'3, .unset]) rfl (own_il X268 q d10_14 rfl (own_iln X268 q d10_16 rfl (own_cy X268 q d10_17 ((teq (rfl : (3 : Int32) = (3 : Int32))).1) (own_aln X268 q d10_57 rfl rfl ?_))))
  refine own_rA X268 q hrt d10_58 hlk (by decide) ?_
  show QC3b Z x0 x1 x2 h0 n0 _ T268.heap _
  rw [e268']
  exact ⟨_, _, rfl, N268, own_extK kp269, sz_b266, Or.inl ⟨hA, hV⟩⟩
 ·subst hz
  show own_Fin _ _ _ _ (T268.setTop (mkF m 12 #[.val (.ref a1), .val v'0, .val v'3, .val (.ref b266), .unset, .unset] [v'0]))
  refine own_is X268 q d10_12 (l' := #[.val (.ref a1), .val v'0, .val v'3, .val (.ref b266), .val v'0, .unset]) rfl (own_il X268 q d10_14 rfl (own_iln X268 q d10_16 rfl (own_cn X268 q d10_17 ((feq ((by decide) : ¬ ((0 : Int32) = (3 : Int32)))).1) (own_aln X268 q d10_20 rfl rfl (own_iln X268 q d10_21 rfl (own_iln X268 q d10_22 rfl ?_))))))
  refine own_cSh X268 q hZ e268' hown hml (W 60 rfl) (W 61 rfl) (W 52 rfl) (W 62 rfl) (rm13_3 l Z a0 hw a1 k1 x0 x1 x2 h268 n0 zs269 od269 ⟨SAD, SHI, SLO⟩ ((VA.ext E266).keep K268 (ninS (own_ne (VA).lt (Nat.le_of_eq g266.symm)) nin0))) d10_23 [(.ref a1), v'0, v'3] [] own_pd4 rfl rfl 0 (Nat.le_refl _) (by decide) (fun v270 T270 L270 h270 e270' X270 hQ270 => ?_)
  obtain ⟨b270, k270, rfl, N270q, E270, lo270, V270⟩ := hQ270
  have N270 := Fr.app N268 N270q
  have zs271 := Nat.le_trans zs269 E270.1
  have od271 := od269.ext E270
  have kp271 := kp269.ext E270
  have g_b270 : n0 ≤ b270 := Nat.le_trans zs269 lo270
  have sz_b270 : h0.size ≤ b270 := Nat.le_trans kp269.1 lo270
  refine own_nv (own_as X270 q d10_26 rfl (l' := #[.val (.ref a1), .val v'0, .val v'3, .val (.ref b266), .val v'0, .val (.ref b270)]) rfl (own_al X270 q d10_28 rfl rfl (own_il X270 q d10_30 rfl ?_)))
  refine own_cS X270 q hZ e270' hown hml (W 76 rfl) (W 77 rfl) (W 52 rfl) (W 78 rfl) (rm17 l Z a0 hw b270 (0 : Int32) k270 _ 6 0 x0 h270 n0 zs271 od271 ⟨SAD, SHI, SLO⟩ V270 rfl (by decide) (by decide) rfl rfl) d10_32 [(.ref b270), v'0] [] own_pd5 rfl rfl 0 (Nat.le_refl _) (by decide) (fun v272 T272 L272 X272 hQ272 => ?_)
  obtain ⟨rfl, N272q, e272⟩ := hQ272
  have N272 := Fr.app N270 N272q
  refine own_nv (own_k X272 q d10_35 (own_cy X272 q d10_38 ((tlt ((by rw [own_gcE hd0]; exact hB) : (255 : Int32) < (own_gc x0))).2.2.1) (own_al X272 q d10_54 rfl rfl ?_)))
  refine own_rA X272 q hrt d10_56 hlk (by decide) ?_
  show QC3b Z x0 x1 x2 h0 n0 _ T272.heap _
  rw [e272]
  exact ⟨_, _, rfl, N272, own_extK kp271, sz_b270, Or.inr ⟨(Or.inl hB), V270⟩⟩
 ·subst hz
  show own_Fin _ _ _ _ (T268.setTop (mkF m 12 #[.val (.ref a1), .val v'0, .val v'3, .val (.ref b266), .unset, .unset] [v'1]))
  refine own_is X268 q d10_12 (l' := #[.val (.ref a1), .val v'0, .val v'3, .val (.ref b266), .val v'1, .unset]) rfl (own_il X268 q d10_14 rfl (own_iln X268 q d10_16 rfl (own_cn X268 q d10_17 ((feq ((by decide) : ¬ ((1 : Int32) = (3 : Int32)))).1) (own_aln X268 q d10_20 rfl rfl (own_iln X268 q d10_21 rfl (own_iln X268 q d10_22 rfl ?_))))))
  refine own_cSh X268 q hZ e268' hown hml (W 60 rfl) (W 61 rfl) (W 52 rfl) (W 62 rfl) (rm13_3 l Z a0 hw a1 k1 x0 x1 x2 h268 n0 zs269 od269 ⟨SAD, SHI, SLO⟩ ((VA.ext E266).keep K268 (ninS (own_ne (VA).lt (Nat.le_of_eq g266.symm)) nin0))) d10_23 [(.ref a1), v'0, v'3] [] own_pd4 rfl rfl 0 (Nat.le_refl _) (by decide) (fun v273 T273 L273 h273 e273' X273 hQ273 => ?_)
  obtain ⟨b273, k273, rfl, N273q, E273, lo273, V273⟩ := hQ273
  have N273 := Fr.app N268 N273q
  have zs274 := Nat.le_trans zs269 E273.1
  have od274 := od269.ext E273
  have kp274 := kp269.ext E273
  have g_b273 : n0 ≤ b273 := Nat.le_trans zs269 lo273
  have sz_b273 : h0.size ≤ b273 := Nat.le_trans kp269.1 lo273
  refine own_nv (own_as X273 q d10_26 rfl (l' := #[.val (.ref a1), .val v'0, .val v'3, .val (.ref b266), .val v'1, .val (.ref b273)]) rfl (own_al X273 q d10_28 rfl rfl (own_il X273 q d10_30 rfl ?_)))
  refine own_cS X273 q hZ e273' hown hml (W 76 rfl) (W 77 rfl) (W 52 rfl) (W 78 rfl) (rm17 l Z a0 hw b273 (1 : Int32) k273 _ 6 1 x1 h273 n0 zs274 od274 ⟨SAD, SHI, SLO⟩ V273 rfl (by decide) (by decide) rfl rfl) d10_32 [(.ref b273), v'1] [] own_pd5 rfl rfl 0 (Nat.le_refl _) (by decide) (fun v275 T275 L275 X275 hQ275 => ?_)
  obtain ⟨rfl, N275q, e275⟩ := hQ275
  have N275 := Fr.app N273 N275q
  refine own_nv (own_k X275 q d10_35 (own_cy X275 q d10_38 ((tlt ((by rw [own_gcE hd1]; exact hB) : (255 : Int32) < (own_gc x1))).2.2.1) (own_al X275 q d10_54 rfl rfl ?_)))
  refine own_rA X275 q hrt d10_56 hlk (by decide) ?_
  show QC3b Z x0 x1 x2 h0 n0 _ T275.heap _
  rw [e275]
  exact ⟨_, _, rfl, N275, own_extK kp274, sz_b273, Or.inr ⟨(Or.inr (Or.inl hB)), V273⟩⟩
 ·subst hz
  show own_Fin _ _ _ _ (T268.setTop (mkF m 12 #[.val (.ref a1), .val v'0, .val v'3, .val (.ref b266), .unset, .unset] [v'2]))
  refine own_is X268 q d10_12 (l' := #[.val (.ref a1), .val v'0, .val v'3, .val (.ref b266), .val v'2, .unset]) rfl (own_il X268 q d10_14 rfl (own_iln X268 q d10_16 rfl (own_cn X268 q d10_17 ((feq ((by decide) : ¬ ((2 : Int32) = (3 : Int32)))).1) (own_aln X268 q d10_20 rfl rfl (own_iln X268 q d10_21 rfl (own_iln X268 q d10_22 rfl ?_))))))
  refine own_cSh X268 q hZ e268' hown hml (W 60 rfl) (W 61 rfl) (W 52 rfl) (W 62 rfl) (rm13_3 l Z a0 hw a1 k1 x0 x1 x2 h268 n0 zs269 od269 ⟨SAD, SHI, SLO⟩ ((VA.ext E266).keep K268 (ninS (own_ne (VA).lt (Nat.le_of_eq g266.symm)) nin0))) d10_23 [(.ref a1), v'0, v'3] [] own_pd4 rfl rfl 0 (Nat.le_refl _) (by decide) (fun v276 T276 L276 h276 e276' X276 hQ276 => ?_)
  obtain ⟨b276, k276, rfl, N276q, E276, lo276, V276⟩ := hQ276
  have N276 := Fr.app N268 N276q
  have zs277 := Nat.le_trans zs269 E276.1
  have od277 := od269.ext E276
  have kp277 := kp269.ext E276
  have g_b276 : n0 ≤ b276 := Nat.le_trans zs269 lo276
  have sz_b276 : h0.size ≤ b276 := Nat.le_trans kp269.1 lo276
  refine own_nv (own_as X276 q d10_26 rfl (l' := #[.val (.ref a1), .val v'0, .val v'3, .val (.ref b266), .val v'2, .val (.ref b276)]) rfl (own_al X276 q d10_28 rfl rfl (own_il X276 q d10_30 rfl ?_)))
  refine own_cS X276 q hZ e276' hown hml (W 76 rfl) (W 77 rfl) (W 52 rfl) (W 78 rfl) (rm17 l Z a0 hw b276 (2 : Int32) k276 _ 6 2 x2 h276 n0 zs277 od277 ⟨SAD, SHI, SLO⟩ V276 rfl (by decide) (by decide) rfl rfl) d10_32 [(.ref b276), v'2] [] own_pd5 rfl rfl 0 (Nat.le_refl _) (by decide) (fun v278 T278 L278 X278 hQ278 => ?_)
  obtain ⟨rfl, N278q, e278⟩ := hQ278
  have N278 := Fr.app N276 N278q
  refine own_nv (own_k X278 q d10_35 (own_cy X278 q d10_38 ((tlt ((by rw [own_gcE hd2]; exact hB) : (255 : Int32) < (own_gc x2))).2.2.1) (own_al X278 q d10_54 rfl rfl ?_)))
  refine own_rA X278 q hrt d10_56 hlk (by decide) ?_
  show QC3b Z x0 x1 x2 h0 n0 _ T278.heap _
  rw [e278]
  exact ⟨_, _, rfl, N278, own_extK kp277, sz_b276, Or.inr ⟨(Or.inr (Or.inr hB)), V276⟩⟩
theorem rm12_3_3 (l : Launch) (Z : State) (a0 : Array Value) (hw : own_hw a0 Z) (a1 : Addr) (k1 : ClassId) (vs : List Value) (h0 : Heap) (n0 : Nat) (Z0 : n0 ≤ h0.size) (VA : Arv Z h0 a1 k1 .byte (3 : Int32) vs v'0) :
  own_M l Z [] own_y7 b'12 2 (some .byte) ⟨0, 0, 0, 0⟩ #[(.ref a1), v'3] h0 (QI (0 : Int32) h0 n0) := by
 refine own_start (n0 := n0) hw "java/lang/StringUTF16" (L := #[.val (.ref a1), .val v'3]) pn_12 (fun {p e s m below meth c s₁} q hx W hml hZ hown hnm hlk hrt X0 e0 N0 => ?_)
 refine own_iln X0 q d12_0 rfl (own_aln X0 q d12_1 rfl rfl (own_alen (n := (3 : Int32)) X0 q hZ e0 VA d12_2 (own_isubk 0 X0 q d12_3 (by decide) (own_k X0 q d12_4 (own_stp 7 (fun _ k => XS.iushr X0.here hx rfl (q.d d12_6) rfl k) ?_)))))
 rw [show (((0 : Int32).toUInt32 >>> ((31 : Int32) &&& 31).toUInt32).toInt32) = (0 : Int32) from by decide]
 refine own_stp 8 (fun _ k => XS.i2b X0.here hx rfl (q.d d12_7) rfl k) ?_
 rw [show ((0 : Int32).toInt8.toInt32) = (0 : Int32) from by decide]
 refine own_rN X0 q hrt (by simp) d12_8 hlk (by decide) ?_
 show QI (0 : Int32) h0 n0 _ s₁.heap _
 rw [e0]
 exact ⟨rfl, N0, rfl⟩
theorem rm12_3_6 (l : Launch) (Z : State) (a0 : Array Value) (hw : own_hw a0 Z) (a1 : Addr) (k1 : ClassId) (vs : List Value) (h0 : Heap) (n0 : Nat) (Z0 : n0 ≤ h0.size) (VA : Arv Z h0 a1 k1 .byte (6 : Int32) vs v'0) :
  own_M l Z [] own_y7 b'12 2 (some .byte) ⟨0, 0, 0, 0⟩ #[(.ref a1), v'3] h0 (QI (1 : Int32) h0 n0) := by
 refine own_start (n0 := n0) hw "java/lang/StringUTF16" (L := #[.val (.ref a1), .val v'3]) pn_12 (fun {p e s m below meth c s₁} q hx W hml hZ hown hnm hlk hrt X0 e0 N0 => ?_)
 refine own_iln X0 q d12_0 rfl (own_aln X0 q d12_1 rfl rfl (own_alen (n := (6 : Int32)) X0 q hZ e0 VA d12_2 (own_isubk (-3) X0 q d12_3 (by decide) (own_k X0 q d12_4 (own_stp 7 (fun _ k => XS.iushr X0.here hx rfl (q.d d12_6) rfl k) ?_)))))
 rw [show (((-3 : Int32).toUInt32 >>> ((31 : Int32) &&& 31).toUInt32).toInt32) = (1 : Int32) from by decide]
 refine own_stp 8 (fun _ k => XS.i2b X0.here hx rfl (q.d d12_7) rfl k) ?_
 rw [show ((1 : Int32).toInt8.toInt32) = (1 : Int32) from by decide]
 refine own_rN X0 q hrt (by simp) d12_8 hlk (by decide) ?_
 show QI (1 : Int32) h0 n0 _ s₁.heap _
 rw [e0]
 exact ⟨rfl, N0, rfl⟩
theorem rm5_3 (l : Launch) (Z : State) (a0 : Array Value) (hw : own_hw a0 Z) (a1 : Addr) (a2 : Addr) (k1 : ClassId) (x0 x1 x2 : Int32) (cs0 : Int32) (h0 : Heap) (n0 : Nat) (Z0 : n0 ≤ h0.size) (E1 : Exa Z h0 a1 "java/lang/String") (FV : F'1 Z h0 a1 .null) (FC : F'0 Z h0 a1 v'0) (VA : Arv Z h0 a2 k1 .char (3 : Int32) [(.int x0), (.int x1), (.int x2)] v'0) (g1 : n0 ≤ a1) (n12 : a1 ≠ a2) (O0 : Old Z n0 h0) (SC_ : own_SC Z cs0) (SU_ : own_SU Z) (hd0 : own_c16 x0) (hd1 : own_c16 x1) (hd2 : own_c16 x2) :
  own_M l Z [] own_y8 b'5 6 none ⟨4, 2, 9, 57⟩ #[(.ref a1), (.ref a2), v'0, v'3, .null] h0 (QI3 Z a1 x0 x1 x2 h0 n0) := by
 obtain ⟨SCS, hcs⟩ := SC_; obtain ⟨SAD, SHI, SLO⟩ := SU_
 refine own_start (n0 := n0) hw "java/lang/String" (L := #[.val (.ref a1), .val (.ref a2), .val v'0, .val v'3, .val .null, .unset]) pn_5 (fun {p e s m below meth c s₁} q hx W hml hZ hown hnm hlk hrt X0 e0 N0 => ?_)
 have hby := q.2
 have kp0 := Keep.refl h0 [a1]
 refine own_aln X0 q d5_0 rfl rfl ?_
 refine own_let ?_; intro g298_
 obtain ⟨T299, X299, e299, st299⟩ := initO X0 hx hZ hown (W 22 rfl) (W 23 rfl) (W 24 rfl) e0 (g := g298_) rfl (by rw [hml]; rfl) rfl (q.d d5_1) (by decide) (W := 0) (by show 2 * 0 + _ ≤ _; exact Nat.le_of_eq rfl) (by decide)
 refine own_stp 4 st299 (own_iln X299 q d5_4 rfl (own_zy X299 q d5_5 (((if0 _ _).trans (feq ((by decide) : ¬ ((3 : Int32) = (0 : Int32)))).2)) ?_))
 refine own_gS X299 q hZ e299 hown (W 44 rfl) (SCS.ext O0.2) d5_27 fun T300 X300 e300 => ?_
 refine own_zn X300 q d5_30 (((if0 _ _).trans (feq hcs).1)) (own_aln X300 q d5_33 rfl rfl (own_iln X300 q d5_34 rfl (own_iln X300 q d5_35 rfl ?_)))
 refine own_cSh X300 q hZ e300 hown hml (W 50 rfl) (W 51 rfl) (W 52 rfl) (W 53 rfl) (rm10_3 l Z a0 hw a2 k1 x0 x1 x2 h0 n0 Z0 O0 ⟨SAD, SHI, SLO⟩ VA hd0 hd1 hd2) d5_36 [(.ref a2), v'0, v'3] [] own_pd4 rfl rfl 0 (Nat.le_refl _) (by decide) (fun v301 T301 L301 h301 e301' X301 hQ301 => ?_)
 obtain ⟨b301, k301, rfl, N301q, E301, lo301, D301⟩ := hQ301
 have N301 := Fr.app N0 N301q
 have zs302 := Nat.le_trans Z0 E301.1
 have od302 := O0.ext E301
 have kp302 := kp0.ext E301
 have g_b301 : n0 ≤ b301 := Nat.le_trans Z0 lo301
 have sz_b301 : h0.size ≤ b301 := Nat.le_trans kp0.1 lo301
 refine own_nv ?_
 rcases D301 with ⟨hA, hV⟩ | ⟨hA, hV⟩
 ·have hV_ := hV
  show own_Fin _ _ _ _ (T301.setTop (mkF m 39 #[.val (.ref a1), .val (.ref a2), .val v'0, .val v'3, .val .null, .unset] [(.ref b301)]))
  refine own_as X301 q d5_39 rfl (l' := #[.val (.ref a1), .val (.ref a2), .val v'0, .val v'3, .val .null, .val (.ref b301)]) rfl (own_aln X301 q d5_41 rfl rfl (own_al X301 q d5_42 rfl rfl (own_iln X301 q d5_44 rfl ?_)))
  refine own_cS X301 q hZ e301' hown hml (W 57 rfl) (W 58 rfl) (W 52 rfl) (W 59 rfl) (rm12_3_3 l Z a0 hw b301 k301 _ h301 n0 zs302 hV) d5_45 [(.ref b301), v'3] [(.ref a1)] own_pd6 rfl rfl 1 (Nat.le_refl _) (by decide) (fun v303 T303 L303 X303 hQ303 => ?_)
  obtain ⟨rfl, N303q, e303⟩ := hQ303
  have N303 := Fr.app N301 N303q
  refine own_nv ?_
  refine own_let ?_; intro g304_
  obtain ⟨T305, h305, X305, e305, W305, st305⟩ := putFN X303 hx hZ hown (W 32 rfl) Via.refl e303 (FC.ext E301) (E1.ext E301) (Or.inr ⟨(W 28 rfl), rfl, hnm⟩) (W 13 rfl) (ty := .byte) (v' := v'0) (by decide) rfl rfl (g := g304_) rfl rfl (q.d d5_48)
  have zs306 := Nat.le_trans zs302 (Keep.of_wr W305).1
  have od306 := od302.wr W305 g1
  have kp306 := kp302.wr W305 (own_i0)
  have Fw305 := ((FC.ext E301)).same W305
  have N305 := Fr.snoc X305 N303 g1
  refine own_stp 51 st305 (own_aln X305 q d5_51 rfl rfl (own_al X305 q d5_52 rfl rfl ?_))
  refine own_let ?_; intro g307_
  obtain ⟨T308, h308, X308, e308, W308, st308⟩ := putF X305 hx hZ hown (host := "") (Or.inl (W 31 rfl)) Via.refl e305 ((FV.ext E301).other W305 (Or.inr (slot_ne (Or.inr (W 27 rfl)) (Or.inr (W 28 rfl)) (by decide) (t := (.array .byte)) (t' := .byte) (by decide) (by decide)))) ((E1.ext E301).wr W305) (Or.inr ⟨(W 27 rfl), rfl, hnm⟩) (W 13 rfl) (ty := (.array .byte)) (by decide) rfl rfl (g := g307_) rfl rfl (q.d d5_54)
  have zs309 := Nat.le_trans zs306 (Keep.of_wr W308).1
  have od309 := od306.wr W308 g1
  have kp309 := kp306.wr W308 (own_i0)
  have Fw308 := (((FV.ext E301).other W305 (Or.inr (slot_ne (Or.inr (W 27 rfl)) (Or.inr (W 28 rfl)) (by decide) (t := (.array .byte)) (t' := .byte) (by decide) (by decide))))).same W308
  have N308 := Fr.snoc X308 N305 g1
  refine own_stp 57 st308 ?_
  refine own_rV X308 q hrt d5_57 hlk (by decide) ?_
  show QI3 Z a1 x0 x1 x2 h0 n0 _ T308.heap _
  rw [e308]
  exact ⟨_, _, rfl, N308, kp309, sz_b301, Fw308, Or.inl ⟨(Fw305.other W308 (Or.inr (slot_ne (Or.inr (W 28 rfl)) (Or.inr (W 27 rfl)) (by decide) (t := .byte) (t' := (.array .byte)) (by decide) (by decide)))), hA, ((hV.other W305 (Ne.symm (own_ne (E1).lt lo301))).other W308 (Ne.symm (own_ne (E1).lt lo301)))⟩⟩
 ·have hV_ := hV
  show own_Fin _ _ _ _ (T301.setTop (mkF m 39 #[.val (.ref a1), .val (.ref a2), .val v'0, .val v'3, .val .null, .unset] [(.ref b301)]))
  refine own_as X301 q d5_39 rfl (l' := #[.val (.ref a1), .val (.ref a2), .val v'0, .val v'3, .val .null, .val (.ref b301)]) rfl (own_aln X301 q d5_41 rfl rfl (own_al X301 q d5_42 rfl rfl (own_iln X301 q d5_44 rfl ?_)))
  refine own_cS X301 q hZ e301' hown hml (W 57 rfl) (W 58 rfl) (W 52 rfl) (W 59 rfl) (rm12_3_6 l Z a0 hw b301 k301 _ h301 n0 zs302 hV) d5_45 [(.ref b301), v'3] [(.ref a1)] own_pd6 rfl rfl 1 (Nat.le_refl _) (by decide) (fun v310 T310 L310 X310 hQ310 => ?_)
  obtain ⟨rfl, N310q, e310⟩ := hQ310
  have N310 := Fr.app N301 N310q
  refine own_nv ?_
  refine own_let ?_; intro g311_
  obtain ⟨T312, h312, X312, e312, W312, st312⟩ := putFN X310 hx hZ hown (W 32 rfl) Via.refl e310 (FC.ext E301) (E1.ext E301) (Or.inr ⟨(W 28 rfl), rfl, hnm⟩) (W 13 rfl) (ty := .byte) (v' := v'1) (by decide) rfl rfl (g := g311_) rfl rfl (q.d d5_48)
  have zs313 := Nat.le_trans zs302 (Keep.of_wr W312).1
  have od313 := od302.wr W312 g1
  have kp313 := kp302.wr W312 (own_i0)
  have Fw312 := ((FC.ext E301)).same W312
  have N312 := Fr.snoc X312 N310 g1
  refine own_stp 51 st312 (own_aln X312 q d5_51 rfl rfl (own_al X312 q d5_52 rfl rfl ?_))
  refine own_let ?_; intro g314_
  obtain ⟨T315, h315, X315, e315, W315, st315⟩ := putF X312 hx hZ hown (host := "") (Or.inl (W 31 rfl)) Via.refl e312 ((FV.ext E301).other W312 (Or.inr (slot_ne (Or.inr (W 27 rfl)) (Or.inr (W 28 rfl)) (by decide) (t := (.array .byte)) (t' := .byte) (by decide) (by decide)))) ((E1.ext E301).wr W312) (Or.inr ⟨(W 27 rfl), rfl, hnm⟩) (W 13 rfl) (ty := (.array .byte)) (by decide) rfl rfl (g := g314_) rfl rfl (q.d d5_54)
  have zs316 := Nat.le_trans zs313 (Keep.of_wr W315).1
  have od316 := od313.wr W315 g1
  have kp316 := kp313.wr W315 (own_i0)
  have Fw315 := (((FV.ext E301).other W312 (Or.inr (slot_ne (Or.inr (W 27 rfl)) (Or.inr (W 28 rfl)) (by decide) (t := (.array .byte)) (t' := .byte) (by decide) (by decide))))).same W315
  have N315 := Fr.snoc X315 N312 g1
  refine own_stp 57 st315 ?_
  refine own_rV X315 q hrt d5_57 hlk (by decide) ?_
  show QI3 Z a1 x0 x1 x2 h0 n0 _ T315.heap _
  rw [e315]
  exact ⟨_, _, rfl, N315, kp316, sz_b301, Fw315, Or.inr ⟨(Fw312.other W315 (Or.inr (slot_ne (Or.inr (W 28 rfl)) (Or.inr (W 27 rfl)) (by decide) (t := .byte) (t' := (.array .byte)) (by decide) (by decide)))), hA, ((hV.other W312 (Ne.symm (own_ne (E1).lt lo301))).other W315 (Ne.symm (own_ne (E1).lt lo301)))⟩⟩
theorem rm4_3 (l : Launch) (Z : State) (a0 : Array Value) (hw : own_hw a0 Z) (a1 : Addr) (a2 : Addr) (k1 : ClassId) (x0 x1 x2 : Int32) (cs0 : Int32) (h0 : Heap) (n0 : Nat) (Z0 : n0 ≤ h0.size) (E1 : Exa Z h0 a1 "java/lang/String") (FV : F'1 Z h0 a1 .null) (FC : F'0 Z h0 a1 v'0) (VA : Arv Z h0 a2 k1 .char (3 : Int32) [(.int x0), (.int x1), (.int x2)] v'0) (g1 : n0 ≤ a1) (n12 : a1 ≠ a2) (O0 : Old Z n0 h0) (SC_ : own_SC Z cs0) (SU_ : own_SU Z) (hd0 : own_c16 x0) (hd1 : own_c16 x1) (hd2 : own_c16 x2) :
  own_M l Z [] own_y9 b'4 2 none ⟨5, 2, 9, 74⟩ #[(.ref a1), (.ref a2)] h0 (QI3 Z a1 x0 x1 x2 h0 n0) := by
 obtain ⟨SCS, hcs⟩ := SC_; obtain ⟨SAD, SHI, SLO⟩ := SU_
 refine own_start (n0 := n0) hw "java/lang/String" (L := #[.val (.ref a1), .val (.ref a2)]) pn_4 (fun {p e s m below meth c s₁} q hx W hml hZ hown hnm hlk hrt X0 e0 N0 => ?_)
 have kp0 := Keep.refl h0 [a1]
 refine own_aln X0 q d4_0 rfl rfl (own_aln X0 q d4_1 rfl rfl (own_k X0 q d4_2 (own_aln X0 q d4_3 rfl rfl (own_alen (n := (3 : Int32)) X0 q hZ e0 VA d4_4 (own_nl X0 q d4_5 ?_)))))
 refine own_cIh (a := a1) X0 q hZ e0 hown hml (W 18 rfl) (W 19 rfl) (W 14 rfl) (W 21 rfl) (rm5_3 l Z a0 hw a1 a2 k1 x0 x1 x2 cs0 h0 n0 Z0 E1 FV FC VA g1 n12 O0 ⟨SCS, hcs⟩ ⟨SAD, SHI, SLO⟩ hd0 hd1 hd2) d4_6 [(.ref a2), v'0, v'3, .null] [] own_pd7 rfl rfl 0 (Nat.le_refl _) rfl (by decide) (fun v319 T319 L319 h319 e319' X319 hQ319 => ?_)
 obtain ⟨t319, k319, rfl, N319q, K319, lo319, Fv319, D319⟩ := hQ319
 have N319 := Fr.app N0 N319q
 have zs320 := Nat.le_trans Z0 K319.1
 have od320 := O0.keep K319 (allS g1 all0)
 have kp320 := kp0.trans K319 (allS (own_i0) all0)
 have g_t319 : n0 ≤ t319 := Nat.le_trans Z0 lo319
 have sz_t319 : h0.size ≤ t319 := Nat.le_trans kp0.1 lo319
 refine own_nn ?_
 refine own_rV X319 q hrt d4_9 hlk (by decide) ?_
 show QI3 Z a1 x0 x1 x2 h0 n0 _ T319.heap _
 rw [e319']
 exact ⟨_, _, rfl, N319, kp320, sz_t319, Fv319, D319⟩
theorem rm11_4 (l : Launch) (Z : State) (a0 : Array Value) (hw : own_hw a0 Z) (a1 : Addr) (b : Addr) (k1 k2 : ClassId) (x0 x1 x2 x3 : Int32) (h0 : Heap) (n0 : Nat) (Z0 : n0 ≤ h0.size) (VA : Arv Z h0 a1 k1 .char (4 : Int32) [(.int x0), (.int x1), (.int x2), (.int x3)] v'0) (VB : Arv Z h0 b k2 .byte (4 : Int32) [v'0, v'0, v'0, v'0] v'0) (gb : n0 ≤ b) (nab : a1 ≠ b) :
  own_M l Z [] own_y1 b'11 7 (some .int) ⟨0, 0, 0, 0⟩ #[(.ref a1), v'0, (.ref b), v'0, v'4] h0 (QC4a Z b k2 x0 x1 x2 x3 h0 n0) := by
 refine own_start (n0 := n0) hw "java/lang/StringUTF16" (L := #[.val (.ref a1), .val v'0, .val (.ref b), .val v'0, .val v'4, .unset, .unset]) pn_11 (fun {p e s m below meth c s₁} q hx W hml hZ hown hnm hlk hrt X0 e0 N0 => ?_)
 have kp0 := Keep.refl h0 [b]
 refine own_k X0 q d11_0 (own_is X0 q d11_1 (l' := #[.val (.ref a1), .val v'0, .val (.ref b), .val v'0, .val v'4, .val v'0, .unset]) rfl (own_il X0 q d11_3 rfl (own_il X0 q d11_5 rfl (own_cn X0 q d11_7 ((tlt ((by decide) : (0 : Int32) < (4 : Int32))).2.1) (own_aln X0 q d11_10 rfl rfl (own_iln X0 q d11_11 rfl (own_cld (v := (.int x0)) X0 q hZ e0 VA d11_12 (by decide) rfl (own_is X0 q d11_13 (l' := #[.val (.ref a1), .val v'0, .val (.ref b), .val v'0, .val v'4, .val v'0, .val (.int x0)]) rfl (own_il X0 q d11_15 rfl (own_k X0 q d11_17 ?_))))))))))
 by_cases hc20_333 : (255 : Int32) < x0
 ·refine own_cn X0 q d11_20 ((tlt hc20_333).2.2.2) (own_il X0 q d11_23 rfl ?_)
  refine own_rI X0 q hrt d11_25 hlk (by decide) ?_
  show QC4a Z b k2 x0 x1 x2 x3 h0 n0 _ s₁.heap _
  rw [e0]
  exact ⟨_, rfl, N0, kp0, Or.inr (Or.inl ⟨rfl, hc20_333⟩)⟩
 ·refine own_cy X0 q d11_20 ((flt hc20_333).2.2.2) (own_aln X0 q d11_26 rfl rfl (own_iln X0 q d11_27 rfl (own_il X0 q d11_28 rfl (own_stp 31 (fun _ k => XS.i2b X0.here hx rfl (q.d d11_30) rfl k) ?_))))
  refine own_bst X0 q hZ e0 VB d11_31 (by decide) (Nat.le_of_ble_eq_true rfl) N0 gb fun T334 h334 X334 e334 W334 V334 N334 => ?_
  have zs335 := Nat.le_trans Z0 (Keep.of_wr W334).1
  have kp335 := kp0.wr W334 (own_i0)
  refine own_iik X334 q d11_32 rfl (show ((0 : Int32) + (1 : Int32)) = (1 : Int32) by decide) (l' := #[.val (.ref a1), .val v'1, .val (.ref b), .val v'0, .val v'4, .val v'0, .val (.int x0)]) rfl (own_iik X334 q d11_35 rfl (show ((0 : Int32) + (1 : Int32)) = (1 : Int32) by decide) (l' := #[.val (.ref a1), .val v'1, .val (.ref b), .val v'1, .val v'4, .val v'0, .val (.int x0)]) rfl (own_iik X334 q d11_38 rfl (show ((0 : Int32) + (1 : Int32)) = (1 : Int32) by decide) (l' := #[.val (.ref a1), .val v'1, .val (.ref b), .val v'1, .val v'4, .val v'1, .val (.int x0)]) rfl (own_gt X334 q d11_41 (own_il X334 q d11_3 rfl (own_il X334 q d11_5 rfl (own_cn X334 q d11_7 ((tlt ((by decide) : (1 : Int32) < (4 : Int32))).2.1) (own_aln X334 q d11_10 rfl rfl (own_iln X334 q d11_11 rfl (own_cld (v := (.int x1)) X334 q hZ e334 (VA.other W334 nab) d11_12 (by decide) rfl (own_is X334 q d11_13 (l' := #[.val (.ref a1), .val v'1, .val (.ref b), .val v'1, .val v'4, .val v'1, .val (.int x1)]) rfl (own_il X334 q d11_15 rfl ?_)))))))))))
  refine own_k X334 q d11_17 ?_
  by_cases hc20_336 : (255 : Int32) < x1
  ·refine own_cn X334 q d11_20 ((tlt hc20_336).2.2.2) (own_il X334 q d11_23 rfl ?_)
   refine own_rI X334 q hrt d11_25 hlk (by decide) ?_
   show QC4a Z b k2 x0 x1 x2 x3 h0 n0 _ T334.heap _
   rw [e334]
   exact ⟨_, rfl, N334, kp335, Or.inr (Or.inr (Or.inl ⟨rfl, hc20_336⟩))⟩
  ·refine own_cy X334 q d11_20 ((flt hc20_336).2.2.2) (own_aln X334 q d11_26 rfl rfl (own_iln X334 q d11_27 rfl (own_il X334 q d11_28 rfl (own_stp 31 (fun _ k => XS.i2b X334.here hx rfl (q.d d11_30) rfl k) ?_))))
   refine own_bst X334 q hZ e334 V334 d11_31 (by decide) (Nat.le_of_ble_eq_true rfl) N334 gb fun T337 h337 X337 e337 W337 V337 N337 => ?_
   have zs338 := Nat.le_trans zs335 (Keep.of_wr W337).1
   have kp338 := kp335.wr W337 (own_i0)
   refine own_iik X337 q d11_32 rfl (show ((1 : Int32) + (1 : Int32)) = (2 : Int32) by decide) (l' := #[.val (.ref a1), .val v'2, .val (.ref b), .val v'1, .val v'4, .val v'1, .val (.int x1)]) rfl (own_iik X337 q d11_35 rfl (show ((1 : Int32) + (1 : Int32)) = (2 : Int32) by decide) (l' := #[.val (.ref a1), .val v'2, .val (.ref b), .val v'2, .val v'4, .val v'1, .val (.int x1)]) rfl (own_iik X337 q d11_38 rfl (show ((1 : Int32) + (1 : Int32)) = (2 : Int32) by decide) (l' := #[.val (.ref a1), .val v'2, .val (.ref b), .val v'2, .val v'4, .val v'2, .val (.int x1)]) rfl (own_gt X337 q d11_41 (own_il X337 q d11_3 rfl (own_il X337 q d11_5 rfl (own_cn X337 q d11_7 ((tlt ((by decide) : (2 : Int32) < (4 : Int32))).2.1) (own_aln X337 q d11_10 rfl rfl (own_iln X337 q d11_11 rfl (own_cld (v := (.int x2)) X337 q hZ e337 ((VA.other W334 nab).other W337 nab) d11_12 (by decide) rfl (own_is X337 q d11_13 (l' := #[.val (.ref a1), .val v'2, .val (.ref b), .val v'2, .val v'4, .val v'2, .val (.int x2)]) rfl (own_il X337 q d11_15 rfl ?_)))))))))))
   refine own_k X337 q d11_17 ?_
   by_cases hc20_339 : (255 : Int32) < x2
   ·refine own_cn X337 q d11_20 ((tlt hc20_339).2.2.2) (own_il X337 q d11_23 rfl ?_)
    refine own_rI X337 q hrt d11_25 hlk (by decide) ?_
    show QC4a Z b k2 x0 x1 x2 x3 h0 n0 _ T337.heap _
    rw [e337]
    exact ⟨_, rfl, N337, kp338, Or.inr (Or.inr (Or.inr (Or.inl ⟨rfl, hc20_339⟩)))⟩
   ·refine own_cy X337 q d11_20 ((flt hc20_339).2.2.2) (own_aln X337 q d11_26 rfl rfl (own_iln X337 q d11_27 rfl (own_il X337 q d11_28 rfl (own_stp 31 (fun _ k => XS.i2b X337.here hx rfl (q.d d11_30) rfl k) ?_))))
    refine own_bst X337 q hZ e337 V337 d11_31 (by decide) (Nat.le_of_ble_eq_true rfl) N337 gb fun T340 h340 X340 e340 W340 V340 N340 => ?_
    have zs341 := Nat.le_trans zs338 (Keep.of_wr W340).1
    have kp341 := kp338.wr W340 (own_i0)
    refine own_iik X340 q d11_32 rfl (show ((2 : Int32) + (1 : Int32)) = (3 : Int32) by decide) (l' := #[.val (.ref a1), .val v'3, .val (.ref b), .val v'2, .val v'4, .val v'2, .val (.int x2)]) rfl (own_iik X340 q d11_35 rfl (show ((2 : Int32) + (1 : Int32)) = (3 : Int32) by decide) (l' := #[.val (.ref a1), .val v'3, .val (.ref b), .val v'3, .val v'4, .val v'2, .val (.int x2)]) rfl (own_iik X340 q d11_38 rfl (show ((2 : Int32) + (1 : Int32)) = (3 : Int32) by decide) (l' := #[.val (.ref a1), .val v'3, .val (.ref b), .val v'3, .val v'4, .val v'3, .val (.int x2)]) rfl (own_gt X340 q d11_41 (own_il X340 q d11_3 rfl (own_il X340 q d11_5 rfl (own_cn X340 q d11_7 ((tlt ((by decide) : (3 : Int32) < (4 : Int32))).2.1) (own_aln X340 q d11_10 rfl rfl (own_iln X340 q d11_11 rfl (own_cld (v := (.int x3)) X340 q hZ e340 (((VA.other W334 nab).other W337 nab).other W340 nab) d11_12 (by decide) rfl (own_is X340 q d11_13 (l' := #[.val (.ref a1), .val v'3, .val (.ref b), .val v'3, .val v'4, .val v'3, .val (.int x3)]) rfl (own_il X340 q d11_15 rfl ?_)))))))))))
    refine own_k X340 q d11_17 ?_
    by_cases hc20_342 : (255 : Int32) < x3
    ·refine own_cn X340 q d11_20 ((tlt hc20_342).2.2.2) (own_il X340 q d11_23 rfl ?_)
     refine own_rI X340 q hrt d11_25 hlk (by decide) ?_
     show QC4a Z b k2 x0 x1 x2 x3 h0 n0 _ T340.heap _
     rw [e340]
     exact ⟨_, rfl, N340, kp341, Or.inr (Or.inr (Or.inr (Or.inr ⟨rfl, hc20_342⟩)))⟩
    ·refine own_cy X340 q d11_20 ((flt hc20_342).2.2.2) (own_aln X340 q d11_26 rfl rfl (own_iln X340 q d11_27 rfl (own_il X340 q d11_28 rfl (own_stp 31 (fun _ k => XS.i2b X340.here hx rfl (q.d d11_30) rfl k) ?_))))
     refine own_bst X340 q hZ e340 V340 d11_31 (by decide) (Nat.le_of_ble_eq_true rfl) N340 gb fun T343 h343 X343 e343 W343 V343 N343 => ?_
     have zs344 := Nat.le_trans zs341 (Keep.of_wr W343).1
     have kp344 := kp341.wr W343 (own_i0)
     refine own_iik X343 q d11_32 rfl (show ((3 : Int32) + (1 : Int32)) = (4 : Int32) by decide) (l' := #[.val (.ref a1), .val v'4, .val (.ref b), .val v'3, .val v'4, .val v'3, .val (.int x3)]) rfl (own_iik X343 q d11_35 rfl (show ((3 : Int32) + (1 : Int32)) = (4 : Int32) by decide) (l' := #[.val (.ref a1), .val v'4, .val (.ref b), .val v'4, .val v'4, .val v'3, .val (.int x3)]) rfl (own_iik X343 q d11_38 rfl (show ((3 : Int32) + (1 : Int32)) = (4 : Int32) by decide) (l' := #[.val (.ref a1), .val v'4, .val (.ref b), .val v'4, .val v'4, .val v'4, .val (.int x3)]) rfl (own_gt X343 q d11_41 (own_il X343 q d11_3 rfl (own_il X343 q d11_5 rfl (own_cy X343 q d11_7 ((flt (Int32.lt_irrefl : ¬ ((4 : Int32) < (4 : Int32)))).2.1) (own_il X343 q d11_44 rfl ?_)))))))
     refine own_rI X343 q hrt d11_46 hlk (by decide) ?_
     show QC4a Z b k2 x0 x1 x2 x3 h0 n0 _ T343.heap _
     rw [e343]
     exact ⟨_, rfl, N343, kp344, Or.inl ⟨rfl, ⟨hc20_333, hc20_336, hc20_339, hc20_342⟩, V343⟩⟩
theorem rm14_4 (l : Launch) (Z : State) (a0 : Array Value) (hw : own_hw a0 Z)   (h0 : Heap) (n0 : Nat) (Z0 : n0 ≤ h0.size) :
  own_M l Z [] own_y4 b'14 1 (some (.array .byte)) ⟨1, 1, 8, 12⟩ #[v'4] h0 (QNB4 Z h0 n0) := by
 refine own_start (n0 := n0) hw "java/lang/StringUTF16" (L := #[.val v'4]) pn_14 (fun {p e s m below meth c s₁} q hx W hml hZ hown hnm hlk hrt X0 e0 N0 => ?_)
 have kp0 := Keep.refl h0 []
 refine own_iln X0 q d14_0 rfl ?_
 refine own_cS X0 q hZ e0 hown hml (W 66 rfl) (W 67 rfl) (W 52 rfl) (W 68 rfl) (rm15 l Z a0 hw (4 : Int32) (8 : Int32) h0 n0 Z0 (by decide) (by decide) (by decide)) d14_1 [v'4] [] own_pd0 rfl rfl 0 (Nat.le_refl _) (by decide) (fun v349 T349 L349 X349 hQ349 => ?_)
 obtain ⟨rfl, N349q, e349⟩ := hQ349
 have N349 := Fr.app N0 N349q
 refine own_nv ?_
 refine own_let ?_; intro g350_
 obtain ⟨T351, h351, k351, X351, e351, E351, A351, st351⟩ := newP X349 hx hZ (W 26 rfl) e349 (g := g350_) rfl (q.d d14_4) rfl (by decide) (cap := 8) (by decide) (by decide) (by decide) (by decide)
 obtain ⟨b351, g351⟩ : ∃ z, z = h0.size := ⟨_, rfl⟩
 rw [← g351] at A351 st351
 have V351 : Arv Z h351 b351 k351 .byte (8 : Int32) [v'0, v'0, v'0, v'0, v'0, v'0, v'0, v'0] v'0 := (Arv.new A351 (by decide)).pad (pad_rep [] v'0 8)
 have zs352 := Nat.le_trans Z0 E351.1
 have kp352 := kp0.ext E351
 have g_b351 : n0 ≤ b351 := Nat.le_trans Z0 (Nat.le_of_eq g351.symm)
 have sz_b351 : h0.size ≤ b351 := Nat.le_trans kp0.1 (Nat.le_of_eq g351.symm)
 refine own_stp 6 st351 ?_
 refine own_rA X351 q hrt d14_6 hlk (by decide) ?_
 show QNB4 Z h0 n0 _ T351.heap _
 rw [e351]
 exact ⟨_, _, rfl, N349, own_extK kp352, sz_b351, V351⟩
theorem rm13_4 (l : Launch) (Z : State) (a0 : Array Value) (hw : own_hw a0 Z) (a1 : Addr) (k1 : ClassId) (x0 x1 x2 x3 : Int32) (h0 : Heap) (n0 : Nat) (Z0 : n0 ≤ h0.size) (O0 : Old Z n0 h0) (SU_ : own_SU Z) (VA : Arv Z h0 a1 k1 .char (4 : Int32) [(.int x0), (.int x1), (.int x2), (.int x3)] v'0) :
  own_M l Z [] own_y5 b'13 5 (some (.array .byte)) ⟨2, 1, 8, 24⟩ #[(.ref a1), v'0, v'4] h0 (QTB4 Z x0 x1 x2 x3 h0 n0) := by
 obtain ⟨SAD, SHI, SLO⟩ := SU_
 refine own_start (n0 := n0) hw "java/lang/StringUTF16" (L := #[.val (.ref a1), .val v'0, .val v'4, .unset, .unset]) pn_13 (fun {p e s m below meth c s₁} q hx W hml hZ hown hnm hlk hrt X0 e0 N0 => ?_)
 have kp0 := Keep.refl h0 []
 refine own_iln X0 q d13_0 rfl ?_
 refine own_cSh X0 q hZ e0 hown hml (W 63 rfl) (W 64 rfl) (W 52 rfl) (W 65 rfl) (rm14_4 l Z a0 hw h0 n0 Z0) d13_1 [v'4] [] own_pd1 rfl rfl 0 (Nat.le_refl _) (by decide) (fun v363 T363 L363 h363 e363' X363 hQ363 => ?_)
 obtain ⟨b363, k363, rfl, N363q, E363, lo363, V363⟩ := hQ363
 have N363 := Fr.app N0 N363q
 have zs364 := Nat.le_trans Z0 E363.1
 have od364 := O0.ext E363
 have kp364 := kp0.ext E363
 have g_b363 : n0 ≤ b363 := Nat.le_trans Z0 lo363
 have sz_b363 : h0.size ≤ b363 := Nat.le_trans kp0.1 lo363
 refine own_nv (own_asn X363 q d13_4 rfl (l' := #[.val (.ref a1), .val v'0, .val v'4, .val (.ref b363), .unset]) rfl (own_k X363 q d13_5 (own_is X363 q d13_6 (l' := #[.val (.ref a1), .val v'0, .val v'4, .val (.ref b363), .val v'0]) rfl (own_il X363 q d13_8 rfl (own_iln X363 q d13_10 rfl (own_cn X363 q d13_11 ((tlt ((by decide) : (0 : Int32) < (4 : Int32))).2.1) (own_aln X363 q d13_14 rfl rfl (own_il X363 q d13_15 rfl (own_aln X363 q d13_17 rfl rfl (own_iln X363 q d13_18 rfl (own_cld (v := (.int x0)) X363 q hZ e363' (VA.ext E363) d13_19 (by decide) rfl ?_)))))))))))
 refine own_cSh X363 q hZ e363' hown hml (W 70 rfl) (W 71 rfl) (W 52 rfl) (W 72 rfl) (rm16 l Z a0 hw b363 (0 : Int32) x0 k363 _ 8 0 h363 n0 zs364 od364 ⟨SAD, SHI, SLO⟩ V363 rfl (by decide) (by decide) rfl g_b363) d13_20 [(.ref b363), v'0, (.int x0)] [] own_pd2 rfl rfl 0 (Nat.le_refl _) (by decide) (fun v365 T365 L365 h365 e365' X365 hQ365 => ?_)
 obtain ⟨rfl, N365q, K365, V365⟩ := hQ365
 have N365 := Fr.app N363 N365q
 have zs366 := Nat.le_trans zs364 K365.1
 have od366 := od364.keep K365 (allS g_b363 all0)
 have kp366 := kp364.trans K365 (allS (Or.inr sz_b363) all0)
 refine own_nn (own_iik X365 q d13_23 rfl (show ((0 : Int32) + (1 : Int32)) = (1 : Int32) by decide) (l' := #[.val (.ref a1), .val v'1, .val v'4, .val (.ref b363), .val v'0]) rfl (own_iik X365 q d13_26 rfl (show ((0 : Int32) + (1 : Int32)) = (1 : Int32) by decide) (l' := #[.val (.ref a1), .val v'1, .val v'4, .val (.ref b363), .val v'1]) rfl (own_gt X365 q d13_29 (own_il X365 q d13_8 rfl (own_iln X365 q d13_10 rfl (own_cn X365 q d13_11 ((tlt ((by decide) : (1 : Int32) < (4 : Int32))).2.1) (own_aln X365 q d13_14 rfl rfl (own_il X365 q d13_15 rfl (own_aln X365 q d13_17 rfl rfl (own_iln X365 q d13_18 rfl (own_cld (v := (.int x1)) X365 q hZ e365' ((VA.ext E363).keep K365 (ninS (own_ne (VA).lt lo363) nin0)) d13_19 (by decide) rfl ?_)))))))))))
 refine own_cSh X365 q hZ e365' hown hml (W 70 rfl) (W 71 rfl) (W 52 rfl) (W 72 rfl) (rm16 l Z a0 hw b363 (1 : Int32) x1 k363 _ 8 1 h365 n0 zs366 od366 ⟨SAD, SHI, SLO⟩ V365 rfl (by decide) (by decide) rfl g_b363) d13_20 [(.ref b363), v'1, (.int x1)] [] own_pd2 rfl rfl 0 (Nat.le_refl _) (by decide) (fun v367 T367 L367 h367 e367' X367 hQ367 => ?_)
 obtain ⟨rfl, N367q, K367, V367⟩ := hQ367
 have N367 := Fr.app N365 N367q
 have zs368 := Nat.le_trans zs366 K367.1
 have od368 := od366.keep K367 (allS g_b363 all0)
 have kp368 := kp366.trans K367 (allS (Or.inr sz_b363) all0)
 refine own_nn (own_iik X367 q d13_23 rfl (show ((1 : Int32) + (1 : Int32)) = (2 : Int32) by decide) (l' := #[.val (.ref a1), .val v'2, .val v'4, .val (.ref b363), .val v'1]) rfl (own_iik X367 q d13_26 rfl (show ((1 : Int32) + (1 : Int32)) = (2 : Int32) by decide) (l' := #[.val (.ref a1), .val v'2, .val v'4, .val (.ref b363), .val v'2]) rfl (own_gt X367 q d13_29 (own_il X367 q d13_8 rfl (own_iln X367 q d13_10 rfl (own_cn X367 q d13_11 ((tlt ((by decide) : (2 : Int32) < (4 : Int32))).2.1) (own_aln X367 q d13_14 rfl rfl (own_il X367 q d13_15 rfl (own_aln X367 q d13_17 rfl rfl (own_iln X367 q d13_18 rfl (own_cld (v := (.int x2)) X367 q hZ e367' (((VA.ext E363).keep K365 (ninS (own_ne (VA).lt lo363) nin0)).keep K367 (ninS (own_ne (VA).lt lo363) nin0)) d13_19 (by decide) rfl ?_)))))))))))
 refine own_cSh X367 q hZ e367' hown hml (W 70 rfl) (W 71 rfl) (W 52 rfl) (W 72 rfl) (rm16 l Z a0 hw b363 (2 : Int32) x2 k363 _ 8 2 h367 n0 zs368 od368 ⟨SAD, SHI, SLO⟩ V367 rfl (by decide) (by decide) rfl g_b363) d13_20 [(.ref b363), v'2, (.int x2)] [] own_pd2 rfl rfl 0 (Nat.le_refl _) (by decide) (fun v369 T369 L369 h369 e369' X369 hQ369 => ?_)
 obtain ⟨rfl, N369q, K369, V369⟩ := hQ369
 have N369 := Fr.app N367 N369q
 have zs370 := Nat.le_trans zs368 K369.1
 have od370 := od368.keep K369 (allS g_b363 all0)
 have kp370 := kp368.trans K369 (allS (Or.inr sz_b363) all0)
 refine own_nn (own_iik X369 q d13_23 rfl (show ((2 : Int32) + (1 : Int32)) = (3 : Int32) by decide) (l' := #[.val (.ref a1), .val v'3, .val v'4, .val (.ref b363), .val v'2]) rfl (own_iik X369 q d13_26 rfl (show ((2 : Int32) + (1 : Int32)) = (3 : Int32) by decide) (l' := #[.val (.ref a1), .val v'3, .val v'4, .val (.ref b363), .val v'3]) rfl (own_gt X369 q d13_29 (own_il X369 q d13_8 rfl (own_iln X369 q d13_10 rfl (own_cn X369 q d13_11 ((tlt ((by decide) : (3 : Int32) < (4 : Int32))).2.1) (own_aln X369 q d13_14 rfl rfl (own_il X369 q d13_15 rfl (own_aln X369 q d13_17 rfl rfl (own_iln X369 q d13_18 rfl (own_cld (v := (.int x3)) X369 q hZ e369' ((((VA.ext E363).keep K365 (ninS (own_ne (VA).lt lo363) nin0)).keep K367 (ninS (own_ne (VA).lt lo363) nin0)).keep K369 (ninS (own_ne (VA).lt lo363) nin0)) d13_19 (by decide) rfl ?_)))))))))))
 refine own_cSh X369 q hZ e369' hown hml (W 70 rfl) (W 71 rfl) (W 52 rfl) (W 72 rfl) (rm16 l Z a0 hw b363 (3 : Int32) x3 k363 _ 8 3 h369 n0 zs370 od370 ⟨SAD, SHI, SLO⟩ V369 rfl (by decide) (by decide) rfl g_b363) d13_20 [(.ref b363), v'3, (.int x3)] [] own_pd2 rfl rfl 0 (Nat.le_refl _) (by decide) (fun v371 T371 L371 h371 e371' X371 hQ371 => ?_)
 obtain ⟨rfl, N371q, K371, V371⟩ := hQ371
 have N371 := Fr.app N369 N371q
 have zs372 := Nat.le_trans zs370 K371.1
 have od372 := od370.keep K371 (allS g_b363 all0)
 have kp372 := kp370.trans K371 (allS (Or.inr sz_b363) all0)
 refine own_nn (own_iik X371 q d13_23 rfl (show ((3 : Int32) + (1 : Int32)) = (4 : Int32) by decide) (l' := #[.val (.ref a1), .val v'4, .val v'4, .val (.ref b363), .val v'3]) rfl (own_iik X371 q d13_26 rfl (show ((3 : Int32) + (1 : Int32)) = (4 : Int32) by decide) (l' := #[.val (.ref a1), .val v'4, .val v'4, .val (.ref b363), .val v'4]) rfl (own_gt X371 q d13_29 (own_il X371 q d13_8 rfl (own_iln X371 q d13_10 rfl (own_cy X371 q d13_11 ((flt (Int32.lt_irrefl : ¬ ((4 : Int32) < (4 : Int32)))).2.1) (own_aln X371 q d13_32 rfl rfl ?_)))))))
 refine own_rA X371 q hrt d13_33 hlk (by decide) ?_
 show QTB4 Z x0 x1 x2 x3 h0 n0 _ T371.heap _
 rw [e371']
 exact ⟨_, _, rfl, N371, own_extK kp372, sz_b363, V371⟩
theorem rm10_4 (l : Launch) (Z : State) (a0 : Array Value) (hw : own_hw a0 Z) (a1 : Addr) (k1 : ClassId) (x0 x1 x2 x3 : Int32) (h0 : Heap) (n0 : Nat) (Z0 : n0 ≤ h0.size) (O0 : Old Z n0 h0) (SU_ : own_SU Z) (VA : Arv Z h0 a1 k1 .char (4 : Int32) [(.int x0), (.int x1), (.int x2), (.int x3)] v'0) (hd0 : own_c16 x0) (hd1 : own_c16 x1) (hd2 : own_c16 x2) (hd3 : own_c16 x3) :
  own_M l Z [] own_y6 b'10 6 (some (.array .byte)) ⟨3, 2, 12, 40⟩ #[(.ref a1), v'0, v'4] h0 (QC4b Z x0 x1 x2 x3 h0 n0) := by
 obtain ⟨SAD, SHI, SLO⟩ := SU_
 refine own_start (n0 := n0) hw "java/lang/StringUTF16" (L := #[.val (.ref a1), .val v'0, .val v'4, .unset, .unset, .unset]) pn_10 (fun {p e s m below meth c s₁} q hx W hml hZ hown hnm hlk hrt X0 e0 N0 => ?_)
 have hby := q.2
 have kp0 := Keep.refl h0 []
 refine own_iln X0 q d10_0 rfl ?_
 refine own_let ?_; intro g390_
 obtain ⟨T391, h391, k391, X391, e391, E391, A391, st391⟩ := newP X0 hx hZ (W 26 rfl) e0 (g := g390_) rfl (q.d d10_1) rfl (by decide) (cap := 4) (by decide) (by decide) (by decide) (by decide)
 obtain ⟨b391, g391⟩ : ∃ z, z = h0.size := ⟨_, rfl⟩
 rw [← g391] at A391 st391
 have V391 : Arv Z h391 b391 k391 .byte (4 : Int32) [v'0, v'0, v'0, v'0] v'0 := (Arv.new A391 (by decide)).pad (pad_rep [] v'0 4)
 have zs392 := Nat.le_trans Z0 E391.1
 have od392 := O0.ext E391
 have kp392 := kp0.ext E391
 have g_b391 : n0 ≤ b391 := Nat.le_trans Z0 (Nat.le_of_eq g391.symm)
 have sz_b391 : h0.size ≤ b391 := Nat.le_trans kp0.1 (Nat.le_of_eq g391.symm)
 refine own_stp 3 st391 (own_asn X391 q d10_3 rfl (l' := #[.val (.ref a1), .val v'0, .val v'4, .val (.ref b391), .unset, .unset]) rfl (own_aln X391 q d10_4 rfl rfl (own_iln X391 q d10_5 rfl (own_aln X391 q d10_6 rfl rfl (own_k X391 q d10_7 (own_iln X391 q d10_8 rfl ?_))))))
 refine own_cSh X391 q hZ e391 hown hml (W 54 rfl) (W 55 rfl) (W 52 rfl) (W 56 rfl) (rm11_4 l Z a0 hw a1 b391 k1 k391 x0 x1 x2 x3 h391 n0 zs392 (VA.ext E391) V391 g_b391 (own_ne (VA).lt (Nat.le_of_eq g391.symm))) d10_9 [(.ref a1), v'0, (.ref b391), v'0, v'4] [] own_pd3 rfl rfl 0 (Nat.le_refl _) (by decide) (fun v393 T393 L393 h393 e393' X393 hQ393 => ?_)
 obtain ⟨z393, rfl, N393q, K393, D393⟩ := hQ393
 have N393 := Fr.app N0 N393q
 have zs394 := Nat.le_trans zs392 K393.1
 have od394 := od392.keep K393 (allS g_b391 all0)
 have kp394 := kp392.trans K393 (allS (Or.inr sz_b391) all0)
 refine own_nv ?_
 rcases D393 with ⟨hz, hA, hV⟩ | ⟨hz, hB⟩ | ⟨hz, hB⟩ | ⟨hz, hB⟩ | ⟨hz, hB⟩
 ·subst hz
  show own_Fin _ _ _ _ (T393.setTop (mkF m 12 #[.val (.ref a1), .val v'0, .val v'4, .val (.ref b391), .unset, .unset] [v'4]))
  refine own_is X393 q d10_12 (l' := #[.val (.ref a1), .val v'0, .val v'4, .val (.ref b391), .val v'4, .unset]) rfl (own_il X393 q d10_14 rfl (own_iln X393 q d10_16 rfl (own_cy X393 q d10_17 ((teq (rfl : (4 : Int32) = (4 : Int32))).1) (own_aln X393 q d10_57 rfl rfl ?_))))
  refine own_rA X393 q hrt d10_58 hlk (by decide) ?_
  show QC4b Z x0 x1 x2 x3 h0 n0 _ T393.heap _
  rw [e393']
  exact ⟨_, _, rfl, N393, own_extK kp394, sz_b391, Or.inl ⟨hA, hV⟩⟩
 ·subst hz
  show own_Fin _ _ _ _ (T393.setTop (mkF m 12 #[.val (.ref a1), .val v'0, .val v'4, .val (.ref b391), .unset, .unset] [v'0]))
  refine own_is X393 q d10_12 (l' := #[.val (.ref a1), .val v'0, .val v'4, .val (.ref b391), .val v'0, .unset]) rfl (own_il X393 q d10_14 rfl (own_iln X393 q d10_16 rfl (own_cn X393 q d10_17 ((feq ((by decide) : ¬ ((0 : Int32) = (4 : Int32)))).1) (own_aln X393 q d10_20 rfl rfl (own_iln X393 q d10_21 rfl (own_iln X393 q d10_22 rfl ?_))))))
  refine own_cSh X393 q hZ e393' hown hml (W 60 rfl) (W 61 rfl) (W 52 rfl) (W 62 rfl) (rm13_4 l Z a0 hw a1 k1 x0 x1 x2 x3 h393 n0 zs394 od394 ⟨SAD, SHI, SLO⟩ ((VA.ext E391).keep K393 (ninS (own_ne (VA).lt (Nat.le_of_eq g391.symm)) nin0))) d10_23 [(.ref a1), v'0, v'4] [] own_pd4 rfl rfl 0 (Nat.le_refl _) (by decide) (fun v395 T395 L395 h395 e395' X395 hQ395 => ?_)
  obtain ⟨b395, k395, rfl, N395q, E395, lo395, V395⟩ := hQ395
  have N395 := Fr.app N393 N395q
  have zs396 := Nat.le_trans zs394 E395.1
  have od396 := od394.ext E395
  have kp396 := kp394.ext E395
  have g_b395 : n0 ≤ b395 := Nat.le_trans zs394 lo395
  have sz_b395 : h0.size ≤ b395 := Nat.le_trans kp394.1 lo395
  refine own_nv (own_as X395 q d10_26 rfl (l' := #[.val (.ref a1), .val v'0, .val v'4, .val (.ref b391), .val v'0, .val (.ref b395)]) rfl (own_al X395 q d10_28 rfl rfl (own_il X395 q d10_30 rfl ?_)))
  refine own_cS X395 q hZ e395' hown hml (W 76 rfl) (W 77 rfl) (W 52 rfl) (W 78 rfl) (rm17 l Z a0 hw b395 (0 : Int32) k395 _ 8 0 x0 h395 n0 zs396 od396 ⟨SAD, SHI, SLO⟩ V395 rfl (by decide) (by decide) rfl rfl) d10_32 [(.ref b395), v'0] [] own_pd5 rfl rfl 0 (Nat.le_refl _) (by decide) (fun v397 T397 L397 X397 hQ397 => ?_)
  obtain ⟨rfl, N397q, e397⟩ := hQ397
  have N397 := Fr.app N395 N397q
  refine own_nv (own_k X397 q d10_35 (own_cy X397 q d10_38 ((tlt ((by rw [own_gcE hd0]; exact hB) : (255 : Int32) < (own_gc x0))).2.2.1) (own_al X397 q d10_54 rfl rfl ?_)))
  refine own_rA X397 q hrt d10_56 hlk (by decide) ?_
  show QC4b Z x0 x1 x2 x3 h0 n0 _ T397.heap _
  rw [e397]
  exact ⟨_, _, rfl, N397, own_extK kp396, sz_b395, Or.inr ⟨(Or.inl hB), V395⟩⟩
 ·subst hz
  show own_Fin _ _ _ _ (T393.setTop (mkF m 12 #[.val (.ref a1), .val v'0, .val v'4, .val (.ref b391), .unset, .unset] [v'1]))
  refine own_is X393 q d10_12 (l' := #[.val (.ref a1), .val v'0, .val v'4, .val (.ref b391), .val v'1, .unset]) rfl (own_il X393 q d10_14 rfl (own_iln X393 q d10_16 rfl (own_cn X393 q d10_17 ((feq ((by decide) : ¬ ((1 : Int32) = (4 : Int32)))).1) (own_aln X393 q d10_20 rfl rfl (own_iln X393 q d10_21 rfl (own_iln X393 q d10_22 rfl ?_))))))
  refine own_cSh X393 q hZ e393' hown hml (W 60 rfl) (W 61 rfl) (W 52 rfl) (W 62 rfl) (rm13_4 l Z a0 hw a1 k1 x0 x1 x2 x3 h393 n0 zs394 od394 ⟨SAD, SHI, SLO⟩ ((VA.ext E391).keep K393 (ninS (own_ne (VA).lt (Nat.le_of_eq g391.symm)) nin0))) d10_23 [(.ref a1), v'0, v'4] [] own_pd4 rfl rfl 0 (Nat.le_refl _) (by decide) (fun v398 T398 L398 h398 e398' X398 hQ398 => ?_)
  obtain ⟨b398, k398, rfl, N398q, E398, lo398, V398⟩ := hQ398
  have N398 := Fr.app N393 N398q
  have zs399 := Nat.le_trans zs394 E398.1
  have od399 := od394.ext E398
  have kp399 := kp394.ext E398
  have g_b398 : n0 ≤ b398 := Nat.le_trans zs394 lo398
  have sz_b398 : h0.size ≤ b398 := Nat.le_trans kp394.1 lo398
  refine own_nv (own_as X398 q d10_26 rfl (l' := #[.val (.ref a1), .val v'0, .val v'4, .val (.ref b391), .val v'1, .val (.ref b398)]) rfl (own_al X398 q d10_28 rfl rfl (own_il X398 q d10_30 rfl ?_)))
  refine own_cS X398 q hZ e398' hown hml (W 76 rfl) (W 77 rfl) (W 52 rfl) (W 78 rfl) (rm17 l Z a0 hw b398 (1 : Int32) k398 _ 8 1 x1 h398 n0 zs399 od399 ⟨SAD, SHI, SLO⟩ V398 rfl (by decide) (by decide) rfl rfl) d10_32 [(.ref b398), v'1] [] own_pd5 rfl rfl 0 (Nat.le_refl _) (by decide) (fun v400 T400 L400 X400 hQ400 => ?_)
  obtain ⟨rfl, N400q, e400⟩ := hQ400
  have N400 := Fr.app N398 N400q
  refine own_nv (own_k X400 q d10_35 (own_cy X400 q d10_38 ((tlt ((by rw [own_gcE hd1]; exact hB) : (255 : Int32) < (own_gc x1))).2.2.1) (own_al X400 q d10_54 rfl rfl ?_)))
  refine own_rA X400 q hrt d10_56 hlk (by decide) ?_
  show QC4b Z x0 x1 x2 x3 h0 n0 _ T400.heap _
  rw [e400]
  exact ⟨_, _, rfl, N400, own_extK kp399, sz_b398, Or.inr ⟨(Or.inr (Or.inl hB)), V398⟩⟩
 ·subst hz
  show own_Fin _ _ _ _ (T393.setTop (mkF m 12 #[.val (.ref a1), .val v'0, .val v'4, .val (.ref b391), .unset, .unset] [v'2]))
  refine own_is X393 q d10_12 (l' := #[.val (.ref a1), .val v'0, .val v'4, .val (.ref b391), .val v'2, .unset]) rfl (own_il X393 q d10_14 rfl (own_iln X393 q d10_16 rfl (own_cn X393 q d10_17 ((feq ((by decide) : ¬ ((2 : Int32) = (4 : Int32)))).1) (own_aln X393 q d10_20 rfl rfl (own_iln X393 q d10_21 rfl (own_iln X393 q d10_22 rfl ?_))))))
  refine own_cSh X393 q hZ e393' hown hml (W 60 rfl) (W 61 rfl) (W 52 rfl) (W 62 rfl) (rm13_4 l Z a0 hw a1 k1 x0 x1 x2 x3 h393 n0 zs394 od394 ⟨SAD, SHI, SLO⟩ ((VA.ext E391).keep K393 (ninS (own_ne (VA).lt (Nat.le_of_eq g391.symm)) nin0))) d10_23 [(.ref a1), v'0, v'4] [] own_pd4 rfl rfl 0 (Nat.le_refl _) (by decide) (fun v401 T401 L401 h401 e401' X401 hQ401 => ?_)
  obtain ⟨b401, k401, rfl, N401q, E401, lo401, V401⟩ := hQ401
  have N401 := Fr.app N393 N401q
  have zs402 := Nat.le_trans zs394 E401.1
  have od402 := od394.ext E401
  have kp402 := kp394.ext E401
  have g_b401 : n0 ≤ b401 := Nat.le_trans zs394 lo401
  have sz_b401 : h0.size ≤ b401 := Nat.le_trans kp394.1 lo401
  refine own_nv (own_as X401 q d10_26 rfl (l' := #[.val (.ref a1), .val v'0, .val v'4, .val (.ref b391), .val v'2, .val (.ref b401)]) rfl (own_al X401 q d10_28 rfl rfl (own_il X401 q d10_30 rfl ?_)))
  refine own_cS X401 q hZ e401' hown hml (W 76 rfl) (W 77 rfl) (W 52 rfl) (W 78 rfl) (rm17 l Z a0 hw b401 (2 : Int32) k401 _ 8 2 x2 h401 n0 zs402 od402 ⟨SAD, SHI, SLO⟩ V401 rfl (by decide) (by decide) rfl rfl) d10_32 [(.ref b401), v'2] [] own_pd5 rfl rfl 0 (Nat.le_refl _) (by decide) (fun v403 T403 L403 X403 hQ403 => ?_)
  obtain ⟨rfl, N403q, e403⟩ := hQ403
  have N403 := Fr.app N401 N403q
  refine own_nv (own_k X403 q d10_35 (own_cy X403 q d10_38 ((tlt ((by rw [own_gcE hd2]; exact hB) : (255 : Int32) < (own_gc x2))).2.2.1) (own_al X403 q d10_54 rfl rfl ?_)))
  refine own_rA X403 q hrt d10_56 hlk (by decide) ?_
  show QC4b Z x0 x1 x2 x3 h0 n0 _ T403.heap _
  rw [e403]
  exact ⟨_, _, rfl, N403, own_extK kp402, sz_b401, Or.inr ⟨(Or.inr (Or.inr (Or.inl hB))), V401⟩⟩
 ·subst hz
  show own_Fin _ _ _ _ (T393.setTop (mkF m 12 #[.val (.ref a1), .val v'0, .val v'4, .val (.ref b391), .unset, .unset] [v'3]))
  refine own_is X393 q d10_12 (l' := #[.val (.ref a1), .val v'0, .val v'4, .val (.ref b391), .val v'3, .unset]) rfl (own_il X393 q d10_14 rfl (own_iln X393 q d10_16 rfl (own_cn X393 q d10_17 ((feq ((by decide) : ¬ ((3 : Int32) = (4 : Int32)))).1) (own_aln X393 q d10_20 rfl rfl (own_iln X393 q d10_21 rfl (own_iln X393 q d10_22 rfl ?_))))))
  refine own_cSh X393 q hZ e393' hown hml (W 60 rfl) (W 61 rfl) (W 52 rfl) (W 62 rfl) (rm13_4 l Z a0 hw a1 k1 x0 x1 x2 x3 h393 n0 zs394 od394 ⟨SAD, SHI, SLO⟩ ((VA.ext E391).keep K393 (ninS (own_ne (VA).lt (Nat.le_of_eq g391.symm)) nin0))) d10_23 [(.ref a1), v'0, v'4] [] own_pd4 rfl rfl 0 (Nat.le_refl _) (by decide) (fun v404 T404 L404 h404 e404' X404 hQ404 => ?_)
  obtain ⟨b404, k404, rfl, N404q, E404, lo404, V404⟩ := hQ404
  have N404 := Fr.app N393 N404q
  have zs405 := Nat.le_trans zs394 E404.1
  have od405 := od394.ext E404
  have kp405 := kp394.ext E404
  have g_b404 : n0 ≤ b404 := Nat.le_trans zs394 lo404
  have sz_b404 : h0.size ≤ b404 := Nat.le_trans kp394.1 lo404
  refine own_nv (own_as X404 q d10_26 rfl (l' := #[.val (.ref a1), .val v'0, .val v'4, .val (.ref b391), .val v'3, .val (.ref b404)]) rfl (own_al X404 q d10_28 rfl rfl (own_il X404 q d10_30 rfl ?_)))
  refine own_cS X404 q hZ e404' hown hml (W 76 rfl) (W 77 rfl) (W 52 rfl) (W 78 rfl) (rm17 l Z a0 hw b404 (3 : Int32) k404 _ 8 3 x3 h404 n0 zs405 od405 ⟨SAD, SHI, SLO⟩ V404 rfl (by decide) (by decide) rfl rfl) d10_32 [(.ref b404), v'3] [] own_pd5 rfl rfl 0 (Nat.le_refl _) (by decide) (fun v406 T406 L406 X406 hQ406 => ?_)
  obtain ⟨rfl, N406q, e406⟩ := hQ406
  have N406 := Fr.app N404 N406q
  refine own_nv (own_k X406 q d10_35 (own_cy X406 q d10_38 ((tlt ((by rw [own_gcE hd3]; exact hB) : (255 : Int32) < (own_gc x3))).2.2.1) (own_al X406 q d10_54 rfl rfl ?_)))
  refine own_rA X406 q hrt d10_56 hlk (by decide) ?_
  show QC4b Z x0 x1 x2 x3 h0 n0 _ T406.heap _
  rw [e406]
  exact ⟨_, _, rfl, N406, own_extK kp405, sz_b404, Or.inr ⟨(Or.inr (Or.inr (Or.inr hB))), V404⟩⟩
theorem rm12_4_4 (l : Launch) (Z : State) (a0 : Array Value) (hw : own_hw a0 Z) (a1 : Addr) (k1 : ClassId) (vs : List Value) (h0 : Heap) (n0 : Nat) (Z0 : n0 ≤ h0.size) (VA : Arv Z h0 a1 k1 .byte (4 : Int32) vs v'0) :
  own_M l Z [] own_y7 b'12 2 (some .byte) ⟨0, 0, 0, 0⟩ #[(.ref a1), v'4] h0 (QI (0 : Int32) h0 n0) := by
 refine own_start (n0 := n0) hw "java/lang/StringUTF16" (L := #[.val (.ref a1), .val v'4]) pn_12 (fun {p e s m below meth c s₁} q hx W hml hZ hown hnm hlk hrt X0 e0 N0 => ?_)
 refine own_iln X0 q d12_0 rfl (own_aln X0 q d12_1 rfl rfl (own_alen (n := (4 : Int32)) X0 q hZ e0 VA d12_2 (own_isubk 0 X0 q d12_3 (by decide) (own_k X0 q d12_4 (own_stp 7 (fun _ k => XS.iushr X0.here hx rfl (q.d d12_6) rfl k) ?_)))))
 rw [show (((0 : Int32).toUInt32 >>> ((31 : Int32) &&& 31).toUInt32).toInt32) = (0 : Int32) from by decide]
 refine own_stp 8 (fun _ k => XS.i2b X0.here hx rfl (q.d d12_7) rfl k) ?_
 rw [show ((0 : Int32).toInt8.toInt32) = (0 : Int32) from by decide]
 refine own_rN X0 q hrt (by simp) d12_8 hlk (by decide) ?_
 show QI (0 : Int32) h0 n0 _ s₁.heap _
 rw [e0]
 exact ⟨rfl, N0, rfl⟩
theorem rm12_4_8 (l : Launch) (Z : State) (a0 : Array Value) (hw : own_hw a0 Z) (a1 : Addr) (k1 : ClassId) (vs : List Value) (h0 : Heap) (n0 : Nat) (Z0 : n0 ≤ h0.size) (VA : Arv Z h0 a1 k1 .byte (8 : Int32) vs v'0) :
  own_M l Z [] own_y7 b'12 2 (some .byte) ⟨0, 0, 0, 0⟩ #[(.ref a1), v'4] h0 (QI (1 : Int32) h0 n0) := by
 refine own_start (n0 := n0) hw "java/lang/StringUTF16" (L := #[.val (.ref a1), .val v'4]) pn_12 (fun {p e s m below meth c s₁} q hx W hml hZ hown hnm hlk hrt X0 e0 N0 => ?_)
 refine own_iln X0 q d12_0 rfl (own_aln X0 q d12_1 rfl rfl (own_alen (n := (8 : Int32)) X0 q hZ e0 VA d12_2 (own_isubk (-4) X0 q d12_3 (by decide) (own_k X0 q d12_4 (own_stp 7 (fun _ k => XS.iushr X0.here hx rfl (q.d d12_6) rfl k) ?_)))))
 rw [show (((-4 : Int32).toUInt32 >>> ((31 : Int32) &&& 31).toUInt32).toInt32) = (1 : Int32) from by decide]
 refine own_stp 8 (fun _ k => XS.i2b X0.here hx rfl (q.d d12_7) rfl k) ?_
 rw [show ((1 : Int32).toInt8.toInt32) = (1 : Int32) from by decide]
 refine own_rN X0 q hrt (by simp) d12_8 hlk (by decide) ?_
 show QI (1 : Int32) h0 n0 _ s₁.heap _
 rw [e0]
 exact ⟨rfl, N0, rfl⟩
theorem rm5_4 (l : Launch) (Z : State) (a0 : Array Value) (hw : own_hw a0 Z) (a1 : Addr) (a2 : Addr) (k1 : ClassId) (x0 x1 x2 x3 : Int32) (cs0 : Int32) (h0 : Heap) (n0 : Nat) (Z0 : n0 ≤ h0.size) (E1 : Exa Z h0 a1 "java/lang/String") (FV : F'1 Z h0 a1 .null) (FC : F'0 Z h0 a1 v'0) (VA : Arv Z h0 a2 k1 .char (4 : Int32) [(.int x0), (.int x1), (.int x2), (.int x3)] v'0) (g1 : n0 ≤ a1) (n12 : a1 ≠ a2) (O0 : Old Z n0 h0) (SC_ : own_SC Z cs0) (SU_ : own_SU Z) (hd0 : own_c16 x0) (hd1 : own_c16 x1) (hd2 : own_c16 x2) (hd3 : own_c16 x3) :
  own_M l Z [] own_y8 b'5 6 none ⟨4, 2, 12, 57⟩ #[(.ref a1), (.ref a2), v'0, v'4, .null] h0 (QI4 Z a1 x0 x1 x2 x3 h0 n0) := by
 obtain ⟨SCS, hcs⟩ := SC_; obtain ⟨SAD, SHI, SLO⟩ := SU_
 refine own_start (n0 := n0) hw "java/lang/String" (L := #[.val (.ref a1), .val (.ref a2), .val v'0, .val v'4, .val .null, .unset]) pn_5 (fun {p e s m below meth c s₁} q hx W hml hZ hown hnm hlk hrt X0 e0 N0 => ?_)
 have hby := q.2
 have kp0 := Keep.refl h0 [a1]
 refine own_aln X0 q d5_0 rfl rfl ?_
 refine own_let ?_; intro g426_
 obtain ⟨T427, X427, e427, st427⟩ := initO X0 hx hZ hown (W 22 rfl) (W 23 rfl) (W 24 rfl) e0 (g := g426_) rfl (by rw [hml]; rfl) rfl (q.d d5_1) (by decide) (W := 0) (by show 2 * 0 + _ ≤ _; exact Nat.le_of_eq rfl) (by decide)
 refine own_stp 4 st427 (own_iln X427 q d5_4 rfl (own_zy X427 q d5_5 (((if0 _ _).trans (feq ((by decide) : ¬ ((4 : Int32) = (0 : Int32)))).2)) ?_))
 refine own_gS X427 q hZ e427 hown (W 44 rfl) (SCS.ext O0.2) d5_27 fun T428 X428 e428 => ?_
 refine own_zn X428 q d5_30 (((if0 _ _).trans (feq hcs).1)) (own_aln X428 q d5_33 rfl rfl (own_iln X428 q d5_34 rfl (own_iln X428 q d5_35 rfl ?_)))
 refine own_cSh X428 q hZ e428 hown hml (W 50 rfl) (W 51 rfl) (W 52 rfl) (W 53 rfl) (rm10_4 l Z a0 hw a2 k1 x0 x1 x2 x3 h0 n0 Z0 O0 ⟨SAD, SHI, SLO⟩ VA hd0 hd1 hd2 hd3) d5_36 [(.ref a2), v'0, v'4] [] own_pd4 rfl rfl 0 (Nat.le_refl _) (by decide) (fun v429 T429 L429 h429 e429' X429 hQ429 => ?_)
 obtain ⟨b429, k429, rfl, N429q, E429, lo429, D429⟩ := hQ429
 have N429 := Fr.app N0 N429q
 have zs430 := Nat.le_trans Z0 E429.1
 have od430 := O0.ext E429
 have kp430 := kp0.ext E429
 have g_b429 : n0 ≤ b429 := Nat.le_trans Z0 lo429
 have sz_b429 : h0.size ≤ b429 := Nat.le_trans kp0.1 lo429
 refine own_nv ?_
 rcases D429 with ⟨hA, hV⟩ | ⟨hA, hV⟩
 ·have hV_ := hV
  show own_Fin _ _ _ _ (T429.setTop (mkF m 39 #[.val (.ref a1), .val (.ref a2), .val v'0, .val v'4, .val .null, .unset] [(.ref b429)]))
  refine own_as X429 q d5_39 rfl (l' := #[.val (.ref a1), .val (.ref a2), .val v'0, .val v'4, .val .null, .val (.ref b429)]) rfl (own_aln X429 q d5_41 rfl rfl (own_al X429 q d5_42 rfl rfl (own_iln X429 q d5_44 rfl ?_)))
  refine own_cS X429 q hZ e429' hown hml (W 57 rfl) (W 58 rfl) (W 52 rfl) (W 59 rfl) (rm12_4_4 l Z a0 hw b429 k429 _ h429 n0 zs430 hV) d5_45 [(.ref b429), v'4] [(.ref a1)] own_pd6 rfl rfl 1 (Nat.le_refl _) (by decide) (fun v431 T431 L431 X431 hQ431 => ?_)
  obtain ⟨rfl, N431q, e431⟩ := hQ431
  have N431 := Fr.app N429 N431q
  refine own_nv ?_
  refine own_let ?_; intro g432_
  obtain ⟨T433, h433, X433, e433, W433, st433⟩ := putFN X431 hx hZ hown (W 32 rfl) Via.refl e431 (FC.ext E429) (E1.ext E429) (Or.inr ⟨(W 28 rfl), rfl, hnm⟩) (W 13 rfl) (ty := .byte) (v' := v'0) (by decide) rfl rfl (g := g432_) rfl rfl (q.d d5_48)
  have zs434 := Nat.le_trans zs430 (Keep.of_wr W433).1
  have od434 := od430.wr W433 g1
  have kp434 := kp430.wr W433 (own_i0)
  have Fw433 := ((FC.ext E429)).same W433
  have N433 := Fr.snoc X433 N431 g1
  refine own_stp 51 st433 (own_aln X433 q d5_51 rfl rfl (own_al X433 q d5_52 rfl rfl ?_))
  refine own_let ?_; intro g435_
  obtain ⟨T436, h436, X436, e436, W436, st436⟩ := putF X433 hx hZ hown (host := "") (Or.inl (W 31 rfl)) Via.refl e433 ((FV.ext E429).other W433 (Or.inr (slot_ne (Or.inr (W 27 rfl)) (Or.inr (W 28 rfl)) (by decide) (t := (.array .byte)) (t' := .byte) (by decide) (by decide)))) ((E1.ext E429).wr W433) (Or.inr ⟨(W 27 rfl), rfl, hnm⟩) (W 13 rfl) (ty := (.array .byte)) (by decide) rfl rfl (g := g435_) rfl rfl (q.d d5_54)
  have zs437 := Nat.le_trans zs434 (Keep.of_wr W436).1
  have od437 := od434.wr W436 g1
  have kp437 := kp434.wr W436 (own_i0)
  have Fw436 := (((FV.ext E429).other W433 (Or.inr (slot_ne (Or.inr (W 27 rfl)) (Or.inr (W 28 rfl)) (by decide) (t := (.array .byte)) (t' := .byte) (by decide) (by decide))))).same W436
  have N436 := Fr.snoc X436 N433 g1
  refine own_stp 57 st436 ?_
  refine own_rV X436 q hrt d5_57 hlk (by decide) ?_
  show QI4 Z a1 x0 x1 x2 x3 h0 n0 _ T436.heap _
  rw [e436]
  exact ⟨_, _, rfl, N436, kp437, sz_b429, Fw436, Or.inl ⟨(Fw433.other W436 (Or.inr (slot_ne (Or.inr (W 28 rfl)) (Or.inr (W 27 rfl)) (by decide) (t := .byte) (t' := (.array .byte)) (by decide) (by decide)))), hA, ((hV.other W433 (Ne.symm (own_ne (E1).lt lo429))).other W436 (Ne.symm (own_ne (E1).lt lo429)))⟩⟩
 ·have hV_ := hV
  show own_Fin _ _ _ _ (T429.setTop (mkF m 39 #[.val (.ref a1), .val (.ref a2), .val v'0, .val v'4, .val .null, .unset] [(.ref b429)]))
  refine own_as X429 q d5_39 rfl (l' := #[.val (.ref a1), .val (.ref a2), .val v'0, .val v'4, .val .null, .val (.ref b429)]) rfl (own_aln X429 q d5_41 rfl rfl (own_al X429 q d5_42 rfl rfl (own_iln X429 q d5_44 rfl ?_)))
  refine own_cS X429 q hZ e429' hown hml (W 57 rfl) (W 58 rfl) (W 52 rfl) (W 59 rfl) (rm12_4_8 l Z a0 hw b429 k429 _ h429 n0 zs430 hV) d5_45 [(.ref b429), v'4] [(.ref a1)] own_pd6 rfl rfl 1 (Nat.le_refl _) (by decide) (fun v438 T438 L438 X438 hQ438 => ?_)
  obtain ⟨rfl, N438q, e438⟩ := hQ438
  have N438 := Fr.app N429 N438q
  refine own_nv ?_
  refine own_let ?_; intro g439_
  obtain ⟨T440, h440, X440, e440, W440, st440⟩ := putFN X438 hx hZ hown (W 32 rfl) Via.refl e438 (FC.ext E429) (E1.ext E429) (Or.inr ⟨(W 28 rfl), rfl, hnm⟩) (W 13 rfl) (ty := .byte) (v' := v'1) (by decide) rfl rfl (g := g439_) rfl rfl (q.d d5_48)
  have zs441 := Nat.le_trans zs430 (Keep.of_wr W440).1
  have od441 := od430.wr W440 g1
  have kp441 := kp430.wr W440 (own_i0)
  have Fw440 := ((FC.ext E429)).same W440
  have N440 := Fr.snoc X440 N438 g1
  refine own_stp 51 st440 (own_aln X440 q d5_51 rfl rfl (own_al X440 q d5_52 rfl rfl ?_))
  refine own_let ?_; intro g442_
  obtain ⟨T443, h443, X443, e443, W443, st443⟩ := putF X440 hx hZ hown (host := "") (Or.inl (W 31 rfl)) Via.refl e440 ((FV.ext E429).other W440 (Or.inr (slot_ne (Or.inr (W 27 rfl)) (Or.inr (W 28 rfl)) (by decide) (t := (.array .byte)) (t' := .byte) (by decide) (by decide)))) ((E1.ext E429).wr W440) (Or.inr ⟨(W 27 rfl), rfl, hnm⟩) (W 13 rfl) (ty := (.array .byte)) (by decide) rfl rfl (g := g442_) rfl rfl (q.d d5_54)
  have zs444 := Nat.le_trans zs441 (Keep.of_wr W443).1
  have od444 := od441.wr W443 g1
  have kp444 := kp441.wr W443 (own_i0)
  have Fw443 := (((FV.ext E429).other W440 (Or.inr (slot_ne (Or.inr (W 27 rfl)) (Or.inr (W 28 rfl)) (by decide) (t := (.array .byte)) (t' := .byte) (by decide) (by decide))))).same W443
  have N443 := Fr.snoc X443 N440 g1
  refine own_stp 57 st443 ?_
  refine own_rV X443 q hrt d5_57 hlk (by decide) ?_
  show QI4 Z a1 x0 x1 x2 x3 h0 n0 _ T443.heap _
  rw [e443]
  exact ⟨_, _, rfl, N443, kp444, sz_b429, Fw443, Or.inr ⟨(Fw440.other W443 (Or.inr (slot_ne (Or.inr (W 28 rfl)) (Or.inr (W 27 rfl)) (by decide) (t := .byte) (t' := (.array .byte)) (by decide) (by decide)))), hA, ((hV.other W440 (Ne.symm (own_ne (E1).lt lo429))).other W443 (Ne.symm (own_ne (E1).lt lo429)))⟩⟩
theorem rm4_4 (l : Launch) (Z : State) (a0 : Array Value) (hw : own_hw a0 Z) (a1 : Addr) (a2 : Addr) (k1 : ClassId) (x0 x1 x2 x3 : Int32) (cs0 : Int32) (h0 : Heap) (n0 : Nat) (Z0 : n0 ≤ h0.size) (E1 : Exa Z h0 a1 "java/lang/String") (FV : F'1 Z h0 a1 .null) (FC : F'0 Z h0 a1 v'0) (VA : Arv Z h0 a2 k1 .char (4 : Int32) [(.int x0), (.int x1), (.int x2), (.int x3)] v'0) (g1 : n0 ≤ a1) (n12 : a1 ≠ a2) (O0 : Old Z n0 h0) (SC_ : own_SC Z cs0) (SU_ : own_SU Z) (hd0 : own_c16 x0) (hd1 : own_c16 x1) (hd2 : own_c16 x2) (hd3 : own_c16 x3) :
  own_M l Z [] own_y9 b'4 2 none ⟨5, 2, 12, 74⟩ #[(.ref a1), (.ref a2)] h0 (QI4 Z a1 x0 x1 x2 x3 h0 n0) := by
 obtain ⟨SCS, hcs⟩ := SC_; obtain ⟨SAD, SHI, SLO⟩ := SU_
 refine own_start (n0 := n0) hw "java/lang/String" (L := #[.val (.ref a1), .val (.ref a2)]) pn_4 (fun {p e s m below meth c s₁} q hx W hml hZ hown hnm hlk hrt X0 e0 N0 => ?_)
 have kp0 := Keep.refl h0 [a1]
 refine own_aln X0 q d4_0 rfl rfl (own_aln X0 q d4_1 rfl rfl (own_k X0 q d4_2 (own_aln X0 q d4_3 rfl rfl (own_alen (n := (4 : Int32)) X0 q hZ e0 VA d4_4 (own_nl X0 q d4_5 ?_)))))
 refine own_cIh (a := a1) X0 q hZ e0 hown hml (W 18 rfl) (W 19 rfl) (W 14 rfl) (W 21 rfl) (rm5_4 l Z a0 hw a1 a2 k1 x0 x1 x2 x3 cs0 h0 n0 Z0 E1 FV FC VA g1 n12 O0 ⟨SCS, hcs⟩ ⟨SAD, SHI, SLO⟩ hd0 hd1 hd2 hd3) d4_6 [(.ref a2), v'0, v'4, .null] [] own_pd7 rfl rfl 0 (Nat.le_refl _) rfl (by decide) (fun v447 T447 L447 h447 e447' X447 hQ447 => ?_)
 obtain ⟨t447, k447, rfl, N447q, K447, lo447, Fv447, D447⟩ := hQ447
 have N447 := Fr.app N0 N447q
 have zs448 := Nat.le_trans Z0 K447.1
 have od448 := O0.keep K447 (allS g1 all0)
 have kp448 := kp0.trans K447 (allS (own_i0) all0)
 have g_t447 : n0 ≤ t447 := Nat.le_trans Z0 lo447
 have sz_t447 : h0.size ≤ t447 := Nat.le_trans kp0.1 lo447
 refine own_nn ?_
 refine own_rV X447 q hrt d4_9 hlk (by decide) ?_
 show QI4 Z a1 x0 x1 x2 x3 h0 n0 _ T447.heap _
 rw [e447']
 exact ⟨_, _, rfl, N447, kp448, sz_t447, Fv447, D447⟩
theorem rm11_5 (l : Launch) (Z : State) (a0 : Array Value) (hw : own_hw a0 Z) (a1 : Addr) (b : Addr) (k1 k2 : ClassId) (x0 x1 x2 x3 x4 : Int32) (h0 : Heap) (n0 : Nat) (Z0 : n0 ≤ h0.size) (VA : Arv Z h0 a1 k1 .char (5 : Int32) [(.int x0), (.int x1), (.int x2), (.int x3), (.int x4)] v'0) (VB : Arv Z h0 b k2 .byte (5 : Int32) [v'0, v'0, v'0, v'0, v'0] v'0) (gb : n0 ≤ b) (nab : a1 ≠ b) :
  own_M l Z [] own_y1 b'11 7 (some .int) ⟨0, 0, 0, 0⟩ #[(.ref a1), v'0, (.ref b), v'0, v'5] h0 (QC5a Z b k2 x0 x1 x2 x3 x4 h0 n0) := by
 refine own_start (n0 := n0) hw "java/lang/StringUTF16" (L := #[.val (.ref a1), .val v'0, .val (.ref b), .val v'0, .val v'5, .unset, .unset]) pn_11 (fun {p e s m below meth c s₁} q hx W hml hZ hown hnm hlk hrt X0 e0 N0 => ?_)
 have kp0 := Keep.refl h0 [b]
 refine own_k X0 q d11_0 (own_is X0 q d11_1 (l' := #[.val (.ref a1), .val v'0, .val (.ref b), .val v'0, .val v'5, .val v'0, .unset]) rfl (own_il X0 q d11_3 rfl (own_il X0 q d11_5 rfl (own_cn X0 q d11_7 ((tlt ((by decide) : (0 : Int32) < (5 : Int32))).2.1) (own_aln X0 q d11_10 rfl rfl (own_iln X0 q d11_11 rfl (own_cld (v := (.int x0)) X0 q hZ e0 VA d11_12 (by decide) rfl (own_is X0 q d11_13 (l' := #[.val (.ref a1), .val v'0, .val (.ref b), .val v'0, .val v'5, .val v'0, .val (.int x0)]) rfl (own_il X0 q d11_15 rfl (own_k X0 q d11_17 ?_))))))))))
 by_cases hc20_464 : (255 : Int32) < x0
 ·refine own_cn X0 q d11_20 ((tlt hc20_464).2.2.2) (own_il X0 q d11_23 rfl ?_)
  refine own_rI X0 q hrt d11_25 hlk (by decide) ?_
  show QC5a Z b k2 x0 x1 x2 x3 x4 h0 n0 _ s₁.heap _
  rw [e0]
  exact ⟨_, rfl, N0, kp0, Or.inr (Or.inl ⟨rfl, hc20_464⟩)⟩
 ·refine own_cy X0 q d11_20 ((flt hc20_464).2.2.2) (own_aln X0 q d11_26 rfl rfl (own_iln X0 q d11_27 rfl (own_il X0 q d11_28 rfl (own_stp 31 (fun _ k => XS.i2b X0.here hx rfl (q.d d11_30) rfl k) ?_))))
  refine own_bst X0 q hZ e0 VB d11_31 (by decide) (Nat.le_of_ble_eq_true rfl) N0 gb fun T465 h465 X465 e465 W465 V465 N465 => ?_
  have zs466 := Nat.le_trans Z0 (Keep.of_wr W465).1
  have kp466 := kp0.wr W465 (own_i0)
  refine own_iik X465 q d11_32 rfl (show ((0 : Int32) + (1 : Int32)) = (1 : Int32) by decide) (l' := #[.val (.ref a1), .val v'1, .val (.ref b), .val v'0, .val v'5, .val v'0, .val (.int x0)]) rfl (own_iik X465 q d11_35 rfl (show ((0 : Int32) + (1 : Int32)) = (1 : Int32) by decide) (l' := #[.val (.ref a1), .val v'1, .val (.ref b), .val v'1, .val v'5, .val v'0, .val (.int x0)]) rfl (own_iik X465 q d11_38 rfl (show ((0 : Int32) + (1 : Int32)) = (1 : Int32) by decide) (l' := #[.val (.ref a1), .val v'1, .val (.ref b), .val v'1, .val v'5, .val v'1, .val (.int x0)]) rfl (own_gt X465 q d11_41 (own_il X465 q d11_3 rfl (own_il X465 q d11_5 rfl (own_cn X465 q d11_7 ((tlt ((by decide) : (1 : Int32) < (5 : Int32))).2.1) (own_aln X465 q d11_10 rfl rfl (own_iln X465 q d11_11 rfl (own_cld (v := (.int x1)) X465 q hZ e465 (VA.other W465 nab) d11_12 (by decide) rfl (own_is X465 q d11_13 (l' := #[.val (.ref a1), .val v'1, .val (.ref b), .val v'1, .val v'5, .val v'1, .val (.int x1)]) rfl (own_il X465 q d11_15 rfl ?_)))))))))))
  refine own_k X465 q d11_17 ?_
  by_cases hc20_467 : (255 : Int32) < x1
  ·refine own_cn X465 q d11_20 ((tlt hc20_467).2.2.2) (own_il X465 q d11_23 rfl ?_)
   refine own_rI X465 q hrt d11_25 hlk (by decide) ?_
   show QC5a Z b k2 x0 x1 x2 x3 x4 h0 n0 _ T465.heap _
   rw [e465]
   exact ⟨_, rfl, N465, kp466, Or.inr (Or.inr (Or.inl ⟨rfl, hc20_467⟩))⟩
  ·refine own_cy X465 q d11_20 ((flt hc20_467).2.2.2) (own_aln X465 q d11_26 rfl rfl (own_iln X465 q d11_27 rfl (own_il X465 q d11_28 rfl (own_stp 31 (fun _ k => XS.i2b X465.here hx rfl (q.d d11_30) rfl k) ?_))))
   refine own_bst X465 q hZ e465 V465 d11_31 (by decide) (Nat.le_of_ble_eq_true rfl) N465 gb fun T468 h468 X468 e468 W468 V468 N468 => ?_
   have zs469 := Nat.le_trans zs466 (Keep.of_wr W468).1
   have kp469 := kp466.wr W468 (own_i0)
   refine own_iik X468 q d11_32 rfl (show ((1 : Int32) + (1 : Int32)) = (2 : Int32) by decide) (l' := #[.val (.ref a1), .val v'2, .val (.ref b), .val v'1, .val v'5, .val v'1, .val (.int x1)]) rfl (own_iik X468 q d11_35 rfl (show ((1 : Int32) + (1 : Int32)) = (2 : Int32) by decide) (l' := #[.val (.ref a1), .val v'2, .val (.ref b), .val v'2, .val v'5, .val v'1, .val (.int x1)]) rfl (own_iik X468 q d11_38 rfl (show ((1 : Int32) + (1 : Int32)) = (2 : Int32) by decide) (l' := #[.val (.ref a1), .val v'2, .val (.ref b), .val v'2, .val v'5, .val v'2, .val (.int x1)]) rfl (own_gt X468 q d11_41 (own_il X468 q d11_3 rfl (own_il X468 q d11_5 rfl (own_cn X468 q d11_7 ((tlt ((by decide) : (2 : Int32) < (5 : Int32))).2.1) (own_aln X468 q d11_10 rfl rfl (own_iln X468 q d11_11 rfl (own_cld (v := (.int x2)) X468 q hZ e468 ((VA.other W465 nab).other W468 nab) d11_12 (by decide) rfl (own_is X468 q d11_13 (l' := #[.val (.ref a1), .val v'2, .val (.ref b), .val v'2, .val v'5, .val v'2, .val (.int x2)]) rfl (own_il X468 q d11_15 rfl ?_)))))))))))
   refine own_k X468 q d11_17 ?_
   by_cases hc20_470 : (255 : Int32) < x2
   ·refine own_cn X468 q d11_20 ((tlt hc20_470).2.2.2) (own_il X468 q d11_23 rfl ?_)
    refine own_rI X468 q hrt d11_25 hlk (by decide) ?_
    show QC5a Z b k2 x0 x1 x2 x3 x4 h0 n0 _ T468.heap _
    rw [e468]
    exact ⟨_, rfl, N468, kp469, Or.inr (Or.inr (Or.inr (Or.inl ⟨rfl, hc20_470⟩)))⟩
   ·refine own_cy X468 q d11_20 ((flt hc20_470).2.2.2) (own_aln X468 q d11_26 rfl rfl (own_iln X468 q d11_27 rfl (own_il X468 q d11_28 rfl (own_stp 31 (fun _ k => XS.i2b X468.here hx rfl (q.d d11_30) rfl k) ?_))))
    refine own_bst X468 q hZ e468 V468 d11_31 (by decide) (Nat.le_of_ble_eq_true rfl) N468 gb fun T471 h471 X471 e471 W471 V471 N471 => ?_
    have zs472 := Nat.le_trans zs469 (Keep.of_wr W471).1
    have kp472 := kp469.wr W471 (own_i0)
    refine own_iik X471 q d11_32 rfl (show ((2 : Int32) + (1 : Int32)) = (3 : Int32) by decide) (l' := #[.val (.ref a1), .val v'3, .val (.ref b), .val v'2, .val v'5, .val v'2, .val (.int x2)]) rfl (own_iik X471 q d11_35 rfl (show ((2 : Int32) + (1 : Int32)) = (3 : Int32) by decide) (l' := #[.val (.ref a1), .val v'3, .val (.ref b), .val v'3, .val v'5, .val v'2, .val (.int x2)]) rfl (own_iik X471 q d11_38 rfl (show ((2 : Int32) + (1 : Int32)) = (3 : Int32) by decide) (l' := #[.val (.ref a1), .val v'3, .val (.ref b), .val v'3, .val v'5, .val v'3, .val (.int x2)]) rfl (own_gt X471 q d11_41 (own_il X471 q d11_3 rfl (own_il X471 q d11_5 rfl (own_cn X471 q d11_7 ((tlt ((by decide) : (3 : Int32) < (5 : Int32))).2.1) (own_aln X471 q d11_10 rfl rfl (own_iln X471 q d11_11 rfl (own_cld (v := (.int x3)) X471 q hZ e471 (((VA.other W465 nab).other W468 nab).other W471 nab) d11_12 (by decide) rfl (own_is X471 q d11_13 (l' := #[.val (.ref a1), .val v'3, .val (.ref b), .val v'3, .val v'5, .val v'3, .val (.int x3)]) rfl (own_il X471 q d11_15 rfl ?_)))))))))))
    refine own_k X471 q d11_17 ?_
    by_cases hc20_473 : (255 : Int32) < x3
    ·refine own_cn X471 q d11_20 ((tlt hc20_473).2.2.2) (own_il X471 q d11_23 rfl ?_)
     refine own_rI X471 q hrt d11_25 hlk (by decide) ?_
     show QC5a Z b k2 x0 x1 x2 x3 x4 h0 n0 _ T471.heap _
     rw [e471]
     exact ⟨_, rfl, N471, kp472, Or.inr (Or.inr (Or.inr (Or.inr (Or.inl ⟨rfl, hc20_473⟩))))⟩
    ·refine own_cy X471 q d11_20 ((flt hc20_473).2.2.2) (own_aln X471 q d11_26 rfl rfl (own_iln X471 q d11_27 rfl (own_il X471 q d11_28 rfl (own_stp 31 (fun _ k => XS.i2b X471.here hx rfl (q.d d11_30) rfl k) ?_))))
     refine own_bst X471 q hZ e471 V471 d11_31 (by decide) (Nat.le_of_ble_eq_true rfl) N471 gb fun T474 h474 X474 e474 W474 V474 N474 => ?_
     have zs475 := Nat.le_trans zs472 (Keep.of_wr W474).1
     have kp475 := kp472.wr W474 (own_i0)
     refine own_iik X474 q d11_32 rfl (show ((3 : Int32) + (1 : Int32)) = (4 : Int32) by decide) (l' := #[.val (.ref a1), .val v'4, .val (.ref b), .val v'3, .val v'5, .val v'3, .val (.int x3)]) rfl (own_iik X474 q d11_35 rfl (show ((3 : Int32) + (1 : Int32)) = (4 : Int32) by decide) (l' := #[.val (.ref a1), .val v'4, .val (.ref b), .val v'4, .val v'5, .val v'3, .val (.int x3)]) rfl (own_iik X474 q d11_38 rfl (show ((3 : Int32) + (1 : Int32)) = (4 : Int32) by decide) (l' := #[.val (.ref a1), .val v'4, .val (.ref b), .val v'4, .val v'5, .val v'4, .val (.int x3)]) rfl (own_gt X474 q d11_41 (own_il X474 q d11_3 rfl (own_il X474 q d11_5 rfl (own_cn X474 q d11_7 ((tlt ((by decide) : (4 : Int32) < (5 : Int32))).2.1) (own_aln X474 q d11_10 rfl rfl (own_iln X474 q d11_11 rfl (own_cld (v := (.int x4)) X474 q hZ e474 ((((VA.other W465 nab).other W468 nab).other W471 nab).other W474 nab) d11_12 (by decide) rfl (own_is X474 q d11_13 (l' := #[.val (.ref a1), .val v'4, .val (.ref b), .val v'4, .val v'5, .val v'4, .val (.int x4)]) rfl (own_il X474 q d11_15 rfl ?_)))))))))))
     refine own_k X474 q d11_17 ?_
     by_cases hc20_476 : (255 : Int32) < x4
     ·refine own_cn X474 q d11_20 ((tlt hc20_476).2.2.2) (own_il X474 q d11_23 rfl ?_)
      refine own_rI X474 q hrt d11_25 hlk (by decide) ?_
      show QC5a Z b k2 x0 x1 x2 x3 x4 h0 n0 _ T474.heap _
      rw [e474]
      exact ⟨_, rfl, N474, kp475, Or.inr (Or.inr (Or.inr (Or.inr (Or.inr ⟨rfl, hc20_476⟩))))⟩
     ·refine own_cy X474 q d11_20 ((flt hc20_476).2.2.2) (own_aln X474 q d11_26 rfl rfl (own_iln X474 q d11_27 rfl (own_il X474 q d11_28 rfl (own_stp 31 (fun _ k => XS.i2b X474.here hx rfl (q.d d11_30) rfl k) ?_))))
      refine own_bst X474 q hZ e474 V474 d11_31 (by decide) (Nat.le_of_ble_eq_true rfl) N474 gb fun T477 h477 X477 e477 W477 V477 N477 => ?_
      have zs478 := Nat.le_trans zs475 (Keep.of_wr W477).1
      have kp478 := kp475.wr W477 (own_i0)
      refine own_iik X477 q d11_32 rfl (show ((4 : Int32) + (1 : Int32)) = (5 : Int32) by decide) (l' := #[.val (.ref a1), .val v'5, .val (.ref b), .val v'4, .val v'5, .val v'4, .val (.int x4)]) rfl (own_iik X477 q d11_35 rfl (show ((4 : Int32) + (1 : Int32)) = (5 : Int32) by decide) (l' := #[.val (.ref a1), .val v'5, .val (.ref b), .val v'5, .val v'5, .val v'4, .val (.int x4)]) rfl (own_iik X477 q d11_38 rfl (show ((4 : Int32) + (1 : Int32)) = (5 : Int32) by decide) (l' := #[.val (.ref a1), .val v'5, .val (.ref b), .val v'5, .val v'5, .val v'5, .val (.int x4)]) rfl (own_gt X477 q d11_41 (own_il X477 q d11_3 rfl (own_il X477 q d11_5 rfl (own_cy X477 q d11_7 ((flt (Int32.lt_irrefl : ¬ ((5 : Int32) < (5 : Int32)))).2.1) (own_il X477 q d11_44 rfl ?_)))))))
      refine own_rI X477 q hrt d11_46 hlk (by decide) ?_
      show QC5a Z b k2 x0 x1 x2 x3 x4 h0 n0 _ T477.heap _
      rw [e477]
      exact ⟨_, rfl, N477, kp478, Or.inl ⟨rfl, ⟨hc20_464, hc20_467, hc20_470, hc20_473, hc20_476⟩, V477⟩⟩
theorem rm14_5 (l : Launch) (Z : State) (a0 : Array Value) (hw : own_hw a0 Z)   (h0 : Heap) (n0 : Nat) (Z0 : n0 ≤ h0.size) :
  own_M l Z [] own_y4 b'14 1 (some (.array .byte)) ⟨1, 1, 10, 12⟩ #[v'5] h0 (QNB5 Z h0 n0) := by
 refine own_start (n0 := n0) hw "java/lang/StringUTF16" (L := #[.val v'5]) pn_14 (fun {p e s m below meth c s₁} q hx W hml hZ hown hnm hlk hrt X0 e0 N0 => ?_)
 have kp0 := Keep.refl h0 []
 refine own_iln X0 q d14_0 rfl ?_
 refine own_cS X0 q hZ e0 hown hml (W 66 rfl) (W 67 rfl) (W 52 rfl) (W 68 rfl) (rm15 l Z a0 hw (5 : Int32) (10 : Int32) h0 n0 Z0 (by decide) (by decide) (by decide)) d14_1 [v'5] [] own_pd0 rfl rfl 0 (Nat.le_refl _) (by decide) (fun v483 T483 L483 X483 hQ483 => ?_)
 obtain ⟨rfl, N483q, e483⟩ := hQ483
 have N483 := Fr.app N0 N483q
 refine own_nv ?_
 refine own_let ?_; intro g484_
 obtain ⟨T485, h485, k485, X485, e485, E485, A485, st485⟩ := newP X483 hx hZ (W 26 rfl) e483 (g := g484_) rfl (q.d d14_4) rfl (by decide) (cap := 10) (by decide) (by decide) (by decide) (by decide)
 obtain ⟨b485, g485⟩ : ∃ z, z = h0.size := ⟨_, rfl⟩
 rw [← g485] at A485 st485
 have V485 : Arv Z h485 b485 k485 .byte (10 : Int32) [v'0, v'0, v'0, v'0, v'0, v'0, v'0, v'0, v'0, v'0] v'0 := (Arv.new A485 (by decide)).pad (pad_rep [] v'0 10)
 have zs486 := Nat.le_trans Z0 E485.1
 have kp486 := kp0.ext E485
 have g_b485 : n0 ≤ b485 := Nat.le_trans Z0 (Nat.le_of_eq g485.symm)
 have sz_b485 : h0.size ≤ b485 := Nat.le_trans kp0.1 (Nat.le_of_eq g485.symm)
 refine own_stp 6 st485 ?_
 refine own_rA X485 q hrt d14_6 hlk (by decide) ?_
 show QNB5 Z h0 n0 _ T485.heap _
 rw [e485]
 exact ⟨_, _, rfl, N483, own_extK kp486, sz_b485, V485⟩
theorem rm13_5 (l : Launch) (Z : State) (a0 : Array Value) (hw : own_hw a0 Z) (a1 : Addr) (k1 : ClassId) (x0 x1 x2 x3 x4 : Int32) (h0 : Heap) (n0 : Nat) (Z0 : n0 ≤ h0.size) (O0 : Old Z n0 h0) (SU_ : own_SU Z) (VA : Arv Z h0 a1 k1 .char (5 : Int32) [(.int x0), (.int x1), (.int x2), (.int x3), (.int x4)] v'0) :
  own_M l Z [] own_y5 b'13 5 (some (.array .byte)) ⟨2, 1, 10, 24⟩ #[(.ref a1), v'0, v'5] h0 (QTB5 Z x0 x1 x2 x3 x4 h0 n0) := by
 obtain ⟨SAD, SHI, SLO⟩ := SU_
 refine own_start (n0 := n0) hw "java/lang/StringUTF16" (L := #[.val (.ref a1), .val v'0, .val v'5, .unset, .unset]) pn_13 (fun {p e s m below meth c s₁} q hx W hml hZ hown hnm hlk hrt X0 e0 N0 => ?_)
 have kp0 := Keep.refl h0 []
 refine own_iln X0 q d13_0 rfl ?_
 refine own_cSh X0 q hZ e0 hown hml (W 63 rfl) (W 64 rfl) (W 52 rfl) (W 65 rfl) (rm14_5 l Z a0 hw h0 n0 Z0) d13_1 [v'5] [] own_pd1 rfl rfl 0 (Nat.le_refl _) (by decide) (fun v499 T499 L499 h499 e499' X499 hQ499 => ?_)
 obtain ⟨b499, k499, rfl, N499q, E499, lo499, V499⟩ := hQ499
 have N499 := Fr.app N0 N499q
 have zs500 := Nat.le_trans Z0 E499.1
 have od500 := O0.ext E499
 have kp500 := kp0.ext E499
 have g_b499 : n0 ≤ b499 := Nat.le_trans Z0 lo499
 have sz_b499 : h0.size ≤ b499 := Nat.le_trans kp0.1 lo499
 refine own_nv (own_asn X499 q d13_4 rfl (l' := #[.val (.ref a1), .val v'0, .val v'5, .val (.ref b499), .unset]) rfl (own_k X499 q d13_5 (own_is X499 q d13_6 (l' := #[.val (.ref a1), .val v'0, .val v'5, .val (.ref b499), .val v'0]) rfl (own_il X499 q d13_8 rfl (own_iln X499 q d13_10 rfl (own_cn X499 q d13_11 ((tlt ((by decide) : (0 : Int32) < (5 : Int32))).2.1) (own_aln X499 q d13_14 rfl rfl (own_il X499 q d13_15 rfl (own_aln X499 q d13_17 rfl rfl (own_iln X499 q d13_18 rfl (own_cld (v := (.int x0)) X499 q hZ e499' (VA.ext E499) d13_19 (by decide) rfl ?_)))))))))))
 refine own_cSh X499 q hZ e499' hown hml (W 70 rfl) (W 71 rfl) (W 52 rfl) (W 72 rfl) (rm16 l Z a0 hw b499 (0 : Int32) x0 k499 _ 10 0 h499 n0 zs500 od500 ⟨SAD, SHI, SLO⟩ V499 rfl (by decide) (by decide) rfl g_b499) d13_20 [(.ref b499), v'0, (.int x0)] [] own_pd2 rfl rfl 0 (Nat.le_refl _) (by decide) (fun v501 T501 L501 h501 e501' X501 hQ501 => ?_)
 obtain ⟨rfl, N501q, K501, V501⟩ := hQ501
 have N501 := Fr.app N499 N501q
 have zs502 := Nat.le_trans zs500 K501.1
 have od502 := od500.keep K501 (allS g_b499 all0)
 have kp502 := kp500.trans K501 (allS (Or.inr sz_b499) all0)
 refine own_nn (own_iik X501 q d13_23 rfl (show ((0 : Int32) + (1 : Int32)) = (1 : Int32) by decide) (l' := #[.val (.ref a1), .val v'1, .val v'5, .val (.ref b499), .val v'0]) rfl (own_iik X501 q d13_26 rfl (show ((0 : Int32) + (1 : Int32)) = (1 : Int32) by decide) (l' := #[.val (.ref a1), .val v'1, .val v'5, .val (.ref b499), .val v'1]) rfl (own_gt X501 q d13_29 (own_il X501 q d13_8 rfl (own_iln X501 q d13_10 rfl (own_cn X501 q d13_11 ((tlt ((by decide) : (1 : Int32) < (5 : Int32))).2.1) (own_aln X501 q d13_14 rfl rfl (own_il X501 q d13_15 rfl (own_aln X501 q d13_17 rfl rfl (own_iln X501 q d13_18 rfl (own_cld (v := (.int x1)) X501 q hZ e501' ((VA.ext E499).keep K501 (ninS (own_ne (VA).lt lo499) nin0)) d13_19 (by decide) rfl ?_)))))))))))
 refine own_cSh X501 q hZ e501' hown hml (W 70 rfl) (W 71 rfl) (W 52 rfl) (W 72 rfl) (rm16 l Z a0 hw b499 (1 : Int32) x1 k499 _ 10 1 h501 n0 zs502 od502 ⟨SAD, SHI, SLO⟩ V501 rfl (by decide) (by decide) rfl g_b499) d13_20 [(.ref b499), v'1, (.int x1)] [] own_pd2 rfl rfl 0 (Nat.le_refl _) (by decide) (fun v503 T503 L503 h503 e503' X503 hQ503 => ?_)
 obtain ⟨rfl, N503q, K503, V503⟩ := hQ503
 have N503 := Fr.app N501 N503q
 have zs504 := Nat.le_trans zs502 K503.1
 have od504 := od502.keep K503 (allS g_b499 all0)
 have kp504 := kp502.trans K503 (allS (Or.inr sz_b499) all0)
 refine own_nn (own_iik X503 q d13_23 rfl (show ((1 : Int32) + (1 : Int32)) = (2 : Int32) by decide) (l' := #[.val (.ref a1), .val v'2, .val v'5, .val (.ref b499), .val v'1]) rfl (own_iik X503 q d13_26 rfl (show ((1 : Int32) + (1 : Int32)) = (2 : Int32) by decide) (l' := #[.val (.ref a1), .val v'2, .val v'5, .val (.ref b499), .val v'2]) rfl (own_gt X503 q d13_29 (own_il X503 q d13_8 rfl (own_iln X503 q d13_10 rfl (own_cn X503 q d13_11 ((tlt ((by decide) : (2 : Int32) < (5 : Int32))).2.1) (own_aln X503 q d13_14 rfl rfl (own_il X503 q d13_15 rfl (own_aln X503 q d13_17 rfl rfl (own_iln X503 q d13_18 rfl (own_cld (v := (.int x2)) X503 q hZ e503' (((VA.ext E499).keep K501 (ninS (own_ne (VA).lt lo499) nin0)).keep K503 (ninS (own_ne (VA).lt lo499) nin0)) d13_19 (by decide) rfl ?_)))))))))))
 refine own_cSh X503 q hZ e503' hown hml (W 70 rfl) (W 71 rfl) (W 52 rfl) (W 72 rfl) (rm16 l Z a0 hw b499 (2 : Int32) x2 k499 _ 10 2 h503 n0 zs504 od504 ⟨SAD, SHI, SLO⟩ V503 rfl (by decide) (by decide) rfl g_b499) d13_20 [(.ref b499), v'2, (.int x2)] [] own_pd2 rfl rfl 0 (Nat.le_refl _) (by decide) (fun v505 T505 L505 h505 e505' X505 hQ505 => ?_)
 obtain ⟨rfl, N505q, K505, V505⟩ := hQ505
 have N505 := Fr.app N503 N505q
 have zs506 := Nat.le_trans zs504 K505.1
 have od506 := od504.keep K505 (allS g_b499 all0)
 have kp506 := kp504.trans K505 (allS (Or.inr sz_b499) all0)
 refine own_nn (own_iik X505 q d13_23 rfl (show ((2 : Int32) + (1 : Int32)) = (3 : Int32) by decide) (l' := #[.val (.ref a1), .val v'3, .val v'5, .val (.ref b499), .val v'2]) rfl (own_iik X505 q d13_26 rfl (show ((2 : Int32) + (1 : Int32)) = (3 : Int32) by decide) (l' := #[.val (.ref a1), .val v'3, .val v'5, .val (.ref b499), .val v'3]) rfl (own_gt X505 q d13_29 (own_il X505 q d13_8 rfl (own_iln X505 q d13_10 rfl (own_cn X505 q d13_11 ((tlt ((by decide) : (3 : Int32) < (5 : Int32))).2.1) (own_aln X505 q d13_14 rfl rfl (own_il X505 q d13_15 rfl (own_aln X505 q d13_17 rfl rfl (own_iln X505 q d13_18 rfl (own_cld (v := (.int x3)) X505 q hZ e505' ((((VA.ext E499).keep K501 (ninS (own_ne (VA).lt lo499) nin0)).keep K503 (ninS (own_ne (VA).lt lo499) nin0)).keep K505 (ninS (own_ne (VA).lt lo499) nin0)) d13_19 (by decide) rfl ?_)))))))))))
 refine own_cSh X505 q hZ e505' hown hml (W 70 rfl) (W 71 rfl) (W 52 rfl) (W 72 rfl) (rm16 l Z a0 hw b499 (3 : Int32) x3 k499 _ 10 3 h505 n0 zs506 od506 ⟨SAD, SHI, SLO⟩ V505 rfl (by decide) (by decide) rfl g_b499) d13_20 [(.ref b499), v'3, (.int x3)] [] own_pd2 rfl rfl 0 (Nat.le_refl _) (by decide) (fun v507 T507 L507 h507 e507' X507 hQ507 => ?_)
 obtain ⟨rfl, N507q, K507, V507⟩ := hQ507
 have N507 := Fr.app N505 N507q
 have zs508 := Nat.le_trans zs506 K507.1
 have od508 := od506.keep K507 (allS g_b499 all0)
 have kp508 := kp506.trans K507 (allS (Or.inr sz_b499) all0)
 refine own_nn (own_iik X507 q d13_23 rfl (show ((3 : Int32) + (1 : Int32)) = (4 : Int32) by decide) (l' := #[.val (.ref a1), .val v'4, .val v'5, .val (.ref b499), .val v'3]) rfl (own_iik X507 q d13_26 rfl (show ((3 : Int32) + (1 : Int32)) = (4 : Int32) by decide) (l' := #[.val (.ref a1), .val v'4, .val v'5, .val (.ref b499), .val v'4]) rfl (own_gt X507 q d13_29 (own_il X507 q d13_8 rfl (own_iln X507 q d13_10 rfl (own_cn X507 q d13_11 ((tlt ((by decide) : (4 : Int32) < (5 : Int32))).2.1) (own_aln X507 q d13_14 rfl rfl (own_il X507 q d13_15 rfl (own_aln X507 q d13_17 rfl rfl (own_iln X507 q d13_18 rfl (own_cld (v := (.int x4)) X507 q hZ e507' (((((VA.ext E499).keep K501 (ninS (own_ne (VA).lt lo499) nin0)).keep K503 (ninS (own_ne (VA).lt lo499) nin0)).keep K505 (ninS (own_ne (VA).lt lo499) nin0)).keep K507 (ninS (own_ne (VA).lt lo499) nin0)) d13_19 (by decide) rfl ?_)))))))))))
 refine own_cSh X507 q hZ e507' hown hml (W 70 rfl) (W 71 rfl) (W 52 rfl) (W 72 rfl) (rm16 l Z a0 hw b499 (4 : Int32) x4 k499 _ 10 4 h507 n0 zs508 od508 ⟨SAD, SHI, SLO⟩ V507 rfl (by decide) (by decide) rfl g_b499) d13_20 [(.ref b499), v'4, (.int x4)] [] own_pd2 rfl rfl 0 (Nat.le_refl _) (by decide) (fun v509 T509 L509 h509 e509' X509 hQ509 => ?_)
 obtain ⟨rfl, N509q, K509, V509⟩ := hQ509
 have N509 := Fr.app N507 N509q
 have zs510 := Nat.le_trans zs508 K509.1
 have od510 := od508.keep K509 (allS g_b499 all0)
 have kp510 := kp508.trans K509 (allS (Or.inr sz_b499) all0)
 refine own_nn (own_iik X509 q d13_23 rfl (show ((4 : Int32) + (1 : Int32)) = (5 : Int32) by decide) (l' := #[.val (.ref a1), .val v'5, .val v'5, .val (.ref b499), .val v'4]) rfl (own_iik X509 q d13_26 rfl (show ((4 : Int32) + (1 : Int32)) = (5 : Int32) by decide) (l' := #[.val (.ref a1), .val v'5, .val v'5, .val (.ref b499), .val v'5]) rfl (own_gt X509 q d13_29 (own_il X509 q d13_8 rfl (own_iln X509 q d13_10 rfl (own_cy X509 q d13_11 ((flt (Int32.lt_irrefl : ¬ ((5 : Int32) < (5 : Int32)))).2.1) (own_aln X509 q d13_32 rfl rfl ?_)))))))
 refine own_rA X509 q hrt d13_33 hlk (by decide) ?_
 show QTB5 Z x0 x1 x2 x3 x4 h0 n0 _ T509.heap _
 rw [e509']
 exact ⟨_, _, rfl, N509, own_extK kp510, sz_b499, V509⟩
theorem rm10_5 (l : Launch) (Z : State) (a0 : Array Value) (hw : own_hw a0 Z) (a1 : Addr) (k1 : ClassId) (x0 x1 x2 x3 x4 : Int32) (h0 : Heap) (n0 : Nat) (Z0 : n0 ≤ h0.size) (O0 : Old Z n0 h0) (SU_ : own_SU Z) (VA : Arv Z h0 a1 k1 .char (5 : Int32) [(.int x0), (.int x1), (.int x2), (.int x3), (.int x4)] v'0) (hd0 : own_c16 x0) (hd1 : own_c16 x1) (hd2 : own_c16 x2) (hd3 : own_c16 x3) (hd4 : own_c16 x4) :
  own_M l Z [] own_y6 b'10 6 (some (.array .byte)) ⟨3, 2, 15, 40⟩ #[(.ref a1), v'0, v'5] h0 (QC5b Z x0 x1 x2 x3 x4 h0 n0) := by
 obtain ⟨SAD, SHI, SLO⟩ := SU_
 refine own_start (n0 := n0) hw "java/lang/StringUTF16" (L := #[.val (.ref a1), .val v'0, .val v'5, .unset, .unset, .unset]) pn_10 (fun {p e s m below meth c s₁} q hx W hml hZ hown hnm hlk hrt X0 e0 N0 => ?_)
 have hby := q.2
 have kp0 := Keep.refl h0 []
 refine own_iln X0 q d10_0 rfl ?_
 refine own_let ?_; intro g531_
 obtain ⟨T532, h532, k532, X532, e532, E532, A532, st532⟩ := newP X0 hx hZ (W 26 rfl) e0 (g := g531_) rfl (q.d d10_1) rfl (by decide) (cap := 5) (by decide) (by decide) (by decide) (by decide)
 obtain ⟨b532, g532⟩ : ∃ z, z = h0.size := ⟨_, rfl⟩
 rw [← g532] at A532 st532
 have V532 : Arv Z h532 b532 k532 .byte (5 : Int32) [v'0, v'0, v'0, v'0, v'0] v'0 := (Arv.new A532 (by decide)).pad (pad_rep [] v'0 5)
 have zs533 := Nat.le_trans Z0 E532.1
 have od533 := O0.ext E532
 have kp533 := kp0.ext E532
 have g_b532 : n0 ≤ b532 := Nat.le_trans Z0 (Nat.le_of_eq g532.symm)
 have sz_b532 : h0.size ≤ b532 := Nat.le_trans kp0.1 (Nat.le_of_eq g532.symm)
 refine own_stp 3 st532 (own_asn X532 q d10_3 rfl (l' := #[.val (.ref a1), .val v'0, .val v'5, .val (.ref b532), .unset, .unset]) rfl (own_aln X532 q d10_4 rfl rfl (own_iln X532 q d10_5 rfl (own_aln X532 q d10_6 rfl rfl (own_k X532 q d10_7 (own_iln X532 q d10_8 rfl ?_))))))
 refine own_cSh X532 q hZ e532 hown hml (W 54 rfl) (W 55 rfl) (W 52 rfl) (W 56 rfl) (rm11_5 l Z a0 hw a1 b532 k1 k532 x0 x1 x2 x3 x4 h532 n0 zs533 (VA.ext E532) V532 g_b532 (own_ne (VA).lt (Nat.le_of_eq g532.symm))) d10_9 [(.ref a1), v'0, (.ref b532), v'0, v'5] [] own_pd3 rfl rfl 0 (Nat.le_refl _) (by decide) (fun v534 T534 L534 h534 e534' X534 hQ534 => ?_)
 obtain ⟨z534, rfl, N534q, K534, D534⟩ := hQ534
 have N534 := Fr.app N0 N534q
 have zs535 := Nat.le_trans zs533 K534.1
 have od535 := od533.keep K534 (allS g_b532 all0)
 have kp535 := kp533.trans K534 (allS (Or.inr sz_b532) all0)
 refine own_nv ?_
 rcases D534 with ⟨hz, hA, hV⟩ | ⟨hz, hB⟩ | ⟨hz, hB⟩ | ⟨hz, hB⟩ | ⟨hz, hB⟩ | ⟨hz, hB⟩
 ·subst hz
  show own_Fin _ _ _ _ (T534.setTop (mkF m 12 #[.val (.ref a1), .val v'0, .val v'5, .val (.ref b532), .unset, .unset] [v'5]))
  refine own_is X534 q d10_12 (l' := #[.val (.ref a1), .val v'0, .val v'5, .val (.ref b532), .val v'5, .unset]) rfl (own_il X534 q d10_14 rfl (own_iln X534 q d10_16 rfl (own_cy X534 q d10_17 ((teq (rfl : (5 : Int32) = (5 : Int32))).1) (own_aln X534 q d10_57 rfl rfl ?_))))
  refine own_rA X534 q hrt d10_58 hlk (by decide) ?_
  show QC5b Z x0 x1 x2 x3 x4 h0 n0 _ T534.heap _
  rw [e534']
  exact ⟨_, _, rfl, N534, own_extK kp535, sz_b532, Or.inl ⟨hA, hV⟩⟩
 ·subst hz
  show own_Fin _ _ _ _ (T534.setTop (mkF m 12 #[.val (.ref a1), .val v'0, .val v'5, .val (.ref b532), .unset, .unset] [v'0]))
  refine own_is X534 q d10_12 (l' := #[.val (.ref a1), .val v'0, .val v'5, .val (.ref b532), .val v'0, .unset]) rfl (own_il X534 q d10_14 rfl (own_iln X534 q d10_16 rfl (own_cn X534 q d10_17 ((feq ((by decide) : ¬ ((0 : Int32) = (5 : Int32)))).1) (own_aln X534 q d10_20 rfl rfl (own_iln X534 q d10_21 rfl (own_iln X534 q d10_22 rfl ?_))))))
  refine own_cSh X534 q hZ e534' hown hml (W 60 rfl) (W 61 rfl) (W 52 rfl) (W 62 rfl) (rm13_5 l Z a0 hw a1 k1 x0 x1 x2 x3 x4 h534 n0 zs535 od535 ⟨SAD, SHI, SLO⟩ ((VA.ext E532).keep K534 (ninS (own_ne (VA).lt (Nat.le_of_eq g532.symm)) nin0))) d10_23 [(.ref a1), v'0, v'5] [] own_pd4 rfl rfl 0 (Nat.le_refl _) (by decide) (fun v536 T536 L536 h536 e536' X536 hQ536 => ?_)
  obtain ⟨b536, k536, rfl, N536q, E536, lo536, V536⟩ := hQ536
  have N536 := Fr.app N534 N536q
  have zs537 := Nat.le_trans zs535 E536.1
  have od537 := od535.ext E536
  have kp537 := kp535.ext E536
  have g_b536 : n0 ≤ b536 := Nat.le_trans zs535 lo536
  have sz_b536 : h0.size ≤ b536 := Nat.le_trans kp535.1 lo536
  refine own_nv (own_as X536 q d10_26 rfl (l' := #[.val (.ref a1), .val v'0, .val v'5, .val (.ref b532), .val v'0, .val (.ref b536)]) rfl (own_al X536 q d10_28 rfl rfl (own_il X536 q d10_30 rfl ?_)))
  refine own_cS X536 q hZ e536' hown hml (W 76 rfl) (W 77 rfl) (W 52 rfl) (W 78 rfl) (rm17 l Z a0 hw b536 (0 : Int32) k536 _ 10 0 x0 h536 n0 zs537 od537 ⟨SAD, SHI, SLO⟩ V536 rfl (by decide) (by decide) rfl rfl) d10_32 [(.ref b536), v'0] [] own_pd5 rfl rfl 0 (Nat.le_refl _) (by decide) (fun v538 T538 L538 X538 hQ538 => ?_)
  obtain ⟨rfl, N538q, e538⟩ := hQ538
  have N538 := Fr.app N536 N538q
  refine own_nv (own_k X538 q d10_35 (own_cy X538 q d10_38 ((tlt ((by rw [own_gcE hd0]; exact hB) : (255 : Int32) < (own_gc x0))).2.2.1) (own_al X538 q d10_54 rfl rfl ?_)))
  refine own_rA X538 q hrt d10_56 hlk (by decide) ?_
  show QC5b Z x0 x1 x2 x3 x4 h0 n0 _ T538.heap _
  rw [e538]
  exact ⟨_, _, rfl, N538, own_extK kp537, sz_b536, Or.inr ⟨(Or.inl hB), V536⟩⟩
 ·subst hz
  show own_Fin _ _ _ _ (T534.setTop (mkF m 12 #[.val (.ref a1), .val v'0, .val v'5, .val (.ref b532), .unset, .unset] [v'1]))
  refine own_is X534 q d10_12 (l' := #[.val (.ref a1), .val v'0, .val v'5, .val (.ref b532), .val v'1, .unset]) rfl (own_il X534 q d10_14 rfl (own_iln X534 q d10_16 rfl (own_cn X534 q d10_17 ((feq ((by decide) : ¬ ((1 : Int32) = (5 : Int32)))).1) (own_aln X534 q d10_20 rfl rfl (own_iln X534 q d10_21 rfl (own_iln X534 q d10_22 rfl ?_))))))
  refine own_cSh X534 q hZ e534' hown hml (W 60 rfl) (W 61 rfl) (W 52 rfl) (W 62 rfl) (rm13_5 l Z a0 hw a1 k1 x0 x1 x2 x3 x4 h534 n0 zs535 od535 ⟨SAD, SHI, SLO⟩ ((VA.ext E532).keep K534 (ninS (own_ne (VA).lt (Nat.le_of_eq g532.symm)) nin0))) d10_23 [(.ref a1), v'0, v'5] [] own_pd4 rfl rfl 0 (Nat.le_refl _) (by decide) (fun v539 T539 L539 h539 e539' X539 hQ539 => ?_)
  obtain ⟨b539, k539, rfl, N539q, E539, lo539, V539⟩ := hQ539
  have N539 := Fr.app N534 N539q
  have zs540 := Nat.le_trans zs535 E539.1
  have od540 := od535.ext E539
  have kp540 := kp535.ext E539
  have g_b539 : n0 ≤ b539 := Nat.le_trans zs535 lo539
  have sz_b539 : h0.size ≤ b539 := Nat.le_trans kp535.1 lo539
  refine own_nv (own_as X539 q d10_26 rfl (l' := #[.val (.ref a1), .val v'0, .val v'5, .val (.ref b532), .val v'1, .val (.ref b539)]) rfl (own_al X539 q d10_28 rfl rfl (own_il X539 q d10_30 rfl ?_)))
  refine own_cS X539 q hZ e539' hown hml (W 76 rfl) (W 77 rfl) (W 52 rfl) (W 78 rfl) (rm17 l Z a0 hw b539 (1 : Int32) k539 _ 10 1 x1 h539 n0 zs540 od540 ⟨SAD, SHI, SLO⟩ V539 rfl (by decide) (by decide) rfl rfl) d10_32 [(.ref b539), v'1] [] own_pd5 rfl rfl 0 (Nat.le_refl _) (by decide) (fun v541 T541 L541 X541 hQ541 => ?_)
  obtain ⟨rfl, N541q, e541⟩ := hQ541
  have N541 := Fr.app N539 N541q
  refine own_nv (own_k X541 q d10_35 (own_cy X541 q d10_38 ((tlt ((by rw [own_gcE hd1]; exact hB) : (255 : Int32) < (own_gc x1))).2.2.1) (own_al X541 q d10_54 rfl rfl ?_)))
  refine own_rA X541 q hrt d10_56 hlk (by decide) ?_
  show QC5b Z x0 x1 x2 x3 x4 h0 n0 _ T541.heap _
  rw [e541]
  exact ⟨_, _, rfl, N541, own_extK kp540, sz_b539, Or.inr ⟨(Or.inr (Or.inl hB)), V539⟩⟩
 ·subst hz
  show own_Fin _ _ _ _ (T534.setTop (mkF m 12 #[.val (.ref a1), .val v'0, .val v'5, .val (.ref b532), .unset, .unset] [v'2]))
  refine own_is X534 q d10_12 (l' := #[.val (.ref a1), .val v'0, .val v'5, .val (.ref b532), .val v'2, .unset]) rfl (own_il X534 q d10_14 rfl (own_iln X534 q d10_16 rfl (own_cn X534 q d10_17 ((feq ((by decide) : ¬ ((2 : Int32) = (5 : Int32)))).1) (own_aln X534 q d10_20 rfl rfl (own_iln X534 q d10_21 rfl (own_iln X534 q d10_22 rfl ?_))))))
  refine own_cSh X534 q hZ e534' hown hml (W 60 rfl) (W 61 rfl) (W 52 rfl) (W 62 rfl) (rm13_5 l Z a0 hw a1 k1 x0 x1 x2 x3 x4 h534 n0 zs535 od535 ⟨SAD, SHI, SLO⟩ ((VA.ext E532).keep K534 (ninS (own_ne (VA).lt (Nat.le_of_eq g532.symm)) nin0))) d10_23 [(.ref a1), v'0, v'5] [] own_pd4 rfl rfl 0 (Nat.le_refl _) (by decide) (fun v542 T542 L542 h542 e542' X542 hQ542 => ?_)
  obtain ⟨b542, k542, rfl, N542q, E542, lo542, V542⟩ := hQ542
  have N542 := Fr.app N534 N542q
  have zs543 := Nat.le_trans zs535 E542.1
  have od543 := od535.ext E542
  have kp543 := kp535.ext E542
  have g_b542 : n0 ≤ b542 := Nat.le_trans zs535 lo542
  have sz_b542 : h0.size ≤ b542 := Nat.le_trans kp535.1 lo542
  refine own_nv (own_as X542 q d10_26 rfl (l' := #[.val (.ref a1), .val v'0, .val v'5, .val (.ref b532), .val v'2, .val (.ref b542)]) rfl (own_al X542 q d10_28 rfl rfl (own_il X542 q d10_30 rfl ?_)))
  refine own_cS X542 q hZ e542' hown hml (W 76 rfl) (W 77 rfl) (W 52 rfl) (W 78 rfl) (rm17 l Z a0 hw b542 (2 : Int32) k542 _ 10 2 x2 h542 n0 zs543 od543 ⟨SAD, SHI, SLO⟩ V542 rfl (by decide) (by decide) rfl rfl) d10_32 [(.ref b542), v'2] [] own_pd5 rfl rfl 0 (Nat.le_refl _) (by decide) (fun v544 T544 L544 X544 hQ544 => ?_)
  obtain ⟨rfl, N544q, e544⟩ := hQ544
  have N544 := Fr.app N542 N544q
  refine own_nv (own_k X544 q d10_35 (own_cy X544 q d10_38 ((tlt ((by rw [own_gcE hd2]; exact hB) : (255 : Int32) < (own_gc x2))).2.2.1) (own_al X544 q d10_54 rfl rfl ?_)))
  refine own_rA X544 q hrt d10_56 hlk (by decide) ?_
  show QC5b Z x0 x1 x2 x3 x4 h0 n0 _ T544.heap _
  rw [e544]
  exact ⟨_, _, rfl, N544, own_extK kp543, sz_b542, Or.inr ⟨(Or.inr (Or.inr (Or.inl hB))), V542⟩⟩
 ·subst hz
  show own_Fin _ _ _ _ (T534.setTop (mkF m 12 #[.val (.ref a1), .val v'0, .val v'5, .val (.ref b532), .unset, .unset] [v'3]))
  refine own_is X534 q d10_12 (l' := #[.val (.ref a1), .val v'0, .val v'5, .val (.ref b532), .val v'3, .unset]) rfl (own_il X534 q d10_14 rfl (own_iln X534 q d10_16 rfl (own_cn X534 q d10_17 ((feq ((by decide) : ¬ ((3 : Int32) = (5 : Int32)))).1) (own_aln X534 q d10_20 rfl rfl (own_iln X534 q d10_21 rfl (own_iln X534 q d10_22 rfl ?_))))))
  refine own_cSh X534 q hZ e534' hown hml (W 60 rfl) (W 61 rfl) (W 52 rfl) (W 62 rfl) (rm13_5 l Z a0 hw a1 k1 x0 x1 x2 x3 x4 h534 n0 zs535 od535 ⟨SAD, SHI, SLO⟩ ((VA.ext E532).keep K534 (ninS (own_ne (VA).lt (Nat.le_of_eq g532.symm)) nin0))) d10_23 [(.ref a1), v'0, v'5] [] own_pd4 rfl rfl 0 (Nat.le_refl _) (by decide) (fun v545 T545 L545 h545 e545' X545 hQ545 => ?_)
  obtain ⟨b545, k545, rfl, N545q, E545, lo545, V545⟩ := hQ545
  have N545 := Fr.app N534 N545q
  have zs546 := Nat.le_trans zs535 E545.1
  have od546 := od535.ext E545
  have kp546 := kp535.ext E545
  have g_b545 : n0 ≤ b545 := Nat.le_trans zs535 lo545
  have sz_b545 : h0.size ≤ b545 := Nat.le_trans kp535.1 lo545
  refine own_nv (own_as X545 q d10_26 rfl (l' := #[.val (.ref a1), .val v'0, .val v'5, .val (.ref b532), .val v'3, .val (.ref b545)]) rfl (own_al X545 q d10_28 rfl rfl (own_il X545 q d10_30 rfl ?_)))
  refine own_cS X545 q hZ e545' hown hml (W 76 rfl) (W 77 rfl) (W 52 rfl) (W 78 rfl) (rm17 l Z a0 hw b545 (3 : Int32) k545 _ 10 3 x3 h545 n0 zs546 od546 ⟨SAD, SHI, SLO⟩ V545 rfl (by decide) (by decide) rfl rfl) d10_32 [(.ref b545), v'3] [] own_pd5 rfl rfl 0 (Nat.le_refl _) (by decide) (fun v547 T547 L547 X547 hQ547 => ?_)
  obtain ⟨rfl, N547q, e547⟩ := hQ547
  have N547 := Fr.app N545 N547q
  refine own_nv (own_k X547 q d10_35 (own_cy X547 q d10_38 ((tlt ((by rw [own_gcE hd3]; exact hB) : (255 : Int32) < (own_gc x3))).2.2.1) (own_al X547 q d10_54 rfl rfl ?_)))
  refine own_rA X547 q hrt d10_56 hlk (by decide) ?_
  show QC5b Z x0 x1 x2 x3 x4 h0 n0 _ T547.heap _
  rw [e547]
  exact ⟨_, _, rfl, N547, own_extK kp546, sz_b545, Or.inr ⟨(Or.inr (Or.inr (Or.inr (Or.inl hB)))), V545⟩⟩
 ·subst hz
  show own_Fin _ _ _ _ (T534.setTop (mkF m 12 #[.val (.ref a1), .val v'0, .val v'5, .val (.ref b532), .unset, .unset] [v'4]))
  refine own_is X534 q d10_12 (l' := #[.val (.ref a1), .val v'0, .val v'5, .val (.ref b532), .val v'4, .unset]) rfl (own_il X534 q d10_14 rfl (own_iln X534 q d10_16 rfl (own_cn X534 q d10_17 ((feq ((by decide) : ¬ ((4 : Int32) = (5 : Int32)))).1) (own_aln X534 q d10_20 rfl rfl (own_iln X534 q d10_21 rfl (own_iln X534 q d10_22 rfl ?_))))))
  refine own_cSh X534 q hZ e534' hown hml (W 60 rfl) (W 61 rfl) (W 52 rfl) (W 62 rfl) (rm13_5 l Z a0 hw a1 k1 x0 x1 x2 x3 x4 h534 n0 zs535 od535 ⟨SAD, SHI, SLO⟩ ((VA.ext E532).keep K534 (ninS (own_ne (VA).lt (Nat.le_of_eq g532.symm)) nin0))) d10_23 [(.ref a1), v'0, v'5] [] own_pd4 rfl rfl 0 (Nat.le_refl _) (by decide) (fun v548 T548 L548 h548 e548' X548 hQ548 => ?_)
  obtain ⟨b548, k548, rfl, N548q, E548, lo548, V548⟩ := hQ548
  have N548 := Fr.app N534 N548q
  have zs549 := Nat.le_trans zs535 E548.1
  have od549 := od535.ext E548
  have kp549 := kp535.ext E548
  have g_b548 : n0 ≤ b548 := Nat.le_trans zs535 lo548
  have sz_b548 : h0.size ≤ b548 := Nat.le_trans kp535.1 lo548
  refine own_nv (own_as X548 q d10_26 rfl (l' := #[.val (.ref a1), .val v'0, .val v'5, .val (.ref b532), .val v'4, .val (.ref b548)]) rfl (own_al X548 q d10_28 rfl rfl (own_il X548 q d10_30 rfl ?_)))
  refine own_cS X548 q hZ e548' hown hml (W 76 rfl) (W 77 rfl) (W 52 rfl) (W 78 rfl) (rm17 l Z a0 hw b548 (4 : Int32) k548 _ 10 4 x4 h548 n0 zs549 od549 ⟨SAD, SHI, SLO⟩ V548 rfl (by decide) (by decide) rfl rfl) d10_32 [(.ref b548), v'4] [] own_pd5 rfl rfl 0 (Nat.le_refl _) (by decide) (fun v550 T550 L550 X550 hQ550 => ?_)
  obtain ⟨rfl, N550q, e550⟩ := hQ550
  have N550 := Fr.app N548 N550q
  refine own_nv (own_k X550 q d10_35 (own_cy X550 q d10_38 ((tlt ((by rw [own_gcE hd4]; exact hB) : (255 : Int32) < (own_gc x4))).2.2.1) (own_al X550 q d10_54 rfl rfl ?_)))
  refine own_rA X550 q hrt d10_56 hlk (by decide) ?_
  show QC5b Z x0 x1 x2 x3 x4 h0 n0 _ T550.heap _
  rw [e550]
  exact ⟨_, _, rfl, N550, own_extK kp549, sz_b548, Or.inr ⟨(Or.inr (Or.inr (Or.inr (Or.inr hB)))), V548⟩⟩
theorem rm12_5_5 (l : Launch) (Z : State) (a0 : Array Value) (hw : own_hw a0 Z) (a1 : Addr) (k1 : ClassId) (vs : List Value) (h0 : Heap) (n0 : Nat) (Z0 : n0 ≤ h0.size) (VA : Arv Z h0 a1 k1 .byte (5 : Int32) vs v'0) :
  own_M l Z [] own_y7 b'12 2 (some .byte) ⟨0, 0, 0, 0⟩ #[(.ref a1), v'5] h0 (QI (0 : Int32) h0 n0) := by
 refine own_start (n0 := n0) hw "java/lang/StringUTF16" (L := #[.val (.ref a1), .val v'5]) pn_12 (fun {p e s m below meth c s₁} q hx W hml hZ hown hnm hlk hrt X0 e0 N0 => ?_)
 refine own_iln X0 q d12_0 rfl (own_aln X0 q d12_1 rfl rfl (own_alen (n := (5 : Int32)) X0 q hZ e0 VA d12_2 (own_isubk 0 X0 q d12_3 (by decide) (own_k X0 q d12_4 (own_stp 7 (fun _ k => XS.iushr X0.here hx rfl (q.d d12_6) rfl k) ?_)))))
 rw [show (((0 : Int32).toUInt32 >>> ((31 : Int32) &&& 31).toUInt32).toInt32) = (0 : Int32) from by decide]
 refine own_stp 8 (fun _ k => XS.i2b X0.here hx rfl (q.d d12_7) rfl k) ?_
 rw [show ((0 : Int32).toInt8.toInt32) = (0 : Int32) from by decide]
 refine own_rN X0 q hrt (by simp) d12_8 hlk (by decide) ?_
 show QI (0 : Int32) h0 n0 _ s₁.heap _
 rw [e0]
 exact ⟨rfl, N0, rfl⟩
theorem rm12_5_10 (l : Launch) (Z : State) (a0 : Array Value) (hw : own_hw a0 Z) (a1 : Addr) (k1 : ClassId) (vs : List Value) (h0 : Heap) (n0 : Nat) (Z0 : n0 ≤ h0.size) (VA : Arv Z h0 a1 k1 .byte (10 : Int32) vs v'0) :
  own_M l Z [] own_y7 b'12 2 (some .byte) ⟨0, 0, 0, 0⟩ #[(.ref a1), v'5] h0 (QI (1 : Int32) h0 n0) := by
 refine own_start (n0 := n0) hw "java/lang/StringUTF16" (L := #[.val (.ref a1), .val v'5]) pn_12 (fun {p e s m below meth c s₁} q hx W hml hZ hown hnm hlk hrt X0 e0 N0 => ?_)
 refine own_iln X0 q d12_0 rfl (own_aln X0 q d12_1 rfl rfl (own_alen (n := (10 : Int32)) X0 q hZ e0 VA d12_2 (own_isubk (-5) X0 q d12_3 (by decide) (own_k X0 q d12_4 (own_stp 7 (fun _ k => XS.iushr X0.here hx rfl (q.d d12_6) rfl k) ?_)))))
 rw [show (((-5 : Int32).toUInt32 >>> ((31 : Int32) &&& 31).toUInt32).toInt32) = (1 : Int32) from by decide]
 refine own_stp 8 (fun _ k => XS.i2b X0.here hx rfl (q.d d12_7) rfl k) ?_
 rw [show ((1 : Int32).toInt8.toInt32) = (1 : Int32) from by decide]
 refine own_rN X0 q hrt (by simp) d12_8 hlk (by decide) ?_
 show QI (1 : Int32) h0 n0 _ s₁.heap _
 rw [e0]
 exact ⟨rfl, N0, rfl⟩
theorem rm5_5 (l : Launch) (Z : State) (a0 : Array Value) (hw : own_hw a0 Z) (a1 : Addr) (a2 : Addr) (k1 : ClassId) (x0 x1 x2 x3 x4 : Int32) (cs0 : Int32) (h0 : Heap) (n0 : Nat) (Z0 : n0 ≤ h0.size) (E1 : Exa Z h0 a1 "java/lang/String") (FV : F'1 Z h0 a1 .null) (FC : F'0 Z h0 a1 v'0) (VA : Arv Z h0 a2 k1 .char (5 : Int32) [(.int x0), (.int x1), (.int x2), (.int x3), (.int x4)] v'0) (g1 : n0 ≤ a1) (n12 : a1 ≠ a2) (O0 : Old Z n0 h0) (SC_ : own_SC Z cs0) (SU_ : own_SU Z) (hd0 : own_c16 x0) (hd1 : own_c16 x1) (hd2 : own_c16 x2) (hd3 : own_c16 x3) (hd4 : own_c16 x4) :
  own_M l Z [] own_y8 b'5 6 none ⟨4, 2, 15, 57⟩ #[(.ref a1), (.ref a2), v'0, v'5, .null] h0 (QI5 Z a1 x0 x1 x2 x3 x4 h0 n0) := by
 obtain ⟨SCS, hcs⟩ := SC_; obtain ⟨SAD, SHI, SLO⟩ := SU_
 refine own_start (n0 := n0) hw "java/lang/String" (L := #[.val (.ref a1), .val (.ref a2), .val v'0, .val v'5, .val .null, .unset]) pn_5 (fun {p e s m below meth c s₁} q hx W hml hZ hown hnm hlk hrt X0 e0 N0 => ?_)
 have hby := q.2
 have kp0 := Keep.refl h0 [a1]
 refine own_aln X0 q d5_0 rfl rfl ?_
 refine own_let ?_; intro g570_
 obtain ⟨T571, X571, e571, st571⟩ := initO X0 hx hZ hown (W 22 rfl) (W 23 rfl) (W 24 rfl) e0 (g := g570_) rfl (by rw [hml]; rfl) rfl (q.d d5_1) (by decide) (W := 0) (by show 2 * 0 + _ ≤ _; exact Nat.le_of_eq rfl) (by decide)
 refine own_stp 4 st571 (own_iln X571 q d5_4 rfl (own_zy X571 q d5_5 (((if0 _ _).trans (feq ((by decide) : ¬ ((5 : Int32) = (0 : Int32)))).2)) ?_))
 refine own_gS X571 q hZ e571 hown (W 44 rfl) (SCS.ext O0.2) d5_27 fun T572 X572 e572 => ?_
 refine own_zn X572 q d5_30 (((if0 _ _).trans (feq hcs).1)) (own_aln X572 q d5_33 rfl rfl (own_iln X572 q d5_34 rfl (own_iln X572 q d5_35 rfl ?_)))
 refine own_cSh X572 q hZ e572 hown hml (W 50 rfl) (W 51 rfl) (W 52 rfl) (W 53 rfl) (rm10_5 l Z a0 hw a2 k1 x0 x1 x2 x3 x4 h0 n0 Z0 O0 ⟨SAD, SHI, SLO⟩ VA hd0 hd1 hd2 hd3 hd4) d5_36 [(.ref a2), v'0, v'5] [] own_pd4 rfl rfl 0 (Nat.le_refl _) (by decide) (fun v573 T573 L573 h573 e573' X573 hQ573 => ?_)
 obtain ⟨b573, k573, rfl, N573q, E573, lo573, D573⟩ := hQ573
 have N573 := Fr.app N0 N573q
 have zs574 := Nat.le_trans Z0 E573.1
 have od574 := O0.ext E573
 have kp574 := kp0.ext E573
 have g_b573 : n0 ≤ b573 := Nat.le_trans Z0 lo573
 have sz_b573 : h0.size ≤ b573 := Nat.le_trans kp0.1 lo573
 refine own_nv ?_
 rcases D573 with ⟨hA, hV⟩ | ⟨hA, hV⟩
 ·have hV_ := hV
  show own_Fin _ _ _ _ (T573.setTop (mkF m 39 #[.val (.ref a1), .val (.ref a2), .val v'0, .val v'5, .val .null, .unset] [(.ref b573)]))
  refine own_as X573 q d5_39 rfl (l' := #[.val (.ref a1), .val (.ref a2), .val v'0, .val v'5, .val .null, .val (.ref b573)]) rfl (own_aln X573 q d5_41 rfl rfl (own_al X573 q d5_42 rfl rfl (own_iln X573 q d5_44 rfl ?_)))
  refine own_cS X573 q hZ e573' hown hml (W 57 rfl) (W 58 rfl) (W 52 rfl) (W 59 rfl) (rm12_5_5 l Z a0 hw b573 k573 _ h573 n0 zs574 hV) d5_45 [(.ref b573), v'5] [(.ref a1)] own_pd6 rfl rfl 1 (Nat.le_refl _) (by decide) (fun v575 T575 L575 X575 hQ575 => ?_)
  obtain ⟨rfl, N575q, e575⟩ := hQ575
  have N575 := Fr.app N573 N575q
  refine own_nv ?_
  refine own_let ?_; intro g576_
  obtain ⟨T577, h577, X577, e577, W577, st577⟩ := putFN X575 hx hZ hown (W 32 rfl) Via.refl e575 (FC.ext E573) (E1.ext E573) (Or.inr ⟨(W 28 rfl), rfl, hnm⟩) (W 13 rfl) (ty := .byte) (v' := v'0) (by decide) rfl rfl (g := g576_) rfl rfl (q.d d5_48)
  have zs578 := Nat.le_trans zs574 (Keep.of_wr W577).1
  have od578 := od574.wr W577 g1
  have kp578 := kp574.wr W577 (own_i0)
  have Fw577 := ((FC.ext E573)).same W577
  have N577 := Fr.snoc X577 N575 g1
  refine own_stp 51 st577 (own_aln X577 q d5_51 rfl rfl (own_al X577 q d5_52 rfl rfl ?_))
  refine own_let ?_; intro g579_
  obtain ⟨T580, h580, X580, e580, W580, st580⟩ := putF X577 hx hZ hown (host := "") (Or.inl (W 31 rfl)) Via.refl e577 ((FV.ext E573).other W577 (Or.inr (slot_ne (Or.inr (W 27 rfl)) (Or.inr (W 28 rfl)) (by decide) (t := (.array .byte)) (t' := .byte) (by decide) (by decide)))) ((E1.ext E573).wr W577) (Or.inr ⟨(W 27 rfl), rfl, hnm⟩) (W 13 rfl) (ty := (.array .byte)) (by decide) rfl rfl (g := g579_) rfl rfl (q.d d5_54)
  have zs581 := Nat.le_trans zs578 (Keep.of_wr W580).1
  have od581 := od578.wr W580 g1
  have kp581 := kp578.wr W580 (own_i0)
  have Fw580 := (((FV.ext E573).other W577 (Or.inr (slot_ne (Or.inr (W 27 rfl)) (Or.inr (W 28 rfl)) (by decide) (t := (.array .byte)) (t' := .byte) (by decide) (by decide))))).same W580
  have N580 := Fr.snoc X580 N577 g1
  refine own_stp 57 st580 ?_
  refine own_rV X580 q hrt d5_57 hlk (by decide) ?_
  show QI5 Z a1 x0 x1 x2 x3 x4 h0 n0 _ T580.heap _
  rw [e580]
  exact ⟨_, _, rfl, N580, kp581, sz_b573, Fw580, Or.inl ⟨(Fw577.other W580 (Or.inr (slot_ne (Or.inr (W 28 rfl)) (Or.inr (W 27 rfl)) (by decide) (t := .byte) (t' := (.array .byte)) (by decide) (by decide)))), hA, ((hV.other W577 (Ne.symm (own_ne (E1).lt lo573))).other W580 (Ne.symm (own_ne (E1).lt lo573)))⟩⟩
 ·have hV_ := hV
  show own_Fin _ _ _ _ (T573.setTop (mkF m 39 #[.val (.ref a1), .val (.ref a2), .val v'0, .val v'5, .val .null, .unset] [(.ref b573)]))
  refine own_as X573 q d5_39 rfl (l' := #[.val (.ref a1), .val (.ref a2), .val v'0, .val v'5, .val .null, .val (.ref b573)]) rfl (own_aln X573 q d5_41 rfl rfl (own_al X573 q d5_42 rfl rfl (own_iln X573 q d5_44 rfl ?_)))
  refine own_cS X573 q hZ e573' hown hml (W 57 rfl) (W 58 rfl) (W 52 rfl) (W 59 rfl) (rm12_5_10 l Z a0 hw b573 k573 _ h573 n0 zs574 hV) d5_45 [(.ref b573), v'5] [(.ref a1)] own_pd6 rfl rfl 1 (Nat.le_refl _) (by decide) (fun v582 T582 L582 X582 hQ582 => ?_)
  obtain ⟨rfl, N582q, e582⟩ := hQ582
  have N582 := Fr.app N573 N582q
  refine own_nv ?_
  refine own_let ?_; intro g583_
  obtain ⟨T584, h584, X584, e584, W584, st584⟩ := putFN X582 hx hZ hown (W 32 rfl) Via.refl e582 (FC.ext E573) (E1.ext E573) (Or.inr ⟨(W 28 rfl), rfl, hnm⟩) (W 13 rfl) (ty := .byte) (v' := v'1) (by decide) rfl rfl (g := g583_) rfl rfl (q.d d5_48)
  have zs585 := Nat.le_trans zs574 (Keep.of_wr W584).1
  have od585 := od574.wr W584 g1
  have kp585 := kp574.wr W584 (own_i0)
  have Fw584 := ((FC.ext E573)).same W584
  have N584 := Fr.snoc X584 N582 g1
  refine own_stp 51 st584 (own_aln X584 q d5_51 rfl rfl (own_al X584 q d5_52 rfl rfl ?_))
  refine own_let ?_; intro g586_
  obtain ⟨T587, h587, X587, e587, W587, st587⟩ := putF X584 hx hZ hown (host := "") (Or.inl (W 31 rfl)) Via.refl e584 ((FV.ext E573).other W584 (Or.inr (slot_ne (Or.inr (W 27 rfl)) (Or.inr (W 28 rfl)) (by decide) (t := (.array .byte)) (t' := .byte) (by decide) (by decide)))) ((E1.ext E573).wr W584) (Or.inr ⟨(W 27 rfl), rfl, hnm⟩) (W 13 rfl) (ty := (.array .byte)) (by decide) rfl rfl (g := g586_) rfl rfl (q.d d5_54)
  have zs588 := Nat.le_trans zs585 (Keep.of_wr W587).1
  have od588 := od585.wr W587 g1
  have kp588 := kp585.wr W587 (own_i0)
  have Fw587 := (((FV.ext E573).other W584 (Or.inr (slot_ne (Or.inr (W 27 rfl)) (Or.inr (W 28 rfl)) (by decide) (t := (.array .byte)) (t' := .byte) (by decide) (by decide))))).same W587
  have N587 := Fr.snoc X587 N584 g1
  refine own_stp 57 st587 ?_
  refine own_rV X587 q hrt d5_57 hlk (by decide) ?_
  show QI5 Z a1 x0 x1 x2 x3 x4 h0 n0 _ T587.heap _
  rw [e587]
  exact ⟨_, _, rfl, N587, kp588, sz_b573, Fw587, Or.inr ⟨(Fw584.other W587 (Or.inr (slot_ne (Or.inr (W 28 rfl)) (Or.inr (W 27 rfl)) (by decide) (t := .byte) (t' := (.array .byte)) (by decide) (by decide)))), hA, ((hV.other W584 (Ne.symm (own_ne (E1).lt lo573))).other W587 (Ne.symm (own_ne (E1).lt lo573)))⟩⟩
theorem rm4_5 (l : Launch) (Z : State) (a0 : Array Value) (hw : own_hw a0 Z) (a1 : Addr) (a2 : Addr) (k1 : ClassId) (x0 x1 x2 x3 x4 : Int32) (cs0 : Int32) (h0 : Heap) (n0 : Nat) (Z0 : n0 ≤ h0.size) (E1 : Exa Z h0 a1 "java/lang/String") (FV : F'1 Z h0 a1 .null) (FC : F'0 Z h0 a1 v'0) (VA : Arv Z h0 a2 k1 .char (5 : Int32) [(.int x0), (.int x1), (.int x2), (.int x3), (.int x4)] v'0) (g1 : n0 ≤ a1) (n12 : a1 ≠ a2) (O0 : Old Z n0 h0) (SC_ : own_SC Z cs0) (SU_ : own_SU Z) (hd0 : own_c16 x0) (hd1 : own_c16 x1) (hd2 : own_c16 x2) (hd3 : own_c16 x3) (hd4 : own_c16 x4) :
  own_M l Z [] own_y9 b'4 2 none ⟨5, 2, 15, 74⟩ #[(.ref a1), (.ref a2)] h0 (QI5 Z a1 x0 x1 x2 x3 x4 h0 n0) := by
 obtain ⟨SCS, hcs⟩ := SC_; obtain ⟨SAD, SHI, SLO⟩ := SU_
 refine own_start (n0 := n0) hw "java/lang/String" (L := #[.val (.ref a1), .val (.ref a2)]) pn_4 (fun {p e s m below meth c s₁} q hx W hml hZ hown hnm hlk hrt X0 e0 N0 => ?_)
 have kp0 := Keep.refl h0 [a1]
 refine own_aln X0 q d4_0 rfl rfl (own_aln X0 q d4_1 rfl rfl (own_k X0 q d4_2 (own_aln X0 q d4_3 rfl rfl (own_alen (n := (5 : Int32)) X0 q hZ e0 VA d4_4 (own_nl X0 q d4_5 ?_)))))
 refine own_cIh (a := a1) X0 q hZ e0 hown hml (W 18 rfl) (W 19 rfl) (W 14 rfl) (W 21 rfl) (rm5_5 l Z a0 hw a1 a2 k1 x0 x1 x2 x3 x4 cs0 h0 n0 Z0 E1 FV FC VA g1 n12 O0 ⟨SCS, hcs⟩ ⟨SAD, SHI, SLO⟩ hd0 hd1 hd2 hd3 hd4) d4_6 [(.ref a2), v'0, v'5, .null] [] own_pd7 rfl rfl 0 (Nat.le_refl _) rfl (by decide) (fun v591 T591 L591 h591 e591' X591 hQ591 => ?_)
 obtain ⟨t591, k591, rfl, N591q, K591, lo591, Fv591, D591⟩ := hQ591
 have N591 := Fr.app N0 N591q
 have zs592 := Nat.le_trans Z0 K591.1
 have od592 := O0.keep K591 (allS g1 all0)
 have kp592 := kp0.trans K591 (allS (own_i0) all0)
 have g_t591 : n0 ≤ t591 := Nat.le_trans Z0 lo591
 have sz_t591 : h0.size ≤ t591 := Nat.le_trans kp0.1 lo591
 refine own_nn ?_
 refine own_rV X591 q hrt d4_9 hlk (by decide) ?_
 show QI5 Z a1 x0 x1 x2 x3 x4 h0 n0 _ T591.heap _
 rw [e591']
 exact ⟨_, _, rfl, N591, kp592, sz_t591, Fv591, D591⟩
theorem rm11_6 (l : Launch) (Z : State) (a0 : Array Value) (hw : own_hw a0 Z) (a1 : Addr) (b : Addr) (k1 k2 : ClassId) (x0 x1 x2 x3 x4 x5 : Int32) (h0 : Heap) (n0 : Nat) (Z0 : n0 ≤ h0.size) (VA : Arv Z h0 a1 k1 .char (6 : Int32) [(.int x0), (.int x1), (.int x2), (.int x3), (.int x4), (.int x5)] v'0) (VB : Arv Z h0 b k2 .byte (6 : Int32) [v'0, v'0, v'0, v'0, v'0, v'0] v'0) (gb : n0 ≤ b) (nab : a1 ≠ b) :
  own_M l Z [] own_y1 b'11 7 (some .int) ⟨0, 0, 0, 0⟩ #[(.ref a1), v'0, (.ref b), v'0, v'6] h0 (QC6a Z b k2 x0 x1 x2 x3 x4 x5 h0 n0) := by
 refine own_start (n0 := n0) hw "java/lang/StringUTF16" (L := #[.val (.ref a1), .val v'0, .val (.ref b), .val v'0, .val v'6, .unset, .unset]) pn_11 (fun {p e s m below meth c s₁} q hx W hml hZ hown hnm hlk hrt X0 e0 N0 => ?_)
 have kp0 := Keep.refl h0 [b]
 refine own_k X0 q d11_0 (own_is X0 q d11_1 (l' := #[.val (.ref a1), .val v'0, .val (.ref b), .val v'0, .val v'6, .val v'0, .unset]) rfl (own_il X0 q d11_3 rfl (own_il X0 q d11_5 rfl (own_cn X0 q d11_7 ((tlt ((by decide) : (0 : Int32) < (6 : Int32))).2.1) (own_aln X0 q d11_10 rfl rfl (own_iln X0 q d11_11 rfl (own_cld (v := (.int x0)) X0 q hZ e0 VA d11_12 (by decide) rfl (own_is X0 q d11_13 (l' := #[.val (.ref a1), .val v'0, .val (.ref b), .val v'0, .val v'6, .val v'0, .val (.int x0)]) rfl (own_il X0 q d11_15 rfl (own_k X0 q d11_17 ?_))))))))))
 by_cases hc20_611 : (255 : Int32) < x0
 ·refine own_cn X0 q d11_20 ((tlt hc20_611).2.2.2) (own_il X0 q d11_23 rfl ?_)
  refine own_rI X0 q hrt d11_25 hlk (by decide) ?_
  show QC6a Z b k2 x0 x1 x2 x3 x4 x5 h0 n0 _ s₁.heap _
  rw [e0]
  exact ⟨_, rfl, N0, kp0, Or.inr (Or.inl ⟨rfl, hc20_611⟩)⟩
 ·refine own_cy X0 q d11_20 ((flt hc20_611).2.2.2) (own_aln X0 q d11_26 rfl rfl (own_iln X0 q d11_27 rfl (own_il X0 q d11_28 rfl (own_stp 31 (fun _ k => XS.i2b X0.here hx rfl (q.d d11_30) rfl k) ?_))))
  refine own_bst X0 q hZ e0 VB d11_31 (by decide) (Nat.le_of_ble_eq_true rfl) N0 gb fun T612 h612 X612 e612 W612 V612 N612 => ?_
  have zs613 := Nat.le_trans Z0 (Keep.of_wr W612).1
  have kp613 := kp0.wr W612 (own_i0)
  refine own_iik X612 q d11_32 rfl (show ((0 : Int32) + (1 : Int32)) = (1 : Int32) by decide) (l' := #[.val (.ref a1), .val v'1, .val (.ref b), .val v'0, .val v'6, .val v'0, .val (.int x0)]) rfl (own_iik X612 q d11_35 rfl (show ((0 : Int32) + (1 : Int32)) = (1 : Int32) by decide) (l' := #[.val (.ref a1), .val v'1, .val (.ref b), .val v'1, .val v'6, .val v'0, .val (.int x0)]) rfl (own_iik X612 q d11_38 rfl (show ((0 : Int32) + (1 : Int32)) = (1 : Int32) by decide) (l' := #[.val (.ref a1), .val v'1, .val (.ref b), .val v'1, .val v'6, .val v'1, .val (.int x0)]) rfl (own_gt X612 q d11_41 (own_il X612 q d11_3 rfl (own_il X612 q d11_5 rfl (own_cn X612 q d11_7 ((tlt ((by decide) : (1 : Int32) < (6 : Int32))).2.1) (own_aln X612 q d11_10 rfl rfl (own_iln X612 q d11_11 rfl (own_cld (v := (.int x1)) X612 q hZ e612 (VA.other W612 nab) d11_12 (by decide) rfl (own_is X612 q d11_13 (l' := #[.val (.ref a1), .val v'1, .val (.ref b), .val v'1, .val v'6, .val v'1, .val (.int x1)]) rfl (own_il X612 q d11_15 rfl ?_)))))))))))
  refine own_k X612 q d11_17 ?_
  by_cases hc20_614 : (255 : Int32) < x1
  ·refine own_cn X612 q d11_20 ((tlt hc20_614).2.2.2) (own_il X612 q d11_23 rfl ?_)
   refine own_rI X612 q hrt d11_25 hlk (by decide) ?_
   show QC6a Z b k2 x0 x1 x2 x3 x4 x5 h0 n0 _ T612.heap _
   rw [e612]
   exact ⟨_, rfl, N612, kp613, Or.inr (Or.inr (Or.inl ⟨rfl, hc20_614⟩))⟩
  ·refine own_cy X612 q d11_20 ((flt hc20_614).2.2.2) (own_aln X612 q d11_26 rfl rfl (own_iln X612 q d11_27 rfl (own_il X612 q d11_28 rfl (own_stp 31 (fun _ k => XS.i2b X612.here hx rfl (q.d d11_30) rfl k) ?_))))
   refine own_bst X612 q hZ e612 V612 d11_31 (by decide) (Nat.le_of_ble_eq_true rfl) N612 gb fun T615 h615 X615 e615 W615 V615 N615 => ?_
   have zs616 := Nat.le_trans zs613 (Keep.of_wr W615).1
   have kp616 := kp613.wr W615 (own_i0)
   refine own_iik X615 q d11_32 rfl (show ((1 : Int32) + (1 : Int32)) = (2 : Int32) by decide) (l' := #[.val (.ref a1), .val v'2, .val (.ref b), .val v'1, .val v'6, .val v'1, .val (.int x1)]) rfl (own_iik X615 q d11_35 rfl (show ((1 : Int32) + (1 : Int32)) = (2 : Int32) by decide) (l' := #[.val (.ref a1), .val v'2, .val (.ref b), .val v'2, .val v'6, .val v'1, .val (.int x1)]) rfl (own_iik X615 q d11_38 rfl (show ((1 : Int32) + (1 : Int32)) = (2 : Int32) by decide) (l' := #[.val (.ref a1), .val v'2, .val (.ref b), .val v'2, .val v'6, .val v'2, .val (.int x1)]) rfl (own_gt X615 q d11_41 (own_il X615 q d11_3 rfl (own_il X615 q d11_5 rfl (own_cn X615 q d11_7 ((tlt ((by decide) : (2 : Int32) < (6 : Int32))).2.1) (own_aln X615 q d11_10 rfl rfl (own_iln X615 q d11_11 rfl (own_cld (v := (.int x2)) X615 q hZ e615 ((VA.other W612 nab).other W615 nab) d11_12 (by decide) rfl (own_is X615 q d11_13 (l' := #[.val (.ref a1), .val v'2, .val (.ref b), .val v'2, .val v'6, .val v'2, .val (.int x2)]) rfl (own_il X615 q d11_15 rfl ?_)))))))))))
   refine own_k X615 q d11_17 ?_
   by_cases hc20_617 : (255 : Int32) < x2
   ·refine own_cn X615 q d11_20 ((tlt hc20_617).2.2.2) (own_il X615 q d11_23 rfl ?_)
    refine own_rI X615 q hrt d11_25 hlk (by decide) ?_
    show QC6a Z b k2 x0 x1 x2 x3 x4 x5 h0 n0 _ T615.heap _
    rw [e615]
    exact ⟨_, rfl, N615, kp616, Or.inr (Or.inr (Or.inr (Or.inl ⟨rfl, hc20_617⟩)))⟩
   ·refine own_cy X615 q d11_20 ((flt hc20_617).2.2.2) (own_aln X615 q d11_26 rfl rfl (own_iln X615 q d11_27 rfl (own_il X615 q d11_28 rfl (own_stp 31 (fun _ k => XS.i2b X615.here hx rfl (q.d d11_30) rfl k) ?_))))
    refine own_bst X615 q hZ e615 V615 d11_31 (by decide) (Nat.le_of_ble_eq_true rfl) N615 gb fun T618 h618 X618 e618 W618 V618 N618 => ?_
    have zs619 := Nat.le_trans zs616 (Keep.of_wr W618).1
    have kp619 := kp616.wr W618 (own_i0)
    refine own_iik X618 q d11_32 rfl (show ((2 : Int32) + (1 : Int32)) = (3 : Int32) by decide) (l' := #[.val (.ref a1), .val v'3, .val (.ref b), .val v'2, .val v'6, .val v'2, .val (.int x2)]) rfl (own_iik X618 q d11_35 rfl (show ((2 : Int32) + (1 : Int32)) = (3 : Int32) by decide) (l' := #[.val (.ref a1), .val v'3, .val (.ref b), .val v'3, .val v'6, .val v'2, .val (.int x2)]) rfl (own_iik X618 q d11_38 rfl (show ((2 : Int32) + (1 : Int32)) = (3 : Int32) by decide) (l' := #[.val (.ref a1), .val v'3, .val (.ref b), .val v'3, .val v'6, .val v'3, .val (.int x2)]) rfl (own_gt X618 q d11_41 (own_il X618 q d11_3 rfl (own_il X618 q d11_5 rfl (own_cn X618 q d11_7 ((tlt ((by decide) : (3 : Int32) < (6 : Int32))).2.1) (own_aln X618 q d11_10 rfl rfl (own_iln X618 q d11_11 rfl (own_cld (v := (.int x3)) X618 q hZ e618 (((VA.other W612 nab).other W615 nab).other W618 nab) d11_12 (by decide) rfl (own_is X618 q d11_13 (l' := #[.val (.ref a1), .val v'3, .val (.ref b), .val v'3, .val v'6, .val v'3, .val (.int x3)]) rfl (own_il X618 q d11_15 rfl ?_)))))))))))
    refine own_k X618 q d11_17 ?_
    by_cases hc20_620 : (255 : Int32) < x3
    ·refine own_cn X618 q d11_20 ((tlt hc20_620).2.2.2) (own_il X618 q d11_23 rfl ?_)
     refine own_rI X618 q hrt d11_25 hlk (by decide) ?_
     show QC6a Z b k2 x0 x1 x2 x3 x4 x5 h0 n0 _ T618.heap _
     rw [e618]
     exact ⟨_, rfl, N618, kp619, Or.inr (Or.inr (Or.inr (Or.inr (Or.inl ⟨rfl, hc20_620⟩))))⟩
    ·refine own_cy X618 q d11_20 ((flt hc20_620).2.2.2) (own_aln X618 q d11_26 rfl rfl (own_iln X618 q d11_27 rfl (own_il X618 q d11_28 rfl (own_stp 31 (fun _ k => XS.i2b X618.here hx rfl (q.d d11_30) rfl k) ?_))))
     refine own_bst X618 q hZ e618 V618 d11_31 (by decide) (Nat.le_of_ble_eq_true rfl) N618 gb fun T621 h621 X621 e621 W621 V621 N621 => ?_
     have zs622 := Nat.le_trans zs619 (Keep.of_wr W621).1
     have kp622 := kp619.wr W621 (own_i0)
     refine own_iik X621 q d11_32 rfl (show ((3 : Int32) + (1 : Int32)) = (4 : Int32) by decide) (l' := #[.val (.ref a1), .val v'4, .val (.ref b), .val v'3, .val v'6, .val v'3, .val (.int x3)]) rfl (own_iik X621 q d11_35 rfl (show ((3 : Int32) + (1 : Int32)) = (4 : Int32) by decide) (l' := #[.val (.ref a1), .val v'4, .val (.ref b), .val v'4, .val v'6, .val v'3, .val (.int x3)]) rfl (own_iik X621 q d11_38 rfl (show ((3 : Int32) + (1 : Int32)) = (4 : Int32) by decide) (l' := #[.val (.ref a1), .val v'4, .val (.ref b), .val v'4, .val v'6, .val v'4, .val (.int x3)]) rfl (own_gt X621 q d11_41 (own_il X621 q d11_3 rfl (own_il X621 q d11_5 rfl (own_cn X621 q d11_7 ((tlt ((by decide) : (4 : Int32) < (6 : Int32))).2.1) (own_aln X621 q d11_10 rfl rfl (own_iln X621 q d11_11 rfl (own_cld (v := (.int x4)) X621 q hZ e621 ((((VA.other W612 nab).other W615 nab).other W618 nab).other W621 nab) d11_12 (by decide) rfl (own_is X621 q d11_13 (l' := #[.val (.ref a1), .val v'4, .val (.ref b), .val v'4, .val v'6, .val v'4, .val (.int x4)]) rfl (own_il X621 q d11_15 rfl ?_)))))))))))
     refine own_k X621 q d11_17 ?_
     by_cases hc20_623 : (255 : Int32) < x4
     ·refine own_cn X621 q d11_20 ((tlt hc20_623).2.2.2) (own_il X621 q d11_23 rfl ?_)
      refine own_rI X621 q hrt d11_25 hlk (by decide) ?_
      show QC6a Z b k2 x0 x1 x2 x3 x4 x5 h0 n0 _ T621.heap _
      rw [e621]
      exact ⟨_, rfl, N621, kp622, Or.inr (Or.inr (Or.inr (Or.inr (Or.inr (Or.inl ⟨rfl, hc20_623⟩)))))⟩
     ·refine own_cy X621 q d11_20 ((flt hc20_623).2.2.2) (own_aln X621 q d11_26 rfl rfl (own_iln X621 q d11_27 rfl (own_il X621 q d11_28 rfl (own_stp 31 (fun _ k => XS.i2b X621.here hx rfl (q.d d11_30) rfl k) ?_))))
      refine own_bst X621 q hZ e621 V621 d11_31 (by decide) (Nat.le_of_ble_eq_true rfl) N621 gb fun T624 h624 X624 e624 W624 V624 N624 => ?_
      have zs625 := Nat.le_trans zs622 (Keep.of_wr W624).1
      have kp625 := kp622.wr W624 (own_i0)
      refine own_iik X624 q d11_32 rfl (show ((4 : Int32) + (1 : Int32)) = (5 : Int32) by decide) (l' := #[.val (.ref a1), .val v'5, .val (.ref b), .val v'4, .val v'6, .val v'4, .val (.int x4)]) rfl (own_iik X624 q d11_35 rfl (show ((4 : Int32) + (1 : Int32)) = (5 : Int32) by decide) (l' := #[.val (.ref a1), .val v'5, .val (.ref b), .val v'5, .val v'6, .val v'4, .val (.int x4)]) rfl (own_iik X624 q d11_38 rfl (show ((4 : Int32) + (1 : Int32)) = (5 : Int32) by decide) (l' := #[.val (.ref a1), .val v'5, .val (.ref b), .val v'5, .val v'6, .val v'5, .val (.int x4)]) rfl (own_gt X624 q d11_41 (own_il X624 q d11_3 rfl (own_il X624 q d11_5 rfl (own_cn X624 q d11_7 ((tlt ((by decide) : (5 : Int32) < (6 : Int32))).2.1) (own_aln X624 q d11_10 rfl rfl (own_iln X624 q d11_11 rfl (own_cld (v := (.int x5)) X624 q hZ e624 (((((VA.other W612 nab).other W615 nab).other W618 nab).other W621 nab).other W624 nab) d11_12 (by decide) rfl (own_is X624 q d11_13 (l' := #[.val (.ref a1), .val v'5, .val (.ref b), .val v'5, .val v'6, .val v'5, .val (.int x5)]) rfl (own_il X624 q d11_15 rfl ?_)))))))))))
      refine own_k X624 q d11_17 ?_
      by_cases hc20_626 : (255 : Int32) < x5
      ·refine own_cn X624 q d11_20 ((tlt hc20_626).2.2.2) (own_il X624 q d11_23 rfl ?_)
       refine own_rI X624 q hrt d11_25 hlk (by decide) ?_
       show QC6a Z b k2 x0 x1 x2 x3 x4 x5 h0 n0 _ T624.heap _
       rw [e624]
       exact ⟨_, rfl, N624, kp625, Or.inr (Or.inr (Or.inr (Or.inr (Or.inr (Or.inr ⟨rfl, hc20_626⟩)))))⟩
      ·refine own_cy X624 q d11_20 ((flt hc20_626).2.2.2) (own_aln X624 q d11_26 rfl rfl (own_iln X624 q d11_27 rfl (own_il X624 q d11_28 rfl (own_stp 31 (fun _ k => XS.i2b X624.here hx rfl (q.d d11_30) rfl k) ?_))))
       refine own_bst X624 q hZ e624 V624 d11_31 (by decide) (Nat.le_of_ble_eq_true rfl) N624 gb fun T627 h627 X627 e627 W627 V627 N627 => ?_
       have zs628 := Nat.le_trans zs625 (Keep.of_wr W627).1
       have kp628 := kp625.wr W627 (own_i0)
       refine own_iik X627 q d11_32 rfl (show ((5 : Int32) + (1 : Int32)) = (6 : Int32) by decide) (l' := #[.val (.ref a1), .val v'6, .val (.ref b), .val v'5, .val v'6, .val v'5, .val (.int x5)]) rfl (own_iik X627 q d11_35 rfl (show ((5 : Int32) + (1 : Int32)) = (6 : Int32) by decide) (l' := #[.val (.ref a1), .val v'6, .val (.ref b), .val v'6, .val v'6, .val v'5, .val (.int x5)]) rfl (own_iik X627 q d11_38 rfl (show ((5 : Int32) + (1 : Int32)) = (6 : Int32) by decide) (l' := #[.val (.ref a1), .val v'6, .val (.ref b), .val v'6, .val v'6, .val v'6, .val (.int x5)]) rfl (own_gt X627 q d11_41 (own_il X627 q d11_3 rfl (own_il X627 q d11_5 rfl (own_cy X627 q d11_7 ((flt (Int32.lt_irrefl : ¬ ((6 : Int32) < (6 : Int32)))).2.1) (own_il X627 q d11_44 rfl ?_)))))))
       refine own_rI X627 q hrt d11_46 hlk (by decide) ?_
       show QC6a Z b k2 x0 x1 x2 x3 x4 x5 h0 n0 _ T627.heap _
       rw [e627]
       exact ⟨_, rfl, N627, kp628, Or.inl ⟨rfl, ⟨hc20_611, hc20_614, hc20_617, hc20_620, hc20_623, hc20_626⟩, V627⟩⟩
theorem rm14_6 (l : Launch) (Z : State) (a0 : Array Value) (hw : own_hw a0 Z)   (h0 : Heap) (n0 : Nat) (Z0 : n0 ≤ h0.size) :
  own_M l Z [] own_y4 b'14 1 (some (.array .byte)) ⟨1, 1, 12, 12⟩ #[v'6] h0 (QNB6 Z h0 n0) := by
 refine own_start (n0 := n0) hw "java/lang/StringUTF16" (L := #[.val v'6]) pn_14 (fun {p e s m below meth c s₁} q hx W hml hZ hown hnm hlk hrt X0 e0 N0 => ?_)
 have kp0 := Keep.refl h0 []
 refine own_iln X0 q d14_0 rfl ?_
 refine own_cS X0 q hZ e0 hown hml (W 66 rfl) (W 67 rfl) (W 52 rfl) (W 68 rfl) (rm15 l Z a0 hw (6 : Int32) (12 : Int32) h0 n0 Z0 (by decide) (by decide) (by decide)) d14_1 [v'6] [] own_pd0 rfl rfl 0 (Nat.le_refl _) (by decide) (fun v633 T633 L633 X633 hQ633 => ?_)
 obtain ⟨rfl, N633q, e633⟩ := hQ633
 have N633 := Fr.app N0 N633q
 refine own_nv ?_
 refine own_let ?_; intro g634_
 obtain ⟨T635, h635, k635, X635, e635, E635, A635, st635⟩ := newP X633 hx hZ (W 26 rfl) e633 (g := g634_) rfl (q.d d14_4) rfl (by decide) (cap := 12) (by decide) (by decide) (by decide) (by decide)
 obtain ⟨b635, g635⟩ : ∃ z, z = h0.size := ⟨_, rfl⟩
 rw [← g635] at A635 st635
 have V635 : Arv Z h635 b635 k635 .byte (12 : Int32) [v'0, v'0, v'0, v'0, v'0, v'0, v'0, v'0, v'0, v'0, v'0, v'0] v'0 := (Arv.new A635 (by decide)).pad (pad_rep [] v'0 12)
 have zs636 := Nat.le_trans Z0 E635.1
 have kp636 := kp0.ext E635
 have g_b635 : n0 ≤ b635 := Nat.le_trans Z0 (Nat.le_of_eq g635.symm)
 have sz_b635 : h0.size ≤ b635 := Nat.le_trans kp0.1 (Nat.le_of_eq g635.symm)
 refine own_stp 6 st635 ?_
 refine own_rA X635 q hrt d14_6 hlk (by decide) ?_
 show QNB6 Z h0 n0 _ T635.heap _
 rw [e635]
 exact ⟨_, _, rfl, N633, own_extK kp636, sz_b635, V635⟩
theorem rm13_6 (l : Launch) (Z : State) (a0 : Array Value) (hw : own_hw a0 Z) (a1 : Addr) (k1 : ClassId) (x0 x1 x2 x3 x4 x5 : Int32) (h0 : Heap) (n0 : Nat) (Z0 : n0 ≤ h0.size) (O0 : Old Z n0 h0) (SU_ : own_SU Z) (VA : Arv Z h0 a1 k1 .char (6 : Int32) [(.int x0), (.int x1), (.int x2), (.int x3), (.int x4), (.int x5)] v'0) :
  own_M l Z [] own_y5 b'13 5 (some (.array .byte)) ⟨2, 1, 12, 24⟩ #[(.ref a1), v'0, v'6] h0 (QTB6 Z x0 x1 x2 x3 x4 x5 h0 n0) := by
 obtain ⟨SAD, SHI, SLO⟩ := SU_
 refine own_start (n0 := n0) hw "java/lang/StringUTF16" (L := #[.val (.ref a1), .val v'0, .val v'6, .unset, .unset]) pn_13 (fun {p e s m below meth c s₁} q hx W hml hZ hown hnm hlk hrt X0 e0 N0 => ?_)
 have kp0 := Keep.refl h0 []
 refine own_iln X0 q d13_0 rfl ?_
 refine own_cSh X0 q hZ e0 hown hml (W 63 rfl) (W 64 rfl) (W 52 rfl) (W 65 rfl) (rm14_6 l Z a0 hw h0 n0 Z0) d13_1 [v'6] [] own_pd1 rfl rfl 0 (Nat.le_refl _) (by decide) (fun v651 T651 L651 h651 e651' X651 hQ651 => ?_)
 obtain ⟨b651, k651, rfl, N651q, E651, lo651, V651⟩ := hQ651
 have N651 := Fr.app N0 N651q
 have zs652 := Nat.le_trans Z0 E651.1
 have od652 := O0.ext E651
 have kp652 := kp0.ext E651
 have g_b651 : n0 ≤ b651 := Nat.le_trans Z0 lo651
 have sz_b651 : h0.size ≤ b651 := Nat.le_trans kp0.1 lo651
 refine own_nv (own_asn X651 q d13_4 rfl (l' := #[.val (.ref a1), .val v'0, .val v'6, .val (.ref b651), .unset]) rfl (own_k X651 q d13_5 (own_is X651 q d13_6 (l' := #[.val (.ref a1), .val v'0, .val v'6, .val (.ref b651), .val v'0]) rfl (own_il X651 q d13_8 rfl (own_iln X651 q d13_10 rfl (own_cn X651 q d13_11 ((tlt ((by decide) : (0 : Int32) < (6 : Int32))).2.1) (own_aln X651 q d13_14 rfl rfl (own_il X651 q d13_15 rfl (own_aln X651 q d13_17 rfl rfl (own_iln X651 q d13_18 rfl (own_cld (v := (.int x0)) X651 q hZ e651' (VA.ext E651) d13_19 (by decide) rfl ?_)))))))))))
 refine own_cSh X651 q hZ e651' hown hml (W 70 rfl) (W 71 rfl) (W 52 rfl) (W 72 rfl) (rm16 l Z a0 hw b651 (0 : Int32) x0 k651 _ 12 0 h651 n0 zs652 od652 ⟨SAD, SHI, SLO⟩ V651 rfl (by decide) (by decide) rfl g_b651) d13_20 [(.ref b651), v'0, (.int x0)] [] own_pd2 rfl rfl 0 (Nat.le_refl _) (by decide) (fun v653 T653 L653 h653 e653' X653 hQ653 => ?_)
 obtain ⟨rfl, N653q, K653, V653⟩ := hQ653
 have N653 := Fr.app N651 N653q
 have zs654 := Nat.le_trans zs652 K653.1
 have od654 := od652.keep K653 (allS g_b651 all0)
 have kp654 := kp652.trans K653 (allS (Or.inr sz_b651) all0)
 refine own_nn (own_iik X653 q d13_23 rfl (show ((0 : Int32) + (1 : Int32)) = (1 : Int32) by decide) (l' := #[.val (.ref a1), .val v'1, .val v'6, .val (.ref b651), .val v'0]) rfl (own_iik X653 q d13_26 rfl (show ((0 : Int32) + (1 : Int32)) = (1 : Int32) by decide) (l' := #[.val (.ref a1), .val v'1, .val v'6, .val (.ref b651), .val v'1]) rfl (own_gt X653 q d13_29 (own_il X653 q d13_8 rfl (own_iln X653 q d13_10 rfl (own_cn X653 q d13_11 ((tlt ((by decide) : (1 : Int32) < (6 : Int32))).2.1) (own_aln X653 q d13_14 rfl rfl (own_il X653 q d13_15 rfl (own_aln X653 q d13_17 rfl rfl (own_iln X653 q d13_18 rfl (own_cld (v := (.int x1)) X653 q hZ e653' ((VA.ext E651).keep K653 (ninS (own_ne (VA).lt lo651) nin0)) d13_19 (by decide) rfl ?_)))))))))))
 refine own_cSh X653 q hZ e653' hown hml (W 70 rfl) (W 71 rfl) (W 52 rfl) (W 72 rfl) (rm16 l Z a0 hw b651 (1 : Int32) x1 k651 _ 12 1 h653 n0 zs654 od654 ⟨SAD, SHI, SLO⟩ V653 rfl (by decide) (by decide) rfl g_b651) d13_20 [(.ref b651), v'1, (.int x1)] [] own_pd2 rfl rfl 0 (Nat.le_refl _) (by decide) (fun v655 T655 L655 h655 e655' X655 hQ655 => ?_)
 obtain ⟨rfl, N655q, K655, V655⟩ := hQ655
 have N655 := Fr.app N653 N655q
 have zs656 := Nat.le_trans zs654 K655.1
 have od656 := od654.keep K655 (allS g_b651 all0)
 have kp656 := kp654.trans K655 (allS (Or.inr sz_b651) all0)
 refine own_nn (own_iik X655 q d13_23 rfl (show ((1 : Int32) + (1 : Int32)) = (2 : Int32) by decide) (l' := #[.val (.ref a1), .val v'2, .val v'6, .val (.ref b651), .val v'1]) rfl (own_iik X655 q d13_26 rfl (show ((1 : Int32) + (1 : Int32)) = (2 : Int32) by decide) (l' := #[.val (.ref a1), .val v'2, .val v'6, .val (.ref b651), .val v'2]) rfl (own_gt X655 q d13_29 (own_il X655 q d13_8 rfl (own_iln X655 q d13_10 rfl (own_cn X655 q d13_11 ((tlt ((by decide) : (2 : Int32) < (6 : Int32))).2.1) (own_aln X655 q d13_14 rfl rfl (own_il X655 q d13_15 rfl (own_aln X655 q d13_17 rfl rfl (own_iln X655 q d13_18 rfl (own_cld (v := (.int x2)) X655 q hZ e655' (((VA.ext E651).keep K653 (ninS (own_ne (VA).lt lo651) nin0)).keep K655 (ninS (own_ne (VA).lt lo651) nin0)) d13_19 (by decide) rfl ?_)))))))))))
 refine own_cSh X655 q hZ e655' hown hml (W 70 rfl) (W 71 rfl) (W 52 rfl) (W 72 rfl) (rm16 l Z a0 hw b651 (2 : Int32) x2 k651 _ 12 2 h655 n0 zs656 od656 ⟨SAD, SHI, SLO⟩ V655 rfl (by decide) (by decide) rfl g_b651) d13_20 [(.ref b651), v'2, (.int x2)] [] own_pd2 rfl rfl 0 (Nat.le_refl _) (by decide) (fun v657 T657 L657 h657 e657' X657 hQ657 => ?_)
 obtain ⟨rfl, N657q, K657, V657⟩ := hQ657
 have N657 := Fr.app N655 N657q
 have zs658 := Nat.le_trans zs656 K657.1
 have od658 := od656.keep K657 (allS g_b651 all0)
 have kp658 := kp656.trans K657 (allS (Or.inr sz_b651) all0)
 refine own_nn (own_iik X657 q d13_23 rfl (show ((2 : Int32) + (1 : Int32)) = (3 : Int32) by decide) (l' := #[.val (.ref a1), .val v'3, .val v'6, .val (.ref b651), .val v'2]) rfl (own_iik X657 q d13_26 rfl (show ((2 : Int32) + (1 : Int32)) = (3 : Int32) by decide) (l' := #[.val (.ref a1), .val v'3, .val v'6, .val (.ref b651), .val v'3]) rfl (own_gt X657 q d13_29 (own_il X657 q d13_8 rfl (own_iln X657 q d13_10 rfl (own_cn X657 q d13_11 ((tlt ((by decide) : (3 : Int32) < (6 : Int32))).2.1) (own_aln X657 q d13_14 rfl rfl (own_il X657 q d13_15 rfl (own_aln X657 q d13_17 rfl rfl (own_iln X657 q d13_18 rfl (own_cld (v := (.int x3)) X657 q hZ e657' ((((VA.ext E651).keep K653 (ninS (own_ne (VA).lt lo651) nin0)).keep K655 (ninS (own_ne (VA).lt lo651) nin0)).keep K657 (ninS (own_ne (VA).lt lo651) nin0)) d13_19 (by decide) rfl ?_)))))))))))
 refine own_cSh X657 q hZ e657' hown hml (W 70 rfl) (W 71 rfl) (W 52 rfl) (W 72 rfl) (rm16 l Z a0 hw b651 (3 : Int32) x3 k651 _ 12 3 h657 n0 zs658 od658 ⟨SAD, SHI, SLO⟩ V657 rfl (by decide) (by decide) rfl g_b651) d13_20 [(.ref b651), v'3, (.int x3)] [] own_pd2 rfl rfl 0 (Nat.le_refl _) (by decide) (fun v659 T659 L659 h659 e659' X659 hQ659 => ?_)
 obtain ⟨rfl, N659q, K659, V659⟩ := hQ659
 have N659 := Fr.app N657 N659q
 have zs660 := Nat.le_trans zs658 K659.1
 have od660 := od658.keep K659 (allS g_b651 all0)
 have kp660 := kp658.trans K659 (allS (Or.inr sz_b651) all0)
 refine own_nn (own_iik X659 q d13_23 rfl (show ((3 : Int32) + (1 : Int32)) = (4 : Int32) by decide) (l' := #[.val (.ref a1), .val v'4, .val v'6, .val (.ref b651), .val v'3]) rfl (own_iik X659 q d13_26 rfl (show ((3 : Int32) + (1 : Int32)) = (4 : Int32) by decide) (l' := #[.val (.ref a1), .val v'4, .val v'6, .val (.ref b651), .val v'4]) rfl (own_gt X659 q d13_29 (own_il X659 q d13_8 rfl (own_iln X659 q d13_10 rfl (own_cn X659 q d13_11 ((tlt ((by decide) : (4 : Int32) < (6 : Int32))).2.1) (own_aln X659 q d13_14 rfl rfl (own_il X659 q d13_15 rfl (own_aln X659 q d13_17 rfl rfl (own_iln X659 q d13_18 rfl (own_cld (v := (.int x4)) X659 q hZ e659' (((((VA.ext E651).keep K653 (ninS (own_ne (VA).lt lo651) nin0)).keep K655 (ninS (own_ne (VA).lt lo651) nin0)).keep K657 (ninS (own_ne (VA).lt lo651) nin0)).keep K659 (ninS (own_ne (VA).lt lo651) nin0)) d13_19 (by decide) rfl ?_)))))))))))
 refine own_cSh X659 q hZ e659' hown hml (W 70 rfl) (W 71 rfl) (W 52 rfl) (W 72 rfl) (rm16 l Z a0 hw b651 (4 : Int32) x4 k651 _ 12 4 h659 n0 zs660 od660 ⟨SAD, SHI, SLO⟩ V659 rfl (by decide) (by decide) rfl g_b651) d13_20 [(.ref b651), v'4, (.int x4)] [] own_pd2 rfl rfl 0 (Nat.le_refl _) (by decide) (fun v661 T661 L661 h661 e661' X661 hQ661 => ?_)
 obtain ⟨rfl, N661q, K661, V661⟩ := hQ661
 have N661 := Fr.app N659 N661q
 have zs662 := Nat.le_trans zs660 K661.1
 have od662 := od660.keep K661 (allS g_b651 all0)
 have kp662 := kp660.trans K661 (allS (Or.inr sz_b651) all0)
 refine own_nn (own_iik X661 q d13_23 rfl (show ((4 : Int32) + (1 : Int32)) = (5 : Int32) by decide) (l' := #[.val (.ref a1), .val v'5, .val v'6, .val (.ref b651), .val v'4]) rfl (own_iik X661 q d13_26 rfl (show ((4 : Int32) + (1 : Int32)) = (5 : Int32) by decide) (l' := #[.val (.ref a1), .val v'5, .val v'6, .val (.ref b651), .val v'5]) rfl (own_gt X661 q d13_29 (own_il X661 q d13_8 rfl (own_iln X661 q d13_10 rfl (own_cn X661 q d13_11 ((tlt ((by decide) : (5 : Int32) < (6 : Int32))).2.1) (own_aln X661 q d13_14 rfl rfl (own_il X661 q d13_15 rfl (own_aln X661 q d13_17 rfl rfl (own_iln X661 q d13_18 rfl (own_cld (v := (.int x5)) X661 q hZ e661' ((((((VA.ext E651).keep K653 (ninS (own_ne (VA).lt lo651) nin0)).keep K655 (ninS (own_ne (VA).lt lo651) nin0)).keep K657 (ninS (own_ne (VA).lt lo651) nin0)).keep K659 (ninS (own_ne (VA).lt lo651) nin0)).keep K661 (ninS (own_ne (VA).lt lo651) nin0)) d13_19 (by decide) rfl ?_)))))))))))
 refine own_cSh X661 q hZ e661' hown hml (W 70 rfl) (W 71 rfl) (W 52 rfl) (W 72 rfl) (rm16 l Z a0 hw b651 (5 : Int32) x5 k651 _ 12 5 h661 n0 zs662 od662 ⟨SAD, SHI, SLO⟩ V661 rfl (by decide) (by decide) rfl g_b651) d13_20 [(.ref b651), v'5, (.int x5)] [] own_pd2 rfl rfl 0 (Nat.le_refl _) (by decide) (fun v663 T663 L663 h663 e663' X663 hQ663 => ?_)
 obtain ⟨rfl, N663q, K663, V663⟩ := hQ663
 have N663 := Fr.app N661 N663q
 have zs664 := Nat.le_trans zs662 K663.1
 have od664 := od662.keep K663 (allS g_b651 all0)
 have kp664 := kp662.trans K663 (allS (Or.inr sz_b651) all0)
 refine own_nn (own_iik X663 q d13_23 rfl (show ((5 : Int32) + (1 : Int32)) = (6 : Int32) by decide) (l' := #[.val (.ref a1), .val v'6, .val v'6, .val (.ref b651), .val v'5]) rfl (own_iik X663 q d13_26 rfl (show ((5 : Int32) + (1 : Int32)) = (6 : Int32) by decide) (l' := #[.val (.ref a1), .val v'6, .val v'6, .val (.ref b651), .val v'6]) rfl (own_gt X663 q d13_29 (own_il X663 q d13_8 rfl (own_iln X663 q d13_10 rfl (own_cy X663 q d13_11 ((flt (Int32.lt_irrefl : ¬ ((6 : Int32) < (6 : Int32)))).2.1) (own_aln X663 q d13_32 rfl rfl ?_)))))))
 refine own_rA X663 q hrt d13_33 hlk (by decide) ?_
 show QTB6 Z x0 x1 x2 x3 x4 x5 h0 n0 _ T663.heap _
 rw [e663']
 exact ⟨_, _, rfl, N663, own_extK kp664, sz_b651, V663⟩
theorem rm10_6 (l : Launch) (Z : State) (a0 : Array Value) (hw : own_hw a0 Z) (a1 : Addr) (k1 : ClassId) (x0 x1 x2 x3 x4 x5 : Int32) (h0 : Heap) (n0 : Nat) (Z0 : n0 ≤ h0.size) (O0 : Old Z n0 h0) (SU_ : own_SU Z) (VA : Arv Z h0 a1 k1 .char (6 : Int32) [(.int x0), (.int x1), (.int x2), (.int x3), (.int x4), (.int x5)] v'0) (hd0 : own_c16 x0) (hd1 : own_c16 x1) (hd2 : own_c16 x2) (hd3 : own_c16 x3) (hd4 : own_c16 x4) (hd5 : own_c16 x5) :
  own_M l Z [] own_y6 b'10 6 (some (.array .byte)) ⟨3, 2, 18, 40⟩ #[(.ref a1), v'0, v'6] h0 (QC6b Z x0 x1 x2 x3 x4 x5 h0 n0) := by
 obtain ⟨SAD, SHI, SLO⟩ := SU_
 refine own_start (n0 := n0) hw "java/lang/StringUTF16" (L := #[.val (.ref a1), .val v'0, .val v'6, .unset, .unset, .unset]) pn_10 (fun {p e s m below meth c s₁} q hx W hml hZ hown hnm hlk hrt X0 e0 N0 => ?_)
 have hby := q.2
 have kp0 := Keep.refl h0 []
 refine own_iln X0 q d10_0 rfl ?_
 refine own_let ?_; intro g688_
 obtain ⟨T689, h689, k689, X689, e689, E689, A689, st689⟩ := newP X0 hx hZ (W 26 rfl) e0 (g := g688_) rfl (q.d d10_1) rfl (by decide) (cap := 6) (by decide) (by decide) (by decide) (by decide)
 obtain ⟨b689, g689⟩ : ∃ z, z = h0.size := ⟨_, rfl⟩
 rw [← g689] at A689 st689
 have V689 : Arv Z h689 b689 k689 .byte (6 : Int32) [v'0, v'0, v'0, v'0, v'0, v'0] v'0 := (Arv.new A689 (by decide)).pad (pad_rep [] v'0 6)
 have zs690 := Nat.le_trans Z0 E689.1
 have od690 := O0.ext E689
 have kp690 := kp0.ext E689
 have g_b689 : n0 ≤ b689 := Nat.le_trans Z0 (Nat.le_of_eq g689.symm)
 have sz_b689 : h0.size ≤ b689 := Nat.le_trans kp0.1 (Nat.le_of_eq g689.symm)
 refine own_stp 3 st689 (own_asn X689 q d10_3 rfl (l' := #[.val (.ref a1), .val v'0, .val v'6, .val (.ref b689), .unset, .unset]) rfl (own_aln X689 q d10_4 rfl rfl (own_iln X689 q d10_5 rfl (own_aln X689 q d10_6 rfl rfl (own_k X689 q d10_7 (own_iln X689 q d10_8 rfl ?_))))))
 refine own_cSh X689 q hZ e689 hown hml (W 54 rfl) (W 55 rfl) (W 52 rfl) (W 56 rfl) (rm11_6 l Z a0 hw a1 b689 k1 k689 x0 x1 x2 x3 x4 x5 h689 n0 zs690 (VA.ext E689) V689 g_b689 (own_ne (VA).lt (Nat.le_of_eq g689.symm))) d10_9 [(.ref a1), v'0, (.ref b689), v'0, v'6] [] own_pd3 rfl rfl 0 (Nat.le_refl _) (by decide) (fun v691 T691 L691 h691 e691' X691 hQ691 => ?_)
 obtain ⟨z691, rfl, N691q, K691, D691⟩ := hQ691
 have N691 := Fr.app N0 N691q
 have zs692 := Nat.le_trans zs690 K691.1
 have od692 := od690.keep K691 (allS g_b689 all0)
 have kp692 := kp690.trans K691 (allS (Or.inr sz_b689) all0)
 refine own_nv ?_
 rcases D691 with ⟨hz, hA, hV⟩ | ⟨hz, hB⟩ | ⟨hz, hB⟩ | ⟨hz, hB⟩ | ⟨hz, hB⟩ | ⟨hz, hB⟩ | ⟨hz, hB⟩
 ·subst hz
  show own_Fin _ _ _ _ (T691.setTop (mkF m 12 #[.val (.ref a1), .val v'0, .val v'6, .val (.ref b689), .unset, .unset] [v'6]))
  refine own_is X691 q d10_12 (l' := #[.val (.ref a1), .val v'0, .val v'6, .val (.ref b689), .val v'6, .unset]) rfl (own_il X691 q d10_14 rfl (own_iln X691 q d10_16 rfl (own_cy X691 q d10_17 ((teq (rfl : (6 : Int32) = (6 : Int32))).1) (own_aln X691 q d10_57 rfl rfl ?_))))
  refine own_rA X691 q hrt d10_58 hlk (by decide) ?_
  show QC6b Z x0 x1 x2 x3 x4 x5 h0 n0 _ T691.heap _
  rw [e691']
  exact ⟨_, _, rfl, N691, own_extK kp692, sz_b689, Or.inl ⟨hA, hV⟩⟩
 ·subst hz
  show own_Fin _ _ _ _ (T691.setTop (mkF m 12 #[.val (.ref a1), .val v'0, .val v'6, .val (.ref b689), .unset, .unset] [v'0]))
  refine own_is X691 q d10_12 (l' := #[.val (.ref a1), .val v'0, .val v'6, .val (.ref b689), .val v'0, .unset]) rfl (own_il X691 q d10_14 rfl (own_iln X691 q d10_16 rfl (own_cn X691 q d10_17 ((feq ((by decide) : ¬ ((0 : Int32) = (6 : Int32)))).1) (own_aln X691 q d10_20 rfl rfl (own_iln X691 q d10_21 rfl (own_iln X691 q d10_22 rfl ?_))))))
  refine own_cSh X691 q hZ e691' hown hml (W 60 rfl) (W 61 rfl) (W 52 rfl) (W 62 rfl) (rm13_6 l Z a0 hw a1 k1 x0 x1 x2 x3 x4 x5 h691 n0 zs692 od692 ⟨SAD, SHI, SLO⟩ ((VA.ext E689).keep K691 (ninS (own_ne (VA).lt (Nat.le_of_eq g689.symm)) nin0))) d10_23 [(.ref a1), v'0, v'6] [] own_pd4 rfl rfl 0 (Nat.le_refl _) (by decide) (fun v693 T693 L693 h693 e693' X693 hQ693 => ?_)
  obtain ⟨b693, k693, rfl, N693q, E693, lo693, V693⟩ := hQ693
  have N693 := Fr.app N691 N693q
  have zs694 := Nat.le_trans zs692 E693.1
  have od694 := od692.ext E693
  have kp694 := kp692.ext E693
  have g_b693 : n0 ≤ b693 := Nat.le_trans zs692 lo693
  have sz_b693 : h0.size ≤ b693 := Nat.le_trans kp692.1 lo693
  refine own_nv (own_as X693 q d10_26 rfl (l' := #[.val (.ref a1), .val v'0, .val v'6, .val (.ref b689), .val v'0, .val (.ref b693)]) rfl (own_al X693 q d10_28 rfl rfl (own_il X693 q d10_30 rfl ?_)))
  refine own_cS X693 q hZ e693' hown hml (W 76 rfl) (W 77 rfl) (W 52 rfl) (W 78 rfl) (rm17 l Z a0 hw b693 (0 : Int32) k693 _ 12 0 x0 h693 n0 zs694 od694 ⟨SAD, SHI, SLO⟩ V693 rfl (by decide) (by decide) rfl rfl) d10_32 [(.ref b693), v'0] [] own_pd5 rfl rfl 0 (Nat.le_refl _) (by decide) (fun v695 T695 L695 X695 hQ695 => ?_)
  obtain ⟨rfl, N695q, e695⟩ := hQ695
  have N695 := Fr.app N693 N695q
  refine own_nv (own_k X695 q d10_35 (own_cy X695 q d10_38 ((tlt ((by rw [own_gcE hd0]; exact hB) : (255 : Int32) < (own_gc x0))).2.2.1) (own_al X695 q d10_54 rfl rfl ?_)))
  refine own_rA X695 q hrt d10_56 hlk (by decide) ?_
  show QC6b Z x0 x1 x2 x3 x4 x5 h0 n0 _ T695.heap _
  rw [e695]
  exact ⟨_, _, rfl, N695, own_extK kp694, sz_b693, Or.inr ⟨(Or.inl hB), V693⟩⟩
 ·subst hz
  show own_Fin _ _ _ _ (T691.setTop (mkF m 12 #[.val (.ref a1), .val v'0, .val v'6, .val (.ref b689), .unset, .unset] [v'1]))
  refine own_is X691 q d10_12 (l' := #[.val (.ref a1), .val v'0, .val v'6, .val (.ref b689), .val v'1, .unset]) rfl (own_il X691 q d10_14 rfl (own_iln X691 q d10_16 rfl (own_cn X691 q d10_17 ((feq ((by decide) : ¬ ((1 : Int32) = (6 : Int32)))).1) (own_aln X691 q d10_20 rfl rfl (own_iln X691 q d10_21 rfl (own_iln X691 q d10_22 rfl ?_))))))
  refine own_cSh X691 q hZ e691' hown hml (W 60 rfl) (W 61 rfl) (W 52 rfl) (W 62 rfl) (rm13_6 l Z a0 hw a1 k1 x0 x1 x2 x3 x4 x5 h691 n0 zs692 od692 ⟨SAD, SHI, SLO⟩ ((VA.ext E689).keep K691 (ninS (own_ne (VA).lt (Nat.le_of_eq g689.symm)) nin0))) d10_23 [(.ref a1), v'0, v'6] [] own_pd4 rfl rfl 0 (Nat.le_refl _) (by decide) (fun v696 T696 L696 h696 e696' X696 hQ696 => ?_)
  obtain ⟨b696, k696, rfl, N696q, E696, lo696, V696⟩ := hQ696
  have N696 := Fr.app N691 N696q
  have zs697 := Nat.le_trans zs692 E696.1
  have od697 := od692.ext E696
  have kp697 := kp692.ext E696
  have g_b696 : n0 ≤ b696 := Nat.le_trans zs692 lo696
  have sz_b696 : h0.size ≤ b696 := Nat.le_trans kp692.1 lo696
  refine own_nv (own_as X696 q d10_26 rfl (l' := #[.val (.ref a1), .val v'0, .val v'6, .val (.ref b689), .val v'1, .val (.ref b696)]) rfl (own_al X696 q d10_28 rfl rfl (own_il X696 q d10_30 rfl ?_)))
  refine own_cS X696 q hZ e696' hown hml (W 76 rfl) (W 77 rfl) (W 52 rfl) (W 78 rfl) (rm17 l Z a0 hw b696 (1 : Int32) k696 _ 12 1 x1 h696 n0 zs697 od697 ⟨SAD, SHI, SLO⟩ V696 rfl (by decide) (by decide) rfl rfl) d10_32 [(.ref b696), v'1] [] own_pd5 rfl rfl 0 (Nat.le_refl _) (by decide) (fun v698 T698 L698 X698 hQ698 => ?_)
  obtain ⟨rfl, N698q, e698⟩ := hQ698
  have N698 := Fr.app N696 N698q
  refine own_nv (own_k X698 q d10_35 (own_cy X698 q d10_38 ((tlt ((by rw [own_gcE hd1]; exact hB) : (255 : Int32) < (own_gc x1))).2.2.1) (own_al X698 q d10_54 rfl rfl ?_)))
  refine own_rA X698 q hrt d10_56 hlk (by decide) ?_
  show QC6b Z x0 x1 x2 x3 x4 x5 h0 n0 _ T698.heap _
  rw [e698]
  exact ⟨_, _, rfl, N698, own_extK kp697, sz_b696, Or.inr ⟨(Or.inr (Or.inl hB)), V696⟩⟩
 ·subst hz
  show own_Fin _ _ _ _ (T691.setTop (mkF m 12 #[.val (.ref a1), .val v'0, .val v'6, .val (.ref b689), .unset, .unset] [v'2]))
  refine own_is X691 q d10_12 (l' := #[.val (.ref a1), .val v'0, .val v'6, .val (.ref b689), .val v'2, .unset]) rfl (own_il X691 q d10_14 rfl (own_iln X691 q d10_16 rfl (own_cn X691 q d10_17 ((feq ((by decide) : ¬ ((2 : Int32) = (6 : Int32)))).1) (own_aln X691 q d10_20 rfl rfl (own_iln X691 q d10_21 rfl (own_iln X691 q d10_22 rfl ?_))))))
  refine own_cSh X691 q hZ e691' hown hml (W 60 rfl) (W 61 rfl) (W 52 rfl) (W 62 rfl) (rm13_6 l Z a0 hw a1 k1 x0 x1 x2 x3 x4 x5 h691 n0 zs692 od692 ⟨SAD, SHI, SLO⟩ ((VA.ext E689).keep K691 (ninS (own_ne (VA).lt (Nat.le_of_eq g689.symm)) nin0))) d10_23 [(.ref a1), v'0, v'6] [] own_pd4 rfl rfl 0 (Nat.le_refl _) (by decide) (fun v699 T699 L699 h699 e699' X699 hQ699 => ?_)
  obtain ⟨b699, k699, rfl, N699q, E699, lo699, V699⟩ := hQ699
  have N699 := Fr.app N691 N699q
  have zs700 := Nat.le_trans zs692 E699.1
  have od700 := od692.ext E699
  have kp700 := kp692.ext E699
  have g_b699 : n0 ≤ b699 := Nat.le_trans zs692 lo699
  have sz_b699 : h0.size ≤ b699 := Nat.le_trans kp692.1 lo699
  refine own_nv (own_as X699 q d10_26 rfl (l' := #[.val (.ref a1), .val v'0, .val v'6, .val (.ref b689), .val v'2, .val (.ref b699)]) rfl (own_al X699 q d10_28 rfl rfl (own_il X699 q d10_30 rfl ?_)))
  refine own_cS X699 q hZ e699' hown hml (W 76 rfl) (W 77 rfl) (W 52 rfl) (W 78 rfl) (rm17 l Z a0 hw b699 (2 : Int32) k699 _ 12 2 x2 h699 n0 zs700 od700 ⟨SAD, SHI, SLO⟩ V699 rfl (by decide) (by decide) rfl rfl) d10_32 [(.ref b699), v'2] [] own_pd5 rfl rfl 0 (Nat.le_refl _) (by decide) (fun v701 T701 L701 X701 hQ701 => ?_)
  obtain ⟨rfl, N701q, e701⟩ := hQ701
  have N701 := Fr.app N699 N701q
  refine own_nv (own_k X701 q d10_35 (own_cy X701 q d10_38 ((tlt ((by rw [own_gcE hd2]; exact hB) : (255 : Int32) < (own_gc x2))).2.2.1) (own_al X701 q d10_54 rfl rfl ?_)))
  refine own_rA X701 q hrt d10_56 hlk (by decide) ?_
  show QC6b Z x0 x1 x2 x3 x4 x5 h0 n0 _ T701.heap _
  rw [e701]
  exact ⟨_, _, rfl, N701, own_extK kp700, sz_b699, Or.inr ⟨(Or.inr (Or.inr (Or.inl hB))), V699⟩⟩
 ·subst hz
  show own_Fin _ _ _ _ (T691.setTop (mkF m 12 #[.val (.ref a1), .val v'0, .val v'6, .val (.ref b689), .unset, .unset] [v'3]))
  refine own_is X691 q d10_12 (l' := #[.val (.ref a1), .val v'0, .val v'6, .val (.ref b689), .val v'3, .unset]) rfl (own_il X691 q d10_14 rfl (own_iln X691 q d10_16 rfl (own_cn X691 q d10_17 ((feq ((by decide) : ¬ ((3 : Int32) = (6 : Int32)))).1) (own_aln X691 q d10_20 rfl rfl (own_iln X691 q d10_21 rfl (own_iln X691 q d10_22 rfl ?_))))))
  refine own_cSh X691 q hZ e691' hown hml (W 60 rfl) (W 61 rfl) (W 52 rfl) (W 62 rfl) (rm13_6 l Z a0 hw a1 k1 x0 x1 x2 x3 x4 x5 h691 n0 zs692 od692 ⟨SAD, SHI, SLO⟩ ((VA.ext E689).keep K691 (ninS (own_ne (VA).lt (Nat.le_of_eq g689.symm)) nin0))) d10_23 [(.ref a1), v'0, v'6] [] own_pd4 rfl rfl 0 (Nat.le_refl _) (by decide) (fun v702 T702 L702 h702 e702' X702 hQ702 => ?_)
  obtain ⟨b702, k702, rfl, N702q, E702, lo702, V702⟩ := hQ702
  have N702 := Fr.app N691 N702q
  have zs703 := Nat.le_trans zs692 E702.1
  have od703 := od692.ext E702
  have kp703 := kp692.ext E702
  have g_b702 : n0 ≤ b702 := Nat.le_trans zs692 lo702
  have sz_b702 : h0.size ≤ b702 := Nat.le_trans kp692.1 lo702
  refine own_nv (own_as X702 q d10_26 rfl (l' := #[.val (.ref a1), .val v'0, .val v'6, .val (.ref b689), .val v'3, .val (.ref b702)]) rfl (own_al X702 q d10_28 rfl rfl (own_il X702 q d10_30 rfl ?_)))
  refine own_cS X702 q hZ e702' hown hml (W 76 rfl) (W 77 rfl) (W 52 rfl) (W 78 rfl) (rm17 l Z a0 hw b702 (3 : Int32) k702 _ 12 3 x3 h702 n0 zs703 od703 ⟨SAD, SHI, SLO⟩ V702 rfl (by decide) (by decide) rfl rfl) d10_32 [(.ref b702), v'3] [] own_pd5 rfl rfl 0 (Nat.le_refl _) (by decide) (fun v704 T704 L704 X704 hQ704 => ?_)
  obtain ⟨rfl, N704q, e704⟩ := hQ704
  have N704 := Fr.app N702 N704q
  refine own_nv (own_k X704 q d10_35 (own_cy X704 q d10_38 ((tlt ((by rw [own_gcE hd3]; exact hB) : (255 : Int32) < (own_gc x3))).2.2.1) (own_al X704 q d10_54 rfl rfl ?_)))
  refine own_rA X704 q hrt d10_56 hlk (by decide) ?_
  show QC6b Z x0 x1 x2 x3 x4 x5 h0 n0 _ T704.heap _
  rw [e704]
  exact ⟨_, _, rfl, N704, own_extK kp703, sz_b702, Or.inr ⟨(Or.inr (Or.inr (Or.inr (Or.inl hB)))), V702⟩⟩
 ·subst hz
  show own_Fin _ _ _ _ (T691.setTop (mkF m 12 #[.val (.ref a1), .val v'0, .val v'6, .val (.ref b689), .unset, .unset] [v'4]))
  refine own_is X691 q d10_12 (l' := #[.val (.ref a1), .val v'0, .val v'6, .val (.ref b689), .val v'4, .unset]) rfl (own_il X691 q d10_14 rfl (own_iln X691 q d10_16 rfl (own_cn X691 q d10_17 ((feq ((by decide) : ¬ ((4 : Int32) = (6 : Int32)))).1) (own_aln X691 q d10_20 rfl rfl (own_iln X691 q d10_21 rfl (own_iln X691 q d10_22 rfl ?_))))))
  refine own_cSh X691 q hZ e691' hown hml (W 60 rfl) (W 61 rfl) (W 52 rfl) (W 62 rfl) (rm13_6 l Z a0 hw a1 k1 x0 x1 x2 x3 x4 x5 h691 n0 zs692 od692 ⟨SAD, SHI, SLO⟩ ((VA.ext E689).keep K691 (ninS (own_ne (VA).lt (Nat.le_of_eq g689.symm)) nin0))) d10_23 [(.ref a1), v'0, v'6] [] own_pd4 rfl rfl 0 (Nat.le_refl _) (by decide) (fun v705 T705 L705 h705 e705' X705 hQ705 => ?_)
  obtain ⟨b705, k705, rfl, N705q, E705, lo705, V705⟩ := hQ705
  have N705 := Fr.app N691 N705q
  have zs706 := Nat.le_trans zs692 E705.1
  have od706 := od692.ext E705
  have kp706 := kp692.ext E705
  have g_b705 : n0 ≤ b705 := Nat.le_trans zs692 lo705
  have sz_b705 : h0.size ≤ b705 := Nat.le_trans kp692.1 lo705
  refine own_nv (own_as X705 q d10_26 rfl (l' := #[.val (.ref a1), .val v'0, .val v'6, .val (.ref b689), .val v'4, .val (.ref b705)]) rfl (own_al X705 q d10_28 rfl rfl (own_il X705 q d10_30 rfl ?_)))
  refine own_cS X705 q hZ e705' hown hml (W 76 rfl) (W 77 rfl) (W 52 rfl) (W 78 rfl) (rm17 l Z a0 hw b705 (4 : Int32) k705 _ 12 4 x4 h705 n0 zs706 od706 ⟨SAD, SHI, SLO⟩ V705 rfl (by decide) (by decide) rfl rfl) d10_32 [(.ref b705), v'4] [] own_pd5 rfl rfl 0 (Nat.le_refl _) (by decide) (fun v707 T707 L707 X707 hQ707 => ?_)
  obtain ⟨rfl, N707q, e707⟩ := hQ707
  have N707 := Fr.app N705 N707q
  refine own_nv (own_k X707 q d10_35 (own_cy X707 q d10_38 ((tlt ((by rw [own_gcE hd4]; exact hB) : (255 : Int32) < (own_gc x4))).2.2.1) (own_al X707 q d10_54 rfl rfl ?_)))
  refine own_rA X707 q hrt d10_56 hlk (by decide) ?_
  show QC6b Z x0 x1 x2 x3 x4 x5 h0 n0 _ T707.heap _
  rw [e707]
  exact ⟨_, _, rfl, N707, own_extK kp706, sz_b705, Or.inr ⟨(Or.inr (Or.inr (Or.inr (Or.inr (Or.inl hB))))), V705⟩⟩
 ·subst hz
  show own_Fin _ _ _ _ (T691.setTop (mkF m 12 #[.val (.ref a1), .val v'0, .val v'6, .val (.ref b689), .unset, .unset] [v'5]))
  refine own_is X691 q d10_12 (l' := #[.val (.ref a1), .val v'0, .val v'6, .val (.ref b689), .val v'5, .unset]) rfl (own_il X691 q d10_14 rfl (own_iln X691 q d10_16 rfl (own_cn X691 q d10_17 ((feq ((by decide) : ¬ ((5 : Int32) = (6 : Int32)))).1) (own_aln X691 q d10_20 rfl rfl (own_iln X691 q d10_21 rfl (own_iln X691 q d10_22 rfl ?_))))))
  refine own_cSh X691 q hZ e691' hown hml (W 60 rfl) (W 61 rfl) (W 52 rfl) (W 62 rfl) (rm13_6 l Z a0 hw a1 k1 x0 x1 x2 x3 x4 x5 h691 n0 zs692 od692 ⟨SAD, SHI, SLO⟩ ((VA.ext E689).keep K691 (ninS (own_ne (VA).lt (Nat.le_of_eq g689.symm)) nin0))) d10_23 [(.ref a1), v'0, v'6] [] own_pd4 rfl rfl 0 (Nat.le_refl _) (by decide) (fun v708 T708 L708 h708 e708' X708 hQ708 => ?_)
  obtain ⟨b708, k708, rfl, N708q, E708, lo708, V708⟩ := hQ708
  have N708 := Fr.app N691 N708q
  have zs709 := Nat.le_trans zs692 E708.1
  have od709 := od692.ext E708
  have kp709 := kp692.ext E708
  have g_b708 : n0 ≤ b708 := Nat.le_trans zs692 lo708
  have sz_b708 : h0.size ≤ b708 := Nat.le_trans kp692.1 lo708
  refine own_nv (own_as X708 q d10_26 rfl (l' := #[.val (.ref a1), .val v'0, .val v'6, .val (.ref b689), .val v'5, .val (.ref b708)]) rfl (own_al X708 q d10_28 rfl rfl (own_il X708 q d10_30 rfl ?_)))
  refine own_cS X708 q hZ e708' hown hml (W 76 rfl) (W 77 rfl) (W 52 rfl) (W 78 rfl) (rm17 l Z a0 hw b708 (5 : Int32) k708 _ 12 5 x5 h708 n0 zs709 od709 ⟨SAD, SHI, SLO⟩ V708 rfl (by decide) (by decide) rfl rfl) d10_32 [(.ref b708), v'5] [] own_pd5 rfl rfl 0 (Nat.le_refl _) (by decide) (fun v710 T710 L710 X710 hQ710 => ?_)
  obtain ⟨rfl, N710q, e710⟩ := hQ710
  have N710 := Fr.app N708 N710q
  refine own_nv (own_k X710 q d10_35 (own_cy X710 q d10_38 ((tlt ((by rw [own_gcE hd5]; exact hB) : (255 : Int32) < (own_gc x5))).2.2.1) (own_al X710 q d10_54 rfl rfl ?_)))
  refine own_rA X710 q hrt d10_56 hlk (by decide) ?_
  show QC6b Z x0 x1 x2 x3 x4 x5 h0 n0 _ T710.heap _
  rw [e710]
  exact ⟨_, _, rfl, N710, own_extK kp709, sz_b708, Or.inr ⟨(Or.inr (Or.inr (Or.inr (Or.inr (Or.inr hB))))), V708⟩⟩
theorem rm12_6_6 (l : Launch) (Z : State) (a0 : Array Value) (hw : own_hw a0 Z) (a1 : Addr) (k1 : ClassId) (vs : List Value) (h0 : Heap) (n0 : Nat) (Z0 : n0 ≤ h0.size) (VA : Arv Z h0 a1 k1 .byte (6 : Int32) vs v'0) :
  own_M l Z [] own_y7 b'12 2 (some .byte) ⟨0, 0, 0, 0⟩ #[(.ref a1), v'6] h0 (QI (0 : Int32) h0 n0) := by
 refine own_start (n0 := n0) hw "java/lang/StringUTF16" (L := #[.val (.ref a1), .val v'6]) pn_12 (fun {p e s m below meth c s₁} q hx W hml hZ hown hnm hlk hrt X0 e0 N0 => ?_)
 refine own_iln X0 q d12_0 rfl (own_aln X0 q d12_1 rfl rfl (own_alen (n := (6 : Int32)) X0 q hZ e0 VA d12_2 (own_isubk 0 X0 q d12_3 (by decide) (own_k X0 q d12_4 (own_stp 7 (fun _ k => XS.iushr X0.here hx rfl (q.d d12_6) rfl k) ?_)))))
 rw [show (((0 : Int32).toUInt32 >>> ((31 : Int32) &&& 31).toUInt32).toInt32) = (0 : Int32) from by decide]
 refine own_stp 8 (fun _ k => XS.i2b X0.here hx rfl (q.d d12_7) rfl k) ?_
 rw [show ((0 : Int32).toInt8.toInt32) = (0 : Int32) from by decide]
 refine own_rN X0 q hrt (by simp) d12_8 hlk (by decide) ?_
 show QI (0 : Int32) h0 n0 _ s₁.heap _
 rw [e0]
 exact ⟨rfl, N0, rfl⟩
theorem rm12_6_12 (l : Launch) (Z : State) (a0 : Array Value) (hw : own_hw a0 Z) (a1 : Addr) (k1 : ClassId) (vs : List Value) (h0 : Heap) (n0 : Nat) (Z0 : n0 ≤ h0.size) (VA : Arv Z h0 a1 k1 .byte (12 : Int32) vs v'0) :
  own_M l Z [] own_y7 b'12 2 (some .byte) ⟨0, 0, 0, 0⟩ #[(.ref a1), v'6] h0 (QI (1 : Int32) h0 n0) := by
 refine own_start (n0 := n0) hw "java/lang/StringUTF16" (L := #[.val (.ref a1), .val v'6]) pn_12 (fun {p e s m below meth c s₁} q hx W hml hZ hown hnm hlk hrt X0 e0 N0 => ?_)
 refine own_iln X0 q d12_0 rfl (own_aln X0 q d12_1 rfl rfl (own_alen (n := (12 : Int32)) X0 q hZ e0 VA d12_2 (own_isubk (-6) X0 q d12_3 (by decide) (own_k X0 q d12_4 (own_stp 7 (fun _ k => XS.iushr X0.here hx rfl (q.d d12_6) rfl k) ?_)))))
 rw [show (((-6 : Int32).toUInt32 >>> ((31 : Int32) &&& 31).toUInt32).toInt32) = (1 : Int32) from by decide]
 refine own_stp 8 (fun _ k => XS.i2b X0.here hx rfl (q.d d12_7) rfl k) ?_
 rw [show ((1 : Int32).toInt8.toInt32) = (1 : Int32) from by decide]
 refine own_rN X0 q hrt (by simp) d12_8 hlk (by decide) ?_
 show QI (1 : Int32) h0 n0 _ s₁.heap _
 rw [e0]
 exact ⟨rfl, N0, rfl⟩
theorem rm5_6 (l : Launch) (Z : State) (a0 : Array Value) (hw : own_hw a0 Z) (a1 : Addr) (a2 : Addr) (k1 : ClassId) (x0 x1 x2 x3 x4 x5 : Int32) (cs0 : Int32) (h0 : Heap) (n0 : Nat) (Z0 : n0 ≤ h0.size) (E1 : Exa Z h0 a1 "java/lang/String") (FV : F'1 Z h0 a1 .null) (FC : F'0 Z h0 a1 v'0) (VA : Arv Z h0 a2 k1 .char (6 : Int32) [(.int x0), (.int x1), (.int x2), (.int x3), (.int x4), (.int x5)] v'0) (g1 : n0 ≤ a1) (n12 : a1 ≠ a2) (O0 : Old Z n0 h0) (SC_ : own_SC Z cs0) (SU_ : own_SU Z) (hd0 : own_c16 x0) (hd1 : own_c16 x1) (hd2 : own_c16 x2) (hd3 : own_c16 x3) (hd4 : own_c16 x4) (hd5 : own_c16 x5) :
  own_M l Z [] own_y8 b'5 6 none ⟨4, 2, 18, 57⟩ #[(.ref a1), (.ref a2), v'0, v'6, .null] h0 (QI6 Z a1 x0 x1 x2 x3 x4 x5 h0 n0) := by
 obtain ⟨SCS, hcs⟩ := SC_; obtain ⟨SAD, SHI, SLO⟩ := SU_
 refine own_start (n0 := n0) hw "java/lang/String" (L := #[.val (.ref a1), .val (.ref a2), .val v'0, .val v'6, .val .null, .unset]) pn_5 (fun {p e s m below meth c s₁} q hx W hml hZ hown hnm hlk hrt X0 e0 N0 => ?_)
 have hby := q.2
 have kp0 := Keep.refl h0 [a1]
 refine own_aln X0 q d5_0 rfl rfl ?_
 refine own_let ?_; intro g730_
 obtain ⟨T731, X731, e731, st731⟩ := initO X0 hx hZ hown (W 22 rfl) (W 23 rfl) (W 24 rfl) e0 (g := g730_) rfl (by rw [hml]; rfl) rfl (q.d d5_1) (by decide) (W := 0) (by show 2 * 0 + _ ≤ _; exact Nat.le_of_eq rfl) (by decide)
 refine own_stp 4 st731 (own_iln X731 q d5_4 rfl (own_zy X731 q d5_5 (((if0 _ _).trans (feq ((by decide) : ¬ ((6 : Int32) = (0 : Int32)))).2)) ?_))
 refine own_gS X731 q hZ e731 hown (W 44 rfl) (SCS.ext O0.2) d5_27 fun T732 X732 e732 => ?_
 refine own_zn X732 q d5_30 (((if0 _ _).trans (feq hcs).1)) (own_aln X732 q d5_33 rfl rfl (own_iln X732 q d5_34 rfl (own_iln X732 q d5_35 rfl ?_)))
 refine own_cSh X732 q hZ e732 hown hml (W 50 rfl) (W 51 rfl) (W 52 rfl) (W 53 rfl) (rm10_6 l Z a0 hw a2 k1 x0 x1 x2 x3 x4 x5 h0 n0 Z0 O0 ⟨SAD, SHI, SLO⟩ VA hd0 hd1 hd2 hd3 hd4 hd5) d5_36 [(.ref a2), v'0, v'6] [] own_pd4 rfl rfl 0 (Nat.le_refl _) (by decide) (fun v733 T733 L733 h733 e733' X733 hQ733 => ?_)
 obtain ⟨b733, k733, rfl, N733q, E733, lo733, D733⟩ := hQ733
 have N733 := Fr.app N0 N733q
 have zs734 := Nat.le_trans Z0 E733.1
 have od734 := O0.ext E733
 have kp734 := kp0.ext E733
 have g_b733 : n0 ≤ b733 := Nat.le_trans Z0 lo733
 have sz_b733 : h0.size ≤ b733 := Nat.le_trans kp0.1 lo733
 refine own_nv ?_
 rcases D733 with ⟨hA, hV⟩ | ⟨hA, hV⟩
 ·have hV_ := hV
  show own_Fin _ _ _ _ (T733.setTop (mkF m 39 #[.val (.ref a1), .val (.ref a2), .val v'0, .val v'6, .val .null, .unset] [(.ref b733)]))
  refine own_as X733 q d5_39 rfl (l' := #[.val (.ref a1), .val (.ref a2), .val v'0, .val v'6, .val .null, .val (.ref b733)]) rfl (own_aln X733 q d5_41 rfl rfl (own_al X733 q d5_42 rfl rfl (own_iln X733 q d5_44 rfl ?_)))
  refine own_cS X733 q hZ e733' hown hml (W 57 rfl) (W 58 rfl) (W 52 rfl) (W 59 rfl) (rm12_6_6 l Z a0 hw b733 k733 _ h733 n0 zs734 hV) d5_45 [(.ref b733), v'6] [(.ref a1)] own_pd6 rfl rfl 1 (Nat.le_refl _) (by decide) (fun v735 T735 L735 X735 hQ735 => ?_)
  obtain ⟨rfl, N735q, e735⟩ := hQ735
  have N735 := Fr.app N733 N735q
  refine own_nv ?_
  refine own_let ?_; intro g736_
  obtain ⟨T737, h737, X737, e737, W737, st737⟩ := putFN X735 hx hZ hown (W 32 rfl) Via.refl e735 (FC.ext E733) (E1.ext E733) (Or.inr ⟨(W 28 rfl), rfl, hnm⟩) (W 13 rfl) (ty := .byte) (v' := v'0) (by decide) rfl rfl (g := g736_) rfl rfl (q.d d5_48)
  have zs738 := Nat.le_trans zs734 (Keep.of_wr W737).1
  have od738 := od734.wr W737 g1
  have kp738 := kp734.wr W737 (own_i0)
  have Fw737 := ((FC.ext E733)).same W737
  have N737 := Fr.snoc X737 N735 g1
  refine own_stp 51 st737 (own_aln X737 q d5_51 rfl rfl (own_al X737 q d5_52 rfl rfl ?_))
  refine own_let ?_; intro g739_
  obtain ⟨T740, h740, X740, e740, W740, st740⟩ := putF X737 hx hZ hown (host := "") (Or.inl (W 31 rfl)) Via.refl e737 ((FV.ext E733).other W737 (Or.inr (slot_ne (Or.inr (W 27 rfl)) (Or.inr (W 28 rfl)) (by decide) (t := (.array .byte)) (t' := .byte) (by decide) (by decide)))) ((E1.ext E733).wr W737) (Or.inr ⟨(W 27 rfl), rfl, hnm⟩) (W 13 rfl) (ty := (.array .byte)) (by decide) rfl rfl (g := g739_) rfl rfl (q.d d5_54)
  have zs741 := Nat.le_trans zs738 (Keep.of_wr W740).1
  have od741 := od738.wr W740 g1
  have kp741 := kp738.wr W740 (own_i0)
  have Fw740 := (((FV.ext E733).other W737 (Or.inr (slot_ne (Or.inr (W 27 rfl)) (Or.inr (W 28 rfl)) (by decide) (t := (.array .byte)) (t' := .byte) (by decide) (by decide))))).same W740
  have N740 := Fr.snoc X740 N737 g1
  refine own_stp 57 st740 ?_
  refine own_rV X740 q hrt d5_57 hlk (by decide) ?_
  show QI6 Z a1 x0 x1 x2 x3 x4 x5 h0 n0 _ T740.heap _
  rw [e740]
  exact ⟨_, _, rfl, N740, kp741, sz_b733, Fw740, Or.inl ⟨(Fw737.other W740 (Or.inr (slot_ne (Or.inr (W 28 rfl)) (Or.inr (W 27 rfl)) (by decide) (t := .byte) (t' := (.array .byte)) (by decide) (by decide)))), hA, ((hV.other W737 (Ne.symm (own_ne (E1).lt lo733))).other W740 (Ne.symm (own_ne (E1).lt lo733)))⟩⟩
 ·have hV_ := hV
  show own_Fin _ _ _ _ (T733.setTop (mkF m 39 #[.val (.ref a1), .val (.ref a2), .val v'0, .val v'6, .val .null, .unset] [(.ref b733)]))
  refine own_as X733 q d5_39 rfl (l' := #[.val (.ref a1), .val (.ref a2), .val v'0, .val v'6, .val .null, .val (.ref b733)]) rfl (own_aln X733 q d5_41 rfl rfl (own_al X733 q d5_42 rfl rfl (own_iln X733 q d5_44 rfl ?_)))
  refine own_cS X733 q hZ e733' hown hml (W 57 rfl) (W 58 rfl) (W 52 rfl) (W 59 rfl) (rm12_6_12 l Z a0 hw b733 k733 _ h733 n0 zs734 hV) d5_45 [(.ref b733), v'6] [(.ref a1)] own_pd6 rfl rfl 1 (Nat.le_refl _) (by decide) (fun v742 T742 L742 X742 hQ742 => ?_)
  obtain ⟨rfl, N742q, e742⟩ := hQ742
  have N742 := Fr.app N733 N742q
  refine own_nv ?_
  refine own_let ?_; intro g743_
  obtain ⟨T744, h744, X744, e744, W744, st744⟩ := putFN X742 hx hZ hown (W 32 rfl) Via.refl e742 (FC.ext E733) (E1.ext E733) (Or.inr ⟨(W 28 rfl), rfl, hnm⟩) (W 13 rfl) (ty := .byte) (v' := v'1) (by decide) rfl rfl (g := g743_) rfl rfl (q.d d5_48)
  have zs745 := Nat.le_trans zs734 (Keep.of_wr W744).1
  have od745 := od734.wr W744 g1
  have kp745 := kp734.wr W744 (own_i0)
  have Fw744 := ((FC.ext E733)).same W744
  have N744 := Fr.snoc X744 N742 g1
  refine own_stp 51 st744 (own_aln X744 q d5_51 rfl rfl (own_al X744 q d5_52 rfl rfl ?_))
  refine own_let ?_; intro g746_
  obtain ⟨T747, h747, X747, e747, W747, st747⟩ := putF X744 hx hZ hown (host := "") (Or.inl (W 31 rfl)) Via.refl e744 ((FV.ext E733).other W744 (Or.inr (slot_ne (Or.inr (W 27 rfl)) (Or.inr (W 28 rfl)) (by decide) (t := (.array .byte)) (t' := .byte) (by decide) (by decide)))) ((E1.ext E733).wr W744) (Or.inr ⟨(W 27 rfl), rfl, hnm⟩) (W 13 rfl) (ty := (.array .byte)) (by decide) rfl rfl (g := g746_) rfl rfl (q.d d5_54)
  have zs748 := Nat.le_trans zs745 (Keep.of_wr W747).1
  have od748 := od745.wr W747 g1
  have kp748 := kp745.wr W747 (own_i0)
  have Fw747 := (((FV.ext E733).other W744 (Or.inr (slot_ne (Or.inr (W 27 rfl)) (Or.inr (W 28 rfl)) (by decide) (t := (.array .byte)) (t' := .byte) (by decide) (by decide))))).same W747
  have N747 := Fr.snoc X747 N744 g1
  refine own_stp 57 st747 ?_
  refine own_rV X747 q hrt d5_57 hlk (by decide) ?_
  show QI6 Z a1 x0 x1 x2 x3 x4 x5 h0 n0 _ T747.heap _
  rw [e747]
  exact ⟨_, _, rfl, N747, kp748, sz_b733, Fw747, Or.inr ⟨(Fw744.other W747 (Or.inr (slot_ne (Or.inr (W 28 rfl)) (Or.inr (W 27 rfl)) (by decide) (t := .byte) (t' := (.array .byte)) (by decide) (by decide)))), hA, ((hV.other W744 (Ne.symm (own_ne (E1).lt lo733))).other W747 (Ne.symm (own_ne (E1).lt lo733)))⟩⟩
theorem rm4_6 (l : Launch) (Z : State) (a0 : Array Value) (hw : own_hw a0 Z) (a1 : Addr) (a2 : Addr) (k1 : ClassId) (x0 x1 x2 x3 x4 x5 : Int32) (cs0 : Int32) (h0 : Heap) (n0 : Nat) (Z0 : n0 ≤ h0.size) (E1 : Exa Z h0 a1 "java/lang/String") (FV : F'1 Z h0 a1 .null) (FC : F'0 Z h0 a1 v'0) (VA : Arv Z h0 a2 k1 .char (6 : Int32) [(.int x0), (.int x1), (.int x2), (.int x3), (.int x4), (.int x5)] v'0) (g1 : n0 ≤ a1) (n12 : a1 ≠ a2) (O0 : Old Z n0 h0) (SC_ : own_SC Z cs0) (SU_ : own_SU Z) (hd0 : own_c16 x0) (hd1 : own_c16 x1) (hd2 : own_c16 x2) (hd3 : own_c16 x3) (hd4 : own_c16 x4) (hd5 : own_c16 x5) :
  own_M l Z [] own_y9 b'4 2 none ⟨5, 2, 18, 74⟩ #[(.ref a1), (.ref a2)] h0 (QI6 Z a1 x0 x1 x2 x3 x4 x5 h0 n0) := by
 obtain ⟨SCS, hcs⟩ := SC_; obtain ⟨SAD, SHI, SLO⟩ := SU_
 refine own_start (n0 := n0) hw "java/lang/String" (L := #[.val (.ref a1), .val (.ref a2)]) pn_4 (fun {p e s m below meth c s₁} q hx W hml hZ hown hnm hlk hrt X0 e0 N0 => ?_)
 have kp0 := Keep.refl h0 [a1]
 refine own_aln X0 q d4_0 rfl rfl (own_aln X0 q d4_1 rfl rfl (own_k X0 q d4_2 (own_aln X0 q d4_3 rfl rfl (own_alen (n := (6 : Int32)) X0 q hZ e0 VA d4_4 (own_nl X0 q d4_5 ?_)))))
 refine own_cIh (a := a1) X0 q hZ e0 hown hml (W 18 rfl) (W 19 rfl) (W 14 rfl) (W 21 rfl) (rm5_6 l Z a0 hw a1 a2 k1 x0 x1 x2 x3 x4 x5 cs0 h0 n0 Z0 E1 FV FC VA g1 n12 O0 ⟨SCS, hcs⟩ ⟨SAD, SHI, SLO⟩ hd0 hd1 hd2 hd3 hd4 hd5) d4_6 [(.ref a2), v'0, v'6, .null] [] own_pd7 rfl rfl 0 (Nat.le_refl _) rfl (by decide) (fun v751 T751 L751 h751 e751' X751 hQ751 => ?_)
 obtain ⟨t751, k751, rfl, N751q, K751, lo751, Fv751, D751⟩ := hQ751
 have N751 := Fr.app N0 N751q
 have zs752 := Nat.le_trans Z0 K751.1
 have od752 := O0.keep K751 (allS g1 all0)
 have kp752 := kp0.trans K751 (allS (own_i0) all0)
 have g_t751 : n0 ≤ t751 := Nat.le_trans Z0 lo751
 have sz_t751 : h0.size ≤ t751 := Nat.le_trans kp0.1 lo751
 refine own_nn ?_
 refine own_rV X751 q hrt d4_9 hlk (by decide) ?_
 show QI6 Z a1 x0 x1 x2 x3 x4 x5 h0 n0 _ T751.heap _
 rw [e751']
 exact ⟨_, _, rfl, N751, kp752, sz_t751, Fv751, D751⟩
theorem rm11_7 (l : Launch) (Z : State) (a0 : Array Value) (hw : own_hw a0 Z) (a1 : Addr) (b : Addr) (k1 k2 : ClassId) (x0 x1 x2 x3 x4 x5 x6 : Int32) (h0 : Heap) (n0 : Nat) (Z0 : n0 ≤ h0.size) (VA : Arv Z h0 a1 k1 .char (7 : Int32) [(.int x0), (.int x1), (.int x2), (.int x3), (.int x4), (.int x5), (.int x6)] v'0) (VB : Arv Z h0 b k2 .byte (7 : Int32) [v'0, v'0, v'0, v'0, v'0, v'0, v'0] v'0) (gb : n0 ≤ b) (nab : a1 ≠ b) :
  own_M l Z [] own_y1 b'11 7 (some .int) ⟨0, 0, 0, 0⟩ #[(.ref a1), v'0, (.ref b), v'0, v'7] h0 (QC7a Z b k2 x0 x1 x2 x3 x4 x5 x6 h0 n0) := by
 refine own_start (n0 := n0) hw "java/lang/StringUTF16" (L := #[.val (.ref a1), .val v'0, .val (.ref b), .val v'0, .val v'7, .unset, .unset]) pn_11 (fun {p e s m below meth c s₁} q hx W hml hZ hown hnm hlk hrt X0 e0 N0 => ?_)
 have kp0 := Keep.refl h0 [b]
 refine own_k X0 q d11_0 (own_is X0 q d11_1 (l' := #[.val (.ref a1), .val v'0, .val (.ref b), .val v'0, .val v'7, .val v'0, .unset]) rfl (own_il X0 q d11_3 rfl (own_il X0 q d11_5 rfl (own_cn X0 q d11_7 ((tlt ((by decide) : (0 : Int32) < (7 : Int32))).2.1) (own_aln X0 q d11_10 rfl rfl (own_iln X0 q d11_11 rfl (own_cld (v := (.int x0)) X0 q hZ e0 VA d11_12 (by decide) rfl (own_is X0 q d11_13 (l' := #[.val (.ref a1), .val v'0, .val (.ref b), .val v'0, .val v'7, .val v'0, .val (.int x0)]) rfl (own_il X0 q d11_15 rfl (own_k X0 q d11_17 ?_))))))))))
 by_cases hc20_774 : (255 : Int32) < x0
 ·refine own_cn X0 q d11_20 ((tlt hc20_774).2.2.2) (own_il X0 q d11_23 rfl ?_)
  refine own_rI X0 q hrt d11_25 hlk (by decide) ?_
  show QC7a Z b k2 x0 x1 x2 x3 x4 x5 x6 h0 n0 _ s₁.heap _
  rw [e0]
  exact ⟨_, rfl, N0, kp0, Or.inr (Or.inl ⟨rfl, hc20_774⟩)⟩
 ·refine own_cy X0 q d11_20 ((flt hc20_774).2.2.2) (own_aln X0 q d11_26 rfl rfl (own_iln X0 q d11_27 rfl (own_il X0 q d11_28 rfl (own_stp 31 (fun _ k => XS.i2b X0.here hx rfl (q.d d11_30) rfl k) ?_))))
  refine own_bst X0 q hZ e0 VB d11_31 (by decide) (Nat.le_of_ble_eq_true rfl) N0 gb fun T775 h775 X775 e775 W775 V775 N775 => ?_
  have zs776 := Nat.le_trans Z0 (Keep.of_wr W775).1
  have kp776 := kp0.wr W775 (own_i0)
  refine own_iik X775 q d11_32 rfl (show ((0 : Int32) + (1 : Int32)) = (1 : Int32) by decide) (l' := #[.val (.ref a1), .val v'1, .val (.ref b), .val v'0, .val v'7, .val v'0, .val (.int x0)]) rfl (own_iik X775 q d11_35 rfl (show ((0 : Int32) + (1 : Int32)) = (1 : Int32) by decide) (l' := #[.val (.ref a1), .val v'1, .val (.ref b), .val v'1, .val v'7, .val v'0, .val (.int x0)]) rfl (own_iik X775 q d11_38 rfl (show ((0 : Int32) + (1 : Int32)) = (1 : Int32) by decide) (l' := #[.val (.ref a1), .val v'1, .val (.ref b), .val v'1, .val v'7, .val v'1, .val (.int x0)]) rfl (own_gt X775 q d11_41 (own_il X775 q d11_3 rfl (own_il X775 q d11_5 rfl (own_cn X775 q d11_7 ((tlt ((by decide) : (1 : Int32) < (7 : Int32))).2.1) (own_aln X775 q d11_10 rfl rfl (own_iln X775 q d11_11 rfl (own_cld (v := (.int x1)) X775 q hZ e775 (VA.other W775 nab) d11_12 (by decide) rfl (own_is X775 q d11_13 (l' := #[.val (.ref a1), .val v'1, .val (.ref b), .val v'1, .val v'7, .val v'1, .val (.int x1)]) rfl (own_il X775 q d11_15 rfl ?_)))))))))))
  refine own_k X775 q d11_17 ?_
  by_cases hc20_777 : (255 : Int32) < x1
  ·refine own_cn X775 q d11_20 ((tlt hc20_777).2.2.2) (own_il X775 q d11_23 rfl ?_)
   refine own_rI X775 q hrt d11_25 hlk (by decide) ?_
   show QC7a Z b k2 x0 x1 x2 x3 x4 x5 x6 h0 n0 _ T775.heap _
   rw [e775]
   exact ⟨_, rfl, N775, kp776, Or.inr (Or.inr (Or.inl ⟨rfl, hc20_777⟩))⟩
  ·refine own_cy X775 q d11_20 ((flt hc20_777).2.2.2) (own_aln X775 q d11_26 rfl rfl (own_iln X775 q d11_27 rfl (own_il X775 q d11_28 rfl (own_stp 31 (fun _ k => XS.i2b X775.here hx rfl (q.d d11_30) rfl k) ?_))))
   refine own_bst X775 q hZ e775 V775 d11_31 (by decide) (Nat.le_of_ble_eq_true rfl) N775 gb fun T778 h778 X778 e778 W778 V778 N778 => ?_
   have zs779 := Nat.le_trans zs776 (Keep.of_wr W778).1
   have kp779 := kp776.wr W778 (own_i0)
   refine own_iik X778 q d11_32 rfl (show ((1 : Int32) + (1 : Int32)) = (2 : Int32) by decide) (l' := #[.val (.ref a1), .val v'2, .val (.ref b), .val v'1, .val v'7, .val v'1, .val (.int x1)]) rfl (own_iik X778 q d11_35 rfl (show ((1 : Int32) + (1 : Int32)) = (2 : Int32) by decide) (l' := #[.val (.ref a1), .val v'2, .val (.ref b), .val v'2, .val v'7, .val v'1, .val (.int x1)]) rfl (own_iik X778 q d11_38 rfl (show ((1 : Int32) + (1 : Int32)) = (2 : Int32) by decide) (l' := #[.val (.ref a1), .val v'2, .val (.ref b), .val v'2, .val v'7, .val v'2, .val (.int x1)]) rfl (own_gt X778 q d11_41 (own_il X778 q d11_3 rfl (own_il X778 q d11_5 rfl (own_cn X778 q d11_7 ((tlt ((by decide) : (2 : Int32) < (7 : Int32))).2.1) (own_aln X778 q d11_10 rfl rfl (own_iln X778 q d11_11 rfl (own_cld (v := (.int x2)) X778 q hZ e778 ((VA.other W775 nab).other W778 nab) d11_12 (by decide) rfl (own_is X778 q d11_13 (l' := #[.val (.ref a1), .val v'2, .val (.ref b), .val v'2, .val v'7, .val v'2, .val (.int x2)]) rfl (own_il X778 q d11_15 rfl ?_)))))))))))
   refine own_k X778 q d11_17 ?_
   by_cases hc20_780 : (255 : Int32) < x2
   ·refine own_cn X778 q d11_20 ((tlt hc20_780).2.2.2) (own_il X778 q d11_23 rfl ?_)
    refine own_rI X778 q hrt d11_25 hlk (by decide) ?_
    show QC7a Z b k2 x0 x1 x2 x3 x4 x5 x6 h0 n0 _ T778.heap _
    rw [e778]
    exact ⟨_, rfl, N778, kp779, Or.inr (Or.inr (Or.inr (Or.inl ⟨rfl, hc20_780⟩)))⟩
   ·refine own_cy X778 q d11_20 ((flt hc20_780).2.2.2) (own_aln X778 q d11_26 rfl rfl (own_iln X778 q d11_27 rfl (own_il X778 q d11_28 rfl (own_stp 31 (fun _ k => XS.i2b X778.here hx rfl (q.d d11_30) rfl k) ?_))))
    refine own_bst X778 q hZ e778 V778 d11_31 (by decide) (Nat.le_of_ble_eq_true rfl) N778 gb fun T781 h781 X781 e781 W781 V781 N781 => ?_
    have zs782 := Nat.le_trans zs779 (Keep.of_wr W781).1
    have kp782 := kp779.wr W781 (own_i0)
    refine own_iik X781 q d11_32 rfl (show ((2 : Int32) + (1 : Int32)) = (3 : Int32) by decide) (l' := #[.val (.ref a1), .val v'3, .val (.ref b), .val v'2, .val v'7, .val v'2, .val (.int x2)]) rfl (own_iik X781 q d11_35 rfl (show ((2 : Int32) + (1 : Int32)) = (3 : Int32) by decide) (l' := #[.val (.ref a1), .val v'3, .val (.ref b), .val v'3, .val v'7, .val v'2, .val (.int x2)]) rfl (own_iik X781 q d11_38 rfl (show ((2 : Int32) + (1 : Int32)) = (3 : Int32) by decide) (l' := #[.val (.ref a1), .val v'3, .val (.ref b), .val v'3, .val v'7, .val v'3, .val (.int x2)]) rfl (own_gt X781 q d11_41 (own_il X781 q d11_3 rfl (own_il X781 q d11_5 rfl (own_cn X781 q d11_7 ((tlt ((by decide) : (3 : Int32) < (7 : Int32))).2.1) (own_aln X781 q d11_10 rfl rfl (own_iln X781 q d11_11 rfl (own_cld (v := (.int x3)) X781 q hZ e781 (((VA.other W775 nab).other W778 nab).other W781 nab) d11_12 (by decide) rfl (own_is X781 q d11_13 (l' := #[.val (.ref a1), .val v'3, .val (.ref b), .val v'3, .val v'7, .val v'3, .val (.int x3)]) rfl (own_il X781 q d11_15 rfl ?_)))))))))))
    refine own_k X781 q d11_17 ?_
    by_cases hc20_783 : (255 : Int32) < x3
    ·refine own_cn X781 q d11_20 ((tlt hc20_783).2.2.2) (own_il X781 q d11_23 rfl ?_)
     refine own_rI X781 q hrt d11_25 hlk (by decide) ?_
     show QC7a Z b k2 x0 x1 x2 x3 x4 x5 x6 h0 n0 _ T781.heap _
     rw [e781]
     exact ⟨_, rfl, N781, kp782, Or.inr (Or.inr (Or.inr (Or.inr (Or.inl ⟨rfl, hc20_783⟩))))⟩
    ·refine own_cy X781 q d11_20 ((flt hc20_783).2.2.2) (own_aln X781 q d11_26 rfl rfl (own_iln X781 q d11_27 rfl (own_il X781 q d11_28 rfl (own_stp 31 (fun _ k => XS.i2b X781.here hx rfl (q.d d11_30) rfl k) ?_))))
     refine own_bst X781 q hZ e781 V781 d11_31 (by decide) (Nat.le_of_ble_eq_true rfl) N781 gb fun T784 h784 X784 e784 W784 V784 N784 => ?_
     have zs785 := Nat.le_trans zs782 (Keep.of_wr W784).1
     have kp785 := kp782.wr W784 (own_i0)
     refine own_iik X784 q d11_32 rfl (show ((3 : Int32) + (1 : Int32)) = (4 : Int32) by decide) (l' := #[.val (.ref a1), .val v'4, .val (.ref b), .val v'3, .val v'7, .val v'3, .val (.int x3)]) rfl (own_iik X784 q d11_35 rfl (show ((3 : Int32) + (1 : Int32)) = (4 : Int32) by decide) (l' := #[.val (.ref a1), .val v'4, .val (.ref b), .val v'4, .val v'7, .val v'3, .val (.int x3)]) rfl (own_iik X784 q d11_38 rfl (show ((3 : Int32) + (1 : Int32)) = (4 : Int32) by decide) (l' := #[.val (.ref a1), .val v'4, .val (.ref b), .val v'4, .val v'7, .val v'4, .val (.int x3)]) rfl (own_gt X784 q d11_41 (own_il X784 q d11_3 rfl (own_il X784 q d11_5 rfl (own_cn X784 q d11_7 ((tlt ((by decide) : (4 : Int32) < (7 : Int32))).2.1) (own_aln X784 q d11_10 rfl rfl (own_iln X784 q d11_11 rfl (own_cld (v := (.int x4)) X784 q hZ e784 ((((VA.other W775 nab).other W778 nab).other W781 nab).other W784 nab) d11_12 (by decide) rfl (own_is X784 q d11_13 (l' := #[.val (.ref a1), .val v'4, .val (.ref b), .val v'4, .val v'7, .val v'4, .val (.int x4)]) rfl (own_il X784 q d11_15 rfl ?_)))))))))))
     refine own_k X784 q d11_17 ?_
     by_cases hc20_786 : (255 : Int32) < x4
     ·refine own_cn X784 q d11_20 ((tlt hc20_786).2.2.2) (own_il X784 q d11_23 rfl ?_)
      refine own_rI X784 q hrt d11_25 hlk (by decide) ?_
      show QC7a Z b k2 x0 x1 x2 x3 x4 x5 x6 h0 n0 _ T784.heap _
      rw [e784]
      exact ⟨_, rfl, N784, kp785, Or.inr (Or.inr (Or.inr (Or.inr (Or.inr (Or.inl ⟨rfl, hc20_786⟩)))))⟩
     ·refine own_cy X784 q d11_20 ((flt hc20_786).2.2.2) (own_aln X784 q d11_26 rfl rfl (own_iln X784 q d11_27 rfl (own_il X784 q d11_28 rfl (own_stp 31 (fun _ k => XS.i2b X784.here hx rfl (q.d d11_30) rfl k) ?_))))
      refine own_bst X784 q hZ e784 V784 d11_31 (by decide) (Nat.le_of_ble_eq_true rfl) N784 gb fun T787 h787 X787 e787 W787 V787 N787 => ?_
      have zs788 := Nat.le_trans zs785 (Keep.of_wr W787).1
      have kp788 := kp785.wr W787 (own_i0)
      refine own_iik X787 q d11_32 rfl (show ((4 : Int32) + (1 : Int32)) = (5 : Int32) by decide) (l' := #[.val (.ref a1), .val v'5, .val (.ref b), .val v'4, .val v'7, .val v'4, .val (.int x4)]) rfl (own_iik X787 q d11_35 rfl (show ((4 : Int32) + (1 : Int32)) = (5 : Int32) by decide) (l' := #[.val (.ref a1), .val v'5, .val (.ref b), .val v'5, .val v'7, .val v'4, .val (.int x4)]) rfl (own_iik X787 q d11_38 rfl (show ((4 : Int32) + (1 : Int32)) = (5 : Int32) by decide) (l' := #[.val (.ref a1), .val v'5, .val (.ref b), .val v'5, .val v'7, .val v'5, .val (.int x4)]) rfl (own_gt X787 q d11_41 (own_il X787 q d11_3 rfl (own_il X787 q d11_5 rfl (own_cn X787 q d11_7 ((tlt ((by decide) : (5 : Int32) < (7 : Int32))).2.1) (own_aln X787 q d11_10 rfl rfl (own_iln X787 q d11_11 rfl (own_cld (v := (.int x5)) X787 q hZ e787 (((((VA.other W775 nab).other W778 nab).other W781 nab).other W784 nab).other W787 nab) d11_12 (by decide) rfl (own_is X787 q d11_13 (l' := #[.val (.ref a1), .val v'5, .val (.ref b), .val v'5, .val v'7, .val v'5, .val (.int x5)]) rfl (own_il X787 q d11_15 rfl ?_)))))))))))
      refine own_k X787 q d11_17 ?_
      by_cases hc20_789 : (255 : Int32) < x5
      ·refine own_cn X787 q d11_20 ((tlt hc20_789).2.2.2) (own_il X787 q d11_23 rfl ?_)
       refine own_rI X787 q hrt d11_25 hlk (by decide) ?_
       show QC7a Z b k2 x0 x1 x2 x3 x4 x5 x6 h0 n0 _ T787.heap _
       rw [e787]
       exact ⟨_, rfl, N787, kp788, Or.inr (Or.inr (Or.inr (Or.inr (Or.inr (Or.inr (Or.inl ⟨rfl, hc20_789⟩))))))⟩
      ·refine own_cy X787 q d11_20 ((flt hc20_789).2.2.2) (own_aln X787 q d11_26 rfl rfl (own_iln X787 q d11_27 rfl (own_il X787 q d11_28 rfl (own_stp 31 (fun _ k => XS.i2b X787.here hx rfl (q.d d11_30) rfl k) ?_))))
       refine own_bst X787 q hZ e787 V787 d11_31 (by decide) (Nat.le_of_ble_eq_true rfl) N787 gb fun T790 h790 X790 e790 W790 V790 N790 => ?_
       have zs791 := Nat.le_trans zs788 (Keep.of_wr W790).1
       have kp791 := kp788.wr W790 (own_i0)
       refine own_iik X790 q d11_32 rfl (show ((5 : Int32) + (1 : Int32)) = (6 : Int32) by decide) (l' := #[.val (.ref a1), .val v'6, .val (.ref b), .val v'5, .val v'7, .val v'5, .val (.int x5)]) rfl (own_iik X790 q d11_35 rfl (show ((5 : Int32) + (1 : Int32)) = (6 : Int32) by decide) (l' := #[.val (.ref a1), .val v'6, .val (.ref b), .val v'6, .val v'7, .val v'5, .val (.int x5)]) rfl (own_iik X790 q d11_38 rfl (show ((5 : Int32) + (1 : Int32)) = (6 : Int32) by decide) (l' := #[.val (.ref a1), .val v'6, .val (.ref b), .val v'6, .val v'7, .val v'6, .val (.int x5)]) rfl (own_gt X790 q d11_41 (own_il X790 q d11_3 rfl (own_il X790 q d11_5 rfl (own_cn X790 q d11_7 ((tlt ((by decide) : (6 : Int32) < (7 : Int32))).2.1) (own_aln X790 q d11_10 rfl rfl (own_iln X790 q d11_11 rfl (own_cld (v := (.int x6)) X790 q hZ e790 ((((((VA.other W775 nab).other W778 nab).other W781 nab).other W784 nab).other W787 nab).other W790 nab) d11_12 (by decide) rfl (own_is X790 q d11_13 (l' := #[.val (.ref a1), .val v'6, .val (.ref b), .val v'6, .val v'7, .val v'6, .val (.int x6)]) rfl (own_il X790 q d11_15 rfl ?_)))))))))))
       refine own_k X790 q d11_17 ?_
       by_cases hc20_792 : (255 : Int32) < x6
       ·refine own_cn X790 q d11_20 ((tlt hc20_792).2.2.2) (own_il X790 q d11_23 rfl ?_)
        refine own_rI X790 q hrt d11_25 hlk (by decide) ?_
        show QC7a Z b k2 x0 x1 x2 x3 x4 x5 x6 h0 n0 _ T790.heap _
        rw [e790]
        exact ⟨_, rfl, N790, kp791, Or.inr (Or.inr (Or.inr (Or.inr (Or.inr (Or.inr (Or.inr ⟨rfl, hc20_792⟩))))))⟩
       ·refine own_cy X790 q d11_20 ((flt hc20_792).2.2.2) (own_aln X790 q d11_26 rfl rfl (own_iln X790 q d11_27 rfl (own_il X790 q d11_28 rfl (own_stp 31 (fun _ k => XS.i2b X790.here hx rfl (q.d d11_30) rfl k) ?_))))
        refine own_bst X790 q hZ e790 V790 d11_31 (by decide) (Nat.le_of_ble_eq_true rfl) N790 gb fun T793 h793 X793 e793 W793 V793 N793 => ?_
        have zs794 := Nat.le_trans zs791 (Keep.of_wr W793).1
        have kp794 := kp791.wr W793 (own_i0)
        refine own_iik X793 q d11_32 rfl (show ((6 : Int32) + (1 : Int32)) = (7 : Int32) by decide) (l' := #[.val (.ref a1), .val v'7, .val (.ref b), .val v'6, .val v'7, .val v'6, .val (.int x6)]) rfl (own_iik X793 q d11_35 rfl (show ((6 : Int32) + (1 : Int32)) = (7 : Int32) by decide) (l' := #[.val (.ref a1), .val v'7, .val (.ref b), .val v'7, .val v'7, .val v'6, .val (.int x6)]) rfl (own_iik X793 q d11_38 rfl (show ((6 : Int32) + (1 : Int32)) = (7 : Int32) by decide) (l' := #[.val (.ref a1), .val v'7, .val (.ref b), .val v'7, .val v'7, .val v'7, .val (.int x6)]) rfl (own_gt X793 q d11_41 (own_il X793 q d11_3 rfl (own_il X793 q d11_5 rfl (own_cy X793 q d11_7 ((flt (Int32.lt_irrefl : ¬ ((7 : Int32) < (7 : Int32)))).2.1) (own_il X793 q d11_44 rfl ?_)))))))
        refine own_rI X793 q hrt d11_46 hlk (by decide) ?_
        show QC7a Z b k2 x0 x1 x2 x3 x4 x5 x6 h0 n0 _ T793.heap _
        rw [e793]
        exact ⟨_, rfl, N793, kp794, Or.inl ⟨rfl, ⟨hc20_774, hc20_777, hc20_780, hc20_783, hc20_786, hc20_789, hc20_792⟩, V793⟩⟩
theorem rm14_7 (l : Launch) (Z : State) (a0 : Array Value) (hw : own_hw a0 Z)   (h0 : Heap) (n0 : Nat) (Z0 : n0 ≤ h0.size) :
  own_M l Z [] own_y4 b'14 1 (some (.array .byte)) ⟨1, 1, 14, 12⟩ #[v'7] h0 (QNB7 Z h0 n0) := by
 refine own_start (n0 := n0) hw "java/lang/StringUTF16" (L := #[.val v'7]) pn_14 (fun {p e s m below meth c s₁} q hx W hml hZ hown hnm hlk hrt X0 e0 N0 => ?_)
 have kp0 := Keep.refl h0 []
 refine own_iln X0 q d14_0 rfl ?_
 refine own_cS X0 q hZ e0 hown hml (W 66 rfl) (W 67 rfl) (W 52 rfl) (W 68 rfl) (rm15 l Z a0 hw (7 : Int32) (14 : Int32) h0 n0 Z0 (by decide) (by decide) (by decide)) d14_1 [v'7] [] own_pd0 rfl rfl 0 (Nat.le_refl _) (by decide) (fun v799 T799 L799 X799 hQ799 => ?_)
 obtain ⟨rfl, N799q, e799⟩ := hQ799
 have N799 := Fr.app N0 N799q
 refine own_nv ?_
 refine own_let ?_; intro g800_
 obtain ⟨T801, h801, k801, X801, e801, E801, A801, st801⟩ := newP X799 hx hZ (W 26 rfl) e799 (g := g800_) rfl (q.d d14_4) rfl (by decide) (cap := 14) (by decide) (by decide) (by decide) (by decide)
 obtain ⟨b801, g801⟩ : ∃ z, z = h0.size := ⟨_, rfl⟩
 rw [← g801] at A801 st801
 have V801 : Arv Z h801 b801 k801 .byte (14 : Int32) [v'0, v'0, v'0, v'0, v'0, v'0, v'0, v'0, v'0, v'0, v'0, v'0, v'0, v'0] v'0 := (Arv.new A801 (by decide)).pad (pad_rep [] v'0 14)
 have zs802 := Nat.le_trans Z0 E801.1
 have kp802 := kp0.ext E801
 have g_b801 : n0 ≤ b801 := Nat.le_trans Z0 (Nat.le_of_eq g801.symm)
 have sz_b801 : h0.size ≤ b801 := Nat.le_trans kp0.1 (Nat.le_of_eq g801.symm)
 refine own_stp 6 st801 ?_
 refine own_rA X801 q hrt d14_6 hlk (by decide) ?_
 show QNB7 Z h0 n0 _ T801.heap _
 rw [e801]
 exact ⟨_, _, rfl, N799, own_extK kp802, sz_b801, V801⟩
theorem rm13_7 (l : Launch) (Z : State) (a0 : Array Value) (hw : own_hw a0 Z) (a1 : Addr) (k1 : ClassId) (x0 x1 x2 x3 x4 x5 x6 : Int32) (h0 : Heap) (n0 : Nat) (Z0 : n0 ≤ h0.size) (O0 : Old Z n0 h0) (SU_ : own_SU Z) (VA : Arv Z h0 a1 k1 .char (7 : Int32) [(.int x0), (.int x1), (.int x2), (.int x3), (.int x4), (.int x5), (.int x6)] v'0) :
  own_M l Z [] own_y5 b'13 5 (some (.array .byte)) ⟨2, 1, 14, 24⟩ #[(.ref a1), v'0, v'7] h0 (QTB7 Z x0 x1 x2 x3 x4 x5 x6 h0 n0) := by
 obtain ⟨SAD, SHI, SLO⟩ := SU_
 refine own_start (n0 := n0) hw "java/lang/StringUTF16" (L := #[.val (.ref a1), .val v'0, .val v'7, .unset, .unset]) pn_13 (fun {p e s m below meth c s₁} q hx W hml hZ hown hnm hlk hrt X0 e0 N0 => ?_)
 have kp0 := Keep.refl h0 []
 refine own_iln X0 q d13_0 rfl ?_
 refine own_cSh X0 q hZ e0 hown hml (W 63 rfl) (W 64 rfl) (W 52 rfl) (W 65 rfl) (rm14_7 l Z a0 hw h0 n0 Z0) d13_1 [v'7] [] own_pd1 rfl rfl 0 (Nat.le_refl _) (by decide) (fun v819 T819 L819 h819 e819' X819 hQ819 => ?_)
 obtain ⟨b819, k819, rfl, N819q, E819, lo819, V819⟩ := hQ819
 have N819 := Fr.app N0 N819q
 have zs820 := Nat.le_trans Z0 E819.1
 have od820 := O0.ext E819
 have kp820 := kp0.ext E819
 have g_b819 : n0 ≤ b819 := Nat.le_trans Z0 lo819
 have sz_b819 : h0.size ≤ b819 := Nat.le_trans kp0.1 lo819
 refine own_nv (own_asn X819 q d13_4 rfl (l' := #[.val (.ref a1), .val v'0, .val v'7, .val (.ref b819), .unset]) rfl (own_k X819 q d13_5 (own_is X819 q d13_6 (l' := #[.val (.ref a1), .val v'0, .val v'7, .val (.ref b819), .val v'0]) rfl (own_il X819 q d13_8 rfl (own_iln X819 q d13_10 rfl (own_cn X819 q d13_11 ((tlt ((by decide) : (0 : Int32) < (7 : Int32))).2.1) (own_aln X819 q d13_14 rfl rfl (own_il X819 q d13_15 rfl (own_aln X819 q d13_17 rfl rfl (own_iln X819 q d13_18 rfl (own_cld (v := (.int x0)) X819 q hZ e819' (VA.ext E819) d13_19 (by decide) rfl ?_)))))))))))
 refine own_cSh X819 q hZ e819' hown hml (W 70 rfl) (W 71 rfl) (W 52 rfl) (W 72 rfl) (rm16 l Z a0 hw b819 (0 : Int32) x0 k819 _ 14 0 h819 n0 zs820 od820 ⟨SAD, SHI, SLO⟩ V819 rfl (by decide) (by decide) rfl g_b819) d13_20 [(.ref b819), v'0, (.int x0)] [] own_pd2 rfl rfl 0 (Nat.le_refl _) (by decide) (fun v821 T821 L821 h821 e821' X821 hQ821 => ?_)
 obtain ⟨rfl, N821q, K821, V821⟩ := hQ821
 have N821 := Fr.app N819 N821q
 have zs822 := Nat.le_trans zs820 K821.1
 have od822 := od820.keep K821 (allS g_b819 all0)
 have kp822 := kp820.trans K821 (allS (Or.inr sz_b819) all0)
 refine own_nn (own_iik X821 q d13_23 rfl (show ((0 : Int32) + (1 : Int32)) = (1 : Int32) by decide) (l' := #[.val (.ref a1), .val v'1, .val v'7, .val (.ref b819), .val v'0]) rfl (own_iik X821 q d13_26 rfl (show ((0 : Int32) + (1 : Int32)) = (1 : Int32) by decide) (l' := #[.val (.ref a1), .val v'1, .val v'7, .val (.ref b819), .val v'1]) rfl (own_gt X821 q d13_29 (own_il X821 q d13_8 rfl (own_iln X821 q d13_10 rfl (own_cn X821 q d13_11 ((tlt ((by decide) : (1 : Int32) < (7 : Int32))).2.1) (own_aln X821 q d13_14 rfl rfl (own_il X821 q d13_15 rfl (own_aln X821 q d13_17 rfl rfl (own_iln X821 q d13_18 rfl (own_cld (v := (.int x1)) X821 q hZ e821' ((VA.ext E819).keep K821 (ninS (own_ne (VA).lt lo819) nin0)) d13_19 (by decide) rfl ?_)))))))))))
 refine own_cSh X821 q hZ e821' hown hml (W 70 rfl) (W 71 rfl) (W 52 rfl) (W 72 rfl) (rm16 l Z a0 hw b819 (1 : Int32) x1 k819 _ 14 1 h821 n0 zs822 od822 ⟨SAD, SHI, SLO⟩ V821 rfl (by decide) (by decide) rfl g_b819) d13_20 [(.ref b819), v'1, (.int x1)] [] own_pd2 rfl rfl 0 (Nat.le_refl _) (by decide) (fun v823 T823 L823 h823 e823' X823 hQ823 => ?_)
 obtain ⟨rfl, N823q, K823, V823⟩ := hQ823
 have N823 := Fr.app N821 N823q
 have zs824 := Nat.le_trans zs822 K823.1
 have od824 := od822.keep K823 (allS g_b819 all0)
 have kp824 := kp822.trans K823 (allS (Or.inr sz_b819) all0)
 refine own_nn (own_iik X823 q d13_23 rfl (show ((1 : Int32) + (1 : Int32)) = (2 : Int32) by decide) (l' := #[.val (.ref a1), .val v'2, .val v'7, .val (.ref b819), .val v'1]) rfl (own_iik X823 q d13_26 rfl (show ((1 : Int32) + (1 : Int32)) = (2 : Int32) by decide) (l' := #[.val (.ref a1), .val v'2, .val v'7, .val (.ref b819), .val v'2]) rfl (own_gt X823 q d13_29 (own_il X823 q d13_8 rfl (own_iln X823 q d13_10 rfl (own_cn X823 q d13_11 ((tlt ((by decide) : (2 : Int32) < (7 : Int32))).2.1) (own_aln X823 q d13_14 rfl rfl (own_il X823 q d13_15 rfl (own_aln X823 q d13_17 rfl rfl (own_iln X823 q d13_18 rfl (own_cld (v := (.int x2)) X823 q hZ e823' (((VA.ext E819).keep K821 (ninS (own_ne (VA).lt lo819) nin0)).keep K823 (ninS (own_ne (VA).lt lo819) nin0)) d13_19 (by decide) rfl ?_)))))))))))
 refine own_cSh X823 q hZ e823' hown hml (W 70 rfl) (W 71 rfl) (W 52 rfl) (W 72 rfl) (rm16 l Z a0 hw b819 (2 : Int32) x2 k819 _ 14 2 h823 n0 zs824 od824 ⟨SAD, SHI, SLO⟩ V823 rfl (by decide) (by decide) rfl g_b819) d13_20 [(.ref b819), v'2, (.int x2)] [] own_pd2 rfl rfl 0 (Nat.le_refl _) (by decide) (fun v825 T825 L825 h825 e825' X825 hQ825 => ?_)
 obtain ⟨rfl, N825q, K825, V825⟩ := hQ825
 have N825 := Fr.app N823 N825q
 have zs826 := Nat.le_trans zs824 K825.1
 have od826 := od824.keep K825 (allS g_b819 all0)
 have kp826 := kp824.trans K825 (allS (Or.inr sz_b819) all0)
 refine own_nn (own_iik X825 q d13_23 rfl (show ((2 : Int32) + (1 : Int32)) = (3 : Int32) by decide) (l' := #[.val (.ref a1), .val v'3, .val v'7, .val (.ref b819), .val v'2]) rfl (own_iik X825 q d13_26 rfl (show ((2 : Int32) + (1 : Int32)) = (3 : Int32) by decide) (l' := #[.val (.ref a1), .val v'3, .val v'7, .val (.ref b819), .val v'3]) rfl (own_gt X825 q d13_29 (own_il X825 q d13_8 rfl (own_iln X825 q d13_10 rfl (own_cn X825 q d13_11 ((tlt ((by decide) : (3 : Int32) < (7 : Int32))).2.1) (own_aln X825 q d13_14 rfl rfl (own_il X825 q d13_15 rfl (own_aln X825 q d13_17 rfl rfl (own_iln X825 q d13_18 rfl (own_cld (v := (.int x3)) X825 q hZ e825' ((((VA.ext E819).keep K821 (ninS (own_ne (VA).lt lo819) nin0)).keep K823 (ninS (own_ne (VA).lt lo819) nin0)).keep K825 (ninS (own_ne (VA).lt lo819) nin0)) d13_19 (by decide) rfl ?_)))))))))))
 refine own_cSh X825 q hZ e825' hown hml (W 70 rfl) (W 71 rfl) (W 52 rfl) (W 72 rfl) (rm16 l Z a0 hw b819 (3 : Int32) x3 k819 _ 14 3 h825 n0 zs826 od826 ⟨SAD, SHI, SLO⟩ V825 rfl (by decide) (by decide) rfl g_b819) d13_20 [(.ref b819), v'3, (.int x3)] [] own_pd2 rfl rfl 0 (Nat.le_refl _) (by decide) (fun v827 T827 L827 h827 e827' X827 hQ827 => ?_)
 obtain ⟨rfl, N827q, K827, V827⟩ := hQ827
 have N827 := Fr.app N825 N827q
 have zs828 := Nat.le_trans zs826 K827.1
 have od828 := od826.keep K827 (allS g_b819 all0)
 have kp828 := kp826.trans K827 (allS (Or.inr sz_b819) all0)
 refine own_nn (own_iik X827 q d13_23 rfl (show ((3 : Int32) + (1 : Int32)) = (4 : Int32) by decide) (l' := #[.val (.ref a1), .val v'4, .val v'7, .val (.ref b819), .val v'3]) rfl (own_iik X827 q d13_26 rfl (show ((3 : Int32) + (1 : Int32)) = (4 : Int32) by decide) (l' := #[.val (.ref a1), .val v'4, .val v'7, .val (.ref b819), .val v'4]) rfl (own_gt X827 q d13_29 (own_il X827 q d13_8 rfl (own_iln X827 q d13_10 rfl (own_cn X827 q d13_11 ((tlt ((by decide) : (4 : Int32) < (7 : Int32))).2.1) (own_aln X827 q d13_14 rfl rfl (own_il X827 q d13_15 rfl (own_aln X827 q d13_17 rfl rfl (own_iln X827 q d13_18 rfl (own_cld (v := (.int x4)) X827 q hZ e827' (((((VA.ext E819).keep K821 (ninS (own_ne (VA).lt lo819) nin0)).keep K823 (ninS (own_ne (VA).lt lo819) nin0)).keep K825 (ninS (own_ne (VA).lt lo819) nin0)).keep K827 (ninS (own_ne (VA).lt lo819) nin0)) d13_19 (by decide) rfl ?_)))))))))))
 refine own_cSh X827 q hZ e827' hown hml (W 70 rfl) (W 71 rfl) (W 52 rfl) (W 72 rfl) (rm16 l Z a0 hw b819 (4 : Int32) x4 k819 _ 14 4 h827 n0 zs828 od828 ⟨SAD, SHI, SLO⟩ V827 rfl (by decide) (by decide) rfl g_b819) d13_20 [(.ref b819), v'4, (.int x4)] [] own_pd2 rfl rfl 0 (Nat.le_refl _) (by decide) (fun v829 T829 L829 h829 e829' X829 hQ829 => ?_)
 obtain ⟨rfl, N829q, K829, V829⟩ := hQ829
 have N829 := Fr.app N827 N829q
 have zs830 := Nat.le_trans zs828 K829.1
 have od830 := od828.keep K829 (allS g_b819 all0)
 have kp830 := kp828.trans K829 (allS (Or.inr sz_b819) all0)
 refine own_nn (own_iik X829 q d13_23 rfl (show ((4 : Int32) + (1 : Int32)) = (5 : Int32) by decide) (l' := #[.val (.ref a1), .val v'5, .val v'7, .val (.ref b819), .val v'4]) rfl (own_iik X829 q d13_26 rfl (show ((4 : Int32) + (1 : Int32)) = (5 : Int32) by decide) (l' := #[.val (.ref a1), .val v'5, .val v'7, .val (.ref b819), .val v'5]) rfl (own_gt X829 q d13_29 (own_il X829 q d13_8 rfl (own_iln X829 q d13_10 rfl (own_cn X829 q d13_11 ((tlt ((by decide) : (5 : Int32) < (7 : Int32))).2.1) (own_aln X829 q d13_14 rfl rfl (own_il X829 q d13_15 rfl (own_aln X829 q d13_17 rfl rfl (own_iln X829 q d13_18 rfl (own_cld (v := (.int x5)) X829 q hZ e829' ((((((VA.ext E819).keep K821 (ninS (own_ne (VA).lt lo819) nin0)).keep K823 (ninS (own_ne (VA).lt lo819) nin0)).keep K825 (ninS (own_ne (VA).lt lo819) nin0)).keep K827 (ninS (own_ne (VA).lt lo819) nin0)).keep K829 (ninS (own_ne (VA).lt lo819) nin0)) d13_19 (by decide) rfl ?_)))))))))))
 refine own_cSh X829 q hZ e829' hown hml (W 70 rfl) (W 71 rfl) (W 52 rfl) (W 72 rfl) (rm16 l Z a0 hw b819 (5 : Int32) x5 k819 _ 14 5 h829 n0 zs830 od830 ⟨SAD, SHI, SLO⟩ V829 rfl (by decide) (by decide) rfl g_b819) d13_20 [(.ref b819), v'5, (.int x5)] [] own_pd2 rfl rfl 0 (Nat.le_refl _) (by decide) (fun v831 T831 L831 h831 e831' X831 hQ831 => ?_)
 obtain ⟨rfl, N831q, K831, V831⟩ := hQ831
 have N831 := Fr.app N829 N831q
 have zs832 := Nat.le_trans zs830 K831.1
 have od832 := od830.keep K831 (allS g_b819 all0)
 have kp832 := kp830.trans K831 (allS (Or.inr sz_b819) all0)
 refine own_nn (own_iik X831 q d13_23 rfl (show ((5 : Int32) + (1 : Int32)) = (6 : Int32) by decide) (l' := #[.val (.ref a1), .val v'6, .val v'7, .val (.ref b819), .val v'5]) rfl (own_iik X831 q d13_26 rfl (show ((5 : Int32) + (1 : Int32)) = (6 : Int32) by decide) (l' := #[.val (.ref a1), .val v'6, .val v'7, .val (.ref b819), .val v'6]) rfl (own_gt X831 q d13_29 (own_il X831 q d13_8 rfl (own_iln X831 q d13_10 rfl (own_cn X831 q d13_11 ((tlt ((by decide) : (6 : Int32) < (7 : Int32))).2.1) (own_aln X831 q d13_14 rfl rfl (own_il X831 q d13_15 rfl (own_aln X831 q d13_17 rfl rfl (own_iln X831 q d13_18 rfl (own_cld (v := (.int x6)) X831 q hZ e831' (((((((VA.ext E819).keep K821 (ninS (own_ne (VA).lt lo819) nin0)).keep K823 (ninS (own_ne (VA).lt lo819) nin0)).keep K825 (ninS (own_ne (VA).lt lo819) nin0)).keep K827 (ninS (own_ne (VA).lt lo819) nin0)).keep K829 (ninS (own_ne (VA).lt lo819) nin0)).keep K831 (ninS (own_ne (VA).lt lo819) nin0)) d13_19 (by decide) rfl ?_)))))))))))
 refine own_cSh X831 q hZ e831' hown hml (W 70 rfl) (W 71 rfl) (W 52 rfl) (W 72 rfl) (rm16 l Z a0 hw b819 (6 : Int32) x6 k819 _ 14 6 h831 n0 zs832 od832 ⟨SAD, SHI, SLO⟩ V831 rfl (by decide) (by decide) rfl g_b819) d13_20 [(.ref b819), v'6, (.int x6)] [] own_pd2 rfl rfl 0 (Nat.le_refl _) (by decide) (fun v833 T833 L833 h833 e833' X833 hQ833 => ?_)
 obtain ⟨rfl, N833q, K833, V833⟩ := hQ833
 have N833 := Fr.app N831 N833q
 have zs834 := Nat.le_trans zs832 K833.1
 have od834 := od832.keep K833 (allS g_b819 all0)
 have kp834 := kp832.trans K833 (allS (Or.inr sz_b819) all0)
 refine own_nn (own_iik X833 q d13_23 rfl (show ((6 : Int32) + (1 : Int32)) = (7 : Int32) by decide) (l' := #[.val (.ref a1), .val v'7, .val v'7, .val (.ref b819), .val v'6]) rfl (own_iik X833 q d13_26 rfl (show ((6 : Int32) + (1 : Int32)) = (7 : Int32) by decide) (l' := #[.val (.ref a1), .val v'7, .val v'7, .val (.ref b819), .val v'7]) rfl (own_gt X833 q d13_29 (own_il X833 q d13_8 rfl (own_iln X833 q d13_10 rfl (own_cy X833 q d13_11 ((flt (Int32.lt_irrefl : ¬ ((7 : Int32) < (7 : Int32)))).2.1) (own_aln X833 q d13_32 rfl rfl ?_)))))))
 refine own_rA X833 q hrt d13_33 hlk (by decide) ?_
 show QTB7 Z x0 x1 x2 x3 x4 x5 x6 h0 n0 _ T833.heap _
 rw [e833']
 exact ⟨_, _, rfl, N833, own_extK kp834, sz_b819, V833⟩
theorem rm10_7 (l : Launch) (Z : State) (a0 : Array Value) (hw : own_hw a0 Z) (a1 : Addr) (k1 : ClassId) (x0 x1 x2 x3 x4 x5 x6 : Int32) (h0 : Heap) (n0 : Nat) (Z0 : n0 ≤ h0.size) (O0 : Old Z n0 h0) (SU_ : own_SU Z) (VA : Arv Z h0 a1 k1 .char (7 : Int32) [(.int x0), (.int x1), (.int x2), (.int x3), (.int x4), (.int x5), (.int x6)] v'0) (hd0 : own_c16 x0) (hd1 : own_c16 x1) (hd2 : own_c16 x2) (hd3 : own_c16 x3) (hd4 : own_c16 x4) (hd5 : own_c16 x5) (hd6 : own_c16 x6) :
  own_M l Z [] own_y6 b'10 6 (some (.array .byte)) ⟨3, 2, 21, 40⟩ #[(.ref a1), v'0, v'7] h0 (QC7b Z x0 x1 x2 x3 x4 x5 x6 h0 n0) := by
 obtain ⟨SAD, SHI, SLO⟩ := SU_
 refine own_start (n0 := n0) hw "java/lang/StringUTF16" (L := #[.val (.ref a1), .val v'0, .val v'7, .unset, .unset, .unset]) pn_10 (fun {p e s m below meth c s₁} q hx W hml hZ hown hnm hlk hrt X0 e0 N0 => ?_)
 have hby := q.2
 have kp0 := Keep.refl h0 []
 refine own_iln X0 q d10_0 rfl ?_
 refine own_let ?_; intro g861_
 obtain ⟨T862, h862, k862, X862, e862, E862, A862, st862⟩ := newP X0 hx hZ (W 26 rfl) e0 (g := g861_) rfl (q.d d10_1) rfl (by decide) (cap := 7) (by decide) (by decide) (by decide) (by decide)
 obtain ⟨b862, g862⟩ : ∃ z, z = h0.size := ⟨_, rfl⟩
 rw [← g862] at A862 st862
 have V862 : Arv Z h862 b862 k862 .byte (7 : Int32) [v'0, v'0, v'0, v'0, v'0, v'0, v'0] v'0 := (Arv.new A862 (by decide)).pad (pad_rep [] v'0 7)
 have zs863 := Nat.le_trans Z0 E862.1
 have od863 := O0.ext E862
 have kp863 := kp0.ext E862
 have g_b862 : n0 ≤ b862 := Nat.le_trans Z0 (Nat.le_of_eq g862.symm)
 have sz_b862 : h0.size ≤ b862 := Nat.le_trans kp0.1 (Nat.le_of_eq g862.symm)
 refine own_stp 3 st862 (own_asn X862 q d10_3 rfl (l' := #[.val (.ref a1), .val v'0, .val v'7, .val (.ref b862), .unset, .unset]) rfl (own_aln X862 q d10_4 rfl rfl (own_iln X862 q d10_5 rfl (own_aln X862 q d10_6 rfl rfl (own_k X862 q d10_7 (own_iln X862 q d10_8 rfl ?_))))))
 refine own_cSh X862 q hZ e862 hown hml (W 54 rfl) (W 55 rfl) (W 52 rfl) (W 56 rfl) (rm11_7 l Z a0 hw a1 b862 k1 k862 x0 x1 x2 x3 x4 x5 x6 h862 n0 zs863 (VA.ext E862) V862 g_b862 (own_ne (VA).lt (Nat.le_of_eq g862.symm))) d10_9 [(.ref a1), v'0, (.ref b862), v'0, v'7] [] own_pd3 rfl rfl 0 (Nat.le_refl _) (by decide) (fun v864 T864 L864 h864 e864' X864 hQ864 => ?_)
 obtain ⟨z864, rfl, N864q, K864, D864⟩ := hQ864
 have N864 := Fr.app N0 N864q
 have zs865 := Nat.le_trans zs863 K864.1
 have od865 := od863.keep K864 (allS g_b862 all0)
 have kp865 := kp863.trans K864 (allS (Or.inr sz_b862) all0)
 refine own_nv ?_
 rcases D864 with ⟨hz, hA, hV⟩ | ⟨hz, hB⟩ | ⟨hz, hB⟩ | ⟨hz, hB⟩ | ⟨hz, hB⟩ | ⟨hz, hB⟩ | ⟨hz, hB⟩ | ⟨hz, hB⟩
 ·subst hz
  show own_Fin _ _ _ _ (T864.setTop (mkF m 12 #[.val (.ref a1), .val v'0, .val v'7, .val (.ref b862), .unset, .unset] [v'7]))
  refine own_is X864 q d10_12 (l' := #[.val (.ref a1), .val v'0, .val v'7, .val (.ref b862), .val v'7, .unset]) rfl (own_il X864 q d10_14 rfl (own_iln X864 q d10_16 rfl (own_cy X864 q d10_17 ((teq (rfl : (7 : Int32) = (7 : Int32))).1) (own_aln X864 q d10_57 rfl rfl ?_))))
  refine own_rA X864 q hrt d10_58 hlk (by decide) ?_
  show QC7b Z x0 x1 x2 x3 x4 x5 x6 h0 n0 _ T864.heap _
  rw [e864']
  exact ⟨_, _, rfl, N864, own_extK kp865, sz_b862, Or.inl ⟨hA, hV⟩⟩
 ·subst hz
  show own_Fin _ _ _ _ (T864.setTop (mkF m 12 #[.val (.ref a1), .val v'0, .val v'7, .val (.ref b862), .unset, .unset] [v'0]))
  refine own_is X864 q d10_12 (l' := #[.val (.ref a1), .val v'0, .val v'7, .val (.ref b862), .val v'0, .unset]) rfl (own_il X864 q d10_14 rfl (own_iln X864 q d10_16 rfl (own_cn X864 q d10_17 ((feq ((by decide) : ¬ ((0 : Int32) = (7 : Int32)))).1) (own_aln X864 q d10_20 rfl rfl (own_iln X864 q d10_21 rfl (own_iln X864 q d10_22 rfl ?_))))))
  refine own_cSh X864 q hZ e864' hown hml (W 60 rfl) (W 61 rfl) (W 52 rfl) (W 62 rfl) (rm13_7 l Z a0 hw a1 k1 x0 x1 x2 x3 x4 x5 x6 h864 n0 zs865 od865 ⟨SAD, SHI, SLO⟩ ((VA.ext E862).keep K864 (ninS (own_ne (VA).lt (Nat.le_of_eq g862.symm)) nin0))) d10_23 [(.ref a1), v'0, v'7] [] own_pd4 rfl rfl 0 (Nat.le_refl _) (by decide) (fun v866 T866 L866 h866 e866' X866 hQ866 => ?_)
  obtain ⟨b866, k866, rfl, N866q, E866, lo866, V866⟩ := hQ866
  have N866 := Fr.app N864 N866q
  have zs867 := Nat.le_trans zs865 E866.1
  have od867 := od865.ext E866
  have kp867 := kp865.ext E866
  have g_b866 : n0 ≤ b866 := Nat.le_trans zs865 lo866
  have sz_b866 : h0.size ≤ b866 := Nat.le_trans kp865.1 lo866
  refine own_nv (own_as X866 q d10_26 rfl (l' := #[.val (.ref a1), .val v'0, .val v'7, .val (.ref b862), .val v'0, .val (.ref b866)]) rfl (own_al X866 q d10_28 rfl rfl (own_il X866 q d10_30 rfl ?_)))
  refine own_cS X866 q hZ e866' hown hml (W 76 rfl) (W 77 rfl) (W 52 rfl) (W 78 rfl) (rm17 l Z a0 hw b866 (0 : Int32) k866 _ 14 0 x0 h866 n0 zs867 od867 ⟨SAD, SHI, SLO⟩ V866 rfl (by decide) (by decide) rfl rfl) d10_32 [(.ref b866), v'0] [] own_pd5 rfl rfl 0 (Nat.le_refl _) (by decide) (fun v868 T868 L868 X868 hQ868 => ?_)
  obtain ⟨rfl, N868q, e868⟩ := hQ868
  have N868 := Fr.app N866 N868q
  refine own_nv (own_k X868 q d10_35 (own_cy X868 q d10_38 ((tlt ((by rw [own_gcE hd0]; exact hB) : (255 : Int32) < (own_gc x0))).2.2.1) (own_al X868 q d10_54 rfl rfl ?_)))
  refine own_rA X868 q hrt d10_56 hlk (by decide) ?_
  show QC7b Z x0 x1 x2 x3 x4 x5 x6 h0 n0 _ T868.heap _
  rw [e868]
  exact ⟨_, _, rfl, N868, own_extK kp867, sz_b866, Or.inr ⟨(Or.inl hB), V866⟩⟩
 ·subst hz
  show own_Fin _ _ _ _ (T864.setTop (mkF m 12 #[.val (.ref a1), .val v'0, .val v'7, .val (.ref b862), .unset, .unset] [v'1]))
  refine own_is X864 q d10_12 (l' := #[.val (.ref a1), .val v'0, .val v'7, .val (.ref b862), .val v'1, .unset]) rfl (own_il X864 q d10_14 rfl (own_iln X864 q d10_16 rfl (own_cn X864 q d10_17 ((feq ((by decide) : ¬ ((1 : Int32) = (7 : Int32)))).1) (own_aln X864 q d10_20 rfl rfl (own_iln X864 q d10_21 rfl (own_iln X864 q d10_22 rfl ?_))))))
  refine own_cSh X864 q hZ e864' hown hml (W 60 rfl) (W 61 rfl) (W 52 rfl) (W 62 rfl) (rm13_7 l Z a0 hw a1 k1 x0 x1 x2 x3 x4 x5 x6 h864 n0 zs865 od865 ⟨SAD, SHI, SLO⟩ ((VA.ext E862).keep K864 (ninS (own_ne (VA).lt (Nat.le_of_eq g862.symm)) nin0))) d10_23 [(.ref a1), v'0, v'7] [] own_pd4 rfl rfl 0 (Nat.le_refl _) (by decide) (fun v869 T869 L869 h869 e869' X869 hQ869 => ?_)
  obtain ⟨b869, k869, rfl, N869q, E869, lo869, V869⟩ := hQ869
  have N869 := Fr.app N864 N869q
  have zs870 := Nat.le_trans zs865 E869.1
  have od870 := od865.ext E869
  have kp870 := kp865.ext E869
  have g_b869 : n0 ≤ b869 := Nat.le_trans zs865 lo869
  have sz_b869 : h0.size ≤ b869 := Nat.le_trans kp865.1 lo869
  refine own_nv (own_as X869 q d10_26 rfl (l' := #[.val (.ref a1), .val v'0, .val v'7, .val (.ref b862), .val v'1, .val (.ref b869)]) rfl (own_al X869 q d10_28 rfl rfl (own_il X869 q d10_30 rfl ?_)))
  refine own_cS X869 q hZ e869' hown hml (W 76 rfl) (W 77 rfl) (W 52 rfl) (W 78 rfl) (rm17 l Z a0 hw b869 (1 : Int32) k869 _ 14 1 x1 h869 n0 zs870 od870 ⟨SAD, SHI, SLO⟩ V869 rfl (by decide) (by decide) rfl rfl) d10_32 [(.ref b869), v'1] [] own_pd5 rfl rfl 0 (Nat.le_refl _) (by decide) (fun v871 T871 L871 X871 hQ871 => ?_)
  obtain ⟨rfl, N871q, e871⟩ := hQ871
  have N871 := Fr.app N869 N871q
  refine own_nv (own_k X871 q d10_35 (own_cy X871 q d10_38 ((tlt ((by rw [own_gcE hd1]; exact hB) : (255 : Int32) < (own_gc x1))).2.2.1) (own_al X871 q d10_54 rfl rfl ?_)))
  refine own_rA X871 q hrt d10_56 hlk (by decide) ?_
  show QC7b Z x0 x1 x2 x3 x4 x5 x6 h0 n0 _ T871.heap _
  rw [e871]
  exact ⟨_, _, rfl, N871, own_extK kp870, sz_b869, Or.inr ⟨(Or.inr (Or.inl hB)), V869⟩⟩
 ·subst hz
  show own_Fin _ _ _ _ (T864.setTop (mkF m 12 #[.val (.ref a1), .val v'0, .val v'7, .val (.ref b862), .unset, .unset] [v'2]))
  refine own_is X864 q d10_12 (l' := #[.val (.ref a1), .val v'0, .val v'7, .val (.ref b862), .val v'2, .unset]) rfl (own_il X864 q d10_14 rfl (own_iln X864 q d10_16 rfl (own_cn X864 q d10_17 ((feq ((by decide) : ¬ ((2 : Int32) = (7 : Int32)))).1) (own_aln X864 q d10_20 rfl rfl (own_iln X864 q d10_21 rfl (own_iln X864 q d10_22 rfl ?_))))))
  refine own_cSh X864 q hZ e864' hown hml (W 60 rfl) (W 61 rfl) (W 52 rfl) (W 62 rfl) (rm13_7 l Z a0 hw a1 k1 x0 x1 x2 x3 x4 x5 x6 h864 n0 zs865 od865 ⟨SAD, SHI, SLO⟩ ((VA.ext E862).keep K864 (ninS (own_ne (VA).lt (Nat.le_of_eq g862.symm)) nin0))) d10_23 [(.ref a1), v'0, v'7] [] own_pd4 rfl rfl 0 (Nat.le_refl _) (by decide) (fun v872 T872 L872 h872 e872' X872 hQ872 => ?_)
  obtain ⟨b872, k872, rfl, N872q, E872, lo872, V872⟩ := hQ872
  have N872 := Fr.app N864 N872q
  have zs873 := Nat.le_trans zs865 E872.1
  have od873 := od865.ext E872
  have kp873 := kp865.ext E872
  have g_b872 : n0 ≤ b872 := Nat.le_trans zs865 lo872
  have sz_b872 : h0.size ≤ b872 := Nat.le_trans kp865.1 lo872
  refine own_nv (own_as X872 q d10_26 rfl (l' := #[.val (.ref a1), .val v'0, .val v'7, .val (.ref b862), .val v'2, .val (.ref b872)]) rfl (own_al X872 q d10_28 rfl rfl (own_il X872 q d10_30 rfl ?_)))
  refine own_cS X872 q hZ e872' hown hml (W 76 rfl) (W 77 rfl) (W 52 rfl) (W 78 rfl) (rm17 l Z a0 hw b872 (2 : Int32) k872 _ 14 2 x2 h872 n0 zs873 od873 ⟨SAD, SHI, SLO⟩ V872 rfl (by decide) (by decide) rfl rfl) d10_32 [(.ref b872), v'2] [] own_pd5 rfl rfl 0 (Nat.le_refl _) (by decide) (fun v874 T874 L874 X874 hQ874 => ?_)
  obtain ⟨rfl, N874q, e874⟩ := hQ874
  have N874 := Fr.app N872 N874q
  refine own_nv (own_k X874 q d10_35 (own_cy X874 q d10_38 ((tlt ((by rw [own_gcE hd2]; exact hB) : (255 : Int32) < (own_gc x2))).2.2.1) (own_al X874 q d10_54 rfl rfl ?_)))
  refine own_rA X874 q hrt d10_56 hlk (by decide) ?_
  show QC7b Z x0 x1 x2 x3 x4 x5 x6 h0 n0 _ T874.heap _
  rw [e874]
  exact ⟨_, _, rfl, N874, own_extK kp873, sz_b872, Or.inr ⟨(Or.inr (Or.inr (Or.inl hB))), V872⟩⟩
 ·subst hz
  show own_Fin _ _ _ _ (T864.setTop (mkF m 12 #[.val (.ref a1), .val v'0, .val v'7, .val (.ref b862), .unset, .unset] [v'3]))
  refine own_is X864 q d10_12 (l' := #[.val (.ref a1), .val v'0, .val v'7, .val (.ref b862), .val v'3, .unset]) rfl (own_il X864 q d10_14 rfl (own_iln X864 q d10_16 rfl (own_cn X864 q d10_17 ((feq ((by decide) : ¬ ((3 : Int32) = (7 : Int32)))).1) (own_aln X864 q d10_20 rfl rfl (own_iln X864 q d10_21 rfl (own_iln X864 q d10_22 rfl ?_))))))
  refine own_cSh X864 q hZ e864' hown hml (W 60 rfl) (W 61 rfl) (W 52 rfl) (W 62 rfl) (rm13_7 l Z a0 hw a1 k1 x0 x1 x2 x3 x4 x5 x6 h864 n0 zs865 od865 ⟨SAD, SHI, SLO⟩ ((VA.ext E862).keep K864 (ninS (own_ne (VA).lt (Nat.le_of_eq g862.symm)) nin0))) d10_23 [(.ref a1), v'0, v'7] [] own_pd4 rfl rfl 0 (Nat.le_refl _) (by decide) (fun v875 T875 L875 h875 e875' X875 hQ875 => ?_)
  obtain ⟨b875, k875, rfl, N875q, E875, lo875, V875⟩ := hQ875
  have N875 := Fr.app N864 N875q
  have zs876 := Nat.le_trans zs865 E875.1
  have od876 := od865.ext E875
  have kp876 := kp865.ext E875
  have g_b875 : n0 ≤ b875 := Nat.le_trans zs865 lo875
  have sz_b875 : h0.size ≤ b875 := Nat.le_trans kp865.1 lo875
  refine own_nv (own_as X875 q d10_26 rfl (l' := #[.val (.ref a1), .val v'0, .val v'7, .val (.ref b862), .val v'3, .val (.ref b875)]) rfl (own_al X875 q d10_28 rfl rfl (own_il X875 q d10_30 rfl ?_)))
  refine own_cS X875 q hZ e875' hown hml (W 76 rfl) (W 77 rfl) (W 52 rfl) (W 78 rfl) (rm17 l Z a0 hw b875 (3 : Int32) k875 _ 14 3 x3 h875 n0 zs876 od876 ⟨SAD, SHI, SLO⟩ V875 rfl (by decide) (by decide) rfl rfl) d10_32 [(.ref b875), v'3] [] own_pd5 rfl rfl 0 (Nat.le_refl _) (by decide) (fun v877 T877 L877 X877 hQ877 => ?_)
  obtain ⟨rfl, N877q, e877⟩ := hQ877
  have N877 := Fr.app N875 N877q
  refine own_nv (own_k X877 q d10_35 (own_cy X877 q d10_38 ((tlt ((by rw [own_gcE hd3]; exact hB) : (255 : Int32) < (own_gc x3))).2.2.1) (own_al X877 q d10_54 rfl rfl ?_)))
  refine own_rA X877 q hrt d10_56 hlk (by decide) ?_
  show QC7b Z x0 x1 x2 x3 x4 x5 x6 h0 n0 _ T877.heap _
  rw [e877]
  exact ⟨_, _, rfl, N877, own_extK kp876, sz_b875, Or.inr ⟨(Or.inr (Or.inr (Or.inr (Or.inl hB)))), V875⟩⟩
 ·subst hz
  show own_Fin _ _ _ _ (T864.setTop (mkF m 12 #[.val (.ref a1), .val v'0, .val v'7, .val (.ref b862), .unset, .unset] [v'4]))
  refine own_is X864 q d10_12 (l' := #[.val (.ref a1), .val v'0, .val v'7, .val (.ref b862), .val v'4, .unset]) rfl (own_il X864 q d10_14 rfl (own_iln X864 q d10_16 rfl (own_cn X864 q d10_17 ((feq ((by decide) : ¬ ((4 : Int32) = (7 : Int32)))).1) (own_aln X864 q d10_20 rfl rfl (own_iln X864 q d10_21 rfl (own_iln X864 q d10_22 rfl ?_))))))
  refine own_cSh X864 q hZ e864' hown hml (W 60 rfl) (W 61 rfl) (W 52 rfl) (W 62 rfl) (rm13_7 l Z a0 hw a1 k1 x0 x1 x2 x3 x4 x5 x6 h864 n0 zs865 od865 ⟨SAD, SHI, SLO⟩ ((VA.ext E862).keep K864 (ninS (own_ne (VA).lt (Nat.le_of_eq g862.symm)) nin0))) d10_23 [(.ref a1), v'0, v'7] [] own_pd4 rfl rfl 0 (Nat.le_refl _) (by decide) (fun v878 T878 L878 h878 e878' X878 hQ878 => ?_)
  obtain ⟨b878, k878, rfl, N878q, E878, lo878, V878⟩ := hQ878
  have N878 := Fr.app N864 N878q
  have zs879 := Nat.le_trans zs865 E878.1
  have od879 := od865.ext E878
  have kp879 := kp865.ext E878
  have g_b878 : n0 ≤ b878 := Nat.le_trans zs865 lo878
  have sz_b878 : h0.size ≤ b878 := Nat.le_trans kp865.1 lo878
  refine own_nv (own_as X878 q d10_26 rfl (l' := #[.val (.ref a1), .val v'0, .val v'7, .val (.ref b862), .val v'4, .val (.ref b878)]) rfl (own_al X878 q d10_28 rfl rfl (own_il X878 q d10_30 rfl ?_)))
  refine own_cS X878 q hZ e878' hown hml (W 76 rfl) (W 77 rfl) (W 52 rfl) (W 78 rfl) (rm17 l Z a0 hw b878 (4 : Int32) k878 _ 14 4 x4 h878 n0 zs879 od879 ⟨SAD, SHI, SLO⟩ V878 rfl (by decide) (by decide) rfl rfl) d10_32 [(.ref b878), v'4] [] own_pd5 rfl rfl 0 (Nat.le_refl _) (by decide) (fun v880 T880 L880 X880 hQ880 => ?_)
  obtain ⟨rfl, N880q, e880⟩ := hQ880
  have N880 := Fr.app N878 N880q
  refine own_nv (own_k X880 q d10_35 (own_cy X880 q d10_38 ((tlt ((by rw [own_gcE hd4]; exact hB) : (255 : Int32) < (own_gc x4))).2.2.1) (own_al X880 q d10_54 rfl rfl ?_)))
  refine own_rA X880 q hrt d10_56 hlk (by decide) ?_
  show QC7b Z x0 x1 x2 x3 x4 x5 x6 h0 n0 _ T880.heap _
  rw [e880]
  exact ⟨_, _, rfl, N880, own_extK kp879, sz_b878, Or.inr ⟨(Or.inr (Or.inr (Or.inr (Or.inr (Or.inl hB))))), V878⟩⟩
 ·subst hz
  show own_Fin _ _ _ _ (T864.setTop (mkF m 12 #[.val (.ref a1), .val v'0, .val v'7, .val (.ref b862), .unset, .unset] [v'5]))
  refine own_is X864 q d10_12 (l' := #[.val (.ref a1), .val v'0, .val v'7, .val (.ref b862), .val v'5, .unset]) rfl (own_il X864 q d10_14 rfl (own_iln X864 q d10_16 rfl (own_cn X864 q d10_17 ((feq ((by decide) : ¬ ((5 : Int32) = (7 : Int32)))).1) (own_aln X864 q d10_20 rfl rfl (own_iln X864 q d10_21 rfl (own_iln X864 q d10_22 rfl ?_))))))
  refine own_cSh X864 q hZ e864' hown hml (W 60 rfl) (W 61 rfl) (W 52 rfl) (W 62 rfl) (rm13_7 l Z a0 hw a1 k1 x0 x1 x2 x3 x4 x5 x6 h864 n0 zs865 od865 ⟨SAD, SHI, SLO⟩ ((VA.ext E862).keep K864 (ninS (own_ne (VA).lt (Nat.le_of_eq g862.symm)) nin0))) d10_23 [(.ref a1), v'0, v'7] [] own_pd4 rfl rfl 0 (Nat.le_refl _) (by decide) (fun v881 T881 L881 h881 e881' X881 hQ881 => ?_)
  obtain ⟨b881, k881, rfl, N881q, E881, lo881, V881⟩ := hQ881
  have N881 := Fr.app N864 N881q
  have zs882 := Nat.le_trans zs865 E881.1
  have od882 := od865.ext E881
  have kp882 := kp865.ext E881
  have g_b881 : n0 ≤ b881 := Nat.le_trans zs865 lo881
  have sz_b881 : h0.size ≤ b881 := Nat.le_trans kp865.1 lo881
  refine own_nv (own_as X881 q d10_26 rfl (l' := #[.val (.ref a1), .val v'0, .val v'7, .val (.ref b862), .val v'5, .val (.ref b881)]) rfl (own_al X881 q d10_28 rfl rfl (own_il X881 q d10_30 rfl ?_)))
  refine own_cS X881 q hZ e881' hown hml (W 76 rfl) (W 77 rfl) (W 52 rfl) (W 78 rfl) (rm17 l Z a0 hw b881 (5 : Int32) k881 _ 14 5 x5 h881 n0 zs882 od882 ⟨SAD, SHI, SLO⟩ V881 rfl (by decide) (by decide) rfl rfl) d10_32 [(.ref b881), v'5] [] own_pd5 rfl rfl 0 (Nat.le_refl _) (by decide) (fun v883 T883 L883 X883 hQ883 => ?_)
  obtain ⟨rfl, N883q, e883⟩ := hQ883
  have N883 := Fr.app N881 N883q
  refine own_nv (own_k X883 q d10_35 (own_cy X883 q d10_38 ((tlt ((by rw [own_gcE hd5]; exact hB) : (255 : Int32) < (own_gc x5))).2.2.1) (own_al X883 q d10_54 rfl rfl ?_)))
  refine own_rA X883 q hrt d10_56 hlk (by decide) ?_
  show QC7b Z x0 x1 x2 x3 x4 x5 x6 h0 n0 _ T883.heap _
  rw [e883]
  exact ⟨_, _, rfl, N883, own_extK kp882, sz_b881, Or.inr ⟨(Or.inr (Or.inr (Or.inr (Or.inr (Or.inr (Or.inl hB)))))), V881⟩⟩
 ·subst hz
  show own_Fin _ _ _ _ (T864.setTop (mkF m 12 #[.val (.ref a1), .val v'0, .val v'7, .val (.ref b862), .unset, .unset] [v'6]))
  refine own_is X864 q d10_12 (l' := #[.val (.ref a1), .val v'0, .val v'7, .val (.ref b862), .val v'6, .unset]) rfl (own_il X864 q d10_14 rfl (own_iln X864 q d10_16 rfl (own_cn X864 q d10_17 ((feq ((by decide) : ¬ ((6 : Int32) = (7 : Int32)))).1) (own_aln X864 q d10_20 rfl rfl (own_iln X864 q d10_21 rfl (own_iln X864 q d10_22 rfl ?_))))))
  refine own_cSh X864 q hZ e864' hown hml (W 60 rfl) (W 61 rfl) (W 52 rfl) (W 62 rfl) (rm13_7 l Z a0 hw a1 k1 x0 x1 x2 x3 x4 x5 x6 h864 n0 zs865 od865 ⟨SAD, SHI, SLO⟩ ((VA.ext E862).keep K864 (ninS (own_ne (VA).lt (Nat.le_of_eq g862.symm)) nin0))) d10_23 [(.ref a1), v'0, v'7] [] own_pd4 rfl rfl 0 (Nat.le_refl _) (by decide) (fun v884 T884 L884 h884 e884' X884 hQ884 => ?_)
  obtain ⟨b884, k884, rfl, N884q, E884, lo884, V884⟩ := hQ884
  have N884 := Fr.app N864 N884q
  have zs885 := Nat.le_trans zs865 E884.1
  have od885 := od865.ext E884
  have kp885 := kp865.ext E884
  have g_b884 : n0 ≤ b884 := Nat.le_trans zs865 lo884
  have sz_b884 : h0.size ≤ b884 := Nat.le_trans kp865.1 lo884
  refine own_nv (own_as X884 q d10_26 rfl (l' := #[.val (.ref a1), .val v'0, .val v'7, .val (.ref b862), .val v'6, .val (.ref b884)]) rfl (own_al X884 q d10_28 rfl rfl (own_il X884 q d10_30 rfl ?_)))
  refine own_cS X884 q hZ e884' hown hml (W 76 rfl) (W 77 rfl) (W 52 rfl) (W 78 rfl) (rm17 l Z a0 hw b884 (6 : Int32) k884 _ 14 6 x6 h884 n0 zs885 od885 ⟨SAD, SHI, SLO⟩ V884 rfl (by decide) (by decide) rfl rfl) d10_32 [(.ref b884), v'6] [] own_pd5 rfl rfl 0 (Nat.le_refl _) (by decide) (fun v886 T886 L886 X886 hQ886 => ?_)
  obtain ⟨rfl, N886q, e886⟩ := hQ886
  have N886 := Fr.app N884 N886q
  refine own_nv (own_k X886 q d10_35 (own_cy X886 q d10_38 ((tlt ((by rw [own_gcE hd6]; exact hB) : (255 : Int32) < (own_gc x6))).2.2.1) (own_al X886 q d10_54 rfl rfl ?_)))
  refine own_rA X886 q hrt d10_56 hlk (by decide) ?_
  show QC7b Z x0 x1 x2 x3 x4 x5 x6 h0 n0 _ T886.heap _
  rw [e886]
  exact ⟨_, _, rfl, N886, own_extK kp885, sz_b884, Or.inr ⟨(Or.inr (Or.inr (Or.inr (Or.inr (Or.inr (Or.inr hB)))))), V884⟩⟩
theorem rm12_7_7 (l : Launch) (Z : State) (a0 : Array Value) (hw : own_hw a0 Z) (a1 : Addr) (k1 : ClassId) (vs : List Value) (h0 : Heap) (n0 : Nat) (Z0 : n0 ≤ h0.size) (VA : Arv Z h0 a1 k1 .byte (7 : Int32) vs v'0) :
  own_M l Z [] own_y7 b'12 2 (some .byte) ⟨0, 0, 0, 0⟩ #[(.ref a1), v'7] h0 (QI (0 : Int32) h0 n0) := by
 refine own_start (n0 := n0) hw "java/lang/StringUTF16" (L := #[.val (.ref a1), .val v'7]) pn_12 (fun {p e s m below meth c s₁} q hx W hml hZ hown hnm hlk hrt X0 e0 N0 => ?_)
 refine own_iln X0 q d12_0 rfl (own_aln X0 q d12_1 rfl rfl (own_alen (n := (7 : Int32)) X0 q hZ e0 VA d12_2 (own_isubk 0 X0 q d12_3 (by decide) (own_k X0 q d12_4 (own_stp 7 (fun _ k => XS.iushr X0.here hx rfl (q.d d12_6) rfl k) ?_)))))
 rw [show (((0 : Int32).toUInt32 >>> ((31 : Int32) &&& 31).toUInt32).toInt32) = (0 : Int32) from by decide]
 refine own_stp 8 (fun _ k => XS.i2b X0.here hx rfl (q.d d12_7) rfl k) ?_
 rw [show ((0 : Int32).toInt8.toInt32) = (0 : Int32) from by decide]
 refine own_rN X0 q hrt (by simp) d12_8 hlk (by decide) ?_
 show QI (0 : Int32) h0 n0 _ s₁.heap _
 rw [e0]
 exact ⟨rfl, N0, rfl⟩
theorem rm12_7_14 (l : Launch) (Z : State) (a0 : Array Value) (hw : own_hw a0 Z) (a1 : Addr) (k1 : ClassId) (vs : List Value) (h0 : Heap) (n0 : Nat) (Z0 : n0 ≤ h0.size) (VA : Arv Z h0 a1 k1 .byte (14 : Int32) vs v'0) :
  own_M l Z [] own_y7 b'12 2 (some .byte) ⟨0, 0, 0, 0⟩ #[(.ref a1), v'7] h0 (QI (1 : Int32) h0 n0) := by
 refine own_start (n0 := n0) hw "java/lang/StringUTF16" (L := #[.val (.ref a1), .val v'7]) pn_12 (fun {p e s m below meth c s₁} q hx W hml hZ hown hnm hlk hrt X0 e0 N0 => ?_)
 refine own_iln X0 q d12_0 rfl (own_aln X0 q d12_1 rfl rfl (own_alen (n := (14 : Int32)) X0 q hZ e0 VA d12_2 (own_isubk (-7) X0 q d12_3 (by decide) (own_k X0 q d12_4 (own_stp 7 (fun _ k => XS.iushr X0.here hx rfl (q.d d12_6) rfl k) ?_)))))
 rw [show (((-7 : Int32).toUInt32 >>> ((31 : Int32) &&& 31).toUInt32).toInt32) = (1 : Int32) from by decide]
 refine own_stp 8 (fun _ k => XS.i2b X0.here hx rfl (q.d d12_7) rfl k) ?_
 rw [show ((1 : Int32).toInt8.toInt32) = (1 : Int32) from by decide]
 refine own_rN X0 q hrt (by simp) d12_8 hlk (by decide) ?_
 show QI (1 : Int32) h0 n0 _ s₁.heap _
 rw [e0]
 exact ⟨rfl, N0, rfl⟩
theorem rm5_7 (l : Launch) (Z : State) (a0 : Array Value) (hw : own_hw a0 Z) (a1 : Addr) (a2 : Addr) (k1 : ClassId) (x0 x1 x2 x3 x4 x5 x6 : Int32) (cs0 : Int32) (h0 : Heap) (n0 : Nat) (Z0 : n0 ≤ h0.size) (E1 : Exa Z h0 a1 "java/lang/String") (FV : F'1 Z h0 a1 .null) (FC : F'0 Z h0 a1 v'0) (VA : Arv Z h0 a2 k1 .char (7 : Int32) [(.int x0), (.int x1), (.int x2), (.int x3), (.int x4), (.int x5), (.int x6)] v'0) (g1 : n0 ≤ a1) (n12 : a1 ≠ a2) (O0 : Old Z n0 h0) (SC_ : own_SC Z cs0) (SU_ : own_SU Z) (hd0 : own_c16 x0) (hd1 : own_c16 x1) (hd2 : own_c16 x2) (hd3 : own_c16 x3) (hd4 : own_c16 x4) (hd5 : own_c16 x5) (hd6 : own_c16 x6) :
  own_M l Z [] own_y8 b'5 6 none ⟨4, 2, 21, 57⟩ #[(.ref a1), (.ref a2), v'0, v'7, .null] h0 (QI7 Z a1 x0 x1 x2 x3 x4 x5 x6 h0 n0) := by
 obtain ⟨SCS, hcs⟩ := SC_; obtain ⟨SAD, SHI, SLO⟩ := SU_
 refine own_start (n0 := n0) hw "java/lang/String" (L := #[.val (.ref a1), .val (.ref a2), .val v'0, .val v'7, .val .null, .unset]) pn_5 (fun {p e s m below meth c s₁} q hx W hml hZ hown hnm hlk hrt X0 e0 N0 => ?_)
 have hby := q.2
 have kp0 := Keep.refl h0 [a1]
 refine own_aln X0 q d5_0 rfl rfl ?_
 refine own_let ?_; intro g906_
 obtain ⟨T907, X907, e907, st907⟩ := initO X0 hx hZ hown (W 22 rfl) (W 23 rfl) (W 24 rfl) e0 (g := g906_) rfl (by rw [hml]; rfl) rfl (q.d d5_1) (by decide) (W := 0) (by show 2 * 0 + _ ≤ _; exact Nat.le_of_eq rfl) (by decide)
 refine own_stp 4 st907 (own_iln X907 q d5_4 rfl (own_zy X907 q d5_5 (((if0 _ _).trans (feq ((by decide) : ¬ ((7 : Int32) = (0 : Int32)))).2)) ?_))
 refine own_gS X907 q hZ e907 hown (W 44 rfl) (SCS.ext O0.2) d5_27 fun T908 X908 e908 => ?_
 refine own_zn X908 q d5_30 (((if0 _ _).trans (feq hcs).1)) (own_aln X908 q d5_33 rfl rfl (own_iln X908 q d5_34 rfl (own_iln X908 q d5_35 rfl ?_)))
 refine own_cSh X908 q hZ e908 hown hml (W 50 rfl) (W 51 rfl) (W 52 rfl) (W 53 rfl) (rm10_7 l Z a0 hw a2 k1 x0 x1 x2 x3 x4 x5 x6 h0 n0 Z0 O0 ⟨SAD, SHI, SLO⟩ VA hd0 hd1 hd2 hd3 hd4 hd5 hd6) d5_36 [(.ref a2), v'0, v'7] [] own_pd4 rfl rfl 0 (Nat.le_refl _) (by decide) (fun v909 T909 L909 h909 e909' X909 hQ909 => ?_)
 obtain ⟨b909, k909, rfl, N909q, E909, lo909, D909⟩ := hQ909
 have N909 := Fr.app N0 N909q
 have zs910 := Nat.le_trans Z0 E909.1
 have od910 := O0.ext E909
 have kp910 := kp0.ext E909
 have g_b909 : n0 ≤ b909 := Nat.le_trans Z0 lo909
 have sz_b909 : h0.size ≤ b909 := Nat.le_trans kp0.1 lo909
 refine own_nv ?_
 rcases D909 with ⟨hA, hV⟩ | ⟨hA, hV⟩
 ·have hV_ := hV
  show own_Fin _ _ _ _ (T909.setTop (mkF m 39 #[.val (.ref a1), .val (.ref a2), .val v'0, .val v'7, .val .null, .unset] [(.ref b909)]))
  refine own_as X909 q d5_39 rfl (l' := #[.val (.ref a1), .val (.ref a2), .val v'0, .val v'7, .val .null, .val (.ref b909)]) rfl (own_aln X909 q d5_41 rfl rfl (own_al X909 q d5_42 rfl rfl (own_iln X909 q d5_44 rfl ?_)))
  refine own_cS X909 q hZ e909' hown hml (W 57 rfl) (W 58 rfl) (W 52 rfl) (W 59 rfl) (rm12_7_7 l Z a0 hw b909 k909 _ h909 n0 zs910 hV) d5_45 [(.ref b909), v'7] [(.ref a1)] own_pd6 rfl rfl 1 (Nat.le_refl _) (by decide) (fun v911 T911 L911 X911 hQ911 => ?_)
  obtain ⟨rfl, N911q, e911⟩ := hQ911
  have N911 := Fr.app N909 N911q
  refine own_nv ?_
  refine own_let ?_; intro g912_
  obtain ⟨T913, h913, X913, e913, W913, st913⟩ := putFN X911 hx hZ hown (W 32 rfl) Via.refl e911 (FC.ext E909) (E1.ext E909) (Or.inr ⟨(W 28 rfl), rfl, hnm⟩) (W 13 rfl) (ty := .byte) (v' := v'0) (by decide) rfl rfl (g := g912_) rfl rfl (q.d d5_48)
  have zs914 := Nat.le_trans zs910 (Keep.of_wr W913).1
  have od914 := od910.wr W913 g1
  have kp914 := kp910.wr W913 (own_i0)
  have Fw913 := ((FC.ext E909)).same W913
  have N913 := Fr.snoc X913 N911 g1
  refine own_stp 51 st913 (own_aln X913 q d5_51 rfl rfl (own_al X913 q d5_52 rfl rfl ?_))
  refine own_let ?_; intro g915_
  obtain ⟨T916, h916, X916, e916, W916, st916⟩ := putF X913 hx hZ hown (host := "") (Or.inl (W 31 rfl)) Via.refl e913 ((FV.ext E909).other W913 (Or.inr (slot_ne (Or.inr (W 27 rfl)) (Or.inr (W 28 rfl)) (by decide) (t := (.array .byte)) (t' := .byte) (by decide) (by decide)))) ((E1.ext E909).wr W913) (Or.inr ⟨(W 27 rfl), rfl, hnm⟩) (W 13 rfl) (ty := (.array .byte)) (by decide) rfl rfl (g := g915_) rfl rfl (q.d d5_54)
  have zs917 := Nat.le_trans zs914 (Keep.of_wr W916).1
  have od917 := od914.wr W916 g1
  have kp917 := kp914.wr W916 (own_i0)
  have Fw916 := (((FV.ext E909).other W913 (Or.inr (slot_ne (Or.inr (W 27 rfl)) (Or.inr (W 28 rfl)) (by decide) (t := (.array .byte)) (t' := .byte) (by decide) (by decide))))).same W916
  have N916 := Fr.snoc X916 N913 g1
  refine own_stp 57 st916 ?_
  refine own_rV X916 q hrt d5_57 hlk (by decide) ?_
  show QI7 Z a1 x0 x1 x2 x3 x4 x5 x6 h0 n0 _ T916.heap _
  rw [e916]
  exact ⟨_, _, rfl, N916, kp917, sz_b909, Fw916, Or.inl ⟨(Fw913.other W916 (Or.inr (slot_ne (Or.inr (W 28 rfl)) (Or.inr (W 27 rfl)) (by decide) (t := .byte) (t' := (.array .byte)) (by decide) (by decide)))), hA, ((hV.other W913 (Ne.symm (own_ne (E1).lt lo909))).other W916 (Ne.symm (own_ne (E1).lt lo909)))⟩⟩
 ·have hV_ := hV
  show own_Fin _ _ _ _ (T909.setTop (mkF m 39 #[.val (.ref a1), .val (.ref a2), .val v'0, .val v'7, .val .null, .unset] [(.ref b909)]))
  refine own_as X909 q d5_39 rfl (l' := #[.val (.ref a1), .val (.ref a2), .val v'0, .val v'7, .val .null, .val (.ref b909)]) rfl (own_aln X909 q d5_41 rfl rfl (own_al X909 q d5_42 rfl rfl (own_iln X909 q d5_44 rfl ?_)))
  refine own_cS X909 q hZ e909' hown hml (W 57 rfl) (W 58 rfl) (W 52 rfl) (W 59 rfl) (rm12_7_14 l Z a0 hw b909 k909 _ h909 n0 zs910 hV) d5_45 [(.ref b909), v'7] [(.ref a1)] own_pd6 rfl rfl 1 (Nat.le_refl _) (by decide) (fun v918 T918 L918 X918 hQ918 => ?_)
  obtain ⟨rfl, N918q, e918⟩ := hQ918
  have N918 := Fr.app N909 N918q
  refine own_nv ?_
  refine own_let ?_; intro g919_
  obtain ⟨T920, h920, X920, e920, W920, st920⟩ := putFN X918 hx hZ hown (W 32 rfl) Via.refl e918 (FC.ext E909) (E1.ext E909) (Or.inr ⟨(W 28 rfl), rfl, hnm⟩) (W 13 rfl) (ty := .byte) (v' := v'1) (by decide) rfl rfl (g := g919_) rfl rfl (q.d d5_48)
  have zs921 := Nat.le_trans zs910 (Keep.of_wr W920).1
  have od921 := od910.wr W920 g1
  have kp921 := kp910.wr W920 (own_i0)
  have Fw920 := ((FC.ext E909)).same W920
  have N920 := Fr.snoc X920 N918 g1
  refine own_stp 51 st920 (own_aln X920 q d5_51 rfl rfl (own_al X920 q d5_52 rfl rfl ?_))
  refine own_let ?_; intro g922_
  obtain ⟨T923, h923, X923, e923, W923, st923⟩ := putF X920 hx hZ hown (host := "") (Or.inl (W 31 rfl)) Via.refl e920 ((FV.ext E909).other W920 (Or.inr (slot_ne (Or.inr (W 27 rfl)) (Or.inr (W 28 rfl)) (by decide) (t := (.array .byte)) (t' := .byte) (by decide) (by decide)))) ((E1.ext E909).wr W920) (Or.inr ⟨(W 27 rfl), rfl, hnm⟩) (W 13 rfl) (ty := (.array .byte)) (by decide) rfl rfl (g := g922_) rfl rfl (q.d d5_54)
  have zs924 := Nat.le_trans zs921 (Keep.of_wr W923).1
  have od924 := od921.wr W923 g1
  have kp924 := kp921.wr W923 (own_i0)
  have Fw923 := (((FV.ext E909).other W920 (Or.inr (slot_ne (Or.inr (W 27 rfl)) (Or.inr (W 28 rfl)) (by decide) (t := (.array .byte)) (t' := .byte) (by decide) (by decide))))).same W923
  have N923 := Fr.snoc X923 N920 g1
  refine own_stp 57 st923 ?_
  refine own_rV X923 q hrt d5_57 hlk (by decide) ?_
  show QI7 Z a1 x0 x1 x2 x3 x4 x5 x6 h0 n0 _ T923.heap _
  rw [e923]
  exact ⟨_, _, rfl, N923, kp924, sz_b909, Fw923, Or.inr ⟨(Fw920.other W923 (Or.inr (slot_ne (Or.inr (W 28 rfl)) (Or.inr (W 27 rfl)) (by decide) (t := .byte) (t' := (.array .byte)) (by decide) (by decide)))), hA, ((hV.other W920 (Ne.symm (own_ne (E1).lt lo909))).other W923 (Ne.symm (own_ne (E1).lt lo909)))⟩⟩
theorem rm4_7 (l : Launch) (Z : State) (a0 : Array Value) (hw : own_hw a0 Z) (a1 : Addr) (a2 : Addr) (k1 : ClassId) (x0 x1 x2 x3 x4 x5 x6 : Int32) (cs0 : Int32) (h0 : Heap) (n0 : Nat) (Z0 : n0 ≤ h0.size) (E1 : Exa Z h0 a1 "java/lang/String") (FV : F'1 Z h0 a1 .null) (FC : F'0 Z h0 a1 v'0) (VA : Arv Z h0 a2 k1 .char (7 : Int32) [(.int x0), (.int x1), (.int x2), (.int x3), (.int x4), (.int x5), (.int x6)] v'0) (g1 : n0 ≤ a1) (n12 : a1 ≠ a2) (O0 : Old Z n0 h0) (SC_ : own_SC Z cs0) (SU_ : own_SU Z) (hd0 : own_c16 x0) (hd1 : own_c16 x1) (hd2 : own_c16 x2) (hd3 : own_c16 x3) (hd4 : own_c16 x4) (hd5 : own_c16 x5) (hd6 : own_c16 x6) :
  own_M l Z [] own_y9 b'4 2 none ⟨5, 2, 21, 74⟩ #[(.ref a1), (.ref a2)] h0 (QI7 Z a1 x0 x1 x2 x3 x4 x5 x6 h0 n0) := by
 obtain ⟨SCS, hcs⟩ := SC_; obtain ⟨SAD, SHI, SLO⟩ := SU_
 refine own_start (n0 := n0) hw "java/lang/String" (L := #[.val (.ref a1), .val (.ref a2)]) pn_4 (fun {p e s m below meth c s₁} q hx W hml hZ hown hnm hlk hrt X0 e0 N0 => ?_)
 have kp0 := Keep.refl h0 [a1]
 refine own_aln X0 q d4_0 rfl rfl (own_aln X0 q d4_1 rfl rfl (own_k X0 q d4_2 (own_aln X0 q d4_3 rfl rfl (own_alen (n := (7 : Int32)) X0 q hZ e0 VA d4_4 (own_nl X0 q d4_5 ?_)))))
 refine own_cIh (a := a1) X0 q hZ e0 hown hml (W 18 rfl) (W 19 rfl) (W 14 rfl) (W 21 rfl) (rm5_7 l Z a0 hw a1 a2 k1 x0 x1 x2 x3 x4 x5 x6 cs0 h0 n0 Z0 E1 FV FC VA g1 n12 O0 ⟨SCS, hcs⟩ ⟨SAD, SHI, SLO⟩ hd0 hd1 hd2 hd3 hd4 hd5 hd6) d4_6 [(.ref a2), v'0, v'7, .null] [] own_pd7 rfl rfl 0 (Nat.le_refl _) rfl (by decide) (fun v927 T927 L927 h927 e927' X927 hQ927 => ?_)
 obtain ⟨t927, k927, rfl, N927q, K927, lo927, Fv927, D927⟩ := hQ927
 have N927 := Fr.app N0 N927q
 have zs928 := Nat.le_trans Z0 K927.1
 have od928 := O0.keep K927 (allS g1 all0)
 have kp928 := kp0.trans K927 (allS (own_i0) all0)
 have g_t927 : n0 ≤ t927 := Nat.le_trans Z0 lo927
 have sz_t927 : h0.size ≤ t927 := Nat.le_trans kp0.1 lo927
 refine own_nn ?_
 refine own_rV X927 q hrt d4_9 hlk (by decide) ?_
 show QI7 Z a1 x0 x1 x2 x3 x4 x5 x6 h0 n0 _ T927.heap _
 rw [e927']
 exact ⟨_, _, rfl, N927, kp928, sz_t927, Fv927, D927⟩
theorem rm5_0 (l : Launch) (Z : State) (a0 : Array Value) (hw : ∀ d ∈ tables_1, d.before a0 Z = true) (ws : List Jvm.Cond) (a1 : Addr) (a2 : Addr) (k1 : ClassId) (h0 : Heap) (n0 : Nat) (Z0 : n0 ≤ h0.size) (E1 : Exa Z h0 a1 "java/lang/String") (FV : F'1 Z h0 a1 .null) (FC : F'0 Z h0 a1 v'0) (VA : Arv Z h0 a2 k1 .char (0 : Int32) [] v'0) (g1 : n0 ≤ a1) (n12 : a1 ≠ a2) (hEL : EW Z a0 ([("com/example/ballast_ledger/ballastledger/cli/Help", 7), ("com/example/ballast_ledger/ballastledger/cli/Help", 15), ("java/lang/String", 7)] : List (String × Nat))) :
  MetFree l (⟨"java/lang/String", "<init>", "([CIILjava/lang/Void;)V"⟩ : MethodName) (head1 (Jvm.Cond.code (⟨"java/lang/String", "<init>", "([CIILjava/lang/Void;)V"⟩ : MethodName) b'5 6 none :: ws) ({ frames := 1, cells := 2, slots := 4, locals := 12 } : Room)) (fun a U => a = #[(.ref a1), (.ref a2), v'0, v'0, .null] ∧ Z.Warmed39 U.vm ∧ U.heap = h0 ∧ CHv Z ([("com/example/ballast_ledger/ballastledger/cli/Help", 7), ("com/example/ballast_ledger/ballastledger/cli/Help", 15), ("java/lang/String", 7)] : List (String × Nat)) U.vm h0 ∧ ∀ x ∈ ([a1] : List Addr), Safe Z ([("com/example/ballast_ledger/ballastledger/cli/Help", 7), ("com/example/ballast_ledger/ballastledger/cli/Help", 15), ("java/lang/String", 7)] : List (String × Nat)) U.vm h0 x) (fun _ _ _ _ _ => True) (fun _ U o U' => ∃ v L, o = .returned v ∧ QI0 Z a1 h0 n0 v U'.heap L ∧ CHr Z ([("com/example/ballast_ledger/ballastledger/cli/Help", 7), ("com/example/ballast_ledger/ballastledger/cli/Help", 15), ("java/lang/String", 7)] : List (String × Nat)) U.vm U.heap U'.vm U'.heap ∧ ReturnedEndW U o U' L ({ frames := 1, cells := 2, slots := 4, locals := 12 } : Room).cells ({ frames := 1, cells := 2, slots := 4, locals := 12 } : Room).slots) := by
 refine MetFree.of_bodySF pn_5 hisR ?_
 intro p e s m args below meth c s₁ Bd hml0 hP hK
 obtain ⟨rfl, hZ, hh, hCH, hSF⟩ := hP
 have hx := Bd.exec
 have hby := Bd.bytes
 have q : own_q p c b'5 := ⟨hx, hby⟩
 have W := @own_w _ _ hw
 have hml : c.maxLocals = 6 := hml0
 have hown : s.vm.findClass "java/lang/String" = some m.cls := findClass_of_methodNamed Bd.named
 have hnm := (name_of_methodNamed Bd.named Bd.method).1
 have hlk : meth.locks = false := BodyLoose.notSynchronized Bd
 have X0 : Stand p l e ({ frames := 1, cells := 2, slots := 4, locals := 12 } : Room) s m #[(.ref a1), (.ref a2), v'0, v'0, .null] below meth c s₁ [] 0 0 := Stand.of_body Bd
 have e0 : s₁.heap = h0 := by rw [← hh, Bd.state]; rfl
 have N0 := Fr.nil n0
 show own_Fin p e below (own_PH Z ([("com/example/ballast_ledger/ballastledger/cli/Help", 7), ("com/example/ballast_ledger/ballastledger/cli/Help", 15), ("java/lang/String", 7)] : List (String × Nat)) (QI0 Z a1 h0 n0) s ({ frames := 1, cells := 2, slots := 4, locals := 12 } : Room).cells ({ frames := 1, cells := 2, slots := 4, locals := 12 } : Room).slots) (s₁.setTop (entryFrame m #[(.ref a1), (.ref a2), v'0, v'0, .null] 6))
 rw [show entryFrame m #[(.ref a1), (.ref a2), v'0, v'0, .null] 6 = mkF m 0 #[.val (.ref a1), .val (.ref a2), .val v'0, .val v'0, .val .null, .unset] [] from by first | (simp [entryFrame, mkF, argsToLocals, Value.category]; done) | rfl]
 have X0 : Stand p l e ({ frames := 1, cells := 2, slots := 4, locals := 12 } : Room) (s.setVm s.vm) m #[(.ref a1), (.ref a2), v'0, v'0, .null] below meth c s₁ [] 0 0 := X0
 have hZ : Z.Warmed39 (s.setVm s.vm).vm := hZ
 have hown : (s.setVm s.vm).vm.findClass "java/lang/String" = some m.cls := hown
 have hS0 : s.Since s.vm 0 := (State.WarmedH.refl s).since 0
 have hk0 : 0 ≤ h0.size := Nat.zero_le _
 have hCH : CHv Z ([("com/example/ballast_ledger/ballastledger/cli/Help", 7), ("com/example/ballast_ledger/ballastledger/cli/Help", 15), ("java/lang/String", 7)] : List (String × Nat)) s.vm h0 := hCH
 have hCR := CHr.refl hCH
 have sf_a1 : Safe Z ([("com/example/ballast_ledger/ballastledger/cli/Help", 7), ("com/example/ballast_ledger/ballastledger/cli/Help", 15), ("java/lang/String", 7)] : List (String × Nat)) s.vm h0 a1 := hSF _ (List.mem_of_getElem? (i := 0) rfl)
 have hstr : ∀ a ∈ Bundle.stringAtoms, a.before a0 Z = true := fun d hd => hw d ((by decide +kernel : ∀ d ∈ Bundle.stringAtoms, d ∈ tables_1) d hd)
 have kp0 := Keep.refl h0 [a1]
 refine own_aln X0 q d5_0 rfl rfl ?_
 refine own_let ?_; intro g942_
 obtain ⟨T943, X943, e943, st943⟩ := initO X0 hx hZ hown (W 22 rfl) (W 23 rfl) (W 24 rfl) e0 (g := g942_) rfl (by rw [hml]; rfl) rfl (q.d d5_1) (by decide) (W := 0) (by show 2 * 0 + _ ≤ _; exact Nat.le_of_eq rfl) (by decide)
 refine own_stp 4 st943 (own_iln X943 q d5_4 rfl (own_zn X943 q d5_5 (((if0 _ _).trans (teq (rfl : (0 : Int32) = (0 : Int32))).2)) (own_aln X943 q d5_8 rfl rfl ?_)))
 refine own_let ?_; intro g944_
 obtain ⟨a945, T945, h945, kk945, b945, k945, X945, e945, E945, hS945, hk945, hZ, hown, Ex945, Fc945, Fv945, V945, lt945, lb945, cH945, Lt945, sn945, st945⟩ := ldcCH X943 hx hZ hown (W 25 rfl) hstr e943 hS0 hk0 hEL (by simp) hCH (vs := []) (z := (0 : Int32)) ⟨by decide, by decide⟩ (by decide) rfl (g := g944_) rfl (q.d d5_9) (n := 0) (by decide) (by decide) (by decide) (by decide)
 have zs946 := Nat.le_trans Z0 E945.1
 have hk946 := Nat.le_trans hk0 E945.1
 have kp946 := kp0.ext E945
 have cr945 := CHr.trans hCR cH945
 have sf945_a1 := cH945.safe (E1).lt sf_a1
 refine own_stq 11 [(.ref a945), (.ref a1)] st945 ?_
 refine own_gF X945 q hZ e945 hown (W 31 rfl) Fv945 d5_11 fun T947 X947 e947 => ?_
 refine own_let ?_; intro g948_
 obtain ⟨T949, h949, X949, e949, W949, st949⟩ := putF X947 hx hZ hown (host := "") (Or.inl (W 31 rfl)) Via.refl e947 (FV.ext E945) (E1.ext E945) (Or.inr ⟨(W 27 rfl), rfl, hnm⟩) (W 13 rfl) (ty := (.array .byte)) (by decide) rfl rfl (g := g948_) rfl rfl (q.d d5_14)
 have ch950 := CHr.wr W949 sf945_a1 cH945.1
 have cr950 := CHr.trans cr945 ch950
 have sf950_a1 := Safe.wr W949 sf945_a1 cH945.1 sf945_a1
 have zs950 := Nat.le_trans zs946 (Keep.of_wr W949).1
 have hk950 := Nat.le_trans hk945 (Keep.of_wr W949).1
 have kp950 := kp946.wr W949 (own_i0)
 have Fw949 := ((FV.ext E945)).same W949
 have N949 := Fr.snoc X949 N0 g1
 refine own_stp 17 st949 (own_aln X949 q d5_17 rfl rfl (own_stp 20 (fun _ k => ldcAgain X949 hx hZ hown (W 25 rfl) Lt945 (g := (mkF m 18 #[.val (.ref a1), .val (.ref a2), .val v'0, .val v'0, .val .null, .unset] [(.ref a1)])) rfl (q.d d5_18) _ k) ?_))
 refine own_gF X949 q hZ e949 hown (W 32 rfl) (Fc945.other W949 (Or.inl (Ne.symm (sn945 _ sf945_a1).1))) d5_20 fun T951 X951 e951 => ?_
 refine own_let ?_; intro g952_
 obtain ⟨T953, h953, X953, e953, W953, st953⟩ := putFN X951 hx hZ hown (W 32 rfl) Via.refl e951 ((FC.ext E945).other W949 (Or.inr (slot_ne (Or.inr (W 28 rfl)) (Or.inr (W 27 rfl)) (by decide) (t := .byte) (t' := (.array .byte)) (by decide) (by decide)))) ((E1.ext E945).wr W949) (Or.inr ⟨(W 28 rfl), rfl, hnm⟩) (W 13 rfl) (ty := .byte) (v' := v'0) (by decide) rfl rfl (g := g952_) rfl rfl (q.d d5_23)
 have ch954 := CHr.wr W953 sf950_a1 ch950.1
 have cr954 := CHr.trans cr950 ch954
 have sf954_a1 := Safe.wr W953 sf950_a1 ch950.1 sf950_a1
 have zs954 := Nat.le_trans zs950 (Keep.of_wr W953).1
 have hk954 := Nat.le_trans hk950 (Keep.of_wr W953).1
 have kp954 := kp950.wr W953 (own_i0)
 have Fw953 := (((FC.ext E945).other W949 (Or.inr (slot_ne (Or.inr (W 28 rfl)) (Or.inr (W 27 rfl)) (by decide) (t := .byte) (t' := (.array .byte)) (by decide) (by decide))))).same W953
 have N953 := Fr.snoc X953 N949 g1
 refine own_stp 26 st953 ?_
 have hRR : CHr Z ([("com/example/ballast_ledger/ballastledger/cli/Help", 7), ("com/example/ballast_ledger/ballastledger/cli/Help", 15), ("java/lang/String", 7)] : List (String × Nat)) s.vm s.heap T953.vm T953.heap := by rw [hh, e953]; exact CHr.trans cr954 (CHv.at X953 hZ hEL ch954.1)
 refine own_retVH X953 hS945 (by rw [e953]; exact hk954) hRR hx Bd.returns (q.d d5_26) hlk ?_ (by decide) (by decide)
 show QI0 Z a1 h0 n0 _ T953.heap _
 rw [e953]
 exact ⟨_, _, rfl, N953, kp954, (Fw949.other W953 (Or.inr (slot_ne (Or.inr (W 27 rfl)) (Or.inr (W 28 rfl)) (by decide) (t := (.array .byte)) (t' := .byte) (by decide) (by decide)))), Fw953, ((V945.other W949 (Ne.symm (sn945 _ sf945_a1).2)).other W953 (Ne.symm (sn945 _ sf945_a1).2))⟩
theorem rm4_0 (l : Launch) (Z : State) (a0 : Array Value) (hw : ∀ d ∈ tables_1, d.before a0 Z = true) (ws : List Jvm.Cond) (a1 : Addr) (a2 : Addr) (k1 : ClassId) (h0 : Heap) (n0 : Nat) (Z0 : n0 ≤ h0.size) (E1 : Exa Z h0 a1 "java/lang/String") (FV : F'1 Z h0 a1 .null) (FC : F'0 Z h0 a1 v'0) (VA : Arv Z h0 a2 k1 .char (0 : Int32) [] v'0) (g1 : n0 ≤ a1) (n12 : a1 ≠ a2) (hEL : EW Z a0 ([("com/example/ballast_ledger/ballastledger/cli/Help", 7), ("com/example/ballast_ledger/ballastledger/cli/Help", 15), ("java/lang/String", 7)] : List (String × Nat))) :
  MetFree l (⟨"java/lang/String", "<init>", "([C)V"⟩ : MethodName) (head1 (Jvm.Cond.code (⟨"java/lang/String", "<init>", "([C)V"⟩ : MethodName) b'4 2 none :: ws) ({ frames := 2, cells := 2, slots := 4, locals := 29 } : Room)) (fun a U => a = #[(.ref a1), (.ref a2)] ∧ Z.Warmed39 U.vm ∧ U.heap = h0 ∧ CHv Z ([("com/example/ballast_ledger/ballastledger/cli/Help", 7), ("com/example/ballast_ledger/ballastledger/cli/Help", 15), ("java/lang/String", 7)] : List (String × Nat)) U.vm h0 ∧ ∀ x ∈ ([a1] : List Addr), Safe Z ([("com/example/ballast_ledger/ballastledger/cli/Help", 7), ("com/example/ballast_ledger/ballastledger/cli/Help", 15), ("java/lang/String", 7)] : List (String × Nat)) U.vm h0 x) (fun _ _ _ _ _ => True) (fun _ U o U' => ∃ v L, o = .returned v ∧ QI0 Z a1 h0 n0 v U'.heap L ∧ CHr Z ([("com/example/ballast_ledger/ballastledger/cli/Help", 7), ("com/example/ballast_ledger/ballastledger/cli/Help", 15), ("java/lang/String", 7)] : List (String × Nat)) U.vm U.heap U'.vm U'.heap ∧ ReturnedEndW U o U' L ({ frames := 2, cells := 2, slots := 4, locals := 29 } : Room).cells ({ frames := 2, cells := 2, slots := 4, locals := 29 } : Room).slots) := by
 refine MetFree.of_bodySF pn_4 hisR ?_
 intro p e s m args below meth c s₁ Bd hml0 hP hK
 obtain ⟨rfl, hZ, hh, hCH, hSF⟩ := hP
 have hx := Bd.exec
 have hby := Bd.bytes
 have q : own_q p c b'4 := ⟨hx, hby⟩
 have W := @own_w _ _ hw
 have hml : c.maxLocals = 2 := hml0
 have hown : s.vm.findClass "java/lang/String" = some m.cls := findClass_of_methodNamed Bd.named
 have hnm := (name_of_methodNamed Bd.named Bd.method).1
 have hlk : meth.locks = false := BodyLoose.notSynchronized Bd
 have X0 : Stand p l e ({ frames := 2, cells := 2, slots := 4, locals := 29 } : Room) s m #[(.ref a1), (.ref a2)] below meth c s₁ [] 0 0 := Stand.of_body Bd
 have e0 : s₁.heap = h0 := by rw [← hh, Bd.state]; rfl
 have N0 := Fr.nil n0
 show own_Fin p e below (own_PH Z ([("com/example/ballast_ledger/ballastledger/cli/Help", 7), ("com/example/ballast_ledger/ballastledger/cli/Help", 15), ("java/lang/String", 7)] : List (String × Nat)) (QI0 Z a1 h0 n0) s ({ frames := 2, cells := 2, slots := 4, locals := 29 } : Room).cells ({ frames := 2, cells := 2, slots := 4, locals := 29 } : Room).slots) (s₁.setTop (entryFrame m #[(.ref a1), (.ref a2)] 2))
 rw [show entryFrame m #[(.ref a1), (.ref a2)] 2 = mkF m 0 #[.val (.ref a1), .val (.ref a2)] [] from by first | (simp [entryFrame, mkF, argsToLocals, Value.category]; done) | rfl]
 have X0 : Stand p l e ({ frames := 2, cells := 2, slots := 4, locals := 29 } : Room) (s.setVm s.vm) m #[(.ref a1), (.ref a2)] below meth c s₁ [] 0 0 := X0
 have hZ : Z.Warmed39 (s.setVm s.vm).vm := hZ
 have hown : (s.setVm s.vm).vm.findClass "java/lang/String" = some m.cls := hown
 have hS0 : s.Since s.vm 0 := (State.WarmedH.refl s).since 0
 have hk0 : 0 ≤ h0.size := Nat.zero_le _
 have hCH : CHv Z ([("com/example/ballast_ledger/ballastledger/cli/Help", 7), ("com/example/ballast_ledger/ballastledger/cli/Help", 15), ("java/lang/String", 7)] : List (String × Nat)) s.vm h0 := hCH
 have hCR := CHr.refl hCH
 have sf_a1 : Safe Z ([("com/example/ballast_ledger/ballastledger/cli/Help", 7), ("com/example/ballast_ledger/ballastledger/cli/Help", 15), ("java/lang/String", 7)] : List (String × Nat)) s.vm h0 a1 := hSF _ (List.mem_of_getElem? (i := 0) rfl)
 have hstr : ∀ a ∈ Bundle.stringAtoms, a.before a0 Z = true := fun d hd => hw d ((by decide +kernel : ∀ d ∈ Bundle.stringAtoms, d ∈ tables_1) d hd)
 have kp0 := Keep.refl h0 [a1]
 refine own_aln X0 q d4_0 rfl rfl (own_aln X0 q d4_1 rfl rfl (own_k X0 q d4_2 (own_aln X0 q d4_3 rfl rfl (own_alen (n := (0 : Int32)) X0 q hZ e0 VA d4_4 (own_nl X0 q d4_5 ?_)))))
 refine own_let ?_; intro g959_
 obtain ⟨_, _, ⟨T958, L958, k958, n958⟩, -, X958, hS958, hG958, ⟨Lc958, hQ958, l958, y958, z958, cH958⟩, st958⟩ := X0.specialBackS hx (y := own_y8) rfl hown (mvT hZ (W 18 rfl)) (mvT hZ (W 19 rfl)) (mvT hZ (W 21 rfl)) (by decide) (own_backHS (W := 0) (rm5_0 l Z a0 hw [] a1 a2 k1 h0 n0 Z0 E1 FV FC VA g1 n12 hEL) hZ (W 21 rfl) (W 14 rfl) (by decide) (by decide) hEL hCH (ss := [a1]) (allS ⟨(E1).lt, sf_a1⟩ all0)) (g := g959_) rfl (by rw [hml]; rfl) (Steps.refl _) (a := a1) (argsL := [(.ref a2), v'0, v'0, .null]) (rest := []) (lenOf own_pd7 rfl) rfl (by show 2 * 0 + _ ≤ _; exact Nat.le_of_eq rfl) (q.d d4_6) (fun _ _ => ⟨rfl, e0, (by decide : 0 + 2 ≤ _), (by decide : 0 + 4 ≤ _)⟩)
 dsimp only [Pt.U, Pt.locs, Pt.cells, Pt.slots] at X958 l958 y958 z958 st958 hQ958
 rw [l958, y958, z958] at X958
 clear l958 y958 z958
 have X958 : Stand p l e _ (s.setVm T958.vm) m _ below meth c T958 _ _ _ := X958
 have hZ958 : Z.Warmed39 (s.setVm T958.vm).vm := State.Warmed39.trans hZ hS958.1
 have hown : (s.setVm T958.vm).vm.findClass "java/lang/String" = some m.cls := by show T958.vm.findClass _ = _; rw [hS958.1.alike.findClass]; exact hown
 have hZ := hZ958
 have hS958 := State.Since.trans hS0 hS958 (Nat.le_trans hk0 (by rw [← e0]; exact hG958))
 obtain ⟨t958, k958, rfl, N958q, K958, Fv958, Fc958, V958⟩ := hQ958
 have N958 := Fr.app N0 N958q
 obtain ⟨h958, e958⟩ : ∃ z, z = T958.heap := ⟨_, rfl⟩
 have e958' := e958.symm
 rw [← e958] at K958 Fv958 Fc958 V958
 rw [e958'] at hS958
 have hkc958 : h958.size ≤ h958.size := Nat.le_refl _
 have zs960 := Nat.le_trans Z0 K958.1
 have hk960 := Nat.le_trans hk0 K958.1
 have kp960 := kp0.trans K958 (allS (own_i0) all0)
 rw [e958'] at cH958
 have cr958 := CHr.trans hCR cH958
 have sf958_a1 := cH958.safe (E1).lt sf_a1
 refine own_stp 9 (fun _ k => st958.trans k) (own_nn ?_)
 have hRR : CHr Z ([("com/example/ballast_ledger/ballastledger/cli/Help", 7), ("com/example/ballast_ledger/ballastledger/cli/Help", 15), ("java/lang/String", 7)] : List (String × Nat)) s.vm s.heap T958.vm T958.heap := by rw [hh, e958']; exact CHr.trans cr958 (CHv.at X958 hZ hEL cH958.1)
 refine own_retVH X958 hS958 (by rw [e958']; exact hkc958) hRR hx Bd.returns (q.d d4_9) hlk ?_ (by decide) (by decide)
 show QI0 Z a1 h0 n0 _ T958.heap _
 rw [e958']
 exact ⟨_, _, rfl, N958, kp960, Fv958, Fc958, V958⟩
theorem d2_0 : own_D b'2 0 (.iload_n 0) 1 1 := by decide +kernel
theorem d2_1 : own_DK b'2 1 2 2 := by decide +kernel
theorem d2_2 : own_DJ b'2 2 .ne 17 5 := by decide +kernel
theorem d2_5 : own_D b'2 5 (.iload_n 1) 1 6 := by decide +kernel
theorem d2_6 : own_DZ b'2 6 .ne 14 9 := by decide +kernel
theorem d2_9 : own_DK b'2 9 45 11 := by decide +kernel
theorem d2_11 : own_DG b'2 11 16 := by decide +kernel
theorem d2_14 : own_DK b'2 14 104 16 := by decide +kernel
theorem d2_16 : own_D b'2 16 .ireturn 1 17 := by decide +kernel
theorem d2_17 : own_D b'2 17 (.iload_n 1) 1 18 := by decide +kernel
theorem d2_18 : own_DZ b'2 18 .eq 26 21 := by decide +kernel
theorem d2_21 : own_D b'2 21 (.iload_n 1) 1 22 := by decide +kernel
theorem d2_22 : own_DK b'2 22 1 23 := by decide +kernel
theorem d2_23 : own_DJ b'2 23 .ne 29 26 := by decide +kernel
theorem d2_26 : own_DK b'2 26 45 28 := by decide +kernel
theorem d2_28 : own_D b'2 28 .ireturn 1 29 := by decide +kernel
theorem d2_29 : own_D b'2 29 (.iload_n 1) 1 30 := by decide +kernel
theorem d2_30 : own_DK b'2 30 2 31 := by decide +kernel
theorem d2_31 : own_DJ b'2 31 .ne 37 34 := by decide +kernel
theorem d2_34 : own_DK b'2 34 104 36 := by decide +kernel
theorem d2_36 : own_D b'2 36 .ireturn 1 37 := by decide +kernel
theorem d2_37 : own_D b'2 37 (.iload_n 1) 1 38 := by decide +kernel
theorem d2_38 : own_DK b'2 38 3 39 := by decide +kernel
theorem d2_39 : own_DJ b'2 39 .ne 45 42 := by decide +kernel
theorem d2_42 : own_DK b'2 42 101 44 := by decide +kernel
theorem d2_44 : own_D b'2 44 .ireturn 1 45 := by decide +kernel
theorem d2_45 : own_D b'2 45 (.iload_n 1) 1 46 := by decide +kernel
theorem d2_46 : own_DK b'2 46 4 47 := by decide +kernel
theorem d2_47 : own_DJ b'2 47 .ne 53 50 := by decide +kernel
theorem d2_50 : own_DK b'2 50 108 52 := by decide +kernel
theorem d2_52 : own_D b'2 52 .ireturn 1 53 := by decide +kernel
theorem d2_53 : own_D b'2 53 (.iload_n 1) 1 54 := by decide +kernel
theorem d2_54 : own_DK b'2 54 5 55 := by decide +kernel
theorem d2_55 : own_DJ b'2 55 .ne 61 58 := by decide +kernel
theorem d2_58 : own_DK b'2 58 112 60 := by decide +kernel
theorem d2_60 : own_D b'2 60 .ireturn 1 61 := by decide +kernel
theorem d2_61 : own_DK b'2 61 120 63 := by decide +kernel
theorem d2_63 : own_D b'2 63 .ireturn 1 64 := by decide +kernel
theorem pn_2 : plainFor (⟨"com/example/ballast_ledger/ballastledger/cli/HelpIsAskedPinLaw", "template", "(II)C"⟩ : MethodName) = true := plainFor_of_name (by first | (simp [plainName, overriddenIn]; done) | decide +kernel)
theorem rm2 (l : Launch) (Z : State) (a0 : Array Value) (hw : own_hw a0 Z) (p1 : Int32) (p2 : Int32)  (h0 : Heap) (n0 : Nat) (Z0 : n0 ≤ h0.size) :
  own_M l Z [] own_y10 b'2 2 (some .char) ⟨0, 0, 0, 0⟩ #[(.int p1), (.int p2)] h0 (QCH h0 n0) := by
 refine own_start (n0 := n0) hw "com/example/ballast_ledger/ballastledger/cli/HelpIsAskedPinLaw" (L := #[.val (.int p1), .val (.int p2)]) pn_2 (fun {p e s m below meth c s₁} q hx W hml hZ hown hnm hlk hrt X0 e0 N0 => ?_)
 refine own_iln X0 q d2_0 rfl (own_k X0 q d2_1 ?_)
 by_cases hc2_969 : p1 = (2 : Int32)
 ·refine own_cn X0 q d2_2 ((teq hc2_969).2) (own_iln X0 q d2_5 rfl ?_)
  by_cases hc6_970 : p2 = (0 : Int32)
  ·refine own_zn X0 q d2_6 (((if0 _ _).trans (teq hc6_970).2)) (own_k X0 q d2_9 (own_gt X0 q d2_11 ?_))
   refine own_rN X0 q hrt (by simp) d2_16 hlk (by decide) ?_
   show QCH h0 n0 _ s₁.heap _
   rw [e0]
   exact ⟨_, rfl, N0, rfl, own_nc16 _⟩
  ·refine own_zy X0 q d2_6 (((if0 _ _).trans (feq hc6_970).2)) (own_k X0 q d2_14 ?_)
   refine own_rN X0 q hrt (by simp) d2_16 hlk (by decide) ?_
   show QCH h0 n0 _ s₁.heap _
   rw [e0]
   exact ⟨_, rfl, N0, rfl, own_nc16 _⟩
 ·refine own_cy X0 q d2_2 ((feq hc2_969).2) (own_iln X0 q d2_17 rfl ?_)
  by_cases hc18_971 : p2 = (0 : Int32)
  ·refine own_zy X0 q d2_18 (((if0 _ _).trans (teq hc18_971).1)) (own_k X0 q d2_26 ?_)
   refine own_rN X0 q hrt (by simp) d2_28 hlk (by decide) ?_
   show QCH h0 n0 _ s₁.heap _
   rw [e0]
   exact ⟨_, rfl, N0, rfl, own_nc16 _⟩
  ·refine own_zn X0 q d2_18 (((if0 _ _).trans (feq hc18_971).1)) (own_iln X0 q d2_21 rfl (own_k X0 q d2_22 ?_))
   by_cases hc23_972 : p2 = (1 : Int32)
   ·refine own_cn X0 q d2_23 ((teq hc23_972).2) (own_k X0 q d2_26 ?_)
    refine own_rN X0 q hrt (by simp) d2_28 hlk (by decide) ?_
    show QCH h0 n0 _ s₁.heap _
    rw [e0]
    exact ⟨_, rfl, N0, rfl, own_nc16 _⟩
   ·refine own_cy X0 q d2_23 ((feq hc23_972).2) (own_iln X0 q d2_29 rfl (own_k X0 q d2_30 ?_))
    by_cases hc31_973 : p2 = (2 : Int32)
    ·refine own_cn X0 q d2_31 ((teq hc31_973).2) (own_k X0 q d2_34 ?_)
     refine own_rN X0 q hrt (by simp) d2_36 hlk (by decide) ?_
     show QCH h0 n0 _ s₁.heap _
     rw [e0]
     exact ⟨_, rfl, N0, rfl, own_nc16 _⟩
    ·refine own_cy X0 q d2_31 ((feq hc31_973).2) (own_iln X0 q d2_37 rfl (own_k X0 q d2_38 ?_))
     by_cases hc39_974 : p2 = (3 : Int32)
     ·refine own_cn X0 q d2_39 ((teq hc39_974).2) (own_k X0 q d2_42 ?_)
      refine own_rN X0 q hrt (by simp) d2_44 hlk (by decide) ?_
      show QCH h0 n0 _ s₁.heap _
      rw [e0]
      exact ⟨_, rfl, N0, rfl, own_nc16 _⟩
     ·refine own_cy X0 q d2_39 ((feq hc39_974).2) (own_iln X0 q d2_45 rfl (own_k X0 q d2_46 ?_))
      by_cases hc47_975 : p2 = (4 : Int32)
      ·refine own_cn X0 q d2_47 ((teq hc47_975).2) (own_k X0 q d2_50 ?_)
       refine own_rN X0 q hrt (by simp) d2_52 hlk (by decide) ?_
       show QCH h0 n0 _ s₁.heap _
       rw [e0]
       exact ⟨_, rfl, N0, rfl, own_nc16 _⟩
      ·refine own_cy X0 q d2_47 ((feq hc47_975).2) (own_iln X0 q d2_53 rfl (own_k X0 q d2_54 ?_))
       by_cases hc55_976 : p2 = (5 : Int32)
       ·refine own_cn X0 q d2_55 ((teq hc55_976).2) (own_k X0 q d2_58 ?_)
        refine own_rN X0 q hrt (by simp) d2_60 hlk (by decide) ?_
        show QCH h0 n0 _ s₁.heap _
        rw [e0]
        exact ⟨_, rfl, N0, rfl, own_nc16 _⟩
       ·refine own_cy X0 q d2_55 ((feq hc55_976).2) (own_k X0 q d2_61 ?_)
        refine own_rN X0 q hrt (by simp) d2_63 hlk (by decide) ?_
        show QCH h0 n0 _ s₁.heap _
        rw [e0]
        exact ⟨_, rfl, N0, rfl, own_nc16 _⟩
theorem d3_0 : own_D b'3 0 (.iload 4) 2 2 := by decide +kernel
theorem d3_2 : own_DK b'3 2 4 3 := by decide +kernel
theorem d3_3 : own_DJ b'3 3 .ge 10 6 := by decide +kernel
theorem d3_6 : own_D b'3 6 (.lload_n 0) 1 7 := by decide +kernel
theorem d3_7 : own_DG b'3 7 11 := by decide +kernel
theorem d3_10 : own_D b'3 10 (.lload_n 2) 1 11 := by decide +kernel
theorem d3_11 : own_D b'3 11 (.lstore 5) 2 13 := by decide +kernel
theorem d3_13 : own_D b'3 13 (.iload 4) 2 15 := by decide +kernel
theorem d3_15 : own_DK b'3 15 3 16 := by decide +kernel
theorem d3_16 : own_D b'3 16 .iand 1 17 := by decide +kernel
theorem d3_17 : own_DK b'3 17 16 19 := by decide +kernel
theorem d3_19 : own_D b'3 19 .imul 1 20 := by decide +kernel
theorem d3_20 : own_D b'3 20 (.istore 7) 2 22 := by decide +kernel
theorem d3_22 : own_D b'3 22 (.lload 5) 2 24 := by decide +kernel
theorem d3_24 : own_D b'3 24 (.iload 7) 2 26 := by decide +kernel
theorem d3_26 : own_D b'3 26 .lushr 1 27 := by decide +kernel
theorem d3_27 : own_D b'3 27 (.ldc2_w 7) 3 30 := by decide +kernel
theorem d3_30 : own_D b'3 30 .land 1 31 := by decide +kernel
theorem d3_31 : own_D b'3 31 .l2i 1 32 := by decide +kernel
theorem d3_32 : own_D b'3 32 .i2c 1 33 := by decide +kernel
theorem d3_33 : own_D b'3 33 .ireturn 1 34 := by decide +kernel
theorem pn_3 : plainFor (⟨"com/example/ballast_ledger/ballastledger/cli/HelpIsAskedPinLaw", "drawn", "(JJI)C"⟩ : MethodName) = true := plainFor_of_name (by first | (simp [plainName, overriddenIn]; done) | decide +kernel)
theorem rm3 (l : Launch) (Z : State) (a0 : Array Value) (hw : own_hw a0 Z) (p1 : Int64) (p2 : Int64) (p3 : Int32)  (h0 : Heap) (n0 : Nat) (Z0 : n0 ≤ h0.size) :
  own_M l Z [] own_y11 b'3 8 (some .char) ⟨0, 0, 0, 0⟩ #[(.long p1), (.long p2), (.int p3)] h0 (QCH h0 n0) := by
 refine own_start (n0 := n0) hw "com/example/ballast_ledger/ballastledger/cli/HelpIsAskedPinLaw" (L := #[.val (.long p1), .second, .val (.long p2), .second, .val (.int p3), .unset, .unset, .unset]) pn_3 (fun {p e s m below meth c s₁} q hx W hml hZ hown hnm hlk hrt X0 e0 N0 => ?_)
 refine own_il X0 q d3_0 rfl (own_k X0 q d3_2 ?_)
 by_cases hc3_978 : p3 < (4 : Int32)
 ·refine own_cn X0 q d3_3 ((tlt hc3_978).2.1) (own_lln X0 q d3_6 rfl (own_gt X0 q d3_7 (own_ls X0 q d3_11 (l' := #[.val (.long p1), .second, .val (.long p2), .second, .val (.int p3), .val (.long p1), .second, .unset]) rfl (own_il X0 q d3_13 rfl (own_k X0 q d3_15 (own_stp 17 (fun _ k => XS.iand X0.here hx rfl (q.d d3_16) rfl k) (own_k X0 q d3_17 (own_stp 20 (fun _ k => XS.imul X0.here hx rfl (q.d d3_19) rfl k) (own_is X0 q d3_20 (l' := #[.val (.long p1), .second, .val (.long p2), .second, .val (.int p3), .val (.long p1), .second, .val (.int ((p3 &&& (3 : Int32)) * (16 : Int32)))]) rfl (own_ll X0 q d3_22 rfl (own_il X0 q d3_24 rfl ?_)))))))))))
  refine own_stp 27 (fun _ k => XS.lushr X0.here hx rfl (q.d d3_26) rfl k) (own_stq 30 [(.long (65535 : Int64)), (.long ((p1.toUInt64 >>> (((p3 &&& (3 : Int32)) * (16 : Int32)) &&& 0x3f).toInt64.toUInt64).toInt64))] (fun _ k => X0.ldc2Long hx hown (mvT hZ (W 10 rfl)) (g := mkF m 27 _ _) rfl (q.d d3_27) _ k) (own_stp 31 (fun _ k => XS.land X0.here hx rfl (q.d d3_30) rfl k) (own_stp 32 (fun _ k => XS.l2i X0.here hx rfl (q.d d3_31) rfl k) (own_stp 33 (fun _ k => XS.i2c X0.here hx rfl (q.d d3_32) rfl k) ?_))))
  refine own_rN X0 q hrt (by simp) d3_33 hlk (by decide) ?_
  show QCH h0 n0 _ s₁.heap _
  rw [e0]
  exact ⟨_, rfl, N0, rfl, own_nc16 _⟩
 ·refine own_cy X0 q d3_3 ((flt hc3_978).2.1) (own_lln X0 q d3_10 rfl (own_ls X0 q d3_11 (l' := #[.val (.long p1), .second, .val (.long p2), .second, .val (.int p3), .val (.long p2), .second, .unset]) rfl (own_il X0 q d3_13 rfl (own_k X0 q d3_15 (own_stp 17 (fun _ k => XS.iand X0.here hx rfl (q.d d3_16) rfl k) (own_k X0 q d3_17 (own_stp 20 (fun _ k => XS.imul X0.here hx rfl (q.d d3_19) rfl k) (own_is X0 q d3_20 (l' := #[.val (.long p1), .second, .val (.long p2), .second, .val (.int p3), .val (.long p2), .second, .val (.int ((p3 &&& (3 : Int32)) * (16 : Int32)))]) rfl (own_ll X0 q d3_22 rfl (own_il X0 q d3_24 rfl (own_stp 27 (fun _ k => XS.lushr X0.here hx rfl (q.d d3_26) rfl k) ?_)))))))))))
  refine own_stq 30 [(.long (65535 : Int64)), (.long ((p2.toUInt64 >>> (((p3 &&& (3 : Int32)) * (16 : Int32)) &&& 0x3f).toInt64.toUInt64).toInt64))] (fun _ k => X0.ldc2Long hx hown (mvT hZ (W 10 rfl)) (g := mkF m 27 _ _) rfl (q.d d3_27) _ k) (own_stp 31 (fun _ k => XS.land X0.here hx rfl (q.d d3_30) rfl k) (own_stp 32 (fun _ k => XS.l2i X0.here hx rfl (q.d d3_31) rfl k) (own_stp 33 (fun _ k => XS.i2c X0.here hx rfl (q.d d3_32) rfl k) ?_)))
  refine own_rN X0 q hrt (by simp) d3_33 hlk (by decide) ?_
  show QCH h0 n0 _ s₁.heap _
  rw [e0]
  exact ⟨_, rfl, N0, rfl, own_nc16 _⟩
theorem d1_0 : own_D b'1 0 (.iload_n 1) 1 1 := by decide +kernel
theorem d1_1 : own_D b'1 1 (.iload 6) 2 3 := by decide +kernel
theorem d1_3 : own_D b'1 3 .iushr 1 4 := by decide +kernel
theorem d1_4 : own_DK b'1 4 1 5 := by decide +kernel
theorem d1_5 : own_D b'1 5 .iand 1 6 := by decide +kernel
theorem d1_6 : own_DZ b'1 6 .eq 18 9 := by decide +kernel
theorem d1_9 : own_D b'1 9 (.iload_n 0) 1 10 := by decide +kernel
theorem d1_10 : own_D b'1 10 (.iload 6) 2 12 := by decide +kernel
theorem d1_12 : own_D b'1 12 (.invokestatic 9) 3 15 := by decide +kernel
theorem d1_15 : own_DG b'1 15 26 := by decide +kernel
theorem d1_18 : own_D b'1 18 (.lload_n 2) 1 19 := by decide +kernel
theorem d1_19 : own_D b'1 19 (.lload 4) 2 21 := by decide +kernel
theorem d1_21 : own_D b'1 21 (.iload 6) 2 23 := by decide +kernel
theorem d1_23 : own_D b'1 23 (.invokestatic 15) 3 26 := by decide +kernel
theorem d1_26 : own_D b'1 26 .ireturn 1 27 := by decide +kernel
theorem pn_1 : plainFor (⟨"com/example/ballast_ledger/ballastledger/cli/HelpIsAskedPinLaw", "at", "(IIJJI)C"⟩ : MethodName) = true := plainFor_of_name (by first | (simp [plainName, overriddenIn]; done) | decide +kernel)
theorem rm1 (l : Launch) (Z : State) (a0 : Array Value) (hw : own_hw a0 Z) (p1 : Int32) (p2 : Int32) (p3 : Int64) (p4 : Int64) (p5 : Int32)  (h0 : Heap) (n0 : Nat) (Z0 : n0 ≤ h0.size) :
  own_M l Z [] own_y12 b'1 7 (some .char) ⟨1, 0, 0, 19⟩ #[(.int p1), (.int p2), (.long p3), (.long p4), (.int p5)] h0 (QCH h0 n0) := by
 refine own_start (n0 := n0) hw "com/example/ballast_ledger/ballastledger/cli/HelpIsAskedPinLaw" (L := #[.val (.int p1), .val (.int p2), .val (.long p3), .second, .val (.long p4), .second, .val (.int p5)]) pn_1 (fun {p e s m below meth c s₁} q hx W hml hZ hown hnm hlk hrt X0 e0 N0 => ?_)
 refine own_iln X0 q d1_0 rfl (own_il X0 q d1_1 rfl (own_stp 4 (fun _ k => XS.iushr X0.here hx rfl (q.d d1_3) rfl k) (own_k X0 q d1_4 (own_stp 6 (fun _ k => XS.iand X0.here hx rfl (q.d d1_5) rfl k) ?_))))
 by_cases hc6_982 : (((p2.toUInt32 >>> (p5 &&& 31).toUInt32).toInt32) &&& (1 : Int32)) = (0 : Int32)
 ·refine own_zy X0 q d1_6 (((if0 _ _).trans (teq hc6_982).1)) (own_lln X0 q d1_18 rfl (own_ll X0 q d1_19 rfl (own_il X0 q d1_21 rfl ?_)))
  refine own_cS X0 q hZ e0 hown hml (W 7 rfl) (W 8 rfl) (W 2 rfl) (W 9 rfl) (rm3 l Z a0 hw p3 p4 p5 h0 n0 Z0) d1_23 [(.long p3), (.long p4), (.int p5)] [] own_pd8 rfl rfl 0 (Nat.le_refl _) (by decide) (fun v983 T983 L983 X983 hQ983 => ?_)
  obtain ⟨z983, rfl, N983q, e983, hz983⟩ := hQ983
  have N983 := Fr.app N0 N983q
  refine own_nv ?_
  refine own_rN X983 q hrt (by simp) d1_26 hlk (by decide) ?_
  show QCH h0 n0 _ T983.heap _
  rw [e983]
  exact ⟨_, rfl, N983, rfl, own_nc16 _⟩
 ·refine own_zn X0 q d1_6 (((if0 _ _).trans (feq hc6_982).1)) (own_iln X0 q d1_9 rfl (own_il X0 q d1_10 rfl ?_))
  refine own_cS X0 q hZ e0 hown hml (W 4 rfl) (W 5 rfl) (W 2 rfl) (W 6 rfl) (rm2 l Z a0 hw p1 p5 h0 n0 Z0) d1_12 [(.int p1), (.int p5)] [] own_pd9 rfl rfl 0 (Nat.le_refl _) (by decide) (fun v984 T984 L984 X984 hQ984 => ?_)
  obtain ⟨z984, rfl, N984q, e984, hz984⟩ := hQ984
  have N984 := Fr.app N0 N984q
  refine own_nv (own_gt X984 q d1_15 ?_)
  refine own_rN X984 q hrt (by simp) d1_26 hlk (by decide) ?_
  show QCH h0 n0 _ T984.heap _
  rw [e984]
  exact ⟨_, rfl, N984, rfl, own_nc16 _⟩
theorem d9_0 : own_D b'9 0 (.aload_n 0) 1 1 := by decide +kernel
theorem d9_1 : own_D b'9 1 .arraylength 1 2 := by decide +kernel
theorem d9_2 : own_D b'9 2 (.aload_n 1) 1 3 := by decide +kernel
theorem d9_3 : own_D b'9 3 .arraylength 1 4 := by decide +kernel
theorem d9_4 : own_DJ b'9 4 .ne 34 7 := by decide +kernel
theorem d9_7 : own_DK b'9 7 0 8 := by decide +kernel
theorem d9_8 : own_D b'9 8 (.istore_n 2) 1 9 := by decide +kernel
theorem d9_9 : own_D b'9 9 (.iload_n 2) 1 10 := by decide +kernel
theorem d9_10 : own_D b'9 10 (.aload_n 0) 1 11 := by decide +kernel
theorem d9_11 : own_D b'9 11 .arraylength 1 12 := by decide +kernel
theorem d9_12 : own_DJ b'9 12 .ge 32 15 := by decide +kernel
theorem d9_15 : own_D b'9 15 (.aload_n 0) 1 16 := by decide +kernel
theorem d9_16 : own_D b'9 16 (.iload_n 2) 1 17 := by decide +kernel
theorem d9_17 : own_D b'9 17 .baload 1 18 := by decide +kernel
theorem d9_18 : own_D b'9 18 (.aload_n 1) 1 19 := by decide +kernel
theorem d9_19 : own_D b'9 19 (.iload_n 2) 1 20 := by decide +kernel
theorem d9_20 : own_D b'9 20 .baload 1 21 := by decide +kernel
theorem d9_21 : own_DJ b'9 21 .eq 26 24 := by decide +kernel
theorem d9_24 : own_DK b'9 24 0 25 := by decide +kernel
theorem d9_25 : own_D b'9 25 .ireturn 1 26 := by decide +kernel
theorem d9_26 : own_DI b'9 26 2 1 29 := by decide +kernel
theorem d9_29 : own_DG b'9 29 9 := by decide +kernel
theorem d9_32 : own_DK b'9 32 1 33 := by decide +kernel
theorem d9_33 : own_D b'9 33 .ireturn 1 34 := by decide +kernel
theorem d9_34 : own_DK b'9 34 0 35 := by decide +kernel
theorem d9_35 : own_D b'9 35 .ireturn 1 36 := by decide +kernel
theorem pn_9 : plainFor (⟨"java/lang/StringLatin1", "equals", "([B[B)Z"⟩ : MethodName) = true := plainFor_of_name (by first | (simp [plainName, overriddenIn]; done) | decide +kernel)
theorem rm9_0_2 (l : Launch) (Z : State) (a0 : Array Value) (hw : own_hw a0 Z) (a1 : Addr) (a2 : Addr) (k1 k2 : ClassId) (h0 : Heap) (n0 : Nat) (Z0 : n0 ≤ h0.size) (V1 : Arv Z h0 a1 k1 .byte (0 : Int32) [] v'0) (V2 : Arv Z h0 a2 k2 .byte (2 : Int32) [v'45, v'104] v'0) :
  own_M l Z [] own_y13 b'9 3 (some .boolean) ⟨0, 0, 0, 0⟩ #[(.ref a1), (.ref a2)] h0 (QM (([] : List Int32) = ([(45 : Int32), (104 : Int32)] : List Int32)) h0 n0) := by
 refine own_start (n0 := n0) hw "java/lang/StringLatin1" (L := #[.val (.ref a1), .val (.ref a2), .unset]) pn_9 (fun {p e s m below meth c s₁} q hx W hml hZ hown hnm hlk hrt X0 e0 N0 => ?_)
 refine own_aln X0 q d9_0 rfl rfl (own_alen (n := (0 : Int32)) X0 q hZ e0 V1 d9_1 (own_aln X0 q d9_2 rfl rfl (own_alen (n := (2 : Int32)) X0 q hZ e0 V2 d9_3 (own_cy X0 q d9_4 ((feq ((by decide) : ¬ ((0 : Int32) = (2 : Int32)))).2) (own_k X0 q d9_34 ?_)))))
 refine own_rN X0 q hrt (by simp) d9_35 hlk (by decide) ?_
 show QM (([] : List Int32) = ([(45 : Int32), (104 : Int32)] : List Int32)) h0 n0 _ s₁.heap _
 rw [e0]
 exact ⟨_, rfl, N0, rfl, Or.inr ⟨rfl, by simp []⟩⟩
theorem d8_0 : own_D b'8 0 (.aload_n 0) 1 1 := by decide +kernel
theorem d8_1 : own_D b'8 1 (.aload_n 1) 1 2 := by decide +kernel
theorem d8_2 : own_D b'8 2 (.if_acmp .ne 5) 3 5 := by decide +kernel
theorem d8_5 : own_DK b'8 5 1 6 := by decide +kernel
theorem d8_6 : own_D b'8 6 .ireturn 1 7 := by decide +kernel
theorem d8_7 : own_D b'8 7 (.aload_n 1) 1 8 := by decide +kernel
theorem d8_8 : own_D b'8 8 (.instanceof 10) 3 11 := by decide +kernel
theorem d8_11 : own_DZ b'8 11 .eq 54 14 := by decide +kernel
theorem d8_14 : own_D b'8 14 (.aload_n 1) 1 15 := by decide +kernel
theorem d8_15 : own_D b'8 15 (.checkcast 10) 3 18 := by decide +kernel
theorem d8_18 : own_D b'8 18 (.astore_n 2) 1 19 := by decide +kernel
theorem d8_19 : own_D b'8 19 (.getstatic 38) 3 22 := by decide +kernel
theorem d8_22 : own_DZ b'8 22 .eq 36 25 := by decide +kernel
theorem d8_25 : own_D b'8 25 (.aload_n 0) 1 26 := by decide +kernel
theorem d8_26 : own_D b'8 26 (.getfield 15) 3 29 := by decide +kernel
theorem d8_29 : own_D b'8 29 (.aload_n 2) 1 30 := by decide +kernel
theorem d8_30 : own_D b'8 30 (.getfield 15) 3 33 := by decide +kernel
theorem d8_33 : own_DJ b'8 33 .ne 54 36 := by decide +kernel
theorem d8_36 : own_D b'8 36 (.aload_n 0) 1 37 := by decide +kernel
theorem d8_37 : own_D b'8 37 (.getfield 9) 3 40 := by decide +kernel
theorem d8_40 : own_D b'8 40 (.aload_n 2) 1 41 := by decide +kernel
theorem d8_41 : own_D b'8 41 (.getfield 9) 3 44 := by decide +kernel
theorem d8_44 : own_D b'8 44 (.invokestatic 541) 3 47 := by decide +kernel
theorem d8_47 : own_DZ b'8 47 .eq 54 50 := by decide +kernel
theorem d8_50 : own_DK b'8 50 1 51 := by decide +kernel
theorem d8_51 : own_DG b'8 51 55 := by decide +kernel
theorem d8_54 : own_DK b'8 54 0 55 := by decide +kernel
theorem d8_55 : own_D b'8 55 .ireturn 1 56 := by decide +kernel
theorem pn_8 : plainFor (⟨"java/lang/String", "equals", "(Ljava/lang/Object;)Z"⟩ : MethodName) = true := plainFor_of_name (by first | (simp [plainName, overriddenIn]; done) | decide +kernel)
theorem rm8_0_2 (l : Launch) (Z : State) (a0 : Array Value) (hw : own_hw a0 Z) (a1 : Addr) (a2 : Addr) (t1 t2 : Addr) (k1 k2 : ClassId) (cs0 : Int32) (h0 : Heap) (n0 : Nat) (Z0 : n0 ≤ h0.size) (E1 : Exa Z h0 a1 "java/lang/String") (FC1 : F'0 Z h0 a1 v'0) (FV1 : F'1 Z h0 a1 (.ref t1)) (V1 : Arv Z h0 t1 k1 .byte (0 : Int32) [] v'0) (E2 : Exa Z h0 a2 "java/lang/String") (FC2 : F'0 Z h0 a2 v'0) (FV2 : F'1 Z h0 a2 (.ref t2)) (V2 : Arv Z h0 t2 k2 .byte (2 : Int32) [v'45, v'104] v'0) (n12 : a1 ≠ a2) (O0 : Old Z n0 h0) (SC_ : own_SC Z cs0) :
  own_M l Z [] own_y14 b'8 3 (some .boolean) ⟨1, 0, 0, 14⟩ #[(.ref a1), (.ref a2)] h0 (QM (([] : List Int32) = ([(45 : Int32), (104 : Int32)] : List Int32)) h0 n0) := by
 obtain ⟨SCS, hcs⟩ := SC_
 refine own_start (n0 := n0) hw "java/lang/String" (L := #[.val (.ref a1), .val (.ref a2), .unset]) pn_8 (fun {p e s m below meth c s₁} q hx W hml hZ hown hnm hlk hrt X0 e0 N0 => ?_)
 refine own_aln X0 q d8_0 rfl rfl (own_aln X0 q d8_1 rfl rfl (own_stp 7 (fun _ k => Jvm.RoadKit.acmp (g := mkF m 2 _ _) X0 hx rfl rfl rfl (pc0 := 2) (pc' := 7) (same := false) rfl (q.d d8_2) rfl (decide_eq_false fun q => n12 (Value.ref.inj q)) (by decide) (by decide) k) (own_aln X0 q d8_7 rfl rfl ?_)))
 refine own_let ?_; intro g996_
 obtain ⟨T997, X997, e997, st997⟩ := instY X0 hx hZ hown (W 43 rfl) e0 (Ins.self E2) (g := g996_) rfl rfl (q.d d8_8)
 refine own_stp 11 st997 (own_zn X997 q d8_11 (((if0 _ _).trans (feq ((by decide) : ¬ ((1 : Int32) = (0 : Int32)))).1)) (own_aln X997 q d8_14 rfl rfl ?_))
 refine own_let ?_; intro g998_
 obtain ⟨T999, X999, e999, st999⟩ := castY X997 hx hZ hown (W 43 rfl) e997 (Ins.self E2) (g := g998_) rfl rfl (q.d d8_15)
 refine own_stp 18 st999 (own_asn X999 q d8_18 rfl (l' := #[.val (.ref a1), .val (.ref a2), .val (.ref a2)]) rfl ?_)
 refine own_gS X999 q hZ e999 hown (W 44 rfl) (SCS.ext O0.2) d8_19 fun T1000 X1000 e1000 => ?_
 refine own_zn X1000 q d8_22 (((if0 _ _).trans (feq hcs).1)) (own_aln X1000 q d8_25 rfl rfl ?_)
 refine own_gF X1000 q hZ e1000 hown (W 32 rfl) FC1 d8_26 fun T1001 X1001 e1001 => ?_
 refine own_aln X1001 q d8_29 rfl rfl ?_
 refine own_gF X1001 q hZ e1001 hown (W 32 rfl) FC2 d8_30 fun T1002 X1002 e1002 => ?_
 refine own_cn X1002 q d8_33 ((teq (rfl : (0 : Int32) = (0 : Int32))).2) (own_aln X1002 q d8_36 rfl rfl ?_)
 refine own_gF X1002 q hZ e1002 hown (W 31 rfl) FV1 d8_37 fun T1003 X1003 e1003 => ?_
 refine own_aln X1003 q d8_40 rfl rfl ?_
 refine own_gF X1003 q hZ e1003 hown (W 31 rfl) FV2 d8_41 fun T1004 X1004 e1004 => ?_
 refine own_cS X1004 q hZ e1004 hown hml (W 45 rfl) (W 46 rfl) (W 47 rfl) (W 48 rfl) (rm9_0_2 l Z a0 hw t1 t2 k1 k2  h0 n0 Z0 V1 V2) d8_44 [(.ref t1), (.ref t2)] [] own_pd10 rfl rfl 0 (Nat.le_refl _) (by decide) (fun v1005 T1005 L1005 X1005 hQ1005 => ?_)
 obtain ⟨z1005, rfl, N1005q, e1005, hM1005⟩ := hQ1005
 have N1005 := Fr.app N0 N1005q
 refine own_nv ?_
 by_cases hc47_1006 : z1005 = (0 : Int32)
 ·refine own_zy X1005 q d8_47 (((if0 _ _).trans (teq hc47_1006).1)) (own_k X1005 q d8_54 ?_)
  refine own_rN X1005 q hrt (by simp) d8_55 hlk (by decide) ?_
  show QM (([] : List Int32) = ([(45 : Int32), (104 : Int32)] : List Int32)) h0 n0 _ T1005.heap _
  rw [e1005]
  exact ⟨_, rfl, N1005, rfl, Or.inr ⟨rfl, hM1005.elim (fun r => absurd (r.1.symm.trans hc47_1006) (by decide)) (fun r => r.2)⟩⟩
 ·refine own_zn X1005 q d8_47 (((if0 _ _).trans (feq hc47_1006).1)) (own_k X1005 q d8_50 (own_gt X1005 q d8_51 ?_))
  refine own_rN X1005 q hrt (by simp) d8_55 hlk (by decide) ?_
  show QM (([] : List Int32) = ([(45 : Int32), (104 : Int32)] : List Int32)) h0 n0 _ T1005.heap _
  rw [e1005]
  exact ⟨_, rfl, N1005, rfl, Or.inl ⟨rfl, hM1005.elim (fun r => r.2) (fun r => absurd r.1 hc47_1006)⟩⟩
theorem rm8_u_2 (l : Launch) (Z : State) (a0 : Array Value) (hw : own_hw a0 Z) (a1 : Addr) (a2 : Addr) (t1 t2 : Addr) (k2 : ClassId) (cs0 : Int32) (h0 : Heap) (n0 : Nat) (Z0 : n0 ≤ h0.size) (E1 : Exa Z h0 a1 "java/lang/String") (FC1 : F'0 Z h0 a1 v'1) (FV1 : F'1 Z h0 a1 (.ref t1)) (E2 : Exa Z h0 a2 "java/lang/String") (FC2 : F'0 Z h0 a2 v'0) (FV2 : F'1 Z h0 a2 (.ref t2)) (V2 : Arv Z h0 t2 k2 .byte (2 : Int32) [v'45, v'104] v'0) (n12 : a1 ≠ a2) (O0 : Old Z n0 h0) (SC_ : own_SC Z cs0) :
  own_M l Z [] own_y14 b'8 3 (some .boolean) ⟨0, 0, 0, 0⟩ #[(.ref a1), (.ref a2)] h0 (QI (0 : Int32) h0 n0) := by
 obtain ⟨SCS, hcs⟩ := SC_
 refine own_start (n0 := n0) hw "java/lang/String" (L := #[.val (.ref a1), .val (.ref a2), .unset]) pn_8 (fun {p e s m below meth c s₁} q hx W hml hZ hown hnm hlk hrt X0 e0 N0 => ?_)
 refine own_aln X0 q d8_0 rfl rfl (own_aln X0 q d8_1 rfl rfl (own_stp 7 (fun _ k => Jvm.RoadKit.acmp (g := mkF m 2 _ _) X0 hx rfl rfl rfl (pc0 := 2) (pc' := 7) (same := false) rfl (q.d d8_2) rfl (decide_eq_false fun q => n12 (Value.ref.inj q)) (by decide) (by decide) k) (own_aln X0 q d8_7 rfl rfl ?_)))
 refine own_let ?_; intro g1014_
 obtain ⟨T1015, X1015, e1015, st1015⟩ := instY X0 hx hZ hown (W 43 rfl) e0 (Ins.self E2) (g := g1014_) rfl rfl (q.d d8_8)
 refine own_stp 11 st1015 (own_zn X1015 q d8_11 (((if0 _ _).trans (feq ((by decide) : ¬ ((1 : Int32) = (0 : Int32)))).1)) (own_aln X1015 q d8_14 rfl rfl ?_))
 refine own_let ?_; intro g1016_
 obtain ⟨T1017, X1017, e1017, st1017⟩ := castY X1015 hx hZ hown (W 43 rfl) e1015 (Ins.self E2) (g := g1016_) rfl rfl (q.d d8_15)
 refine own_stp 18 st1017 (own_asn X1017 q d8_18 rfl (l' := #[.val (.ref a1), .val (.ref a2), .val (.ref a2)]) rfl ?_)
 refine own_gS X1017 q hZ e1017 hown (W 44 rfl) (SCS.ext O0.2) d8_19 fun T1018 X1018 e1018 => ?_
 refine own_zn X1018 q d8_22 (((if0 _ _).trans (feq hcs).1)) (own_aln X1018 q d8_25 rfl rfl ?_)
 refine own_gF X1018 q hZ e1018 hown (W 32 rfl) FC1 d8_26 fun T1019 X1019 e1019 => ?_
 refine own_aln X1019 q d8_29 rfl rfl ?_
 refine own_gF X1019 q hZ e1019 hown (W 32 rfl) FC2 d8_30 fun T1020 X1020 e1020 => ?_
 refine own_cy X1020 q d8_33 ((feq ((by decide) : ¬ ((1 : Int32) = (0 : Int32)))).2) (own_k X1020 q d8_54 ?_)
 refine own_rN X1020 q hrt (by simp) d8_55 hlk (by decide) ?_
 show QI (0 : Int32) h0 n0 _ T1020.heap _
 rw [e1020]
 exact ⟨rfl, N0, rfl⟩
theorem rm9_0_6 (l : Launch) (Z : State) (a0 : Array Value) (hw : own_hw a0 Z) (a1 : Addr) (a2 : Addr) (k1 k2 : ClassId) (h0 : Heap) (n0 : Nat) (Z0 : n0 ≤ h0.size) (V1 : Arv Z h0 a1 k1 .byte (0 : Int32) [] v'0) (V2 : Arv Z h0 a2 k2 .byte (6 : Int32) [v'45, v'45, v'104, v'101, v'108, v'112] v'0) :
  own_M l Z [] own_y13 b'9 3 (some .boolean) ⟨0, 0, 0, 0⟩ #[(.ref a1), (.ref a2)] h0 (QM (([] : List Int32) = ([(45 : Int32), (45 : Int32), (104 : Int32), (101 : Int32), (108 : Int32), (112 : Int32)] : List Int32)) h0 n0) := by
 refine own_start (n0 := n0) hw "java/lang/StringLatin1" (L := #[.val (.ref a1), .val (.ref a2), .unset]) pn_9 (fun {p e s m below meth c s₁} q hx W hml hZ hown hnm hlk hrt X0 e0 N0 => ?_)
 refine own_aln X0 q d9_0 rfl rfl (own_alen (n := (0 : Int32)) X0 q hZ e0 V1 d9_1 (own_aln X0 q d9_2 rfl rfl (own_alen (n := (6 : Int32)) X0 q hZ e0 V2 d9_3 (own_cy X0 q d9_4 ((feq ((by decide) : ¬ ((0 : Int32) = (6 : Int32)))).2) (own_k X0 q d9_34 ?_)))))
 refine own_rN X0 q hrt (by simp) d9_35 hlk (by decide) ?_
 show QM (([] : List Int32) = ([(45 : Int32), (45 : Int32), (104 : Int32), (101 : Int32), (108 : Int32), (112 : Int32)] : List Int32)) h0 n0 _ s₁.heap _
 rw [e0]
 exact ⟨_, rfl, N0, rfl, Or.inr ⟨rfl, by simp []⟩⟩
theorem rm8_0_6 (l : Launch) (Z : State) (a0 : Array Value) (hw : own_hw a0 Z) (a1 : Addr) (a2 : Addr) (t1 t2 : Addr) (k1 k2 : ClassId) (cs0 : Int32) (h0 : Heap) (n0 : Nat) (Z0 : n0 ≤ h0.size) (E1 : Exa Z h0 a1 "java/lang/String") (FC1 : F'0 Z h0 a1 v'0) (FV1 : F'1 Z h0 a1 (.ref t1)) (V1 : Arv Z h0 t1 k1 .byte (0 : Int32) [] v'0) (E2 : Exa Z h0 a2 "java/lang/String") (FC2 : F'0 Z h0 a2 v'0) (FV2 : F'1 Z h0 a2 (.ref t2)) (V2 : Arv Z h0 t2 k2 .byte (6 : Int32) [v'45, v'45, v'104, v'101, v'108, v'112] v'0) (n12 : a1 ≠ a2) (O0 : Old Z n0 h0) (SC_ : own_SC Z cs0) :
  own_M l Z [] own_y14 b'8 3 (some .boolean) ⟨1, 0, 0, 14⟩ #[(.ref a1), (.ref a2)] h0 (QM (([] : List Int32) = ([(45 : Int32), (45 : Int32), (104 : Int32), (101 : Int32), (108 : Int32), (112 : Int32)] : List Int32)) h0 n0) := by
 obtain ⟨SCS, hcs⟩ := SC_
 refine own_start (n0 := n0) hw "java/lang/String" (L := #[.val (.ref a1), .val (.ref a2), .unset]) pn_8 (fun {p e s m below meth c s₁} q hx W hml hZ hown hnm hlk hrt X0 e0 N0 => ?_)
 refine own_aln X0 q d8_0 rfl rfl (own_aln X0 q d8_1 rfl rfl (own_stp 7 (fun _ k => Jvm.RoadKit.acmp (g := mkF m 2 _ _) X0 hx rfl rfl rfl (pc0 := 2) (pc' := 7) (same := false) rfl (q.d d8_2) rfl (decide_eq_false fun q => n12 (Value.ref.inj q)) (by decide) (by decide) k) (own_aln X0 q d8_7 rfl rfl ?_)))
 refine own_let ?_; intro g1032_
 obtain ⟨T1033, X1033, e1033, st1033⟩ := instY X0 hx hZ hown (W 43 rfl) e0 (Ins.self E2) (g := g1032_) rfl rfl (q.d d8_8)
 refine own_stp 11 st1033 (own_zn X1033 q d8_11 (((if0 _ _).trans (feq ((by decide) : ¬ ((1 : Int32) = (0 : Int32)))).1)) (own_aln X1033 q d8_14 rfl rfl ?_))
 refine own_let ?_; intro g1034_
 obtain ⟨T1035, X1035, e1035, st1035⟩ := castY X1033 hx hZ hown (W 43 rfl) e1033 (Ins.self E2) (g := g1034_) rfl rfl (q.d d8_15)
 refine own_stp 18 st1035 (own_asn X1035 q d8_18 rfl (l' := #[.val (.ref a1), .val (.ref a2), .val (.ref a2)]) rfl ?_)
 refine own_gS X1035 q hZ e1035 hown (W 44 rfl) (SCS.ext O0.2) d8_19 fun T1036 X1036 e1036 => ?_
 refine own_zn X1036 q d8_22 (((if0 _ _).trans (feq hcs).1)) (own_aln X1036 q d8_25 rfl rfl ?_)
 refine own_gF X1036 q hZ e1036 hown (W 32 rfl) FC1 d8_26 fun T1037 X1037 e1037 => ?_
 refine own_aln X1037 q d8_29 rfl rfl ?_
 refine own_gF X1037 q hZ e1037 hown (W 32 rfl) FC2 d8_30 fun T1038 X1038 e1038 => ?_
 refine own_cn X1038 q d8_33 ((teq (rfl : (0 : Int32) = (0 : Int32))).2) (own_aln X1038 q d8_36 rfl rfl ?_)
 refine own_gF X1038 q hZ e1038 hown (W 31 rfl) FV1 d8_37 fun T1039 X1039 e1039 => ?_
 refine own_aln X1039 q d8_40 rfl rfl ?_
 refine own_gF X1039 q hZ e1039 hown (W 31 rfl) FV2 d8_41 fun T1040 X1040 e1040 => ?_
 refine own_cS X1040 q hZ e1040 hown hml (W 45 rfl) (W 46 rfl) (W 47 rfl) (W 48 rfl) (rm9_0_6 l Z a0 hw t1 t2 k1 k2  h0 n0 Z0 V1 V2) d8_44 [(.ref t1), (.ref t2)] [] own_pd10 rfl rfl 0 (Nat.le_refl _) (by decide) (fun v1041 T1041 L1041 X1041 hQ1041 => ?_)
 obtain ⟨z1041, rfl, N1041q, e1041, hM1041⟩ := hQ1041
 have N1041 := Fr.app N0 N1041q
 refine own_nv ?_
 by_cases hc47_1042 : z1041 = (0 : Int32)
 ·refine own_zy X1041 q d8_47 (((if0 _ _).trans (teq hc47_1042).1)) (own_k X1041 q d8_54 ?_)
  refine own_rN X1041 q hrt (by simp) d8_55 hlk (by decide) ?_
  show QM (([] : List Int32) = ([(45 : Int32), (45 : Int32), (104 : Int32), (101 : Int32), (108 : Int32), (112 : Int32)] : List Int32)) h0 n0 _ T1041.heap _
  rw [e1041]
  exact ⟨_, rfl, N1041, rfl, Or.inr ⟨rfl, hM1041.elim (fun r => absurd (r.1.symm.trans hc47_1042) (by decide)) (fun r => r.2)⟩⟩
 ·refine own_zn X1041 q d8_47 (((if0 _ _).trans (feq hc47_1042).1)) (own_k X1041 q d8_50 (own_gt X1041 q d8_51 ?_))
  refine own_rN X1041 q hrt (by simp) d8_55 hlk (by decide) ?_
  show QM (([] : List Int32) = ([(45 : Int32), (45 : Int32), (104 : Int32), (101 : Int32), (108 : Int32), (112 : Int32)] : List Int32)) h0 n0 _ T1041.heap _
  rw [e1041]
  exact ⟨_, rfl, N1041, rfl, Or.inl ⟨rfl, hM1041.elim (fun r => r.2) (fun r => absurd r.1 hc47_1042)⟩⟩
theorem rm8_u_6 (l : Launch) (Z : State) (a0 : Array Value) (hw : own_hw a0 Z) (a1 : Addr) (a2 : Addr) (t1 t2 : Addr) (k2 : ClassId) (cs0 : Int32) (h0 : Heap) (n0 : Nat) (Z0 : n0 ≤ h0.size) (E1 : Exa Z h0 a1 "java/lang/String") (FC1 : F'0 Z h0 a1 v'1) (FV1 : F'1 Z h0 a1 (.ref t1)) (E2 : Exa Z h0 a2 "java/lang/String") (FC2 : F'0 Z h0 a2 v'0) (FV2 : F'1 Z h0 a2 (.ref t2)) (V2 : Arv Z h0 t2 k2 .byte (6 : Int32) [v'45, v'45, v'104, v'101, v'108, v'112] v'0) (n12 : a1 ≠ a2) (O0 : Old Z n0 h0) (SC_ : own_SC Z cs0) :
  own_M l Z [] own_y14 b'8 3 (some .boolean) ⟨0, 0, 0, 0⟩ #[(.ref a1), (.ref a2)] h0 (QI (0 : Int32) h0 n0) := by
 obtain ⟨SCS, hcs⟩ := SC_
 refine own_start (n0 := n0) hw "java/lang/String" (L := #[.val (.ref a1), .val (.ref a2), .unset]) pn_8 (fun {p e s m below meth c s₁} q hx W hml hZ hown hnm hlk hrt X0 e0 N0 => ?_)
 refine own_aln X0 q d8_0 rfl rfl (own_aln X0 q d8_1 rfl rfl (own_stp 7 (fun _ k => Jvm.RoadKit.acmp (g := mkF m 2 _ _) X0 hx rfl rfl rfl (pc0 := 2) (pc' := 7) (same := false) rfl (q.d d8_2) rfl (decide_eq_false fun q => n12 (Value.ref.inj q)) (by decide) (by decide) k) (own_aln X0 q d8_7 rfl rfl ?_)))
 refine own_let ?_; intro g1050_
 obtain ⟨T1051, X1051, e1051, st1051⟩ := instY X0 hx hZ hown (W 43 rfl) e0 (Ins.self E2) (g := g1050_) rfl rfl (q.d d8_8)
 refine own_stp 11 st1051 (own_zn X1051 q d8_11 (((if0 _ _).trans (feq ((by decide) : ¬ ((1 : Int32) = (0 : Int32)))).1)) (own_aln X1051 q d8_14 rfl rfl ?_))
 refine own_let ?_; intro g1052_
 obtain ⟨T1053, X1053, e1053, st1053⟩ := castY X1051 hx hZ hown (W 43 rfl) e1051 (Ins.self E2) (g := g1052_) rfl rfl (q.d d8_15)
 refine own_stp 18 st1053 (own_asn X1053 q d8_18 rfl (l' := #[.val (.ref a1), .val (.ref a2), .val (.ref a2)]) rfl ?_)
 refine own_gS X1053 q hZ e1053 hown (W 44 rfl) (SCS.ext O0.2) d8_19 fun T1054 X1054 e1054 => ?_
 refine own_zn X1054 q d8_22 (((if0 _ _).trans (feq hcs).1)) (own_aln X1054 q d8_25 rfl rfl ?_)
 refine own_gF X1054 q hZ e1054 hown (W 32 rfl) FC1 d8_26 fun T1055 X1055 e1055 => ?_
 refine own_aln X1055 q d8_29 rfl rfl ?_
 refine own_gF X1055 q hZ e1055 hown (W 32 rfl) FC2 d8_30 fun T1056 X1056 e1056 => ?_
 refine own_cy X1056 q d8_33 ((feq ((by decide) : ¬ ((1 : Int32) = (0 : Int32)))).2) (own_k X1056 q d8_54 ?_)
 refine own_rN X1056 q hrt (by simp) d8_55 hlk (by decide) ?_
 show QI (0 : Int32) h0 n0 _ T1056.heap _
 rw [e1056]
 exact ⟨rfl, N0, rfl⟩
theorem rm9_1_2 (l : Launch) (Z : State) (a0 : Array Value) (hw : own_hw a0 Z) (a1 : Addr) (a2 : Addr) (k1 k2 : ClassId) (b0 : Int32) (h0 : Heap) (n0 : Nat) (Z0 : n0 ≤ h0.size) (V1 : Arv Z h0 a1 k1 .byte (1 : Int32) [(.int b0)] v'0) (V2 : Arv Z h0 a2 k2 .byte (2 : Int32) [v'45, v'104] v'0) :
  own_M l Z [] own_y13 b'9 3 (some .boolean) ⟨0, 0, 0, 0⟩ #[(.ref a1), (.ref a2)] h0 (QM (([b0] : List Int32) = ([(45 : Int32), (104 : Int32)] : List Int32)) h0 n0) := by
 refine own_start (n0 := n0) hw "java/lang/StringLatin1" (L := #[.val (.ref a1), .val (.ref a2), .unset]) pn_9 (fun {p e s m below meth c s₁} q hx W hml hZ hown hnm hlk hrt X0 e0 N0 => ?_)
 refine own_aln X0 q d9_0 rfl rfl (own_alen (n := (1 : Int32)) X0 q hZ e0 V1 d9_1 (own_aln X0 q d9_2 rfl rfl (own_alen (n := (2 : Int32)) X0 q hZ e0 V2 d9_3 (own_cy X0 q d9_4 ((feq ((by decide) : ¬ ((1 : Int32) = (2 : Int32)))).2) (own_k X0 q d9_34 ?_)))))
 refine own_rN X0 q hrt (by simp) d9_35 hlk (by decide) ?_
 show QM (([b0] : List Int32) = ([(45 : Int32), (104 : Int32)] : List Int32)) h0 n0 _ s₁.heap _
 rw [e0]
 exact ⟨_, rfl, N0, rfl, Or.inr ⟨rfl, by simp []⟩⟩
theorem rm8_1_2 (l : Launch) (Z : State) (a0 : Array Value) (hw : own_hw a0 Z) (a1 : Addr) (a2 : Addr) (t1 t2 : Addr) (k1 k2 : ClassId) (b0 : Int32) (cs0 : Int32) (h0 : Heap) (n0 : Nat) (Z0 : n0 ≤ h0.size) (E1 : Exa Z h0 a1 "java/lang/String") (FC1 : F'0 Z h0 a1 v'0) (FV1 : F'1 Z h0 a1 (.ref t1)) (V1 : Arv Z h0 t1 k1 .byte (1 : Int32) [(.int b0)] v'0) (E2 : Exa Z h0 a2 "java/lang/String") (FC2 : F'0 Z h0 a2 v'0) (FV2 : F'1 Z h0 a2 (.ref t2)) (V2 : Arv Z h0 t2 k2 .byte (2 : Int32) [v'45, v'104] v'0) (n12 : a1 ≠ a2) (O0 : Old Z n0 h0) (SC_ : own_SC Z cs0) :
  own_M l Z [] own_y14 b'8 3 (some .boolean) ⟨1, 0, 0, 14⟩ #[(.ref a1), (.ref a2)] h0 (QM (([b0] : List Int32) = ([(45 : Int32), (104 : Int32)] : List Int32)) h0 n0) := by
 obtain ⟨SCS, hcs⟩ := SC_
 refine own_start (n0 := n0) hw "java/lang/String" (L := #[.val (.ref a1), .val (.ref a2), .unset]) pn_8 (fun {p e s m below meth c s₁} q hx W hml hZ hown hnm hlk hrt X0 e0 N0 => ?_)
 refine own_aln X0 q d8_0 rfl rfl (own_aln X0 q d8_1 rfl rfl (own_stp 7 (fun _ k => Jvm.RoadKit.acmp (g := mkF m 2 _ _) X0 hx rfl rfl rfl (pc0 := 2) (pc' := 7) (same := false) rfl (q.d d8_2) rfl (decide_eq_false fun q => n12 (Value.ref.inj q)) (by decide) (by decide) k) (own_aln X0 q d8_7 rfl rfl ?_)))
 refine own_let ?_; intro g1068_
 obtain ⟨T1069, X1069, e1069, st1069⟩ := instY X0 hx hZ hown (W 43 rfl) e0 (Ins.self E2) (g := g1068_) rfl rfl (q.d d8_8)
 refine own_stp 11 st1069 (own_zn X1069 q d8_11 (((if0 _ _).trans (feq ((by decide) : ¬ ((1 : Int32) = (0 : Int32)))).1)) (own_aln X1069 q d8_14 rfl rfl ?_))
 refine own_let ?_; intro g1070_
 obtain ⟨T1071, X1071, e1071, st1071⟩ := castY X1069 hx hZ hown (W 43 rfl) e1069 (Ins.self E2) (g := g1070_) rfl rfl (q.d d8_15)
 refine own_stp 18 st1071 (own_asn X1071 q d8_18 rfl (l' := #[.val (.ref a1), .val (.ref a2), .val (.ref a2)]) rfl ?_)
 refine own_gS X1071 q hZ e1071 hown (W 44 rfl) (SCS.ext O0.2) d8_19 fun T1072 X1072 e1072 => ?_
 refine own_zn X1072 q d8_22 (((if0 _ _).trans (feq hcs).1)) (own_aln X1072 q d8_25 rfl rfl ?_)
 refine own_gF X1072 q hZ e1072 hown (W 32 rfl) FC1 d8_26 fun T1073 X1073 e1073 => ?_
 refine own_aln X1073 q d8_29 rfl rfl ?_
 refine own_gF X1073 q hZ e1073 hown (W 32 rfl) FC2 d8_30 fun T1074 X1074 e1074 => ?_
 refine own_cn X1074 q d8_33 ((teq (rfl : (0 : Int32) = (0 : Int32))).2) (own_aln X1074 q d8_36 rfl rfl ?_)
 refine own_gF X1074 q hZ e1074 hown (W 31 rfl) FV1 d8_37 fun T1075 X1075 e1075 => ?_
 refine own_aln X1075 q d8_40 rfl rfl ?_
 refine own_gF X1075 q hZ e1075 hown (W 31 rfl) FV2 d8_41 fun T1076 X1076 e1076 => ?_
 refine own_cS X1076 q hZ e1076 hown hml (W 45 rfl) (W 46 rfl) (W 47 rfl) (W 48 rfl) (rm9_1_2 l Z a0 hw t1 t2 k1 k2 b0 h0 n0 Z0 V1 V2) d8_44 [(.ref t1), (.ref t2)] [] own_pd10 rfl rfl 0 (Nat.le_refl _) (by decide) (fun v1077 T1077 L1077 X1077 hQ1077 => ?_)
 obtain ⟨z1077, rfl, N1077q, e1077, hM1077⟩ := hQ1077
 have N1077 := Fr.app N0 N1077q
 refine own_nv ?_
 by_cases hc47_1078 : z1077 = (0 : Int32)
 ·refine own_zy X1077 q d8_47 (((if0 _ _).trans (teq hc47_1078).1)) (own_k X1077 q d8_54 ?_)
  refine own_rN X1077 q hrt (by simp) d8_55 hlk (by decide) ?_
  show QM (([b0] : List Int32) = ([(45 : Int32), (104 : Int32)] : List Int32)) h0 n0 _ T1077.heap _
  rw [e1077]
  exact ⟨_, rfl, N1077, rfl, Or.inr ⟨rfl, hM1077.elim (fun r => absurd (r.1.symm.trans hc47_1078) (by decide)) (fun r => r.2)⟩⟩
 ·refine own_zn X1077 q d8_47 (((if0 _ _).trans (feq hc47_1078).1)) (own_k X1077 q d8_50 (own_gt X1077 q d8_51 ?_))
  refine own_rN X1077 q hrt (by simp) d8_55 hlk (by decide) ?_
  show QM (([b0] : List Int32) = ([(45 : Int32), (104 : Int32)] : List Int32)) h0 n0 _ T1077.heap _
  rw [e1077]
  exact ⟨_, rfl, N1077, rfl, Or.inl ⟨rfl, hM1077.elim (fun r => r.2) (fun r => absurd r.1 hc47_1078)⟩⟩
theorem rm9_1_6 (l : Launch) (Z : State) (a0 : Array Value) (hw : own_hw a0 Z) (a1 : Addr) (a2 : Addr) (k1 k2 : ClassId) (b0 : Int32) (h0 : Heap) (n0 : Nat) (Z0 : n0 ≤ h0.size) (V1 : Arv Z h0 a1 k1 .byte (1 : Int32) [(.int b0)] v'0) (V2 : Arv Z h0 a2 k2 .byte (6 : Int32) [v'45, v'45, v'104, v'101, v'108, v'112] v'0) :
  own_M l Z [] own_y13 b'9 3 (some .boolean) ⟨0, 0, 0, 0⟩ #[(.ref a1), (.ref a2)] h0 (QM (([b0] : List Int32) = ([(45 : Int32), (45 : Int32), (104 : Int32), (101 : Int32), (108 : Int32), (112 : Int32)] : List Int32)) h0 n0) := by
 refine own_start (n0 := n0) hw "java/lang/StringLatin1" (L := #[.val (.ref a1), .val (.ref a2), .unset]) pn_9 (fun {p e s m below meth c s₁} q hx W hml hZ hown hnm hlk hrt X0 e0 N0 => ?_)
 refine own_aln X0 q d9_0 rfl rfl (own_alen (n := (1 : Int32)) X0 q hZ e0 V1 d9_1 (own_aln X0 q d9_2 rfl rfl (own_alen (n := (6 : Int32)) X0 q hZ e0 V2 d9_3 (own_cy X0 q d9_4 ((feq ((by decide) : ¬ ((1 : Int32) = (6 : Int32)))).2) (own_k X0 q d9_34 ?_)))))
 refine own_rN X0 q hrt (by simp) d9_35 hlk (by decide) ?_
 show QM (([b0] : List Int32) = ([(45 : Int32), (45 : Int32), (104 : Int32), (101 : Int32), (108 : Int32), (112 : Int32)] : List Int32)) h0 n0 _ s₁.heap _
 rw [e0]
 exact ⟨_, rfl, N0, rfl, Or.inr ⟨rfl, by simp []⟩⟩
theorem rm8_1_6 (l : Launch) (Z : State) (a0 : Array Value) (hw : own_hw a0 Z) (a1 : Addr) (a2 : Addr) (t1 t2 : Addr) (k1 k2 : ClassId) (b0 : Int32) (cs0 : Int32) (h0 : Heap) (n0 : Nat) (Z0 : n0 ≤ h0.size) (E1 : Exa Z h0 a1 "java/lang/String") (FC1 : F'0 Z h0 a1 v'0) (FV1 : F'1 Z h0 a1 (.ref t1)) (V1 : Arv Z h0 t1 k1 .byte (1 : Int32) [(.int b0)] v'0) (E2 : Exa Z h0 a2 "java/lang/String") (FC2 : F'0 Z h0 a2 v'0) (FV2 : F'1 Z h0 a2 (.ref t2)) (V2 : Arv Z h0 t2 k2 .byte (6 : Int32) [v'45, v'45, v'104, v'101, v'108, v'112] v'0) (n12 : a1 ≠ a2) (O0 : Old Z n0 h0) (SC_ : own_SC Z cs0) :
  own_M l Z [] own_y14 b'8 3 (some .boolean) ⟨1, 0, 0, 14⟩ #[(.ref a1), (.ref a2)] h0 (QM (([b0] : List Int32) = ([(45 : Int32), (45 : Int32), (104 : Int32), (101 : Int32), (108 : Int32), (112 : Int32)] : List Int32)) h0 n0) := by
 obtain ⟨SCS, hcs⟩ := SC_
 refine own_start (n0 := n0) hw "java/lang/String" (L := #[.val (.ref a1), .val (.ref a2), .unset]) pn_8 (fun {p e s m below meth c s₁} q hx W hml hZ hown hnm hlk hrt X0 e0 N0 => ?_)
 refine own_aln X0 q d8_0 rfl rfl (own_aln X0 q d8_1 rfl rfl (own_stp 7 (fun _ k => Jvm.RoadKit.acmp (g := mkF m 2 _ _) X0 hx rfl rfl rfl (pc0 := 2) (pc' := 7) (same := false) rfl (q.d d8_2) rfl (decide_eq_false fun q => n12 (Value.ref.inj q)) (by decide) (by decide) k) (own_aln X0 q d8_7 rfl rfl ?_)))
 refine own_let ?_; intro g1090_
 obtain ⟨T1091, X1091, e1091, st1091⟩ := instY X0 hx hZ hown (W 43 rfl) e0 (Ins.self E2) (g := g1090_) rfl rfl (q.d d8_8)
 refine own_stp 11 st1091 (own_zn X1091 q d8_11 (((if0 _ _).trans (feq ((by decide) : ¬ ((1 : Int32) = (0 : Int32)))).1)) (own_aln X1091 q d8_14 rfl rfl ?_))
 refine own_let ?_; intro g1092_
 obtain ⟨T1093, X1093, e1093, st1093⟩ := castY X1091 hx hZ hown (W 43 rfl) e1091 (Ins.self E2) (g := g1092_) rfl rfl (q.d d8_15)
 refine own_stp 18 st1093 (own_asn X1093 q d8_18 rfl (l' := #[.val (.ref a1), .val (.ref a2), .val (.ref a2)]) rfl ?_)
 refine own_gS X1093 q hZ e1093 hown (W 44 rfl) (SCS.ext O0.2) d8_19 fun T1094 X1094 e1094 => ?_
 refine own_zn X1094 q d8_22 (((if0 _ _).trans (feq hcs).1)) (own_aln X1094 q d8_25 rfl rfl ?_)
 refine own_gF X1094 q hZ e1094 hown (W 32 rfl) FC1 d8_26 fun T1095 X1095 e1095 => ?_
 refine own_aln X1095 q d8_29 rfl rfl ?_
 refine own_gF X1095 q hZ e1095 hown (W 32 rfl) FC2 d8_30 fun T1096 X1096 e1096 => ?_
 refine own_cn X1096 q d8_33 ((teq (rfl : (0 : Int32) = (0 : Int32))).2) (own_aln X1096 q d8_36 rfl rfl ?_)
 refine own_gF X1096 q hZ e1096 hown (W 31 rfl) FV1 d8_37 fun T1097 X1097 e1097 => ?_
 refine own_aln X1097 q d8_40 rfl rfl ?_
 refine own_gF X1097 q hZ e1097 hown (W 31 rfl) FV2 d8_41 fun T1098 X1098 e1098 => ?_
 refine own_cS X1098 q hZ e1098 hown hml (W 45 rfl) (W 46 rfl) (W 47 rfl) (W 48 rfl) (rm9_1_6 l Z a0 hw t1 t2 k1 k2 b0 h0 n0 Z0 V1 V2) d8_44 [(.ref t1), (.ref t2)] [] own_pd10 rfl rfl 0 (Nat.le_refl _) (by decide) (fun v1099 T1099 L1099 X1099 hQ1099 => ?_)
 obtain ⟨z1099, rfl, N1099q, e1099, hM1099⟩ := hQ1099
 have N1099 := Fr.app N0 N1099q
 refine own_nv ?_
 by_cases hc47_1100 : z1099 = (0 : Int32)
 ·refine own_zy X1099 q d8_47 (((if0 _ _).trans (teq hc47_1100).1)) (own_k X1099 q d8_54 ?_)
  refine own_rN X1099 q hrt (by simp) d8_55 hlk (by decide) ?_
  show QM (([b0] : List Int32) = ([(45 : Int32), (45 : Int32), (104 : Int32), (101 : Int32), (108 : Int32), (112 : Int32)] : List Int32)) h0 n0 _ T1099.heap _
  rw [e1099]
  exact ⟨_, rfl, N1099, rfl, Or.inr ⟨rfl, hM1099.elim (fun r => absurd (r.1.symm.trans hc47_1100) (by decide)) (fun r => r.2)⟩⟩
 ·refine own_zn X1099 q d8_47 (((if0 _ _).trans (feq hc47_1100).1)) (own_k X1099 q d8_50 (own_gt X1099 q d8_51 ?_))
  refine own_rN X1099 q hrt (by simp) d8_55 hlk (by decide) ?_
  show QM (([b0] : List Int32) = ([(45 : Int32), (45 : Int32), (104 : Int32), (101 : Int32), (108 : Int32), (112 : Int32)] : List Int32)) h0 n0 _ T1099.heap _
  rw [e1099]
  exact ⟨_, rfl, N1099, rfl, Or.inl ⟨rfl, hM1099.elim (fun r => r.2) (fun r => absurd r.1 hc47_1100)⟩⟩
theorem rm9_2_2 (l : Launch) (Z : State) (a0 : Array Value) (hw : own_hw a0 Z) (a1 : Addr) (a2 : Addr) (k1 k2 : ClassId) (b0 b1 : Int32) (h0 : Heap) (n0 : Nat) (Z0 : n0 ≤ h0.size) (V1 : Arv Z h0 a1 k1 .byte (2 : Int32) [(.int b0), (.int b1)] v'0) (V2 : Arv Z h0 a2 k2 .byte (2 : Int32) [v'45, v'104] v'0) :
  own_M l Z [] own_y13 b'9 3 (some .boolean) ⟨0, 0, 0, 0⟩ #[(.ref a1), (.ref a2)] h0 (QM (([b0, b1] : List Int32) = ([(45 : Int32), (104 : Int32)] : List Int32)) h0 n0) := by
 refine own_start (n0 := n0) hw "java/lang/StringLatin1" (L := #[.val (.ref a1), .val (.ref a2), .unset]) pn_9 (fun {p e s m below meth c s₁} q hx W hml hZ hown hnm hlk hrt X0 e0 N0 => ?_)
 refine own_aln X0 q d9_0 rfl rfl (own_alen (n := (2 : Int32)) X0 q hZ e0 V1 d9_1 (own_aln X0 q d9_2 rfl rfl (own_alen (n := (2 : Int32)) X0 q hZ e0 V2 d9_3 (own_cn X0 q d9_4 ((teq (rfl : (2 : Int32) = (2 : Int32))).2) (own_k X0 q d9_7 (own_isn X0 q d9_8 (l' := #[.val (.ref a1), .val (.ref a2), .val v'0]) rfl (own_iln X0 q d9_9 rfl (own_aln X0 q d9_10 rfl rfl (own_alen (n := (2 : Int32)) X0 q hZ e0 V1 d9_11 (own_cn X0 q d9_12 ((tlt ((by decide) : (0 : Int32) < (2 : Int32))).2.1) (own_aln X0 q d9_15 rfl rfl ?_)))))))))))
 refine own_iln X0 q d9_16 rfl (own_bld (v := (.int b0)) X0 q hZ e0 V1 d9_17 (by decide) rfl (own_aln X0 q d9_18 rfl rfl (own_iln X0 q d9_19 rfl (own_bld (v := v'45) X0 q hZ e0 V2 d9_20 (by decide) rfl ?_))))
 by_cases hc21_1103 : b0 = (45 : Int32)
 ·refine own_cy X0 q d9_21 ((teq hc21_1103).1) (own_iik X0 q d9_26 rfl (show ((0 : Int32) + (1 : Int32)) = (1 : Int32) by decide) (l' := #[.val (.ref a1), .val (.ref a2), .val v'1]) rfl (own_gt X0 q d9_29 (own_iln X0 q d9_9 rfl (own_aln X0 q d9_10 rfl rfl (own_alen (n := (2 : Int32)) X0 q hZ e0 V1 d9_11 (own_cn X0 q d9_12 ((tlt ((by decide) : (1 : Int32) < (2 : Int32))).2.1) (own_aln X0 q d9_15 rfl rfl (own_iln X0 q d9_16 rfl (own_bld (v := (.int b1)) X0 q hZ e0 V1 d9_17 (by decide) rfl (own_aln X0 q d9_18 rfl rfl (own_iln X0 q d9_19 rfl ?_)))))))))))
  refine own_bld (v := v'104) X0 q hZ e0 V2 d9_20 (by decide) rfl ?_
  by_cases hc21_1104 : b1 = (104 : Int32)
  ·refine own_cy X0 q d9_21 ((teq hc21_1104).1) (own_iik X0 q d9_26 rfl (show ((1 : Int32) + (1 : Int32)) = (2 : Int32) by decide) (l' := #[.val (.ref a1), .val (.ref a2), .val v'2]) rfl (own_gt X0 q d9_29 (own_iln X0 q d9_9 rfl (own_aln X0 q d9_10 rfl rfl (own_alen (n := (2 : Int32)) X0 q hZ e0 V1 d9_11 (own_cy X0 q d9_12 ((flt (Int32.lt_irrefl : ¬ ((2 : Int32) < (2 : Int32)))).2.1) (own_k X0 q d9_32 ?_)))))))
   refine own_rN X0 q hrt (by simp) d9_33 hlk (by decide) ?_
   show QM (([b0, b1] : List Int32) = ([(45 : Int32), (104 : Int32)] : List Int32)) h0 n0 _ s₁.heap _
   rw [e0]
   exact ⟨_, rfl, N0, rfl, Or.inl ⟨rfl, by simp [hc21_1103, hc21_1104]⟩⟩
  ·refine own_cn X0 q d9_21 ((feq hc21_1104).1) (own_k X0 q d9_24 ?_)
   refine own_rN X0 q hrt (by simp) d9_25 hlk (by decide) ?_
   show QM (([b0, b1] : List Int32) = ([(45 : Int32), (104 : Int32)] : List Int32)) h0 n0 _ s₁.heap _
   rw [e0]
   exact ⟨_, rfl, N0, rfl, Or.inr ⟨rfl, by simp [hc21_1103, hc21_1104]⟩⟩
 ·refine own_cn X0 q d9_21 ((feq hc21_1103).1) (own_k X0 q d9_24 ?_)
  refine own_rN X0 q hrt (by simp) d9_25 hlk (by decide) ?_
  show QM (([b0, b1] : List Int32) = ([(45 : Int32), (104 : Int32)] : List Int32)) h0 n0 _ s₁.heap _
  rw [e0]
  exact ⟨_, rfl, N0, rfl, Or.inr ⟨rfl, by simp [hc21_1103]⟩⟩
theorem rm8_2_2 (l : Launch) (Z : State) (a0 : Array Value) (hw : own_hw a0 Z) (a1 : Addr) (a2 : Addr) (t1 t2 : Addr) (k1 k2 : ClassId) (b0 b1 : Int32) (cs0 : Int32) (h0 : Heap) (n0 : Nat) (Z0 : n0 ≤ h0.size) (E1 : Exa Z h0 a1 "java/lang/String") (FC1 : F'0 Z h0 a1 v'0) (FV1 : F'1 Z h0 a1 (.ref t1)) (V1 : Arv Z h0 t1 k1 .byte (2 : Int32) [(.int b0), (.int b1)] v'0) (E2 : Exa Z h0 a2 "java/lang/String") (FC2 : F'0 Z h0 a2 v'0) (FV2 : F'1 Z h0 a2 (.ref t2)) (V2 : Arv Z h0 t2 k2 .byte (2 : Int32) [v'45, v'104] v'0) (n12 : a1 ≠ a2) (O0 : Old Z n0 h0) (SC_ : own_SC Z cs0) :
  own_M l Z [] own_y14 b'8 3 (some .boolean) ⟨1, 0, 0, 14⟩ #[(.ref a1), (.ref a2)] h0 (QM (([b0, b1] : List Int32) = ([(45 : Int32), (104 : Int32)] : List Int32)) h0 n0) := by
 obtain ⟨SCS, hcs⟩ := SC_
 refine own_start (n0 := n0) hw "java/lang/String" (L := #[.val (.ref a1), .val (.ref a2), .unset]) pn_8 (fun {p e s m below meth c s₁} q hx W hml hZ hown hnm hlk hrt X0 e0 N0 => ?_)
 refine own_aln X0 q d8_0 rfl rfl (own_aln X0 q d8_1 rfl rfl (own_stp 7 (fun _ k => Jvm.RoadKit.acmp (g := mkF m 2 _ _) X0 hx rfl rfl rfl (pc0 := 2) (pc' := 7) (same := false) rfl (q.d d8_2) rfl (decide_eq_false fun q => n12 (Value.ref.inj q)) (by decide) (by decide) k) (own_aln X0 q d8_7 rfl rfl ?_)))
 refine own_let ?_; intro g1116_
 obtain ⟨T1117, X1117, e1117, st1117⟩ := instY X0 hx hZ hown (W 43 rfl) e0 (Ins.self E2) (g := g1116_) rfl rfl (q.d d8_8)
 refine own_stp 11 st1117 (own_zn X1117 q d8_11 (((if0 _ _).trans (feq ((by decide) : ¬ ((1 : Int32) = (0 : Int32)))).1)) (own_aln X1117 q d8_14 rfl rfl ?_))
 refine own_let ?_; intro g1118_
 obtain ⟨T1119, X1119, e1119, st1119⟩ := castY X1117 hx hZ hown (W 43 rfl) e1117 (Ins.self E2) (g := g1118_) rfl rfl (q.d d8_15)
 refine own_stp 18 st1119 (own_asn X1119 q d8_18 rfl (l' := #[.val (.ref a1), .val (.ref a2), .val (.ref a2)]) rfl ?_)
 refine own_gS X1119 q hZ e1119 hown (W 44 rfl) (SCS.ext O0.2) d8_19 fun T1120 X1120 e1120 => ?_
 refine own_zn X1120 q d8_22 (((if0 _ _).trans (feq hcs).1)) (own_aln X1120 q d8_25 rfl rfl ?_)
 refine own_gF X1120 q hZ e1120 hown (W 32 rfl) FC1 d8_26 fun T1121 X1121 e1121 => ?_
 refine own_aln X1121 q d8_29 rfl rfl ?_
 refine own_gF X1121 q hZ e1121 hown (W 32 rfl) FC2 d8_30 fun T1122 X1122 e1122 => ?_
 refine own_cn X1122 q d8_33 ((teq (rfl : (0 : Int32) = (0 : Int32))).2) (own_aln X1122 q d8_36 rfl rfl ?_)
 refine own_gF X1122 q hZ e1122 hown (W 31 rfl) FV1 d8_37 fun T1123 X1123 e1123 => ?_
 refine own_aln X1123 q d8_40 rfl rfl ?_
 refine own_gF X1123 q hZ e1123 hown (W 31 rfl) FV2 d8_41 fun T1124 X1124 e1124 => ?_
 refine own_cS X1124 q hZ e1124 hown hml (W 45 rfl) (W 46 rfl) (W 47 rfl) (W 48 rfl) (rm9_2_2 l Z a0 hw t1 t2 k1 k2 b0 b1 h0 n0 Z0 V1 V2) d8_44 [(.ref t1), (.ref t2)] [] own_pd10 rfl rfl 0 (Nat.le_refl _) (by decide) (fun v1125 T1125 L1125 X1125 hQ1125 => ?_)
 obtain ⟨z1125, rfl, N1125q, e1125, hM1125⟩ := hQ1125
 have N1125 := Fr.app N0 N1125q
 refine own_nv ?_
 by_cases hc47_1126 : z1125 = (0 : Int32)
 ·refine own_zy X1125 q d8_47 (((if0 _ _).trans (teq hc47_1126).1)) (own_k X1125 q d8_54 ?_)
  refine own_rN X1125 q hrt (by simp) d8_55 hlk (by decide) ?_
  show QM (([b0, b1] : List Int32) = ([(45 : Int32), (104 : Int32)] : List Int32)) h0 n0 _ T1125.heap _
  rw [e1125]
  exact ⟨_, rfl, N1125, rfl, Or.inr ⟨rfl, hM1125.elim (fun r => absurd (r.1.symm.trans hc47_1126) (by decide)) (fun r => r.2)⟩⟩
 ·refine own_zn X1125 q d8_47 (((if0 _ _).trans (feq hc47_1126).1)) (own_k X1125 q d8_50 (own_gt X1125 q d8_51 ?_))
  refine own_rN X1125 q hrt (by simp) d8_55 hlk (by decide) ?_
  show QM (([b0, b1] : List Int32) = ([(45 : Int32), (104 : Int32)] : List Int32)) h0 n0 _ T1125.heap _
  rw [e1125]
  exact ⟨_, rfl, N1125, rfl, Or.inl ⟨rfl, hM1125.elim (fun r => r.2) (fun r => absurd r.1 hc47_1126)⟩⟩
theorem rm9_2_6 (l : Launch) (Z : State) (a0 : Array Value) (hw : own_hw a0 Z) (a1 : Addr) (a2 : Addr) (k1 k2 : ClassId) (b0 b1 : Int32) (h0 : Heap) (n0 : Nat) (Z0 : n0 ≤ h0.size) (V1 : Arv Z h0 a1 k1 .byte (2 : Int32) [(.int b0), (.int b1)] v'0) (V2 : Arv Z h0 a2 k2 .byte (6 : Int32) [v'45, v'45, v'104, v'101, v'108, v'112] v'0) :
  own_M l Z [] own_y13 b'9 3 (some .boolean) ⟨0, 0, 0, 0⟩ #[(.ref a1), (.ref a2)] h0 (QM (([b0, b1] : List Int32) = ([(45 : Int32), (45 : Int32), (104 : Int32), (101 : Int32), (108 : Int32), (112 : Int32)] : List Int32)) h0 n0) := by
 refine own_start (n0 := n0) hw "java/lang/StringLatin1" (L := #[.val (.ref a1), .val (.ref a2), .unset]) pn_9 (fun {p e s m below meth c s₁} q hx W hml hZ hown hnm hlk hrt X0 e0 N0 => ?_)
 refine own_aln X0 q d9_0 rfl rfl (own_alen (n := (2 : Int32)) X0 q hZ e0 V1 d9_1 (own_aln X0 q d9_2 rfl rfl (own_alen (n := (6 : Int32)) X0 q hZ e0 V2 d9_3 (own_cy X0 q d9_4 ((feq ((by decide) : ¬ ((2 : Int32) = (6 : Int32)))).2) (own_k X0 q d9_34 ?_)))))
 refine own_rN X0 q hrt (by simp) d9_35 hlk (by decide) ?_
 show QM (([b0, b1] : List Int32) = ([(45 : Int32), (45 : Int32), (104 : Int32), (101 : Int32), (108 : Int32), (112 : Int32)] : List Int32)) h0 n0 _ s₁.heap _
 rw [e0]
 exact ⟨_, rfl, N0, rfl, Or.inr ⟨rfl, by simp []⟩⟩
theorem rm8_2_6 (l : Launch) (Z : State) (a0 : Array Value) (hw : own_hw a0 Z) (a1 : Addr) (a2 : Addr) (t1 t2 : Addr) (k1 k2 : ClassId) (b0 b1 : Int32) (cs0 : Int32) (h0 : Heap) (n0 : Nat) (Z0 : n0 ≤ h0.size) (E1 : Exa Z h0 a1 "java/lang/String") (FC1 : F'0 Z h0 a1 v'0) (FV1 : F'1 Z h0 a1 (.ref t1)) (V1 : Arv Z h0 t1 k1 .byte (2 : Int32) [(.int b0), (.int b1)] v'0) (E2 : Exa Z h0 a2 "java/lang/String") (FC2 : F'0 Z h0 a2 v'0) (FV2 : F'1 Z h0 a2 (.ref t2)) (V2 : Arv Z h0 t2 k2 .byte (6 : Int32) [v'45, v'45, v'104, v'101, v'108, v'112] v'0) (n12 : a1 ≠ a2) (O0 : Old Z n0 h0) (SC_ : own_SC Z cs0) :
  own_M l Z [] own_y14 b'8 3 (some .boolean) ⟨1, 0, 0, 14⟩ #[(.ref a1), (.ref a2)] h0 (QM (([b0, b1] : List Int32) = ([(45 : Int32), (45 : Int32), (104 : Int32), (101 : Int32), (108 : Int32), (112 : Int32)] : List Int32)) h0 n0) := by
 obtain ⟨SCS, hcs⟩ := SC_
 refine own_start (n0 := n0) hw "java/lang/String" (L := #[.val (.ref a1), .val (.ref a2), .unset]) pn_8 (fun {p e s m below meth c s₁} q hx W hml hZ hown hnm hlk hrt X0 e0 N0 => ?_)
 refine own_aln X0 q d8_0 rfl rfl (own_aln X0 q d8_1 rfl rfl (own_stp 7 (fun _ k => Jvm.RoadKit.acmp (g := mkF m 2 _ _) X0 hx rfl rfl rfl (pc0 := 2) (pc' := 7) (same := false) rfl (q.d d8_2) rfl (decide_eq_false fun q => n12 (Value.ref.inj q)) (by decide) (by decide) k) (own_aln X0 q d8_7 rfl rfl ?_)))
 refine own_let ?_; intro g1138_
 obtain ⟨T1139, X1139, e1139, st1139⟩ := instY X0 hx hZ hown (W 43 rfl) e0 (Ins.self E2) (g := g1138_) rfl rfl (q.d d8_8)
 refine own_stp 11 st1139 (own_zn X1139 q d8_11 (((if0 _ _).trans (feq ((by decide) : ¬ ((1 : Int32) = (0 : Int32)))).1)) (own_aln X1139 q d8_14 rfl rfl ?_))
 refine own_let ?_; intro g1140_
 obtain ⟨T1141, X1141, e1141, st1141⟩ := castY X1139 hx hZ hown (W 43 rfl) e1139 (Ins.self E2) (g := g1140_) rfl rfl (q.d d8_15)
 refine own_stp 18 st1141 (own_asn X1141 q d8_18 rfl (l' := #[.val (.ref a1), .val (.ref a2), .val (.ref a2)]) rfl ?_)
 refine own_gS X1141 q hZ e1141 hown (W 44 rfl) (SCS.ext O0.2) d8_19 fun T1142 X1142 e1142 => ?_
 refine own_zn X1142 q d8_22 (((if0 _ _).trans (feq hcs).1)) (own_aln X1142 q d8_25 rfl rfl ?_)
 refine own_gF X1142 q hZ e1142 hown (W 32 rfl) FC1 d8_26 fun T1143 X1143 e1143 => ?_
 refine own_aln X1143 q d8_29 rfl rfl ?_
 refine own_gF X1143 q hZ e1143 hown (W 32 rfl) FC2 d8_30 fun T1144 X1144 e1144 => ?_
 refine own_cn X1144 q d8_33 ((teq (rfl : (0 : Int32) = (0 : Int32))).2) (own_aln X1144 q d8_36 rfl rfl ?_)
 refine own_gF X1144 q hZ e1144 hown (W 31 rfl) FV1 d8_37 fun T1145 X1145 e1145 => ?_
 refine own_aln X1145 q d8_40 rfl rfl ?_
 refine own_gF X1145 q hZ e1145 hown (W 31 rfl) FV2 d8_41 fun T1146 X1146 e1146 => ?_
 refine own_cS X1146 q hZ e1146 hown hml (W 45 rfl) (W 46 rfl) (W 47 rfl) (W 48 rfl) (rm9_2_6 l Z a0 hw t1 t2 k1 k2 b0 b1 h0 n0 Z0 V1 V2) d8_44 [(.ref t1), (.ref t2)] [] own_pd10 rfl rfl 0 (Nat.le_refl _) (by decide) (fun v1147 T1147 L1147 X1147 hQ1147 => ?_)
 obtain ⟨z1147, rfl, N1147q, e1147, hM1147⟩ := hQ1147
 have N1147 := Fr.app N0 N1147q
 refine own_nv ?_
 by_cases hc47_1148 : z1147 = (0 : Int32)
 ·refine own_zy X1147 q d8_47 (((if0 _ _).trans (teq hc47_1148).1)) (own_k X1147 q d8_54 ?_)
  refine own_rN X1147 q hrt (by simp) d8_55 hlk (by decide) ?_
  show QM (([b0, b1] : List Int32) = ([(45 : Int32), (45 : Int32), (104 : Int32), (101 : Int32), (108 : Int32), (112 : Int32)] : List Int32)) h0 n0 _ T1147.heap _
  rw [e1147]
  exact ⟨_, rfl, N1147, rfl, Or.inr ⟨rfl, hM1147.elim (fun r => absurd (r.1.symm.trans hc47_1148) (by decide)) (fun r => r.2)⟩⟩
 ·refine own_zn X1147 q d8_47 (((if0 _ _).trans (feq hc47_1148).1)) (own_k X1147 q d8_50 (own_gt X1147 q d8_51 ?_))
  refine own_rN X1147 q hrt (by simp) d8_55 hlk (by decide) ?_
  show QM (([b0, b1] : List Int32) = ([(45 : Int32), (45 : Int32), (104 : Int32), (101 : Int32), (108 : Int32), (112 : Int32)] : List Int32)) h0 n0 _ T1147.heap _
  rw [e1147]
  exact ⟨_, rfl, N1147, rfl, Or.inl ⟨rfl, hM1147.elim (fun r => r.2) (fun r => absurd r.1 hc47_1148)⟩⟩
theorem rm9_3_2 (l : Launch) (Z : State) (a0 : Array Value) (hw : own_hw a0 Z) (a1 : Addr) (a2 : Addr) (k1 k2 : ClassId) (b0 b1 b2 : Int32) (h0 : Heap) (n0 : Nat) (Z0 : n0 ≤ h0.size) (V1 : Arv Z h0 a1 k1 .byte (3 : Int32) [(.int b0), (.int b1), (.int b2)] v'0) (V2 : Arv Z h0 a2 k2 .byte (2 : Int32) [v'45, v'104] v'0) :
  own_M l Z [] own_y13 b'9 3 (some .boolean) ⟨0, 0, 0, 0⟩ #[(.ref a1), (.ref a2)] h0 (QM (([b0, b1, b2] : List Int32) = ([(45 : Int32), (104 : Int32)] : List Int32)) h0 n0) := by
 refine own_start (n0 := n0) hw "java/lang/StringLatin1" (L := #[.val (.ref a1), .val (.ref a2), .unset]) pn_9 (fun {p e s m below meth c s₁} q hx W hml hZ hown hnm hlk hrt X0 e0 N0 => ?_)
 refine own_aln X0 q d9_0 rfl rfl (own_alen (n := (3 : Int32)) X0 q hZ e0 V1 d9_1 (own_aln X0 q d9_2 rfl rfl (own_alen (n := (2 : Int32)) X0 q hZ e0 V2 d9_3 (own_cy X0 q d9_4 ((feq ((by decide) : ¬ ((3 : Int32) = (2 : Int32)))).2) (own_k X0 q d9_34 ?_)))))
 refine own_rN X0 q hrt (by simp) d9_35 hlk (by decide) ?_
 show QM (([b0, b1, b2] : List Int32) = ([(45 : Int32), (104 : Int32)] : List Int32)) h0 n0 _ s₁.heap _
 rw [e0]
 exact ⟨_, rfl, N0, rfl, Or.inr ⟨rfl, by simp []⟩⟩
theorem rm8_3_2 (l : Launch) (Z : State) (a0 : Array Value) (hw : own_hw a0 Z) (a1 : Addr) (a2 : Addr) (t1 t2 : Addr) (k1 k2 : ClassId) (b0 b1 b2 : Int32) (cs0 : Int32) (h0 : Heap) (n0 : Nat) (Z0 : n0 ≤ h0.size) (E1 : Exa Z h0 a1 "java/lang/String") (FC1 : F'0 Z h0 a1 v'0) (FV1 : F'1 Z h0 a1 (.ref t1)) (V1 : Arv Z h0 t1 k1 .byte (3 : Int32) [(.int b0), (.int b1), (.int b2)] v'0) (E2 : Exa Z h0 a2 "java/lang/String") (FC2 : F'0 Z h0 a2 v'0) (FV2 : F'1 Z h0 a2 (.ref t2)) (V2 : Arv Z h0 t2 k2 .byte (2 : Int32) [v'45, v'104] v'0) (n12 : a1 ≠ a2) (O0 : Old Z n0 h0) (SC_ : own_SC Z cs0) :
  own_M l Z [] own_y14 b'8 3 (some .boolean) ⟨1, 0, 0, 14⟩ #[(.ref a1), (.ref a2)] h0 (QM (([b0, b1, b2] : List Int32) = ([(45 : Int32), (104 : Int32)] : List Int32)) h0 n0) := by
 obtain ⟨SCS, hcs⟩ := SC_
 refine own_start (n0 := n0) hw "java/lang/String" (L := #[.val (.ref a1), .val (.ref a2), .unset]) pn_8 (fun {p e s m below meth c s₁} q hx W hml hZ hown hnm hlk hrt X0 e0 N0 => ?_)
 refine own_aln X0 q d8_0 rfl rfl (own_aln X0 q d8_1 rfl rfl (own_stp 7 (fun _ k => Jvm.RoadKit.acmp (g := mkF m 2 _ _) X0 hx rfl rfl rfl (pc0 := 2) (pc' := 7) (same := false) rfl (q.d d8_2) rfl (decide_eq_false fun q => n12 (Value.ref.inj q)) (by decide) (by decide) k) (own_aln X0 q d8_7 rfl rfl ?_)))
 refine own_let ?_; intro g1160_
 obtain ⟨T1161, X1161, e1161, st1161⟩ := instY X0 hx hZ hown (W 43 rfl) e0 (Ins.self E2) (g := g1160_) rfl rfl (q.d d8_8)
 refine own_stp 11 st1161 (own_zn X1161 q d8_11 (((if0 _ _).trans (feq ((by decide) : ¬ ((1 : Int32) = (0 : Int32)))).1)) (own_aln X1161 q d8_14 rfl rfl ?_))
 refine own_let ?_; intro g1162_
 obtain ⟨T1163, X1163, e1163, st1163⟩ := castY X1161 hx hZ hown (W 43 rfl) e1161 (Ins.self E2) (g := g1162_) rfl rfl (q.d d8_15)
 refine own_stp 18 st1163 (own_asn X1163 q d8_18 rfl (l' := #[.val (.ref a1), .val (.ref a2), .val (.ref a2)]) rfl ?_)
 refine own_gS X1163 q hZ e1163 hown (W 44 rfl) (SCS.ext O0.2) d8_19 fun T1164 X1164 e1164 => ?_
 refine own_zn X1164 q d8_22 (((if0 _ _).trans (feq hcs).1)) (own_aln X1164 q d8_25 rfl rfl ?_)
 refine own_gF X1164 q hZ e1164 hown (W 32 rfl) FC1 d8_26 fun T1165 X1165 e1165 => ?_
 refine own_aln X1165 q d8_29 rfl rfl ?_
 refine own_gF X1165 q hZ e1165 hown (W 32 rfl) FC2 d8_30 fun T1166 X1166 e1166 => ?_
 refine own_cn X1166 q d8_33 ((teq (rfl : (0 : Int32) = (0 : Int32))).2) (own_aln X1166 q d8_36 rfl rfl ?_)
 refine own_gF X1166 q hZ e1166 hown (W 31 rfl) FV1 d8_37 fun T1167 X1167 e1167 => ?_
 refine own_aln X1167 q d8_40 rfl rfl ?_
 refine own_gF X1167 q hZ e1167 hown (W 31 rfl) FV2 d8_41 fun T1168 X1168 e1168 => ?_
 refine own_cS X1168 q hZ e1168 hown hml (W 45 rfl) (W 46 rfl) (W 47 rfl) (W 48 rfl) (rm9_3_2 l Z a0 hw t1 t2 k1 k2 b0 b1 b2 h0 n0 Z0 V1 V2) d8_44 [(.ref t1), (.ref t2)] [] own_pd10 rfl rfl 0 (Nat.le_refl _) (by decide) (fun v1169 T1169 L1169 X1169 hQ1169 => ?_)
 obtain ⟨z1169, rfl, N1169q, e1169, hM1169⟩ := hQ1169
 have N1169 := Fr.app N0 N1169q
 refine own_nv ?_
 by_cases hc47_1170 : z1169 = (0 : Int32)
 ·refine own_zy X1169 q d8_47 (((if0 _ _).trans (teq hc47_1170).1)) (own_k X1169 q d8_54 ?_)
  refine own_rN X1169 q hrt (by simp) d8_55 hlk (by decide) ?_
  show QM (([b0, b1, b2] : List Int32) = ([(45 : Int32), (104 : Int32)] : List Int32)) h0 n0 _ T1169.heap _
  rw [e1169]
  exact ⟨_, rfl, N1169, rfl, Or.inr ⟨rfl, hM1169.elim (fun r => absurd (r.1.symm.trans hc47_1170) (by decide)) (fun r => r.2)⟩⟩
 ·refine own_zn X1169 q d8_47 (((if0 _ _).trans (feq hc47_1170).1)) (own_k X1169 q d8_50 (own_gt X1169 q d8_51 ?_))
  refine own_rN X1169 q hrt (by simp) d8_55 hlk (by decide) ?_
  show QM (([b0, b1, b2] : List Int32) = ([(45 : Int32), (104 : Int32)] : List Int32)) h0 n0 _ T1169.heap _
  rw [e1169]
  exact ⟨_, rfl, N1169, rfl, Or.inl ⟨rfl, hM1169.elim (fun r => r.2) (fun r => absurd r.1 hc47_1170)⟩⟩
theorem rm9_3_6 (l : Launch) (Z : State) (a0 : Array Value) (hw : own_hw a0 Z) (a1 : Addr) (a2 : Addr) (k1 k2 : ClassId) (b0 b1 b2 : Int32) (h0 : Heap) (n0 : Nat) (Z0 : n0 ≤ h0.size) (V1 : Arv Z h0 a1 k1 .byte (3 : Int32) [(.int b0), (.int b1), (.int b2)] v'0) (V2 : Arv Z h0 a2 k2 .byte (6 : Int32) [v'45, v'45, v'104, v'101, v'108, v'112] v'0) :
  own_M l Z [] own_y13 b'9 3 (some .boolean) ⟨0, 0, 0, 0⟩ #[(.ref a1), (.ref a2)] h0 (QM (([b0, b1, b2] : List Int32) = ([(45 : Int32), (45 : Int32), (104 : Int32), (101 : Int32), (108 : Int32), (112 : Int32)] : List Int32)) h0 n0) := by
 refine own_start (n0 := n0) hw "java/lang/StringLatin1" (L := #[.val (.ref a1), .val (.ref a2), .unset]) pn_9 (fun {p e s m below meth c s₁} q hx W hml hZ hown hnm hlk hrt X0 e0 N0 => ?_)
 refine own_aln X0 q d9_0 rfl rfl (own_alen (n := (3 : Int32)) X0 q hZ e0 V1 d9_1 (own_aln X0 q d9_2 rfl rfl (own_alen (n := (6 : Int32)) X0 q hZ e0 V2 d9_3 (own_cy X0 q d9_4 ((feq ((by decide) : ¬ ((3 : Int32) = (6 : Int32)))).2) (own_k X0 q d9_34 ?_)))))
 refine own_rN X0 q hrt (by simp) d9_35 hlk (by decide) ?_
 show QM (([b0, b1, b2] : List Int32) = ([(45 : Int32), (45 : Int32), (104 : Int32), (101 : Int32), (108 : Int32), (112 : Int32)] : List Int32)) h0 n0 _ s₁.heap _
 rw [e0]
 exact ⟨_, rfl, N0, rfl, Or.inr ⟨rfl, by simp []⟩⟩
theorem rm8_3_6 (l : Launch) (Z : State) (a0 : Array Value) (hw : own_hw a0 Z) (a1 : Addr) (a2 : Addr) (t1 t2 : Addr) (k1 k2 : ClassId) (b0 b1 b2 : Int32) (cs0 : Int32) (h0 : Heap) (n0 : Nat) (Z0 : n0 ≤ h0.size) (E1 : Exa Z h0 a1 "java/lang/String") (FC1 : F'0 Z h0 a1 v'0) (FV1 : F'1 Z h0 a1 (.ref t1)) (V1 : Arv Z h0 t1 k1 .byte (3 : Int32) [(.int b0), (.int b1), (.int b2)] v'0) (E2 : Exa Z h0 a2 "java/lang/String") (FC2 : F'0 Z h0 a2 v'0) (FV2 : F'1 Z h0 a2 (.ref t2)) (V2 : Arv Z h0 t2 k2 .byte (6 : Int32) [v'45, v'45, v'104, v'101, v'108, v'112] v'0) (n12 : a1 ≠ a2) (O0 : Old Z n0 h0) (SC_ : own_SC Z cs0) :
  own_M l Z [] own_y14 b'8 3 (some .boolean) ⟨1, 0, 0, 14⟩ #[(.ref a1), (.ref a2)] h0 (QM (([b0, b1, b2] : List Int32) = ([(45 : Int32), (45 : Int32), (104 : Int32), (101 : Int32), (108 : Int32), (112 : Int32)] : List Int32)) h0 n0) := by
 obtain ⟨SCS, hcs⟩ := SC_
 refine own_start (n0 := n0) hw "java/lang/String" (L := #[.val (.ref a1), .val (.ref a2), .unset]) pn_8 (fun {p e s m below meth c s₁} q hx W hml hZ hown hnm hlk hrt X0 e0 N0 => ?_)
 refine own_aln X0 q d8_0 rfl rfl (own_aln X0 q d8_1 rfl rfl (own_stp 7 (fun _ k => Jvm.RoadKit.acmp (g := mkF m 2 _ _) X0 hx rfl rfl rfl (pc0 := 2) (pc' := 7) (same := false) rfl (q.d d8_2) rfl (decide_eq_false fun q => n12 (Value.ref.inj q)) (by decide) (by decide) k) (own_aln X0 q d8_7 rfl rfl ?_)))
 refine own_let ?_; intro g1182_
 obtain ⟨T1183, X1183, e1183, st1183⟩ := instY X0 hx hZ hown (W 43 rfl) e0 (Ins.self E2) (g := g1182_) rfl rfl (q.d d8_8)
 refine own_stp 11 st1183 (own_zn X1183 q d8_11 (((if0 _ _).trans (feq ((by decide) : ¬ ((1 : Int32) = (0 : Int32)))).1)) (own_aln X1183 q d8_14 rfl rfl ?_))
 refine own_let ?_; intro g1184_
 obtain ⟨T1185, X1185, e1185, st1185⟩ := castY X1183 hx hZ hown (W 43 rfl) e1183 (Ins.self E2) (g := g1184_) rfl rfl (q.d d8_15)
 refine own_stp 18 st1185 (own_asn X1185 q d8_18 rfl (l' := #[.val (.ref a1), .val (.ref a2), .val (.ref a2)]) rfl ?_)
 refine own_gS X1185 q hZ e1185 hown (W 44 rfl) (SCS.ext O0.2) d8_19 fun T1186 X1186 e1186 => ?_
 refine own_zn X1186 q d8_22 (((if0 _ _).trans (feq hcs).1)) (own_aln X1186 q d8_25 rfl rfl ?_)
 refine own_gF X1186 q hZ e1186 hown (W 32 rfl) FC1 d8_26 fun T1187 X1187 e1187 => ?_
 refine own_aln X1187 q d8_29 rfl rfl ?_
 refine own_gF X1187 q hZ e1187 hown (W 32 rfl) FC2 d8_30 fun T1188 X1188 e1188 => ?_
 refine own_cn X1188 q d8_33 ((teq (rfl : (0 : Int32) = (0 : Int32))).2) (own_aln X1188 q d8_36 rfl rfl ?_)
 refine own_gF X1188 q hZ e1188 hown (W 31 rfl) FV1 d8_37 fun T1189 X1189 e1189 => ?_
 refine own_aln X1189 q d8_40 rfl rfl ?_
 refine own_gF X1189 q hZ e1189 hown (W 31 rfl) FV2 d8_41 fun T1190 X1190 e1190 => ?_
 refine own_cS X1190 q hZ e1190 hown hml (W 45 rfl) (W 46 rfl) (W 47 rfl) (W 48 rfl) (rm9_3_6 l Z a0 hw t1 t2 k1 k2 b0 b1 b2 h0 n0 Z0 V1 V2) d8_44 [(.ref t1), (.ref t2)] [] own_pd10 rfl rfl 0 (Nat.le_refl _) (by decide) (fun v1191 T1191 L1191 X1191 hQ1191 => ?_)
 obtain ⟨z1191, rfl, N1191q, e1191, hM1191⟩ := hQ1191
 have N1191 := Fr.app N0 N1191q
 refine own_nv ?_
 by_cases hc47_1192 : z1191 = (0 : Int32)
 ·refine own_zy X1191 q d8_47 (((if0 _ _).trans (teq hc47_1192).1)) (own_k X1191 q d8_54 ?_)
  refine own_rN X1191 q hrt (by simp) d8_55 hlk (by decide) ?_
  show QM (([b0, b1, b2] : List Int32) = ([(45 : Int32), (45 : Int32), (104 : Int32), (101 : Int32), (108 : Int32), (112 : Int32)] : List Int32)) h0 n0 _ T1191.heap _
  rw [e1191]
  exact ⟨_, rfl, N1191, rfl, Or.inr ⟨rfl, hM1191.elim (fun r => absurd (r.1.symm.trans hc47_1192) (by decide)) (fun r => r.2)⟩⟩
 ·refine own_zn X1191 q d8_47 (((if0 _ _).trans (feq hc47_1192).1)) (own_k X1191 q d8_50 (own_gt X1191 q d8_51 ?_))
  refine own_rN X1191 q hrt (by simp) d8_55 hlk (by decide) ?_
  show QM (([b0, b1, b2] : List Int32) = ([(45 : Int32), (45 : Int32), (104 : Int32), (101 : Int32), (108 : Int32), (112 : Int32)] : List Int32)) h0 n0 _ T1191.heap _
  rw [e1191]
  exact ⟨_, rfl, N1191, rfl, Or.inl ⟨rfl, hM1191.elim (fun r => r.2) (fun r => absurd r.1 hc47_1192)⟩⟩
theorem rm9_4_2 (l : Launch) (Z : State) (a0 : Array Value) (hw : own_hw a0 Z) (a1 : Addr) (a2 : Addr) (k1 k2 : ClassId) (b0 b1 b2 b3 : Int32) (h0 : Heap) (n0 : Nat) (Z0 : n0 ≤ h0.size) (V1 : Arv Z h0 a1 k1 .byte (4 : Int32) [(.int b0), (.int b1), (.int b2), (.int b3)] v'0) (V2 : Arv Z h0 a2 k2 .byte (2 : Int32) [v'45, v'104] v'0) :
  own_M l Z [] own_y13 b'9 3 (some .boolean) ⟨0, 0, 0, 0⟩ #[(.ref a1), (.ref a2)] h0 (QM (([b0, b1, b2, b3] : List Int32) = ([(45 : Int32), (104 : Int32)] : List Int32)) h0 n0) := by
 refine own_start (n0 := n0) hw "java/lang/StringLatin1" (L := #[.val (.ref a1), .val (.ref a2), .unset]) pn_9 (fun {p e s m below meth c s₁} q hx W hml hZ hown hnm hlk hrt X0 e0 N0 => ?_)
 refine own_aln X0 q d9_0 rfl rfl (own_alen (n := (4 : Int32)) X0 q hZ e0 V1 d9_1 (own_aln X0 q d9_2 rfl rfl (own_alen (n := (2 : Int32)) X0 q hZ e0 V2 d9_3 (own_cy X0 q d9_4 ((feq ((by decide) : ¬ ((4 : Int32) = (2 : Int32)))).2) (own_k X0 q d9_34 ?_)))))
 refine own_rN X0 q hrt (by simp) d9_35 hlk (by decide) ?_
 show QM (([b0, b1, b2, b3] : List Int32) = ([(45 : Int32), (104 : Int32)] : List Int32)) h0 n0 _ s₁.heap _
 rw [e0]
 exact ⟨_, rfl, N0, rfl, Or.inr ⟨rfl, by simp []⟩⟩
theorem rm8_4_2 (l : Launch) (Z : State) (a0 : Array Value) (hw : own_hw a0 Z) (a1 : Addr) (a2 : Addr) (t1 t2 : Addr) (k1 k2 : ClassId) (b0 b1 b2 b3 : Int32) (cs0 : Int32) (h0 : Heap) (n0 : Nat) (Z0 : n0 ≤ h0.size) (E1 : Exa Z h0 a1 "java/lang/String") (FC1 : F'0 Z h0 a1 v'0) (FV1 : F'1 Z h0 a1 (.ref t1)) (V1 : Arv Z h0 t1 k1 .byte (4 : Int32) [(.int b0), (.int b1), (.int b2), (.int b3)] v'0) (E2 : Exa Z h0 a2 "java/lang/String") (FC2 : F'0 Z h0 a2 v'0) (FV2 : F'1 Z h0 a2 (.ref t2)) (V2 : Arv Z h0 t2 k2 .byte (2 : Int32) [v'45, v'104] v'0) (n12 : a1 ≠ a2) (O0 : Old Z n0 h0) (SC_ : own_SC Z cs0) :
  own_M l Z [] own_y14 b'8 3 (some .boolean) ⟨1, 0, 0, 14⟩ #[(.ref a1), (.ref a2)] h0 (QM (([b0, b1, b2, b3] : List Int32) = ([(45 : Int32), (104 : Int32)] : List Int32)) h0 n0) := by
 obtain ⟨SCS, hcs⟩ := SC_
 refine own_start (n0 := n0) hw "java/lang/String" (L := #[.val (.ref a1), .val (.ref a2), .unset]) pn_8 (fun {p e s m below meth c s₁} q hx W hml hZ hown hnm hlk hrt X0 e0 N0 => ?_)
 refine own_aln X0 q d8_0 rfl rfl (own_aln X0 q d8_1 rfl rfl (own_stp 7 (fun _ k => Jvm.RoadKit.acmp (g := mkF m 2 _ _) X0 hx rfl rfl rfl (pc0 := 2) (pc' := 7) (same := false) rfl (q.d d8_2) rfl (decide_eq_false fun q => n12 (Value.ref.inj q)) (by decide) (by decide) k) (own_aln X0 q d8_7 rfl rfl ?_)))
 refine own_let ?_; intro g1204_
 obtain ⟨T1205, X1205, e1205, st1205⟩ := instY X0 hx hZ hown (W 43 rfl) e0 (Ins.self E2) (g := g1204_) rfl rfl (q.d d8_8)
 refine own_stp 11 st1205 (own_zn X1205 q d8_11 (((if0 _ _).trans (feq ((by decide) : ¬ ((1 : Int32) = (0 : Int32)))).1)) (own_aln X1205 q d8_14 rfl rfl ?_))
 refine own_let ?_; intro g1206_
 obtain ⟨T1207, X1207, e1207, st1207⟩ := castY X1205 hx hZ hown (W 43 rfl) e1205 (Ins.self E2) (g := g1206_) rfl rfl (q.d d8_15)
 refine own_stp 18 st1207 (own_asn X1207 q d8_18 rfl (l' := #[.val (.ref a1), .val (.ref a2), .val (.ref a2)]) rfl ?_)
 refine own_gS X1207 q hZ e1207 hown (W 44 rfl) (SCS.ext O0.2) d8_19 fun T1208 X1208 e1208 => ?_
 refine own_zn X1208 q d8_22 (((if0 _ _).trans (feq hcs).1)) (own_aln X1208 q d8_25 rfl rfl ?_)
 refine own_gF X1208 q hZ e1208 hown (W 32 rfl) FC1 d8_26 fun T1209 X1209 e1209 => ?_
 refine own_aln X1209 q d8_29 rfl rfl ?_
 refine own_gF X1209 q hZ e1209 hown (W 32 rfl) FC2 d8_30 fun T1210 X1210 e1210 => ?_
 refine own_cn X1210 q d8_33 ((teq (rfl : (0 : Int32) = (0 : Int32))).2) (own_aln X1210 q d8_36 rfl rfl ?_)
 refine own_gF X1210 q hZ e1210 hown (W 31 rfl) FV1 d8_37 fun T1211 X1211 e1211 => ?_
 refine own_aln X1211 q d8_40 rfl rfl ?_
 refine own_gF X1211 q hZ e1211 hown (W 31 rfl) FV2 d8_41 fun T1212 X1212 e1212 => ?_
 refine own_cS X1212 q hZ e1212 hown hml (W 45 rfl) (W 46 rfl) (W 47 rfl) (W 48 rfl) (rm9_4_2 l Z a0 hw t1 t2 k1 k2 b0 b1 b2 b3 h0 n0 Z0 V1 V2) d8_44 [(.ref t1), (.ref t2)] [] own_pd10 rfl rfl 0 (Nat.le_refl _) (by decide) (fun v1213 T1213 L1213 X1213 hQ1213 => ?_)
 obtain ⟨z1213, rfl, N1213q, e1213, hM1213⟩ := hQ1213
 have N1213 := Fr.app N0 N1213q
 refine own_nv ?_
 by_cases hc47_1214 : z1213 = (0 : Int32)
 ·refine own_zy X1213 q d8_47 (((if0 _ _).trans (teq hc47_1214).1)) (own_k X1213 q d8_54 ?_)
  refine own_rN X1213 q hrt (by simp) d8_55 hlk (by decide) ?_
  show QM (([b0, b1, b2, b3] : List Int32) = ([(45 : Int32), (104 : Int32)] : List Int32)) h0 n0 _ T1213.heap _
  rw [e1213]
  exact ⟨_, rfl, N1213, rfl, Or.inr ⟨rfl, hM1213.elim (fun r => absurd (r.1.symm.trans hc47_1214) (by decide)) (fun r => r.2)⟩⟩
 ·refine own_zn X1213 q d8_47 (((if0 _ _).trans (feq hc47_1214).1)) (own_k X1213 q d8_50 (own_gt X1213 q d8_51 ?_))
  refine own_rN X1213 q hrt (by simp) d8_55 hlk (by decide) ?_
  show QM (([b0, b1, b2, b3] : List Int32) = ([(45 : Int32), (104 : Int32)] : List Int32)) h0 n0 _ T1213.heap _
  rw [e1213]
  exact ⟨_, rfl, N1213, rfl, Or.inl ⟨rfl, hM1213.elim (fun r => r.2) (fun r => absurd r.1 hc47_1214)⟩⟩
theorem rm9_4_6 (l : Launch) (Z : State) (a0 : Array Value) (hw : own_hw a0 Z) (a1 : Addr) (a2 : Addr) (k1 k2 : ClassId) (b0 b1 b2 b3 : Int32) (h0 : Heap) (n0 : Nat) (Z0 : n0 ≤ h0.size) (V1 : Arv Z h0 a1 k1 .byte (4 : Int32) [(.int b0), (.int b1), (.int b2), (.int b3)] v'0) (V2 : Arv Z h0 a2 k2 .byte (6 : Int32) [v'45, v'45, v'104, v'101, v'108, v'112] v'0) :
  own_M l Z [] own_y13 b'9 3 (some .boolean) ⟨0, 0, 0, 0⟩ #[(.ref a1), (.ref a2)] h0 (QM (([b0, b1, b2, b3] : List Int32) = ([(45 : Int32), (45 : Int32), (104 : Int32), (101 : Int32), (108 : Int32), (112 : Int32)] : List Int32)) h0 n0) := by
 refine own_start (n0 := n0) hw "java/lang/StringLatin1" (L := #[.val (.ref a1), .val (.ref a2), .unset]) pn_9 (fun {p e s m below meth c s₁} q hx W hml hZ hown hnm hlk hrt X0 e0 N0 => ?_)
 refine own_aln X0 q d9_0 rfl rfl (own_alen (n := (4 : Int32)) X0 q hZ e0 V1 d9_1 (own_aln X0 q d9_2 rfl rfl (own_alen (n := (6 : Int32)) X0 q hZ e0 V2 d9_3 (own_cy X0 q d9_4 ((feq ((by decide) : ¬ ((4 : Int32) = (6 : Int32)))).2) (own_k X0 q d9_34 ?_)))))
 refine own_rN X0 q hrt (by simp) d9_35 hlk (by decide) ?_
 show QM (([b0, b1, b2, b3] : List Int32) = ([(45 : Int32), (45 : Int32), (104 : Int32), (101 : Int32), (108 : Int32), (112 : Int32)] : List Int32)) h0 n0 _ s₁.heap _
 rw [e0]
 exact ⟨_, rfl, N0, rfl, Or.inr ⟨rfl, by simp []⟩⟩
theorem rm8_4_6 (l : Launch) (Z : State) (a0 : Array Value) (hw : own_hw a0 Z) (a1 : Addr) (a2 : Addr) (t1 t2 : Addr) (k1 k2 : ClassId) (b0 b1 b2 b3 : Int32) (cs0 : Int32) (h0 : Heap) (n0 : Nat) (Z0 : n0 ≤ h0.size) (E1 : Exa Z h0 a1 "java/lang/String") (FC1 : F'0 Z h0 a1 v'0) (FV1 : F'1 Z h0 a1 (.ref t1)) (V1 : Arv Z h0 t1 k1 .byte (4 : Int32) [(.int b0), (.int b1), (.int b2), (.int b3)] v'0) (E2 : Exa Z h0 a2 "java/lang/String") (FC2 : F'0 Z h0 a2 v'0) (FV2 : F'1 Z h0 a2 (.ref t2)) (V2 : Arv Z h0 t2 k2 .byte (6 : Int32) [v'45, v'45, v'104, v'101, v'108, v'112] v'0) (n12 : a1 ≠ a2) (O0 : Old Z n0 h0) (SC_ : own_SC Z cs0) :
  own_M l Z [] own_y14 b'8 3 (some .boolean) ⟨1, 0, 0, 14⟩ #[(.ref a1), (.ref a2)] h0 (QM (([b0, b1, b2, b3] : List Int32) = ([(45 : Int32), (45 : Int32), (104 : Int32), (101 : Int32), (108 : Int32), (112 : Int32)] : List Int32)) h0 n0) := by
 obtain ⟨SCS, hcs⟩ := SC_
 refine own_start (n0 := n0) hw "java/lang/String" (L := #[.val (.ref a1), .val (.ref a2), .unset]) pn_8 (fun {p e s m below meth c s₁} q hx W hml hZ hown hnm hlk hrt X0 e0 N0 => ?_)
 refine own_aln X0 q d8_0 rfl rfl (own_aln X0 q d8_1 rfl rfl (own_stp 7 (fun _ k => Jvm.RoadKit.acmp (g := mkF m 2 _ _) X0 hx rfl rfl rfl (pc0 := 2) (pc' := 7) (same := false) rfl (q.d d8_2) rfl (decide_eq_false fun q => n12 (Value.ref.inj q)) (by decide) (by decide) k) (own_aln X0 q d8_7 rfl rfl ?_)))
 refine own_let ?_; intro g1226_
 obtain ⟨T1227, X1227, e1227, st1227⟩ := instY X0 hx hZ hown (W 43 rfl) e0 (Ins.self E2) (g := g1226_) rfl rfl (q.d d8_8)
 refine own_stp 11 st1227 (own_zn X1227 q d8_11 (((if0 _ _).trans (feq ((by decide) : ¬ ((1 : Int32) = (0 : Int32)))).1)) (own_aln X1227 q d8_14 rfl rfl ?_))
 refine own_let ?_; intro g1228_
 obtain ⟨T1229, X1229, e1229, st1229⟩ := castY X1227 hx hZ hown (W 43 rfl) e1227 (Ins.self E2) (g := g1228_) rfl rfl (q.d d8_15)
 refine own_stp 18 st1229 (own_asn X1229 q d8_18 rfl (l' := #[.val (.ref a1), .val (.ref a2), .val (.ref a2)]) rfl ?_)
 refine own_gS X1229 q hZ e1229 hown (W 44 rfl) (SCS.ext O0.2) d8_19 fun T1230 X1230 e1230 => ?_
 refine own_zn X1230 q d8_22 (((if0 _ _).trans (feq hcs).1)) (own_aln X1230 q d8_25 rfl rfl ?_)
 refine own_gF X1230 q hZ e1230 hown (W 32 rfl) FC1 d8_26 fun T1231 X1231 e1231 => ?_
 refine own_aln X1231 q d8_29 rfl rfl ?_
 refine own_gF X1231 q hZ e1231 hown (W 32 rfl) FC2 d8_30 fun T1232 X1232 e1232 => ?_
 refine own_cn X1232 q d8_33 ((teq (rfl : (0 : Int32) = (0 : Int32))).2) (own_aln X1232 q d8_36 rfl rfl ?_)
 refine own_gF X1232 q hZ e1232 hown (W 31 rfl) FV1 d8_37 fun T1233 X1233 e1233 => ?_
 refine own_aln X1233 q d8_40 rfl rfl ?_
 refine own_gF X1233 q hZ e1233 hown (W 31 rfl) FV2 d8_41 fun T1234 X1234 e1234 => ?_
 refine own_cS X1234 q hZ e1234 hown hml (W 45 rfl) (W 46 rfl) (W 47 rfl) (W 48 rfl) (rm9_4_6 l Z a0 hw t1 t2 k1 k2 b0 b1 b2 b3 h0 n0 Z0 V1 V2) d8_44 [(.ref t1), (.ref t2)] [] own_pd10 rfl rfl 0 (Nat.le_refl _) (by decide) (fun v1235 T1235 L1235 X1235 hQ1235 => ?_)
 obtain ⟨z1235, rfl, N1235q, e1235, hM1235⟩ := hQ1235
 have N1235 := Fr.app N0 N1235q
 refine own_nv ?_
 by_cases hc47_1236 : z1235 = (0 : Int32)
 ·refine own_zy X1235 q d8_47 (((if0 _ _).trans (teq hc47_1236).1)) (own_k X1235 q d8_54 ?_)
  refine own_rN X1235 q hrt (by simp) d8_55 hlk (by decide) ?_
  show QM (([b0, b1, b2, b3] : List Int32) = ([(45 : Int32), (45 : Int32), (104 : Int32), (101 : Int32), (108 : Int32), (112 : Int32)] : List Int32)) h0 n0 _ T1235.heap _
  rw [e1235]
  exact ⟨_, rfl, N1235, rfl, Or.inr ⟨rfl, hM1235.elim (fun r => absurd (r.1.symm.trans hc47_1236) (by decide)) (fun r => r.2)⟩⟩
 ·refine own_zn X1235 q d8_47 (((if0 _ _).trans (feq hc47_1236).1)) (own_k X1235 q d8_50 (own_gt X1235 q d8_51 ?_))
  refine own_rN X1235 q hrt (by simp) d8_55 hlk (by decide) ?_
  show QM (([b0, b1, b2, b3] : List Int32) = ([(45 : Int32), (45 : Int32), (104 : Int32), (101 : Int32), (108 : Int32), (112 : Int32)] : List Int32)) h0 n0 _ T1235.heap _
  rw [e1235]
  exact ⟨_, rfl, N1235, rfl, Or.inl ⟨rfl, hM1235.elim (fun r => r.2) (fun r => absurd r.1 hc47_1236)⟩⟩
theorem rm9_5_2 (l : Launch) (Z : State) (a0 : Array Value) (hw : own_hw a0 Z) (a1 : Addr) (a2 : Addr) (k1 k2 : ClassId) (b0 b1 b2 b3 b4 : Int32) (h0 : Heap) (n0 : Nat) (Z0 : n0 ≤ h0.size) (V1 : Arv Z h0 a1 k1 .byte (5 : Int32) [(.int b0), (.int b1), (.int b2), (.int b3), (.int b4)] v'0) (V2 : Arv Z h0 a2 k2 .byte (2 : Int32) [v'45, v'104] v'0) :
  own_M l Z [] own_y13 b'9 3 (some .boolean) ⟨0, 0, 0, 0⟩ #[(.ref a1), (.ref a2)] h0 (QM (([b0, b1, b2, b3, b4] : List Int32) = ([(45 : Int32), (104 : Int32)] : List Int32)) h0 n0) := by
 refine own_start (n0 := n0) hw "java/lang/StringLatin1" (L := #[.val (.ref a1), .val (.ref a2), .unset]) pn_9 (fun {p e s m below meth c s₁} q hx W hml hZ hown hnm hlk hrt X0 e0 N0 => ?_)
 refine own_aln X0 q d9_0 rfl rfl (own_alen (n := (5 : Int32)) X0 q hZ e0 V1 d9_1 (own_aln X0 q d9_2 rfl rfl (own_alen (n := (2 : Int32)) X0 q hZ e0 V2 d9_3 (own_cy X0 q d9_4 ((feq ((by decide) : ¬ ((5 : Int32) = (2 : Int32)))).2) (own_k X0 q d9_34 ?_)))))
 refine own_rN X0 q hrt (by simp) d9_35 hlk (by decide) ?_
 show QM (([b0, b1, b2, b3, b4] : List Int32) = ([(45 : Int32), (104 : Int32)] : List Int32)) h0 n0 _ s₁.heap _
 rw [e0]
 exact ⟨_, rfl, N0, rfl, Or.inr ⟨rfl, by simp []⟩⟩
theorem rm8_5_2 (l : Launch) (Z : State) (a0 : Array Value) (hw : own_hw a0 Z) (a1 : Addr) (a2 : Addr) (t1 t2 : Addr) (k1 k2 : ClassId) (b0 b1 b2 b3 b4 : Int32) (cs0 : Int32) (h0 : Heap) (n0 : Nat) (Z0 : n0 ≤ h0.size) (E1 : Exa Z h0 a1 "java/lang/String") (FC1 : F'0 Z h0 a1 v'0) (FV1 : F'1 Z h0 a1 (.ref t1)) (V1 : Arv Z h0 t1 k1 .byte (5 : Int32) [(.int b0), (.int b1), (.int b2), (.int b3), (.int b4)] v'0) (E2 : Exa Z h0 a2 "java/lang/String") (FC2 : F'0 Z h0 a2 v'0) (FV2 : F'1 Z h0 a2 (.ref t2)) (V2 : Arv Z h0 t2 k2 .byte (2 : Int32) [v'45, v'104] v'0) (n12 : a1 ≠ a2) (O0 : Old Z n0 h0) (SC_ : own_SC Z cs0) :
  own_M l Z [] own_y14 b'8 3 (some .boolean) ⟨1, 0, 0, 14⟩ #[(.ref a1), (.ref a2)] h0 (QM (([b0, b1, b2, b3, b4] : List Int32) = ([(45 : Int32), (104 : Int32)] : List Int32)) h0 n0) := by
 obtain ⟨SCS, hcs⟩ := SC_
 refine own_start (n0 := n0) hw "java/lang/String" (L := #[.val (.ref a1), .val (.ref a2), .unset]) pn_8 (fun {p e s m below meth c s₁} q hx W hml hZ hown hnm hlk hrt X0 e0 N0 => ?_)
 refine own_aln X0 q d8_0 rfl rfl (own_aln X0 q d8_1 rfl rfl (own_stp 7 (fun _ k => Jvm.RoadKit.acmp (g := mkF m 2 _ _) X0 hx rfl rfl rfl (pc0 := 2) (pc' := 7) (same := false) rfl (q.d d8_2) rfl (decide_eq_false fun q => n12 (Value.ref.inj q)) (by decide) (by decide) k) (own_aln X0 q d8_7 rfl rfl ?_)))
 refine own_let ?_; intro g1248_
 obtain ⟨T1249, X1249, e1249, st1249⟩ := instY X0 hx hZ hown (W 43 rfl) e0 (Ins.self E2) (g := g1248_) rfl rfl (q.d d8_8)
 refine own_stp 11 st1249 (own_zn X1249 q d8_11 (((if0 _ _).trans (feq ((by decide) : ¬ ((1 : Int32) = (0 : Int32)))).1)) (own_aln X1249 q d8_14 rfl rfl ?_))
 refine own_let ?_; intro g1250_
 obtain ⟨T1251, X1251, e1251, st1251⟩ := castY X1249 hx hZ hown (W 43 rfl) e1249 (Ins.self E2) (g := g1250_) rfl rfl (q.d d8_15)
 refine own_stp 18 st1251 (own_asn X1251 q d8_18 rfl (l' := #[.val (.ref a1), .val (.ref a2), .val (.ref a2)]) rfl ?_)
 refine own_gS X1251 q hZ e1251 hown (W 44 rfl) (SCS.ext O0.2) d8_19 fun T1252 X1252 e1252 => ?_
 refine own_zn X1252 q d8_22 (((if0 _ _).trans (feq hcs).1)) (own_aln X1252 q d8_25 rfl rfl ?_)
 refine own_gF X1252 q hZ e1252 hown (W 32 rfl) FC1 d8_26 fun T1253 X1253 e1253 => ?_
 refine own_aln X1253 q d8_29 rfl rfl ?_
 refine own_gF X1253 q hZ e1253 hown (W 32 rfl) FC2 d8_30 fun T1254 X1254 e1254 => ?_
 refine own_cn X1254 q d8_33 ((teq (rfl : (0 : Int32) = (0 : Int32))).2) (own_aln X1254 q d8_36 rfl rfl ?_)
 refine own_gF X1254 q hZ e1254 hown (W 31 rfl) FV1 d8_37 fun T1255 X1255 e1255 => ?_
 refine own_aln X1255 q d8_40 rfl rfl ?_
 refine own_gF X1255 q hZ e1255 hown (W 31 rfl) FV2 d8_41 fun T1256 X1256 e1256 => ?_
 refine own_cS X1256 q hZ e1256 hown hml (W 45 rfl) (W 46 rfl) (W 47 rfl) (W 48 rfl) (rm9_5_2 l Z a0 hw t1 t2 k1 k2 b0 b1 b2 b3 b4 h0 n0 Z0 V1 V2) d8_44 [(.ref t1), (.ref t2)] [] own_pd10 rfl rfl 0 (Nat.le_refl _) (by decide) (fun v1257 T1257 L1257 X1257 hQ1257 => ?_)
 obtain ⟨z1257, rfl, N1257q, e1257, hM1257⟩ := hQ1257
 have N1257 := Fr.app N0 N1257q
 refine own_nv ?_
 by_cases hc47_1258 : z1257 = (0 : Int32)
 ·refine own_zy X1257 q d8_47 (((if0 _ _).trans (teq hc47_1258).1)) (own_k X1257 q d8_54 ?_)
  refine own_rN X1257 q hrt (by simp) d8_55 hlk (by decide) ?_
  show QM (([b0, b1, b2, b3, b4] : List Int32) = ([(45 : Int32), (104 : Int32)] : List Int32)) h0 n0 _ T1257.heap _
  rw [e1257]
  exact ⟨_, rfl, N1257, rfl, Or.inr ⟨rfl, hM1257.elim (fun r => absurd (r.1.symm.trans hc47_1258) (by decide)) (fun r => r.2)⟩⟩
 ·refine own_zn X1257 q d8_47 (((if0 _ _).trans (feq hc47_1258).1)) (own_k X1257 q d8_50 (own_gt X1257 q d8_51 ?_))
  refine own_rN X1257 q hrt (by simp) d8_55 hlk (by decide) ?_
  show QM (([b0, b1, b2, b3, b4] : List Int32) = ([(45 : Int32), (104 : Int32)] : List Int32)) h0 n0 _ T1257.heap _
  rw [e1257]
  exact ⟨_, rfl, N1257, rfl, Or.inl ⟨rfl, hM1257.elim (fun r => r.2) (fun r => absurd r.1 hc47_1258)⟩⟩
theorem rm9_5_6 (l : Launch) (Z : State) (a0 : Array Value) (hw : own_hw a0 Z) (a1 : Addr) (a2 : Addr) (k1 k2 : ClassId) (b0 b1 b2 b3 b4 : Int32) (h0 : Heap) (n0 : Nat) (Z0 : n0 ≤ h0.size) (V1 : Arv Z h0 a1 k1 .byte (5 : Int32) [(.int b0), (.int b1), (.int b2), (.int b3), (.int b4)] v'0) (V2 : Arv Z h0 a2 k2 .byte (6 : Int32) [v'45, v'45, v'104, v'101, v'108, v'112] v'0) :
  own_M l Z [] own_y13 b'9 3 (some .boolean) ⟨0, 0, 0, 0⟩ #[(.ref a1), (.ref a2)] h0 (QM (([b0, b1, b2, b3, b4] : List Int32) = ([(45 : Int32), (45 : Int32), (104 : Int32), (101 : Int32), (108 : Int32), (112 : Int32)] : List Int32)) h0 n0) := by
 refine own_start (n0 := n0) hw "java/lang/StringLatin1" (L := #[.val (.ref a1), .val (.ref a2), .unset]) pn_9 (fun {p e s m below meth c s₁} q hx W hml hZ hown hnm hlk hrt X0 e0 N0 => ?_)
 refine own_aln X0 q d9_0 rfl rfl (own_alen (n := (5 : Int32)) X0 q hZ e0 V1 d9_1 (own_aln X0 q d9_2 rfl rfl (own_alen (n := (6 : Int32)) X0 q hZ e0 V2 d9_3 (own_cy X0 q d9_4 ((feq ((by decide) : ¬ ((5 : Int32) = (6 : Int32)))).2) (own_k X0 q d9_34 ?_)))))
 refine own_rN X0 q hrt (by simp) d9_35 hlk (by decide) ?_
 show QM (([b0, b1, b2, b3, b4] : List Int32) = ([(45 : Int32), (45 : Int32), (104 : Int32), (101 : Int32), (108 : Int32), (112 : Int32)] : List Int32)) h0 n0 _ s₁.heap _
 rw [e0]
 exact ⟨_, rfl, N0, rfl, Or.inr ⟨rfl, by simp []⟩⟩
theorem rm8_5_6 (l : Launch) (Z : State) (a0 : Array Value) (hw : own_hw a0 Z) (a1 : Addr) (a2 : Addr) (t1 t2 : Addr) (k1 k2 : ClassId) (b0 b1 b2 b3 b4 : Int32) (cs0 : Int32) (h0 : Heap) (n0 : Nat) (Z0 : n0 ≤ h0.size) (E1 : Exa Z h0 a1 "java/lang/String") (FC1 : F'0 Z h0 a1 v'0) (FV1 : F'1 Z h0 a1 (.ref t1)) (V1 : Arv Z h0 t1 k1 .byte (5 : Int32) [(.int b0), (.int b1), (.int b2), (.int b3), (.int b4)] v'0) (E2 : Exa Z h0 a2 "java/lang/String") (FC2 : F'0 Z h0 a2 v'0) (FV2 : F'1 Z h0 a2 (.ref t2)) (V2 : Arv Z h0 t2 k2 .byte (6 : Int32) [v'45, v'45, v'104, v'101, v'108, v'112] v'0) (n12 : a1 ≠ a2) (O0 : Old Z n0 h0) (SC_ : own_SC Z cs0) :
  own_M l Z [] own_y14 b'8 3 (some .boolean) ⟨1, 0, 0, 14⟩ #[(.ref a1), (.ref a2)] h0 (QM (([b0, b1, b2, b3, b4] : List Int32) = ([(45 : Int32), (45 : Int32), (104 : Int32), (101 : Int32), (108 : Int32), (112 : Int32)] : List Int32)) h0 n0) := by
 obtain ⟨SCS, hcs⟩ := SC_
 refine own_start (n0 := n0) hw "java/lang/String" (L := #[.val (.ref a1), .val (.ref a2), .unset]) pn_8 (fun {p e s m below meth c s₁} q hx W hml hZ hown hnm hlk hrt X0 e0 N0 => ?_)
 refine own_aln X0 q d8_0 rfl rfl (own_aln X0 q d8_1 rfl rfl (own_stp 7 (fun _ k => Jvm.RoadKit.acmp (g := mkF m 2 _ _) X0 hx rfl rfl rfl (pc0 := 2) (pc' := 7) (same := false) rfl (q.d d8_2) rfl (decide_eq_false fun q => n12 (Value.ref.inj q)) (by decide) (by decide) k) (own_aln X0 q d8_7 rfl rfl ?_)))
 refine own_let ?_; intro g1270_
 obtain ⟨T1271, X1271, e1271, st1271⟩ := instY X0 hx hZ hown (W 43 rfl) e0 (Ins.self E2) (g := g1270_) rfl rfl (q.d d8_8)
 refine own_stp 11 st1271 (own_zn X1271 q d8_11 (((if0 _ _).trans (feq ((by decide) : ¬ ((1 : Int32) = (0 : Int32)))).1)) (own_aln X1271 q d8_14 rfl rfl ?_))
 refine own_let ?_; intro g1272_
 obtain ⟨T1273, X1273, e1273, st1273⟩ := castY X1271 hx hZ hown (W 43 rfl) e1271 (Ins.self E2) (g := g1272_) rfl rfl (q.d d8_15)
 refine own_stp 18 st1273 (own_asn X1273 q d8_18 rfl (l' := #[.val (.ref a1), .val (.ref a2), .val (.ref a2)]) rfl ?_)
 refine own_gS X1273 q hZ e1273 hown (W 44 rfl) (SCS.ext O0.2) d8_19 fun T1274 X1274 e1274 => ?_
 refine own_zn X1274 q d8_22 (((if0 _ _).trans (feq hcs).1)) (own_aln X1274 q d8_25 rfl rfl ?_)
 refine own_gF X1274 q hZ e1274 hown (W 32 rfl) FC1 d8_26 fun T1275 X1275 e1275 => ?_
 refine own_aln X1275 q d8_29 rfl rfl ?_
 refine own_gF X1275 q hZ e1275 hown (W 32 rfl) FC2 d8_30 fun T1276 X1276 e1276 => ?_
 refine own_cn X1276 q d8_33 ((teq (rfl : (0 : Int32) = (0 : Int32))).2) (own_aln X1276 q d8_36 rfl rfl ?_)
 refine own_gF X1276 q hZ e1276 hown (W 31 rfl) FV1 d8_37 fun T1277 X1277 e1277 => ?_
 refine own_aln X1277 q d8_40 rfl rfl ?_
 refine own_gF X1277 q hZ e1277 hown (W 31 rfl) FV2 d8_41 fun T1278 X1278 e1278 => ?_
 refine own_cS X1278 q hZ e1278 hown hml (W 45 rfl) (W 46 rfl) (W 47 rfl) (W 48 rfl) (rm9_5_6 l Z a0 hw t1 t2 k1 k2 b0 b1 b2 b3 b4 h0 n0 Z0 V1 V2) d8_44 [(.ref t1), (.ref t2)] [] own_pd10 rfl rfl 0 (Nat.le_refl _) (by decide) (fun v1279 T1279 L1279 X1279 hQ1279 => ?_)
 obtain ⟨z1279, rfl, N1279q, e1279, hM1279⟩ := hQ1279
 have N1279 := Fr.app N0 N1279q
 refine own_nv ?_
 by_cases hc47_1280 : z1279 = (0 : Int32)
 ·refine own_zy X1279 q d8_47 (((if0 _ _).trans (teq hc47_1280).1)) (own_k X1279 q d8_54 ?_)
  refine own_rN X1279 q hrt (by simp) d8_55 hlk (by decide) ?_
  show QM (([b0, b1, b2, b3, b4] : List Int32) = ([(45 : Int32), (45 : Int32), (104 : Int32), (101 : Int32), (108 : Int32), (112 : Int32)] : List Int32)) h0 n0 _ T1279.heap _
  rw [e1279]
  exact ⟨_, rfl, N1279, rfl, Or.inr ⟨rfl, hM1279.elim (fun r => absurd (r.1.symm.trans hc47_1280) (by decide)) (fun r => r.2)⟩⟩
 ·refine own_zn X1279 q d8_47 (((if0 _ _).trans (feq hc47_1280).1)) (own_k X1279 q d8_50 (own_gt X1279 q d8_51 ?_))
  refine own_rN X1279 q hrt (by simp) d8_55 hlk (by decide) ?_
  show QM (([b0, b1, b2, b3, b4] : List Int32) = ([(45 : Int32), (45 : Int32), (104 : Int32), (101 : Int32), (108 : Int32), (112 : Int32)] : List Int32)) h0 n0 _ T1279.heap _
  rw [e1279]
  exact ⟨_, rfl, N1279, rfl, Or.inl ⟨rfl, hM1279.elim (fun r => r.2) (fun r => absurd r.1 hc47_1280)⟩⟩
theorem rm9_6_2 (l : Launch) (Z : State) (a0 : Array Value) (hw : own_hw a0 Z) (a1 : Addr) (a2 : Addr) (k1 k2 : ClassId) (b0 b1 b2 b3 b4 b5 : Int32) (h0 : Heap) (n0 : Nat) (Z0 : n0 ≤ h0.size) (V1 : Arv Z h0 a1 k1 .byte (6 : Int32) [(.int b0), (.int b1), (.int b2), (.int b3), (.int b4), (.int b5)] v'0) (V2 : Arv Z h0 a2 k2 .byte (2 : Int32) [v'45, v'104] v'0) :
  own_M l Z [] own_y13 b'9 3 (some .boolean) ⟨0, 0, 0, 0⟩ #[(.ref a1), (.ref a2)] h0 (QM (([b0, b1, b2, b3, b4, b5] : List Int32) = ([(45 : Int32), (104 : Int32)] : List Int32)) h0 n0) := by
 refine own_start (n0 := n0) hw "java/lang/StringLatin1" (L := #[.val (.ref a1), .val (.ref a2), .unset]) pn_9 (fun {p e s m below meth c s₁} q hx W hml hZ hown hnm hlk hrt X0 e0 N0 => ?_)
 refine own_aln X0 q d9_0 rfl rfl (own_alen (n := (6 : Int32)) X0 q hZ e0 V1 d9_1 (own_aln X0 q d9_2 rfl rfl (own_alen (n := (2 : Int32)) X0 q hZ e0 V2 d9_3 (own_cy X0 q d9_4 ((feq ((by decide) : ¬ ((6 : Int32) = (2 : Int32)))).2) (own_k X0 q d9_34 ?_)))))
 refine own_rN X0 q hrt (by simp) d9_35 hlk (by decide) ?_
 show QM (([b0, b1, b2, b3, b4, b5] : List Int32) = ([(45 : Int32), (104 : Int32)] : List Int32)) h0 n0 _ s₁.heap _
 rw [e0]
 exact ⟨_, rfl, N0, rfl, Or.inr ⟨rfl, by simp []⟩⟩
theorem rm8_6_2 (l : Launch) (Z : State) (a0 : Array Value) (hw : own_hw a0 Z) (a1 : Addr) (a2 : Addr) (t1 t2 : Addr) (k1 k2 : ClassId) (b0 b1 b2 b3 b4 b5 : Int32) (cs0 : Int32) (h0 : Heap) (n0 : Nat) (Z0 : n0 ≤ h0.size) (E1 : Exa Z h0 a1 "java/lang/String") (FC1 : F'0 Z h0 a1 v'0) (FV1 : F'1 Z h0 a1 (.ref t1)) (V1 : Arv Z h0 t1 k1 .byte (6 : Int32) [(.int b0), (.int b1), (.int b2), (.int b3), (.int b4), (.int b5)] v'0) (E2 : Exa Z h0 a2 "java/lang/String") (FC2 : F'0 Z h0 a2 v'0) (FV2 : F'1 Z h0 a2 (.ref t2)) (V2 : Arv Z h0 t2 k2 .byte (2 : Int32) [v'45, v'104] v'0) (n12 : a1 ≠ a2) (O0 : Old Z n0 h0) (SC_ : own_SC Z cs0) :
  own_M l Z [] own_y14 b'8 3 (some .boolean) ⟨1, 0, 0, 14⟩ #[(.ref a1), (.ref a2)] h0 (QM (([b0, b1, b2, b3, b4, b5] : List Int32) = ([(45 : Int32), (104 : Int32)] : List Int32)) h0 n0) := by
 obtain ⟨SCS, hcs⟩ := SC_
 refine own_start (n0 := n0) hw "java/lang/String" (L := #[.val (.ref a1), .val (.ref a2), .unset]) pn_8 (fun {p e s m below meth c s₁} q hx W hml hZ hown hnm hlk hrt X0 e0 N0 => ?_)
 refine own_aln X0 q d8_0 rfl rfl (own_aln X0 q d8_1 rfl rfl (own_stp 7 (fun _ k => Jvm.RoadKit.acmp (g := mkF m 2 _ _) X0 hx rfl rfl rfl (pc0 := 2) (pc' := 7) (same := false) rfl (q.d d8_2) rfl (decide_eq_false fun q => n12 (Value.ref.inj q)) (by decide) (by decide) k) (own_aln X0 q d8_7 rfl rfl ?_)))
 refine own_let ?_; intro g1292_
 obtain ⟨T1293, X1293, e1293, st1293⟩ := instY X0 hx hZ hown (W 43 rfl) e0 (Ins.self E2) (g := g1292_) rfl rfl (q.d d8_8)
 refine own_stp 11 st1293 (own_zn X1293 q d8_11 (((if0 _ _).trans (feq ((by decide) : ¬ ((1 : Int32) = (0 : Int32)))).1)) (own_aln X1293 q d8_14 rfl rfl ?_))
 refine own_let ?_; intro g1294_
 obtain ⟨T1295, X1295, e1295, st1295⟩ := castY X1293 hx hZ hown (W 43 rfl) e1293 (Ins.self E2) (g := g1294_) rfl rfl (q.d d8_15)
 refine own_stp 18 st1295 (own_asn X1295 q d8_18 rfl (l' := #[.val (.ref a1), .val (.ref a2), .val (.ref a2)]) rfl ?_)
 refine own_gS X1295 q hZ e1295 hown (W 44 rfl) (SCS.ext O0.2) d8_19 fun T1296 X1296 e1296 => ?_
 refine own_zn X1296 q d8_22 (((if0 _ _).trans (feq hcs).1)) (own_aln X1296 q d8_25 rfl rfl ?_)
 refine own_gF X1296 q hZ e1296 hown (W 32 rfl) FC1 d8_26 fun T1297 X1297 e1297 => ?_
 refine own_aln X1297 q d8_29 rfl rfl ?_
 refine own_gF X1297 q hZ e1297 hown (W 32 rfl) FC2 d8_30 fun T1298 X1298 e1298 => ?_
 refine own_cn X1298 q d8_33 ((teq (rfl : (0 : Int32) = (0 : Int32))).2) (own_aln X1298 q d8_36 rfl rfl ?_)
 refine own_gF X1298 q hZ e1298 hown (W 31 rfl) FV1 d8_37 fun T1299 X1299 e1299 => ?_
 refine own_aln X1299 q d8_40 rfl rfl ?_
 refine own_gF X1299 q hZ e1299 hown (W 31 rfl) FV2 d8_41 fun T1300 X1300 e1300 => ?_
 refine own_cS X1300 q hZ e1300 hown hml (W 45 rfl) (W 46 rfl) (W 47 rfl) (W 48 rfl) (rm9_6_2 l Z a0 hw t1 t2 k1 k2 b0 b1 b2 b3 b4 b5 h0 n0 Z0 V1 V2) d8_44 [(.ref t1), (.ref t2)] [] own_pd10 rfl rfl 0 (Nat.le_refl _) (by decide) (fun v1301 T1301 L1301 X1301 hQ1301 => ?_)
 obtain ⟨z1301, rfl, N1301q, e1301, hM1301⟩ := hQ1301
 have N1301 := Fr.app N0 N1301q
 refine own_nv ?_
 by_cases hc47_1302 : z1301 = (0 : Int32)
 ·refine own_zy X1301 q d8_47 (((if0 _ _).trans (teq hc47_1302).1)) (own_k X1301 q d8_54 ?_)
  refine own_rN X1301 q hrt (by simp) d8_55 hlk (by decide) ?_
  show QM (([b0, b1, b2, b3, b4, b5] : List Int32) = ([(45 : Int32), (104 : Int32)] : List Int32)) h0 n0 _ T1301.heap _
  rw [e1301]
  exact ⟨_, rfl, N1301, rfl, Or.inr ⟨rfl, hM1301.elim (fun r => absurd (r.1.symm.trans hc47_1302) (by decide)) (fun r => r.2)⟩⟩
 ·refine own_zn X1301 q d8_47 (((if0 _ _).trans (feq hc47_1302).1)) (own_k X1301 q d8_50 (own_gt X1301 q d8_51 ?_))
  refine own_rN X1301 q hrt (by simp) d8_55 hlk (by decide) ?_
  show QM (([b0, b1, b2, b3, b4, b5] : List Int32) = ([(45 : Int32), (104 : Int32)] : List Int32)) h0 n0 _ T1301.heap _
  rw [e1301]
  exact ⟨_, rfl, N1301, rfl, Or.inl ⟨rfl, hM1301.elim (fun r => r.2) (fun r => absurd r.1 hc47_1302)⟩⟩
theorem rm9_6_6 (l : Launch) (Z : State) (a0 : Array Value) (hw : own_hw a0 Z) (a1 : Addr) (a2 : Addr) (k1 k2 : ClassId) (b0 b1 b2 b3 b4 b5 : Int32) (h0 : Heap) (n0 : Nat) (Z0 : n0 ≤ h0.size) (V1 : Arv Z h0 a1 k1 .byte (6 : Int32) [(.int b0), (.int b1), (.int b2), (.int b3), (.int b4), (.int b5)] v'0) (V2 : Arv Z h0 a2 k2 .byte (6 : Int32) [v'45, v'45, v'104, v'101, v'108, v'112] v'0) :
  own_M l Z [] own_y13 b'9 3 (some .boolean) ⟨0, 0, 0, 0⟩ #[(.ref a1), (.ref a2)] h0 (QM (([b0, b1, b2, b3, b4, b5] : List Int32) = ([(45 : Int32), (45 : Int32), (104 : Int32), (101 : Int32), (108 : Int32), (112 : Int32)] : List Int32)) h0 n0) := by
 refine own_start (n0 := n0) hw "java/lang/StringLatin1" (L := #[.val (.ref a1), .val (.ref a2), .unset]) pn_9 (fun {p e s m below meth c s₁} q hx W hml hZ hown hnm hlk hrt X0 e0 N0 => ?_)
 refine own_aln X0 q d9_0 rfl rfl (own_alen (n := (6 : Int32)) X0 q hZ e0 V1 d9_1 (own_aln X0 q d9_2 rfl rfl (own_alen (n := (6 : Int32)) X0 q hZ e0 V2 d9_3 (own_cn X0 q d9_4 ((teq (rfl : (6 : Int32) = (6 : Int32))).2) (own_k X0 q d9_7 (own_isn X0 q d9_8 (l' := #[.val (.ref a1), .val (.ref a2), .val v'0]) rfl (own_iln X0 q d9_9 rfl (own_aln X0 q d9_10 rfl rfl (own_alen (n := (6 : Int32)) X0 q hZ e0 V1 d9_11 (own_cn X0 q d9_12 ((tlt ((by decide) : (0 : Int32) < (6 : Int32))).2.1) (own_aln X0 q d9_15 rfl rfl ?_)))))))))))
 refine own_iln X0 q d9_16 rfl (own_bld (v := (.int b0)) X0 q hZ e0 V1 d9_17 (by decide) rfl (own_aln X0 q d9_18 rfl rfl (own_iln X0 q d9_19 rfl (own_bld (v := v'45) X0 q hZ e0 V2 d9_20 (by decide) rfl ?_))))
 by_cases hc21_1309 : b0 = (45 : Int32)
 ·refine own_cy X0 q d9_21 ((teq hc21_1309).1) (own_iik X0 q d9_26 rfl (show ((0 : Int32) + (1 : Int32)) = (1 : Int32) by decide) (l' := #[.val (.ref a1), .val (.ref a2), .val v'1]) rfl (own_gt X0 q d9_29 (own_iln X0 q d9_9 rfl (own_aln X0 q d9_10 rfl rfl (own_alen (n := (6 : Int32)) X0 q hZ e0 V1 d9_11 (own_cn X0 q d9_12 ((tlt ((by decide) : (1 : Int32) < (6 : Int32))).2.1) (own_aln X0 q d9_15 rfl rfl (own_iln X0 q d9_16 rfl (own_bld (v := (.int b1)) X0 q hZ e0 V1 d9_17 (by decide) rfl (own_aln X0 q d9_18 rfl rfl (own_iln X0 q d9_19 rfl ?_)))))))))))
  refine own_bld (v := v'45) X0 q hZ e0 V2 d9_20 (by decide) rfl ?_
  by_cases hc21_1310 : b1 = (45 : Int32)
  ·refine own_cy X0 q d9_21 ((teq hc21_1310).1) (own_iik X0 q d9_26 rfl (show ((1 : Int32) + (1 : Int32)) = (2 : Int32) by decide) (l' := #[.val (.ref a1), .val (.ref a2), .val v'2]) rfl (own_gt X0 q d9_29 (own_iln X0 q d9_9 rfl (own_aln X0 q d9_10 rfl rfl (own_alen (n := (6 : Int32)) X0 q hZ e0 V1 d9_11 (own_cn X0 q d9_12 ((tlt ((by decide) : (2 : Int32) < (6 : Int32))).2.1) (own_aln X0 q d9_15 rfl rfl (own_iln X0 q d9_16 rfl (own_bld (v := (.int b2)) X0 q hZ e0 V1 d9_17 (by decide) rfl (own_aln X0 q d9_18 rfl rfl (own_iln X0 q d9_19 rfl ?_)))))))))))
   refine own_bld (v := v'104) X0 q hZ e0 V2 d9_20 (by decide) rfl ?_
   by_cases hc21_1311 : b2 = (104 : Int32)
   ·refine own_cy X0 q d9_21 ((teq hc21_1311).1) (own_iik X0 q d9_26 rfl (show ((2 : Int32) + (1 : Int32)) = (3 : Int32) by decide) (l' := #[.val (.ref a1), .val (.ref a2), .val v'3]) rfl (own_gt X0 q d9_29 (own_iln X0 q d9_9 rfl (own_aln X0 q d9_10 rfl rfl (own_alen (n := (6 : Int32)) X0 q hZ e0 V1 d9_11 (own_cn X0 q d9_12 ((tlt ((by decide) : (3 : Int32) < (6 : Int32))).2.1) (own_aln X0 q d9_15 rfl rfl (own_iln X0 q d9_16 rfl (own_bld (v := (.int b3)) X0 q hZ e0 V1 d9_17 (by decide) rfl (own_aln X0 q d9_18 rfl rfl (own_iln X0 q d9_19 rfl ?_)))))))))))
    refine own_bld (v := v'101) X0 q hZ e0 V2 d9_20 (by decide) rfl ?_
    by_cases hc21_1312 : b3 = (101 : Int32)
    ·refine own_cy X0 q d9_21 ((teq hc21_1312).1) (own_iik X0 q d9_26 rfl (show ((3 : Int32) + (1 : Int32)) = (4 : Int32) by decide) (l' := #[.val (.ref a1), .val (.ref a2), .val v'4]) rfl (own_gt X0 q d9_29 (own_iln X0 q d9_9 rfl (own_aln X0 q d9_10 rfl rfl (own_alen (n := (6 : Int32)) X0 q hZ e0 V1 d9_11 (own_cn X0 q d9_12 ((tlt ((by decide) : (4 : Int32) < (6 : Int32))).2.1) (own_aln X0 q d9_15 rfl rfl (own_iln X0 q d9_16 rfl (own_bld (v := (.int b4)) X0 q hZ e0 V1 d9_17 (by decide) rfl (own_aln X0 q d9_18 rfl rfl (own_iln X0 q d9_19 rfl ?_)))))))))))
     refine own_bld (v := v'108) X0 q hZ e0 V2 d9_20 (by decide) rfl ?_
     by_cases hc21_1313 : b4 = (108 : Int32)
     ·refine own_cy X0 q d9_21 ((teq hc21_1313).1) (own_iik X0 q d9_26 rfl (show ((4 : Int32) + (1 : Int32)) = (5 : Int32) by decide) (l' := #[.val (.ref a1), .val (.ref a2), .val v'5]) rfl (own_gt X0 q d9_29 (own_iln X0 q d9_9 rfl (own_aln X0 q d9_10 rfl rfl (own_alen (n := (6 : Int32)) X0 q hZ e0 V1 d9_11 (own_cn X0 q d9_12 ((tlt ((by decide) : (5 : Int32) < (6 : Int32))).2.1) (own_aln X0 q d9_15 rfl rfl (own_iln X0 q d9_16 rfl (own_bld (v := (.int b5)) X0 q hZ e0 V1 d9_17 (by decide) rfl (own_aln X0 q d9_18 rfl rfl (own_iln X0 q d9_19 rfl ?_)))))))))))
      refine own_bld (v := v'112) X0 q hZ e0 V2 d9_20 (by decide) rfl ?_
      by_cases hc21_1314 : b5 = (112 : Int32)
      ·refine own_cy X0 q d9_21 ((teq hc21_1314).1) (own_iik X0 q d9_26 rfl (show ((5 : Int32) + (1 : Int32)) = (6 : Int32) by decide) (l' := #[.val (.ref a1), .val (.ref a2), .val v'6]) rfl (own_gt X0 q d9_29 (own_iln X0 q d9_9 rfl (own_aln X0 q d9_10 rfl rfl (own_alen (n := (6 : Int32)) X0 q hZ e0 V1 d9_11 (own_cy X0 q d9_12 ((flt (Int32.lt_irrefl : ¬ ((6 : Int32) < (6 : Int32)))).2.1) (own_k X0 q d9_32 ?_)))))))
       refine own_rN X0 q hrt (by simp) d9_33 hlk (by decide) ?_
       show QM (([b0, b1, b2, b3, b4, b5] : List Int32) = ([(45 : Int32), (45 : Int32), (104 : Int32), (101 : Int32), (108 : Int32), (112 : Int32)] : List Int32)) h0 n0 _ s₁.heap _
       rw [e0]
       exact ⟨_, rfl, N0, rfl, Or.inl ⟨rfl, by simp [hc21_1309, hc21_1310, hc21_1311, hc21_1312, hc21_1313, hc21_1314]⟩⟩
      ·refine own_cn X0 q d9_21 ((feq hc21_1314).1) (own_k X0 q d9_24 ?_)
       refine own_rN X0 q hrt (by simp) d9_25 hlk (by decide) ?_
       show QM (([b0, b1, b2, b3, b4, b5] : List Int32) = ([(45 : Int32), (45 : Int32), (104 : Int32), (101 : Int32), (108 : Int32), (112 : Int32)] : List Int32)) h0 n0 _ s₁.heap _
       rw [e0]
       exact ⟨_, rfl, N0, rfl, Or.inr ⟨rfl, by simp [hc21_1309, hc21_1310, hc21_1311, hc21_1312, hc21_1313, hc21_1314]⟩⟩
     ·refine own_cn X0 q d9_21 ((feq hc21_1313).1) (own_k X0 q d9_24 ?_)
      refine own_rN X0 q hrt (by simp) d9_25 hlk (by decide) ?_
      show QM (([b0, b1, b2, b3, b4, b5] : List Int32) = ([(45 : Int32), (45 : Int32), (104 : Int32), (101 : Int32), (108 : Int32), (112 : Int32)] : List Int32)) h0 n0 _ s₁.heap _
      rw [e0]
      exact ⟨_, rfl, N0, rfl, Or.inr ⟨rfl, by simp [hc21_1309, hc21_1310, hc21_1311, hc21_1312, hc21_1313]⟩⟩
    ·refine own_cn X0 q d9_21 ((feq hc21_1312).1) (own_k X0 q d9_24 ?_)
     refine own_rN X0 q hrt (by simp) d9_25 hlk (by decide) ?_
     show QM (([b0, b1, b2, b3, b4, b5] : List Int32) = ([(45 : Int32), (45 : Int32), (104 : Int32), (101 : Int32), (108 : Int32), (112 : Int32)] : List Int32)) h0 n0 _ s₁.heap _
     rw [e0]
     exact ⟨_, rfl, N0, rfl, Or.inr ⟨rfl, by simp [hc21_1309, hc21_1310, hc21_1311, hc21_1312]⟩⟩
   ·refine own_cn X0 q d9_21 ((feq hc21_1311).1) (own_k X0 q d9_24 ?_)
    refine own_rN X0 q hrt (by simp) d9_25 hlk (by decide) ?_
    show QM (([b0, b1, b2, b3, b4, b5] : List Int32) = ([(45 : Int32), (45 : Int32), (104 : Int32), (101 : Int32), (108 : Int32), (112 : Int32)] : List Int32)) h0 n0 _ s₁.heap _
    rw [e0]
    exact ⟨_, rfl, N0, rfl, Or.inr ⟨rfl, by simp [hc21_1309, hc21_1310, hc21_1311]⟩⟩
  ·refine own_cn X0 q d9_21 ((feq hc21_1310).1) (own_k X0 q d9_24 ?_)
   refine own_rN X0 q hrt (by simp) d9_25 hlk (by decide) ?_
   show QM (([b0, b1, b2, b3, b4, b5] : List Int32) = ([(45 : Int32), (45 : Int32), (104 : Int32), (101 : Int32), (108 : Int32), (112 : Int32)] : List Int32)) h0 n0 _ s₁.heap _
   rw [e0]
   exact ⟨_, rfl, N0, rfl, Or.inr ⟨rfl, by simp [hc21_1309, hc21_1310]⟩⟩
 ·refine own_cn X0 q d9_21 ((feq hc21_1309).1) (own_k X0 q d9_24 ?_)
  refine own_rN X0 q hrt (by simp) d9_25 hlk (by decide) ?_
  show QM (([b0, b1, b2, b3, b4, b5] : List Int32) = ([(45 : Int32), (45 : Int32), (104 : Int32), (101 : Int32), (108 : Int32), (112 : Int32)] : List Int32)) h0 n0 _ s₁.heap _
  rw [e0]
  exact ⟨_, rfl, N0, rfl, Or.inr ⟨rfl, by simp [hc21_1309]⟩⟩
theorem rm8_6_6 (l : Launch) (Z : State) (a0 : Array Value) (hw : own_hw a0 Z) (a1 : Addr) (a2 : Addr) (t1 t2 : Addr) (k1 k2 : ClassId) (b0 b1 b2 b3 b4 b5 : Int32) (cs0 : Int32) (h0 : Heap) (n0 : Nat) (Z0 : n0 ≤ h0.size) (E1 : Exa Z h0 a1 "java/lang/String") (FC1 : F'0 Z h0 a1 v'0) (FV1 : F'1 Z h0 a1 (.ref t1)) (V1 : Arv Z h0 t1 k1 .byte (6 : Int32) [(.int b0), (.int b1), (.int b2), (.int b3), (.int b4), (.int b5)] v'0) (E2 : Exa Z h0 a2 "java/lang/String") (FC2 : F'0 Z h0 a2 v'0) (FV2 : F'1 Z h0 a2 (.ref t2)) (V2 : Arv Z h0 t2 k2 .byte (6 : Int32) [v'45, v'45, v'104, v'101, v'108, v'112] v'0) (n12 : a1 ≠ a2) (O0 : Old Z n0 h0) (SC_ : own_SC Z cs0) :
  own_M l Z [] own_y14 b'8 3 (some .boolean) ⟨1, 0, 0, 14⟩ #[(.ref a1), (.ref a2)] h0 (QM (([b0, b1, b2, b3, b4, b5] : List Int32) = ([(45 : Int32), (45 : Int32), (104 : Int32), (101 : Int32), (108 : Int32), (112 : Int32)] : List Int32)) h0 n0) := by
 obtain ⟨SCS, hcs⟩ := SC_
 refine own_start (n0 := n0) hw "java/lang/String" (L := #[.val (.ref a1), .val (.ref a2), .unset]) pn_8 (fun {p e s m below meth c s₁} q hx W hml hZ hown hnm hlk hrt X0 e0 N0 => ?_)
 refine own_aln X0 q d8_0 rfl rfl (own_aln X0 q d8_1 rfl rfl (own_stp 7 (fun _ k => Jvm.RoadKit.acmp (g := mkF m 2 _ _) X0 hx rfl rfl rfl (pc0 := 2) (pc' := 7) (same := false) rfl (q.d d8_2) rfl (decide_eq_false fun q => n12 (Value.ref.inj q)) (by decide) (by decide) k) (own_aln X0 q d8_7 rfl rfl ?_)))
 refine own_let ?_; intro g1326_
 obtain ⟨T1327, X1327, e1327, st1327⟩ := instY X0 hx hZ hown (W 43 rfl) e0 (Ins.self E2) (g := g1326_) rfl rfl (q.d d8_8)
 refine own_stp 11 st1327 (own_zn X1327 q d8_11 (((if0 _ _).trans (feq ((by decide) : ¬ ((1 : Int32) = (0 : Int32)))).1)) (own_aln X1327 q d8_14 rfl rfl ?_))
 refine own_let ?_; intro g1328_
 obtain ⟨T1329, X1329, e1329, st1329⟩ := castY X1327 hx hZ hown (W 43 rfl) e1327 (Ins.self E2) (g := g1328_) rfl rfl (q.d d8_15)
 refine own_stp 18 st1329 (own_asn X1329 q d8_18 rfl (l' := #[.val (.ref a1), .val (.ref a2), .val (.ref a2)]) rfl ?_)
 refine own_gS X1329 q hZ e1329 hown (W 44 rfl) (SCS.ext O0.2) d8_19 fun T1330 X1330 e1330 => ?_
 refine own_zn X1330 q d8_22 (((if0 _ _).trans (feq hcs).1)) (own_aln X1330 q d8_25 rfl rfl ?_)
 refine own_gF X1330 q hZ e1330 hown (W 32 rfl) FC1 d8_26 fun T1331 X1331 e1331 => ?_
 refine own_aln X1331 q d8_29 rfl rfl ?_
 refine own_gF X1331 q hZ e1331 hown (W 32 rfl) FC2 d8_30 fun T1332 X1332 e1332 => ?_
 refine own_cn X1332 q d8_33 ((teq (rfl : (0 : Int32) = (0 : Int32))).2) (own_aln X1332 q d8_36 rfl rfl ?_)
 refine own_gF X1332 q hZ e1332 hown (W 31 rfl) FV1 d8_37 fun T1333 X1333 e1333 => ?_
 refine own_aln X1333 q d8_40 rfl rfl ?_
 refine own_gF X1333 q hZ e1333 hown (W 31 rfl) FV2 d8_41 fun T1334 X1334 e1334 => ?_
 refine own_cS X1334 q hZ e1334 hown hml (W 45 rfl) (W 46 rfl) (W 47 rfl) (W 48 rfl) (rm9_6_6 l Z a0 hw t1 t2 k1 k2 b0 b1 b2 b3 b4 b5 h0 n0 Z0 V1 V2) d8_44 [(.ref t1), (.ref t2)] [] own_pd10 rfl rfl 0 (Nat.le_refl _) (by decide) (fun v1335 T1335 L1335 X1335 hQ1335 => ?_)
 obtain ⟨z1335, rfl, N1335q, e1335, hM1335⟩ := hQ1335
 have N1335 := Fr.app N0 N1335q
 refine own_nv ?_
 by_cases hc47_1336 : z1335 = (0 : Int32)
 ·refine own_zy X1335 q d8_47 (((if0 _ _).trans (teq hc47_1336).1)) (own_k X1335 q d8_54 ?_)
  refine own_rN X1335 q hrt (by simp) d8_55 hlk (by decide) ?_
  show QM (([b0, b1, b2, b3, b4, b5] : List Int32) = ([(45 : Int32), (45 : Int32), (104 : Int32), (101 : Int32), (108 : Int32), (112 : Int32)] : List Int32)) h0 n0 _ T1335.heap _
  rw [e1335]
  exact ⟨_, rfl, N1335, rfl, Or.inr ⟨rfl, hM1335.elim (fun r => absurd (r.1.symm.trans hc47_1336) (by decide)) (fun r => r.2)⟩⟩
 ·refine own_zn X1335 q d8_47 (((if0 _ _).trans (feq hc47_1336).1)) (own_k X1335 q d8_50 (own_gt X1335 q d8_51 ?_))
  refine own_rN X1335 q hrt (by simp) d8_55 hlk (by decide) ?_
  show QM (([b0, b1, b2, b3, b4, b5] : List Int32) = ([(45 : Int32), (45 : Int32), (104 : Int32), (101 : Int32), (108 : Int32), (112 : Int32)] : List Int32)) h0 n0 _ T1335.heap _
  rw [e1335]
  exact ⟨_, rfl, N1335, rfl, Or.inl ⟨rfl, hM1335.elim (fun r => r.2) (fun r => absurd r.1 hc47_1336)⟩⟩
theorem rm9_7_2 (l : Launch) (Z : State) (a0 : Array Value) (hw : own_hw a0 Z) (a1 : Addr) (a2 : Addr) (k1 k2 : ClassId) (b0 b1 b2 b3 b4 b5 b6 : Int32) (h0 : Heap) (n0 : Nat) (Z0 : n0 ≤ h0.size) (V1 : Arv Z h0 a1 k1 .byte (7 : Int32) [(.int b0), (.int b1), (.int b2), (.int b3), (.int b4), (.int b5), (.int b6)] v'0) (V2 : Arv Z h0 a2 k2 .byte (2 : Int32) [v'45, v'104] v'0) :
  own_M l Z [] own_y13 b'9 3 (some .boolean) ⟨0, 0, 0, 0⟩ #[(.ref a1), (.ref a2)] h0 (QM (([b0, b1, b2, b3, b4, b5, b6] : List Int32) = ([(45 : Int32), (104 : Int32)] : List Int32)) h0 n0) := by
 refine own_start (n0 := n0) hw "java/lang/StringLatin1" (L := #[.val (.ref a1), .val (.ref a2), .unset]) pn_9 (fun {p e s m below meth c s₁} q hx W hml hZ hown hnm hlk hrt X0 e0 N0 => ?_)
 refine own_aln X0 q d9_0 rfl rfl (own_alen (n := (7 : Int32)) X0 q hZ e0 V1 d9_1 (own_aln X0 q d9_2 rfl rfl (own_alen (n := (2 : Int32)) X0 q hZ e0 V2 d9_3 (own_cy X0 q d9_4 ((feq ((by decide) : ¬ ((7 : Int32) = (2 : Int32)))).2) (own_k X0 q d9_34 ?_)))))
 refine own_rN X0 q hrt (by simp) d9_35 hlk (by decide) ?_
 show QM (([b0, b1, b2, b3, b4, b5, b6] : List Int32) = ([(45 : Int32), (104 : Int32)] : List Int32)) h0 n0 _ s₁.heap _
 rw [e0]
 exact ⟨_, rfl, N0, rfl, Or.inr ⟨rfl, by simp []⟩⟩
theorem rm8_7_2 (l : Launch) (Z : State) (a0 : Array Value) (hw : own_hw a0 Z) (a1 : Addr) (a2 : Addr) (t1 t2 : Addr) (k1 k2 : ClassId) (b0 b1 b2 b3 b4 b5 b6 : Int32) (cs0 : Int32) (h0 : Heap) (n0 : Nat) (Z0 : n0 ≤ h0.size) (E1 : Exa Z h0 a1 "java/lang/String") (FC1 : F'0 Z h0 a1 v'0) (FV1 : F'1 Z h0 a1 (.ref t1)) (V1 : Arv Z h0 t1 k1 .byte (7 : Int32) [(.int b0), (.int b1), (.int b2), (.int b3), (.int b4), (.int b5), (.int b6)] v'0) (E2 : Exa Z h0 a2 "java/lang/String") (FC2 : F'0 Z h0 a2 v'0) (FV2 : F'1 Z h0 a2 (.ref t2)) (V2 : Arv Z h0 t2 k2 .byte (2 : Int32) [v'45, v'104] v'0) (n12 : a1 ≠ a2) (O0 : Old Z n0 h0) (SC_ : own_SC Z cs0) :
  own_M l Z [] own_y14 b'8 3 (some .boolean) ⟨1, 0, 0, 14⟩ #[(.ref a1), (.ref a2)] h0 (QM (([b0, b1, b2, b3, b4, b5, b6] : List Int32) = ([(45 : Int32), (104 : Int32)] : List Int32)) h0 n0) := by
 obtain ⟨SCS, hcs⟩ := SC_
 refine own_start (n0 := n0) hw "java/lang/String" (L := #[.val (.ref a1), .val (.ref a2), .unset]) pn_8 (fun {p e s m below meth c s₁} q hx W hml hZ hown hnm hlk hrt X0 e0 N0 => ?_)
 refine own_aln X0 q d8_0 rfl rfl (own_aln X0 q d8_1 rfl rfl (own_stp 7 (fun _ k => Jvm.RoadKit.acmp (g := mkF m 2 _ _) X0 hx rfl rfl rfl (pc0 := 2) (pc' := 7) (same := false) rfl (q.d d8_2) rfl (decide_eq_false fun q => n12 (Value.ref.inj q)) (by decide) (by decide) k) (own_aln X0 q d8_7 rfl rfl ?_)))
 refine own_let ?_; intro g1348_
 obtain ⟨T1349, X1349, e1349, st1349⟩ := instY X0 hx hZ hown (W 43 rfl) e0 (Ins.self E2) (g := g1348_) rfl rfl (q.d d8_8)
 refine own_stp 11 st1349 (own_zn X1349 q d8_11 (((if0 _ _).trans (feq ((by decide) : ¬ ((1 : Int32) = (0 : Int32)))).1)) (own_aln X1349 q d8_14 rfl rfl ?_))
 refine own_let ?_; intro g1350_
 obtain ⟨T1351, X1351, e1351, st1351⟩ := castY X1349 hx hZ hown (W 43 rfl) e1349 (Ins.self E2) (g := g1350_) rfl rfl (q.d d8_15)
 refine own_stp 18 st1351 (own_asn X1351 q d8_18 rfl (l' := #[.val (.ref a1), .val (.ref a2), .val (.ref a2)]) rfl ?_)
 refine own_gS X1351 q hZ e1351 hown (W 44 rfl) (SCS.ext O0.2) d8_19 fun T1352 X1352 e1352 => ?_
 refine own_zn X1352 q d8_22 (((if0 _ _).trans (feq hcs).1)) (own_aln X1352 q d8_25 rfl rfl ?_)
 refine own_gF X1352 q hZ e1352 hown (W 32 rfl) FC1 d8_26 fun T1353 X1353 e1353 => ?_
 refine own_aln X1353 q d8_29 rfl rfl ?_
 refine own_gF X1353 q hZ e1353 hown (W 32 rfl) FC2 d8_30 fun T1354 X1354 e1354 => ?_
 refine own_cn X1354 q d8_33 ((teq (rfl : (0 : Int32) = (0 : Int32))).2) (own_aln X1354 q d8_36 rfl rfl ?_)
 refine own_gF X1354 q hZ e1354 hown (W 31 rfl) FV1 d8_37 fun T1355 X1355 e1355 => ?_
 refine own_aln X1355 q d8_40 rfl rfl ?_
 refine own_gF X1355 q hZ e1355 hown (W 31 rfl) FV2 d8_41 fun T1356 X1356 e1356 => ?_
 refine own_cS X1356 q hZ e1356 hown hml (W 45 rfl) (W 46 rfl) (W 47 rfl) (W 48 rfl) (rm9_7_2 l Z a0 hw t1 t2 k1 k2 b0 b1 b2 b3 b4 b5 b6 h0 n0 Z0 V1 V2) d8_44 [(.ref t1), (.ref t2)] [] own_pd10 rfl rfl 0 (Nat.le_refl _) (by decide) (fun v1357 T1357 L1357 X1357 hQ1357 => ?_)
 obtain ⟨z1357, rfl, N1357q, e1357, hM1357⟩ := hQ1357
 have N1357 := Fr.app N0 N1357q
 refine own_nv ?_
 by_cases hc47_1358 : z1357 = (0 : Int32)
 ·refine own_zy X1357 q d8_47 (((if0 _ _).trans (teq hc47_1358).1)) (own_k X1357 q d8_54 ?_)
  refine own_rN X1357 q hrt (by simp) d8_55 hlk (by decide) ?_
  show QM (([b0, b1, b2, b3, b4, b5, b6] : List Int32) = ([(45 : Int32), (104 : Int32)] : List Int32)) h0 n0 _ T1357.heap _
  rw [e1357]
  exact ⟨_, rfl, N1357, rfl, Or.inr ⟨rfl, hM1357.elim (fun r => absurd (r.1.symm.trans hc47_1358) (by decide)) (fun r => r.2)⟩⟩
 ·refine own_zn X1357 q d8_47 (((if0 _ _).trans (feq hc47_1358).1)) (own_k X1357 q d8_50 (own_gt X1357 q d8_51 ?_))
  refine own_rN X1357 q hrt (by simp) d8_55 hlk (by decide) ?_
  show QM (([b0, b1, b2, b3, b4, b5, b6] : List Int32) = ([(45 : Int32), (104 : Int32)] : List Int32)) h0 n0 _ T1357.heap _
  rw [e1357]
  exact ⟨_, rfl, N1357, rfl, Or.inl ⟨rfl, hM1357.elim (fun r => r.2) (fun r => absurd r.1 hc47_1358)⟩⟩
theorem rm9_7_6 (l : Launch) (Z : State) (a0 : Array Value) (hw : own_hw a0 Z) (a1 : Addr) (a2 : Addr) (k1 k2 : ClassId) (b0 b1 b2 b3 b4 b5 b6 : Int32) (h0 : Heap) (n0 : Nat) (Z0 : n0 ≤ h0.size) (V1 : Arv Z h0 a1 k1 .byte (7 : Int32) [(.int b0), (.int b1), (.int b2), (.int b3), (.int b4), (.int b5), (.int b6)] v'0) (V2 : Arv Z h0 a2 k2 .byte (6 : Int32) [v'45, v'45, v'104, v'101, v'108, v'112] v'0) :
  own_M l Z [] own_y13 b'9 3 (some .boolean) ⟨0, 0, 0, 0⟩ #[(.ref a1), (.ref a2)] h0 (QM (([b0, b1, b2, b3, b4, b5, b6] : List Int32) = ([(45 : Int32), (45 : Int32), (104 : Int32), (101 : Int32), (108 : Int32), (112 : Int32)] : List Int32)) h0 n0) := by
 refine own_start (n0 := n0) hw "java/lang/StringLatin1" (L := #[.val (.ref a1), .val (.ref a2), .unset]) pn_9 (fun {p e s m below meth c s₁} q hx W hml hZ hown hnm hlk hrt X0 e0 N0 => ?_)
 refine own_aln X0 q d9_0 rfl rfl (own_alen (n := (7 : Int32)) X0 q hZ e0 V1 d9_1 (own_aln X0 q d9_2 rfl rfl (own_alen (n := (6 : Int32)) X0 q hZ e0 V2 d9_3 (own_cy X0 q d9_4 ((feq ((by decide) : ¬ ((7 : Int32) = (6 : Int32)))).2) (own_k X0 q d9_34 ?_)))))
 refine own_rN X0 q hrt (by simp) d9_35 hlk (by decide) ?_
 show QM (([b0, b1, b2, b3, b4, b5, b6] : List Int32) = ([(45 : Int32), (45 : Int32), (104 : Int32), (101 : Int32), (108 : Int32), (112 : Int32)] : List Int32)) h0 n0 _ s₁.heap _
 rw [e0]
 exact ⟨_, rfl, N0, rfl, Or.inr ⟨rfl, by simp []⟩⟩
theorem rm8_7_6 (l : Launch) (Z : State) (a0 : Array Value) (hw : own_hw a0 Z) (a1 : Addr) (a2 : Addr) (t1 t2 : Addr) (k1 k2 : ClassId) (b0 b1 b2 b3 b4 b5 b6 : Int32) (cs0 : Int32) (h0 : Heap) (n0 : Nat) (Z0 : n0 ≤ h0.size) (E1 : Exa Z h0 a1 "java/lang/String") (FC1 : F'0 Z h0 a1 v'0) (FV1 : F'1 Z h0 a1 (.ref t1)) (V1 : Arv Z h0 t1 k1 .byte (7 : Int32) [(.int b0), (.int b1), (.int b2), (.int b3), (.int b4), (.int b5), (.int b6)] v'0) (E2 : Exa Z h0 a2 "java/lang/String") (FC2 : F'0 Z h0 a2 v'0) (FV2 : F'1 Z h0 a2 (.ref t2)) (V2 : Arv Z h0 t2 k2 .byte (6 : Int32) [v'45, v'45, v'104, v'101, v'108, v'112] v'0) (n12 : a1 ≠ a2) (O0 : Old Z n0 h0) (SC_ : own_SC Z cs0) :
  own_M l Z [] own_y14 b'8 3 (some .boolean) ⟨1, 0, 0, 14⟩ #[(.ref a1), (.ref a2)] h0 (QM (([b0, b1, b2, b3, b4, b5, b6] : List Int32) = ([(45 : Int32), (45 : Int32), (104 : Int32), (101 : Int32), (108 : Int32), (112 : Int32)] : List Int32)) h0 n0) := by
 obtain ⟨SCS, hcs⟩ := SC_
 refine own_start (n0 := n0) hw "java/lang/String" (L := #[.val (.ref a1), .val (.ref a2), .unset]) pn_8 (fun {p e s m below meth c s₁} q hx W hml hZ hown hnm hlk hrt X0 e0 N0 => ?_)
 refine own_aln X0 q d8_0 rfl rfl (own_aln X0 q d8_1 rfl rfl (own_stp 7 (fun _ k => Jvm.RoadKit.acmp (g := mkF m 2 _ _) X0 hx rfl rfl rfl (pc0 := 2) (pc' := 7) (same := false) rfl (q.d d8_2) rfl (decide_eq_false fun q => n12 (Value.ref.inj q)) (by decide) (by decide) k) (own_aln X0 q d8_7 rfl rfl ?_)))
 refine own_let ?_; intro g1370_
 obtain ⟨T1371, X1371, e1371, st1371⟩ := instY X0 hx hZ hown (W 43 rfl) e0 (Ins.self E2) (g := g1370_) rfl rfl (q.d d8_8)
 refine own_stp 11 st1371 (own_zn X1371 q d8_11 (((if0 _ _).trans (feq ((by decide) : ¬ ((1 : Int32) = (0 : Int32)))).1)) (own_aln X1371 q d8_14 rfl rfl ?_))
 refine own_let ?_; intro g1372_
 obtain ⟨T1373, X1373, e1373, st1373⟩ := castY X1371 hx hZ hown (W 43 rfl) e1371 (Ins.self E2) (g := g1372_) rfl rfl (q.d d8_15)
 refine own_stp 18 st1373 (own_asn X1373 q d8_18 rfl (l' := #[.val (.ref a1), .val (.ref a2), .val (.ref a2)]) rfl ?_)
 refine own_gS X1373 q hZ e1373 hown (W 44 rfl) (SCS.ext O0.2) d8_19 fun T1374 X1374 e1374 => ?_
 refine own_zn X1374 q d8_22 (((if0 _ _).trans (feq hcs).1)) (own_aln X1374 q d8_25 rfl rfl ?_)
 refine own_gF X1374 q hZ e1374 hown (W 32 rfl) FC1 d8_26 fun T1375 X1375 e1375 => ?_
 refine own_aln X1375 q d8_29 rfl rfl ?_
 refine own_gF X1375 q hZ e1375 hown (W 32 rfl) FC2 d8_30 fun T1376 X1376 e1376 => ?_
 refine own_cn X1376 q d8_33 ((teq (rfl : (0 : Int32) = (0 : Int32))).2) (own_aln X1376 q d8_36 rfl rfl ?_)
 refine own_gF X1376 q hZ e1376 hown (W 31 rfl) FV1 d8_37 fun T1377 X1377 e1377 => ?_
 refine own_aln X1377 q d8_40 rfl rfl ?_
 refine own_gF X1377 q hZ e1377 hown (W 31 rfl) FV2 d8_41 fun T1378 X1378 e1378 => ?_
 refine own_cS X1378 q hZ e1378 hown hml (W 45 rfl) (W 46 rfl) (W 47 rfl) (W 48 rfl) (rm9_7_6 l Z a0 hw t1 t2 k1 k2 b0 b1 b2 b3 b4 b5 b6 h0 n0 Z0 V1 V2) d8_44 [(.ref t1), (.ref t2)] [] own_pd10 rfl rfl 0 (Nat.le_refl _) (by decide) (fun v1379 T1379 L1379 X1379 hQ1379 => ?_)
 obtain ⟨z1379, rfl, N1379q, e1379, hM1379⟩ := hQ1379
 have N1379 := Fr.app N0 N1379q
 refine own_nv ?_
 by_cases hc47_1380 : z1379 = (0 : Int32)
 ·refine own_zy X1379 q d8_47 (((if0 _ _).trans (teq hc47_1380).1)) (own_k X1379 q d8_54 ?_)
  refine own_rN X1379 q hrt (by simp) d8_55 hlk (by decide) ?_
  show QM (([b0, b1, b2, b3, b4, b5, b6] : List Int32) = ([(45 : Int32), (45 : Int32), (104 : Int32), (101 : Int32), (108 : Int32), (112 : Int32)] : List Int32)) h0 n0 _ T1379.heap _
  rw [e1379]
  exact ⟨_, rfl, N1379, rfl, Or.inr ⟨rfl, hM1379.elim (fun r => absurd (r.1.symm.trans hc47_1380) (by decide)) (fun r => r.2)⟩⟩
 ·refine own_zn X1379 q d8_47 (((if0 _ _).trans (feq hc47_1380).1)) (own_k X1379 q d8_50 (own_gt X1379 q d8_51 ?_))
  refine own_rN X1379 q hrt (by simp) d8_55 hlk (by decide) ?_
  show QM (([b0, b1, b2, b3, b4, b5, b6] : List Int32) = ([(45 : Int32), (45 : Int32), (104 : Int32), (101 : Int32), (108 : Int32), (112 : Int32)] : List Int32)) h0 n0 _ T1379.heap _
  rw [e1379]
  exact ⟨_, rfl, N1379, rfl, Or.inl ⟨rfl, hM1379.elim (fun r => r.2) (fun r => absurd r.1 hc47_1380)⟩⟩
theorem d7_0 : own_D b'7 0 (.aload_n 0) 1 1 := by decide +kernel
theorem d7_1 : own_D b'7 1 (.ldc 7) 2 3 := by decide +kernel
theorem d7_3 : own_D b'7 3 (.invokevirtual 9) 3 6 := by decide +kernel
theorem d7_6 : own_DZ b'7 6 .ne 18 9 := by decide +kernel
theorem d7_9 : own_D b'7 9 (.aload_n 0) 1 10 := by decide +kernel
theorem d7_10 : own_D b'7 10 (.ldc 15) 2 12 := by decide +kernel
theorem d7_12 : own_D b'7 12 (.invokevirtual 9) 3 15 := by decide +kernel
theorem d7_15 : own_DZ b'7 15 .eq 22 18 := by decide +kernel
theorem d7_18 : own_DK b'7 18 1 19 := by decide +kernel
theorem d7_19 : own_DG b'7 19 23 := by decide +kernel
theorem d7_22 : own_DK b'7 22 0 23 := by decide +kernel
theorem d7_23 : own_D b'7 23 .ireturn 1 24 := by decide +kernel
theorem pn_7 : plainFor (⟨"com/example/ballast_ledger/ballastledger/cli/Help", "isAsked", "(Ljava/lang/String;)Z"⟩ : MethodName) = true := plainFor_of_name (by first | (simp [plainName, overriddenIn]; done) | decide +kernel)
theorem rm7_u (l : Launch) (Z : State) (a0 : Array Value) (hw : ∀ d ∈ tables_1, d.before a0 Z = true) (ws : List Jvm.Cond) (a1 : Addr) (t1 : Addr) (cs0 : Int32) (h0 : Heap) (n0 : Nat) (Z0 : n0 ≤ h0.size) (E1 : Exa Z h0 a1 "java/lang/String") (FC : F'0 Z h0 a1 v'1) (FV : F'1 Z h0 a1 (.ref t1)) (O0 : Old Z n0 h0) (SC_ : own_SC Z cs0) (hEL : EW Z a0 ([("com/example/ballast_ledger/ballastledger/cli/Help", 7), ("com/example/ballast_ledger/ballastledger/cli/Help", 15), ("java/lang/String", 7)] : List (String × Nat))) :
  MetFree l (⟨"com/example/ballast_ledger/ballastledger/cli/Help", "isAsked", "(Ljava/lang/String;)Z"⟩ : MethodName) (head1 (Jvm.Cond.code (⟨"com/example/ballast_ledger/ballastledger/cli/Help", "isAsked", "(Ljava/lang/String;)Z"⟩ : MethodName) b'7 1 (some .boolean) :: ws) ({ frames := 1, cells := 4, slots := 40, locals := 14 } : Room)) (fun a U => a = #[(.ref a1)] ∧ Z.Warmed39 U.vm ∧ U.heap = h0 ∧ CHv Z ([("com/example/ballast_ledger/ballastledger/cli/Help", 7), ("com/example/ballast_ledger/ballastledger/cli/Help", 15), ("java/lang/String", 7)] : List (String × Nat)) U.vm h0 ∧ ∀ x ∈ ([a1] : List Addr), Safe Z ([("com/example/ballast_ledger/ballastledger/cli/Help", 7), ("com/example/ballast_ledger/ballastledger/cli/Help", 15), ("java/lang/String", 7)] : List (String × Nat)) U.vm h0 x) (fun _ _ _ _ _ => True) (fun _ U o U' => ∃ v L, o = .returned v ∧ QME False h0 n0 v U'.heap L ∧ CHr Z ([("com/example/ballast_ledger/ballastledger/cli/Help", 7), ("com/example/ballast_ledger/ballastledger/cli/Help", 15), ("java/lang/String", 7)] : List (String × Nat)) U.vm U.heap U'.vm U'.heap ∧ ReturnedEndW U o U' L ({ frames := 1, cells := 4, slots := 40, locals := 14 } : Room).cells ({ frames := 1, cells := 4, slots := 40, locals := 14 } : Room).slots) := by
 obtain ⟨SCS, hcs⟩ := SC_
 refine MetFree.of_bodySF pn_7 hisR ?_
 intro p e s m args below meth c s₁ Bd hml0 hP hK
 obtain ⟨rfl, hZ, hh, hCH, hSF⟩ := hP
 have hx := Bd.exec
 have hby := Bd.bytes
 have q : own_q p c b'7 := ⟨hx, hby⟩
 have W := @own_w _ _ hw
 have hml : c.maxLocals = 1 := hml0
 have hown : s.vm.findClass "com/example/ballast_ledger/ballastledger/cli/Help" = some m.cls := findClass_of_methodNamed Bd.named
 have hnm := (name_of_methodNamed Bd.named Bd.method).1
 have hlk : meth.locks = false := BodyLoose.notSynchronized Bd
 have X0 : Stand p l e ({ frames := 1, cells := 4, slots := 40, locals := 14 } : Room) s m #[(.ref a1)] below meth c s₁ [] 0 0 := Stand.of_body Bd
 have e0 : s₁.heap = h0 := by rw [← hh, Bd.state]; rfl
 have N0 := Fr.nil n0
 show own_Fin p e below (own_PH Z ([("com/example/ballast_ledger/ballastledger/cli/Help", 7), ("com/example/ballast_ledger/ballastledger/cli/Help", 15), ("java/lang/String", 7)] : List (String × Nat)) (QME False h0 n0) s ({ frames := 1, cells := 4, slots := 40, locals := 14 } : Room).cells ({ frames := 1, cells := 4, slots := 40, locals := 14 } : Room).slots) (s₁.setTop (entryFrame m #[(.ref a1)] 1))
 rw [show entryFrame m #[(.ref a1)] 1 = mkF m 0 #[.val (.ref a1)] [] from by first | (simp [entryFrame, mkF, argsToLocals, Value.category]; done) | rfl]
 have X0 : Stand p l e ({ frames := 1, cells := 4, slots := 40, locals := 14 } : Room) (s.setVm s.vm) m #[(.ref a1)] below meth c s₁ [] 0 0 := X0
 have hZ : Z.Warmed39 (s.setVm s.vm).vm := hZ
 have hown : (s.setVm s.vm).vm.findClass "com/example/ballast_ledger/ballastledger/cli/Help" = some m.cls := hown
 have hS0 : s.Since s.vm 0 := (State.WarmedH.refl s).since 0
 have hk0 : 0 ≤ h0.size := Nat.zero_le _
 have hCH : CHv Z ([("com/example/ballast_ledger/ballastledger/cli/Help", 7), ("com/example/ballast_ledger/ballastledger/cli/Help", 15), ("java/lang/String", 7)] : List (String × Nat)) s.vm h0 := hCH
 have hCR := CHr.refl hCH
 have sf_a1 : Safe Z ([("com/example/ballast_ledger/ballastledger/cli/Help", 7), ("com/example/ballast_ledger/ballastledger/cli/Help", 15), ("java/lang/String", 7)] : List (String × Nat)) s.vm h0 a1 := hSF _ (List.mem_of_getElem? (i := 0) rfl)
 have hstr : ∀ a ∈ Bundle.stringAtoms, a.before a0 Z = true := fun d hd => hw d ((by decide +kernel : ∀ d ∈ Bundle.stringAtoms, d ∈ tables_1) d hd)
 have kp0 := Keep.refl h0 []
 refine own_aln X0 q d7_0 rfl rfl ?_
 refine own_let ?_; intro g1389_
 obtain ⟨a1390, T1390, h1390, kk1390, b1390, k1390, X1390, e1390, E1390, hS1390, hk1390, hZ, hown, Ex1390, Fc1390, Fv1390, V1390, lt1390, lb1390, cH1390, Lt1390, sn1390, st1390⟩ := ldcCH X0 hx hZ hown (W 37 rfl) hstr e0 hS0 hk0 hEL (by simp) hCH (vs := [v'45, v'104]) (z := (2 : Int32)) ⟨by decide, by decide⟩ (by decide) rfl (g := g1389_) rfl (q.d d7_1) (n := 8) (by decide) (by decide) (by decide) (by decide)
 have zs1391 := Nat.le_trans Z0 E1390.1
 have hk1391 := Nat.le_trans hk0 E1390.1
 have od1391 := O0.ext E1390
 have kp1391 := kp0.ext E1390
 have cr1390 := CHr.trans hCR cH1390
 have sf1390_a1 := cH1390.safe (E1).lt sf_a1
 refine own_stq 3 [(.ref a1390), (.ref a1)] st1390 ?_
 refine own_cV X1390 q hZ e1390 hown hml (W 38 rfl) (W 39 rfl) (W 41 rfl) (W 40 rfl) (W 14 rfl) (W 42 rfl) rfl (E1.ext E1390) (rm8_u_2 l Z a0 hw a1 a1390 t1 b1390 k1390 cs0 h1390 n0 zs1391 (E1.ext E1390) (FC.ext E1390) (FV.ext E1390) Ex1390 Fc1390 Fv1390 V1390 (sn1390 _ sf1390_a1).1 od1391 ⟨SCS, hcs⟩) d7_3 [(.ref a1390)] [] own_pd11 rfl rfl 0 (Nat.le_refl _) (by decide) (fun v1392 T1392 L1392 X1392 hQ1392 => ?_)
 obtain ⟨rfl, N1392q, e1392⟩ := hQ1392
 have N1392 := Fr.app N0 N1392q
 refine own_nv (own_zn X1392 q d7_6 (((if0 _ _).trans (teq (rfl : (0 : Int32) = (0 : Int32))).2)) (own_aln X1392 q d7_9 rfl rfl ?_))
 refine own_let ?_; intro g1393_
 obtain ⟨a1394, T1394, h1394, kk1394, b1394, k1394, X1394, e1394, E1394, hS1394, hk1394, hZ, hown, Ex1394, Fc1394, Fv1394, V1394, lt1394, lb1394, cH1394, Lt1394, sn1394, st1394⟩ := ldcCH X1392 hx hZ hown (W 49 rfl) hstr e1392 hS1390 hk1390 hEL (by simp) cH1390.1 (vs := [v'45, v'45, v'104, v'101, v'108, v'112]) (z := (6 : Int32)) ⟨by decide, by decide⟩ (by decide) rfl (g := g1393_) rfl (q.d d7_10) (n := 24) (by decide) (by decide) (by decide) (by decide)
 have zs1395 := Nat.le_trans zs1391 E1394.1
 have hk1395 := Nat.le_trans hk1390 E1394.1
 have od1395 := od1391.ext E1394
 have kp1395 := kp1391.ext E1394
 have cr1394 := CHr.trans cr1390 cH1394
 have sf1394_a1 := cH1394.safe ((E1.ext E1390)).lt sf1390_a1
 refine own_stq 12 [(.ref a1394), (.ref a1)] st1394 ?_
 refine own_cV X1394 q hZ e1394 hown hml (W 38 rfl) (W 39 rfl) (W 41 rfl) (W 40 rfl) (W 14 rfl) (W 42 rfl) rfl ((E1.ext E1390).ext E1394) (rm8_u_6 l Z a0 hw a1 a1394 t1 b1394 k1394 cs0 h1394 n0 zs1395 ((E1.ext E1390).ext E1394) ((FC.ext E1390).ext E1394) ((FV.ext E1390).ext E1394) Ex1394 Fc1394 Fv1394 V1394 (sn1394 _ sf1394_a1).1 od1395 ⟨SCS, hcs⟩) d7_12 [(.ref a1394)] [] own_pd11 rfl rfl 0 (Nat.le_refl _) (by decide) (fun v1396 T1396 L1396 X1396 hQ1396 => ?_)
 obtain ⟨rfl, N1396q, e1396⟩ := hQ1396
 have N1396 := Fr.app N1392 N1396q
 refine own_nv (own_zy X1396 q d7_15 (((if0 _ _).trans (teq (rfl : (0 : Int32) = (0 : Int32))).1)) (own_k X1396 q d7_22 ?_))
 have hRR : CHr Z ([("com/example/ballast_ledger/ballastledger/cli/Help", 7), ("com/example/ballast_ledger/ballastledger/cli/Help", 15), ("java/lang/String", 7)] : List (String × Nat)) s.vm s.heap T1396.vm T1396.heap := by rw [hh, e1396]; exact CHr.trans cr1394 (CHv.at X1396 hZ hEL cH1394.1)
 refine own_retNH X1396 hS1394 (by rw [e1396]; exact hk1394) hRR hx (t := .boolean) Bd.returns (by simp) (q.d d7_23) hlk ?_ (by decide) (by decide)
 show QME False h0 n0 _ T1396.heap _
 rw [e1396]
 exact ⟨_, rfl, N1396, own_extK kp1395, Or.inr ⟨rfl, id⟩⟩
theorem rm7_0 (l : Launch) (Z : State) (a0 : Array Value) (hw : ∀ d ∈ tables_1, d.before a0 Z = true) (ws : List Jvm.Cond) (a1 : Addr) (t1 : Addr) (k1 : ClassId) (cs0 : Int32) (h0 : Heap) (n0 : Nat) (Z0 : n0 ≤ h0.size) (E1 : Exa Z h0 a1 "java/lang/String") (FC : F'0 Z h0 a1 v'0) (FV : F'1 Z h0 a1 (.ref t1)) (V1 : Arv Z h0 t1 k1 .byte (0 : Int32) [] v'0) (O0 : Old Z n0 h0) (SC_ : own_SC Z cs0) (hEL : EW Z a0 ([("com/example/ballast_ledger/ballastledger/cli/Help", 7), ("com/example/ballast_ledger/ballastledger/cli/Help", 15), ("java/lang/String", 7)] : List (String × Nat))) :
  MetFree l (⟨"com/example/ballast_ledger/ballastledger/cli/Help", "isAsked", "(Ljava/lang/String;)Z"⟩ : MethodName) (head1 (Jvm.Cond.code (⟨"com/example/ballast_ledger/ballastledger/cli/Help", "isAsked", "(Ljava/lang/String;)Z"⟩ : MethodName) b'7 1 (some .boolean) :: ws) ({ frames := 2, cells := 4, slots := 40, locals := 28 } : Room)) (fun a U => a = #[(.ref a1)] ∧ Z.Warmed39 U.vm ∧ U.heap = h0 ∧ CHv Z ([("com/example/ballast_ledger/ballastledger/cli/Help", 7), ("com/example/ballast_ledger/ballastledger/cli/Help", 15), ("java/lang/String", 7)] : List (String × Nat)) U.vm h0 ∧ ∀ x ∈ ([a1] : List Addr), Safe Z ([("com/example/ballast_ledger/ballastledger/cli/Help", 7), ("com/example/ballast_ledger/ballastledger/cli/Help", 15), ("java/lang/String", 7)] : List (String × Nat)) U.vm h0 x) (fun _ _ _ _ _ => True) (fun _ U o U' => ∃ v L, o = .returned v ∧ QME ((([] : List Int32) = ([(45 : Int32), (104 : Int32)] : List Int32)) ∨ (([] : List Int32) = ([(45 : Int32), (45 : Int32), (104 : Int32), (101 : Int32), (108 : Int32), (112 : Int32)] : List Int32))) h0 n0 v U'.heap L ∧ CHr Z ([("com/example/ballast_ledger/ballastledger/cli/Help", 7), ("com/example/ballast_ledger/ballastledger/cli/Help", 15), ("java/lang/String", 7)] : List (String × Nat)) U.vm U.heap U'.vm U'.heap ∧ ReturnedEndW U o U' L ({ frames := 2, cells := 4, slots := 40, locals := 28 } : Room).cells ({ frames := 2, cells := 4, slots := 40, locals := 28 } : Room).slots) := by
 obtain ⟨SCS, hcs⟩ := SC_
 refine MetFree.of_bodySF pn_7 hisR ?_
 intro p e s m args below meth c s₁ Bd hml0 hP hK
 obtain ⟨rfl, hZ, hh, hCH, hSF⟩ := hP
 have hx := Bd.exec
 have hby := Bd.bytes
 have q : own_q p c b'7 := ⟨hx, hby⟩
 have W := @own_w _ _ hw
 have hml : c.maxLocals = 1 := hml0
 have hown : s.vm.findClass "com/example/ballast_ledger/ballastledger/cli/Help" = some m.cls := findClass_of_methodNamed Bd.named
 have hnm := (name_of_methodNamed Bd.named Bd.method).1
 have hlk : meth.locks = false := BodyLoose.notSynchronized Bd
 have X0 : Stand p l e ({ frames := 2, cells := 4, slots := 40, locals := 28 } : Room) s m #[(.ref a1)] below meth c s₁ [] 0 0 := Stand.of_body Bd
 have e0 : s₁.heap = h0 := by rw [← hh, Bd.state]; rfl
 have N0 := Fr.nil n0
 show own_Fin p e below (own_PH Z ([("com/example/ballast_ledger/ballastledger/cli/Help", 7), ("com/example/ballast_ledger/ballastledger/cli/Help", 15), ("java/lang/String", 7)] : List (String × Nat)) (QME ((([] : List Int32) = ([(45 : Int32), (104 : Int32)] : List Int32)) ∨ (([] : List Int32) = ([(45 : Int32), (45 : Int32), (104 : Int32), (101 : Int32), (108 : Int32), (112 : Int32)] : List Int32))) h0 n0) s ({ frames := 2, cells := 4, slots := 40, locals := 28 } : Room).cells ({ frames := 2, cells := 4, slots := 40, locals := 28 } : Room).slots) (s₁.setTop (entryFrame m #[(.ref a1)] 1))
 rw [show entryFrame m #[(.ref a1)] 1 = mkF m 0 #[.val (.ref a1)] [] from by first | (simp [entryFrame, mkF, argsToLocals, Value.category]; done) | rfl]
 have X0 : Stand p l e ({ frames := 2, cells := 4, slots := 40, locals := 28 } : Room) (s.setVm s.vm) m #[(.ref a1)] below meth c s₁ [] 0 0 := X0
 have hZ : Z.Warmed39 (s.setVm s.vm).vm := hZ
 have hown : (s.setVm s.vm).vm.findClass "com/example/ballast_ledger/ballastledger/cli/Help" = some m.cls := hown
 have hS0 : s.Since s.vm 0 := (State.WarmedH.refl s).since 0
 have hk0 : 0 ≤ h0.size := Nat.zero_le _
 have hCH : CHv Z ([("com/example/ballast_ledger/ballastledger/cli/Help", 7), ("com/example/ballast_ledger/ballastledger/cli/Help", 15), ("java/lang/String", 7)] : List (String × Nat)) s.vm h0 := hCH
 have hCR := CHr.refl hCH
 have sf_a1 : Safe Z ([("com/example/ballast_ledger/ballastledger/cli/Help", 7), ("com/example/ballast_ledger/ballastledger/cli/Help", 15), ("java/lang/String", 7)] : List (String × Nat)) s.vm h0 a1 := hSF _ (List.mem_of_getElem? (i := 0) rfl)
 have hstr : ∀ a ∈ Bundle.stringAtoms, a.before a0 Z = true := fun d hd => hw d ((by decide +kernel : ∀ d ∈ Bundle.stringAtoms, d ∈ tables_1) d hd)
 have kp0 := Keep.refl h0 []
 refine own_aln X0 q d7_0 rfl rfl ?_
 refine own_let ?_; intro g1407_
 obtain ⟨a1408, T1408, h1408, kk1408, b1408, k1408, X1408, e1408, E1408, hS1408, hk1408, hZ, hown, Ex1408, Fc1408, Fv1408, V1408, lt1408, lb1408, cH1408, Lt1408, sn1408, st1408⟩ := ldcCH X0 hx hZ hown (W 37 rfl) hstr e0 hS0 hk0 hEL (by simp) hCH (vs := [v'45, v'104]) (z := (2 : Int32)) ⟨by decide, by decide⟩ (by decide) rfl (g := g1407_) rfl (q.d d7_1) (n := 8) (by decide) (by decide) (by decide) (by decide)
 have zs1409 := Nat.le_trans Z0 E1408.1
 have hk1409 := Nat.le_trans hk0 E1408.1
 have od1409 := O0.ext E1408
 have kp1409 := kp0.ext E1408
 have cr1408 := CHr.trans hCR cH1408
 have sf1408_a1 := cH1408.safe (E1).lt sf_a1
 refine own_stq 3 [(.ref a1408), (.ref a1)] st1408 ?_
 refine own_cV X1408 q hZ e1408 hown hml (W 38 rfl) (W 39 rfl) (W 41 rfl) (W 40 rfl) (W 14 rfl) (W 42 rfl) rfl (E1.ext E1408) (rm8_0_2 l Z a0 hw a1 a1408 t1 b1408 k1 k1408  cs0 h1408 n0 zs1409 (E1.ext E1408) (FC.ext E1408) (FV.ext E1408) (V1.ext E1408) Ex1408 Fc1408 Fv1408 V1408 (sn1408 _ sf1408_a1).1 od1409 ⟨SCS, hcs⟩) d7_3 [(.ref a1408)] [] own_pd11 rfl rfl 0 (Nat.le_refl _) (by decide) (fun v1410 T1410 L1410 X1410 hQ1410 => ?_)
 obtain ⟨z1410, rfl, N1410q, e1410, hM1410⟩ := hQ1410
 have N1410 := Fr.app N0 N1410q
 refine own_nv ?_
 by_cases hc6_1411 : z1410 = (0 : Int32)
 ·refine own_zn X1410 q d7_6 (((if0 _ _).trans (teq hc6_1411).2)) (own_aln X1410 q d7_9 rfl rfl ?_)
  refine own_let ?_; intro g1412_
  obtain ⟨a1413, T1413, h1413, kk1413, b1413, k1413, X1413, e1413, E1413, hS1413, hk1413, hZ, hown, Ex1413, Fc1413, Fv1413, V1413, lt1413, lb1413, cH1413, Lt1413, sn1413, st1413⟩ := ldcCH X1410 hx hZ hown (W 49 rfl) hstr e1410 hS1408 hk1408 hEL (by simp) cH1408.1 (vs := [v'45, v'45, v'104, v'101, v'108, v'112]) (z := (6 : Int32)) ⟨by decide, by decide⟩ (by decide) rfl (g := g1412_) rfl (q.d d7_10) (n := 24) (by decide) (by decide) (by decide) (by decide)
  have zs1414 := Nat.le_trans zs1409 E1413.1
  have hk1414 := Nat.le_trans hk1408 E1413.1
  have od1414 := od1409.ext E1413
  have kp1414 := kp1409.ext E1413
  have cr1413 := CHr.trans cr1408 cH1413
  have sf1413_a1 := cH1413.safe ((E1.ext E1408)).lt sf1408_a1
  refine own_stq 12 [(.ref a1413), (.ref a1)] st1413 ?_
  refine own_cV X1413 q hZ e1413 hown hml (W 38 rfl) (W 39 rfl) (W 41 rfl) (W 40 rfl) (W 14 rfl) (W 42 rfl) rfl ((E1.ext E1408).ext E1413) (rm8_0_6 l Z a0 hw a1 a1413 t1 b1413 k1 k1413  cs0 h1413 n0 zs1414 ((E1.ext E1408).ext E1413) ((FC.ext E1408).ext E1413) ((FV.ext E1408).ext E1413) ((V1.ext E1408).ext E1413) Ex1413 Fc1413 Fv1413 V1413 (sn1413 _ sf1413_a1).1 od1414 ⟨SCS, hcs⟩) d7_12 [(.ref a1413)] [] own_pd11 rfl rfl 0 (Nat.le_refl _) (by decide) (fun v1415 T1415 L1415 X1415 hQ1415 => ?_)
  obtain ⟨z1415, rfl, N1415q, e1415, hM1415⟩ := hQ1415
  have N1415 := Fr.app N1410 N1415q
  refine own_nv ?_
  by_cases hc15_1416 : z1415 = (0 : Int32)
  ·refine own_zy X1415 q d7_15 (((if0 _ _).trans (teq hc15_1416).1)) (own_k X1415 q d7_22 ?_)
   have hRR : CHr Z ([("com/example/ballast_ledger/ballastledger/cli/Help", 7), ("com/example/ballast_ledger/ballastledger/cli/Help", 15), ("java/lang/String", 7)] : List (String × Nat)) s.vm s.heap T1415.vm T1415.heap := by rw [hh, e1415]; exact CHr.trans cr1413 (CHv.at X1415 hZ hEL cH1413.1)
   refine own_retNH X1415 hS1413 (by rw [e1415]; exact hk1413) hRR hx (t := .boolean) Bd.returns (by simp) (q.d d7_23) hlk ?_ (by decide) (by decide)
   show QME ((([] : List Int32) = ([(45 : Int32), (104 : Int32)] : List Int32)) ∨ (([] : List Int32) = ([(45 : Int32), (45 : Int32), (104 : Int32), (101 : Int32), (108 : Int32), (112 : Int32)] : List Int32))) h0 n0 _ T1415.heap _
   rw [e1415]
   exact ⟨_, rfl, N1415, own_extK kp1414, Or.inr ⟨rfl, fun q => q.elim (hM1410.elim (fun r => absurd (r.1.symm.trans hc6_1411) (by decide)) (fun r => r.2)) (hM1415.elim (fun r => absurd (r.1.symm.trans hc15_1416) (by decide)) (fun r => r.2))⟩⟩
  ·refine own_zn X1415 q d7_15 (((if0 _ _).trans (feq hc15_1416).1)) (own_k X1415 q d7_18 (own_gt X1415 q d7_19 ?_))
   have hRR : CHr Z ([("com/example/ballast_ledger/ballastledger/cli/Help", 7), ("com/example/ballast_ledger/ballastledger/cli/Help", 15), ("java/lang/String", 7)] : List (String × Nat)) s.vm s.heap T1415.vm T1415.heap := by rw [hh, e1415]; exact CHr.trans cr1413 (CHv.at X1415 hZ hEL cH1413.1)
   refine own_retNH X1415 hS1413 (by rw [e1415]; exact hk1413) hRR hx (t := .boolean) Bd.returns (by simp) (q.d d7_23) hlk ?_ (by decide) (by decide)
   show QME ((([] : List Int32) = ([(45 : Int32), (104 : Int32)] : List Int32)) ∨ (([] : List Int32) = ([(45 : Int32), (45 : Int32), (104 : Int32), (101 : Int32), (108 : Int32), (112 : Int32)] : List Int32))) h0 n0 _ T1415.heap _
   rw [e1415]
   exact ⟨_, rfl, N1415, own_extK kp1414, Or.inl ⟨rfl, Or.inr (hM1415.elim (fun r => r.2) (fun r => absurd r.1 hc15_1416))⟩⟩
 ·refine own_zy X1410 q d7_6 (((if0 _ _).trans (feq hc6_1411).2)) (own_k X1410 q d7_18 (own_gt X1410 q d7_19 ?_))
  have hRR : CHr Z ([("com/example/ballast_ledger/ballastledger/cli/Help", 7), ("com/example/ballast_ledger/ballastledger/cli/Help", 15), ("java/lang/String", 7)] : List (String × Nat)) s.vm s.heap T1410.vm T1410.heap := by rw [hh, e1410]; exact CHr.trans cr1408 (CHv.at X1410 hZ hEL cH1408.1)
  refine own_retNH X1410 hS1408 (by rw [e1410]; exact hk1408) hRR hx (t := .boolean) Bd.returns (by simp) (q.d d7_23) hlk ?_ (by decide) (by decide)
  show QME ((([] : List Int32) = ([(45 : Int32), (104 : Int32)] : List Int32)) ∨ (([] : List Int32) = ([(45 : Int32), (45 : Int32), (104 : Int32), (101 : Int32), (108 : Int32), (112 : Int32)] : List Int32))) h0 n0 _ T1410.heap _
  rw [e1410]
  exact ⟨_, rfl, N1410, own_extK kp1409, Or.inl ⟨rfl, Or.inl (hM1410.elim (fun r => r.2) (fun r => absurd r.1 hc6_1411))⟩⟩
theorem rm7_1 (l : Launch) (Z : State) (a0 : Array Value) (hw : ∀ d ∈ tables_1, d.before a0 Z = true) (ws : List Jvm.Cond) (a1 : Addr) (t1 : Addr) (k1 : ClassId) (b0 : Int32) (cs0 : Int32) (h0 : Heap) (n0 : Nat) (Z0 : n0 ≤ h0.size) (E1 : Exa Z h0 a1 "java/lang/String") (FC : F'0 Z h0 a1 v'0) (FV : F'1 Z h0 a1 (.ref t1)) (V1 : Arv Z h0 t1 k1 .byte (1 : Int32) [(.int b0)] v'0) (O0 : Old Z n0 h0) (SC_ : own_SC Z cs0) (hEL : EW Z a0 ([("com/example/ballast_ledger/ballastledger/cli/Help", 7), ("com/example/ballast_ledger/ballastledger/cli/Help", 15), ("java/lang/String", 7)] : List (String × Nat))) :
  MetFree l (⟨"com/example/ballast_ledger/ballastledger/cli/Help", "isAsked", "(Ljava/lang/String;)Z"⟩ : MethodName) (head1 (Jvm.Cond.code (⟨"com/example/ballast_ledger/ballastledger/cli/Help", "isAsked", "(Ljava/lang/String;)Z"⟩ : MethodName) b'7 1 (some .boolean) :: ws) ({ frames := 2, cells := 4, slots := 40, locals := 28 } : Room)) (fun a U => a = #[(.ref a1)] ∧ Z.Warmed39 U.vm ∧ U.heap = h0 ∧ CHv Z ([("com/example/ballast_ledger/ballastledger/cli/Help", 7), ("com/example/ballast_ledger/ballastledger/cli/Help", 15), ("java/lang/String", 7)] : List (String × Nat)) U.vm h0 ∧ ∀ x ∈ ([a1] : List Addr), Safe Z ([("com/example/ballast_ledger/ballastledger/cli/Help", 7), ("com/example/ballast_ledger/ballastledger/cli/Help", 15), ("java/lang/String", 7)] : List (String × Nat)) U.vm h0 x) (fun _ _ _ _ _ => True) (fun _ U o U' => ∃ v L, o = .returned v ∧ QME ((([b0] : List Int32) = ([(45 : Int32), (104 : Int32)] : List Int32)) ∨ (([b0] : List Int32) = ([(45 : Int32), (45 : Int32), (104 : Int32), (101 : Int32), (108 : Int32), (112 : Int32)] : List Int32))) h0 n0 v U'.heap L ∧ CHr Z ([("com/example/ballast_ledger/ballastledger/cli/Help", 7), ("com/example/ballast_ledger/ballastledger/cli/Help", 15), ("java/lang/String", 7)] : List (String × Nat)) U.vm U.heap U'.vm U'.heap ∧ ReturnedEndW U o U' L ({ frames := 2, cells := 4, slots := 40, locals := 28 } : Room).cells ({ frames := 2, cells := 4, slots := 40, locals := 28 } : Room).slots) := by
 obtain ⟨SCS, hcs⟩ := SC_
 refine MetFree.of_bodySF pn_7 hisR ?_
 intro p e s m args below meth c s₁ Bd hml0 hP hK
 obtain ⟨rfl, hZ, hh, hCH, hSF⟩ := hP
 have hx := Bd.exec
 have hby := Bd.bytes
 have q : own_q p c b'7 := ⟨hx, hby⟩
 have W := @own_w _ _ hw
 have hml : c.maxLocals = 1 := hml0
 have hown : s.vm.findClass "com/example/ballast_ledger/ballastledger/cli/Help" = some m.cls := findClass_of_methodNamed Bd.named
 have hnm := (name_of_methodNamed Bd.named Bd.method).1
 have hlk : meth.locks = false := BodyLoose.notSynchronized Bd
 have X0 : Stand p l e ({ frames := 2, cells := 4, slots := 40, locals := 28 } : Room) s m #[(.ref a1)] below meth c s₁ [] 0 0 := Stand.of_body Bd
 have e0 : s₁.heap = h0 := by rw [← hh, Bd.state]; rfl
 have N0 := Fr.nil n0
 show own_Fin p e below (own_PH Z ([("com/example/ballast_ledger/ballastledger/cli/Help", 7), ("com/example/ballast_ledger/ballastledger/cli/Help", 15), ("java/lang/String", 7)] : List (String × Nat)) (QME ((([b0] : List Int32) = ([(45 : Int32), (104 : Int32)] : List Int32)) ∨ (([b0] : List Int32) = ([(45 : Int32), (45 : Int32), (104 : Int32), (101 : Int32), (108 : Int32), (112 : Int32)] : List Int32))) h0 n0) s ({ frames := 2, cells := 4, slots := 40, locals := 28 } : Room).cells ({ frames := 2, cells := 4, slots := 40, locals := 28 } : Room).slots) (s₁.setTop (entryFrame m #[(.ref a1)] 1))
 rw [show entryFrame m #[(.ref a1)] 1 = mkF m 0 #[.val (.ref a1)] [] from by first | (simp [entryFrame, mkF, argsToLocals, Value.category]; done) | rfl]
 have X0 : Stand p l e ({ frames := 2, cells := 4, slots := 40, locals := 28 } : Room) (s.setVm s.vm) m #[(.ref a1)] below meth c s₁ [] 0 0 := X0
 have hZ : Z.Warmed39 (s.setVm s.vm).vm := hZ
 have hown : (s.setVm s.vm).vm.findClass "com/example/ballast_ledger/ballastledger/cli/Help" = some m.cls := hown
 have hS0 : s.Since s.vm 0 := (State.WarmedH.refl s).since 0
 have hk0 : 0 ≤ h0.size := Nat.zero_le _
 have hCH : CHv Z ([("com/example/ballast_ledger/ballastledger/cli/Help", 7), ("com/example/ballast_ledger/ballastledger/cli/Help", 15), ("java/lang/String", 7)] : List (String × Nat)) s.vm h0 := hCH
 have hCR := CHr.refl hCH
 have sf_a1 : Safe Z ([("com/example/ballast_ledger/ballastledger/cli/Help", 7), ("com/example/ballast_ledger/ballastledger/cli/Help", 15), ("java/lang/String", 7)] : List (String × Nat)) s.vm h0 a1 := hSF _ (List.mem_of_getElem? (i := 0) rfl)
 have hstr : ∀ a ∈ Bundle.stringAtoms, a.before a0 Z = true := fun d hd => hw d ((by decide +kernel : ∀ d ∈ Bundle.stringAtoms, d ∈ tables_1) d hd)
 have kp0 := Keep.refl h0 []
 refine own_aln X0 q d7_0 rfl rfl ?_
 refine own_let ?_; intro g1427_
 obtain ⟨a1428, T1428, h1428, kk1428, b1428, k1428, X1428, e1428, E1428, hS1428, hk1428, hZ, hown, Ex1428, Fc1428, Fv1428, V1428, lt1428, lb1428, cH1428, Lt1428, sn1428, st1428⟩ := ldcCH X0 hx hZ hown (W 37 rfl) hstr e0 hS0 hk0 hEL (by simp) hCH (vs := [v'45, v'104]) (z := (2 : Int32)) ⟨by decide, by decide⟩ (by decide) rfl (g := g1427_) rfl (q.d d7_1) (n := 8) (by decide) (by decide) (by decide) (by decide)
 have zs1429 := Nat.le_trans Z0 E1428.1
 have hk1429 := Nat.le_trans hk0 E1428.1
 have od1429 := O0.ext E1428
 have kp1429 := kp0.ext E1428
 have cr1428 := CHr.trans hCR cH1428
 have sf1428_a1 := cH1428.safe (E1).lt sf_a1
 refine own_stq 3 [(.ref a1428), (.ref a1)] st1428 ?_
 refine own_cV X1428 q hZ e1428 hown hml (W 38 rfl) (W 39 rfl) (W 41 rfl) (W 40 rfl) (W 14 rfl) (W 42 rfl) rfl (E1.ext E1428) (rm8_1_2 l Z a0 hw a1 a1428 t1 b1428 k1 k1428 b0 cs0 h1428 n0 zs1429 (E1.ext E1428) (FC.ext E1428) (FV.ext E1428) (V1.ext E1428) Ex1428 Fc1428 Fv1428 V1428 (sn1428 _ sf1428_a1).1 od1429 ⟨SCS, hcs⟩) d7_3 [(.ref a1428)] [] own_pd11 rfl rfl 0 (Nat.le_refl _) (by decide) (fun v1430 T1430 L1430 X1430 hQ1430 => ?_)
 obtain ⟨z1430, rfl, N1430q, e1430, hM1430⟩ := hQ1430
 have N1430 := Fr.app N0 N1430q
 refine own_nv ?_
 by_cases hc6_1431 : z1430 = (0 : Int32)
 ·refine own_zn X1430 q d7_6 (((if0 _ _).trans (teq hc6_1431).2)) (own_aln X1430 q d7_9 rfl rfl ?_)
  refine own_let ?_; intro g1432_
  obtain ⟨a1433, T1433, h1433, kk1433, b1433, k1433, X1433, e1433, E1433, hS1433, hk1433, hZ, hown, Ex1433, Fc1433, Fv1433, V1433, lt1433, lb1433, cH1433, Lt1433, sn1433, st1433⟩ := ldcCH X1430 hx hZ hown (W 49 rfl) hstr e1430 hS1428 hk1428 hEL (by simp) cH1428.1 (vs := [v'45, v'45, v'104, v'101, v'108, v'112]) (z := (6 : Int32)) ⟨by decide, by decide⟩ (by decide) rfl (g := g1432_) rfl (q.d d7_10) (n := 24) (by decide) (by decide) (by decide) (by decide)
  have zs1434 := Nat.le_trans zs1429 E1433.1
  have hk1434 := Nat.le_trans hk1428 E1433.1
  have od1434 := od1429.ext E1433
  have kp1434 := kp1429.ext E1433
  have cr1433 := CHr.trans cr1428 cH1433
  have sf1433_a1 := cH1433.safe ((E1.ext E1428)).lt sf1428_a1
  refine own_stq 12 [(.ref a1433), (.ref a1)] st1433 ?_
  refine own_cV X1433 q hZ e1433 hown hml (W 38 rfl) (W 39 rfl) (W 41 rfl) (W 40 rfl) (W 14 rfl) (W 42 rfl) rfl ((E1.ext E1428).ext E1433) (rm8_1_6 l Z a0 hw a1 a1433 t1 b1433 k1 k1433 b0 cs0 h1433 n0 zs1434 ((E1.ext E1428).ext E1433) ((FC.ext E1428).ext E1433) ((FV.ext E1428).ext E1433) ((V1.ext E1428).ext E1433) Ex1433 Fc1433 Fv1433 V1433 (sn1433 _ sf1433_a1).1 od1434 ⟨SCS, hcs⟩) d7_12 [(.ref a1433)] [] own_pd11 rfl rfl 0 (Nat.le_refl _) (by decide) (fun v1435 T1435 L1435 X1435 hQ1435 => ?_)
  obtain ⟨z1435, rfl, N1435q, e1435, hM1435⟩ := hQ1435
  have N1435 := Fr.app N1430 N1435q
  refine own_nv ?_
  by_cases hc15_1436 : z1435 = (0 : Int32)
  ·refine own_zy X1435 q d7_15 (((if0 _ _).trans (teq hc15_1436).1)) (own_k X1435 q d7_22 ?_)
   have hRR : CHr Z ([("com/example/ballast_ledger/ballastledger/cli/Help", 7), ("com/example/ballast_ledger/ballastledger/cli/Help", 15), ("java/lang/String", 7)] : List (String × Nat)) s.vm s.heap T1435.vm T1435.heap := by rw [hh, e1435]; exact CHr.trans cr1433 (CHv.at X1435 hZ hEL cH1433.1)
   refine own_retNH X1435 hS1433 (by rw [e1435]; exact hk1433) hRR hx (t := .boolean) Bd.returns (by simp) (q.d d7_23) hlk ?_ (by decide) (by decide)
   show QME ((([b0] : List Int32) = ([(45 : Int32), (104 : Int32)] : List Int32)) ∨ (([b0] : List Int32) = ([(45 : Int32), (45 : Int32), (104 : Int32), (101 : Int32), (108 : Int32), (112 : Int32)] : List Int32))) h0 n0 _ T1435.heap _
   rw [e1435]
   exact ⟨_, rfl, N1435, own_extK kp1434, Or.inr ⟨rfl, fun q => q.elim (hM1430.elim (fun r => absurd (r.1.symm.trans hc6_1431) (by decide)) (fun r => r.2)) (hM1435.elim (fun r => absurd (r.1.symm.trans hc15_1436) (by decide)) (fun r => r.2))⟩⟩
  ·refine own_zn X1435 q d7_15 (((if0 _ _).trans (feq hc15_1436).1)) (own_k X1435 q d7_18 (own_gt X1435 q d7_19 ?_))
   have hRR : CHr Z ([("com/example/ballast_ledger/ballastledger/cli/Help", 7), ("com/example/ballast_ledger/ballastledger/cli/Help", 15), ("java/lang/String", 7)] : List (String × Nat)) s.vm s.heap T1435.vm T1435.heap := by rw [hh, e1435]; exact CHr.trans cr1433 (CHv.at X1435 hZ hEL cH1433.1)
   refine own_retNH X1435 hS1433 (by rw [e1435]; exact hk1433) hRR hx (t := .boolean) Bd.returns (by simp) (q.d d7_23) hlk ?_ (by decide) (by decide)
   show QME ((([b0] : List Int32) = ([(45 : Int32), (104 : Int32)] : List Int32)) ∨ (([b0] : List Int32) = ([(45 : Int32), (45 : Int32), (104 : Int32), (101 : Int32), (108 : Int32), (112 : Int32)] : List Int32))) h0 n0 _ T1435.heap _
   rw [e1435]
   exact ⟨_, rfl, N1435, own_extK kp1434, Or.inl ⟨rfl, Or.inr (hM1435.elim (fun r => r.2) (fun r => absurd r.1 hc15_1436))⟩⟩
 ·refine own_zy X1430 q d7_6 (((if0 _ _).trans (feq hc6_1431).2)) (own_k X1430 q d7_18 (own_gt X1430 q d7_19 ?_))
  have hRR : CHr Z ([("com/example/ballast_ledger/ballastledger/cli/Help", 7), ("com/example/ballast_ledger/ballastledger/cli/Help", 15), ("java/lang/String", 7)] : List (String × Nat)) s.vm s.heap T1430.vm T1430.heap := by rw [hh, e1430]; exact CHr.trans cr1428 (CHv.at X1430 hZ hEL cH1428.1)
  refine own_retNH X1430 hS1428 (by rw [e1430]; exact hk1428) hRR hx (t := .boolean) Bd.returns (by simp) (q.d d7_23) hlk ?_ (by decide) (by decide)
  show QME ((([b0] : List Int32) = ([(45 : Int32), (104 : Int32)] : List Int32)) ∨ (([b0] : List Int32) = ([(45 : Int32), (45 : Int32), (104 : Int32), (101 : Int32), (108 : Int32), (112 : Int32)] : List Int32))) h0 n0 _ T1430.heap _
  rw [e1430]
  exact ⟨_, rfl, N1430, own_extK kp1429, Or.inl ⟨rfl, Or.inl (hM1430.elim (fun r => r.2) (fun r => absurd r.1 hc6_1431))⟩⟩
theorem rm7_2 (l : Launch) (Z : State) (a0 : Array Value) (hw : ∀ d ∈ tables_1, d.before a0 Z = true) (ws : List Jvm.Cond) (a1 : Addr) (t1 : Addr) (k1 : ClassId) (b0 b1 : Int32) (cs0 : Int32) (h0 : Heap) (n0 : Nat) (Z0 : n0 ≤ h0.size) (E1 : Exa Z h0 a1 "java/lang/String") (FC : F'0 Z h0 a1 v'0) (FV : F'1 Z h0 a1 (.ref t1)) (V1 : Arv Z h0 t1 k1 .byte (2 : Int32) [(.int b0), (.int b1)] v'0) (O0 : Old Z n0 h0) (SC_ : own_SC Z cs0) (hEL : EW Z a0 ([("com/example/ballast_ledger/ballastledger/cli/Help", 7), ("com/example/ballast_ledger/ballastledger/cli/Help", 15), ("java/lang/String", 7)] : List (String × Nat))) :
  MetFree l (⟨"com/example/ballast_ledger/ballastledger/cli/Help", "isAsked", "(Ljava/lang/String;)Z"⟩ : MethodName) (head1 (Jvm.Cond.code (⟨"com/example/ballast_ledger/ballastledger/cli/Help", "isAsked", "(Ljava/lang/String;)Z"⟩ : MethodName) b'7 1 (some .boolean) :: ws) ({ frames := 2, cells := 4, slots := 40, locals := 28 } : Room)) (fun a U => a = #[(.ref a1)] ∧ Z.Warmed39 U.vm ∧ U.heap = h0 ∧ CHv Z ([("com/example/ballast_ledger/ballastledger/cli/Help", 7), ("com/example/ballast_ledger/ballastledger/cli/Help", 15), ("java/lang/String", 7)] : List (String × Nat)) U.vm h0 ∧ ∀ x ∈ ([a1] : List Addr), Safe Z ([("com/example/ballast_ledger/ballastledger/cli/Help", 7), ("com/example/ballast_ledger/ballastledger/cli/Help", 15), ("java/lang/String", 7)] : List (String × Nat)) U.vm h0 x) (fun _ _ _ _ _ => True) (fun _ U o U' => ∃ v L, o = .returned v ∧ QME ((([b0, b1] : List Int32) = ([(45 : Int32), (104 : Int32)] : List Int32)) ∨ (([b0, b1] : List Int32) = ([(45 : Int32), (45 : Int32), (104 : Int32), (101 : Int32), (108 : Int32), (112 : Int32)] : List Int32))) h0 n0 v U'.heap L ∧ CHr Z ([("com/example/ballast_ledger/ballastledger/cli/Help", 7), ("com/example/ballast_ledger/ballastledger/cli/Help", 15), ("java/lang/String", 7)] : List (String × Nat)) U.vm U.heap U'.vm U'.heap ∧ ReturnedEndW U o U' L ({ frames := 2, cells := 4, slots := 40, locals := 28 } : Room).cells ({ frames := 2, cells := 4, slots := 40, locals := 28 } : Room).slots) := by
 obtain ⟨SCS, hcs⟩ := SC_
 refine MetFree.of_bodySF pn_7 hisR ?_
 intro p e s m args below meth c s₁ Bd hml0 hP hK
 obtain ⟨rfl, hZ, hh, hCH, hSF⟩ := hP
 have hx := Bd.exec
 have hby := Bd.bytes
 have q : own_q p c b'7 := ⟨hx, hby⟩
 have W := @own_w _ _ hw
 have hml : c.maxLocals = 1 := hml0
 have hown : s.vm.findClass "com/example/ballast_ledger/ballastledger/cli/Help" = some m.cls := findClass_of_methodNamed Bd.named
 have hnm := (name_of_methodNamed Bd.named Bd.method).1
 have hlk : meth.locks = false := BodyLoose.notSynchronized Bd
 have X0 : Stand p l e ({ frames := 2, cells := 4, slots := 40, locals := 28 } : Room) s m #[(.ref a1)] below meth c s₁ [] 0 0 := Stand.of_body Bd
 have e0 : s₁.heap = h0 := by rw [← hh, Bd.state]; rfl
 have N0 := Fr.nil n0
 show own_Fin p e below (own_PH Z ([("com/example/ballast_ledger/ballastledger/cli/Help", 7), ("com/example/ballast_ledger/ballastledger/cli/Help", 15), ("java/lang/String", 7)] : List (String × Nat)) (QME ((([b0, b1] : List Int32) = ([(45 : Int32), (104 : Int32)] : List Int32)) ∨ (([b0, b1] : List Int32) = ([(45 : Int32), (45 : Int32), (104 : Int32), (101 : Int32), (108 : Int32), (112 : Int32)] : List Int32))) h0 n0) s ({ frames := 2, cells := 4, slots := 40, locals := 28 } : Room).cells ({ frames := 2, cells := 4, slots := 40, locals := 28 } : Room).slots) (s₁.setTop (entryFrame m #[(.ref a1)] 1))
 rw [show entryFrame m #[(.ref a1)] 1 = mkF m 0 #[.val (.ref a1)] [] from by first | (simp [entryFrame, mkF, argsToLocals, Value.category]; done) | rfl]
 have X0 : Stand p l e ({ frames := 2, cells := 4, slots := 40, locals := 28 } : Room) (s.setVm s.vm) m #[(.ref a1)] below meth c s₁ [] 0 0 := X0
 have hZ : Z.Warmed39 (s.setVm s.vm).vm := hZ
 have hown : (s.setVm s.vm).vm.findClass "com/example/ballast_ledger/ballastledger/cli/Help" = some m.cls := hown
 have hS0 : s.Since s.vm 0 := (State.WarmedH.refl s).since 0
 have hk0 : 0 ≤ h0.size := Nat.zero_le _
 have hCH : CHv Z ([("com/example/ballast_ledger/ballastledger/cli/Help", 7), ("com/example/ballast_ledger/ballastledger/cli/Help", 15), ("java/lang/String", 7)] : List (String × Nat)) s.vm h0 := hCH
 have hCR := CHr.refl hCH
 have sf_a1 : Safe Z ([("com/example/ballast_ledger/ballastledger/cli/Help", 7), ("com/example/ballast_ledger/ballastledger/cli/Help", 15), ("java/lang/String", 7)] : List (String × Nat)) s.vm h0 a1 := hSF _ (List.mem_of_getElem? (i := 0) rfl)
 have hstr : ∀ a ∈ Bundle.stringAtoms, a.before a0 Z = true := fun d hd => hw d ((by decide +kernel : ∀ d ∈ Bundle.stringAtoms, d ∈ tables_1) d hd)
 have kp0 := Keep.refl h0 []
 refine own_aln X0 q d7_0 rfl rfl ?_
 refine own_let ?_; intro g1447_
 obtain ⟨a1448, T1448, h1448, kk1448, b1448, k1448, X1448, e1448, E1448, hS1448, hk1448, hZ, hown, Ex1448, Fc1448, Fv1448, V1448, lt1448, lb1448, cH1448, Lt1448, sn1448, st1448⟩ := ldcCH X0 hx hZ hown (W 37 rfl) hstr e0 hS0 hk0 hEL (by simp) hCH (vs := [v'45, v'104]) (z := (2 : Int32)) ⟨by decide, by decide⟩ (by decide) rfl (g := g1447_) rfl (q.d d7_1) (n := 8) (by decide) (by decide) (by decide) (by decide)
 have zs1449 := Nat.le_trans Z0 E1448.1
 have hk1449 := Nat.le_trans hk0 E1448.1
 have od1449 := O0.ext E1448
 have kp1449 := kp0.ext E1448
 have cr1448 := CHr.trans hCR cH1448
 have sf1448_a1 := cH1448.safe (E1).lt sf_a1
 refine own_stq 3 [(.ref a1448), (.ref a1)] st1448 ?_
 refine own_cV X1448 q hZ e1448 hown hml (W 38 rfl) (W 39 rfl) (W 41 rfl) (W 40 rfl) (W 14 rfl) (W 42 rfl) rfl (E1.ext E1448) (rm8_2_2 l Z a0 hw a1 a1448 t1 b1448 k1 k1448 b0 b1 cs0 h1448 n0 zs1449 (E1.ext E1448) (FC.ext E1448) (FV.ext E1448) (V1.ext E1448) Ex1448 Fc1448 Fv1448 V1448 (sn1448 _ sf1448_a1).1 od1449 ⟨SCS, hcs⟩) d7_3 [(.ref a1448)] [] own_pd11 rfl rfl 0 (Nat.le_refl _) (by decide) (fun v1450 T1450 L1450 X1450 hQ1450 => ?_)
 obtain ⟨z1450, rfl, N1450q, e1450, hM1450⟩ := hQ1450
 have N1450 := Fr.app N0 N1450q
 refine own_nv ?_
 by_cases hc6_1451 : z1450 = (0 : Int32)
 ·refine own_zn X1450 q d7_6 (((if0 _ _).trans (teq hc6_1451).2)) (own_aln X1450 q d7_9 rfl rfl ?_)
  refine own_let ?_; intro g1452_
  obtain ⟨a1453, T1453, h1453, kk1453, b1453, k1453, X1453, e1453, E1453, hS1453, hk1453, hZ, hown, Ex1453, Fc1453, Fv1453, V1453, lt1453, lb1453, cH1453, Lt1453, sn1453, st1453⟩ := ldcCH X1450 hx hZ hown (W 49 rfl) hstr e1450 hS1448 hk1448 hEL (by simp) cH1448.1 (vs := [v'45, v'45, v'104, v'101, v'108, v'112]) (z := (6 : Int32)) ⟨by decide, by decide⟩ (by decide) rfl (g := g1452_) rfl (q.d d7_10) (n := 24) (by decide) (by decide) (by decide) (by decide)
  have zs1454 := Nat.le_trans zs1449 E1453.1
  have hk1454 := Nat.le_trans hk1448 E1453.1
  have od1454 := od1449.ext E1453
  have kp1454 := kp1449.ext E1453
  have cr1453 := CHr.trans cr1448 cH1453
  have sf1453_a1 := cH1453.safe ((E1.ext E1448)).lt sf1448_a1
  refine own_stq 12 [(.ref a1453), (.ref a1)] st1453 ?_
  refine own_cV X1453 q hZ e1453 hown hml (W 38 rfl) (W 39 rfl) (W 41 rfl) (W 40 rfl) (W 14 rfl) (W 42 rfl) rfl ((E1.ext E1448).ext E1453) (rm8_2_6 l Z a0 hw a1 a1453 t1 b1453 k1 k1453 b0 b1 cs0 h1453 n0 zs1454 ((E1.ext E1448).ext E1453) ((FC.ext E1448).ext E1453) ((FV.ext E1448).ext E1453) ((V1.ext E1448).ext E1453) Ex1453 Fc1453 Fv1453 V1453 (sn1453 _ sf1453_a1).1 od1454 ⟨SCS, hcs⟩) d7_12 [(.ref a1453)] [] own_pd11 rfl rfl 0 (Nat.le_refl _) (by decide) (fun v1455 T1455 L1455 X1455 hQ1455 => ?_)
  obtain ⟨z1455, rfl, N1455q, e1455, hM1455⟩ := hQ1455
  have N1455 := Fr.app N1450 N1455q
  refine own_nv ?_
  by_cases hc15_1456 : z1455 = (0 : Int32)
  ·refine own_zy X1455 q d7_15 (((if0 _ _).trans (teq hc15_1456).1)) (own_k X1455 q d7_22 ?_)
   have hRR : CHr Z ([("com/example/ballast_ledger/ballastledger/cli/Help", 7), ("com/example/ballast_ledger/ballastledger/cli/Help", 15), ("java/lang/String", 7)] : List (String × Nat)) s.vm s.heap T1455.vm T1455.heap := by rw [hh, e1455]; exact CHr.trans cr1453 (CHv.at X1455 hZ hEL cH1453.1)
   refine own_retNH X1455 hS1453 (by rw [e1455]; exact hk1453) hRR hx (t := .boolean) Bd.returns (by simp) (q.d d7_23) hlk ?_ (by decide) (by decide)
   show QME ((([b0, b1] : List Int32) = ([(45 : Int32), (104 : Int32)] : List Int32)) ∨ (([b0, b1] : List Int32) = ([(45 : Int32), (45 : Int32), (104 : Int32), (101 : Int32), (108 : Int32), (112 : Int32)] : List Int32))) h0 n0 _ T1455.heap _
   rw [e1455]
   exact ⟨_, rfl, N1455, own_extK kp1454, Or.inr ⟨rfl, fun q => q.elim (hM1450.elim (fun r => absurd (r.1.symm.trans hc6_1451) (by decide)) (fun r => r.2)) (hM1455.elim (fun r => absurd (r.1.symm.trans hc15_1456) (by decide)) (fun r => r.2))⟩⟩
  ·refine own_zn X1455 q d7_15 (((if0 _ _).trans (feq hc15_1456).1)) (own_k X1455 q d7_18 (own_gt X1455 q d7_19 ?_))
   have hRR : CHr Z ([("com/example/ballast_ledger/ballastledger/cli/Help", 7), ("com/example/ballast_ledger/ballastledger/cli/Help", 15), ("java/lang/String", 7)] : List (String × Nat)) s.vm s.heap T1455.vm T1455.heap := by rw [hh, e1455]; exact CHr.trans cr1453 (CHv.at X1455 hZ hEL cH1453.1)
   refine own_retNH X1455 hS1453 (by rw [e1455]; exact hk1453) hRR hx (t := .boolean) Bd.returns (by simp) (q.d d7_23) hlk ?_ (by decide) (by decide)
   show QME ((([b0, b1] : List Int32) = ([(45 : Int32), (104 : Int32)] : List Int32)) ∨ (([b0, b1] : List Int32) = ([(45 : Int32), (45 : Int32), (104 : Int32), (101 : Int32), (108 : Int32), (112 : Int32)] : List Int32))) h0 n0 _ T1455.heap _
   rw [e1455]
   exact ⟨_, rfl, N1455, own_extK kp1454, Or.inl ⟨rfl, Or.inr (hM1455.elim (fun r => r.2) (fun r => absurd r.1 hc15_1456))⟩⟩
 ·refine own_zy X1450 q d7_6 (((if0 _ _).trans (feq hc6_1451).2)) (own_k X1450 q d7_18 (own_gt X1450 q d7_19 ?_))
  have hRR : CHr Z ([("com/example/ballast_ledger/ballastledger/cli/Help", 7), ("com/example/ballast_ledger/ballastledger/cli/Help", 15), ("java/lang/String", 7)] : List (String × Nat)) s.vm s.heap T1450.vm T1450.heap := by rw [hh, e1450]; exact CHr.trans cr1448 (CHv.at X1450 hZ hEL cH1448.1)
  refine own_retNH X1450 hS1448 (by rw [e1450]; exact hk1448) hRR hx (t := .boolean) Bd.returns (by simp) (q.d d7_23) hlk ?_ (by decide) (by decide)
  show QME ((([b0, b1] : List Int32) = ([(45 : Int32), (104 : Int32)] : List Int32)) ∨ (([b0, b1] : List Int32) = ([(45 : Int32), (45 : Int32), (104 : Int32), (101 : Int32), (108 : Int32), (112 : Int32)] : List Int32))) h0 n0 _ T1450.heap _
  rw [e1450]
  exact ⟨_, rfl, N1450, own_extK kp1449, Or.inl ⟨rfl, Or.inl (hM1450.elim (fun r => r.2) (fun r => absurd r.1 hc6_1451))⟩⟩
theorem rm7_3 (l : Launch) (Z : State) (a0 : Array Value) (hw : ∀ d ∈ tables_1, d.before a0 Z = true) (ws : List Jvm.Cond) (a1 : Addr) (t1 : Addr) (k1 : ClassId) (b0 b1 b2 : Int32) (cs0 : Int32) (h0 : Heap) (n0 : Nat) (Z0 : n0 ≤ h0.size) (E1 : Exa Z h0 a1 "java/lang/String") (FC : F'0 Z h0 a1 v'0) (FV : F'1 Z h0 a1 (.ref t1)) (V1 : Arv Z h0 t1 k1 .byte (3 : Int32) [(.int b0), (.int b1), (.int b2)] v'0) (O0 : Old Z n0 h0) (SC_ : own_SC Z cs0) (hEL : EW Z a0 ([("com/example/ballast_ledger/ballastledger/cli/Help", 7), ("com/example/ballast_ledger/ballastledger/cli/Help", 15), ("java/lang/String", 7)] : List (String × Nat))) :
  MetFree l (⟨"com/example/ballast_ledger/ballastledger/cli/Help", "isAsked", "(Ljava/lang/String;)Z"⟩ : MethodName) (head1 (Jvm.Cond.code (⟨"com/example/ballast_ledger/ballastledger/cli/Help", "isAsked", "(Ljava/lang/String;)Z"⟩ : MethodName) b'7 1 (some .boolean) :: ws) ({ frames := 2, cells := 4, slots := 40, locals := 28 } : Room)) (fun a U => a = #[(.ref a1)] ∧ Z.Warmed39 U.vm ∧ U.heap = h0 ∧ CHv Z ([("com/example/ballast_ledger/ballastledger/cli/Help", 7), ("com/example/ballast_ledger/ballastledger/cli/Help", 15), ("java/lang/String", 7)] : List (String × Nat)) U.vm h0 ∧ ∀ x ∈ ([a1] : List Addr), Safe Z ([("com/example/ballast_ledger/ballastledger/cli/Help", 7), ("com/example/ballast_ledger/ballastledger/cli/Help", 15), ("java/lang/String", 7)] : List (String × Nat)) U.vm h0 x) (fun _ _ _ _ _ => True) (fun _ U o U' => ∃ v L, o = .returned v ∧ QME ((([b0, b1, b2] : List Int32) = ([(45 : Int32), (104 : Int32)] : List Int32)) ∨ (([b0, b1, b2] : List Int32) = ([(45 : Int32), (45 : Int32), (104 : Int32), (101 : Int32), (108 : Int32), (112 : Int32)] : List Int32))) h0 n0 v U'.heap L ∧ CHr Z ([("com/example/ballast_ledger/ballastledger/cli/Help", 7), ("com/example/ballast_ledger/ballastledger/cli/Help", 15), ("java/lang/String", 7)] : List (String × Nat)) U.vm U.heap U'.vm U'.heap ∧ ReturnedEndW U o U' L ({ frames := 2, cells := 4, slots := 40, locals := 28 } : Room).cells ({ frames := 2, cells := 4, slots := 40, locals := 28 } : Room).slots) := by
 obtain ⟨SCS, hcs⟩ := SC_
 refine MetFree.of_bodySF pn_7 hisR ?_
 intro p e s m args below meth c s₁ Bd hml0 hP hK
 obtain ⟨rfl, hZ, hh, hCH, hSF⟩ := hP
 have hx := Bd.exec
 have hby := Bd.bytes
 have q : own_q p c b'7 := ⟨hx, hby⟩
 have W := @own_w _ _ hw
 have hml : c.maxLocals = 1 := hml0
 have hown : s.vm.findClass "com/example/ballast_ledger/ballastledger/cli/Help" = some m.cls := findClass_of_methodNamed Bd.named
 have hnm := (name_of_methodNamed Bd.named Bd.method).1
 have hlk : meth.locks = false := BodyLoose.notSynchronized Bd
 have X0 : Stand p l e ({ frames := 2, cells := 4, slots := 40, locals := 28 } : Room) s m #[(.ref a1)] below meth c s₁ [] 0 0 := Stand.of_body Bd
 have e0 : s₁.heap = h0 := by rw [← hh, Bd.state]; rfl
 have N0 := Fr.nil n0
 show own_Fin p e below (own_PH Z ([("com/example/ballast_ledger/ballastledger/cli/Help", 7), ("com/example/ballast_ledger/ballastledger/cli/Help", 15), ("java/lang/String", 7)] : List (String × Nat)) (QME ((([b0, b1, b2] : List Int32) = ([(45 : Int32), (104 : Int32)] : List Int32)) ∨ (([b0, b1, b2] : List Int32) = ([(45 : Int32), (45 : Int32), (104 : Int32), (101 : Int32), (108 : Int32), (112 : Int32)] : List Int32))) h0 n0) s ({ frames := 2, cells := 4, slots := 40, locals := 28 } : Room).cells ({ frames := 2, cells := 4, slots := 40, locals := 28 } : Room).slots) (s₁.setTop (entryFrame m #[(.ref a1)] 1))
 rw [show entryFrame m #[(.ref a1)] 1 = mkF m 0 #[.val (.ref a1)] [] from by first | (simp [entryFrame, mkF, argsToLocals, Value.category]; done) | rfl]
 have X0 : Stand p l e ({ frames := 2, cells := 4, slots := 40, locals := 28 } : Room) (s.setVm s.vm) m #[(.ref a1)] below meth c s₁ [] 0 0 := X0
 have hZ : Z.Warmed39 (s.setVm s.vm).vm := hZ
 have hown : (s.setVm s.vm).vm.findClass "com/example/ballast_ledger/ballastledger/cli/Help" = some m.cls := hown
 have hS0 : s.Since s.vm 0 := (State.WarmedH.refl s).since 0
 have hk0 : 0 ≤ h0.size := Nat.zero_le _
 have hCH : CHv Z ([("com/example/ballast_ledger/ballastledger/cli/Help", 7), ("com/example/ballast_ledger/ballastledger/cli/Help", 15), ("java/lang/String", 7)] : List (String × Nat)) s.vm h0 := hCH
 have hCR := CHr.refl hCH
 have sf_a1 : Safe Z ([("com/example/ballast_ledger/ballastledger/cli/Help", 7), ("com/example/ballast_ledger/ballastledger/cli/Help", 15), ("java/lang/String", 7)] : List (String × Nat)) s.vm h0 a1 := hSF _ (List.mem_of_getElem? (i := 0) rfl)
 have hstr : ∀ a ∈ Bundle.stringAtoms, a.before a0 Z = true := fun d hd => hw d ((by decide +kernel : ∀ d ∈ Bundle.stringAtoms, d ∈ tables_1) d hd)
 have kp0 := Keep.refl h0 []
 refine own_aln X0 q d7_0 rfl rfl ?_
 refine own_let ?_; intro g1467_
 obtain ⟨a1468, T1468, h1468, kk1468, b1468, k1468, X1468, e1468, E1468, hS1468, hk1468, hZ, hown, Ex1468, Fc1468, Fv1468, V1468, lt1468, lb1468, cH1468, Lt1468, sn1468, st1468⟩ := ldcCH X0 hx hZ hown (W 37 rfl) hstr e0 hS0 hk0 hEL (by simp) hCH (vs := [v'45, v'104]) (z := (2 : Int32)) ⟨by decide, by decide⟩ (by decide) rfl (g := g1467_) rfl (q.d d7_1) (n := 8) (by decide) (by decide) (by decide) (by decide)
 have zs1469 := Nat.le_trans Z0 E1468.1
 have hk1469 := Nat.le_trans hk0 E1468.1
 have od1469 := O0.ext E1468
 have kp1469 := kp0.ext E1468
 have cr1468 := CHr.trans hCR cH1468
 have sf1468_a1 := cH1468.safe (E1).lt sf_a1
 refine own_stq 3 [(.ref a1468), (.ref a1)] st1468 ?_
 refine own_cV X1468 q hZ e1468 hown hml (W 38 rfl) (W 39 rfl) (W 41 rfl) (W 40 rfl) (W 14 rfl) (W 42 rfl) rfl (E1.ext E1468) (rm8_3_2 l Z a0 hw a1 a1468 t1 b1468 k1 k1468 b0 b1 b2 cs0 h1468 n0 zs1469 (E1.ext E1468) (FC.ext E1468) (FV.ext E1468) (V1.ext E1468) Ex1468 Fc1468 Fv1468 V1468 (sn1468 _ sf1468_a1).1 od1469 ⟨SCS, hcs⟩) d7_3 [(.ref a1468)] [] own_pd11 rfl rfl 0 (Nat.le_refl _) (by decide) (fun v1470 T1470 L1470 X1470 hQ1470 => ?_)
 obtain ⟨z1470, rfl, N1470q, e1470, hM1470⟩ := hQ1470
 have N1470 := Fr.app N0 N1470q
 refine own_nv ?_
 by_cases hc6_1471 : z1470 = (0 : Int32)
 ·refine own_zn X1470 q d7_6 (((if0 _ _).trans (teq hc6_1471).2)) (own_aln X1470 q d7_9 rfl rfl ?_)
  refine own_let ?_; intro g1472_
  obtain ⟨a1473, T1473, h1473, kk1473, b1473, k1473, X1473, e1473, E1473, hS1473, hk1473, hZ, hown, Ex1473, Fc1473, Fv1473, V1473, lt1473, lb1473, cH1473, Lt1473, sn1473, st1473⟩ := ldcCH X1470 hx hZ hown (W 49 rfl) hstr e1470 hS1468 hk1468 hEL (by simp) cH1468.1 (vs := [v'45, v'45, v'104, v'101, v'108, v'112]) (z := (6 : Int32)) ⟨by decide, by decide⟩ (by decide) rfl (g := g1472_) rfl (q.d d7_10) (n := 24) (by decide) (by decide) (by decide) (by decide)
  have zs1474 := Nat.le_trans zs1469 E1473.1
  have hk1474 := Nat.le_trans hk1468 E1473.1
  have od1474 := od1469.ext E1473
  have kp1474 := kp1469.ext E1473
  have cr1473 := CHr.trans cr1468 cH1473
  have sf1473_a1 := cH1473.safe ((E1.ext E1468)).lt sf1468_a1
  refine own_stq 12 [(.ref a1473), (.ref a1)] st1473 ?_
  refine own_cV X1473 q hZ e1473 hown hml (W 38 rfl) (W 39 rfl) (W 41 rfl) (W 40 rfl) (W 14 rfl) (W 42 rfl) rfl ((E1.ext E1468).ext E1473) (rm8_3_6 l Z a0 hw a1 a1473 t1 b1473 k1 k1473 b0 b1 b2 cs0 h1473 n0 zs1474 ((E1.ext E1468).ext E1473) ((FC.ext E1468).ext E1473) ((FV.ext E1468).ext E1473) ((V1.ext E1468).ext E1473) Ex1473 Fc1473 Fv1473 V1473 (sn1473 _ sf1473_a1).1 od1474 ⟨SCS, hcs⟩) d7_12 [(.ref a1473)] [] own_pd11 rfl rfl 0 (Nat.le_refl _) (by decide) (fun v1475 T1475 L1475 X1475 hQ1475 => ?_)
  obtain ⟨z1475, rfl, N1475q, e1475, hM1475⟩ := hQ1475
  have N1475 := Fr.app N1470 N1475q
  refine own_nv ?_
  by_cases hc15_1476 : z1475 = (0 : Int32)
  ·refine own_zy X1475 q d7_15 (((if0 _ _).trans (teq hc15_1476).1)) (own_k X1475 q d7_22 ?_)
   have hRR : CHr Z ([("com/example/ballast_ledger/ballastledger/cli/Help", 7), ("com/example/ballast_ledger/ballastledger/cli/Help", 15), ("java/lang/String", 7)] : List (String × Nat)) s.vm s.heap T1475.vm T1475.heap := by rw [hh, e1475]; exact CHr.trans cr1473 (CHv.at X1475 hZ hEL cH1473.1)
   refine own_retNH X1475 hS1473 (by rw [e1475]; exact hk1473) hRR hx (t := .boolean) Bd.returns (by simp) (q.d d7_23) hlk ?_ (by decide) (by decide)
   show QME ((([b0, b1, b2] : List Int32) = ([(45 : Int32), (104 : Int32)] : List Int32)) ∨ (([b0, b1, b2] : List Int32) = ([(45 : Int32), (45 : Int32), (104 : Int32), (101 : Int32), (108 : Int32), (112 : Int32)] : List Int32))) h0 n0 _ T1475.heap _
   rw [e1475]
   exact ⟨_, rfl, N1475, own_extK kp1474, Or.inr ⟨rfl, fun q => q.elim (hM1470.elim (fun r => absurd (r.1.symm.trans hc6_1471) (by decide)) (fun r => r.2)) (hM1475.elim (fun r => absurd (r.1.symm.trans hc15_1476) (by decide)) (fun r => r.2))⟩⟩
  ·refine own_zn X1475 q d7_15 (((if0 _ _).trans (feq hc15_1476).1)) (own_k X1475 q d7_18 (own_gt X1475 q d7_19 ?_))
   have hRR : CHr Z ([("com/example/ballast_ledger/ballastledger/cli/Help", 7), ("com/example/ballast_ledger/ballastledger/cli/Help", 15), ("java/lang/String", 7)] : List (String × Nat)) s.vm s.heap T1475.vm T1475.heap := by rw [hh, e1475]; exact CHr.trans cr1473 (CHv.at X1475 hZ hEL cH1473.1)
   refine own_retNH X1475 hS1473 (by rw [e1475]; exact hk1473) hRR hx (t := .boolean) Bd.returns (by simp) (q.d d7_23) hlk ?_ (by decide) (by decide)
   show QME ((([b0, b1, b2] : List Int32) = ([(45 : Int32), (104 : Int32)] : List Int32)) ∨ (([b0, b1, b2] : List Int32) = ([(45 : Int32), (45 : Int32), (104 : Int32), (101 : Int32), (108 : Int32), (112 : Int32)] : List Int32))) h0 n0 _ T1475.heap _
   rw [e1475]
   exact ⟨_, rfl, N1475, own_extK kp1474, Or.inl ⟨rfl, Or.inr (hM1475.elim (fun r => r.2) (fun r => absurd r.1 hc15_1476))⟩⟩
 ·refine own_zy X1470 q d7_6 (((if0 _ _).trans (feq hc6_1471).2)) (own_k X1470 q d7_18 (own_gt X1470 q d7_19 ?_))
  have hRR : CHr Z ([("com/example/ballast_ledger/ballastledger/cli/Help", 7), ("com/example/ballast_ledger/ballastledger/cli/Help", 15), ("java/lang/String", 7)] : List (String × Nat)) s.vm s.heap T1470.vm T1470.heap := by rw [hh, e1470]; exact CHr.trans cr1468 (CHv.at X1470 hZ hEL cH1468.1)
  refine own_retNH X1470 hS1468 (by rw [e1470]; exact hk1468) hRR hx (t := .boolean) Bd.returns (by simp) (q.d d7_23) hlk ?_ (by decide) (by decide)
  show QME ((([b0, b1, b2] : List Int32) = ([(45 : Int32), (104 : Int32)] : List Int32)) ∨ (([b0, b1, b2] : List Int32) = ([(45 : Int32), (45 : Int32), (104 : Int32), (101 : Int32), (108 : Int32), (112 : Int32)] : List Int32))) h0 n0 _ T1470.heap _
  rw [e1470]
  exact ⟨_, rfl, N1470, own_extK kp1469, Or.inl ⟨rfl, Or.inl (hM1470.elim (fun r => r.2) (fun r => absurd r.1 hc6_1471))⟩⟩
theorem rm7_4 (l : Launch) (Z : State) (a0 : Array Value) (hw : ∀ d ∈ tables_1, d.before a0 Z = true) (ws : List Jvm.Cond) (a1 : Addr) (t1 : Addr) (k1 : ClassId) (b0 b1 b2 b3 : Int32) (cs0 : Int32) (h0 : Heap) (n0 : Nat) (Z0 : n0 ≤ h0.size) (E1 : Exa Z h0 a1 "java/lang/String") (FC : F'0 Z h0 a1 v'0) (FV : F'1 Z h0 a1 (.ref t1)) (V1 : Arv Z h0 t1 k1 .byte (4 : Int32) [(.int b0), (.int b1), (.int b2), (.int b3)] v'0) (O0 : Old Z n0 h0) (SC_ : own_SC Z cs0) (hEL : EW Z a0 ([("com/example/ballast_ledger/ballastledger/cli/Help", 7), ("com/example/ballast_ledger/ballastledger/cli/Help", 15), ("java/lang/String", 7)] : List (String × Nat))) :
  MetFree l (⟨"com/example/ballast_ledger/ballastledger/cli/Help", "isAsked", "(Ljava/lang/String;)Z"⟩ : MethodName) (head1 (Jvm.Cond.code (⟨"com/example/ballast_ledger/ballastledger/cli/Help", "isAsked", "(Ljava/lang/String;)Z"⟩ : MethodName) b'7 1 (some .boolean) :: ws) ({ frames := 2, cells := 4, slots := 40, locals := 28 } : Room)) (fun a U => a = #[(.ref a1)] ∧ Z.Warmed39 U.vm ∧ U.heap = h0 ∧ CHv Z ([("com/example/ballast_ledger/ballastledger/cli/Help", 7), ("com/example/ballast_ledger/ballastledger/cli/Help", 15), ("java/lang/String", 7)] : List (String × Nat)) U.vm h0 ∧ ∀ x ∈ ([a1] : List Addr), Safe Z ([("com/example/ballast_ledger/ballastledger/cli/Help", 7), ("com/example/ballast_ledger/ballastledger/cli/Help", 15), ("java/lang/String", 7)] : List (String × Nat)) U.vm h0 x) (fun _ _ _ _ _ => True) (fun _ U o U' => ∃ v L, o = .returned v ∧ QME ((([b0, b1, b2, b3] : List Int32) = ([(45 : Int32), (104 : Int32)] : List Int32)) ∨ (([b0, b1, b2, b3] : List Int32) = ([(45 : Int32), (45 : Int32), (104 : Int32), (101 : Int32), (108 : Int32), (112 : Int32)] : List Int32))) h0 n0 v U'.heap L ∧ CHr Z ([("com/example/ballast_ledger/ballastledger/cli/Help", 7), ("com/example/ballast_ledger/ballastledger/cli/Help", 15), ("java/lang/String", 7)] : List (String × Nat)) U.vm U.heap U'.vm U'.heap ∧ ReturnedEndW U o U' L ({ frames := 2, cells := 4, slots := 40, locals := 28 } : Room).cells ({ frames := 2, cells := 4, slots := 40, locals := 28 } : Room).slots) := by
 obtain ⟨SCS, hcs⟩ := SC_
 refine MetFree.of_bodySF pn_7 hisR ?_
 intro p e s m args below meth c s₁ Bd hml0 hP hK
 obtain ⟨rfl, hZ, hh, hCH, hSF⟩ := hP
 have hx := Bd.exec
 have hby := Bd.bytes
 have q : own_q p c b'7 := ⟨hx, hby⟩
 have W := @own_w _ _ hw
 have hml : c.maxLocals = 1 := hml0
 have hown : s.vm.findClass "com/example/ballast_ledger/ballastledger/cli/Help" = some m.cls := findClass_of_methodNamed Bd.named
 have hnm := (name_of_methodNamed Bd.named Bd.method).1
 have hlk : meth.locks = false := BodyLoose.notSynchronized Bd
 have X0 : Stand p l e ({ frames := 2, cells := 4, slots := 40, locals := 28 } : Room) s m #[(.ref a1)] below meth c s₁ [] 0 0 := Stand.of_body Bd
 have e0 : s₁.heap = h0 := by rw [← hh, Bd.state]; rfl
 have N0 := Fr.nil n0
 show own_Fin p e below (own_PH Z ([("com/example/ballast_ledger/ballastledger/cli/Help", 7), ("com/example/ballast_ledger/ballastledger/cli/Help", 15), ("java/lang/String", 7)] : List (String × Nat)) (QME ((([b0, b1, b2, b3] : List Int32) = ([(45 : Int32), (104 : Int32)] : List Int32)) ∨ (([b0, b1, b2, b3] : List Int32) = ([(45 : Int32), (45 : Int32), (104 : Int32), (101 : Int32), (108 : Int32), (112 : Int32)] : List Int32))) h0 n0) s ({ frames := 2, cells := 4, slots := 40, locals := 28 } : Room).cells ({ frames := 2, cells := 4, slots := 40, locals := 28 } : Room).slots) (s₁.setTop (entryFrame m #[(.ref a1)] 1))
 rw [show entryFrame m #[(.ref a1)] 1 = mkF m 0 #[.val (.ref a1)] [] from by first | (simp [entryFrame, mkF, argsToLocals, Value.category]; done) | rfl]
 have X0 : Stand p l e ({ frames := 2, cells := 4, slots := 40, locals := 28 } : Room) (s.setVm s.vm) m #[(.ref a1)] below meth c s₁ [] 0 0 := X0
 have hZ : Z.Warmed39 (s.setVm s.vm).vm := hZ
 have hown : (s.setVm s.vm).vm.findClass "com/example/ballast_ledger/ballastledger/cli/Help" = some m.cls := hown
 have hS0 : s.Since s.vm 0 := (State.WarmedH.refl s).since 0
 have hk0 : 0 ≤ h0.size := Nat.zero_le _
 have hCH : CHv Z ([("com/example/ballast_ledger/ballastledger/cli/Help", 7), ("com/example/ballast_ledger/ballastledger/cli/Help", 15), ("java/lang/String", 7)] : List (String × Nat)) s.vm h0 := hCH
 have hCR := CHr.refl hCH
 have sf_a1 : Safe Z ([("com/example/ballast_ledger/ballastledger/cli/Help", 7), ("com/example/ballast_ledger/ballastledger/cli/Help", 15), ("java/lang/String", 7)] : List (String × Nat)) s.vm h0 a1 := hSF _ (List.mem_of_getElem? (i := 0) rfl)
 have hstr : ∀ a ∈ Bundle.stringAtoms, a.before a0 Z = true := fun d hd => hw d ((by decide +kernel : ∀ d ∈ Bundle.stringAtoms, d ∈ tables_1) d hd)
 have kp0 := Keep.refl h0 []
 refine own_aln X0 q d7_0 rfl rfl ?_
 refine own_let ?_; intro g1487_
 obtain ⟨a1488, T1488, h1488, kk1488, b1488, k1488, X1488, e1488, E1488, hS1488, hk1488, hZ, hown, Ex1488, Fc1488, Fv1488, V1488, lt1488, lb1488, cH1488, Lt1488, sn1488, st1488⟩ := ldcCH X0 hx hZ hown (W 37 rfl) hstr e0 hS0 hk0 hEL (by simp) hCH (vs := [v'45, v'104]) (z := (2 : Int32)) ⟨by decide, by decide⟩ (by decide) rfl (g := g1487_) rfl (q.d d7_1) (n := 8) (by decide) (by decide) (by decide) (by decide)
 have zs1489 := Nat.le_trans Z0 E1488.1
 have hk1489 := Nat.le_trans hk0 E1488.1
 have od1489 := O0.ext E1488
 have kp1489 := kp0.ext E1488
 have cr1488 := CHr.trans hCR cH1488
 have sf1488_a1 := cH1488.safe (E1).lt sf_a1
 refine own_stq 3 [(.ref a1488), (.ref a1)] st1488 ?_
 refine own_cV X1488 q hZ e1488 hown hml (W 38 rfl) (W 39 rfl) (W 41 rfl) (W 40 rfl) (W 14 rfl) (W 42 rfl) rfl (E1.ext E1488) (rm8_4_2 l Z a0 hw a1 a1488 t1 b1488 k1 k1488 b0 b1 b2 b3 cs0 h1488 n0 zs1489 (E1.ext E1488) (FC.ext E1488) (FV.ext E1488) (V1.ext E1488) Ex1488 Fc1488 Fv1488 V1488 (sn1488 _ sf1488_a1).1 od1489 ⟨SCS, hcs⟩) d7_3 [(.ref a1488)] [] own_pd11 rfl rfl 0 (Nat.le_refl _) (by decide) (fun v1490 T1490 L1490 X1490 hQ1490 => ?_)
 obtain ⟨z1490, rfl, N1490q, e1490, hM1490⟩ := hQ1490
 have N1490 := Fr.app N0 N1490q
 refine own_nv ?_
 by_cases hc6_1491 : z1490 = (0 : Int32)
 ·refine own_zn X1490 q d7_6 (((if0 _ _).trans (teq hc6_1491).2)) (own_aln X1490 q d7_9 rfl rfl ?_)
  refine own_let ?_; intro g1492_
  obtain ⟨a1493, T1493, h1493, kk1493, b1493, k1493, X1493, e1493, E1493, hS1493, hk1493, hZ, hown, Ex1493, Fc1493, Fv1493, V1493, lt1493, lb1493, cH1493, Lt1493, sn1493, st1493⟩ := ldcCH X1490 hx hZ hown (W 49 rfl) hstr e1490 hS1488 hk1488 hEL (by simp) cH1488.1 (vs := [v'45, v'45, v'104, v'101, v'108, v'112]) (z := (6 : Int32)) ⟨by decide, by decide⟩ (by decide) rfl (g := g1492_) rfl (q.d d7_10) (n := 24) (by decide) (by decide) (by decide) (by decide)
  have zs1494 := Nat.le_trans zs1489 E1493.1
  have hk1494 := Nat.le_trans hk1488 E1493.1
  have od1494 := od1489.ext E1493
  have kp1494 := kp1489.ext E1493
  have cr1493 := CHr.trans cr1488 cH1493
  have sf1493_a1 := cH1493.safe ((E1.ext E1488)).lt sf1488_a1
  refine own_stq 12 [(.ref a1493), (.ref a1)] st1493 ?_
  refine own_cV X1493 q hZ e1493 hown hml (W 38 rfl) (W 39 rfl) (W 41 rfl) (W 40 rfl) (W 14 rfl) (W 42 rfl) rfl ((E1.ext E1488).ext E1493) (rm8_4_6 l Z a0 hw a1 a1493 t1 b1493 k1 k1493 b0 b1 b2 b3 cs0 h1493 n0 zs1494 ((E1.ext E1488).ext E1493) ((FC.ext E1488).ext E1493) ((FV.ext E1488).ext E1493) ((V1.ext E1488).ext E1493) Ex1493 Fc1493 Fv1493 V1493 (sn1493 _ sf1493_a1).1 od1494 ⟨SCS, hcs⟩) d7_12 [(.ref a1493)] [] own_pd11 rfl rfl 0 (Nat.le_refl _) (by decide) (fun v1495 T1495 L1495 X1495 hQ1495 => ?_)
  obtain ⟨z1495, rfl, N1495q, e1495, hM1495⟩ := hQ1495
  have N1495 := Fr.app N1490 N1495q
  refine own_nv ?_
  by_cases hc15_1496 : z1495 = (0 : Int32)
  ·refine own_zy X1495 q d7_15 (((if0 _ _).trans (teq hc15_1496).1)) (own_k X1495 q d7_22 ?_)
   have hRR : CHr Z ([("com/example/ballast_ledger/ballastledger/cli/Help", 7), ("com/example/ballast_ledger/ballastledger/cli/Help", 15), ("java/lang/String", 7)] : List (String × Nat)) s.vm s.heap T1495.vm T1495.heap := by rw [hh, e1495]; exact CHr.trans cr1493 (CHv.at X1495 hZ hEL cH1493.1)
   refine own_retNH X1495 hS1493 (by rw [e1495]; exact hk1493) hRR hx (t := .boolean) Bd.returns (by simp) (q.d d7_23) hlk ?_ (by decide) (by decide)
   show QME ((([b0, b1, b2, b3] : List Int32) = ([(45 : Int32), (104 : Int32)] : List Int32)) ∨ (([b0, b1, b2, b3] : List Int32) = ([(45 : Int32), (45 : Int32), (104 : Int32), (101 : Int32), (108 : Int32), (112 : Int32)] : List Int32))) h0 n0 _ T1495.heap _
   rw [e1495]
   exact ⟨_, rfl, N1495, own_extK kp1494, Or.inr ⟨rfl, fun q => q.elim (hM1490.elim (fun r => absurd (r.1.symm.trans hc6_1491) (by decide)) (fun r => r.2)) (hM1495.elim (fun r => absurd (r.1.symm.trans hc15_1496) (by decide)) (fun r => r.2))⟩⟩
  ·refine own_zn X1495 q d7_15 (((if0 _ _).trans (feq hc15_1496).1)) (own_k X1495 q d7_18 (own_gt X1495 q d7_19 ?_))
   have hRR : CHr Z ([("com/example/ballast_ledger/ballastledger/cli/Help", 7), ("com/example/ballast_ledger/ballastledger/cli/Help", 15), ("java/lang/String", 7)] : List (String × Nat)) s.vm s.heap T1495.vm T1495.heap := by rw [hh, e1495]; exact CHr.trans cr1493 (CHv.at X1495 hZ hEL cH1493.1)
   refine own_retNH X1495 hS1493 (by rw [e1495]; exact hk1493) hRR hx (t := .boolean) Bd.returns (by simp) (q.d d7_23) hlk ?_ (by decide) (by decide)
   show QME ((([b0, b1, b2, b3] : List Int32) = ([(45 : Int32), (104 : Int32)] : List Int32)) ∨ (([b0, b1, b2, b3] : List Int32) = ([(45 : Int32), (45 : Int32), (104 : Int32), (101 : Int32), (108 : Int32), (112 : Int32)] : List Int32))) h0 n0 _ T1495.heap _
   rw [e1495]
   exact ⟨_, rfl, N1495, own_extK kp1494, Or.inl ⟨rfl, Or.inr (hM1495.elim (fun r => r.2) (fun r => absurd r.1 hc15_1496))⟩⟩
 ·refine own_zy X1490 q d7_6 (((if0 _ _).trans (feq hc6_1491).2)) (own_k X1490 q d7_18 (own_gt X1490 q d7_19 ?_))
  have hRR : CHr Z ([("com/example/ballast_ledger/ballastledger/cli/Help", 7), ("com/example/ballast_ledger/ballastledger/cli/Help", 15), ("java/lang/String", 7)] : List (String × Nat)) s.vm s.heap T1490.vm T1490.heap := by rw [hh, e1490]; exact CHr.trans cr1488 (CHv.at X1490 hZ hEL cH1488.1)
  refine own_retNH X1490 hS1488 (by rw [e1490]; exact hk1488) hRR hx (t := .boolean) Bd.returns (by simp) (q.d d7_23) hlk ?_ (by decide) (by decide)
  show QME ((([b0, b1, b2, b3] : List Int32) = ([(45 : Int32), (104 : Int32)] : List Int32)) ∨ (([b0, b1, b2, b3] : List Int32) = ([(45 : Int32), (45 : Int32), (104 : Int32), (101 : Int32), (108 : Int32), (112 : Int32)] : List Int32))) h0 n0 _ T1490.heap _
  rw [e1490]
  exact ⟨_, rfl, N1490, own_extK kp1489, Or.inl ⟨rfl, Or.inl (hM1490.elim (fun r => r.2) (fun r => absurd r.1 hc6_1491))⟩⟩
theorem rm7_5 (l : Launch) (Z : State) (a0 : Array Value) (hw : ∀ d ∈ tables_1, d.before a0 Z = true) (ws : List Jvm.Cond) (a1 : Addr) (t1 : Addr) (k1 : ClassId) (b0 b1 b2 b3 b4 : Int32) (cs0 : Int32) (h0 : Heap) (n0 : Nat) (Z0 : n0 ≤ h0.size) (E1 : Exa Z h0 a1 "java/lang/String") (FC : F'0 Z h0 a1 v'0) (FV : F'1 Z h0 a1 (.ref t1)) (V1 : Arv Z h0 t1 k1 .byte (5 : Int32) [(.int b0), (.int b1), (.int b2), (.int b3), (.int b4)] v'0) (O0 : Old Z n0 h0) (SC_ : own_SC Z cs0) (hEL : EW Z a0 ([("com/example/ballast_ledger/ballastledger/cli/Help", 7), ("com/example/ballast_ledger/ballastledger/cli/Help", 15), ("java/lang/String", 7)] : List (String × Nat))) :
  MetFree l (⟨"com/example/ballast_ledger/ballastledger/cli/Help", "isAsked", "(Ljava/lang/String;)Z"⟩ : MethodName) (head1 (Jvm.Cond.code (⟨"com/example/ballast_ledger/ballastledger/cli/Help", "isAsked", "(Ljava/lang/String;)Z"⟩ : MethodName) b'7 1 (some .boolean) :: ws) ({ frames := 2, cells := 4, slots := 40, locals := 28 } : Room)) (fun a U => a = #[(.ref a1)] ∧ Z.Warmed39 U.vm ∧ U.heap = h0 ∧ CHv Z ([("com/example/ballast_ledger/ballastledger/cli/Help", 7), ("com/example/ballast_ledger/ballastledger/cli/Help", 15), ("java/lang/String", 7)] : List (String × Nat)) U.vm h0 ∧ ∀ x ∈ ([a1] : List Addr), Safe Z ([("com/example/ballast_ledger/ballastledger/cli/Help", 7), ("com/example/ballast_ledger/ballastledger/cli/Help", 15), ("java/lang/String", 7)] : List (String × Nat)) U.vm h0 x) (fun _ _ _ _ _ => True) (fun _ U o U' => ∃ v L, o = .returned v ∧ QME ((([b0, b1, b2, b3, b4] : List Int32) = ([(45 : Int32), (104 : Int32)] : List Int32)) ∨ (([b0, b1, b2, b3, b4] : List Int32) = ([(45 : Int32), (45 : Int32), (104 : Int32), (101 : Int32), (108 : Int32), (112 : Int32)] : List Int32))) h0 n0 v U'.heap L ∧ CHr Z ([("com/example/ballast_ledger/ballastledger/cli/Help", 7), ("com/example/ballast_ledger/ballastledger/cli/Help", 15), ("java/lang/String", 7)] : List (String × Nat)) U.vm U.heap U'.vm U'.heap ∧ ReturnedEndW U o U' L ({ frames := 2, cells := 4, slots := 40, locals := 28 } : Room).cells ({ frames := 2, cells := 4, slots := 40, locals := 28 } : Room).slots) := by
 obtain ⟨SCS, hcs⟩ := SC_
 refine MetFree.of_bodySF pn_7 hisR ?_
 intro p e s m args below meth c s₁ Bd hml0 hP hK
 obtain ⟨rfl, hZ, hh, hCH, hSF⟩ := hP
 have hx := Bd.exec
 have hby := Bd.bytes
 have q : own_q p c b'7 := ⟨hx, hby⟩
 have W := @own_w _ _ hw
 have hml : c.maxLocals = 1 := hml0
 have hown : s.vm.findClass "com/example/ballast_ledger/ballastledger/cli/Help" = some m.cls := findClass_of_methodNamed Bd.named
 have hnm := (name_of_methodNamed Bd.named Bd.method).1
 have hlk : meth.locks = false := BodyLoose.notSynchronized Bd
 have X0 : Stand p l e ({ frames := 2, cells := 4, slots := 40, locals := 28 } : Room) s m #[(.ref a1)] below meth c s₁ [] 0 0 := Stand.of_body Bd
 have e0 : s₁.heap = h0 := by rw [← hh, Bd.state]; rfl
 have N0 := Fr.nil n0
 show own_Fin p e below (own_PH Z ([("com/example/ballast_ledger/ballastledger/cli/Help", 7), ("com/example/ballast_ledger/ballastledger/cli/Help", 15), ("java/lang/String", 7)] : List (String × Nat)) (QME ((([b0, b1, b2, b3, b4] : List Int32) = ([(45 : Int32), (104 : Int32)] : List Int32)) ∨ (([b0, b1, b2, b3, b4] : List Int32) = ([(45 : Int32), (45 : Int32), (104 : Int32), (101 : Int32), (108 : Int32), (112 : Int32)] : List Int32))) h0 n0) s ({ frames := 2, cells := 4, slots := 40, locals := 28 } : Room).cells ({ frames := 2, cells := 4, slots := 40, locals := 28 } : Room).slots) (s₁.setTop (entryFrame m #[(.ref a1)] 1))
 rw [show entryFrame m #[(.ref a1)] 1 = mkF m 0 #[.val (.ref a1)] [] from by first | (simp [entryFrame, mkF, argsToLocals, Value.category]; done) | rfl]
 have X0 : Stand p l e ({ frames := 2, cells := 4, slots := 40, locals := 28 } : Room) (s.setVm s.vm) m #[(.ref a1)] below meth c s₁ [] 0 0 := X0
 have hZ : Z.Warmed39 (s.setVm s.vm).vm := hZ
 have hown : (s.setVm s.vm).vm.findClass "com/example/ballast_ledger/ballastledger/cli/Help" = some m.cls := hown
 have hS0 : s.Since s.vm 0 := (State.WarmedH.refl s).since 0
 have hk0 : 0 ≤ h0.size := Nat.zero_le _
 have hCH : CHv Z ([("com/example/ballast_ledger/ballastledger/cli/Help", 7), ("com/example/ballast_ledger/ballastledger/cli/Help", 15), ("java/lang/String", 7)] : List (String × Nat)) s.vm h0 := hCH
 have hCR := CHr.refl hCH
 have sf_a1 : Safe Z ([("com/example/ballast_ledger/ballastledger/cli/Help", 7), ("com/example/ballast_ledger/ballastledger/cli/Help", 15), ("java/lang/String", 7)] : List (String × Nat)) s.vm h0 a1 := hSF _ (List.mem_of_getElem? (i := 0) rfl)
 have hstr : ∀ a ∈ Bundle.stringAtoms, a.before a0 Z = true := fun d hd => hw d ((by decide +kernel : ∀ d ∈ Bundle.stringAtoms, d ∈ tables_1) d hd)
 have kp0 := Keep.refl h0 []
 refine own_aln X0 q d7_0 rfl rfl ?_
 refine own_let ?_; intro g1507_
 obtain ⟨a1508, T1508, h1508, kk1508, b1508, k1508, X1508, e1508, E1508, hS1508, hk1508, hZ, hown, Ex1508, Fc1508, Fv1508, V1508, lt1508, lb1508, cH1508, Lt1508, sn1508, st1508⟩ := ldcCH X0 hx hZ hown (W 37 rfl) hstr e0 hS0 hk0 hEL (by simp) hCH (vs := [v'45, v'104]) (z := (2 : Int32)) ⟨by decide, by decide⟩ (by decide) rfl (g := g1507_) rfl (q.d d7_1) (n := 8) (by decide) (by decide) (by decide) (by decide)
 have zs1509 := Nat.le_trans Z0 E1508.1
 have hk1509 := Nat.le_trans hk0 E1508.1
 have od1509 := O0.ext E1508
 have kp1509 := kp0.ext E1508
 have cr1508 := CHr.trans hCR cH1508
 have sf1508_a1 := cH1508.safe (E1).lt sf_a1
 refine own_stq 3 [(.ref a1508), (.ref a1)] st1508 ?_
 refine own_cV X1508 q hZ e1508 hown hml (W 38 rfl) (W 39 rfl) (W 41 rfl) (W 40 rfl) (W 14 rfl) (W 42 rfl) rfl (E1.ext E1508) (rm8_5_2 l Z a0 hw a1 a1508 t1 b1508 k1 k1508 b0 b1 b2 b3 b4 cs0 h1508 n0 zs1509 (E1.ext E1508) (FC.ext E1508) (FV.ext E1508) (V1.ext E1508) Ex1508 Fc1508 Fv1508 V1508 (sn1508 _ sf1508_a1).1 od1509 ⟨SCS, hcs⟩) d7_3 [(.ref a1508)] [] own_pd11 rfl rfl 0 (Nat.le_refl _) (by decide) (fun v1510 T1510 L1510 X1510 hQ1510 => ?_)
 obtain ⟨z1510, rfl, N1510q, e1510, hM1510⟩ := hQ1510
 have N1510 := Fr.app N0 N1510q
 refine own_nv ?_
 by_cases hc6_1511 : z1510 = (0 : Int32)
 ·refine own_zn X1510 q d7_6 (((if0 _ _).trans (teq hc6_1511).2)) (own_aln X1510 q d7_9 rfl rfl ?_)
  refine own_let ?_; intro g1512_
  obtain ⟨a1513, T1513, h1513, kk1513, b1513, k1513, X1513, e1513, E1513, hS1513, hk1513, hZ, hown, Ex1513, Fc1513, Fv1513, V1513, lt1513, lb1513, cH1513, Lt1513, sn1513, st1513⟩ := ldcCH X1510 hx hZ hown (W 49 rfl) hstr e1510 hS1508 hk1508 hEL (by simp) cH1508.1 (vs := [v'45, v'45, v'104, v'101, v'108, v'112]) (z := (6 : Int32)) ⟨by decide, by decide⟩ (by decide) rfl (g := g1512_) rfl (q.d d7_10) (n := 24) (by decide) (by decide) (by decide) (by decide)
  have zs1514 := Nat.le_trans zs1509 E1513.1
  have hk1514 := Nat.le_trans hk1508 E1513.1
  have od1514 := od1509.ext E1513
  have kp1514 := kp1509.ext E1513
  have cr1513 := CHr.trans cr1508 cH1513
  have sf1513_a1 := cH1513.safe ((E1.ext E1508)).lt sf1508_a1
  refine own_stq 12 [(.ref a1513), (.ref a1)] st1513 ?_
  refine own_cV X1513 q hZ e1513 hown hml (W 38 rfl) (W 39 rfl) (W 41 rfl) (W 40 rfl) (W 14 rfl) (W 42 rfl) rfl ((E1.ext E1508).ext E1513) (rm8_5_6 l Z a0 hw a1 a1513 t1 b1513 k1 k1513 b0 b1 b2 b3 b4 cs0 h1513 n0 zs1514 ((E1.ext E1508).ext E1513) ((FC.ext E1508).ext E1513) ((FV.ext E1508).ext E1513) ((V1.ext E1508).ext E1513) Ex1513 Fc1513 Fv1513 V1513 (sn1513 _ sf1513_a1).1 od1514 ⟨SCS, hcs⟩) d7_12 [(.ref a1513)] [] own_pd11 rfl rfl 0 (Nat.le_refl _) (by decide) (fun v1515 T1515 L1515 X1515 hQ1515 => ?_)
  obtain ⟨z1515, rfl, N1515q, e1515, hM1515⟩ := hQ1515
  have N1515 := Fr.app N1510 N1515q
  refine own_nv ?_
  by_cases hc15_1516 : z1515 = (0 : Int32)
  ·refine own_zy X1515 q d7_15 (((if0 _ _).trans (teq hc15_1516).1)) (own_k X1515 q d7_22 ?_)
   have hRR : CHr Z ([("com/example/ballast_ledger/ballastledger/cli/Help", 7), ("com/example/ballast_ledger/ballastledger/cli/Help", 15), ("java/lang/String", 7)] : List (String × Nat)) s.vm s.heap T1515.vm T1515.heap := by rw [hh, e1515]; exact CHr.trans cr1513 (CHv.at X1515 hZ hEL cH1513.1)
   refine own_retNH X1515 hS1513 (by rw [e1515]; exact hk1513) hRR hx (t := .boolean) Bd.returns (by simp) (q.d d7_23) hlk ?_ (by decide) (by decide)
   show QME ((([b0, b1, b2, b3, b4] : List Int32) = ([(45 : Int32), (104 : Int32)] : List Int32)) ∨ (([b0, b1, b2, b3, b4] : List Int32) = ([(45 : Int32), (45 : Int32), (104 : Int32), (101 : Int32), (108 : Int32), (112 : Int32)] : List Int32))) h0 n0 _ T1515.heap _
   rw [e1515]
   exact ⟨_, rfl, N1515, own_extK kp1514, Or.inr ⟨rfl, fun q => q.elim (hM1510.elim (fun r => absurd (r.1.symm.trans hc6_1511) (by decide)) (fun r => r.2)) (hM1515.elim (fun r => absurd (r.1.symm.trans hc15_1516) (by decide)) (fun r => r.2))⟩⟩
  ·refine own_zn X1515 q d7_15 (((if0 _ _).trans (feq hc15_1516).1)) (own_k X1515 q d7_18 (own_gt X1515 q d7_19 ?_))
   have hRR : CHr Z ([("com/example/ballast_ledger/ballastledger/cli/Help", 7), ("com/example/ballast_ledger/ballastledger/cli/Help", 15), ("java/lang/String", 7)] : List (String × Nat)) s.vm s.heap T1515.vm T1515.heap := by rw [hh, e1515]; exact CHr.trans cr1513 (CHv.at X1515 hZ hEL cH1513.1)
   refine own_retNH X1515 hS1513 (by rw [e1515]; exact hk1513) hRR hx (t := .boolean) Bd.returns (by simp) (q.d d7_23) hlk ?_ (by decide) (by decide)
   show QME ((([b0, b1, b2, b3, b4] : List Int32) = ([(45 : Int32), (104 : Int32)] : List Int32)) ∨ (([b0, b1, b2, b3, b4] : List Int32) = ([(45 : Int32), (45 : Int32), (104 : Int32), (101 : Int32), (108 : Int32), (112 : Int32)] : List Int32))) h0 n0 _ T1515.heap _
   rw [e1515]
   exact ⟨_, rfl, N1515, own_extK kp1514, Or.inl ⟨rfl, Or.inr (hM1515.elim (fun r => r.2) (fun r => absurd r.1 hc15_1516))⟩⟩
 ·refine own_zy X1510 q d7_6 (((if0 _ _).trans (feq hc6_1511).2)) (own_k X1510 q d7_18 (own_gt X1510 q d7_19 ?_))
  have hRR : CHr Z ([("com/example/ballast_ledger/ballastledger/cli/Help", 7), ("com/example/ballast_ledger/ballastledger/cli/Help", 15), ("java/lang/String", 7)] : List (String × Nat)) s.vm s.heap T1510.vm T1510.heap := by rw [hh, e1510]; exact CHr.trans cr1508 (CHv.at X1510 hZ hEL cH1508.1)
  refine own_retNH X1510 hS1508 (by rw [e1510]; exact hk1508) hRR hx (t := .boolean) Bd.returns (by simp) (q.d d7_23) hlk ?_ (by decide) (by decide)
  show QME ((([b0, b1, b2, b3, b4] : List Int32) = ([(45 : Int32), (104 : Int32)] : List Int32)) ∨ (([b0, b1, b2, b3, b4] : List Int32) = ([(45 : Int32), (45 : Int32), (104 : Int32), (101 : Int32), (108 : Int32), (112 : Int32)] : List Int32))) h0 n0 _ T1510.heap _
  rw [e1510]
  exact ⟨_, rfl, N1510, own_extK kp1509, Or.inl ⟨rfl, Or.inl (hM1510.elim (fun r => r.2) (fun r => absurd r.1 hc6_1511))⟩⟩
theorem rm7_6 (l : Launch) (Z : State) (a0 : Array Value) (hw : ∀ d ∈ tables_1, d.before a0 Z = true) (ws : List Jvm.Cond) (a1 : Addr) (t1 : Addr) (k1 : ClassId) (b0 b1 b2 b3 b4 b5 : Int32) (cs0 : Int32) (h0 : Heap) (n0 : Nat) (Z0 : n0 ≤ h0.size) (E1 : Exa Z h0 a1 "java/lang/String") (FC : F'0 Z h0 a1 v'0) (FV : F'1 Z h0 a1 (.ref t1)) (V1 : Arv Z h0 t1 k1 .byte (6 : Int32) [(.int b0), (.int b1), (.int b2), (.int b3), (.int b4), (.int b5)] v'0) (O0 : Old Z n0 h0) (SC_ : own_SC Z cs0) (hEL : EW Z a0 ([("com/example/ballast_ledger/ballastledger/cli/Help", 7), ("com/example/ballast_ledger/ballastledger/cli/Help", 15), ("java/lang/String", 7)] : List (String × Nat))) :
  MetFree l (⟨"com/example/ballast_ledger/ballastledger/cli/Help", "isAsked", "(Ljava/lang/String;)Z"⟩ : MethodName) (head1 (Jvm.Cond.code (⟨"com/example/ballast_ledger/ballastledger/cli/Help", "isAsked", "(Ljava/lang/String;)Z"⟩ : MethodName) b'7 1 (some .boolean) :: ws) ({ frames := 2, cells := 4, slots := 40, locals := 28 } : Room)) (fun a U => a = #[(.ref a1)] ∧ Z.Warmed39 U.vm ∧ U.heap = h0 ∧ CHv Z ([("com/example/ballast_ledger/ballastledger/cli/Help", 7), ("com/example/ballast_ledger/ballastledger/cli/Help", 15), ("java/lang/String", 7)] : List (String × Nat)) U.vm h0 ∧ ∀ x ∈ ([a1] : List Addr), Safe Z ([("com/example/ballast_ledger/ballastledger/cli/Help", 7), ("com/example/ballast_ledger/ballastledger/cli/Help", 15), ("java/lang/String", 7)] : List (String × Nat)) U.vm h0 x) (fun _ _ _ _ _ => True) (fun _ U o U' => ∃ v L, o = .returned v ∧ QME ((([b0, b1, b2, b3, b4, b5] : List Int32) = ([(45 : Int32), (104 : Int32)] : List Int32)) ∨ (([b0, b1, b2, b3, b4, b5] : List Int32) = ([(45 : Int32), (45 : Int32), (104 : Int32), (101 : Int32), (108 : Int32), (112 : Int32)] : List Int32))) h0 n0 v U'.heap L ∧ CHr Z ([("com/example/ballast_ledger/ballastledger/cli/Help", 7), ("com/example/ballast_ledger/ballastledger/cli/Help", 15), ("java/lang/String", 7)] : List (String × Nat)) U.vm U.heap U'.vm U'.heap ∧ ReturnedEndW U o U' L ({ frames := 2, cells := 4, slots := 40, locals := 28 } : Room).cells ({ frames := 2, cells := 4, slots := 40, locals := 28 } : Room).slots) := by
 obtain ⟨SCS, hcs⟩ := SC_
 refine MetFree.of_bodySF pn_7 hisR ?_
 intro p e s m args below meth c s₁ Bd hml0 hP hK
 obtain ⟨rfl, hZ, hh, hCH, hSF⟩ := hP
 have hx := Bd.exec
 have hby := Bd.bytes
 have q : own_q p c b'7 := ⟨hx, hby⟩
 have W := @own_w _ _ hw
 have hml : c.maxLocals = 1 := hml0
 have hown : s.vm.findClass "com/example/ballast_ledger/ballastledger/cli/Help" = some m.cls := findClass_of_methodNamed Bd.named
 have hnm := (name_of_methodNamed Bd.named Bd.method).1
 have hlk : meth.locks = false := BodyLoose.notSynchronized Bd
 have X0 : Stand p l e ({ frames := 2, cells := 4, slots := 40, locals := 28 } : Room) s m #[(.ref a1)] below meth c s₁ [] 0 0 := Stand.of_body Bd
 have e0 : s₁.heap = h0 := by rw [← hh, Bd.state]; rfl
 have N0 := Fr.nil n0
 show own_Fin p e below (own_PH Z ([("com/example/ballast_ledger/ballastledger/cli/Help", 7), ("com/example/ballast_ledger/ballastledger/cli/Help", 15), ("java/lang/String", 7)] : List (String × Nat)) (QME ((([b0, b1, b2, b3, b4, b5] : List Int32) = ([(45 : Int32), (104 : Int32)] : List Int32)) ∨ (([b0, b1, b2, b3, b4, b5] : List Int32) = ([(45 : Int32), (45 : Int32), (104 : Int32), (101 : Int32), (108 : Int32), (112 : Int32)] : List Int32))) h0 n0) s ({ frames := 2, cells := 4, slots := 40, locals := 28 } : Room).cells ({ frames := 2, cells := 4, slots := 40, locals := 28 } : Room).slots) (s₁.setTop (entryFrame m #[(.ref a1)] 1))
 rw [show entryFrame m #[(.ref a1)] 1 = mkF m 0 #[.val (.ref a1)] [] from by first | (simp [entryFrame, mkF, argsToLocals, Value.category]; done) | rfl]
 have X0 : Stand p l e ({ frames := 2, cells := 4, slots := 40, locals := 28 } : Room) (s.setVm s.vm) m #[(.ref a1)] below meth c s₁ [] 0 0 := X0
 have hZ : Z.Warmed39 (s.setVm s.vm).vm := hZ
 have hown : (s.setVm s.vm).vm.findClass "com/example/ballast_ledger/ballastledger/cli/Help" = some m.cls := hown
 have hS0 : s.Since s.vm 0 := (State.WarmedH.refl s).since 0
 have hk0 : 0 ≤ h0.size := Nat.zero_le _
 have hCH : CHv Z ([("com/example/ballast_ledger/ballastledger/cli/Help", 7), ("com/example/ballast_ledger/ballastledger/cli/Help", 15), ("java/lang/String", 7)] : List (String × Nat)) s.vm h0 := hCH
 have hCR := CHr.refl hCH
 have sf_a1 : Safe Z ([("com/example/ballast_ledger/ballastledger/cli/Help", 7), ("com/example/ballast_ledger/ballastledger/cli/Help", 15), ("java/lang/String", 7)] : List (String × Nat)) s.vm h0 a1 := hSF _ (List.mem_of_getElem? (i := 0) rfl)
 have hstr : ∀ a ∈ Bundle.stringAtoms, a.before a0 Z = true := fun d hd => hw d ((by decide +kernel : ∀ d ∈ Bundle.stringAtoms, d ∈ tables_1) d hd)
 have kp0 := Keep.refl h0 []
 refine own_aln X0 q d7_0 rfl rfl ?_
 refine own_let ?_; intro g1527_
 obtain ⟨a1528, T1528, h1528, kk1528, b1528, k1528, X1528, e1528, E1528, hS1528, hk1528, hZ, hown, Ex1528, Fc1528, Fv1528, V1528, lt1528, lb1528, cH1528, Lt1528, sn1528, st1528⟩ := ldcCH X0 hx hZ hown (W 37 rfl) hstr e0 hS0 hk0 hEL (by simp) hCH (vs := [v'45, v'104]) (z := (2 : Int32)) ⟨by decide, by decide⟩ (by decide) rfl (g := g1527_) rfl (q.d d7_1) (n := 8) (by decide) (by decide) (by decide) (by decide)
 have zs1529 := Nat.le_trans Z0 E1528.1
 have hk1529 := Nat.le_trans hk0 E1528.1
 have od1529 := O0.ext E1528
 have kp1529 := kp0.ext E1528
 have cr1528 := CHr.trans hCR cH1528
 have sf1528_a1 := cH1528.safe (E1).lt sf_a1
 refine own_stq 3 [(.ref a1528), (.ref a1)] st1528 ?_
 refine own_cV X1528 q hZ e1528 hown hml (W 38 rfl) (W 39 rfl) (W 41 rfl) (W 40 rfl) (W 14 rfl) (W 42 rfl) rfl (E1.ext E1528) (rm8_6_2 l Z a0 hw a1 a1528 t1 b1528 k1 k1528 b0 b1 b2 b3 b4 b5 cs0 h1528 n0 zs1529 (E1.ext E1528) (FC.ext E1528) (FV.ext E1528) (V1.ext E1528) Ex1528 Fc1528 Fv1528 V1528 (sn1528 _ sf1528_a1).1 od1529 ⟨SCS, hcs⟩) d7_3 [(.ref a1528)] [] own_pd11 rfl rfl 0 (Nat.le_refl _) (by decide) (fun v1530 T1530 L1530 X1530 hQ1530 => ?_)
 obtain ⟨z1530, rfl, N1530q, e1530, hM1530⟩ := hQ1530
 have N1530 := Fr.app N0 N1530q
 refine own_nv ?_
 by_cases hc6_1531 : z1530 = (0 : Int32)
 ·refine own_zn X1530 q d7_6 (((if0 _ _).trans (teq hc6_1531).2)) (own_aln X1530 q d7_9 rfl rfl ?_)
  refine own_let ?_; intro g1532_
  obtain ⟨a1533, T1533, h1533, kk1533, b1533, k1533, X1533, e1533, E1533, hS1533, hk1533, hZ, hown, Ex1533, Fc1533, Fv1533, V1533, lt1533, lb1533, cH1533, Lt1533, sn1533, st1533⟩ := ldcCH X1530 hx hZ hown (W 49 rfl) hstr e1530 hS1528 hk1528 hEL (by simp) cH1528.1 (vs := [v'45, v'45, v'104, v'101, v'108, v'112]) (z := (6 : Int32)) ⟨by decide, by decide⟩ (by decide) rfl (g := g1532_) rfl (q.d d7_10) (n := 24) (by decide) (by decide) (by decide) (by decide)
  have zs1534 := Nat.le_trans zs1529 E1533.1
  have hk1534 := Nat.le_trans hk1528 E1533.1
  have od1534 := od1529.ext E1533
  have kp1534 := kp1529.ext E1533
  have cr1533 := CHr.trans cr1528 cH1533
  have sf1533_a1 := cH1533.safe ((E1.ext E1528)).lt sf1528_a1
  refine own_stq 12 [(.ref a1533), (.ref a1)] st1533 ?_
  refine own_cV X1533 q hZ e1533 hown hml (W 38 rfl) (W 39 rfl) (W 41 rfl) (W 40 rfl) (W 14 rfl) (W 42 rfl) rfl ((E1.ext E1528).ext E1533) (rm8_6_6 l Z a0 hw a1 a1533 t1 b1533 k1 k1533 b0 b1 b2 b3 b4 b5 cs0 h1533 n0 zs1534 ((E1.ext E1528).ext E1533) ((FC.ext E1528).ext E1533) ((FV.ext E1528).ext E1533) ((V1.ext E1528).ext E1533) Ex1533 Fc1533 Fv1533 V1533 (sn1533 _ sf1533_a1).1 od1534 ⟨SCS, hcs⟩) d7_12 [(.ref a1533)] [] own_pd11 rfl rfl 0 (Nat.le_refl _) (by decide) (fun v1535 T1535 L1535 X1535 hQ1535 => ?_)
  obtain ⟨z1535, rfl, N1535q, e1535, hM1535⟩ := hQ1535
  have N1535 := Fr.app N1530 N1535q
  refine own_nv ?_
  by_cases hc15_1536 : z1535 = (0 : Int32)
  ·refine own_zy X1535 q d7_15 (((if0 _ _).trans (teq hc15_1536).1)) (own_k X1535 q d7_22 ?_)
   have hRR : CHr Z ([("com/example/ballast_ledger/ballastledger/cli/Help", 7), ("com/example/ballast_ledger/ballastledger/cli/Help", 15), ("java/lang/String", 7)] : List (String × Nat)) s.vm s.heap T1535.vm T1535.heap := by rw [hh, e1535]; exact CHr.trans cr1533 (CHv.at X1535 hZ hEL cH1533.1)
   refine own_retNH X1535 hS1533 (by rw [e1535]; exact hk1533) hRR hx (t := .boolean) Bd.returns (by simp) (q.d d7_23) hlk ?_ (by decide) (by decide)
   show QME ((([b0, b1, b2, b3, b4, b5] : List Int32) = ([(45 : Int32), (104 : Int32)] : List Int32)) ∨ (([b0, b1, b2, b3, b4, b5] : List Int32) = ([(45 : Int32), (45 : Int32), (104 : Int32), (101 : Int32), (108 : Int32), (112 : Int32)] : List Int32))) h0 n0 _ T1535.heap _
   rw [e1535]
   exact ⟨_, rfl, N1535, own_extK kp1534, Or.inr ⟨rfl, fun q => q.elim (hM1530.elim (fun r => absurd (r.1.symm.trans hc6_1531) (by decide)) (fun r => r.2)) (hM1535.elim (fun r => absurd (r.1.symm.trans hc15_1536) (by decide)) (fun r => r.2))⟩⟩
  ·refine own_zn X1535 q d7_15 (((if0 _ _).trans (feq hc15_1536).1)) (own_k X1535 q d7_18 (own_gt X1535 q d7_19 ?_))
   have hRR : CHr Z ([("com/example/ballast_ledger/ballastledger/cli/Help", 7), ("com/example/ballast_ledger/ballastledger/cli/Help", 15), ("java/lang/String", 7)] : List (String × Nat)) s.vm s.heap T1535.vm T1535.heap := by rw [hh, e1535]; exact CHr.trans cr1533 (CHv.at X1535 hZ hEL cH1533.1)
   refine own_retNH X1535 hS1533 (by rw [e1535]; exact hk1533) hRR hx (t := .boolean) Bd.returns (by simp) (q.d d7_23) hlk ?_ (by decide) (by decide)
   show QME ((([b0, b1, b2, b3, b4, b5] : List Int32) = ([(45 : Int32), (104 : Int32)] : List Int32)) ∨ (([b0, b1, b2, b3, b4, b5] : List Int32) = ([(45 : Int32), (45 : Int32), (104 : Int32), (101 : Int32), (108 : Int32), (112 : Int32)] : List Int32))) h0 n0 _ T1535.heap _
   rw [e1535]
   exact ⟨_, rfl, N1535, own_extK kp1534, Or.inl ⟨rfl, Or.inr (hM1535.elim (fun r => r.2) (fun r => absurd r.1 hc15_1536))⟩⟩
 ·refine own_zy X1530 q d7_6 (((if0 _ _).trans (feq hc6_1531).2)) (own_k X1530 q d7_18 (own_gt X1530 q d7_19 ?_))
  have hRR : CHr Z ([("com/example/ballast_ledger/ballastledger/cli/Help", 7), ("com/example/ballast_ledger/ballastledger/cli/Help", 15), ("java/lang/String", 7)] : List (String × Nat)) s.vm s.heap T1530.vm T1530.heap := by rw [hh, e1530]; exact CHr.trans cr1528 (CHv.at X1530 hZ hEL cH1528.1)
  refine own_retNH X1530 hS1528 (by rw [e1530]; exact hk1528) hRR hx (t := .boolean) Bd.returns (by simp) (q.d d7_23) hlk ?_ (by decide) (by decide)
  show QME ((([b0, b1, b2, b3, b4, b5] : List Int32) = ([(45 : Int32), (104 : Int32)] : List Int32)) ∨ (([b0, b1, b2, b3, b4, b5] : List Int32) = ([(45 : Int32), (45 : Int32), (104 : Int32), (101 : Int32), (108 : Int32), (112 : Int32)] : List Int32))) h0 n0 _ T1530.heap _
  rw [e1530]
  exact ⟨_, rfl, N1530, own_extK kp1529, Or.inl ⟨rfl, Or.inl (hM1530.elim (fun r => r.2) (fun r => absurd r.1 hc6_1531))⟩⟩
theorem rm7_7 (l : Launch) (Z : State) (a0 : Array Value) (hw : ∀ d ∈ tables_1, d.before a0 Z = true) (ws : List Jvm.Cond) (a1 : Addr) (t1 : Addr) (k1 : ClassId) (b0 b1 b2 b3 b4 b5 b6 : Int32) (cs0 : Int32) (h0 : Heap) (n0 : Nat) (Z0 : n0 ≤ h0.size) (E1 : Exa Z h0 a1 "java/lang/String") (FC : F'0 Z h0 a1 v'0) (FV : F'1 Z h0 a1 (.ref t1)) (V1 : Arv Z h0 t1 k1 .byte (7 : Int32) [(.int b0), (.int b1), (.int b2), (.int b3), (.int b4), (.int b5), (.int b6)] v'0) (O0 : Old Z n0 h0) (SC_ : own_SC Z cs0) (hEL : EW Z a0 ([("com/example/ballast_ledger/ballastledger/cli/Help", 7), ("com/example/ballast_ledger/ballastledger/cli/Help", 15), ("java/lang/String", 7)] : List (String × Nat))) :
  MetFree l (⟨"com/example/ballast_ledger/ballastledger/cli/Help", "isAsked", "(Ljava/lang/String;)Z"⟩ : MethodName) (head1 (Jvm.Cond.code (⟨"com/example/ballast_ledger/ballastledger/cli/Help", "isAsked", "(Ljava/lang/String;)Z"⟩ : MethodName) b'7 1 (some .boolean) :: ws) ({ frames := 2, cells := 4, slots := 40, locals := 28 } : Room)) (fun a U => a = #[(.ref a1)] ∧ Z.Warmed39 U.vm ∧ U.heap = h0 ∧ CHv Z ([("com/example/ballast_ledger/ballastledger/cli/Help", 7), ("com/example/ballast_ledger/ballastledger/cli/Help", 15), ("java/lang/String", 7)] : List (String × Nat)) U.vm h0 ∧ ∀ x ∈ ([a1] : List Addr), Safe Z ([("com/example/ballast_ledger/ballastledger/cli/Help", 7), ("com/example/ballast_ledger/ballastledger/cli/Help", 15), ("java/lang/String", 7)] : List (String × Nat)) U.vm h0 x) (fun _ _ _ _ _ => True) (fun _ U o U' => ∃ v L, o = .returned v ∧ QME ((([b0, b1, b2, b3, b4, b5, b6] : List Int32) = ([(45 : Int32), (104 : Int32)] : List Int32)) ∨ (([b0, b1, b2, b3, b4, b5, b6] : List Int32) = ([(45 : Int32), (45 : Int32), (104 : Int32), (101 : Int32), (108 : Int32), (112 : Int32)] : List Int32))) h0 n0 v U'.heap L ∧ CHr Z ([("com/example/ballast_ledger/ballastledger/cli/Help", 7), ("com/example/ballast_ledger/ballastledger/cli/Help", 15), ("java/lang/String", 7)] : List (String × Nat)) U.vm U.heap U'.vm U'.heap ∧ ReturnedEndW U o U' L ({ frames := 2, cells := 4, slots := 40, locals := 28 } : Room).cells ({ frames := 2, cells := 4, slots := 40, locals := 28 } : Room).slots) := by
 obtain ⟨SCS, hcs⟩ := SC_
 refine MetFree.of_bodySF pn_7 hisR ?_
 intro p e s m args below meth c s₁ Bd hml0 hP hK
 obtain ⟨rfl, hZ, hh, hCH, hSF⟩ := hP
 have hx := Bd.exec
 have hby := Bd.bytes
 have q : own_q p c b'7 := ⟨hx, hby⟩
 have W := @own_w _ _ hw
 have hml : c.maxLocals = 1 := hml0
 have hown : s.vm.findClass "com/example/ballast_ledger/ballastledger/cli/Help" = some m.cls := findClass_of_methodNamed Bd.named
 have hnm := (name_of_methodNamed Bd.named Bd.method).1
 have hlk : meth.locks = false := BodyLoose.notSynchronized Bd
 have X0 : Stand p l e ({ frames := 2, cells := 4, slots := 40, locals := 28 } : Room) s m #[(.ref a1)] below meth c s₁ [] 0 0 := Stand.of_body Bd
 have e0 : s₁.heap = h0 := by rw [← hh, Bd.state]; rfl
 have N0 := Fr.nil n0
 show own_Fin p e below (own_PH Z ([("com/example/ballast_ledger/ballastledger/cli/Help", 7), ("com/example/ballast_ledger/ballastledger/cli/Help", 15), ("java/lang/String", 7)] : List (String × Nat)) (QME ((([b0, b1, b2, b3, b4, b5, b6] : List Int32) = ([(45 : Int32), (104 : Int32)] : List Int32)) ∨ (([b0, b1, b2, b3, b4, b5, b6] : List Int32) = ([(45 : Int32), (45 : Int32), (104 : Int32), (101 : Int32), (108 : Int32), (112 : Int32)] : List Int32))) h0 n0) s ({ frames := 2, cells := 4, slots := 40, locals := 28 } : Room).cells ({ frames := 2, cells := 4, slots := 40, locals := 28 } : Room).slots) (s₁.setTop (entryFrame m #[(.ref a1)] 1))
 rw [show entryFrame m #[(.ref a1)] 1 = mkF m 0 #[.val (.ref a1)] [] from by first | (simp [entryFrame, mkF, argsToLocals, Value.category]; done) | rfl]
 have X0 : Stand p l e ({ frames := 2, cells := 4, slots := 40, locals := 28 } : Room) (s.setVm s.vm) m #[(.ref a1)] below meth c s₁ [] 0 0 := X0
 have hZ : Z.Warmed39 (s.setVm s.vm).vm := hZ
 have hown : (s.setVm s.vm).vm.findClass "com/example/ballast_ledger/ballastledger/cli/Help" = some m.cls := hown
 have hS0 : s.Since s.vm 0 := (State.WarmedH.refl s).since 0
 have hk0 : 0 ≤ h0.size := Nat.zero_le _
 have hCH : CHv Z ([("com/example/ballast_ledger/ballastledger/cli/Help", 7), ("com/example/ballast_ledger/ballastledger/cli/Help", 15), ("java/lang/String", 7)] : List (String × Nat)) s.vm h0 := hCH
 have hCR := CHr.refl hCH
 have sf_a1 : Safe Z ([("com/example/ballast_ledger/ballastledger/cli/Help", 7), ("com/example/ballast_ledger/ballastledger/cli/Help", 15), ("java/lang/String", 7)] : List (String × Nat)) s.vm h0 a1 := hSF _ (List.mem_of_getElem? (i := 0) rfl)
 have hstr : ∀ a ∈ Bundle.stringAtoms, a.before a0 Z = true := fun d hd => hw d ((by decide +kernel : ∀ d ∈ Bundle.stringAtoms, d ∈ tables_1) d hd)
 have kp0 := Keep.refl h0 []
 refine own_aln X0 q d7_0 rfl rfl ?_
 refine own_let ?_; intro g1547_
 obtain ⟨a1548, T1548, h1548, kk1548, b1548, k1548, X1548, e1548, E1548, hS1548, hk1548, hZ, hown, Ex1548, Fc1548, Fv1548, V1548, lt1548, lb1548, cH1548, Lt1548, sn1548, st1548⟩ := ldcCH X0 hx hZ hown (W 37 rfl) hstr e0 hS0 hk0 hEL (by simp) hCH (vs := [v'45, v'104]) (z := (2 : Int32)) ⟨by decide, by decide⟩ (by decide) rfl (g := g1547_) rfl (q.d d7_1) (n := 8) (by decide) (by decide) (by decide) (by decide)
 have zs1549 := Nat.le_trans Z0 E1548.1
 have hk1549 := Nat.le_trans hk0 E1548.1
 have od1549 := O0.ext E1548
 have kp1549 := kp0.ext E1548
 have cr1548 := CHr.trans hCR cH1548
 have sf1548_a1 := cH1548.safe (E1).lt sf_a1
 refine own_stq 3 [(.ref a1548), (.ref a1)] st1548 ?_
 refine own_cV X1548 q hZ e1548 hown hml (W 38 rfl) (W 39 rfl) (W 41 rfl) (W 40 rfl) (W 14 rfl) (W 42 rfl) rfl (E1.ext E1548) (rm8_7_2 l Z a0 hw a1 a1548 t1 b1548 k1 k1548 b0 b1 b2 b3 b4 b5 b6 cs0 h1548 n0 zs1549 (E1.ext E1548) (FC.ext E1548) (FV.ext E1548) (V1.ext E1548) Ex1548 Fc1548 Fv1548 V1548 (sn1548 _ sf1548_a1).1 od1549 ⟨SCS, hcs⟩) d7_3 [(.ref a1548)] [] own_pd11 rfl rfl 0 (Nat.le_refl _) (by decide) (fun v1550 T1550 L1550 X1550 hQ1550 => ?_)
 obtain ⟨z1550, rfl, N1550q, e1550, hM1550⟩ := hQ1550
 have N1550 := Fr.app N0 N1550q
 refine own_nv ?_
 by_cases hc6_1551 : z1550 = (0 : Int32)
 ·refine own_zn X1550 q d7_6 (((if0 _ _).trans (teq hc6_1551).2)) (own_aln X1550 q d7_9 rfl rfl ?_)
  refine own_let ?_; intro g1552_
  obtain ⟨a1553, T1553, h1553, kk1553, b1553, k1553, X1553, e1553, E1553, hS1553, hk1553, hZ, hown, Ex1553, Fc1553, Fv1553, V1553, lt1553, lb1553, cH1553, Lt1553, sn1553, st1553⟩ := ldcCH X1550 hx hZ hown (W 49 rfl) hstr e1550 hS1548 hk1548 hEL (by simp) cH1548.1 (vs := [v'45, v'45, v'104, v'101, v'108, v'112]) (z := (6 : Int32)) ⟨by decide, by decide⟩ (by decide) rfl (g := g1552_) rfl (q.d d7_10) (n := 24) (by decide) (by decide) (by decide) (by decide)
  have zs1554 := Nat.le_trans zs1549 E1553.1
  have hk1554 := Nat.le_trans hk1548 E1553.1
  have od1554 := od1549.ext E1553
  have kp1554 := kp1549.ext E1553
  have cr1553 := CHr.trans cr1548 cH1553
  have sf1553_a1 := cH1553.safe ((E1.ext E1548)).lt sf1548_a1
  refine own_stq 12 [(.ref a1553), (.ref a1)] st1553 ?_
  refine own_cV X1553 q hZ e1553 hown hml (W 38 rfl) (W 39 rfl) (W 41 rfl) (W 40 rfl) (W 14 rfl) (W 42 rfl) rfl ((E1.ext E1548).ext E1553) (rm8_7_6 l Z a0 hw a1 a1553 t1 b1553 k1 k1553 b0 b1 b2 b3 b4 b5 b6 cs0 h1553 n0 zs1554 ((E1.ext E1548).ext E1553) ((FC.ext E1548).ext E1553) ((FV.ext E1548).ext E1553) ((V1.ext E1548).ext E1553) Ex1553 Fc1553 Fv1553 V1553 (sn1553 _ sf1553_a1).1 od1554 ⟨SCS, hcs⟩) d7_12 [(.ref a1553)] [] own_pd11 rfl rfl 0 (Nat.le_refl _) (by decide) (fun v1555 T1555 L1555 X1555 hQ1555 => ?_)
  obtain ⟨z1555, rfl, N1555q, e1555, hM1555⟩ := hQ1555
  have N1555 := Fr.app N1550 N1555q
  refine own_nv ?_
  by_cases hc15_1556 : z1555 = (0 : Int32)
  ·refine own_zy X1555 q d7_15 (((if0 _ _).trans (teq hc15_1556).1)) (own_k X1555 q d7_22 ?_)
   have hRR : CHr Z ([("com/example/ballast_ledger/ballastledger/cli/Help", 7), ("com/example/ballast_ledger/ballastledger/cli/Help", 15), ("java/lang/String", 7)] : List (String × Nat)) s.vm s.heap T1555.vm T1555.heap := by rw [hh, e1555]; exact CHr.trans cr1553 (CHv.at X1555 hZ hEL cH1553.1)
   refine own_retNH X1555 hS1553 (by rw [e1555]; exact hk1553) hRR hx (t := .boolean) Bd.returns (by simp) (q.d d7_23) hlk ?_ (by decide) (by decide)
   show QME ((([b0, b1, b2, b3, b4, b5, b6] : List Int32) = ([(45 : Int32), (104 : Int32)] : List Int32)) ∨ (([b0, b1, b2, b3, b4, b5, b6] : List Int32) = ([(45 : Int32), (45 : Int32), (104 : Int32), (101 : Int32), (108 : Int32), (112 : Int32)] : List Int32))) h0 n0 _ T1555.heap _
   rw [e1555]
   exact ⟨_, rfl, N1555, own_extK kp1554, Or.inr ⟨rfl, fun q => q.elim (hM1550.elim (fun r => absurd (r.1.symm.trans hc6_1551) (by decide)) (fun r => r.2)) (hM1555.elim (fun r => absurd (r.1.symm.trans hc15_1556) (by decide)) (fun r => r.2))⟩⟩
  ·refine own_zn X1555 q d7_15 (((if0 _ _).trans (feq hc15_1556).1)) (own_k X1555 q d7_18 (own_gt X1555 q d7_19 ?_))
   have hRR : CHr Z ([("com/example/ballast_ledger/ballastledger/cli/Help", 7), ("com/example/ballast_ledger/ballastledger/cli/Help", 15), ("java/lang/String", 7)] : List (String × Nat)) s.vm s.heap T1555.vm T1555.heap := by rw [hh, e1555]; exact CHr.trans cr1553 (CHv.at X1555 hZ hEL cH1553.1)
   refine own_retNH X1555 hS1553 (by rw [e1555]; exact hk1553) hRR hx (t := .boolean) Bd.returns (by simp) (q.d d7_23) hlk ?_ (by decide) (by decide)
   show QME ((([b0, b1, b2, b3, b4, b5, b6] : List Int32) = ([(45 : Int32), (104 : Int32)] : List Int32)) ∨ (([b0, b1, b2, b3, b4, b5, b6] : List Int32) = ([(45 : Int32), (45 : Int32), (104 : Int32), (101 : Int32), (108 : Int32), (112 : Int32)] : List Int32))) h0 n0 _ T1555.heap _
   rw [e1555]
   exact ⟨_, rfl, N1555, own_extK kp1554, Or.inl ⟨rfl, Or.inr (hM1555.elim (fun r => r.2) (fun r => absurd r.1 hc15_1556))⟩⟩
 ·refine own_zy X1550 q d7_6 (((if0 _ _).trans (feq hc6_1551).2)) (own_k X1550 q d7_18 (own_gt X1550 q d7_19 ?_))
  have hRR : CHr Z ([("com/example/ballast_ledger/ballastledger/cli/Help", 7), ("com/example/ballast_ledger/ballastledger/cli/Help", 15), ("java/lang/String", 7)] : List (String × Nat)) s.vm s.heap T1550.vm T1550.heap := by rw [hh, e1550]; exact CHr.trans cr1548 (CHv.at X1550 hZ hEL cH1548.1)
  refine own_retNH X1550 hS1548 (by rw [e1550]; exact hk1548) hRR hx (t := .boolean) Bd.returns (by simp) (q.d d7_23) hlk ?_ (by decide) (by decide)
  show QME ((([b0, b1, b2, b3, b4, b5, b6] : List Int32) = ([(45 : Int32), (104 : Int32)] : List Int32)) ∨ (([b0, b1, b2, b3, b4, b5, b6] : List Int32) = ([(45 : Int32), (45 : Int32), (104 : Int32), (101 : Int32), (108 : Int32), (112 : Int32)] : List Int32))) h0 n0 _ T1550.heap _
  rw [e1550]
  exact ⟨_, rfl, N1550, own_extK kp1549, Or.inl ⟨rfl, Or.inl (hM1550.elim (fun r => r.2) (fun r => absurd r.1 hc6_1551))⟩⟩
theorem d0_0 : own_D code 0 (.iload_n 0) 1 1 := by decide +kernel
theorem d0_1 : own_DK code 1 7 3 := by decide +kernel
theorem d0_3 : own_D code 3 .iand 1 4 := by decide +kernel
theorem d0_4 : own_D code 4 (.istore 6) 2 6 := by decide +kernel
theorem d0_6 : own_D code 6 (.iload 6) 2 8 := by decide +kernel
theorem d0_8 : own_D code 8 (.iload_n 1) 1 9 := by decide +kernel
theorem d0_9 : own_D code 9 (.lload_n 2) 1 10 := by decide +kernel
theorem d0_10 : own_D code 10 (.lload 4) 2 12 := by decide +kernel
theorem d0_12 : own_DK code 12 0 13 := by decide +kernel
theorem d0_13 : own_D code 13 (.invokestatic 19) 3 16 := by decide +kernel
theorem d0_16 : own_D code 16 (.istore 7) 2 18 := by decide +kernel
theorem d0_18 : own_D code 18 (.iload 6) 2 20 := by decide +kernel
theorem d0_20 : own_D code 20 (.iload_n 1) 1 21 := by decide +kernel
theorem d0_21 : own_D code 21 (.lload_n 2) 1 22 := by decide +kernel
theorem d0_22 : own_D code 22 (.lload 4) 2 24 := by decide +kernel
theorem d0_24 : own_DK code 24 1 25 := by decide +kernel
theorem d0_25 : own_D code 25 (.invokestatic 19) 3 28 := by decide +kernel
theorem d0_28 : own_D code 28 (.istore 8) 2 30 := by decide +kernel
theorem d0_30 : own_D code 30 (.iload 6) 2 32 := by decide +kernel
theorem d0_32 : own_D code 32 (.iload_n 1) 1 33 := by decide +kernel
theorem d0_33 : own_D code 33 (.lload_n 2) 1 34 := by decide +kernel
theorem d0_34 : own_D code 34 (.lload 4) 2 36 := by decide +kernel
theorem d0_36 : own_DK code 36 2 37 := by decide +kernel
theorem d0_37 : own_D code 37 (.invokestatic 19) 3 40 := by decide +kernel
theorem d0_40 : own_D code 40 (.istore 9) 2 42 := by decide +kernel
theorem d0_42 : own_D code 42 (.iload 6) 2 44 := by decide +kernel
theorem d0_44 : own_D code 44 (.iload_n 1) 1 45 := by decide +kernel
theorem d0_45 : own_D code 45 (.lload_n 2) 1 46 := by decide +kernel
theorem d0_46 : own_D code 46 (.lload 4) 2 48 := by decide +kernel
theorem d0_48 : own_DK code 48 3 49 := by decide +kernel
theorem d0_49 : own_D code 49 (.invokestatic 19) 3 52 := by decide +kernel
theorem d0_52 : own_D code 52 (.istore 10) 2 54 := by decide +kernel
theorem d0_54 : own_D code 54 (.iload 6) 2 56 := by decide +kernel
theorem d0_56 : own_D code 56 (.iload_n 1) 1 57 := by decide +kernel
theorem d0_57 : own_D code 57 (.lload_n 2) 1 58 := by decide +kernel
theorem d0_58 : own_D code 58 (.lload 4) 2 60 := by decide +kernel
theorem d0_60 : own_DK code 60 4 61 := by decide +kernel
theorem d0_61 : own_D code 61 (.invokestatic 19) 3 64 := by decide +kernel
theorem d0_64 : own_D code 64 (.istore 11) 2 66 := by decide +kernel
theorem d0_66 : own_D code 66 (.iload 6) 2 68 := by decide +kernel
theorem d0_68 : own_D code 68 (.iload_n 1) 1 69 := by decide +kernel
theorem d0_69 : own_D code 69 (.lload_n 2) 1 70 := by decide +kernel
theorem d0_70 : own_D code 70 (.lload 4) 2 72 := by decide +kernel
theorem d0_72 : own_DK code 72 5 73 := by decide +kernel
theorem d0_73 : own_D code 73 (.invokestatic 19) 3 76 := by decide +kernel
theorem d0_76 : own_D code 76 (.istore 12) 2 78 := by decide +kernel
theorem d0_78 : own_D code 78 (.iload 6) 2 80 := by decide +kernel
theorem d0_80 : own_D code 80 (.iload_n 1) 1 81 := by decide +kernel
theorem d0_81 : own_D code 81 (.lload_n 2) 1 82 := by decide +kernel
theorem d0_82 : own_D code 82 (.lload 4) 2 84 := by decide +kernel
theorem d0_84 : own_DK code 84 6 86 := by decide +kernel
theorem d0_86 : own_D code 86 (.invokestatic 19) 3 89 := by decide +kernel
theorem d0_89 : own_D code 89 (.istore 13) 2 91 := by decide +kernel
theorem d0_91 : own_D code 91 (.iload 6) 2 93 := by decide +kernel
theorem d0_93 : own_DZ code 93 .ne 104 96 := by decide +kernel
theorem d0_96 : own_DK code 96 0 97 := by decide +kernel
theorem d0_97 : own_D code 97 (.newarray .char) 2 99 := by decide +kernel
theorem d0_99 : own_D code 99 (.astore 14) 2 101 := by decide +kernel
theorem d0_101 : own_DG code 101 337 := by decide +kernel
theorem d0_104 : own_D code 104 (.iload 6) 2 106 := by decide +kernel
theorem d0_106 : own_DK code 106 1 107 := by decide +kernel
theorem d0_107 : own_DJ code 107 .ne 123 110 := by decide +kernel
theorem d0_110 : own_DK code 110 1 111 := by decide +kernel
theorem d0_111 : own_D code 111 (.newarray .char) 2 113 := by decide +kernel
theorem d0_113 : own_D code 113 .dup 1 114 := by decide +kernel
theorem d0_114 : own_DK code 114 0 115 := by decide +kernel
theorem d0_115 : own_D code 115 (.iload 7) 2 117 := by decide +kernel
theorem d0_117 : own_D code 117 .castore 1 118 := by decide +kernel
theorem d0_118 : own_D code 118 (.astore 14) 2 120 := by decide +kernel
theorem d0_120 : own_DG code 120 337 := by decide +kernel
theorem d0_123 : own_D code 123 (.iload 6) 2 125 := by decide +kernel
theorem d0_125 : own_DK code 125 2 126 := by decide +kernel
theorem d0_126 : own_DJ code 126 .ne 147 129 := by decide +kernel
theorem d0_129 : own_DK code 129 2 130 := by decide +kernel
theorem d0_130 : own_D code 130 (.newarray .char) 2 132 := by decide +kernel
theorem d0_132 : own_D code 132 .dup 1 133 := by decide +kernel
theorem d0_133 : own_DK code 133 0 134 := by decide +kernel
theorem d0_134 : own_D code 134 (.iload 7) 2 136 := by decide +kernel
theorem d0_136 : own_D code 136 .castore 1 137 := by decide +kernel
theorem d0_137 : own_D code 137 .dup 1 138 := by decide +kernel
theorem d0_138 : own_DK code 138 1 139 := by decide +kernel
theorem d0_139 : own_D code 139 (.iload 8) 2 141 := by decide +kernel
theorem d0_141 : own_D code 141 .castore 1 142 := by decide +kernel
theorem d0_142 : own_D code 142 (.astore 14) 2 144 := by decide +kernel
theorem d0_144 : own_DG code 144 337 := by decide +kernel
theorem d0_147 : own_D code 147 (.iload 6) 2 149 := by decide +kernel
theorem d0_149 : own_DK code 149 3 150 := by decide +kernel
theorem d0_150 : own_DJ code 150 .ne 176 153 := by decide +kernel
theorem d0_153 : own_DK code 153 3 154 := by decide +kernel
theorem d0_154 : own_D code 154 (.newarray .char) 2 156 := by decide +kernel
theorem d0_156 : own_D code 156 .dup 1 157 := by decide +kernel
theorem d0_157 : own_DK code 157 0 158 := by decide +kernel
theorem d0_158 : own_D code 158 (.iload 7) 2 160 := by decide +kernel
theorem d0_160 : own_D code 160 .castore 1 161 := by decide +kernel
theorem d0_161 : own_D code 161 .dup 1 162 := by decide +kernel
theorem d0_162 : own_DK code 162 1 163 := by decide +kernel
theorem d0_163 : own_D code 163 (.iload 8) 2 165 := by decide +kernel
theorem d0_165 : own_D code 165 .castore 1 166 := by decide +kernel
theorem d0_166 : own_D code 166 .dup 1 167 := by decide +kernel
theorem d0_167 : own_DK code 167 2 168 := by decide +kernel
theorem d0_168 : own_D code 168 (.iload 9) 2 170 := by decide +kernel
theorem d0_170 : own_D code 170 .castore 1 171 := by decide +kernel
theorem d0_171 : own_D code 171 (.astore 14) 2 173 := by decide +kernel
theorem d0_173 : own_DG code 173 337 := by decide +kernel
theorem d0_176 : own_D code 176 (.iload 6) 2 178 := by decide +kernel
theorem d0_178 : own_DK code 178 4 179 := by decide +kernel
theorem d0_179 : own_DJ code 179 .ne 210 182 := by decide +kernel
theorem d0_182 : own_DK code 182 4 183 := by decide +kernel
theorem d0_183 : own_D code 183 (.newarray .char) 2 185 := by decide +kernel
theorem d0_185 : own_D code 185 .dup 1 186 := by decide +kernel
theorem d0_186 : own_DK code 186 0 187 := by decide +kernel
theorem d0_187 : own_D code 187 (.iload 7) 2 189 := by decide +kernel
theorem d0_189 : own_D code 189 .castore 1 190 := by decide +kernel
theorem d0_190 : own_D code 190 .dup 1 191 := by decide +kernel
theorem d0_191 : own_DK code 191 1 192 := by decide +kernel
theorem d0_192 : own_D code 192 (.iload 8) 2 194 := by decide +kernel
theorem d0_194 : own_D code 194 .castore 1 195 := by decide +kernel
theorem d0_195 : own_D code 195 .dup 1 196 := by decide +kernel
theorem d0_196 : own_DK code 196 2 197 := by decide +kernel
theorem d0_197 : own_D code 197 (.iload 9) 2 199 := by decide +kernel
theorem d0_199 : own_D code 199 .castore 1 200 := by decide +kernel
theorem d0_200 : own_D code 200 .dup 1 201 := by decide +kernel
theorem d0_201 : own_DK code 201 3 202 := by decide +kernel
theorem d0_202 : own_D code 202 (.iload 10) 2 204 := by decide +kernel
theorem d0_204 : own_D code 204 .castore 1 205 := by decide +kernel
theorem d0_205 : own_D code 205 (.astore 14) 2 207 := by decide +kernel
theorem d0_207 : own_DG code 207 337 := by decide +kernel
theorem d0_210 : own_D code 210 (.iload 6) 2 212 := by decide +kernel
theorem d0_212 : own_DK code 212 5 213 := by decide +kernel
theorem d0_213 : own_DJ code 213 .ne 249 216 := by decide +kernel
theorem d0_216 : own_DK code 216 5 217 := by decide +kernel
theorem d0_217 : own_D code 217 (.newarray .char) 2 219 := by decide +kernel
theorem d0_219 : own_D code 219 .dup 1 220 := by decide +kernel
theorem d0_220 : own_DK code 220 0 221 := by decide +kernel
theorem d0_221 : own_D code 221 (.iload 7) 2 223 := by decide +kernel
theorem d0_223 : own_D code 223 .castore 1 224 := by decide +kernel
theorem d0_224 : own_D code 224 .dup 1 225 := by decide +kernel
theorem d0_225 : own_DK code 225 1 226 := by decide +kernel
theorem d0_226 : own_D code 226 (.iload 8) 2 228 := by decide +kernel
theorem d0_228 : own_D code 228 .castore 1 229 := by decide +kernel
theorem d0_229 : own_D code 229 .dup 1 230 := by decide +kernel
theorem d0_230 : own_DK code 230 2 231 := by decide +kernel
theorem d0_231 : own_D code 231 (.iload 9) 2 233 := by decide +kernel
theorem d0_233 : own_D code 233 .castore 1 234 := by decide +kernel
theorem d0_234 : own_D code 234 .dup 1 235 := by decide +kernel
theorem d0_235 : own_DK code 235 3 236 := by decide +kernel
theorem d0_236 : own_D code 236 (.iload 10) 2 238 := by decide +kernel
theorem d0_238 : own_D code 238 .castore 1 239 := by decide +kernel
theorem d0_239 : own_D code 239 .dup 1 240 := by decide +kernel
theorem d0_240 : own_DK code 240 4 241 := by decide +kernel
theorem d0_241 : own_D code 241 (.iload 11) 2 243 := by decide +kernel
theorem d0_243 : own_D code 243 .castore 1 244 := by decide +kernel
theorem d0_244 : own_D code 244 (.astore 14) 2 246 := by decide +kernel
theorem d0_246 : own_DG code 246 337 := by decide +kernel
theorem d0_249 : own_D code 249 (.iload 6) 2 251 := by decide +kernel
theorem d0_251 : own_DK code 251 6 253 := by decide +kernel
theorem d0_253 : own_DJ code 253 .ne 295 256 := by decide +kernel
theorem d0_256 : own_DK code 256 6 258 := by decide +kernel
theorem d0_258 : own_D code 258 (.newarray .char) 2 260 := by decide +kernel
theorem d0_260 : own_D code 260 .dup 1 261 := by decide +kernel
theorem d0_261 : own_DK code 261 0 262 := by decide +kernel
theorem d0_262 : own_D code 262 (.iload 7) 2 264 := by decide +kernel
theorem d0_264 : own_D code 264 .castore 1 265 := by decide +kernel
theorem d0_265 : own_D code 265 .dup 1 266 := by decide +kernel
theorem d0_266 : own_DK code 266 1 267 := by decide +kernel
theorem d0_267 : own_D code 267 (.iload 8) 2 269 := by decide +kernel
theorem d0_269 : own_D code 269 .castore 1 270 := by decide +kernel
theorem d0_270 : own_D code 270 .dup 1 271 := by decide +kernel
theorem d0_271 : own_DK code 271 2 272 := by decide +kernel
theorem d0_272 : own_D code 272 (.iload 9) 2 274 := by decide +kernel
theorem d0_274 : own_D code 274 .castore 1 275 := by decide +kernel
theorem d0_275 : own_D code 275 .dup 1 276 := by decide +kernel
theorem d0_276 : own_DK code 276 3 277 := by decide +kernel
theorem d0_277 : own_D code 277 (.iload 10) 2 279 := by decide +kernel
theorem d0_279 : own_D code 279 .castore 1 280 := by decide +kernel
theorem d0_280 : own_D code 280 .dup 1 281 := by decide +kernel
theorem d0_281 : own_DK code 281 4 282 := by decide +kernel
theorem d0_282 : own_D code 282 (.iload 11) 2 284 := by decide +kernel
theorem d0_284 : own_D code 284 .castore 1 285 := by decide +kernel
theorem d0_285 : own_D code 285 .dup 1 286 := by decide +kernel
theorem d0_286 : own_DK code 286 5 287 := by decide +kernel
theorem d0_287 : own_D code 287 (.iload 12) 2 289 := by decide +kernel
theorem d0_289 : own_D code 289 .castore 1 290 := by decide +kernel
theorem d0_290 : own_D code 290 (.astore 14) 2 292 := by decide +kernel
theorem d0_292 : own_DG code 292 337 := by decide +kernel
theorem d0_295 : own_DK code 295 7 297 := by decide +kernel
theorem d0_297 : own_D code 297 (.newarray .char) 2 299 := by decide +kernel
theorem d0_299 : own_D code 299 .dup 1 300 := by decide +kernel
theorem d0_300 : own_DK code 300 0 301 := by decide +kernel
theorem d0_301 : own_D code 301 (.iload 7) 2 303 := by decide +kernel
theorem d0_303 : own_D code 303 .castore 1 304 := by decide +kernel
theorem d0_304 : own_D code 304 .dup 1 305 := by decide +kernel
theorem d0_305 : own_DK code 305 1 306 := by decide +kernel
theorem d0_306 : own_D code 306 (.iload 8) 2 308 := by decide +kernel
theorem d0_308 : own_D code 308 .castore 1 309 := by decide +kernel
theorem d0_309 : own_D code 309 .dup 1 310 := by decide +kernel
theorem d0_310 : own_DK code 310 2 311 := by decide +kernel
theorem d0_311 : own_D code 311 (.iload 9) 2 313 := by decide +kernel
theorem d0_313 : own_D code 313 .castore 1 314 := by decide +kernel
theorem d0_314 : own_D code 314 .dup 1 315 := by decide +kernel
theorem d0_315 : own_DK code 315 3 316 := by decide +kernel
theorem d0_316 : own_D code 316 (.iload 10) 2 318 := by decide +kernel
theorem d0_318 : own_D code 318 .castore 1 319 := by decide +kernel
theorem d0_319 : own_D code 319 .dup 1 320 := by decide +kernel
theorem d0_320 : own_DK code 320 4 321 := by decide +kernel
theorem d0_321 : own_D code 321 (.iload 11) 2 323 := by decide +kernel
theorem d0_323 : own_D code 323 .castore 1 324 := by decide +kernel
theorem d0_324 : own_D code 324 .dup 1 325 := by decide +kernel
theorem d0_325 : own_DK code 325 5 326 := by decide +kernel
theorem d0_326 : own_D code 326 (.iload 12) 2 328 := by decide +kernel
theorem d0_328 : own_D code 328 .castore 1 329 := by decide +kernel
theorem d0_329 : own_D code 329 .dup 1 330 := by decide +kernel
theorem d0_330 : own_DK code 330 6 332 := by decide +kernel
theorem d0_332 : own_D code 332 (.iload 13) 2 334 := by decide +kernel
theorem d0_334 : own_D code 334 .castore 1 335 := by decide +kernel
theorem d0_335 : own_D code 335 (.astore 14) 2 337 := by decide +kernel
theorem d0_337 : own_D code 337 (.new 23) 3 340 := by decide +kernel
theorem d0_340 : own_D code 340 .dup 1 341 := by decide +kernel
theorem d0_341 : own_D code 341 (.aload 14) 2 343 := by decide +kernel
theorem d0_343 : own_D code 343 (.invokespecial 25) 3 346 := by decide +kernel
theorem d0_346 : own_D code 346 (.astore 15) 2 348 := by decide +kernel
theorem d0_348 : own_D code 348 (.iload 6) 2 350 := by decide +kernel
theorem d0_350 : own_DK code 350 2 351 := by decide +kernel
theorem d0_351 : own_DJ code 351 .ne 372 354 := by decide +kernel
theorem d0_354 : own_D code 354 (.iload 7) 2 356 := by decide +kernel
theorem d0_356 : own_DK code 356 45 358 := by decide +kernel
theorem d0_358 : own_DJ code 358 .ne 372 361 := by decide +kernel
theorem d0_361 : own_D code 361 (.iload 8) 2 363 := by decide +kernel
theorem d0_363 : own_DK code 363 104 365 := by decide +kernel
theorem d0_365 : own_DJ code 365 .ne 372 368 := by decide +kernel
theorem d0_368 : own_DK code 368 1 369 := by decide +kernel
theorem d0_369 : own_DG code 369 373 := by decide +kernel
theorem d0_372 : own_DK code 372 0 373 := by decide +kernel
theorem d0_373 : own_D code 373 (.istore 16) 2 375 := by decide +kernel
theorem d0_375 : own_D code 375 (.iload 6) 2 377 := by decide +kernel
theorem d0_377 : own_DK code 377 6 379 := by decide +kernel
theorem d0_379 : own_DJ code 379 .ne 428 382 := by decide +kernel
theorem d0_382 : own_D code 382 (.iload 7) 2 384 := by decide +kernel
theorem d0_384 : own_DK code 384 45 386 := by decide +kernel
theorem d0_386 : own_DJ code 386 .ne 428 389 := by decide +kernel
theorem d0_389 : own_D code 389 (.iload 8) 2 391 := by decide +kernel
theorem d0_391 : own_DK code 391 45 393 := by decide +kernel
theorem d0_393 : own_DJ code 393 .ne 428 396 := by decide +kernel
theorem d0_396 : own_D code 396 (.iload 9) 2 398 := by decide +kernel
theorem d0_398 : own_DK code 398 104 400 := by decide +kernel
theorem d0_400 : own_DJ code 400 .ne 428 403 := by decide +kernel
theorem d0_403 : own_D code 403 (.iload 10) 2 405 := by decide +kernel
theorem d0_405 : own_DK code 405 101 407 := by decide +kernel
theorem d0_407 : own_DJ code 407 .ne 428 410 := by decide +kernel
theorem d0_410 : own_D code 410 (.iload 11) 2 412 := by decide +kernel
theorem d0_412 : own_DK code 412 108 414 := by decide +kernel
theorem d0_414 : own_DJ code 414 .ne 428 417 := by decide +kernel
theorem d0_417 : own_D code 417 (.iload 12) 2 419 := by decide +kernel
theorem d0_419 : own_DK code 419 112 421 := by decide +kernel
theorem d0_421 : own_DJ code 421 .ne 428 424 := by decide +kernel
theorem d0_424 : own_DK code 424 1 425 := by decide +kernel
theorem d0_425 : own_DG code 425 429 := by decide +kernel
theorem d0_428 : own_DK code 428 0 429 := by decide +kernel
theorem d0_429 : own_D code 429 (.istore 17) 2 431 := by decide +kernel
theorem d0_431 : own_D code 431 (.iload 16) 2 433 := by decide +kernel
theorem d0_433 : own_DZ code 433 .ne 441 436 := by decide +kernel
theorem d0_436 : own_D code 436 (.iload 17) 2 438 := by decide +kernel
theorem d0_438 : own_DZ code 438 .eq 445 441 := by decide +kernel
theorem d0_441 : own_DK code 441 1 442 := by decide +kernel
theorem d0_442 : own_DG code 442 446 := by decide +kernel
theorem d0_445 : own_DK code 445 0 446 := by decide +kernel
theorem d0_446 : own_D code 446 (.istore 18) 2 448 := by decide +kernel
theorem d0_448 : own_D code 448 (.aload 15) 2 450 := by decide +kernel
theorem d0_450 : own_D code 450 (.invokestatic 28) 3 453 := by decide +kernel
theorem d0_453 : own_D code 453 (.iload 18) 2 455 := by decide +kernel
theorem d0_455 : own_DJ code 455 .ne 462 458 := by decide +kernel
theorem d0_458 : own_DK code 458 1 459 := by decide +kernel
theorem d0_459 : own_DG code 459 463 := by decide +kernel
theorem d0_462 : own_DK code 462 0 463 := by decide +kernel
theorem d0_463 : own_D code 463 .ireturn 1 464 := by decide +kernel
theorem pn_0 : plainFor (⟨"com/example/ballast_ledger/ballastledger/cli/HelpIsAskedPinLaw", "law", "(IIJJ)Z"⟩ : MethodName) = true := plainFor_of_name (by first | (simp [plainName, overriddenIn]; done) | decide +kernel)
theorem rm0 (l : Launch) (Z : State) (a0 : Array Value) (hw : ∀ d ∈ tables_1, d.before a0 Z = true) (ws : List Jvm.Cond) (p1 : Int32) (p2 : Int32) (p3 : Int64) (p4 : Int64) (cs0 : Int32) (h0 : Heap) (n0 : Nat) (Z0 : n0 ≤ h0.size) (O0 : Old Z n0 h0) (SC_ : own_SC Z cs0) (SU_ : own_SU Z) (hEL : EW Z a0 ([("com/example/ballast_ledger/ballastledger/cli/Help", 7), ("com/example/ballast_ledger/ballastledger/cli/Help", 15), ("java/lang/String", 7)] : List (String × Nat))) :
  MetFree l x (head1 (Jvm.Cond.code x code maxLocals ret :: ws) room_1) (fun a U => a = #[(.int p1), (.int p2), (.long p3), (.long p4)] ∧ Z.Warmed39 U.vm ∧ U.heap = h0 ∧ CHv Z ([("com/example/ballast_ledger/ballastledger/cli/Help", 7), ("com/example/ballast_ledger/ballastledger/cli/Help", 15), ("java/lang/String", 7)] : List (String × Nat)) U.vm h0) (fun _ _ _ _ _ => True) (fun _ U o U' => ∃ v L, o = .returned v ∧ Q0 n0 v U'.heap L ∧ ReturnedEndW U o U' L room_1.cells room_1.slots) := by
 obtain ⟨SCS, hcs⟩ := SC_; obtain ⟨SAD, SHI, SLO⟩ := SU_
 refine MetFree.of_bodySF pn_0 hisR ?_
 intro p e s m args below meth c s₁ Bd hml0 hP hK
 obtain ⟨rfl, hZ, hh, hCH⟩ := hP
 have hx := Bd.exec
 have hby := Bd.bytes
 have q : own_q p c code := ⟨hx, hby⟩
 have W := @own_w _ _ hw
 have hml : c.maxLocals = 19 := hml0
 have hown : s.vm.findClass "com/example/ballast_ledger/ballastledger/cli/HelpIsAskedPinLaw" = some m.cls := findClass_of_methodNamed Bd.named
 have hnm := (name_of_methodNamed Bd.named Bd.method).1
 have hlk : meth.locks = false := BodyLoose.notSynchronized Bd
 have X0 : Stand p l e room_1 s m #[(.int p1), (.int p2), (.long p3), (.long p4)] below meth c s₁ [] 0 0 := Stand.of_body Bd
 have e0 : s₁.heap = h0 := by rw [← hh, Bd.state]; rfl
 have N0 := Fr.nil n0
 show own_Fin p e below (own_PW (Q0 n0) s room_1.cells room_1.slots) (s₁.setTop (entryFrame m #[(.int p1), (.int p2), (.long p3), (.long p4)] maxLocals))
 rw [show entryFrame m #[(.int p1), (.int p2), (.long p3), (.long p4)] maxLocals = mkF m 0 #[.val (.int p1), .val (.int p2), .val (.long p3), .second, .val (.long p4), .second, .unset, .unset, .unset, .unset, .unset, .unset, .unset, .unset, .unset, .unset, .unset, .unset, .unset] [] from by first | (simp [entryFrame, mkF, argsToLocals, Value.category, maxLocals]; done) | rfl]
 have X0 : Stand p l e room_1 (s.setVm s.vm) m #[(.int p1), (.int p2), (.long p3), (.long p4)] below meth c s₁ [] 0 0 := X0
 have hZ : Z.Warmed39 (s.setVm s.vm).vm := hZ
 have hown : (s.setVm s.vm).vm.findClass "com/example/ballast_ledger/ballastledger/cli/HelpIsAskedPinLaw" = some m.cls := hown
 have hS0 : s.Since s.vm 0 := (State.WarmedH.refl s).since 0
 have hk0 : 0 ≤ h0.size := Nat.zero_le _
 have hCH : CHv Z ([("com/example/ballast_ledger/ballastledger/cli/Help", 7), ("com/example/ballast_ledger/ballastledger/cli/Help", 15), ("java/lang/String", 7)] : List (String × Nat)) s.vm h0 := hCH
 have hCR := CHr.refl hCH
 have hstr : ∀ a ∈ Bundle.stringAtoms, a.before a0 Z = true := fun d hd => hw d ((by decide +kernel : ∀ d ∈ Bundle.stringAtoms, d ∈ tables_1) d hd)
 refine own_iln X0 q d0_0 rfl (own_k X0 q d0_1 (own_stp 4 (fun _ k => XS.iand X0.here hx rfl (q.d d0_3) rfl k) (own_is X0 q d0_4 (l' := #[.val (.int p1), .val (.int p2), .val (.long p3), .second, .val (.long p4), .second, .val (.int (p1 &&& (7 : Int32))), .unset, .unset, .unset, .unset, .unset, .unset, .unset, .unset, .unset, .unset, .unset, .unset]) rfl (own_il X0 q d0_6 rfl (own_iln X0 q d0_8 rfl (own_lln X0 q d0_9 rfl (own_ll X0 q d0_10 rfl (own_k X0 q d0_12 ?_))))))))
 refine own_cS X0 q hZ e0 hown hml (W 0 rfl) (W 1 rfl) (W 2 rfl) (W 3 rfl) (rm1 l Z a0 hw (p1 &&& (7 : Int32)) p2 p3 p4 (0 : Int32) h0 n0 Z0) d0_13 [(.int (p1 &&& (7 : Int32))), (.int p2), (.long p3), (.long p4), v'0] [] own_pd12 rfl rfl 0 (Nat.le_refl _) (by decide) (fun v1825 T1825 L1825 X1825 hQ1825 => ?_)
 obtain ⟨z1825, rfl, N1825q, e1825, hz1825⟩ := hQ1825
 have N1825 := Fr.app N0 N1825q
 refine own_nv (own_is X1825 q d0_16 (l' := #[.val (.int p1), .val (.int p2), .val (.long p3), .second, .val (.long p4), .second, .val (.int (p1 &&& (7 : Int32))), .val (.int z1825), .unset, .unset, .unset, .unset, .unset, .unset, .unset, .unset, .unset, .unset, .unset]) rfl (own_il X1825 q d0_18 rfl (own_iln X1825 q d0_20 rfl (own_lln X1825 q d0_21 rfl (own_ll X1825 q d0_22 rfl (own_k X1825 q d0_24 ?_))))))
 refine own_cS X1825 q hZ e1825 hown hml (W 0 rfl) (W 1 rfl) (W 2 rfl) (W 3 rfl) (rm1 l Z a0 hw (p1 &&& (7 : Int32)) p2 p3 p4 (1 : Int32) h0 n0 Z0) d0_25 [(.int (p1 &&& (7 : Int32))), (.int p2), (.long p3), (.long p4), v'1] [] own_pd12 rfl rfl 0 (Nat.le_refl _) (by decide) (fun v1826 T1826 L1826 X1826 hQ1826 => ?_)
 obtain ⟨z1826, rfl, N1826q, e1826, hz1826⟩ := hQ1826
 have N1826 := Fr.app N1825 N1826q
 refine own_nv (own_is X1826 q d0_28 (l' := #[.val (.int p1), .val (.int p2), .val (.long p3), .second, .val (.long p4), .second, .val (.int (p1 &&& (7 : Int32))), .val (.int z1825), .val (.int z1826), .unset, .unset, .unset, .unset, .unset, .unset, .unset, .unset, .unset, .unset]) rfl (own_il X1826 q d0_30 rfl (own_iln X1826 q d0_32 rfl (own_lln X1826 q d0_33 rfl (own_ll X1826 q d0_34 rfl (own_k X1826 q d0_36 ?_))))))
 refine own_cS X1826 q hZ e1826 hown hml (W 0 rfl) (W 1 rfl) (W 2 rfl) (W 3 rfl) (rm1 l Z a0 hw (p1 &&& (7 : Int32)) p2 p3 p4 (2 : Int32) h0 n0 Z0) d0_37 [(.int (p1 &&& (7 : Int32))), (.int p2), (.long p3), (.long p4), v'2] [] own_pd12 rfl rfl 0 (Nat.le_refl _) (by decide) (fun v1827 T1827 L1827 X1827 hQ1827 => ?_)
 obtain ⟨z1827, rfl, N1827q, e1827, hz1827⟩ := hQ1827
 have N1827 := Fr.app N1826 N1827q
 refine own_nv (own_is X1827 q d0_40 (l' := #[.val (.int p1), .val (.int p2), .val (.long p3), .second, .val (.long p4), .second, .val (.int (p1 &&& (7 : Int32))), .val (.int z1825), .val (.int z1826), .val (.int z1827), .unset, .unset, .unset, .unset, .unset, .unset, .unset, .unset, .unset]) rfl (own_il X1827 q d0_42 rfl (own_iln X1827 q d0_44 rfl (own_lln X1827 q d0_45 rfl (own_ll X1827 q d0_46 rfl (own_k X1827 q d0_48 ?_))))))
 refine own_cS X1827 q hZ e1827 hown hml (W 0 rfl) (W 1 rfl) (W 2 rfl) (W 3 rfl) (rm1 l Z a0 hw (p1 &&& (7 : Int32)) p2 p3 p4 (3 : Int32) h0 n0 Z0) d0_49 [(.int (p1 &&& (7 : Int32))), (.int p2), (.long p3), (.long p4), v'3] [] own_pd12 rfl rfl 0 (Nat.le_refl _) (by decide) (fun v1828 T1828 L1828 X1828 hQ1828 => ?_)
 obtain ⟨z1828, rfl, N1828q, e1828, hz1828⟩ := hQ1828
 have N1828 := Fr.app N1827 N1828q
 refine own_nv (own_is X1828 q d0_52 (l' := #[.val (.int p1), .val (.int p2), .val (.long p3), .second, .val (.long p4), .second, .val (.int (p1 &&& (7 : Int32))), .val (.int z1825), .val (.int z1826), .val (.int z1827), .val (.int z1828), .unset, .unset, .unset, .unset, .unset, .unset, .unset, .unset]) rfl (own_il X1828 q d0_54 rfl (own_iln X1828 q d0_56 rfl (own_lln X1828 q d0_57 rfl (own_ll X1828 q d0_58 rfl (own_k X1828 q d0_60 ?_))))))
 refine own_cS X1828 q hZ e1828 hown hml (W 0 rfl) (W 1 rfl) (W 2 rfl) (W 3 rfl) (rm1 l Z a0 hw (p1 &&& (7 : Int32)) p2 p3 p4 (4 : Int32) h0 n0 Z0) d0_61 [(.int (p1 &&& (7 : Int32))), (.int p2), (.long p3), (.long p4), v'4] [] own_pd12 rfl rfl 0 (Nat.le_refl _) (by decide) (fun v1829 T1829 L1829 X1829 hQ1829 => ?_)
 obtain ⟨z1829, rfl, N1829q, e1829, hz1829⟩ := hQ1829
 have N1829 := Fr.app N1828 N1829q
 refine own_nv (own_is X1829 q d0_64 (l' := #[.val (.int p1), .val (.int p2), .val (.long p3), .second, .val (.long p4), .second, .val (.int (p1 &&& (7 : Int32))), .val (.int z1825), .val (.int z1826), .val (.int z1827), .val (.int z1828), .val (.int z1829), .unset, .unset, .unset, .unset, .unset, .unset, .unset]) rfl (own_il X1829 q d0_66 rfl (own_iln X1829 q d0_68 rfl (own_lln X1829 q d0_69 rfl (own_ll X1829 q d0_70 rfl (own_k X1829 q d0_72 ?_))))))
 refine own_cS X1829 q hZ e1829 hown hml (W 0 rfl) (W 1 rfl) (W 2 rfl) (W 3 rfl) (rm1 l Z a0 hw (p1 &&& (7 : Int32)) p2 p3 p4 (5 : Int32) h0 n0 Z0) d0_73 [(.int (p1 &&& (7 : Int32))), (.int p2), (.long p3), (.long p4), v'5] [] own_pd12 rfl rfl 0 (Nat.le_refl _) (by decide) (fun v1830 T1830 L1830 X1830 hQ1830 => ?_)
 obtain ⟨z1830, rfl, N1830q, e1830, hz1830⟩ := hQ1830
 have N1830 := Fr.app N1829 N1830q
 refine own_nv (own_is X1830 q d0_76 (l' := #[.val (.int p1), .val (.int p2), .val (.long p3), .second, .val (.long p4), .second, .val (.int (p1 &&& (7 : Int32))), .val (.int z1825), .val (.int z1826), .val (.int z1827), .val (.int z1828), .val (.int z1829), .val (.int z1830), .unset, .unset, .unset, .unset, .unset, .unset]) rfl (own_il X1830 q d0_78 rfl (own_iln X1830 q d0_80 rfl (own_lln X1830 q d0_81 rfl (own_ll X1830 q d0_82 rfl (own_k X1830 q d0_84 ?_))))))
 refine own_cS X1830 q hZ e1830 hown hml (W 0 rfl) (W 1 rfl) (W 2 rfl) (W 3 rfl) (rm1 l Z a0 hw (p1 &&& (7 : Int32)) p2 p3 p4 (6 : Int32) h0 n0 Z0) d0_86 [(.int (p1 &&& (7 : Int32))), (.int p2), (.long p3), (.long p4), v'6] [] own_pd12 rfl rfl 0 (Nat.le_refl _) (by decide) (fun v1831 T1831 L1831 X1831 hQ1831 => ?_)
 obtain ⟨z1831, rfl, N1831q, e1831, hz1831⟩ := hQ1831
 have N1831 := Fr.app N1830 N1831q
 refine own_nv (own_is X1831 q d0_89 (l' := #[.val (.int p1), .val (.int p2), .val (.long p3), .second, .val (.long p4), .second, .val (.int (p1 &&& (7 : Int32))), .val (.int z1825), .val (.int z1826), .val (.int z1827), .val (.int z1828), .val (.int z1829), .val (.int z1830), .val (.int z1831), .unset, .unset, .unset, .unset, .unset]) rfl ?_)
 rcases own_len8 p1 with hl | hl | hl | hl | hl | hl | hl | hl
 ·rw [hl]
  show own_Fin _ _ _ _ (T1831.setTop (mkF m 91 #[.val (.int p1), .val (.int p2), .val (.long p3), .second, .val (.long p4), .second, .val v'0, .val (.int z1825), .val (.int z1826), .val (.int z1827), .val (.int z1828), .val (.int z1829), .val (.int z1830), .val (.int z1831), .unset, .unset, .unset, .unset, .unset] []))
  refine own_il X1831 q d0_91 rfl (own_zn X1831 q d0_93 (((if0 _ _).trans (teq (rfl : (0 : Int32) = (0 : Int32))).2)) (own_k X1831 q d0_96 ?_))
  refine own_let ?_; intro g1832_
  obtain ⟨T1833, h1833, k1833, X1833, e1833, E1833, A1833, st1833⟩ := newP X1831 hx hZ (W 11 rfl) e1831 (g := g1832_) rfl (q.d d0_97) rfl (by decide) (cap := 0) (by decide) (by decide) (by decide) (by decide)
  obtain ⟨b1833, g1833⟩ : ∃ z, z = h0.size := ⟨_, rfl⟩
  rw [← g1833] at A1833 st1833
  have V1833 : Arv Z h1833 b1833 k1833 .char (0 : Int32) [] v'0 := Arv.new A1833 (by decide)
  have ch1834 := CHr.ext E1833 hCH
  have cr1834 := CHr.trans hCR ch1834
  have zs1834 := Nat.le_trans Z0 E1833.1
  have hk1834 := Nat.le_trans hk0 E1833.1
  have od1834 := O0.ext E1833
  have g_b1833 : n0 ≤ b1833 := Nat.le_trans Z0 (Nat.le_of_eq g1833.symm)
  refine own_stp 99 st1833 (own_as X1833 q d0_99 rfl (l' := #[.val (.int p1), .val (.int p2), .val (.long p3), .second, .val (.long p4), .second, .val v'0, .val (.int z1825), .val (.int z1826), .val (.int z1827), .val (.int z1828), .val (.int z1829), .val (.int z1830), .val (.int z1831), .val (.ref b1833), .unset, .unset, .unset, .unset]) rfl (own_gt X1833 q d0_101 ?_))
  refine own_let ?_; intro g1835_
  obtain ⟨T1836, h1836, X1836, e1836, E1836, A1836, D1836, -, st1836⟩ := newO X1833 hx hZ hown (W 12 rfl) (W 13 rfl) (W 14 rfl) e1833 (g := g1835_) rfl (q.d d0_337) (by decide) (by decide)
  obtain ⟨b1836, g1836⟩ : ∃ z, z = h1833.size := ⟨_, rfl⟩
  rw [← g1836] at A1836 D1836 st1836
  have ch1837 := CHr.ext E1836 ch1834.1
  have cr1837 := CHr.trans cr1834 ch1837
  have zs1837 := Nat.le_trans zs1834 E1836.1
  have hk1837 := Nat.le_trans hk1834 E1836.1
  have od1837 := od1834.ext E1836
  have g_b1836 : n0 ≤ b1836 := Nat.le_trans zs1834 (Nat.le_of_eq g1836.symm)
  have sf_b1836 := Safe.ext E1836 ch1834.1 (Safe.new (Nat.le_of_eq g1836.symm))
  have F1836_value : F'1 Z h1836 b1836 .null := D1836 (Or.inr (W 27 rfl)) (ty := (.array .byte)) (by decide)
  have F1836_coder : F'0 Z h1836 b1836 v'0 := D1836 (Or.inr (W 28 rfl)) (ty := .byte) (by decide)
  refine own_stq 340 [(.ref b1836)] st1836 (own_dp X1836 q d0_340 rfl (own_al X1836 q d0_341 rfl rfl ?_))
  refine own_let ?_; intro g1839_
  obtain ⟨_, _, ⟨T1838, L1838, k1838, n1838⟩, -, X1838, hS1838, hG1838, ⟨Lc1838, hQ1838, l1838, y1838, z1838, cH1838⟩, st1838⟩ := X1836.specialBackS hx (y := own_y9) rfl hown (mvT hZ (W 15 rfl)) (mvT hZ (W 16 rfl)) (mvT hZ (W 17 rfl)) (by decide) (own_backHS (W := 1) (rm4_0 l Z a0 hw [] b1836 b1833 k1833 h1836 n0 zs1837 A1836 F1836_value F1836_coder (V1833.ext E1836) g_b1836 (Ne.symm (own_ne (V1833).lt (Nat.le_of_eq g1836.symm))) hEL) hZ (W 17 rfl) (W 14 rfl) (by decide) (by decide) hEL ch1837.1 (ss := [b1836]) (allS ⟨(A1836).lt, sf_b1836⟩ all0)) (g := g1839_) rfl (by rw [hml]; rfl) (Steps.refl _) (a := b1836) (argsL := [(.ref b1833)]) (rest := [(.ref b1836)]) (lenOf own_pd13 rfl) rfl (by show 2 * 0 + _ ≤ _; exact Nat.le_of_eq rfl) (q.d d0_343) (fun _ _ => ⟨rfl, e1836, (by decide : 2 + 2 ≤ _), (by decide : 4 + 4 ≤ _)⟩)
  dsimp only [Pt.U, Pt.locs, Pt.cells, Pt.slots] at X1838 l1838 y1838 z1838 st1838 hQ1838
  rw [l1838, y1838, z1838] at X1838
  clear l1838 y1838 z1838
  have X1838 : Stand p l e _ (s.setVm T1838.vm) m _ below meth c T1838 _ _ _ := X1838
  have hZ1838 : Z.Warmed39 (s.setVm T1838.vm).vm := State.Warmed39.trans hZ hS1838.1
  have hown : (s.setVm T1838.vm).vm.findClass "com/example/ballast_ledger/ballastledger/cli/HelpIsAskedPinLaw" = some m.cls := by show T1838.vm.findClass _ = _; rw [hS1838.1.alike.findClass]; exact hown
  have hZ := hZ1838
  have hS1838 := State.Since.trans hS0 hS1838 (Nat.le_trans hk1837 (by rw [← e1836]; exact hG1838))
  obtain ⟨t1838, k1838, rfl, N1838q, K1838, Fv1838, Fc1838, V1838⟩ := hQ1838
  have N1838 := Fr.app N1831 N1838q
  obtain ⟨h1838, e1838⟩ : ∃ z, z = T1838.heap := ⟨_, rfl⟩
  have e1838' := e1838.symm
  rw [← e1838] at K1838 Fv1838 Fc1838 V1838
  rw [e1838'] at hS1838
  have hkc1838 : h1838.size ≤ h1838.size := Nat.le_refl _
  have zs1840 := Nat.le_trans zs1837 K1838.1
  have hk1840 := Nat.le_trans hk1837 K1838.1
  have od1840 := od1837.keep K1838 (allS g_b1836 all0)
  rw [e1838'] at cH1838
  have cr1838 := CHr.trans cr1837 cH1838
  have sf1838_b1836 := cH1838.safe (A1836).lt sf_b1836
  refine own_stp 346 (fun _ k => st1838.trans k) (own_nn (own_as X1838 q d0_346 rfl (l' := #[.val (.int p1), .val (.int p2), .val (.long p3), .second, .val (.long p4), .second, .val v'0, .val (.int z1825), .val (.int z1826), .val (.int z1827), .val (.int z1828), .val (.int z1829), .val (.int z1830), .val (.int z1831), .val (.ref b1833), .val (.ref b1836), .unset, .unset, .unset]) rfl (own_il X1838 q d0_348 rfl (own_k X1838 q d0_350 (own_cy X1838 q d0_351 ((feq ((by decide) : ¬ ((0 : Int32) = (2 : Int32)))).2) (own_k X1838 q d0_372 (own_is X1838 q d0_373 (l' := #[.val (.int p1), .val (.int p2), .val (.long p3), .second, .val (.long p4), .second, .val v'0, .val (.int z1825), .val (.int z1826), .val (.int z1827), .val (.int z1828), .val (.int z1829), .val (.int z1830), .val (.int z1831), .val (.ref b1833), .val (.ref b1836), .val v'0, .unset, .unset]) rfl (own_il X1838 q d0_375 rfl (own_k X1838 q d0_377 (own_cy X1838 q d0_379 ((feq ((by decide) : ¬ ((0 : Int32) = (6 : Int32)))).2) (own_k X1838 q d0_428 ?_)))))))))))
  refine own_is X1838 q d0_429 (l' := #[.val (.int p1), .val (.int p2), .val (.long p3), .second, .val (.long p4), .second, .val v'0, .val (.int z1825), .val (.int z1826), .val (.int z1827), .val (.int z1828), .val (.int z1829), .val (.int z1830), .val (.int z1831), .val (.ref b1833), .val (.ref b1836), .val v'0, .val v'0, .unset]) rfl (own_il X1838 q d0_431 rfl (own_zn X1838 q d0_433 (((if0 _ _).trans (teq (rfl : (0 : Int32) = (0 : Int32))).2)) (own_il X1838 q d0_436 rfl (own_zy X1838 q d0_438 (((if0 _ _).trans (teq (rfl : (0 : Int32) = (0 : Int32))).1)) (own_k X1838 q d0_445 (own_is X1838 q d0_446 (l' := #[.val (.int p1), .val (.int p2), .val (.long p3), .second, .val (.long p4), .second, .val v'0, .val (.int z1825), .val (.int z1826), .val (.int z1827), .val (.int z1828), .val (.int z1829), .val (.int z1830), .val (.int z1831), .val (.ref b1833), .val (.ref b1836), .val v'0, .val v'0, .val v'0]) rfl (own_al X1838 q d0_448 rfl rfl ?_)))))))
  refine own_let ?_; intro g1842_
  obtain ⟨_, _, ⟨T1841, L1841, k1841, n1841⟩, -, X1841, hS1841, hG1841, ⟨Lc1841, hQ1841, l1841, y1841, z1841, cH1841⟩, st1841⟩ := Jvm.RoadKit.callSS X1838 hx (y := own_y15) hown (mvT hZ (W 33 rfl)) (mvT hZ (W 34 rfl)) (mvT hZ (W 35 rfl)) (mvT hZ (W 36 rfl)) (by decide) (own_backHS (W := 0) (rm7_0 l Z a0 hw [] b1836 t1838 k1838  cs0 h1838 n0 zs1840 (A1836.keep K1838) Fc1838 Fv1838 V1838 od1840 ⟨SCS, hcs⟩ hEL) hZ (W 36 rfl) (W 35 rfl) (by decide) (by decide) hEL cH1838.1 (ss := [b1836]) (allS ⟨((A1836.keep K1838)).lt, sf1838_b1836⟩ all0)) (g := g1842_) rfl (by rw [hml]; rfl) (argsL := [(.ref b1836)]) (rest := []) (lenOf own_pd14 rfl) rfl (by show 2 * 0 + _ ≤ _; exact Nat.le_of_eq rfl) (q.d d0_450) (fun _ _ => ⟨rfl, e1838', (by decide : 4 + 4 ≤ _), (by decide : 8 + 40 ≤ _)⟩)
  dsimp only [Pt.U, Pt.locs, Pt.cells, Pt.slots] at X1841 l1841 y1841 z1841 st1841 hQ1841
  rw [l1841, y1841, z1841] at X1841
  clear l1841 y1841 z1841
  have X1841 : Stand p l e _ (s.setVm T1841.vm) m _ below meth c T1841 _ _ _ := X1841
  have hZ1841 : Z.Warmed39 (s.setVm T1841.vm).vm := State.Warmed39.trans hZ hS1841.1
  have hown : (s.setVm T1841.vm).vm.findClass "com/example/ballast_ledger/ballastledger/cli/HelpIsAskedPinLaw" = some m.cls := by show T1841.vm.findClass _ = _; rw [hS1841.1.alike.findClass]; exact hown
  have hZ := hZ1841
  have hS1841 := State.Since.trans hS1838 hS1841 (Nat.le_trans hkc1838 (by rw [← e1838']; exact hG1841))
  obtain ⟨z1841, rfl, N1841q, E1841, hP1841⟩ := hQ1841
  have N1841 := Fr.app N1838 N1841q
  obtain ⟨h1841, e1841⟩ : ∃ z, z = T1841.heap := ⟨_, rfl⟩
  have e1841' := e1841.symm
  rw [← e1841] at E1841
  rw [e1841'] at hS1841
  have hkc1841 : h1841.size ≤ h1841.size := Nat.le_refl _
  have zs1843 := Nat.le_trans zs1840 E1841.1
  have hk1843 := Nat.le_trans hkc1838 E1841.1
  have od1843 := od1840.ext E1841
  rw [e1841'] at cH1841
  have cr1841 := CHr.trans cr1838 cH1841
  have sf1841_b1836 := cH1841.safe ((A1836.keep K1838)).lt sf1838_b1836
  refine own_stp 453 (fun _ k => st1841.trans k) (own_nv (own_il X1841 q d0_453 rfl ?_))
  have hE1844 : z1841 = (0 : Int32) := by
   rcases hP1841 with ⟨hq, r⟩ | ⟨hq, r⟩
   ·exfalso
    simp at r
   ·exact hq
  refine own_cn X1841 q d0_455 ((teq (hE1844 : z1841 = (0 : Int32))).2) (own_k X1841 q d0_458 (own_gt X1841 q d0_459 ?_))
  refine own_retNW X1841 hS1841 (by rw [e1841']; exact hkc1841) hx (t := .boolean) Bd.returns (by simp) (q.d d0_463) hlk ?_ (by decide) (by decide)
  exact ⟨rfl, N1841⟩
 ·rw [hl]
  show own_Fin _ _ _ _ (T1831.setTop (mkF m 91 #[.val (.int p1), .val (.int p2), .val (.long p3), .second, .val (.long p4), .second, .val v'1, .val (.int z1825), .val (.int z1826), .val (.int z1827), .val (.int z1828), .val (.int z1829), .val (.int z1830), .val (.int z1831), .unset, .unset, .unset, .unset, .unset] []))
  refine own_il X1831 q d0_91 rfl (own_zy X1831 q d0_93 (((if0 _ _).trans (feq ((by decide) : ¬ ((1 : Int32) = (0 : Int32)))).2)) (own_il X1831 q d0_104 rfl (own_k X1831 q d0_106 (own_cn X1831 q d0_107 ((teq (rfl : (1 : Int32) = (1 : Int32))).2) (own_k X1831 q d0_110 ?_)))))
  refine own_let ?_; intro g1845_
  obtain ⟨T1846, h1846, k1846, X1846, e1846, E1846, A1846, st1846⟩ := newP X1831 hx hZ (W 11 rfl) e1831 (g := g1845_) rfl (q.d d0_111) rfl (by decide) (cap := 1) (by decide) (by decide) (by decide) (by decide)
  obtain ⟨b1846, g1846⟩ : ∃ z, z = h0.size := ⟨_, rfl⟩
  rw [← g1846] at A1846 st1846
  have V1846 : Arv Z h1846 b1846 k1846 .char (1 : Int32) [v'0] v'0 := (Arv.new A1846 (by decide)).pad (pad_rep [] v'0 1)
  have ch1847 := CHr.ext E1846 hCH
  have cr1847 := CHr.trans hCR ch1847
  have zs1847 := Nat.le_trans Z0 E1846.1
  have hk1847 := Nat.le_trans hk0 E1846.1
  have od1847 := O0.ext E1846
  have g_b1846 : n0 ≤ b1846 := Nat.le_trans Z0 (Nat.le_of_eq g1846.symm)
  refine own_stp 113 st1846 (own_dp X1846 q d0_113 rfl (own_k X1846 q d0_114 (own_il X1846 q d0_115 rfl ?_)))
  refine own_cst X1846 q hZ e1846 V1846 d0_117 (by decide) (Nat.le_of_ble_eq_true rfl) N1831 g_b1846 fun T1848 h1848 X1848 e1848 W1848 V1848 N1848 => ?_
  have ch1849 := CHr.wr W1848 (Safe.arv hZ.alike V1846 (by decide)) ch1847.1
  have cr1849 := CHr.trans cr1847 ch1849
  have zs1849 := Nat.le_trans zs1847 (Keep.of_wr W1848).1
  have hk1849 := Nat.le_trans hk1847 (Keep.of_wr W1848).1
  have od1849 := od1847.wr W1848 g_b1846
  refine own_as X1848 q d0_118 rfl (l' := #[.val (.int p1), .val (.int p2), .val (.long p3), .second, .val (.long p4), .second, .val v'1, .val (.int z1825), .val (.int z1826), .val (.int z1827), .val (.int z1828), .val (.int z1829), .val (.int z1830), .val (.int z1831), .val (.ref b1846), .unset, .unset, .unset, .unset]) rfl (own_gt X1848 q d0_120 ?_)
  refine own_let ?_; intro g1850_
  obtain ⟨T1851, h1851, X1851, e1851, E1851, A1851, D1851, -, st1851⟩ := newO X1848 hx hZ hown (W 12 rfl) (W 13 rfl) (W 14 rfl) e1848 (g := g1850_) rfl (q.d d0_337) (by decide) (by decide)
  obtain ⟨b1851, g1851⟩ : ∃ z, z = h1848.size := ⟨_, rfl⟩
  rw [← g1851] at A1851 D1851 st1851
  have ch1852 := CHr.ext E1851 ch1849.1
  have cr1852 := CHr.trans cr1849 ch1852
  have zs1852 := Nat.le_trans zs1849 E1851.1
  have hk1852 := Nat.le_trans hk1849 E1851.1
  have od1852 := od1849.ext E1851
  have g_b1851 : n0 ≤ b1851 := Nat.le_trans zs1849 (Nat.le_of_eq g1851.symm)
  have sf_b1851 := Safe.ext E1851 ch1849.1 (Safe.new (Nat.le_of_eq g1851.symm))
  have F1851_value : F'1 Z h1851 b1851 .null := D1851 (Or.inr (W 27 rfl)) (ty := (.array .byte)) (by decide)
  have F1851_coder : F'0 Z h1851 b1851 v'0 := D1851 (Or.inr (W 28 rfl)) (ty := .byte) (by decide)
  refine own_stq 340 [(.ref b1851)] st1851 (own_dp X1851 q d0_340 rfl (own_al X1851 q d0_341 rfl rfl ?_))
  refine own_cIh (a := b1851) X1851 q hZ e1851 hown hml (W 15 rfl) (W 16 rfl) (W 14 rfl) (W 17 rfl) (rm4_1 l Z a0 hw b1851 b1846 k1846 (nar .char z1825) cs0 h1851 n0 zs1852 A1851 F1851_value F1851_coder (V1848.ext E1851) g_b1851 (Ne.symm (own_ne (V1848).lt (Nat.le_of_eq g1851.symm))) od1852 ⟨SCS, hcs⟩ ⟨SAD, SHI, SLO⟩ (own_nc16 _)) d0_343 [(.ref b1846)] [(.ref b1851)] own_pd13 rfl rfl 1 (Nat.le_refl _) rfl (by decide) (fun v1853 T1853 L1853 h1853 e1853' X1853 hQ1853 => ?_)
  obtain ⟨t1853, k1853, rfl, N1853q, K1853, lo1853, Fv1853, D1853⟩ := hQ1853
  have N1853 := Fr.app N1848 N1853q
  have ch1854 := CHr.keep K1853 (sfS sf_b1851 sf0) ch1852.1
  have cr1854 := CHr.trans cr1852 ch1854
  have sf1854_b1851 := Safe.keep K1853 (sfS sf_b1851 sf0) ch1852.1 sf_b1851
  have zs1854 := Nat.le_trans zs1852 K1853.1
  have hk1854 := Nat.le_trans hk1852 K1853.1
  have od1854 := od1852.keep K1853 (allS g_b1851 all0)
  have g_t1853 : n0 ≤ t1853 := Nat.le_trans zs1852 lo1853
  refine own_nn ?_
  rcases D1853 with ⟨Fc, hA, hV⟩ | ⟨Fc, hA, hV⟩
  ·have hA_ := hA
   show own_Fin _ _ _ _ (T1853.setTop (mkF m 346 #[.val (.int p1), .val (.int p2), .val (.long p3), .second, .val (.long p4), .second, .val v'1, .val (.int z1825), .val (.int z1826), .val (.int z1827), .val (.int z1828), .val (.int z1829), .val (.int z1830), .val (.int z1831), .val (.ref b1846), .unset, .unset, .unset, .unset] [(.ref b1851)]))
   refine own_as X1853 q d0_346 rfl (l' := #[.val (.int p1), .val (.int p2), .val (.long p3), .second, .val (.long p4), .second, .val v'1, .val (.int z1825), .val (.int z1826), .val (.int z1827), .val (.int z1828), .val (.int z1829), .val (.int z1830), .val (.int z1831), .val (.ref b1846), .val (.ref b1851), .unset, .unset, .unset]) rfl (own_il X1853 q d0_348 rfl (own_k X1853 q d0_350 (own_cy X1853 q d0_351 ((feq ((by decide) : ¬ ((1 : Int32) = (2 : Int32)))).2) (own_k X1853 q d0_372 (own_is X1853 q d0_373 (l' := #[.val (.int p1), .val (.int p2), .val (.long p3), .second, .val (.long p4), .second, .val v'1, .val (.int z1825), .val (.int z1826), .val (.int z1827), .val (.int z1828), .val (.int z1829), .val (.int z1830), .val (.int z1831), .val (.ref b1846), .val (.ref b1851), .val v'0, .unset, .unset]) rfl (own_il X1853 q d0_375 rfl (own_k X1853 q d0_377 (own_cy X1853 q d0_379 ((feq ((by decide) : ¬ ((1 : Int32) = (6 : Int32)))).2) (own_k X1853 q d0_428 (own_is X1853 q d0_429 (l' := #[.val (.int p1), .val (.int p2), .val (.long p3), .second, .val (.long p4), .second, .val v'1, .val (.int z1825), .val (.int z1826), .val (.int z1827), .val (.int z1828), .val (.int z1829), .val (.int z1830), .val (.int z1831), .val (.ref b1846), .val (.ref b1851), .val v'0, .val v'0, .unset]) rfl (own_il X1853 q d0_431 rfl ?_)))))))))))
   refine own_zn X1853 q d0_433 (((if0 _ _).trans (teq (rfl : (0 : Int32) = (0 : Int32))).2)) (own_il X1853 q d0_436 rfl (own_zy X1853 q d0_438 (((if0 _ _).trans (teq (rfl : (0 : Int32) = (0 : Int32))).1)) (own_k X1853 q d0_445 (own_is X1853 q d0_446 (l' := #[.val (.int p1), .val (.int p2), .val (.long p3), .second, .val (.long p4), .second, .val v'1, .val (.int z1825), .val (.int z1826), .val (.int z1827), .val (.int z1828), .val (.int z1829), .val (.int z1830), .val (.int z1831), .val (.ref b1846), .val (.ref b1851), .val v'0, .val v'0, .val v'0]) rfl (own_al X1853 q d0_448 rfl rfl ?_)))))
   refine own_let ?_; intro g1856_
   obtain ⟨_, _, ⟨T1855, L1855, k1855, n1855⟩, -, X1855, hS1855, hG1855, ⟨Lc1855, hQ1855, l1855, y1855, z1855, cH1855⟩, st1855⟩ := Jvm.RoadKit.callSS X1853 hx (y := own_y15) hown (mvT hZ (W 33 rfl)) (mvT hZ (W 34 rfl)) (mvT hZ (W 35 rfl)) (mvT hZ (W 36 rfl)) (by decide) (own_backHS (W := 0) (rm7_1 l Z a0 hw [] b1851 t1853 k1853 (nar .byte ((nar .char z1825).toInt8.toInt32)) cs0 h1853 n0 zs1854 (A1851.keep K1853) Fc Fv1853 hV od1854 ⟨SCS, hcs⟩ hEL) hZ (W 36 rfl) (W 35 rfl) (by decide) (by decide) hEL ch1854.1 (ss := [b1851]) (allS ⟨((A1851.keep K1853)).lt, sf1854_b1851⟩ all0)) (g := g1856_) rfl (by rw [hml]; rfl) (argsL := [(.ref b1851)]) (rest := []) (lenOf own_pd14 rfl) rfl (by show 2 * 0 + _ ≤ _; exact Nat.le_of_eq rfl) (q.d d0_450) (fun _ _ => ⟨rfl, e1853', (by decide : 4 + 4 ≤ _), (by decide : 8 + 40 ≤ _)⟩)
   dsimp only [Pt.U, Pt.locs, Pt.cells, Pt.slots] at X1855 l1855 y1855 z1855 st1855 hQ1855
   rw [l1855, y1855, z1855] at X1855
   clear l1855 y1855 z1855
   have X1855 : Stand p l e _ (s.setVm T1855.vm) m _ below meth c T1855 _ _ _ := X1855
   have hZ1855 : Z.Warmed39 (s.setVm T1855.vm).vm := State.Warmed39.trans hZ hS1855.1
   have hown : (s.setVm T1855.vm).vm.findClass "com/example/ballast_ledger/ballastledger/cli/HelpIsAskedPinLaw" = some m.cls := by show T1855.vm.findClass _ = _; rw [hS1855.1.alike.findClass]; exact hown
   have hZ := hZ1855
   have hS1855 := State.Since.trans hS0 hS1855 (Nat.le_trans hk1854 (by rw [← e1853']; exact hG1855))
   obtain ⟨z1855, rfl, N1855q, E1855, hP1855⟩ := hQ1855
   have N1855 := Fr.app N1853 N1855q
   obtain ⟨h1855, e1855⟩ : ∃ z, z = T1855.heap := ⟨_, rfl⟩
   have e1855' := e1855.symm
   rw [← e1855] at E1855
   rw [e1855'] at hS1855
   have hkc1855 : h1855.size ≤ h1855.size := Nat.le_refl _
   have zs1857 := Nat.le_trans zs1854 E1855.1
   have hk1857 := Nat.le_trans hk1854 E1855.1
   have od1857 := od1854.ext E1855
   rw [e1855'] at cH1855
   have cr1855 := CHr.trans cr1854 cH1855
   have sf1855_b1851 := cH1855.safe ((A1851.keep K1853)).lt sf1854_b1851
   refine own_stp 453 (fun _ k => st1855.trans k) (own_nv (own_il X1855 q d0_453 rfl ?_))
   have hE1858 : z1855 = (0 : Int32) := by
    rcases hP1855 with ⟨hq, r⟩ | ⟨hq, r⟩
    ·exfalso
     simp at r
    ·exact hq
   refine own_cn X1855 q d0_455 ((teq (hE1858 : z1855 = (0 : Int32))).2) (own_k X1855 q d0_458 (own_gt X1855 q d0_459 ?_))
   refine own_retNW X1855 hS1855 (by rw [e1855']; exact hkc1855) hx (t := .boolean) Bd.returns (by simp) (q.d d0_463) hlk ?_ (by decide) (by decide)
   exact ⟨rfl, N1855⟩
  ·have hA_ := hA
   show own_Fin _ _ _ _ (T1853.setTop (mkF m 346 #[.val (.int p1), .val (.int p2), .val (.long p3), .second, .val (.long p4), .second, .val v'1, .val (.int z1825), .val (.int z1826), .val (.int z1827), .val (.int z1828), .val (.int z1829), .val (.int z1830), .val (.int z1831), .val (.ref b1846), .unset, .unset, .unset, .unset] [(.ref b1851)]))
   refine own_as X1853 q d0_346 rfl (l' := #[.val (.int p1), .val (.int p2), .val (.long p3), .second, .val (.long p4), .second, .val v'1, .val (.int z1825), .val (.int z1826), .val (.int z1827), .val (.int z1828), .val (.int z1829), .val (.int z1830), .val (.int z1831), .val (.ref b1846), .val (.ref b1851), .unset, .unset, .unset]) rfl (own_il X1853 q d0_348 rfl (own_k X1853 q d0_350 (own_cy X1853 q d0_351 ((feq ((by decide) : ¬ ((1 : Int32) = (2 : Int32)))).2) (own_k X1853 q d0_372 (own_is X1853 q d0_373 (l' := #[.val (.int p1), .val (.int p2), .val (.long p3), .second, .val (.long p4), .second, .val v'1, .val (.int z1825), .val (.int z1826), .val (.int z1827), .val (.int z1828), .val (.int z1829), .val (.int z1830), .val (.int z1831), .val (.ref b1846), .val (.ref b1851), .val v'0, .unset, .unset]) rfl (own_il X1853 q d0_375 rfl (own_k X1853 q d0_377 (own_cy X1853 q d0_379 ((feq ((by decide) : ¬ ((1 : Int32) = (6 : Int32)))).2) (own_k X1853 q d0_428 (own_is X1853 q d0_429 (l' := #[.val (.int p1), .val (.int p2), .val (.long p3), .second, .val (.long p4), .second, .val v'1, .val (.int z1825), .val (.int z1826), .val (.int z1827), .val (.int z1828), .val (.int z1829), .val (.int z1830), .val (.int z1831), .val (.ref b1846), .val (.ref b1851), .val v'0, .val v'0, .unset]) rfl (own_il X1853 q d0_431 rfl ?_)))))))))))
   refine own_zn X1853 q d0_433 (((if0 _ _).trans (teq (rfl : (0 : Int32) = (0 : Int32))).2)) (own_il X1853 q d0_436 rfl (own_zy X1853 q d0_438 (((if0 _ _).trans (teq (rfl : (0 : Int32) = (0 : Int32))).1)) (own_k X1853 q d0_445 (own_is X1853 q d0_446 (l' := #[.val (.int p1), .val (.int p2), .val (.long p3), .second, .val (.long p4), .second, .val v'1, .val (.int z1825), .val (.int z1826), .val (.int z1827), .val (.int z1828), .val (.int z1829), .val (.int z1830), .val (.int z1831), .val (.ref b1846), .val (.ref b1851), .val v'0, .val v'0, .val v'0]) rfl (own_al X1853 q d0_448 rfl rfl ?_)))))
   refine own_let ?_; intro g1860_
   obtain ⟨_, _, ⟨T1859, L1859, k1859, n1859⟩, -, X1859, hS1859, hG1859, ⟨Lc1859, hQ1859, l1859, y1859, z1859, cH1859⟩, st1859⟩ := Jvm.RoadKit.callSS X1853 hx (y := own_y15) hown (mvT hZ (W 33 rfl)) (mvT hZ (W 34 rfl)) (mvT hZ (W 35 rfl)) (mvT hZ (W 36 rfl)) (by decide) (own_backHS (W := 0) (rm7_u l Z a0 hw [] b1851 t1853   cs0 h1853 n0 zs1854 (A1851.keep K1853) Fc Fv1853  od1854 ⟨SCS, hcs⟩ hEL) hZ (W 36 rfl) (W 35 rfl) (by decide) (by decide) hEL ch1854.1 (ss := [b1851]) (allS ⟨((A1851.keep K1853)).lt, sf1854_b1851⟩ all0)) (g := g1860_) rfl (by rw [hml]; rfl) (argsL := [(.ref b1851)]) (rest := []) (lenOf own_pd14 rfl) rfl (by show 2 * 0 + _ ≤ _; exact Nat.le_of_eq rfl) (q.d d0_450) (fun _ _ => ⟨rfl, e1853', (by decide : 4 + 4 ≤ _), (by decide : 8 + 40 ≤ _)⟩)
   dsimp only [Pt.U, Pt.locs, Pt.cells, Pt.slots] at X1859 l1859 y1859 z1859 st1859 hQ1859
   rw [l1859, y1859, z1859] at X1859
   clear l1859 y1859 z1859
   have X1859 : Stand p l e _ (s.setVm T1859.vm) m _ below meth c T1859 _ _ _ := X1859
   have hZ1859 : Z.Warmed39 (s.setVm T1859.vm).vm := State.Warmed39.trans hZ hS1859.1
   have hown : (s.setVm T1859.vm).vm.findClass "com/example/ballast_ledger/ballastledger/cli/HelpIsAskedPinLaw" = some m.cls := by show T1859.vm.findClass _ = _; rw [hS1859.1.alike.findClass]; exact hown
   have hZ := hZ1859
   have hS1859 := State.Since.trans hS0 hS1859 (Nat.le_trans hk1854 (by rw [← e1853']; exact hG1859))
   obtain ⟨z1859, rfl, N1859q, E1859, hP1859⟩ := hQ1859
   have N1859 := Fr.app N1853 N1859q
   obtain ⟨h1859, e1859⟩ : ∃ z, z = T1859.heap := ⟨_, rfl⟩
   have e1859' := e1859.symm
   rw [← e1859] at E1859
   rw [e1859'] at hS1859
   have hkc1859 : h1859.size ≤ h1859.size := Nat.le_refl _
   have zs1861 := Nat.le_trans zs1854 E1859.1
   have hk1861 := Nat.le_trans hk1854 E1859.1
   have od1861 := od1854.ext E1859
   rw [e1859'] at cH1859
   have cr1859 := CHr.trans cr1854 cH1859
   have sf1859_b1851 := cH1859.safe ((A1851.keep K1853)).lt sf1854_b1851
   refine own_stp 453 (fun _ k => st1859.trans k) (own_nv (own_il X1859 q d0_453 rfl ?_))
   have hE1862 : z1859 = (0 : Int32) := by
    rcases hP1859 with ⟨hq, r⟩ | ⟨hq, r⟩
    ·exact r.elim
    ·exact hq
   refine own_cn X1859 q d0_455 ((teq (hE1862 : z1859 = (0 : Int32))).2) (own_k X1859 q d0_458 (own_gt X1859 q d0_459 ?_))
   refine own_retNW X1859 hS1859 (by rw [e1859']; exact hkc1859) hx (t := .boolean) Bd.returns (by simp) (q.d d0_463) hlk ?_ (by decide) (by decide)
   exact ⟨rfl, N1859⟩
 ·rw [hl]
  show own_Fin _ _ _ _ (T1831.setTop (mkF m 91 #[.val (.int p1), .val (.int p2), .val (.long p3), .second, .val (.long p4), .second, .val v'2, .val (.int z1825), .val (.int z1826), .val (.int z1827), .val (.int z1828), .val (.int z1829), .val (.int z1830), .val (.int z1831), .unset, .unset, .unset, .unset, .unset] []))
  refine own_il X1831 q d0_91 rfl (own_zy X1831 q d0_93 (((if0 _ _).trans (feq ((by decide) : ¬ ((2 : Int32) = (0 : Int32)))).2)) (own_il X1831 q d0_104 rfl (own_k X1831 q d0_106 (own_cy X1831 q d0_107 ((feq ((by decide) : ¬ ((2 : Int32) = (1 : Int32)))).2) (own_il X1831 q d0_123 rfl (own_k X1831 q d0_125 (own_cn X1831 q d0_126 ((teq (rfl : (2 : Int32) = (2 : Int32))).2) (own_k X1831 q d0_129 ?_))))))))
  refine own_let ?_; intro g1863_
  obtain ⟨T1864, h1864, k1864, X1864, e1864, E1864, A1864, st1864⟩ := newP X1831 hx hZ (W 11 rfl) e1831 (g := g1863_) rfl (q.d d0_130) rfl (by decide) (cap := 2) (by decide) (by decide) (by decide) (by decide)
  obtain ⟨b1864, g1864⟩ : ∃ z, z = h0.size := ⟨_, rfl⟩
  rw [← g1864] at A1864 st1864
  have V1864 : Arv Z h1864 b1864 k1864 .char (2 : Int32) [v'0, v'0] v'0 := (Arv.new A1864 (by decide)).pad (pad_rep [] v'0 2)
  have ch1865 := CHr.ext E1864 hCH
  have cr1865 := CHr.trans hCR ch1865
  have zs1865 := Nat.le_trans Z0 E1864.1
  have hk1865 := Nat.le_trans hk0 E1864.1
  have od1865 := O0.ext E1864
  have g_b1864 : n0 ≤ b1864 := Nat.le_trans Z0 (Nat.le_of_eq g1864.symm)
  refine own_stp 132 st1864 (own_dp X1864 q d0_132 rfl (own_k X1864 q d0_133 (own_il X1864 q d0_134 rfl ?_)))
  refine own_cst X1864 q hZ e1864 V1864 d0_136 (by decide) (Nat.le_of_ble_eq_true rfl) N1831 g_b1864 fun T1866 h1866 X1866 e1866 W1866 V1866 N1866 => ?_
  have ch1867 := CHr.wr W1866 (Safe.arv hZ.alike V1864 (by decide)) ch1865.1
  have cr1867 := CHr.trans cr1865 ch1867
  have zs1867 := Nat.le_trans zs1865 (Keep.of_wr W1866).1
  have hk1867 := Nat.le_trans hk1865 (Keep.of_wr W1866).1
  have od1867 := od1865.wr W1866 g_b1864
  refine own_dp X1866 q d0_137 rfl (own_k X1866 q d0_138 (own_il X1866 q d0_139 rfl ?_))
  refine own_cst X1866 q hZ e1866 V1866 d0_141 (by decide) (Nat.le_of_ble_eq_true rfl) N1866 g_b1864 fun T1868 h1868 X1868 e1868 W1868 V1868 N1868 => ?_
  have ch1869 := CHr.wr W1868 (Safe.arv hZ.alike V1866 (by decide)) ch1867.1
  have cr1869 := CHr.trans cr1867 ch1869
  have zs1869 := Nat.le_trans zs1867 (Keep.of_wr W1868).1
  have hk1869 := Nat.le_trans hk1867 (Keep.of_wr W1868).1
  have od1869 := od1867.wr W1868 g_b1864
  refine own_as X1868 q d0_142 rfl (l' := #[.val (.int p1), .val (.int p2), .val (.long p3), .second, .val (.long p4), .second, .val v'2, .val (.int z1825), .val (.int z1826), .val (.int z1827), .val (.int z1828), .val (.int z1829), .val (.int z1830), .val (.int z1831), .val (.ref b1864), .unset, .unset, .unset, .unset]) rfl (own_gt X1868 q d0_144 ?_)
  refine own_let ?_; intro g1870_
  obtain ⟨T1871, h1871, X1871, e1871, E1871, A1871, D1871, -, st1871⟩ := newO X1868 hx hZ hown (W 12 rfl) (W 13 rfl) (W 14 rfl) e1868 (g := g1870_) rfl (q.d d0_337) (by decide) (by decide)
  obtain ⟨b1871, g1871⟩ : ∃ z, z = h1868.size := ⟨_, rfl⟩
  rw [← g1871] at A1871 D1871 st1871
  have ch1872 := CHr.ext E1871 ch1869.1
  have cr1872 := CHr.trans cr1869 ch1872
  have zs1872 := Nat.le_trans zs1869 E1871.1
  have hk1872 := Nat.le_trans hk1869 E1871.1
  have od1872 := od1869.ext E1871
  have g_b1871 : n0 ≤ b1871 := Nat.le_trans zs1869 (Nat.le_of_eq g1871.symm)
  have sf_b1871 := Safe.ext E1871 ch1869.1 (Safe.new (Nat.le_of_eq g1871.symm))
  have F1871_value : F'1 Z h1871 b1871 .null := D1871 (Or.inr (W 27 rfl)) (ty := (.array .byte)) (by decide)
  have F1871_coder : F'0 Z h1871 b1871 v'0 := D1871 (Or.inr (W 28 rfl)) (ty := .byte) (by decide)
  refine own_stq 340 [(.ref b1871)] st1871 (own_dp X1871 q d0_340 rfl (own_al X1871 q d0_341 rfl rfl ?_))
  refine own_cIh (a := b1871) X1871 q hZ e1871 hown hml (W 15 rfl) (W 16 rfl) (W 14 rfl) (W 17 rfl) (rm4_2 l Z a0 hw b1871 b1864 k1864 (nar .char z1825) (nar .char z1826) cs0 h1871 n0 zs1872 A1871 F1871_value F1871_coder (V1868.ext E1871) g_b1871 (Ne.symm (own_ne (V1868).lt (Nat.le_of_eq g1871.symm))) od1872 ⟨SCS, hcs⟩ ⟨SAD, SHI, SLO⟩ (own_nc16 _) (own_nc16 _)) d0_343 [(.ref b1864)] [(.ref b1871)] own_pd13 rfl rfl 1 (Nat.le_refl _) rfl (by decide) (fun v1873 T1873 L1873 h1873 e1873' X1873 hQ1873 => ?_)
  obtain ⟨t1873, k1873, rfl, N1873q, K1873, lo1873, Fv1873, D1873⟩ := hQ1873
  have N1873 := Fr.app N1868 N1873q
  have ch1874 := CHr.keep K1873 (sfS sf_b1871 sf0) ch1872.1
  have cr1874 := CHr.trans cr1872 ch1874
  have sf1874_b1871 := Safe.keep K1873 (sfS sf_b1871 sf0) ch1872.1 sf_b1871
  have zs1874 := Nat.le_trans zs1872 K1873.1
  have hk1874 := Nat.le_trans hk1872 K1873.1
  have od1874 := od1872.keep K1873 (allS g_b1871 all0)
  have g_t1873 : n0 ≤ t1873 := Nat.le_trans zs1872 lo1873
  refine own_nn ?_
  rcases D1873 with ⟨Fc, hA, hV⟩ | ⟨Fc, hA, hV⟩
  ·have hA_ := hA
   show own_Fin _ _ _ _ (T1873.setTop (mkF m 346 #[.val (.int p1), .val (.int p2), .val (.long p3), .second, .val (.long p4), .second, .val v'2, .val (.int z1825), .val (.int z1826), .val (.int z1827), .val (.int z1828), .val (.int z1829), .val (.int z1830), .val (.int z1831), .val (.ref b1864), .unset, .unset, .unset, .unset] [(.ref b1871)]))
   refine own_as X1873 q d0_346 rfl (l' := #[.val (.int p1), .val (.int p2), .val (.long p3), .second, .val (.long p4), .second, .val v'2, .val (.int z1825), .val (.int z1826), .val (.int z1827), .val (.int z1828), .val (.int z1829), .val (.int z1830), .val (.int z1831), .val (.ref b1864), .val (.ref b1871), .unset, .unset, .unset]) rfl (own_il X1873 q d0_348 rfl (own_k X1873 q d0_350 (own_cn X1873 q d0_351 ((teq (rfl : (2 : Int32) = (2 : Int32))).2) (own_il X1873 q d0_354 rfl (own_k X1873 q d0_356 ?_)))))
   by_cases hc358_1875 : z1825 = (45 : Int32)
   ·refine own_cn X1873 q d0_358 ((teq hc358_1875).2) (own_il X1873 q d0_361 rfl (own_k X1873 q d0_363 ?_))
    by_cases hc365_1876 : z1826 = (104 : Int32)
    ·refine own_cn X1873 q d0_365 ((teq hc365_1876).2) (own_k X1873 q d0_368 (own_gt X1873 q d0_369 (own_is X1873 q d0_373 (l' := #[.val (.int p1), .val (.int p2), .val (.long p3), .second, .val (.long p4), .second, .val v'2, .val (.int z1825), .val (.int z1826), .val (.int z1827), .val (.int z1828), .val (.int z1829), .val (.int z1830), .val (.int z1831), .val (.ref b1864), .val (.ref b1871), .val v'1, .unset, .unset]) rfl (own_il X1873 q d0_375 rfl (own_k X1873 q d0_377 (own_cy X1873 q d0_379 ((feq ((by decide) : ¬ ((2 : Int32) = (6 : Int32)))).2) (own_k X1873 q d0_428 (own_is X1873 q d0_429 (l' := #[.val (.int p1), .val (.int p2), .val (.long p3), .second, .val (.long p4), .second, .val v'2, .val (.int z1825), .val (.int z1826), .val (.int z1827), .val (.int z1828), .val (.int z1829), .val (.int z1830), .val (.int z1831), .val (.ref b1864), .val (.ref b1871), .val v'1, .val v'0, .unset]) rfl (own_il X1873 q d0_431 rfl (own_zy X1873 q d0_433 (((if0 _ _).trans (feq ((by decide) : ¬ ((1 : Int32) = (0 : Int32)))).2)) (own_k X1873 q d0_441 ?_)))))))))))
     refine own_gt X1873 q d0_442 (own_is X1873 q d0_446 (l' := #[.val (.int p1), .val (.int p2), .val (.long p3), .second, .val (.long p4), .second, .val v'2, .val (.int z1825), .val (.int z1826), .val (.int z1827), .val (.int z1828), .val (.int z1829), .val (.int z1830), .val (.int z1831), .val (.ref b1864), .val (.ref b1871), .val v'1, .val v'0, .val v'1]) rfl (own_al X1873 q d0_448 rfl rfl ?_))
     refine own_let ?_; intro g1878_
     obtain ⟨_, _, ⟨T1877, L1877, k1877, n1877⟩, -, X1877, hS1877, hG1877, ⟨Lc1877, hQ1877, l1877, y1877, z1877, cH1877⟩, st1877⟩ := Jvm.RoadKit.callSS X1873 hx (y := own_y15) hown (mvT hZ (W 33 rfl)) (mvT hZ (W 34 rfl)) (mvT hZ (W 35 rfl)) (mvT hZ (W 36 rfl)) (by decide) (own_backHS (W := 0) (rm7_2 l Z a0 hw [] b1871 t1873 k1873 (nar .byte ((nar .char z1825).toInt8.toInt32)) (nar .byte ((nar .char z1826).toInt8.toInt32)) cs0 h1873 n0 zs1874 (A1871.keep K1873) Fc Fv1873 hV od1874 ⟨SCS, hcs⟩ hEL) hZ (W 36 rfl) (W 35 rfl) (by decide) (by decide) hEL ch1874.1 (ss := [b1871]) (allS ⟨((A1871.keep K1873)).lt, sf1874_b1871⟩ all0)) (g := g1878_) rfl (by rw [hml]; rfl) (argsL := [(.ref b1871)]) (rest := []) (lenOf own_pd14 rfl) rfl (by show 2 * 0 + _ ≤ _; exact Nat.le_of_eq rfl) (q.d d0_450) (fun _ _ => ⟨rfl, e1873', (by decide : 4 + 4 ≤ _), (by decide : 12 + 40 ≤ _)⟩)
     dsimp only [Pt.U, Pt.locs, Pt.cells, Pt.slots] at X1877 l1877 y1877 z1877 st1877 hQ1877
     rw [l1877, y1877, z1877] at X1877
     clear l1877 y1877 z1877
     have X1877 : Stand p l e _ (s.setVm T1877.vm) m _ below meth c T1877 _ _ _ := X1877
     have hZ1877 : Z.Warmed39 (s.setVm T1877.vm).vm := State.Warmed39.trans hZ hS1877.1
     have hown : (s.setVm T1877.vm).vm.findClass "com/example/ballast_ledger/ballastledger/cli/HelpIsAskedPinLaw" = some m.cls := by show T1877.vm.findClass _ = _; rw [hS1877.1.alike.findClass]; exact hown
     have hZ := hZ1877
     have hS1877 := State.Since.trans hS0 hS1877 (Nat.le_trans hk1874 (by rw [← e1873']; exact hG1877))
     obtain ⟨z1877, rfl, N1877q, E1877, hP1877⟩ := hQ1877
     have N1877 := Fr.app N1873 N1877q
     obtain ⟨h1877, e1877⟩ : ∃ z, z = T1877.heap := ⟨_, rfl⟩
     have e1877' := e1877.symm
     rw [← e1877] at E1877
     rw [e1877'] at hS1877
     have hkc1877 : h1877.size ≤ h1877.size := Nat.le_refl _
     have zs1879 := Nat.le_trans zs1874 E1877.1
     have hk1879 := Nat.le_trans hk1874 E1877.1
     have od1879 := od1874.ext E1877
     rw [e1877'] at cH1877
     have cr1877 := CHr.trans cr1874 cH1877
     have sf1877_b1871 := cH1877.safe ((A1871.keep K1873)).lt sf1874_b1871
     refine own_stp 453 (fun _ k => st1877.trans k) (own_nv (own_il X1877 q d0_453 rfl ?_))
     have hE1880 : z1877 = (1 : Int32) := by
      rcases hP1877 with ⟨hq, r⟩ | ⟨hq, r⟩
      ·exact hq
      ·exfalso
       apply r
       exact Or.inl (by rw [(own_bE hz1825 hA.1 (k := (45 : Int32)) (by decide)).mpr hc358_1875, (own_bE hz1826 hA.2 (k := (104 : Int32)) (by decide)).mpr hc365_1876])
     refine own_cn X1877 q d0_455 ((teq (hE1880 : z1877 = (1 : Int32))).2) (own_k X1877 q d0_458 (own_gt X1877 q d0_459 ?_))
     refine own_retNW X1877 hS1877 (by rw [e1877']; exact hkc1877) hx (t := .boolean) Bd.returns (by simp) (q.d d0_463) hlk ?_ (by decide) (by decide)
     exact ⟨rfl, N1877⟩
    ·refine own_cy X1873 q d0_365 ((feq hc365_1876).2) (own_k X1873 q d0_372 (own_is X1873 q d0_373 (l' := #[.val (.int p1), .val (.int p2), .val (.long p3), .second, .val (.long p4), .second, .val v'2, .val (.int z1825), .val (.int z1826), .val (.int z1827), .val (.int z1828), .val (.int z1829), .val (.int z1830), .val (.int z1831), .val (.ref b1864), .val (.ref b1871), .val v'0, .unset, .unset]) rfl (own_il X1873 q d0_375 rfl (own_k X1873 q d0_377 (own_cy X1873 q d0_379 ((feq ((by decide) : ¬ ((2 : Int32) = (6 : Int32)))).2) (own_k X1873 q d0_428 (own_is X1873 q d0_429 (l' := #[.val (.int p1), .val (.int p2), .val (.long p3), .second, .val (.long p4), .second, .val v'2, .val (.int z1825), .val (.int z1826), .val (.int z1827), .val (.int z1828), .val (.int z1829), .val (.int z1830), .val (.int z1831), .val (.ref b1864), .val (.ref b1871), .val v'0, .val v'0, .unset]) rfl (own_il X1873 q d0_431 rfl (own_zn X1873 q d0_433 (((if0 _ _).trans (teq (rfl : (0 : Int32) = (0 : Int32))).2)) (own_il X1873 q d0_436 rfl (own_zy X1873 q d0_438 (((if0 _ _).trans (teq (rfl : (0 : Int32) = (0 : Int32))).1)) ?_)))))))))))
     refine own_k X1873 q d0_445 (own_is X1873 q d0_446 (l' := #[.val (.int p1), .val (.int p2), .val (.long p3), .second, .val (.long p4), .second, .val v'2, .val (.int z1825), .val (.int z1826), .val (.int z1827), .val (.int z1828), .val (.int z1829), .val (.int z1830), .val (.int z1831), .val (.ref b1864), .val (.ref b1871), .val v'0, .val v'0, .val v'0]) rfl (own_al X1873 q d0_448 rfl rfl ?_))
     refine own_let ?_; intro g1882_
     obtain ⟨_, _, ⟨T1881, L1881, k1881, n1881⟩, -, X1881, hS1881, hG1881, ⟨Lc1881, hQ1881, l1881, y1881, z1881, cH1881⟩, st1881⟩ := Jvm.RoadKit.callSS X1873 hx (y := own_y15) hown (mvT hZ (W 33 rfl)) (mvT hZ (W 34 rfl)) (mvT hZ (W 35 rfl)) (mvT hZ (W 36 rfl)) (by decide) (own_backHS (W := 0) (rm7_2 l Z a0 hw [] b1871 t1873 k1873 (nar .byte ((nar .char z1825).toInt8.toInt32)) (nar .byte ((nar .char z1826).toInt8.toInt32)) cs0 h1873 n0 zs1874 (A1871.keep K1873) Fc Fv1873 hV od1874 ⟨SCS, hcs⟩ hEL) hZ (W 36 rfl) (W 35 rfl) (by decide) (by decide) hEL ch1874.1 (ss := [b1871]) (allS ⟨((A1871.keep K1873)).lt, sf1874_b1871⟩ all0)) (g := g1882_) rfl (by rw [hml]; rfl) (argsL := [(.ref b1871)]) (rest := []) (lenOf own_pd14 rfl) rfl (by show 2 * 0 + _ ≤ _; exact Nat.le_of_eq rfl) (q.d d0_450) (fun _ _ => ⟨rfl, e1873', (by decide : 4 + 4 ≤ _), (by decide : 12 + 40 ≤ _)⟩)
     dsimp only [Pt.U, Pt.locs, Pt.cells, Pt.slots] at X1881 l1881 y1881 z1881 st1881 hQ1881
     rw [l1881, y1881, z1881] at X1881
     clear l1881 y1881 z1881
     have X1881 : Stand p l e _ (s.setVm T1881.vm) m _ below meth c T1881 _ _ _ := X1881
     have hZ1881 : Z.Warmed39 (s.setVm T1881.vm).vm := State.Warmed39.trans hZ hS1881.1
     have hown : (s.setVm T1881.vm).vm.findClass "com/example/ballast_ledger/ballastledger/cli/HelpIsAskedPinLaw" = some m.cls := by show T1881.vm.findClass _ = _; rw [hS1881.1.alike.findClass]; exact hown
     have hZ := hZ1881
     have hS1881 := State.Since.trans hS0 hS1881 (Nat.le_trans hk1874 (by rw [← e1873']; exact hG1881))
     obtain ⟨z1881, rfl, N1881q, E1881, hP1881⟩ := hQ1881
     have N1881 := Fr.app N1873 N1881q
     obtain ⟨h1881, e1881⟩ : ∃ z, z = T1881.heap := ⟨_, rfl⟩
     have e1881' := e1881.symm
     rw [← e1881] at E1881
     rw [e1881'] at hS1881
     have hkc1881 : h1881.size ≤ h1881.size := Nat.le_refl _
     have zs1883 := Nat.le_trans zs1874 E1881.1
     have hk1883 := Nat.le_trans hk1874 E1881.1
     have od1883 := od1874.ext E1881
     rw [e1881'] at cH1881
     have cr1881 := CHr.trans cr1874 cH1881
     have sf1881_b1871 := cH1881.safe ((A1871.keep K1873)).lt sf1874_b1871
     refine own_stp 453 (fun _ k => st1881.trans k) (own_nv (own_il X1881 q d0_453 rfl ?_))
     have hE1884 : z1881 = (0 : Int32) := by
      rcases hP1881 with ⟨hq, r⟩ | ⟨hq, r⟩
      ·exfalso
       rcases r with r | r
       ·simp only [List.cons.injEq, and_true, own_bE hz1825 hA.1 (k := (45 : Int32)) (by decide), own_bE hz1826 hA.2 (k := (104 : Int32)) (by decide), true_and] at r
        simp [hc358_1875, hc365_1876] at r
       ·simp at r
      ·exact hq
     refine own_cn X1881 q d0_455 ((teq (hE1884 : z1881 = (0 : Int32))).2) (own_k X1881 q d0_458 (own_gt X1881 q d0_459 ?_))
     refine own_retNW X1881 hS1881 (by rw [e1881']; exact hkc1881) hx (t := .boolean) Bd.returns (by simp) (q.d d0_463) hlk ?_ (by decide) (by decide)
     exact ⟨rfl, N1881⟩
   ·refine own_cy X1873 q d0_358 ((feq hc358_1875).2) (own_k X1873 q d0_372 (own_is X1873 q d0_373 (l' := #[.val (.int p1), .val (.int p2), .val (.long p3), .second, .val (.long p4), .second, .val v'2, .val (.int z1825), .val (.int z1826), .val (.int z1827), .val (.int z1828), .val (.int z1829), .val (.int z1830), .val (.int z1831), .val (.ref b1864), .val (.ref b1871), .val v'0, .unset, .unset]) rfl (own_il X1873 q d0_375 rfl (own_k X1873 q d0_377 (own_cy X1873 q d0_379 ((feq ((by decide) : ¬ ((2 : Int32) = (6 : Int32)))).2) (own_k X1873 q d0_428 (own_is X1873 q d0_429 (l' := #[.val (.int p1), .val (.int p2), .val (.long p3), .second, .val (.long p4), .second, .val v'2, .val (.int z1825), .val (.int z1826), .val (.int z1827), .val (.int z1828), .val (.int z1829), .val (.int z1830), .val (.int z1831), .val (.ref b1864), .val (.ref b1871), .val v'0, .val v'0, .unset]) rfl (own_il X1873 q d0_431 rfl (own_zn X1873 q d0_433 (((if0 _ _).trans (teq (rfl : (0 : Int32) = (0 : Int32))).2)) (own_il X1873 q d0_436 rfl (own_zy X1873 q d0_438 (((if0 _ _).trans (teq (rfl : (0 : Int32) = (0 : Int32))).1)) ?_)))))))))))
    refine own_k X1873 q d0_445 (own_is X1873 q d0_446 (l' := #[.val (.int p1), .val (.int p2), .val (.long p3), .second, .val (.long p4), .second, .val v'2, .val (.int z1825), .val (.int z1826), .val (.int z1827), .val (.int z1828), .val (.int z1829), .val (.int z1830), .val (.int z1831), .val (.ref b1864), .val (.ref b1871), .val v'0, .val v'0, .val v'0]) rfl (own_al X1873 q d0_448 rfl rfl ?_))
    refine own_let ?_; intro g1886_
    obtain ⟨_, _, ⟨T1885, L1885, k1885, n1885⟩, -, X1885, hS1885, hG1885, ⟨Lc1885, hQ1885, l1885, y1885, z1885, cH1885⟩, st1885⟩ := Jvm.RoadKit.callSS X1873 hx (y := own_y15) hown (mvT hZ (W 33 rfl)) (mvT hZ (W 34 rfl)) (mvT hZ (W 35 rfl)) (mvT hZ (W 36 rfl)) (by decide) (own_backHS (W := 0) (rm7_2 l Z a0 hw [] b1871 t1873 k1873 (nar .byte ((nar .char z1825).toInt8.toInt32)) (nar .byte ((nar .char z1826).toInt8.toInt32)) cs0 h1873 n0 zs1874 (A1871.keep K1873) Fc Fv1873 hV od1874 ⟨SCS, hcs⟩ hEL) hZ (W 36 rfl) (W 35 rfl) (by decide) (by decide) hEL ch1874.1 (ss := [b1871]) (allS ⟨((A1871.keep K1873)).lt, sf1874_b1871⟩ all0)) (g := g1886_) rfl (by rw [hml]; rfl) (argsL := [(.ref b1871)]) (rest := []) (lenOf own_pd14 rfl) rfl (by show 2 * 0 + _ ≤ _; exact Nat.le_of_eq rfl) (q.d d0_450) (fun _ _ => ⟨rfl, e1873', (by decide : 4 + 4 ≤ _), (by decide : 12 + 40 ≤ _)⟩)
    dsimp only [Pt.U, Pt.locs, Pt.cells, Pt.slots] at X1885 l1885 y1885 z1885 st1885 hQ1885
    rw [l1885, y1885, z1885] at X1885
    clear l1885 y1885 z1885
    have X1885 : Stand p l e _ (s.setVm T1885.vm) m _ below meth c T1885 _ _ _ := X1885
    have hZ1885 : Z.Warmed39 (s.setVm T1885.vm).vm := State.Warmed39.trans hZ hS1885.1
    have hown : (s.setVm T1885.vm).vm.findClass "com/example/ballast_ledger/ballastledger/cli/HelpIsAskedPinLaw" = some m.cls := by show T1885.vm.findClass _ = _; rw [hS1885.1.alike.findClass]; exact hown
    have hZ := hZ1885
    have hS1885 := State.Since.trans hS0 hS1885 (Nat.le_trans hk1874 (by rw [← e1873']; exact hG1885))
    obtain ⟨z1885, rfl, N1885q, E1885, hP1885⟩ := hQ1885
    have N1885 := Fr.app N1873 N1885q
    obtain ⟨h1885, e1885⟩ : ∃ z, z = T1885.heap := ⟨_, rfl⟩
    have e1885' := e1885.symm
    rw [← e1885] at E1885
    rw [e1885'] at hS1885
    have hkc1885 : h1885.size ≤ h1885.size := Nat.le_refl _
    have zs1887 := Nat.le_trans zs1874 E1885.1
    have hk1887 := Nat.le_trans hk1874 E1885.1
    have od1887 := od1874.ext E1885
    rw [e1885'] at cH1885
    have cr1885 := CHr.trans cr1874 cH1885
    have sf1885_b1871 := cH1885.safe ((A1871.keep K1873)).lt sf1874_b1871
    refine own_stp 453 (fun _ k => st1885.trans k) (own_nv (own_il X1885 q d0_453 rfl ?_))
    have hE1888 : z1885 = (0 : Int32) := by
     rcases hP1885 with ⟨hq, r⟩ | ⟨hq, r⟩
     ·exfalso
      rcases r with r | r
      ·simp only [List.cons.injEq, and_true, own_bE hz1825 hA.1 (k := (45 : Int32)) (by decide), own_bE hz1826 hA.2 (k := (104 : Int32)) (by decide), true_and] at r
       simp [hc358_1875] at r
      ·simp at r
     ·exact hq
    refine own_cn X1885 q d0_455 ((teq (hE1888 : z1885 = (0 : Int32))).2) (own_k X1885 q d0_458 (own_gt X1885 q d0_459 ?_))
    refine own_retNW X1885 hS1885 (by rw [e1885']; exact hkc1885) hx (t := .boolean) Bd.returns (by simp) (q.d d0_463) hlk ?_ (by decide) (by decide)
    exact ⟨rfl, N1885⟩
  ·have hA_ := hA
   show own_Fin _ _ _ _ (T1873.setTop (mkF m 346 #[.val (.int p1), .val (.int p2), .val (.long p3), .second, .val (.long p4), .second, .val v'2, .val (.int z1825), .val (.int z1826), .val (.int z1827), .val (.int z1828), .val (.int z1829), .val (.int z1830), .val (.int z1831), .val (.ref b1864), .unset, .unset, .unset, .unset] [(.ref b1871)]))
   refine own_as X1873 q d0_346 rfl (l' := #[.val (.int p1), .val (.int p2), .val (.long p3), .second, .val (.long p4), .second, .val v'2, .val (.int z1825), .val (.int z1826), .val (.int z1827), .val (.int z1828), .val (.int z1829), .val (.int z1830), .val (.int z1831), .val (.ref b1864), .val (.ref b1871), .unset, .unset, .unset]) rfl (own_il X1873 q d0_348 rfl (own_k X1873 q d0_350 (own_cn X1873 q d0_351 ((teq (rfl : (2 : Int32) = (2 : Int32))).2) (own_il X1873 q d0_354 rfl (own_k X1873 q d0_356 ?_)))))
   by_cases hc358_1889 : z1825 = (45 : Int32)
   ·refine own_cn X1873 q d0_358 ((teq hc358_1889).2) (own_il X1873 q d0_361 rfl (own_k X1873 q d0_363 ?_))
    by_cases hc365_1890 : z1826 = (104 : Int32)
    ·refine own_cn X1873 q d0_365 ((teq hc365_1890).2) (own_k X1873 q d0_368 (own_gt X1873 q d0_369 (own_is X1873 q d0_373 (l' := #[.val (.int p1), .val (.int p2), .val (.long p3), .second, .val (.long p4), .second, .val v'2, .val (.int z1825), .val (.int z1826), .val (.int z1827), .val (.int z1828), .val (.int z1829), .val (.int z1830), .val (.int z1831), .val (.ref b1864), .val (.ref b1871), .val v'1, .unset, .unset]) rfl (own_il X1873 q d0_375 rfl (own_k X1873 q d0_377 (own_cy X1873 q d0_379 ((feq ((by decide) : ¬ ((2 : Int32) = (6 : Int32)))).2) (own_k X1873 q d0_428 (own_is X1873 q d0_429 (l' := #[.val (.int p1), .val (.int p2), .val (.long p3), .second, .val (.long p4), .second, .val v'2, .val (.int z1825), .val (.int z1826), .val (.int z1827), .val (.int z1828), .val (.int z1829), .val (.int z1830), .val (.int z1831), .val (.ref b1864), .val (.ref b1871), .val v'1, .val v'0, .unset]) rfl (own_il X1873 q d0_431 rfl (own_zy X1873 q d0_433 (((if0 _ _).trans (feq ((by decide) : ¬ ((1 : Int32) = (0 : Int32)))).2)) (own_k X1873 q d0_441 ?_)))))))))))
     refine own_gt X1873 q d0_442 (own_is X1873 q d0_446 (l' := #[.val (.int p1), .val (.int p2), .val (.long p3), .second, .val (.long p4), .second, .val v'2, .val (.int z1825), .val (.int z1826), .val (.int z1827), .val (.int z1828), .val (.int z1829), .val (.int z1830), .val (.int z1831), .val (.ref b1864), .val (.ref b1871), .val v'1, .val v'0, .val v'1]) rfl (own_al X1873 q d0_448 rfl rfl ?_))
     refine own_let ?_; intro g1892_
     obtain ⟨_, _, ⟨T1891, L1891, k1891, n1891⟩, -, X1891, hS1891, hG1891, ⟨Lc1891, hQ1891, l1891, y1891, z1891, cH1891⟩, st1891⟩ := Jvm.RoadKit.callSS X1873 hx (y := own_y15) hown (mvT hZ (W 33 rfl)) (mvT hZ (W 34 rfl)) (mvT hZ (W 35 rfl)) (mvT hZ (W 36 rfl)) (by decide) (own_backHS (W := 0) (rm7_u l Z a0 hw [] b1871 t1873   cs0 h1873 n0 zs1874 (A1871.keep K1873) Fc Fv1873  od1874 ⟨SCS, hcs⟩ hEL) hZ (W 36 rfl) (W 35 rfl) (by decide) (by decide) hEL ch1874.1 (ss := [b1871]) (allS ⟨((A1871.keep K1873)).lt, sf1874_b1871⟩ all0)) (g := g1892_) rfl (by rw [hml]; rfl) (argsL := [(.ref b1871)]) (rest := []) (lenOf own_pd14 rfl) rfl (by show 2 * 0 + _ ≤ _; exact Nat.le_of_eq rfl) (q.d d0_450) (fun _ _ => ⟨rfl, e1873', (by decide : 4 + 4 ≤ _), (by decide : 12 + 40 ≤ _)⟩)
     dsimp only [Pt.U, Pt.locs, Pt.cells, Pt.slots] at X1891 l1891 y1891 z1891 st1891 hQ1891
     rw [l1891, y1891, z1891] at X1891
     clear l1891 y1891 z1891
     have X1891 : Stand p l e _ (s.setVm T1891.vm) m _ below meth c T1891 _ _ _ := X1891
     have hZ1891 : Z.Warmed39 (s.setVm T1891.vm).vm := State.Warmed39.trans hZ hS1891.1
     have hown : (s.setVm T1891.vm).vm.findClass "com/example/ballast_ledger/ballastledger/cli/HelpIsAskedPinLaw" = some m.cls := by show T1891.vm.findClass _ = _; rw [hS1891.1.alike.findClass]; exact hown
     have hZ := hZ1891
     have hS1891 := State.Since.trans hS0 hS1891 (Nat.le_trans hk1874 (by rw [← e1873']; exact hG1891))
     obtain ⟨z1891, rfl, N1891q, E1891, hP1891⟩ := hQ1891
     have N1891 := Fr.app N1873 N1891q
     obtain ⟨h1891, e1891⟩ : ∃ z, z = T1891.heap := ⟨_, rfl⟩
     have e1891' := e1891.symm
     rw [← e1891] at E1891
     rw [e1891'] at hS1891
     have hkc1891 : h1891.size ≤ h1891.size := Nat.le_refl _
     have zs1893 := Nat.le_trans zs1874 E1891.1
     have hk1893 := Nat.le_trans hk1874 E1891.1
     have od1893 := od1874.ext E1891
     rw [e1891'] at cH1891
     have cr1891 := CHr.trans cr1874 cH1891
     have sf1891_b1871 := cH1891.safe ((A1871.keep K1873)).lt sf1874_b1871
     refine own_stp 453 (fun _ k => st1891.trans k) (own_nv (own_il X1891 q d0_453 rfl ?_))
     have hE1894 : z1891 = (1 : Int32) := by
      rcases hP1891 with ⟨hq, r⟩ | ⟨hq, r⟩
      ·exact hq
      ·exfalso
       rcases hA with r2 | r2
       ·rw [own_nc hz1825, hc358_1889] at r2; exact absurd r2 (by decide)
       ·rw [own_nc hz1826, hc365_1890] at r2; exact absurd r2 (by decide)
     refine own_cn X1891 q d0_455 ((teq (hE1894 : z1891 = (1 : Int32))).2) (own_k X1891 q d0_458 (own_gt X1891 q d0_459 ?_))
     refine own_retNW X1891 hS1891 (by rw [e1891']; exact hkc1891) hx (t := .boolean) Bd.returns (by simp) (q.d d0_463) hlk ?_ (by decide) (by decide)
     exact ⟨rfl, N1891⟩
    ·refine own_cy X1873 q d0_365 ((feq hc365_1890).2) (own_k X1873 q d0_372 (own_is X1873 q d0_373 (l' := #[.val (.int p1), .val (.int p2), .val (.long p3), .second, .val (.long p4), .second, .val v'2, .val (.int z1825), .val (.int z1826), .val (.int z1827), .val (.int z1828), .val (.int z1829), .val (.int z1830), .val (.int z1831), .val (.ref b1864), .val (.ref b1871), .val v'0, .unset, .unset]) rfl (own_il X1873 q d0_375 rfl (own_k X1873 q d0_377 (own_cy X1873 q d0_379 ((feq ((by decide) : ¬ ((2 : Int32) = (6 : Int32)))).2) (own_k X1873 q d0_428 (own_is X1873 q d0_429 (l' := #[.val (.int p1), .val (.int p2), .val (.long p3), .second, .val (.long p4), .second, .val v'2, .val (.int z1825), .val (.int z1826), .val (.int z1827), .val (.int z1828), .val (.int z1829), .val (.int z1830), .val (.int z1831), .val (.ref b1864), .val (.ref b1871), .val v'0, .val v'0, .unset]) rfl (own_il X1873 q d0_431 rfl (own_zn X1873 q d0_433 (((if0 _ _).trans (teq (rfl : (0 : Int32) = (0 : Int32))).2)) (own_il X1873 q d0_436 rfl (own_zy X1873 q d0_438 (((if0 _ _).trans (teq (rfl : (0 : Int32) = (0 : Int32))).1)) ?_)))))))))))
     refine own_k X1873 q d0_445 (own_is X1873 q d0_446 (l' := #[.val (.int p1), .val (.int p2), .val (.long p3), .second, .val (.long p4), .second, .val v'2, .val (.int z1825), .val (.int z1826), .val (.int z1827), .val (.int z1828), .val (.int z1829), .val (.int z1830), .val (.int z1831), .val (.ref b1864), .val (.ref b1871), .val v'0, .val v'0, .val v'0]) rfl (own_al X1873 q d0_448 rfl rfl ?_))
     refine own_let ?_; intro g1896_
     obtain ⟨_, _, ⟨T1895, L1895, k1895, n1895⟩, -, X1895, hS1895, hG1895, ⟨Lc1895, hQ1895, l1895, y1895, z1895, cH1895⟩, st1895⟩ := Jvm.RoadKit.callSS X1873 hx (y := own_y15) hown (mvT hZ (W 33 rfl)) (mvT hZ (W 34 rfl)) (mvT hZ (W 35 rfl)) (mvT hZ (W 36 rfl)) (by decide) (own_backHS (W := 0) (rm7_u l Z a0 hw [] b1871 t1873   cs0 h1873 n0 zs1874 (A1871.keep K1873) Fc Fv1873  od1874 ⟨SCS, hcs⟩ hEL) hZ (W 36 rfl) (W 35 rfl) (by decide) (by decide) hEL ch1874.1 (ss := [b1871]) (allS ⟨((A1871.keep K1873)).lt, sf1874_b1871⟩ all0)) (g := g1896_) rfl (by rw [hml]; rfl) (argsL := [(.ref b1871)]) (rest := []) (lenOf own_pd14 rfl) rfl (by show 2 * 0 + _ ≤ _; exact Nat.le_of_eq rfl) (q.d d0_450) (fun _ _ => ⟨rfl, e1873', (by decide : 4 + 4 ≤ _), (by decide : 12 + 40 ≤ _)⟩)
     dsimp only [Pt.U, Pt.locs, Pt.cells, Pt.slots] at X1895 l1895 y1895 z1895 st1895 hQ1895
     rw [l1895, y1895, z1895] at X1895
     clear l1895 y1895 z1895
     have X1895 : Stand p l e _ (s.setVm T1895.vm) m _ below meth c T1895 _ _ _ := X1895
     have hZ1895 : Z.Warmed39 (s.setVm T1895.vm).vm := State.Warmed39.trans hZ hS1895.1
     have hown : (s.setVm T1895.vm).vm.findClass "com/example/ballast_ledger/ballastledger/cli/HelpIsAskedPinLaw" = some m.cls := by show T1895.vm.findClass _ = _; rw [hS1895.1.alike.findClass]; exact hown
     have hZ := hZ1895
     have hS1895 := State.Since.trans hS0 hS1895 (Nat.le_trans hk1874 (by rw [← e1873']; exact hG1895))
     obtain ⟨z1895, rfl, N1895q, E1895, hP1895⟩ := hQ1895
     have N1895 := Fr.app N1873 N1895q
     obtain ⟨h1895, e1895⟩ : ∃ z, z = T1895.heap := ⟨_, rfl⟩
     have e1895' := e1895.symm
     rw [← e1895] at E1895
     rw [e1895'] at hS1895
     have hkc1895 : h1895.size ≤ h1895.size := Nat.le_refl _
     have zs1897 := Nat.le_trans zs1874 E1895.1
     have hk1897 := Nat.le_trans hk1874 E1895.1
     have od1897 := od1874.ext E1895
     rw [e1895'] at cH1895
     have cr1895 := CHr.trans cr1874 cH1895
     have sf1895_b1871 := cH1895.safe ((A1871.keep K1873)).lt sf1874_b1871
     refine own_stp 453 (fun _ k => st1895.trans k) (own_nv (own_il X1895 q d0_453 rfl ?_))
     have hE1898 : z1895 = (0 : Int32) := by
      rcases hP1895 with ⟨hq, r⟩ | ⟨hq, r⟩
      ·exact r.elim
      ·exact hq
     refine own_cn X1895 q d0_455 ((teq (hE1898 : z1895 = (0 : Int32))).2) (own_k X1895 q d0_458 (own_gt X1895 q d0_459 ?_))
     refine own_retNW X1895 hS1895 (by rw [e1895']; exact hkc1895) hx (t := .boolean) Bd.returns (by simp) (q.d d0_463) hlk ?_ (by decide) (by decide)
     exact ⟨rfl, N1895⟩
   ·refine own_cy X1873 q d0_358 ((feq hc358_1889).2) (own_k X1873 q d0_372 (own_is X1873 q d0_373 (l' := #[.val (.int p1), .val (.int p2), .val (.long p3), .second, .val (.long p4), .second, .val v'2, .val (.int z1825), .val (.int z1826), .val (.int z1827), .val (.int z1828), .val (.int z1829), .val (.int z1830), .val (.int z1831), .val (.ref b1864), .val (.ref b1871), .val v'0, .unset, .unset]) rfl (own_il X1873 q d0_375 rfl (own_k X1873 q d0_377 (own_cy X1873 q d0_379 ((feq ((by decide) : ¬ ((2 : Int32) = (6 : Int32)))).2) (own_k X1873 q d0_428 (own_is X1873 q d0_429 (l' := #[.val (.int p1), .val (.int p2), .val (.long p3), .second, .val (.long p4), .second, .val v'2, .val (.int z1825), .val (.int z1826), .val (.int z1827), .val (.int z1828), .val (.int z1829), .val (.int z1830), .val (.int z1831), .val (.ref b1864), .val (.ref b1871), .val v'0, .val v'0, .unset]) rfl (own_il X1873 q d0_431 rfl (own_zn X1873 q d0_433 (((if0 _ _).trans (teq (rfl : (0 : Int32) = (0 : Int32))).2)) (own_il X1873 q d0_436 rfl (own_zy X1873 q d0_438 (((if0 _ _).trans (teq (rfl : (0 : Int32) = (0 : Int32))).1)) ?_)))))))))))
    refine own_k X1873 q d0_445 (own_is X1873 q d0_446 (l' := #[.val (.int p1), .val (.int p2), .val (.long p3), .second, .val (.long p4), .second, .val v'2, .val (.int z1825), .val (.int z1826), .val (.int z1827), .val (.int z1828), .val (.int z1829), .val (.int z1830), .val (.int z1831), .val (.ref b1864), .val (.ref b1871), .val v'0, .val v'0, .val v'0]) rfl (own_al X1873 q d0_448 rfl rfl ?_))
    refine own_let ?_; intro g1900_
    obtain ⟨_, _, ⟨T1899, L1899, k1899, n1899⟩, -, X1899, hS1899, hG1899, ⟨Lc1899, hQ1899, l1899, y1899, z1899, cH1899⟩, st1899⟩ := Jvm.RoadKit.callSS X1873 hx (y := own_y15) hown (mvT hZ (W 33 rfl)) (mvT hZ (W 34 rfl)) (mvT hZ (W 35 rfl)) (mvT hZ (W 36 rfl)) (by decide) (own_backHS (W := 0) (rm7_u l Z a0 hw [] b1871 t1873   cs0 h1873 n0 zs1874 (A1871.keep K1873) Fc Fv1873  od1874 ⟨SCS, hcs⟩ hEL) hZ (W 36 rfl) (W 35 rfl) (by decide) (by decide) hEL ch1874.1 (ss := [b1871]) (allS ⟨((A1871.keep K1873)).lt, sf1874_b1871⟩ all0)) (g := g1900_) rfl (by rw [hml]; rfl) (argsL := [(.ref b1871)]) (rest := []) (lenOf own_pd14 rfl) rfl (by show 2 * 0 + _ ≤ _; exact Nat.le_of_eq rfl) (q.d d0_450) (fun _ _ => ⟨rfl, e1873', (by decide : 4 + 4 ≤ _), (by decide : 12 + 40 ≤ _)⟩)
    dsimp only [Pt.U, Pt.locs, Pt.cells, Pt.slots] at X1899 l1899 y1899 z1899 st1899 hQ1899
    rw [l1899, y1899, z1899] at X1899
    clear l1899 y1899 z1899
    have X1899 : Stand p l e _ (s.setVm T1899.vm) m _ below meth c T1899 _ _ _ := X1899
    have hZ1899 : Z.Warmed39 (s.setVm T1899.vm).vm := State.Warmed39.trans hZ hS1899.1
    have hown : (s.setVm T1899.vm).vm.findClass "com/example/ballast_ledger/ballastledger/cli/HelpIsAskedPinLaw" = some m.cls := by show T1899.vm.findClass _ = _; rw [hS1899.1.alike.findClass]; exact hown
    have hZ := hZ1899
    have hS1899 := State.Since.trans hS0 hS1899 (Nat.le_trans hk1874 (by rw [← e1873']; exact hG1899))
    obtain ⟨z1899, rfl, N1899q, E1899, hP1899⟩ := hQ1899
    have N1899 := Fr.app N1873 N1899q
    obtain ⟨h1899, e1899⟩ : ∃ z, z = T1899.heap := ⟨_, rfl⟩
    have e1899' := e1899.symm
    rw [← e1899] at E1899
    rw [e1899'] at hS1899
    have hkc1899 : h1899.size ≤ h1899.size := Nat.le_refl _
    have zs1901 := Nat.le_trans zs1874 E1899.1
    have hk1901 := Nat.le_trans hk1874 E1899.1
    have od1901 := od1874.ext E1899
    rw [e1899'] at cH1899
    have cr1899 := CHr.trans cr1874 cH1899
    have sf1899_b1871 := cH1899.safe ((A1871.keep K1873)).lt sf1874_b1871
    refine own_stp 453 (fun _ k => st1899.trans k) (own_nv (own_il X1899 q d0_453 rfl ?_))
    have hE1902 : z1899 = (0 : Int32) := by
     rcases hP1899 with ⟨hq, r⟩ | ⟨hq, r⟩
     ·exact r.elim
     ·exact hq
    refine own_cn X1899 q d0_455 ((teq (hE1902 : z1899 = (0 : Int32))).2) (own_k X1899 q d0_458 (own_gt X1899 q d0_459 ?_))
    refine own_retNW X1899 hS1899 (by rw [e1899']; exact hkc1899) hx (t := .boolean) Bd.returns (by simp) (q.d d0_463) hlk ?_ (by decide) (by decide)
    exact ⟨rfl, N1899⟩
 ·rw [hl]
  show own_Fin _ _ _ _ (T1831.setTop (mkF m 91 #[.val (.int p1), .val (.int p2), .val (.long p3), .second, .val (.long p4), .second, .val v'3, .val (.int z1825), .val (.int z1826), .val (.int z1827), .val (.int z1828), .val (.int z1829), .val (.int z1830), .val (.int z1831), .unset, .unset, .unset, .unset, .unset] []))
  refine own_il X1831 q d0_91 rfl (own_zy X1831 q d0_93 (((if0 _ _).trans (feq ((by decide) : ¬ ((3 : Int32) = (0 : Int32)))).2)) (own_il X1831 q d0_104 rfl (own_k X1831 q d0_106 (own_cy X1831 q d0_107 ((feq ((by decide) : ¬ ((3 : Int32) = (1 : Int32)))).2) (own_il X1831 q d0_123 rfl (own_k X1831 q d0_125 (own_cy X1831 q d0_126 ((feq ((by decide) : ¬ ((3 : Int32) = (2 : Int32)))).2) (own_il X1831 q d0_147 rfl (own_k X1831 q d0_149 (own_cn X1831 q d0_150 ((teq (rfl : (3 : Int32) = (3 : Int32))).2) (own_k X1831 q d0_153 ?_)))))))))))
  refine own_let ?_; intro g1903_
  obtain ⟨T1904, h1904, k1904, X1904, e1904, E1904, A1904, st1904⟩ := newP X1831 hx hZ (W 11 rfl) e1831 (g := g1903_) rfl (q.d d0_154) rfl (by decide) (cap := 3) (by decide) (by decide) (by decide) (by decide)
  obtain ⟨b1904, g1904⟩ : ∃ z, z = h0.size := ⟨_, rfl⟩
  rw [← g1904] at A1904 st1904
  have V1904 : Arv Z h1904 b1904 k1904 .char (3 : Int32) [v'0, v'0, v'0] v'0 := (Arv.new A1904 (by decide)).pad (pad_rep [] v'0 3)
  have ch1905 := CHr.ext E1904 hCH
  have cr1905 := CHr.trans hCR ch1905
  have zs1905 := Nat.le_trans Z0 E1904.1
  have hk1905 := Nat.le_trans hk0 E1904.1
  have od1905 := O0.ext E1904
  have g_b1904 : n0 ≤ b1904 := Nat.le_trans Z0 (Nat.le_of_eq g1904.symm)
  refine own_stp 156 st1904 (own_dp X1904 q d0_156 rfl (own_k X1904 q d0_157 (own_il X1904 q d0_158 rfl ?_)))
  refine own_cst X1904 q hZ e1904 V1904 d0_160 (by decide) (Nat.le_of_ble_eq_true rfl) N1831 g_b1904 fun T1906 h1906 X1906 e1906 W1906 V1906 N1906 => ?_
  have ch1907 := CHr.wr W1906 (Safe.arv hZ.alike V1904 (by decide)) ch1905.1
  have cr1907 := CHr.trans cr1905 ch1907
  have zs1907 := Nat.le_trans zs1905 (Keep.of_wr W1906).1
  have hk1907 := Nat.le_trans hk1905 (Keep.of_wr W1906).1
  have od1907 := od1905.wr W1906 g_b1904
  refine own_dp X1906 q d0_161 rfl (own_k X1906 q d0_162 (own_il X1906 q d0_163 rfl ?_))
  refine own_cst X1906 q hZ e1906 V1906 d0_165 (by decide) (Nat.le_of_ble_eq_true rfl) N1906 g_b1904 fun T1908 h1908 X1908 e1908 W1908 V1908 N1908 => ?_
  have ch1909 := CHr.wr W1908 (Safe.arv hZ.alike V1906 (by decide)) ch1907.1
  have cr1909 := CHr.trans cr1907 ch1909
  have zs1909 := Nat.le_trans zs1907 (Keep.of_wr W1908).1
  have hk1909 := Nat.le_trans hk1907 (Keep.of_wr W1908).1
  have od1909 := od1907.wr W1908 g_b1904
  refine own_dp X1908 q d0_166 rfl (own_k X1908 q d0_167 (own_il X1908 q d0_168 rfl ?_))
  refine own_cst X1908 q hZ e1908 V1908 d0_170 (by decide) (Nat.le_of_ble_eq_true rfl) N1908 g_b1904 fun T1910 h1910 X1910 e1910 W1910 V1910 N1910 => ?_
  have ch1911 := CHr.wr W1910 (Safe.arv hZ.alike V1908 (by decide)) ch1909.1
  have cr1911 := CHr.trans cr1909 ch1911
  have zs1911 := Nat.le_trans zs1909 (Keep.of_wr W1910).1
  have hk1911 := Nat.le_trans hk1909 (Keep.of_wr W1910).1
  have od1911 := od1909.wr W1910 g_b1904
  refine own_as X1910 q d0_171 rfl (l' := #[.val (.int p1), .val (.int p2), .val (.long p3), .second, .val (.long p4), .second, .val v'3, .val (.int z1825), .val (.int z1826), .val (.int z1827), .val (.int z1828), .val (.int z1829), .val (.int z1830), .val (.int z1831), .val (.ref b1904), .unset, .unset, .unset, .unset]) rfl (own_gt X1910 q d0_173 ?_)
  refine own_let ?_; intro g1912_
  obtain ⟨T1913, h1913, X1913, e1913, E1913, A1913, D1913, -, st1913⟩ := newO X1910 hx hZ hown (W 12 rfl) (W 13 rfl) (W 14 rfl) e1910 (g := g1912_) rfl (q.d d0_337) (by decide) (by decide)
  obtain ⟨b1913, g1913⟩ : ∃ z, z = h1910.size := ⟨_, rfl⟩
  rw [← g1913] at A1913 D1913 st1913
  have ch1914 := CHr.ext E1913 ch1911.1
  have cr1914 := CHr.trans cr1911 ch1914
  have zs1914 := Nat.le_trans zs1911 E1913.1
  have hk1914 := Nat.le_trans hk1911 E1913.1
  have od1914 := od1911.ext E1913
  have g_b1913 : n0 ≤ b1913 := Nat.le_trans zs1911 (Nat.le_of_eq g1913.symm)
  have sf_b1913 := Safe.ext E1913 ch1911.1 (Safe.new (Nat.le_of_eq g1913.symm))
  have F1913_value : F'1 Z h1913 b1913 .null := D1913 (Or.inr (W 27 rfl)) (ty := (.array .byte)) (by decide)
  have F1913_coder : F'0 Z h1913 b1913 v'0 := D1913 (Or.inr (W 28 rfl)) (ty := .byte) (by decide)
  refine own_stq 340 [(.ref b1913)] st1913 (own_dp X1913 q d0_340 rfl (own_al X1913 q d0_341 rfl rfl ?_))
  refine own_cIh (a := b1913) X1913 q hZ e1913 hown hml (W 15 rfl) (W 16 rfl) (W 14 rfl) (W 17 rfl) (rm4_3 l Z a0 hw b1913 b1904 k1904 (nar .char z1825) (nar .char z1826) (nar .char z1827) cs0 h1913 n0 zs1914 A1913 F1913_value F1913_coder (V1910.ext E1913) g_b1913 (Ne.symm (own_ne (V1910).lt (Nat.le_of_eq g1913.symm))) od1914 ⟨SCS, hcs⟩ ⟨SAD, SHI, SLO⟩ (own_nc16 _) (own_nc16 _) (own_nc16 _)) d0_343 [(.ref b1904)] [(.ref b1913)] own_pd13 rfl rfl 1 (Nat.le_refl _) rfl (by decide) (fun v1915 T1915 L1915 h1915 e1915' X1915 hQ1915 => ?_)
  obtain ⟨t1915, k1915, rfl, N1915q, K1915, lo1915, Fv1915, D1915⟩ := hQ1915
  have N1915 := Fr.app N1910 N1915q
  have ch1916 := CHr.keep K1915 (sfS sf_b1913 sf0) ch1914.1
  have cr1916 := CHr.trans cr1914 ch1916
  have sf1916_b1913 := Safe.keep K1915 (sfS sf_b1913 sf0) ch1914.1 sf_b1913
  have zs1916 := Nat.le_trans zs1914 K1915.1
  have hk1916 := Nat.le_trans hk1914 K1915.1
  have od1916 := od1914.keep K1915 (allS g_b1913 all0)
  have g_t1915 : n0 ≤ t1915 := Nat.le_trans zs1914 lo1915
  refine own_nn ?_
  rcases D1915 with ⟨Fc, hA, hV⟩ | ⟨Fc, hA, hV⟩
  ·have hA_ := hA
   show own_Fin _ _ _ _ (T1915.setTop (mkF m 346 #[.val (.int p1), .val (.int p2), .val (.long p3), .second, .val (.long p4), .second, .val v'3, .val (.int z1825), .val (.int z1826), .val (.int z1827), .val (.int z1828), .val (.int z1829), .val (.int z1830), .val (.int z1831), .val (.ref b1904), .unset, .unset, .unset, .unset] [(.ref b1913)]))
   refine own_as X1915 q d0_346 rfl (l' := #[.val (.int p1), .val (.int p2), .val (.long p3), .second, .val (.long p4), .second, .val v'3, .val (.int z1825), .val (.int z1826), .val (.int z1827), .val (.int z1828), .val (.int z1829), .val (.int z1830), .val (.int z1831), .val (.ref b1904), .val (.ref b1913), .unset, .unset, .unset]) rfl (own_il X1915 q d0_348 rfl (own_k X1915 q d0_350 (own_cy X1915 q d0_351 ((feq ((by decide) : ¬ ((3 : Int32) = (2 : Int32)))).2) (own_k X1915 q d0_372 (own_is X1915 q d0_373 (l' := #[.val (.int p1), .val (.int p2), .val (.long p3), .second, .val (.long p4), .second, .val v'3, .val (.int z1825), .val (.int z1826), .val (.int z1827), .val (.int z1828), .val (.int z1829), .val (.int z1830), .val (.int z1831), .val (.ref b1904), .val (.ref b1913), .val v'0, .unset, .unset]) rfl (own_il X1915 q d0_375 rfl (own_k X1915 q d0_377 (own_cy X1915 q d0_379 ((feq ((by decide) : ¬ ((3 : Int32) = (6 : Int32)))).2) (own_k X1915 q d0_428 (own_is X1915 q d0_429 (l' := #[.val (.int p1), .val (.int p2), .val (.long p3), .second, .val (.long p4), .second, .val v'3, .val (.int z1825), .val (.int z1826), .val (.int z1827), .val (.int z1828), .val (.int z1829), .val (.int z1830), .val (.int z1831), .val (.ref b1904), .val (.ref b1913), .val v'0, .val v'0, .unset]) rfl (own_il X1915 q d0_431 rfl ?_)))))))))))
   refine own_zn X1915 q d0_433 (((if0 _ _).trans (teq (rfl : (0 : Int32) = (0 : Int32))).2)) (own_il X1915 q d0_436 rfl (own_zy X1915 q d0_438 (((if0 _ _).trans (teq (rfl : (0 : Int32) = (0 : Int32))).1)) (own_k X1915 q d0_445 (own_is X1915 q d0_446 (l' := #[.val (.int p1), .val (.int p2), .val (.long p3), .second, .val (.long p4), .second, .val v'3, .val (.int z1825), .val (.int z1826), .val (.int z1827), .val (.int z1828), .val (.int z1829), .val (.int z1830), .val (.int z1831), .val (.ref b1904), .val (.ref b1913), .val v'0, .val v'0, .val v'0]) rfl (own_al X1915 q d0_448 rfl rfl ?_)))))
   refine own_let ?_; intro g1918_
   obtain ⟨_, _, ⟨T1917, L1917, k1917, n1917⟩, -, X1917, hS1917, hG1917, ⟨Lc1917, hQ1917, l1917, y1917, z1917, cH1917⟩, st1917⟩ := Jvm.RoadKit.callSS X1915 hx (y := own_y15) hown (mvT hZ (W 33 rfl)) (mvT hZ (W 34 rfl)) (mvT hZ (W 35 rfl)) (mvT hZ (W 36 rfl)) (by decide) (own_backHS (W := 0) (rm7_3 l Z a0 hw [] b1913 t1915 k1915 (nar .byte ((nar .char z1825).toInt8.toInt32)) (nar .byte ((nar .char z1826).toInt8.toInt32)) (nar .byte ((nar .char z1827).toInt8.toInt32)) cs0 h1915 n0 zs1916 (A1913.keep K1915) Fc Fv1915 hV od1916 ⟨SCS, hcs⟩ hEL) hZ (W 36 rfl) (W 35 rfl) (by decide) (by decide) hEL ch1916.1 (ss := [b1913]) (allS ⟨((A1913.keep K1915)).lt, sf1916_b1913⟩ all0)) (g := g1918_) rfl (by rw [hml]; rfl) (argsL := [(.ref b1913)]) (rest := []) (lenOf own_pd14 rfl) rfl (by show 2 * 0 + _ ≤ _; exact Nat.le_of_eq rfl) (q.d d0_450) (fun _ _ => ⟨rfl, e1915', (by decide : 4 + 4 ≤ _), (by decide : 16 + 40 ≤ _)⟩)
   dsimp only [Pt.U, Pt.locs, Pt.cells, Pt.slots] at X1917 l1917 y1917 z1917 st1917 hQ1917
   rw [l1917, y1917, z1917] at X1917
   clear l1917 y1917 z1917
   have X1917 : Stand p l e _ (s.setVm T1917.vm) m _ below meth c T1917 _ _ _ := X1917
   have hZ1917 : Z.Warmed39 (s.setVm T1917.vm).vm := State.Warmed39.trans hZ hS1917.1
   have hown : (s.setVm T1917.vm).vm.findClass "com/example/ballast_ledger/ballastledger/cli/HelpIsAskedPinLaw" = some m.cls := by show T1917.vm.findClass _ = _; rw [hS1917.1.alike.findClass]; exact hown
   have hZ := hZ1917
   have hS1917 := State.Since.trans hS0 hS1917 (Nat.le_trans hk1916 (by rw [← e1915']; exact hG1917))
   obtain ⟨z1917, rfl, N1917q, E1917, hP1917⟩ := hQ1917
   have N1917 := Fr.app N1915 N1917q
   obtain ⟨h1917, e1917⟩ : ∃ z, z = T1917.heap := ⟨_, rfl⟩
   have e1917' := e1917.symm
   rw [← e1917] at E1917
   rw [e1917'] at hS1917
   have hkc1917 : h1917.size ≤ h1917.size := Nat.le_refl _
   have zs1919 := Nat.le_trans zs1916 E1917.1
   have hk1919 := Nat.le_trans hk1916 E1917.1
   have od1919 := od1916.ext E1917
   rw [e1917'] at cH1917
   have cr1917 := CHr.trans cr1916 cH1917
   have sf1917_b1913 := cH1917.safe ((A1913.keep K1915)).lt sf1916_b1913
   refine own_stp 453 (fun _ k => st1917.trans k) (own_nv (own_il X1917 q d0_453 rfl ?_))
   have hE1920 : z1917 = (0 : Int32) := by
    rcases hP1917 with ⟨hq, r⟩ | ⟨hq, r⟩
    ·exfalso
     simp at r
    ·exact hq
   refine own_cn X1917 q d0_455 ((teq (hE1920 : z1917 = (0 : Int32))).2) (own_k X1917 q d0_458 (own_gt X1917 q d0_459 ?_))
   refine own_retNW X1917 hS1917 (by rw [e1917']; exact hkc1917) hx (t := .boolean) Bd.returns (by simp) (q.d d0_463) hlk ?_ (by decide) (by decide)
   exact ⟨rfl, N1917⟩
  ·have hA_ := hA
   show own_Fin _ _ _ _ (T1915.setTop (mkF m 346 #[.val (.int p1), .val (.int p2), .val (.long p3), .second, .val (.long p4), .second, .val v'3, .val (.int z1825), .val (.int z1826), .val (.int z1827), .val (.int z1828), .val (.int z1829), .val (.int z1830), .val (.int z1831), .val (.ref b1904), .unset, .unset, .unset, .unset] [(.ref b1913)]))
   refine own_as X1915 q d0_346 rfl (l' := #[.val (.int p1), .val (.int p2), .val (.long p3), .second, .val (.long p4), .second, .val v'3, .val (.int z1825), .val (.int z1826), .val (.int z1827), .val (.int z1828), .val (.int z1829), .val (.int z1830), .val (.int z1831), .val (.ref b1904), .val (.ref b1913), .unset, .unset, .unset]) rfl (own_il X1915 q d0_348 rfl (own_k X1915 q d0_350 (own_cy X1915 q d0_351 ((feq ((by decide) : ¬ ((3 : Int32) = (2 : Int32)))).2) (own_k X1915 q d0_372 (own_is X1915 q d0_373 (l' := #[.val (.int p1), .val (.int p2), .val (.long p3), .second, .val (.long p4), .second, .val v'3, .val (.int z1825), .val (.int z1826), .val (.int z1827), .val (.int z1828), .val (.int z1829), .val (.int z1830), .val (.int z1831), .val (.ref b1904), .val (.ref b1913), .val v'0, .unset, .unset]) rfl (own_il X1915 q d0_375 rfl (own_k X1915 q d0_377 (own_cy X1915 q d0_379 ((feq ((by decide) : ¬ ((3 : Int32) = (6 : Int32)))).2) (own_k X1915 q d0_428 (own_is X1915 q d0_429 (l' := #[.val (.int p1), .val (.int p2), .val (.long p3), .second, .val (.long p4), .second, .val v'3, .val (.int z1825), .val (.int z1826), .val (.int z1827), .val (.int z1828), .val (.int z1829), .val (.int z1830), .val (.int z1831), .val (.ref b1904), .val (.ref b1913), .val v'0, .val v'0, .unset]) rfl (own_il X1915 q d0_431 rfl ?_)))))))))))
   refine own_zn X1915 q d0_433 (((if0 _ _).trans (teq (rfl : (0 : Int32) = (0 : Int32))).2)) (own_il X1915 q d0_436 rfl (own_zy X1915 q d0_438 (((if0 _ _).trans (teq (rfl : (0 : Int32) = (0 : Int32))).1)) (own_k X1915 q d0_445 (own_is X1915 q d0_446 (l' := #[.val (.int p1), .val (.int p2), .val (.long p3), .second, .val (.long p4), .second, .val v'3, .val (.int z1825), .val (.int z1826), .val (.int z1827), .val (.int z1828), .val (.int z1829), .val (.int z1830), .val (.int z1831), .val (.ref b1904), .val (.ref b1913), .val v'0, .val v'0, .val v'0]) rfl (own_al X1915 q d0_448 rfl rfl ?_)))))
   refine own_let ?_; intro g1922_
   obtain ⟨_, _, ⟨T1921, L1921, k1921, n1921⟩, -, X1921, hS1921, hG1921, ⟨Lc1921, hQ1921, l1921, y1921, z1921, cH1921⟩, st1921⟩ := Jvm.RoadKit.callSS X1915 hx (y := own_y15) hown (mvT hZ (W 33 rfl)) (mvT hZ (W 34 rfl)) (mvT hZ (W 35 rfl)) (mvT hZ (W 36 rfl)) (by decide) (own_backHS (W := 0) (rm7_u l Z a0 hw [] b1913 t1915   cs0 h1915 n0 zs1916 (A1913.keep K1915) Fc Fv1915  od1916 ⟨SCS, hcs⟩ hEL) hZ (W 36 rfl) (W 35 rfl) (by decide) (by decide) hEL ch1916.1 (ss := [b1913]) (allS ⟨((A1913.keep K1915)).lt, sf1916_b1913⟩ all0)) (g := g1922_) rfl (by rw [hml]; rfl) (argsL := [(.ref b1913)]) (rest := []) (lenOf own_pd14 rfl) rfl (by show 2 * 0 + _ ≤ _; exact Nat.le_of_eq rfl) (q.d d0_450) (fun _ _ => ⟨rfl, e1915', (by decide : 4 + 4 ≤ _), (by decide : 16 + 40 ≤ _)⟩)
   dsimp only [Pt.U, Pt.locs, Pt.cells, Pt.slots] at X1921 l1921 y1921 z1921 st1921 hQ1921
   rw [l1921, y1921, z1921] at X1921
   clear l1921 y1921 z1921
   have X1921 : Stand p l e _ (s.setVm T1921.vm) m _ below meth c T1921 _ _ _ := X1921
   have hZ1921 : Z.Warmed39 (s.setVm T1921.vm).vm := State.Warmed39.trans hZ hS1921.1
   have hown : (s.setVm T1921.vm).vm.findClass "com/example/ballast_ledger/ballastledger/cli/HelpIsAskedPinLaw" = some m.cls := by show T1921.vm.findClass _ = _; rw [hS1921.1.alike.findClass]; exact hown
   have hZ := hZ1921
   have hS1921 := State.Since.trans hS0 hS1921 (Nat.le_trans hk1916 (by rw [← e1915']; exact hG1921))
   obtain ⟨z1921, rfl, N1921q, E1921, hP1921⟩ := hQ1921
   have N1921 := Fr.app N1915 N1921q
   obtain ⟨h1921, e1921⟩ : ∃ z, z = T1921.heap := ⟨_, rfl⟩
   have e1921' := e1921.symm
   rw [← e1921] at E1921
   rw [e1921'] at hS1921
   have hkc1921 : h1921.size ≤ h1921.size := Nat.le_refl _
   have zs1923 := Nat.le_trans zs1916 E1921.1
   have hk1923 := Nat.le_trans hk1916 E1921.1
   have od1923 := od1916.ext E1921
   rw [e1921'] at cH1921
   have cr1921 := CHr.trans cr1916 cH1921
   have sf1921_b1913 := cH1921.safe ((A1913.keep K1915)).lt sf1916_b1913
   refine own_stp 453 (fun _ k => st1921.trans k) (own_nv (own_il X1921 q d0_453 rfl ?_))
   have hE1924 : z1921 = (0 : Int32) := by
    rcases hP1921 with ⟨hq, r⟩ | ⟨hq, r⟩
    ·exact r.elim
    ·exact hq
   refine own_cn X1921 q d0_455 ((teq (hE1924 : z1921 = (0 : Int32))).2) (own_k X1921 q d0_458 (own_gt X1921 q d0_459 ?_))
   refine own_retNW X1921 hS1921 (by rw [e1921']; exact hkc1921) hx (t := .boolean) Bd.returns (by simp) (q.d d0_463) hlk ?_ (by decide) (by decide)
   exact ⟨rfl, N1921⟩
 ·rw [hl]
  show own_Fin _ _ _ _ (T1831.setTop (mkF m 91 #[.val (.int p1), .val (.int p2), .val (.long p3), .second, .val (.long p4), .second, .val v'4, .val (.int z1825), .val (.int z1826), .val (.int z1827), .val (.int z1828), .val (.int z1829), .val (.int z1830), .val (.int z1831), .unset, .unset, .unset, .unset, .unset] []))
  refine own_il X1831 q d0_91 rfl (own_zy X1831 q d0_93 (((if0 _ _).trans (feq ((by decide) : ¬ ((4 : Int32) = (0 : Int32)))).2)) (own_il X1831 q d0_104 rfl (own_k X1831 q d0_106 (own_cy X1831 q d0_107 ((feq ((by decide) : ¬ ((4 : Int32) = (1 : Int32)))).2) (own_il X1831 q d0_123 rfl (own_k X1831 q d0_125 (own_cy X1831 q d0_126 ((feq ((by decide) : ¬ ((4 : Int32) = (2 : Int32)))).2) (own_il X1831 q d0_147 rfl (own_k X1831 q d0_149 (own_cy X1831 q d0_150 ((feq ((by decide) : ¬ ((4 : Int32) = (3 : Int32)))).2) (own_il X1831 q d0_176 rfl ?_)))))))))))
  refine own_k X1831 q d0_178 (own_cn X1831 q d0_179 ((teq (rfl : (4 : Int32) = (4 : Int32))).2) (own_k X1831 q d0_182 ?_))
  refine own_let ?_; intro g1925_
  obtain ⟨T1926, h1926, k1926, X1926, e1926, E1926, A1926, st1926⟩ := newP X1831 hx hZ (W 11 rfl) e1831 (g := g1925_) rfl (q.d d0_183) rfl (by decide) (cap := 4) (by decide) (by decide) (by decide) (by decide)
  obtain ⟨b1926, g1926⟩ : ∃ z, z = h0.size := ⟨_, rfl⟩
  rw [← g1926] at A1926 st1926
  have V1926 : Arv Z h1926 b1926 k1926 .char (4 : Int32) [v'0, v'0, v'0, v'0] v'0 := (Arv.new A1926 (by decide)).pad (pad_rep [] v'0 4)
  have ch1927 := CHr.ext E1926 hCH
  have cr1927 := CHr.trans hCR ch1927
  have zs1927 := Nat.le_trans Z0 E1926.1
  have hk1927 := Nat.le_trans hk0 E1926.1
  have od1927 := O0.ext E1926
  have g_b1926 : n0 ≤ b1926 := Nat.le_trans Z0 (Nat.le_of_eq g1926.symm)
  refine own_stp 185 st1926 (own_dp X1926 q d0_185 rfl (own_k X1926 q d0_186 (own_il X1926 q d0_187 rfl ?_)))
  refine own_cst X1926 q hZ e1926 V1926 d0_189 (by decide) (Nat.le_of_ble_eq_true rfl) N1831 g_b1926 fun T1928 h1928 X1928 e1928 W1928 V1928 N1928 => ?_
  have ch1929 := CHr.wr W1928 (Safe.arv hZ.alike V1926 (by decide)) ch1927.1
  have cr1929 := CHr.trans cr1927 ch1929
  have zs1929 := Nat.le_trans zs1927 (Keep.of_wr W1928).1
  have hk1929 := Nat.le_trans hk1927 (Keep.of_wr W1928).1
  have od1929 := od1927.wr W1928 g_b1926
  refine own_dp X1928 q d0_190 rfl (own_k X1928 q d0_191 (own_il X1928 q d0_192 rfl ?_))
  refine own_cst X1928 q hZ e1928 V1928 d0_194 (by decide) (Nat.le_of_ble_eq_true rfl) N1928 g_b1926 fun T1930 h1930 X1930 e1930 W1930 V1930 N1930 => ?_
  have ch1931 := CHr.wr W1930 (Safe.arv hZ.alike V1928 (by decide)) ch1929.1
  have cr1931 := CHr.trans cr1929 ch1931
  have zs1931 := Nat.le_trans zs1929 (Keep.of_wr W1930).1
  have hk1931 := Nat.le_trans hk1929 (Keep.of_wr W1930).1
  have od1931 := od1929.wr W1930 g_b1926
  refine own_dp X1930 q d0_195 rfl (own_k X1930 q d0_196 (own_il X1930 q d0_197 rfl ?_))
  refine own_cst X1930 q hZ e1930 V1930 d0_199 (by decide) (Nat.le_of_ble_eq_true rfl) N1930 g_b1926 fun T1932 h1932 X1932 e1932 W1932 V1932 N1932 => ?_
  have ch1933 := CHr.wr W1932 (Safe.arv hZ.alike V1930 (by decide)) ch1931.1
  have cr1933 := CHr.trans cr1931 ch1933
  have zs1933 := Nat.le_trans zs1931 (Keep.of_wr W1932).1
  have hk1933 := Nat.le_trans hk1931 (Keep.of_wr W1932).1
  have od1933 := od1931.wr W1932 g_b1926
  refine own_dp X1932 q d0_200 rfl (own_k X1932 q d0_201 (own_il X1932 q d0_202 rfl ?_))
  refine own_cst X1932 q hZ e1932 V1932 d0_204 (by decide) (Nat.le_of_ble_eq_true rfl) N1932 g_b1926 fun T1934 h1934 X1934 e1934 W1934 V1934 N1934 => ?_
  have ch1935 := CHr.wr W1934 (Safe.arv hZ.alike V1932 (by decide)) ch1933.1
  have cr1935 := CHr.trans cr1933 ch1935
  have zs1935 := Nat.le_trans zs1933 (Keep.of_wr W1934).1
  have hk1935 := Nat.le_trans hk1933 (Keep.of_wr W1934).1
  have od1935 := od1933.wr W1934 g_b1926
  refine own_as X1934 q d0_205 rfl (l' := #[.val (.int p1), .val (.int p2), .val (.long p3), .second, .val (.long p4), .second, .val v'4, .val (.int z1825), .val (.int z1826), .val (.int z1827), .val (.int z1828), .val (.int z1829), .val (.int z1830), .val (.int z1831), .val (.ref b1926), .unset, .unset, .unset, .unset]) rfl (own_gt X1934 q d0_207 ?_)
  refine own_let ?_; intro g1936_
  obtain ⟨T1937, h1937, X1937, e1937, E1937, A1937, D1937, -, st1937⟩ := newO X1934 hx hZ hown (W 12 rfl) (W 13 rfl) (W 14 rfl) e1934 (g := g1936_) rfl (q.d d0_337) (by decide) (by decide)
  obtain ⟨b1937, g1937⟩ : ∃ z, z = h1934.size := ⟨_, rfl⟩
  rw [← g1937] at A1937 D1937 st1937
  have ch1938 := CHr.ext E1937 ch1935.1
  have cr1938 := CHr.trans cr1935 ch1938
  have zs1938 := Nat.le_trans zs1935 E1937.1
  have hk1938 := Nat.le_trans hk1935 E1937.1
  have od1938 := od1935.ext E1937
  have g_b1937 : n0 ≤ b1937 := Nat.le_trans zs1935 (Nat.le_of_eq g1937.symm)
  have sf_b1937 := Safe.ext E1937 ch1935.1 (Safe.new (Nat.le_of_eq g1937.symm))
  have F1937_value : F'1 Z h1937 b1937 .null := D1937 (Or.inr (W 27 rfl)) (ty := (.array .byte)) (by decide)
  have F1937_coder : F'0 Z h1937 b1937 v'0 := D1937 (Or.inr (W 28 rfl)) (ty := .byte) (by decide)
  refine own_stq 340 [(.ref b1937)] st1937 (own_dp X1937 q d0_340 rfl (own_al X1937 q d0_341 rfl rfl ?_))
  refine own_cIh (a := b1937) X1937 q hZ e1937 hown hml (W 15 rfl) (W 16 rfl) (W 14 rfl) (W 17 rfl) (rm4_4 l Z a0 hw b1937 b1926 k1926 (nar .char z1825) (nar .char z1826) (nar .char z1827) (nar .char z1828) cs0 h1937 n0 zs1938 A1937 F1937_value F1937_coder (V1934.ext E1937) g_b1937 (Ne.symm (own_ne (V1934).lt (Nat.le_of_eq g1937.symm))) od1938 ⟨SCS, hcs⟩ ⟨SAD, SHI, SLO⟩ (own_nc16 _) (own_nc16 _) (own_nc16 _) (own_nc16 _)) d0_343 [(.ref b1926)] [(.ref b1937)] own_pd13 rfl rfl 1 (Nat.le_refl _) rfl (by decide) (fun v1939 T1939 L1939 h1939 e1939' X1939 hQ1939 => ?_)
  obtain ⟨t1939, k1939, rfl, N1939q, K1939, lo1939, Fv1939, D1939⟩ := hQ1939
  have N1939 := Fr.app N1934 N1939q
  have ch1940 := CHr.keep K1939 (sfS sf_b1937 sf0) ch1938.1
  have cr1940 := CHr.trans cr1938 ch1940
  have sf1940_b1937 := Safe.keep K1939 (sfS sf_b1937 sf0) ch1938.1 sf_b1937
  have zs1940 := Nat.le_trans zs1938 K1939.1
  have hk1940 := Nat.le_trans hk1938 K1939.1
  have od1940 := od1938.keep K1939 (allS g_b1937 all0)
  have g_t1939 : n0 ≤ t1939 := Nat.le_trans zs1938 lo1939
  refine own_nn ?_
  rcases D1939 with ⟨Fc, hA, hV⟩ | ⟨Fc, hA, hV⟩
  ·have hA_ := hA
   show own_Fin _ _ _ _ (T1939.setTop (mkF m 346 #[.val (.int p1), .val (.int p2), .val (.long p3), .second, .val (.long p4), .second, .val v'4, .val (.int z1825), .val (.int z1826), .val (.int z1827), .val (.int z1828), .val (.int z1829), .val (.int z1830), .val (.int z1831), .val (.ref b1926), .unset, .unset, .unset, .unset] [(.ref b1937)]))
   refine own_as X1939 q d0_346 rfl (l' := #[.val (.int p1), .val (.int p2), .val (.long p3), .second, .val (.long p4), .second, .val v'4, .val (.int z1825), .val (.int z1826), .val (.int z1827), .val (.int z1828), .val (.int z1829), .val (.int z1830), .val (.int z1831), .val (.ref b1926), .val (.ref b1937), .unset, .unset, .unset]) rfl (own_il X1939 q d0_348 rfl (own_k X1939 q d0_350 (own_cy X1939 q d0_351 ((feq ((by decide) : ¬ ((4 : Int32) = (2 : Int32)))).2) (own_k X1939 q d0_372 (own_is X1939 q d0_373 (l' := #[.val (.int p1), .val (.int p2), .val (.long p3), .second, .val (.long p4), .second, .val v'4, .val (.int z1825), .val (.int z1826), .val (.int z1827), .val (.int z1828), .val (.int z1829), .val (.int z1830), .val (.int z1831), .val (.ref b1926), .val (.ref b1937), .val v'0, .unset, .unset]) rfl (own_il X1939 q d0_375 rfl (own_k X1939 q d0_377 (own_cy X1939 q d0_379 ((feq ((by decide) : ¬ ((4 : Int32) = (6 : Int32)))).2) (own_k X1939 q d0_428 (own_is X1939 q d0_429 (l' := #[.val (.int p1), .val (.int p2), .val (.long p3), .second, .val (.long p4), .second, .val v'4, .val (.int z1825), .val (.int z1826), .val (.int z1827), .val (.int z1828), .val (.int z1829), .val (.int z1830), .val (.int z1831), .val (.ref b1926), .val (.ref b1937), .val v'0, .val v'0, .unset]) rfl (own_il X1939 q d0_431 rfl ?_)))))))))))
   refine own_zn X1939 q d0_433 (((if0 _ _).trans (teq (rfl : (0 : Int32) = (0 : Int32))).2)) (own_il X1939 q d0_436 rfl (own_zy X1939 q d0_438 (((if0 _ _).trans (teq (rfl : (0 : Int32) = (0 : Int32))).1)) (own_k X1939 q d0_445 (own_is X1939 q d0_446 (l' := #[.val (.int p1), .val (.int p2), .val (.long p3), .second, .val (.long p4), .second, .val v'4, .val (.int z1825), .val (.int z1826), .val (.int z1827), .val (.int z1828), .val (.int z1829), .val (.int z1830), .val (.int z1831), .val (.ref b1926), .val (.ref b1937), .val v'0, .val v'0, .val v'0]) rfl (own_al X1939 q d0_448 rfl rfl ?_)))))
   refine own_let ?_; intro g1942_
   obtain ⟨_, _, ⟨T1941, L1941, k1941, n1941⟩, -, X1941, hS1941, hG1941, ⟨Lc1941, hQ1941, l1941, y1941, z1941, cH1941⟩, st1941⟩ := Jvm.RoadKit.callSS X1939 hx (y := own_y15) hown (mvT hZ (W 33 rfl)) (mvT hZ (W 34 rfl)) (mvT hZ (W 35 rfl)) (mvT hZ (W 36 rfl)) (by decide) (own_backHS (W := 0) (rm7_4 l Z a0 hw [] b1937 t1939 k1939 (nar .byte ((nar .char z1825).toInt8.toInt32)) (nar .byte ((nar .char z1826).toInt8.toInt32)) (nar .byte ((nar .char z1827).toInt8.toInt32)) (nar .byte ((nar .char z1828).toInt8.toInt32)) cs0 h1939 n0 zs1940 (A1937.keep K1939) Fc Fv1939 hV od1940 ⟨SCS, hcs⟩ hEL) hZ (W 36 rfl) (W 35 rfl) (by decide) (by decide) hEL ch1940.1 (ss := [b1937]) (allS ⟨((A1937.keep K1939)).lt, sf1940_b1937⟩ all0)) (g := g1942_) rfl (by rw [hml]; rfl) (argsL := [(.ref b1937)]) (rest := []) (lenOf own_pd14 rfl) rfl (by show 2 * 0 + _ ≤ _; exact Nat.le_of_eq rfl) (q.d d0_450) (fun _ _ => ⟨rfl, e1939', (by decide : 4 + 4 ≤ _), (by decide : 20 + 40 ≤ _)⟩)
   dsimp only [Pt.U, Pt.locs, Pt.cells, Pt.slots] at X1941 l1941 y1941 z1941 st1941 hQ1941
   rw [l1941, y1941, z1941] at X1941
   clear l1941 y1941 z1941
   have X1941 : Stand p l e _ (s.setVm T1941.vm) m _ below meth c T1941 _ _ _ := X1941
   have hZ1941 : Z.Warmed39 (s.setVm T1941.vm).vm := State.Warmed39.trans hZ hS1941.1
   have hown : (s.setVm T1941.vm).vm.findClass "com/example/ballast_ledger/ballastledger/cli/HelpIsAskedPinLaw" = some m.cls := by show T1941.vm.findClass _ = _; rw [hS1941.1.alike.findClass]; exact hown
   have hZ := hZ1941
   have hS1941 := State.Since.trans hS0 hS1941 (Nat.le_trans hk1940 (by rw [← e1939']; exact hG1941))
   obtain ⟨z1941, rfl, N1941q, E1941, hP1941⟩ := hQ1941
   have N1941 := Fr.app N1939 N1941q
   obtain ⟨h1941, e1941⟩ : ∃ z, z = T1941.heap := ⟨_, rfl⟩
   have e1941' := e1941.symm
   rw [← e1941] at E1941
   rw [e1941'] at hS1941
   have hkc1941 : h1941.size ≤ h1941.size := Nat.le_refl _
   have zs1943 := Nat.le_trans zs1940 E1941.1
   have hk1943 := Nat.le_trans hk1940 E1941.1
   have od1943 := od1940.ext E1941
   rw [e1941'] at cH1941
   have cr1941 := CHr.trans cr1940 cH1941
   have sf1941_b1937 := cH1941.safe ((A1937.keep K1939)).lt sf1940_b1937
   refine own_stp 453 (fun _ k => st1941.trans k) (own_nv (own_il X1941 q d0_453 rfl ?_))
   have hE1944 : z1941 = (0 : Int32) := by
    rcases hP1941 with ⟨hq, r⟩ | ⟨hq, r⟩
    ·exfalso
     simp at r
    ·exact hq
   refine own_cn X1941 q d0_455 ((teq (hE1944 : z1941 = (0 : Int32))).2) (own_k X1941 q d0_458 (own_gt X1941 q d0_459 ?_))
   refine own_retNW X1941 hS1941 (by rw [e1941']; exact hkc1941) hx (t := .boolean) Bd.returns (by simp) (q.d d0_463) hlk ?_ (by decide) (by decide)
   exact ⟨rfl, N1941⟩
  ·have hA_ := hA
   show own_Fin _ _ _ _ (T1939.setTop (mkF m 346 #[.val (.int p1), .val (.int p2), .val (.long p3), .second, .val (.long p4), .second, .val v'4, .val (.int z1825), .val (.int z1826), .val (.int z1827), .val (.int z1828), .val (.int z1829), .val (.int z1830), .val (.int z1831), .val (.ref b1926), .unset, .unset, .unset, .unset] [(.ref b1937)]))
   refine own_as X1939 q d0_346 rfl (l' := #[.val (.int p1), .val (.int p2), .val (.long p3), .second, .val (.long p4), .second, .val v'4, .val (.int z1825), .val (.int z1826), .val (.int z1827), .val (.int z1828), .val (.int z1829), .val (.int z1830), .val (.int z1831), .val (.ref b1926), .val (.ref b1937), .unset, .unset, .unset]) rfl (own_il X1939 q d0_348 rfl (own_k X1939 q d0_350 (own_cy X1939 q d0_351 ((feq ((by decide) : ¬ ((4 : Int32) = (2 : Int32)))).2) (own_k X1939 q d0_372 (own_is X1939 q d0_373 (l' := #[.val (.int p1), .val (.int p2), .val (.long p3), .second, .val (.long p4), .second, .val v'4, .val (.int z1825), .val (.int z1826), .val (.int z1827), .val (.int z1828), .val (.int z1829), .val (.int z1830), .val (.int z1831), .val (.ref b1926), .val (.ref b1937), .val v'0, .unset, .unset]) rfl (own_il X1939 q d0_375 rfl (own_k X1939 q d0_377 (own_cy X1939 q d0_379 ((feq ((by decide) : ¬ ((4 : Int32) = (6 : Int32)))).2) (own_k X1939 q d0_428 (own_is X1939 q d0_429 (l' := #[.val (.int p1), .val (.int p2), .val (.long p3), .second, .val (.long p4), .second, .val v'4, .val (.int z1825), .val (.int z1826), .val (.int z1827), .val (.int z1828), .val (.int z1829), .val (.int z1830), .val (.int z1831), .val (.ref b1926), .val (.ref b1937), .val v'0, .val v'0, .unset]) rfl (own_il X1939 q d0_431 rfl ?_)))))))))))
   refine own_zn X1939 q d0_433 (((if0 _ _).trans (teq (rfl : (0 : Int32) = (0 : Int32))).2)) (own_il X1939 q d0_436 rfl (own_zy X1939 q d0_438 (((if0 _ _).trans (teq (rfl : (0 : Int32) = (0 : Int32))).1)) (own_k X1939 q d0_445 (own_is X1939 q d0_446 (l' := #[.val (.int p1), .val (.int p2), .val (.long p3), .second, .val (.long p4), .second, .val v'4, .val (.int z1825), .val (.int z1826), .val (.int z1827), .val (.int z1828), .val (.int z1829), .val (.int z1830), .val (.int z1831), .val (.ref b1926), .val (.ref b1937), .val v'0, .val v'0, .val v'0]) rfl (own_al X1939 q d0_448 rfl rfl ?_)))))
   refine own_let ?_; intro g1946_
   obtain ⟨_, _, ⟨T1945, L1945, k1945, n1945⟩, -, X1945, hS1945, hG1945, ⟨Lc1945, hQ1945, l1945, y1945, z1945, cH1945⟩, st1945⟩ := Jvm.RoadKit.callSS X1939 hx (y := own_y15) hown (mvT hZ (W 33 rfl)) (mvT hZ (W 34 rfl)) (mvT hZ (W 35 rfl)) (mvT hZ (W 36 rfl)) (by decide) (own_backHS (W := 0) (rm7_u l Z a0 hw [] b1937 t1939   cs0 h1939 n0 zs1940 (A1937.keep K1939) Fc Fv1939  od1940 ⟨SCS, hcs⟩ hEL) hZ (W 36 rfl) (W 35 rfl) (by decide) (by decide) hEL ch1940.1 (ss := [b1937]) (allS ⟨((A1937.keep K1939)).lt, sf1940_b1937⟩ all0)) (g := g1946_) rfl (by rw [hml]; rfl) (argsL := [(.ref b1937)]) (rest := []) (lenOf own_pd14 rfl) rfl (by show 2 * 0 + _ ≤ _; exact Nat.le_of_eq rfl) (q.d d0_450) (fun _ _ => ⟨rfl, e1939', (by decide : 4 + 4 ≤ _), (by decide : 20 + 40 ≤ _)⟩)
   dsimp only [Pt.U, Pt.locs, Pt.cells, Pt.slots] at X1945 l1945 y1945 z1945 st1945 hQ1945
   rw [l1945, y1945, z1945] at X1945
   clear l1945 y1945 z1945
   have X1945 : Stand p l e _ (s.setVm T1945.vm) m _ below meth c T1945 _ _ _ := X1945
   have hZ1945 : Z.Warmed39 (s.setVm T1945.vm).vm := State.Warmed39.trans hZ hS1945.1
   have hown : (s.setVm T1945.vm).vm.findClass "com/example/ballast_ledger/ballastledger/cli/HelpIsAskedPinLaw" = some m.cls := by show T1945.vm.findClass _ = _; rw [hS1945.1.alike.findClass]; exact hown
   have hZ := hZ1945
   have hS1945 := State.Since.trans hS0 hS1945 (Nat.le_trans hk1940 (by rw [← e1939']; exact hG1945))
   obtain ⟨z1945, rfl, N1945q, E1945, hP1945⟩ := hQ1945
   have N1945 := Fr.app N1939 N1945q
   obtain ⟨h1945, e1945⟩ : ∃ z, z = T1945.heap := ⟨_, rfl⟩
   have e1945' := e1945.symm
   rw [← e1945] at E1945
   rw [e1945'] at hS1945
   have hkc1945 : h1945.size ≤ h1945.size := Nat.le_refl _
   have zs1947 := Nat.le_trans zs1940 E1945.1
   have hk1947 := Nat.le_trans hk1940 E1945.1
   have od1947 := od1940.ext E1945
   rw [e1945'] at cH1945
   have cr1945 := CHr.trans cr1940 cH1945
   have sf1945_b1937 := cH1945.safe ((A1937.keep K1939)).lt sf1940_b1937
   refine own_stp 453 (fun _ k => st1945.trans k) (own_nv (own_il X1945 q d0_453 rfl ?_))
   have hE1948 : z1945 = (0 : Int32) := by
    rcases hP1945 with ⟨hq, r⟩ | ⟨hq, r⟩
    ·exact r.elim
    ·exact hq
   refine own_cn X1945 q d0_455 ((teq (hE1948 : z1945 = (0 : Int32))).2) (own_k X1945 q d0_458 (own_gt X1945 q d0_459 ?_))
   refine own_retNW X1945 hS1945 (by rw [e1945']; exact hkc1945) hx (t := .boolean) Bd.returns (by simp) (q.d d0_463) hlk ?_ (by decide) (by decide)
   exact ⟨rfl, N1945⟩
 ·rw [hl]
  show own_Fin _ _ _ _ (T1831.setTop (mkF m 91 #[.val (.int p1), .val (.int p2), .val (.long p3), .second, .val (.long p4), .second, .val v'5, .val (.int z1825), .val (.int z1826), .val (.int z1827), .val (.int z1828), .val (.int z1829), .val (.int z1830), .val (.int z1831), .unset, .unset, .unset, .unset, .unset] []))
  refine own_il X1831 q d0_91 rfl (own_zy X1831 q d0_93 (((if0 _ _).trans (feq ((by decide) : ¬ ((5 : Int32) = (0 : Int32)))).2)) (own_il X1831 q d0_104 rfl (own_k X1831 q d0_106 (own_cy X1831 q d0_107 ((feq ((by decide) : ¬ ((5 : Int32) = (1 : Int32)))).2) (own_il X1831 q d0_123 rfl (own_k X1831 q d0_125 (own_cy X1831 q d0_126 ((feq ((by decide) : ¬ ((5 : Int32) = (2 : Int32)))).2) (own_il X1831 q d0_147 rfl (own_k X1831 q d0_149 (own_cy X1831 q d0_150 ((feq ((by decide) : ¬ ((5 : Int32) = (3 : Int32)))).2) (own_il X1831 q d0_176 rfl ?_)))))))))))
  refine own_k X1831 q d0_178 (own_cy X1831 q d0_179 ((feq ((by decide) : ¬ ((5 : Int32) = (4 : Int32)))).2) (own_il X1831 q d0_210 rfl (own_k X1831 q d0_212 (own_cn X1831 q d0_213 ((teq (rfl : (5 : Int32) = (5 : Int32))).2) (own_k X1831 q d0_216 ?_)))))
  refine own_let ?_; intro g1949_
  obtain ⟨T1950, h1950, k1950, X1950, e1950, E1950, A1950, st1950⟩ := newP X1831 hx hZ (W 11 rfl) e1831 (g := g1949_) rfl (q.d d0_217) rfl (by decide) (cap := 5) (by decide) (by decide) (by decide) (by decide)
  obtain ⟨b1950, g1950⟩ : ∃ z, z = h0.size := ⟨_, rfl⟩
  rw [← g1950] at A1950 st1950
  have V1950 : Arv Z h1950 b1950 k1950 .char (5 : Int32) [v'0, v'0, v'0, v'0, v'0] v'0 := (Arv.new A1950 (by decide)).pad (pad_rep [] v'0 5)
  have ch1951 := CHr.ext E1950 hCH
  have cr1951 := CHr.trans hCR ch1951
  have zs1951 := Nat.le_trans Z0 E1950.1
  have hk1951 := Nat.le_trans hk0 E1950.1
  have od1951 := O0.ext E1950
  have g_b1950 : n0 ≤ b1950 := Nat.le_trans Z0 (Nat.le_of_eq g1950.symm)
  refine own_stp 219 st1950 (own_dp X1950 q d0_219 rfl (own_k X1950 q d0_220 (own_il X1950 q d0_221 rfl ?_)))
  refine own_cst X1950 q hZ e1950 V1950 d0_223 (by decide) (Nat.le_of_ble_eq_true rfl) N1831 g_b1950 fun T1952 h1952 X1952 e1952 W1952 V1952 N1952 => ?_
  have ch1953 := CHr.wr W1952 (Safe.arv hZ.alike V1950 (by decide)) ch1951.1
  have cr1953 := CHr.trans cr1951 ch1953
  have zs1953 := Nat.le_trans zs1951 (Keep.of_wr W1952).1
  have hk1953 := Nat.le_trans hk1951 (Keep.of_wr W1952).1
  have od1953 := od1951.wr W1952 g_b1950
  refine own_dp X1952 q d0_224 rfl (own_k X1952 q d0_225 (own_il X1952 q d0_226 rfl ?_))
  refine own_cst X1952 q hZ e1952 V1952 d0_228 (by decide) (Nat.le_of_ble_eq_true rfl) N1952 g_b1950 fun T1954 h1954 X1954 e1954 W1954 V1954 N1954 => ?_
  have ch1955 := CHr.wr W1954 (Safe.arv hZ.alike V1952 (by decide)) ch1953.1
  have cr1955 := CHr.trans cr1953 ch1955
  have zs1955 := Nat.le_trans zs1953 (Keep.of_wr W1954).1
  have hk1955 := Nat.le_trans hk1953 (Keep.of_wr W1954).1
  have od1955 := od1953.wr W1954 g_b1950
  refine own_dp X1954 q d0_229 rfl (own_k X1954 q d0_230 (own_il X1954 q d0_231 rfl ?_))
  refine own_cst X1954 q hZ e1954 V1954 d0_233 (by decide) (Nat.le_of_ble_eq_true rfl) N1954 g_b1950 fun T1956 h1956 X1956 e1956 W1956 V1956 N1956 => ?_
  have ch1957 := CHr.wr W1956 (Safe.arv hZ.alike V1954 (by decide)) ch1955.1
  have cr1957 := CHr.trans cr1955 ch1957
  have zs1957 := Nat.le_trans zs1955 (Keep.of_wr W1956).1
  have hk1957 := Nat.le_trans hk1955 (Keep.of_wr W1956).1
  have od1957 := od1955.wr W1956 g_b1950
  refine own_dp X1956 q d0_234 rfl (own_k X1956 q d0_235 (own_il X1956 q d0_236 rfl ?_))
  refine own_cst X1956 q hZ e1956 V1956 d0_238 (by decide) (Nat.le_of_ble_eq_true rfl) N1956 g_b1950 fun T1958 h1958 X1958 e1958 W1958 V1958 N1958 => ?_
  have ch1959 := CHr.wr W1958 (Safe.arv hZ.alike V1956 (by decide)) ch1957.1
  have cr1959 := CHr.trans cr1957 ch1959
  have zs1959 := Nat.le_trans zs1957 (Keep.of_wr W1958).1
  have hk1959 := Nat.le_trans hk1957 (Keep.of_wr W1958).1
  have od1959 := od1957.wr W1958 g_b1950
  refine own_dp X1958 q d0_239 rfl (own_k X1958 q d0_240 (own_il X1958 q d0_241 rfl ?_))
  refine own_cst X1958 q hZ e1958 V1958 d0_243 (by decide) (Nat.le_of_ble_eq_true rfl) N1958 g_b1950 fun T1960 h1960 X1960 e1960 W1960 V1960 N1960 => ?_
  have ch1961 := CHr.wr W1960 (Safe.arv hZ.alike V1958 (by decide)) ch1959.1
  have cr1961 := CHr.trans cr1959 ch1961
  have zs1961 := Nat.le_trans zs1959 (Keep.of_wr W1960).1
  have hk1961 := Nat.le_trans hk1959 (Keep.of_wr W1960).1
  have od1961 := od1959.wr W1960 g_b1950
  refine own_as X1960 q d0_244 rfl (l' := #[.val (.int p1), .val (.int p2), .val (.long p3), .second, .val (.long p4), .second, .val v'5, .val (.int z1825), .val (.int z1826), .val (.int z1827), .val (.int z1828), .val (.int z1829), .val (.int z1830), .val (.int z1831), .val (.ref b1950), .unset, .unset, .unset, .unset]) rfl (own_gt X1960 q d0_246 ?_)
  refine own_let ?_; intro g1962_
  obtain ⟨T1963, h1963, X1963, e1963, E1963, A1963, D1963, -, st1963⟩ := newO X1960 hx hZ hown (W 12 rfl) (W 13 rfl) (W 14 rfl) e1960 (g := g1962_) rfl (q.d d0_337) (by decide) (by decide)
  obtain ⟨b1963, g1963⟩ : ∃ z, z = h1960.size := ⟨_, rfl⟩
  rw [← g1963] at A1963 D1963 st1963
  have ch1964 := CHr.ext E1963 ch1961.1
  have cr1964 := CHr.trans cr1961 ch1964
  have zs1964 := Nat.le_trans zs1961 E1963.1
  have hk1964 := Nat.le_trans hk1961 E1963.1
  have od1964 := od1961.ext E1963
  have g_b1963 : n0 ≤ b1963 := Nat.le_trans zs1961 (Nat.le_of_eq g1963.symm)
  have sf_b1963 := Safe.ext E1963 ch1961.1 (Safe.new (Nat.le_of_eq g1963.symm))
  have F1963_value : F'1 Z h1963 b1963 .null := D1963 (Or.inr (W 27 rfl)) (ty := (.array .byte)) (by decide)
  have F1963_coder : F'0 Z h1963 b1963 v'0 := D1963 (Or.inr (W 28 rfl)) (ty := .byte) (by decide)
  refine own_stq 340 [(.ref b1963)] st1963 (own_dp X1963 q d0_340 rfl (own_al X1963 q d0_341 rfl rfl ?_))
  refine own_cIh (a := b1963) X1963 q hZ e1963 hown hml (W 15 rfl) (W 16 rfl) (W 14 rfl) (W 17 rfl) (rm4_5 l Z a0 hw b1963 b1950 k1950 (nar .char z1825) (nar .char z1826) (nar .char z1827) (nar .char z1828) (nar .char z1829) cs0 h1963 n0 zs1964 A1963 F1963_value F1963_coder (V1960.ext E1963) g_b1963 (Ne.symm (own_ne (V1960).lt (Nat.le_of_eq g1963.symm))) od1964 ⟨SCS, hcs⟩ ⟨SAD, SHI, SLO⟩ (own_nc16 _) (own_nc16 _) (own_nc16 _) (own_nc16 _) (own_nc16 _)) d0_343 [(.ref b1950)] [(.ref b1963)] own_pd13 rfl rfl 1 (Nat.le_refl _) rfl (by decide) (fun v1965 T1965 L1965 h1965 e1965' X1965 hQ1965 => ?_)
  obtain ⟨t1965, k1965, rfl, N1965q, K1965, lo1965, Fv1965, D1965⟩ := hQ1965
  have N1965 := Fr.app N1960 N1965q
  have ch1966 := CHr.keep K1965 (sfS sf_b1963 sf0) ch1964.1
  have cr1966 := CHr.trans cr1964 ch1966
  have sf1966_b1963 := Safe.keep K1965 (sfS sf_b1963 sf0) ch1964.1 sf_b1963
  have zs1966 := Nat.le_trans zs1964 K1965.1
  have hk1966 := Nat.le_trans hk1964 K1965.1
  have od1966 := od1964.keep K1965 (allS g_b1963 all0)
  have g_t1965 : n0 ≤ t1965 := Nat.le_trans zs1964 lo1965
  refine own_nn ?_
  rcases D1965 with ⟨Fc, hA, hV⟩ | ⟨Fc, hA, hV⟩
  ·have hA_ := hA
   show own_Fin _ _ _ _ (T1965.setTop (mkF m 346 #[.val (.int p1), .val (.int p2), .val (.long p3), .second, .val (.long p4), .second, .val v'5, .val (.int z1825), .val (.int z1826), .val (.int z1827), .val (.int z1828), .val (.int z1829), .val (.int z1830), .val (.int z1831), .val (.ref b1950), .unset, .unset, .unset, .unset] [(.ref b1963)]))
   refine own_as X1965 q d0_346 rfl (l' := #[.val (.int p1), .val (.int p2), .val (.long p3), .second, .val (.long p4), .second, .val v'5, .val (.int z1825), .val (.int z1826), .val (.int z1827), .val (.int z1828), .val (.int z1829), .val (.int z1830), .val (.int z1831), .val (.ref b1950), .val (.ref b1963), .unset, .unset, .unset]) rfl (own_il X1965 q d0_348 rfl (own_k X1965 q d0_350 (own_cy X1965 q d0_351 ((feq ((by decide) : ¬ ((5 : Int32) = (2 : Int32)))).2) (own_k X1965 q d0_372 (own_is X1965 q d0_373 (l' := #[.val (.int p1), .val (.int p2), .val (.long p3), .second, .val (.long p4), .second, .val v'5, .val (.int z1825), .val (.int z1826), .val (.int z1827), .val (.int z1828), .val (.int z1829), .val (.int z1830), .val (.int z1831), .val (.ref b1950), .val (.ref b1963), .val v'0, .unset, .unset]) rfl (own_il X1965 q d0_375 rfl (own_k X1965 q d0_377 (own_cy X1965 q d0_379 ((feq ((by decide) : ¬ ((5 : Int32) = (6 : Int32)))).2) (own_k X1965 q d0_428 (own_is X1965 q d0_429 (l' := #[.val (.int p1), .val (.int p2), .val (.long p3), .second, .val (.long p4), .second, .val v'5, .val (.int z1825), .val (.int z1826), .val (.int z1827), .val (.int z1828), .val (.int z1829), .val (.int z1830), .val (.int z1831), .val (.ref b1950), .val (.ref b1963), .val v'0, .val v'0, .unset]) rfl (own_il X1965 q d0_431 rfl ?_)))))))))))
   refine own_zn X1965 q d0_433 (((if0 _ _).trans (teq (rfl : (0 : Int32) = (0 : Int32))).2)) (own_il X1965 q d0_436 rfl (own_zy X1965 q d0_438 (((if0 _ _).trans (teq (rfl : (0 : Int32) = (0 : Int32))).1)) (own_k X1965 q d0_445 (own_is X1965 q d0_446 (l' := #[.val (.int p1), .val (.int p2), .val (.long p3), .second, .val (.long p4), .second, .val v'5, .val (.int z1825), .val (.int z1826), .val (.int z1827), .val (.int z1828), .val (.int z1829), .val (.int z1830), .val (.int z1831), .val (.ref b1950), .val (.ref b1963), .val v'0, .val v'0, .val v'0]) rfl (own_al X1965 q d0_448 rfl rfl ?_)))))
   refine own_let ?_; intro g1968_
   obtain ⟨_, _, ⟨T1967, L1967, k1967, n1967⟩, -, X1967, hS1967, hG1967, ⟨Lc1967, hQ1967, l1967, y1967, z1967, cH1967⟩, st1967⟩ := Jvm.RoadKit.callSS X1965 hx (y := own_y15) hown (mvT hZ (W 33 rfl)) (mvT hZ (W 34 rfl)) (mvT hZ (W 35 rfl)) (mvT hZ (W 36 rfl)) (by decide) (own_backHS (W := 0) (rm7_5 l Z a0 hw [] b1963 t1965 k1965 (nar .byte ((nar .char z1825).toInt8.toInt32)) (nar .byte ((nar .char z1826).toInt8.toInt32)) (nar .byte ((nar .char z1827).toInt8.toInt32)) (nar .byte ((nar .char z1828).toInt8.toInt32)) (nar .byte ((nar .char z1829).toInt8.toInt32)) cs0 h1965 n0 zs1966 (A1963.keep K1965) Fc Fv1965 hV od1966 ⟨SCS, hcs⟩ hEL) hZ (W 36 rfl) (W 35 rfl) (by decide) (by decide) hEL ch1966.1 (ss := [b1963]) (allS ⟨((A1963.keep K1965)).lt, sf1966_b1963⟩ all0)) (g := g1968_) rfl (by rw [hml]; rfl) (argsL := [(.ref b1963)]) (rest := []) (lenOf own_pd14 rfl) rfl (by show 2 * 0 + _ ≤ _; exact Nat.le_of_eq rfl) (q.d d0_450) (fun _ _ => ⟨rfl, e1965', (by decide : 4 + 4 ≤ _), (by decide : 24 + 40 ≤ _)⟩)
   dsimp only [Pt.U, Pt.locs, Pt.cells, Pt.slots] at X1967 l1967 y1967 z1967 st1967 hQ1967
   rw [l1967, y1967, z1967] at X1967
   clear l1967 y1967 z1967
   have X1967 : Stand p l e _ (s.setVm T1967.vm) m _ below meth c T1967 _ _ _ := X1967
   have hZ1967 : Z.Warmed39 (s.setVm T1967.vm).vm := State.Warmed39.trans hZ hS1967.1
   have hown : (s.setVm T1967.vm).vm.findClass "com/example/ballast_ledger/ballastledger/cli/HelpIsAskedPinLaw" = some m.cls := by show T1967.vm.findClass _ = _; rw [hS1967.1.alike.findClass]; exact hown
   have hZ := hZ1967
   have hS1967 := State.Since.trans hS0 hS1967 (Nat.le_trans hk1966 (by rw [← e1965']; exact hG1967))
   obtain ⟨z1967, rfl, N1967q, E1967, hP1967⟩ := hQ1967
   have N1967 := Fr.app N1965 N1967q
   obtain ⟨h1967, e1967⟩ : ∃ z, z = T1967.heap := ⟨_, rfl⟩
   have e1967' := e1967.symm
   rw [← e1967] at E1967
   rw [e1967'] at hS1967
   have hkc1967 : h1967.size ≤ h1967.size := Nat.le_refl _
   have zs1969 := Nat.le_trans zs1966 E1967.1
   have hk1969 := Nat.le_trans hk1966 E1967.1
   have od1969 := od1966.ext E1967
   rw [e1967'] at cH1967
   have cr1967 := CHr.trans cr1966 cH1967
   have sf1967_b1963 := cH1967.safe ((A1963.keep K1965)).lt sf1966_b1963
   refine own_stp 453 (fun _ k => st1967.trans k) (own_nv (own_il X1967 q d0_453 rfl ?_))
   have hE1970 : z1967 = (0 : Int32) := by
    rcases hP1967 with ⟨hq, r⟩ | ⟨hq, r⟩
    ·exfalso
     simp at r
    ·exact hq
   refine own_cn X1967 q d0_455 ((teq (hE1970 : z1967 = (0 : Int32))).2) (own_k X1967 q d0_458 (own_gt X1967 q d0_459 ?_))
   refine own_retNW X1967 hS1967 (by rw [e1967']; exact hkc1967) hx (t := .boolean) Bd.returns (by simp) (q.d d0_463) hlk ?_ (by decide) (by decide)
   exact ⟨rfl, N1967⟩
  ·have hA_ := hA
   show own_Fin _ _ _ _ (T1965.setTop (mkF m 346 #[.val (.int p1), .val (.int p2), .val (.long p3), .second, .val (.long p4), .second, .val v'5, .val (.int z1825), .val (.int z1826), .val (.int z1827), .val (.int z1828), .val (.int z1829), .val (.int z1830), .val (.int z1831), .val (.ref b1950), .unset, .unset, .unset, .unset] [(.ref b1963)]))
   refine own_as X1965 q d0_346 rfl (l' := #[.val (.int p1), .val (.int p2), .val (.long p3), .second, .val (.long p4), .second, .val v'5, .val (.int z1825), .val (.int z1826), .val (.int z1827), .val (.int z1828), .val (.int z1829), .val (.int z1830), .val (.int z1831), .val (.ref b1950), .val (.ref b1963), .unset, .unset, .unset]) rfl (own_il X1965 q d0_348 rfl (own_k X1965 q d0_350 (own_cy X1965 q d0_351 ((feq ((by decide) : ¬ ((5 : Int32) = (2 : Int32)))).2) (own_k X1965 q d0_372 (own_is X1965 q d0_373 (l' := #[.val (.int p1), .val (.int p2), .val (.long p3), .second, .val (.long p4), .second, .val v'5, .val (.int z1825), .val (.int z1826), .val (.int z1827), .val (.int z1828), .val (.int z1829), .val (.int z1830), .val (.int z1831), .val (.ref b1950), .val (.ref b1963), .val v'0, .unset, .unset]) rfl (own_il X1965 q d0_375 rfl (own_k X1965 q d0_377 (own_cy X1965 q d0_379 ((feq ((by decide) : ¬ ((5 : Int32) = (6 : Int32)))).2) (own_k X1965 q d0_428 (own_is X1965 q d0_429 (l' := #[.val (.int p1), .val (.int p2), .val (.long p3), .second, .val (.long p4), .second, .val v'5, .val (.int z1825), .val (.int z1826), .val (.int z1827), .val (.int z1828), .val (.int z1829), .val (.int z1830), .val (.int z1831), .val (.ref b1950), .val (.ref b1963), .val v'0, .val v'0, .unset]) rfl (own_il X1965 q d0_431 rfl ?_)))))))))))
   refine own_zn X1965 q d0_433 (((if0 _ _).trans (teq (rfl : (0 : Int32) = (0 : Int32))).2)) (own_il X1965 q d0_436 rfl (own_zy X1965 q d0_438 (((if0 _ _).trans (teq (rfl : (0 : Int32) = (0 : Int32))).1)) (own_k X1965 q d0_445 (own_is X1965 q d0_446 (l' := #[.val (.int p1), .val (.int p2), .val (.long p3), .second, .val (.long p4), .second, .val v'5, .val (.int z1825), .val (.int z1826), .val (.int z1827), .val (.int z1828), .val (.int z1829), .val (.int z1830), .val (.int z1831), .val (.ref b1950), .val (.ref b1963), .val v'0, .val v'0, .val v'0]) rfl (own_al X1965 q d0_448 rfl rfl ?_)))))
   refine own_let ?_; intro g1972_
   obtain ⟨_, _, ⟨T1971, L1971, k1971, n1971⟩, -, X1971, hS1971, hG1971, ⟨Lc1971, hQ1971, l1971, y1971, z1971, cH1971⟩, st1971⟩ := Jvm.RoadKit.callSS X1965 hx (y := own_y15) hown (mvT hZ (W 33 rfl)) (mvT hZ (W 34 rfl)) (mvT hZ (W 35 rfl)) (mvT hZ (W 36 rfl)) (by decide) (own_backHS (W := 0) (rm7_u l Z a0 hw [] b1963 t1965   cs0 h1965 n0 zs1966 (A1963.keep K1965) Fc Fv1965  od1966 ⟨SCS, hcs⟩ hEL) hZ (W 36 rfl) (W 35 rfl) (by decide) (by decide) hEL ch1966.1 (ss := [b1963]) (allS ⟨((A1963.keep K1965)).lt, sf1966_b1963⟩ all0)) (g := g1972_) rfl (by rw [hml]; rfl) (argsL := [(.ref b1963)]) (rest := []) (lenOf own_pd14 rfl) rfl (by show 2 * 0 + _ ≤ _; exact Nat.le_of_eq rfl) (q.d d0_450) (fun _ _ => ⟨rfl, e1965', (by decide : 4 + 4 ≤ _), (by decide : 24 + 40 ≤ _)⟩)
   dsimp only [Pt.U, Pt.locs, Pt.cells, Pt.slots] at X1971 l1971 y1971 z1971 st1971 hQ1971
   rw [l1971, y1971, z1971] at X1971
   clear l1971 y1971 z1971
   have X1971 : Stand p l e _ (s.setVm T1971.vm) m _ below meth c T1971 _ _ _ := X1971
   have hZ1971 : Z.Warmed39 (s.setVm T1971.vm).vm := State.Warmed39.trans hZ hS1971.1
   have hown : (s.setVm T1971.vm).vm.findClass "com/example/ballast_ledger/ballastledger/cli/HelpIsAskedPinLaw" = some m.cls := by show T1971.vm.findClass _ = _; rw [hS1971.1.alike.findClass]; exact hown
   have hZ := hZ1971
   have hS1971 := State.Since.trans hS0 hS1971 (Nat.le_trans hk1966 (by rw [← e1965']; exact hG1971))
   obtain ⟨z1971, rfl, N1971q, E1971, hP1971⟩ := hQ1971
   have N1971 := Fr.app N1965 N1971q
   obtain ⟨h1971, e1971⟩ : ∃ z, z = T1971.heap := ⟨_, rfl⟩
   have e1971' := e1971.symm
   rw [← e1971] at E1971
   rw [e1971'] at hS1971
   have hkc1971 : h1971.size ≤ h1971.size := Nat.le_refl _
   have zs1973 := Nat.le_trans zs1966 E1971.1
   have hk1973 := Nat.le_trans hk1966 E1971.1
   have od1973 := od1966.ext E1971
   rw [e1971'] at cH1971
   have cr1971 := CHr.trans cr1966 cH1971
   have sf1971_b1963 := cH1971.safe ((A1963.keep K1965)).lt sf1966_b1963
   refine own_stp 453 (fun _ k => st1971.trans k) (own_nv (own_il X1971 q d0_453 rfl ?_))
   have hE1974 : z1971 = (0 : Int32) := by
    rcases hP1971 with ⟨hq, r⟩ | ⟨hq, r⟩
    ·exact r.elim
    ·exact hq
   refine own_cn X1971 q d0_455 ((teq (hE1974 : z1971 = (0 : Int32))).2) (own_k X1971 q d0_458 (own_gt X1971 q d0_459 ?_))
   refine own_retNW X1971 hS1971 (by rw [e1971']; exact hkc1971) hx (t := .boolean) Bd.returns (by simp) (q.d d0_463) hlk ?_ (by decide) (by decide)
   exact ⟨rfl, N1971⟩
 ·rw [hl]
  show own_Fin _ _ _ _ (T1831.setTop (mkF m 91 #[.val (.int p1), .val (.int p2), .val (.long p3), .second, .val (.long p4), .second, .val v'6, .val (.int z1825), .val (.int z1826), .val (.int z1827), .val (.int z1828), .val (.int z1829), .val (.int z1830), .val (.int z1831), .unset, .unset, .unset, .unset, .unset] []))
  refine own_il X1831 q d0_91 rfl (own_zy X1831 q d0_93 (((if0 _ _).trans (feq ((by decide) : ¬ ((6 : Int32) = (0 : Int32)))).2)) (own_il X1831 q d0_104 rfl (own_k X1831 q d0_106 (own_cy X1831 q d0_107 ((feq ((by decide) : ¬ ((6 : Int32) = (1 : Int32)))).2) (own_il X1831 q d0_123 rfl (own_k X1831 q d0_125 (own_cy X1831 q d0_126 ((feq ((by decide) : ¬ ((6 : Int32) = (2 : Int32)))).2) (own_il X1831 q d0_147 rfl (own_k X1831 q d0_149 (own_cy X1831 q d0_150 ((feq ((by decide) : ¬ ((6 : Int32) = (3 : Int32)))).2) (own_il X1831 q d0_176 rfl ?_)))))))))))
  refine own_k X1831 q d0_178 (own_cy X1831 q d0_179 ((feq ((by decide) : ¬ ((6 : Int32) = (4 : Int32)))).2) (own_il X1831 q d0_210 rfl (own_k X1831 q d0_212 (own_cy X1831 q d0_213 ((feq ((by decide) : ¬ ((6 : Int32) = (5 : Int32)))).2) (own_il X1831 q d0_249 rfl (own_k X1831 q d0_251 (own_cn X1831 q d0_253 ((teq (rfl : (6 : Int32) = (6 : Int32))).2) (own_k X1831 q d0_256 ?_))))))))
  refine own_let ?_; intro g1975_
  obtain ⟨T1976, h1976, k1976, X1976, e1976, E1976, A1976, st1976⟩ := newP X1831 hx hZ (W 11 rfl) e1831 (g := g1975_) rfl (q.d d0_258) rfl (by decide) (cap := 6) (by decide) (by decide) (by decide) (by decide)
  obtain ⟨b1976, g1976⟩ : ∃ z, z = h0.size := ⟨_, rfl⟩
  rw [← g1976] at A1976 st1976
  have V1976 : Arv Z h1976 b1976 k1976 .char (6 : Int32) [v'0, v'0, v'0, v'0, v'0, v'0] v'0 := (Arv.new A1976 (by decide)).pad (pad_rep [] v'0 6)
  have ch1977 := CHr.ext E1976 hCH
  have cr1977 := CHr.trans hCR ch1977
  have zs1977 := Nat.le_trans Z0 E1976.1
  have hk1977 := Nat.le_trans hk0 E1976.1
  have od1977 := O0.ext E1976
  have g_b1976 : n0 ≤ b1976 := Nat.le_trans Z0 (Nat.le_of_eq g1976.symm)
  refine own_stp 260 st1976 (own_dp X1976 q d0_260 rfl (own_k X1976 q d0_261 (own_il X1976 q d0_262 rfl ?_)))
  refine own_cst X1976 q hZ e1976 V1976 d0_264 (by decide) (Nat.le_of_ble_eq_true rfl) N1831 g_b1976 fun T1978 h1978 X1978 e1978 W1978 V1978 N1978 => ?_
  have ch1979 := CHr.wr W1978 (Safe.arv hZ.alike V1976 (by decide)) ch1977.1
  have cr1979 := CHr.trans cr1977 ch1979
  have zs1979 := Nat.le_trans zs1977 (Keep.of_wr W1978).1
  have hk1979 := Nat.le_trans hk1977 (Keep.of_wr W1978).1
  have od1979 := od1977.wr W1978 g_b1976
  refine own_dp X1978 q d0_265 rfl (own_k X1978 q d0_266 (own_il X1978 q d0_267 rfl ?_))
  refine own_cst X1978 q hZ e1978 V1978 d0_269 (by decide) (Nat.le_of_ble_eq_true rfl) N1978 g_b1976 fun T1980 h1980 X1980 e1980 W1980 V1980 N1980 => ?_
  have ch1981 := CHr.wr W1980 (Safe.arv hZ.alike V1978 (by decide)) ch1979.1
  have cr1981 := CHr.trans cr1979 ch1981
  have zs1981 := Nat.le_trans zs1979 (Keep.of_wr W1980).1
  have hk1981 := Nat.le_trans hk1979 (Keep.of_wr W1980).1
  have od1981 := od1979.wr W1980 g_b1976
  refine own_dp X1980 q d0_270 rfl (own_k X1980 q d0_271 (own_il X1980 q d0_272 rfl ?_))
  refine own_cst X1980 q hZ e1980 V1980 d0_274 (by decide) (Nat.le_of_ble_eq_true rfl) N1980 g_b1976 fun T1982 h1982 X1982 e1982 W1982 V1982 N1982 => ?_
  have ch1983 := CHr.wr W1982 (Safe.arv hZ.alike V1980 (by decide)) ch1981.1
  have cr1983 := CHr.trans cr1981 ch1983
  have zs1983 := Nat.le_trans zs1981 (Keep.of_wr W1982).1
  have hk1983 := Nat.le_trans hk1981 (Keep.of_wr W1982).1
  have od1983 := od1981.wr W1982 g_b1976
  refine own_dp X1982 q d0_275 rfl (own_k X1982 q d0_276 (own_il X1982 q d0_277 rfl ?_))
  refine own_cst X1982 q hZ e1982 V1982 d0_279 (by decide) (Nat.le_of_ble_eq_true rfl) N1982 g_b1976 fun T1984 h1984 X1984 e1984 W1984 V1984 N1984 => ?_
  have ch1985 := CHr.wr W1984 (Safe.arv hZ.alike V1982 (by decide)) ch1983.1
  have cr1985 := CHr.trans cr1983 ch1985
  have zs1985 := Nat.le_trans zs1983 (Keep.of_wr W1984).1
  have hk1985 := Nat.le_trans hk1983 (Keep.of_wr W1984).1
  have od1985 := od1983.wr W1984 g_b1976
  refine own_dp X1984 q d0_280 rfl (own_k X1984 q d0_281 (own_il X1984 q d0_282 rfl ?_))
  refine own_cst X1984 q hZ e1984 V1984 d0_284 (by decide) (Nat.le_of_ble_eq_true rfl) N1984 g_b1976 fun T1986 h1986 X1986 e1986 W1986 V1986 N1986 => ?_
  have ch1987 := CHr.wr W1986 (Safe.arv hZ.alike V1984 (by decide)) ch1985.1
  have cr1987 := CHr.trans cr1985 ch1987
  have zs1987 := Nat.le_trans zs1985 (Keep.of_wr W1986).1
  have hk1987 := Nat.le_trans hk1985 (Keep.of_wr W1986).1
  have od1987 := od1985.wr W1986 g_b1976
  refine own_dp X1986 q d0_285 rfl (own_k X1986 q d0_286 (own_il X1986 q d0_287 rfl ?_))
  refine own_cst X1986 q hZ e1986 V1986 d0_289 (by decide) (Nat.le_of_ble_eq_true rfl) N1986 g_b1976 fun T1988 h1988 X1988 e1988 W1988 V1988 N1988 => ?_
  have ch1989 := CHr.wr W1988 (Safe.arv hZ.alike V1986 (by decide)) ch1987.1
  have cr1989 := CHr.trans cr1987 ch1989
  have zs1989 := Nat.le_trans zs1987 (Keep.of_wr W1988).1
  have hk1989 := Nat.le_trans hk1987 (Keep.of_wr W1988).1
  have od1989 := od1987.wr W1988 g_b1976
  refine own_as X1988 q d0_290 rfl (l' := #[.val (.int p1), .val (.int p2), .val (.long p3), .second, .val (.long p4), .second, .val v'6, .val (.int z1825), .val (.int z1826), .val (.int z1827), .val (.int z1828), .val (.int z1829), .val (.int z1830), .val (.int z1831), .val (.ref b1976), .unset, .unset, .unset, .unset]) rfl (own_gt X1988 q d0_292 ?_)
  refine own_let ?_; intro g1990_
  obtain ⟨T1991, h1991, X1991, e1991, E1991, A1991, D1991, -, st1991⟩ := newO X1988 hx hZ hown (W 12 rfl) (W 13 rfl) (W 14 rfl) e1988 (g := g1990_) rfl (q.d d0_337) (by decide) (by decide)
  obtain ⟨b1991, g1991⟩ : ∃ z, z = h1988.size := ⟨_, rfl⟩
  rw [← g1991] at A1991 D1991 st1991
  have ch1992 := CHr.ext E1991 ch1989.1
  have cr1992 := CHr.trans cr1989 ch1992
  have zs1992 := Nat.le_trans zs1989 E1991.1
  have hk1992 := Nat.le_trans hk1989 E1991.1
  have od1992 := od1989.ext E1991
  have g_b1991 : n0 ≤ b1991 := Nat.le_trans zs1989 (Nat.le_of_eq g1991.symm)
  have sf_b1991 := Safe.ext E1991 ch1989.1 (Safe.new (Nat.le_of_eq g1991.symm))
  have F1991_value : F'1 Z h1991 b1991 .null := D1991 (Or.inr (W 27 rfl)) (ty := (.array .byte)) (by decide)
  have F1991_coder : F'0 Z h1991 b1991 v'0 := D1991 (Or.inr (W 28 rfl)) (ty := .byte) (by decide)
  refine own_stq 340 [(.ref b1991)] st1991 (own_dp X1991 q d0_340 rfl (own_al X1991 q d0_341 rfl rfl ?_))
  refine own_cIh (a := b1991) X1991 q hZ e1991 hown hml (W 15 rfl) (W 16 rfl) (W 14 rfl) (W 17 rfl) (rm4_6 l Z a0 hw b1991 b1976 k1976 (nar .char z1825) (nar .char z1826) (nar .char z1827) (nar .char z1828) (nar .char z1829) (nar .char z1830) cs0 h1991 n0 zs1992 A1991 F1991_value F1991_coder (V1988.ext E1991) g_b1991 (Ne.symm (own_ne (V1988).lt (Nat.le_of_eq g1991.symm))) od1992 ⟨SCS, hcs⟩ ⟨SAD, SHI, SLO⟩ (own_nc16 _) (own_nc16 _) (own_nc16 _) (own_nc16 _) (own_nc16 _) (own_nc16 _)) d0_343 [(.ref b1976)] [(.ref b1991)] own_pd13 rfl rfl 1 (Nat.le_refl _) rfl (by decide) (fun v1993 T1993 L1993 h1993 e1993' X1993 hQ1993 => ?_)
  obtain ⟨t1993, k1993, rfl, N1993q, K1993, lo1993, Fv1993, D1993⟩ := hQ1993
  have N1993 := Fr.app N1988 N1993q
  have ch1994 := CHr.keep K1993 (sfS sf_b1991 sf0) ch1992.1
  have cr1994 := CHr.trans cr1992 ch1994
  have sf1994_b1991 := Safe.keep K1993 (sfS sf_b1991 sf0) ch1992.1 sf_b1991
  have zs1994 := Nat.le_trans zs1992 K1993.1
  have hk1994 := Nat.le_trans hk1992 K1993.1
  have od1994 := od1992.keep K1993 (allS g_b1991 all0)
  have g_t1993 : n0 ≤ t1993 := Nat.le_trans zs1992 lo1993
  refine own_nn ?_
  rcases D1993 with ⟨Fc, hA, hV⟩ | ⟨Fc, hA, hV⟩
  ·have hA_ := hA
   show own_Fin _ _ _ _ (T1993.setTop (mkF m 346 #[.val (.int p1), .val (.int p2), .val (.long p3), .second, .val (.long p4), .second, .val v'6, .val (.int z1825), .val (.int z1826), .val (.int z1827), .val (.int z1828), .val (.int z1829), .val (.int z1830), .val (.int z1831), .val (.ref b1976), .unset, .unset, .unset, .unset] [(.ref b1991)]))
   refine own_as X1993 q d0_346 rfl (l' := #[.val (.int p1), .val (.int p2), .val (.long p3), .second, .val (.long p4), .second, .val v'6, .val (.int z1825), .val (.int z1826), .val (.int z1827), .val (.int z1828), .val (.int z1829), .val (.int z1830), .val (.int z1831), .val (.ref b1976), .val (.ref b1991), .unset, .unset, .unset]) rfl (own_il X1993 q d0_348 rfl (own_k X1993 q d0_350 (own_cy X1993 q d0_351 ((feq ((by decide) : ¬ ((6 : Int32) = (2 : Int32)))).2) (own_k X1993 q d0_372 (own_is X1993 q d0_373 (l' := #[.val (.int p1), .val (.int p2), .val (.long p3), .second, .val (.long p4), .second, .val v'6, .val (.int z1825), .val (.int z1826), .val (.int z1827), .val (.int z1828), .val (.int z1829), .val (.int z1830), .val (.int z1831), .val (.ref b1976), .val (.ref b1991), .val v'0, .unset, .unset]) rfl (own_il X1993 q d0_375 rfl (own_k X1993 q d0_377 (own_cn X1993 q d0_379 ((teq (rfl : (6 : Int32) = (6 : Int32))).2) (own_il X1993 q d0_382 rfl (own_k X1993 q d0_384 ?_))))))))))
   by_cases hc386_1995 : z1825 = (45 : Int32)
   ·refine own_cn X1993 q d0_386 ((teq hc386_1995).2) (own_il X1993 q d0_389 rfl (own_k X1993 q d0_391 ?_))
    by_cases hc393_1996 : z1826 = (45 : Int32)
    ·refine own_cn X1993 q d0_393 ((teq hc393_1996).2) (own_il X1993 q d0_396 rfl (own_k X1993 q d0_398 ?_))
     by_cases hc400_1997 : z1827 = (104 : Int32)
     ·refine own_cn X1993 q d0_400 ((teq hc400_1997).2) (own_il X1993 q d0_403 rfl (own_k X1993 q d0_405 ?_))
      by_cases hc407_1998 : z1828 = (101 : Int32)
      ·refine own_cn X1993 q d0_407 ((teq hc407_1998).2) (own_il X1993 q d0_410 rfl (own_k X1993 q d0_412 ?_))
       by_cases hc414_1999 : z1829 = (108 : Int32)
       ·refine own_cn X1993 q d0_414 ((teq hc414_1999).2) (own_il X1993 q d0_417 rfl (own_k X1993 q d0_419 ?_))
        by_cases hc421_2000 : z1830 = (112 : Int32)
        ·refine own_cn X1993 q d0_421 ((teq hc421_2000).2) (own_k X1993 q d0_424 (own_gt X1993 q d0_425 (own_is X1993 q d0_429 (l' := #[.val (.int p1), .val (.int p2), .val (.long p3), .second, .val (.long p4), .second, .val v'6, .val (.int z1825), .val (.int z1826), .val (.int z1827), .val (.int z1828), .val (.int z1829), .val (.int z1830), .val (.int z1831), .val (.ref b1976), .val (.ref b1991), .val v'0, .val v'1, .unset]) rfl (own_il X1993 q d0_431 rfl (own_zn X1993 q d0_433 (((if0 _ _).trans (teq (rfl : (0 : Int32) = (0 : Int32))).2)) (own_il X1993 q d0_436 rfl (own_zn X1993 q d0_438 (((if0 _ _).trans (feq ((by decide) : ¬ ((1 : Int32) = (0 : Int32)))).1)) (own_k X1993 q d0_441 (own_gt X1993 q d0_442 (own_is X1993 q d0_446 (l' := #[.val (.int p1), .val (.int p2), .val (.long p3), .second, .val (.long p4), .second, .val v'6, .val (.int z1825), .val (.int z1826), .val (.int z1827), .val (.int z1828), .val (.int z1829), .val (.int z1830), .val (.int z1831), .val (.ref b1976), .val (.ref b1991), .val v'0, .val v'1, .val v'1]) rfl (own_al X1993 q d0_448 rfl rfl ?_)))))))))))
         refine own_let ?_; intro g2002_
         obtain ⟨_, _, ⟨T2001, L2001, k2001, n2001⟩, -, X2001, hS2001, hG2001, ⟨Lc2001, hQ2001, l2001, y2001, z2001, cH2001⟩, st2001⟩ := Jvm.RoadKit.callSS X1993 hx (y := own_y15) hown (mvT hZ (W 33 rfl)) (mvT hZ (W 34 rfl)) (mvT hZ (W 35 rfl)) (mvT hZ (W 36 rfl)) (by decide) (own_backHS (W := 0) (rm7_6 l Z a0 hw [] b1991 t1993 k1993 (nar .byte ((nar .char z1825).toInt8.toInt32)) (nar .byte ((nar .char z1826).toInt8.toInt32)) (nar .byte ((nar .char z1827).toInt8.toInt32)) (nar .byte ((nar .char z1828).toInt8.toInt32)) (nar .byte ((nar .char z1829).toInt8.toInt32)) (nar .byte ((nar .char z1830).toInt8.toInt32)) cs0 h1993 n0 zs1994 (A1991.keep K1993) Fc Fv1993 hV od1994 ⟨SCS, hcs⟩ hEL) hZ (W 36 rfl) (W 35 rfl) (by decide) (by decide) hEL ch1994.1 (ss := [b1991]) (allS ⟨((A1991.keep K1993)).lt, sf1994_b1991⟩ all0)) (g := g2002_) rfl (by rw [hml]; rfl) (argsL := [(.ref b1991)]) (rest := []) (lenOf own_pd14 rfl) rfl (by show 2 * 0 + _ ≤ _; exact Nat.le_of_eq rfl) (q.d d0_450) (fun _ _ => ⟨rfl, e1993', (by decide : 4 + 4 ≤ _), (by decide : 28 + 40 ≤ _)⟩)
         dsimp only [Pt.U, Pt.locs, Pt.cells, Pt.slots] at X2001 l2001 y2001 z2001 st2001 hQ2001
         rw [l2001, y2001, z2001] at X2001
         clear l2001 y2001 z2001
         have X2001 : Stand p l e _ (s.setVm T2001.vm) m _ below meth c T2001 _ _ _ := X2001
         have hZ2001 : Z.Warmed39 (s.setVm T2001.vm).vm := State.Warmed39.trans hZ hS2001.1
         have hown : (s.setVm T2001.vm).vm.findClass "com/example/ballast_ledger/ballastledger/cli/HelpIsAskedPinLaw" = some m.cls := by show T2001.vm.findClass _ = _; rw [hS2001.1.alike.findClass]; exact hown
         have hZ := hZ2001
         have hS2001 := State.Since.trans hS0 hS2001 (Nat.le_trans hk1994 (by rw [← e1993']; exact hG2001))
         obtain ⟨z2001, rfl, N2001q, E2001, hP2001⟩ := hQ2001
         have N2001 := Fr.app N1993 N2001q
         obtain ⟨h2001, e2001⟩ : ∃ z, z = T2001.heap := ⟨_, rfl⟩
         have e2001' := e2001.symm
         rw [← e2001] at E2001
         rw [e2001'] at hS2001
         have hkc2001 : h2001.size ≤ h2001.size := Nat.le_refl _
         have zs2003 := Nat.le_trans zs1994 E2001.1
         have hk2003 := Nat.le_trans hk1994 E2001.1
         have od2003 := od1994.ext E2001
         rw [e2001'] at cH2001
         have cr2001 := CHr.trans cr1994 cH2001
         have sf2001_b1991 := cH2001.safe ((A1991.keep K1993)).lt sf1994_b1991
         refine own_stp 453 (fun _ k => st2001.trans k) (own_nv (own_il X2001 q d0_453 rfl ?_))
         have hE2004 : z2001 = (1 : Int32) := by
          rcases hP2001 with ⟨hq, r⟩ | ⟨hq, r⟩
          ·exact hq
          ·exfalso
           apply r
           exact Or.inr (by rw [(own_bE hz1825 hA.1 (k := (45 : Int32)) (by decide)).mpr hc386_1995, (own_bE hz1826 hA.2.1 (k := (45 : Int32)) (by decide)).mpr hc393_1996, (own_bE hz1827 hA.2.2.1 (k := (104 : Int32)) (by decide)).mpr hc400_1997, (own_bE hz1828 hA.2.2.2.1 (k := (101 : Int32)) (by decide)).mpr hc407_1998, (own_bE hz1829 hA.2.2.2.2.1 (k := (108 : Int32)) (by decide)).mpr hc414_1999, (own_bE hz1830 hA.2.2.2.2.2 (k := (112 : Int32)) (by decide)).mpr hc421_2000])
         refine own_cn X2001 q d0_455 ((teq (hE2004 : z2001 = (1 : Int32))).2) (own_k X2001 q d0_458 (own_gt X2001 q d0_459 ?_))
         refine own_retNW X2001 hS2001 (by rw [e2001']; exact hkc2001) hx (t := .boolean) Bd.returns (by simp) (q.d d0_463) hlk ?_ (by decide) (by decide)
         exact ⟨rfl, N2001⟩
        ·refine own_cy X1993 q d0_421 ((feq hc421_2000).2) (own_k X1993 q d0_428 (own_is X1993 q d0_429 (l' := #[.val (.int p1), .val (.int p2), .val (.long p3), .second, .val (.long p4), .second, .val v'6, .val (.int z1825), .val (.int z1826), .val (.int z1827), .val (.int z1828), .val (.int z1829), .val (.int z1830), .val (.int z1831), .val (.ref b1976), .val (.ref b1991), .val v'0, .val v'0, .unset]) rfl (own_il X1993 q d0_431 rfl (own_zn X1993 q d0_433 (((if0 _ _).trans (teq (rfl : (0 : Int32) = (0 : Int32))).2)) (own_il X1993 q d0_436 rfl (own_zy X1993 q d0_438 (((if0 _ _).trans (teq (rfl : (0 : Int32) = (0 : Int32))).1)) (own_k X1993 q d0_445 (own_is X1993 q d0_446 (l' := #[.val (.int p1), .val (.int p2), .val (.long p3), .second, .val (.long p4), .second, .val v'6, .val (.int z1825), .val (.int z1826), .val (.int z1827), .val (.int z1828), .val (.int z1829), .val (.int z1830), .val (.int z1831), .val (.ref b1976), .val (.ref b1991), .val v'0, .val v'0, .val v'0]) rfl (own_al X1993 q d0_448 rfl rfl ?_)))))))))
         refine own_let ?_; intro g2006_
         obtain ⟨_, _, ⟨T2005, L2005, k2005, n2005⟩, -, X2005, hS2005, hG2005, ⟨Lc2005, hQ2005, l2005, y2005, z2005, cH2005⟩, st2005⟩ := Jvm.RoadKit.callSS X1993 hx (y := own_y15) hown (mvT hZ (W 33 rfl)) (mvT hZ (W 34 rfl)) (mvT hZ (W 35 rfl)) (mvT hZ (W 36 rfl)) (by decide) (own_backHS (W := 0) (rm7_6 l Z a0 hw [] b1991 t1993 k1993 (nar .byte ((nar .char z1825).toInt8.toInt32)) (nar .byte ((nar .char z1826).toInt8.toInt32)) (nar .byte ((nar .char z1827).toInt8.toInt32)) (nar .byte ((nar .char z1828).toInt8.toInt32)) (nar .byte ((nar .char z1829).toInt8.toInt32)) (nar .byte ((nar .char z1830).toInt8.toInt32)) cs0 h1993 n0 zs1994 (A1991.keep K1993) Fc Fv1993 hV od1994 ⟨SCS, hcs⟩ hEL) hZ (W 36 rfl) (W 35 rfl) (by decide) (by decide) hEL ch1994.1 (ss := [b1991]) (allS ⟨((A1991.keep K1993)).lt, sf1994_b1991⟩ all0)) (g := g2006_) rfl (by rw [hml]; rfl) (argsL := [(.ref b1991)]) (rest := []) (lenOf own_pd14 rfl) rfl (by show 2 * 0 + _ ≤ _; exact Nat.le_of_eq rfl) (q.d d0_450) (fun _ _ => ⟨rfl, e1993', (by decide : 4 + 4 ≤ _), (by decide : 28 + 40 ≤ _)⟩)
         dsimp only [Pt.U, Pt.locs, Pt.cells, Pt.slots] at X2005 l2005 y2005 z2005 st2005 hQ2005
         rw [l2005, y2005, z2005] at X2005
         clear l2005 y2005 z2005
         have X2005 : Stand p l e _ (s.setVm T2005.vm) m _ below meth c T2005 _ _ _ := X2005
         have hZ2005 : Z.Warmed39 (s.setVm T2005.vm).vm := State.Warmed39.trans hZ hS2005.1
         have hown : (s.setVm T2005.vm).vm.findClass "com/example/ballast_ledger/ballastledger/cli/HelpIsAskedPinLaw" = some m.cls := by show T2005.vm.findClass _ = _; rw [hS2005.1.alike.findClass]; exact hown
         have hZ := hZ2005
         have hS2005 := State.Since.trans hS0 hS2005 (Nat.le_trans hk1994 (by rw [← e1993']; exact hG2005))
         obtain ⟨z2005, rfl, N2005q, E2005, hP2005⟩ := hQ2005
         have N2005 := Fr.app N1993 N2005q
         obtain ⟨h2005, e2005⟩ : ∃ z, z = T2005.heap := ⟨_, rfl⟩
         have e2005' := e2005.symm
         rw [← e2005] at E2005
         rw [e2005'] at hS2005
         have hkc2005 : h2005.size ≤ h2005.size := Nat.le_refl _
         have zs2007 := Nat.le_trans zs1994 E2005.1
         have hk2007 := Nat.le_trans hk1994 E2005.1
         have od2007 := od1994.ext E2005
         rw [e2005'] at cH2005
         have cr2005 := CHr.trans cr1994 cH2005
         have sf2005_b1991 := cH2005.safe ((A1991.keep K1993)).lt sf1994_b1991
         refine own_stp 453 (fun _ k => st2005.trans k) (own_nv (own_il X2005 q d0_453 rfl ?_))
         have hE2008 : z2005 = (0 : Int32) := by
          rcases hP2005 with ⟨hq, r⟩ | ⟨hq, r⟩
          ·exfalso
           rcases r with r | r
           ·simp at r
           ·simp only [List.cons.injEq, and_true, own_bE hz1825 hA.1 (k := (45 : Int32)) (by decide), own_bE hz1826 hA.2.1 (k := (45 : Int32)) (by decide), own_bE hz1827 hA.2.2.1 (k := (104 : Int32)) (by decide), own_bE hz1828 hA.2.2.2.1 (k := (101 : Int32)) (by decide), own_bE hz1829 hA.2.2.2.2.1 (k := (108 : Int32)) (by decide), own_bE hz1830 hA.2.2.2.2.2 (k := (112 : Int32)) (by decide), true_and] at r
            simp [hc386_1995, hc393_1996, hc400_1997, hc407_1998, hc414_1999, hc421_2000] at r
          ·exact hq
         refine own_cn X2005 q d0_455 ((teq (hE2008 : z2005 = (0 : Int32))).2) (own_k X2005 q d0_458 (own_gt X2005 q d0_459 ?_))
         refine own_retNW X2005 hS2005 (by rw [e2005']; exact hkc2005) hx (t := .boolean) Bd.returns (by simp) (q.d d0_463) hlk ?_ (by decide) (by decide)
         exact ⟨rfl, N2005⟩
       ·refine own_cy X1993 q d0_414 ((feq hc414_1999).2) (own_k X1993 q d0_428 (own_is X1993 q d0_429 (l' := #[.val (.int p1), .val (.int p2), .val (.long p3), .second, .val (.long p4), .second, .val v'6, .val (.int z1825), .val (.int z1826), .val (.int z1827), .val (.int z1828), .val (.int z1829), .val (.int z1830), .val (.int z1831), .val (.ref b1976), .val (.ref b1991), .val v'0, .val v'0, .unset]) rfl (own_il X1993 q d0_431 rfl (own_zn X1993 q d0_433 (((if0 _ _).trans (teq (rfl : (0 : Int32) = (0 : Int32))).2)) (own_il X1993 q d0_436 rfl (own_zy X1993 q d0_438 (((if0 _ _).trans (teq (rfl : (0 : Int32) = (0 : Int32))).1)) (own_k X1993 q d0_445 (own_is X1993 q d0_446 (l' := #[.val (.int p1), .val (.int p2), .val (.long p3), .second, .val (.long p4), .second, .val v'6, .val (.int z1825), .val (.int z1826), .val (.int z1827), .val (.int z1828), .val (.int z1829), .val (.int z1830), .val (.int z1831), .val (.ref b1976), .val (.ref b1991), .val v'0, .val v'0, .val v'0]) rfl (own_al X1993 q d0_448 rfl rfl ?_)))))))))
        refine own_let ?_; intro g2010_
        obtain ⟨_, _, ⟨T2009, L2009, k2009, n2009⟩, -, X2009, hS2009, hG2009, ⟨Lc2009, hQ2009, l2009, y2009, z2009, cH2009⟩, st2009⟩ := Jvm.RoadKit.callSS X1993 hx (y := own_y15) hown (mvT hZ (W 33 rfl)) (mvT hZ (W 34 rfl)) (mvT hZ (W 35 rfl)) (mvT hZ (W 36 rfl)) (by decide) (own_backHS (W := 0) (rm7_6 l Z a0 hw [] b1991 t1993 k1993 (nar .byte ((nar .char z1825).toInt8.toInt32)) (nar .byte ((nar .char z1826).toInt8.toInt32)) (nar .byte ((nar .char z1827).toInt8.toInt32)) (nar .byte ((nar .char z1828).toInt8.toInt32)) (nar .byte ((nar .char z1829).toInt8.toInt32)) (nar .byte ((nar .char z1830).toInt8.toInt32)) cs0 h1993 n0 zs1994 (A1991.keep K1993) Fc Fv1993 hV od1994 ⟨SCS, hcs⟩ hEL) hZ (W 36 rfl) (W 35 rfl) (by decide) (by decide) hEL ch1994.1 (ss := [b1991]) (allS ⟨((A1991.keep K1993)).lt, sf1994_b1991⟩ all0)) (g := g2010_) rfl (by rw [hml]; rfl) (argsL := [(.ref b1991)]) (rest := []) (lenOf own_pd14 rfl) rfl (by show 2 * 0 + _ ≤ _; exact Nat.le_of_eq rfl) (q.d d0_450) (fun _ _ => ⟨rfl, e1993', (by decide : 4 + 4 ≤ _), (by decide : 28 + 40 ≤ _)⟩)
        dsimp only [Pt.U, Pt.locs, Pt.cells, Pt.slots] at X2009 l2009 y2009 z2009 st2009 hQ2009
        rw [l2009, y2009, z2009] at X2009
        clear l2009 y2009 z2009
        have X2009 : Stand p l e _ (s.setVm T2009.vm) m _ below meth c T2009 _ _ _ := X2009
        have hZ2009 : Z.Warmed39 (s.setVm T2009.vm).vm := State.Warmed39.trans hZ hS2009.1
        have hown : (s.setVm T2009.vm).vm.findClass "com/example/ballast_ledger/ballastledger/cli/HelpIsAskedPinLaw" = some m.cls := by show T2009.vm.findClass _ = _; rw [hS2009.1.alike.findClass]; exact hown
        have hZ := hZ2009
        have hS2009 := State.Since.trans hS0 hS2009 (Nat.le_trans hk1994 (by rw [← e1993']; exact hG2009))
        obtain ⟨z2009, rfl, N2009q, E2009, hP2009⟩ := hQ2009
        have N2009 := Fr.app N1993 N2009q
        obtain ⟨h2009, e2009⟩ : ∃ z, z = T2009.heap := ⟨_, rfl⟩
        have e2009' := e2009.symm
        rw [← e2009] at E2009
        rw [e2009'] at hS2009
        have hkc2009 : h2009.size ≤ h2009.size := Nat.le_refl _
        have zs2011 := Nat.le_trans zs1994 E2009.1
        have hk2011 := Nat.le_trans hk1994 E2009.1
        have od2011 := od1994.ext E2009
        rw [e2009'] at cH2009
        have cr2009 := CHr.trans cr1994 cH2009
        have sf2009_b1991 := cH2009.safe ((A1991.keep K1993)).lt sf1994_b1991
        refine own_stp 453 (fun _ k => st2009.trans k) (own_nv (own_il X2009 q d0_453 rfl ?_))
        have hE2012 : z2009 = (0 : Int32) := by
         rcases hP2009 with ⟨hq, r⟩ | ⟨hq, r⟩
         ·exfalso
          rcases r with r | r
          ·simp at r
          ·simp only [List.cons.injEq, and_true, own_bE hz1825 hA.1 (k := (45 : Int32)) (by decide), own_bE hz1826 hA.2.1 (k := (45 : Int32)) (by decide), own_bE hz1827 hA.2.2.1 (k := (104 : Int32)) (by decide), own_bE hz1828 hA.2.2.2.1 (k := (101 : Int32)) (by decide), own_bE hz1829 hA.2.2.2.2.1 (k := (108 : Int32)) (by decide), own_bE hz1830 hA.2.2.2.2.2 (k := (112 : Int32)) (by decide), true_and] at r
           simp [hc386_1995, hc393_1996, hc400_1997, hc407_1998, hc414_1999] at r
         ·exact hq
        refine own_cn X2009 q d0_455 ((teq (hE2012 : z2009 = (0 : Int32))).2) (own_k X2009 q d0_458 (own_gt X2009 q d0_459 ?_))
        refine own_retNW X2009 hS2009 (by rw [e2009']; exact hkc2009) hx (t := .boolean) Bd.returns (by simp) (q.d d0_463) hlk ?_ (by decide) (by decide)
        exact ⟨rfl, N2009⟩
      ·refine own_cy X1993 q d0_407 ((feq hc407_1998).2) (own_k X1993 q d0_428 (own_is X1993 q d0_429 (l' := #[.val (.int p1), .val (.int p2), .val (.long p3), .second, .val (.long p4), .second, .val v'6, .val (.int z1825), .val (.int z1826), .val (.int z1827), .val (.int z1828), .val (.int z1829), .val (.int z1830), .val (.int z1831), .val (.ref b1976), .val (.ref b1991), .val v'0, .val v'0, .unset]) rfl (own_il X1993 q d0_431 rfl (own_zn X1993 q d0_433 (((if0 _ _).trans (teq (rfl : (0 : Int32) = (0 : Int32))).2)) (own_il X1993 q d0_436 rfl (own_zy X1993 q d0_438 (((if0 _ _).trans (teq (rfl : (0 : Int32) = (0 : Int32))).1)) (own_k X1993 q d0_445 (own_is X1993 q d0_446 (l' := #[.val (.int p1), .val (.int p2), .val (.long p3), .second, .val (.long p4), .second, .val v'6, .val (.int z1825), .val (.int z1826), .val (.int z1827), .val (.int z1828), .val (.int z1829), .val (.int z1830), .val (.int z1831), .val (.ref b1976), .val (.ref b1991), .val v'0, .val v'0, .val v'0]) rfl (own_al X1993 q d0_448 rfl rfl ?_)))))))))
       refine own_let ?_; intro g2014_
       obtain ⟨_, _, ⟨T2013, L2013, k2013, n2013⟩, -, X2013, hS2013, hG2013, ⟨Lc2013, hQ2013, l2013, y2013, z2013, cH2013⟩, st2013⟩ := Jvm.RoadKit.callSS X1993 hx (y := own_y15) hown (mvT hZ (W 33 rfl)) (mvT hZ (W 34 rfl)) (mvT hZ (W 35 rfl)) (mvT hZ (W 36 rfl)) (by decide) (own_backHS (W := 0) (rm7_6 l Z a0 hw [] b1991 t1993 k1993 (nar .byte ((nar .char z1825).toInt8.toInt32)) (nar .byte ((nar .char z1826).toInt8.toInt32)) (nar .byte ((nar .char z1827).toInt8.toInt32)) (nar .byte ((nar .char z1828).toInt8.toInt32)) (nar .byte ((nar .char z1829).toInt8.toInt32)) (nar .byte ((nar .char z1830).toInt8.toInt32)) cs0 h1993 n0 zs1994 (A1991.keep K1993) Fc Fv1993 hV od1994 ⟨SCS, hcs⟩ hEL) hZ (W 36 rfl) (W 35 rfl) (by decide) (by decide) hEL ch1994.1 (ss := [b1991]) (allS ⟨((A1991.keep K1993)).lt, sf1994_b1991⟩ all0)) (g := g2014_) rfl (by rw [hml]; rfl) (argsL := [(.ref b1991)]) (rest := []) (lenOf own_pd14 rfl) rfl (by show 2 * 0 + _ ≤ _; exact Nat.le_of_eq rfl) (q.d d0_450) (fun _ _ => ⟨rfl, e1993', (by decide : 4 + 4 ≤ _), (by decide : 28 + 40 ≤ _)⟩)
       dsimp only [Pt.U, Pt.locs, Pt.cells, Pt.slots] at X2013 l2013 y2013 z2013 st2013 hQ2013
       rw [l2013, y2013, z2013] at X2013
       clear l2013 y2013 z2013
       have X2013 : Stand p l e _ (s.setVm T2013.vm) m _ below meth c T2013 _ _ _ := X2013
       have hZ2013 : Z.Warmed39 (s.setVm T2013.vm).vm := State.Warmed39.trans hZ hS2013.1
       have hown : (s.setVm T2013.vm).vm.findClass "com/example/ballast_ledger/ballastledger/cli/HelpIsAskedPinLaw" = some m.cls := by show T2013.vm.findClass _ = _; rw [hS2013.1.alike.findClass]; exact hown
       have hZ := hZ2013
       have hS2013 := State.Since.trans hS0 hS2013 (Nat.le_trans hk1994 (by rw [← e1993']; exact hG2013))
       obtain ⟨z2013, rfl, N2013q, E2013, hP2013⟩ := hQ2013
       have N2013 := Fr.app N1993 N2013q
       obtain ⟨h2013, e2013⟩ : ∃ z, z = T2013.heap := ⟨_, rfl⟩
       have e2013' := e2013.symm
       rw [← e2013] at E2013
       rw [e2013'] at hS2013
       have hkc2013 : h2013.size ≤ h2013.size := Nat.le_refl _
       have zs2015 := Nat.le_trans zs1994 E2013.1
       have hk2015 := Nat.le_trans hk1994 E2013.1
       have od2015 := od1994.ext E2013
       rw [e2013'] at cH2013
       have cr2013 := CHr.trans cr1994 cH2013
       have sf2013_b1991 := cH2013.safe ((A1991.keep K1993)).lt sf1994_b1991
       refine own_stp 453 (fun _ k => st2013.trans k) (own_nv (own_il X2013 q d0_453 rfl ?_))
       have hE2016 : z2013 = (0 : Int32) := by
        rcases hP2013 with ⟨hq, r⟩ | ⟨hq, r⟩
        ·exfalso
         rcases r with r | r
         ·simp at r
         ·simp only [List.cons.injEq, and_true, own_bE hz1825 hA.1 (k := (45 : Int32)) (by decide), own_bE hz1826 hA.2.1 (k := (45 : Int32)) (by decide), own_bE hz1827 hA.2.2.1 (k := (104 : Int32)) (by decide), own_bE hz1828 hA.2.2.2.1 (k := (101 : Int32)) (by decide), own_bE hz1829 hA.2.2.2.2.1 (k := (108 : Int32)) (by decide), own_bE hz1830 hA.2.2.2.2.2 (k := (112 : Int32)) (by decide), true_and] at r
          simp [hc386_1995, hc393_1996, hc400_1997, hc407_1998] at r
        ·exact hq
       refine own_cn X2013 q d0_455 ((teq (hE2016 : z2013 = (0 : Int32))).2) (own_k X2013 q d0_458 (own_gt X2013 q d0_459 ?_))
       refine own_retNW X2013 hS2013 (by rw [e2013']; exact hkc2013) hx (t := .boolean) Bd.returns (by simp) (q.d d0_463) hlk ?_ (by decide) (by decide)
       exact ⟨rfl, N2013⟩
     ·refine own_cy X1993 q d0_400 ((feq hc400_1997).2) (own_k X1993 q d0_428 (own_is X1993 q d0_429 (l' := #[.val (.int p1), .val (.int p2), .val (.long p3), .second, .val (.long p4), .second, .val v'6, .val (.int z1825), .val (.int z1826), .val (.int z1827), .val (.int z1828), .val (.int z1829), .val (.int z1830), .val (.int z1831), .val (.ref b1976), .val (.ref b1991), .val v'0, .val v'0, .unset]) rfl (own_il X1993 q d0_431 rfl (own_zn X1993 q d0_433 (((if0 _ _).trans (teq (rfl : (0 : Int32) = (0 : Int32))).2)) (own_il X1993 q d0_436 rfl (own_zy X1993 q d0_438 (((if0 _ _).trans (teq (rfl : (0 : Int32) = (0 : Int32))).1)) (own_k X1993 q d0_445 (own_is X1993 q d0_446 (l' := #[.val (.int p1), .val (.int p2), .val (.long p3), .second, .val (.long p4), .second, .val v'6, .val (.int z1825), .val (.int z1826), .val (.int z1827), .val (.int z1828), .val (.int z1829), .val (.int z1830), .val (.int z1831), .val (.ref b1976), .val (.ref b1991), .val v'0, .val v'0, .val v'0]) rfl (own_al X1993 q d0_448 rfl rfl ?_)))))))))
      refine own_let ?_; intro g2018_
      obtain ⟨_, _, ⟨T2017, L2017, k2017, n2017⟩, -, X2017, hS2017, hG2017, ⟨Lc2017, hQ2017, l2017, y2017, z2017, cH2017⟩, st2017⟩ := Jvm.RoadKit.callSS X1993 hx (y := own_y15) hown (mvT hZ (W 33 rfl)) (mvT hZ (W 34 rfl)) (mvT hZ (W 35 rfl)) (mvT hZ (W 36 rfl)) (by decide) (own_backHS (W := 0) (rm7_6 l Z a0 hw [] b1991 t1993 k1993 (nar .byte ((nar .char z1825).toInt8.toInt32)) (nar .byte ((nar .char z1826).toInt8.toInt32)) (nar .byte ((nar .char z1827).toInt8.toInt32)) (nar .byte ((nar .char z1828).toInt8.toInt32)) (nar .byte ((nar .char z1829).toInt8.toInt32)) (nar .byte ((nar .char z1830).toInt8.toInt32)) cs0 h1993 n0 zs1994 (A1991.keep K1993) Fc Fv1993 hV od1994 ⟨SCS, hcs⟩ hEL) hZ (W 36 rfl) (W 35 rfl) (by decide) (by decide) hEL ch1994.1 (ss := [b1991]) (allS ⟨((A1991.keep K1993)).lt, sf1994_b1991⟩ all0)) (g := g2018_) rfl (by rw [hml]; rfl) (argsL := [(.ref b1991)]) (rest := []) (lenOf own_pd14 rfl) rfl (by show 2 * 0 + _ ≤ _; exact Nat.le_of_eq rfl) (q.d d0_450) (fun _ _ => ⟨rfl, e1993', (by decide : 4 + 4 ≤ _), (by decide : 28 + 40 ≤ _)⟩)
      dsimp only [Pt.U, Pt.locs, Pt.cells, Pt.slots] at X2017 l2017 y2017 z2017 st2017 hQ2017
      rw [l2017, y2017, z2017] at X2017
      clear l2017 y2017 z2017
      have X2017 : Stand p l e _ (s.setVm T2017.vm) m _ below meth c T2017 _ _ _ := X2017
      have hZ2017 : Z.Warmed39 (s.setVm T2017.vm).vm := State.Warmed39.trans hZ hS2017.1
      have hown : (s.setVm T2017.vm).vm.findClass "com/example/ballast_ledger/ballastledger/cli/HelpIsAskedPinLaw" = some m.cls := by show T2017.vm.findClass _ = _; rw [hS2017.1.alike.findClass]; exact hown
      have hZ := hZ2017
      have hS2017 := State.Since.trans hS0 hS2017 (Nat.le_trans hk1994 (by rw [← e1993']; exact hG2017))
      obtain ⟨z2017, rfl, N2017q, E2017, hP2017⟩ := hQ2017
      have N2017 := Fr.app N1993 N2017q
      obtain ⟨h2017, e2017⟩ : ∃ z, z = T2017.heap := ⟨_, rfl⟩
      have e2017' := e2017.symm
      rw [← e2017] at E2017
      rw [e2017'] at hS2017
      have hkc2017 : h2017.size ≤ h2017.size := Nat.le_refl _
      have zs2019 := Nat.le_trans zs1994 E2017.1
      have hk2019 := Nat.le_trans hk1994 E2017.1
      have od2019 := od1994.ext E2017
      rw [e2017'] at cH2017
      have cr2017 := CHr.trans cr1994 cH2017
      have sf2017_b1991 := cH2017.safe ((A1991.keep K1993)).lt sf1994_b1991
      refine own_stp 453 (fun _ k => st2017.trans k) (own_nv (own_il X2017 q d0_453 rfl ?_))
      have hE2020 : z2017 = (0 : Int32) := by
       rcases hP2017 with ⟨hq, r⟩ | ⟨hq, r⟩
       ·exfalso
        rcases r with r | r
        ·simp at r
        ·simp only [List.cons.injEq, and_true, own_bE hz1825 hA.1 (k := (45 : Int32)) (by decide), own_bE hz1826 hA.2.1 (k := (45 : Int32)) (by decide), own_bE hz1827 hA.2.2.1 (k := (104 : Int32)) (by decide), own_bE hz1828 hA.2.2.2.1 (k := (101 : Int32)) (by decide), own_bE hz1829 hA.2.2.2.2.1 (k := (108 : Int32)) (by decide), own_bE hz1830 hA.2.2.2.2.2 (k := (112 : Int32)) (by decide), true_and] at r
         simp [hc386_1995, hc393_1996, hc400_1997] at r
       ·exact hq
      refine own_cn X2017 q d0_455 ((teq (hE2020 : z2017 = (0 : Int32))).2) (own_k X2017 q d0_458 (own_gt X2017 q d0_459 ?_))
      refine own_retNW X2017 hS2017 (by rw [e2017']; exact hkc2017) hx (t := .boolean) Bd.returns (by simp) (q.d d0_463) hlk ?_ (by decide) (by decide)
      exact ⟨rfl, N2017⟩
    ·refine own_cy X1993 q d0_393 ((feq hc393_1996).2) (own_k X1993 q d0_428 (own_is X1993 q d0_429 (l' := #[.val (.int p1), .val (.int p2), .val (.long p3), .second, .val (.long p4), .second, .val v'6, .val (.int z1825), .val (.int z1826), .val (.int z1827), .val (.int z1828), .val (.int z1829), .val (.int z1830), .val (.int z1831), .val (.ref b1976), .val (.ref b1991), .val v'0, .val v'0, .unset]) rfl (own_il X1993 q d0_431 rfl (own_zn X1993 q d0_433 (((if0 _ _).trans (teq (rfl : (0 : Int32) = (0 : Int32))).2)) (own_il X1993 q d0_436 rfl (own_zy X1993 q d0_438 (((if0 _ _).trans (teq (rfl : (0 : Int32) = (0 : Int32))).1)) (own_k X1993 q d0_445 (own_is X1993 q d0_446 (l' := #[.val (.int p1), .val (.int p2), .val (.long p3), .second, .val (.long p4), .second, .val v'6, .val (.int z1825), .val (.int z1826), .val (.int z1827), .val (.int z1828), .val (.int z1829), .val (.int z1830), .val (.int z1831), .val (.ref b1976), .val (.ref b1991), .val v'0, .val v'0, .val v'0]) rfl (own_al X1993 q d0_448 rfl rfl ?_)))))))))
     refine own_let ?_; intro g2022_
     obtain ⟨_, _, ⟨T2021, L2021, k2021, n2021⟩, -, X2021, hS2021, hG2021, ⟨Lc2021, hQ2021, l2021, y2021, z2021, cH2021⟩, st2021⟩ := Jvm.RoadKit.callSS X1993 hx (y := own_y15) hown (mvT hZ (W 33 rfl)) (mvT hZ (W 34 rfl)) (mvT hZ (W 35 rfl)) (mvT hZ (W 36 rfl)) (by decide) (own_backHS (W := 0) (rm7_6 l Z a0 hw [] b1991 t1993 k1993 (nar .byte ((nar .char z1825).toInt8.toInt32)) (nar .byte ((nar .char z1826).toInt8.toInt32)) (nar .byte ((nar .char z1827).toInt8.toInt32)) (nar .byte ((nar .char z1828).toInt8.toInt32)) (nar .byte ((nar .char z1829).toInt8.toInt32)) (nar .byte ((nar .char z1830).toInt8.toInt32)) cs0 h1993 n0 zs1994 (A1991.keep K1993) Fc Fv1993 hV od1994 ⟨SCS, hcs⟩ hEL) hZ (W 36 rfl) (W 35 rfl) (by decide) (by decide) hEL ch1994.1 (ss := [b1991]) (allS ⟨((A1991.keep K1993)).lt, sf1994_b1991⟩ all0)) (g := g2022_) rfl (by rw [hml]; rfl) (argsL := [(.ref b1991)]) (rest := []) (lenOf own_pd14 rfl) rfl (by show 2 * 0 + _ ≤ _; exact Nat.le_of_eq rfl) (q.d d0_450) (fun _ _ => ⟨rfl, e1993', (by decide : 4 + 4 ≤ _), (by decide : 28 + 40 ≤ _)⟩)
     dsimp only [Pt.U, Pt.locs, Pt.cells, Pt.slots] at X2021 l2021 y2021 z2021 st2021 hQ2021
     rw [l2021, y2021, z2021] at X2021
     clear l2021 y2021 z2021
     have X2021 : Stand p l e _ (s.setVm T2021.vm) m _ below meth c T2021 _ _ _ := X2021
     have hZ2021 : Z.Warmed39 (s.setVm T2021.vm).vm := State.Warmed39.trans hZ hS2021.1
     have hown : (s.setVm T2021.vm).vm.findClass "com/example/ballast_ledger/ballastledger/cli/HelpIsAskedPinLaw" = some m.cls := by show T2021.vm.findClass _ = _; rw [hS2021.1.alike.findClass]; exact hown
     have hZ := hZ2021
     have hS2021 := State.Since.trans hS0 hS2021 (Nat.le_trans hk1994 (by rw [← e1993']; exact hG2021))
     obtain ⟨z2021, rfl, N2021q, E2021, hP2021⟩ := hQ2021
     have N2021 := Fr.app N1993 N2021q
     obtain ⟨h2021, e2021⟩ : ∃ z, z = T2021.heap := ⟨_, rfl⟩
     have e2021' := e2021.symm
     rw [← e2021] at E2021
     rw [e2021'] at hS2021
     have hkc2021 : h2021.size ≤ h2021.size := Nat.le_refl _
     have zs2023 := Nat.le_trans zs1994 E2021.1
     have hk2023 := Nat.le_trans hk1994 E2021.1
     have od2023 := od1994.ext E2021
     rw [e2021'] at cH2021
     have cr2021 := CHr.trans cr1994 cH2021
     have sf2021_b1991 := cH2021.safe ((A1991.keep K1993)).lt sf1994_b1991
     refine own_stp 453 (fun _ k => st2021.trans k) (own_nv (own_il X2021 q d0_453 rfl ?_))
     have hE2024 : z2021 = (0 : Int32) := by
      rcases hP2021 with ⟨hq, r⟩ | ⟨hq, r⟩
      ·exfalso
       rcases r with r | r
       ·simp at r
       ·simp only [List.cons.injEq, and_true, own_bE hz1825 hA.1 (k := (45 : Int32)) (by decide), own_bE hz1826 hA.2.1 (k := (45 : Int32)) (by decide), own_bE hz1827 hA.2.2.1 (k := (104 : Int32)) (by decide), own_bE hz1828 hA.2.2.2.1 (k := (101 : Int32)) (by decide), own_bE hz1829 hA.2.2.2.2.1 (k := (108 : Int32)) (by decide), own_bE hz1830 hA.2.2.2.2.2 (k := (112 : Int32)) (by decide), true_and] at r
        simp [hc386_1995, hc393_1996] at r
      ·exact hq
     refine own_cn X2021 q d0_455 ((teq (hE2024 : z2021 = (0 : Int32))).2) (own_k X2021 q d0_458 (own_gt X2021 q d0_459 ?_))
     refine own_retNW X2021 hS2021 (by rw [e2021']; exact hkc2021) hx (t := .boolean) Bd.returns (by simp) (q.d d0_463) hlk ?_ (by decide) (by decide)
     exact ⟨rfl, N2021⟩
   ·refine own_cy X1993 q d0_386 ((feq hc386_1995).2) (own_k X1993 q d0_428 (own_is X1993 q d0_429 (l' := #[.val (.int p1), .val (.int p2), .val (.long p3), .second, .val (.long p4), .second, .val v'6, .val (.int z1825), .val (.int z1826), .val (.int z1827), .val (.int z1828), .val (.int z1829), .val (.int z1830), .val (.int z1831), .val (.ref b1976), .val (.ref b1991), .val v'0, .val v'0, .unset]) rfl (own_il X1993 q d0_431 rfl (own_zn X1993 q d0_433 (((if0 _ _).trans (teq (rfl : (0 : Int32) = (0 : Int32))).2)) (own_il X1993 q d0_436 rfl (own_zy X1993 q d0_438 (((if0 _ _).trans (teq (rfl : (0 : Int32) = (0 : Int32))).1)) (own_k X1993 q d0_445 (own_is X1993 q d0_446 (l' := #[.val (.int p1), .val (.int p2), .val (.long p3), .second, .val (.long p4), .second, .val v'6, .val (.int z1825), .val (.int z1826), .val (.int z1827), .val (.int z1828), .val (.int z1829), .val (.int z1830), .val (.int z1831), .val (.ref b1976), .val (.ref b1991), .val v'0, .val v'0, .val v'0]) rfl (own_al X1993 q d0_448 rfl rfl ?_)))))))))
    refine own_let ?_; intro g2026_
    obtain ⟨_, _, ⟨T2025, L2025, k2025, n2025⟩, -, X2025, hS2025, hG2025, ⟨Lc2025, hQ2025, l2025, y2025, z2025, cH2025⟩, st2025⟩ := Jvm.RoadKit.callSS X1993 hx (y := own_y15) hown (mvT hZ (W 33 rfl)) (mvT hZ (W 34 rfl)) (mvT hZ (W 35 rfl)) (mvT hZ (W 36 rfl)) (by decide) (own_backHS (W := 0) (rm7_6 l Z a0 hw [] b1991 t1993 k1993 (nar .byte ((nar .char z1825).toInt8.toInt32)) (nar .byte ((nar .char z1826).toInt8.toInt32)) (nar .byte ((nar .char z1827).toInt8.toInt32)) (nar .byte ((nar .char z1828).toInt8.toInt32)) (nar .byte ((nar .char z1829).toInt8.toInt32)) (nar .byte ((nar .char z1830).toInt8.toInt32)) cs0 h1993 n0 zs1994 (A1991.keep K1993) Fc Fv1993 hV od1994 ⟨SCS, hcs⟩ hEL) hZ (W 36 rfl) (W 35 rfl) (by decide) (by decide) hEL ch1994.1 (ss := [b1991]) (allS ⟨((A1991.keep K1993)).lt, sf1994_b1991⟩ all0)) (g := g2026_) rfl (by rw [hml]; rfl) (argsL := [(.ref b1991)]) (rest := []) (lenOf own_pd14 rfl) rfl (by show 2 * 0 + _ ≤ _; exact Nat.le_of_eq rfl) (q.d d0_450) (fun _ _ => ⟨rfl, e1993', (by decide : 4 + 4 ≤ _), (by decide : 28 + 40 ≤ _)⟩)
    dsimp only [Pt.U, Pt.locs, Pt.cells, Pt.slots] at X2025 l2025 y2025 z2025 st2025 hQ2025
    rw [l2025, y2025, z2025] at X2025
    clear l2025 y2025 z2025
    have X2025 : Stand p l e _ (s.setVm T2025.vm) m _ below meth c T2025 _ _ _ := X2025
    have hZ2025 : Z.Warmed39 (s.setVm T2025.vm).vm := State.Warmed39.trans hZ hS2025.1
    have hown : (s.setVm T2025.vm).vm.findClass "com/example/ballast_ledger/ballastledger/cli/HelpIsAskedPinLaw" = some m.cls := by show T2025.vm.findClass _ = _; rw [hS2025.1.alike.findClass]; exact hown
    have hZ := hZ2025
    have hS2025 := State.Since.trans hS0 hS2025 (Nat.le_trans hk1994 (by rw [← e1993']; exact hG2025))
    obtain ⟨z2025, rfl, N2025q, E2025, hP2025⟩ := hQ2025
    have N2025 := Fr.app N1993 N2025q
    obtain ⟨h2025, e2025⟩ : ∃ z, z = T2025.heap := ⟨_, rfl⟩
    have e2025' := e2025.symm
    rw [← e2025] at E2025
    rw [e2025'] at hS2025
    have hkc2025 : h2025.size ≤ h2025.size := Nat.le_refl _
    have zs2027 := Nat.le_trans zs1994 E2025.1
    have hk2027 := Nat.le_trans hk1994 E2025.1
    have od2027 := od1994.ext E2025
    rw [e2025'] at cH2025
    have cr2025 := CHr.trans cr1994 cH2025
    have sf2025_b1991 := cH2025.safe ((A1991.keep K1993)).lt sf1994_b1991
    refine own_stp 453 (fun _ k => st2025.trans k) (own_nv (own_il X2025 q d0_453 rfl ?_))
    have hE2028 : z2025 = (0 : Int32) := by
     rcases hP2025 with ⟨hq, r⟩ | ⟨hq, r⟩
     ·exfalso
      rcases r with r | r
      ·simp at r
      ·simp only [List.cons.injEq, and_true, own_bE hz1825 hA.1 (k := (45 : Int32)) (by decide), own_bE hz1826 hA.2.1 (k := (45 : Int32)) (by decide), own_bE hz1827 hA.2.2.1 (k := (104 : Int32)) (by decide), own_bE hz1828 hA.2.2.2.1 (k := (101 : Int32)) (by decide), own_bE hz1829 hA.2.2.2.2.1 (k := (108 : Int32)) (by decide), own_bE hz1830 hA.2.2.2.2.2 (k := (112 : Int32)) (by decide), true_and] at r
       simp [hc386_1995] at r
     ·exact hq
    refine own_cn X2025 q d0_455 ((teq (hE2028 : z2025 = (0 : Int32))).2) (own_k X2025 q d0_458 (own_gt X2025 q d0_459 ?_))
    refine own_retNW X2025 hS2025 (by rw [e2025']; exact hkc2025) hx (t := .boolean) Bd.returns (by simp) (q.d d0_463) hlk ?_ (by decide) (by decide)
    exact ⟨rfl, N2025⟩
  ·have hA_ := hA
   show own_Fin _ _ _ _ (T1993.setTop (mkF m 346 #[.val (.int p1), .val (.int p2), .val (.long p3), .second, .val (.long p4), .second, .val v'6, .val (.int z1825), .val (.int z1826), .val (.int z1827), .val (.int z1828), .val (.int z1829), .val (.int z1830), .val (.int z1831), .val (.ref b1976), .unset, .unset, .unset, .unset] [(.ref b1991)]))
   refine own_as X1993 q d0_346 rfl (l' := #[.val (.int p1), .val (.int p2), .val (.long p3), .second, .val (.long p4), .second, .val v'6, .val (.int z1825), .val (.int z1826), .val (.int z1827), .val (.int z1828), .val (.int z1829), .val (.int z1830), .val (.int z1831), .val (.ref b1976), .val (.ref b1991), .unset, .unset, .unset]) rfl (own_il X1993 q d0_348 rfl (own_k X1993 q d0_350 (own_cy X1993 q d0_351 ((feq ((by decide) : ¬ ((6 : Int32) = (2 : Int32)))).2) (own_k X1993 q d0_372 (own_is X1993 q d0_373 (l' := #[.val (.int p1), .val (.int p2), .val (.long p3), .second, .val (.long p4), .second, .val v'6, .val (.int z1825), .val (.int z1826), .val (.int z1827), .val (.int z1828), .val (.int z1829), .val (.int z1830), .val (.int z1831), .val (.ref b1976), .val (.ref b1991), .val v'0, .unset, .unset]) rfl (own_il X1993 q d0_375 rfl (own_k X1993 q d0_377 (own_cn X1993 q d0_379 ((teq (rfl : (6 : Int32) = (6 : Int32))).2) (own_il X1993 q d0_382 rfl (own_k X1993 q d0_384 ?_))))))))))
   by_cases hc386_2029 : z1825 = (45 : Int32)
   ·refine own_cn X1993 q d0_386 ((teq hc386_2029).2) (own_il X1993 q d0_389 rfl (own_k X1993 q d0_391 ?_))
    by_cases hc393_2030 : z1826 = (45 : Int32)
    ·refine own_cn X1993 q d0_393 ((teq hc393_2030).2) (own_il X1993 q d0_396 rfl (own_k X1993 q d0_398 ?_))
     by_cases hc400_2031 : z1827 = (104 : Int32)
     ·refine own_cn X1993 q d0_400 ((teq hc400_2031).2) (own_il X1993 q d0_403 rfl (own_k X1993 q d0_405 ?_))
      by_cases hc407_2032 : z1828 = (101 : Int32)
      ·refine own_cn X1993 q d0_407 ((teq hc407_2032).2) (own_il X1993 q d0_410 rfl (own_k X1993 q d0_412 ?_))
       by_cases hc414_2033 : z1829 = (108 : Int32)
       ·refine own_cn X1993 q d0_414 ((teq hc414_2033).2) (own_il X1993 q d0_417 rfl (own_k X1993 q d0_419 ?_))
        by_cases hc421_2034 : z1830 = (112 : Int32)
        ·refine own_cn X1993 q d0_421 ((teq hc421_2034).2) (own_k X1993 q d0_424 (own_gt X1993 q d0_425 (own_is X1993 q d0_429 (l' := #[.val (.int p1), .val (.int p2), .val (.long p3), .second, .val (.long p4), .second, .val v'6, .val (.int z1825), .val (.int z1826), .val (.int z1827), .val (.int z1828), .val (.int z1829), .val (.int z1830), .val (.int z1831), .val (.ref b1976), .val (.ref b1991), .val v'0, .val v'1, .unset]) rfl (own_il X1993 q d0_431 rfl (own_zn X1993 q d0_433 (((if0 _ _).trans (teq (rfl : (0 : Int32) = (0 : Int32))).2)) (own_il X1993 q d0_436 rfl (own_zn X1993 q d0_438 (((if0 _ _).trans (feq ((by decide) : ¬ ((1 : Int32) = (0 : Int32)))).1)) (own_k X1993 q d0_441 (own_gt X1993 q d0_442 (own_is X1993 q d0_446 (l' := #[.val (.int p1), .val (.int p2), .val (.long p3), .second, .val (.long p4), .second, .val v'6, .val (.int z1825), .val (.int z1826), .val (.int z1827), .val (.int z1828), .val (.int z1829), .val (.int z1830), .val (.int z1831), .val (.ref b1976), .val (.ref b1991), .val v'0, .val v'1, .val v'1]) rfl (own_al X1993 q d0_448 rfl rfl ?_)))))))))))
         refine own_let ?_; intro g2036_
         obtain ⟨_, _, ⟨T2035, L2035, k2035, n2035⟩, -, X2035, hS2035, hG2035, ⟨Lc2035, hQ2035, l2035, y2035, z2035, cH2035⟩, st2035⟩ := Jvm.RoadKit.callSS X1993 hx (y := own_y15) hown (mvT hZ (W 33 rfl)) (mvT hZ (W 34 rfl)) (mvT hZ (W 35 rfl)) (mvT hZ (W 36 rfl)) (by decide) (own_backHS (W := 0) (rm7_u l Z a0 hw [] b1991 t1993   cs0 h1993 n0 zs1994 (A1991.keep K1993) Fc Fv1993  od1994 ⟨SCS, hcs⟩ hEL) hZ (W 36 rfl) (W 35 rfl) (by decide) (by decide) hEL ch1994.1 (ss := [b1991]) (allS ⟨((A1991.keep K1993)).lt, sf1994_b1991⟩ all0)) (g := g2036_) rfl (by rw [hml]; rfl) (argsL := [(.ref b1991)]) (rest := []) (lenOf own_pd14 rfl) rfl (by show 2 * 0 + _ ≤ _; exact Nat.le_of_eq rfl) (q.d d0_450) (fun _ _ => ⟨rfl, e1993', (by decide : 4 + 4 ≤ _), (by decide : 28 + 40 ≤ _)⟩)
         dsimp only [Pt.U, Pt.locs, Pt.cells, Pt.slots] at X2035 l2035 y2035 z2035 st2035 hQ2035
         rw [l2035, y2035, z2035] at X2035
         clear l2035 y2035 z2035
         have X2035 : Stand p l e _ (s.setVm T2035.vm) m _ below meth c T2035 _ _ _ := X2035
         have hZ2035 : Z.Warmed39 (s.setVm T2035.vm).vm := State.Warmed39.trans hZ hS2035.1
         have hown : (s.setVm T2035.vm).vm.findClass "com/example/ballast_ledger/ballastledger/cli/HelpIsAskedPinLaw" = some m.cls := by show T2035.vm.findClass _ = _; rw [hS2035.1.alike.findClass]; exact hown
         have hZ := hZ2035
         have hS2035 := State.Since.trans hS0 hS2035 (Nat.le_trans hk1994 (by rw [← e1993']; exact hG2035))
         obtain ⟨z2035, rfl, N2035q, E2035, hP2035⟩ := hQ2035
         have N2035 := Fr.app N1993 N2035q
         obtain ⟨h2035, e2035⟩ : ∃ z, z = T2035.heap := ⟨_, rfl⟩
         have e2035' := e2035.symm
         rw [← e2035] at E2035
         rw [e2035'] at hS2035
         have hkc2035 : h2035.size ≤ h2035.size := Nat.le_refl _
         have zs2037 := Nat.le_trans zs1994 E2035.1
         have hk2037 := Nat.le_trans hk1994 E2035.1
         have od2037 := od1994.ext E2035
         rw [e2035'] at cH2035
         have cr2035 := CHr.trans cr1994 cH2035
         have sf2035_b1991 := cH2035.safe ((A1991.keep K1993)).lt sf1994_b1991
         refine own_stp 453 (fun _ k => st2035.trans k) (own_nv (own_il X2035 q d0_453 rfl ?_))
         have hE2038 : z2035 = (1 : Int32) := by
          rcases hP2035 with ⟨hq, r⟩ | ⟨hq, r⟩
          ·exact hq
          ·exfalso
           rcases hA with r2 | r2 | r2 | r2 | r2 | r2
           ·rw [own_nc hz1825, hc386_2029] at r2; exact absurd r2 (by decide)
           ·rw [own_nc hz1826, hc393_2030] at r2; exact absurd r2 (by decide)
           ·rw [own_nc hz1827, hc400_2031] at r2; exact absurd r2 (by decide)
           ·rw [own_nc hz1828, hc407_2032] at r2; exact absurd r2 (by decide)
           ·rw [own_nc hz1829, hc414_2033] at r2; exact absurd r2 (by decide)
           ·rw [own_nc hz1830, hc421_2034] at r2; exact absurd r2 (by decide)
         refine own_cn X2035 q d0_455 ((teq (hE2038 : z2035 = (1 : Int32))).2) (own_k X2035 q d0_458 (own_gt X2035 q d0_459 ?_))
         refine own_retNW X2035 hS2035 (by rw [e2035']; exact hkc2035) hx (t := .boolean) Bd.returns (by simp) (q.d d0_463) hlk ?_ (by decide) (by decide)
         exact ⟨rfl, N2035⟩
        ·refine own_cy X1993 q d0_421 ((feq hc421_2034).2) (own_k X1993 q d0_428 (own_is X1993 q d0_429 (l' := #[.val (.int p1), .val (.int p2), .val (.long p3), .second, .val (.long p4), .second, .val v'6, .val (.int z1825), .val (.int z1826), .val (.int z1827), .val (.int z1828), .val (.int z1829), .val (.int z1830), .val (.int z1831), .val (.ref b1976), .val (.ref b1991), .val v'0, .val v'0, .unset]) rfl (own_il X1993 q d0_431 rfl (own_zn X1993 q d0_433 (((if0 _ _).trans (teq (rfl : (0 : Int32) = (0 : Int32))).2)) (own_il X1993 q d0_436 rfl (own_zy X1993 q d0_438 (((if0 _ _).trans (teq (rfl : (0 : Int32) = (0 : Int32))).1)) (own_k X1993 q d0_445 (own_is X1993 q d0_446 (l' := #[.val (.int p1), .val (.int p2), .val (.long p3), .second, .val (.long p4), .second, .val v'6, .val (.int z1825), .val (.int z1826), .val (.int z1827), .val (.int z1828), .val (.int z1829), .val (.int z1830), .val (.int z1831), .val (.ref b1976), .val (.ref b1991), .val v'0, .val v'0, .val v'0]) rfl (own_al X1993 q d0_448 rfl rfl ?_)))))))))
         refine own_let ?_; intro g2040_
         obtain ⟨_, _, ⟨T2039, L2039, k2039, n2039⟩, -, X2039, hS2039, hG2039, ⟨Lc2039, hQ2039, l2039, y2039, z2039, cH2039⟩, st2039⟩ := Jvm.RoadKit.callSS X1993 hx (y := own_y15) hown (mvT hZ (W 33 rfl)) (mvT hZ (W 34 rfl)) (mvT hZ (W 35 rfl)) (mvT hZ (W 36 rfl)) (by decide) (own_backHS (W := 0) (rm7_u l Z a0 hw [] b1991 t1993   cs0 h1993 n0 zs1994 (A1991.keep K1993) Fc Fv1993  od1994 ⟨SCS, hcs⟩ hEL) hZ (W 36 rfl) (W 35 rfl) (by decide) (by decide) hEL ch1994.1 (ss := [b1991]) (allS ⟨((A1991.keep K1993)).lt, sf1994_b1991⟩ all0)) (g := g2040_) rfl (by rw [hml]; rfl) (argsL := [(.ref b1991)]) (rest := []) (lenOf own_pd14 rfl) rfl (by show 2 * 0 + _ ≤ _; exact Nat.le_of_eq rfl) (q.d d0_450) (fun _ _ => ⟨rfl, e1993', (by decide : 4 + 4 ≤ _), (by decide : 28 + 40 ≤ _)⟩)
         dsimp only [Pt.U, Pt.locs, Pt.cells, Pt.slots] at X2039 l2039 y2039 z2039 st2039 hQ2039
         rw [l2039, y2039, z2039] at X2039
         clear l2039 y2039 z2039
         have X2039 : Stand p l e _ (s.setVm T2039.vm) m _ below meth c T2039 _ _ _ := X2039
         have hZ2039 : Z.Warmed39 (s.setVm T2039.vm).vm := State.Warmed39.trans hZ hS2039.1
         have hown : (s.setVm T2039.vm).vm.findClass "com/example/ballast_ledger/ballastledger/cli/HelpIsAskedPinLaw" = some m.cls := by show T2039.vm.findClass _ = _; rw [hS2039.1.alike.findClass]; exact hown
         have hZ := hZ2039
         have hS2039 := State.Since.trans hS0 hS2039 (Nat.le_trans hk1994 (by rw [← e1993']; exact hG2039))
         obtain ⟨z2039, rfl, N2039q, E2039, hP2039⟩ := hQ2039
         have N2039 := Fr.app N1993 N2039q
         obtain ⟨h2039, e2039⟩ : ∃ z, z = T2039.heap := ⟨_, rfl⟩
         have e2039' := e2039.symm
         rw [← e2039] at E2039
         rw [e2039'] at hS2039
         have hkc2039 : h2039.size ≤ h2039.size := Nat.le_refl _
         have zs2041 := Nat.le_trans zs1994 E2039.1
         have hk2041 := Nat.le_trans hk1994 E2039.1
         have od2041 := od1994.ext E2039
         rw [e2039'] at cH2039
         have cr2039 := CHr.trans cr1994 cH2039
         have sf2039_b1991 := cH2039.safe ((A1991.keep K1993)).lt sf1994_b1991
         refine own_stp 453 (fun _ k => st2039.trans k) (own_nv (own_il X2039 q d0_453 rfl ?_))
         have hE2042 : z2039 = (0 : Int32) := by
          rcases hP2039 with ⟨hq, r⟩ | ⟨hq, r⟩
          ·exact r.elim
          ·exact hq
         refine own_cn X2039 q d0_455 ((teq (hE2042 : z2039 = (0 : Int32))).2) (own_k X2039 q d0_458 (own_gt X2039 q d0_459 ?_))
         refine own_retNW X2039 hS2039 (by rw [e2039']; exact hkc2039) hx (t := .boolean) Bd.returns (by simp) (q.d d0_463) hlk ?_ (by decide) (by decide)
         exact ⟨rfl, N2039⟩
       ·refine own_cy X1993 q d0_414 ((feq hc414_2033).2) (own_k X1993 q d0_428 (own_is X1993 q d0_429 (l' := #[.val (.int p1), .val (.int p2), .val (.long p3), .second, .val (.long p4), .second, .val v'6, .val (.int z1825), .val (.int z1826), .val (.int z1827), .val (.int z1828), .val (.int z1829), .val (.int z1830), .val (.int z1831), .val (.ref b1976), .val (.ref b1991), .val v'0, .val v'0, .unset]) rfl (own_il X1993 q d0_431 rfl (own_zn X1993 q d0_433 (((if0 _ _).trans (teq (rfl : (0 : Int32) = (0 : Int32))).2)) (own_il X1993 q d0_436 rfl (own_zy X1993 q d0_438 (((if0 _ _).trans (teq (rfl : (0 : Int32) = (0 : Int32))).1)) (own_k X1993 q d0_445 (own_is X1993 q d0_446 (l' := #[.val (.int p1), .val (.int p2), .val (.long p3), .second, .val (.long p4), .second, .val v'6, .val (.int z1825), .val (.int z1826), .val (.int z1827), .val (.int z1828), .val (.int z1829), .val (.int z1830), .val (.int z1831), .val (.ref b1976), .val (.ref b1991), .val v'0, .val v'0, .val v'0]) rfl (own_al X1993 q d0_448 rfl rfl ?_)))))))))
        refine own_let ?_; intro g2044_
        obtain ⟨_, _, ⟨T2043, L2043, k2043, n2043⟩, -, X2043, hS2043, hG2043, ⟨Lc2043, hQ2043, l2043, y2043, z2043, cH2043⟩, st2043⟩ := Jvm.RoadKit.callSS X1993 hx (y := own_y15) hown (mvT hZ (W 33 rfl)) (mvT hZ (W 34 rfl)) (mvT hZ (W 35 rfl)) (mvT hZ (W 36 rfl)) (by decide) (own_backHS (W := 0) (rm7_u l Z a0 hw [] b1991 t1993   cs0 h1993 n0 zs1994 (A1991.keep K1993) Fc Fv1993  od1994 ⟨SCS, hcs⟩ hEL) hZ (W 36 rfl) (W 35 rfl) (by decide) (by decide) hEL ch1994.1 (ss := [b1991]) (allS ⟨((A1991.keep K1993)).lt, sf1994_b1991⟩ all0)) (g := g2044_) rfl (by rw [hml]; rfl) (argsL := [(.ref b1991)]) (rest := []) (lenOf own_pd14 rfl) rfl (by show 2 * 0 + _ ≤ _; exact Nat.le_of_eq rfl) (q.d d0_450) (fun _ _ => ⟨rfl, e1993', (by decide : 4 + 4 ≤ _), (by decide : 28 + 40 ≤ _)⟩)
        dsimp only [Pt.U, Pt.locs, Pt.cells, Pt.slots] at X2043 l2043 y2043 z2043 st2043 hQ2043
        rw [l2043, y2043, z2043] at X2043
        clear l2043 y2043 z2043
        have X2043 : Stand p l e _ (s.setVm T2043.vm) m _ below meth c T2043 _ _ _ := X2043
        have hZ2043 : Z.Warmed39 (s.setVm T2043.vm).vm := State.Warmed39.trans hZ hS2043.1
        have hown : (s.setVm T2043.vm).vm.findClass "com/example/ballast_ledger/ballastledger/cli/HelpIsAskedPinLaw" = some m.cls := by show T2043.vm.findClass _ = _; rw [hS2043.1.alike.findClass]; exact hown
        have hZ := hZ2043
        have hS2043 := State.Since.trans hS0 hS2043 (Nat.le_trans hk1994 (by rw [← e1993']; exact hG2043))
        obtain ⟨z2043, rfl, N2043q, E2043, hP2043⟩ := hQ2043
        have N2043 := Fr.app N1993 N2043q
        obtain ⟨h2043, e2043⟩ : ∃ z, z = T2043.heap := ⟨_, rfl⟩
        have e2043' := e2043.symm
        rw [← e2043] at E2043
        rw [e2043'] at hS2043
        have hkc2043 : h2043.size ≤ h2043.size := Nat.le_refl _
        have zs2045 := Nat.le_trans zs1994 E2043.1
        have hk2045 := Nat.le_trans hk1994 E2043.1
        have od2045 := od1994.ext E2043
        rw [e2043'] at cH2043
        have cr2043 := CHr.trans cr1994 cH2043
        have sf2043_b1991 := cH2043.safe ((A1991.keep K1993)).lt sf1994_b1991
        refine own_stp 453 (fun _ k => st2043.trans k) (own_nv (own_il X2043 q d0_453 rfl ?_))
        have hE2046 : z2043 = (0 : Int32) := by
         rcases hP2043 with ⟨hq, r⟩ | ⟨hq, r⟩
         ·exact r.elim
         ·exact hq
        refine own_cn X2043 q d0_455 ((teq (hE2046 : z2043 = (0 : Int32))).2) (own_k X2043 q d0_458 (own_gt X2043 q d0_459 ?_))
        refine own_retNW X2043 hS2043 (by rw [e2043']; exact hkc2043) hx (t := .boolean) Bd.returns (by simp) (q.d d0_463) hlk ?_ (by decide) (by decide)
        exact ⟨rfl, N2043⟩
      ·refine own_cy X1993 q d0_407 ((feq hc407_2032).2) (own_k X1993 q d0_428 (own_is X1993 q d0_429 (l' := #[.val (.int p1), .val (.int p2), .val (.long p3), .second, .val (.long p4), .second, .val v'6, .val (.int z1825), .val (.int z1826), .val (.int z1827), .val (.int z1828), .val (.int z1829), .val (.int z1830), .val (.int z1831), .val (.ref b1976), .val (.ref b1991), .val v'0, .val v'0, .unset]) rfl (own_il X1993 q d0_431 rfl (own_zn X1993 q d0_433 (((if0 _ _).trans (teq (rfl : (0 : Int32) = (0 : Int32))).2)) (own_il X1993 q d0_436 rfl (own_zy X1993 q d0_438 (((if0 _ _).trans (teq (rfl : (0 : Int32) = (0 : Int32))).1)) (own_k X1993 q d0_445 (own_is X1993 q d0_446 (l' := #[.val (.int p1), .val (.int p2), .val (.long p3), .second, .val (.long p4), .second, .val v'6, .val (.int z1825), .val (.int z1826), .val (.int z1827), .val (.int z1828), .val (.int z1829), .val (.int z1830), .val (.int z1831), .val (.ref b1976), .val (.ref b1991), .val v'0, .val v'0, .val v'0]) rfl (own_al X1993 q d0_448 rfl rfl ?_)))))))))
       refine own_let ?_; intro g2048_
       obtain ⟨_, _, ⟨T2047, L2047, k2047, n2047⟩, -, X2047, hS2047, hG2047, ⟨Lc2047, hQ2047, l2047, y2047, z2047, cH2047⟩, st2047⟩ := Jvm.RoadKit.callSS X1993 hx (y := own_y15) hown (mvT hZ (W 33 rfl)) (mvT hZ (W 34 rfl)) (mvT hZ (W 35 rfl)) (mvT hZ (W 36 rfl)) (by decide) (own_backHS (W := 0) (rm7_u l Z a0 hw [] b1991 t1993   cs0 h1993 n0 zs1994 (A1991.keep K1993) Fc Fv1993  od1994 ⟨SCS, hcs⟩ hEL) hZ (W 36 rfl) (W 35 rfl) (by decide) (by decide) hEL ch1994.1 (ss := [b1991]) (allS ⟨((A1991.keep K1993)).lt, sf1994_b1991⟩ all0)) (g := g2048_) rfl (by rw [hml]; rfl) (argsL := [(.ref b1991)]) (rest := []) (lenOf own_pd14 rfl) rfl (by show 2 * 0 + _ ≤ _; exact Nat.le_of_eq rfl) (q.d d0_450) (fun _ _ => ⟨rfl, e1993', (by decide : 4 + 4 ≤ _), (by decide : 28 + 40 ≤ _)⟩)
       dsimp only [Pt.U, Pt.locs, Pt.cells, Pt.slots] at X2047 l2047 y2047 z2047 st2047 hQ2047
       rw [l2047, y2047, z2047] at X2047
       clear l2047 y2047 z2047
       have X2047 : Stand p l e _ (s.setVm T2047.vm) m _ below meth c T2047 _ _ _ := X2047
       have hZ2047 : Z.Warmed39 (s.setVm T2047.vm).vm := State.Warmed39.trans hZ hS2047.1
       have hown : (s.setVm T2047.vm).vm.findClass "com/example/ballast_ledger/ballastledger/cli/HelpIsAskedPinLaw" = some m.cls := by show T2047.vm.findClass _ = _; rw [hS2047.1.alike.findClass]; exact hown
       have hZ := hZ2047
       have hS2047 := State.Since.trans hS0 hS2047 (Nat.le_trans hk1994 (by rw [← e1993']; exact hG2047))
       obtain ⟨z2047, rfl, N2047q, E2047, hP2047⟩ := hQ2047
       have N2047 := Fr.app N1993 N2047q
       obtain ⟨h2047, e2047⟩ : ∃ z, z = T2047.heap := ⟨_, rfl⟩
       have e2047' := e2047.symm
       rw [← e2047] at E2047
       rw [e2047'] at hS2047
       have hkc2047 : h2047.size ≤ h2047.size := Nat.le_refl _
       have zs2049 := Nat.le_trans zs1994 E2047.1
       have hk2049 := Nat.le_trans hk1994 E2047.1
       have od2049 := od1994.ext E2047
       rw [e2047'] at cH2047
       have cr2047 := CHr.trans cr1994 cH2047
       have sf2047_b1991 := cH2047.safe ((A1991.keep K1993)).lt sf1994_b1991
       refine own_stp 453 (fun _ k => st2047.trans k) (own_nv (own_il X2047 q d0_453 rfl ?_))
       have hE2050 : z2047 = (0 : Int32) := by
        rcases hP2047 with ⟨hq, r⟩ | ⟨hq, r⟩
        ·exact r.elim
        ·exact hq
       refine own_cn X2047 q d0_455 ((teq (hE2050 : z2047 = (0 : Int32))).2) (own_k X2047 q d0_458 (own_gt X2047 q d0_459 ?_))
       refine own_retNW X2047 hS2047 (by rw [e2047']; exact hkc2047) hx (t := .boolean) Bd.returns (by simp) (q.d d0_463) hlk ?_ (by decide) (by decide)
       exact ⟨rfl, N2047⟩
     ·refine own_cy X1993 q d0_400 ((feq hc400_2031).2) (own_k X1993 q d0_428 (own_is X1993 q d0_429 (l' := #[.val (.int p1), .val (.int p2), .val (.long p3), .second, .val (.long p4), .second, .val v'6, .val (.int z1825), .val (.int z1826), .val (.int z1827), .val (.int z1828), .val (.int z1829), .val (.int z1830), .val (.int z1831), .val (.ref b1976), .val (.ref b1991), .val v'0, .val v'0, .unset]) rfl (own_il X1993 q d0_431 rfl (own_zn X1993 q d0_433 (((if0 _ _).trans (teq (rfl : (0 : Int32) = (0 : Int32))).2)) (own_il X1993 q d0_436 rfl (own_zy X1993 q d0_438 (((if0 _ _).trans (teq (rfl : (0 : Int32) = (0 : Int32))).1)) (own_k X1993 q d0_445 (own_is X1993 q d0_446 (l' := #[.val (.int p1), .val (.int p2), .val (.long p3), .second, .val (.long p4), .second, .val v'6, .val (.int z1825), .val (.int z1826), .val (.int z1827), .val (.int z1828), .val (.int z1829), .val (.int z1830), .val (.int z1831), .val (.ref b1976), .val (.ref b1991), .val v'0, .val v'0, .val v'0]) rfl (own_al X1993 q d0_448 rfl rfl ?_)))))))))
      refine own_let ?_; intro g2052_
      obtain ⟨_, _, ⟨T2051, L2051, k2051, n2051⟩, -, X2051, hS2051, hG2051, ⟨Lc2051, hQ2051, l2051, y2051, z2051, cH2051⟩, st2051⟩ := Jvm.RoadKit.callSS X1993 hx (y := own_y15) hown (mvT hZ (W 33 rfl)) (mvT hZ (W 34 rfl)) (mvT hZ (W 35 rfl)) (mvT hZ (W 36 rfl)) (by decide) (own_backHS (W := 0) (rm7_u l Z a0 hw [] b1991 t1993   cs0 h1993 n0 zs1994 (A1991.keep K1993) Fc Fv1993  od1994 ⟨SCS, hcs⟩ hEL) hZ (W 36 rfl) (W 35 rfl) (by decide) (by decide) hEL ch1994.1 (ss := [b1991]) (allS ⟨((A1991.keep K1993)).lt, sf1994_b1991⟩ all0)) (g := g2052_) rfl (by rw [hml]; rfl) (argsL := [(.ref b1991)]) (rest := []) (lenOf own_pd14 rfl) rfl (by show 2 * 0 + _ ≤ _; exact Nat.le_of_eq rfl) (q.d d0_450) (fun _ _ => ⟨rfl, e1993', (by decide : 4 + 4 ≤ _), (by decide : 28 + 40 ≤ _)⟩)
      dsimp only [Pt.U, Pt.locs, Pt.cells, Pt.slots] at X2051 l2051 y2051 z2051 st2051 hQ2051
      rw [l2051, y2051, z2051] at X2051
      clear l2051 y2051 z2051
      have X2051 : Stand p l e _ (s.setVm T2051.vm) m _ below meth c T2051 _ _ _ := X2051
      have hZ2051 : Z.Warmed39 (s.setVm T2051.vm).vm := State.Warmed39.trans hZ hS2051.1
      have hown : (s.setVm T2051.vm).vm.findClass "com/example/ballast_ledger/ballastledger/cli/HelpIsAskedPinLaw" = some m.cls := by show T2051.vm.findClass _ = _; rw [hS2051.1.alike.findClass]; exact hown
      have hZ := hZ2051
      have hS2051 := State.Since.trans hS0 hS2051 (Nat.le_trans hk1994 (by rw [← e1993']; exact hG2051))
      obtain ⟨z2051, rfl, N2051q, E2051, hP2051⟩ := hQ2051
      have N2051 := Fr.app N1993 N2051q
      obtain ⟨h2051, e2051⟩ : ∃ z, z = T2051.heap := ⟨_, rfl⟩
      have e2051' := e2051.symm
      rw [← e2051] at E2051
      rw [e2051'] at hS2051
      have hkc2051 : h2051.size ≤ h2051.size := Nat.le_refl _
      have zs2053 := Nat.le_trans zs1994 E2051.1
      have hk2053 := Nat.le_trans hk1994 E2051.1
      have od2053 := od1994.ext E2051
      rw [e2051'] at cH2051
      have cr2051 := CHr.trans cr1994 cH2051
      have sf2051_b1991 := cH2051.safe ((A1991.keep K1993)).lt sf1994_b1991
      refine own_stp 453 (fun _ k => st2051.trans k) (own_nv (own_il X2051 q d0_453 rfl ?_))
      have hE2054 : z2051 = (0 : Int32) := by
       rcases hP2051 with ⟨hq, r⟩ | ⟨hq, r⟩
       ·exact r.elim
       ·exact hq
      refine own_cn X2051 q d0_455 ((teq (hE2054 : z2051 = (0 : Int32))).2) (own_k X2051 q d0_458 (own_gt X2051 q d0_459 ?_))
      refine own_retNW X2051 hS2051 (by rw [e2051']; exact hkc2051) hx (t := .boolean) Bd.returns (by simp) (q.d d0_463) hlk ?_ (by decide) (by decide)
      exact ⟨rfl, N2051⟩
    ·refine own_cy X1993 q d0_393 ((feq hc393_2030).2) (own_k X1993 q d0_428 (own_is X1993 q d0_429 (l' := #[.val (.int p1), .val (.int p2), .val (.long p3), .second, .val (.long p4), .second, .val v'6, .val (.int z1825), .val (.int z1826), .val (.int z1827), .val (.int z1828), .val (.int z1829), .val (.int z1830), .val (.int z1831), .val (.ref b1976), .val (.ref b1991), .val v'0, .val v'0, .unset]) rfl (own_il X1993 q d0_431 rfl (own_zn X1993 q d0_433 (((if0 _ _).trans (teq (rfl : (0 : Int32) = (0 : Int32))).2)) (own_il X1993 q d0_436 rfl (own_zy X1993 q d0_438 (((if0 _ _).trans (teq (rfl : (0 : Int32) = (0 : Int32))).1)) (own_k X1993 q d0_445 (own_is X1993 q d0_446 (l' := #[.val (.int p1), .val (.int p2), .val (.long p3), .second, .val (.long p4), .second, .val v'6, .val (.int z1825), .val (.int z1826), .val (.int z1827), .val (.int z1828), .val (.int z1829), .val (.int z1830), .val (.int z1831), .val (.ref b1976), .val (.ref b1991), .val v'0, .val v'0, .val v'0]) rfl (own_al X1993 q d0_448 rfl rfl ?_)))))))))
     refine own_let ?_; intro g2056_
     obtain ⟨_, _, ⟨T2055, L2055, k2055, n2055⟩, -, X2055, hS2055, hG2055, ⟨Lc2055, hQ2055, l2055, y2055, z2055, cH2055⟩, st2055⟩ := Jvm.RoadKit.callSS X1993 hx (y := own_y15) hown (mvT hZ (W 33 rfl)) (mvT hZ (W 34 rfl)) (mvT hZ (W 35 rfl)) (mvT hZ (W 36 rfl)) (by decide) (own_backHS (W := 0) (rm7_u l Z a0 hw [] b1991 t1993   cs0 h1993 n0 zs1994 (A1991.keep K1993) Fc Fv1993  od1994 ⟨SCS, hcs⟩ hEL) hZ (W 36 rfl) (W 35 rfl) (by decide) (by decide) hEL ch1994.1 (ss := [b1991]) (allS ⟨((A1991.keep K1993)).lt, sf1994_b1991⟩ all0)) (g := g2056_) rfl (by rw [hml]; rfl) (argsL := [(.ref b1991)]) (rest := []) (lenOf own_pd14 rfl) rfl (by show 2 * 0 + _ ≤ _; exact Nat.le_of_eq rfl) (q.d d0_450) (fun _ _ => ⟨rfl, e1993', (by decide : 4 + 4 ≤ _), (by decide : 28 + 40 ≤ _)⟩)
     dsimp only [Pt.U, Pt.locs, Pt.cells, Pt.slots] at X2055 l2055 y2055 z2055 st2055 hQ2055
     rw [l2055, y2055, z2055] at X2055
     clear l2055 y2055 z2055
     have X2055 : Stand p l e _ (s.setVm T2055.vm) m _ below meth c T2055 _ _ _ := X2055
     have hZ2055 : Z.Warmed39 (s.setVm T2055.vm).vm := State.Warmed39.trans hZ hS2055.1
     have hown : (s.setVm T2055.vm).vm.findClass "com/example/ballast_ledger/ballastledger/cli/HelpIsAskedPinLaw" = some m.cls := by show T2055.vm.findClass _ = _; rw [hS2055.1.alike.findClass]; exact hown
     have hZ := hZ2055
     have hS2055 := State.Since.trans hS0 hS2055 (Nat.le_trans hk1994 (by rw [← e1993']; exact hG2055))
     obtain ⟨z2055, rfl, N2055q, E2055, hP2055⟩ := hQ2055
     have N2055 := Fr.app N1993 N2055q
     obtain ⟨h2055, e2055⟩ : ∃ z, z = T2055.heap := ⟨_, rfl⟩
     have e2055' := e2055.symm
     rw [← e2055] at E2055
     rw [e2055'] at hS2055
     have hkc2055 : h2055.size ≤ h2055.size := Nat.le_refl _
     have zs2057 := Nat.le_trans zs1994 E2055.1
     have hk2057 := Nat.le_trans hk1994 E2055.1
     have od2057 := od1994.ext E2055
     rw [e2055'] at cH2055
     have cr2055 := CHr.trans cr1994 cH2055
     have sf2055_b1991 := cH2055.safe ((A1991.keep K1993)).lt sf1994_b1991
     refine own_stp 453 (fun _ k => st2055.trans k) (own_nv (own_il X2055 q d0_453 rfl ?_))
     have hE2058 : z2055 = (0 : Int32) := by
      rcases hP2055 with ⟨hq, r⟩ | ⟨hq, r⟩
      ·exact r.elim
      ·exact hq
     refine own_cn X2055 q d0_455 ((teq (hE2058 : z2055 = (0 : Int32))).2) (own_k X2055 q d0_458 (own_gt X2055 q d0_459 ?_))
     refine own_retNW X2055 hS2055 (by rw [e2055']; exact hkc2055) hx (t := .boolean) Bd.returns (by simp) (q.d d0_463) hlk ?_ (by decide) (by decide)
     exact ⟨rfl, N2055⟩
   ·refine own_cy X1993 q d0_386 ((feq hc386_2029).2) (own_k X1993 q d0_428 (own_is X1993 q d0_429 (l' := #[.val (.int p1), .val (.int p2), .val (.long p3), .second, .val (.long p4), .second, .val v'6, .val (.int z1825), .val (.int z1826), .val (.int z1827), .val (.int z1828), .val (.int z1829), .val (.int z1830), .val (.int z1831), .val (.ref b1976), .val (.ref b1991), .val v'0, .val v'0, .unset]) rfl (own_il X1993 q d0_431 rfl (own_zn X1993 q d0_433 (((if0 _ _).trans (teq (rfl : (0 : Int32) = (0 : Int32))).2)) (own_il X1993 q d0_436 rfl (own_zy X1993 q d0_438 (((if0 _ _).trans (teq (rfl : (0 : Int32) = (0 : Int32))).1)) (own_k X1993 q d0_445 (own_is X1993 q d0_446 (l' := #[.val (.int p1), .val (.int p2), .val (.long p3), .second, .val (.long p4), .second, .val v'6, .val (.int z1825), .val (.int z1826), .val (.int z1827), .val (.int z1828), .val (.int z1829), .val (.int z1830), .val (.int z1831), .val (.ref b1976), .val (.ref b1991), .val v'0, .val v'0, .val v'0]) rfl (own_al X1993 q d0_448 rfl rfl ?_)))))))))
    refine own_let ?_; intro g2060_
    obtain ⟨_, _, ⟨T2059, L2059, k2059, n2059⟩, -, X2059, hS2059, hG2059, ⟨Lc2059, hQ2059, l2059, y2059, z2059, cH2059⟩, st2059⟩ := Jvm.RoadKit.callSS X1993 hx (y := own_y15) hown (mvT hZ (W 33 rfl)) (mvT hZ (W 34 rfl)) (mvT hZ (W 35 rfl)) (mvT hZ (W 36 rfl)) (by decide) (own_backHS (W := 0) (rm7_u l Z a0 hw [] b1991 t1993   cs0 h1993 n0 zs1994 (A1991.keep K1993) Fc Fv1993  od1994 ⟨SCS, hcs⟩ hEL) hZ (W 36 rfl) (W 35 rfl) (by decide) (by decide) hEL ch1994.1 (ss := [b1991]) (allS ⟨((A1991.keep K1993)).lt, sf1994_b1991⟩ all0)) (g := g2060_) rfl (by rw [hml]; rfl) (argsL := [(.ref b1991)]) (rest := []) (lenOf own_pd14 rfl) rfl (by show 2 * 0 + _ ≤ _; exact Nat.le_of_eq rfl) (q.d d0_450) (fun _ _ => ⟨rfl, e1993', (by decide : 4 + 4 ≤ _), (by decide : 28 + 40 ≤ _)⟩)
    dsimp only [Pt.U, Pt.locs, Pt.cells, Pt.slots] at X2059 l2059 y2059 z2059 st2059 hQ2059
    rw [l2059, y2059, z2059] at X2059
    clear l2059 y2059 z2059
    have X2059 : Stand p l e _ (s.setVm T2059.vm) m _ below meth c T2059 _ _ _ := X2059
    have hZ2059 : Z.Warmed39 (s.setVm T2059.vm).vm := State.Warmed39.trans hZ hS2059.1
    have hown : (s.setVm T2059.vm).vm.findClass "com/example/ballast_ledger/ballastledger/cli/HelpIsAskedPinLaw" = some m.cls := by show T2059.vm.findClass _ = _; rw [hS2059.1.alike.findClass]; exact hown
    have hZ := hZ2059
    have hS2059 := State.Since.trans hS0 hS2059 (Nat.le_trans hk1994 (by rw [← e1993']; exact hG2059))
    obtain ⟨z2059, rfl, N2059q, E2059, hP2059⟩ := hQ2059
    have N2059 := Fr.app N1993 N2059q
    obtain ⟨h2059, e2059⟩ : ∃ z, z = T2059.heap := ⟨_, rfl⟩
    have e2059' := e2059.symm
    rw [← e2059] at E2059
    rw [e2059'] at hS2059
    have hkc2059 : h2059.size ≤ h2059.size := Nat.le_refl _
    have zs2061 := Nat.le_trans zs1994 E2059.1
    have hk2061 := Nat.le_trans hk1994 E2059.1
    have od2061 := od1994.ext E2059
    rw [e2059'] at cH2059
    have cr2059 := CHr.trans cr1994 cH2059
    have sf2059_b1991 := cH2059.safe ((A1991.keep K1993)).lt sf1994_b1991
    refine own_stp 453 (fun _ k => st2059.trans k) (own_nv (own_il X2059 q d0_453 rfl ?_))
    have hE2062 : z2059 = (0 : Int32) := by
     rcases hP2059 with ⟨hq, r⟩ | ⟨hq, r⟩
     ·exact r.elim
     ·exact hq
    refine own_cn X2059 q d0_455 ((teq (hE2062 : z2059 = (0 : Int32))).2) (own_k X2059 q d0_458 (own_gt X2059 q d0_459 ?_))
    refine own_retNW X2059 hS2059 (by rw [e2059']; exact hkc2059) hx (t := .boolean) Bd.returns (by simp) (q.d d0_463) hlk ?_ (by decide) (by decide)
    exact ⟨rfl, N2059⟩
 ·rw [hl]
  show own_Fin _ _ _ _ (T1831.setTop (mkF m 91 #[.val (.int p1), .val (.int p2), .val (.long p3), .second, .val (.long p4), .second, .val v'7, .val (.int z1825), .val (.int z1826), .val (.int z1827), .val (.int z1828), .val (.int z1829), .val (.int z1830), .val (.int z1831), .unset, .unset, .unset, .unset, .unset] []))
  refine own_il X1831 q d0_91 rfl (own_zy X1831 q d0_93 (((if0 _ _).trans (feq ((by decide) : ¬ ((7 : Int32) = (0 : Int32)))).2)) (own_il X1831 q d0_104 rfl (own_k X1831 q d0_106 (own_cy X1831 q d0_107 ((feq ((by decide) : ¬ ((7 : Int32) = (1 : Int32)))).2) (own_il X1831 q d0_123 rfl (own_k X1831 q d0_125 (own_cy X1831 q d0_126 ((feq ((by decide) : ¬ ((7 : Int32) = (2 : Int32)))).2) (own_il X1831 q d0_147 rfl (own_k X1831 q d0_149 (own_cy X1831 q d0_150 ((feq ((by decide) : ¬ ((7 : Int32) = (3 : Int32)))).2) (own_il X1831 q d0_176 rfl ?_)))))))))))
  refine own_k X1831 q d0_178 (own_cy X1831 q d0_179 ((feq ((by decide) : ¬ ((7 : Int32) = (4 : Int32)))).2) (own_il X1831 q d0_210 rfl (own_k X1831 q d0_212 (own_cy X1831 q d0_213 ((feq ((by decide) : ¬ ((7 : Int32) = (5 : Int32)))).2) (own_il X1831 q d0_249 rfl (own_k X1831 q d0_251 (own_cy X1831 q d0_253 ((feq ((by decide) : ¬ ((7 : Int32) = (6 : Int32)))).2) (own_k X1831 q d0_295 ?_))))))))
  refine own_let ?_; intro g2063_
  obtain ⟨T2064, h2064, k2064, X2064, e2064, E2064, A2064, st2064⟩ := newP X1831 hx hZ (W 11 rfl) e1831 (g := g2063_) rfl (q.d d0_297) rfl (by decide) (cap := 7) (by decide) (by decide) (by decide) (by decide)
  obtain ⟨b2064, g2064⟩ : ∃ z, z = h0.size := ⟨_, rfl⟩
  rw [← g2064] at A2064 st2064
  have V2064 : Arv Z h2064 b2064 k2064 .char (7 : Int32) [v'0, v'0, v'0, v'0, v'0, v'0, v'0] v'0 := (Arv.new A2064 (by decide)).pad (pad_rep [] v'0 7)
  have ch2065 := CHr.ext E2064 hCH
  have cr2065 := CHr.trans hCR ch2065
  have zs2065 := Nat.le_trans Z0 E2064.1
  have hk2065 := Nat.le_trans hk0 E2064.1
  have od2065 := O0.ext E2064
  have g_b2064 : n0 ≤ b2064 := Nat.le_trans Z0 (Nat.le_of_eq g2064.symm)
  refine own_stp 299 st2064 (own_dp X2064 q d0_299 rfl (own_k X2064 q d0_300 (own_il X2064 q d0_301 rfl ?_)))
  refine own_cst X2064 q hZ e2064 V2064 d0_303 (by decide) (Nat.le_of_ble_eq_true rfl) N1831 g_b2064 fun T2066 h2066 X2066 e2066 W2066 V2066 N2066 => ?_
  have ch2067 := CHr.wr W2066 (Safe.arv hZ.alike V2064 (by decide)) ch2065.1
  have cr2067 := CHr.trans cr2065 ch2067
  have zs2067 := Nat.le_trans zs2065 (Keep.of_wr W2066).1
  have hk2067 := Nat.le_trans hk2065 (Keep.of_wr W2066).1
  have od2067 := od2065.wr W2066 g_b2064
  refine own_dp X2066 q d0_304 rfl (own_k X2066 q d0_305 (own_il X2066 q d0_306 rfl ?_))
  refine own_cst X2066 q hZ e2066 V2066 d0_308 (by decide) (Nat.le_of_ble_eq_true rfl) N2066 g_b2064 fun T2068 h2068 X2068 e2068 W2068 V2068 N2068 => ?_
  have ch2069 := CHr.wr W2068 (Safe.arv hZ.alike V2066 (by decide)) ch2067.1
  have cr2069 := CHr.trans cr2067 ch2069
  have zs2069 := Nat.le_trans zs2067 (Keep.of_wr W2068).1
  have hk2069 := Nat.le_trans hk2067 (Keep.of_wr W2068).1
  have od2069 := od2067.wr W2068 g_b2064
  refine own_dp X2068 q d0_309 rfl (own_k X2068 q d0_310 (own_il X2068 q d0_311 rfl ?_))
  refine own_cst X2068 q hZ e2068 V2068 d0_313 (by decide) (Nat.le_of_ble_eq_true rfl) N2068 g_b2064 fun T2070 h2070 X2070 e2070 W2070 V2070 N2070 => ?_
  have ch2071 := CHr.wr W2070 (Safe.arv hZ.alike V2068 (by decide)) ch2069.1
  have cr2071 := CHr.trans cr2069 ch2071
  have zs2071 := Nat.le_trans zs2069 (Keep.of_wr W2070).1
  have hk2071 := Nat.le_trans hk2069 (Keep.of_wr W2070).1
  have od2071 := od2069.wr W2070 g_b2064
  refine own_dp X2070 q d0_314 rfl (own_k X2070 q d0_315 (own_il X2070 q d0_316 rfl ?_))
  refine own_cst X2070 q hZ e2070 V2070 d0_318 (by decide) (Nat.le_of_ble_eq_true rfl) N2070 g_b2064 fun T2072 h2072 X2072 e2072 W2072 V2072 N2072 => ?_
  have ch2073 := CHr.wr W2072 (Safe.arv hZ.alike V2070 (by decide)) ch2071.1
  have cr2073 := CHr.trans cr2071 ch2073
  have zs2073 := Nat.le_trans zs2071 (Keep.of_wr W2072).1
  have hk2073 := Nat.le_trans hk2071 (Keep.of_wr W2072).1
  have od2073 := od2071.wr W2072 g_b2064
  refine own_dp X2072 q d0_319 rfl (own_k X2072 q d0_320 (own_il X2072 q d0_321 rfl ?_))
  refine own_cst X2072 q hZ e2072 V2072 d0_323 (by decide) (Nat.le_of_ble_eq_true rfl) N2072 g_b2064 fun T2074 h2074 X2074 e2074 W2074 V2074 N2074 => ?_
  have ch2075 := CHr.wr W2074 (Safe.arv hZ.alike V2072 (by decide)) ch2073.1
  have cr2075 := CHr.trans cr2073 ch2075
  have zs2075 := Nat.le_trans zs2073 (Keep.of_wr W2074).1
  have hk2075 := Nat.le_trans hk2073 (Keep.of_wr W2074).1
  have od2075 := od2073.wr W2074 g_b2064
  refine own_dp X2074 q d0_324 rfl (own_k X2074 q d0_325 (own_il X2074 q d0_326 rfl ?_))
  refine own_cst X2074 q hZ e2074 V2074 d0_328 (by decide) (Nat.le_of_ble_eq_true rfl) N2074 g_b2064 fun T2076 h2076 X2076 e2076 W2076 V2076 N2076 => ?_
  have ch2077 := CHr.wr W2076 (Safe.arv hZ.alike V2074 (by decide)) ch2075.1
  have cr2077 := CHr.trans cr2075 ch2077
  have zs2077 := Nat.le_trans zs2075 (Keep.of_wr W2076).1
  have hk2077 := Nat.le_trans hk2075 (Keep.of_wr W2076).1
  have od2077 := od2075.wr W2076 g_b2064
  refine own_dp X2076 q d0_329 rfl (own_k X2076 q d0_330 (own_il X2076 q d0_332 rfl ?_))
  refine own_cst X2076 q hZ e2076 V2076 d0_334 (by decide) (Nat.le_of_ble_eq_true rfl) N2076 g_b2064 fun T2078 h2078 X2078 e2078 W2078 V2078 N2078 => ?_
  have ch2079 := CHr.wr W2078 (Safe.arv hZ.alike V2076 (by decide)) ch2077.1
  have cr2079 := CHr.trans cr2077 ch2079
  have zs2079 := Nat.le_trans zs2077 (Keep.of_wr W2078).1
  have hk2079 := Nat.le_trans hk2077 (Keep.of_wr W2078).1
  have od2079 := od2077.wr W2078 g_b2064
  refine own_as X2078 q d0_335 rfl (l' := #[.val (.int p1), .val (.int p2), .val (.long p3), .second, .val (.long p4), .second, .val v'7, .val (.int z1825), .val (.int z1826), .val (.int z1827), .val (.int z1828), .val (.int z1829), .val (.int z1830), .val (.int z1831), .val (.ref b2064), .unset, .unset, .unset, .unset]) rfl ?_
  refine own_let ?_; intro g2080_
  obtain ⟨T2081, h2081, X2081, e2081, E2081, A2081, D2081, -, st2081⟩ := newO X2078 hx hZ hown (W 12 rfl) (W 13 rfl) (W 14 rfl) e2078 (g := g2080_) rfl (q.d d0_337) (by decide) (by decide)
  obtain ⟨b2081, g2081⟩ : ∃ z, z = h2078.size := ⟨_, rfl⟩
  rw [← g2081] at A2081 D2081 st2081
  have ch2082 := CHr.ext E2081 ch2079.1
  have cr2082 := CHr.trans cr2079 ch2082
  have zs2082 := Nat.le_trans zs2079 E2081.1
  have hk2082 := Nat.le_trans hk2079 E2081.1
  have od2082 := od2079.ext E2081
  have g_b2081 : n0 ≤ b2081 := Nat.le_trans zs2079 (Nat.le_of_eq g2081.symm)
  have sf_b2081 := Safe.ext E2081 ch2079.1 (Safe.new (Nat.le_of_eq g2081.symm))
  have F2081_value : F'1 Z h2081 b2081 .null := D2081 (Or.inr (W 27 rfl)) (ty := (.array .byte)) (by decide)
  have F2081_coder : F'0 Z h2081 b2081 v'0 := D2081 (Or.inr (W 28 rfl)) (ty := .byte) (by decide)
  refine own_stq 340 [(.ref b2081)] st2081 (own_dp X2081 q d0_340 rfl (own_al X2081 q d0_341 rfl rfl ?_))
  refine own_cIh (a := b2081) X2081 q hZ e2081 hown hml (W 15 rfl) (W 16 rfl) (W 14 rfl) (W 17 rfl) (rm4_7 l Z a0 hw b2081 b2064 k2064 (nar .char z1825) (nar .char z1826) (nar .char z1827) (nar .char z1828) (nar .char z1829) (nar .char z1830) (nar .char z1831) cs0 h2081 n0 zs2082 A2081 F2081_value F2081_coder (V2078.ext E2081) g_b2081 (Ne.symm (own_ne (V2078).lt (Nat.le_of_eq g2081.symm))) od2082 ⟨SCS, hcs⟩ ⟨SAD, SHI, SLO⟩ (own_nc16 _) (own_nc16 _) (own_nc16 _) (own_nc16 _) (own_nc16 _) (own_nc16 _) (own_nc16 _)) d0_343 [(.ref b2064)] [(.ref b2081)] own_pd13 rfl rfl 1 (Nat.le_refl _) rfl (by decide) (fun v2083 T2083 L2083 h2083 e2083' X2083 hQ2083 => ?_)
  obtain ⟨t2083, k2083, rfl, N2083q, K2083, lo2083, Fv2083, D2083⟩ := hQ2083
  have N2083 := Fr.app N2078 N2083q
  have ch2084 := CHr.keep K2083 (sfS sf_b2081 sf0) ch2082.1
  have cr2084 := CHr.trans cr2082 ch2084
  have sf2084_b2081 := Safe.keep K2083 (sfS sf_b2081 sf0) ch2082.1 sf_b2081
  have zs2084 := Nat.le_trans zs2082 K2083.1
  have hk2084 := Nat.le_trans hk2082 K2083.1
  have od2084 := od2082.keep K2083 (allS g_b2081 all0)
  have g_t2083 : n0 ≤ t2083 := Nat.le_trans zs2082 lo2083
  refine own_nn ?_
  rcases D2083 with ⟨Fc, hA, hV⟩ | ⟨Fc, hA, hV⟩
  ·have hA_ := hA
   show own_Fin _ _ _ _ (T2083.setTop (mkF m 346 #[.val (.int p1), .val (.int p2), .val (.long p3), .second, .val (.long p4), .second, .val v'7, .val (.int z1825), .val (.int z1826), .val (.int z1827), .val (.int z1828), .val (.int z1829), .val (.int z1830), .val (.int z1831), .val (.ref b2064), .unset, .unset, .unset, .unset] [(.ref b2081)]))
   refine own_as X2083 q d0_346 rfl (l' := #[.val (.int p1), .val (.int p2), .val (.long p3), .second, .val (.long p4), .second, .val v'7, .val (.int z1825), .val (.int z1826), .val (.int z1827), .val (.int z1828), .val (.int z1829), .val (.int z1830), .val (.int z1831), .val (.ref b2064), .val (.ref b2081), .unset, .unset, .unset]) rfl (own_il X2083 q d0_348 rfl (own_k X2083 q d0_350 (own_cy X2083 q d0_351 ((feq ((by decide) : ¬ ((7 : Int32) = (2 : Int32)))).2) (own_k X2083 q d0_372 (own_is X2083 q d0_373 (l' := #[.val (.int p1), .val (.int p2), .val (.long p3), .second, .val (.long p4), .second, .val v'7, .val (.int z1825), .val (.int z1826), .val (.int z1827), .val (.int z1828), .val (.int z1829), .val (.int z1830), .val (.int z1831), .val (.ref b2064), .val (.ref b2081), .val v'0, .unset, .unset]) rfl (own_il X2083 q d0_375 rfl (own_k X2083 q d0_377 (own_cy X2083 q d0_379 ((feq ((by decide) : ¬ ((7 : Int32) = (6 : Int32)))).2) (own_k X2083 q d0_428 (own_is X2083 q d0_429 (l' := #[.val (.int p1), .val (.int p2), .val (.long p3), .second, .val (.long p4), .second, .val v'7, .val (.int z1825), .val (.int z1826), .val (.int z1827), .val (.int z1828), .val (.int z1829), .val (.int z1830), .val (.int z1831), .val (.ref b2064), .val (.ref b2081), .val v'0, .val v'0, .unset]) rfl (own_il X2083 q d0_431 rfl ?_)))))))))))
   refine own_zn X2083 q d0_433 (((if0 _ _).trans (teq (rfl : (0 : Int32) = (0 : Int32))).2)) (own_il X2083 q d0_436 rfl (own_zy X2083 q d0_438 (((if0 _ _).trans (teq (rfl : (0 : Int32) = (0 : Int32))).1)) (own_k X2083 q d0_445 (own_is X2083 q d0_446 (l' := #[.val (.int p1), .val (.int p2), .val (.long p3), .second, .val (.long p4), .second, .val v'7, .val (.int z1825), .val (.int z1826), .val (.int z1827), .val (.int z1828), .val (.int z1829), .val (.int z1830), .val (.int z1831), .val (.ref b2064), .val (.ref b2081), .val v'0, .val v'0, .val v'0]) rfl (own_al X2083 q d0_448 rfl rfl ?_)))))
   refine own_let ?_; intro g2086_
   obtain ⟨_, _, ⟨T2085, L2085, k2085, n2085⟩, -, X2085, hS2085, hG2085, ⟨Lc2085, hQ2085, l2085, y2085, z2085, cH2085⟩, st2085⟩ := Jvm.RoadKit.callSS X2083 hx (y := own_y15) hown (mvT hZ (W 33 rfl)) (mvT hZ (W 34 rfl)) (mvT hZ (W 35 rfl)) (mvT hZ (W 36 rfl)) (by decide) (own_backHS (W := 0) (rm7_7 l Z a0 hw [] b2081 t2083 k2083 (nar .byte ((nar .char z1825).toInt8.toInt32)) (nar .byte ((nar .char z1826).toInt8.toInt32)) (nar .byte ((nar .char z1827).toInt8.toInt32)) (nar .byte ((nar .char z1828).toInt8.toInt32)) (nar .byte ((nar .char z1829).toInt8.toInt32)) (nar .byte ((nar .char z1830).toInt8.toInt32)) (nar .byte ((nar .char z1831).toInt8.toInt32)) cs0 h2083 n0 zs2084 (A2081.keep K2083) Fc Fv2083 hV od2084 ⟨SCS, hcs⟩ hEL) hZ (W 36 rfl) (W 35 rfl) (by decide) (by decide) hEL ch2084.1 (ss := [b2081]) (allS ⟨((A2081.keep K2083)).lt, sf2084_b2081⟩ all0)) (g := g2086_) rfl (by rw [hml]; rfl) (argsL := [(.ref b2081)]) (rest := []) (lenOf own_pd14 rfl) rfl (by show 2 * 0 + _ ≤ _; exact Nat.le_of_eq rfl) (q.d d0_450) (fun _ _ => ⟨rfl, e2083', (by decide : 4 + 4 ≤ _), (by decide : 32 + 40 ≤ _)⟩)
   dsimp only [Pt.U, Pt.locs, Pt.cells, Pt.slots] at X2085 l2085 y2085 z2085 st2085 hQ2085
   rw [l2085, y2085, z2085] at X2085
   clear l2085 y2085 z2085
   have X2085 : Stand p l e _ (s.setVm T2085.vm) m _ below meth c T2085 _ _ _ := X2085
   have hZ2085 : Z.Warmed39 (s.setVm T2085.vm).vm := State.Warmed39.trans hZ hS2085.1
   have hown : (s.setVm T2085.vm).vm.findClass "com/example/ballast_ledger/ballastledger/cli/HelpIsAskedPinLaw" = some m.cls := by show T2085.vm.findClass _ = _; rw [hS2085.1.alike.findClass]; exact hown
   have hZ := hZ2085
   have hS2085 := State.Since.trans hS0 hS2085 (Nat.le_trans hk2084 (by rw [← e2083']; exact hG2085))
   obtain ⟨z2085, rfl, N2085q, E2085, hP2085⟩ := hQ2085
   have N2085 := Fr.app N2083 N2085q
   obtain ⟨h2085, e2085⟩ : ∃ z, z = T2085.heap := ⟨_, rfl⟩
   have e2085' := e2085.symm
   rw [← e2085] at E2085
   rw [e2085'] at hS2085
   have hkc2085 : h2085.size ≤ h2085.size := Nat.le_refl _
   have zs2087 := Nat.le_trans zs2084 E2085.1
   have hk2087 := Nat.le_trans hk2084 E2085.1
   have od2087 := od2084.ext E2085
   rw [e2085'] at cH2085
   have cr2085 := CHr.trans cr2084 cH2085
   have sf2085_b2081 := cH2085.safe ((A2081.keep K2083)).lt sf2084_b2081
   refine own_stp 453 (fun _ k => st2085.trans k) (own_nv (own_il X2085 q d0_453 rfl ?_))
   have hE2088 : z2085 = (0 : Int32) := by
    rcases hP2085 with ⟨hq, r⟩ | ⟨hq, r⟩
    ·exfalso
     simp at r
    ·exact hq
   refine own_cn X2085 q d0_455 ((teq (hE2088 : z2085 = (0 : Int32))).2) (own_k X2085 q d0_458 (own_gt X2085 q d0_459 ?_))
   refine own_retNW X2085 hS2085 (by rw [e2085']; exact hkc2085) hx (t := .boolean) Bd.returns (by simp) (q.d d0_463) hlk ?_ (by decide) (by decide)
   exact ⟨rfl, N2085⟩
  ·have hA_ := hA
   show own_Fin _ _ _ _ (T2083.setTop (mkF m 346 #[.val (.int p1), .val (.int p2), .val (.long p3), .second, .val (.long p4), .second, .val v'7, .val (.int z1825), .val (.int z1826), .val (.int z1827), .val (.int z1828), .val (.int z1829), .val (.int z1830), .val (.int z1831), .val (.ref b2064), .unset, .unset, .unset, .unset] [(.ref b2081)]))
   refine own_as X2083 q d0_346 rfl (l' := #[.val (.int p1), .val (.int p2), .val (.long p3), .second, .val (.long p4), .second, .val v'7, .val (.int z1825), .val (.int z1826), .val (.int z1827), .val (.int z1828), .val (.int z1829), .val (.int z1830), .val (.int z1831), .val (.ref b2064), .val (.ref b2081), .unset, .unset, .unset]) rfl (own_il X2083 q d0_348 rfl (own_k X2083 q d0_350 (own_cy X2083 q d0_351 ((feq ((by decide) : ¬ ((7 : Int32) = (2 : Int32)))).2) (own_k X2083 q d0_372 (own_is X2083 q d0_373 (l' := #[.val (.int p1), .val (.int p2), .val (.long p3), .second, .val (.long p4), .second, .val v'7, .val (.int z1825), .val (.int z1826), .val (.int z1827), .val (.int z1828), .val (.int z1829), .val (.int z1830), .val (.int z1831), .val (.ref b2064), .val (.ref b2081), .val v'0, .unset, .unset]) rfl (own_il X2083 q d0_375 rfl (own_k X2083 q d0_377 (own_cy X2083 q d0_379 ((feq ((by decide) : ¬ ((7 : Int32) = (6 : Int32)))).2) (own_k X2083 q d0_428 (own_is X2083 q d0_429 (l' := #[.val (.int p1), .val (.int p2), .val (.long p3), .second, .val (.long p4), .second, .val v'7, .val (.int z1825), .val (.int z1826), .val (.int z1827), .val (.int z1828), .val (.int z1829), .val (.int z1830), .val (.int z1831), .val (.ref b2064), .val (.ref b2081), .val v'0, .val v'0, .unset]) rfl (own_il X2083 q d0_431 rfl ?_)))))))))))
   refine own_zn X2083 q d0_433 (((if0 _ _).trans (teq (rfl : (0 : Int32) = (0 : Int32))).2)) (own_il X2083 q d0_436 rfl (own_zy X2083 q d0_438 (((if0 _ _).trans (teq (rfl : (0 : Int32) = (0 : Int32))).1)) (own_k X2083 q d0_445 (own_is X2083 q d0_446 (l' := #[.val (.int p1), .val (.int p2), .val (.long p3), .second, .val (.long p4), .second, .val v'7, .val (.int z1825), .val (.int z1826), .val (.int z1827), .val (.int z1828), .val (.int z1829), .val (.int z1830), .val (.int z1831), .val (.ref b2064), .val (.ref b2081), .val v'0, .val v'0, .val v'0]) rfl (own_al X2083 q d0_448 rfl rfl ?_)))))
   refine own_let ?_; intro g2090_
   obtain ⟨_, _, ⟨T2089, L2089, k2089, n2089⟩, -, X2089, hS2089, hG2089, ⟨Lc2089, hQ2089, l2089, y2089, z2089, cH2089⟩, st2089⟩ := Jvm.RoadKit.callSS X2083 hx (y := own_y15) hown (mvT hZ (W 33 rfl)) (mvT hZ (W 34 rfl)) (mvT hZ (W 35 rfl)) (mvT hZ (W 36 rfl)) (by decide) (own_backHS (W := 0) (rm7_u l Z a0 hw [] b2081 t2083   cs0 h2083 n0 zs2084 (A2081.keep K2083) Fc Fv2083  od2084 ⟨SCS, hcs⟩ hEL) hZ (W 36 rfl) (W 35 rfl) (by decide) (by decide) hEL ch2084.1 (ss := [b2081]) (allS ⟨((A2081.keep K2083)).lt, sf2084_b2081⟩ all0)) (g := g2090_) rfl (by rw [hml]; rfl) (argsL := [(.ref b2081)]) (rest := []) (lenOf own_pd14 rfl) rfl (by show 2 * 0 + _ ≤ _; exact Nat.le_of_eq rfl) (q.d d0_450) (fun _ _ => ⟨rfl, e2083', (by decide : 4 + 4 ≤ _), (by decide : 32 + 40 ≤ _)⟩)
   dsimp only [Pt.U, Pt.locs, Pt.cells, Pt.slots] at X2089 l2089 y2089 z2089 st2089 hQ2089
   rw [l2089, y2089, z2089] at X2089
   clear l2089 y2089 z2089
   have X2089 : Stand p l e _ (s.setVm T2089.vm) m _ below meth c T2089 _ _ _ := X2089
   have hZ2089 : Z.Warmed39 (s.setVm T2089.vm).vm := State.Warmed39.trans hZ hS2089.1
   have hown : (s.setVm T2089.vm).vm.findClass "com/example/ballast_ledger/ballastledger/cli/HelpIsAskedPinLaw" = some m.cls := by show T2089.vm.findClass _ = _; rw [hS2089.1.alike.findClass]; exact hown
   have hZ := hZ2089
   have hS2089 := State.Since.trans hS0 hS2089 (Nat.le_trans hk2084 (by rw [← e2083']; exact hG2089))
   obtain ⟨z2089, rfl, N2089q, E2089, hP2089⟩ := hQ2089
   have N2089 := Fr.app N2083 N2089q
   obtain ⟨h2089, e2089⟩ : ∃ z, z = T2089.heap := ⟨_, rfl⟩
   have e2089' := e2089.symm
   rw [← e2089] at E2089
   rw [e2089'] at hS2089
   have hkc2089 : h2089.size ≤ h2089.size := Nat.le_refl _
   have zs2091 := Nat.le_trans zs2084 E2089.1
   have hk2091 := Nat.le_trans hk2084 E2089.1
   have od2091 := od2084.ext E2089
   rw [e2089'] at cH2089
   have cr2089 := CHr.trans cr2084 cH2089
   have sf2089_b2081 := cH2089.safe ((A2081.keep K2083)).lt sf2084_b2081
   refine own_stp 453 (fun _ k => st2089.trans k) (own_nv (own_il X2089 q d0_453 rfl ?_))
   have hE2092 : z2089 = (0 : Int32) := by
    rcases hP2089 with ⟨hq, r⟩ | ⟨hq, r⟩
    ·exact r.elim
    ·exact hq
   refine own_cn X2089 q d0_455 ((teq (hE2092 : z2089 = (0 : Int32))).2) (own_k X2089 q d0_458 (own_gt X2089 q d0_459 ?_))
   refine own_retNW X2089 hS2089 (by rw [e2089']; exact hkc2089) hx (t := .boolean) Bd.returns (by simp) (q.d d0_463) hlk ?_ (by decide) (by decide)
   exact ⟨rfl, N2089⟩
set_option maxRecDepth 65536 in
set_option maxHeartbeats 40000000 in
theorem comes_1 {Post : Tables → Env → Array Value → State → Outcome → State → Prop} (hpost : ∀ tb e args s v u, (limb_1_1.after args s (.returned v) u = true ∧ limb_1_2.after args s (.returned v) u = true ∧ True) → ReturnedEndW s (.returned v) u (Jvm.fieldLocs frame_1_writes args s ++ Jvm.arrayLocs frame_1_arrays args s ++ Jvm.staticLocs frame_1_statics s) 24 3264 → Post tb e args s (.returned v) u) :
  ArmFor flags0 classFile x code maxLocals ret World_1 tables_1 room_1 Calls_1 rest_1 Pre_1 Post := by
 intro l hfl _ _ p e ha hc hk s m args below hf hA hF happ hP
 obtain ⟨hcalls, hrest, hpre⟩ := hP
 obtain ⟨-, -, -, hnamed, -, -, -, hat⟩ := (Spec.applies_iff hf).mp happ
 obtain ⟨hg, hn⟩ := and_e (Cond.before_iff.mp (show (Jvm.Cond.and given_1 narrow_1).before args s = true from hpre))
 obtain ⟨g0, hg⟩ := and_e hg
 obtain ⟨g1, hg⟩ := and_e hg
 obtain ⟨g2, hg⟩ := and_e hg
 obtain ⟨g3, g4⟩ := and_e hg
 obtain ⟨w0, w1, w2, w3, rfl⟩ : ∃ w0 w1 w2 w3 : Value, args = #[w0, w1, w2, w3] := by
  have hs : args.size = 4 := by simpa [Cond.value, given_1] using g0
  obtain ⟨L⟩ := args
  match L, hs with
  | [w0, w1, w2, w3], _ => exact ⟨w0, w1, w2, w3, rfl⟩
 have hw := fun d (hd : d ∈ tables_1) => atoms_spec (ws := Jvm.Cond.code x code maxLocals ret :: tables_1) hat d (List.mem_cons_of_mem _ hd)
 have hfit : Fit s := fun {y c} hc i hi => by
  obtain ⟨ha, rfl⟩ := Array.getElem?_eq_some_iff.mp hc
  have q := List.all_eq_true.mp ((Array.all_eq_true_iff_forall_mem.mp hF) _ (Array.getElem_mem ha)) i (List.mem_range.mpr hi)
  simpa [Array.getElem?_eq_getElem hi] using q
 have W := @own_w _ _ hw
 obtain ⟨i0, ei0⟩ := is_v g1
 obtain rfl : w0 = (.int i0) := Option.some.inj ei0
 obtain ⟨i1, ei1⟩ := is_v g2
 obtain rfl : w1 = (.int i1) := Option.some.inj ei1
 obtain ⟨i2, ei2⟩ := isL_v g3
 obtain rfl : w2 = (.long i2) := Option.some.inj ei2
 obtain ⟨i3, ei3⟩ := isL_v g4
 obtain rfl : w3 = (.long i3) := Option.some.inj ei3
 obtain ⟨hsets, hown0⟩ := atoms_of _ (rest_1_c_eq ▸ (show rest_1_c.before _ s = true from hrest))
 obtain ⟨cs0, ecs⟩ := is_v (Cond.before_iff.mp (hsets _ (List.mem_of_getElem? (i := 1) rfl)))
 have SCS : Sta s s.heap "java/lang/String" "COMPACT_STRINGS" "Z" (.int cs0) := Sta.start ecs (Or.inl (hsets _ (List.mem_of_getElem? (i := 0) rfl)))
 have hcs : ¬ cs0 = 0 := gotF (Cond.eq_ints ecs (Term.int_eval (0))) (not_v (Cond.before_iff.mp (hsets _ (List.mem_of_getElem? (i := 2) rfl))))
 have eSAD := Cond.eq_int (beq_iff_eq.mpr (Cond.before_iff.mp (hsets _ (List.mem_of_getElem? (i := 12) rfl)))) (Term.int_eval (1))
 have SAD : Sta s s.heap "java/lang/StringUTF16" "$assertionsDisabled" "Z" v'1 := Sta.start eSAD (Or.inl (hsets _ (List.mem_of_getElem? (i := 11) rfl)))
 have eSHI := Cond.eq_int (beq_iff_eq.mpr (Cond.before_iff.mp (hsets _ (List.mem_of_getElem? (i := 15) rfl)))) (Term.int_eval (0))
 have SHI : Sta s s.heap "java/lang/StringUTF16" "HI_BYTE_SHIFT" "I" v'0 := Sta.start eSHI (Or.inl (hsets _ (List.mem_of_getElem? (i := 14) rfl)))
 have eSLO := Cond.eq_int (beq_iff_eq.mpr (Cond.before_iff.mp (hsets _ (List.mem_of_getElem? (i := 18) rfl)))) (Term.int_eval (8))
 have SLO : Sta s s.heap "java/lang/StringUTF16" "LO_BYTE_SHIFT" "I" (.int (8 : Int32)) := Sta.start eSLO (Or.inl (hsets _ (List.mem_of_getElem? (i := 17) rfl)))
 obtain ⟨n, o, h1, h2, h3, _, L, rfl, ⟨rfl, N⟩, hq⟩ := rm0 l s _ hw tables_1 i0 i1 i2 i3 cs0 s.heap s.heap.size (Nat.le_refl _) (Old.start s) ⟨SCS, hcs⟩ ⟨SAD, SHI, SLO⟩ (EW.cons (W 37 rfl) (by decide) (EW.cons (W 49 rfl) (by decide) (EW.cons (W 25 rfl) (by simp) EW.nil))) p e ha hc hk s m _ below hf ((Spec.applies_iff_loose hf).mp happ).1 ⟨rfl, State.Warmed39.refl s, rfl, CHv.start (EW.cons (W 37 rfl) (by decide) (EW.cons (W 49 rfl) (by decide) (EW.cons (W 25 rfl) (by simp) EW.nil))) (fun p hp => hcalls.1 p hp) (hsets _ (List.mem_of_getElem? (i := 2) rfl)) (W 26 rfl) (W 13 rfl)⟩ trivial
 refine ⟨n, _, h1, h2, h3, hpost _ _ _ _ _ _ ⟨Cond.after_iff.mpr rfl, Cond.after_iff.mpr (eq_i res_at (Term.int_eval (1)) rfl), trivial⟩ ⟨hq.1, hq.2.1, hq.2.2.1, (hq.2.2.2.sift fun y hy => Or.inr (N y hy)).mono (by decide) (by decide)⟩⟩
theorem main_1_1 : Claimed_1_1 := comes_1 fun _ _ _ _ _ _ h hF => ⟨h.1, hF⟩
theorem main_1_2 : Claimed_1_2 := comes_1 fun _ _ _ _ _ _ h hF => ⟨h.2.1, hF⟩
end Jvm.Pilot.@@N@@
namespace Jvm.Pilot.@@N@@
open Jvm Jvm.ClassFile Sem Op Lib Jvm.Free Jvm.Stand Jvm.Pilot.@@N@@.Jvm.D
/-! MADE BY PROGRAM (witnessworld.py) out of the Statement's table words and the real class files: 20 classes; the members and pool entries that the words name. The judged class is class 1, her method 4. -/
namespace start1
open Jvm.ClassFile
def u (s : String) : CpInfo := .utf8 (stringToUtf16 s)
/-- a pool by its gaps: so many unusable entries, then the entry; so many at the end -/
def gap : Nat → List CpInfo → List CpInfo
  | 0, r => r
  | n + 1, r => .unusable :: gap n r
def poolList (es : List (Nat × CpInfo)) (last : Nat) : List CpInfo := es.foldr (fun e r => gap e.1 (e.2 :: r)) (gap last [])
def pool (es : List (Nat × CpInfo)) (last : Nat) : Array CpInfo := ⟨poolList es last⟩
def fileOf (pool : Array CpInfo) (this : Nat) (attrs : Array Attribute := #[]) (ms : Array MethodInfo := #[]) (fl : Nat := 33) (sup : Nat := 0) (ifs : Array Nat := #[]) (fds : Array FieldInfo := #[]) : ClassFile where
  minorVersion := 0
  majorVersion := 65
  constantPool := pool
  accessFlags := fl
  thisClass := this
  superClass := sup
  interfaces := ifs
  fields := fds
  methods := ms
  attributes := attrs
def plain (name : String) (sup : Option ClassId) : Class where
  name := name
  kind := .ordinary
  loader := none
  accessFlags := 33
  super := sup
  interfaces := #[]
  cf := none
  fields := #[]
  methods := #[]
  instanceTypes := #[]
  staticTypes := #[]
  resolved := #[]
  callSites := []
  init := .initialized
  statics := none
  mirror := none

def pool0 : Array CpInfo := pool [(5, u "<init>"), (0, u "()V"), (1, .class_ 10), (1, u "java/lang/Object")] 113

def k0c0 : Code := { maxStack := 0, maxLocals := 1, code := object_method_1_code, exceptionTable := #[], attributes := #[] }
def k0m0 : Method := { name := "<init>", desc := "()V", sig := { parameters := [], returnType := none }, accessFlags := 1, code := some k0c0 }
/-- java/lang/Object -/
def k0 : Class := { plain "java/lang/Object" none with
  accessFlags := 33
  interfaces := #[]
  cf := some (fileOf pool0 8 #[] #[{ accessFlags := 1, nameIndex := 5, descriptorIndex := 6, attributes := #[] }] 33 0 #[] #[])
  fields := #[]
  methods := #[k0m0]
  instanceTypes := #[]
  staticTypes := #[]
  resolved := Array.replicate 124 none
  statics := none }

def pool1 : Array CpInfo := pool [(2, .class_ 4), (1, u "java/lang/Object"), (0, u "<init>"), (0, u "()V"), (0, .long 65535), (1, .methodref 10 11), (0, .class_ 12), (0, .nameAndType 13 14), (0, u "com/example/ballast_ledger/ballastledger/cli/HelpIsAskedPinLaw"), (0, u "template"), (0, u "(II)C"), (0, .methodref 10 16), (0, .nameAndType 17 18), (0, u "drawn"), (0, u "(JJI)C"), (0, .methodref 10 20), (0, .nameAndType 21 22), (0, u "at"), (0, u "(IIJJI)C"), (0, .class_ 24), (0, u "java/lang/String"), (0, .methodref 23 26), (0, .nameAndType 5 27), (0, u "([C)V"), (0, .methodref 29 30), (0, .class_ 31), (0, .nameAndType 32 33), (0, u "com/example/ballast_ledger/ballastledger/cli/Help"), (0, u "isAsked"), (0, u "(Ljava/lang/String;)Z"), (3, u "law"), (0, u "(IIJJ)Z")] 4

def k1m0 : Method := { name := "<init>", desc := "()V", sig := { parameters := [], returnType := none }, accessFlags := 2, code := none }
def k1c1 : Code := { maxStack := 4, maxLocals := 8, code := method_2_code, exceptionTable := #[], attributes := #[] }
def k1m1 : Method := { name := "drawn", desc := "(JJI)C", sig := { parameters := [.long, .long, .int], returnType := some .char }, accessFlags := 10, code := some k1c1 }
def k1c2 : Code := { maxStack := 2, maxLocals := 2, code := method_3_code, exceptionTable := #[], attributes := #[] }
def k1m2 : Method := { name := "template", desc := "(II)C", sig := { parameters := [.int, .int], returnType := some .char }, accessFlags := 10, code := some k1c2 }
def k1c3 : Code := { maxStack := 5, maxLocals := 7, code := method_4_code, exceptionTable := #[], attributes := #[] }
def k1m3 : Method := { name := "at", desc := "(IIJJI)C", sig := { parameters := [.int, .int, .long, .long, .int], returnType := some .char }, accessFlags := 10, code := some k1c3 }
def k1c4 : Code := { maxStack := 7, maxLocals := 19, code := code, exceptionTable := #[], attributes := #[] }
def k1m4 : Method := { name := "law", desc := "(IIJJ)Z", sig := { parameters := [.int, .int, .long, .long], returnType := some .boolean }, accessFlags := 9, code := some k1c4 }
/-- com/example/ballast_ledger/ballastledger/cli/HelpIsAskedPinLaw -/
def k1 : Class := { plain "com/example/ballast_ledger/ballastledger/cli/HelpIsAskedPinLaw" (some 0) with
  accessFlags := 49
  interfaces := #[]
  cf := some (fileOf pool1 10 #[] #[{ accessFlags := 2, nameIndex := 5, descriptorIndex := 6, attributes := #[] }, { accessFlags := 10, nameIndex := 17, descriptorIndex := 18, attributes := #[] }, { accessFlags := 10, nameIndex := 13, descriptorIndex := 14, attributes := #[] }, { accessFlags := 10, nameIndex := 21, descriptorIndex := 22, attributes := #[] }, { accessFlags := 9, nameIndex := 37, descriptorIndex := 38, attributes := #[] }] 49 2 #[] #[])
  fields := #[]
  methods := #[k1m0, k1m1, k1m2, k1m3, k1m4]
  instanceTypes := #[]
  staticTypes := #[]
  resolved := Array.replicate 43 none
  statics := none }

def pool2 : Array CpInfo := pool [(1, .class_ 2), (0, u "java/io/Serializable"), (0, .class_ 4), (0, u "java/lang/Object")] 2

/-- java/io/Serializable -/
def k2 : Class := { plain "java/io/Serializable" (some 0) with
  accessFlags := 1537
  interfaces := #[]
  cf := some (fileOf pool2 1 #[] #[] 1537 3 #[] #[])
  fields := #[]
  methods := #[]
  instanceTypes := #[]
  staticTypes := #[]
  resolved := Array.replicate 7 none
  statics := none }

def pool3 : Array CpInfo := pool [(1, .class_ 2), (0, u "java/lang/Comparable"), (0, .class_ 4), (0, u "java/lang/Object")] 7

/-- java/lang/Comparable -/
def k3 : Class := { plain "java/lang/Comparable" (some 0) with
  accessFlags := 1537
  interfaces := #[]
  cf := some (fileOf pool3 1 #[] #[] 1537 3 #[] #[])
  fields := #[]
  methods := #[]
  instanceTypes := #[]
  staticTypes := #[]
  resolved := Array.replicate 12 none
  statics := none }

def pool4 : Array CpInfo := pool [(2, .class_ 4), (1, u "java/lang/CharSequence"), (42, .class_ 48), (0, u "java/lang/CharSequence$1CodePointIterator"), (10, .class_ 60), (0, u "java/lang/CharSequence$1CharIterator"), (5, .class_ 67), (0, u "java/lang/Object")] 63

/-- java/lang/CharSequence -/
def k4 : Class := { plain "java/lang/CharSequence" (some 0) with
  accessFlags := 1537
  interfaces := #[]
  cf := some (fileOf pool4 2 #[.nestMembers #[47, 59]] #[] 1537 66 #[] #[])
  fields := #[]
  methods := #[]
  instanceTypes := #[]
  staticTypes := #[]
  resolved := Array.replicate 131 none
  statics := none }

def pool5 : Array CpInfo := pool [(1, .class_ 2), (0, u "java/lang/constant/Constable"), (0, .class_ 4), (0, u "java/lang/Object")] 6

/-- java/lang/constant/Constable -/
def k5 : Class := { plain "java/lang/constant/Constable" (some 0) with
  accessFlags := 1537
  interfaces := #[]
  cf := some (fileOf pool5 1 #[] #[] 1537 3 #[] #[])
  fields := #[]
  methods := #[]
  instanceTypes := #[]
  staticTypes := #[]
  resolved := Array.replicate 11 none
  statics := none }

def pool6 : Array CpInfo := pool [(1, .class_ 2), (0, u "java/lang/constant/ConstantDesc"), (0, .class_ 4), (0, u "java/lang/Object")] 32

/-- java/lang/constant/ConstantDesc -/
def k6 : Class := { plain "java/lang/constant/ConstantDesc" (some 0) with
  accessFlags := 1537
  interfaces := #[]
  cf := some (fileOf pool6 1 #[] #[] 1537 3 #[] #[])
  fields := #[]
  methods := #[]
  instanceTypes := #[]
  staticTypes := #[]
  resolved := Array.replicate 37 none
  statics := none }

def pool7 : Array CpInfo := pool [(1, .methodref 2 3), (0, .class_ 4), (0, .nameAndType 5 6), (0, u "java/lang/Object"), (0, u "<init>"), (0, u "()V"), (0, .string 8), (0, u ""), (0, .fieldref 10 11), (0, .class_ 12), (0, .nameAndType 13 14), (0, u "java/lang/String"), (0, u "value"), (0, u "[B"), (0, .fieldref 10 16), (0, .nameAndType 17 18), (0, u "coder"), (0, u "B"), (2, u "hash"), (0, u "I"), (2, u "hashIsZero"), (0, u "Z"), (0, .methodref 10 28), (0, .nameAndType 5 29), (0, u "([CIILjava/lang/Void;)V"), (8, .fieldref 10 39), (0, .nameAndType 40 26), (0, u "COMPACT_STRINGS"), (1, .class_ 44), (1, u "java/lang/StringUTF16"), (0, u "compress"), (1, .methodref 42 48), (0, .nameAndType 49 50), (0, u "coderFromArrayLen"), (0, u "([BI)B"), (56, .class_ 109), (1, u "java/lang/StringLatin1"), (67, .methodref 42 178), (0, .nameAndType 45 179), (0, u "([CII)[B"), (361, .methodref 107 542), (0, .nameAndType 543 544), (0, u "equals"), (0, u "([B[B)Z"), (28, u "(Ljava/lang/Object;)Z"), (1, .class_ 576), (0, u "java/lang/CharSequence"), (22, u "CASE_INSENSITIVE_ORDER"), (0, u "Ljava/util/Comparator;"), (409, u "([C)V"), (90, u "serialPersistentFields"), (0, u "[Ljava/io/ObjectStreamField;"), (0, .class_ 1104), (0, u "java/lang/String$CaseInsensitiveComparator"), (1, .class_ 1107), (0, u "java/io/Serializable"), (0, .class_ 1109), (0, u "java/lang/Comparable"), (0, .class_ 1111), (0, u "java/lang/constant/Constable"), (0, .class_ 1113), (0, u "java/lang/constant/ConstantDesc"), (2, u "serialVersionUID"), (0, u "J"), (3, u "REPL"), (0, u "C"), (2, u "LATIN1"), (1, u "UTF16")] 323

def k7m0 : Method := { name := "<init>", desc := "()V", sig := { parameters := [], returnType := none }, accessFlags := 1, code := none }
def k7c1 : Code := { maxStack := 5, maxLocals := 2, code := jdk_42_method_3_code, exceptionTable := #[], attributes := #[] }
def k7m1 : Method := { name := "<init>", desc := "([C)V", sig := { parameters := [(.array .char)], returnType := none }, accessFlags := 1, code := some k7c1 }
def k7c2 : Code := { maxStack := 2, maxLocals := 3, code := jdk_42_method_66_code, exceptionTable := #[], attributes := #[] }
def k7m2 : Method := { name := "equals", desc := "(Ljava/lang/Object;)Z", sig := { parameters := [(.object "java/lang/Object")], returnType := some .boolean }, accessFlags := 1, code := some k7c2 }
def k7c3 : Code := { maxStack := 4, maxLocals := 6, code := jdk_42_method_149_code, exceptionTable := #[], attributes := #[] }
def k7m3 : Method := { name := "<init>", desc := "([CIILjava/lang/Void;)V", sig := { parameters := [(.array .char), .int, .int, (.object "java/lang/Void")], returnType := none }, accessFlags := 2, code := some k7c3 }
/-- java/lang/String -/
def k7 : Class := { plain "java/lang/String" (some 0) with
  accessFlags := 49
  interfaces := #[2, 3, 4, 5, 6]
  cf := some (fileOf pool7 10 #[.nestMembers #[1103]] #[{ accessFlags := 1, nameIndex := 5, descriptorIndex := 6, attributes := #[] }, { accessFlags := 1, nameIndex := 5, descriptorIndex := 1010, attributes := #[] }, { accessFlags := 1, nameIndex := 543, descriptorIndex := 573, attributes := #[] }, { accessFlags := 2, nameIndex := 5, descriptorIndex := 29, attributes := #[] }] 49 2 #[1106, 1108, 575, 1110, 1112] #[{ accessFlags := 18, nameIndex := 13, descriptorIndex := 14, attributes := #[] }, { accessFlags := 18, nameIndex := 17, descriptorIndex := 18, attributes := #[] }, { accessFlags := 2, nameIndex := 21, descriptorIndex := 22, attributes := #[] }, { accessFlags := 2, nameIndex := 25, descriptorIndex := 26, attributes := #[] }, { accessFlags := 26, nameIndex := 1116, descriptorIndex := 1117, attributes := #[] }, { accessFlags := 24, nameIndex := 40, descriptorIndex := 26, attributes := #[] }, { accessFlags := 26, nameIndex := 1101, descriptorIndex := 1102, attributes := #[] }, { accessFlags := 26, nameIndex := 1121, descriptorIndex := 1122, attributes := #[] }, { accessFlags := 25, nameIndex := 599, descriptorIndex := 600, attributes := #[] }, { accessFlags := 24, nameIndex := 1125, descriptorIndex := 18, attributes := #[] }, { accessFlags := 24, nameIndex := 1127, descriptorIndex := 18, attributes := #[] }])
  fields := #[{ name := "value", type := (.array .byte), accessFlags := 18, slot := 0, constantValue := 0 }, { name := "coder", type := .byte, accessFlags := 18, slot := 1, constantValue := 0 }, { name := "hash", type := .int, accessFlags := 2, slot := 2, constantValue := 0 }, { name := "hashIsZero", type := .boolean, accessFlags := 2, slot := 3, constantValue := 0 }, { name := "serialVersionUID", type := .long, accessFlags := 26, slot := 0, constantValue := 0 }, { name := "COMPACT_STRINGS", type := .boolean, accessFlags := 24, slot := 1, constantValue := 0 }, { name := "serialPersistentFields", type := (.array (.object "java/io/ObjectStreamField")), accessFlags := 26, slot := 2, constantValue := 0 }, { name := "REPL", type := .char, accessFlags := 26, slot := 3, constantValue := 0 }, { name := "CASE_INSENSITIVE_ORDER", type := (.object "java/util/Comparator"), accessFlags := 25, slot := 4, constantValue := 0 }, { name := "LATIN1", type := .byte, accessFlags := 24, slot := 5, constantValue := 0 }, { name := "UTF16", type := .byte, accessFlags := 24, slot := 6, constantValue := 0 }]
  methods := #[k7m0, k7m1, k7m2, k7m3]
  instanceTypes := #[(.array .byte), .byte, .int, .boolean]
  staticTypes := #[.long, .boolean, (.array (.object "java/io/ObjectStreamField")), .char, (.object "java/util/Comparator"), .byte, .byte]
  resolved := Array.replicate 1451 none
  statics := some 0 }

def pool8 : Array CpInfo := pool [(2, .class_ 4), (1, u "java/lang/Object"), (0, u "<init>"), (0, u "()V"), (0, .string 8), (0, u "-h"), (0, .methodref 10 11), (0, .class_ 12), (0, .nameAndType 13 14), (0, u "java/lang/String"), (0, u "equals"), (0, u "(Ljava/lang/Object;)Z"), (0, .string 16), (0, u "--help"), (0, .class_ 18), (0, u "com/example/ballast_ledger/ballastledger/cli/Help"), (118, u "WIDTH"), (0, u "I"), (2, u "HELP_OPTION"), (0, u "Ljava/lang/String;"), (0, u "HELP_DESCRIPTION"), (2, u "isAsked"), (0, u "(Ljava/lang/String;)Z")] 34

def k8m0 : Method := { name := "<init>", desc := "()V", sig := { parameters := [], returnType := none }, accessFlags := 2, code := none }
def k8c1 : Code := { maxStack := 2, maxLocals := 1, code := prog_40_method_2_code, exceptionTable := #[], attributes := #[] }
def k8m1 : Method := { name := "isAsked", desc := "(Ljava/lang/String;)Z", sig := { parameters := [(.object "java/lang/String")], returnType := some .boolean }, accessFlags := 8, code := some k8c1 }
/-- com/example/ballast_ledger/ballastledger/cli/Help -/
def k8 : Class := { plain "com/example/ballast_ledger/ballastledger/cli/Help" (some 0) with
  accessFlags := 48
  interfaces := #[]
  cf := some (fileOf pool8 17 #[] #[{ accessFlags := 2, nameIndex := 5, descriptorIndex := 6, attributes := #[] }, { accessFlags := 8, nameIndex := 146, descriptorIndex := 147, attributes := #[] }] 48 2 #[] #[{ accessFlags := 26, nameIndex := 137, descriptorIndex := 138, attributes := #[] }, { accessFlags := 26, nameIndex := 141, descriptorIndex := 142, attributes := #[] }, { accessFlags := 26, nameIndex := 143, descriptorIndex := 142, attributes := #[] }])
  fields := #[{ name := "WIDTH", type := .int, accessFlags := 26, slot := 0, constantValue := 0 }, { name := "HELP_OPTION", type := (.object "java/lang/String"), accessFlags := 26, slot := 1, constantValue := 0 }, { name := "HELP_DESCRIPTION", type := (.object "java/lang/String"), accessFlags := 26, slot := 2, constantValue := 0 }]
  methods := #[k8m0, k8m1]
  instanceTypes := #[]
  staticTypes := #[.int, (.object "java/lang/String"), (.object "java/lang/String")]
  resolved := Array.replicate 182 none
  statics := none }

def pool9 : Array CpInfo := pool [(4, .class_ 6), (1, u "java/lang/Object"), (0, u "<init>"), (0, u "()V"), (5, .class_ 16), (1, u "java/lang/StringLatin1"), (104, u "$assertionsDisabled"), (0, u "Z"), (98, .class_ 223), (1, u "java/lang/StringLatin1$LinesSpliterator"), (57, u "equals"), (0, u "([B[B)Z"), (107, .class_ 391), (0, u "java/lang/StringLatin1$CharsSpliterator")] 3

def k9m0 : Method := { name := "<init>", desc := "()V", sig := { parameters := [], returnType := none }, accessFlags := 0, code := none }
def k9c1 : Code := { maxStack := 3, maxLocals := 3, code := jdk_43_method_13_code, exceptionTable := #[], attributes := #[] }
def k9m1 : Method := { name := "equals", desc := "([B[B)Z", sig := { parameters := [(.array .byte), (.array .byte)], returnType := some .boolean }, accessFlags := 9, code := some k9c1 }
/-- java/lang/StringLatin1 -/
def k9 : Class := { plain "java/lang/StringLatin1" (some 0) with
  accessFlags := 48
  interfaces := #[]
  cf := some (fileOf pool9 14 #[.nestMembers #[390, 221]] #[{ accessFlags := 0, nameIndex := 7, descriptorIndex := 8, attributes := #[] }, { accessFlags := 9, nameIndex := 281, descriptorIndex := 282, attributes := #[] }] 48 4 #[] #[{ accessFlags := 4120, nameIndex := 121, descriptorIndex := 122, attributes := #[] }])
  fields := #[{ name := "$assertionsDisabled", type := .boolean, accessFlags := 4120, slot := 0, constantValue := 0 }]
  methods := #[k9m0, k9m1]
  instanceTypes := #[]
  staticTypes := #[.boolean]
  resolved := Array.replicate 395 none
  statics := none }

def pool10 : Array CpInfo := pool [(6, .class_ 8), (1, u "java/lang/Object"), (0, u "<init>"), (0, u "()V"), (0, .methodref 12 13), (0, .class_ 14), (0, .nameAndType 15 16), (0, u "java/lang/StringUTF16"), (0, u "newBytesLength"), (0, u "(I)I"), (3, .integer 1073741823), (23, .fieldref 12 45), (0, .nameAndType 46 47), (0, u "$assertionsDisabled"), (0, u "Z"), (11, .fieldref 12 60), (0, .nameAndType 61 62), (0, u "HI_BYTE_SHIFT"), (0, u "I"), (0, .fieldref 12 64), (0, .nameAndType 65 62), (0, u "LO_BYTE_SHIFT"), (5, .methodref 12 72), (0, .nameAndType 73 74), (0, u "getChar"), (0, u "([BI)C"), (32, .methodref 12 108), (0, .nameAndType 109 110), (0, u "newBytesFor"), (0, u "(I)[B"), (0, .methodref 12 112), (0, .nameAndType 113 114), (0, u "putChar"), (0, u "([BII)V"), (0, .methodref 12 116), (0, .nameAndType 117 118), (0, u "compress"), (0, u "([CI[BII)I"), (0, .methodref 12 120), (0, .nameAndType 121 122), (0, u "toBytes"), (0, u "([CII)[B"), (138, u "coderFromArrayLen"), (0, u "([BI)B"), (106, .class_ 371), (1, u "java/lang/StringUTF16$LinesSpliterator"), (58, u "MAX_LENGTH"), (196, .class_ 628), (0, u "java/lang/StringUTF16$CodePointsSpliterator"), (0, .class_ 630), (0, u "java/lang/StringUTF16$CharsSpliterator")] 4

def k10m0 : Method := { name := "<init>", desc := "()V", sig := { parameters := [], returnType := none }, accessFlags := 0, code := none }
def k10c1 : Code := { maxStack := 1, maxLocals := 1, code := jdk_52_method_2_code, exceptionTable := #[], attributes := #[] }
def k10m1 : Method := { name := "newBytesFor", desc := "(I)[B", sig := { parameters := [.int], returnType := some (.array .byte) }, accessFlags := 9, code := some k10c1 }
def k10c2 : Code := { maxStack := 4, maxLocals := 1, code := jdk_52_method_3_code, exceptionTable := #[], attributes := #[] }
def k10m2 : Method := { name := "newBytesLength", desc := "(I)I", sig := { parameters := [.int], returnType := some .int }, accessFlags := 9, code := some k10c2 }
def k10c3 : Code := { maxStack := 4, maxLocals := 3, code := jdk_52_method_4_code, exceptionTable := #[], attributes := #[] }
def k10m3 : Method := { name := "putChar", desc := "([BII)V", sig := { parameters := [(.array .byte), .int, .int], returnType := none }, accessFlags := 8, code := some k10c3 }
def k10c4 : Code := { maxStack := 3, maxLocals := 2, code := jdk_52_method_5_code, exceptionTable := #[], attributes := #[] }
def k10m4 : Method := { name := "getChar", desc := "([BI)C", sig := { parameters := [(.array .byte), .int], returnType := some .char }, accessFlags := 8, code := some k10c4 }
def k10c5 : Code := { maxStack := 4, maxLocals := 5, code := jdk_52_method_14_code, exceptionTable := #[], attributes := #[] }
def k10m5 : Method := { name := "toBytes", desc := "([CII)[B", sig := { parameters := [(.array .char), .int, .int], returnType := some (.array .byte) }, accessFlags := 9, code := some k10c5 }
def k10c6 : Code := { maxStack := 2, maxLocals := 2, code := jdk_52_method_15_code, exceptionTable := #[], attributes := #[] }
def k10m6 : Method := { name := "coderFromArrayLen", desc := "([BI)B", sig := { parameters := [(.array .byte), .int], returnType := some .byte }, accessFlags := 8, code := some k10c6 }
def k10c7 : Code := { maxStack := 5, maxLocals := 6, code := jdk_52_method_16_code, exceptionTable := #[], attributes := #[] }
def k10m7 : Method := { name := "compress", desc := "([CII)[B", sig := { parameters := [(.array .char), .int, .int], returnType := some (.array .byte) }, accessFlags := 9, code := some k10c7 }
def k10c8 : Code := { maxStack := 3, maxLocals := 7, code := jdk_52_method_21_code, exceptionTable := #[], attributes := #[] }
def k10m8 : Method := { name := "compress", desc := "([CI[BII)I", sig := { parameters := [(.array .char), .int, (.array .byte), .int, .int], returnType := some .int }, accessFlags := 9, code := some k10c8 }
/-- java/lang/StringUTF16 -/
def k10 : Class := { plain "java/lang/StringUTF16" (some 0) with
  accessFlags := 48
  interfaces := #[]
  cf := some (fileOf pool10 12 #[.nestMembers #[627, 629, 369]] #[{ accessFlags := 0, nameIndex := 9, descriptorIndex := 10, attributes := #[] }, { accessFlags := 9, nameIndex := 109, descriptorIndex := 110, attributes := #[] }, { accessFlags := 9, nameIndex := 15, descriptorIndex := 16, attributes := #[] }, { accessFlags := 8, nameIndex := 113, descriptorIndex := 114, attributes := #[] }, { accessFlags := 8, nameIndex := 73, descriptorIndex := 74, attributes := #[] }, { accessFlags := 9, nameIndex := 121, descriptorIndex := 122, attributes := #[] }, { accessFlags := 8, nameIndex := 261, descriptorIndex := 262, attributes := #[] }, { accessFlags := 9, nameIndex := 117, descriptorIndex := 122, attributes := #[] }, { accessFlags := 9, nameIndex := 117, descriptorIndex := 118, attributes := #[] }] 48 6 #[] #[{ accessFlags := 26, nameIndex := 61, descriptorIndex := 62, attributes := #[] }, { accessFlags := 26, nameIndex := 65, descriptorIndex := 62, attributes := #[] }, { accessFlags := 24, nameIndex := 430, descriptorIndex := 62, attributes := #[] }, { accessFlags := 4120, nameIndex := 46, descriptorIndex := 47, attributes := #[] }])
  fields := #[{ name := "HI_BYTE_SHIFT", type := .int, accessFlags := 26, slot := 0, constantValue := 0 }, { name := "LO_BYTE_SHIFT", type := .int, accessFlags := 26, slot := 1, constantValue := 0 }, { name := "MAX_LENGTH", type := .int, accessFlags := 24, slot := 2, constantValue := 0 }, { name := "$assertionsDisabled", type := .boolean, accessFlags := 4120, slot := 3, constantValue := 0 }]
  methods := #[k10m0, k10m1, k10m2, k10m3, k10m4, k10m5, k10m6, k10m7, k10m8]
  instanceTypes := #[]
  staticTypes := #[.int, .int, .int, .boolean]
  resolved := Array.replicate 635 none
  statics := some 1 }

def pool11 : Array CpInfo := pool [(2, .class_ 4), (1, u "java/lang/Object"), (0, u "<init>"), (0, u "()V"), (17, .class_ 26), (1, u "jdk/internal/util/Preconditions"), (28, .class_ 56), (0, u "jdk/internal/util/Preconditions$4"), (57, .class_ 115), (0, u "jdk/internal/util/Preconditions$1"), (7, u "SIOOBE_FORMATTER"), (0, u "Ljava/util/function/BiFunction;"), (0, .class_ 126), (0, u "jdk/internal/util/Preconditions$2"), (3, u "AIOOBE_FORMATTER"), (0, .class_ 132), (0, u "jdk/internal/util/Preconditions$3"), (3, u "IOOBE_FORMATTER")] 57

def k11m0 : Method := { name := "<init>", desc := "()V", sig := { parameters := [], returnType := none }, accessFlags := 1, code := none }
/-- jdk/internal/util/Preconditions -/
def k11 : Class := { plain "jdk/internal/util/Preconditions" (some 0) with
  accessFlags := 33
  interfaces := #[]
  cf := some (fileOf pool11 24 #[.nestMembers #[55, 131, 125, 114]] #[{ accessFlags := 1, nameIndex := 5, descriptorIndex := 6, attributes := #[] }] 33 2 #[] #[{ accessFlags := 25, nameIndex := 123, descriptorIndex := 124, attributes := #[] }, { accessFlags := 25, nameIndex := 130, descriptorIndex := 124, attributes := #[] }, { accessFlags := 25, nameIndex := 136, descriptorIndex := 124, attributes := #[] }])
  fields := #[{ name := "SIOOBE_FORMATTER", type := (.object "java/util/function/BiFunction"), accessFlags := 25, slot := 0, constantValue := 0 }, { name := "AIOOBE_FORMATTER", type := (.object "java/util/function/BiFunction"), accessFlags := 25, slot := 1, constantValue := 0 }, { name := "IOOBE_FORMATTER", type := (.object "java/util/function/BiFunction"), accessFlags := 25, slot := 2, constantValue := 0 }]
  methods := #[k11m0]
  instanceTypes := #[]
  staticTypes := #[(.object "java/util/function/BiFunction"), (.object "java/util/function/BiFunction"), (.object "java/util/function/BiFunction")]
  resolved := Array.replicate 194 none
  statics := some 2 }

def pool12 : Array CpInfo := pool [(9, u "<init>"), (6, .class_ 18), (1, u "java/lang/Object"), (0, u "()V"), (1, .class_ 23), (1, u "jdk/internal/util/ArraysSupport"), (0, u "LOG2_ARRAY_LONG_INDEX_SCALE"), (0, u "I"), (2, u "U"), (0, u "Ljdk/internal/misc/Unsafe;"), (8, u "BIG_ENDIAN"), (0, u "Z"), (8, u "LOG2_BYTE_BIT_SIZE"), (4, u "LOG2_ARRAY_INT_INDEX_SCALE"), (54, u "JLA"), (0, u "Ljdk/internal/access/JavaLangAccess;"), (11, u "LOG2_ARRAY_BOOLEAN_INDEX_SCALE"), (9, u "LOG2_ARRAY_BYTE_INDEX_SCALE"), (5, u "LOG2_ARRAY_CHAR_INDEX_SCALE"), (5, u "LOG2_ARRAY_SHORT_INDEX_SCALE"), (18, u "LOG2_ARRAY_FLOAT_INDEX_SCALE"), (24, u "LOG2_ARRAY_DOUBLE_INDEX_SCALE"), (89, u "T_BOOLEAN"), (2, u "T_CHAR"), (1, u "T_FLOAT"), (1, u "T_DOUBLE"), (1, u "T_BYTE"), (1, u "T_SHORT"), (1, u "T_INT"), (1, u "T_LONG"), (1, u "SOFT_MAX_ARRAY_LENGTH")] 83

def k12m0 : Method := { name := "<init>", desc := "()V", sig := { parameters := [], returnType := none }, accessFlags := 2, code := none }
/-- jdk/internal/util/ArraysSupport -/
def k12 : Class := { plain "jdk/internal/util/ArraysSupport" (some 0) with
  accessFlags := 33
  interfaces := #[]
  cf := some (fileOf pool12 21 #[] #[{ accessFlags := 2, nameIndex := 9, descriptorIndex := 19, attributes := #[] }] 33 16 #[] #[{ accessFlags := 24, nameIndex := 28, descriptorIndex := 29, attributes := #[] }, { accessFlags := 26, nameIndex := 38, descriptorIndex := 39, attributes := #[] }, { accessFlags := 25, nameIndex := 121, descriptorIndex := 25, attributes := #[] }, { accessFlags := 25, nameIndex := 131, descriptorIndex := 25, attributes := #[] }, { accessFlags := 25, nameIndex := 137, descriptorIndex := 25, attributes := #[] }, { accessFlags := 25, nameIndex := 143, descriptorIndex := 25, attributes := #[] }, { accessFlags := 25, nameIndex := 53, descriptorIndex := 25, attributes := #[] }, { accessFlags := 25, nameIndex := 24, descriptorIndex := 25, attributes := #[] }, { accessFlags := 25, nameIndex := 162, descriptorIndex := 25, attributes := #[] }, { accessFlags := 25, nameIndex := 187, descriptorIndex := 25, attributes := #[] }, { accessFlags := 26, nameIndex := 48, descriptorIndex := 25, attributes := #[] }, { accessFlags := 25, nameIndex := 277, descriptorIndex := 25, attributes := #[] }, { accessFlags := 25, nameIndex := 280, descriptorIndex := 25, attributes := #[] }, { accessFlags := 25, nameIndex := 282, descriptorIndex := 25, attributes := #[] }, { accessFlags := 25, nameIndex := 284, descriptorIndex := 25, attributes := #[] }, { accessFlags := 25, nameIndex := 286, descriptorIndex := 25, attributes := #[] }, { accessFlags := 25, nameIndex := 288, descriptorIndex := 25, attributes := #[] }, { accessFlags := 25, nameIndex := 290, descriptorIndex := 25, attributes := #[] }, { accessFlags := 25, nameIndex := 292, descriptorIndex := 25, attributes := #[] }, { accessFlags := 26, nameIndex := 108, descriptorIndex := 109, attributes := #[] }, { accessFlags := 25, nameIndex := 294, descriptorIndex := 25, attributes := #[] }])
  fields := #[{ name := "U", type := (.object "jdk/internal/misc/Unsafe"), accessFlags := 24, slot := 0, constantValue := 0 }, { name := "BIG_ENDIAN", type := .boolean, accessFlags := 26, slot := 1, constantValue := 0 }, { name := "LOG2_ARRAY_BOOLEAN_INDEX_SCALE", type := .int, accessFlags := 25, slot := 2, constantValue := 0 }, { name := "LOG2_ARRAY_BYTE_INDEX_SCALE", type := .int, accessFlags := 25, slot := 3, constantValue := 0 }, { name := "LOG2_ARRAY_CHAR_INDEX_SCALE", type := .int, accessFlags := 25, slot := 4, constantValue := 0 }, { name := "LOG2_ARRAY_SHORT_INDEX_SCALE", type := .int, accessFlags := 25, slot := 5, constantValue := 0 }, { name := "LOG2_ARRAY_INT_INDEX_SCALE", type := .int, accessFlags := 25, slot := 6, constantValue := 0 }, { name := "LOG2_ARRAY_LONG_INDEX_SCALE", type := .int, accessFlags := 25, slot := 7, constantValue := 0 }, { name := "LOG2_ARRAY_FLOAT_INDEX_SCALE", type := .int, accessFlags := 25, slot := 8, constantValue := 0 }, { name := "LOG2_ARRAY_DOUBLE_INDEX_SCALE", type := .int, accessFlags := 25, slot := 9, constantValue := 0 }, { name := "LOG2_BYTE_BIT_SIZE", type := .int, accessFlags := 26, slot := 10, constantValue := 0 }, { name := "T_BOOLEAN", type := .int, accessFlags := 25, slot := 11, constantValue := 0 }, { name := "T_CHAR", type := .int, accessFlags := 25, slot := 12, constantValue := 0 }, { name := "T_FLOAT", type := .int, accessFlags := 25, slot := 13, constantValue := 0 }, { name := "T_DOUBLE", type := .int, accessFlags := 25, slot := 14, constantValue := 0 }, { name := "T_BYTE", type := .int, accessFlags := 25, slot := 15, constantValue := 0 }, { name := "T_SHORT", type := .int, accessFlags := 25, slot := 16, constantValue := 0 }, { name := "T_INT", type := .int, accessFlags := 25, slot := 17, constantValue := 0 }, { name := "T_LONG", type := .int, accessFlags := 25, slot := 18, constantValue := 0 }, { name := "JLA", type := (.object "jdk/internal/access/JavaLangAccess"), accessFlags := 26, slot := 19, constantValue := 0 }, { name := "SOFT_MAX_ARRAY_LENGTH", type := .int, accessFlags := 25, slot := 20, constantValue := 0 }]
  methods := #[k12m0]
  instanceTypes := #[]
  staticTypes := #[(.object "jdk/internal/misc/Unsafe"), .boolean, .int, .int, .int, .int, .int, .int, .int, .int, .int, .int, .int, .int, .int, .int, .int, .int, .int, (.object "jdk/internal/access/JavaLangAccess"), .int]
  resolved := Array.replicate 378 none
  statics := none }

def pool13 : Array CpInfo := pool [(1, u "java/lang/Cloneable"), (0, .class_ 1), (0, u "java/lang/Object"), (0, .class_ 3)] 3

/-- java/lang/Cloneable -/
def k13 : Class := { plain "java/lang/Cloneable" (some 0) with
  accessFlags := 1537
  interfaces := #[]
  cf := some (fileOf pool13 2 #[] #[] 1537 4 #[] #[])
  fields := #[]
  methods := #[]
  instanceTypes := #[]
  staticTypes := #[]
  resolved := Array.replicate 8 none
  statics := none }

/-- the primitive byte -/
def k14 : Class := { plain "byte" none with kind := .primitive 'B', accessFlags := 0x411 }
/-- [B -/
def k15 : Class := { plain "[B" (some 0) with kind := .array 14 .byte, interfaces := #[13, 2], accessFlags := 1041 }

/-- the primitive char -/
def k16 : Class := { plain "char" none with kind := .primitive 'C', accessFlags := 0x411 }
/-- [C -/
def k17 : Class := { plain "[C" (some 0) with kind := .array 16 .char, interfaces := #[13, 2], accessFlags := 1041 }

/-- the primitive int -/
def k18 : Class := { plain "int" none with kind := .primitive 'I', accessFlags := 0x411 }
/-- [I -/
def k19 : Class := { plain "[I" (some 0) with kind := .array 18 .int, interfaces := #[13, 2], accessFlags := 1041 }

def heap : Heap := #[{ cls := 7, slots := #[.long 0, .int 1, .null, .int 0, .null, .int 0, .int 0], vm := .statics 7 },
  { cls := 10, slots := #[.int 0, .int 8, .int 0, .int 1], vm := .statics 10 },
  { cls := 11, slots := #[.null, .null, .null], vm := .statics 11 }]
def classes : Array Class := #[k0, k1, k2, k3, k4, k5, k6, k7, k8, k9, k10, k11, k12, k13, k14, k15, k16, k17, k18, k19]
def interned : List (Array UInt16 × Addr) := []
def slotsUsed : Nat := 14
def theMethod : MethodId := ⟨1, 4⟩
def args0 : Array Value := #[.int 5, .int 6, .long 7, .long 8]
def aboutOver (below : List Frame) : State where
  vm := { classes := classes, interned := interned.toArray }
  heap := heap
  slotsUsed := slotsUsed
  threads := #[{ frames := .invoking theMethod args0 :: below }]
def below0 : List Frame := [.native { method := ⟨0, 0⟩, args := #[] }]
def about1 : State := aboutOver below0
def p0 : Program := .bare "" "" ""
def e0 : Env := launch0.env 0 0 0
theorem w_frames : about1.frames = Frame.invoking theMethod args0 :: below0 := rfl
set_option maxRecDepth 65536 in
theorem w_args : argsFit about1.vm theMethod args0 = true := by decide +kernel
set_option maxRecDepth 65536 in
theorem w_heap : heapFits about1 = true := by decide +kernel
set_option maxRecDepth 65536 in
theorem w_runnable : about1.curStatus? = some .runnable := by decide +kernel
set_option maxRecDepth 65536 in
theorem w_alone : about1.alone = true := by decide +kernel
set_option maxRecDepth 65536 in
theorem w_named : about1.methodNamed? x = some theMethod := by decide +kernel
set_option maxRecDepth 65536 in
theorem w_hears : about1.hears theMethod below0 = true := by decide +kernel
set_option maxRecDepth 65536 in
theorem w_ripe : about1.ripe theMethod args0 below0 = true := by decide +kernel
theorem w_running : about1.status = .running := rfl
set_option maxRecDepth 65536 in
theorem w_room : about1.hasRoom e0.platform room_1 = true :=
  launch0.hasRoom_least _ room_1 (by decide +kernel) (by decide +kernel) (by decide +kernel) (by decide +kernel) (by decide +kernel) (by decide +kernel)
theorem allAtoms_all (ts : List Jvm.Cond) (a : Array Jvm.Value) (st : Jvm.State) : (allAtoms ts).before a st = ts.all (fun c => c.before a st) := by
  induction ts with
  | nil => rfl
  | cons c t ih =>
    show (Jvm.Cond.and c (allAtoms t)).before a st = _
    rw [Jvm.Cond.before_and, ih, List.all_cons]
def words1 : List Jvm.Cond := Jvm.Cond.code x code maxLocals ret :: tables_1
/-- a 'code' word, met by the world's own term for the bytes: nothing is compared byte by byte -/
theorem code_word {y : MethodName} {bytes : ByteArray} {mx : Nat} {rt : Option FieldType} {a : Array Value} {s : State} {m : MethodId} {meth : Method} {c : Code} (h1 : s.methodNamed? y = some m) (h2 : s.vm.method? m = some meth) (h3 : meth.code = some c) (h4 : c.code = bytes)
    (h5 : (c.maxLocals == mx && c.exceptionTable.isEmpty && decide (c.maxStack ≤ mostOperands) && decide (meth.sig.returnType = rt) && !meth.locks && decide (parseMethodDescriptor y.desc = some meth.sig)) = true) : (Jvm.Cond.code y bytes mx rt).before a s = true := by
  simp only [Bool.and_eq_true, beq_iff_eq, Bool.not_eq_true', decide_eq_true_eq] at h5
  obtain ⟨⟨⟨⟨⟨g1, g2⟩, g3⟩, g4⟩, g5⟩, g6⟩ := h5
  simp [Cond.before, Cond.holds, Cond.value, h1, h2, h3, h4, g1, g2, g3, g4, g5, g6]
def isCode : Jvm.Cond → Bool
  | .code _ _ _ _ => true
  | _ => false
theorem all_split {L : List Jvm.Cond} {P : Jvm.Cond → Bool} (h1 : L.all (fun c => isCode c || P c) = true) (h2 : ∀ c ∈ L.filter isCode, P c = true) : L.all P = true := by
  refine List.all_eq_true.mpr fun c hc => ?_
  have h := List.all_eq_true.mp h1 c hc
  rcases Bool.eq_false_or_eq_true (isCode c) with hi | hi
  · exact h2 c (List.mem_filter.mpr ⟨hc, hi⟩)
  · simpa [hi] using h
set_option maxRecDepth 65536 in
theorem w_c0 : (Jvm.Cond.code x code maxLocals ret).before args0 about1 = true := code_word (m := ⟨1, 4⟩) (meth := k1m4) (c := k1c4) (by decide +kernel) rfl rfl rfl (by decide +kernel)
set_option maxRecDepth 65536 in
theorem w_c1 : (Jvm.Cond.code ({ cls := "com/example/ballast_ledger/ballastledger/cli/HelpIsAskedPinLaw", name := "at", desc := "(IIJJI)C" } : Jvm.MethodName) method_4_code (7 : Nat) (Option.some Jvm.ClassFile.FieldType.char)).before args0 about1 = true := code_word (m := ⟨1, 3⟩) (meth := k1m3) (c := k1c3) (by decide +kernel) rfl rfl rfl (by decide +kernel)
set_option maxRecDepth 65536 in
theorem w_c2 : (Jvm.Cond.code ({ cls := "com/example/ballast_ledger/ballastledger/cli/HelpIsAskedPinLaw", name := "template", desc := "(II)C" } : Jvm.MethodName) method_3_code (2 : Nat) (Option.some Jvm.ClassFile.FieldType.char)).before args0 about1 = true := code_word (m := ⟨1, 2⟩) (meth := k1m2) (c := k1c2) (by decide +kernel) rfl rfl rfl (by decide +kernel)
set_option maxRecDepth 65536 in
theorem w_c3 : (Jvm.Cond.code ({ cls := "com/example/ballast_ledger/ballastledger/cli/HelpIsAskedPinLaw", name := "drawn", desc := "(JJI)C" } : Jvm.MethodName) method_2_code (8 : Nat) (Option.some Jvm.ClassFile.FieldType.char)).before args0 about1 = true := code_word (m := ⟨1, 1⟩) (meth := k1m1) (c := k1c1) (by decide +kernel) rfl rfl rfl (by decide +kernel)
set_option maxRecDepth 65536 in
theorem w_c4 : (Jvm.Cond.code ({ cls := "java/lang/String", name := "<init>", desc := "([C)V" } : Jvm.MethodName) jdk_42_method_3_code (2 : Nat) (Option.none : Option Jvm.ClassFile.FieldType)).before args0 about1 = true := code_word (m := ⟨7, 1⟩) (meth := k7m1) (c := k7c1) (by decide +kernel) rfl rfl rfl (by decide +kernel)
set_option maxRecDepth 65536 in
theorem w_c5 : (Jvm.Cond.code ({ cls := "java/lang/String", name := "<init>", desc := "([CIILjava/lang/Void;)V" } : Jvm.MethodName) jdk_42_method_149_code (6 : Nat) (Option.none : Option Jvm.ClassFile.FieldType)).before args0 about1 = true := code_word (m := ⟨7, 3⟩) (meth := k7m3) (c := k7c3) (by decide +kernel) rfl rfl rfl (by decide +kernel)
set_option maxRecDepth 65536 in
theorem w_c6 : (Jvm.Cond.code ({ cls := "java/lang/Object", name := "<init>", desc := "()V" } : Jvm.MethodName) object_method_1_code (1 : Nat) (Option.none : Option Jvm.ClassFile.FieldType)).before args0 about1 = true := code_word (m := ⟨0, 0⟩) (meth := k0m0) (c := k0c0) (by decide +kernel) rfl rfl rfl (by decide +kernel)
set_option maxRecDepth 65536 in
theorem w_c7 : (Jvm.Cond.code ({ cls := "com/example/ballast_ledger/ballastledger/cli/Help", name := "isAsked", desc := "(Ljava/lang/String;)Z" } : Jvm.MethodName) prog_40_method_2_code (1 : Nat) (Option.some Jvm.ClassFile.FieldType.boolean)).before args0 about1 = true := code_word (m := ⟨8, 1⟩) (meth := k8m1) (c := k8c1) (by decide +kernel) rfl rfl rfl (by decide +kernel)
set_option maxRecDepth 65536 in
theorem w_c8 : (Jvm.Cond.code ({ cls := "java/lang/String", name := "equals", desc := "(Ljava/lang/Object;)Z" } : Jvm.MethodName) jdk_42_method_66_code (3 : Nat) (Option.some Jvm.ClassFile.FieldType.boolean)).before args0 about1 = true := code_word (m := ⟨7, 2⟩) (meth := k7m2) (c := k7c2) (by decide +kernel) rfl rfl rfl (by decide +kernel)
set_option maxRecDepth 65536 in
theorem w_c9 : (Jvm.Cond.code ({ cls := "java/lang/StringLatin1", name := "equals", desc := "([B[B)Z" } : Jvm.MethodName) jdk_43_method_13_code (3 : Nat) (Option.some Jvm.ClassFile.FieldType.boolean)).before args0 about1 = true := code_word (m := ⟨9, 1⟩) (meth := k9m1) (c := k9c1) (by decide +kernel) rfl rfl rfl (by decide +kernel)
set_option maxRecDepth 65536 in
theorem w_c10 : (Jvm.Cond.code ({ cls := "java/lang/StringUTF16", name := "compress", desc := "([CII)[B" } : Jvm.MethodName) jdk_52_method_16_code (6 : Nat) (Option.some (Jvm.ClassFile.FieldType.array Jvm.ClassFile.FieldType.byte))).before args0 about1 = true := code_word (m := ⟨10, 7⟩) (meth := k10m7) (c := k10c7) (by decide +kernel) rfl rfl rfl (by decide +kernel)
set_option maxRecDepth 65536 in
theorem w_c11 : (Jvm.Cond.code ({ cls := "java/lang/StringUTF16", name := "compress", desc := "([CI[BII)I" } : Jvm.MethodName) jdk_52_method_21_code (7 : Nat) (Option.some Jvm.ClassFile.FieldType.int)).before args0 about1 = true := code_word (m := ⟨10, 8⟩) (meth := k10m8) (c := k10c8) (by decide +kernel) rfl rfl rfl (by decide +kernel)
set_option maxRecDepth 65536 in
theorem w_c12 : (Jvm.Cond.code ({ cls := "java/lang/StringUTF16", name := "coderFromArrayLen", desc := "([BI)B" } : Jvm.MethodName) jdk_52_method_15_code (2 : Nat) (Option.some Jvm.ClassFile.FieldType.byte)).before args0 about1 = true := code_word (m := ⟨10, 6⟩) (meth := k10m6) (c := k10c6) (by decide +kernel) rfl rfl rfl (by decide +kernel)
set_option maxRecDepth 65536 in
theorem w_c13 : (Jvm.Cond.code ({ cls := "java/lang/StringUTF16", name := "toBytes", desc := "([CII)[B" } : Jvm.MethodName) jdk_52_method_14_code (5 : Nat) (Option.some (Jvm.ClassFile.FieldType.array Jvm.ClassFile.FieldType.byte))).before args0 about1 = true := code_word (m := ⟨10, 5⟩) (meth := k10m5) (c := k10c5) (by decide +kernel) rfl rfl rfl (by decide +kernel)
set_option maxRecDepth 65536 in
theorem w_c14 : (Jvm.Cond.code ({ cls := "java/lang/StringUTF16", name := "newBytesFor", desc := "(I)[B" } : Jvm.MethodName) jdk_52_method_2_code (1 : Nat) (Option.some (Jvm.ClassFile.FieldType.array Jvm.ClassFile.FieldType.byte))).before args0 about1 = true := code_word (m := ⟨10, 1⟩) (meth := k10m1) (c := k10c1) (by decide +kernel) rfl rfl rfl (by decide +kernel)
set_option maxRecDepth 65536 in
theorem w_c15 : (Jvm.Cond.code ({ cls := "java/lang/StringUTF16", name := "newBytesLength", desc := "(I)I" } : Jvm.MethodName) jdk_52_method_3_code (1 : Nat) (Option.some Jvm.ClassFile.FieldType.int)).before args0 about1 = true := code_word (m := ⟨10, 2⟩) (meth := k10m2) (c := k10c2) (by decide +kernel) rfl rfl rfl (by decide +kernel)
set_option maxRecDepth 65536 in
theorem w_c16 : (Jvm.Cond.code ({ cls := "java/lang/StringUTF16", name := "putChar", desc := "([BII)V" } : Jvm.MethodName) jdk_52_method_4_code (3 : Nat) (Option.none : Option Jvm.ClassFile.FieldType)).before args0 about1 = true := code_word (m := ⟨10, 3⟩) (meth := k10m3) (c := k10c3) (by decide +kernel) rfl rfl rfl (by decide +kernel)
set_option maxRecDepth 65536 in
theorem w_c17 : (Jvm.Cond.code ({ cls := "java/lang/StringUTF16", name := "getChar", desc := "([BI)C" } : Jvm.MethodName) jdk_52_method_5_code (2 : Nat) (Option.some Jvm.ClassFile.FieldType.char)).before args0 about1 = true := code_word (m := ⟨10, 4⟩) (meth := k10m4) (c := k10c4) (by decide +kernel) rfl rfl rfl (by decide +kernel)
def codes1 : List Jvm.Cond := [Jvm.Cond.code x code maxLocals ret, Jvm.Cond.code ({ cls := "com/example/ballast_ledger/ballastledger/cli/HelpIsAskedPinLaw", name := "at", desc := "(IIJJI)C" } : Jvm.MethodName) method_4_code (7 : Nat) (Option.some Jvm.ClassFile.FieldType.char), Jvm.Cond.code ({ cls := "com/example/ballast_ledger/ballastledger/cli/HelpIsAskedPinLaw", name := "template", desc := "(II)C" } : Jvm.MethodName) method_3_code (2 : Nat) (Option.some Jvm.ClassFile.FieldType.char), Jvm.Cond.code ({ cls := "com/example/ballast_ledger/ballastledger/cli/HelpIsAskedPinLaw", name := "drawn", desc := "(JJI)C" } : Jvm.MethodName) method_2_code (8 : Nat) (Option.some Jvm.ClassFile.FieldType.char), Jvm.Cond.code ({ cls := "java/lang/String", name := "<init>", desc := "([C)V" } : Jvm.MethodName) jdk_42_method_3_code (2 : Nat) (Option.none : Option Jvm.ClassFile.FieldType), Jvm.Cond.code ({ cls := "java/lang/String", name := "<init>", desc := "([CIILjava/lang/Void;)V" } : Jvm.MethodName) jdk_42_method_149_code (6 : Nat) (Option.none : Option Jvm.ClassFile.FieldType), Jvm.Cond.code ({ cls := "java/lang/Object", name := "<init>", desc := "()V" } : Jvm.MethodName) object_method_1_code (1 : Nat) (Option.none : Option Jvm.ClassFile.FieldType), Jvm.Cond.code ({ cls := "com/example/ballast_ledger/ballastledger/cli/Help", name := "isAsked", desc := "(Ljava/lang/String;)Z" } : Jvm.MethodName) prog_40_method_2_code (1 : Nat) (Option.some Jvm.ClassFile.FieldType.boolean), Jvm.Cond.code ({ cls := "java/lang/String", name := "equals", desc := "(Ljava/lang/Object;)Z" } : Jvm.MethodName) jdk_42_method_66_code (3 : Nat) (Option.some Jvm.ClassFile.FieldType.boolean), Jvm.Cond.code ({ cls := "java/lang/StringLatin1", name := "equals", desc := "([B[B)Z" } : Jvm.MethodName) jdk_43_method_13_code (3 : Nat) (Option.some Jvm.ClassFile.FieldType.boolean), Jvm.Cond.code ({ cls := "java/lang/StringUTF16", name := "compress", desc := "([CII)[B" } : Jvm.MethodName) jdk_52_method_16_code (6 : Nat) (Option.some (Jvm.ClassFile.FieldType.array Jvm.ClassFile.FieldType.byte)), Jvm.Cond.code ({ cls := "java/lang/StringUTF16", name := "compress", desc := "([CI[BII)I" } : Jvm.MethodName) jdk_52_method_21_code (7 : Nat) (Option.some Jvm.ClassFile.FieldType.int), Jvm.Cond.code ({ cls := "java/lang/StringUTF16", name := "coderFromArrayLen", desc := "([BI)B" } : Jvm.MethodName) jdk_52_method_15_code (2 : Nat) (Option.some Jvm.ClassFile.FieldType.byte), Jvm.Cond.code ({ cls := "java/lang/StringUTF16", name := "toBytes", desc := "([CII)[B" } : Jvm.MethodName) jdk_52_method_14_code (5 : Nat) (Option.some (Jvm.ClassFile.FieldType.array Jvm.ClassFile.FieldType.byte)), Jvm.Cond.code ({ cls := "java/lang/StringUTF16", name := "newBytesFor", desc := "(I)[B" } : Jvm.MethodName) jdk_52_method_2_code (1 : Nat) (Option.some (Jvm.ClassFile.FieldType.array Jvm.ClassFile.FieldType.byte)), Jvm.Cond.code ({ cls := "java/lang/StringUTF16", name := "newBytesLength", desc := "(I)I" } : Jvm.MethodName) jdk_52_method_3_code (1 : Nat) (Option.some Jvm.ClassFile.FieldType.int), Jvm.Cond.code ({ cls := "java/lang/StringUTF16", name := "putChar", desc := "([BII)V" } : Jvm.MethodName) jdk_52_method_4_code (3 : Nat) (Option.none : Option Jvm.ClassFile.FieldType), Jvm.Cond.code ({ cls := "java/lang/StringUTF16", name := "getChar", desc := "([BI)C" } : Jvm.MethodName) jdk_52_method_5_code (2 : Nat) (Option.some Jvm.ClassFile.FieldType.char)]
set_option maxRecDepth 65536 in
theorem codes_eq : words1.filter isCode = codes1 := rfl
theorem w_codes : ∀ c ∈ words1.filter isCode, c.before args0 about1 = true := by
  rw [codes_eq]
  intro c hc
  simp only [codes1, List.mem_cons, List.not_mem_nil, or_false] at hc
  rcases hc with rfl | rfl | rfl | rfl | rfl | rfl | rfl | rfl | rfl | rfl | rfl | rfl | rfl | rfl | rfl | rfl | rfl | rfl
  · exact w_c0
  · exact w_c1
  · exact w_c2
  · exact w_c3
  · exact w_c4
  · exact w_c5
  · exact w_c6
  · exact w_c7
  · exact w_c8
  · exact w_c9
  · exact w_c10
  · exact w_c11
  · exact w_c12
  · exact w_c13
  · exact w_c14
  · exact w_c15
  · exact w_c16
  · exact w_c17
set_option maxRecDepth 65536 in
theorem w_t1 : (words1.take 24).all (fun c => isCode c || c.before args0 about1) = true := by decide +kernel
set_option maxRecDepth 65536 in
theorem w_t2 : ((words1.drop 24).take 24).all (fun c => isCode c || c.before args0 about1) = true := by decide +kernel
set_option maxRecDepth 65536 in
theorem w_t3 : (((words1.drop 24).drop 24).take 24).all (fun c => isCode c || c.before args0 about1) = true := by decide +kernel
set_option maxRecDepth 65536 in
theorem w_t4 : (((words1.drop 24).drop 24).drop 24).all (fun c => isCode c || c.before args0 about1) = true := by decide +kernel
theorem w_tables : (allAtoms (Jvm.Cond.code x code maxLocals ret :: tables_1)).before args0 about1 = true := by
  rw [allAtoms_all]
  show words1.all (fun c => c.before args0 about1) = true
  refine all_split ?_ w_codes
  rw [← List.take_append_drop 24 words1, List.all_append, w_t1, ← List.take_append_drop 24 (words1.drop 24), List.all_append, w_t2, ← List.take_append_drop 24 ((words1.drop 24).drop 24), List.all_append, w_t3, w_t4]
  rfl
set_option maxRecDepth 65536 in
theorem w_rest : rest_1_c.before args0 about1 = true := by decide +kernel
set_option maxRecDepth 65536 in
theorem w_case : (Jvm.Cond.and given_1 narrow_1).before args0 about1 = true := by decide +kernel
set_option maxRecDepth 65536 in
theorem w_consts : constsHeld consts_1 about1 := Jvm.Lit.constsHeldB_iff.mp (by decide +kernel)
theorem w_applies : (headSpec (Jvm.Cond.code x code maxLocals ret :: tables_1) room_1).applies x e0.platform about1 = true :=
  (Spec.applies_iff w_frames).mpr ⟨w_running, w_runnable, w_alone, w_named, w_hears, w_ripe, w_room, w_tables⟩
theorem atStart : AtStart classFile x code maxLocals ret World_1 tables_1 room_1 Calls_1 rest_1 Pre_1 launch0 p0 e0 about1 theMethod args0 below0 :=
  ⟨lists_1, trivial, launch0.admits_env _ _ _, launch0.least_env, fairChoices_fair.cas, fairChoices_fair.clock, w_frames, w_args, w_heap, w_applies, ⟨w_consts, trivial⟩, w_rest, w_case⟩
end start1
theorem witness_1 : WitnessClaimed_1 := ⟨start1.p0, start1.e0, start1.about1, start1.theMethod, start1.args0, start1.below0, start1.atStart⟩
end Jvm.Pilot.@@N@@
