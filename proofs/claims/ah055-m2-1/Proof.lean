import JvmDerived
import JvmDerived.Pilot.@@N@@Statement
import JvmDerived.Pilot.@@N@@Code
set_option maxRecDepth 65536
set_option maxHeartbeats 40000000
set_option linter.unusedVariables false
set_option linter.unusedSimpArgs false
namespace Jvm.Pilot.@@N@@
open Jvm Jvm.ClassFile Sem Op Lib Jvm.Free Jvm.Stand Jvm.LawKit Jvm.RoadKit Bundle Jvm.Pilot.@@N@@.Jvm.D
def own_SC (Z : State) (cs0 : Int32) : Prop := Sta Z Z.heap "java/lang/String" "COMPACT_STRINGS" "Z" (.int cs0) ∧ ¬ cs0 = 0
def own_SU (Z : State) : Prop := Sta Z Z.heap "java/lang/StringUTF16" "$assertionsDisabled" "Z" (.int (1 : Int32)) ∧ Sta Z Z.heap "java/lang/StringUTF16" "HI_BYTE_SHIFT" "I" (.int (0 : Int32)) ∧ Sta Z Z.heap "java/lang/StringUTF16" "LO_BYTE_SHIFT" "I" (.int (8 : Int32))
abbrev F'0 (Z : State) (h : Heap) (a : Addr) (v : Value) : Prop := Fld Z h a "java/lang/String" "coder" "B" v
abbrev F'1 (Z : State) (h : Heap) (a : Addr) (v : Value) : Prop := Fld Z h a "java/lang/String" "value" "[B" v
abbrev b'1 := method_3_code
abbrev b'2 := method_4_code
abbrev b'3 := method_7_code
abbrev b'4 := method_8_code
abbrev b'5 := jdk_29_method_69_code
abbrev b'6 := prog_10_method_2_code
abbrev b'7 := jdk_42_method_54_code
abbrev b'8 := jdk_42_method_152_code
abbrev b'9 := jdk_29_method_59_code
abbrev b'10 := prog_11_method_1_code
abbrev b'12 := jdk_29_method_65_code
abbrev b'13 := prog_11_method_3_code
abbrev b'14 := prog_11_method_2_code
abbrev b'15 := jdk_42_method_139_code
abbrev b'16 := jdk_43_method_3_code
abbrev b'17 := jdk_43_method_46_code
abbrev b'18 := jdk_42_method_151_code
abbrev b'19 := jdk_42_method_3_code
abbrev b'20 := jdk_42_method_149_code
abbrev b'21 := jdk_52_method_16_code
abbrev b'22 := jdk_52_method_21_code
abbrev b'23 := jdk_52_method_15_code
abbrev b'24 := jdk_52_method_14_code
abbrev b'25 := jdk_52_method_2_code
abbrev b'26 := jdk_52_method_3_code
abbrev b'27 := jdk_52_method_4_code
abbrev b'28 := jdk_52_method_5_code
abbrev b'29 := method_6_code
abbrev b'30 := jdk_42_method_56_code
abbrev b'31 := jdk_42_method_154_code
abbrev b'32 := jdk_52_method_83_code
abbrev b'33 := jdk_52_method_91_code
abbrev b'34 := jdk_52_method_6_code
abbrev b'35 := jdk_42_method_155_code
abbrev b'36 := jdk_41_method_11_code
abbrev b'37 := prog_10_method_3_code
abbrev b'38 := method_5_code
abbrev b'39 := jdk_43_method_2_code
abbrev b'40 := jdk_52_method_24_code
abbrev v'0 : Value := .int 0
abbrev v'1 : Value := .int 1
abbrev v'2 : Value := .int 2
abbrev v'3 : Value := .int 3
theorem own_dummy : True := trivial
section Own
variable {p : Program} {l : Launch} {e : Env} {R : Room} {s : State} {m : MethodId} {args : Array Value} {below : List Frame} {meth : Method} {c : Code} {T : State} {locs : List Loc} {cells slots : Nat}
def own_Fin (p : Program) (e : Env) (below : List Frame) (P : Outcome → State → Prop) (U : State) : Prop := ∃ s₂ o, Steps p.tables e below U s₂ ∧ s₂.status = .running ∧ Ended s₂ below o ∧ P o s₂
def own_P (Q : Option Value → Heap → List Loc → Prop) (s : State) (C S : Nat) : Outcome → State → Prop := fun o t => ∃ v L, o = .returned v ∧ Q v t.heap L ∧ FrameEnd s o t L C S
theorem own_go {P : Outcome → State → Prop} {U U' : State} (k : own_Fin p e below P U') (h : ∀ t, Steps p.tables e below U' t → Steps p.tables e below U t) : own_Fin p e below P U := by
 obtain ⟨t, o, h1, r⟩ := k; exact ⟨t, o, h t h1, r⟩
theorem own_cut {P : Outcome → State → Prop} {U : State} (A : Prop) (k : A) (h : A → own_Fin p e below P U) : own_Fin p e below P U := h k
theorem own_retN (X : Stand p l e R s m args below meth c T locs cells slots) (hx : p.tables.exec = Jvm.exec) {pc : Nat} {Ls : Array Slot} {z : Int32} {t : FieldType} {rest : List Value} (hret : meth.sig.returnType = some t) (ht : t = .boolean ∨ t = .byte ∨ t = .char ∨ t = .short)
  (hd : decode c.code pc = .ok (.ireturn, 1)) (hlk : meth.locks = false) {Q : Option Value → Heap → List Loc → Prop} {C S : Nat} (hQ : Q (some (.int (nar t z))) T.heap locs) (hC : cells ≤ C) (hS : slots ≤ S) : own_Fin p e below (own_P Q s C S) (T.setTop (mkF m pc Ls (.int z :: rest))) := by
 obtain ⟨fs, hr, hrun, hended, hW, hsame⟩ := X.leave (v := some (.int (nar t z))) (fun h => by rw [hret] at h; cases h) hlk
 exact ⟨_, _, retN X hx hret ht hd hr, hrun, hended, _, _, rfl, hQ, ⟨_, rfl⟩, hW, hsame.mono hC hS⟩
theorem own_retO (X : Stand p l e R s m args below meth c T locs cells slots) (hx : p.tables.exec = Jvm.exec) {pc : Nat} {Ls : Array Slot} {w : Value} {t : FieldType} {i : Instr} {rest : List Value} (hret : meth.sig.returnType = some t) (hn : narrow t w = w)
  (hi : (i = .ireturn ∧ (t = .int ∨ t = .boolean ∨ t = .byte ∨ t = .char ∨ t = .short) ∧ ∃ z, w = .int z) ∨ (i = .lreturn ∧ t = .long ∧ ∃ z, w = .long z) ∨ (i = .dreturn ∧ t = .double ∧ ∃ z, w = .double z) ∨ (i = .freturn ∧ t = .float ∧ ∃ z, w = .float z) ∨ (i = .areturn ∧ t.isReference = true ∧ w.isRef = true))
  (hd : decode c.code pc = .ok (i, 1)) (hlk : meth.locks = false) {Q : Option Value → Heap → List Loc → Prop} {C S : Nat} (hQ : Q (some w) T.heap locs) (hC : cells ≤ C) (hS : slots ≤ S) : own_Fin p e below (own_P Q s C S) (T.setTop (mkF m pc Ls (w :: rest))) := by
 obtain ⟨fs, hr, hrun, hended, hW, hsame⟩ := X.leave (v := some w) (fun h => by rw [hret] at h; cases h) hlk
 exact ⟨_, _, retOut X hx hret hn hi hd hr, hrun, hended, _, _, rfl, hQ, ⟨_, rfl⟩, hW, hsame.mono hC hS⟩
theorem own_retV (X : Stand p l e R s m args below meth c T locs cells slots) (hx : p.tables.exec = Jvm.exec) {pc : Nat} {Ls : Array Slot} (hret : meth.sig.returnType = none)
  (hd : decode c.code pc = .ok (.return_, 1)) (hlk : meth.locks = false) {Q : Option Value → Heap → List Loc → Prop} {C S : Nat} (hQ : Q none T.heap locs) (hC : cells ≤ C) (hS : slots ≤ S) : own_Fin p e below (own_P Q s C S) (T.setTop (mkF m pc Ls [])) := by
 obtain ⟨fs, hr, hrun, hended, hW, hsame⟩ := X.leave (v := none) (fun _ => rfl) hlk
 exact ⟨_, _, X.returnOut hx hret hd hr, hrun, hended, _, _, rfl, hQ, ⟨_, rfl⟩, hW, hsame.mono hC hS⟩
def own_PW (Q : Option Value → Heap → List Loc → Prop) (s : State) (C S : Nat) : Outcome → State → Prop := fun o t => ∃ v L, o = .returned v ∧ Q v t.heap L ∧ ReturnedEndW s o t L C S
theorem own_wmono {s t : State} {o : Outcome} {L : List Loc} {k n C S : Nat} (h : ReturnedEndW s o t L k n) (hC : k ≤ C) (hS : n ≤ S) : ReturnedEndW s o t L C S := ⟨h.1, h.2.1, h.2.2.1, h.2.2.2.mono hC hS⟩
theorem own_retNW {vm0 : Vm} (X : Stand p l e R (s.setVm vm0) m args below meth c T locs cells slots) {k0 : Nat} (hS : s.Since vm0 k0) (hk : k0 ≤ T.heap.size) (hx : p.tables.exec = Jvm.exec) {pc : Nat} {Ls : Array Slot} {z : Int32} {t : FieldType} {rest : List Value} (hret : meth.sig.returnType = some t) (ht : t = .boolean ∨ t = .byte ∨ t = .char ∨ t = .short)
  (hd : decode c.code pc = .ok (.ireturn, 1)) (hlk : meth.locks = false) {Q : Option Value → Heap → List Loc → Prop} {C S : Nat} (hQ : Q (some (.int (nar t z))) T.heap locs) (hC : cells ≤ C) (hS' : slots ≤ S) : own_Fin p e below (own_PW Q s C S) (T.setTop (mkF m pc Ls (.int z :: rest))) := by
 obtain ⟨fs, hr, hrun, hended, hW⟩ := X.leaveW hS hk (v := some (.int (nar t z))) (fun h => by rw [hret] at h; cases h) hlk
 exact ⟨_, _, retN X hx hret ht hd hr, hrun, hended, _, _, rfl, hQ, own_wmono hW hC hS'⟩
theorem own_retOW {vm0 : Vm} (X : Stand p l e R (s.setVm vm0) m args below meth c T locs cells slots) {k0 : Nat} (hS : s.Since vm0 k0) (hk : k0 ≤ T.heap.size) (hx : p.tables.exec = Jvm.exec) {pc : Nat} {Ls : Array Slot} {w : Value} {t : FieldType} {i : Instr} {rest : List Value} (hret : meth.sig.returnType = some t) (hn : narrow t w = w)
  (hi : (i = .ireturn ∧ (t = .int ∨ t = .boolean ∨ t = .byte ∨ t = .char ∨ t = .short) ∧ ∃ z, w = .int z) ∨ (i = .lreturn ∧ t = .long ∧ ∃ z, w = .long z) ∨ (i = .dreturn ∧ t = .double ∧ ∃ z, w = .double z) ∨ (i = .freturn ∧ t = .float ∧ ∃ z, w = .float z) ∨ (i = .areturn ∧ t.isReference = true ∧ w.isRef = true))
  (hd : decode c.code pc = .ok (i, 1)) (hlk : meth.locks = false) {Q : Option Value → Heap → List Loc → Prop} {C S : Nat} (hQ : Q (some w) T.heap locs) (hC : cells ≤ C) (hS' : slots ≤ S) : own_Fin p e below (own_PW Q s C S) (T.setTop (mkF m pc Ls (w :: rest))) := by
 obtain ⟨fs, hr, hrun, hended, hW⟩ := X.leaveW hS hk (v := some w) (fun h => by rw [hret] at h; cases h) hlk
 exact ⟨_, _, retOut X hx hret hn hi hd hr, hrun, hended, _, _, rfl, hQ, own_wmono hW hC hS'⟩
theorem own_retVW {vm0 : Vm} (X : Stand p l e R (s.setVm vm0) m args below meth c T locs cells slots) {k0 : Nat} (hS : s.Since vm0 k0) (hk : k0 ≤ T.heap.size) (hx : p.tables.exec = Jvm.exec) {pc : Nat} {Ls : Array Slot} (hret : meth.sig.returnType = none)
  (hd : decode c.code pc = .ok (.return_, 1)) (hlk : meth.locks = false) {Q : Option Value → Heap → List Loc → Prop} {C S : Nat} (hQ : Q none T.heap locs) (hC : cells ≤ C) (hS' : slots ≤ S) : own_Fin p e below (own_PW Q s C S) (T.setTop (mkF m pc Ls [])) := by
 obtain ⟨fs, hr, hrun, hended, hW⟩ := X.leaveW hS hk (v := none) (fun _ => rfl) hlk
 exact ⟨_, _, X.returnOut hx hret hd hr, hrun, hended, _, _, rfl, hQ, own_wmono hW hC hS'⟩
theorem own_getR {Z : State} {a0 : Array Value} {h : Heap} (X : Stand p l e R s m args below meth c T locs cells slots) (hx : p.tables.exec = Jvm.exec) (hZ : Z.Warmed39 s.vm) {own O n d : String} {index : Nat} (hown : s.vm.findClass own = some m.cls) (w : (Jvm.Cond.fieldRef own index O n d).before a0 Z = true)
  (eT : T.heap = h) {a : Addr} {v : Value} (F : Fld Z h a O n d v) {g : JFrame} (hg : g.method = m) {rest : List Value} (hs : g.stack = .ref a :: rest) (hd : decode c.code g.pc = .ok (.getfield index, 3)) :
  ∀ target, Steps p.tables e below (T.setTop { g with pc := g.pc + 3, stack := v :: rest }) target → Steps p.tables e below (T.setTop g) target := by
 obtain ⟨cell, cf, k, i, f, h1, h2, h3, h4, -, -, h7⟩ := F
 have hU : Z.Warmed39 T.vm := wtrans hZ X.warmed
 have w0 : (Jvm.Cond.fieldRef own index O n d).before a0 (Z.setVm T.vm) = true := Cond.fieldRef_warmed39 hU w
 have w' : (Jvm.Cond.fieldRef own index O n d).before args T = true := w0
 have hc : T.vm.findClass own = some m.cls := by rw [X.warmed.alike.findClass]; exact hown
 obtain ⟨c', k', i', f', q1, q2⟩ := Cond.fieldRef_spec hc w'
 obtain ⟨k2, hi, -⟩ := State.fieldFound?_setVm (s := Z) hU.alike h2
 have hi' : T.fieldFound? O n d = some (cf, k2, i, f) := hi
 cases q1.symm.trans hi'
 intro target ht
 exact (X.getfieldR hx hg q2 h3 hs (by rw [eT]; exact h1) h4 h7 hd (Steps.refl _)).trans ht
end Own
abbrev own_hw (a0 : Array Value) (Z : State) : Prop := ∀ d ∈ tables_1, d.before a0 Z = true
def own_q (p : Program) (c : Code) (b : ByteArray) : Prop := p.tables.exec = Jvm.exec ∧ c.code = b
abbrev own_D (b : ByteArray) (pc : Nat) (i : Instr) (n pc' : Nat) : Prop := decode b pc = .ok (i, n) ∧ pc + n = pc'
def own_dk (b : ByteArray) (pc : Nat) : Option (Int32 × Nat) := match decode b pc with
 | .ok (.iconst i, 1) => some (Int32.ofInt i, pc + 1)
 | .ok (.bipush i, 2) => some ((Int8.ofInt i).toInt32, pc + 2)
 | .ok (.sipush i, 3) => some ((Int16.ofInt i).toInt32, pc + 3)
 | _ => none
abbrev own_DK (b : ByteArray) (pc : Nat) (z : Int32) (pc' : Nat) : Prop := own_dk b pc = some (z, pc')
theorem own_dkE {b : ByteArray} {pc pc' : Nat} {z : Int32} (d : own_DK b pc z pc') : (∃ i, decode b pc = .ok (.iconst i, 1) ∧ Int32.ofInt i = z ∧ pc + 1 = pc') ∨ (∃ i, decode b pc = .ok (.bipush i, 2) ∧ (Int8.ofInt i).toInt32 = z ∧ pc + 2 = pc') ∨ (∃ i, decode b pc = .ok (.sipush i, 3) ∧ (Int16.ofInt i).toInt32 = z ∧ pc + 3 = pc') := by
 unfold own_DK own_dk at d
 split at d
 ·rename_i i hd; cases d; exact Or.inl ⟨_, hd, rfl, rfl⟩
 ·rename_i i hd; cases d; exact Or.inr (Or.inl ⟨_, hd, rfl, rfl⟩)
 ·rename_i i hd; cases d; exact Or.inr (Or.inr ⟨_, hd, rfl, rfl⟩)
 ·cases d
def own_di (b : ByteArray) (pc : Nat) : Option (Nat × Int32 × Nat) := match decode b pc with
 | .ok (.iinc k i, 3) => some (k, Int32.ofInt i, pc + 3)
 | _ => none
abbrev own_DI (b : ByteArray) (pc k : Nat) (z : Int32) (pc' : Nat) : Prop := own_di b pc = some (k, z, pc')
theorem own_diE {b : ByteArray} {pc k pc' : Nat} {z : Int32} (d : own_DI b pc k z pc') : ∃ i, decode b pc = .ok (.iinc k i, 3) ∧ Int32.ofInt i = z ∧ pc + 3 = pc' := by
 unfold own_DI own_di at d
 split at d
 ·rename_i k i hd; cases d; exact ⟨_, hd, rfl, rfl⟩
 ·cases d
def own_dg (b : ByteArray) (pc : Nat) : Option Nat := match decode b pc with
 | .ok (.goto o, 3) => if 0 ≤ (pc : Int) + o then some ((pc : Int) + o).toNat else none
 | _ => none
abbrev own_DG (b : ByteArray) (pc t : Nat) : Prop := own_dg b pc = some t
theorem own_dgE {b : ByteArray} {pc t : Nat} (d : own_DG b pc t) : ∃ o, decode b pc = .ok (.goto o, 3) ∧ 0 ≤ (pc : Int) + o ∧ ((pc : Int) + o).toNat = t := by
 unfold own_DG own_dg at d
 split at d
 ·rename_i o hd
  split at d
  ·rename_i h; cases d; exact ⟨_, hd, h, rfl⟩
  ·cases d
 ·cases d
def own_dj (b : ByteArray) (pc : Nat) : Option (ClassFile.Cond × Nat × Nat) := match decode b pc with
 | .ok (.if_icmp cd o, 3) => if 0 ≤ (pc : Int) + o then some (cd, ((pc : Int) + o).toNat, pc + 3) else none
 | _ => none
abbrev own_DJ (b : ByteArray) (pc : Nat) (cd : ClassFile.Cond) (t n : Nat) : Prop := own_dj b pc = some (cd, t, n)
theorem own_djE {b : ByteArray} {pc t n : Nat} {cd : ClassFile.Cond} (d : own_DJ b pc cd t n) : ∃ o, decode b pc = .ok (.if_icmp cd o, 3) ∧ 0 ≤ (pc : Int) + o ∧ ((pc : Int) + o).toNat = t ∧ pc + 3 = n := by
 unfold own_DJ own_dj at d
 split at d
 ·rename_i cd o hd
  split at d
  ·rename_i h; cases d; exact ⟨_, hd, h, rfl, rfl⟩
  ·cases d
 ·cases d
def own_dz (b : ByteArray) (pc : Nat) : Option (ClassFile.Cond × Nat × Nat) := match decode b pc with
 | .ok (.ifCond cd o, 3) => if 0 ≤ (pc : Int) + o then some (cd, ((pc : Int) + o).toNat, pc + 3) else none
 | _ => none
abbrev own_DZ (b : ByteArray) (pc : Nat) (cd : ClassFile.Cond) (t n : Nat) : Prop := own_dz b pc = some (cd, t, n)
theorem own_dzE {b : ByteArray} {pc t n : Nat} {cd : ClassFile.Cond} (d : own_DZ b pc cd t n) : ∃ o, decode b pc = .ok (.ifCond cd o, 3) ∧ 0 ≤ (pc : Int) + o ∧ ((pc : Int) + o).toNat = t ∧ pc + 3 = n := by
 unfold own_DZ own_dz at d
 split at d
 ·rename_i cd o hd
  split at d
  ·rename_i h; cases d; exact ⟨_, hd, h, rfl, rfl⟩
  ·cases d
 ·cases d
section OwnC
variable {p : Program} {l : Launch} {e : Env} {R : Room} {s : State} {m : MethodId} {args : Array Value} {below : List Frame} {meth : Method} {c : Code} {T T' : State} {locs : List Loc} {cells slots : Nat} {b : ByteArray} {P : Outcome → State → Prop} {Ls l' : Array Slot} {S S' : List Value} {pc pc' t n : Nat}
theorem own_q.d {i : Instr} (q : own_q p c b) (d : own_D b pc i n pc') : decode c.code pc = .ok (i, n) := hb q.2 d.1
theorem own_w {Z : State} {a0 : Array Value} (hw : ∀ d ∈ tables_1, d.before a0 Z = true) (i : Nat) {d : Jvm.Cond} (h : tables_1[i]? = some d) : d.before a0 Z = true := hw d (List.mem_of_getElem? h)
theorem own_let (h : let g := mkF m pc Ls S; own_Fin p e below P (T.setTop g)) : own_Fin p e below P (T.setTop (mkF m pc Ls S)) := h
theorem own_stp (k : Nat) (st : ∀ t, Steps p.tables e below (T'.setTop (mkF m k Ls S')) t → Steps p.tables e below (T.setTop (mkF m pc Ls S)) t) (K : own_Fin p e below P (T'.setTop (mkF m k Ls S'))) : own_Fin p e below P (T.setTop (mkF m pc Ls S)) := own_go K st
theorem own_stq (k : Nat) (S' : List Value) (st : ∀ t, Steps p.tables e below (T'.setTop (mkF m k Ls S')) t → Steps p.tables e below (T.setTop (mkF m pc Ls S)) t) (K : own_Fin p e below P (T'.setTop (mkF m k Ls S'))) : own_Fin p e below P (T.setTop (mkF m pc Ls S)) := own_go K st
section OwnC2
theorem own_il {k : Nat} {v : Int32} (X : Stand p l e R s m args below meth c T locs cells slots) (q : own_q p c b) (d : own_D b pc (.iload k) 2 pc') (h : Ls[k]? = some (.val (.int v))) (K : own_Fin p e below P (T.setTop (mkF m pc' Ls (.int v :: S)))) : own_Fin p e below P (T.setTop (mkF m pc Ls S)) := by
 obtain ⟨hd, rfl⟩ := d
 exact own_go K fun t k => XS.iload X.here q.1 rfl (hb q.2 hd) h k
theorem own_iln {k : Fin 4} {v : Int32} (X : Stand p l e R s m args below meth c T locs cells slots) (q : own_q p c b) (d : own_D b pc (.iload_n k) 1 pc') (h : Ls[k.val]? = some (.val (.int v))) (K : own_Fin p e below P (T.setTop (mkF m pc' Ls (.int v :: S)))) : own_Fin p e below P (T.setTop (mkF m pc Ls S)) := by
 obtain ⟨hd, rfl⟩ := d
 exact own_go K fun t k => XS.iloadN X.here q.1 rfl (hb q.2 hd) h k
theorem own_lln {k : Fin 4} {v : Int64} (X : Stand p l e R s m args below meth c T locs cells slots) (q : own_q p c b) (d : own_D b pc (.lload_n k) 1 pc') (h : Ls[k.val]? = some (.val (.long v))) (K : own_Fin p e below P (T.setTop (mkF m pc' Ls (.long v :: S)))) : own_Fin p e below P (T.setTop (mkF m pc Ls S)) := by
 obtain ⟨hd, rfl⟩ := d
 exact own_go K fun t k => XS.lloadN X.here q.1 rfl (hb q.2 hd) h k
theorem own_al {k : Nat} {v : Value} (X : Stand p l e R s m args below meth c T locs cells slots) (q : own_q p c b) (d : own_D b pc (.aload k) 2 pc') (h : Ls[k]? = some (.val v)) (hv : v.isRef = true) (K : own_Fin p e below P (T.setTop (mkF m pc' Ls (v :: S)))) : own_Fin p e below P (T.setTop (mkF m pc Ls S)) := by
 obtain ⟨hd, rfl⟩ := d
 exact own_go K fun t k => XS.aload X.here q.1 rfl (hb q.2 hd) h hv k
theorem own_aln {k : Fin 4} {v : Value} (X : Stand p l e R s m args below meth c T locs cells slots) (q : own_q p c b) (d : own_D b pc (.aload_n k) 1 pc') (h : Ls[k.val]? = some (.val v)) (hv : v.isRef = true) (K : own_Fin p e below P (T.setTop (mkF m pc' Ls (v :: S)))) : own_Fin p e below P (T.setTop (mkF m pc Ls S)) := by
 obtain ⟨hd, rfl⟩ := d
 exact own_go K fun t k => XS.aloadN X.here q.1 rfl (hb q.2 hd) h hv k
theorem own_is {k : Nat} {v : Int32} (X : Stand p l e R s m args below meth c T locs cells slots) (q : own_q p c b) (d : own_D b pc (.istore k) 2 pc') (h : storeLocals Ls k (.int v) = some l') (K : own_Fin p e below P (T.setTop (mkF m pc' l' S))) : own_Fin p e below P (T.setTop (mkF m pc Ls (.int v :: S))) := by
 obtain ⟨hd, rfl⟩ := d
 exact own_go K fun t k => XS.istore X.here q.1 rfl (hb q.2 hd) rfl h k
theorem own_isn {k : Fin 4} {v : Int32} (X : Stand p l e R s m args below meth c T locs cells slots) (q : own_q p c b) (d : own_D b pc (.istore_n k) 1 pc') (h : storeLocals Ls k.val (.int v) = some l') (K : own_Fin p e below P (T.setTop (mkF m pc' l' S))) : own_Fin p e below P (T.setTop (mkF m pc Ls (.int v :: S))) := by
 obtain ⟨hd, rfl⟩ := d
 exact own_go K fun t k => XS.istoreN X.here q.1 rfl (hb q.2 hd) rfl h k
theorem own_as {k : Nat} {v : Value} (X : Stand p l e R s m args below meth c T locs cells slots) (q : own_q p c b) (d : own_D b pc (.astore k) 2 pc') (hv : v.isRef = true) (h : storeLocals Ls k v = some l') (K : own_Fin p e below P (T.setTop (mkF m pc' l' S))) : own_Fin p e below P (T.setTop (mkF m pc Ls (v :: S))) := by
 obtain ⟨hd, rfl⟩ := d
 exact own_go K fun t k => XS.astore X.here q.1 rfl (hb q.2 hd) rfl hv h k
theorem own_asn {k : Fin 4} {v : Value} (X : Stand p l e R s m args below meth c T locs cells slots) (q : own_q p c b) (d : own_D b pc (.astore_n k) 1 pc') (hv : v.isRef = true) (h : storeLocals Ls k.val v = some l') (K : own_Fin p e below P (T.setTop (mkF m pc' l' S))) : own_Fin p e below P (T.setTop (mkF m pc Ls (v :: S))) := by
 obtain ⟨hd, rfl⟩ := d
 exact own_go K fun t k => XS.astoreN X.here q.1 rfl (hb q.2 hd) rfl hv h k
theorem own_k {z : Int32} (X : Stand p l e R s m args below meth c T locs cells slots) (q : own_q p c b) (d : own_DK b pc z pc') (K : own_Fin p e below P (T.setTop (mkF m pc' Ls (.int z :: S)))) : own_Fin p e below P (T.setTop (mkF m pc Ls S)) := by
 rcases own_dkE d with ⟨i, hd, rfl, rfl⟩ | ⟨i, hd, rfl, rfl⟩ | ⟨i, hd, rfl, rfl⟩
 ·exact own_go K fun t k => XS.iconst X.here q.1 rfl (hb q.2 hd) k
 ·exact own_go K fun t k => XS.bipush X.here q.1 rfl (hb q.2 hd) k
 ·exact own_go K fun t k => XS.sipush X.here q.1 rfl (hb q.2 hd) k
theorem own_nl (X : Stand p l e R s m args below meth c T locs cells slots) (q : own_q p c b) (d : own_D b pc .aconst_null 1 pc') (K : own_Fin p e below P (T.setTop (mkF m pc' Ls (.null :: S)))) : own_Fin p e below P (T.setTop (mkF m pc Ls S)) := by
 obtain ⟨hd, rfl⟩ := d
 exact own_go K fun t k => XS.aconstNull X.here q.1 rfl (hb q.2 hd) k
theorem own_ii {k : Nat} {x z : Int32} (X : Stand p l e R s m args below meth c T locs cells slots) (q : own_q p c b) (d : own_DI b pc k z pc') (h : Ls[k]? = some (.val (.int x))) (h' : storeLocals Ls k (.int (x + z)) = some l') (K : own_Fin p e below P (T.setTop (mkF m pc' l' S))) : own_Fin p e below P (T.setTop (mkF m pc Ls S)) := by
 obtain ⟨i, hd, rfl, rfl⟩ := own_diE d
 exact own_go K fun t k => XS.iinc X.here q.1 rfl (hb q.2 hd) h h' k
theorem own_iik {k : Nat} {x y z : Int32} (X : Stand p l e R s m args below meth c T locs cells slots) (q : own_q p c b) (d : own_DI b pc k z pc') (h : Ls[k]? = some (.val (.int x))) (hy : x + z = y) (h' : storeLocals Ls k (.int y) = some l') (K : own_Fin p e below P (T.setTop (mkF m pc' l' S))) : own_Fin p e below P (T.setTop (mkF m pc Ls S)) := by
 subst hy; exact own_ii X q d h h' K
theorem own_dp {v : Value} (X : Stand p l e R s m args below meth c T locs cells slots) (q : own_q p c b) (d : own_D b pc .dup 1 pc') (hc : v.category = 1) (K : own_Fin p e below P (T.setTop (mkF m pc' Ls (v :: v :: S)))) : own_Fin p e below P (T.setTop (mkF m pc Ls (v :: S))) := by
 obtain ⟨hd, rfl⟩ := d
 exact own_go K fun t k => XS.dup X.here q.1 rfl (hb q.2 hd) rfl hc k
theorem own_iadd {x y : Int32} (X : Stand p l e R s m args below meth c T locs cells slots) (q : own_q p c b) (d : own_D b pc .iadd 1 pc') (K : own_Fin p e below P (T.setTop (mkF m pc' Ls (.int (x + y) :: S)))) : own_Fin p e below P (T.setTop (mkF m pc Ls (.int y :: .int x :: S))) := by
 obtain ⟨hd, rfl⟩ := d
 exact own_go K fun t k => XS.iadd X.here q.1 rfl (hb q.2 hd) rfl k
theorem own_isub {x y : Int32} (X : Stand p l e R s m args below meth c T locs cells slots) (q : own_q p c b) (d : own_D b pc .isub 1 pc') (K : own_Fin p e below P (T.setTop (mkF m pc' Ls (.int (x - y) :: S)))) : own_Fin p e below P (T.setTop (mkF m pc Ls (.int y :: .int x :: S))) := by
 obtain ⟨hd, rfl⟩ := d
 exact own_go K fun t k => XS.isub X.here q.1 rfl (hb q.2 hd) rfl k
theorem own_isubk (z : Int32) {x y : Int32} (X : Stand p l e R s m args below meth c T locs cells slots) (q : own_q p c b) (d : own_D b pc .isub 1 pc') (h : x - y = z) (K : own_Fin p e below P (T.setTop (mkF m pc' Ls (.int z :: S)))) : own_Fin p e below P (T.setTop (mkF m pc Ls (.int y :: .int x :: S))) := own_isub X q d (h.symm ▸ K)
theorem own_gt (X : Stand p l e R s m args below meth c T locs cells slots) (q : own_q p c b) (d : own_DG b pc t) (K : own_Fin p e below P (T.setTop (mkF m t Ls S))) : own_Fin p e below P (T.setTop (mkF m pc Ls S)) := by
 obtain ⟨o, hd, h1, h2⟩ := own_dgE d
 exact own_go K fun t k => XS.goto X.here q.1 rfl rfl (hb q.2 hd) h1 h2 k
theorem own_cy {cd : ClassFile.Cond} {x y : Int32} (X : Stand p l e R s m args below meth c T locs cells slots) (q : own_q p c b) (d : own_DJ b pc cd t n) (h : if_icmp.holds cd x y = true) (K : own_Fin p e below P (T.setTop (mkF m t Ls S))) : own_Fin p e below P (T.setTop (mkF m pc Ls (.int y :: .int x :: S))) := by
 obtain ⟨o, hd, h1, h2, -⟩ := own_djE d
 exact own_go K fun t k => XS.icmpYes X.here q.1 rfl rfl (hb q.2 hd) rfl h h1 h2 k
theorem own_cn {cd : ClassFile.Cond} {x y : Int32} (X : Stand p l e R s m args below meth c T locs cells slots) (q : own_q p c b) (d : own_DJ b pc cd t n) (h : if_icmp.holds cd x y = false) (K : own_Fin p e below P (T.setTop (mkF m n Ls S))) : own_Fin p e below P (T.setTop (mkF m pc Ls (.int y :: .int x :: S))) := by
 obtain ⟨o, hd, -, -, rfl⟩ := own_djE d
 exact own_go K fun t k => XS.icmpNo X.here q.1 rfl (hb q.2 hd) rfl h k
theorem own_zy {cd : ClassFile.Cond} {x : Int32} (X : Stand p l e R s m args below meth c T locs cells slots) (q : own_q p c b) (d : own_DZ b pc cd t n) (h : ifCond.holds cd x = true) (K : own_Fin p e below P (T.setTop (mkF m t Ls S))) : own_Fin p e below P (T.setTop (mkF m pc Ls (.int x :: S))) := by
 obtain ⟨o, hd, h1, h2, -⟩ := own_dzE d
 exact own_go K fun t k => XS.ifYes X.here q.1 rfl rfl (hb q.2 hd) rfl h h1 h2 k
theorem own_zn {cd : ClassFile.Cond} {x : Int32} (X : Stand p l e R s m args below meth c T locs cells slots) (q : own_q p c b) (d : own_DZ b pc cd t n) (h : ifCond.holds cd x = false) (K : own_Fin p e below P (T.setTop (mkF m n Ls S))) : own_Fin p e below P (T.setTop (mkF m pc Ls (.int x :: S))) := by
 obtain ⟨o, hd, -, -, rfl⟩ := own_dzE d
 exact own_go K fun t k => XS.ifNo X.here q.1 rfl (hb q.2 hd) rfl h k
end OwnC2
end OwnC
abbrev own_M (l : Launch) (Z : State) (ws : List Jvm.Cond) (y : MethodName) (b : ByteArray) (ml : Nat) (rt : Option FieldType) (R : Room) (A : Array Value) (h0 : Heap) (Q : Option Value → Heap → List Loc → Prop) : Prop := MetFree l y (head1 (Jvm.Cond.code y b ml rt :: ws) R) (fun a U => a = A ∧ Z.Warmed39 U.vm ∧ U.heap = h0) (fun _ _ _ _ _ => True) (fun _ U o U' => ∃ v L, o = .returned v ∧ Q v U'.heap L ∧ FrameEnd U o U' L R.cells R.slots)
theorem own_start {l : Launch} {Z : State} {ws : List Jvm.Cond} {y : MethodName} {b : ByteArray} {ml : Nat} {rt : Option FieldType} {R : Room} {A : Array Value} {h0 : Heap} {Q : Option Value → Heap → List Loc → Prop} {a0 : Array Value} {n0 : Nat} (hw : own_hw a0 Z) (own : String) {L : Array Slot} (pn : plainFor y = true)
  (H : ∀ {p : Program} {e : Env} {s : State} {m : MethodId} {below : List Frame} {meth : Method} {c : Code} {s₁ : State}, own_q p c b → p.tables.exec = Jvm.exec → (∀ (i : Nat) {d : Jvm.Cond}, tables_1[i]? = some d → d.before a0 Z = true) → c.maxLocals = ml → Z.Warmed39 s.vm → s.vm.findClass own = some m.cls → meth.name = y.name → meth.locks = false → meth.sig.returnType = rt → Stand p l e R s m A below meth c s₁ [] 0 0 → s₁.heap = h0 → Fr n0 [] → own_Fin p e below (own_P Q s R.cells R.slots) (s₁.setTop (mkF m 0 L [])))
  (ho : y.cls = own := by rfl) (hE : ∀ m, entryFrame m A ml = mkF m 0 L [] := by intro m; first | (simp [entryFrame, mkF, argsToLocals, Value.category]; done) | rfl) : own_M l Z ws y b ml rt R A h0 Q := by
 refine MetFree.of_bodySF pn hisR ?_
 intro p e s m args below meth c s₁ Bd hml0 hP hK
 obtain ⟨rfl, hZ, hh⟩ := hP
 have X0 : Stand p l e R s m args below meth c s₁ [] 0 0 := Stand.of_body Bd
 have e0 : s₁.heap = h0 := by rw [← hh, Bd.state]; rfl
 show own_Fin p e below (own_P Q s R.cells R.slots) (s₁.setTop (entryFrame m args ml))
 rw [hE m]
 exact H ⟨Bd.exec, Bd.bytes⟩ Bd.exec (own_w hw) hml0 hZ (ho ▸ findClass_of_methodNamed Bd.named) (name_of_methodNamed Bd.named Bd.method).1 (BodyLoose.notSynchronized Bd) Bd.returns X0 e0 (Fr.nil n0)
section OwnE
variable {p : Program} {l : Launch} {e : Env} {R : Room} {s : State} {m : MethodId} {args : Array Value} {below : List Frame} {meth : Method} {c : Code} {T : State} {locs : List Loc} {cells slots C S' : Nat} {b : ByteArray} {Ls : Array Slot} {S : List Value} {pc pc' : Nat} {t : FieldType} {Q : Option Value → Heap → List Loc → Prop}
theorem own_rA {a : Addr} (X : Stand p l e R s m args below meth c T locs cells slots) (q : own_q p c b) (hr : meth.sig.returnType = some t) (d : own_D b pc .areturn 1 pc') (hlk : meth.locks = false) (hc : cells ≤ C ∧ slots ≤ S') (hQ : Q (some (.ref a)) T.heap locs) (hn : narrow t (.ref a) = .ref a := by rfl) (ht : t.isReference = true := by rfl) : own_Fin p e below (own_P Q s C S') (T.setTop (mkF m pc Ls (.ref a :: S))) :=
 own_retO X q.1 hr hn (Or.inr (Or.inr (Or.inr (Or.inr ⟨rfl, ht, rfl⟩)))) (q.d d) hlk hQ hc.1 hc.2
theorem own_rI {z : Int32} (X : Stand p l e R s m args below meth c T locs cells slots) (q : own_q p c b) (hr : meth.sig.returnType = some .int) (d : own_D b pc .ireturn 1 pc') (hlk : meth.locks = false) (hc : cells ≤ C ∧ slots ≤ S') (hQ : Q (some (.int z)) T.heap locs) : own_Fin p e below (own_P Q s C S') (T.setTop (mkF m pc Ls (.int z :: S))) :=
 own_retO X q.1 hr rfl (Or.inl ⟨rfl, Or.inl rfl, _, rfl⟩) (q.d d) hlk hQ hc.1 hc.2
theorem own_rN {z : Int32} (X : Stand p l e R s m args below meth c T locs cells slots) (q : own_q p c b) (hr : meth.sig.returnType = some t) (ht : t = .boolean ∨ t = .byte ∨ t = .char ∨ t = .short) (d : own_D b pc .ireturn 1 pc') (hlk : meth.locks = false) (hc : cells ≤ C ∧ slots ≤ S') (hQ : Q (some (.int (nar t z))) T.heap locs) : own_Fin p e below (own_P Q s C S') (T.setTop (mkF m pc Ls (.int z :: S))) :=
 own_retN X q.1 hr ht (q.d d) hlk hQ hc.1 hc.2
theorem own_rV (X : Stand p l e R s m args below meth c T locs cells slots) (q : own_q p c b) (hr : meth.sig.returnType = none) (d : own_D b pc .return_ 1 pc') (hlk : meth.locks = false) (hc : cells ≤ C ∧ slots ≤ S') (hQ : Q none T.heap locs) : own_Fin p e below (own_P Q s C S') (T.setTop (mkF m pc Ls [])) :=
 own_retV X q.1 hr (q.d d) hlk hQ hc.1 hc.2
end OwnE
section OwnD
variable {p : Program} {l : Launch} {e : Env} {R : Room} {s : State} {m : MethodId} {args : Array Value} {below : List Frame} {meth : Method} {c : Code} {T : State} {locs : List Loc} {cells slots : Nat} {b : ByteArray} {P : Outcome → State → Prop} {Ls : Array Slot} {S : List Value} {pc pc' : Nat} {Z : State} {a0 : Array Value} {h : Heap}
theorem own_nv {v : Value} (K : own_Fin p e below P (T.setTop (mkF m pc Ls (v :: S)))) : own_Fin p e below P (T.setTop (mkF m pc Ls ((some v).toList ++ S))) := K
theorem own_nn (K : own_Fin p e below P (T.setTop (mkF m pc Ls S))) : own_Fin p e below P (T.setTop (mkF m pc Ls ((none : Option Value).toList ++ S))) := K
theorem own_cS {own : String} {index : Nat} {y : MethodName} {bytes : ByteArray} {maxL : Nat} {ret : Option FieldType} {rm : Room} {as' : Array Value} {Q : Option Value → Heap → List Loc → Prop} {ps : List FieldType} {r : Option FieldType}
  (X : Stand p l e R s m args below meth c T locs cells slots) (q : own_q p c b) (hZ : Z.Warmed39 s.vm) (eT : T.heap = h) (hown : s.vm.findClass own = some m.cls) {ml : Nat} (hml : c.maxLocals = ml) (w1 : (Jvm.Cond.methodLink own index y).before a0 Z = true) (w2 : (Jvm.Cond.static y).before a0 Z = true) (w3 : (Jvm.Cond.initialized y.cls).before a0 Z = true) (w4 : (Jvm.Cond.code y bytes maxL ret).before a0 Z = true)
  (hM : own_M l Z [] y bytes maxL ret rm as' h Q) (d : own_D b pc (.invokestatic index) 3 pc') (argsL rest : List Value) (pd : parseMethodDescriptor y.desc = some ⟨ps, r⟩) (W : Nat)
  (dec : (y.cls ≠ "java/lang/invoke/MethodHandle" ∧ y.cls ≠ "java/lang/invoke/VarHandle") ∧ rm.frames + 1 ≤ R.frames ∧ W + (maxL + 11) + rm.locals ≤ R.locals ∧ cells + rm.cells ≤ R.cells ∧ slots + rm.slots ≤ R.slots)
  (K : ∀ (v : Option Value) (T' : State) (L : List Loc), Stand p l e R s m args below meth c T' (locs ++ L) (cells + rm.cells) (slots + rm.slots) → Q v T'.heap L → own_Fin p e below P (T'.setTop (mkF m pc' Ls (v.toList ++ rest)))) (hs : Ls.size = ml := by rfl) (hl : argsL.length = ps.length := by rfl) (ha : argsL.toArray = as' := by rfl) (hW : (rest.map fun v => v.category).sum ≤ W := by exact Nat.le_refl _) :
  own_Fin p e below P (T.setTop (mkF m pc Ls (argsL.reverse ++ rest))) := by
 obtain ⟨hd, rfl⟩ := d
 obtain ⟨v, _, ⟨T', L', k', n'⟩, -, X', ⟨L, hQ, l1, l2, l3⟩, st⟩ := Jvm.LawKit.callS X q.1 (y := y) hown (mvT hZ w1) (mvT hZ w2) (mvT hZ w3) (mvT hZ w4) dec.1 (backOf (W := W) hM hZ w4 w3 dec.2.1 dec.2.2.1) (g := mkF m pc Ls (argsL.reverse ++ rest)) rfl (hs.trans hml.symm) (argsL := argsL) (rest := rest) (lenOf pd hl) rfl (by show 2 * 0 + _ ≤ _; omega) (hb q.2 hd) (fun _ _ => ⟨ha, eT, dec.2.2.2.1, dec.2.2.2.2⟩)
 dsimp only [Pt.U, Pt.locs, Pt.cells, Pt.slots] at X' l1 l2 l3 st hQ
 rw [l1, l2, l3] at X'
 exact own_go (K v T' L X' hQ) st
theorem own_cI {own : String} {index : Nat} {y : MethodName} {bytes : ByteArray} {maxL : Nat} {rm : Room} {as' : Array Value} {Q : Option Value → Heap → List Loc → Prop} {ps : List FieldType} {r : Option FieldType} {a : Addr}
  (X : Stand p l e R s m args below meth c T locs cells slots) (q : own_q p c b) (hZ : Z.Warmed39 s.vm) (eT : T.heap = h) (hown : s.vm.findClass own = some m.cls) {ml : Nat} (hml : c.maxLocals = ml) (w1 : (Jvm.Cond.methodLink own index y).before a0 Z = true) (w2 : (Jvm.Cond.instanceMethod y).before a0 Z = true) (w3 : (Jvm.Cond.initialized y.cls).before a0 Z = true) (w4 : (Jvm.Cond.code y bytes maxL none).before a0 Z = true)
  (hM : own_M l Z [] y bytes maxL none rm as' h Q) (d : own_D b pc (.invokespecial index) 3 pc') (argsL rest : List Value) (pd : parseMethodDescriptor y.desc = some ⟨ps, r⟩) (W : Nat) (hy1 : y.name = "<init>")
  (dec : (y.cls ≠ "java/lang/invoke/MethodHandle" ∧ y.cls ≠ "java/lang/invoke/VarHandle") ∧ rm.frames + 1 ≤ R.frames ∧ W + (maxL + 11) + rm.locals ≤ R.locals ∧ cells + rm.cells ≤ R.cells ∧ slots + rm.slots ≤ R.slots)
  (K : ∀ (v : Option Value) (T' : State) (L : List Loc), Stand p l e R s m args below meth c T' (locs ++ L) (cells + rm.cells) (slots + rm.slots) → Q v T'.heap L → own_Fin p e below P (T'.setTop (mkF m pc' Ls (v.toList ++ rest)))) (hs : Ls.size = ml := by rfl) (hl : argsL.length = ps.length := by rfl) (ha : (Value.ref a :: argsL).toArray = as' := by rfl) (hW : (rest.map fun v => v.category).sum ≤ W := by exact Nat.le_refl _) :
  own_Fin p e below P (T.setTop (mkF m pc Ls (argsL.reverse ++ .ref a :: rest))) := by
 obtain ⟨hd, rfl⟩ := d
 obtain ⟨v, _, ⟨T', L', k', n'⟩, -, X', ⟨L, hQ, l1, l2, l3⟩, st⟩ := X.specialBack q.1 (y := y) hy1 hown (mvT hZ w1) (mvT hZ w2) (mvT hZ w4) dec.1 (backOf (W := W) hM hZ w4 w3 dec.2.1 dec.2.2.1) (g := mkF m pc Ls (argsL.reverse ++ .ref a :: rest)) rfl (hs.trans hml.symm) (Steps.refl _) (a := a) (argsL := argsL) (rest := rest) (lenOf pd hl) rfl (by show 2 * 0 + _ ≤ _; omega) (hb q.2 hd) (fun _ _ => ⟨ha, eT, dec.2.2.2.1, dec.2.2.2.2⟩)
 dsimp only [Pt.U, Pt.locs, Pt.cells, Pt.slots] at X' l1 l2 l3 st hQ
 rw [l1, l2, l3] at X'
 exact own_go (K v T' L X' hQ) fun t k => st.trans k
theorem own_cV {own C : String} {index : Nat} {y z : MethodName} {bytes : ByteArray} {maxL : Nat} {ret : Option FieldType} {rm : Room} {as' : Array Value} {Q : Option Value → Heap → List Loc → Prop} {ps : List FieldType} {r : Option FieldType} {a : Addr}
  (X : Stand p l e R s m args below meth c T locs cells slots) (q : own_q p c b) (hZ : Z.Warmed39 s.vm) (eT : T.heap = h) (hown : s.vm.findClass own = some m.cls) {ml : Nat} (hml : c.maxLocals = ml) (w1 : (Jvm.Cond.methodLink own index y).before a0 Z = true) (w2 : (Jvm.Cond.declares y).before a0 Z = true) (w5 : (Jvm.Cond.selects C y z).before a0 Z = true) (w6 : (Jvm.Cond.instanceMethod z).before a0 Z = true) (w3 : (Jvm.Cond.initialized z.cls).before a0 Z = true) (w4 : (Jvm.Cond.code z bytes maxL ret).before a0 Z = true) (hzy : z = y) (E : Exa Z h a C)
  (hM : own_M l Z [] z bytes maxL ret rm as' h Q) (d : own_D b pc (.invokevirtual index) 3 pc') (argsL rest : List Value) (pd : parseMethodDescriptor y.desc = some ⟨ps, r⟩) (W : Nat)
  (dec : (y.cls ≠ "java/lang/invoke/MethodHandle" ∧ y.cls ≠ "java/lang/invoke/VarHandle") ∧ rm.frames + 1 ≤ R.frames ∧ W + (maxL + 11) + rm.locals ≤ R.locals ∧ cells + rm.cells ≤ R.cells ∧ slots + rm.slots ≤ R.slots)
  (K : ∀ (v : Option Value) (T' : State) (L : List Loc), Stand p l e R s m args below meth c T' (locs ++ L) (cells + rm.cells) (slots + rm.slots) → Q v T'.heap L → own_Fin p e below P (T'.setTop (mkF m pc' Ls (v.toList ++ rest)))) (hs : Ls.size = ml := by rfl) (hl : argsL.length = ps.length := by rfl) (ha : (Value.ref a :: argsL).toArray = as' := by rfl) (hW : (rest.map fun v => v.category).sum ≤ W := by exact Nat.le_refl _) :
  own_Fin p e below P (T.setTop (mkF m pc Ls (argsL.reverse ++ .ref a :: rest))) := by
 obtain ⟨hd, rfl⟩ := d
 subst hzy
 obtain ⟨cq, kq, qa, qb, qc⟩ := isOf hZ eT E
 obtain ⟨v, _, ⟨T', L', k', n'⟩, -, X', ⟨L, hQ, l1, l2, l3⟩, st⟩ := X.virtualBack q.1 hown (mvT hZ w1) (mvT hZ w2) (notFace_of_selects (args := #[]) (mvT hZ w5)) (mvT hZ w5) (mvT hZ w6) dec.1 (backOf (W := W) hM hZ w4 w3 dec.2.1 dec.2.2.1) qa qc (g := mkF m pc Ls (argsL.reverse ++ .ref a :: rest)) rfl (hs.trans hml.symm) (Steps.refl _) (argsL := argsL) (rest := rest) (lenOf pd hl) rfl (by show 2 * 0 + _ ≤ _; omega) (hb q.2 hd) (fun _ _ => ⟨ha, eT, dec.2.2.2.1, dec.2.2.2.2⟩)
 dsimp only [Pt.U, Pt.locs, Pt.cells, Pt.slots] at X' l1 l2 l3 st hQ
 rw [l1, l2, l3] at X'
 exact own_go (K v T' L X' hQ) fun t k => st.trans k
theorem own_cSh {own : String} {index : Nat} {y : MethodName} {bytes : ByteArray} {maxL : Nat} {ret : Option FieldType} {rm : Room} {as' : Array Value} {Q : Option Value → Heap → List Loc → Prop} {ps : List FieldType} {r : Option FieldType}
  (X : Stand p l e R s m args below meth c T locs cells slots) (q : own_q p c b) (hZ : Z.Warmed39 s.vm) (eT : T.heap = h) (hown : s.vm.findClass own = some m.cls) {ml : Nat} (hml : c.maxLocals = ml) (w1 : (Jvm.Cond.methodLink own index y).before a0 Z = true) (w2 : (Jvm.Cond.static y).before a0 Z = true) (w3 : (Jvm.Cond.initialized y.cls).before a0 Z = true) (w4 : (Jvm.Cond.code y bytes maxL ret).before a0 Z = true)
  (hM : own_M l Z [] y bytes maxL ret rm as' h Q) (d : own_D b pc (.invokestatic index) 3 pc') (argsL rest : List Value) (pd : parseMethodDescriptor y.desc = some ⟨ps, r⟩) (W : Nat)
  (dec : (y.cls ≠ "java/lang/invoke/MethodHandle" ∧ y.cls ≠ "java/lang/invoke/VarHandle") ∧ rm.frames + 1 ≤ R.frames ∧ W + (maxL + 11) + rm.locals ≤ R.locals ∧ cells + rm.cells ≤ R.cells ∧ slots + rm.slots ≤ R.slots)
  (K : ∀ (v : Option Value) (T' : State) (L : List Loc) (h' : Heap), T'.heap = h' → Stand p l e R s m args below meth c T' (locs ++ L) (cells + rm.cells) (slots + rm.slots) → Q v h' L → own_Fin p e below P (T'.setTop (mkF m pc' Ls (v.toList ++ rest)))) (hs : Ls.size = ml := by rfl) (hl : argsL.length = ps.length := by rfl) (ha : argsL.toArray = as' := by rfl) (hW : (rest.map fun v => v.category).sum ≤ W := by exact Nat.le_refl _) :
  own_Fin p e below P (T.setTop (mkF m pc Ls (argsL.reverse ++ rest))) :=
 own_cS X q hZ eT hown hml w1 w2 w3 w4 hM d argsL rest pd W dec (fun v T' L X' hQ => K v T' L _ rfl X' hQ) hs hl ha hW
theorem own_cIh {own : String} {index : Nat} {y : MethodName} {bytes : ByteArray} {maxL : Nat} {rm : Room} {as' : Array Value} {Q : Option Value → Heap → List Loc → Prop} {ps : List FieldType} {r : Option FieldType} {a : Addr}
  (X : Stand p l e R s m args below meth c T locs cells slots) (q : own_q p c b) (hZ : Z.Warmed39 s.vm) (eT : T.heap = h) (hown : s.vm.findClass own = some m.cls) {ml : Nat} (hml : c.maxLocals = ml) (w1 : (Jvm.Cond.methodLink own index y).before a0 Z = true) (w2 : (Jvm.Cond.instanceMethod y).before a0 Z = true) (w3 : (Jvm.Cond.initialized y.cls).before a0 Z = true) (w4 : (Jvm.Cond.code y bytes maxL none).before a0 Z = true)
  (hM : own_M l Z [] y bytes maxL none rm as' h Q) (d : own_D b pc (.invokespecial index) 3 pc') (argsL rest : List Value) (pd : parseMethodDescriptor y.desc = some ⟨ps, r⟩) (W : Nat) (hy1 : y.name = "<init>")
  (dec : (y.cls ≠ "java/lang/invoke/MethodHandle" ∧ y.cls ≠ "java/lang/invoke/VarHandle") ∧ rm.frames + 1 ≤ R.frames ∧ W + (maxL + 11) + rm.locals ≤ R.locals ∧ cells + rm.cells ≤ R.cells ∧ slots + rm.slots ≤ R.slots)
  (K : ∀ (v : Option Value) (T' : State) (L : List Loc) (h' : Heap), T'.heap = h' → Stand p l e R s m args below meth c T' (locs ++ L) (cells + rm.cells) (slots + rm.slots) → Q v h' L → own_Fin p e below P (T'.setTop (mkF m pc' Ls (v.toList ++ rest)))) (hs : Ls.size = ml := by rfl) (hl : argsL.length = ps.length := by rfl) (ha : (Value.ref a :: argsL).toArray = as' := by rfl) (hW : (rest.map fun v => v.category).sum ≤ W := by exact Nat.le_refl _) :
  own_Fin p e below P (T.setTop (mkF m pc Ls (argsL.reverse ++ .ref a :: rest))) :=
 own_cI X q hZ eT hown hml w1 w2 w3 w4 hM d argsL rest pd W hy1 dec (fun v T' L X' hQ => K v T' L _ rfl X' hQ) hs hl ha hW
theorem own_cVh {own C : String} {index : Nat} {y z : MethodName} {bytes : ByteArray} {maxL : Nat} {ret : Option FieldType} {rm : Room} {as' : Array Value} {Q : Option Value → Heap → List Loc → Prop} {ps : List FieldType} {r : Option FieldType} {a : Addr}
  (X : Stand p l e R s m args below meth c T locs cells slots) (q : own_q p c b) (hZ : Z.Warmed39 s.vm) (eT : T.heap = h) (hown : s.vm.findClass own = some m.cls) {ml : Nat} (hml : c.maxLocals = ml) (w1 : (Jvm.Cond.methodLink own index y).before a0 Z = true) (w2 : (Jvm.Cond.declares y).before a0 Z = true) (w5 : (Jvm.Cond.selects C y z).before a0 Z = true) (w6 : (Jvm.Cond.instanceMethod z).before a0 Z = true) (w3 : (Jvm.Cond.initialized z.cls).before a0 Z = true) (w4 : (Jvm.Cond.code z bytes maxL ret).before a0 Z = true) (hzy : z = y) (E : Exa Z h a C)
  (hM : own_M l Z [] z bytes maxL ret rm as' h Q) (d : own_D b pc (.invokevirtual index) 3 pc') (argsL rest : List Value) (pd : parseMethodDescriptor y.desc = some ⟨ps, r⟩) (W : Nat)
  (dec : (y.cls ≠ "java/lang/invoke/MethodHandle" ∧ y.cls ≠ "java/lang/invoke/VarHandle") ∧ rm.frames + 1 ≤ R.frames ∧ W + (maxL + 11) + rm.locals ≤ R.locals ∧ cells + rm.cells ≤ R.cells ∧ slots + rm.slots ≤ R.slots)
  (K : ∀ (v : Option Value) (T' : State) (L : List Loc) (h' : Heap), T'.heap = h' → Stand p l e R s m args below meth c T' (locs ++ L) (cells + rm.cells) (slots + rm.slots) → Q v h' L → own_Fin p e below P (T'.setTop (mkF m pc' Ls (v.toList ++ rest)))) (hs : Ls.size = ml := by rfl) (hl : argsL.length = ps.length := by rfl) (ha : (Value.ref a :: argsL).toArray = as' := by rfl) (hW : (rest.map fun v => v.category).sum ≤ W := by exact Nat.le_refl _) :
  own_Fin p e below P (T.setTop (mkF m pc Ls (argsL.reverse ++ .ref a :: rest))) :=
 own_cV X q hZ eT hown hml w1 w2 w5 w6 w3 w4 hzy E hM d argsL rest pd W dec (fun v T' L X' hQ => K v T' L _ rfl X' hQ) hs hl ha hW
theorem own_bld {a : Addr} {k : ClassId} {n : Int32} {vs : List Value} {dv v : Value} {j : Int32} (X : Stand p l e R s m args below meth c T locs cells slots) (q : own_q p c b) (hZ : Z.Warmed39 s.vm) (eT : T.heap = h) (V : Arv Z h a k .byte n vs dv) (d : own_D b pc .baload 1 pc') (hj : ¬ j < 0 ∧ j < n) (hv : vs.getD j.toNatClampNeg dv = v) (K : own_Fin p e below P (T.setTop (mkF m pc' Ls (v :: S)))) : own_Fin p e below P (T.setTop (mkF m pc Ls (.int j :: .ref a :: S))) := by
 obtain ⟨cl, Ar, _, S1, _, H, _⟩ := V
 obtain ⟨hd, rfl⟩ := d
 exact own_go K fun t k => X.baloadBytes q.1 (j := j) (v := v) (by rw [eT]; exact Ar.1) (State.isArrayOf_alike hZ.alike Ar.2.1) Ar.2.2 (inb_of S1 hj) (Has.at H (inb_of S1 hj) hv) (g := mkF m pc Ls (.int j :: .ref a :: S)) rfl rfl (hb q.2 hd) _ k
theorem own_bst {a : Addr} {k : ClassId} {n : Int32} {vs : List Value} {dv : Value} {j x : Int32} {n0 : Nat} (X : Stand p l e R s m args below meth c T locs cells slots) (q : own_q p c b) (hZ : Z.Warmed39 s.vm) (eT : T.heap = h) (V : Arv Z h a k .byte n vs dv) (d : own_D b pc .bastore 1 pc') (hj : ¬ j < 0 ∧ j < n) (hi : j.toNatClampNeg < vs.length) (N : Fr n0 locs) (ga : n0 ≤ a)
  (K : ∀ (T' : State) (h' : Heap), Stand p l e R s m args below meth c T' (locs ++ [⟨a, j.toNatClampNeg⟩]) cells slots → T'.heap = h' → Wr h h' a j.toNatClampNeg (.int (nar .byte x)) → Arv Z h' a k .byte n (vs.set j.toNatClampNeg (.int (nar .byte x))) dv → Fr n0 (locs ++ [⟨a, j.toNatClampNeg⟩]) → own_Fin p e below P (T'.setTop (mkF m pc' Ls S))) : own_Fin p e below P (T.setTop (mkF m pc Ls (.int x :: .int j :: .ref a :: S))) := by
 obtain ⟨cl, Ar, q1, S1, M1, H1, G1⟩ := V
 obtain ⟨hd, rfl⟩ := d
 obtain ⟨T', h', X', e', W', st⟩ := stB X q.1 hZ eT Ar (j := j) (x := x) (inb_of S1 hj) (g := mkF m pc Ls (.int x :: .int j :: .ref a :: S)) rfl rfl (hb q.2 hd)
 exact own_go (K T' h' X' e' W' (Arv.set Ar q1 S1 M1 H1 G1 (fits_nar_byte _) W' _ rfl hi) (Fr.snoc X' N ga)) st
theorem own_cld {a : Addr} {k : ClassId} {n : Int32} {vs : List Value} {dv v : Value} {j : Int32} (X : Stand p l e R s m args below meth c T locs cells slots) (q : own_q p c b) (hZ : Z.Warmed39 s.vm) (eT : T.heap = h) (V : Arv Z h a k .char n vs dv) (d : own_D b pc .caload 1 pc') (hj : ¬ j < 0 ∧ j < n) (hv : vs.getD j.toNatClampNeg dv = v) (K : own_Fin p e below P (T.setTop (mkF m pc' Ls (v :: S)))) : own_Fin p e below P (T.setTop (mkF m pc Ls (.int j :: .ref a :: S))) := by
 obtain ⟨cl, Ar, _, S1, _, H, _⟩ := V
 obtain ⟨hd, rfl⟩ := d
 exact own_go K fun t k => X.caload q.1 (j := j) (v := v) (by rw [eT]; exact Ar.1) (State.isArrayOf_alike hZ.alike Ar.2.1) Ar.2.2 (inb_of S1 hj) (Has.at H (inb_of S1 hj) hv) (g := mkF m pc Ls (.int j :: .ref a :: S)) rfl rfl (hb q.2 hd) _ k
theorem own_cst {a : Addr} {k : ClassId} {n : Int32} {vs : List Value} {dv : Value} {j x : Int32} {n0 : Nat} (X : Stand p l e R s m args below meth c T locs cells slots) (q : own_q p c b) (hZ : Z.Warmed39 s.vm) (eT : T.heap = h) (V : Arv Z h a k .char n vs dv) (d : own_D b pc .castore 1 pc') (hj : ¬ j < 0 ∧ j < n) (hi : j.toNatClampNeg < vs.length) (N : Fr n0 locs) (ga : n0 ≤ a)
  (K : ∀ (T' : State) (h' : Heap), Stand p l e R s m args below meth c T' (locs ++ [⟨a, j.toNatClampNeg⟩]) cells slots → T'.heap = h' → Wr h h' a j.toNatClampNeg (.int (nar .char x)) → Arv Z h' a k .char n (vs.set j.toNatClampNeg (.int (nar .char x))) dv → Fr n0 (locs ++ [⟨a, j.toNatClampNeg⟩]) → own_Fin p e below P (T'.setTop (mkF m pc' Ls S))) : own_Fin p e below P (T.setTop (mkF m pc Ls (.int x :: .int j :: .ref a :: S))) := by
 obtain ⟨cl, Ar, q1, S1, M1, H1, G1⟩ := V
 obtain ⟨hd, rfl⟩ := d
 obtain ⟨T', h', X', e', W', st⟩ := stC X q.1 hZ eT Ar (j := j) (x := x) (inb_of S1 hj) (g := mkF m pc Ls (.int x :: .int j :: .ref a :: S)) rfl rfl (hb q.2 hd)
 exact own_go (K T' h' X' e' W' (Arv.set Ar q1 S1 M1 H1 G1 (fits_nar_char _) W' _ rfl hi) (Fr.snoc X' N ga)) st
theorem own_i0 {a : Addr} {L : List Addr} {Q : Prop} : a ∈ a :: L ∨ Q := Or.inl (List.mem_cons_self ..)
theorem own_ne {a a' n : Nat} (h1 : a < n) (h2 : n ≤ a') : a ≠ a' := Nat.ne_of_lt (Nat.lt_of_lt_of_le h1 h2)
theorem own_alen {a : Addr} {k : ClassId} {ty : FieldType} {n : Int32} {vs : List Value} {dv : Value} (X : Stand p l e R s m args below meth c T locs cells slots) (q : own_q p c b) (hZ : Z.Warmed39 s.vm) (eT : T.heap = h) (V : Arv Z h a k ty n vs dv) (d : own_D b pc .arraylength 1 pc') (K : own_Fin p e below P (T.setTop (mkF m pc' Ls (.int n :: S)))) : own_Fin p e below P (T.setTop (mkF m pc Ls (.ref a :: S))) := by
 obtain ⟨cl, Ar, -, S1, M1, -, -⟩ := V
 obtain ⟨hd, rfl⟩ := d
 exact own_go K fun t k => X.arraylength q.1 (by rw [eT]; exact Ar.1) (State.isArrayOf_alike hZ.alike Ar.2.1) (g := mkF m pc Ls (.ref a :: S)) rfl rfl (hb q.2 hd) _ (by rw [len_of S1 M1]; exact k)
theorem own_gF {own O n d : String} {index : Nat} {a : Addr} {v : Value} (X : Stand p l e R s m args below meth c T locs cells slots) (q : own_q p c b) (hZ : Z.Warmed39 s.vm) (eT : T.heap = h) (hown : s.vm.findClass own = some m.cls) (w : (Jvm.Cond.fieldLink own index O n d).before a0 Z = true) (F : Fld Z h a O n d v) (dd : own_D b pc (.getfield index) 3 pc') (K : ∀ T' : State, Stand p l e R s m args below meth c T' locs cells slots → T'.heap = h → own_Fin p e below P (T'.setTop (mkF m pc' Ls (v :: S)))) : own_Fin p e below P (T.setTop (mkF m pc Ls (.ref a :: S))) := by
 obtain ⟨hd, rfl⟩ := dd
 obtain ⟨T', X', e', st⟩ := getF X q.1 hZ hown (host := "") (Or.inl w) Via.refl eT F (g := mkF m pc Ls (.ref a :: S)) rfl rfl (hb q.2 hd)
 exact own_go (K T' X' e') st
theorem own_gS {own O n d : String} {index : Nat} {v : Value} (X : Stand p l e R s m args below meth c T locs cells slots) (q : own_q p c b) (hZ : Z.Warmed39 s.vm) (eT : T.heap = h) (hown : s.vm.findClass own = some m.cls) (w : (Jvm.Cond.fieldLink own index O n d).before a0 Z = true) (F : Sta Z h O n d v) (dd : own_D b pc (.getstatic index) 3 pc') (K : ∀ T' : State, Stand p l e R s m args below meth c T' locs cells slots → T'.heap = h → own_Fin p e below P (T'.setTop (mkF m pc' Ls (v :: S)))) : own_Fin p e below P (T.setTop (mkF m pc Ls S)) := by
 obtain ⟨hd, rfl⟩ := dd
 obtain ⟨T', X', e', st⟩ := getS2 X q.1 hZ hown (host := "") (Or.inl w) Via.refl eT F (g := mkF m pc Ls S) rfl (hb q.2 hd)
 exact own_go (K T' X' e') st
end OwnD
section OwnH
variable {p : Program} {l : Launch} {e : Env} {R : Room} {s : State} {m : MethodId} {args : Array Value} {below : List Frame} {meth : Method} {c : Code} {T : State} {locs : List Loc} {cells slots : Nat} {Z : State} {a0 : Array Value} {EL : List (String × Nat)} {h : Heap} {vm0 : Vm}
def own_PH (Z : State) (EL : List (String × Nat)) (Q : Option Value → Heap → List Loc → Prop) (s : State) (C S : Nat) : Outcome → State → Prop := fun o t => ∃ v L, o = .returned v ∧ Q v t.heap L ∧ CHr Z EL s.vm s.heap t.vm t.heap ∧ ReturnedEndW s o t L C S
theorem own_retNH (X : Stand p l e R (s.setVm vm0) m args below meth c T locs cells slots) {k0 : Nat} (hS : s.Since vm0 k0) (hk : k0 ≤ T.heap.size) (hR : CHr Z EL s.vm s.heap T.vm T.heap) (hx : p.tables.exec = Jvm.exec) {pc : Nat} {Ls : Array Slot} {z : Int32} {t : FieldType} {rest : List Value} (hret : meth.sig.returnType = some t) (ht : t = .boolean ∨ t = .byte ∨ t = .char ∨ t = .short)
  (hd : decode c.code pc = .ok (.ireturn, 1)) (hlk : meth.locks = false) {Q : Option Value → Heap → List Loc → Prop} {C S : Nat} (hQ : Q (some (.int (nar t z))) T.heap locs) (hC : cells ≤ C) (hS' : slots ≤ S) : own_Fin p e below (own_PH Z EL Q s C S) (T.setTop (mkF m pc Ls (.int z :: rest))) := by
 obtain ⟨fs, hr, hrun, hended, hW⟩ := X.leaveW hS hk (v := some (.int (nar t z))) (fun h => by rw [hret] at h; cases h) hlk
 exact ⟨_, _, retN X hx hret ht hd hr, hrun, hended, _, _, rfl, hQ, hR, own_wmono hW hC hS'⟩
theorem own_retOH (X : Stand p l e R (s.setVm vm0) m args below meth c T locs cells slots) {k0 : Nat} (hS : s.Since vm0 k0) (hk : k0 ≤ T.heap.size) (hR : CHr Z EL s.vm s.heap T.vm T.heap) (hx : p.tables.exec = Jvm.exec) {pc : Nat} {Ls : Array Slot} {w : Value} {t : FieldType} {i : Instr} {rest : List Value} (hret : meth.sig.returnType = some t) (hn : narrow t w = w)
  (hi : (i = .ireturn ∧ (t = .int ∨ t = .boolean ∨ t = .byte ∨ t = .char ∨ t = .short) ∧ ∃ z, w = .int z) ∨ (i = .lreturn ∧ t = .long ∧ ∃ z, w = .long z) ∨ (i = .dreturn ∧ t = .double ∧ ∃ z, w = .double z) ∨ (i = .freturn ∧ t = .float ∧ ∃ z, w = .float z) ∨ (i = .areturn ∧ t.isReference = true ∧ w.isRef = true))
  (hd : decode c.code pc = .ok (i, 1)) (hlk : meth.locks = false) {Q : Option Value → Heap → List Loc → Prop} {C S : Nat} (hQ : Q (some w) T.heap locs) (hC : cells ≤ C) (hS' : slots ≤ S) : own_Fin p e below (own_PH Z EL Q s C S) (T.setTop (mkF m pc Ls (w :: rest))) := by
 obtain ⟨fs, hr, hrun, hended, hW⟩ := X.leaveW hS hk (v := some w) (fun h => by rw [hret] at h; cases h) hlk
 exact ⟨_, _, retOut X hx hret hn hi hd hr, hrun, hended, _, _, rfl, hQ, hR, own_wmono hW hC hS'⟩
theorem own_retVH (X : Stand p l e R (s.setVm vm0) m args below meth c T locs cells slots) {k0 : Nat} (hS : s.Since vm0 k0) (hk : k0 ≤ T.heap.size) (hR : CHr Z EL s.vm s.heap T.vm T.heap) (hx : p.tables.exec = Jvm.exec) {pc : Nat} {Ls : Array Slot} (hret : meth.sig.returnType = none)
  (hd : decode c.code pc = .ok (.return_, 1)) (hlk : meth.locks = false) {Q : Option Value → Heap → List Loc → Prop} {C S : Nat} (hQ : Q none T.heap locs) (hC : cells ≤ C) (hS' : slots ≤ S) : own_Fin p e below (own_PH Z EL Q s C S) (T.setTop (mkF m pc Ls [])) := by
 obtain ⟨fs, hr, hrun, hended, hW⟩ := X.leaveW hS hk (v := none) (fun _ => rfl) hlk
 exact ⟨_, _, X.returnOut hx hret hd hr, hrun, hended, _, _, rfl, hQ, hR, own_wmono hW hC hS'⟩
theorem own_backHS {y : MethodName} {bytes : ByteArray} {maxL : Nat} {ret : Option FieldType} {rm : Room} {len W : Nat} {as' : Array Value} {Q : Option Value → Heap → List Loc → Prop} {ss : List Addr}
  (hM : MetFree l y (head1 [Jvm.Cond.code y bytes maxL ret] rm) (fun a U => a = as' ∧ Z.Warmed39 U.vm ∧ U.heap = h ∧ CHv Z EL U.vm h ∧ ∀ x ∈ ss, Safe Z EL U.vm h x) (fun _ _ _ _ _ => True) (fun _ U o U' => ∃ v L, o = .returned v ∧ Q v U'.heap L ∧ CHr Z EL U.vm U.heap U'.vm U'.heap ∧ ReturnedEndW U o U' L rm.cells rm.slots))
  (hZ : Z.Warmed39 vm0) (wc : (Jvm.Cond.code y bytes maxL ret).before a0 Z = true) (wz : (Jvm.Cond.initialized y.cls).before a0 Z = true) (hf : rm.frames + 1 ≤ R.frames) (hl : W + (maxL + 11) + rm.locals ≤ R.locals) (hEL : EW Z a0 EL) (H : CHv Z EL vm0 h) (hss : ∀ x ∈ ss, x < h.size ∧ Safe Z EL vm0 h x) :
  BackS l R p e below (s.setVm vm0) args y len W (fun A a => a = as' ∧ A.U.heap = h ∧ A.cells + rm.cells ≤ R.cells ∧ A.slots + rm.slots ≤ R.slots)
   (fun A _ v B => ∃ L, Q v B.U.heap L ∧ B.locs = A.locs ++ L ∧ B.cells = A.cells + rm.cells ∧ B.slots = A.slots + rm.slots ∧ CHr Z EL vm0 h B.U.vm B.U.heap) := by
 refine BackS.of_freeW (bytes := bytes) (maxL := maxL) (ret := ret) (E := fun _ first o t L k n => k = rm.cells ∧ n = rm.slots ∧ (∃ v, o = .returned v ∧ Q v t.heap L) ∧ CHr Z EL first.vm first.heap t.vm t.heap) hM hf hl ?_ ?_ (fun _ _ _ _ _ _ _ _ _ => trivial) ?_ ?_
 ·intro m meth c A a Y hp
  have hU : Z.Warmed39 A.U.vm := wtrans (s := s.setVm vm0) hZ Y.warmed
  refine ⟨?_, mv hU wc, mv hU wz, hp.2.2.1, hp.2.2.2⟩
  show (Jvm.Cond.and _ .tt).before a A.U = true
  rw [Cond.before_and, mv hU wc]; rfl
 ·intro m meth c A a g mk Y hp
  have r := CHv.at Y hZ hEL H
  exact ⟨hp.1, wtrans (s := s.setVm vm0) hZ Y.warmed, hp.2.1, r.1, fun x hx => r.safe (hss x hx).1 (hss x hx).2⟩
 ·intro _ _ _ _ hq
  obtain ⟨v, L, h1, h2, h3, h4⟩ := hq
  exact ⟨L, _, _, h4, rfl, rfl, ⟨v, h1, h2⟩, h3⟩
 ·intro m meth c A a g mk v t L k n Y hp _ _ hq
  obtain ⟨e1, e2, ⟨v', e3, e4⟩, e5⟩ := hq
  cases e3; subst e1 e2
  refine ⟨L, e4, rfl, rfl, rfl, (CHv.at Y hZ hEL H).trans ?_⟩
  rw [← hp.2.1]; exact e5
end OwnH
theorem own_extK {h0 h : Heap} (K : Keep h0 h []) : Ext h0 h := ⟨K.1, fun a c q => K.2.1 a c q nin0⟩
theorem own_c255 (x : Int32) : ¬ (255 : Int32) < ((x &&& (255 : Int32)).toUInt32.toUInt16.toUInt32.toInt32) := by
 rw [i2c_mask]
 have := c_and x 255 (by decide)
 rw [Int32.lt_iff_toInt_lt]
 have e : (255 : Int32).toInt = 255 := rfl
 omega
theorem own_narR {v : Value} {C : String} (h : v.isRef = true) : narrow (.object C) v = v := by rcases ref_cases h with rfl | ⟨a, rfl⟩ <;> rfl
theorem own_fitR {v : Value} {C : String} (h : v.isRef = true) : fits (.object C) v = true := by rcases ref_cases h with rfl | ⟨a, rfl⟩ <;> rfl
theorem own_catR {v : Value} (h : v.isRef = true) : v.category = 1 := by rcases ref_cases h with rfl | ⟨a, rfl⟩ <;> rfl
theorem own_toInt {i : Nat} (h : i ≤ 1000) : (Int32.ofNat i).toInt = i := Int32.toInt_ofNat_of_lt (by omega)
theorem own_ltN {i j : Nat} (hi : i ≤ 1000) (hj : j ≤ 1000) : Int32.ofNat i < Int32.ofNat j ↔ i < j := by
 rw [Int32.lt_iff_toInt_lt, own_toInt hi, own_toInt hj]; omega
theorem own_clamp {i : Nat} (h : i ≤ 1000) : (Int32.ofNat i).toNatClampNeg = i := by
 simp only [Int32.toNatClampNeg, own_toInt h]; rfl
theorem own_inN {i n : Nat} (h : i < n) (hn : n ≤ 1000) : ¬ Int32.ofNat i < 0 ∧ Int32.ofNat i < Int32.ofNat n := by
 have e1 : (0 : Int32) = Int32.ofNat 0 := rfl
 rw [e1, own_ltN (by omega) (by omega), own_ltN (by omega) (by omega)]
 omega
theorem own_dbl {p2 : Int32} {i n : Nat} (hp : p2 = Int32.ofNat i) (hn : n ≤ 1000) (hi : 2 * i + 1 < n) : p2 <<< ((1 : Int32) &&& 31) = Int32.ofNat (2 * i) := by
 have q := c_ishl p2 1 1 (by decide)
 have e : ((2 ^ 1 : Nat) : Int) = 2 := rfl
 have r := own_toInt (i := i) (by omega)
 rw [e, hp, r] at q
 rw [← Int32.toInt_inj, own_toInt (by omega), hp]
 have g := rng32 (Int32.ofNat i <<< ((1 : Int32) &&& 31))
 omega
theorem own_pi0 {p2 : Int32} {i n : Nat} (hp : p2 = Int32.ofNat i) (hn : n ≤ 1000) (hi : 2 * i + 1 < n) : ¬ p2 <<< ((1 : Int32) &&& 31) < 0 ∧ p2 <<< ((1 : Int32) &&& 31) < Int32.ofNat n := by
 rw [own_dbl hp hn hi]; exact own_inN (by omega) hn
theorem own_pj0 {p2 : Int32} {i n : Nat} (hp : p2 = Int32.ofNat i) (hn : n ≤ 1000) (hi : 2 * i + 1 < n) : (p2 <<< ((1 : Int32) &&& 31)).toNatClampNeg = 2 * i := by
 rw [own_dbl hp hn hi]; exact own_clamp (by omega)
theorem own_dbl1 {p2 : Int32} {i n : Nat} (hp : p2 = Int32.ofNat i) (hn : n ≤ 1000) (hi : 2 * i + 1 < n) : p2 <<< ((1 : Int32) &&& 31) + (1 : Int32) = Int32.ofNat (2 * i + 1) := by
 rw [own_dbl hp hn hi, Int32.ofNat_add]; rfl
theorem own_pi1 {p2 : Int32} {i n : Nat} (hp : p2 = Int32.ofNat i) (hn : n ≤ 1000) (hi : 2 * i + 1 < n) : ¬ p2 <<< ((1 : Int32) &&& 31) + (1 : Int32) < 0 ∧ p2 <<< ((1 : Int32) &&& 31) + (1 : Int32) < Int32.ofNat n := by
 rw [own_dbl1 hp hn hi]; exact own_inN (by omega) hn
theorem own_pj1 {p2 : Int32} {i n : Nat} (hp : p2 = Int32.ofNat i) (hn : n ≤ 1000) (hi : 2 * i + 1 < n) : (p2 <<< ((1 : Int32) &&& 31) + (1 : Int32)).toNatClampNeg = 2 * i + 1 := by
 rw [own_dbl1 hp hn hi]; exact own_clamp (by omega)
def own_c16 (x : Int32) : Prop := 0 ≤ x.toInt ∧ x.toInt ≤ 65535
theorem own_nc16 (x : Int32) : own_c16 (nar .char x) := by
 have b := c_i2c x
 have q : nar .char x = x.toUInt32.toUInt16.toUInt32.toInt32 := rfl
 unfold own_c16; rw [q]; omega
theorem own_nc {x : Int32} (h : own_c16 x) : nar .char x = x := by
 have b := c_i2c x
 have q : nar .char x = x.toUInt32.toUInt16.toUInt32.toInt32 := rfl
 unfold own_c16 at h
 rw [q, ← Int32.toInt_inj]; omega
/-- what toBytes and getChar make of a sign -/
def own_gc (x : Int32) : Int32 := nar .char ((((nar .byte ((x >>> ((0 : Int32) &&& 31)).toInt8.toInt32)) &&& (255 : Int32)) <<< ((0 : Int32) &&& 31)) ||| (((nar .byte ((x >>> ((8 : Int32) &&& 31)).toInt8.toInt32)) &&& (255 : Int32)) <<< ((8 : Int32) &&& 31))).toUInt32.toUInt16.toUInt32.toInt32
theorem own_mask8 (y : Int32) : (nar .byte (y.toInt8.toInt32) &&& (255 : Int32)).toInt = y.toInt % 256 := by
 have a := c_mask (nar .byte (y.toInt8.toInt32)) 255 8 (by decide) (by decide)
 have b := c_i2b y
 have b2 := c_i2b (y.toInt8.toInt32)
 have q : nar .byte (y.toInt8.toInt32) = (y.toInt8.toInt32).toInt8.toInt32 := rfl
 have e : ((2 ^ 8 : Nat) : Int) = 256 := rfl
 rw [e] at a
 rw [a, q]; omega
theorem own_gcE {x : Int32} (h : own_c16 x) : own_gc x = x := by
 unfold own_c16 at h
 have s0 := c_ishr x 0 0 (by decide)
 have s8 := c_ishr x 8 8 (by decide)
 have e0 : ((2 ^ 0 : Nat) : Int) = 1 := rfl
 have e8 : ((2 ^ 8 : Nat) : Int) = 256 := rfl
 rw [e0] at s0
 rw [e8] at s8
 have m0 := own_mask8 (x >>> ((0 : Int32) &&& 31))
 have m8 := own_mask8 (x >>> ((8 : Int32) &&& 31))
 have t0 := c_ishl (nar .byte ((x >>> ((0 : Int32) &&& 31)).toInt8.toInt32) &&& (255 : Int32)) 0 0 (by decide)
 have t8 := c_ishl (nar .byte ((x >>> ((8 : Int32) &&& 31)).toInt8.toInt32) &&& (255 : Int32)) 8 8 (by decide)
 rw [e0] at t0
 rw [e8] at t8
 unfold own_gc
 generalize ((nar .byte ((x >>> ((0 : Int32) &&& 31)).toInt8.toInt32)) &&& (255 : Int32)) <<< ((0 : Int32) &&& 31) = A at *
 generalize ((nar .byte ((x >>> ((8 : Int32) &&& 31)).toInt8.toInt32)) &&& (255 : Int32)) <<< ((8 : Int32) &&& 31) = B at *
 have rA := rng32 A
 have rB := rng32 B
 have o := c_or' A B 8 (by decide) 256 rfl (by omega) (by omega) (by omega)
 have rO := rng32 (A ||| B)
 have i := c_i2c (A ||| B)
 have i2 := own_nc (x := (A ||| B).toUInt32.toUInt16.toUInt32.toInt32) (by unfold own_c16; omega)
 rw [i2, ← Int32.toInt_inj]
 omega
theorem own_eqN {i j : Nat} (hi : i ≤ 1000) (hj : j ≤ 1000) : Int32.ofNat i = Int32.ofNat j ↔ i = j := by
 rw [← Int32.toInt_inj, own_toInt hi, own_toInt hj]; omega
theorem own_addN (a b : Nat) : Int32.ofNat a + Int32.ofNat b = Int32.ofNat (a + b) := (Int32.ofNat_add a b).symm
theorem own_subN {a b : Nat} (h : b ≤ a) : Int32.ofNat a - Int32.ofNat b = Int32.ofNat (a - b) := by
 have q := own_addN (a - b) b
 rw [Nat.sub_add_cancel h] at q
 rw [← q, Int32.add_sub_cancel]
theorem own_modN {a b : Nat} (ha : a ≤ 1000) (hb : b ≤ 1000) : Int32.ofNat a % Int32.ofNat b = Int32.ofNat (a % b) := by
 rw [← Int32.toInt_inj, Int32.toInt_mod, own_toInt ha, own_toInt hb, own_toInt (by have := Nat.mod_le a b; omega)]
 rfl
theorem own_bmod (m : Int) (n : Nat) : Int.bmod m n = (if m % n < (n + 1) / 2 then m % n else m % n - n) := rfl
theorem own_negI {d : Nat} (h : d ≤ 1000) : (-Int32.ofNat d).toInt = -(d : Int) := by
 rw [Int32.toInt_neg, own_toInt h]
 have e : ((2 ^ 32 : Nat) : Int) = 4294967296 := rfl
 rw [own_bmod, e]
 split <;> omega
def own_abs (x : Int32) : Int32 := if x < 0 then -x else x
theorem own_negN {a b : Nat} (h : a ≤ b) : Int32.ofNat a - Int32.ofNat b = -Int32.ofNat (b - a) := by
 have q := own_addN (b - a) a
 rw [Nat.sub_add_cancel h] at q
 rw [← q, ← Int32.neg_sub, Int32.add_sub_cancel]
theorem own_absN {r c : Nat} (hr : r ≤ 1000) (hc : c ≤ 1000) : own_abs (Int32.ofNat r - Int32.ofNat c) = Int32.ofNat ((r - c) + (c - r)) := by
 have e1 : (0 : Int32) = Int32.ofNat 0 := rfl
 unfold own_abs
 rcases Nat.lt_or_ge r c with q | q
 ·rw [own_negN (Nat.le_of_lt q), Int32.neg_neg]
  have t : -Int32.ofNat (c - r) < 0 := by
   rw [Int32.lt_iff_toInt_lt, own_negI (by omega)]
   show -((c - r : Nat) : Int) < 0; omega
  rw [if_pos t]
  congr 1; omega
 ·rw [own_subN q, e1, if_neg]
  ·congr 1; omega
  ·rw [own_ltN (by omega) (by omega)]; omega
/-- Math.max (0, i - M), Math.max (1, i - M) -/
def own_max (x y : Int32) : Int32 := if x < y then y else x
theorem own_maxN {i M k : Nat} (hi : i ≤ 1000) (hM : M ≤ 1000) (hk : k ≤ 1000) : own_max (Int32.ofNat k) (Int32.ofNat i - Int32.ofNat M) = Int32.ofNat (max k (i - M)) := by
 unfold own_max
 rcases Nat.lt_or_ge i M with q | q
 ·rw [own_negN (Nat.le_of_lt q), if_neg]
  ·congr 1; omega
  ·intro t
   rw [Int32.lt_iff_toInt_lt, own_negI (by omega), own_toInt hk] at t
   omega
 ·rw [own_subN q]
  by_cases t : k < i - M
  ·rw [if_pos ((own_ltN hk (by omega)).mpr t)]; congr 1; omega
  ·rw [if_neg (fun r => t ((own_ltN hk (by omega)).mp r))]; congr 1; omega
def own_min (x y : Int32) : Int32 := if y < x then y else x
theorem own_minN {p q : Nat} (hp : p ≤ 1000) (hq : q ≤ 1000) : own_min (Int32.ofNat p) (Int32.ofNat q) = Int32.ofNat (min p q) := by
 unfold own_min
 by_cases t : q < p
 ·rw [if_pos ((own_ltN hq hp).mpr t)]; congr 1; omega
 ·rw [if_neg (fun r => t ((own_ltN hq hp).mp r))]; congr 1; omega
def own_get (M : Nat) (f : Nat → Nat → Nat) (r c : Nat) : Nat := if r = 0 then M + 1 else if c = 0 then M + 1 else if M < (r - c) + (c - r) then M + 1 else f (r % (M + 2)) c
def own_set (M : Nat) (f : Nat → Nat → Nat) (r c v : Nat) : Nat → Nat → Nat := fun r' c' => if r' = r % (M + 2) then (if c' = c then v else f r' c') else f r' c'
def own_lpn (E : Nat → Bool) (lo : Nat) : Nat → Nat
 | 0 => 0
 | p + 1 => if p + 1 < lo then 0 else if E p then p + 1 else own_lpn E lo p
def own_cel (M : Nat) (f : Nat → Nat → Nat) (E : Nat → Nat → Bool) (i j lm : Nat) : Nat :=
 if i = 0 then i + j else if j = 0 then i + j else
  min (min (min (own_get M f i j + (if E (i - 1) (j - 1) then 0 else 1)) (own_get M f (i + 1) j + 1)) (own_get M f i (j + 1) + 1))
   (own_get M f (own_lpn (fun p => E p (j - 1)) (max 1 (i - M)) (i - 1)) lm + (i - own_lpn (fun p => E p (j - 1)) (max 1 (i - M)) (i - 1) - 1) + 1 + (j - lm - 1))
def own_lm (E : Nat → Nat → Bool) (i j lm : Nat) : Nat := if i = 0 then lm else if j = 0 then lm else if E (i - 1) (j - 1) then j else lm
def own_inn (M : Nat) (E : Nat → Nat → Bool) (i : Nat) : Nat → Nat → Nat → (Nat → Nat → Nat) → (Nat → Nat → Nat)
 | 0, _, _, f => f
 | k + 1, j, lm, f => own_inn M E i k (j + 1) (own_lm E i j lm) (own_set M f (i + 1) (j + 1) (min (own_cel M f E i j lm) (M + 1)))
def own_out (M m : Nat) (E : Nat → Nat → Bool) : Nat → Nat → (Nat → Nat → Nat) → (Nat → Nat → Nat)
 | 0, _, f => f
 | k + 1, i, f => own_out M m E k (i + 1) (own_inn M E i (min m (i + M) + 1 - (i - M)) (i - M) 0 f)
def own_win (n m M : Nat) (E : Nat → Nat → Bool) : Nat := if M < (n - m) + (m - n) then M + 1 else own_get M (own_out M m E (n + 1) 0 (fun _ _ => 0)) (n + 1) (m + 1)
def own_d22 (a b c d : Bool) : Nat := if a && d then 0 else if a || d then 1 else if b && c then 1 else 2
-- d22 a0 a1 b0 b1: E00, E01, E10, E11
def own_ord (n m : Nat) (E : Nat → Nat → Bool) : Nat :=
 if n = 0 then m else if n = 1 then
  (if m = 1 then (if E 0 0 then 0 else 1) else if m = 2 then 1 + min (if E 0 0 then 0 else 1) (if E 0 1 then 0 else 1) else if E 0 0 || E 0 1 || E 0 2 then 2 else 3)
 else if n = 2 then
  (if m = 2 then own_d22 (E 0 0) (E 0 1) (E 1 0) (E 1 1) else 1 + min (own_d22 (E 0 1) (E 0 2) (E 1 1) (E 1 2)) (min (own_d22 (E 0 0) (E 0 2) (E 1 0) (E 1 2)) (own_d22 (E 0 0) (E 0 1) (E 1 0) (E 1 1))))
 else 0
def own_refN (n m : Nat) (E : Nat → Nat → Bool) : Nat := if m < n then own_ord m n (fun p q => E q p) else own_ord n m E
def own_mat (e00 e01 e02 e10 e11 e12 e20 e21 : Bool) : Nat → Nat → Bool
 | 0, 0 => e00 | 0, 1 => e01 | 0, 2 => e02 | 1, 0 => e10 | 1, 1 => e11 | 1, 2 => e12 | 2, 0 => e20 | 2, 1 => e21 | _, _ => false
def own_ch (X : List Int32) (i : Nat) : Int32 := X.getD i 0
def own_two : List Int32 → List Value
 | [] => []
 | x :: X => (.int (nar .byte ((x >>> ((0 : Int32) &&& 31)).toInt8.toInt32))) :: (.int (nar .byte ((x >>> ((8 : Int32) &&& 31)).toInt8.toInt32))) :: own_two X
def own_str (Z : State) (h : Heap) (a : Addr) (X : List Int32) : Prop := ∃ (t : Addr) (k : ClassId), Exa Z h a "java/lang/String" ∧ F'1 Z h a (.ref t) ∧
 ((F'0 Z h a v'0 ∧ (∀ x ∈ X, ¬ (255 : Int32) < x) ∧ Arv Z h t k .byte (Int32.ofNat X.length) (X.map fun x => .int (nar .byte (x.toInt8.toInt32))) v'0) ∨
 (F'0 Z h a v'1 ∧ Arv Z h t k .byte (Int32.ofNat (2 * X.length)) (own_two X) v'0)) ∧ ∀ x ∈ X, own_c16 x
theorem own_str.ext {Z : State} {h h' : Heap} {a : Addr} {X : List Int32} (S : own_str Z h a X) (E : Ext h h') : own_str Z h' a X := by
 obtain ⟨t, k, e, f, d, c⟩ := S
 exact ⟨t, k, e.ext E, f.ext E, d.imp (fun r => ⟨r.1.ext E, r.2.1, r.2.2.ext E⟩) (fun r => ⟨r.1.ext E, r.2.ext E⟩), c⟩
theorem own_str.kp {Z : State} {h h' : Heap} {a : Addr} {X : List Int32} (S : own_str Z h a X) (K : Keep h h' []) : own_str Z h' a X := S.ext (own_extK K)
theorem own_fm1 {P : Int32 → Prop} {a : Int32} (h : P a) : ∀ x ∈ [a], P x := fun x q => by cases List.mem_singleton.mp q; exact h
theorem own_fm2 {P : Int32 → Prop} {a b : Int32} (h : P a ∧ P b) : ∀ x ∈ [a, b], P x := List.forall_mem_cons.mpr ⟨h.1, own_fm1 h.2⟩
theorem own_fm3 {P : Int32 → Prop} {a b c : Int32} (h : P a ∧ P b ∧ P c) : ∀ x ∈ [a, b, c], P x := List.forall_mem_cons.mpr ⟨h.1, own_fm2 h.2⟩
theorem own_lcE {x : Int32} (h : ¬ (255 : Int32) < x) (q : own_c16 x) : nar .char ((nar .byte (x.toInt8.toInt32) &&& (255 : Int32)).toUInt32.toUInt16.toUInt32.toInt32) = x := by
 have m := own_mask8 x
 unfold own_c16 at q
 rw [Int32.lt_iff_toInt_lt] at h
 have e : (255 : Int32).toInt = 255 := rfl
 have w : nar .byte (x.toInt8.toInt32) &&& (255 : Int32) = x := by rw [← Int32.toInt_inj, m]; omega
 rw [w]
 have n := own_nc (x := x) q
 have n' : x.toUInt32.toUInt16.toUInt32.toInt32 = x := n
 rw [n', n]
theorem own_aneq {a r k : Nat} (h : a < r) : r + 1 + k ≠ a := by omega
theorem own_aneq' {a r k : Nat} (h : a < r) : a ≠ r + 1 + k := by omega
theorem own_arow {r j k : Nat} (h : j ≠ k) : r + 1 + j ≠ r + 1 + k := by omega
theorem own_arr0 {r k : Nat} : r ≠ r + 1 + k := by omega
theorem own_age {n r k : Nat} (h : n ≤ r) : n ≤ r + 1 + k := by omega
def own_rows (Z : State) (h : Heap) (r : Addr) (M W : Nat) (f : Nat → Nat → Nat) : Prop := ∀ j, j < M + 2 → ∃ k, Arv Z h (r + 1 + j) k .int (Int32.ofNat W) ((List.range W).map fun c => .int (Int32.ofNat (f j c))) v'0
def own_tab (Z : State) (h : Heap) (t r : Addr) (M W : Nat) (f : Nat → Nat → Nat) : Prop := Exa Z h t "com/example/conformance_check/conformancecheck/catalogue/EditDistance$Table" ∧ Fld Z h t "com/example/conformance_check/conformancecheck/catalogue/EditDistance$Table" "max" "I" (.int (Int32.ofNat M)) ∧ Fld Z h t "com/example/conformance_check/conformancecheck/catalogue/EditDistance$Table" "rows" "[[I" (.ref r) ∧ (∃ k, Arv Z h r k (.array .int) (Int32.ofNat (M + 2)) ((List.range (M + 2)).map fun j => .ref (r + 1 + j)) .null) ∧ own_rows Z h r M W f
theorem own_rows.other {Z : State} {h h' : Heap} {r a : Addr} {sl : Nat} {v : Value} {M W : Nat} {f : Nat → Nat → Nat} (F : own_rows Z h r M W f) (Wv : Wr h h' a sl v) (lt : a < r) : own_rows Z h' r M W f := fun j hj => by
 obtain ⟨k, V⟩ := F j hj
 exact ⟨k, V.other Wv (own_aneq lt)⟩
theorem own_rows.mk0 {Z : State} {h : Heap} {r : Addr} {comp : ClassId} {M W : Nat} {C : String} (hW : W ≤ 100) (F : ∀ (j : Nat) (x : Addr), ((List.range (M + 2)).map fun j => r + 1 + j)[j]? = some x → Arr Z h x (newA comp .int (Int32.ofNat W)) .int ∧ Exa Z h x C) : own_rows Z h r M W (fun _ _ => 0) := fun j hj => by
 have A := (F j (r + 1 + j) (by simp [hj])).1
 refine ⟨comp, (Arv.new A ?_).pad ?_⟩
 ·have e1 : (0 : Int32) = Int32.ofNat 0 := rfl
  rw [e1, own_ltN (by omega) (by omega)]; omega
 ·intro i
  simp only [List.getD_eq_getElem?_getD, List.getElem?_map, List.getElem?_nil, Option.getD_none]
  cases (List.range W)[i]? <;> rfl
theorem own_tab.set {Z : State} {h h' : Heap} {t r : Addr} {sl : Nat} {u : Value} {M W rr cc v : Nat} {k : ClassId} {f : Nat → Nat → Nat} (F : own_tab Z h t r M W f) (Wv : Wr h h' (r + 1 + rr % (M + 2)) sl u)
  (V : Arv Z h' (r + 1 + rr % (M + 2)) k .int (Int32.ofNat W) (((List.range W).map fun c => Value.int (Int32.ofNat (f (rr % (M + 2)) c))).set cc (.int (Int32.ofNat v))) v'0) (lt : t < r) : own_tab Z h' t r M W (own_set M f rr cc v) := by
 obtain ⟨e, fm, fr, ⟨kr, vr⟩, rows⟩ := F
 refine ⟨e.wr Wv, fm.other Wv (Or.inl (own_aneq' lt)), fr.other Wv (Or.inl (own_aneq' lt)), ⟨kr, vr.other Wv own_arr0⟩, fun j hj => ?_⟩
 by_cases q : j = rr % (M + 2)
 ·subst q
  refine ⟨k, ?_⟩
  have e : ((List.range W).map fun c => Value.int (Int32.ofNat (f (rr % (M + 2)) c))).set cc (.int (Int32.ofNat v)) = (List.range W).map fun c => Value.int (Int32.ofNat (own_set M f rr cc v (rr % (M + 2)) c)) := by
   apply List.ext_getElem
   ·simp
   ·intro i h1 h2
    simp only [List.getElem_set, List.getElem_map, List.getElem_range, own_set, if_true]
    by_cases w : cc = i
    ·rw [if_pos w, if_pos w.symm]
    ·rw [if_neg w, if_neg (fun z => w z.symm)]
  rw [← e]; exact V
 ·obtain ⟨k', V'⟩ := rows j hj
  refine ⟨k', ?_⟩
  have e : (fun c => Value.int (Int32.ofNat (own_set M f rr cc v j c))) = fun c => Value.int (Int32.ofNat (f j c)) := by
   funext c; simp only [own_set, if_neg q]
  rw [e]
  exact V'.other Wv (own_arow q)
theorem own_ixR {p2 : Int32} {rr M : Nat} (h2 : p2 = Int32.ofNat rr) (hr : rr ≤ 100) (hM : M ≤ 7) : ¬ (p2 % Int32.ofNat (M + 2)) < 0 ∧ (p2 % Int32.ofNat (M + 2)) < Int32.ofNat (M + 2) := by
 rw [h2, own_modN (by omega) (by omega)]
 exact own_inN (Nat.mod_lt _ (by omega)) (by omega)
theorem own_atR {p2 : Int32} {rr M : Nat} {r : Addr} (h2 : p2 = Int32.ofNat rr) (hr : rr ≤ 100) (hM : M ≤ 7) : ((List.range (M + 2)).map fun j => Value.ref (r + 1 + j)).getD (p2 % Int32.ofNat (M + 2)).toNatClampNeg .null = .ref (r + 1 + rr % (M + 2)) := by
 have q : rr % (M + 2) < M + 2 := Nat.mod_lt _ (by omega)
 rw [h2, own_modN (by omega) (by omega), own_clamp (by omega), List.getD_eq_getElem?_getD, List.getElem?_map, List.getElem?_range q]
 rfl
theorem own_ixC {p3 : Int32} {cc W : Nat} (h3 : p3 = Int32.ofNat cc) (hc : cc < W) (hW : W ≤ 100) : ¬ p3 < 0 ∧ p3 < Int32.ofNat W := by
 rw [h3]; exact own_inN hc (by omega)
theorem own_atC {p3 : Int32} {cc W : Nat} {g : Nat → Nat} (h3 : p3 = Int32.ofNat cc) (hc : cc < W) (hW : W ≤ 100) : ((List.range W).map fun c => Value.int (Int32.ofNat (g c))).getD p3.toNatClampNeg v'0 = .int (Int32.ofNat (g cc)) := by
 rw [h3, own_clamp (by omega), List.getD_eq_getElem?_getD, List.getElem?_map, List.getElem?_range hc]
 rfl
theorem own_z0 {p : Int32} {a : Nat} (h : p = Int32.ofNat a) (ha : a ≤ 100) : p = 0 ↔ a = 0 := by
 have e1 : (0 : Int32) = Int32.ofNat 0 := rfl
 rw [h, e1, own_eqN (by omega) (by omega)]
theorem own_g0 {p2 : Int32} {M rr cc : Nat} {f : Nat → Nat → Nat} (h2 : p2 = Int32.ofNat rr) (hr : rr ≤ 100) (q : p2 = 0) : Int32.ofNat M + (1 : Int32) = Int32.ofNat (own_get M f rr cc) := by
 unfold own_get
 rw [if_pos ((own_z0 h2 hr).mp q)]; exact own_addN M 1
theorem own_g1 {p2 p3 : Int32} {M rr cc : Nat} {f : Nat → Nat → Nat} (h2 : p2 = Int32.ofNat rr) (h3 : p3 = Int32.ofNat cc) (hr : rr ≤ 100) (hc : cc ≤ 100) (q : ¬ p2 = 0) (q' : p3 = 0) : Int32.ofNat M + (1 : Int32) = Int32.ofNat (own_get M f rr cc) := by
 unfold own_get
 rw [if_neg (fun z => q ((own_z0 h2 hr).mpr z)), if_pos ((own_z0 h3 hc).mp q')]; exact own_addN M 1
theorem own_g2 {p2 p3 : Int32} {M rr cc : Nat} {f : Nat → Nat → Nat} (hM : M ≤ 7) (h2 : p2 = Int32.ofNat rr) (h3 : p3 = Int32.ofNat cc) (hr : rr ≤ 100) (hc : cc ≤ 100) (q : ¬ p2 = 0) (q' : ¬ p3 = 0) (q'' : Int32.ofNat M < Int32.ofNat ((rr - cc) + (cc - rr))) : Int32.ofNat M + (1 : Int32) = Int32.ofNat (own_get M f rr cc) := by
 unfold own_get
 rw [if_neg (fun z => q ((own_z0 h2 hr).mpr z)), if_neg (fun z => q' ((own_z0 h3 hc).mpr z)), if_pos ((own_ltN (by omega) (by omega)).mp q'')]; exact own_addN M 1
theorem own_g3 {p2 p3 : Int32} {M rr cc : Nat} {f : Nat → Nat → Nat} (hM : M ≤ 7) (h2 : p2 = Int32.ofNat rr) (h3 : p3 = Int32.ofNat cc) (hr : rr ≤ 100) (hc : cc ≤ 100) (q : ¬ p2 = 0) (q' : ¬ p3 = 0) (q'' : ¬ Int32.ofNat M < Int32.ofNat ((rr - cc) + (cc - rr))) : Int32.ofNat (f (rr % (M + 2)) cc) = Int32.ofNat (own_get M f rr cc) := by
 unfold own_get
 rw [if_neg (fun z => q ((own_z0 h2 hr).mpr z)), if_neg (fun z => q' ((own_z0 h3 hc).mpr z)), if_neg (fun z => q'' ((own_ltN (by omega) (by omega)).mpr z))]
theorem own_celI {M i j lm sr g1 g2 g3 g4 : Nat} {f : Nat → Nat → Nat} {E : Nat → Nat → Bool} {b : Bool} (hi : i ≠ 0) (hj : j ≠ 0) (hb : E (i - 1) (j - 1) = b) (hs : own_lpn (fun p => E p (j - 1)) (max 1 (i - M)) (i - 1) = sr) (h1 : own_get M f i j = g1) (h2 : own_get M f (i + 1) j = g2) (h3 : own_get M f i (j + 1) = g3) (h4 : own_get M f sr lm = g4) :
  own_cel M f E i j lm = min (min (min (g1 + (if b then 0 else 1)) (g2 + 1)) (g3 + 1)) (g4 + (i - sr - 1) + 1 + (j - lm - 1)) := by
 subst hb hs h1 h2 h3 h4
 unfold own_cel
 rw [if_neg hi, if_neg hj]
theorem own_lmI {i j lm : Nat} {E : Nat → Nat → Bool} {b : Bool} (hi : i ≠ 0) (hj : j ≠ 0) (hb : E (i - 1) (j - 1) = b) : own_lm E i j lm = if b then j else lm := by
 subst hb; unfold own_lm; rw [if_neg hi, if_neg hj]
theorem own_celB {M i j lm : Nat} {f : Nat → Nat → Nat} {E : Nat → Nat → Bool} (h : i = 0 ∨ j = 0) : own_cel M f E i j lm = i + j := by
 unfold own_cel
 by_cases q : i = 0
 ·rw [if_pos q]
 ·rw [if_neg q, if_pos (h.resolve_left q)]
theorem own_lmB {i j lm : Nat} {E : Nat → Nat → Bool} (h : i = 0 ∨ j = 0) : own_lm E i j lm = lm := by
 unfold own_lm
 by_cases q : i = 0
 ·rw [if_pos q]
 ·rw [if_neg q, if_pos (h.resolve_left q)]
theorem own_setB {M r c v : Nat} {f : Nat → Nat → Nat} (hf : ∀ a b, f a b ≤ 8) (hv : v ≤ 8) : ∀ a b, own_set M f r c v a b ≤ 8 := fun a b => by
 unfold own_set
 split
 ·split
  ·exact hv
  ·exact hf a b
 ·exact hf a b
theorem own_getB {M r c : Nat} {f : Nat → Nat → Nat} (hM : M ≤ 7) (hf : ∀ a b, f a b ≤ 8) : own_get M f r c ≤ 8 := by
 unfold own_get
 have := hf (r % (M + 2)) c
 split
 ·omega
 ·split
  ·omega
  ·split <;> omega
theorem own_lpnB (E : Nat → Bool) (lo : Nat) : ∀ p, own_lpn E lo p ≤ p
 | 0 => Nat.le_refl _
 | p + 1 => by
  have := own_lpnB E lo p
  unfold own_lpn
  split
  ·omega
  ·split <;> omega
theorem own_lpA {E : Nat → Bool} {lo p : Nat} (h : p + 1 < lo) : own_lpn E lo (p + 1) = 0 := by rw [own_lpn, if_pos h]
theorem own_lpT {E : Nat → Bool} {lo p : Nat} (h : ¬ p + 1 < lo) (e : E p = true) : own_lpn E lo (p + 1) = p + 1 := by rw [own_lpn, if_neg h, if_pos e]
theorem own_lpF {E : Nat → Bool} {lo p : Nat} (h : ¬ p + 1 < lo) (e : E p = false) : own_lpn E lo (p + 1) = own_lpn E lo p := by rw [own_lpn, if_neg h, if_neg (by rw [e]; exact Bool.false_ne_true)]
theorem own_sw {g i sr j lm : Nat} (h1 : sr + 1 ≤ i) (h2 : lm + 1 ≤ j) : ((((Int32.ofNat g) + (((Int32.ofNat i) - (Int32.ofNat sr)) - (1 : Int32))) + (1 : Int32)) + (((Int32.ofNat j) - (Int32.ofNat lm)) - (1 : Int32))) = Int32.ofNat (g + (i - sr - 1) + 1 + (j - lm - 1)) := by
 show ((((Int32.ofNat g) + (((Int32.ofNat i) - (Int32.ofNat sr)) - Int32.ofNat 1)) + Int32.ofNat 1) + (((Int32.ofNat j) - (Int32.ofNat lm)) - Int32.ofNat 1)) = _
 rw [own_subN (by omega), own_subN (by omega), own_subN (by omega), own_subN (by omega), own_addN, own_addN, own_addN]
theorem own_dec (x y : Int32) : decide (x = y) = decide (y = x) := by
 by_cases h : x = y
 ·rw [h]
 ·rw [decide_eq_false h, decide_eq_false (fun q => h q.symm)]
theorem own_ordB {n m : Nat} (E : Nat → Nat → Bool) (hm : m ≤ 3) : own_ord n m E ≤ 10 := by
 unfold own_ord own_d22
 repeat' split
 all_goals omega
theorem own_refB {n m : Nat} (E : Nat → Nat → Bool) (hn : n ≤ 3) (hm : m ≤ 3) : own_refN n m E ≤ 10 := by
 unfold own_refN
 split
 ·exact own_ordB _ hn
 ·exact own_ordB _ hm
theorem own_ifB (b : Bool) : (if b then 0 else 1) ≤ 1000 := by cases b <;> decide
theorem own_d22B (a b c d : Bool) : own_d22 a b c d ≤ 1000 := by cases a <;> cases b <;> cases c <;> cases d <;> decide
theorem own_and3 (x : Int32) : ∃ n : Nat, n ≤ 3 ∧ x &&& (3 : Int32) = Int32.ofNat n := by
 have a := c_and x 3 (by decide)
 have e : (3 : Int32).toInt = 3 := rfl
 refine ⟨(x &&& 3).toInt.toNat, by omega, ?_⟩
 rw [← Int32.toInt_inj, own_toInt (by omega)]; omega
theorem own_and7 (x : Int32) : ∃ n : Nat, n ≤ 7 ∧ x &&& (7 : Int32) = Int32.ofNat n := by
 have a := c_and x 7 (by decide)
 have e : (7 : Int32).toInt = 7 := rfl
 refine ⟨(x &&& 7).toInt.toNat, by omega, ?_⟩
 rw [← Int32.toInt_inj, own_toInt (by omega)]; omega
set_option maxRecDepth 100000
theorem own_fin00 : ∀ M, M < 8 → own_win 0 0 M (own_mat false false false false false false false false) = min (own_refN 0 0 (own_mat false false false false false false false false)) (M + 1) := by decide +kernel
theorem own_fin01 : ∀ M, M < 8 → own_win 0 1 M (own_mat false false false false false false false false) = min (own_refN 0 1 (own_mat false false false false false false false false)) (M + 1) := by decide +kernel
theorem own_fin02 : ∀ M, M < 8 → own_win 0 2 M (own_mat false false false false false false false false) = min (own_refN 0 2 (own_mat false false false false false false false false)) (M + 1) := by decide +kernel
theorem own_fin03 : ∀ M, M < 8 → own_win 0 3 M (own_mat false false false false false false false false) = min (own_refN 0 3 (own_mat false false false false false false false false)) (M + 1) := by decide +kernel
theorem own_fin10 : ∀ M, M < 8 → own_win 1 0 M (own_mat false false false false false false false false) = min (own_refN 1 0 (own_mat false false false false false false false false)) (M + 1) := by decide +kernel
theorem own_fin11 : ∀ M, M < 8 → ∀ e00 : Bool, own_win 1 1 M (own_mat e00 false false false false false false false) = min (own_refN 1 1 (own_mat e00 false false false false false false false)) (M + 1) := by decide +kernel
theorem own_fin12 : ∀ M, M < 8 → ∀ e00 e01 : Bool, own_win 1 2 M (own_mat e00 e01 false false false false false false) = min (own_refN 1 2 (own_mat e00 e01 false false false false false false)) (M + 1) := by decide +kernel
theorem own_fin13 : ∀ M, M < 8 → ∀ e00 e01 e02 : Bool, own_win 1 3 M (own_mat e00 e01 e02 false false false false false) = min (own_refN 1 3 (own_mat e00 e01 e02 false false false false false)) (M + 1) := by decide +kernel
theorem own_fin20 : ∀ M, M < 8 → own_win 2 0 M (own_mat false false false false false false false false) = min (own_refN 2 0 (own_mat false false false false false false false false)) (M + 1) := by decide +kernel
theorem own_fin21 : ∀ M, M < 8 → ∀ e00 e10 : Bool, own_win 2 1 M (own_mat e00 false false e10 false false false false) = min (own_refN 2 1 (own_mat e00 false false e10 false false false false)) (M + 1) := by decide +kernel
theorem own_fin22 : ∀ M, M < 8 → ∀ e00 e01 e10 e11 : Bool, own_win 2 2 M (own_mat e00 e01 false e10 e11 false false false) = min (own_refN 2 2 (own_mat e00 e01 false e10 e11 false false false)) (M + 1) := by decide +kernel
theorem own_fin23 : ∀ M, M < 8 → ∀ e00 e01 e02 e10 e11 e12 : Bool, own_win 2 3 M (own_mat e00 e01 e02 e10 e11 e12 false false) = min (own_refN 2 3 (own_mat e00 e01 e02 e10 e11 e12 false false)) (M + 1) := by decide +kernel
theorem own_fin30 : ∀ M, M < 8 → own_win 3 0 M (own_mat false false false false false false false false) = min (own_refN 3 0 (own_mat false false false false false false false false)) (M + 1) := by decide +kernel
theorem own_fin31 : ∀ M, M < 8 → ∀ e00 e10 e20 : Bool, own_win 3 1 M (own_mat e00 false false e10 false false e20 false) = min (own_refN 3 1 (own_mat e00 false false e10 false false e20 false)) (M + 1) := by decide +kernel
theorem own_fin32 : ∀ M, M < 8 → ∀ e00 e01 e10 e11 e20 e21 : Bool, own_win 3 2 M (own_mat e00 e01 false e10 e11 false e20 e21) = min (own_refN 3 2 (own_mat e00 e01 false e10 e11 false e20 e21)) (M + 1) := by decide +kernel

theorem own_selP {args : Array Value} {s : State} {C : String} {y : MethodName} (hy : y.cls ≠ "java/lang/invoke/MethodHandle" ∧ y.cls ≠ "java/lang/invoke/VarHandle") (w : (Jvm.Cond.selects C y y).before args s = true) (hp : (Jvm.Cond.privateMethod y).before args s = true) (hi : (Jvm.Cond.instanceMethod y).before args s = true) : (Jvm.Cond.selects y.cls y y).before args s = true := by
 obtain ⟨c, r, m, hc, hr, hm, hsel, mk, hk, hki⟩ := Cond.selects_spec w
 obtain ⟨mk', methM, hnamed, hmethM, hstM, habM⟩ := Cond.instanceMethod_spec hi
 cases hm.symm.trans hnamed
 have hfc := findClass_of_methodNamed hm
 have hpr := Cond.privateMethod_at hp m methM hm hmethM
 have hf := State.methodFound?_of_named hm hy
 have hs : selectMethod {} s.vm m.cls m = .method m := selectMethod_private hmethM hpr
 simp [Jvm.Cond.before, Jvm.Cond.holds, Jvm.Cond.value, hfc, hf, hm, hs, hk, hki]
theorem own_sameM {args : Array Value} {s : State} {C : String} {y z x : MethodName} (hy : y.cls ≠ "java/lang/invoke/MethodHandle" ∧ y.cls ≠ "java/lang/invoke/VarHandle") (w : (Jvm.Cond.selects C x z).before args s = true) (hz : z.cls = y.cls) (hd : (Jvm.Cond.declares y).before args s = true) : (Jvm.Cond.sameMethod y.cls y.cls y.name y.desc).before args s = true := by
 obtain ⟨c, r, m, hc, hr, hm, hsel, mk, hk, hki⟩ := Cond.selects_spec w
 obtain ⟨m', meth, h1, h2, h3, h4⟩ := Cond.declares_spec hd
 have hf := State.methodFound?_of_named h1 hy
 have hfc := findClass_of_methodNamed h1
 have hfz := findClass_of_methodNamed hm
 rw [hz] at hfz
 have e : m.cls = m'.cls := by rw [hfc] at hfz; exact (Option.some.inj hfz).symm
 rw [e] at hk
 simp [Jvm.Cond.before, Jvm.Cond.holds, Jvm.Cond.value, hfc, hf, h1, hk, hki]
theorem own_nf {args : Array Value} {s : State} {C : String} {x z y : MethodName} (hsel : (Jvm.Cond.selects C x z).before args s = true) (hz : z.cls = y.cls) : NotFace s y := fun r0 h0 => by
 obtain ⟨c2, r2, m2, q1, q2, q3, q4, kP, hkP, hkPi⟩ := Cond.selects_spec hsel
 have f1 := findClass_of_methodNamed h0
 have f2 := findClass_of_methodNamed q3
 rw [hz, f1] at f2
 exact ⟨kP, by rw [Option.some.inj f2]; exact hkP, hkPi⟩

abbrev own_y0 : MethodName := (⟨"java/lang/StringUTF16", "newBytesLength", "(I)I"⟩ : MethodName)
abbrev own_y1 : MethodName := (⟨"java/lang/StringUTF16", "compress", "([CI[BII)I"⟩ : MethodName)
abbrev own_y2 : MethodName := (⟨"java/lang/StringUTF16", "putChar", "([BII)V"⟩ : MethodName)
abbrev own_y3 : MethodName := (⟨"java/lang/StringUTF16", "getChar", "([BI)C"⟩ : MethodName)
abbrev own_y4 : MethodName := (⟨"java/lang/StringUTF16", "newBytesFor", "(I)[B"⟩ : MethodName)
abbrev own_y5 : MethodName := (⟨"java/lang/StringUTF16", "toBytes", "([CII)[B"⟩ : MethodName)
abbrev own_y6 : MethodName := (⟨"java/lang/StringUTF16", "compress", "([CII)[B"⟩ : MethodName)
abbrev own_y7 : MethodName := (⟨"java/lang/StringUTF16", "coderFromArrayLen", "([BI)B"⟩ : MethodName)
abbrev own_y8 : MethodName := (⟨"java/lang/String", "<init>", "([CIILjava/lang/Void;)V"⟩ : MethodName)
abbrev own_y9 : MethodName := (⟨"java/lang/String", "<init>", "([C)V"⟩ : MethodName)
abbrev own_y10 : MethodName := (⟨"java/lang/String", "coder", "()B"⟩ : MethodName)
abbrev own_y11 : MethodName := (⟨"java/lang/String", "isLatin1", "()Z"⟩ : MethodName)
abbrev own_y12 : MethodName := (⟨"java/lang/String", "length", "()I"⟩ : MethodName)
abbrev own_y13 : MethodName := (⟨"jdk/internal/util/Preconditions", "checkIndex", "(IILjava/util/function/BiFunction;)I"⟩ : MethodName)
abbrev own_y14 : MethodName := (⟨"java/lang/String", "checkIndex", "(II)V"⟩ : MethodName)
abbrev own_y15 : MethodName := (⟨"java/lang/StringLatin1", "charAt", "([BI)C"⟩ : MethodName)
abbrev own_y16 : MethodName := (⟨"java/lang/StringUTF16", "length", "([B)I"⟩ : MethodName)
abbrev own_y17 : MethodName := (⟨"java/lang/StringUTF16", "checkIndex", "(I[B)V"⟩ : MethodName)
abbrev own_y18 : MethodName := (⟨"java/lang/StringUTF16", "charAt", "([BI)C"⟩ : MethodName)
abbrev own_y19 : MethodName := (⟨"java/lang/String", "charAt", "(I)C"⟩ : MethodName)
abbrev own_y20 : MethodName := (⟨"java/lang/Math", "abs", "(I)I"⟩ : MethodName)
abbrev own_y21 : MethodName := (⟨"java/lang/Math", "max", "(II)I"⟩ : MethodName)
abbrev own_y22 : MethodName := (⟨"java/lang/Math", "min", "(II)I"⟩ : MethodName)
abbrev own_y23 : MethodName := (⟨"com/example/conformance_check/conformancecheck/catalogue/EditDistance$Table", "get", "(II)I"⟩ : MethodName)
abbrev own_y24 : MethodName := (⟨"com/example/conformance_check/conformancecheck/catalogue/EditDistance$Table", "set", "(III)V"⟩ : MethodName)
abbrev own_y25 : MethodName := (⟨"com/example/conformance_check/conformancecheck/catalogue/EditDistance$Table", "<init>", "(III)V"⟩ : MethodName)
abbrev own_y26 : MethodName := (⟨"com/example/conformance_check/conformancecheck/catalogue/EditDistance", "lastPosition", "(Ljava/lang/String;CII)I"⟩ : MethodName)
abbrev own_y27 : MethodName := (⟨"com/example/conformance_check/conformancecheck/catalogue/EditDistance", "within", "(Ljava/lang/String;Ljava/lang/String;I)I"⟩ : MethodName)
abbrev own_y28 : MethodName := (⟨"com/example/conformance_check/conformancecheck/catalogue/EditDistanceWithinPinLaw", "ch", "(JI)C"⟩ : MethodName)
abbrev own_y29 : MethodName := (⟨"com/example/conformance_check/conformancecheck/catalogue/EditDistanceWithinPinLaw", "ne", "(CC)I"⟩ : MethodName)
abbrev own_y30 : MethodName := (⟨"com/example/conformance_check/conformancecheck/catalogue/EditDistanceWithinPinLaw", "d22", "(CCCC)I"⟩ : MethodName)
abbrev own_y31 : MethodName := (⟨"com/example/conformance_check/conformancecheck/catalogue/EditDistanceWithinPinLaw", "ordered", "(ICCCICCC)I"⟩ : MethodName)
abbrev own_y32 : MethodName := (⟨"com/example/conformance_check/conformancecheck/catalogue/EditDistanceWithinPinLaw", "ref", "(ICCCICCC)I"⟩ : MethodName)
abbrev own_y33 : MethodName := (⟨"java/lang/StringLatin1", "canEncode", "(C)Z"⟩ : MethodName)
abbrev own_y34 : MethodName := (⟨"java/lang/StringLatin1", "toBytes", "(C)[B"⟩ : MethodName)
abbrev own_y35 : MethodName := (⟨"java/lang/StringUTF16", "toBytes", "(C)[B"⟩ : MethodName)
abbrev own_y36 : MethodName := (⟨"java/lang/String", "<init>", "([BB)V"⟩ : MethodName)
abbrev own_y37 : MethodName := (⟨"java/lang/String", "valueOf", "(C)Ljava/lang/String;"⟩ : MethodName)
abbrev own_y38 : MethodName := (⟨"com/example/conformance_check/conformancecheck/catalogue/EditDistanceWithinPinLaw", "str", "(ICCC)Ljava/lang/String;"⟩ : MethodName)
def QI (z : Int32) (h0 : Heap) (n0 : Nat) (v : Option Value) (h : Heap) (L : List Loc) : Prop := v = some (.int z) ∧ Fr n0 L ∧ h = h0
def QC1a (Z : State) (b : Addr) (k2 : ClassId) (x0 : Int32) (h0 : Heap) (n0 : Nat) (v : Option Value) (h : Heap) (L : List Loc) : Prop := ∃ z : Int32, v = some (.int z) ∧ Fr n0 L ∧ Keep h0 h [b] ∧ ((z = (1 : Int32) ∧ (¬ (255 : Int32) < x0) ∧ Arv Z h b k2 .byte (1 : Int32) [(.int (nar .byte (x0.toInt8.toInt32)))] v'0) ∨ (z = (0 : Int32) ∧ (255 : Int32) < x0))
def QPC (Z : State) (a1 : Addr) (k1 : ClassId) (p3 : Int32) (vs : List Value) (n i : Nat) (h0 : Heap) (n0 : Nat) (v : Option Value) (h : Heap) (L : List Loc) : Prop := v = none ∧ Fr n0 L ∧ Keep h0 h [a1] ∧ Arv Z h a1 k1 .byte (Int32.ofNat n) ((vs.set (2 * i) (.int (nar .byte ((p3 >>> ((0 : Int32) &&& 31)).toInt8.toInt32)))).set (2 * i + 1) (.int (nar .byte ((p3 >>> ((8 : Int32) &&& 31)).toInt8.toInt32)))) v'0
def QNB1 (Z : State) (h0 : Heap) (n0 : Nat) (v : Option Value) (h : Heap) (L : List Loc) : Prop := ∃ (b : Addr) (k : ClassId), v = some (.ref b) ∧ Fr n0 L ∧ Ext h0 h ∧ h0.size ≤ b ∧ Arv Z h b k .byte (2 : Int32) [v'0, v'0] v'0
def QTB1 (Z : State) (x0 : Int32) (h0 : Heap) (n0 : Nat) (v : Option Value) (h : Heap) (L : List Loc) : Prop := ∃ (b : Addr) (k : ClassId), v = some (.ref b) ∧ Fr n0 L ∧ Ext h0 h ∧ h0.size ≤ b ∧ Arv Z h b k .byte (2 : Int32) [(.int (nar .byte ((x0 >>> ((0 : Int32) &&& 31)).toInt8.toInt32))), (.int (nar .byte ((x0 >>> ((8 : Int32) &&& 31)).toInt8.toInt32)))] v'0
def QC1b (Z : State) (x0 : Int32) (h0 : Heap) (n0 : Nat) (v : Option Value) (h : Heap) (L : List Loc) : Prop := ∃ (b : Addr) (k : ClassId), v = some (.ref b) ∧ Fr n0 L ∧ Ext h0 h ∧ h0.size ≤ b ∧ (((¬ (255 : Int32) < x0) ∧ Arv Z h b k .byte (1 : Int32) [(.int (nar .byte (x0.toInt8.toInt32)))] v'0) ∨ (((255 : Int32) < x0) ∧ Arv Z h b k .byte (2 : Int32) [(.int (nar .byte ((x0 >>> ((0 : Int32) &&& 31)).toInt8.toInt32))), (.int (nar .byte ((x0 >>> ((8 : Int32) &&& 31)).toInt8.toInt32)))] v'0))
def QI1 (Z : State) (a1 : Addr) (x0 : Int32) (h0 : Heap) (n0 : Nat) (v : Option Value) (h : Heap) (L : List Loc) : Prop := ∃ (t : Addr) (k : ClassId), v = none ∧ Fr n0 L ∧ Keep h0 h [a1] ∧ h0.size ≤ t ∧ F'1 Z h a1 (.ref t) ∧ ((F'0 Z h a1 v'0 ∧ (¬ (255 : Int32) < x0) ∧ Arv Z h t k .byte (1 : Int32) [(.int (nar .byte (x0.toInt8.toInt32)))] v'0) ∨ (F'0 Z h a1 v'1 ∧ ((255 : Int32) < x0) ∧ Arv Z h t k .byte (2 : Int32) [(.int (nar .byte ((x0 >>> ((0 : Int32) &&& 31)).toInt8.toInt32))), (.int (nar .byte ((x0 >>> ((8 : Int32) &&& 31)).toInt8.toInt32)))] v'0))
def QC2a (Z : State) (b : Addr) (k2 : ClassId) (x0 x1 : Int32) (h0 : Heap) (n0 : Nat) (v : Option Value) (h : Heap) (L : List Loc) : Prop := ∃ z : Int32, v = some (.int z) ∧ Fr n0 L ∧ Keep h0 h [b] ∧ ((z = (2 : Int32) ∧ (¬ (255 : Int32) < x0 ∧ ¬ (255 : Int32) < x1) ∧ Arv Z h b k2 .byte (2 : Int32) [(.int (nar .byte (x0.toInt8.toInt32))), (.int (nar .byte (x1.toInt8.toInt32)))] v'0) ∨ (z = (0 : Int32) ∧ (255 : Int32) < x0) ∨ (z = (1 : Int32) ∧ (255 : Int32) < x1))
def QNB2 (Z : State) (h0 : Heap) (n0 : Nat) (v : Option Value) (h : Heap) (L : List Loc) : Prop := ∃ (b : Addr) (k : ClassId), v = some (.ref b) ∧ Fr n0 L ∧ Ext h0 h ∧ h0.size ≤ b ∧ Arv Z h b k .byte (4 : Int32) [v'0, v'0, v'0, v'0] v'0
def QTB2 (Z : State) (x0 x1 : Int32) (h0 : Heap) (n0 : Nat) (v : Option Value) (h : Heap) (L : List Loc) : Prop := ∃ (b : Addr) (k : ClassId), v = some (.ref b) ∧ Fr n0 L ∧ Ext h0 h ∧ h0.size ≤ b ∧ Arv Z h b k .byte (4 : Int32) [(.int (nar .byte ((x0 >>> ((0 : Int32) &&& 31)).toInt8.toInt32))), (.int (nar .byte ((x0 >>> ((8 : Int32) &&& 31)).toInt8.toInt32))), (.int (nar .byte ((x1 >>> ((0 : Int32) &&& 31)).toInt8.toInt32))), (.int (nar .byte ((x1 >>> ((8 : Int32) &&& 31)).toInt8.toInt32)))] v'0
def QC2b (Z : State) (x0 x1 : Int32) (h0 : Heap) (n0 : Nat) (v : Option Value) (h : Heap) (L : List Loc) : Prop := ∃ (b : Addr) (k : ClassId), v = some (.ref b) ∧ Fr n0 L ∧ Ext h0 h ∧ h0.size ≤ b ∧ (((¬ (255 : Int32) < x0 ∧ ¬ (255 : Int32) < x1) ∧ Arv Z h b k .byte (2 : Int32) [(.int (nar .byte (x0.toInt8.toInt32))), (.int (nar .byte (x1.toInt8.toInt32)))] v'0) ∨ (((255 : Int32) < x0 ∨ (255 : Int32) < x1) ∧ Arv Z h b k .byte (4 : Int32) [(.int (nar .byte ((x0 >>> ((0 : Int32) &&& 31)).toInt8.toInt32))), (.int (nar .byte ((x0 >>> ((8 : Int32) &&& 31)).toInt8.toInt32))), (.int (nar .byte ((x1 >>> ((0 : Int32) &&& 31)).toInt8.toInt32))), (.int (nar .byte ((x1 >>> ((8 : Int32) &&& 31)).toInt8.toInt32)))] v'0))
def QI2 (Z : State) (a1 : Addr) (x0 x1 : Int32) (h0 : Heap) (n0 : Nat) (v : Option Value) (h : Heap) (L : List Loc) : Prop := ∃ (t : Addr) (k : ClassId), v = none ∧ Fr n0 L ∧ Keep h0 h [a1] ∧ h0.size ≤ t ∧ F'1 Z h a1 (.ref t) ∧ ((F'0 Z h a1 v'0 ∧ (¬ (255 : Int32) < x0 ∧ ¬ (255 : Int32) < x1) ∧ Arv Z h t k .byte (2 : Int32) [(.int (nar .byte (x0.toInt8.toInt32))), (.int (nar .byte (x1.toInt8.toInt32)))] v'0) ∨ (F'0 Z h a1 v'1 ∧ ((255 : Int32) < x0 ∨ (255 : Int32) < x1) ∧ Arv Z h t k .byte (4 : Int32) [(.int (nar .byte ((x0 >>> ((0 : Int32) &&& 31)).toInt8.toInt32))), (.int (nar .byte ((x0 >>> ((8 : Int32) &&& 31)).toInt8.toInt32))), (.int (nar .byte ((x1 >>> ((0 : Int32) &&& 31)).toInt8.toInt32))), (.int (nar .byte ((x1 >>> ((8 : Int32) &&& 31)).toInt8.toInt32)))] v'0))
def QC3a (Z : State) (b : Addr) (k2 : ClassId) (x0 x1 x2 : Int32) (h0 : Heap) (n0 : Nat) (v : Option Value) (h : Heap) (L : List Loc) : Prop := ∃ z : Int32, v = some (.int z) ∧ Fr n0 L ∧ Keep h0 h [b] ∧ ((z = (3 : Int32) ∧ (¬ (255 : Int32) < x0 ∧ ¬ (255 : Int32) < x1 ∧ ¬ (255 : Int32) < x2) ∧ Arv Z h b k2 .byte (3 : Int32) [(.int (nar .byte (x0.toInt8.toInt32))), (.int (nar .byte (x1.toInt8.toInt32))), (.int (nar .byte (x2.toInt8.toInt32)))] v'0) ∨ (z = (0 : Int32) ∧ (255 : Int32) < x0) ∨ (z = (1 : Int32) ∧ (255 : Int32) < x1) ∨ (z = (2 : Int32) ∧ (255 : Int32) < x2))
def QNB3 (Z : State) (h0 : Heap) (n0 : Nat) (v : Option Value) (h : Heap) (L : List Loc) : Prop := ∃ (b : Addr) (k : ClassId), v = some (.ref b) ∧ Fr n0 L ∧ Ext h0 h ∧ h0.size ≤ b ∧ Arv Z h b k .byte (6 : Int32) [v'0, v'0, v'0, v'0, v'0, v'0] v'0
def QTB3 (Z : State) (x0 x1 x2 : Int32) (h0 : Heap) (n0 : Nat) (v : Option Value) (h : Heap) (L : List Loc) : Prop := ∃ (b : Addr) (k : ClassId), v = some (.ref b) ∧ Fr n0 L ∧ Ext h0 h ∧ h0.size ≤ b ∧ Arv Z h b k .byte (6 : Int32) [(.int (nar .byte ((x0 >>> ((0 : Int32) &&& 31)).toInt8.toInt32))), (.int (nar .byte ((x0 >>> ((8 : Int32) &&& 31)).toInt8.toInt32))), (.int (nar .byte ((x1 >>> ((0 : Int32) &&& 31)).toInt8.toInt32))), (.int (nar .byte ((x1 >>> ((8 : Int32) &&& 31)).toInt8.toInt32))), (.int (nar .byte ((x2 >>> ((0 : Int32) &&& 31)).toInt8.toInt32))), (.int (nar .byte ((x2 >>> ((8 : Int32) &&& 31)).toInt8.toInt32)))] v'0
def QC3b (Z : State) (x0 x1 x2 : Int32) (h0 : Heap) (n0 : Nat) (v : Option Value) (h : Heap) (L : List Loc) : Prop := ∃ (b : Addr) (k : ClassId), v = some (.ref b) ∧ Fr n0 L ∧ Ext h0 h ∧ h0.size ≤ b ∧ (((¬ (255 : Int32) < x0 ∧ ¬ (255 : Int32) < x1 ∧ ¬ (255 : Int32) < x2) ∧ Arv Z h b k .byte (3 : Int32) [(.int (nar .byte (x0.toInt8.toInt32))), (.int (nar .byte (x1.toInt8.toInt32))), (.int (nar .byte (x2.toInt8.toInt32)))] v'0) ∨ (((255 : Int32) < x0 ∨ (255 : Int32) < x1 ∨ (255 : Int32) < x2) ∧ Arv Z h b k .byte (6 : Int32) [(.int (nar .byte ((x0 >>> ((0 : Int32) &&& 31)).toInt8.toInt32))), (.int (nar .byte ((x0 >>> ((8 : Int32) &&& 31)).toInt8.toInt32))), (.int (nar .byte ((x1 >>> ((0 : Int32) &&& 31)).toInt8.toInt32))), (.int (nar .byte ((x1 >>> ((8 : Int32) &&& 31)).toInt8.toInt32))), (.int (nar .byte ((x2 >>> ((0 : Int32) &&& 31)).toInt8.toInt32))), (.int (nar .byte ((x2 >>> ((8 : Int32) &&& 31)).toInt8.toInt32)))] v'0))
def QI3 (Z : State) (a1 : Addr) (x0 x1 x2 : Int32) (h0 : Heap) (n0 : Nat) (v : Option Value) (h : Heap) (L : List Loc) : Prop := ∃ (t : Addr) (k : ClassId), v = none ∧ Fr n0 L ∧ Keep h0 h [a1] ∧ h0.size ≤ t ∧ F'1 Z h a1 (.ref t) ∧ ((F'0 Z h a1 v'0 ∧ (¬ (255 : Int32) < x0 ∧ ¬ (255 : Int32) < x1 ∧ ¬ (255 : Int32) < x2) ∧ Arv Z h t k .byte (3 : Int32) [(.int (nar .byte (x0.toInt8.toInt32))), (.int (nar .byte (x1.toInt8.toInt32))), (.int (nar .byte (x2.toInt8.toInt32)))] v'0) ∨ (F'0 Z h a1 v'1 ∧ ((255 : Int32) < x0 ∨ (255 : Int32) < x1 ∨ (255 : Int32) < x2) ∧ Arv Z h t k .byte (6 : Int32) [(.int (nar .byte ((x0 >>> ((0 : Int32) &&& 31)).toInt8.toInt32))), (.int (nar .byte ((x0 >>> ((8 : Int32) &&& 31)).toInt8.toInt32))), (.int (nar .byte ((x1 >>> ((0 : Int32) &&& 31)).toInt8.toInt32))), (.int (nar .byte ((x1 >>> ((8 : Int32) &&& 31)).toInt8.toInt32))), (.int (nar .byte ((x2 >>> ((0 : Int32) &&& 31)).toInt8.toInt32))), (.int (nar .byte ((x2 >>> ((8 : Int32) &&& 31)).toInt8.toInt32)))] v'0))
def QN (h0 : Heap) (n0 : Nat) (v : Option Value) (h : Heap) (L : List Loc) : Prop := v = none ∧ Fr n0 L ∧ h = h0
def QST (Z : State) (a1 r : Addr) (M W rr cc v : Nat) (f : Nat → Nat → Nat) (h0 : Heap) (n0 : Nat) (u : Option Value) (h : Heap) (L : List Loc) : Prop := u = none ∧ Fr n0 L ∧ Keep h0 h [r + 1 + rr % (M + 2)] ∧ own_tab Z h a1 r M W (own_set M f rr cc v)
def QTI (Z : State) (a1 : Addr) (M W : Nat) (h0 : Heap) (n0 : Nat) (u : Option Value) (h : Heap) (L : List Loc) : Prop := ∃ r : Addr, u = none ∧ Fr n0 L ∧ Keep h0 h [a1] ∧ h0.size ≤ r ∧ a1 < r ∧ own_tab Z h a1 r M W (fun _ _ => 0)
def QW (nA nB M : Nat) (E : Nat → Nat → Bool) (h0 : Heap) (n0 : Nat) (v : Option Value) (h : Heap) (L : List Loc) : Prop := v = some (.int (Int32.ofNat (own_win nA nB M E))) ∧ Fr n0 L ∧ Ext h0 h
def QCH (h0 : Heap) (n0 : Nat) (v : Option Value) (h : Heap) (L : List Loc) : Prop := ∃ z : Int32, v = some (.int z) ∧ Fr n0 L ∧ h = h0 ∧ own_c16 z
def QB1 (Z : State) (vs : List Value) (z : Int32) (h0 : Heap) (n0 : Nat) (v : Option Value) (h : Heap) (L : List Loc) : Prop := ∃ (b : Addr) (k : ClassId), v = some (.ref b) ∧ Fr n0 L ∧ Ext h0 h ∧ h0.size ≤ b ∧ Arv Z h b k .byte z vs v'0
def QC18 (Z : State) (a1 : Addr) (a2 : Addr) (p3 : Int32)  (h0 : Heap) (n0 : Nat) (v : Option Value) (h : Heap) (L : List Loc) : Prop := v = none ∧ Fr n0 L ∧ Keep h0 h [a1] ∧ F'1 Z h a1 (.ref a2) ∧ F'0 Z h a1 (.int (nar .byte p3))
def QSR (Z : State) (X : List Int32) (h0 : Heap) (n0 : Nat) (v : Option Value) (h : Heap) (L : List Loc) : Prop := ∃ x : Addr, v = some (.ref x) ∧ Fr n0 L ∧ Ext h0 h ∧ own_str Z h x X
def Q0 (n0 : Nat) (v : Option Value) (h : Heap) (L : List Loc) : Prop := v = some (.int 1) ∧ Fr n0 L
theorem own_pd0 : parseMethodDescriptor "(I)I" = some ⟨[.int], some .int⟩ := by decide +kernel
theorem own_pd1 : parseMethodDescriptor "(I)[B" = some ⟨[.int], some (.array .byte)⟩ := by decide +kernel
theorem own_pd2 : parseMethodDescriptor "([BII)V" = some ⟨[(.array .byte), .int, .int], none⟩ := by decide +kernel
theorem own_pd3 : parseMethodDescriptor "([CI[BII)I" = some ⟨[(.array .char), .int, (.array .byte), .int, .int], some .int⟩ := by decide +kernel
theorem own_pd4 : parseMethodDescriptor "([CII)[B" = some ⟨[(.array .char), .int, .int], some (.array .byte)⟩ := by decide +kernel
theorem own_pd5 : parseMethodDescriptor "([BI)C" = some ⟨[(.array .byte), .int], some .char⟩ := by decide +kernel
theorem own_pd6 : parseMethodDescriptor "([BI)B" = some ⟨[(.array .byte), .int], some .byte⟩ := by decide +kernel
theorem own_pd7 : parseMethodDescriptor "([CIILjava/lang/Void;)V" = some ⟨[(.array .char), .int, .int, (.object "java/lang/Void")], none⟩ := by decide +kernel
theorem own_pd8 : parseMethodDescriptor "()B" = some ⟨[], some .byte⟩ := by decide +kernel
theorem own_pd9 : parseMethodDescriptor "(IILjava/util/function/BiFunction;)I" = some ⟨[.int, .int, (.object "java/util/function/BiFunction")], some .int⟩ := by decide +kernel
theorem own_pd10 : parseMethodDescriptor "(II)V" = some ⟨[.int, .int], none⟩ := by decide +kernel
theorem own_pd11 : parseMethodDescriptor "([B)I" = some ⟨[(.array .byte)], some .int⟩ := by decide +kernel
theorem own_pd12 : parseMethodDescriptor "(I[B)V" = some ⟨[.int, (.array .byte)], none⟩ := by decide +kernel
theorem own_pd13 : parseMethodDescriptor "()Z" = some ⟨[], some .boolean⟩ := by decide +kernel
theorem own_pd14 : parseMethodDescriptor "(II)I" = some ⟨[.int, .int], some .int⟩ := by decide +kernel
theorem own_pd15 : parseMethodDescriptor "(I)C" = some ⟨[.int], some .char⟩ := by decide +kernel
theorem own_pd16 : parseMethodDescriptor "(III)V" = some ⟨[.int, .int, .int], none⟩ := by decide +kernel
theorem own_pd17 : parseMethodDescriptor "(Ljava/lang/String;CII)I" = some ⟨[(.object "java/lang/String"), .char, .int, .int], some .int⟩ := by decide +kernel
theorem own_pd18 : parseMethodDescriptor "()I" = some ⟨[], some .int⟩ := by decide +kernel
theorem own_pd19 : parseMethodDescriptor "(CC)I" = some ⟨[.char, .char], some .int⟩ := by decide +kernel
theorem own_pd20 : parseMethodDescriptor "(CCCC)I" = some ⟨[.char, .char, .char, .char], some .int⟩ := by decide +kernel
theorem own_pd21 : parseMethodDescriptor "(ICCCICCC)I" = some ⟨[.int, .char, .char, .char, .int, .char, .char, .char], some .int⟩ := by decide +kernel
theorem own_pd22 : parseMethodDescriptor "(C)Z" = some ⟨[.char], some .boolean⟩ := by decide +kernel
theorem own_pd23 : parseMethodDescriptor "(C)[B" = some ⟨[.char], some (.array .byte)⟩ := by decide +kernel
theorem own_pd24 : parseMethodDescriptor "([BB)V" = some ⟨[(.array .byte), .byte], none⟩ := by decide +kernel
theorem own_pd25 : parseMethodDescriptor "(C)Ljava/lang/String;" = some ⟨[.char], some (.object "java/lang/String")⟩ := by decide +kernel
theorem own_pd26 : parseMethodDescriptor "([C)V" = some ⟨[(.array .char)], none⟩ := by decide +kernel
theorem own_pd27 : parseMethodDescriptor "(JI)C" = some ⟨[.long, .int], some .char⟩ := by decide +kernel
theorem own_pd28 : parseMethodDescriptor "(ICCC)Ljava/lang/String;" = some ⟨[.int, .char, .char, .char], some (.object "java/lang/String")⟩ := by decide +kernel
theorem own_pd29 : parseMethodDescriptor "(Ljava/lang/String;Ljava/lang/String;I)I" = some ⟨[(.object "java/lang/String"), (.object "java/lang/String"), .int], some .int⟩ := by decide +kernel
theorem d26_0 : own_D b'26 0 (.iload_n 0) 1 1 := by decide +kernel
theorem d26_1 : own_DZ b'26 1 .ge 12 4 := by decide +kernel
theorem d26_4 : own_D b'26 4 (.new 17) 3 7 := by decide +kernel
theorem d26_7 : own_D b'26 7 .dup 1 8 := by decide +kernel
theorem d26_8 : own_D b'26 8 (.invokespecial 19) 3 11 := by decide +kernel
theorem d26_11 : own_D b'26 11 .athrow 1 12 := by decide +kernel
theorem d26_12 : own_D b'26 12 (.iload_n 0) 1 13 := by decide +kernel
theorem d26_13 : own_D b'26 13 (.ldc 20) 2 15 := by decide +kernel
theorem d26_15 : own_DJ b'26 15 .lt 55 18 := by decide +kernel
theorem d26_18 : own_D b'26 18 (.new 21) 3 21 := by decide +kernel
theorem d26_21 : own_D b'26 21 .dup 1 22 := by decide +kernel
theorem d26_22 : own_D b'26 22 (.new 23) 3 25 := by decide +kernel
theorem d26_25 : own_D b'26 25 .dup 1 26 := by decide +kernel
theorem d26_26 : own_D b'26 26 (.invokespecial 25) 3 29 := by decide +kernel
theorem d26_29 : own_D b'26 29 (.ldc 26) 2 31 := by decide +kernel
theorem d26_31 : own_D b'26 31 (.invokevirtual 28) 3 34 := by decide +kernel
theorem d26_34 : own_D b'26 34 (.iload_n 0) 1 35 := by decide +kernel
theorem d26_35 : own_D b'26 35 (.invokevirtual 32) 3 38 := by decide +kernel
theorem d26_38 : own_D b'26 38 (.ldc 35) 2 40 := by decide +kernel
theorem d26_40 : own_D b'26 40 (.invokevirtual 28) 3 43 := by decide +kernel
theorem d26_43 : own_D b'26 43 (.ldc 20) 2 45 := by decide +kernel
theorem d26_45 : own_D b'26 45 (.invokevirtual 32) 3 48 := by decide +kernel
theorem d26_48 : own_D b'26 48 (.invokevirtual 37) 3 51 := by decide +kernel
theorem d26_51 : own_D b'26 51 (.invokespecial 41) 3 54 := by decide +kernel
theorem d26_54 : own_D b'26 54 .athrow 1 55 := by decide +kernel
theorem d26_55 : own_D b'26 55 (.iload_n 0) 1 56 := by decide +kernel
theorem d26_56 : own_DK b'26 56 1 57 := by decide +kernel
theorem d26_57 : own_D b'26 57 .ishl 1 58 := by decide +kernel
theorem d26_58 : own_D b'26 58 .ireturn 1 59 := by decide +kernel
theorem pn_26 : plainFor (⟨"java/lang/StringUTF16", "newBytesLength", "(I)I"⟩ : MethodName) = true := plainFor_of_name (by first | (simp [plainName, overriddenIn]; done) | decide +kernel)
theorem rm26 (l : Launch) (Z : State) (a0 : Array Value) (hw : own_hw a0 Z) (p1 : Int32) (z : Int32) (h0 : Heap) (n0 : Nat) (Z0 : n0 ≤ h0.size) (h0_ : ¬ p1 < (0 : Int32)) (h1_ : p1 < (1073741823 : Int32)) (hz : p1 <<< ((1 : Int32) &&& 31) = z) :
  own_M l Z [] own_y0 b'26 1 (some .int) ⟨0, 0, 0, 0⟩ #[(.int p1)] h0 (QI z h0 n0) := by
 refine own_start (n0 := n0) hw "java/lang/StringUTF16" (L := #[.val (.int p1)]) pn_26 (fun {p e s m below meth c s₁} q hx W hml hZ hown hnm hlk hrt X0 e0 N0 => ?_)
 refine own_iln X0 q d26_0 rfl (own_zy X0 q d26_1 (((if0 _ _).trans (flt (h0_ : ¬ (p1 < (0 : Int32)))).2.1)) (own_iln X0 q d26_12 rfl (own_stq 15 [(.int (1073741823 : Int32)), (.int p1)] (fun _ k => X0.ldcInt hx hown (mvT hZ (W 120 rfl)) (g := mkF m 13 _ _) rfl (q.d d26_13) _ k) (own_cy X0 q d26_15 ((tlt (h1_ : p1 < (1073741823 : Int32))).1) (own_iln X0 q d26_55 rfl (own_k X0 q d26_56 (own_stp 58 (fun _ k => XS.ishl X0.here hx rfl (q.d d26_57) rfl k) ?_)))))))
 refine own_rI X0 q hrt d26_58 hlk (by decide) ?_
 show QI z h0 n0 _ s₁.heap _
 rw [e0]
 exact ⟨by rw [← hz], N0, rfl⟩
theorem d22_0 : own_DK b'22 0 0 1 := by decide +kernel
theorem d22_1 : own_D b'22 1 (.istore 5) 2 3 := by decide +kernel
theorem d22_3 : own_D b'22 3 (.iload 5) 2 5 := by decide +kernel
theorem d22_5 : own_D b'22 5 (.iload 4) 2 7 := by decide +kernel
theorem d22_7 : own_DJ b'22 7 .ge 44 10 := by decide +kernel
theorem d22_10 : own_D b'22 10 (.aload_n 0) 1 11 := by decide +kernel
theorem d22_11 : own_D b'22 11 (.iload_n 1) 1 12 := by decide +kernel
theorem d22_12 : own_D b'22 12 .caload 1 13 := by decide +kernel
theorem d22_13 : own_D b'22 13 (.istore 6) 2 15 := by decide +kernel
theorem d22_15 : own_D b'22 15 (.iload 6) 2 17 := by decide +kernel
theorem d22_17 : own_DK b'22 17 255 20 := by decide +kernel
theorem d22_20 : own_DJ b'22 20 .le 26 23 := by decide +kernel
theorem d22_23 : own_D b'22 23 (.iload 5) 2 25 := by decide +kernel
theorem d22_25 : own_D b'22 25 .ireturn 1 26 := by decide +kernel
theorem d22_26 : own_D b'22 26 (.aload_n 2) 1 27 := by decide +kernel
theorem d22_27 : own_D b'22 27 (.iload_n 3) 1 28 := by decide +kernel
theorem d22_28 : own_D b'22 28 (.iload 6) 2 30 := by decide +kernel
theorem d22_30 : own_D b'22 30 .i2b 1 31 := by decide +kernel
theorem d22_31 : own_D b'22 31 .bastore 1 32 := by decide +kernel
theorem d22_32 : own_DI b'22 32 1 1 35 := by decide +kernel
theorem d22_35 : own_DI b'22 35 3 1 38 := by decide +kernel
theorem d22_38 : own_DI b'22 38 5 1 41 := by decide +kernel
theorem d22_41 : own_DG b'22 41 3 := by decide +kernel
theorem d22_44 : own_D b'22 44 (.iload 4) 2 46 := by decide +kernel
theorem d22_46 : own_D b'22 46 .ireturn 1 47 := by decide +kernel
theorem pn_22 : plainFor (⟨"java/lang/StringUTF16", "compress", "([CI[BII)I"⟩ : MethodName) = true := plainFor_of_name (by first | (simp [plainName, overriddenIn]; done) | decide +kernel)
theorem rm22_1 (l : Launch) (Z : State) (a0 : Array Value) (hw : own_hw a0 Z) (a1 : Addr) (b : Addr) (k1 k2 : ClassId) (x0 : Int32) (h0 : Heap) (n0 : Nat) (Z0 : n0 ≤ h0.size) (VA : Arv Z h0 a1 k1 .char (1 : Int32) [(.int x0)] v'0) (VB : Arv Z h0 b k2 .byte (1 : Int32) [v'0] v'0) (gb : n0 ≤ b) (nab : a1 ≠ b) :
  own_M l Z [] own_y1 b'22 7 (some .int) ⟨0, 0, 0, 0⟩ #[(.ref a1), v'0, (.ref b), v'0, v'1] h0 (QC1a Z b k2 x0 h0 n0) := by
 refine own_start (n0 := n0) hw "java/lang/StringUTF16" (L := #[.val (.ref a1), .val v'0, .val (.ref b), .val v'0, .val v'1, .unset, .unset]) pn_22 (fun {p e s m below meth c s₁} q hx W hml hZ hown hnm hlk hrt X0 e0 N0 => ?_)
 have kp0 := Keep.refl h0 [b]
 refine own_k X0 q d22_0 (own_is X0 q d22_1 (l' := #[.val (.ref a1), .val v'0, .val (.ref b), .val v'0, .val v'1, .val v'0, .unset]) rfl (own_il X0 q d22_3 rfl (own_il X0 q d22_5 rfl (own_cn X0 q d22_7 ((tlt ((by decide) : (0 : Int32) < (1 : Int32))).2.1) (own_aln X0 q d22_10 rfl rfl (own_iln X0 q d22_11 rfl (own_cld (v := (.int x0)) X0 q hZ e0 VA d22_12 (by decide) rfl (own_is X0 q d22_13 (l' := #[.val (.ref a1), .val v'0, .val (.ref b), .val v'0, .val v'1, .val v'0, .val (.int x0)]) rfl (own_il X0 q d22_15 rfl (own_k X0 q d22_17 ?_))))))))))
 by_cases hc20_4 : (255 : Int32) < x0
 ·refine own_cn X0 q d22_20 ((tlt hc20_4).2.2.2) (own_il X0 q d22_23 rfl ?_)
  refine own_rI X0 q hrt d22_25 hlk (by decide) ?_
  show QC1a Z b k2 x0 h0 n0 _ s₁.heap _
  rw [e0]
  exact ⟨_, rfl, N0, kp0, Or.inr ⟨rfl, hc20_4⟩⟩
 ·refine own_cy X0 q d22_20 ((flt hc20_4).2.2.2) (own_aln X0 q d22_26 rfl rfl (own_iln X0 q d22_27 rfl (own_il X0 q d22_28 rfl (own_stp 31 (fun _ k => XS.i2b X0.here hx rfl (q.d d22_30) rfl k) ?_))))
  refine own_bst X0 q hZ e0 VB d22_31 (by decide) (Nat.le_of_ble_eq_true rfl) N0 gb fun T5 h5 X5 e5 W5 V5 N5 => ?_
  have zs6 := Nat.le_trans Z0 (Keep.of_wr W5).1
  have kp6 := kp0.wr W5 (own_i0)
  refine own_iik X5 q d22_32 rfl (show ((0 : Int32) + (1 : Int32)) = (1 : Int32) by decide) (l' := #[.val (.ref a1), .val v'1, .val (.ref b), .val v'0, .val v'1, .val v'0, .val (.int x0)]) rfl (own_iik X5 q d22_35 rfl (show ((0 : Int32) + (1 : Int32)) = (1 : Int32) by decide) (l' := #[.val (.ref a1), .val v'1, .val (.ref b), .val v'1, .val v'1, .val v'0, .val (.int x0)]) rfl (own_iik X5 q d22_38 rfl (show ((0 : Int32) + (1 : Int32)) = (1 : Int32) by decide) (l' := #[.val (.ref a1), .val v'1, .val (.ref b), .val v'1, .val v'1, .val v'1, .val (.int x0)]) rfl (own_gt X5 q d22_41 (own_il X5 q d22_3 rfl (own_il X5 q d22_5 rfl (own_cy X5 q d22_7 ((flt (Int32.lt_irrefl : ¬ ((1 : Int32) < (1 : Int32)))).2.1) (own_il X5 q d22_44 rfl ?_)))))))
  refine own_rI X5 q hrt d22_46 hlk (by decide) ?_
  show QC1a Z b k2 x0 h0 n0 _ T5.heap _
  rw [e5]
  exact ⟨_, rfl, N5, kp6, Or.inl ⟨rfl, hc20_4, V5⟩⟩
theorem d27_0 : own_D b'27 0 (.getstatic 44) 3 3 := by decide +kernel
theorem d27_3 : own_DZ b'27 3 .ne 28 6 := by decide +kernel
theorem d27_6 : own_D b'27 6 (.iload_n 1) 1 7 := by decide +kernel
theorem d27_7 : own_DZ b'27 7 .lt 18 10 := by decide +kernel
theorem d27_10 : own_D b'27 10 (.iload_n 1) 1 11 := by decide +kernel
theorem d27_11 : own_D b'27 11 (.aload_n 0) 1 12 := by decide +kernel
theorem d27_12 : own_D b'27 12 (.invokestatic 48) 3 15 := by decide +kernel
theorem d27_15 : own_DJ b'27 15 .lt 28 18 := by decide +kernel
theorem d27_18 : own_D b'27 18 (.new 52) 3 21 := by decide +kernel
theorem d27_21 : own_D b'27 21 .dup 1 22 := by decide +kernel
theorem d27_22 : own_D b'27 22 (.ldc 54) 2 24 := by decide +kernel
theorem d27_24 : own_D b'27 24 (.invokespecial 56) 3 27 := by decide +kernel
theorem d27_27 : own_D b'27 27 .athrow 1 28 := by decide +kernel
theorem d27_28 : own_D b'27 28 (.iload_n 1) 1 29 := by decide +kernel
theorem d27_29 : own_DK b'27 29 1 30 := by decide +kernel
theorem d27_30 : own_D b'27 30 .ishl 1 31 := by decide +kernel
theorem d27_31 : own_D b'27 31 (.istore_n 1) 1 32 := by decide +kernel
theorem d27_32 : own_D b'27 32 (.aload_n 0) 1 33 := by decide +kernel
theorem d27_33 : own_D b'27 33 (.iload_n 1) 1 34 := by decide +kernel
theorem d27_34 : own_DI b'27 34 1 1 37 := by decide +kernel
theorem d27_37 : own_D b'27 37 (.iload_n 2) 1 38 := by decide +kernel
theorem d27_38 : own_D b'27 38 (.getstatic 59) 3 41 := by decide +kernel
theorem d27_41 : own_D b'27 41 .ishr 1 42 := by decide +kernel
theorem d27_42 : own_D b'27 42 .i2b 1 43 := by decide +kernel
theorem d27_43 : own_D b'27 43 .bastore 1 44 := by decide +kernel
theorem d27_44 : own_D b'27 44 (.aload_n 0) 1 45 := by decide +kernel
theorem d27_45 : own_D b'27 45 (.iload_n 1) 1 46 := by decide +kernel
theorem d27_46 : own_D b'27 46 (.iload_n 2) 1 47 := by decide +kernel
theorem d27_47 : own_D b'27 47 (.getstatic 63) 3 50 := by decide +kernel
theorem d27_50 : own_D b'27 50 .ishr 1 51 := by decide +kernel
theorem d27_51 : own_D b'27 51 .i2b 1 52 := by decide +kernel
theorem d27_52 : own_D b'27 52 .bastore 1 53 := by decide +kernel
theorem d27_53 : own_D b'27 53 .return_ 1 54 := by decide +kernel
theorem pn_27 : plainFor (⟨"java/lang/StringUTF16", "putChar", "([BII)V"⟩ : MethodName) = true := plainFor_of_name (by first | (simp [plainName, overriddenIn]; done) | decide +kernel)
theorem rm27 (l : Launch) (Z : State) (a0 : Array Value) (hw : own_hw a0 Z) (a1 : Addr) (p2 : Int32) (p3 : Int32) (k1 : ClassId) (vs : List Value) (n i : Nat) (h0 : Heap) (n0 : Nat) (Z0 : n0 ≤ h0.size) (O0 : Old Z n0 h0) (SU_ : own_SU Z) (VA : Arv Z h0 a1 k1 .byte (Int32.ofNat n) vs v'0) (hp : p2 = Int32.ofNat i) (hn : n ≤ 1000) (hi : 2 * i + 1 < n) (hv : vs.length = n) (g1 : n0 ≤ a1) :
  own_M l Z [] own_y2 b'27 3 none ⟨0, 0, 0, 0⟩ #[(.ref a1), (.int p2), (.int p3)] h0 (QPC Z a1 k1 p3 vs n i h0 n0) := by
 obtain ⟨SAD, SHI, SLO⟩ := SU_
 refine own_start (n0 := n0) hw "java/lang/StringUTF16" (L := #[.val (.ref a1), .val (.int p2), .val (.int p3)]) pn_27 (fun {p e s m below meth c s₁} q hx W hml hZ hown hnm hlk hrt X0 e0 N0 => ?_)
 have kp0 := Keep.refl h0 [a1]
 refine own_gS X0 q hZ e0 hown (W 124 rfl) (SAD.ext O0.2) d27_0 fun T18 X18 e18 => ?_
 refine own_zy X18 q d27_3 (((if0 _ _).trans (feq ((by decide) : ¬ ((1 : Int32) = (0 : Int32)))).2)) (own_iln X18 q d27_28 rfl (own_k X18 q d27_29 (own_stp 31 (fun _ k => XS.ishl X18.here hx rfl (q.d d27_30) rfl k) (own_isn X18 q d27_31 (l' := #[.val (.ref a1), .val (.int (p2 <<< ((1 : Int32) &&& 31))), .val (.int p3)]) rfl (own_aln X18 q d27_32 rfl rfl (own_iln X18 q d27_33 rfl (own_ii X18 q d27_34 rfl (l' := #[.val (.ref a1), .val (.int ((p2 <<< ((1 : Int32) &&& 31)) + (1 : Int32))), .val (.int p3)]) rfl (own_iln X18 q d27_37 rfl ?_))))))))
 refine own_gS X18 q hZ e18 hown (W 125 rfl) (SHI.ext O0.2) d27_38 fun T19 X19 e19 => ?_
 refine own_stp 42 (fun _ k => XS.ishr X19.here hx rfl (q.d d27_41) rfl k) (own_stp 43 (fun _ k => XS.i2b X19.here hx rfl (q.d d27_42) rfl k) ?_)
 refine own_let ?_; intro g20_
 obtain ⟨cl21, Ar21, q21, S21, M21, H21, G21⟩ := id VA
 obtain ⟨T22, h22, X22, e22, W22, st22⟩ := stB X19 hx hZ e19 Ar21 (j := (p2 <<< ((1 : Int32) &&& 31))) (inb_of S21 (own_pi0 hp hn hi)) (g := g20_) rfl rfl (q.d d27_43)
 have zs23 := Nat.le_trans Z0 (Keep.of_wr W22).1
 have od23 := O0.wr W22 g1
 have kp23 := kp0.wr W22 (own_i0)
 have V22 := Arv.set Ar21 q21 S21 M21 H21 G21 (fits_nar_byte _) W22 (2 * i) (own_pj0 hp hn hi) (by rw [hv]; omega)
 have N22 := Fr.snoc X22 N0 g1
 refine own_stp 44 st22 (own_aln X22 q d27_44 rfl rfl (own_iln X22 q d27_45 rfl (own_iln X22 q d27_46 rfl ?_)))
 refine own_gS X22 q hZ e22 hown (W 126 rfl) (SLO.ext od23.2) d27_47 fun T24 X24 e24 => ?_
 refine own_stp 51 (fun _ k => XS.ishr X24.here hx rfl (q.d d27_50) rfl k) (own_stp 52 (fun _ k => XS.i2b X24.here hx rfl (q.d d27_51) rfl k) ?_)
 refine own_let ?_; intro g25_
 obtain ⟨cl26, Ar26, q26, S26, M26, H26, G26⟩ := id V22
 obtain ⟨T27, h27, X27, e27, W27, st27⟩ := stB X24 hx hZ e24 Ar26 (j := ((p2 <<< ((1 : Int32) &&& 31)) + (1 : Int32))) (inb_of S26 (own_pi1 hp hn hi)) (g := g25_) rfl rfl (q.d d27_52)
 have zs28 := Nat.le_trans zs23 (Keep.of_wr W27).1
 have od28 := od23.wr W27 g1
 have kp28 := kp23.wr W27 (own_i0)
 have V27 := Arv.set Ar26 q26 S26 M26 H26 G26 (fits_nar_byte _) W27 (2 * i + 1) (own_pj1 hp hn hi) (by rw [List.length_set]; rw [hv]; omega)
 have N27 := Fr.snoc X27 N22 g1
 refine own_stp 53 st27 ?_
 refine own_rV X27 q hrt d27_53 hlk (by decide) ?_
 show QPC Z a1 k1 p3 vs n i h0 n0 _ T27.heap _
 rw [e27]
 exact ⟨rfl, N27, kp28, V27⟩
theorem d28_0 : own_D b'28 0 (.getstatic 44) 3 3 := by decide +kernel
theorem d28_3 : own_DZ b'28 3 .ne 28 6 := by decide +kernel
theorem d28_6 : own_D b'28 6 (.iload_n 1) 1 7 := by decide +kernel
theorem d28_7 : own_DZ b'28 7 .lt 18 10 := by decide +kernel
theorem d28_10 : own_D b'28 10 (.iload_n 1) 1 11 := by decide +kernel
theorem d28_11 : own_D b'28 11 (.aload_n 0) 1 12 := by decide +kernel
theorem d28_12 : own_D b'28 12 (.invokestatic 48) 3 15 := by decide +kernel
theorem d28_15 : own_DJ b'28 15 .lt 28 18 := by decide +kernel
theorem d28_18 : own_D b'28 18 (.new 52) 3 21 := by decide +kernel
theorem d28_21 : own_D b'28 21 .dup 1 22 := by decide +kernel
theorem d28_22 : own_D b'28 22 (.ldc 54) 2 24 := by decide +kernel
theorem d28_24 : own_D b'28 24 (.invokespecial 56) 3 27 := by decide +kernel
theorem d28_27 : own_D b'28 27 .athrow 1 28 := by decide +kernel
theorem d28_28 : own_D b'28 28 (.iload_n 1) 1 29 := by decide +kernel
theorem d28_29 : own_DK b'28 29 1 30 := by decide +kernel
theorem d28_30 : own_D b'28 30 .ishl 1 31 := by decide +kernel
theorem d28_31 : own_D b'28 31 (.istore_n 1) 1 32 := by decide +kernel
theorem d28_32 : own_D b'28 32 (.aload_n 0) 1 33 := by decide +kernel
theorem d28_33 : own_D b'28 33 (.iload_n 1) 1 34 := by decide +kernel
theorem d28_34 : own_DI b'28 34 1 1 37 := by decide +kernel
theorem d28_37 : own_D b'28 37 .baload 1 38 := by decide +kernel
theorem d28_38 : own_DK b'28 38 255 41 := by decide +kernel
theorem d28_41 : own_D b'28 41 .iand 1 42 := by decide +kernel
theorem d28_42 : own_D b'28 42 (.getstatic 59) 3 45 := by decide +kernel
theorem d28_45 : own_D b'28 45 .ishl 1 46 := by decide +kernel
theorem d28_46 : own_D b'28 46 (.aload_n 0) 1 47 := by decide +kernel
theorem d28_47 : own_D b'28 47 (.iload_n 1) 1 48 := by decide +kernel
theorem d28_48 : own_D b'28 48 .baload 1 49 := by decide +kernel
theorem d28_49 : own_DK b'28 49 255 52 := by decide +kernel
theorem d28_52 : own_D b'28 52 .iand 1 53 := by decide +kernel
theorem d28_53 : own_D b'28 53 (.getstatic 63) 3 56 := by decide +kernel
theorem d28_56 : own_D b'28 56 .ishl 1 57 := by decide +kernel
theorem d28_57 : own_D b'28 57 .ior 1 58 := by decide +kernel
theorem d28_58 : own_D b'28 58 .i2c 1 59 := by decide +kernel
theorem d28_59 : own_D b'28 59 .ireturn 1 60 := by decide +kernel
theorem pn_28 : plainFor (⟨"java/lang/StringUTF16", "getChar", "([BI)C"⟩ : MethodName) = true := plainFor_of_name (by first | (simp [plainName, overriddenIn]; done) | decide +kernel)
theorem rm28 (l : Launch) (Z : State) (a0 : Array Value) (hw : own_hw a0 Z) (a1 : Addr) (p2 : Int32) (k1 : ClassId) (vs : List Value) (n i : Nat) (x : Int32) (h0 : Heap) (n0 : Nat) (Z0 : n0 ≤ h0.size) (O0 : Old Z n0 h0) (SU_ : own_SU Z) (VA : Arv Z h0 a1 k1 .byte (Int32.ofNat n) vs v'0) (hp : p2 = Int32.ofNat i) (hn : n ≤ 1000) (hi : 2 * i + 1 < n) (hx0 : vs.getD (2 * i) v'0 = (.int (nar .byte ((x >>> ((0 : Int32) &&& 31)).toInt8.toInt32)))) (hx1 : vs.getD (2 * i + 1) v'0 = (.int (nar .byte ((x >>> ((8 : Int32) &&& 31)).toInt8.toInt32)))) :
  own_M l Z [] own_y3 b'28 2 (some .char) ⟨0, 0, 0, 0⟩ #[(.ref a1), (.int p2)] h0 (QI (own_gc x) h0 n0) := by
 obtain ⟨SAD, SHI, SLO⟩ := SU_
 refine own_start (n0 := n0) hw "java/lang/StringUTF16" (L := #[.val (.ref a1), .val (.int p2)]) pn_28 (fun {p e s m below meth c s₁} q hx W hml hZ hown hnm hlk hrt X0 e0 N0 => ?_)
 refine own_gS X0 q hZ e0 hown (W 124 rfl) (SAD.ext O0.2) d28_0 fun T34 X34 e34 => ?_
 refine own_zy X34 q d28_3 (((if0 _ _).trans (feq ((by decide) : ¬ ((1 : Int32) = (0 : Int32)))).2)) (own_iln X34 q d28_28 rfl (own_k X34 q d28_29 (own_stp 31 (fun _ k => XS.ishl X34.here hx rfl (q.d d28_30) rfl k) (own_isn X34 q d28_31 (l' := #[.val (.ref a1), .val (.int (p2 <<< ((1 : Int32) &&& 31)))]) rfl (own_aln X34 q d28_32 rfl rfl (own_iln X34 q d28_33 rfl (own_ii X34 q d28_34 rfl (l' := #[.val (.ref a1), .val (.int ((p2 <<< ((1 : Int32) &&& 31)) + (1 : Int32)))]) rfl ?_)))))))
 obtain ⟨cl35, Ar35, q35, S35, M35, H35, G35⟩ := id VA
 refine own_stp 38 (fun _ k => X34.baloadBytes hx (j := (p2 <<< ((1 : Int32) &&& 31))) (v := (.int (nar .byte ((x >>> ((0 : Int32) &&& 31)).toInt8.toInt32)))) (by rw [e34]; exact Ar35.1) (State.isArrayOf_alike hZ.alike Ar35.2.1) Ar35.2.2 (inb_of S35 (own_pi0 hp hn hi)) (Has.at H35 (inb_of S35 (own_pi0 hp hn hi)) (by rw [own_pj0 hp hn hi]; exact hx0)) (g := mkF m 37 _ _) rfl rfl (q.d d28_37) _ k) (own_k X34 q d28_38 (own_stp 42 (fun _ k => XS.iand X34.here hx rfl (q.d d28_41) rfl k) ?_))
 refine own_gS X34 q hZ e34 hown (W 125 rfl) (SHI.ext O0.2) d28_42 fun T36 X36 e36 => ?_
 refine own_stp 46 (fun _ k => XS.ishl X36.here hx rfl (q.d d28_45) rfl k) (own_aln X36 q d28_46 rfl rfl (own_iln X36 q d28_47 rfl ?_))
 obtain ⟨cl37, Ar37, q37, S37, M37, H37, G37⟩ := id VA
 refine own_stp 49 (fun _ k => X36.baloadBytes hx (j := ((p2 <<< ((1 : Int32) &&& 31)) + (1 : Int32))) (v := (.int (nar .byte ((x >>> ((8 : Int32) &&& 31)).toInt8.toInt32)))) (by rw [e36]; exact Ar37.1) (State.isArrayOf_alike hZ.alike Ar37.2.1) Ar37.2.2 (inb_of S37 (own_pi1 hp hn hi)) (Has.at H37 (inb_of S37 (own_pi1 hp hn hi)) (by rw [own_pj1 hp hn hi]; exact hx1)) (g := mkF m 48 _ _) rfl rfl (q.d d28_48) _ k) (own_k X36 q d28_49 (own_stp 53 (fun _ k => XS.iand X36.here hx rfl (q.d d28_52) rfl k) ?_))
 refine own_gS X36 q hZ e36 hown (W 126 rfl) (SLO.ext O0.2) d28_53 fun T38 X38 e38 => ?_
 refine own_stp 57 (fun _ k => XS.ishl X38.here hx rfl (q.d d28_56) rfl k) (own_stp 58 (fun _ k => XS.ior X38.here hx rfl (q.d d28_57) rfl k) (own_stp 59 (fun _ k => XS.i2c X38.here hx rfl (q.d d28_58) rfl k) ?_))
 refine own_rN X38 q hrt (by simp) d28_59 hlk (by decide) ?_
 show QI (own_gc x) h0 n0 _ T38.heap _
 rw [e38]
 exact ⟨rfl, N0, rfl⟩
theorem d25_0 : own_D b'25 0 (.iload_n 0) 1 1 := by decide +kernel
theorem d25_1 : own_D b'25 1 (.invokestatic 11) 3 4 := by decide +kernel
theorem d25_4 : own_D b'25 4 (.newarray .byte) 2 6 := by decide +kernel
theorem d25_6 : own_D b'25 6 .areturn 1 7 := by decide +kernel
theorem pn_25 : plainFor (⟨"java/lang/StringUTF16", "newBytesFor", "(I)[B"⟩ : MethodName) = true := plainFor_of_name (by first | (simp [plainName, overriddenIn]; done) | decide +kernel)
theorem rm25_1 (l : Launch) (Z : State) (a0 : Array Value) (hw : own_hw a0 Z)   (h0 : Heap) (n0 : Nat) (Z0 : n0 ≤ h0.size) :
  own_M l Z [] own_y4 b'25 1 (some (.array .byte)) ⟨1, 1, 2, 12⟩ #[v'1] h0 (QNB1 Z h0 n0) := by
 refine own_start (n0 := n0) hw "java/lang/StringUTF16" (L := #[.val v'1]) pn_25 (fun {p e s m below meth c s₁} q hx W hml hZ hown hnm hlk hrt X0 e0 N0 => ?_)
 have kp0 := Keep.refl h0 []
 refine own_iln X0 q d25_0 rfl ?_
 refine own_cS X0 q hZ e0 hown hml (W 117 rfl) (W 118 rfl) (W 103 rfl) (W 119 rfl) (rm26 l Z a0 hw (1 : Int32) (2 : Int32) h0 n0 Z0 (by decide) (by decide) (by decide)) d25_1 [v'1] [] own_pd0 0 (by decide) (fun v43 T43 L43 X43 hQ43 => ?_)
 obtain ⟨rfl, N43q, e43⟩ := hQ43
 have N43 := Fr.app N0 N43q
 refine own_nv ?_
 refine own_let ?_; intro g44_
 obtain ⟨T45, h45, k45, X45, e45, E45, A45, st45⟩ := newP X43 hx hZ (W 11 rfl) e43 (g := g44_) rfl (q.d d25_4) rfl (by decide) (cap := 2) (by decide) (by decide) (by decide) (by decide)
 obtain ⟨b45, g45⟩ : ∃ z, z = h0.size := ⟨_, rfl⟩
 rw [← g45] at A45 st45
 have V45 : Arv Z h45 b45 k45 .byte (2 : Int32) [v'0, v'0] v'0 := (Arv.new A45 (by decide)).pad (pad_rep [] v'0 2)
 have zs46 := Nat.le_trans Z0 E45.1
 have kp46 := kp0.ext E45
 have g_b45 : n0 ≤ b45 := Nat.le_trans Z0 (Nat.le_of_eq g45.symm)
 have sz_b45 : h0.size ≤ b45 := Nat.le_trans kp0.1 (Nat.le_of_eq g45.symm)
 refine own_stp 6 st45 ?_
 refine own_rA X45 q hrt d25_6 hlk (by decide) ?_
 show QNB1 Z h0 n0 _ T45.heap _
 rw [e45]
 exact ⟨_, _, rfl, N43, own_extK kp46, sz_b45, V45⟩
theorem d24_0 : own_D b'24 0 (.iload_n 2) 1 1 := by decide +kernel
theorem d24_1 : own_D b'24 1 (.invokestatic 107) 3 4 := by decide +kernel
theorem d24_4 : own_D b'24 4 (.astore_n 3) 1 5 := by decide +kernel
theorem d24_5 : own_DK b'24 5 0 6 := by decide +kernel
theorem d24_6 : own_D b'24 6 (.istore 4) 2 8 := by decide +kernel
theorem d24_8 : own_D b'24 8 (.iload 4) 2 10 := by decide +kernel
theorem d24_10 : own_D b'24 10 (.iload_n 2) 1 11 := by decide +kernel
theorem d24_11 : own_DJ b'24 11 .ge 32 14 := by decide +kernel
theorem d24_14 : own_D b'24 14 (.aload_n 3) 1 15 := by decide +kernel
theorem d24_15 : own_D b'24 15 (.iload 4) 2 17 := by decide +kernel
theorem d24_17 : own_D b'24 17 (.aload_n 0) 1 18 := by decide +kernel
theorem d24_18 : own_D b'24 18 (.iload_n 1) 1 19 := by decide +kernel
theorem d24_19 : own_D b'24 19 .caload 1 20 := by decide +kernel
theorem d24_20 : own_D b'24 20 (.invokestatic 111) 3 23 := by decide +kernel
theorem d24_23 : own_DI b'24 23 1 1 26 := by decide +kernel
theorem d24_26 : own_DI b'24 26 4 1 29 := by decide +kernel
theorem d24_29 : own_DG b'24 29 8 := by decide +kernel
theorem d24_32 : own_D b'24 32 (.aload_n 3) 1 33 := by decide +kernel
theorem d24_33 : own_D b'24 33 .areturn 1 34 := by decide +kernel
theorem pn_24 : plainFor (⟨"java/lang/StringUTF16", "toBytes", "([CII)[B"⟩ : MethodName) = true := plainFor_of_name (by first | (simp [plainName, overriddenIn]; done) | decide +kernel)
theorem rm24_1 (l : Launch) (Z : State) (a0 : Array Value) (hw : own_hw a0 Z) (a1 : Addr) (k1 : ClassId) (x0 : Int32) (h0 : Heap) (n0 : Nat) (Z0 : n0 ≤ h0.size) (O0 : Old Z n0 h0) (SU_ : own_SU Z) (VA : Arv Z h0 a1 k1 .char (1 : Int32) [(.int x0)] v'0) :
  own_M l Z [] own_y5 b'24 5 (some (.array .byte)) ⟨2, 1, 2, 24⟩ #[(.ref a1), v'0, v'1] h0 (QTB1 Z x0 h0 n0) := by
 obtain ⟨SAD, SHI, SLO⟩ := SU_
 refine own_start (n0 := n0) hw "java/lang/StringUTF16" (L := #[.val (.ref a1), .val v'0, .val v'1, .unset, .unset]) pn_24 (fun {p e s m below meth c s₁} q hx W hml hZ hown hnm hlk hrt X0 e0 N0 => ?_)
 have kp0 := Keep.refl h0 []
 refine own_iln X0 q d24_0 rfl ?_
 refine own_cSh X0 q hZ e0 hown hml (W 114 rfl) (W 115 rfl) (W 103 rfl) (W 116 rfl) (rm25_1 l Z a0 hw h0 n0 Z0) d24_1 [v'1] [] own_pd1 0 (by decide) (fun v51 T51 L51 h51 e51' X51 hQ51 => ?_)
 obtain ⟨b51, k51, rfl, N51q, E51, lo51, V51⟩ := hQ51
 have N51 := Fr.app N0 N51q
 have zs52 := Nat.le_trans Z0 E51.1
 have od52 := O0.ext E51
 have kp52 := kp0.ext E51
 have g_b51 : n0 ≤ b51 := Nat.le_trans Z0 lo51
 have sz_b51 : h0.size ≤ b51 := Nat.le_trans kp0.1 lo51
 refine own_nv (own_asn X51 q d24_4 rfl (l' := #[.val (.ref a1), .val v'0, .val v'1, .val (.ref b51), .unset]) rfl (own_k X51 q d24_5 (own_is X51 q d24_6 (l' := #[.val (.ref a1), .val v'0, .val v'1, .val (.ref b51), .val v'0]) rfl (own_il X51 q d24_8 rfl (own_iln X51 q d24_10 rfl (own_cn X51 q d24_11 ((tlt ((by decide) : (0 : Int32) < (1 : Int32))).2.1) (own_aln X51 q d24_14 rfl rfl (own_il X51 q d24_15 rfl (own_aln X51 q d24_17 rfl rfl (own_iln X51 q d24_18 rfl (own_cld (v := (.int x0)) X51 q hZ e51' (VA.ext E51) d24_19 (by decide) rfl ?_)))))))))))
 refine own_cSh X51 q hZ e51' hown hml (W 121 rfl) (W 122 rfl) (W 103 rfl) (W 123 rfl) (rm27 l Z a0 hw b51 (0 : Int32) x0 k51 _ 2 0 h51 n0 zs52 od52 ⟨SAD, SHI, SLO⟩ V51 rfl (by decide) (by decide) rfl g_b51) d24_20 [(.ref b51), v'0, (.int x0)] [] own_pd2 0 (by decide) (fun v53 T53 L53 h53 e53' X53 hQ53 => ?_)
 obtain ⟨rfl, N53q, K53, V53⟩ := hQ53
 have N53 := Fr.app N51 N53q
 have zs54 := Nat.le_trans zs52 K53.1
 have od54 := od52.keep K53 (allS g_b51 all0)
 have kp54 := kp52.trans K53 (allS (Or.inr sz_b51) all0)
 refine own_nn (own_iik X53 q d24_23 rfl (show ((0 : Int32) + (1 : Int32)) = (1 : Int32) by decide) (l' := #[.val (.ref a1), .val v'1, .val v'1, .val (.ref b51), .val v'0]) rfl (own_iik X53 q d24_26 rfl (show ((0 : Int32) + (1 : Int32)) = (1 : Int32) by decide) (l' := #[.val (.ref a1), .val v'1, .val v'1, .val (.ref b51), .val v'1]) rfl (own_gt X53 q d24_29 (own_il X53 q d24_8 rfl (own_iln X53 q d24_10 rfl (own_cy X53 q d24_11 ((flt (Int32.lt_irrefl : ¬ ((1 : Int32) < (1 : Int32)))).2.1) (own_aln X53 q d24_32 rfl rfl ?_)))))))
 refine own_rA X53 q hrt d24_33 hlk (by decide) ?_
 show QTB1 Z x0 h0 n0 _ T53.heap _
 rw [e53']
 exact ⟨_, _, rfl, N53, own_extK kp54, sz_b51, V53⟩
theorem d21_0 : own_D b'21 0 (.iload_n 2) 1 1 := by decide +kernel
theorem d21_1 : own_D b'21 1 (.newarray .byte) 2 3 := by decide +kernel
theorem d21_3 : own_D b'21 3 (.astore_n 3) 1 4 := by decide +kernel
theorem d21_4 : own_D b'21 4 (.aload_n 0) 1 5 := by decide +kernel
theorem d21_5 : own_D b'21 5 (.iload_n 1) 1 6 := by decide +kernel
theorem d21_6 : own_D b'21 6 (.aload_n 3) 1 7 := by decide +kernel
theorem d21_7 : own_DK b'21 7 0 8 := by decide +kernel
theorem d21_8 : own_D b'21 8 (.iload_n 2) 1 9 := by decide +kernel
theorem d21_9 : own_D b'21 9 (.invokestatic 115) 3 12 := by decide +kernel
theorem d21_12 : own_D b'21 12 (.istore 4) 2 14 := by decide +kernel
theorem d21_14 : own_D b'21 14 (.iload 4) 2 16 := by decide +kernel
theorem d21_16 : own_D b'21 16 (.iload_n 2) 1 17 := by decide +kernel
theorem d21_17 : own_DJ b'21 17 .eq 57 20 := by decide +kernel
theorem d21_20 : own_D b'21 20 (.aload_n 0) 1 21 := by decide +kernel
theorem d21_21 : own_D b'21 21 (.iload_n 1) 1 22 := by decide +kernel
theorem d21_22 : own_D b'21 22 (.iload_n 2) 1 23 := by decide +kernel
theorem d21_23 : own_D b'21 23 (.invokestatic 119) 3 26 := by decide +kernel
theorem d21_26 : own_D b'21 26 (.astore 5) 2 28 := by decide +kernel
theorem d21_28 : own_D b'21 28 (.aload 5) 2 30 := by decide +kernel
theorem d21_30 : own_D b'21 30 (.iload 4) 2 32 := by decide +kernel
theorem d21_32 : own_D b'21 32 (.invokestatic 71) 3 35 := by decide +kernel
theorem d21_35 : own_DK b'21 35 255 38 := by decide +kernel
theorem d21_38 : own_DJ b'21 38 .gt 54 41 := by decide +kernel
theorem d21_41 : own_D b'21 41 (.aload 5) 2 43 := by decide +kernel
theorem d21_43 : own_DK b'21 43 0 44 := by decide +kernel
theorem d21_44 : own_D b'21 44 (.aload_n 3) 1 45 := by decide +kernel
theorem d21_45 : own_DK b'21 45 0 46 := by decide +kernel
theorem d21_46 : own_D b'21 46 (.iload_n 2) 1 47 := by decide +kernel
theorem d21_47 : own_D b'21 47 (.invokestatic 123) 3 50 := by decide +kernel
theorem d21_50 : own_D b'21 50 (.iload_n 2) 1 51 := by decide +kernel
theorem d21_51 : own_DJ b'21 51 .eq 57 54 := by decide +kernel
theorem d21_54 : own_D b'21 54 (.aload 5) 2 56 := by decide +kernel
theorem d21_56 : own_D b'21 56 .areturn 1 57 := by decide +kernel
theorem d21_57 : own_D b'21 57 (.aload_n 3) 1 58 := by decide +kernel
theorem d21_58 : own_D b'21 58 .areturn 1 59 := by decide +kernel
theorem pn_21 : plainFor (⟨"java/lang/StringUTF16", "compress", "([CII)[B"⟩ : MethodName) = true := plainFor_of_name (by first | (simp [plainName, overriddenIn]; done) | decide +kernel)
theorem rm21_1 (l : Launch) (Z : State) (a0 : Array Value) (hw : own_hw a0 Z) (a1 : Addr) (k1 : ClassId) (x0 : Int32) (h0 : Heap) (n0 : Nat) (Z0 : n0 ≤ h0.size) (O0 : Old Z n0 h0) (SU_ : own_SU Z) (VA : Arv Z h0 a1 k1 .char (1 : Int32) [(.int x0)] v'0) (hd0 : own_c16 x0) :
  own_M l Z [] own_y6 b'21 6 (some (.array .byte)) ⟨3, 2, 3, 40⟩ #[(.ref a1), v'0, v'1] h0 (QC1b Z x0 h0 n0) := by
 obtain ⟨SAD, SHI, SLO⟩ := SU_
 refine own_start (n0 := n0) hw "java/lang/StringUTF16" (L := #[.val (.ref a1), .val v'0, .val v'1, .unset, .unset, .unset]) pn_21 (fun {p e s m below meth c s₁} q hx W hml hZ hown hnm hlk hrt X0 e0 N0 => ?_)
 have hby := q.2
 have kp0 := Keep.refl h0 []
 refine own_iln X0 q d21_0 rfl ?_
 refine own_let ?_; intro g63_
 obtain ⟨T64, h64, k64, X64, e64, E64, A64, st64⟩ := newP X0 hx hZ (W 11 rfl) e0 (g := g63_) rfl (q.d d21_1) rfl (by decide) (cap := 1) (by decide) (by decide) (by decide) (by decide)
 obtain ⟨b64, g64⟩ : ∃ z, z = h0.size := ⟨_, rfl⟩
 rw [← g64] at A64 st64
 have V64 : Arv Z h64 b64 k64 .byte (1 : Int32) [v'0] v'0 := (Arv.new A64 (by decide)).pad (pad_rep [] v'0 1)
 have zs65 := Nat.le_trans Z0 E64.1
 have od65 := O0.ext E64
 have kp65 := kp0.ext E64
 have g_b64 : n0 ≤ b64 := Nat.le_trans Z0 (Nat.le_of_eq g64.symm)
 have sz_b64 : h0.size ≤ b64 := Nat.le_trans kp0.1 (Nat.le_of_eq g64.symm)
 refine own_stp 3 st64 (own_asn X64 q d21_3 rfl (l' := #[.val (.ref a1), .val v'0, .val v'1, .val (.ref b64), .unset, .unset]) rfl (own_aln X64 q d21_4 rfl rfl (own_iln X64 q d21_5 rfl (own_aln X64 q d21_6 rfl rfl (own_k X64 q d21_7 (own_iln X64 q d21_8 rfl ?_))))))
 refine own_cSh X64 q hZ e64 hown hml (W 105 rfl) (W 106 rfl) (W 103 rfl) (W 107 rfl) (rm22_1 l Z a0 hw a1 b64 k1 k64 x0 h64 n0 zs65 (VA.ext E64) V64 g_b64 (own_ne (VA).lt (Nat.le_of_eq g64.symm))) d21_9 [(.ref a1), v'0, (.ref b64), v'0, v'1] [] own_pd3 0 (by decide) (fun v66 T66 L66 h66 e66' X66 hQ66 => ?_)
 obtain ⟨z66, rfl, N66q, K66, D66⟩ := hQ66
 have N66 := Fr.app N0 N66q
 have zs67 := Nat.le_trans zs65 K66.1
 have od67 := od65.keep K66 (allS g_b64 all0)
 have kp67 := kp65.trans K66 (allS (Or.inr sz_b64) all0)
 refine own_nv ?_
 rcases D66 with ⟨hz, hA, hV⟩ | ⟨hz, hB⟩
 ·subst hz
  show own_Fin _ _ _ _ (T66.setTop (mkF m 12 #[.val (.ref a1), .val v'0, .val v'1, .val (.ref b64), .unset, .unset] [v'1]))
  refine own_is X66 q d21_12 (l' := #[.val (.ref a1), .val v'0, .val v'1, .val (.ref b64), .val v'1, .unset]) rfl (own_il X66 q d21_14 rfl (own_iln X66 q d21_16 rfl (own_cy X66 q d21_17 ((teq (rfl : (1 : Int32) = (1 : Int32))).1) (own_aln X66 q d21_57 rfl rfl ?_))))
  refine own_rA X66 q hrt d21_58 hlk (by decide) ?_
  show QC1b Z x0 h0 n0 _ T66.heap _
  rw [e66']
  exact ⟨_, _, rfl, N66, own_extK kp67, sz_b64, Or.inl ⟨hA, hV⟩⟩
 ·subst hz
  show own_Fin _ _ _ _ (T66.setTop (mkF m 12 #[.val (.ref a1), .val v'0, .val v'1, .val (.ref b64), .unset, .unset] [v'0]))
  refine own_is X66 q d21_12 (l' := #[.val (.ref a1), .val v'0, .val v'1, .val (.ref b64), .val v'0, .unset]) rfl (own_il X66 q d21_14 rfl (own_iln X66 q d21_16 rfl (own_cn X66 q d21_17 ((feq ((by decide) : ¬ ((0 : Int32) = (1 : Int32)))).1) (own_aln X66 q d21_20 rfl rfl (own_iln X66 q d21_21 rfl (own_iln X66 q d21_22 rfl ?_))))))
  refine own_cSh X66 q hZ e66' hown hml (W 111 rfl) (W 112 rfl) (W 103 rfl) (W 113 rfl) (rm24_1 l Z a0 hw a1 k1 x0 h66 n0 zs67 od67 ⟨SAD, SHI, SLO⟩ ((VA.ext E64).keep K66 (ninS (own_ne (VA).lt (Nat.le_of_eq g64.symm)) nin0))) d21_23 [(.ref a1), v'0, v'1] [] own_pd4 0 (by decide) (fun v68 T68 L68 h68 e68' X68 hQ68 => ?_)
  obtain ⟨b68, k68, rfl, N68q, E68, lo68, V68⟩ := hQ68
  have N68 := Fr.app N66 N68q
  have zs69 := Nat.le_trans zs67 E68.1
  have od69 := od67.ext E68
  have kp69 := kp67.ext E68
  have g_b68 : n0 ≤ b68 := Nat.le_trans zs67 lo68
  have sz_b68 : h0.size ≤ b68 := Nat.le_trans kp67.1 lo68
  refine own_nv (own_as X68 q d21_26 rfl (l' := #[.val (.ref a1), .val v'0, .val v'1, .val (.ref b64), .val v'0, .val (.ref b68)]) rfl (own_al X68 q d21_28 rfl rfl (own_il X68 q d21_30 rfl ?_)))
  refine own_cS X68 q hZ e68' hown hml (W 127 rfl) (W 128 rfl) (W 103 rfl) (W 129 rfl) (rm28 l Z a0 hw b68 (0 : Int32) k68 _ 2 0 x0 h68 n0 zs69 od69 ⟨SAD, SHI, SLO⟩ V68 rfl (by decide) (by decide) rfl rfl) d21_32 [(.ref b68), v'0] [] own_pd5 0 (by decide) (fun v70 T70 L70 X70 hQ70 => ?_)
  obtain ⟨rfl, N70q, e70⟩ := hQ70
  have N70 := Fr.app N68 N70q
  refine own_nv (own_k X70 q d21_35 (own_cy X70 q d21_38 ((tlt ((by rw [own_gcE hd0]; exact hB) : (255 : Int32) < (own_gc x0))).2.2.1) (own_al X70 q d21_54 rfl rfl ?_)))
  refine own_rA X70 q hrt d21_56 hlk (by decide) ?_
  show QC1b Z x0 h0 n0 _ T70.heap _
  rw [e70]
  exact ⟨_, _, rfl, N70, own_extK kp69, sz_b68, Or.inr ⟨hB, V68⟩⟩
theorem d23_0 : own_D b'23 0 (.iload_n 1) 1 1 := by decide +kernel
theorem d23_1 : own_D b'23 1 (.aload_n 0) 1 2 := by decide +kernel
theorem d23_2 : own_D b'23 2 .arraylength 1 3 := by decide +kernel
theorem d23_3 : own_D b'23 3 .isub 1 4 := by decide +kernel
theorem d23_4 : own_DK b'23 4 31 6 := by decide +kernel
theorem d23_6 : own_D b'23 6 .iushr 1 7 := by decide +kernel
theorem d23_7 : own_D b'23 7 .i2b 1 8 := by decide +kernel
theorem d23_8 : own_D b'23 8 .ireturn 1 9 := by decide +kernel
theorem pn_23 : plainFor (⟨"java/lang/StringUTF16", "coderFromArrayLen", "([BI)B"⟩ : MethodName) = true := plainFor_of_name (by first | (simp [plainName, overriddenIn]; done) | decide +kernel)
theorem rm23_1_1 (l : Launch) (Z : State) (a0 : Array Value) (hw : own_hw a0 Z) (a1 : Addr) (k1 : ClassId) (vs : List Value) (h0 : Heap) (n0 : Nat) (Z0 : n0 ≤ h0.size) (VA : Arv Z h0 a1 k1 .byte (1 : Int32) vs v'0) :
  own_M l Z [] own_y7 b'23 2 (some .byte) ⟨0, 0, 0, 0⟩ #[(.ref a1), v'1] h0 (QI (0 : Int32) h0 n0) := by
 refine own_start (n0 := n0) hw "java/lang/StringUTF16" (L := #[.val (.ref a1), .val v'1]) pn_23 (fun {p e s m below meth c s₁} q hx W hml hZ hown hnm hlk hrt X0 e0 N0 => ?_)
 refine own_iln X0 q d23_0 rfl (own_aln X0 q d23_1 rfl rfl (own_alen (n := (1 : Int32)) X0 q hZ e0 VA d23_2 (own_isubk 0 X0 q d23_3 (by decide) (own_k X0 q d23_4 (own_stp 7 (fun _ k => XS.iushr X0.here hx rfl (q.d d23_6) rfl k) ?_)))))
 rw [show (((0 : Int32).toUInt32 >>> ((31 : Int32) &&& 31).toUInt32).toInt32) = (0 : Int32) from by decide]
 refine own_stp 8 (fun _ k => XS.i2b X0.here hx rfl (q.d d23_7) rfl k) ?_
 rw [show ((0 : Int32).toInt8.toInt32) = (0 : Int32) from by decide]
 refine own_rN X0 q hrt (by simp) d23_8 hlk (by decide) ?_
 show QI (0 : Int32) h0 n0 _ s₁.heap _
 rw [e0]
 exact ⟨rfl, N0, rfl⟩
theorem rm23_1_2 (l : Launch) (Z : State) (a0 : Array Value) (hw : own_hw a0 Z) (a1 : Addr) (k1 : ClassId) (vs : List Value) (h0 : Heap) (n0 : Nat) (Z0 : n0 ≤ h0.size) (VA : Arv Z h0 a1 k1 .byte (2 : Int32) vs v'0) :
  own_M l Z [] own_y7 b'23 2 (some .byte) ⟨0, 0, 0, 0⟩ #[(.ref a1), v'1] h0 (QI (1 : Int32) h0 n0) := by
 refine own_start (n0 := n0) hw "java/lang/StringUTF16" (L := #[.val (.ref a1), .val v'1]) pn_23 (fun {p e s m below meth c s₁} q hx W hml hZ hown hnm hlk hrt X0 e0 N0 => ?_)
 refine own_iln X0 q d23_0 rfl (own_aln X0 q d23_1 rfl rfl (own_alen (n := (2 : Int32)) X0 q hZ e0 VA d23_2 (own_isubk (-1) X0 q d23_3 (by decide) (own_k X0 q d23_4 (own_stp 7 (fun _ k => XS.iushr X0.here hx rfl (q.d d23_6) rfl k) ?_)))))
 rw [show (((-1 : Int32).toUInt32 >>> ((31 : Int32) &&& 31).toUInt32).toInt32) = (1 : Int32) from by decide]
 refine own_stp 8 (fun _ k => XS.i2b X0.here hx rfl (q.d d23_7) rfl k) ?_
 rw [show ((1 : Int32).toInt8.toInt32) = (1 : Int32) from by decide]
 refine own_rN X0 q hrt (by simp) d23_8 hlk (by decide) ?_
 show QI (1 : Int32) h0 n0 _ s₁.heap _
 rw [e0]
 exact ⟨rfl, N0, rfl⟩
theorem d20_0 : own_D b'20 0 (.aload_n 0) 1 1 := by decide +kernel
theorem d20_1 : own_D b'20 1 (.invokespecial 1) 3 4 := by decide +kernel
theorem d20_4 : own_D b'20 4 (.iload_n 3) 1 5 := by decide +kernel
theorem d20_5 : own_DZ b'20 5 .ne 27 8 := by decide +kernel
theorem d20_8 : own_D b'20 8 (.aload_n 0) 1 9 := by decide +kernel
theorem d20_9 : own_D b'20 9 (.ldc 7) 2 11 := by decide +kernel
theorem d20_11 : own_D b'20 11 (.getfield 9) 3 14 := by decide +kernel
theorem d20_14 : own_D b'20 14 (.putfield 9) 3 17 := by decide +kernel
theorem d20_17 : own_D b'20 17 (.aload_n 0) 1 18 := by decide +kernel
theorem d20_18 : own_D b'20 18 (.ldc 7) 2 20 := by decide +kernel
theorem d20_20 : own_D b'20 20 (.getfield 15) 3 23 := by decide +kernel
theorem d20_23 : own_D b'20 23 (.putfield 15) 3 26 := by decide +kernel
theorem d20_26 : own_D b'20 26 .return_ 1 27 := by decide +kernel
theorem d20_27 : own_D b'20 27 (.getstatic 38) 3 30 := by decide +kernel
theorem d20_30 : own_DZ b'20 30 .eq 58 33 := by decide +kernel
theorem d20_33 : own_D b'20 33 (.aload_n 1) 1 34 := by decide +kernel
theorem d20_34 : own_D b'20 34 (.iload_n 2) 1 35 := by decide +kernel
theorem d20_35 : own_D b'20 35 (.iload_n 3) 1 36 := by decide +kernel
theorem d20_36 : own_D b'20 36 (.invokestatic 177) 3 39 := by decide +kernel
theorem d20_39 : own_D b'20 39 (.astore 5) 2 41 := by decide +kernel
theorem d20_41 : own_D b'20 41 (.aload_n 0) 1 42 := by decide +kernel
theorem d20_42 : own_D b'20 42 (.aload 5) 2 44 := by decide +kernel
theorem d20_44 : own_D b'20 44 (.iload_n 3) 1 45 := by decide +kernel
theorem d20_45 : own_D b'20 45 (.invokestatic 47) 3 48 := by decide +kernel
theorem d20_48 : own_D b'20 48 (.putfield 15) 3 51 := by decide +kernel
theorem d20_51 : own_D b'20 51 (.aload_n 0) 1 52 := by decide +kernel
theorem d20_52 : own_D b'20 52 (.aload 5) 2 54 := by decide +kernel
theorem d20_54 : own_D b'20 54 (.putfield 9) 3 57 := by decide +kernel
theorem d20_57 : own_D b'20 57 .return_ 1 58 := by decide +kernel
theorem d20_58 : own_D b'20 58 (.aload_n 0) 1 59 := by decide +kernel
theorem d20_59 : own_DK b'20 59 1 60 := by decide +kernel
theorem d20_60 : own_D b'20 60 (.putfield 15) 3 63 := by decide +kernel
theorem d20_63 : own_D b'20 63 (.aload_n 0) 1 64 := by decide +kernel
theorem d20_64 : own_D b'20 64 (.aload_n 1) 1 65 := by decide +kernel
theorem d20_65 : own_D b'20 65 (.iload_n 2) 1 66 := by decide +kernel
theorem d20_66 : own_D b'20 66 (.iload_n 3) 1 67 := by decide +kernel
theorem d20_67 : own_D b'20 67 (.invokestatic 180) 3 70 := by decide +kernel
theorem d20_70 : own_D b'20 70 (.putfield 9) 3 73 := by decide +kernel
theorem d20_73 : own_D b'20 73 .return_ 1 74 := by decide +kernel
theorem pn_20 : plainFor (⟨"java/lang/String", "<init>", "([CIILjava/lang/Void;)V"⟩ : MethodName) = true := plainFor_of_name (by first | (simp [plainName, overriddenIn]; done) | decide +kernel)
theorem rm20_1 (l : Launch) (Z : State) (a0 : Array Value) (hw : own_hw a0 Z) (a1 : Addr) (a2 : Addr) (k1 : ClassId) (x0 : Int32) (cs0 : Int32) (h0 : Heap) (n0 : Nat) (Z0 : n0 ≤ h0.size) (E1 : Exa Z h0 a1 "java/lang/String") (FV : F'1 Z h0 a1 .null) (FC : F'0 Z h0 a1 v'0) (VA : Arv Z h0 a2 k1 .char (1 : Int32) [(.int x0)] v'0) (g1 : n0 ≤ a1) (n12 : a1 ≠ a2) (O0 : Old Z n0 h0) (SC_ : own_SC Z cs0) (SU_ : own_SU Z) (hd0 : own_c16 x0) :
  own_M l Z [] own_y8 b'20 6 none ⟨4, 2, 3, 57⟩ #[(.ref a1), (.ref a2), v'0, v'1, .null] h0 (QI1 Z a1 x0 h0 n0) := by
 obtain ⟨SCS, hcs⟩ := SC_; obtain ⟨SAD, SHI, SLO⟩ := SU_
 refine own_start (n0 := n0) hw "java/lang/String" (L := #[.val (.ref a1), .val (.ref a2), .val v'0, .val v'1, .val .null, .unset]) pn_20 (fun {p e s m below meth c s₁} q hx W hml hZ hown hnm hlk hrt X0 e0 N0 => ?_)
 have hby := q.2
 have kp0 := Keep.refl h0 [a1]
 refine own_aln X0 q d20_0 rfl rfl ?_
 refine own_let ?_; intro g90_
 obtain ⟨T91, X91, e91, st91⟩ := initO X0 hx hZ hown (W 92 rfl) (W 53 rfl) (W 54 rfl) e0 (g := g90_) rfl (by rw [hml]; rfl) rfl (q.d d20_1) (by decide) (W := 0) (by show 2 * 0 + _ ≤ _; exact Nat.le_of_eq rfl) (by decide)
 refine own_stp 4 st91 (own_iln X91 q d20_4 rfl (own_zy X91 q d20_5 (((if0 _ _).trans (feq ((by decide) : ¬ ((1 : Int32) = (0 : Int32)))).2)) ?_))
 refine own_gS X91 q hZ e91 hown (W 41 rfl) (SCS.ext O0.2) d20_27 fun T92 X92 e92 => ?_
 refine own_zn X92 q d20_30 (((if0 _ _).trans (feq hcs).1)) (own_aln X92 q d20_33 rfl rfl (own_iln X92 q d20_34 rfl (own_iln X92 q d20_35 rfl ?_)))
 refine own_cSh X92 q hZ e92 hown hml (W 101 rfl) (W 102 rfl) (W 103 rfl) (W 104 rfl) (rm21_1 l Z a0 hw a2 k1 x0 h0 n0 Z0 O0 ⟨SAD, SHI, SLO⟩ VA hd0) d20_36 [(.ref a2), v'0, v'1] [] own_pd4 0 (by decide) (fun v93 T93 L93 h93 e93' X93 hQ93 => ?_)
 obtain ⟨b93, k93, rfl, N93q, E93, lo93, D93⟩ := hQ93
 have N93 := Fr.app N0 N93q
 have zs94 := Nat.le_trans Z0 E93.1
 have od94 := O0.ext E93
 have kp94 := kp0.ext E93
 have g_b93 : n0 ≤ b93 := Nat.le_trans Z0 lo93
 have sz_b93 : h0.size ≤ b93 := Nat.le_trans kp0.1 lo93
 refine own_nv ?_
 rcases D93 with ⟨hA, hV⟩ | ⟨hA, hV⟩
 ·have hV_ := hV
  show own_Fin _ _ _ _ (T93.setTop (mkF m 39 #[.val (.ref a1), .val (.ref a2), .val v'0, .val v'1, .val .null, .unset] [(.ref b93)]))
  refine own_as X93 q d20_39 rfl (l' := #[.val (.ref a1), .val (.ref a2), .val v'0, .val v'1, .val .null, .val (.ref b93)]) rfl (own_aln X93 q d20_41 rfl rfl (own_al X93 q d20_42 rfl rfl (own_iln X93 q d20_44 rfl ?_)))
  refine own_cS X93 q hZ e93' hown hml (W 108 rfl) (W 109 rfl) (W 103 rfl) (W 110 rfl) (rm23_1_1 l Z a0 hw b93 k93 _ h93 n0 zs94 hV) d20_45 [(.ref b93), v'1] [(.ref a1)] own_pd6 1 (by decide) (fun v95 T95 L95 X95 hQ95 => ?_)
  obtain ⟨rfl, N95q, e95⟩ := hQ95
  have N95 := Fr.app N93 N95q
  refine own_nv ?_
  refine own_let ?_; intro g96_
  obtain ⟨T97, h97, X97, e97, W97, st97⟩ := putFN X95 hx hZ hown (W 42 rfl) Via.refl e95 (FC.ext E93) (E1.ext E93) (Or.inr ⟨(W 13 rfl), rfl, hnm⟩) (W 10 rfl) (ty := .byte) (v' := v'0) (by decide) rfl rfl (g := g96_) rfl rfl (q.d d20_48)
  have zs98 := Nat.le_trans zs94 (Keep.of_wr W97).1
  have od98 := od94.wr W97 g1
  have kp98 := kp94.wr W97 (own_i0)
  have Fw97 := ((FC.ext E93)).same W97
  have N97 := Fr.snoc X97 N95 g1
  refine own_stp 51 st97 (own_aln X97 q d20_51 rfl rfl (own_al X97 q d20_52 rfl rfl ?_))
  refine own_let ?_; intro g99_
  obtain ⟨T100, h100, X100, e100, W100, st100⟩ := putF X97 hx hZ hown (host := "") (Or.inl (W 35 rfl)) Via.refl e97 ((FV.ext E93).other W97 (Or.inr (slot_ne (Or.inr (W 12 rfl)) (Or.inr (W 13 rfl)) (by decide) (t := (.array .byte)) (t' := .byte) (by decide) (by decide)))) ((E1.ext E93).wr W97) (Or.inr ⟨(W 12 rfl), rfl, hnm⟩) (W 10 rfl) (ty := (.array .byte)) (by decide) rfl rfl (g := g99_) rfl rfl (q.d d20_54)
  have zs101 := Nat.le_trans zs98 (Keep.of_wr W100).1
  have od101 := od98.wr W100 g1
  have kp101 := kp98.wr W100 (own_i0)
  have Fw100 := (((FV.ext E93).other W97 (Or.inr (slot_ne (Or.inr (W 12 rfl)) (Or.inr (W 13 rfl)) (by decide) (t := (.array .byte)) (t' := .byte) (by decide) (by decide))))).same W100
  have N100 := Fr.snoc X100 N97 g1
  refine own_stp 57 st100 ?_
  refine own_rV X100 q hrt d20_57 hlk (by decide) ?_
  show QI1 Z a1 x0 h0 n0 _ T100.heap _
  rw [e100]
  exact ⟨_, _, rfl, N100, kp101, sz_b93, Fw100, Or.inl ⟨(Fw97.other W100 (Or.inr (slot_ne (Or.inr (W 13 rfl)) (Or.inr (W 12 rfl)) (by decide) (t := .byte) (t' := (.array .byte)) (by decide) (by decide)))), hA, ((hV.other W97 (Ne.symm (own_ne (E1).lt lo93))).other W100 (Ne.symm (own_ne (E1).lt lo93)))⟩⟩
 ·have hV_ := hV
  show own_Fin _ _ _ _ (T93.setTop (mkF m 39 #[.val (.ref a1), .val (.ref a2), .val v'0, .val v'1, .val .null, .unset] [(.ref b93)]))
  refine own_as X93 q d20_39 rfl (l' := #[.val (.ref a1), .val (.ref a2), .val v'0, .val v'1, .val .null, .val (.ref b93)]) rfl (own_aln X93 q d20_41 rfl rfl (own_al X93 q d20_42 rfl rfl (own_iln X93 q d20_44 rfl ?_)))
  refine own_cS X93 q hZ e93' hown hml (W 108 rfl) (W 109 rfl) (W 103 rfl) (W 110 rfl) (rm23_1_2 l Z a0 hw b93 k93 _ h93 n0 zs94 hV) d20_45 [(.ref b93), v'1] [(.ref a1)] own_pd6 1 (by decide) (fun v102 T102 L102 X102 hQ102 => ?_)
  obtain ⟨rfl, N102q, e102⟩ := hQ102
  have N102 := Fr.app N93 N102q
  refine own_nv ?_
  refine own_let ?_; intro g103_
  obtain ⟨T104, h104, X104, e104, W104, st104⟩ := putFN X102 hx hZ hown (W 42 rfl) Via.refl e102 (FC.ext E93) (E1.ext E93) (Or.inr ⟨(W 13 rfl), rfl, hnm⟩) (W 10 rfl) (ty := .byte) (v' := v'1) (by decide) rfl rfl (g := g103_) rfl rfl (q.d d20_48)
  have zs105 := Nat.le_trans zs94 (Keep.of_wr W104).1
  have od105 := od94.wr W104 g1
  have kp105 := kp94.wr W104 (own_i0)
  have Fw104 := ((FC.ext E93)).same W104
  have N104 := Fr.snoc X104 N102 g1
  refine own_stp 51 st104 (own_aln X104 q d20_51 rfl rfl (own_al X104 q d20_52 rfl rfl ?_))
  refine own_let ?_; intro g106_
  obtain ⟨T107, h107, X107, e107, W107, st107⟩ := putF X104 hx hZ hown (host := "") (Or.inl (W 35 rfl)) Via.refl e104 ((FV.ext E93).other W104 (Or.inr (slot_ne (Or.inr (W 12 rfl)) (Or.inr (W 13 rfl)) (by decide) (t := (.array .byte)) (t' := .byte) (by decide) (by decide)))) ((E1.ext E93).wr W104) (Or.inr ⟨(W 12 rfl), rfl, hnm⟩) (W 10 rfl) (ty := (.array .byte)) (by decide) rfl rfl (g := g106_) rfl rfl (q.d d20_54)
  have zs108 := Nat.le_trans zs105 (Keep.of_wr W107).1
  have od108 := od105.wr W107 g1
  have kp108 := kp105.wr W107 (own_i0)
  have Fw107 := (((FV.ext E93).other W104 (Or.inr (slot_ne (Or.inr (W 12 rfl)) (Or.inr (W 13 rfl)) (by decide) (t := (.array .byte)) (t' := .byte) (by decide) (by decide))))).same W107
  have N107 := Fr.snoc X107 N104 g1
  refine own_stp 57 st107 ?_
  refine own_rV X107 q hrt d20_57 hlk (by decide) ?_
  show QI1 Z a1 x0 h0 n0 _ T107.heap _
  rw [e107]
  exact ⟨_, _, rfl, N107, kp108, sz_b93, Fw107, Or.inr ⟨(Fw104.other W107 (Or.inr (slot_ne (Or.inr (W 13 rfl)) (Or.inr (W 12 rfl)) (by decide) (t := .byte) (t' := (.array .byte)) (by decide) (by decide)))), hA, ((hV.other W104 (Ne.symm (own_ne (E1).lt lo93))).other W107 (Ne.symm (own_ne (E1).lt lo93)))⟩⟩
theorem d19_0 : own_D b'19 0 (.aload_n 0) 1 1 := by decide +kernel
theorem d19_1 : own_D b'19 1 (.aload_n 1) 1 2 := by decide +kernel
theorem d19_2 : own_DK b'19 2 0 3 := by decide +kernel
theorem d19_3 : own_D b'19 3 (.aload_n 1) 1 4 := by decide +kernel
theorem d19_4 : own_D b'19 4 .arraylength 1 5 := by decide +kernel
theorem d19_5 : own_D b'19 5 .aconst_null 1 6 := by decide +kernel
theorem d19_6 : own_D b'19 6 (.invokespecial 27) 3 9 := by decide +kernel
theorem d19_9 : own_D b'19 9 .return_ 1 10 := by decide +kernel
theorem pn_19 : plainFor (⟨"java/lang/String", "<init>", "([C)V"⟩ : MethodName) = true := plainFor_of_name (by first | (simp [plainName, overriddenIn]; done) | decide +kernel)
theorem rm19_1 (l : Launch) (Z : State) (a0 : Array Value) (hw : own_hw a0 Z) (a1 : Addr) (a2 : Addr) (k1 : ClassId) (x0 : Int32) (cs0 : Int32) (h0 : Heap) (n0 : Nat) (Z0 : n0 ≤ h0.size) (E1 : Exa Z h0 a1 "java/lang/String") (FV : F'1 Z h0 a1 .null) (FC : F'0 Z h0 a1 v'0) (VA : Arv Z h0 a2 k1 .char (1 : Int32) [(.int x0)] v'0) (g1 : n0 ≤ a1) (n12 : a1 ≠ a2) (O0 : Old Z n0 h0) (SC_ : own_SC Z cs0) (SU_ : own_SU Z) (hd0 : own_c16 x0) :
  own_M l Z [] own_y9 b'19 2 none ⟨5, 2, 3, 74⟩ #[(.ref a1), (.ref a2)] h0 (QI1 Z a1 x0 h0 n0) := by
 obtain ⟨SCS, hcs⟩ := SC_; obtain ⟨SAD, SHI, SLO⟩ := SU_
 refine own_start (n0 := n0) hw "java/lang/String" (L := #[.val (.ref a1), .val (.ref a2)]) pn_19 (fun {p e s m below meth c s₁} q hx W hml hZ hown hnm hlk hrt X0 e0 N0 => ?_)
 have kp0 := Keep.refl h0 [a1]
 refine own_aln X0 q d19_0 rfl rfl (own_aln X0 q d19_1 rfl rfl (own_k X0 q d19_2 (own_aln X0 q d19_3 rfl rfl (own_alen (n := (1 : Int32)) X0 q hZ e0 VA d19_4 (own_nl X0 q d19_5 ?_)))))
 refine own_cIh (a := a1) X0 q hZ e0 hown hml (W 98 rfl) (W 99 rfl) (W 9 rfl) (W 100 rfl) (rm20_1 l Z a0 hw a1 a2 k1 x0 cs0 h0 n0 Z0 E1 FV FC VA g1 n12 O0 ⟨SCS, hcs⟩ ⟨SAD, SHI, SLO⟩ hd0) d19_6 [(.ref a2), v'0, v'1, .null] [] own_pd7 0 rfl (by decide) (fun v111 T111 L111 h111 e111' X111 hQ111 => ?_)
 obtain ⟨t111, k111, rfl, N111q, K111, lo111, Fv111, D111⟩ := hQ111
 have N111 := Fr.app N0 N111q
 have zs112 := Nat.le_trans Z0 K111.1
 have od112 := O0.keep K111 (allS g1 all0)
 have kp112 := kp0.trans K111 (allS (own_i0) all0)
 have g_t111 : n0 ≤ t111 := Nat.le_trans Z0 lo111
 have sz_t111 : h0.size ≤ t111 := Nat.le_trans kp0.1 lo111
 refine own_nn ?_
 refine own_rV X111 q hrt d19_9 hlk (by decide) ?_
 show QI1 Z a1 x0 h0 n0 _ T111.heap _
 rw [e111']
 exact ⟨_, _, rfl, N111, kp112, sz_t111, Fv111, D111⟩
theorem rm22_2 (l : Launch) (Z : State) (a0 : Array Value) (hw : own_hw a0 Z) (a1 : Addr) (b : Addr) (k1 k2 : ClassId) (x0 x1 : Int32) (h0 : Heap) (n0 : Nat) (Z0 : n0 ≤ h0.size) (VA : Arv Z h0 a1 k1 .char (2 : Int32) [(.int x0), (.int x1)] v'0) (VB : Arv Z h0 b k2 .byte (2 : Int32) [v'0, v'0] v'0) (gb : n0 ≤ b) (nab : a1 ≠ b) :
  own_M l Z [] own_y1 b'22 7 (some .int) ⟨0, 0, 0, 0⟩ #[(.ref a1), v'0, (.ref b), v'0, v'2] h0 (QC2a Z b k2 x0 x1 h0 n0) := by
 refine own_start (n0 := n0) hw "java/lang/StringUTF16" (L := #[.val (.ref a1), .val v'0, .val (.ref b), .val v'0, .val v'2, .unset, .unset]) pn_22 (fun {p e s m below meth c s₁} q hx W hml hZ hown hnm hlk hrt X0 e0 N0 => ?_)
 have kp0 := Keep.refl h0 [b]
 refine own_k X0 q d22_0 (own_is X0 q d22_1 (l' := #[.val (.ref a1), .val v'0, .val (.ref b), .val v'0, .val v'2, .val v'0, .unset]) rfl (own_il X0 q d22_3 rfl (own_il X0 q d22_5 rfl (own_cn X0 q d22_7 ((tlt ((by decide) : (0 : Int32) < (2 : Int32))).2.1) (own_aln X0 q d22_10 rfl rfl (own_iln X0 q d22_11 rfl (own_cld (v := (.int x0)) X0 q hZ e0 VA d22_12 (by decide) rfl (own_is X0 q d22_13 (l' := #[.val (.ref a1), .val v'0, .val (.ref b), .val v'0, .val v'2, .val v'0, .val (.int x0)]) rfl (own_il X0 q d22_15 rfl (own_k X0 q d22_17 ?_))))))))))
 by_cases hc20_119 : (255 : Int32) < x0
 ·refine own_cn X0 q d22_20 ((tlt hc20_119).2.2.2) (own_il X0 q d22_23 rfl ?_)
  refine own_rI X0 q hrt d22_25 hlk (by decide) ?_
  show QC2a Z b k2 x0 x1 h0 n0 _ s₁.heap _
  rw [e0]
  exact ⟨_, rfl, N0, kp0, Or.inr (Or.inl ⟨rfl, hc20_119⟩)⟩
 ·refine own_cy X0 q d22_20 ((flt hc20_119).2.2.2) (own_aln X0 q d22_26 rfl rfl (own_iln X0 q d22_27 rfl (own_il X0 q d22_28 rfl (own_stp 31 (fun _ k => XS.i2b X0.here hx rfl (q.d d22_30) rfl k) ?_))))
  refine own_bst X0 q hZ e0 VB d22_31 (by decide) (Nat.le_of_ble_eq_true rfl) N0 gb fun T120 h120 X120 e120 W120 V120 N120 => ?_
  have zs121 := Nat.le_trans Z0 (Keep.of_wr W120).1
  have kp121 := kp0.wr W120 (own_i0)
  refine own_iik X120 q d22_32 rfl (show ((0 : Int32) + (1 : Int32)) = (1 : Int32) by decide) (l' := #[.val (.ref a1), .val v'1, .val (.ref b), .val v'0, .val v'2, .val v'0, .val (.int x0)]) rfl (own_iik X120 q d22_35 rfl (show ((0 : Int32) + (1 : Int32)) = (1 : Int32) by decide) (l' := #[.val (.ref a1), .val v'1, .val (.ref b), .val v'1, .val v'2, .val v'0, .val (.int x0)]) rfl (own_iik X120 q d22_38 rfl (show ((0 : Int32) + (1 : Int32)) = (1 : Int32) by decide) (l' := #[.val (.ref a1), .val v'1, .val (.ref b), .val v'1, .val v'2, .val v'1, .val (.int x0)]) rfl (own_gt X120 q d22_41 (own_il X120 q d22_3 rfl (own_il X120 q d22_5 rfl (own_cn X120 q d22_7 ((tlt ((by decide) : (1 : Int32) < (2 : Int32))).2.1) (own_aln X120 q d22_10 rfl rfl (own_iln X120 q d22_11 rfl (own_cld (v := (.int x1)) X120 q hZ e120 (VA.other W120 nab) d22_12 (by decide) rfl (own_is X120 q d22_13 (l' := #[.val (.ref a1), .val v'1, .val (.ref b), .val v'1, .val v'2, .val v'1, .val (.int x1)]) rfl (own_il X120 q d22_15 rfl ?_)))))))))))
  refine own_k X120 q d22_17 ?_
  by_cases hc20_122 : (255 : Int32) < x1
  ·refine own_cn X120 q d22_20 ((tlt hc20_122).2.2.2) (own_il X120 q d22_23 rfl ?_)
   refine own_rI X120 q hrt d22_25 hlk (by decide) ?_
   show QC2a Z b k2 x0 x1 h0 n0 _ T120.heap _
   rw [e120]
   exact ⟨_, rfl, N120, kp121, Or.inr (Or.inr ⟨rfl, hc20_122⟩)⟩
  ·refine own_cy X120 q d22_20 ((flt hc20_122).2.2.2) (own_aln X120 q d22_26 rfl rfl (own_iln X120 q d22_27 rfl (own_il X120 q d22_28 rfl (own_stp 31 (fun _ k => XS.i2b X120.here hx rfl (q.d d22_30) rfl k) ?_))))
   refine own_bst X120 q hZ e120 V120 d22_31 (by decide) (Nat.le_of_ble_eq_true rfl) N120 gb fun T123 h123 X123 e123 W123 V123 N123 => ?_
   have zs124 := Nat.le_trans zs121 (Keep.of_wr W123).1
   have kp124 := kp121.wr W123 (own_i0)
   refine own_iik X123 q d22_32 rfl (show ((1 : Int32) + (1 : Int32)) = (2 : Int32) by decide) (l' := #[.val (.ref a1), .val v'2, .val (.ref b), .val v'1, .val v'2, .val v'1, .val (.int x1)]) rfl (own_iik X123 q d22_35 rfl (show ((1 : Int32) + (1 : Int32)) = (2 : Int32) by decide) (l' := #[.val (.ref a1), .val v'2, .val (.ref b), .val v'2, .val v'2, .val v'1, .val (.int x1)]) rfl (own_iik X123 q d22_38 rfl (show ((1 : Int32) + (1 : Int32)) = (2 : Int32) by decide) (l' := #[.val (.ref a1), .val v'2, .val (.ref b), .val v'2, .val v'2, .val v'2, .val (.int x1)]) rfl (own_gt X123 q d22_41 (own_il X123 q d22_3 rfl (own_il X123 q d22_5 rfl (own_cy X123 q d22_7 ((flt (Int32.lt_irrefl : ¬ ((2 : Int32) < (2 : Int32)))).2.1) (own_il X123 q d22_44 rfl ?_)))))))
   refine own_rI X123 q hrt d22_46 hlk (by decide) ?_
   show QC2a Z b k2 x0 x1 h0 n0 _ T123.heap _
   rw [e123]
   exact ⟨_, rfl, N123, kp124, Or.inl ⟨rfl, ⟨hc20_119, hc20_122⟩, V123⟩⟩
theorem rm25_2 (l : Launch) (Z : State) (a0 : Array Value) (hw : own_hw a0 Z)   (h0 : Heap) (n0 : Nat) (Z0 : n0 ≤ h0.size) :
  own_M l Z [] own_y4 b'25 1 (some (.array .byte)) ⟨1, 1, 4, 12⟩ #[v'2] h0 (QNB2 Z h0 n0) := by
 refine own_start (n0 := n0) hw "java/lang/StringUTF16" (L := #[.val v'2]) pn_25 (fun {p e s m below meth c s₁} q hx W hml hZ hown hnm hlk hrt X0 e0 N0 => ?_)
 have kp0 := Keep.refl h0 []
 refine own_iln X0 q d25_0 rfl ?_
 refine own_cS X0 q hZ e0 hown hml (W 117 rfl) (W 118 rfl) (W 103 rfl) (W 119 rfl) (rm26 l Z a0 hw (2 : Int32) (4 : Int32) h0 n0 Z0 (by decide) (by decide) (by decide)) d25_1 [v'2] [] own_pd0 0 (by decide) (fun v129 T129 L129 X129 hQ129 => ?_)
 obtain ⟨rfl, N129q, e129⟩ := hQ129
 have N129 := Fr.app N0 N129q
 refine own_nv ?_
 refine own_let ?_; intro g130_
 obtain ⟨T131, h131, k131, X131, e131, E131, A131, st131⟩ := newP X129 hx hZ (W 11 rfl) e129 (g := g130_) rfl (q.d d25_4) rfl (by decide) (cap := 4) (by decide) (by decide) (by decide) (by decide)
 obtain ⟨b131, g131⟩ : ∃ z, z = h0.size := ⟨_, rfl⟩
 rw [← g131] at A131 st131
 have V131 : Arv Z h131 b131 k131 .byte (4 : Int32) [v'0, v'0, v'0, v'0] v'0 := (Arv.new A131 (by decide)).pad (pad_rep [] v'0 4)
 have zs132 := Nat.le_trans Z0 E131.1
 have kp132 := kp0.ext E131
 have g_b131 : n0 ≤ b131 := Nat.le_trans Z0 (Nat.le_of_eq g131.symm)
 have sz_b131 : h0.size ≤ b131 := Nat.le_trans kp0.1 (Nat.le_of_eq g131.symm)
 refine own_stp 6 st131 ?_
 refine own_rA X131 q hrt d25_6 hlk (by decide) ?_
 show QNB2 Z h0 n0 _ T131.heap _
 rw [e131]
 exact ⟨_, _, rfl, N129, own_extK kp132, sz_b131, V131⟩
theorem rm24_2 (l : Launch) (Z : State) (a0 : Array Value) (hw : own_hw a0 Z) (a1 : Addr) (k1 : ClassId) (x0 x1 : Int32) (h0 : Heap) (n0 : Nat) (Z0 : n0 ≤ h0.size) (O0 : Old Z n0 h0) (SU_ : own_SU Z) (VA : Arv Z h0 a1 k1 .char (2 : Int32) [(.int x0), (.int x1)] v'0) :
  own_M l Z [] own_y5 b'24 5 (some (.array .byte)) ⟨2, 1, 4, 24⟩ #[(.ref a1), v'0, v'2] h0 (QTB2 Z x0 x1 h0 n0) := by
 obtain ⟨SAD, SHI, SLO⟩ := SU_
 refine own_start (n0 := n0) hw "java/lang/StringUTF16" (L := #[.val (.ref a1), .val v'0, .val v'2, .unset, .unset]) pn_24 (fun {p e s m below meth c s₁} q hx W hml hZ hown hnm hlk hrt X0 e0 N0 => ?_)
 have kp0 := Keep.refl h0 []
 refine own_iln X0 q d24_0 rfl ?_
 refine own_cSh X0 q hZ e0 hown hml (W 114 rfl) (W 115 rfl) (W 103 rfl) (W 116 rfl) (rm25_2 l Z a0 hw h0 n0 Z0) d24_1 [v'2] [] own_pd1 0 (by decide) (fun v139 T139 L139 h139 e139' X139 hQ139 => ?_)
 obtain ⟨b139, k139, rfl, N139q, E139, lo139, V139⟩ := hQ139
 have N139 := Fr.app N0 N139q
 have zs140 := Nat.le_trans Z0 E139.1
 have od140 := O0.ext E139
 have kp140 := kp0.ext E139
 have g_b139 : n0 ≤ b139 := Nat.le_trans Z0 lo139
 have sz_b139 : h0.size ≤ b139 := Nat.le_trans kp0.1 lo139
 refine own_nv (own_asn X139 q d24_4 rfl (l' := #[.val (.ref a1), .val v'0, .val v'2, .val (.ref b139), .unset]) rfl (own_k X139 q d24_5 (own_is X139 q d24_6 (l' := #[.val (.ref a1), .val v'0, .val v'2, .val (.ref b139), .val v'0]) rfl (own_il X139 q d24_8 rfl (own_iln X139 q d24_10 rfl (own_cn X139 q d24_11 ((tlt ((by decide) : (0 : Int32) < (2 : Int32))).2.1) (own_aln X139 q d24_14 rfl rfl (own_il X139 q d24_15 rfl (own_aln X139 q d24_17 rfl rfl (own_iln X139 q d24_18 rfl (own_cld (v := (.int x0)) X139 q hZ e139' (VA.ext E139) d24_19 (by decide) rfl ?_)))))))))))
 refine own_cSh X139 q hZ e139' hown hml (W 121 rfl) (W 122 rfl) (W 103 rfl) (W 123 rfl) (rm27 l Z a0 hw b139 (0 : Int32) x0 k139 _ 4 0 h139 n0 zs140 od140 ⟨SAD, SHI, SLO⟩ V139 rfl (by decide) (by decide) rfl g_b139) d24_20 [(.ref b139), v'0, (.int x0)] [] own_pd2 0 (by decide) (fun v141 T141 L141 h141 e141' X141 hQ141 => ?_)
 obtain ⟨rfl, N141q, K141, V141⟩ := hQ141
 have N141 := Fr.app N139 N141q
 have zs142 := Nat.le_trans zs140 K141.1
 have od142 := od140.keep K141 (allS g_b139 all0)
 have kp142 := kp140.trans K141 (allS (Or.inr sz_b139) all0)
 refine own_nn (own_iik X141 q d24_23 rfl (show ((0 : Int32) + (1 : Int32)) = (1 : Int32) by decide) (l' := #[.val (.ref a1), .val v'1, .val v'2, .val (.ref b139), .val v'0]) rfl (own_iik X141 q d24_26 rfl (show ((0 : Int32) + (1 : Int32)) = (1 : Int32) by decide) (l' := #[.val (.ref a1), .val v'1, .val v'2, .val (.ref b139), .val v'1]) rfl (own_gt X141 q d24_29 (own_il X141 q d24_8 rfl (own_iln X141 q d24_10 rfl (own_cn X141 q d24_11 ((tlt ((by decide) : (1 : Int32) < (2 : Int32))).2.1) (own_aln X141 q d24_14 rfl rfl (own_il X141 q d24_15 rfl (own_aln X141 q d24_17 rfl rfl (own_iln X141 q d24_18 rfl (own_cld (v := (.int x1)) X141 q hZ e141' ((VA.ext E139).keep K141 (ninS (own_ne (VA).lt lo139) nin0)) d24_19 (by decide) rfl ?_)))))))))))
 refine own_cSh X141 q hZ e141' hown hml (W 121 rfl) (W 122 rfl) (W 103 rfl) (W 123 rfl) (rm27 l Z a0 hw b139 (1 : Int32) x1 k139 _ 4 1 h141 n0 zs142 od142 ⟨SAD, SHI, SLO⟩ V141 rfl (by decide) (by decide) rfl g_b139) d24_20 [(.ref b139), v'1, (.int x1)] [] own_pd2 0 (by decide) (fun v143 T143 L143 h143 e143' X143 hQ143 => ?_)
 obtain ⟨rfl, N143q, K143, V143⟩ := hQ143
 have N143 := Fr.app N141 N143q
 have zs144 := Nat.le_trans zs142 K143.1
 have od144 := od142.keep K143 (allS g_b139 all0)
 have kp144 := kp142.trans K143 (allS (Or.inr sz_b139) all0)
 refine own_nn (own_iik X143 q d24_23 rfl (show ((1 : Int32) + (1 : Int32)) = (2 : Int32) by decide) (l' := #[.val (.ref a1), .val v'2, .val v'2, .val (.ref b139), .val v'1]) rfl (own_iik X143 q d24_26 rfl (show ((1 : Int32) + (1 : Int32)) = (2 : Int32) by decide) (l' := #[.val (.ref a1), .val v'2, .val v'2, .val (.ref b139), .val v'2]) rfl (own_gt X143 q d24_29 (own_il X143 q d24_8 rfl (own_iln X143 q d24_10 rfl (own_cy X143 q d24_11 ((flt (Int32.lt_irrefl : ¬ ((2 : Int32) < (2 : Int32)))).2.1) (own_aln X143 q d24_32 rfl rfl ?_)))))))
 refine own_rA X143 q hrt d24_33 hlk (by decide) ?_
 show QTB2 Z x0 x1 h0 n0 _ T143.heap _
 rw [e143']
 exact ⟨_, _, rfl, N143, own_extK kp144, sz_b139, V143⟩
theorem rm21_2 (l : Launch) (Z : State) (a0 : Array Value) (hw : own_hw a0 Z) (a1 : Addr) (k1 : ClassId) (x0 x1 : Int32) (h0 : Heap) (n0 : Nat) (Z0 : n0 ≤ h0.size) (O0 : Old Z n0 h0) (SU_ : own_SU Z) (VA : Arv Z h0 a1 k1 .char (2 : Int32) [(.int x0), (.int x1)] v'0) (hd0 : own_c16 x0) (hd1 : own_c16 x1) :
  own_M l Z [] own_y6 b'21 6 (some (.array .byte)) ⟨3, 2, 6, 40⟩ #[(.ref a1), v'0, v'2] h0 (QC2b Z x0 x1 h0 n0) := by
 obtain ⟨SAD, SHI, SLO⟩ := SU_
 refine own_start (n0 := n0) hw "java/lang/StringUTF16" (L := #[.val (.ref a1), .val v'0, .val v'2, .unset, .unset, .unset]) pn_21 (fun {p e s m below meth c s₁} q hx W hml hZ hown hnm hlk hrt X0 e0 N0 => ?_)
 have hby := q.2
 have kp0 := Keep.refl h0 []
 refine own_iln X0 q d21_0 rfl ?_
 refine own_let ?_; intro g156_
 obtain ⟨T157, h157, k157, X157, e157, E157, A157, st157⟩ := newP X0 hx hZ (W 11 rfl) e0 (g := g156_) rfl (q.d d21_1) rfl (by decide) (cap := 2) (by decide) (by decide) (by decide) (by decide)
 obtain ⟨b157, g157⟩ : ∃ z, z = h0.size := ⟨_, rfl⟩
 rw [← g157] at A157 st157
 have V157 : Arv Z h157 b157 k157 .byte (2 : Int32) [v'0, v'0] v'0 := (Arv.new A157 (by decide)).pad (pad_rep [] v'0 2)
 have zs158 := Nat.le_trans Z0 E157.1
 have od158 := O0.ext E157
 have kp158 := kp0.ext E157
 have g_b157 : n0 ≤ b157 := Nat.le_trans Z0 (Nat.le_of_eq g157.symm)
 have sz_b157 : h0.size ≤ b157 := Nat.le_trans kp0.1 (Nat.le_of_eq g157.symm)
 refine own_stp 3 st157 (own_asn X157 q d21_3 rfl (l' := #[.val (.ref a1), .val v'0, .val v'2, .val (.ref b157), .unset, .unset]) rfl (own_aln X157 q d21_4 rfl rfl (own_iln X157 q d21_5 rfl (own_aln X157 q d21_6 rfl rfl (own_k X157 q d21_7 (own_iln X157 q d21_8 rfl ?_))))))
 refine own_cSh X157 q hZ e157 hown hml (W 105 rfl) (W 106 rfl) (W 103 rfl) (W 107 rfl) (rm22_2 l Z a0 hw a1 b157 k1 k157 x0 x1 h157 n0 zs158 (VA.ext E157) V157 g_b157 (own_ne (VA).lt (Nat.le_of_eq g157.symm))) d21_9 [(.ref a1), v'0, (.ref b157), v'0, v'2] [] own_pd3 0 (by decide) (fun v159 T159 L159 h159 e159' X159 hQ159 => ?_)
 obtain ⟨z159, rfl, N159q, K159, D159⟩ := hQ159
 have N159 := Fr.app N0 N159q
 have zs160 := Nat.le_trans zs158 K159.1
 have od160 := od158.keep K159 (allS g_b157 all0)
 have kp160 := kp158.trans K159 (allS (Or.inr sz_b157) all0)
 refine own_nv ?_
 rcases D159 with ⟨hz, hA, hV⟩ | ⟨hz, hB⟩ | ⟨hz, hB⟩
 ·subst hz
  show own_Fin _ _ _ _ (T159.setTop (mkF m 12 #[.val (.ref a1), .val v'0, .val v'2, .val (.ref b157), .unset, .unset] [v'2]))
  refine own_is X159 q d21_12 (l' := #[.val (.ref a1), .val v'0, .val v'2, .val (.ref b157), .val v'2, .unset]) rfl (own_il X159 q d21_14 rfl (own_iln X159 q d21_16 rfl (own_cy X159 q d21_17 ((teq (rfl : (2 : Int32) = (2 : Int32))).1) (own_aln X159 q d21_57 rfl rfl ?_))))
  refine own_rA X159 q hrt d21_58 hlk (by decide) ?_
  show QC2b Z x0 x1 h0 n0 _ T159.heap _
  rw [e159']
  exact ⟨_, _, rfl, N159, own_extK kp160, sz_b157, Or.inl ⟨hA, hV⟩⟩
 ·subst hz
  show own_Fin _ _ _ _ (T159.setTop (mkF m 12 #[.val (.ref a1), .val v'0, .val v'2, .val (.ref b157), .unset, .unset] [v'0]))
  refine own_is X159 q d21_12 (l' := #[.val (.ref a1), .val v'0, .val v'2, .val (.ref b157), .val v'0, .unset]) rfl (own_il X159 q d21_14 rfl (own_iln X159 q d21_16 rfl (own_cn X159 q d21_17 ((feq ((by decide) : ¬ ((0 : Int32) = (2 : Int32)))).1) (own_aln X159 q d21_20 rfl rfl (own_iln X159 q d21_21 rfl (own_iln X159 q d21_22 rfl ?_))))))
  refine own_cSh X159 q hZ e159' hown hml (W 111 rfl) (W 112 rfl) (W 103 rfl) (W 113 rfl) (rm24_2 l Z a0 hw a1 k1 x0 x1 h159 n0 zs160 od160 ⟨SAD, SHI, SLO⟩ ((VA.ext E157).keep K159 (ninS (own_ne (VA).lt (Nat.le_of_eq g157.symm)) nin0))) d21_23 [(.ref a1), v'0, v'2] [] own_pd4 0 (by decide) (fun v161 T161 L161 h161 e161' X161 hQ161 => ?_)
  obtain ⟨b161, k161, rfl, N161q, E161, lo161, V161⟩ := hQ161
  have N161 := Fr.app N159 N161q
  have zs162 := Nat.le_trans zs160 E161.1
  have od162 := od160.ext E161
  have kp162 := kp160.ext E161
  have g_b161 : n0 ≤ b161 := Nat.le_trans zs160 lo161
  have sz_b161 : h0.size ≤ b161 := Nat.le_trans kp160.1 lo161
  refine own_nv (own_as X161 q d21_26 rfl (l' := #[.val (.ref a1), .val v'0, .val v'2, .val (.ref b157), .val v'0, .val (.ref b161)]) rfl (own_al X161 q d21_28 rfl rfl (own_il X161 q d21_30 rfl ?_)))
  refine own_cS X161 q hZ e161' hown hml (W 127 rfl) (W 128 rfl) (W 103 rfl) (W 129 rfl) (rm28 l Z a0 hw b161 (0 : Int32) k161 _ 4 0 x0 h161 n0 zs162 od162 ⟨SAD, SHI, SLO⟩ V161 rfl (by decide) (by decide) rfl rfl) d21_32 [(.ref b161), v'0] [] own_pd5 0 (by decide) (fun v163 T163 L163 X163 hQ163 => ?_)
  obtain ⟨rfl, N163q, e163⟩ := hQ163
  have N163 := Fr.app N161 N163q
  refine own_nv (own_k X163 q d21_35 (own_cy X163 q d21_38 ((tlt ((by rw [own_gcE hd0]; exact hB) : (255 : Int32) < (own_gc x0))).2.2.1) (own_al X163 q d21_54 rfl rfl ?_)))
  refine own_rA X163 q hrt d21_56 hlk (by decide) ?_
  show QC2b Z x0 x1 h0 n0 _ T163.heap _
  rw [e163]
  exact ⟨_, _, rfl, N163, own_extK kp162, sz_b161, Or.inr ⟨(Or.inl hB), V161⟩⟩
 ·subst hz
  show own_Fin _ _ _ _ (T159.setTop (mkF m 12 #[.val (.ref a1), .val v'0, .val v'2, .val (.ref b157), .unset, .unset] [v'1]))
  refine own_is X159 q d21_12 (l' := #[.val (.ref a1), .val v'0, .val v'2, .val (.ref b157), .val v'1, .unset]) rfl (own_il X159 q d21_14 rfl (own_iln X159 q d21_16 rfl (own_cn X159 q d21_17 ((feq ((by decide) : ¬ ((1 : Int32) = (2 : Int32)))).1) (own_aln X159 q d21_20 rfl rfl (own_iln X159 q d21_21 rfl (own_iln X159 q d21_22 rfl ?_))))))
  refine own_cSh X159 q hZ e159' hown hml (W 111 rfl) (W 112 rfl) (W 103 rfl) (W 113 rfl) (rm24_2 l Z a0 hw a1 k1 x0 x1 h159 n0 zs160 od160 ⟨SAD, SHI, SLO⟩ ((VA.ext E157).keep K159 (ninS (own_ne (VA).lt (Nat.le_of_eq g157.symm)) nin0))) d21_23 [(.ref a1), v'0, v'2] [] own_pd4 0 (by decide) (fun v164 T164 L164 h164 e164' X164 hQ164 => ?_)
  obtain ⟨b164, k164, rfl, N164q, E164, lo164, V164⟩ := hQ164
  have N164 := Fr.app N159 N164q
  have zs165 := Nat.le_trans zs160 E164.1
  have od165 := od160.ext E164
  have kp165 := kp160.ext E164
  have g_b164 : n0 ≤ b164 := Nat.le_trans zs160 lo164
  have sz_b164 : h0.size ≤ b164 := Nat.le_trans kp160.1 lo164
  refine own_nv (own_as X164 q d21_26 rfl (l' := #[.val (.ref a1), .val v'0, .val v'2, .val (.ref b157), .val v'1, .val (.ref b164)]) rfl (own_al X164 q d21_28 rfl rfl (own_il X164 q d21_30 rfl ?_)))
  refine own_cS X164 q hZ e164' hown hml (W 127 rfl) (W 128 rfl) (W 103 rfl) (W 129 rfl) (rm28 l Z a0 hw b164 (1 : Int32) k164 _ 4 1 x1 h164 n0 zs165 od165 ⟨SAD, SHI, SLO⟩ V164 rfl (by decide) (by decide) rfl rfl) d21_32 [(.ref b164), v'1] [] own_pd5 0 (by decide) (fun v166 T166 L166 X166 hQ166 => ?_)
  obtain ⟨rfl, N166q, e166⟩ := hQ166
  have N166 := Fr.app N164 N166q
  refine own_nv (own_k X166 q d21_35 (own_cy X166 q d21_38 ((tlt ((by rw [own_gcE hd1]; exact hB) : (255 : Int32) < (own_gc x1))).2.2.1) (own_al X166 q d21_54 rfl rfl ?_)))
  refine own_rA X166 q hrt d21_56 hlk (by decide) ?_
  show QC2b Z x0 x1 h0 n0 _ T166.heap _
  rw [e166]
  exact ⟨_, _, rfl, N166, own_extK kp165, sz_b164, Or.inr ⟨(Or.inr hB), V164⟩⟩
theorem rm23_2_2 (l : Launch) (Z : State) (a0 : Array Value) (hw : own_hw a0 Z) (a1 : Addr) (k1 : ClassId) (vs : List Value) (h0 : Heap) (n0 : Nat) (Z0 : n0 ≤ h0.size) (VA : Arv Z h0 a1 k1 .byte (2 : Int32) vs v'0) :
  own_M l Z [] own_y7 b'23 2 (some .byte) ⟨0, 0, 0, 0⟩ #[(.ref a1), v'2] h0 (QI (0 : Int32) h0 n0) := by
 refine own_start (n0 := n0) hw "java/lang/StringUTF16" (L := #[.val (.ref a1), .val v'2]) pn_23 (fun {p e s m below meth c s₁} q hx W hml hZ hown hnm hlk hrt X0 e0 N0 => ?_)
 refine own_iln X0 q d23_0 rfl (own_aln X0 q d23_1 rfl rfl (own_alen (n := (2 : Int32)) X0 q hZ e0 VA d23_2 (own_isubk 0 X0 q d23_3 (by decide) (own_k X0 q d23_4 (own_stp 7 (fun _ k => XS.iushr X0.here hx rfl (q.d d23_6) rfl k) ?_)))))
 rw [show (((0 : Int32).toUInt32 >>> ((31 : Int32) &&& 31).toUInt32).toInt32) = (0 : Int32) from by decide]
 refine own_stp 8 (fun _ k => XS.i2b X0.here hx rfl (q.d d23_7) rfl k) ?_
 rw [show ((0 : Int32).toInt8.toInt32) = (0 : Int32) from by decide]
 refine own_rN X0 q hrt (by simp) d23_8 hlk (by decide) ?_
 show QI (0 : Int32) h0 n0 _ s₁.heap _
 rw [e0]
 exact ⟨rfl, N0, rfl⟩
theorem rm23_2_4 (l : Launch) (Z : State) (a0 : Array Value) (hw : own_hw a0 Z) (a1 : Addr) (k1 : ClassId) (vs : List Value) (h0 : Heap) (n0 : Nat) (Z0 : n0 ≤ h0.size) (VA : Arv Z h0 a1 k1 .byte (4 : Int32) vs v'0) :
  own_M l Z [] own_y7 b'23 2 (some .byte) ⟨0, 0, 0, 0⟩ #[(.ref a1), v'2] h0 (QI (1 : Int32) h0 n0) := by
 refine own_start (n0 := n0) hw "java/lang/StringUTF16" (L := #[.val (.ref a1), .val v'2]) pn_23 (fun {p e s m below meth c s₁} q hx W hml hZ hown hnm hlk hrt X0 e0 N0 => ?_)
 refine own_iln X0 q d23_0 rfl (own_aln X0 q d23_1 rfl rfl (own_alen (n := (4 : Int32)) X0 q hZ e0 VA d23_2 (own_isubk (-2) X0 q d23_3 (by decide) (own_k X0 q d23_4 (own_stp 7 (fun _ k => XS.iushr X0.here hx rfl (q.d d23_6) rfl k) ?_)))))
 rw [show (((-2 : Int32).toUInt32 >>> ((31 : Int32) &&& 31).toUInt32).toInt32) = (1 : Int32) from by decide]
 refine own_stp 8 (fun _ k => XS.i2b X0.here hx rfl (q.d d23_7) rfl k) ?_
 rw [show ((1 : Int32).toInt8.toInt32) = (1 : Int32) from by decide]
 refine own_rN X0 q hrt (by simp) d23_8 hlk (by decide) ?_
 show QI (1 : Int32) h0 n0 _ s₁.heap _
 rw [e0]
 exact ⟨rfl, N0, rfl⟩
theorem rm20_2 (l : Launch) (Z : State) (a0 : Array Value) (hw : own_hw a0 Z) (a1 : Addr) (a2 : Addr) (k1 : ClassId) (x0 x1 : Int32) (cs0 : Int32) (h0 : Heap) (n0 : Nat) (Z0 : n0 ≤ h0.size) (E1 : Exa Z h0 a1 "java/lang/String") (FV : F'1 Z h0 a1 .null) (FC : F'0 Z h0 a1 v'0) (VA : Arv Z h0 a2 k1 .char (2 : Int32) [(.int x0), (.int x1)] v'0) (g1 : n0 ≤ a1) (n12 : a1 ≠ a2) (O0 : Old Z n0 h0) (SC_ : own_SC Z cs0) (SU_ : own_SU Z) (hd0 : own_c16 x0) (hd1 : own_c16 x1) :
  own_M l Z [] own_y8 b'20 6 none ⟨4, 2, 6, 57⟩ #[(.ref a1), (.ref a2), v'0, v'2, .null] h0 (QI2 Z a1 x0 x1 h0 n0) := by
 obtain ⟨SCS, hcs⟩ := SC_; obtain ⟨SAD, SHI, SLO⟩ := SU_
 refine own_start (n0 := n0) hw "java/lang/String" (L := #[.val (.ref a1), .val (.ref a2), .val v'0, .val v'2, .val .null, .unset]) pn_20 (fun {p e s m below meth c s₁} q hx W hml hZ hown hnm hlk hrt X0 e0 N0 => ?_)
 have hby := q.2
 have kp0 := Keep.refl h0 [a1]
 refine own_aln X0 q d20_0 rfl rfl ?_
 refine own_let ?_; intro g186_
 obtain ⟨T187, X187, e187, st187⟩ := initO X0 hx hZ hown (W 92 rfl) (W 53 rfl) (W 54 rfl) e0 (g := g186_) rfl (by rw [hml]; rfl) rfl (q.d d20_1) (by decide) (W := 0) (by show 2 * 0 + _ ≤ _; exact Nat.le_of_eq rfl) (by decide)
 refine own_stp 4 st187 (own_iln X187 q d20_4 rfl (own_zy X187 q d20_5 (((if0 _ _).trans (feq ((by decide) : ¬ ((2 : Int32) = (0 : Int32)))).2)) ?_))
 refine own_gS X187 q hZ e187 hown (W 41 rfl) (SCS.ext O0.2) d20_27 fun T188 X188 e188 => ?_
 refine own_zn X188 q d20_30 (((if0 _ _).trans (feq hcs).1)) (own_aln X188 q d20_33 rfl rfl (own_iln X188 q d20_34 rfl (own_iln X188 q d20_35 rfl ?_)))
 refine own_cSh X188 q hZ e188 hown hml (W 101 rfl) (W 102 rfl) (W 103 rfl) (W 104 rfl) (rm21_2 l Z a0 hw a2 k1 x0 x1 h0 n0 Z0 O0 ⟨SAD, SHI, SLO⟩ VA hd0 hd1) d20_36 [(.ref a2), v'0, v'2] [] own_pd4 0 (by decide) (fun v189 T189 L189 h189 e189' X189 hQ189 => ?_)
 obtain ⟨b189, k189, rfl, N189q, E189, lo189, D189⟩ := hQ189
 have N189 := Fr.app N0 N189q
 have zs190 := Nat.le_trans Z0 E189.1
 have od190 := O0.ext E189
 have kp190 := kp0.ext E189
 have g_b189 : n0 ≤ b189 := Nat.le_trans Z0 lo189
 have sz_b189 : h0.size ≤ b189 := Nat.le_trans kp0.1 lo189
 refine own_nv ?_
 rcases D189 with ⟨hA, hV⟩ | ⟨hA, hV⟩
 ·have hV_ := hV
  show own_Fin _ _ _ _ (T189.setTop (mkF m 39 #[.val (.ref a1), .val (.ref a2), .val v'0, .val v'2, .val .null, .unset] [(.ref b189)]))
  refine own_as X189 q d20_39 rfl (l' := #[.val (.ref a1), .val (.ref a2), .val v'0, .val v'2, .val .null, .val (.ref b189)]) rfl (own_aln X189 q d20_41 rfl rfl (own_al X189 q d20_42 rfl rfl (own_iln X189 q d20_44 rfl ?_)))
  refine own_cS X189 q hZ e189' hown hml (W 108 rfl) (W 109 rfl) (W 103 rfl) (W 110 rfl) (rm23_2_2 l Z a0 hw b189 k189 _ h189 n0 zs190 hV) d20_45 [(.ref b189), v'2] [(.ref a1)] own_pd6 1 (by decide) (fun v191 T191 L191 X191 hQ191 => ?_)
  obtain ⟨rfl, N191q, e191⟩ := hQ191
  have N191 := Fr.app N189 N191q
  refine own_nv ?_
  refine own_let ?_; intro g192_
  obtain ⟨T193, h193, X193, e193, W193, st193⟩ := putFN X191 hx hZ hown (W 42 rfl) Via.refl e191 (FC.ext E189) (E1.ext E189) (Or.inr ⟨(W 13 rfl), rfl, hnm⟩) (W 10 rfl) (ty := .byte) (v' := v'0) (by decide) rfl rfl (g := g192_) rfl rfl (q.d d20_48)
  have zs194 := Nat.le_trans zs190 (Keep.of_wr W193).1
  have od194 := od190.wr W193 g1
  have kp194 := kp190.wr W193 (own_i0)
  have Fw193 := ((FC.ext E189)).same W193
  have N193 := Fr.snoc X193 N191 g1
  refine own_stp 51 st193 (own_aln X193 q d20_51 rfl rfl (own_al X193 q d20_52 rfl rfl ?_))
  refine own_let ?_; intro g195_
  obtain ⟨T196, h196, X196, e196, W196, st196⟩ := putF X193 hx hZ hown (host := "") (Or.inl (W 35 rfl)) Via.refl e193 ((FV.ext E189).other W193 (Or.inr (slot_ne (Or.inr (W 12 rfl)) (Or.inr (W 13 rfl)) (by decide) (t := (.array .byte)) (t' := .byte) (by decide) (by decide)))) ((E1.ext E189).wr W193) (Or.inr ⟨(W 12 rfl), rfl, hnm⟩) (W 10 rfl) (ty := (.array .byte)) (by decide) rfl rfl (g := g195_) rfl rfl (q.d d20_54)
  have zs197 := Nat.le_trans zs194 (Keep.of_wr W196).1
  have od197 := od194.wr W196 g1
  have kp197 := kp194.wr W196 (own_i0)
  have Fw196 := (((FV.ext E189).other W193 (Or.inr (slot_ne (Or.inr (W 12 rfl)) (Or.inr (W 13 rfl)) (by decide) (t := (.array .byte)) (t' := .byte) (by decide) (by decide))))).same W196
  have N196 := Fr.snoc X196 N193 g1
  refine own_stp 57 st196 ?_
  refine own_rV X196 q hrt d20_57 hlk (by decide) ?_
  show QI2 Z a1 x0 x1 h0 n0 _ T196.heap _
  rw [e196]
  exact ⟨_, _, rfl, N196, kp197, sz_b189, Fw196, Or.inl ⟨(Fw193.other W196 (Or.inr (slot_ne (Or.inr (W 13 rfl)) (Or.inr (W 12 rfl)) (by decide) (t := .byte) (t' := (.array .byte)) (by decide) (by decide)))), hA, ((hV.other W193 (Ne.symm (own_ne (E1).lt lo189))).other W196 (Ne.symm (own_ne (E1).lt lo189)))⟩⟩
 ·have hV_ := hV
  show own_Fin _ _ _ _ (T189.setTop (mkF m 39 #[.val (.ref a1), .val (.ref a2), .val v'0, .val v'2, .val .null, .unset] [(.ref b189)]))
  refine own_as X189 q d20_39 rfl (l' := #[.val (.ref a1), .val (.ref a2), .val v'0, .val v'2, .val .null, .val (.ref b189)]) rfl (own_aln X189 q d20_41 rfl rfl (own_al X189 q d20_42 rfl rfl (own_iln X189 q d20_44 rfl ?_)))
  refine own_cS X189 q hZ e189' hown hml (W 108 rfl) (W 109 rfl) (W 103 rfl) (W 110 rfl) (rm23_2_4 l Z a0 hw b189 k189 _ h189 n0 zs190 hV) d20_45 [(.ref b189), v'2] [(.ref a1)] own_pd6 1 (by decide) (fun v198 T198 L198 X198 hQ198 => ?_)
  obtain ⟨rfl, N198q, e198⟩ := hQ198
  have N198 := Fr.app N189 N198q
  refine own_nv ?_
  refine own_let ?_; intro g199_
  obtain ⟨T200, h200, X200, e200, W200, st200⟩ := putFN X198 hx hZ hown (W 42 rfl) Via.refl e198 (FC.ext E189) (E1.ext E189) (Or.inr ⟨(W 13 rfl), rfl, hnm⟩) (W 10 rfl) (ty := .byte) (v' := v'1) (by decide) rfl rfl (g := g199_) rfl rfl (q.d d20_48)
  have zs201 := Nat.le_trans zs190 (Keep.of_wr W200).1
  have od201 := od190.wr W200 g1
  have kp201 := kp190.wr W200 (own_i0)
  have Fw200 := ((FC.ext E189)).same W200
  have N200 := Fr.snoc X200 N198 g1
  refine own_stp 51 st200 (own_aln X200 q d20_51 rfl rfl (own_al X200 q d20_52 rfl rfl ?_))
  refine own_let ?_; intro g202_
  obtain ⟨T203, h203, X203, e203, W203, st203⟩ := putF X200 hx hZ hown (host := "") (Or.inl (W 35 rfl)) Via.refl e200 ((FV.ext E189).other W200 (Or.inr (slot_ne (Or.inr (W 12 rfl)) (Or.inr (W 13 rfl)) (by decide) (t := (.array .byte)) (t' := .byte) (by decide) (by decide)))) ((E1.ext E189).wr W200) (Or.inr ⟨(W 12 rfl), rfl, hnm⟩) (W 10 rfl) (ty := (.array .byte)) (by decide) rfl rfl (g := g202_) rfl rfl (q.d d20_54)
  have zs204 := Nat.le_trans zs201 (Keep.of_wr W203).1
  have od204 := od201.wr W203 g1
  have kp204 := kp201.wr W203 (own_i0)
  have Fw203 := (((FV.ext E189).other W200 (Or.inr (slot_ne (Or.inr (W 12 rfl)) (Or.inr (W 13 rfl)) (by decide) (t := (.array .byte)) (t' := .byte) (by decide) (by decide))))).same W203
  have N203 := Fr.snoc X203 N200 g1
  refine own_stp 57 st203 ?_
  refine own_rV X203 q hrt d20_57 hlk (by decide) ?_
  show QI2 Z a1 x0 x1 h0 n0 _ T203.heap _
  rw [e203]
  exact ⟨_, _, rfl, N203, kp204, sz_b189, Fw203, Or.inr ⟨(Fw200.other W203 (Or.inr (slot_ne (Or.inr (W 13 rfl)) (Or.inr (W 12 rfl)) (by decide) (t := .byte) (t' := (.array .byte)) (by decide) (by decide)))), hA, ((hV.other W200 (Ne.symm (own_ne (E1).lt lo189))).other W203 (Ne.symm (own_ne (E1).lt lo189)))⟩⟩
theorem rm19_2 (l : Launch) (Z : State) (a0 : Array Value) (hw : own_hw a0 Z) (a1 : Addr) (a2 : Addr) (k1 : ClassId) (x0 x1 : Int32) (cs0 : Int32) (h0 : Heap) (n0 : Nat) (Z0 : n0 ≤ h0.size) (E1 : Exa Z h0 a1 "java/lang/String") (FV : F'1 Z h0 a1 .null) (FC : F'0 Z h0 a1 v'0) (VA : Arv Z h0 a2 k1 .char (2 : Int32) [(.int x0), (.int x1)] v'0) (g1 : n0 ≤ a1) (n12 : a1 ≠ a2) (O0 : Old Z n0 h0) (SC_ : own_SC Z cs0) (SU_ : own_SU Z) (hd0 : own_c16 x0) (hd1 : own_c16 x1) :
  own_M l Z [] own_y9 b'19 2 none ⟨5, 2, 6, 74⟩ #[(.ref a1), (.ref a2)] h0 (QI2 Z a1 x0 x1 h0 n0) := by
 obtain ⟨SCS, hcs⟩ := SC_; obtain ⟨SAD, SHI, SLO⟩ := SU_
 refine own_start (n0 := n0) hw "java/lang/String" (L := #[.val (.ref a1), .val (.ref a2)]) pn_19 (fun {p e s m below meth c s₁} q hx W hml hZ hown hnm hlk hrt X0 e0 N0 => ?_)
 have kp0 := Keep.refl h0 [a1]
 refine own_aln X0 q d19_0 rfl rfl (own_aln X0 q d19_1 rfl rfl (own_k X0 q d19_2 (own_aln X0 q d19_3 rfl rfl (own_alen (n := (2 : Int32)) X0 q hZ e0 VA d19_4 (own_nl X0 q d19_5 ?_)))))
 refine own_cIh (a := a1) X0 q hZ e0 hown hml (W 98 rfl) (W 99 rfl) (W 9 rfl) (W 100 rfl) (rm20_2 l Z a0 hw a1 a2 k1 x0 x1 cs0 h0 n0 Z0 E1 FV FC VA g1 n12 O0 ⟨SCS, hcs⟩ ⟨SAD, SHI, SLO⟩ hd0 hd1) d19_6 [(.ref a2), v'0, v'2, .null] [] own_pd7 0 rfl (by decide) (fun v207 T207 L207 h207 e207' X207 hQ207 => ?_)
 obtain ⟨t207, k207, rfl, N207q, K207, lo207, Fv207, D207⟩ := hQ207
 have N207 := Fr.app N0 N207q
 have zs208 := Nat.le_trans Z0 K207.1
 have od208 := O0.keep K207 (allS g1 all0)
 have kp208 := kp0.trans K207 (allS (own_i0) all0)
 have g_t207 : n0 ≤ t207 := Nat.le_trans Z0 lo207
 have sz_t207 : h0.size ≤ t207 := Nat.le_trans kp0.1 lo207
 refine own_nn ?_
 refine own_rV X207 q hrt d19_9 hlk (by decide) ?_
 show QI2 Z a1 x0 x1 h0 n0 _ T207.heap _
 rw [e207']
 exact ⟨_, _, rfl, N207, kp208, sz_t207, Fv207, D207⟩
theorem rm22_3 (l : Launch) (Z : State) (a0 : Array Value) (hw : own_hw a0 Z) (a1 : Addr) (b : Addr) (k1 k2 : ClassId) (x0 x1 x2 : Int32) (h0 : Heap) (n0 : Nat) (Z0 : n0 ≤ h0.size) (VA : Arv Z h0 a1 k1 .char (3 : Int32) [(.int x0), (.int x1), (.int x2)] v'0) (VB : Arv Z h0 b k2 .byte (3 : Int32) [v'0, v'0, v'0] v'0) (gb : n0 ≤ b) (nab : a1 ≠ b) :
  own_M l Z [] own_y1 b'22 7 (some .int) ⟨0, 0, 0, 0⟩ #[(.ref a1), v'0, (.ref b), v'0, v'3] h0 (QC3a Z b k2 x0 x1 x2 h0 n0) := by
 refine own_start (n0 := n0) hw "java/lang/StringUTF16" (L := #[.val (.ref a1), .val v'0, .val (.ref b), .val v'0, .val v'3, .unset, .unset]) pn_22 (fun {p e s m below meth c s₁} q hx W hml hZ hown hnm hlk hrt X0 e0 N0 => ?_)
 have kp0 := Keep.refl h0 [b]
 refine own_k X0 q d22_0 (own_is X0 q d22_1 (l' := #[.val (.ref a1), .val v'0, .val (.ref b), .val v'0, .val v'3, .val v'0, .unset]) rfl (own_il X0 q d22_3 rfl (own_il X0 q d22_5 rfl (own_cn X0 q d22_7 ((tlt ((by decide) : (0 : Int32) < (3 : Int32))).2.1) (own_aln X0 q d22_10 rfl rfl (own_iln X0 q d22_11 rfl (own_cld (v := (.int x0)) X0 q hZ e0 VA d22_12 (by decide) rfl (own_is X0 q d22_13 (l' := #[.val (.ref a1), .val v'0, .val (.ref b), .val v'0, .val v'3, .val v'0, .val (.int x0)]) rfl (own_il X0 q d22_15 rfl (own_k X0 q d22_17 ?_))))))))))
 by_cases hc20_218 : (255 : Int32) < x0
 ·refine own_cn X0 q d22_20 ((tlt hc20_218).2.2.2) (own_il X0 q d22_23 rfl ?_)
  refine own_rI X0 q hrt d22_25 hlk (by decide) ?_
  show QC3a Z b k2 x0 x1 x2 h0 n0 _ s₁.heap _
  rw [e0]
  exact ⟨_, rfl, N0, kp0, Or.inr (Or.inl ⟨rfl, hc20_218⟩)⟩
 ·refine own_cy X0 q d22_20 ((flt hc20_218).2.2.2) (own_aln X0 q d22_26 rfl rfl (own_iln X0 q d22_27 rfl (own_il X0 q d22_28 rfl (own_stp 31 (fun _ k => XS.i2b X0.here hx rfl (q.d d22_30) rfl k) ?_))))
  refine own_bst X0 q hZ e0 VB d22_31 (by decide) (Nat.le_of_ble_eq_true rfl) N0 gb fun T219 h219 X219 e219 W219 V219 N219 => ?_
  have zs220 := Nat.le_trans Z0 (Keep.of_wr W219).1
  have kp220 := kp0.wr W219 (own_i0)
  refine own_iik X219 q d22_32 rfl (show ((0 : Int32) + (1 : Int32)) = (1 : Int32) by decide) (l' := #[.val (.ref a1), .val v'1, .val (.ref b), .val v'0, .val v'3, .val v'0, .val (.int x0)]) rfl (own_iik X219 q d22_35 rfl (show ((0 : Int32) + (1 : Int32)) = (1 : Int32) by decide) (l' := #[.val (.ref a1), .val v'1, .val (.ref b), .val v'1, .val v'3, .val v'0, .val (.int x0)]) rfl (own_iik X219 q d22_38 rfl (show ((0 : Int32) + (1 : Int32)) = (1 : Int32) by decide) (l' := #[.val (.ref a1), .val v'1, .val (.ref b), .val v'1, .val v'3, .val v'1, .val (.int x0)]) rfl (own_gt X219 q d22_41 (own_il X219 q d22_3 rfl (own_il X219 q d22_5 rfl (own_cn X219 q d22_7 ((tlt ((by decide) : (1 : Int32) < (3 : Int32))).2.1) (own_aln X219 q d22_10 rfl rfl (own_iln X219 q d22_11 rfl (own_cld (v := (.int x1)) X219 q hZ e219 (VA.other W219 nab) d22_12 (by decide) rfl (own_is X219 q d22_13 (l' := #[.val (.ref a1), .val v'1, .val (.ref b), .val v'1, .val v'3, .val v'1, .val (.int x1)]) rfl (own_il X219 q d22_15 rfl ?_)))))))))))
  refine own_k X219 q d22_17 ?_
  by_cases hc20_221 : (255 : Int32) < x1
  ·refine own_cn X219 q d22_20 ((tlt hc20_221).2.2.2) (own_il X219 q d22_23 rfl ?_)
   refine own_rI X219 q hrt d22_25 hlk (by decide) ?_
   show QC3a Z b k2 x0 x1 x2 h0 n0 _ T219.heap _
   rw [e219]
   exact ⟨_, rfl, N219, kp220, Or.inr (Or.inr (Or.inl ⟨rfl, hc20_221⟩))⟩
  ·refine own_cy X219 q d22_20 ((flt hc20_221).2.2.2) (own_aln X219 q d22_26 rfl rfl (own_iln X219 q d22_27 rfl (own_il X219 q d22_28 rfl (own_stp 31 (fun _ k => XS.i2b X219.here hx rfl (q.d d22_30) rfl k) ?_))))
   refine own_bst X219 q hZ e219 V219 d22_31 (by decide) (Nat.le_of_ble_eq_true rfl) N219 gb fun T222 h222 X222 e222 W222 V222 N222 => ?_
   have zs223 := Nat.le_trans zs220 (Keep.of_wr W222).1
   have kp223 := kp220.wr W222 (own_i0)
   refine own_iik X222 q d22_32 rfl (show ((1 : Int32) + (1 : Int32)) = (2 : Int32) by decide) (l' := #[.val (.ref a1), .val v'2, .val (.ref b), .val v'1, .val v'3, .val v'1, .val (.int x1)]) rfl (own_iik X222 q d22_35 rfl (show ((1 : Int32) + (1 : Int32)) = (2 : Int32) by decide) (l' := #[.val (.ref a1), .val v'2, .val (.ref b), .val v'2, .val v'3, .val v'1, .val (.int x1)]) rfl (own_iik X222 q d22_38 rfl (show ((1 : Int32) + (1 : Int32)) = (2 : Int32) by decide) (l' := #[.val (.ref a1), .val v'2, .val (.ref b), .val v'2, .val v'3, .val v'2, .val (.int x1)]) rfl (own_gt X222 q d22_41 (own_il X222 q d22_3 rfl (own_il X222 q d22_5 rfl (own_cn X222 q d22_7 ((tlt ((by decide) : (2 : Int32) < (3 : Int32))).2.1) (own_aln X222 q d22_10 rfl rfl (own_iln X222 q d22_11 rfl (own_cld (v := (.int x2)) X222 q hZ e222 ((VA.other W219 nab).other W222 nab) d22_12 (by decide) rfl (own_is X222 q d22_13 (l' := #[.val (.ref a1), .val v'2, .val (.ref b), .val v'2, .val v'3, .val v'2, .val (.int x2)]) rfl (own_il X222 q d22_15 rfl ?_)))))))))))
   refine own_k X222 q d22_17 ?_
   by_cases hc20_224 : (255 : Int32) < x2
   ·refine own_cn X222 q d22_20 ((tlt hc20_224).2.2.2) (own_il X222 q d22_23 rfl ?_)
    refine own_rI X222 q hrt d22_25 hlk (by decide) ?_
    show QC3a Z b k2 x0 x1 x2 h0 n0 _ T222.heap _
    rw [e222]
    exact ⟨_, rfl, N222, kp223, Or.inr (Or.inr (Or.inr ⟨rfl, hc20_224⟩))⟩
   ·refine own_cy X222 q d22_20 ((flt hc20_224).2.2.2) (own_aln X222 q d22_26 rfl rfl (own_iln X222 q d22_27 rfl (own_il X222 q d22_28 rfl (own_stp 31 (fun _ k => XS.i2b X222.here hx rfl (q.d d22_30) rfl k) ?_))))
    refine own_bst X222 q hZ e222 V222 d22_31 (by decide) (Nat.le_of_ble_eq_true rfl) N222 gb fun T225 h225 X225 e225 W225 V225 N225 => ?_
    have zs226 := Nat.le_trans zs223 (Keep.of_wr W225).1
    have kp226 := kp223.wr W225 (own_i0)
    refine own_iik X225 q d22_32 rfl (show ((2 : Int32) + (1 : Int32)) = (3 : Int32) by decide) (l' := #[.val (.ref a1), .val v'3, .val (.ref b), .val v'2, .val v'3, .val v'2, .val (.int x2)]) rfl (own_iik X225 q d22_35 rfl (show ((2 : Int32) + (1 : Int32)) = (3 : Int32) by decide) (l' := #[.val (.ref a1), .val v'3, .val (.ref b), .val v'3, .val v'3, .val v'2, .val (.int x2)]) rfl (own_iik X225 q d22_38 rfl (show ((2 : Int32) + (1 : Int32)) = (3 : Int32) by decide) (l' := #[.val (.ref a1), .val v'3, .val (.ref b), .val v'3, .val v'3, .val v'3, .val (.int x2)]) rfl (own_gt X225 q d22_41 (own_il X225 q d22_3 rfl (own_il X225 q d22_5 rfl (own_cy X225 q d22_7 ((flt (Int32.lt_irrefl : ¬ ((3 : Int32) < (3 : Int32)))).2.1) (own_il X225 q d22_44 rfl ?_)))))))
    refine own_rI X225 q hrt d22_46 hlk (by decide) ?_
    show QC3a Z b k2 x0 x1 x2 h0 n0 _ T225.heap _
    rw [e225]
    exact ⟨_, rfl, N225, kp226, Or.inl ⟨rfl, ⟨hc20_218, hc20_221, hc20_224⟩, V225⟩⟩
theorem rm25_3 (l : Launch) (Z : State) (a0 : Array Value) (hw : own_hw a0 Z)   (h0 : Heap) (n0 : Nat) (Z0 : n0 ≤ h0.size) :
  own_M l Z [] own_y4 b'25 1 (some (.array .byte)) ⟨1, 1, 6, 12⟩ #[v'3] h0 (QNB3 Z h0 n0) := by
 refine own_start (n0 := n0) hw "java/lang/StringUTF16" (L := #[.val v'3]) pn_25 (fun {p e s m below meth c s₁} q hx W hml hZ hown hnm hlk hrt X0 e0 N0 => ?_)
 have kp0 := Keep.refl h0 []
 refine own_iln X0 q d25_0 rfl ?_
 refine own_cS X0 q hZ e0 hown hml (W 117 rfl) (W 118 rfl) (W 103 rfl) (W 119 rfl) (rm26 l Z a0 hw (3 : Int32) (6 : Int32) h0 n0 Z0 (by decide) (by decide) (by decide)) d25_1 [v'3] [] own_pd0 0 (by decide) (fun v231 T231 L231 X231 hQ231 => ?_)
 obtain ⟨rfl, N231q, e231⟩ := hQ231
 have N231 := Fr.app N0 N231q
 refine own_nv ?_
 refine own_let ?_; intro g232_
 obtain ⟨T233, h233, k233, X233, e233, E233, A233, st233⟩ := newP X231 hx hZ (W 11 rfl) e231 (g := g232_) rfl (q.d d25_4) rfl (by decide) (cap := 6) (by decide) (by decide) (by decide) (by decide)
 obtain ⟨b233, g233⟩ : ∃ z, z = h0.size := ⟨_, rfl⟩
 rw [← g233] at A233 st233
 have V233 : Arv Z h233 b233 k233 .byte (6 : Int32) [v'0, v'0, v'0, v'0, v'0, v'0] v'0 := (Arv.new A233 (by decide)).pad (pad_rep [] v'0 6)
 have zs234 := Nat.le_trans Z0 E233.1
 have kp234 := kp0.ext E233
 have g_b233 : n0 ≤ b233 := Nat.le_trans Z0 (Nat.le_of_eq g233.symm)
 have sz_b233 : h0.size ≤ b233 := Nat.le_trans kp0.1 (Nat.le_of_eq g233.symm)
 refine own_stp 6 st233 ?_
 refine own_rA X233 q hrt d25_6 hlk (by decide) ?_
 show QNB3 Z h0 n0 _ T233.heap _
 rw [e233]
 exact ⟨_, _, rfl, N231, own_extK kp234, sz_b233, V233⟩
theorem rm24_3 (l : Launch) (Z : State) (a0 : Array Value) (hw : own_hw a0 Z) (a1 : Addr) (k1 : ClassId) (x0 x1 x2 : Int32) (h0 : Heap) (n0 : Nat) (Z0 : n0 ≤ h0.size) (O0 : Old Z n0 h0) (SU_ : own_SU Z) (VA : Arv Z h0 a1 k1 .char (3 : Int32) [(.int x0), (.int x1), (.int x2)] v'0) :
  own_M l Z [] own_y5 b'24 5 (some (.array .byte)) ⟨2, 1, 6, 24⟩ #[(.ref a1), v'0, v'3] h0 (QTB3 Z x0 x1 x2 h0 n0) := by
 obtain ⟨SAD, SHI, SLO⟩ := SU_
 refine own_start (n0 := n0) hw "java/lang/StringUTF16" (L := #[.val (.ref a1), .val v'0, .val v'3, .unset, .unset]) pn_24 (fun {p e s m below meth c s₁} q hx W hml hZ hown hnm hlk hrt X0 e0 N0 => ?_)
 have kp0 := Keep.refl h0 []
 refine own_iln X0 q d24_0 rfl ?_
 refine own_cSh X0 q hZ e0 hown hml (W 114 rfl) (W 115 rfl) (W 103 rfl) (W 116 rfl) (rm25_3 l Z a0 hw h0 n0 Z0) d24_1 [v'3] [] own_pd1 0 (by decide) (fun v243 T243 L243 h243 e243' X243 hQ243 => ?_)
 obtain ⟨b243, k243, rfl, N243q, E243, lo243, V243⟩ := hQ243
 have N243 := Fr.app N0 N243q
 have zs244 := Nat.le_trans Z0 E243.1
 have od244 := O0.ext E243
 have kp244 := kp0.ext E243
 have g_b243 : n0 ≤ b243 := Nat.le_trans Z0 lo243
 have sz_b243 : h0.size ≤ b243 := Nat.le_trans kp0.1 lo243
 refine own_nv (own_asn X243 q d24_4 rfl (l' := #[.val (.ref a1), .val v'0, .val v'3, .val (.ref b243), .unset]) rfl (own_k X243 q d24_5 (own_is X243 q d24_6 (l' := #[.val (.ref a1), .val v'0, .val v'3, .val (.ref b243), .val v'0]) rfl (own_il X243 q d24_8 rfl (own_iln X243 q d24_10 rfl (own_cn X243 q d24_11 ((tlt ((by decide) : (0 : Int32) < (3 : Int32))).2.1) (own_aln X243 q d24_14 rfl rfl (own_il X243 q d24_15 rfl (own_aln X243 q d24_17 rfl rfl (own_iln X243 q d24_18 rfl (own_cld (v := (.int x0)) X243 q hZ e243' (VA.ext E243) d24_19 (by decide) rfl ?_)))))))))))
 refine own_cSh X243 q hZ e243' hown hml (W 121 rfl) (W 122 rfl) (W 103 rfl) (W 123 rfl) (rm27 l Z a0 hw b243 (0 : Int32) x0 k243 _ 6 0 h243 n0 zs244 od244 ⟨SAD, SHI, SLO⟩ V243 rfl (by decide) (by decide) rfl g_b243) d24_20 [(.ref b243), v'0, (.int x0)] [] own_pd2 0 (by decide) (fun v245 T245 L245 h245 e245' X245 hQ245 => ?_)
 obtain ⟨rfl, N245q, K245, V245⟩ := hQ245
 have N245 := Fr.app N243 N245q
 have zs246 := Nat.le_trans zs244 K245.1
 have od246 := od244.keep K245 (allS g_b243 all0)
 have kp246 := kp244.trans K245 (allS (Or.inr sz_b243) all0)
 refine own_nn (own_iik X245 q d24_23 rfl (show ((0 : Int32) + (1 : Int32)) = (1 : Int32) by decide) (l' := #[.val (.ref a1), .val v'1, .val v'3, .val (.ref b243), .val v'0]) rfl (own_iik X245 q d24_26 rfl (show ((0 : Int32) + (1 : Int32)) = (1 : Int32) by decide) (l' := #[.val (.ref a1), .val v'1, .val v'3, .val (.ref b243), .val v'1]) rfl (own_gt X245 q d24_29 (own_il X245 q d24_8 rfl (own_iln X245 q d24_10 rfl (own_cn X245 q d24_11 ((tlt ((by decide) : (1 : Int32) < (3 : Int32))).2.1) (own_aln X245 q d24_14 rfl rfl (own_il X245 q d24_15 rfl (own_aln X245 q d24_17 rfl rfl (own_iln X245 q d24_18 rfl (own_cld (v := (.int x1)) X245 q hZ e245' ((VA.ext E243).keep K245 (ninS (own_ne (VA).lt lo243) nin0)) d24_19 (by decide) rfl ?_)))))))))))
 refine own_cSh X245 q hZ e245' hown hml (W 121 rfl) (W 122 rfl) (W 103 rfl) (W 123 rfl) (rm27 l Z a0 hw b243 (1 : Int32) x1 k243 _ 6 1 h245 n0 zs246 od246 ⟨SAD, SHI, SLO⟩ V245 rfl (by decide) (by decide) rfl g_b243) d24_20 [(.ref b243), v'1, (.int x1)] [] own_pd2 0 (by decide) (fun v247 T247 L247 h247 e247' X247 hQ247 => ?_)
 obtain ⟨rfl, N247q, K247, V247⟩ := hQ247
 have N247 := Fr.app N245 N247q
 have zs248 := Nat.le_trans zs246 K247.1
 have od248 := od246.keep K247 (allS g_b243 all0)
 have kp248 := kp246.trans K247 (allS (Or.inr sz_b243) all0)
 refine own_nn (own_iik X247 q d24_23 rfl (show ((1 : Int32) + (1 : Int32)) = (2 : Int32) by decide) (l' := #[.val (.ref a1), .val v'2, .val v'3, .val (.ref b243), .val v'1]) rfl (own_iik X247 q d24_26 rfl (show ((1 : Int32) + (1 : Int32)) = (2 : Int32) by decide) (l' := #[.val (.ref a1), .val v'2, .val v'3, .val (.ref b243), .val v'2]) rfl (own_gt X247 q d24_29 (own_il X247 q d24_8 rfl (own_iln X247 q d24_10 rfl (own_cn X247 q d24_11 ((tlt ((by decide) : (2 : Int32) < (3 : Int32))).2.1) (own_aln X247 q d24_14 rfl rfl (own_il X247 q d24_15 rfl (own_aln X247 q d24_17 rfl rfl (own_iln X247 q d24_18 rfl (own_cld (v := (.int x2)) X247 q hZ e247' (((VA.ext E243).keep K245 (ninS (own_ne (VA).lt lo243) nin0)).keep K247 (ninS (own_ne (VA).lt lo243) nin0)) d24_19 (by decide) rfl ?_)))))))))))
 refine own_cSh X247 q hZ e247' hown hml (W 121 rfl) (W 122 rfl) (W 103 rfl) (W 123 rfl) (rm27 l Z a0 hw b243 (2 : Int32) x2 k243 _ 6 2 h247 n0 zs248 od248 ⟨SAD, SHI, SLO⟩ V247 rfl (by decide) (by decide) rfl g_b243) d24_20 [(.ref b243), v'2, (.int x2)] [] own_pd2 0 (by decide) (fun v249 T249 L249 h249 e249' X249 hQ249 => ?_)
 obtain ⟨rfl, N249q, K249, V249⟩ := hQ249
 have N249 := Fr.app N247 N249q
 have zs250 := Nat.le_trans zs248 K249.1
 have od250 := od248.keep K249 (allS g_b243 all0)
 have kp250 := kp248.trans K249 (allS (Or.inr sz_b243) all0)
 refine own_nn (own_iik X249 q d24_23 rfl (show ((2 : Int32) + (1 : Int32)) = (3 : Int32) by decide) (l' := #[.val (.ref a1), .val v'3, .val v'3, .val (.ref b243), .val v'2]) rfl (own_iik X249 q d24_26 rfl (show ((2 : Int32) + (1 : Int32)) = (3 : Int32) by decide) (l' := #[.val (.ref a1), .val v'3, .val v'3, .val (.ref b243), .val v'3]) rfl (own_gt X249 q d24_29 (own_il X249 q d24_8 rfl (own_iln X249 q d24_10 rfl (own_cy X249 q d24_11 ((flt (Int32.lt_irrefl : ¬ ((3 : Int32) < (3 : Int32)))).2.1) (own_aln X249 q d24_32 rfl rfl ?_)))))))
 refine own_rA X249 q hrt d24_33 hlk (by decide) ?_
 show QTB3 Z x0 x1 x2 h0 n0 _ T249.heap _
 rw [e249']
 exact ⟨_, _, rfl, N249, own_extK kp250, sz_b243, V249⟩
theorem rm21_3 (l : Launch) (Z : State) (a0 : Array Value) (hw : own_hw a0 Z) (a1 : Addr) (k1 : ClassId) (x0 x1 x2 : Int32) (h0 : Heap) (n0 : Nat) (Z0 : n0 ≤ h0.size) (O0 : Old Z n0 h0) (SU_ : own_SU Z) (VA : Arv Z h0 a1 k1 .char (3 : Int32) [(.int x0), (.int x1), (.int x2)] v'0) (hd0 : own_c16 x0) (hd1 : own_c16 x1) (hd2 : own_c16 x2) :
  own_M l Z [] own_y6 b'21 6 (some (.array .byte)) ⟨3, 2, 9, 40⟩ #[(.ref a1), v'0, v'3] h0 (QC3b Z x0 x1 x2 h0 n0) := by
 obtain ⟨SAD, SHI, SLO⟩ := SU_
 refine own_start (n0 := n0) hw "java/lang/StringUTF16" (L := #[.val (.ref a1), .val v'0, .val v'3, .unset, .unset, .unset]) pn_21 (fun {p e s m below meth c s₁} q hx W hml hZ hown hnm hlk hrt X0 e0 N0 => ?_)
 have hby := q.2
 have kp0 := Keep.refl h0 []
 refine own_iln X0 q d21_0 rfl ?_
 refine own_let ?_; intro g265_
 obtain ⟨T266, h266, k266, X266, e266, E266, A266, st266⟩ := newP X0 hx hZ (W 11 rfl) e0 (g := g265_) rfl (q.d d21_1) rfl (by decide) (cap := 3) (by decide) (by decide) (by decide) (by decide)
 obtain ⟨b266, g266⟩ : ∃ z, z = h0.size := ⟨_, rfl⟩
 rw [← g266] at A266 st266
 have V266 : Arv Z h266 b266 k266 .byte (3 : Int32) [v'0, v'0, v'0] v'0 := (Arv.new A266 (by decide)).pad (pad_rep [] v'0 3)
 have zs267 := Nat.le_trans Z0 E266.1
 have od267 := O0.ext E266
 have kp267 := kp0.ext E266
 have g_b266 : n0 ≤ b266 := Nat.le_trans Z0 (Nat.le_of_eq g266.symm)
 have sz_b266 : h0.size ≤ b266 := Nat.le_trans kp0.1 (Nat.le_of_eq g266.symm)
 refine own_stp 3 st266 (own_asn X266 q d21_3 rfl (l' := #[.val (.ref a1), .val v'0, .val v'3, .val (.ref b266), .unset, .unset]) rfl (own_aln X266 q d21_4 rfl rfl (own_iln X266 q d21_5 rfl (own_aln X266 q d21_6 rfl rfl (own_k X266 q d21_7 (own_iln X266 q d21_8 rfl ?_))))))
 refine own_cSh X266 q hZ e266 hown hml (W 105 rfl) (W 106 rfl) (W 103 rfl) (W 107 rfl) (rm22_3 l Z a0 hw a1 b266 k1 k266 x0 x1 x2 h266 n0 zs267 (VA.ext E266) V266 g_b266 (own_ne (VA).lt (Nat.le_of_eq g266.symm))) d21_9 [(.ref a1), v'0, (.ref b266), v'0, v'3] [] own_pd3 0 (by decide) (fun v268 T268 L268 h268 e268' X268 hQ268 => ?_)
 obtain ⟨z268, rfl, N268q, K268, D268⟩ := hQ268
 have N268 := Fr.app N0 N268q
 have zs269 := Nat.le_trans zs267 K268.1
 have od269 := od267.keep K268 (allS g_b266 all0)
 have kp269 := kp267.trans K268 (allS (Or.inr sz_b266) all0)
 refine own_nv ?_
 rcases D268 with ⟨hz, hA, hV⟩ | ⟨hz, hB⟩ | ⟨hz, hB⟩ | ⟨hz, hB⟩
 ·subst hz
  show own_Fin _ _ _ _ (T268.setTop (mkF m 12 #[.val (.ref a1), .val v'0, .val v'3, .val (.ref b266), .unset, .unset] [v'3]))
  refine own_is X268 q d21_12 (l' := #[.val (.ref a1), .val v'0, .val v'3, .val (.ref b266), .val v'3, .unset]) rfl (own_il X268 q d21_14 rfl (own_iln X268 q d21_16 rfl (own_cy X268 q d21_17 ((teq (rfl : (3 : Int32) = (3 : Int32))).1) (own_aln X268 q d21_57 rfl rfl ?_))))
  refine own_rA X268 q hrt d21_58 hlk (by decide) ?_
  show QC3b Z x0 x1 x2 h0 n0 _ T268.heap _
  rw [e268']
  exact ⟨_, _, rfl, N268, own_extK kp269, sz_b266, Or.inl ⟨hA, hV⟩⟩
 ·subst hz
  show own_Fin _ _ _ _ (T268.setTop (mkF m 12 #[.val (.ref a1), .val v'0, .val v'3, .val (.ref b266), .unset, .unset] [v'0]))
  refine own_is X268 q d21_12 (l' := #[.val (.ref a1), .val v'0, .val v'3, .val (.ref b266), .val v'0, .unset]) rfl (own_il X268 q d21_14 rfl (own_iln X268 q d21_16 rfl (own_cn X268 q d21_17 ((feq ((by decide) : ¬ ((0 : Int32) = (3 : Int32)))).1) (own_aln X268 q d21_20 rfl rfl (own_iln X268 q d21_21 rfl (own_iln X268 q d21_22 rfl ?_))))))
  refine own_cSh X268 q hZ e268' hown hml (W 111 rfl) (W 112 rfl) (W 103 rfl) (W 113 rfl) (rm24_3 l Z a0 hw a1 k1 x0 x1 x2 h268 n0 zs269 od269 ⟨SAD, SHI, SLO⟩ ((VA.ext E266).keep K268 (ninS (own_ne (VA).lt (Nat.le_of_eq g266.symm)) nin0))) d21_23 [(.ref a1), v'0, v'3] [] own_pd4 0 (by decide) (fun v270 T270 L270 h270 e270' X270 hQ270 => ?_)
  obtain ⟨b270, k270, rfl, N270q, E270, lo270, V270⟩ := hQ270
  have N270 := Fr.app N268 N270q
  have zs271 := Nat.le_trans zs269 E270.1
  have od271 := od269.ext E270
  have kp271 := kp269.ext E270
  have g_b270 : n0 ≤ b270 := Nat.le_trans zs269 lo270
  have sz_b270 : h0.size ≤ b270 := Nat.le_trans kp269.1 lo270
  refine own_nv (own_as X270 q d21_26 rfl (l' := #[.val (.ref a1), .val v'0, .val v'3, .val (.ref b266), .val v'0, .val (.ref b270)]) rfl (own_al X270 q d21_28 rfl rfl (own_il X270 q d21_30 rfl ?_)))
  refine own_cS X270 q hZ e270' hown hml (W 127 rfl) (W 128 rfl) (W 103 rfl) (W 129 rfl) (rm28 l Z a0 hw b270 (0 : Int32) k270 _ 6 0 x0 h270 n0 zs271 od271 ⟨SAD, SHI, SLO⟩ V270 rfl (by decide) (by decide) rfl rfl) d21_32 [(.ref b270), v'0] [] own_pd5 0 (by decide) (fun v272 T272 L272 X272 hQ272 => ?_)
  obtain ⟨rfl, N272q, e272⟩ := hQ272
  have N272 := Fr.app N270 N272q
  refine own_nv (own_k X272 q d21_35 (own_cy X272 q d21_38 ((tlt ((by rw [own_gcE hd0]; exact hB) : (255 : Int32) < (own_gc x0))).2.2.1) (own_al X272 q d21_54 rfl rfl ?_)))
  refine own_rA X272 q hrt d21_56 hlk (by decide) ?_
  show QC3b Z x0 x1 x2 h0 n0 _ T272.heap _
  rw [e272]
  exact ⟨_, _, rfl, N272, own_extK kp271, sz_b270, Or.inr ⟨(Or.inl hB), V270⟩⟩
 ·subst hz
  show own_Fin _ _ _ _ (T268.setTop (mkF m 12 #[.val (.ref a1), .val v'0, .val v'3, .val (.ref b266), .unset, .unset] [v'1]))
  refine own_is X268 q d21_12 (l' := #[.val (.ref a1), .val v'0, .val v'3, .val (.ref b266), .val v'1, .unset]) rfl (own_il X268 q d21_14 rfl (own_iln X268 q d21_16 rfl (own_cn X268 q d21_17 ((feq ((by decide) : ¬ ((1 : Int32) = (3 : Int32)))).1) (own_aln X268 q d21_20 rfl rfl (own_iln X268 q d21_21 rfl (own_iln X268 q d21_22 rfl ?_))))))
  refine own_cSh X268 q hZ e268' hown hml (W 111 rfl) (W 112 rfl) (W 103 rfl) (W 113 rfl) (rm24_3 l Z a0 hw a1 k1 x0 x1 x2 h268 n0 zs269 od269 ⟨SAD, SHI, SLO⟩ ((VA.ext E266).keep K268 (ninS (own_ne (VA).lt (Nat.le_of_eq g266.symm)) nin0))) d21_23 [(.ref a1), v'0, v'3] [] own_pd4 0 (by decide) (fun v273 T273 L273 h273 e273' X273 hQ273 => ?_)
  obtain ⟨b273, k273, rfl, N273q, E273, lo273, V273⟩ := hQ273
  have N273 := Fr.app N268 N273q
  have zs274 := Nat.le_trans zs269 E273.1
  have od274 := od269.ext E273
  have kp274 := kp269.ext E273
  have g_b273 : n0 ≤ b273 := Nat.le_trans zs269 lo273
  have sz_b273 : h0.size ≤ b273 := Nat.le_trans kp269.1 lo273
  refine own_nv (own_as X273 q d21_26 rfl (l' := #[.val (.ref a1), .val v'0, .val v'3, .val (.ref b266), .val v'1, .val (.ref b273)]) rfl (own_al X273 q d21_28 rfl rfl (own_il X273 q d21_30 rfl ?_)))
  refine own_cS X273 q hZ e273' hown hml (W 127 rfl) (W 128 rfl) (W 103 rfl) (W 129 rfl) (rm28 l Z a0 hw b273 (1 : Int32) k273 _ 6 1 x1 h273 n0 zs274 od274 ⟨SAD, SHI, SLO⟩ V273 rfl (by decide) (by decide) rfl rfl) d21_32 [(.ref b273), v'1] [] own_pd5 0 (by decide) (fun v275 T275 L275 X275 hQ275 => ?_)
  obtain ⟨rfl, N275q, e275⟩ := hQ275
  have N275 := Fr.app N273 N275q
  refine own_nv (own_k X275 q d21_35 (own_cy X275 q d21_38 ((tlt ((by rw [own_gcE hd1]; exact hB) : (255 : Int32) < (own_gc x1))).2.2.1) (own_al X275 q d21_54 rfl rfl ?_)))
  refine own_rA X275 q hrt d21_56 hlk (by decide) ?_
  show QC3b Z x0 x1 x2 h0 n0 _ T275.heap _
  rw [e275]
  exact ⟨_, _, rfl, N275, own_extK kp274, sz_b273, Or.inr ⟨(Or.inr (Or.inl hB)), V273⟩⟩
 ·subst hz
  show own_Fin _ _ _ _ (T268.setTop (mkF m 12 #[.val (.ref a1), .val v'0, .val v'3, .val (.ref b266), .unset, .unset] [v'2]))
  refine own_is X268 q d21_12 (l' := #[.val (.ref a1), .val v'0, .val v'3, .val (.ref b266), .val v'2, .unset]) rfl (own_il X268 q d21_14 rfl (own_iln X268 q d21_16 rfl (own_cn X268 q d21_17 ((feq ((by decide) : ¬ ((2 : Int32) = (3 : Int32)))).1) (own_aln X268 q d21_20 rfl rfl (own_iln X268 q d21_21 rfl (own_iln X268 q d21_22 rfl ?_))))))
  refine own_cSh X268 q hZ e268' hown hml (W 111 rfl) (W 112 rfl) (W 103 rfl) (W 113 rfl) (rm24_3 l Z a0 hw a1 k1 x0 x1 x2 h268 n0 zs269 od269 ⟨SAD, SHI, SLO⟩ ((VA.ext E266).keep K268 (ninS (own_ne (VA).lt (Nat.le_of_eq g266.symm)) nin0))) d21_23 [(.ref a1), v'0, v'3] [] own_pd4 0 (by decide) (fun v276 T276 L276 h276 e276' X276 hQ276 => ?_)
  obtain ⟨b276, k276, rfl, N276q, E276, lo276, V276⟩ := hQ276
  have N276 := Fr.app N268 N276q
  have zs277 := Nat.le_trans zs269 E276.1
  have od277 := od269.ext E276
  have kp277 := kp269.ext E276
  have g_b276 : n0 ≤ b276 := Nat.le_trans zs269 lo276
  have sz_b276 : h0.size ≤ b276 := Nat.le_trans kp269.1 lo276
  refine own_nv (own_as X276 q d21_26 rfl (l' := #[.val (.ref a1), .val v'0, .val v'3, .val (.ref b266), .val v'2, .val (.ref b276)]) rfl (own_al X276 q d21_28 rfl rfl (own_il X276 q d21_30 rfl ?_)))
  refine own_cS X276 q hZ e276' hown hml (W 127 rfl) (W 128 rfl) (W 103 rfl) (W 129 rfl) (rm28 l Z a0 hw b276 (2 : Int32) k276 _ 6 2 x2 h276 n0 zs277 od277 ⟨SAD, SHI, SLO⟩ V276 rfl (by decide) (by decide) rfl rfl) d21_32 [(.ref b276), v'2] [] own_pd5 0 (by decide) (fun v278 T278 L278 X278 hQ278 => ?_)
  obtain ⟨rfl, N278q, e278⟩ := hQ278
  have N278 := Fr.app N276 N278q
  refine own_nv (own_k X278 q d21_35 (own_cy X278 q d21_38 ((tlt ((by rw [own_gcE hd2]; exact hB) : (255 : Int32) < (own_gc x2))).2.2.1) (own_al X278 q d21_54 rfl rfl ?_)))
  refine own_rA X278 q hrt d21_56 hlk (by decide) ?_
  show QC3b Z x0 x1 x2 h0 n0 _ T278.heap _
  rw [e278]
  exact ⟨_, _, rfl, N278, own_extK kp277, sz_b276, Or.inr ⟨(Or.inr (Or.inr hB)), V276⟩⟩
theorem rm23_3_3 (l : Launch) (Z : State) (a0 : Array Value) (hw : own_hw a0 Z) (a1 : Addr) (k1 : ClassId) (vs : List Value) (h0 : Heap) (n0 : Nat) (Z0 : n0 ≤ h0.size) (VA : Arv Z h0 a1 k1 .byte (3 : Int32) vs v'0) :
  own_M l Z [] own_y7 b'23 2 (some .byte) ⟨0, 0, 0, 0⟩ #[(.ref a1), v'3] h0 (QI (0 : Int32) h0 n0) := by
 refine own_start (n0 := n0) hw "java/lang/StringUTF16" (L := #[.val (.ref a1), .val v'3]) pn_23 (fun {p e s m below meth c s₁} q hx W hml hZ hown hnm hlk hrt X0 e0 N0 => ?_)
 refine own_iln X0 q d23_0 rfl (own_aln X0 q d23_1 rfl rfl (own_alen (n := (3 : Int32)) X0 q hZ e0 VA d23_2 (own_isubk 0 X0 q d23_3 (by decide) (own_k X0 q d23_4 (own_stp 7 (fun _ k => XS.iushr X0.here hx rfl (q.d d23_6) rfl k) ?_)))))
 rw [show (((0 : Int32).toUInt32 >>> ((31 : Int32) &&& 31).toUInt32).toInt32) = (0 : Int32) from by decide]
 refine own_stp 8 (fun _ k => XS.i2b X0.here hx rfl (q.d d23_7) rfl k) ?_
 rw [show ((0 : Int32).toInt8.toInt32) = (0 : Int32) from by decide]
 refine own_rN X0 q hrt (by simp) d23_8 hlk (by decide) ?_
 show QI (0 : Int32) h0 n0 _ s₁.heap _
 rw [e0]
 exact ⟨rfl, N0, rfl⟩
theorem rm23_3_6 (l : Launch) (Z : State) (a0 : Array Value) (hw : own_hw a0 Z) (a1 : Addr) (k1 : ClassId) (vs : List Value) (h0 : Heap) (n0 : Nat) (Z0 : n0 ≤ h0.size) (VA : Arv Z h0 a1 k1 .byte (6 : Int32) vs v'0) :
  own_M l Z [] own_y7 b'23 2 (some .byte) ⟨0, 0, 0, 0⟩ #[(.ref a1), v'3] h0 (QI (1 : Int32) h0 n0) := by
 refine own_start (n0 := n0) hw "java/lang/StringUTF16" (L := #[.val (.ref a1), .val v'3]) pn_23 (fun {p e s m below meth c s₁} q hx W hml hZ hown hnm hlk hrt X0 e0 N0 => ?_)
 refine own_iln X0 q d23_0 rfl (own_aln X0 q d23_1 rfl rfl (own_alen (n := (6 : Int32)) X0 q hZ e0 VA d23_2 (own_isubk (-3) X0 q d23_3 (by decide) (own_k X0 q d23_4 (own_stp 7 (fun _ k => XS.iushr X0.here hx rfl (q.d d23_6) rfl k) ?_)))))
 rw [show (((-3 : Int32).toUInt32 >>> ((31 : Int32) &&& 31).toUInt32).toInt32) = (1 : Int32) from by decide]
 refine own_stp 8 (fun _ k => XS.i2b X0.here hx rfl (q.d d23_7) rfl k) ?_
 rw [show ((1 : Int32).toInt8.toInt32) = (1 : Int32) from by decide]
 refine own_rN X0 q hrt (by simp) d23_8 hlk (by decide) ?_
 show QI (1 : Int32) h0 n0 _ s₁.heap _
 rw [e0]
 exact ⟨rfl, N0, rfl⟩
theorem rm20_3 (l : Launch) (Z : State) (a0 : Array Value) (hw : own_hw a0 Z) (a1 : Addr) (a2 : Addr) (k1 : ClassId) (x0 x1 x2 : Int32) (cs0 : Int32) (h0 : Heap) (n0 : Nat) (Z0 : n0 ≤ h0.size) (E1 : Exa Z h0 a1 "java/lang/String") (FV : F'1 Z h0 a1 .null) (FC : F'0 Z h0 a1 v'0) (VA : Arv Z h0 a2 k1 .char (3 : Int32) [(.int x0), (.int x1), (.int x2)] v'0) (g1 : n0 ≤ a1) (n12 : a1 ≠ a2) (O0 : Old Z n0 h0) (SC_ : own_SC Z cs0) (SU_ : own_SU Z) (hd0 : own_c16 x0) (hd1 : own_c16 x1) (hd2 : own_c16 x2) :
  own_M l Z [] own_y8 b'20 6 none ⟨4, 2, 9, 57⟩ #[(.ref a1), (.ref a2), v'0, v'3, .null] h0 (QI3 Z a1 x0 x1 x2 h0 n0) := by
 obtain ⟨SCS, hcs⟩ := SC_; obtain ⟨SAD, SHI, SLO⟩ := SU_
 refine own_start (n0 := n0) hw "java/lang/String" (L := #[.val (.ref a1), .val (.ref a2), .val v'0, .val v'3, .val .null, .unset]) pn_20 (fun {p e s m below meth c s₁} q hx W hml hZ hown hnm hlk hrt X0 e0 N0 => ?_)
 have hby := q.2
 have kp0 := Keep.refl h0 [a1]
 refine own_aln X0 q d20_0 rfl rfl ?_
 refine own_let ?_; intro g298_
 obtain ⟨T299, X299, e299, st299⟩ := initO X0 hx hZ hown (W 92 rfl) (W 53 rfl) (W 54 rfl) e0 (g := g298_) rfl (by rw [hml]; rfl) rfl (q.d d20_1) (by decide) (W := 0) (by show 2 * 0 + _ ≤ _; exact Nat.le_of_eq rfl) (by decide)
 refine own_stp 4 st299 (own_iln X299 q d20_4 rfl (own_zy X299 q d20_5 (((if0 _ _).trans (feq ((by decide) : ¬ ((3 : Int32) = (0 : Int32)))).2)) ?_))
 refine own_gS X299 q hZ e299 hown (W 41 rfl) (SCS.ext O0.2) d20_27 fun T300 X300 e300 => ?_
 refine own_zn X300 q d20_30 (((if0 _ _).trans (feq hcs).1)) (own_aln X300 q d20_33 rfl rfl (own_iln X300 q d20_34 rfl (own_iln X300 q d20_35 rfl ?_)))
 refine own_cSh X300 q hZ e300 hown hml (W 101 rfl) (W 102 rfl) (W 103 rfl) (W 104 rfl) (rm21_3 l Z a0 hw a2 k1 x0 x1 x2 h0 n0 Z0 O0 ⟨SAD, SHI, SLO⟩ VA hd0 hd1 hd2) d20_36 [(.ref a2), v'0, v'3] [] own_pd4 0 (by decide) (fun v301 T301 L301 h301 e301' X301 hQ301 => ?_)
 obtain ⟨b301, k301, rfl, N301q, E301, lo301, D301⟩ := hQ301
 have N301 := Fr.app N0 N301q
 have zs302 := Nat.le_trans Z0 E301.1
 have od302 := O0.ext E301
 have kp302 := kp0.ext E301
 have g_b301 : n0 ≤ b301 := Nat.le_trans Z0 lo301
 have sz_b301 : h0.size ≤ b301 := Nat.le_trans kp0.1 lo301
 refine own_nv ?_
 rcases D301 with ⟨hA, hV⟩ | ⟨hA, hV⟩
 ·have hV_ := hV
  show own_Fin _ _ _ _ (T301.setTop (mkF m 39 #[.val (.ref a1), .val (.ref a2), .val v'0, .val v'3, .val .null, .unset] [(.ref b301)]))
  refine own_as X301 q d20_39 rfl (l' := #[.val (.ref a1), .val (.ref a2), .val v'0, .val v'3, .val .null, .val (.ref b301)]) rfl (own_aln X301 q d20_41 rfl rfl (own_al X301 q d20_42 rfl rfl (own_iln X301 q d20_44 rfl ?_)))
  refine own_cS X301 q hZ e301' hown hml (W 108 rfl) (W 109 rfl) (W 103 rfl) (W 110 rfl) (rm23_3_3 l Z a0 hw b301 k301 _ h301 n0 zs302 hV) d20_45 [(.ref b301), v'3] [(.ref a1)] own_pd6 1 (by decide) (fun v303 T303 L303 X303 hQ303 => ?_)
  obtain ⟨rfl, N303q, e303⟩ := hQ303
  have N303 := Fr.app N301 N303q
  refine own_nv ?_
  refine own_let ?_; intro g304_
  obtain ⟨T305, h305, X305, e305, W305, st305⟩ := putFN X303 hx hZ hown (W 42 rfl) Via.refl e303 (FC.ext E301) (E1.ext E301) (Or.inr ⟨(W 13 rfl), rfl, hnm⟩) (W 10 rfl) (ty := .byte) (v' := v'0) (by decide) rfl rfl (g := g304_) rfl rfl (q.d d20_48)
  have zs306 := Nat.le_trans zs302 (Keep.of_wr W305).1
  have od306 := od302.wr W305 g1
  have kp306 := kp302.wr W305 (own_i0)
  have Fw305 := ((FC.ext E301)).same W305
  have N305 := Fr.snoc X305 N303 g1
  refine own_stp 51 st305 (own_aln X305 q d20_51 rfl rfl (own_al X305 q d20_52 rfl rfl ?_))
  refine own_let ?_; intro g307_
  obtain ⟨T308, h308, X308, e308, W308, st308⟩ := putF X305 hx hZ hown (host := "") (Or.inl (W 35 rfl)) Via.refl e305 ((FV.ext E301).other W305 (Or.inr (slot_ne (Or.inr (W 12 rfl)) (Or.inr (W 13 rfl)) (by decide) (t := (.array .byte)) (t' := .byte) (by decide) (by decide)))) ((E1.ext E301).wr W305) (Or.inr ⟨(W 12 rfl), rfl, hnm⟩) (W 10 rfl) (ty := (.array .byte)) (by decide) rfl rfl (g := g307_) rfl rfl (q.d d20_54)
  have zs309 := Nat.le_trans zs306 (Keep.of_wr W308).1
  have od309 := od306.wr W308 g1
  have kp309 := kp306.wr W308 (own_i0)
  have Fw308 := (((FV.ext E301).other W305 (Or.inr (slot_ne (Or.inr (W 12 rfl)) (Or.inr (W 13 rfl)) (by decide) (t := (.array .byte)) (t' := .byte) (by decide) (by decide))))).same W308
  have N308 := Fr.snoc X308 N305 g1
  refine own_stp 57 st308 ?_
  refine own_rV X308 q hrt d20_57 hlk (by decide) ?_
  show QI3 Z a1 x0 x1 x2 h0 n0 _ T308.heap _
  rw [e308]
  exact ⟨_, _, rfl, N308, kp309, sz_b301, Fw308, Or.inl ⟨(Fw305.other W308 (Or.inr (slot_ne (Or.inr (W 13 rfl)) (Or.inr (W 12 rfl)) (by decide) (t := .byte) (t' := (.array .byte)) (by decide) (by decide)))), hA, ((hV.other W305 (Ne.symm (own_ne (E1).lt lo301))).other W308 (Ne.symm (own_ne (E1).lt lo301)))⟩⟩
 ·have hV_ := hV
  show own_Fin _ _ _ _ (T301.setTop (mkF m 39 #[.val (.ref a1), .val (.ref a2), .val v'0, .val v'3, .val .null, .unset] [(.ref b301)]))
  refine own_as X301 q d20_39 rfl (l' := #[.val (.ref a1), .val (.ref a2), .val v'0, .val v'3, .val .null, .val (.ref b301)]) rfl (own_aln X301 q d20_41 rfl rfl (own_al X301 q d20_42 rfl rfl (own_iln X301 q d20_44 rfl ?_)))
  refine own_cS X301 q hZ e301' hown hml (W 108 rfl) (W 109 rfl) (W 103 rfl) (W 110 rfl) (rm23_3_6 l Z a0 hw b301 k301 _ h301 n0 zs302 hV) d20_45 [(.ref b301), v'3] [(.ref a1)] own_pd6 1 (by decide) (fun v310 T310 L310 X310 hQ310 => ?_)
  obtain ⟨rfl, N310q, e310⟩ := hQ310
  have N310 := Fr.app N301 N310q
  refine own_nv ?_
  refine own_let ?_; intro g311_
  obtain ⟨T312, h312, X312, e312, W312, st312⟩ := putFN X310 hx hZ hown (W 42 rfl) Via.refl e310 (FC.ext E301) (E1.ext E301) (Or.inr ⟨(W 13 rfl), rfl, hnm⟩) (W 10 rfl) (ty := .byte) (v' := v'1) (by decide) rfl rfl (g := g311_) rfl rfl (q.d d20_48)
  have zs313 := Nat.le_trans zs302 (Keep.of_wr W312).1
  have od313 := od302.wr W312 g1
  have kp313 := kp302.wr W312 (own_i0)
  have Fw312 := ((FC.ext E301)).same W312
  have N312 := Fr.snoc X312 N310 g1
  refine own_stp 51 st312 (own_aln X312 q d20_51 rfl rfl (own_al X312 q d20_52 rfl rfl ?_))
  refine own_let ?_; intro g314_
  obtain ⟨T315, h315, X315, e315, W315, st315⟩ := putF X312 hx hZ hown (host := "") (Or.inl (W 35 rfl)) Via.refl e312 ((FV.ext E301).other W312 (Or.inr (slot_ne (Or.inr (W 12 rfl)) (Or.inr (W 13 rfl)) (by decide) (t := (.array .byte)) (t' := .byte) (by decide) (by decide)))) ((E1.ext E301).wr W312) (Or.inr ⟨(W 12 rfl), rfl, hnm⟩) (W 10 rfl) (ty := (.array .byte)) (by decide) rfl rfl (g := g314_) rfl rfl (q.d d20_54)
  have zs316 := Nat.le_trans zs313 (Keep.of_wr W315).1
  have od316 := od313.wr W315 g1
  have kp316 := kp313.wr W315 (own_i0)
  have Fw315 := (((FV.ext E301).other W312 (Or.inr (slot_ne (Or.inr (W 12 rfl)) (Or.inr (W 13 rfl)) (by decide) (t := (.array .byte)) (t' := .byte) (by decide) (by decide))))).same W315
  have N315 := Fr.snoc X315 N312 g1
  refine own_stp 57 st315 ?_
  refine own_rV X315 q hrt d20_57 hlk (by decide) ?_
  show QI3 Z a1 x0 x1 x2 h0 n0 _ T315.heap _
  rw [e315]
  exact ⟨_, _, rfl, N315, kp316, sz_b301, Fw315, Or.inr ⟨(Fw312.other W315 (Or.inr (slot_ne (Or.inr (W 13 rfl)) (Or.inr (W 12 rfl)) (by decide) (t := .byte) (t' := (.array .byte)) (by decide) (by decide)))), hA, ((hV.other W312 (Ne.symm (own_ne (E1).lt lo301))).other W315 (Ne.symm (own_ne (E1).lt lo301)))⟩⟩
theorem rm19_3 (l : Launch) (Z : State) (a0 : Array Value) (hw : own_hw a0 Z) (a1 : Addr) (a2 : Addr) (k1 : ClassId) (x0 x1 x2 : Int32) (cs0 : Int32) (h0 : Heap) (n0 : Nat) (Z0 : n0 ≤ h0.size) (E1 : Exa Z h0 a1 "java/lang/String") (FV : F'1 Z h0 a1 .null) (FC : F'0 Z h0 a1 v'0) (VA : Arv Z h0 a2 k1 .char (3 : Int32) [(.int x0), (.int x1), (.int x2)] v'0) (g1 : n0 ≤ a1) (n12 : a1 ≠ a2) (O0 : Old Z n0 h0) (SC_ : own_SC Z cs0) (SU_ : own_SU Z) (hd0 : own_c16 x0) (hd1 : own_c16 x1) (hd2 : own_c16 x2) :
  own_M l Z [] own_y9 b'19 2 none ⟨5, 2, 9, 74⟩ #[(.ref a1), (.ref a2)] h0 (QI3 Z a1 x0 x1 x2 h0 n0) := by
 obtain ⟨SCS, hcs⟩ := SC_; obtain ⟨SAD, SHI, SLO⟩ := SU_
 refine own_start (n0 := n0) hw "java/lang/String" (L := #[.val (.ref a1), .val (.ref a2)]) pn_19 (fun {p e s m below meth c s₁} q hx W hml hZ hown hnm hlk hrt X0 e0 N0 => ?_)
 have kp0 := Keep.refl h0 [a1]
 refine own_aln X0 q d19_0 rfl rfl (own_aln X0 q d19_1 rfl rfl (own_k X0 q d19_2 (own_aln X0 q d19_3 rfl rfl (own_alen (n := (3 : Int32)) X0 q hZ e0 VA d19_4 (own_nl X0 q d19_5 ?_)))))
 refine own_cIh (a := a1) X0 q hZ e0 hown hml (W 98 rfl) (W 99 rfl) (W 9 rfl) (W 100 rfl) (rm20_3 l Z a0 hw a1 a2 k1 x0 x1 x2 cs0 h0 n0 Z0 E1 FV FC VA g1 n12 O0 ⟨SCS, hcs⟩ ⟨SAD, SHI, SLO⟩ hd0 hd1 hd2) d19_6 [(.ref a2), v'0, v'3, .null] [] own_pd7 0 rfl (by decide) (fun v319 T319 L319 h319 e319' X319 hQ319 => ?_)
 obtain ⟨t319, k319, rfl, N319q, K319, lo319, Fv319, D319⟩ := hQ319
 have N319 := Fr.app N0 N319q
 have zs320 := Nat.le_trans Z0 K319.1
 have od320 := O0.keep K319 (allS g1 all0)
 have kp320 := kp0.trans K319 (allS (own_i0) all0)
 have g_t319 : n0 ≤ t319 := Nat.le_trans Z0 lo319
 have sz_t319 : h0.size ≤ t319 := Nat.le_trans kp0.1 lo319
 refine own_nn ?_
 refine own_rV X319 q hrt d19_9 hlk (by decide) ?_
 show QI3 Z a1 x0 x1 x2 h0 n0 _ T319.heap _
 rw [e319']
 exact ⟨_, _, rfl, N319, kp320, sz_t319, Fv319, D319⟩
theorem d8_0 : own_D b'8 0 (.getstatic 38) 3 3 := by decide +kernel
theorem d8_3 : own_DZ b'8 3 .eq 13 6 := by decide +kernel
theorem d8_6 : own_D b'8 6 (.aload_n 0) 1 7 := by decide +kernel
theorem d8_7 : own_D b'8 7 (.getfield 15) 3 10 := by decide +kernel
theorem d8_10 : own_DG b'8 10 14 := by decide +kernel
theorem d8_13 : own_DK b'8 13 1 14 := by decide +kernel
theorem d8_14 : own_D b'8 14 .ireturn 1 15 := by decide +kernel
theorem pn_8 : plainFor (⟨"java/lang/String", "coder", "()B"⟩ : MethodName) = true := plainFor_of_name (by first | (simp [plainName, overriddenIn]; done) | decide +kernel)
theorem rm8_0 (l : Launch) (Z : State) (a0 : Array Value) (hw : own_hw a0 Z) (a1 : Addr) (cs0 : Int32) (h0 : Heap) (n0 : Nat) (Z0 : n0 ≤ h0.size) (O0 : Old Z n0 h0) (SC_ : own_SC Z cs0) (FC : F'0 Z h0 a1 v'0) :
  own_M l Z [] own_y10 b'8 1 (some .byte) ⟨0, 0, 0, 0⟩ #[(.ref a1)] h0 (QI (0 : Int32) h0 n0) := by
 obtain ⟨SCS, hcs⟩ := SC_
 refine own_start (n0 := n0) hw "java/lang/String" (L := #[.val (.ref a1)]) pn_8 (fun {p e s m below meth c s₁} q hx W hml hZ hown hnm hlk hrt X0 e0 N0 => ?_)
 refine own_gS X0 q hZ e0 hown (W 41 rfl) (SCS.ext O0.2) d8_0 fun T323 X323 e323 => ?_
 refine own_zn X323 q d8_3 (((if0 _ _).trans (feq hcs).1)) (own_aln X323 q d8_6 rfl rfl ?_)
 refine own_gF X323 q hZ e323 hown (W 42 rfl) FC d8_7 fun T324 X324 e324 => ?_
 refine own_gt X324 q d8_10 ?_
 refine own_rN X324 q hrt (by simp) d8_14 hlk (by decide) ?_
 show QI (0 : Int32) h0 n0 _ T324.heap _
 rw [e324]
 exact ⟨rfl, N0, rfl⟩
theorem d31_0 : own_D b'31 0 (.getstatic 38) 3 3 := by decide +kernel
theorem d31_3 : own_DZ b'31 3 .eq 17 6 := by decide +kernel
theorem d31_6 : own_D b'31 6 (.aload_n 0) 1 7 := by decide +kernel
theorem d31_7 : own_D b'31 7 (.getfield 15) 3 10 := by decide +kernel
theorem d31_10 : own_DZ b'31 10 .ne 17 13 := by decide +kernel
theorem d31_13 : own_DK b'31 13 1 14 := by decide +kernel
theorem d31_14 : own_DG b'31 14 18 := by decide +kernel
theorem d31_17 : own_DK b'31 17 0 18 := by decide +kernel
theorem d31_18 : own_D b'31 18 .ireturn 1 19 := by decide +kernel
theorem pn_31 : plainFor (⟨"java/lang/String", "isLatin1", "()Z"⟩ : MethodName) = true := plainFor_of_name (by first | (simp [plainName, overriddenIn]; done) | decide +kernel)
theorem rm31_0 (l : Launch) (Z : State) (a0 : Array Value) (hw : own_hw a0 Z) (a1 : Addr) (cs0 : Int32) (h0 : Heap) (n0 : Nat) (Z0 : n0 ≤ h0.size) (O0 : Old Z n0 h0) (SC_ : own_SC Z cs0) (FC : F'0 Z h0 a1 v'0) :
  own_M l Z [] own_y11 b'31 1 (some .boolean) ⟨0, 0, 0, 0⟩ #[(.ref a1)] h0 (QI (1 : Int32) h0 n0) := by
 obtain ⟨SCS, hcs⟩ := SC_
 refine own_start (n0 := n0) hw "java/lang/String" (L := #[.val (.ref a1)]) pn_31 (fun {p e s m below meth c s₁} q hx W hml hZ hown hnm hlk hrt X0 e0 N0 => ?_)
 refine own_gS X0 q hZ e0 hown (W 41 rfl) (SCS.ext O0.2) d31_0 fun T327 X327 e327 => ?_
 refine own_zn X327 q d31_3 (((if0 _ _).trans (feq hcs).1)) (own_aln X327 q d31_6 rfl rfl ?_)
 refine own_gF X327 q hZ e327 hown (W 42 rfl) FC d31_7 fun T328 X328 e328 => ?_
 refine own_zn X328 q d31_10 (((if0 _ _).trans (teq (rfl : (0 : Int32) = (0 : Int32))).2)) (own_k X328 q d31_13 (own_gt X328 q d31_14 ?_))
 refine own_rN X328 q hrt (by simp) d31_18 hlk (by decide) ?_
 show QI (1 : Int32) h0 n0 _ T328.heap _
 rw [e328]
 exact ⟨rfl, N0, rfl⟩
theorem rm8_1 (l : Launch) (Z : State) (a0 : Array Value) (hw : own_hw a0 Z) (a1 : Addr) (cs0 : Int32) (h0 : Heap) (n0 : Nat) (Z0 : n0 ≤ h0.size) (O0 : Old Z n0 h0) (SC_ : own_SC Z cs0) (FC : F'0 Z h0 a1 v'1) :
  own_M l Z [] own_y10 b'8 1 (some .byte) ⟨0, 0, 0, 0⟩ #[(.ref a1)] h0 (QI (1 : Int32) h0 n0) := by
 obtain ⟨SCS, hcs⟩ := SC_
 refine own_start (n0 := n0) hw "java/lang/String" (L := #[.val (.ref a1)]) pn_8 (fun {p e s m below meth c s₁} q hx W hml hZ hown hnm hlk hrt X0 e0 N0 => ?_)
 refine own_gS X0 q hZ e0 hown (W 41 rfl) (SCS.ext O0.2) d8_0 fun T331 X331 e331 => ?_
 refine own_zn X331 q d8_3 (((if0 _ _).trans (feq hcs).1)) (own_aln X331 q d8_6 rfl rfl ?_)
 refine own_gF X331 q hZ e331 hown (W 42 rfl) FC d8_7 fun T332 X332 e332 => ?_
 refine own_gt X332 q d8_10 ?_
 refine own_rN X332 q hrt (by simp) d8_14 hlk (by decide) ?_
 show QI (1 : Int32) h0 n0 _ T332.heap _
 rw [e332]
 exact ⟨rfl, N0, rfl⟩
theorem rm31_1 (l : Launch) (Z : State) (a0 : Array Value) (hw : own_hw a0 Z) (a1 : Addr) (cs0 : Int32) (h0 : Heap) (n0 : Nat) (Z0 : n0 ≤ h0.size) (O0 : Old Z n0 h0) (SC_ : own_SC Z cs0) (FC : F'0 Z h0 a1 v'1) :
  own_M l Z [] own_y11 b'31 1 (some .boolean) ⟨0, 0, 0, 0⟩ #[(.ref a1)] h0 (QI (0 : Int32) h0 n0) := by
 obtain ⟨SCS, hcs⟩ := SC_
 refine own_start (n0 := n0) hw "java/lang/String" (L := #[.val (.ref a1)]) pn_31 (fun {p e s m below meth c s₁} q hx W hml hZ hown hnm hlk hrt X0 e0 N0 => ?_)
 refine own_gS X0 q hZ e0 hown (W 41 rfl) (SCS.ext O0.2) d31_0 fun T335 X335 e335 => ?_
 refine own_zn X335 q d31_3 (((if0 _ _).trans (feq hcs).1)) (own_aln X335 q d31_6 rfl rfl ?_)
 refine own_gF X335 q hZ e335 hown (W 42 rfl) FC d31_7 fun T336 X336 e336 => ?_
 refine own_zy X336 q d31_10 (((if0 _ _).trans (feq ((by decide) : ¬ ((1 : Int32) = (0 : Int32)))).2)) (own_k X336 q d31_17 ?_)
 refine own_rN X336 q hrt (by simp) d31_18 hlk (by decide) ?_
 show QI (0 : Int32) h0 n0 _ T336.heap _
 rw [e336]
 exact ⟨rfl, N0, rfl⟩
theorem d7_0 : own_D b'7 0 (.aload_n 0) 1 1 := by decide +kernel
theorem d7_1 : own_D b'7 1 (.getfield 9) 3 4 := by decide +kernel
theorem d7_4 : own_D b'7 4 .arraylength 1 5 := by decide +kernel
theorem d7_5 : own_D b'7 5 (.aload_n 0) 1 6 := by decide +kernel
theorem d7_6 : own_D b'7 6 (.invokevirtual 335) 3 9 := by decide +kernel
theorem d7_9 : own_D b'7 9 .ishr 1 10 := by decide +kernel
theorem d7_10 : own_D b'7 10 .ireturn 1 11 := by decide +kernel
theorem pn_7 : plainFor (⟨"java/lang/String", "length", "()I"⟩ : MethodName) = true := plainFor_of_name (by first | (simp [plainName, overriddenIn]; done) | decide +kernel)
theorem rm7_L0 (l : Launch) (Z : State) (a0 : Array Value) (hw : own_hw a0 Z) (a1 : Addr) (t : Addr) (k : ClassId) (cs0 : Int32) (fo : Value) (h0 : Heap) (n0 : Nat) (Z0 : n0 ≤ h0.size) (O0 : Old Z n0 h0) (SC_ : own_SC Z cs0) (SIO : Sta Z Z.heap "jdk/internal/util/Preconditions" "SIOOBE_FORMATTER" "Ljava/util/function/BiFunction;" fo) (hfo : fo.isRef = true) (SU_ : own_SU Z) (E1 : Exa Z h0 a1 "java/lang/String") (FV : F'1 Z h0 a1 (.ref t)) (FC : F'0 Z h0 a1 v'0) (VA : Arv Z h0 t k .byte (0 : Int32) [] v'0) :
  own_M l Z [] own_y12 b'7 1 (some .int) ⟨1, 0, 0, 13⟩ #[(.ref a1)] h0 (QI (0 : Int32) h0 n0) := by
 obtain ⟨SCS, hcs⟩ := SC_; obtain ⟨SAD, SHI, SLO⟩ := SU_
 refine own_start (n0 := n0) hw "java/lang/String" (L := #[.val (.ref a1)]) pn_7 (fun {p e s m below meth c s₁} q hx W hml hZ hown hnm hlk hrt X0 e0 N0 => ?_)
 refine own_aln X0 q d7_0 rfl rfl ?_
 refine own_gF X0 q hZ e0 hown (W 35 rfl) FV d7_1 fun T371 X371 e371 => ?_
 refine own_alen (n := (0 : Int32)) X371 q hZ e371 VA d7_4 (own_aln X371 q d7_5 rfl rfl ?_)
 refine own_cV X371 q hZ e371 hown hml (W 36 rfl) (W 37 rfl) (W 39 rfl) (W 38 rfl) (W 9 rfl) (W 40 rfl) rfl E1 (rm8_0 l Z a0 hw a1 cs0 h0 n0 Z0 O0 ⟨SCS, hcs⟩ FC) d7_6 [] [v'0] own_pd8 1 (by decide) (fun v372 T372 L372 X372 hQ372 => ?_)
 obtain ⟨rfl, N372q, e372⟩ := hQ372
 have N372 := Fr.app N0 N372q
 refine own_nv (own_stp 10 (fun _ k => XS.ishr X372.here hx rfl (q.d d7_9) rfl k) ?_)
 rw [show ((0 : Int32) >>> ((0 : Int32) &&& 31)) = (0 : Int32) from by decide]
 refine own_rI X372 q hrt d7_10 hlk (by decide) ?_
 show QI (0 : Int32) h0 n0 _ T372.heap _
 rw [e372]
 exact ⟨rfl, N372, rfl⟩
theorem rm7_U0 (l : Launch) (Z : State) (a0 : Array Value) (hw : own_hw a0 Z) (a1 : Addr) (t : Addr) (k : ClassId) (cs0 : Int32) (fo : Value) (h0 : Heap) (n0 : Nat) (Z0 : n0 ≤ h0.size) (O0 : Old Z n0 h0) (SC_ : own_SC Z cs0) (SIO : Sta Z Z.heap "jdk/internal/util/Preconditions" "SIOOBE_FORMATTER" "Ljava/util/function/BiFunction;" fo) (hfo : fo.isRef = true) (SU_ : own_SU Z) (E1 : Exa Z h0 a1 "java/lang/String") (FV : F'1 Z h0 a1 (.ref t)) (FC : F'0 Z h0 a1 v'1) (VA : Arv Z h0 t k .byte (0 : Int32) [] v'0) :
  own_M l Z [] own_y12 b'7 1 (some .int) ⟨1, 0, 0, 13⟩ #[(.ref a1)] h0 (QI (0 : Int32) h0 n0) := by
 obtain ⟨SCS, hcs⟩ := SC_; obtain ⟨SAD, SHI, SLO⟩ := SU_
 refine own_start (n0 := n0) hw "java/lang/String" (L := #[.val (.ref a1)]) pn_7 (fun {p e s m below meth c s₁} q hx W hml hZ hown hnm hlk hrt X0 e0 N0 => ?_)
 refine own_aln X0 q d7_0 rfl rfl ?_
 refine own_gF X0 q hZ e0 hown (W 35 rfl) FV d7_1 fun T375 X375 e375 => ?_
 refine own_alen (n := (0 : Int32)) X375 q hZ e375 VA d7_4 (own_aln X375 q d7_5 rfl rfl ?_)
 refine own_cV X375 q hZ e375 hown hml (W 36 rfl) (W 37 rfl) (W 39 rfl) (W 38 rfl) (W 9 rfl) (W 40 rfl) rfl E1 (rm8_1 l Z a0 hw a1 cs0 h0 n0 Z0 O0 ⟨SCS, hcs⟩ FC) d7_6 [] [v'0] own_pd8 1 (by decide) (fun v376 T376 L376 X376 hQ376 => ?_)
 obtain ⟨rfl, N376q, e376⟩ := hQ376
 have N376 := Fr.app N0 N376q
 refine own_nv (own_stp 10 (fun _ k => XS.ishr X376.here hx rfl (q.d d7_9) rfl k) ?_)
 rw [show ((0 : Int32) >>> ((1 : Int32) &&& 31)) = (0 : Int32) from by decide]
 refine own_rI X376 q hrt d7_10 hlk (by decide) ?_
 show QI (0 : Int32) h0 n0 _ T376.heap _
 rw [e376]
 exact ⟨rfl, N376, rfl⟩
theorem rm7_L1 (l : Launch) (Z : State) (a0 : Array Value) (hw : own_hw a0 Z) (a1 : Addr) (t : Addr) (k : ClassId) (x0 : Int32) (cs0 : Int32) (fo : Value) (h0 : Heap) (n0 : Nat) (Z0 : n0 ≤ h0.size) (O0 : Old Z n0 h0) (SC_ : own_SC Z cs0) (SIO : Sta Z Z.heap "jdk/internal/util/Preconditions" "SIOOBE_FORMATTER" "Ljava/util/function/BiFunction;" fo) (hfo : fo.isRef = true) (SU_ : own_SU Z) (E1 : Exa Z h0 a1 "java/lang/String") (FV : F'1 Z h0 a1 (.ref t)) (FC : F'0 Z h0 a1 v'0) (VA : Arv Z h0 t k .byte (1 : Int32) [(.int (nar .byte (x0.toInt8.toInt32)))] v'0) :
  own_M l Z [] own_y12 b'7 1 (some .int) ⟨1, 0, 0, 13⟩ #[(.ref a1)] h0 (QI (1 : Int32) h0 n0) := by
 obtain ⟨SCS, hcs⟩ := SC_; obtain ⟨SAD, SHI, SLO⟩ := SU_
 refine own_start (n0 := n0) hw "java/lang/String" (L := #[.val (.ref a1)]) pn_7 (fun {p e s m below meth c s₁} q hx W hml hZ hown hnm hlk hrt X0 e0 N0 => ?_)
 refine own_aln X0 q d7_0 rfl rfl ?_
 refine own_gF X0 q hZ e0 hown (W 35 rfl) FV d7_1 fun T379 X379 e379 => ?_
 refine own_alen (n := (1 : Int32)) X379 q hZ e379 VA d7_4 (own_aln X379 q d7_5 rfl rfl ?_)
 refine own_cV X379 q hZ e379 hown hml (W 36 rfl) (W 37 rfl) (W 39 rfl) (W 38 rfl) (W 9 rfl) (W 40 rfl) rfl E1 (rm8_0 l Z a0 hw a1 cs0 h0 n0 Z0 O0 ⟨SCS, hcs⟩ FC) d7_6 [] [v'1] own_pd8 1 (by decide) (fun v380 T380 L380 X380 hQ380 => ?_)
 obtain ⟨rfl, N380q, e380⟩ := hQ380
 have N380 := Fr.app N0 N380q
 refine own_nv (own_stp 10 (fun _ k => XS.ishr X380.here hx rfl (q.d d7_9) rfl k) ?_)
 rw [show ((1 : Int32) >>> ((0 : Int32) &&& 31)) = (1 : Int32) from by decide]
 refine own_rI X380 q hrt d7_10 hlk (by decide) ?_
 show QI (1 : Int32) h0 n0 _ T380.heap _
 rw [e380]
 exact ⟨rfl, N380, rfl⟩
theorem rm7_U1 (l : Launch) (Z : State) (a0 : Array Value) (hw : own_hw a0 Z) (a1 : Addr) (t : Addr) (k : ClassId) (x0 : Int32) (cs0 : Int32) (fo : Value) (h0 : Heap) (n0 : Nat) (Z0 : n0 ≤ h0.size) (O0 : Old Z n0 h0) (SC_ : own_SC Z cs0) (SIO : Sta Z Z.heap "jdk/internal/util/Preconditions" "SIOOBE_FORMATTER" "Ljava/util/function/BiFunction;" fo) (hfo : fo.isRef = true) (SU_ : own_SU Z) (E1 : Exa Z h0 a1 "java/lang/String") (FV : F'1 Z h0 a1 (.ref t)) (FC : F'0 Z h0 a1 v'1) (VA : Arv Z h0 t k .byte (2 : Int32) [(.int (nar .byte ((x0 >>> ((0 : Int32) &&& 31)).toInt8.toInt32))), (.int (nar .byte ((x0 >>> ((8 : Int32) &&& 31)).toInt8.toInt32)))] v'0) :
  own_M l Z [] own_y12 b'7 1 (some .int) ⟨1, 0, 0, 13⟩ #[(.ref a1)] h0 (QI (1 : Int32) h0 n0) := by
 obtain ⟨SCS, hcs⟩ := SC_; obtain ⟨SAD, SHI, SLO⟩ := SU_
 refine own_start (n0 := n0) hw "java/lang/String" (L := #[.val (.ref a1)]) pn_7 (fun {p e s m below meth c s₁} q hx W hml hZ hown hnm hlk hrt X0 e0 N0 => ?_)
 refine own_aln X0 q d7_0 rfl rfl ?_
 refine own_gF X0 q hZ e0 hown (W 35 rfl) FV d7_1 fun T383 X383 e383 => ?_
 refine own_alen (n := (2 : Int32)) X383 q hZ e383 VA d7_4 (own_aln X383 q d7_5 rfl rfl ?_)
 refine own_cV X383 q hZ e383 hown hml (W 36 rfl) (W 37 rfl) (W 39 rfl) (W 38 rfl) (W 9 rfl) (W 40 rfl) rfl E1 (rm8_1 l Z a0 hw a1 cs0 h0 n0 Z0 O0 ⟨SCS, hcs⟩ FC) d7_6 [] [v'2] own_pd8 1 (by decide) (fun v384 T384 L384 X384 hQ384 => ?_)
 obtain ⟨rfl, N384q, e384⟩ := hQ384
 have N384 := Fr.app N0 N384q
 refine own_nv (own_stp 10 (fun _ k => XS.ishr X384.here hx rfl (q.d d7_9) rfl k) ?_)
 rw [show ((2 : Int32) >>> ((1 : Int32) &&& 31)) = (1 : Int32) from by decide]
 refine own_rI X384 q hrt d7_10 hlk (by decide) ?_
 show QI (1 : Int32) h0 n0 _ T384.heap _
 rw [e384]
 exact ⟨rfl, N384, rfl⟩
theorem rm7_L2 (l : Launch) (Z : State) (a0 : Array Value) (hw : own_hw a0 Z) (a1 : Addr) (t : Addr) (k : ClassId) (x0 x1 : Int32) (cs0 : Int32) (fo : Value) (h0 : Heap) (n0 : Nat) (Z0 : n0 ≤ h0.size) (O0 : Old Z n0 h0) (SC_ : own_SC Z cs0) (SIO : Sta Z Z.heap "jdk/internal/util/Preconditions" "SIOOBE_FORMATTER" "Ljava/util/function/BiFunction;" fo) (hfo : fo.isRef = true) (SU_ : own_SU Z) (E1 : Exa Z h0 a1 "java/lang/String") (FV : F'1 Z h0 a1 (.ref t)) (FC : F'0 Z h0 a1 v'0) (VA : Arv Z h0 t k .byte (2 : Int32) [(.int (nar .byte (x0.toInt8.toInt32))), (.int (nar .byte (x1.toInt8.toInt32)))] v'0) :
  own_M l Z [] own_y12 b'7 1 (some .int) ⟨1, 0, 0, 13⟩ #[(.ref a1)] h0 (QI (2 : Int32) h0 n0) := by
 obtain ⟨SCS, hcs⟩ := SC_; obtain ⟨SAD, SHI, SLO⟩ := SU_
 refine own_start (n0 := n0) hw "java/lang/String" (L := #[.val (.ref a1)]) pn_7 (fun {p e s m below meth c s₁} q hx W hml hZ hown hnm hlk hrt X0 e0 N0 => ?_)
 refine own_aln X0 q d7_0 rfl rfl ?_
 refine own_gF X0 q hZ e0 hown (W 35 rfl) FV d7_1 fun T387 X387 e387 => ?_
 refine own_alen (n := (2 : Int32)) X387 q hZ e387 VA d7_4 (own_aln X387 q d7_5 rfl rfl ?_)
 refine own_cV X387 q hZ e387 hown hml (W 36 rfl) (W 37 rfl) (W 39 rfl) (W 38 rfl) (W 9 rfl) (W 40 rfl) rfl E1 (rm8_0 l Z a0 hw a1 cs0 h0 n0 Z0 O0 ⟨SCS, hcs⟩ FC) d7_6 [] [v'2] own_pd8 1 (by decide) (fun v388 T388 L388 X388 hQ388 => ?_)
 obtain ⟨rfl, N388q, e388⟩ := hQ388
 have N388 := Fr.app N0 N388q
 refine own_nv (own_stp 10 (fun _ k => XS.ishr X388.here hx rfl (q.d d7_9) rfl k) ?_)
 rw [show ((2 : Int32) >>> ((0 : Int32) &&& 31)) = (2 : Int32) from by decide]
 refine own_rI X388 q hrt d7_10 hlk (by decide) ?_
 show QI (2 : Int32) h0 n0 _ T388.heap _
 rw [e388]
 exact ⟨rfl, N388, rfl⟩
theorem rm7_U2 (l : Launch) (Z : State) (a0 : Array Value) (hw : own_hw a0 Z) (a1 : Addr) (t : Addr) (k : ClassId) (x0 x1 : Int32) (cs0 : Int32) (fo : Value) (h0 : Heap) (n0 : Nat) (Z0 : n0 ≤ h0.size) (O0 : Old Z n0 h0) (SC_ : own_SC Z cs0) (SIO : Sta Z Z.heap "jdk/internal/util/Preconditions" "SIOOBE_FORMATTER" "Ljava/util/function/BiFunction;" fo) (hfo : fo.isRef = true) (SU_ : own_SU Z) (E1 : Exa Z h0 a1 "java/lang/String") (FV : F'1 Z h0 a1 (.ref t)) (FC : F'0 Z h0 a1 v'1) (VA : Arv Z h0 t k .byte (4 : Int32) [(.int (nar .byte ((x0 >>> ((0 : Int32) &&& 31)).toInt8.toInt32))), (.int (nar .byte ((x0 >>> ((8 : Int32) &&& 31)).toInt8.toInt32))), (.int (nar .byte ((x1 >>> ((0 : Int32) &&& 31)).toInt8.toInt32))), (.int (nar .byte ((x1 >>> ((8 : Int32) &&& 31)).toInt8.toInt32)))] v'0) :
  own_M l Z [] own_y12 b'7 1 (some .int) ⟨1, 0, 0, 13⟩ #[(.ref a1)] h0 (QI (2 : Int32) h0 n0) := by
 obtain ⟨SCS, hcs⟩ := SC_; obtain ⟨SAD, SHI, SLO⟩ := SU_
 refine own_start (n0 := n0) hw "java/lang/String" (L := #[.val (.ref a1)]) pn_7 (fun {p e s m below meth c s₁} q hx W hml hZ hown hnm hlk hrt X0 e0 N0 => ?_)
 refine own_aln X0 q d7_0 rfl rfl ?_
 refine own_gF X0 q hZ e0 hown (W 35 rfl) FV d7_1 fun T391 X391 e391 => ?_
 refine own_alen (n := (4 : Int32)) X391 q hZ e391 VA d7_4 (own_aln X391 q d7_5 rfl rfl ?_)
 refine own_cV X391 q hZ e391 hown hml (W 36 rfl) (W 37 rfl) (W 39 rfl) (W 38 rfl) (W 9 rfl) (W 40 rfl) rfl E1 (rm8_1 l Z a0 hw a1 cs0 h0 n0 Z0 O0 ⟨SCS, hcs⟩ FC) d7_6 [] [(.int (4 : Int32))] own_pd8 1 (by decide) (fun v392 T392 L392 X392 hQ392 => ?_)
 obtain ⟨rfl, N392q, e392⟩ := hQ392
 have N392 := Fr.app N0 N392q
 refine own_nv (own_stp 10 (fun _ k => XS.ishr X392.here hx rfl (q.d d7_9) rfl k) ?_)
 rw [show ((4 : Int32) >>> ((1 : Int32) &&& 31)) = (2 : Int32) from by decide]
 refine own_rI X392 q hrt d7_10 hlk (by decide) ?_
 show QI (2 : Int32) h0 n0 _ T392.heap _
 rw [e392]
 exact ⟨rfl, N392, rfl⟩
theorem rm7_L3 (l : Launch) (Z : State) (a0 : Array Value) (hw : own_hw a0 Z) (a1 : Addr) (t : Addr) (k : ClassId) (x0 x1 x2 : Int32) (cs0 : Int32) (fo : Value) (h0 : Heap) (n0 : Nat) (Z0 : n0 ≤ h0.size) (O0 : Old Z n0 h0) (SC_ : own_SC Z cs0) (SIO : Sta Z Z.heap "jdk/internal/util/Preconditions" "SIOOBE_FORMATTER" "Ljava/util/function/BiFunction;" fo) (hfo : fo.isRef = true) (SU_ : own_SU Z) (E1 : Exa Z h0 a1 "java/lang/String") (FV : F'1 Z h0 a1 (.ref t)) (FC : F'0 Z h0 a1 v'0) (VA : Arv Z h0 t k .byte (3 : Int32) [(.int (nar .byte (x0.toInt8.toInt32))), (.int (nar .byte (x1.toInt8.toInt32))), (.int (nar .byte (x2.toInt8.toInt32)))] v'0) :
  own_M l Z [] own_y12 b'7 1 (some .int) ⟨1, 0, 0, 13⟩ #[(.ref a1)] h0 (QI (3 : Int32) h0 n0) := by
 obtain ⟨SCS, hcs⟩ := SC_; obtain ⟨SAD, SHI, SLO⟩ := SU_
 refine own_start (n0 := n0) hw "java/lang/String" (L := #[.val (.ref a1)]) pn_7 (fun {p e s m below meth c s₁} q hx W hml hZ hown hnm hlk hrt X0 e0 N0 => ?_)
 refine own_aln X0 q d7_0 rfl rfl ?_
 refine own_gF X0 q hZ e0 hown (W 35 rfl) FV d7_1 fun T395 X395 e395 => ?_
 refine own_alen (n := (3 : Int32)) X395 q hZ e395 VA d7_4 (own_aln X395 q d7_5 rfl rfl ?_)
 refine own_cV X395 q hZ e395 hown hml (W 36 rfl) (W 37 rfl) (W 39 rfl) (W 38 rfl) (W 9 rfl) (W 40 rfl) rfl E1 (rm8_0 l Z a0 hw a1 cs0 h0 n0 Z0 O0 ⟨SCS, hcs⟩ FC) d7_6 [] [v'3] own_pd8 1 (by decide) (fun v396 T396 L396 X396 hQ396 => ?_)
 obtain ⟨rfl, N396q, e396⟩ := hQ396
 have N396 := Fr.app N0 N396q
 refine own_nv (own_stp 10 (fun _ k => XS.ishr X396.here hx rfl (q.d d7_9) rfl k) ?_)
 rw [show ((3 : Int32) >>> ((0 : Int32) &&& 31)) = (3 : Int32) from by decide]
 refine own_rI X396 q hrt d7_10 hlk (by decide) ?_
 show QI (3 : Int32) h0 n0 _ T396.heap _
 rw [e396]
 exact ⟨rfl, N396, rfl⟩
theorem rm7_U3 (l : Launch) (Z : State) (a0 : Array Value) (hw : own_hw a0 Z) (a1 : Addr) (t : Addr) (k : ClassId) (x0 x1 x2 : Int32) (cs0 : Int32) (fo : Value) (h0 : Heap) (n0 : Nat) (Z0 : n0 ≤ h0.size) (O0 : Old Z n0 h0) (SC_ : own_SC Z cs0) (SIO : Sta Z Z.heap "jdk/internal/util/Preconditions" "SIOOBE_FORMATTER" "Ljava/util/function/BiFunction;" fo) (hfo : fo.isRef = true) (SU_ : own_SU Z) (E1 : Exa Z h0 a1 "java/lang/String") (FV : F'1 Z h0 a1 (.ref t)) (FC : F'0 Z h0 a1 v'1) (VA : Arv Z h0 t k .byte (6 : Int32) [(.int (nar .byte ((x0 >>> ((0 : Int32) &&& 31)).toInt8.toInt32))), (.int (nar .byte ((x0 >>> ((8 : Int32) &&& 31)).toInt8.toInt32))), (.int (nar .byte ((x1 >>> ((0 : Int32) &&& 31)).toInt8.toInt32))), (.int (nar .byte ((x1 >>> ((8 : Int32) &&& 31)).toInt8.toInt32))), (.int (nar .byte ((x2 >>> ((0 : Int32) &&& 31)).toInt8.toInt32))), (.int (nar .byte ((x2 >>> ((8 : Int32) &&& 31)).toInt8.toInt32)))] v'0) :
  own_M l Z [] own_y12 b'7 1 (some .int) ⟨1, 0, 0, 13⟩ #[(.ref a1)] h0 (QI (3 : Int32) h0 n0) := by
 obtain ⟨SCS, hcs⟩ := SC_; obtain ⟨SAD, SHI, SLO⟩ := SU_
 refine own_start (n0 := n0) hw "java/lang/String" (L := #[.val (.ref a1)]) pn_7 (fun {p e s m below meth c s₁} q hx W hml hZ hown hnm hlk hrt X0 e0 N0 => ?_)
 refine own_aln X0 q d7_0 rfl rfl ?_
 refine own_gF X0 q hZ e0 hown (W 35 rfl) FV d7_1 fun T399 X399 e399 => ?_
 refine own_alen (n := (6 : Int32)) X399 q hZ e399 VA d7_4 (own_aln X399 q d7_5 rfl rfl ?_)
 refine own_cV X399 q hZ e399 hown hml (W 36 rfl) (W 37 rfl) (W 39 rfl) (W 38 rfl) (W 9 rfl) (W 40 rfl) rfl E1 (rm8_1 l Z a0 hw a1 cs0 h0 n0 Z0 O0 ⟨SCS, hcs⟩ FC) d7_6 [] [(.int (6 : Int32))] own_pd8 1 (by decide) (fun v400 T400 L400 X400 hQ400 => ?_)
 obtain ⟨rfl, N400q, e400⟩ := hQ400
 have N400 := Fr.app N0 N400q
 refine own_nv (own_stp 10 (fun _ k => XS.ishr X400.here hx rfl (q.d d7_9) rfl k) ?_)
 rw [show ((6 : Int32) >>> ((1 : Int32) &&& 31)) = (3 : Int32) from by decide]
 refine own_rI X400 q hrt d7_10 hlk (by decide) ?_
 show QI (3 : Int32) h0 n0 _ T400.heap _
 rw [e400]
 exact ⟨rfl, N400, rfl⟩
theorem rm7_str (l : Launch) (Z : State) (a0 : Array Value) (hw : own_hw a0 Z) (a1 : Addr) (X : List Int32) (z : Nat) (cs0 : Int32) (fo : Value) (h0 : Heap) (n0 : Nat) (Z0 : n0 ≤ h0.size) (O0 : Old Z n0 h0) (SC_ : own_SC Z cs0) (SIO : Sta Z Z.heap "jdk/internal/util/Preconditions" "SIOOBE_FORMATTER" "Ljava/util/function/BiFunction;" fo) (hfo : fo.isRef = true) (SU_ : own_SU Z) (S : own_str Z h0 a1 X) (hl : X.length ≤ 3) (hz : X.length = z) :
  own_M l Z [] own_y12 b'7 1 (some .int) ({ frames := 1, cells := 0, slots := 0, locals := 13 } : Room) #[.ref a1] h0 (QI (Int32.ofNat z) h0 n0) := by
 obtain ⟨SCS, hcs⟩ := SC_; obtain ⟨SAD, SHI, SLO⟩ := SU_
 subst hz
 obtain ⟨t, k, E1, FV, D, hc⟩ := S
 rcases X with _ | ⟨x0, _ | ⟨x1, _ | ⟨x2, _ | ⟨x3, X⟩⟩⟩⟩
 ·rcases D with ⟨FC, hA, V⟩ | ⟨FC, V⟩
  ·exact rm7_L0 l Z a0 hw a1 t k  cs0 fo h0 n0 Z0 O0 ⟨SCS, hcs⟩ SIO hfo ⟨SAD, SHI, SLO⟩ E1 FV FC V
  ·exact rm7_U0 l Z a0 hw a1 t k  cs0 fo h0 n0 Z0 O0 ⟨SCS, hcs⟩ SIO hfo ⟨SAD, SHI, SLO⟩ E1 FV FC V
 ·rcases D with ⟨FC, hA, V⟩ | ⟨FC, V⟩
  ·exact rm7_L1 l Z a0 hw a1 t k x0 cs0 fo h0 n0 Z0 O0 ⟨SCS, hcs⟩ SIO hfo ⟨SAD, SHI, SLO⟩ E1 FV FC V
  ·exact rm7_U1 l Z a0 hw a1 t k x0 cs0 fo h0 n0 Z0 O0 ⟨SCS, hcs⟩ SIO hfo ⟨SAD, SHI, SLO⟩ E1 FV FC V
 ·rcases D with ⟨FC, hA, V⟩ | ⟨FC, V⟩
  ·exact rm7_L2 l Z a0 hw a1 t k x0 x1 cs0 fo h0 n0 Z0 O0 ⟨SCS, hcs⟩ SIO hfo ⟨SAD, SHI, SLO⟩ E1 FV FC V
  ·exact rm7_U2 l Z a0 hw a1 t k x0 x1 cs0 fo h0 n0 Z0 O0 ⟨SCS, hcs⟩ SIO hfo ⟨SAD, SHI, SLO⟩ E1 FV FC V
 ·rcases D with ⟨FC, hA, V⟩ | ⟨FC, V⟩
  ·exact rm7_L3 l Z a0 hw a1 t k x0 x1 x2 cs0 fo h0 n0 Z0 O0 ⟨SCS, hcs⟩ SIO hfo ⟨SAD, SHI, SLO⟩ E1 FV FC V
  ·exact rm7_U3 l Z a0 hw a1 t k x0 x1 x2 cs0 fo h0 n0 Z0 O0 ⟨SCS, hcs⟩ SIO hfo ⟨SAD, SHI, SLO⟩ E1 FV FC V
 ·simp at hl; try omega
theorem d36_0 : own_D b'36 0 (.iload_n 0) 1 1 := by decide +kernel
theorem d36_1 : own_DZ b'36 1 .lt 9 4 := by decide +kernel
theorem d36_4 : own_D b'36 4 (.iload_n 0) 1 5 := by decide +kernel
theorem d36_5 : own_D b'36 5 (.iload_n 1) 1 6 := by decide +kernel
theorem d36_6 : own_DJ b'36 6 .lt 16 9 := by decide +kernel
theorem d36_9 : own_D b'36 9 (.aload_n 2) 1 10 := by decide +kernel
theorem d36_10 : own_D b'36 10 (.iload_n 0) 1 11 := by decide +kernel
theorem d36_11 : own_D b'36 11 (.iload_n 1) 1 12 := by decide +kernel
theorem d36_12 : own_D b'36 12 (.invokestatic 95) 3 15 := by decide +kernel
theorem d36_15 : own_D b'36 15 .athrow 1 16 := by decide +kernel
theorem d36_16 : own_D b'36 16 (.iload_n 0) 1 17 := by decide +kernel
theorem d36_17 : own_D b'36 17 .ireturn 1 18 := by decide +kernel
theorem pn_36 : plainFor (⟨"jdk/internal/util/Preconditions", "checkIndex", "(IILjava/util/function/BiFunction;)I"⟩ : MethodName) = true := plainFor_of_name (by first | (simp [plainName, overriddenIn]; done) | decide +kernel)
theorem rm36 (l : Launch) (Z : State) (a0 : Array Value) (hw : own_hw a0 Z) (p1 : Int32) (p2 : Int32) (a3 : Value)  (h0 : Heap) (n0 : Nat) (Z0 : n0 ≤ h0.size) (h3 : a3.isRef = true) (q0 : ¬ p1 < (0 : Int32)) (q1 : p1 < p2) :
  own_M l Z [] own_y13 b'36 3 (some .int) ⟨0, 0, 0, 0⟩ #[(.int p1), (.int p2), a3] h0 (QI p1 h0 n0) := by
 refine own_start (n0 := n0) hw "jdk/internal/util/Preconditions" (L := #[.val (.int p1), .val (.int p2), .val a3]) pn_36 (fun {p e s m below meth c s₁} q hx W hml hZ hown hnm hlk hrt X0 e0 N0 => ?_) rfl (fun m => by rcases ref_cases h3 with hv | ⟨_, hv⟩ <;> subst hv <;> first | (simp [entryFrame, mkF, argsToLocals, Value.category]; done) | rfl)
 refine own_iln X0 q d36_0 rfl (own_zn X0 q d36_1 (((if0 _ _).trans (flt (q0 : ¬ (p1 < (0 : Int32)))).1)) (own_iln X0 q d36_4 rfl (own_iln X0 q d36_5 rfl (own_cy X0 q d36_6 ((tlt (q1 : p1 < p2)).1) (own_iln X0 q d36_16 rfl ?_)))))
 refine own_rI X0 q hrt d36_17 hlk (by decide) ?_
 show QI p1 h0 n0 _ s₁.heap _
 rw [e0]
 exact ⟨rfl, N0, rfl⟩
theorem d35_0 : own_D b'35 0 (.iload_n 0) 1 1 := by decide +kernel
theorem d35_1 : own_D b'35 1 (.iload_n 1) 1 2 := by decide +kernel
theorem d35_2 : own_D b'35 2 (.getstatic 1053) 3 5 := by decide +kernel
theorem d35_5 : own_D b'35 5 (.invokestatic 1059) 3 8 := by decide +kernel
theorem d35_8 : own_D b'35 8 .pop 1 9 := by decide +kernel
theorem d35_9 : own_D b'35 9 .return_ 1 10 := by decide +kernel
theorem pn_35 : plainFor (⟨"java/lang/String", "checkIndex", "(II)V"⟩ : MethodName) = true := plainFor_of_name (by first | (simp [plainName, overriddenIn]; done) | decide +kernel)
theorem rm35 (l : Launch) (Z : State) (a0 : Array Value) (hw : own_hw a0 Z) (p1 : Int32) (p2 : Int32) (fo : Value) (h0 : Heap) (n0 : Nat) (Z0 : n0 ≤ h0.size) (O0 : Old Z n0 h0) (SIO : Sta Z Z.heap "jdk/internal/util/Preconditions" "SIOOBE_FORMATTER" "Ljava/util/function/BiFunction;" fo) (hfo : fo.isRef = true) (q0 : ¬ p1 < (0 : Int32)) (q1 : p1 < p2) :
  own_M l Z [] own_y14 b'35 2 none ⟨1, 0, 0, 14⟩ #[(.int p1), (.int p2)] h0 (QN h0 n0) := by
 refine own_start (n0 := n0) hw "java/lang/String" (L := #[.val (.int p1), .val (.int p2)]) pn_35 (fun {p e s m below meth c s₁} q hx W hml hZ hown hnm hlk hrt X0 e0 N0 => ?_)
 refine own_iln X0 q d35_0 rfl (own_iln X0 q d35_1 rfl ?_)
 refine own_gS X0 q hZ e0 hown (W 155 rfl) (SIO.ext O0.2) d35_2 fun T403 X403 e403 => ?_
 refine own_cS X403 q hZ e403 hown hml (W 157 rfl) (W 158 rfl) (W 156 rfl) (W 159 rfl) (rm36 l Z a0 hw p1 p2 fo h0 n0 Z0 hfo q0 q1) d35_5 [(.int p1), (.int p2), fo] [] own_pd9 0 (by decide) (fun v404 T404 L404 X404 hQ404 => ?_)
 obtain ⟨rfl, N404q, e404⟩ := hQ404
 have N404 := Fr.app N0 N404q
 refine own_nv (own_stp 9 (fun _ k => XS.pop X404.here hx rfl (q.d d35_8) rfl rfl k) ?_)
 refine own_rV X404 q hrt d35_9 hlk (by decide) ?_
 show QN h0 n0 _ T404.heap _
 rw [e404]
 exact ⟨rfl, N404, rfl⟩
theorem d39_0 : own_D b'39 0 (.iload_n 1) 1 1 := by decide +kernel
theorem d39_1 : own_D b'39 1 (.aload_n 0) 1 2 := by decide +kernel
theorem d39_2 : own_D b'39 2 .arraylength 1 3 := by decide +kernel
theorem d39_3 : own_D b'39 3 (.invokestatic 9) 3 6 := by decide +kernel
theorem d39_6 : own_D b'39 6 (.aload_n 0) 1 7 := by decide +kernel
theorem d39_7 : own_D b'39 7 (.iload_n 1) 1 8 := by decide +kernel
theorem d39_8 : own_D b'39 8 .baload 1 9 := by decide +kernel
theorem d39_9 : own_DK b'39 9 255 12 := by decide +kernel
theorem d39_12 : own_D b'39 12 .iand 1 13 := by decide +kernel
theorem d39_13 : own_D b'39 13 .i2c 1 14 := by decide +kernel
theorem d39_14 : own_D b'39 14 .ireturn 1 15 := by decide +kernel
theorem pn_39 : plainFor (⟨"java/lang/StringLatin1", "charAt", "([BI)C"⟩ : MethodName) = true := plainFor_of_name (by first | (simp [plainName, overriddenIn]; done) | decide +kernel)
theorem rm39_1_0 (l : Launch) (Z : State) (a0 : Array Value) (hw : own_hw a0 Z) (a1 : Addr) (k : ClassId) (x0 : Int32) (fo : Value) (h0 : Heap) (n0 : Nat) (Z0 : n0 ≤ h0.size) (O0 : Old Z n0 h0) (SIO : Sta Z Z.heap "jdk/internal/util/Preconditions" "SIOOBE_FORMATTER" "Ljava/util/function/BiFunction;" fo) (hfo : fo.isRef = true) (VA : Arv Z h0 a1 k .byte (1 : Int32) [(.int (nar .byte (x0.toInt8.toInt32)))] v'0) (hn : ¬ (255 : Int32) < x0) (hd : own_c16 x0) :
  own_M l Z [] own_y15 b'39 2 (some .char) ⟨2, 0, 0, 27⟩ #[(.ref a1), v'0] h0 (QI x0 h0 n0) := by
 refine own_start (n0 := n0) hw "java/lang/StringLatin1" (L := #[.val (.ref a1), .val v'0]) pn_39 (fun {p e s m below meth c s₁} q hx W hml hZ hown hnm hlk hrt X0 e0 N0 => ?_)
 refine own_iln X0 q d39_0 rfl (own_aln X0 q d39_1 rfl rfl (own_alen (n := (1 : Int32)) X0 q hZ e0 VA d39_2 ?_))
 refine own_cS X0 q hZ e0 hown hml (W 169 rfl) (W 153 rfl) (W 9 rfl) (W 154 rfl) (rm35 l Z a0 hw (0 : Int32) (1 : Int32) fo h0 n0 Z0 O0 SIO hfo (by decide) (by decide)) d39_3 [v'0, v'1] [] own_pd10 0 (by decide) (fun v418 T418 L418 X418 hQ418 => ?_)
 obtain ⟨rfl, N418q, e418⟩ := hQ418
 have N418 := Fr.app N0 N418q
 refine own_nn (own_aln X418 q d39_6 rfl rfl (own_iln X418 q d39_7 rfl (own_bld (v := (.int (nar .byte (x0.toInt8.toInt32)))) X418 q hZ e418 VA d39_8 (by decide) rfl (own_k X418 q d39_9 (own_stp 13 (fun _ k => XS.iand X418.here hx rfl (q.d d39_12) rfl k) (own_stp 14 (fun _ k => XS.i2c X418.here hx rfl (q.d d39_13) rfl k) ?_))))))
 refine own_rN X418 q hrt (by simp) d39_14 hlk (by decide) ?_
 show QI x0 h0 n0 _ T418.heap _
 rw [e418]
 exact ⟨congrArg (fun z => some (Value.int z)) (own_lcE hn hd), N418, rfl⟩
theorem rm39_2_0 (l : Launch) (Z : State) (a0 : Array Value) (hw : own_hw a0 Z) (a1 : Addr) (k : ClassId) (x0 x1 : Int32) (fo : Value) (h0 : Heap) (n0 : Nat) (Z0 : n0 ≤ h0.size) (O0 : Old Z n0 h0) (SIO : Sta Z Z.heap "jdk/internal/util/Preconditions" "SIOOBE_FORMATTER" "Ljava/util/function/BiFunction;" fo) (hfo : fo.isRef = true) (VA : Arv Z h0 a1 k .byte (2 : Int32) [(.int (nar .byte (x0.toInt8.toInt32))), (.int (nar .byte (x1.toInt8.toInt32)))] v'0) (hn : ¬ (255 : Int32) < x0) (hd : own_c16 x0) :
  own_M l Z [] own_y15 b'39 2 (some .char) ⟨2, 0, 0, 27⟩ #[(.ref a1), v'0] h0 (QI x0 h0 n0) := by
 refine own_start (n0 := n0) hw "java/lang/StringLatin1" (L := #[.val (.ref a1), .val v'0]) pn_39 (fun {p e s m below meth c s₁} q hx W hml hZ hown hnm hlk hrt X0 e0 N0 => ?_)
 refine own_iln X0 q d39_0 rfl (own_aln X0 q d39_1 rfl rfl (own_alen (n := (2 : Int32)) X0 q hZ e0 VA d39_2 ?_))
 refine own_cS X0 q hZ e0 hown hml (W 169 rfl) (W 153 rfl) (W 9 rfl) (W 154 rfl) (rm35 l Z a0 hw (0 : Int32) (2 : Int32) fo h0 n0 Z0 O0 SIO hfo (by decide) (by decide)) d39_3 [v'0, v'2] [] own_pd10 0 (by decide) (fun v420 T420 L420 X420 hQ420 => ?_)
 obtain ⟨rfl, N420q, e420⟩ := hQ420
 have N420 := Fr.app N0 N420q
 refine own_nn (own_aln X420 q d39_6 rfl rfl (own_iln X420 q d39_7 rfl (own_bld (v := (.int (nar .byte (x0.toInt8.toInt32)))) X420 q hZ e420 VA d39_8 (by decide) rfl (own_k X420 q d39_9 (own_stp 13 (fun _ k => XS.iand X420.here hx rfl (q.d d39_12) rfl k) (own_stp 14 (fun _ k => XS.i2c X420.here hx rfl (q.d d39_13) rfl k) ?_))))))
 refine own_rN X420 q hrt (by simp) d39_14 hlk (by decide) ?_
 show QI x0 h0 n0 _ T420.heap _
 rw [e420]
 exact ⟨congrArg (fun z => some (Value.int z)) (own_lcE hn hd), N420, rfl⟩
theorem rm39_2_1 (l : Launch) (Z : State) (a0 : Array Value) (hw : own_hw a0 Z) (a1 : Addr) (k : ClassId) (x0 x1 : Int32) (fo : Value) (h0 : Heap) (n0 : Nat) (Z0 : n0 ≤ h0.size) (O0 : Old Z n0 h0) (SIO : Sta Z Z.heap "jdk/internal/util/Preconditions" "SIOOBE_FORMATTER" "Ljava/util/function/BiFunction;" fo) (hfo : fo.isRef = true) (VA : Arv Z h0 a1 k .byte (2 : Int32) [(.int (nar .byte (x0.toInt8.toInt32))), (.int (nar .byte (x1.toInt8.toInt32)))] v'0) (hn : ¬ (255 : Int32) < x1) (hd : own_c16 x1) :
  own_M l Z [] own_y15 b'39 2 (some .char) ⟨2, 0, 0, 27⟩ #[(.ref a1), v'1] h0 (QI x1 h0 n0) := by
 refine own_start (n0 := n0) hw "java/lang/StringLatin1" (L := #[.val (.ref a1), .val v'1]) pn_39 (fun {p e s m below meth c s₁} q hx W hml hZ hown hnm hlk hrt X0 e0 N0 => ?_)
 refine own_iln X0 q d39_0 rfl (own_aln X0 q d39_1 rfl rfl (own_alen (n := (2 : Int32)) X0 q hZ e0 VA d39_2 ?_))
 refine own_cS X0 q hZ e0 hown hml (W 169 rfl) (W 153 rfl) (W 9 rfl) (W 154 rfl) (rm35 l Z a0 hw (1 : Int32) (2 : Int32) fo h0 n0 Z0 O0 SIO hfo (by decide) (by decide)) d39_3 [v'1, v'2] [] own_pd10 0 (by decide) (fun v422 T422 L422 X422 hQ422 => ?_)
 obtain ⟨rfl, N422q, e422⟩ := hQ422
 have N422 := Fr.app N0 N422q
 refine own_nn (own_aln X422 q d39_6 rfl rfl (own_iln X422 q d39_7 rfl (own_bld (v := (.int (nar .byte (x1.toInt8.toInt32)))) X422 q hZ e422 VA d39_8 (by decide) rfl (own_k X422 q d39_9 (own_stp 13 (fun _ k => XS.iand X422.here hx rfl (q.d d39_12) rfl k) (own_stp 14 (fun _ k => XS.i2c X422.here hx rfl (q.d d39_13) rfl k) ?_))))))
 refine own_rN X422 q hrt (by simp) d39_14 hlk (by decide) ?_
 show QI x1 h0 n0 _ T422.heap _
 rw [e422]
 exact ⟨congrArg (fun z => some (Value.int z)) (own_lcE hn hd), N422, rfl⟩
theorem rm39_3_0 (l : Launch) (Z : State) (a0 : Array Value) (hw : own_hw a0 Z) (a1 : Addr) (k : ClassId) (x0 x1 x2 : Int32) (fo : Value) (h0 : Heap) (n0 : Nat) (Z0 : n0 ≤ h0.size) (O0 : Old Z n0 h0) (SIO : Sta Z Z.heap "jdk/internal/util/Preconditions" "SIOOBE_FORMATTER" "Ljava/util/function/BiFunction;" fo) (hfo : fo.isRef = true) (VA : Arv Z h0 a1 k .byte (3 : Int32) [(.int (nar .byte (x0.toInt8.toInt32))), (.int (nar .byte (x1.toInt8.toInt32))), (.int (nar .byte (x2.toInt8.toInt32)))] v'0) (hn : ¬ (255 : Int32) < x0) (hd : own_c16 x0) :
  own_M l Z [] own_y15 b'39 2 (some .char) ⟨2, 0, 0, 27⟩ #[(.ref a1), v'0] h0 (QI x0 h0 n0) := by
 refine own_start (n0 := n0) hw "java/lang/StringLatin1" (L := #[.val (.ref a1), .val v'0]) pn_39 (fun {p e s m below meth c s₁} q hx W hml hZ hown hnm hlk hrt X0 e0 N0 => ?_)
 refine own_iln X0 q d39_0 rfl (own_aln X0 q d39_1 rfl rfl (own_alen (n := (3 : Int32)) X0 q hZ e0 VA d39_2 ?_))
 refine own_cS X0 q hZ e0 hown hml (W 169 rfl) (W 153 rfl) (W 9 rfl) (W 154 rfl) (rm35 l Z a0 hw (0 : Int32) (3 : Int32) fo h0 n0 Z0 O0 SIO hfo (by decide) (by decide)) d39_3 [v'0, v'3] [] own_pd10 0 (by decide) (fun v424 T424 L424 X424 hQ424 => ?_)
 obtain ⟨rfl, N424q, e424⟩ := hQ424
 have N424 := Fr.app N0 N424q
 refine own_nn (own_aln X424 q d39_6 rfl rfl (own_iln X424 q d39_7 rfl (own_bld (v := (.int (nar .byte (x0.toInt8.toInt32)))) X424 q hZ e424 VA d39_8 (by decide) rfl (own_k X424 q d39_9 (own_stp 13 (fun _ k => XS.iand X424.here hx rfl (q.d d39_12) rfl k) (own_stp 14 (fun _ k => XS.i2c X424.here hx rfl (q.d d39_13) rfl k) ?_))))))
 refine own_rN X424 q hrt (by simp) d39_14 hlk (by decide) ?_
 show QI x0 h0 n0 _ T424.heap _
 rw [e424]
 exact ⟨congrArg (fun z => some (Value.int z)) (own_lcE hn hd), N424, rfl⟩
theorem rm39_3_1 (l : Launch) (Z : State) (a0 : Array Value) (hw : own_hw a0 Z) (a1 : Addr) (k : ClassId) (x0 x1 x2 : Int32) (fo : Value) (h0 : Heap) (n0 : Nat) (Z0 : n0 ≤ h0.size) (O0 : Old Z n0 h0) (SIO : Sta Z Z.heap "jdk/internal/util/Preconditions" "SIOOBE_FORMATTER" "Ljava/util/function/BiFunction;" fo) (hfo : fo.isRef = true) (VA : Arv Z h0 a1 k .byte (3 : Int32) [(.int (nar .byte (x0.toInt8.toInt32))), (.int (nar .byte (x1.toInt8.toInt32))), (.int (nar .byte (x2.toInt8.toInt32)))] v'0) (hn : ¬ (255 : Int32) < x1) (hd : own_c16 x1) :
  own_M l Z [] own_y15 b'39 2 (some .char) ⟨2, 0, 0, 27⟩ #[(.ref a1), v'1] h0 (QI x1 h0 n0) := by
 refine own_start (n0 := n0) hw "java/lang/StringLatin1" (L := #[.val (.ref a1), .val v'1]) pn_39 (fun {p e s m below meth c s₁} q hx W hml hZ hown hnm hlk hrt X0 e0 N0 => ?_)
 refine own_iln X0 q d39_0 rfl (own_aln X0 q d39_1 rfl rfl (own_alen (n := (3 : Int32)) X0 q hZ e0 VA d39_2 ?_))
 refine own_cS X0 q hZ e0 hown hml (W 169 rfl) (W 153 rfl) (W 9 rfl) (W 154 rfl) (rm35 l Z a0 hw (1 : Int32) (3 : Int32) fo h0 n0 Z0 O0 SIO hfo (by decide) (by decide)) d39_3 [v'1, v'3] [] own_pd10 0 (by decide) (fun v426 T426 L426 X426 hQ426 => ?_)
 obtain ⟨rfl, N426q, e426⟩ := hQ426
 have N426 := Fr.app N0 N426q
 refine own_nn (own_aln X426 q d39_6 rfl rfl (own_iln X426 q d39_7 rfl (own_bld (v := (.int (nar .byte (x1.toInt8.toInt32)))) X426 q hZ e426 VA d39_8 (by decide) rfl (own_k X426 q d39_9 (own_stp 13 (fun _ k => XS.iand X426.here hx rfl (q.d d39_12) rfl k) (own_stp 14 (fun _ k => XS.i2c X426.here hx rfl (q.d d39_13) rfl k) ?_))))))
 refine own_rN X426 q hrt (by simp) d39_14 hlk (by decide) ?_
 show QI x1 h0 n0 _ T426.heap _
 rw [e426]
 exact ⟨congrArg (fun z => some (Value.int z)) (own_lcE hn hd), N426, rfl⟩
theorem rm39_3_2 (l : Launch) (Z : State) (a0 : Array Value) (hw : own_hw a0 Z) (a1 : Addr) (k : ClassId) (x0 x1 x2 : Int32) (fo : Value) (h0 : Heap) (n0 : Nat) (Z0 : n0 ≤ h0.size) (O0 : Old Z n0 h0) (SIO : Sta Z Z.heap "jdk/internal/util/Preconditions" "SIOOBE_FORMATTER" "Ljava/util/function/BiFunction;" fo) (hfo : fo.isRef = true) (VA : Arv Z h0 a1 k .byte (3 : Int32) [(.int (nar .byte (x0.toInt8.toInt32))), (.int (nar .byte (x1.toInt8.toInt32))), (.int (nar .byte (x2.toInt8.toInt32)))] v'0) (hn : ¬ (255 : Int32) < x2) (hd : own_c16 x2) :
  own_M l Z [] own_y15 b'39 2 (some .char) ⟨2, 0, 0, 27⟩ #[(.ref a1), v'2] h0 (QI x2 h0 n0) := by
 refine own_start (n0 := n0) hw "java/lang/StringLatin1" (L := #[.val (.ref a1), .val v'2]) pn_39 (fun {p e s m below meth c s₁} q hx W hml hZ hown hnm hlk hrt X0 e0 N0 => ?_)
 refine own_iln X0 q d39_0 rfl (own_aln X0 q d39_1 rfl rfl (own_alen (n := (3 : Int32)) X0 q hZ e0 VA d39_2 ?_))
 refine own_cS X0 q hZ e0 hown hml (W 169 rfl) (W 153 rfl) (W 9 rfl) (W 154 rfl) (rm35 l Z a0 hw (2 : Int32) (3 : Int32) fo h0 n0 Z0 O0 SIO hfo (by decide) (by decide)) d39_3 [v'2, v'3] [] own_pd10 0 (by decide) (fun v428 T428 L428 X428 hQ428 => ?_)
 obtain ⟨rfl, N428q, e428⟩ := hQ428
 have N428 := Fr.app N0 N428q
 refine own_nn (own_aln X428 q d39_6 rfl rfl (own_iln X428 q d39_7 rfl (own_bld (v := (.int (nar .byte (x2.toInt8.toInt32)))) X428 q hZ e428 VA d39_8 (by decide) rfl (own_k X428 q d39_9 (own_stp 13 (fun _ k => XS.iand X428.here hx rfl (q.d d39_12) rfl k) (own_stp 14 (fun _ k => XS.i2c X428.here hx rfl (q.d d39_13) rfl k) ?_))))))
 refine own_rN X428 q hrt (by simp) d39_14 hlk (by decide) ?_
 show QI x2 h0 n0 _ T428.heap _
 rw [e428]
 exact ⟨congrArg (fun z => some (Value.int z)) (own_lcE hn hd), N428, rfl⟩
theorem d34_0 : own_D b'34 0 (.aload_n 0) 1 1 := by decide +kernel
theorem d34_1 : own_D b'34 1 .arraylength 1 2 := by decide +kernel
theorem d34_2 : own_DK b'34 2 1 3 := by decide +kernel
theorem d34_3 : own_D b'34 3 .ishr 1 4 := by decide +kernel
theorem d34_4 : own_D b'34 4 .ireturn 1 5 := by decide +kernel
theorem pn_34 : plainFor (⟨"java/lang/StringUTF16", "length", "([B)I"⟩ : MethodName) = true := plainFor_of_name (by first | (simp [plainName, overriddenIn]; done) | decide +kernel)
theorem rm34_1 (l : Launch) (Z : State) (a0 : Array Value) (hw : own_hw a0 Z) (a1 : Addr) (k : ClassId) (vs : List Value) (h0 : Heap) (n0 : Nat) (Z0 : n0 ≤ h0.size) (VA : Arv Z h0 a1 k .byte (2 : Int32) vs v'0) :
  own_M l Z [] own_y16 b'34 1 (some .int) ⟨0, 0, 0, 0⟩ #[(.ref a1)] h0 (QI (1 : Int32) h0 n0) := by
 refine own_start (n0 := n0) hw "java/lang/StringUTF16" (L := #[.val (.ref a1)]) pn_34 (fun {p e s m below meth c s₁} q hx W hml hZ hown hnm hlk hrt X0 e0 N0 => ?_)
 refine own_aln X0 q d34_0 rfl rfl (own_alen (n := (2 : Int32)) X0 q hZ e0 VA d34_1 (own_k X0 q d34_2 (own_stp 4 (fun _ k => XS.ishr X0.here hx rfl (q.d d34_3) rfl k) ?_)))
 rw [show ((2 : Int32) >>> ((1 : Int32) &&& 31)) = (1 : Int32) from by decide]
 refine own_rI X0 q hrt d34_4 hlk (by decide) ?_
 show QI (1 : Int32) h0 n0 _ s₁.heap _
 rw [e0]
 exact ⟨rfl, N0, rfl⟩
theorem rm34_2 (l : Launch) (Z : State) (a0 : Array Value) (hw : own_hw a0 Z) (a1 : Addr) (k : ClassId) (vs : List Value) (h0 : Heap) (n0 : Nat) (Z0 : n0 ≤ h0.size) (VA : Arv Z h0 a1 k .byte (4 : Int32) vs v'0) :
  own_M l Z [] own_y16 b'34 1 (some .int) ⟨0, 0, 0, 0⟩ #[(.ref a1)] h0 (QI (2 : Int32) h0 n0) := by
 refine own_start (n0 := n0) hw "java/lang/StringUTF16" (L := #[.val (.ref a1)]) pn_34 (fun {p e s m below meth c s₁} q hx W hml hZ hown hnm hlk hrt X0 e0 N0 => ?_)
 refine own_aln X0 q d34_0 rfl rfl (own_alen (n := (4 : Int32)) X0 q hZ e0 VA d34_1 (own_k X0 q d34_2 (own_stp 4 (fun _ k => XS.ishr X0.here hx rfl (q.d d34_3) rfl k) ?_)))
 rw [show ((4 : Int32) >>> ((1 : Int32) &&& 31)) = (2 : Int32) from by decide]
 refine own_rI X0 q hrt d34_4 hlk (by decide) ?_
 show QI (2 : Int32) h0 n0 _ s₁.heap _
 rw [e0]
 exact ⟨rfl, N0, rfl⟩
theorem rm34_3 (l : Launch) (Z : State) (a0 : Array Value) (hw : own_hw a0 Z) (a1 : Addr) (k : ClassId) (vs : List Value) (h0 : Heap) (n0 : Nat) (Z0 : n0 ≤ h0.size) (VA : Arv Z h0 a1 k .byte (6 : Int32) vs v'0) :
  own_M l Z [] own_y16 b'34 1 (some .int) ⟨0, 0, 0, 0⟩ #[(.ref a1)] h0 (QI (3 : Int32) h0 n0) := by
 refine own_start (n0 := n0) hw "java/lang/StringUTF16" (L := #[.val (.ref a1)]) pn_34 (fun {p e s m below meth c s₁} q hx W hml hZ hown hnm hlk hrt X0 e0 N0 => ?_)
 refine own_aln X0 q d34_0 rfl rfl (own_alen (n := (6 : Int32)) X0 q hZ e0 VA d34_1 (own_k X0 q d34_2 (own_stp 4 (fun _ k => XS.ishr X0.here hx rfl (q.d d34_3) rfl k) ?_)))
 rw [show ((6 : Int32) >>> ((1 : Int32) &&& 31)) = (3 : Int32) from by decide]
 refine own_rI X0 q hrt d34_4 hlk (by decide) ?_
 show QI (3 : Int32) h0 n0 _ s₁.heap _
 rw [e0]
 exact ⟨rfl, N0, rfl⟩
theorem d33_0 : own_D b'33 0 (.iload_n 0) 1 1 := by decide +kernel
theorem d33_1 : own_D b'33 1 (.aload_n 1) 1 2 := by decide +kernel
theorem d33_2 : own_D b'33 2 (.invokestatic 48) 3 5 := by decide +kernel
theorem d33_5 : own_D b'33 5 (.invokestatic 414) 3 8 := by decide +kernel
theorem d33_8 : own_D b'33 8 .return_ 1 9 := by decide +kernel
theorem pn_33 : plainFor (⟨"java/lang/StringUTF16", "checkIndex", "(I[B)V"⟩ : MethodName) = true := plainFor_of_name (by first | (simp [plainName, overriddenIn]; done) | decide +kernel)
theorem rm33_1_0 (l : Launch) (Z : State) (a0 : Array Value) (hw : own_hw a0 Z) (a2 : Addr) (k : ClassId) (vs : List Value) (fo : Value) (h0 : Heap) (n0 : Nat) (Z0 : n0 ≤ h0.size) (O0 : Old Z n0 h0) (SIO : Sta Z Z.heap "jdk/internal/util/Preconditions" "SIOOBE_FORMATTER" "Ljava/util/function/BiFunction;" fo) (hfo : fo.isRef = true) (VA : Arv Z h0 a2 k .byte (2 : Int32) vs v'0) :
  own_M l Z [] own_y17 b'33 2 none ⟨2, 0, 0, 27⟩ #[v'0, (.ref a2)] h0 (QN h0 n0) := by
 refine own_start (n0 := n0) hw "java/lang/StringUTF16" (L := #[.val v'0, .val (.ref a2)]) pn_33 (fun {p e s m below meth c s₁} q hx W hml hZ hown hnm hlk hrt X0 e0 N0 => ?_)
 refine own_iln X0 q d33_0 rfl (own_aln X0 q d33_1 rfl rfl ?_)
 refine own_cS X0 q hZ e0 hown hml (W 149 rfl) (W 150 rfl) (W 103 rfl) (W 151 rfl) (rm34_1 l Z a0 hw a2 k _ h0 n0 Z0 VA) d33_2 [(.ref a2)] [v'0] own_pd11 1 (by decide) (fun v455 T455 L455 X455 hQ455 => ?_)
 obtain ⟨rfl, N455q, e455⟩ := hQ455
 have N455 := Fr.app N0 N455q
 refine own_nv ?_
 refine own_cS X455 q hZ e455 hown hml (W 152 rfl) (W 153 rfl) (W 9 rfl) (W 154 rfl) (rm35 l Z a0 hw (0 : Int32) (1 : Int32) fo h0 n0 Z0 O0 SIO hfo (by decide) (by decide)) d33_5 [v'0, v'1] [] own_pd10 0 (by decide) (fun v456 T456 L456 X456 hQ456 => ?_)
 obtain ⟨rfl, N456q, e456⟩ := hQ456
 have N456 := Fr.app N455 N456q
 refine own_nn ?_
 refine own_rV X456 q hrt d33_8 hlk (by decide) ?_
 show QN h0 n0 _ T456.heap _
 rw [e456]
 exact ⟨rfl, N456, rfl⟩
theorem rm33_2_0 (l : Launch) (Z : State) (a0 : Array Value) (hw : own_hw a0 Z) (a2 : Addr) (k : ClassId) (vs : List Value) (fo : Value) (h0 : Heap) (n0 : Nat) (Z0 : n0 ≤ h0.size) (O0 : Old Z n0 h0) (SIO : Sta Z Z.heap "jdk/internal/util/Preconditions" "SIOOBE_FORMATTER" "Ljava/util/function/BiFunction;" fo) (hfo : fo.isRef = true) (VA : Arv Z h0 a2 k .byte (4 : Int32) vs v'0) :
  own_M l Z [] own_y17 b'33 2 none ⟨2, 0, 0, 27⟩ #[v'0, (.ref a2)] h0 (QN h0 n0) := by
 refine own_start (n0 := n0) hw "java/lang/StringUTF16" (L := #[.val v'0, .val (.ref a2)]) pn_33 (fun {p e s m below meth c s₁} q hx W hml hZ hown hnm hlk hrt X0 e0 N0 => ?_)
 refine own_iln X0 q d33_0 rfl (own_aln X0 q d33_1 rfl rfl ?_)
 refine own_cS X0 q hZ e0 hown hml (W 149 rfl) (W 150 rfl) (W 103 rfl) (W 151 rfl) (rm34_2 l Z a0 hw a2 k _ h0 n0 Z0 VA) d33_2 [(.ref a2)] [v'0] own_pd11 1 (by decide) (fun v459 T459 L459 X459 hQ459 => ?_)
 obtain ⟨rfl, N459q, e459⟩ := hQ459
 have N459 := Fr.app N0 N459q
 refine own_nv ?_
 refine own_cS X459 q hZ e459 hown hml (W 152 rfl) (W 153 rfl) (W 9 rfl) (W 154 rfl) (rm35 l Z a0 hw (0 : Int32) (2 : Int32) fo h0 n0 Z0 O0 SIO hfo (by decide) (by decide)) d33_5 [v'0, v'2] [] own_pd10 0 (by decide) (fun v460 T460 L460 X460 hQ460 => ?_)
 obtain ⟨rfl, N460q, e460⟩ := hQ460
 have N460 := Fr.app N459 N460q
 refine own_nn ?_
 refine own_rV X460 q hrt d33_8 hlk (by decide) ?_
 show QN h0 n0 _ T460.heap _
 rw [e460]
 exact ⟨rfl, N460, rfl⟩
theorem rm33_2_1 (l : Launch) (Z : State) (a0 : Array Value) (hw : own_hw a0 Z) (a2 : Addr) (k : ClassId) (vs : List Value) (fo : Value) (h0 : Heap) (n0 : Nat) (Z0 : n0 ≤ h0.size) (O0 : Old Z n0 h0) (SIO : Sta Z Z.heap "jdk/internal/util/Preconditions" "SIOOBE_FORMATTER" "Ljava/util/function/BiFunction;" fo) (hfo : fo.isRef = true) (VA : Arv Z h0 a2 k .byte (4 : Int32) vs v'0) :
  own_M l Z [] own_y17 b'33 2 none ⟨2, 0, 0, 27⟩ #[v'1, (.ref a2)] h0 (QN h0 n0) := by
 refine own_start (n0 := n0) hw "java/lang/StringUTF16" (L := #[.val v'1, .val (.ref a2)]) pn_33 (fun {p e s m below meth c s₁} q hx W hml hZ hown hnm hlk hrt X0 e0 N0 => ?_)
 refine own_iln X0 q d33_0 rfl (own_aln X0 q d33_1 rfl rfl ?_)
 refine own_cS X0 q hZ e0 hown hml (W 149 rfl) (W 150 rfl) (W 103 rfl) (W 151 rfl) (rm34_2 l Z a0 hw a2 k _ h0 n0 Z0 VA) d33_2 [(.ref a2)] [v'1] own_pd11 1 (by decide) (fun v463 T463 L463 X463 hQ463 => ?_)
 obtain ⟨rfl, N463q, e463⟩ := hQ463
 have N463 := Fr.app N0 N463q
 refine own_nv ?_
 refine own_cS X463 q hZ e463 hown hml (W 152 rfl) (W 153 rfl) (W 9 rfl) (W 154 rfl) (rm35 l Z a0 hw (1 : Int32) (2 : Int32) fo h0 n0 Z0 O0 SIO hfo (by decide) (by decide)) d33_5 [v'1, v'2] [] own_pd10 0 (by decide) (fun v464 T464 L464 X464 hQ464 => ?_)
 obtain ⟨rfl, N464q, e464⟩ := hQ464
 have N464 := Fr.app N463 N464q
 refine own_nn ?_
 refine own_rV X464 q hrt d33_8 hlk (by decide) ?_
 show QN h0 n0 _ T464.heap _
 rw [e464]
 exact ⟨rfl, N464, rfl⟩
theorem rm33_3_0 (l : Launch) (Z : State) (a0 : Array Value) (hw : own_hw a0 Z) (a2 : Addr) (k : ClassId) (vs : List Value) (fo : Value) (h0 : Heap) (n0 : Nat) (Z0 : n0 ≤ h0.size) (O0 : Old Z n0 h0) (SIO : Sta Z Z.heap "jdk/internal/util/Preconditions" "SIOOBE_FORMATTER" "Ljava/util/function/BiFunction;" fo) (hfo : fo.isRef = true) (VA : Arv Z h0 a2 k .byte (6 : Int32) vs v'0) :
  own_M l Z [] own_y17 b'33 2 none ⟨2, 0, 0, 27⟩ #[v'0, (.ref a2)] h0 (QN h0 n0) := by
 refine own_start (n0 := n0) hw "java/lang/StringUTF16" (L := #[.val v'0, .val (.ref a2)]) pn_33 (fun {p e s m below meth c s₁} q hx W hml hZ hown hnm hlk hrt X0 e0 N0 => ?_)
 refine own_iln X0 q d33_0 rfl (own_aln X0 q d33_1 rfl rfl ?_)
 refine own_cS X0 q hZ e0 hown hml (W 149 rfl) (W 150 rfl) (W 103 rfl) (W 151 rfl) (rm34_3 l Z a0 hw a2 k _ h0 n0 Z0 VA) d33_2 [(.ref a2)] [v'0] own_pd11 1 (by decide) (fun v467 T467 L467 X467 hQ467 => ?_)
 obtain ⟨rfl, N467q, e467⟩ := hQ467
 have N467 := Fr.app N0 N467q
 refine own_nv ?_
 refine own_cS X467 q hZ e467 hown hml (W 152 rfl) (W 153 rfl) (W 9 rfl) (W 154 rfl) (rm35 l Z a0 hw (0 : Int32) (3 : Int32) fo h0 n0 Z0 O0 SIO hfo (by decide) (by decide)) d33_5 [v'0, v'3] [] own_pd10 0 (by decide) (fun v468 T468 L468 X468 hQ468 => ?_)
 obtain ⟨rfl, N468q, e468⟩ := hQ468
 have N468 := Fr.app N467 N468q
 refine own_nn ?_
 refine own_rV X468 q hrt d33_8 hlk (by decide) ?_
 show QN h0 n0 _ T468.heap _
 rw [e468]
 exact ⟨rfl, N468, rfl⟩
theorem rm33_3_1 (l : Launch) (Z : State) (a0 : Array Value) (hw : own_hw a0 Z) (a2 : Addr) (k : ClassId) (vs : List Value) (fo : Value) (h0 : Heap) (n0 : Nat) (Z0 : n0 ≤ h0.size) (O0 : Old Z n0 h0) (SIO : Sta Z Z.heap "jdk/internal/util/Preconditions" "SIOOBE_FORMATTER" "Ljava/util/function/BiFunction;" fo) (hfo : fo.isRef = true) (VA : Arv Z h0 a2 k .byte (6 : Int32) vs v'0) :
  own_M l Z [] own_y17 b'33 2 none ⟨2, 0, 0, 27⟩ #[v'1, (.ref a2)] h0 (QN h0 n0) := by
 refine own_start (n0 := n0) hw "java/lang/StringUTF16" (L := #[.val v'1, .val (.ref a2)]) pn_33 (fun {p e s m below meth c s₁} q hx W hml hZ hown hnm hlk hrt X0 e0 N0 => ?_)
 refine own_iln X0 q d33_0 rfl (own_aln X0 q d33_1 rfl rfl ?_)
 refine own_cS X0 q hZ e0 hown hml (W 149 rfl) (W 150 rfl) (W 103 rfl) (W 151 rfl) (rm34_3 l Z a0 hw a2 k _ h0 n0 Z0 VA) d33_2 [(.ref a2)] [v'1] own_pd11 1 (by decide) (fun v471 T471 L471 X471 hQ471 => ?_)
 obtain ⟨rfl, N471q, e471⟩ := hQ471
 have N471 := Fr.app N0 N471q
 refine own_nv ?_
 refine own_cS X471 q hZ e471 hown hml (W 152 rfl) (W 153 rfl) (W 9 rfl) (W 154 rfl) (rm35 l Z a0 hw (1 : Int32) (3 : Int32) fo h0 n0 Z0 O0 SIO hfo (by decide) (by decide)) d33_5 [v'1, v'3] [] own_pd10 0 (by decide) (fun v472 T472 L472 X472 hQ472 => ?_)
 obtain ⟨rfl, N472q, e472⟩ := hQ472
 have N472 := Fr.app N471 N472q
 refine own_nn ?_
 refine own_rV X472 q hrt d33_8 hlk (by decide) ?_
 show QN h0 n0 _ T472.heap _
 rw [e472]
 exact ⟨rfl, N472, rfl⟩
theorem rm33_3_2 (l : Launch) (Z : State) (a0 : Array Value) (hw : own_hw a0 Z) (a2 : Addr) (k : ClassId) (vs : List Value) (fo : Value) (h0 : Heap) (n0 : Nat) (Z0 : n0 ≤ h0.size) (O0 : Old Z n0 h0) (SIO : Sta Z Z.heap "jdk/internal/util/Preconditions" "SIOOBE_FORMATTER" "Ljava/util/function/BiFunction;" fo) (hfo : fo.isRef = true) (VA : Arv Z h0 a2 k .byte (6 : Int32) vs v'0) :
  own_M l Z [] own_y17 b'33 2 none ⟨2, 0, 0, 27⟩ #[v'2, (.ref a2)] h0 (QN h0 n0) := by
 refine own_start (n0 := n0) hw "java/lang/StringUTF16" (L := #[.val v'2, .val (.ref a2)]) pn_33 (fun {p e s m below meth c s₁} q hx W hml hZ hown hnm hlk hrt X0 e0 N0 => ?_)
 refine own_iln X0 q d33_0 rfl (own_aln X0 q d33_1 rfl rfl ?_)
 refine own_cS X0 q hZ e0 hown hml (W 149 rfl) (W 150 rfl) (W 103 rfl) (W 151 rfl) (rm34_3 l Z a0 hw a2 k _ h0 n0 Z0 VA) d33_2 [(.ref a2)] [v'2] own_pd11 1 (by decide) (fun v475 T475 L475 X475 hQ475 => ?_)
 obtain ⟨rfl, N475q, e475⟩ := hQ475
 have N475 := Fr.app N0 N475q
 refine own_nv ?_
 refine own_cS X475 q hZ e475 hown hml (W 152 rfl) (W 153 rfl) (W 9 rfl) (W 154 rfl) (rm35 l Z a0 hw (2 : Int32) (3 : Int32) fo h0 n0 Z0 O0 SIO hfo (by decide) (by decide)) d33_5 [v'2, v'3] [] own_pd10 0 (by decide) (fun v476 T476 L476 X476 hQ476 => ?_)
 obtain ⟨rfl, N476q, e476⟩ := hQ476
 have N476 := Fr.app N475 N476q
 refine own_nn ?_
 refine own_rV X476 q hrt d33_8 hlk (by decide) ?_
 show QN h0 n0 _ T476.heap _
 rw [e476]
 exact ⟨rfl, N476, rfl⟩
theorem d32_0 : own_D b'32 0 (.iload_n 1) 1 1 := by decide +kernel
theorem d32_1 : own_D b'32 1 (.aload_n 0) 1 2 := by decide +kernel
theorem d32_2 : own_D b'32 2 (.invokestatic 67) 3 5 := by decide +kernel
theorem d32_5 : own_D b'32 5 (.aload_n 0) 1 6 := by decide +kernel
theorem d32_6 : own_D b'32 6 (.iload_n 1) 1 7 := by decide +kernel
theorem d32_7 : own_D b'32 7 (.invokestatic 71) 3 10 := by decide +kernel
theorem d32_10 : own_D b'32 10 .ireturn 1 11 := by decide +kernel
theorem pn_32 : plainFor (⟨"java/lang/StringUTF16", "charAt", "([BI)C"⟩ : MethodName) = true := plainFor_of_name (by first | (simp [plainName, overriddenIn]; done) | decide +kernel)
theorem rm32_1_0 (l : Launch) (Z : State) (a0 : Array Value) (hw : own_hw a0 Z) (a1 : Addr) (k : ClassId) (x0 : Int32) (fo : Value) (h0 : Heap) (n0 : Nat) (Z0 : n0 ≤ h0.size) (O0 : Old Z n0 h0) (SIO : Sta Z Z.heap "jdk/internal/util/Preconditions" "SIOOBE_FORMATTER" "Ljava/util/function/BiFunction;" fo) (hfo : fo.isRef = true) (SU_ : own_SU Z) (VA : Arv Z h0 a1 k .byte (2 : Int32) [(.int (nar .byte ((x0 >>> ((0 : Int32) &&& 31)).toInt8.toInt32))), (.int (nar .byte ((x0 >>> ((8 : Int32) &&& 31)).toInt8.toInt32)))] v'0) (hd : own_c16 x0) :
  own_M l Z [] own_y18 b'32 2 (some .char) ⟨3, 0, 0, 40⟩ #[(.ref a1), v'0] h0 (QI x0 h0 n0) := by
 obtain ⟨SAD, SHI, SLO⟩ := SU_
 refine own_start (n0 := n0) hw "java/lang/StringUTF16" (L := #[.val (.ref a1), .val v'0]) pn_32 (fun {p e s m below meth c s₁} q hx W hml hZ hown hnm hlk hrt X0 e0 N0 => ?_)
 refine own_iln X0 q d32_0 rfl (own_aln X0 q d32_1 rfl rfl ?_)
 refine own_cS X0 q hZ e0 hown hml (W 146 rfl) (W 147 rfl) (W 103 rfl) (W 148 rfl) (rm33_1_0 l Z a0 hw a1 k _ fo h0 n0 Z0 O0 SIO hfo VA) d32_2 [v'0, (.ref a1)] [] own_pd12 0 (by decide) (fun v503 T503 L503 X503 hQ503 => ?_)
 obtain ⟨rfl, N503q, e503⟩ := hQ503
 have N503 := Fr.app N0 N503q
 refine own_nn (own_aln X503 q d32_5 rfl rfl (own_iln X503 q d32_6 rfl ?_))
 refine own_cS X503 q hZ e503 hown hml (W 127 rfl) (W 128 rfl) (W 103 rfl) (W 129 rfl) (rm28 l Z a0 hw a1 (0 : Int32) k _ 2 0 x0 h0 n0 Z0 O0 ⟨SAD, SHI, SLO⟩ VA rfl (by decide) (by decide) rfl rfl) d32_7 [(.ref a1), v'0] [] own_pd5 0 (by decide) (fun v504 T504 L504 X504 hQ504 => ?_)
 obtain ⟨rfl, N504q, e504⟩ := hQ504
 have N504 := Fr.app N503 N504q
 refine own_nv ?_
 refine own_rN X504 q hrt (by simp) d32_10 hlk (by decide) ?_
 show QI x0 h0 n0 _ T504.heap _
 rw [e504]
 exact ⟨congrArg (fun z => some (Value.int z)) ((congrArg (nar .char) (own_gcE hd)).trans (own_nc hd)), N504, rfl⟩
theorem rm32_2_0 (l : Launch) (Z : State) (a0 : Array Value) (hw : own_hw a0 Z) (a1 : Addr) (k : ClassId) (x0 x1 : Int32) (fo : Value) (h0 : Heap) (n0 : Nat) (Z0 : n0 ≤ h0.size) (O0 : Old Z n0 h0) (SIO : Sta Z Z.heap "jdk/internal/util/Preconditions" "SIOOBE_FORMATTER" "Ljava/util/function/BiFunction;" fo) (hfo : fo.isRef = true) (SU_ : own_SU Z) (VA : Arv Z h0 a1 k .byte (4 : Int32) [(.int (nar .byte ((x0 >>> ((0 : Int32) &&& 31)).toInt8.toInt32))), (.int (nar .byte ((x0 >>> ((8 : Int32) &&& 31)).toInt8.toInt32))), (.int (nar .byte ((x1 >>> ((0 : Int32) &&& 31)).toInt8.toInt32))), (.int (nar .byte ((x1 >>> ((8 : Int32) &&& 31)).toInt8.toInt32)))] v'0) (hd : own_c16 x0) :
  own_M l Z [] own_y18 b'32 2 (some .char) ⟨3, 0, 0, 40⟩ #[(.ref a1), v'0] h0 (QI x0 h0 n0) := by
 obtain ⟨SAD, SHI, SLO⟩ := SU_
 refine own_start (n0 := n0) hw "java/lang/StringUTF16" (L := #[.val (.ref a1), .val v'0]) pn_32 (fun {p e s m below meth c s₁} q hx W hml hZ hown hnm hlk hrt X0 e0 N0 => ?_)
 refine own_iln X0 q d32_0 rfl (own_aln X0 q d32_1 rfl rfl ?_)
 refine own_cS X0 q hZ e0 hown hml (W 146 rfl) (W 147 rfl) (W 103 rfl) (W 148 rfl) (rm33_2_0 l Z a0 hw a1 k _ fo h0 n0 Z0 O0 SIO hfo VA) d32_2 [v'0, (.ref a1)] [] own_pd12 0 (by decide) (fun v507 T507 L507 X507 hQ507 => ?_)
 obtain ⟨rfl, N507q, e507⟩ := hQ507
 have N507 := Fr.app N0 N507q
 refine own_nn (own_aln X507 q d32_5 rfl rfl (own_iln X507 q d32_6 rfl ?_))
 refine own_cS X507 q hZ e507 hown hml (W 127 rfl) (W 128 rfl) (W 103 rfl) (W 129 rfl) (rm28 l Z a0 hw a1 (0 : Int32) k _ 4 0 x0 h0 n0 Z0 O0 ⟨SAD, SHI, SLO⟩ VA rfl (by decide) (by decide) rfl rfl) d32_7 [(.ref a1), v'0] [] own_pd5 0 (by decide) (fun v508 T508 L508 X508 hQ508 => ?_)
 obtain ⟨rfl, N508q, e508⟩ := hQ508
 have N508 := Fr.app N507 N508q
 refine own_nv ?_
 refine own_rN X508 q hrt (by simp) d32_10 hlk (by decide) ?_
 show QI x0 h0 n0 _ T508.heap _
 rw [e508]
 exact ⟨congrArg (fun z => some (Value.int z)) ((congrArg (nar .char) (own_gcE hd)).trans (own_nc hd)), N508, rfl⟩
theorem rm32_2_1 (l : Launch) (Z : State) (a0 : Array Value) (hw : own_hw a0 Z) (a1 : Addr) (k : ClassId) (x0 x1 : Int32) (fo : Value) (h0 : Heap) (n0 : Nat) (Z0 : n0 ≤ h0.size) (O0 : Old Z n0 h0) (SIO : Sta Z Z.heap "jdk/internal/util/Preconditions" "SIOOBE_FORMATTER" "Ljava/util/function/BiFunction;" fo) (hfo : fo.isRef = true) (SU_ : own_SU Z) (VA : Arv Z h0 a1 k .byte (4 : Int32) [(.int (nar .byte ((x0 >>> ((0 : Int32) &&& 31)).toInt8.toInt32))), (.int (nar .byte ((x0 >>> ((8 : Int32) &&& 31)).toInt8.toInt32))), (.int (nar .byte ((x1 >>> ((0 : Int32) &&& 31)).toInt8.toInt32))), (.int (nar .byte ((x1 >>> ((8 : Int32) &&& 31)).toInt8.toInt32)))] v'0) (hd : own_c16 x1) :
  own_M l Z [] own_y18 b'32 2 (some .char) ⟨3, 0, 0, 40⟩ #[(.ref a1), v'1] h0 (QI x1 h0 n0) := by
 obtain ⟨SAD, SHI, SLO⟩ := SU_
 refine own_start (n0 := n0) hw "java/lang/StringUTF16" (L := #[.val (.ref a1), .val v'1]) pn_32 (fun {p e s m below meth c s₁} q hx W hml hZ hown hnm hlk hrt X0 e0 N0 => ?_)
 refine own_iln X0 q d32_0 rfl (own_aln X0 q d32_1 rfl rfl ?_)
 refine own_cS X0 q hZ e0 hown hml (W 146 rfl) (W 147 rfl) (W 103 rfl) (W 148 rfl) (rm33_2_1 l Z a0 hw a1 k _ fo h0 n0 Z0 O0 SIO hfo VA) d32_2 [v'1, (.ref a1)] [] own_pd12 0 (by decide) (fun v511 T511 L511 X511 hQ511 => ?_)
 obtain ⟨rfl, N511q, e511⟩ := hQ511
 have N511 := Fr.app N0 N511q
 refine own_nn (own_aln X511 q d32_5 rfl rfl (own_iln X511 q d32_6 rfl ?_))
 refine own_cS X511 q hZ e511 hown hml (W 127 rfl) (W 128 rfl) (W 103 rfl) (W 129 rfl) (rm28 l Z a0 hw a1 (1 : Int32) k _ 4 1 x1 h0 n0 Z0 O0 ⟨SAD, SHI, SLO⟩ VA rfl (by decide) (by decide) rfl rfl) d32_7 [(.ref a1), v'1] [] own_pd5 0 (by decide) (fun v512 T512 L512 X512 hQ512 => ?_)
 obtain ⟨rfl, N512q, e512⟩ := hQ512
 have N512 := Fr.app N511 N512q
 refine own_nv ?_
 refine own_rN X512 q hrt (by simp) d32_10 hlk (by decide) ?_
 show QI x1 h0 n0 _ T512.heap _
 rw [e512]
 exact ⟨congrArg (fun z => some (Value.int z)) ((congrArg (nar .char) (own_gcE hd)).trans (own_nc hd)), N512, rfl⟩
theorem rm32_3_0 (l : Launch) (Z : State) (a0 : Array Value) (hw : own_hw a0 Z) (a1 : Addr) (k : ClassId) (x0 x1 x2 : Int32) (fo : Value) (h0 : Heap) (n0 : Nat) (Z0 : n0 ≤ h0.size) (O0 : Old Z n0 h0) (SIO : Sta Z Z.heap "jdk/internal/util/Preconditions" "SIOOBE_FORMATTER" "Ljava/util/function/BiFunction;" fo) (hfo : fo.isRef = true) (SU_ : own_SU Z) (VA : Arv Z h0 a1 k .byte (6 : Int32) [(.int (nar .byte ((x0 >>> ((0 : Int32) &&& 31)).toInt8.toInt32))), (.int (nar .byte ((x0 >>> ((8 : Int32) &&& 31)).toInt8.toInt32))), (.int (nar .byte ((x1 >>> ((0 : Int32) &&& 31)).toInt8.toInt32))), (.int (nar .byte ((x1 >>> ((8 : Int32) &&& 31)).toInt8.toInt32))), (.int (nar .byte ((x2 >>> ((0 : Int32) &&& 31)).toInt8.toInt32))), (.int (nar .byte ((x2 >>> ((8 : Int32) &&& 31)).toInt8.toInt32)))] v'0) (hd : own_c16 x0) :
  own_M l Z [] own_y18 b'32 2 (some .char) ⟨3, 0, 0, 40⟩ #[(.ref a1), v'0] h0 (QI x0 h0 n0) := by
 obtain ⟨SAD, SHI, SLO⟩ := SU_
 refine own_start (n0 := n0) hw "java/lang/StringUTF16" (L := #[.val (.ref a1), .val v'0]) pn_32 (fun {p e s m below meth c s₁} q hx W hml hZ hown hnm hlk hrt X0 e0 N0 => ?_)
 refine own_iln X0 q d32_0 rfl (own_aln X0 q d32_1 rfl rfl ?_)
 refine own_cS X0 q hZ e0 hown hml (W 146 rfl) (W 147 rfl) (W 103 rfl) (W 148 rfl) (rm33_3_0 l Z a0 hw a1 k _ fo h0 n0 Z0 O0 SIO hfo VA) d32_2 [v'0, (.ref a1)] [] own_pd12 0 (by decide) (fun v515 T515 L515 X515 hQ515 => ?_)
 obtain ⟨rfl, N515q, e515⟩ := hQ515
 have N515 := Fr.app N0 N515q
 refine own_nn (own_aln X515 q d32_5 rfl rfl (own_iln X515 q d32_6 rfl ?_))
 refine own_cS X515 q hZ e515 hown hml (W 127 rfl) (W 128 rfl) (W 103 rfl) (W 129 rfl) (rm28 l Z a0 hw a1 (0 : Int32) k _ 6 0 x0 h0 n0 Z0 O0 ⟨SAD, SHI, SLO⟩ VA rfl (by decide) (by decide) rfl rfl) d32_7 [(.ref a1), v'0] [] own_pd5 0 (by decide) (fun v516 T516 L516 X516 hQ516 => ?_)
 obtain ⟨rfl, N516q, e516⟩ := hQ516
 have N516 := Fr.app N515 N516q
 refine own_nv ?_
 refine own_rN X516 q hrt (by simp) d32_10 hlk (by decide) ?_
 show QI x0 h0 n0 _ T516.heap _
 rw [e516]
 exact ⟨congrArg (fun z => some (Value.int z)) ((congrArg (nar .char) (own_gcE hd)).trans (own_nc hd)), N516, rfl⟩
theorem rm32_3_1 (l : Launch) (Z : State) (a0 : Array Value) (hw : own_hw a0 Z) (a1 : Addr) (k : ClassId) (x0 x1 x2 : Int32) (fo : Value) (h0 : Heap) (n0 : Nat) (Z0 : n0 ≤ h0.size) (O0 : Old Z n0 h0) (SIO : Sta Z Z.heap "jdk/internal/util/Preconditions" "SIOOBE_FORMATTER" "Ljava/util/function/BiFunction;" fo) (hfo : fo.isRef = true) (SU_ : own_SU Z) (VA : Arv Z h0 a1 k .byte (6 : Int32) [(.int (nar .byte ((x0 >>> ((0 : Int32) &&& 31)).toInt8.toInt32))), (.int (nar .byte ((x0 >>> ((8 : Int32) &&& 31)).toInt8.toInt32))), (.int (nar .byte ((x1 >>> ((0 : Int32) &&& 31)).toInt8.toInt32))), (.int (nar .byte ((x1 >>> ((8 : Int32) &&& 31)).toInt8.toInt32))), (.int (nar .byte ((x2 >>> ((0 : Int32) &&& 31)).toInt8.toInt32))), (.int (nar .byte ((x2 >>> ((8 : Int32) &&& 31)).toInt8.toInt32)))] v'0) (hd : own_c16 x1) :
  own_M l Z [] own_y18 b'32 2 (some .char) ⟨3, 0, 0, 40⟩ #[(.ref a1), v'1] h0 (QI x1 h0 n0) := by
 obtain ⟨SAD, SHI, SLO⟩ := SU_
 refine own_start (n0 := n0) hw "java/lang/StringUTF16" (L := #[.val (.ref a1), .val v'1]) pn_32 (fun {p e s m below meth c s₁} q hx W hml hZ hown hnm hlk hrt X0 e0 N0 => ?_)
 refine own_iln X0 q d32_0 rfl (own_aln X0 q d32_1 rfl rfl ?_)
 refine own_cS X0 q hZ e0 hown hml (W 146 rfl) (W 147 rfl) (W 103 rfl) (W 148 rfl) (rm33_3_1 l Z a0 hw a1 k _ fo h0 n0 Z0 O0 SIO hfo VA) d32_2 [v'1, (.ref a1)] [] own_pd12 0 (by decide) (fun v519 T519 L519 X519 hQ519 => ?_)
 obtain ⟨rfl, N519q, e519⟩ := hQ519
 have N519 := Fr.app N0 N519q
 refine own_nn (own_aln X519 q d32_5 rfl rfl (own_iln X519 q d32_6 rfl ?_))
 refine own_cS X519 q hZ e519 hown hml (W 127 rfl) (W 128 rfl) (W 103 rfl) (W 129 rfl) (rm28 l Z a0 hw a1 (1 : Int32) k _ 6 1 x1 h0 n0 Z0 O0 ⟨SAD, SHI, SLO⟩ VA rfl (by decide) (by decide) rfl rfl) d32_7 [(.ref a1), v'1] [] own_pd5 0 (by decide) (fun v520 T520 L520 X520 hQ520 => ?_)
 obtain ⟨rfl, N520q, e520⟩ := hQ520
 have N520 := Fr.app N519 N520q
 refine own_nv ?_
 refine own_rN X520 q hrt (by simp) d32_10 hlk (by decide) ?_
 show QI x1 h0 n0 _ T520.heap _
 rw [e520]
 exact ⟨congrArg (fun z => some (Value.int z)) ((congrArg (nar .char) (own_gcE hd)).trans (own_nc hd)), N520, rfl⟩
theorem rm32_3_2 (l : Launch) (Z : State) (a0 : Array Value) (hw : own_hw a0 Z) (a1 : Addr) (k : ClassId) (x0 x1 x2 : Int32) (fo : Value) (h0 : Heap) (n0 : Nat) (Z0 : n0 ≤ h0.size) (O0 : Old Z n0 h0) (SIO : Sta Z Z.heap "jdk/internal/util/Preconditions" "SIOOBE_FORMATTER" "Ljava/util/function/BiFunction;" fo) (hfo : fo.isRef = true) (SU_ : own_SU Z) (VA : Arv Z h0 a1 k .byte (6 : Int32) [(.int (nar .byte ((x0 >>> ((0 : Int32) &&& 31)).toInt8.toInt32))), (.int (nar .byte ((x0 >>> ((8 : Int32) &&& 31)).toInt8.toInt32))), (.int (nar .byte ((x1 >>> ((0 : Int32) &&& 31)).toInt8.toInt32))), (.int (nar .byte ((x1 >>> ((8 : Int32) &&& 31)).toInt8.toInt32))), (.int (nar .byte ((x2 >>> ((0 : Int32) &&& 31)).toInt8.toInt32))), (.int (nar .byte ((x2 >>> ((8 : Int32) &&& 31)).toInt8.toInt32)))] v'0) (hd : own_c16 x2) :
  own_M l Z [] own_y18 b'32 2 (some .char) ⟨3, 0, 0, 40⟩ #[(.ref a1), v'2] h0 (QI x2 h0 n0) := by
 obtain ⟨SAD, SHI, SLO⟩ := SU_
 refine own_start (n0 := n0) hw "java/lang/StringUTF16" (L := #[.val (.ref a1), .val v'2]) pn_32 (fun {p e s m below meth c s₁} q hx W hml hZ hown hnm hlk hrt X0 e0 N0 => ?_)
 refine own_iln X0 q d32_0 rfl (own_aln X0 q d32_1 rfl rfl ?_)
 refine own_cS X0 q hZ e0 hown hml (W 146 rfl) (W 147 rfl) (W 103 rfl) (W 148 rfl) (rm33_3_2 l Z a0 hw a1 k _ fo h0 n0 Z0 O0 SIO hfo VA) d32_2 [v'2, (.ref a1)] [] own_pd12 0 (by decide) (fun v523 T523 L523 X523 hQ523 => ?_)
 obtain ⟨rfl, N523q, e523⟩ := hQ523
 have N523 := Fr.app N0 N523q
 refine own_nn (own_aln X523 q d32_5 rfl rfl (own_iln X523 q d32_6 rfl ?_))
 refine own_cS X523 q hZ e523 hown hml (W 127 rfl) (W 128 rfl) (W 103 rfl) (W 129 rfl) (rm28 l Z a0 hw a1 (2 : Int32) k _ 6 2 x2 h0 n0 Z0 O0 ⟨SAD, SHI, SLO⟩ VA rfl (by decide) (by decide) rfl rfl) d32_7 [(.ref a1), v'2] [] own_pd5 0 (by decide) (fun v524 T524 L524 X524 hQ524 => ?_)
 obtain ⟨rfl, N524q, e524⟩ := hQ524
 have N524 := Fr.app N523 N524q
 refine own_nv ?_
 refine own_rN X524 q hrt (by simp) d32_10 hlk (by decide) ?_
 show QI x2 h0 n0 _ T524.heap _
 rw [e524]
 exact ⟨congrArg (fun z => some (Value.int z)) ((congrArg (nar .char) (own_gcE hd)).trans (own_nc hd)), N524, rfl⟩
theorem d30_0 : own_D b'30 0 (.aload_n 0) 1 1 := by decide +kernel
theorem d30_1 : own_D b'30 1 (.invokevirtual 492) 3 4 := by decide +kernel
theorem d30_4 : own_DZ b'30 4 .eq 16 7 := by decide +kernel
theorem d30_7 : own_D b'30 7 (.aload_n 0) 1 8 := by decide +kernel
theorem d30_8 : own_D b'30 8 (.getfield 9) 3 11 := by decide +kernel
theorem d30_11 : own_D b'30 11 (.iload_n 1) 1 12 := by decide +kernel
theorem d30_12 : own_D b'30 12 (.invokestatic 495) 3 15 := by decide +kernel
theorem d30_15 : own_D b'30 15 .ireturn 1 16 := by decide +kernel
theorem d30_16 : own_D b'30 16 (.aload_n 0) 1 17 := by decide +kernel
theorem d30_17 : own_D b'30 17 (.getfield 9) 3 20 := by decide +kernel
theorem d30_20 : own_D b'30 20 (.iload_n 1) 1 21 := by decide +kernel
theorem d30_21 : own_D b'30 21 (.invokestatic 498) 3 24 := by decide +kernel
theorem d30_24 : own_D b'30 24 .ireturn 1 25 := by decide +kernel
theorem pn_30 : plainFor (⟨"java/lang/String", "charAt", "(I)C"⟩ : MethodName) = true := plainFor_of_name (by first | (simp [plainName, overriddenIn]; done) | decide +kernel)
theorem rm30_L1_0 (l : Launch) (Z : State) (a0 : Array Value) (hw : own_hw a0 Z) (a1 : Addr) (t : Addr) (k : ClassId) (x0 : Int32) (cs0 : Int32) (fo : Value) (h0 : Heap) (n0 : Nat) (Z0 : n0 ≤ h0.size) (O0 : Old Z n0 h0) (SC_ : own_SC Z cs0) (SIO : Sta Z Z.heap "jdk/internal/util/Preconditions" "SIOOBE_FORMATTER" "Ljava/util/function/BiFunction;" fo) (hfo : fo.isRef = true) (SU_ : own_SU Z) (E1 : Exa Z h0 a1 "java/lang/String") (FV : F'1 Z h0 a1 (.ref t)) (FC : F'0 Z h0 a1 v'0) (VA : Arv Z h0 t k .byte (1 : Int32) [(.int (nar .byte (x0.toInt8.toInt32)))] v'0) (hn : ¬ (255 : Int32) < x0) (hd : own_c16 x0) :
  own_M l Z [] own_y19 b'30 2 (some .char) ⟨4, 0, 0, 53⟩ #[(.ref a1), v'0] h0 (QI x0 h0 n0) := by
 obtain ⟨SCS, hcs⟩ := SC_; obtain ⟨SAD, SHI, SLO⟩ := SU_
 refine own_start (n0 := n0) hw "java/lang/String" (L := #[.val (.ref a1), .val v'0]) pn_30 (fun {p e s m below meth c s₁} q hx W hml hZ hown hnm hlk hrt X0 e0 N0 => ?_)
 refine own_aln X0 q d30_0 rfl rfl ?_
 refine own_cV X0 q hZ e0 hown hml (W 138 rfl) (W 139 rfl) (W 141 rfl) (W 140 rfl) (W 9 rfl) (W 142 rfl) rfl E1 (rm31_0 l Z a0 hw a1 cs0 h0 n0 Z0 O0 ⟨SCS, hcs⟩ FC) d30_1 [] [] own_pd13 0 (by decide) (fun v600 T600 L600 X600 hQ600 => ?_)
 obtain ⟨rfl, N600q, e600⟩ := hQ600
 have N600 := Fr.app N0 N600q
 refine own_nv (own_zn X600 q d30_4 (((if0 _ _).trans (feq ((by decide) : ¬ ((1 : Int32) = (0 : Int32)))).1)) (own_aln X600 q d30_7 rfl rfl ?_))
 refine own_gF X600 q hZ e600 hown (W 35 rfl) FV d30_8 fun T601 X601 e601 => ?_
 refine own_iln X601 q d30_11 rfl ?_
 refine own_cS X601 q hZ e601 hown hml (W 166 rfl) (W 167 rfl) (W 82 rfl) (W 168 rfl) (rm39_1_0 l Z a0 hw t k x0 fo h0 n0 Z0 O0 SIO hfo VA hn hd) d30_12 [(.ref t), v'0] [] own_pd5 0 (by decide) (fun v602 T602 L602 X602 hQ602 => ?_)
 obtain ⟨rfl, N602q, e602⟩ := hQ602
 have N602 := Fr.app N600 N602q
 refine own_nv ?_
 refine own_rN X602 q hrt (by simp) d30_15 hlk (by decide) ?_
 show QI x0 h0 n0 _ T602.heap _
 rw [e602]
 exact ⟨congrArg (fun z => some (Value.int z)) (own_nc hd), N602, rfl⟩
theorem rm30_U1_0 (l : Launch) (Z : State) (a0 : Array Value) (hw : own_hw a0 Z) (a1 : Addr) (t : Addr) (k : ClassId) (x0 : Int32) (cs0 : Int32) (fo : Value) (h0 : Heap) (n0 : Nat) (Z0 : n0 ≤ h0.size) (O0 : Old Z n0 h0) (SC_ : own_SC Z cs0) (SIO : Sta Z Z.heap "jdk/internal/util/Preconditions" "SIOOBE_FORMATTER" "Ljava/util/function/BiFunction;" fo) (hfo : fo.isRef = true) (SU_ : own_SU Z) (E1 : Exa Z h0 a1 "java/lang/String") (FV : F'1 Z h0 a1 (.ref t)) (FC : F'0 Z h0 a1 v'1) (VA : Arv Z h0 t k .byte (2 : Int32) [(.int (nar .byte ((x0 >>> ((0 : Int32) &&& 31)).toInt8.toInt32))), (.int (nar .byte ((x0 >>> ((8 : Int32) &&& 31)).toInt8.toInt32)))] v'0) (hd : own_c16 x0) :
  own_M l Z [] own_y19 b'30 2 (some .char) ⟨4, 0, 0, 53⟩ #[(.ref a1), v'0] h0 (QI x0 h0 n0) := by
 obtain ⟨SCS, hcs⟩ := SC_; obtain ⟨SAD, SHI, SLO⟩ := SU_
 refine own_start (n0 := n0) hw "java/lang/String" (L := #[.val (.ref a1), .val v'0]) pn_30 (fun {p e s m below meth c s₁} q hx W hml hZ hown hnm hlk hrt X0 e0 N0 => ?_)
 refine own_aln X0 q d30_0 rfl rfl ?_
 refine own_cV X0 q hZ e0 hown hml (W 138 rfl) (W 139 rfl) (W 141 rfl) (W 140 rfl) (W 9 rfl) (W 142 rfl) rfl E1 (rm31_1 l Z a0 hw a1 cs0 h0 n0 Z0 O0 ⟨SCS, hcs⟩ FC) d30_1 [] [] own_pd13 0 (by decide) (fun v606 T606 L606 X606 hQ606 => ?_)
 obtain ⟨rfl, N606q, e606⟩ := hQ606
 have N606 := Fr.app N0 N606q
 refine own_nv (own_zy X606 q d30_4 (((if0 _ _).trans (teq (rfl : (0 : Int32) = (0 : Int32))).1)) (own_aln X606 q d30_16 rfl rfl ?_))
 refine own_gF X606 q hZ e606 hown (W 35 rfl) FV d30_17 fun T607 X607 e607 => ?_
 refine own_iln X607 q d30_20 rfl ?_
 refine own_cS X607 q hZ e607 hown hml (W 143 rfl) (W 144 rfl) (W 103 rfl) (W 145 rfl) (rm32_1_0 l Z a0 hw t k x0 fo h0 n0 Z0 O0 SIO hfo ⟨SAD, SHI, SLO⟩ VA hd) d30_21 [(.ref t), v'0] [] own_pd5 0 (by decide) (fun v608 T608 L608 X608 hQ608 => ?_)
 obtain ⟨rfl, N608q, e608⟩ := hQ608
 have N608 := Fr.app N606 N608q
 refine own_nv ?_
 refine own_rN X608 q hrt (by simp) d30_24 hlk (by decide) ?_
 show QI x0 h0 n0 _ T608.heap _
 rw [e608]
 exact ⟨congrArg (fun z => some (Value.int z)) (own_nc hd), N608, rfl⟩
theorem rm30_L2_0 (l : Launch) (Z : State) (a0 : Array Value) (hw : own_hw a0 Z) (a1 : Addr) (t : Addr) (k : ClassId) (x0 x1 : Int32) (cs0 : Int32) (fo : Value) (h0 : Heap) (n0 : Nat) (Z0 : n0 ≤ h0.size) (O0 : Old Z n0 h0) (SC_ : own_SC Z cs0) (SIO : Sta Z Z.heap "jdk/internal/util/Preconditions" "SIOOBE_FORMATTER" "Ljava/util/function/BiFunction;" fo) (hfo : fo.isRef = true) (SU_ : own_SU Z) (E1 : Exa Z h0 a1 "java/lang/String") (FV : F'1 Z h0 a1 (.ref t)) (FC : F'0 Z h0 a1 v'0) (VA : Arv Z h0 t k .byte (2 : Int32) [(.int (nar .byte (x0.toInt8.toInt32))), (.int (nar .byte (x1.toInt8.toInt32)))] v'0) (hn : ¬ (255 : Int32) < x0) (hd : own_c16 x0) :
  own_M l Z [] own_y19 b'30 2 (some .char) ⟨4, 0, 0, 53⟩ #[(.ref a1), v'0] h0 (QI x0 h0 n0) := by
 obtain ⟨SCS, hcs⟩ := SC_; obtain ⟨SAD, SHI, SLO⟩ := SU_
 refine own_start (n0 := n0) hw "java/lang/String" (L := #[.val (.ref a1), .val v'0]) pn_30 (fun {p e s m below meth c s₁} q hx W hml hZ hown hnm hlk hrt X0 e0 N0 => ?_)
 refine own_aln X0 q d30_0 rfl rfl ?_
 refine own_cV X0 q hZ e0 hown hml (W 138 rfl) (W 139 rfl) (W 141 rfl) (W 140 rfl) (W 9 rfl) (W 142 rfl) rfl E1 (rm31_0 l Z a0 hw a1 cs0 h0 n0 Z0 O0 ⟨SCS, hcs⟩ FC) d30_1 [] [] own_pd13 0 (by decide) (fun v612 T612 L612 X612 hQ612 => ?_)
 obtain ⟨rfl, N612q, e612⟩ := hQ612
 have N612 := Fr.app N0 N612q
 refine own_nv (own_zn X612 q d30_4 (((if0 _ _).trans (feq ((by decide) : ¬ ((1 : Int32) = (0 : Int32)))).1)) (own_aln X612 q d30_7 rfl rfl ?_))
 refine own_gF X612 q hZ e612 hown (W 35 rfl) FV d30_8 fun T613 X613 e613 => ?_
 refine own_iln X613 q d30_11 rfl ?_
 refine own_cS X613 q hZ e613 hown hml (W 166 rfl) (W 167 rfl) (W 82 rfl) (W 168 rfl) (rm39_2_0 l Z a0 hw t k x0 x1 fo h0 n0 Z0 O0 SIO hfo VA hn hd) d30_12 [(.ref t), v'0] [] own_pd5 0 (by decide) (fun v614 T614 L614 X614 hQ614 => ?_)
 obtain ⟨rfl, N614q, e614⟩ := hQ614
 have N614 := Fr.app N612 N614q
 refine own_nv ?_
 refine own_rN X614 q hrt (by simp) d30_15 hlk (by decide) ?_
 show QI x0 h0 n0 _ T614.heap _
 rw [e614]
 exact ⟨congrArg (fun z => some (Value.int z)) (own_nc hd), N614, rfl⟩
theorem rm30_U2_0 (l : Launch) (Z : State) (a0 : Array Value) (hw : own_hw a0 Z) (a1 : Addr) (t : Addr) (k : ClassId) (x0 x1 : Int32) (cs0 : Int32) (fo : Value) (h0 : Heap) (n0 : Nat) (Z0 : n0 ≤ h0.size) (O0 : Old Z n0 h0) (SC_ : own_SC Z cs0) (SIO : Sta Z Z.heap "jdk/internal/util/Preconditions" "SIOOBE_FORMATTER" "Ljava/util/function/BiFunction;" fo) (hfo : fo.isRef = true) (SU_ : own_SU Z) (E1 : Exa Z h0 a1 "java/lang/String") (FV : F'1 Z h0 a1 (.ref t)) (FC : F'0 Z h0 a1 v'1) (VA : Arv Z h0 t k .byte (4 : Int32) [(.int (nar .byte ((x0 >>> ((0 : Int32) &&& 31)).toInt8.toInt32))), (.int (nar .byte ((x0 >>> ((8 : Int32) &&& 31)).toInt8.toInt32))), (.int (nar .byte ((x1 >>> ((0 : Int32) &&& 31)).toInt8.toInt32))), (.int (nar .byte ((x1 >>> ((8 : Int32) &&& 31)).toInt8.toInt32)))] v'0) (hd : own_c16 x0) :
  own_M l Z [] own_y19 b'30 2 (some .char) ⟨4, 0, 0, 53⟩ #[(.ref a1), v'0] h0 (QI x0 h0 n0) := by
 obtain ⟨SCS, hcs⟩ := SC_; obtain ⟨SAD, SHI, SLO⟩ := SU_
 refine own_start (n0 := n0) hw "java/lang/String" (L := #[.val (.ref a1), .val v'0]) pn_30 (fun {p e s m below meth c s₁} q hx W hml hZ hown hnm hlk hrt X0 e0 N0 => ?_)
 refine own_aln X0 q d30_0 rfl rfl ?_
 refine own_cV X0 q hZ e0 hown hml (W 138 rfl) (W 139 rfl) (W 141 rfl) (W 140 rfl) (W 9 rfl) (W 142 rfl) rfl E1 (rm31_1 l Z a0 hw a1 cs0 h0 n0 Z0 O0 ⟨SCS, hcs⟩ FC) d30_1 [] [] own_pd13 0 (by decide) (fun v618 T618 L618 X618 hQ618 => ?_)
 obtain ⟨rfl, N618q, e618⟩ := hQ618
 have N618 := Fr.app N0 N618q
 refine own_nv (own_zy X618 q d30_4 (((if0 _ _).trans (teq (rfl : (0 : Int32) = (0 : Int32))).1)) (own_aln X618 q d30_16 rfl rfl ?_))
 refine own_gF X618 q hZ e618 hown (W 35 rfl) FV d30_17 fun T619 X619 e619 => ?_
 refine own_iln X619 q d30_20 rfl ?_
 refine own_cS X619 q hZ e619 hown hml (W 143 rfl) (W 144 rfl) (W 103 rfl) (W 145 rfl) (rm32_2_0 l Z a0 hw t k x0 x1 fo h0 n0 Z0 O0 SIO hfo ⟨SAD, SHI, SLO⟩ VA hd) d30_21 [(.ref t), v'0] [] own_pd5 0 (by decide) (fun v620 T620 L620 X620 hQ620 => ?_)
 obtain ⟨rfl, N620q, e620⟩ := hQ620
 have N620 := Fr.app N618 N620q
 refine own_nv ?_
 refine own_rN X620 q hrt (by simp) d30_24 hlk (by decide) ?_
 show QI x0 h0 n0 _ T620.heap _
 rw [e620]
 exact ⟨congrArg (fun z => some (Value.int z)) (own_nc hd), N620, rfl⟩
theorem rm30_L2_1 (l : Launch) (Z : State) (a0 : Array Value) (hw : own_hw a0 Z) (a1 : Addr) (t : Addr) (k : ClassId) (x0 x1 : Int32) (cs0 : Int32) (fo : Value) (h0 : Heap) (n0 : Nat) (Z0 : n0 ≤ h0.size) (O0 : Old Z n0 h0) (SC_ : own_SC Z cs0) (SIO : Sta Z Z.heap "jdk/internal/util/Preconditions" "SIOOBE_FORMATTER" "Ljava/util/function/BiFunction;" fo) (hfo : fo.isRef = true) (SU_ : own_SU Z) (E1 : Exa Z h0 a1 "java/lang/String") (FV : F'1 Z h0 a1 (.ref t)) (FC : F'0 Z h0 a1 v'0) (VA : Arv Z h0 t k .byte (2 : Int32) [(.int (nar .byte (x0.toInt8.toInt32))), (.int (nar .byte (x1.toInt8.toInt32)))] v'0) (hn : ¬ (255 : Int32) < x1) (hd : own_c16 x1) :
  own_M l Z [] own_y19 b'30 2 (some .char) ⟨4, 0, 0, 53⟩ #[(.ref a1), v'1] h0 (QI x1 h0 n0) := by
 obtain ⟨SCS, hcs⟩ := SC_; obtain ⟨SAD, SHI, SLO⟩ := SU_
 refine own_start (n0 := n0) hw "java/lang/String" (L := #[.val (.ref a1), .val v'1]) pn_30 (fun {p e s m below meth c s₁} q hx W hml hZ hown hnm hlk hrt X0 e0 N0 => ?_)
 refine own_aln X0 q d30_0 rfl rfl ?_
 refine own_cV X0 q hZ e0 hown hml (W 138 rfl) (W 139 rfl) (W 141 rfl) (W 140 rfl) (W 9 rfl) (W 142 rfl) rfl E1 (rm31_0 l Z a0 hw a1 cs0 h0 n0 Z0 O0 ⟨SCS, hcs⟩ FC) d30_1 [] [] own_pd13 0 (by decide) (fun v624 T624 L624 X624 hQ624 => ?_)
 obtain ⟨rfl, N624q, e624⟩ := hQ624
 have N624 := Fr.app N0 N624q
 refine own_nv (own_zn X624 q d30_4 (((if0 _ _).trans (feq ((by decide) : ¬ ((1 : Int32) = (0 : Int32)))).1)) (own_aln X624 q d30_7 rfl rfl ?_))
 refine own_gF X624 q hZ e624 hown (W 35 rfl) FV d30_8 fun T625 X625 e625 => ?_
 refine own_iln X625 q d30_11 rfl ?_
 refine own_cS X625 q hZ e625 hown hml (W 166 rfl) (W 167 rfl) (W 82 rfl) (W 168 rfl) (rm39_2_1 l Z a0 hw t k x0 x1 fo h0 n0 Z0 O0 SIO hfo VA hn hd) d30_12 [(.ref t), v'1] [] own_pd5 0 (by decide) (fun v626 T626 L626 X626 hQ626 => ?_)
 obtain ⟨rfl, N626q, e626⟩ := hQ626
 have N626 := Fr.app N624 N626q
 refine own_nv ?_
 refine own_rN X626 q hrt (by simp) d30_15 hlk (by decide) ?_
 show QI x1 h0 n0 _ T626.heap _
 rw [e626]
 exact ⟨congrArg (fun z => some (Value.int z)) (own_nc hd), N626, rfl⟩
theorem rm30_U2_1 (l : Launch) (Z : State) (a0 : Array Value) (hw : own_hw a0 Z) (a1 : Addr) (t : Addr) (k : ClassId) (x0 x1 : Int32) (cs0 : Int32) (fo : Value) (h0 : Heap) (n0 : Nat) (Z0 : n0 ≤ h0.size) (O0 : Old Z n0 h0) (SC_ : own_SC Z cs0) (SIO : Sta Z Z.heap "jdk/internal/util/Preconditions" "SIOOBE_FORMATTER" "Ljava/util/function/BiFunction;" fo) (hfo : fo.isRef = true) (SU_ : own_SU Z) (E1 : Exa Z h0 a1 "java/lang/String") (FV : F'1 Z h0 a1 (.ref t)) (FC : F'0 Z h0 a1 v'1) (VA : Arv Z h0 t k .byte (4 : Int32) [(.int (nar .byte ((x0 >>> ((0 : Int32) &&& 31)).toInt8.toInt32))), (.int (nar .byte ((x0 >>> ((8 : Int32) &&& 31)).toInt8.toInt32))), (.int (nar .byte ((x1 >>> ((0 : Int32) &&& 31)).toInt8.toInt32))), (.int (nar .byte ((x1 >>> ((8 : Int32) &&& 31)).toInt8.toInt32)))] v'0) (hd : own_c16 x1) :
  own_M l Z [] own_y19 b'30 2 (some .char) ⟨4, 0, 0, 53⟩ #[(.ref a1), v'1] h0 (QI x1 h0 n0) := by
 obtain ⟨SCS, hcs⟩ := SC_; obtain ⟨SAD, SHI, SLO⟩ := SU_
 refine own_start (n0 := n0) hw "java/lang/String" (L := #[.val (.ref a1), .val v'1]) pn_30 (fun {p e s m below meth c s₁} q hx W hml hZ hown hnm hlk hrt X0 e0 N0 => ?_)
 refine own_aln X0 q d30_0 rfl rfl ?_
 refine own_cV X0 q hZ e0 hown hml (W 138 rfl) (W 139 rfl) (W 141 rfl) (W 140 rfl) (W 9 rfl) (W 142 rfl) rfl E1 (rm31_1 l Z a0 hw a1 cs0 h0 n0 Z0 O0 ⟨SCS, hcs⟩ FC) d30_1 [] [] own_pd13 0 (by decide) (fun v630 T630 L630 X630 hQ630 => ?_)
 obtain ⟨rfl, N630q, e630⟩ := hQ630
 have N630 := Fr.app N0 N630q
 refine own_nv (own_zy X630 q d30_4 (((if0 _ _).trans (teq (rfl : (0 : Int32) = (0 : Int32))).1)) (own_aln X630 q d30_16 rfl rfl ?_))
 refine own_gF X630 q hZ e630 hown (W 35 rfl) FV d30_17 fun T631 X631 e631 => ?_
 refine own_iln X631 q d30_20 rfl ?_
 refine own_cS X631 q hZ e631 hown hml (W 143 rfl) (W 144 rfl) (W 103 rfl) (W 145 rfl) (rm32_2_1 l Z a0 hw t k x0 x1 fo h0 n0 Z0 O0 SIO hfo ⟨SAD, SHI, SLO⟩ VA hd) d30_21 [(.ref t), v'1] [] own_pd5 0 (by decide) (fun v632 T632 L632 X632 hQ632 => ?_)
 obtain ⟨rfl, N632q, e632⟩ := hQ632
 have N632 := Fr.app N630 N632q
 refine own_nv ?_
 refine own_rN X632 q hrt (by simp) d30_24 hlk (by decide) ?_
 show QI x1 h0 n0 _ T632.heap _
 rw [e632]
 exact ⟨congrArg (fun z => some (Value.int z)) (own_nc hd), N632, rfl⟩
theorem rm30_L3_0 (l : Launch) (Z : State) (a0 : Array Value) (hw : own_hw a0 Z) (a1 : Addr) (t : Addr) (k : ClassId) (x0 x1 x2 : Int32) (cs0 : Int32) (fo : Value) (h0 : Heap) (n0 : Nat) (Z0 : n0 ≤ h0.size) (O0 : Old Z n0 h0) (SC_ : own_SC Z cs0) (SIO : Sta Z Z.heap "jdk/internal/util/Preconditions" "SIOOBE_FORMATTER" "Ljava/util/function/BiFunction;" fo) (hfo : fo.isRef = true) (SU_ : own_SU Z) (E1 : Exa Z h0 a1 "java/lang/String") (FV : F'1 Z h0 a1 (.ref t)) (FC : F'0 Z h0 a1 v'0) (VA : Arv Z h0 t k .byte (3 : Int32) [(.int (nar .byte (x0.toInt8.toInt32))), (.int (nar .byte (x1.toInt8.toInt32))), (.int (nar .byte (x2.toInt8.toInt32)))] v'0) (hn : ¬ (255 : Int32) < x0) (hd : own_c16 x0) :
  own_M l Z [] own_y19 b'30 2 (some .char) ⟨4, 0, 0, 53⟩ #[(.ref a1), v'0] h0 (QI x0 h0 n0) := by
 obtain ⟨SCS, hcs⟩ := SC_; obtain ⟨SAD, SHI, SLO⟩ := SU_
 refine own_start (n0 := n0) hw "java/lang/String" (L := #[.val (.ref a1), .val v'0]) pn_30 (fun {p e s m below meth c s₁} q hx W hml hZ hown hnm hlk hrt X0 e0 N0 => ?_)
 refine own_aln X0 q d30_0 rfl rfl ?_
 refine own_cV X0 q hZ e0 hown hml (W 138 rfl) (W 139 rfl) (W 141 rfl) (W 140 rfl) (W 9 rfl) (W 142 rfl) rfl E1 (rm31_0 l Z a0 hw a1 cs0 h0 n0 Z0 O0 ⟨SCS, hcs⟩ FC) d30_1 [] [] own_pd13 0 (by decide) (fun v636 T636 L636 X636 hQ636 => ?_)
 obtain ⟨rfl, N636q, e636⟩ := hQ636
 have N636 := Fr.app N0 N636q
 refine own_nv (own_zn X636 q d30_4 (((if0 _ _).trans (feq ((by decide) : ¬ ((1 : Int32) = (0 : Int32)))).1)) (own_aln X636 q d30_7 rfl rfl ?_))
 refine own_gF X636 q hZ e636 hown (W 35 rfl) FV d30_8 fun T637 X637 e637 => ?_
 refine own_iln X637 q d30_11 rfl ?_
 refine own_cS X637 q hZ e637 hown hml (W 166 rfl) (W 167 rfl) (W 82 rfl) (W 168 rfl) (rm39_3_0 l Z a0 hw t k x0 x1 x2 fo h0 n0 Z0 O0 SIO hfo VA hn hd) d30_12 [(.ref t), v'0] [] own_pd5 0 (by decide) (fun v638 T638 L638 X638 hQ638 => ?_)
 obtain ⟨rfl, N638q, e638⟩ := hQ638
 have N638 := Fr.app N636 N638q
 refine own_nv ?_
 refine own_rN X638 q hrt (by simp) d30_15 hlk (by decide) ?_
 show QI x0 h0 n0 _ T638.heap _
 rw [e638]
 exact ⟨congrArg (fun z => some (Value.int z)) (own_nc hd), N638, rfl⟩
theorem rm30_U3_0 (l : Launch) (Z : State) (a0 : Array Value) (hw : own_hw a0 Z) (a1 : Addr) (t : Addr) (k : ClassId) (x0 x1 x2 : Int32) (cs0 : Int32) (fo : Value) (h0 : Heap) (n0 : Nat) (Z0 : n0 ≤ h0.size) (O0 : Old Z n0 h0) (SC_ : own_SC Z cs0) (SIO : Sta Z Z.heap "jdk/internal/util/Preconditions" "SIOOBE_FORMATTER" "Ljava/util/function/BiFunction;" fo) (hfo : fo.isRef = true) (SU_ : own_SU Z) (E1 : Exa Z h0 a1 "java/lang/String") (FV : F'1 Z h0 a1 (.ref t)) (FC : F'0 Z h0 a1 v'1) (VA : Arv Z h0 t k .byte (6 : Int32) [(.int (nar .byte ((x0 >>> ((0 : Int32) &&& 31)).toInt8.toInt32))), (.int (nar .byte ((x0 >>> ((8 : Int32) &&& 31)).toInt8.toInt32))), (.int (nar .byte ((x1 >>> ((0 : Int32) &&& 31)).toInt8.toInt32))), (.int (nar .byte ((x1 >>> ((8 : Int32) &&& 31)).toInt8.toInt32))), (.int (nar .byte ((x2 >>> ((0 : Int32) &&& 31)).toInt8.toInt32))), (.int (nar .byte ((x2 >>> ((8 : Int32) &&& 31)).toInt8.toInt32)))] v'0) (hd : own_c16 x0) :
  own_M l Z [] own_y19 b'30 2 (some .char) ⟨4, 0, 0, 53⟩ #[(.ref a1), v'0] h0 (QI x0 h0 n0) := by
 obtain ⟨SCS, hcs⟩ := SC_; obtain ⟨SAD, SHI, SLO⟩ := SU_
 refine own_start (n0 := n0) hw "java/lang/String" (L := #[.val (.ref a1), .val v'0]) pn_30 (fun {p e s m below meth c s₁} q hx W hml hZ hown hnm hlk hrt X0 e0 N0 => ?_)
 refine own_aln X0 q d30_0 rfl rfl ?_
 refine own_cV X0 q hZ e0 hown hml (W 138 rfl) (W 139 rfl) (W 141 rfl) (W 140 rfl) (W 9 rfl) (W 142 rfl) rfl E1 (rm31_1 l Z a0 hw a1 cs0 h0 n0 Z0 O0 ⟨SCS, hcs⟩ FC) d30_1 [] [] own_pd13 0 (by decide) (fun v642 T642 L642 X642 hQ642 => ?_)
 obtain ⟨rfl, N642q, e642⟩ := hQ642
 have N642 := Fr.app N0 N642q
 refine own_nv (own_zy X642 q d30_4 (((if0 _ _).trans (teq (rfl : (0 : Int32) = (0 : Int32))).1)) (own_aln X642 q d30_16 rfl rfl ?_))
 refine own_gF X642 q hZ e642 hown (W 35 rfl) FV d30_17 fun T643 X643 e643 => ?_
 refine own_iln X643 q d30_20 rfl ?_
 refine own_cS X643 q hZ e643 hown hml (W 143 rfl) (W 144 rfl) (W 103 rfl) (W 145 rfl) (rm32_3_0 l Z a0 hw t k x0 x1 x2 fo h0 n0 Z0 O0 SIO hfo ⟨SAD, SHI, SLO⟩ VA hd) d30_21 [(.ref t), v'0] [] own_pd5 0 (by decide) (fun v644 T644 L644 X644 hQ644 => ?_)
 obtain ⟨rfl, N644q, e644⟩ := hQ644
 have N644 := Fr.app N642 N644q
 refine own_nv ?_
 refine own_rN X644 q hrt (by simp) d30_24 hlk (by decide) ?_
 show QI x0 h0 n0 _ T644.heap _
 rw [e644]
 exact ⟨congrArg (fun z => some (Value.int z)) (own_nc hd), N644, rfl⟩
theorem rm30_L3_1 (l : Launch) (Z : State) (a0 : Array Value) (hw : own_hw a0 Z) (a1 : Addr) (t : Addr) (k : ClassId) (x0 x1 x2 : Int32) (cs0 : Int32) (fo : Value) (h0 : Heap) (n0 : Nat) (Z0 : n0 ≤ h0.size) (O0 : Old Z n0 h0) (SC_ : own_SC Z cs0) (SIO : Sta Z Z.heap "jdk/internal/util/Preconditions" "SIOOBE_FORMATTER" "Ljava/util/function/BiFunction;" fo) (hfo : fo.isRef = true) (SU_ : own_SU Z) (E1 : Exa Z h0 a1 "java/lang/String") (FV : F'1 Z h0 a1 (.ref t)) (FC : F'0 Z h0 a1 v'0) (VA : Arv Z h0 t k .byte (3 : Int32) [(.int (nar .byte (x0.toInt8.toInt32))), (.int (nar .byte (x1.toInt8.toInt32))), (.int (nar .byte (x2.toInt8.toInt32)))] v'0) (hn : ¬ (255 : Int32) < x1) (hd : own_c16 x1) :
  own_M l Z [] own_y19 b'30 2 (some .char) ⟨4, 0, 0, 53⟩ #[(.ref a1), v'1] h0 (QI x1 h0 n0) := by
 obtain ⟨SCS, hcs⟩ := SC_; obtain ⟨SAD, SHI, SLO⟩ := SU_
 refine own_start (n0 := n0) hw "java/lang/String" (L := #[.val (.ref a1), .val v'1]) pn_30 (fun {p e s m below meth c s₁} q hx W hml hZ hown hnm hlk hrt X0 e0 N0 => ?_)
 refine own_aln X0 q d30_0 rfl rfl ?_
 refine own_cV X0 q hZ e0 hown hml (W 138 rfl) (W 139 rfl) (W 141 rfl) (W 140 rfl) (W 9 rfl) (W 142 rfl) rfl E1 (rm31_0 l Z a0 hw a1 cs0 h0 n0 Z0 O0 ⟨SCS, hcs⟩ FC) d30_1 [] [] own_pd13 0 (by decide) (fun v648 T648 L648 X648 hQ648 => ?_)
 obtain ⟨rfl, N648q, e648⟩ := hQ648
 have N648 := Fr.app N0 N648q
 refine own_nv (own_zn X648 q d30_4 (((if0 _ _).trans (feq ((by decide) : ¬ ((1 : Int32) = (0 : Int32)))).1)) (own_aln X648 q d30_7 rfl rfl ?_))
 refine own_gF X648 q hZ e648 hown (W 35 rfl) FV d30_8 fun T649 X649 e649 => ?_
 refine own_iln X649 q d30_11 rfl ?_
 refine own_cS X649 q hZ e649 hown hml (W 166 rfl) (W 167 rfl) (W 82 rfl) (W 168 rfl) (rm39_3_1 l Z a0 hw t k x0 x1 x2 fo h0 n0 Z0 O0 SIO hfo VA hn hd) d30_12 [(.ref t), v'1] [] own_pd5 0 (by decide) (fun v650 T650 L650 X650 hQ650 => ?_)
 obtain ⟨rfl, N650q, e650⟩ := hQ650
 have N650 := Fr.app N648 N650q
 refine own_nv ?_
 refine own_rN X650 q hrt (by simp) d30_15 hlk (by decide) ?_
 show QI x1 h0 n0 _ T650.heap _
 rw [e650]
 exact ⟨congrArg (fun z => some (Value.int z)) (own_nc hd), N650, rfl⟩
theorem rm30_U3_1 (l : Launch) (Z : State) (a0 : Array Value) (hw : own_hw a0 Z) (a1 : Addr) (t : Addr) (k : ClassId) (x0 x1 x2 : Int32) (cs0 : Int32) (fo : Value) (h0 : Heap) (n0 : Nat) (Z0 : n0 ≤ h0.size) (O0 : Old Z n0 h0) (SC_ : own_SC Z cs0) (SIO : Sta Z Z.heap "jdk/internal/util/Preconditions" "SIOOBE_FORMATTER" "Ljava/util/function/BiFunction;" fo) (hfo : fo.isRef = true) (SU_ : own_SU Z) (E1 : Exa Z h0 a1 "java/lang/String") (FV : F'1 Z h0 a1 (.ref t)) (FC : F'0 Z h0 a1 v'1) (VA : Arv Z h0 t k .byte (6 : Int32) [(.int (nar .byte ((x0 >>> ((0 : Int32) &&& 31)).toInt8.toInt32))), (.int (nar .byte ((x0 >>> ((8 : Int32) &&& 31)).toInt8.toInt32))), (.int (nar .byte ((x1 >>> ((0 : Int32) &&& 31)).toInt8.toInt32))), (.int (nar .byte ((x1 >>> ((8 : Int32) &&& 31)).toInt8.toInt32))), (.int (nar .byte ((x2 >>> ((0 : Int32) &&& 31)).toInt8.toInt32))), (.int (nar .byte ((x2 >>> ((8 : Int32) &&& 31)).toInt8.toInt32)))] v'0) (hd : own_c16 x1) :
  own_M l Z [] own_y19 b'30 2 (some .char) ⟨4, 0, 0, 53⟩ #[(.ref a1), v'1] h0 (QI x1 h0 n0) := by
 obtain ⟨SCS, hcs⟩ := SC_; obtain ⟨SAD, SHI, SLO⟩ := SU_
 refine own_start (n0 := n0) hw "java/lang/String" (L := #[.val (.ref a1), .val v'1]) pn_30 (fun {p e s m below meth c s₁} q hx W hml hZ hown hnm hlk hrt X0 e0 N0 => ?_)
 refine own_aln X0 q d30_0 rfl rfl ?_
 refine own_cV X0 q hZ e0 hown hml (W 138 rfl) (W 139 rfl) (W 141 rfl) (W 140 rfl) (W 9 rfl) (W 142 rfl) rfl E1 (rm31_1 l Z a0 hw a1 cs0 h0 n0 Z0 O0 ⟨SCS, hcs⟩ FC) d30_1 [] [] own_pd13 0 (by decide) (fun v654 T654 L654 X654 hQ654 => ?_)
 obtain ⟨rfl, N654q, e654⟩ := hQ654
 have N654 := Fr.app N0 N654q
 refine own_nv (own_zy X654 q d30_4 (((if0 _ _).trans (teq (rfl : (0 : Int32) = (0 : Int32))).1)) (own_aln X654 q d30_16 rfl rfl ?_))
 refine own_gF X654 q hZ e654 hown (W 35 rfl) FV d30_17 fun T655 X655 e655 => ?_
 refine own_iln X655 q d30_20 rfl ?_
 refine own_cS X655 q hZ e655 hown hml (W 143 rfl) (W 144 rfl) (W 103 rfl) (W 145 rfl) (rm32_3_1 l Z a0 hw t k x0 x1 x2 fo h0 n0 Z0 O0 SIO hfo ⟨SAD, SHI, SLO⟩ VA hd) d30_21 [(.ref t), v'1] [] own_pd5 0 (by decide) (fun v656 T656 L656 X656 hQ656 => ?_)
 obtain ⟨rfl, N656q, e656⟩ := hQ656
 have N656 := Fr.app N654 N656q
 refine own_nv ?_
 refine own_rN X656 q hrt (by simp) d30_24 hlk (by decide) ?_
 show QI x1 h0 n0 _ T656.heap _
 rw [e656]
 exact ⟨congrArg (fun z => some (Value.int z)) (own_nc hd), N656, rfl⟩
theorem rm30_L3_2 (l : Launch) (Z : State) (a0 : Array Value) (hw : own_hw a0 Z) (a1 : Addr) (t : Addr) (k : ClassId) (x0 x1 x2 : Int32) (cs0 : Int32) (fo : Value) (h0 : Heap) (n0 : Nat) (Z0 : n0 ≤ h0.size) (O0 : Old Z n0 h0) (SC_ : own_SC Z cs0) (SIO : Sta Z Z.heap "jdk/internal/util/Preconditions" "SIOOBE_FORMATTER" "Ljava/util/function/BiFunction;" fo) (hfo : fo.isRef = true) (SU_ : own_SU Z) (E1 : Exa Z h0 a1 "java/lang/String") (FV : F'1 Z h0 a1 (.ref t)) (FC : F'0 Z h0 a1 v'0) (VA : Arv Z h0 t k .byte (3 : Int32) [(.int (nar .byte (x0.toInt8.toInt32))), (.int (nar .byte (x1.toInt8.toInt32))), (.int (nar .byte (x2.toInt8.toInt32)))] v'0) (hn : ¬ (255 : Int32) < x2) (hd : own_c16 x2) :
  own_M l Z [] own_y19 b'30 2 (some .char) ⟨4, 0, 0, 53⟩ #[(.ref a1), v'2] h0 (QI x2 h0 n0) := by
 obtain ⟨SCS, hcs⟩ := SC_; obtain ⟨SAD, SHI, SLO⟩ := SU_
 refine own_start (n0 := n0) hw "java/lang/String" (L := #[.val (.ref a1), .val v'2]) pn_30 (fun {p e s m below meth c s₁} q hx W hml hZ hown hnm hlk hrt X0 e0 N0 => ?_)
 refine own_aln X0 q d30_0 rfl rfl ?_
 refine own_cV X0 q hZ e0 hown hml (W 138 rfl) (W 139 rfl) (W 141 rfl) (W 140 rfl) (W 9 rfl) (W 142 rfl) rfl E1 (rm31_0 l Z a0 hw a1 cs0 h0 n0 Z0 O0 ⟨SCS, hcs⟩ FC) d30_1 [] [] own_pd13 0 (by decide) (fun v660 T660 L660 X660 hQ660 => ?_)
 obtain ⟨rfl, N660q, e660⟩ := hQ660
 have N660 := Fr.app N0 N660q
 refine own_nv (own_zn X660 q d30_4 (((if0 _ _).trans (feq ((by decide) : ¬ ((1 : Int32) = (0 : Int32)))).1)) (own_aln X660 q d30_7 rfl rfl ?_))
 refine own_gF X660 q hZ e660 hown (W 35 rfl) FV d30_8 fun T661 X661 e661 => ?_
 refine own_iln X661 q d30_11 rfl ?_
 refine own_cS X661 q hZ e661 hown hml (W 166 rfl) (W 167 rfl) (W 82 rfl) (W 168 rfl) (rm39_3_2 l Z a0 hw t k x0 x1 x2 fo h0 n0 Z0 O0 SIO hfo VA hn hd) d30_12 [(.ref t), v'2] [] own_pd5 0 (by decide) (fun v662 T662 L662 X662 hQ662 => ?_)
 obtain ⟨rfl, N662q, e662⟩ := hQ662
 have N662 := Fr.app N660 N662q
 refine own_nv ?_
 refine own_rN X662 q hrt (by simp) d30_15 hlk (by decide) ?_
 show QI x2 h0 n0 _ T662.heap _
 rw [e662]
 exact ⟨congrArg (fun z => some (Value.int z)) (own_nc hd), N662, rfl⟩
theorem rm30_U3_2 (l : Launch) (Z : State) (a0 : Array Value) (hw : own_hw a0 Z) (a1 : Addr) (t : Addr) (k : ClassId) (x0 x1 x2 : Int32) (cs0 : Int32) (fo : Value) (h0 : Heap) (n0 : Nat) (Z0 : n0 ≤ h0.size) (O0 : Old Z n0 h0) (SC_ : own_SC Z cs0) (SIO : Sta Z Z.heap "jdk/internal/util/Preconditions" "SIOOBE_FORMATTER" "Ljava/util/function/BiFunction;" fo) (hfo : fo.isRef = true) (SU_ : own_SU Z) (E1 : Exa Z h0 a1 "java/lang/String") (FV : F'1 Z h0 a1 (.ref t)) (FC : F'0 Z h0 a1 v'1) (VA : Arv Z h0 t k .byte (6 : Int32) [(.int (nar .byte ((x0 >>> ((0 : Int32) &&& 31)).toInt8.toInt32))), (.int (nar .byte ((x0 >>> ((8 : Int32) &&& 31)).toInt8.toInt32))), (.int (nar .byte ((x1 >>> ((0 : Int32) &&& 31)).toInt8.toInt32))), (.int (nar .byte ((x1 >>> ((8 : Int32) &&& 31)).toInt8.toInt32))), (.int (nar .byte ((x2 >>> ((0 : Int32) &&& 31)).toInt8.toInt32))), (.int (nar .byte ((x2 >>> ((8 : Int32) &&& 31)).toInt8.toInt32)))] v'0) (hd : own_c16 x2) :
  own_M l Z [] own_y19 b'30 2 (some .char) ⟨4, 0, 0, 53⟩ #[(.ref a1), v'2] h0 (QI x2 h0 n0) := by
 obtain ⟨SCS, hcs⟩ := SC_; obtain ⟨SAD, SHI, SLO⟩ := SU_
 refine own_start (n0 := n0) hw "java/lang/String" (L := #[.val (.ref a1), .val v'2]) pn_30 (fun {p e s m below meth c s₁} q hx W hml hZ hown hnm hlk hrt X0 e0 N0 => ?_)
 refine own_aln X0 q d30_0 rfl rfl ?_
 refine own_cV X0 q hZ e0 hown hml (W 138 rfl) (W 139 rfl) (W 141 rfl) (W 140 rfl) (W 9 rfl) (W 142 rfl) rfl E1 (rm31_1 l Z a0 hw a1 cs0 h0 n0 Z0 O0 ⟨SCS, hcs⟩ FC) d30_1 [] [] own_pd13 0 (by decide) (fun v666 T666 L666 X666 hQ666 => ?_)
 obtain ⟨rfl, N666q, e666⟩ := hQ666
 have N666 := Fr.app N0 N666q
 refine own_nv (own_zy X666 q d30_4 (((if0 _ _).trans (teq (rfl : (0 : Int32) = (0 : Int32))).1)) (own_aln X666 q d30_16 rfl rfl ?_))
 refine own_gF X666 q hZ e666 hown (W 35 rfl) FV d30_17 fun T667 X667 e667 => ?_
 refine own_iln X667 q d30_20 rfl ?_
 refine own_cS X667 q hZ e667 hown hml (W 143 rfl) (W 144 rfl) (W 103 rfl) (W 145 rfl) (rm32_3_2 l Z a0 hw t k x0 x1 x2 fo h0 n0 Z0 O0 SIO hfo ⟨SAD, SHI, SLO⟩ VA hd) d30_21 [(.ref t), v'2] [] own_pd5 0 (by decide) (fun v668 T668 L668 X668 hQ668 => ?_)
 obtain ⟨rfl, N668q, e668⟩ := hQ668
 have N668 := Fr.app N666 N668q
 refine own_nv ?_
 refine own_rN X668 q hrt (by simp) d30_24 hlk (by decide) ?_
 show QI x2 h0 n0 _ T668.heap _
 rw [e668]
 exact ⟨congrArg (fun z => some (Value.int z)) (own_nc hd), N668, rfl⟩
theorem rm30_str (l : Launch) (Z : State) (a0 : Array Value) (hw : own_hw a0 Z) (a1 : Addr) (p2 : Int32) (X : List Int32) (i : Nat) (cs0 : Int32) (fo : Value) (h0 : Heap) (n0 : Nat) (Z0 : n0 ≤ h0.size) (O0 : Old Z n0 h0) (SC_ : own_SC Z cs0) (SIO : Sta Z Z.heap "jdk/internal/util/Preconditions" "SIOOBE_FORMATTER" "Ljava/util/function/BiFunction;" fo) (hfo : fo.isRef = true) (SU_ : own_SU Z) (S : own_str Z h0 a1 X) (hl : X.length ≤ 3) (hp : p2 = Int32.ofNat i) (hi : i < X.length) :
  own_M l Z [] own_y19 b'30 2 (some .char) ({ frames := 4, cells := 0, slots := 0, locals := 53 } : Room) #[.ref a1, .int p2] h0 (QI (own_ch X i) h0 n0) := by
 obtain ⟨SCS, hcs⟩ := SC_; obtain ⟨SAD, SHI, SLO⟩ := SU_
 subst hp
 obtain ⟨t, k, E1, FV, D, hc⟩ := S
 rcases X with _ | ⟨x0, _ | ⟨x1, _ | ⟨x2, _ | ⟨x3, X⟩⟩⟩⟩
 ·simp at hi
 ·rcases i with _ | i
  ·rcases D with ⟨FC, hA, V⟩ | ⟨FC, V⟩
   ·exact rm30_L1_0 l Z a0 hw a1 t k x0 cs0 fo h0 n0 Z0 O0 ⟨SCS, hcs⟩ SIO hfo ⟨SAD, SHI, SLO⟩ E1 FV FC V (hA _ (List.mem_of_getElem? (i := 0) rfl)) (hc _ (List.mem_of_getElem? (i := 0) rfl))
   ·exact rm30_U1_0 l Z a0 hw a1 t k x0 cs0 fo h0 n0 Z0 O0 ⟨SCS, hcs⟩ SIO hfo ⟨SAD, SHI, SLO⟩ E1 FV FC V (hc _ (List.mem_of_getElem? (i := 0) rfl))
  ·simp at hi; try omega
 ·rcases i with _ | _ | i
  ·rcases D with ⟨FC, hA, V⟩ | ⟨FC, V⟩
   ·exact rm30_L2_0 l Z a0 hw a1 t k x0 x1 cs0 fo h0 n0 Z0 O0 ⟨SCS, hcs⟩ SIO hfo ⟨SAD, SHI, SLO⟩ E1 FV FC V (hA _ (List.mem_of_getElem? (i := 0) rfl)) (hc _ (List.mem_of_getElem? (i := 0) rfl))
   ·exact rm30_U2_0 l Z a0 hw a1 t k x0 x1 cs0 fo h0 n0 Z0 O0 ⟨SCS, hcs⟩ SIO hfo ⟨SAD, SHI, SLO⟩ E1 FV FC V (hc _ (List.mem_of_getElem? (i := 0) rfl))
  ·rcases D with ⟨FC, hA, V⟩ | ⟨FC, V⟩
   ·exact rm30_L2_1 l Z a0 hw a1 t k x0 x1 cs0 fo h0 n0 Z0 O0 ⟨SCS, hcs⟩ SIO hfo ⟨SAD, SHI, SLO⟩ E1 FV FC V (hA _ (List.mem_of_getElem? (i := 1) rfl)) (hc _ (List.mem_of_getElem? (i := 1) rfl))
   ·exact rm30_U2_1 l Z a0 hw a1 t k x0 x1 cs0 fo h0 n0 Z0 O0 ⟨SCS, hcs⟩ SIO hfo ⟨SAD, SHI, SLO⟩ E1 FV FC V (hc _ (List.mem_of_getElem? (i := 1) rfl))
  ·simp at hi; try omega
 ·rcases i with _ | _ | _ | i
  ·rcases D with ⟨FC, hA, V⟩ | ⟨FC, V⟩
   ·exact rm30_L3_0 l Z a0 hw a1 t k x0 x1 x2 cs0 fo h0 n0 Z0 O0 ⟨SCS, hcs⟩ SIO hfo ⟨SAD, SHI, SLO⟩ E1 FV FC V (hA _ (List.mem_of_getElem? (i := 0) rfl)) (hc _ (List.mem_of_getElem? (i := 0) rfl))
   ·exact rm30_U3_0 l Z a0 hw a1 t k x0 x1 x2 cs0 fo h0 n0 Z0 O0 ⟨SCS, hcs⟩ SIO hfo ⟨SAD, SHI, SLO⟩ E1 FV FC V (hc _ (List.mem_of_getElem? (i := 0) rfl))
  ·rcases D with ⟨FC, hA, V⟩ | ⟨FC, V⟩
   ·exact rm30_L3_1 l Z a0 hw a1 t k x0 x1 x2 cs0 fo h0 n0 Z0 O0 ⟨SCS, hcs⟩ SIO hfo ⟨SAD, SHI, SLO⟩ E1 FV FC V (hA _ (List.mem_of_getElem? (i := 1) rfl)) (hc _ (List.mem_of_getElem? (i := 1) rfl))
   ·exact rm30_U3_1 l Z a0 hw a1 t k x0 x1 x2 cs0 fo h0 n0 Z0 O0 ⟨SCS, hcs⟩ SIO hfo ⟨SAD, SHI, SLO⟩ E1 FV FC V (hc _ (List.mem_of_getElem? (i := 1) rfl))
  ·rcases D with ⟨FC, hA, V⟩ | ⟨FC, V⟩
   ·exact rm30_L3_2 l Z a0 hw a1 t k x0 x1 x2 cs0 fo h0 n0 Z0 O0 ⟨SCS, hcs⟩ SIO hfo ⟨SAD, SHI, SLO⟩ E1 FV FC V (hA _ (List.mem_of_getElem? (i := 2) rfl)) (hc _ (List.mem_of_getElem? (i := 2) rfl))
   ·exact rm30_U3_2 l Z a0 hw a1 t k x0 x1 x2 cs0 fo h0 n0 Z0 O0 ⟨SCS, hcs⟩ SIO hfo ⟨SAD, SHI, SLO⟩ E1 FV FC V (hc _ (List.mem_of_getElem? (i := 2) rfl))
  ·simp at hi; try omega
 ·simp at hl; try omega
theorem d9_0 : own_D b'9 0 (.iload_n 0) 1 1 := by decide +kernel
theorem d9_1 : own_DZ b'9 1 .ge 9 4 := by decide +kernel
theorem d9_4 : own_D b'9 4 (.iload_n 0) 1 5 := by decide +kernel
theorem d9_5 : own_D b'9 5 .ineg 1 6 := by decide +kernel
theorem d9_6 : own_DG b'9 6 10 := by decide +kernel
theorem d9_9 : own_D b'9 9 (.iload_n 0) 1 10 := by decide +kernel
theorem d9_10 : own_D b'9 10 .ireturn 1 11 := by decide +kernel
theorem pn_9 : plainFor (⟨"java/lang/Math", "abs", "(I)I"⟩ : MethodName) = true := Jvm.Free.JP.mathPlain rfl (by decide +kernel)
theorem rm9 (l : Launch) (Z : State) (a0 : Array Value) (hw : own_hw a0 Z) (p1 : Int32) (z : Int32) (h0 : Heap) (n0 : Nat) (Z0 : n0 ≤ h0.size) (hz : own_abs p1 = z) :
  own_M l Z [] own_y20 b'9 1 (some .int) ⟨0, 0, 0, 0⟩ #[(.int p1)] h0 (QI z h0 n0) := by
 refine own_start (n0 := n0) hw "java/lang/Math" (L := #[.val (.int p1)]) pn_9 (fun {p e s m below meth c s₁} q hx W hml hZ hown hnm hlk hrt X0 e0 N0 => ?_)
 refine own_iln X0 q d9_0 rfl ?_
 by_cases hc1_670 : p1 < (0 : Int32)
 ·refine own_zn X0 q d9_1 (((if0 _ _).trans (tlt hc1_670).2.1)) (own_iln X0 q d9_4 rfl (own_stp 6 (fun _ k => XS.ineg X0.here hx rfl (q.d d9_5) rfl k) (own_gt X0 q d9_6 ?_)))
  refine own_rI X0 q hrt d9_10 hlk (by decide) ?_
  show QI z h0 n0 _ s₁.heap _
  rw [e0]
  exact ⟨by rw [← hz]; simp [own_abs, hc1_670], N0, rfl⟩
 ·refine own_zy X0 q d9_1 (((if0 _ _).trans (flt hc1_670).2.1)) (own_iln X0 q d9_9 rfl ?_)
  refine own_rI X0 q hrt d9_10 hlk (by decide) ?_
  show QI z h0 n0 _ s₁.heap _
  rw [e0]
  exact ⟨by rw [← hz]; simp [own_abs, hc1_670], N0, rfl⟩
theorem d12_0 : own_D b'12 0 (.iload_n 0) 1 1 := by decide +kernel
theorem d12_1 : own_D b'12 1 (.iload_n 1) 1 2 := by decide +kernel
theorem d12_2 : own_DJ b'12 2 .lt 9 5 := by decide +kernel
theorem d12_5 : own_D b'12 5 (.iload_n 0) 1 6 := by decide +kernel
theorem d12_6 : own_DG b'12 6 10 := by decide +kernel
theorem d12_9 : own_D b'12 9 (.iload_n 1) 1 10 := by decide +kernel
theorem d12_10 : own_D b'12 10 .ireturn 1 11 := by decide +kernel
theorem pn_12 : plainFor (⟨"java/lang/Math", "max", "(II)I"⟩ : MethodName) = true := Jvm.Free.JP.mathPlain rfl (by decide +kernel)
theorem rm12 (l : Launch) (Z : State) (a0 : Array Value) (hw : own_hw a0 Z) (p1 : Int32) (p2 : Int32) (z : Int32) (h0 : Heap) (n0 : Nat) (Z0 : n0 ≤ h0.size) (hz : own_max p1 p2 = z) :
  own_M l Z [] own_y21 b'12 2 (some .int) ⟨0, 0, 0, 0⟩ #[(.int p1), (.int p2)] h0 (QI z h0 n0) := by
 refine own_start (n0 := n0) hw "java/lang/Math" (L := #[.val (.int p1), .val (.int p2)]) pn_12 (fun {p e s m below meth c s₁} q hx W hml hZ hown hnm hlk hrt X0 e0 N0 => ?_)
 refine own_iln X0 q d12_0 rfl (own_iln X0 q d12_1 rfl ?_)
 by_cases hc2_672 : p1 < p2
 ·refine own_cy X0 q d12_2 ((tlt hc2_672).1) (own_iln X0 q d12_9 rfl ?_)
  refine own_rI X0 q hrt d12_10 hlk (by decide) ?_
  show QI z h0 n0 _ s₁.heap _
  rw [e0]
  exact ⟨by rw [← hz]; simp [own_max, hc2_672], N0, rfl⟩
 ·refine own_cn X0 q d12_2 ((flt hc2_672).1) (own_iln X0 q d12_5 rfl (own_gt X0 q d12_6 ?_))
  refine own_rI X0 q hrt d12_10 hlk (by decide) ?_
  show QI z h0 n0 _ s₁.heap _
  rw [e0]
  exact ⟨by rw [← hz]; simp [own_max, hc2_672], N0, rfl⟩
theorem d5_0 : own_D b'5 0 (.iload_n 0) 1 1 := by decide +kernel
theorem d5_1 : own_D b'5 1 (.iload_n 1) 1 2 := by decide +kernel
theorem d5_2 : own_DJ b'5 2 .gt 9 5 := by decide +kernel
theorem d5_5 : own_D b'5 5 (.iload_n 0) 1 6 := by decide +kernel
theorem d5_6 : own_DG b'5 6 10 := by decide +kernel
theorem d5_9 : own_D b'5 9 (.iload_n 1) 1 10 := by decide +kernel
theorem d5_10 : own_D b'5 10 .ireturn 1 11 := by decide +kernel
theorem pn_5 : plainFor (⟨"java/lang/Math", "min", "(II)I"⟩ : MethodName) = true := Jvm.Free.JP.mathPlain rfl (by decide +kernel)
theorem rm5 (l : Launch) (Z : State) (a0 : Array Value) (hw : own_hw a0 Z) (p1 : Int32) (p2 : Int32) (z : Int32) (h0 : Heap) (n0 : Nat) (Z0 : n0 ≤ h0.size) (hz : own_min p1 p2 = z) :
  own_M l Z [] own_y22 b'5 2 (some .int) ⟨0, 0, 0, 0⟩ #[(.int p1), (.int p2)] h0 (QI z h0 n0) := by
 refine own_start (n0 := n0) hw "java/lang/Math" (L := #[.val (.int p1), .val (.int p2)]) pn_5 (fun {p e s m below meth c s₁} q hx W hml hZ hown hnm hlk hrt X0 e0 N0 => ?_)
 refine own_iln X0 q d5_0 rfl (own_iln X0 q d5_1 rfl ?_)
 by_cases hc2_674 : p2 < p1
 ·refine own_cy X0 q d5_2 ((tlt hc2_674).2.2.1) (own_iln X0 q d5_9 rfl ?_)
  refine own_rI X0 q hrt d5_10 hlk (by decide) ?_
  show QI z h0 n0 _ s₁.heap _
  rw [e0]
  exact ⟨by rw [← hz]; simp [own_min, hc2_674], N0, rfl⟩
 ·refine own_cn X0 q d5_2 ((flt hc2_674).2.2.1) (own_iln X0 q d5_5 rfl (own_gt X0 q d5_6 ?_))
  refine own_rI X0 q hrt d5_10 hlk (by decide) ?_
  show QI z h0 n0 _ s₁.heap _
  rw [e0]
  exact ⟨by rw [← hz]; simp [own_min, hc2_674], N0, rfl⟩
theorem d14_0 : own_D b'14 0 (.iload_n 1) 1 1 := by decide +kernel
theorem d14_1 : own_DZ b'14 1 .eq 21 4 := by decide +kernel
theorem d14_4 : own_D b'14 4 (.iload_n 2) 1 5 := by decide +kernel
theorem d14_5 : own_DZ b'14 5 .eq 21 8 := by decide +kernel
theorem d14_8 : own_D b'14 8 (.iload_n 1) 1 9 := by decide +kernel
theorem d14_9 : own_D b'14 9 (.iload_n 2) 1 10 := by decide +kernel
theorem d14_10 : own_D b'14 10 .isub 1 11 := by decide +kernel
theorem d14_11 : own_D b'14 11 (.invokestatic 18) 3 14 := by decide +kernel
theorem d14_14 : own_D b'14 14 (.aload_n 0) 1 15 := by decide +kernel
theorem d14_15 : own_D b'14 15 (.getfield 14) 3 18 := by decide +kernel
theorem d14_18 : own_DJ b'14 18 .le 28 21 := by decide +kernel
theorem d14_21 : own_D b'14 21 (.aload_n 0) 1 22 := by decide +kernel
theorem d14_22 : own_D b'14 22 (.getfield 14) 3 25 := by decide +kernel
theorem d14_25 : own_DK b'14 25 1 26 := by decide +kernel
theorem d14_26 : own_D b'14 26 .iadd 1 27 := by decide +kernel
theorem d14_27 : own_D b'14 27 .ireturn 1 28 := by decide +kernel
theorem d14_28 : own_D b'14 28 (.aload_n 0) 1 29 := by decide +kernel
theorem d14_29 : own_D b'14 29 (.getfield 9) 3 32 := by decide +kernel
theorem d14_32 : own_D b'14 32 (.iload_n 1) 1 33 := by decide +kernel
theorem d14_33 : own_D b'14 33 (.aload_n 0) 1 34 := by decide +kernel
theorem d14_34 : own_D b'14 34 (.getfield 9) 3 37 := by decide +kernel
theorem d14_37 : own_D b'14 37 .arraylength 1 38 := by decide +kernel
theorem d14_38 : own_D b'14 38 .irem 1 39 := by decide +kernel
theorem d14_39 : own_D b'14 39 .aaload 1 40 := by decide +kernel
theorem d14_40 : own_D b'14 40 (.iload_n 2) 1 41 := by decide +kernel
theorem d14_41 : own_D b'14 41 .iaload 1 42 := by decide +kernel
theorem d14_42 : own_D b'14 42 .ireturn 1 43 := by decide +kernel
theorem pn_14 : plainFor (⟨"com/example/conformance_check/conformancecheck/catalogue/EditDistance$Table", "get", "(II)I"⟩ : MethodName) = true := plainFor_of_name (by first | (simp [plainName, overriddenIn]; done) | decide +kernel)
theorem rm14 (l : Launch) (Z : State) (a0 : Array Value) (hw : own_hw a0 Z) (a1 : Addr) (p2 : Int32) (p3 : Int32) (r : Addr) (M Wd rr cc g : Nat) (f : Nat → Nat → Nat) (h0 : Heap) (n0 : Nat) (Z0 : n0 ≤ h0.size) (TBL : own_tab Z h0 a1 r M Wd f) (h2 : p2 = Int32.ofNat rr) (h3 : p3 = Int32.ofNat cc) (hr : rr ≤ 100) (hM : M ≤ 7) (hc : cc < Wd) (hW : Wd ≤ 100) (hg : own_get M f rr cc = g) :
  own_M l Z [] own_y23 b'14 3 (some .int) ⟨1, 0, 0, 12⟩ #[(.ref a1), (.int p2), (.int p3)] h0 (QI (Int32.ofNat g) h0 n0) := by
 refine own_start (n0 := n0) hw "com/example/conformance_check/conformancecheck/catalogue/EditDistance$Table" (L := #[.val (.ref a1), .val (.int p2), .val (.int p3)]) pn_14 (fun {p e s m below meth c s₁} q hx W hml hZ hown hnm hlk hrt X0 e0 N0 => ?_)
 obtain ⟨E1, FM, FR, ⟨kr, VR⟩, VI⟩ := id TBL
 obtain ⟨kx, VX⟩ := VI (rr % (M + 2)) (Nat.mod_lt _ (by omega))
 refine own_iln X0 q d14_0 rfl ?_
 by_cases hc1_687 : p2 = (0 : Int32)
 ·refine own_zy X0 q d14_1 (((if0 _ _).trans (teq hc1_687).1)) (own_aln X0 q d14_21 rfl rfl ?_)
  refine own_gF X0 q hZ e0 hown (W 60 rfl) FM d14_22 fun T688 X688 e688 => ?_
  refine own_k X688 q d14_25 (own_iadd X688 q d14_26 ?_)
  refine own_rI X688 q hrt d14_27 hlk (by decide) ?_
  show QI (Int32.ofNat g) h0 n0 _ T688.heap _
  rw [e688]
  exact ⟨congrArg (fun z => some (Value.int z)) ((own_g0 h2 hr hc1_687).trans (congrArg Int32.ofNat hg)), N0, rfl⟩
 ·refine own_zn X0 q d14_1 (((if0 _ _).trans (feq hc1_687).1)) (own_iln X0 q d14_4 rfl ?_)
  by_cases hc5_689 : p3 = (0 : Int32)
  ·refine own_zy X0 q d14_5 (((if0 _ _).trans (teq hc5_689).1)) (own_aln X0 q d14_21 rfl rfl ?_)
   refine own_gF X0 q hZ e0 hown (W 60 rfl) FM d14_22 fun T690 X690 e690 => ?_
   refine own_k X690 q d14_25 (own_iadd X690 q d14_26 ?_)
   refine own_rI X690 q hrt d14_27 hlk (by decide) ?_
   show QI (Int32.ofNat g) h0 n0 _ T690.heap _
   rw [e690]
   exact ⟨congrArg (fun z => some (Value.int z)) ((own_g1 h2 h3 hr (by omega) hc1_687 hc5_689).trans (congrArg Int32.ofNat hg)), N0, rfl⟩
  ·refine own_zn X0 q d14_5 (((if0 _ _).trans (feq hc5_689).1)) (own_iln X0 q d14_8 rfl (own_iln X0 q d14_9 rfl (own_isub X0 q d14_10 ?_)))
   refine own_cS X0 q hZ e0 hown hml (W 76 rfl) (W 44 rfl) (W 24 rfl) (W 45 rfl) (rm9 l Z a0 hw (p2 - p3) (Int32.ofNat ((rr - cc) + (cc - rr))) h0 n0 Z0 (by rw [h2, h3]; exact own_absN (by omega) (by omega))) d14_11 [(.int (p2 - p3))] [] own_pd0 0 (by decide) (fun v691 T691 L691 X691 hQ691 => ?_)
   obtain ⟨rfl, N691q, e691⟩ := hQ691
   have N691 := Fr.app N0 N691q
   refine own_nv (own_aln X691 q d14_14 rfl rfl ?_)
   refine own_gF X691 q hZ e691 hown (W 60 rfl) FM d14_15 fun T692 X692 e692 => ?_
   by_cases hc18_693 : (Int32.ofNat M) < (Int32.ofNat ((rr - cc) + (cc - rr)))
   ·refine own_cn X692 q d14_18 ((tlt hc18_693).2.2.2) (own_aln X692 q d14_21 rfl rfl ?_)
    refine own_gF X692 q hZ e692 hown (W 60 rfl) FM d14_22 fun T694 X694 e694 => ?_
    refine own_k X694 q d14_25 (own_iadd X694 q d14_26 ?_)
    refine own_rI X694 q hrt d14_27 hlk (by decide) ?_
    show QI (Int32.ofNat g) h0 n0 _ T694.heap _
    rw [e694]
    exact ⟨congrArg (fun z => some (Value.int z)) ((own_g2 hM h2 h3 hr (by omega) hc1_687 hc5_689 hc18_693).trans (congrArg Int32.ofNat hg)), N691, rfl⟩
   ·refine own_cy X692 q d14_18 ((flt hc18_693).2.2.2) (own_aln X692 q d14_28 rfl rfl ?_)
    refine own_gF X692 q hZ e692 hown (W 58 rfl) FR d14_29 fun T695 X695 e695 => ?_
    refine own_iln X695 q d14_32 rfl (own_aln X695 q d14_33 rfl rfl ?_)
    refine own_gF X695 q hZ e695 hown (W 58 rfl) FR d14_34 fun T696 X696 e696 => ?_
    refine own_alen (n := (Int32.ofNat (M + 2))) X696 q hZ e696 VR d14_37 (own_stp 39 (fun _ k => iremM X696 hx rfl (q.d d14_38) rfl (fun q => absurd ((own_z0 (p := Int32.ofNat (M + 2)) rfl (by omega)).mp q) (by omega)) k) ?_)
    obtain ⟨cl697, Ar697, q697, S697, M697, H697, G697⟩ := id VR
    refine own_stp 40 (fun _ k => X696.aaload hx (j := (p2 % (Int32.ofNat (M + 2)))) (v := (.ref (r + 1 + rr % (M + 2)))) (by rw [e696]; exact Ar697.1) (State.isArrayOf_alike hZ.alike Ar697.2.1) rfl Ar697.2.2 (inb_of S697 (own_ixR h2 hr hM)) (Has.at H697 (inb_of S697 (own_ixR h2 hr hM)) (own_atR h2 hr hM)) (g := mkF m 39 _ _) rfl rfl (q.d d14_39) _ k) (own_iln X696 q d14_40 rfl ?_)
    obtain ⟨cl698, Ar698, q698, S698, M698, H698, G698⟩ := id VX
    refine own_stp 42 (fun _ k => X696.iaload hx (j := p3) (v := (.int (Int32.ofNat (f (rr % (M + 2)) cc)))) (by rw [e696]; exact Ar698.1) (State.isArrayOf_alike hZ.alike Ar698.2.1) Ar698.2.2 (inb_of S698 (own_ixC h3 hc hW)) (Has.at H698 (inb_of S698 (own_ixC h3 hc hW)) (own_atC (g := f (rr % (M + 2))) h3 hc hW)) (g := mkF m 41 _ _) rfl rfl (q.d d14_41) _ k) ?_
    refine own_rI X696 q hrt d14_42 hlk (by decide) ?_
    show QI (Int32.ofNat g) h0 n0 _ T696.heap _
    rw [e696]
    exact ⟨congrArg (fun z => some (Value.int z)) ((own_g3 hM h2 h3 hr (by omega) hc1_687 hc5_689 hc18_693).trans (congrArg Int32.ofNat hg)), N691, rfl⟩
theorem d13_0 : own_D b'13 0 (.aload_n 0) 1 1 := by decide +kernel
theorem d13_1 : own_D b'13 1 (.getfield 9) 3 4 := by decide +kernel
theorem d13_4 : own_D b'13 4 (.iload_n 1) 1 5 := by decide +kernel
theorem d13_5 : own_D b'13 5 (.aload_n 0) 1 6 := by decide +kernel
theorem d13_6 : own_D b'13 6 (.getfield 9) 3 9 := by decide +kernel
theorem d13_9 : own_D b'13 9 .arraylength 1 10 := by decide +kernel
theorem d13_10 : own_D b'13 10 .irem 1 11 := by decide +kernel
theorem d13_11 : own_D b'13 11 .aaload 1 12 := by decide +kernel
theorem d13_12 : own_D b'13 12 (.iload_n 2) 1 13 := by decide +kernel
theorem d13_13 : own_D b'13 13 (.iload_n 3) 1 14 := by decide +kernel
theorem d13_14 : own_D b'13 14 .iastore 1 15 := by decide +kernel
theorem d13_15 : own_D b'13 15 .return_ 1 16 := by decide +kernel
theorem pn_13 : plainFor (⟨"com/example/conformance_check/conformancecheck/catalogue/EditDistance$Table", "set", "(III)V"⟩ : MethodName) = true := plainFor_of_name (by first | (simp [plainName, overriddenIn]; done) | decide +kernel)
theorem rm13 (l : Launch) (Z : State) (a0 : Array Value) (hw : own_hw a0 Z) (a1 : Addr) (p2 : Int32) (p3 : Int32) (p4 : Int32) (r : Addr) (M Wd rr cc v : Nat) (f : Nat → Nat → Nat) (h0 : Heap) (n0 : Nat) (Z0 : n0 ≤ h0.size) (TBL : own_tab Z h0 a1 r M Wd f) (h2 : p2 = Int32.ofNat rr) (h3 : p3 = Int32.ofNat cc) (hr : rr ≤ 100) (hM : M ≤ 7) (hc : cc < Wd) (hW : Wd ≤ 100) (h4 : p4 = Int32.ofNat v) (gr : n0 ≤ r) (lt : a1 < r) :
  own_M l Z [] own_y24 b'13 4 none ⟨0, 0, 0, 0⟩ #[(.ref a1), (.int p2), (.int p3), (.int p4)] h0 (QST Z a1 r M Wd rr cc v f h0 n0) := by
 refine own_start (n0 := n0) hw "com/example/conformance_check/conformancecheck/catalogue/EditDistance$Table" (L := #[.val (.ref a1), .val (.int p2), .val (.int p3), .val (.int p4)]) pn_13 (fun {p e s m below meth c s₁} q hx W hml hZ hown hnm hlk hrt X0 e0 N0 => ?_)
 obtain ⟨E1, FM, FR, ⟨kr, VR⟩, VI⟩ := id TBL
 obtain ⟨kx, VX⟩ := VI (rr % (M + 2)) (Nat.mod_lt _ (by omega))
 have gA : n0 ≤ (r + 1 + rr % (M + 2)) := own_age gr
 have kp0 := Keep.refl h0 [(r + 1 + rr % (M + 2))]
 refine own_aln X0 q d13_0 rfl rfl ?_
 refine own_gF X0 q hZ e0 hown (W 58 rfl) FR d13_1 fun T706 X706 e706 => ?_
 refine own_iln X706 q d13_4 rfl (own_aln X706 q d13_5 rfl rfl ?_)
 refine own_gF X706 q hZ e706 hown (W 58 rfl) FR d13_6 fun T707 X707 e707 => ?_
 refine own_alen (n := (Int32.ofNat (M + 2))) X707 q hZ e707 VR d13_9 (own_stp 11 (fun _ k => iremM X707 hx rfl (q.d d13_10) rfl (fun q => absurd ((own_z0 (p := Int32.ofNat (M + 2)) rfl (by omega)).mp q) (by omega)) k) ?_)
 obtain ⟨cl708, Ar708, q708, S708, M708, H708, G708⟩ := id VR
 refine own_stp 12 (fun _ k => X707.aaload hx (j := (p2 % (Int32.ofNat (M + 2)))) (v := (.ref (r + 1 + rr % (M + 2)))) (by rw [e707]; exact Ar708.1) (State.isArrayOf_alike hZ.alike Ar708.2.1) rfl Ar708.2.2 (inb_of S708 (own_ixR h2 hr hM)) (Has.at H708 (inb_of S708 (own_ixR h2 hr hM)) (own_atR h2 hr hM)) (g := mkF m 11 _ _) rfl rfl (q.d d13_11) _ k) (own_iln X707 q d13_12 rfl (own_iln X707 q d13_13 rfl ?_))
 refine own_let ?_; intro g709_
 obtain ⟨cl710, Ar710, q710, S710, M710, H710, G710⟩ := id VX
 obtain ⟨T711, h711, X711, e711, W711, st711⟩ := stI X707 hx hZ e707 Ar710 (j := p3) (inb_of S710 (own_ixC h3 hc hW)) (g := g709_) rfl rfl (q.d d13_14)
 have zs712 := Nat.le_trans Z0 (Keep.of_wr W711).1
 have kp712 := kp0.wr W711 (own_i0)
 have V711 := Arv.set Ar710 q710 S710 M710 H710 G710 (v := .int p4) rfl W711 cc (by rw [h3]; exact own_clamp (by omega)) (by simpa using hc)
 rw [h4] at V711
 have N711 := Fr.snoc X711 N0 gA
 refine own_stp 15 st711 ?_
 refine own_rV X711 q hrt d13_15 hlk (by decide) ?_
 show QST Z a1 r M Wd rr cc v f h0 n0 _ T711.heap _
 rw [e711]
 exact ⟨rfl, N711, kp712, own_tab.set TBL W711 V711 lt⟩
theorem d10_0 : own_D b'10 0 (.aload_n 0) 1 1 := by decide +kernel
theorem d10_1 : own_D b'10 1 (.invokespecial 1) 3 4 := by decide +kernel
theorem d10_4 : own_D b'10 4 (.aload_n 0) 1 5 := by decide +kernel
theorem d10_5 : own_D b'10 5 (.iload_n 1) 1 6 := by decide +kernel
theorem d10_6 : own_D b'10 6 (.iload_n 2) 1 7 := by decide +kernel
theorem d10_7 : own_D b'10 7 (.multianewarray 7 2) 4 11 := by decide +kernel
theorem d10_11 : own_D b'10 11 (.putfield 9) 3 14 := by decide +kernel
theorem d10_14 : own_D b'10 14 (.aload_n 0) 1 15 := by decide +kernel
theorem d10_15 : own_D b'10 15 (.iload_n 3) 1 16 := by decide +kernel
theorem d10_16 : own_D b'10 16 (.putfield 14) 3 19 := by decide +kernel
theorem d10_19 : own_D b'10 19 .return_ 1 20 := by decide +kernel
theorem pn_10 : plainFor (⟨"com/example/conformance_check/conformancecheck/catalogue/EditDistance$Table", "<init>", "(III)V"⟩ : MethodName) = true := plainFor_of_name (by first | (simp [plainName, overriddenIn]; done) | decide +kernel)
theorem rm10 (l : Launch) (Z : State) (a0 : Array Value) (hw : own_hw a0 Z) (a1 : Addr) (p2 : Int32) (p3 : Int32) (M Wd : Nat) (h0 : Heap) (n0 : Nat) (Z0 : n0 ≤ h0.size) (E1 : Exa Z h0 a1 "com/example/conformance_check/conformancecheck/catalogue/EditDistance$Table") (FR : Fld Z h0 a1 "com/example/conformance_check/conformancecheck/catalogue/EditDistance$Table" "rows" "[[I" .null) (FM : Fld Z h0 a1 "com/example/conformance_check/conformancecheck/catalogue/EditDistance$Table" "max" "I" v'0) (g1 : n0 ≤ a1) (hM : M ≤ 7) (hW : Wd ≤ 5) (h2 : p2 = Int32.ofNat (M + 2)) (h3 : p3 = Int32.ofNat Wd) :
  own_M l Z [] own_y25 b'10 4 none ⟨1, 10, 54, 15⟩ #[(.ref a1), (.int p2), (.int p3), (.int (Int32.ofNat M))] h0 (QTI Z a1 M Wd h0 n0) := by
 refine own_start (n0 := n0) hw "com/example/conformance_check/conformancecheck/catalogue/EditDistance$Table" (L := #[.val (.ref a1), .val (.int p2), .val (.int p3), .val (.int (Int32.ofNat M))]) pn_10 (fun {p e s m below meth c s₁} q hx W hml hZ hown hnm hlk hrt X0 e0 N0 => ?_)
 have hby := q.2
 subst h2 h3
 have kp0 := Keep.refl h0 [a1]
 refine own_aln X0 q d10_0 rfl rfl ?_
 refine own_let ?_; intro g724_
 obtain ⟨T725, X725, e725, st725⟩ := initO X0 hx hZ hown (W 52 rfl) (W 53 rfl) (W 54 rfl) e0 (g := g724_) rfl (by rw [hml]; rfl) rfl (q.d d10_1) (by decide) (W := 0) (by show 2 * 0 + _ ≤ _; exact Nat.le_of_eq rfl) (by decide)
 refine own_stp 4 st725 (own_aln X725 q d10_4 rfl rfl (own_iln X725 q d10_5 rfl (own_iln X725 q d10_6 rfl ?_)))
 refine own_let ?_; intro g726_
 obtain ⟨T727, h727, cA727, cp727, X727, e727, E727, V727, O727, Ex727, RW727, st727⟩ := gridM X725 hx hZ hown (C := "[I") (ad := "[[I") (ty := .int) (by decide) (by decide) (W 55 rfl) (W 56 rfl) (W 57 rfl) e725 (g := g726_) rfl (q.d d10_7) rfl (n := Int32.ofNat (M + 2)) (k := Int32.ofNat Wd) (own_inN (n := M + 3) (by omega) (by omega)).1 (own_inN (n := Wd + 1) (by omega) (by omega)).1 (N := M + 2) (own_clamp (by omega)) (xs := (List.range (M + 2)).map fun j => h0.size + 1 + j) rfl (cap := 5) (by rw [own_clamp (by omega)]; omega) (by decide) (by omega) rfl rfl (by show 0 + (1 + (M + 2)) ≤ 10; omega) (by show 0 + ((M + 2) + (M + 2) * 5) ≤ 54; omega)
 have X727 : Stand p l e ({ frames := 1, cells := 10, slots := 54, locals := 15 } : Room) s m _ below meth c T727 _ 10 54 := X727.more (by omega) (by omega)
 have lt727 : a1 < h0.size := (E1).lt
 obtain ⟨b727, g727⟩ : ∃ z, z = h0.size := ⟨_, rfl⟩
 rw [← g727] at V727 RW727 st727 lt727
 have RV727 := own_rows.mk0 (by omega) RW727
 rw [List.map_map] at V727
 have zs728 := Nat.le_trans Z0 E727.1
 have kp728 := kp0.ext E727
 have g_b727 : n0 ≤ b727 := Nat.le_trans Z0 (Nat.le_of_eq g727.symm)
 have sz_b727 : h0.size ≤ b727 := Nat.le_trans kp0.1 (Nat.le_of_eq g727.symm)
 refine own_stp 11 st727 ?_
 refine own_let ?_; intro g729_
 obtain ⟨T730, h730, X730, e730, W730, st730⟩ := putF X727 hx hZ hown (host := "") (Or.inl (W 58 rfl)) Via.refl e727 (FR.ext E727) (E1.ext E727) (Or.inr ⟨(W 59 rfl), rfl, hnm⟩) (W 47 rfl) (ty := (.array (.array .int))) (by decide) rfl rfl (g := g729_) rfl rfl (q.d d10_11)
 have zs731 := Nat.le_trans zs728 (Keep.of_wr W730).1
 have kp731 := kp728.wr W730 (own_i0)
 have Fw730 := ((FR.ext E727)).same W730
 have N730 := Fr.snoc X730 N0 g1
 refine own_stp 14 st730 (own_aln X730 q d10_14 rfl rfl (own_iln X730 q d10_15 rfl ?_))
 refine own_let ?_; intro g732_
 obtain ⟨T733, h733, X733, e733, W733, st733⟩ := putF X730 hx hZ hown (host := "") (Or.inl (W 60 rfl)) Via.refl e730 ((FM.ext E727).other W730 (Or.inr (slot_ne (Or.inr (W 61 rfl)) (Or.inr (W 59 rfl)) (by decide) (t := .int) (t' := (.array (.array .int))) (by decide) (by decide)))) ((E1.ext E727).wr W730) (Or.inr ⟨(W 61 rfl), rfl, hnm⟩) (W 47 rfl) (ty := .int) (by decide) rfl rfl (g := g732_) rfl rfl (q.d d10_16)
 have zs734 := Nat.le_trans zs731 (Keep.of_wr W733).1
 have kp734 := kp731.wr W733 (own_i0)
 have Fw733 := (((FM.ext E727).other W730 (Or.inr (slot_ne (Or.inr (W 61 rfl)) (Or.inr (W 59 rfl)) (by decide) (t := .int) (t' := (.array (.array .int))) (by decide) (by decide))))).same W733
 have N733 := Fr.snoc X733 N730 g1
 refine own_stp 19 st733 ?_
 refine own_rV X733 q hrt d10_19 hlk (by decide) ?_
 show QTI Z a1 M Wd h0 n0 _ T733.heap _
 rw [e733]
 exact ⟨_, rfl, N733, kp734, sz_b727, lt727, (((E1.ext E727).wr W730).wr W733), Fw733, (Fw730.other W733 (Or.inr (slot_ne (Or.inr (W 59 rfl)) (Or.inr (W 61 rfl)) (by decide) (t := (.array (.array .int))) (t' := .int) (by decide) (by decide)))), ⟨_, ((V727.other W730 (Ne.symm (own_ne (E1).lt (Nat.le_of_eq g727.symm)))).other W733 (Ne.symm (own_ne (E1).lt (Nat.le_of_eq g727.symm))))⟩, (own_rows.other (own_rows.other RV727 W730 lt727) W733 lt727)⟩
theorem d37_0 : own_D b'37 0 (.iload_n 3) 1 1 := by decide +kernel
theorem d37_1 : own_D b'37 1 (.istore 4) 2 3 := by decide +kernel
theorem d37_3 : own_D b'37 3 (.iload 4) 2 5 := by decide +kernel
theorem d37_5 : own_DK b'37 5 1 6 := by decide +kernel
theorem d37_6 : own_D b'37 6 (.iload_n 2) 1 7 := by decide +kernel
theorem d37_7 : own_D b'37 7 (.invokestatic 24) 3 10 := by decide +kernel
theorem d37_10 : own_DJ b'37 10 .lt 34 13 := by decide +kernel
theorem d37_13 : own_D b'37 13 (.aload_n 0) 1 14 := by decide +kernel
theorem d37_14 : own_D b'37 14 (.iload 4) 2 16 := by decide +kernel
theorem d37_16 : own_DK b'37 16 1 17 := by decide +kernel
theorem d37_17 : own_D b'37 17 .isub 1 18 := by decide +kernel
theorem d37_18 : own_D b'37 18 (.invokevirtual 31) 3 21 := by decide +kernel
theorem d37_21 : own_D b'37 21 (.iload_n 1) 1 22 := by decide +kernel
theorem d37_22 : own_DJ b'37 22 .ne 28 25 := by decide +kernel
theorem d37_25 : own_D b'37 25 (.iload 4) 2 27 := by decide +kernel
theorem d37_27 : own_D b'37 27 .ireturn 1 28 := by decide +kernel
theorem d37_28 : own_DI b'37 28 4 (-1) 31 := by decide +kernel
theorem d37_31 : own_DG b'37 31 3 := by decide +kernel
theorem d37_34 : own_DK b'37 34 0 35 := by decide +kernel
theorem d37_35 : own_D b'37 35 .ireturn 1 36 := by decide +kernel
theorem pn_37 : plainFor (⟨"com/example/conformance_check/conformancecheck/catalogue/EditDistance", "lastPosition", "(Ljava/lang/String;CII)I"⟩ : MethodName) = true := plainFor_of_name (by first | (simp [plainName, overriddenIn]; done) | decide +kernel)
theorem rm37_0 (l : Launch) (Z : State) (a0 : Array Value) (hw : own_hw a0 Z) (a1 : Addr) (p2 : Int32) (p3 : Int32) (X : List Int32) (lo : Nat) (E : Nat → Bool) (cs0 : Int32) (fo : Value) (h0 : Heap) (n0 : Nat) (Z0 : n0 ≤ h0.size) (O0 : Old Z n0 h0) (SC_ : own_SC Z cs0) (SIO : Sta Z Z.heap "jdk/internal/util/Preconditions" "SIOOBE_FORMATTER" "Ljava/util/function/BiFunction;" fo) (hfo : fo.isRef = true) (SU_ : own_SU Z) (S : own_str Z h0 a1 X) (hl : X.length ≤ 3) (hE : ∀ p, p < X.length → E p = decide (own_ch X p = p2)) (hlo : own_max (1 : Int32) p3 = Int32.ofNat lo) (h1 : 1 ≤ lo) (hlo9 : lo ≤ 9) (hk : 0 ≤ X.length) :
  own_M l Z [] own_y26 b'37 5 (some .int) ⟨5, 0, 0, 66⟩ #[(.ref a1), (.int p2), (.int p3), v'0] h0 (QI (Int32.ofNat (own_lpn E lo 0)) h0 n0) := by
 obtain ⟨SCS, hcs⟩ := SC_; obtain ⟨SAD, SHI, SLO⟩ := SU_
 refine own_start (n0 := n0) hw "com/example/conformance_check/conformancecheck/catalogue/EditDistance" (L := #[.val (.ref a1), .val (.int p2), .val (.int p3), .val v'0, .unset]) pn_37 (fun {p e s m below meth c s₁} q hx W hml hZ hown hnm hlk hrt X0 e0 N0 => ?_)
 have E1 : Exa Z h0 a1 "java/lang/String" := by obtain ⟨_, _, q, _⟩ := S; exact q
 refine own_iln X0 q d37_0 rfl (own_is X0 q d37_1 (l' := #[.val (.ref a1), .val (.int p2), .val (.int p3), .val v'0, .val v'0]) rfl (own_il X0 q d37_3 rfl (own_k X0 q d37_5 (own_iln X0 q d37_6 rfl ?_))))
 refine own_cS X0 q hZ e0 hown hml (W 62 rfl) (W 63 rfl) (W 24 rfl) (W 64 rfl) (rm12 l Z a0 hw (1 : Int32) p3 (Int32.ofNat lo) h0 n0 Z0 hlo) d37_7 [v'1, (.int p3)] [v'0] own_pd14 1 (by decide) (fun v766 T766 L766 X766 hQ766 => ?_)
 obtain ⟨rfl, N766q, e766⟩ := hQ766
 have N766 := Fr.app N0 N766q
 refine own_nv (own_cy X766 q d37_10 ((tlt ((show (0 : Int32) < Int32.ofNat lo from (own_ltN (i := 0) (by omega) (by omega)).mpr (by omega)) : (0 : Int32) < (Int32.ofNat lo))).1) (own_k X766 q d37_34 ?_))
 refine own_rI X766 q hrt d37_35 hlk (by decide) ?_
 show QI (Int32.ofNat (own_lpn E lo 0)) h0 n0 _ T766.heap _
 rw [e766]
 exact ⟨congrArg (fun z => some (Value.int z)) (congrArg Int32.ofNat (rfl : own_lpn E lo 0 = 0)).symm, N766, rfl⟩
theorem rm37_1 (l : Launch) (Z : State) (a0 : Array Value) (hw : own_hw a0 Z) (a1 : Addr) (p2 : Int32) (p3 : Int32) (X : List Int32) (lo : Nat) (E : Nat → Bool) (cs0 : Int32) (fo : Value) (h0 : Heap) (n0 : Nat) (Z0 : n0 ≤ h0.size) (O0 : Old Z n0 h0) (SC_ : own_SC Z cs0) (SIO : Sta Z Z.heap "jdk/internal/util/Preconditions" "SIOOBE_FORMATTER" "Ljava/util/function/BiFunction;" fo) (hfo : fo.isRef = true) (SU_ : own_SU Z) (S : own_str Z h0 a1 X) (hl : X.length ≤ 3) (hE : ∀ p, p < X.length → E p = decide (own_ch X p = p2)) (hlo : own_max (1 : Int32) p3 = Int32.ofNat lo) (h1 : 1 ≤ lo) (hlo9 : lo ≤ 9) (hk : 1 ≤ X.length) :
  own_M l Z [] own_y26 b'37 5 (some .int) ⟨5, 0, 0, 66⟩ #[(.ref a1), (.int p2), (.int p3), v'1] h0 (QI (Int32.ofNat (own_lpn E lo 1)) h0 n0) := by
 obtain ⟨SCS, hcs⟩ := SC_; obtain ⟨SAD, SHI, SLO⟩ := SU_
 refine own_start (n0 := n0) hw "com/example/conformance_check/conformancecheck/catalogue/EditDistance" (L := #[.val (.ref a1), .val (.int p2), .val (.int p3), .val v'1, .unset]) pn_37 (fun {p e s m below meth c s₁} q hx W hml hZ hown hnm hlk hrt X0 e0 N0 => ?_)
 have E1 : Exa Z h0 a1 "java/lang/String" := by obtain ⟨_, _, q, _⟩ := S; exact q
 refine own_iln X0 q d37_0 rfl (own_is X0 q d37_1 (l' := #[.val (.ref a1), .val (.int p2), .val (.int p3), .val v'1, .val v'1]) rfl (own_il X0 q d37_3 rfl (own_k X0 q d37_5 (own_iln X0 q d37_6 rfl ?_))))
 refine own_cS X0 q hZ e0 hown hml (W 62 rfl) (W 63 rfl) (W 24 rfl) (W 64 rfl) (rm12 l Z a0 hw (1 : Int32) p3 (Int32.ofNat lo) h0 n0 Z0 hlo) d37_7 [v'1, (.int p3)] [v'1] own_pd14 1 (by decide) (fun v772 T772 L772 X772 hQ772 => ?_)
 obtain ⟨rfl, N772q, e772⟩ := hQ772
 have N772 := Fr.app N0 N772q
 refine own_nv ?_
 by_cases hc10_773 : (1 : Int32) < (Int32.ofNat lo)
 ·refine own_cy X772 q d37_10 ((tlt hc10_773).1) (own_k X772 q d37_34 ?_)
  refine own_rI X772 q hrt d37_35 hlk (by decide) ?_
  show QI (Int32.ofNat (own_lpn E lo 1)) h0 n0 _ T772.heap _
  rw [e772]
  exact ⟨congrArg (fun z => some (Value.int z)) (congrArg Int32.ofNat ((own_lpA ((own_ltN (i := 1) (by omega) (by omega)).mp hc10_773)) : own_lpn E lo 1 = 0)).symm, N772, rfl⟩
 ·refine own_cn X772 q d37_10 ((flt hc10_773).1) (own_aln X772 q d37_13 rfl rfl (own_il X772 q d37_14 rfl (own_k X772 q d37_16 (own_isubk 0 X772 q d37_17 (by decide) ?_))))
  refine own_cV X772 q hZ e772 hown hml (W 133 rfl) (W 134 rfl) (W 136 rfl) (W 135 rfl) (W 9 rfl) (W 137 rfl) rfl E1 (rm30_str l Z a0 hw a1 (0 : Int32) X 0 cs0 fo h0 n0 Z0 O0 ⟨SCS, hcs⟩ SIO hfo ⟨SAD, SHI, SLO⟩ S hl rfl (by omega)) d37_18 [v'0] [] own_pd15 0 (by decide) (fun v774 T774 L774 X774 hQ774 => ?_)
  obtain ⟨rfl, N774q, e774⟩ := hQ774
  have N774 := Fr.app N772 N774q
  refine own_nv (own_iln X774 q d37_21 rfl ?_)
  by_cases hc22_775 : (own_ch X 0) = p2
  ·refine own_cn X774 q d37_22 ((teq hc22_775).2) (own_il X774 q d37_25 rfl ?_)
   refine own_rI X774 q hrt d37_27 hlk (by decide) ?_
   show QI (Int32.ofNat (own_lpn E lo 1)) h0 n0 _ T774.heap _
   rw [e774]
   exact ⟨congrArg (fun z => some (Value.int z)) (congrArg Int32.ofNat ((own_lpT (fun q => hc10_773 ((own_ltN (i := 1) (by omega) (by omega)).mpr q)) ((hE 0 (by omega)).trans (decide_eq_true hc22_775))) : own_lpn E lo 1 = 1)).symm, N774, rfl⟩
  ·refine own_cy X774 q d37_22 ((feq hc22_775).2) (own_iik X774 q d37_28 rfl (show ((1 : Int32) + (-1 : Int32)) = (0 : Int32) by decide) (l' := #[.val (.ref a1), .val (.int p2), .val (.int p3), .val v'1, .val v'0]) rfl (own_gt X774 q d37_31 (own_il X774 q d37_3 rfl (own_k X774 q d37_5 (own_iln X774 q d37_6 rfl ?_)))))
   refine own_cS X774 q hZ e774 hown hml (W 62 rfl) (W 63 rfl) (W 24 rfl) (W 64 rfl) (rm12 l Z a0 hw (1 : Int32) p3 (Int32.ofNat lo) h0 n0 Z0 hlo) d37_7 [v'1, (.int p3)] [v'0] own_pd14 1 (by decide) (fun v776 T776 L776 X776 hQ776 => ?_)
   obtain ⟨rfl, N776q, e776⟩ := hQ776
   have N776 := Fr.app N774 N776q
   refine own_nv (own_cy X776 q d37_10 ((tlt ((show (0 : Int32) < Int32.ofNat lo from (own_ltN (i := 0) (by omega) (by omega)).mpr (by omega)) : (0 : Int32) < (Int32.ofNat lo))).1) (own_k X776 q d37_34 ?_))
   refine own_rI X776 q hrt d37_35 hlk (by decide) ?_
   show QI (Int32.ofNat (own_lpn E lo 1)) h0 n0 _ T776.heap _
   rw [e776]
   exact ⟨congrArg (fun z => some (Value.int z)) (congrArg Int32.ofNat (((own_lpF (fun q => hc10_773 ((own_ltN (i := 1) (by omega) (by omega)).mpr q)) ((hE 0 (by omega)).trans (decide_eq_false hc22_775))).trans rfl) : own_lpn E lo 1 = 0)).symm, N776, rfl⟩
theorem rm37_2 (l : Launch) (Z : State) (a0 : Array Value) (hw : own_hw a0 Z) (a1 : Addr) (p2 : Int32) (p3 : Int32) (X : List Int32) (lo : Nat) (E : Nat → Bool) (cs0 : Int32) (fo : Value) (h0 : Heap) (n0 : Nat) (Z0 : n0 ≤ h0.size) (O0 : Old Z n0 h0) (SC_ : own_SC Z cs0) (SIO : Sta Z Z.heap "jdk/internal/util/Preconditions" "SIOOBE_FORMATTER" "Ljava/util/function/BiFunction;" fo) (hfo : fo.isRef = true) (SU_ : own_SU Z) (S : own_str Z h0 a1 X) (hl : X.length ≤ 3) (hE : ∀ p, p < X.length → E p = decide (own_ch X p = p2)) (hlo : own_max (1 : Int32) p3 = Int32.ofNat lo) (h1 : 1 ≤ lo) (hlo9 : lo ≤ 9) (hk : 2 ≤ X.length) :
  own_M l Z [] own_y26 b'37 5 (some .int) ⟨5, 0, 0, 66⟩ #[(.ref a1), (.int p2), (.int p3), v'2] h0 (QI (Int32.ofNat (own_lpn E lo 2)) h0 n0) := by
 obtain ⟨SCS, hcs⟩ := SC_; obtain ⟨SAD, SHI, SLO⟩ := SU_
 refine own_start (n0 := n0) hw "com/example/conformance_check/conformancecheck/catalogue/EditDistance" (L := #[.val (.ref a1), .val (.int p2), .val (.int p3), .val v'2, .unset]) pn_37 (fun {p e s m below meth c s₁} q hx W hml hZ hown hnm hlk hrt X0 e0 N0 => ?_)
 have E1 : Exa Z h0 a1 "java/lang/String" := by obtain ⟨_, _, q, _⟩ := S; exact q
 refine own_iln X0 q d37_0 rfl (own_is X0 q d37_1 (l' := #[.val (.ref a1), .val (.int p2), .val (.int p3), .val v'2, .val v'2]) rfl (own_il X0 q d37_3 rfl (own_k X0 q d37_5 (own_iln X0 q d37_6 rfl ?_))))
 refine own_cS X0 q hZ e0 hown hml (W 62 rfl) (W 63 rfl) (W 24 rfl) (W 64 rfl) (rm12 l Z a0 hw (1 : Int32) p3 (Int32.ofNat lo) h0 n0 Z0 hlo) d37_7 [v'1, (.int p3)] [v'2] own_pd14 1 (by decide) (fun v786 T786 L786 X786 hQ786 => ?_)
 obtain ⟨rfl, N786q, e786⟩ := hQ786
 have N786 := Fr.app N0 N786q
 refine own_nv ?_
 by_cases hc10_787 : (2 : Int32) < (Int32.ofNat lo)
 ·refine own_cy X786 q d37_10 ((tlt hc10_787).1) (own_k X786 q d37_34 ?_)
  refine own_rI X786 q hrt d37_35 hlk (by decide) ?_
  show QI (Int32.ofNat (own_lpn E lo 2)) h0 n0 _ T786.heap _
  rw [e786]
  exact ⟨congrArg (fun z => some (Value.int z)) (congrArg Int32.ofNat ((own_lpA ((own_ltN (i := 2) (by omega) (by omega)).mp hc10_787)) : own_lpn E lo 2 = 0)).symm, N786, rfl⟩
 ·refine own_cn X786 q d37_10 ((flt hc10_787).1) (own_aln X786 q d37_13 rfl rfl (own_il X786 q d37_14 rfl (own_k X786 q d37_16 (own_isubk 1 X786 q d37_17 (by decide) ?_))))
  refine own_cV X786 q hZ e786 hown hml (W 133 rfl) (W 134 rfl) (W 136 rfl) (W 135 rfl) (W 9 rfl) (W 137 rfl) rfl E1 (rm30_str l Z a0 hw a1 (1 : Int32) X 1 cs0 fo h0 n0 Z0 O0 ⟨SCS, hcs⟩ SIO hfo ⟨SAD, SHI, SLO⟩ S hl rfl (by omega)) d37_18 [v'1] [] own_pd15 0 (by decide) (fun v788 T788 L788 X788 hQ788 => ?_)
  obtain ⟨rfl, N788q, e788⟩ := hQ788
  have N788 := Fr.app N786 N788q
  refine own_nv (own_iln X788 q d37_21 rfl ?_)
  by_cases hc22_789 : (own_ch X 1) = p2
  ·refine own_cn X788 q d37_22 ((teq hc22_789).2) (own_il X788 q d37_25 rfl ?_)
   refine own_rI X788 q hrt d37_27 hlk (by decide) ?_
   show QI (Int32.ofNat (own_lpn E lo 2)) h0 n0 _ T788.heap _
   rw [e788]
   exact ⟨congrArg (fun z => some (Value.int z)) (congrArg Int32.ofNat ((own_lpT (fun q => hc10_787 ((own_ltN (i := 2) (by omega) (by omega)).mpr q)) ((hE 1 (by omega)).trans (decide_eq_true hc22_789))) : own_lpn E lo 2 = 2)).symm, N788, rfl⟩
  ·refine own_cy X788 q d37_22 ((feq hc22_789).2) (own_iik X788 q d37_28 rfl (show ((2 : Int32) + (-1 : Int32)) = (1 : Int32) by decide) (l' := #[.val (.ref a1), .val (.int p2), .val (.int p3), .val v'2, .val v'1]) rfl (own_gt X788 q d37_31 (own_il X788 q d37_3 rfl (own_k X788 q d37_5 (own_iln X788 q d37_6 rfl ?_)))))
   refine own_cS X788 q hZ e788 hown hml (W 62 rfl) (W 63 rfl) (W 24 rfl) (W 64 rfl) (rm12 l Z a0 hw (1 : Int32) p3 (Int32.ofNat lo) h0 n0 Z0 hlo) d37_7 [v'1, (.int p3)] [v'1] own_pd14 1 (by decide) (fun v790 T790 L790 X790 hQ790 => ?_)
   obtain ⟨rfl, N790q, e790⟩ := hQ790
   have N790 := Fr.app N788 N790q
   refine own_nv ?_
   by_cases hc10_791 : (1 : Int32) < (Int32.ofNat lo)
   ·refine own_cy X790 q d37_10 ((tlt hc10_791).1) (own_k X790 q d37_34 ?_)
    refine own_rI X790 q hrt d37_35 hlk (by decide) ?_
    show QI (Int32.ofNat (own_lpn E lo 2)) h0 n0 _ T790.heap _
    rw [e790]
    exact ⟨congrArg (fun z => some (Value.int z)) (congrArg Int32.ofNat (((own_lpF (fun q => hc10_787 ((own_ltN (i := 2) (by omega) (by omega)).mpr q)) ((hE 1 (by omega)).trans (decide_eq_false hc22_789))).trans (own_lpA ((own_ltN (i := 1) (by omega) (by omega)).mp hc10_791))) : own_lpn E lo 2 = 0)).symm, N790, rfl⟩
   ·refine own_cn X790 q d37_10 ((flt hc10_791).1) (own_aln X790 q d37_13 rfl rfl (own_il X790 q d37_14 rfl (own_k X790 q d37_16 (own_isubk 0 X790 q d37_17 (by decide) ?_))))
    refine own_cV X790 q hZ e790 hown hml (W 133 rfl) (W 134 rfl) (W 136 rfl) (W 135 rfl) (W 9 rfl) (W 137 rfl) rfl E1 (rm30_str l Z a0 hw a1 (0 : Int32) X 0 cs0 fo h0 n0 Z0 O0 ⟨SCS, hcs⟩ SIO hfo ⟨SAD, SHI, SLO⟩ S hl rfl (by omega)) d37_18 [v'0] [] own_pd15 0 (by decide) (fun v792 T792 L792 X792 hQ792 => ?_)
    obtain ⟨rfl, N792q, e792⟩ := hQ792
    have N792 := Fr.app N790 N792q
    refine own_nv (own_iln X792 q d37_21 rfl ?_)
    by_cases hc22_793 : (own_ch X 0) = p2
    ·refine own_cn X792 q d37_22 ((teq hc22_793).2) (own_il X792 q d37_25 rfl ?_)
     refine own_rI X792 q hrt d37_27 hlk (by decide) ?_
     show QI (Int32.ofNat (own_lpn E lo 2)) h0 n0 _ T792.heap _
     rw [e792]
     exact ⟨congrArg (fun z => some (Value.int z)) (congrArg Int32.ofNat (((own_lpF (fun q => hc10_787 ((own_ltN (i := 2) (by omega) (by omega)).mpr q)) ((hE 1 (by omega)).trans (decide_eq_false hc22_789))).trans (own_lpT (fun q => hc10_791 ((own_ltN (i := 1) (by omega) (by omega)).mpr q)) ((hE 0 (by omega)).trans (decide_eq_true hc22_793)))) : own_lpn E lo 2 = 1)).symm, N792, rfl⟩
    ·refine own_cy X792 q d37_22 ((feq hc22_793).2) (own_iik X792 q d37_28 rfl (show ((1 : Int32) + (-1 : Int32)) = (0 : Int32) by decide) (l' := #[.val (.ref a1), .val (.int p2), .val (.int p3), .val v'2, .val v'0]) rfl (own_gt X792 q d37_31 (own_il X792 q d37_3 rfl (own_k X792 q d37_5 (own_iln X792 q d37_6 rfl ?_)))))
     refine own_cS X792 q hZ e792 hown hml (W 62 rfl) (W 63 rfl) (W 24 rfl) (W 64 rfl) (rm12 l Z a0 hw (1 : Int32) p3 (Int32.ofNat lo) h0 n0 Z0 hlo) d37_7 [v'1, (.int p3)] [v'0] own_pd14 1 (by decide) (fun v794 T794 L794 X794 hQ794 => ?_)
     obtain ⟨rfl, N794q, e794⟩ := hQ794
     have N794 := Fr.app N792 N794q
     refine own_nv (own_cy X794 q d37_10 ((tlt ((show (0 : Int32) < Int32.ofNat lo from (own_ltN (i := 0) (by omega) (by omega)).mpr (by omega)) : (0 : Int32) < (Int32.ofNat lo))).1) (own_k X794 q d37_34 ?_))
     refine own_rI X794 q hrt d37_35 hlk (by decide) ?_
     show QI (Int32.ofNat (own_lpn E lo 2)) h0 n0 _ T794.heap _
     rw [e794]
     exact ⟨congrArg (fun z => some (Value.int z)) (congrArg Int32.ofNat (((own_lpF (fun q => hc10_787 ((own_ltN (i := 2) (by omega) (by omega)).mpr q)) ((hE 1 (by omega)).trans (decide_eq_false hc22_789))).trans ((own_lpF (fun q => hc10_791 ((own_ltN (i := 1) (by omega) (by omega)).mpr q)) ((hE 0 (by omega)).trans (decide_eq_false hc22_793))).trans rfl)) : own_lpn E lo 2 = 0)).symm, N794, rfl⟩
theorem rm37_all (l : Launch) (Z : State) (a0 : Array Value) (hw : own_hw a0 Z) (a1 : Addr) (p2 p3 p4 : Int32) (X : List Int32) (lo k z : Nat) (E : Nat → Bool) (cs0 : Int32) (fo : Value) (h0 : Heap) (n0 : Nat) (Z0 : n0 ≤ h0.size) (O0 : Old Z n0 h0) (SC_ : own_SC Z cs0) (SIO : Sta Z Z.heap "jdk/internal/util/Preconditions" "SIOOBE_FORMATTER" "Ljava/util/function/BiFunction;" fo) (hfo : fo.isRef = true) (SU_ : own_SU Z) (S : own_str Z h0 a1 X) (hl : X.length ≤ 3) (hE : ∀ p, p < X.length → E p = decide (own_ch X p = p2)) (hlo : own_max (1 : Int32) p3 = Int32.ofNat lo) (h1 : 1 ≤ lo) (hlo9 : lo ≤ 9) (hp : p4 = Int32.ofNat k) (hk : k + 1 ≤ X.length) (hz : own_lpn E lo k = z) :
  own_M l Z [] own_y26 b'37 5 (some .int) ({ frames := 5, cells := 0, slots := 0, locals := 66 } : Room) #[.ref a1, .int p2, .int p3, .int p4] h0 (QI (Int32.ofNat z) h0 n0) := by
 obtain ⟨SCS, hcs⟩ := SC_; obtain ⟨SAD, SHI, SLO⟩ := SU_
 subst hp
 subst hz
 rcases k with _ | _ | _ | k
 ·exact rm37_0 l Z a0 hw a1 p2 p3 X lo E cs0 fo h0 n0 Z0 O0 ⟨SCS, hcs⟩ SIO hfo ⟨SAD, SHI, SLO⟩ S hl hE hlo h1 hlo9 (by omega)
 ·exact rm37_1 l Z a0 hw a1 p2 p3 X lo E cs0 fo h0 n0 Z0 O0 ⟨SCS, hcs⟩ SIO hfo ⟨SAD, SHI, SLO⟩ S hl hE hlo h1 hlo9 (by omega)
 ·exact rm37_2 l Z a0 hw a1 p2 p3 X lo E cs0 fo h0 n0 Z0 O0 ⟨SCS, hcs⟩ SIO hfo ⟨SAD, SHI, SLO⟩ S hl hE hlo h1 hlo9 (by omega)
 ·omega
theorem d6_0 : own_D b'6 0 (.aload_n 0) 1 1 := by decide +kernel
theorem d6_1 : own_D b'6 1 (.invokevirtual 7) 3 4 := by decide +kernel
theorem d6_4 : own_D b'6 4 (.istore_n 3) 1 5 := by decide +kernel
theorem d6_5 : own_D b'6 5 (.aload_n 1) 1 6 := by decide +kernel
theorem d6_6 : own_D b'6 6 (.invokevirtual 7) 3 9 := by decide +kernel
theorem d6_9 : own_D b'6 9 (.istore 4) 2 11 := by decide +kernel
theorem d6_11 : own_D b'6 11 (.iload_n 2) 1 12 := by decide +kernel
theorem d6_12 : own_DK b'6 12 1 13 := by decide +kernel
theorem d6_13 : own_D b'6 13 .iadd 1 14 := by decide +kernel
theorem d6_14 : own_D b'6 14 (.istore 5) 2 16 := by decide +kernel
theorem d6_16 : own_D b'6 16 (.iload_n 3) 1 17 := by decide +kernel
theorem d6_17 : own_D b'6 17 (.iload 4) 2 19 := by decide +kernel
theorem d6_19 : own_D b'6 19 .isub 1 20 := by decide +kernel
theorem d6_20 : own_D b'6 20 (.invokestatic 13) 3 23 := by decide +kernel
theorem d6_23 : own_D b'6 23 (.iload_n 2) 1 24 := by decide +kernel
theorem d6_24 : own_DJ b'6 24 .le 30 27 := by decide +kernel
theorem d6_27 : own_D b'6 27 (.iload 5) 2 29 := by decide +kernel
theorem d6_29 : own_D b'6 29 .ireturn 1 30 := by decide +kernel
theorem d6_30 : own_D b'6 30 (.new 19) 3 33 := by decide +kernel
theorem d6_33 : own_D b'6 33 .dup 1 34 := by decide +kernel
theorem d6_34 : own_D b'6 34 (.iload_n 2) 1 35 := by decide +kernel
theorem d6_35 : own_DK b'6 35 2 36 := by decide +kernel
theorem d6_36 : own_D b'6 36 .iadd 1 37 := by decide +kernel
theorem d6_37 : own_D b'6 37 (.iload 4) 2 39 := by decide +kernel
theorem d6_39 : own_DK b'6 39 2 40 := by decide +kernel
theorem d6_40 : own_D b'6 40 .iadd 1 41 := by decide +kernel
theorem d6_41 : own_D b'6 41 (.iload_n 2) 1 42 := by decide +kernel
theorem d6_42 : own_D b'6 42 (.invokespecial 21) 3 45 := by decide +kernel
theorem d6_45 : own_D b'6 45 (.astore 6) 2 47 := by decide +kernel
theorem d6_47 : own_DK b'6 47 0 48 := by decide +kernel
theorem d6_48 : own_D b'6 48 (.istore 7) 2 50 := by decide +kernel
theorem d6_50 : own_D b'6 50 (.iload 7) 2 52 := by decide +kernel
theorem d6_52 : own_D b'6 52 (.iload_n 3) 1 53 := by decide +kernel
theorem d6_53 : own_DJ b'6 53 .gt 284 56 := by decide +kernel
theorem d6_56 : own_DK b'6 56 0 57 := by decide +kernel
theorem d6_57 : own_D b'6 57 (.istore 8) 2 59 := by decide +kernel
theorem d6_59 : own_DK b'6 59 0 60 := by decide +kernel
theorem d6_60 : own_D b'6 60 (.iload 7) 2 62 := by decide +kernel
theorem d6_62 : own_D b'6 62 (.iload_n 2) 1 63 := by decide +kernel
theorem d6_63 : own_D b'6 63 .isub 1 64 := by decide +kernel
theorem d6_64 : own_D b'6 64 (.invokestatic 24) 3 67 := by decide +kernel
theorem d6_67 : own_D b'6 67 (.istore 9) 2 69 := by decide +kernel
theorem d6_69 : own_D b'6 69 (.iload 9) 2 71 := by decide +kernel
theorem d6_71 : own_D b'6 71 (.iload 4) 2 73 := by decide +kernel
theorem d6_73 : own_D b'6 73 (.iload 7) 2 75 := by decide +kernel
theorem d6_75 : own_D b'6 75 (.iload_n 2) 1 76 := by decide +kernel
theorem d6_76 : own_D b'6 76 .iadd 1 77 := by decide +kernel
theorem d6_77 : own_D b'6 77 (.invokestatic 28) 3 80 := by decide +kernel
theorem d6_80 : own_DJ b'6 80 .gt 278 83 := by decide +kernel
theorem d6_83 : own_D b'6 83 (.iload 7) 2 85 := by decide +kernel
theorem d6_85 : own_DZ b'6 85 .eq 93 88 := by decide +kernel
theorem d6_88 : own_D b'6 88 (.iload 9) 2 90 := by decide +kernel
theorem d6_90 : own_DZ b'6 90 .ne 103 93 := by decide +kernel
theorem d6_93 : own_D b'6 93 (.iload 7) 2 95 := by decide +kernel
theorem d6_95 : own_D b'6 95 (.iload 9) 2 97 := by decide +kernel
theorem d6_97 : own_D b'6 97 .iadd 1 98 := by decide +kernel
theorem d6_98 : own_D b'6 98 (.istore 10) 2 100 := by decide +kernel
theorem d6_100 : own_DG b'6 100 252 := by decide +kernel
theorem d6_103 : own_D b'6 103 (.aload_n 0) 1 104 := by decide +kernel
theorem d6_104 : own_D b'6 104 (.iload 7) 2 106 := by decide +kernel
theorem d6_106 : own_DK b'6 106 1 107 := by decide +kernel
theorem d6_107 : own_D b'6 107 .isub 1 108 := by decide +kernel
theorem d6_108 : own_D b'6 108 (.invokevirtual 31) 3 111 := by decide +kernel
theorem d6_111 : own_D b'6 111 (.istore 11) 2 113 := by decide +kernel
theorem d6_113 : own_D b'6 113 (.aload_n 1) 1 114 := by decide +kernel
theorem d6_114 : own_D b'6 114 (.iload 9) 2 116 := by decide +kernel
theorem d6_116 : own_DK b'6 116 1 117 := by decide +kernel
theorem d6_117 : own_D b'6 117 .isub 1 118 := by decide +kernel
theorem d6_118 : own_D b'6 118 (.invokevirtual 31) 3 121 := by decide +kernel
theorem d6_121 : own_D b'6 121 (.istore 12) 2 123 := by decide +kernel
theorem d6_123 : own_DK b'6 123 1 124 := by decide +kernel
theorem d6_124 : own_D b'6 124 (.istore 13) 2 126 := by decide +kernel
theorem d6_126 : own_D b'6 126 (.aload_n 0) 1 127 := by decide +kernel
theorem d6_127 : own_D b'6 127 (.iload 12) 2 129 := by decide +kernel
theorem d6_129 : own_D b'6 129 (.iload 7) 2 131 := by decide +kernel
theorem d6_131 : own_D b'6 131 (.iload_n 2) 1 132 := by decide +kernel
theorem d6_132 : own_D b'6 132 .isub 1 133 := by decide +kernel
theorem d6_133 : own_D b'6 133 (.iload 7) 2 135 := by decide +kernel
theorem d6_135 : own_DK b'6 135 1 136 := by decide +kernel
theorem d6_136 : own_D b'6 136 .isub 1 137 := by decide +kernel
theorem d6_137 : own_D b'6 137 (.invokestatic 35) 3 140 := by decide +kernel
theorem d6_140 : own_D b'6 140 (.istore 14) 2 142 := by decide +kernel
theorem d6_142 : own_D b'6 142 (.iload 8) 2 144 := by decide +kernel
theorem d6_144 : own_D b'6 144 (.istore 15) 2 146 := by decide +kernel
theorem d6_146 : own_D b'6 146 (.iload 11) 2 148 := by decide +kernel
theorem d6_148 : own_D b'6 148 (.iload 12) 2 150 := by decide +kernel
theorem d6_150 : own_DJ b'6 150 .ne 160 153 := by decide +kernel
theorem d6_153 : own_DK b'6 153 0 154 := by decide +kernel
theorem d6_154 : own_D b'6 154 (.istore 13) 2 156 := by decide +kernel
theorem d6_156 : own_D b'6 156 (.iload 9) 2 158 := by decide +kernel
theorem d6_158 : own_D b'6 158 (.istore 8) 2 160 := by decide +kernel
theorem d6_160 : own_D b'6 160 (.aload 6) 2 162 := by decide +kernel
theorem d6_162 : own_D b'6 162 (.iload 7) 2 164 := by decide +kernel
theorem d6_164 : own_D b'6 164 (.iload 9) 2 166 := by decide +kernel
theorem d6_166 : own_D b'6 166 (.invokevirtual 41) 3 169 := by decide +kernel
theorem d6_169 : own_D b'6 169 (.iload 13) 2 171 := by decide +kernel
theorem d6_171 : own_D b'6 171 .iadd 1 172 := by decide +kernel
theorem d6_172 : own_D b'6 172 (.istore 10) 2 174 := by decide +kernel
theorem d6_174 : own_D b'6 174 (.iload 10) 2 176 := by decide +kernel
theorem d6_176 : own_D b'6 176 (.aload 6) 2 178 := by decide +kernel
theorem d6_178 : own_D b'6 178 (.iload 7) 2 180 := by decide +kernel
theorem d6_180 : own_DK b'6 180 1 181 := by decide +kernel
theorem d6_181 : own_D b'6 181 .iadd 1 182 := by decide +kernel
theorem d6_182 : own_D b'6 182 (.iload 9) 2 184 := by decide +kernel
theorem d6_184 : own_D b'6 184 (.invokevirtual 41) 3 187 := by decide +kernel
theorem d6_187 : own_DK b'6 187 1 188 := by decide +kernel
theorem d6_188 : own_D b'6 188 .iadd 1 189 := by decide +kernel
theorem d6_189 : own_D b'6 189 (.invokestatic 28) 3 192 := by decide +kernel
theorem d6_192 : own_D b'6 192 (.istore 10) 2 194 := by decide +kernel
theorem d6_194 : own_D b'6 194 (.iload 10) 2 196 := by decide +kernel
theorem d6_196 : own_D b'6 196 (.aload 6) 2 198 := by decide +kernel
theorem d6_198 : own_D b'6 198 (.iload 7) 2 200 := by decide +kernel
theorem d6_200 : own_D b'6 200 (.iload 9) 2 202 := by decide +kernel
theorem d6_202 : own_DK b'6 202 1 203 := by decide +kernel
theorem d6_203 : own_D b'6 203 .iadd 1 204 := by decide +kernel
theorem d6_204 : own_D b'6 204 (.invokevirtual 41) 3 207 := by decide +kernel
theorem d6_207 : own_DK b'6 207 1 208 := by decide +kernel
theorem d6_208 : own_D b'6 208 .iadd 1 209 := by decide +kernel
theorem d6_209 : own_D b'6 209 (.invokestatic 28) 3 212 := by decide +kernel
theorem d6_212 : own_D b'6 212 (.istore 10) 2 214 := by decide +kernel
theorem d6_214 : own_D b'6 214 (.aload 6) 2 216 := by decide +kernel
theorem d6_216 : own_D b'6 216 (.iload 14) 2 218 := by decide +kernel
theorem d6_218 : own_D b'6 218 (.iload 15) 2 220 := by decide +kernel
theorem d6_220 : own_D b'6 220 (.invokevirtual 41) 3 223 := by decide +kernel
theorem d6_223 : own_D b'6 223 (.iload 7) 2 225 := by decide +kernel
theorem d6_225 : own_D b'6 225 (.iload 14) 2 227 := by decide +kernel
theorem d6_227 : own_D b'6 227 .isub 1 228 := by decide +kernel
theorem d6_228 : own_DK b'6 228 1 229 := by decide +kernel
theorem d6_229 : own_D b'6 229 .isub 1 230 := by decide +kernel
theorem d6_230 : own_D b'6 230 .iadd 1 231 := by decide +kernel
theorem d6_231 : own_DK b'6 231 1 232 := by decide +kernel
theorem d6_232 : own_D b'6 232 .iadd 1 233 := by decide +kernel
theorem d6_233 : own_D b'6 233 (.iload 9) 2 235 := by decide +kernel
theorem d6_235 : own_D b'6 235 (.iload 15) 2 237 := by decide +kernel
theorem d6_237 : own_D b'6 237 .isub 1 238 := by decide +kernel
theorem d6_238 : own_DK b'6 238 1 239 := by decide +kernel
theorem d6_239 : own_D b'6 239 .isub 1 240 := by decide +kernel
theorem d6_240 : own_D b'6 240 .iadd 1 241 := by decide +kernel
theorem d6_241 : own_D b'6 241 (.istore 16) 2 243 := by decide +kernel
theorem d6_243 : own_D b'6 243 (.iload 10) 2 245 := by decide +kernel
theorem d6_245 : own_D b'6 245 (.iload 16) 2 247 := by decide +kernel
theorem d6_247 : own_D b'6 247 (.invokestatic 28) 3 250 := by decide +kernel
theorem d6_250 : own_D b'6 250 (.istore 10) 2 252 := by decide +kernel
theorem d6_252 : own_D b'6 252 (.aload 6) 2 254 := by decide +kernel
theorem d6_254 : own_D b'6 254 (.iload 7) 2 256 := by decide +kernel
theorem d6_256 : own_DK b'6 256 1 257 := by decide +kernel
theorem d6_257 : own_D b'6 257 .iadd 1 258 := by decide +kernel
theorem d6_258 : own_D b'6 258 (.iload 9) 2 260 := by decide +kernel
theorem d6_260 : own_DK b'6 260 1 261 := by decide +kernel
theorem d6_261 : own_D b'6 261 .iadd 1 262 := by decide +kernel
theorem d6_262 : own_D b'6 262 (.iload 10) 2 264 := by decide +kernel
theorem d6_264 : own_D b'6 264 (.iload 5) 2 266 := by decide +kernel
theorem d6_266 : own_D b'6 266 (.invokestatic 28) 3 269 := by decide +kernel
theorem d6_269 : own_D b'6 269 (.invokevirtual 44) 3 272 := by decide +kernel
theorem d6_272 : own_DI b'6 272 9 1 275 := by decide +kernel
theorem d6_275 : own_DG b'6 275 69 := by decide +kernel
theorem d6_278 : own_DI b'6 278 7 1 281 := by decide +kernel
theorem d6_281 : own_DG b'6 281 50 := by decide +kernel
theorem d6_284 : own_D b'6 284 (.aload 6) 2 286 := by decide +kernel
theorem d6_286 : own_D b'6 286 (.iload_n 3) 1 287 := by decide +kernel
theorem d6_287 : own_DK b'6 287 1 288 := by decide +kernel
theorem d6_288 : own_D b'6 288 .iadd 1 289 := by decide +kernel
theorem d6_289 : own_D b'6 289 (.iload 4) 2 291 := by decide +kernel
theorem d6_291 : own_DK b'6 291 1 292 := by decide +kernel
theorem d6_292 : own_D b'6 292 .iadd 1 293 := by decide +kernel
theorem d6_293 : own_D b'6 293 (.invokevirtual 41) 3 296 := by decide +kernel
theorem d6_296 : own_D b'6 296 .ireturn 1 297 := by decide +kernel
theorem pn_6 : plainFor (⟨"com/example/conformance_check/conformancecheck/catalogue/EditDistance", "within", "(Ljava/lang/String;Ljava/lang/String;I)I"⟩ : MethodName) = true := plainFor_of_name (by first | (simp [plainName, overriddenIn]; done) | decide +kernel)
theorem own_inl {p : Program} {l : Launch} {e : Env} {R : Room} {s : State} {m : MethodId} {args : Array Value} {below : List Frame} {meth : Method} {c : Code} {Z : State} {a0 : Array Value} {P : Outcome → State → Prop} 
  (hx : p.tables.exec = Jvm.exec) (hZ : Z.Warmed39 s.vm) (hw : ∀ d ∈ tables_1, d.before a0 Z = true) (hby : c.code = b'6) (hml : c.maxLocals = 17) (hown : s.vm.findClass "com/example/conformance_check/conformancecheck/catalogue/EditDistance" = some m.cls) (a1 a2 t r : Addr) (X Y : List Int32) (nA nB M : Nat) (E : Nat → Nat → Bool) (cs0 : Int32) (fo : Value) (hB : Heap) (n0 : Nat) (ZB : n0 ≤ hB.size) (OB : Old Z n0 hB) (SCS : Sta Z Z.heap "java/lang/String" "COMPACT_STRINGS" "Z" (.int cs0)) (hcs : ¬ cs0 = 0) (SIO : Sta Z Z.heap "jdk/internal/util/Preconditions" "SIOOBE_FORMATTER" "Ljava/util/function/BiFunction;" fo) (hfo : fo.isRef = true) (SAD : Sta Z Z.heap "java/lang/StringUTF16" "$assertionsDisabled" "Z" v'1) (SHI : Sta Z Z.heap "java/lang/StringUTF16" "HI_BYTE_SHIFT" "I" v'0) (SLO : Sta Z Z.heap "java/lang/StringUTF16" "LO_BYTE_SHIFT" "I" (.int (8 : Int32))) (S1 : own_str Z hB a1 X) (S2 : own_str Z hB a2 Y) (hn : X.length = nA) (hm : Y.length = nB) (hn3 : nA ≤ 3) (hm3 : nB ≤ 3) (hM : M ≤ 7) (hE : ∀ p q, p < nA → q < nB → E p q = decide (own_ch X p = own_ch Y q)) (hr : hB.size ≤ r) (htr : t < r) (i : Nat) (hi : i ≤ nA) :
  ∀ (kk j lm : Nat) (f : Nat → Nat → Nat) (s10 s11 s12 s13 s14 s15 s16 : Slot) (T : State) (locs : List Loc) (h0 : Heap), (j + kk = min nB (i + M) + 1) → (lm + 1 ≤ j ∨ lm = 0) → RoadKit.One s10 → RoadKit.One s11 → RoadKit.One s12 → RoadKit.One s13 → RoadKit.One s14 → RoadKit.One s15 → RoadKit.One s16 → Stand p l e ({ frames := 6, cells := 11, slots := 56, locals := 150 } : Room) s m args below meth c T locs 11 56 → T.heap = h0 → Fr n0 locs → Keep hB h0 [] → own_tab Z h0 t r M (nB + 2) f → (∀ a b, f a b ≤ 8) → (∀ (T' : State) (locs' : List Loc) (h' : Heap) (s8' s9' s10' s11' s12' s13' s14' s15' s16' : Slot), RoadKit.One s8' → RoadKit.One s9' → RoadKit.One s10' → RoadKit.One s11' → RoadKit.One s12' → RoadKit.One s13' → RoadKit.One s14' → RoadKit.One s15' → RoadKit.One s16' → Stand p l e ({ frames := 6, cells := 11, slots := 56, locals := 150 } : Room) s m args below meth c T' locs' 11 56 → T'.heap = h' → Fr n0 locs' → Keep hB h' [] → own_tab Z h' t r M (nB + 2) (own_inn M E i kk j lm f) → (∀ a b, (own_inn M E i kk j lm f) a b ≤ 8) → own_Fin p e below P (T'.setTop (mkF m 278 #[.val (.ref a1), .val (.ref a2), .val (.int (Int32.ofNat M)), .val (.int (Int32.ofNat nA)), .val (.int (Int32.ofNat nB)), .val (.int ((Int32.ofNat M) + (1 : Int32))), .val (.ref t), .val (.int (Int32.ofNat i)), s8', s9', s10', s11', s12', s13', s14', s15', s16'] []))) → own_Fin p e below P (T.setTop (mkF m 69 #[.val (.ref a1), .val (.ref a2), .val (.int (Int32.ofNat M)), .val (.int (Int32.ofNat nA)), .val (.int (Int32.ofNat nB)), .val (.int ((Int32.ofNat M) + (1 : Int32))), .val (.ref t), .val (.int (Int32.ofNat i)), .val (.int (Int32.ofNat lm)), .val (.int (Int32.ofNat j)), s10, s11, s12, s13, s14, s15, s16] [])) := by
 have q : own_q p c b'6 := ⟨hx, hby⟩
 have W := @own_w _ _ hw
 intro kk
 induction kk with
 | zero =>
  intro j lm f s10 s11 s12 s13 s14 s15 s16 T locs h0 hk hlm hs10 hs11 hs12 hs13 hs14 hs15 hs16 X0 e0 N0 K0 TBL hf K
  have Z0 : n0 ≤ h0.size := Nat.le_trans ZB K0.1
  have O0 : Old Z n0 h0 := OB.keep K0 all0
  have T1 := S1.kp K0
  have T2 := S2.kp K0
  obtain ⟨Et, -, -, -, -⟩ := id TBL
  have E1 : Exa Z h0 a1 "java/lang/String" := by obtain ⟨_, _, q, _⟩ := T1; exact q
  have E2 : Exa Z h0 a2 "java/lang/String" := by obtain ⟨_, _, q, _⟩ := T2; exact q
  refine own_il X0 q d6_69 rfl (own_il X0 q d6_71 rfl (own_il X0 q d6_73 rfl (own_iln X0 q d6_75 rfl (own_iadd X0 q d6_76 ?_))))
  refine own_cS X0 q hZ e0 hown hml (W 65 rfl) (W 23 rfl) (W 24 rfl) (W 25 rfl) (rm5 l Z a0 hw (Int32.ofNat nB) ((Int32.ofNat i) + (Int32.ofNat M)) (Int32.ofNat (min nB (i + M))) h0 n0 Z0 (by rw [own_addN]; exact own_minN (by omega) (by omega))) d6_77 [(.int (Int32.ofNat nB)), (.int ((Int32.ofNat i) + (Int32.ofNat M)))] [(.int (Int32.ofNat j))] own_pd14 1 (by decide) (fun v795 T795 L795 X795 hQ795 => ?_)
  obtain ⟨rfl, N795q, e795⟩ := hQ795
  have N795 := Fr.app N0 N795q
  refine own_nv (own_cy X795 q d6_80 ((tlt (((own_ltN (by omega) (by omega)).mpr (by omega)) : (Int32.ofNat (min nB (i + M))) < (Int32.ofNat j))).2.2.1) ?_)
  exact K _ _ _ _ _ _ _ _ _ _ _ _ (RoadKit.One.val rfl) (RoadKit.One.val rfl) hs10 hs11 hs12 hs13 hs14 hs15 hs16 X795 e795 N795  K0 TBL hf
 | succ kk ih =>
  intro j lm f s10 s11 s12 s13 s14 s15 s16 T locs h0 hk hlm hs10 hs11 hs12 hs13 hs14 hs15 hs16 X0 e0 N0 K0 TBL hf K
  have Z0 : n0 ≤ h0.size := Nat.le_trans ZB K0.1
  have O0 : Old Z n0 h0 := OB.keep K0 all0
  have T1 := S1.kp K0
  have T2 := S2.kp K0
  obtain ⟨Et, -, -, -, -⟩ := id TBL
  have E1 : Exa Z h0 a1 "java/lang/String" := by obtain ⟨_, _, q, _⟩ := T1; exact q
  have E2 : Exa Z h0 a2 "java/lang/String" := by obtain ⟨_, _, q, _⟩ := T2; exact q
  have hjm : j ≤ nB := by omega
  refine own_il X0 q d6_69 rfl (own_il X0 q d6_71 rfl (own_il X0 q d6_73 rfl (own_iln X0 q d6_75 rfl (own_iadd X0 q d6_76 ?_))))
  refine own_cS X0 q hZ e0 hown hml (W 65 rfl) (W 23 rfl) (W 24 rfl) (W 25 rfl) (rm5 l Z a0 hw (Int32.ofNat nB) ((Int32.ofNat i) + (Int32.ofNat M)) (Int32.ofNat (min nB (i + M))) h0 n0 Z0 (by rw [own_addN]; exact own_minN (by omega) (by omega))) d6_77 [(.int (Int32.ofNat nB)), (.int ((Int32.ofNat i) + (Int32.ofNat M)))] [(.int (Int32.ofNat j))] own_pd14 1 (by decide) (fun v796 T796 L796 X796 hQ796 => ?_)
  obtain ⟨rfl, N796q, e796⟩ := hQ796
  have N796 := Fr.app N0 N796q
  refine own_nv (own_cn X796 q d6_80 ((flt ((fun q => absurd ((own_ltN (by omega) (by omega)).mp q) (by omega)) : ¬ ((Int32.ofNat (min nB (i + M))) < (Int32.ofNat j)))).2.2.1) (own_il X796 q d6_83 rfl ?_))
  by_cases hc85_797 : (Int32.ofNat i) = (0 : Int32)
  ·refine own_zy X796 q d6_85 (((if0 _ _).trans (teq hc85_797).1)) ?_
   have hij : i = 0 ∨ j = 0 := Or.inl ((own_z0 rfl (by omega)).mp hc85_797)
   refine own_il X796 q d6_93 rfl (own_il X796 q d6_95 rfl (own_iadd X796 q d6_97 (own_is X796 q d6_98 (l' := #[.val (.ref a1), .val (.ref a2), .val (.int (Int32.ofNat M)), .val (.int (Int32.ofNat nA)), .val (.int (Int32.ofNat nB)), .val (.int ((Int32.ofNat M) + (1 : Int32))), .val (.ref t), .val (.int (Int32.ofNat i)), .val (.int (Int32.ofNat lm)), .val (.int (Int32.ofNat j)), .val (.int ((Int32.ofNat i) + (Int32.ofNat j))), s11, s12, s13, s14, s15, s16]) (by rcases hs10 with hs | ⟨ws_, hs, hs'⟩ <;> subst hs <;> first | rfl | (cases ws_ <;> first | rfl | (simp [Value.category] at hs'))) (own_gt X796 q d6_100 (own_al X796 q d6_252 rfl rfl (own_il X796 q d6_254 rfl (own_k X796 q d6_256 (own_iadd X796 q d6_257 (own_il X796 q d6_258 rfl (own_k X796 q d6_260 (own_iadd X796 q d6_261 ?_)))))))))))
   refine own_il X796 q d6_262 rfl (own_il X796 q d6_264 rfl ?_)
   refine own_cS X796 q hZ e796 hown hml (W 65 rfl) (W 23 rfl) (W 24 rfl) (W 25 rfl) (rm5 l Z a0 hw ((Int32.ofNat i) + (Int32.ofNat j)) ((Int32.ofNat M) + (1 : Int32)) (Int32.ofNat (min (i + j) (M + 1))) h0 n0 Z0 (by show own_min (Int32.ofNat i + Int32.ofNat j) (Int32.ofNat M + Int32.ofNat 1) = _; rw [own_addN, own_addN]; exact own_minN (by omega) (by omega))) d6_266 [(.int ((Int32.ofNat i) + (Int32.ofNat j))), (.int ((Int32.ofNat M) + (1 : Int32)))] [(.int ((Int32.ofNat j) + (1 : Int32))), (.int ((Int32.ofNat i) + (1 : Int32))), (.ref t)] own_pd14 3 (by decide) (fun v798 T798 L798 X798 hQ798 => ?_)
   obtain ⟨rfl, N798q, e798⟩ := hQ798
   have N798 := Fr.app N796 N798q
   refine own_nv ?_
   refine own_cVh X798 q hZ e798 hown hml (W 66 rfl) (W 67 rfl) (W 69 rfl) (W 68 rfl) (W 48 rfl) (W 70 rfl) rfl Et (rm13 l Z a0 hw t ((Int32.ofNat i) + (1 : Int32)) ((Int32.ofNat j) + (1 : Int32)) (Int32.ofNat (min (i + j) (M + 1))) r M (nB + 2) (i + 1) (j + 1) (min (i + j) (M + 1)) f h0 n0 Z0 TBL (own_addN i 1) (own_addN j 1) (by omega) hM (by omega) (by omega) rfl (Nat.le_trans ZB hr) htr) d6_269 [(.int ((Int32.ofNat i) + (1 : Int32))), (.int ((Int32.ofNat j) + (1 : Int32))), (.int (Int32.ofNat (min (i + j) (M + 1))))] [] own_pd16 0 (by decide) (fun v799 T799 L799 h799 e799' X799 hQ799 => ?_)
   obtain ⟨rfl, N799q, K799, TB799⟩ := hQ799
   have N799 := Fr.app N798 N799q
   have zs800 := Nat.le_trans Z0 K799.1
   have od800 := O0.keep K799 (allS (own_age (Nat.le_trans ZB hr)) all0)
   refine own_nn (own_ii X799 q d6_272 rfl (l' := #[.val (.ref a1), .val (.ref a2), .val (.int (Int32.ofNat M)), .val (.int (Int32.ofNat nA)), .val (.int (Int32.ofNat nB)), .val (.int ((Int32.ofNat M) + (1 : Int32))), .val (.ref t), .val (.int (Int32.ofNat i)), .val (.int (Int32.ofNat lm)), .val (.int ((Int32.ofNat j) + (1 : Int32))), .val (.int ((Int32.ofNat i) + (Int32.ofNat j))), s11, s12, s13, s14, s15, s16]) rfl (own_gt X799 q d6_275 ?_))
   have hcel := own_celB (M := M) (f := f) (E := E) (lm := lm) hij
   have hlm2 := own_lmB (E := E) (lm := lm) hij
   have hK : own_inn M E i (kk + 1) j lm f = own_inn M E i kk (j + 1) lm (own_set M f (i + 1) (j + 1) (min (i + j) (M + 1))) := by rw [own_inn, hcel, hlm2]
   rw [hK] at K
   rw [show (Int32.ofNat j) + (1 : Int32) = Int32.ofNat (j + 1) from own_addN j 1]
   exact ih (j + 1) lm _ _ _ _ _ _ _ _ _ _ _ (by omega) (by omega) (RoadKit.One.val rfl) hs11 hs12 hs13 hs14 hs15 hs16 X799 e799' N799 (K0.trans K799 (allS (Or.inr (own_age hr)) all0)) TB799 (own_setB hf (by omega)) K
  ·refine own_zn X796 q d6_85 (((if0 _ _).trans (feq hc85_797).1)) (own_il X796 q d6_88 rfl ?_)
   by_cases hc90_801 : (Int32.ofNat j) = (0 : Int32)
   ·refine own_zn X796 q d6_90 (((if0 _ _).trans (teq hc90_801).2)) ?_
    have hij : i = 0 ∨ j = 0 := Or.inr ((own_z0 rfl (by omega)).mp hc90_801)
    refine own_il X796 q d6_93 rfl (own_il X796 q d6_95 rfl (own_iadd X796 q d6_97 (own_is X796 q d6_98 (l' := #[.val (.ref a1), .val (.ref a2), .val (.int (Int32.ofNat M)), .val (.int (Int32.ofNat nA)), .val (.int (Int32.ofNat nB)), .val (.int ((Int32.ofNat M) + (1 : Int32))), .val (.ref t), .val (.int (Int32.ofNat i)), .val (.int (Int32.ofNat lm)), .val (.int (Int32.ofNat j)), .val (.int ((Int32.ofNat i) + (Int32.ofNat j))), s11, s12, s13, s14, s15, s16]) (by rcases hs10 with hs | ⟨ws_, hs, hs'⟩ <;> subst hs <;> first | rfl | (cases ws_ <;> first | rfl | (simp [Value.category] at hs'))) (own_gt X796 q d6_100 (own_al X796 q d6_252 rfl rfl (own_il X796 q d6_254 rfl (own_k X796 q d6_256 (own_iadd X796 q d6_257 (own_il X796 q d6_258 rfl (own_k X796 q d6_260 (own_iadd X796 q d6_261 ?_)))))))))))
    refine own_il X796 q d6_262 rfl (own_il X796 q d6_264 rfl ?_)
    refine own_cS X796 q hZ e796 hown hml (W 65 rfl) (W 23 rfl) (W 24 rfl) (W 25 rfl) (rm5 l Z a0 hw ((Int32.ofNat i) + (Int32.ofNat j)) ((Int32.ofNat M) + (1 : Int32)) (Int32.ofNat (min (i + j) (M + 1))) h0 n0 Z0 (by show own_min (Int32.ofNat i + Int32.ofNat j) (Int32.ofNat M + Int32.ofNat 1) = _; rw [own_addN, own_addN]; exact own_minN (by omega) (by omega))) d6_266 [(.int ((Int32.ofNat i) + (Int32.ofNat j))), (.int ((Int32.ofNat M) + (1 : Int32)))] [(.int ((Int32.ofNat j) + (1 : Int32))), (.int ((Int32.ofNat i) + (1 : Int32))), (.ref t)] own_pd14 3 (by decide) (fun v802 T802 L802 X802 hQ802 => ?_)
    obtain ⟨rfl, N802q, e802⟩ := hQ802
    have N802 := Fr.app N796 N802q
    refine own_nv ?_
    refine own_cVh X802 q hZ e802 hown hml (W 66 rfl) (W 67 rfl) (W 69 rfl) (W 68 rfl) (W 48 rfl) (W 70 rfl) rfl Et (rm13 l Z a0 hw t ((Int32.ofNat i) + (1 : Int32)) ((Int32.ofNat j) + (1 : Int32)) (Int32.ofNat (min (i + j) (M + 1))) r M (nB + 2) (i + 1) (j + 1) (min (i + j) (M + 1)) f h0 n0 Z0 TBL (own_addN i 1) (own_addN j 1) (by omega) hM (by omega) (by omega) rfl (Nat.le_trans ZB hr) htr) d6_269 [(.int ((Int32.ofNat i) + (1 : Int32))), (.int ((Int32.ofNat j) + (1 : Int32))), (.int (Int32.ofNat (min (i + j) (M + 1))))] [] own_pd16 0 (by decide) (fun v803 T803 L803 h803 e803' X803 hQ803 => ?_)
    obtain ⟨rfl, N803q, K803, TB803⟩ := hQ803
    have N803 := Fr.app N802 N803q
    have zs804 := Nat.le_trans Z0 K803.1
    have od804 := O0.keep K803 (allS (own_age (Nat.le_trans ZB hr)) all0)
    refine own_nn (own_ii X803 q d6_272 rfl (l' := #[.val (.ref a1), .val (.ref a2), .val (.int (Int32.ofNat M)), .val (.int (Int32.ofNat nA)), .val (.int (Int32.ofNat nB)), .val (.int ((Int32.ofNat M) + (1 : Int32))), .val (.ref t), .val (.int (Int32.ofNat i)), .val (.int (Int32.ofNat lm)), .val (.int ((Int32.ofNat j) + (1 : Int32))), .val (.int ((Int32.ofNat i) + (Int32.ofNat j))), s11, s12, s13, s14, s15, s16]) rfl (own_gt X803 q d6_275 ?_))
    have hcel := own_celB (M := M) (f := f) (E := E) (lm := lm) hij
    have hlm2 := own_lmB (E := E) (lm := lm) hij
    have hK : own_inn M E i (kk + 1) j lm f = own_inn M E i kk (j + 1) lm (own_set M f (i + 1) (j + 1) (min (i + j) (M + 1))) := by rw [own_inn, hcel, hlm2]
    rw [hK] at K
    rw [show (Int32.ofNat j) + (1 : Int32) = Int32.ofNat (j + 1) from own_addN j 1]
    exact ih (j + 1) lm _ _ _ _ _ _ _ _ _ _ _ (by omega) (by omega) (RoadKit.One.val rfl) hs11 hs12 hs13 hs14 hs15 hs16 X803 e803' N803 (K0.trans K803 (allS (Or.inr (own_age hr)) all0)) TB803 (own_setB hf (by omega)) K
   ·refine own_zy X796 q d6_90 (((if0 _ _).trans (feq hc90_801).2)) ?_
    have hi0 : i ≠ 0 := fun q => hc85_797 ((own_z0 rfl (by omega)).mpr q)
    have hj0 : j ≠ 0 := fun q => hc90_801 ((own_z0 rfl (by omega)).mpr q)
    refine own_aln X796 q d6_103 rfl rfl (own_il X796 q d6_104 rfl (own_k X796 q d6_106 (own_isub X796 q d6_107 ?_)))
    refine own_cV X796 q hZ e796 hown hml (W 133 rfl) (W 134 rfl) (W 136 rfl) (W 135 rfl) (W 9 rfl) (W 137 rfl) rfl E1 (rm30_str l Z a0 hw a1 ((Int32.ofNat i) - (1 : Int32)) X (i - 1) cs0 fo h0 n0 Z0 O0 ⟨SCS, hcs⟩ SIO hfo ⟨SAD, SHI, SLO⟩ T1 (by omega) (own_subN (b := 1) (by omega)) (by omega)) d6_108 [(.int ((Int32.ofNat i) - (1 : Int32)))] [] own_pd15 0 (by decide) (fun v805 T805 L805 X805 hQ805 => ?_)
    obtain ⟨rfl, N805q, e805⟩ := hQ805
    have N805 := Fr.app N796 N805q
    refine own_nv (own_is X805 q d6_111 (l' := #[.val (.ref a1), .val (.ref a2), .val (.int (Int32.ofNat M)), .val (.int (Int32.ofNat nA)), .val (.int (Int32.ofNat nB)), .val (.int ((Int32.ofNat M) + (1 : Int32))), .val (.ref t), .val (.int (Int32.ofNat i)), .val (.int (Int32.ofNat lm)), .val (.int (Int32.ofNat j)), s10, .val (.int (own_ch X (i - 1))), s12, s13, s14, s15, s16]) (by rcases hs11 with hs | ⟨ws_, hs, hs'⟩ <;> subst hs <;> first | rfl | (cases ws_ <;> first | rfl | (simp [Value.category] at hs'))) (own_aln X805 q d6_113 rfl rfl (own_il X805 q d6_114 rfl (own_k X805 q d6_116 (own_isub X805 q d6_117 ?_)))))
    refine own_cV X805 q hZ e805 hown hml (W 133 rfl) (W 134 rfl) (W 136 rfl) (W 135 rfl) (W 9 rfl) (W 137 rfl) rfl E2 (rm30_str l Z a0 hw a2 ((Int32.ofNat j) - (1 : Int32)) Y (j - 1) cs0 fo h0 n0 Z0 O0 ⟨SCS, hcs⟩ SIO hfo ⟨SAD, SHI, SLO⟩ T2 (by omega) (own_subN (b := 1) (by omega)) (by omega)) d6_118 [(.int ((Int32.ofNat j) - (1 : Int32)))] [] own_pd15 0 (by decide) (fun v806 T806 L806 X806 hQ806 => ?_)
    obtain ⟨rfl, N806q, e806⟩ := hQ806
    have N806 := Fr.app N805 N806q
    refine own_nv (own_is X806 q d6_121 (l' := #[.val (.ref a1), .val (.ref a2), .val (.int (Int32.ofNat M)), .val (.int (Int32.ofNat nA)), .val (.int (Int32.ofNat nB)), .val (.int ((Int32.ofNat M) + (1 : Int32))), .val (.ref t), .val (.int (Int32.ofNat i)), .val (.int (Int32.ofNat lm)), .val (.int (Int32.ofNat j)), s10, .val (.int (own_ch X (i - 1))), .val (.int (own_ch Y (j - 1))), s13, s14, s15, s16]) (by rcases hs12 with hs | ⟨ws_, hs, hs'⟩ <;> subst hs <;> first | rfl | (cases ws_ <;> first | rfl | (simp [Value.category] at hs'))) (own_k X806 q d6_123 (own_is X806 q d6_124 (l' := #[.val (.ref a1), .val (.ref a2), .val (.int (Int32.ofNat M)), .val (.int (Int32.ofNat nA)), .val (.int (Int32.ofNat nB)), .val (.int ((Int32.ofNat M) + (1 : Int32))), .val (.ref t), .val (.int (Int32.ofNat i)), .val (.int (Int32.ofNat lm)), .val (.int (Int32.ofNat j)), s10, .val (.int (own_ch X (i - 1))), .val (.int (own_ch Y (j - 1))), .val v'1, s14, s15, s16]) (by rcases hs13 with hs | ⟨ws_, hs, hs'⟩ <;> subst hs <;> first | rfl | (cases ws_ <;> first | rfl | (simp [Value.category] at hs'))) (own_aln X806 q d6_126 rfl rfl (own_il X806 q d6_127 rfl (own_il X806 q d6_129 rfl (own_iln X806 q d6_131 rfl (own_isub X806 q d6_132 (own_il X806 q d6_133 rfl (own_k X806 q d6_135 (own_isub X806 q d6_136 ?_)))))))))))
    obtain ⟨sr, hsr⟩ : ∃ z, own_lpn (fun p => E p (j - 1)) (max 1 (i - M)) (i - 1) = z := ⟨_, rfl⟩
    have hsr1 : sr ≤ i - 1 := by rw [← hsr]; exact own_lpnB _ _ _
    refine own_cS X806 q hZ e806 hown hml (W 160 rfl) (W 161 rfl) (W 28 rfl) (W 162 rfl) (rm37_all l Z a0 hw a1 (own_ch Y (j - 1)) ((Int32.ofNat i) - (Int32.ofNat M)) ((Int32.ofNat i) - (1 : Int32)) X (max 1 (i - M)) (i - 1) sr (fun p => E p (j - 1)) cs0 fo h0 n0 Z0 O0 ⟨SCS, hcs⟩ SIO hfo ⟨SAD, SHI, SLO⟩ T1 (by omega) (fun p hp => hE p (j - 1) (by omega) (by omega)) (own_maxN (k := 1) (by omega) (by omega) (by omega)) (by omega) (by omega) (own_subN (b := 1) (by omega)) (by omega) hsr) d6_137 [(.ref a1), (.int (own_ch Y (j - 1))), (.int ((Int32.ofNat i) - (Int32.ofNat M))), (.int ((Int32.ofNat i) - (1 : Int32)))] [] own_pd17 0 (by decide) (fun v807 T807 L807 X807 hQ807 => ?_)
    obtain ⟨rfl, N807q, e807⟩ := hQ807
    have N807 := Fr.app N806 N807q
    refine own_nv (own_is X807 q d6_140 (l' := #[.val (.ref a1), .val (.ref a2), .val (.int (Int32.ofNat M)), .val (.int (Int32.ofNat nA)), .val (.int (Int32.ofNat nB)), .val (.int ((Int32.ofNat M) + (1 : Int32))), .val (.ref t), .val (.int (Int32.ofNat i)), .val (.int (Int32.ofNat lm)), .val (.int (Int32.ofNat j)), s10, .val (.int (own_ch X (i - 1))), .val (.int (own_ch Y (j - 1))), .val v'1, .val (.int (Int32.ofNat sr)), s15, s16]) (by rcases hs14 with hs | ⟨ws_, hs, hs'⟩ <;> subst hs <;> first | rfl | (cases ws_ <;> first | rfl | (simp [Value.category] at hs'))) (own_il X807 q d6_142 rfl (own_is X807 q d6_144 (l' := #[.val (.ref a1), .val (.ref a2), .val (.int (Int32.ofNat M)), .val (.int (Int32.ofNat nA)), .val (.int (Int32.ofNat nB)), .val (.int ((Int32.ofNat M) + (1 : Int32))), .val (.ref t), .val (.int (Int32.ofNat i)), .val (.int (Int32.ofNat lm)), .val (.int (Int32.ofNat j)), s10, .val (.int (own_ch X (i - 1))), .val (.int (own_ch Y (j - 1))), .val v'1, .val (.int (Int32.ofNat sr)), .val (.int (Int32.ofNat lm)), s16]) (by rcases hs15 with hs | ⟨ws_, hs, hs'⟩ <;> subst hs <;> first | rfl | (cases ws_ <;> first | rfl | (simp [Value.category] at hs'))) (own_il X807 q d6_146 rfl (own_il X807 q d6_148 rfl ?_)))))
    by_cases hc150_808 : (own_ch X (i - 1)) = (own_ch Y (j - 1))
    ·refine own_cn X807 q d6_150 ((teq hc150_808).2) (own_k X807 q d6_153 (own_is X807 q d6_154 (l' := #[.val (.ref a1), .val (.ref a2), .val (.int (Int32.ofNat M)), .val (.int (Int32.ofNat nA)), .val (.int (Int32.ofNat nB)), .val (.int ((Int32.ofNat M) + (1 : Int32))), .val (.ref t), .val (.int (Int32.ofNat i)), .val (.int (Int32.ofNat lm)), .val (.int (Int32.ofNat j)), s10, .val (.int (own_ch X (i - 1))), .val (.int (own_ch Y (j - 1))), .val v'0, .val (.int (Int32.ofNat sr)), .val (.int (Int32.ofNat lm)), s16]) rfl (own_il X807 q d6_156 rfl (own_is X807 q d6_158 (l' := #[.val (.ref a1), .val (.ref a2), .val (.int (Int32.ofNat M)), .val (.int (Int32.ofNat nA)), .val (.int (Int32.ofNat nB)), .val (.int ((Int32.ofNat M) + (1 : Int32))), .val (.ref t), .val (.int (Int32.ofNat i)), .val (.int (Int32.ofNat j)), .val (.int (Int32.ofNat j)), s10, .val (.int (own_ch X (i - 1))), .val (.int (own_ch Y (j - 1))), .val v'0, .val (.int (Int32.ofNat sr)), .val (.int (Int32.ofNat lm)), s16]) rfl ?_))))
     have hb : E (i - 1) (j - 1) = true := (hE _ _ (by omega) (by omega)).trans (decide_eq_true hc150_808)
     refine own_al X807 q d6_160 rfl rfl (own_il X807 q d6_162 rfl (own_il X807 q d6_164 rfl ?_))
     obtain ⟨g1, hg1⟩ : ∃ z, own_get M f i j = z := ⟨_, rfl⟩
     have hg1b : g1 ≤ 8 := by rw [← hg1]; exact own_getB hM hf
     refine own_cV X807 q hZ e807 hown hml (W 71 rfl) (W 72 rfl) (W 74 rfl) (W 73 rfl) (W 48 rfl) (W 75 rfl) rfl Et (rm14 l Z a0 hw t (Int32.ofNat i) (Int32.ofNat j) r M (nB + 2) i j g1 f h0 n0 Z0 TBL rfl rfl (by omega) hM (by omega) (by omega) hg1) d6_166 [(.int (Int32.ofNat i)), (.int (Int32.ofNat j))] [] own_pd14 0 (by decide) (fun v809 T809 L809 X809 hQ809 => ?_)
     obtain ⟨rfl, N809q, e809⟩ := hQ809
     have N809 := Fr.app N807 N809q
     refine own_nv (own_il X809 q d6_169 rfl (own_iadd X809 q d6_171 (own_is X809 q d6_172 (l' := #[.val (.ref a1), .val (.ref a2), .val (.int (Int32.ofNat M)), .val (.int (Int32.ofNat nA)), .val (.int (Int32.ofNat nB)), .val (.int ((Int32.ofNat M) + (1 : Int32))), .val (.ref t), .val (.int (Int32.ofNat i)), .val (.int (Int32.ofNat j)), .val (.int (Int32.ofNat j)), .val (.int ((Int32.ofNat g1) + (0 : Int32))), .val (.int (own_ch X (i - 1))), .val (.int (own_ch Y (j - 1))), .val v'0, .val (.int (Int32.ofNat sr)), .val (.int (Int32.ofNat lm)), s16]) (by rcases hs10 with hs | ⟨ws_, hs, hs'⟩ <;> subst hs <;> first | rfl | (cases ws_ <;> first | rfl | (simp [Value.category] at hs'))) (own_il X809 q d6_174 rfl (own_al X809 q d6_176 rfl rfl (own_il X809 q d6_178 rfl (own_k X809 q d6_180 (own_iadd X809 q d6_181 (own_il X809 q d6_182 rfl ?_)))))))))
     obtain ⟨g2, hg2⟩ : ∃ z, own_get M f (i + 1) j = z := ⟨_, rfl⟩
     have hg2b : g2 ≤ 8 := by rw [← hg2]; exact own_getB hM hf
     refine own_cV X809 q hZ e809 hown hml (W 71 rfl) (W 72 rfl) (W 74 rfl) (W 73 rfl) (W 48 rfl) (W 75 rfl) rfl Et (rm14 l Z a0 hw t ((Int32.ofNat i) + (1 : Int32)) (Int32.ofNat j) r M (nB + 2) (i + 1) j g2 f h0 n0 Z0 TBL (own_addN i 1) rfl (by omega) hM (by omega) (by omega) hg2) d6_184 [(.int ((Int32.ofNat i) + (1 : Int32))), (.int (Int32.ofNat j))] [(.int ((Int32.ofNat g1) + (0 : Int32)))] own_pd14 1 (by decide) (fun v810 T810 L810 X810 hQ810 => ?_)
     obtain ⟨rfl, N810q, e810⟩ := hQ810
     have N810 := Fr.app N809 N810q
     refine own_nv (own_k X810 q d6_187 (own_iadd X810 q d6_188 ?_))
     refine own_cS X810 q hZ e810 hown hml (W 65 rfl) (W 23 rfl) (W 24 rfl) (W 25 rfl) (rm5 l Z a0 hw ((Int32.ofNat g1) + (0 : Int32)) ((Int32.ofNat g2) + (1 : Int32)) (Int32.ofNat (min (g1 + 0) (g2 + 1))) h0 n0 Z0 (by show own_min (Int32.ofNat g1 + Int32.ofNat 0) (Int32.ofNat g2 + Int32.ofNat 1) = _; rw [own_addN, own_addN]; exact own_minN (by omega) (by omega))) d6_189 [(.int ((Int32.ofNat g1) + (0 : Int32))), (.int ((Int32.ofNat g2) + (1 : Int32)))] [] own_pd14 0 (by decide) (fun v811 T811 L811 X811 hQ811 => ?_)
     obtain ⟨rfl, N811q, e811⟩ := hQ811
     have N811 := Fr.app N810 N811q
     refine own_nv (own_is X811 q d6_192 (l' := #[.val (.ref a1), .val (.ref a2), .val (.int (Int32.ofNat M)), .val (.int (Int32.ofNat nA)), .val (.int (Int32.ofNat nB)), .val (.int ((Int32.ofNat M) + (1 : Int32))), .val (.ref t), .val (.int (Int32.ofNat i)), .val (.int (Int32.ofNat j)), .val (.int (Int32.ofNat j)), .val (.int (Int32.ofNat (min (g1 + 0) (g2 + 1)))), .val (.int (own_ch X (i - 1))), .val (.int (own_ch Y (j - 1))), .val v'0, .val (.int (Int32.ofNat sr)), .val (.int (Int32.ofNat lm)), s16]) rfl (own_il X811 q d6_194 rfl (own_al X811 q d6_196 rfl rfl (own_il X811 q d6_198 rfl (own_il X811 q d6_200 rfl (own_k X811 q d6_202 (own_iadd X811 q d6_203 ?_)))))))
     obtain ⟨g3, hg3⟩ : ∃ z, own_get M f i (j + 1) = z := ⟨_, rfl⟩
     have hg3b : g3 ≤ 8 := by rw [← hg3]; exact own_getB hM hf
     refine own_cV X811 q hZ e811 hown hml (W 71 rfl) (W 72 rfl) (W 74 rfl) (W 73 rfl) (W 48 rfl) (W 75 rfl) rfl Et (rm14 l Z a0 hw t (Int32.ofNat i) ((Int32.ofNat j) + (1 : Int32)) r M (nB + 2) i (j + 1) g3 f h0 n0 Z0 TBL rfl (own_addN j 1) (by omega) hM (by omega) (by omega) hg3) d6_204 [(.int (Int32.ofNat i)), (.int ((Int32.ofNat j) + (1 : Int32)))] [(.int (Int32.ofNat (min (g1 + 0) (g2 + 1))))] own_pd14 1 (by decide) (fun v812 T812 L812 X812 hQ812 => ?_)
     obtain ⟨rfl, N812q, e812⟩ := hQ812
     have N812 := Fr.app N811 N812q
     refine own_nv (own_k X812 q d6_207 (own_iadd X812 q d6_208 ?_))
     refine own_cS X812 q hZ e812 hown hml (W 65 rfl) (W 23 rfl) (W 24 rfl) (W 25 rfl) (rm5 l Z a0 hw (Int32.ofNat (min (g1 + 0) (g2 + 1))) ((Int32.ofNat g3) + (1 : Int32)) (Int32.ofNat (min (min (g1 + 0) (g2 + 1)) (g3 + 1))) h0 n0 Z0 (by show own_min _ (Int32.ofNat g3 + Int32.ofNat 1) = _; rw [own_addN]; exact own_minN (by omega) (by omega))) d6_209 [(.int (Int32.ofNat (min (g1 + 0) (g2 + 1)))), (.int ((Int32.ofNat g3) + (1 : Int32)))] [] own_pd14 0 (by decide) (fun v813 T813 L813 X813 hQ813 => ?_)
     obtain ⟨rfl, N813q, e813⟩ := hQ813
     have N813 := Fr.app N812 N813q
     refine own_nv (own_is X813 q d6_212 (l' := #[.val (.ref a1), .val (.ref a2), .val (.int (Int32.ofNat M)), .val (.int (Int32.ofNat nA)), .val (.int (Int32.ofNat nB)), .val (.int ((Int32.ofNat M) + (1 : Int32))), .val (.ref t), .val (.int (Int32.ofNat i)), .val (.int (Int32.ofNat j)), .val (.int (Int32.ofNat j)), .val (.int (Int32.ofNat (min (min (g1 + 0) (g2 + 1)) (g3 + 1)))), .val (.int (own_ch X (i - 1))), .val (.int (own_ch Y (j - 1))), .val v'0, .val (.int (Int32.ofNat sr)), .val (.int (Int32.ofNat lm)), s16]) rfl (own_al X813 q d6_214 rfl rfl (own_il X813 q d6_216 rfl (own_il X813 q d6_218 rfl ?_))))
     obtain ⟨g4, hg4⟩ : ∃ z, own_get M f sr lm = z := ⟨_, rfl⟩
     have hg4b : g4 ≤ 8 := by rw [← hg4]; exact own_getB hM hf
     refine own_cV X813 q hZ e813 hown hml (W 71 rfl) (W 72 rfl) (W 74 rfl) (W 73 rfl) (W 48 rfl) (W 75 rfl) rfl Et (rm14 l Z a0 hw t (Int32.ofNat sr) (Int32.ofNat lm) r M (nB + 2) sr lm g4 f h0 n0 Z0 TBL rfl rfl (by omega) hM (by omega) (by omega) hg4) d6_220 [(.int (Int32.ofNat sr)), (.int (Int32.ofNat lm))] [] own_pd14 0 (by decide) (fun v814 T814 L814 X814 hQ814 => ?_)
     obtain ⟨rfl, N814q, e814⟩ := hQ814
     have N814 := Fr.app N813 N814q
     refine own_nv (own_il X814 q d6_223 rfl (own_il X814 q d6_225 rfl (own_isub X814 q d6_227 (own_k X814 q d6_228 (own_isub X814 q d6_229 (own_iadd X814 q d6_230 (own_k X814 q d6_231 (own_iadd X814 q d6_232 (own_il X814 q d6_233 rfl (own_il X814 q d6_235 rfl (own_isub X814 q d6_237 ?_)))))))))))
     refine own_k X814 q d6_238 (own_isub X814 q d6_239 (own_iadd X814 q d6_240 (own_is X814 q d6_241 (l' := #[.val (.ref a1), .val (.ref a2), .val (.int (Int32.ofNat M)), .val (.int (Int32.ofNat nA)), .val (.int (Int32.ofNat nB)), .val (.int ((Int32.ofNat M) + (1 : Int32))), .val (.ref t), .val (.int (Int32.ofNat i)), .val (.int (Int32.ofNat j)), .val (.int (Int32.ofNat j)), .val (.int (Int32.ofNat (min (min (g1 + 0) (g2 + 1)) (g3 + 1)))), .val (.int (own_ch X (i - 1))), .val (.int (own_ch Y (j - 1))), .val v'0, .val (.int (Int32.ofNat sr)), .val (.int (Int32.ofNat lm)), .val (.int ((((Int32.ofNat g4) + (((Int32.ofNat i) - (Int32.ofNat sr)) - (1 : Int32))) + (1 : Int32)) + (((Int32.ofNat j) - (Int32.ofNat lm)) - (1 : Int32))))]) (by rcases hs16 with hs | ⟨ws_, hs, hs'⟩ <;> subst hs <;> first | rfl | (cases ws_ <;> first | rfl | (simp [Value.category] at hs'))) (own_il X814 q d6_243 rfl (own_il X814 q d6_245 rfl ?_)))))
     refine own_cS X814 q hZ e814 hown hml (W 65 rfl) (W 23 rfl) (W 24 rfl) (W 25 rfl) (rm5 l Z a0 hw (Int32.ofNat (min (min (g1 + 0) (g2 + 1)) (g3 + 1))) ((((Int32.ofNat g4) + (((Int32.ofNat i) - (Int32.ofNat sr)) - (1 : Int32))) + (1 : Int32)) + (((Int32.ofNat j) - (Int32.ofNat lm)) - (1 : Int32))) (Int32.ofNat (min (min (min (g1 + 0) (g2 + 1)) (g3 + 1)) (g4 + (i - sr - 1) + 1 + (j - lm - 1)))) h0 n0 Z0 (by rw [own_sw (by omega) (by omega)]; exact own_minN (by omega) (by omega))) d6_247 [(.int (Int32.ofNat (min (min (g1 + 0) (g2 + 1)) (g3 + 1)))), (.int ((((Int32.ofNat g4) + (((Int32.ofNat i) - (Int32.ofNat sr)) - (1 : Int32))) + (1 : Int32)) + (((Int32.ofNat j) - (Int32.ofNat lm)) - (1 : Int32))))] [] own_pd14 0 (by decide) (fun v815 T815 L815 X815 hQ815 => ?_)
     obtain ⟨rfl, N815q, e815⟩ := hQ815
     have N815 := Fr.app N814 N815q
     refine own_nv (own_is X815 q d6_250 (l' := #[.val (.ref a1), .val (.ref a2), .val (.int (Int32.ofNat M)), .val (.int (Int32.ofNat nA)), .val (.int (Int32.ofNat nB)), .val (.int ((Int32.ofNat M) + (1 : Int32))), .val (.ref t), .val (.int (Int32.ofNat i)), .val (.int (Int32.ofNat j)), .val (.int (Int32.ofNat j)), .val (.int (Int32.ofNat (min (min (min (g1 + 0) (g2 + 1)) (g3 + 1)) (g4 + (i - sr - 1) + 1 + (j - lm - 1))))), .val (.int (own_ch X (i - 1))), .val (.int (own_ch Y (j - 1))), .val v'0, .val (.int (Int32.ofNat sr)), .val (.int (Int32.ofNat lm)), .val (.int ((((Int32.ofNat g4) + (((Int32.ofNat i) - (Int32.ofNat sr)) - (1 : Int32))) + (1 : Int32)) + (((Int32.ofNat j) - (Int32.ofNat lm)) - (1 : Int32))))]) rfl (own_al X815 q d6_252 rfl rfl (own_il X815 q d6_254 rfl (own_k X815 q d6_256 (own_iadd X815 q d6_257 (own_il X815 q d6_258 rfl (own_k X815 q d6_260 (own_iadd X815 q d6_261 (own_il X815 q d6_262 rfl (own_il X815 q d6_264 rfl ?_))))))))))
     refine own_cS X815 q hZ e815 hown hml (W 65 rfl) (W 23 rfl) (W 24 rfl) (W 25 rfl) (rm5 l Z a0 hw (Int32.ofNat (min (min (min (g1 + 0) (g2 + 1)) (g3 + 1)) (g4 + (i - sr - 1) + 1 + (j - lm - 1)))) ((Int32.ofNat M) + (1 : Int32)) (Int32.ofNat (min (min (min (min (g1 + 0) (g2 + 1)) (g3 + 1)) (g4 + (i - sr - 1) + 1 + (j - lm - 1))) (M + 1))) h0 n0 Z0 (by show own_min _ (Int32.ofNat M + Int32.ofNat 1) = _; rw [own_addN]; exact own_minN (by omega) (by omega))) d6_266 [(.int (Int32.ofNat (min (min (min (g1 + 0) (g2 + 1)) (g3 + 1)) (g4 + (i - sr - 1) + 1 + (j - lm - 1))))), (.int ((Int32.ofNat M) + (1 : Int32)))] [(.int ((Int32.ofNat j) + (1 : Int32))), (.int ((Int32.ofNat i) + (1 : Int32))), (.ref t)] own_pd14 3 (by decide) (fun v816 T816 L816 X816 hQ816 => ?_)
     obtain ⟨rfl, N816q, e816⟩ := hQ816
     have N816 := Fr.app N815 N816q
     refine own_nv ?_
     refine own_cVh X816 q hZ e816 hown hml (W 66 rfl) (W 67 rfl) (W 69 rfl) (W 68 rfl) (W 48 rfl) (W 70 rfl) rfl Et (rm13 l Z a0 hw t ((Int32.ofNat i) + (1 : Int32)) ((Int32.ofNat j) + (1 : Int32)) (Int32.ofNat (min (min (min (min (g1 + 0) (g2 + 1)) (g3 + 1)) (g4 + (i - sr - 1) + 1 + (j - lm - 1))) (M + 1))) r M (nB + 2) (i + 1) (j + 1) (min (min (min (min (g1 + 0) (g2 + 1)) (g3 + 1)) (g4 + (i - sr - 1) + 1 + (j - lm - 1))) (M + 1)) f h0 n0 Z0 TBL (own_addN i 1) (own_addN j 1) (by omega) hM (by omega) (by omega) rfl (Nat.le_trans ZB hr) htr) d6_269 [(.int ((Int32.ofNat i) + (1 : Int32))), (.int ((Int32.ofNat j) + (1 : Int32))), (.int (Int32.ofNat (min (min (min (min (g1 + 0) (g2 + 1)) (g3 + 1)) (g4 + (i - sr - 1) + 1 + (j - lm - 1))) (M + 1))))] [] own_pd16 0 (by decide) (fun v817 T817 L817 h817 e817' X817 hQ817 => ?_)
     obtain ⟨rfl, N817q, K817, TB817⟩ := hQ817
     have N817 := Fr.app N816 N817q
     have zs818 := Nat.le_trans Z0 K817.1
     have od818 := O0.keep K817 (allS (own_age (Nat.le_trans ZB hr)) all0)
     refine own_nn (own_ii X817 q d6_272 rfl (l' := #[.val (.ref a1), .val (.ref a2), .val (.int (Int32.ofNat M)), .val (.int (Int32.ofNat nA)), .val (.int (Int32.ofNat nB)), .val (.int ((Int32.ofNat M) + (1 : Int32))), .val (.ref t), .val (.int (Int32.ofNat i)), .val (.int (Int32.ofNat j)), .val (.int ((Int32.ofNat j) + (1 : Int32))), .val (.int (Int32.ofNat (min (min (min (g1 + 0) (g2 + 1)) (g3 + 1)) (g4 + (i - sr - 1) + 1 + (j - lm - 1))))), .val (.int (own_ch X (i - 1))), .val (.int (own_ch Y (j - 1))), .val v'0, .val (.int (Int32.ofNat sr)), .val (.int (Int32.ofNat lm)), .val (.int ((((Int32.ofNat g4) + (((Int32.ofNat i) - (Int32.ofNat sr)) - (1 : Int32))) + (1 : Int32)) + (((Int32.ofNat j) - (Int32.ofNat lm)) - (1 : Int32))))]) rfl (own_gt X817 q d6_275 ?_))
     have hcel : own_cel M f E i j lm = (min (min (min (g1 + 0) (g2 + 1)) (g3 + 1)) (g4 + (i - sr - 1) + 1 + (j - lm - 1))) := own_celI hi0 hj0 hb hsr hg1 hg2 hg3 hg4
     have hlm2 : own_lm E i j lm = j := own_lmI hi0 hj0 hb
     have hK : own_inn M E i (kk + 1) j lm f = own_inn M E i kk (j + 1) j (own_set M f (i + 1) (j + 1) (min (min (min (min (g1 + 0) (g2 + 1)) (g3 + 1)) (g4 + (i - sr - 1) + 1 + (j - lm - 1))) (M + 1))) := by rw [own_inn, hcel, hlm2]
     rw [hK] at K
     rw [show (Int32.ofNat j) + (1 : Int32) = Int32.ofNat (j + 1) from own_addN j 1]
     exact ih (j + 1) j _ _ _ _ _ _ _ _ _ _ _ (by omega) (by omega) (RoadKit.One.val rfl) (RoadKit.One.val rfl) (RoadKit.One.val rfl) (RoadKit.One.val rfl) (RoadKit.One.val rfl) (RoadKit.One.val rfl) (RoadKit.One.val rfl) X817 e817' N817 (K0.trans K817 (allS (Or.inr (own_age hr)) all0)) TB817 (own_setB hf (by omega)) K
    ·refine own_cy X807 q d6_150 ((feq hc150_808).2) ?_
     have hb : E (i - 1) (j - 1) = false := (hE _ _ (by omega) (by omega)).trans (decide_eq_false hc150_808)
     refine own_al X807 q d6_160 rfl rfl (own_il X807 q d6_162 rfl (own_il X807 q d6_164 rfl ?_))
     obtain ⟨g1, hg1⟩ : ∃ z, own_get M f i j = z := ⟨_, rfl⟩
     have hg1b : g1 ≤ 8 := by rw [← hg1]; exact own_getB hM hf
     refine own_cV X807 q hZ e807 hown hml (W 71 rfl) (W 72 rfl) (W 74 rfl) (W 73 rfl) (W 48 rfl) (W 75 rfl) rfl Et (rm14 l Z a0 hw t (Int32.ofNat i) (Int32.ofNat j) r M (nB + 2) i j g1 f h0 n0 Z0 TBL rfl rfl (by omega) hM (by omega) (by omega) hg1) d6_166 [(.int (Int32.ofNat i)), (.int (Int32.ofNat j))] [] own_pd14 0 (by decide) (fun v819 T819 L819 X819 hQ819 => ?_)
     obtain ⟨rfl, N819q, e819⟩ := hQ819
     have N819 := Fr.app N807 N819q
     refine own_nv (own_il X819 q d6_169 rfl (own_iadd X819 q d6_171 (own_is X819 q d6_172 (l' := #[.val (.ref a1), .val (.ref a2), .val (.int (Int32.ofNat M)), .val (.int (Int32.ofNat nA)), .val (.int (Int32.ofNat nB)), .val (.int ((Int32.ofNat M) + (1 : Int32))), .val (.ref t), .val (.int (Int32.ofNat i)), .val (.int (Int32.ofNat lm)), .val (.int (Int32.ofNat j)), .val (.int ((Int32.ofNat g1) + (1 : Int32))), .val (.int (own_ch X (i - 1))), .val (.int (own_ch Y (j - 1))), .val v'1, .val (.int (Int32.ofNat sr)), .val (.int (Int32.ofNat lm)), s16]) (by rcases hs10 with hs | ⟨ws_, hs, hs'⟩ <;> subst hs <;> first | rfl | (cases ws_ <;> first | rfl | (simp [Value.category] at hs'))) (own_il X819 q d6_174 rfl (own_al X819 q d6_176 rfl rfl (own_il X819 q d6_178 rfl (own_k X819 q d6_180 (own_iadd X819 q d6_181 (own_il X819 q d6_182 rfl ?_)))))))))
     obtain ⟨g2, hg2⟩ : ∃ z, own_get M f (i + 1) j = z := ⟨_, rfl⟩
     have hg2b : g2 ≤ 8 := by rw [← hg2]; exact own_getB hM hf
     refine own_cV X819 q hZ e819 hown hml (W 71 rfl) (W 72 rfl) (W 74 rfl) (W 73 rfl) (W 48 rfl) (W 75 rfl) rfl Et (rm14 l Z a0 hw t ((Int32.ofNat i) + (1 : Int32)) (Int32.ofNat j) r M (nB + 2) (i + 1) j g2 f h0 n0 Z0 TBL (own_addN i 1) rfl (by omega) hM (by omega) (by omega) hg2) d6_184 [(.int ((Int32.ofNat i) + (1 : Int32))), (.int (Int32.ofNat j))] [(.int ((Int32.ofNat g1) + (1 : Int32)))] own_pd14 1 (by decide) (fun v820 T820 L820 X820 hQ820 => ?_)
     obtain ⟨rfl, N820q, e820⟩ := hQ820
     have N820 := Fr.app N819 N820q
     refine own_nv (own_k X820 q d6_187 (own_iadd X820 q d6_188 ?_))
     refine own_cS X820 q hZ e820 hown hml (W 65 rfl) (W 23 rfl) (W 24 rfl) (W 25 rfl) (rm5 l Z a0 hw ((Int32.ofNat g1) + (1 : Int32)) ((Int32.ofNat g2) + (1 : Int32)) (Int32.ofNat (min (g1 + 1) (g2 + 1))) h0 n0 Z0 (by show own_min (Int32.ofNat g1 + Int32.ofNat 1) (Int32.ofNat g2 + Int32.ofNat 1) = _; rw [own_addN, own_addN]; exact own_minN (by omega) (by omega))) d6_189 [(.int ((Int32.ofNat g1) + (1 : Int32))), (.int ((Int32.ofNat g2) + (1 : Int32)))] [] own_pd14 0 (by decide) (fun v821 T821 L821 X821 hQ821 => ?_)
     obtain ⟨rfl, N821q, e821⟩ := hQ821
     have N821 := Fr.app N820 N821q
     refine own_nv (own_is X821 q d6_192 (l' := #[.val (.ref a1), .val (.ref a2), .val (.int (Int32.ofNat M)), .val (.int (Int32.ofNat nA)), .val (.int (Int32.ofNat nB)), .val (.int ((Int32.ofNat M) + (1 : Int32))), .val (.ref t), .val (.int (Int32.ofNat i)), .val (.int (Int32.ofNat lm)), .val (.int (Int32.ofNat j)), .val (.int (Int32.ofNat (min (g1 + 1) (g2 + 1)))), .val (.int (own_ch X (i - 1))), .val (.int (own_ch Y (j - 1))), .val v'1, .val (.int (Int32.ofNat sr)), .val (.int (Int32.ofNat lm)), s16]) rfl (own_il X821 q d6_194 rfl (own_al X821 q d6_196 rfl rfl (own_il X821 q d6_198 rfl (own_il X821 q d6_200 rfl (own_k X821 q d6_202 (own_iadd X821 q d6_203 ?_)))))))
     obtain ⟨g3, hg3⟩ : ∃ z, own_get M f i (j + 1) = z := ⟨_, rfl⟩
     have hg3b : g3 ≤ 8 := by rw [← hg3]; exact own_getB hM hf
     refine own_cV X821 q hZ e821 hown hml (W 71 rfl) (W 72 rfl) (W 74 rfl) (W 73 rfl) (W 48 rfl) (W 75 rfl) rfl Et (rm14 l Z a0 hw t (Int32.ofNat i) ((Int32.ofNat j) + (1 : Int32)) r M (nB + 2) i (j + 1) g3 f h0 n0 Z0 TBL rfl (own_addN j 1) (by omega) hM (by omega) (by omega) hg3) d6_204 [(.int (Int32.ofNat i)), (.int ((Int32.ofNat j) + (1 : Int32)))] [(.int (Int32.ofNat (min (g1 + 1) (g2 + 1))))] own_pd14 1 (by decide) (fun v822 T822 L822 X822 hQ822 => ?_)
     obtain ⟨rfl, N822q, e822⟩ := hQ822
     have N822 := Fr.app N821 N822q
     refine own_nv (own_k X822 q d6_207 (own_iadd X822 q d6_208 ?_))
     refine own_cS X822 q hZ e822 hown hml (W 65 rfl) (W 23 rfl) (W 24 rfl) (W 25 rfl) (rm5 l Z a0 hw (Int32.ofNat (min (g1 + 1) (g2 + 1))) ((Int32.ofNat g3) + (1 : Int32)) (Int32.ofNat (min (min (g1 + 1) (g2 + 1)) (g3 + 1))) h0 n0 Z0 (by show own_min _ (Int32.ofNat g3 + Int32.ofNat 1) = _; rw [own_addN]; exact own_minN (by omega) (by omega))) d6_209 [(.int (Int32.ofNat (min (g1 + 1) (g2 + 1)))), (.int ((Int32.ofNat g3) + (1 : Int32)))] [] own_pd14 0 (by decide) (fun v823 T823 L823 X823 hQ823 => ?_)
     obtain ⟨rfl, N823q, e823⟩ := hQ823
     have N823 := Fr.app N822 N823q
     refine own_nv (own_is X823 q d6_212 (l' := #[.val (.ref a1), .val (.ref a2), .val (.int (Int32.ofNat M)), .val (.int (Int32.ofNat nA)), .val (.int (Int32.ofNat nB)), .val (.int ((Int32.ofNat M) + (1 : Int32))), .val (.ref t), .val (.int (Int32.ofNat i)), .val (.int (Int32.ofNat lm)), .val (.int (Int32.ofNat j)), .val (.int (Int32.ofNat (min (min (g1 + 1) (g2 + 1)) (g3 + 1)))), .val (.int (own_ch X (i - 1))), .val (.int (own_ch Y (j - 1))), .val v'1, .val (.int (Int32.ofNat sr)), .val (.int (Int32.ofNat lm)), s16]) rfl (own_al X823 q d6_214 rfl rfl (own_il X823 q d6_216 rfl (own_il X823 q d6_218 rfl ?_))))
     obtain ⟨g4, hg4⟩ : ∃ z, own_get M f sr lm = z := ⟨_, rfl⟩
     have hg4b : g4 ≤ 8 := by rw [← hg4]; exact own_getB hM hf
     refine own_cV X823 q hZ e823 hown hml (W 71 rfl) (W 72 rfl) (W 74 rfl) (W 73 rfl) (W 48 rfl) (W 75 rfl) rfl Et (rm14 l Z a0 hw t (Int32.ofNat sr) (Int32.ofNat lm) r M (nB + 2) sr lm g4 f h0 n0 Z0 TBL rfl rfl (by omega) hM (by omega) (by omega) hg4) d6_220 [(.int (Int32.ofNat sr)), (.int (Int32.ofNat lm))] [] own_pd14 0 (by decide) (fun v824 T824 L824 X824 hQ824 => ?_)
     obtain ⟨rfl, N824q, e824⟩ := hQ824
     have N824 := Fr.app N823 N824q
     refine own_nv (own_il X824 q d6_223 rfl (own_il X824 q d6_225 rfl (own_isub X824 q d6_227 (own_k X824 q d6_228 (own_isub X824 q d6_229 (own_iadd X824 q d6_230 (own_k X824 q d6_231 (own_iadd X824 q d6_232 (own_il X824 q d6_233 rfl (own_il X824 q d6_235 rfl (own_isub X824 q d6_237 ?_)))))))))))
     refine own_k X824 q d6_238 (own_isub X824 q d6_239 (own_iadd X824 q d6_240 (own_is X824 q d6_241 (l' := #[.val (.ref a1), .val (.ref a2), .val (.int (Int32.ofNat M)), .val (.int (Int32.ofNat nA)), .val (.int (Int32.ofNat nB)), .val (.int ((Int32.ofNat M) + (1 : Int32))), .val (.ref t), .val (.int (Int32.ofNat i)), .val (.int (Int32.ofNat lm)), .val (.int (Int32.ofNat j)), .val (.int (Int32.ofNat (min (min (g1 + 1) (g2 + 1)) (g3 + 1)))), .val (.int (own_ch X (i - 1))), .val (.int (own_ch Y (j - 1))), .val v'1, .val (.int (Int32.ofNat sr)), .val (.int (Int32.ofNat lm)), .val (.int ((((Int32.ofNat g4) + (((Int32.ofNat i) - (Int32.ofNat sr)) - (1 : Int32))) + (1 : Int32)) + (((Int32.ofNat j) - (Int32.ofNat lm)) - (1 : Int32))))]) (by rcases hs16 with hs | ⟨ws_, hs, hs'⟩ <;> subst hs <;> first | rfl | (cases ws_ <;> first | rfl | (simp [Value.category] at hs'))) (own_il X824 q d6_243 rfl (own_il X824 q d6_245 rfl ?_)))))
     refine own_cS X824 q hZ e824 hown hml (W 65 rfl) (W 23 rfl) (W 24 rfl) (W 25 rfl) (rm5 l Z a0 hw (Int32.ofNat (min (min (g1 + 1) (g2 + 1)) (g3 + 1))) ((((Int32.ofNat g4) + (((Int32.ofNat i) - (Int32.ofNat sr)) - (1 : Int32))) + (1 : Int32)) + (((Int32.ofNat j) - (Int32.ofNat lm)) - (1 : Int32))) (Int32.ofNat (min (min (min (g1 + 1) (g2 + 1)) (g3 + 1)) (g4 + (i - sr - 1) + 1 + (j - lm - 1)))) h0 n0 Z0 (by rw [own_sw (by omega) (by omega)]; exact own_minN (by omega) (by omega))) d6_247 [(.int (Int32.ofNat (min (min (g1 + 1) (g2 + 1)) (g3 + 1)))), (.int ((((Int32.ofNat g4) + (((Int32.ofNat i) - (Int32.ofNat sr)) - (1 : Int32))) + (1 : Int32)) + (((Int32.ofNat j) - (Int32.ofNat lm)) - (1 : Int32))))] [] own_pd14 0 (by decide) (fun v825 T825 L825 X825 hQ825 => ?_)
     obtain ⟨rfl, N825q, e825⟩ := hQ825
     have N825 := Fr.app N824 N825q
     refine own_nv (own_is X825 q d6_250 (l' := #[.val (.ref a1), .val (.ref a2), .val (.int (Int32.ofNat M)), .val (.int (Int32.ofNat nA)), .val (.int (Int32.ofNat nB)), .val (.int ((Int32.ofNat M) + (1 : Int32))), .val (.ref t), .val (.int (Int32.ofNat i)), .val (.int (Int32.ofNat lm)), .val (.int (Int32.ofNat j)), .val (.int (Int32.ofNat (min (min (min (g1 + 1) (g2 + 1)) (g3 + 1)) (g4 + (i - sr - 1) + 1 + (j - lm - 1))))), .val (.int (own_ch X (i - 1))), .val (.int (own_ch Y (j - 1))), .val v'1, .val (.int (Int32.ofNat sr)), .val (.int (Int32.ofNat lm)), .val (.int ((((Int32.ofNat g4) + (((Int32.ofNat i) - (Int32.ofNat sr)) - (1 : Int32))) + (1 : Int32)) + (((Int32.ofNat j) - (Int32.ofNat lm)) - (1 : Int32))))]) rfl (own_al X825 q d6_252 rfl rfl (own_il X825 q d6_254 rfl (own_k X825 q d6_256 (own_iadd X825 q d6_257 (own_il X825 q d6_258 rfl (own_k X825 q d6_260 (own_iadd X825 q d6_261 (own_il X825 q d6_262 rfl (own_il X825 q d6_264 rfl ?_))))))))))
     refine own_cS X825 q hZ e825 hown hml (W 65 rfl) (W 23 rfl) (W 24 rfl) (W 25 rfl) (rm5 l Z a0 hw (Int32.ofNat (min (min (min (g1 + 1) (g2 + 1)) (g3 + 1)) (g4 + (i - sr - 1) + 1 + (j - lm - 1)))) ((Int32.ofNat M) + (1 : Int32)) (Int32.ofNat (min (min (min (min (g1 + 1) (g2 + 1)) (g3 + 1)) (g4 + (i - sr - 1) + 1 + (j - lm - 1))) (M + 1))) h0 n0 Z0 (by show own_min _ (Int32.ofNat M + Int32.ofNat 1) = _; rw [own_addN]; exact own_minN (by omega) (by omega))) d6_266 [(.int (Int32.ofNat (min (min (min (g1 + 1) (g2 + 1)) (g3 + 1)) (g4 + (i - sr - 1) + 1 + (j - lm - 1))))), (.int ((Int32.ofNat M) + (1 : Int32)))] [(.int ((Int32.ofNat j) + (1 : Int32))), (.int ((Int32.ofNat i) + (1 : Int32))), (.ref t)] own_pd14 3 (by decide) (fun v826 T826 L826 X826 hQ826 => ?_)
     obtain ⟨rfl, N826q, e826⟩ := hQ826
     have N826 := Fr.app N825 N826q
     refine own_nv ?_
     refine own_cVh X826 q hZ e826 hown hml (W 66 rfl) (W 67 rfl) (W 69 rfl) (W 68 rfl) (W 48 rfl) (W 70 rfl) rfl Et (rm13 l Z a0 hw t ((Int32.ofNat i) + (1 : Int32)) ((Int32.ofNat j) + (1 : Int32)) (Int32.ofNat (min (min (min (min (g1 + 1) (g2 + 1)) (g3 + 1)) (g4 + (i - sr - 1) + 1 + (j - lm - 1))) (M + 1))) r M (nB + 2) (i + 1) (j + 1) (min (min (min (min (g1 + 1) (g2 + 1)) (g3 + 1)) (g4 + (i - sr - 1) + 1 + (j - lm - 1))) (M + 1)) f h0 n0 Z0 TBL (own_addN i 1) (own_addN j 1) (by omega) hM (by omega) (by omega) rfl (Nat.le_trans ZB hr) htr) d6_269 [(.int ((Int32.ofNat i) + (1 : Int32))), (.int ((Int32.ofNat j) + (1 : Int32))), (.int (Int32.ofNat (min (min (min (min (g1 + 1) (g2 + 1)) (g3 + 1)) (g4 + (i - sr - 1) + 1 + (j - lm - 1))) (M + 1))))] [] own_pd16 0 (by decide) (fun v827 T827 L827 h827 e827' X827 hQ827 => ?_)
     obtain ⟨rfl, N827q, K827, TB827⟩ := hQ827
     have N827 := Fr.app N826 N827q
     have zs828 := Nat.le_trans Z0 K827.1
     have od828 := O0.keep K827 (allS (own_age (Nat.le_trans ZB hr)) all0)
     refine own_nn (own_ii X827 q d6_272 rfl (l' := #[.val (.ref a1), .val (.ref a2), .val (.int (Int32.ofNat M)), .val (.int (Int32.ofNat nA)), .val (.int (Int32.ofNat nB)), .val (.int ((Int32.ofNat M) + (1 : Int32))), .val (.ref t), .val (.int (Int32.ofNat i)), .val (.int (Int32.ofNat lm)), .val (.int ((Int32.ofNat j) + (1 : Int32))), .val (.int (Int32.ofNat (min (min (min (g1 + 1) (g2 + 1)) (g3 + 1)) (g4 + (i - sr - 1) + 1 + (j - lm - 1))))), .val (.int (own_ch X (i - 1))), .val (.int (own_ch Y (j - 1))), .val v'1, .val (.int (Int32.ofNat sr)), .val (.int (Int32.ofNat lm)), .val (.int ((((Int32.ofNat g4) + (((Int32.ofNat i) - (Int32.ofNat sr)) - (1 : Int32))) + (1 : Int32)) + (((Int32.ofNat j) - (Int32.ofNat lm)) - (1 : Int32))))]) rfl (own_gt X827 q d6_275 ?_))
     have hcel : own_cel M f E i j lm = (min (min (min (g1 + 1) (g2 + 1)) (g3 + 1)) (g4 + (i - sr - 1) + 1 + (j - lm - 1))) := own_celI hi0 hj0 hb hsr hg1 hg2 hg3 hg4
     have hlm2 : own_lm E i j lm = lm := own_lmI hi0 hj0 hb
     have hK : own_inn M E i (kk + 1) j lm f = own_inn M E i kk (j + 1) lm (own_set M f (i + 1) (j + 1) (min (min (min (min (g1 + 1) (g2 + 1)) (g3 + 1)) (g4 + (i - sr - 1) + 1 + (j - lm - 1))) (M + 1))) := by rw [own_inn, hcel, hlm2]
     rw [hK] at K
     rw [show (Int32.ofNat j) + (1 : Int32) = Int32.ofNat (j + 1) from own_addN j 1]
     exact ih (j + 1) lm _ _ _ _ _ _ _ _ _ _ _ (by omega) (by omega) (RoadKit.One.val rfl) (RoadKit.One.val rfl) (RoadKit.One.val rfl) (RoadKit.One.val rfl) (RoadKit.One.val rfl) (RoadKit.One.val rfl) (RoadKit.One.val rfl) X827 e827' N827 (K0.trans K827 (allS (Or.inr (own_age hr)) all0)) TB827 (own_setB hf (by omega)) K
theorem own_oul {p : Program} {l : Launch} {e : Env} {R : Room} {s : State} {m : MethodId} {args : Array Value} {below : List Frame} {meth : Method} {c : Code} {Z : State} {a0 : Array Value} {P : Outcome → State → Prop} 
  (hx : p.tables.exec = Jvm.exec) (hZ : Z.Warmed39 s.vm) (hw : ∀ d ∈ tables_1, d.before a0 Z = true) (hby : c.code = b'6) (hml : c.maxLocals = 17) (hown : s.vm.findClass "com/example/conformance_check/conformancecheck/catalogue/EditDistance" = some m.cls) (a1 a2 t r : Addr) (X Y : List Int32) (nA nB M : Nat) (E : Nat → Nat → Bool) (cs0 : Int32) (fo : Value) (hB : Heap) (n0 : Nat) (ZB : n0 ≤ hB.size) (OB : Old Z n0 hB) (SCS : Sta Z Z.heap "java/lang/String" "COMPACT_STRINGS" "Z" (.int cs0)) (hcs : ¬ cs0 = 0) (SIO : Sta Z Z.heap "jdk/internal/util/Preconditions" "SIOOBE_FORMATTER" "Ljava/util/function/BiFunction;" fo) (hfo : fo.isRef = true) (SAD : Sta Z Z.heap "java/lang/StringUTF16" "$assertionsDisabled" "Z" v'1) (SHI : Sta Z Z.heap "java/lang/StringUTF16" "HI_BYTE_SHIFT" "I" v'0) (SLO : Sta Z Z.heap "java/lang/StringUTF16" "LO_BYTE_SHIFT" "I" (.int (8 : Int32))) (S1 : own_str Z hB a1 X) (S2 : own_str Z hB a2 Y) (hn : X.length = nA) (hm : Y.length = nB) (hn3 : nA ≤ 3) (hm3 : nB ≤ 3) (hM : M ≤ 7) (hE : ∀ p q, p < nA → q < nB → E p q = decide (own_ch X p = own_ch Y q)) (hr : hB.size ≤ r) (htr : t < r) (hd : nA ≤ nB + M) :
  ∀ (kk i : Nat) (f : Nat → Nat → Nat) (s8 s9 s10 s11 s12 s13 s14 s15 s16 : Slot) (T : State) (locs : List Loc) (h0 : Heap), (i + kk = nA + 1) → RoadKit.One s8 → RoadKit.One s9 → RoadKit.One s10 → RoadKit.One s11 → RoadKit.One s12 → RoadKit.One s13 → RoadKit.One s14 → RoadKit.One s15 → RoadKit.One s16 → Stand p l e ({ frames := 6, cells := 11, slots := 56, locals := 150 } : Room) s m args below meth c T locs 11 56 → T.heap = h0 → Fr n0 locs → Keep hB h0 [] → own_tab Z h0 t r M (nB + 2) f → (∀ a b, f a b ≤ 8) → (∀ (T' : State) (locs' : List Loc) (h' : Heap) (s8' s9' s10' s11' s12' s13' s14' s15' s16' : Slot), RoadKit.One s8' → RoadKit.One s9' → RoadKit.One s10' → RoadKit.One s11' → RoadKit.One s12' → RoadKit.One s13' → RoadKit.One s14' → RoadKit.One s15' → RoadKit.One s16' → Stand p l e ({ frames := 6, cells := 11, slots := 56, locals := 150 } : Room) s m args below meth c T' locs' 11 56 → T'.heap = h' → Fr n0 locs' → Keep hB h' [] → own_tab Z h' t r M (nB + 2) (own_out M nB E kk i f) → (∀ a b, (own_out M nB E kk i f) a b ≤ 8) → own_Fin p e below P (T'.setTop (mkF m 284 #[.val (.ref a1), .val (.ref a2), .val (.int (Int32.ofNat M)), .val (.int (Int32.ofNat nA)), .val (.int (Int32.ofNat nB)), .val (.int ((Int32.ofNat M) + (1 : Int32))), .val (.ref t), .val (.int (Int32.ofNat (nA + 1))), s8', s9', s10', s11', s12', s13', s14', s15', s16'] []))) → own_Fin p e below P (T.setTop (mkF m 50 #[.val (.ref a1), .val (.ref a2), .val (.int (Int32.ofNat M)), .val (.int (Int32.ofNat nA)), .val (.int (Int32.ofNat nB)), .val (.int ((Int32.ofNat M) + (1 : Int32))), .val (.ref t), .val (.int (Int32.ofNat i)), s8, s9, s10, s11, s12, s13, s14, s15, s16] [])) := by
 have q : own_q p c b'6 := ⟨hx, hby⟩
 have W := @own_w _ _ hw
 intro kk
 induction kk with
 | zero =>
  intro i f s8 s9 s10 s11 s12 s13 s14 s15 s16 T locs h0 hk hs8 hs9 hs10 hs11 hs12 hs13 hs14 hs15 hs16 X0 e0 N0 K0 TBL hf K
  obtain rfl : i = nA + 1 := by omega
  have Z0 : n0 ≤ h0.size := Nat.le_trans ZB K0.1
  have O0 : Old Z n0 h0 := OB.keep K0 all0
  have T1 := S1.kp K0
  have T2 := S2.kp K0
  obtain ⟨Et, -, -, -, -⟩ := id TBL
  have E1 : Exa Z h0 a1 "java/lang/String" := by obtain ⟨_, _, q, _⟩ := T1; exact q
  have E2 : Exa Z h0 a2 "java/lang/String" := by obtain ⟨_, _, q, _⟩ := T2; exact q
  refine own_il X0 q d6_50 rfl (own_iln X0 q d6_52 rfl (own_cy X0 q d6_53 ((tlt (((own_ltN (by omega) (by omega)).mpr (by omega)) : (Int32.ofNat nA) < (Int32.ofNat (nA + 1)))).2.2.1) ?_))
  exact K _ _ _ _ _ _ _ _ _ _ _ _ hs8 hs9 hs10 hs11 hs12 hs13 hs14 hs15 hs16 X0 e0 N0 K0 TBL hf
 | succ kk ih =>
  intro i f s8 s9 s10 s11 s12 s13 s14 s15 s16 T locs h0 hk hs8 hs9 hs10 hs11 hs12 hs13 hs14 hs15 hs16 X0 e0 N0 K0 TBL hf K
  have Z0 : n0 ≤ h0.size := Nat.le_trans ZB K0.1
  have O0 : Old Z n0 h0 := OB.keep K0 all0
  have T1 := S1.kp K0
  have T2 := S2.kp K0
  obtain ⟨Et, -, -, -, -⟩ := id TBL
  have E1 : Exa Z h0 a1 "java/lang/String" := by obtain ⟨_, _, q, _⟩ := T1; exact q
  have E2 : Exa Z h0 a2 "java/lang/String" := by obtain ⟨_, _, q, _⟩ := T2; exact q
  refine own_il X0 q d6_50 rfl (own_iln X0 q d6_52 rfl (own_cn X0 q d6_53 ((flt ((fun q => absurd ((own_ltN (by omega) (by omega)).mp q) (by omega)) : ¬ ((Int32.ofNat nA) < (Int32.ofNat i)))).2.2.1) (own_k X0 q d6_56 (own_is X0 q d6_57 (l' := #[.val (.ref a1), .val (.ref a2), .val (.int (Int32.ofNat M)), .val (.int (Int32.ofNat nA)), .val (.int (Int32.ofNat nB)), .val (.int ((Int32.ofNat M) + (1 : Int32))), .val (.ref t), .val (.int (Int32.ofNat i)), .val v'0, s9, s10, s11, s12, s13, s14, s15, s16]) (by rcases hs8 with hs | ⟨ws_, hs, hs'⟩ <;> subst hs <;> first | rfl | (cases ws_ <;> first | rfl | (simp [Value.category] at hs'))) (own_k X0 q d6_59 (own_il X0 q d6_60 rfl (own_iln X0 q d6_62 rfl (own_isub X0 q d6_63 ?_))))))))
  refine own_cS X0 q hZ e0 hown hml (W 62 rfl) (W 63 rfl) (W 24 rfl) (W 64 rfl) (rm12 l Z a0 hw (0 : Int32) ((Int32.ofNat i) - (Int32.ofNat M)) (Int32.ofNat (i - M)) h0 n0 Z0 ((own_maxN (k := 0) (by omega) (by omega) (by omega)).trans (by rw [Nat.zero_max]))) d6_64 [v'0, (.int ((Int32.ofNat i) - (Int32.ofNat M)))] [] own_pd14 0 (by decide) (fun v829 T829 L829 X829 hQ829 => ?_)
  obtain ⟨rfl, N829q, e829⟩ := hQ829
  have N829 := Fr.app N0 N829q
  refine own_nv (own_is X829 q d6_67 (l' := #[.val (.ref a1), .val (.ref a2), .val (.int (Int32.ofNat M)), .val (.int (Int32.ofNat nA)), .val (.int (Int32.ofNat nB)), .val (.int ((Int32.ofNat M) + (1 : Int32))), .val (.ref t), .val (.int (Int32.ofNat i)), .val v'0, .val (.int (Int32.ofNat (i - M))), s10, s11, s12, s13, s14, s15, s16]) (by rcases hs9 with hs | ⟨ws_, hs, hs'⟩ <;> subst hs <;> first | rfl | (cases ws_ <;> first | rfl | (simp [Value.category] at hs'))) ?_)
  refine own_inl (R := ({ frames := 6, cells := 11, slots := 56, locals := 150 } : Room)) hx hZ hw hby hml hown a1 a2 t r X Y nA nB M E cs0 fo hB n0 ZB OB SCS hcs SIO hfo SAD SHI SLO S1 S2 hn hm hn3 hm3 hM hE hr htr i (by omega) (min nB (i + M) + 1 - (i - M)) (i - M) 0 f _ _ _ _ _ _ _ _ _ _ (by omega) (Or.inr rfl) hs10 hs11 hs12 hs13 hs14 hs15 hs16 X829 e829 N829 K0 TBL hf (fun T2 L2 h2 s82 s92 s102 s112 s122 s132 s142 s152 s162 hs82 hs92 hs102 hs112 hs122 hs132 hs142 hs152 hs162 X2 e2 N2 K2 TB2 hf2 => ?_)
  show own_Fin _ _ _ _ (T2.setTop (mkF m 278 #[.val (.ref a1), .val (.ref a2), .val (.int (Int32.ofNat M)), .val (.int (Int32.ofNat nA)), .val (.int (Int32.ofNat nB)), .val (.int ((Int32.ofNat M) + (1 : Int32))), .val (.ref t), .val (.int (Int32.ofNat i)), s82, s92, s102, s112, s122, s132, s142, s152, s162] []))
  refine own_ii X2 q d6_278 rfl (l' := #[.val (.ref a1), .val (.ref a2), .val (.int (Int32.ofNat M)), .val (.int (Int32.ofNat nA)), .val (.int (Int32.ofNat nB)), .val (.int ((Int32.ofNat M) + (1 : Int32))), .val (.ref t), .val (.int ((Int32.ofNat i) + (1 : Int32))), s82, s92, s102, s112, s122, s132, s142, s152, s162]) rfl (own_gt X2 q d6_281 ?_)
  rw [show (Int32.ofNat i) + (1 : Int32) = Int32.ofNat (i + 1) from own_addN i 1]
  exact ih (i + 1) _ _ _ _ _ _ _ _ _ _ _ _ _ (by omega) hs82 hs92 hs102 hs112 hs122 hs132 hs142 hs152 hs162 X2 e2 N2 K2 TB2 hf2 K
theorem rm6 (l : Launch) (Z : State) (a0 : Array Value) (hw : own_hw a0 Z) (a1 : Addr) (a2 : Addr) (X Y : List Int32) (nA nB M : Nat) (E : Nat → Nat → Bool) (cs0 : Int32) (fo : Value) (h0 : Heap) (n0 : Nat) (Z0 : n0 ≤ h0.size) (O0 : Old Z n0 h0) (SC_ : own_SC Z cs0) (SIO : Sta Z Z.heap "jdk/internal/util/Preconditions" "SIOOBE_FORMATTER" "Ljava/util/function/BiFunction;" fo) (hfo : fo.isRef = true) (SU_ : own_SU Z) (S1 : own_str Z h0 a1 X) (S2 : own_str Z h0 a2 Y) (hn : X.length = nA) (hm : Y.length = nB) (hn3 : nA ≤ 3) (hm3 : nB ≤ 3) (hM : M ≤ 7) (hE : ∀ p q, p < nA → q < nB → E p q = decide (own_ch X p = own_ch Y q)) :
  own_M l Z [] own_y27 b'6 17 (some .int) ⟨6, 11, 56, 150⟩ #[(.ref a1), (.ref a2), (.int (Int32.ofNat M))] h0 (QW nA nB M E h0 n0) := by
 obtain ⟨SCS, hcs⟩ := SC_; obtain ⟨SAD, SHI, SLO⟩ := SU_
 refine own_start (n0 := n0) hw "com/example/conformance_check/conformancecheck/catalogue/EditDistance" (L := #[.val (.ref a1), .val (.ref a2), .val (.int (Int32.ofNat M)), .unset, .unset, .unset, .unset, .unset, .unset, .unset, .unset, .unset, .unset, .unset, .unset, .unset, .unset]) pn_6 (fun {p e s m below meth c s₁} q hx W hml hZ hown hnm hlk hrt X0 e0 N0 => ?_)
 have hby := q.2
 have kp0 := Keep.refl h0 []
 have E1 : Exa Z h0 a1 "java/lang/String" := by obtain ⟨_, _, q, _⟩ := S1; exact q
 have E2 : Exa Z h0 a2 "java/lang/String" := by obtain ⟨_, _, q, _⟩ := S2; exact q
 refine own_aln X0 q d6_0 rfl rfl ?_
 refine own_cV X0 q hZ e0 hown hml (W 30 rfl) (W 31 rfl) (W 33 rfl) (W 32 rfl) (W 9 rfl) (W 34 rfl) rfl E1 (rm7_str l Z a0 hw a1 X nA cs0 fo h0 n0 Z0 O0 ⟨SCS, hcs⟩ SIO hfo ⟨SAD, SHI, SLO⟩ S1 (by omega) hn) d6_1 [] [] own_pd18 0 (by decide) (fun v840 T840 L840 X840 hQ840 => ?_)
 obtain ⟨rfl, N840q, e840⟩ := hQ840
 have N840 := Fr.app N0 N840q
 refine own_nv (own_isn X840 q d6_4 (l' := #[.val (.ref a1), .val (.ref a2), .val (.int (Int32.ofNat M)), .val (.int (Int32.ofNat nA)), .unset, .unset, .unset, .unset, .unset, .unset, .unset, .unset, .unset, .unset, .unset, .unset, .unset]) rfl (own_aln X840 q d6_5 rfl rfl ?_))
 refine own_cV X840 q hZ e840 hown hml (W 30 rfl) (W 31 rfl) (W 33 rfl) (W 32 rfl) (W 9 rfl) (W 34 rfl) rfl E2 (rm7_str l Z a0 hw a2 Y nB cs0 fo h0 n0 Z0 O0 ⟨SCS, hcs⟩ SIO hfo ⟨SAD, SHI, SLO⟩ S2 (by omega) hm) d6_6 [] [] own_pd18 0 (by decide) (fun v841 T841 L841 X841 hQ841 => ?_)
 obtain ⟨rfl, N841q, e841⟩ := hQ841
 have N841 := Fr.app N840 N841q
 refine own_nv (own_is X841 q d6_9 (l' := #[.val (.ref a1), .val (.ref a2), .val (.int (Int32.ofNat M)), .val (.int (Int32.ofNat nA)), .val (.int (Int32.ofNat nB)), .unset, .unset, .unset, .unset, .unset, .unset, .unset, .unset, .unset, .unset, .unset, .unset]) rfl (own_iln X841 q d6_11 rfl (own_k X841 q d6_12 (own_iadd X841 q d6_13 (own_is X841 q d6_14 (l' := #[.val (.ref a1), .val (.ref a2), .val (.int (Int32.ofNat M)), .val (.int (Int32.ofNat nA)), .val (.int (Int32.ofNat nB)), .val (.int ((Int32.ofNat M) + (1 : Int32))), .unset, .unset, .unset, .unset, .unset, .unset, .unset, .unset, .unset, .unset, .unset]) rfl (own_iln X841 q d6_16 rfl (own_il X841 q d6_17 rfl (own_isub X841 q d6_19 ?_))))))))
 refine own_cS X841 q hZ e841 hown hml (W 43 rfl) (W 44 rfl) (W 24 rfl) (W 45 rfl) (rm9 l Z a0 hw ((Int32.ofNat nA) - (Int32.ofNat nB)) (Int32.ofNat ((nA - nB) + (nB - nA))) h0 n0 Z0 (own_absN (by omega) (by omega))) d6_20 [(.int ((Int32.ofNat nA) - (Int32.ofNat nB)))] [] own_pd0 0 (by decide) (fun v842 T842 L842 X842 hQ842 => ?_)
 obtain ⟨rfl, N842q, e842⟩ := hQ842
 have N842 := Fr.app N841 N842q
 refine own_nv (own_iln X842 q d6_23 rfl ?_)
 by_cases hc24_843 : (Int32.ofNat M) < (Int32.ofNat ((nA - nB) + (nB - nA)))
 ·refine own_cn X842 q d6_24 ((tlt hc24_843).2.2.2) (own_il X842 q d6_27 rfl ?_)
  refine own_rI X842 q hrt d6_29 hlk (by decide) ?_
  show QW nA nB M E h0 n0 _ T842.heap _
  rw [e842]
  exact ⟨congrArg (fun z => some (Value.int z)) (show Int32.ofNat M + (1 : Int32) = _ by unfold own_win; rw [if_pos ((own_ltN (by omega) (by omega)).mp hc24_843)]; exact own_addN M 1), N842, own_extK kp0⟩
 ·refine own_cy X842 q d6_24 ((flt hc24_843).2.2.2) ?_
  refine own_let ?_; intro g844_
  obtain ⟨T845, h845, X845, e845, E845, A845, D845, -, st845⟩ := newO X842 hx hZ hown (W 46 rfl) (W 47 rfl) (W 48 rfl) e842 (g := g844_) rfl (q.d d6_30) (by decide) (by decide)
  obtain ⟨b845, g845⟩ : ∃ z, z = h0.size := ⟨_, rfl⟩
  rw [← g845] at A845 D845 st845
  have zs846 := Nat.le_trans Z0 E845.1
  have od846 := O0.ext E845
  have kp846 := kp0.ext E845
  have g_b845 : n0 ≤ b845 := Nat.le_trans Z0 (Nat.le_of_eq g845.symm)
  have sz_b845 : h0.size ≤ b845 := Nat.le_trans kp0.1 (Nat.le_of_eq g845.symm)
  have F845_rows : Fld Z h845 b845 "com/example/conformance_check/conformancecheck/catalogue/EditDistance$Table" "rows" "[[I" .null := D845 (Or.inr (W 59 rfl)) (ty := (.array (.array .int))) (by decide)
  have F845_max : Fld Z h845 b845 "com/example/conformance_check/conformancecheck/catalogue/EditDistance$Table" "max" "I" v'0 := D845 (Or.inr (W 61 rfl)) (ty := .int) (by decide)
  refine own_stq 33 [(.ref b845)] st845 (own_dp X845 q d6_33 rfl (own_iln X845 q d6_34 rfl (own_k X845 q d6_35 (own_iadd X845 q d6_36 (own_il X845 q d6_37 rfl (own_k X845 q d6_39 (own_iadd X845 q d6_40 (own_iln X845 q d6_41 rfl ?_))))))))
  refine own_cIh (a := b845) X845 q hZ e845 hown hml (W 49 rfl) (W 50 rfl) (W 48 rfl) (W 51 rfl) (rm10 l Z a0 hw b845 ((Int32.ofNat M) + (2 : Int32)) ((Int32.ofNat nB) + (2 : Int32)) M (nB + 2) h845 n0 zs846 A845 F845_rows F845_max g_b845 hM (by omega) (own_addN M 2) (own_addN nB 2)) d6_42 [(.int ((Int32.ofNat M) + (2 : Int32))), (.int ((Int32.ofNat nB) + (2 : Int32))), (.int (Int32.ofNat M))] [(.ref b845)] own_pd16 1 rfl (by decide) (fun v847 T847 L847 h847 e847' X847 hQ847 => ?_)
  obtain ⟨r847, rfl, N847q, K847, lr847, lt847, TB847⟩ := hQ847
  have N847 := Fr.app N842 N847q
  have zs848 := Nat.le_trans zs846 K847.1
  have od848 := od846.keep K847 (allS g_b845 all0)
  have kp848 := kp846.trans K847 (allS (Or.inr sz_b845) all0)
  refine own_nn (own_as X847 q d6_45 rfl (l' := #[.val (.ref a1), .val (.ref a2), .val (.int (Int32.ofNat M)), .val (.int (Int32.ofNat nA)), .val (.int (Int32.ofNat nB)), .val (.int ((Int32.ofNat M) + (1 : Int32))), .val (.ref b845), .unset, .unset, .unset, .unset, .unset, .unset, .unset, .unset, .unset, .unset]) rfl (own_k X847 q d6_47 (own_is X847 q d6_48 (l' := #[.val (.ref a1), .val (.ref a2), .val (.int (Int32.ofNat M)), .val (.int (Int32.ofNat nA)), .val (.int (Int32.ofNat nB)), .val (.int ((Int32.ofNat M) + (1 : Int32))), .val (.ref b845), .val v'0, .unset, .unset, .unset, .unset, .unset, .unset, .unset, .unset, .unset]) rfl ?_)))
  have hd : nA ≤ nB + M := by have q : ¬ M < (nA - nB) + (nB - nA) := fun z => hc24_843 ((own_ltN (by omega) (by omega)).mpr z); omega
  have hrB : h0.size ≤ r847 := Nat.le_trans kp846.1 lr847
  refine own_oul (R := ({ frames := 6, cells := 11, slots := 56, locals := 150 } : Room)) hx hZ hw hby hml hown a1 a2 b845 r847 X Y nA nB M E cs0 fo h0 n0 Z0 O0 SCS hcs SIO hfo SAD SHI SLO S1 S2 hn hm hn3 hm3 hM hE hrB lt847 hd (nA + 1) 0 _ _ _ _ _ _ _ _ _ _ _ _ _ (by omega) RoadKit.One.u RoadKit.One.u RoadKit.One.u RoadKit.One.u RoadKit.One.u RoadKit.One.u RoadKit.One.u RoadKit.One.u RoadKit.One.u X847 e847' N847 kp848 TB847 (fun _ _ => Nat.zero_le _) (fun T2 L2 h2 s82 s92 s102 s112 s122 s132 s142 s152 s162 hs82 hs92 hs102 hs112 hs122 hs132 hs142 hs152 hs162 X2 e2 N2 K2 TB2 hf2 => ?_)
  obtain ⟨Et2, -, -, -, -⟩ := id TB2
  have Z2 := Nat.le_trans Z0 K2.1
  show own_Fin _ _ _ _ (T2.setTop (mkF m 284 #[.val (.ref a1), .val (.ref a2), .val (.int (Int32.ofNat M)), .val (.int (Int32.ofNat nA)), .val (.int (Int32.ofNat nB)), .val (.int ((Int32.ofNat M) + (1 : Int32))), .val (.ref b845), .val (.int (Int32.ofNat (nA + 1))), s82, s92, s102, s112, s122, s132, s142, s152, s162] []))
  refine own_al X2 q d6_284 rfl rfl (own_iln X2 q d6_286 rfl (own_k X2 q d6_287 (own_iadd X2 q d6_288 (own_il X2 q d6_289 rfl (own_k X2 q d6_291 (own_iadd X2 q d6_292 ?_))))))
  refine own_cV X2 q hZ e2 hown hml (W 71 rfl) (W 72 rfl) (W 74 rfl) (W 73 rfl) (W 48 rfl) (W 75 rfl) rfl Et2 (rm14 l Z a0 hw b845 ((Int32.ofNat nA) + (1 : Int32)) ((Int32.ofNat nB) + (1 : Int32)) r847 M (nB + 2) (nA + 1) (nB + 1) _ _ h2 n0 Z2 TB2 (own_addN nA 1) (own_addN nB 1) (by omega) hM (by omega) (by omega) rfl) d6_293 [(.int ((Int32.ofNat nA) + (1 : Int32))), (.int ((Int32.ofNat nB) + (1 : Int32)))] [] own_pd14 0 (by decide) (fun v849 T849 L849 X849 hQ849 => ?_)
  obtain ⟨rfl, N849q, e849⟩ := hQ849
  have N849 := Fr.app N2 N849q
  refine own_nv ?_
  refine own_rI X849 q hrt d6_296 hlk (by decide) ?_
  show QW nA nB M E h0 n0 _ T849.heap _
  rw [e849]
  exact ⟨congrArg (fun z => some (Value.int z)) (show _ = Int32.ofNat (own_win nA nB M E) by unfold own_win; rw [if_neg (fun z => hc24_843 ((own_ltN (by omega) (by omega)).mpr z))]), N849, own_extK K2⟩
theorem d1_0 : own_D b'1 0 (.lload_n 0) 1 1 := by decide +kernel
theorem d1_1 : own_DK b'1 1 16 3 := by decide +kernel
theorem d1_3 : own_D b'1 3 (.iload_n 2) 1 4 := by decide +kernel
theorem d1_4 : own_D b'1 4 .imul 1 5 := by decide +kernel
theorem d1_5 : own_D b'1 5 .lushr 1 6 := by decide +kernel
theorem d1_6 : own_D b'1 6 (.ldc2_w 33) 3 9 := by decide +kernel
theorem d1_9 : own_D b'1 9 .land 1 10 := by decide +kernel
theorem d1_10 : own_D b'1 10 .l2i 1 11 := by decide +kernel
theorem d1_11 : own_D b'1 11 (.istore_n 3) 1 12 := by decide +kernel
theorem d1_12 : own_D b'1 12 (.iload_n 3) 1 13 := by decide +kernel
theorem d1_13 : own_DK b'1 13 256 16 := by decide +kernel
theorem d1_16 : own_D b'1 16 .iand 1 17 := by decide +kernel
theorem d1_17 : own_DZ b'1 17 .eq 23 20 := by decide +kernel
theorem d1_20 : own_D b'1 20 (.iload_n 3) 1 21 := by decide +kernel
theorem d1_21 : own_D b'1 21 .i2c 1 22 := by decide +kernel
theorem d1_22 : own_D b'1 22 .ireturn 1 23 := by decide +kernel
theorem d1_23 : own_DK b'1 23 97 25 := by decide +kernel
theorem d1_25 : own_D b'1 25 (.iload_n 3) 1 26 := by decide +kernel
theorem d1_26 : own_DK b'1 26 3 27 := by decide +kernel
theorem d1_27 : own_D b'1 27 .iand 1 28 := by decide +kernel
theorem d1_28 : own_D b'1 28 .iadd 1 29 := by decide +kernel
theorem d1_29 : own_D b'1 29 .i2c 1 30 := by decide +kernel
theorem d1_30 : own_D b'1 30 .ireturn 1 31 := by decide +kernel
theorem pn_1 : plainFor (⟨"com/example/conformance_check/conformancecheck/catalogue/EditDistanceWithinPinLaw", "ch", "(JI)C"⟩ : MethodName) = true := plainFor_of_name (by first | (simp [plainName, overriddenIn]; done) | decide +kernel)
theorem rm1 (l : Launch) (Z : State) (a0 : Array Value) (hw : own_hw a0 Z) (p1 : Int64) (p2 : Int32)  (h0 : Heap) (n0 : Nat) (Z0 : n0 ≤ h0.size) :
  own_M l Z [] own_y28 b'1 4 (some .char) ⟨0, 0, 0, 0⟩ #[(.long p1), (.int p2)] h0 (QCH h0 n0) := by
 refine own_start (n0 := n0) hw "com/example/conformance_check/conformancecheck/catalogue/EditDistanceWithinPinLaw" (L := #[.val (.long p1), .second, .val (.int p2), .unset]) pn_1 (fun {p e s m below meth c s₁} q hx W hml hZ hown hnm hlk hrt X0 e0 N0 => ?_)
 refine own_lln X0 q d1_0 rfl (own_k X0 q d1_1 (own_iln X0 q d1_3 rfl (own_stp 5 (fun _ k => XS.imul X0.here hx rfl (q.d d1_4) rfl k) (own_stp 6 (fun _ k => XS.lushr X0.here hx rfl (q.d d1_5) rfl k) (own_stq 9 [(.long (65535 : Int64)), (.long ((p1.toUInt64 >>> (((16 : Int32) * p2) &&& 0x3f).toInt64.toUInt64).toInt64))] (fun _ k => X0.ldc2Long hx hown (mvT hZ (W 4 rfl)) (g := mkF m 6 _ _) rfl (q.d d1_6) _ k) (own_stp 10 (fun _ k => XS.land X0.here hx rfl (q.d d1_9) rfl k) (own_stp 11 (fun _ k => XS.l2i X0.here hx rfl (q.d d1_10) rfl k) (own_isn X0 q d1_11 (l' := #[.val (.long p1), .second, .val (.int p2), .val (.int ((((p1.toUInt64 >>> (((16 : Int32) * p2) &&& 0x3f).toInt64.toUInt64).toInt64) &&& (65535 : Int64)).toInt32))]) rfl (own_iln X0 q d1_12 rfl (own_k X0 q d1_13 (own_stp 17 (fun _ k => XS.iand X0.here hx rfl (q.d d1_16) rfl k) ?_)))))))))))
 by_cases hc17_851 : (((((p1.toUInt64 >>> (((16 : Int32) * p2) &&& 0x3f).toInt64.toUInt64).toInt64) &&& (65535 : Int64)).toInt32) &&& (256 : Int32)) = (0 : Int32)
 ·refine own_zy X0 q d1_17 (((if0 _ _).trans (teq hc17_851).1)) (own_k X0 q d1_23 (own_iln X0 q d1_25 rfl (own_k X0 q d1_26 (own_stp 28 (fun _ k => XS.iand X0.here hx rfl (q.d d1_27) rfl k) (own_iadd X0 q d1_28 (own_stp 30 (fun _ k => XS.i2c X0.here hx rfl (q.d d1_29) rfl k) ?_))))))
  refine own_rN X0 q hrt (by simp) d1_30 hlk (by decide) ?_
  show QCH h0 n0 _ s₁.heap _
  rw [e0]
  exact ⟨_, rfl, N0, rfl, own_nc16 _⟩
 ·refine own_zn X0 q d1_17 (((if0 _ _).trans (feq hc17_851).1)) (own_iln X0 q d1_20 rfl (own_stp 22 (fun _ k => XS.i2c X0.here hx rfl (q.d d1_21) rfl k) ?_))
  refine own_rN X0 q hrt (by simp) d1_22 hlk (by decide) ?_
  show QCH h0 n0 _ s₁.heap _
  rw [e0]
  exact ⟨_, rfl, N0, rfl, own_nc16 _⟩
theorem d38_0 : own_D b'38 0 (.iload_n 0) 1 1 := by decide +kernel
theorem d38_1 : own_D b'38 1 (.iload_n 1) 1 2 := by decide +kernel
theorem d38_2 : own_DJ b'38 2 .ne 9 5 := by decide +kernel
theorem d38_5 : own_DK b'38 5 0 6 := by decide +kernel
theorem d38_6 : own_DG b'38 6 10 := by decide +kernel
theorem d38_9 : own_DK b'38 9 1 10 := by decide +kernel
theorem d38_10 : own_D b'38 10 .ireturn 1 11 := by decide +kernel
theorem pn_38 : plainFor (⟨"com/example/conformance_check/conformancecheck/catalogue/EditDistanceWithinPinLaw", "ne", "(CC)I"⟩ : MethodName) = true := plainFor_of_name (by first | (simp [plainName, overriddenIn]; done) | decide +kernel)
theorem rm38 (l : Launch) (Z : State) (a0 : Array Value) (hw : own_hw a0 Z) (p1 : Int32) (p2 : Int32) (eb : Bool) (h0 : Heap) (n0 : Nat) (Z0 : n0 ≤ h0.size) (he : eb = decide (p1 = p2)) :
  own_M l Z [] own_y29 b'38 2 (some .int) ⟨0, 0, 0, 0⟩ #[(.int p1), (.int p2)] h0 (QI (Int32.ofNat (if eb then 0 else 1)) h0 n0) := by
 refine own_start (n0 := n0) hw "com/example/conformance_check/conformancecheck/catalogue/EditDistanceWithinPinLaw" (L := #[.val (.int p1), .val (.int p2)]) pn_38 (fun {p e s m below meth c s₁} q hx W hml hZ hown hnm hlk hrt X0 e0 N0 => ?_)
 refine own_iln X0 q d38_0 rfl (own_iln X0 q d38_1 rfl ?_)
 by_cases hc2_853 : p1 = p2
 ·refine own_cn X0 q d38_2 ((teq hc2_853).2) (own_k X0 q d38_5 (own_gt X0 q d38_6 ?_))
  refine own_rI X0 q hrt d38_10 hlk (by decide) ?_
  show QI (Int32.ofNat (if eb then 0 else 1)) h0 n0 _ s₁.heap _
  rw [e0]
  exact ⟨by rw [he, decide_eq_true hc2_853]; rfl, N0, rfl⟩
 ·refine own_cy X0 q d38_2 ((feq hc2_853).2) (own_k X0 q d38_9 ?_)
  refine own_rI X0 q hrt d38_10 hlk (by decide) ?_
  show QI (Int32.ofNat (if eb then 0 else 1)) h0 n0 _ s₁.heap _
  rw [e0]
  exact ⟨by rw [he, decide_eq_false hc2_853]; rfl, N0, rfl⟩
theorem d29_0 : own_D b'29 0 (.iload_n 0) 1 1 := by decide +kernel
theorem d29_1 : own_D b'29 1 (.iload_n 2) 1 2 := by decide +kernel
theorem d29_2 : own_DJ b'29 2 .ne 12 5 := by decide +kernel
theorem d29_5 : own_D b'29 5 (.iload_n 1) 1 6 := by decide +kernel
theorem d29_6 : own_D b'29 6 (.iload_n 3) 1 7 := by decide +kernel
theorem d29_7 : own_DJ b'29 7 .ne 12 10 := by decide +kernel
theorem d29_10 : own_DK b'29 10 0 11 := by decide +kernel
theorem d29_11 : own_D b'29 11 .ireturn 1 12 := by decide +kernel
theorem d29_12 : own_D b'29 12 (.iload_n 0) 1 13 := by decide +kernel
theorem d29_13 : own_D b'29 13 (.iload_n 2) 1 14 := by decide +kernel
theorem d29_14 : own_DJ b'29 14 .eq 22 17 := by decide +kernel
theorem d29_17 : own_D b'29 17 (.iload_n 1) 1 18 := by decide +kernel
theorem d29_18 : own_D b'29 18 (.iload_n 3) 1 19 := by decide +kernel
theorem d29_19 : own_DJ b'29 19 .ne 24 22 := by decide +kernel
theorem d29_22 : own_DK b'29 22 1 23 := by decide +kernel
theorem d29_23 : own_D b'29 23 .ireturn 1 24 := by decide +kernel
theorem d29_24 : own_D b'29 24 (.iload_n 0) 1 25 := by decide +kernel
theorem d29_25 : own_D b'29 25 (.iload_n 3) 1 26 := by decide +kernel
theorem d29_26 : own_DJ b'29 26 .ne 36 29 := by decide +kernel
theorem d29_29 : own_D b'29 29 (.iload_n 1) 1 30 := by decide +kernel
theorem d29_30 : own_D b'29 30 (.iload_n 2) 1 31 := by decide +kernel
theorem d29_31 : own_DJ b'29 31 .ne 36 34 := by decide +kernel
theorem d29_34 : own_DK b'29 34 1 35 := by decide +kernel
theorem d29_35 : own_D b'29 35 .ireturn 1 36 := by decide +kernel
theorem d29_36 : own_DK b'29 36 2 37 := by decide +kernel
theorem d29_37 : own_D b'29 37 .ireturn 1 38 := by decide +kernel
theorem pn_29 : plainFor (⟨"com/example/conformance_check/conformancecheck/catalogue/EditDistanceWithinPinLaw", "d22", "(CCCC)I"⟩ : MethodName) = true := plainFor_of_name (by first | (simp [plainName, overriddenIn]; done) | decide +kernel)
theorem rm29 (l : Launch) (Z : State) (a0 : Array Value) (hw : own_hw a0 Z) (p1 : Int32) (p2 : Int32) (p3 : Int32) (p4 : Int32) (e00 e01 e10 e11 : Bool) (h0 : Heap) (n0 : Nat) (Z0 : n0 ≤ h0.size) (he00 : e00 = decide (p1 = p3)) (he01 : e01 = decide (p1 = p4)) (he10 : e10 = decide (p2 = p3)) (he11 : e11 = decide (p2 = p4)) :
  own_M l Z [] own_y30 b'29 4 (some .int) ⟨0, 0, 0, 0⟩ #[(.int p1), (.int p2), (.int p3), (.int p4)] h0 (QI (Int32.ofNat (own_d22 e00 e01 e10 e11)) h0 n0) := by
 refine own_start (n0 := n0) hw "com/example/conformance_check/conformancecheck/catalogue/EditDistanceWithinPinLaw" (L := #[.val (.int p1), .val (.int p2), .val (.int p3), .val (.int p4)]) pn_29 (fun {p e s m below meth c s₁} q hx W hml hZ hown hnm hlk hrt X0 e0 N0 => ?_)
 refine own_iln X0 q d29_0 rfl (own_iln X0 q d29_1 rfl ?_)
 by_cases hc2_859 : p1 = p3
 ·refine own_cn X0 q d29_2 ((teq hc2_859).2) (own_iln X0 q d29_5 rfl (own_iln X0 q d29_6 rfl ?_))
  by_cases hc7_860 : p2 = p4
  ·refine own_cn X0 q d29_7 ((teq hc7_860).2) (own_k X0 q d29_10 ?_)
   refine own_rI X0 q hrt d29_11 hlk (by decide) ?_
   show QI (Int32.ofNat (own_d22 e00 e01 e10 e11)) h0 n0 _ s₁.heap _
   rw [e0]
   exact ⟨by rw [show e00 = true from he00.trans (decide_eq_true hc2_859)]; rw [show e11 = true from he11.trans (decide_eq_true hc7_860)]; first | rfl | (cases e00 <;> cases e01 <;> cases e10 <;> cases e11 <;> rfl) | (cases e11 <;> rfl) | (cases e01 <;> cases e10 <;> rfl) | (cases e10 <;> rfl), N0, rfl⟩
  ·refine own_cy X0 q d29_7 ((feq hc7_860).2) (own_iln X0 q d29_12 rfl (own_iln X0 q d29_13 rfl (own_cy X0 q d29_14 ((teq hc2_859).1) (own_k X0 q d29_22 ?_))))
   refine own_rI X0 q hrt d29_23 hlk (by decide) ?_
   show QI (Int32.ofNat (own_d22 e00 e01 e10 e11)) h0 n0 _ s₁.heap _
   rw [e0]
   exact ⟨by rw [show e00 = true from he00.trans (decide_eq_true hc2_859)]; rw [show e11 = false from he11.trans (decide_eq_false hc7_860)]; first | rfl | (cases e00 <;> cases e01 <;> cases e10 <;> cases e11 <;> rfl) | (cases e11 <;> rfl) | (cases e01 <;> cases e10 <;> rfl) | (cases e10 <;> rfl), N0, rfl⟩
 ·refine own_cy X0 q d29_2 ((feq hc2_859).2) (own_iln X0 q d29_12 rfl (own_iln X0 q d29_13 rfl (own_cn X0 q d29_14 ((feq hc2_859).1) (own_iln X0 q d29_17 rfl (own_iln X0 q d29_18 rfl ?_)))))
  by_cases hc19_861 : p2 = p4
  ·refine own_cn X0 q d29_19 ((teq hc19_861).2) (own_k X0 q d29_22 ?_)
   refine own_rI X0 q hrt d29_23 hlk (by decide) ?_
   show QI (Int32.ofNat (own_d22 e00 e01 e10 e11)) h0 n0 _ s₁.heap _
   rw [e0]
   exact ⟨by rw [show e00 = false from he00.trans (decide_eq_false hc2_859)]; rw [show e11 = true from he11.trans (decide_eq_true hc19_861)]; first | rfl | (cases e00 <;> cases e01 <;> cases e10 <;> cases e11 <;> rfl) | (cases e11 <;> rfl) | (cases e01 <;> cases e10 <;> rfl) | (cases e10 <;> rfl), N0, rfl⟩
  ·refine own_cy X0 q d29_19 ((feq hc19_861).2) (own_iln X0 q d29_24 rfl (own_iln X0 q d29_25 rfl ?_))
   by_cases hc26_862 : p1 = p4
   ·refine own_cn X0 q d29_26 ((teq hc26_862).2) (own_iln X0 q d29_29 rfl (own_iln X0 q d29_30 rfl ?_))
    by_cases hc31_863 : p2 = p3
    ·refine own_cn X0 q d29_31 ((teq hc31_863).2) (own_k X0 q d29_34 ?_)
     refine own_rI X0 q hrt d29_35 hlk (by decide) ?_
     show QI (Int32.ofNat (own_d22 e00 e01 e10 e11)) h0 n0 _ s₁.heap _
     rw [e0]
     exact ⟨by rw [show e00 = false from he00.trans (decide_eq_false hc2_859)]; rw [show e11 = false from he11.trans (decide_eq_false hc19_861)]; rw [show e01 = true from he01.trans (decide_eq_true hc26_862)]; rw [show e10 = true from he10.trans (decide_eq_true hc31_863)]; first | rfl | (cases e00 <;> cases e01 <;> cases e10 <;> cases e11 <;> rfl) | (cases e11 <;> rfl) | (cases e01 <;> cases e10 <;> rfl) | (cases e10 <;> rfl), N0, rfl⟩
    ·refine own_cy X0 q d29_31 ((feq hc31_863).2) (own_k X0 q d29_36 ?_)
     refine own_rI X0 q hrt d29_37 hlk (by decide) ?_
     show QI (Int32.ofNat (own_d22 e00 e01 e10 e11)) h0 n0 _ s₁.heap _
     rw [e0]
     exact ⟨by rw [show e00 = false from he00.trans (decide_eq_false hc2_859)]; rw [show e11 = false from he11.trans (decide_eq_false hc19_861)]; rw [show e01 = true from he01.trans (decide_eq_true hc26_862)]; rw [show e10 = false from he10.trans (decide_eq_false hc31_863)]; first | rfl | (cases e00 <;> cases e01 <;> cases e10 <;> cases e11 <;> rfl) | (cases e11 <;> rfl) | (cases e01 <;> cases e10 <;> rfl) | (cases e10 <;> rfl), N0, rfl⟩
   ·refine own_cy X0 q d29_26 ((feq hc26_862).2) (own_k X0 q d29_36 ?_)
    refine own_rI X0 q hrt d29_37 hlk (by decide) ?_
    show QI (Int32.ofNat (own_d22 e00 e01 e10 e11)) h0 n0 _ s₁.heap _
    rw [e0]
    exact ⟨by rw [show e00 = false from he00.trans (decide_eq_false hc2_859)]; rw [show e11 = false from he11.trans (decide_eq_false hc19_861)]; rw [show e01 = false from he01.trans (decide_eq_false hc26_862)]; first | rfl | (cases e00 <;> cases e01 <;> cases e10 <;> cases e11 <;> rfl) | (cases e11 <;> rfl) | (cases e01 <;> cases e10 <;> rfl) | (cases e10 <;> rfl), N0, rfl⟩
theorem d4_0 : own_D b'4 0 (.iload_n 0) 1 1 := by decide +kernel
theorem d4_1 : own_DZ b'4 1 .ne 7 4 := by decide +kernel
theorem d4_4 : own_D b'4 4 (.iload 4) 2 6 := by decide +kernel
theorem d4_6 : own_D b'4 6 .ireturn 1 7 := by decide +kernel
theorem d4_7 : own_D b'4 7 (.iload_n 0) 1 8 := by decide +kernel
theorem d4_8 : own_DK b'4 8 1 9 := by decide +kernel
theorem d4_9 : own_DJ b'4 9 .ne 73 12 := by decide +kernel
theorem d4_12 : own_D b'4 12 (.iload 4) 2 14 := by decide +kernel
theorem d4_14 : own_DK b'4 14 1 15 := by decide +kernel
theorem d4_15 : own_DJ b'4 15 .ne 25 18 := by decide +kernel
theorem d4_18 : own_D b'4 18 (.iload_n 1) 1 19 := by decide +kernel
theorem d4_19 : own_D b'4 19 (.iload 5) 2 21 := by decide +kernel
theorem d4_21 : own_D b'4 21 (.invokestatic 49) 3 24 := by decide +kernel
theorem d4_24 : own_D b'4 24 .ireturn 1 25 := by decide +kernel
theorem d4_25 : own_D b'4 25 (.iload 4) 2 27 := by decide +kernel
theorem d4_27 : own_DK b'4 27 2 28 := by decide +kernel
theorem d4_28 : own_DJ b'4 28 .ne 49 31 := by decide +kernel
theorem d4_31 : own_DK b'4 31 1 32 := by decide +kernel
theorem d4_32 : own_D b'4 32 (.iload_n 1) 1 33 := by decide +kernel
theorem d4_33 : own_D b'4 33 (.iload 5) 2 35 := by decide +kernel
theorem d4_35 : own_D b'4 35 (.invokestatic 49) 3 38 := by decide +kernel
theorem d4_38 : own_D b'4 38 (.iload_n 1) 1 39 := by decide +kernel
theorem d4_39 : own_D b'4 39 (.iload 6) 2 41 := by decide +kernel
theorem d4_41 : own_D b'4 41 (.invokestatic 49) 3 44 := by decide +kernel
theorem d4_44 : own_D b'4 44 (.invokestatic 21) 3 47 := by decide +kernel
theorem d4_47 : own_D b'4 47 .iadd 1 48 := by decide +kernel
theorem d4_48 : own_D b'4 48 .ireturn 1 49 := by decide +kernel
theorem d4_49 : own_D b'4 49 (.iload_n 1) 1 50 := by decide +kernel
theorem d4_50 : own_D b'4 50 (.iload 5) 2 52 := by decide +kernel
theorem d4_52 : own_DJ b'4 52 .eq 67 55 := by decide +kernel
theorem d4_55 : own_D b'4 55 (.iload_n 1) 1 56 := by decide +kernel
theorem d4_56 : own_D b'4 56 (.iload 6) 2 58 := by decide +kernel
theorem d4_58 : own_DJ b'4 58 .eq 67 61 := by decide +kernel
theorem d4_61 : own_D b'4 61 (.iload_n 1) 1 62 := by decide +kernel
theorem d4_62 : own_D b'4 62 (.iload 7) 2 64 := by decide +kernel
theorem d4_64 : own_DJ b'4 64 .ne 71 67 := by decide +kernel
theorem d4_67 : own_DK b'4 67 2 68 := by decide +kernel
theorem d4_68 : own_DG b'4 68 72 := by decide +kernel
theorem d4_71 : own_DK b'4 71 3 72 := by decide +kernel
theorem d4_72 : own_D b'4 72 .ireturn 1 73 := by decide +kernel
theorem d4_73 : own_D b'4 73 (.iload_n 0) 1 74 := by decide +kernel
theorem d4_74 : own_DK b'4 74 2 75 := by decide +kernel
theorem d4_75 : own_DJ b'4 75 .ne 134 78 := by decide +kernel
theorem d4_78 : own_D b'4 78 (.iload 4) 2 80 := by decide +kernel
theorem d4_80 : own_DK b'4 80 2 81 := by decide +kernel
theorem d4_81 : own_DJ b'4 81 .ne 94 84 := by decide +kernel
theorem d4_84 : own_D b'4 84 (.iload_n 1) 1 85 := by decide +kernel
theorem d4_85 : own_D b'4 85 (.iload_n 2) 1 86 := by decide +kernel
theorem d4_86 : own_D b'4 86 (.iload 5) 2 88 := by decide +kernel
theorem d4_88 : own_D b'4 88 (.iload 6) 2 90 := by decide +kernel
theorem d4_90 : own_D b'4 90 (.invokestatic 53) 3 93 := by decide +kernel
theorem d4_93 : own_D b'4 93 .ireturn 1 94 := by decide +kernel
theorem d4_94 : own_D b'4 94 (.iload_n 1) 1 95 := by decide +kernel
theorem d4_95 : own_D b'4 95 (.iload_n 2) 1 96 := by decide +kernel
theorem d4_96 : own_D b'4 96 (.iload 6) 2 98 := by decide +kernel
theorem d4_98 : own_D b'4 98 (.iload 7) 2 100 := by decide +kernel
theorem d4_100 : own_D b'4 100 (.invokestatic 53) 3 103 := by decide +kernel
theorem d4_103 : own_D b'4 103 (.iload_n 1) 1 104 := by decide +kernel
theorem d4_104 : own_D b'4 104 (.iload_n 2) 1 105 := by decide +kernel
theorem d4_105 : own_D b'4 105 (.iload 5) 2 107 := by decide +kernel
theorem d4_107 : own_D b'4 107 (.iload 7) 2 109 := by decide +kernel
theorem d4_109 : own_D b'4 109 (.invokestatic 53) 3 112 := by decide +kernel
theorem d4_112 : own_D b'4 112 (.iload_n 1) 1 113 := by decide +kernel
theorem d4_113 : own_D b'4 113 (.iload_n 2) 1 114 := by decide +kernel
theorem d4_114 : own_D b'4 114 (.iload 5) 2 116 := by decide +kernel
theorem d4_116 : own_D b'4 116 (.iload 6) 2 118 := by decide +kernel
theorem d4_118 : own_D b'4 118 (.invokestatic 53) 3 121 := by decide +kernel
theorem d4_121 : own_D b'4 121 (.invokestatic 21) 3 124 := by decide +kernel
theorem d4_124 : own_D b'4 124 (.invokestatic 21) 3 127 := by decide +kernel
theorem d4_127 : own_D b'4 127 (.istore 8) 2 129 := by decide +kernel
theorem d4_129 : own_DK b'4 129 1 130 := by decide +kernel
theorem d4_130 : own_D b'4 130 (.iload 8) 2 132 := by decide +kernel
theorem d4_132 : own_D b'4 132 .iadd 1 133 := by decide +kernel
theorem d4_133 : own_D b'4 133 .ireturn 1 134 := by decide +kernel
theorem d4_134 : own_DK b'4 134 0 135 := by decide +kernel
theorem d4_135 : own_D b'4 135 .ireturn 1 136 := by decide +kernel
theorem pn_4 : plainFor (⟨"com/example/conformance_check/conformancecheck/catalogue/EditDistanceWithinPinLaw", "ordered", "(ICCCICCC)I"⟩ : MethodName) = true := plainFor_of_name (by first | (simp [plainName, overriddenIn]; done) | decide +kernel)
theorem rm4_00 (l : Launch) (Z : State) (a0 : Array Value) (hw : own_hw a0 Z) (p2 : Int32) (p3 : Int32) (p4 : Int32) (p6 : Int32) (p7 : Int32) (p8 : Int32) (E : Nat → Nat → Bool) (h0 : Heap) (n0 : Nat) (Z0 : n0 ≤ h0.size) :
  own_M l Z [] own_y31 b'4 9 (some .int) ⟨1, 0, 0, 17⟩ #[v'0, (.int p2), (.int p3), (.int p4), v'0, (.int p6), (.int p7), (.int p8)] h0 (QI (Int32.ofNat (own_ord 0 0 E)) h0 n0) := by
 refine own_start (n0 := n0) hw "com/example/conformance_check/conformancecheck/catalogue/EditDistanceWithinPinLaw" (L := #[.val v'0, .val (.int p2), .val (.int p3), .val (.int p4), .val v'0, .val (.int p6), .val (.int p7), .val (.int p8), .unset]) pn_4 (fun {p e s m below meth c s₁} q hx W hml hZ hown hnm hlk hrt X0 e0 N0 => ?_)
 refine own_iln X0 q d4_0 rfl (own_zn X0 q d4_1 (((if0 _ _).trans (teq (rfl : (0 : Int32) = (0 : Int32))).2)) (own_il X0 q d4_4 rfl ?_))
 refine own_rI X0 q hrt d4_6 hlk (by decide) ?_
 show QI (Int32.ofNat (own_ord 0 0 E)) h0 n0 _ s₁.heap _
 rw [e0]
 exact ⟨rfl, N0, rfl⟩
theorem rm4_01 (l : Launch) (Z : State) (a0 : Array Value) (hw : own_hw a0 Z) (p2 : Int32) (p3 : Int32) (p4 : Int32) (p6 : Int32) (p7 : Int32) (p8 : Int32) (E : Nat → Nat → Bool) (h0 : Heap) (n0 : Nat) (Z0 : n0 ≤ h0.size) :
  own_M l Z [] own_y31 b'4 9 (some .int) ⟨1, 0, 0, 17⟩ #[v'0, (.int p2), (.int p3), (.int p4), v'1, (.int p6), (.int p7), (.int p8)] h0 (QI (Int32.ofNat (own_ord 0 1 E)) h0 n0) := by
 refine own_start (n0 := n0) hw "com/example/conformance_check/conformancecheck/catalogue/EditDistanceWithinPinLaw" (L := #[.val v'0, .val (.int p2), .val (.int p3), .val (.int p4), .val v'1, .val (.int p6), .val (.int p7), .val (.int p8), .unset]) pn_4 (fun {p e s m below meth c s₁} q hx W hml hZ hown hnm hlk hrt X0 e0 N0 => ?_)
 refine own_iln X0 q d4_0 rfl (own_zn X0 q d4_1 (((if0 _ _).trans (teq (rfl : (0 : Int32) = (0 : Int32))).2)) (own_il X0 q d4_4 rfl ?_))
 refine own_rI X0 q hrt d4_6 hlk (by decide) ?_
 show QI (Int32.ofNat (own_ord 0 1 E)) h0 n0 _ s₁.heap _
 rw [e0]
 exact ⟨rfl, N0, rfl⟩
theorem rm4_02 (l : Launch) (Z : State) (a0 : Array Value) (hw : own_hw a0 Z) (p2 : Int32) (p3 : Int32) (p4 : Int32) (p6 : Int32) (p7 : Int32) (p8 : Int32) (E : Nat → Nat → Bool) (h0 : Heap) (n0 : Nat) (Z0 : n0 ≤ h0.size) :
  own_M l Z [] own_y31 b'4 9 (some .int) ⟨1, 0, 0, 17⟩ #[v'0, (.int p2), (.int p3), (.int p4), v'2, (.int p6), (.int p7), (.int p8)] h0 (QI (Int32.ofNat (own_ord 0 2 E)) h0 n0) := by
 refine own_start (n0 := n0) hw "com/example/conformance_check/conformancecheck/catalogue/EditDistanceWithinPinLaw" (L := #[.val v'0, .val (.int p2), .val (.int p3), .val (.int p4), .val v'2, .val (.int p6), .val (.int p7), .val (.int p8), .unset]) pn_4 (fun {p e s m below meth c s₁} q hx W hml hZ hown hnm hlk hrt X0 e0 N0 => ?_)
 refine own_iln X0 q d4_0 rfl (own_zn X0 q d4_1 (((if0 _ _).trans (teq (rfl : (0 : Int32) = (0 : Int32))).2)) (own_il X0 q d4_4 rfl ?_))
 refine own_rI X0 q hrt d4_6 hlk (by decide) ?_
 show QI (Int32.ofNat (own_ord 0 2 E)) h0 n0 _ s₁.heap _
 rw [e0]
 exact ⟨rfl, N0, rfl⟩
theorem rm4_03 (l : Launch) (Z : State) (a0 : Array Value) (hw : own_hw a0 Z) (p2 : Int32) (p3 : Int32) (p4 : Int32) (p6 : Int32) (p7 : Int32) (p8 : Int32) (E : Nat → Nat → Bool) (h0 : Heap) (n0 : Nat) (Z0 : n0 ≤ h0.size) :
  own_M l Z [] own_y31 b'4 9 (some .int) ⟨1, 0, 0, 17⟩ #[v'0, (.int p2), (.int p3), (.int p4), v'3, (.int p6), (.int p7), (.int p8)] h0 (QI (Int32.ofNat (own_ord 0 3 E)) h0 n0) := by
 refine own_start (n0 := n0) hw "com/example/conformance_check/conformancecheck/catalogue/EditDistanceWithinPinLaw" (L := #[.val v'0, .val (.int p2), .val (.int p3), .val (.int p4), .val v'3, .val (.int p6), .val (.int p7), .val (.int p8), .unset]) pn_4 (fun {p e s m below meth c s₁} q hx W hml hZ hown hnm hlk hrt X0 e0 N0 => ?_)
 refine own_iln X0 q d4_0 rfl (own_zn X0 q d4_1 (((if0 _ _).trans (teq (rfl : (0 : Int32) = (0 : Int32))).2)) (own_il X0 q d4_4 rfl ?_))
 refine own_rI X0 q hrt d4_6 hlk (by decide) ?_
 show QI (Int32.ofNat (own_ord 0 3 E)) h0 n0 _ s₁.heap _
 rw [e0]
 exact ⟨rfl, N0, rfl⟩
theorem rm4_11 (l : Launch) (Z : State) (a0 : Array Value) (hw : own_hw a0 Z) (p2 : Int32) (p3 : Int32) (p4 : Int32) (p6 : Int32) (p7 : Int32) (p8 : Int32) (E : Nat → Nat → Bool) (h0 : Heap) (n0 : Nat) (Z0 : n0 ≤ h0.size) (hE00 : E 0 0 = decide (p2 = p6)) :
  own_M l Z [] own_y31 b'4 9 (some .int) ⟨1, 0, 0, 17⟩ #[v'1, (.int p2), (.int p3), (.int p4), v'1, (.int p6), (.int p7), (.int p8)] h0 (QI (Int32.ofNat (own_ord 1 1 E)) h0 n0) := by
 refine own_start (n0 := n0) hw "com/example/conformance_check/conformancecheck/catalogue/EditDistanceWithinPinLaw" (L := #[.val v'1, .val (.int p2), .val (.int p3), .val (.int p4), .val v'1, .val (.int p6), .val (.int p7), .val (.int p8), .unset]) pn_4 (fun {p e s m below meth c s₁} q hx W hml hZ hown hnm hlk hrt X0 e0 N0 => ?_)
 refine own_iln X0 q d4_0 rfl (own_zy X0 q d4_1 (((if0 _ _).trans (feq ((by decide) : ¬ ((1 : Int32) = (0 : Int32)))).2)) (own_iln X0 q d4_7 rfl (own_k X0 q d4_8 (own_cn X0 q d4_9 ((teq (rfl : (1 : Int32) = (1 : Int32))).2) (own_il X0 q d4_12 rfl (own_k X0 q d4_14 (own_cn X0 q d4_15 ((teq (rfl : (1 : Int32) = (1 : Int32))).2) (own_iln X0 q d4_18 rfl (own_il X0 q d4_19 rfl ?_)))))))))
 refine own_cS X0 q hZ e0 hown hml (W 163 rfl) (W 164 rfl) (W 2 rfl) (W 165 rfl) (rm38 l Z a0 hw p2 p6 (E 0 0) h0 n0 Z0 hE00) d4_21 [(.int p2), (.int p6)] [] own_pd19 0 (by decide) (fun v891 T891 L891 X891 hQ891 => ?_)
 obtain ⟨rfl, N891q, e891⟩ := hQ891
 have N891 := Fr.app N0 N891q
 refine own_nv ?_
 refine own_rI X891 q hrt d4_24 hlk (by decide) ?_
 show QI (Int32.ofNat (own_ord 1 1 E)) h0 n0 _ T891.heap _
 rw [e891]
 exact ⟨rfl, N891, rfl⟩
theorem rm4_12 (l : Launch) (Z : State) (a0 : Array Value) (hw : own_hw a0 Z) (p2 : Int32) (p3 : Int32) (p4 : Int32) (p6 : Int32) (p7 : Int32) (p8 : Int32) (E : Nat → Nat → Bool) (h0 : Heap) (n0 : Nat) (Z0 : n0 ≤ h0.size) (hE00 : E 0 0 = decide (p2 = p6)) (hE01 : E 0 1 = decide (p2 = p7)) :
  own_M l Z [] own_y31 b'4 9 (some .int) ⟨1, 0, 0, 17⟩ #[v'1, (.int p2), (.int p3), (.int p4), v'2, (.int p6), (.int p7), (.int p8)] h0 (QI (Int32.ofNat (own_ord 1 2 E)) h0 n0) := by
 refine own_start (n0 := n0) hw "com/example/conformance_check/conformancecheck/catalogue/EditDistanceWithinPinLaw" (L := #[.val v'1, .val (.int p2), .val (.int p3), .val (.int p4), .val v'2, .val (.int p6), .val (.int p7), .val (.int p8), .unset]) pn_4 (fun {p e s m below meth c s₁} q hx W hml hZ hown hnm hlk hrt X0 e0 N0 => ?_)
 refine own_iln X0 q d4_0 rfl (own_zy X0 q d4_1 (((if0 _ _).trans (feq ((by decide) : ¬ ((1 : Int32) = (0 : Int32)))).2)) (own_iln X0 q d4_7 rfl (own_k X0 q d4_8 (own_cn X0 q d4_9 ((teq (rfl : (1 : Int32) = (1 : Int32))).2) (own_il X0 q d4_12 rfl (own_k X0 q d4_14 (own_cy X0 q d4_15 ((feq ((by decide) : ¬ ((2 : Int32) = (1 : Int32)))).2) (own_il X0 q d4_25 rfl (own_k X0 q d4_27 (own_cn X0 q d4_28 ((teq (rfl : (2 : Int32) = (2 : Int32))).2) (own_k X0 q d4_31 ?_)))))))))))
 refine own_iln X0 q d4_32 rfl (own_il X0 q d4_33 rfl ?_)
 refine own_cS X0 q hZ e0 hown hml (W 163 rfl) (W 164 rfl) (W 2 rfl) (W 165 rfl) (rm38 l Z a0 hw p2 p6 (E 0 0) h0 n0 Z0 hE00) d4_35 [(.int p2), (.int p6)] [v'1] own_pd19 1 (by decide) (fun v895 T895 L895 X895 hQ895 => ?_)
 obtain ⟨rfl, N895q, e895⟩ := hQ895
 have N895 := Fr.app N0 N895q
 refine own_nv (own_iln X895 q d4_38 rfl (own_il X895 q d4_39 rfl ?_))
 refine own_cS X895 q hZ e895 hown hml (W 163 rfl) (W 164 rfl) (W 2 rfl) (W 165 rfl) (rm38 l Z a0 hw p2 p7 (E 0 1) h0 n0 Z0 hE01) d4_41 [(.int p2), (.int p7)] [(.int (Int32.ofNat (if E 0 0 then 0 else 1))), v'1] own_pd19 2 (by decide) (fun v896 T896 L896 X896 hQ896 => ?_)
 obtain ⟨rfl, N896q, e896⟩ := hQ896
 have N896 := Fr.app N895 N896q
 refine own_nv ?_
 refine own_cS X896 q hZ e896 hown hml (W 22 rfl) (W 23 rfl) (W 24 rfl) (W 25 rfl) (rm5 l Z a0 hw (Int32.ofNat (if E 0 0 then 0 else 1)) (Int32.ofNat (if E 0 1 then 0 else 1)) (Int32.ofNat (min (if E 0 0 then 0 else 1) (if E 0 1 then 0 else 1))) h0 n0 Z0 (own_minN (own_ifB _) (own_ifB _))) d4_44 [(.int (Int32.ofNat (if E 0 0 then 0 else 1))), (.int (Int32.ofNat (if E 0 1 then 0 else 1)))] [v'1] own_pd14 1 (by decide) (fun v897 T897 L897 X897 hQ897 => ?_)
 obtain ⟨rfl, N897q, e897⟩ := hQ897
 have N897 := Fr.app N896 N897q
 refine own_nv (own_iadd X897 q d4_47 ?_)
 refine own_rI X897 q hrt d4_48 hlk (by decide) ?_
 show QI (Int32.ofNat (own_ord 1 2 E)) h0 n0 _ T897.heap _
 rw [e897]
 exact ⟨congrArg (fun z => some (Value.int z)) (own_addN 1 _), N897, rfl⟩
theorem rm4_13 (l : Launch) (Z : State) (a0 : Array Value) (hw : own_hw a0 Z) (p2 : Int32) (p3 : Int32) (p4 : Int32) (p6 : Int32) (p7 : Int32) (p8 : Int32) (E : Nat → Nat → Bool) (h0 : Heap) (n0 : Nat) (Z0 : n0 ≤ h0.size) (hE00 : E 0 0 = decide (p2 = p6)) (hE01 : E 0 1 = decide (p2 = p7)) (hE02 : E 0 2 = decide (p2 = p8)) :
  own_M l Z [] own_y31 b'4 9 (some .int) ⟨1, 0, 0, 17⟩ #[v'1, (.int p2), (.int p3), (.int p4), v'3, (.int p6), (.int p7), (.int p8)] h0 (QI (Int32.ofNat (own_ord 1 3 E)) h0 n0) := by
 refine own_start (n0 := n0) hw "com/example/conformance_check/conformancecheck/catalogue/EditDistanceWithinPinLaw" (L := #[.val v'1, .val (.int p2), .val (.int p3), .val (.int p4), .val v'3, .val (.int p6), .val (.int p7), .val (.int p8), .unset]) pn_4 (fun {p e s m below meth c s₁} q hx W hml hZ hown hnm hlk hrt X0 e0 N0 => ?_)
 refine own_iln X0 q d4_0 rfl (own_zy X0 q d4_1 (((if0 _ _).trans (feq ((by decide) : ¬ ((1 : Int32) = (0 : Int32)))).2)) (own_iln X0 q d4_7 rfl (own_k X0 q d4_8 (own_cn X0 q d4_9 ((teq (rfl : (1 : Int32) = (1 : Int32))).2) (own_il X0 q d4_12 rfl (own_k X0 q d4_14 (own_cy X0 q d4_15 ((feq ((by decide) : ¬ ((3 : Int32) = (1 : Int32)))).2) (own_il X0 q d4_25 rfl (own_k X0 q d4_27 (own_cy X0 q d4_28 ((feq ((by decide) : ¬ ((3 : Int32) = (2 : Int32)))).2) (own_iln X0 q d4_49 rfl ?_)))))))))))
 refine own_il X0 q d4_50 rfl ?_
 by_cases hc52_901 : p2 = p6
 ·refine own_cy X0 q d4_52 ((teq hc52_901).1) (own_k X0 q d4_67 (own_gt X0 q d4_68 ?_))
  refine own_rI X0 q hrt d4_72 hlk (by decide) ?_
  show QI (Int32.ofNat (own_ord 1 3 E)) h0 n0 _ s₁.heap _
  rw [e0]
  exact ⟨by rw [show own_ord 1 3 E = if E 0 0 || E 0 1 || E 0 2 then 2 else 3 from rfl, hE00, decide_eq_true hc52_901]; first | rfl | (cases E 0 1 <;> cases E 0 2 <;> rfl) | (cases E 0 2 <;> rfl), N0, rfl⟩
 ·refine own_cn X0 q d4_52 ((feq hc52_901).1) (own_iln X0 q d4_55 rfl (own_il X0 q d4_56 rfl ?_))
  by_cases hc58_902 : p2 = p7
  ·refine own_cy X0 q d4_58 ((teq hc58_902).1) (own_k X0 q d4_67 (own_gt X0 q d4_68 ?_))
   refine own_rI X0 q hrt d4_72 hlk (by decide) ?_
   show QI (Int32.ofNat (own_ord 1 3 E)) h0 n0 _ s₁.heap _
   rw [e0]
   exact ⟨by rw [show own_ord 1 3 E = if E 0 0 || E 0 1 || E 0 2 then 2 else 3 from rfl, hE00, decide_eq_false hc52_901, hE01, decide_eq_true hc58_902]; first | rfl | (cases E 0 1 <;> cases E 0 2 <;> rfl) | (cases E 0 2 <;> rfl), N0, rfl⟩
  ·refine own_cn X0 q d4_58 ((feq hc58_902).1) (own_iln X0 q d4_61 rfl (own_il X0 q d4_62 rfl ?_))
   by_cases hc64_903 : p2 = p8
   ·refine own_cn X0 q d4_64 ((teq hc64_903).2) (own_k X0 q d4_67 (own_gt X0 q d4_68 ?_))
    refine own_rI X0 q hrt d4_72 hlk (by decide) ?_
    show QI (Int32.ofNat (own_ord 1 3 E)) h0 n0 _ s₁.heap _
    rw [e0]
    exact ⟨by rw [show own_ord 1 3 E = if E 0 0 || E 0 1 || E 0 2 then 2 else 3 from rfl, hE00, decide_eq_false hc52_901, hE01, decide_eq_false hc58_902, hE02, decide_eq_true hc64_903]; first | rfl | (cases E 0 1 <;> cases E 0 2 <;> rfl) | (cases E 0 2 <;> rfl), N0, rfl⟩
   ·refine own_cy X0 q d4_64 ((feq hc64_903).2) (own_k X0 q d4_71 ?_)
    refine own_rI X0 q hrt d4_72 hlk (by decide) ?_
    show QI (Int32.ofNat (own_ord 1 3 E)) h0 n0 _ s₁.heap _
    rw [e0]
    exact ⟨by rw [show own_ord 1 3 E = if E 0 0 || E 0 1 || E 0 2 then 2 else 3 from rfl, hE00, decide_eq_false hc52_901, hE01, decide_eq_false hc58_902, hE02, decide_eq_false hc64_903]; first | rfl | (cases E 0 1 <;> cases E 0 2 <;> rfl) | (cases E 0 2 <;> rfl), N0, rfl⟩
theorem rm4_22 (l : Launch) (Z : State) (a0 : Array Value) (hw : own_hw a0 Z) (p2 : Int32) (p3 : Int32) (p4 : Int32) (p6 : Int32) (p7 : Int32) (p8 : Int32) (E : Nat → Nat → Bool) (h0 : Heap) (n0 : Nat) (Z0 : n0 ≤ h0.size) (hE00 : E 0 0 = decide (p2 = p6)) (hE01 : E 0 1 = decide (p2 = p7)) (hE10 : E 1 0 = decide (p3 = p6)) (hE11 : E 1 1 = decide (p3 = p7)) :
  own_M l Z [] own_y31 b'4 9 (some .int) ⟨1, 0, 0, 17⟩ #[v'2, (.int p2), (.int p3), (.int p4), v'2, (.int p6), (.int p7), (.int p8)] h0 (QI (Int32.ofNat (own_ord 2 2 E)) h0 n0) := by
 refine own_start (n0 := n0) hw "com/example/conformance_check/conformancecheck/catalogue/EditDistanceWithinPinLaw" (L := #[.val v'2, .val (.int p2), .val (.int p3), .val (.int p4), .val v'2, .val (.int p6), .val (.int p7), .val (.int p8), .unset]) pn_4 (fun {p e s m below meth c s₁} q hx W hml hZ hown hnm hlk hrt X0 e0 N0 => ?_)
 refine own_iln X0 q d4_0 rfl (own_zy X0 q d4_1 (((if0 _ _).trans (feq ((by decide) : ¬ ((2 : Int32) = (0 : Int32)))).2)) (own_iln X0 q d4_7 rfl (own_k X0 q d4_8 (own_cy X0 q d4_9 ((feq ((by decide) : ¬ ((2 : Int32) = (1 : Int32)))).2) (own_iln X0 q d4_73 rfl (own_k X0 q d4_74 (own_cn X0 q d4_75 ((teq (rfl : (2 : Int32) = (2 : Int32))).2) (own_il X0 q d4_78 rfl (own_k X0 q d4_80 (own_cn X0 q d4_81 ((teq (rfl : (2 : Int32) = (2 : Int32))).2) (own_iln X0 q d4_84 rfl ?_)))))))))))
 refine own_iln X0 q d4_85 rfl (own_il X0 q d4_86 rfl (own_il X0 q d4_88 rfl ?_))
 refine own_cS X0 q hZ e0 hown hml (W 130 rfl) (W 131 rfl) (W 2 rfl) (W 132 rfl) (rm29 l Z a0 hw p2 p3 p6 p7 (E 0 0) (E 0 1) (E 1 0) (E 1 1) h0 n0 Z0 hE00 hE01 hE10 hE11) d4_90 [(.int p2), (.int p3), (.int p6), (.int p7)] [] own_pd20 0 (by decide) (fun v905 T905 L905 X905 hQ905 => ?_)
 obtain ⟨rfl, N905q, e905⟩ := hQ905
 have N905 := Fr.app N0 N905q
 refine own_nv ?_
 refine own_rI X905 q hrt d4_93 hlk (by decide) ?_
 show QI (Int32.ofNat (own_ord 2 2 E)) h0 n0 _ T905.heap _
 rw [e905]
 exact ⟨rfl, N905, rfl⟩
theorem rm4_23 (l : Launch) (Z : State) (a0 : Array Value) (hw : own_hw a0 Z) (p2 : Int32) (p3 : Int32) (p4 : Int32) (p6 : Int32) (p7 : Int32) (p8 : Int32) (E : Nat → Nat → Bool) (h0 : Heap) (n0 : Nat) (Z0 : n0 ≤ h0.size) (hE00 : E 0 0 = decide (p2 = p6)) (hE01 : E 0 1 = decide (p2 = p7)) (hE02 : E 0 2 = decide (p2 = p8)) (hE10 : E 1 0 = decide (p3 = p6)) (hE11 : E 1 1 = decide (p3 = p7)) (hE12 : E 1 2 = decide (p3 = p8)) :
  own_M l Z [] own_y31 b'4 9 (some .int) ⟨1, 0, 0, 17⟩ #[v'2, (.int p2), (.int p3), (.int p4), v'3, (.int p6), (.int p7), (.int p8)] h0 (QI (Int32.ofNat (own_ord 2 3 E)) h0 n0) := by
 refine own_start (n0 := n0) hw "com/example/conformance_check/conformancecheck/catalogue/EditDistanceWithinPinLaw" (L := #[.val v'2, .val (.int p2), .val (.int p3), .val (.int p4), .val v'3, .val (.int p6), .val (.int p7), .val (.int p8), .unset]) pn_4 (fun {p e s m below meth c s₁} q hx W hml hZ hown hnm hlk hrt X0 e0 N0 => ?_)
 refine own_iln X0 q d4_0 rfl (own_zy X0 q d4_1 (((if0 _ _).trans (feq ((by decide) : ¬ ((2 : Int32) = (0 : Int32)))).2)) (own_iln X0 q d4_7 rfl (own_k X0 q d4_8 (own_cy X0 q d4_9 ((feq ((by decide) : ¬ ((2 : Int32) = (1 : Int32)))).2) (own_iln X0 q d4_73 rfl (own_k X0 q d4_74 (own_cn X0 q d4_75 ((teq (rfl : (2 : Int32) = (2 : Int32))).2) (own_il X0 q d4_78 rfl (own_k X0 q d4_80 (own_cy X0 q d4_81 ((feq ((by decide) : ¬ ((3 : Int32) = (2 : Int32)))).2) (own_iln X0 q d4_94 rfl ?_)))))))))))
 refine own_iln X0 q d4_95 rfl (own_il X0 q d4_96 rfl (own_il X0 q d4_98 rfl ?_))
 refine own_cS X0 q hZ e0 hown hml (W 130 rfl) (W 131 rfl) (W 2 rfl) (W 132 rfl) (rm29 l Z a0 hw p2 p3 p7 p8 (E 0 1) (E 0 2) (E 1 1) (E 1 2) h0 n0 Z0 hE01 hE02 hE11 hE12) d4_100 [(.int p2), (.int p3), (.int p7), (.int p8)] [] own_pd20 0 (by decide) (fun v911 T911 L911 X911 hQ911 => ?_)
 obtain ⟨rfl, N911q, e911⟩ := hQ911
 have N911 := Fr.app N0 N911q
 refine own_nv (own_iln X911 q d4_103 rfl (own_iln X911 q d4_104 rfl (own_il X911 q d4_105 rfl (own_il X911 q d4_107 rfl ?_))))
 refine own_cS X911 q hZ e911 hown hml (W 130 rfl) (W 131 rfl) (W 2 rfl) (W 132 rfl) (rm29 l Z a0 hw p2 p3 p6 p8 (E 0 0) (E 0 2) (E 1 0) (E 1 2) h0 n0 Z0 hE00 hE02 hE10 hE12) d4_109 [(.int p2), (.int p3), (.int p6), (.int p8)] [(.int (Int32.ofNat (own_d22 (E 0 1) (E 0 2) (E 1 1) (E 1 2))))] own_pd20 1 (by decide) (fun v912 T912 L912 X912 hQ912 => ?_)
 obtain ⟨rfl, N912q, e912⟩ := hQ912
 have N912 := Fr.app N911 N912q
 refine own_nv (own_iln X912 q d4_112 rfl (own_iln X912 q d4_113 rfl (own_il X912 q d4_114 rfl (own_il X912 q d4_116 rfl ?_))))
 refine own_cS X912 q hZ e912 hown hml (W 130 rfl) (W 131 rfl) (W 2 rfl) (W 132 rfl) (rm29 l Z a0 hw p2 p3 p6 p7 (E 0 0) (E 0 1) (E 1 0) (E 1 1) h0 n0 Z0 hE00 hE01 hE10 hE11) d4_118 [(.int p2), (.int p3), (.int p6), (.int p7)] [(.int (Int32.ofNat (own_d22 (E 0 0) (E 0 2) (E 1 0) (E 1 2)))), (.int (Int32.ofNat (own_d22 (E 0 1) (E 0 2) (E 1 1) (E 1 2))))] own_pd20 2 (by decide) (fun v913 T913 L913 X913 hQ913 => ?_)
 obtain ⟨rfl, N913q, e913⟩ := hQ913
 have N913 := Fr.app N912 N913q
 refine own_nv ?_
 refine own_cS X913 q hZ e913 hown hml (W 22 rfl) (W 23 rfl) (W 24 rfl) (W 25 rfl) (rm5 l Z a0 hw (Int32.ofNat (own_d22 (E 0 0) (E 0 2) (E 1 0) (E 1 2))) (Int32.ofNat (own_d22 (E 0 0) (E 0 1) (E 1 0) (E 1 1))) (Int32.ofNat (min (own_d22 (E 0 0) (E 0 2) (E 1 0) (E 1 2)) (own_d22 (E 0 0) (E 0 1) (E 1 0) (E 1 1)))) h0 n0 Z0 (own_minN (own_d22B _ _ _ _) (own_d22B _ _ _ _))) d4_121 [(.int (Int32.ofNat (own_d22 (E 0 0) (E 0 2) (E 1 0) (E 1 2)))), (.int (Int32.ofNat (own_d22 (E 0 0) (E 0 1) (E 1 0) (E 1 1))))] [(.int (Int32.ofNat (own_d22 (E 0 1) (E 0 2) (E 1 1) (E 1 2))))] own_pd14 1 (by decide) (fun v914 T914 L914 X914 hQ914 => ?_)
 obtain ⟨rfl, N914q, e914⟩ := hQ914
 have N914 := Fr.app N913 N914q
 refine own_nv ?_
 refine own_cS X914 q hZ e914 hown hml (W 22 rfl) (W 23 rfl) (W 24 rfl) (W 25 rfl) (rm5 l Z a0 hw (Int32.ofNat (own_d22 (E 0 1) (E 0 2) (E 1 1) (E 1 2))) (Int32.ofNat (min (own_d22 (E 0 0) (E 0 2) (E 1 0) (E 1 2)) (own_d22 (E 0 0) (E 0 1) (E 1 0) (E 1 1)))) (Int32.ofNat (min (own_d22 (E 0 1) (E 0 2) (E 1 1) (E 1 2)) (min (own_d22 (E 0 0) (E 0 2) (E 1 0) (E 1 2)) (own_d22 (E 0 0) (E 0 1) (E 1 0) (E 1 1))))) h0 n0 Z0 (own_minN (own_d22B _ _ _ _) (Nat.le_trans (Nat.min_le_left _ _) (own_d22B _ _ _ _)))) d4_124 [(.int (Int32.ofNat (own_d22 (E 0 1) (E 0 2) (E 1 1) (E 1 2)))), (.int (Int32.ofNat (min (own_d22 (E 0 0) (E 0 2) (E 1 0) (E 1 2)) (own_d22 (E 0 0) (E 0 1) (E 1 0) (E 1 1)))))] [] own_pd14 0 (by decide) (fun v915 T915 L915 X915 hQ915 => ?_)
 obtain ⟨rfl, N915q, e915⟩ := hQ915
 have N915 := Fr.app N914 N915q
 refine own_nv (own_is X915 q d4_127 (l' := #[.val v'2, .val (.int p2), .val (.int p3), .val (.int p4), .val v'3, .val (.int p6), .val (.int p7), .val (.int p8), .val (.int (Int32.ofNat (min (own_d22 (E 0 1) (E 0 2) (E 1 1) (E 1 2)) (min (own_d22 (E 0 0) (E 0 2) (E 1 0) (E 1 2)) (own_d22 (E 0 0) (E 0 1) (E 1 0) (E 1 1))))))]) rfl (own_k X915 q d4_129 (own_il X915 q d4_130 rfl (own_iadd X915 q d4_132 ?_))))
 refine own_rI X915 q hrt d4_133 hlk (by decide) ?_
 show QI (Int32.ofNat (own_ord 2 3 E)) h0 n0 _ T915.heap _
 rw [e915]
 exact ⟨congrArg (fun z => some (Value.int z)) (own_addN 1 _), N915, rfl⟩
theorem d3_0 : own_D b'3 0 (.iload_n 0) 1 1 := by decide +kernel
theorem d3_1 : own_D b'3 1 (.iload 4) 2 3 := by decide +kernel
theorem d3_3 : own_DJ b'3 3 .le 22 6 := by decide +kernel
theorem d3_6 : own_D b'3 6 (.iload 4) 2 8 := by decide +kernel
theorem d3_8 : own_D b'3 8 (.iload 5) 2 10 := by decide +kernel
theorem d3_10 : own_D b'3 10 (.iload 6) 2 12 := by decide +kernel
theorem d3_12 : own_D b'3 12 (.iload 7) 2 14 := by decide +kernel
theorem d3_14 : own_D b'3 14 (.iload_n 0) 1 15 := by decide +kernel
theorem d3_15 : own_D b'3 15 (.iload_n 1) 1 16 := by decide +kernel
theorem d3_16 : own_D b'3 16 (.iload_n 2) 1 17 := by decide +kernel
theorem d3_17 : own_D b'3 17 (.iload_n 3) 1 18 := by decide +kernel
theorem d3_18 : own_D b'3 18 (.invokestatic 46) 3 21 := by decide +kernel
theorem d3_21 : own_D b'3 21 .ireturn 1 22 := by decide +kernel
theorem d3_22 : own_D b'3 22 (.iload_n 0) 1 23 := by decide +kernel
theorem d3_23 : own_D b'3 23 (.iload_n 1) 1 24 := by decide +kernel
theorem d3_24 : own_D b'3 24 (.iload_n 2) 1 25 := by decide +kernel
theorem d3_25 : own_D b'3 25 (.iload_n 3) 1 26 := by decide +kernel
theorem d3_26 : own_D b'3 26 (.iload 4) 2 28 := by decide +kernel
theorem d3_28 : own_D b'3 28 (.iload 5) 2 30 := by decide +kernel
theorem d3_30 : own_D b'3 30 (.iload 6) 2 32 := by decide +kernel
theorem d3_32 : own_D b'3 32 (.iload 7) 2 34 := by decide +kernel
theorem d3_34 : own_D b'3 34 (.invokestatic 46) 3 37 := by decide +kernel
theorem d3_37 : own_D b'3 37 .ireturn 1 38 := by decide +kernel
theorem pn_3 : plainFor (⟨"com/example/conformance_check/conformancecheck/catalogue/EditDistanceWithinPinLaw", "ref", "(ICCCICCC)I"⟩ : MethodName) = true := plainFor_of_name (by first | (simp [plainName, overriddenIn]; done) | decide +kernel)
theorem rm3_00 (l : Launch) (Z : State) (a0 : Array Value) (hw : own_hw a0 Z) (p2 : Int32) (p3 : Int32) (p4 : Int32) (p6 : Int32) (p7 : Int32) (p8 : Int32) (E : Nat → Nat → Bool) (h0 : Heap) (n0 : Nat) (Z0 : n0 ≤ h0.size) :
  own_M l Z [] own_y32 b'3 8 (some .int) ⟨2, 0, 0, 37⟩ #[v'0, (.int p2), (.int p3), (.int p4), v'0, (.int p6), (.int p7), (.int p8)] h0 (QI (Int32.ofNat (own_refN 0 0 E)) h0 n0) := by
 refine own_start (n0 := n0) hw "com/example/conformance_check/conformancecheck/catalogue/EditDistanceWithinPinLaw" (L := #[.val v'0, .val (.int p2), .val (.int p3), .val (.int p4), .val v'0, .val (.int p6), .val (.int p7), .val (.int p8)]) pn_3 (fun {p e s m below meth c s₁} q hx W hml hZ hown hnm hlk hrt X0 e0 N0 => ?_)
 refine own_iln X0 q d3_0 rfl (own_il X0 q d3_1 rfl (own_cy X0 q d3_3 ((flt (Int32.lt_irrefl : ¬ ((0 : Int32) < (0 : Int32)))).2.2.2) (own_iln X0 q d3_22 rfl (own_iln X0 q d3_23 rfl (own_iln X0 q d3_24 rfl (own_iln X0 q d3_25 rfl (own_il X0 q d3_26 rfl (own_il X0 q d3_28 rfl (own_il X0 q d3_30 rfl (own_il X0 q d3_32 rfl ?_))))))))))
 refine own_cS X0 q hZ e0 hown hml (W 19 rfl) (W 20 rfl) (W 2 rfl) (W 21 rfl) (rm4_00 l Z a0 hw p2 p3 p4 p6 p7 p8 E h0 n0 Z0 ) d3_34 [v'0, (.int p2), (.int p3), (.int p4), v'0, (.int p6), (.int p7), (.int p8)] [] own_pd21 0 (by decide) (fun v947 T947 L947 X947 hQ947 => ?_)
 obtain ⟨rfl, N947q, e947⟩ := hQ947
 have N947 := Fr.app N0 N947q
 refine own_nv ?_
 refine own_rI X947 q hrt d3_37 hlk (by decide) ?_
 show QI (Int32.ofNat (own_refN 0 0 E)) h0 n0 _ T947.heap _
 rw [e947]
 exact ⟨rfl, N947, rfl⟩
theorem rm3_01 (l : Launch) (Z : State) (a0 : Array Value) (hw : own_hw a0 Z) (p2 : Int32) (p3 : Int32) (p4 : Int32) (p6 : Int32) (p7 : Int32) (p8 : Int32) (E : Nat → Nat → Bool) (h0 : Heap) (n0 : Nat) (Z0 : n0 ≤ h0.size) :
  own_M l Z [] own_y32 b'3 8 (some .int) ⟨2, 0, 0, 37⟩ #[v'0, (.int p2), (.int p3), (.int p4), v'1, (.int p6), (.int p7), (.int p8)] h0 (QI (Int32.ofNat (own_refN 0 1 E)) h0 n0) := by
 refine own_start (n0 := n0) hw "com/example/conformance_check/conformancecheck/catalogue/EditDistanceWithinPinLaw" (L := #[.val v'0, .val (.int p2), .val (.int p3), .val (.int p4), .val v'1, .val (.int p6), .val (.int p7), .val (.int p8)]) pn_3 (fun {p e s m below meth c s₁} q hx W hml hZ hown hnm hlk hrt X0 e0 N0 => ?_)
 refine own_iln X0 q d3_0 rfl (own_il X0 q d3_1 rfl (own_cy X0 q d3_3 ((flt ((by decide) : ¬ ((1 : Int32) < (0 : Int32)))).2.2.2) (own_iln X0 q d3_22 rfl (own_iln X0 q d3_23 rfl (own_iln X0 q d3_24 rfl (own_iln X0 q d3_25 rfl (own_il X0 q d3_26 rfl (own_il X0 q d3_28 rfl (own_il X0 q d3_30 rfl (own_il X0 q d3_32 rfl ?_))))))))))
 refine own_cS X0 q hZ e0 hown hml (W 19 rfl) (W 20 rfl) (W 2 rfl) (W 21 rfl) (rm4_01 l Z a0 hw p2 p3 p4 p6 p7 p8 E h0 n0 Z0 ) d3_34 [v'0, (.int p2), (.int p3), (.int p4), v'1, (.int p6), (.int p7), (.int p8)] [] own_pd21 0 (by decide) (fun v949 T949 L949 X949 hQ949 => ?_)
 obtain ⟨rfl, N949q, e949⟩ := hQ949
 have N949 := Fr.app N0 N949q
 refine own_nv ?_
 refine own_rI X949 q hrt d3_37 hlk (by decide) ?_
 show QI (Int32.ofNat (own_refN 0 1 E)) h0 n0 _ T949.heap _
 rw [e949]
 exact ⟨rfl, N949, rfl⟩
theorem rm3_02 (l : Launch) (Z : State) (a0 : Array Value) (hw : own_hw a0 Z) (p2 : Int32) (p3 : Int32) (p4 : Int32) (p6 : Int32) (p7 : Int32) (p8 : Int32) (E : Nat → Nat → Bool) (h0 : Heap) (n0 : Nat) (Z0 : n0 ≤ h0.size) :
  own_M l Z [] own_y32 b'3 8 (some .int) ⟨2, 0, 0, 37⟩ #[v'0, (.int p2), (.int p3), (.int p4), v'2, (.int p6), (.int p7), (.int p8)] h0 (QI (Int32.ofNat (own_refN 0 2 E)) h0 n0) := by
 refine own_start (n0 := n0) hw "com/example/conformance_check/conformancecheck/catalogue/EditDistanceWithinPinLaw" (L := #[.val v'0, .val (.int p2), .val (.int p3), .val (.int p4), .val v'2, .val (.int p6), .val (.int p7), .val (.int p8)]) pn_3 (fun {p e s m below meth c s₁} q hx W hml hZ hown hnm hlk hrt X0 e0 N0 => ?_)
 refine own_iln X0 q d3_0 rfl (own_il X0 q d3_1 rfl (own_cy X0 q d3_3 ((flt ((by decide) : ¬ ((2 : Int32) < (0 : Int32)))).2.2.2) (own_iln X0 q d3_22 rfl (own_iln X0 q d3_23 rfl (own_iln X0 q d3_24 rfl (own_iln X0 q d3_25 rfl (own_il X0 q d3_26 rfl (own_il X0 q d3_28 rfl (own_il X0 q d3_30 rfl (own_il X0 q d3_32 rfl ?_))))))))))
 refine own_cS X0 q hZ e0 hown hml (W 19 rfl) (W 20 rfl) (W 2 rfl) (W 21 rfl) (rm4_02 l Z a0 hw p2 p3 p4 p6 p7 p8 E h0 n0 Z0 ) d3_34 [v'0, (.int p2), (.int p3), (.int p4), v'2, (.int p6), (.int p7), (.int p8)] [] own_pd21 0 (by decide) (fun v951 T951 L951 X951 hQ951 => ?_)
 obtain ⟨rfl, N951q, e951⟩ := hQ951
 have N951 := Fr.app N0 N951q
 refine own_nv ?_
 refine own_rI X951 q hrt d3_37 hlk (by decide) ?_
 show QI (Int32.ofNat (own_refN 0 2 E)) h0 n0 _ T951.heap _
 rw [e951]
 exact ⟨rfl, N951, rfl⟩
theorem rm3_03 (l : Launch) (Z : State) (a0 : Array Value) (hw : own_hw a0 Z) (p2 : Int32) (p3 : Int32) (p4 : Int32) (p6 : Int32) (p7 : Int32) (p8 : Int32) (E : Nat → Nat → Bool) (h0 : Heap) (n0 : Nat) (Z0 : n0 ≤ h0.size) :
  own_M l Z [] own_y32 b'3 8 (some .int) ⟨2, 0, 0, 37⟩ #[v'0, (.int p2), (.int p3), (.int p4), v'3, (.int p6), (.int p7), (.int p8)] h0 (QI (Int32.ofNat (own_refN 0 3 E)) h0 n0) := by
 refine own_start (n0 := n0) hw "com/example/conformance_check/conformancecheck/catalogue/EditDistanceWithinPinLaw" (L := #[.val v'0, .val (.int p2), .val (.int p3), .val (.int p4), .val v'3, .val (.int p6), .val (.int p7), .val (.int p8)]) pn_3 (fun {p e s m below meth c s₁} q hx W hml hZ hown hnm hlk hrt X0 e0 N0 => ?_)
 refine own_iln X0 q d3_0 rfl (own_il X0 q d3_1 rfl (own_cy X0 q d3_3 ((flt ((by decide) : ¬ ((3 : Int32) < (0 : Int32)))).2.2.2) (own_iln X0 q d3_22 rfl (own_iln X0 q d3_23 rfl (own_iln X0 q d3_24 rfl (own_iln X0 q d3_25 rfl (own_il X0 q d3_26 rfl (own_il X0 q d3_28 rfl (own_il X0 q d3_30 rfl (own_il X0 q d3_32 rfl ?_))))))))))
 refine own_cS X0 q hZ e0 hown hml (W 19 rfl) (W 20 rfl) (W 2 rfl) (W 21 rfl) (rm4_03 l Z a0 hw p2 p3 p4 p6 p7 p8 E h0 n0 Z0 ) d3_34 [v'0, (.int p2), (.int p3), (.int p4), v'3, (.int p6), (.int p7), (.int p8)] [] own_pd21 0 (by decide) (fun v953 T953 L953 X953 hQ953 => ?_)
 obtain ⟨rfl, N953q, e953⟩ := hQ953
 have N953 := Fr.app N0 N953q
 refine own_nv ?_
 refine own_rI X953 q hrt d3_37 hlk (by decide) ?_
 show QI (Int32.ofNat (own_refN 0 3 E)) h0 n0 _ T953.heap _
 rw [e953]
 exact ⟨rfl, N953, rfl⟩
theorem rm3_10 (l : Launch) (Z : State) (a0 : Array Value) (hw : own_hw a0 Z) (p2 : Int32) (p3 : Int32) (p4 : Int32) (p6 : Int32) (p7 : Int32) (p8 : Int32) (E : Nat → Nat → Bool) (h0 : Heap) (n0 : Nat) (Z0 : n0 ≤ h0.size) :
  own_M l Z [] own_y32 b'3 8 (some .int) ⟨2, 0, 0, 37⟩ #[v'1, (.int p2), (.int p3), (.int p4), v'0, (.int p6), (.int p7), (.int p8)] h0 (QI (Int32.ofNat (own_refN 1 0 E)) h0 n0) := by
 refine own_start (n0 := n0) hw "com/example/conformance_check/conformancecheck/catalogue/EditDistanceWithinPinLaw" (L := #[.val v'1, .val (.int p2), .val (.int p3), .val (.int p4), .val v'0, .val (.int p6), .val (.int p7), .val (.int p8)]) pn_3 (fun {p e s m below meth c s₁} q hx W hml hZ hown hnm hlk hrt X0 e0 N0 => ?_)
 refine own_iln X0 q d3_0 rfl (own_il X0 q d3_1 rfl (own_cn X0 q d3_3 ((tlt ((by decide) : (0 : Int32) < (1 : Int32))).2.2.2) (own_il X0 q d3_6 rfl (own_il X0 q d3_8 rfl (own_il X0 q d3_10 rfl (own_il X0 q d3_12 rfl (own_iln X0 q d3_14 rfl (own_iln X0 q d3_15 rfl (own_iln X0 q d3_16 rfl (own_iln X0 q d3_17 rfl ?_))))))))))
 refine own_cS X0 q hZ e0 hown hml (W 19 rfl) (W 20 rfl) (W 2 rfl) (W 21 rfl) (rm4_01 l Z a0 hw p6 p7 p8 p2 p3 p4 (fun p q => E q p) h0 n0 Z0 ) d3_18 [v'0, (.int p6), (.int p7), (.int p8), v'1, (.int p2), (.int p3), (.int p4)] [] own_pd21 0 (by decide) (fun v955 T955 L955 X955 hQ955 => ?_)
 obtain ⟨rfl, N955q, e955⟩ := hQ955
 have N955 := Fr.app N0 N955q
 refine own_nv ?_
 refine own_rI X955 q hrt d3_21 hlk (by decide) ?_
 show QI (Int32.ofNat (own_refN 1 0 E)) h0 n0 _ T955.heap _
 rw [e955]
 exact ⟨rfl, N955, rfl⟩
theorem rm3_11 (l : Launch) (Z : State) (a0 : Array Value) (hw : own_hw a0 Z) (p2 : Int32) (p3 : Int32) (p4 : Int32) (p6 : Int32) (p7 : Int32) (p8 : Int32) (E : Nat → Nat → Bool) (h0 : Heap) (n0 : Nat) (Z0 : n0 ≤ h0.size) (hE00 : E 0 0 = decide (p2 = p6)) :
  own_M l Z [] own_y32 b'3 8 (some .int) ⟨2, 0, 0, 37⟩ #[v'1, (.int p2), (.int p3), (.int p4), v'1, (.int p6), (.int p7), (.int p8)] h0 (QI (Int32.ofNat (own_refN 1 1 E)) h0 n0) := by
 refine own_start (n0 := n0) hw "com/example/conformance_check/conformancecheck/catalogue/EditDistanceWithinPinLaw" (L := #[.val v'1, .val (.int p2), .val (.int p3), .val (.int p4), .val v'1, .val (.int p6), .val (.int p7), .val (.int p8)]) pn_3 (fun {p e s m below meth c s₁} q hx W hml hZ hown hnm hlk hrt X0 e0 N0 => ?_)
 refine own_iln X0 q d3_0 rfl (own_il X0 q d3_1 rfl (own_cy X0 q d3_3 ((flt (Int32.lt_irrefl : ¬ ((1 : Int32) < (1 : Int32)))).2.2.2) (own_iln X0 q d3_22 rfl (own_iln X0 q d3_23 rfl (own_iln X0 q d3_24 rfl (own_iln X0 q d3_25 rfl (own_il X0 q d3_26 rfl (own_il X0 q d3_28 rfl (own_il X0 q d3_30 rfl (own_il X0 q d3_32 rfl ?_))))))))))
 refine own_cS X0 q hZ e0 hown hml (W 19 rfl) (W 20 rfl) (W 2 rfl) (W 21 rfl) (rm4_11 l Z a0 hw p2 p3 p4 p6 p7 p8 E h0 n0 Z0 hE00) d3_34 [v'1, (.int p2), (.int p3), (.int p4), v'1, (.int p6), (.int p7), (.int p8)] [] own_pd21 0 (by decide) (fun v957 T957 L957 X957 hQ957 => ?_)
 obtain ⟨rfl, N957q, e957⟩ := hQ957
 have N957 := Fr.app N0 N957q
 refine own_nv ?_
 refine own_rI X957 q hrt d3_37 hlk (by decide) ?_
 show QI (Int32.ofNat (own_refN 1 1 E)) h0 n0 _ T957.heap _
 rw [e957]
 exact ⟨rfl, N957, rfl⟩
theorem rm3_12 (l : Launch) (Z : State) (a0 : Array Value) (hw : own_hw a0 Z) (p2 : Int32) (p3 : Int32) (p4 : Int32) (p6 : Int32) (p7 : Int32) (p8 : Int32) (E : Nat → Nat → Bool) (h0 : Heap) (n0 : Nat) (Z0 : n0 ≤ h0.size) (hE00 : E 0 0 = decide (p2 = p6)) (hE01 : E 0 1 = decide (p2 = p7)) :
  own_M l Z [] own_y32 b'3 8 (some .int) ⟨2, 0, 0, 37⟩ #[v'1, (.int p2), (.int p3), (.int p4), v'2, (.int p6), (.int p7), (.int p8)] h0 (QI (Int32.ofNat (own_refN 1 2 E)) h0 n0) := by
 refine own_start (n0 := n0) hw "com/example/conformance_check/conformancecheck/catalogue/EditDistanceWithinPinLaw" (L := #[.val v'1, .val (.int p2), .val (.int p3), .val (.int p4), .val v'2, .val (.int p6), .val (.int p7), .val (.int p8)]) pn_3 (fun {p e s m below meth c s₁} q hx W hml hZ hown hnm hlk hrt X0 e0 N0 => ?_)
 refine own_iln X0 q d3_0 rfl (own_il X0 q d3_1 rfl (own_cy X0 q d3_3 ((flt ((by decide) : ¬ ((2 : Int32) < (1 : Int32)))).2.2.2) (own_iln X0 q d3_22 rfl (own_iln X0 q d3_23 rfl (own_iln X0 q d3_24 rfl (own_iln X0 q d3_25 rfl (own_il X0 q d3_26 rfl (own_il X0 q d3_28 rfl (own_il X0 q d3_30 rfl (own_il X0 q d3_32 rfl ?_))))))))))
 refine own_cS X0 q hZ e0 hown hml (W 19 rfl) (W 20 rfl) (W 2 rfl) (W 21 rfl) (rm4_12 l Z a0 hw p2 p3 p4 p6 p7 p8 E h0 n0 Z0 hE00 hE01) d3_34 [v'1, (.int p2), (.int p3), (.int p4), v'2, (.int p6), (.int p7), (.int p8)] [] own_pd21 0 (by decide) (fun v959 T959 L959 X959 hQ959 => ?_)
 obtain ⟨rfl, N959q, e959⟩ := hQ959
 have N959 := Fr.app N0 N959q
 refine own_nv ?_
 refine own_rI X959 q hrt d3_37 hlk (by decide) ?_
 show QI (Int32.ofNat (own_refN 1 2 E)) h0 n0 _ T959.heap _
 rw [e959]
 exact ⟨rfl, N959, rfl⟩
theorem rm3_13 (l : Launch) (Z : State) (a0 : Array Value) (hw : own_hw a0 Z) (p2 : Int32) (p3 : Int32) (p4 : Int32) (p6 : Int32) (p7 : Int32) (p8 : Int32) (E : Nat → Nat → Bool) (h0 : Heap) (n0 : Nat) (Z0 : n0 ≤ h0.size) (hE00 : E 0 0 = decide (p2 = p6)) (hE01 : E 0 1 = decide (p2 = p7)) (hE02 : E 0 2 = decide (p2 = p8)) :
  own_M l Z [] own_y32 b'3 8 (some .int) ⟨2, 0, 0, 37⟩ #[v'1, (.int p2), (.int p3), (.int p4), v'3, (.int p6), (.int p7), (.int p8)] h0 (QI (Int32.ofNat (own_refN 1 3 E)) h0 n0) := by
 refine own_start (n0 := n0) hw "com/example/conformance_check/conformancecheck/catalogue/EditDistanceWithinPinLaw" (L := #[.val v'1, .val (.int p2), .val (.int p3), .val (.int p4), .val v'3, .val (.int p6), .val (.int p7), .val (.int p8)]) pn_3 (fun {p e s m below meth c s₁} q hx W hml hZ hown hnm hlk hrt X0 e0 N0 => ?_)
 refine own_iln X0 q d3_0 rfl (own_il X0 q d3_1 rfl (own_cy X0 q d3_3 ((flt ((by decide) : ¬ ((3 : Int32) < (1 : Int32)))).2.2.2) (own_iln X0 q d3_22 rfl (own_iln X0 q d3_23 rfl (own_iln X0 q d3_24 rfl (own_iln X0 q d3_25 rfl (own_il X0 q d3_26 rfl (own_il X0 q d3_28 rfl (own_il X0 q d3_30 rfl (own_il X0 q d3_32 rfl ?_))))))))))
 refine own_cS X0 q hZ e0 hown hml (W 19 rfl) (W 20 rfl) (W 2 rfl) (W 21 rfl) (rm4_13 l Z a0 hw p2 p3 p4 p6 p7 p8 E h0 n0 Z0 hE00 hE01 hE02) d3_34 [v'1, (.int p2), (.int p3), (.int p4), v'3, (.int p6), (.int p7), (.int p8)] [] own_pd21 0 (by decide) (fun v961 T961 L961 X961 hQ961 => ?_)
 obtain ⟨rfl, N961q, e961⟩ := hQ961
 have N961 := Fr.app N0 N961q
 refine own_nv ?_
 refine own_rI X961 q hrt d3_37 hlk (by decide) ?_
 show QI (Int32.ofNat (own_refN 1 3 E)) h0 n0 _ T961.heap _
 rw [e961]
 exact ⟨rfl, N961, rfl⟩
theorem rm3_20 (l : Launch) (Z : State) (a0 : Array Value) (hw : own_hw a0 Z) (p2 : Int32) (p3 : Int32) (p4 : Int32) (p6 : Int32) (p7 : Int32) (p8 : Int32) (E : Nat → Nat → Bool) (h0 : Heap) (n0 : Nat) (Z0 : n0 ≤ h0.size) :
  own_M l Z [] own_y32 b'3 8 (some .int) ⟨2, 0, 0, 37⟩ #[v'2, (.int p2), (.int p3), (.int p4), v'0, (.int p6), (.int p7), (.int p8)] h0 (QI (Int32.ofNat (own_refN 2 0 E)) h0 n0) := by
 refine own_start (n0 := n0) hw "com/example/conformance_check/conformancecheck/catalogue/EditDistanceWithinPinLaw" (L := #[.val v'2, .val (.int p2), .val (.int p3), .val (.int p4), .val v'0, .val (.int p6), .val (.int p7), .val (.int p8)]) pn_3 (fun {p e s m below meth c s₁} q hx W hml hZ hown hnm hlk hrt X0 e0 N0 => ?_)
 refine own_iln X0 q d3_0 rfl (own_il X0 q d3_1 rfl (own_cn X0 q d3_3 ((tlt ((by decide) : (0 : Int32) < (2 : Int32))).2.2.2) (own_il X0 q d3_6 rfl (own_il X0 q d3_8 rfl (own_il X0 q d3_10 rfl (own_il X0 q d3_12 rfl (own_iln X0 q d3_14 rfl (own_iln X0 q d3_15 rfl (own_iln X0 q d3_16 rfl (own_iln X0 q d3_17 rfl ?_))))))))))
 refine own_cS X0 q hZ e0 hown hml (W 19 rfl) (W 20 rfl) (W 2 rfl) (W 21 rfl) (rm4_02 l Z a0 hw p6 p7 p8 p2 p3 p4 (fun p q => E q p) h0 n0 Z0 ) d3_18 [v'0, (.int p6), (.int p7), (.int p8), v'2, (.int p2), (.int p3), (.int p4)] [] own_pd21 0 (by decide) (fun v963 T963 L963 X963 hQ963 => ?_)
 obtain ⟨rfl, N963q, e963⟩ := hQ963
 have N963 := Fr.app N0 N963q
 refine own_nv ?_
 refine own_rI X963 q hrt d3_21 hlk (by decide) ?_
 show QI (Int32.ofNat (own_refN 2 0 E)) h0 n0 _ T963.heap _
 rw [e963]
 exact ⟨rfl, N963, rfl⟩
theorem rm3_21 (l : Launch) (Z : State) (a0 : Array Value) (hw : own_hw a0 Z) (p2 : Int32) (p3 : Int32) (p4 : Int32) (p6 : Int32) (p7 : Int32) (p8 : Int32) (E : Nat → Nat → Bool) (h0 : Heap) (n0 : Nat) (Z0 : n0 ≤ h0.size) (hE00 : E 0 0 = decide (p2 = p6)) (hE10 : E 1 0 = decide (p3 = p6)) :
  own_M l Z [] own_y32 b'3 8 (some .int) ⟨2, 0, 0, 37⟩ #[v'2, (.int p2), (.int p3), (.int p4), v'1, (.int p6), (.int p7), (.int p8)] h0 (QI (Int32.ofNat (own_refN 2 1 E)) h0 n0) := by
 refine own_start (n0 := n0) hw "com/example/conformance_check/conformancecheck/catalogue/EditDistanceWithinPinLaw" (L := #[.val v'2, .val (.int p2), .val (.int p3), .val (.int p4), .val v'1, .val (.int p6), .val (.int p7), .val (.int p8)]) pn_3 (fun {p e s m below meth c s₁} q hx W hml hZ hown hnm hlk hrt X0 e0 N0 => ?_)
 refine own_iln X0 q d3_0 rfl (own_il X0 q d3_1 rfl (own_cn X0 q d3_3 ((tlt ((by decide) : (1 : Int32) < (2 : Int32))).2.2.2) (own_il X0 q d3_6 rfl (own_il X0 q d3_8 rfl (own_il X0 q d3_10 rfl (own_il X0 q d3_12 rfl (own_iln X0 q d3_14 rfl (own_iln X0 q d3_15 rfl (own_iln X0 q d3_16 rfl (own_iln X0 q d3_17 rfl ?_))))))))))
 refine own_cS X0 q hZ e0 hown hml (W 19 rfl) (W 20 rfl) (W 2 rfl) (W 21 rfl) (rm4_12 l Z a0 hw p6 p7 p8 p2 p3 p4 (fun p q => E q p) h0 n0 Z0 (hE00.trans (own_dec _ _)) (hE10.trans (own_dec _ _))) d3_18 [v'1, (.int p6), (.int p7), (.int p8), v'2, (.int p2), (.int p3), (.int p4)] [] own_pd21 0 (by decide) (fun v965 T965 L965 X965 hQ965 => ?_)
 obtain ⟨rfl, N965q, e965⟩ := hQ965
 have N965 := Fr.app N0 N965q
 refine own_nv ?_
 refine own_rI X965 q hrt d3_21 hlk (by decide) ?_
 show QI (Int32.ofNat (own_refN 2 1 E)) h0 n0 _ T965.heap _
 rw [e965]
 exact ⟨rfl, N965, rfl⟩
theorem rm3_22 (l : Launch) (Z : State) (a0 : Array Value) (hw : own_hw a0 Z) (p2 : Int32) (p3 : Int32) (p4 : Int32) (p6 : Int32) (p7 : Int32) (p8 : Int32) (E : Nat → Nat → Bool) (h0 : Heap) (n0 : Nat) (Z0 : n0 ≤ h0.size) (hE00 : E 0 0 = decide (p2 = p6)) (hE01 : E 0 1 = decide (p2 = p7)) (hE10 : E 1 0 = decide (p3 = p6)) (hE11 : E 1 1 = decide (p3 = p7)) :
  own_M l Z [] own_y32 b'3 8 (some .int) ⟨2, 0, 0, 37⟩ #[v'2, (.int p2), (.int p3), (.int p4), v'2, (.int p6), (.int p7), (.int p8)] h0 (QI (Int32.ofNat (own_refN 2 2 E)) h0 n0) := by
 refine own_start (n0 := n0) hw "com/example/conformance_check/conformancecheck/catalogue/EditDistanceWithinPinLaw" (L := #[.val v'2, .val (.int p2), .val (.int p3), .val (.int p4), .val v'2, .val (.int p6), .val (.int p7), .val (.int p8)]) pn_3 (fun {p e s m below meth c s₁} q hx W hml hZ hown hnm hlk hrt X0 e0 N0 => ?_)
 refine own_iln X0 q d3_0 rfl (own_il X0 q d3_1 rfl (own_cy X0 q d3_3 ((flt (Int32.lt_irrefl : ¬ ((2 : Int32) < (2 : Int32)))).2.2.2) (own_iln X0 q d3_22 rfl (own_iln X0 q d3_23 rfl (own_iln X0 q d3_24 rfl (own_iln X0 q d3_25 rfl (own_il X0 q d3_26 rfl (own_il X0 q d3_28 rfl (own_il X0 q d3_30 rfl (own_il X0 q d3_32 rfl ?_))))))))))
 refine own_cS X0 q hZ e0 hown hml (W 19 rfl) (W 20 rfl) (W 2 rfl) (W 21 rfl) (rm4_22 l Z a0 hw p2 p3 p4 p6 p7 p8 E h0 n0 Z0 hE00 hE01 hE10 hE11) d3_34 [v'2, (.int p2), (.int p3), (.int p4), v'2, (.int p6), (.int p7), (.int p8)] [] own_pd21 0 (by decide) (fun v967 T967 L967 X967 hQ967 => ?_)
 obtain ⟨rfl, N967q, e967⟩ := hQ967
 have N967 := Fr.app N0 N967q
 refine own_nv ?_
 refine own_rI X967 q hrt d3_37 hlk (by decide) ?_
 show QI (Int32.ofNat (own_refN 2 2 E)) h0 n0 _ T967.heap _
 rw [e967]
 exact ⟨rfl, N967, rfl⟩
theorem rm3_23 (l : Launch) (Z : State) (a0 : Array Value) (hw : own_hw a0 Z) (p2 : Int32) (p3 : Int32) (p4 : Int32) (p6 : Int32) (p7 : Int32) (p8 : Int32) (E : Nat → Nat → Bool) (h0 : Heap) (n0 : Nat) (Z0 : n0 ≤ h0.size) (hE00 : E 0 0 = decide (p2 = p6)) (hE01 : E 0 1 = decide (p2 = p7)) (hE02 : E 0 2 = decide (p2 = p8)) (hE10 : E 1 0 = decide (p3 = p6)) (hE11 : E 1 1 = decide (p3 = p7)) (hE12 : E 1 2 = decide (p3 = p8)) :
  own_M l Z [] own_y32 b'3 8 (some .int) ⟨2, 0, 0, 37⟩ #[v'2, (.int p2), (.int p3), (.int p4), v'3, (.int p6), (.int p7), (.int p8)] h0 (QI (Int32.ofNat (own_refN 2 3 E)) h0 n0) := by
 refine own_start (n0 := n0) hw "com/example/conformance_check/conformancecheck/catalogue/EditDistanceWithinPinLaw" (L := #[.val v'2, .val (.int p2), .val (.int p3), .val (.int p4), .val v'3, .val (.int p6), .val (.int p7), .val (.int p8)]) pn_3 (fun {p e s m below meth c s₁} q hx W hml hZ hown hnm hlk hrt X0 e0 N0 => ?_)
 refine own_iln X0 q d3_0 rfl (own_il X0 q d3_1 rfl (own_cy X0 q d3_3 ((flt ((by decide) : ¬ ((3 : Int32) < (2 : Int32)))).2.2.2) (own_iln X0 q d3_22 rfl (own_iln X0 q d3_23 rfl (own_iln X0 q d3_24 rfl (own_iln X0 q d3_25 rfl (own_il X0 q d3_26 rfl (own_il X0 q d3_28 rfl (own_il X0 q d3_30 rfl (own_il X0 q d3_32 rfl ?_))))))))))
 refine own_cS X0 q hZ e0 hown hml (W 19 rfl) (W 20 rfl) (W 2 rfl) (W 21 rfl) (rm4_23 l Z a0 hw p2 p3 p4 p6 p7 p8 E h0 n0 Z0 hE00 hE01 hE02 hE10 hE11 hE12) d3_34 [v'2, (.int p2), (.int p3), (.int p4), v'3, (.int p6), (.int p7), (.int p8)] [] own_pd21 0 (by decide) (fun v969 T969 L969 X969 hQ969 => ?_)
 obtain ⟨rfl, N969q, e969⟩ := hQ969
 have N969 := Fr.app N0 N969q
 refine own_nv ?_
 refine own_rI X969 q hrt d3_37 hlk (by decide) ?_
 show QI (Int32.ofNat (own_refN 2 3 E)) h0 n0 _ T969.heap _
 rw [e969]
 exact ⟨rfl, N969, rfl⟩
theorem rm3_30 (l : Launch) (Z : State) (a0 : Array Value) (hw : own_hw a0 Z) (p2 : Int32) (p3 : Int32) (p4 : Int32) (p6 : Int32) (p7 : Int32) (p8 : Int32) (E : Nat → Nat → Bool) (h0 : Heap) (n0 : Nat) (Z0 : n0 ≤ h0.size) :
  own_M l Z [] own_y32 b'3 8 (some .int) ⟨2, 0, 0, 37⟩ #[v'3, (.int p2), (.int p3), (.int p4), v'0, (.int p6), (.int p7), (.int p8)] h0 (QI (Int32.ofNat (own_refN 3 0 E)) h0 n0) := by
 refine own_start (n0 := n0) hw "com/example/conformance_check/conformancecheck/catalogue/EditDistanceWithinPinLaw" (L := #[.val v'3, .val (.int p2), .val (.int p3), .val (.int p4), .val v'0, .val (.int p6), .val (.int p7), .val (.int p8)]) pn_3 (fun {p e s m below meth c s₁} q hx W hml hZ hown hnm hlk hrt X0 e0 N0 => ?_)
 refine own_iln X0 q d3_0 rfl (own_il X0 q d3_1 rfl (own_cn X0 q d3_3 ((tlt ((by decide) : (0 : Int32) < (3 : Int32))).2.2.2) (own_il X0 q d3_6 rfl (own_il X0 q d3_8 rfl (own_il X0 q d3_10 rfl (own_il X0 q d3_12 rfl (own_iln X0 q d3_14 rfl (own_iln X0 q d3_15 rfl (own_iln X0 q d3_16 rfl (own_iln X0 q d3_17 rfl ?_))))))))))
 refine own_cS X0 q hZ e0 hown hml (W 19 rfl) (W 20 rfl) (W 2 rfl) (W 21 rfl) (rm4_03 l Z a0 hw p6 p7 p8 p2 p3 p4 (fun p q => E q p) h0 n0 Z0 ) d3_18 [v'0, (.int p6), (.int p7), (.int p8), v'3, (.int p2), (.int p3), (.int p4)] [] own_pd21 0 (by decide) (fun v971 T971 L971 X971 hQ971 => ?_)
 obtain ⟨rfl, N971q, e971⟩ := hQ971
 have N971 := Fr.app N0 N971q
 refine own_nv ?_
 refine own_rI X971 q hrt d3_21 hlk (by decide) ?_
 show QI (Int32.ofNat (own_refN 3 0 E)) h0 n0 _ T971.heap _
 rw [e971]
 exact ⟨rfl, N971, rfl⟩
theorem rm3_31 (l : Launch) (Z : State) (a0 : Array Value) (hw : own_hw a0 Z) (p2 : Int32) (p3 : Int32) (p4 : Int32) (p6 : Int32) (p7 : Int32) (p8 : Int32) (E : Nat → Nat → Bool) (h0 : Heap) (n0 : Nat) (Z0 : n0 ≤ h0.size) (hE00 : E 0 0 = decide (p2 = p6)) (hE10 : E 1 0 = decide (p3 = p6)) (hE20 : E 2 0 = decide (p4 = p6)) :
  own_M l Z [] own_y32 b'3 8 (some .int) ⟨2, 0, 0, 37⟩ #[v'3, (.int p2), (.int p3), (.int p4), v'1, (.int p6), (.int p7), (.int p8)] h0 (QI (Int32.ofNat (own_refN 3 1 E)) h0 n0) := by
 refine own_start (n0 := n0) hw "com/example/conformance_check/conformancecheck/catalogue/EditDistanceWithinPinLaw" (L := #[.val v'3, .val (.int p2), .val (.int p3), .val (.int p4), .val v'1, .val (.int p6), .val (.int p7), .val (.int p8)]) pn_3 (fun {p e s m below meth c s₁} q hx W hml hZ hown hnm hlk hrt X0 e0 N0 => ?_)
 refine own_iln X0 q d3_0 rfl (own_il X0 q d3_1 rfl (own_cn X0 q d3_3 ((tlt ((by decide) : (1 : Int32) < (3 : Int32))).2.2.2) (own_il X0 q d3_6 rfl (own_il X0 q d3_8 rfl (own_il X0 q d3_10 rfl (own_il X0 q d3_12 rfl (own_iln X0 q d3_14 rfl (own_iln X0 q d3_15 rfl (own_iln X0 q d3_16 rfl (own_iln X0 q d3_17 rfl ?_))))))))))
 refine own_cS X0 q hZ e0 hown hml (W 19 rfl) (W 20 rfl) (W 2 rfl) (W 21 rfl) (rm4_13 l Z a0 hw p6 p7 p8 p2 p3 p4 (fun p q => E q p) h0 n0 Z0 (hE00.trans (own_dec _ _)) (hE10.trans (own_dec _ _)) (hE20.trans (own_dec _ _))) d3_18 [v'1, (.int p6), (.int p7), (.int p8), v'3, (.int p2), (.int p3), (.int p4)] [] own_pd21 0 (by decide) (fun v973 T973 L973 X973 hQ973 => ?_)
 obtain ⟨rfl, N973q, e973⟩ := hQ973
 have N973 := Fr.app N0 N973q
 refine own_nv ?_
 refine own_rI X973 q hrt d3_21 hlk (by decide) ?_
 show QI (Int32.ofNat (own_refN 3 1 E)) h0 n0 _ T973.heap _
 rw [e973]
 exact ⟨rfl, N973, rfl⟩
theorem rm3_32 (l : Launch) (Z : State) (a0 : Array Value) (hw : own_hw a0 Z) (p2 : Int32) (p3 : Int32) (p4 : Int32) (p6 : Int32) (p7 : Int32) (p8 : Int32) (E : Nat → Nat → Bool) (h0 : Heap) (n0 : Nat) (Z0 : n0 ≤ h0.size) (hE00 : E 0 0 = decide (p2 = p6)) (hE01 : E 0 1 = decide (p2 = p7)) (hE10 : E 1 0 = decide (p3 = p6)) (hE11 : E 1 1 = decide (p3 = p7)) (hE20 : E 2 0 = decide (p4 = p6)) (hE21 : E 2 1 = decide (p4 = p7)) :
  own_M l Z [] own_y32 b'3 8 (some .int) ⟨2, 0, 0, 37⟩ #[v'3, (.int p2), (.int p3), (.int p4), v'2, (.int p6), (.int p7), (.int p8)] h0 (QI (Int32.ofNat (own_refN 3 2 E)) h0 n0) := by
 refine own_start (n0 := n0) hw "com/example/conformance_check/conformancecheck/catalogue/EditDistanceWithinPinLaw" (L := #[.val v'3, .val (.int p2), .val (.int p3), .val (.int p4), .val v'2, .val (.int p6), .val (.int p7), .val (.int p8)]) pn_3 (fun {p e s m below meth c s₁} q hx W hml hZ hown hnm hlk hrt X0 e0 N0 => ?_)
 refine own_iln X0 q d3_0 rfl (own_il X0 q d3_1 rfl (own_cn X0 q d3_3 ((tlt ((by decide) : (2 : Int32) < (3 : Int32))).2.2.2) (own_il X0 q d3_6 rfl (own_il X0 q d3_8 rfl (own_il X0 q d3_10 rfl (own_il X0 q d3_12 rfl (own_iln X0 q d3_14 rfl (own_iln X0 q d3_15 rfl (own_iln X0 q d3_16 rfl (own_iln X0 q d3_17 rfl ?_))))))))))
 refine own_cS X0 q hZ e0 hown hml (W 19 rfl) (W 20 rfl) (W 2 rfl) (W 21 rfl) (rm4_23 l Z a0 hw p6 p7 p8 p2 p3 p4 (fun p q => E q p) h0 n0 Z0 (hE00.trans (own_dec _ _)) (hE10.trans (own_dec _ _)) (hE20.trans (own_dec _ _)) (hE01.trans (own_dec _ _)) (hE11.trans (own_dec _ _)) (hE21.trans (own_dec _ _))) d3_18 [v'2, (.int p6), (.int p7), (.int p8), v'3, (.int p2), (.int p3), (.int p4)] [] own_pd21 0 (by decide) (fun v975 T975 L975 X975 hQ975 => ?_)
 obtain ⟨rfl, N975q, e975⟩ := hQ975
 have N975 := Fr.app N0 N975q
 refine own_nv ?_
 refine own_rI X975 q hrt d3_21 hlk (by decide) ?_
 show QI (Int32.ofNat (own_refN 3 2 E)) h0 n0 _ T975.heap _
 rw [e975]
 exact ⟨rfl, N975, rfl⟩
theorem d16_0 : own_D b'16 0 (.iload_n 0) 1 1 := by decide +kernel
theorem d16_1 : own_DK b'16 1 255 4 := by decide +kernel
theorem d16_4 : own_DJ b'16 4 .gt 11 7 := by decide +kernel
theorem d16_7 : own_DK b'16 7 1 8 := by decide +kernel
theorem d16_8 : own_DG b'16 8 12 := by decide +kernel
theorem d16_11 : own_DK b'16 11 0 12 := by decide +kernel
theorem d16_12 : own_D b'16 12 .ireturn 1 13 := by decide +kernel
theorem pn_16 : plainFor (⟨"java/lang/StringLatin1", "canEncode", "(C)Z"⟩ : MethodName) = true := plainFor_of_name (by first | (simp [plainName, overriddenIn]; done) | decide +kernel)
theorem rm16 (l : Launch) (Z : State) (a0 : Array Value) (hw : own_hw a0 Z) (p1 : Int32) (z : Int32) (h0 : Heap) (n0 : Nat) (Z0 : n0 ≤ h0.size) (hz : (if (255 : Int32) < p1 then 0 else 1) = z) :
  own_M l Z [] own_y33 b'16 1 (some .boolean) ⟨0, 0, 0, 0⟩ #[(.int p1)] h0 (QI z h0 n0) := by
 refine own_start (n0 := n0) hw "java/lang/StringLatin1" (L := #[.val (.int p1)]) pn_16 (fun {p e s m below meth c s₁} q hx W hml hZ hown hnm hlk hrt X0 e0 N0 => ?_)
 refine own_iln X0 q d16_0 rfl (own_k X0 q d16_1 ?_)
 by_cases hc4_977 : (255 : Int32) < p1
 ·refine own_cy X0 q d16_4 ((tlt hc4_977).2.2.1) (own_k X0 q d16_11 ?_)
  refine own_rN X0 q hrt (by simp) d16_12 hlk (by decide) ?_
  show QI z h0 n0 _ s₁.heap _
  rw [e0]
  exact ⟨by rw [← hz]; simp [hc4_977]; try rfl, N0, rfl⟩
 ·refine own_cn X0 q d16_4 ((flt hc4_977).2.2.1) (own_k X0 q d16_7 (own_gt X0 q d16_8 ?_))
  refine own_rN X0 q hrt (by simp) d16_12 hlk (by decide) ?_
  show QI z h0 n0 _ s₁.heap _
  rw [e0]
  exact ⟨by rw [← hz]; simp [hc4_977]; try rfl, N0, rfl⟩
theorem d17_0 : own_DK b'17 0 1 1 := by decide +kernel
theorem d17_1 : own_D b'17 1 (.newarray .byte) 2 3 := by decide +kernel
theorem d17_3 : own_D b'17 3 .dup 1 4 := by decide +kernel
theorem d17_4 : own_DK b'17 4 0 5 := by decide +kernel
theorem d17_5 : own_D b'17 5 (.iload_n 0) 1 6 := by decide +kernel
theorem d17_6 : own_D b'17 6 .i2b 1 7 := by decide +kernel
theorem d17_7 : own_D b'17 7 .bastore 1 8 := by decide +kernel
theorem d17_8 : own_D b'17 8 .areturn 1 9 := by decide +kernel
theorem pn_17 : plainFor (⟨"java/lang/StringLatin1", "toBytes", "(C)[B"⟩ : MethodName) = true := plainFor_of_name (by first | (simp [plainName, overriddenIn]; done) | decide +kernel)
theorem rm17 (l : Launch) (Z : State) (a0 : Array Value) (hw : own_hw a0 Z) (p1 : Int32)  (h0 : Heap) (n0 : Nat) (Z0 : n0 ≤ h0.size) :
  own_M l Z [] own_y34 b'17 1 (some (.array .byte)) ⟨0, 1, 1, 0⟩ #[(.int p1)] h0 (QB1 Z [(.int (nar .byte (p1.toInt8.toInt32)))] (1 : Int32) h0 n0) := by
 refine own_start (n0 := n0) hw "java/lang/StringLatin1" (L := #[.val (.int p1)]) pn_17 (fun {p e s m below meth c s₁} q hx W hml hZ hown hnm hlk hrt X0 e0 N0 => ?_)
 have kp0 := Keep.refl h0 []
 refine own_k X0 q d17_0 ?_
 refine own_let ?_; intro g983_
 obtain ⟨T984, h984, k984, X984, e984, E984, A984, st984⟩ := newP X0 hx hZ (W 11 rfl) e0 (g := g983_) rfl (q.d d17_1) rfl (by decide) (cap := 1) (by decide) (by decide) (by decide) (by decide)
 obtain ⟨b984, g984⟩ : ∃ z, z = h0.size := ⟨_, rfl⟩
 rw [← g984] at A984 st984
 have V984 : Arv Z h984 b984 k984 .byte (1 : Int32) [v'0] v'0 := (Arv.new A984 (by decide)).pad (pad_rep [] v'0 1)
 have zs985 := Nat.le_trans Z0 E984.1
 have kp985 := kp0.ext E984
 have g_b984 : n0 ≤ b984 := Nat.le_trans Z0 (Nat.le_of_eq g984.symm)
 have sz_b984 : h0.size ≤ b984 := Nat.le_trans kp0.1 (Nat.le_of_eq g984.symm)
 refine own_stp 3 st984 (own_dp X984 q d17_3 rfl (own_k X984 q d17_4 (own_iln X984 q d17_5 rfl (own_stp 7 (fun _ k => XS.i2b X984.here hx rfl (q.d d17_6) rfl k) ?_))))
 refine own_bst X984 q hZ e984 V984 d17_7 (by decide) (Nat.le_of_ble_eq_true rfl) N0 g_b984 fun T986 h986 X986 e986 W986 V986 N986 => ?_
 have zs987 := Nat.le_trans zs985 (Keep.of_wr W986).1
 have kp987 := kp985.wr W986 (Or.inr sz_b984)
 refine own_rA X986 q hrt d17_8 hlk (by decide) ?_
 show QB1 Z [(.int (nar .byte (p1.toInt8.toInt32)))] (1 : Int32) h0 n0 _ T986.heap _
 rw [e986]
 exact ⟨_, _, rfl, N986, own_extK kp987, sz_b984, V986⟩
theorem d40_0 : own_DK b'40 0 2 1 := by decide +kernel
theorem d40_1 : own_D b'40 1 (.newarray .byte) 2 3 := by decide +kernel
theorem d40_3 : own_D b'40 3 (.astore_n 1) 1 4 := by decide +kernel
theorem d40_4 : own_D b'40 4 (.aload_n 1) 1 5 := by decide +kernel
theorem d40_5 : own_DK b'40 5 0 6 := by decide +kernel
theorem d40_6 : own_D b'40 6 (.iload_n 0) 1 7 := by decide +kernel
theorem d40_7 : own_D b'40 7 (.invokestatic 111) 3 10 := by decide +kernel
theorem d40_10 : own_D b'40 10 (.aload_n 1) 1 11 := by decide +kernel
theorem d40_11 : own_D b'40 11 .areturn 1 12 := by decide +kernel
theorem pn_40 : plainFor (⟨"java/lang/StringUTF16", "toBytes", "(C)[B"⟩ : MethodName) = true := plainFor_of_name (by first | (simp [plainName, overriddenIn]; done) | decide +kernel)
theorem rm40 (l : Launch) (Z : State) (a0 : Array Value) (hw : own_hw a0 Z) (p1 : Int32)  (h0 : Heap) (n0 : Nat) (Z0 : n0 ≤ h0.size) (O0 : Old Z n0 h0) (SU_ : own_SU Z) :
  own_M l Z [] own_y35 b'40 2 (some (.array .byte)) ⟨1, 1, 2, 14⟩ #[(.int p1)] h0 (QB1 Z [(.int (nar .byte ((p1 >>> ((0 : Int32) &&& 31)).toInt8.toInt32))), (.int (nar .byte ((p1 >>> ((8 : Int32) &&& 31)).toInt8.toInt32)))] (2 : Int32) h0 n0) := by
 obtain ⟨SAD, SHI, SLO⟩ := SU_
 refine own_start (n0 := n0) hw "java/lang/StringUTF16" (L := #[.val (.int p1), .unset]) pn_40 (fun {p e s m below meth c s₁} q hx W hml hZ hown hnm hlk hrt X0 e0 N0 => ?_)
 have kp0 := Keep.refl h0 []
 refine own_k X0 q d40_0 ?_
 refine own_let ?_; intro g993_
 obtain ⟨T994, h994, k994, X994, e994, E994, A994, st994⟩ := newP X0 hx hZ (W 11 rfl) e0 (g := g993_) rfl (q.d d40_1) rfl (by decide) (cap := 2) (by decide) (by decide) (by decide) (by decide)
 obtain ⟨b994, g994⟩ : ∃ z, z = h0.size := ⟨_, rfl⟩
 rw [← g994] at A994 st994
 have V994 : Arv Z h994 b994 k994 .byte (2 : Int32) [v'0, v'0] v'0 := (Arv.new A994 (by decide)).pad (pad_rep [] v'0 2)
 have zs995 := Nat.le_trans Z0 E994.1
 have od995 := O0.ext E994
 have kp995 := kp0.ext E994
 have g_b994 : n0 ≤ b994 := Nat.le_trans Z0 (Nat.le_of_eq g994.symm)
 have sz_b994 : h0.size ≤ b994 := Nat.le_trans kp0.1 (Nat.le_of_eq g994.symm)
 refine own_stp 3 st994 (own_asn X994 q d40_3 rfl (l' := #[.val (.int p1), .val (.ref b994)]) rfl (own_aln X994 q d40_4 rfl rfl (own_k X994 q d40_5 (own_iln X994 q d40_6 rfl ?_))))
 refine own_cSh X994 q hZ e994 hown hml (W 121 rfl) (W 122 rfl) (W 103 rfl) (W 123 rfl) (rm27 l Z a0 hw b994 (0 : Int32) p1 k994 _ 2 0 h994 n0 zs995 od995 ⟨SAD, SHI, SLO⟩ V994 rfl (by decide) (by decide) rfl g_b994) d40_7 [(.ref b994), v'0, (.int p1)] [] own_pd2 0 (by decide) (fun v996 T996 L996 h996 e996' X996 hQ996 => ?_)
 obtain ⟨rfl, N996q, K996, V996⟩ := hQ996
 have N996 := Fr.app N0 N996q
 have zs997 := Nat.le_trans zs995 K996.1
 have od997 := od995.keep K996 (allS g_b994 all0)
 have kp997 := kp995.trans K996 (allS (Or.inr sz_b994) all0)
 refine own_nn (own_aln X996 q d40_10 rfl rfl ?_)
 refine own_rA X996 q hrt d40_11 hlk (by decide) ?_
 show QB1 Z [(.int (nar .byte ((p1 >>> ((0 : Int32) &&& 31)).toInt8.toInt32))), (.int (nar .byte ((p1 >>> ((8 : Int32) &&& 31)).toInt8.toInt32)))] (2 : Int32) h0 n0 _ T996.heap _
 rw [e996']
 exact ⟨_, _, rfl, N996, own_extK kp997, sz_b994, V996⟩
theorem d18_0 : own_D b'18 0 (.aload_n 0) 1 1 := by decide +kernel
theorem d18_1 : own_D b'18 1 (.invokespecial 1) 3 4 := by decide +kernel
theorem d18_4 : own_D b'18 4 (.aload_n 0) 1 5 := by decide +kernel
theorem d18_5 : own_D b'18 5 (.aload_n 1) 1 6 := by decide +kernel
theorem d18_6 : own_D b'18 6 (.putfield 9) 3 9 := by decide +kernel
theorem d18_9 : own_D b'18 9 (.aload_n 0) 1 10 := by decide +kernel
theorem d18_10 : own_D b'18 10 (.iload_n 2) 1 11 := by decide +kernel
theorem d18_11 : own_D b'18 11 (.putfield 15) 3 14 := by decide +kernel
theorem d18_14 : own_D b'18 14 .return_ 1 15 := by decide +kernel
theorem pn_18 : plainFor (⟨"java/lang/String", "<init>", "([BB)V"⟩ : MethodName) = true := plainFor_of_name (by first | (simp [plainName, overriddenIn]; done) | decide +kernel)
theorem rm18 (l : Launch) (Z : State) (a0 : Array Value) (hw : own_hw a0 Z) (a1 : Addr) (a2 : Addr) (p3 : Int32)  (h0 : Heap) (n0 : Nat) (Z0 : n0 ≤ h0.size) (E1 : Exa Z h0 a1 "java/lang/String") (F_0 : F'1 Z h0 a1 .null) (F_1 : F'0 Z h0 a1 v'0) (g1 : n0 ≤ a1) :
  own_M l Z [] own_y36 b'18 3 none ⟨1, 0, 0, 12⟩ #[(.ref a1), (.ref a2), (.int p3)] h0 (QC18 Z a1 a2 p3 h0 n0) := by
 refine own_start (n0 := n0) hw "java/lang/String" (L := #[.val (.ref a1), .val (.ref a2), .val (.int p3)]) pn_18 (fun {p e s m below meth c s₁} q hx W hml hZ hown hnm hlk hrt X0 e0 N0 => ?_)
 have kp0 := Keep.refl h0 [a1]
 refine own_aln X0 q d18_0 rfl rfl ?_
 refine own_let ?_; intro g1006_
 obtain ⟨T1007, X1007, e1007, st1007⟩ := initO X0 hx hZ hown (W 92 rfl) (W 53 rfl) (W 54 rfl) e0 (g := g1006_) rfl (by rw [hml]; rfl) rfl (q.d d18_1) (by decide) (W := 0) (by show 2 * 0 + _ ≤ _; exact Nat.le_of_eq rfl) (by decide)
 refine own_stp 4 st1007 (own_aln X1007 q d18_4 rfl rfl (own_aln X1007 q d18_5 rfl rfl ?_))
 refine own_let ?_; intro g1008_
 obtain ⟨T1009, h1009, X1009, e1009, W1009, st1009⟩ := putF X1007 hx hZ hown (host := "") (Or.inl (W 35 rfl)) Via.refl e1007 F_0 E1 (Or.inr ⟨(W 12 rfl), rfl, hnm⟩) (W 10 rfl) (ty := (.array .byte)) (by decide) rfl rfl (g := g1008_) rfl rfl (q.d d18_6)
 have zs1010 := Nat.le_trans Z0 (Keep.of_wr W1009).1
 have kp1010 := kp0.wr W1009 (own_i0)
 have Fw1009 := (F_0).same W1009
 have N1009 := Fr.snoc X1009 N0 g1
 refine own_stp 9 st1009 (own_aln X1009 q d18_9 rfl rfl (own_iln X1009 q d18_10 rfl ?_))
 refine own_let ?_; intro g1011_
 obtain ⟨T1012, h1012, X1012, e1012, W1012, st1012⟩ := putFN X1009 hx hZ hown (W 42 rfl) Via.refl e1009 (F_1.other W1009 (Or.inr (slot_ne (Or.inr (W 13 rfl)) (Or.inr (W 12 rfl)) (by decide) (t := .byte) (t' := (.array .byte)) (by decide) (by decide)))) (E1.wr W1009) (Or.inr ⟨(W 13 rfl), rfl, hnm⟩) (W 10 rfl) (ty := .byte) (v' := (.int (nar .byte p3))) (by decide) rfl (fits_nar_byte _) (g := g1011_) rfl rfl (q.d d18_11)
 have zs1013 := Nat.le_trans zs1010 (Keep.of_wr W1012).1
 have kp1013 := kp1010.wr W1012 (own_i0)
 have Fw1012 := ((F_1.other W1009 (Or.inr (slot_ne (Or.inr (W 13 rfl)) (Or.inr (W 12 rfl)) (by decide) (t := .byte) (t' := (.array .byte)) (by decide) (by decide))))).same W1012
 have N1012 := Fr.snoc X1012 N1009 g1
 refine own_stp 14 st1012 ?_
 refine own_rV X1012 q hrt d18_14 hlk (by decide) ?_
 show QC18 Z a1 a2 p3 h0 n0 _ T1012.heap _
 rw [e1012]
 exact ⟨rfl, N1012, kp1013, (Fw1009.other W1012 (Or.inr (slot_ne (Or.inr (W 12 rfl)) (Or.inr (W 13 rfl)) (by decide) (t := (.array .byte)) (t' := .byte) (by decide) (by decide)))), Fw1012⟩
theorem d15_0 : own_D b'15 0 (.getstatic 38) 3 3 := by decide +kernel
theorem d15_3 : own_DZ b'15 3 .eq 26 6 := by decide +kernel
theorem d15_6 : own_D b'15 6 (.iload_n 0) 1 7 := by decide +kernel
theorem d15_7 : own_D b'15 7 (.invokestatic 1015) 3 10 := by decide +kernel
theorem d15_10 : own_DZ b'15 10 .eq 26 13 := by decide +kernel
theorem d15_13 : own_D b'15 13 (.new 10) 3 16 := by decide +kernel
theorem d15_16 : own_D b'15 16 .dup 1 17 := by decide +kernel
theorem d15_17 : own_D b'15 17 (.iload_n 0) 1 18 := by decide +kernel
theorem d15_18 : own_D b'15 18 (.invokestatic 1018) 3 21 := by decide +kernel
theorem d15_21 : own_DK b'15 21 0 22 := by decide +kernel
theorem d15_22 : own_D b'15 22 (.invokespecial 209) 3 25 := by decide +kernel
theorem d15_25 : own_D b'15 25 .areturn 1 26 := by decide +kernel
theorem d15_26 : own_D b'15 26 (.new 10) 3 29 := by decide +kernel
theorem d15_29 : own_D b'15 29 .dup 1 30 := by decide +kernel
theorem d15_30 : own_D b'15 30 (.iload_n 0) 1 31 := by decide +kernel
theorem d15_31 : own_D b'15 31 (.invokestatic 1021) 3 34 := by decide +kernel
theorem d15_34 : own_DK b'15 34 1 35 := by decide +kernel
theorem d15_35 : own_D b'15 35 (.invokespecial 209) 3 38 := by decide +kernel
theorem d15_38 : own_D b'15 38 .areturn 1 39 := by decide +kernel
theorem pn_15 : plainFor (⟨"java/lang/String", "valueOf", "(C)Ljava/lang/String;"⟩ : MethodName) = true := plainFor_of_name (by first | (simp [plainName, overriddenIn]; done) | decide +kernel)
theorem rm15 (l : Launch) (Z : State) (a0 : Array Value) (hw : own_hw a0 Z) (p1 : Int32) (cs0 : Int32) (h0 : Heap) (n0 : Nat) (Z0 : n0 ≤ h0.size) (O0 : Old Z n0 h0) (SC_ : own_SC Z cs0) (SU_ : own_SU Z) (hd : own_c16 p1) :
  own_M l Z [] own_y37 b'15 1 (some (.object "java/lang/String")) ⟨2, 2, 6, 29⟩ #[(.int p1)] h0 (QSR Z [p1] h0 n0) := by
 obtain ⟨SCS, hcs⟩ := SC_; obtain ⟨SAD, SHI, SLO⟩ := SU_
 refine own_start (n0 := n0) hw "java/lang/String" (L := #[.val (.int p1)]) pn_15 (fun {p e s m below meth c s₁} q hx W hml hZ hown hnm hlk hrt X0 e0 N0 => ?_)
 have hby := q.2
 have kp0 := Keep.refl h0 []
 refine own_gS X0 q hZ e0 hown (W 41 rfl) (SCS.ext O0.2) d15_0 fun T1031 X1031 e1031 => ?_
 refine own_zn X1031 q d15_3 (((if0 _ _).trans (feq hcs).1)) ?_
 by_cases hp : (255 : Int32) < p1
 ·have hp_ := hp
  show own_Fin _ _ _ _ (T1031.setTop (mkF m 6 #[.val (.int p1)] []))
  refine own_iln X1031 q d15_6 rfl ?_
  refine own_cS X1031 q hZ e1031 hown hml (W 80 rfl) (W 81 rfl) (W 82 rfl) (W 83 rfl) (rm16 l Z a0 hw p1 (0 : Int32) h0 n0 Z0 (if_pos hp)) d15_7 [(.int p1)] [] own_pd22 0 (by decide) (fun v1032 T1032 L1032 X1032 hQ1032 => ?_)
  obtain ⟨rfl, N1032q, e1032⟩ := hQ1032
  have N1032 := Fr.app N0 N1032q
  refine own_nv (own_zy X1032 q d15_10 (((if0 _ _).trans (teq (rfl : (0 : Int32) = (0 : Int32))).1)) ?_)
  refine own_let ?_; intro g1033_
  obtain ⟨T1034, h1034, X1034, e1034, E1034, A1034, D1034, -, st1034⟩ := newO X1032 hx hZ hown (W 84 rfl) (W 10 rfl) (W 9 rfl) e1032 (g := g1033_) rfl (q.d d15_26) (by decide) (by decide)
  obtain ⟨b1034, g1034⟩ : ∃ z, z = h0.size := ⟨_, rfl⟩
  rw [← g1034] at A1034 D1034 st1034
  have zs1035 := Nat.le_trans Z0 E1034.1
  have od1035 := O0.ext E1034
  have kp1035 := kp0.ext E1034
  have g_b1034 : n0 ≤ b1034 := Nat.le_trans Z0 (Nat.le_of_eq g1034.symm)
  have sz_b1034 : h0.size ≤ b1034 := Nat.le_trans kp0.1 (Nat.le_of_eq g1034.symm)
  have F1034_value : F'1 Z h1034 b1034 .null := D1034 (Or.inr (W 12 rfl)) (ty := (.array .byte)) (by decide)
  have F1034_coder : F'0 Z h1034 b1034 v'0 := D1034 (Or.inr (W 13 rfl)) (ty := .byte) (by decide)
  refine own_stq 29 [(.ref b1034)] st1034 (own_dp X1034 q d15_29 rfl (own_iln X1034 q d15_30 rfl ?_))
  refine own_cSh X1034 q hZ e1034 hown hml (W 170 rfl) (W 171 rfl) (W 103 rfl) (W 172 rfl) (rm40 l Z a0 hw p1 h1034 n0 zs1035 od1035 ⟨SAD, SHI, SLO⟩) d15_31 [(.int p1)] [(.ref b1034), (.ref b1034)] own_pd23 2 (by decide) (fun v1036 T1036 L1036 h1036 e1036' X1036 hQ1036 => ?_)
  obtain ⟨b1036, k1036, rfl, N1036q, E1036, lo1036, V1036⟩ := hQ1036
  have N1036 := Fr.app N1032 N1036q
  have zs1037 := Nat.le_trans zs1035 E1036.1
  have od1037 := od1035.ext E1036
  have kp1037 := kp1035.ext E1036
  have g_b1036 : n0 ≤ b1036 := Nat.le_trans zs1035 lo1036
  have sz_b1036 : h0.size ≤ b1036 := Nat.le_trans kp1035.1 lo1036
  refine own_nv (own_k X1036 q d15_34 ?_)
  refine own_cIh (a := b1034) X1036 q hZ e1036' hown hml (W 88 rfl) (W 89 rfl) (W 9 rfl) (W 91 rfl) (rm18 l Z a0 hw b1034 b1036 (1 : Int32)  h1036 n0 zs1037  (A1034.ext E1036) (F1034_value.ext E1036) (F1034_coder.ext E1036) g_b1034  ) d15_35 [(.ref b1036), v'1] [(.ref b1034)] own_pd24 1 rfl (by decide) (fun v1038 T1038 L1038 h1038 e1038' X1038 hQ1038 => ?_)
  obtain ⟨rfl, N1038q, K1038, F1038_0, F1038_1⟩ := hQ1038
  have N1038 := Fr.app N1036 N1038q
  have zs1039 := Nat.le_trans zs1037 K1038.1
  have od1039 := od1037.keep K1038 (allS g_b1034 all0)
  have kp1039 := kp1037.trans K1038 (allS (Or.inr sz_b1034) all0)
  refine own_nn ?_
  refine own_rA X1038 q hrt d15_38 hlk (by decide) ?_
  show QSR Z [p1] h0 n0 _ T1038.heap _
  rw [e1038']
  exact ⟨_, rfl, N1038, own_extK kp1039, _, _, ((A1034.ext E1036).keep K1038), F1038_0, Or.inr ⟨F1038_1, (V1036.keep K1038 (ninS (Ne.symm (own_ne (A1034).lt lo1036)) nin0))⟩, own_fm1 hd⟩
 ·have hp_ := hp
  show own_Fin _ _ _ _ (T1031.setTop (mkF m 6 #[.val (.int p1)] []))
  refine own_iln X1031 q d15_6 rfl ?_
  refine own_cS X1031 q hZ e1031 hown hml (W 80 rfl) (W 81 rfl) (W 82 rfl) (W 83 rfl) (rm16 l Z a0 hw p1 (1 : Int32) h0 n0 Z0 (if_neg hp)) d15_7 [(.int p1)] [] own_pd22 0 (by decide) (fun v1040 T1040 L1040 X1040 hQ1040 => ?_)
  obtain ⟨rfl, N1040q, e1040⟩ := hQ1040
  have N1040 := Fr.app N0 N1040q
  refine own_nv (own_zn X1040 q d15_10 (((if0 _ _).trans (feq ((by decide) : ¬ ((1 : Int32) = (0 : Int32)))).1)) ?_)
  refine own_let ?_; intro g1041_
  obtain ⟨T1042, h1042, X1042, e1042, E1042, A1042, D1042, -, st1042⟩ := newO X1040 hx hZ hown (W 84 rfl) (W 10 rfl) (W 9 rfl) e1040 (g := g1041_) rfl (q.d d15_13) (by decide) (by decide)
  obtain ⟨b1042, g1042⟩ : ∃ z, z = h0.size := ⟨_, rfl⟩
  rw [← g1042] at A1042 D1042 st1042
  have zs1043 := Nat.le_trans Z0 E1042.1
  have od1043 := O0.ext E1042
  have kp1043 := kp0.ext E1042
  have g_b1042 : n0 ≤ b1042 := Nat.le_trans Z0 (Nat.le_of_eq g1042.symm)
  have sz_b1042 : h0.size ≤ b1042 := Nat.le_trans kp0.1 (Nat.le_of_eq g1042.symm)
  have F1042_value : F'1 Z h1042 b1042 .null := D1042 (Or.inr (W 12 rfl)) (ty := (.array .byte)) (by decide)
  have F1042_coder : F'0 Z h1042 b1042 v'0 := D1042 (Or.inr (W 13 rfl)) (ty := .byte) (by decide)
  refine own_stq 16 [(.ref b1042)] st1042 (own_dp X1042 q d15_16 rfl (own_iln X1042 q d15_17 rfl ?_))
  refine own_cSh X1042 q hZ e1042 hown hml (W 85 rfl) (W 86 rfl) (W 82 rfl) (W 87 rfl) (rm17 l Z a0 hw p1 h1042 n0 zs1043 ) d15_18 [(.int p1)] [(.ref b1042), (.ref b1042)] own_pd23 2 (by decide) (fun v1044 T1044 L1044 h1044 e1044' X1044 hQ1044 => ?_)
  obtain ⟨b1044, k1044, rfl, N1044q, E1044, lo1044, V1044⟩ := hQ1044
  have N1044 := Fr.app N1040 N1044q
  have zs1045 := Nat.le_trans zs1043 E1044.1
  have od1045 := od1043.ext E1044
  have kp1045 := kp1043.ext E1044
  have g_b1044 : n0 ≤ b1044 := Nat.le_trans zs1043 lo1044
  have sz_b1044 : h0.size ≤ b1044 := Nat.le_trans kp1043.1 lo1044
  refine own_nv (own_k X1044 q d15_21 ?_)
  refine own_cIh (a := b1042) X1044 q hZ e1044' hown hml (W 88 rfl) (W 89 rfl) (W 9 rfl) (W 91 rfl) (rm18 l Z a0 hw b1042 b1044 (0 : Int32)  h1044 n0 zs1045  (A1042.ext E1044) (F1042_value.ext E1044) (F1042_coder.ext E1044) g_b1042  ) d15_22 [(.ref b1044), v'0] [(.ref b1042)] own_pd24 1 rfl (by decide) (fun v1046 T1046 L1046 h1046 e1046' X1046 hQ1046 => ?_)
  obtain ⟨rfl, N1046q, K1046, F1046_0, F1046_1⟩ := hQ1046
  have N1046 := Fr.app N1044 N1046q
  have zs1047 := Nat.le_trans zs1045 K1046.1
  have od1047 := od1045.keep K1046 (allS g_b1042 all0)
  have kp1047 := kp1045.trans K1046 (allS (Or.inr sz_b1042) all0)
  refine own_nn ?_
  refine own_rA X1046 q hrt d15_25 hlk (by decide) ?_
  show QSR Z [p1] h0 n0 _ T1046.heap _
  rw [e1046']
  exact ⟨_, rfl, N1046, own_extK kp1047, _, _, ((A1042.ext E1044).keep K1046), F1046_0, Or.inl ⟨F1046_1, own_fm1 hp, (V1044.keep K1046 (ninS (Ne.symm (own_ne (A1042).lt lo1044)) nin0))⟩, own_fm1 hd⟩
theorem d2_0 : own_D b'2 0 (.iload_n 0) 1 1 := by decide +kernel
theorem d2_1 : own_DZ b'2 1 .ne 7 4 := by decide +kernel
theorem d2_4 : own_D b'2 4 (.ldc 35) 2 6 := by decide +kernel
theorem d2_6 : own_D b'2 6 .areturn 1 7 := by decide +kernel
theorem d2_7 : own_D b'2 7 (.iload_n 0) 1 8 := by decide +kernel
theorem d2_8 : own_DK b'2 8 1 9 := by decide +kernel
theorem d2_9 : own_DJ b'2 9 .ne 17 12 := by decide +kernel
theorem d2_12 : own_D b'2 12 (.iload_n 1) 1 13 := by decide +kernel
theorem d2_13 : own_D b'2 13 (.invokestatic 37) 3 16 := by decide +kernel
theorem d2_16 : own_D b'2 16 .areturn 1 17 := by decide +kernel
theorem d2_17 : own_D b'2 17 (.iload_n 0) 1 18 := by decide +kernel
theorem d2_18 : own_DK b'2 18 2 19 := by decide +kernel
theorem d2_19 : own_DJ b'2 19 .ne 41 22 := by decide +kernel
theorem d2_22 : own_D b'2 22 (.new 38) 3 25 := by decide +kernel
theorem d2_25 : own_D b'2 25 .dup 1 26 := by decide +kernel
theorem d2_26 : own_DK b'2 26 2 27 := by decide +kernel
theorem d2_27 : own_D b'2 27 (.newarray .char) 2 29 := by decide +kernel
theorem d2_29 : own_D b'2 29 .dup 1 30 := by decide +kernel
theorem d2_30 : own_DK b'2 30 0 31 := by decide +kernel
theorem d2_31 : own_D b'2 31 (.iload_n 1) 1 32 := by decide +kernel
theorem d2_32 : own_D b'2 32 .castore 1 33 := by decide +kernel
theorem d2_33 : own_D b'2 33 .dup 1 34 := by decide +kernel
theorem d2_34 : own_DK b'2 34 1 35 := by decide +kernel
theorem d2_35 : own_D b'2 35 (.iload_n 2) 1 36 := by decide +kernel
theorem d2_36 : own_D b'2 36 .castore 1 37 := by decide +kernel
theorem d2_37 : own_D b'2 37 (.invokespecial 43) 3 40 := by decide +kernel
theorem d2_40 : own_D b'2 40 .areturn 1 41 := by decide +kernel
theorem d2_41 : own_D b'2 41 (.new 38) 3 44 := by decide +kernel
theorem d2_44 : own_D b'2 44 .dup 1 45 := by decide +kernel
theorem d2_45 : own_DK b'2 45 3 46 := by decide +kernel
theorem d2_46 : own_D b'2 46 (.newarray .char) 2 48 := by decide +kernel
theorem d2_48 : own_D b'2 48 .dup 1 49 := by decide +kernel
theorem d2_49 : own_DK b'2 49 0 50 := by decide +kernel
theorem d2_50 : own_D b'2 50 (.iload_n 1) 1 51 := by decide +kernel
theorem d2_51 : own_D b'2 51 .castore 1 52 := by decide +kernel
theorem d2_52 : own_D b'2 52 .dup 1 53 := by decide +kernel
theorem d2_53 : own_DK b'2 53 1 54 := by decide +kernel
theorem d2_54 : own_D b'2 54 (.iload_n 2) 1 55 := by decide +kernel
theorem d2_55 : own_D b'2 55 .castore 1 56 := by decide +kernel
theorem d2_56 : own_D b'2 56 .dup 1 57 := by decide +kernel
theorem d2_57 : own_DK b'2 57 2 58 := by decide +kernel
theorem d2_58 : own_D b'2 58 (.iload_n 3) 1 59 := by decide +kernel
theorem d2_59 : own_D b'2 59 .castore 1 60 := by decide +kernel
theorem d2_60 : own_D b'2 60 (.invokespecial 43) 3 63 := by decide +kernel
theorem d2_63 : own_D b'2 63 .areturn 1 64 := by decide +kernel
theorem pn_2 : plainFor (⟨"com/example/conformance_check/conformancecheck/catalogue/EditDistanceWithinPinLaw", "str", "(ICCC)Ljava/lang/String;"⟩ : MethodName) = true := plainFor_of_name (by first | (simp [plainName, overriddenIn]; done) | decide +kernel)
theorem rm2_0 (l : Launch) (Z : State) (a0 : Array Value) (hw : ∀ d ∈ tables_1, d.before a0 Z = true) (ws : List Jvm.Cond) (p2 : Int32) (p3 : Int32) (p4 : Int32) (cs0 : Int32) (h0 : Heap) (n0 : Nat) (Z0 : n0 ≤ h0.size) (O0 : Old Z n0 h0) (SC_ : own_SC Z cs0) (SU_ : own_SU Z) (hEL : EW Z a0 ([("com/example/conformance_check/conformancecheck/catalogue/EditDistanceWithinPinLaw", 35)] : List (String × Nat))) :
  MetFree l (⟨"com/example/conformance_check/conformancecheck/catalogue/EditDistanceWithinPinLaw", "str", "(ICCC)Ljava/lang/String;"⟩ : MethodName) (head1 (Jvm.Cond.code (⟨"com/example/conformance_check/conformancecheck/catalogue/EditDistanceWithinPinLaw", "str", "(ICCC)Ljava/lang/String;"⟩ : MethodName) b'2 4 (some (.object "java/lang/String")) :: ws) ({ frames := 0, cells := 2, slots := 4, locals := 0 } : Room)) (fun a U => a = #[v'0, (.int p2), (.int p3), (.int p4)] ∧ Z.Warmed39 U.vm ∧ U.heap = h0 ∧ CHv Z ([("com/example/conformance_check/conformancecheck/catalogue/EditDistanceWithinPinLaw", 35)] : List (String × Nat)) U.vm h0 ∧ ∀ x ∈ ([] : List Addr), Safe Z ([("com/example/conformance_check/conformancecheck/catalogue/EditDistanceWithinPinLaw", 35)] : List (String × Nat)) U.vm h0 x) (fun _ _ _ _ _ => True) (fun _ U o U' => ∃ v L, o = .returned v ∧ QSR Z [] h0 n0 v U'.heap L ∧ CHr Z ([("com/example/conformance_check/conformancecheck/catalogue/EditDistanceWithinPinLaw", 35)] : List (String × Nat)) U.vm U.heap U'.vm U'.heap ∧ ReturnedEndW U o U' L ({ frames := 0, cells := 2, slots := 4, locals := 0 } : Room).cells ({ frames := 0, cells := 2, slots := 4, locals := 0 } : Room).slots) := by
 obtain ⟨SCS, hcs⟩ := SC_; obtain ⟨SAD, SHI, SLO⟩ := SU_
 refine MetFree.of_bodySF pn_2 hisR ?_
 intro p e s m args below meth c s₁ Bd hml0 hP hK
 obtain ⟨rfl, hZ, hh, hCH, hSF⟩ := hP
 have hx := Bd.exec
 have hby := Bd.bytes
 have q : own_q p c b'2 := ⟨hx, hby⟩
 have W := @own_w _ _ hw
 have hml : c.maxLocals = 4 := hml0
 have hown : s.vm.findClass "com/example/conformance_check/conformancecheck/catalogue/EditDistanceWithinPinLaw" = some m.cls := findClass_of_methodNamed Bd.named
 have hnm := (name_of_methodNamed Bd.named Bd.method).1
 have hlk : meth.locks = false := BodyLoose.notSynchronized Bd
 have X0 : Stand p l e ({ frames := 0, cells := 2, slots := 4, locals := 0 } : Room) s m #[v'0, (.int p2), (.int p3), (.int p4)] below meth c s₁ [] 0 0 := Stand.of_body Bd
 have e0 : s₁.heap = h0 := by rw [← hh, Bd.state]; rfl
 have N0 := Fr.nil n0
 show own_Fin p e below (own_PH Z ([("com/example/conformance_check/conformancecheck/catalogue/EditDistanceWithinPinLaw", 35)] : List (String × Nat)) (QSR Z [] h0 n0) s ({ frames := 0, cells := 2, slots := 4, locals := 0 } : Room).cells ({ frames := 0, cells := 2, slots := 4, locals := 0 } : Room).slots) (s₁.setTop (entryFrame m #[v'0, (.int p2), (.int p3), (.int p4)] 4))
 rw [show entryFrame m #[v'0, (.int p2), (.int p3), (.int p4)] 4 = mkF m 0 #[.val v'0, .val (.int p2), .val (.int p3), .val (.int p4)] [] from by first | (simp [entryFrame, mkF, argsToLocals, Value.category]; done) | rfl]
 have X0 : Stand p l e ({ frames := 0, cells := 2, slots := 4, locals := 0 } : Room) (s.setVm s.vm) m #[v'0, (.int p2), (.int p3), (.int p4)] below meth c s₁ [] 0 0 := X0
 have hZ : Z.Warmed39 (s.setVm s.vm).vm := hZ
 have hown : (s.setVm s.vm).vm.findClass "com/example/conformance_check/conformancecheck/catalogue/EditDistanceWithinPinLaw" = some m.cls := hown
 have hS0 : s.Since s.vm 0 := (State.WarmedH.refl s).since 0
 have hk0 : 0 ≤ h0.size := Nat.zero_le _
 have hCH : CHv Z ([("com/example/conformance_check/conformancecheck/catalogue/EditDistanceWithinPinLaw", 35)] : List (String × Nat)) s.vm h0 := hCH
 have hCR := CHr.refl hCH
 have hstr : ∀ a ∈ Bundle.stringAtoms, a.before a0 Z = true := fun d hd => hw d ((by decide +kernel : ∀ d ∈ Bundle.stringAtoms, d ∈ tables_1) d hd)
 have kp0 := Keep.refl h0 []
 refine own_iln X0 q d2_0 rfl (own_zn X0 q d2_1 (((if0 _ _).trans (teq (rfl : (0 : Int32) = (0 : Int32))).2)) ?_)
 refine own_let ?_; intro g1051_
 obtain ⟨a1052, T1052, h1052, kk1052, b1052, k1052, X1052, e1052, E1052, hS1052, hk1052, hZ, hown, Ex1052, Fc1052, Fv1052, V1052, lt1052, lb1052, cH1052, Lt1052, sn1052, st1052⟩ := ldcCH X0 hx hZ hown (W 8 rfl) hstr e0 hS0 hk0 hEL (by simp) hCH (vs := []) (z := (0 : Int32)) ⟨by decide, by decide⟩ (by decide) rfl (g := g1051_) rfl (q.d d2_4) (n := 0) (by decide) (by decide) (by decide) (by decide)
 have zs1053 := Nat.le_trans Z0 E1052.1
 have hk1053 := Nat.le_trans hk0 E1052.1
 have od1053 := O0.ext E1052
 have kp1053 := kp0.ext E1052
 have cr1052 := CHr.trans hCR cH1052
 refine own_stq 6 [(.ref a1052)] st1052 ?_
 have hRR : CHr Z ([("com/example/conformance_check/conformancecheck/catalogue/EditDistanceWithinPinLaw", 35)] : List (String × Nat)) s.vm s.heap T1052.vm T1052.heap := by rw [hh, e1052]; exact CHr.trans cr1052 (CHv.at X1052 hZ hEL cH1052.1)
 refine own_retOH X1052 hS1052 (by rw [e1052]; exact hk1052) hRR hx (t := (.object "java/lang/String")) Bd.returns rfl (Or.inr (Or.inr (Or.inr (Or.inr ⟨rfl, rfl, rfl⟩)))) (q.d d2_6) hlk ?_ (by decide) (by decide)
 show QSR Z [] h0 n0 _ T1052.heap _
 rw [e1052]
 exact ⟨_, rfl, N0, own_extK kp1053, _, _, Ex1052, Fv1052, Or.inl ⟨Fc1052, (fun _ q => nomatch q), V1052⟩, (fun _ q => nomatch q)⟩
theorem rm2_1 (l : Launch) (Z : State) (a0 : Array Value) (hw : own_hw a0 Z) (p2 : Int32) (p3 : Int32) (p4 : Int32) (cs0 : Int32) (h0 : Heap) (n0 : Nat) (Z0 : n0 ≤ h0.size) (O0 : Old Z n0 h0) (SC_ : own_SC Z cs0) (SU_ : own_SU Z) (hd2 : own_c16 p2) :
  own_M l Z [] own_y38 b'2 4 (some (.object "java/lang/String")) ⟨3, 2, 6, 41⟩ #[v'1, (.int p2), (.int p3), (.int p4)] h0 (QSR Z [p2] h0 n0) := by
 obtain ⟨SCS, hcs⟩ := SC_; obtain ⟨SAD, SHI, SLO⟩ := SU_
 refine own_start (n0 := n0) hw "com/example/conformance_check/conformancecheck/catalogue/EditDistanceWithinPinLaw" (L := #[.val v'1, .val (.int p2), .val (.int p3), .val (.int p4)]) pn_2 (fun {p e s m below meth c s₁} q hx W hml hZ hown hnm hlk hrt X0 e0 N0 => ?_)
 have kp0 := Keep.refl h0 []
 refine own_iln X0 q d2_0 rfl (own_zy X0 q d2_1 (((if0 _ _).trans (feq ((by decide) : ¬ ((1 : Int32) = (0 : Int32)))).2)) (own_iln X0 q d2_7 rfl (own_k X0 q d2_8 (own_cn X0 q d2_9 ((teq (rfl : (1 : Int32) = (1 : Int32))).2) (own_iln X0 q d2_12 rfl ?_)))))
 refine own_cSh X0 q hZ e0 hown hml (W 77 rfl) (W 78 rfl) (W 9 rfl) (W 79 rfl) (rm15 l Z a0 hw p2 cs0 h0 n0 Z0 O0 ⟨SCS, hcs⟩ ⟨SAD, SHI, SLO⟩ hd2) d2_13 [(.int p2)] [] own_pd25 0 (by decide) (fun v1056 T1056 L1056 h1056 e1056' X1056 hQ1056 => ?_)
 obtain ⟨x1056, rfl, N1056q, E1056, S1056⟩ := hQ1056
 have N1056 := Fr.app N0 N1056q
 have zs1057 := Nat.le_trans Z0 E1056.1
 have od1057 := O0.ext E1056
 have kp1057 := kp0.ext E1056
 refine own_nv ?_
 refine own_rA X1056 q hrt d2_16 hlk (by decide) ?_
 show QSR Z [p2] h0 n0 _ T1056.heap _
 rw [e1056']
 exact ⟨_, rfl, N1056, own_extK kp1057, S1056⟩
theorem rm2_2 (l : Launch) (Z : State) (a0 : Array Value) (hw : own_hw a0 Z) (p2 : Int32) (p3 : Int32) (p4 : Int32) (cs0 : Int32) (h0 : Heap) (n0 : Nat) (Z0 : n0 ≤ h0.size) (O0 : Old Z n0 h0) (SC_ : own_SC Z cs0) (SU_ : own_SU Z) (hd2 : own_c16 p2) (hd3 : own_c16 p3) :
  own_M l Z [] own_y38 b'2 4 (some (.object "java/lang/String")) ⟨6, 4, 12, 88⟩ #[v'2, (.int p2), (.int p3), (.int p4)] h0 (QSR Z [p2, p3] h0 n0) := by
 obtain ⟨SCS, hcs⟩ := SC_; obtain ⟨SAD, SHI, SLO⟩ := SU_
 refine own_start (n0 := n0) hw "com/example/conformance_check/conformancecheck/catalogue/EditDistanceWithinPinLaw" (L := #[.val v'2, .val (.int p2), .val (.int p3), .val (.int p4)]) pn_2 (fun {p e s m below meth c s₁} q hx W hml hZ hown hnm hlk hrt X0 e0 N0 => ?_)
 have kp0 := Keep.refl h0 []
 refine own_iln X0 q d2_0 rfl (own_zy X0 q d2_1 (((if0 _ _).trans (feq ((by decide) : ¬ ((2 : Int32) = (0 : Int32)))).2)) (own_iln X0 q d2_7 rfl (own_k X0 q d2_8 (own_cy X0 q d2_9 ((feq ((by decide) : ¬ ((2 : Int32) = (1 : Int32)))).2) (own_iln X0 q d2_17 rfl (own_k X0 q d2_18 (own_cn X0 q d2_19 ((teq (rfl : (2 : Int32) = (2 : Int32))).2) ?_)))))))
 refine own_let ?_; intro g1070_
 obtain ⟨T1071, h1071, X1071, e1071, E1071, A1071, D1071, -, st1071⟩ := newO X0 hx hZ hown (W 93 rfl) (W 10 rfl) (W 9 rfl) e0 (g := g1070_) rfl (q.d d2_22) (by decide) (by decide)
 obtain ⟨b1071, g1071⟩ : ∃ z, z = h0.size := ⟨_, rfl⟩
 rw [← g1071] at A1071 D1071 st1071
 have zs1072 := Nat.le_trans Z0 E1071.1
 have od1072 := O0.ext E1071
 have kp1072 := kp0.ext E1071
 have g_b1071 : n0 ≤ b1071 := Nat.le_trans Z0 (Nat.le_of_eq g1071.symm)
 have sz_b1071 : h0.size ≤ b1071 := Nat.le_trans kp0.1 (Nat.le_of_eq g1071.symm)
 have F1071_value : F'1 Z h1071 b1071 .null := D1071 (Or.inr (W 12 rfl)) (ty := (.array .byte)) (by decide)
 have F1071_coder : F'0 Z h1071 b1071 v'0 := D1071 (Or.inr (W 13 rfl)) (ty := .byte) (by decide)
 refine own_stq 25 [(.ref b1071)] st1071 (own_dp X1071 q d2_25 rfl (own_k X1071 q d2_26 ?_))
 refine own_let ?_; intro g1073_
 obtain ⟨T1074, h1074, k1074, X1074, e1074, E1074, A1074, st1074⟩ := newP X1071 hx hZ (W 94 rfl) e1071 (g := g1073_) rfl (q.d d2_27) rfl (by decide) (cap := 2) (by decide) (by decide) (by decide) (by decide)
 obtain ⟨b1074, g1074⟩ : ∃ z, z = h1071.size := ⟨_, rfl⟩
 rw [← g1074] at A1074 st1074
 have V1074 : Arv Z h1074 b1074 k1074 .char (2 : Int32) [v'0, v'0] v'0 := (Arv.new A1074 (by decide)).pad (pad_rep [] v'0 2)
 have zs1075 := Nat.le_trans zs1072 E1074.1
 have od1075 := od1072.ext E1074
 have kp1075 := kp1072.ext E1074
 have g_b1074 : n0 ≤ b1074 := Nat.le_trans zs1072 (Nat.le_of_eq g1074.symm)
 have sz_b1074 : h0.size ≤ b1074 := Nat.le_trans kp1072.1 (Nat.le_of_eq g1074.symm)
 refine own_stp 29 st1074 (own_dp X1074 q d2_29 rfl (own_k X1074 q d2_30 (own_iln X1074 q d2_31 rfl ?_)))
 refine own_cst X1074 q hZ e1074 V1074 d2_32 (by decide) (Nat.le_of_ble_eq_true rfl) N0 g_b1074 fun T1076 h1076 X1076 e1076 W1076 V1076 N1076 => ?_
 have zs1077 := Nat.le_trans zs1075 (Keep.of_wr W1076).1
 have od1077 := od1075.wr W1076 g_b1074
 have kp1077 := kp1075.wr W1076 (Or.inr sz_b1074)
 refine own_dp X1076 q d2_33 rfl (own_k X1076 q d2_34 (own_iln X1076 q d2_35 rfl ?_))
 refine own_cst X1076 q hZ e1076 V1076 d2_36 (by decide) (Nat.le_of_ble_eq_true rfl) N1076 g_b1074 fun T1078 h1078 X1078 e1078 W1078 V1078 N1078 => ?_
 have zs1079 := Nat.le_trans zs1077 (Keep.of_wr W1078).1
 have od1079 := od1077.wr W1078 g_b1074
 have kp1079 := kp1077.wr W1078 (Or.inr sz_b1074)
 refine own_cIh (a := b1071) X1078 q hZ e1078 hown hml (W 95 rfl) (W 96 rfl) (W 9 rfl) (W 97 rfl) (rm19_2 l Z a0 hw b1071 b1074 k1074 (nar .char p2) (nar .char p3) cs0 h1078 n0 zs1079 (((A1071.ext E1074).wr W1076).wr W1078) (((F1071_value.ext E1074).other W1076 (Or.inl (own_ne (A1071).lt (Nat.le_of_eq g1074.symm)))).other W1078 (Or.inl (own_ne (A1071).lt (Nat.le_of_eq g1074.symm)))) (((F1071_coder.ext E1074).other W1076 (Or.inl (own_ne (A1071).lt (Nat.le_of_eq g1074.symm)))).other W1078 (Or.inl (own_ne (A1071).lt (Nat.le_of_eq g1074.symm)))) V1078 g_b1071 (own_ne (A1071).lt (Nat.le_of_eq g1074.symm)) od1079 ⟨SCS, hcs⟩ ⟨SAD, SHI, SLO⟩ (own_nc16 _) (own_nc16 _)) d2_37 [(.ref b1074)] [(.ref b1071)] own_pd26 1 rfl (by decide) (fun v1080 T1080 L1080 h1080 e1080' X1080 hQ1080 => ?_)
 obtain ⟨t1080, k1080, rfl, N1080q, K1080, lo1080, Fv1080, D1080⟩ := hQ1080
 have N1080 := Fr.app N1078 N1080q
 have zs1081 := Nat.le_trans zs1079 K1080.1
 have od1081 := od1079.keep K1080 (allS g_b1071 all0)
 have kp1081 := kp1079.trans K1080 (allS (Or.inr sz_b1071) all0)
 have g_t1080 : n0 ≤ t1080 := Nat.le_trans zs1079 lo1080
 have sz_t1080 : h0.size ≤ t1080 := Nat.le_trans kp1079.1 lo1080
 refine own_nn ?_
 refine own_rA X1080 q hrt d2_40 hlk (by decide) ?_
 show QSR Z [p2, p3] h0 n0 _ T1080.heap _
 rw [e1080']
 have hS : own_str Z h1080 b1071 [nar .char p2, nar .char p3] := ⟨_, _, ((((A1071.ext E1074).wr W1076).wr W1078).keep K1080), Fv1080, D1080.imp (fun r => ⟨r.1, own_fm2 r.2.1, r.2.2⟩) (fun r => ⟨r.1, r.2.2⟩), own_fm2 ⟨own_nc16 _, own_nc16 _⟩⟩
 rw [own_nc hd2, own_nc hd3] at hS
 exact ⟨_, rfl, N1080, own_extK kp1081, hS⟩
theorem rm2_3 (l : Launch) (Z : State) (a0 : Array Value) (hw : own_hw a0 Z) (p2 : Int32) (p3 : Int32) (p4 : Int32) (cs0 : Int32) (h0 : Heap) (n0 : Nat) (Z0 : n0 ≤ h0.size) (O0 : Old Z n0 h0) (SC_ : own_SC Z cs0) (SU_ : own_SU Z) (hd2 : own_c16 p2) (hd3 : own_c16 p3) (hd4 : own_c16 p4) :
  own_M l Z [] own_y38 b'2 4 (some (.object "java/lang/String")) ⟨6, 4, 16, 88⟩ #[v'3, (.int p2), (.int p3), (.int p4)] h0 (QSR Z [p2, p3, p4] h0 n0) := by
 obtain ⟨SCS, hcs⟩ := SC_; obtain ⟨SAD, SHI, SLO⟩ := SU_
 refine own_start (n0 := n0) hw "com/example/conformance_check/conformancecheck/catalogue/EditDistanceWithinPinLaw" (L := #[.val v'3, .val (.int p2), .val (.int p3), .val (.int p4)]) pn_2 (fun {p e s m below meth c s₁} q hx W hml hZ hown hnm hlk hrt X0 e0 N0 => ?_)
 have kp0 := Keep.refl h0 []
 refine own_iln X0 q d2_0 rfl (own_zy X0 q d2_1 (((if0 _ _).trans (feq ((by decide) : ¬ ((3 : Int32) = (0 : Int32)))).2)) (own_iln X0 q d2_7 rfl (own_k X0 q d2_8 (own_cy X0 q d2_9 ((feq ((by decide) : ¬ ((3 : Int32) = (1 : Int32)))).2) (own_iln X0 q d2_17 rfl (own_k X0 q d2_18 (own_cy X0 q d2_19 ((feq ((by decide) : ¬ ((3 : Int32) = (2 : Int32)))).2) ?_)))))))
 refine own_let ?_; intro g1096_
 obtain ⟨T1097, h1097, X1097, e1097, E1097, A1097, D1097, -, st1097⟩ := newO X0 hx hZ hown (W 93 rfl) (W 10 rfl) (W 9 rfl) e0 (g := g1096_) rfl (q.d d2_41) (by decide) (by decide)
 obtain ⟨b1097, g1097⟩ : ∃ z, z = h0.size := ⟨_, rfl⟩
 rw [← g1097] at A1097 D1097 st1097
 have zs1098 := Nat.le_trans Z0 E1097.1
 have od1098 := O0.ext E1097
 have kp1098 := kp0.ext E1097
 have g_b1097 : n0 ≤ b1097 := Nat.le_trans Z0 (Nat.le_of_eq g1097.symm)
 have sz_b1097 : h0.size ≤ b1097 := Nat.le_trans kp0.1 (Nat.le_of_eq g1097.symm)
 have F1097_value : F'1 Z h1097 b1097 .null := D1097 (Or.inr (W 12 rfl)) (ty := (.array .byte)) (by decide)
 have F1097_coder : F'0 Z h1097 b1097 v'0 := D1097 (Or.inr (W 13 rfl)) (ty := .byte) (by decide)
 refine own_stq 44 [(.ref b1097)] st1097 (own_dp X1097 q d2_44 rfl (own_k X1097 q d2_45 ?_))
 refine own_let ?_; intro g1099_
 obtain ⟨T1100, h1100, k1100, X1100, e1100, E1100, A1100, st1100⟩ := newP X1097 hx hZ (W 94 rfl) e1097 (g := g1099_) rfl (q.d d2_46) rfl (by decide) (cap := 3) (by decide) (by decide) (by decide) (by decide)
 obtain ⟨b1100, g1100⟩ : ∃ z, z = h1097.size := ⟨_, rfl⟩
 rw [← g1100] at A1100 st1100
 have V1100 : Arv Z h1100 b1100 k1100 .char (3 : Int32) [v'0, v'0, v'0] v'0 := (Arv.new A1100 (by decide)).pad (pad_rep [] v'0 3)
 have zs1101 := Nat.le_trans zs1098 E1100.1
 have od1101 := od1098.ext E1100
 have kp1101 := kp1098.ext E1100
 have g_b1100 : n0 ≤ b1100 := Nat.le_trans zs1098 (Nat.le_of_eq g1100.symm)
 have sz_b1100 : h0.size ≤ b1100 := Nat.le_trans kp1098.1 (Nat.le_of_eq g1100.symm)
 refine own_stp 48 st1100 (own_dp X1100 q d2_48 rfl (own_k X1100 q d2_49 (own_iln X1100 q d2_50 rfl ?_)))
 refine own_cst X1100 q hZ e1100 V1100 d2_51 (by decide) (Nat.le_of_ble_eq_true rfl) N0 g_b1100 fun T1102 h1102 X1102 e1102 W1102 V1102 N1102 => ?_
 have zs1103 := Nat.le_trans zs1101 (Keep.of_wr W1102).1
 have od1103 := od1101.wr W1102 g_b1100
 have kp1103 := kp1101.wr W1102 (Or.inr sz_b1100)
 refine own_dp X1102 q d2_52 rfl (own_k X1102 q d2_53 (own_iln X1102 q d2_54 rfl ?_))
 refine own_cst X1102 q hZ e1102 V1102 d2_55 (by decide) (Nat.le_of_ble_eq_true rfl) N1102 g_b1100 fun T1104 h1104 X1104 e1104 W1104 V1104 N1104 => ?_
 have zs1105 := Nat.le_trans zs1103 (Keep.of_wr W1104).1
 have od1105 := od1103.wr W1104 g_b1100
 have kp1105 := kp1103.wr W1104 (Or.inr sz_b1100)
 refine own_dp X1104 q d2_56 rfl (own_k X1104 q d2_57 (own_iln X1104 q d2_58 rfl ?_))
 refine own_cst X1104 q hZ e1104 V1104 d2_59 (by decide) (Nat.le_of_ble_eq_true rfl) N1104 g_b1100 fun T1106 h1106 X1106 e1106 W1106 V1106 N1106 => ?_
 have zs1107 := Nat.le_trans zs1105 (Keep.of_wr W1106).1
 have od1107 := od1105.wr W1106 g_b1100
 have kp1107 := kp1105.wr W1106 (Or.inr sz_b1100)
 refine own_cIh (a := b1097) X1106 q hZ e1106 hown hml (W 95 rfl) (W 96 rfl) (W 9 rfl) (W 97 rfl) (rm19_3 l Z a0 hw b1097 b1100 k1100 (nar .char p2) (nar .char p3) (nar .char p4) cs0 h1106 n0 zs1107 ((((A1097.ext E1100).wr W1102).wr W1104).wr W1106) ((((F1097_value.ext E1100).other W1102 (Or.inl (own_ne (A1097).lt (Nat.le_of_eq g1100.symm)))).other W1104 (Or.inl (own_ne (A1097).lt (Nat.le_of_eq g1100.symm)))).other W1106 (Or.inl (own_ne (A1097).lt (Nat.le_of_eq g1100.symm)))) ((((F1097_coder.ext E1100).other W1102 (Or.inl (own_ne (A1097).lt (Nat.le_of_eq g1100.symm)))).other W1104 (Or.inl (own_ne (A1097).lt (Nat.le_of_eq g1100.symm)))).other W1106 (Or.inl (own_ne (A1097).lt (Nat.le_of_eq g1100.symm)))) V1106 g_b1097 (own_ne (A1097).lt (Nat.le_of_eq g1100.symm)) od1107 ⟨SCS, hcs⟩ ⟨SAD, SHI, SLO⟩ (own_nc16 _) (own_nc16 _) (own_nc16 _)) d2_60 [(.ref b1100)] [(.ref b1097)] own_pd26 1 rfl (by decide) (fun v1108 T1108 L1108 h1108 e1108' X1108 hQ1108 => ?_)
 obtain ⟨t1108, k1108, rfl, N1108q, K1108, lo1108, Fv1108, D1108⟩ := hQ1108
 have N1108 := Fr.app N1106 N1108q
 have zs1109 := Nat.le_trans zs1107 K1108.1
 have od1109 := od1107.keep K1108 (allS g_b1097 all0)
 have kp1109 := kp1107.trans K1108 (allS (Or.inr sz_b1097) all0)
 have g_t1108 : n0 ≤ t1108 := Nat.le_trans zs1107 lo1108
 have sz_t1108 : h0.size ≤ t1108 := Nat.le_trans kp1107.1 lo1108
 refine own_nn ?_
 refine own_rA X1108 q hrt d2_63 hlk (by decide) ?_
 show QSR Z [p2, p3, p4] h0 n0 _ T1108.heap _
 rw [e1108']
 have hS : own_str Z h1108 b1097 [nar .char p2, nar .char p3, nar .char p4] := ⟨_, _, (((((A1097.ext E1100).wr W1102).wr W1104).wr W1106).keep K1108), Fv1108, D1108.imp (fun r => ⟨r.1, own_fm3 r.2.1, r.2.2⟩) (fun r => ⟨r.1, r.2.2⟩), own_fm3 ⟨own_nc16 _, own_nc16 _, own_nc16 _⟩⟩
 rw [own_nc hd2, own_nc hd3, own_nc hd4] at hS
 exact ⟨_, rfl, N1108, own_extK kp1109, hS⟩
theorem d0_0 : own_D code 0 (.iload_n 0) 1 1 := by decide +kernel
theorem d0_1 : own_DK code 1 3 2 := by decide +kernel
theorem d0_2 : own_D code 2 .iand 1 3 := by decide +kernel
theorem d0_3 : own_D code 3 (.istore 5) 2 5 := by decide +kernel
theorem d0_5 : own_D code 5 (.iload_n 0) 1 6 := by decide +kernel
theorem d0_6 : own_DK code 6 2 7 := by decide +kernel
theorem d0_7 : own_D code 7 .iushr 1 8 := by decide +kernel
theorem d0_8 : own_DK code 8 3 9 := by decide +kernel
theorem d0_9 : own_D code 9 .iand 1 10 := by decide +kernel
theorem d0_10 : own_D code 10 (.istore 6) 2 12 := by decide +kernel
theorem d0_12 : own_D code 12 (.iload 5) 2 14 := by decide +kernel
theorem d0_14 : own_DK code 14 3 15 := by decide +kernel
theorem d0_15 : own_DJ code 15 .ne 27 18 := by decide +kernel
theorem d0_18 : own_D code 18 (.iload 6) 2 20 := by decide +kernel
theorem d0_20 : own_DK code 20 3 21 := by decide +kernel
theorem d0_21 : own_DJ code 21 .ne 27 24 := by decide +kernel
theorem d0_24 : own_DK code 24 2 25 := by decide +kernel
theorem d0_25 : own_D code 25 (.istore 6) 2 27 := by decide +kernel
theorem d0_27 : own_D code 27 (.iload_n 0) 1 28 := by decide +kernel
theorem d0_28 : own_DK code 28 4 29 := by decide +kernel
theorem d0_29 : own_D code 29 .iushr 1 30 := by decide +kernel
theorem d0_30 : own_DK code 30 7 32 := by decide +kernel
theorem d0_32 : own_D code 32 .iand 1 33 := by decide +kernel
theorem d0_33 : own_D code 33 (.istore 7) 2 35 := by decide +kernel
theorem d0_35 : own_D code 35 (.lload_n 1) 1 36 := by decide +kernel
theorem d0_36 : own_DK code 36 0 37 := by decide +kernel
theorem d0_37 : own_D code 37 (.invokestatic 7) 3 40 := by decide +kernel
theorem d0_40 : own_D code 40 (.istore 8) 2 42 := by decide +kernel
theorem d0_42 : own_D code 42 (.lload_n 1) 1 43 := by decide +kernel
theorem d0_43 : own_DK code 43 1 44 := by decide +kernel
theorem d0_44 : own_D code 44 (.invokestatic 7) 3 47 := by decide +kernel
theorem d0_47 : own_D code 47 (.istore 9) 2 49 := by decide +kernel
theorem d0_49 : own_D code 49 (.lload_n 1) 1 50 := by decide +kernel
theorem d0_50 : own_DK code 50 2 51 := by decide +kernel
theorem d0_51 : own_D code 51 (.invokestatic 7) 3 54 := by decide +kernel
theorem d0_54 : own_D code 54 (.istore 10) 2 56 := by decide +kernel
theorem d0_56 : own_D code 56 (.lload_n 3) 1 57 := by decide +kernel
theorem d0_57 : own_DK code 57 0 58 := by decide +kernel
theorem d0_58 : own_D code 58 (.invokestatic 7) 3 61 := by decide +kernel
theorem d0_61 : own_D code 61 (.istore 11) 2 63 := by decide +kernel
theorem d0_63 : own_D code 63 (.lload_n 3) 1 64 := by decide +kernel
theorem d0_64 : own_DK code 64 1 65 := by decide +kernel
theorem d0_65 : own_D code 65 (.invokestatic 7) 3 68 := by decide +kernel
theorem d0_68 : own_D code 68 (.istore 12) 2 70 := by decide +kernel
theorem d0_70 : own_D code 70 (.lload_n 3) 1 71 := by decide +kernel
theorem d0_71 : own_DK code 71 2 72 := by decide +kernel
theorem d0_72 : own_D code 72 (.invokestatic 7) 3 75 := by decide +kernel
theorem d0_75 : own_D code 75 (.istore 13) 2 77 := by decide +kernel
theorem d0_77 : own_D code 77 (.iload 5) 2 79 := by decide +kernel
theorem d0_79 : own_D code 79 (.iload 8) 2 81 := by decide +kernel
theorem d0_81 : own_D code 81 (.iload 9) 2 83 := by decide +kernel
theorem d0_83 : own_D code 83 (.iload 10) 2 85 := by decide +kernel
theorem d0_85 : own_D code 85 (.invokestatic 13) 3 88 := by decide +kernel
theorem d0_88 : own_D code 88 (.astore 14) 2 90 := by decide +kernel
theorem d0_90 : own_D code 90 (.iload 6) 2 92 := by decide +kernel
theorem d0_92 : own_D code 92 (.iload 11) 2 94 := by decide +kernel
theorem d0_94 : own_D code 94 (.iload 12) 2 96 := by decide +kernel
theorem d0_96 : own_D code 96 (.iload 13) 2 98 := by decide +kernel
theorem d0_98 : own_D code 98 (.invokestatic 13) 3 101 := by decide +kernel
theorem d0_101 : own_D code 101 (.astore 15) 2 103 := by decide +kernel
theorem d0_103 : own_D code 103 (.iload 5) 2 105 := by decide +kernel
theorem d0_105 : own_D code 105 (.iload 8) 2 107 := by decide +kernel
theorem d0_107 : own_D code 107 (.iload 9) 2 109 := by decide +kernel
theorem d0_109 : own_D code 109 (.iload 10) 2 111 := by decide +kernel
theorem d0_111 : own_D code 111 (.iload 6) 2 113 := by decide +kernel
theorem d0_113 : own_D code 113 (.iload 11) 2 115 := by decide +kernel
theorem d0_115 : own_D code 115 (.iload 12) 2 117 := by decide +kernel
theorem d0_117 : own_D code 117 (.iload 13) 2 119 := by decide +kernel
theorem d0_119 : own_D code 119 (.invokestatic 17) 3 122 := by decide +kernel
theorem d0_122 : own_D code 122 (.iload 7) 2 124 := by decide +kernel
theorem d0_124 : own_DK code 124 1 125 := by decide +kernel
theorem d0_125 : own_D code 125 .iadd 1 126 := by decide +kernel
theorem d0_126 : own_D code 126 (.invokestatic 21) 3 129 := by decide +kernel
theorem d0_129 : own_D code 129 (.istore 16) 2 131 := by decide +kernel
theorem d0_131 : own_D code 131 (.aload 14) 2 133 := by decide +kernel
theorem d0_133 : own_D code 133 (.aload 15) 2 135 := by decide +kernel
theorem d0_135 : own_D code 135 (.iload 7) 2 137 := by decide +kernel
theorem d0_137 : own_D code 137 (.invokestatic 27) 3 140 := by decide +kernel
theorem d0_140 : own_D code 140 (.iload 16) 2 142 := by decide +kernel
theorem d0_142 : own_DJ code 142 .ne 149 145 := by decide +kernel
theorem d0_145 : own_DK code 145 1 146 := by decide +kernel
theorem d0_146 : own_DG code 146 150 := by decide +kernel
theorem d0_149 : own_DK code 149 0 150 := by decide +kernel
theorem d0_150 : own_D code 150 .ireturn 1 151 := by decide +kernel
theorem pn_0 : plainFor (⟨"com/example/conformance_check/conformancecheck/catalogue/EditDistanceWithinPinLaw", "law", "(IJJ)Z"⟩ : MethodName) = true := plainFor_of_name (by first | (simp [plainName, overriddenIn]; done) | decide +kernel)
theorem rm0 (l : Launch) (Z : State) (a0 : Array Value) (hw : ∀ d ∈ tables_1, d.before a0 Z = true) (ws : List Jvm.Cond) (p1 : Int32) (p2 : Int64) (p3 : Int64) (cs0 : Int32) (fo : Value) (h0 : Heap) (n0 : Nat) (Z0 : n0 ≤ h0.size) (O0 : Old Z n0 h0) (SC_ : own_SC Z cs0) (SIO : Sta Z Z.heap "jdk/internal/util/Preconditions" "SIOOBE_FORMATTER" "Ljava/util/function/BiFunction;" fo) (hfo : fo.isRef = true) (SU_ : own_SU Z) (hEL : EW Z a0 ([("com/example/conformance_check/conformancecheck/catalogue/EditDistanceWithinPinLaw", 35)] : List (String × Nat))) :
  MetFree l x (head1 (Jvm.Cond.code x code maxLocals ret :: ws) room_1) (fun a U => a = #[(.int p1), (.long p2), (.long p3)] ∧ Z.Warmed39 U.vm ∧ U.heap = h0 ∧ CHv Z ([("com/example/conformance_check/conformancecheck/catalogue/EditDistanceWithinPinLaw", 35)] : List (String × Nat)) U.vm h0) (fun _ _ _ _ _ => True) (fun _ U o U' => ∃ v L, o = .returned v ∧ Q0 n0 v U'.heap L ∧ ReturnedEndW U o U' L room_1.cells room_1.slots) := by
 obtain ⟨SCS, hcs⟩ := SC_; obtain ⟨SAD, SHI, SLO⟩ := SU_
 refine MetFree.of_bodySF pn_0 hisR ?_
 intro p e s m args below meth c s₁ Bd hml0 hP hK
 obtain ⟨rfl, hZ, hh, hCH⟩ := hP
 have hx := Bd.exec
 have hby := Bd.bytes
 have q : own_q p c code := ⟨hx, hby⟩
 have W := @own_w _ _ hw
 have hml : c.maxLocals = 17 := hml0
 have hown : s.vm.findClass "com/example/conformance_check/conformancecheck/catalogue/EditDistanceWithinPinLaw" = some m.cls := findClass_of_methodNamed Bd.named
 have hnm := (name_of_methodNamed Bd.named Bd.method).1
 have hlk : meth.locks = false := BodyLoose.notSynchronized Bd
 have X0 : Stand p l e room_1 s m #[(.int p1), (.long p2), (.long p3)] below meth c s₁ [] 0 0 := Stand.of_body Bd
 have e0 : s₁.heap = h0 := by rw [← hh, Bd.state]; rfl
 have N0 := Fr.nil n0
 show own_Fin p e below (own_PW (Q0 n0) s room_1.cells room_1.slots) (s₁.setTop (entryFrame m #[(.int p1), (.long p2), (.long p3)] maxLocals))
 rw [show entryFrame m #[(.int p1), (.long p2), (.long p3)] maxLocals = mkF m 0 #[.val (.int p1), .val (.long p2), .second, .val (.long p3), .second, .unset, .unset, .unset, .unset, .unset, .unset, .unset, .unset, .unset, .unset, .unset, .unset] [] from by first | (simp [entryFrame, mkF, argsToLocals, Value.category, maxLocals]; done) | rfl]
 have X0 : Stand p l e room_1 (s.setVm s.vm) m #[(.int p1), (.long p2), (.long p3)] below meth c s₁ [] 0 0 := X0
 have hZ : Z.Warmed39 (s.setVm s.vm).vm := hZ
 have hown : (s.setVm s.vm).vm.findClass "com/example/conformance_check/conformancecheck/catalogue/EditDistanceWithinPinLaw" = some m.cls := hown
 have hS0 : s.Since s.vm 0 := (State.WarmedH.refl s).since 0
 have hk0 : 0 ≤ h0.size := Nat.zero_le _
 have hCH : CHv Z ([("com/example/conformance_check/conformancecheck/catalogue/EditDistanceWithinPinLaw", 35)] : List (String × Nat)) s.vm h0 := hCH
 have hCR := CHr.refl hCH
 have hstr : ∀ a ∈ Bundle.stringAtoms, a.before a0 Z = true := fun d hd => hw d ((by decide +kernel : ∀ d ∈ Bundle.stringAtoms, d ∈ tables_1) d hd)
 refine own_iln X0 q d0_0 rfl (own_k X0 q d0_1 (own_stp 3 (fun _ k => XS.iand X0.here hx rfl (q.d d0_2) rfl k) ?_))
 obtain ⟨nA, hnA3, hnA⟩ := own_and3 p1
 rw [hnA]
 clear hnA
 show own_Fin _ _ _ _ (s₁.setTop (mkF m 3 #[.val (.int p1), .val (.long p2), .second, .val (.long p3), .second, .unset, .unset, .unset, .unset, .unset, .unset, .unset, .unset, .unset, .unset, .unset, .unset] [(.int (Int32.ofNat nA))]))
 refine own_is X0 q d0_3 (l' := #[.val (.int p1), .val (.long p2), .second, .val (.long p3), .second, .val (.int (Int32.ofNat nA)), .unset, .unset, .unset, .unset, .unset, .unset, .unset, .unset, .unset, .unset, .unset]) rfl (own_iln X0 q d0_5 rfl (own_k X0 q d0_6 (own_stp 8 (fun _ k => XS.iushr X0.here hx rfl (q.d d0_7) rfl k) (own_k X0 q d0_8 (own_stp 10 (fun _ k => XS.iand X0.here hx rfl (q.d d0_9) rfl k) ?_)))))
 obtain ⟨nB, hnB3, hnB⟩ := own_and3 ((p1.toUInt32 >>> ((2 : Int32) &&& 31).toUInt32).toInt32)
 rw [hnB]
 clear hnB
 show own_Fin _ _ _ _ (s₁.setTop (mkF m 10 #[.val (.int p1), .val (.long p2), .second, .val (.long p3), .second, .val (.int (Int32.ofNat nA)), .unset, .unset, .unset, .unset, .unset, .unset, .unset, .unset, .unset, .unset, .unset] [(.int (Int32.ofNat nB))]))
 refine own_is X0 q d0_10 (l' := #[.val (.int p1), .val (.long p2), .second, .val (.long p3), .second, .val (.int (Int32.ofNat nA)), .val (.int (Int32.ofNat nB)), .unset, .unset, .unset, .unset, .unset, .unset, .unset, .unset, .unset, .unset]) rfl (own_il X0 q d0_12 rfl (own_k X0 q d0_14 ?_))
 by_cases hc15_1266 : (Int32.ofNat nA) = (3 : Int32)
 ·refine own_cn X0 q d0_15 ((teq hc15_1266).2) (own_il X0 q d0_18 rfl (own_k X0 q d0_20 ?_))
  by_cases hc21_1267 : (Int32.ofNat nB) = (3 : Int32)
  ·refine own_cn X0 q d0_21 ((teq hc21_1267).2) (own_k X0 q d0_24 (own_is X0 q d0_25 (l' := #[.val (.int p1), .val (.long p2), .second, .val (.long p3), .second, .val (.int (Int32.ofNat nA)), .val v'2, .unset, .unset, .unset, .unset, .unset, .unset, .unset, .unset, .unset, .unset]) rfl (own_iln X0 q d0_27 rfl (own_k X0 q d0_28 (own_stp 30 (fun _ k => XS.iushr X0.here hx rfl (q.d d0_29) rfl k) (own_k X0 q d0_30 (own_stp 33 (fun _ k => XS.iand X0.here hx rfl (q.d d0_32) rfl k) ?_)))))))
   obtain ⟨M, hM3, hM⟩ := own_and7 ((p1.toUInt32 >>> ((4 : Int32) &&& 31).toUInt32).toInt32)
   rw [hM]
   clear hM
   show own_Fin _ _ _ _ (s₁.setTop (mkF m 33 #[.val (.int p1), .val (.long p2), .second, .val (.long p3), .second, .val (.int (Int32.ofNat nA)), .val v'2, .unset, .unset, .unset, .unset, .unset, .unset, .unset, .unset, .unset, .unset] [(.int (Int32.ofNat M))]))
   refine own_is X0 q d0_33 (l' := #[.val (.int p1), .val (.long p2), .second, .val (.long p3), .second, .val (.int (Int32.ofNat nA)), .val v'2, .val (.int (Int32.ofNat M)), .unset, .unset, .unset, .unset, .unset, .unset, .unset, .unset, .unset]) rfl (own_lln X0 q d0_35 rfl (own_k X0 q d0_36 ?_))
   refine own_cS X0 q hZ e0 hown hml (W 0 rfl) (W 1 rfl) (W 2 rfl) (W 3 rfl) (rm1 l Z a0 hw p2 (0 : Int32) h0 n0 Z0) d0_37 [(.long p2), v'0] [] own_pd27 0 (by decide) (fun v1268 T1268 L1268 X1268 hQ1268 => ?_)
   obtain ⟨c1268, rfl, N1268q, e1268, hc1268⟩ := hQ1268
   have N1268 := Fr.app N0 N1268q
   refine own_nv (own_is X1268 q d0_40 (l' := #[.val (.int p1), .val (.long p2), .second, .val (.long p3), .second, .val (.int (Int32.ofNat nA)), .val v'2, .val (.int (Int32.ofNat M)), .val (.int c1268), .unset, .unset, .unset, .unset, .unset, .unset, .unset, .unset]) rfl (own_lln X1268 q d0_42 rfl (own_k X1268 q d0_43 ?_)))
   refine own_cS X1268 q hZ e1268 hown hml (W 0 rfl) (W 1 rfl) (W 2 rfl) (W 3 rfl) (rm1 l Z a0 hw p2 (1 : Int32) h0 n0 Z0) d0_44 [(.long p2), v'1] [] own_pd27 0 (by decide) (fun v1269 T1269 L1269 X1269 hQ1269 => ?_)
   obtain ⟨c1269, rfl, N1269q, e1269, hc1269⟩ := hQ1269
   have N1269 := Fr.app N1268 N1269q
   refine own_nv (own_is X1269 q d0_47 (l' := #[.val (.int p1), .val (.long p2), .second, .val (.long p3), .second, .val (.int (Int32.ofNat nA)), .val v'2, .val (.int (Int32.ofNat M)), .val (.int c1268), .val (.int c1269), .unset, .unset, .unset, .unset, .unset, .unset, .unset]) rfl (own_lln X1269 q d0_49 rfl (own_k X1269 q d0_50 ?_)))
   refine own_cS X1269 q hZ e1269 hown hml (W 0 rfl) (W 1 rfl) (W 2 rfl) (W 3 rfl) (rm1 l Z a0 hw p2 (2 : Int32) h0 n0 Z0) d0_51 [(.long p2), v'2] [] own_pd27 0 (by decide) (fun v1270 T1270 L1270 X1270 hQ1270 => ?_)
   obtain ⟨c1270, rfl, N1270q, e1270, hc1270⟩ := hQ1270
   have N1270 := Fr.app N1269 N1270q
   refine own_nv (own_is X1270 q d0_54 (l' := #[.val (.int p1), .val (.long p2), .second, .val (.long p3), .second, .val (.int (Int32.ofNat nA)), .val v'2, .val (.int (Int32.ofNat M)), .val (.int c1268), .val (.int c1269), .val (.int c1270), .unset, .unset, .unset, .unset, .unset, .unset]) rfl (own_lln X1270 q d0_56 rfl (own_k X1270 q d0_57 ?_)))
   refine own_cS X1270 q hZ e1270 hown hml (W 0 rfl) (W 1 rfl) (W 2 rfl) (W 3 rfl) (rm1 l Z a0 hw p3 (0 : Int32) h0 n0 Z0) d0_58 [(.long p3), v'0] [] own_pd27 0 (by decide) (fun v1271 T1271 L1271 X1271 hQ1271 => ?_)
   obtain ⟨c1271, rfl, N1271q, e1271, hc1271⟩ := hQ1271
   have N1271 := Fr.app N1270 N1271q
   refine own_nv (own_is X1271 q d0_61 (l' := #[.val (.int p1), .val (.long p2), .second, .val (.long p3), .second, .val (.int (Int32.ofNat nA)), .val v'2, .val (.int (Int32.ofNat M)), .val (.int c1268), .val (.int c1269), .val (.int c1270), .val (.int c1271), .unset, .unset, .unset, .unset, .unset]) rfl (own_lln X1271 q d0_63 rfl (own_k X1271 q d0_64 ?_)))
   refine own_cS X1271 q hZ e1271 hown hml (W 0 rfl) (W 1 rfl) (W 2 rfl) (W 3 rfl) (rm1 l Z a0 hw p3 (1 : Int32) h0 n0 Z0) d0_65 [(.long p3), v'1] [] own_pd27 0 (by decide) (fun v1272 T1272 L1272 X1272 hQ1272 => ?_)
   obtain ⟨c1272, rfl, N1272q, e1272, hc1272⟩ := hQ1272
   have N1272 := Fr.app N1271 N1272q
   refine own_nv (own_is X1272 q d0_68 (l' := #[.val (.int p1), .val (.long p2), .second, .val (.long p3), .second, .val (.int (Int32.ofNat nA)), .val v'2, .val (.int (Int32.ofNat M)), .val (.int c1268), .val (.int c1269), .val (.int c1270), .val (.int c1271), .val (.int c1272), .unset, .unset, .unset, .unset]) rfl (own_lln X1272 q d0_70 rfl (own_k X1272 q d0_71 ?_)))
   refine own_cS X1272 q hZ e1272 hown hml (W 0 rfl) (W 1 rfl) (W 2 rfl) (W 3 rfl) (rm1 l Z a0 hw p3 (2 : Int32) h0 n0 Z0) d0_72 [(.long p3), v'2] [] own_pd27 0 (by decide) (fun v1273 T1273 L1273 X1273 hQ1273 => ?_)
   obtain ⟨c1273, rfl, N1273q, e1273, hc1273⟩ := hQ1273
   have N1273 := Fr.app N1272 N1273q
   refine own_nv (own_is X1273 q d0_75 (l' := #[.val (.int p1), .val (.long p2), .second, .val (.long p3), .second, .val (.int (Int32.ofNat nA)), .val v'2, .val (.int (Int32.ofNat M)), .val (.int c1268), .val (.int c1269), .val (.int c1270), .val (.int c1271), .val (.int c1272), .val (.int c1273), .unset, .unset, .unset]) rfl ?_)
   obtain rfl : nA = 3 := (own_eqN (by omega) (by omega)).mp (show Int32.ofNat nA = Int32.ofNat 3 from hc15_1266)
   show own_Fin _ _ _ _ (T1273.setTop (mkF m 77 #[.val (.int p1), .val (.long p2), .second, .val (.long p3), .second, .val v'3, .val v'2, .val (.int (Int32.ofNat M)), .val (.int c1268), .val (.int c1269), .val (.int c1270), .val (.int c1271), .val (.int c1272), .val (.int c1273), .unset, .unset, .unset] []))
   refine own_il X1273 q d0_77 rfl (own_il X1273 q d0_79 rfl (own_il X1273 q d0_81 rfl (own_il X1273 q d0_83 rfl ?_)))
   refine own_cSh X1273 q hZ e1273 hown hml (W 5 rfl) (W 6 rfl) (W 2 rfl) (W 7 rfl) (rm2_3 l Z a0 hw c1268 c1269 c1270 cs0 h0 n0 Z0 O0 ⟨SCS, hcs⟩ ⟨SAD, SHI, SLO⟩ hc1268 hc1269 hc1270 ) d0_85 [v'3, (.int c1268), (.int c1269), (.int c1270)] [] own_pd28 0 (by decide) (fun v1274 T1274 L1274 h1274 e1274' X1274 hQ1274 => ?_)
   obtain ⟨x1274, rfl, N1274q, E1274, S1274⟩ := hQ1274
   have N1274 := Fr.app N1273 N1274q
   have ch1275 := CHr.ext E1274 hCH
   have cr1275 := CHr.trans hCR ch1275
   have zs1275 := Nat.le_trans Z0 E1274.1
   have hk1275 := Nat.le_trans hk0 E1274.1
   have od1275 := O0.ext E1274
   refine own_nv (own_as X1274 q d0_88 rfl (l' := #[.val (.int p1), .val (.long p2), .second, .val (.long p3), .second, .val v'3, .val v'2, .val (.int (Int32.ofNat M)), .val (.int c1268), .val (.int c1269), .val (.int c1270), .val (.int c1271), .val (.int c1272), .val (.int c1273), .val (.ref x1274), .unset, .unset]) rfl (own_il X1274 q d0_90 rfl (own_il X1274 q d0_92 rfl (own_il X1274 q d0_94 rfl (own_il X1274 q d0_96 rfl ?_)))))
   refine own_cSh X1274 q hZ e1274' hown hml (W 5 rfl) (W 6 rfl) (W 2 rfl) (W 7 rfl) (rm2_2 l Z a0 hw c1271 c1272 c1273 cs0 h1274 n0 zs1275 od1275 ⟨SCS, hcs⟩ ⟨SAD, SHI, SLO⟩ hc1271 hc1272 ) d0_98 [v'2, (.int c1271), (.int c1272), (.int c1273)] [] own_pd28 0 (by decide) (fun v1276 T1276 L1276 h1276 e1276' X1276 hQ1276 => ?_)
   obtain ⟨x1276, rfl, N1276q, E1276, S1276⟩ := hQ1276
   have N1276 := Fr.app N1274 N1276q
   have ch1277 := CHr.ext E1276 ch1275.1
   have cr1277 := CHr.trans cr1275 ch1277
   have zs1277 := Nat.le_trans zs1275 E1276.1
   have hk1277 := Nat.le_trans hk1275 E1276.1
   have od1277 := od1275.ext E1276
   refine own_nv (own_as X1276 q d0_101 rfl (l' := #[.val (.int p1), .val (.long p2), .second, .val (.long p3), .second, .val v'3, .val v'2, .val (.int (Int32.ofNat M)), .val (.int c1268), .val (.int c1269), .val (.int c1270), .val (.int c1271), .val (.int c1272), .val (.int c1273), .val (.ref x1274), .val (.ref x1276), .unset]) rfl (own_il X1276 q d0_103 rfl (own_il X1276 q d0_105 rfl (own_il X1276 q d0_107 rfl (own_il X1276 q d0_109 rfl (own_il X1276 q d0_111 rfl (own_il X1276 q d0_113 rfl (own_il X1276 q d0_115 rfl (own_il X1276 q d0_117 rfl ?_)))))))))
   refine own_cS X1276 q hZ e1276' hown hml (W 16 rfl) (W 17 rfl) (W 2 rfl) (W 18 rfl) (rm3_32 l Z a0 hw c1268 c1269 c1270 c1271 c1272 c1273 (own_mat (decide (c1268 = c1271)) (decide (c1268 = c1272)) false (decide (c1269 = c1271)) (decide (c1269 = c1272)) false (decide (c1270 = c1271)) (decide (c1270 = c1272))) h1276 n0 zs1277 rfl rfl rfl rfl rfl rfl) d0_119 [v'3, (.int c1268), (.int c1269), (.int c1270), v'2, (.int c1271), (.int c1272), (.int c1273)] [] own_pd21 0 (by decide) (fun v1278 T1278 L1278 X1278 hQ1278 => ?_)
   obtain ⟨rfl, N1278q, e1278⟩ := hQ1278
   have N1278 := Fr.app N1276 N1278q
   refine own_nv (own_il X1278 q d0_122 rfl (own_k X1278 q d0_124 (own_iadd X1278 q d0_125 ?_)))
   refine own_cS X1278 q hZ e1278 hown hml (W 22 rfl) (W 23 rfl) (W 24 rfl) (W 25 rfl) (rm5 l Z a0 hw (Int32.ofNat (own_refN 3 2 (own_mat (decide (c1268 = c1271)) (decide (c1268 = c1272)) false (decide (c1269 = c1271)) (decide (c1269 = c1272)) false (decide (c1270 = c1271)) (decide (c1270 = c1272))))) ((Int32.ofNat M) + (1 : Int32)) (Int32.ofNat (min (own_refN 3 2 (own_mat (decide (c1268 = c1271)) (decide (c1268 = c1272)) false (decide (c1269 = c1271)) (decide (c1269 = c1272)) false (decide (c1270 = c1271)) (decide (c1270 = c1272)))) (M + 1))) h1276 n0 zs1277 (by show own_min _ (Int32.ofNat M + Int32.ofNat 1) = _; rw [own_addN]; exact own_minN (Nat.le_trans (own_refB _ (by decide) (by decide)) (by decide)) (by omega))) d0_126 [(.int (Int32.ofNat (own_refN 3 2 (own_mat (decide (c1268 = c1271)) (decide (c1268 = c1272)) false (decide (c1269 = c1271)) (decide (c1269 = c1272)) false (decide (c1270 = c1271)) (decide (c1270 = c1272)))))), (.int ((Int32.ofNat M) + (1 : Int32)))] [] own_pd14 0 (by decide) (fun v1279 T1279 L1279 X1279 hQ1279 => ?_)
   obtain ⟨rfl, N1279q, e1279⟩ := hQ1279
   have N1279 := Fr.app N1278 N1279q
   refine own_nv (own_is X1279 q d0_129 (l' := #[.val (.int p1), .val (.long p2), .second, .val (.long p3), .second, .val v'3, .val v'2, .val (.int (Int32.ofNat M)), .val (.int c1268), .val (.int c1269), .val (.int c1270), .val (.int c1271), .val (.int c1272), .val (.int c1273), .val (.ref x1274), .val (.ref x1276), .val (.int (Int32.ofNat (min (own_refN 3 2 (own_mat (decide (c1268 = c1271)) (decide (c1268 = c1272)) false (decide (c1269 = c1271)) (decide (c1269 = c1272)) false (decide (c1270 = c1271)) (decide (c1270 = c1272)))) (M + 1))))]) rfl (own_al X1279 q d0_131 rfl rfl (own_al X1279 q d0_133 rfl rfl (own_il X1279 q d0_135 rfl ?_))))
   refine own_cSh X1279 q hZ e1279 hown hml (W 26 rfl) (W 27 rfl) (W 28 rfl) (W 29 rfl) (rm6 l Z a0 hw x1274 x1276 [c1268, c1269, c1270] [c1271, c1272] 3 2 M (own_mat (decide (c1268 = c1271)) (decide (c1268 = c1272)) false (decide (c1269 = c1271)) (decide (c1269 = c1272)) false (decide (c1270 = c1271)) (decide (c1270 = c1272))) cs0 fo h1276 n0 zs1277 od1277 ⟨SCS, hcs⟩ SIO hfo ⟨SAD, SHI, SLO⟩ (S1274.ext E1276) S1276 rfl rfl (by omega) (by omega) hM3 (fun p q hp hq => by rcases p with _ | _ | _ | p <;> rcases q with _ | _ | q <;> first | rfl | omega)) d0_137 [(.ref x1274), (.ref x1276), (.int (Int32.ofNat M))] [] own_pd29 0 (by decide) (fun v1280 T1280 L1280 h1280 e1280' X1280 hQ1280 => ?_)
   obtain ⟨rfl, N1280q, E1280⟩ := hQ1280
   have N1280 := Fr.app N1279 N1280q
   have ch1281 := CHr.ext E1280 ch1277.1
   have cr1281 := CHr.trans cr1277 ch1281
   have zs1281 := Nat.le_trans zs1277 E1280.1
   have hk1281 := Nat.le_trans hk1277 E1280.1
   have od1281 := od1277.ext E1280
   refine own_nv (own_il X1280 q d0_140 rfl (own_cn X1280 q d0_142 ((teq ((congrArg Int32.ofNat (own_fin32 M (by omega) _ _ _ _ _ _)) : (Int32.ofNat (own_win 3 2 M (own_mat (decide (c1268 = c1271)) (decide (c1268 = c1272)) false (decide (c1269 = c1271)) (decide (c1269 = c1272)) false (decide (c1270 = c1271)) (decide (c1270 = c1272))))) = (Int32.ofNat (min (own_refN 3 2 (own_mat (decide (c1268 = c1271)) (decide (c1268 = c1272)) false (decide (c1269 = c1271)) (decide (c1269 = c1272)) false (decide (c1270 = c1271)) (decide (c1270 = c1272)))) (M + 1))))).2) (own_k X1280 q d0_145 (own_gt X1280 q d0_146 ?_))))
   refine own_retNW X1280 hS0 (by rw [e1280']; exact hk1281) hx (t := .boolean) Bd.returns (by simp) (q.d d0_150) hlk ?_ (by decide) (by decide)
   exact ⟨rfl, N1280⟩
  ·refine own_cy X0 q d0_21 ((feq hc21_1267).2) (own_iln X0 q d0_27 rfl (own_k X0 q d0_28 (own_stp 30 (fun _ k => XS.iushr X0.here hx rfl (q.d d0_29) rfl k) (own_k X0 q d0_30 (own_stp 33 (fun _ k => XS.iand X0.here hx rfl (q.d d0_32) rfl k) ?_)))))
   obtain ⟨M, hM3, hM⟩ := own_and7 ((p1.toUInt32 >>> ((4 : Int32) &&& 31).toUInt32).toInt32)
   rw [hM]
   clear hM
   show own_Fin _ _ _ _ (s₁.setTop (mkF m 33 #[.val (.int p1), .val (.long p2), .second, .val (.long p3), .second, .val (.int (Int32.ofNat nA)), .val (.int (Int32.ofNat nB)), .unset, .unset, .unset, .unset, .unset, .unset, .unset, .unset, .unset, .unset] [(.int (Int32.ofNat M))]))
   refine own_is X0 q d0_33 (l' := #[.val (.int p1), .val (.long p2), .second, .val (.long p3), .second, .val (.int (Int32.ofNat nA)), .val (.int (Int32.ofNat nB)), .val (.int (Int32.ofNat M)), .unset, .unset, .unset, .unset, .unset, .unset, .unset, .unset, .unset]) rfl (own_lln X0 q d0_35 rfl (own_k X0 q d0_36 ?_))
   refine own_cS X0 q hZ e0 hown hml (W 0 rfl) (W 1 rfl) (W 2 rfl) (W 3 rfl) (rm1 l Z a0 hw p2 (0 : Int32) h0 n0 Z0) d0_37 [(.long p2), v'0] [] own_pd27 0 (by decide) (fun v1282 T1282 L1282 X1282 hQ1282 => ?_)
   obtain ⟨c1282, rfl, N1282q, e1282, hc1282⟩ := hQ1282
   have N1282 := Fr.app N0 N1282q
   refine own_nv (own_is X1282 q d0_40 (l' := #[.val (.int p1), .val (.long p2), .second, .val (.long p3), .second, .val (.int (Int32.ofNat nA)), .val (.int (Int32.ofNat nB)), .val (.int (Int32.ofNat M)), .val (.int c1282), .unset, .unset, .unset, .unset, .unset, .unset, .unset, .unset]) rfl (own_lln X1282 q d0_42 rfl (own_k X1282 q d0_43 ?_)))
   refine own_cS X1282 q hZ e1282 hown hml (W 0 rfl) (W 1 rfl) (W 2 rfl) (W 3 rfl) (rm1 l Z a0 hw p2 (1 : Int32) h0 n0 Z0) d0_44 [(.long p2), v'1] [] own_pd27 0 (by decide) (fun v1283 T1283 L1283 X1283 hQ1283 => ?_)
   obtain ⟨c1283, rfl, N1283q, e1283, hc1283⟩ := hQ1283
   have N1283 := Fr.app N1282 N1283q
   refine own_nv (own_is X1283 q d0_47 (l' := #[.val (.int p1), .val (.long p2), .second, .val (.long p3), .second, .val (.int (Int32.ofNat nA)), .val (.int (Int32.ofNat nB)), .val (.int (Int32.ofNat M)), .val (.int c1282), .val (.int c1283), .unset, .unset, .unset, .unset, .unset, .unset, .unset]) rfl (own_lln X1283 q d0_49 rfl (own_k X1283 q d0_50 ?_)))
   refine own_cS X1283 q hZ e1283 hown hml (W 0 rfl) (W 1 rfl) (W 2 rfl) (W 3 rfl) (rm1 l Z a0 hw p2 (2 : Int32) h0 n0 Z0) d0_51 [(.long p2), v'2] [] own_pd27 0 (by decide) (fun v1284 T1284 L1284 X1284 hQ1284 => ?_)
   obtain ⟨c1284, rfl, N1284q, e1284, hc1284⟩ := hQ1284
   have N1284 := Fr.app N1283 N1284q
   refine own_nv (own_is X1284 q d0_54 (l' := #[.val (.int p1), .val (.long p2), .second, .val (.long p3), .second, .val (.int (Int32.ofNat nA)), .val (.int (Int32.ofNat nB)), .val (.int (Int32.ofNat M)), .val (.int c1282), .val (.int c1283), .val (.int c1284), .unset, .unset, .unset, .unset, .unset, .unset]) rfl (own_lln X1284 q d0_56 rfl (own_k X1284 q d0_57 ?_)))
   refine own_cS X1284 q hZ e1284 hown hml (W 0 rfl) (W 1 rfl) (W 2 rfl) (W 3 rfl) (rm1 l Z a0 hw p3 (0 : Int32) h0 n0 Z0) d0_58 [(.long p3), v'0] [] own_pd27 0 (by decide) (fun v1285 T1285 L1285 X1285 hQ1285 => ?_)
   obtain ⟨c1285, rfl, N1285q, e1285, hc1285⟩ := hQ1285
   have N1285 := Fr.app N1284 N1285q
   refine own_nv (own_is X1285 q d0_61 (l' := #[.val (.int p1), .val (.long p2), .second, .val (.long p3), .second, .val (.int (Int32.ofNat nA)), .val (.int (Int32.ofNat nB)), .val (.int (Int32.ofNat M)), .val (.int c1282), .val (.int c1283), .val (.int c1284), .val (.int c1285), .unset, .unset, .unset, .unset, .unset]) rfl (own_lln X1285 q d0_63 rfl (own_k X1285 q d0_64 ?_)))
   refine own_cS X1285 q hZ e1285 hown hml (W 0 rfl) (W 1 rfl) (W 2 rfl) (W 3 rfl) (rm1 l Z a0 hw p3 (1 : Int32) h0 n0 Z0) d0_65 [(.long p3), v'1] [] own_pd27 0 (by decide) (fun v1286 T1286 L1286 X1286 hQ1286 => ?_)
   obtain ⟨c1286, rfl, N1286q, e1286, hc1286⟩ := hQ1286
   have N1286 := Fr.app N1285 N1286q
   refine own_nv (own_is X1286 q d0_68 (l' := #[.val (.int p1), .val (.long p2), .second, .val (.long p3), .second, .val (.int (Int32.ofNat nA)), .val (.int (Int32.ofNat nB)), .val (.int (Int32.ofNat M)), .val (.int c1282), .val (.int c1283), .val (.int c1284), .val (.int c1285), .val (.int c1286), .unset, .unset, .unset, .unset]) rfl (own_lln X1286 q d0_70 rfl (own_k X1286 q d0_71 ?_)))
   refine own_cS X1286 q hZ e1286 hown hml (W 0 rfl) (W 1 rfl) (W 2 rfl) (W 3 rfl) (rm1 l Z a0 hw p3 (2 : Int32) h0 n0 Z0) d0_72 [(.long p3), v'2] [] own_pd27 0 (by decide) (fun v1287 T1287 L1287 X1287 hQ1287 => ?_)
   obtain ⟨c1287, rfl, N1287q, e1287, hc1287⟩ := hQ1287
   have N1287 := Fr.app N1286 N1287q
   refine own_nv (own_is X1287 q d0_75 (l' := #[.val (.int p1), .val (.long p2), .second, .val (.long p3), .second, .val (.int (Int32.ofNat nA)), .val (.int (Int32.ofNat nB)), .val (.int (Int32.ofNat M)), .val (.int c1282), .val (.int c1283), .val (.int c1284), .val (.int c1285), .val (.int c1286), .val (.int c1287), .unset, .unset, .unset]) rfl ?_)
   obtain rfl : nA = 3 := (own_eqN (by omega) (by omega)).mp (show Int32.ofNat nA = Int32.ofNat 3 from hc15_1266)
   have hne_nB : nB ≠ 3 := fun q => hc21_1267 (by rw [q]; rfl)
   obtain rfl | rfl | rfl : nB = 0 ∨ nB = 1 ∨ nB = 2 := by omega
   ·have hk_ := hM3
    show own_Fin _ _ _ _ (T1287.setTop (mkF m 77 #[.val (.int p1), .val (.long p2), .second, .val (.long p3), .second, .val v'3, .val v'0, .val (.int (Int32.ofNat M)), .val (.int c1282), .val (.int c1283), .val (.int c1284), .val (.int c1285), .val (.int c1286), .val (.int c1287), .unset, .unset, .unset] []))
    refine own_il X1287 q d0_77 rfl (own_il X1287 q d0_79 rfl (own_il X1287 q d0_81 rfl (own_il X1287 q d0_83 rfl ?_)))
    refine own_cSh X1287 q hZ e1287 hown hml (W 5 rfl) (W 6 rfl) (W 2 rfl) (W 7 rfl) (rm2_3 l Z a0 hw c1282 c1283 c1284 cs0 h0 n0 Z0 O0 ⟨SCS, hcs⟩ ⟨SAD, SHI, SLO⟩ hc1282 hc1283 hc1284 ) d0_85 [v'3, (.int c1282), (.int c1283), (.int c1284)] [] own_pd28 0 (by decide) (fun v1288 T1288 L1288 h1288 e1288' X1288 hQ1288 => ?_)
    obtain ⟨x1288, rfl, N1288q, E1288, S1288⟩ := hQ1288
    have N1288 := Fr.app N1287 N1288q
    have ch1289 := CHr.ext E1288 hCH
    have cr1289 := CHr.trans hCR ch1289
    have zs1289 := Nat.le_trans Z0 E1288.1
    have hk1289 := Nat.le_trans hk0 E1288.1
    have od1289 := O0.ext E1288
    refine own_nv (own_as X1288 q d0_88 rfl (l' := #[.val (.int p1), .val (.long p2), .second, .val (.long p3), .second, .val v'3, .val v'0, .val (.int (Int32.ofNat M)), .val (.int c1282), .val (.int c1283), .val (.int c1284), .val (.int c1285), .val (.int c1286), .val (.int c1287), .val (.ref x1288), .unset, .unset]) rfl (own_il X1288 q d0_90 rfl (own_il X1288 q d0_92 rfl (own_il X1288 q d0_94 rfl (own_il X1288 q d0_96 rfl ?_)))))
    refine own_let ?_; intro g1291_
    obtain ⟨_, _, ⟨T1290, L1290, k1290, n1290⟩, -, X1290, hS1290, hG1290, ⟨Lc1290, hQ1290, l1290, y1290, z1290, cH1290⟩, st1290⟩ := Jvm.RoadKit.callSS X1288 hx (y := own_y38) hown (mvT hZ (W 5 rfl)) (mvT hZ (W 6 rfl)) (mvT hZ (W 2 rfl)) (mvT hZ (W 7 rfl)) (by decide) (own_backHS (W := 0) (rm2_0 l Z a0 hw [] c1285 c1286 c1287 cs0 h1288 n0 zs1289 od1289 ⟨SCS, hcs⟩ ⟨SAD, SHI, SLO⟩  hEL) hZ (W 7 rfl) (W 2 rfl) (by decide) (by decide) hEL ch1289.1 (ss := []) all0) (g := g1291_) rfl (by rw [hml]; rfl) (argsL := [v'0, (.int c1285), (.int c1286), (.int c1287)]) (rest := []) (lenOf own_pd28 rfl) rfl (by show 2 * 0 + _ ≤ _; exact Nat.le_of_eq rfl) (q.d d0_98) (fun _ _ => ⟨rfl, e1288', (by decide : 4 + 2 ≤ _), (by decide : 16 + 4 ≤ _)⟩)
    dsimp only [Pt.U, Pt.locs, Pt.cells, Pt.slots] at X1290 l1290 y1290 z1290 st1290 hQ1290
    rw [l1290, y1290, z1290] at X1290
    clear l1290 y1290 z1290
    have X1290 : Stand p l e _ (s.setVm T1290.vm) m _ below meth c T1290 _ _ _ := X1290
    have hZ1290 : Z.Warmed39 (s.setVm T1290.vm).vm := State.Warmed39.trans hZ hS1290.1
    have hown : (s.setVm T1290.vm).vm.findClass "com/example/conformance_check/conformancecheck/catalogue/EditDistanceWithinPinLaw" = some m.cls := by show T1290.vm.findClass _ = _; rw [hS1290.1.alike.findClass]; exact hown
    have hZ := hZ1290
    have hS1290 := State.Since.trans hS0 hS1290 (Nat.le_trans hk1289 (by rw [← e1288']; exact hG1290))
    obtain ⟨x1290, rfl, N1290q, E1290, S1290⟩ := hQ1290
    have N1290 := Fr.app N1288 N1290q
    obtain ⟨h1290, e1290⟩ : ∃ z, z = T1290.heap := ⟨_, rfl⟩
    have e1290' := e1290.symm
    rw [← e1290] at E1290 S1290
    rw [e1290'] at hS1290
    have hkc1290 : h1290.size ≤ h1290.size := Nat.le_refl _
    have zs1292 := Nat.le_trans zs1289 E1290.1
    have hk1292 := Nat.le_trans hk1289 E1290.1
    have od1292 := od1289.ext E1290
    rw [e1290'] at cH1290
    have cr1290 := CHr.trans cr1289 cH1290
    refine own_stp 101 (fun _ k => st1290.trans k) (own_nv (own_as X1290 q d0_101 rfl (l' := #[.val (.int p1), .val (.long p2), .second, .val (.long p3), .second, .val v'3, .val v'0, .val (.int (Int32.ofNat M)), .val (.int c1282), .val (.int c1283), .val (.int c1284), .val (.int c1285), .val (.int c1286), .val (.int c1287), .val (.ref x1288), .val (.ref x1290), .unset]) rfl (own_il X1290 q d0_103 rfl (own_il X1290 q d0_105 rfl (own_il X1290 q d0_107 rfl (own_il X1290 q d0_109 rfl (own_il X1290 q d0_111 rfl (own_il X1290 q d0_113 rfl (own_il X1290 q d0_115 rfl (own_il X1290 q d0_117 rfl ?_))))))))))
    refine own_cS X1290 q hZ e1290' hown hml (W 16 rfl) (W 17 rfl) (W 2 rfl) (W 18 rfl) (rm3_30 l Z a0 hw c1282 c1283 c1284 c1285 c1286 c1287 (own_mat false false false false false false false false) h1290 n0 zs1292 ) d0_119 [v'3, (.int c1282), (.int c1283), (.int c1284), v'0, (.int c1285), (.int c1286), (.int c1287)] [] own_pd21 0 (by decide) (fun v1293 T1293 L1293 X1293 hQ1293 => ?_)
    obtain ⟨rfl, N1293q, e1293⟩ := hQ1293
    have N1293 := Fr.app N1290 N1293q
    refine own_nv (own_il X1293 q d0_122 rfl (own_k X1293 q d0_124 (own_iadd X1293 q d0_125 ?_)))
    refine own_cS X1293 q hZ e1293 hown hml (W 22 rfl) (W 23 rfl) (W 24 rfl) (W 25 rfl) (rm5 l Z a0 hw (Int32.ofNat (own_refN 3 0 (own_mat false false false false false false false false))) ((Int32.ofNat M) + (1 : Int32)) (Int32.ofNat (min (own_refN 3 0 (own_mat false false false false false false false false)) (M + 1))) h1290 n0 zs1292 (by show own_min _ (Int32.ofNat M + Int32.ofNat 1) = _; rw [own_addN]; exact own_minN (Nat.le_trans (own_refB _ (by decide) (by decide)) (by decide)) (by omega))) d0_126 [(.int (Int32.ofNat (own_refN 3 0 (own_mat false false false false false false false false)))), (.int ((Int32.ofNat M) + (1 : Int32)))] [] own_pd14 0 (by decide) (fun v1294 T1294 L1294 X1294 hQ1294 => ?_)
    obtain ⟨rfl, N1294q, e1294⟩ := hQ1294
    have N1294 := Fr.app N1293 N1294q
    refine own_nv (own_is X1294 q d0_129 (l' := #[.val (.int p1), .val (.long p2), .second, .val (.long p3), .second, .val v'3, .val v'0, .val (.int (Int32.ofNat M)), .val (.int c1282), .val (.int c1283), .val (.int c1284), .val (.int c1285), .val (.int c1286), .val (.int c1287), .val (.ref x1288), .val (.ref x1290), .val (.int (Int32.ofNat (min (own_refN 3 0 (own_mat false false false false false false false false)) (M + 1))))]) rfl (own_al X1294 q d0_131 rfl rfl (own_al X1294 q d0_133 rfl rfl (own_il X1294 q d0_135 rfl ?_))))
    refine own_cSh X1294 q hZ e1294 hown hml (W 26 rfl) (W 27 rfl) (W 28 rfl) (W 29 rfl) (rm6 l Z a0 hw x1288 x1290 [c1282, c1283, c1284] [] 3 0 M (own_mat false false false false false false false false) cs0 fo h1290 n0 zs1292 od1292 ⟨SCS, hcs⟩ SIO hfo ⟨SAD, SHI, SLO⟩ (S1288.ext E1290) S1290 rfl rfl (by omega) (by omega) hM3 (fun p q hp hq => by omega)) d0_137 [(.ref x1288), (.ref x1290), (.int (Int32.ofNat M))] [] own_pd29 0 (by decide) (fun v1295 T1295 L1295 h1295 e1295' X1295 hQ1295 => ?_)
    obtain ⟨rfl, N1295q, E1295⟩ := hQ1295
    have N1295 := Fr.app N1294 N1295q
    have ch1296 := CHr.ext E1295 cH1290.1
    have cr1296 := CHr.trans cr1290 ch1296
    have zs1296 := Nat.le_trans zs1292 E1295.1
    have hk1296 := Nat.le_trans hkc1290 E1295.1
    have od1296 := od1292.ext E1295
    refine own_nv (own_il X1295 q d0_140 rfl (own_cn X1295 q d0_142 ((teq ((congrArg Int32.ofNat (own_fin30 M (by omega))) : (Int32.ofNat (own_win 3 0 M (own_mat false false false false false false false false))) = (Int32.ofNat (min (own_refN 3 0 (own_mat false false false false false false false false)) (M + 1))))).2) (own_k X1295 q d0_145 (own_gt X1295 q d0_146 ?_))))
    refine own_retNW X1295 hS1290 (by rw [e1295']; exact hk1296) hx (t := .boolean) Bd.returns (by simp) (q.d d0_150) hlk ?_ (by decide) (by decide)
    exact ⟨rfl, N1295⟩
   ·have hk_ := hM3
    show own_Fin _ _ _ _ (T1287.setTop (mkF m 77 #[.val (.int p1), .val (.long p2), .second, .val (.long p3), .second, .val v'3, .val v'1, .val (.int (Int32.ofNat M)), .val (.int c1282), .val (.int c1283), .val (.int c1284), .val (.int c1285), .val (.int c1286), .val (.int c1287), .unset, .unset, .unset] []))
    refine own_il X1287 q d0_77 rfl (own_il X1287 q d0_79 rfl (own_il X1287 q d0_81 rfl (own_il X1287 q d0_83 rfl ?_)))
    refine own_cSh X1287 q hZ e1287 hown hml (W 5 rfl) (W 6 rfl) (W 2 rfl) (W 7 rfl) (rm2_3 l Z a0 hw c1282 c1283 c1284 cs0 h0 n0 Z0 O0 ⟨SCS, hcs⟩ ⟨SAD, SHI, SLO⟩ hc1282 hc1283 hc1284 ) d0_85 [v'3, (.int c1282), (.int c1283), (.int c1284)] [] own_pd28 0 (by decide) (fun v1297 T1297 L1297 h1297 e1297' X1297 hQ1297 => ?_)
    obtain ⟨x1297, rfl, N1297q, E1297, S1297⟩ := hQ1297
    have N1297 := Fr.app N1287 N1297q
    have ch1298 := CHr.ext E1297 hCH
    have cr1298 := CHr.trans hCR ch1298
    have zs1298 := Nat.le_trans Z0 E1297.1
    have hk1298 := Nat.le_trans hk0 E1297.1
    have od1298 := O0.ext E1297
    refine own_nv (own_as X1297 q d0_88 rfl (l' := #[.val (.int p1), .val (.long p2), .second, .val (.long p3), .second, .val v'3, .val v'1, .val (.int (Int32.ofNat M)), .val (.int c1282), .val (.int c1283), .val (.int c1284), .val (.int c1285), .val (.int c1286), .val (.int c1287), .val (.ref x1297), .unset, .unset]) rfl (own_il X1297 q d0_90 rfl (own_il X1297 q d0_92 rfl (own_il X1297 q d0_94 rfl (own_il X1297 q d0_96 rfl ?_)))))
    refine own_cSh X1297 q hZ e1297' hown hml (W 5 rfl) (W 6 rfl) (W 2 rfl) (W 7 rfl) (rm2_1 l Z a0 hw c1285 c1286 c1287 cs0 h1297 n0 zs1298 od1298 ⟨SCS, hcs⟩ ⟨SAD, SHI, SLO⟩ hc1285 ) d0_98 [v'1, (.int c1285), (.int c1286), (.int c1287)] [] own_pd28 0 (by decide) (fun v1299 T1299 L1299 h1299 e1299' X1299 hQ1299 => ?_)
    obtain ⟨x1299, rfl, N1299q, E1299, S1299⟩ := hQ1299
    have N1299 := Fr.app N1297 N1299q
    have ch1300 := CHr.ext E1299 ch1298.1
    have cr1300 := CHr.trans cr1298 ch1300
    have zs1300 := Nat.le_trans zs1298 E1299.1
    have hk1300 := Nat.le_trans hk1298 E1299.1
    have od1300 := od1298.ext E1299
    refine own_nv (own_as X1299 q d0_101 rfl (l' := #[.val (.int p1), .val (.long p2), .second, .val (.long p3), .second, .val v'3, .val v'1, .val (.int (Int32.ofNat M)), .val (.int c1282), .val (.int c1283), .val (.int c1284), .val (.int c1285), .val (.int c1286), .val (.int c1287), .val (.ref x1297), .val (.ref x1299), .unset]) rfl (own_il X1299 q d0_103 rfl (own_il X1299 q d0_105 rfl (own_il X1299 q d0_107 rfl (own_il X1299 q d0_109 rfl (own_il X1299 q d0_111 rfl (own_il X1299 q d0_113 rfl (own_il X1299 q d0_115 rfl (own_il X1299 q d0_117 rfl ?_)))))))))
    refine own_cS X1299 q hZ e1299' hown hml (W 16 rfl) (W 17 rfl) (W 2 rfl) (W 18 rfl) (rm3_31 l Z a0 hw c1282 c1283 c1284 c1285 c1286 c1287 (own_mat (decide (c1282 = c1285)) false false (decide (c1283 = c1285)) false false (decide (c1284 = c1285)) false) h1299 n0 zs1300 rfl rfl rfl) d0_119 [v'3, (.int c1282), (.int c1283), (.int c1284), v'1, (.int c1285), (.int c1286), (.int c1287)] [] own_pd21 0 (by decide) (fun v1301 T1301 L1301 X1301 hQ1301 => ?_)
    obtain ⟨rfl, N1301q, e1301⟩ := hQ1301
    have N1301 := Fr.app N1299 N1301q
    refine own_nv (own_il X1301 q d0_122 rfl (own_k X1301 q d0_124 (own_iadd X1301 q d0_125 ?_)))
    refine own_cS X1301 q hZ e1301 hown hml (W 22 rfl) (W 23 rfl) (W 24 rfl) (W 25 rfl) (rm5 l Z a0 hw (Int32.ofNat (own_refN 3 1 (own_mat (decide (c1282 = c1285)) false false (decide (c1283 = c1285)) false false (decide (c1284 = c1285)) false))) ((Int32.ofNat M) + (1 : Int32)) (Int32.ofNat (min (own_refN 3 1 (own_mat (decide (c1282 = c1285)) false false (decide (c1283 = c1285)) false false (decide (c1284 = c1285)) false)) (M + 1))) h1299 n0 zs1300 (by show own_min _ (Int32.ofNat M + Int32.ofNat 1) = _; rw [own_addN]; exact own_minN (Nat.le_trans (own_refB _ (by decide) (by decide)) (by decide)) (by omega))) d0_126 [(.int (Int32.ofNat (own_refN 3 1 (own_mat (decide (c1282 = c1285)) false false (decide (c1283 = c1285)) false false (decide (c1284 = c1285)) false)))), (.int ((Int32.ofNat M) + (1 : Int32)))] [] own_pd14 0 (by decide) (fun v1302 T1302 L1302 X1302 hQ1302 => ?_)
    obtain ⟨rfl, N1302q, e1302⟩ := hQ1302
    have N1302 := Fr.app N1301 N1302q
    refine own_nv (own_is X1302 q d0_129 (l' := #[.val (.int p1), .val (.long p2), .second, .val (.long p3), .second, .val v'3, .val v'1, .val (.int (Int32.ofNat M)), .val (.int c1282), .val (.int c1283), .val (.int c1284), .val (.int c1285), .val (.int c1286), .val (.int c1287), .val (.ref x1297), .val (.ref x1299), .val (.int (Int32.ofNat (min (own_refN 3 1 (own_mat (decide (c1282 = c1285)) false false (decide (c1283 = c1285)) false false (decide (c1284 = c1285)) false)) (M + 1))))]) rfl (own_al X1302 q d0_131 rfl rfl (own_al X1302 q d0_133 rfl rfl (own_il X1302 q d0_135 rfl ?_))))
    refine own_cSh X1302 q hZ e1302 hown hml (W 26 rfl) (W 27 rfl) (W 28 rfl) (W 29 rfl) (rm6 l Z a0 hw x1297 x1299 [c1282, c1283, c1284] [c1285] 3 1 M (own_mat (decide (c1282 = c1285)) false false (decide (c1283 = c1285)) false false (decide (c1284 = c1285)) false) cs0 fo h1299 n0 zs1300 od1300 ⟨SCS, hcs⟩ SIO hfo ⟨SAD, SHI, SLO⟩ (S1297.ext E1299) S1299 rfl rfl (by omega) (by omega) hM3 (fun p q hp hq => by rcases p with _ | _ | _ | p <;> rcases q with _ | q <;> first | rfl | omega)) d0_137 [(.ref x1297), (.ref x1299), (.int (Int32.ofNat M))] [] own_pd29 0 (by decide) (fun v1303 T1303 L1303 h1303 e1303' X1303 hQ1303 => ?_)
    obtain ⟨rfl, N1303q, E1303⟩ := hQ1303
    have N1303 := Fr.app N1302 N1303q
    have ch1304 := CHr.ext E1303 ch1300.1
    have cr1304 := CHr.trans cr1300 ch1304
    have zs1304 := Nat.le_trans zs1300 E1303.1
    have hk1304 := Nat.le_trans hk1300 E1303.1
    have od1304 := od1300.ext E1303
    refine own_nv (own_il X1303 q d0_140 rfl (own_cn X1303 q d0_142 ((teq ((congrArg Int32.ofNat (own_fin31 M (by omega) _ _ _)) : (Int32.ofNat (own_win 3 1 M (own_mat (decide (c1282 = c1285)) false false (decide (c1283 = c1285)) false false (decide (c1284 = c1285)) false))) = (Int32.ofNat (min (own_refN 3 1 (own_mat (decide (c1282 = c1285)) false false (decide (c1283 = c1285)) false false (decide (c1284 = c1285)) false)) (M + 1))))).2) (own_k X1303 q d0_145 (own_gt X1303 q d0_146 ?_))))
    refine own_retNW X1303 hS0 (by rw [e1303']; exact hk1304) hx (t := .boolean) Bd.returns (by simp) (q.d d0_150) hlk ?_ (by decide) (by decide)
    exact ⟨rfl, N1303⟩
   ·have hk_ := hM3
    show own_Fin _ _ _ _ (T1287.setTop (mkF m 77 #[.val (.int p1), .val (.long p2), .second, .val (.long p3), .second, .val v'3, .val v'2, .val (.int (Int32.ofNat M)), .val (.int c1282), .val (.int c1283), .val (.int c1284), .val (.int c1285), .val (.int c1286), .val (.int c1287), .unset, .unset, .unset] []))
    refine own_il X1287 q d0_77 rfl (own_il X1287 q d0_79 rfl (own_il X1287 q d0_81 rfl (own_il X1287 q d0_83 rfl ?_)))
    refine own_cSh X1287 q hZ e1287 hown hml (W 5 rfl) (W 6 rfl) (W 2 rfl) (W 7 rfl) (rm2_3 l Z a0 hw c1282 c1283 c1284 cs0 h0 n0 Z0 O0 ⟨SCS, hcs⟩ ⟨SAD, SHI, SLO⟩ hc1282 hc1283 hc1284 ) d0_85 [v'3, (.int c1282), (.int c1283), (.int c1284)] [] own_pd28 0 (by decide) (fun v1305 T1305 L1305 h1305 e1305' X1305 hQ1305 => ?_)
    obtain ⟨x1305, rfl, N1305q, E1305, S1305⟩ := hQ1305
    have N1305 := Fr.app N1287 N1305q
    have ch1306 := CHr.ext E1305 hCH
    have cr1306 := CHr.trans hCR ch1306
    have zs1306 := Nat.le_trans Z0 E1305.1
    have hk1306 := Nat.le_trans hk0 E1305.1
    have od1306 := O0.ext E1305
    refine own_nv (own_as X1305 q d0_88 rfl (l' := #[.val (.int p1), .val (.long p2), .second, .val (.long p3), .second, .val v'3, .val v'2, .val (.int (Int32.ofNat M)), .val (.int c1282), .val (.int c1283), .val (.int c1284), .val (.int c1285), .val (.int c1286), .val (.int c1287), .val (.ref x1305), .unset, .unset]) rfl (own_il X1305 q d0_90 rfl (own_il X1305 q d0_92 rfl (own_il X1305 q d0_94 rfl (own_il X1305 q d0_96 rfl ?_)))))
    refine own_cSh X1305 q hZ e1305' hown hml (W 5 rfl) (W 6 rfl) (W 2 rfl) (W 7 rfl) (rm2_2 l Z a0 hw c1285 c1286 c1287 cs0 h1305 n0 zs1306 od1306 ⟨SCS, hcs⟩ ⟨SAD, SHI, SLO⟩ hc1285 hc1286 ) d0_98 [v'2, (.int c1285), (.int c1286), (.int c1287)] [] own_pd28 0 (by decide) (fun v1307 T1307 L1307 h1307 e1307' X1307 hQ1307 => ?_)
    obtain ⟨x1307, rfl, N1307q, E1307, S1307⟩ := hQ1307
    have N1307 := Fr.app N1305 N1307q
    have ch1308 := CHr.ext E1307 ch1306.1
    have cr1308 := CHr.trans cr1306 ch1308
    have zs1308 := Nat.le_trans zs1306 E1307.1
    have hk1308 := Nat.le_trans hk1306 E1307.1
    have od1308 := od1306.ext E1307
    refine own_nv (own_as X1307 q d0_101 rfl (l' := #[.val (.int p1), .val (.long p2), .second, .val (.long p3), .second, .val v'3, .val v'2, .val (.int (Int32.ofNat M)), .val (.int c1282), .val (.int c1283), .val (.int c1284), .val (.int c1285), .val (.int c1286), .val (.int c1287), .val (.ref x1305), .val (.ref x1307), .unset]) rfl (own_il X1307 q d0_103 rfl (own_il X1307 q d0_105 rfl (own_il X1307 q d0_107 rfl (own_il X1307 q d0_109 rfl (own_il X1307 q d0_111 rfl (own_il X1307 q d0_113 rfl (own_il X1307 q d0_115 rfl (own_il X1307 q d0_117 rfl ?_)))))))))
    refine own_cS X1307 q hZ e1307' hown hml (W 16 rfl) (W 17 rfl) (W 2 rfl) (W 18 rfl) (rm3_32 l Z a0 hw c1282 c1283 c1284 c1285 c1286 c1287 (own_mat (decide (c1282 = c1285)) (decide (c1282 = c1286)) false (decide (c1283 = c1285)) (decide (c1283 = c1286)) false (decide (c1284 = c1285)) (decide (c1284 = c1286))) h1307 n0 zs1308 rfl rfl rfl rfl rfl rfl) d0_119 [v'3, (.int c1282), (.int c1283), (.int c1284), v'2, (.int c1285), (.int c1286), (.int c1287)] [] own_pd21 0 (by decide) (fun v1309 T1309 L1309 X1309 hQ1309 => ?_)
    obtain ⟨rfl, N1309q, e1309⟩ := hQ1309
    have N1309 := Fr.app N1307 N1309q
    refine own_nv (own_il X1309 q d0_122 rfl (own_k X1309 q d0_124 (own_iadd X1309 q d0_125 ?_)))
    refine own_cS X1309 q hZ e1309 hown hml (W 22 rfl) (W 23 rfl) (W 24 rfl) (W 25 rfl) (rm5 l Z a0 hw (Int32.ofNat (own_refN 3 2 (own_mat (decide (c1282 = c1285)) (decide (c1282 = c1286)) false (decide (c1283 = c1285)) (decide (c1283 = c1286)) false (decide (c1284 = c1285)) (decide (c1284 = c1286))))) ((Int32.ofNat M) + (1 : Int32)) (Int32.ofNat (min (own_refN 3 2 (own_mat (decide (c1282 = c1285)) (decide (c1282 = c1286)) false (decide (c1283 = c1285)) (decide (c1283 = c1286)) false (decide (c1284 = c1285)) (decide (c1284 = c1286)))) (M + 1))) h1307 n0 zs1308 (by show own_min _ (Int32.ofNat M + Int32.ofNat 1) = _; rw [own_addN]; exact own_minN (Nat.le_trans (own_refB _ (by decide) (by decide)) (by decide)) (by omega))) d0_126 [(.int (Int32.ofNat (own_refN 3 2 (own_mat (decide (c1282 = c1285)) (decide (c1282 = c1286)) false (decide (c1283 = c1285)) (decide (c1283 = c1286)) false (decide (c1284 = c1285)) (decide (c1284 = c1286)))))), (.int ((Int32.ofNat M) + (1 : Int32)))] [] own_pd14 0 (by decide) (fun v1310 T1310 L1310 X1310 hQ1310 => ?_)
    obtain ⟨rfl, N1310q, e1310⟩ := hQ1310
    have N1310 := Fr.app N1309 N1310q
    refine own_nv (own_is X1310 q d0_129 (l' := #[.val (.int p1), .val (.long p2), .second, .val (.long p3), .second, .val v'3, .val v'2, .val (.int (Int32.ofNat M)), .val (.int c1282), .val (.int c1283), .val (.int c1284), .val (.int c1285), .val (.int c1286), .val (.int c1287), .val (.ref x1305), .val (.ref x1307), .val (.int (Int32.ofNat (min (own_refN 3 2 (own_mat (decide (c1282 = c1285)) (decide (c1282 = c1286)) false (decide (c1283 = c1285)) (decide (c1283 = c1286)) false (decide (c1284 = c1285)) (decide (c1284 = c1286)))) (M + 1))))]) rfl (own_al X1310 q d0_131 rfl rfl (own_al X1310 q d0_133 rfl rfl (own_il X1310 q d0_135 rfl ?_))))
    refine own_cSh X1310 q hZ e1310 hown hml (W 26 rfl) (W 27 rfl) (W 28 rfl) (W 29 rfl) (rm6 l Z a0 hw x1305 x1307 [c1282, c1283, c1284] [c1285, c1286] 3 2 M (own_mat (decide (c1282 = c1285)) (decide (c1282 = c1286)) false (decide (c1283 = c1285)) (decide (c1283 = c1286)) false (decide (c1284 = c1285)) (decide (c1284 = c1286))) cs0 fo h1307 n0 zs1308 od1308 ⟨SCS, hcs⟩ SIO hfo ⟨SAD, SHI, SLO⟩ (S1305.ext E1307) S1307 rfl rfl (by omega) (by omega) hM3 (fun p q hp hq => by rcases p with _ | _ | _ | p <;> rcases q with _ | _ | q <;> first | rfl | omega)) d0_137 [(.ref x1305), (.ref x1307), (.int (Int32.ofNat M))] [] own_pd29 0 (by decide) (fun v1311 T1311 L1311 h1311 e1311' X1311 hQ1311 => ?_)
    obtain ⟨rfl, N1311q, E1311⟩ := hQ1311
    have N1311 := Fr.app N1310 N1311q
    have ch1312 := CHr.ext E1311 ch1308.1
    have cr1312 := CHr.trans cr1308 ch1312
    have zs1312 := Nat.le_trans zs1308 E1311.1
    have hk1312 := Nat.le_trans hk1308 E1311.1
    have od1312 := od1308.ext E1311
    refine own_nv (own_il X1311 q d0_140 rfl (own_cn X1311 q d0_142 ((teq ((congrArg Int32.ofNat (own_fin32 M (by omega) _ _ _ _ _ _)) : (Int32.ofNat (own_win 3 2 M (own_mat (decide (c1282 = c1285)) (decide (c1282 = c1286)) false (decide (c1283 = c1285)) (decide (c1283 = c1286)) false (decide (c1284 = c1285)) (decide (c1284 = c1286))))) = (Int32.ofNat (min (own_refN 3 2 (own_mat (decide (c1282 = c1285)) (decide (c1282 = c1286)) false (decide (c1283 = c1285)) (decide (c1283 = c1286)) false (decide (c1284 = c1285)) (decide (c1284 = c1286)))) (M + 1))))).2) (own_k X1311 q d0_145 (own_gt X1311 q d0_146 ?_))))
    refine own_retNW X1311 hS0 (by rw [e1311']; exact hk1312) hx (t := .boolean) Bd.returns (by simp) (q.d d0_150) hlk ?_ (by decide) (by decide)
    exact ⟨rfl, N1311⟩
 ·refine own_cy X0 q d0_15 ((feq hc15_1266).2) (own_iln X0 q d0_27 rfl (own_k X0 q d0_28 (own_stp 30 (fun _ k => XS.iushr X0.here hx rfl (q.d d0_29) rfl k) (own_k X0 q d0_30 (own_stp 33 (fun _ k => XS.iand X0.here hx rfl (q.d d0_32) rfl k) ?_)))))
  obtain ⟨M, hM3, hM⟩ := own_and7 ((p1.toUInt32 >>> ((4 : Int32) &&& 31).toUInt32).toInt32)
  rw [hM]
  clear hM
  show own_Fin _ _ _ _ (s₁.setTop (mkF m 33 #[.val (.int p1), .val (.long p2), .second, .val (.long p3), .second, .val (.int (Int32.ofNat nA)), .val (.int (Int32.ofNat nB)), .unset, .unset, .unset, .unset, .unset, .unset, .unset, .unset, .unset, .unset] [(.int (Int32.ofNat M))]))
  refine own_is X0 q d0_33 (l' := #[.val (.int p1), .val (.long p2), .second, .val (.long p3), .second, .val (.int (Int32.ofNat nA)), .val (.int (Int32.ofNat nB)), .val (.int (Int32.ofNat M)), .unset, .unset, .unset, .unset, .unset, .unset, .unset, .unset, .unset]) rfl (own_lln X0 q d0_35 rfl (own_k X0 q d0_36 ?_))
  refine own_cS X0 q hZ e0 hown hml (W 0 rfl) (W 1 rfl) (W 2 rfl) (W 3 rfl) (rm1 l Z a0 hw p2 (0 : Int32) h0 n0 Z0) d0_37 [(.long p2), v'0] [] own_pd27 0 (by decide) (fun v1313 T1313 L1313 X1313 hQ1313 => ?_)
  obtain ⟨c1313, rfl, N1313q, e1313, hc1313⟩ := hQ1313
  have N1313 := Fr.app N0 N1313q
  refine own_nv (own_is X1313 q d0_40 (l' := #[.val (.int p1), .val (.long p2), .second, .val (.long p3), .second, .val (.int (Int32.ofNat nA)), .val (.int (Int32.ofNat nB)), .val (.int (Int32.ofNat M)), .val (.int c1313), .unset, .unset, .unset, .unset, .unset, .unset, .unset, .unset]) rfl (own_lln X1313 q d0_42 rfl (own_k X1313 q d0_43 ?_)))
  refine own_cS X1313 q hZ e1313 hown hml (W 0 rfl) (W 1 rfl) (W 2 rfl) (W 3 rfl) (rm1 l Z a0 hw p2 (1 : Int32) h0 n0 Z0) d0_44 [(.long p2), v'1] [] own_pd27 0 (by decide) (fun v1314 T1314 L1314 X1314 hQ1314 => ?_)
  obtain ⟨c1314, rfl, N1314q, e1314, hc1314⟩ := hQ1314
  have N1314 := Fr.app N1313 N1314q
  refine own_nv (own_is X1314 q d0_47 (l' := #[.val (.int p1), .val (.long p2), .second, .val (.long p3), .second, .val (.int (Int32.ofNat nA)), .val (.int (Int32.ofNat nB)), .val (.int (Int32.ofNat M)), .val (.int c1313), .val (.int c1314), .unset, .unset, .unset, .unset, .unset, .unset, .unset]) rfl (own_lln X1314 q d0_49 rfl (own_k X1314 q d0_50 ?_)))
  refine own_cS X1314 q hZ e1314 hown hml (W 0 rfl) (W 1 rfl) (W 2 rfl) (W 3 rfl) (rm1 l Z a0 hw p2 (2 : Int32) h0 n0 Z0) d0_51 [(.long p2), v'2] [] own_pd27 0 (by decide) (fun v1315 T1315 L1315 X1315 hQ1315 => ?_)
  obtain ⟨c1315, rfl, N1315q, e1315, hc1315⟩ := hQ1315
  have N1315 := Fr.app N1314 N1315q
  refine own_nv (own_is X1315 q d0_54 (l' := #[.val (.int p1), .val (.long p2), .second, .val (.long p3), .second, .val (.int (Int32.ofNat nA)), .val (.int (Int32.ofNat nB)), .val (.int (Int32.ofNat M)), .val (.int c1313), .val (.int c1314), .val (.int c1315), .unset, .unset, .unset, .unset, .unset, .unset]) rfl (own_lln X1315 q d0_56 rfl (own_k X1315 q d0_57 ?_)))
  refine own_cS X1315 q hZ e1315 hown hml (W 0 rfl) (W 1 rfl) (W 2 rfl) (W 3 rfl) (rm1 l Z a0 hw p3 (0 : Int32) h0 n0 Z0) d0_58 [(.long p3), v'0] [] own_pd27 0 (by decide) (fun v1316 T1316 L1316 X1316 hQ1316 => ?_)
  obtain ⟨c1316, rfl, N1316q, e1316, hc1316⟩ := hQ1316
  have N1316 := Fr.app N1315 N1316q
  refine own_nv (own_is X1316 q d0_61 (l' := #[.val (.int p1), .val (.long p2), .second, .val (.long p3), .second, .val (.int (Int32.ofNat nA)), .val (.int (Int32.ofNat nB)), .val (.int (Int32.ofNat M)), .val (.int c1313), .val (.int c1314), .val (.int c1315), .val (.int c1316), .unset, .unset, .unset, .unset, .unset]) rfl (own_lln X1316 q d0_63 rfl (own_k X1316 q d0_64 ?_)))
  refine own_cS X1316 q hZ e1316 hown hml (W 0 rfl) (W 1 rfl) (W 2 rfl) (W 3 rfl) (rm1 l Z a0 hw p3 (1 : Int32) h0 n0 Z0) d0_65 [(.long p3), v'1] [] own_pd27 0 (by decide) (fun v1317 T1317 L1317 X1317 hQ1317 => ?_)
  obtain ⟨c1317, rfl, N1317q, e1317, hc1317⟩ := hQ1317
  have N1317 := Fr.app N1316 N1317q
  refine own_nv (own_is X1317 q d0_68 (l' := #[.val (.int p1), .val (.long p2), .second, .val (.long p3), .second, .val (.int (Int32.ofNat nA)), .val (.int (Int32.ofNat nB)), .val (.int (Int32.ofNat M)), .val (.int c1313), .val (.int c1314), .val (.int c1315), .val (.int c1316), .val (.int c1317), .unset, .unset, .unset, .unset]) rfl (own_lln X1317 q d0_70 rfl (own_k X1317 q d0_71 ?_)))
  refine own_cS X1317 q hZ e1317 hown hml (W 0 rfl) (W 1 rfl) (W 2 rfl) (W 3 rfl) (rm1 l Z a0 hw p3 (2 : Int32) h0 n0 Z0) d0_72 [(.long p3), v'2] [] own_pd27 0 (by decide) (fun v1318 T1318 L1318 X1318 hQ1318 => ?_)
  obtain ⟨c1318, rfl, N1318q, e1318, hc1318⟩ := hQ1318
  have N1318 := Fr.app N1317 N1318q
  refine own_nv (own_is X1318 q d0_75 (l' := #[.val (.int p1), .val (.long p2), .second, .val (.long p3), .second, .val (.int (Int32.ofNat nA)), .val (.int (Int32.ofNat nB)), .val (.int (Int32.ofNat M)), .val (.int c1313), .val (.int c1314), .val (.int c1315), .val (.int c1316), .val (.int c1317), .val (.int c1318), .unset, .unset, .unset]) rfl ?_)
  have hne_nA : nA ≠ 3 := fun q => hc15_1266 (by rw [q]; rfl)
  obtain rfl | rfl | rfl : nA = 0 ∨ nA = 1 ∨ nA = 2 := by omega
  ·obtain rfl | rfl | rfl | rfl : nB = 0 ∨ nB = 1 ∨ nB = 2 ∨ nB = 3 := by omega
   ·have hk_ := hM3
    show own_Fin _ _ _ _ (T1318.setTop (mkF m 77 #[.val (.int p1), .val (.long p2), .second, .val (.long p3), .second, .val v'0, .val v'0, .val (.int (Int32.ofNat M)), .val (.int c1313), .val (.int c1314), .val (.int c1315), .val (.int c1316), .val (.int c1317), .val (.int c1318), .unset, .unset, .unset] []))
    refine own_il X1318 q d0_77 rfl (own_il X1318 q d0_79 rfl (own_il X1318 q d0_81 rfl (own_il X1318 q d0_83 rfl ?_)))
    refine own_let ?_; intro g1320_
    obtain ⟨_, _, ⟨T1319, L1319, k1319, n1319⟩, -, X1319, hS1319, hG1319, ⟨Lc1319, hQ1319, l1319, y1319, z1319, cH1319⟩, st1319⟩ := Jvm.RoadKit.callSS X1318 hx (y := own_y38) hown (mvT hZ (W 5 rfl)) (mvT hZ (W 6 rfl)) (mvT hZ (W 2 rfl)) (mvT hZ (W 7 rfl)) (by decide) (own_backHS (W := 0) (rm2_0 l Z a0 hw [] c1313 c1314 c1315 cs0 h0 n0 Z0 O0 ⟨SCS, hcs⟩ ⟨SAD, SHI, SLO⟩  hEL) hZ (W 7 rfl) (W 2 rfl) (by decide) (by decide) hEL hCH (ss := []) all0) (g := g1320_) rfl (by rw [hml]; rfl) (argsL := [v'0, (.int c1313), (.int c1314), (.int c1315)]) (rest := []) (lenOf own_pd28 rfl) rfl (by show 2 * 0 + _ ≤ _; exact Nat.le_of_eq rfl) (q.d d0_85) (fun _ _ => ⟨rfl, e1318, (by decide : 0 + 2 ≤ _), (by decide : 0 + 4 ≤ _)⟩)
    dsimp only [Pt.U, Pt.locs, Pt.cells, Pt.slots] at X1319 l1319 y1319 z1319 st1319 hQ1319
    rw [l1319, y1319, z1319] at X1319
    clear l1319 y1319 z1319
    have X1319 : Stand p l e _ (s.setVm T1319.vm) m _ below meth c T1319 _ _ _ := X1319
    have hZ1319 : Z.Warmed39 (s.setVm T1319.vm).vm := State.Warmed39.trans hZ hS1319.1
    have hown : (s.setVm T1319.vm).vm.findClass "com/example/conformance_check/conformancecheck/catalogue/EditDistanceWithinPinLaw" = some m.cls := by show T1319.vm.findClass _ = _; rw [hS1319.1.alike.findClass]; exact hown
    have hZ := hZ1319
    have hS1319 := State.Since.trans hS0 hS1319 (Nat.le_trans hk0 (by rw [← e1318]; exact hG1319))
    obtain ⟨x1319, rfl, N1319q, E1319, S1319⟩ := hQ1319
    have N1319 := Fr.app N1318 N1319q
    obtain ⟨h1319, e1319⟩ : ∃ z, z = T1319.heap := ⟨_, rfl⟩
    have e1319' := e1319.symm
    rw [← e1319] at E1319 S1319
    rw [e1319'] at hS1319
    have hkc1319 : h1319.size ≤ h1319.size := Nat.le_refl _
    have zs1321 := Nat.le_trans Z0 E1319.1
    have hk1321 := Nat.le_trans hk0 E1319.1
    have od1321 := O0.ext E1319
    rw [e1319'] at cH1319
    have cr1319 := CHr.trans hCR cH1319
    refine own_stp 88 (fun _ k => st1319.trans k) (own_nv (own_as X1319 q d0_88 rfl (l' := #[.val (.int p1), .val (.long p2), .second, .val (.long p3), .second, .val v'0, .val v'0, .val (.int (Int32.ofNat M)), .val (.int c1313), .val (.int c1314), .val (.int c1315), .val (.int c1316), .val (.int c1317), .val (.int c1318), .val (.ref x1319), .unset, .unset]) rfl (own_il X1319 q d0_90 rfl (own_il X1319 q d0_92 rfl (own_il X1319 q d0_94 rfl (own_il X1319 q d0_96 rfl ?_))))))
    refine own_let ?_; intro g1323_
    obtain ⟨_, _, ⟨T1322, L1322, k1322, n1322⟩, -, X1322, hS1322, hG1322, ⟨Lc1322, hQ1322, l1322, y1322, z1322, cH1322⟩, st1322⟩ := Jvm.RoadKit.callSS X1319 hx (y := own_y38) hown (mvT hZ (W 5 rfl)) (mvT hZ (W 6 rfl)) (mvT hZ (W 2 rfl)) (mvT hZ (W 7 rfl)) (by decide) (own_backHS (W := 0) (rm2_0 l Z a0 hw [] c1316 c1317 c1318 cs0 h1319 n0 zs1321 od1321 ⟨SCS, hcs⟩ ⟨SAD, SHI, SLO⟩  hEL) hZ (W 7 rfl) (W 2 rfl) (by decide) (by decide) hEL cH1319.1 (ss := []) all0) (g := g1323_) rfl (by rw [hml]; rfl) (argsL := [v'0, (.int c1316), (.int c1317), (.int c1318)]) (rest := []) (lenOf own_pd28 rfl) rfl (by show 2 * 0 + _ ≤ _; exact Nat.le_of_eq rfl) (q.d d0_98) (fun _ _ => ⟨rfl, e1319', (by decide : 2 + 2 ≤ _), (by decide : 4 + 4 ≤ _)⟩)
    dsimp only [Pt.U, Pt.locs, Pt.cells, Pt.slots] at X1322 l1322 y1322 z1322 st1322 hQ1322
    rw [l1322, y1322, z1322] at X1322
    clear l1322 y1322 z1322
    have X1322 : Stand p l e _ (s.setVm T1322.vm) m _ below meth c T1322 _ _ _ := X1322
    have hZ1322 : Z.Warmed39 (s.setVm T1322.vm).vm := State.Warmed39.trans hZ hS1322.1
    have hown : (s.setVm T1322.vm).vm.findClass "com/example/conformance_check/conformancecheck/catalogue/EditDistanceWithinPinLaw" = some m.cls := by show T1322.vm.findClass _ = _; rw [hS1322.1.alike.findClass]; exact hown
    have hZ := hZ1322
    have hS1322 := State.Since.trans hS1319 hS1322 (Nat.le_trans hkc1319 (by rw [← e1319']; exact hG1322))
    obtain ⟨x1322, rfl, N1322q, E1322, S1322⟩ := hQ1322
    have N1322 := Fr.app N1319 N1322q
    obtain ⟨h1322, e1322⟩ : ∃ z, z = T1322.heap := ⟨_, rfl⟩
    have e1322' := e1322.symm
    rw [← e1322] at E1322 S1322
    rw [e1322'] at hS1322
    have hkc1322 : h1322.size ≤ h1322.size := Nat.le_refl _
    have zs1324 := Nat.le_trans zs1321 E1322.1
    have hk1324 := Nat.le_trans hkc1319 E1322.1
    have od1324 := od1321.ext E1322
    rw [e1322'] at cH1322
    have cr1322 := CHr.trans cr1319 cH1322
    refine own_stp 101 (fun _ k => st1322.trans k) (own_nv (own_as X1322 q d0_101 rfl (l' := #[.val (.int p1), .val (.long p2), .second, .val (.long p3), .second, .val v'0, .val v'0, .val (.int (Int32.ofNat M)), .val (.int c1313), .val (.int c1314), .val (.int c1315), .val (.int c1316), .val (.int c1317), .val (.int c1318), .val (.ref x1319), .val (.ref x1322), .unset]) rfl (own_il X1322 q d0_103 rfl (own_il X1322 q d0_105 rfl (own_il X1322 q d0_107 rfl (own_il X1322 q d0_109 rfl (own_il X1322 q d0_111 rfl (own_il X1322 q d0_113 rfl (own_il X1322 q d0_115 rfl (own_il X1322 q d0_117 rfl ?_))))))))))
    refine own_cS X1322 q hZ e1322' hown hml (W 16 rfl) (W 17 rfl) (W 2 rfl) (W 18 rfl) (rm3_00 l Z a0 hw c1313 c1314 c1315 c1316 c1317 c1318 (own_mat false false false false false false false false) h1322 n0 zs1324 ) d0_119 [v'0, (.int c1313), (.int c1314), (.int c1315), v'0, (.int c1316), (.int c1317), (.int c1318)] [] own_pd21 0 (by decide) (fun v1325 T1325 L1325 X1325 hQ1325 => ?_)
    obtain ⟨rfl, N1325q, e1325⟩ := hQ1325
    have N1325 := Fr.app N1322 N1325q
    refine own_nv (own_il X1325 q d0_122 rfl (own_k X1325 q d0_124 (own_iadd X1325 q d0_125 ?_)))
    refine own_cS X1325 q hZ e1325 hown hml (W 22 rfl) (W 23 rfl) (W 24 rfl) (W 25 rfl) (rm5 l Z a0 hw (Int32.ofNat (own_refN 0 0 (own_mat false false false false false false false false))) ((Int32.ofNat M) + (1 : Int32)) (Int32.ofNat (min (own_refN 0 0 (own_mat false false false false false false false false)) (M + 1))) h1322 n0 zs1324 (by show own_min _ (Int32.ofNat M + Int32.ofNat 1) = _; rw [own_addN]; exact own_minN (Nat.le_trans (own_refB _ (by decide) (by decide)) (by decide)) (by omega))) d0_126 [(.int (Int32.ofNat (own_refN 0 0 (own_mat false false false false false false false false)))), (.int ((Int32.ofNat M) + (1 : Int32)))] [] own_pd14 0 (by decide) (fun v1326 T1326 L1326 X1326 hQ1326 => ?_)
    obtain ⟨rfl, N1326q, e1326⟩ := hQ1326
    have N1326 := Fr.app N1325 N1326q
    refine own_nv (own_is X1326 q d0_129 (l' := #[.val (.int p1), .val (.long p2), .second, .val (.long p3), .second, .val v'0, .val v'0, .val (.int (Int32.ofNat M)), .val (.int c1313), .val (.int c1314), .val (.int c1315), .val (.int c1316), .val (.int c1317), .val (.int c1318), .val (.ref x1319), .val (.ref x1322), .val (.int (Int32.ofNat (min (own_refN 0 0 (own_mat false false false false false false false false)) (M + 1))))]) rfl (own_al X1326 q d0_131 rfl rfl (own_al X1326 q d0_133 rfl rfl (own_il X1326 q d0_135 rfl ?_))))
    refine own_cSh X1326 q hZ e1326 hown hml (W 26 rfl) (W 27 rfl) (W 28 rfl) (W 29 rfl) (rm6 l Z a0 hw x1319 x1322 [] [] 0 0 M (own_mat false false false false false false false false) cs0 fo h1322 n0 zs1324 od1324 ⟨SCS, hcs⟩ SIO hfo ⟨SAD, SHI, SLO⟩ (S1319.ext E1322) S1322 rfl rfl (by omega) (by omega) hM3 (fun p q hp hq => by omega)) d0_137 [(.ref x1319), (.ref x1322), (.int (Int32.ofNat M))] [] own_pd29 0 (by decide) (fun v1327 T1327 L1327 h1327 e1327' X1327 hQ1327 => ?_)
    obtain ⟨rfl, N1327q, E1327⟩ := hQ1327
    have N1327 := Fr.app N1326 N1327q
    have ch1328 := CHr.ext E1327 cH1322.1
    have cr1328 := CHr.trans cr1322 ch1328
    have zs1328 := Nat.le_trans zs1324 E1327.1
    have hk1328 := Nat.le_trans hkc1322 E1327.1
    have od1328 := od1324.ext E1327
    refine own_nv (own_il X1327 q d0_140 rfl (own_cn X1327 q d0_142 ((teq ((congrArg Int32.ofNat (own_fin00 M (by omega))) : (Int32.ofNat (own_win 0 0 M (own_mat false false false false false false false false))) = (Int32.ofNat (min (own_refN 0 0 (own_mat false false false false false false false false)) (M + 1))))).2) (own_k X1327 q d0_145 (own_gt X1327 q d0_146 ?_))))
    refine own_retNW X1327 hS1322 (by rw [e1327']; exact hk1328) hx (t := .boolean) Bd.returns (by simp) (q.d d0_150) hlk ?_ (by decide) (by decide)
    exact ⟨rfl, N1327⟩
   ·have hk_ := hM3
    show own_Fin _ _ _ _ (T1318.setTop (mkF m 77 #[.val (.int p1), .val (.long p2), .second, .val (.long p3), .second, .val v'0, .val v'1, .val (.int (Int32.ofNat M)), .val (.int c1313), .val (.int c1314), .val (.int c1315), .val (.int c1316), .val (.int c1317), .val (.int c1318), .unset, .unset, .unset] []))
    refine own_il X1318 q d0_77 rfl (own_il X1318 q d0_79 rfl (own_il X1318 q d0_81 rfl (own_il X1318 q d0_83 rfl ?_)))
    refine own_let ?_; intro g1330_
    obtain ⟨_, _, ⟨T1329, L1329, k1329, n1329⟩, -, X1329, hS1329, hG1329, ⟨Lc1329, hQ1329, l1329, y1329, z1329, cH1329⟩, st1329⟩ := Jvm.RoadKit.callSS X1318 hx (y := own_y38) hown (mvT hZ (W 5 rfl)) (mvT hZ (W 6 rfl)) (mvT hZ (W 2 rfl)) (mvT hZ (W 7 rfl)) (by decide) (own_backHS (W := 0) (rm2_0 l Z a0 hw [] c1313 c1314 c1315 cs0 h0 n0 Z0 O0 ⟨SCS, hcs⟩ ⟨SAD, SHI, SLO⟩  hEL) hZ (W 7 rfl) (W 2 rfl) (by decide) (by decide) hEL hCH (ss := []) all0) (g := g1330_) rfl (by rw [hml]; rfl) (argsL := [v'0, (.int c1313), (.int c1314), (.int c1315)]) (rest := []) (lenOf own_pd28 rfl) rfl (by show 2 * 0 + _ ≤ _; exact Nat.le_of_eq rfl) (q.d d0_85) (fun _ _ => ⟨rfl, e1318, (by decide : 0 + 2 ≤ _), (by decide : 0 + 4 ≤ _)⟩)
    dsimp only [Pt.U, Pt.locs, Pt.cells, Pt.slots] at X1329 l1329 y1329 z1329 st1329 hQ1329
    rw [l1329, y1329, z1329] at X1329
    clear l1329 y1329 z1329
    have X1329 : Stand p l e _ (s.setVm T1329.vm) m _ below meth c T1329 _ _ _ := X1329
    have hZ1329 : Z.Warmed39 (s.setVm T1329.vm).vm := State.Warmed39.trans hZ hS1329.1
    have hown : (s.setVm T1329.vm).vm.findClass "com/example/conformance_check/conformancecheck/catalogue/EditDistanceWithinPinLaw" = some m.cls := by show T1329.vm.findClass _ = _; rw [hS1329.1.alike.findClass]; exact hown
    have hZ := hZ1329
    have hS1329 := State.Since.trans hS0 hS1329 (Nat.le_trans hk0 (by rw [← e1318]; exact hG1329))
    obtain ⟨x1329, rfl, N1329q, E1329, S1329⟩ := hQ1329
    have N1329 := Fr.app N1318 N1329q
    obtain ⟨h1329, e1329⟩ : ∃ z, z = T1329.heap := ⟨_, rfl⟩
    have e1329' := e1329.symm
    rw [← e1329] at E1329 S1329
    rw [e1329'] at hS1329
    have hkc1329 : h1329.size ≤ h1329.size := Nat.le_refl _
    have zs1331 := Nat.le_trans Z0 E1329.1
    have hk1331 := Nat.le_trans hk0 E1329.1
    have od1331 := O0.ext E1329
    rw [e1329'] at cH1329
    have cr1329 := CHr.trans hCR cH1329
    refine own_stp 88 (fun _ k => st1329.trans k) (own_nv (own_as X1329 q d0_88 rfl (l' := #[.val (.int p1), .val (.long p2), .second, .val (.long p3), .second, .val v'0, .val v'1, .val (.int (Int32.ofNat M)), .val (.int c1313), .val (.int c1314), .val (.int c1315), .val (.int c1316), .val (.int c1317), .val (.int c1318), .val (.ref x1329), .unset, .unset]) rfl (own_il X1329 q d0_90 rfl (own_il X1329 q d0_92 rfl (own_il X1329 q d0_94 rfl (own_il X1329 q d0_96 rfl ?_))))))
    refine own_cSh X1329 q hZ e1329' hown hml (W 5 rfl) (W 6 rfl) (W 2 rfl) (W 7 rfl) (rm2_1 l Z a0 hw c1316 c1317 c1318 cs0 h1329 n0 zs1331 od1331 ⟨SCS, hcs⟩ ⟨SAD, SHI, SLO⟩ hc1316 ) d0_98 [v'1, (.int c1316), (.int c1317), (.int c1318)] [] own_pd28 0 (by decide) (fun v1332 T1332 L1332 h1332 e1332' X1332 hQ1332 => ?_)
    obtain ⟨x1332, rfl, N1332q, E1332, S1332⟩ := hQ1332
    have N1332 := Fr.app N1329 N1332q
    have ch1333 := CHr.ext E1332 cH1329.1
    have cr1333 := CHr.trans cr1329 ch1333
    have zs1333 := Nat.le_trans zs1331 E1332.1
    have hk1333 := Nat.le_trans hkc1329 E1332.1
    have od1333 := od1331.ext E1332
    refine own_nv (own_as X1332 q d0_101 rfl (l' := #[.val (.int p1), .val (.long p2), .second, .val (.long p3), .second, .val v'0, .val v'1, .val (.int (Int32.ofNat M)), .val (.int c1313), .val (.int c1314), .val (.int c1315), .val (.int c1316), .val (.int c1317), .val (.int c1318), .val (.ref x1329), .val (.ref x1332), .unset]) rfl (own_il X1332 q d0_103 rfl (own_il X1332 q d0_105 rfl (own_il X1332 q d0_107 rfl (own_il X1332 q d0_109 rfl (own_il X1332 q d0_111 rfl (own_il X1332 q d0_113 rfl (own_il X1332 q d0_115 rfl (own_il X1332 q d0_117 rfl ?_)))))))))
    refine own_cS X1332 q hZ e1332' hown hml (W 16 rfl) (W 17 rfl) (W 2 rfl) (W 18 rfl) (rm3_01 l Z a0 hw c1313 c1314 c1315 c1316 c1317 c1318 (own_mat false false false false false false false false) h1332 n0 zs1333 ) d0_119 [v'0, (.int c1313), (.int c1314), (.int c1315), v'1, (.int c1316), (.int c1317), (.int c1318)] [] own_pd21 0 (by decide) (fun v1334 T1334 L1334 X1334 hQ1334 => ?_)
    obtain ⟨rfl, N1334q, e1334⟩ := hQ1334
    have N1334 := Fr.app N1332 N1334q
    refine own_nv (own_il X1334 q d0_122 rfl (own_k X1334 q d0_124 (own_iadd X1334 q d0_125 ?_)))
    refine own_cS X1334 q hZ e1334 hown hml (W 22 rfl) (W 23 rfl) (W 24 rfl) (W 25 rfl) (rm5 l Z a0 hw (Int32.ofNat (own_refN 0 1 (own_mat false false false false false false false false))) ((Int32.ofNat M) + (1 : Int32)) (Int32.ofNat (min (own_refN 0 1 (own_mat false false false false false false false false)) (M + 1))) h1332 n0 zs1333 (by show own_min _ (Int32.ofNat M + Int32.ofNat 1) = _; rw [own_addN]; exact own_minN (Nat.le_trans (own_refB _ (by decide) (by decide)) (by decide)) (by omega))) d0_126 [(.int (Int32.ofNat (own_refN 0 1 (own_mat false false false false false false false false)))), (.int ((Int32.ofNat M) + (1 : Int32)))] [] own_pd14 0 (by decide) (fun v1335 T1335 L1335 X1335 hQ1335 => ?_)
    obtain ⟨rfl, N1335q, e1335⟩ := hQ1335
    have N1335 := Fr.app N1334 N1335q
    refine own_nv (own_is X1335 q d0_129 (l' := #[.val (.int p1), .val (.long p2), .second, .val (.long p3), .second, .val v'0, .val v'1, .val (.int (Int32.ofNat M)), .val (.int c1313), .val (.int c1314), .val (.int c1315), .val (.int c1316), .val (.int c1317), .val (.int c1318), .val (.ref x1329), .val (.ref x1332), .val (.int (Int32.ofNat (min (own_refN 0 1 (own_mat false false false false false false false false)) (M + 1))))]) rfl (own_al X1335 q d0_131 rfl rfl (own_al X1335 q d0_133 rfl rfl (own_il X1335 q d0_135 rfl ?_))))
    refine own_cSh X1335 q hZ e1335 hown hml (W 26 rfl) (W 27 rfl) (W 28 rfl) (W 29 rfl) (rm6 l Z a0 hw x1329 x1332 [] [c1316] 0 1 M (own_mat false false false false false false false false) cs0 fo h1332 n0 zs1333 od1333 ⟨SCS, hcs⟩ SIO hfo ⟨SAD, SHI, SLO⟩ (S1329.ext E1332) S1332 rfl rfl (by omega) (by omega) hM3 (fun p q hp hq => by omega)) d0_137 [(.ref x1329), (.ref x1332), (.int (Int32.ofNat M))] [] own_pd29 0 (by decide) (fun v1336 T1336 L1336 h1336 e1336' X1336 hQ1336 => ?_)
    obtain ⟨rfl, N1336q, E1336⟩ := hQ1336
    have N1336 := Fr.app N1335 N1336q
    have ch1337 := CHr.ext E1336 ch1333.1
    have cr1337 := CHr.trans cr1333 ch1337
    have zs1337 := Nat.le_trans zs1333 E1336.1
    have hk1337 := Nat.le_trans hk1333 E1336.1
    have od1337 := od1333.ext E1336
    refine own_nv (own_il X1336 q d0_140 rfl (own_cn X1336 q d0_142 ((teq ((congrArg Int32.ofNat (own_fin01 M (by omega))) : (Int32.ofNat (own_win 0 1 M (own_mat false false false false false false false false))) = (Int32.ofNat (min (own_refN 0 1 (own_mat false false false false false false false false)) (M + 1))))).2) (own_k X1336 q d0_145 (own_gt X1336 q d0_146 ?_))))
    refine own_retNW X1336 hS1329 (by rw [e1336']; exact hk1337) hx (t := .boolean) Bd.returns (by simp) (q.d d0_150) hlk ?_ (by decide) (by decide)
    exact ⟨rfl, N1336⟩
   ·have hk_ := hM3
    show own_Fin _ _ _ _ (T1318.setTop (mkF m 77 #[.val (.int p1), .val (.long p2), .second, .val (.long p3), .second, .val v'0, .val v'2, .val (.int (Int32.ofNat M)), .val (.int c1313), .val (.int c1314), .val (.int c1315), .val (.int c1316), .val (.int c1317), .val (.int c1318), .unset, .unset, .unset] []))
    refine own_il X1318 q d0_77 rfl (own_il X1318 q d0_79 rfl (own_il X1318 q d0_81 rfl (own_il X1318 q d0_83 rfl ?_)))
    refine own_let ?_; intro g1339_
    obtain ⟨_, _, ⟨T1338, L1338, k1338, n1338⟩, -, X1338, hS1338, hG1338, ⟨Lc1338, hQ1338, l1338, y1338, z1338, cH1338⟩, st1338⟩ := Jvm.RoadKit.callSS X1318 hx (y := own_y38) hown (mvT hZ (W 5 rfl)) (mvT hZ (W 6 rfl)) (mvT hZ (W 2 rfl)) (mvT hZ (W 7 rfl)) (by decide) (own_backHS (W := 0) (rm2_0 l Z a0 hw [] c1313 c1314 c1315 cs0 h0 n0 Z0 O0 ⟨SCS, hcs⟩ ⟨SAD, SHI, SLO⟩  hEL) hZ (W 7 rfl) (W 2 rfl) (by decide) (by decide) hEL hCH (ss := []) all0) (g := g1339_) rfl (by rw [hml]; rfl) (argsL := [v'0, (.int c1313), (.int c1314), (.int c1315)]) (rest := []) (lenOf own_pd28 rfl) rfl (by show 2 * 0 + _ ≤ _; exact Nat.le_of_eq rfl) (q.d d0_85) (fun _ _ => ⟨rfl, e1318, (by decide : 0 + 2 ≤ _), (by decide : 0 + 4 ≤ _)⟩)
    dsimp only [Pt.U, Pt.locs, Pt.cells, Pt.slots] at X1338 l1338 y1338 z1338 st1338 hQ1338
    rw [l1338, y1338, z1338] at X1338
    clear l1338 y1338 z1338
    have X1338 : Stand p l e _ (s.setVm T1338.vm) m _ below meth c T1338 _ _ _ := X1338
    have hZ1338 : Z.Warmed39 (s.setVm T1338.vm).vm := State.Warmed39.trans hZ hS1338.1
    have hown : (s.setVm T1338.vm).vm.findClass "com/example/conformance_check/conformancecheck/catalogue/EditDistanceWithinPinLaw" = some m.cls := by show T1338.vm.findClass _ = _; rw [hS1338.1.alike.findClass]; exact hown
    have hZ := hZ1338
    have hS1338 := State.Since.trans hS0 hS1338 (Nat.le_trans hk0 (by rw [← e1318]; exact hG1338))
    obtain ⟨x1338, rfl, N1338q, E1338, S1338⟩ := hQ1338
    have N1338 := Fr.app N1318 N1338q
    obtain ⟨h1338, e1338⟩ : ∃ z, z = T1338.heap := ⟨_, rfl⟩
    have e1338' := e1338.symm
    rw [← e1338] at E1338 S1338
    rw [e1338'] at hS1338
    have hkc1338 : h1338.size ≤ h1338.size := Nat.le_refl _
    have zs1340 := Nat.le_trans Z0 E1338.1
    have hk1340 := Nat.le_trans hk0 E1338.1
    have od1340 := O0.ext E1338
    rw [e1338'] at cH1338
    have cr1338 := CHr.trans hCR cH1338
    refine own_stp 88 (fun _ k => st1338.trans k) (own_nv (own_as X1338 q d0_88 rfl (l' := #[.val (.int p1), .val (.long p2), .second, .val (.long p3), .second, .val v'0, .val v'2, .val (.int (Int32.ofNat M)), .val (.int c1313), .val (.int c1314), .val (.int c1315), .val (.int c1316), .val (.int c1317), .val (.int c1318), .val (.ref x1338), .unset, .unset]) rfl (own_il X1338 q d0_90 rfl (own_il X1338 q d0_92 rfl (own_il X1338 q d0_94 rfl (own_il X1338 q d0_96 rfl ?_))))))
    refine own_cSh X1338 q hZ e1338' hown hml (W 5 rfl) (W 6 rfl) (W 2 rfl) (W 7 rfl) (rm2_2 l Z a0 hw c1316 c1317 c1318 cs0 h1338 n0 zs1340 od1340 ⟨SCS, hcs⟩ ⟨SAD, SHI, SLO⟩ hc1316 hc1317 ) d0_98 [v'2, (.int c1316), (.int c1317), (.int c1318)] [] own_pd28 0 (by decide) (fun v1341 T1341 L1341 h1341 e1341' X1341 hQ1341 => ?_)
    obtain ⟨x1341, rfl, N1341q, E1341, S1341⟩ := hQ1341
    have N1341 := Fr.app N1338 N1341q
    have ch1342 := CHr.ext E1341 cH1338.1
    have cr1342 := CHr.trans cr1338 ch1342
    have zs1342 := Nat.le_trans zs1340 E1341.1
    have hk1342 := Nat.le_trans hkc1338 E1341.1
    have od1342 := od1340.ext E1341
    refine own_nv (own_as X1341 q d0_101 rfl (l' := #[.val (.int p1), .val (.long p2), .second, .val (.long p3), .second, .val v'0, .val v'2, .val (.int (Int32.ofNat M)), .val (.int c1313), .val (.int c1314), .val (.int c1315), .val (.int c1316), .val (.int c1317), .val (.int c1318), .val (.ref x1338), .val (.ref x1341), .unset]) rfl (own_il X1341 q d0_103 rfl (own_il X1341 q d0_105 rfl (own_il X1341 q d0_107 rfl (own_il X1341 q d0_109 rfl (own_il X1341 q d0_111 rfl (own_il X1341 q d0_113 rfl (own_il X1341 q d0_115 rfl (own_il X1341 q d0_117 rfl ?_)))))))))
    refine own_cS X1341 q hZ e1341' hown hml (W 16 rfl) (W 17 rfl) (W 2 rfl) (W 18 rfl) (rm3_02 l Z a0 hw c1313 c1314 c1315 c1316 c1317 c1318 (own_mat false false false false false false false false) h1341 n0 zs1342 ) d0_119 [v'0, (.int c1313), (.int c1314), (.int c1315), v'2, (.int c1316), (.int c1317), (.int c1318)] [] own_pd21 0 (by decide) (fun v1343 T1343 L1343 X1343 hQ1343 => ?_)
    obtain ⟨rfl, N1343q, e1343⟩ := hQ1343
    have N1343 := Fr.app N1341 N1343q
    refine own_nv (own_il X1343 q d0_122 rfl (own_k X1343 q d0_124 (own_iadd X1343 q d0_125 ?_)))
    refine own_cS X1343 q hZ e1343 hown hml (W 22 rfl) (W 23 rfl) (W 24 rfl) (W 25 rfl) (rm5 l Z a0 hw (Int32.ofNat (own_refN 0 2 (own_mat false false false false false false false false))) ((Int32.ofNat M) + (1 : Int32)) (Int32.ofNat (min (own_refN 0 2 (own_mat false false false false false false false false)) (M + 1))) h1341 n0 zs1342 (by show own_min _ (Int32.ofNat M + Int32.ofNat 1) = _; rw [own_addN]; exact own_minN (Nat.le_trans (own_refB _ (by decide) (by decide)) (by decide)) (by omega))) d0_126 [(.int (Int32.ofNat (own_refN 0 2 (own_mat false false false false false false false false)))), (.int ((Int32.ofNat M) + (1 : Int32)))] [] own_pd14 0 (by decide) (fun v1344 T1344 L1344 X1344 hQ1344 => ?_)
    obtain ⟨rfl, N1344q, e1344⟩ := hQ1344
    have N1344 := Fr.app N1343 N1344q
    refine own_nv (own_is X1344 q d0_129 (l' := #[.val (.int p1), .val (.long p2), .second, .val (.long p3), .second, .val v'0, .val v'2, .val (.int (Int32.ofNat M)), .val (.int c1313), .val (.int c1314), .val (.int c1315), .val (.int c1316), .val (.int c1317), .val (.int c1318), .val (.ref x1338), .val (.ref x1341), .val (.int (Int32.ofNat (min (own_refN 0 2 (own_mat false false false false false false false false)) (M + 1))))]) rfl (own_al X1344 q d0_131 rfl rfl (own_al X1344 q d0_133 rfl rfl (own_il X1344 q d0_135 rfl ?_))))
    refine own_cSh X1344 q hZ e1344 hown hml (W 26 rfl) (W 27 rfl) (W 28 rfl) (W 29 rfl) (rm6 l Z a0 hw x1338 x1341 [] [c1316, c1317] 0 2 M (own_mat false false false false false false false false) cs0 fo h1341 n0 zs1342 od1342 ⟨SCS, hcs⟩ SIO hfo ⟨SAD, SHI, SLO⟩ (S1338.ext E1341) S1341 rfl rfl (by omega) (by omega) hM3 (fun p q hp hq => by omega)) d0_137 [(.ref x1338), (.ref x1341), (.int (Int32.ofNat M))] [] own_pd29 0 (by decide) (fun v1345 T1345 L1345 h1345 e1345' X1345 hQ1345 => ?_)
    obtain ⟨rfl, N1345q, E1345⟩ := hQ1345
    have N1345 := Fr.app N1344 N1345q
    have ch1346 := CHr.ext E1345 ch1342.1
    have cr1346 := CHr.trans cr1342 ch1346
    have zs1346 := Nat.le_trans zs1342 E1345.1
    have hk1346 := Nat.le_trans hk1342 E1345.1
    have od1346 := od1342.ext E1345
    refine own_nv (own_il X1345 q d0_140 rfl (own_cn X1345 q d0_142 ((teq ((congrArg Int32.ofNat (own_fin02 M (by omega))) : (Int32.ofNat (own_win 0 2 M (own_mat false false false false false false false false))) = (Int32.ofNat (min (own_refN 0 2 (own_mat false false false false false false false false)) (M + 1))))).2) (own_k X1345 q d0_145 (own_gt X1345 q d0_146 ?_))))
    refine own_retNW X1345 hS1338 (by rw [e1345']; exact hk1346) hx (t := .boolean) Bd.returns (by simp) (q.d d0_150) hlk ?_ (by decide) (by decide)
    exact ⟨rfl, N1345⟩
   ·have hk_ := hM3
    show own_Fin _ _ _ _ (T1318.setTop (mkF m 77 #[.val (.int p1), .val (.long p2), .second, .val (.long p3), .second, .val v'0, .val v'3, .val (.int (Int32.ofNat M)), .val (.int c1313), .val (.int c1314), .val (.int c1315), .val (.int c1316), .val (.int c1317), .val (.int c1318), .unset, .unset, .unset] []))
    refine own_il X1318 q d0_77 rfl (own_il X1318 q d0_79 rfl (own_il X1318 q d0_81 rfl (own_il X1318 q d0_83 rfl ?_)))
    refine own_let ?_; intro g1348_
    obtain ⟨_, _, ⟨T1347, L1347, k1347, n1347⟩, -, X1347, hS1347, hG1347, ⟨Lc1347, hQ1347, l1347, y1347, z1347, cH1347⟩, st1347⟩ := Jvm.RoadKit.callSS X1318 hx (y := own_y38) hown (mvT hZ (W 5 rfl)) (mvT hZ (W 6 rfl)) (mvT hZ (W 2 rfl)) (mvT hZ (W 7 rfl)) (by decide) (own_backHS (W := 0) (rm2_0 l Z a0 hw [] c1313 c1314 c1315 cs0 h0 n0 Z0 O0 ⟨SCS, hcs⟩ ⟨SAD, SHI, SLO⟩  hEL) hZ (W 7 rfl) (W 2 rfl) (by decide) (by decide) hEL hCH (ss := []) all0) (g := g1348_) rfl (by rw [hml]; rfl) (argsL := [v'0, (.int c1313), (.int c1314), (.int c1315)]) (rest := []) (lenOf own_pd28 rfl) rfl (by show 2 * 0 + _ ≤ _; exact Nat.le_of_eq rfl) (q.d d0_85) (fun _ _ => ⟨rfl, e1318, (by decide : 0 + 2 ≤ _), (by decide : 0 + 4 ≤ _)⟩)
    dsimp only [Pt.U, Pt.locs, Pt.cells, Pt.slots] at X1347 l1347 y1347 z1347 st1347 hQ1347
    rw [l1347, y1347, z1347] at X1347
    clear l1347 y1347 z1347
    have X1347 : Stand p l e _ (s.setVm T1347.vm) m _ below meth c T1347 _ _ _ := X1347
    have hZ1347 : Z.Warmed39 (s.setVm T1347.vm).vm := State.Warmed39.trans hZ hS1347.1
    have hown : (s.setVm T1347.vm).vm.findClass "com/example/conformance_check/conformancecheck/catalogue/EditDistanceWithinPinLaw" = some m.cls := by show T1347.vm.findClass _ = _; rw [hS1347.1.alike.findClass]; exact hown
    have hZ := hZ1347
    have hS1347 := State.Since.trans hS0 hS1347 (Nat.le_trans hk0 (by rw [← e1318]; exact hG1347))
    obtain ⟨x1347, rfl, N1347q, E1347, S1347⟩ := hQ1347
    have N1347 := Fr.app N1318 N1347q
    obtain ⟨h1347, e1347⟩ : ∃ z, z = T1347.heap := ⟨_, rfl⟩
    have e1347' := e1347.symm
    rw [← e1347] at E1347 S1347
    rw [e1347'] at hS1347
    have hkc1347 : h1347.size ≤ h1347.size := Nat.le_refl _
    have zs1349 := Nat.le_trans Z0 E1347.1
    have hk1349 := Nat.le_trans hk0 E1347.1
    have od1349 := O0.ext E1347
    rw [e1347'] at cH1347
    have cr1347 := CHr.trans hCR cH1347
    refine own_stp 88 (fun _ k => st1347.trans k) (own_nv (own_as X1347 q d0_88 rfl (l' := #[.val (.int p1), .val (.long p2), .second, .val (.long p3), .second, .val v'0, .val v'3, .val (.int (Int32.ofNat M)), .val (.int c1313), .val (.int c1314), .val (.int c1315), .val (.int c1316), .val (.int c1317), .val (.int c1318), .val (.ref x1347), .unset, .unset]) rfl (own_il X1347 q d0_90 rfl (own_il X1347 q d0_92 rfl (own_il X1347 q d0_94 rfl (own_il X1347 q d0_96 rfl ?_))))))
    refine own_cSh X1347 q hZ e1347' hown hml (W 5 rfl) (W 6 rfl) (W 2 rfl) (W 7 rfl) (rm2_3 l Z a0 hw c1316 c1317 c1318 cs0 h1347 n0 zs1349 od1349 ⟨SCS, hcs⟩ ⟨SAD, SHI, SLO⟩ hc1316 hc1317 hc1318 ) d0_98 [v'3, (.int c1316), (.int c1317), (.int c1318)] [] own_pd28 0 (by decide) (fun v1350 T1350 L1350 h1350 e1350' X1350 hQ1350 => ?_)
    obtain ⟨x1350, rfl, N1350q, E1350, S1350⟩ := hQ1350
    have N1350 := Fr.app N1347 N1350q
    have ch1351 := CHr.ext E1350 cH1347.1
    have cr1351 := CHr.trans cr1347 ch1351
    have zs1351 := Nat.le_trans zs1349 E1350.1
    have hk1351 := Nat.le_trans hkc1347 E1350.1
    have od1351 := od1349.ext E1350
    refine own_nv (own_as X1350 q d0_101 rfl (l' := #[.val (.int p1), .val (.long p2), .second, .val (.long p3), .second, .val v'0, .val v'3, .val (.int (Int32.ofNat M)), .val (.int c1313), .val (.int c1314), .val (.int c1315), .val (.int c1316), .val (.int c1317), .val (.int c1318), .val (.ref x1347), .val (.ref x1350), .unset]) rfl (own_il X1350 q d0_103 rfl (own_il X1350 q d0_105 rfl (own_il X1350 q d0_107 rfl (own_il X1350 q d0_109 rfl (own_il X1350 q d0_111 rfl (own_il X1350 q d0_113 rfl (own_il X1350 q d0_115 rfl (own_il X1350 q d0_117 rfl ?_)))))))))
    refine own_cS X1350 q hZ e1350' hown hml (W 16 rfl) (W 17 rfl) (W 2 rfl) (W 18 rfl) (rm3_03 l Z a0 hw c1313 c1314 c1315 c1316 c1317 c1318 (own_mat false false false false false false false false) h1350 n0 zs1351 ) d0_119 [v'0, (.int c1313), (.int c1314), (.int c1315), v'3, (.int c1316), (.int c1317), (.int c1318)] [] own_pd21 0 (by decide) (fun v1352 T1352 L1352 X1352 hQ1352 => ?_)
    obtain ⟨rfl, N1352q, e1352⟩ := hQ1352
    have N1352 := Fr.app N1350 N1352q
    refine own_nv (own_il X1352 q d0_122 rfl (own_k X1352 q d0_124 (own_iadd X1352 q d0_125 ?_)))
    refine own_cS X1352 q hZ e1352 hown hml (W 22 rfl) (W 23 rfl) (W 24 rfl) (W 25 rfl) (rm5 l Z a0 hw (Int32.ofNat (own_refN 0 3 (own_mat false false false false false false false false))) ((Int32.ofNat M) + (1 : Int32)) (Int32.ofNat (min (own_refN 0 3 (own_mat false false false false false false false false)) (M + 1))) h1350 n0 zs1351 (by show own_min _ (Int32.ofNat M + Int32.ofNat 1) = _; rw [own_addN]; exact own_minN (Nat.le_trans (own_refB _ (by decide) (by decide)) (by decide)) (by omega))) d0_126 [(.int (Int32.ofNat (own_refN 0 3 (own_mat false false false false false false false false)))), (.int ((Int32.ofNat M) + (1 : Int32)))] [] own_pd14 0 (by decide) (fun v1353 T1353 L1353 X1353 hQ1353 => ?_)
    obtain ⟨rfl, N1353q, e1353⟩ := hQ1353
    have N1353 := Fr.app N1352 N1353q
    refine own_nv (own_is X1353 q d0_129 (l' := #[.val (.int p1), .val (.long p2), .second, .val (.long p3), .second, .val v'0, .val v'3, .val (.int (Int32.ofNat M)), .val (.int c1313), .val (.int c1314), .val (.int c1315), .val (.int c1316), .val (.int c1317), .val (.int c1318), .val (.ref x1347), .val (.ref x1350), .val (.int (Int32.ofNat (min (own_refN 0 3 (own_mat false false false false false false false false)) (M + 1))))]) rfl (own_al X1353 q d0_131 rfl rfl (own_al X1353 q d0_133 rfl rfl (own_il X1353 q d0_135 rfl ?_))))
    refine own_cSh X1353 q hZ e1353 hown hml (W 26 rfl) (W 27 rfl) (W 28 rfl) (W 29 rfl) (rm6 l Z a0 hw x1347 x1350 [] [c1316, c1317, c1318] 0 3 M (own_mat false false false false false false false false) cs0 fo h1350 n0 zs1351 od1351 ⟨SCS, hcs⟩ SIO hfo ⟨SAD, SHI, SLO⟩ (S1347.ext E1350) S1350 rfl rfl (by omega) (by omega) hM3 (fun p q hp hq => by omega)) d0_137 [(.ref x1347), (.ref x1350), (.int (Int32.ofNat M))] [] own_pd29 0 (by decide) (fun v1354 T1354 L1354 h1354 e1354' X1354 hQ1354 => ?_)
    obtain ⟨rfl, N1354q, E1354⟩ := hQ1354
    have N1354 := Fr.app N1353 N1354q
    have ch1355 := CHr.ext E1354 ch1351.1
    have cr1355 := CHr.trans cr1351 ch1355
    have zs1355 := Nat.le_trans zs1351 E1354.1
    have hk1355 := Nat.le_trans hk1351 E1354.1
    have od1355 := od1351.ext E1354
    refine own_nv (own_il X1354 q d0_140 rfl (own_cn X1354 q d0_142 ((teq ((congrArg Int32.ofNat (own_fin03 M (by omega))) : (Int32.ofNat (own_win 0 3 M (own_mat false false false false false false false false))) = (Int32.ofNat (min (own_refN 0 3 (own_mat false false false false false false false false)) (M + 1))))).2) (own_k X1354 q d0_145 (own_gt X1354 q d0_146 ?_))))
    refine own_retNW X1354 hS1347 (by rw [e1354']; exact hk1355) hx (t := .boolean) Bd.returns (by simp) (q.d d0_150) hlk ?_ (by decide) (by decide)
    exact ⟨rfl, N1354⟩
  ·obtain rfl | rfl | rfl | rfl : nB = 0 ∨ nB = 1 ∨ nB = 2 ∨ nB = 3 := by omega
   ·have hk_ := hM3
    show own_Fin _ _ _ _ (T1318.setTop (mkF m 77 #[.val (.int p1), .val (.long p2), .second, .val (.long p3), .second, .val v'1, .val v'0, .val (.int (Int32.ofNat M)), .val (.int c1313), .val (.int c1314), .val (.int c1315), .val (.int c1316), .val (.int c1317), .val (.int c1318), .unset, .unset, .unset] []))
    refine own_il X1318 q d0_77 rfl (own_il X1318 q d0_79 rfl (own_il X1318 q d0_81 rfl (own_il X1318 q d0_83 rfl ?_)))
    refine own_cSh X1318 q hZ e1318 hown hml (W 5 rfl) (W 6 rfl) (W 2 rfl) (W 7 rfl) (rm2_1 l Z a0 hw c1313 c1314 c1315 cs0 h0 n0 Z0 O0 ⟨SCS, hcs⟩ ⟨SAD, SHI, SLO⟩ hc1313 ) d0_85 [v'1, (.int c1313), (.int c1314), (.int c1315)] [] own_pd28 0 (by decide) (fun v1356 T1356 L1356 h1356 e1356' X1356 hQ1356 => ?_)
    obtain ⟨x1356, rfl, N1356q, E1356, S1356⟩ := hQ1356
    have N1356 := Fr.app N1318 N1356q
    have ch1357 := CHr.ext E1356 hCH
    have cr1357 := CHr.trans hCR ch1357
    have zs1357 := Nat.le_trans Z0 E1356.1
    have hk1357 := Nat.le_trans hk0 E1356.1
    have od1357 := O0.ext E1356
    refine own_nv (own_as X1356 q d0_88 rfl (l' := #[.val (.int p1), .val (.long p2), .second, .val (.long p3), .second, .val v'1, .val v'0, .val (.int (Int32.ofNat M)), .val (.int c1313), .val (.int c1314), .val (.int c1315), .val (.int c1316), .val (.int c1317), .val (.int c1318), .val (.ref x1356), .unset, .unset]) rfl (own_il X1356 q d0_90 rfl (own_il X1356 q d0_92 rfl (own_il X1356 q d0_94 rfl (own_il X1356 q d0_96 rfl ?_)))))
    refine own_let ?_; intro g1359_
    obtain ⟨_, _, ⟨T1358, L1358, k1358, n1358⟩, -, X1358, hS1358, hG1358, ⟨Lc1358, hQ1358, l1358, y1358, z1358, cH1358⟩, st1358⟩ := Jvm.RoadKit.callSS X1356 hx (y := own_y38) hown (mvT hZ (W 5 rfl)) (mvT hZ (W 6 rfl)) (mvT hZ (W 2 rfl)) (mvT hZ (W 7 rfl)) (by decide) (own_backHS (W := 0) (rm2_0 l Z a0 hw [] c1316 c1317 c1318 cs0 h1356 n0 zs1357 od1357 ⟨SCS, hcs⟩ ⟨SAD, SHI, SLO⟩  hEL) hZ (W 7 rfl) (W 2 rfl) (by decide) (by decide) hEL ch1357.1 (ss := []) all0) (g := g1359_) rfl (by rw [hml]; rfl) (argsL := [v'0, (.int c1316), (.int c1317), (.int c1318)]) (rest := []) (lenOf own_pd28 rfl) rfl (by show 2 * 0 + _ ≤ _; exact Nat.le_of_eq rfl) (q.d d0_98) (fun _ _ => ⟨rfl, e1356', (by decide : 2 + 2 ≤ _), (by decide : 6 + 4 ≤ _)⟩)
    dsimp only [Pt.U, Pt.locs, Pt.cells, Pt.slots] at X1358 l1358 y1358 z1358 st1358 hQ1358
    rw [l1358, y1358, z1358] at X1358
    clear l1358 y1358 z1358
    have X1358 : Stand p l e _ (s.setVm T1358.vm) m _ below meth c T1358 _ _ _ := X1358
    have hZ1358 : Z.Warmed39 (s.setVm T1358.vm).vm := State.Warmed39.trans hZ hS1358.1
    have hown : (s.setVm T1358.vm).vm.findClass "com/example/conformance_check/conformancecheck/catalogue/EditDistanceWithinPinLaw" = some m.cls := by show T1358.vm.findClass _ = _; rw [hS1358.1.alike.findClass]; exact hown
    have hZ := hZ1358
    have hS1358 := State.Since.trans hS0 hS1358 (Nat.le_trans hk1357 (by rw [← e1356']; exact hG1358))
    obtain ⟨x1358, rfl, N1358q, E1358, S1358⟩ := hQ1358
    have N1358 := Fr.app N1356 N1358q
    obtain ⟨h1358, e1358⟩ : ∃ z, z = T1358.heap := ⟨_, rfl⟩
    have e1358' := e1358.symm
    rw [← e1358] at E1358 S1358
    rw [e1358'] at hS1358
    have hkc1358 : h1358.size ≤ h1358.size := Nat.le_refl _
    have zs1360 := Nat.le_trans zs1357 E1358.1
    have hk1360 := Nat.le_trans hk1357 E1358.1
    have od1360 := od1357.ext E1358
    rw [e1358'] at cH1358
    have cr1358 := CHr.trans cr1357 cH1358
    refine own_stp 101 (fun _ k => st1358.trans k) (own_nv (own_as X1358 q d0_101 rfl (l' := #[.val (.int p1), .val (.long p2), .second, .val (.long p3), .second, .val v'1, .val v'0, .val (.int (Int32.ofNat M)), .val (.int c1313), .val (.int c1314), .val (.int c1315), .val (.int c1316), .val (.int c1317), .val (.int c1318), .val (.ref x1356), .val (.ref x1358), .unset]) rfl (own_il X1358 q d0_103 rfl (own_il X1358 q d0_105 rfl (own_il X1358 q d0_107 rfl (own_il X1358 q d0_109 rfl (own_il X1358 q d0_111 rfl (own_il X1358 q d0_113 rfl (own_il X1358 q d0_115 rfl (own_il X1358 q d0_117 rfl ?_))))))))))
    refine own_cS X1358 q hZ e1358' hown hml (W 16 rfl) (W 17 rfl) (W 2 rfl) (W 18 rfl) (rm3_10 l Z a0 hw c1313 c1314 c1315 c1316 c1317 c1318 (own_mat false false false false false false false false) h1358 n0 zs1360 ) d0_119 [v'1, (.int c1313), (.int c1314), (.int c1315), v'0, (.int c1316), (.int c1317), (.int c1318)] [] own_pd21 0 (by decide) (fun v1361 T1361 L1361 X1361 hQ1361 => ?_)
    obtain ⟨rfl, N1361q, e1361⟩ := hQ1361
    have N1361 := Fr.app N1358 N1361q
    refine own_nv (own_il X1361 q d0_122 rfl (own_k X1361 q d0_124 (own_iadd X1361 q d0_125 ?_)))
    refine own_cS X1361 q hZ e1361 hown hml (W 22 rfl) (W 23 rfl) (W 24 rfl) (W 25 rfl) (rm5 l Z a0 hw (Int32.ofNat (own_refN 1 0 (own_mat false false false false false false false false))) ((Int32.ofNat M) + (1 : Int32)) (Int32.ofNat (min (own_refN 1 0 (own_mat false false false false false false false false)) (M + 1))) h1358 n0 zs1360 (by show own_min _ (Int32.ofNat M + Int32.ofNat 1) = _; rw [own_addN]; exact own_minN (Nat.le_trans (own_refB _ (by decide) (by decide)) (by decide)) (by omega))) d0_126 [(.int (Int32.ofNat (own_refN 1 0 (own_mat false false false false false false false false)))), (.int ((Int32.ofNat M) + (1 : Int32)))] [] own_pd14 0 (by decide) (fun v1362 T1362 L1362 X1362 hQ1362 => ?_)
    obtain ⟨rfl, N1362q, e1362⟩ := hQ1362
    have N1362 := Fr.app N1361 N1362q
    refine own_nv (own_is X1362 q d0_129 (l' := #[.val (.int p1), .val (.long p2), .second, .val (.long p3), .second, .val v'1, .val v'0, .val (.int (Int32.ofNat M)), .val (.int c1313), .val (.int c1314), .val (.int c1315), .val (.int c1316), .val (.int c1317), .val (.int c1318), .val (.ref x1356), .val (.ref x1358), .val (.int (Int32.ofNat (min (own_refN 1 0 (own_mat false false false false false false false false)) (M + 1))))]) rfl (own_al X1362 q d0_131 rfl rfl (own_al X1362 q d0_133 rfl rfl (own_il X1362 q d0_135 rfl ?_))))
    refine own_cSh X1362 q hZ e1362 hown hml (W 26 rfl) (W 27 rfl) (W 28 rfl) (W 29 rfl) (rm6 l Z a0 hw x1356 x1358 [c1313] [] 1 0 M (own_mat false false false false false false false false) cs0 fo h1358 n0 zs1360 od1360 ⟨SCS, hcs⟩ SIO hfo ⟨SAD, SHI, SLO⟩ (S1356.ext E1358) S1358 rfl rfl (by omega) (by omega) hM3 (fun p q hp hq => by omega)) d0_137 [(.ref x1356), (.ref x1358), (.int (Int32.ofNat M))] [] own_pd29 0 (by decide) (fun v1363 T1363 L1363 h1363 e1363' X1363 hQ1363 => ?_)
    obtain ⟨rfl, N1363q, E1363⟩ := hQ1363
    have N1363 := Fr.app N1362 N1363q
    have ch1364 := CHr.ext E1363 cH1358.1
    have cr1364 := CHr.trans cr1358 ch1364
    have zs1364 := Nat.le_trans zs1360 E1363.1
    have hk1364 := Nat.le_trans hkc1358 E1363.1
    have od1364 := od1360.ext E1363
    refine own_nv (own_il X1363 q d0_140 rfl (own_cn X1363 q d0_142 ((teq ((congrArg Int32.ofNat (own_fin10 M (by omega))) : (Int32.ofNat (own_win 1 0 M (own_mat false false false false false false false false))) = (Int32.ofNat (min (own_refN 1 0 (own_mat false false false false false false false false)) (M + 1))))).2) (own_k X1363 q d0_145 (own_gt X1363 q d0_146 ?_))))
    refine own_retNW X1363 hS1358 (by rw [e1363']; exact hk1364) hx (t := .boolean) Bd.returns (by simp) (q.d d0_150) hlk ?_ (by decide) (by decide)
    exact ⟨rfl, N1363⟩
   ·have hk_ := hM3
    show own_Fin _ _ _ _ (T1318.setTop (mkF m 77 #[.val (.int p1), .val (.long p2), .second, .val (.long p3), .second, .val v'1, .val v'1, .val (.int (Int32.ofNat M)), .val (.int c1313), .val (.int c1314), .val (.int c1315), .val (.int c1316), .val (.int c1317), .val (.int c1318), .unset, .unset, .unset] []))
    refine own_il X1318 q d0_77 rfl (own_il X1318 q d0_79 rfl (own_il X1318 q d0_81 rfl (own_il X1318 q d0_83 rfl ?_)))
    refine own_cSh X1318 q hZ e1318 hown hml (W 5 rfl) (W 6 rfl) (W 2 rfl) (W 7 rfl) (rm2_1 l Z a0 hw c1313 c1314 c1315 cs0 h0 n0 Z0 O0 ⟨SCS, hcs⟩ ⟨SAD, SHI, SLO⟩ hc1313 ) d0_85 [v'1, (.int c1313), (.int c1314), (.int c1315)] [] own_pd28 0 (by decide) (fun v1365 T1365 L1365 h1365 e1365' X1365 hQ1365 => ?_)
    obtain ⟨x1365, rfl, N1365q, E1365, S1365⟩ := hQ1365
    have N1365 := Fr.app N1318 N1365q
    have ch1366 := CHr.ext E1365 hCH
    have cr1366 := CHr.trans hCR ch1366
    have zs1366 := Nat.le_trans Z0 E1365.1
    have hk1366 := Nat.le_trans hk0 E1365.1
    have od1366 := O0.ext E1365
    refine own_nv (own_as X1365 q d0_88 rfl (l' := #[.val (.int p1), .val (.long p2), .second, .val (.long p3), .second, .val v'1, .val v'1, .val (.int (Int32.ofNat M)), .val (.int c1313), .val (.int c1314), .val (.int c1315), .val (.int c1316), .val (.int c1317), .val (.int c1318), .val (.ref x1365), .unset, .unset]) rfl (own_il X1365 q d0_90 rfl (own_il X1365 q d0_92 rfl (own_il X1365 q d0_94 rfl (own_il X1365 q d0_96 rfl ?_)))))
    refine own_cSh X1365 q hZ e1365' hown hml (W 5 rfl) (W 6 rfl) (W 2 rfl) (W 7 rfl) (rm2_1 l Z a0 hw c1316 c1317 c1318 cs0 h1365 n0 zs1366 od1366 ⟨SCS, hcs⟩ ⟨SAD, SHI, SLO⟩ hc1316 ) d0_98 [v'1, (.int c1316), (.int c1317), (.int c1318)] [] own_pd28 0 (by decide) (fun v1367 T1367 L1367 h1367 e1367' X1367 hQ1367 => ?_)
    obtain ⟨x1367, rfl, N1367q, E1367, S1367⟩ := hQ1367
    have N1367 := Fr.app N1365 N1367q
    have ch1368 := CHr.ext E1367 ch1366.1
    have cr1368 := CHr.trans cr1366 ch1368
    have zs1368 := Nat.le_trans zs1366 E1367.1
    have hk1368 := Nat.le_trans hk1366 E1367.1
    have od1368 := od1366.ext E1367
    refine own_nv (own_as X1367 q d0_101 rfl (l' := #[.val (.int p1), .val (.long p2), .second, .val (.long p3), .second, .val v'1, .val v'1, .val (.int (Int32.ofNat M)), .val (.int c1313), .val (.int c1314), .val (.int c1315), .val (.int c1316), .val (.int c1317), .val (.int c1318), .val (.ref x1365), .val (.ref x1367), .unset]) rfl (own_il X1367 q d0_103 rfl (own_il X1367 q d0_105 rfl (own_il X1367 q d0_107 rfl (own_il X1367 q d0_109 rfl (own_il X1367 q d0_111 rfl (own_il X1367 q d0_113 rfl (own_il X1367 q d0_115 rfl (own_il X1367 q d0_117 rfl ?_)))))))))
    refine own_cS X1367 q hZ e1367' hown hml (W 16 rfl) (W 17 rfl) (W 2 rfl) (W 18 rfl) (rm3_11 l Z a0 hw c1313 c1314 c1315 c1316 c1317 c1318 (own_mat (decide (c1313 = c1316)) false false false false false false false) h1367 n0 zs1368 rfl) d0_119 [v'1, (.int c1313), (.int c1314), (.int c1315), v'1, (.int c1316), (.int c1317), (.int c1318)] [] own_pd21 0 (by decide) (fun v1369 T1369 L1369 X1369 hQ1369 => ?_)
    obtain ⟨rfl, N1369q, e1369⟩ := hQ1369
    have N1369 := Fr.app N1367 N1369q
    refine own_nv (own_il X1369 q d0_122 rfl (own_k X1369 q d0_124 (own_iadd X1369 q d0_125 ?_)))
    refine own_cS X1369 q hZ e1369 hown hml (W 22 rfl) (W 23 rfl) (W 24 rfl) (W 25 rfl) (rm5 l Z a0 hw (Int32.ofNat (own_refN 1 1 (own_mat (decide (c1313 = c1316)) false false false false false false false))) ((Int32.ofNat M) + (1 : Int32)) (Int32.ofNat (min (own_refN 1 1 (own_mat (decide (c1313 = c1316)) false false false false false false false)) (M + 1))) h1367 n0 zs1368 (by show own_min _ (Int32.ofNat M + Int32.ofNat 1) = _; rw [own_addN]; exact own_minN (Nat.le_trans (own_refB _ (by decide) (by decide)) (by decide)) (by omega))) d0_126 [(.int (Int32.ofNat (own_refN 1 1 (own_mat (decide (c1313 = c1316)) false false false false false false false)))), (.int ((Int32.ofNat M) + (1 : Int32)))] [] own_pd14 0 (by decide) (fun v1370 T1370 L1370 X1370 hQ1370 => ?_)
    obtain ⟨rfl, N1370q, e1370⟩ := hQ1370
    have N1370 := Fr.app N1369 N1370q
    refine own_nv (own_is X1370 q d0_129 (l' := #[.val (.int p1), .val (.long p2), .second, .val (.long p3), .second, .val v'1, .val v'1, .val (.int (Int32.ofNat M)), .val (.int c1313), .val (.int c1314), .val (.int c1315), .val (.int c1316), .val (.int c1317), .val (.int c1318), .val (.ref x1365), .val (.ref x1367), .val (.int (Int32.ofNat (min (own_refN 1 1 (own_mat (decide (c1313 = c1316)) false false false false false false false)) (M + 1))))]) rfl (own_al X1370 q d0_131 rfl rfl (own_al X1370 q d0_133 rfl rfl (own_il X1370 q d0_135 rfl ?_))))
    refine own_cSh X1370 q hZ e1370 hown hml (W 26 rfl) (W 27 rfl) (W 28 rfl) (W 29 rfl) (rm6 l Z a0 hw x1365 x1367 [c1313] [c1316] 1 1 M (own_mat (decide (c1313 = c1316)) false false false false false false false) cs0 fo h1367 n0 zs1368 od1368 ⟨SCS, hcs⟩ SIO hfo ⟨SAD, SHI, SLO⟩ (S1365.ext E1367) S1367 rfl rfl (by omega) (by omega) hM3 (fun p q hp hq => by rcases p with _ | p <;> rcases q with _ | q <;> first | rfl | omega)) d0_137 [(.ref x1365), (.ref x1367), (.int (Int32.ofNat M))] [] own_pd29 0 (by decide) (fun v1371 T1371 L1371 h1371 e1371' X1371 hQ1371 => ?_)
    obtain ⟨rfl, N1371q, E1371⟩ := hQ1371
    have N1371 := Fr.app N1370 N1371q
    have ch1372 := CHr.ext E1371 ch1368.1
    have cr1372 := CHr.trans cr1368 ch1372
    have zs1372 := Nat.le_trans zs1368 E1371.1
    have hk1372 := Nat.le_trans hk1368 E1371.1
    have od1372 := od1368.ext E1371
    refine own_nv (own_il X1371 q d0_140 rfl (own_cn X1371 q d0_142 ((teq ((congrArg Int32.ofNat (own_fin11 M (by omega) _)) : (Int32.ofNat (own_win 1 1 M (own_mat (decide (c1313 = c1316)) false false false false false false false))) = (Int32.ofNat (min (own_refN 1 1 (own_mat (decide (c1313 = c1316)) false false false false false false false)) (M + 1))))).2) (own_k X1371 q d0_145 (own_gt X1371 q d0_146 ?_))))
    refine own_retNW X1371 hS0 (by rw [e1371']; exact hk1372) hx (t := .boolean) Bd.returns (by simp) (q.d d0_150) hlk ?_ (by decide) (by decide)
    exact ⟨rfl, N1371⟩
   ·have hk_ := hM3
    show own_Fin _ _ _ _ (T1318.setTop (mkF m 77 #[.val (.int p1), .val (.long p2), .second, .val (.long p3), .second, .val v'1, .val v'2, .val (.int (Int32.ofNat M)), .val (.int c1313), .val (.int c1314), .val (.int c1315), .val (.int c1316), .val (.int c1317), .val (.int c1318), .unset, .unset, .unset] []))
    refine own_il X1318 q d0_77 rfl (own_il X1318 q d0_79 rfl (own_il X1318 q d0_81 rfl (own_il X1318 q d0_83 rfl ?_)))
    refine own_cSh X1318 q hZ e1318 hown hml (W 5 rfl) (W 6 rfl) (W 2 rfl) (W 7 rfl) (rm2_1 l Z a0 hw c1313 c1314 c1315 cs0 h0 n0 Z0 O0 ⟨SCS, hcs⟩ ⟨SAD, SHI, SLO⟩ hc1313 ) d0_85 [v'1, (.int c1313), (.int c1314), (.int c1315)] [] own_pd28 0 (by decide) (fun v1373 T1373 L1373 h1373 e1373' X1373 hQ1373 => ?_)
    obtain ⟨x1373, rfl, N1373q, E1373, S1373⟩ := hQ1373
    have N1373 := Fr.app N1318 N1373q
    have ch1374 := CHr.ext E1373 hCH
    have cr1374 := CHr.trans hCR ch1374
    have zs1374 := Nat.le_trans Z0 E1373.1
    have hk1374 := Nat.le_trans hk0 E1373.1
    have od1374 := O0.ext E1373
    refine own_nv (own_as X1373 q d0_88 rfl (l' := #[.val (.int p1), .val (.long p2), .second, .val (.long p3), .second, .val v'1, .val v'2, .val (.int (Int32.ofNat M)), .val (.int c1313), .val (.int c1314), .val (.int c1315), .val (.int c1316), .val (.int c1317), .val (.int c1318), .val (.ref x1373), .unset, .unset]) rfl (own_il X1373 q d0_90 rfl (own_il X1373 q d0_92 rfl (own_il X1373 q d0_94 rfl (own_il X1373 q d0_96 rfl ?_)))))
    refine own_cSh X1373 q hZ e1373' hown hml (W 5 rfl) (W 6 rfl) (W 2 rfl) (W 7 rfl) (rm2_2 l Z a0 hw c1316 c1317 c1318 cs0 h1373 n0 zs1374 od1374 ⟨SCS, hcs⟩ ⟨SAD, SHI, SLO⟩ hc1316 hc1317 ) d0_98 [v'2, (.int c1316), (.int c1317), (.int c1318)] [] own_pd28 0 (by decide) (fun v1375 T1375 L1375 h1375 e1375' X1375 hQ1375 => ?_)
    obtain ⟨x1375, rfl, N1375q, E1375, S1375⟩ := hQ1375
    have N1375 := Fr.app N1373 N1375q
    have ch1376 := CHr.ext E1375 ch1374.1
    have cr1376 := CHr.trans cr1374 ch1376
    have zs1376 := Nat.le_trans zs1374 E1375.1
    have hk1376 := Nat.le_trans hk1374 E1375.1
    have od1376 := od1374.ext E1375
    refine own_nv (own_as X1375 q d0_101 rfl (l' := #[.val (.int p1), .val (.long p2), .second, .val (.long p3), .second, .val v'1, .val v'2, .val (.int (Int32.ofNat M)), .val (.int c1313), .val (.int c1314), .val (.int c1315), .val (.int c1316), .val (.int c1317), .val (.int c1318), .val (.ref x1373), .val (.ref x1375), .unset]) rfl (own_il X1375 q d0_103 rfl (own_il X1375 q d0_105 rfl (own_il X1375 q d0_107 rfl (own_il X1375 q d0_109 rfl (own_il X1375 q d0_111 rfl (own_il X1375 q d0_113 rfl (own_il X1375 q d0_115 rfl (own_il X1375 q d0_117 rfl ?_)))))))))
    refine own_cS X1375 q hZ e1375' hown hml (W 16 rfl) (W 17 rfl) (W 2 rfl) (W 18 rfl) (rm3_12 l Z a0 hw c1313 c1314 c1315 c1316 c1317 c1318 (own_mat (decide (c1313 = c1316)) (decide (c1313 = c1317)) false false false false false false) h1375 n0 zs1376 rfl rfl) d0_119 [v'1, (.int c1313), (.int c1314), (.int c1315), v'2, (.int c1316), (.int c1317), (.int c1318)] [] own_pd21 0 (by decide) (fun v1377 T1377 L1377 X1377 hQ1377 => ?_)
    obtain ⟨rfl, N1377q, e1377⟩ := hQ1377
    have N1377 := Fr.app N1375 N1377q
    refine own_nv (own_il X1377 q d0_122 rfl (own_k X1377 q d0_124 (own_iadd X1377 q d0_125 ?_)))
    refine own_cS X1377 q hZ e1377 hown hml (W 22 rfl) (W 23 rfl) (W 24 rfl) (W 25 rfl) (rm5 l Z a0 hw (Int32.ofNat (own_refN 1 2 (own_mat (decide (c1313 = c1316)) (decide (c1313 = c1317)) false false false false false false))) ((Int32.ofNat M) + (1 : Int32)) (Int32.ofNat (min (own_refN 1 2 (own_mat (decide (c1313 = c1316)) (decide (c1313 = c1317)) false false false false false false)) (M + 1))) h1375 n0 zs1376 (by show own_min _ (Int32.ofNat M + Int32.ofNat 1) = _; rw [own_addN]; exact own_minN (Nat.le_trans (own_refB _ (by decide) (by decide)) (by decide)) (by omega))) d0_126 [(.int (Int32.ofNat (own_refN 1 2 (own_mat (decide (c1313 = c1316)) (decide (c1313 = c1317)) false false false false false false)))), (.int ((Int32.ofNat M) + (1 : Int32)))] [] own_pd14 0 (by decide) (fun v1378 T1378 L1378 X1378 hQ1378 => ?_)
    obtain ⟨rfl, N1378q, e1378⟩ := hQ1378
    have N1378 := Fr.app N1377 N1378q
    refine own_nv (own_is X1378 q d0_129 (l' := #[.val (.int p1), .val (.long p2), .second, .val (.long p3), .second, .val v'1, .val v'2, .val (.int (Int32.ofNat M)), .val (.int c1313), .val (.int c1314), .val (.int c1315), .val (.int c1316), .val (.int c1317), .val (.int c1318), .val (.ref x1373), .val (.ref x1375), .val (.int (Int32.ofNat (min (own_refN 1 2 (own_mat (decide (c1313 = c1316)) (decide (c1313 = c1317)) false false false false false false)) (M + 1))))]) rfl (own_al X1378 q d0_131 rfl rfl (own_al X1378 q d0_133 rfl rfl (own_il X1378 q d0_135 rfl ?_))))
    refine own_cSh X1378 q hZ e1378 hown hml (W 26 rfl) (W 27 rfl) (W 28 rfl) (W 29 rfl) (rm6 l Z a0 hw x1373 x1375 [c1313] [c1316, c1317] 1 2 M (own_mat (decide (c1313 = c1316)) (decide (c1313 = c1317)) false false false false false false) cs0 fo h1375 n0 zs1376 od1376 ⟨SCS, hcs⟩ SIO hfo ⟨SAD, SHI, SLO⟩ (S1373.ext E1375) S1375 rfl rfl (by omega) (by omega) hM3 (fun p q hp hq => by rcases p with _ | p <;> rcases q with _ | _ | q <;> first | rfl | omega)) d0_137 [(.ref x1373), (.ref x1375), (.int (Int32.ofNat M))] [] own_pd29 0 (by decide) (fun v1379 T1379 L1379 h1379 e1379' X1379 hQ1379 => ?_)
    obtain ⟨rfl, N1379q, E1379⟩ := hQ1379
    have N1379 := Fr.app N1378 N1379q
    have ch1380 := CHr.ext E1379 ch1376.1
    have cr1380 := CHr.trans cr1376 ch1380
    have zs1380 := Nat.le_trans zs1376 E1379.1
    have hk1380 := Nat.le_trans hk1376 E1379.1
    have od1380 := od1376.ext E1379
    refine own_nv (own_il X1379 q d0_140 rfl (own_cn X1379 q d0_142 ((teq ((congrArg Int32.ofNat (own_fin12 M (by omega) _ _)) : (Int32.ofNat (own_win 1 2 M (own_mat (decide (c1313 = c1316)) (decide (c1313 = c1317)) false false false false false false))) = (Int32.ofNat (min (own_refN 1 2 (own_mat (decide (c1313 = c1316)) (decide (c1313 = c1317)) false false false false false false)) (M + 1))))).2) (own_k X1379 q d0_145 (own_gt X1379 q d0_146 ?_))))
    refine own_retNW X1379 hS0 (by rw [e1379']; exact hk1380) hx (t := .boolean) Bd.returns (by simp) (q.d d0_150) hlk ?_ (by decide) (by decide)
    exact ⟨rfl, N1379⟩
   ·have hk_ := hM3
    show own_Fin _ _ _ _ (T1318.setTop (mkF m 77 #[.val (.int p1), .val (.long p2), .second, .val (.long p3), .second, .val v'1, .val v'3, .val (.int (Int32.ofNat M)), .val (.int c1313), .val (.int c1314), .val (.int c1315), .val (.int c1316), .val (.int c1317), .val (.int c1318), .unset, .unset, .unset] []))
    refine own_il X1318 q d0_77 rfl (own_il X1318 q d0_79 rfl (own_il X1318 q d0_81 rfl (own_il X1318 q d0_83 rfl ?_)))
    refine own_cSh X1318 q hZ e1318 hown hml (W 5 rfl) (W 6 rfl) (W 2 rfl) (W 7 rfl) (rm2_1 l Z a0 hw c1313 c1314 c1315 cs0 h0 n0 Z0 O0 ⟨SCS, hcs⟩ ⟨SAD, SHI, SLO⟩ hc1313 ) d0_85 [v'1, (.int c1313), (.int c1314), (.int c1315)] [] own_pd28 0 (by decide) (fun v1381 T1381 L1381 h1381 e1381' X1381 hQ1381 => ?_)
    obtain ⟨x1381, rfl, N1381q, E1381, S1381⟩ := hQ1381
    have N1381 := Fr.app N1318 N1381q
    have ch1382 := CHr.ext E1381 hCH
    have cr1382 := CHr.trans hCR ch1382
    have zs1382 := Nat.le_trans Z0 E1381.1
    have hk1382 := Nat.le_trans hk0 E1381.1
    have od1382 := O0.ext E1381
    refine own_nv (own_as X1381 q d0_88 rfl (l' := #[.val (.int p1), .val (.long p2), .second, .val (.long p3), .second, .val v'1, .val v'3, .val (.int (Int32.ofNat M)), .val (.int c1313), .val (.int c1314), .val (.int c1315), .val (.int c1316), .val (.int c1317), .val (.int c1318), .val (.ref x1381), .unset, .unset]) rfl (own_il X1381 q d0_90 rfl (own_il X1381 q d0_92 rfl (own_il X1381 q d0_94 rfl (own_il X1381 q d0_96 rfl ?_)))))
    refine own_cSh X1381 q hZ e1381' hown hml (W 5 rfl) (W 6 rfl) (W 2 rfl) (W 7 rfl) (rm2_3 l Z a0 hw c1316 c1317 c1318 cs0 h1381 n0 zs1382 od1382 ⟨SCS, hcs⟩ ⟨SAD, SHI, SLO⟩ hc1316 hc1317 hc1318 ) d0_98 [v'3, (.int c1316), (.int c1317), (.int c1318)] [] own_pd28 0 (by decide) (fun v1383 T1383 L1383 h1383 e1383' X1383 hQ1383 => ?_)
    obtain ⟨x1383, rfl, N1383q, E1383, S1383⟩ := hQ1383
    have N1383 := Fr.app N1381 N1383q
    have ch1384 := CHr.ext E1383 ch1382.1
    have cr1384 := CHr.trans cr1382 ch1384
    have zs1384 := Nat.le_trans zs1382 E1383.1
    have hk1384 := Nat.le_trans hk1382 E1383.1
    have od1384 := od1382.ext E1383
    refine own_nv (own_as X1383 q d0_101 rfl (l' := #[.val (.int p1), .val (.long p2), .second, .val (.long p3), .second, .val v'1, .val v'3, .val (.int (Int32.ofNat M)), .val (.int c1313), .val (.int c1314), .val (.int c1315), .val (.int c1316), .val (.int c1317), .val (.int c1318), .val (.ref x1381), .val (.ref x1383), .unset]) rfl (own_il X1383 q d0_103 rfl (own_il X1383 q d0_105 rfl (own_il X1383 q d0_107 rfl (own_il X1383 q d0_109 rfl (own_il X1383 q d0_111 rfl (own_il X1383 q d0_113 rfl (own_il X1383 q d0_115 rfl (own_il X1383 q d0_117 rfl ?_)))))))))
    refine own_cS X1383 q hZ e1383' hown hml (W 16 rfl) (W 17 rfl) (W 2 rfl) (W 18 rfl) (rm3_13 l Z a0 hw c1313 c1314 c1315 c1316 c1317 c1318 (own_mat (decide (c1313 = c1316)) (decide (c1313 = c1317)) (decide (c1313 = c1318)) false false false false false) h1383 n0 zs1384 rfl rfl rfl) d0_119 [v'1, (.int c1313), (.int c1314), (.int c1315), v'3, (.int c1316), (.int c1317), (.int c1318)] [] own_pd21 0 (by decide) (fun v1385 T1385 L1385 X1385 hQ1385 => ?_)
    obtain ⟨rfl, N1385q, e1385⟩ := hQ1385
    have N1385 := Fr.app N1383 N1385q
    refine own_nv (own_il X1385 q d0_122 rfl (own_k X1385 q d0_124 (own_iadd X1385 q d0_125 ?_)))
    refine own_cS X1385 q hZ e1385 hown hml (W 22 rfl) (W 23 rfl) (W 24 rfl) (W 25 rfl) (rm5 l Z a0 hw (Int32.ofNat (own_refN 1 3 (own_mat (decide (c1313 = c1316)) (decide (c1313 = c1317)) (decide (c1313 = c1318)) false false false false false))) ((Int32.ofNat M) + (1 : Int32)) (Int32.ofNat (min (own_refN 1 3 (own_mat (decide (c1313 = c1316)) (decide (c1313 = c1317)) (decide (c1313 = c1318)) false false false false false)) (M + 1))) h1383 n0 zs1384 (by show own_min _ (Int32.ofNat M + Int32.ofNat 1) = _; rw [own_addN]; exact own_minN (Nat.le_trans (own_refB _ (by decide) (by decide)) (by decide)) (by omega))) d0_126 [(.int (Int32.ofNat (own_refN 1 3 (own_mat (decide (c1313 = c1316)) (decide (c1313 = c1317)) (decide (c1313 = c1318)) false false false false false)))), (.int ((Int32.ofNat M) + (1 : Int32)))] [] own_pd14 0 (by decide) (fun v1386 T1386 L1386 X1386 hQ1386 => ?_)
    obtain ⟨rfl, N1386q, e1386⟩ := hQ1386
    have N1386 := Fr.app N1385 N1386q
    refine own_nv (own_is X1386 q d0_129 (l' := #[.val (.int p1), .val (.long p2), .second, .val (.long p3), .second, .val v'1, .val v'3, .val (.int (Int32.ofNat M)), .val (.int c1313), .val (.int c1314), .val (.int c1315), .val (.int c1316), .val (.int c1317), .val (.int c1318), .val (.ref x1381), .val (.ref x1383), .val (.int (Int32.ofNat (min (own_refN 1 3 (own_mat (decide (c1313 = c1316)) (decide (c1313 = c1317)) (decide (c1313 = c1318)) false false false false false)) (M + 1))))]) rfl (own_al X1386 q d0_131 rfl rfl (own_al X1386 q d0_133 rfl rfl (own_il X1386 q d0_135 rfl ?_))))
    refine own_cSh X1386 q hZ e1386 hown hml (W 26 rfl) (W 27 rfl) (W 28 rfl) (W 29 rfl) (rm6 l Z a0 hw x1381 x1383 [c1313] [c1316, c1317, c1318] 1 3 M (own_mat (decide (c1313 = c1316)) (decide (c1313 = c1317)) (decide (c1313 = c1318)) false false false false false) cs0 fo h1383 n0 zs1384 od1384 ⟨SCS, hcs⟩ SIO hfo ⟨SAD, SHI, SLO⟩ (S1381.ext E1383) S1383 rfl rfl (by omega) (by omega) hM3 (fun p q hp hq => by rcases p with _ | p <;> rcases q with _ | _ | _ | q <;> first | rfl | omega)) d0_137 [(.ref x1381), (.ref x1383), (.int (Int32.ofNat M))] [] own_pd29 0 (by decide) (fun v1387 T1387 L1387 h1387 e1387' X1387 hQ1387 => ?_)
    obtain ⟨rfl, N1387q, E1387⟩ := hQ1387
    have N1387 := Fr.app N1386 N1387q
    have ch1388 := CHr.ext E1387 ch1384.1
    have cr1388 := CHr.trans cr1384 ch1388
    have zs1388 := Nat.le_trans zs1384 E1387.1
    have hk1388 := Nat.le_trans hk1384 E1387.1
    have od1388 := od1384.ext E1387
    refine own_nv (own_il X1387 q d0_140 rfl (own_cn X1387 q d0_142 ((teq ((congrArg Int32.ofNat (own_fin13 M (by omega) _ _ _)) : (Int32.ofNat (own_win 1 3 M (own_mat (decide (c1313 = c1316)) (decide (c1313 = c1317)) (decide (c1313 = c1318)) false false false false false))) = (Int32.ofNat (min (own_refN 1 3 (own_mat (decide (c1313 = c1316)) (decide (c1313 = c1317)) (decide (c1313 = c1318)) false false false false false)) (M + 1))))).2) (own_k X1387 q d0_145 (own_gt X1387 q d0_146 ?_))))
    refine own_retNW X1387 hS0 (by rw [e1387']; exact hk1388) hx (t := .boolean) Bd.returns (by simp) (q.d d0_150) hlk ?_ (by decide) (by decide)
    exact ⟨rfl, N1387⟩
  ·obtain rfl | rfl | rfl | rfl : nB = 0 ∨ nB = 1 ∨ nB = 2 ∨ nB = 3 := by omega
   ·have hk_ := hM3
    show own_Fin _ _ _ _ (T1318.setTop (mkF m 77 #[.val (.int p1), .val (.long p2), .second, .val (.long p3), .second, .val v'2, .val v'0, .val (.int (Int32.ofNat M)), .val (.int c1313), .val (.int c1314), .val (.int c1315), .val (.int c1316), .val (.int c1317), .val (.int c1318), .unset, .unset, .unset] []))
    refine own_il X1318 q d0_77 rfl (own_il X1318 q d0_79 rfl (own_il X1318 q d0_81 rfl (own_il X1318 q d0_83 rfl ?_)))
    refine own_cSh X1318 q hZ e1318 hown hml (W 5 rfl) (W 6 rfl) (W 2 rfl) (W 7 rfl) (rm2_2 l Z a0 hw c1313 c1314 c1315 cs0 h0 n0 Z0 O0 ⟨SCS, hcs⟩ ⟨SAD, SHI, SLO⟩ hc1313 hc1314 ) d0_85 [v'2, (.int c1313), (.int c1314), (.int c1315)] [] own_pd28 0 (by decide) (fun v1389 T1389 L1389 h1389 e1389' X1389 hQ1389 => ?_)
    obtain ⟨x1389, rfl, N1389q, E1389, S1389⟩ := hQ1389
    have N1389 := Fr.app N1318 N1389q
    have ch1390 := CHr.ext E1389 hCH
    have cr1390 := CHr.trans hCR ch1390
    have zs1390 := Nat.le_trans Z0 E1389.1
    have hk1390 := Nat.le_trans hk0 E1389.1
    have od1390 := O0.ext E1389
    refine own_nv (own_as X1389 q d0_88 rfl (l' := #[.val (.int p1), .val (.long p2), .second, .val (.long p3), .second, .val v'2, .val v'0, .val (.int (Int32.ofNat M)), .val (.int c1313), .val (.int c1314), .val (.int c1315), .val (.int c1316), .val (.int c1317), .val (.int c1318), .val (.ref x1389), .unset, .unset]) rfl (own_il X1389 q d0_90 rfl (own_il X1389 q d0_92 rfl (own_il X1389 q d0_94 rfl (own_il X1389 q d0_96 rfl ?_)))))
    refine own_let ?_; intro g1392_
    obtain ⟨_, _, ⟨T1391, L1391, k1391, n1391⟩, -, X1391, hS1391, hG1391, ⟨Lc1391, hQ1391, l1391, y1391, z1391, cH1391⟩, st1391⟩ := Jvm.RoadKit.callSS X1389 hx (y := own_y38) hown (mvT hZ (W 5 rfl)) (mvT hZ (W 6 rfl)) (mvT hZ (W 2 rfl)) (mvT hZ (W 7 rfl)) (by decide) (own_backHS (W := 0) (rm2_0 l Z a0 hw [] c1316 c1317 c1318 cs0 h1389 n0 zs1390 od1390 ⟨SCS, hcs⟩ ⟨SAD, SHI, SLO⟩  hEL) hZ (W 7 rfl) (W 2 rfl) (by decide) (by decide) hEL ch1390.1 (ss := []) all0) (g := g1392_) rfl (by rw [hml]; rfl) (argsL := [v'0, (.int c1316), (.int c1317), (.int c1318)]) (rest := []) (lenOf own_pd28 rfl) rfl (by show 2 * 0 + _ ≤ _; exact Nat.le_of_eq rfl) (q.d d0_98) (fun _ _ => ⟨rfl, e1389', (by decide : 4 + 2 ≤ _), (by decide : 12 + 4 ≤ _)⟩)
    dsimp only [Pt.U, Pt.locs, Pt.cells, Pt.slots] at X1391 l1391 y1391 z1391 st1391 hQ1391
    rw [l1391, y1391, z1391] at X1391
    clear l1391 y1391 z1391
    have X1391 : Stand p l e _ (s.setVm T1391.vm) m _ below meth c T1391 _ _ _ := X1391
    have hZ1391 : Z.Warmed39 (s.setVm T1391.vm).vm := State.Warmed39.trans hZ hS1391.1
    have hown : (s.setVm T1391.vm).vm.findClass "com/example/conformance_check/conformancecheck/catalogue/EditDistanceWithinPinLaw" = some m.cls := by show T1391.vm.findClass _ = _; rw [hS1391.1.alike.findClass]; exact hown
    have hZ := hZ1391
    have hS1391 := State.Since.trans hS0 hS1391 (Nat.le_trans hk1390 (by rw [← e1389']; exact hG1391))
    obtain ⟨x1391, rfl, N1391q, E1391, S1391⟩ := hQ1391
    have N1391 := Fr.app N1389 N1391q
    obtain ⟨h1391, e1391⟩ : ∃ z, z = T1391.heap := ⟨_, rfl⟩
    have e1391' := e1391.symm
    rw [← e1391] at E1391 S1391
    rw [e1391'] at hS1391
    have hkc1391 : h1391.size ≤ h1391.size := Nat.le_refl _
    have zs1393 := Nat.le_trans zs1390 E1391.1
    have hk1393 := Nat.le_trans hk1390 E1391.1
    have od1393 := od1390.ext E1391
    rw [e1391'] at cH1391
    have cr1391 := CHr.trans cr1390 cH1391
    refine own_stp 101 (fun _ k => st1391.trans k) (own_nv (own_as X1391 q d0_101 rfl (l' := #[.val (.int p1), .val (.long p2), .second, .val (.long p3), .second, .val v'2, .val v'0, .val (.int (Int32.ofNat M)), .val (.int c1313), .val (.int c1314), .val (.int c1315), .val (.int c1316), .val (.int c1317), .val (.int c1318), .val (.ref x1389), .val (.ref x1391), .unset]) rfl (own_il X1391 q d0_103 rfl (own_il X1391 q d0_105 rfl (own_il X1391 q d0_107 rfl (own_il X1391 q d0_109 rfl (own_il X1391 q d0_111 rfl (own_il X1391 q d0_113 rfl (own_il X1391 q d0_115 rfl (own_il X1391 q d0_117 rfl ?_))))))))))
    refine own_cS X1391 q hZ e1391' hown hml (W 16 rfl) (W 17 rfl) (W 2 rfl) (W 18 rfl) (rm3_20 l Z a0 hw c1313 c1314 c1315 c1316 c1317 c1318 (own_mat false false false false false false false false) h1391 n0 zs1393 ) d0_119 [v'2, (.int c1313), (.int c1314), (.int c1315), v'0, (.int c1316), (.int c1317), (.int c1318)] [] own_pd21 0 (by decide) (fun v1394 T1394 L1394 X1394 hQ1394 => ?_)
    obtain ⟨rfl, N1394q, e1394⟩ := hQ1394
    have N1394 := Fr.app N1391 N1394q
    refine own_nv (own_il X1394 q d0_122 rfl (own_k X1394 q d0_124 (own_iadd X1394 q d0_125 ?_)))
    refine own_cS X1394 q hZ e1394 hown hml (W 22 rfl) (W 23 rfl) (W 24 rfl) (W 25 rfl) (rm5 l Z a0 hw (Int32.ofNat (own_refN 2 0 (own_mat false false false false false false false false))) ((Int32.ofNat M) + (1 : Int32)) (Int32.ofNat (min (own_refN 2 0 (own_mat false false false false false false false false)) (M + 1))) h1391 n0 zs1393 (by show own_min _ (Int32.ofNat M + Int32.ofNat 1) = _; rw [own_addN]; exact own_minN (Nat.le_trans (own_refB _ (by decide) (by decide)) (by decide)) (by omega))) d0_126 [(.int (Int32.ofNat (own_refN 2 0 (own_mat false false false false false false false false)))), (.int ((Int32.ofNat M) + (1 : Int32)))] [] own_pd14 0 (by decide) (fun v1395 T1395 L1395 X1395 hQ1395 => ?_)
    obtain ⟨rfl, N1395q, e1395⟩ := hQ1395
    have N1395 := Fr.app N1394 N1395q
    refine own_nv (own_is X1395 q d0_129 (l' := #[.val (.int p1), .val (.long p2), .second, .val (.long p3), .second, .val v'2, .val v'0, .val (.int (Int32.ofNat M)), .val (.int c1313), .val (.int c1314), .val (.int c1315), .val (.int c1316), .val (.int c1317), .val (.int c1318), .val (.ref x1389), .val (.ref x1391), .val (.int (Int32.ofNat (min (own_refN 2 0 (own_mat false false false false false false false false)) (M + 1))))]) rfl (own_al X1395 q d0_131 rfl rfl (own_al X1395 q d0_133 rfl rfl (own_il X1395 q d0_135 rfl ?_))))
    refine own_cSh X1395 q hZ e1395 hown hml (W 26 rfl) (W 27 rfl) (W 28 rfl) (W 29 rfl) (rm6 l Z a0 hw x1389 x1391 [c1313, c1314] [] 2 0 M (own_mat false false false false false false false false) cs0 fo h1391 n0 zs1393 od1393 ⟨SCS, hcs⟩ SIO hfo ⟨SAD, SHI, SLO⟩ (S1389.ext E1391) S1391 rfl rfl (by omega) (by omega) hM3 (fun p q hp hq => by omega)) d0_137 [(.ref x1389), (.ref x1391), (.int (Int32.ofNat M))] [] own_pd29 0 (by decide) (fun v1396 T1396 L1396 h1396 e1396' X1396 hQ1396 => ?_)
    obtain ⟨rfl, N1396q, E1396⟩ := hQ1396
    have N1396 := Fr.app N1395 N1396q
    have ch1397 := CHr.ext E1396 cH1391.1
    have cr1397 := CHr.trans cr1391 ch1397
    have zs1397 := Nat.le_trans zs1393 E1396.1
    have hk1397 := Nat.le_trans hkc1391 E1396.1
    have od1397 := od1393.ext E1396
    refine own_nv (own_il X1396 q d0_140 rfl (own_cn X1396 q d0_142 ((teq ((congrArg Int32.ofNat (own_fin20 M (by omega))) : (Int32.ofNat (own_win 2 0 M (own_mat false false false false false false false false))) = (Int32.ofNat (min (own_refN 2 0 (own_mat false false false false false false false false)) (M + 1))))).2) (own_k X1396 q d0_145 (own_gt X1396 q d0_146 ?_))))
    refine own_retNW X1396 hS1391 (by rw [e1396']; exact hk1397) hx (t := .boolean) Bd.returns (by simp) (q.d d0_150) hlk ?_ (by decide) (by decide)
    exact ⟨rfl, N1396⟩
   ·have hk_ := hM3
    show own_Fin _ _ _ _ (T1318.setTop (mkF m 77 #[.val (.int p1), .val (.long p2), .second, .val (.long p3), .second, .val v'2, .val v'1, .val (.int (Int32.ofNat M)), .val (.int c1313), .val (.int c1314), .val (.int c1315), .val (.int c1316), .val (.int c1317), .val (.int c1318), .unset, .unset, .unset] []))
    refine own_il X1318 q d0_77 rfl (own_il X1318 q d0_79 rfl (own_il X1318 q d0_81 rfl (own_il X1318 q d0_83 rfl ?_)))
    refine own_cSh X1318 q hZ e1318 hown hml (W 5 rfl) (W 6 rfl) (W 2 rfl) (W 7 rfl) (rm2_2 l Z a0 hw c1313 c1314 c1315 cs0 h0 n0 Z0 O0 ⟨SCS, hcs⟩ ⟨SAD, SHI, SLO⟩ hc1313 hc1314 ) d0_85 [v'2, (.int c1313), (.int c1314), (.int c1315)] [] own_pd28 0 (by decide) (fun v1398 T1398 L1398 h1398 e1398' X1398 hQ1398 => ?_)
    obtain ⟨x1398, rfl, N1398q, E1398, S1398⟩ := hQ1398
    have N1398 := Fr.app N1318 N1398q
    have ch1399 := CHr.ext E1398 hCH
    have cr1399 := CHr.trans hCR ch1399
    have zs1399 := Nat.le_trans Z0 E1398.1
    have hk1399 := Nat.le_trans hk0 E1398.1
    have od1399 := O0.ext E1398
    refine own_nv (own_as X1398 q d0_88 rfl (l' := #[.val (.int p1), .val (.long p2), .second, .val (.long p3), .second, .val v'2, .val v'1, .val (.int (Int32.ofNat M)), .val (.int c1313), .val (.int c1314), .val (.int c1315), .val (.int c1316), .val (.int c1317), .val (.int c1318), .val (.ref x1398), .unset, .unset]) rfl (own_il X1398 q d0_90 rfl (own_il X1398 q d0_92 rfl (own_il X1398 q d0_94 rfl (own_il X1398 q d0_96 rfl ?_)))))
    refine own_cSh X1398 q hZ e1398' hown hml (W 5 rfl) (W 6 rfl) (W 2 rfl) (W 7 rfl) (rm2_1 l Z a0 hw c1316 c1317 c1318 cs0 h1398 n0 zs1399 od1399 ⟨SCS, hcs⟩ ⟨SAD, SHI, SLO⟩ hc1316 ) d0_98 [v'1, (.int c1316), (.int c1317), (.int c1318)] [] own_pd28 0 (by decide) (fun v1400 T1400 L1400 h1400 e1400' X1400 hQ1400 => ?_)
    obtain ⟨x1400, rfl, N1400q, E1400, S1400⟩ := hQ1400
    have N1400 := Fr.app N1398 N1400q
    have ch1401 := CHr.ext E1400 ch1399.1
    have cr1401 := CHr.trans cr1399 ch1401
    have zs1401 := Nat.le_trans zs1399 E1400.1
    have hk1401 := Nat.le_trans hk1399 E1400.1
    have od1401 := od1399.ext E1400
    refine own_nv (own_as X1400 q d0_101 rfl (l' := #[.val (.int p1), .val (.long p2), .second, .val (.long p3), .second, .val v'2, .val v'1, .val (.int (Int32.ofNat M)), .val (.int c1313), .val (.int c1314), .val (.int c1315), .val (.int c1316), .val (.int c1317), .val (.int c1318), .val (.ref x1398), .val (.ref x1400), .unset]) rfl (own_il X1400 q d0_103 rfl (own_il X1400 q d0_105 rfl (own_il X1400 q d0_107 rfl (own_il X1400 q d0_109 rfl (own_il X1400 q d0_111 rfl (own_il X1400 q d0_113 rfl (own_il X1400 q d0_115 rfl (own_il X1400 q d0_117 rfl ?_)))))))))
    refine own_cS X1400 q hZ e1400' hown hml (W 16 rfl) (W 17 rfl) (W 2 rfl) (W 18 rfl) (rm3_21 l Z a0 hw c1313 c1314 c1315 c1316 c1317 c1318 (own_mat (decide (c1313 = c1316)) false false (decide (c1314 = c1316)) false false false false) h1400 n0 zs1401 rfl rfl) d0_119 [v'2, (.int c1313), (.int c1314), (.int c1315), v'1, (.int c1316), (.int c1317), (.int c1318)] [] own_pd21 0 (by decide) (fun v1402 T1402 L1402 X1402 hQ1402 => ?_)
    obtain ⟨rfl, N1402q, e1402⟩ := hQ1402
    have N1402 := Fr.app N1400 N1402q
    refine own_nv (own_il X1402 q d0_122 rfl (own_k X1402 q d0_124 (own_iadd X1402 q d0_125 ?_)))
    refine own_cS X1402 q hZ e1402 hown hml (W 22 rfl) (W 23 rfl) (W 24 rfl) (W 25 rfl) (rm5 l Z a0 hw (Int32.ofNat (own_refN 2 1 (own_mat (decide (c1313 = c1316)) false false (decide (c1314 = c1316)) false false false false))) ((Int32.ofNat M) + (1 : Int32)) (Int32.ofNat (min (own_refN 2 1 (own_mat (decide (c1313 = c1316)) false false (decide (c1314 = c1316)) false false false false)) (M + 1))) h1400 n0 zs1401 (by show own_min _ (Int32.ofNat M + Int32.ofNat 1) = _; rw [own_addN]; exact own_minN (Nat.le_trans (own_refB _ (by decide) (by decide)) (by decide)) (by omega))) d0_126 [(.int (Int32.ofNat (own_refN 2 1 (own_mat (decide (c1313 = c1316)) false false (decide (c1314 = c1316)) false false false false)))), (.int ((Int32.ofNat M) + (1 : Int32)))] [] own_pd14 0 (by decide) (fun v1403 T1403 L1403 X1403 hQ1403 => ?_)
    obtain ⟨rfl, N1403q, e1403⟩ := hQ1403
    have N1403 := Fr.app N1402 N1403q
    refine own_nv (own_is X1403 q d0_129 (l' := #[.val (.int p1), .val (.long p2), .second, .val (.long p3), .second, .val v'2, .val v'1, .val (.int (Int32.ofNat M)), .val (.int c1313), .val (.int c1314), .val (.int c1315), .val (.int c1316), .val (.int c1317), .val (.int c1318), .val (.ref x1398), .val (.ref x1400), .val (.int (Int32.ofNat (min (own_refN 2 1 (own_mat (decide (c1313 = c1316)) false false (decide (c1314 = c1316)) false false false false)) (M + 1))))]) rfl (own_al X1403 q d0_131 rfl rfl (own_al X1403 q d0_133 rfl rfl (own_il X1403 q d0_135 rfl ?_))))
    refine own_cSh X1403 q hZ e1403 hown hml (W 26 rfl) (W 27 rfl) (W 28 rfl) (W 29 rfl) (rm6 l Z a0 hw x1398 x1400 [c1313, c1314] [c1316] 2 1 M (own_mat (decide (c1313 = c1316)) false false (decide (c1314 = c1316)) false false false false) cs0 fo h1400 n0 zs1401 od1401 ⟨SCS, hcs⟩ SIO hfo ⟨SAD, SHI, SLO⟩ (S1398.ext E1400) S1400 rfl rfl (by omega) (by omega) hM3 (fun p q hp hq => by rcases p with _ | _ | p <;> rcases q with _ | q <;> first | rfl | omega)) d0_137 [(.ref x1398), (.ref x1400), (.int (Int32.ofNat M))] [] own_pd29 0 (by decide) (fun v1404 T1404 L1404 h1404 e1404' X1404 hQ1404 => ?_)
    obtain ⟨rfl, N1404q, E1404⟩ := hQ1404
    have N1404 := Fr.app N1403 N1404q
    have ch1405 := CHr.ext E1404 ch1401.1
    have cr1405 := CHr.trans cr1401 ch1405
    have zs1405 := Nat.le_trans zs1401 E1404.1
    have hk1405 := Nat.le_trans hk1401 E1404.1
    have od1405 := od1401.ext E1404
    refine own_nv (own_il X1404 q d0_140 rfl (own_cn X1404 q d0_142 ((teq ((congrArg Int32.ofNat (own_fin21 M (by omega) _ _)) : (Int32.ofNat (own_win 2 1 M (own_mat (decide (c1313 = c1316)) false false (decide (c1314 = c1316)) false false false false))) = (Int32.ofNat (min (own_refN 2 1 (own_mat (decide (c1313 = c1316)) false false (decide (c1314 = c1316)) false false false false)) (M + 1))))).2) (own_k X1404 q d0_145 (own_gt X1404 q d0_146 ?_))))
    refine own_retNW X1404 hS0 (by rw [e1404']; exact hk1405) hx (t := .boolean) Bd.returns (by simp) (q.d d0_150) hlk ?_ (by decide) (by decide)
    exact ⟨rfl, N1404⟩
   ·have hk_ := hM3
    show own_Fin _ _ _ _ (T1318.setTop (mkF m 77 #[.val (.int p1), .val (.long p2), .second, .val (.long p3), .second, .val v'2, .val v'2, .val (.int (Int32.ofNat M)), .val (.int c1313), .val (.int c1314), .val (.int c1315), .val (.int c1316), .val (.int c1317), .val (.int c1318), .unset, .unset, .unset] []))
    refine own_il X1318 q d0_77 rfl (own_il X1318 q d0_79 rfl (own_il X1318 q d0_81 rfl (own_il X1318 q d0_83 rfl ?_)))
    refine own_cSh X1318 q hZ e1318 hown hml (W 5 rfl) (W 6 rfl) (W 2 rfl) (W 7 rfl) (rm2_2 l Z a0 hw c1313 c1314 c1315 cs0 h0 n0 Z0 O0 ⟨SCS, hcs⟩ ⟨SAD, SHI, SLO⟩ hc1313 hc1314 ) d0_85 [v'2, (.int c1313), (.int c1314), (.int c1315)] [] own_pd28 0 (by decide) (fun v1406 T1406 L1406 h1406 e1406' X1406 hQ1406 => ?_)
    obtain ⟨x1406, rfl, N1406q, E1406, S1406⟩ := hQ1406
    have N1406 := Fr.app N1318 N1406q
    have ch1407 := CHr.ext E1406 hCH
    have cr1407 := CHr.trans hCR ch1407
    have zs1407 := Nat.le_trans Z0 E1406.1
    have hk1407 := Nat.le_trans hk0 E1406.1
    have od1407 := O0.ext E1406
    refine own_nv (own_as X1406 q d0_88 rfl (l' := #[.val (.int p1), .val (.long p2), .second, .val (.long p3), .second, .val v'2, .val v'2, .val (.int (Int32.ofNat M)), .val (.int c1313), .val (.int c1314), .val (.int c1315), .val (.int c1316), .val (.int c1317), .val (.int c1318), .val (.ref x1406), .unset, .unset]) rfl (own_il X1406 q d0_90 rfl (own_il X1406 q d0_92 rfl (own_il X1406 q d0_94 rfl (own_il X1406 q d0_96 rfl ?_)))))
    refine own_cSh X1406 q hZ e1406' hown hml (W 5 rfl) (W 6 rfl) (W 2 rfl) (W 7 rfl) (rm2_2 l Z a0 hw c1316 c1317 c1318 cs0 h1406 n0 zs1407 od1407 ⟨SCS, hcs⟩ ⟨SAD, SHI, SLO⟩ hc1316 hc1317 ) d0_98 [v'2, (.int c1316), (.int c1317), (.int c1318)] [] own_pd28 0 (by decide) (fun v1408 T1408 L1408 h1408 e1408' X1408 hQ1408 => ?_)
    obtain ⟨x1408, rfl, N1408q, E1408, S1408⟩ := hQ1408
    have N1408 := Fr.app N1406 N1408q
    have ch1409 := CHr.ext E1408 ch1407.1
    have cr1409 := CHr.trans cr1407 ch1409
    have zs1409 := Nat.le_trans zs1407 E1408.1
    have hk1409 := Nat.le_trans hk1407 E1408.1
    have od1409 := od1407.ext E1408
    refine own_nv (own_as X1408 q d0_101 rfl (l' := #[.val (.int p1), .val (.long p2), .second, .val (.long p3), .second, .val v'2, .val v'2, .val (.int (Int32.ofNat M)), .val (.int c1313), .val (.int c1314), .val (.int c1315), .val (.int c1316), .val (.int c1317), .val (.int c1318), .val (.ref x1406), .val (.ref x1408), .unset]) rfl (own_il X1408 q d0_103 rfl (own_il X1408 q d0_105 rfl (own_il X1408 q d0_107 rfl (own_il X1408 q d0_109 rfl (own_il X1408 q d0_111 rfl (own_il X1408 q d0_113 rfl (own_il X1408 q d0_115 rfl (own_il X1408 q d0_117 rfl ?_)))))))))
    refine own_cS X1408 q hZ e1408' hown hml (W 16 rfl) (W 17 rfl) (W 2 rfl) (W 18 rfl) (rm3_22 l Z a0 hw c1313 c1314 c1315 c1316 c1317 c1318 (own_mat (decide (c1313 = c1316)) (decide (c1313 = c1317)) false (decide (c1314 = c1316)) (decide (c1314 = c1317)) false false false) h1408 n0 zs1409 rfl rfl rfl rfl) d0_119 [v'2, (.int c1313), (.int c1314), (.int c1315), v'2, (.int c1316), (.int c1317), (.int c1318)] [] own_pd21 0 (by decide) (fun v1410 T1410 L1410 X1410 hQ1410 => ?_)
    obtain ⟨rfl, N1410q, e1410⟩ := hQ1410
    have N1410 := Fr.app N1408 N1410q
    refine own_nv (own_il X1410 q d0_122 rfl (own_k X1410 q d0_124 (own_iadd X1410 q d0_125 ?_)))
    refine own_cS X1410 q hZ e1410 hown hml (W 22 rfl) (W 23 rfl) (W 24 rfl) (W 25 rfl) (rm5 l Z a0 hw (Int32.ofNat (own_refN 2 2 (own_mat (decide (c1313 = c1316)) (decide (c1313 = c1317)) false (decide (c1314 = c1316)) (decide (c1314 = c1317)) false false false))) ((Int32.ofNat M) + (1 : Int32)) (Int32.ofNat (min (own_refN 2 2 (own_mat (decide (c1313 = c1316)) (decide (c1313 = c1317)) false (decide (c1314 = c1316)) (decide (c1314 = c1317)) false false false)) (M + 1))) h1408 n0 zs1409 (by show own_min _ (Int32.ofNat M + Int32.ofNat 1) = _; rw [own_addN]; exact own_minN (Nat.le_trans (own_refB _ (by decide) (by decide)) (by decide)) (by omega))) d0_126 [(.int (Int32.ofNat (own_refN 2 2 (own_mat (decide (c1313 = c1316)) (decide (c1313 = c1317)) false (decide (c1314 = c1316)) (decide (c1314 = c1317)) false false false)))), (.int ((Int32.ofNat M) + (1 : Int32)))] [] own_pd14 0 (by decide) (fun v1411 T1411 L1411 X1411 hQ1411 => ?_)
    obtain ⟨rfl, N1411q, e1411⟩ := hQ1411
    have N1411 := Fr.app N1410 N1411q
    refine own_nv (own_is X1411 q d0_129 (l' := #[.val (.int p1), .val (.long p2), .second, .val (.long p3), .second, .val v'2, .val v'2, .val (.int (Int32.ofNat M)), .val (.int c1313), .val (.int c1314), .val (.int c1315), .val (.int c1316), .val (.int c1317), .val (.int c1318), .val (.ref x1406), .val (.ref x1408), .val (.int (Int32.ofNat (min (own_refN 2 2 (own_mat (decide (c1313 = c1316)) (decide (c1313 = c1317)) false (decide (c1314 = c1316)) (decide (c1314 = c1317)) false false false)) (M + 1))))]) rfl (own_al X1411 q d0_131 rfl rfl (own_al X1411 q d0_133 rfl rfl (own_il X1411 q d0_135 rfl ?_))))
    refine own_cSh X1411 q hZ e1411 hown hml (W 26 rfl) (W 27 rfl) (W 28 rfl) (W 29 rfl) (rm6 l Z a0 hw x1406 x1408 [c1313, c1314] [c1316, c1317] 2 2 M (own_mat (decide (c1313 = c1316)) (decide (c1313 = c1317)) false (decide (c1314 = c1316)) (decide (c1314 = c1317)) false false false) cs0 fo h1408 n0 zs1409 od1409 ⟨SCS, hcs⟩ SIO hfo ⟨SAD, SHI, SLO⟩ (S1406.ext E1408) S1408 rfl rfl (by omega) (by omega) hM3 (fun p q hp hq => by rcases p with _ | _ | p <;> rcases q with _ | _ | q <;> first | rfl | omega)) d0_137 [(.ref x1406), (.ref x1408), (.int (Int32.ofNat M))] [] own_pd29 0 (by decide) (fun v1412 T1412 L1412 h1412 e1412' X1412 hQ1412 => ?_)
    obtain ⟨rfl, N1412q, E1412⟩ := hQ1412
    have N1412 := Fr.app N1411 N1412q
    have ch1413 := CHr.ext E1412 ch1409.1
    have cr1413 := CHr.trans cr1409 ch1413
    have zs1413 := Nat.le_trans zs1409 E1412.1
    have hk1413 := Nat.le_trans hk1409 E1412.1
    have od1413 := od1409.ext E1412
    refine own_nv (own_il X1412 q d0_140 rfl (own_cn X1412 q d0_142 ((teq ((congrArg Int32.ofNat (own_fin22 M (by omega) _ _ _ _)) : (Int32.ofNat (own_win 2 2 M (own_mat (decide (c1313 = c1316)) (decide (c1313 = c1317)) false (decide (c1314 = c1316)) (decide (c1314 = c1317)) false false false))) = (Int32.ofNat (min (own_refN 2 2 (own_mat (decide (c1313 = c1316)) (decide (c1313 = c1317)) false (decide (c1314 = c1316)) (decide (c1314 = c1317)) false false false)) (M + 1))))).2) (own_k X1412 q d0_145 (own_gt X1412 q d0_146 ?_))))
    refine own_retNW X1412 hS0 (by rw [e1412']; exact hk1413) hx (t := .boolean) Bd.returns (by simp) (q.d d0_150) hlk ?_ (by decide) (by decide)
    exact ⟨rfl, N1412⟩
   ·have hk_ := hM3
    show own_Fin _ _ _ _ (T1318.setTop (mkF m 77 #[.val (.int p1), .val (.long p2), .second, .val (.long p3), .second, .val v'2, .val v'3, .val (.int (Int32.ofNat M)), .val (.int c1313), .val (.int c1314), .val (.int c1315), .val (.int c1316), .val (.int c1317), .val (.int c1318), .unset, .unset, .unset] []))
    refine own_il X1318 q d0_77 rfl (own_il X1318 q d0_79 rfl (own_il X1318 q d0_81 rfl (own_il X1318 q d0_83 rfl ?_)))
    refine own_cSh X1318 q hZ e1318 hown hml (W 5 rfl) (W 6 rfl) (W 2 rfl) (W 7 rfl) (rm2_2 l Z a0 hw c1313 c1314 c1315 cs0 h0 n0 Z0 O0 ⟨SCS, hcs⟩ ⟨SAD, SHI, SLO⟩ hc1313 hc1314 ) d0_85 [v'2, (.int c1313), (.int c1314), (.int c1315)] [] own_pd28 0 (by decide) (fun v1414 T1414 L1414 h1414 e1414' X1414 hQ1414 => ?_)
    obtain ⟨x1414, rfl, N1414q, E1414, S1414⟩ := hQ1414
    have N1414 := Fr.app N1318 N1414q
    have ch1415 := CHr.ext E1414 hCH
    have cr1415 := CHr.trans hCR ch1415
    have zs1415 := Nat.le_trans Z0 E1414.1
    have hk1415 := Nat.le_trans hk0 E1414.1
    have od1415 := O0.ext E1414
    refine own_nv (own_as X1414 q d0_88 rfl (l' := #[.val (.int p1), .val (.long p2), .second, .val (.long p3), .second, .val v'2, .val v'3, .val (.int (Int32.ofNat M)), .val (.int c1313), .val (.int c1314), .val (.int c1315), .val (.int c1316), .val (.int c1317), .val (.int c1318), .val (.ref x1414), .unset, .unset]) rfl (own_il X1414 q d0_90 rfl (own_il X1414 q d0_92 rfl (own_il X1414 q d0_94 rfl (own_il X1414 q d0_96 rfl ?_)))))
    refine own_cSh X1414 q hZ e1414' hown hml (W 5 rfl) (W 6 rfl) (W 2 rfl) (W 7 rfl) (rm2_3 l Z a0 hw c1316 c1317 c1318 cs0 h1414 n0 zs1415 od1415 ⟨SCS, hcs⟩ ⟨SAD, SHI, SLO⟩ hc1316 hc1317 hc1318 ) d0_98 [v'3, (.int c1316), (.int c1317), (.int c1318)] [] own_pd28 0 (by decide) (fun v1416 T1416 L1416 h1416 e1416' X1416 hQ1416 => ?_)
    obtain ⟨x1416, rfl, N1416q, E1416, S1416⟩ := hQ1416
    have N1416 := Fr.app N1414 N1416q
    have ch1417 := CHr.ext E1416 ch1415.1
    have cr1417 := CHr.trans cr1415 ch1417
    have zs1417 := Nat.le_trans zs1415 E1416.1
    have hk1417 := Nat.le_trans hk1415 E1416.1
    have od1417 := od1415.ext E1416
    refine own_nv (own_as X1416 q d0_101 rfl (l' := #[.val (.int p1), .val (.long p2), .second, .val (.long p3), .second, .val v'2, .val v'3, .val (.int (Int32.ofNat M)), .val (.int c1313), .val (.int c1314), .val (.int c1315), .val (.int c1316), .val (.int c1317), .val (.int c1318), .val (.ref x1414), .val (.ref x1416), .unset]) rfl (own_il X1416 q d0_103 rfl (own_il X1416 q d0_105 rfl (own_il X1416 q d0_107 rfl (own_il X1416 q d0_109 rfl (own_il X1416 q d0_111 rfl (own_il X1416 q d0_113 rfl (own_il X1416 q d0_115 rfl (own_il X1416 q d0_117 rfl ?_)))))))))
    refine own_cS X1416 q hZ e1416' hown hml (W 16 rfl) (W 17 rfl) (W 2 rfl) (W 18 rfl) (rm3_23 l Z a0 hw c1313 c1314 c1315 c1316 c1317 c1318 (own_mat (decide (c1313 = c1316)) (decide (c1313 = c1317)) (decide (c1313 = c1318)) (decide (c1314 = c1316)) (decide (c1314 = c1317)) (decide (c1314 = c1318)) false false) h1416 n0 zs1417 rfl rfl rfl rfl rfl rfl) d0_119 [v'2, (.int c1313), (.int c1314), (.int c1315), v'3, (.int c1316), (.int c1317), (.int c1318)] [] own_pd21 0 (by decide) (fun v1418 T1418 L1418 X1418 hQ1418 => ?_)
    obtain ⟨rfl, N1418q, e1418⟩ := hQ1418
    have N1418 := Fr.app N1416 N1418q
    refine own_nv (own_il X1418 q d0_122 rfl (own_k X1418 q d0_124 (own_iadd X1418 q d0_125 ?_)))
    refine own_cS X1418 q hZ e1418 hown hml (W 22 rfl) (W 23 rfl) (W 24 rfl) (W 25 rfl) (rm5 l Z a0 hw (Int32.ofNat (own_refN 2 3 (own_mat (decide (c1313 = c1316)) (decide (c1313 = c1317)) (decide (c1313 = c1318)) (decide (c1314 = c1316)) (decide (c1314 = c1317)) (decide (c1314 = c1318)) false false))) ((Int32.ofNat M) + (1 : Int32)) (Int32.ofNat (min (own_refN 2 3 (own_mat (decide (c1313 = c1316)) (decide (c1313 = c1317)) (decide (c1313 = c1318)) (decide (c1314 = c1316)) (decide (c1314 = c1317)) (decide (c1314 = c1318)) false false)) (M + 1))) h1416 n0 zs1417 (by show own_min _ (Int32.ofNat M + Int32.ofNat 1) = _; rw [own_addN]; exact own_minN (Nat.le_trans (own_refB _ (by decide) (by decide)) (by decide)) (by omega))) d0_126 [(.int (Int32.ofNat (own_refN 2 3 (own_mat (decide (c1313 = c1316)) (decide (c1313 = c1317)) (decide (c1313 = c1318)) (decide (c1314 = c1316)) (decide (c1314 = c1317)) (decide (c1314 = c1318)) false false)))), (.int ((Int32.ofNat M) + (1 : Int32)))] [] own_pd14 0 (by decide) (fun v1419 T1419 L1419 X1419 hQ1419 => ?_)
    obtain ⟨rfl, N1419q, e1419⟩ := hQ1419
    have N1419 := Fr.app N1418 N1419q
    refine own_nv (own_is X1419 q d0_129 (l' := #[.val (.int p1), .val (.long p2), .second, .val (.long p3), .second, .val v'2, .val v'3, .val (.int (Int32.ofNat M)), .val (.int c1313), .val (.int c1314), .val (.int c1315), .val (.int c1316), .val (.int c1317), .val (.int c1318), .val (.ref x1414), .val (.ref x1416), .val (.int (Int32.ofNat (min (own_refN 2 3 (own_mat (decide (c1313 = c1316)) (decide (c1313 = c1317)) (decide (c1313 = c1318)) (decide (c1314 = c1316)) (decide (c1314 = c1317)) (decide (c1314 = c1318)) false false)) (M + 1))))]) rfl (own_al X1419 q d0_131 rfl rfl (own_al X1419 q d0_133 rfl rfl (own_il X1419 q d0_135 rfl ?_))))
    refine own_cSh X1419 q hZ e1419 hown hml (W 26 rfl) (W 27 rfl) (W 28 rfl) (W 29 rfl) (rm6 l Z a0 hw x1414 x1416 [c1313, c1314] [c1316, c1317, c1318] 2 3 M (own_mat (decide (c1313 = c1316)) (decide (c1313 = c1317)) (decide (c1313 = c1318)) (decide (c1314 = c1316)) (decide (c1314 = c1317)) (decide (c1314 = c1318)) false false) cs0 fo h1416 n0 zs1417 od1417 ⟨SCS, hcs⟩ SIO hfo ⟨SAD, SHI, SLO⟩ (S1414.ext E1416) S1416 rfl rfl (by omega) (by omega) hM3 (fun p q hp hq => by rcases p with _ | _ | p <;> rcases q with _ | _ | _ | q <;> first | rfl | omega)) d0_137 [(.ref x1414), (.ref x1416), (.int (Int32.ofNat M))] [] own_pd29 0 (by decide) (fun v1420 T1420 L1420 h1420 e1420' X1420 hQ1420 => ?_)
    obtain ⟨rfl, N1420q, E1420⟩ := hQ1420
    have N1420 := Fr.app N1419 N1420q
    have ch1421 := CHr.ext E1420 ch1417.1
    have cr1421 := CHr.trans cr1417 ch1421
    have zs1421 := Nat.le_trans zs1417 E1420.1
    have hk1421 := Nat.le_trans hk1417 E1420.1
    have od1421 := od1417.ext E1420
    refine own_nv (own_il X1420 q d0_140 rfl (own_cn X1420 q d0_142 ((teq ((congrArg Int32.ofNat (own_fin23 M (by omega) _ _ _ _ _ _)) : (Int32.ofNat (own_win 2 3 M (own_mat (decide (c1313 = c1316)) (decide (c1313 = c1317)) (decide (c1313 = c1318)) (decide (c1314 = c1316)) (decide (c1314 = c1317)) (decide (c1314 = c1318)) false false))) = (Int32.ofNat (min (own_refN 2 3 (own_mat (decide (c1313 = c1316)) (decide (c1313 = c1317)) (decide (c1313 = c1318)) (decide (c1314 = c1316)) (decide (c1314 = c1317)) (decide (c1314 = c1318)) false false)) (M + 1))))).2) (own_k X1420 q d0_145 (own_gt X1420 q d0_146 ?_))))
    refine own_retNW X1420 hS0 (by rw [e1420']; exact hk1421) hx (t := .boolean) Bd.returns (by simp) (q.d d0_150) hlk ?_ (by decide) (by decide)
    exact ⟨rfl, N1420⟩
set_option maxRecDepth 65536 in
set_option maxHeartbeats 40000000 in
theorem comes_1 {Post : Tables → Env → Array Value → State → Outcome → State → Prop} (hpost : ∀ tb e args s v u, (limb_1_1.after args s (.returned v) u = true ∧ limb_1_2.after args s (.returned v) u = true ∧ True) → ReturnedEndW s (.returned v) u (Jvm.fieldLocs frame_1_writes args s ++ Jvm.arrayLocs frame_1_arrays args s ++ Jvm.staticLocs frame_1_statics s) 48 1280 → Post tb e args s (.returned v) u) :
  ArmFor flags0 classFile x code maxLocals ret World_1 tables_1 room_1 Calls_1 rest_1 Pre_1 Post := by
 intro l hfl _ _ p e ha hc hk s m args below hf hA hF happ hP
 obtain ⟨hcalls, hrest, hpre⟩ := hP
 obtain ⟨-, -, -, hnamed, -, -, -, hat⟩ := (Spec.applies_iff hf).mp happ
 obtain ⟨hg, hn⟩ := and_e (Cond.before_iff.mp (show (Jvm.Cond.and given_1 narrow_1).before args s = true from hpre))
 obtain ⟨g0, hg⟩ := and_e hg
 obtain ⟨g1, hg⟩ := and_e hg
 obtain ⟨g2, g3⟩ := and_e hg
 obtain ⟨w0, w1, w2, rfl⟩ : ∃ w0 w1 w2 : Value, args = #[w0, w1, w2] := by
  have hs : args.size = 3 := by simpa [Cond.value, given_1] using g0
  obtain ⟨L⟩ := args
  match L, hs with
  | [w0, w1, w2], _ => exact ⟨w0, w1, w2, rfl⟩
 have hw := fun d (hd : d ∈ tables_1) => atoms_spec (ws := Jvm.Cond.code x code maxLocals ret :: tables_1) hat d (List.mem_cons_of_mem _ hd)
 have hfit : Fit s := fun {y c} hc i hi => by
  obtain ⟨ha, rfl⟩ := Array.getElem?_eq_some_iff.mp hc
  have q := List.all_eq_true.mp ((Array.all_eq_true_iff_forall_mem.mp hF) _ (Array.getElem_mem ha)) i (List.mem_range.mpr hi)
  simpa [Array.getElem?_eq_getElem hi] using q
 have W := @own_w _ _ hw
 obtain ⟨i0, ei0⟩ := is_v g1
 obtain rfl : w0 = (.int i0) := Option.some.inj ei0
 obtain ⟨i1, ei1⟩ := isL_v g2
 obtain rfl : w1 = (.long i1) := Option.some.inj ei1
 obtain ⟨i2, ei2⟩ := isL_v g3
 obtain rfl : w2 = (.long i2) := Option.some.inj ei2
 obtain ⟨hsets, hown0⟩ := atoms_of _ (rest_1_c_eq ▸ (show rest_1_c.before _ s = true from hrest))
 obtain ⟨cs0, ecs⟩ := is_v (Cond.before_iff.mp (hsets _ (List.mem_of_getElem? (i := 1) rfl)))
 have SCS : Sta s s.heap "java/lang/String" "COMPACT_STRINGS" "Z" (.int cs0) := Sta.start ecs (Or.inl (hsets _ (List.mem_of_getElem? (i := 0) rfl)))
 have hcs : ¬ cs0 = 0 := gotF (Cond.eq_ints ecs (Term.int_eval (0))) (not_v (Cond.before_iff.mp (hsets _ (List.mem_of_getElem? (i := 2) rfl))))
 have eSAD := Cond.eq_int (beq_iff_eq.mpr (Cond.before_iff.mp (hsets _ (List.mem_of_getElem? (i := 12) rfl)))) (Term.int_eval (1))
 have SAD : Sta s s.heap "java/lang/StringUTF16" "$assertionsDisabled" "Z" v'1 := Sta.start eSAD (Or.inl (hsets _ (List.mem_of_getElem? (i := 11) rfl)))
 have eSHI := Cond.eq_int (beq_iff_eq.mpr (Cond.before_iff.mp (hsets _ (List.mem_of_getElem? (i := 15) rfl)))) (Term.int_eval (0))
 have SHI : Sta s s.heap "java/lang/StringUTF16" "HI_BYTE_SHIFT" "I" v'0 := Sta.start eSHI (Or.inl (hsets _ (List.mem_of_getElem? (i := 14) rfl)))
 have eSLO := Cond.eq_int (beq_iff_eq.mpr (Cond.before_iff.mp (hsets _ (List.mem_of_getElem? (i := 18) rfl)))) (Term.int_eval (8))
 have SLO : Sta s s.heap "java/lang/StringUTF16" "LO_BYTE_SHIFT" "I" (.int (8 : Int32)) := Sta.start eSLO (Or.inl (hsets _ (List.mem_of_getElem? (i := 17) rfl)))
 obtain ⟨fo, efo, hfo⟩ := isR_v (Cond.before_iff.mp (hsets _ (List.mem_of_getElem? (i := 8) rfl)))
 have SIO : Sta s s.heap "jdk/internal/util/Preconditions" "SIOOBE_FORMATTER" "Ljava/util/function/BiFunction;" fo := Sta.start efo (Or.inl (hsets _ (List.mem_of_getElem? (i := 7) rfl)))
 obtain ⟨n, o, h1, h2, h3, _, L, rfl, ⟨rfl, N⟩, hq⟩ := rm0 l s _ hw tables_1 i0 i1 i2 cs0 fo s.heap s.heap.size (Nat.le_refl _) (Old.start s) ⟨SCS, hcs⟩ SIO hfo ⟨SAD, SHI, SLO⟩ (EW.cons (W 8 rfl) (by simp) EW.nil) p e ha hc hk s m _ below hf ((Spec.applies_iff_loose hf).mp happ).1 ⟨rfl, State.Warmed39.refl s, rfl, CHv.start (EW.cons (W 8 rfl) (by simp) EW.nil) (fun p hp => hcalls.1 p hp) (hsets _ (List.mem_of_getElem? (i := 2) rfl)) (W 11 rfl) (W 10 rfl)⟩ trivial
 refine ⟨n, _, h1, h2, h3, hpost _ _ _ _ _ _ ⟨Cond.after_iff.mpr rfl, Cond.after_iff.mpr (eq_i res_at (Term.int_eval (1)) rfl), trivial⟩ ⟨hq.1, hq.2.1, hq.2.2.1, (hq.2.2.2.sift fun y hy => Or.inr (N y hy)).mono (by decide) (by decide)⟩⟩
theorem main_1_1 : Claimed_1_1 := comes_1 fun _ _ _ _ _ _ h hF => ⟨h.1, hF⟩
theorem main_1_2 : Claimed_1_2 := comes_1 fun _ _ _ _ _ _ h hF => ⟨h.2.1, hF⟩
end Jvm.Pilot.@@N@@
namespace Jvm.Pilot.@@N@@
open Jvm Jvm.ClassFile Sem Op Lib Jvm.Free Jvm.Stand Jvm.Pilot.@@N@@.Jvm.D
/-! MADE BY PROGRAM (witnessworld.py) out of the Statement's table words and the real class files: 22 classes; the members and pool entries that the words name. The judged class is class 1, her method 1. -/
namespace start1
open Jvm.ClassFile
def u (s : String) : CpInfo := .utf8 (stringToUtf16 s)
/-- a pool by its gaps: so many unusable entries, then the entry; so many at the end -/
def gap : Nat → List CpInfo → List CpInfo
  | 0, r => r
  | n + 1, r => .unusable :: gap n r
def poolList (es : List (Nat × CpInfo)) (last : Nat) : List CpInfo := es.foldr (fun e r => gap e.1 (e.2 :: r)) (gap last [])
def pool (es : List (Nat × CpInfo)) (last : Nat) : Array CpInfo := ⟨poolList es last⟩
def fileOf (pool : Array CpInfo) (this : Nat) (attrs : Array Attribute := #[]) (ms : Array MethodInfo := #[]) (fl : Nat := 33) (sup : Nat := 0) (ifs : Array Nat := #[]) (fds : Array FieldInfo := #[]) : ClassFile where
  minorVersion := 0
  majorVersion := 65
  constantPool := pool
  accessFlags := fl
  thisClass := this
  superClass := sup
  interfaces := ifs
  fields := fds
  methods := ms
  attributes := attrs
def plain (name : String) (sup : Option ClassId) : Class where
  name := name
  kind := .ordinary
  loader := none
  accessFlags := 33
  super := sup
  interfaces := #[]
  cf := none
  fields := #[]
  methods := #[]
  instanceTypes := #[]
  staticTypes := #[]
  resolved := #[]
  callSites := []
  init := .initialized
  statics := none
  mirror := none

def pool0 : Array CpInfo := pool [(5, u "<init>"), (0, u "()V"), (1, .class_ 10), (1, u "java/lang/Object")] 113

def k0c0 : Code := { maxStack := 0, maxLocals := 1, code := object_method_1_code, exceptionTable := #[], attributes := #[] }
def k0m0 : Method := { name := "<init>", desc := "()V", sig := { parameters := [], returnType := none }, accessFlags := 1, code := some k0c0 }
/-- java/lang/Object -/
def k0 : Class := { plain "java/lang/Object" none with
  accessFlags := 33
  interfaces := #[]
  cf := some (fileOf pool0 8 #[] #[{ accessFlags := 1, nameIndex := 5, descriptorIndex := 6, attributes := #[] }] 33 0 #[] #[])
  fields := #[]
  methods := #[k0m0]
  instanceTypes := #[]
  staticTypes := #[]
  resolved := Array.replicate 124 none
  statics := none }

def pool1 : Array CpInfo := pool [(2, .class_ 4), (1, u "java/lang/Object"), (0, u "<init>"), (0, u "()V"), (0, .methodref 8 9), (0, .class_ 10), (0, .nameAndType 11 12), (0, u "com/example/conformance_check/conformancecheck/catalogue/EditDistanceWithinPinLaw"), (0, u "ch"), (0, u "(JI)C"), (0, .methodref 8 14), (0, .nameAndType 15 16), (0, u "str"), (0, u "(ICCC)Ljava/lang/String;"), (0, .methodref 8 18), (0, .nameAndType 19 20), (0, u "ref"), (0, u "(ICCCICCC)I"), (0, .methodref 22 23), (0, .class_ 24), (0, .nameAndType 25 26), (0, u "java/lang/Math"), (0, u "min"), (0, u "(II)I"), (0, .methodref 28 29), (0, .class_ 30), (0, .nameAndType 31 32), (0, u "com/example/conformance_check/conformancecheck/catalogue/EditDistance"), (0, u "within"), (0, u "(Ljava/lang/String;Ljava/lang/String;I)I"), (0, .long 65535), (1, .string 36), (0, u ""), (0, .methodref 38 39), (0, .class_ 40), (0, .nameAndType 41 42), (0, u "java/lang/String"), (0, u "valueOf"), (0, u "(C)Ljava/lang/String;"), (0, .methodref 38 44), (0, .nameAndType 5 45), (0, u "([C)V"), (0, .methodref 8 47), (0, .nameAndType 48 20), (0, u "ordered"), (0, .methodref 8 50), (0, .nameAndType 51 52), (0, u "ne"), (0, u "(CC)I"), (0, .methodref 8 54), (0, .nameAndType 55 56), (0, u "d22"), (0, u "(CCCC)I"), (2, u "law"), (0, u "(IJJ)Z")] 3

def k1m0 : Method := { name := "<init>", desc := "()V", sig := { parameters := [], returnType := none }, accessFlags := 2, code := none }
def k1c1 : Code := { maxStack := 8, maxLocals := 17, code := code, exceptionTable := #[], attributes := #[] }
def k1m1 : Method := { name := "law", desc := "(IJJ)Z", sig := { parameters := [.int, .long, .long], returnType := some .boolean }, accessFlags := 9, code := some k1c1 }
def k1c2 : Code := { maxStack := 4, maxLocals := 4, code := method_3_code, exceptionTable := #[], attributes := #[] }
def k1m2 : Method := { name := "ch", desc := "(JI)C", sig := { parameters := [.long, .int], returnType := some .char }, accessFlags := 10, code := some k1c2 }
def k1c3 : Code := { maxStack := 6, maxLocals := 4, code := method_4_code, exceptionTable := #[], attributes := #[] }
def k1m3 : Method := { name := "str", desc := "(ICCC)Ljava/lang/String;", sig := { parameters := [.int, .char, .char, .char], returnType := some (.object "java/lang/String") }, accessFlags := 10, code := some k1c3 }
def k1c4 : Code := { maxStack := 2, maxLocals := 2, code := method_5_code, exceptionTable := #[], attributes := #[] }
def k1m4 : Method := { name := "ne", desc := "(CC)I", sig := { parameters := [.char, .char], returnType := some .int }, accessFlags := 10, code := some k1c4 }
def k1c5 : Code := { maxStack := 2, maxLocals := 4, code := method_6_code, exceptionTable := #[], attributes := #[] }
def k1m5 : Method := { name := "d22", desc := "(CCCC)I", sig := { parameters := [.char, .char, .char, .char], returnType := some .int }, accessFlags := 10, code := some k1c5 }
def k1c6 : Code := { maxStack := 8, maxLocals := 8, code := method_7_code, exceptionTable := #[], attributes := #[] }
def k1m6 : Method := { name := "ref", desc := "(ICCCICCC)I", sig := { parameters := [.int, .char, .char, .char, .int, .char, .char, .char], returnType := some .int }, accessFlags := 10, code := some k1c6 }
def k1c7 : Code := { maxStack := 6, maxLocals := 9, code := method_8_code, exceptionTable := #[], attributes := #[] }
def k1m7 : Method := { name := "ordered", desc := "(ICCCICCC)I", sig := { parameters := [.int, .char, .char, .char, .int, .char, .char, .char], returnType := some .int }, accessFlags := 10, code := some k1c7 }
/-- com/example/conformance_check/conformancecheck/catalogue/EditDistanceWithinPinLaw -/
def k1 : Class := { plain "com/example/conformance_check/conformancecheck/catalogue/EditDistanceWithinPinLaw" (some 0) with
  accessFlags := 49
  interfaces := #[]
  cf := some (fileOf pool1 8 #[] #[{ accessFlags := 2, nameIndex := 5, descriptorIndex := 6, attributes := #[] }, { accessFlags := 9, nameIndex := 59, descriptorIndex := 60, attributes := #[] }, { accessFlags := 10, nameIndex := 11, descriptorIndex := 12, attributes := #[] }, { accessFlags := 10, nameIndex := 15, descriptorIndex := 16, attributes := #[] }, { accessFlags := 10, nameIndex := 51, descriptorIndex := 52, attributes := #[] }, { accessFlags := 10, nameIndex := 55, descriptorIndex := 56, attributes := #[] }, { accessFlags := 10, nameIndex := 19, descriptorIndex := 20, attributes := #[] }, { accessFlags := 10, nameIndex := 48, descriptorIndex := 20, attributes := #[] }] 49 2 #[] #[])
  fields := #[]
  methods := #[k1m0, k1m1, k1m2, k1m3, k1m4, k1m5, k1m6, k1m7]
  instanceTypes := #[]
  staticTypes := #[]
  resolved := Array.replicate 64 none
  statics := none }

def pool2 : Array CpInfo := pool [(1, .class_ 2), (0, u "java/io/Serializable"), (0, .class_ 4), (0, u "java/lang/Object")] 2

/-- java/io/Serializable -/
def k2 : Class := { plain "java/io/Serializable" (some 0) with
  accessFlags := 1537
  interfaces := #[]
  cf := some (fileOf pool2 1 #[] #[] 1537 3 #[] #[])
  fields := #[]
  methods := #[]
  instanceTypes := #[]
  staticTypes := #[]
  resolved := Array.replicate 7 none
  statics := none }

def pool3 : Array CpInfo := pool [(1, .class_ 2), (0, u "java/lang/Comparable"), (0, .class_ 4), (0, u "java/lang/Object")] 7

/-- java/lang/Comparable -/
def k3 : Class := { plain "java/lang/Comparable" (some 0) with
  accessFlags := 1537
  interfaces := #[]
  cf := some (fileOf pool3 1 #[] #[] 1537 3 #[] #[])
  fields := #[]
  methods := #[]
  instanceTypes := #[]
  staticTypes := #[]
  resolved := Array.replicate 12 none
  statics := none }

def pool4 : Array CpInfo := pool [(2, .class_ 4), (1, u "java/lang/CharSequence"), (42, .class_ 48), (0, u "java/lang/CharSequence$1CodePointIterator"), (10, .class_ 60), (0, u "java/lang/CharSequence$1CharIterator"), (5, .class_ 67), (0, u "java/lang/Object")] 63

/-- java/lang/CharSequence -/
def k4 : Class := { plain "java/lang/CharSequence" (some 0) with
  accessFlags := 1537
  interfaces := #[]
  cf := some (fileOf pool4 2 #[.nestMembers #[47, 59]] #[] 1537 66 #[] #[])
  fields := #[]
  methods := #[]
  instanceTypes := #[]
  staticTypes := #[]
  resolved := Array.replicate 131 none
  statics := none }

def pool5 : Array CpInfo := pool [(1, .class_ 2), (0, u "java/lang/constant/Constable"), (0, .class_ 4), (0, u "java/lang/Object")] 6

/-- java/lang/constant/Constable -/
def k5 : Class := { plain "java/lang/constant/Constable" (some 0) with
  accessFlags := 1537
  interfaces := #[]
  cf := some (fileOf pool5 1 #[] #[] 1537 3 #[] #[])
  fields := #[]
  methods := #[]
  instanceTypes := #[]
  staticTypes := #[]
  resolved := Array.replicate 11 none
  statics := none }

def pool6 : Array CpInfo := pool [(1, .class_ 2), (0, u "java/lang/constant/ConstantDesc"), (0, .class_ 4), (0, u "java/lang/Object")] 32

/-- java/lang/constant/ConstantDesc -/
def k6 : Class := { plain "java/lang/constant/ConstantDesc" (some 0) with
  accessFlags := 1537
  interfaces := #[]
  cf := some (fileOf pool6 1 #[] #[] 1537 3 #[] #[])
  fields := #[]
  methods := #[]
  instanceTypes := #[]
  staticTypes := #[]
  resolved := Array.replicate 37 none
  statics := none }

def pool7 : Array CpInfo := pool [(1, .methodref 2 3), (0, .class_ 4), (0, .nameAndType 5 6), (0, u "java/lang/Object"), (0, u "<init>"), (0, u "()V"), (2, .fieldref 10 11), (0, .class_ 12), (0, .nameAndType 13 14), (0, u "java/lang/String"), (0, u "value"), (0, u "[B"), (0, .fieldref 10 16), (0, .nameAndType 17 18), (0, u "coder"), (0, u "B"), (2, u "hash"), (0, u "I"), (2, u "hashIsZero"), (0, u "Z"), (0, .methodref 10 28), (0, .nameAndType 5 29), (0, u "([CIILjava/lang/Void;)V"), (8, .fieldref 10 39), (0, .nameAndType 40 26), (0, u "COMPACT_STRINGS"), (1, .class_ 44), (1, u "java/lang/StringUTF16"), (0, u "compress"), (1, .methodref 42 48), (0, .nameAndType 49 50), (0, u "coderFromArrayLen"), (0, u "([BI)B"), (2, u "toBytes"), (53, .class_ 109), (1, u "java/lang/StringLatin1"), (32, u "()Z"), (34, .methodref 42 178), (0, .nameAndType 45 179), (0, u "([CII)[B"), (29, .methodref 10 210), (0, .nameAndType 5 211), (0, u "([BB)V"), (122, u "()I"), (0, .methodref 10 336), (0, .nameAndType 17 337), (0, u "()B"), (25, u "([BI)C"), (5, u "(C)Z"), (21, u "(II)V"), (35, u "(I)C"), (64, .methodref 10 493), (0, .nameAndType 494 142), (0, u "isLatin1"), (0, .methodref 107 496), (0, .nameAndType 497 363), (0, u "charAt"), (0, .methodref 42 496), (2, u "checkIndex"), (5, u "length"), (67, .class_ 576), (0, u "java/lang/CharSequence"), (22, u "CASE_INSENSITIVE_ORDER"), (0, u "Ljava/util/Comparator;"), (181, u "valueOf"), (0, u "(C)Ljava/lang/String;"), (226, u "([C)V"), (4, .methodref 107 1016), (0, .nameAndType 1017 369), (0, u "canEncode"), (0, .methodref 107 1019), (0, .nameAndType 53 1020), (0, u "(C)[B"), (0, .methodref 42 1019), (31, .fieldref 1054 1055), (0, .class_ 1056), (0, .nameAndType 1057 1058), (0, u "jdk/internal/util/Preconditions"), (0, u "SIOOBE_FORMATTER"), (0, u "Ljava/util/function/BiFunction;"), (0, .methodref 1054 1060), (0, .nameAndType 501 1061), (0, u "(IILjava/util/function/BiFunction;)I"), (39, u "serialPersistentFields"), (0, u "[Ljava/io/ObjectStreamField;"), (0, .class_ 1104), (0, u "java/lang/String$CaseInsensitiveComparator"), (1, .class_ 1107), (0, u "java/io/Serializable"), (0, .class_ 1109), (0, u "java/lang/Comparable"), (0, .class_ 1111), (0, u "java/lang/constant/Constable"), (0, .class_ 1113), (0, u "java/lang/constant/ConstantDesc"), (2, u "serialVersionUID"), (0, u "J"), (3, u "REPL"), (0, u "C"), (2, u "LATIN1"), (1, u "UTF16")] 323

def k7m0 : Method := { name := "<init>", desc := "()V", sig := { parameters := [], returnType := none }, accessFlags := 1, code := none }
def k7c1 : Code := { maxStack := 5, maxLocals := 2, code := jdk_42_method_3_code, exceptionTable := #[], attributes := #[] }
def k7m1 : Method := { name := "<init>", desc := "([C)V", sig := { parameters := [(.array .char)], returnType := none }, accessFlags := 1, code := some k7c1 }
def k7c2 : Code := { maxStack := 2, maxLocals := 1, code := jdk_42_method_54_code, exceptionTable := #[], attributes := #[] }
def k7m2 : Method := { name := "length", desc := "()I", sig := { parameters := [], returnType := some .int }, accessFlags := 1, code := some k7c2 }
def k7c3 : Code := { maxStack := 2, maxLocals := 2, code := jdk_42_method_56_code, exceptionTable := #[], attributes := #[] }
def k7m3 : Method := { name := "charAt", desc := "(I)C", sig := { parameters := [.int], returnType := some .char }, accessFlags := 1, code := some k7c3 }
def k7c4 : Code := { maxStack := 4, maxLocals := 1, code := jdk_42_method_139_code, exceptionTable := #[], attributes := #[] }
def k7m4 : Method := { name := "valueOf", desc := "(C)Ljava/lang/String;", sig := { parameters := [.char], returnType := some (.object "java/lang/String") }, accessFlags := 9, code := some k7c4 }
def k7c5 : Code := { maxStack := 4, maxLocals := 6, code := jdk_42_method_149_code, exceptionTable := #[], attributes := #[] }
def k7m5 : Method := { name := "<init>", desc := "([CIILjava/lang/Void;)V", sig := { parameters := [(.array .char), .int, .int, (.object "java/lang/Void")], returnType := none }, accessFlags := 2, code := some k7c5 }
def k7c6 : Code := { maxStack := 2, maxLocals := 3, code := jdk_42_method_151_code, exceptionTable := #[], attributes := #[] }
def k7m6 : Method := { name := "<init>", desc := "([BB)V", sig := { parameters := [(.array .byte), .byte], returnType := none }, accessFlags := 0, code := some k7c6 }
def k7c7 : Code := { maxStack := 1, maxLocals := 1, code := jdk_42_method_152_code, exceptionTable := #[], attributes := #[] }
def k7m7 : Method := { name := "coder", desc := "()B", sig := { parameters := [], returnType := some .byte }, accessFlags := 0, code := some k7c7 }
def k7c8 : Code := { maxStack := 1, maxLocals := 1, code := jdk_42_method_154_code, exceptionTable := #[], attributes := #[] }
def k7m8 : Method := { name := "isLatin1", desc := "()Z", sig := { parameters := [], returnType := some .boolean }, accessFlags := 0, code := some k7c8 }
def k7c9 : Code := { maxStack := 3, maxLocals := 2, code := jdk_42_method_155_code, exceptionTable := #[], attributes := #[] }
def k7m9 : Method := { name := "checkIndex", desc := "(II)V", sig := { parameters := [.int, .int], returnType := none }, accessFlags := 8, code := some k7c9 }
/-- java/lang/String -/
def k7 : Class := { plain "java/lang/String" (some 0) with
  accessFlags := 49
  interfaces := #[2, 3, 4, 5, 6]
  cf := some (fileOf pool7 10 #[.nestMembers #[1103]] #[{ accessFlags := 1, nameIndex := 5, descriptorIndex := 6, attributes := #[] }, { accessFlags := 1, nameIndex := 5, descriptorIndex := 1010, attributes := #[] }, { accessFlags := 1, nameIndex := 507, descriptorIndex := 334, attributes := #[] }, { accessFlags := 1, nameIndex := 497, descriptorIndex := 427, attributes := #[] }, { accessFlags := 9, nameIndex := 782, descriptorIndex := 783, attributes := #[] }, { accessFlags := 2, nameIndex := 5, descriptorIndex := 29, attributes := #[] }, { accessFlags := 0, nameIndex := 5, descriptorIndex := 211, attributes := #[] }, { accessFlags := 0, nameIndex := 17, descriptorIndex := 337, attributes := #[] }, { accessFlags := 0, nameIndex := 494, descriptorIndex := 142, attributes := #[] }, { accessFlags := 8, nameIndex := 501, descriptorIndex := 391, attributes := #[] }] 49 2 #[1106, 1108, 575, 1110, 1112] #[{ accessFlags := 18, nameIndex := 13, descriptorIndex := 14, attributes := #[] }, { accessFlags := 18, nameIndex := 17, descriptorIndex := 18, attributes := #[] }, { accessFlags := 2, nameIndex := 21, descriptorIndex := 22, attributes := #[] }, { accessFlags := 2, nameIndex := 25, descriptorIndex := 26, attributes := #[] }, { accessFlags := 26, nameIndex := 1116, descriptorIndex := 1117, attributes := #[] }, { accessFlags := 24, nameIndex := 40, descriptorIndex := 26, attributes := #[] }, { accessFlags := 26, nameIndex := 1101, descriptorIndex := 1102, attributes := #[] }, { accessFlags := 26, nameIndex := 1121, descriptorIndex := 1122, attributes := #[] }, { accessFlags := 25, nameIndex := 599, descriptorIndex := 600, attributes := #[] }, { accessFlags := 24, nameIndex := 1125, descriptorIndex := 18, attributes := #[] }, { accessFlags := 24, nameIndex := 1127, descriptorIndex := 18, attributes := #[] }])
  fields := #[{ name := "value", type := (.array .byte), accessFlags := 18, slot := 0, constantValue := 0 }, { name := "coder", type := .byte, accessFlags := 18, slot := 1, constantValue := 0 }, { name := "hash", type := .int, accessFlags := 2, slot := 2, constantValue := 0 }, { name := "hashIsZero", type := .boolean, accessFlags := 2, slot := 3, constantValue := 0 }, { name := "serialVersionUID", type := .long, accessFlags := 26, slot := 0, constantValue := 0 }, { name := "COMPACT_STRINGS", type := .boolean, accessFlags := 24, slot := 1, constantValue := 0 }, { name := "serialPersistentFields", type := (.array (.object "java/io/ObjectStreamField")), accessFlags := 26, slot := 2, constantValue := 0 }, { name := "REPL", type := .char, accessFlags := 26, slot := 3, constantValue := 0 }, { name := "CASE_INSENSITIVE_ORDER", type := (.object "java/util/Comparator"), accessFlags := 25, slot := 4, constantValue := 0 }, { name := "LATIN1", type := .byte, accessFlags := 24, slot := 5, constantValue := 0 }, { name := "UTF16", type := .byte, accessFlags := 24, slot := 6, constantValue := 0 }]
  methods := #[k7m0, k7m1, k7m2, k7m3, k7m4, k7m5, k7m6, k7m7, k7m8, k7m9]
  instanceTypes := #[(.array .byte), .byte, .int, .boolean]
  staticTypes := #[.long, .boolean, (.array (.object "java/io/ObjectStreamField")), .char, (.object "java/util/Comparator"), .byte, .byte]
  resolved := Array.replicate 1451 none
  statics := some 0 }

def pool8 : Array CpInfo := pool [(1, .class_ 2), (0, u "java/lang/Math"), (1, .class_ 6), (1, u "java/lang/Object"), (0, u "<init>"), (0, u "()V"), (89, .class_ 100), (1, u "java/lang/Math$RandomNumberGeneratorHolder"), (23, u "abs"), (34, u "(I)I"), (12, u "negativeZeroFloatBits"), (0, u "J"), (2, u "negativeZeroDoubleBits"), (21, u "max"), (2, u "min"), (43, u "$assertionsDisabled"), (0, u "Z"), (88, u "(II)I"), (2, u "twoToTheDoubleScaleDown"), (0, u "D"), (4, u "twoToTheDoubleScaleUp"), (9, u "E"), (3, u "PI"), (2, u "TAU"), (2, u "DEGREES_TO_RADIANS"), (0, u "RADIANS_TO_DEGREES")] 94

def k8m0 : Method := { name := "<init>", desc := "()V", sig := { parameters := [], returnType := none }, accessFlags := 2, code := none }
def k8c1 : Code := { maxStack := 1, maxLocals := 1, code := jdk_29_method_59_code, exceptionTable := #[], attributes := #[] }
def k8m1 : Method := { name := "abs", desc := "(I)I", sig := { parameters := [.int], returnType := some .int }, accessFlags := 9, code := some k8c1 }
def k8c2 : Code := { maxStack := 2, maxLocals := 2, code := jdk_29_method_65_code, exceptionTable := #[], attributes := #[] }
def k8m2 : Method := { name := "max", desc := "(II)I", sig := { parameters := [.int, .int], returnType := some .int }, accessFlags := 9, code := some k8c2 }
def k8c3 : Code := { maxStack := 2, maxLocals := 2, code := jdk_29_method_69_code, exceptionTable := #[], attributes := #[] }
def k8m3 : Method := { name := "min", desc := "(II)I", sig := { parameters := [.int, .int], returnType := some .int }, accessFlags := 9, code := some k8c3 }
/-- java/lang/Math -/
def k8 : Class := { plain "java/lang/Math" (some 0) with
  accessFlags := 49
  interfaces := #[]
  cf := some (fileOf pool8 1 #[.nestMembers #[98]] #[{ accessFlags := 2, nameIndex := 7, descriptorIndex := 8, attributes := #[] }, { accessFlags := 9, nameIndex := 124, descriptorIndex := 159, attributes := #[] }, { accessFlags := 9, nameIndex := 198, descriptorIndex := 335, attributes := #[] }, { accessFlags := 9, nameIndex := 201, descriptorIndex := 335, attributes := #[] }] 49 4 #[] #[{ accessFlags := 25, nameIndex := 354, descriptorIndex := 339, attributes := #[] }, { accessFlags := 25, nameIndex := 358, descriptorIndex := 339, attributes := #[] }, { accessFlags := 25, nameIndex := 361, descriptorIndex := 339, attributes := #[] }, { accessFlags := 26, nameIndex := 364, descriptorIndex := 339, attributes := #[] }, { accessFlags := 26, nameIndex := 365, descriptorIndex := 339, attributes := #[] }, { accessFlags := 26, nameIndex := 172, descriptorIndex := 173, attributes := #[] }, { accessFlags := 26, nameIndex := 176, descriptorIndex := 173, attributes := #[] }, { accessFlags := 8, nameIndex := 344, descriptorIndex := 339, attributes := #[] }, { accessFlags := 8, nameIndex := 338, descriptorIndex := 339, attributes := #[] }, { accessFlags := 4120, nameIndex := 245, descriptorIndex := 246, attributes := #[] }])
  fields := #[{ name := "E", type := .double, accessFlags := 25, slot := 0, constantValue := 0 }, { name := "PI", type := .double, accessFlags := 25, slot := 1, constantValue := 0 }, { name := "TAU", type := .double, accessFlags := 25, slot := 2, constantValue := 0 }, { name := "DEGREES_TO_RADIANS", type := .double, accessFlags := 26, slot := 3, constantValue := 0 }, { name := "RADIANS_TO_DEGREES", type := .double, accessFlags := 26, slot := 4, constantValue := 0 }, { name := "negativeZeroFloatBits", type := .long, accessFlags := 26, slot := 5, constantValue := 0 }, { name := "negativeZeroDoubleBits", type := .long, accessFlags := 26, slot := 6, constantValue := 0 }, { name := "twoToTheDoubleScaleUp", type := .double, accessFlags := 8, slot := 7, constantValue := 0 }, { name := "twoToTheDoubleScaleDown", type := .double, accessFlags := 8, slot := 8, constantValue := 0 }, { name := "$assertionsDisabled", type := .boolean, accessFlags := 4120, slot := 9, constantValue := 0 }]
  methods := #[k8m0, k8m1, k8m2, k8m3]
  instanceTypes := #[]
  staticTypes := #[.double, .double, .double, .double, .double, .long, .long, .double, .double, .boolean]
  resolved := Array.replicate 460 none
  statics := none }

def pool9 : Array CpInfo := pool [(2, .class_ 4), (1, u "java/lang/Object"), (0, u "<init>"), (0, u "()V"), (0, .methodref 8 9), (0, .class_ 10), (0, .nameAndType 11 12), (0, u "java/lang/String"), (0, u "length"), (0, u "()I"), (0, .methodref 14 15), (0, .class_ 16), (0, .nameAndType 17 18), (0, u "java/lang/Math"), (0, u "abs"), (0, u "(I)I"), (0, .class_ 20), (0, u "com/example/conformance_check/conformancecheck/catalogue/EditDistance$Table"), (0, .methodref 19 22), (0, .nameAndType 5 23), (0, u "(III)V"), (0, .methodref 14 25), (0, .nameAndType 26 27), (0, u "max"), (0, u "(II)I"), (0, .methodref 14 29), (0, .nameAndType 30 27), (0, u "min"), (0, .methodref 8 32), (0, .nameAndType 33 34), (0, u "charAt"), (0, u "(I)C"), (0, .methodref 36 37), (0, .class_ 38), (0, .nameAndType 39 40), (0, u "com/example/conformance_check/conformancecheck/catalogue/EditDistance"), (0, u "lastPosition"), (0, u "(Ljava/lang/String;CII)I"), (0, .methodref 19 42), (0, .nameAndType 43 27), (0, u "get"), (0, .methodref 19 45), (0, .nameAndType 46 23), (0, u "set"), (2, u "within"), (0, u "(Ljava/lang/String;Ljava/lang/String;I)I")] 6

def k9m0 : Method := { name := "<init>", desc := "()V", sig := { parameters := [], returnType := none }, accessFlags := 2, code := none }
def k9c1 : Code := { maxStack := 5, maxLocals := 17, code := prog_10_method_2_code, exceptionTable := #[], attributes := #[] }
def k9m1 : Method := { name := "within", desc := "(Ljava/lang/String;Ljava/lang/String;I)I", sig := { parameters := [(.object "java/lang/String"), (.object "java/lang/String"), .int], returnType := some .int }, accessFlags := 8, code := some k9c1 }
def k9c2 : Code := { maxStack := 3, maxLocals := 5, code := prog_10_method_3_code, exceptionTable := #[], attributes := #[] }
def k9m2 : Method := { name := "lastPosition", desc := "(Ljava/lang/String;CII)I", sig := { parameters := [(.object "java/lang/String"), .char, .int, .int], returnType := some .int }, accessFlags := 10, code := some k9c2 }
/-- com/example/conformance_check/conformancecheck/catalogue/EditDistance -/
def k9 : Class := { plain "com/example/conformance_check/conformancecheck/catalogue/EditDistance" (some 0) with
  accessFlags := 32
  interfaces := #[]
  cf := some (fileOf pool9 36 #[.nestMembers #[19]] #[{ accessFlags := 2, nameIndex := 5, descriptorIndex := 6, attributes := #[] }, { accessFlags := 8, nameIndex := 49, descriptorIndex := 50, attributes := #[] }, { accessFlags := 10, nameIndex := 39, descriptorIndex := 40, attributes := #[] }] 32 2 #[] #[])
  fields := #[]
  methods := #[k9m0, k9m1, k9m2]
  instanceTypes := #[]
  staticTypes := #[]
  resolved := Array.replicate 57 none
  statics := none }

def pool10 : Array CpInfo := pool [(1, .methodref 2 3), (0, .class_ 4), (0, .nameAndType 5 6), (0, u "java/lang/Object"), (0, u "<init>"), (0, u "()V"), (0, .class_ 8), (0, u "[[I"), (0, .fieldref 10 11), (0, .class_ 12), (0, .nameAndType 13 8), (0, u "com/example/conformance_check/conformancecheck/catalogue/EditDistance$Table"), (0, u "rows"), (0, .fieldref 10 15), (0, .nameAndType 16 17), (0, u "max"), (0, u "I"), (0, .methodref 19 20), (0, .class_ 21), (0, .nameAndType 22 23), (0, u "java/lang/Math"), (0, u "abs"), (0, u "(I)I"), (0, u "(III)V"), (2, u "get"), (0, u "(II)I"), (1, u "set"), (3, .class_ 35), (0, u "com/example/conformance_check/conformancecheck/catalogue/EditDistance")] 2

def k10c0 : Code := { maxStack := 3, maxLocals := 4, code := prog_11_method_1_code, exceptionTable := #[], attributes := #[] }
def k10m0 : Method := { name := "<init>", desc := "(III)V", sig := { parameters := [.int, .int, .int], returnType := none }, accessFlags := 0, code := some k10c0 }
def k10c1 : Code := { maxStack := 3, maxLocals := 3, code := prog_11_method_2_code, exceptionTable := #[], attributes := #[] }
def k10m1 : Method := { name := "get", desc := "(II)I", sig := { parameters := [.int, .int], returnType := some .int }, accessFlags := 0, code := some k10c1 }
def k10c2 : Code := { maxStack := 3, maxLocals := 4, code := prog_11_method_3_code, exceptionTable := #[], attributes := #[] }
def k10m2 : Method := { name := "set", desc := "(III)V", sig := { parameters := [.int, .int, .int], returnType := none }, accessFlags := 0, code := some k10c2 }
/-- com/example/conformance_check/conformancecheck/catalogue/EditDistance$Table -/
def k10 : Class := { plain "com/example/conformance_check/conformancecheck/catalogue/EditDistance$Table" (some 0) with
  accessFlags := 32
  interfaces := #[]
  cf := some (fileOf pool10 10 #[.nestHost 34] #[{ accessFlags := 0, nameIndex := 5, descriptorIndex := 24, attributes := #[] }, { accessFlags := 0, nameIndex := 27, descriptorIndex := 28, attributes := #[] }, { accessFlags := 0, nameIndex := 30, descriptorIndex := 24, attributes := #[] }] 32 2 #[] #[{ accessFlags := 18, nameIndex := 13, descriptorIndex := 8, attributes := #[] }, { accessFlags := 18, nameIndex := 16, descriptorIndex := 17, attributes := #[] }])
  fields := #[{ name := "rows", type := (.array (.array .int)), accessFlags := 18, slot := 0, constantValue := 0 }, { name := "max", type := .int, accessFlags := 18, slot := 1, constantValue := 0 }]
  methods := #[k10m0, k10m1, k10m2]
  instanceTypes := #[(.array (.array .int)), .int]
  staticTypes := #[]
  resolved := Array.replicate 38 none
  statics := none }

def pool11 : Array CpInfo := pool [(1, .class_ 2), (0, u "java/lang/String"), (1, .class_ 6), (1, u "java/lang/Object"), (0, u "<init>"), (0, u "()V"), (0, .methodref 1 10), (0, .nameAndType 11 12), (0, u "checkIndex"), (0, u "(II)V"), (1, .class_ 16), (1, u "java/lang/StringLatin1"), (36, u "([BI)C"), (36, u "canEncode"), (14, u "(C)Z"), (15, u "$assertionsDisabled"), (0, u "Z"), (98, .class_ 223), (1, u "java/lang/StringLatin1$LinesSpliterator"), (28, u "charAt"), (127, u "toBytes"), (1, u "(C)[B"), (7, .class_ 391), (0, u "java/lang/StringLatin1$CharsSpliterator")] 3

def k11m0 : Method := { name := "<init>", desc := "()V", sig := { parameters := [], returnType := none }, accessFlags := 0, code := none }
def k11c1 : Code := { maxStack := 2, maxLocals := 2, code := jdk_43_method_2_code, exceptionTable := #[], attributes := #[] }
def k11m1 : Method := { name := "charAt", desc := "([BI)C", sig := { parameters := [(.array .byte), .int], returnType := some .char }, accessFlags := 9, code := some k11c1 }
def k11c2 : Code := { maxStack := 2, maxLocals := 1, code := jdk_43_method_3_code, exceptionTable := #[], attributes := #[] }
def k11m2 : Method := { name := "canEncode", desc := "(C)Z", sig := { parameters := [.char], returnType := some .boolean }, accessFlags := 9, code := some k11c2 }
def k11c3 : Code := { maxStack := 4, maxLocals := 1, code := jdk_43_method_46_code, exceptionTable := #[], attributes := #[] }
def k11m3 : Method := { name := "toBytes", desc := "(C)[B", sig := { parameters := [.char], returnType := some (.array .byte) }, accessFlags := 9, code := some k11c3 }
/-- java/lang/StringLatin1 -/
def k11 : Class := { plain "java/lang/StringLatin1" (some 0) with
  accessFlags := 48
  interfaces := #[]
  cf := some (fileOf pool11 14 #[.nestMembers #[390, 221]] #[{ accessFlags := 0, nameIndex := 7, descriptorIndex := 8, attributes := #[] }, { accessFlags := 9, nameIndex := 252, descriptorIndex := 53, attributes := #[] }, { accessFlags := 9, nameIndex := 90, descriptorIndex := 105, attributes := #[] }, { accessFlags := 9, nameIndex := 380, descriptorIndex := 382, attributes := #[] }] 48 4 #[] #[{ accessFlags := 4120, nameIndex := 121, descriptorIndex := 122, attributes := #[] }])
  fields := #[{ name := "$assertionsDisabled", type := .boolean, accessFlags := 4120, slot := 0, constantValue := 0 }]
  methods := #[k11m0, k11m1, k11m2, k11m3]
  instanceTypes := #[]
  staticTypes := #[.boolean]
  resolved := Array.replicate 395 none
  statics := none }

def pool12 : Array CpInfo := pool [(3, .class_ 4), (0, u "java/lang/String"), (1, .class_ 8), (1, u "java/lang/Object"), (0, u "<init>"), (0, u "()V"), (0, .methodref 12 13), (0, .class_ 14), (0, .nameAndType 15 16), (0, u "java/lang/StringUTF16"), (0, u "newBytesLength"), (0, u "(I)I"), (3, .integer 1073741823), (23, .fieldref 12 45), (0, .nameAndType 46 47), (0, u "$assertionsDisabled"), (0, u "Z"), (0, .methodref 12 49), (0, .nameAndType 50 51), (0, u "length"), (0, u "([B)I"), (7, .fieldref 12 60), (0, .nameAndType 61 62), (0, u "HI_BYTE_SHIFT"), (0, u "I"), (0, .fieldref 12 64), (0, .nameAndType 65 62), (0, u "LO_BYTE_SHIFT"), (1, .methodref 12 68), (0, .nameAndType 69 70), (0, u "checkIndex"), (0, u "(I[B)V"), (0, .methodref 12 72), (0, .nameAndType 73 74), (0, u "getChar"), (0, u "([BI)C"), (32, .methodref 12 108), (0, .nameAndType 109 110), (0, u "newBytesFor"), (0, u "(I)[B"), (0, .methodref 12 112), (0, .nameAndType 113 114), (0, u "putChar"), (0, u "([BII)V"), (0, .methodref 12 116), (0, .nameAndType 117 118), (0, u "compress"), (0, u "([CI[BII)I"), (0, .methodref 12 120), (0, .nameAndType 121 122), (0, u "toBytes"), (0, u "([CII)[B"), (138, u "coderFromArrayLen"), (0, u "([BI)B"), (106, .class_ 371), (1, u "java/lang/StringUTF16$LinesSpliterator"), (20, u "charAt"), (21, .methodref 3 415), (0, .nameAndType 69 416), (0, u "(II)V"), (13, u "MAX_LENGTH"), (44, u "(C)[B"), (151, .class_ 628), (0, u "java/lang/StringUTF16$CodePointsSpliterator"), (0, .class_ 630), (0, u "java/lang/StringUTF16$CharsSpliterator")] 4

def k12m0 : Method := { name := "<init>", desc := "()V", sig := { parameters := [], returnType := none }, accessFlags := 0, code := none }
def k12c1 : Code := { maxStack := 1, maxLocals := 1, code := jdk_52_method_2_code, exceptionTable := #[], attributes := #[] }
def k12m1 : Method := { name := "newBytesFor", desc := "(I)[B", sig := { parameters := [.int], returnType := some (.array .byte) }, accessFlags := 9, code := some k12c1 }
def k12c2 : Code := { maxStack := 4, maxLocals := 1, code := jdk_52_method_3_code, exceptionTable := #[], attributes := #[] }
def k12m2 : Method := { name := "newBytesLength", desc := "(I)I", sig := { parameters := [.int], returnType := some .int }, accessFlags := 9, code := some k12c2 }
def k12c3 : Code := { maxStack := 4, maxLocals := 3, code := jdk_52_method_4_code, exceptionTable := #[], attributes := #[] }
def k12m3 : Method := { name := "putChar", desc := "([BII)V", sig := { parameters := [(.array .byte), .int, .int], returnType := none }, accessFlags := 8, code := some k12c3 }
def k12c4 : Code := { maxStack := 3, maxLocals := 2, code := jdk_52_method_5_code, exceptionTable := #[], attributes := #[] }
def k12m4 : Method := { name := "getChar", desc := "([BI)C", sig := { parameters := [(.array .byte), .int], returnType := some .char }, accessFlags := 8, code := some k12c4 }
def k12c5 : Code := { maxStack := 2, maxLocals := 1, code := jdk_52_method_6_code, exceptionTable := #[], attributes := #[] }
def k12m5 : Method := { name := "length", desc := "([B)I", sig := { parameters := [(.array .byte)], returnType := some .int }, accessFlags := 9, code := some k12c5 }
def k12c6 : Code := { maxStack := 4, maxLocals := 5, code := jdk_52_method_14_code, exceptionTable := #[], attributes := #[] }
def k12m6 : Method := { name := "toBytes", desc := "([CII)[B", sig := { parameters := [(.array .char), .int, .int], returnType := some (.array .byte) }, accessFlags := 9, code := some k12c6 }
def k12c7 : Code := { maxStack := 2, maxLocals := 2, code := jdk_52_method_15_code, exceptionTable := #[], attributes := #[] }
def k12m7 : Method := { name := "coderFromArrayLen", desc := "([BI)B", sig := { parameters := [(.array .byte), .int], returnType := some .byte }, accessFlags := 8, code := some k12c7 }
def k12c8 : Code := { maxStack := 5, maxLocals := 6, code := jdk_52_method_16_code, exceptionTable := #[], attributes := #[] }
def k12m8 : Method := { name := "compress", desc := "([CII)[B", sig := { parameters := [(.array .char), .int, .int], returnType := some (.array .byte) }, accessFlags := 9, code := some k12c8 }
def k12c9 : Code := { maxStack := 3, maxLocals := 7, code := jdk_52_method_21_code, exceptionTable := #[], attributes := #[] }
def k12m9 : Method := { name := "compress", desc := "([CI[BII)I", sig := { parameters := [(.array .char), .int, (.array .byte), .int, .int], returnType := some .int }, accessFlags := 9, code := some k12c9 }
def k12c10 : Code := { maxStack := 3, maxLocals := 2, code := jdk_52_method_24_code, exceptionTable := #[], attributes := #[] }
def k12m10 : Method := { name := "toBytes", desc := "(C)[B", sig := { parameters := [.char], returnType := some (.array .byte) }, accessFlags := 9, code := some k12c10 }
def k12c11 : Code := { maxStack := 2, maxLocals := 2, code := jdk_52_method_83_code, exceptionTable := #[], attributes := #[] }
def k12m11 : Method := { name := "charAt", desc := "([BI)C", sig := { parameters := [(.array .byte), .int], returnType := some .char }, accessFlags := 9, code := some k12c11 }
def k12c12 : Code := { maxStack := 2, maxLocals := 2, code := jdk_52_method_91_code, exceptionTable := #[], attributes := #[] }
def k12m12 : Method := { name := "checkIndex", desc := "(I[B)V", sig := { parameters := [.int, (.array .byte)], returnType := none }, accessFlags := 9, code := some k12c12 }
/-- java/lang/StringUTF16 -/
def k12 : Class := { plain "java/lang/StringUTF16" (some 0) with
  accessFlags := 48
  interfaces := #[]
  cf := some (fileOf pool12 12 #[.nestMembers #[627, 629, 369]] #[{ accessFlags := 0, nameIndex := 9, descriptorIndex := 10, attributes := #[] }, { accessFlags := 9, nameIndex := 109, descriptorIndex := 110, attributes := #[] }, { accessFlags := 9, nameIndex := 15, descriptorIndex := 16, attributes := #[] }, { accessFlags := 8, nameIndex := 113, descriptorIndex := 114, attributes := #[] }, { accessFlags := 8, nameIndex := 73, descriptorIndex := 74, attributes := #[] }, { accessFlags := 9, nameIndex := 50, descriptorIndex := 51, attributes := #[] }, { accessFlags := 9, nameIndex := 121, descriptorIndex := 122, attributes := #[] }, { accessFlags := 8, nameIndex := 261, descriptorIndex := 262, attributes := #[] }, { accessFlags := 9, nameIndex := 117, descriptorIndex := 122, attributes := #[] }, { accessFlags := 9, nameIndex := 117, descriptorIndex := 118, attributes := #[] }, { accessFlags := 9, nameIndex := 121, descriptorIndex := 475, attributes := #[] }, { accessFlags := 9, nameIndex := 392, descriptorIndex := 74, attributes := #[] }, { accessFlags := 9, nameIndex := 69, descriptorIndex := 70, attributes := #[] }] 48 6 #[] #[{ accessFlags := 26, nameIndex := 61, descriptorIndex := 62, attributes := #[] }, { accessFlags := 26, nameIndex := 65, descriptorIndex := 62, attributes := #[] }, { accessFlags := 24, nameIndex := 430, descriptorIndex := 62, attributes := #[] }, { accessFlags := 4120, nameIndex := 46, descriptorIndex := 47, attributes := #[] }])
  fields := #[{ name := "HI_BYTE_SHIFT", type := .int, accessFlags := 26, slot := 0, constantValue := 0 }, { name := "LO_BYTE_SHIFT", type := .int, accessFlags := 26, slot := 1, constantValue := 0 }, { name := "MAX_LENGTH", type := .int, accessFlags := 24, slot := 2, constantValue := 0 }, { name := "$assertionsDisabled", type := .boolean, accessFlags := 4120, slot := 3, constantValue := 0 }]
  methods := #[k12m0, k12m1, k12m2, k12m3, k12m4, k12m5, k12m6, k12m7, k12m8, k12m9, k12m10, k12m11, k12m12]
  instanceTypes := #[]
  staticTypes := #[.int, .int, .int, .boolean]
  resolved := Array.replicate 635 none
  statics := some 1 }

def pool13 : Array CpInfo := pool [(2, .class_ 4), (1, u "java/lang/Object"), (0, u "<init>"), (0, u "()V"), (17, .class_ 26), (1, u "jdk/internal/util/Preconditions"), (6, u "checkIndex"), (21, .class_ 56), (0, u "jdk/internal/util/Preconditions$4"), (57, .class_ 115), (0, u "jdk/internal/util/Preconditions$1"), (7, u "SIOOBE_FORMATTER"), (0, u "Ljava/util/function/BiFunction;"), (0, .class_ 126), (0, u "jdk/internal/util/Preconditions$2"), (3, u "AIOOBE_FORMATTER"), (0, .class_ 132), (0, u "jdk/internal/util/Preconditions$3"), (3, u "IOOBE_FORMATTER"), (41, u "(IILjava/util/function/BiFunction;)I")] 15

def k13m0 : Method := { name := "<init>", desc := "()V", sig := { parameters := [], returnType := none }, accessFlags := 1, code := none }
def k13c1 : Code := { maxStack := 3, maxLocals := 3, code := jdk_41_method_11_code, exceptionTable := #[], attributes := #[] }
def k13m1 : Method := { name := "checkIndex", desc := "(IILjava/util/function/BiFunction;)I", sig := { parameters := [.int, .int, (.object "java/util/function/BiFunction")], returnType := some .int }, accessFlags := 9, code := some k13c1 }
/-- jdk/internal/util/Preconditions -/
def k13 : Class := { plain "jdk/internal/util/Preconditions" (some 0) with
  accessFlags := 33
  interfaces := #[]
  cf := some (fileOf pool13 24 #[.nestMembers #[55, 131, 125, 114]] #[{ accessFlags := 1, nameIndex := 5, descriptorIndex := 6, attributes := #[] }, { accessFlags := 9, nameIndex := 33, descriptorIndex := 178, attributes := #[] }] 33 2 #[] #[{ accessFlags := 25, nameIndex := 123, descriptorIndex := 124, attributes := #[] }, { accessFlags := 25, nameIndex := 130, descriptorIndex := 124, attributes := #[] }, { accessFlags := 25, nameIndex := 136, descriptorIndex := 124, attributes := #[] }])
  fields := #[{ name := "SIOOBE_FORMATTER", type := (.object "java/util/function/BiFunction"), accessFlags := 25, slot := 0, constantValue := 0 }, { name := "AIOOBE_FORMATTER", type := (.object "java/util/function/BiFunction"), accessFlags := 25, slot := 1, constantValue := 0 }, { name := "IOOBE_FORMATTER", type := (.object "java/util/function/BiFunction"), accessFlags := 25, slot := 2, constantValue := 0 }]
  methods := #[k13m0, k13m1]
  instanceTypes := #[]
  staticTypes := #[(.object "java/util/function/BiFunction"), (.object "java/util/function/BiFunction"), (.object "java/util/function/BiFunction")]
  resolved := Array.replicate 194 none
  statics := some 2 }

def pool14 : Array CpInfo := pool [(9, u "<init>"), (6, .class_ 18), (1, u "java/lang/Object"), (0, u "()V"), (1, .class_ 23), (1, u "jdk/internal/util/ArraysSupport"), (0, u "LOG2_ARRAY_LONG_INDEX_SCALE"), (0, u "I"), (2, u "U"), (0, u "Ljdk/internal/misc/Unsafe;"), (8, u "BIG_ENDIAN"), (0, u "Z"), (8, u "LOG2_BYTE_BIT_SIZE"), (4, u "LOG2_ARRAY_INT_INDEX_SCALE"), (54, u "JLA"), (0, u "Ljdk/internal/access/JavaLangAccess;"), (11, u "LOG2_ARRAY_BOOLEAN_INDEX_SCALE"), (9, u "LOG2_ARRAY_BYTE_INDEX_SCALE"), (5, u "LOG2_ARRAY_CHAR_INDEX_SCALE"), (5, u "LOG2_ARRAY_SHORT_INDEX_SCALE"), (18, u "LOG2_ARRAY_FLOAT_INDEX_SCALE"), (24, u "LOG2_ARRAY_DOUBLE_INDEX_SCALE"), (89, u "T_BOOLEAN"), (2, u "T_CHAR"), (1, u "T_FLOAT"), (1, u "T_DOUBLE"), (1, u "T_BYTE"), (1, u "T_SHORT"), (1, u "T_INT"), (1, u "T_LONG"), (1, u "SOFT_MAX_ARRAY_LENGTH")] 83

def k14m0 : Method := { name := "<init>", desc := "()V", sig := { parameters := [], returnType := none }, accessFlags := 2, code := none }
/-- jdk/internal/util/ArraysSupport -/
def k14 : Class := { plain "jdk/internal/util/ArraysSupport" (some 0) with
  accessFlags := 33
  interfaces := #[]
  cf := some (fileOf pool14 21 #[] #[{ accessFlags := 2, nameIndex := 9, descriptorIndex := 19, attributes := #[] }] 33 16 #[] #[{ accessFlags := 24, nameIndex := 28, descriptorIndex := 29, attributes := #[] }, { accessFlags := 26, nameIndex := 38, descriptorIndex := 39, attributes := #[] }, { accessFlags := 25, nameIndex := 121, descriptorIndex := 25, attributes := #[] }, { accessFlags := 25, nameIndex := 131, descriptorIndex := 25, attributes := #[] }, { accessFlags := 25, nameIndex := 137, descriptorIndex := 25, attributes := #[] }, { accessFlags := 25, nameIndex := 143, descriptorIndex := 25, attributes := #[] }, { accessFlags := 25, nameIndex := 53, descriptorIndex := 25, attributes := #[] }, { accessFlags := 25, nameIndex := 24, descriptorIndex := 25, attributes := #[] }, { accessFlags := 25, nameIndex := 162, descriptorIndex := 25, attributes := #[] }, { accessFlags := 25, nameIndex := 187, descriptorIndex := 25, attributes := #[] }, { accessFlags := 26, nameIndex := 48, descriptorIndex := 25, attributes := #[] }, { accessFlags := 25, nameIndex := 277, descriptorIndex := 25, attributes := #[] }, { accessFlags := 25, nameIndex := 280, descriptorIndex := 25, attributes := #[] }, { accessFlags := 25, nameIndex := 282, descriptorIndex := 25, attributes := #[] }, { accessFlags := 25, nameIndex := 284, descriptorIndex := 25, attributes := #[] }, { accessFlags := 25, nameIndex := 286, descriptorIndex := 25, attributes := #[] }, { accessFlags := 25, nameIndex := 288, descriptorIndex := 25, attributes := #[] }, { accessFlags := 25, nameIndex := 290, descriptorIndex := 25, attributes := #[] }, { accessFlags := 25, nameIndex := 292, descriptorIndex := 25, attributes := #[] }, { accessFlags := 26, nameIndex := 108, descriptorIndex := 109, attributes := #[] }, { accessFlags := 25, nameIndex := 294, descriptorIndex := 25, attributes := #[] }])
  fields := #[{ name := "U", type := (.object "jdk/internal/misc/Unsafe"), accessFlags := 24, slot := 0, constantValue := 0 }, { name := "BIG_ENDIAN", type := .boolean, accessFlags := 26, slot := 1, constantValue := 0 }, { name := "LOG2_ARRAY_BOOLEAN_INDEX_SCALE", type := .int, accessFlags := 25, slot := 2, constantValue := 0 }, { name := "LOG2_ARRAY_BYTE_INDEX_SCALE", type := .int, accessFlags := 25, slot := 3, constantValue := 0 }, { name := "LOG2_ARRAY_CHAR_INDEX_SCALE", type := .int, accessFlags := 25, slot := 4, constantValue := 0 }, { name := "LOG2_ARRAY_SHORT_INDEX_SCALE", type := .int, accessFlags := 25, slot := 5, constantValue := 0 }, { name := "LOG2_ARRAY_INT_INDEX_SCALE", type := .int, accessFlags := 25, slot := 6, constantValue := 0 }, { name := "LOG2_ARRAY_LONG_INDEX_SCALE", type := .int, accessFlags := 25, slot := 7, constantValue := 0 }, { name := "LOG2_ARRAY_FLOAT_INDEX_SCALE", type := .int, accessFlags := 25, slot := 8, constantValue := 0 }, { name := "LOG2_ARRAY_DOUBLE_INDEX_SCALE", type := .int, accessFlags := 25, slot := 9, constantValue := 0 }, { name := "LOG2_BYTE_BIT_SIZE", type := .int, accessFlags := 26, slot := 10, constantValue := 0 }, { name := "T_BOOLEAN", type := .int, accessFlags := 25, slot := 11, constantValue := 0 }, { name := "T_CHAR", type := .int, accessFlags := 25, slot := 12, constantValue := 0 }, { name := "T_FLOAT", type := .int, accessFlags := 25, slot := 13, constantValue := 0 }, { name := "T_DOUBLE", type := .int, accessFlags := 25, slot := 14, constantValue := 0 }, { name := "T_BYTE", type := .int, accessFlags := 25, slot := 15, constantValue := 0 }, { name := "T_SHORT", type := .int, accessFlags := 25, slot := 16, constantValue := 0 }, { name := "T_INT", type := .int, accessFlags := 25, slot := 17, constantValue := 0 }, { name := "T_LONG", type := .int, accessFlags := 25, slot := 18, constantValue := 0 }, { name := "JLA", type := (.object "jdk/internal/access/JavaLangAccess"), accessFlags := 26, slot := 19, constantValue := 0 }, { name := "SOFT_MAX_ARRAY_LENGTH", type := .int, accessFlags := 25, slot := 20, constantValue := 0 }]
  methods := #[k14m0]
  instanceTypes := #[]
  staticTypes := #[(.object "jdk/internal/misc/Unsafe"), .boolean, .int, .int, .int, .int, .int, .int, .int, .int, .int, .int, .int, .int, .int, .int, .int, .int, .int, (.object "jdk/internal/access/JavaLangAccess"), .int]
  resolved := Array.replicate 378 none
  statics := none }

def pool15 : Array CpInfo := pool [(1, u "java/lang/Cloneable"), (0, .class_ 1), (0, u "java/lang/Object"), (0, .class_ 3)] 3

/-- java/lang/Cloneable -/
def k15 : Class := { plain "java/lang/Cloneable" (some 0) with
  accessFlags := 1537
  interfaces := #[]
  cf := some (fileOf pool15 2 #[] #[] 1537 4 #[] #[])
  fields := #[]
  methods := #[]
  instanceTypes := #[]
  staticTypes := #[]
  resolved := Array.replicate 8 none
  statics := none }

/-- the primitive byte -/
def k16 : Class := { plain "byte" none with kind := .primitive 'B', accessFlags := 0x411 }
/-- [B -/
def k17 : Class := { plain "[B" (some 0) with kind := .array 16 .byte, interfaces := #[15, 2], accessFlags := 1041 }

/-- the primitive char -/
def k18 : Class := { plain "char" none with kind := .primitive 'C', accessFlags := 0x411 }
/-- [C -/
def k19 : Class := { plain "[C" (some 0) with kind := .array 18 .char, interfaces := #[15, 2], accessFlags := 1041 }

/-- the primitive int -/
def k20 : Class := { plain "int" none with kind := .primitive 'I', accessFlags := 0x411 }
/-- [I -/
def k21 : Class := { plain "[I" (some 0) with kind := .array 20 .int, interfaces := #[15, 2], accessFlags := 1041 }
/-- [[I -/
def k22 : Class := { plain "[[I" (some 0) with kind := .array 21 (.array .int), interfaces := #[15, 2], accessFlags := 1041 }

def heap : Heap := #[{ cls := 7, slots := #[.long 0, .int 1, .null, .int 0, .null, .int 0, .int 0], vm := .statics 7 },
  { cls := 12, slots := #[.int 0, .int 8, .int 0, .int 1], vm := .statics 12 },
  { cls := 13, slots := #[.null, .null, .null], vm := .statics 13 }]
def classes : Array Class := #[k0, k1, k2, k3, k4, k5, k6, k7, k8, k9, k10, k11, k12, k13, k14, k15, k16, k17, k18, k19, k20, k21, k22]
def interned : List (Array UInt16 × Addr) := []
def slotsUsed : Nat := 14
def theMethod : MethodId := ⟨1, 1⟩
def args0 : Array Value := #[.int 5, .long 0, .long 0]
def aboutOver (below : List Frame) : State where
  vm := { classes := classes, interned := interned.toArray }
  heap := heap
  slotsUsed := slotsUsed
  threads := #[{ frames := .invoking theMethod args0 :: below }]
def below0 : List Frame := [.native { method := ⟨0, 0⟩, args := #[] }]
def about1 : State := aboutOver below0
def p0 : Program := .bare "" "" ""
def e0 : Env := launch0.env 0 0 0
theorem w_frames : about1.frames = Frame.invoking theMethod args0 :: below0 := rfl
set_option maxRecDepth 65536 in
theorem w_args : argsFit about1.vm theMethod args0 = true := by decide +kernel
set_option maxRecDepth 65536 in
theorem w_heap : heapFits about1 = true := by decide +kernel
set_option maxRecDepth 65536 in
theorem w_runnable : about1.curStatus? = some .runnable := by decide +kernel
set_option maxRecDepth 65536 in
theorem w_alone : about1.alone = true := by decide +kernel
set_option maxRecDepth 65536 in
theorem w_named : about1.methodNamed? x = some theMethod := by decide +kernel
set_option maxRecDepth 65536 in
theorem w_hears : about1.hears theMethod below0 = true := by decide +kernel
set_option maxRecDepth 65536 in
theorem w_ripe : about1.ripe theMethod args0 below0 = true := by decide +kernel
theorem w_running : about1.status = .running := rfl
set_option maxRecDepth 65536 in
theorem w_room : about1.hasRoom e0.platform room_1 = true :=
  launch0.hasRoom_least _ room_1 (by decide +kernel) (by decide +kernel) (by decide +kernel) (by decide +kernel) (by decide +kernel) (by decide +kernel)
theorem allAtoms_all (ts : List Jvm.Cond) (a : Array Jvm.Value) (st : Jvm.State) : (allAtoms ts).before a st = ts.all (fun c => c.before a st) := by
  induction ts with
  | nil => rfl
  | cons c t ih =>
    show (Jvm.Cond.and c (allAtoms t)).before a st = _
    rw [Jvm.Cond.before_and, ih, List.all_cons]
def words1 : List Jvm.Cond := Jvm.Cond.code x code maxLocals ret :: tables_1
/-- a 'code' word, met by the world's own term for the bytes: nothing is compared byte by byte -/
theorem code_word {y : MethodName} {bytes : ByteArray} {mx : Nat} {rt : Option FieldType} {a : Array Value} {s : State} {m : MethodId} {meth : Method} {c : Code} (h1 : s.methodNamed? y = some m) (h2 : s.vm.method? m = some meth) (h3 : meth.code = some c) (h4 : c.code = bytes)
    (h5 : (c.maxLocals == mx && c.exceptionTable.isEmpty && decide (c.maxStack ≤ mostOperands) && decide (meth.sig.returnType = rt) && !meth.locks && decide (parseMethodDescriptor y.desc = some meth.sig)) = true) : (Jvm.Cond.code y bytes mx rt).before a s = true := by
  simp only [Bool.and_eq_true, beq_iff_eq, Bool.not_eq_true', decide_eq_true_eq] at h5
  obtain ⟨⟨⟨⟨⟨g1, g2⟩, g3⟩, g4⟩, g5⟩, g6⟩ := h5
  simp [Cond.before, Cond.holds, Cond.value, h1, h2, h3, h4, g1, g2, g3, g4, g5, g6]
def isCode : Jvm.Cond → Bool
  | .code _ _ _ _ => true
  | _ => false
theorem all_split {L : List Jvm.Cond} {P : Jvm.Cond → Bool} (h1 : L.all (fun c => isCode c || P c) = true) (h2 : ∀ c ∈ L.filter isCode, P c = true) : L.all P = true := by
  refine List.all_eq_true.mpr fun c hc => ?_
  have h := List.all_eq_true.mp h1 c hc
  rcases Bool.eq_false_or_eq_true (isCode c) with hi | hi
  · exact h2 c (List.mem_filter.mpr ⟨hc, hi⟩)
  · simpa [hi] using h
set_option maxRecDepth 65536 in
theorem w_c0 : (Jvm.Cond.code x code maxLocals ret).before args0 about1 = true := code_word (m := ⟨1, 1⟩) (meth := k1m1) (c := k1c1) (by decide +kernel) rfl rfl rfl (by decide +kernel)
set_option maxRecDepth 65536 in
theorem w_c1 : (Jvm.Cond.code ({ cls := "com/example/conformance_check/conformancecheck/catalogue/EditDistanceWithinPinLaw", name := "ch", desc := "(JI)C" } : Jvm.MethodName) method_3_code (4 : Nat) (Option.some Jvm.ClassFile.FieldType.char)).before args0 about1 = true := code_word (m := ⟨1, 2⟩) (meth := k1m2) (c := k1c2) (by decide +kernel) rfl rfl rfl (by decide +kernel)
set_option maxRecDepth 65536 in
theorem w_c2 : (Jvm.Cond.code ({ cls := "com/example/conformance_check/conformancecheck/catalogue/EditDistanceWithinPinLaw", name := "str", desc := "(ICCC)Ljava/lang/String;" } : Jvm.MethodName) method_4_code (4 : Nat) (Option.some (Jvm.ClassFile.FieldType.object "java/lang/String"))).before args0 about1 = true := code_word (m := ⟨1, 3⟩) (meth := k1m3) (c := k1c3) (by decide +kernel) rfl rfl rfl (by decide +kernel)
set_option maxRecDepth 65536 in
theorem w_c3 : (Jvm.Cond.code ({ cls := "com/example/conformance_check/conformancecheck/catalogue/EditDistanceWithinPinLaw", name := "ref", desc := "(ICCCICCC)I" } : Jvm.MethodName) method_7_code (8 : Nat) (Option.some Jvm.ClassFile.FieldType.int)).before args0 about1 = true := code_word (m := ⟨1, 6⟩) (meth := k1m6) (c := k1c6) (by decide +kernel) rfl rfl rfl (by decide +kernel)
set_option maxRecDepth 65536 in
theorem w_c4 : (Jvm.Cond.code ({ cls := "com/example/conformance_check/conformancecheck/catalogue/EditDistanceWithinPinLaw", name := "ordered", desc := "(ICCCICCC)I" } : Jvm.MethodName) method_8_code (9 : Nat) (Option.some Jvm.ClassFile.FieldType.int)).before args0 about1 = true := code_word (m := ⟨1, 7⟩) (meth := k1m7) (c := k1c7) (by decide +kernel) rfl rfl rfl (by decide +kernel)
set_option maxRecDepth 65536 in
theorem w_c5 : (Jvm.Cond.code ({ cls := "java/lang/Math", name := "min", desc := "(II)I" } : Jvm.MethodName) jdk_29_method_69_code (2 : Nat) (Option.some Jvm.ClassFile.FieldType.int)).before args0 about1 = true := code_word (m := ⟨8, 3⟩) (meth := k8m3) (c := k8c3) (by decide +kernel) rfl rfl rfl (by decide +kernel)
set_option maxRecDepth 65536 in
theorem w_c6 : (Jvm.Cond.code ({ cls := "com/example/conformance_check/conformancecheck/catalogue/EditDistance", name := "within", desc := "(Ljava/lang/String;Ljava/lang/String;I)I" } : Jvm.MethodName) prog_10_method_2_code (17 : Nat) (Option.some Jvm.ClassFile.FieldType.int)).before args0 about1 = true := code_word (m := ⟨9, 1⟩) (meth := k9m1) (c := k9c1) (by decide +kernel) rfl rfl rfl (by decide +kernel)
set_option maxRecDepth 65536 in
theorem w_c7 : (Jvm.Cond.code ({ cls := "java/lang/String", name := "length", desc := "()I" } : Jvm.MethodName) jdk_42_method_54_code (1 : Nat) (Option.some Jvm.ClassFile.FieldType.int)).before args0 about1 = true := code_word (m := ⟨7, 2⟩) (meth := k7m2) (c := k7c2) (by decide +kernel) rfl rfl rfl (by decide +kernel)
set_option maxRecDepth 65536 in
theorem w_c8 : (Jvm.Cond.code ({ cls := "java/lang/String", name := "coder", desc := "()B" } : Jvm.MethodName) jdk_42_method_152_code (1 : Nat) (Option.some Jvm.ClassFile.FieldType.byte)).before args0 about1 = true := code_word (m := ⟨7, 7⟩) (meth := k7m7) (c := k7c7) (by decide +kernel) rfl rfl rfl (by decide +kernel)
set_option maxRecDepth 65536 in
theorem w_c9 : (Jvm.Cond.code ({ cls := "java/lang/Math", name := "abs", desc := "(I)I" } : Jvm.MethodName) jdk_29_method_59_code (1 : Nat) (Option.some Jvm.ClassFile.FieldType.int)).before args0 about1 = true := code_word (m := ⟨8, 1⟩) (meth := k8m1) (c := k8c1) (by decide +kernel) rfl rfl rfl (by decide +kernel)
set_option maxRecDepth 65536 in
theorem w_c10 : (Jvm.Cond.code ({ cls := "com/example/conformance_check/conformancecheck/catalogue/EditDistance$Table", name := "<init>", desc := "(III)V" } : Jvm.MethodName) prog_11_method_1_code (4 : Nat) (Option.none : Option Jvm.ClassFile.FieldType)).before args0 about1 = true := code_word (m := ⟨10, 0⟩) (meth := k10m0) (c := k10c0) (by decide +kernel) rfl rfl rfl (by decide +kernel)
set_option maxRecDepth 65536 in
theorem w_c11 : (Jvm.Cond.code ({ cls := "java/lang/Object", name := "<init>", desc := "()V" } : Jvm.MethodName) object_method_1_code (1 : Nat) (Option.none : Option Jvm.ClassFile.FieldType)).before args0 about1 = true := code_word (m := ⟨0, 0⟩) (meth := k0m0) (c := k0c0) (by decide +kernel) rfl rfl rfl (by decide +kernel)
set_option maxRecDepth 65536 in
theorem w_c12 : (Jvm.Cond.code ({ cls := "java/lang/Math", name := "max", desc := "(II)I" } : Jvm.MethodName) jdk_29_method_65_code (2 : Nat) (Option.some Jvm.ClassFile.FieldType.int)).before args0 about1 = true := code_word (m := ⟨8, 2⟩) (meth := k8m2) (c := k8c2) (by decide +kernel) rfl rfl rfl (by decide +kernel)
set_option maxRecDepth 65536 in
theorem w_c13 : (Jvm.Cond.code ({ cls := "com/example/conformance_check/conformancecheck/catalogue/EditDistance$Table", name := "set", desc := "(III)V" } : Jvm.MethodName) prog_11_method_3_code (4 : Nat) (Option.none : Option Jvm.ClassFile.FieldType)).before args0 about1 = true := code_word (m := ⟨10, 2⟩) (meth := k10m2) (c := k10c2) (by decide +kernel) rfl rfl rfl (by decide +kernel)
set_option maxRecDepth 65536 in
theorem w_c14 : (Jvm.Cond.code ({ cls := "com/example/conformance_check/conformancecheck/catalogue/EditDistance$Table", name := "get", desc := "(II)I" } : Jvm.MethodName) prog_11_method_2_code (3 : Nat) (Option.some Jvm.ClassFile.FieldType.int)).before args0 about1 = true := code_word (m := ⟨10, 1⟩) (meth := k10m1) (c := k10c1) (by decide +kernel) rfl rfl rfl (by decide +kernel)
set_option maxRecDepth 65536 in
theorem w_c15 : (Jvm.Cond.code ({ cls := "java/lang/String", name := "valueOf", desc := "(C)Ljava/lang/String;" } : Jvm.MethodName) jdk_42_method_139_code (1 : Nat) (Option.some (Jvm.ClassFile.FieldType.object "java/lang/String"))).before args0 about1 = true := code_word (m := ⟨7, 4⟩) (meth := k7m4) (c := k7c4) (by decide +kernel) rfl rfl rfl (by decide +kernel)
set_option maxRecDepth 65536 in
theorem w_c16 : (Jvm.Cond.code ({ cls := "java/lang/StringLatin1", name := "canEncode", desc := "(C)Z" } : Jvm.MethodName) jdk_43_method_3_code (1 : Nat) (Option.some Jvm.ClassFile.FieldType.boolean)).before args0 about1 = true := code_word (m := ⟨11, 2⟩) (meth := k11m2) (c := k11c2) (by decide +kernel) rfl rfl rfl (by decide +kernel)
set_option maxRecDepth 65536 in
theorem w_c17 : (Jvm.Cond.code ({ cls := "java/lang/StringLatin1", name := "toBytes", desc := "(C)[B" } : Jvm.MethodName) jdk_43_method_46_code (1 : Nat) (Option.some (Jvm.ClassFile.FieldType.array Jvm.ClassFile.FieldType.byte))).before args0 about1 = true := code_word (m := ⟨11, 3⟩) (meth := k11m3) (c := k11c3) (by decide +kernel) rfl rfl rfl (by decide +kernel)
set_option maxRecDepth 65536 in
theorem w_c18 : (Jvm.Cond.code ({ cls := "java/lang/String", name := "<init>", desc := "([BB)V" } : Jvm.MethodName) jdk_42_method_151_code (3 : Nat) (Option.none : Option Jvm.ClassFile.FieldType)).before args0 about1 = true := code_word (m := ⟨7, 6⟩) (meth := k7m6) (c := k7c6) (by decide +kernel) rfl rfl rfl (by decide +kernel)
set_option maxRecDepth 65536 in
theorem w_c19 : (Jvm.Cond.code ({ cls := "java/lang/String", name := "<init>", desc := "([C)V" } : Jvm.MethodName) jdk_42_method_3_code (2 : Nat) (Option.none : Option Jvm.ClassFile.FieldType)).before args0 about1 = true := code_word (m := ⟨7, 1⟩) (meth := k7m1) (c := k7c1) (by decide +kernel) rfl rfl rfl (by decide +kernel)
set_option maxRecDepth 65536 in
theorem w_c20 : (Jvm.Cond.code ({ cls := "java/lang/String", name := "<init>", desc := "([CIILjava/lang/Void;)V" } : Jvm.MethodName) jdk_42_method_149_code (6 : Nat) (Option.none : Option Jvm.ClassFile.FieldType)).before args0 about1 = true := code_word (m := ⟨7, 5⟩) (meth := k7m5) (c := k7c5) (by decide +kernel) rfl rfl rfl (by decide +kernel)
set_option maxRecDepth 65536 in
theorem w_c21 : (Jvm.Cond.code ({ cls := "java/lang/StringUTF16", name := "compress", desc := "([CII)[B" } : Jvm.MethodName) jdk_52_method_16_code (6 : Nat) (Option.some (Jvm.ClassFile.FieldType.array Jvm.ClassFile.FieldType.byte))).before args0 about1 = true := code_word (m := ⟨12, 8⟩) (meth := k12m8) (c := k12c8) (by decide +kernel) rfl rfl rfl (by decide +kernel)
set_option maxRecDepth 65536 in
theorem w_c22 : (Jvm.Cond.code ({ cls := "java/lang/StringUTF16", name := "compress", desc := "([CI[BII)I" } : Jvm.MethodName) jdk_52_method_21_code (7 : Nat) (Option.some Jvm.ClassFile.FieldType.int)).before args0 about1 = true := code_word (m := ⟨12, 9⟩) (meth := k12m9) (c := k12c9) (by decide +kernel) rfl rfl rfl (by decide +kernel)
set_option maxRecDepth 65536 in
theorem w_c23 : (Jvm.Cond.code ({ cls := "java/lang/StringUTF16", name := "coderFromArrayLen", desc := "([BI)B" } : Jvm.MethodName) jdk_52_method_15_code (2 : Nat) (Option.some Jvm.ClassFile.FieldType.byte)).before args0 about1 = true := code_word (m := ⟨12, 7⟩) (meth := k12m7) (c := k12c7) (by decide +kernel) rfl rfl rfl (by decide +kernel)
set_option maxRecDepth 65536 in
theorem w_c24 : (Jvm.Cond.code ({ cls := "java/lang/StringUTF16", name := "toBytes", desc := "([CII)[B" } : Jvm.MethodName) jdk_52_method_14_code (5 : Nat) (Option.some (Jvm.ClassFile.FieldType.array Jvm.ClassFile.FieldType.byte))).before args0 about1 = true := code_word (m := ⟨12, 6⟩) (meth := k12m6) (c := k12c6) (by decide +kernel) rfl rfl rfl (by decide +kernel)
set_option maxRecDepth 65536 in
theorem w_c25 : (Jvm.Cond.code ({ cls := "java/lang/StringUTF16", name := "newBytesFor", desc := "(I)[B" } : Jvm.MethodName) jdk_52_method_2_code (1 : Nat) (Option.some (Jvm.ClassFile.FieldType.array Jvm.ClassFile.FieldType.byte))).before args0 about1 = true := code_word (m := ⟨12, 1⟩) (meth := k12m1) (c := k12c1) (by decide +kernel) rfl rfl rfl (by decide +kernel)
set_option maxRecDepth 65536 in
theorem w_c26 : (Jvm.Cond.code ({ cls := "java/lang/StringUTF16", name := "newBytesLength", desc := "(I)I" } : Jvm.MethodName) jdk_52_method_3_code (1 : Nat) (Option.some Jvm.ClassFile.FieldType.int)).before args0 about1 = true := code_word (m := ⟨12, 2⟩) (meth := k12m2) (c := k12c2) (by decide +kernel) rfl rfl rfl (by decide +kernel)
set_option maxRecDepth 65536 in
theorem w_c27 : (Jvm.Cond.code ({ cls := "java/lang/StringUTF16", name := "putChar", desc := "([BII)V" } : Jvm.MethodName) jdk_52_method_4_code (3 : Nat) (Option.none : Option Jvm.ClassFile.FieldType)).before args0 about1 = true := code_word (m := ⟨12, 3⟩) (meth := k12m3) (c := k12c3) (by decide +kernel) rfl rfl rfl (by decide +kernel)
set_option maxRecDepth 65536 in
theorem w_c28 : (Jvm.Cond.code ({ cls := "java/lang/StringUTF16", name := "getChar", desc := "([BI)C" } : Jvm.MethodName) jdk_52_method_5_code (2 : Nat) (Option.some Jvm.ClassFile.FieldType.char)).before args0 about1 = true := code_word (m := ⟨12, 4⟩) (meth := k12m4) (c := k12c4) (by decide +kernel) rfl rfl rfl (by decide +kernel)
set_option maxRecDepth 65536 in
theorem w_c29 : (Jvm.Cond.code ({ cls := "com/example/conformance_check/conformancecheck/catalogue/EditDistanceWithinPinLaw", name := "d22", desc := "(CCCC)I" } : Jvm.MethodName) method_6_code (4 : Nat) (Option.some Jvm.ClassFile.FieldType.int)).before args0 about1 = true := code_word (m := ⟨1, 5⟩) (meth := k1m5) (c := k1c5) (by decide +kernel) rfl rfl rfl (by decide +kernel)
set_option maxRecDepth 65536 in
theorem w_c30 : (Jvm.Cond.code ({ cls := "java/lang/String", name := "charAt", desc := "(I)C" } : Jvm.MethodName) jdk_42_method_56_code (2 : Nat) (Option.some Jvm.ClassFile.FieldType.char)).before args0 about1 = true := code_word (m := ⟨7, 3⟩) (meth := k7m3) (c := k7c3) (by decide +kernel) rfl rfl rfl (by decide +kernel)
set_option maxRecDepth 65536 in
theorem w_c31 : (Jvm.Cond.code ({ cls := "java/lang/String", name := "isLatin1", desc := "()Z" } : Jvm.MethodName) jdk_42_method_154_code (1 : Nat) (Option.some Jvm.ClassFile.FieldType.boolean)).before args0 about1 = true := code_word (m := ⟨7, 8⟩) (meth := k7m8) (c := k7c8) (by decide +kernel) rfl rfl rfl (by decide +kernel)
set_option maxRecDepth 65536 in
theorem w_c32 : (Jvm.Cond.code ({ cls := "java/lang/StringUTF16", name := "charAt", desc := "([BI)C" } : Jvm.MethodName) jdk_52_method_83_code (2 : Nat) (Option.some Jvm.ClassFile.FieldType.char)).before args0 about1 = true := code_word (m := ⟨12, 11⟩) (meth := k12m11) (c := k12c11) (by decide +kernel) rfl rfl rfl (by decide +kernel)
set_option maxRecDepth 65536 in
theorem w_c33 : (Jvm.Cond.code ({ cls := "java/lang/StringUTF16", name := "checkIndex", desc := "(I[B)V" } : Jvm.MethodName) jdk_52_method_91_code (2 : Nat) (Option.none : Option Jvm.ClassFile.FieldType)).before args0 about1 = true := code_word (m := ⟨12, 12⟩) (meth := k12m12) (c := k12c12) (by decide +kernel) rfl rfl rfl (by decide +kernel)
set_option maxRecDepth 65536 in
theorem w_c34 : (Jvm.Cond.code ({ cls := "java/lang/StringUTF16", name := "length", desc := "([B)I" } : Jvm.MethodName) jdk_52_method_6_code (1 : Nat) (Option.some Jvm.ClassFile.FieldType.int)).before args0 about1 = true := code_word (m := ⟨12, 5⟩) (meth := k12m5) (c := k12c5) (by decide +kernel) rfl rfl rfl (by decide +kernel)
set_option maxRecDepth 65536 in
theorem w_c35 : (Jvm.Cond.code ({ cls := "java/lang/String", name := "checkIndex", desc := "(II)V" } : Jvm.MethodName) jdk_42_method_155_code (2 : Nat) (Option.none : Option Jvm.ClassFile.FieldType)).before args0 about1 = true := code_word (m := ⟨7, 9⟩) (meth := k7m9) (c := k7c9) (by decide +kernel) rfl rfl rfl (by decide +kernel)
set_option maxRecDepth 65536 in
theorem w_c36 : (Jvm.Cond.code ({ cls := "jdk/internal/util/Preconditions", name := "checkIndex", desc := "(IILjava/util/function/BiFunction;)I" } : Jvm.MethodName) jdk_41_method_11_code (3 : Nat) (Option.some Jvm.ClassFile.FieldType.int)).before args0 about1 = true := code_word (m := ⟨13, 1⟩) (meth := k13m1) (c := k13c1) (by decide +kernel) rfl rfl rfl (by decide +kernel)
set_option maxRecDepth 65536 in
theorem w_c37 : (Jvm.Cond.code ({ cls := "com/example/conformance_check/conformancecheck/catalogue/EditDistance", name := "lastPosition", desc := "(Ljava/lang/String;CII)I" } : Jvm.MethodName) prog_10_method_3_code (5 : Nat) (Option.some Jvm.ClassFile.FieldType.int)).before args0 about1 = true := code_word (m := ⟨9, 2⟩) (meth := k9m2) (c := k9c2) (by decide +kernel) rfl rfl rfl (by decide +kernel)
set_option maxRecDepth 65536 in
theorem w_c38 : (Jvm.Cond.code ({ cls := "com/example/conformance_check/conformancecheck/catalogue/EditDistanceWithinPinLaw", name := "ne", desc := "(CC)I" } : Jvm.MethodName) method_5_code (2 : Nat) (Option.some Jvm.ClassFile.FieldType.int)).before args0 about1 = true := code_word (m := ⟨1, 4⟩) (meth := k1m4) (c := k1c4) (by decide +kernel) rfl rfl rfl (by decide +kernel)
set_option maxRecDepth 65536 in
theorem w_c39 : (Jvm.Cond.code ({ cls := "java/lang/StringLatin1", name := "charAt", desc := "([BI)C" } : Jvm.MethodName) jdk_43_method_2_code (2 : Nat) (Option.some Jvm.ClassFile.FieldType.char)).before args0 about1 = true := code_word (m := ⟨11, 1⟩) (meth := k11m1) (c := k11c1) (by decide +kernel) rfl rfl rfl (by decide +kernel)
set_option maxRecDepth 65536 in
theorem w_c40 : (Jvm.Cond.code ({ cls := "java/lang/StringUTF16", name := "toBytes", desc := "(C)[B" } : Jvm.MethodName) jdk_52_method_24_code (2 : Nat) (Option.some (Jvm.ClassFile.FieldType.array Jvm.ClassFile.FieldType.byte))).before args0 about1 = true := code_word (m := ⟨12, 10⟩) (meth := k12m10) (c := k12c10) (by decide +kernel) rfl rfl rfl (by decide +kernel)
def codes1 : List Jvm.Cond := [Jvm.Cond.code x code maxLocals ret, Jvm.Cond.code ({ cls := "com/example/conformance_check/conformancecheck/catalogue/EditDistanceWithinPinLaw", name := "ch", desc := "(JI)C" } : Jvm.MethodName) method_3_code (4 : Nat) (Option.some Jvm.ClassFile.FieldType.char), Jvm.Cond.code ({ cls := "com/example/conformance_check/conformancecheck/catalogue/EditDistanceWithinPinLaw", name := "str", desc := "(ICCC)Ljava/lang/String;" } : Jvm.MethodName) method_4_code (4 : Nat) (Option.some (Jvm.ClassFile.FieldType.object "java/lang/String")), Jvm.Cond.code ({ cls := "com/example/conformance_check/conformancecheck/catalogue/EditDistanceWithinPinLaw", name := "ref", desc := "(ICCCICCC)I" } : Jvm.MethodName) method_7_code (8 : Nat) (Option.some Jvm.ClassFile.FieldType.int), Jvm.Cond.code ({ cls := "com/example/conformance_check/conformancecheck/catalogue/EditDistanceWithinPinLaw", name := "ordered", desc := "(ICCCICCC)I" } : Jvm.MethodName) method_8_code (9 : Nat) (Option.some Jvm.ClassFile.FieldType.int), Jvm.Cond.code ({ cls := "java/lang/Math", name := "min", desc := "(II)I" } : Jvm.MethodName) jdk_29_method_69_code (2 : Nat) (Option.some Jvm.ClassFile.FieldType.int), Jvm.Cond.code ({ cls := "com/example/conformance_check/conformancecheck/catalogue/EditDistance", name := "within", desc := "(Ljava/lang/String;Ljava/lang/String;I)I" } : Jvm.MethodName) prog_10_method_2_code (17 : Nat) (Option.some Jvm.ClassFile.FieldType.int), Jvm.Cond.code ({ cls := "java/lang/String", name := "length", desc := "()I" } : Jvm.MethodName) jdk_42_method_54_code (1 : Nat) (Option.some Jvm.ClassFile.FieldType.int), Jvm.Cond.code ({ cls := "java/lang/String", name := "coder", desc := "()B" } : Jvm.MethodName) jdk_42_method_152_code (1 : Nat) (Option.some Jvm.ClassFile.FieldType.byte), Jvm.Cond.code ({ cls := "java/lang/Math", name := "abs", desc := "(I)I" } : Jvm.MethodName) jdk_29_method_59_code (1 : Nat) (Option.some Jvm.ClassFile.FieldType.int), Jvm.Cond.code ({ cls := "com/example/conformance_check/conformancecheck/catalogue/EditDistance$Table", name := "<init>", desc := "(III)V" } : Jvm.MethodName) prog_11_method_1_code (4 : Nat) (Option.none : Option Jvm.ClassFile.FieldType), Jvm.Cond.code ({ cls := "java/lang/Object", name := "<init>", desc := "()V" } : Jvm.MethodName) object_method_1_code (1 : Nat) (Option.none : Option Jvm.ClassFile.FieldType), Jvm.Cond.code ({ cls := "java/lang/Math", name := "max", desc := "(II)I" } : Jvm.MethodName) jdk_29_method_65_code (2 : Nat) (Option.some Jvm.ClassFile.FieldType.int), Jvm.Cond.code ({ cls := "com/example/conformance_check/conformancecheck/catalogue/EditDistance$Table", name := "set", desc := "(III)V" } : Jvm.MethodName) prog_11_method_3_code (4 : Nat) (Option.none : Option Jvm.ClassFile.FieldType), Jvm.Cond.code ({ cls := "com/example/conformance_check/conformancecheck/catalogue/EditDistance$Table", name := "get", desc := "(II)I" } : Jvm.MethodName) prog_11_method_2_code (3 : Nat) (Option.some Jvm.ClassFile.FieldType.int), Jvm.Cond.code ({ cls := "java/lang/String", name := "valueOf", desc := "(C)Ljava/lang/String;" } : Jvm.MethodName) jdk_42_method_139_code (1 : Nat) (Option.some (Jvm.ClassFile.FieldType.object "java/lang/String")), Jvm.Cond.code ({ cls := "java/lang/StringLatin1", name := "canEncode", desc := "(C)Z" } : Jvm.MethodName) jdk_43_method_3_code (1 : Nat) (Option.some Jvm.ClassFile.FieldType.boolean), Jvm.Cond.code ({ cls := "java/lang/StringLatin1", name := "toBytes", desc := "(C)[B" } : Jvm.MethodName) jdk_43_method_46_code (1 : Nat) (Option.some (Jvm.ClassFile.FieldType.array Jvm.ClassFile.FieldType.byte)), Jvm.Cond.code ({ cls := "java/lang/String", name := "<init>", desc := "([BB)V" } : Jvm.MethodName) jdk_42_method_151_code (3 : Nat) (Option.none : Option Jvm.ClassFile.FieldType), Jvm.Cond.code ({ cls := "java/lang/String", name := "<init>", desc := "([C)V" } : Jvm.MethodName) jdk_42_method_3_code (2 : Nat) (Option.none : Option Jvm.ClassFile.FieldType), Jvm.Cond.code ({ cls := "java/lang/String", name := "<init>", desc := "([CIILjava/lang/Void;)V" } : Jvm.MethodName) jdk_42_method_149_code (6 : Nat) (Option.none : Option Jvm.ClassFile.FieldType), Jvm.Cond.code ({ cls := "java/lang/StringUTF16", name := "compress", desc := "([CII)[B" } : Jvm.MethodName) jdk_52_method_16_code (6 : Nat) (Option.some (Jvm.ClassFile.FieldType.array Jvm.ClassFile.FieldType.byte)), Jvm.Cond.code ({ cls := "java/lang/StringUTF16", name := "compress", desc := "([CI[BII)I" } : Jvm.MethodName) jdk_52_method_21_code (7 : Nat) (Option.some Jvm.ClassFile.FieldType.int), Jvm.Cond.code ({ cls := "java/lang/StringUTF16", name := "coderFromArrayLen", desc := "([BI)B" } : Jvm.MethodName) jdk_52_method_15_code (2 : Nat) (Option.some Jvm.ClassFile.FieldType.byte), Jvm.Cond.code ({ cls := "java/lang/StringUTF16", name := "toBytes", desc := "([CII)[B" } : Jvm.MethodName) jdk_52_method_14_code (5 : Nat) (Option.some (Jvm.ClassFile.FieldType.array Jvm.ClassFile.FieldType.byte)), Jvm.Cond.code ({ cls := "java/lang/StringUTF16", name := "newBytesFor", desc := "(I)[B" } : Jvm.MethodName) jdk_52_method_2_code (1 : Nat) (Option.some (Jvm.ClassFile.FieldType.array Jvm.ClassFile.FieldType.byte)), Jvm.Cond.code ({ cls := "java/lang/StringUTF16", name := "newBytesLength", desc := "(I)I" } : Jvm.MethodName) jdk_52_method_3_code (1 : Nat) (Option.some Jvm.ClassFile.FieldType.int), Jvm.Cond.code ({ cls := "java/lang/StringUTF16", name := "putChar", desc := "([BII)V" } : Jvm.MethodName) jdk_52_method_4_code (3 : Nat) (Option.none : Option Jvm.ClassFile.FieldType), Jvm.Cond.code ({ cls := "java/lang/StringUTF16", name := "getChar", desc := "([BI)C" } : Jvm.MethodName) jdk_52_method_5_code (2 : Nat) (Option.some Jvm.ClassFile.FieldType.char), Jvm.Cond.code ({ cls := "com/example/conformance_check/conformancecheck/catalogue/EditDistanceWithinPinLaw", name := "d22", desc := "(CCCC)I" } : Jvm.MethodName) method_6_code (4 : Nat) (Option.some Jvm.ClassFile.FieldType.int), Jvm.Cond.code ({ cls := "java/lang/String", name := "charAt", desc := "(I)C" } : Jvm.MethodName) jdk_42_method_56_code (2 : Nat) (Option.some Jvm.ClassFile.FieldType.char), Jvm.Cond.code ({ cls := "java/lang/String", name := "isLatin1", desc := "()Z" } : Jvm.MethodName) jdk_42_method_154_code (1 : Nat) (Option.some Jvm.ClassFile.FieldType.boolean), Jvm.Cond.code ({ cls := "java/lang/StringUTF16", name := "charAt", desc := "([BI)C" } : Jvm.MethodName) jdk_52_method_83_code (2 : Nat) (Option.some Jvm.ClassFile.FieldType.char), Jvm.Cond.code ({ cls := "java/lang/StringUTF16", name := "checkIndex", desc := "(I[B)V" } : Jvm.MethodName) jdk_52_method_91_code (2 : Nat) (Option.none : Option Jvm.ClassFile.FieldType), Jvm.Cond.code ({ cls := "java/lang/StringUTF16", name := "length", desc := "([B)I" } : Jvm.MethodName) jdk_52_method_6_code (1 : Nat) (Option.some Jvm.ClassFile.FieldType.int), Jvm.Cond.code ({ cls := "java/lang/String", name := "checkIndex", desc := "(II)V" } : Jvm.MethodName) jdk_42_method_155_code (2 : Nat) (Option.none : Option Jvm.ClassFile.FieldType), Jvm.Cond.code ({ cls := "jdk/internal/util/Preconditions", name := "checkIndex", desc := "(IILjava/util/function/BiFunction;)I" } : Jvm.MethodName) jdk_41_method_11_code (3 : Nat) (Option.some Jvm.ClassFile.FieldType.int), Jvm.Cond.code ({ cls := "com/example/conformance_check/conformancecheck/catalogue/EditDistance", name := "lastPosition", desc := "(Ljava/lang/String;CII)I" } : Jvm.MethodName) prog_10_method_3_code (5 : Nat) (Option.some Jvm.ClassFile.FieldType.int), Jvm.Cond.code ({ cls := "com/example/conformance_check/conformancecheck/catalogue/EditDistanceWithinPinLaw", name := "ne", desc := "(CC)I" } : Jvm.MethodName) method_5_code (2 : Nat) (Option.some Jvm.ClassFile.FieldType.int), Jvm.Cond.code ({ cls := "java/lang/StringLatin1", name := "charAt", desc := "([BI)C" } : Jvm.MethodName) jdk_43_method_2_code (2 : Nat) (Option.some Jvm.ClassFile.FieldType.char), Jvm.Cond.code ({ cls := "java/lang/StringUTF16", name := "toBytes", desc := "(C)[B" } : Jvm.MethodName) jdk_52_method_24_code (2 : Nat) (Option.some (Jvm.ClassFile.FieldType.array Jvm.ClassFile.FieldType.byte))]
set_option maxRecDepth 65536 in
theorem codes_eq : words1.filter isCode = codes1 := rfl
theorem w_codes : ∀ c ∈ words1.filter isCode, c.before args0 about1 = true := by
  rw [codes_eq]
  intro c hc
  simp only [codes1, List.mem_cons, List.not_mem_nil, or_false] at hc
  rcases hc with rfl | rfl | rfl | rfl | rfl | rfl | rfl | rfl | rfl | rfl | rfl | rfl | rfl | rfl | rfl | rfl | rfl | rfl | rfl | rfl | rfl | rfl | rfl | rfl | rfl | rfl | rfl | rfl | rfl | rfl | rfl | rfl | rfl | rfl | rfl | rfl | rfl | rfl | rfl | rfl | rfl
  · exact w_c0
  · exact w_c1
  · exact w_c2
  · exact w_c3
  · exact w_c4
  · exact w_c5
  · exact w_c6
  · exact w_c7
  · exact w_c8
  · exact w_c9
  · exact w_c10
  · exact w_c11
  · exact w_c12
  · exact w_c13
  · exact w_c14
  · exact w_c15
  · exact w_c16
  · exact w_c17
  · exact w_c18
  · exact w_c19
  · exact w_c20
  · exact w_c21
  · exact w_c22
  · exact w_c23
  · exact w_c24
  · exact w_c25
  · exact w_c26
  · exact w_c27
  · exact w_c28
  · exact w_c29
  · exact w_c30
  · exact w_c31
  · exact w_c32
  · exact w_c33
  · exact w_c34
  · exact w_c35
  · exact w_c36
  · exact w_c37
  · exact w_c38
  · exact w_c39
  · exact w_c40
set_option maxRecDepth 65536 in
theorem w_t1 : (words1.take 24).all (fun c => isCode c || c.before args0 about1) = true := by decide +kernel
set_option maxRecDepth 65536 in
theorem w_t2 : ((words1.drop 24).take 24).all (fun c => isCode c || c.before args0 about1) = true := by decide +kernel
set_option maxRecDepth 65536 in
theorem w_t3 : (((words1.drop 24).drop 24).take 24).all (fun c => isCode c || c.before args0 about1) = true := by decide +kernel
set_option maxRecDepth 65536 in
theorem w_t4 : ((((words1.drop 24).drop 24).drop 24).take 24).all (fun c => isCode c || c.before args0 about1) = true := by decide +kernel
set_option maxRecDepth 65536 in
theorem w_t5 : (((((words1.drop 24).drop 24).drop 24).drop 24).take 24).all (fun c => isCode c || c.before args0 about1) = true := by decide +kernel
set_option maxRecDepth 65536 in
theorem w_t6 : ((((((words1.drop 24).drop 24).drop 24).drop 24).drop 24).take 24).all (fun c => isCode c || c.before args0 about1) = true := by decide +kernel
set_option maxRecDepth 65536 in
theorem w_t7 : (((((((words1.drop 24).drop 24).drop 24).drop 24).drop 24).drop 24).take 24).all (fun c => isCode c || c.before args0 about1) = true := by decide +kernel
set_option maxRecDepth 65536 in
theorem w_t8 : (((((((words1.drop 24).drop 24).drop 24).drop 24).drop 24).drop 24).drop 24).all (fun c => isCode c || c.before args0 about1) = true := by decide +kernel
theorem w_tables : (allAtoms (Jvm.Cond.code x code maxLocals ret :: tables_1)).before args0 about1 = true := by
  rw [allAtoms_all]
  show words1.all (fun c => c.before args0 about1) = true
  refine all_split ?_ w_codes
  rw [← List.take_append_drop 24 words1, List.all_append, w_t1, ← List.take_append_drop 24 (words1.drop 24), List.all_append, w_t2, ← List.take_append_drop 24 ((words1.drop 24).drop 24), List.all_append, w_t3, ← List.take_append_drop 24 (((words1.drop 24).drop 24).drop 24), List.all_append, w_t4, ← List.take_append_drop 24 ((((words1.drop 24).drop 24).drop 24).drop 24), List.all_append, w_t5, ← List.take_append_drop 24 (((((words1.drop 24).drop 24).drop 24).drop 24).drop 24), List.all_append, w_t6, ← List.take_append_drop 24 ((((((words1.drop 24).drop 24).drop 24).drop 24).drop 24).drop 24), List.all_append, w_t7, w_t8]
  rfl
set_option maxRecDepth 65536 in
theorem w_rest : rest_1_c.before args0 about1 = true := by decide +kernel
set_option maxRecDepth 65536 in
theorem w_case : (Jvm.Cond.and given_1 narrow_1).before args0 about1 = true := by decide +kernel
set_option maxRecDepth 65536 in
theorem w_consts : constsHeld consts_1 about1 := Jvm.Lit.constsHeldB_iff.mp (by decide +kernel)
theorem w_applies : (headSpec (Jvm.Cond.code x code maxLocals ret :: tables_1) room_1).applies x e0.platform about1 = true :=
  (Spec.applies_iff w_frames).mpr ⟨w_running, w_runnable, w_alone, w_named, w_hears, w_ripe, w_room, w_tables⟩
theorem atStart : AtStart classFile x code maxLocals ret World_1 tables_1 room_1 Calls_1 rest_1 Pre_1 launch0 p0 e0 about1 theMethod args0 below0 :=
  ⟨lists_1, trivial, launch0.admits_env _ _ _, launch0.least_env, fairChoices_fair.cas, fairChoices_fair.clock, w_frames, w_args, w_heap, w_applies, ⟨w_consts, trivial⟩, w_rest, w_case⟩
end start1
theorem witness_1 : WitnessClaimed_1 := ⟨start1.p0, start1.e0, start1.about1, start1.theMethod, start1.args0, start1.below0, start1.atStart⟩
end Jvm.Pilot.@@N@@
