import JvmDerived
import JvmDerived.Pilot.@@N@@Statement
import JvmDerived.Pilot.@@N@@Code
set_option maxRecDepth 65536
set_option maxHeartbeats 40000000
set_option linter.unusedVariables false
set_option linter.unusedSimpArgs false
namespace Jvm.Pilot.@@N@@
open Jvm Jvm.ClassFile Sem Op Lib Jvm.Free Jvm.Stand Jvm.LawKit Jvm.RoadKit Bundle Jvm.Pilot.@@N@@.Jvm.D
abbrev F'0 (Z : State) (h : Heap) (a : Addr) (v : Value) : Prop := Fld Z h a "com/example/austere_json/austerejson/CodePointSet$Builder" "ranges" "[I" v
abbrev F'1 (Z : State) (h : Heap) (a : Addr) (v : Value) : Prop := Fld Z h a "com/example/austere_json/austerejson/CodePointSet$Builder" "size" "I" v
abbrev F'2 (Z : State) (h : Heap) (a : Addr) (v : Value) : Prop := Fld Z h a "com/example/austere_json/austerejson/CodePointSet" "ascii" "[J" v
abbrev F'3 (Z : State) (h : Heap) (a : Addr) (v : Value) : Prop := Fld Z h a "com/example/austere_json/austerejson/CodePointSet" "ranges" "[I" v
abbrev b'1 := method_2_code
abbrev b'2 := jdk_29_method_69_code
abbrev b'3 := jdk_29_method_65_code
abbrev b'4 := prog_3_method_1_code
abbrev b'6 := prog_3_method_2_code
abbrev b'7 := jdk_65_method_123_code
abbrev b'8 := prog_3_method_5_code
abbrev b'9 := jdk_65_method_4_code
abbrev b'10 := jdk_2529_method_12_code
abbrev b'11 := jdk_2529_method_13_code
abbrev b'12 := jdk_2529_method_15_code
abbrev b'13 := prog_2_method_1_code
abbrev b'14 := prog_2_method_4_code
abbrev b'15 := prog_2_method_5_code
abbrev b'16 := jdk_65_method_57_code
abbrev b'17 := jdk_65_method_59_code
abbrev v'0 : Value := .int 0
abbrev v'1 : Value := .int 1
abbrev v'2 : Value := .int 2
abbrev v'3 : Value := .int 3
abbrev v'4 : Value := .int 4
abbrev v'5 : Value := .int 5
abbrev v'6 : Value := .int 6
abbrev v'7 : Value := .int 7
abbrev v'8 : Value := .int 8
abbrev v'9 : Value := .int 9
theorem own_dummy : True := trivial
section Own
variable {p : Program} {l : Launch} {e : Env} {R : Room} {s : State} {m : MethodId} {args : Array Value} {below : List Frame} {meth : Method} {c : Code} {T : State} {locs : List Loc} {cells slots : Nat}
def own_Fin (p : Program) (e : Env) (below : List Frame) (P : Outcome → State → Prop) (U : State) : Prop := ∃ s₂ o, Steps p.tables e below U s₂ ∧ s₂.status = .running ∧ Ended s₂ below o ∧ P o s₂
def own_P (Q : Option Value → Heap → List Loc → Prop) (s : State) (C S : Nat) : Outcome → State → Prop := fun o t => ∃ v L, o = .returned v ∧ Q v t.heap L ∧ FrameEnd s o t L C S
theorem own_go {P : Outcome → State → Prop} {U U' : State} (k : own_Fin p e below P U') (h : ∀ t, Steps p.tables e below U' t → Steps p.tables e below U t) : own_Fin p e below P U := by
 obtain ⟨t, o, h1, r⟩ := k; exact ⟨t, o, h t h1, r⟩
theorem own_cut {P : Outcome → State → Prop} {U : State} (A : Prop) (k : A) (h : A → own_Fin p e below P U) : own_Fin p e below P U := h k
theorem own_retN (X : Stand p l e R s m args below meth c T locs cells slots) (hx : p.tables.exec = Jvm.exec) {pc : Nat} {Ls : Array Slot} {z : Int32} {t : FieldType} {rest : List Value} (hret : meth.sig.returnType = some t) (ht : t = .boolean ∨ t = .byte ∨ t = .char ∨ t = .short)
  (hd : decode c.code pc = .ok (.ireturn, 1)) (hlk : meth.locks = false) {Q : Option Value → Heap → List Loc → Prop} {C S : Nat} (hQ : Q (some (.int (nar t z))) T.heap locs) (hC : cells ≤ C) (hS : slots ≤ S) : own_Fin p e below (own_P Q s C S) (T.setTop (mkF m pc Ls (.int z :: rest))) := by
 obtain ⟨fs, hr, hrun, hended, hW, hsame⟩ := X.leave (v := some (.int (nar t z))) (fun h => by rw [hret] at h; cases h) hlk
 exact ⟨_, _, retN X hx hret ht hd hr, hrun, hended, _, _, rfl, hQ, ⟨_, rfl⟩, hW, hsame.mono hC hS⟩
theorem own_retO (X : Stand p l e R s m args below meth c T locs cells slots) (hx : p.tables.exec = Jvm.exec) {pc : Nat} {Ls : Array Slot} {w : Value} {t : FieldType} {i : Instr} {rest : List Value} (hret : meth.sig.returnType = some t) (hn : narrow t w = w)
  (hi : (i = .ireturn ∧ (t = .int ∨ t = .boolean ∨ t = .byte ∨ t = .char ∨ t = .short) ∧ ∃ z, w = .int z) ∨ (i = .lreturn ∧ t = .long ∧ ∃ z, w = .long z) ∨ (i = .dreturn ∧ t = .double ∧ ∃ z, w = .double z) ∨ (i = .freturn ∧ t = .float ∧ ∃ z, w = .float z) ∨ (i = .areturn ∧ t.isReference = true ∧ w.isRef = true))
  (hd : decode c.code pc = .ok (i, 1)) (hlk : meth.locks = false) {Q : Option Value → Heap → List Loc → Prop} {C S : Nat} (hQ : Q (some w) T.heap locs) (hC : cells ≤ C) (hS : slots ≤ S) : own_Fin p e below (own_P Q s C S) (T.setTop (mkF m pc Ls (w :: rest))) := by
 obtain ⟨fs, hr, hrun, hended, hW, hsame⟩ := X.leave (v := some w) (fun h => by rw [hret] at h; cases h) hlk
 exact ⟨_, _, retOut X hx hret hn hi hd hr, hrun, hended, _, _, rfl, hQ, ⟨_, rfl⟩, hW, hsame.mono hC hS⟩
theorem own_retV (X : Stand p l e R s m args below meth c T locs cells slots) (hx : p.tables.exec = Jvm.exec) {pc : Nat} {Ls : Array Slot} (hret : meth.sig.returnType = none)
  (hd : decode c.code pc = .ok (.return_, 1)) (hlk : meth.locks = false) {Q : Option Value → Heap → List Loc → Prop} {C S : Nat} (hQ : Q none T.heap locs) (hC : cells ≤ C) (hS : slots ≤ S) : own_Fin p e below (own_P Q s C S) (T.setTop (mkF m pc Ls [])) := by
 obtain ⟨fs, hr, hrun, hended, hW, hsame⟩ := X.leave (v := none) (fun _ => rfl) hlk
 exact ⟨_, _, X.returnOut hx hret hd hr, hrun, hended, _, _, rfl, hQ, ⟨_, rfl⟩, hW, hsame.mono hC hS⟩
def own_PW (Q : Option Value → Heap → List Loc → Prop) (s : State) (C S : Nat) : Outcome → State → Prop := fun o t => ∃ v L, o = .returned v ∧ Q v t.heap L ∧ ReturnedEndW s o t L C S
theorem own_wmono {s t : State} {o : Outcome} {L : List Loc} {k n C S : Nat} (h : ReturnedEndW s o t L k n) (hC : k ≤ C) (hS : n ≤ S) : ReturnedEndW s o t L C S := ⟨h.1, h.2.1, h.2.2.1, h.2.2.2.mono hC hS⟩
theorem own_retNW {vm0 : Vm} (X : Stand p l e R (s.setVm vm0) m args below meth c T locs cells slots) {k0 : Nat} (hS : s.Since vm0 k0) (hk : k0 ≤ T.heap.size) (hx : p.tables.exec = Jvm.exec) {pc : Nat} {Ls : Array Slot} {z : Int32} {t : FieldType} {rest : List Value} (hret : meth.sig.returnType = some t) (ht : t = .boolean ∨ t = .byte ∨ t = .char ∨ t = .short)
  (hd : decode c.code pc = .ok (.ireturn, 1)) (hlk : meth.locks = false) {Q : Option Value → Heap → List Loc → Prop} {C S : Nat} (hQ : Q (some (.int (nar t z))) T.heap locs) (hC : cells ≤ C) (hS' : slots ≤ S) : own_Fin p e below (own_PW Q s C S) (T.setTop (mkF m pc Ls (.int z :: rest))) := by
 obtain ⟨fs, hr, hrun, hended, hW⟩ := X.leaveW hS hk (v := some (.int (nar t z))) (fun h => by rw [hret] at h; cases h) hlk
 exact ⟨_, _, retN X hx hret ht hd hr, hrun, hended, _, _, rfl, hQ, own_wmono hW hC hS'⟩
theorem own_retOW {vm0 : Vm} (X : Stand p l e R (s.setVm vm0) m args below meth c T locs cells slots) {k0 : Nat} (hS : s.Since vm0 k0) (hk : k0 ≤ T.heap.size) (hx : p.tables.exec = Jvm.exec) {pc : Nat} {Ls : Array Slot} {w : Value} {t : FieldType} {i : Instr} {rest : List Value} (hret : meth.sig.returnType = some t) (hn : narrow t w = w)
  (hi : (i = .ireturn ∧ (t = .int ∨ t = .boolean ∨ t = .byte ∨ t = .char ∨ t = .short) ∧ ∃ z, w = .int z) ∨ (i = .lreturn ∧ t = .long ∧ ∃ z, w = .long z) ∨ (i = .dreturn ∧ t = .double ∧ ∃ z, w = .double z) ∨ (i = .freturn ∧ t = .float ∧ ∃ z, w = .float z) ∨ (i = .areturn ∧ t.isReference = true ∧ w.isRef = true))
  (hd : decode c.code pc = .ok (i, 1)) (hlk : meth.locks = false) {Q : Option Value → Heap → List Loc → Prop} {C S : Nat} (hQ : Q (some w) T.heap locs) (hC : cells ≤ C) (hS' : slots ≤ S) : own_Fin p e below (own_PW Q s C S) (T.setTop (mkF m pc Ls (w :: rest))) := by
 obtain ⟨fs, hr, hrun, hended, hW⟩ := X.leaveW hS hk (v := some w) (fun h => by rw [hret] at h; cases h) hlk
 exact ⟨_, _, retOut X hx hret hn hi hd hr, hrun, hended, _, _, rfl, hQ, own_wmono hW hC hS'⟩
theorem own_retVW {vm0 : Vm} (X : Stand p l e R (s.setVm vm0) m args below meth c T locs cells slots) {k0 : Nat} (hS : s.Since vm0 k0) (hk : k0 ≤ T.heap.size) (hx : p.tables.exec = Jvm.exec) {pc : Nat} {Ls : Array Slot} (hret : meth.sig.returnType = none)
  (hd : decode c.code pc = .ok (.return_, 1)) (hlk : meth.locks = false) {Q : Option Value → Heap → List Loc → Prop} {C S : Nat} (hQ : Q none T.heap locs) (hC : cells ≤ C) (hS' : slots ≤ S) : own_Fin p e below (own_PW Q s C S) (T.setTop (mkF m pc Ls [])) := by
 obtain ⟨fs, hr, hrun, hended, hW⟩ := X.leaveW hS hk (v := none) (fun _ => rfl) hlk
 exact ⟨_, _, X.returnOut hx hret hd hr, hrun, hended, _, _, rfl, hQ, own_wmono hW hC hS'⟩
theorem own_getR {Z : State} {a0 : Array Value} {h : Heap} (X : Stand p l e R s m args below meth c T locs cells slots) (hx : p.tables.exec = Jvm.exec) (hZ : Z.Warmed39 s.vm) {own O n d : String} {index : Nat} (hown : s.vm.findClass own = some m.cls) (w : (Jvm.Cond.fieldRef own index O n d).before a0 Z = true)
  (eT : T.heap = h) {a : Addr} {v : Value} (F : Fld Z h a O n d v) {g : JFrame} (hg : g.method = m) {rest : List Value} (hs : g.stack = .ref a :: rest) (hd : decode c.code g.pc = .ok (.getfield index, 3)) :
  ∀ target, Steps p.tables e below (T.setTop { g with pc := g.pc + 3, stack := v :: rest }) target → Steps p.tables e below (T.setTop g) target := by
 obtain ⟨cell, cf, k, i, f, h1, h2, h3, h4, -, -, h7⟩ := F
 have hU : Z.Warmed39 T.vm := wtrans hZ X.warmed
 have w0 : (Jvm.Cond.fieldRef own index O n d).before a0 (Z.setVm T.vm) = true := Cond.fieldRef_warmed39 hU w
 have w' : (Jvm.Cond.fieldRef own index O n d).before args T = true := w0
 have hc : T.vm.findClass own = some m.cls := by rw [X.warmed.alike.findClass]; exact hown
 obtain ⟨c', k', i', f', q1, q2⟩ := Cond.fieldRef_spec hc w'
 obtain ⟨k2, hi, -⟩ := State.fieldFound?_setVm (s := Z) hU.alike h2
 have hi' : T.fieldFound? O n d = some (cf, k2, i, f) := hi
 cases q1.symm.trans hi'
 intro target ht
 exact (X.getfieldR hx hg q2 h3 hs (by rw [eT]; exact h1) h4 h7 hd (Steps.refl _)).trans ht
end Own
abbrev own_hw (a0 : Array Value) (Z : State) : Prop := ∀ d ∈ tables_1, d.before a0 Z = true
def own_q (p : Program) (c : Code) (b : ByteArray) : Prop := p.tables.exec = Jvm.exec ∧ c.code = b
abbrev own_D (b : ByteArray) (pc : Nat) (i : Instr) (n pc' : Nat) : Prop := decode b pc = .ok (i, n) ∧ pc + n = pc'
def own_dk (b : ByteArray) (pc : Nat) : Option (Int32 × Nat) := match decode b pc with
 | .ok (.iconst i, 1) => some (Int32.ofInt i, pc + 1)
 | .ok (.bipush i, 2) => some ((Int8.ofInt i).toInt32, pc + 2)
 | .ok (.sipush i, 3) => some ((Int16.ofInt i).toInt32, pc + 3)
 | _ => none
abbrev own_DK (b : ByteArray) (pc : Nat) (z : Int32) (pc' : Nat) : Prop := own_dk b pc = some (z, pc')
theorem own_dkE {b : ByteArray} {pc pc' : Nat} {z : Int32} (d : own_DK b pc z pc') : (∃ i, decode b pc = .ok (.iconst i, 1) ∧ Int32.ofInt i = z ∧ pc + 1 = pc') ∨ (∃ i, decode b pc = .ok (.bipush i, 2) ∧ (Int8.ofInt i).toInt32 = z ∧ pc + 2 = pc') ∨ (∃ i, decode b pc = .ok (.sipush i, 3) ∧ (Int16.ofInt i).toInt32 = z ∧ pc + 3 = pc') := by
 unfold own_DK own_dk at d
 split at d
 ·rename_i i hd; cases d; exact Or.inl ⟨_, hd, rfl, rfl⟩
 ·rename_i i hd; cases d; exact Or.inr (Or.inl ⟨_, hd, rfl, rfl⟩)
 ·rename_i i hd; cases d; exact Or.inr (Or.inr ⟨_, hd, rfl, rfl⟩)
 ·cases d
def own_di (b : ByteArray) (pc : Nat) : Option (Nat × Int32 × Nat) := match decode b pc with
 | .ok (.iinc k i, 3) => some (k, Int32.ofInt i, pc + 3)
 | _ => none
abbrev own_DI (b : ByteArray) (pc k : Nat) (z : Int32) (pc' : Nat) : Prop := own_di b pc = some (k, z, pc')
theorem own_diE {b : ByteArray} {pc k pc' : Nat} {z : Int32} (d : own_DI b pc k z pc') : ∃ i, decode b pc = .ok (.iinc k i, 3) ∧ Int32.ofInt i = z ∧ pc + 3 = pc' := by
 unfold own_DI own_di at d
 split at d
 ·rename_i k i hd; cases d; exact ⟨_, hd, rfl, rfl⟩
 ·cases d
def own_dg (b : ByteArray) (pc : Nat) : Option Nat := match decode b pc with
 | .ok (.goto o, 3) => if 0 ≤ (pc : Int) + o then some ((pc : Int) + o).toNat else none
 | _ => none
abbrev own_DG (b : ByteArray) (pc t : Nat) : Prop := own_dg b pc = some t
theorem own_dgE {b : ByteArray} {pc t : Nat} (d : own_DG b pc t) : ∃ o, decode b pc = .ok (.goto o, 3) ∧ 0 ≤ (pc : Int) + o ∧ ((pc : Int) + o).toNat = t := by
 unfold own_DG own_dg at d
 split at d
 ·rename_i o hd
  split at d
  ·rename_i h; cases d; exact ⟨_, hd, h, rfl⟩
  ·cases d
 ·cases d
def own_dj (b : ByteArray) (pc : Nat) : Option (ClassFile.Cond × Nat × Nat) := match decode b pc with
 | .ok (.if_icmp cd o, 3) => if 0 ≤ (pc : Int) + o then some (cd, ((pc : Int) + o).toNat, pc + 3) else none
 | _ => none
abbrev own_DJ (b : ByteArray) (pc : Nat) (cd : ClassFile.Cond) (t n : Nat) : Prop := own_dj b pc = some (cd, t, n)
theorem own_djE {b : ByteArray} {pc t n : Nat} {cd : ClassFile.Cond} (d : own_DJ b pc cd t n) : ∃ o, decode b pc = .ok (.if_icmp cd o, 3) ∧ 0 ≤ (pc : Int) + o ∧ ((pc : Int) + o).toNat = t ∧ pc + 3 = n := by
 unfold own_DJ own_dj at d
 split at d
 ·rename_i cd o hd
  split at d
  ·rename_i h; cases d; exact ⟨_, hd, h, rfl, rfl⟩
  ·cases d
 ·cases d
def own_dz (b : ByteArray) (pc : Nat) : Option (ClassFile.Cond × Nat × Nat) := match decode b pc with
 | .ok (.ifCond cd o, 3) => if 0 ≤ (pc : Int) + o then some (cd, ((pc : Int) + o).toNat, pc + 3) else none
 | _ => none
abbrev own_DZ (b : ByteArray) (pc : Nat) (cd : ClassFile.Cond) (t n : Nat) : Prop := own_dz b pc = some (cd, t, n)
theorem own_dzE {b : ByteArray} {pc t n : Nat} {cd : ClassFile.Cond} (d : own_DZ b pc cd t n) : ∃ o, decode b pc = .ok (.ifCond cd o, 3) ∧ 0 ≤ (pc : Int) + o ∧ ((pc : Int) + o).toNat = t ∧ pc + 3 = n := by
 unfold own_DZ own_dz at d
 split at d
 ·rename_i cd o hd
  split at d
  ·rename_i h; cases d; exact ⟨_, hd, h, rfl, rfl⟩
  ·cases d
 ·cases d
section OwnC
variable {p : Program} {l : Launch} {e : Env} {R : Room} {s : State} {m : MethodId} {args : Array Value} {below : List Frame} {meth : Method} {c : Code} {T T' : State} {locs : List Loc} {cells slots : Nat} {b : ByteArray} {P : Outcome → State → Prop} {Ls l' : Array Slot} {S S' : List Value} {pc pc' t n : Nat}
theorem own_q.d {i : Instr} (q : own_q p c b) (d : own_D b pc i n pc') : decode c.code pc = .ok (i, n) := hb q.2 d.1
theorem own_w {Z : State} {a0 : Array Value} (hw : ∀ d ∈ tables_1, d.before a0 Z = true) (i : Nat) {d : Jvm.Cond} (h : tables_1[i]? = some d) : d.before a0 Z = true := hw d (List.mem_of_getElem? h)
theorem own_let (h : let g := mkF m pc Ls S; own_Fin p e below P (T.setTop g)) : own_Fin p e below P (T.setTop (mkF m pc Ls S)) := h
theorem own_stp (k : Nat) (st : ∀ t, Steps p.tables e below (T'.setTop (mkF m k Ls S')) t → Steps p.tables e below (T.setTop (mkF m pc Ls S)) t) (K : own_Fin p e below P (T'.setTop (mkF m k Ls S'))) : own_Fin p e below P (T.setTop (mkF m pc Ls S)) := own_go K st
theorem own_stq (k : Nat) (S' : List Value) (st : ∀ t, Steps p.tables e below (T'.setTop (mkF m k Ls S')) t → Steps p.tables e below (T.setTop (mkF m pc Ls S)) t) (K : own_Fin p e below P (T'.setTop (mkF m k Ls S'))) : own_Fin p e below P (T.setTop (mkF m pc Ls S)) := own_go K st
section OwnC2
theorem own_il {k : Nat} {v : Int32} (X : Stand p l e R s m args below meth c T locs cells slots) (q : own_q p c b) (d : own_D b pc (.iload k) 2 pc') (h : Ls[k]? = some (.val (.int v))) (K : own_Fin p e below P (T.setTop (mkF m pc' Ls (.int v :: S)))) : own_Fin p e below P (T.setTop (mkF m pc Ls S)) := by
 obtain ⟨hd, rfl⟩ := d
 exact own_go K fun t k => XS.iload X.here q.1 rfl (hb q.2 hd) h k
theorem own_iln {k : Fin 4} {v : Int32} (X : Stand p l e R s m args below meth c T locs cells slots) (q : own_q p c b) (d : own_D b pc (.iload_n k) 1 pc') (h : Ls[k.val]? = some (.val (.int v))) (K : own_Fin p e below P (T.setTop (mkF m pc' Ls (.int v :: S)))) : own_Fin p e below P (T.setTop (mkF m pc Ls S)) := by
 obtain ⟨hd, rfl⟩ := d
 exact own_go K fun t k => XS.iloadN X.here q.1 rfl (hb q.2 hd) h k
theorem own_ll {k : Nat} {v : Int64} (X : Stand p l e R s m args below meth c T locs cells slots) (q : own_q p c b) (d : own_D b pc (.lload k) 2 pc') (h : Ls[k]? = some (.val (.long v))) (K : own_Fin p e below P (T.setTop (mkF m pc' Ls (.long v :: S)))) : own_Fin p e below P (T.setTop (mkF m pc Ls S)) := by
 obtain ⟨hd, rfl⟩ := d
 exact own_go K fun t k => XS.lload X.here q.1 rfl (hb q.2 hd) h k
theorem own_al {k : Nat} {v : Value} (X : Stand p l e R s m args below meth c T locs cells slots) (q : own_q p c b) (d : own_D b pc (.aload k) 2 pc') (h : Ls[k]? = some (.val v)) (hv : v.isRef = true) (K : own_Fin p e below P (T.setTop (mkF m pc' Ls (v :: S)))) : own_Fin p e below P (T.setTop (mkF m pc Ls S)) := by
 obtain ⟨hd, rfl⟩ := d
 exact own_go K fun t k => XS.aload X.here q.1 rfl (hb q.2 hd) h hv k
theorem own_aln {k : Fin 4} {v : Value} (X : Stand p l e R s m args below meth c T locs cells slots) (q : own_q p c b) (d : own_D b pc (.aload_n k) 1 pc') (h : Ls[k.val]? = some (.val v)) (hv : v.isRef = true) (K : own_Fin p e below P (T.setTop (mkF m pc' Ls (v :: S)))) : own_Fin p e below P (T.setTop (mkF m pc Ls S)) := by
 obtain ⟨hd, rfl⟩ := d
 exact own_go K fun t k => XS.aloadN X.here q.1 rfl (hb q.2 hd) h hv k
theorem own_is {k : Nat} {v : Int32} (X : Stand p l e R s m args below meth c T locs cells slots) (q : own_q p c b) (d : own_D b pc (.istore k) 2 pc') (h : storeLocals Ls k (.int v) = some l') (K : own_Fin p e below P (T.setTop (mkF m pc' l' S))) : own_Fin p e below P (T.setTop (mkF m pc Ls (.int v :: S))) := by
 obtain ⟨hd, rfl⟩ := d
 exact own_go K fun t k => XS.istore X.here q.1 rfl (hb q.2 hd) rfl h k
theorem own_isn {k : Fin 4} {v : Int32} (X : Stand p l e R s m args below meth c T locs cells slots) (q : own_q p c b) (d : own_D b pc (.istore_n k) 1 pc') (h : storeLocals Ls k.val (.int v) = some l') (K : own_Fin p e below P (T.setTop (mkF m pc' l' S))) : own_Fin p e below P (T.setTop (mkF m pc Ls (.int v :: S))) := by
 obtain ⟨hd, rfl⟩ := d
 exact own_go K fun t k => XS.istoreN X.here q.1 rfl (hb q.2 hd) rfl h k
theorem own_ls {k : Nat} {v : Int64} (X : Stand p l e R s m args below meth c T locs cells slots) (q : own_q p c b) (d : own_D b pc (.lstore k) 2 pc') (h : storeLocals Ls k (.long v) = some l') (K : own_Fin p e below P (T.setTop (mkF m pc' l' S))) : own_Fin p e below P (T.setTop (mkF m pc Ls (.long v :: S))) := by
 obtain ⟨hd, rfl⟩ := d
 exact own_go K fun t k => XS.lstore X.here q.1 rfl (hb q.2 hd) rfl h k
theorem own_as {k : Nat} {v : Value} (X : Stand p l e R s m args below meth c T locs cells slots) (q : own_q p c b) (d : own_D b pc (.astore k) 2 pc') (hv : v.isRef = true) (h : storeLocals Ls k v = some l') (K : own_Fin p e below P (T.setTop (mkF m pc' l' S))) : own_Fin p e below P (T.setTop (mkF m pc Ls (v :: S))) := by
 obtain ⟨hd, rfl⟩ := d
 exact own_go K fun t k => XS.astore X.here q.1 rfl (hb q.2 hd) rfl hv h k
theorem own_asn {k : Fin 4} {v : Value} (X : Stand p l e R s m args below meth c T locs cells slots) (q : own_q p c b) (d : own_D b pc (.astore_n k) 1 pc') (hv : v.isRef = true) (h : storeLocals Ls k.val v = some l') (K : own_Fin p e below P (T.setTop (mkF m pc' l' S))) : own_Fin p e below P (T.setTop (mkF m pc Ls (v :: S))) := by
 obtain ⟨hd, rfl⟩ := d
 exact own_go K fun t k => XS.astoreN X.here q.1 rfl (hb q.2 hd) rfl hv h k
theorem own_k {z : Int32} (X : Stand p l e R s m args below meth c T locs cells slots) (q : own_q p c b) (d : own_DK b pc z pc') (K : own_Fin p e below P (T.setTop (mkF m pc' Ls (.int z :: S)))) : own_Fin p e below P (T.setTop (mkF m pc Ls S)) := by
 rcases own_dkE d with ⟨i, hd, rfl, rfl⟩ | ⟨i, hd, rfl, rfl⟩ | ⟨i, hd, rfl, rfl⟩
 ·exact own_go K fun t k => XS.iconst X.here q.1 rfl (hb q.2 hd) k
 ·exact own_go K fun t k => XS.bipush X.here q.1 rfl (hb q.2 hd) k
 ·exact own_go K fun t k => XS.sipush X.here q.1 rfl (hb q.2 hd) k
theorem own_lk {i : Fin 2} {z : Int64} (X : Stand p l e R s m args below meth c T locs cells slots) (q : own_q p c b) (d : own_D b pc (.lconst i) 1 pc') (h : Int64.ofNat i = z) (K : own_Fin p e below P (T.setTop (mkF m pc' Ls (.long z :: S)))) : own_Fin p e below P (T.setTop (mkF m pc Ls S)) := by
 obtain ⟨hd, rfl⟩ := d
 subst h
 exact own_go K fun t k => XS.lconst X.here q.1 rfl (hb q.2 hd) k
theorem own_nl (X : Stand p l e R s m args below meth c T locs cells slots) (q : own_q p c b) (d : own_D b pc .aconst_null 1 pc') (K : own_Fin p e below P (T.setTop (mkF m pc' Ls (.null :: S)))) : own_Fin p e below P (T.setTop (mkF m pc Ls S)) := by
 obtain ⟨hd, rfl⟩ := d
 exact own_go K fun t k => XS.aconstNull X.here q.1 rfl (hb q.2 hd) k
theorem own_ii {k : Nat} {x z : Int32} (X : Stand p l e R s m args below meth c T locs cells slots) (q : own_q p c b) (d : own_DI b pc k z pc') (h : Ls[k]? = some (.val (.int x))) (h' : storeLocals Ls k (.int (x + z)) = some l') (K : own_Fin p e below P (T.setTop (mkF m pc' l' S))) : own_Fin p e below P (T.setTop (mkF m pc Ls S)) := by
 obtain ⟨i, hd, rfl, rfl⟩ := own_diE d
 exact own_go K fun t k => XS.iinc X.here q.1 rfl (hb q.2 hd) h h' k
theorem own_iik {k : Nat} {x y z : Int32} (X : Stand p l e R s m args below meth c T locs cells slots) (q : own_q p c b) (d : own_DI b pc k z pc') (h : Ls[k]? = some (.val (.int x))) (hy : x + z = y) (h' : storeLocals Ls k (.int y) = some l') (K : own_Fin p e below P (T.setTop (mkF m pc' l' S))) : own_Fin p e below P (T.setTop (mkF m pc Ls S)) := by
 subst hy; exact own_ii X q d h h' K
theorem own_dp {v : Value} (X : Stand p l e R s m args below meth c T locs cells slots) (q : own_q p c b) (d : own_D b pc .dup 1 pc') (hc : v.category = 1) (K : own_Fin p e below P (T.setTop (mkF m pc' Ls (v :: v :: S)))) : own_Fin p e below P (T.setTop (mkF m pc Ls (v :: S))) := by
 obtain ⟨hd, rfl⟩ := d
 exact own_go K fun t k => XS.dup X.here q.1 rfl (hb q.2 hd) rfl hc k
theorem own_iadd {x y : Int32} (X : Stand p l e R s m args below meth c T locs cells slots) (q : own_q p c b) (d : own_D b pc .iadd 1 pc') (K : own_Fin p e below P (T.setTop (mkF m pc' Ls (.int (x + y) :: S)))) : own_Fin p e below P (T.setTop (mkF m pc Ls (.int y :: .int x :: S))) := by
 obtain ⟨hd, rfl⟩ := d
 exact own_go K fun t k => XS.iadd X.here q.1 rfl (hb q.2 hd) rfl k
theorem own_isub {x y : Int32} (X : Stand p l e R s m args below meth c T locs cells slots) (q : own_q p c b) (d : own_D b pc .isub 1 pc') (K : own_Fin p e below P (T.setTop (mkF m pc' Ls (.int (x - y) :: S)))) : own_Fin p e below P (T.setTop (mkF m pc Ls (.int y :: .int x :: S))) := by
 obtain ⟨hd, rfl⟩ := d
 exact own_go K fun t k => XS.isub X.here q.1 rfl (hb q.2 hd) rfl k
theorem own_iaddk (z : Int32) {x y : Int32} (X : Stand p l e R s m args below meth c T locs cells slots) (q : own_q p c b) (d : own_D b pc .iadd 1 pc') (h : x + y = z) (K : own_Fin p e below P (T.setTop (mkF m pc' Ls (.int z :: S)))) : own_Fin p e below P (T.setTop (mkF m pc Ls (.int y :: .int x :: S))) := own_iadd X q d (h.symm ▸ K)
theorem own_isubk (z : Int32) {x y : Int32} (X : Stand p l e R s m args below meth c T locs cells slots) (q : own_q p c b) (d : own_D b pc .isub 1 pc') (h : x - y = z) (K : own_Fin p e below P (T.setTop (mkF m pc' Ls (.int z :: S)))) : own_Fin p e below P (T.setTop (mkF m pc Ls (.int y :: .int x :: S))) := own_isub X q d (h.symm ▸ K)
theorem own_gt (X : Stand p l e R s m args below meth c T locs cells slots) (q : own_q p c b) (d : own_DG b pc t) (K : own_Fin p e below P (T.setTop (mkF m t Ls S))) : own_Fin p e below P (T.setTop (mkF m pc Ls S)) := by
 obtain ⟨o, hd, h1, h2⟩ := own_dgE d
 exact own_go K fun t k => XS.goto X.here q.1 rfl rfl (hb q.2 hd) h1 h2 k
theorem own_cy {cd : ClassFile.Cond} {x y : Int32} (X : Stand p l e R s m args below meth c T locs cells slots) (q : own_q p c b) (d : own_DJ b pc cd t n) (h : if_icmp.holds cd x y = true) (K : own_Fin p e below P (T.setTop (mkF m t Ls S))) : own_Fin p e below P (T.setTop (mkF m pc Ls (.int y :: .int x :: S))) := by
 obtain ⟨o, hd, h1, h2, -⟩ := own_djE d
 exact own_go K fun t k => XS.icmpYes X.here q.1 rfl rfl (hb q.2 hd) rfl h h1 h2 k
theorem own_cn {cd : ClassFile.Cond} {x y : Int32} (X : Stand p l e R s m args below meth c T locs cells slots) (q : own_q p c b) (d : own_DJ b pc cd t n) (h : if_icmp.holds cd x y = false) (K : own_Fin p e below P (T.setTop (mkF m n Ls S))) : own_Fin p e below P (T.setTop (mkF m pc Ls (.int y :: .int x :: S))) := by
 obtain ⟨o, hd, -, -, rfl⟩ := own_djE d
 exact own_go K fun t k => XS.icmpNo X.here q.1 rfl (hb q.2 hd) rfl h k
theorem own_zy {cd : ClassFile.Cond} {x : Int32} (X : Stand p l e R s m args below meth c T locs cells slots) (q : own_q p c b) (d : own_DZ b pc cd t n) (h : ifCond.holds cd x = true) (K : own_Fin p e below P (T.setTop (mkF m t Ls S))) : own_Fin p e below P (T.setTop (mkF m pc Ls (.int x :: S))) := by
 obtain ⟨o, hd, h1, h2, -⟩ := own_dzE d
 exact own_go K fun t k => XS.ifYes X.here q.1 rfl rfl (hb q.2 hd) rfl h h1 h2 k
theorem own_zn {cd : ClassFile.Cond} {x : Int32} (X : Stand p l e R s m args below meth c T locs cells slots) (q : own_q p c b) (d : own_DZ b pc cd t n) (h : ifCond.holds cd x = false) (K : own_Fin p e below P (T.setTop (mkF m n Ls S))) : own_Fin p e below P (T.setTop (mkF m pc Ls (.int x :: S))) := by
 obtain ⟨o, hd, -, -, rfl⟩ := own_dzE d
 exact own_go K fun t k => XS.ifNo X.here q.1 rfl (hb q.2 hd) rfl h k
end OwnC2
end OwnC
abbrev own_M (l : Launch) (Z : State) (ws : List Jvm.Cond) (y : MethodName) (b : ByteArray) (ml : Nat) (rt : Option FieldType) (R : Room) (A : Array Value) (h0 : Heap) (Q : Option Value → Heap → List Loc → Prop) : Prop := MetFree l y (head1 (Jvm.Cond.code y b ml rt :: ws) R) (fun a U => a = A ∧ Z.Warmed39 U.vm ∧ U.heap = h0) (fun _ _ _ _ _ => True) (fun _ U o U' => ∃ v L, o = .returned v ∧ Q v U'.heap L ∧ FrameEnd U o U' L R.cells R.slots)
theorem own_start {l : Launch} {Z : State} {ws : List Jvm.Cond} {y : MethodName} {b : ByteArray} {ml : Nat} {rt : Option FieldType} {R : Room} {A : Array Value} {h0 : Heap} {Q : Option Value → Heap → List Loc → Prop} {a0 : Array Value} {n0 : Nat} (hw : own_hw a0 Z) (own : String) {L : Array Slot} (pn : plainFor y = true)
  (H : ∀ {p : Program} {e : Env} {s : State} {m : MethodId} {below : List Frame} {meth : Method} {c : Code} {s₁ : State}, own_q p c b → p.tables.exec = Jvm.exec → (∀ (i : Nat) {d : Jvm.Cond}, tables_1[i]? = some d → d.before a0 Z = true) → c.maxLocals = ml → Z.Warmed39 s.vm → s.vm.findClass own = some m.cls → meth.name = y.name → meth.locks = false → meth.sig.returnType = rt → Stand p l e R s m A below meth c s₁ [] 0 0 → s₁.heap = h0 → Fr n0 [] → own_Fin p e below (own_P Q s R.cells R.slots) (s₁.setTop (mkF m 0 L [])))
  (ho : y.cls = own := by rfl) (hE : ∀ m, entryFrame m A ml = mkF m 0 L [] := by intro m; first | (simp [entryFrame, mkF, argsToLocals, Value.category]; done) | rfl) : own_M l Z ws y b ml rt R A h0 Q := by
 refine MetFree.of_bodySF pn hisR ?_
 intro p e s m args below meth c s₁ Bd hml0 hP hK
 obtain ⟨rfl, hZ, hh⟩ := hP
 have X0 : Stand p l e R s m args below meth c s₁ [] 0 0 := Stand.of_body Bd
 have e0 : s₁.heap = h0 := by rw [← hh, Bd.state]; rfl
 show own_Fin p e below (own_P Q s R.cells R.slots) (s₁.setTop (entryFrame m args ml))
 rw [hE m]
 exact H ⟨Bd.exec, Bd.bytes⟩ Bd.exec (own_w hw) hml0 hZ (ho ▸ findClass_of_methodNamed Bd.named) (name_of_methodNamed Bd.named Bd.method).1 (BodyLoose.notSynchronized Bd) Bd.returns X0 e0 (Fr.nil n0)
section OwnE
variable {p : Program} {l : Launch} {e : Env} {R : Room} {s : State} {m : MethodId} {args : Array Value} {below : List Frame} {meth : Method} {c : Code} {T : State} {locs : List Loc} {cells slots C S' : Nat} {b : ByteArray} {Ls : Array Slot} {S : List Value} {pc pc' : Nat} {t : FieldType} {Q : Option Value → Heap → List Loc → Prop}
theorem own_rA {a : Addr} (X : Stand p l e R s m args below meth c T locs cells slots) (q : own_q p c b) (hr : meth.sig.returnType = some t) (d : own_D b pc .areturn 1 pc') (hlk : meth.locks = false) (hc : cells ≤ C ∧ slots ≤ S') (hQ : Q (some (.ref a)) T.heap locs) (hn : narrow t (.ref a) = .ref a := by rfl) (ht : t.isReference = true := by rfl) : own_Fin p e below (own_P Q s C S') (T.setTop (mkF m pc Ls (.ref a :: S))) :=
 own_retO X q.1 hr hn (Or.inr (Or.inr (Or.inr (Or.inr ⟨rfl, ht, rfl⟩)))) (q.d d) hlk hQ hc.1 hc.2
theorem own_rI {z : Int32} (X : Stand p l e R s m args below meth c T locs cells slots) (q : own_q p c b) (hr : meth.sig.returnType = some .int) (d : own_D b pc .ireturn 1 pc') (hlk : meth.locks = false) (hc : cells ≤ C ∧ slots ≤ S') (hQ : Q (some (.int z)) T.heap locs) : own_Fin p e below (own_P Q s C S') (T.setTop (mkF m pc Ls (.int z :: S))) :=
 own_retO X q.1 hr rfl (Or.inl ⟨rfl, Or.inl rfl, _, rfl⟩) (q.d d) hlk hQ hc.1 hc.2
theorem own_rN {z : Int32} (X : Stand p l e R s m args below meth c T locs cells slots) (q : own_q p c b) (hr : meth.sig.returnType = some t) (ht : t = .boolean ∨ t = .byte ∨ t = .char ∨ t = .short) (d : own_D b pc .ireturn 1 pc') (hlk : meth.locks = false) (hc : cells ≤ C ∧ slots ≤ S') (hQ : Q (some (.int (nar t z))) T.heap locs) : own_Fin p e below (own_P Q s C S') (T.setTop (mkF m pc Ls (.int z :: S))) :=
 own_retN X q.1 hr ht (q.d d) hlk hQ hc.1 hc.2
theorem own_rV (X : Stand p l e R s m args below meth c T locs cells slots) (q : own_q p c b) (hr : meth.sig.returnType = none) (d : own_D b pc .return_ 1 pc') (hlk : meth.locks = false) (hc : cells ≤ C ∧ slots ≤ S') (hQ : Q none T.heap locs) : own_Fin p e below (own_P Q s C S') (T.setTop (mkF m pc Ls [])) :=
 own_retV X q.1 hr (q.d d) hlk hQ hc.1 hc.2
end OwnE
section OwnD
variable {p : Program} {l : Launch} {e : Env} {R : Room} {s : State} {m : MethodId} {args : Array Value} {below : List Frame} {meth : Method} {c : Code} {T : State} {locs : List Loc} {cells slots : Nat} {b : ByteArray} {P : Outcome → State → Prop} {Ls : Array Slot} {S : List Value} {pc pc' : Nat} {Z : State} {a0 : Array Value} {h : Heap}
theorem own_nv {v : Value} (K : own_Fin p e below P (T.setTop (mkF m pc Ls (v :: S)))) : own_Fin p e below P (T.setTop (mkF m pc Ls ((some v).toList ++ S))) := K
theorem own_nn (K : own_Fin p e below P (T.setTop (mkF m pc Ls S))) : own_Fin p e below P (T.setTop (mkF m pc Ls ((none : Option Value).toList ++ S))) := K
theorem own_cS {own : String} {index : Nat} {y : MethodName} {bytes : ByteArray} {maxL : Nat} {ret : Option FieldType} {rm : Room} {as' : Array Value} {Q : Option Value → Heap → List Loc → Prop} {ps : List FieldType} {r : Option FieldType}
  (X : Stand p l e R s m args below meth c T locs cells slots) (q : own_q p c b) (hZ : Z.Warmed39 s.vm) (eT : T.heap = h) (hown : s.vm.findClass own = some m.cls) {ml : Nat} (hml : c.maxLocals = ml) (w1 : (Jvm.Cond.methodLink own index y).before a0 Z = true) (w2 : (Jvm.Cond.static y).before a0 Z = true) (w3 : (Jvm.Cond.initialized y.cls).before a0 Z = true) (w4 : (Jvm.Cond.code y bytes maxL ret).before a0 Z = true)
  (hM : own_M l Z [] y bytes maxL ret rm as' h Q) (d : own_D b pc (.invokestatic index) 3 pc') (argsL rest : List Value) (pd : parseMethodDescriptor y.desc = some ⟨ps, r⟩) (hl : argsL.length = ps.length) (ha : argsL.toArray = as') (W : Nat) (hW : (rest.map fun v => v.category).sum ≤ W)
  (dec : (y.cls ≠ "java/lang/invoke/MethodHandle" ∧ y.cls ≠ "java/lang/invoke/VarHandle") ∧ rm.frames + 1 ≤ R.frames ∧ W + (maxL + 11) + rm.locals ≤ R.locals ∧ cells + rm.cells ≤ R.cells ∧ slots + rm.slots ≤ R.slots)
  (K : ∀ (v : Option Value) (T' : State) (L : List Loc), Stand p l e R s m args below meth c T' (locs ++ L) (cells + rm.cells) (slots + rm.slots) → Q v T'.heap L → own_Fin p e below P (T'.setTop (mkF m pc' Ls (v.toList ++ rest)))) (hs : Ls.size = ml := by rfl) :
  own_Fin p e below P (T.setTop (mkF m pc Ls (argsL.reverse ++ rest))) := by
 obtain ⟨hd, rfl⟩ := d
 obtain ⟨v, _, ⟨T', L', k', n'⟩, -, X', ⟨L, hQ, l1, l2, l3⟩, st⟩ := Jvm.LawKit.callS X q.1 (y := y) hown (mvT hZ w1) (mvT hZ w2) (mvT hZ w3) (mvT hZ w4) dec.1 (backOf (W := W) hM hZ w4 w3 dec.2.1 dec.2.2.1) (g := mkF m pc Ls (argsL.reverse ++ rest)) rfl (hs.trans hml.symm) (argsL := argsL) (rest := rest) (lenOf pd hl) rfl (by show 2 * 0 + _ ≤ _; omega) (hb q.2 hd) (fun _ _ => ⟨ha, eT, dec.2.2.2.1, dec.2.2.2.2⟩)
 dsimp only [Pt.U, Pt.locs, Pt.cells, Pt.slots] at X' l1 l2 l3 st hQ
 rw [l1, l2, l3] at X'
 exact own_go (K v T' L X' hQ) st
theorem own_cI {own : String} {index : Nat} {y : MethodName} {bytes : ByteArray} {maxL : Nat} {rm : Room} {as' : Array Value} {Q : Option Value → Heap → List Loc → Prop} {ps : List FieldType} {r : Option FieldType} {a : Addr}
  (X : Stand p l e R s m args below meth c T locs cells slots) (q : own_q p c b) (hZ : Z.Warmed39 s.vm) (eT : T.heap = h) (hown : s.vm.findClass own = some m.cls) {ml : Nat} (hml : c.maxLocals = ml) (w1 : (Jvm.Cond.methodLink own index y).before a0 Z = true) (w2 : (Jvm.Cond.instanceMethod y).before a0 Z = true) (w3 : (Jvm.Cond.initialized y.cls).before a0 Z = true) (w4 : (Jvm.Cond.code y bytes maxL none).before a0 Z = true)
  (hM : own_M l Z [] y bytes maxL none rm as' h Q) (d : own_D b pc (.invokespecial index) 3 pc') (argsL rest : List Value) (pd : parseMethodDescriptor y.desc = some ⟨ps, r⟩) (hl : argsL.length = ps.length) (ha : (Value.ref a :: argsL).toArray = as') (W : Nat) (hW : (rest.map fun v => v.category).sum ≤ W) (hy1 : y.name = "<init>")
  (dec : (y.cls ≠ "java/lang/invoke/MethodHandle" ∧ y.cls ≠ "java/lang/invoke/VarHandle") ∧ rm.frames + 1 ≤ R.frames ∧ W + (maxL + 11) + rm.locals ≤ R.locals ∧ cells + rm.cells ≤ R.cells ∧ slots + rm.slots ≤ R.slots)
  (K : ∀ (v : Option Value) (T' : State) (L : List Loc), Stand p l e R s m args below meth c T' (locs ++ L) (cells + rm.cells) (slots + rm.slots) → Q v T'.heap L → own_Fin p e below P (T'.setTop (mkF m pc' Ls (v.toList ++ rest)))) (hs : Ls.size = ml := by rfl) :
  own_Fin p e below P (T.setTop (mkF m pc Ls (argsL.reverse ++ .ref a :: rest))) := by
 obtain ⟨hd, rfl⟩ := d
 obtain ⟨v, _, ⟨T', L', k', n'⟩, -, X', ⟨L, hQ, l1, l2, l3⟩, st⟩ := X.specialBack q.1 (y := y) hy1 hown (mvT hZ w1) (mvT hZ w2) (mvT hZ w4) dec.1 (backOf (W := W) hM hZ w4 w3 dec.2.1 dec.2.2.1) (g := mkF m pc Ls (argsL.reverse ++ .ref a :: rest)) rfl (hs.trans hml.symm) (Steps.refl _) (a := a) (argsL := argsL) (rest := rest) (lenOf pd hl) rfl (by show 2 * 0 + _ ≤ _; omega) (hb q.2 hd) (fun _ _ => ⟨ha, eT, dec.2.2.2.1, dec.2.2.2.2⟩)
 dsimp only [Pt.U, Pt.locs, Pt.cells, Pt.slots] at X' l1 l2 l3 st hQ
 rw [l1, l2, l3] at X'
 exact own_go (K v T' L X' hQ) fun t k => st.trans k
theorem own_cV {own C : String} {index : Nat} {y z : MethodName} {bytes : ByteArray} {maxL : Nat} {ret : Option FieldType} {rm : Room} {as' : Array Value} {Q : Option Value → Heap → List Loc → Prop} {ps : List FieldType} {r : Option FieldType} {a : Addr}
  (X : Stand p l e R s m args below meth c T locs cells slots) (q : own_q p c b) (hZ : Z.Warmed39 s.vm) (eT : T.heap = h) (hown : s.vm.findClass own = some m.cls) {ml : Nat} (hml : c.maxLocals = ml) (w1 : (Jvm.Cond.methodLink own index y).before a0 Z = true) (w2 : (Jvm.Cond.declares y).before a0 Z = true) (w5 : (Jvm.Cond.selects C y z).before a0 Z = true) (w6 : (Jvm.Cond.instanceMethod z).before a0 Z = true) (w3 : (Jvm.Cond.initialized z.cls).before a0 Z = true) (w4 : (Jvm.Cond.code z bytes maxL ret).before a0 Z = true) (hzy : z = y) (E : Exa Z h a C)
  (hM : own_M l Z [] z bytes maxL ret rm as' h Q) (d : own_D b pc (.invokevirtual index) 3 pc') (argsL rest : List Value) (pd : parseMethodDescriptor y.desc = some ⟨ps, r⟩) (hl : argsL.length = ps.length) (ha : (Value.ref a :: argsL).toArray = as') (W : Nat) (hW : (rest.map fun v => v.category).sum ≤ W)
  (dec : (y.cls ≠ "java/lang/invoke/MethodHandle" ∧ y.cls ≠ "java/lang/invoke/VarHandle") ∧ rm.frames + 1 ≤ R.frames ∧ W + (maxL + 11) + rm.locals ≤ R.locals ∧ cells + rm.cells ≤ R.cells ∧ slots + rm.slots ≤ R.slots)
  (K : ∀ (v : Option Value) (T' : State) (L : List Loc), Stand p l e R s m args below meth c T' (locs ++ L) (cells + rm.cells) (slots + rm.slots) → Q v T'.heap L → own_Fin p e below P (T'.setTop (mkF m pc' Ls (v.toList ++ rest)))) (hs : Ls.size = ml := by rfl) :
  own_Fin p e below P (T.setTop (mkF m pc Ls (argsL.reverse ++ .ref a :: rest))) := by
 obtain ⟨hd, rfl⟩ := d
 subst hzy
 obtain ⟨cq, kq, qa, qb, qc⟩ := isOf hZ eT E
 obtain ⟨v, _, ⟨T', L', k', n'⟩, -, X', ⟨L, hQ, l1, l2, l3⟩, st⟩ := X.virtualBack q.1 hown (mvT hZ w1) (mvT hZ w2) (notFace_of_selects (args := #[]) (mvT hZ w5)) (mvT hZ w5) (mvT hZ w6) dec.1 (backOf (W := W) hM hZ w4 w3 dec.2.1 dec.2.2.1) qa qc (g := mkF m pc Ls (argsL.reverse ++ .ref a :: rest)) rfl (hs.trans hml.symm) (Steps.refl _) (argsL := argsL) (rest := rest) (lenOf pd hl) rfl (by show 2 * 0 + _ ≤ _; omega) (hb q.2 hd) (fun _ _ => ⟨ha, eT, dec.2.2.2.1, dec.2.2.2.2⟩)
 dsimp only [Pt.U, Pt.locs, Pt.cells, Pt.slots] at X' l1 l2 l3 st hQ
 rw [l1, l2, l3] at X'
 exact own_go (K v T' L X' hQ) fun t k => st.trans k
theorem own_cSh {own : String} {index : Nat} {y : MethodName} {bytes : ByteArray} {maxL : Nat} {ret : Option FieldType} {rm : Room} {as' : Array Value} {Q : Option Value → Heap → List Loc → Prop} {ps : List FieldType} {r : Option FieldType}
  (X : Stand p l e R s m args below meth c T locs cells slots) (q : own_q p c b) (hZ : Z.Warmed39 s.vm) (eT : T.heap = h) (hown : s.vm.findClass own = some m.cls) {ml : Nat} (hml : c.maxLocals = ml) (w1 : (Jvm.Cond.methodLink own index y).before a0 Z = true) (w2 : (Jvm.Cond.static y).before a0 Z = true) (w3 : (Jvm.Cond.initialized y.cls).before a0 Z = true) (w4 : (Jvm.Cond.code y bytes maxL ret).before a0 Z = true)
  (hM : own_M l Z [] y bytes maxL ret rm as' h Q) (d : own_D b pc (.invokestatic index) 3 pc') (argsL rest : List Value) (pd : parseMethodDescriptor y.desc = some ⟨ps, r⟩) (hl : argsL.length = ps.length) (ha : argsL.toArray = as') (W : Nat) (hW : (rest.map fun v => v.category).sum ≤ W)
  (dec : (y.cls ≠ "java/lang/invoke/MethodHandle" ∧ y.cls ≠ "java/lang/invoke/VarHandle") ∧ rm.frames + 1 ≤ R.frames ∧ W + (maxL + 11) + rm.locals ≤ R.locals ∧ cells + rm.cells ≤ R.cells ∧ slots + rm.slots ≤ R.slots)
  (K : ∀ (v : Option Value) (T' : State) (L : List Loc) (h' : Heap), T'.heap = h' → Stand p l e R s m args below meth c T' (locs ++ L) (cells + rm.cells) (slots + rm.slots) → Q v h' L → own_Fin p e below P (T'.setTop (mkF m pc' Ls (v.toList ++ rest)))) (hs : Ls.size = ml := by rfl) :
  own_Fin p e below P (T.setTop (mkF m pc Ls (argsL.reverse ++ rest))) :=
 own_cS X q hZ eT hown hml w1 w2 w3 w4 hM d argsL rest pd hl ha W hW dec (fun v T' L X' hQ => K v T' L _ rfl X' hQ) hs
theorem own_cIh {own : String} {index : Nat} {y : MethodName} {bytes : ByteArray} {maxL : Nat} {rm : Room} {as' : Array Value} {Q : Option Value → Heap → List Loc → Prop} {ps : List FieldType} {r : Option FieldType} {a : Addr}
  (X : Stand p l e R s m args below meth c T locs cells slots) (q : own_q p c b) (hZ : Z.Warmed39 s.vm) (eT : T.heap = h) (hown : s.vm.findClass own = some m.cls) {ml : Nat} (hml : c.maxLocals = ml) (w1 : (Jvm.Cond.methodLink own index y).before a0 Z = true) (w2 : (Jvm.Cond.instanceMethod y).before a0 Z = true) (w3 : (Jvm.Cond.initialized y.cls).before a0 Z = true) (w4 : (Jvm.Cond.code y bytes maxL none).before a0 Z = true)
  (hM : own_M l Z [] y bytes maxL none rm as' h Q) (d : own_D b pc (.invokespecial index) 3 pc') (argsL rest : List Value) (pd : parseMethodDescriptor y.desc = some ⟨ps, r⟩) (hl : argsL.length = ps.length) (ha : (Value.ref a :: argsL).toArray = as') (W : Nat) (hW : (rest.map fun v => v.category).sum ≤ W) (hy1 : y.name = "<init>")
  (dec : (y.cls ≠ "java/lang/invoke/MethodHandle" ∧ y.cls ≠ "java/lang/invoke/VarHandle") ∧ rm.frames + 1 ≤ R.frames ∧ W + (maxL + 11) + rm.locals ≤ R.locals ∧ cells + rm.cells ≤ R.cells ∧ slots + rm.slots ≤ R.slots)
  (K : ∀ (v : Option Value) (T' : State) (L : List Loc) (h' : Heap), T'.heap = h' → Stand p l e R s m args below meth c T' (locs ++ L) (cells + rm.cells) (slots + rm.slots) → Q v h' L → own_Fin p e below P (T'.setTop (mkF m pc' Ls (v.toList ++ rest)))) (hs : Ls.size = ml := by rfl) :
  own_Fin p e below P (T.setTop (mkF m pc Ls (argsL.reverse ++ .ref a :: rest))) :=
 own_cI X q hZ eT hown hml w1 w2 w3 w4 hM d argsL rest pd hl ha W hW hy1 dec (fun v T' L X' hQ => K v T' L _ rfl X' hQ) hs
theorem own_cVh {own C : String} {index : Nat} {y z : MethodName} {bytes : ByteArray} {maxL : Nat} {ret : Option FieldType} {rm : Room} {as' : Array Value} {Q : Option Value → Heap → List Loc → Prop} {ps : List FieldType} {r : Option FieldType} {a : Addr}
  (X : Stand p l e R s m args below meth c T locs cells slots) (q : own_q p c b) (hZ : Z.Warmed39 s.vm) (eT : T.heap = h) (hown : s.vm.findClass own = some m.cls) {ml : Nat} (hml : c.maxLocals = ml) (w1 : (Jvm.Cond.methodLink own index y).before a0 Z = true) (w2 : (Jvm.Cond.declares y).before a0 Z = true) (w5 : (Jvm.Cond.selects C y z).before a0 Z = true) (w6 : (Jvm.Cond.instanceMethod z).before a0 Z = true) (w3 : (Jvm.Cond.initialized z.cls).before a0 Z = true) (w4 : (Jvm.Cond.code z bytes maxL ret).before a0 Z = true) (hzy : z = y) (E : Exa Z h a C)
  (hM : own_M l Z [] z bytes maxL ret rm as' h Q) (d : own_D b pc (.invokevirtual index) 3 pc') (argsL rest : List Value) (pd : parseMethodDescriptor y.desc = some ⟨ps, r⟩) (hl : argsL.length = ps.length) (ha : (Value.ref a :: argsL).toArray = as') (W : Nat) (hW : (rest.map fun v => v.category).sum ≤ W)
  (dec : (y.cls ≠ "java/lang/invoke/MethodHandle" ∧ y.cls ≠ "java/lang/invoke/VarHandle") ∧ rm.frames + 1 ≤ R.frames ∧ W + (maxL + 11) + rm.locals ≤ R.locals ∧ cells + rm.cells ≤ R.cells ∧ slots + rm.slots ≤ R.slots)
  (K : ∀ (v : Option Value) (T' : State) (L : List Loc) (h' : Heap), T'.heap = h' → Stand p l e R s m args below meth c T' (locs ++ L) (cells + rm.cells) (slots + rm.slots) → Q v h' L → own_Fin p e below P (T'.setTop (mkF m pc' Ls (v.toList ++ rest)))) (hs : Ls.size = ml := by rfl) :
  own_Fin p e below P (T.setTop (mkF m pc Ls (argsL.reverse ++ .ref a :: rest))) :=
 own_cV X q hZ eT hown hml w1 w2 w5 w6 w3 w4 hzy E hM d argsL rest pd hl ha W hW dec (fun v T' L X' hQ => K v T' L _ rfl X' hQ) hs
theorem own_ild {a : Addr} {k : ClassId} {n : Int32} {vs : List Value} {dv v : Value} {j : Int32} (X : Stand p l e R s m args below meth c T locs cells slots) (q : own_q p c b) (hZ : Z.Warmed39 s.vm) (eT : T.heap = h) (V : Arv Z h a k .int n vs dv) (d : own_D b pc .iaload 1 pc') (hj : ¬ j < 0 ∧ j < n) (hv : vs.getD j.toNatClampNeg dv = v) (K : own_Fin p e below P (T.setTop (mkF m pc' Ls (v :: S)))) : own_Fin p e below P (T.setTop (mkF m pc Ls (.int j :: .ref a :: S))) := by
 obtain ⟨cl, Ar, _, S1, _, H, _⟩ := V
 obtain ⟨hd, rfl⟩ := d
 exact own_go K fun t k => X.iaload q.1 (j := j) (v := v) (by rw [eT]; exact Ar.1) (State.isArrayOf_alike hZ.alike Ar.2.1) Ar.2.2 (inb_of S1 hj) (Has.at H (inb_of S1 hj) hv) (g := mkF m pc Ls (.int j :: .ref a :: S)) rfl rfl (hb q.2 hd) _ k
theorem own_ist {a : Addr} {k : ClassId} {n : Int32} {vs : List Value} {dv : Value} {j x : Int32} {n0 : Nat} (X : Stand p l e R s m args below meth c T locs cells slots) (q : own_q p c b) (hZ : Z.Warmed39 s.vm) (eT : T.heap = h) (V : Arv Z h a k .int n vs dv) (d : own_D b pc .iastore 1 pc') (hj : ¬ j < 0 ∧ j < n) (hi : j.toNatClampNeg < vs.length) (N : Fr n0 locs) (ga : n0 ≤ a)
  (K : ∀ (T' : State) (h' : Heap), Stand p l e R s m args below meth c T' (locs ++ [⟨a, j.toNatClampNeg⟩]) cells slots → T'.heap = h' → Wr h h' a j.toNatClampNeg (.int x) → Arv Z h' a k .int n (vs.set j.toNatClampNeg (.int x)) dv → Fr n0 (locs ++ [⟨a, j.toNatClampNeg⟩]) → own_Fin p e below P (T'.setTop (mkF m pc' Ls S))) : own_Fin p e below P (T.setTop (mkF m pc Ls (.int x :: .int j :: .ref a :: S))) := by
 obtain ⟨cl, Ar, q1, S1, M1, H1, G1⟩ := V
 obtain ⟨hd, rfl⟩ := d
 obtain ⟨T', h', X', e', W', st⟩ := stI X q.1 hZ eT Ar (j := j) (x := x) (inb_of S1 hj) (g := mkF m pc Ls (.int x :: .int j :: .ref a :: S)) rfl rfl (hb q.2 hd)
 exact own_go (K T' h' X' e' W' (Arv.set Ar q1 S1 M1 H1 G1 rfl W' _ rfl hi) (Fr.snoc X' N ga)) st
theorem own_i0 {a : Addr} {L : List Addr} {Q : Prop} : a ∈ a :: L ∨ Q := Or.inl (List.mem_cons_self ..)
theorem own_i1 {a a' : Addr} {L : List Addr} {Q : Prop} : a ∈ a' :: a :: L ∨ Q := Or.inl (List.mem_cons_of_mem _ (List.mem_cons_self ..))
theorem own_ne {a a' n : Nat} (h1 : a < n) (h2 : n ≤ a') : a ≠ a' := Nat.ne_of_lt (Nat.lt_of_lt_of_le h1 h2)
theorem own_alen {a : Addr} {k : ClassId} {ty : FieldType} {n : Int32} {vs : List Value} {dv : Value} (X : Stand p l e R s m args below meth c T locs cells slots) (q : own_q p c b) (hZ : Z.Warmed39 s.vm) (eT : T.heap = h) (V : Arv Z h a k ty n vs dv) (d : own_D b pc .arraylength 1 pc') (K : own_Fin p e below P (T.setTop (mkF m pc' Ls (.int n :: S)))) : own_Fin p e below P (T.setTop (mkF m pc Ls (.ref a :: S))) := by
 obtain ⟨cl, Ar, -, S1, M1, -, -⟩ := V
 obtain ⟨hd, rfl⟩ := d
 exact own_go K fun t k => X.arraylength q.1 (by rw [eT]; exact Ar.1) (State.isArrayOf_alike hZ.alike Ar.2.1) (g := mkF m pc Ls (.ref a :: S)) rfl rfl (hb q.2 hd) _ (by rw [len_of S1 M1]; exact k)
theorem own_gF {own O n d : String} {index : Nat} {a : Addr} {v : Value} (X : Stand p l e R s m args below meth c T locs cells slots) (q : own_q p c b) (hZ : Z.Warmed39 s.vm) (eT : T.heap = h) (hown : s.vm.findClass own = some m.cls) (w : (Jvm.Cond.fieldLink own index O n d).before a0 Z = true) (F : Fld Z h a O n d v) (dd : own_D b pc (.getfield index) 3 pc') (K : ∀ T' : State, Stand p l e R s m args below meth c T' locs cells slots → T'.heap = h → own_Fin p e below P (T'.setTop (mkF m pc' Ls (v :: S)))) : own_Fin p e below P (T.setTop (mkF m pc Ls (.ref a :: S))) := by
 obtain ⟨hd, rfl⟩ := dd
 obtain ⟨T', X', e', st⟩ := getF X q.1 hZ hown (host := "") (Or.inl w) Via.refl eT F (g := mkF m pc Ls (.ref a :: S)) rfl rfl (hb q.2 hd)
 exact own_go (K T' X' e') st
end OwnD
theorem own_extK {h0 h : Heap} (K : Keep h0 h []) : Ext h0 h := ⟨K.1, fun a c q => K.2.1 a c q nin0⟩
theorem own_c255 (x : Int32) : ¬ (255 : Int32) < ((x &&& (255 : Int32)).toUInt32.toUInt16.toUInt32.toInt32) := by
 rw [i2c_mask]
 have := c_and x 255 (by decide)
 rw [Int32.lt_iff_toInt_lt]
 have e : (255 : Int32).toInt = 255 := rfl
 omega
def own_cp (x : Int32) : Int32 := if x &&& 1 = 0 then ((x.toUInt32 >>> ((1 : Int32) &&& 31).toUInt32).toInt32) % 1114112 else ((x.toUInt32 >>> ((1 : Int32) &&& 31).toUInt32).toInt32) &&& 255
def own_min (a b : Int32) : Int32 := if b < a then b else a
def own_max (a b : Int32) : Int32 := if a < b then b else a
theorem own_minS (a : Int32) : own_min a a = a := by simp [own_min]
theorem own_maxS (a : Int32) : own_max a a = a := by simp [own_max]
theorem own_t0 : (0 : Int32).toInt = 0 := rfl
theorem own_t1 : (1 : Int32).toInt = 1 := rfl
theorem own_t127 : (127 : Int32).toInt = 127 := rfl
theorem own_t128 : (128 : Int32).toInt = 128 := rfl
theorem own_minI (a b : Int32) : ((own_min a b).toInt = a.toInt ∧ a.toInt ≤ b.toInt) ∨ ((own_min a b).toInt = b.toInt ∧ b.toInt ≤ a.toInt) := by
 unfold own_min
 by_cases h : b < a
 ·rw [if_pos h]; rw [Int32.lt_iff_toInt_lt] at h; exact Or.inr ⟨rfl, by omega⟩
 ·rw [if_neg h]; rw [Int32.lt_iff_toInt_lt] at h; exact Or.inl ⟨rfl, by omega⟩
theorem own_maxI (a b : Int32) : ((own_max a b).toInt = b.toInt ∧ a.toInt ≤ b.toInt) ∨ ((own_max a b).toInt = a.toInt ∧ b.toInt ≤ a.toInt) := by
 unfold own_max
 by_cases h : a < b
 ·rw [if_pos h]; rw [Int32.lt_iff_toInt_lt] at h; exact Or.inl ⟨rfl, by omega⟩
 ·rw [if_neg h]; rw [Int32.lt_iff_toInt_lt] at h; exact Or.inr ⟨rfl, by omega⟩
theorem own_cpI (x : Int32) : 0 ≤ (own_cp x).toInt ∧ (own_cp x).toInt ≤ 1114111 := by
 unfold own_cp
 have a1 := c_iushr x 1 1 (by decide) (by decide)
 have r := rng32 x
 by_cases h : x &&& 1 = 0
 ·rw [if_pos h]
  have a2 := c_irem ((x.toUInt32 >>> ((1 : Int32) &&& 31).toUInt32).toInt32) 1114112 1114112 rfl
  have e1 : ((2 ^ 1 : Nat) : Int) = 2 := rfl
  rw [e1] at a1
  omega
 ·rw [if_neg h]
  have a2 := c_and ((x.toUInt32 >>> ((1 : Int32) &&& 31).toUInt32).toInt32) 255 (by decide)
  have e1 : (255 : Int32).toInt = 255 := rfl
  omega
theorem own_add1 {x : Int32} (h0 : 0 ≤ x.toInt) (h1 : x.toInt ≤ 1114111) : (x + (1 : Int32)).toInt = x.toInt + 1 := by
 have a := c_iadd x 1
 have r := rng32 (x + 1)
 have e1 : (1 : Int32).toInt = 1 := rfl
 omega
/-- a pair of bounds as one long -/
def own_lg (a b : Int32) : Int64 := ((a.toInt64 <<< ((32 : Int32) &&& 0x3f).toInt64) ||| b.toInt64)
def own_ok (a b : Int32) : Prop := 0 ≤ a.toInt ∧ a.toInt ≤ b.toInt ∧ b.toInt ≤ 1114111
theorem own_lgI {a b : Int32} (h : own_ok a b) : (own_lg a b).toInt = a.toInt * 4294967296 + b.toInt := by
 obtain ⟨h0, h1, h2⟩ := h
 have a1 := c_lshl a.toInt64 32 32 (by decide)
 have e1 := c_i2l a
 have e2 := c_i2l b
 have e3 : ((2 ^ 32 : Nat) : Int) = 4294967296 := rfl
 rw [e3, e1] at a1
 have r1 := rng64 (a.toInt64 <<< ((32 : Int32) &&& 0x3f).toInt64)
 have a2 : (a.toInt64 <<< ((32 : Int32) &&& 0x3f).toInt64).toInt = a.toInt * 4294967296 := by omega
 have a3 := c_orL (a.toInt64 <<< ((32 : Int32) &&& 0x3f).toInt64) b.toInt64 32 (by decide) 4294967296 rfl (by omega) (by omega) (by omega)
 have r2 := rng64 (own_lg a b)
 unfold own_lg at *
 omega
theorem own_first {a b : Int32} (h : own_ok a b) : ((((own_lg a b).toUInt64 >>> ((32 : Int32) &&& 0x3f).toInt64.toUInt64).toInt64).toInt32) = a := by
 have q := own_lgI h
 obtain ⟨h0, h1, h2⟩ := h
 have a1 := c_lushr (own_lg a b) 32 32 (by decide) (by decide)
 have e3 : ((2 ^ 32 : Nat) : Int) = 4294967296 := rfl
 rw [e3] at a1
 have a2 := c_l2i (((own_lg a b).toUInt64 >>> ((32 : Int32) &&& 0x3f).toInt64.toUInt64).toInt64)
 have r := rng32 ((((own_lg a b).toUInt64 >>> ((32 : Int32) &&& 0x3f).toInt64.toUInt64).toInt64).toInt32)
 rw [← Int32.toInt_inj]
 omega
theorem own_last {a b : Int32} (h : own_ok a b) : ((own_lg a b).toInt32) = b := by
 have q := own_lgI h
 obtain ⟨h0, h1, h2⟩ := h
 have a2 := c_l2i (own_lg a b)
 have r := rng32 (own_lg a b).toInt32
 rw [← Int32.toInt_inj]
 omega
theorem own_lself (x : Int64) : ¬ lcmpW x x < (0 : Int32) := by rw [lw_lt]; exact Int64.lt_irrefl
theorem own_lasym {x y : Int64} (h : lcmpW x y < (0 : Int32)) : ¬ lcmpW y x < (0 : Int32) := by
 rw [lw_lt, Int64.lt_iff_toInt_lt] at *; omega
theorem own_gap {a b : Int32} (h : own_ok a b) : ¬ (b + (1 : Int32)) < a := by
 obtain ⟨h0, h1, h2⟩ := h
 rw [Int32.lt_iff_toInt_lt, own_add1 (by omega) h2]; omega
theorem own_gapM {a b d z : Int32} (h : own_ok a b) (hd : 0 ≤ d.toInt ∧ d.toInt ≤ 1114111) (hz : own_max d b = z) : ¬ (z + (1 : Int32)) < a := by
 obtain ⟨h0, h1, h2⟩ := h
 subst hz
 have := own_maxI d b
 rw [Int32.lt_iff_toInt_lt, own_add1 (by omega) (by omega)]; omega
theorem own_maxM {d b z : Int32} (hz : own_max d b = z) : own_max z b = z := by
 subst hz; rw [← Int32.toInt_inj]
 have a1 := own_maxI d b
 have a2 := own_maxI (own_max d b) b
 omega
/-- the bit of a code point below 128 in the two words -/
def own_tst (u v : Int64) (q : Int32) : Prop := ¬ ((if q.toInt < 64 then u else v) &&& ((1 : Int64) <<< (q &&& 0x3f).toInt64)) = 0
def own_in (a b q : Int32) : Prop := a.toInt ≤ q.toInt ∧ q.toInt ≤ b.toInt
def own_touch (a b d f : Int32) : Prop := a.toInt ≤ f.toInt + 1 ∧ d.toInt ≤ b.toInt + 1
def own_two (a b d f x y : Int32) (u v : Int64) : Prop := own_touch a b d f ∧ own_ok x y ∧ (∀ q : Int32, own_in x y q ↔ own_in a b q ∨ own_in d f q) ∧ ∀ q : Int32, 0 ≤ q.toInt → q.toInt < 128 → (own_tst u v q ↔ own_in x y q)
def own_four (a b d f x y z w : Int32) (u v : Int64) : Prop := ¬ own_touch a b d f ∧ own_ok x y ∧ own_ok z w ∧ y.toInt + 1 < z.toInt ∧ (∀ q : Int32, own_in x y q ∨ own_in z w q ↔ own_in a b q ∨ own_in d f q) ∧ ∀ q : Int32, 0 ≤ q.toInt → q.toInt < 128 → (own_tst u v q ↔ own_in x y q ∨ own_in z w q)
theorem own_pow : ∀ k : Fin 128, ((1 : Int64) <<< ((Int32.ofNat k.val) &&& 0x3f).toInt64).toBitVec = BitVec.twoPow 64 (k.val % 64) := by decide +kernel
theorem own_ofN {q : Int32} (h0 : 0 ≤ q.toInt) (h1 : q.toInt < 128) : q = Int32.ofNat q.toInt.toNat := by
 rw [← Int32.toInt_inj, Int32.toInt_ofNat_small (by omega)]; omega
theorem own_powq {q : Int32} (h0 : 0 ≤ q.toInt) (h1 : q.toInt < 128) : ((1 : Int64) <<< (q &&& 0x3f).toInt64).toBitVec = BitVec.twoPow 64 (q.toInt.toNat % 64) := by
 have e := own_pow ⟨q.toInt.toNat, by omega⟩
 have e2 := own_ofN h0 h1
 simp only [] at e
 rw [← e2] at e
 exact e
theorem own_bit {u : Int64} {q : Int32} (h0 : 0 ≤ q.toInt) (h1 : q.toInt < 128) : (u &&& ((1 : Int64) <<< (q &&& 0x3f).toInt64)) = 0 ↔ u.toBitVec.getLsbD (q.toInt.toNat % 64) = false := by
 rw [← Int64.toBitVec_inj, Int64.toBitVec_and, own_powq h0 h1, BitVec.and_twoPow]
 have e : (0 : Int64).toBitVec = 0#64 := rfl
 rw [e]
 by_cases hb : u.toBitVec.getLsbD (q.toInt.toNat % 64) = true
 ·rw [if_pos hb]
  constructor
  ·intro h
   have h2 := congrArg (fun x => BitVec.getLsbD x (q.toInt.toNat % 64)) h
   simp only [BitVec.getLsbD_twoPow, BitVec.getLsbD_zero] at h2
   have : q.toInt.toNat % 64 < 64 := Nat.mod_lt _ (by decide)
   generalize q.toInt.toNat % 64 = i at this h2
   simp at h2
   omega
  ·intro h; rw [hb] at h; cases h
 ·rw [if_neg hb]
  exact ⟨fun _ => by simpa using hb, fun _ => rfl⟩
theorem own_orb {u : Int64} {q j : Int32} (h0 : 0 ≤ q.toInt) (h1 : q.toInt < 128) (j0 : 0 ≤ j.toInt) (j1 : j.toInt < 128) : (¬ ((u ||| ((1 : Int64) <<< (j &&& 0x3f).toInt64)) &&& ((1 : Int64) <<< (q &&& 0x3f).toInt64)) = 0) ↔ (¬ (u &&& ((1 : Int64) <<< (q &&& 0x3f).toInt64)) = 0) ∨ j.toInt.toNat % 64 = q.toInt.toNat % 64 := by
 rw [own_bit h0 h1, own_bit h0 h1, Int64.toBitVec_or, own_powq j0 j1, BitVec.getLsbD_or, BitVec.getLsbD_twoPow]
 have : j.toInt.toNat % 64 < 64 := Nat.mod_lt _ (by decide)
 generalize q.toInt.toNat % 64 = i
 generalize j.toInt.toNat % 64 = k at this
 cases hb : u.toBitVec.getLsbD i <;> simp [this]
theorem own_tst0 {u v : Int64} {q j : Int32} (h0 : 0 ≤ q.toInt) (h1 : q.toInt < 128) (j0 : 0 ≤ j.toInt) (j1 : j.toInt < 64) : own_tst (u ||| ((1 : Int64) <<< (j &&& 0x3f).toInt64)) v q ↔ own_tst u v q ∨ j.toInt = q.toInt := by
 unfold own_tst
 by_cases hq : q.toInt < 64
 ·rw [if_pos hq, if_pos hq, own_orb h0 h1 j0 (by omega)]
  constructor
  ·rintro (a | a)
   ·exact Or.inl a
   ·exact Or.inr (by omega)
  ·rintro (a | a)
   ·exact Or.inl a
   ·exact Or.inr (by omega)
 ·rw [if_neg hq, if_neg hq]
  exact ⟨Or.inl, fun a => a.elim id (fun r => absurd r (by omega))⟩
theorem own_tst1 {u v : Int64} {q j : Int32} (h0 : 0 ≤ q.toInt) (h1 : q.toInt < 128) (j0 : ¬ j.toInt < 64) (j1 : j.toInt < 128) : own_tst u (v ||| ((1 : Int64) <<< (j &&& 0x3f).toInt64)) q ↔ own_tst u v q ∨ j.toInt = q.toInt := by
 unfold own_tst
 by_cases hq : q.toInt < 64
 ·rw [if_pos hq, if_pos hq]
  exact ⟨Or.inl, fun a => a.elim id (fun r => absurd r (by omega))⟩
 ·rw [if_neg hq, if_neg hq, own_orb h0 h1 (by omega) j1]
  constructor
  ·rintro (a | a)
   ·exact Or.inl a
   ·exact Or.inr (by omega)
  ·rintro (a | a)
   ·exact Or.inl a
   ·exact Or.inr (by omega)
def own_fil (w0 w1 u0 u1 : Int64) (j mx : Int32) : Prop := ∀ q : Int32, 0 ≤ q.toInt → q.toInt < 128 → (own_tst w0 w1 q ↔ own_tst u0 u1 q ∨ (j.toInt ≤ q.toInt ∧ q.toInt ≤ mx.toInt))
theorem own_fil_nil {u0 u1 : Int64} {j mx : Int32} (h : mx < j) : own_fil u0 u1 u0 u1 j mx := by
 intro q _ _
 rw [Int32.lt_iff_toInt_lt] at h
 exact ⟨Or.inl, fun a => a.elim id (fun r => absurd r (by omega))⟩
theorem own_j1 {j mx : Int32} (h0 : 0 ≤ j.toInt) (h1 : ¬ mx < j) (hm : mx.toInt ≤ 127) : (j + (1 : Int32)).toInt = j.toInt + 1 ∧ j.toInt ≤ mx.toInt := by
 rw [Int32.lt_iff_toInt_lt] at h1
 exact ⟨own_add1 h0 (by omega), by omega⟩
theorem own_fil0 {w0 w1 u0 u1 : Int64} {j mx : Int32} (h0 : 0 ≤ j.toInt) (h1 : ¬ mx < j) (hm : mx.toInt ≤ 127) (hj : j.toInt < 64) (hb : own_fil w0 w1 (u0 ||| ((1 : Int64) <<< (j &&& 0x3f).toInt64)) u1 (j + (1 : Int32)) mx) : own_fil w0 w1 u0 u1 j mx := by
 intro q q0 q1
 have e := own_j1 h0 h1 hm
 rw [hb q q0 q1, own_tst0 q0 q1 h0 hj]
 constructor
 ·rintro ((a | a) | a)
  ·exact Or.inl a
  ·exact Or.inr (by omega)
  ·exact Or.inr (by omega)
 ·rintro (a | a)
  ·exact Or.inl (Or.inl a)
  ·by_cases r : j.toInt = q.toInt
   ·exact Or.inl (Or.inr r)
   ·exact Or.inr (by omega)
theorem own_fil1 {w0 w1 u0 u1 : Int64} {j mx : Int32} (h0 : 0 ≤ j.toInt) (h1 : ¬ mx < j) (hm : mx.toInt ≤ 127) (hj : ¬ j.toInt < 64) (hb : own_fil w0 w1 u0 (u1 ||| ((1 : Int64) <<< (j &&& 0x3f).toInt64)) (j + (1 : Int32)) mx) : own_fil w0 w1 u0 u1 j mx := by
 intro q q0 q1
 have e := own_j1 h0 h1 hm
 rw [hb q q0 q1, own_tst1 q0 q1 hj (by omega)]
 constructor
 ·rintro ((a | a) | a)
  ·exact Or.inl a
  ·exact Or.inr (by omega)
  ·exact Or.inr (by omega)
 ·rintro (a | a)
  ·exact Or.inl (Or.inl a)
  ·by_cases r : j.toInt = q.toInt
   ·exact Or.inl (Or.inr r)
   ·exact Or.inr (by omega)
theorem own_mx {a mx : Int32} (h : own_min a 127 = mx) : mx.toInt ≤ 127 ∧ mx.toInt ≤ a.toInt ∧ (mx.toInt = a.toInt ∨ mx.toInt = 127) := by
 subst h
 have := own_minI a 127
 have e := own_t127
 omega
theorem own_ix0 {j : Int32} (h0 : 0 ≤ j.toInt) (h1 : j.toInt < 64) : ((j.toUInt32 >>> ((6 : Int32) &&& 31).toUInt32).toInt32) = (0 : Int32) := by
 have a := c_iushr j 6 6 (by decide) (by decide)
 have e1 : ((2 ^ 6 : Nat) : Int) = 64 := rfl
 rw [e1] at a
 rw [← Int32.toInt_inj, own_t0]; omega
theorem own_ix1 {j : Int32} (h0 : ¬ j.toInt < 64) (h1 : j.toInt < 128) : ((j.toUInt32 >>> ((6 : Int32) &&& 31).toUInt32).toInt32) = (1 : Int32) := by
 have a := c_iushr j 6 6 (by decide) (by decide)
 have e1 : ((2 ^ 6 : Nat) : Int) = 64 := rfl
 rw [e1] at a
 rw [← Int32.toInt_inj, own_t1]; omega
theorem own_tstz {q : Int32} : ¬ own_tst 0 0 q := by
 unfold own_tst
 intro h; apply h
 have : (if q.toInt < 64 then (0 : Int64) else 0) = 0 := by split <;> rfl
 rw [this, Int64.zero_and]
theorem own_firstz {a b : Int32} {z : Int64} (hz : own_lg a b = z) (h : own_ok a b) : (((z.toUInt64 >>> ((32 : Int32) &&& 0x3f).toInt64.toUInt64).toInt64).toInt32) = a := by subst hz; exact own_first h
theorem own_lastz {a b : Int32} {z : Int64} (hz : own_lg a b = z) (h : own_ok a b) : (z.toInt32) = b := by subst hz; exact own_last h
theorem own_lle {a b d f : Int32} {y z : Int64} (hy : own_lg a b = y) (hz : own_lg d f = z) (h1 : own_ok a b) (h2 : own_ok d f) (h : lcmpW y z < (0 : Int32)) : a.toInt ≤ d.toInt := by
 subst hy hz
 rw [lw_lt, Int64.lt_iff_toInt_lt, own_lgI h1, own_lgI h2] at h
 unfold own_ok at *; omega
theorem own_leq {a b d f : Int32} {y z : Int64} (hy : own_lg a b = y) (hz : own_lg d f = z) (h1 : own_ok a b) (h2 : own_ok d f) (h : ¬ lcmpW y z < (0 : Int32)) (h' : ¬ lcmpW z y < (0 : Int32)) : a = d ∧ b = f := by
 subst hy hz
 rw [lw_lt, Int64.lt_iff_toInt_lt, own_lgI h1, own_lgI h2] at h h'
 unfold own_ok at *
 constructor <;> (rw [← Int32.toInt_inj]; omega)
theorem own_gapI {b d : Int32} (h : 0 ≤ b.toInt ∧ b.toInt ≤ 1114111) : (b + (1 : Int32)) < d ↔ b.toInt + 1 < d.toInt := by
 rw [Int32.lt_iff_toInt_lt, own_add1 h.1 h.2]
theorem own_okR {a b : Int32} (h : own_ok a b) : 0 ≤ b.toInt ∧ b.toInt ≤ 1114111 := by unfold own_ok at h; omega
theorem own_okM {a b d f z : Int32} (h : own_ok a b) (h2 : own_ok d f) (hz : own_max b f = z) : own_ok a z := by
 subst hz; have := own_maxI b f; unfold own_ok at *; omega
theorem own_two1 {a b d f z : Int32} {u v : Int64} (h1 : own_ok a b) (h2 : own_ok d f) (hle : a.toInt ≤ d.toInt) (hc : ¬ (b + (1 : Int32)) < d) (hz : own_max b f = z) (bt : ∀ q : Int32, 0 ≤ q.toInt → q.toInt < 128 → (own_tst u v q ↔ own_in a z q)) : own_two a b d f a z u v := by
 rw [own_gapI (own_okR h1)] at hc
 have hm := own_maxI b f
 rw [hz] at hm
 refine ⟨?_, own_okM h1 h2 hz, fun q => ?_, bt⟩
 ·unfold own_touch own_ok at *; omega
 ·unfold own_in own_ok at *; omega
theorem own_two2 {a b d f z : Int32} {u v : Int64} (h1 : own_ok a b) (h2 : own_ok d f) (hle : d.toInt ≤ a.toInt) (hc : ¬ (f + (1 : Int32)) < a) (hz : own_max f b = z) (bt : ∀ q : Int32, 0 ≤ q.toInt → q.toInt < 128 → (own_tst u v q ↔ own_in d z q)) : own_two a b d f d z u v := by
 rw [own_gapI (own_okR h2)] at hc
 have hm := own_maxI f b
 rw [hz] at hm
 refine ⟨?_, own_okM h2 h1 hz, fun q => ?_, bt⟩
 ·unfold own_touch own_ok at *; omega
 ·unfold own_in own_ok at *; omega
theorem own_two3 {a b : Int32} {u v : Int64} (h1 : own_ok a b) (bt : ∀ q : Int32, 0 ≤ q.toInt → q.toInt < 128 → (own_tst u v q ↔ own_in a b q)) : own_two a b a b a b u v := by
 refine ⟨?_, h1, fun q => ?_, bt⟩
 ·unfold own_touch own_ok at *; omega
 ·exact ⟨Or.inl, fun r => r.elim id id⟩
theorem own_four1 {a b d f : Int32} {u v : Int64} (h1 : own_ok a b) (h2 : own_ok d f) (hc : (b + (1 : Int32)) < d) (bt : ∀ q : Int32, 0 ≤ q.toInt → q.toInt < 128 → (own_tst u v q ↔ own_in a b q ∨ own_in d f q)) : own_four a b d f a b d f u v := by
 rw [own_gapI (own_okR h1)] at hc
 refine ⟨?_, h1, h2, hc, fun q => Iff.rfl, bt⟩
 unfold own_touch own_ok at *; omega
theorem own_four2 {a b d f : Int32} {u v : Int64} (h1 : own_ok a b) (h2 : own_ok d f) (hc : (f + (1 : Int32)) < a) (bt : ∀ q : Int32, 0 ≤ q.toInt → q.toInt < 128 → (own_tst u v q ↔ own_in d f q ∨ own_in a b q)) : own_four a b d f d f a b u v := by
 rw [own_gapI (own_okR h2)] at hc
 refine ⟨?_, h2, h1, hc, fun q => Or.comm, bt⟩
 unfold own_touch own_ok at *; omega
theorem own_tc {a b d f mx mn : Int32} (hA : own_ok a b) (hB : own_ok d f) (h1 : own_max a d = mx) (h2 : own_min b f = mn) : (mn + (1 : Int32)) < mx ↔ ¬ own_touch a b d f := by
 have i1 := own_maxI a d
 have i2 := own_minI b f
 rw [h1] at i1
 rw [h2] at i2
 rw [own_gapI (by unfold own_ok at *; omega)]
 unfold own_touch own_ok at *; omega
theorem own_okA {x y u v a b : Int32} (hu : own_cp x = u) (hv : own_cp y = v) (ha : own_min u v = a) (hb : own_max u v = b) : own_ok a b := by
 have i1 := own_cpI x
 have i2 := own_cpI y
 rw [hu] at i1
 rw [hv] at i2
 have i3 := own_minI u v
 have i4 := own_maxI u v
 rw [ha] at i3
 rw [hb] at i4
 unfold own_ok; omega
theorem own_tstA {u v : Int64} {q : Int32} (h : q.toInt < 64) : own_tst u v q ↔ ¬ (u &&& ((1 : Int64) <<< (q &&& 0x3f).toInt64)) = 0 := by unfold own_tst; rw [if_pos h]
theorem own_tstB {u v : Int64} {q : Int32} (h : ¬ q.toInt < 64) : own_tst u v q ↔ ¬ (v &&& ((1 : Int64) <<< (q &&& 0x3f).toInt64)) = 0 := by unfold own_tst; rw [if_neg h]
def own_bs2 (x y q z : Int32) : Prop := (z = 0 ∧ x.toInt = q.toInt) ∨ (z = 1 ∧ y.toInt = q.toInt) ∨ (z = -1 ∧ q.toInt < x.toInt) ∨ (z = -2 ∧ x.toInt < q.toInt ∧ q.toInt < y.toInt) ∨ (z = -3 ∧ y.toInt < q.toInt)
def own_bs4 (x y t w q z : Int32) : Prop := (z = 0 ∧ x.toInt = q.toInt) ∨ (z = 1 ∧ y.toInt = q.toInt) ∨ (z = 2 ∧ t.toInt = q.toInt) ∨ (z = 3 ∧ w.toInt = q.toInt) ∨ (z = -1 ∧ q.toInt < x.toInt) ∨ (z = -2 ∧ x.toInt < q.toInt ∧ q.toInt < y.toInt) ∨ (z = -3 ∧ y.toInt < q.toInt ∧ q.toInt < t.toInt) ∨ (z = -4 ∧ t.toInt < q.toInt ∧ q.toInt < w.toInt) ∨ (z = -5 ∧ w.toInt < q.toInt)

abbrev own_y0 : MethodName := (⟨"com/example/austere_json/austerejson/BuilderAddPinLaw", "cp", "(I)I"⟩ : MethodName)
abbrev own_y1 : MethodName := (⟨"java/lang/Math", "min", "(II)I"⟩ : MethodName)
abbrev own_y2 : MethodName := (⟨"java/lang/Math", "max", "(II)I"⟩ : MethodName)
abbrev own_y3 : MethodName := (⟨"com/example/austere_json/austerejson/CodePointSet$Builder", "<init>", "()V"⟩ : MethodName)
abbrev own_y4 : MethodName := (⟨"java/util/Arrays", "copyOf", "([II)[I"⟩ : MethodName)
abbrev own_y5 : MethodName := (⟨"com/example/austere_json/austerejson/CodePointSet$Builder", "add", "(II)Lcom/example/austere_json/austerejson/CodePointSet$Builder;"⟩ : MethodName)
abbrev own_y6 : MethodName := (⟨"java/util/DualPivotQuicksort", "insertionSort", "([JII)V"⟩ : MethodName)
abbrev own_y7 : MethodName := (⟨"java/util/DualPivotQuicksort", "sort", "(Ljava/util/DualPivotQuicksort$Sorter;[JIII)V"⟩ : MethodName)
abbrev own_y8 : MethodName := (⟨"java/util/DualPivotQuicksort", "sort", "([JIII)V"⟩ : MethodName)
abbrev own_y9 : MethodName := (⟨"java/util/Arrays", "sort", "([J)V"⟩ : MethodName)
abbrev own_y10 : MethodName := (⟨"com/example/austere_json/austerejson/CodePointSet", "<init>", "([I)V"⟩ : MethodName)
abbrev own_y11 : MethodName := (⟨"java/util/Arrays", "binarySearch0", "([IIII)I"⟩ : MethodName)
abbrev own_y12 : MethodName := (⟨"java/util/Arrays", "binarySearch", "([II)I"⟩ : MethodName)
abbrev own_y13 : MethodName := (⟨"com/example/austere_json/austerejson/CodePointSet", "contains", "(I)Z"⟩ : MethodName)
abbrev own_y14 : MethodName := (⟨"com/example/austere_json/austerejson/CodePointSet", "rangeCount", "()I"⟩ : MethodName)
abbrev own_y15 : MethodName := (⟨"com/example/austere_json/austerejson/CodePointSet$Builder", "build", "()Lcom/example/austere_json/austerejson/CodePointSet;"⟩ : MethodName)
def QI (z : Int32) (h0 : Heap) (n0 : Nat) (v : Option Value) (h : Heap) (L : List Loc) : Prop := v = some (.int z) ∧ Fr n0 L ∧ h = h0
def QBI (Z : State) (a1 : Addr) (h0 : Heap) (n0 : Nat) (v : Option Value) (h : Heap) (L : List Loc) : Prop := ∃ (b : Addr) (k : ClassId), v = none ∧ Fr n0 L ∧ Keep h0 h [a1] ∧ h0.size ≤ b ∧ F'0 Z h a1 (.ref b) ∧ F'1 Z h a1 v'0 ∧ Arv Z h b k .int (16 : Int32) [v'0, v'0, v'0, v'0, v'0, v'0, v'0, v'0, v'0, v'0, v'0, v'0, v'0, v'0, v'0, v'0] v'0
def QCOa (Z : State) (x0 x1 x2 x3 : Int32) (h0 : Heap) (n0 : Nat) (v : Option Value) (h : Heap) (L : List Loc) : Prop := ∃ (b : Addr) (k : ClassId), v = some (.ref b) ∧ Fr n0 L ∧ Ext h0 h ∧ h0.size ≤ b ∧ Arv Z h b k .int (32 : Int32) [(.int x0), (.int x1), (.int x2), (.int x3), (.int x0), (.int x1), (.int x2), (.int x3), (.int x0), (.int x1), (.int x2), (.int x3), (.int x0), (.int x1), (.int x2), (.int x3), v'0, v'0, v'0, v'0, v'0, v'0, v'0, v'0, v'0, v'0, v'0, v'0, v'0, v'0, v'0, v'0] v'0
def QCOb (Z : State) (x0 x1 : Int32) (h0 : Heap) (n0 : Nat) (v : Option Value) (h : Heap) (L : List Loc) : Prop := ∃ (b : Addr) (k : ClassId), v = some (.ref b) ∧ Fr n0 L ∧ Ext h0 h ∧ h0.size ≤ b ∧ Arv Z h b k .int (2 : Int32) [(.int x0), (.int x1)] v'0
def QCOd (Z : State) (x0 x1 x2 x3 : Int32) (h0 : Heap) (n0 : Nat) (v : Option Value) (h : Heap) (L : List Loc) : Prop := ∃ (b : Addr) (k : ClassId), v = some (.ref b) ∧ Fr n0 L ∧ Ext h0 h ∧ h0.size ≤ b ∧ Arv Z h b k .int (4 : Int32) [(.int x0), (.int x1), (.int x2), (.int x3)] v'0
def QAD0 (Z : State) (a1 b : Addr) (k0 : ClassId) (x0 x1 x2 x3 : Int32) (h0 : Heap) (n0 : Nat) (v : Option Value) (h : Heap) (L : List Loc) : Prop := v = some (.ref a1) ∧ Fr n0 L ∧ Keep h0 h [a1, b] ∧ F'0 Z h a1 (.ref b) ∧ F'1 Z h a1 v'2 ∧ Arv Z h b k0 .int (16 : Int32) [(.int x0), (.int x1), v'0, v'0, v'0, v'0, v'0, v'0, v'0, v'0, v'0, v'0, v'0, v'0, v'0, v'0] v'0
def QAD1 (Z : State) (a1 b : Addr) (k0 : ClassId) (x0 x1 x2 x3 : Int32) (h0 : Heap) (n0 : Nat) (v : Option Value) (h : Heap) (L : List Loc) : Prop := v = some (.ref a1) ∧ Fr n0 L ∧ Keep h0 h [a1, b] ∧ F'0 Z h a1 (.ref b) ∧ F'1 Z h a1 v'4 ∧ Arv Z h b k0 .int (16 : Int32) [(.int x0), (.int x1), (.int x2), (.int x3), v'0, v'0, v'0, v'0, v'0, v'0, v'0, v'0, v'0, v'0, v'0, v'0] v'0
def QAD2 (Z : State) (a1 b : Addr) (k0 : ClassId) (x0 x1 x2 x3 : Int32) (h0 : Heap) (n0 : Nat) (v : Option Value) (h : Heap) (L : List Loc) : Prop := v = some (.ref a1) ∧ Fr n0 L ∧ Keep h0 h [a1, b] ∧ F'0 Z h a1 (.ref b) ∧ F'1 Z h a1 v'6 ∧ Arv Z h b k0 .int (16 : Int32) [(.int x0), (.int x1), (.int x2), (.int x3), (.int x0), (.int x1), v'0, v'0, v'0, v'0, v'0, v'0, v'0, v'0, v'0, v'0] v'0
def QAD3 (Z : State) (a1 b : Addr) (k0 : ClassId) (x0 x1 x2 x3 : Int32) (h0 : Heap) (n0 : Nat) (v : Option Value) (h : Heap) (L : List Loc) : Prop := v = some (.ref a1) ∧ Fr n0 L ∧ Keep h0 h [a1, b] ∧ F'0 Z h a1 (.ref b) ∧ F'1 Z h a1 v'8 ∧ Arv Z h b k0 .int (16 : Int32) [(.int x0), (.int x1), (.int x2), (.int x3), (.int x0), (.int x1), (.int x2), (.int x3), v'0, v'0, v'0, v'0, v'0, v'0, v'0, v'0] v'0
def QAD4 (Z : State) (a1 b : Addr) (k0 : ClassId) (x0 x1 x2 x3 : Int32) (h0 : Heap) (n0 : Nat) (v : Option Value) (h : Heap) (L : List Loc) : Prop := v = some (.ref a1) ∧ Fr n0 L ∧ Keep h0 h [a1, b] ∧ F'0 Z h a1 (.ref b) ∧ F'1 Z h a1 (.int (10 : Int32)) ∧ Arv Z h b k0 .int (16 : Int32) [(.int x0), (.int x1), (.int x2), (.int x3), (.int x0), (.int x1), (.int x2), (.int x3), (.int x0), (.int x1), v'0, v'0, v'0, v'0, v'0, v'0] v'0
def QAD5 (Z : State) (a1 b : Addr) (k0 : ClassId) (x0 x1 x2 x3 : Int32) (h0 : Heap) (n0 : Nat) (v : Option Value) (h : Heap) (L : List Loc) : Prop := v = some (.ref a1) ∧ Fr n0 L ∧ Keep h0 h [a1, b] ∧ F'0 Z h a1 (.ref b) ∧ F'1 Z h a1 (.int (12 : Int32)) ∧ Arv Z h b k0 .int (16 : Int32) [(.int x0), (.int x1), (.int x2), (.int x3), (.int x0), (.int x1), (.int x2), (.int x3), (.int x0), (.int x1), (.int x2), (.int x3), v'0, v'0, v'0, v'0] v'0
def QAD6 (Z : State) (a1 b : Addr) (k0 : ClassId) (x0 x1 x2 x3 : Int32) (h0 : Heap) (n0 : Nat) (v : Option Value) (h : Heap) (L : List Loc) : Prop := v = some (.ref a1) ∧ Fr n0 L ∧ Keep h0 h [a1, b] ∧ F'0 Z h a1 (.ref b) ∧ F'1 Z h a1 (.int (14 : Int32)) ∧ Arv Z h b k0 .int (16 : Int32) [(.int x0), (.int x1), (.int x2), (.int x3), (.int x0), (.int x1), (.int x2), (.int x3), (.int x0), (.int x1), (.int x2), (.int x3), (.int x0), (.int x1), v'0, v'0] v'0
def QAD7 (Z : State) (a1 b : Addr) (k0 : ClassId) (x0 x1 x2 x3 : Int32) (h0 : Heap) (n0 : Nat) (v : Option Value) (h : Heap) (L : List Loc) : Prop := v = some (.ref a1) ∧ Fr n0 L ∧ Keep h0 h [a1, b] ∧ F'0 Z h a1 (.ref b) ∧ F'1 Z h a1 (.int (16 : Int32)) ∧ Arv Z h b k0 .int (16 : Int32) [(.int x0), (.int x1), (.int x2), (.int x3), (.int x0), (.int x1), (.int x2), (.int x3), (.int x0), (.int x1), (.int x2), (.int x3), (.int x0), (.int x1), (.int x2), (.int x3)] v'0
def QAD8 (Z : State) (a1 b : Addr) (k0 : ClassId) (x0 x1 x2 x3 : Int32) (h0 : Heap) (n0 : Nat) (v : Option Value) (h : Heap) (L : List Loc) : Prop := ∃ (b' : Addr) (k' : ClassId), v = some (.ref a1) ∧ Fr n0 L ∧ Keep h0 h [a1] ∧ h0.size ≤ b' ∧ F'0 Z h a1 (.ref b') ∧ F'1 Z h a1 (.int (18 : Int32)) ∧ Arv Z h b' k' .int (32 : Int32) [(.int x0), (.int x1), (.int x2), (.int x3), (.int x0), (.int x1), (.int x2), (.int x3), (.int x0), (.int x1), (.int x2), (.int x3), (.int x0), (.int x1), (.int x2), (.int x3), (.int x0), (.int x1), v'0, v'0, v'0, v'0, v'0, v'0, v'0, v'0, v'0, v'0, v'0, v'0, v'0, v'0] v'0
def QS1 (Z : State) (a1 : Addr) (k0 : ClassId) (al be : Int64) (h0 : Heap) (n0 : Nat) (v : Option Value) (h : Heap) (L : List Loc) : Prop := v = none ∧ Fr n0 L ∧ Keep h0 h [a1] ∧ Arv Z h a1 k0 .long (9 : Int32) [(.long al), (.long al), (.long al), (.long al), (.long al), (.long be), (.long be), (.long be), (.long be)] (.long (0 : Int64))
def QS2 (Z : State) (a1 : Addr) (k0 : ClassId) (al be : Int64) (h0 : Heap) (n0 : Nat) (v : Option Value) (h : Heap) (L : List Loc) : Prop := v = none ∧ Fr n0 L ∧ Keep h0 h [a1] ∧ Arv Z h a1 k0 .long (9 : Int32) [(.long be), (.long be), (.long be), (.long be), (.long al), (.long al), (.long al), (.long al), (.long al)] (.long (0 : Int64))
def QS3 (Z : State) (a1 : Addr) (k0 : ClassId) (al be : Int64) (h0 : Heap) (n0 : Nat) (v : Option Value) (h : Heap) (L : List Loc) : Prop := v = none ∧ Fr n0 L ∧ Keep h0 h [a1] ∧ Arv Z h a1 k0 .long (9 : Int32) [(.long al), (.long be), (.long al), (.long be), (.long al), (.long be), (.long al), (.long be), (.long al)] (.long (0 : Int64))
def QX2 (Z : State) (a1 a2 : Addr) (x0 x1 : Int32) (h0 : Heap) (n0 : Nat) (v : Option Value) (h : Heap) (L : List Loc) : Prop := ∃ (b : Addr) (k : ClassId) (w0 w1 : Int64), v = none ∧ Fr n0 L ∧ Keep h0 h [a1] ∧ h0.size ≤ b ∧ F'3 Z h a1 (.ref a2) ∧ F'2 Z h a1 (.ref b) ∧ Arv Z h b k .long (2 : Int32) [(.long w0), (.long w1)] (.long (0 : Int64)) ∧ ∀ q : Int32, 0 ≤ q.toInt → q.toInt < 128 → (own_tst w0 w1 q ↔ own_in x0 x1 q)
def QX4 (Z : State) (a1 a2 : Addr) (x0 x1 x2 x3 : Int32) (h0 : Heap) (n0 : Nat) (v : Option Value) (h : Heap) (L : List Loc) : Prop := ∃ (b : Addr) (k : ClassId) (w0 w1 : Int64), v = none ∧ Fr n0 L ∧ Keep h0 h [a1] ∧ h0.size ≤ b ∧ F'3 Z h a1 (.ref a2) ∧ F'2 Z h a1 (.ref b) ∧ Arv Z h b k .long (2 : Int32) [(.long w0), (.long w1)] (.long (0 : Int64)) ∧ ∀ q : Int32, 0 ≤ q.toInt → q.toInt < 128 → (own_tst w0 w1 q ↔ own_in x0 x1 q ∨ own_in x2 x3 q)
def QBS2 (x0 x1 q : Int32) (h0 : Heap) (n0 : Nat) (v : Option Value) (h : Heap) (L : List Loc) : Prop := ∃ z : Int32, v = some (.int z) ∧ Fr n0 L ∧ h = h0 ∧ own_bs2 x0 x1 q z
def QBS4 (x0 x1 x2 x3 q : Int32) (h0 : Heap) (n0 : Nat) (v : Option Value) (h : Heap) (L : List Loc) : Prop := ∃ z : Int32, v = some (.int z) ∧ Fr n0 L ∧ h = h0 ∧ own_bs4 x0 x1 x2 x3 q z
def QM (M : Prop) (h0 : Heap) (n0 : Nat) (v : Option Value) (h : Heap) (L : List Loc) : Prop := ∃ z : Int32, v = some (.int z) ∧ Fr n0 L ∧ h = h0 ∧ ((z = 1 ∧ M) ∨ (z = 0 ∧ ¬ M))
def QBD (Z : State) (x0 x1 x2 x3 : Int32) (h0 : Heap) (n0 : Nat) (v : Option Value) (h : Heap) (L : List Loc) : Prop := ∃ (x r b : Addr) (k1 k2 : ClassId) (u0 u1 : Int64), v = some (.ref x) ∧ Fr n0 L ∧ Ext h0 h ∧ Exa Z h x "com/example/austere_json/austerejson/CodePointSet" ∧ F'3 Z h x (.ref r) ∧ F'2 Z h x (.ref b) ∧ Arv Z h b k2 .long (2 : Int32) [(.long u0), (.long u1)] (.long (0 : Int64)) ∧ ((∃ r0 r1 : Int32, Arv Z h r k1 .int (2 : Int32) [(.int r0), (.int r1)] v'0 ∧ own_two x0 x1 x2 x3 r0 r1 u0 u1) ∨ (∃ r0 r1 r2 r3 : Int32, Arv Z h r k1 .int (4 : Int32) [(.int r0), (.int r1), (.int r2), (.int r3)] v'0 ∧ own_four x0 x1 x2 x3 r0 r1 r2 r3 u0 u1))
def Q0 (n0 : Nat) (v : Option Value) (h : Heap) (L : List Loc) : Prop := v = some (.int 1) ∧ Fr n0 L
theorem own_pd0 : parseMethodDescriptor "(II)I" = some ⟨[.int, .int], some .int⟩ := by decide +kernel
theorem own_pd1 : parseMethodDescriptor "([II)[I" = some ⟨[(.array .int), .int], some (.array .int)⟩ := by decide +kernel
theorem own_pd2 : parseMethodDescriptor "([JII)V" = some ⟨[(.array .long), .int, .int], none⟩ := by decide +kernel
theorem own_pd3 : parseMethodDescriptor "(Ljava/util/DualPivotQuicksort$Sorter;[JIII)V" = some ⟨[(.object "java/util/DualPivotQuicksort$Sorter"), (.array .long), .int, .int, .int], none⟩ := by decide +kernel
theorem own_pd4 : parseMethodDescriptor "([JIII)V" = some ⟨[(.array .long), .int, .int, .int], none⟩ := by decide +kernel
theorem own_pd5 : parseMethodDescriptor "([IIII)I" = some ⟨[(.array .int), .int, .int, .int], some .int⟩ := by decide +kernel
theorem own_pd6 : parseMethodDescriptor "([II)I" = some ⟨[(.array .int), .int], some .int⟩ := by decide +kernel
theorem own_pd7 : parseMethodDescriptor "([J)V" = some ⟨[(.array .long)], none⟩ := by decide +kernel
theorem own_pd8 : parseMethodDescriptor "([I)V" = some ⟨[(.array .int)], none⟩ := by decide +kernel
theorem own_pd9 : parseMethodDescriptor "(I)I" = some ⟨[.int], some .int⟩ := by decide +kernel
theorem own_pd10 : parseMethodDescriptor "()V" = some ⟨[], none⟩ := by decide +kernel
theorem own_pd11 : parseMethodDescriptor "(II)Lcom/example/austere_json/austerejson/CodePointSet$Builder;" = some ⟨[.int, .int], some (.object "com/example/austere_json/austerejson/CodePointSet$Builder")⟩ := by decide +kernel
theorem own_pd12 : parseMethodDescriptor "()Lcom/example/austere_json/austerejson/CodePointSet;" = some ⟨[], some (.object "com/example/austere_json/austerejson/CodePointSet")⟩ := by decide +kernel
theorem own_pd13 : parseMethodDescriptor "(I)Z" = some ⟨[.int], some .boolean⟩ := by decide +kernel
theorem own_pd14 : parseMethodDescriptor "()I" = some ⟨[], some .int⟩ := by decide +kernel
theorem d1_0 : own_D b'1 0 (.iload_n 0) 1 1 := by decide +kernel
theorem d1_1 : own_DK b'1 1 1 2 := by decide +kernel
theorem d1_2 : own_D b'1 2 .iand 1 3 := by decide +kernel
theorem d1_3 : own_DZ b'1 3 .eq 16 6 := by decide +kernel
theorem d1_6 : own_D b'1 6 (.iload_n 0) 1 7 := by decide +kernel
theorem d1_7 : own_DK b'1 7 1 8 := by decide +kernel
theorem d1_8 : own_D b'1 8 .iushr 1 9 := by decide +kernel
theorem d1_9 : own_DK b'1 9 255 12 := by decide +kernel
theorem d1_12 : own_D b'1 12 .iand 1 13 := by decide +kernel
theorem d1_13 : own_DG b'1 13 22 := by decide +kernel
theorem d1_16 : own_D b'1 16 (.iload_n 0) 1 17 := by decide +kernel
theorem d1_17 : own_DK b'1 17 1 18 := by decide +kernel
theorem d1_18 : own_D b'1 18 .iushr 1 19 := by decide +kernel
theorem d1_19 : own_D b'1 19 (.ldc 7) 2 21 := by decide +kernel
theorem d1_21 : own_D b'1 21 .irem 1 22 := by decide +kernel
theorem d1_22 : own_D b'1 22 .ireturn 1 23 := by decide +kernel
theorem pn_1 : plainFor (⟨"com/example/austere_json/austerejson/BuilderAddPinLaw", "cp", "(I)I"⟩ : MethodName) = true := plainFor_of_name (by first | (simp [plainName, overriddenIn]; done) | decide +kernel)
theorem rm1 (l : Launch) (Z : State) (a0 : Array Value) (hw : own_hw a0 Z) (p1 : Int32) (z : Int32) (h0 : Heap) (n0 : Nat) (Z0 : n0 ≤ h0.size) (hz : own_cp p1 = z) :
  own_M l Z [] own_y0 b'1 1 (some .int) ⟨0, 0, 0, 0⟩ #[(.int p1)] h0 (QI z h0 n0) := by
 refine own_start (n0 := n0) hw "com/example/austere_json/austerejson/BuilderAddPinLaw" (L := #[.val (.int p1)]) pn_1 (fun {p e s m below meth c s₁} q hx W hml hZ hown hnm hlk hrt X0 e0 N0 => ?_)
 refine own_iln X0 q d1_0 rfl (own_k X0 q d1_1 (own_stp 3 (fun _ k => XS.iand X0.here hx rfl (q.d d1_2) rfl k) ?_))
 by_cases hc3_2 : (p1 &&& (1 : Int32)) = (0 : Int32)
 ·refine own_zy X0 q d1_3 (((if0 _ _).trans (teq hc3_2).1)) (own_iln X0 q d1_16 rfl (own_k X0 q d1_17 (own_stp 19 (fun _ k => XS.iushr X0.here hx rfl (q.d d1_18) rfl k) (own_stq 21 [(.int (1114112 : Int32)), (.int ((p1.toUInt32 >>> ((1 : Int32) &&& 31).toUInt32).toInt32))] (fun _ k => X0.ldcInt hx hown (mvT hZ (W 4 rfl)) (g := mkF m 19 _ _) rfl (q.d d1_19) _ k) (own_stp 22 (fun _ k => iremM X0 hx rfl (q.d d1_21) rfl (by decide) k) ?_)))))
  refine own_rI X0 q hrt d1_22 hlk (by decide) ?_
  show QI z h0 n0 _ s₁.heap _
  rw [e0]
  exact ⟨by rw [← hz]; simp [own_cp, hc3_2]; try rfl, N0, rfl⟩
 ·refine own_zn X0 q d1_3 (((if0 _ _).trans (feq hc3_2).1)) (own_iln X0 q d1_6 rfl (own_k X0 q d1_7 (own_stp 9 (fun _ k => XS.iushr X0.here hx rfl (q.d d1_8) rfl k) (own_k X0 q d1_9 (own_stp 13 (fun _ k => XS.iand X0.here hx rfl (q.d d1_12) rfl k) (own_gt X0 q d1_13 ?_))))))
  refine own_rI X0 q hrt d1_22 hlk (by decide) ?_
  show QI z h0 n0 _ s₁.heap _
  rw [e0]
  exact ⟨by rw [← hz]; simp [own_cp, hc3_2]; try rfl, N0, rfl⟩
theorem d2_0 : own_D b'2 0 (.iload_n 0) 1 1 := by decide +kernel
theorem d2_1 : own_D b'2 1 (.iload_n 1) 1 2 := by decide +kernel
theorem d2_2 : own_DJ b'2 2 .gt 9 5 := by decide +kernel
theorem d2_5 : own_D b'2 5 (.iload_n 0) 1 6 := by decide +kernel
theorem d2_6 : own_DG b'2 6 10 := by decide +kernel
theorem d2_9 : own_D b'2 9 (.iload_n 1) 1 10 := by decide +kernel
theorem d2_10 : own_D b'2 10 .ireturn 1 11 := by decide +kernel
theorem pn_2 : plainFor (⟨"java/lang/Math", "min", "(II)I"⟩ : MethodName) = true := Jvm.Free.JP.mathPlain rfl (by decide +kernel)
theorem rm2 (l : Launch) (Z : State) (a0 : Array Value) (hw : own_hw a0 Z) (p1 : Int32) (p2 : Int32) (z : Int32) (h0 : Heap) (n0 : Nat) (Z0 : n0 ≤ h0.size) (hz : own_min p1 p2 = z) :
  own_M l Z [] own_y1 b'2 2 (some .int) ⟨0, 0, 0, 0⟩ #[(.int p1), (.int p2)] h0 (QI z h0 n0) := by
 refine own_start (n0 := n0) hw "java/lang/Math" (L := #[.val (.int p1), .val (.int p2)]) pn_2 (fun {p e s m below meth c s₁} q hx W hml hZ hown hnm hlk hrt X0 e0 N0 => ?_)
 refine own_iln X0 q d2_0 rfl (own_iln X0 q d2_1 rfl ?_)
 by_cases hc2_4 : p2 < p1
 ·refine own_cy X0 q d2_2 ((tlt hc2_4).2.2.1) (own_iln X0 q d2_9 rfl ?_)
  refine own_rI X0 q hrt d2_10 hlk (by decide) ?_
  show QI z h0 n0 _ s₁.heap _
  rw [e0]
  exact ⟨by rw [← hz]; simp only [own_min]; rw [if_pos hc2_4], N0, rfl⟩
 ·refine own_cn X0 q d2_2 ((flt hc2_4).2.2.1) (own_iln X0 q d2_5 rfl (own_gt X0 q d2_6 ?_))
  refine own_rI X0 q hrt d2_10 hlk (by decide) ?_
  show QI z h0 n0 _ s₁.heap _
  rw [e0]
  exact ⟨by rw [← hz]; simp only [own_min]; rw [if_neg hc2_4], N0, rfl⟩
theorem d3_0 : own_D b'3 0 (.iload_n 0) 1 1 := by decide +kernel
theorem d3_1 : own_D b'3 1 (.iload_n 1) 1 2 := by decide +kernel
theorem d3_2 : own_DJ b'3 2 .lt 9 5 := by decide +kernel
theorem d3_5 : own_D b'3 5 (.iload_n 0) 1 6 := by decide +kernel
theorem d3_6 : own_DG b'3 6 10 := by decide +kernel
theorem d3_9 : own_D b'3 9 (.iload_n 1) 1 10 := by decide +kernel
theorem d3_10 : own_D b'3 10 .ireturn 1 11 := by decide +kernel
theorem pn_3 : plainFor (⟨"java/lang/Math", "max", "(II)I"⟩ : MethodName) = true := Jvm.Free.JP.mathPlain rfl (by decide +kernel)
theorem rm3 (l : Launch) (Z : State) (a0 : Array Value) (hw : own_hw a0 Z) (p1 : Int32) (p2 : Int32) (z : Int32) (h0 : Heap) (n0 : Nat) (Z0 : n0 ≤ h0.size) (hz : own_max p1 p2 = z) :
  own_M l Z [] own_y2 b'3 2 (some .int) ⟨0, 0, 0, 0⟩ #[(.int p1), (.int p2)] h0 (QI z h0 n0) := by
 refine own_start (n0 := n0) hw "java/lang/Math" (L := #[.val (.int p1), .val (.int p2)]) pn_3 (fun {p e s m below meth c s₁} q hx W hml hZ hown hnm hlk hrt X0 e0 N0 => ?_)
 refine own_iln X0 q d3_0 rfl (own_iln X0 q d3_1 rfl ?_)
 by_cases hc2_6 : p1 < p2
 ·refine own_cy X0 q d3_2 ((tlt hc2_6).1) (own_iln X0 q d3_9 rfl ?_)
  refine own_rI X0 q hrt d3_10 hlk (by decide) ?_
  show QI z h0 n0 _ s₁.heap _
  rw [e0]
  exact ⟨by rw [← hz]; simp only [own_max]; rw [if_pos hc2_6], N0, rfl⟩
 ·refine own_cn X0 q d3_2 ((flt hc2_6).1) (own_iln X0 q d3_5 rfl (own_gt X0 q d3_6 ?_))
  refine own_rI X0 q hrt d3_10 hlk (by decide) ?_
  show QI z h0 n0 _ s₁.heap _
  rw [e0]
  exact ⟨by rw [← hz]; simp only [own_max]; rw [if_neg hc2_6], N0, rfl⟩
theorem d4_0 : own_D b'4 0 (.aload_n 0) 1 1 := by decide +kernel
theorem d4_1 : own_D b'4 1 (.invokespecial 1) 3 4 := by decide +kernel
theorem d4_4 : own_D b'4 4 (.aload_n 0) 1 5 := by decide +kernel
theorem d4_5 : own_DK b'4 5 16 7 := by decide +kernel
theorem d4_7 : own_D b'4 7 (.newarray .int) 2 9 := by decide +kernel
theorem d4_9 : own_D b'4 9 (.putfield 7) 3 12 := by decide +kernel
theorem d4_12 : own_D b'4 12 .return_ 1 13 := by decide +kernel
theorem pn_4 : plainFor (⟨"com/example/austere_json/austerejson/CodePointSet$Builder", "<init>", "()V"⟩ : MethodName) = true := plainFor_of_name (by first | (simp [plainName, overriddenIn]; done) | decide +kernel)
theorem rm4 (l : Launch) (Z : State) (a0 : Array Value) (hw : own_hw a0 Z) (a1 : Addr)  (h0 : Heap) (n0 : Nat) (Z0 : n0 ≤ h0.size) (E1 : Exa Z h0 a1 "com/example/austere_json/austerejson/CodePointSet$Builder") (FR : F'0 Z h0 a1 .null) (FS : F'1 Z h0 a1 v'0) (g1 : n0 ≤ a1) :
  own_M l Z [] own_y3 b'4 1 none ⟨1, 1, 16, 12⟩ #[(.ref a1)] h0 (QBI Z a1 h0 n0) := by
 refine own_start (n0 := n0) hw "com/example/austere_json/austerejson/CodePointSet$Builder" (L := #[.val (.ref a1)]) pn_4 (fun {p e s m below meth c s₁} q hx W hml hZ hown hnm hlk hrt X0 e0 N0 => ?_)
 have kp0 := Keep.refl h0 [a1]
 refine own_aln X0 q d4_0 rfl rfl ?_
 refine own_let ?_; intro g15_
 obtain ⟨T16, X16, e16, st16⟩ := initO X0 hx hZ hown (W 18 rfl) (W 19 rfl) (W 20 rfl) e0 (g := g15_) rfl (by rw [hml]; rfl) rfl (q.d d4_1) (by decide) (W := 0) (by show 2 * 0 + _ ≤ _; exact Nat.le_of_eq rfl) (by decide)
 refine own_stp 4 st16 (own_aln X16 q d4_4 rfl rfl (own_k X16 q d4_5 ?_))
 refine own_let ?_; intro g17_
 obtain ⟨T18, h18, k18, X18, e18, E18, A18, st18⟩ := newP X16 hx hZ (W 21 rfl) e16 (g := g17_) rfl (q.d d4_7) rfl (by decide) (cap := 16) (by decide) (by decide) (by decide) (by decide)
 obtain ⟨b18, g18⟩ : ∃ z, z = h0.size := ⟨_, rfl⟩
 rw [← g18] at A18 st18
 have V18 : Arv Z h18 b18 k18 .int (16 : Int32) [v'0, v'0, v'0, v'0, v'0, v'0, v'0, v'0, v'0, v'0, v'0, v'0, v'0, v'0, v'0, v'0] v'0 := (Arv.new A18 (by decide)).pad (pad_rep [] v'0 16)
 have zs19 := Nat.le_trans Z0 E18.1
 have kp19 := kp0.ext E18
 have g_b18 : n0 ≤ b18 := Nat.le_trans Z0 (Nat.le_of_eq g18.symm)
 have sz_b18 : h0.size ≤ b18 := Nat.le_trans kp0.1 (Nat.le_of_eq g18.symm)
 refine own_stp 9 st18 ?_
 refine own_let ?_; intro g20_
 obtain ⟨T21, h21, X21, e21, W21, st21⟩ := putF X18 hx hZ hown (host := "") (Or.inl (W 22 rfl)) Via.refl e18 (FR.ext E18) (E1.ext E18) (Or.inl (W 23 rfl)) (W 13 rfl) (ty := (.array .int)) (by decide) rfl rfl (g := g20_) rfl rfl (q.d d4_9)
 have zs22 := Nat.le_trans zs19 (Keep.of_wr W21).1
 have kp22 := kp19.wr W21 (own_i0)
 have Fw21 := ((FR.ext E18)).same W21
 have N21 := Fr.snoc X21 N0 g1
 refine own_stp 12 st21 ?_
 refine own_rV X21 q hrt d4_12 hlk (by decide) ?_
 show QBI Z a1 h0 n0 _ T21.heap _
 rw [e21]
 exact ⟨_, _, rfl, N21, kp22, sz_b18, Fw21, ((FS.ext E18).other W21 (Or.inr (slot_ne (Or.inl (W 30 rfl)) (Or.inl (W 23 rfl)) (by decide) (t := .int) (t' := (.array .int)) (by decide) (by decide)))), (V18.other W21 (Ne.symm (own_ne (E1).lt (Nat.le_of_eq g18.symm))))⟩
theorem d7_0 : own_D b'7 0 (.iload_n 1) 1 1 := by decide +kernel
theorem d7_1 : own_D b'7 1 (.aload_n 0) 1 2 := by decide +kernel
theorem d7_2 : own_D b'7 2 .arraylength 1 3 := by decide +kernel
theorem d7_3 : own_DJ b'7 3 .ne 14 6 := by decide +kernel
theorem d7_6 : own_D b'7 6 (.aload_n 0) 1 7 := by decide +kernel
theorem d7_7 : own_D b'7 7 (.invokevirtual 316) 3 10 := by decide +kernel
theorem d7_10 : own_D b'7 10 (.checkcast 317) 3 13 := by decide +kernel
theorem d7_13 : own_D b'7 13 .areturn 1 14 := by decide +kernel
theorem d7_14 : own_D b'7 14 (.iload_n 1) 1 15 := by decide +kernel
theorem d7_15 : own_D b'7 15 (.newarray .int) 2 17 := by decide +kernel
theorem d7_17 : own_D b'7 17 (.astore_n 2) 1 18 := by decide +kernel
theorem d7_18 : own_D b'7 18 (.aload_n 0) 1 19 := by decide +kernel
theorem d7_19 : own_DK b'7 19 0 20 := by decide +kernel
theorem d7_20 : own_D b'7 20 (.aload_n 2) 1 21 := by decide +kernel
theorem d7_21 : own_DK b'7 21 0 22 := by decide +kernel
theorem d7_22 : own_D b'7 22 (.aload_n 0) 1 23 := by decide +kernel
theorem d7_23 : own_D b'7 23 .arraylength 1 24 := by decide +kernel
theorem d7_24 : own_D b'7 24 (.iload_n 1) 1 25 := by decide +kernel
theorem d7_25 : own_D b'7 25 (.invokestatic 304) 3 28 := by decide +kernel
theorem d7_28 : own_D b'7 28 (.invokestatic 150) 3 31 := by decide +kernel
theorem d7_31 : own_D b'7 31 (.aload_n 2) 1 32 := by decide +kernel
theorem d7_32 : own_D b'7 32 .areturn 1 33 := by decide +kernel
theorem pn_7 : plainFor (⟨"java/util/Arrays", "copyOf", "([II)[I"⟩ : MethodName) = true := plainFor_of_name (by first | (simp [plainName, overriddenIn]; done) | decide +kernel)
theorem rm7_a (l : Launch) (Z : State) (a0 : Array Value) (hw : own_hw a0 Z) (a1 : Addr) (k0 : ClassId) (x0 x1 x2 x3 : Int32) (h0 : Heap) (n0 : Nat) (Z0 : n0 ≤ h0.size) (VA : Arv Z h0 a1 k0 .int (16 : Int32) [(.int x0), (.int x1), (.int x2), (.int x3), (.int x0), (.int x1), (.int x2), (.int x3), (.int x0), (.int x1), (.int x2), (.int x3), (.int x0), (.int x1), (.int x2), (.int x3)] v'0) :
  own_M l Z [] own_y4 b'7 3 (some (.array .int)) ⟨1, 1, 32, 18⟩ #[(.ref a1), (.int (32 : Int32))] h0 (QCOa Z x0 x1 x2 x3 h0 n0) := by
 refine own_start (n0 := n0) hw "java/util/Arrays" (L := #[.val (.ref a1), .val (.int (32 : Int32)), .unset]) pn_7 (fun {p e s m below meth c s₁} q hx W hml hZ hown hnm hlk hrt X0 e0 N0 => ?_)
 have kp0 := Keep.refl h0 []
 refine own_iln X0 q d7_0 rfl (own_aln X0 q d7_1 rfl rfl (own_alen (n := (16 : Int32)) X0 q hZ e0 VA d7_2 (own_cy X0 q d7_3 ((feq ((by decide) : ¬ ((32 : Int32) = (16 : Int32)))).2) (own_iln X0 q d7_14 rfl ?_))))
 refine own_let ?_; intro g29_
 obtain ⟨T30, h30, k30, X30, e30, E30, A30, st30⟩ := newP X0 hx hZ (W 21 rfl) e0 (g := g29_) rfl (q.d d7_15) rfl (by decide) (cap := 32) (by decide) (by decide) (by decide) (by decide)
 obtain ⟨b30, g30⟩ : ∃ z, z = h0.size := ⟨_, rfl⟩
 rw [← g30] at A30 st30
 have V30 : Arv Z h30 b30 k30 .int (32 : Int32) [v'0, v'0, v'0, v'0, v'0, v'0, v'0, v'0, v'0, v'0, v'0, v'0, v'0, v'0, v'0, v'0, v'0, v'0, v'0, v'0, v'0, v'0, v'0, v'0, v'0, v'0, v'0, v'0, v'0, v'0, v'0, v'0] v'0 := (Arv.new A30 (by decide)).pad (pad_rep [] v'0 32)
 have zs31 := Nat.le_trans Z0 E30.1
 have kp31 := kp0.ext E30
 have g_b30 : n0 ≤ b30 := Nat.le_trans Z0 (Nat.le_of_eq g30.symm)
 have sz_b30 : h0.size ≤ b30 := Nat.le_trans kp0.1 (Nat.le_of_eq g30.symm)
 refine own_stp 17 st30 (own_asn X30 q d7_17 rfl (l' := #[.val (.ref a1), .val (.int (32 : Int32)), .val (.ref b30)]) rfl (own_aln X30 q d7_18 rfl rfl (own_k X30 q d7_19 (own_aln X30 q d7_20 rfl rfl (own_k X30 q d7_21 (own_aln X30 q d7_22 rfl rfl (own_alen (n := (16 : Int32)) X30 q hZ e30 (VA.ext E30) d7_23 (own_iln X30 q d7_24 rfl ?_))))))))
 refine own_cS X30 q hZ e30 hown hml (W 35 rfl) (W 6 rfl) (W 7 rfl) (W 8 rfl) (rm2 l Z a0 hw (16 : Int32) (32 : Int32) (16 : Int32) h30 n0 zs31 (by decide)) d7_25 [(.int (16 : Int32)), (.int (32 : Int32))] [v'0, (.ref b30), v'0, (.ref a1)] own_pd0 rfl rfl 4 (Nat.le_refl _) (by decide) (fun v32 T32 L32 X32 hQ32 => ?_)
 obtain ⟨rfl, N32q, e32⟩ := hQ32
 have N32 := Fr.app N0 N32q
 refine own_nv ?_
 obtain ⟨T33, h33, L33, X33, e33, N33, K33, V33, st33⟩ := cpA X32 hx hZ hown (W 36 rfl) (W 39 rfl) (W 37 rfl) (W 38 rfl) e32 (sp := (0 : Int32)) (dp := (0 : Int32)) (nn := (16 : Int32)) (VA.ext E30) V30 (Or.inl ⟨rfl, rfl⟩) (by decide) (by decide) (by decide) (by decide) (by decide) rfl (by decide) N32 g_b30 (g := (mkF m 28 #[.val (.ref a1), .val (.int (32 : Int32)), .val (.ref b30)] [(.int (16 : Int32)), v'0, (.ref b30), v'0, (.ref a1)])) rfl (by rw [hml]; rfl) rfl (q.d d7_28) (by decide) (W := 0) (by show 2 * 0 + _ ≤ _; exact Nat.le_of_eq rfl) (by decide)
 have V33 : Arv Z h33 b30 k30 .int (32 : Int32) [(.int x0), (.int x1), (.int x2), (.int x3), (.int x0), (.int x1), (.int x2), (.int x3), (.int x0), (.int x1), (.int x2), (.int x3), (.int x0), (.int x1), (.int x2), (.int x3), v'0, v'0, v'0, v'0, v'0, v'0, v'0, v'0, v'0, v'0, v'0, v'0, v'0, v'0, v'0, v'0] v'0 := V33
 have zs34 := Nat.le_trans zs31 K33.1
 have kp34 := kp31.trans K33 (allS (Or.inr sz_b30) all0)
 refine own_stp 31 st33 (own_aln X33 q d7_31 rfl rfl ?_)
 refine own_rA X33 q hrt d7_32 hlk (by decide) ?_
 show QCOa Z x0 x1 x2 x3 h0 n0 _ T33.heap _
 rw [e33]
 exact ⟨_, _, rfl, N33, own_extK kp34, sz_b30, V33⟩
theorem rm7_b (l : Launch) (Z : State) (a0 : Array Value) (hw : own_hw a0 Z) (a1 : Addr) (k0 : ClassId) (x0 x1 : Int32) (h0 : Heap) (n0 : Nat) (Z0 : n0 ≤ h0.size) (VA : Arv Z h0 a1 k0 .int (18 : Int32) [(.int x0), (.int x1), v'0, v'0, v'0, v'0, v'0, v'0, v'0, v'0, v'0, v'0, v'0, v'0, v'0, v'0, v'0, v'0] v'0) :
  own_M l Z [] own_y4 b'7 3 (some (.array .int)) ⟨1, 1, 2, 18⟩ #[(.ref a1), v'2] h0 (QCOb Z x0 x1 h0 n0) := by
 refine own_start (n0 := n0) hw "java/util/Arrays" (L := #[.val (.ref a1), .val v'2, .unset]) pn_7 (fun {p e s m below meth c s₁} q hx W hml hZ hown hnm hlk hrt X0 e0 N0 => ?_)
 have kp0 := Keep.refl h0 []
 refine own_iln X0 q d7_0 rfl (own_aln X0 q d7_1 rfl rfl (own_alen (n := (18 : Int32)) X0 q hZ e0 VA d7_2 (own_cy X0 q d7_3 ((feq ((by decide) : ¬ ((2 : Int32) = (18 : Int32)))).2) (own_iln X0 q d7_14 rfl ?_))))
 refine own_let ?_; intro g41_
 obtain ⟨T42, h42, k42, X42, e42, E42, A42, st42⟩ := newP X0 hx hZ (W 21 rfl) e0 (g := g41_) rfl (q.d d7_15) rfl (by decide) (cap := 2) (by decide) (by decide) (by decide) (by decide)
 obtain ⟨b42, g42⟩ : ∃ z, z = h0.size := ⟨_, rfl⟩
 rw [← g42] at A42 st42
 have V42 : Arv Z h42 b42 k42 .int (2 : Int32) [v'0, v'0] v'0 := (Arv.new A42 (by decide)).pad (pad_rep [] v'0 2)
 have zs43 := Nat.le_trans Z0 E42.1
 have kp43 := kp0.ext E42
 have g_b42 : n0 ≤ b42 := Nat.le_trans Z0 (Nat.le_of_eq g42.symm)
 have sz_b42 : h0.size ≤ b42 := Nat.le_trans kp0.1 (Nat.le_of_eq g42.symm)
 refine own_stp 17 st42 (own_asn X42 q d7_17 rfl (l' := #[.val (.ref a1), .val v'2, .val (.ref b42)]) rfl (own_aln X42 q d7_18 rfl rfl (own_k X42 q d7_19 (own_aln X42 q d7_20 rfl rfl (own_k X42 q d7_21 (own_aln X42 q d7_22 rfl rfl (own_alen (n := (18 : Int32)) X42 q hZ e42 (VA.ext E42) d7_23 (own_iln X42 q d7_24 rfl ?_))))))))
 refine own_cS X42 q hZ e42 hown hml (W 35 rfl) (W 6 rfl) (W 7 rfl) (W 8 rfl) (rm2 l Z a0 hw (18 : Int32) (2 : Int32) (2 : Int32) h42 n0 zs43 (by decide)) d7_25 [(.int (18 : Int32)), v'2] [v'0, (.ref b42), v'0, (.ref a1)] own_pd0 rfl rfl 4 (Nat.le_refl _) (by decide) (fun v44 T44 L44 X44 hQ44 => ?_)
 obtain ⟨rfl, N44q, e44⟩ := hQ44
 have N44 := Fr.app N0 N44q
 refine own_nv ?_
 obtain ⟨T45, h45, L45, X45, e45, N45, K45, V45, st45⟩ := cpA X44 hx hZ hown (W 36 rfl) (W 39 rfl) (W 37 rfl) (W 38 rfl) e44 (sp := (0 : Int32)) (dp := (0 : Int32)) (nn := (2 : Int32)) (VA.ext E42) V42 (Or.inl ⟨rfl, rfl⟩) (by decide) (by decide) (by decide) (by decide) (by decide) rfl (by decide) N44 g_b42 (g := (mkF m 28 #[.val (.ref a1), .val v'2, .val (.ref b42)] [v'2, v'0, (.ref b42), v'0, (.ref a1)])) rfl (by rw [hml]; rfl) rfl (q.d d7_28) (by decide) (W := 0) (by show 2 * 0 + _ ≤ _; exact Nat.le_of_eq rfl) (by decide)
 have V45 : Arv Z h45 b42 k42 .int (2 : Int32) [(.int x0), (.int x1)] v'0 := V45
 have zs46 := Nat.le_trans zs43 K45.1
 have kp46 := kp43.trans K45 (allS (Or.inr sz_b42) all0)
 refine own_stp 31 st45 (own_aln X45 q d7_31 rfl rfl ?_)
 refine own_rA X45 q hrt d7_32 hlk (by decide) ?_
 show QCOb Z x0 x1 h0 n0 _ T45.heap _
 rw [e45]
 exact ⟨_, _, rfl, N45, own_extK kp46, sz_b42, V45⟩
theorem rm7_d (l : Launch) (Z : State) (a0 : Array Value) (hw : own_hw a0 Z) (a1 : Addr) (k0 : ClassId) (x0 x1 x2 x3 : Int32) (h0 : Heap) (n0 : Nat) (Z0 : n0 ≤ h0.size) (VA : Arv Z h0 a1 k0 .int (18 : Int32) [(.int x0), (.int x1), (.int x2), (.int x3), v'0, v'0, v'0, v'0, v'0, v'0, v'0, v'0, v'0, v'0, v'0, v'0, v'0, v'0] v'0) :
  own_M l Z [] own_y4 b'7 3 (some (.array .int)) ⟨1, 1, 4, 18⟩ #[(.ref a1), v'4] h0 (QCOd Z x0 x1 x2 x3 h0 n0) := by
 refine own_start (n0 := n0) hw "java/util/Arrays" (L := #[.val (.ref a1), .val v'4, .unset]) pn_7 (fun {p e s m below meth c s₁} q hx W hml hZ hown hnm hlk hrt X0 e0 N0 => ?_)
 have kp0 := Keep.refl h0 []
 refine own_iln X0 q d7_0 rfl (own_aln X0 q d7_1 rfl rfl (own_alen (n := (18 : Int32)) X0 q hZ e0 VA d7_2 (own_cy X0 q d7_3 ((feq ((by decide) : ¬ ((4 : Int32) = (18 : Int32)))).2) (own_iln X0 q d7_14 rfl ?_))))
 refine own_let ?_; intro g53_
 obtain ⟨T54, h54, k54, X54, e54, E54, A54, st54⟩ := newP X0 hx hZ (W 21 rfl) e0 (g := g53_) rfl (q.d d7_15) rfl (by decide) (cap := 4) (by decide) (by decide) (by decide) (by decide)
 obtain ⟨b54, g54⟩ : ∃ z, z = h0.size := ⟨_, rfl⟩
 rw [← g54] at A54 st54
 have V54 : Arv Z h54 b54 k54 .int (4 : Int32) [v'0, v'0, v'0, v'0] v'0 := (Arv.new A54 (by decide)).pad (pad_rep [] v'0 4)
 have zs55 := Nat.le_trans Z0 E54.1
 have kp55 := kp0.ext E54
 have g_b54 : n0 ≤ b54 := Nat.le_trans Z0 (Nat.le_of_eq g54.symm)
 have sz_b54 : h0.size ≤ b54 := Nat.le_trans kp0.1 (Nat.le_of_eq g54.symm)
 refine own_stp 17 st54 (own_asn X54 q d7_17 rfl (l' := #[.val (.ref a1), .val v'4, .val (.ref b54)]) rfl (own_aln X54 q d7_18 rfl rfl (own_k X54 q d7_19 (own_aln X54 q d7_20 rfl rfl (own_k X54 q d7_21 (own_aln X54 q d7_22 rfl rfl (own_alen (n := (18 : Int32)) X54 q hZ e54 (VA.ext E54) d7_23 (own_iln X54 q d7_24 rfl ?_))))))))
 refine own_cS X54 q hZ e54 hown hml (W 35 rfl) (W 6 rfl) (W 7 rfl) (W 8 rfl) (rm2 l Z a0 hw (18 : Int32) (4 : Int32) (4 : Int32) h54 n0 zs55 (by decide)) d7_25 [(.int (18 : Int32)), v'4] [v'0, (.ref b54), v'0, (.ref a1)] own_pd0 rfl rfl 4 (Nat.le_refl _) (by decide) (fun v56 T56 L56 X56 hQ56 => ?_)
 obtain ⟨rfl, N56q, e56⟩ := hQ56
 have N56 := Fr.app N0 N56q
 refine own_nv ?_
 obtain ⟨T57, h57, L57, X57, e57, N57, K57, V57, st57⟩ := cpA X56 hx hZ hown (W 36 rfl) (W 39 rfl) (W 37 rfl) (W 38 rfl) e56 (sp := (0 : Int32)) (dp := (0 : Int32)) (nn := (4 : Int32)) (VA.ext E54) V54 (Or.inl ⟨rfl, rfl⟩) (by decide) (by decide) (by decide) (by decide) (by decide) rfl (by decide) N56 g_b54 (g := (mkF m 28 #[.val (.ref a1), .val v'4, .val (.ref b54)] [v'4, v'0, (.ref b54), v'0, (.ref a1)])) rfl (by rw [hml]; rfl) rfl (q.d d7_28) (by decide) (W := 0) (by show 2 * 0 + _ ≤ _; exact Nat.le_of_eq rfl) (by decide)
 have V57 : Arv Z h57 b54 k54 .int (4 : Int32) [(.int x0), (.int x1), (.int x2), (.int x3)] v'0 := V57
 have zs58 := Nat.le_trans zs55 K57.1
 have kp58 := kp55.trans K57 (allS (Or.inr sz_b54) all0)
 refine own_stp 31 st57 (own_aln X57 q d7_31 rfl rfl ?_)
 refine own_rA X57 q hrt d7_32 hlk (by decide) ?_
 show QCOd Z x0 x1 x2 x3 h0 n0 _ T57.heap _
 rw [e57]
 exact ⟨_, _, rfl, N57, own_extK kp58, sz_b54, V57⟩
theorem d6_0 : own_D b'6 0 (.aload_n 0) 1 1 := by decide +kernel
theorem d6_1 : own_D b'6 1 (.getfield 13) 3 4 := by decide +kernel
theorem d6_4 : own_D b'6 4 (.aload_n 0) 1 5 := by decide +kernel
theorem d6_5 : own_D b'6 5 (.getfield 7) 3 8 := by decide +kernel
theorem d6_8 : own_D b'6 8 .arraylength 1 9 := by decide +kernel
theorem d6_9 : own_DJ b'6 9 .ne 29 12 := by decide +kernel
theorem d6_12 : own_D b'6 12 (.aload_n 0) 1 13 := by decide +kernel
theorem d6_13 : own_D b'6 13 (.aload_n 0) 1 14 := by decide +kernel
theorem d6_14 : own_D b'6 14 (.getfield 7) 3 17 := by decide +kernel
theorem d6_17 : own_D b'6 17 (.aload_n 0) 1 18 := by decide +kernel
theorem d6_18 : own_D b'6 18 (.getfield 13) 3 21 := by decide +kernel
theorem d6_21 : own_DK b'6 21 2 22 := by decide +kernel
theorem d6_22 : own_D b'6 22 .imul 1 23 := by decide +kernel
theorem d6_23 : own_D b'6 23 (.invokestatic 17) 3 26 := by decide +kernel
theorem d6_26 : own_D b'6 26 (.putfield 7) 3 29 := by decide +kernel
theorem d6_29 : own_D b'6 29 (.aload_n 0) 1 30 := by decide +kernel
theorem d6_30 : own_D b'6 30 (.getfield 7) 3 33 := by decide +kernel
theorem d6_33 : own_D b'6 33 (.aload_n 0) 1 34 := by decide +kernel
theorem d6_34 : own_D b'6 34 .dup 1 35 := by decide +kernel
theorem d6_35 : own_D b'6 35 (.getfield 13) 3 38 := by decide +kernel
theorem d6_38 : own_D b'6 38 .dup_x1 1 39 := by decide +kernel
theorem d6_39 : own_DK b'6 39 1 40 := by decide +kernel
theorem d6_40 : own_D b'6 40 .iadd 1 41 := by decide +kernel
theorem d6_41 : own_D b'6 41 (.putfield 13) 3 44 := by decide +kernel
theorem d6_44 : own_D b'6 44 (.iload_n 1) 1 45 := by decide +kernel
theorem d6_45 : own_D b'6 45 .iastore 1 46 := by decide +kernel
theorem d6_46 : own_D b'6 46 (.aload_n 0) 1 47 := by decide +kernel
theorem d6_47 : own_D b'6 47 (.getfield 7) 3 50 := by decide +kernel
theorem d6_50 : own_D b'6 50 (.aload_n 0) 1 51 := by decide +kernel
theorem d6_51 : own_D b'6 51 .dup 1 52 := by decide +kernel
theorem d6_52 : own_D b'6 52 (.getfield 13) 3 55 := by decide +kernel
theorem d6_55 : own_D b'6 55 .dup_x1 1 56 := by decide +kernel
theorem d6_56 : own_DK b'6 56 1 57 := by decide +kernel
theorem d6_57 : own_D b'6 57 .iadd 1 58 := by decide +kernel
theorem d6_58 : own_D b'6 58 (.putfield 13) 3 61 := by decide +kernel
theorem d6_61 : own_D b'6 61 (.iload_n 2) 1 62 := by decide +kernel
theorem d6_62 : own_D b'6 62 .iastore 1 63 := by decide +kernel
theorem d6_63 : own_D b'6 63 (.aload_n 0) 1 64 := by decide +kernel
theorem d6_64 : own_D b'6 64 .areturn 1 65 := by decide +kernel
theorem pn_6 : plainFor (⟨"com/example/austere_json/austerejson/CodePointSet$Builder", "add", "(II)Lcom/example/austere_json/austerejson/CodePointSet$Builder;"⟩ : MethodName) = true := plainFor_of_name (by first | (simp [plainName, overriddenIn]; done) | decide +kernel)
theorem rm6_0 (l : Launch) (Z : State) (a0 : Array Value) (hw : own_hw a0 Z) (a1 : Addr) (x0 : Int32) (x1 : Int32) (b : Addr) (k0 : ClassId) (x2 x3 : Int32) (h0 : Heap) (n0 : Nat) (Z0 : n0 ≤ h0.size) (E1 : Exa Z h0 a1 "com/example/austere_json/austerejson/CodePointSet$Builder") (FR : F'0 Z h0 a1 (.ref b)) (FS : F'1 Z h0 a1 v'0) (VB : Arv Z h0 b k0 .int (16 : Int32) [v'0, v'0, v'0, v'0, v'0, v'0, v'0, v'0, v'0, v'0, v'0, v'0, v'0, v'0, v'0, v'0] v'0) (g1 : n0 ≤ a1) (gb : n0 ≤ b) (nab : a1 ≠ b) :
  own_M l Z [] own_y5 b'6 3 (some (.object "com/example/austere_json/austerejson/CodePointSet$Builder")) ⟨0, 0, 0, 0⟩ #[(.ref a1), (.int x0), (.int x1)] h0 (QAD0 Z a1 b k0 x0 x1 x2 x3 h0 n0) := by
 refine own_start (n0 := n0) hw "com/example/austere_json/austerejson/CodePointSet$Builder" (L := #[.val (.ref a1), .val (.int x0), .val (.int x1)]) pn_6 (fun {p e s m below meth c s₁} q hx W hml hZ hown hnm hlk hrt X0 e0 N0 => ?_)
 have kp0 := Keep.refl h0 [a1, b]
 refine own_aln X0 q d6_0 rfl rfl ?_
 refine own_gF X0 q hZ e0 hown (W 29 rfl) FS d6_1 fun T75 X75 e75 => ?_
 refine own_aln X75 q d6_4 rfl rfl ?_
 refine own_gF X75 q hZ e75 hown (W 22 rfl) FR d6_5 fun T76 X76 e76 => ?_
 refine own_alen (n := (16 : Int32)) X76 q hZ e76 VB d6_8 (own_cy X76 q d6_9 ((feq ((by decide) : ¬ ((0 : Int32) = (16 : Int32)))).2) (own_aln X76 q d6_29 rfl rfl ?_))
 refine own_gF X76 q hZ e76 hown (W 22 rfl) FR d6_30 fun T77 X77 e77 => ?_
 refine own_aln X77 q d6_33 rfl rfl (own_dp X77 q d6_34 rfl ?_)
 refine own_gF X77 q hZ e77 hown (W 29 rfl) FS d6_35 fun T78 X78 e78 => ?_
 refine own_stp 39 (fun _ k => XS.dupX1 X78.here hx rfl (q.d d6_38) rfl rfl rfl k) (own_k X78 q d6_39 (own_iaddk 1 X78 q d6_40 (by decide) ?_))
 refine own_let ?_; intro g79_
 obtain ⟨T80, h80, X80, e80, W80, st80⟩ := putF X78 hx hZ hown (host := "") (Or.inl (W 29 rfl)) Via.refl e78 FS E1 (Or.inl (W 30 rfl)) (W 13 rfl) (ty := .int) (by decide) rfl rfl (g := g79_) rfl rfl (q.d d6_41)
 have zs81 := Nat.le_trans Z0 (Keep.of_wr W80).1
 have kp81 := kp0.wr W80 (own_i0)
 have Fw80 := (FS).same W80
 have N80 := Fr.snoc X80 N0 g1
 refine own_stp 44 st80 (own_iln X80 q d6_44 rfl ?_)
 refine own_ist X80 q hZ e80 (VB.other W80 (Ne.symm nab)) d6_45 (by decide) (Nat.le_of_ble_eq_true rfl) N80 gb fun T82 h82 X82 e82 W82 V82 N82 => ?_
 have zs83 := Nat.le_trans zs81 (Keep.of_wr W82).1
 have kp83 := kp81.wr W82 (own_i1)
 refine own_aln X82 q d6_46 rfl rfl ?_
 refine own_gF X82 q hZ e82 hown (W 22 rfl) ((FR.other W80 (Or.inr (slot_ne (Or.inl (W 23 rfl)) (Or.inl (W 30 rfl)) (by decide) (t := (.array .int)) (t' := .int) (by decide) (by decide)))).other W82 (Or.inl nab)) d6_47 fun T84 X84 e84 => ?_
 refine own_aln X84 q d6_50 rfl rfl (own_dp X84 q d6_51 rfl ?_)
 refine own_gF X84 q hZ e84 hown (W 29 rfl) (Fw80.other W82 (Or.inl nab)) d6_52 fun T85 X85 e85 => ?_
 refine own_stp 56 (fun _ k => XS.dupX1 X85.here hx rfl (q.d d6_55) rfl rfl rfl k) (own_k X85 q d6_56 (own_iaddk 2 X85 q d6_57 (by decide) ?_))
 refine own_let ?_; intro g86_
 obtain ⟨T87, h87, X87, e87, W87, st87⟩ := putF X85 hx hZ hown (host := "") (Or.inl (W 29 rfl)) Via.refl e85 (Fw80.other W82 (Or.inl nab)) ((E1.wr W80).wr W82) (Or.inl (W 30 rfl)) (W 13 rfl) (ty := .int) (by decide) rfl rfl (g := g86_) rfl rfl (q.d d6_58)
 have zs88 := Nat.le_trans zs83 (Keep.of_wr W87).1
 have kp88 := kp83.wr W87 (own_i0)
 have Fw87 := ((Fw80.other W82 (Or.inl nab))).same W87
 have N87 := Fr.snoc X87 N82 g1
 refine own_stp 61 st87 (own_iln X87 q d6_61 rfl ?_)
 refine own_ist X87 q hZ e87 (V82.other W87 (Ne.symm nab)) d6_62 (by decide) (Nat.le_of_ble_eq_true rfl) N87 gb fun T89 h89 X89 e89 W89 V89 N89 => ?_
 have zs90 := Nat.le_trans zs88 (Keep.of_wr W89).1
 have kp90 := kp88.wr W89 (own_i1)
 refine own_aln X89 q d6_63 rfl rfl ?_
 refine own_rA X89 q hrt d6_64 hlk (by decide) ?_
 show QAD0 Z a1 b k0 x0 x1 x2 x3 h0 n0 _ T89.heap _
 rw [e89]
 exact ⟨rfl, N89, kp90, ((((FR.other W80 (Or.inr (slot_ne (Or.inl (W 23 rfl)) (Or.inl (W 30 rfl)) (by decide) (t := (.array .int)) (t' := .int) (by decide) (by decide)))).other W82 (Or.inl nab)).other W87 (Or.inr (slot_ne (Or.inl (W 23 rfl)) (Or.inl (W 30 rfl)) (by decide) (t := (.array .int)) (t' := .int) (by decide) (by decide)))).other W89 (Or.inl nab)), (Fw87.other W89 (Or.inl nab)), V89⟩
theorem rm6_1 (l : Launch) (Z : State) (a0 : Array Value) (hw : own_hw a0 Z) (a1 : Addr) (x2 : Int32) (x3 : Int32) (b : Addr) (k0 : ClassId) (x0 x1 : Int32) (h0 : Heap) (n0 : Nat) (Z0 : n0 ≤ h0.size) (E1 : Exa Z h0 a1 "com/example/austere_json/austerejson/CodePointSet$Builder") (FR : F'0 Z h0 a1 (.ref b)) (FS : F'1 Z h0 a1 v'2) (VB : Arv Z h0 b k0 .int (16 : Int32) [(.int x0), (.int x1), v'0, v'0, v'0, v'0, v'0, v'0, v'0, v'0, v'0, v'0, v'0, v'0, v'0, v'0] v'0) (g1 : n0 ≤ a1) (gb : n0 ≤ b) (nab : a1 ≠ b) :
  own_M l Z [] own_y5 b'6 3 (some (.object "com/example/austere_json/austerejson/CodePointSet$Builder")) ⟨0, 0, 0, 0⟩ #[(.ref a1), (.int x2), (.int x3)] h0 (QAD1 Z a1 b k0 x0 x1 x2 x3 h0 n0) := by
 refine own_start (n0 := n0) hw "com/example/austere_json/austerejson/CodePointSet$Builder" (L := #[.val (.ref a1), .val (.int x2), .val (.int x3)]) pn_6 (fun {p e s m below meth c s₁} q hx W hml hZ hown hnm hlk hrt X0 e0 N0 => ?_)
 have kp0 := Keep.refl h0 [a1, b]
 refine own_aln X0 q d6_0 rfl rfl ?_
 refine own_gF X0 q hZ e0 hown (W 29 rfl) FS d6_1 fun T107 X107 e107 => ?_
 refine own_aln X107 q d6_4 rfl rfl ?_
 refine own_gF X107 q hZ e107 hown (W 22 rfl) FR d6_5 fun T108 X108 e108 => ?_
 refine own_alen (n := (16 : Int32)) X108 q hZ e108 VB d6_8 (own_cy X108 q d6_9 ((feq ((by decide) : ¬ ((2 : Int32) = (16 : Int32)))).2) (own_aln X108 q d6_29 rfl rfl ?_))
 refine own_gF X108 q hZ e108 hown (W 22 rfl) FR d6_30 fun T109 X109 e109 => ?_
 refine own_aln X109 q d6_33 rfl rfl (own_dp X109 q d6_34 rfl ?_)
 refine own_gF X109 q hZ e109 hown (W 29 rfl) FS d6_35 fun T110 X110 e110 => ?_
 refine own_stp 39 (fun _ k => XS.dupX1 X110.here hx rfl (q.d d6_38) rfl rfl rfl k) (own_k X110 q d6_39 (own_iaddk 3 X110 q d6_40 (by decide) ?_))
 refine own_let ?_; intro g111_
 obtain ⟨T112, h112, X112, e112, W112, st112⟩ := putF X110 hx hZ hown (host := "") (Or.inl (W 29 rfl)) Via.refl e110 FS E1 (Or.inl (W 30 rfl)) (W 13 rfl) (ty := .int) (by decide) rfl rfl (g := g111_) rfl rfl (q.d d6_41)
 have zs113 := Nat.le_trans Z0 (Keep.of_wr W112).1
 have kp113 := kp0.wr W112 (own_i0)
 have Fw112 := (FS).same W112
 have N112 := Fr.snoc X112 N0 g1
 refine own_stp 44 st112 (own_iln X112 q d6_44 rfl ?_)
 refine own_ist X112 q hZ e112 (VB.other W112 (Ne.symm nab)) d6_45 (by decide) (Nat.le_of_ble_eq_true rfl) N112 gb fun T114 h114 X114 e114 W114 V114 N114 => ?_
 have zs115 := Nat.le_trans zs113 (Keep.of_wr W114).1
 have kp115 := kp113.wr W114 (own_i1)
 refine own_aln X114 q d6_46 rfl rfl ?_
 refine own_gF X114 q hZ e114 hown (W 22 rfl) ((FR.other W112 (Or.inr (slot_ne (Or.inl (W 23 rfl)) (Or.inl (W 30 rfl)) (by decide) (t := (.array .int)) (t' := .int) (by decide) (by decide)))).other W114 (Or.inl nab)) d6_47 fun T116 X116 e116 => ?_
 refine own_aln X116 q d6_50 rfl rfl (own_dp X116 q d6_51 rfl ?_)
 refine own_gF X116 q hZ e116 hown (W 29 rfl) (Fw112.other W114 (Or.inl nab)) d6_52 fun T117 X117 e117 => ?_
 refine own_stp 56 (fun _ k => XS.dupX1 X117.here hx rfl (q.d d6_55) rfl rfl rfl k) (own_k X117 q d6_56 (own_iaddk 4 X117 q d6_57 (by decide) ?_))
 refine own_let ?_; intro g118_
 obtain ⟨T119, h119, X119, e119, W119, st119⟩ := putF X117 hx hZ hown (host := "") (Or.inl (W 29 rfl)) Via.refl e117 (Fw112.other W114 (Or.inl nab)) ((E1.wr W112).wr W114) (Or.inl (W 30 rfl)) (W 13 rfl) (ty := .int) (by decide) rfl rfl (g := g118_) rfl rfl (q.d d6_58)
 have zs120 := Nat.le_trans zs115 (Keep.of_wr W119).1
 have kp120 := kp115.wr W119 (own_i0)
 have Fw119 := ((Fw112.other W114 (Or.inl nab))).same W119
 have N119 := Fr.snoc X119 N114 g1
 refine own_stp 61 st119 (own_iln X119 q d6_61 rfl ?_)
 refine own_ist X119 q hZ e119 (V114.other W119 (Ne.symm nab)) d6_62 (by decide) (Nat.le_of_ble_eq_true rfl) N119 gb fun T121 h121 X121 e121 W121 V121 N121 => ?_
 have zs122 := Nat.le_trans zs120 (Keep.of_wr W121).1
 have kp122 := kp120.wr W121 (own_i1)
 refine own_aln X121 q d6_63 rfl rfl ?_
 refine own_rA X121 q hrt d6_64 hlk (by decide) ?_
 show QAD1 Z a1 b k0 x0 x1 x2 x3 h0 n0 _ T121.heap _
 rw [e121]
 exact ⟨rfl, N121, kp122, ((((FR.other W112 (Or.inr (slot_ne (Or.inl (W 23 rfl)) (Or.inl (W 30 rfl)) (by decide) (t := (.array .int)) (t' := .int) (by decide) (by decide)))).other W114 (Or.inl nab)).other W119 (Or.inr (slot_ne (Or.inl (W 23 rfl)) (Or.inl (W 30 rfl)) (by decide) (t := (.array .int)) (t' := .int) (by decide) (by decide)))).other W121 (Or.inl nab)), (Fw119.other W121 (Or.inl nab)), V121⟩
theorem rm6_2 (l : Launch) (Z : State) (a0 : Array Value) (hw : own_hw a0 Z) (a1 : Addr) (x0 : Int32) (x1 : Int32) (b : Addr) (k0 : ClassId) (x2 x3 : Int32) (h0 : Heap) (n0 : Nat) (Z0 : n0 ≤ h0.size) (E1 : Exa Z h0 a1 "com/example/austere_json/austerejson/CodePointSet$Builder") (FR : F'0 Z h0 a1 (.ref b)) (FS : F'1 Z h0 a1 v'4) (VB : Arv Z h0 b k0 .int (16 : Int32) [(.int x0), (.int x1), (.int x2), (.int x3), v'0, v'0, v'0, v'0, v'0, v'0, v'0, v'0, v'0, v'0, v'0, v'0] v'0) (g1 : n0 ≤ a1) (gb : n0 ≤ b) (nab : a1 ≠ b) :
  own_M l Z [] own_y5 b'6 3 (some (.object "com/example/austere_json/austerejson/CodePointSet$Builder")) ⟨0, 0, 0, 0⟩ #[(.ref a1), (.int x0), (.int x1)] h0 (QAD2 Z a1 b k0 x0 x1 x2 x3 h0 n0) := by
 refine own_start (n0 := n0) hw "com/example/austere_json/austerejson/CodePointSet$Builder" (L := #[.val (.ref a1), .val (.int x0), .val (.int x1)]) pn_6 (fun {p e s m below meth c s₁} q hx W hml hZ hown hnm hlk hrt X0 e0 N0 => ?_)
 have kp0 := Keep.refl h0 [a1, b]
 refine own_aln X0 q d6_0 rfl rfl ?_
 refine own_gF X0 q hZ e0 hown (W 29 rfl) FS d6_1 fun T139 X139 e139 => ?_
 refine own_aln X139 q d6_4 rfl rfl ?_
 refine own_gF X139 q hZ e139 hown (W 22 rfl) FR d6_5 fun T140 X140 e140 => ?_
 refine own_alen (n := (16 : Int32)) X140 q hZ e140 VB d6_8 (own_cy X140 q d6_9 ((feq ((by decide) : ¬ ((4 : Int32) = (16 : Int32)))).2) (own_aln X140 q d6_29 rfl rfl ?_))
 refine own_gF X140 q hZ e140 hown (W 22 rfl) FR d6_30 fun T141 X141 e141 => ?_
 refine own_aln X141 q d6_33 rfl rfl (own_dp X141 q d6_34 rfl ?_)
 refine own_gF X141 q hZ e141 hown (W 29 rfl) FS d6_35 fun T142 X142 e142 => ?_
 refine own_stp 39 (fun _ k => XS.dupX1 X142.here hx rfl (q.d d6_38) rfl rfl rfl k) (own_k X142 q d6_39 (own_iaddk 5 X142 q d6_40 (by decide) ?_))
 refine own_let ?_; intro g143_
 obtain ⟨T144, h144, X144, e144, W144, st144⟩ := putF X142 hx hZ hown (host := "") (Or.inl (W 29 rfl)) Via.refl e142 FS E1 (Or.inl (W 30 rfl)) (W 13 rfl) (ty := .int) (by decide) rfl rfl (g := g143_) rfl rfl (q.d d6_41)
 have zs145 := Nat.le_trans Z0 (Keep.of_wr W144).1
 have kp145 := kp0.wr W144 (own_i0)
 have Fw144 := (FS).same W144
 have N144 := Fr.snoc X144 N0 g1
 refine own_stp 44 st144 (own_iln X144 q d6_44 rfl ?_)
 refine own_ist X144 q hZ e144 (VB.other W144 (Ne.symm nab)) d6_45 (by decide) (Nat.le_of_ble_eq_true rfl) N144 gb fun T146 h146 X146 e146 W146 V146 N146 => ?_
 have zs147 := Nat.le_trans zs145 (Keep.of_wr W146).1
 have kp147 := kp145.wr W146 (own_i1)
 refine own_aln X146 q d6_46 rfl rfl ?_
 refine own_gF X146 q hZ e146 hown (W 22 rfl) ((FR.other W144 (Or.inr (slot_ne (Or.inl (W 23 rfl)) (Or.inl (W 30 rfl)) (by decide) (t := (.array .int)) (t' := .int) (by decide) (by decide)))).other W146 (Or.inl nab)) d6_47 fun T148 X148 e148 => ?_
 refine own_aln X148 q d6_50 rfl rfl (own_dp X148 q d6_51 rfl ?_)
 refine own_gF X148 q hZ e148 hown (W 29 rfl) (Fw144.other W146 (Or.inl nab)) d6_52 fun T149 X149 e149 => ?_
 refine own_stp 56 (fun _ k => XS.dupX1 X149.here hx rfl (q.d d6_55) rfl rfl rfl k) (own_k X149 q d6_56 (own_iaddk 6 X149 q d6_57 (by decide) ?_))
 refine own_let ?_; intro g150_
 obtain ⟨T151, h151, X151, e151, W151, st151⟩ := putF X149 hx hZ hown (host := "") (Or.inl (W 29 rfl)) Via.refl e149 (Fw144.other W146 (Or.inl nab)) ((E1.wr W144).wr W146) (Or.inl (W 30 rfl)) (W 13 rfl) (ty := .int) (by decide) rfl rfl (g := g150_) rfl rfl (q.d d6_58)
 have zs152 := Nat.le_trans zs147 (Keep.of_wr W151).1
 have kp152 := kp147.wr W151 (own_i0)
 have Fw151 := ((Fw144.other W146 (Or.inl nab))).same W151
 have N151 := Fr.snoc X151 N146 g1
 refine own_stp 61 st151 (own_iln X151 q d6_61 rfl ?_)
 refine own_ist X151 q hZ e151 (V146.other W151 (Ne.symm nab)) d6_62 (by decide) (Nat.le_of_ble_eq_true rfl) N151 gb fun T153 h153 X153 e153 W153 V153 N153 => ?_
 have zs154 := Nat.le_trans zs152 (Keep.of_wr W153).1
 have kp154 := kp152.wr W153 (own_i1)
 refine own_aln X153 q d6_63 rfl rfl ?_
 refine own_rA X153 q hrt d6_64 hlk (by decide) ?_
 show QAD2 Z a1 b k0 x0 x1 x2 x3 h0 n0 _ T153.heap _
 rw [e153]
 exact ⟨rfl, N153, kp154, ((((FR.other W144 (Or.inr (slot_ne (Or.inl (W 23 rfl)) (Or.inl (W 30 rfl)) (by decide) (t := (.array .int)) (t' := .int) (by decide) (by decide)))).other W146 (Or.inl nab)).other W151 (Or.inr (slot_ne (Or.inl (W 23 rfl)) (Or.inl (W 30 rfl)) (by decide) (t := (.array .int)) (t' := .int) (by decide) (by decide)))).other W153 (Or.inl nab)), (Fw151.other W153 (Or.inl nab)), V153⟩
theorem rm6_3 (l : Launch) (Z : State) (a0 : Array Value) (hw : own_hw a0 Z) (a1 : Addr) (x2 : Int32) (x3 : Int32) (b : Addr) (k0 : ClassId) (x0 x1 : Int32) (h0 : Heap) (n0 : Nat) (Z0 : n0 ≤ h0.size) (E1 : Exa Z h0 a1 "com/example/austere_json/austerejson/CodePointSet$Builder") (FR : F'0 Z h0 a1 (.ref b)) (FS : F'1 Z h0 a1 v'6) (VB : Arv Z h0 b k0 .int (16 : Int32) [(.int x0), (.int x1), (.int x2), (.int x3), (.int x0), (.int x1), v'0, v'0, v'0, v'0, v'0, v'0, v'0, v'0, v'0, v'0] v'0) (g1 : n0 ≤ a1) (gb : n0 ≤ b) (nab : a1 ≠ b) :
  own_M l Z [] own_y5 b'6 3 (some (.object "com/example/austere_json/austerejson/CodePointSet$Builder")) ⟨0, 0, 0, 0⟩ #[(.ref a1), (.int x2), (.int x3)] h0 (QAD3 Z a1 b k0 x0 x1 x2 x3 h0 n0) := by
 refine own_start (n0 := n0) hw "com/example/austere_json/austerejson/CodePointSet$Builder" (L := #[.val (.ref a1), .val (.int x2), .val (.int x3)]) pn_6 (fun {p e s m below meth c s₁} q hx W hml hZ hown hnm hlk hrt X0 e0 N0 => ?_)
 have kp0 := Keep.refl h0 [a1, b]
 refine own_aln X0 q d6_0 rfl rfl ?_
 refine own_gF X0 q hZ e0 hown (W 29 rfl) FS d6_1 fun T171 X171 e171 => ?_
 refine own_aln X171 q d6_4 rfl rfl ?_
 refine own_gF X171 q hZ e171 hown (W 22 rfl) FR d6_5 fun T172 X172 e172 => ?_
 refine own_alen (n := (16 : Int32)) X172 q hZ e172 VB d6_8 (own_cy X172 q d6_9 ((feq ((by decide) : ¬ ((6 : Int32) = (16 : Int32)))).2) (own_aln X172 q d6_29 rfl rfl ?_))
 refine own_gF X172 q hZ e172 hown (W 22 rfl) FR d6_30 fun T173 X173 e173 => ?_
 refine own_aln X173 q d6_33 rfl rfl (own_dp X173 q d6_34 rfl ?_)
 refine own_gF X173 q hZ e173 hown (W 29 rfl) FS d6_35 fun T174 X174 e174 => ?_
 refine own_stp 39 (fun _ k => XS.dupX1 X174.here hx rfl (q.d d6_38) rfl rfl rfl k) (own_k X174 q d6_39 (own_iaddk 7 X174 q d6_40 (by decide) ?_))
 refine own_let ?_; intro g175_
 obtain ⟨T176, h176, X176, e176, W176, st176⟩ := putF X174 hx hZ hown (host := "") (Or.inl (W 29 rfl)) Via.refl e174 FS E1 (Or.inl (W 30 rfl)) (W 13 rfl) (ty := .int) (by decide) rfl rfl (g := g175_) rfl rfl (q.d d6_41)
 have zs177 := Nat.le_trans Z0 (Keep.of_wr W176).1
 have kp177 := kp0.wr W176 (own_i0)
 have Fw176 := (FS).same W176
 have N176 := Fr.snoc X176 N0 g1
 refine own_stp 44 st176 (own_iln X176 q d6_44 rfl ?_)
 refine own_ist X176 q hZ e176 (VB.other W176 (Ne.symm nab)) d6_45 (by decide) (Nat.le_of_ble_eq_true rfl) N176 gb fun T178 h178 X178 e178 W178 V178 N178 => ?_
 have zs179 := Nat.le_trans zs177 (Keep.of_wr W178).1
 have kp179 := kp177.wr W178 (own_i1)
 refine own_aln X178 q d6_46 rfl rfl ?_
 refine own_gF X178 q hZ e178 hown (W 22 rfl) ((FR.other W176 (Or.inr (slot_ne (Or.inl (W 23 rfl)) (Or.inl (W 30 rfl)) (by decide) (t := (.array .int)) (t' := .int) (by decide) (by decide)))).other W178 (Or.inl nab)) d6_47 fun T180 X180 e180 => ?_
 refine own_aln X180 q d6_50 rfl rfl (own_dp X180 q d6_51 rfl ?_)
 refine own_gF X180 q hZ e180 hown (W 29 rfl) (Fw176.other W178 (Or.inl nab)) d6_52 fun T181 X181 e181 => ?_
 refine own_stp 56 (fun _ k => XS.dupX1 X181.here hx rfl (q.d d6_55) rfl rfl rfl k) (own_k X181 q d6_56 (own_iaddk 8 X181 q d6_57 (by decide) ?_))
 refine own_let ?_; intro g182_
 obtain ⟨T183, h183, X183, e183, W183, st183⟩ := putF X181 hx hZ hown (host := "") (Or.inl (W 29 rfl)) Via.refl e181 (Fw176.other W178 (Or.inl nab)) ((E1.wr W176).wr W178) (Or.inl (W 30 rfl)) (W 13 rfl) (ty := .int) (by decide) rfl rfl (g := g182_) rfl rfl (q.d d6_58)
 have zs184 := Nat.le_trans zs179 (Keep.of_wr W183).1
 have kp184 := kp179.wr W183 (own_i0)
 have Fw183 := ((Fw176.other W178 (Or.inl nab))).same W183
 have N183 := Fr.snoc X183 N178 g1
 refine own_stp 61 st183 (own_iln X183 q d6_61 rfl ?_)
 refine own_ist X183 q hZ e183 (V178.other W183 (Ne.symm nab)) d6_62 (by decide) (Nat.le_of_ble_eq_true rfl) N183 gb fun T185 h185 X185 e185 W185 V185 N185 => ?_
 have zs186 := Nat.le_trans zs184 (Keep.of_wr W185).1
 have kp186 := kp184.wr W185 (own_i1)
 refine own_aln X185 q d6_63 rfl rfl ?_
 refine own_rA X185 q hrt d6_64 hlk (by decide) ?_
 show QAD3 Z a1 b k0 x0 x1 x2 x3 h0 n0 _ T185.heap _
 rw [e185]
 exact ⟨rfl, N185, kp186, ((((FR.other W176 (Or.inr (slot_ne (Or.inl (W 23 rfl)) (Or.inl (W 30 rfl)) (by decide) (t := (.array .int)) (t' := .int) (by decide) (by decide)))).other W178 (Or.inl nab)).other W183 (Or.inr (slot_ne (Or.inl (W 23 rfl)) (Or.inl (W 30 rfl)) (by decide) (t := (.array .int)) (t' := .int) (by decide) (by decide)))).other W185 (Or.inl nab)), (Fw183.other W185 (Or.inl nab)), V185⟩
theorem rm6_4 (l : Launch) (Z : State) (a0 : Array Value) (hw : own_hw a0 Z) (a1 : Addr) (x0 : Int32) (x1 : Int32) (b : Addr) (k0 : ClassId) (x2 x3 : Int32) (h0 : Heap) (n0 : Nat) (Z0 : n0 ≤ h0.size) (E1 : Exa Z h0 a1 "com/example/austere_json/austerejson/CodePointSet$Builder") (FR : F'0 Z h0 a1 (.ref b)) (FS : F'1 Z h0 a1 v'8) (VB : Arv Z h0 b k0 .int (16 : Int32) [(.int x0), (.int x1), (.int x2), (.int x3), (.int x0), (.int x1), (.int x2), (.int x3), v'0, v'0, v'0, v'0, v'0, v'0, v'0, v'0] v'0) (g1 : n0 ≤ a1) (gb : n0 ≤ b) (nab : a1 ≠ b) :
  own_M l Z [] own_y5 b'6 3 (some (.object "com/example/austere_json/austerejson/CodePointSet$Builder")) ⟨0, 0, 0, 0⟩ #[(.ref a1), (.int x0), (.int x1)] h0 (QAD4 Z a1 b k0 x0 x1 x2 x3 h0 n0) := by
 refine own_start (n0 := n0) hw "com/example/austere_json/austerejson/CodePointSet$Builder" (L := #[.val (.ref a1), .val (.int x0), .val (.int x1)]) pn_6 (fun {p e s m below meth c s₁} q hx W hml hZ hown hnm hlk hrt X0 e0 N0 => ?_)
 have kp0 := Keep.refl h0 [a1, b]
 refine own_aln X0 q d6_0 rfl rfl ?_
 refine own_gF X0 q hZ e0 hown (W 29 rfl) FS d6_1 fun T203 X203 e203 => ?_
 refine own_aln X203 q d6_4 rfl rfl ?_
 refine own_gF X203 q hZ e203 hown (W 22 rfl) FR d6_5 fun T204 X204 e204 => ?_
 refine own_alen (n := (16 : Int32)) X204 q hZ e204 VB d6_8 (own_cy X204 q d6_9 ((feq ((by decide) : ¬ ((8 : Int32) = (16 : Int32)))).2) (own_aln X204 q d6_29 rfl rfl ?_))
 refine own_gF X204 q hZ e204 hown (W 22 rfl) FR d6_30 fun T205 X205 e205 => ?_
 refine own_aln X205 q d6_33 rfl rfl (own_dp X205 q d6_34 rfl ?_)
 refine own_gF X205 q hZ e205 hown (W 29 rfl) FS d6_35 fun T206 X206 e206 => ?_
 refine own_stp 39 (fun _ k => XS.dupX1 X206.here hx rfl (q.d d6_38) rfl rfl rfl k) (own_k X206 q d6_39 (own_iaddk 9 X206 q d6_40 (by decide) ?_))
 refine own_let ?_; intro g207_
 obtain ⟨T208, h208, X208, e208, W208, st208⟩ := putF X206 hx hZ hown (host := "") (Or.inl (W 29 rfl)) Via.refl e206 FS E1 (Or.inl (W 30 rfl)) (W 13 rfl) (ty := .int) (by decide) rfl rfl (g := g207_) rfl rfl (q.d d6_41)
 have zs209 := Nat.le_trans Z0 (Keep.of_wr W208).1
 have kp209 := kp0.wr W208 (own_i0)
 have Fw208 := (FS).same W208
 have N208 := Fr.snoc X208 N0 g1
 refine own_stp 44 st208 (own_iln X208 q d6_44 rfl ?_)
 refine own_ist X208 q hZ e208 (VB.other W208 (Ne.symm nab)) d6_45 (by decide) (Nat.le_of_ble_eq_true rfl) N208 gb fun T210 h210 X210 e210 W210 V210 N210 => ?_
 have zs211 := Nat.le_trans zs209 (Keep.of_wr W210).1
 have kp211 := kp209.wr W210 (own_i1)
 refine own_aln X210 q d6_46 rfl rfl ?_
 refine own_gF X210 q hZ e210 hown (W 22 rfl) ((FR.other W208 (Or.inr (slot_ne (Or.inl (W 23 rfl)) (Or.inl (W 30 rfl)) (by decide) (t := (.array .int)) (t' := .int) (by decide) (by decide)))).other W210 (Or.inl nab)) d6_47 fun T212 X212 e212 => ?_
 refine own_aln X212 q d6_50 rfl rfl (own_dp X212 q d6_51 rfl ?_)
 refine own_gF X212 q hZ e212 hown (W 29 rfl) (Fw208.other W210 (Or.inl nab)) d6_52 fun T213 X213 e213 => ?_
 refine own_stp 56 (fun _ k => XS.dupX1 X213.here hx rfl (q.d d6_55) rfl rfl rfl k) (own_k X213 q d6_56 (own_iaddk 10 X213 q d6_57 (by decide) ?_))
 refine own_let ?_; intro g214_
 obtain ⟨T215, h215, X215, e215, W215, st215⟩ := putF X213 hx hZ hown (host := "") (Or.inl (W 29 rfl)) Via.refl e213 (Fw208.other W210 (Or.inl nab)) ((E1.wr W208).wr W210) (Or.inl (W 30 rfl)) (W 13 rfl) (ty := .int) (by decide) rfl rfl (g := g214_) rfl rfl (q.d d6_58)
 have zs216 := Nat.le_trans zs211 (Keep.of_wr W215).1
 have kp216 := kp211.wr W215 (own_i0)
 have Fw215 := ((Fw208.other W210 (Or.inl nab))).same W215
 have N215 := Fr.snoc X215 N210 g1
 refine own_stp 61 st215 (own_iln X215 q d6_61 rfl ?_)
 refine own_ist X215 q hZ e215 (V210.other W215 (Ne.symm nab)) d6_62 (by decide) (Nat.le_of_ble_eq_true rfl) N215 gb fun T217 h217 X217 e217 W217 V217 N217 => ?_
 have zs218 := Nat.le_trans zs216 (Keep.of_wr W217).1
 have kp218 := kp216.wr W217 (own_i1)
 refine own_aln X217 q d6_63 rfl rfl ?_
 refine own_rA X217 q hrt d6_64 hlk (by decide) ?_
 show QAD4 Z a1 b k0 x0 x1 x2 x3 h0 n0 _ T217.heap _
 rw [e217]
 exact ⟨rfl, N217, kp218, ((((FR.other W208 (Or.inr (slot_ne (Or.inl (W 23 rfl)) (Or.inl (W 30 rfl)) (by decide) (t := (.array .int)) (t' := .int) (by decide) (by decide)))).other W210 (Or.inl nab)).other W215 (Or.inr (slot_ne (Or.inl (W 23 rfl)) (Or.inl (W 30 rfl)) (by decide) (t := (.array .int)) (t' := .int) (by decide) (by decide)))).other W217 (Or.inl nab)), (Fw215.other W217 (Or.inl nab)), V217⟩
theorem rm6_5 (l : Launch) (Z : State) (a0 : Array Value) (hw : own_hw a0 Z) (a1 : Addr) (x2 : Int32) (x3 : Int32) (b : Addr) (k0 : ClassId) (x0 x1 : Int32) (h0 : Heap) (n0 : Nat) (Z0 : n0 ≤ h0.size) (E1 : Exa Z h0 a1 "com/example/austere_json/austerejson/CodePointSet$Builder") (FR : F'0 Z h0 a1 (.ref b)) (FS : F'1 Z h0 a1 (.int (10 : Int32))) (VB : Arv Z h0 b k0 .int (16 : Int32) [(.int x0), (.int x1), (.int x2), (.int x3), (.int x0), (.int x1), (.int x2), (.int x3), (.int x0), (.int x1), v'0, v'0, v'0, v'0, v'0, v'0] v'0) (g1 : n0 ≤ a1) (gb : n0 ≤ b) (nab : a1 ≠ b) :
  own_M l Z [] own_y5 b'6 3 (some (.object "com/example/austere_json/austerejson/CodePointSet$Builder")) ⟨0, 0, 0, 0⟩ #[(.ref a1), (.int x2), (.int x3)] h0 (QAD5 Z a1 b k0 x0 x1 x2 x3 h0 n0) := by
 refine own_start (n0 := n0) hw "com/example/austere_json/austerejson/CodePointSet$Builder" (L := #[.val (.ref a1), .val (.int x2), .val (.int x3)]) pn_6 (fun {p e s m below meth c s₁} q hx W hml hZ hown hnm hlk hrt X0 e0 N0 => ?_)
 have kp0 := Keep.refl h0 [a1, b]
 refine own_aln X0 q d6_0 rfl rfl ?_
 refine own_gF X0 q hZ e0 hown (W 29 rfl) FS d6_1 fun T235 X235 e235 => ?_
 refine own_aln X235 q d6_4 rfl rfl ?_
 refine own_gF X235 q hZ e235 hown (W 22 rfl) FR d6_5 fun T236 X236 e236 => ?_
 refine own_alen (n := (16 : Int32)) X236 q hZ e236 VB d6_8 (own_cy X236 q d6_9 ((feq ((by decide) : ¬ ((10 : Int32) = (16 : Int32)))).2) (own_aln X236 q d6_29 rfl rfl ?_))
 refine own_gF X236 q hZ e236 hown (W 22 rfl) FR d6_30 fun T237 X237 e237 => ?_
 refine own_aln X237 q d6_33 rfl rfl (own_dp X237 q d6_34 rfl ?_)
 refine own_gF X237 q hZ e237 hown (W 29 rfl) FS d6_35 fun T238 X238 e238 => ?_
 refine own_stp 39 (fun _ k => XS.dupX1 X238.here hx rfl (q.d d6_38) rfl rfl rfl k) (own_k X238 q d6_39 (own_iaddk 11 X238 q d6_40 (by decide) ?_))
 refine own_let ?_; intro g239_
 obtain ⟨T240, h240, X240, e240, W240, st240⟩ := putF X238 hx hZ hown (host := "") (Or.inl (W 29 rfl)) Via.refl e238 FS E1 (Or.inl (W 30 rfl)) (W 13 rfl) (ty := .int) (by decide) rfl rfl (g := g239_) rfl rfl (q.d d6_41)
 have zs241 := Nat.le_trans Z0 (Keep.of_wr W240).1
 have kp241 := kp0.wr W240 (own_i0)
 have Fw240 := (FS).same W240
 have N240 := Fr.snoc X240 N0 g1
 refine own_stp 44 st240 (own_iln X240 q d6_44 rfl ?_)
 refine own_ist X240 q hZ e240 (VB.other W240 (Ne.symm nab)) d6_45 (by decide) (Nat.le_of_ble_eq_true rfl) N240 gb fun T242 h242 X242 e242 W242 V242 N242 => ?_
 have zs243 := Nat.le_trans zs241 (Keep.of_wr W242).1
 have kp243 := kp241.wr W242 (own_i1)
 refine own_aln X242 q d6_46 rfl rfl ?_
 refine own_gF X242 q hZ e242 hown (W 22 rfl) ((FR.other W240 (Or.inr (slot_ne (Or.inl (W 23 rfl)) (Or.inl (W 30 rfl)) (by decide) (t := (.array .int)) (t' := .int) (by decide) (by decide)))).other W242 (Or.inl nab)) d6_47 fun T244 X244 e244 => ?_
 refine own_aln X244 q d6_50 rfl rfl (own_dp X244 q d6_51 rfl ?_)
 refine own_gF X244 q hZ e244 hown (W 29 rfl) (Fw240.other W242 (Or.inl nab)) d6_52 fun T245 X245 e245 => ?_
 refine own_stp 56 (fun _ k => XS.dupX1 X245.here hx rfl (q.d d6_55) rfl rfl rfl k) (own_k X245 q d6_56 (own_iaddk 12 X245 q d6_57 (by decide) ?_))
 refine own_let ?_; intro g246_
 obtain ⟨T247, h247, X247, e247, W247, st247⟩ := putF X245 hx hZ hown (host := "") (Or.inl (W 29 rfl)) Via.refl e245 (Fw240.other W242 (Or.inl nab)) ((E1.wr W240).wr W242) (Or.inl (W 30 rfl)) (W 13 rfl) (ty := .int) (by decide) rfl rfl (g := g246_) rfl rfl (q.d d6_58)
 have zs248 := Nat.le_trans zs243 (Keep.of_wr W247).1
 have kp248 := kp243.wr W247 (own_i0)
 have Fw247 := ((Fw240.other W242 (Or.inl nab))).same W247
 have N247 := Fr.snoc X247 N242 g1
 refine own_stp 61 st247 (own_iln X247 q d6_61 rfl ?_)
 refine own_ist X247 q hZ e247 (V242.other W247 (Ne.symm nab)) d6_62 (by decide) (Nat.le_of_ble_eq_true rfl) N247 gb fun T249 h249 X249 e249 W249 V249 N249 => ?_
 have zs250 := Nat.le_trans zs248 (Keep.of_wr W249).1
 have kp250 := kp248.wr W249 (own_i1)
 refine own_aln X249 q d6_63 rfl rfl ?_
 refine own_rA X249 q hrt d6_64 hlk (by decide) ?_
 show QAD5 Z a1 b k0 x0 x1 x2 x3 h0 n0 _ T249.heap _
 rw [e249]
 exact ⟨rfl, N249, kp250, ((((FR.other W240 (Or.inr (slot_ne (Or.inl (W 23 rfl)) (Or.inl (W 30 rfl)) (by decide) (t := (.array .int)) (t' := .int) (by decide) (by decide)))).other W242 (Or.inl nab)).other W247 (Or.inr (slot_ne (Or.inl (W 23 rfl)) (Or.inl (W 30 rfl)) (by decide) (t := (.array .int)) (t' := .int) (by decide) (by decide)))).other W249 (Or.inl nab)), (Fw247.other W249 (Or.inl nab)), V249⟩
theorem rm6_6 (l : Launch) (Z : State) (a0 : Array Value) (hw : own_hw a0 Z) (a1 : Addr) (x0 : Int32) (x1 : Int32) (b : Addr) (k0 : ClassId) (x2 x3 : Int32) (h0 : Heap) (n0 : Nat) (Z0 : n0 ≤ h0.size) (E1 : Exa Z h0 a1 "com/example/austere_json/austerejson/CodePointSet$Builder") (FR : F'0 Z h0 a1 (.ref b)) (FS : F'1 Z h0 a1 (.int (12 : Int32))) (VB : Arv Z h0 b k0 .int (16 : Int32) [(.int x0), (.int x1), (.int x2), (.int x3), (.int x0), (.int x1), (.int x2), (.int x3), (.int x0), (.int x1), (.int x2), (.int x3), v'0, v'0, v'0, v'0] v'0) (g1 : n0 ≤ a1) (gb : n0 ≤ b) (nab : a1 ≠ b) :
  own_M l Z [] own_y5 b'6 3 (some (.object "com/example/austere_json/austerejson/CodePointSet$Builder")) ⟨0, 0, 0, 0⟩ #[(.ref a1), (.int x0), (.int x1)] h0 (QAD6 Z a1 b k0 x0 x1 x2 x3 h0 n0) := by
 refine own_start (n0 := n0) hw "com/example/austere_json/austerejson/CodePointSet$Builder" (L := #[.val (.ref a1), .val (.int x0), .val (.int x1)]) pn_6 (fun {p e s m below meth c s₁} q hx W hml hZ hown hnm hlk hrt X0 e0 N0 => ?_)
 have kp0 := Keep.refl h0 [a1, b]
 refine own_aln X0 q d6_0 rfl rfl ?_
 refine own_gF X0 q hZ e0 hown (W 29 rfl) FS d6_1 fun T267 X267 e267 => ?_
 refine own_aln X267 q d6_4 rfl rfl ?_
 refine own_gF X267 q hZ e267 hown (W 22 rfl) FR d6_5 fun T268 X268 e268 => ?_
 refine own_alen (n := (16 : Int32)) X268 q hZ e268 VB d6_8 (own_cy X268 q d6_9 ((feq ((by decide) : ¬ ((12 : Int32) = (16 : Int32)))).2) (own_aln X268 q d6_29 rfl rfl ?_))
 refine own_gF X268 q hZ e268 hown (W 22 rfl) FR d6_30 fun T269 X269 e269 => ?_
 refine own_aln X269 q d6_33 rfl rfl (own_dp X269 q d6_34 rfl ?_)
 refine own_gF X269 q hZ e269 hown (W 29 rfl) FS d6_35 fun T270 X270 e270 => ?_
 refine own_stp 39 (fun _ k => XS.dupX1 X270.here hx rfl (q.d d6_38) rfl rfl rfl k) (own_k X270 q d6_39 (own_iaddk 13 X270 q d6_40 (by decide) ?_))
 refine own_let ?_; intro g271_
 obtain ⟨T272, h272, X272, e272, W272, st272⟩ := putF X270 hx hZ hown (host := "") (Or.inl (W 29 rfl)) Via.refl e270 FS E1 (Or.inl (W 30 rfl)) (W 13 rfl) (ty := .int) (by decide) rfl rfl (g := g271_) rfl rfl (q.d d6_41)
 have zs273 := Nat.le_trans Z0 (Keep.of_wr W272).1
 have kp273 := kp0.wr W272 (own_i0)
 have Fw272 := (FS).same W272
 have N272 := Fr.snoc X272 N0 g1
 refine own_stp 44 st272 (own_iln X272 q d6_44 rfl ?_)
 refine own_ist X272 q hZ e272 (VB.other W272 (Ne.symm nab)) d6_45 (by decide) (Nat.le_of_ble_eq_true rfl) N272 gb fun T274 h274 X274 e274 W274 V274 N274 => ?_
 have zs275 := Nat.le_trans zs273 (Keep.of_wr W274).1
 have kp275 := kp273.wr W274 (own_i1)
 refine own_aln X274 q d6_46 rfl rfl ?_
 refine own_gF X274 q hZ e274 hown (W 22 rfl) ((FR.other W272 (Or.inr (slot_ne (Or.inl (W 23 rfl)) (Or.inl (W 30 rfl)) (by decide) (t := (.array .int)) (t' := .int) (by decide) (by decide)))).other W274 (Or.inl nab)) d6_47 fun T276 X276 e276 => ?_
 refine own_aln X276 q d6_50 rfl rfl (own_dp X276 q d6_51 rfl ?_)
 refine own_gF X276 q hZ e276 hown (W 29 rfl) (Fw272.other W274 (Or.inl nab)) d6_52 fun T277 X277 e277 => ?_
 refine own_stp 56 (fun _ k => XS.dupX1 X277.here hx rfl (q.d d6_55) rfl rfl rfl k) (own_k X277 q d6_56 (own_iaddk 14 X277 q d6_57 (by decide) ?_))
 refine own_let ?_; intro g278_
 obtain ⟨T279, h279, X279, e279, W279, st279⟩ := putF X277 hx hZ hown (host := "") (Or.inl (W 29 rfl)) Via.refl e277 (Fw272.other W274 (Or.inl nab)) ((E1.wr W272).wr W274) (Or.inl (W 30 rfl)) (W 13 rfl) (ty := .int) (by decide) rfl rfl (g := g278_) rfl rfl (q.d d6_58)
 have zs280 := Nat.le_trans zs275 (Keep.of_wr W279).1
 have kp280 := kp275.wr W279 (own_i0)
 have Fw279 := ((Fw272.other W274 (Or.inl nab))).same W279
 have N279 := Fr.snoc X279 N274 g1
 refine own_stp 61 st279 (own_iln X279 q d6_61 rfl ?_)
 refine own_ist X279 q hZ e279 (V274.other W279 (Ne.symm nab)) d6_62 (by decide) (Nat.le_of_ble_eq_true rfl) N279 gb fun T281 h281 X281 e281 W281 V281 N281 => ?_
 have zs282 := Nat.le_trans zs280 (Keep.of_wr W281).1
 have kp282 := kp280.wr W281 (own_i1)
 refine own_aln X281 q d6_63 rfl rfl ?_
 refine own_rA X281 q hrt d6_64 hlk (by decide) ?_
 show QAD6 Z a1 b k0 x0 x1 x2 x3 h0 n0 _ T281.heap _
 rw [e281]
 exact ⟨rfl, N281, kp282, ((((FR.other W272 (Or.inr (slot_ne (Or.inl (W 23 rfl)) (Or.inl (W 30 rfl)) (by decide) (t := (.array .int)) (t' := .int) (by decide) (by decide)))).other W274 (Or.inl nab)).other W279 (Or.inr (slot_ne (Or.inl (W 23 rfl)) (Or.inl (W 30 rfl)) (by decide) (t := (.array .int)) (t' := .int) (by decide) (by decide)))).other W281 (Or.inl nab)), (Fw279.other W281 (Or.inl nab)), V281⟩
theorem rm6_7 (l : Launch) (Z : State) (a0 : Array Value) (hw : own_hw a0 Z) (a1 : Addr) (x2 : Int32) (x3 : Int32) (b : Addr) (k0 : ClassId) (x0 x1 : Int32) (h0 : Heap) (n0 : Nat) (Z0 : n0 ≤ h0.size) (E1 : Exa Z h0 a1 "com/example/austere_json/austerejson/CodePointSet$Builder") (FR : F'0 Z h0 a1 (.ref b)) (FS : F'1 Z h0 a1 (.int (14 : Int32))) (VB : Arv Z h0 b k0 .int (16 : Int32) [(.int x0), (.int x1), (.int x2), (.int x3), (.int x0), (.int x1), (.int x2), (.int x3), (.int x0), (.int x1), (.int x2), (.int x3), (.int x0), (.int x1), v'0, v'0] v'0) (g1 : n0 ≤ a1) (gb : n0 ≤ b) (nab : a1 ≠ b) :
  own_M l Z [] own_y5 b'6 3 (some (.object "com/example/austere_json/austerejson/CodePointSet$Builder")) ⟨0, 0, 0, 0⟩ #[(.ref a1), (.int x2), (.int x3)] h0 (QAD7 Z a1 b k0 x0 x1 x2 x3 h0 n0) := by
 refine own_start (n0 := n0) hw "com/example/austere_json/austerejson/CodePointSet$Builder" (L := #[.val (.ref a1), .val (.int x2), .val (.int x3)]) pn_6 (fun {p e s m below meth c s₁} q hx W hml hZ hown hnm hlk hrt X0 e0 N0 => ?_)
 have kp0 := Keep.refl h0 [a1, b]
 refine own_aln X0 q d6_0 rfl rfl ?_
 refine own_gF X0 q hZ e0 hown (W 29 rfl) FS d6_1 fun T299 X299 e299 => ?_
 refine own_aln X299 q d6_4 rfl rfl ?_
 refine own_gF X299 q hZ e299 hown (W 22 rfl) FR d6_5 fun T300 X300 e300 => ?_
 refine own_alen (n := (16 : Int32)) X300 q hZ e300 VB d6_8 (own_cy X300 q d6_9 ((feq ((by decide) : ¬ ((14 : Int32) = (16 : Int32)))).2) (own_aln X300 q d6_29 rfl rfl ?_))
 refine own_gF X300 q hZ e300 hown (W 22 rfl) FR d6_30 fun T301 X301 e301 => ?_
 refine own_aln X301 q d6_33 rfl rfl (own_dp X301 q d6_34 rfl ?_)
 refine own_gF X301 q hZ e301 hown (W 29 rfl) FS d6_35 fun T302 X302 e302 => ?_
 refine own_stp 39 (fun _ k => XS.dupX1 X302.here hx rfl (q.d d6_38) rfl rfl rfl k) (own_k X302 q d6_39 (own_iaddk 15 X302 q d6_40 (by decide) ?_))
 refine own_let ?_; intro g303_
 obtain ⟨T304, h304, X304, e304, W304, st304⟩ := putF X302 hx hZ hown (host := "") (Or.inl (W 29 rfl)) Via.refl e302 FS E1 (Or.inl (W 30 rfl)) (W 13 rfl) (ty := .int) (by decide) rfl rfl (g := g303_) rfl rfl (q.d d6_41)
 have zs305 := Nat.le_trans Z0 (Keep.of_wr W304).1
 have kp305 := kp0.wr W304 (own_i0)
 have Fw304 := (FS).same W304
 have N304 := Fr.snoc X304 N0 g1
 refine own_stp 44 st304 (own_iln X304 q d6_44 rfl ?_)
 refine own_ist X304 q hZ e304 (VB.other W304 (Ne.symm nab)) d6_45 (by decide) (Nat.le_of_ble_eq_true rfl) N304 gb fun T306 h306 X306 e306 W306 V306 N306 => ?_
 have zs307 := Nat.le_trans zs305 (Keep.of_wr W306).1
 have kp307 := kp305.wr W306 (own_i1)
 refine own_aln X306 q d6_46 rfl rfl ?_
 refine own_gF X306 q hZ e306 hown (W 22 rfl) ((FR.other W304 (Or.inr (slot_ne (Or.inl (W 23 rfl)) (Or.inl (W 30 rfl)) (by decide) (t := (.array .int)) (t' := .int) (by decide) (by decide)))).other W306 (Or.inl nab)) d6_47 fun T308 X308 e308 => ?_
 refine own_aln X308 q d6_50 rfl rfl (own_dp X308 q d6_51 rfl ?_)
 refine own_gF X308 q hZ e308 hown (W 29 rfl) (Fw304.other W306 (Or.inl nab)) d6_52 fun T309 X309 e309 => ?_
 refine own_stp 56 (fun _ k => XS.dupX1 X309.here hx rfl (q.d d6_55) rfl rfl rfl k) (own_k X309 q d6_56 (own_iaddk 16 X309 q d6_57 (by decide) ?_))
 refine own_let ?_; intro g310_
 obtain ⟨T311, h311, X311, e311, W311, st311⟩ := putF X309 hx hZ hown (host := "") (Or.inl (W 29 rfl)) Via.refl e309 (Fw304.other W306 (Or.inl nab)) ((E1.wr W304).wr W306) (Or.inl (W 30 rfl)) (W 13 rfl) (ty := .int) (by decide) rfl rfl (g := g310_) rfl rfl (q.d d6_58)
 have zs312 := Nat.le_trans zs307 (Keep.of_wr W311).1
 have kp312 := kp307.wr W311 (own_i0)
 have Fw311 := ((Fw304.other W306 (Or.inl nab))).same W311
 have N311 := Fr.snoc X311 N306 g1
 refine own_stp 61 st311 (own_iln X311 q d6_61 rfl ?_)
 refine own_ist X311 q hZ e311 (V306.other W311 (Ne.symm nab)) d6_62 (by decide) (Nat.le_of_ble_eq_true rfl) N311 gb fun T313 h313 X313 e313 W313 V313 N313 => ?_
 have zs314 := Nat.le_trans zs312 (Keep.of_wr W313).1
 have kp314 := kp312.wr W313 (own_i1)
 refine own_aln X313 q d6_63 rfl rfl ?_
 refine own_rA X313 q hrt d6_64 hlk (by decide) ?_
 show QAD7 Z a1 b k0 x0 x1 x2 x3 h0 n0 _ T313.heap _
 rw [e313]
 exact ⟨rfl, N313, kp314, ((((FR.other W304 (Or.inr (slot_ne (Or.inl (W 23 rfl)) (Or.inl (W 30 rfl)) (by decide) (t := (.array .int)) (t' := .int) (by decide) (by decide)))).other W306 (Or.inl nab)).other W311 (Or.inr (slot_ne (Or.inl (W 23 rfl)) (Or.inl (W 30 rfl)) (by decide) (t := (.array .int)) (t' := .int) (by decide) (by decide)))).other W313 (Or.inl nab)), (Fw311.other W313 (Or.inl nab)), V313⟩
theorem rm6_8 (l : Launch) (Z : State) (a0 : Array Value) (hw : own_hw a0 Z) (a1 : Addr) (x0 : Int32) (x1 : Int32) (b : Addr) (k0 : ClassId) (x2 x3 : Int32) (h0 : Heap) (n0 : Nat) (Z0 : n0 ≤ h0.size) (E1 : Exa Z h0 a1 "com/example/austere_json/austerejson/CodePointSet$Builder") (FR : F'0 Z h0 a1 (.ref b)) (FS : F'1 Z h0 a1 (.int (16 : Int32))) (VB : Arv Z h0 b k0 .int (16 : Int32) [(.int x0), (.int x1), (.int x2), (.int x3), (.int x0), (.int x1), (.int x2), (.int x3), (.int x0), (.int x1), (.int x2), (.int x3), (.int x0), (.int x1), (.int x2), (.int x3)] v'0) (g1 : n0 ≤ a1) (gb : n0 ≤ b) (nab : a1 ≠ b) :
  own_M l Z [] own_y5 b'6 3 (some (.object "com/example/austere_json/austerejson/CodePointSet$Builder")) ⟨2, 1, 32, 33⟩ #[(.ref a1), (.int x0), (.int x1)] h0 (QAD8 Z a1 b k0 x0 x1 x2 x3 h0 n0) := by
 refine own_start (n0 := n0) hw "com/example/austere_json/austerejson/CodePointSet$Builder" (L := #[.val (.ref a1), .val (.int x0), .val (.int x1)]) pn_6 (fun {p e s m below meth c s₁} q hx W hml hZ hown hnm hlk hrt X0 e0 N0 => ?_)
 have kp0 := Keep.refl h0 [a1]
 refine own_aln X0 q d6_0 rfl rfl ?_
 refine own_gF X0 q hZ e0 hown (W 29 rfl) FS d6_1 fun T338 X338 e338 => ?_
 refine own_aln X338 q d6_4 rfl rfl ?_
 refine own_gF X338 q hZ e338 hown (W 22 rfl) FR d6_5 fun T339 X339 e339 => ?_
 refine own_alen (n := (16 : Int32)) X339 q hZ e339 VB d6_8 (own_cn X339 q d6_9 ((teq (rfl : (16 : Int32) = (16 : Int32))).2) (own_aln X339 q d6_12 rfl rfl (own_aln X339 q d6_13 rfl rfl ?_)))
 refine own_gF X339 q hZ e339 hown (W 22 rfl) FR d6_14 fun T340 X340 e340 => ?_
 refine own_aln X340 q d6_17 rfl rfl ?_
 refine own_gF X340 q hZ e340 hown (W 29 rfl) FS d6_18 fun T341 X341 e341 => ?_
 refine own_k X341 q d6_21 (own_stp 23 (fun _ k => XS.imul X341.here hx rfl (q.d d6_22) rfl k) ?_)
 rw [show ((16 : Int32) * (2 : Int32)) = (32 : Int32) from by decide]
 refine own_cSh X341 q hZ e341 hown hml (W 31 rfl) (W 32 rfl) (W 33 rfl) (W 34 rfl) (rm7_a l Z a0 hw b k0 x0 x1 x2 x3 h0 n0 Z0 VB) d6_23 [(.ref b), (.int (32 : Int32))] [(.ref a1)] own_pd1 rfl rfl 1 (Nat.le_refl _) (by decide) (fun v342 T342 L342 h342 e342' X342 hQ342 => ?_)
 obtain ⟨b342, k342, rfl, N342q, E342, lo342, V342⟩ := hQ342
 have N342 := Fr.app N0 N342q
 have zs343 := Nat.le_trans Z0 E342.1
 have kp343 := kp0.ext E342
 have g_b342 : n0 ≤ b342 := Nat.le_trans Z0 lo342
 have sz_b342 : h0.size ≤ b342 := Nat.le_trans kp0.1 lo342
 refine own_nv ?_
 refine own_let ?_; intro g344_
 obtain ⟨T345, h345, X345, e345, W345, st345⟩ := putF X342 hx hZ hown (host := "") (Or.inl (W 22 rfl)) Via.refl e342' (FR.ext E342) (E1.ext E342) (Or.inl (W 23 rfl)) (W 13 rfl) (ty := (.array .int)) (by decide) rfl rfl (g := g344_) rfl rfl (q.d d6_26)
 have zs346 := Nat.le_trans zs343 (Keep.of_wr W345).1
 have kp346 := kp343.wr W345 (own_i0)
 have Fw345 := ((FR.ext E342)).same W345
 have N345 := Fr.snoc X345 N342 g1
 refine own_stp 29 st345 (own_aln X345 q d6_29 rfl rfl ?_)
 refine own_gF X345 q hZ e345 hown (W 22 rfl) Fw345 d6_30 fun T347 X347 e347 => ?_
 refine own_aln X347 q d6_33 rfl rfl (own_dp X347 q d6_34 rfl ?_)
 refine own_gF X347 q hZ e347 hown (W 29 rfl) ((FS.ext E342).other W345 (Or.inr (slot_ne (Or.inl (W 30 rfl)) (Or.inl (W 23 rfl)) (by decide) (t := .int) (t' := (.array .int)) (by decide) (by decide)))) d6_35 fun T348 X348 e348 => ?_
 refine own_stp 39 (fun _ k => XS.dupX1 X348.here hx rfl (q.d d6_38) rfl rfl rfl k) (own_k X348 q d6_39 (own_iaddk 17 X348 q d6_40 (by decide) ?_))
 refine own_let ?_; intro g349_
 obtain ⟨T350, h350, X350, e350, W350, st350⟩ := putF X348 hx hZ hown (host := "") (Or.inl (W 29 rfl)) Via.refl e348 ((FS.ext E342).other W345 (Or.inr (slot_ne (Or.inl (W 30 rfl)) (Or.inl (W 23 rfl)) (by decide) (t := .int) (t' := (.array .int)) (by decide) (by decide)))) ((E1.ext E342).wr W345) (Or.inl (W 30 rfl)) (W 13 rfl) (ty := .int) (by decide) rfl rfl (g := g349_) rfl rfl (q.d d6_41)
 have zs351 := Nat.le_trans zs346 (Keep.of_wr W350).1
 have kp351 := kp346.wr W350 (own_i0)
 have Fw350 := (((FS.ext E342).other W345 (Or.inr (slot_ne (Or.inl (W 30 rfl)) (Or.inl (W 23 rfl)) (by decide) (t := .int) (t' := (.array .int)) (by decide) (by decide))))).same W350
 have N350 := Fr.snoc X350 N345 g1
 refine own_stp 44 st350 (own_iln X350 q d6_44 rfl ?_)
 refine own_ist X350 q hZ e350 ((V342.other W345 (Ne.symm (own_ne (E1).lt lo342))).other W350 (Ne.symm (own_ne (E1).lt lo342))) d6_45 (by decide) (Nat.le_of_ble_eq_true rfl) N350 g_b342 fun T352 h352 X352 e352 W352 V352 N352 => ?_
 have zs353 := Nat.le_trans zs351 (Keep.of_wr W352).1
 have kp353 := kp351.wr W352 (Or.inr sz_b342)
 refine own_aln X352 q d6_46 rfl rfl ?_
 refine own_gF X352 q hZ e352 hown (W 22 rfl) ((Fw345.other W350 (Or.inr (slot_ne (Or.inl (W 23 rfl)) (Or.inl (W 30 rfl)) (by decide) (t := (.array .int)) (t' := .int) (by decide) (by decide)))).other W352 (Or.inl (own_ne (E1).lt lo342))) d6_47 fun T354 X354 e354 => ?_
 refine own_aln X354 q d6_50 rfl rfl (own_dp X354 q d6_51 rfl ?_)
 refine own_gF X354 q hZ e354 hown (W 29 rfl) (Fw350.other W352 (Or.inl (own_ne (E1).lt lo342))) d6_52 fun T355 X355 e355 => ?_
 refine own_stp 56 (fun _ k => XS.dupX1 X355.here hx rfl (q.d d6_55) rfl rfl rfl k) (own_k X355 q d6_56 (own_iaddk 18 X355 q d6_57 (by decide) ?_))
 refine own_let ?_; intro g356_
 obtain ⟨T357, h357, X357, e357, W357, st357⟩ := putF X355 hx hZ hown (host := "") (Or.inl (W 29 rfl)) Via.refl e355 (Fw350.other W352 (Or.inl (own_ne (E1).lt lo342))) ((((E1.ext E342).wr W345).wr W350).wr W352) (Or.inl (W 30 rfl)) (W 13 rfl) (ty := .int) (by decide) rfl rfl (g := g356_) rfl rfl (q.d d6_58)
 have zs358 := Nat.le_trans zs353 (Keep.of_wr W357).1
 have kp358 := kp353.wr W357 (own_i0)
 have Fw357 := ((Fw350.other W352 (Or.inl (own_ne (E1).lt lo342)))).same W357
 have N357 := Fr.snoc X357 N352 g1
 refine own_stp 61 st357 (own_iln X357 q d6_61 rfl ?_)
 refine own_ist X357 q hZ e357 (V352.other W357 (Ne.symm (own_ne (E1).lt lo342))) d6_62 (by decide) (Nat.le_of_ble_eq_true rfl) N357 g_b342 fun T359 h359 X359 e359 W359 V359 N359 => ?_
 have zs360 := Nat.le_trans zs358 (Keep.of_wr W359).1
 have kp360 := kp358.wr W359 (Or.inr sz_b342)
 refine own_aln X359 q d6_63 rfl rfl ?_
 refine own_rA X359 q hrt d6_64 hlk (by decide) ?_
 show QAD8 Z a1 b k0 x0 x1 x2 x3 h0 n0 _ T359.heap _
 rw [e359]
 exact ⟨_, _, rfl, N359, kp360, sz_b342, ((((Fw345.other W350 (Or.inr (slot_ne (Or.inl (W 23 rfl)) (Or.inl (W 30 rfl)) (by decide) (t := (.array .int)) (t' := .int) (by decide) (by decide)))).other W352 (Or.inl (own_ne (E1).lt lo342))).other W357 (Or.inr (slot_ne (Or.inl (W 23 rfl)) (Or.inl (W 30 rfl)) (by decide) (t := (.array .int)) (t' := .int) (by decide) (by decide)))).other W359 (Or.inl (own_ne (E1).lt lo342))), (Fw357.other W359 (Or.inl (own_ne (E1).lt lo342))), V359⟩
theorem d12_0 : own_D b'12 0 (.iload_n 1) 1 1 := by decide +kernel
theorem d12_1 : own_D b'12 1 (.istore 4) 2 3 := by decide +kernel
theorem d12_3 : own_DI b'12 3 4 1 6 := by decide +kernel
theorem d12_6 : own_D b'12 6 (.iload 4) 2 8 := by decide +kernel
theorem d12_8 : own_D b'12 8 (.iload_n 2) 1 9 := by decide +kernel
theorem d12_9 : own_DJ b'12 9 .ge 69 12 := by decide +kernel
theorem d12_12 : own_D b'12 12 (.aload_n 0) 1 13 := by decide +kernel
theorem d12_13 : own_D b'12 13 (.iload 4) 2 15 := by decide +kernel
theorem d12_15 : own_D b'12 15 .dup 1 16 := by decide +kernel
theorem d12_16 : own_D b'12 16 (.istore_n 3) 1 17 := by decide +kernel
theorem d12_17 : own_D b'12 17 .laload 1 18 := by decide +kernel
theorem d12_18 : own_D b'12 18 (.lstore 5) 2 20 := by decide +kernel
theorem d12_20 : own_D b'12 20 (.lload 5) 2 22 := by decide +kernel
theorem d12_22 : own_D b'12 22 (.aload_n 0) 1 23 := by decide +kernel
theorem d12_23 : own_D b'12 23 (.iload_n 3) 1 24 := by decide +kernel
theorem d12_24 : own_DK b'12 24 1 25 := by decide +kernel
theorem d12_25 : own_D b'12 25 .isub 1 26 := by decide +kernel
theorem d12_26 : own_D b'12 26 .laload 1 27 := by decide +kernel
theorem d12_27 : own_D b'12 27 .lcmp 1 28 := by decide +kernel
theorem d12_28 : own_DZ b'12 28 .ge 66 31 := by decide +kernel
theorem d12_31 : own_DI b'12 31 3 (-1) 34 := by decide +kernel
theorem d12_34 : own_D b'12 34 (.iload_n 3) 1 35 := by decide +kernel
theorem d12_35 : own_D b'12 35 (.iload_n 1) 1 36 := by decide +kernel
theorem d12_36 : own_DJ b'12 36 .lt 59 39 := by decide +kernel
theorem d12_39 : own_D b'12 39 (.lload 5) 2 41 := by decide +kernel
theorem d12_41 : own_D b'12 41 (.aload_n 0) 1 42 := by decide +kernel
theorem d12_42 : own_D b'12 42 (.iload_n 3) 1 43 := by decide +kernel
theorem d12_43 : own_D b'12 43 .laload 1 44 := by decide +kernel
theorem d12_44 : own_D b'12 44 .lcmp 1 45 := by decide +kernel
theorem d12_45 : own_DZ b'12 45 .ge 59 48 := by decide +kernel
theorem d12_48 : own_D b'12 48 (.aload_n 0) 1 49 := by decide +kernel
theorem d12_49 : own_D b'12 49 (.iload_n 3) 1 50 := by decide +kernel
theorem d12_50 : own_DK b'12 50 1 51 := by decide +kernel
theorem d12_51 : own_D b'12 51 .iadd 1 52 := by decide +kernel
theorem d12_52 : own_D b'12 52 (.aload_n 0) 1 53 := by decide +kernel
theorem d12_53 : own_D b'12 53 (.iload_n 3) 1 54 := by decide +kernel
theorem d12_54 : own_D b'12 54 .laload 1 55 := by decide +kernel
theorem d12_55 : own_D b'12 55 .lastore 1 56 := by decide +kernel
theorem d12_56 : own_DG b'12 56 31 := by decide +kernel
theorem d12_59 : own_D b'12 59 (.aload_n 0) 1 60 := by decide +kernel
theorem d12_60 : own_D b'12 60 (.iload_n 3) 1 61 := by decide +kernel
theorem d12_61 : own_DK b'12 61 1 62 := by decide +kernel
theorem d12_62 : own_D b'12 62 .iadd 1 63 := by decide +kernel
theorem d12_63 : own_D b'12 63 (.lload 5) 2 65 := by decide +kernel
theorem d12_65 : own_D b'12 65 .lastore 1 66 := by decide +kernel
theorem d12_66 : own_DG b'12 66 3 := by decide +kernel
theorem d12_69 : own_D b'12 69 .return_ 1 70 := by decide +kernel
theorem pn_12 : plainFor (⟨"java/util/DualPivotQuicksort", "insertionSort", "([JII)V"⟩ : MethodName) = true := plainFor_of_name (by first | (simp [plainName, overriddenIn]; done) | decide +kernel)
theorem rm12_1 (l : Launch) (Z : State) (a0 : Array Value) (hw : own_hw a0 Z) (a1 : Addr) (k0 : ClassId) (al be : Int64) (h0 : Heap) (n0 : Nat) (Z0 : n0 ≤ h0.size) (VA : Arv Z h0 a1 k0 .long (9 : Int32) [(.long al), (.long be), (.long al), (.long be), (.long al), (.long be), (.long al), (.long be), (.long al)] (.long (0 : Int64))) (g1 : n0 ≤ a1) (hlt : lcmpW al be < (0 : Int32)) (hgt : ¬ lcmpW be al < (0 : Int32)) :
  own_M l Z [] own_y6 b'12 7 none ⟨0, 0, 0, 0⟩ #[(.ref a1), v'0, v'9] h0 (QS1 Z a1 k0 al be h0 n0) := by
 refine own_start (n0 := n0) hw "java/util/DualPivotQuicksort" (L := #[.val (.ref a1), .val v'0, .val v'9, .unset, .unset, .unset, .unset]) pn_12 (fun {p e s m below meth c s₁} q hx W hml hZ hown hnm hlk hrt X0 e0 N0 => ?_)
 have kp0 := Keep.refl h0 [a1]
 refine own_iln X0 q d12_0 rfl (own_is X0 q d12_1 (l' := #[.val (.ref a1), .val v'0, .val v'9, .unset, .val v'0, .unset, .unset]) rfl (own_iik X0 q d12_3 rfl (show ((0 : Int32) + (1 : Int32)) = (1 : Int32) by decide) (l' := #[.val (.ref a1), .val v'0, .val v'9, .unset, .val v'1, .unset, .unset]) rfl (own_il X0 q d12_6 rfl (own_iln X0 q d12_8 rfl (own_cn X0 q d12_9 ((tlt ((by decide) : (1 : Int32) < (9 : Int32))).2.1) (own_aln X0 q d12_12 rfl rfl (own_il X0 q d12_13 rfl (own_dp X0 q d12_15 rfl (own_isn X0 q d12_16 (l' := #[.val (.ref a1), .val v'0, .val v'9, .val v'1, .val v'1, .unset, .unset]) rfl ?_)))))))))
 obtain ⟨cl457, Ar457, q457, S457, M457, H457, G457⟩ := id VA
 refine own_stp 18 (fun _ k => X0.laload hx (j := (1 : Int32)) (v := (.long be)) (by rw [e0]; exact Ar457.1) (State.isArrayOf_alike hZ.alike Ar457.2.1) Ar457.2.2 (inb_of S457 ⟨by decide, by decide⟩) (Has.at H457 (inb_of S457 ⟨by decide, by decide⟩) rfl) (g := mkF m 17 _ _) rfl rfl (q.d d12_17) _ k) (own_ls X0 q d12_18 (l' := #[.val (.ref a1), .val v'0, .val v'9, .val v'1, .val v'1, .val (.long be), .second]) rfl (own_ll X0 q d12_20 rfl (own_aln X0 q d12_22 rfl rfl (own_iln X0 q d12_23 rfl (own_k X0 q d12_24 (own_isubk 0 X0 q d12_25 (by decide) ?_))))))
 obtain ⟨cl458, Ar458, q458, S458, M458, H458, G458⟩ := id VA
 refine own_stp 27 (fun _ k => X0.laload hx (j := (0 : Int32)) (v := (.long al)) (by rw [e0]; exact Ar458.1) (State.isArrayOf_alike hZ.alike Ar458.2.1) Ar458.2.2 (inb_of S458 ⟨by decide, by decide⟩) (Has.at H458 (inb_of S458 ⟨by decide, by decide⟩) rfl) (g := mkF m 26 _ _) rfl rfl (q.d d12_26) _ k) (own_stq 28 [(.int (lcmpW be al))] (fun _ k => XS.lcmp X0.here hx rfl (q.d d12_27) rfl k) (own_zy X0 q d12_28 (((if0 _ _).trans (flt (hgt : ¬ ((lcmpW be al) < (0 : Int32)))).2.1)) (own_gt X0 q d12_66 (own_iik X0 q d12_3 rfl (show ((1 : Int32) + (1 : Int32)) = (2 : Int32) by decide) (l' := #[.val (.ref a1), .val v'0, .val v'9, .val v'1, .val v'2, .val (.long be), .second]) rfl (own_il X0 q d12_6 rfl (own_iln X0 q d12_8 rfl (own_cn X0 q d12_9 ((tlt ((by decide) : (2 : Int32) < (9 : Int32))).2.1) (own_aln X0 q d12_12 rfl rfl (own_il X0 q d12_13 rfl (own_dp X0 q d12_15 rfl (own_isn X0 q d12_16 (l' := #[.val (.ref a1), .val v'0, .val v'9, .val v'2, .val v'2, .val (.long be), .second]) rfl ?_)))))))))))
 obtain ⟨cl459, Ar459, q459, S459, M459, H459, G459⟩ := id VA
 refine own_stp 18 (fun _ k => X0.laload hx (j := (2 : Int32)) (v := (.long al)) (by rw [e0]; exact Ar459.1) (State.isArrayOf_alike hZ.alike Ar459.2.1) Ar459.2.2 (inb_of S459 ⟨by decide, by decide⟩) (Has.at H459 (inb_of S459 ⟨by decide, by decide⟩) rfl) (g := mkF m 17 _ _) rfl rfl (q.d d12_17) _ k) (own_ls X0 q d12_18 (l' := #[.val (.ref a1), .val v'0, .val v'9, .val v'2, .val v'2, .val (.long al), .second]) rfl (own_ll X0 q d12_20 rfl (own_aln X0 q d12_22 rfl rfl (own_iln X0 q d12_23 rfl (own_k X0 q d12_24 (own_isubk 1 X0 q d12_25 (by decide) ?_))))))
 obtain ⟨cl460, Ar460, q460, S460, M460, H460, G460⟩ := id VA
 refine own_stp 27 (fun _ k => X0.laload hx (j := (1 : Int32)) (v := (.long be)) (by rw [e0]; exact Ar460.1) (State.isArrayOf_alike hZ.alike Ar460.2.1) Ar460.2.2 (inb_of S460 ⟨by decide, by decide⟩) (Has.at H460 (inb_of S460 ⟨by decide, by decide⟩) rfl) (g := mkF m 26 _ _) rfl rfl (q.d d12_26) _ k) (own_stq 28 [(.int (lcmpW al be))] (fun _ k => XS.lcmp X0.here hx rfl (q.d d12_27) rfl k) (own_zn X0 q d12_28 (((if0 _ _).trans (tlt (hlt : (lcmpW al be) < (0 : Int32))).2.1)) (own_iik X0 q d12_31 rfl (show ((2 : Int32) + (-1 : Int32)) = (1 : Int32) by decide) (l' := #[.val (.ref a1), .val v'0, .val v'9, .val v'1, .val v'2, .val (.long al), .second]) rfl (own_iln X0 q d12_34 rfl (own_iln X0 q d12_35 rfl (own_cn X0 q d12_36 ((flt ((by decide) : ¬ ((1 : Int32) < (0 : Int32)))).1) (own_ll X0 q d12_39 rfl (own_aln X0 q d12_41 rfl rfl (own_iln X0 q d12_42 rfl ?_)))))))))
 obtain ⟨cl461, Ar461, q461, S461, M461, H461, G461⟩ := id VA
 refine own_stp 44 (fun _ k => X0.laload hx (j := (1 : Int32)) (v := (.long be)) (by rw [e0]; exact Ar461.1) (State.isArrayOf_alike hZ.alike Ar461.2.1) Ar461.2.2 (inb_of S461 ⟨by decide, by decide⟩) (Has.at H461 (inb_of S461 ⟨by decide, by decide⟩) rfl) (g := mkF m 43 _ _) rfl rfl (q.d d12_43) _ k) (own_stq 45 [(.int (lcmpW al be))] (fun _ k => XS.lcmp X0.here hx rfl (q.d d12_44) rfl k) (own_zn X0 q d12_45 (((if0 _ _).trans (tlt (hlt : (lcmpW al be) < (0 : Int32))).2.1)) (own_aln X0 q d12_48 rfl rfl (own_iln X0 q d12_49 rfl (own_k X0 q d12_50 (own_iaddk 2 X0 q d12_51 (by decide) (own_aln X0 q d12_52 rfl rfl (own_iln X0 q d12_53 rfl ?_))))))))
 obtain ⟨cl462, Ar462, q462, S462, M462, H462, G462⟩ := id VA
 refine own_stp 55 (fun _ k => X0.laload hx (j := (1 : Int32)) (v := (.long be)) (by rw [e0]; exact Ar462.1) (State.isArrayOf_alike hZ.alike Ar462.2.1) Ar462.2.2 (inb_of S462 ⟨by decide, by decide⟩) (Has.at H462 (inb_of S462 ⟨by decide, by decide⟩) rfl) (g := mkF m 54 _ _) rfl rfl (q.d d12_54) _ k) ?_
 refine own_let ?_; intro g463_
 obtain ⟨cl464, Ar464, q464, S464, M464, H464, G464⟩ := id VA
 obtain ⟨T465, h465, X465, e465, W465, st465⟩ := stJ X0 hx hZ e0 Ar464 (j := (2 : Int32)) (inb_of S464 ⟨by decide, by decide⟩) (g := g463_) rfl rfl (q.d d12_55)
 have zs466 := Nat.le_trans Z0 (Keep.of_wr W465).1
 have kp466 := kp0.wr W465 (own_i0)
 have V465 : Arv Z h465 a1 k0 .long (9 : Int32) [(.long al), (.long be), (.long be), (.long be), (.long al), (.long be), (.long al), (.long be), (.long al)] (.long (0 : Int64)) := Arv.set Ar464 q464 S464 M464 H464 G464 rfl W465 2 rfl (Nat.le_of_ble_eq_true rfl)
 have N465 := Fr.snoc X465 N0 g1
 refine own_stp 56 st465 (own_gt X465 q d12_56 (own_iik X465 q d12_31 rfl (show ((1 : Int32) + (-1 : Int32)) = (0 : Int32) by decide) (l' := #[.val (.ref a1), .val v'0, .val v'9, .val v'0, .val v'2, .val (.long al), .second]) rfl (own_iln X465 q d12_34 rfl (own_iln X465 q d12_35 rfl (own_cn X465 q d12_36 ((flt (Int32.lt_irrefl : ¬ ((0 : Int32) < (0 : Int32)))).1) (own_ll X465 q d12_39 rfl (own_aln X465 q d12_41 rfl rfl (own_iln X465 q d12_42 rfl ?_))))))))
 obtain ⟨cl467, Ar467, q467, S467, M467, H467, G467⟩ := id V465
 refine own_stp 44 (fun _ k => X465.laload hx (j := (0 : Int32)) (v := (.long al)) (by rw [e465]; exact Ar467.1) (State.isArrayOf_alike hZ.alike Ar467.2.1) Ar467.2.2 (inb_of S467 ⟨by decide, by decide⟩) (Has.at H467 (inb_of S467 ⟨by decide, by decide⟩) rfl) (g := mkF m 43 _ _) rfl rfl (q.d d12_43) _ k) (own_stq 45 [(.int (lcmpW al al))] (fun _ k => XS.lcmp X465.here hx rfl (q.d d12_44) rfl k) (own_zy X465 q d12_45 (((if0 _ _).trans (flt ((own_lself _) : ¬ ((lcmpW al al) < (0 : Int32)))).2.1)) (own_aln X465 q d12_59 rfl rfl (own_iln X465 q d12_60 rfl (own_k X465 q d12_61 (own_iaddk 1 X465 q d12_62 (by decide) (own_ll X465 q d12_63 rfl ?_)))))))
 refine own_let ?_; intro g468_
 obtain ⟨cl469, Ar469, q469, S469, M469, H469, G469⟩ := id V465
 obtain ⟨T470, h470, X470, e470, W470, st470⟩ := stJ X465 hx hZ e465 Ar469 (j := (1 : Int32)) (inb_of S469 ⟨by decide, by decide⟩) (g := g468_) rfl rfl (q.d d12_65)
 have zs471 := Nat.le_trans zs466 (Keep.of_wr W470).1
 have kp471 := kp466.wr W470 (own_i0)
 have V470 : Arv Z h470 a1 k0 .long (9 : Int32) [(.long al), (.long al), (.long be), (.long be), (.long al), (.long be), (.long al), (.long be), (.long al)] (.long (0 : Int64)) := Arv.set Ar469 q469 S469 M469 H469 G469 rfl W470 1 rfl (Nat.le_of_ble_eq_true rfl)
 have N470 := Fr.snoc X470 N465 g1
 refine own_stp 66 st470 (own_gt X470 q d12_66 (own_iik X470 q d12_3 rfl (show ((2 : Int32) + (1 : Int32)) = (3 : Int32) by decide) (l' := #[.val (.ref a1), .val v'0, .val v'9, .val v'0, .val v'3, .val (.long al), .second]) rfl (own_il X470 q d12_6 rfl (own_iln X470 q d12_8 rfl (own_cn X470 q d12_9 ((tlt ((by decide) : (3 : Int32) < (9 : Int32))).2.1) (own_aln X470 q d12_12 rfl rfl (own_il X470 q d12_13 rfl (own_dp X470 q d12_15 rfl (own_isn X470 q d12_16 (l' := #[.val (.ref a1), .val v'0, .val v'9, .val v'3, .val v'3, .val (.long al), .second]) rfl ?_)))))))))
 obtain ⟨cl472, Ar472, q472, S472, M472, H472, G472⟩ := id V470
 refine own_stp 18 (fun _ k => X470.laload hx (j := (3 : Int32)) (v := (.long be)) (by rw [e470]; exact Ar472.1) (State.isArrayOf_alike hZ.alike Ar472.2.1) Ar472.2.2 (inb_of S472 ⟨by decide, by decide⟩) (Has.at H472 (inb_of S472 ⟨by decide, by decide⟩) rfl) (g := mkF m 17 _ _) rfl rfl (q.d d12_17) _ k) (own_ls X470 q d12_18 (l' := #[.val (.ref a1), .val v'0, .val v'9, .val v'3, .val v'3, .val (.long be), .second]) rfl (own_ll X470 q d12_20 rfl (own_aln X470 q d12_22 rfl rfl (own_iln X470 q d12_23 rfl (own_k X470 q d12_24 (own_isubk 2 X470 q d12_25 (by decide) ?_))))))
 obtain ⟨cl473, Ar473, q473, S473, M473, H473, G473⟩ := id V470
 refine own_stp 27 (fun _ k => X470.laload hx (j := (2 : Int32)) (v := (.long be)) (by rw [e470]; exact Ar473.1) (State.isArrayOf_alike hZ.alike Ar473.2.1) Ar473.2.2 (inb_of S473 ⟨by decide, by decide⟩) (Has.at H473 (inb_of S473 ⟨by decide, by decide⟩) rfl) (g := mkF m 26 _ _) rfl rfl (q.d d12_26) _ k) (own_stq 28 [(.int (lcmpW be be))] (fun _ k => XS.lcmp X470.here hx rfl (q.d d12_27) rfl k) (own_zy X470 q d12_28 (((if0 _ _).trans (flt ((own_lself _) : ¬ ((lcmpW be be) < (0 : Int32)))).2.1)) (own_gt X470 q d12_66 (own_iik X470 q d12_3 rfl (show ((3 : Int32) + (1 : Int32)) = (4 : Int32) by decide) (l' := #[.val (.ref a1), .val v'0, .val v'9, .val v'3, .val v'4, .val (.long be), .second]) rfl (own_il X470 q d12_6 rfl (own_iln X470 q d12_8 rfl (own_cn X470 q d12_9 ((tlt ((by decide) : (4 : Int32) < (9 : Int32))).2.1) (own_aln X470 q d12_12 rfl rfl (own_il X470 q d12_13 rfl (own_dp X470 q d12_15 rfl (own_isn X470 q d12_16 (l' := #[.val (.ref a1), .val v'0, .val v'9, .val v'4, .val v'4, .val (.long be), .second]) rfl ?_)))))))))))
 obtain ⟨cl474, Ar474, q474, S474, M474, H474, G474⟩ := id V470
 refine own_stp 18 (fun _ k => X470.laload hx (j := (4 : Int32)) (v := (.long al)) (by rw [e470]; exact Ar474.1) (State.isArrayOf_alike hZ.alike Ar474.2.1) Ar474.2.2 (inb_of S474 ⟨by decide, by decide⟩) (Has.at H474 (inb_of S474 ⟨by decide, by decide⟩) rfl) (g := mkF m 17 _ _) rfl rfl (q.d d12_17) _ k) (own_ls X470 q d12_18 (l' := #[.val (.ref a1), .val v'0, .val v'9, .val v'4, .val v'4, .val (.long al), .second]) rfl (own_ll X470 q d12_20 rfl (own_aln X470 q d12_22 rfl rfl (own_iln X470 q d12_23 rfl (own_k X470 q d12_24 (own_isubk 3 X470 q d12_25 (by decide) ?_))))))
 obtain ⟨cl475, Ar475, q475, S475, M475, H475, G475⟩ := id V470
 refine own_stp 27 (fun _ k => X470.laload hx (j := (3 : Int32)) (v := (.long be)) (by rw [e470]; exact Ar475.1) (State.isArrayOf_alike hZ.alike Ar475.2.1) Ar475.2.2 (inb_of S475 ⟨by decide, by decide⟩) (Has.at H475 (inb_of S475 ⟨by decide, by decide⟩) rfl) (g := mkF m 26 _ _) rfl rfl (q.d d12_26) _ k) (own_stq 28 [(.int (lcmpW al be))] (fun _ k => XS.lcmp X470.here hx rfl (q.d d12_27) rfl k) (own_zn X470 q d12_28 (((if0 _ _).trans (tlt (hlt : (lcmpW al be) < (0 : Int32))).2.1)) (own_iik X470 q d12_31 rfl (show ((4 : Int32) + (-1 : Int32)) = (3 : Int32) by decide) (l' := #[.val (.ref a1), .val v'0, .val v'9, .val v'3, .val v'4, .val (.long al), .second]) rfl (own_iln X470 q d12_34 rfl (own_iln X470 q d12_35 rfl (own_cn X470 q d12_36 ((flt ((by decide) : ¬ ((3 : Int32) < (0 : Int32)))).1) (own_ll X470 q d12_39 rfl (own_aln X470 q d12_41 rfl rfl (own_iln X470 q d12_42 rfl ?_)))))))))
 obtain ⟨cl476, Ar476, q476, S476, M476, H476, G476⟩ := id V470
 refine own_stp 44 (fun _ k => X470.laload hx (j := (3 : Int32)) (v := (.long be)) (by rw [e470]; exact Ar476.1) (State.isArrayOf_alike hZ.alike Ar476.2.1) Ar476.2.2 (inb_of S476 ⟨by decide, by decide⟩) (Has.at H476 (inb_of S476 ⟨by decide, by decide⟩) rfl) (g := mkF m 43 _ _) rfl rfl (q.d d12_43) _ k) (own_stq 45 [(.int (lcmpW al be))] (fun _ k => XS.lcmp X470.here hx rfl (q.d d12_44) rfl k) (own_zn X470 q d12_45 (((if0 _ _).trans (tlt (hlt : (lcmpW al be) < (0 : Int32))).2.1)) (own_aln X470 q d12_48 rfl rfl (own_iln X470 q d12_49 rfl (own_k X470 q d12_50 (own_iaddk 4 X470 q d12_51 (by decide) (own_aln X470 q d12_52 rfl rfl (own_iln X470 q d12_53 rfl ?_))))))))
 obtain ⟨cl477, Ar477, q477, S477, M477, H477, G477⟩ := id V470
 refine own_stp 55 (fun _ k => X470.laload hx (j := (3 : Int32)) (v := (.long be)) (by rw [e470]; exact Ar477.1) (State.isArrayOf_alike hZ.alike Ar477.2.1) Ar477.2.2 (inb_of S477 ⟨by decide, by decide⟩) (Has.at H477 (inb_of S477 ⟨by decide, by decide⟩) rfl) (g := mkF m 54 _ _) rfl rfl (q.d d12_54) _ k) ?_
 refine own_let ?_; intro g478_
 obtain ⟨cl479, Ar479, q479, S479, M479, H479, G479⟩ := id V470
 obtain ⟨T480, h480, X480, e480, W480, st480⟩ := stJ X470 hx hZ e470 Ar479 (j := (4 : Int32)) (inb_of S479 ⟨by decide, by decide⟩) (g := g478_) rfl rfl (q.d d12_55)
 have zs481 := Nat.le_trans zs471 (Keep.of_wr W480).1
 have kp481 := kp471.wr W480 (own_i0)
 have V480 : Arv Z h480 a1 k0 .long (9 : Int32) [(.long al), (.long al), (.long be), (.long be), (.long be), (.long be), (.long al), (.long be), (.long al)] (.long (0 : Int64)) := Arv.set Ar479 q479 S479 M479 H479 G479 rfl W480 4 rfl (Nat.le_of_ble_eq_true rfl)
 have N480 := Fr.snoc X480 N470 g1
 refine own_stp 56 st480 (own_gt X480 q d12_56 (own_iik X480 q d12_31 rfl (show ((3 : Int32) + (-1 : Int32)) = (2 : Int32) by decide) (l' := #[.val (.ref a1), .val v'0, .val v'9, .val v'2, .val v'4, .val (.long al), .second]) rfl (own_iln X480 q d12_34 rfl (own_iln X480 q d12_35 rfl (own_cn X480 q d12_36 ((flt ((by decide) : ¬ ((2 : Int32) < (0 : Int32)))).1) (own_ll X480 q d12_39 rfl (own_aln X480 q d12_41 rfl rfl (own_iln X480 q d12_42 rfl ?_))))))))
 obtain ⟨cl482, Ar482, q482, S482, M482, H482, G482⟩ := id V480
 refine own_stp 44 (fun _ k => X480.laload hx (j := (2 : Int32)) (v := (.long be)) (by rw [e480]; exact Ar482.1) (State.isArrayOf_alike hZ.alike Ar482.2.1) Ar482.2.2 (inb_of S482 ⟨by decide, by decide⟩) (Has.at H482 (inb_of S482 ⟨by decide, by decide⟩) rfl) (g := mkF m 43 _ _) rfl rfl (q.d d12_43) _ k) (own_stq 45 [(.int (lcmpW al be))] (fun _ k => XS.lcmp X480.here hx rfl (q.d d12_44) rfl k) (own_zn X480 q d12_45 (((if0 _ _).trans (tlt (hlt : (lcmpW al be) < (0 : Int32))).2.1)) (own_aln X480 q d12_48 rfl rfl (own_iln X480 q d12_49 rfl (own_k X480 q d12_50 (own_iaddk 3 X480 q d12_51 (by decide) (own_aln X480 q d12_52 rfl rfl (own_iln X480 q d12_53 rfl ?_))))))))
 obtain ⟨cl483, Ar483, q483, S483, M483, H483, G483⟩ := id V480
 refine own_stp 55 (fun _ k => X480.laload hx (j := (2 : Int32)) (v := (.long be)) (by rw [e480]; exact Ar483.1) (State.isArrayOf_alike hZ.alike Ar483.2.1) Ar483.2.2 (inb_of S483 ⟨by decide, by decide⟩) (Has.at H483 (inb_of S483 ⟨by decide, by decide⟩) rfl) (g := mkF m 54 _ _) rfl rfl (q.d d12_54) _ k) ?_
 refine own_let ?_; intro g484_
 obtain ⟨cl485, Ar485, q485, S485, M485, H485, G485⟩ := id V480
 obtain ⟨T486, h486, X486, e486, W486, st486⟩ := stJ X480 hx hZ e480 Ar485 (j := (3 : Int32)) (inb_of S485 ⟨by decide, by decide⟩) (g := g484_) rfl rfl (q.d d12_55)
 have zs487 := Nat.le_trans zs481 (Keep.of_wr W486).1
 have kp487 := kp481.wr W486 (own_i0)
 have V486 : Arv Z h486 a1 k0 .long (9 : Int32) [(.long al), (.long al), (.long be), (.long be), (.long be), (.long be), (.long al), (.long be), (.long al)] (.long (0 : Int64)) := Arv.set Ar485 q485 S485 M485 H485 G485 rfl W486 3 rfl (Nat.le_of_ble_eq_true rfl)
 have N486 := Fr.snoc X486 N480 g1
 refine own_stp 56 st486 (own_gt X486 q d12_56 (own_iik X486 q d12_31 rfl (show ((2 : Int32) + (-1 : Int32)) = (1 : Int32) by decide) (l' := #[.val (.ref a1), .val v'0, .val v'9, .val v'1, .val v'4, .val (.long al), .second]) rfl (own_iln X486 q d12_34 rfl (own_iln X486 q d12_35 rfl (own_cn X486 q d12_36 ((flt ((by decide) : ¬ ((1 : Int32) < (0 : Int32)))).1) (own_ll X486 q d12_39 rfl (own_aln X486 q d12_41 rfl rfl (own_iln X486 q d12_42 rfl ?_))))))))
 obtain ⟨cl488, Ar488, q488, S488, M488, H488, G488⟩ := id V486
 refine own_stp 44 (fun _ k => X486.laload hx (j := (1 : Int32)) (v := (.long al)) (by rw [e486]; exact Ar488.1) (State.isArrayOf_alike hZ.alike Ar488.2.1) Ar488.2.2 (inb_of S488 ⟨by decide, by decide⟩) (Has.at H488 (inb_of S488 ⟨by decide, by decide⟩) rfl) (g := mkF m 43 _ _) rfl rfl (q.d d12_43) _ k) (own_stq 45 [(.int (lcmpW al al))] (fun _ k => XS.lcmp X486.here hx rfl (q.d d12_44) rfl k) (own_zy X486 q d12_45 (((if0 _ _).trans (flt ((own_lself _) : ¬ ((lcmpW al al) < (0 : Int32)))).2.1)) (own_aln X486 q d12_59 rfl rfl (own_iln X486 q d12_60 rfl (own_k X486 q d12_61 (own_iaddk 2 X486 q d12_62 (by decide) (own_ll X486 q d12_63 rfl ?_)))))))
 refine own_let ?_; intro g489_
 obtain ⟨cl490, Ar490, q490, S490, M490, H490, G490⟩ := id V486
 obtain ⟨T491, h491, X491, e491, W491, st491⟩ := stJ X486 hx hZ e486 Ar490 (j := (2 : Int32)) (inb_of S490 ⟨by decide, by decide⟩) (g := g489_) rfl rfl (q.d d12_65)
 have zs492 := Nat.le_trans zs487 (Keep.of_wr W491).1
 have kp492 := kp487.wr W491 (own_i0)
 have V491 : Arv Z h491 a1 k0 .long (9 : Int32) [(.long al), (.long al), (.long al), (.long be), (.long be), (.long be), (.long al), (.long be), (.long al)] (.long (0 : Int64)) := Arv.set Ar490 q490 S490 M490 H490 G490 rfl W491 2 rfl (Nat.le_of_ble_eq_true rfl)
 have N491 := Fr.snoc X491 N486 g1
 refine own_stp 66 st491 (own_gt X491 q d12_66 (own_iik X491 q d12_3 rfl (show ((4 : Int32) + (1 : Int32)) = (5 : Int32) by decide) (l' := #[.val (.ref a1), .val v'0, .val v'9, .val v'1, .val v'5, .val (.long al), .second]) rfl (own_il X491 q d12_6 rfl (own_iln X491 q d12_8 rfl (own_cn X491 q d12_9 ((tlt ((by decide) : (5 : Int32) < (9 : Int32))).2.1) (own_aln X491 q d12_12 rfl rfl (own_il X491 q d12_13 rfl (own_dp X491 q d12_15 rfl (own_isn X491 q d12_16 (l' := #[.val (.ref a1), .val v'0, .val v'9, .val v'5, .val v'5, .val (.long al), .second]) rfl ?_)))))))))
 obtain ⟨cl493, Ar493, q493, S493, M493, H493, G493⟩ := id V491
 refine own_stp 18 (fun _ k => X491.laload hx (j := (5 : Int32)) (v := (.long be)) (by rw [e491]; exact Ar493.1) (State.isArrayOf_alike hZ.alike Ar493.2.1) Ar493.2.2 (inb_of S493 ⟨by decide, by decide⟩) (Has.at H493 (inb_of S493 ⟨by decide, by decide⟩) rfl) (g := mkF m 17 _ _) rfl rfl (q.d d12_17) _ k) (own_ls X491 q d12_18 (l' := #[.val (.ref a1), .val v'0, .val v'9, .val v'5, .val v'5, .val (.long be), .second]) rfl (own_ll X491 q d12_20 rfl (own_aln X491 q d12_22 rfl rfl (own_iln X491 q d12_23 rfl (own_k X491 q d12_24 (own_isubk 4 X491 q d12_25 (by decide) ?_))))))
 obtain ⟨cl494, Ar494, q494, S494, M494, H494, G494⟩ := id V491
 refine own_stp 27 (fun _ k => X491.laload hx (j := (4 : Int32)) (v := (.long be)) (by rw [e491]; exact Ar494.1) (State.isArrayOf_alike hZ.alike Ar494.2.1) Ar494.2.2 (inb_of S494 ⟨by decide, by decide⟩) (Has.at H494 (inb_of S494 ⟨by decide, by decide⟩) rfl) (g := mkF m 26 _ _) rfl rfl (q.d d12_26) _ k) (own_stq 28 [(.int (lcmpW be be))] (fun _ k => XS.lcmp X491.here hx rfl (q.d d12_27) rfl k) (own_zy X491 q d12_28 (((if0 _ _).trans (flt ((own_lself _) : ¬ ((lcmpW be be) < (0 : Int32)))).2.1)) (own_gt X491 q d12_66 (own_iik X491 q d12_3 rfl (show ((5 : Int32) + (1 : Int32)) = (6 : Int32) by decide) (l' := #[.val (.ref a1), .val v'0, .val v'9, .val v'5, .val v'6, .val (.long be), .second]) rfl (own_il X491 q d12_6 rfl (own_iln X491 q d12_8 rfl (own_cn X491 q d12_9 ((tlt ((by decide) : (6 : Int32) < (9 : Int32))).2.1) (own_aln X491 q d12_12 rfl rfl (own_il X491 q d12_13 rfl (own_dp X491 q d12_15 rfl (own_isn X491 q d12_16 (l' := #[.val (.ref a1), .val v'0, .val v'9, .val v'6, .val v'6, .val (.long be), .second]) rfl ?_)))))))))))
 obtain ⟨cl495, Ar495, q495, S495, M495, H495, G495⟩ := id V491
 refine own_stp 18 (fun _ k => X491.laload hx (j := (6 : Int32)) (v := (.long al)) (by rw [e491]; exact Ar495.1) (State.isArrayOf_alike hZ.alike Ar495.2.1) Ar495.2.2 (inb_of S495 ⟨by decide, by decide⟩) (Has.at H495 (inb_of S495 ⟨by decide, by decide⟩) rfl) (g := mkF m 17 _ _) rfl rfl (q.d d12_17) _ k) (own_ls X491 q d12_18 (l' := #[.val (.ref a1), .val v'0, .val v'9, .val v'6, .val v'6, .val (.long al), .second]) rfl (own_ll X491 q d12_20 rfl (own_aln X491 q d12_22 rfl rfl (own_iln X491 q d12_23 rfl (own_k X491 q d12_24 (own_isubk 5 X491 q d12_25 (by decide) ?_))))))
 obtain ⟨cl496, Ar496, q496, S496, M496, H496, G496⟩ := id V491
 refine own_stp 27 (fun _ k => X491.laload hx (j := (5 : Int32)) (v := (.long be)) (by rw [e491]; exact Ar496.1) (State.isArrayOf_alike hZ.alike Ar496.2.1) Ar496.2.2 (inb_of S496 ⟨by decide, by decide⟩) (Has.at H496 (inb_of S496 ⟨by decide, by decide⟩) rfl) (g := mkF m 26 _ _) rfl rfl (q.d d12_26) _ k) (own_stq 28 [(.int (lcmpW al be))] (fun _ k => XS.lcmp X491.here hx rfl (q.d d12_27) rfl k) (own_zn X491 q d12_28 (((if0 _ _).trans (tlt (hlt : (lcmpW al be) < (0 : Int32))).2.1)) (own_iik X491 q d12_31 rfl (show ((6 : Int32) + (-1 : Int32)) = (5 : Int32) by decide) (l' := #[.val (.ref a1), .val v'0, .val v'9, .val v'5, .val v'6, .val (.long al), .second]) rfl (own_iln X491 q d12_34 rfl (own_iln X491 q d12_35 rfl (own_cn X491 q d12_36 ((flt ((by decide) : ¬ ((5 : Int32) < (0 : Int32)))).1) (own_ll X491 q d12_39 rfl (own_aln X491 q d12_41 rfl rfl (own_iln X491 q d12_42 rfl ?_)))))))))
 obtain ⟨cl497, Ar497, q497, S497, M497, H497, G497⟩ := id V491
 refine own_stp 44 (fun _ k => X491.laload hx (j := (5 : Int32)) (v := (.long be)) (by rw [e491]; exact Ar497.1) (State.isArrayOf_alike hZ.alike Ar497.2.1) Ar497.2.2 (inb_of S497 ⟨by decide, by decide⟩) (Has.at H497 (inb_of S497 ⟨by decide, by decide⟩) rfl) (g := mkF m 43 _ _) rfl rfl (q.d d12_43) _ k) (own_stq 45 [(.int (lcmpW al be))] (fun _ k => XS.lcmp X491.here hx rfl (q.d d12_44) rfl k) (own_zn X491 q d12_45 (((if0 _ _).trans (tlt (hlt : (lcmpW al be) < (0 : Int32))).2.1)) (own_aln X491 q d12_48 rfl rfl (own_iln X491 q d12_49 rfl (own_k X491 q d12_50 (own_iaddk 6 X491 q d12_51 (by decide) (own_aln X491 q d12_52 rfl rfl (own_iln X491 q d12_53 rfl ?_))))))))
 obtain ⟨cl498, Ar498, q498, S498, M498, H498, G498⟩ := id V491
 refine own_stp 55 (fun _ k => X491.laload hx (j := (5 : Int32)) (v := (.long be)) (by rw [e491]; exact Ar498.1) (State.isArrayOf_alike hZ.alike Ar498.2.1) Ar498.2.2 (inb_of S498 ⟨by decide, by decide⟩) (Has.at H498 (inb_of S498 ⟨by decide, by decide⟩) rfl) (g := mkF m 54 _ _) rfl rfl (q.d d12_54) _ k) ?_
 refine own_let ?_; intro g499_
 obtain ⟨cl500, Ar500, q500, S500, M500, H500, G500⟩ := id V491
 obtain ⟨T501, h501, X501, e501, W501, st501⟩ := stJ X491 hx hZ e491 Ar500 (j := (6 : Int32)) (inb_of S500 ⟨by decide, by decide⟩) (g := g499_) rfl rfl (q.d d12_55)
 have zs502 := Nat.le_trans zs492 (Keep.of_wr W501).1
 have kp502 := kp492.wr W501 (own_i0)
 have V501 : Arv Z h501 a1 k0 .long (9 : Int32) [(.long al), (.long al), (.long al), (.long be), (.long be), (.long be), (.long be), (.long be), (.long al)] (.long (0 : Int64)) := Arv.set Ar500 q500 S500 M500 H500 G500 rfl W501 6 rfl (Nat.le_of_ble_eq_true rfl)
 have N501 := Fr.snoc X501 N491 g1
 refine own_stp 56 st501 (own_gt X501 q d12_56 (own_iik X501 q d12_31 rfl (show ((5 : Int32) + (-1 : Int32)) = (4 : Int32) by decide) (l' := #[.val (.ref a1), .val v'0, .val v'9, .val v'4, .val v'6, .val (.long al), .second]) rfl (own_iln X501 q d12_34 rfl (own_iln X501 q d12_35 rfl (own_cn X501 q d12_36 ((flt ((by decide) : ¬ ((4 : Int32) < (0 : Int32)))).1) (own_ll X501 q d12_39 rfl (own_aln X501 q d12_41 rfl rfl (own_iln X501 q d12_42 rfl ?_))))))))
 obtain ⟨cl503, Ar503, q503, S503, M503, H503, G503⟩ := id V501
 refine own_stp 44 (fun _ k => X501.laload hx (j := (4 : Int32)) (v := (.long be)) (by rw [e501]; exact Ar503.1) (State.isArrayOf_alike hZ.alike Ar503.2.1) Ar503.2.2 (inb_of S503 ⟨by decide, by decide⟩) (Has.at H503 (inb_of S503 ⟨by decide, by decide⟩) rfl) (g := mkF m 43 _ _) rfl rfl (q.d d12_43) _ k) (own_stq 45 [(.int (lcmpW al be))] (fun _ k => XS.lcmp X501.here hx rfl (q.d d12_44) rfl k) (own_zn X501 q d12_45 (((if0 _ _).trans (tlt (hlt : (lcmpW al be) < (0 : Int32))).2.1)) (own_aln X501 q d12_48 rfl rfl (own_iln X501 q d12_49 rfl (own_k X501 q d12_50 (own_iaddk 5 X501 q d12_51 (by decide) (own_aln X501 q d12_52 rfl rfl (own_iln X501 q d12_53 rfl ?_))))))))
 obtain ⟨cl504, Ar504, q504, S504, M504, H504, G504⟩ := id V501
 refine own_stp 55 (fun _ k => X501.laload hx (j := (4 : Int32)) (v := (.long be)) (by rw [e501]; exact Ar504.1) (State.isArrayOf_alike hZ.alike Ar504.2.1) Ar504.2.2 (inb_of S504 ⟨by decide, by decide⟩) (Has.at H504 (inb_of S504 ⟨by decide, by decide⟩) rfl) (g := mkF m 54 _ _) rfl rfl (q.d d12_54) _ k) ?_
 refine own_let ?_; intro g505_
 obtain ⟨cl506, Ar506, q506, S506, M506, H506, G506⟩ := id V501
 obtain ⟨T507, h507, X507, e507, W507, st507⟩ := stJ X501 hx hZ e501 Ar506 (j := (5 : Int32)) (inb_of S506 ⟨by decide, by decide⟩) (g := g505_) rfl rfl (q.d d12_55)
 have zs508 := Nat.le_trans zs502 (Keep.of_wr W507).1
 have kp508 := kp502.wr W507 (own_i0)
 have V507 : Arv Z h507 a1 k0 .long (9 : Int32) [(.long al), (.long al), (.long al), (.long be), (.long be), (.long be), (.long be), (.long be), (.long al)] (.long (0 : Int64)) := Arv.set Ar506 q506 S506 M506 H506 G506 rfl W507 5 rfl (Nat.le_of_ble_eq_true rfl)
 have N507 := Fr.snoc X507 N501 g1
 refine own_stp 56 st507 (own_gt X507 q d12_56 (own_iik X507 q d12_31 rfl (show ((4 : Int32) + (-1 : Int32)) = (3 : Int32) by decide) (l' := #[.val (.ref a1), .val v'0, .val v'9, .val v'3, .val v'6, .val (.long al), .second]) rfl (own_iln X507 q d12_34 rfl (own_iln X507 q d12_35 rfl (own_cn X507 q d12_36 ((flt ((by decide) : ¬ ((3 : Int32) < (0 : Int32)))).1) (own_ll X507 q d12_39 rfl (own_aln X507 q d12_41 rfl rfl (own_iln X507 q d12_42 rfl ?_))))))))
 obtain ⟨cl509, Ar509, q509, S509, M509, H509, G509⟩ := id V507
 refine own_stp 44 (fun _ k => X507.laload hx (j := (3 : Int32)) (v := (.long be)) (by rw [e507]; exact Ar509.1) (State.isArrayOf_alike hZ.alike Ar509.2.1) Ar509.2.2 (inb_of S509 ⟨by decide, by decide⟩) (Has.at H509 (inb_of S509 ⟨by decide, by decide⟩) rfl) (g := mkF m 43 _ _) rfl rfl (q.d d12_43) _ k) (own_stq 45 [(.int (lcmpW al be))] (fun _ k => XS.lcmp X507.here hx rfl (q.d d12_44) rfl k) (own_zn X507 q d12_45 (((if0 _ _).trans (tlt (hlt : (lcmpW al be) < (0 : Int32))).2.1)) (own_aln X507 q d12_48 rfl rfl (own_iln X507 q d12_49 rfl (own_k X507 q d12_50 (own_iaddk 4 X507 q d12_51 (by decide) (own_aln X507 q d12_52 rfl rfl (own_iln X507 q d12_53 rfl ?_))))))))
 obtain ⟨cl510, Ar510, q510, S510, M510, H510, G510⟩ := id V507
 refine own_stp 55 (fun _ k => X507.laload hx (j := (3 : Int32)) (v := (.long be)) (by rw [e507]; exact Ar510.1) (State.isArrayOf_alike hZ.alike Ar510.2.1) Ar510.2.2 (inb_of S510 ⟨by decide, by decide⟩) (Has.at H510 (inb_of S510 ⟨by decide, by decide⟩) rfl) (g := mkF m 54 _ _) rfl rfl (q.d d12_54) _ k) ?_
 refine own_let ?_; intro g511_
 obtain ⟨cl512, Ar512, q512, S512, M512, H512, G512⟩ := id V507
 obtain ⟨T513, h513, X513, e513, W513, st513⟩ := stJ X507 hx hZ e507 Ar512 (j := (4 : Int32)) (inb_of S512 ⟨by decide, by decide⟩) (g := g511_) rfl rfl (q.d d12_55)
 have zs514 := Nat.le_trans zs508 (Keep.of_wr W513).1
 have kp514 := kp508.wr W513 (own_i0)
 have V513 : Arv Z h513 a1 k0 .long (9 : Int32) [(.long al), (.long al), (.long al), (.long be), (.long be), (.long be), (.long be), (.long be), (.long al)] (.long (0 : Int64)) := Arv.set Ar512 q512 S512 M512 H512 G512 rfl W513 4 rfl (Nat.le_of_ble_eq_true rfl)
 have N513 := Fr.snoc X513 N507 g1
 refine own_stp 56 st513 (own_gt X513 q d12_56 (own_iik X513 q d12_31 rfl (show ((3 : Int32) + (-1 : Int32)) = (2 : Int32) by decide) (l' := #[.val (.ref a1), .val v'0, .val v'9, .val v'2, .val v'6, .val (.long al), .second]) rfl (own_iln X513 q d12_34 rfl (own_iln X513 q d12_35 rfl (own_cn X513 q d12_36 ((flt ((by decide) : ¬ ((2 : Int32) < (0 : Int32)))).1) (own_ll X513 q d12_39 rfl (own_aln X513 q d12_41 rfl rfl (own_iln X513 q d12_42 rfl ?_))))))))
 obtain ⟨cl515, Ar515, q515, S515, M515, H515, G515⟩ := id V513
 refine own_stp 44 (fun _ k => X513.laload hx (j := (2 : Int32)) (v := (.long al)) (by rw [e513]; exact Ar515.1) (State.isArrayOf_alike hZ.alike Ar515.2.1) Ar515.2.2 (inb_of S515 ⟨by decide, by decide⟩) (Has.at H515 (inb_of S515 ⟨by decide, by decide⟩) rfl) (g := mkF m 43 _ _) rfl rfl (q.d d12_43) _ k) (own_stq 45 [(.int (lcmpW al al))] (fun _ k => XS.lcmp X513.here hx rfl (q.d d12_44) rfl k) (own_zy X513 q d12_45 (((if0 _ _).trans (flt ((own_lself _) : ¬ ((lcmpW al al) < (0 : Int32)))).2.1)) (own_aln X513 q d12_59 rfl rfl (own_iln X513 q d12_60 rfl (own_k X513 q d12_61 (own_iaddk 3 X513 q d12_62 (by decide) (own_ll X513 q d12_63 rfl ?_)))))))
 refine own_let ?_; intro g516_
 obtain ⟨cl517, Ar517, q517, S517, M517, H517, G517⟩ := id V513
 obtain ⟨T518, h518, X518, e518, W518, st518⟩ := stJ X513 hx hZ e513 Ar517 (j := (3 : Int32)) (inb_of S517 ⟨by decide, by decide⟩) (g := g516_) rfl rfl (q.d d12_65)
 have zs519 := Nat.le_trans zs514 (Keep.of_wr W518).1
 have kp519 := kp514.wr W518 (own_i0)
 have V518 : Arv Z h518 a1 k0 .long (9 : Int32) [(.long al), (.long al), (.long al), (.long al), (.long be), (.long be), (.long be), (.long be), (.long al)] (.long (0 : Int64)) := Arv.set Ar517 q517 S517 M517 H517 G517 rfl W518 3 rfl (Nat.le_of_ble_eq_true rfl)
 have N518 := Fr.snoc X518 N513 g1
 refine own_stp 66 st518 (own_gt X518 q d12_66 (own_iik X518 q d12_3 rfl (show ((6 : Int32) + (1 : Int32)) = (7 : Int32) by decide) (l' := #[.val (.ref a1), .val v'0, .val v'9, .val v'2, .val v'7, .val (.long al), .second]) rfl (own_il X518 q d12_6 rfl (own_iln X518 q d12_8 rfl (own_cn X518 q d12_9 ((tlt ((by decide) : (7 : Int32) < (9 : Int32))).2.1) (own_aln X518 q d12_12 rfl rfl (own_il X518 q d12_13 rfl (own_dp X518 q d12_15 rfl (own_isn X518 q d12_16 (l' := #[.val (.ref a1), .val v'0, .val v'9, .val v'7, .val v'7, .val (.long al), .second]) rfl ?_)))))))))
 obtain ⟨cl520, Ar520, q520, S520, M520, H520, G520⟩ := id V518
 refine own_stp 18 (fun _ k => X518.laload hx (j := (7 : Int32)) (v := (.long be)) (by rw [e518]; exact Ar520.1) (State.isArrayOf_alike hZ.alike Ar520.2.1) Ar520.2.2 (inb_of S520 ⟨by decide, by decide⟩) (Has.at H520 (inb_of S520 ⟨by decide, by decide⟩) rfl) (g := mkF m 17 _ _) rfl rfl (q.d d12_17) _ k) (own_ls X518 q d12_18 (l' := #[.val (.ref a1), .val v'0, .val v'9, .val v'7, .val v'7, .val (.long be), .second]) rfl (own_ll X518 q d12_20 rfl (own_aln X518 q d12_22 rfl rfl (own_iln X518 q d12_23 rfl (own_k X518 q d12_24 (own_isubk 6 X518 q d12_25 (by decide) ?_))))))
 obtain ⟨cl521, Ar521, q521, S521, M521, H521, G521⟩ := id V518
 refine own_stp 27 (fun _ k => X518.laload hx (j := (6 : Int32)) (v := (.long be)) (by rw [e518]; exact Ar521.1) (State.isArrayOf_alike hZ.alike Ar521.2.1) Ar521.2.2 (inb_of S521 ⟨by decide, by decide⟩) (Has.at H521 (inb_of S521 ⟨by decide, by decide⟩) rfl) (g := mkF m 26 _ _) rfl rfl (q.d d12_26) _ k) (own_stq 28 [(.int (lcmpW be be))] (fun _ k => XS.lcmp X518.here hx rfl (q.d d12_27) rfl k) (own_zy X518 q d12_28 (((if0 _ _).trans (flt ((own_lself _) : ¬ ((lcmpW be be) < (0 : Int32)))).2.1)) (own_gt X518 q d12_66 (own_iik X518 q d12_3 rfl (show ((7 : Int32) + (1 : Int32)) = (8 : Int32) by decide) (l' := #[.val (.ref a1), .val v'0, .val v'9, .val v'7, .val v'8, .val (.long be), .second]) rfl (own_il X518 q d12_6 rfl (own_iln X518 q d12_8 rfl (own_cn X518 q d12_9 ((tlt ((by decide) : (8 : Int32) < (9 : Int32))).2.1) (own_aln X518 q d12_12 rfl rfl (own_il X518 q d12_13 rfl (own_dp X518 q d12_15 rfl (own_isn X518 q d12_16 (l' := #[.val (.ref a1), .val v'0, .val v'9, .val v'8, .val v'8, .val (.long be), .second]) rfl ?_)))))))))))
 obtain ⟨cl522, Ar522, q522, S522, M522, H522, G522⟩ := id V518
 refine own_stp 18 (fun _ k => X518.laload hx (j := (8 : Int32)) (v := (.long al)) (by rw [e518]; exact Ar522.1) (State.isArrayOf_alike hZ.alike Ar522.2.1) Ar522.2.2 (inb_of S522 ⟨by decide, by decide⟩) (Has.at H522 (inb_of S522 ⟨by decide, by decide⟩) rfl) (g := mkF m 17 _ _) rfl rfl (q.d d12_17) _ k) (own_ls X518 q d12_18 (l' := #[.val (.ref a1), .val v'0, .val v'9, .val v'8, .val v'8, .val (.long al), .second]) rfl (own_ll X518 q d12_20 rfl (own_aln X518 q d12_22 rfl rfl (own_iln X518 q d12_23 rfl (own_k X518 q d12_24 (own_isubk 7 X518 q d12_25 (by decide) ?_))))))
 obtain ⟨cl523, Ar523, q523, S523, M523, H523, G523⟩ := id V518
 refine own_stp 27 (fun _ k => X518.laload hx (j := (7 : Int32)) (v := (.long be)) (by rw [e518]; exact Ar523.1) (State.isArrayOf_alike hZ.alike Ar523.2.1) Ar523.2.2 (inb_of S523 ⟨by decide, by decide⟩) (Has.at H523 (inb_of S523 ⟨by decide, by decide⟩) rfl) (g := mkF m 26 _ _) rfl rfl (q.d d12_26) _ k) (own_stq 28 [(.int (lcmpW al be))] (fun _ k => XS.lcmp X518.here hx rfl (q.d d12_27) rfl k) (own_zn X518 q d12_28 (((if0 _ _).trans (tlt (hlt : (lcmpW al be) < (0 : Int32))).2.1)) (own_iik X518 q d12_31 rfl (show ((8 : Int32) + (-1 : Int32)) = (7 : Int32) by decide) (l' := #[.val (.ref a1), .val v'0, .val v'9, .val v'7, .val v'8, .val (.long al), .second]) rfl (own_iln X518 q d12_34 rfl (own_iln X518 q d12_35 rfl (own_cn X518 q d12_36 ((flt ((by decide) : ¬ ((7 : Int32) < (0 : Int32)))).1) (own_ll X518 q d12_39 rfl (own_aln X518 q d12_41 rfl rfl (own_iln X518 q d12_42 rfl ?_)))))))))
 obtain ⟨cl524, Ar524, q524, S524, M524, H524, G524⟩ := id V518
 refine own_stp 44 (fun _ k => X518.laload hx (j := (7 : Int32)) (v := (.long be)) (by rw [e518]; exact Ar524.1) (State.isArrayOf_alike hZ.alike Ar524.2.1) Ar524.2.2 (inb_of S524 ⟨by decide, by decide⟩) (Has.at H524 (inb_of S524 ⟨by decide, by decide⟩) rfl) (g := mkF m 43 _ _) rfl rfl (q.d d12_43) _ k) (own_stq 45 [(.int (lcmpW al be))] (fun _ k => XS.lcmp X518.here hx rfl (q.d d12_44) rfl k) (own_zn X518 q d12_45 (((if0 _ _).trans (tlt (hlt : (lcmpW al be) < (0 : Int32))).2.1)) (own_aln X518 q d12_48 rfl rfl (own_iln X518 q d12_49 rfl (own_k X518 q d12_50 (own_iaddk 8 X518 q d12_51 (by decide) (own_aln X518 q d12_52 rfl rfl (own_iln X518 q d12_53 rfl ?_))))))))
 obtain ⟨cl525, Ar525, q525, S525, M525, H525, G525⟩ := id V518
 refine own_stp 55 (fun _ k => X518.laload hx (j := (7 : Int32)) (v := (.long be)) (by rw [e518]; exact Ar525.1) (State.isArrayOf_alike hZ.alike Ar525.2.1) Ar525.2.2 (inb_of S525 ⟨by decide, by decide⟩) (Has.at H525 (inb_of S525 ⟨by decide, by decide⟩) rfl) (g := mkF m 54 _ _) rfl rfl (q.d d12_54) _ k) ?_
 refine own_let ?_; intro g526_
 obtain ⟨cl527, Ar527, q527, S527, M527, H527, G527⟩ := id V518
 obtain ⟨T528, h528, X528, e528, W528, st528⟩ := stJ X518 hx hZ e518 Ar527 (j := (8 : Int32)) (inb_of S527 ⟨by decide, by decide⟩) (g := g526_) rfl rfl (q.d d12_55)
 have zs529 := Nat.le_trans zs519 (Keep.of_wr W528).1
 have kp529 := kp519.wr W528 (own_i0)
 have V528 : Arv Z h528 a1 k0 .long (9 : Int32) [(.long al), (.long al), (.long al), (.long al), (.long be), (.long be), (.long be), (.long be), (.long be)] (.long (0 : Int64)) := Arv.set Ar527 q527 S527 M527 H527 G527 rfl W528 8 rfl (Nat.le_of_ble_eq_true rfl)
 have N528 := Fr.snoc X528 N518 g1
 refine own_stp 56 st528 (own_gt X528 q d12_56 (own_iik X528 q d12_31 rfl (show ((7 : Int32) + (-1 : Int32)) = (6 : Int32) by decide) (l' := #[.val (.ref a1), .val v'0, .val v'9, .val v'6, .val v'8, .val (.long al), .second]) rfl (own_iln X528 q d12_34 rfl (own_iln X528 q d12_35 rfl (own_cn X528 q d12_36 ((flt ((by decide) : ¬ ((6 : Int32) < (0 : Int32)))).1) (own_ll X528 q d12_39 rfl (own_aln X528 q d12_41 rfl rfl (own_iln X528 q d12_42 rfl ?_))))))))
 obtain ⟨cl530, Ar530, q530, S530, M530, H530, G530⟩ := id V528
 refine own_stp 44 (fun _ k => X528.laload hx (j := (6 : Int32)) (v := (.long be)) (by rw [e528]; exact Ar530.1) (State.isArrayOf_alike hZ.alike Ar530.2.1) Ar530.2.2 (inb_of S530 ⟨by decide, by decide⟩) (Has.at H530 (inb_of S530 ⟨by decide, by decide⟩) rfl) (g := mkF m 43 _ _) rfl rfl (q.d d12_43) _ k) (own_stq 45 [(.int (lcmpW al be))] (fun _ k => XS.lcmp X528.here hx rfl (q.d d12_44) rfl k) (own_zn X528 q d12_45 (((if0 _ _).trans (tlt (hlt : (lcmpW al be) < (0 : Int32))).2.1)) (own_aln X528 q d12_48 rfl rfl (own_iln X528 q d12_49 rfl (own_k X528 q d12_50 (own_iaddk 7 X528 q d12_51 (by decide) (own_aln X528 q d12_52 rfl rfl (own_iln X528 q d12_53 rfl ?_))))))))
 obtain ⟨cl531, Ar531, q531, S531, M531, H531, G531⟩ := id V528
 refine own_stp 55 (fun _ k => X528.laload hx (j := (6 : Int32)) (v := (.long be)) (by rw [e528]; exact Ar531.1) (State.isArrayOf_alike hZ.alike Ar531.2.1) Ar531.2.2 (inb_of S531 ⟨by decide, by decide⟩) (Has.at H531 (inb_of S531 ⟨by decide, by decide⟩) rfl) (g := mkF m 54 _ _) rfl rfl (q.d d12_54) _ k) ?_
 refine own_let ?_; intro g532_
 obtain ⟨cl533, Ar533, q533, S533, M533, H533, G533⟩ := id V528
 obtain ⟨T534, h534, X534, e534, W534, st534⟩ := stJ X528 hx hZ e528 Ar533 (j := (7 : Int32)) (inb_of S533 ⟨by decide, by decide⟩) (g := g532_) rfl rfl (q.d d12_55)
 have zs535 := Nat.le_trans zs529 (Keep.of_wr W534).1
 have kp535 := kp529.wr W534 (own_i0)
 have V534 : Arv Z h534 a1 k0 .long (9 : Int32) [(.long al), (.long al), (.long al), (.long al), (.long be), (.long be), (.long be), (.long be), (.long be)] (.long (0 : Int64)) := Arv.set Ar533 q533 S533 M533 H533 G533 rfl W534 7 rfl (Nat.le_of_ble_eq_true rfl)
 have N534 := Fr.snoc X534 N528 g1
 refine own_stp 56 st534 (own_gt X534 q d12_56 (own_iik X534 q d12_31 rfl (show ((6 : Int32) + (-1 : Int32)) = (5 : Int32) by decide) (l' := #[.val (.ref a1), .val v'0, .val v'9, .val v'5, .val v'8, .val (.long al), .second]) rfl (own_iln X534 q d12_34 rfl (own_iln X534 q d12_35 rfl (own_cn X534 q d12_36 ((flt ((by decide) : ¬ ((5 : Int32) < (0 : Int32)))).1) (own_ll X534 q d12_39 rfl (own_aln X534 q d12_41 rfl rfl (own_iln X534 q d12_42 rfl ?_))))))))
 obtain ⟨cl536, Ar536, q536, S536, M536, H536, G536⟩ := id V534
 refine own_stp 44 (fun _ k => X534.laload hx (j := (5 : Int32)) (v := (.long be)) (by rw [e534]; exact Ar536.1) (State.isArrayOf_alike hZ.alike Ar536.2.1) Ar536.2.2 (inb_of S536 ⟨by decide, by decide⟩) (Has.at H536 (inb_of S536 ⟨by decide, by decide⟩) rfl) (g := mkF m 43 _ _) rfl rfl (q.d d12_43) _ k) (own_stq 45 [(.int (lcmpW al be))] (fun _ k => XS.lcmp X534.here hx rfl (q.d d12_44) rfl k) (own_zn X534 q d12_45 (((if0 _ _).trans (tlt (hlt : (lcmpW al be) < (0 : Int32))).2.1)) (own_aln X534 q d12_48 rfl rfl (own_iln X534 q d12_49 rfl (own_k X534 q d12_50 (own_iaddk 6 X534 q d12_51 (by decide) (own_aln X534 q d12_52 rfl rfl (own_iln X534 q d12_53 rfl ?_))))))))
 obtain ⟨cl537, Ar537, q537, S537, M537, H537, G537⟩ := id V534
 refine own_stp 55 (fun _ k => X534.laload hx (j := (5 : Int32)) (v := (.long be)) (by rw [e534]; exact Ar537.1) (State.isArrayOf_alike hZ.alike Ar537.2.1) Ar537.2.2 (inb_of S537 ⟨by decide, by decide⟩) (Has.at H537 (inb_of S537 ⟨by decide, by decide⟩) rfl) (g := mkF m 54 _ _) rfl rfl (q.d d12_54) _ k) ?_
 refine own_let ?_; intro g538_
 obtain ⟨cl539, Ar539, q539, S539, M539, H539, G539⟩ := id V534
 obtain ⟨T540, h540, X540, e540, W540, st540⟩ := stJ X534 hx hZ e534 Ar539 (j := (6 : Int32)) (inb_of S539 ⟨by decide, by decide⟩) (g := g538_) rfl rfl (q.d d12_55)
 have zs541 := Nat.le_trans zs535 (Keep.of_wr W540).1
 have kp541 := kp535.wr W540 (own_i0)
 have V540 : Arv Z h540 a1 k0 .long (9 : Int32) [(.long al), (.long al), (.long al), (.long al), (.long be), (.long be), (.long be), (.long be), (.long be)] (.long (0 : Int64)) := Arv.set Ar539 q539 S539 M539 H539 G539 rfl W540 6 rfl (Nat.le_of_ble_eq_true rfl)
 have N540 := Fr.snoc X540 N534 g1
 refine own_stp 56 st540 (own_gt X540 q d12_56 (own_iik X540 q d12_31 rfl (show ((5 : Int32) + (-1 : Int32)) = (4 : Int32) by decide) (l' := #[.val (.ref a1), .val v'0, .val v'9, .val v'4, .val v'8, .val (.long al), .second]) rfl (own_iln X540 q d12_34 rfl (own_iln X540 q d12_35 rfl (own_cn X540 q d12_36 ((flt ((by decide) : ¬ ((4 : Int32) < (0 : Int32)))).1) (own_ll X540 q d12_39 rfl (own_aln X540 q d12_41 rfl rfl (own_iln X540 q d12_42 rfl ?_))))))))
 obtain ⟨cl542, Ar542, q542, S542, M542, H542, G542⟩ := id V540
 refine own_stp 44 (fun _ k => X540.laload hx (j := (4 : Int32)) (v := (.long be)) (by rw [e540]; exact Ar542.1) (State.isArrayOf_alike hZ.alike Ar542.2.1) Ar542.2.2 (inb_of S542 ⟨by decide, by decide⟩) (Has.at H542 (inb_of S542 ⟨by decide, by decide⟩) rfl) (g := mkF m 43 _ _) rfl rfl (q.d d12_43) _ k) (own_stq 45 [(.int (lcmpW al be))] (fun _ k => XS.lcmp X540.here hx rfl (q.d d12_44) rfl k) (own_zn X540 q d12_45 (((if0 _ _).trans (tlt (hlt : (lcmpW al be) < (0 : Int32))).2.1)) (own_aln X540 q d12_48 rfl rfl (own_iln X540 q d12_49 rfl (own_k X540 q d12_50 (own_iaddk 5 X540 q d12_51 (by decide) (own_aln X540 q d12_52 rfl rfl (own_iln X540 q d12_53 rfl ?_))))))))
 obtain ⟨cl543, Ar543, q543, S543, M543, H543, G543⟩ := id V540
 refine own_stp 55 (fun _ k => X540.laload hx (j := (4 : Int32)) (v := (.long be)) (by rw [e540]; exact Ar543.1) (State.isArrayOf_alike hZ.alike Ar543.2.1) Ar543.2.2 (inb_of S543 ⟨by decide, by decide⟩) (Has.at H543 (inb_of S543 ⟨by decide, by decide⟩) rfl) (g := mkF m 54 _ _) rfl rfl (q.d d12_54) _ k) ?_
 refine own_let ?_; intro g544_
 obtain ⟨cl545, Ar545, q545, S545, M545, H545, G545⟩ := id V540
 obtain ⟨T546, h546, X546, e546, W546, st546⟩ := stJ X540 hx hZ e540 Ar545 (j := (5 : Int32)) (inb_of S545 ⟨by decide, by decide⟩) (g := g544_) rfl rfl (q.d d12_55)
 have zs547 := Nat.le_trans zs541 (Keep.of_wr W546).1
 have kp547 := kp541.wr W546 (own_i0)
 have V546 : Arv Z h546 a1 k0 .long (9 : Int32) [(.long al), (.long al), (.long al), (.long al), (.long be), (.long be), (.long be), (.long be), (.long be)] (.long (0 : Int64)) := Arv.set Ar545 q545 S545 M545 H545 G545 rfl W546 5 rfl (Nat.le_of_ble_eq_true rfl)
 have N546 := Fr.snoc X546 N540 g1
 refine own_stp 56 st546 (own_gt X546 q d12_56 (own_iik X546 q d12_31 rfl (show ((4 : Int32) + (-1 : Int32)) = (3 : Int32) by decide) (l' := #[.val (.ref a1), .val v'0, .val v'9, .val v'3, .val v'8, .val (.long al), .second]) rfl (own_iln X546 q d12_34 rfl (own_iln X546 q d12_35 rfl (own_cn X546 q d12_36 ((flt ((by decide) : ¬ ((3 : Int32) < (0 : Int32)))).1) (own_ll X546 q d12_39 rfl (own_aln X546 q d12_41 rfl rfl (own_iln X546 q d12_42 rfl ?_))))))))
 obtain ⟨cl548, Ar548, q548, S548, M548, H548, G548⟩ := id V546
 refine own_stp 44 (fun _ k => X546.laload hx (j := (3 : Int32)) (v := (.long al)) (by rw [e546]; exact Ar548.1) (State.isArrayOf_alike hZ.alike Ar548.2.1) Ar548.2.2 (inb_of S548 ⟨by decide, by decide⟩) (Has.at H548 (inb_of S548 ⟨by decide, by decide⟩) rfl) (g := mkF m 43 _ _) rfl rfl (q.d d12_43) _ k) (own_stq 45 [(.int (lcmpW al al))] (fun _ k => XS.lcmp X546.here hx rfl (q.d d12_44) rfl k) (own_zy X546 q d12_45 (((if0 _ _).trans (flt ((own_lself _) : ¬ ((lcmpW al al) < (0 : Int32)))).2.1)) (own_aln X546 q d12_59 rfl rfl (own_iln X546 q d12_60 rfl (own_k X546 q d12_61 (own_iaddk 4 X546 q d12_62 (by decide) (own_ll X546 q d12_63 rfl ?_)))))))
 refine own_let ?_; intro g549_
 obtain ⟨cl550, Ar550, q550, S550, M550, H550, G550⟩ := id V546
 obtain ⟨T551, h551, X551, e551, W551, st551⟩ := stJ X546 hx hZ e546 Ar550 (j := (4 : Int32)) (inb_of S550 ⟨by decide, by decide⟩) (g := g549_) rfl rfl (q.d d12_65)
 have zs552 := Nat.le_trans zs547 (Keep.of_wr W551).1
 have kp552 := kp547.wr W551 (own_i0)
 have V551 : Arv Z h551 a1 k0 .long (9 : Int32) [(.long al), (.long al), (.long al), (.long al), (.long al), (.long be), (.long be), (.long be), (.long be)] (.long (0 : Int64)) := Arv.set Ar550 q550 S550 M550 H550 G550 rfl W551 4 rfl (Nat.le_of_ble_eq_true rfl)
 have N551 := Fr.snoc X551 N546 g1
 refine own_stp 66 st551 (own_gt X551 q d12_66 (own_iik X551 q d12_3 rfl (show ((8 : Int32) + (1 : Int32)) = (9 : Int32) by decide) (l' := #[.val (.ref a1), .val v'0, .val v'9, .val v'3, .val v'9, .val (.long al), .second]) rfl (own_il X551 q d12_6 rfl (own_iln X551 q d12_8 rfl (own_cy X551 q d12_9 ((flt (Int32.lt_irrefl : ¬ ((9 : Int32) < (9 : Int32)))).2.1) ?_)))))
 refine own_rV X551 q hrt d12_69 hlk (by decide) ?_
 show QS1 Z a1 k0 al be h0 n0 _ T551.heap _
 rw [e551]
 exact ⟨rfl, N551, kp552, V551⟩
theorem rm12_2 (l : Launch) (Z : State) (a0 : Array Value) (hw : own_hw a0 Z) (a1 : Addr) (k0 : ClassId) (al be : Int64) (h0 : Heap) (n0 : Nat) (Z0 : n0 ≤ h0.size) (VA : Arv Z h0 a1 k0 .long (9 : Int32) [(.long al), (.long be), (.long al), (.long be), (.long al), (.long be), (.long al), (.long be), (.long al)] (.long (0 : Int64))) (g1 : n0 ≤ a1) (hlt : ¬ lcmpW al be < (0 : Int32)) (hgt : lcmpW be al < (0 : Int32)) :
  own_M l Z [] own_y6 b'12 7 none ⟨0, 0, 0, 0⟩ #[(.ref a1), v'0, v'9] h0 (QS2 Z a1 k0 al be h0 n0) := by
 refine own_start (n0 := n0) hw "java/util/DualPivotQuicksort" (L := #[.val (.ref a1), .val v'0, .val v'9, .unset, .unset, .unset, .unset]) pn_12 (fun {p e s m below meth c s₁} q hx W hml hZ hown hnm hlk hrt X0 e0 N0 => ?_)
 have kp0 := Keep.refl h0 [a1]
 refine own_iln X0 q d12_0 rfl (own_is X0 q d12_1 (l' := #[.val (.ref a1), .val v'0, .val v'9, .unset, .val v'0, .unset, .unset]) rfl (own_iik X0 q d12_3 rfl (show ((0 : Int32) + (1 : Int32)) = (1 : Int32) by decide) (l' := #[.val (.ref a1), .val v'0, .val v'9, .unset, .val v'1, .unset, .unset]) rfl (own_il X0 q d12_6 rfl (own_iln X0 q d12_8 rfl (own_cn X0 q d12_9 ((tlt ((by decide) : (1 : Int32) < (9 : Int32))).2.1) (own_aln X0 q d12_12 rfl rfl (own_il X0 q d12_13 rfl (own_dp X0 q d12_15 rfl (own_isn X0 q d12_16 (l' := #[.val (.ref a1), .val v'0, .val v'9, .val v'1, .val v'1, .unset, .unset]) rfl ?_)))))))))
 obtain ⟨cl648, Ar648, q648, S648, M648, H648, G648⟩ := id VA
 refine own_stp 18 (fun _ k => X0.laload hx (j := (1 : Int32)) (v := (.long be)) (by rw [e0]; exact Ar648.1) (State.isArrayOf_alike hZ.alike Ar648.2.1) Ar648.2.2 (inb_of S648 ⟨by decide, by decide⟩) (Has.at H648 (inb_of S648 ⟨by decide, by decide⟩) rfl) (g := mkF m 17 _ _) rfl rfl (q.d d12_17) _ k) (own_ls X0 q d12_18 (l' := #[.val (.ref a1), .val v'0, .val v'9, .val v'1, .val v'1, .val (.long be), .second]) rfl (own_ll X0 q d12_20 rfl (own_aln X0 q d12_22 rfl rfl (own_iln X0 q d12_23 rfl (own_k X0 q d12_24 (own_isubk 0 X0 q d12_25 (by decide) ?_))))))
 obtain ⟨cl649, Ar649, q649, S649, M649, H649, G649⟩ := id VA
 refine own_stp 27 (fun _ k => X0.laload hx (j := (0 : Int32)) (v := (.long al)) (by rw [e0]; exact Ar649.1) (State.isArrayOf_alike hZ.alike Ar649.2.1) Ar649.2.2 (inb_of S649 ⟨by decide, by decide⟩) (Has.at H649 (inb_of S649 ⟨by decide, by decide⟩) rfl) (g := mkF m 26 _ _) rfl rfl (q.d d12_26) _ k) (own_stq 28 [(.int (lcmpW be al))] (fun _ k => XS.lcmp X0.here hx rfl (q.d d12_27) rfl k) (own_zn X0 q d12_28 (((if0 _ _).trans (tlt (hgt : (lcmpW be al) < (0 : Int32))).2.1)) (own_iik X0 q d12_31 rfl (show ((1 : Int32) + (-1 : Int32)) = (0 : Int32) by decide) (l' := #[.val (.ref a1), .val v'0, .val v'9, .val v'0, .val v'1, .val (.long be), .second]) rfl (own_iln X0 q d12_34 rfl (own_iln X0 q d12_35 rfl (own_cn X0 q d12_36 ((flt (Int32.lt_irrefl : ¬ ((0 : Int32) < (0 : Int32)))).1) (own_ll X0 q d12_39 rfl (own_aln X0 q d12_41 rfl rfl (own_iln X0 q d12_42 rfl ?_)))))))))
 obtain ⟨cl650, Ar650, q650, S650, M650, H650, G650⟩ := id VA
 refine own_stp 44 (fun _ k => X0.laload hx (j := (0 : Int32)) (v := (.long al)) (by rw [e0]; exact Ar650.1) (State.isArrayOf_alike hZ.alike Ar650.2.1) Ar650.2.2 (inb_of S650 ⟨by decide, by decide⟩) (Has.at H650 (inb_of S650 ⟨by decide, by decide⟩) rfl) (g := mkF m 43 _ _) rfl rfl (q.d d12_43) _ k) (own_stq 45 [(.int (lcmpW be al))] (fun _ k => XS.lcmp X0.here hx rfl (q.d d12_44) rfl k) (own_zn X0 q d12_45 (((if0 _ _).trans (tlt (hgt : (lcmpW be al) < (0 : Int32))).2.1)) (own_aln X0 q d12_48 rfl rfl (own_iln X0 q d12_49 rfl (own_k X0 q d12_50 (own_iaddk 1 X0 q d12_51 (by decide) (own_aln X0 q d12_52 rfl rfl (own_iln X0 q d12_53 rfl ?_))))))))
 obtain ⟨cl651, Ar651, q651, S651, M651, H651, G651⟩ := id VA
 refine own_stp 55 (fun _ k => X0.laload hx (j := (0 : Int32)) (v := (.long al)) (by rw [e0]; exact Ar651.1) (State.isArrayOf_alike hZ.alike Ar651.2.1) Ar651.2.2 (inb_of S651 ⟨by decide, by decide⟩) (Has.at H651 (inb_of S651 ⟨by decide, by decide⟩) rfl) (g := mkF m 54 _ _) rfl rfl (q.d d12_54) _ k) ?_
 refine own_let ?_; intro g652_
 obtain ⟨cl653, Ar653, q653, S653, M653, H653, G653⟩ := id VA
 obtain ⟨T654, h654, X654, e654, W654, st654⟩ := stJ X0 hx hZ e0 Ar653 (j := (1 : Int32)) (inb_of S653 ⟨by decide, by decide⟩) (g := g652_) rfl rfl (q.d d12_55)
 have zs655 := Nat.le_trans Z0 (Keep.of_wr W654).1
 have kp655 := kp0.wr W654 (own_i0)
 have V654 : Arv Z h654 a1 k0 .long (9 : Int32) [(.long al), (.long al), (.long al), (.long be), (.long al), (.long be), (.long al), (.long be), (.long al)] (.long (0 : Int64)) := Arv.set Ar653 q653 S653 M653 H653 G653 rfl W654 1 rfl (Nat.le_of_ble_eq_true rfl)
 have N654 := Fr.snoc X654 N0 g1
 refine own_stp 56 st654 (own_gt X654 q d12_56 (own_iik X654 q d12_31 rfl (show ((0 : Int32) + (-1 : Int32)) = (-1 : Int32) by decide) (l' := #[.val (.ref a1), .val v'0, .val v'9, .val (.int (-1 : Int32)), .val v'1, .val (.long be), .second]) rfl (own_iln X654 q d12_34 rfl (own_iln X654 q d12_35 rfl (own_cy X654 q d12_36 ((tlt ((by decide) : (-1 : Int32) < (0 : Int32))).1) (own_aln X654 q d12_59 rfl rfl (own_iln X654 q d12_60 rfl (own_k X654 q d12_61 (own_iaddk 0 X654 q d12_62 (by decide) (own_ll X654 q d12_63 rfl ?_))))))))))
 refine own_let ?_; intro g656_
 obtain ⟨cl657, Ar657, q657, S657, M657, H657, G657⟩ := id V654
 obtain ⟨T658, h658, X658, e658, W658, st658⟩ := stJ X654 hx hZ e654 Ar657 (j := (0 : Int32)) (inb_of S657 ⟨by decide, by decide⟩) (g := g656_) rfl rfl (q.d d12_65)
 have zs659 := Nat.le_trans zs655 (Keep.of_wr W658).1
 have kp659 := kp655.wr W658 (own_i0)
 have V658 : Arv Z h658 a1 k0 .long (9 : Int32) [(.long be), (.long al), (.long al), (.long be), (.long al), (.long be), (.long al), (.long be), (.long al)] (.long (0 : Int64)) := Arv.set Ar657 q657 S657 M657 H657 G657 rfl W658 0 rfl (Nat.le_of_ble_eq_true rfl)
 have N658 := Fr.snoc X658 N654 g1
 refine own_stp 66 st658 (own_gt X658 q d12_66 (own_iik X658 q d12_3 rfl (show ((1 : Int32) + (1 : Int32)) = (2 : Int32) by decide) (l' := #[.val (.ref a1), .val v'0, .val v'9, .val (.int (-1 : Int32)), .val v'2, .val (.long be), .second]) rfl (own_il X658 q d12_6 rfl (own_iln X658 q d12_8 rfl (own_cn X658 q d12_9 ((tlt ((by decide) : (2 : Int32) < (9 : Int32))).2.1) (own_aln X658 q d12_12 rfl rfl (own_il X658 q d12_13 rfl (own_dp X658 q d12_15 rfl (own_isn X658 q d12_16 (l' := #[.val (.ref a1), .val v'0, .val v'9, .val v'2, .val v'2, .val (.long be), .second]) rfl ?_)))))))))
 obtain ⟨cl660, Ar660, q660, S660, M660, H660, G660⟩ := id V658
 refine own_stp 18 (fun _ k => X658.laload hx (j := (2 : Int32)) (v := (.long al)) (by rw [e658]; exact Ar660.1) (State.isArrayOf_alike hZ.alike Ar660.2.1) Ar660.2.2 (inb_of S660 ⟨by decide, by decide⟩) (Has.at H660 (inb_of S660 ⟨by decide, by decide⟩) rfl) (g := mkF m 17 _ _) rfl rfl (q.d d12_17) _ k) (own_ls X658 q d12_18 (l' := #[.val (.ref a1), .val v'0, .val v'9, .val v'2, .val v'2, .val (.long al), .second]) rfl (own_ll X658 q d12_20 rfl (own_aln X658 q d12_22 rfl rfl (own_iln X658 q d12_23 rfl (own_k X658 q d12_24 (own_isubk 1 X658 q d12_25 (by decide) ?_))))))
 obtain ⟨cl661, Ar661, q661, S661, M661, H661, G661⟩ := id V658
 refine own_stp 27 (fun _ k => X658.laload hx (j := (1 : Int32)) (v := (.long al)) (by rw [e658]; exact Ar661.1) (State.isArrayOf_alike hZ.alike Ar661.2.1) Ar661.2.2 (inb_of S661 ⟨by decide, by decide⟩) (Has.at H661 (inb_of S661 ⟨by decide, by decide⟩) rfl) (g := mkF m 26 _ _) rfl rfl (q.d d12_26) _ k) (own_stq 28 [(.int (lcmpW al al))] (fun _ k => XS.lcmp X658.here hx rfl (q.d d12_27) rfl k) (own_zy X658 q d12_28 (((if0 _ _).trans (flt ((own_lself _) : ¬ ((lcmpW al al) < (0 : Int32)))).2.1)) (own_gt X658 q d12_66 (own_iik X658 q d12_3 rfl (show ((2 : Int32) + (1 : Int32)) = (3 : Int32) by decide) (l' := #[.val (.ref a1), .val v'0, .val v'9, .val v'2, .val v'3, .val (.long al), .second]) rfl (own_il X658 q d12_6 rfl (own_iln X658 q d12_8 rfl (own_cn X658 q d12_9 ((tlt ((by decide) : (3 : Int32) < (9 : Int32))).2.1) (own_aln X658 q d12_12 rfl rfl (own_il X658 q d12_13 rfl (own_dp X658 q d12_15 rfl (own_isn X658 q d12_16 (l' := #[.val (.ref a1), .val v'0, .val v'9, .val v'3, .val v'3, .val (.long al), .second]) rfl ?_)))))))))))
 obtain ⟨cl662, Ar662, q662, S662, M662, H662, G662⟩ := id V658
 refine own_stp 18 (fun _ k => X658.laload hx (j := (3 : Int32)) (v := (.long be)) (by rw [e658]; exact Ar662.1) (State.isArrayOf_alike hZ.alike Ar662.2.1) Ar662.2.2 (inb_of S662 ⟨by decide, by decide⟩) (Has.at H662 (inb_of S662 ⟨by decide, by decide⟩) rfl) (g := mkF m 17 _ _) rfl rfl (q.d d12_17) _ k) (own_ls X658 q d12_18 (l' := #[.val (.ref a1), .val v'0, .val v'9, .val v'3, .val v'3, .val (.long be), .second]) rfl (own_ll X658 q d12_20 rfl (own_aln X658 q d12_22 rfl rfl (own_iln X658 q d12_23 rfl (own_k X658 q d12_24 (own_isubk 2 X658 q d12_25 (by decide) ?_))))))
 obtain ⟨cl663, Ar663, q663, S663, M663, H663, G663⟩ := id V658
 refine own_stp 27 (fun _ k => X658.laload hx (j := (2 : Int32)) (v := (.long al)) (by rw [e658]; exact Ar663.1) (State.isArrayOf_alike hZ.alike Ar663.2.1) Ar663.2.2 (inb_of S663 ⟨by decide, by decide⟩) (Has.at H663 (inb_of S663 ⟨by decide, by decide⟩) rfl) (g := mkF m 26 _ _) rfl rfl (q.d d12_26) _ k) (own_stq 28 [(.int (lcmpW be al))] (fun _ k => XS.lcmp X658.here hx rfl (q.d d12_27) rfl k) (own_zn X658 q d12_28 (((if0 _ _).trans (tlt (hgt : (lcmpW be al) < (0 : Int32))).2.1)) (own_iik X658 q d12_31 rfl (show ((3 : Int32) + (-1 : Int32)) = (2 : Int32) by decide) (l' := #[.val (.ref a1), .val v'0, .val v'9, .val v'2, .val v'3, .val (.long be), .second]) rfl (own_iln X658 q d12_34 rfl (own_iln X658 q d12_35 rfl (own_cn X658 q d12_36 ((flt ((by decide) : ¬ ((2 : Int32) < (0 : Int32)))).1) (own_ll X658 q d12_39 rfl (own_aln X658 q d12_41 rfl rfl (own_iln X658 q d12_42 rfl ?_)))))))))
 obtain ⟨cl664, Ar664, q664, S664, M664, H664, G664⟩ := id V658
 refine own_stp 44 (fun _ k => X658.laload hx (j := (2 : Int32)) (v := (.long al)) (by rw [e658]; exact Ar664.1) (State.isArrayOf_alike hZ.alike Ar664.2.1) Ar664.2.2 (inb_of S664 ⟨by decide, by decide⟩) (Has.at H664 (inb_of S664 ⟨by decide, by decide⟩) rfl) (g := mkF m 43 _ _) rfl rfl (q.d d12_43) _ k) (own_stq 45 [(.int (lcmpW be al))] (fun _ k => XS.lcmp X658.here hx rfl (q.d d12_44) rfl k) (own_zn X658 q d12_45 (((if0 _ _).trans (tlt (hgt : (lcmpW be al) < (0 : Int32))).2.1)) (own_aln X658 q d12_48 rfl rfl (own_iln X658 q d12_49 rfl (own_k X658 q d12_50 (own_iaddk 3 X658 q d12_51 (by decide) (own_aln X658 q d12_52 rfl rfl (own_iln X658 q d12_53 rfl ?_))))))))
 obtain ⟨cl665, Ar665, q665, S665, M665, H665, G665⟩ := id V658
 refine own_stp 55 (fun _ k => X658.laload hx (j := (2 : Int32)) (v := (.long al)) (by rw [e658]; exact Ar665.1) (State.isArrayOf_alike hZ.alike Ar665.2.1) Ar665.2.2 (inb_of S665 ⟨by decide, by decide⟩) (Has.at H665 (inb_of S665 ⟨by decide, by decide⟩) rfl) (g := mkF m 54 _ _) rfl rfl (q.d d12_54) _ k) ?_
 refine own_let ?_; intro g666_
 obtain ⟨cl667, Ar667, q667, S667, M667, H667, G667⟩ := id V658
 obtain ⟨T668, h668, X668, e668, W668, st668⟩ := stJ X658 hx hZ e658 Ar667 (j := (3 : Int32)) (inb_of S667 ⟨by decide, by decide⟩) (g := g666_) rfl rfl (q.d d12_55)
 have zs669 := Nat.le_trans zs659 (Keep.of_wr W668).1
 have kp669 := kp659.wr W668 (own_i0)
 have V668 : Arv Z h668 a1 k0 .long (9 : Int32) [(.long be), (.long al), (.long al), (.long al), (.long al), (.long be), (.long al), (.long be), (.long al)] (.long (0 : Int64)) := Arv.set Ar667 q667 S667 M667 H667 G667 rfl W668 3 rfl (Nat.le_of_ble_eq_true rfl)
 have N668 := Fr.snoc X668 N658 g1
 refine own_stp 56 st668 (own_gt X668 q d12_56 (own_iik X668 q d12_31 rfl (show ((2 : Int32) + (-1 : Int32)) = (1 : Int32) by decide) (l' := #[.val (.ref a1), .val v'0, .val v'9, .val v'1, .val v'3, .val (.long be), .second]) rfl (own_iln X668 q d12_34 rfl (own_iln X668 q d12_35 rfl (own_cn X668 q d12_36 ((flt ((by decide) : ¬ ((1 : Int32) < (0 : Int32)))).1) (own_ll X668 q d12_39 rfl (own_aln X668 q d12_41 rfl rfl (own_iln X668 q d12_42 rfl ?_))))))))
 obtain ⟨cl670, Ar670, q670, S670, M670, H670, G670⟩ := id V668
 refine own_stp 44 (fun _ k => X668.laload hx (j := (1 : Int32)) (v := (.long al)) (by rw [e668]; exact Ar670.1) (State.isArrayOf_alike hZ.alike Ar670.2.1) Ar670.2.2 (inb_of S670 ⟨by decide, by decide⟩) (Has.at H670 (inb_of S670 ⟨by decide, by decide⟩) rfl) (g := mkF m 43 _ _) rfl rfl (q.d d12_43) _ k) (own_stq 45 [(.int (lcmpW be al))] (fun _ k => XS.lcmp X668.here hx rfl (q.d d12_44) rfl k) (own_zn X668 q d12_45 (((if0 _ _).trans (tlt (hgt : (lcmpW be al) < (0 : Int32))).2.1)) (own_aln X668 q d12_48 rfl rfl (own_iln X668 q d12_49 rfl (own_k X668 q d12_50 (own_iaddk 2 X668 q d12_51 (by decide) (own_aln X668 q d12_52 rfl rfl (own_iln X668 q d12_53 rfl ?_))))))))
 obtain ⟨cl671, Ar671, q671, S671, M671, H671, G671⟩ := id V668
 refine own_stp 55 (fun _ k => X668.laload hx (j := (1 : Int32)) (v := (.long al)) (by rw [e668]; exact Ar671.1) (State.isArrayOf_alike hZ.alike Ar671.2.1) Ar671.2.2 (inb_of S671 ⟨by decide, by decide⟩) (Has.at H671 (inb_of S671 ⟨by decide, by decide⟩) rfl) (g := mkF m 54 _ _) rfl rfl (q.d d12_54) _ k) ?_
 refine own_let ?_; intro g672_
 obtain ⟨cl673, Ar673, q673, S673, M673, H673, G673⟩ := id V668
 obtain ⟨T674, h674, X674, e674, W674, st674⟩ := stJ X668 hx hZ e668 Ar673 (j := (2 : Int32)) (inb_of S673 ⟨by decide, by decide⟩) (g := g672_) rfl rfl (q.d d12_55)
 have zs675 := Nat.le_trans zs669 (Keep.of_wr W674).1
 have kp675 := kp669.wr W674 (own_i0)
 have V674 : Arv Z h674 a1 k0 .long (9 : Int32) [(.long be), (.long al), (.long al), (.long al), (.long al), (.long be), (.long al), (.long be), (.long al)] (.long (0 : Int64)) := Arv.set Ar673 q673 S673 M673 H673 G673 rfl W674 2 rfl (Nat.le_of_ble_eq_true rfl)
 have N674 := Fr.snoc X674 N668 g1
 refine own_stp 56 st674 (own_gt X674 q d12_56 (own_iik X674 q d12_31 rfl (show ((1 : Int32) + (-1 : Int32)) = (0 : Int32) by decide) (l' := #[.val (.ref a1), .val v'0, .val v'9, .val v'0, .val v'3, .val (.long be), .second]) rfl (own_iln X674 q d12_34 rfl (own_iln X674 q d12_35 rfl (own_cn X674 q d12_36 ((flt (Int32.lt_irrefl : ¬ ((0 : Int32) < (0 : Int32)))).1) (own_ll X674 q d12_39 rfl (own_aln X674 q d12_41 rfl rfl (own_iln X674 q d12_42 rfl ?_))))))))
 obtain ⟨cl676, Ar676, q676, S676, M676, H676, G676⟩ := id V674
 refine own_stp 44 (fun _ k => X674.laload hx (j := (0 : Int32)) (v := (.long be)) (by rw [e674]; exact Ar676.1) (State.isArrayOf_alike hZ.alike Ar676.2.1) Ar676.2.2 (inb_of S676 ⟨by decide, by decide⟩) (Has.at H676 (inb_of S676 ⟨by decide, by decide⟩) rfl) (g := mkF m 43 _ _) rfl rfl (q.d d12_43) _ k) (own_stq 45 [(.int (lcmpW be be))] (fun _ k => XS.lcmp X674.here hx rfl (q.d d12_44) rfl k) (own_zy X674 q d12_45 (((if0 _ _).trans (flt ((own_lself _) : ¬ ((lcmpW be be) < (0 : Int32)))).2.1)) (own_aln X674 q d12_59 rfl rfl (own_iln X674 q d12_60 rfl (own_k X674 q d12_61 (own_iaddk 1 X674 q d12_62 (by decide) (own_ll X674 q d12_63 rfl ?_)))))))
 refine own_let ?_; intro g677_
 obtain ⟨cl678, Ar678, q678, S678, M678, H678, G678⟩ := id V674
 obtain ⟨T679, h679, X679, e679, W679, st679⟩ := stJ X674 hx hZ e674 Ar678 (j := (1 : Int32)) (inb_of S678 ⟨by decide, by decide⟩) (g := g677_) rfl rfl (q.d d12_65)
 have zs680 := Nat.le_trans zs675 (Keep.of_wr W679).1
 have kp680 := kp675.wr W679 (own_i0)
 have V679 : Arv Z h679 a1 k0 .long (9 : Int32) [(.long be), (.long be), (.long al), (.long al), (.long al), (.long be), (.long al), (.long be), (.long al)] (.long (0 : Int64)) := Arv.set Ar678 q678 S678 M678 H678 G678 rfl W679 1 rfl (Nat.le_of_ble_eq_true rfl)
 have N679 := Fr.snoc X679 N674 g1
 refine own_stp 66 st679 (own_gt X679 q d12_66 (own_iik X679 q d12_3 rfl (show ((3 : Int32) + (1 : Int32)) = (4 : Int32) by decide) (l' := #[.val (.ref a1), .val v'0, .val v'9, .val v'0, .val v'4, .val (.long be), .second]) rfl (own_il X679 q d12_6 rfl (own_iln X679 q d12_8 rfl (own_cn X679 q d12_9 ((tlt ((by decide) : (4 : Int32) < (9 : Int32))).2.1) (own_aln X679 q d12_12 rfl rfl (own_il X679 q d12_13 rfl (own_dp X679 q d12_15 rfl (own_isn X679 q d12_16 (l' := #[.val (.ref a1), .val v'0, .val v'9, .val v'4, .val v'4, .val (.long be), .second]) rfl ?_)))))))))
 obtain ⟨cl681, Ar681, q681, S681, M681, H681, G681⟩ := id V679
 refine own_stp 18 (fun _ k => X679.laload hx (j := (4 : Int32)) (v := (.long al)) (by rw [e679]; exact Ar681.1) (State.isArrayOf_alike hZ.alike Ar681.2.1) Ar681.2.2 (inb_of S681 ⟨by decide, by decide⟩) (Has.at H681 (inb_of S681 ⟨by decide, by decide⟩) rfl) (g := mkF m 17 _ _) rfl rfl (q.d d12_17) _ k) (own_ls X679 q d12_18 (l' := #[.val (.ref a1), .val v'0, .val v'9, .val v'4, .val v'4, .val (.long al), .second]) rfl (own_ll X679 q d12_20 rfl (own_aln X679 q d12_22 rfl rfl (own_iln X679 q d12_23 rfl (own_k X679 q d12_24 (own_isubk 3 X679 q d12_25 (by decide) ?_))))))
 obtain ⟨cl682, Ar682, q682, S682, M682, H682, G682⟩ := id V679
 refine own_stp 27 (fun _ k => X679.laload hx (j := (3 : Int32)) (v := (.long al)) (by rw [e679]; exact Ar682.1) (State.isArrayOf_alike hZ.alike Ar682.2.1) Ar682.2.2 (inb_of S682 ⟨by decide, by decide⟩) (Has.at H682 (inb_of S682 ⟨by decide, by decide⟩) rfl) (g := mkF m 26 _ _) rfl rfl (q.d d12_26) _ k) (own_stq 28 [(.int (lcmpW al al))] (fun _ k => XS.lcmp X679.here hx rfl (q.d d12_27) rfl k) (own_zy X679 q d12_28 (((if0 _ _).trans (flt ((own_lself _) : ¬ ((lcmpW al al) < (0 : Int32)))).2.1)) (own_gt X679 q d12_66 (own_iik X679 q d12_3 rfl (show ((4 : Int32) + (1 : Int32)) = (5 : Int32) by decide) (l' := #[.val (.ref a1), .val v'0, .val v'9, .val v'4, .val v'5, .val (.long al), .second]) rfl (own_il X679 q d12_6 rfl (own_iln X679 q d12_8 rfl (own_cn X679 q d12_9 ((tlt ((by decide) : (5 : Int32) < (9 : Int32))).2.1) (own_aln X679 q d12_12 rfl rfl (own_il X679 q d12_13 rfl (own_dp X679 q d12_15 rfl (own_isn X679 q d12_16 (l' := #[.val (.ref a1), .val v'0, .val v'9, .val v'5, .val v'5, .val (.long al), .second]) rfl ?_)))))))))))
 obtain ⟨cl683, Ar683, q683, S683, M683, H683, G683⟩ := id V679
 refine own_stp 18 (fun _ k => X679.laload hx (j := (5 : Int32)) (v := (.long be)) (by rw [e679]; exact Ar683.1) (State.isArrayOf_alike hZ.alike Ar683.2.1) Ar683.2.2 (inb_of S683 ⟨by decide, by decide⟩) (Has.at H683 (inb_of S683 ⟨by decide, by decide⟩) rfl) (g := mkF m 17 _ _) rfl rfl (q.d d12_17) _ k) (own_ls X679 q d12_18 (l' := #[.val (.ref a1), .val v'0, .val v'9, .val v'5, .val v'5, .val (.long be), .second]) rfl (own_ll X679 q d12_20 rfl (own_aln X679 q d12_22 rfl rfl (own_iln X679 q d12_23 rfl (own_k X679 q d12_24 (own_isubk 4 X679 q d12_25 (by decide) ?_))))))
 obtain ⟨cl684, Ar684, q684, S684, M684, H684, G684⟩ := id V679
 refine own_stp 27 (fun _ k => X679.laload hx (j := (4 : Int32)) (v := (.long al)) (by rw [e679]; exact Ar684.1) (State.isArrayOf_alike hZ.alike Ar684.2.1) Ar684.2.2 (inb_of S684 ⟨by decide, by decide⟩) (Has.at H684 (inb_of S684 ⟨by decide, by decide⟩) rfl) (g := mkF m 26 _ _) rfl rfl (q.d d12_26) _ k) (own_stq 28 [(.int (lcmpW be al))] (fun _ k => XS.lcmp X679.here hx rfl (q.d d12_27) rfl k) (own_zn X679 q d12_28 (((if0 _ _).trans (tlt (hgt : (lcmpW be al) < (0 : Int32))).2.1)) (own_iik X679 q d12_31 rfl (show ((5 : Int32) + (-1 : Int32)) = (4 : Int32) by decide) (l' := #[.val (.ref a1), .val v'0, .val v'9, .val v'4, .val v'5, .val (.long be), .second]) rfl (own_iln X679 q d12_34 rfl (own_iln X679 q d12_35 rfl (own_cn X679 q d12_36 ((flt ((by decide) : ¬ ((4 : Int32) < (0 : Int32)))).1) (own_ll X679 q d12_39 rfl (own_aln X679 q d12_41 rfl rfl (own_iln X679 q d12_42 rfl ?_)))))))))
 obtain ⟨cl685, Ar685, q685, S685, M685, H685, G685⟩ := id V679
 refine own_stp 44 (fun _ k => X679.laload hx (j := (4 : Int32)) (v := (.long al)) (by rw [e679]; exact Ar685.1) (State.isArrayOf_alike hZ.alike Ar685.2.1) Ar685.2.2 (inb_of S685 ⟨by decide, by decide⟩) (Has.at H685 (inb_of S685 ⟨by decide, by decide⟩) rfl) (g := mkF m 43 _ _) rfl rfl (q.d d12_43) _ k) (own_stq 45 [(.int (lcmpW be al))] (fun _ k => XS.lcmp X679.here hx rfl (q.d d12_44) rfl k) (own_zn X679 q d12_45 (((if0 _ _).trans (tlt (hgt : (lcmpW be al) < (0 : Int32))).2.1)) (own_aln X679 q d12_48 rfl rfl (own_iln X679 q d12_49 rfl (own_k X679 q d12_50 (own_iaddk 5 X679 q d12_51 (by decide) (own_aln X679 q d12_52 rfl rfl (own_iln X679 q d12_53 rfl ?_))))))))
 obtain ⟨cl686, Ar686, q686, S686, M686, H686, G686⟩ := id V679
 refine own_stp 55 (fun _ k => X679.laload hx (j := (4 : Int32)) (v := (.long al)) (by rw [e679]; exact Ar686.1) (State.isArrayOf_alike hZ.alike Ar686.2.1) Ar686.2.2 (inb_of S686 ⟨by decide, by decide⟩) (Has.at H686 (inb_of S686 ⟨by decide, by decide⟩) rfl) (g := mkF m 54 _ _) rfl rfl (q.d d12_54) _ k) ?_
 refine own_let ?_; intro g687_
 obtain ⟨cl688, Ar688, q688, S688, M688, H688, G688⟩ := id V679
 obtain ⟨T689, h689, X689, e689, W689, st689⟩ := stJ X679 hx hZ e679 Ar688 (j := (5 : Int32)) (inb_of S688 ⟨by decide, by decide⟩) (g := g687_) rfl rfl (q.d d12_55)
 have zs690 := Nat.le_trans zs680 (Keep.of_wr W689).1
 have kp690 := kp680.wr W689 (own_i0)
 have V689 : Arv Z h689 a1 k0 .long (9 : Int32) [(.long be), (.long be), (.long al), (.long al), (.long al), (.long al), (.long al), (.long be), (.long al)] (.long (0 : Int64)) := Arv.set Ar688 q688 S688 M688 H688 G688 rfl W689 5 rfl (Nat.le_of_ble_eq_true rfl)
 have N689 := Fr.snoc X689 N679 g1
 refine own_stp 56 st689 (own_gt X689 q d12_56 (own_iik X689 q d12_31 rfl (show ((4 : Int32) + (-1 : Int32)) = (3 : Int32) by decide) (l' := #[.val (.ref a1), .val v'0, .val v'9, .val v'3, .val v'5, .val (.long be), .second]) rfl (own_iln X689 q d12_34 rfl (own_iln X689 q d12_35 rfl (own_cn X689 q d12_36 ((flt ((by decide) : ¬ ((3 : Int32) < (0 : Int32)))).1) (own_ll X689 q d12_39 rfl (own_aln X689 q d12_41 rfl rfl (own_iln X689 q d12_42 rfl ?_))))))))
 obtain ⟨cl691, Ar691, q691, S691, M691, H691, G691⟩ := id V689
 refine own_stp 44 (fun _ k => X689.laload hx (j := (3 : Int32)) (v := (.long al)) (by rw [e689]; exact Ar691.1) (State.isArrayOf_alike hZ.alike Ar691.2.1) Ar691.2.2 (inb_of S691 ⟨by decide, by decide⟩) (Has.at H691 (inb_of S691 ⟨by decide, by decide⟩) rfl) (g := mkF m 43 _ _) rfl rfl (q.d d12_43) _ k) (own_stq 45 [(.int (lcmpW be al))] (fun _ k => XS.lcmp X689.here hx rfl (q.d d12_44) rfl k) (own_zn X689 q d12_45 (((if0 _ _).trans (tlt (hgt : (lcmpW be al) < (0 : Int32))).2.1)) (own_aln X689 q d12_48 rfl rfl (own_iln X689 q d12_49 rfl (own_k X689 q d12_50 (own_iaddk 4 X689 q d12_51 (by decide) (own_aln X689 q d12_52 rfl rfl (own_iln X689 q d12_53 rfl ?_))))))))
 obtain ⟨cl692, Ar692, q692, S692, M692, H692, G692⟩ := id V689
 refine own_stp 55 (fun _ k => X689.laload hx (j := (3 : Int32)) (v := (.long al)) (by rw [e689]; exact Ar692.1) (State.isArrayOf_alike hZ.alike Ar692.2.1) Ar692.2.2 (inb_of S692 ⟨by decide, by decide⟩) (Has.at H692 (inb_of S692 ⟨by decide, by decide⟩) rfl) (g := mkF m 54 _ _) rfl rfl (q.d d12_54) _ k) ?_
 refine own_let ?_; intro g693_
 obtain ⟨cl694, Ar694, q694, S694, M694, H694, G694⟩ := id V689
 obtain ⟨T695, h695, X695, e695, W695, st695⟩ := stJ X689 hx hZ e689 Ar694 (j := (4 : Int32)) (inb_of S694 ⟨by decide, by decide⟩) (g := g693_) rfl rfl (q.d d12_55)
 have zs696 := Nat.le_trans zs690 (Keep.of_wr W695).1
 have kp696 := kp690.wr W695 (own_i0)
 have V695 : Arv Z h695 a1 k0 .long (9 : Int32) [(.long be), (.long be), (.long al), (.long al), (.long al), (.long al), (.long al), (.long be), (.long al)] (.long (0 : Int64)) := Arv.set Ar694 q694 S694 M694 H694 G694 rfl W695 4 rfl (Nat.le_of_ble_eq_true rfl)
 have N695 := Fr.snoc X695 N689 g1
 refine own_stp 56 st695 (own_gt X695 q d12_56 (own_iik X695 q d12_31 rfl (show ((3 : Int32) + (-1 : Int32)) = (2 : Int32) by decide) (l' := #[.val (.ref a1), .val v'0, .val v'9, .val v'2, .val v'5, .val (.long be), .second]) rfl (own_iln X695 q d12_34 rfl (own_iln X695 q d12_35 rfl (own_cn X695 q d12_36 ((flt ((by decide) : ¬ ((2 : Int32) < (0 : Int32)))).1) (own_ll X695 q d12_39 rfl (own_aln X695 q d12_41 rfl rfl (own_iln X695 q d12_42 rfl ?_))))))))
 obtain ⟨cl697, Ar697, q697, S697, M697, H697, G697⟩ := id V695
 refine own_stp 44 (fun _ k => X695.laload hx (j := (2 : Int32)) (v := (.long al)) (by rw [e695]; exact Ar697.1) (State.isArrayOf_alike hZ.alike Ar697.2.1) Ar697.2.2 (inb_of S697 ⟨by decide, by decide⟩) (Has.at H697 (inb_of S697 ⟨by decide, by decide⟩) rfl) (g := mkF m 43 _ _) rfl rfl (q.d d12_43) _ k) (own_stq 45 [(.int (lcmpW be al))] (fun _ k => XS.lcmp X695.here hx rfl (q.d d12_44) rfl k) (own_zn X695 q d12_45 (((if0 _ _).trans (tlt (hgt : (lcmpW be al) < (0 : Int32))).2.1)) (own_aln X695 q d12_48 rfl rfl (own_iln X695 q d12_49 rfl (own_k X695 q d12_50 (own_iaddk 3 X695 q d12_51 (by decide) (own_aln X695 q d12_52 rfl rfl (own_iln X695 q d12_53 rfl ?_))))))))
 obtain ⟨cl698, Ar698, q698, S698, M698, H698, G698⟩ := id V695
 refine own_stp 55 (fun _ k => X695.laload hx (j := (2 : Int32)) (v := (.long al)) (by rw [e695]; exact Ar698.1) (State.isArrayOf_alike hZ.alike Ar698.2.1) Ar698.2.2 (inb_of S698 ⟨by decide, by decide⟩) (Has.at H698 (inb_of S698 ⟨by decide, by decide⟩) rfl) (g := mkF m 54 _ _) rfl rfl (q.d d12_54) _ k) ?_
 refine own_let ?_; intro g699_
 obtain ⟨cl700, Ar700, q700, S700, M700, H700, G700⟩ := id V695
 obtain ⟨T701, h701, X701, e701, W701, st701⟩ := stJ X695 hx hZ e695 Ar700 (j := (3 : Int32)) (inb_of S700 ⟨by decide, by decide⟩) (g := g699_) rfl rfl (q.d d12_55)
 have zs702 := Nat.le_trans zs696 (Keep.of_wr W701).1
 have kp702 := kp696.wr W701 (own_i0)
 have V701 : Arv Z h701 a1 k0 .long (9 : Int32) [(.long be), (.long be), (.long al), (.long al), (.long al), (.long al), (.long al), (.long be), (.long al)] (.long (0 : Int64)) := Arv.set Ar700 q700 S700 M700 H700 G700 rfl W701 3 rfl (Nat.le_of_ble_eq_true rfl)
 have N701 := Fr.snoc X701 N695 g1
 refine own_stp 56 st701 (own_gt X701 q d12_56 (own_iik X701 q d12_31 rfl (show ((2 : Int32) + (-1 : Int32)) = (1 : Int32) by decide) (l' := #[.val (.ref a1), .val v'0, .val v'9, .val v'1, .val v'5, .val (.long be), .second]) rfl (own_iln X701 q d12_34 rfl (own_iln X701 q d12_35 rfl (own_cn X701 q d12_36 ((flt ((by decide) : ¬ ((1 : Int32) < (0 : Int32)))).1) (own_ll X701 q d12_39 rfl (own_aln X701 q d12_41 rfl rfl (own_iln X701 q d12_42 rfl ?_))))))))
 obtain ⟨cl703, Ar703, q703, S703, M703, H703, G703⟩ := id V701
 refine own_stp 44 (fun _ k => X701.laload hx (j := (1 : Int32)) (v := (.long be)) (by rw [e701]; exact Ar703.1) (State.isArrayOf_alike hZ.alike Ar703.2.1) Ar703.2.2 (inb_of S703 ⟨by decide, by decide⟩) (Has.at H703 (inb_of S703 ⟨by decide, by decide⟩) rfl) (g := mkF m 43 _ _) rfl rfl (q.d d12_43) _ k) (own_stq 45 [(.int (lcmpW be be))] (fun _ k => XS.lcmp X701.here hx rfl (q.d d12_44) rfl k) (own_zy X701 q d12_45 (((if0 _ _).trans (flt ((own_lself _) : ¬ ((lcmpW be be) < (0 : Int32)))).2.1)) (own_aln X701 q d12_59 rfl rfl (own_iln X701 q d12_60 rfl (own_k X701 q d12_61 (own_iaddk 2 X701 q d12_62 (by decide) (own_ll X701 q d12_63 rfl ?_)))))))
 refine own_let ?_; intro g704_
 obtain ⟨cl705, Ar705, q705, S705, M705, H705, G705⟩ := id V701
 obtain ⟨T706, h706, X706, e706, W706, st706⟩ := stJ X701 hx hZ e701 Ar705 (j := (2 : Int32)) (inb_of S705 ⟨by decide, by decide⟩) (g := g704_) rfl rfl (q.d d12_65)
 have zs707 := Nat.le_trans zs702 (Keep.of_wr W706).1
 have kp707 := kp702.wr W706 (own_i0)
 have V706 : Arv Z h706 a1 k0 .long (9 : Int32) [(.long be), (.long be), (.long be), (.long al), (.long al), (.long al), (.long al), (.long be), (.long al)] (.long (0 : Int64)) := Arv.set Ar705 q705 S705 M705 H705 G705 rfl W706 2 rfl (Nat.le_of_ble_eq_true rfl)
 have N706 := Fr.snoc X706 N701 g1
 refine own_stp 66 st706 (own_gt X706 q d12_66 (own_iik X706 q d12_3 rfl (show ((5 : Int32) + (1 : Int32)) = (6 : Int32) by decide) (l' := #[.val (.ref a1), .val v'0, .val v'9, .val v'1, .val v'6, .val (.long be), .second]) rfl (own_il X706 q d12_6 rfl (own_iln X706 q d12_8 rfl (own_cn X706 q d12_9 ((tlt ((by decide) : (6 : Int32) < (9 : Int32))).2.1) (own_aln X706 q d12_12 rfl rfl (own_il X706 q d12_13 rfl (own_dp X706 q d12_15 rfl (own_isn X706 q d12_16 (l' := #[.val (.ref a1), .val v'0, .val v'9, .val v'6, .val v'6, .val (.long be), .second]) rfl ?_)))))))))
 obtain ⟨cl708, Ar708, q708, S708, M708, H708, G708⟩ := id V706
 refine own_stp 18 (fun _ k => X706.laload hx (j := (6 : Int32)) (v := (.long al)) (by rw [e706]; exact Ar708.1) (State.isArrayOf_alike hZ.alike Ar708.2.1) Ar708.2.2 (inb_of S708 ⟨by decide, by decide⟩) (Has.at H708 (inb_of S708 ⟨by decide, by decide⟩) rfl) (g := mkF m 17 _ _) rfl rfl (q.d d12_17) _ k) (own_ls X706 q d12_18 (l' := #[.val (.ref a1), .val v'0, .val v'9, .val v'6, .val v'6, .val (.long al), .second]) rfl (own_ll X706 q d12_20 rfl (own_aln X706 q d12_22 rfl rfl (own_iln X706 q d12_23 rfl (own_k X706 q d12_24 (own_isubk 5 X706 q d12_25 (by decide) ?_))))))
 obtain ⟨cl709, Ar709, q709, S709, M709, H709, G709⟩ := id V706
 refine own_stp 27 (fun _ k => X706.laload hx (j := (5 : Int32)) (v := (.long al)) (by rw [e706]; exact Ar709.1) (State.isArrayOf_alike hZ.alike Ar709.2.1) Ar709.2.2 (inb_of S709 ⟨by decide, by decide⟩) (Has.at H709 (inb_of S709 ⟨by decide, by decide⟩) rfl) (g := mkF m 26 _ _) rfl rfl (q.d d12_26) _ k) (own_stq 28 [(.int (lcmpW al al))] (fun _ k => XS.lcmp X706.here hx rfl (q.d d12_27) rfl k) (own_zy X706 q d12_28 (((if0 _ _).trans (flt ((own_lself _) : ¬ ((lcmpW al al) < (0 : Int32)))).2.1)) (own_gt X706 q d12_66 (own_iik X706 q d12_3 rfl (show ((6 : Int32) + (1 : Int32)) = (7 : Int32) by decide) (l' := #[.val (.ref a1), .val v'0, .val v'9, .val v'6, .val v'7, .val (.long al), .second]) rfl (own_il X706 q d12_6 rfl (own_iln X706 q d12_8 rfl (own_cn X706 q d12_9 ((tlt ((by decide) : (7 : Int32) < (9 : Int32))).2.1) (own_aln X706 q d12_12 rfl rfl (own_il X706 q d12_13 rfl (own_dp X706 q d12_15 rfl (own_isn X706 q d12_16 (l' := #[.val (.ref a1), .val v'0, .val v'9, .val v'7, .val v'7, .val (.long al), .second]) rfl ?_)))))))))))
 obtain ⟨cl710, Ar710, q710, S710, M710, H710, G710⟩ := id V706
 refine own_stp 18 (fun _ k => X706.laload hx (j := (7 : Int32)) (v := (.long be)) (by rw [e706]; exact Ar710.1) (State.isArrayOf_alike hZ.alike Ar710.2.1) Ar710.2.2 (inb_of S710 ⟨by decide, by decide⟩) (Has.at H710 (inb_of S710 ⟨by decide, by decide⟩) rfl) (g := mkF m 17 _ _) rfl rfl (q.d d12_17) _ k) (own_ls X706 q d12_18 (l' := #[.val (.ref a1), .val v'0, .val v'9, .val v'7, .val v'7, .val (.long be), .second]) rfl (own_ll X706 q d12_20 rfl (own_aln X706 q d12_22 rfl rfl (own_iln X706 q d12_23 rfl (own_k X706 q d12_24 (own_isubk 6 X706 q d12_25 (by decide) ?_))))))
 obtain ⟨cl711, Ar711, q711, S711, M711, H711, G711⟩ := id V706
 refine own_stp 27 (fun _ k => X706.laload hx (j := (6 : Int32)) (v := (.long al)) (by rw [e706]; exact Ar711.1) (State.isArrayOf_alike hZ.alike Ar711.2.1) Ar711.2.2 (inb_of S711 ⟨by decide, by decide⟩) (Has.at H711 (inb_of S711 ⟨by decide, by decide⟩) rfl) (g := mkF m 26 _ _) rfl rfl (q.d d12_26) _ k) (own_stq 28 [(.int (lcmpW be al))] (fun _ k => XS.lcmp X706.here hx rfl (q.d d12_27) rfl k) (own_zn X706 q d12_28 (((if0 _ _).trans (tlt (hgt : (lcmpW be al) < (0 : Int32))).2.1)) (own_iik X706 q d12_31 rfl (show ((7 : Int32) + (-1 : Int32)) = (6 : Int32) by decide) (l' := #[.val (.ref a1), .val v'0, .val v'9, .val v'6, .val v'7, .val (.long be), .second]) rfl (own_iln X706 q d12_34 rfl (own_iln X706 q d12_35 rfl (own_cn X706 q d12_36 ((flt ((by decide) : ¬ ((6 : Int32) < (0 : Int32)))).1) (own_ll X706 q d12_39 rfl (own_aln X706 q d12_41 rfl rfl (own_iln X706 q d12_42 rfl ?_)))))))))
 obtain ⟨cl712, Ar712, q712, S712, M712, H712, G712⟩ := id V706
 refine own_stp 44 (fun _ k => X706.laload hx (j := (6 : Int32)) (v := (.long al)) (by rw [e706]; exact Ar712.1) (State.isArrayOf_alike hZ.alike Ar712.2.1) Ar712.2.2 (inb_of S712 ⟨by decide, by decide⟩) (Has.at H712 (inb_of S712 ⟨by decide, by decide⟩) rfl) (g := mkF m 43 _ _) rfl rfl (q.d d12_43) _ k) (own_stq 45 [(.int (lcmpW be al))] (fun _ k => XS.lcmp X706.here hx rfl (q.d d12_44) rfl k) (own_zn X706 q d12_45 (((if0 _ _).trans (tlt (hgt : (lcmpW be al) < (0 : Int32))).2.1)) (own_aln X706 q d12_48 rfl rfl (own_iln X706 q d12_49 rfl (own_k X706 q d12_50 (own_iaddk 7 X706 q d12_51 (by decide) (own_aln X706 q d12_52 rfl rfl (own_iln X706 q d12_53 rfl ?_))))))))
 obtain ⟨cl713, Ar713, q713, S713, M713, H713, G713⟩ := id V706
 refine own_stp 55 (fun _ k => X706.laload hx (j := (6 : Int32)) (v := (.long al)) (by rw [e706]; exact Ar713.1) (State.isArrayOf_alike hZ.alike Ar713.2.1) Ar713.2.2 (inb_of S713 ⟨by decide, by decide⟩) (Has.at H713 (inb_of S713 ⟨by decide, by decide⟩) rfl) (g := mkF m 54 _ _) rfl rfl (q.d d12_54) _ k) ?_
 refine own_let ?_; intro g714_
 obtain ⟨cl715, Ar715, q715, S715, M715, H715, G715⟩ := id V706
 obtain ⟨T716, h716, X716, e716, W716, st716⟩ := stJ X706 hx hZ e706 Ar715 (j := (7 : Int32)) (inb_of S715 ⟨by decide, by decide⟩) (g := g714_) rfl rfl (q.d d12_55)
 have zs717 := Nat.le_trans zs707 (Keep.of_wr W716).1
 have kp717 := kp707.wr W716 (own_i0)
 have V716 : Arv Z h716 a1 k0 .long (9 : Int32) [(.long be), (.long be), (.long be), (.long al), (.long al), (.long al), (.long al), (.long al), (.long al)] (.long (0 : Int64)) := Arv.set Ar715 q715 S715 M715 H715 G715 rfl W716 7 rfl (Nat.le_of_ble_eq_true rfl)
 have N716 := Fr.snoc X716 N706 g1
 refine own_stp 56 st716 (own_gt X716 q d12_56 (own_iik X716 q d12_31 rfl (show ((6 : Int32) + (-1 : Int32)) = (5 : Int32) by decide) (l' := #[.val (.ref a1), .val v'0, .val v'9, .val v'5, .val v'7, .val (.long be), .second]) rfl (own_iln X716 q d12_34 rfl (own_iln X716 q d12_35 rfl (own_cn X716 q d12_36 ((flt ((by decide) : ¬ ((5 : Int32) < (0 : Int32)))).1) (own_ll X716 q d12_39 rfl (own_aln X716 q d12_41 rfl rfl (own_iln X716 q d12_42 rfl ?_))))))))
 obtain ⟨cl718, Ar718, q718, S718, M718, H718, G718⟩ := id V716
 refine own_stp 44 (fun _ k => X716.laload hx (j := (5 : Int32)) (v := (.long al)) (by rw [e716]; exact Ar718.1) (State.isArrayOf_alike hZ.alike Ar718.2.1) Ar718.2.2 (inb_of S718 ⟨by decide, by decide⟩) (Has.at H718 (inb_of S718 ⟨by decide, by decide⟩) rfl) (g := mkF m 43 _ _) rfl rfl (q.d d12_43) _ k) (own_stq 45 [(.int (lcmpW be al))] (fun _ k => XS.lcmp X716.here hx rfl (q.d d12_44) rfl k) (own_zn X716 q d12_45 (((if0 _ _).trans (tlt (hgt : (lcmpW be al) < (0 : Int32))).2.1)) (own_aln X716 q d12_48 rfl rfl (own_iln X716 q d12_49 rfl (own_k X716 q d12_50 (own_iaddk 6 X716 q d12_51 (by decide) (own_aln X716 q d12_52 rfl rfl (own_iln X716 q d12_53 rfl ?_))))))))
 obtain ⟨cl719, Ar719, q719, S719, M719, H719, G719⟩ := id V716
 refine own_stp 55 (fun _ k => X716.laload hx (j := (5 : Int32)) (v := (.long al)) (by rw [e716]; exact Ar719.1) (State.isArrayOf_alike hZ.alike Ar719.2.1) Ar719.2.2 (inb_of S719 ⟨by decide, by decide⟩) (Has.at H719 (inb_of S719 ⟨by decide, by decide⟩) rfl) (g := mkF m 54 _ _) rfl rfl (q.d d12_54) _ k) ?_
 refine own_let ?_; intro g720_
 obtain ⟨cl721, Ar721, q721, S721, M721, H721, G721⟩ := id V716
 obtain ⟨T722, h722, X722, e722, W722, st722⟩ := stJ X716 hx hZ e716 Ar721 (j := (6 : Int32)) (inb_of S721 ⟨by decide, by decide⟩) (g := g720_) rfl rfl (q.d d12_55)
 have zs723 := Nat.le_trans zs717 (Keep.of_wr W722).1
 have kp723 := kp717.wr W722 (own_i0)
 have V722 : Arv Z h722 a1 k0 .long (9 : Int32) [(.long be), (.long be), (.long be), (.long al), (.long al), (.long al), (.long al), (.long al), (.long al)] (.long (0 : Int64)) := Arv.set Ar721 q721 S721 M721 H721 G721 rfl W722 6 rfl (Nat.le_of_ble_eq_true rfl)
 have N722 := Fr.snoc X722 N716 g1
 refine own_stp 56 st722 (own_gt X722 q d12_56 (own_iik X722 q d12_31 rfl (show ((5 : Int32) + (-1 : Int32)) = (4 : Int32) by decide) (l' := #[.val (.ref a1), .val v'0, .val v'9, .val v'4, .val v'7, .val (.long be), .second]) rfl (own_iln X722 q d12_34 rfl (own_iln X722 q d12_35 rfl (own_cn X722 q d12_36 ((flt ((by decide) : ¬ ((4 : Int32) < (0 : Int32)))).1) (own_ll X722 q d12_39 rfl (own_aln X722 q d12_41 rfl rfl (own_iln X722 q d12_42 rfl ?_))))))))
 obtain ⟨cl724, Ar724, q724, S724, M724, H724, G724⟩ := id V722
 refine own_stp 44 (fun _ k => X722.laload hx (j := (4 : Int32)) (v := (.long al)) (by rw [e722]; exact Ar724.1) (State.isArrayOf_alike hZ.alike Ar724.2.1) Ar724.2.2 (inb_of S724 ⟨by decide, by decide⟩) (Has.at H724 (inb_of S724 ⟨by decide, by decide⟩) rfl) (g := mkF m 43 _ _) rfl rfl (q.d d12_43) _ k) (own_stq 45 [(.int (lcmpW be al))] (fun _ k => XS.lcmp X722.here hx rfl (q.d d12_44) rfl k) (own_zn X722 q d12_45 (((if0 _ _).trans (tlt (hgt : (lcmpW be al) < (0 : Int32))).2.1)) (own_aln X722 q d12_48 rfl rfl (own_iln X722 q d12_49 rfl (own_k X722 q d12_50 (own_iaddk 5 X722 q d12_51 (by decide) (own_aln X722 q d12_52 rfl rfl (own_iln X722 q d12_53 rfl ?_))))))))
 obtain ⟨cl725, Ar725, q725, S725, M725, H725, G725⟩ := id V722
 refine own_stp 55 (fun _ k => X722.laload hx (j := (4 : Int32)) (v := (.long al)) (by rw [e722]; exact Ar725.1) (State.isArrayOf_alike hZ.alike Ar725.2.1) Ar725.2.2 (inb_of S725 ⟨by decide, by decide⟩) (Has.at H725 (inb_of S725 ⟨by decide, by decide⟩) rfl) (g := mkF m 54 _ _) rfl rfl (q.d d12_54) _ k) ?_
 refine own_let ?_; intro g726_
 obtain ⟨cl727, Ar727, q727, S727, M727, H727, G727⟩ := id V722
 obtain ⟨T728, h728, X728, e728, W728, st728⟩ := stJ X722 hx hZ e722 Ar727 (j := (5 : Int32)) (inb_of S727 ⟨by decide, by decide⟩) (g := g726_) rfl rfl (q.d d12_55)
 have zs729 := Nat.le_trans zs723 (Keep.of_wr W728).1
 have kp729 := kp723.wr W728 (own_i0)
 have V728 : Arv Z h728 a1 k0 .long (9 : Int32) [(.long be), (.long be), (.long be), (.long al), (.long al), (.long al), (.long al), (.long al), (.long al)] (.long (0 : Int64)) := Arv.set Ar727 q727 S727 M727 H727 G727 rfl W728 5 rfl (Nat.le_of_ble_eq_true rfl)
 have N728 := Fr.snoc X728 N722 g1
 refine own_stp 56 st728 (own_gt X728 q d12_56 (own_iik X728 q d12_31 rfl (show ((4 : Int32) + (-1 : Int32)) = (3 : Int32) by decide) (l' := #[.val (.ref a1), .val v'0, .val v'9, .val v'3, .val v'7, .val (.long be), .second]) rfl (own_iln X728 q d12_34 rfl (own_iln X728 q d12_35 rfl (own_cn X728 q d12_36 ((flt ((by decide) : ¬ ((3 : Int32) < (0 : Int32)))).1) (own_ll X728 q d12_39 rfl (own_aln X728 q d12_41 rfl rfl (own_iln X728 q d12_42 rfl ?_))))))))
 obtain ⟨cl730, Ar730, q730, S730, M730, H730, G730⟩ := id V728
 refine own_stp 44 (fun _ k => X728.laload hx (j := (3 : Int32)) (v := (.long al)) (by rw [e728]; exact Ar730.1) (State.isArrayOf_alike hZ.alike Ar730.2.1) Ar730.2.2 (inb_of S730 ⟨by decide, by decide⟩) (Has.at H730 (inb_of S730 ⟨by decide, by decide⟩) rfl) (g := mkF m 43 _ _) rfl rfl (q.d d12_43) _ k) (own_stq 45 [(.int (lcmpW be al))] (fun _ k => XS.lcmp X728.here hx rfl (q.d d12_44) rfl k) (own_zn X728 q d12_45 (((if0 _ _).trans (tlt (hgt : (lcmpW be al) < (0 : Int32))).2.1)) (own_aln X728 q d12_48 rfl rfl (own_iln X728 q d12_49 rfl (own_k X728 q d12_50 (own_iaddk 4 X728 q d12_51 (by decide) (own_aln X728 q d12_52 rfl rfl (own_iln X728 q d12_53 rfl ?_))))))))
 obtain ⟨cl731, Ar731, q731, S731, M731, H731, G731⟩ := id V728
 refine own_stp 55 (fun _ k => X728.laload hx (j := (3 : Int32)) (v := (.long al)) (by rw [e728]; exact Ar731.1) (State.isArrayOf_alike hZ.alike Ar731.2.1) Ar731.2.2 (inb_of S731 ⟨by decide, by decide⟩) (Has.at H731 (inb_of S731 ⟨by decide, by decide⟩) rfl) (g := mkF m 54 _ _) rfl rfl (q.d d12_54) _ k) ?_
 refine own_let ?_; intro g732_
 obtain ⟨cl733, Ar733, q733, S733, M733, H733, G733⟩ := id V728
 obtain ⟨T734, h734, X734, e734, W734, st734⟩ := stJ X728 hx hZ e728 Ar733 (j := (4 : Int32)) (inb_of S733 ⟨by decide, by decide⟩) (g := g732_) rfl rfl (q.d d12_55)
 have zs735 := Nat.le_trans zs729 (Keep.of_wr W734).1
 have kp735 := kp729.wr W734 (own_i0)
 have V734 : Arv Z h734 a1 k0 .long (9 : Int32) [(.long be), (.long be), (.long be), (.long al), (.long al), (.long al), (.long al), (.long al), (.long al)] (.long (0 : Int64)) := Arv.set Ar733 q733 S733 M733 H733 G733 rfl W734 4 rfl (Nat.le_of_ble_eq_true rfl)
 have N734 := Fr.snoc X734 N728 g1
 refine own_stp 56 st734 (own_gt X734 q d12_56 (own_iik X734 q d12_31 rfl (show ((3 : Int32) + (-1 : Int32)) = (2 : Int32) by decide) (l' := #[.val (.ref a1), .val v'0, .val v'9, .val v'2, .val v'7, .val (.long be), .second]) rfl (own_iln X734 q d12_34 rfl (own_iln X734 q d12_35 rfl (own_cn X734 q d12_36 ((flt ((by decide) : ¬ ((2 : Int32) < (0 : Int32)))).1) (own_ll X734 q d12_39 rfl (own_aln X734 q d12_41 rfl rfl (own_iln X734 q d12_42 rfl ?_))))))))
 obtain ⟨cl736, Ar736, q736, S736, M736, H736, G736⟩ := id V734
 refine own_stp 44 (fun _ k => X734.laload hx (j := (2 : Int32)) (v := (.long be)) (by rw [e734]; exact Ar736.1) (State.isArrayOf_alike hZ.alike Ar736.2.1) Ar736.2.2 (inb_of S736 ⟨by decide, by decide⟩) (Has.at H736 (inb_of S736 ⟨by decide, by decide⟩) rfl) (g := mkF m 43 _ _) rfl rfl (q.d d12_43) _ k) (own_stq 45 [(.int (lcmpW be be))] (fun _ k => XS.lcmp X734.here hx rfl (q.d d12_44) rfl k) (own_zy X734 q d12_45 (((if0 _ _).trans (flt ((own_lself _) : ¬ ((lcmpW be be) < (0 : Int32)))).2.1)) (own_aln X734 q d12_59 rfl rfl (own_iln X734 q d12_60 rfl (own_k X734 q d12_61 (own_iaddk 3 X734 q d12_62 (by decide) (own_ll X734 q d12_63 rfl ?_)))))))
 refine own_let ?_; intro g737_
 obtain ⟨cl738, Ar738, q738, S738, M738, H738, G738⟩ := id V734
 obtain ⟨T739, h739, X739, e739, W739, st739⟩ := stJ X734 hx hZ e734 Ar738 (j := (3 : Int32)) (inb_of S738 ⟨by decide, by decide⟩) (g := g737_) rfl rfl (q.d d12_65)
 have zs740 := Nat.le_trans zs735 (Keep.of_wr W739).1
 have kp740 := kp735.wr W739 (own_i0)
 have V739 : Arv Z h739 a1 k0 .long (9 : Int32) [(.long be), (.long be), (.long be), (.long be), (.long al), (.long al), (.long al), (.long al), (.long al)] (.long (0 : Int64)) := Arv.set Ar738 q738 S738 M738 H738 G738 rfl W739 3 rfl (Nat.le_of_ble_eq_true rfl)
 have N739 := Fr.snoc X739 N734 g1
 refine own_stp 66 st739 (own_gt X739 q d12_66 (own_iik X739 q d12_3 rfl (show ((7 : Int32) + (1 : Int32)) = (8 : Int32) by decide) (l' := #[.val (.ref a1), .val v'0, .val v'9, .val v'2, .val v'8, .val (.long be), .second]) rfl (own_il X739 q d12_6 rfl (own_iln X739 q d12_8 rfl (own_cn X739 q d12_9 ((tlt ((by decide) : (8 : Int32) < (9 : Int32))).2.1) (own_aln X739 q d12_12 rfl rfl (own_il X739 q d12_13 rfl (own_dp X739 q d12_15 rfl (own_isn X739 q d12_16 (l' := #[.val (.ref a1), .val v'0, .val v'9, .val v'8, .val v'8, .val (.long be), .second]) rfl ?_)))))))))
 obtain ⟨cl741, Ar741, q741, S741, M741, H741, G741⟩ := id V739
 refine own_stp 18 (fun _ k => X739.laload hx (j := (8 : Int32)) (v := (.long al)) (by rw [e739]; exact Ar741.1) (State.isArrayOf_alike hZ.alike Ar741.2.1) Ar741.2.2 (inb_of S741 ⟨by decide, by decide⟩) (Has.at H741 (inb_of S741 ⟨by decide, by decide⟩) rfl) (g := mkF m 17 _ _) rfl rfl (q.d d12_17) _ k) (own_ls X739 q d12_18 (l' := #[.val (.ref a1), .val v'0, .val v'9, .val v'8, .val v'8, .val (.long al), .second]) rfl (own_ll X739 q d12_20 rfl (own_aln X739 q d12_22 rfl rfl (own_iln X739 q d12_23 rfl (own_k X739 q d12_24 (own_isubk 7 X739 q d12_25 (by decide) ?_))))))
 obtain ⟨cl742, Ar742, q742, S742, M742, H742, G742⟩ := id V739
 refine own_stp 27 (fun _ k => X739.laload hx (j := (7 : Int32)) (v := (.long al)) (by rw [e739]; exact Ar742.1) (State.isArrayOf_alike hZ.alike Ar742.2.1) Ar742.2.2 (inb_of S742 ⟨by decide, by decide⟩) (Has.at H742 (inb_of S742 ⟨by decide, by decide⟩) rfl) (g := mkF m 26 _ _) rfl rfl (q.d d12_26) _ k) (own_stq 28 [(.int (lcmpW al al))] (fun _ k => XS.lcmp X739.here hx rfl (q.d d12_27) rfl k) (own_zy X739 q d12_28 (((if0 _ _).trans (flt ((own_lself _) : ¬ ((lcmpW al al) < (0 : Int32)))).2.1)) (own_gt X739 q d12_66 (own_iik X739 q d12_3 rfl (show ((8 : Int32) + (1 : Int32)) = (9 : Int32) by decide) (l' := #[.val (.ref a1), .val v'0, .val v'9, .val v'8, .val v'9, .val (.long al), .second]) rfl (own_il X739 q d12_6 rfl (own_iln X739 q d12_8 rfl (own_cy X739 q d12_9 ((flt (Int32.lt_irrefl : ¬ ((9 : Int32) < (9 : Int32)))).2.1) ?_)))))))
 refine own_rV X739 q hrt d12_69 hlk (by decide) ?_
 show QS2 Z a1 k0 al be h0 n0 _ T739.heap _
 rw [e739]
 exact ⟨rfl, N739, kp740, V739⟩
theorem rm12_3 (l : Launch) (Z : State) (a0 : Array Value) (hw : own_hw a0 Z) (a1 : Addr) (k0 : ClassId) (al be : Int64) (h0 : Heap) (n0 : Nat) (Z0 : n0 ≤ h0.size) (VA : Arv Z h0 a1 k0 .long (9 : Int32) [(.long al), (.long be), (.long al), (.long be), (.long al), (.long be), (.long al), (.long be), (.long al)] (.long (0 : Int64))) (g1 : n0 ≤ a1) (hlt : ¬ lcmpW al be < (0 : Int32)) (hgt : ¬ lcmpW be al < (0 : Int32)) :
  own_M l Z [] own_y6 b'12 7 none ⟨0, 0, 0, 0⟩ #[(.ref a1), v'0, v'9] h0 (QS3 Z a1 k0 al be h0 n0) := by
 refine own_start (n0 := n0) hw "java/util/DualPivotQuicksort" (L := #[.val (.ref a1), .val v'0, .val v'9, .unset, .unset, .unset, .unset]) pn_12 (fun {p e s m below meth c s₁} q hx W hml hZ hown hnm hlk hrt X0 e0 N0 => ?_)
 have kp0 := Keep.refl h0 [a1]
 refine own_iln X0 q d12_0 rfl (own_is X0 q d12_1 (l' := #[.val (.ref a1), .val v'0, .val v'9, .unset, .val v'0, .unset, .unset]) rfl (own_iik X0 q d12_3 rfl (show ((0 : Int32) + (1 : Int32)) = (1 : Int32) by decide) (l' := #[.val (.ref a1), .val v'0, .val v'9, .unset, .val v'1, .unset, .unset]) rfl (own_il X0 q d12_6 rfl (own_iln X0 q d12_8 rfl (own_cn X0 q d12_9 ((tlt ((by decide) : (1 : Int32) < (9 : Int32))).2.1) (own_aln X0 q d12_12 rfl rfl (own_il X0 q d12_13 rfl (own_dp X0 q d12_15 rfl (own_isn X0 q d12_16 (l' := #[.val (.ref a1), .val v'0, .val v'9, .val v'1, .val v'1, .unset, .unset]) rfl ?_)))))))))
 obtain ⟨cl759, Ar759, q759, S759, M759, H759, G759⟩ := id VA
 refine own_stp 18 (fun _ k => X0.laload hx (j := (1 : Int32)) (v := (.long be)) (by rw [e0]; exact Ar759.1) (State.isArrayOf_alike hZ.alike Ar759.2.1) Ar759.2.2 (inb_of S759 ⟨by decide, by decide⟩) (Has.at H759 (inb_of S759 ⟨by decide, by decide⟩) rfl) (g := mkF m 17 _ _) rfl rfl (q.d d12_17) _ k) (own_ls X0 q d12_18 (l' := #[.val (.ref a1), .val v'0, .val v'9, .val v'1, .val v'1, .val (.long be), .second]) rfl (own_ll X0 q d12_20 rfl (own_aln X0 q d12_22 rfl rfl (own_iln X0 q d12_23 rfl (own_k X0 q d12_24 (own_isubk 0 X0 q d12_25 (by decide) ?_))))))
 obtain ⟨cl760, Ar760, q760, S760, M760, H760, G760⟩ := id VA
 refine own_stp 27 (fun _ k => X0.laload hx (j := (0 : Int32)) (v := (.long al)) (by rw [e0]; exact Ar760.1) (State.isArrayOf_alike hZ.alike Ar760.2.1) Ar760.2.2 (inb_of S760 ⟨by decide, by decide⟩) (Has.at H760 (inb_of S760 ⟨by decide, by decide⟩) rfl) (g := mkF m 26 _ _) rfl rfl (q.d d12_26) _ k) (own_stq 28 [(.int (lcmpW be al))] (fun _ k => XS.lcmp X0.here hx rfl (q.d d12_27) rfl k) (own_zy X0 q d12_28 (((if0 _ _).trans (flt (hgt : ¬ ((lcmpW be al) < (0 : Int32)))).2.1)) (own_gt X0 q d12_66 (own_iik X0 q d12_3 rfl (show ((1 : Int32) + (1 : Int32)) = (2 : Int32) by decide) (l' := #[.val (.ref a1), .val v'0, .val v'9, .val v'1, .val v'2, .val (.long be), .second]) rfl (own_il X0 q d12_6 rfl (own_iln X0 q d12_8 rfl (own_cn X0 q d12_9 ((tlt ((by decide) : (2 : Int32) < (9 : Int32))).2.1) (own_aln X0 q d12_12 rfl rfl (own_il X0 q d12_13 rfl (own_dp X0 q d12_15 rfl (own_isn X0 q d12_16 (l' := #[.val (.ref a1), .val v'0, .val v'9, .val v'2, .val v'2, .val (.long be), .second]) rfl ?_)))))))))))
 obtain ⟨cl761, Ar761, q761, S761, M761, H761, G761⟩ := id VA
 refine own_stp 18 (fun _ k => X0.laload hx (j := (2 : Int32)) (v := (.long al)) (by rw [e0]; exact Ar761.1) (State.isArrayOf_alike hZ.alike Ar761.2.1) Ar761.2.2 (inb_of S761 ⟨by decide, by decide⟩) (Has.at H761 (inb_of S761 ⟨by decide, by decide⟩) rfl) (g := mkF m 17 _ _) rfl rfl (q.d d12_17) _ k) (own_ls X0 q d12_18 (l' := #[.val (.ref a1), .val v'0, .val v'9, .val v'2, .val v'2, .val (.long al), .second]) rfl (own_ll X0 q d12_20 rfl (own_aln X0 q d12_22 rfl rfl (own_iln X0 q d12_23 rfl (own_k X0 q d12_24 (own_isubk 1 X0 q d12_25 (by decide) ?_))))))
 obtain ⟨cl762, Ar762, q762, S762, M762, H762, G762⟩ := id VA
 refine own_stp 27 (fun _ k => X0.laload hx (j := (1 : Int32)) (v := (.long be)) (by rw [e0]; exact Ar762.1) (State.isArrayOf_alike hZ.alike Ar762.2.1) Ar762.2.2 (inb_of S762 ⟨by decide, by decide⟩) (Has.at H762 (inb_of S762 ⟨by decide, by decide⟩) rfl) (g := mkF m 26 _ _) rfl rfl (q.d d12_26) _ k) (own_stq 28 [(.int (lcmpW al be))] (fun _ k => XS.lcmp X0.here hx rfl (q.d d12_27) rfl k) (own_zy X0 q d12_28 (((if0 _ _).trans (flt (hlt : ¬ ((lcmpW al be) < (0 : Int32)))).2.1)) (own_gt X0 q d12_66 (own_iik X0 q d12_3 rfl (show ((2 : Int32) + (1 : Int32)) = (3 : Int32) by decide) (l' := #[.val (.ref a1), .val v'0, .val v'9, .val v'2, .val v'3, .val (.long al), .second]) rfl (own_il X0 q d12_6 rfl (own_iln X0 q d12_8 rfl (own_cn X0 q d12_9 ((tlt ((by decide) : (3 : Int32) < (9 : Int32))).2.1) (own_aln X0 q d12_12 rfl rfl (own_il X0 q d12_13 rfl (own_dp X0 q d12_15 rfl (own_isn X0 q d12_16 (l' := #[.val (.ref a1), .val v'0, .val v'9, .val v'3, .val v'3, .val (.long al), .second]) rfl ?_)))))))))))
 obtain ⟨cl763, Ar763, q763, S763, M763, H763, G763⟩ := id VA
 refine own_stp 18 (fun _ k => X0.laload hx (j := (3 : Int32)) (v := (.long be)) (by rw [e0]; exact Ar763.1) (State.isArrayOf_alike hZ.alike Ar763.2.1) Ar763.2.2 (inb_of S763 ⟨by decide, by decide⟩) (Has.at H763 (inb_of S763 ⟨by decide, by decide⟩) rfl) (g := mkF m 17 _ _) rfl rfl (q.d d12_17) _ k) (own_ls X0 q d12_18 (l' := #[.val (.ref a1), .val v'0, .val v'9, .val v'3, .val v'3, .val (.long be), .second]) rfl (own_ll X0 q d12_20 rfl (own_aln X0 q d12_22 rfl rfl (own_iln X0 q d12_23 rfl (own_k X0 q d12_24 (own_isubk 2 X0 q d12_25 (by decide) ?_))))))
 obtain ⟨cl764, Ar764, q764, S764, M764, H764, G764⟩ := id VA
 refine own_stp 27 (fun _ k => X0.laload hx (j := (2 : Int32)) (v := (.long al)) (by rw [e0]; exact Ar764.1) (State.isArrayOf_alike hZ.alike Ar764.2.1) Ar764.2.2 (inb_of S764 ⟨by decide, by decide⟩) (Has.at H764 (inb_of S764 ⟨by decide, by decide⟩) rfl) (g := mkF m 26 _ _) rfl rfl (q.d d12_26) _ k) (own_stq 28 [(.int (lcmpW be al))] (fun _ k => XS.lcmp X0.here hx rfl (q.d d12_27) rfl k) (own_zy X0 q d12_28 (((if0 _ _).trans (flt (hgt : ¬ ((lcmpW be al) < (0 : Int32)))).2.1)) (own_gt X0 q d12_66 (own_iik X0 q d12_3 rfl (show ((3 : Int32) + (1 : Int32)) = (4 : Int32) by decide) (l' := #[.val (.ref a1), .val v'0, .val v'9, .val v'3, .val v'4, .val (.long be), .second]) rfl (own_il X0 q d12_6 rfl (own_iln X0 q d12_8 rfl (own_cn X0 q d12_9 ((tlt ((by decide) : (4 : Int32) < (9 : Int32))).2.1) (own_aln X0 q d12_12 rfl rfl (own_il X0 q d12_13 rfl (own_dp X0 q d12_15 rfl (own_isn X0 q d12_16 (l' := #[.val (.ref a1), .val v'0, .val v'9, .val v'4, .val v'4, .val (.long be), .second]) rfl ?_)))))))))))
 obtain ⟨cl765, Ar765, q765, S765, M765, H765, G765⟩ := id VA
 refine own_stp 18 (fun _ k => X0.laload hx (j := (4 : Int32)) (v := (.long al)) (by rw [e0]; exact Ar765.1) (State.isArrayOf_alike hZ.alike Ar765.2.1) Ar765.2.2 (inb_of S765 ⟨by decide, by decide⟩) (Has.at H765 (inb_of S765 ⟨by decide, by decide⟩) rfl) (g := mkF m 17 _ _) rfl rfl (q.d d12_17) _ k) (own_ls X0 q d12_18 (l' := #[.val (.ref a1), .val v'0, .val v'9, .val v'4, .val v'4, .val (.long al), .second]) rfl (own_ll X0 q d12_20 rfl (own_aln X0 q d12_22 rfl rfl (own_iln X0 q d12_23 rfl (own_k X0 q d12_24 (own_isubk 3 X0 q d12_25 (by decide) ?_))))))
 obtain ⟨cl766, Ar766, q766, S766, M766, H766, G766⟩ := id VA
 refine own_stp 27 (fun _ k => X0.laload hx (j := (3 : Int32)) (v := (.long be)) (by rw [e0]; exact Ar766.1) (State.isArrayOf_alike hZ.alike Ar766.2.1) Ar766.2.2 (inb_of S766 ⟨by decide, by decide⟩) (Has.at H766 (inb_of S766 ⟨by decide, by decide⟩) rfl) (g := mkF m 26 _ _) rfl rfl (q.d d12_26) _ k) (own_stq 28 [(.int (lcmpW al be))] (fun _ k => XS.lcmp X0.here hx rfl (q.d d12_27) rfl k) (own_zy X0 q d12_28 (((if0 _ _).trans (flt (hlt : ¬ ((lcmpW al be) < (0 : Int32)))).2.1)) (own_gt X0 q d12_66 (own_iik X0 q d12_3 rfl (show ((4 : Int32) + (1 : Int32)) = (5 : Int32) by decide) (l' := #[.val (.ref a1), .val v'0, .val v'9, .val v'4, .val v'5, .val (.long al), .second]) rfl (own_il X0 q d12_6 rfl (own_iln X0 q d12_8 rfl (own_cn X0 q d12_9 ((tlt ((by decide) : (5 : Int32) < (9 : Int32))).2.1) (own_aln X0 q d12_12 rfl rfl (own_il X0 q d12_13 rfl (own_dp X0 q d12_15 rfl (own_isn X0 q d12_16 (l' := #[.val (.ref a1), .val v'0, .val v'9, .val v'5, .val v'5, .val (.long al), .second]) rfl ?_)))))))))))
 obtain ⟨cl767, Ar767, q767, S767, M767, H767, G767⟩ := id VA
 refine own_stp 18 (fun _ k => X0.laload hx (j := (5 : Int32)) (v := (.long be)) (by rw [e0]; exact Ar767.1) (State.isArrayOf_alike hZ.alike Ar767.2.1) Ar767.2.2 (inb_of S767 ⟨by decide, by decide⟩) (Has.at H767 (inb_of S767 ⟨by decide, by decide⟩) rfl) (g := mkF m 17 _ _) rfl rfl (q.d d12_17) _ k) (own_ls X0 q d12_18 (l' := #[.val (.ref a1), .val v'0, .val v'9, .val v'5, .val v'5, .val (.long be), .second]) rfl (own_ll X0 q d12_20 rfl (own_aln X0 q d12_22 rfl rfl (own_iln X0 q d12_23 rfl (own_k X0 q d12_24 (own_isubk 4 X0 q d12_25 (by decide) ?_))))))
 obtain ⟨cl768, Ar768, q768, S768, M768, H768, G768⟩ := id VA
 refine own_stp 27 (fun _ k => X0.laload hx (j := (4 : Int32)) (v := (.long al)) (by rw [e0]; exact Ar768.1) (State.isArrayOf_alike hZ.alike Ar768.2.1) Ar768.2.2 (inb_of S768 ⟨by decide, by decide⟩) (Has.at H768 (inb_of S768 ⟨by decide, by decide⟩) rfl) (g := mkF m 26 _ _) rfl rfl (q.d d12_26) _ k) (own_stq 28 [(.int (lcmpW be al))] (fun _ k => XS.lcmp X0.here hx rfl (q.d d12_27) rfl k) (own_zy X0 q d12_28 (((if0 _ _).trans (flt (hgt : ¬ ((lcmpW be al) < (0 : Int32)))).2.1)) (own_gt X0 q d12_66 (own_iik X0 q d12_3 rfl (show ((5 : Int32) + (1 : Int32)) = (6 : Int32) by decide) (l' := #[.val (.ref a1), .val v'0, .val v'9, .val v'5, .val v'6, .val (.long be), .second]) rfl (own_il X0 q d12_6 rfl (own_iln X0 q d12_8 rfl (own_cn X0 q d12_9 ((tlt ((by decide) : (6 : Int32) < (9 : Int32))).2.1) (own_aln X0 q d12_12 rfl rfl (own_il X0 q d12_13 rfl (own_dp X0 q d12_15 rfl (own_isn X0 q d12_16 (l' := #[.val (.ref a1), .val v'0, .val v'9, .val v'6, .val v'6, .val (.long be), .second]) rfl ?_)))))))))))
 obtain ⟨cl769, Ar769, q769, S769, M769, H769, G769⟩ := id VA
 refine own_stp 18 (fun _ k => X0.laload hx (j := (6 : Int32)) (v := (.long al)) (by rw [e0]; exact Ar769.1) (State.isArrayOf_alike hZ.alike Ar769.2.1) Ar769.2.2 (inb_of S769 ⟨by decide, by decide⟩) (Has.at H769 (inb_of S769 ⟨by decide, by decide⟩) rfl) (g := mkF m 17 _ _) rfl rfl (q.d d12_17) _ k) (own_ls X0 q d12_18 (l' := #[.val (.ref a1), .val v'0, .val v'9, .val v'6, .val v'6, .val (.long al), .second]) rfl (own_ll X0 q d12_20 rfl (own_aln X0 q d12_22 rfl rfl (own_iln X0 q d12_23 rfl (own_k X0 q d12_24 (own_isubk 5 X0 q d12_25 (by decide) ?_))))))
 obtain ⟨cl770, Ar770, q770, S770, M770, H770, G770⟩ := id VA
 refine own_stp 27 (fun _ k => X0.laload hx (j := (5 : Int32)) (v := (.long be)) (by rw [e0]; exact Ar770.1) (State.isArrayOf_alike hZ.alike Ar770.2.1) Ar770.2.2 (inb_of S770 ⟨by decide, by decide⟩) (Has.at H770 (inb_of S770 ⟨by decide, by decide⟩) rfl) (g := mkF m 26 _ _) rfl rfl (q.d d12_26) _ k) (own_stq 28 [(.int (lcmpW al be))] (fun _ k => XS.lcmp X0.here hx rfl (q.d d12_27) rfl k) (own_zy X0 q d12_28 (((if0 _ _).trans (flt (hlt : ¬ ((lcmpW al be) < (0 : Int32)))).2.1)) (own_gt X0 q d12_66 (own_iik X0 q d12_3 rfl (show ((6 : Int32) + (1 : Int32)) = (7 : Int32) by decide) (l' := #[.val (.ref a1), .val v'0, .val v'9, .val v'6, .val v'7, .val (.long al), .second]) rfl (own_il X0 q d12_6 rfl (own_iln X0 q d12_8 rfl (own_cn X0 q d12_9 ((tlt ((by decide) : (7 : Int32) < (9 : Int32))).2.1) (own_aln X0 q d12_12 rfl rfl (own_il X0 q d12_13 rfl (own_dp X0 q d12_15 rfl (own_isn X0 q d12_16 (l' := #[.val (.ref a1), .val v'0, .val v'9, .val v'7, .val v'7, .val (.long al), .second]) rfl ?_)))))))))))
 obtain ⟨cl771, Ar771, q771, S771, M771, H771, G771⟩ := id VA
 refine own_stp 18 (fun _ k => X0.laload hx (j := (7 : Int32)) (v := (.long be)) (by rw [e0]; exact Ar771.1) (State.isArrayOf_alike hZ.alike Ar771.2.1) Ar771.2.2 (inb_of S771 ⟨by decide, by decide⟩) (Has.at H771 (inb_of S771 ⟨by decide, by decide⟩) rfl) (g := mkF m 17 _ _) rfl rfl (q.d d12_17) _ k) (own_ls X0 q d12_18 (l' := #[.val (.ref a1), .val v'0, .val v'9, .val v'7, .val v'7, .val (.long be), .second]) rfl (own_ll X0 q d12_20 rfl (own_aln X0 q d12_22 rfl rfl (own_iln X0 q d12_23 rfl (own_k X0 q d12_24 (own_isubk 6 X0 q d12_25 (by decide) ?_))))))
 obtain ⟨cl772, Ar772, q772, S772, M772, H772, G772⟩ := id VA
 refine own_stp 27 (fun _ k => X0.laload hx (j := (6 : Int32)) (v := (.long al)) (by rw [e0]; exact Ar772.1) (State.isArrayOf_alike hZ.alike Ar772.2.1) Ar772.2.2 (inb_of S772 ⟨by decide, by decide⟩) (Has.at H772 (inb_of S772 ⟨by decide, by decide⟩) rfl) (g := mkF m 26 _ _) rfl rfl (q.d d12_26) _ k) (own_stq 28 [(.int (lcmpW be al))] (fun _ k => XS.lcmp X0.here hx rfl (q.d d12_27) rfl k) (own_zy X0 q d12_28 (((if0 _ _).trans (flt (hgt : ¬ ((lcmpW be al) < (0 : Int32)))).2.1)) (own_gt X0 q d12_66 (own_iik X0 q d12_3 rfl (show ((7 : Int32) + (1 : Int32)) = (8 : Int32) by decide) (l' := #[.val (.ref a1), .val v'0, .val v'9, .val v'7, .val v'8, .val (.long be), .second]) rfl (own_il X0 q d12_6 rfl (own_iln X0 q d12_8 rfl (own_cn X0 q d12_9 ((tlt ((by decide) : (8 : Int32) < (9 : Int32))).2.1) (own_aln X0 q d12_12 rfl rfl (own_il X0 q d12_13 rfl (own_dp X0 q d12_15 rfl (own_isn X0 q d12_16 (l' := #[.val (.ref a1), .val v'0, .val v'9, .val v'8, .val v'8, .val (.long be), .second]) rfl ?_)))))))))))
 obtain ⟨cl773, Ar773, q773, S773, M773, H773, G773⟩ := id VA
 refine own_stp 18 (fun _ k => X0.laload hx (j := (8 : Int32)) (v := (.long al)) (by rw [e0]; exact Ar773.1) (State.isArrayOf_alike hZ.alike Ar773.2.1) Ar773.2.2 (inb_of S773 ⟨by decide, by decide⟩) (Has.at H773 (inb_of S773 ⟨by decide, by decide⟩) rfl) (g := mkF m 17 _ _) rfl rfl (q.d d12_17) _ k) (own_ls X0 q d12_18 (l' := #[.val (.ref a1), .val v'0, .val v'9, .val v'8, .val v'8, .val (.long al), .second]) rfl (own_ll X0 q d12_20 rfl (own_aln X0 q d12_22 rfl rfl (own_iln X0 q d12_23 rfl (own_k X0 q d12_24 (own_isubk 7 X0 q d12_25 (by decide) ?_))))))
 obtain ⟨cl774, Ar774, q774, S774, M774, H774, G774⟩ := id VA
 refine own_stp 27 (fun _ k => X0.laload hx (j := (7 : Int32)) (v := (.long be)) (by rw [e0]; exact Ar774.1) (State.isArrayOf_alike hZ.alike Ar774.2.1) Ar774.2.2 (inb_of S774 ⟨by decide, by decide⟩) (Has.at H774 (inb_of S774 ⟨by decide, by decide⟩) rfl) (g := mkF m 26 _ _) rfl rfl (q.d d12_26) _ k) (own_stq 28 [(.int (lcmpW al be))] (fun _ k => XS.lcmp X0.here hx rfl (q.d d12_27) rfl k) (own_zy X0 q d12_28 (((if0 _ _).trans (flt (hlt : ¬ ((lcmpW al be) < (0 : Int32)))).2.1)) (own_gt X0 q d12_66 (own_iik X0 q d12_3 rfl (show ((8 : Int32) + (1 : Int32)) = (9 : Int32) by decide) (l' := #[.val (.ref a1), .val v'0, .val v'9, .val v'8, .val v'9, .val (.long al), .second]) rfl (own_il X0 q d12_6 rfl (own_iln X0 q d12_8 rfl (own_cy X0 q d12_9 ((flt (Int32.lt_irrefl : ¬ ((9 : Int32) < (9 : Int32)))).2.1) ?_)))))))
 refine own_rV X0 q hrt d12_69 hlk (by decide) ?_
 show QS3 Z a1 k0 al be h0 n0 _ s₁.heap _
 rw [e0]
 exact ⟨rfl, N0, kp0, VA⟩
theorem d11_0 : own_D b'11 0 (.iload 4) 2 2 := by decide +kernel
theorem d11_2 : own_DK b'11 2 1 3 := by decide +kernel
theorem d11_3 : own_D b'11 3 .isub 1 4 := by decide +kernel
theorem d11_4 : own_D b'11 4 (.istore 5) 2 6 := by decide +kernel
theorem d11_6 : own_D b'11 6 (.iload 4) 2 8 := by decide +kernel
theorem d11_8 : own_D b'11 8 (.iload_n 3) 1 9 := by decide +kernel
theorem d11_9 : own_D b'11 9 .isub 1 10 := by decide +kernel
theorem d11_10 : own_D b'11 10 (.istore 6) 2 12 := by decide +kernel
theorem d11_12 : own_D b'11 12 (.iload 6) 2 14 := by decide +kernel
theorem d11_14 : own_DK b'11 14 65 16 := by decide +kernel
theorem d11_16 : own_D b'11 16 (.iload_n 2) 1 17 := by decide +kernel
theorem d11_17 : own_D b'11 17 .iadd 1 18 := by decide +kernel
theorem d11_18 : own_DJ b'11 18 .ge 46 21 := by decide +kernel
theorem d11_21 : own_D b'11 21 (.iload_n 2) 1 22 := by decide +kernel
theorem d11_22 : own_DK b'11 22 1 23 := by decide +kernel
theorem d11_23 : own_D b'11 23 .iand 1 24 := by decide +kernel
theorem d11_24 : own_DZ b'11 24 .le 46 27 := by decide +kernel
theorem d11_27 : own_D b'11 27 (.aload_n 1) 1 28 := by decide +kernel
theorem d11_28 : own_D b'11 28 (.iload_n 3) 1 29 := by decide +kernel
theorem d11_29 : own_D b'11 29 (.iload 4) 2 31 := by decide +kernel
theorem d11_31 : own_DK b'11 31 3 32 := by decide +kernel
theorem d11_32 : own_D b'11 32 (.iload 6) 2 34 := by decide +kernel
theorem d11_34 : own_DK b'11 34 5 35 := by decide +kernel
theorem d11_35 : own_D b'11 35 .ishr 1 36 := by decide +kernel
theorem d11_36 : own_DK b'11 36 3 37 := by decide +kernel
theorem d11_37 : own_D b'11 37 .ishl 1 38 := by decide +kernel
theorem d11_38 : own_D b'11 38 .imul 1 39 := by decide +kernel
theorem d11_39 : own_D b'11 39 .isub 1 40 := by decide +kernel
theorem d11_40 : own_D b'11 40 (.iload 4) 2 42 := by decide +kernel
theorem d11_42 : own_D b'11 42 (.invokestatic 102) 3 45 := by decide +kernel
theorem d11_45 : own_D b'11 45 .return_ 1 46 := by decide +kernel
theorem d11_46 : own_D b'11 46 (.iload 6) 2 48 := by decide +kernel
theorem d11_48 : own_DK b'11 48 44 50 := by decide +kernel
theorem d11_50 : own_DJ b'11 50 .ge 61 53 := by decide +kernel
theorem d11_53 : own_D b'11 53 (.aload_n 1) 1 54 := by decide +kernel
theorem d11_54 : own_D b'11 54 (.iload_n 3) 1 55 := by decide +kernel
theorem d11_55 : own_D b'11 55 (.iload 4) 2 57 := by decide +kernel
theorem d11_57 : own_D b'11 57 (.invokestatic 105) 3 60 := by decide +kernel
theorem d11_60 : own_D b'11 60 .return_ 1 61 := by decide +kernel
theorem pn_11 : plainFor (⟨"java/util/DualPivotQuicksort", "sort", "(Ljava/util/DualPivotQuicksort$Sorter;[JIII)V"⟩ : MethodName) = true := plainFor_of_name (by first | (simp [plainName, overriddenIn]; done) | decide +kernel)
theorem rm11_1 (l : Launch) (Z : State) (a0 : Array Value) (hw : own_hw a0 Z) (a1 : Addr) (k0 : ClassId) (al be : Int64) (h0 : Heap) (n0 : Nat) (Z0 : n0 ≤ h0.size) (VA : Arv Z h0 a1 k0 .long (9 : Int32) [(.long al), (.long be), (.long al), (.long be), (.long al), (.long be), (.long al), (.long be), (.long al)] (.long (0 : Int64))) (g1 : n0 ≤ a1) (hlt : lcmpW al be < (0 : Int32)) (hgt : ¬ lcmpW be al < (0 : Int32)) :
  own_M l Z [] own_y7 b'11 25 none ⟨1, 0, 0, 18⟩ #[.null, (.ref a1), v'0, v'0, v'9] h0 (QS1 Z a1 k0 al be h0 n0) := by
 refine own_start (n0 := n0) hw "java/util/DualPivotQuicksort" (L := #[.val .null, .val (.ref a1), .val v'0, .val v'0, .val v'9, .unset, .unset, .unset, .unset, .unset, .unset, .unset, .unset, .unset, .unset, .unset, .unset, .unset, .unset, .unset, .unset, .unset, .unset, .unset, .unset]) pn_11 (fun {p e s m below meth c s₁} q hx W hml hZ hown hnm hlk hrt X0 e0 N0 => ?_)
 have kp0 := Keep.refl h0 [a1]
 refine own_il X0 q d11_0 rfl (own_k X0 q d11_2 (own_isubk 8 X0 q d11_3 (by decide) (own_is X0 q d11_4 (l' := #[.val .null, .val (.ref a1), .val v'0, .val v'0, .val v'9, .val v'8, .unset, .unset, .unset, .unset, .unset, .unset, .unset, .unset, .unset, .unset, .unset, .unset, .unset, .unset, .unset, .unset, .unset, .unset, .unset]) rfl (own_il X0 q d11_6 rfl (own_iln X0 q d11_8 rfl (own_isubk 9 X0 q d11_9 (by decide) (own_is X0 q d11_10 (l' := #[.val .null, .val (.ref a1), .val v'0, .val v'0, .val v'9, .val v'8, .val v'9, .unset, .unset, .unset, .unset, .unset, .unset, .unset, .unset, .unset, .unset, .unset, .unset, .unset, .unset, .unset, .unset, .unset, .unset]) rfl (own_il X0 q d11_12 rfl (own_k X0 q d11_14 (own_iln X0 q d11_16 rfl (own_iaddk 65 X0 q d11_17 (by decide) ?_)))))))))))
 refine own_cn X0 q d11_18 ((tlt ((by decide) : (9 : Int32) < (65 : Int32))).2.1) (own_iln X0 q d11_21 rfl (own_k X0 q d11_22 (own_stp 24 (fun _ k => XS.iand X0.here hx rfl (q.d d11_23) rfl k) ?_)))
 rw [show ((0 : Int32) &&& (1 : Int32)) = (0 : Int32) from by decide]
 refine own_zy X0 q d11_24 (((if0 _ _).trans (flt (Int32.lt_irrefl : ¬ ((0 : Int32) < (0 : Int32)))).2.2.2)) (own_il X0 q d11_46 rfl (own_k X0 q d11_48 (own_cn X0 q d11_50 ((tlt ((by decide) : (9 : Int32) < (44 : Int32))).2.1) (own_aln X0 q d11_53 rfl rfl (own_iln X0 q d11_54 rfl (own_il X0 q d11_55 rfl ?_))))))
 refine own_cSh X0 q hZ e0 hown hml (W 56 rfl) (W 57 rfl) (W 51 rfl) (W 58 rfl) (rm12_1 l Z a0 hw a1 k0 al be h0 n0 Z0 VA g1 hlt hgt) d11_57 [(.ref a1), v'0, v'9] [] own_pd2 rfl rfl 0 (Nat.le_refl _) (by decide) (fun v777 T777 L777 h777 e777' X777 hQ777 => ?_)
 obtain ⟨rfl, N777q, K777, V777⟩ := hQ777
 have N777 := Fr.app N0 N777q
 have zs778 := Nat.le_trans Z0 K777.1
 have kp778 := kp0.trans K777 (allS (own_i0) all0)
 refine own_nn ?_
 refine own_rV X777 q hrt d11_60 hlk (by decide) ?_
 show QS1 Z a1 k0 al be h0 n0 _ T777.heap _
 rw [e777']
 exact ⟨rfl, N777, kp778, V777⟩
theorem rm11_2 (l : Launch) (Z : State) (a0 : Array Value) (hw : own_hw a0 Z) (a1 : Addr) (k0 : ClassId) (al be : Int64) (h0 : Heap) (n0 : Nat) (Z0 : n0 ≤ h0.size) (VA : Arv Z h0 a1 k0 .long (9 : Int32) [(.long al), (.long be), (.long al), (.long be), (.long al), (.long be), (.long al), (.long be), (.long al)] (.long (0 : Int64))) (g1 : n0 ≤ a1) (hlt : ¬ lcmpW al be < (0 : Int32)) (hgt : lcmpW be al < (0 : Int32)) :
  own_M l Z [] own_y7 b'11 25 none ⟨1, 0, 0, 18⟩ #[.null, (.ref a1), v'0, v'0, v'9] h0 (QS2 Z a1 k0 al be h0 n0) := by
 refine own_start (n0 := n0) hw "java/util/DualPivotQuicksort" (L := #[.val .null, .val (.ref a1), .val v'0, .val v'0, .val v'9, .unset, .unset, .unset, .unset, .unset, .unset, .unset, .unset, .unset, .unset, .unset, .unset, .unset, .unset, .unset, .unset, .unset, .unset, .unset, .unset]) pn_11 (fun {p e s m below meth c s₁} q hx W hml hZ hown hnm hlk hrt X0 e0 N0 => ?_)
 have kp0 := Keep.refl h0 [a1]
 refine own_il X0 q d11_0 rfl (own_k X0 q d11_2 (own_isubk 8 X0 q d11_3 (by decide) (own_is X0 q d11_4 (l' := #[.val .null, .val (.ref a1), .val v'0, .val v'0, .val v'9, .val v'8, .unset, .unset, .unset, .unset, .unset, .unset, .unset, .unset, .unset, .unset, .unset, .unset, .unset, .unset, .unset, .unset, .unset, .unset, .unset]) rfl (own_il X0 q d11_6 rfl (own_iln X0 q d11_8 rfl (own_isubk 9 X0 q d11_9 (by decide) (own_is X0 q d11_10 (l' := #[.val .null, .val (.ref a1), .val v'0, .val v'0, .val v'9, .val v'8, .val v'9, .unset, .unset, .unset, .unset, .unset, .unset, .unset, .unset, .unset, .unset, .unset, .unset, .unset, .unset, .unset, .unset, .unset, .unset]) rfl (own_il X0 q d11_12 rfl (own_k X0 q d11_14 (own_iln X0 q d11_16 rfl (own_iaddk 65 X0 q d11_17 (by decide) ?_)))))))))))
 refine own_cn X0 q d11_18 ((tlt ((by decide) : (9 : Int32) < (65 : Int32))).2.1) (own_iln X0 q d11_21 rfl (own_k X0 q d11_22 (own_stp 24 (fun _ k => XS.iand X0.here hx rfl (q.d d11_23) rfl k) ?_)))
 rw [show ((0 : Int32) &&& (1 : Int32)) = (0 : Int32) from by decide]
 refine own_zy X0 q d11_24 (((if0 _ _).trans (flt (Int32.lt_irrefl : ¬ ((0 : Int32) < (0 : Int32)))).2.2.2)) (own_il X0 q d11_46 rfl (own_k X0 q d11_48 (own_cn X0 q d11_50 ((tlt ((by decide) : (9 : Int32) < (44 : Int32))).2.1) (own_aln X0 q d11_53 rfl rfl (own_iln X0 q d11_54 rfl (own_il X0 q d11_55 rfl ?_))))))
 refine own_cSh X0 q hZ e0 hown hml (W 56 rfl) (W 57 rfl) (W 51 rfl) (W 58 rfl) (rm12_2 l Z a0 hw a1 k0 al be h0 n0 Z0 VA g1 hlt hgt) d11_57 [(.ref a1), v'0, v'9] [] own_pd2 rfl rfl 0 (Nat.le_refl _) (by decide) (fun v781 T781 L781 h781 e781' X781 hQ781 => ?_)
 obtain ⟨rfl, N781q, K781, V781⟩ := hQ781
 have N781 := Fr.app N0 N781q
 have zs782 := Nat.le_trans Z0 K781.1
 have kp782 := kp0.trans K781 (allS (own_i0) all0)
 refine own_nn ?_
 refine own_rV X781 q hrt d11_60 hlk (by decide) ?_
 show QS2 Z a1 k0 al be h0 n0 _ T781.heap _
 rw [e781']
 exact ⟨rfl, N781, kp782, V781⟩
theorem rm11_3 (l : Launch) (Z : State) (a0 : Array Value) (hw : own_hw a0 Z) (a1 : Addr) (k0 : ClassId) (al be : Int64) (h0 : Heap) (n0 : Nat) (Z0 : n0 ≤ h0.size) (VA : Arv Z h0 a1 k0 .long (9 : Int32) [(.long al), (.long be), (.long al), (.long be), (.long al), (.long be), (.long al), (.long be), (.long al)] (.long (0 : Int64))) (g1 : n0 ≤ a1) (hlt : ¬ lcmpW al be < (0 : Int32)) (hgt : ¬ lcmpW be al < (0 : Int32)) :
  own_M l Z [] own_y7 b'11 25 none ⟨1, 0, 0, 18⟩ #[.null, (.ref a1), v'0, v'0, v'9] h0 (QS3 Z a1 k0 al be h0 n0) := by
 refine own_start (n0 := n0) hw "java/util/DualPivotQuicksort" (L := #[.val .null, .val (.ref a1), .val v'0, .val v'0, .val v'9, .unset, .unset, .unset, .unset, .unset, .unset, .unset, .unset, .unset, .unset, .unset, .unset, .unset, .unset, .unset, .unset, .unset, .unset, .unset, .unset]) pn_11 (fun {p e s m below meth c s₁} q hx W hml hZ hown hnm hlk hrt X0 e0 N0 => ?_)
 have kp0 := Keep.refl h0 [a1]
 refine own_il X0 q d11_0 rfl (own_k X0 q d11_2 (own_isubk 8 X0 q d11_3 (by decide) (own_is X0 q d11_4 (l' := #[.val .null, .val (.ref a1), .val v'0, .val v'0, .val v'9, .val v'8, .unset, .unset, .unset, .unset, .unset, .unset, .unset, .unset, .unset, .unset, .unset, .unset, .unset, .unset, .unset, .unset, .unset, .unset, .unset]) rfl (own_il X0 q d11_6 rfl (own_iln X0 q d11_8 rfl (own_isubk 9 X0 q d11_9 (by decide) (own_is X0 q d11_10 (l' := #[.val .null, .val (.ref a1), .val v'0, .val v'0, .val v'9, .val v'8, .val v'9, .unset, .unset, .unset, .unset, .unset, .unset, .unset, .unset, .unset, .unset, .unset, .unset, .unset, .unset, .unset, .unset, .unset, .unset]) rfl (own_il X0 q d11_12 rfl (own_k X0 q d11_14 (own_iln X0 q d11_16 rfl (own_iaddk 65 X0 q d11_17 (by decide) ?_)))))))))))
 refine own_cn X0 q d11_18 ((tlt ((by decide) : (9 : Int32) < (65 : Int32))).2.1) (own_iln X0 q d11_21 rfl (own_k X0 q d11_22 (own_stp 24 (fun _ k => XS.iand X0.here hx rfl (q.d d11_23) rfl k) ?_)))
 rw [show ((0 : Int32) &&& (1 : Int32)) = (0 : Int32) from by decide]
 refine own_zy X0 q d11_24 (((if0 _ _).trans (flt (Int32.lt_irrefl : ¬ ((0 : Int32) < (0 : Int32)))).2.2.2)) (own_il X0 q d11_46 rfl (own_k X0 q d11_48 (own_cn X0 q d11_50 ((tlt ((by decide) : (9 : Int32) < (44 : Int32))).2.1) (own_aln X0 q d11_53 rfl rfl (own_iln X0 q d11_54 rfl (own_il X0 q d11_55 rfl ?_))))))
 refine own_cSh X0 q hZ e0 hown hml (W 56 rfl) (W 57 rfl) (W 51 rfl) (W 58 rfl) (rm12_3 l Z a0 hw a1 k0 al be h0 n0 Z0 VA g1 hlt hgt) d11_57 [(.ref a1), v'0, v'9] [] own_pd2 rfl rfl 0 (Nat.le_refl _) (by decide) (fun v785 T785 L785 h785 e785' X785 hQ785 => ?_)
 obtain ⟨rfl, N785q, K785, V785⟩ := hQ785
 have N785 := Fr.app N0 N785q
 have zs786 := Nat.le_trans Z0 K785.1
 have kp786 := kp0.trans K785 (allS (own_i0) all0)
 refine own_nn ?_
 refine own_rV X785 q hrt d11_60 hlk (by decide) ?_
 show QS3 Z a1 k0 al be h0 n0 _ T785.heap _
 rw [e785']
 exact ⟨rfl, N785, kp786, V785⟩
theorem d10_0 : own_D b'10 0 (.iload_n 3) 1 1 := by decide +kernel
theorem d10_1 : own_D b'10 1 (.iload_n 2) 1 2 := by decide +kernel
theorem d10_2 : own_D b'10 2 .isub 1 3 := by decide +kernel
theorem d10_3 : own_D b'10 3 (.istore 4) 2 5 := by decide +kernel
theorem d10_5 : own_D b'10 5 (.iload_n 1) 1 6 := by decide +kernel
theorem d10_6 : own_DK b'10 6 1 7 := by decide +kernel
theorem d10_7 : own_DJ b'10 7 .le 68 10 := by decide +kernel
theorem d10_10 : own_D b'10 10 (.iload 4) 2 12 := by decide +kernel
theorem d10_12 : own_DK b'10 12 4096 15 := by decide +kernel
theorem d10_15 : own_DJ b'10 15 .le 68 18 := by decide +kernel
theorem d10_18 : own_D b'10 18 (.iload_n 1) 1 19 := by decide +kernel
theorem d10_19 : own_D b'10 19 (.iload 4) 2 21 := by decide +kernel
theorem d10_21 : own_DK b'10 21 12 23 := by decide +kernel
theorem d10_23 : own_D b'10 23 .ishr 1 24 := by decide +kernel
theorem d10_24 : own_D b'10 24 (.invokestatic 13) 3 27 := by decide +kernel
theorem d10_27 : own_D b'10 27 (.istore 5) 2 29 := by decide +kernel
theorem d10_29 : own_D b'10 29 (.iload 5) 2 31 := by decide +kernel
theorem d10_31 : own_DZ b'10 31 .ne 38 34 := by decide +kernel
theorem d10_34 : own_D b'10 34 .aconst_null 1 35 := by decide +kernel
theorem d10_35 : own_DG b'10 35 42 := by decide +kernel
theorem d10_38 : own_D b'10 38 (.iload 4) 2 40 := by decide +kernel
theorem d10_40 : own_D b'10 40 (.newarray .long) 2 42 := by decide +kernel
theorem d10_42 : own_D b'10 42 (.astore 6) 2 44 := by decide +kernel
theorem d10_44 : own_D b'10 44 (.new 17) 3 47 := by decide +kernel
theorem d10_47 : own_D b'10 47 .dup 1 48 := by decide +kernel
theorem d10_48 : own_D b'10 48 .aconst_null 1 49 := by decide +kernel
theorem d10_49 : own_D b'10 49 (.aload_n 0) 1 50 := by decide +kernel
theorem d10_50 : own_D b'10 50 (.aload 6) 2 52 := by decide +kernel
theorem d10_52 : own_D b'10 52 (.iload_n 2) 1 53 := by decide +kernel
theorem d10_53 : own_D b'10 53 (.iload 4) 2 55 := by decide +kernel
theorem d10_55 : own_D b'10 55 (.iload_n 2) 1 56 := by decide +kernel
theorem d10_56 : own_D b'10 56 (.iload 5) 2 58 := by decide +kernel
theorem d10_58 : own_D b'10 58 (.invokespecial 19) 3 61 := by decide +kernel
theorem d10_61 : own_D b'10 61 (.invokevirtual 22) 3 64 := by decide +kernel
theorem d10_64 : own_D b'10 64 .pop 1 65 := by decide +kernel
theorem d10_65 : own_DG b'10 65 76 := by decide +kernel
theorem d10_68 : own_D b'10 68 .aconst_null 1 69 := by decide +kernel
theorem d10_69 : own_D b'10 69 (.aload_n 0) 1 70 := by decide +kernel
theorem d10_70 : own_DK b'10 70 0 71 := by decide +kernel
theorem d10_71 : own_D b'10 71 (.iload_n 2) 1 72 := by decide +kernel
theorem d10_72 : own_D b'10 72 (.iload_n 3) 1 73 := by decide +kernel
theorem d10_73 : own_D b'10 73 (.invokestatic 99) 3 76 := by decide +kernel
theorem d10_76 : own_D b'10 76 .return_ 1 77 := by decide +kernel
theorem pn_10 : plainFor (⟨"java/util/DualPivotQuicksort", "sort", "([JIII)V"⟩ : MethodName) = true := plainFor_of_name (by first | (simp [plainName, overriddenIn]; done) | decide +kernel)
theorem rm10_1 (l : Launch) (Z : State) (a0 : Array Value) (hw : own_hw a0 Z) (a1 : Addr) (k0 : ClassId) (al be : Int64) (h0 : Heap) (n0 : Nat) (Z0 : n0 ≤ h0.size) (VA : Arv Z h0 a1 k0 .long (9 : Int32) [(.long al), (.long be), (.long al), (.long be), (.long al), (.long be), (.long al), (.long be), (.long al)] (.long (0 : Int64))) (g1 : n0 ≤ a1) (hlt : lcmpW al be < (0 : Int32)) (hgt : ¬ lcmpW be al < (0 : Int32)) :
  own_M l Z [] own_y8 b'10 7 none ⟨2, 0, 0, 54⟩ #[(.ref a1), v'0, v'0, v'9] h0 (QS1 Z a1 k0 al be h0 n0) := by
 refine own_start (n0 := n0) hw "java/util/DualPivotQuicksort" (L := #[.val (.ref a1), .val v'0, .val v'0, .val v'9, .unset, .unset, .unset]) pn_10 (fun {p e s m below meth c s₁} q hx W hml hZ hown hnm hlk hrt X0 e0 N0 => ?_)
 have kp0 := Keep.refl h0 [a1]
 refine own_iln X0 q d10_0 rfl (own_iln X0 q d10_1 rfl (own_isubk 9 X0 q d10_2 (by decide) (own_is X0 q d10_3 (l' := #[.val (.ref a1), .val v'0, .val v'0, .val v'9, .val v'9, .unset, .unset]) rfl (own_iln X0 q d10_5 rfl (own_k X0 q d10_6 (own_cy X0 q d10_7 ((flt ((by decide) : ¬ ((1 : Int32) < (0 : Int32)))).2.2.2) (own_nl X0 q d10_68 (own_aln X0 q d10_69 rfl rfl (own_k X0 q d10_70 (own_iln X0 q d10_71 rfl (own_iln X0 q d10_72 rfl ?_)))))))))))
 refine own_cSh X0 q hZ e0 hown hml (W 53 rfl) (W 54 rfl) (W 51 rfl) (W 55 rfl) (rm11_1 l Z a0 hw a1 k0 al be h0 n0 Z0 VA g1 hlt hgt) d10_73 [.null, (.ref a1), v'0, v'0, v'9] [] own_pd3 rfl rfl 0 (Nat.le_refl _) (by decide) (fun v789 T789 L789 h789 e789' X789 hQ789 => ?_)
 obtain ⟨rfl, N789q, K789, V789⟩ := hQ789
 have N789 := Fr.app N0 N789q
 have zs790 := Nat.le_trans Z0 K789.1
 have kp790 := kp0.trans K789 (allS (own_i0) all0)
 refine own_nn ?_
 refine own_rV X789 q hrt d10_76 hlk (by decide) ?_
 show QS1 Z a1 k0 al be h0 n0 _ T789.heap _
 rw [e789']
 exact ⟨rfl, N789, kp790, V789⟩
theorem rm10_2 (l : Launch) (Z : State) (a0 : Array Value) (hw : own_hw a0 Z) (a1 : Addr) (k0 : ClassId) (al be : Int64) (h0 : Heap) (n0 : Nat) (Z0 : n0 ≤ h0.size) (VA : Arv Z h0 a1 k0 .long (9 : Int32) [(.long al), (.long be), (.long al), (.long be), (.long al), (.long be), (.long al), (.long be), (.long al)] (.long (0 : Int64))) (g1 : n0 ≤ a1) (hlt : ¬ lcmpW al be < (0 : Int32)) (hgt : lcmpW be al < (0 : Int32)) :
  own_M l Z [] own_y8 b'10 7 none ⟨2, 0, 0, 54⟩ #[(.ref a1), v'0, v'0, v'9] h0 (QS2 Z a1 k0 al be h0 n0) := by
 refine own_start (n0 := n0) hw "java/util/DualPivotQuicksort" (L := #[.val (.ref a1), .val v'0, .val v'0, .val v'9, .unset, .unset, .unset]) pn_10 (fun {p e s m below meth c s₁} q hx W hml hZ hown hnm hlk hrt X0 e0 N0 => ?_)
 have kp0 := Keep.refl h0 [a1]
 refine own_iln X0 q d10_0 rfl (own_iln X0 q d10_1 rfl (own_isubk 9 X0 q d10_2 (by decide) (own_is X0 q d10_3 (l' := #[.val (.ref a1), .val v'0, .val v'0, .val v'9, .val v'9, .unset, .unset]) rfl (own_iln X0 q d10_5 rfl (own_k X0 q d10_6 (own_cy X0 q d10_7 ((flt ((by decide) : ¬ ((1 : Int32) < (0 : Int32)))).2.2.2) (own_nl X0 q d10_68 (own_aln X0 q d10_69 rfl rfl (own_k X0 q d10_70 (own_iln X0 q d10_71 rfl (own_iln X0 q d10_72 rfl ?_)))))))))))
 refine own_cSh X0 q hZ e0 hown hml (W 53 rfl) (W 54 rfl) (W 51 rfl) (W 55 rfl) (rm11_2 l Z a0 hw a1 k0 al be h0 n0 Z0 VA g1 hlt hgt) d10_73 [.null, (.ref a1), v'0, v'0, v'9] [] own_pd3 rfl rfl 0 (Nat.le_refl _) (by decide) (fun v793 T793 L793 h793 e793' X793 hQ793 => ?_)
 obtain ⟨rfl, N793q, K793, V793⟩ := hQ793
 have N793 := Fr.app N0 N793q
 have zs794 := Nat.le_trans Z0 K793.1
 have kp794 := kp0.trans K793 (allS (own_i0) all0)
 refine own_nn ?_
 refine own_rV X793 q hrt d10_76 hlk (by decide) ?_
 show QS2 Z a1 k0 al be h0 n0 _ T793.heap _
 rw [e793']
 exact ⟨rfl, N793, kp794, V793⟩
theorem rm10_3 (l : Launch) (Z : State) (a0 : Array Value) (hw : own_hw a0 Z) (a1 : Addr) (k0 : ClassId) (al be : Int64) (h0 : Heap) (n0 : Nat) (Z0 : n0 ≤ h0.size) (VA : Arv Z h0 a1 k0 .long (9 : Int32) [(.long al), (.long be), (.long al), (.long be), (.long al), (.long be), (.long al), (.long be), (.long al)] (.long (0 : Int64))) (g1 : n0 ≤ a1) (hlt : ¬ lcmpW al be < (0 : Int32)) (hgt : ¬ lcmpW be al < (0 : Int32)) :
  own_M l Z [] own_y8 b'10 7 none ⟨2, 0, 0, 54⟩ #[(.ref a1), v'0, v'0, v'9] h0 (QS3 Z a1 k0 al be h0 n0) := by
 refine own_start (n0 := n0) hw "java/util/DualPivotQuicksort" (L := #[.val (.ref a1), .val v'0, .val v'0, .val v'9, .unset, .unset, .unset]) pn_10 (fun {p e s m below meth c s₁} q hx W hml hZ hown hnm hlk hrt X0 e0 N0 => ?_)
 have kp0 := Keep.refl h0 [a1]
 refine own_iln X0 q d10_0 rfl (own_iln X0 q d10_1 rfl (own_isubk 9 X0 q d10_2 (by decide) (own_is X0 q d10_3 (l' := #[.val (.ref a1), .val v'0, .val v'0, .val v'9, .val v'9, .unset, .unset]) rfl (own_iln X0 q d10_5 rfl (own_k X0 q d10_6 (own_cy X0 q d10_7 ((flt ((by decide) : ¬ ((1 : Int32) < (0 : Int32)))).2.2.2) (own_nl X0 q d10_68 (own_aln X0 q d10_69 rfl rfl (own_k X0 q d10_70 (own_iln X0 q d10_71 rfl (own_iln X0 q d10_72 rfl ?_)))))))))))
 refine own_cSh X0 q hZ e0 hown hml (W 53 rfl) (W 54 rfl) (W 51 rfl) (W 55 rfl) (rm11_3 l Z a0 hw a1 k0 al be h0 n0 Z0 VA g1 hlt hgt) d10_73 [.null, (.ref a1), v'0, v'0, v'9] [] own_pd3 rfl rfl 0 (Nat.le_refl _) (by decide) (fun v797 T797 L797 h797 e797' X797 hQ797 => ?_)
 obtain ⟨rfl, N797q, K797, V797⟩ := hQ797
 have N797 := Fr.app N0 N797q
 have zs798 := Nat.le_trans Z0 K797.1
 have kp798 := kp0.trans K797 (allS (own_i0) all0)
 refine own_nn ?_
 refine own_rV X797 q hrt d10_76 hlk (by decide) ?_
 show QS3 Z a1 k0 al be h0 n0 _ T797.heap _
 rw [e797']
 exact ⟨rfl, N797, kp798, V797⟩
theorem d9_0 : own_D b'9 0 (.aload_n 0) 1 1 := by decide +kernel
theorem d9_1 : own_DK b'9 1 0 2 := by decide +kernel
theorem d9_2 : own_DK b'9 2 0 3 := by decide +kernel
theorem d9_3 : own_D b'9 3 (.aload_n 0) 1 4 := by decide +kernel
theorem d9_4 : own_D b'9 4 .arraylength 1 5 := by decide +kernel
theorem d9_5 : own_D b'9 5 (.invokestatic 19) 3 8 := by decide +kernel
theorem d9_8 : own_D b'9 8 .return_ 1 9 := by decide +kernel
theorem pn_9 : plainFor (⟨"java/util/Arrays", "sort", "([J)V"⟩ : MethodName) = true := plainFor_of_name (by first | (simp [plainName, overriddenIn]; done) | decide +kernel)
theorem rm9_1 (l : Launch) (Z : State) (a0 : Array Value) (hw : own_hw a0 Z) (a1 : Addr) (k0 : ClassId) (al be : Int64) (h0 : Heap) (n0 : Nat) (Z0 : n0 ≤ h0.size) (VA : Arv Z h0 a1 k0 .long (9 : Int32) [(.long al), (.long be), (.long al), (.long be), (.long al), (.long be), (.long al), (.long be), (.long al)] (.long (0 : Int64))) (g1 : n0 ≤ a1) (hlt : lcmpW al be < (0 : Int32)) (hgt : ¬ lcmpW be al < (0 : Int32)) :
  own_M l Z [] own_y9 b'9 1 none ⟨3, 0, 0, 72⟩ #[(.ref a1)] h0 (QS1 Z a1 k0 al be h0 n0) := by
 refine own_start (n0 := n0) hw "java/util/Arrays" (L := #[.val (.ref a1)]) pn_9 (fun {p e s m below meth c s₁} q hx W hml hZ hown hnm hlk hrt X0 e0 N0 => ?_)
 have kp0 := Keep.refl h0 [a1]
 refine own_aln X0 q d9_0 rfl rfl (own_k X0 q d9_1 (own_k X0 q d9_2 (own_aln X0 q d9_3 rfl rfl (own_alen (n := (9 : Int32)) X0 q hZ e0 VA d9_4 ?_))))
 refine own_cSh X0 q hZ e0 hown hml (W 49 rfl) (W 50 rfl) (W 51 rfl) (W 52 rfl) (rm10_1 l Z a0 hw a1 k0 al be h0 n0 Z0 VA g1 hlt hgt) d9_5 [(.ref a1), v'0, v'0, v'9] [] own_pd4 rfl rfl 0 (Nat.le_refl _) (by decide) (fun v801 T801 L801 h801 e801' X801 hQ801 => ?_)
 obtain ⟨rfl, N801q, K801, V801⟩ := hQ801
 have N801 := Fr.app N0 N801q
 have zs802 := Nat.le_trans Z0 K801.1
 have kp802 := kp0.trans K801 (allS (own_i0) all0)
 refine own_nn ?_
 refine own_rV X801 q hrt d9_8 hlk (by decide) ?_
 show QS1 Z a1 k0 al be h0 n0 _ T801.heap _
 rw [e801']
 exact ⟨rfl, N801, kp802, V801⟩
theorem rm9_2 (l : Launch) (Z : State) (a0 : Array Value) (hw : own_hw a0 Z) (a1 : Addr) (k0 : ClassId) (al be : Int64) (h0 : Heap) (n0 : Nat) (Z0 : n0 ≤ h0.size) (VA : Arv Z h0 a1 k0 .long (9 : Int32) [(.long al), (.long be), (.long al), (.long be), (.long al), (.long be), (.long al), (.long be), (.long al)] (.long (0 : Int64))) (g1 : n0 ≤ a1) (hlt : ¬ lcmpW al be < (0 : Int32)) (hgt : lcmpW be al < (0 : Int32)) :
  own_M l Z [] own_y9 b'9 1 none ⟨3, 0, 0, 72⟩ #[(.ref a1)] h0 (QS2 Z a1 k0 al be h0 n0) := by
 refine own_start (n0 := n0) hw "java/util/Arrays" (L := #[.val (.ref a1)]) pn_9 (fun {p e s m below meth c s₁} q hx W hml hZ hown hnm hlk hrt X0 e0 N0 => ?_)
 have kp0 := Keep.refl h0 [a1]
 refine own_aln X0 q d9_0 rfl rfl (own_k X0 q d9_1 (own_k X0 q d9_2 (own_aln X0 q d9_3 rfl rfl (own_alen (n := (9 : Int32)) X0 q hZ e0 VA d9_4 ?_))))
 refine own_cSh X0 q hZ e0 hown hml (W 49 rfl) (W 50 rfl) (W 51 rfl) (W 52 rfl) (rm10_2 l Z a0 hw a1 k0 al be h0 n0 Z0 VA g1 hlt hgt) d9_5 [(.ref a1), v'0, v'0, v'9] [] own_pd4 rfl rfl 0 (Nat.le_refl _) (by decide) (fun v805 T805 L805 h805 e805' X805 hQ805 => ?_)
 obtain ⟨rfl, N805q, K805, V805⟩ := hQ805
 have N805 := Fr.app N0 N805q
 have zs806 := Nat.le_trans Z0 K805.1
 have kp806 := kp0.trans K805 (allS (own_i0) all0)
 refine own_nn ?_
 refine own_rV X805 q hrt d9_8 hlk (by decide) ?_
 show QS2 Z a1 k0 al be h0 n0 _ T805.heap _
 rw [e805']
 exact ⟨rfl, N805, kp806, V805⟩
theorem rm9_3 (l : Launch) (Z : State) (a0 : Array Value) (hw : own_hw a0 Z) (a1 : Addr) (k0 : ClassId) (al be : Int64) (h0 : Heap) (n0 : Nat) (Z0 : n0 ≤ h0.size) (VA : Arv Z h0 a1 k0 .long (9 : Int32) [(.long al), (.long be), (.long al), (.long be), (.long al), (.long be), (.long al), (.long be), (.long al)] (.long (0 : Int64))) (g1 : n0 ≤ a1) (hlt : ¬ lcmpW al be < (0 : Int32)) (hgt : ¬ lcmpW be al < (0 : Int32)) :
  own_M l Z [] own_y9 b'9 1 none ⟨3, 0, 0, 72⟩ #[(.ref a1)] h0 (QS3 Z a1 k0 al be h0 n0) := by
 refine own_start (n0 := n0) hw "java/util/Arrays" (L := #[.val (.ref a1)]) pn_9 (fun {p e s m below meth c s₁} q hx W hml hZ hown hnm hlk hrt X0 e0 N0 => ?_)
 have kp0 := Keep.refl h0 [a1]
 refine own_aln X0 q d9_0 rfl rfl (own_k X0 q d9_1 (own_k X0 q d9_2 (own_aln X0 q d9_3 rfl rfl (own_alen (n := (9 : Int32)) X0 q hZ e0 VA d9_4 ?_))))
 refine own_cSh X0 q hZ e0 hown hml (W 49 rfl) (W 50 rfl) (W 51 rfl) (W 52 rfl) (rm10_3 l Z a0 hw a1 k0 al be h0 n0 Z0 VA g1 hlt hgt) d9_5 [(.ref a1), v'0, v'0, v'9] [] own_pd4 rfl rfl 0 (Nat.le_refl _) (by decide) (fun v809 T809 L809 h809 e809' X809 hQ809 => ?_)
 obtain ⟨rfl, N809q, K809, V809⟩ := hQ809
 have N809 := Fr.app N0 N809q
 have zs810 := Nat.le_trans Z0 K809.1
 have kp810 := kp0.trans K809 (allS (own_i0) all0)
 refine own_nn ?_
 refine own_rV X809 q hrt d9_8 hlk (by decide) ?_
 show QS3 Z a1 k0 al be h0 n0 _ T809.heap _
 rw [e809']
 exact ⟨rfl, N809, kp810, V809⟩
theorem d13_0 : own_D b'13 0 (.aload_n 0) 1 1 := by decide +kernel
theorem d13_1 : own_D b'13 1 (.invokespecial 3) 3 4 := by decide +kernel
theorem d13_4 : own_D b'13 4 (.aload_n 0) 1 5 := by decide +kernel
theorem d13_5 : own_DK b'13 5 2 6 := by decide +kernel
theorem d13_6 : own_D b'13 6 (.newarray .long) 2 8 := by decide +kernel
theorem d13_8 : own_D b'13 8 (.putfield 9) 3 11 := by decide +kernel
theorem d13_11 : own_D b'13 11 (.aload_n 0) 1 12 := by decide +kernel
theorem d13_12 : own_D b'13 12 (.aload_n 1) 1 13 := by decide +kernel
theorem d13_13 : own_D b'13 13 (.putfield 15) 3 16 := by decide +kernel
theorem d13_16 : own_DK b'13 16 0 17 := by decide +kernel
theorem d13_17 : own_D b'13 17 (.istore_n 2) 1 18 := by decide +kernel
theorem d13_18 : own_D b'13 18 (.iload_n 2) 1 19 := by decide +kernel
theorem d13_19 : own_D b'13 19 (.aload_n 1) 1 20 := by decide +kernel
theorem d13_20 : own_D b'13 20 .arraylength 1 21 := by decide +kernel
theorem d13_21 : own_DJ b'13 21 .ge 78 24 := by decide +kernel
theorem d13_24 : own_D b'13 24 (.aload_n 1) 1 25 := by decide +kernel
theorem d13_25 : own_D b'13 25 (.iload_n 2) 1 26 := by decide +kernel
theorem d13_26 : own_D b'13 26 .iaload 1 27 := by decide +kernel
theorem d13_27 : own_DK b'13 27 128 30 := by decide +kernel
theorem d13_30 : own_DJ b'13 30 .ge 78 33 := by decide +kernel
theorem d13_33 : own_D b'13 33 (.aload_n 1) 1 34 := by decide +kernel
theorem d13_34 : own_D b'13 34 (.iload_n 2) 1 35 := by decide +kernel
theorem d13_35 : own_D b'13 35 .iaload 1 36 := by decide +kernel
theorem d13_36 : own_D b'13 36 (.istore_n 3) 1 37 := by decide +kernel
theorem d13_37 : own_D b'13 37 (.iload_n 3) 1 38 := by decide +kernel
theorem d13_38 : own_D b'13 38 (.aload_n 1) 1 39 := by decide +kernel
theorem d13_39 : own_D b'13 39 (.iload_n 2) 1 40 := by decide +kernel
theorem d13_40 : own_DK b'13 40 1 41 := by decide +kernel
theorem d13_41 : own_D b'13 41 .iadd 1 42 := by decide +kernel
theorem d13_42 : own_D b'13 42 .iaload 1 43 := by decide +kernel
theorem d13_43 : own_DK b'13 43 127 45 := by decide +kernel
theorem d13_45 : own_D b'13 45 (.invokestatic 19) 3 48 := by decide +kernel
theorem d13_48 : own_DJ b'13 48 .gt 72 51 := by decide +kernel
theorem d13_51 : own_D b'13 51 (.aload_n 0) 1 52 := by decide +kernel
theorem d13_52 : own_D b'13 52 (.getfield 9) 3 55 := by decide +kernel
theorem d13_55 : own_D b'13 55 (.iload_n 3) 1 56 := by decide +kernel
theorem d13_56 : own_DK b'13 56 6 58 := by decide +kernel
theorem d13_58 : own_D b'13 58 .iushr 1 59 := by decide +kernel
theorem d13_59 : own_D b'13 59 .dup2 1 60 := by decide +kernel
theorem d13_60 : own_D b'13 60 .laload 1 61 := by decide +kernel
theorem d13_61 : own_D b'13 61 (.lconst 1) 1 62 := by decide +kernel
theorem d13_62 : own_D b'13 62 (.iload_n 3) 1 63 := by decide +kernel
theorem d13_63 : own_D b'13 63 .lshl 1 64 := by decide +kernel
theorem d13_64 : own_D b'13 64 .lor 1 65 := by decide +kernel
theorem d13_65 : own_D b'13 65 .lastore 1 66 := by decide +kernel
theorem d13_66 : own_DI b'13 66 3 1 69 := by decide +kernel
theorem d13_69 : own_DG b'13 69 37 := by decide +kernel
theorem d13_72 : own_DI b'13 72 2 2 75 := by decide +kernel
theorem d13_75 : own_DG b'13 75 18 := by decide +kernel
theorem d13_78 : own_D b'13 78 .return_ 1 79 := by decide +kernel
theorem pn_13 : plainFor (⟨"com/example/austere_json/austerejson/CodePointSet", "<init>", "([I)V"⟩ : MethodName) = true := plainFor_of_name (by first | (simp [plainName, overriddenIn]; done) | decide +kernel)
theorem own_lp20 {p : Program} {l : Launch} {e : Env} {R : Room} {s : State} {m : MethodId} {args : Array Value} {below : List Frame} {meth : Method} {c : Code} {Z : State} {a0 : Array Value} {P : Outcome → State → Prop} 
  (hx : p.tables.exec = Jvm.exec) (hZ : Z.Warmed39 s.vm) (hw : ∀ d ∈ tables_1, d.before a0 Z = true) (hby : c.code = b'13) (hml : c.maxLocals = 4) (hown : s.vm.findClass "com/example/austere_json/austerejson/CodePointSet" = some m.cls) (a1 a2 b : Addr) (k1 k2 : ClassId) (x0 x1 mx : Int32) (hmx : own_min x1 (127 : Int32) = mx) (n0 : Nat) (gb : n0 ≤ b) (nab : a1 ≠ b) (n2b : a2 ≠ b) :
  ∀ (kk : Nat) (j : Int32) (T : State) (locs : List Loc) (h0 : Heap) (u0 u1 : Int64), (mx.toInt + 1 - j.toInt = kk) → 0 ≤ j.toInt → Stand p l e ({ frames := 1, cells := 1, slots := 2, locals := 16 } : Room) s m args below meth c T locs 1 2 → T.heap = h0 → Fr n0 locs → n0 ≤ h0.size → F'2 Z h0 a1 (.ref b) → Arv Z h0 a2 k1 .int (2 : Int32) [(.int x0), (.int x1)] v'0 → Arv Z h0 b k2 .long (2 : Int32) [(.long u0), (.long u1)] (.long (0 : Int64)) → (∀ (T' : State) (locs' : List Loc) (h' : Heap) (w0 w1 : Int64) (j' : Int32), Stand p l e ({ frames := 1, cells := 1, slots := 2, locals := 16 } : Room) s m args below meth c T' locs' 1 2 → T'.heap = h' → Fr n0 locs' → Keep h0 h' [b] → Arv Z h' b k2 .long (2 : Int32) [(.long w0), (.long w1)] (.long (0 : Int64)) → own_fil w0 w1 u0 u1 j mx → own_Fin p e below P (T'.setTop (mkF m 72 #[.val (.ref a1), .val (.ref a2), .val v'0, .val (.int j')] []))) → own_Fin p e below P (T.setTop (mkF m 37 #[.val (.ref a1), .val (.ref a2), .val v'0, .val (.int j)] [])) := by
 have q : own_q p c b'13 := ⟨hx, hby⟩
 have W := @own_w _ _ hw
 have hm := own_mx hmx
 intro kk
 induction kk with
 | zero =>
  intro j T locs h0 u0 u1 hk hj0 X0 e0 N0 Z0 F0 VA VB K
  have kp0 := Keep.refl h0 [b]
  have hgt : mx < j := by rw [Int32.lt_iff_toInt_lt]; omega
  refine own_iln X0 q d13_37 rfl (own_aln X0 q d13_38 rfl rfl (own_iln X0 q d13_39 rfl (own_k X0 q d13_40 (own_iaddk 1 X0 q d13_41 (by decide) (own_ild (v := (.int x1)) X0 q hZ e0 VA d13_42 (by decide) rfl (own_k X0 q d13_43 ?_))))))
  refine own_cS X0 q hZ e0 hown hml (W 71 rfl) (W 6 rfl) (W 7 rfl) (W 8 rfl) (rm2 l Z a0 hw x1 (127 : Int32) mx h0 n0 Z0 hmx) d13_45 [(.int x1), (.int (127 : Int32))] [(.int j)] own_pd0 rfl rfl 1 (Nat.le_refl _) (by decide) (fun v811 T811 L811 X811 hQ811 => ?_)
  obtain ⟨rfl, N811q, e811⟩ := hQ811
  have N811 := Fr.app N0 N811q
  refine own_nv (own_cy X811 q d13_48 ((tlt (hgt : mx < j)).2.2.1) ?_)
  exact K _ _ _ _ _ _ X811 e811 N811 kp0 VB (own_fil_nil hgt)
 | succ kk ih =>
  intro j T locs h0 u0 u1 hk hj0 X0 e0 N0 Z0 F0 VA VB K
  have kp0 := Keep.refl h0 [b]
  have hgt : ¬ mx < j := by rw [Int32.lt_iff_toInt_lt]; omega
  have hj1 := own_j1 hj0 hgt hm.1
  refine own_iln X0 q d13_37 rfl (own_aln X0 q d13_38 rfl rfl (own_iln X0 q d13_39 rfl (own_k X0 q d13_40 (own_iaddk 1 X0 q d13_41 (by decide) (own_ild (v := (.int x1)) X0 q hZ e0 VA d13_42 (by decide) rfl (own_k X0 q d13_43 ?_))))))
  refine own_cS X0 q hZ e0 hown hml (W 71 rfl) (W 6 rfl) (W 7 rfl) (W 8 rfl) (rm2 l Z a0 hw x1 (127 : Int32) mx h0 n0 Z0 hmx) d13_45 [(.int x1), (.int (127 : Int32))] [(.int j)] own_pd0 rfl rfl 1 (Nat.le_refl _) (by decide) (fun v812 T812 L812 X812 hQ812 => ?_)
  obtain ⟨rfl, N812q, e812⟩ := hQ812
  have N812 := Fr.app N0 N812q
  refine own_nv (own_cn X812 q d13_48 ((flt (hgt : ¬ (mx < j))).2.2.1) (own_aln X812 q d13_51 rfl rfl ?_))
  refine own_gF X812 q hZ e812 hown (W 67 rfl) F0 d13_52 fun T813 X813 e813 => ?_
  refine own_iln X813 q d13_55 rfl (own_k X813 q d13_56 (own_stp 59 (fun _ k => XS.iushr X813.here hx rfl (q.d d13_58) rfl k) ?_))
  by_cases hj : j.toInt < 64
  ·rw [own_ix0 hj0 hj]
   show own_Fin _ _ _ _ (T813.setTop (mkF m 59 #[.val (.ref a1), .val (.ref a2), .val v'0, .val (.int j)] [v'0, (.ref b)]))
   refine own_stp 60 (fun _ k => Jvm.Free.XT.dup2 X813.here hx rfl (q.d d13_59) rfl rfl rfl k) ?_
   obtain ⟨cl814, Ar814, q814, S814, M814, H814, G814⟩ := id VB
   refine own_stp 61 (fun _ k => X813.laload hx (j := (0 : Int32)) (v := (.long u0)) (by rw [e813]; exact Ar814.1) (State.isArrayOf_alike hZ.alike Ar814.2.1) Ar814.2.2 (inb_of S814 ⟨by decide, by decide⟩) (Has.at H814 (inb_of S814 ⟨by decide, by decide⟩) rfl) (g := mkF m 60 _ _) rfl rfl (q.d d13_60) _ k) (own_lk X813 q d13_61 (z := (1 : Int64)) rfl (own_iln X813 q d13_62 rfl (own_stp 64 (fun _ k => XS.lshl X813.here hx rfl (q.d d13_63) rfl k) (own_stp 65 (fun _ k => XS.lor X813.here hx rfl (q.d d13_64) rfl k) ?_))))
   refine own_let ?_; intro g815_
   obtain ⟨cl816, Ar816, q816, S816, M816, H816, G816⟩ := id VB
   obtain ⟨T817, h817, X817, e817, W817, st817⟩ := stJ X813 hx hZ e813 Ar816 (j := (0 : Int32)) (inb_of S816 ⟨by decide, by decide⟩) (g := g815_) rfl rfl (q.d d13_65)
   have zs818 := Nat.le_trans Z0 (Keep.of_wr W817).1
   have kp818 := kp0.wr W817 (own_i0)
   have V817 : Arv Z h817 b k2 .long (2 : Int32) [(.long (u0 ||| ((1 : Int64) <<< (j &&& 0x3f).toInt64))), (.long u1)] (.long (0 : Int64)) := Arv.set Ar816 q816 S816 M816 H816 G816 rfl W817 0 rfl (Nat.le_of_ble_eq_true rfl)
   have N817 := Fr.snoc X817 N812 gb
   refine own_stp 66 st817 (own_ii X817 q d13_66 rfl (l' := #[.val (.ref a1), .val (.ref a2), .val v'0, .val (.int (j + (1 : Int32)))]) rfl (own_gt X817 q d13_69 ?_))
   refine ih _ _ _ _ _ _ (by rw [hj1.1]; omega) (by rw [hj1.1]; omega) X817 e817 N817 zs818 (F0.other W817 (Or.inl nab)) (VA.other W817 n2b) V817 (fun T' locs' h' w0 w1 j' X' e' N' K' V' hb => K T' locs' h' w0 w1 j' X' e' N' (kp818.trans K' (allS (Or.inl (List.mem_of_getElem? (i := 0) rfl)) all0)) V' (own_fil0 hj0 hgt hm.1 hj hb))
  ·rw [own_ix1 hj (by omega)]
   show own_Fin _ _ _ _ (T813.setTop (mkF m 59 #[.val (.ref a1), .val (.ref a2), .val v'0, .val (.int j)] [v'1, (.ref b)]))
   refine own_stp 60 (fun _ k => Jvm.Free.XT.dup2 X813.here hx rfl (q.d d13_59) rfl rfl rfl k) ?_
   obtain ⟨cl819, Ar819, q819, S819, M819, H819, G819⟩ := id VB
   refine own_stp 61 (fun _ k => X813.laload hx (j := (1 : Int32)) (v := (.long u1)) (by rw [e813]; exact Ar819.1) (State.isArrayOf_alike hZ.alike Ar819.2.1) Ar819.2.2 (inb_of S819 ⟨by decide, by decide⟩) (Has.at H819 (inb_of S819 ⟨by decide, by decide⟩) rfl) (g := mkF m 60 _ _) rfl rfl (q.d d13_60) _ k) (own_lk X813 q d13_61 (z := (1 : Int64)) rfl (own_iln X813 q d13_62 rfl (own_stp 64 (fun _ k => XS.lshl X813.here hx rfl (q.d d13_63) rfl k) (own_stp 65 (fun _ k => XS.lor X813.here hx rfl (q.d d13_64) rfl k) ?_))))
   refine own_let ?_; intro g820_
   obtain ⟨cl821, Ar821, q821, S821, M821, H821, G821⟩ := id VB
   obtain ⟨T822, h822, X822, e822, W822, st822⟩ := stJ X813 hx hZ e813 Ar821 (j := (1 : Int32)) (inb_of S821 ⟨by decide, by decide⟩) (g := g820_) rfl rfl (q.d d13_65)
   have zs823 := Nat.le_trans Z0 (Keep.of_wr W822).1
   have kp823 := kp0.wr W822 (own_i0)
   have V822 : Arv Z h822 b k2 .long (2 : Int32) [(.long u0), (.long (u1 ||| ((1 : Int64) <<< (j &&& 0x3f).toInt64)))] (.long (0 : Int64)) := Arv.set Ar821 q821 S821 M821 H821 G821 rfl W822 1 rfl (Nat.le_of_ble_eq_true rfl)
   have N822 := Fr.snoc X822 N812 gb
   refine own_stp 66 st822 (own_ii X822 q d13_66 rfl (l' := #[.val (.ref a1), .val (.ref a2), .val v'0, .val (.int (j + (1 : Int32)))]) rfl (own_gt X822 q d13_69 ?_))
   refine ih _ _ _ _ _ _ (by rw [hj1.1]; omega) (by rw [hj1.1]; omega) X822 e822 N822 zs823 (F0.other W822 (Or.inl nab)) (VA.other W822 n2b) V822 (fun T' locs' h' w0 w1 j' X' e' N' K' V' hb => K T' locs' h' w0 w1 j' X' e' N' (kp823.trans K' (allS (Or.inl (List.mem_of_getElem? (i := 0) rfl)) all0)) V' (own_fil1 hj0 hgt hm.1 hj hb))
theorem own_lp40 {p : Program} {l : Launch} {e : Env} {R : Room} {s : State} {m : MethodId} {args : Array Value} {below : List Frame} {meth : Method} {c : Code} {Z : State} {a0 : Array Value} {P : Outcome → State → Prop} 
  (hx : p.tables.exec = Jvm.exec) (hZ : Z.Warmed39 s.vm) (hw : ∀ d ∈ tables_1, d.before a0 Z = true) (hby : c.code = b'13) (hml : c.maxLocals = 4) (hown : s.vm.findClass "com/example/austere_json/austerejson/CodePointSet" = some m.cls) (a1 a2 b : Addr) (k1 k2 : ClassId) (x0 x1 x2 x3 mx : Int32) (hmx : own_min x1 (127 : Int32) = mx) (n0 : Nat) (gb : n0 ≤ b) (nab : a1 ≠ b) (n2b : a2 ≠ b) :
  ∀ (kk : Nat) (j : Int32) (T : State) (locs : List Loc) (h0 : Heap) (u0 u1 : Int64), (mx.toInt + 1 - j.toInt = kk) → 0 ≤ j.toInt → Stand p l e ({ frames := 1, cells := 1, slots := 2, locals := 16 } : Room) s m args below meth c T locs 1 2 → T.heap = h0 → Fr n0 locs → n0 ≤ h0.size → F'2 Z h0 a1 (.ref b) → Arv Z h0 a2 k1 .int (4 : Int32) [(.int x0), (.int x1), (.int x2), (.int x3)] v'0 → Arv Z h0 b k2 .long (2 : Int32) [(.long u0), (.long u1)] (.long (0 : Int64)) → (∀ (T' : State) (locs' : List Loc) (h' : Heap) (w0 w1 : Int64) (j' : Int32), Stand p l e ({ frames := 1, cells := 1, slots := 2, locals := 16 } : Room) s m args below meth c T' locs' 1 2 → T'.heap = h' → Fr n0 locs' → Keep h0 h' [b] → Arv Z h' b k2 .long (2 : Int32) [(.long w0), (.long w1)] (.long (0 : Int64)) → own_fil w0 w1 u0 u1 j mx → own_Fin p e below P (T'.setTop (mkF m 72 #[.val (.ref a1), .val (.ref a2), .val v'0, .val (.int j')] []))) → own_Fin p e below P (T.setTop (mkF m 37 #[.val (.ref a1), .val (.ref a2), .val v'0, .val (.int j)] [])) := by
 have q : own_q p c b'13 := ⟨hx, hby⟩
 have W := @own_w _ _ hw
 have hm := own_mx hmx
 intro kk
 induction kk with
 | zero =>
  intro j T locs h0 u0 u1 hk hj0 X0 e0 N0 Z0 F0 VA VB K
  have kp0 := Keep.refl h0 [b]
  have hgt : mx < j := by rw [Int32.lt_iff_toInt_lt]; omega
  refine own_iln X0 q d13_37 rfl (own_aln X0 q d13_38 rfl rfl (own_iln X0 q d13_39 rfl (own_k X0 q d13_40 (own_iaddk 1 X0 q d13_41 (by decide) (own_ild (v := (.int x1)) X0 q hZ e0 VA d13_42 (by decide) rfl (own_k X0 q d13_43 ?_))))))
  refine own_cS X0 q hZ e0 hown hml (W 71 rfl) (W 6 rfl) (W 7 rfl) (W 8 rfl) (rm2 l Z a0 hw x1 (127 : Int32) mx h0 n0 Z0 hmx) d13_45 [(.int x1), (.int (127 : Int32))] [(.int j)] own_pd0 rfl rfl 1 (Nat.le_refl _) (by decide) (fun v824 T824 L824 X824 hQ824 => ?_)
  obtain ⟨rfl, N824q, e824⟩ := hQ824
  have N824 := Fr.app N0 N824q
  refine own_nv (own_cy X824 q d13_48 ((tlt (hgt : mx < j)).2.2.1) ?_)
  exact K _ _ _ _ _ _ X824 e824 N824 kp0 VB (own_fil_nil hgt)
 | succ kk ih =>
  intro j T locs h0 u0 u1 hk hj0 X0 e0 N0 Z0 F0 VA VB K
  have kp0 := Keep.refl h0 [b]
  have hgt : ¬ mx < j := by rw [Int32.lt_iff_toInt_lt]; omega
  have hj1 := own_j1 hj0 hgt hm.1
  refine own_iln X0 q d13_37 rfl (own_aln X0 q d13_38 rfl rfl (own_iln X0 q d13_39 rfl (own_k X0 q d13_40 (own_iaddk 1 X0 q d13_41 (by decide) (own_ild (v := (.int x1)) X0 q hZ e0 VA d13_42 (by decide) rfl (own_k X0 q d13_43 ?_))))))
  refine own_cS X0 q hZ e0 hown hml (W 71 rfl) (W 6 rfl) (W 7 rfl) (W 8 rfl) (rm2 l Z a0 hw x1 (127 : Int32) mx h0 n0 Z0 hmx) d13_45 [(.int x1), (.int (127 : Int32))] [(.int j)] own_pd0 rfl rfl 1 (Nat.le_refl _) (by decide) (fun v825 T825 L825 X825 hQ825 => ?_)
  obtain ⟨rfl, N825q, e825⟩ := hQ825
  have N825 := Fr.app N0 N825q
  refine own_nv (own_cn X825 q d13_48 ((flt (hgt : ¬ (mx < j))).2.2.1) (own_aln X825 q d13_51 rfl rfl ?_))
  refine own_gF X825 q hZ e825 hown (W 67 rfl) F0 d13_52 fun T826 X826 e826 => ?_
  refine own_iln X826 q d13_55 rfl (own_k X826 q d13_56 (own_stp 59 (fun _ k => XS.iushr X826.here hx rfl (q.d d13_58) rfl k) ?_))
  by_cases hj : j.toInt < 64
  ·rw [own_ix0 hj0 hj]
   show own_Fin _ _ _ _ (T826.setTop (mkF m 59 #[.val (.ref a1), .val (.ref a2), .val v'0, .val (.int j)] [v'0, (.ref b)]))
   refine own_stp 60 (fun _ k => Jvm.Free.XT.dup2 X826.here hx rfl (q.d d13_59) rfl rfl rfl k) ?_
   obtain ⟨cl827, Ar827, q827, S827, M827, H827, G827⟩ := id VB
   refine own_stp 61 (fun _ k => X826.laload hx (j := (0 : Int32)) (v := (.long u0)) (by rw [e826]; exact Ar827.1) (State.isArrayOf_alike hZ.alike Ar827.2.1) Ar827.2.2 (inb_of S827 ⟨by decide, by decide⟩) (Has.at H827 (inb_of S827 ⟨by decide, by decide⟩) rfl) (g := mkF m 60 _ _) rfl rfl (q.d d13_60) _ k) (own_lk X826 q d13_61 (z := (1 : Int64)) rfl (own_iln X826 q d13_62 rfl (own_stp 64 (fun _ k => XS.lshl X826.here hx rfl (q.d d13_63) rfl k) (own_stp 65 (fun _ k => XS.lor X826.here hx rfl (q.d d13_64) rfl k) ?_))))
   refine own_let ?_; intro g828_
   obtain ⟨cl829, Ar829, q829, S829, M829, H829, G829⟩ := id VB
   obtain ⟨T830, h830, X830, e830, W830, st830⟩ := stJ X826 hx hZ e826 Ar829 (j := (0 : Int32)) (inb_of S829 ⟨by decide, by decide⟩) (g := g828_) rfl rfl (q.d d13_65)
   have zs831 := Nat.le_trans Z0 (Keep.of_wr W830).1
   have kp831 := kp0.wr W830 (own_i0)
   have V830 : Arv Z h830 b k2 .long (2 : Int32) [(.long (u0 ||| ((1 : Int64) <<< (j &&& 0x3f).toInt64))), (.long u1)] (.long (0 : Int64)) := Arv.set Ar829 q829 S829 M829 H829 G829 rfl W830 0 rfl (Nat.le_of_ble_eq_true rfl)
   have N830 := Fr.snoc X830 N825 gb
   refine own_stp 66 st830 (own_ii X830 q d13_66 rfl (l' := #[.val (.ref a1), .val (.ref a2), .val v'0, .val (.int (j + (1 : Int32)))]) rfl (own_gt X830 q d13_69 ?_))
   refine ih _ _ _ _ _ _ (by rw [hj1.1]; omega) (by rw [hj1.1]; omega) X830 e830 N830 zs831 (F0.other W830 (Or.inl nab)) (VA.other W830 n2b) V830 (fun T' locs' h' w0 w1 j' X' e' N' K' V' hb => K T' locs' h' w0 w1 j' X' e' N' (kp831.trans K' (allS (Or.inl (List.mem_of_getElem? (i := 0) rfl)) all0)) V' (own_fil0 hj0 hgt hm.1 hj hb))
  ·rw [own_ix1 hj (by omega)]
   show own_Fin _ _ _ _ (T826.setTop (mkF m 59 #[.val (.ref a1), .val (.ref a2), .val v'0, .val (.int j)] [v'1, (.ref b)]))
   refine own_stp 60 (fun _ k => Jvm.Free.XT.dup2 X826.here hx rfl (q.d d13_59) rfl rfl rfl k) ?_
   obtain ⟨cl832, Ar832, q832, S832, M832, H832, G832⟩ := id VB
   refine own_stp 61 (fun _ k => X826.laload hx (j := (1 : Int32)) (v := (.long u1)) (by rw [e826]; exact Ar832.1) (State.isArrayOf_alike hZ.alike Ar832.2.1) Ar832.2.2 (inb_of S832 ⟨by decide, by decide⟩) (Has.at H832 (inb_of S832 ⟨by decide, by decide⟩) rfl) (g := mkF m 60 _ _) rfl rfl (q.d d13_60) _ k) (own_lk X826 q d13_61 (z := (1 : Int64)) rfl (own_iln X826 q d13_62 rfl (own_stp 64 (fun _ k => XS.lshl X826.here hx rfl (q.d d13_63) rfl k) (own_stp 65 (fun _ k => XS.lor X826.here hx rfl (q.d d13_64) rfl k) ?_))))
   refine own_let ?_; intro g833_
   obtain ⟨cl834, Ar834, q834, S834, M834, H834, G834⟩ := id VB
   obtain ⟨T835, h835, X835, e835, W835, st835⟩ := stJ X826 hx hZ e826 Ar834 (j := (1 : Int32)) (inb_of S834 ⟨by decide, by decide⟩) (g := g833_) rfl rfl (q.d d13_65)
   have zs836 := Nat.le_trans Z0 (Keep.of_wr W835).1
   have kp836 := kp0.wr W835 (own_i0)
   have V835 : Arv Z h835 b k2 .long (2 : Int32) [(.long u0), (.long (u1 ||| ((1 : Int64) <<< (j &&& 0x3f).toInt64)))] (.long (0 : Int64)) := Arv.set Ar834 q834 S834 M834 H834 G834 rfl W835 1 rfl (Nat.le_of_ble_eq_true rfl)
   have N835 := Fr.snoc X835 N825 gb
   refine own_stp 66 st835 (own_ii X835 q d13_66 rfl (l' := #[.val (.ref a1), .val (.ref a2), .val v'0, .val (.int (j + (1 : Int32)))]) rfl (own_gt X835 q d13_69 ?_))
   refine ih _ _ _ _ _ _ (by rw [hj1.1]; omega) (by rw [hj1.1]; omega) X835 e835 N835 zs836 (F0.other W835 (Or.inl nab)) (VA.other W835 n2b) V835 (fun T' locs' h' w0 w1 j' X' e' N' K' V' hb => K T' locs' h' w0 w1 j' X' e' N' (kp836.trans K' (allS (Or.inl (List.mem_of_getElem? (i := 0) rfl)) all0)) V' (own_fil1 hj0 hgt hm.1 hj hb))
theorem own_lp42 {p : Program} {l : Launch} {e : Env} {R : Room} {s : State} {m : MethodId} {args : Array Value} {below : List Frame} {meth : Method} {c : Code} {Z : State} {a0 : Array Value} {P : Outcome → State → Prop} 
  (hx : p.tables.exec = Jvm.exec) (hZ : Z.Warmed39 s.vm) (hw : ∀ d ∈ tables_1, d.before a0 Z = true) (hby : c.code = b'13) (hml : c.maxLocals = 4) (hown : s.vm.findClass "com/example/austere_json/austerejson/CodePointSet" = some m.cls) (a1 a2 b : Addr) (k1 k2 : ClassId) (x0 x1 x2 x3 mx : Int32) (hmx : own_min x3 (127 : Int32) = mx) (n0 : Nat) (gb : n0 ≤ b) (nab : a1 ≠ b) (n2b : a2 ≠ b) :
  ∀ (kk : Nat) (j : Int32) (T : State) (locs : List Loc) (h0 : Heap) (u0 u1 : Int64), (mx.toInt + 1 - j.toInt = kk) → 0 ≤ j.toInt → Stand p l e ({ frames := 1, cells := 1, slots := 2, locals := 16 } : Room) s m args below meth c T locs 1 2 → T.heap = h0 → Fr n0 locs → n0 ≤ h0.size → F'2 Z h0 a1 (.ref b) → Arv Z h0 a2 k1 .int (4 : Int32) [(.int x0), (.int x1), (.int x2), (.int x3)] v'0 → Arv Z h0 b k2 .long (2 : Int32) [(.long u0), (.long u1)] (.long (0 : Int64)) → (∀ (T' : State) (locs' : List Loc) (h' : Heap) (w0 w1 : Int64) (j' : Int32), Stand p l e ({ frames := 1, cells := 1, slots := 2, locals := 16 } : Room) s m args below meth c T' locs' 1 2 → T'.heap = h' → Fr n0 locs' → Keep h0 h' [b] → Arv Z h' b k2 .long (2 : Int32) [(.long w0), (.long w1)] (.long (0 : Int64)) → own_fil w0 w1 u0 u1 j mx → own_Fin p e below P (T'.setTop (mkF m 72 #[.val (.ref a1), .val (.ref a2), .val v'2, .val (.int j')] []))) → own_Fin p e below P (T.setTop (mkF m 37 #[.val (.ref a1), .val (.ref a2), .val v'2, .val (.int j)] [])) := by
 have q : own_q p c b'13 := ⟨hx, hby⟩
 have W := @own_w _ _ hw
 have hm := own_mx hmx
 intro kk
 induction kk with
 | zero =>
  intro j T locs h0 u0 u1 hk hj0 X0 e0 N0 Z0 F0 VA VB K
  have kp0 := Keep.refl h0 [b]
  have hgt : mx < j := by rw [Int32.lt_iff_toInt_lt]; omega
  refine own_iln X0 q d13_37 rfl (own_aln X0 q d13_38 rfl rfl (own_iln X0 q d13_39 rfl (own_k X0 q d13_40 (own_iaddk 3 X0 q d13_41 (by decide) (own_ild (v := (.int x3)) X0 q hZ e0 VA d13_42 (by decide) rfl (own_k X0 q d13_43 ?_))))))
  refine own_cS X0 q hZ e0 hown hml (W 71 rfl) (W 6 rfl) (W 7 rfl) (W 8 rfl) (rm2 l Z a0 hw x3 (127 : Int32) mx h0 n0 Z0 hmx) d13_45 [(.int x3), (.int (127 : Int32))] [(.int j)] own_pd0 rfl rfl 1 (Nat.le_refl _) (by decide) (fun v837 T837 L837 X837 hQ837 => ?_)
  obtain ⟨rfl, N837q, e837⟩ := hQ837
  have N837 := Fr.app N0 N837q
  refine own_nv (own_cy X837 q d13_48 ((tlt (hgt : mx < j)).2.2.1) ?_)
  exact K _ _ _ _ _ _ X837 e837 N837 kp0 VB (own_fil_nil hgt)
 | succ kk ih =>
  intro j T locs h0 u0 u1 hk hj0 X0 e0 N0 Z0 F0 VA VB K
  have kp0 := Keep.refl h0 [b]
  have hgt : ¬ mx < j := by rw [Int32.lt_iff_toInt_lt]; omega
  have hj1 := own_j1 hj0 hgt hm.1
  refine own_iln X0 q d13_37 rfl (own_aln X0 q d13_38 rfl rfl (own_iln X0 q d13_39 rfl (own_k X0 q d13_40 (own_iaddk 3 X0 q d13_41 (by decide) (own_ild (v := (.int x3)) X0 q hZ e0 VA d13_42 (by decide) rfl (own_k X0 q d13_43 ?_))))))
  refine own_cS X0 q hZ e0 hown hml (W 71 rfl) (W 6 rfl) (W 7 rfl) (W 8 rfl) (rm2 l Z a0 hw x3 (127 : Int32) mx h0 n0 Z0 hmx) d13_45 [(.int x3), (.int (127 : Int32))] [(.int j)] own_pd0 rfl rfl 1 (Nat.le_refl _) (by decide) (fun v838 T838 L838 X838 hQ838 => ?_)
  obtain ⟨rfl, N838q, e838⟩ := hQ838
  have N838 := Fr.app N0 N838q
  refine own_nv (own_cn X838 q d13_48 ((flt (hgt : ¬ (mx < j))).2.2.1) (own_aln X838 q d13_51 rfl rfl ?_))
  refine own_gF X838 q hZ e838 hown (W 67 rfl) F0 d13_52 fun T839 X839 e839 => ?_
  refine own_iln X839 q d13_55 rfl (own_k X839 q d13_56 (own_stp 59 (fun _ k => XS.iushr X839.here hx rfl (q.d d13_58) rfl k) ?_))
  by_cases hj : j.toInt < 64
  ·rw [own_ix0 hj0 hj]
   show own_Fin _ _ _ _ (T839.setTop (mkF m 59 #[.val (.ref a1), .val (.ref a2), .val v'2, .val (.int j)] [v'0, (.ref b)]))
   refine own_stp 60 (fun _ k => Jvm.Free.XT.dup2 X839.here hx rfl (q.d d13_59) rfl rfl rfl k) ?_
   obtain ⟨cl840, Ar840, q840, S840, M840, H840, G840⟩ := id VB
   refine own_stp 61 (fun _ k => X839.laload hx (j := (0 : Int32)) (v := (.long u0)) (by rw [e839]; exact Ar840.1) (State.isArrayOf_alike hZ.alike Ar840.2.1) Ar840.2.2 (inb_of S840 ⟨by decide, by decide⟩) (Has.at H840 (inb_of S840 ⟨by decide, by decide⟩) rfl) (g := mkF m 60 _ _) rfl rfl (q.d d13_60) _ k) (own_lk X839 q d13_61 (z := (1 : Int64)) rfl (own_iln X839 q d13_62 rfl (own_stp 64 (fun _ k => XS.lshl X839.here hx rfl (q.d d13_63) rfl k) (own_stp 65 (fun _ k => XS.lor X839.here hx rfl (q.d d13_64) rfl k) ?_))))
   refine own_let ?_; intro g841_
   obtain ⟨cl842, Ar842, q842, S842, M842, H842, G842⟩ := id VB
   obtain ⟨T843, h843, X843, e843, W843, st843⟩ := stJ X839 hx hZ e839 Ar842 (j := (0 : Int32)) (inb_of S842 ⟨by decide, by decide⟩) (g := g841_) rfl rfl (q.d d13_65)
   have zs844 := Nat.le_trans Z0 (Keep.of_wr W843).1
   have kp844 := kp0.wr W843 (own_i0)
   have V843 : Arv Z h843 b k2 .long (2 : Int32) [(.long (u0 ||| ((1 : Int64) <<< (j &&& 0x3f).toInt64))), (.long u1)] (.long (0 : Int64)) := Arv.set Ar842 q842 S842 M842 H842 G842 rfl W843 0 rfl (Nat.le_of_ble_eq_true rfl)
   have N843 := Fr.snoc X843 N838 gb
   refine own_stp 66 st843 (own_ii X843 q d13_66 rfl (l' := #[.val (.ref a1), .val (.ref a2), .val v'2, .val (.int (j + (1 : Int32)))]) rfl (own_gt X843 q d13_69 ?_))
   refine ih _ _ _ _ _ _ (by rw [hj1.1]; omega) (by rw [hj1.1]; omega) X843 e843 N843 zs844 (F0.other W843 (Or.inl nab)) (VA.other W843 n2b) V843 (fun T' locs' h' w0 w1 j' X' e' N' K' V' hb => K T' locs' h' w0 w1 j' X' e' N' (kp844.trans K' (allS (Or.inl (List.mem_of_getElem? (i := 0) rfl)) all0)) V' (own_fil0 hj0 hgt hm.1 hj hb))
  ·rw [own_ix1 hj (by omega)]
   show own_Fin _ _ _ _ (T839.setTop (mkF m 59 #[.val (.ref a1), .val (.ref a2), .val v'2, .val (.int j)] [v'1, (.ref b)]))
   refine own_stp 60 (fun _ k => Jvm.Free.XT.dup2 X839.here hx rfl (q.d d13_59) rfl rfl rfl k) ?_
   obtain ⟨cl845, Ar845, q845, S845, M845, H845, G845⟩ := id VB
   refine own_stp 61 (fun _ k => X839.laload hx (j := (1 : Int32)) (v := (.long u1)) (by rw [e839]; exact Ar845.1) (State.isArrayOf_alike hZ.alike Ar845.2.1) Ar845.2.2 (inb_of S845 ⟨by decide, by decide⟩) (Has.at H845 (inb_of S845 ⟨by decide, by decide⟩) rfl) (g := mkF m 60 _ _) rfl rfl (q.d d13_60) _ k) (own_lk X839 q d13_61 (z := (1 : Int64)) rfl (own_iln X839 q d13_62 rfl (own_stp 64 (fun _ k => XS.lshl X839.here hx rfl (q.d d13_63) rfl k) (own_stp 65 (fun _ k => XS.lor X839.here hx rfl (q.d d13_64) rfl k) ?_))))
   refine own_let ?_; intro g846_
   obtain ⟨cl847, Ar847, q847, S847, M847, H847, G847⟩ := id VB
   obtain ⟨T848, h848, X848, e848, W848, st848⟩ := stJ X839 hx hZ e839 Ar847 (j := (1 : Int32)) (inb_of S847 ⟨by decide, by decide⟩) (g := g846_) rfl rfl (q.d d13_65)
   have zs849 := Nat.le_trans Z0 (Keep.of_wr W848).1
   have kp849 := kp0.wr W848 (own_i0)
   have V848 : Arv Z h848 b k2 .long (2 : Int32) [(.long u0), (.long (u1 ||| ((1 : Int64) <<< (j &&& 0x3f).toInt64)))] (.long (0 : Int64)) := Arv.set Ar847 q847 S847 M847 H847 G847 rfl W848 1 rfl (Nat.le_of_ble_eq_true rfl)
   have N848 := Fr.snoc X848 N838 gb
   refine own_stp 66 st848 (own_ii X848 q d13_66 rfl (l' := #[.val (.ref a1), .val (.ref a2), .val v'2, .val (.int (j + (1 : Int32)))]) rfl (own_gt X848 q d13_69 ?_))
   refine ih _ _ _ _ _ _ (by rw [hj1.1]; omega) (by rw [hj1.1]; omega) X848 e848 N848 zs849 (F0.other W848 (Or.inl nab)) (VA.other W848 n2b) V848 (fun T' locs' h' w0 w1 j' X' e' N' K' V' hb => K T' locs' h' w0 w1 j' X' e' N' (kp849.trans K' (allS (Or.inl (List.mem_of_getElem? (i := 0) rfl)) all0)) V' (own_fil1 hj0 hgt hm.1 hj hb))
theorem rm13_2 (l : Launch) (Z : State) (a0 : Array Value) (hw : own_hw a0 Z) (a1 : Addr) (a2 : Addr) (k1 : ClassId) (x0 x1 : Int32) (h0 : Heap) (n0 : Nat) (Z0 : n0 ≤ h0.size) (E1 : Exa Z h0 a1 "com/example/austere_json/austerejson/CodePointSet") (FR : F'3 Z h0 a1 .null) (FA : F'2 Z h0 a1 .null) (VA : Arv Z h0 a2 k1 .int (2 : Int32) [(.int x0), (.int x1)] v'0) (g1 : n0 ≤ a1) (n12 : a1 ≠ a2) (hok0 : own_ok x0 x1) :
  own_M l Z [] own_y10 b'13 4 none ⟨1, 1, 2, 16⟩ #[(.ref a1), (.ref a2)] h0 (QX2 Z a1 a2 x0 x1 h0 n0) := by
 refine own_start (n0 := n0) hw "com/example/austere_json/austerejson/CodePointSet" (L := #[.val (.ref a1), .val (.ref a2), .unset, .unset]) pn_13 (fun {p e s m below meth c s₁} q hx W hml hZ hown hnm hlk hrt X0 e0 N0 => ?_)
 have hby := q.2
 have kp0 := Keep.refl h0 [a1]
 refine own_aln X0 q d13_0 rfl rfl ?_
 refine own_let ?_; intro g864_
 obtain ⟨T865, X865, e865, st865⟩ := initO X0 hx hZ hown (W 66 rfl) (W 19 rfl) (W 20 rfl) e0 (g := g864_) rfl (by rw [hml]; rfl) rfl (q.d d13_1) (by decide) (W := 0) (by show 2 * 0 + _ ≤ _; exact Nat.le_of_eq rfl) (by decide)
 refine own_stp 4 st865 (own_aln X865 q d13_4 rfl rfl (own_k X865 q d13_5 ?_))
 refine own_let ?_; intro g866_
 obtain ⟨T867, h867, k867, X867, e867, E867, A867, st867⟩ := newP X865 hx hZ (W 45 rfl) e865 (g := g866_) rfl (q.d d13_6) rfl (by decide) (cap := 2) (by decide) (by decide) (by decide) (by decide)
 obtain ⟨b867, g867⟩ : ∃ z, z = h0.size := ⟨_, rfl⟩
 rw [← g867] at A867 st867
 have V867 : Arv Z h867 b867 k867 .long (2 : Int32) [(.long (0 : Int64)), (.long (0 : Int64))] (.long (0 : Int64)) := (Arv.new A867 (by decide)).pad (pad_rep [] (.long (0 : Int64)) 2)
 have zs868 := Nat.le_trans Z0 E867.1
 have kp868 := kp0.ext E867
 have g_b867 : n0 ≤ b867 := Nat.le_trans Z0 (Nat.le_of_eq g867.symm)
 have sz_b867 : h0.size ≤ b867 := Nat.le_trans kp0.1 (Nat.le_of_eq g867.symm)
 refine own_stp 8 st867 ?_
 refine own_let ?_; intro g869_
 obtain ⟨T870, h870, X870, e870, W870, st870⟩ := putF X867 hx hZ hown (host := "") (Or.inl (W 67 rfl)) Via.refl e867 (FA.ext E867) (E1.ext E867) (Or.inr ⟨(W 68 rfl), rfl, hnm⟩) (W 61 rfl) (ty := (.array .long)) (by decide) rfl rfl (g := g869_) rfl rfl (q.d d13_8)
 have zs871 := Nat.le_trans zs868 (Keep.of_wr W870).1
 have kp871 := kp868.wr W870 (own_i0)
 have Fw870 := ((FA.ext E867)).same W870
 have N870 := Fr.snoc X870 N0 g1
 refine own_stp 11 st870 (own_aln X870 q d13_11 rfl rfl (own_aln X870 q d13_12 rfl rfl ?_))
 refine own_let ?_; intro g872_
 obtain ⟨T873, h873, X873, e873, W873, st873⟩ := putF X870 hx hZ hown (host := "") (Or.inl (W 69 rfl)) Via.refl e870 ((FR.ext E867).other W870 (Or.inr (slot_ne (Or.inr (W 70 rfl)) (Or.inr (W 68 rfl)) (by decide) (t := (.array .int)) (t' := (.array .long)) (by decide) (by decide)))) ((E1.ext E867).wr W870) (Or.inr ⟨(W 70 rfl), rfl, hnm⟩) (W 61 rfl) (ty := (.array .int)) (by decide) rfl rfl (g := g872_) rfl rfl (q.d d13_13)
 have zs874 := Nat.le_trans zs871 (Keep.of_wr W873).1
 have kp874 := kp871.wr W873 (own_i0)
 have Fw873 := (((FR.ext E867).other W870 (Or.inr (slot_ne (Or.inr (W 70 rfl)) (Or.inr (W 68 rfl)) (by decide) (t := (.array .int)) (t' := (.array .long)) (by decide) (by decide))))).same W873
 have N873 := Fr.snoc X873 N870 g1
 refine own_stp 16 st873 (own_k X873 q d13_16 (own_isn X873 q d13_17 (l' := #[.val (.ref a1), .val (.ref a2), .val v'0, .unset]) rfl (own_iln X873 q d13_18 rfl (own_aln X873 q d13_19 rfl rfl (own_alen (n := (2 : Int32)) X873 q hZ e873 (((VA.ext E867).other W870 (Ne.symm n12)).other W873 (Ne.symm n12)) d13_20 (own_cn X873 q d13_21 ((tlt ((by decide) : (0 : Int32) < (2 : Int32))).2.1) (own_aln X873 q d13_24 rfl rfl (own_iln X873 q d13_25 rfl (own_ild (v := (.int x0)) X873 q hZ e873 (((VA.ext E867).other W870 (Ne.symm n12)).other W873 (Ne.symm n12)) d13_26 (by decide) rfl (own_k X873 q d13_27 ?_))))))))))
 by_cases hc30_875 : x0 < (128 : Int32)
 ·refine own_cn X873 q d13_30 ((tlt hc30_875).2.1) (own_aln X873 q d13_33 rfl rfl (own_iln X873 q d13_34 rfl (own_ild (v := (.int x0)) X873 q hZ e873 (((VA.ext E867).other W870 (Ne.symm n12)).other W873 (Ne.symm n12)) d13_35 (by decide) rfl (own_isn X873 q d13_36 (l' := #[.val (.ref a1), .val (.ref a2), .val v'0, .val (.int x0)]) rfl ?_))))
  obtain ⟨mx876, hmx876⟩ : ∃ z, own_min x1 (127 : Int32) = z := ⟨_, rfl⟩
  have hm876 := own_mx hmx876
  have hlo876 := hc30_875
  rw [Int32.lt_iff_toInt_lt, own_t128] at hlo876
  refine own_lp20 (R := ({ frames := 1, cells := 1, slots := 2, locals := 16 } : Room)) hx hZ hw hby hml hown a1 a2 b867 k1 k867 x0 x1 mx876 hmx876 n0 g_b867 (own_ne (E1).lt (Nat.le_of_eq g867.symm)) (own_ne (VA).lt (Nat.le_of_eq g867.symm)) (mx876.toInt + 1 - x0.toInt).toNat x0 _ _ _ (0 : Int64) (0 : Int64) (by have := hok0; unfold own_ok at this; omega) (by have := hok0; unfold own_ok at this; omega) X873 e873 N873 zs874 (Fw870.other W873 (Or.inr (slot_ne (Or.inr (W 68 rfl)) (Or.inr (W 70 rfl)) (by decide) (t := (.array .long)) (t' := (.array .int)) (by decide) (by decide)))) (((VA.ext E867).other W870 (Ne.symm n12)).other W873 (Ne.symm n12)) ((V867.other W870 (Ne.symm (own_ne (E1).lt (Nat.le_of_eq g867.symm)))).other W873 (Ne.symm (own_ne (E1).lt (Nat.le_of_eq g867.symm)))) (fun T876 L876 h876 w0_876 w1_876 j876 X876 e876 N876 K876 V876 fil876 => ?_)
  have zs877 := Nat.le_trans zs874 K876.1
  have kp877 := kp874.trans K876 (allS (Or.inr sz_b867) all0)
  show own_Fin _ _ _ _ (T876.setTop (mkF m 72 #[.val (.ref a1), .val (.ref a2), .val v'0, .val (.int j876)] []))
  refine own_iik X876 q d13_72 rfl (show ((0 : Int32) + (2 : Int32)) = (2 : Int32) by decide) (l' := #[.val (.ref a1), .val (.ref a2), .val v'2, .val (.int j876)]) rfl (own_gt X876 q d13_75 (own_iln X876 q d13_18 rfl (own_aln X876 q d13_19 rfl rfl (own_alen (n := (2 : Int32)) X876 q hZ e876 ((((VA.ext E867).other W870 (Ne.symm n12)).other W873 (Ne.symm n12)).keep K876 (ninS (own_ne (VA).lt (Nat.le_of_eq g867.symm)) nin0)) d13_20 (own_cy X876 q d13_21 ((flt (Int32.lt_irrefl : ¬ ((2 : Int32) < (2 : Int32)))).2.1) ?_)))))
  refine own_rV X876 q hrt d13_78 hlk (by decide) ?_
  show QX2 Z a1 a2 x0 x1 h0 n0 _ T876.heap _
  rw [e876]
  refine ⟨_, _, _, _, rfl, N876, kp877, sz_b867, (Fw873.keep K876 (ninS (own_ne (E1).lt (Nat.le_of_eq g867.symm)) nin0)), ((Fw870.other W873 (Or.inr (slot_ne (Or.inr (W 68 rfl)) (Or.inr (W 70 rfl)) (by decide) (t := (.array .long)) (t' := (.array .int)) (by decide) (by decide)))).keep K876 (ninS (own_ne (E1).lt (Nat.le_of_eq g867.symm)) nin0)), V876, fun q q0 q1 => ?_⟩
  rw [fil876 q q0 q1]
  simp only [Int32.lt_iff_toInt_lt, own_t128] at hc30_875
  unfold own_ok at hok0
  unfold own_in
  have hz := @own_tstz q
  generalize own_tst 0 0 q = W at hz ⊢
  constructor
  ·intro r; first | omega | (exfalso; exact hz r) | (rcases r with r | r <;> first | (exfalso; exact hz r) | omega) | (rcases r with (r | r) | r <;> first | (exfalso; exact hz r) | omega)
  ·intro r; first | omega | (exact Or.inr (by omega)) | (rcases r with r | r <;> first | (exact Or.inl (Or.inr (by omega))) | (exact Or.inr (by omega)) | (exfalso; omega))
 ·refine own_cy X873 q d13_30 ((flt hc30_875).2.1) ?_
  refine own_rV X873 q hrt d13_78 hlk (by decide) ?_
  show QX2 Z a1 a2 x0 x1 h0 n0 _ T873.heap _
  rw [e873]
  refine ⟨_, _, _, _, rfl, N873, kp874, sz_b867, Fw873, (Fw870.other W873 (Or.inr (slot_ne (Or.inr (W 68 rfl)) (Or.inr (W 70 rfl)) (by decide) (t := (.array .long)) (t' := (.array .int)) (by decide) (by decide)))), ((V867.other W870 (Ne.symm (own_ne (E1).lt (Nat.le_of_eq g867.symm)))).other W873 (Ne.symm (own_ne (E1).lt (Nat.le_of_eq g867.symm)))), fun q q0 q1 => ?_⟩
  simp only [Int32.lt_iff_toInt_lt, own_t128] at hc30_875
  unfold own_ok at hok0
  unfold own_in
  have hz := @own_tstz q
  generalize own_tst 0 0 q = W at hz ⊢
  constructor
  ·intro r; first | omega | (exfalso; exact hz r) | (rcases r with r | r <;> first | (exfalso; exact hz r) | omega) | (rcases r with (r | r) | r <;> first | (exfalso; exact hz r) | omega)
  ·intro r; first | omega | (exact Or.inr (by omega)) | (rcases r with r | r <;> first | (exact Or.inl (Or.inr (by omega))) | (exact Or.inr (by omega)) | (exfalso; omega))
theorem rm13_4 (l : Launch) (Z : State) (a0 : Array Value) (hw : own_hw a0 Z) (a1 : Addr) (a2 : Addr) (k1 : ClassId) (x0 x1 x2 x3 : Int32) (h0 : Heap) (n0 : Nat) (Z0 : n0 ≤ h0.size) (E1 : Exa Z h0 a1 "com/example/austere_json/austerejson/CodePointSet") (FR : F'3 Z h0 a1 .null) (FA : F'2 Z h0 a1 .null) (VA : Arv Z h0 a2 k1 .int (4 : Int32) [(.int x0), (.int x1), (.int x2), (.int x3)] v'0) (g1 : n0 ≤ a1) (n12 : a1 ≠ a2) (hok0 : own_ok x0 x1) (hok1 : own_ok x2 x3) (hgap : x1.toInt + 1 < x2.toInt) :
  own_M l Z [] own_y10 b'13 4 none ⟨1, 1, 2, 16⟩ #[(.ref a1), (.ref a2)] h0 (QX4 Z a1 a2 x0 x1 x2 x3 h0 n0) := by
 refine own_start (n0 := n0) hw "com/example/austere_json/austerejson/CodePointSet" (L := #[.val (.ref a1), .val (.ref a2), .unset, .unset]) pn_13 (fun {p e s m below meth c s₁} q hx W hml hZ hown hnm hlk hrt X0 e0 N0 => ?_)
 have hby := q.2
 have kp0 := Keep.refl h0 [a1]
 refine own_aln X0 q d13_0 rfl rfl ?_
 refine own_let ?_; intro g895_
 obtain ⟨T896, X896, e896, st896⟩ := initO X0 hx hZ hown (W 66 rfl) (W 19 rfl) (W 20 rfl) e0 (g := g895_) rfl (by rw [hml]; rfl) rfl (q.d d13_1) (by decide) (W := 0) (by show 2 * 0 + _ ≤ _; exact Nat.le_of_eq rfl) (by decide)
 refine own_stp 4 st896 (own_aln X896 q d13_4 rfl rfl (own_k X896 q d13_5 ?_))
 refine own_let ?_; intro g897_
 obtain ⟨T898, h898, k898, X898, e898, E898, A898, st898⟩ := newP X896 hx hZ (W 45 rfl) e896 (g := g897_) rfl (q.d d13_6) rfl (by decide) (cap := 2) (by decide) (by decide) (by decide) (by decide)
 obtain ⟨b898, g898⟩ : ∃ z, z = h0.size := ⟨_, rfl⟩
 rw [← g898] at A898 st898
 have V898 : Arv Z h898 b898 k898 .long (2 : Int32) [(.long (0 : Int64)), (.long (0 : Int64))] (.long (0 : Int64)) := (Arv.new A898 (by decide)).pad (pad_rep [] (.long (0 : Int64)) 2)
 have zs899 := Nat.le_trans Z0 E898.1
 have kp899 := kp0.ext E898
 have g_b898 : n0 ≤ b898 := Nat.le_trans Z0 (Nat.le_of_eq g898.symm)
 have sz_b898 : h0.size ≤ b898 := Nat.le_trans kp0.1 (Nat.le_of_eq g898.symm)
 refine own_stp 8 st898 ?_
 refine own_let ?_; intro g900_
 obtain ⟨T901, h901, X901, e901, W901, st901⟩ := putF X898 hx hZ hown (host := "") (Or.inl (W 67 rfl)) Via.refl e898 (FA.ext E898) (E1.ext E898) (Or.inr ⟨(W 68 rfl), rfl, hnm⟩) (W 61 rfl) (ty := (.array .long)) (by decide) rfl rfl (g := g900_) rfl rfl (q.d d13_8)
 have zs902 := Nat.le_trans zs899 (Keep.of_wr W901).1
 have kp902 := kp899.wr W901 (own_i0)
 have Fw901 := ((FA.ext E898)).same W901
 have N901 := Fr.snoc X901 N0 g1
 refine own_stp 11 st901 (own_aln X901 q d13_11 rfl rfl (own_aln X901 q d13_12 rfl rfl ?_))
 refine own_let ?_; intro g903_
 obtain ⟨T904, h904, X904, e904, W904, st904⟩ := putF X901 hx hZ hown (host := "") (Or.inl (W 69 rfl)) Via.refl e901 ((FR.ext E898).other W901 (Or.inr (slot_ne (Or.inr (W 70 rfl)) (Or.inr (W 68 rfl)) (by decide) (t := (.array .int)) (t' := (.array .long)) (by decide) (by decide)))) ((E1.ext E898).wr W901) (Or.inr ⟨(W 70 rfl), rfl, hnm⟩) (W 61 rfl) (ty := (.array .int)) (by decide) rfl rfl (g := g903_) rfl rfl (q.d d13_13)
 have zs905 := Nat.le_trans zs902 (Keep.of_wr W904).1
 have kp905 := kp902.wr W904 (own_i0)
 have Fw904 := (((FR.ext E898).other W901 (Or.inr (slot_ne (Or.inr (W 70 rfl)) (Or.inr (W 68 rfl)) (by decide) (t := (.array .int)) (t' := (.array .long)) (by decide) (by decide))))).same W904
 have N904 := Fr.snoc X904 N901 g1
 refine own_stp 16 st904 (own_k X904 q d13_16 (own_isn X904 q d13_17 (l' := #[.val (.ref a1), .val (.ref a2), .val v'0, .unset]) rfl (own_iln X904 q d13_18 rfl (own_aln X904 q d13_19 rfl rfl (own_alen (n := (4 : Int32)) X904 q hZ e904 (((VA.ext E898).other W901 (Ne.symm n12)).other W904 (Ne.symm n12)) d13_20 (own_cn X904 q d13_21 ((tlt ((by decide) : (0 : Int32) < (4 : Int32))).2.1) (own_aln X904 q d13_24 rfl rfl (own_iln X904 q d13_25 rfl (own_ild (v := (.int x0)) X904 q hZ e904 (((VA.ext E898).other W901 (Ne.symm n12)).other W904 (Ne.symm n12)) d13_26 (by decide) rfl (own_k X904 q d13_27 ?_))))))))))
 by_cases hc30_906 : x0 < (128 : Int32)
 ·refine own_cn X904 q d13_30 ((tlt hc30_906).2.1) (own_aln X904 q d13_33 rfl rfl (own_iln X904 q d13_34 rfl (own_ild (v := (.int x0)) X904 q hZ e904 (((VA.ext E898).other W901 (Ne.symm n12)).other W904 (Ne.symm n12)) d13_35 (by decide) rfl (own_isn X904 q d13_36 (l' := #[.val (.ref a1), .val (.ref a2), .val v'0, .val (.int x0)]) rfl ?_))))
  obtain ⟨mx907, hmx907⟩ : ∃ z, own_min x1 (127 : Int32) = z := ⟨_, rfl⟩
  have hm907 := own_mx hmx907
  have hlo907 := hc30_906
  rw [Int32.lt_iff_toInt_lt, own_t128] at hlo907
  refine own_lp40 (R := ({ frames := 1, cells := 1, slots := 2, locals := 16 } : Room)) hx hZ hw hby hml hown a1 a2 b898 k1 k898 x0 x1 x2 x3 mx907 hmx907 n0 g_b898 (own_ne (E1).lt (Nat.le_of_eq g898.symm)) (own_ne (VA).lt (Nat.le_of_eq g898.symm)) (mx907.toInt + 1 - x0.toInt).toNat x0 _ _ _ (0 : Int64) (0 : Int64) (by have := hok0; unfold own_ok at this; omega) (by have := hok0; unfold own_ok at this; omega) X904 e904 N904 zs905 (Fw901.other W904 (Or.inr (slot_ne (Or.inr (W 68 rfl)) (Or.inr (W 70 rfl)) (by decide) (t := (.array .long)) (t' := (.array .int)) (by decide) (by decide)))) (((VA.ext E898).other W901 (Ne.symm n12)).other W904 (Ne.symm n12)) ((V898.other W901 (Ne.symm (own_ne (E1).lt (Nat.le_of_eq g898.symm)))).other W904 (Ne.symm (own_ne (E1).lt (Nat.le_of_eq g898.symm)))) (fun T907 L907 h907 w0_907 w1_907 j907 X907 e907 N907 K907 V907 fil907 => ?_)
  have zs908 := Nat.le_trans zs905 K907.1
  have kp908 := kp905.trans K907 (allS (Or.inr sz_b898) all0)
  show own_Fin _ _ _ _ (T907.setTop (mkF m 72 #[.val (.ref a1), .val (.ref a2), .val v'0, .val (.int j907)] []))
  refine own_iik X907 q d13_72 rfl (show ((0 : Int32) + (2 : Int32)) = (2 : Int32) by decide) (l' := #[.val (.ref a1), .val (.ref a2), .val v'2, .val (.int j907)]) rfl (own_gt X907 q d13_75 (own_iln X907 q d13_18 rfl (own_aln X907 q d13_19 rfl rfl (own_alen (n := (4 : Int32)) X907 q hZ e907 ((((VA.ext E898).other W901 (Ne.symm n12)).other W904 (Ne.symm n12)).keep K907 (ninS (own_ne (VA).lt (Nat.le_of_eq g898.symm)) nin0)) d13_20 (own_cn X907 q d13_21 ((tlt ((by decide) : (2 : Int32) < (4 : Int32))).2.1) (own_aln X907 q d13_24 rfl rfl (own_iln X907 q d13_25 rfl (own_ild (v := (.int x2)) X907 q hZ e907 ((((VA.ext E898).other W901 (Ne.symm n12)).other W904 (Ne.symm n12)).keep K907 (ninS (own_ne (VA).lt (Nat.le_of_eq g898.symm)) nin0)) d13_26 (by decide) rfl (own_k X907 q d13_27 ?_)))))))))
  by_cases hc30_909 : x2 < (128 : Int32)
  ·refine own_cn X907 q d13_30 ((tlt hc30_909).2.1) (own_aln X907 q d13_33 rfl rfl (own_iln X907 q d13_34 rfl (own_ild (v := (.int x2)) X907 q hZ e907 ((((VA.ext E898).other W901 (Ne.symm n12)).other W904 (Ne.symm n12)).keep K907 (ninS (own_ne (VA).lt (Nat.le_of_eq g898.symm)) nin0)) d13_35 (by decide) rfl (own_isn X907 q d13_36 (l' := #[.val (.ref a1), .val (.ref a2), .val v'2, .val (.int x2)]) rfl ?_))))
   obtain ⟨mx910, hmx910⟩ : ∃ z, own_min x3 (127 : Int32) = z := ⟨_, rfl⟩
   have hm910 := own_mx hmx910
   have hlo910 := hc30_909
   rw [Int32.lt_iff_toInt_lt, own_t128] at hlo910
   refine own_lp42 (R := ({ frames := 1, cells := 1, slots := 2, locals := 16 } : Room)) hx hZ hw hby hml hown a1 a2 b898 k1 k898 x0 x1 x2 x3 mx910 hmx910 n0 g_b898 (own_ne (E1).lt (Nat.le_of_eq g898.symm)) (own_ne (VA).lt (Nat.le_of_eq g898.symm)) (mx910.toInt + 1 - x2.toInt).toNat x2 _ _ _ w0_907 w1_907 (by have := hok1; unfold own_ok at this; omega) (by have := hok1; unfold own_ok at this; omega) X907 e907 N907 zs908 ((Fw901.other W904 (Or.inr (slot_ne (Or.inr (W 68 rfl)) (Or.inr (W 70 rfl)) (by decide) (t := (.array .long)) (t' := (.array .int)) (by decide) (by decide)))).keep K907 (ninS (own_ne (E1).lt (Nat.le_of_eq g898.symm)) nin0)) ((((VA.ext E898).other W901 (Ne.symm n12)).other W904 (Ne.symm n12)).keep K907 (ninS (own_ne (VA).lt (Nat.le_of_eq g898.symm)) nin0)) V907 (fun T910 L910 h910 w0_910 w1_910 j910 X910 e910 N910 K910 V910 fil910 => ?_)
   have zs911 := Nat.le_trans zs908 K910.1
   have kp911 := kp908.trans K910 (allS (Or.inr sz_b898) all0)
   show own_Fin _ _ _ _ (T910.setTop (mkF m 72 #[.val (.ref a1), .val (.ref a2), .val v'2, .val (.int j910)] []))
   refine own_iik X910 q d13_72 rfl (show ((2 : Int32) + (2 : Int32)) = (4 : Int32) by decide) (l' := #[.val (.ref a1), .val (.ref a2), .val v'4, .val (.int j910)]) rfl (own_gt X910 q d13_75 (own_iln X910 q d13_18 rfl (own_aln X910 q d13_19 rfl rfl (own_alen (n := (4 : Int32)) X910 q hZ e910 (((((VA.ext E898).other W901 (Ne.symm n12)).other W904 (Ne.symm n12)).keep K907 (ninS (own_ne (VA).lt (Nat.le_of_eq g898.symm)) nin0)).keep K910 (ninS (own_ne (VA).lt (Nat.le_of_eq g898.symm)) nin0)) d13_20 (own_cy X910 q d13_21 ((flt (Int32.lt_irrefl : ¬ ((4 : Int32) < (4 : Int32)))).2.1) ?_)))))
   refine own_rV X910 q hrt d13_78 hlk (by decide) ?_
   show QX4 Z a1 a2 x0 x1 x2 x3 h0 n0 _ T910.heap _
   rw [e910]
   refine ⟨_, _, _, _, rfl, N910, kp911, sz_b898, ((Fw904.keep K907 (ninS (own_ne (E1).lt (Nat.le_of_eq g898.symm)) nin0)).keep K910 (ninS (own_ne (E1).lt (Nat.le_of_eq g898.symm)) nin0)), (((Fw901.other W904 (Or.inr (slot_ne (Or.inr (W 68 rfl)) (Or.inr (W 70 rfl)) (by decide) (t := (.array .long)) (t' := (.array .int)) (by decide) (by decide)))).keep K907 (ninS (own_ne (E1).lt (Nat.le_of_eq g898.symm)) nin0)).keep K910 (ninS (own_ne (E1).lt (Nat.le_of_eq g898.symm)) nin0)), V910, fun q q0 q1 => ?_⟩
   rw [fil910 q q0 q1]
   rw [fil907 q q0 q1]
   simp only [Int32.lt_iff_toInt_lt, own_t128] at hc30_906 hc30_909
   unfold own_ok at hok0 hok1
   unfold own_in
   have hz := @own_tstz q
   generalize own_tst 0 0 q = W at hz ⊢
   constructor
   ·intro r; first | omega | (exfalso; exact hz r) | (rcases r with r | r <;> first | (exfalso; exact hz r) | omega) | (rcases r with (r | r) | r <;> first | (exfalso; exact hz r) | omega)
   ·intro r; first | omega | (exact Or.inr (by omega)) | (rcases r with r | r <;> first | (exact Or.inl (Or.inr (by omega))) | (exact Or.inr (by omega)) | (exfalso; omega))
  ·refine own_cy X907 q d13_30 ((flt hc30_909).2.1) ?_
   refine own_rV X907 q hrt d13_78 hlk (by decide) ?_
   show QX4 Z a1 a2 x0 x1 x2 x3 h0 n0 _ T907.heap _
   rw [e907]
   refine ⟨_, _, _, _, rfl, N907, kp908, sz_b898, (Fw904.keep K907 (ninS (own_ne (E1).lt (Nat.le_of_eq g898.symm)) nin0)), ((Fw901.other W904 (Or.inr (slot_ne (Or.inr (W 68 rfl)) (Or.inr (W 70 rfl)) (by decide) (t := (.array .long)) (t' := (.array .int)) (by decide) (by decide)))).keep K907 (ninS (own_ne (E1).lt (Nat.le_of_eq g898.symm)) nin0)), V907, fun q q0 q1 => ?_⟩
   rw [fil907 q q0 q1]
   simp only [Int32.lt_iff_toInt_lt, own_t128] at hc30_906 hc30_909
   unfold own_ok at hok0 hok1
   unfold own_in
   have hz := @own_tstz q
   generalize own_tst 0 0 q = W at hz ⊢
   constructor
   ·intro r; first | omega | (exfalso; exact hz r) | (rcases r with r | r <;> first | (exfalso; exact hz r) | omega) | (rcases r with (r | r) | r <;> first | (exfalso; exact hz r) | omega)
   ·intro r; first | omega | (exact Or.inr (by omega)) | (rcases r with r | r <;> first | (exact Or.inl (Or.inr (by omega))) | (exact Or.inr (by omega)) | (exfalso; omega))
 ·refine own_cy X904 q d13_30 ((flt hc30_906).2.1) ?_
  refine own_rV X904 q hrt d13_78 hlk (by decide) ?_
  show QX4 Z a1 a2 x0 x1 x2 x3 h0 n0 _ T904.heap _
  rw [e904]
  refine ⟨_, _, _, _, rfl, N904, kp905, sz_b898, Fw904, (Fw901.other W904 (Or.inr (slot_ne (Or.inr (W 68 rfl)) (Or.inr (W 70 rfl)) (by decide) (t := (.array .long)) (t' := (.array .int)) (by decide) (by decide)))), ((V898.other W901 (Ne.symm (own_ne (E1).lt (Nat.le_of_eq g898.symm)))).other W904 (Ne.symm (own_ne (E1).lt (Nat.le_of_eq g898.symm)))), fun q q0 q1 => ?_⟩
  simp only [Int32.lt_iff_toInt_lt, own_t128] at hc30_906
  unfold own_ok at hok0 hok1
  unfold own_in
  have hz := @own_tstz q
  generalize own_tst 0 0 q = W at hz ⊢
  constructor
  ·intro r; first | omega | (exfalso; exact hz r) | (rcases r with r | r <;> first | (exfalso; exact hz r) | omega) | (rcases r with (r | r) | r <;> first | (exfalso; exact hz r) | omega)
  ·intro r; first | omega | (exact Or.inr (by omega)) | (rcases r with r | r <;> first | (exact Or.inl (Or.inr (by omega))) | (exact Or.inr (by omega)) | (exfalso; omega))
theorem d17_0 : own_D b'17 0 (.iload_n 1) 1 1 := by decide +kernel
theorem d17_1 : own_D b'17 1 (.istore 4) 2 3 := by decide +kernel
theorem d17_3 : own_D b'17 3 (.iload_n 2) 1 4 := by decide +kernel
theorem d17_4 : own_DK b'17 4 1 5 := by decide +kernel
theorem d17_5 : own_D b'17 5 .isub 1 6 := by decide +kernel
theorem d17_6 : own_D b'17 6 (.istore 5) 2 8 := by decide +kernel
theorem d17_8 : own_D b'17 8 (.iload 4) 2 10 := by decide +kernel
theorem d17_10 : own_D b'17 10 (.iload 5) 2 12 := by decide +kernel
theorem d17_12 : own_DJ b'17 12 .gt 66 15 := by decide +kernel
theorem d17_15 : own_D b'17 15 (.iload 4) 2 17 := by decide +kernel
theorem d17_17 : own_D b'17 17 (.iload 5) 2 19 := by decide +kernel
theorem d17_19 : own_D b'17 19 .iadd 1 20 := by decide +kernel
theorem d17_20 : own_DK b'17 20 1 21 := by decide +kernel
theorem d17_21 : own_D b'17 21 .iushr 1 22 := by decide +kernel
theorem d17_22 : own_D b'17 22 (.istore 6) 2 24 := by decide +kernel
theorem d17_24 : own_D b'17 24 (.aload_n 0) 1 25 := by decide +kernel
theorem d17_25 : own_D b'17 25 (.iload 6) 2 27 := by decide +kernel
theorem d17_27 : own_D b'17 27 .iaload 1 28 := by decide +kernel
theorem d17_28 : own_D b'17 28 (.istore 7) 2 30 := by decide +kernel
theorem d17_30 : own_D b'17 30 (.iload 7) 2 32 := by decide +kernel
theorem d17_32 : own_D b'17 32 (.iload_n 3) 1 33 := by decide +kernel
theorem d17_33 : own_DJ b'17 33 .ge 45 36 := by decide +kernel
theorem d17_36 : own_D b'17 36 (.iload 6) 2 38 := by decide +kernel
theorem d17_38 : own_DK b'17 38 1 39 := by decide +kernel
theorem d17_39 : own_D b'17 39 .iadd 1 40 := by decide +kernel
theorem d17_40 : own_D b'17 40 (.istore 4) 2 42 := by decide +kernel
theorem d17_42 : own_DG b'17 42 63 := by decide +kernel
theorem d17_45 : own_D b'17 45 (.iload 7) 2 47 := by decide +kernel
theorem d17_47 : own_D b'17 47 (.iload_n 3) 1 48 := by decide +kernel
theorem d17_48 : own_DJ b'17 48 .le 60 51 := by decide +kernel
theorem d17_51 : own_D b'17 51 (.iload 6) 2 53 := by decide +kernel
theorem d17_53 : own_DK b'17 53 1 54 := by decide +kernel
theorem d17_54 : own_D b'17 54 .isub 1 55 := by decide +kernel
theorem d17_55 : own_D b'17 55 (.istore 5) 2 57 := by decide +kernel
theorem d17_57 : own_DG b'17 57 63 := by decide +kernel
theorem d17_60 : own_D b'17 60 (.iload 6) 2 62 := by decide +kernel
theorem d17_62 : own_D b'17 62 .ireturn 1 63 := by decide +kernel
theorem d17_63 : own_DG b'17 63 8 := by decide +kernel
theorem d17_66 : own_D b'17 66 (.iload 4) 2 68 := by decide +kernel
theorem d17_68 : own_DK b'17 68 1 69 := by decide +kernel
theorem d17_69 : own_D b'17 69 .iadd 1 70 := by decide +kernel
theorem d17_70 : own_D b'17 70 .ineg 1 71 := by decide +kernel
theorem d17_71 : own_D b'17 71 .ireturn 1 72 := by decide +kernel
theorem pn_17 : plainFor (⟨"java/util/Arrays", "binarySearch0", "([IIII)I"⟩ : MethodName) = true := plainFor_of_name (by first | (simp [plainName, overriddenIn]; done) | decide +kernel)
theorem rm17_2 (l : Launch) (Z : State) (a0 : Array Value) (hw : own_hw a0 Z) (a1 : Addr) (p4 : Int32) (k1 : ClassId) (x0 x1 : Int32) (h0 : Heap) (n0 : Nat) (Z0 : n0 ≤ h0.size) (VA : Arv Z h0 a1 k1 .int (2 : Int32) [(.int x0), (.int x1)] v'0) :
  own_M l Z [] own_y11 b'17 8 (some .int) ⟨0, 0, 0, 0⟩ #[(.ref a1), v'0, v'2, (.int p4)] h0 (QBS2 x0 x1 p4 h0 n0) := by
 refine own_start (n0 := n0) hw "java/util/Arrays" (L := #[.val (.ref a1), .val v'0, .val v'2, .val (.int p4), .unset, .unset, .unset, .unset]) pn_17 (fun {p e s m below meth c s₁} q hx W hml hZ hown hnm hlk hrt X0 e0 N0 => ?_)
 refine own_iln X0 q d17_0 rfl (own_is X0 q d17_1 (l' := #[.val (.ref a1), .val v'0, .val v'2, .val (.int p4), .val v'0, .unset, .unset, .unset]) rfl (own_iln X0 q d17_3 rfl (own_k X0 q d17_4 (own_isubk 1 X0 q d17_5 (by decide) (own_is X0 q d17_6 (l' := #[.val (.ref a1), .val v'0, .val v'2, .val (.int p4), .val v'0, .val v'1, .unset, .unset]) rfl (own_il X0 q d17_8 rfl (own_il X0 q d17_10 rfl (own_cn X0 q d17_12 ((flt ((by decide) : ¬ ((1 : Int32) < (0 : Int32)))).2.2.1) (own_il X0 q d17_15 rfl (own_il X0 q d17_17 rfl (own_iaddk 1 X0 q d17_19 (by decide) ?_)))))))))))
 refine own_k X0 q d17_20 (own_stp 22 (fun _ k => XS.iushr X0.here hx rfl (q.d d17_21) rfl k) ?_)
 rw [show (((1 : Int32).toUInt32 >>> ((1 : Int32) &&& 31).toUInt32).toInt32) = (0 : Int32) from by decide]
 refine own_is X0 q d17_22 (l' := #[.val (.ref a1), .val v'0, .val v'2, .val (.int p4), .val v'0, .val v'1, .val v'0, .unset]) rfl (own_aln X0 q d17_24 rfl rfl (own_il X0 q d17_25 rfl (own_ild (v := (.int x0)) X0 q hZ e0 VA d17_27 (by decide) rfl (own_is X0 q d17_28 (l' := #[.val (.ref a1), .val v'0, .val v'2, .val (.int p4), .val v'0, .val v'1, .val v'0, .val (.int x0)]) rfl (own_il X0 q d17_30 rfl (own_iln X0 q d17_32 rfl ?_))))))
 by_cases hc33_916 : x0 < p4
 ·refine own_cn X0 q d17_33 ((tlt hc33_916).2.1) (own_il X0 q d17_36 rfl (own_k X0 q d17_38 (own_iaddk 1 X0 q d17_39 (by decide) (own_is X0 q d17_40 (l' := #[.val (.ref a1), .val v'0, .val v'2, .val (.int p4), .val v'1, .val v'1, .val v'0, .val (.int x0)]) rfl (own_gt X0 q d17_42 (own_gt X0 q d17_63 (own_il X0 q d17_8 rfl (own_il X0 q d17_10 rfl (own_cn X0 q d17_12 ((flt (Int32.lt_irrefl : ¬ ((1 : Int32) < (1 : Int32)))).2.2.1) (own_il X0 q d17_15 rfl (own_il X0 q d17_17 rfl ?_)))))))))))
  refine own_iaddk 2 X0 q d17_19 (by decide) (own_k X0 q d17_20 (own_stp 22 (fun _ k => XS.iushr X0.here hx rfl (q.d d17_21) rfl k) ?_))
  rw [show (((2 : Int32).toUInt32 >>> ((1 : Int32) &&& 31).toUInt32).toInt32) = (1 : Int32) from by decide]
  refine own_is X0 q d17_22 (l' := #[.val (.ref a1), .val v'0, .val v'2, .val (.int p4), .val v'1, .val v'1, .val v'1, .val (.int x0)]) rfl (own_aln X0 q d17_24 rfl rfl (own_il X0 q d17_25 rfl (own_ild (v := (.int x1)) X0 q hZ e0 VA d17_27 (by decide) rfl (own_is X0 q d17_28 (l' := #[.val (.ref a1), .val v'0, .val v'2, .val (.int p4), .val v'1, .val v'1, .val v'1, .val (.int x1)]) rfl (own_il X0 q d17_30 rfl (own_iln X0 q d17_32 rfl ?_))))))
  by_cases hc33_917 : x1 < p4
  ·refine own_cn X0 q d17_33 ((tlt hc33_917).2.1) (own_il X0 q d17_36 rfl (own_k X0 q d17_38 (own_iaddk 2 X0 q d17_39 (by decide) (own_is X0 q d17_40 (l' := #[.val (.ref a1), .val v'0, .val v'2, .val (.int p4), .val v'2, .val v'1, .val v'1, .val (.int x1)]) rfl (own_gt X0 q d17_42 (own_gt X0 q d17_63 (own_il X0 q d17_8 rfl (own_il X0 q d17_10 rfl (own_cy X0 q d17_12 ((tlt ((by decide) : (1 : Int32) < (2 : Int32))).2.2.1) (own_il X0 q d17_66 rfl (own_k X0 q d17_68 ?_)))))))))))
   refine own_iaddk 3 X0 q d17_69 (by decide) (own_stp 71 (fun _ k => XS.ineg X0.here hx rfl (q.d d17_70) rfl k) ?_)
   refine own_rI X0 q hrt d17_71 hlk (by decide) ?_
   simp only [Int32.lt_iff_toInt_lt] at hc33_916 hc33_917
   show QBS2 x0 x1 p4 h0 n0 _ s₁.heap _
   rw [e0]
   exact ⟨_, rfl, N0, rfl, (Or.inr (Or.inr (Or.inr (Or.inr ⟨rfl, by omega⟩))))⟩
  ·refine own_cy X0 q d17_33 ((flt hc33_917).2.1) (own_il X0 q d17_45 rfl (own_iln X0 q d17_47 rfl ?_))
   by_cases hc48_918 : p4 < x1
   ·refine own_cn X0 q d17_48 ((tlt hc48_918).2.2.2) (own_il X0 q d17_51 rfl (own_k X0 q d17_53 (own_isubk 0 X0 q d17_54 (by decide) (own_is X0 q d17_55 (l' := #[.val (.ref a1), .val v'0, .val v'2, .val (.int p4), .val v'1, .val v'0, .val v'1, .val (.int x1)]) rfl (own_gt X0 q d17_57 (own_gt X0 q d17_63 (own_il X0 q d17_8 rfl (own_il X0 q d17_10 rfl (own_cy X0 q d17_12 ((tlt ((by decide) : (0 : Int32) < (1 : Int32))).2.2.1) (own_il X0 q d17_66 rfl (own_k X0 q d17_68 ?_)))))))))))
    refine own_iaddk 2 X0 q d17_69 (by decide) (own_stp 71 (fun _ k => XS.ineg X0.here hx rfl (q.d d17_70) rfl k) ?_)
    refine own_rI X0 q hrt d17_71 hlk (by decide) ?_
    simp only [Int32.lt_iff_toInt_lt] at hc33_916 hc33_917 hc48_918
    show QBS2 x0 x1 p4 h0 n0 _ s₁.heap _
    rw [e0]
    exact ⟨_, rfl, N0, rfl, (Or.inr (Or.inr (Or.inr (Or.inl ⟨rfl, by omega⟩))))⟩
   ·refine own_cy X0 q d17_48 ((flt hc48_918).2.2.2) (own_il X0 q d17_60 rfl ?_)
    refine own_rI X0 q hrt d17_62 hlk (by decide) ?_
    simp only [Int32.lt_iff_toInt_lt] at hc33_916 hc33_917 hc48_918
    show QBS2 x0 x1 p4 h0 n0 _ s₁.heap _
    rw [e0]
    exact ⟨_, rfl, N0, rfl, (Or.inr (Or.inl ⟨rfl, by omega⟩))⟩
 ·refine own_cy X0 q d17_33 ((flt hc33_916).2.1) (own_il X0 q d17_45 rfl (own_iln X0 q d17_47 rfl ?_))
  by_cases hc48_919 : p4 < x0
  ·refine own_cn X0 q d17_48 ((tlt hc48_919).2.2.2) (own_il X0 q d17_51 rfl (own_k X0 q d17_53 (own_isubk (-1) X0 q d17_54 (by decide) (own_is X0 q d17_55 (l' := #[.val (.ref a1), .val v'0, .val v'2, .val (.int p4), .val v'0, .val (.int (-1 : Int32)), .val v'0, .val (.int x0)]) rfl (own_gt X0 q d17_57 (own_gt X0 q d17_63 (own_il X0 q d17_8 rfl (own_il X0 q d17_10 rfl (own_cy X0 q d17_12 ((tlt ((by decide) : (-1 : Int32) < (0 : Int32))).2.2.1) (own_il X0 q d17_66 rfl (own_k X0 q d17_68 ?_)))))))))))
   refine own_iaddk 1 X0 q d17_69 (by decide) (own_stp 71 (fun _ k => XS.ineg X0.here hx rfl (q.d d17_70) rfl k) ?_)
   refine own_rI X0 q hrt d17_71 hlk (by decide) ?_
   simp only [Int32.lt_iff_toInt_lt] at hc33_916 hc48_919
   show QBS2 x0 x1 p4 h0 n0 _ s₁.heap _
   rw [e0]
   exact ⟨_, rfl, N0, rfl, (Or.inr (Or.inr (Or.inl ⟨rfl, by omega⟩)))⟩
  ·refine own_cy X0 q d17_48 ((flt hc48_919).2.2.2) (own_il X0 q d17_60 rfl ?_)
   refine own_rI X0 q hrt d17_62 hlk (by decide) ?_
   simp only [Int32.lt_iff_toInt_lt] at hc33_916 hc48_919
   show QBS2 x0 x1 p4 h0 n0 _ s₁.heap _
   rw [e0]
   exact ⟨_, rfl, N0, rfl, (Or.inl ⟨rfl, by omega⟩)⟩
theorem d16_0 : own_D b'16 0 (.aload_n 0) 1 1 := by decide +kernel
theorem d16_1 : own_DK b'16 1 0 2 := by decide +kernel
theorem d16_2 : own_D b'16 2 (.aload_n 0) 1 3 := by decide +kernel
theorem d16_3 : own_D b'16 3 .arraylength 1 4 := by decide +kernel
theorem d16_4 : own_D b'16 4 (.iload_n 1) 1 5 := by decide +kernel
theorem d16_5 : own_D b'16 5 (.invokestatic 209) 3 8 := by decide +kernel
theorem d16_8 : own_D b'16 8 .ireturn 1 9 := by decide +kernel
theorem pn_16 : plainFor (⟨"java/util/Arrays", "binarySearch", "([II)I"⟩ : MethodName) = true := plainFor_of_name (by first | (simp [plainName, overriddenIn]; done) | decide +kernel)
theorem rm16_2 (l : Launch) (Z : State) (a0 : Array Value) (hw : own_hw a0 Z) (a1 : Addr) (p2 : Int32) (k1 : ClassId) (x0 x1 : Int32) (h0 : Heap) (n0 : Nat) (Z0 : n0 ≤ h0.size) (VA : Arv Z h0 a1 k1 .int (2 : Int32) [(.int x0), (.int x1)] v'0) :
  own_M l Z [] own_y12 b'16 2 (some .int) ⟨1, 0, 0, 19⟩ #[(.ref a1), (.int p2)] h0 (QBS2 x0 x1 p2 h0 n0) := by
 refine own_start (n0 := n0) hw "java/util/Arrays" (L := #[.val (.ref a1), .val (.int p2)]) pn_16 (fun {p e s m below meth c s₁} q hx W hml hZ hown hnm hlk hrt X0 e0 N0 => ?_)
 refine own_aln X0 q d16_0 rfl rfl (own_k X0 q d16_1 (own_aln X0 q d16_2 rfl rfl (own_alen (n := (2 : Int32)) X0 q hZ e0 VA d16_3 (own_iln X0 q d16_4 rfl ?_))))
 refine own_cS X0 q hZ e0 hown hml (W 85 rfl) (W 86 rfl) (W 33 rfl) (W 87 rfl) (rm17_2 l Z a0 hw a1 p2 k1 x0 x1 h0 n0 Z0 VA) d16_5 [(.ref a1), v'0, v'2, (.int p2)] [] own_pd5 rfl rfl 0 (Nat.le_refl _) (by decide) (fun v921 T921 L921 X921 hQ921 => ?_)
 obtain ⟨z921, rfl, N921q, e921, bs921⟩ := hQ921
 have N921 := Fr.app N0 N921q
 refine own_nv ?_
 refine own_rI X921 q hrt d16_8 hlk (by decide) ?_
 show QBS2 x0 x1 p2 h0 n0 _ T921.heap _
 rw [e921]
 exact ⟨_, rfl, N921, rfl, bs921⟩
theorem rm17_4 (l : Launch) (Z : State) (a0 : Array Value) (hw : own_hw a0 Z) (a1 : Addr) (p4 : Int32) (k1 : ClassId) (x0 x1 x2 x3 : Int32) (h0 : Heap) (n0 : Nat) (Z0 : n0 ≤ h0.size) (VA : Arv Z h0 a1 k1 .int (4 : Int32) [(.int x0), (.int x1), (.int x2), (.int x3)] v'0) :
  own_M l Z [] own_y11 b'17 8 (some .int) ⟨0, 0, 0, 0⟩ #[(.ref a1), v'0, v'4, (.int p4)] h0 (QBS4 x0 x1 x2 x3 p4 h0 n0) := by
 refine own_start (n0 := n0) hw "java/util/Arrays" (L := #[.val (.ref a1), .val v'0, .val v'4, .val (.int p4), .unset, .unset, .unset, .unset]) pn_17 (fun {p e s m below meth c s₁} q hx W hml hZ hown hnm hlk hrt X0 e0 N0 => ?_)
 refine own_iln X0 q d17_0 rfl (own_is X0 q d17_1 (l' := #[.val (.ref a1), .val v'0, .val v'4, .val (.int p4), .val v'0, .unset, .unset, .unset]) rfl (own_iln X0 q d17_3 rfl (own_k X0 q d17_4 (own_isubk 3 X0 q d17_5 (by decide) (own_is X0 q d17_6 (l' := #[.val (.ref a1), .val v'0, .val v'4, .val (.int p4), .val v'0, .val v'3, .unset, .unset]) rfl (own_il X0 q d17_8 rfl (own_il X0 q d17_10 rfl (own_cn X0 q d17_12 ((flt ((by decide) : ¬ ((3 : Int32) < (0 : Int32)))).2.2.1) (own_il X0 q d17_15 rfl (own_il X0 q d17_17 rfl (own_iaddk 3 X0 q d17_19 (by decide) ?_)))))))))))
 refine own_k X0 q d17_20 (own_stp 22 (fun _ k => XS.iushr X0.here hx rfl (q.d d17_21) rfl k) ?_)
 rw [show (((3 : Int32).toUInt32 >>> ((1 : Int32) &&& 31).toUInt32).toInt32) = (1 : Int32) from by decide]
 refine own_is X0 q d17_22 (l' := #[.val (.ref a1), .val v'0, .val v'4, .val (.int p4), .val v'0, .val v'3, .val v'1, .unset]) rfl (own_aln X0 q d17_24 rfl rfl (own_il X0 q d17_25 rfl (own_ild (v := (.int x1)) X0 q hZ e0 VA d17_27 (by decide) rfl (own_is X0 q d17_28 (l' := #[.val (.ref a1), .val v'0, .val v'4, .val (.int p4), .val v'0, .val v'3, .val v'1, .val (.int x1)]) rfl (own_il X0 q d17_30 rfl (own_iln X0 q d17_32 rfl ?_))))))
 by_cases hc33_930 : x1 < p4
 ·refine own_cn X0 q d17_33 ((tlt hc33_930).2.1) (own_il X0 q d17_36 rfl (own_k X0 q d17_38 (own_iaddk 2 X0 q d17_39 (by decide) (own_is X0 q d17_40 (l' := #[.val (.ref a1), .val v'0, .val v'4, .val (.int p4), .val v'2, .val v'3, .val v'1, .val (.int x1)]) rfl (own_gt X0 q d17_42 (own_gt X0 q d17_63 (own_il X0 q d17_8 rfl (own_il X0 q d17_10 rfl (own_cn X0 q d17_12 ((flt ((by decide) : ¬ ((3 : Int32) < (2 : Int32)))).2.2.1) (own_il X0 q d17_15 rfl (own_il X0 q d17_17 rfl ?_)))))))))))
  refine own_iaddk 5 X0 q d17_19 (by decide) (own_k X0 q d17_20 (own_stp 22 (fun _ k => XS.iushr X0.here hx rfl (q.d d17_21) rfl k) ?_))
  rw [show (((5 : Int32).toUInt32 >>> ((1 : Int32) &&& 31).toUInt32).toInt32) = (2 : Int32) from by decide]
  refine own_is X0 q d17_22 (l' := #[.val (.ref a1), .val v'0, .val v'4, .val (.int p4), .val v'2, .val v'3, .val v'2, .val (.int x1)]) rfl (own_aln X0 q d17_24 rfl rfl (own_il X0 q d17_25 rfl (own_ild (v := (.int x2)) X0 q hZ e0 VA d17_27 (by decide) rfl (own_is X0 q d17_28 (l' := #[.val (.ref a1), .val v'0, .val v'4, .val (.int p4), .val v'2, .val v'3, .val v'2, .val (.int x2)]) rfl (own_il X0 q d17_30 rfl (own_iln X0 q d17_32 rfl ?_))))))
  by_cases hc33_931 : x2 < p4
  ·refine own_cn X0 q d17_33 ((tlt hc33_931).2.1) (own_il X0 q d17_36 rfl (own_k X0 q d17_38 (own_iaddk 3 X0 q d17_39 (by decide) (own_is X0 q d17_40 (l' := #[.val (.ref a1), .val v'0, .val v'4, .val (.int p4), .val v'3, .val v'3, .val v'2, .val (.int x2)]) rfl (own_gt X0 q d17_42 (own_gt X0 q d17_63 (own_il X0 q d17_8 rfl (own_il X0 q d17_10 rfl (own_cn X0 q d17_12 ((flt (Int32.lt_irrefl : ¬ ((3 : Int32) < (3 : Int32)))).2.2.1) (own_il X0 q d17_15 rfl (own_il X0 q d17_17 rfl ?_)))))))))))
   refine own_iaddk 6 X0 q d17_19 (by decide) (own_k X0 q d17_20 (own_stp 22 (fun _ k => XS.iushr X0.here hx rfl (q.d d17_21) rfl k) ?_))
   rw [show (((6 : Int32).toUInt32 >>> ((1 : Int32) &&& 31).toUInt32).toInt32) = (3 : Int32) from by decide]
   refine own_is X0 q d17_22 (l' := #[.val (.ref a1), .val v'0, .val v'4, .val (.int p4), .val v'3, .val v'3, .val v'3, .val (.int x2)]) rfl (own_aln X0 q d17_24 rfl rfl (own_il X0 q d17_25 rfl (own_ild (v := (.int x3)) X0 q hZ e0 VA d17_27 (by decide) rfl (own_is X0 q d17_28 (l' := #[.val (.ref a1), .val v'0, .val v'4, .val (.int p4), .val v'3, .val v'3, .val v'3, .val (.int x3)]) rfl (own_il X0 q d17_30 rfl (own_iln X0 q d17_32 rfl ?_))))))
   by_cases hc33_932 : x3 < p4
   ·refine own_cn X0 q d17_33 ((tlt hc33_932).2.1) (own_il X0 q d17_36 rfl (own_k X0 q d17_38 (own_iaddk 4 X0 q d17_39 (by decide) (own_is X0 q d17_40 (l' := #[.val (.ref a1), .val v'0, .val v'4, .val (.int p4), .val v'4, .val v'3, .val v'3, .val (.int x3)]) rfl (own_gt X0 q d17_42 (own_gt X0 q d17_63 (own_il X0 q d17_8 rfl (own_il X0 q d17_10 rfl (own_cy X0 q d17_12 ((tlt ((by decide) : (3 : Int32) < (4 : Int32))).2.2.1) (own_il X0 q d17_66 rfl (own_k X0 q d17_68 ?_)))))))))))
    refine own_iaddk 5 X0 q d17_69 (by decide) (own_stp 71 (fun _ k => XS.ineg X0.here hx rfl (q.d d17_70) rfl k) ?_)
    refine own_rI X0 q hrt d17_71 hlk (by decide) ?_
    simp only [Int32.lt_iff_toInt_lt] at hc33_930 hc33_931 hc33_932
    show QBS4 x0 x1 x2 x3 p4 h0 n0 _ s₁.heap _
    rw [e0]
    exact ⟨_, rfl, N0, rfl, (Or.inr (Or.inr (Or.inr (Or.inr (Or.inr (Or.inr (Or.inr (Or.inr ⟨rfl, by omega⟩))))))))⟩
   ·refine own_cy X0 q d17_33 ((flt hc33_932).2.1) (own_il X0 q d17_45 rfl (own_iln X0 q d17_47 rfl ?_))
    by_cases hc48_933 : p4 < x3
    ·refine own_cn X0 q d17_48 ((tlt hc48_933).2.2.2) (own_il X0 q d17_51 rfl (own_k X0 q d17_53 (own_isubk 2 X0 q d17_54 (by decide) (own_is X0 q d17_55 (l' := #[.val (.ref a1), .val v'0, .val v'4, .val (.int p4), .val v'3, .val v'2, .val v'3, .val (.int x3)]) rfl (own_gt X0 q d17_57 (own_gt X0 q d17_63 (own_il X0 q d17_8 rfl (own_il X0 q d17_10 rfl (own_cy X0 q d17_12 ((tlt ((by decide) : (2 : Int32) < (3 : Int32))).2.2.1) (own_il X0 q d17_66 rfl (own_k X0 q d17_68 ?_)))))))))))
     refine own_iaddk 4 X0 q d17_69 (by decide) (own_stp 71 (fun _ k => XS.ineg X0.here hx rfl (q.d d17_70) rfl k) ?_)
     refine own_rI X0 q hrt d17_71 hlk (by decide) ?_
     simp only [Int32.lt_iff_toInt_lt] at hc33_930 hc33_931 hc33_932 hc48_933
     show QBS4 x0 x1 x2 x3 p4 h0 n0 _ s₁.heap _
     rw [e0]
     exact ⟨_, rfl, N0, rfl, (Or.inr (Or.inr (Or.inr (Or.inr (Or.inr (Or.inr (Or.inr (Or.inl ⟨rfl, by omega⟩))))))))⟩
    ·refine own_cy X0 q d17_48 ((flt hc48_933).2.2.2) (own_il X0 q d17_60 rfl ?_)
     refine own_rI X0 q hrt d17_62 hlk (by decide) ?_
     simp only [Int32.lt_iff_toInt_lt] at hc33_930 hc33_931 hc33_932 hc48_933
     show QBS4 x0 x1 x2 x3 p4 h0 n0 _ s₁.heap _
     rw [e0]
     exact ⟨_, rfl, N0, rfl, (Or.inr (Or.inr (Or.inr (Or.inl ⟨rfl, by omega⟩))))⟩
  ·refine own_cy X0 q d17_33 ((flt hc33_931).2.1) (own_il X0 q d17_45 rfl (own_iln X0 q d17_47 rfl ?_))
   by_cases hc48_934 : p4 < x2
   ·refine own_cn X0 q d17_48 ((tlt hc48_934).2.2.2) (own_il X0 q d17_51 rfl (own_k X0 q d17_53 (own_isubk 1 X0 q d17_54 (by decide) (own_is X0 q d17_55 (l' := #[.val (.ref a1), .val v'0, .val v'4, .val (.int p4), .val v'2, .val v'1, .val v'2, .val (.int x2)]) rfl (own_gt X0 q d17_57 (own_gt X0 q d17_63 (own_il X0 q d17_8 rfl (own_il X0 q d17_10 rfl (own_cy X0 q d17_12 ((tlt ((by decide) : (1 : Int32) < (2 : Int32))).2.2.1) (own_il X0 q d17_66 rfl (own_k X0 q d17_68 ?_)))))))))))
    refine own_iaddk 3 X0 q d17_69 (by decide) (own_stp 71 (fun _ k => XS.ineg X0.here hx rfl (q.d d17_70) rfl k) ?_)
    refine own_rI X0 q hrt d17_71 hlk (by decide) ?_
    simp only [Int32.lt_iff_toInt_lt] at hc33_930 hc33_931 hc48_934
    show QBS4 x0 x1 x2 x3 p4 h0 n0 _ s₁.heap _
    rw [e0]
    exact ⟨_, rfl, N0, rfl, (Or.inr (Or.inr (Or.inr (Or.inr (Or.inr (Or.inr (Or.inl ⟨rfl, by omega⟩)))))))⟩
   ·refine own_cy X0 q d17_48 ((flt hc48_934).2.2.2) (own_il X0 q d17_60 rfl ?_)
    refine own_rI X0 q hrt d17_62 hlk (by decide) ?_
    simp only [Int32.lt_iff_toInt_lt] at hc33_930 hc33_931 hc48_934
    show QBS4 x0 x1 x2 x3 p4 h0 n0 _ s₁.heap _
    rw [e0]
    exact ⟨_, rfl, N0, rfl, (Or.inr (Or.inr (Or.inl ⟨rfl, by omega⟩)))⟩
 ·refine own_cy X0 q d17_33 ((flt hc33_930).2.1) (own_il X0 q d17_45 rfl (own_iln X0 q d17_47 rfl ?_))
  by_cases hc48_935 : p4 < x1
  ·refine own_cn X0 q d17_48 ((tlt hc48_935).2.2.2) (own_il X0 q d17_51 rfl (own_k X0 q d17_53 (own_isubk 0 X0 q d17_54 (by decide) (own_is X0 q d17_55 (l' := #[.val (.ref a1), .val v'0, .val v'4, .val (.int p4), .val v'0, .val v'0, .val v'1, .val (.int x1)]) rfl (own_gt X0 q d17_57 (own_gt X0 q d17_63 (own_il X0 q d17_8 rfl (own_il X0 q d17_10 rfl (own_cn X0 q d17_12 ((flt (Int32.lt_irrefl : ¬ ((0 : Int32) < (0 : Int32)))).2.2.1) (own_il X0 q d17_15 rfl (own_il X0 q d17_17 rfl ?_)))))))))))
   refine own_iaddk 0 X0 q d17_19 (by decide) (own_k X0 q d17_20 (own_stp 22 (fun _ k => XS.iushr X0.here hx rfl (q.d d17_21) rfl k) ?_))
   rw [show (((0 : Int32).toUInt32 >>> ((1 : Int32) &&& 31).toUInt32).toInt32) = (0 : Int32) from by decide]
   refine own_is X0 q d17_22 (l' := #[.val (.ref a1), .val v'0, .val v'4, .val (.int p4), .val v'0, .val v'0, .val v'0, .val (.int x1)]) rfl (own_aln X0 q d17_24 rfl rfl (own_il X0 q d17_25 rfl (own_ild (v := (.int x0)) X0 q hZ e0 VA d17_27 (by decide) rfl (own_is X0 q d17_28 (l' := #[.val (.ref a1), .val v'0, .val v'4, .val (.int p4), .val v'0, .val v'0, .val v'0, .val (.int x0)]) rfl (own_il X0 q d17_30 rfl (own_iln X0 q d17_32 rfl ?_))))))
   by_cases hc33_936 : x0 < p4
   ·refine own_cn X0 q d17_33 ((tlt hc33_936).2.1) (own_il X0 q d17_36 rfl (own_k X0 q d17_38 (own_iaddk 1 X0 q d17_39 (by decide) (own_is X0 q d17_40 (l' := #[.val (.ref a1), .val v'0, .val v'4, .val (.int p4), .val v'1, .val v'0, .val v'0, .val (.int x0)]) rfl (own_gt X0 q d17_42 (own_gt X0 q d17_63 (own_il X0 q d17_8 rfl (own_il X0 q d17_10 rfl (own_cy X0 q d17_12 ((tlt ((by decide) : (0 : Int32) < (1 : Int32))).2.2.1) (own_il X0 q d17_66 rfl (own_k X0 q d17_68 ?_)))))))))))
    refine own_iaddk 2 X0 q d17_69 (by decide) (own_stp 71 (fun _ k => XS.ineg X0.here hx rfl (q.d d17_70) rfl k) ?_)
    refine own_rI X0 q hrt d17_71 hlk (by decide) ?_
    simp only [Int32.lt_iff_toInt_lt] at hc33_930 hc48_935 hc33_936
    show QBS4 x0 x1 x2 x3 p4 h0 n0 _ s₁.heap _
    rw [e0]
    exact ⟨_, rfl, N0, rfl, (Or.inr (Or.inr (Or.inr (Or.inr (Or.inr (Or.inl ⟨rfl, by omega⟩))))))⟩
   ·refine own_cy X0 q d17_33 ((flt hc33_936).2.1) (own_il X0 q d17_45 rfl (own_iln X0 q d17_47 rfl ?_))
    by_cases hc48_937 : p4 < x0
    ·refine own_cn X0 q d17_48 ((tlt hc48_937).2.2.2) (own_il X0 q d17_51 rfl (own_k X0 q d17_53 (own_isubk (-1) X0 q d17_54 (by decide) (own_is X0 q d17_55 (l' := #[.val (.ref a1), .val v'0, .val v'4, .val (.int p4), .val v'0, .val (.int (-1 : Int32)), .val v'0, .val (.int x0)]) rfl (own_gt X0 q d17_57 (own_gt X0 q d17_63 (own_il X0 q d17_8 rfl (own_il X0 q d17_10 rfl (own_cy X0 q d17_12 ((tlt ((by decide) : (-1 : Int32) < (0 : Int32))).2.2.1) (own_il X0 q d17_66 rfl (own_k X0 q d17_68 ?_)))))))))))
     refine own_iaddk 1 X0 q d17_69 (by decide) (own_stp 71 (fun _ k => XS.ineg X0.here hx rfl (q.d d17_70) rfl k) ?_)
     refine own_rI X0 q hrt d17_71 hlk (by decide) ?_
     simp only [Int32.lt_iff_toInt_lt] at hc33_930 hc48_935 hc33_936 hc48_937
     show QBS4 x0 x1 x2 x3 p4 h0 n0 _ s₁.heap _
     rw [e0]
     exact ⟨_, rfl, N0, rfl, (Or.inr (Or.inr (Or.inr (Or.inr (Or.inl ⟨rfl, by omega⟩)))))⟩
    ·refine own_cy X0 q d17_48 ((flt hc48_937).2.2.2) (own_il X0 q d17_60 rfl ?_)
     refine own_rI X0 q hrt d17_62 hlk (by decide) ?_
     simp only [Int32.lt_iff_toInt_lt] at hc33_930 hc48_935 hc33_936 hc48_937
     show QBS4 x0 x1 x2 x3 p4 h0 n0 _ s₁.heap _
     rw [e0]
     exact ⟨_, rfl, N0, rfl, (Or.inl ⟨rfl, by omega⟩)⟩
  ·refine own_cy X0 q d17_48 ((flt hc48_935).2.2.2) (own_il X0 q d17_60 rfl ?_)
   refine own_rI X0 q hrt d17_62 hlk (by decide) ?_
   simp only [Int32.lt_iff_toInt_lt] at hc33_930 hc48_935
   show QBS4 x0 x1 x2 x3 p4 h0 n0 _ s₁.heap _
   rw [e0]
   exact ⟨_, rfl, N0, rfl, (Or.inr (Or.inl ⟨rfl, by omega⟩))⟩
theorem rm16_4 (l : Launch) (Z : State) (a0 : Array Value) (hw : own_hw a0 Z) (a1 : Addr) (p2 : Int32) (k1 : ClassId) (x0 x1 x2 x3 : Int32) (h0 : Heap) (n0 : Nat) (Z0 : n0 ≤ h0.size) (VA : Arv Z h0 a1 k1 .int (4 : Int32) [(.int x0), (.int x1), (.int x2), (.int x3)] v'0) :
  own_M l Z [] own_y12 b'16 2 (some .int) ⟨1, 0, 0, 19⟩ #[(.ref a1), (.int p2)] h0 (QBS4 x0 x1 x2 x3 p2 h0 n0) := by
 refine own_start (n0 := n0) hw "java/util/Arrays" (L := #[.val (.ref a1), .val (.int p2)]) pn_16 (fun {p e s m below meth c s₁} q hx W hml hZ hown hnm hlk hrt X0 e0 N0 => ?_)
 refine own_aln X0 q d16_0 rfl rfl (own_k X0 q d16_1 (own_aln X0 q d16_2 rfl rfl (own_alen (n := (4 : Int32)) X0 q hZ e0 VA d16_3 (own_iln X0 q d16_4 rfl ?_))))
 refine own_cS X0 q hZ e0 hown hml (W 85 rfl) (W 86 rfl) (W 33 rfl) (W 87 rfl) (rm17_4 l Z a0 hw a1 p2 k1 x0 x1 x2 x3 h0 n0 Z0 VA) d16_5 [(.ref a1), v'0, v'4, (.int p2)] [] own_pd5 rfl rfl 0 (Nat.le_refl _) (by decide) (fun v939 T939 L939 X939 hQ939 => ?_)
 obtain ⟨z939, rfl, N939q, e939, bs939⟩ := hQ939
 have N939 := Fr.app N0 N939q
 refine own_nv ?_
 refine own_rI X939 q hrt d16_8 hlk (by decide) ?_
 show QBS4 x0 x1 x2 x3 p2 h0 n0 _ T939.heap _
 rw [e939]
 exact ⟨_, rfl, N939, rfl, bs939⟩
theorem d14_0 : own_D b'14 0 (.iload_n 1) 1 1 := by decide +kernel
theorem d14_1 : own_DZ b'14 1 .lt 38 4 := by decide +kernel
theorem d14_4 : own_D b'14 4 (.iload_n 1) 1 5 := by decide +kernel
theorem d14_5 : own_DK b'14 5 128 8 := by decide +kernel
theorem d14_8 : own_DJ b'14 8 .ge 38 11 := by decide +kernel
theorem d14_11 : own_D b'14 11 (.aload_n 0) 1 12 := by decide +kernel
theorem d14_12 : own_D b'14 12 (.getfield 9) 3 15 := by decide +kernel
theorem d14_15 : own_D b'14 15 (.iload_n 1) 1 16 := by decide +kernel
theorem d14_16 : own_DK b'14 16 6 18 := by decide +kernel
theorem d14_18 : own_D b'14 18 .iushr 1 19 := by decide +kernel
theorem d14_19 : own_D b'14 19 .laload 1 20 := by decide +kernel
theorem d14_20 : own_D b'14 20 (.lconst 1) 1 21 := by decide +kernel
theorem d14_21 : own_D b'14 21 (.iload_n 1) 1 22 := by decide +kernel
theorem d14_22 : own_D b'14 22 .lshl 1 23 := by decide +kernel
theorem d14_23 : own_D b'14 23 .land 1 24 := by decide +kernel
theorem d14_24 : own_D b'14 24 (.lconst 0) 1 25 := by decide +kernel
theorem d14_25 : own_D b'14 25 .lcmp 1 26 := by decide +kernel
theorem d14_26 : own_DZ b'14 26 .eq 33 29 := by decide +kernel
theorem d14_29 : own_DK b'14 29 1 30 := by decide +kernel
theorem d14_30 : own_DG b'14 30 34 := by decide +kernel
theorem d14_33 : own_DK b'14 33 0 34 := by decide +kernel
theorem d14_34 : own_D b'14 34 (.istore_n 2) 1 35 := by decide +kernel
theorem d14_35 : own_DG b'14 35 67 := by decide +kernel
theorem d14_38 : own_D b'14 38 (.aload_n 0) 1 39 := by decide +kernel
theorem d14_39 : own_D b'14 39 (.getfield 15) 3 42 := by decide +kernel
theorem d14_42 : own_D b'14 42 (.iload_n 1) 1 43 := by decide +kernel
theorem d14_43 : own_D b'14 43 (.invokestatic 28) 3 46 := by decide +kernel
theorem d14_46 : own_D b'14 46 (.istore_n 3) 1 47 := by decide +kernel
theorem d14_47 : own_D b'14 47 (.iload_n 3) 1 48 := by decide +kernel
theorem d14_48 : own_DZ b'14 48 .ge 61 51 := by decide +kernel
theorem d14_51 : own_D b'14 51 (.iload_n 3) 1 52 := by decide +kernel
theorem d14_52 : own_D b'14 52 .ineg 1 53 := by decide +kernel
theorem d14_53 : own_DK b'14 53 1 54 := by decide +kernel
theorem d14_54 : own_D b'14 54 .isub 1 55 := by decide +kernel
theorem d14_55 : own_DK b'14 55 2 56 := by decide +kernel
theorem d14_56 : own_D b'14 56 .irem 1 57 := by decide +kernel
theorem d14_57 : own_DK b'14 57 1 58 := by decide +kernel
theorem d14_58 : own_DJ b'14 58 .ne 65 61 := by decide +kernel
theorem d14_61 : own_DK b'14 61 1 62 := by decide +kernel
theorem d14_62 : own_DG b'14 62 66 := by decide +kernel
theorem d14_65 : own_DK b'14 65 0 66 := by decide +kernel
theorem d14_66 : own_D b'14 66 (.istore_n 2) 1 67 := by decide +kernel
theorem d14_67 : own_D b'14 67 (.iload_n 2) 1 68 := by decide +kernel
theorem d14_68 : own_D b'14 68 .ireturn 1 69 := by decide +kernel
theorem pn_14 : plainFor (⟨"com/example/austere_json/austerejson/CodePointSet", "contains", "(I)Z"⟩ : MethodName) = true := plainFor_of_name (by first | (simp [plainName, overriddenIn]; done) | decide +kernel)
theorem rm14_2 (l : Launch) (Z : State) (a0 : Array Value) (hw : own_hw a0 Z) (a1 : Addr) (p2 : Int32) (r b : Addr) (k1 k2 : ClassId) (x0 x1 : Int32) (w0 w1 : Int64) (h0 : Heap) (n0 : Nat) (Z0 : n0 ≤ h0.size) (FR : F'3 Z h0 a1 (.ref r)) (FA : F'2 Z h0 a1 (.ref b)) (VR : Arv Z h0 r k1 .int (2 : Int32) [(.int x0), (.int x1)] v'0) (VB : Arv Z h0 b k2 .long (2 : Int32) [(.long w0), (.long w1)] (.long (0 : Int64))) (hbt : ∀ q : Int32, 0 ≤ q.toInt → q.toInt < 128 → (own_tst w0 w1 q ↔ own_in x0 x1 q)) (hok0 : own_ok x0 x1) :
  own_M l Z [] own_y13 b'14 4 (some .boolean) ⟨2, 0, 0, 32⟩ #[(.ref a1), (.int p2)] h0 (QM (own_in x0 x1 p2) h0 n0) := by
 refine own_start (n0 := n0) hw "com/example/austere_json/austerejson/CodePointSet" (L := #[.val (.ref a1), .val (.int p2), .unset, .unset]) pn_14 (fun {p e s m below meth c s₁} q hx W hml hZ hown hnm hlk hrt X0 e0 N0 => ?_)
 have hby := q.2
 refine own_iln X0 q d14_0 rfl ?_
 by_cases hc1_951 : p2 < (0 : Int32)
 ·refine own_zy X0 q d14_1 (((if0 _ _).trans (tlt hc1_951).1)) (own_aln X0 q d14_38 rfl rfl ?_)
  refine own_gF X0 q hZ e0 hown (W 69 rfl) FR d14_39 fun T952 X952 e952 => ?_
  refine own_iln X952 q d14_42 rfl ?_
  refine own_cS X952 q hZ e952 hown hml (W 82 rfl) (W 83 rfl) (W 33 rfl) (W 84 rfl) (rm16_2 l Z a0 hw r p2 k1 x0 x1 h0 n0 Z0 VR) d14_43 [(.ref r), (.int p2)] [] own_pd6 rfl rfl 0 (Nat.le_refl _) (by decide) (fun v953 T953 L953 X953 hQ953 => ?_)
  obtain ⟨z953, rfl, N953q, e953, bs953⟩ := hQ953
  have N953 := Fr.app N0 N953q
  refine own_nv ?_
  rcases bs953 with ⟨hz, hq⟩ | ⟨hz, hq⟩ | ⟨hz, hq⟩ | ⟨hz, hq⟩ | ⟨hz, hq⟩
  ·subst hz
   show own_Fin _ _ _ _ (T953.setTop (mkF m 46 #[.val (.ref a1), .val (.int p2), .unset, .unset] [v'0]))
   refine own_isn X953 q d14_46 (l' := #[.val (.ref a1), .val (.int p2), .unset, .val v'0]) rfl (own_iln X953 q d14_47 rfl (own_zy X953 q d14_48 (((if0 _ _).trans (flt (Int32.lt_irrefl : ¬ ((0 : Int32) < (0 : Int32)))).2.1)) (own_k X953 q d14_61 (own_gt X953 q d14_62 (own_isn X953 q d14_66 (l' := #[.val (.ref a1), .val (.int p2), .val v'1, .val v'0]) rfl (own_iln X953 q d14_67 rfl ?_))))))
   refine own_rN X953 q hrt (by simp) d14_68 hlk (by decide) ?_
   show QM (own_in x0 x1 p2) h0 n0 _ T953.heap _
   rw [e953]
   exact ⟨_, rfl, N953, rfl, Or.inl ⟨rfl, by unfold own_in; unfold own_ok at hok0; omega⟩⟩
  ·subst hz
   show own_Fin _ _ _ _ (T953.setTop (mkF m 46 #[.val (.ref a1), .val (.int p2), .unset, .unset] [v'1]))
   refine own_isn X953 q d14_46 (l' := #[.val (.ref a1), .val (.int p2), .unset, .val v'1]) rfl (own_iln X953 q d14_47 rfl (own_zy X953 q d14_48 (((if0 _ _).trans (flt ((by decide) : ¬ ((1 : Int32) < (0 : Int32)))).2.1)) (own_k X953 q d14_61 (own_gt X953 q d14_62 (own_isn X953 q d14_66 (l' := #[.val (.ref a1), .val (.int p2), .val v'1, .val v'1]) rfl (own_iln X953 q d14_67 rfl ?_))))))
   refine own_rN X953 q hrt (by simp) d14_68 hlk (by decide) ?_
   show QM (own_in x0 x1 p2) h0 n0 _ T953.heap _
   rw [e953]
   exact ⟨_, rfl, N953, rfl, Or.inl ⟨rfl, by unfold own_in; unfold own_ok at hok0; omega⟩⟩
  ·subst hz
   show own_Fin _ _ _ _ (T953.setTop (mkF m 46 #[.val (.ref a1), .val (.int p2), .unset, .unset] [(.int (-1 : Int32))]))
   refine own_isn X953 q d14_46 (l' := #[.val (.ref a1), .val (.int p2), .unset, .val (.int (-1 : Int32))]) rfl (own_iln X953 q d14_47 rfl (own_zn X953 q d14_48 (((if0 _ _).trans (tlt ((by decide) : (-1 : Int32) < (0 : Int32))).2.1)) (own_iln X953 q d14_51 rfl (own_stp 53 (fun _ k => XS.ineg X953.here hx rfl (q.d d14_52) rfl k) ?_))))
   rw [show (-(-1 : Int32)) = (1 : Int32) from by decide]
   refine own_k X953 q d14_53 (own_isubk 0 X953 q d14_54 (by decide) (own_k X953 q d14_55 (own_stp 57 (fun _ k => iremM X953 hx rfl (q.d d14_56) rfl (by decide) k) ?_)))
   rw [show ((0 : Int32) % (2 : Int32)) = (0 : Int32) from by decide]
   refine own_k X953 q d14_57 (own_cy X953 q d14_58 ((feq ((by decide) : ¬ ((0 : Int32) = (1 : Int32)))).2) (own_k X953 q d14_65 (own_isn X953 q d14_66 (l' := #[.val (.ref a1), .val (.int p2), .val v'0, .val (.int (-1 : Int32))]) rfl (own_iln X953 q d14_67 rfl ?_))))
   refine own_rN X953 q hrt (by simp) d14_68 hlk (by decide) ?_
   show QM (own_in x0 x1 p2) h0 n0 _ T953.heap _
   rw [e953]
   exact ⟨_, rfl, N953, rfl, Or.inr ⟨rfl, by unfold own_in; unfold own_ok at hok0; omega⟩⟩
  ·subst hz
   show own_Fin _ _ _ _ (T953.setTop (mkF m 46 #[.val (.ref a1), .val (.int p2), .unset, .unset] [(.int (-2 : Int32))]))
   refine own_isn X953 q d14_46 (l' := #[.val (.ref a1), .val (.int p2), .unset, .val (.int (-2 : Int32))]) rfl (own_iln X953 q d14_47 rfl (own_zn X953 q d14_48 (((if0 _ _).trans (tlt ((by decide) : (-2 : Int32) < (0 : Int32))).2.1)) (own_iln X953 q d14_51 rfl (own_stp 53 (fun _ k => XS.ineg X953.here hx rfl (q.d d14_52) rfl k) ?_))))
   rw [show (-(-2 : Int32)) = (2 : Int32) from by decide]
   refine own_k X953 q d14_53 (own_isubk 1 X953 q d14_54 (by decide) (own_k X953 q d14_55 (own_stp 57 (fun _ k => iremM X953 hx rfl (q.d d14_56) rfl (by decide) k) ?_)))
   rw [show ((1 : Int32) % (2 : Int32)) = (1 : Int32) from by decide]
   refine own_k X953 q d14_57 (own_cn X953 q d14_58 ((teq (rfl : (1 : Int32) = (1 : Int32))).2) (own_k X953 q d14_61 (own_gt X953 q d14_62 (own_isn X953 q d14_66 (l' := #[.val (.ref a1), .val (.int p2), .val v'1, .val (.int (-2 : Int32))]) rfl (own_iln X953 q d14_67 rfl ?_)))))
   refine own_rN X953 q hrt (by simp) d14_68 hlk (by decide) ?_
   show QM (own_in x0 x1 p2) h0 n0 _ T953.heap _
   rw [e953]
   exact ⟨_, rfl, N953, rfl, Or.inl ⟨rfl, by unfold own_in; unfold own_ok at hok0; omega⟩⟩
  ·subst hz
   show own_Fin _ _ _ _ (T953.setTop (mkF m 46 #[.val (.ref a1), .val (.int p2), .unset, .unset] [(.int (-3 : Int32))]))
   refine own_isn X953 q d14_46 (l' := #[.val (.ref a1), .val (.int p2), .unset, .val (.int (-3 : Int32))]) rfl (own_iln X953 q d14_47 rfl (own_zn X953 q d14_48 (((if0 _ _).trans (tlt ((by decide) : (-3 : Int32) < (0 : Int32))).2.1)) (own_iln X953 q d14_51 rfl (own_stp 53 (fun _ k => XS.ineg X953.here hx rfl (q.d d14_52) rfl k) ?_))))
   rw [show (-(-3 : Int32)) = (3 : Int32) from by decide]
   refine own_k X953 q d14_53 (own_isubk 2 X953 q d14_54 (by decide) (own_k X953 q d14_55 (own_stp 57 (fun _ k => iremM X953 hx rfl (q.d d14_56) rfl (by decide) k) ?_)))
   rw [show ((2 : Int32) % (2 : Int32)) = (0 : Int32) from by decide]
   refine own_k X953 q d14_57 (own_cy X953 q d14_58 ((feq ((by decide) : ¬ ((0 : Int32) = (1 : Int32)))).2) (own_k X953 q d14_65 (own_isn X953 q d14_66 (l' := #[.val (.ref a1), .val (.int p2), .val v'0, .val (.int (-3 : Int32))]) rfl (own_iln X953 q d14_67 rfl ?_))))
   refine own_rN X953 q hrt (by simp) d14_68 hlk (by decide) ?_
   show QM (own_in x0 x1 p2) h0 n0 _ T953.heap _
   rw [e953]
   exact ⟨_, rfl, N953, rfl, Or.inr ⟨rfl, by unfold own_in; unfold own_ok at hok0; omega⟩⟩
 ·refine own_zn X0 q d14_1 (((if0 _ _).trans (flt hc1_951).1)) (own_iln X0 q d14_4 rfl (own_k X0 q d14_5 ?_))
  by_cases hc8_954 : p2 < (128 : Int32)
  ·refine own_cn X0 q d14_8 ((tlt hc8_954).2.1) (own_aln X0 q d14_11 rfl rfl ?_)
   refine own_gF X0 q hZ e0 hown (W 67 rfl) FA d14_12 fun T955 X955 e955 => ?_
   refine own_iln X955 q d14_15 rfl (own_k X955 q d14_16 (own_stp 19 (fun _ k => XS.iushr X955.here hx rfl (q.d d14_18) rfl k) ?_))
   have q0 : 0 ≤ p2.toInt := by have r := hc1_951; rw [Int32.lt_iff_toInt_lt, own_t0] at r; omega
   have q1 : p2.toInt < 128 := by have r := hc8_954; rw [Int32.lt_iff_toInt_lt, own_t128] at r; omega
   by_cases hj : p2.toInt < 64
   ·rw [own_ix0 q0 hj]
    show own_Fin _ _ _ _ (T955.setTop (mkF m 19 #[.val (.ref a1), .val (.int p2), .unset, .unset] [v'0, (.ref b)]))
    obtain ⟨cl956, Ar956, q956, S956, M956, H956, G956⟩ := id VB
    refine own_stp 20 (fun _ k => X955.laload hx (j := (0 : Int32)) (v := (.long w0)) (by rw [e955]; exact Ar956.1) (State.isArrayOf_alike hZ.alike Ar956.2.1) Ar956.2.2 (inb_of S956 ⟨by decide, by decide⟩) (Has.at H956 (inb_of S956 ⟨by decide, by decide⟩) rfl) (g := mkF m 19 _ _) rfl rfl (q.d d14_19) _ k) (own_lk X955 q d14_20 (z := (1 : Int64)) rfl (own_iln X955 q d14_21 rfl (own_stp 23 (fun _ k => XS.lshl X955.here hx rfl (q.d d14_22) rfl k) (own_stp 24 (fun _ k => XS.land X955.here hx rfl (q.d d14_23) rfl k) (own_lk X955 q d14_24 (z := (0 : Int64)) rfl (own_stq 26 [(.int (lcmpW (w0 &&& ((1 : Int64) <<< (p2 &&& 0x3f).toInt64)) (0 : Int64)))] (fun _ k => XS.lcmp X955.here hx rfl (q.d d14_25) rfl k) ?_))))))
    by_cases hc26_957 : (lcmpW (w0 &&& ((1 : Int64) <<< (p2 &&& 0x3f).toInt64)) (0 : Int64)) = (0 : Int32)
    ·refine own_zy X955 q d14_26 (((if0 _ _).trans (teq hc26_957).1)) (own_k X955 q d14_33 (own_isn X955 q d14_34 (l' := #[.val (.ref a1), .val (.int p2), .val v'0, .unset]) rfl (own_gt X955 q d14_35 (own_iln X955 q d14_67 rfl ?_))))
     refine own_rN X955 q hrt (by simp) d14_68 hlk (by decide) ?_
     show QM (own_in x0 x1 p2) h0 n0 _ T955.heap _
     rw [e955]
     exact ⟨_, rfl, N0, rfl, Or.inr ⟨rfl, fun r => (own_tstA hj).mp ((hbt p2 q0 q1).mpr r) ((lw_eq _ _).mp hc26_957)⟩⟩
    ·refine own_zn X955 q d14_26 (((if0 _ _).trans (feq hc26_957).1)) (own_k X955 q d14_29 (own_gt X955 q d14_30 (own_isn X955 q d14_34 (l' := #[.val (.ref a1), .val (.int p2), .val v'1, .unset]) rfl (own_gt X955 q d14_35 (own_iln X955 q d14_67 rfl ?_)))))
     refine own_rN X955 q hrt (by simp) d14_68 hlk (by decide) ?_
     show QM (own_in x0 x1 p2) h0 n0 _ T955.heap _
     rw [e955]
     exact ⟨_, rfl, N0, rfl, Or.inl ⟨rfl, (hbt p2 q0 q1).mp ((own_tstA hj).mpr (fun r => hc26_957 ((lw_eq _ _).mpr r)))⟩⟩
   ·rw [own_ix1 hj q1]
    show own_Fin _ _ _ _ (T955.setTop (mkF m 19 #[.val (.ref a1), .val (.int p2), .unset, .unset] [v'1, (.ref b)]))
    obtain ⟨cl958, Ar958, q958, S958, M958, H958, G958⟩ := id VB
    refine own_stp 20 (fun _ k => X955.laload hx (j := (1 : Int32)) (v := (.long w1)) (by rw [e955]; exact Ar958.1) (State.isArrayOf_alike hZ.alike Ar958.2.1) Ar958.2.2 (inb_of S958 ⟨by decide, by decide⟩) (Has.at H958 (inb_of S958 ⟨by decide, by decide⟩) rfl) (g := mkF m 19 _ _) rfl rfl (q.d d14_19) _ k) (own_lk X955 q d14_20 (z := (1 : Int64)) rfl (own_iln X955 q d14_21 rfl (own_stp 23 (fun _ k => XS.lshl X955.here hx rfl (q.d d14_22) rfl k) (own_stp 24 (fun _ k => XS.land X955.here hx rfl (q.d d14_23) rfl k) (own_lk X955 q d14_24 (z := (0 : Int64)) rfl (own_stq 26 [(.int (lcmpW (w1 &&& ((1 : Int64) <<< (p2 &&& 0x3f).toInt64)) (0 : Int64)))] (fun _ k => XS.lcmp X955.here hx rfl (q.d d14_25) rfl k) ?_))))))
    by_cases hc26_959 : (lcmpW (w1 &&& ((1 : Int64) <<< (p2 &&& 0x3f).toInt64)) (0 : Int64)) = (0 : Int32)
    ·refine own_zy X955 q d14_26 (((if0 _ _).trans (teq hc26_959).1)) (own_k X955 q d14_33 (own_isn X955 q d14_34 (l' := #[.val (.ref a1), .val (.int p2), .val v'0, .unset]) rfl (own_gt X955 q d14_35 (own_iln X955 q d14_67 rfl ?_))))
     refine own_rN X955 q hrt (by simp) d14_68 hlk (by decide) ?_
     show QM (own_in x0 x1 p2) h0 n0 _ T955.heap _
     rw [e955]
     exact ⟨_, rfl, N0, rfl, Or.inr ⟨rfl, fun r => (own_tstB hj).mp ((hbt p2 q0 q1).mpr r) ((lw_eq _ _).mp hc26_959)⟩⟩
    ·refine own_zn X955 q d14_26 (((if0 _ _).trans (feq hc26_959).1)) (own_k X955 q d14_29 (own_gt X955 q d14_30 (own_isn X955 q d14_34 (l' := #[.val (.ref a1), .val (.int p2), .val v'1, .unset]) rfl (own_gt X955 q d14_35 (own_iln X955 q d14_67 rfl ?_)))))
     refine own_rN X955 q hrt (by simp) d14_68 hlk (by decide) ?_
     show QM (own_in x0 x1 p2) h0 n0 _ T955.heap _
     rw [e955]
     exact ⟨_, rfl, N0, rfl, Or.inl ⟨rfl, (hbt p2 q0 q1).mp ((own_tstB hj).mpr (fun r => hc26_959 ((lw_eq _ _).mpr r)))⟩⟩
  ·refine own_cy X0 q d14_8 ((flt hc8_954).2.1) (own_aln X0 q d14_38 rfl rfl ?_)
   refine own_gF X0 q hZ e0 hown (W 69 rfl) FR d14_39 fun T960 X960 e960 => ?_
   refine own_iln X960 q d14_42 rfl ?_
   refine own_cS X960 q hZ e960 hown hml (W 82 rfl) (W 83 rfl) (W 33 rfl) (W 84 rfl) (rm16_2 l Z a0 hw r p2 k1 x0 x1 h0 n0 Z0 VR) d14_43 [(.ref r), (.int p2)] [] own_pd6 rfl rfl 0 (Nat.le_refl _) (by decide) (fun v961 T961 L961 X961 hQ961 => ?_)
   obtain ⟨z961, rfl, N961q, e961, bs961⟩ := hQ961
   have N961 := Fr.app N0 N961q
   refine own_nv ?_
   rcases bs961 with ⟨hz, hq⟩ | ⟨hz, hq⟩ | ⟨hz, hq⟩ | ⟨hz, hq⟩ | ⟨hz, hq⟩
   ·subst hz
    show own_Fin _ _ _ _ (T961.setTop (mkF m 46 #[.val (.ref a1), .val (.int p2), .unset, .unset] [v'0]))
    refine own_isn X961 q d14_46 (l' := #[.val (.ref a1), .val (.int p2), .unset, .val v'0]) rfl (own_iln X961 q d14_47 rfl (own_zy X961 q d14_48 (((if0 _ _).trans (flt (Int32.lt_irrefl : ¬ ((0 : Int32) < (0 : Int32)))).2.1)) (own_k X961 q d14_61 (own_gt X961 q d14_62 (own_isn X961 q d14_66 (l' := #[.val (.ref a1), .val (.int p2), .val v'1, .val v'0]) rfl (own_iln X961 q d14_67 rfl ?_))))))
    refine own_rN X961 q hrt (by simp) d14_68 hlk (by decide) ?_
    show QM (own_in x0 x1 p2) h0 n0 _ T961.heap _
    rw [e961]
    exact ⟨_, rfl, N961, rfl, Or.inl ⟨rfl, by unfold own_in; unfold own_ok at hok0; omega⟩⟩
   ·subst hz
    show own_Fin _ _ _ _ (T961.setTop (mkF m 46 #[.val (.ref a1), .val (.int p2), .unset, .unset] [v'1]))
    refine own_isn X961 q d14_46 (l' := #[.val (.ref a1), .val (.int p2), .unset, .val v'1]) rfl (own_iln X961 q d14_47 rfl (own_zy X961 q d14_48 (((if0 _ _).trans (flt ((by decide) : ¬ ((1 : Int32) < (0 : Int32)))).2.1)) (own_k X961 q d14_61 (own_gt X961 q d14_62 (own_isn X961 q d14_66 (l' := #[.val (.ref a1), .val (.int p2), .val v'1, .val v'1]) rfl (own_iln X961 q d14_67 rfl ?_))))))
    refine own_rN X961 q hrt (by simp) d14_68 hlk (by decide) ?_
    show QM (own_in x0 x1 p2) h0 n0 _ T961.heap _
    rw [e961]
    exact ⟨_, rfl, N961, rfl, Or.inl ⟨rfl, by unfold own_in; unfold own_ok at hok0; omega⟩⟩
   ·subst hz
    show own_Fin _ _ _ _ (T961.setTop (mkF m 46 #[.val (.ref a1), .val (.int p2), .unset, .unset] [(.int (-1 : Int32))]))
    refine own_isn X961 q d14_46 (l' := #[.val (.ref a1), .val (.int p2), .unset, .val (.int (-1 : Int32))]) rfl (own_iln X961 q d14_47 rfl (own_zn X961 q d14_48 (((if0 _ _).trans (tlt ((by decide) : (-1 : Int32) < (0 : Int32))).2.1)) (own_iln X961 q d14_51 rfl (own_stp 53 (fun _ k => XS.ineg X961.here hx rfl (q.d d14_52) rfl k) ?_))))
    rw [show (-(-1 : Int32)) = (1 : Int32) from by decide]
    refine own_k X961 q d14_53 (own_isubk 0 X961 q d14_54 (by decide) (own_k X961 q d14_55 (own_stp 57 (fun _ k => iremM X961 hx rfl (q.d d14_56) rfl (by decide) k) ?_)))
    rw [show ((0 : Int32) % (2 : Int32)) = (0 : Int32) from by decide]
    refine own_k X961 q d14_57 (own_cy X961 q d14_58 ((feq ((by decide) : ¬ ((0 : Int32) = (1 : Int32)))).2) (own_k X961 q d14_65 (own_isn X961 q d14_66 (l' := #[.val (.ref a1), .val (.int p2), .val v'0, .val (.int (-1 : Int32))]) rfl (own_iln X961 q d14_67 rfl ?_))))
    refine own_rN X961 q hrt (by simp) d14_68 hlk (by decide) ?_
    show QM (own_in x0 x1 p2) h0 n0 _ T961.heap _
    rw [e961]
    exact ⟨_, rfl, N961, rfl, Or.inr ⟨rfl, by unfold own_in; unfold own_ok at hok0; omega⟩⟩
   ·subst hz
    show own_Fin _ _ _ _ (T961.setTop (mkF m 46 #[.val (.ref a1), .val (.int p2), .unset, .unset] [(.int (-2 : Int32))]))
    refine own_isn X961 q d14_46 (l' := #[.val (.ref a1), .val (.int p2), .unset, .val (.int (-2 : Int32))]) rfl (own_iln X961 q d14_47 rfl (own_zn X961 q d14_48 (((if0 _ _).trans (tlt ((by decide) : (-2 : Int32) < (0 : Int32))).2.1)) (own_iln X961 q d14_51 rfl (own_stp 53 (fun _ k => XS.ineg X961.here hx rfl (q.d d14_52) rfl k) ?_))))
    rw [show (-(-2 : Int32)) = (2 : Int32) from by decide]
    refine own_k X961 q d14_53 (own_isubk 1 X961 q d14_54 (by decide) (own_k X961 q d14_55 (own_stp 57 (fun _ k => iremM X961 hx rfl (q.d d14_56) rfl (by decide) k) ?_)))
    rw [show ((1 : Int32) % (2 : Int32)) = (1 : Int32) from by decide]
    refine own_k X961 q d14_57 (own_cn X961 q d14_58 ((teq (rfl : (1 : Int32) = (1 : Int32))).2) (own_k X961 q d14_61 (own_gt X961 q d14_62 (own_isn X961 q d14_66 (l' := #[.val (.ref a1), .val (.int p2), .val v'1, .val (.int (-2 : Int32))]) rfl (own_iln X961 q d14_67 rfl ?_)))))
    refine own_rN X961 q hrt (by simp) d14_68 hlk (by decide) ?_
    show QM (own_in x0 x1 p2) h0 n0 _ T961.heap _
    rw [e961]
    exact ⟨_, rfl, N961, rfl, Or.inl ⟨rfl, by unfold own_in; unfold own_ok at hok0; omega⟩⟩
   ·subst hz
    show own_Fin _ _ _ _ (T961.setTop (mkF m 46 #[.val (.ref a1), .val (.int p2), .unset, .unset] [(.int (-3 : Int32))]))
    refine own_isn X961 q d14_46 (l' := #[.val (.ref a1), .val (.int p2), .unset, .val (.int (-3 : Int32))]) rfl (own_iln X961 q d14_47 rfl (own_zn X961 q d14_48 (((if0 _ _).trans (tlt ((by decide) : (-3 : Int32) < (0 : Int32))).2.1)) (own_iln X961 q d14_51 rfl (own_stp 53 (fun _ k => XS.ineg X961.here hx rfl (q.d d14_52) rfl k) ?_))))
    rw [show (-(-3 : Int32)) = (3 : Int32) from by decide]
    refine own_k X961 q d14_53 (own_isubk 2 X961 q d14_54 (by decide) (own_k X961 q d14_55 (own_stp 57 (fun _ k => iremM X961 hx rfl (q.d d14_56) rfl (by decide) k) ?_)))
    rw [show ((2 : Int32) % (2 : Int32)) = (0 : Int32) from by decide]
    refine own_k X961 q d14_57 (own_cy X961 q d14_58 ((feq ((by decide) : ¬ ((0 : Int32) = (1 : Int32)))).2) (own_k X961 q d14_65 (own_isn X961 q d14_66 (l' := #[.val (.ref a1), .val (.int p2), .val v'0, .val (.int (-3 : Int32))]) rfl (own_iln X961 q d14_67 rfl ?_))))
    refine own_rN X961 q hrt (by simp) d14_68 hlk (by decide) ?_
    show QM (own_in x0 x1 p2) h0 n0 _ T961.heap _
    rw [e961]
    exact ⟨_, rfl, N961, rfl, Or.inr ⟨rfl, by unfold own_in; unfold own_ok at hok0; omega⟩⟩
theorem d15_0 : own_D b'15 0 (.aload_n 0) 1 1 := by decide +kernel
theorem d15_1 : own_D b'15 1 (.getfield 15) 3 4 := by decide +kernel
theorem d15_4 : own_D b'15 4 .arraylength 1 5 := by decide +kernel
theorem d15_5 : own_DK b'15 5 2 6 := by decide +kernel
theorem d15_6 : own_D b'15 6 .idiv 1 7 := by decide +kernel
theorem d15_7 : own_D b'15 7 .ireturn 1 8 := by decide +kernel
theorem pn_15 : plainFor (⟨"com/example/austere_json/austerejson/CodePointSet", "rangeCount", "()I"⟩ : MethodName) = true := plainFor_of_name (by first | (simp [plainName, overriddenIn]; done) | decide +kernel)
theorem rm15_2 (l : Launch) (Z : State) (a0 : Array Value) (hw : own_hw a0 Z) (a1 : Addr) (r : Addr) (k1 : ClassId) (x0 x1 : Int32) (h0 : Heap) (n0 : Nat) (Z0 : n0 ≤ h0.size) (FR : F'3 Z h0 a1 (.ref r)) (VR : Arv Z h0 r k1 .int (2 : Int32) [(.int x0), (.int x1)] v'0) :
  own_M l Z [] own_y14 b'15 1 (some .int) ⟨0, 0, 0, 0⟩ #[(.ref a1)] h0 (QI (1 : Int32) h0 n0) := by
 refine own_start (n0 := n0) hw "com/example/austere_json/austerejson/CodePointSet" (L := #[.val (.ref a1)]) pn_15 (fun {p e s m below meth c s₁} q hx W hml hZ hown hnm hlk hrt X0 e0 N0 => ?_)
 refine own_aln X0 q d15_0 rfl rfl ?_
 refine own_gF X0 q hZ e0 hown (W 69 rfl) FR d15_1 fun T963 X963 e963 => ?_
 refine own_alen (n := (2 : Int32)) X963 q hZ e963 VR d15_4 (own_k X963 q d15_5 (own_stp 7 (fun _ k => XS.idiv X963.here hx rfl (q.d d15_6) rfl (by decide) k) ?_))
 rw [show ((2 : Int32) / (2 : Int32)) = (1 : Int32) from by decide]
 refine own_rI X963 q hrt d15_7 hlk (by decide) ?_
 show QI (1 : Int32) h0 n0 _ T963.heap _
 rw [e963]
 exact ⟨rfl, N0, rfl⟩
theorem rm14_4 (l : Launch) (Z : State) (a0 : Array Value) (hw : own_hw a0 Z) (a1 : Addr) (p2 : Int32) (r b : Addr) (k1 k2 : ClassId) (x0 x1 x2 x3 : Int32) (w0 w1 : Int64) (h0 : Heap) (n0 : Nat) (Z0 : n0 ≤ h0.size) (FR : F'3 Z h0 a1 (.ref r)) (FA : F'2 Z h0 a1 (.ref b)) (VR : Arv Z h0 r k1 .int (4 : Int32) [(.int x0), (.int x1), (.int x2), (.int x3)] v'0) (VB : Arv Z h0 b k2 .long (2 : Int32) [(.long w0), (.long w1)] (.long (0 : Int64))) (hbt : ∀ q : Int32, 0 ≤ q.toInt → q.toInt < 128 → (own_tst w0 w1 q ↔ own_in x0 x1 q ∨ own_in x2 x3 q)) (hok0 : own_ok x0 x1) (hok1 : own_ok x2 x3) (hgap : x1.toInt + 1 < x2.toInt) :
  own_M l Z [] own_y13 b'14 4 (some .boolean) ⟨2, 0, 0, 32⟩ #[(.ref a1), (.int p2)] h0 (QM (own_in x0 x1 p2 ∨ own_in x2 x3 p2) h0 n0) := by
 refine own_start (n0 := n0) hw "com/example/austere_json/austerejson/CodePointSet" (L := #[.val (.ref a1), .val (.int p2), .unset, .unset]) pn_14 (fun {p e s m below meth c s₁} q hx W hml hZ hown hnm hlk hrt X0 e0 N0 => ?_)
 have hby := q.2
 refine own_iln X0 q d14_0 rfl ?_
 by_cases hc1_975 : p2 < (0 : Int32)
 ·refine own_zy X0 q d14_1 (((if0 _ _).trans (tlt hc1_975).1)) (own_aln X0 q d14_38 rfl rfl ?_)
  refine own_gF X0 q hZ e0 hown (W 69 rfl) FR d14_39 fun T976 X976 e976 => ?_
  refine own_iln X976 q d14_42 rfl ?_
  refine own_cS X976 q hZ e976 hown hml (W 82 rfl) (W 83 rfl) (W 33 rfl) (W 84 rfl) (rm16_4 l Z a0 hw r p2 k1 x0 x1 x2 x3 h0 n0 Z0 VR) d14_43 [(.ref r), (.int p2)] [] own_pd6 rfl rfl 0 (Nat.le_refl _) (by decide) (fun v977 T977 L977 X977 hQ977 => ?_)
  obtain ⟨z977, rfl, N977q, e977, bs977⟩ := hQ977
  have N977 := Fr.app N0 N977q
  refine own_nv ?_
  rcases bs977 with ⟨hz, hq⟩ | ⟨hz, hq⟩ | ⟨hz, hq⟩ | ⟨hz, hq⟩ | ⟨hz, hq⟩ | ⟨hz, hq⟩ | ⟨hz, hq⟩ | ⟨hz, hq⟩ | ⟨hz, hq⟩
  ·subst hz
   show own_Fin _ _ _ _ (T977.setTop (mkF m 46 #[.val (.ref a1), .val (.int p2), .unset, .unset] [v'0]))
   refine own_isn X977 q d14_46 (l' := #[.val (.ref a1), .val (.int p2), .unset, .val v'0]) rfl (own_iln X977 q d14_47 rfl (own_zy X977 q d14_48 (((if0 _ _).trans (flt (Int32.lt_irrefl : ¬ ((0 : Int32) < (0 : Int32)))).2.1)) (own_k X977 q d14_61 (own_gt X977 q d14_62 (own_isn X977 q d14_66 (l' := #[.val (.ref a1), .val (.int p2), .val v'1, .val v'0]) rfl (own_iln X977 q d14_67 rfl ?_))))))
   refine own_rN X977 q hrt (by simp) d14_68 hlk (by decide) ?_
   show QM (own_in x0 x1 p2 ∨ own_in x2 x3 p2) h0 n0 _ T977.heap _
   rw [e977]
   exact ⟨_, rfl, N977, rfl, Or.inl ⟨rfl, by unfold own_in; unfold own_ok at hok0 hok1; omega⟩⟩
  ·subst hz
   show own_Fin _ _ _ _ (T977.setTop (mkF m 46 #[.val (.ref a1), .val (.int p2), .unset, .unset] [v'1]))
   refine own_isn X977 q d14_46 (l' := #[.val (.ref a1), .val (.int p2), .unset, .val v'1]) rfl (own_iln X977 q d14_47 rfl (own_zy X977 q d14_48 (((if0 _ _).trans (flt ((by decide) : ¬ ((1 : Int32) < (0 : Int32)))).2.1)) (own_k X977 q d14_61 (own_gt X977 q d14_62 (own_isn X977 q d14_66 (l' := #[.val (.ref a1), .val (.int p2), .val v'1, .val v'1]) rfl (own_iln X977 q d14_67 rfl ?_))))))
   refine own_rN X977 q hrt (by simp) d14_68 hlk (by decide) ?_
   show QM (own_in x0 x1 p2 ∨ own_in x2 x3 p2) h0 n0 _ T977.heap _
   rw [e977]
   exact ⟨_, rfl, N977, rfl, Or.inl ⟨rfl, by unfold own_in; unfold own_ok at hok0 hok1; omega⟩⟩
  ·subst hz
   show own_Fin _ _ _ _ (T977.setTop (mkF m 46 #[.val (.ref a1), .val (.int p2), .unset, .unset] [v'2]))
   refine own_isn X977 q d14_46 (l' := #[.val (.ref a1), .val (.int p2), .unset, .val v'2]) rfl (own_iln X977 q d14_47 rfl (own_zy X977 q d14_48 (((if0 _ _).trans (flt ((by decide) : ¬ ((2 : Int32) < (0 : Int32)))).2.1)) (own_k X977 q d14_61 (own_gt X977 q d14_62 (own_isn X977 q d14_66 (l' := #[.val (.ref a1), .val (.int p2), .val v'1, .val v'2]) rfl (own_iln X977 q d14_67 rfl ?_))))))
   refine own_rN X977 q hrt (by simp) d14_68 hlk (by decide) ?_
   show QM (own_in x0 x1 p2 ∨ own_in x2 x3 p2) h0 n0 _ T977.heap _
   rw [e977]
   exact ⟨_, rfl, N977, rfl, Or.inl ⟨rfl, by unfold own_in; unfold own_ok at hok0 hok1; omega⟩⟩
  ·subst hz
   show own_Fin _ _ _ _ (T977.setTop (mkF m 46 #[.val (.ref a1), .val (.int p2), .unset, .unset] [v'3]))
   refine own_isn X977 q d14_46 (l' := #[.val (.ref a1), .val (.int p2), .unset, .val v'3]) rfl (own_iln X977 q d14_47 rfl (own_zy X977 q d14_48 (((if0 _ _).trans (flt ((by decide) : ¬ ((3 : Int32) < (0 : Int32)))).2.1)) (own_k X977 q d14_61 (own_gt X977 q d14_62 (own_isn X977 q d14_66 (l' := #[.val (.ref a1), .val (.int p2), .val v'1, .val v'3]) rfl (own_iln X977 q d14_67 rfl ?_))))))
   refine own_rN X977 q hrt (by simp) d14_68 hlk (by decide) ?_
   show QM (own_in x0 x1 p2 ∨ own_in x2 x3 p2) h0 n0 _ T977.heap _
   rw [e977]
   exact ⟨_, rfl, N977, rfl, Or.inl ⟨rfl, by unfold own_in; unfold own_ok at hok0 hok1; omega⟩⟩
  ·subst hz
   show own_Fin _ _ _ _ (T977.setTop (mkF m 46 #[.val (.ref a1), .val (.int p2), .unset, .unset] [(.int (-1 : Int32))]))
   refine own_isn X977 q d14_46 (l' := #[.val (.ref a1), .val (.int p2), .unset, .val (.int (-1 : Int32))]) rfl (own_iln X977 q d14_47 rfl (own_zn X977 q d14_48 (((if0 _ _).trans (tlt ((by decide) : (-1 : Int32) < (0 : Int32))).2.1)) (own_iln X977 q d14_51 rfl (own_stp 53 (fun _ k => XS.ineg X977.here hx rfl (q.d d14_52) rfl k) ?_))))
   rw [show (-(-1 : Int32)) = (1 : Int32) from by decide]
   refine own_k X977 q d14_53 (own_isubk 0 X977 q d14_54 (by decide) (own_k X977 q d14_55 (own_stp 57 (fun _ k => iremM X977 hx rfl (q.d d14_56) rfl (by decide) k) ?_)))
   rw [show ((0 : Int32) % (2 : Int32)) = (0 : Int32) from by decide]
   refine own_k X977 q d14_57 (own_cy X977 q d14_58 ((feq ((by decide) : ¬ ((0 : Int32) = (1 : Int32)))).2) (own_k X977 q d14_65 (own_isn X977 q d14_66 (l' := #[.val (.ref a1), .val (.int p2), .val v'0, .val (.int (-1 : Int32))]) rfl (own_iln X977 q d14_67 rfl ?_))))
   refine own_rN X977 q hrt (by simp) d14_68 hlk (by decide) ?_
   show QM (own_in x0 x1 p2 ∨ own_in x2 x3 p2) h0 n0 _ T977.heap _
   rw [e977]
   exact ⟨_, rfl, N977, rfl, Or.inr ⟨rfl, by unfold own_in; unfold own_ok at hok0 hok1; omega⟩⟩
  ·subst hz
   show own_Fin _ _ _ _ (T977.setTop (mkF m 46 #[.val (.ref a1), .val (.int p2), .unset, .unset] [(.int (-2 : Int32))]))
   refine own_isn X977 q d14_46 (l' := #[.val (.ref a1), .val (.int p2), .unset, .val (.int (-2 : Int32))]) rfl (own_iln X977 q d14_47 rfl (own_zn X977 q d14_48 (((if0 _ _).trans (tlt ((by decide) : (-2 : Int32) < (0 : Int32))).2.1)) (own_iln X977 q d14_51 rfl (own_stp 53 (fun _ k => XS.ineg X977.here hx rfl (q.d d14_52) rfl k) ?_))))
   rw [show (-(-2 : Int32)) = (2 : Int32) from by decide]
   refine own_k X977 q d14_53 (own_isubk 1 X977 q d14_54 (by decide) (own_k X977 q d14_55 (own_stp 57 (fun _ k => iremM X977 hx rfl (q.d d14_56) rfl (by decide) k) ?_)))
   rw [show ((1 : Int32) % (2 : Int32)) = (1 : Int32) from by decide]
   refine own_k X977 q d14_57 (own_cn X977 q d14_58 ((teq (rfl : (1 : Int32) = (1 : Int32))).2) (own_k X977 q d14_61 (own_gt X977 q d14_62 (own_isn X977 q d14_66 (l' := #[.val (.ref a1), .val (.int p2), .val v'1, .val (.int (-2 : Int32))]) rfl (own_iln X977 q d14_67 rfl ?_)))))
   refine own_rN X977 q hrt (by simp) d14_68 hlk (by decide) ?_
   show QM (own_in x0 x1 p2 ∨ own_in x2 x3 p2) h0 n0 _ T977.heap _
   rw [e977]
   exact ⟨_, rfl, N977, rfl, Or.inl ⟨rfl, by unfold own_in; unfold own_ok at hok0 hok1; omega⟩⟩
  ·subst hz
   show own_Fin _ _ _ _ (T977.setTop (mkF m 46 #[.val (.ref a1), .val (.int p2), .unset, .unset] [(.int (-3 : Int32))]))
   refine own_isn X977 q d14_46 (l' := #[.val (.ref a1), .val (.int p2), .unset, .val (.int (-3 : Int32))]) rfl (own_iln X977 q d14_47 rfl (own_zn X977 q d14_48 (((if0 _ _).trans (tlt ((by decide) : (-3 : Int32) < (0 : Int32))).2.1)) (own_iln X977 q d14_51 rfl (own_stp 53 (fun _ k => XS.ineg X977.here hx rfl (q.d d14_52) rfl k) ?_))))
   rw [show (-(-3 : Int32)) = (3 : Int32) from by decide]
   refine own_k X977 q d14_53 (own_isubk 2 X977 q d14_54 (by decide) (own_k X977 q d14_55 (own_stp 57 (fun _ k => iremM X977 hx rfl (q.d d14_56) rfl (by decide) k) ?_)))
   rw [show ((2 : Int32) % (2 : Int32)) = (0 : Int32) from by decide]
   refine own_k X977 q d14_57 (own_cy X977 q d14_58 ((feq ((by decide) : ¬ ((0 : Int32) = (1 : Int32)))).2) (own_k X977 q d14_65 (own_isn X977 q d14_66 (l' := #[.val (.ref a1), .val (.int p2), .val v'0, .val (.int (-3 : Int32))]) rfl (own_iln X977 q d14_67 rfl ?_))))
   refine own_rN X977 q hrt (by simp) d14_68 hlk (by decide) ?_
   show QM (own_in x0 x1 p2 ∨ own_in x2 x3 p2) h0 n0 _ T977.heap _
   rw [e977]
   exact ⟨_, rfl, N977, rfl, Or.inr ⟨rfl, by unfold own_in; unfold own_ok at hok0 hok1; omega⟩⟩
  ·subst hz
   show own_Fin _ _ _ _ (T977.setTop (mkF m 46 #[.val (.ref a1), .val (.int p2), .unset, .unset] [(.int (-4 : Int32))]))
   refine own_isn X977 q d14_46 (l' := #[.val (.ref a1), .val (.int p2), .unset, .val (.int (-4 : Int32))]) rfl (own_iln X977 q d14_47 rfl (own_zn X977 q d14_48 (((if0 _ _).trans (tlt ((by decide) : (-4 : Int32) < (0 : Int32))).2.1)) (own_iln X977 q d14_51 rfl (own_stp 53 (fun _ k => XS.ineg X977.here hx rfl (q.d d14_52) rfl k) ?_))))
   rw [show (-(-4 : Int32)) = (4 : Int32) from by decide]
   refine own_k X977 q d14_53 (own_isubk 3 X977 q d14_54 (by decide) (own_k X977 q d14_55 (own_stp 57 (fun _ k => iremM X977 hx rfl (q.d d14_56) rfl (by decide) k) ?_)))
   rw [show ((3 : Int32) % (2 : Int32)) = (1 : Int32) from by decide]
   refine own_k X977 q d14_57 (own_cn X977 q d14_58 ((teq (rfl : (1 : Int32) = (1 : Int32))).2) (own_k X977 q d14_61 (own_gt X977 q d14_62 (own_isn X977 q d14_66 (l' := #[.val (.ref a1), .val (.int p2), .val v'1, .val (.int (-4 : Int32))]) rfl (own_iln X977 q d14_67 rfl ?_)))))
   refine own_rN X977 q hrt (by simp) d14_68 hlk (by decide) ?_
   show QM (own_in x0 x1 p2 ∨ own_in x2 x3 p2) h0 n0 _ T977.heap _
   rw [e977]
   exact ⟨_, rfl, N977, rfl, Or.inl ⟨rfl, by unfold own_in; unfold own_ok at hok0 hok1; omega⟩⟩
  ·subst hz
   show own_Fin _ _ _ _ (T977.setTop (mkF m 46 #[.val (.ref a1), .val (.int p2), .unset, .unset] [(.int (-5 : Int32))]))
   refine own_isn X977 q d14_46 (l' := #[.val (.ref a1), .val (.int p2), .unset, .val (.int (-5 : Int32))]) rfl (own_iln X977 q d14_47 rfl (own_zn X977 q d14_48 (((if0 _ _).trans (tlt ((by decide) : (-5 : Int32) < (0 : Int32))).2.1)) (own_iln X977 q d14_51 rfl (own_stp 53 (fun _ k => XS.ineg X977.here hx rfl (q.d d14_52) rfl k) ?_))))
   rw [show (-(-5 : Int32)) = (5 : Int32) from by decide]
   refine own_k X977 q d14_53 (own_isubk 4 X977 q d14_54 (by decide) (own_k X977 q d14_55 (own_stp 57 (fun _ k => iremM X977 hx rfl (q.d d14_56) rfl (by decide) k) ?_)))
   rw [show ((4 : Int32) % (2 : Int32)) = (0 : Int32) from by decide]
   refine own_k X977 q d14_57 (own_cy X977 q d14_58 ((feq ((by decide) : ¬ ((0 : Int32) = (1 : Int32)))).2) (own_k X977 q d14_65 (own_isn X977 q d14_66 (l' := #[.val (.ref a1), .val (.int p2), .val v'0, .val (.int (-5 : Int32))]) rfl (own_iln X977 q d14_67 rfl ?_))))
   refine own_rN X977 q hrt (by simp) d14_68 hlk (by decide) ?_
   show QM (own_in x0 x1 p2 ∨ own_in x2 x3 p2) h0 n0 _ T977.heap _
   rw [e977]
   exact ⟨_, rfl, N977, rfl, Or.inr ⟨rfl, by unfold own_in; unfold own_ok at hok0 hok1; omega⟩⟩
 ·refine own_zn X0 q d14_1 (((if0 _ _).trans (flt hc1_975).1)) (own_iln X0 q d14_4 rfl (own_k X0 q d14_5 ?_))
  by_cases hc8_978 : p2 < (128 : Int32)
  ·refine own_cn X0 q d14_8 ((tlt hc8_978).2.1) (own_aln X0 q d14_11 rfl rfl ?_)
   refine own_gF X0 q hZ e0 hown (W 67 rfl) FA d14_12 fun T979 X979 e979 => ?_
   refine own_iln X979 q d14_15 rfl (own_k X979 q d14_16 (own_stp 19 (fun _ k => XS.iushr X979.here hx rfl (q.d d14_18) rfl k) ?_))
   have q0 : 0 ≤ p2.toInt := by have r := hc1_975; rw [Int32.lt_iff_toInt_lt, own_t0] at r; omega
   have q1 : p2.toInt < 128 := by have r := hc8_978; rw [Int32.lt_iff_toInt_lt, own_t128] at r; omega
   by_cases hj : p2.toInt < 64
   ·rw [own_ix0 q0 hj]
    show own_Fin _ _ _ _ (T979.setTop (mkF m 19 #[.val (.ref a1), .val (.int p2), .unset, .unset] [v'0, (.ref b)]))
    obtain ⟨cl980, Ar980, q980, S980, M980, H980, G980⟩ := id VB
    refine own_stp 20 (fun _ k => X979.laload hx (j := (0 : Int32)) (v := (.long w0)) (by rw [e979]; exact Ar980.1) (State.isArrayOf_alike hZ.alike Ar980.2.1) Ar980.2.2 (inb_of S980 ⟨by decide, by decide⟩) (Has.at H980 (inb_of S980 ⟨by decide, by decide⟩) rfl) (g := mkF m 19 _ _) rfl rfl (q.d d14_19) _ k) (own_lk X979 q d14_20 (z := (1 : Int64)) rfl (own_iln X979 q d14_21 rfl (own_stp 23 (fun _ k => XS.lshl X979.here hx rfl (q.d d14_22) rfl k) (own_stp 24 (fun _ k => XS.land X979.here hx rfl (q.d d14_23) rfl k) (own_lk X979 q d14_24 (z := (0 : Int64)) rfl (own_stq 26 [(.int (lcmpW (w0 &&& ((1 : Int64) <<< (p2 &&& 0x3f).toInt64)) (0 : Int64)))] (fun _ k => XS.lcmp X979.here hx rfl (q.d d14_25) rfl k) ?_))))))
    by_cases hc26_981 : (lcmpW (w0 &&& ((1 : Int64) <<< (p2 &&& 0x3f).toInt64)) (0 : Int64)) = (0 : Int32)
    ·refine own_zy X979 q d14_26 (((if0 _ _).trans (teq hc26_981).1)) (own_k X979 q d14_33 (own_isn X979 q d14_34 (l' := #[.val (.ref a1), .val (.int p2), .val v'0, .unset]) rfl (own_gt X979 q d14_35 (own_iln X979 q d14_67 rfl ?_))))
     refine own_rN X979 q hrt (by simp) d14_68 hlk (by decide) ?_
     show QM (own_in x0 x1 p2 ∨ own_in x2 x3 p2) h0 n0 _ T979.heap _
     rw [e979]
     exact ⟨_, rfl, N0, rfl, Or.inr ⟨rfl, fun r => (own_tstA hj).mp ((hbt p2 q0 q1).mpr r) ((lw_eq _ _).mp hc26_981)⟩⟩
    ·refine own_zn X979 q d14_26 (((if0 _ _).trans (feq hc26_981).1)) (own_k X979 q d14_29 (own_gt X979 q d14_30 (own_isn X979 q d14_34 (l' := #[.val (.ref a1), .val (.int p2), .val v'1, .unset]) rfl (own_gt X979 q d14_35 (own_iln X979 q d14_67 rfl ?_)))))
     refine own_rN X979 q hrt (by simp) d14_68 hlk (by decide) ?_
     show QM (own_in x0 x1 p2 ∨ own_in x2 x3 p2) h0 n0 _ T979.heap _
     rw [e979]
     exact ⟨_, rfl, N0, rfl, Or.inl ⟨rfl, (hbt p2 q0 q1).mp ((own_tstA hj).mpr (fun r => hc26_981 ((lw_eq _ _).mpr r)))⟩⟩
   ·rw [own_ix1 hj q1]
    show own_Fin _ _ _ _ (T979.setTop (mkF m 19 #[.val (.ref a1), .val (.int p2), .unset, .unset] [v'1, (.ref b)]))
    obtain ⟨cl982, Ar982, q982, S982, M982, H982, G982⟩ := id VB
    refine own_stp 20 (fun _ k => X979.laload hx (j := (1 : Int32)) (v := (.long w1)) (by rw [e979]; exact Ar982.1) (State.isArrayOf_alike hZ.alike Ar982.2.1) Ar982.2.2 (inb_of S982 ⟨by decide, by decide⟩) (Has.at H982 (inb_of S982 ⟨by decide, by decide⟩) rfl) (g := mkF m 19 _ _) rfl rfl (q.d d14_19) _ k) (own_lk X979 q d14_20 (z := (1 : Int64)) rfl (own_iln X979 q d14_21 rfl (own_stp 23 (fun _ k => XS.lshl X979.here hx rfl (q.d d14_22) rfl k) (own_stp 24 (fun _ k => XS.land X979.here hx rfl (q.d d14_23) rfl k) (own_lk X979 q d14_24 (z := (0 : Int64)) rfl (own_stq 26 [(.int (lcmpW (w1 &&& ((1 : Int64) <<< (p2 &&& 0x3f).toInt64)) (0 : Int64)))] (fun _ k => XS.lcmp X979.here hx rfl (q.d d14_25) rfl k) ?_))))))
    by_cases hc26_983 : (lcmpW (w1 &&& ((1 : Int64) <<< (p2 &&& 0x3f).toInt64)) (0 : Int64)) = (0 : Int32)
    ·refine own_zy X979 q d14_26 (((if0 _ _).trans (teq hc26_983).1)) (own_k X979 q d14_33 (own_isn X979 q d14_34 (l' := #[.val (.ref a1), .val (.int p2), .val v'0, .unset]) rfl (own_gt X979 q d14_35 (own_iln X979 q d14_67 rfl ?_))))
     refine own_rN X979 q hrt (by simp) d14_68 hlk (by decide) ?_
     show QM (own_in x0 x1 p2 ∨ own_in x2 x3 p2) h0 n0 _ T979.heap _
     rw [e979]
     exact ⟨_, rfl, N0, rfl, Or.inr ⟨rfl, fun r => (own_tstB hj).mp ((hbt p2 q0 q1).mpr r) ((lw_eq _ _).mp hc26_983)⟩⟩
    ·refine own_zn X979 q d14_26 (((if0 _ _).trans (feq hc26_983).1)) (own_k X979 q d14_29 (own_gt X979 q d14_30 (own_isn X979 q d14_34 (l' := #[.val (.ref a1), .val (.int p2), .val v'1, .unset]) rfl (own_gt X979 q d14_35 (own_iln X979 q d14_67 rfl ?_)))))
     refine own_rN X979 q hrt (by simp) d14_68 hlk (by decide) ?_
     show QM (own_in x0 x1 p2 ∨ own_in x2 x3 p2) h0 n0 _ T979.heap _
     rw [e979]
     exact ⟨_, rfl, N0, rfl, Or.inl ⟨rfl, (hbt p2 q0 q1).mp ((own_tstB hj).mpr (fun r => hc26_983 ((lw_eq _ _).mpr r)))⟩⟩
  ·refine own_cy X0 q d14_8 ((flt hc8_978).2.1) (own_aln X0 q d14_38 rfl rfl ?_)
   refine own_gF X0 q hZ e0 hown (W 69 rfl) FR d14_39 fun T984 X984 e984 => ?_
   refine own_iln X984 q d14_42 rfl ?_
   refine own_cS X984 q hZ e984 hown hml (W 82 rfl) (W 83 rfl) (W 33 rfl) (W 84 rfl) (rm16_4 l Z a0 hw r p2 k1 x0 x1 x2 x3 h0 n0 Z0 VR) d14_43 [(.ref r), (.int p2)] [] own_pd6 rfl rfl 0 (Nat.le_refl _) (by decide) (fun v985 T985 L985 X985 hQ985 => ?_)
   obtain ⟨z985, rfl, N985q, e985, bs985⟩ := hQ985
   have N985 := Fr.app N0 N985q
   refine own_nv ?_
   rcases bs985 with ⟨hz, hq⟩ | ⟨hz, hq⟩ | ⟨hz, hq⟩ | ⟨hz, hq⟩ | ⟨hz, hq⟩ | ⟨hz, hq⟩ | ⟨hz, hq⟩ | ⟨hz, hq⟩ | ⟨hz, hq⟩
   ·subst hz
    show own_Fin _ _ _ _ (T985.setTop (mkF m 46 #[.val (.ref a1), .val (.int p2), .unset, .unset] [v'0]))
    refine own_isn X985 q d14_46 (l' := #[.val (.ref a1), .val (.int p2), .unset, .val v'0]) rfl (own_iln X985 q d14_47 rfl (own_zy X985 q d14_48 (((if0 _ _).trans (flt (Int32.lt_irrefl : ¬ ((0 : Int32) < (0 : Int32)))).2.1)) (own_k X985 q d14_61 (own_gt X985 q d14_62 (own_isn X985 q d14_66 (l' := #[.val (.ref a1), .val (.int p2), .val v'1, .val v'0]) rfl (own_iln X985 q d14_67 rfl ?_))))))
    refine own_rN X985 q hrt (by simp) d14_68 hlk (by decide) ?_
    show QM (own_in x0 x1 p2 ∨ own_in x2 x3 p2) h0 n0 _ T985.heap _
    rw [e985]
    exact ⟨_, rfl, N985, rfl, Or.inl ⟨rfl, by unfold own_in; unfold own_ok at hok0 hok1; omega⟩⟩
   ·subst hz
    show own_Fin _ _ _ _ (T985.setTop (mkF m 46 #[.val (.ref a1), .val (.int p2), .unset, .unset] [v'1]))
    refine own_isn X985 q d14_46 (l' := #[.val (.ref a1), .val (.int p2), .unset, .val v'1]) rfl (own_iln X985 q d14_47 rfl (own_zy X985 q d14_48 (((if0 _ _).trans (flt ((by decide) : ¬ ((1 : Int32) < (0 : Int32)))).2.1)) (own_k X985 q d14_61 (own_gt X985 q d14_62 (own_isn X985 q d14_66 (l' := #[.val (.ref a1), .val (.int p2), .val v'1, .val v'1]) rfl (own_iln X985 q d14_67 rfl ?_))))))
    refine own_rN X985 q hrt (by simp) d14_68 hlk (by decide) ?_
    show QM (own_in x0 x1 p2 ∨ own_in x2 x3 p2) h0 n0 _ T985.heap _
    rw [e985]
    exact ⟨_, rfl, N985, rfl, Or.inl ⟨rfl, by unfold own_in; unfold own_ok at hok0 hok1; omega⟩⟩
   ·subst hz
    show own_Fin _ _ _ _ (T985.setTop (mkF m 46 #[.val (.ref a1), .val (.int p2), .unset, .unset] [v'2]))
    refine own_isn X985 q d14_46 (l' := #[.val (.ref a1), .val (.int p2), .unset, .val v'2]) rfl (own_iln X985 q d14_47 rfl (own_zy X985 q d14_48 (((if0 _ _).trans (flt ((by decide) : ¬ ((2 : Int32) < (0 : Int32)))).2.1)) (own_k X985 q d14_61 (own_gt X985 q d14_62 (own_isn X985 q d14_66 (l' := #[.val (.ref a1), .val (.int p2), .val v'1, .val v'2]) rfl (own_iln X985 q d14_67 rfl ?_))))))
    refine own_rN X985 q hrt (by simp) d14_68 hlk (by decide) ?_
    show QM (own_in x0 x1 p2 ∨ own_in x2 x3 p2) h0 n0 _ T985.heap _
    rw [e985]
    exact ⟨_, rfl, N985, rfl, Or.inl ⟨rfl, by unfold own_in; unfold own_ok at hok0 hok1; omega⟩⟩
   ·subst hz
    show own_Fin _ _ _ _ (T985.setTop (mkF m 46 #[.val (.ref a1), .val (.int p2), .unset, .unset] [v'3]))
    refine own_isn X985 q d14_46 (l' := #[.val (.ref a1), .val (.int p2), .unset, .val v'3]) rfl (own_iln X985 q d14_47 rfl (own_zy X985 q d14_48 (((if0 _ _).trans (flt ((by decide) : ¬ ((3 : Int32) < (0 : Int32)))).2.1)) (own_k X985 q d14_61 (own_gt X985 q d14_62 (own_isn X985 q d14_66 (l' := #[.val (.ref a1), .val (.int p2), .val v'1, .val v'3]) rfl (own_iln X985 q d14_67 rfl ?_))))))
    refine own_rN X985 q hrt (by simp) d14_68 hlk (by decide) ?_
    show QM (own_in x0 x1 p2 ∨ own_in x2 x3 p2) h0 n0 _ T985.heap _
    rw [e985]
    exact ⟨_, rfl, N985, rfl, Or.inl ⟨rfl, by unfold own_in; unfold own_ok at hok0 hok1; omega⟩⟩
   ·subst hz
    show own_Fin _ _ _ _ (T985.setTop (mkF m 46 #[.val (.ref a1), .val (.int p2), .unset, .unset] [(.int (-1 : Int32))]))
    refine own_isn X985 q d14_46 (l' := #[.val (.ref a1), .val (.int p2), .unset, .val (.int (-1 : Int32))]) rfl (own_iln X985 q d14_47 rfl (own_zn X985 q d14_48 (((if0 _ _).trans (tlt ((by decide) : (-1 : Int32) < (0 : Int32))).2.1)) (own_iln X985 q d14_51 rfl (own_stp 53 (fun _ k => XS.ineg X985.here hx rfl (q.d d14_52) rfl k) ?_))))
    rw [show (-(-1 : Int32)) = (1 : Int32) from by decide]
    refine own_k X985 q d14_53 (own_isubk 0 X985 q d14_54 (by decide) (own_k X985 q d14_55 (own_stp 57 (fun _ k => iremM X985 hx rfl (q.d d14_56) rfl (by decide) k) ?_)))
    rw [show ((0 : Int32) % (2 : Int32)) = (0 : Int32) from by decide]
    refine own_k X985 q d14_57 (own_cy X985 q d14_58 ((feq ((by decide) : ¬ ((0 : Int32) = (1 : Int32)))).2) (own_k X985 q d14_65 (own_isn X985 q d14_66 (l' := #[.val (.ref a1), .val (.int p2), .val v'0, .val (.int (-1 : Int32))]) rfl (own_iln X985 q d14_67 rfl ?_))))
    refine own_rN X985 q hrt (by simp) d14_68 hlk (by decide) ?_
    show QM (own_in x0 x1 p2 ∨ own_in x2 x3 p2) h0 n0 _ T985.heap _
    rw [e985]
    exact ⟨_, rfl, N985, rfl, Or.inr ⟨rfl, by unfold own_in; unfold own_ok at hok0 hok1; omega⟩⟩
   ·subst hz
    show own_Fin _ _ _ _ (T985.setTop (mkF m 46 #[.val (.ref a1), .val (.int p2), .unset, .unset] [(.int (-2 : Int32))]))
    refine own_isn X985 q d14_46 (l' := #[.val (.ref a1), .val (.int p2), .unset, .val (.int (-2 : Int32))]) rfl (own_iln X985 q d14_47 rfl (own_zn X985 q d14_48 (((if0 _ _).trans (tlt ((by decide) : (-2 : Int32) < (0 : Int32))).2.1)) (own_iln X985 q d14_51 rfl (own_stp 53 (fun _ k => XS.ineg X985.here hx rfl (q.d d14_52) rfl k) ?_))))
    rw [show (-(-2 : Int32)) = (2 : Int32) from by decide]
    refine own_k X985 q d14_53 (own_isubk 1 X985 q d14_54 (by decide) (own_k X985 q d14_55 (own_stp 57 (fun _ k => iremM X985 hx rfl (q.d d14_56) rfl (by decide) k) ?_)))
    rw [show ((1 : Int32) % (2 : Int32)) = (1 : Int32) from by decide]
    refine own_k X985 q d14_57 (own_cn X985 q d14_58 ((teq (rfl : (1 : Int32) = (1 : Int32))).2) (own_k X985 q d14_61 (own_gt X985 q d14_62 (own_isn X985 q d14_66 (l' := #[.val (.ref a1), .val (.int p2), .val v'1, .val (.int (-2 : Int32))]) rfl (own_iln X985 q d14_67 rfl ?_)))))
    refine own_rN X985 q hrt (by simp) d14_68 hlk (by decide) ?_
    show QM (own_in x0 x1 p2 ∨ own_in x2 x3 p2) h0 n0 _ T985.heap _
    rw [e985]
    exact ⟨_, rfl, N985, rfl, Or.inl ⟨rfl, by unfold own_in; unfold own_ok at hok0 hok1; omega⟩⟩
   ·subst hz
    show own_Fin _ _ _ _ (T985.setTop (mkF m 46 #[.val (.ref a1), .val (.int p2), .unset, .unset] [(.int (-3 : Int32))]))
    refine own_isn X985 q d14_46 (l' := #[.val (.ref a1), .val (.int p2), .unset, .val (.int (-3 : Int32))]) rfl (own_iln X985 q d14_47 rfl (own_zn X985 q d14_48 (((if0 _ _).trans (tlt ((by decide) : (-3 : Int32) < (0 : Int32))).2.1)) (own_iln X985 q d14_51 rfl (own_stp 53 (fun _ k => XS.ineg X985.here hx rfl (q.d d14_52) rfl k) ?_))))
    rw [show (-(-3 : Int32)) = (3 : Int32) from by decide]
    refine own_k X985 q d14_53 (own_isubk 2 X985 q d14_54 (by decide) (own_k X985 q d14_55 (own_stp 57 (fun _ k => iremM X985 hx rfl (q.d d14_56) rfl (by decide) k) ?_)))
    rw [show ((2 : Int32) % (2 : Int32)) = (0 : Int32) from by decide]
    refine own_k X985 q d14_57 (own_cy X985 q d14_58 ((feq ((by decide) : ¬ ((0 : Int32) = (1 : Int32)))).2) (own_k X985 q d14_65 (own_isn X985 q d14_66 (l' := #[.val (.ref a1), .val (.int p2), .val v'0, .val (.int (-3 : Int32))]) rfl (own_iln X985 q d14_67 rfl ?_))))
    refine own_rN X985 q hrt (by simp) d14_68 hlk (by decide) ?_
    show QM (own_in x0 x1 p2 ∨ own_in x2 x3 p2) h0 n0 _ T985.heap _
    rw [e985]
    exact ⟨_, rfl, N985, rfl, Or.inr ⟨rfl, by unfold own_in; unfold own_ok at hok0 hok1; omega⟩⟩
   ·subst hz
    show own_Fin _ _ _ _ (T985.setTop (mkF m 46 #[.val (.ref a1), .val (.int p2), .unset, .unset] [(.int (-4 : Int32))]))
    refine own_isn X985 q d14_46 (l' := #[.val (.ref a1), .val (.int p2), .unset, .val (.int (-4 : Int32))]) rfl (own_iln X985 q d14_47 rfl (own_zn X985 q d14_48 (((if0 _ _).trans (tlt ((by decide) : (-4 : Int32) < (0 : Int32))).2.1)) (own_iln X985 q d14_51 rfl (own_stp 53 (fun _ k => XS.ineg X985.here hx rfl (q.d d14_52) rfl k) ?_))))
    rw [show (-(-4 : Int32)) = (4 : Int32) from by decide]
    refine own_k X985 q d14_53 (own_isubk 3 X985 q d14_54 (by decide) (own_k X985 q d14_55 (own_stp 57 (fun _ k => iremM X985 hx rfl (q.d d14_56) rfl (by decide) k) ?_)))
    rw [show ((3 : Int32) % (2 : Int32)) = (1 : Int32) from by decide]
    refine own_k X985 q d14_57 (own_cn X985 q d14_58 ((teq (rfl : (1 : Int32) = (1 : Int32))).2) (own_k X985 q d14_61 (own_gt X985 q d14_62 (own_isn X985 q d14_66 (l' := #[.val (.ref a1), .val (.int p2), .val v'1, .val (.int (-4 : Int32))]) rfl (own_iln X985 q d14_67 rfl ?_)))))
    refine own_rN X985 q hrt (by simp) d14_68 hlk (by decide) ?_
    show QM (own_in x0 x1 p2 ∨ own_in x2 x3 p2) h0 n0 _ T985.heap _
    rw [e985]
    exact ⟨_, rfl, N985, rfl, Or.inl ⟨rfl, by unfold own_in; unfold own_ok at hok0 hok1; omega⟩⟩
   ·subst hz
    show own_Fin _ _ _ _ (T985.setTop (mkF m 46 #[.val (.ref a1), .val (.int p2), .unset, .unset] [(.int (-5 : Int32))]))
    refine own_isn X985 q d14_46 (l' := #[.val (.ref a1), .val (.int p2), .unset, .val (.int (-5 : Int32))]) rfl (own_iln X985 q d14_47 rfl (own_zn X985 q d14_48 (((if0 _ _).trans (tlt ((by decide) : (-5 : Int32) < (0 : Int32))).2.1)) (own_iln X985 q d14_51 rfl (own_stp 53 (fun _ k => XS.ineg X985.here hx rfl (q.d d14_52) rfl k) ?_))))
    rw [show (-(-5 : Int32)) = (5 : Int32) from by decide]
    refine own_k X985 q d14_53 (own_isubk 4 X985 q d14_54 (by decide) (own_k X985 q d14_55 (own_stp 57 (fun _ k => iremM X985 hx rfl (q.d d14_56) rfl (by decide) k) ?_)))
    rw [show ((4 : Int32) % (2 : Int32)) = (0 : Int32) from by decide]
    refine own_k X985 q d14_57 (own_cy X985 q d14_58 ((feq ((by decide) : ¬ ((0 : Int32) = (1 : Int32)))).2) (own_k X985 q d14_65 (own_isn X985 q d14_66 (l' := #[.val (.ref a1), .val (.int p2), .val v'0, .val (.int (-5 : Int32))]) rfl (own_iln X985 q d14_67 rfl ?_))))
    refine own_rN X985 q hrt (by simp) d14_68 hlk (by decide) ?_
    show QM (own_in x0 x1 p2 ∨ own_in x2 x3 p2) h0 n0 _ T985.heap _
    rw [e985]
    exact ⟨_, rfl, N985, rfl, Or.inr ⟨rfl, by unfold own_in; unfold own_ok at hok0 hok1; omega⟩⟩
theorem rm15_4 (l : Launch) (Z : State) (a0 : Array Value) (hw : own_hw a0 Z) (a1 : Addr) (r : Addr) (k1 : ClassId) (x0 x1 x2 x3 : Int32) (h0 : Heap) (n0 : Nat) (Z0 : n0 ≤ h0.size) (FR : F'3 Z h0 a1 (.ref r)) (VR : Arv Z h0 r k1 .int (4 : Int32) [(.int x0), (.int x1), (.int x2), (.int x3)] v'0) :
  own_M l Z [] own_y14 b'15 1 (some .int) ⟨0, 0, 0, 0⟩ #[(.ref a1)] h0 (QI (2 : Int32) h0 n0) := by
 refine own_start (n0 := n0) hw "com/example/austere_json/austerejson/CodePointSet" (L := #[.val (.ref a1)]) pn_15 (fun {p e s m below meth c s₁} q hx W hml hZ hown hnm hlk hrt X0 e0 N0 => ?_)
 refine own_aln X0 q d15_0 rfl rfl ?_
 refine own_gF X0 q hZ e0 hown (W 69 rfl) FR d15_1 fun T987 X987 e987 => ?_
 refine own_alen (n := (4 : Int32)) X987 q hZ e987 VR d15_4 (own_k X987 q d15_5 (own_stp 7 (fun _ k => XS.idiv X987.here hx rfl (q.d d15_6) rfl (by decide) k) ?_))
 rw [show ((4 : Int32) / (2 : Int32)) = (2 : Int32) from by decide]
 refine own_rI X987 q hrt d15_7 hlk (by decide) ?_
 show QI (2 : Int32) h0 n0 _ T987.heap _
 rw [e987]
 exact ⟨rfl, N0, rfl⟩
theorem d8_0 : own_D b'8 0 (.aload_n 0) 1 1 := by decide +kernel
theorem d8_1 : own_D b'8 1 (.getfield 13) 3 4 := by decide +kernel
theorem d8_4 : own_DK b'8 4 2 5 := by decide +kernel
theorem d8_5 : own_D b'8 5 .idiv 1 6 := by decide +kernel
theorem d8_6 : own_D b'8 6 (.newarray .long) 2 8 := by decide +kernel
theorem d8_8 : own_D b'8 8 (.astore_n 1) 1 9 := by decide +kernel
theorem d8_9 : own_DK b'8 9 0 10 := by decide +kernel
theorem d8_10 : own_D b'8 10 (.istore_n 2) 1 11 := by decide +kernel
theorem d8_11 : own_D b'8 11 (.iload_n 2) 1 12 := by decide +kernel
theorem d8_12 : own_D b'8 12 (.aload_n 1) 1 13 := by decide +kernel
theorem d8_13 : own_D b'8 13 .arraylength 1 14 := by decide +kernel
theorem d8_14 : own_DJ b'8 14 .ge 50 17 := by decide +kernel
theorem d8_17 : own_D b'8 17 (.aload_n 1) 1 18 := by decide +kernel
theorem d8_18 : own_D b'8 18 (.iload_n 2) 1 19 := by decide +kernel
theorem d8_19 : own_D b'8 19 (.aload_n 0) 1 20 := by decide +kernel
theorem d8_20 : own_D b'8 20 (.getfield 7) 3 23 := by decide +kernel
theorem d8_23 : own_DK b'8 23 2 24 := by decide +kernel
theorem d8_24 : own_D b'8 24 (.iload_n 2) 1 25 := by decide +kernel
theorem d8_25 : own_D b'8 25 .imul 1 26 := by decide +kernel
theorem d8_26 : own_D b'8 26 .iaload 1 27 := by decide +kernel
theorem d8_27 : own_D b'8 27 .i2l 1 28 := by decide +kernel
theorem d8_28 : own_DK b'8 28 32 30 := by decide +kernel
theorem d8_30 : own_D b'8 30 .lshl 1 31 := by decide +kernel
theorem d8_31 : own_D b'8 31 (.aload_n 0) 1 32 := by decide +kernel
theorem d8_32 : own_D b'8 32 (.getfield 7) 3 35 := by decide +kernel
theorem d8_35 : own_DK b'8 35 2 36 := by decide +kernel
theorem d8_36 : own_D b'8 36 (.iload_n 2) 1 37 := by decide +kernel
theorem d8_37 : own_D b'8 37 .imul 1 38 := by decide +kernel
theorem d8_38 : own_DK b'8 38 1 39 := by decide +kernel
theorem d8_39 : own_D b'8 39 .iadd 1 40 := by decide +kernel
theorem d8_40 : own_D b'8 40 .iaload 1 41 := by decide +kernel
theorem d8_41 : own_D b'8 41 .i2l 1 42 := by decide +kernel
theorem d8_42 : own_D b'8 42 .lor 1 43 := by decide +kernel
theorem d8_43 : own_D b'8 43 .lastore 1 44 := by decide +kernel
theorem d8_44 : own_DI b'8 44 2 1 47 := by decide +kernel
theorem d8_47 : own_DG b'8 47 11 := by decide +kernel
theorem d8_50 : own_D b'8 50 (.aload_n 1) 1 51 := by decide +kernel
theorem d8_51 : own_D b'8 51 (.invokestatic 40) 3 54 := by decide +kernel
theorem d8_54 : own_D b'8 54 (.aload_n 0) 1 55 := by decide +kernel
theorem d8_55 : own_D b'8 55 (.getfield 13) 3 58 := by decide +kernel
theorem d8_58 : own_D b'8 58 (.newarray .int) 2 60 := by decide +kernel
theorem d8_60 : own_D b'8 60 (.astore_n 2) 1 61 := by decide +kernel
theorem d8_61 : own_DK b'8 61 0 62 := by decide +kernel
theorem d8_62 : own_D b'8 62 (.istore_n 3) 1 63 := by decide +kernel
theorem d8_63 : own_D b'8 63 (.aload_n 1) 1 64 := by decide +kernel
theorem d8_64 : own_D b'8 64 (.astore 4) 2 66 := by decide +kernel
theorem d8_66 : own_D b'8 66 (.aload 4) 2 68 := by decide +kernel
theorem d8_68 : own_D b'8 68 .arraylength 1 69 := by decide +kernel
theorem d8_69 : own_D b'8 69 (.istore 5) 2 71 := by decide +kernel
theorem d8_71 : own_DK b'8 71 0 72 := by decide +kernel
theorem d8_72 : own_D b'8 72 (.istore 6) 2 74 := by decide +kernel
theorem d8_74 : own_D b'8 74 (.iload 6) 2 76 := by decide +kernel
theorem d8_76 : own_D b'8 76 (.iload 5) 2 78 := by decide +kernel
theorem d8_78 : own_DJ b'8 78 .ge 157 81 := by decide +kernel
theorem d8_81 : own_D b'8 81 (.aload 4) 2 83 := by decide +kernel
theorem d8_83 : own_D b'8 83 (.iload 6) 2 85 := by decide +kernel
theorem d8_85 : own_D b'8 85 .laload 1 86 := by decide +kernel
theorem d8_86 : own_D b'8 86 (.lstore 7) 2 88 := by decide +kernel
theorem d8_88 : own_D b'8 88 (.lload 7) 2 90 := by decide +kernel
theorem d8_90 : own_DK b'8 90 32 92 := by decide +kernel
theorem d8_92 : own_D b'8 92 .lushr 1 93 := by decide +kernel
theorem d8_93 : own_D b'8 93 .l2i 1 94 := by decide +kernel
theorem d8_94 : own_D b'8 94 (.istore 9) 2 96 := by decide +kernel
theorem d8_96 : own_D b'8 96 (.lload 7) 2 98 := by decide +kernel
theorem d8_98 : own_D b'8 98 .l2i 1 99 := by decide +kernel
theorem d8_99 : own_D b'8 99 (.istore 10) 2 101 := by decide +kernel
theorem d8_101 : own_D b'8 101 (.iload_n 3) 1 102 := by decide +kernel
theorem d8_102 : own_DZ b'8 102 .le 135 105 := by decide +kernel
theorem d8_105 : own_D b'8 105 (.iload 9) 2 107 := by decide +kernel
theorem d8_107 : own_D b'8 107 (.aload_n 2) 1 108 := by decide +kernel
theorem d8_108 : own_D b'8 108 (.iload_n 3) 1 109 := by decide +kernel
theorem d8_109 : own_DK b'8 109 1 110 := by decide +kernel
theorem d8_110 : own_D b'8 110 .isub 1 111 := by decide +kernel
theorem d8_111 : own_D b'8 111 .iaload 1 112 := by decide +kernel
theorem d8_112 : own_DK b'8 112 1 113 := by decide +kernel
theorem d8_113 : own_D b'8 113 .iadd 1 114 := by decide +kernel
theorem d8_114 : own_DJ b'8 114 .gt 135 117 := by decide +kernel
theorem d8_117 : own_D b'8 117 (.aload_n 2) 1 118 := by decide +kernel
theorem d8_118 : own_D b'8 118 (.iload_n 3) 1 119 := by decide +kernel
theorem d8_119 : own_DK b'8 119 1 120 := by decide +kernel
theorem d8_120 : own_D b'8 120 .isub 1 121 := by decide +kernel
theorem d8_121 : own_D b'8 121 (.aload_n 2) 1 122 := by decide +kernel
theorem d8_122 : own_D b'8 122 (.iload_n 3) 1 123 := by decide +kernel
theorem d8_123 : own_DK b'8 123 1 124 := by decide +kernel
theorem d8_124 : own_D b'8 124 .isub 1 125 := by decide +kernel
theorem d8_125 : own_D b'8 125 .iaload 1 126 := by decide +kernel
theorem d8_126 : own_D b'8 126 (.iload 10) 2 128 := by decide +kernel
theorem d8_128 : own_D b'8 128 (.invokestatic 44) 3 131 := by decide +kernel
theorem d8_131 : own_D b'8 131 .iastore 1 132 := by decide +kernel
theorem d8_132 : own_DG b'8 132 151 := by decide +kernel
theorem d8_135 : own_D b'8 135 (.aload_n 2) 1 136 := by decide +kernel
theorem d8_136 : own_D b'8 136 (.iload_n 3) 1 137 := by decide +kernel
theorem d8_137 : own_DI b'8 137 3 1 140 := by decide +kernel
theorem d8_140 : own_D b'8 140 (.iload 9) 2 142 := by decide +kernel
theorem d8_142 : own_D b'8 142 .iastore 1 143 := by decide +kernel
theorem d8_143 : own_D b'8 143 (.aload_n 2) 1 144 := by decide +kernel
theorem d8_144 : own_D b'8 144 (.iload_n 3) 1 145 := by decide +kernel
theorem d8_145 : own_DI b'8 145 3 1 148 := by decide +kernel
theorem d8_148 : own_D b'8 148 (.iload 10) 2 150 := by decide +kernel
theorem d8_150 : own_D b'8 150 .iastore 1 151 := by decide +kernel
theorem d8_151 : own_DI b'8 151 6 1 154 := by decide +kernel
theorem d8_154 : own_DG b'8 154 74 := by decide +kernel
theorem d8_157 : own_D b'8 157 (.new 28) 3 160 := by decide +kernel
theorem d8_160 : own_D b'8 160 .dup 1 161 := by decide +kernel
theorem d8_161 : own_D b'8 161 (.aload_n 2) 1 162 := by decide +kernel
theorem d8_162 : own_D b'8 162 (.iload_n 3) 1 163 := by decide +kernel
theorem d8_163 : own_D b'8 163 (.invokestatic 17) 3 166 := by decide +kernel
theorem d8_166 : own_D b'8 166 (.invokespecial 50) 3 169 := by decide +kernel
theorem d8_169 : own_D b'8 169 .areturn 1 170 := by decide +kernel
theorem pn_8 : plainFor (⟨"com/example/austere_json/austerejson/CodePointSet$Builder", "build", "()Lcom/example/austere_json/austerejson/CodePointSet;"⟩ : MethodName) = true := plainFor_of_name (by first | (simp [plainName, overriddenIn]; done) | decide +kernel)
theorem rm8 (l : Launch) (Z : State) (a0 : Array Value) (hw : own_hw a0 Z) (a1 : Addr) (b : Addr) (k0 : ClassId) (x0 x1 x2 x3 : Int32) (h0 : Heap) (n0 : Nat) (Z0 : n0 ≤ h0.size) (E1 : Exa Z h0 a1 "com/example/austere_json/austerejson/CodePointSet$Builder") (FR : F'0 Z h0 a1 (.ref b)) (FS : F'1 Z h0 a1 (.int (18 : Int32))) (VB : Arv Z h0 b k0 .int (32 : Int32) [(.int x0), (.int x1), (.int x2), (.int x3), (.int x0), (.int x1), (.int x2), (.int x3), (.int x0), (.int x1), (.int x2), (.int x3), (.int x0), (.int x1), (.int x2), (.int x3), (.int x0), (.int x1), v'0, v'0, v'0, v'0, v'0, v'0, v'0, v'0, v'0, v'0, v'0, v'0, v'0, v'0] v'0) (hok0 : own_ok x0 x1) (hok1 : own_ok x2 x3) :
  own_M l Z [] own_y15 b'8 11 (some (.object "com/example/austere_json/austerejson/CodePointSet")) ⟨4, 5, 35, 84⟩ #[(.ref a1)] h0 (QBD Z x0 x1 x2 x3 h0 n0) := by
 refine own_start (n0 := n0) hw "com/example/austere_json/austerejson/CodePointSet$Builder" (L := #[.val (.ref a1), .unset, .unset, .unset, .unset, .unset, .unset, .unset, .unset, .unset, .unset]) pn_8 (fun {p e s m below meth c s₁} q hx W hml hZ hown hnm hlk hrt X0 e0 N0 => ?_)
 have hby := q.2
 have kp0 := Keep.refl h0 []
 obtain ⟨al, hal⟩ : ∃ z, own_lg x0 x1 = z := ⟨_, rfl⟩
 obtain ⟨be, hbe⟩ : ∃ z, own_lg x2 x3 = z := ⟨_, rfl⟩
 refine own_aln X0 q d8_0 rfl rfl ?_
 refine own_gF X0 q hZ e0 hown (W 29 rfl) FS d8_1 fun T1255 X1255 e1255 => ?_
 refine own_k X1255 q d8_4 (own_stp 6 (fun _ k => XS.idiv X1255.here hx rfl (q.d d8_5) rfl (by decide) k) ?_)
 rw [show ((18 : Int32) / (2 : Int32)) = (9 : Int32) from by decide]
 refine own_let ?_; intro g1256_
 obtain ⟨T1257, h1257, k1257, X1257, e1257, E1257, A1257, st1257⟩ := newP X1255 hx hZ (W 45 rfl) e1255 (g := g1256_) rfl (q.d d8_6) rfl (by decide) (cap := 9) (by decide) (by decide) (by decide) (by decide)
 obtain ⟨b1257, g1257⟩ : ∃ z, z = h0.size := ⟨_, rfl⟩
 rw [← g1257] at A1257 st1257
 have V1257 : Arv Z h1257 b1257 k1257 .long (9 : Int32) [(.long (0 : Int64)), (.long (0 : Int64)), (.long (0 : Int64)), (.long (0 : Int64)), (.long (0 : Int64)), (.long (0 : Int64)), (.long (0 : Int64)), (.long (0 : Int64)), (.long (0 : Int64))] (.long (0 : Int64)) := (Arv.new A1257 (by decide)).pad (pad_rep [] (.long (0 : Int64)) 9)
 have zs1258 := Nat.le_trans Z0 E1257.1
 have kp1258 := kp0.ext E1257
 have g_b1257 : n0 ≤ b1257 := Nat.le_trans Z0 (Nat.le_of_eq g1257.symm)
 have sz_b1257 : h0.size ≤ b1257 := Nat.le_trans kp0.1 (Nat.le_of_eq g1257.symm)
 refine own_stp 8 st1257 (own_asn X1257 q d8_8 rfl (l' := #[.val (.ref a1), .val (.ref b1257), .unset, .unset, .unset, .unset, .unset, .unset, .unset, .unset, .unset]) rfl (own_k X1257 q d8_9 (own_isn X1257 q d8_10 (l' := #[.val (.ref a1), .val (.ref b1257), .val v'0, .unset, .unset, .unset, .unset, .unset, .unset, .unset, .unset]) rfl (own_iln X1257 q d8_11 rfl (own_aln X1257 q d8_12 rfl rfl (own_alen (n := (9 : Int32)) X1257 q hZ e1257 V1257 d8_13 (own_cn X1257 q d8_14 ((tlt ((by decide) : (0 : Int32) < (9 : Int32))).2.1) (own_aln X1257 q d8_17 rfl rfl (own_iln X1257 q d8_18 rfl (own_aln X1257 q d8_19 rfl rfl ?_))))))))))
 refine own_gF X1257 q hZ e1257 hown (W 22 rfl) (FR.ext E1257) d8_20 fun T1259 X1259 e1259 => ?_
 refine own_k X1259 q d8_23 (own_iln X1259 q d8_24 rfl (own_stp 26 (fun _ k => XS.imul X1259.here hx rfl (q.d d8_25) rfl k) ?_))
 rw [show ((2 : Int32) * (0 : Int32)) = (0 : Int32) from by decide]
 refine own_ild (v := (.int x0)) X1259 q hZ e1259 (VB.ext E1257) d8_26 (by decide) rfl (own_stp 28 (fun _ k => XS.i2l X1259.here hx rfl (q.d d8_27) rfl k) (own_k X1259 q d8_28 (own_stp 31 (fun _ k => XS.lshl X1259.here hx rfl (q.d d8_30) rfl k) (own_aln X1259 q d8_31 rfl rfl ?_))))
 refine own_gF X1259 q hZ e1259 hown (W 22 rfl) (FR.ext E1257) d8_32 fun T1260 X1260 e1260 => ?_
 refine own_k X1260 q d8_35 (own_iln X1260 q d8_36 rfl (own_stp 38 (fun _ k => XS.imul X1260.here hx rfl (q.d d8_37) rfl k) ?_))
 rw [show ((2 : Int32) * (0 : Int32)) = (0 : Int32) from by decide]
 refine own_k X1260 q d8_38 (own_iaddk 1 X1260 q d8_39 (by decide) (own_ild (v := (.int x1)) X1260 q hZ e1260 (VB.ext E1257) d8_40 (by decide) rfl (own_stp 42 (fun _ k => XS.i2l X1260.here hx rfl (q.d d8_41) rfl k) (own_stp 43 (fun _ k => XS.lor X1260.here hx rfl (q.d d8_42) rfl k) ?_))))
 rw [show (((x0.toInt64) <<< ((32 : Int32) &&& 0x3f).toInt64) ||| (x1.toInt64)) = al from hal]
 show own_Fin _ _ _ _ (T1260.setTop (mkF m 43 #[.val (.ref a1), .val (.ref b1257), .val v'0, .unset, .unset, .unset, .unset, .unset, .unset, .unset, .unset] [(.long al), v'0, (.ref b1257)]))
 refine own_let ?_; intro g1261_
 obtain ⟨cl1262, Ar1262, q1262, S1262, M1262, H1262, G1262⟩ := id V1257
 obtain ⟨T1263, h1263, X1263, e1263, W1263, st1263⟩ := stJ X1260 hx hZ e1260 Ar1262 (j := (0 : Int32)) (inb_of S1262 ⟨by decide, by decide⟩) (g := g1261_) rfl rfl (q.d d8_43)
 have zs1264 := Nat.le_trans zs1258 (Keep.of_wr W1263).1
 have kp1264 := kp1258.wr W1263 (Or.inr sz_b1257)
 have V1263 : Arv Z h1263 b1257 k1257 .long (9 : Int32) [(.long al), (.long (0 : Int64)), (.long (0 : Int64)), (.long (0 : Int64)), (.long (0 : Int64)), (.long (0 : Int64)), (.long (0 : Int64)), (.long (0 : Int64)), (.long (0 : Int64))] (.long (0 : Int64)) := Arv.set Ar1262 q1262 S1262 M1262 H1262 G1262 rfl W1263 0 rfl (Nat.le_of_ble_eq_true rfl)
 have N1263 := Fr.snoc X1263 N0 g_b1257
 refine own_stp 44 st1263 (own_iik X1263 q d8_44 rfl (show ((0 : Int32) + (1 : Int32)) = (1 : Int32) by decide) (l' := #[.val (.ref a1), .val (.ref b1257), .val v'1, .unset, .unset, .unset, .unset, .unset, .unset, .unset, .unset]) rfl (own_gt X1263 q d8_47 (own_iln X1263 q d8_11 rfl (own_aln X1263 q d8_12 rfl rfl (own_alen (n := (9 : Int32)) X1263 q hZ e1263 V1263 d8_13 (own_cn X1263 q d8_14 ((tlt ((by decide) : (1 : Int32) < (9 : Int32))).2.1) (own_aln X1263 q d8_17 rfl rfl (own_iln X1263 q d8_18 rfl (own_aln X1263 q d8_19 rfl rfl ?_)))))))))
 refine own_gF X1263 q hZ e1263 hown (W 22 rfl) ((FR.ext E1257).other W1263 (Or.inl (own_ne (E1).lt (Nat.le_of_eq g1257.symm)))) d8_20 fun T1265 X1265 e1265 => ?_
 refine own_k X1265 q d8_23 (own_iln X1265 q d8_24 rfl (own_stp 26 (fun _ k => XS.imul X1265.here hx rfl (q.d d8_25) rfl k) ?_))
 rw [show ((2 : Int32) * (1 : Int32)) = (2 : Int32) from by decide]
 refine own_ild (v := (.int x2)) X1265 q hZ e1265 ((VB.ext E1257).other W1263 (own_ne (VB).lt (Nat.le_of_eq g1257.symm))) d8_26 (by decide) rfl (own_stp 28 (fun _ k => XS.i2l X1265.here hx rfl (q.d d8_27) rfl k) (own_k X1265 q d8_28 (own_stp 31 (fun _ k => XS.lshl X1265.here hx rfl (q.d d8_30) rfl k) (own_aln X1265 q d8_31 rfl rfl ?_))))
 refine own_gF X1265 q hZ e1265 hown (W 22 rfl) ((FR.ext E1257).other W1263 (Or.inl (own_ne (E1).lt (Nat.le_of_eq g1257.symm)))) d8_32 fun T1266 X1266 e1266 => ?_
 refine own_k X1266 q d8_35 (own_iln X1266 q d8_36 rfl (own_stp 38 (fun _ k => XS.imul X1266.here hx rfl (q.d d8_37) rfl k) ?_))
 rw [show ((2 : Int32) * (1 : Int32)) = (2 : Int32) from by decide]
 refine own_k X1266 q d8_38 (own_iaddk 3 X1266 q d8_39 (by decide) (own_ild (v := (.int x3)) X1266 q hZ e1266 ((VB.ext E1257).other W1263 (own_ne (VB).lt (Nat.le_of_eq g1257.symm))) d8_40 (by decide) rfl (own_stp 42 (fun _ k => XS.i2l X1266.here hx rfl (q.d d8_41) rfl k) (own_stp 43 (fun _ k => XS.lor X1266.here hx rfl (q.d d8_42) rfl k) ?_))))
 rw [show (((x2.toInt64) <<< ((32 : Int32) &&& 0x3f).toInt64) ||| (x3.toInt64)) = be from hbe]
 show own_Fin _ _ _ _ (T1266.setTop (mkF m 43 #[.val (.ref a1), .val (.ref b1257), .val v'1, .unset, .unset, .unset, .unset, .unset, .unset, .unset, .unset] [(.long be), v'1, (.ref b1257)]))
 refine own_let ?_; intro g1267_
 obtain ⟨cl1268, Ar1268, q1268, S1268, M1268, H1268, G1268⟩ := id V1263
 obtain ⟨T1269, h1269, X1269, e1269, W1269, st1269⟩ := stJ X1266 hx hZ e1266 Ar1268 (j := (1 : Int32)) (inb_of S1268 ⟨by decide, by decide⟩) (g := g1267_) rfl rfl (q.d d8_43)
 have zs1270 := Nat.le_trans zs1264 (Keep.of_wr W1269).1
 have kp1270 := kp1264.wr W1269 (Or.inr sz_b1257)
 have V1269 : Arv Z h1269 b1257 k1257 .long (9 : Int32) [(.long al), (.long be), (.long (0 : Int64)), (.long (0 : Int64)), (.long (0 : Int64)), (.long (0 : Int64)), (.long (0 : Int64)), (.long (0 : Int64)), (.long (0 : Int64))] (.long (0 : Int64)) := Arv.set Ar1268 q1268 S1268 M1268 H1268 G1268 rfl W1269 1 rfl (Nat.le_of_ble_eq_true rfl)
 have N1269 := Fr.snoc X1269 N1263 g_b1257
 refine own_stp 44 st1269 (own_iik X1269 q d8_44 rfl (show ((1 : Int32) + (1 : Int32)) = (2 : Int32) by decide) (l' := #[.val (.ref a1), .val (.ref b1257), .val v'2, .unset, .unset, .unset, .unset, .unset, .unset, .unset, .unset]) rfl (own_gt X1269 q d8_47 (own_iln X1269 q d8_11 rfl (own_aln X1269 q d8_12 rfl rfl (own_alen (n := (9 : Int32)) X1269 q hZ e1269 V1269 d8_13 (own_cn X1269 q d8_14 ((tlt ((by decide) : (2 : Int32) < (9 : Int32))).2.1) (own_aln X1269 q d8_17 rfl rfl (own_iln X1269 q d8_18 rfl (own_aln X1269 q d8_19 rfl rfl ?_)))))))))
 refine own_gF X1269 q hZ e1269 hown (W 22 rfl) (((FR.ext E1257).other W1263 (Or.inl (own_ne (E1).lt (Nat.le_of_eq g1257.symm)))).other W1269 (Or.inl (own_ne (E1).lt (Nat.le_of_eq g1257.symm)))) d8_20 fun T1271 X1271 e1271 => ?_
 refine own_k X1271 q d8_23 (own_iln X1271 q d8_24 rfl (own_stp 26 (fun _ k => XS.imul X1271.here hx rfl (q.d d8_25) rfl k) ?_))
 rw [show ((2 : Int32) * (2 : Int32)) = (4 : Int32) from by decide]
 refine own_ild (v := (.int x0)) X1271 q hZ e1271 (((VB.ext E1257).other W1263 (own_ne (VB).lt (Nat.le_of_eq g1257.symm))).other W1269 (own_ne (VB).lt (Nat.le_of_eq g1257.symm))) d8_26 (by decide) rfl (own_stp 28 (fun _ k => XS.i2l X1271.here hx rfl (q.d d8_27) rfl k) (own_k X1271 q d8_28 (own_stp 31 (fun _ k => XS.lshl X1271.here hx rfl (q.d d8_30) rfl k) (own_aln X1271 q d8_31 rfl rfl ?_))))
 refine own_gF X1271 q hZ e1271 hown (W 22 rfl) (((FR.ext E1257).other W1263 (Or.inl (own_ne (E1).lt (Nat.le_of_eq g1257.symm)))).other W1269 (Or.inl (own_ne (E1).lt (Nat.le_of_eq g1257.symm)))) d8_32 fun T1272 X1272 e1272 => ?_
 refine own_k X1272 q d8_35 (own_iln X1272 q d8_36 rfl (own_stp 38 (fun _ k => XS.imul X1272.here hx rfl (q.d d8_37) rfl k) ?_))
 rw [show ((2 : Int32) * (2 : Int32)) = (4 : Int32) from by decide]
 refine own_k X1272 q d8_38 (own_iaddk 5 X1272 q d8_39 (by decide) (own_ild (v := (.int x1)) X1272 q hZ e1272 (((VB.ext E1257).other W1263 (own_ne (VB).lt (Nat.le_of_eq g1257.symm))).other W1269 (own_ne (VB).lt (Nat.le_of_eq g1257.symm))) d8_40 (by decide) rfl (own_stp 42 (fun _ k => XS.i2l X1272.here hx rfl (q.d d8_41) rfl k) (own_stp 43 (fun _ k => XS.lor X1272.here hx rfl (q.d d8_42) rfl k) ?_))))
 rw [show (((x0.toInt64) <<< ((32 : Int32) &&& 0x3f).toInt64) ||| (x1.toInt64)) = al from hal]
 show own_Fin _ _ _ _ (T1272.setTop (mkF m 43 #[.val (.ref a1), .val (.ref b1257), .val v'2, .unset, .unset, .unset, .unset, .unset, .unset, .unset, .unset] [(.long al), v'2, (.ref b1257)]))
 refine own_let ?_; intro g1273_
 obtain ⟨cl1274, Ar1274, q1274, S1274, M1274, H1274, G1274⟩ := id V1269
 obtain ⟨T1275, h1275, X1275, e1275, W1275, st1275⟩ := stJ X1272 hx hZ e1272 Ar1274 (j := (2 : Int32)) (inb_of S1274 ⟨by decide, by decide⟩) (g := g1273_) rfl rfl (q.d d8_43)
 have zs1276 := Nat.le_trans zs1270 (Keep.of_wr W1275).1
 have kp1276 := kp1270.wr W1275 (Or.inr sz_b1257)
 have V1275 : Arv Z h1275 b1257 k1257 .long (9 : Int32) [(.long al), (.long be), (.long al), (.long (0 : Int64)), (.long (0 : Int64)), (.long (0 : Int64)), (.long (0 : Int64)), (.long (0 : Int64)), (.long (0 : Int64))] (.long (0 : Int64)) := Arv.set Ar1274 q1274 S1274 M1274 H1274 G1274 rfl W1275 2 rfl (Nat.le_of_ble_eq_true rfl)
 have N1275 := Fr.snoc X1275 N1269 g_b1257
 refine own_stp 44 st1275 (own_iik X1275 q d8_44 rfl (show ((2 : Int32) + (1 : Int32)) = (3 : Int32) by decide) (l' := #[.val (.ref a1), .val (.ref b1257), .val v'3, .unset, .unset, .unset, .unset, .unset, .unset, .unset, .unset]) rfl (own_gt X1275 q d8_47 (own_iln X1275 q d8_11 rfl (own_aln X1275 q d8_12 rfl rfl (own_alen (n := (9 : Int32)) X1275 q hZ e1275 V1275 d8_13 (own_cn X1275 q d8_14 ((tlt ((by decide) : (3 : Int32) < (9 : Int32))).2.1) (own_aln X1275 q d8_17 rfl rfl (own_iln X1275 q d8_18 rfl (own_aln X1275 q d8_19 rfl rfl ?_)))))))))
 refine own_gF X1275 q hZ e1275 hown (W 22 rfl) ((((FR.ext E1257).other W1263 (Or.inl (own_ne (E1).lt (Nat.le_of_eq g1257.symm)))).other W1269 (Or.inl (own_ne (E1).lt (Nat.le_of_eq g1257.symm)))).other W1275 (Or.inl (own_ne (E1).lt (Nat.le_of_eq g1257.symm)))) d8_20 fun T1277 X1277 e1277 => ?_
 refine own_k X1277 q d8_23 (own_iln X1277 q d8_24 rfl (own_stp 26 (fun _ k => XS.imul X1277.here hx rfl (q.d d8_25) rfl k) ?_))
 rw [show ((2 : Int32) * (3 : Int32)) = (6 : Int32) from by decide]
 refine own_ild (v := (.int x2)) X1277 q hZ e1277 ((((VB.ext E1257).other W1263 (own_ne (VB).lt (Nat.le_of_eq g1257.symm))).other W1269 (own_ne (VB).lt (Nat.le_of_eq g1257.symm))).other W1275 (own_ne (VB).lt (Nat.le_of_eq g1257.symm))) d8_26 (by decide) rfl (own_stp 28 (fun _ k => XS.i2l X1277.here hx rfl (q.d d8_27) rfl k) (own_k X1277 q d8_28 (own_stp 31 (fun _ k => XS.lshl X1277.here hx rfl (q.d d8_30) rfl k) (own_aln X1277 q d8_31 rfl rfl ?_))))
 refine own_gF X1277 q hZ e1277 hown (W 22 rfl) ((((FR.ext E1257).other W1263 (Or.inl (own_ne (E1).lt (Nat.le_of_eq g1257.symm)))).other W1269 (Or.inl (own_ne (E1).lt (Nat.le_of_eq g1257.symm)))).other W1275 (Or.inl (own_ne (E1).lt (Nat.le_of_eq g1257.symm)))) d8_32 fun T1278 X1278 e1278 => ?_
 refine own_k X1278 q d8_35 (own_iln X1278 q d8_36 rfl (own_stp 38 (fun _ k => XS.imul X1278.here hx rfl (q.d d8_37) rfl k) ?_))
 rw [show ((2 : Int32) * (3 : Int32)) = (6 : Int32) from by decide]
 refine own_k X1278 q d8_38 (own_iaddk 7 X1278 q d8_39 (by decide) (own_ild (v := (.int x3)) X1278 q hZ e1278 ((((VB.ext E1257).other W1263 (own_ne (VB).lt (Nat.le_of_eq g1257.symm))).other W1269 (own_ne (VB).lt (Nat.le_of_eq g1257.symm))).other W1275 (own_ne (VB).lt (Nat.le_of_eq g1257.symm))) d8_40 (by decide) rfl (own_stp 42 (fun _ k => XS.i2l X1278.here hx rfl (q.d d8_41) rfl k) (own_stp 43 (fun _ k => XS.lor X1278.here hx rfl (q.d d8_42) rfl k) ?_))))
 rw [show (((x2.toInt64) <<< ((32 : Int32) &&& 0x3f).toInt64) ||| (x3.toInt64)) = be from hbe]
 show own_Fin _ _ _ _ (T1278.setTop (mkF m 43 #[.val (.ref a1), .val (.ref b1257), .val v'3, .unset, .unset, .unset, .unset, .unset, .unset, .unset, .unset] [(.long be), v'3, (.ref b1257)]))
 refine own_let ?_; intro g1279_
 obtain ⟨cl1280, Ar1280, q1280, S1280, M1280, H1280, G1280⟩ := id V1275
 obtain ⟨T1281, h1281, X1281, e1281, W1281, st1281⟩ := stJ X1278 hx hZ e1278 Ar1280 (j := (3 : Int32)) (inb_of S1280 ⟨by decide, by decide⟩) (g := g1279_) rfl rfl (q.d d8_43)
 have zs1282 := Nat.le_trans zs1276 (Keep.of_wr W1281).1
 have kp1282 := kp1276.wr W1281 (Or.inr sz_b1257)
 have V1281 : Arv Z h1281 b1257 k1257 .long (9 : Int32) [(.long al), (.long be), (.long al), (.long be), (.long (0 : Int64)), (.long (0 : Int64)), (.long (0 : Int64)), (.long (0 : Int64)), (.long (0 : Int64))] (.long (0 : Int64)) := Arv.set Ar1280 q1280 S1280 M1280 H1280 G1280 rfl W1281 3 rfl (Nat.le_of_ble_eq_true rfl)
 have N1281 := Fr.snoc X1281 N1275 g_b1257
 refine own_stp 44 st1281 (own_iik X1281 q d8_44 rfl (show ((3 : Int32) + (1 : Int32)) = (4 : Int32) by decide) (l' := #[.val (.ref a1), .val (.ref b1257), .val v'4, .unset, .unset, .unset, .unset, .unset, .unset, .unset, .unset]) rfl (own_gt X1281 q d8_47 (own_iln X1281 q d8_11 rfl (own_aln X1281 q d8_12 rfl rfl (own_alen (n := (9 : Int32)) X1281 q hZ e1281 V1281 d8_13 (own_cn X1281 q d8_14 ((tlt ((by decide) : (4 : Int32) < (9 : Int32))).2.1) (own_aln X1281 q d8_17 rfl rfl (own_iln X1281 q d8_18 rfl (own_aln X1281 q d8_19 rfl rfl ?_)))))))))
 refine own_gF X1281 q hZ e1281 hown (W 22 rfl) (((((FR.ext E1257).other W1263 (Or.inl (own_ne (E1).lt (Nat.le_of_eq g1257.symm)))).other W1269 (Or.inl (own_ne (E1).lt (Nat.le_of_eq g1257.symm)))).other W1275 (Or.inl (own_ne (E1).lt (Nat.le_of_eq g1257.symm)))).other W1281 (Or.inl (own_ne (E1).lt (Nat.le_of_eq g1257.symm)))) d8_20 fun T1283 X1283 e1283 => ?_
 refine own_k X1283 q d8_23 (own_iln X1283 q d8_24 rfl (own_stp 26 (fun _ k => XS.imul X1283.here hx rfl (q.d d8_25) rfl k) ?_))
 rw [show ((2 : Int32) * (4 : Int32)) = (8 : Int32) from by decide]
 refine own_ild (v := (.int x0)) X1283 q hZ e1283 (((((VB.ext E1257).other W1263 (own_ne (VB).lt (Nat.le_of_eq g1257.symm))).other W1269 (own_ne (VB).lt (Nat.le_of_eq g1257.symm))).other W1275 (own_ne (VB).lt (Nat.le_of_eq g1257.symm))).other W1281 (own_ne (VB).lt (Nat.le_of_eq g1257.symm))) d8_26 (by decide) rfl (own_stp 28 (fun _ k => XS.i2l X1283.here hx rfl (q.d d8_27) rfl k) (own_k X1283 q d8_28 (own_stp 31 (fun _ k => XS.lshl X1283.here hx rfl (q.d d8_30) rfl k) (own_aln X1283 q d8_31 rfl rfl ?_))))
 refine own_gF X1283 q hZ e1283 hown (W 22 rfl) (((((FR.ext E1257).other W1263 (Or.inl (own_ne (E1).lt (Nat.le_of_eq g1257.symm)))).other W1269 (Or.inl (own_ne (E1).lt (Nat.le_of_eq g1257.symm)))).other W1275 (Or.inl (own_ne (E1).lt (Nat.le_of_eq g1257.symm)))).other W1281 (Or.inl (own_ne (E1).lt (Nat.le_of_eq g1257.symm)))) d8_32 fun T1284 X1284 e1284 => ?_
 refine own_k X1284 q d8_35 (own_iln X1284 q d8_36 rfl (own_stp 38 (fun _ k => XS.imul X1284.here hx rfl (q.d d8_37) rfl k) ?_))
 rw [show ((2 : Int32) * (4 : Int32)) = (8 : Int32) from by decide]
 refine own_k X1284 q d8_38 (own_iaddk 9 X1284 q d8_39 (by decide) (own_ild (v := (.int x1)) X1284 q hZ e1284 (((((VB.ext E1257).other W1263 (own_ne (VB).lt (Nat.le_of_eq g1257.symm))).other W1269 (own_ne (VB).lt (Nat.le_of_eq g1257.symm))).other W1275 (own_ne (VB).lt (Nat.le_of_eq g1257.symm))).other W1281 (own_ne (VB).lt (Nat.le_of_eq g1257.symm))) d8_40 (by decide) rfl (own_stp 42 (fun _ k => XS.i2l X1284.here hx rfl (q.d d8_41) rfl k) (own_stp 43 (fun _ k => XS.lor X1284.here hx rfl (q.d d8_42) rfl k) ?_))))
 rw [show (((x0.toInt64) <<< ((32 : Int32) &&& 0x3f).toInt64) ||| (x1.toInt64)) = al from hal]
 show own_Fin _ _ _ _ (T1284.setTop (mkF m 43 #[.val (.ref a1), .val (.ref b1257), .val v'4, .unset, .unset, .unset, .unset, .unset, .unset, .unset, .unset] [(.long al), v'4, (.ref b1257)]))
 refine own_let ?_; intro g1285_
 obtain ⟨cl1286, Ar1286, q1286, S1286, M1286, H1286, G1286⟩ := id V1281
 obtain ⟨T1287, h1287, X1287, e1287, W1287, st1287⟩ := stJ X1284 hx hZ e1284 Ar1286 (j := (4 : Int32)) (inb_of S1286 ⟨by decide, by decide⟩) (g := g1285_) rfl rfl (q.d d8_43)
 have zs1288 := Nat.le_trans zs1282 (Keep.of_wr W1287).1
 have kp1288 := kp1282.wr W1287 (Or.inr sz_b1257)
 have V1287 : Arv Z h1287 b1257 k1257 .long (9 : Int32) [(.long al), (.long be), (.long al), (.long be), (.long al), (.long (0 : Int64)), (.long (0 : Int64)), (.long (0 : Int64)), (.long (0 : Int64))] (.long (0 : Int64)) := Arv.set Ar1286 q1286 S1286 M1286 H1286 G1286 rfl W1287 4 rfl (Nat.le_of_ble_eq_true rfl)
 have N1287 := Fr.snoc X1287 N1281 g_b1257
 refine own_stp 44 st1287 (own_iik X1287 q d8_44 rfl (show ((4 : Int32) + (1 : Int32)) = (5 : Int32) by decide) (l' := #[.val (.ref a1), .val (.ref b1257), .val v'5, .unset, .unset, .unset, .unset, .unset, .unset, .unset, .unset]) rfl (own_gt X1287 q d8_47 (own_iln X1287 q d8_11 rfl (own_aln X1287 q d8_12 rfl rfl (own_alen (n := (9 : Int32)) X1287 q hZ e1287 V1287 d8_13 (own_cn X1287 q d8_14 ((tlt ((by decide) : (5 : Int32) < (9 : Int32))).2.1) (own_aln X1287 q d8_17 rfl rfl (own_iln X1287 q d8_18 rfl (own_aln X1287 q d8_19 rfl rfl ?_)))))))))
 refine own_gF X1287 q hZ e1287 hown (W 22 rfl) ((((((FR.ext E1257).other W1263 (Or.inl (own_ne (E1).lt (Nat.le_of_eq g1257.symm)))).other W1269 (Or.inl (own_ne (E1).lt (Nat.le_of_eq g1257.symm)))).other W1275 (Or.inl (own_ne (E1).lt (Nat.le_of_eq g1257.symm)))).other W1281 (Or.inl (own_ne (E1).lt (Nat.le_of_eq g1257.symm)))).other W1287 (Or.inl (own_ne (E1).lt (Nat.le_of_eq g1257.symm)))) d8_20 fun T1289 X1289 e1289 => ?_
 refine own_k X1289 q d8_23 (own_iln X1289 q d8_24 rfl (own_stp 26 (fun _ k => XS.imul X1289.here hx rfl (q.d d8_25) rfl k) ?_))
 rw [show ((2 : Int32) * (5 : Int32)) = (10 : Int32) from by decide]
 refine own_ild (v := (.int x2)) X1289 q hZ e1289 ((((((VB.ext E1257).other W1263 (own_ne (VB).lt (Nat.le_of_eq g1257.symm))).other W1269 (own_ne (VB).lt (Nat.le_of_eq g1257.symm))).other W1275 (own_ne (VB).lt (Nat.le_of_eq g1257.symm))).other W1281 (own_ne (VB).lt (Nat.le_of_eq g1257.symm))).other W1287 (own_ne (VB).lt (Nat.le_of_eq g1257.symm))) d8_26 (by decide) rfl (own_stp 28 (fun _ k => XS.i2l X1289.here hx rfl (q.d d8_27) rfl k) (own_k X1289 q d8_28 (own_stp 31 (fun _ k => XS.lshl X1289.here hx rfl (q.d d8_30) rfl k) (own_aln X1289 q d8_31 rfl rfl ?_))))
 refine own_gF X1289 q hZ e1289 hown (W 22 rfl) ((((((FR.ext E1257).other W1263 (Or.inl (own_ne (E1).lt (Nat.le_of_eq g1257.symm)))).other W1269 (Or.inl (own_ne (E1).lt (Nat.le_of_eq g1257.symm)))).other W1275 (Or.inl (own_ne (E1).lt (Nat.le_of_eq g1257.symm)))).other W1281 (Or.inl (own_ne (E1).lt (Nat.le_of_eq g1257.symm)))).other W1287 (Or.inl (own_ne (E1).lt (Nat.le_of_eq g1257.symm)))) d8_32 fun T1290 X1290 e1290 => ?_
 refine own_k X1290 q d8_35 (own_iln X1290 q d8_36 rfl (own_stp 38 (fun _ k => XS.imul X1290.here hx rfl (q.d d8_37) rfl k) ?_))
 rw [show ((2 : Int32) * (5 : Int32)) = (10 : Int32) from by decide]
 refine own_k X1290 q d8_38 (own_iaddk 11 X1290 q d8_39 (by decide) (own_ild (v := (.int x3)) X1290 q hZ e1290 ((((((VB.ext E1257).other W1263 (own_ne (VB).lt (Nat.le_of_eq g1257.symm))).other W1269 (own_ne (VB).lt (Nat.le_of_eq g1257.symm))).other W1275 (own_ne (VB).lt (Nat.le_of_eq g1257.symm))).other W1281 (own_ne (VB).lt (Nat.le_of_eq g1257.symm))).other W1287 (own_ne (VB).lt (Nat.le_of_eq g1257.symm))) d8_40 (by decide) rfl (own_stp 42 (fun _ k => XS.i2l X1290.here hx rfl (q.d d8_41) rfl k) (own_stp 43 (fun _ k => XS.lor X1290.here hx rfl (q.d d8_42) rfl k) ?_))))
 rw [show (((x2.toInt64) <<< ((32 : Int32) &&& 0x3f).toInt64) ||| (x3.toInt64)) = be from hbe]
 show own_Fin _ _ _ _ (T1290.setTop (mkF m 43 #[.val (.ref a1), .val (.ref b1257), .val v'5, .unset, .unset, .unset, .unset, .unset, .unset, .unset, .unset] [(.long be), v'5, (.ref b1257)]))
 refine own_let ?_; intro g1291_
 obtain ⟨cl1292, Ar1292, q1292, S1292, M1292, H1292, G1292⟩ := id V1287
 obtain ⟨T1293, h1293, X1293, e1293, W1293, st1293⟩ := stJ X1290 hx hZ e1290 Ar1292 (j := (5 : Int32)) (inb_of S1292 ⟨by decide, by decide⟩) (g := g1291_) rfl rfl (q.d d8_43)
 have zs1294 := Nat.le_trans zs1288 (Keep.of_wr W1293).1
 have kp1294 := kp1288.wr W1293 (Or.inr sz_b1257)
 have V1293 : Arv Z h1293 b1257 k1257 .long (9 : Int32) [(.long al), (.long be), (.long al), (.long be), (.long al), (.long be), (.long (0 : Int64)), (.long (0 : Int64)), (.long (0 : Int64))] (.long (0 : Int64)) := Arv.set Ar1292 q1292 S1292 M1292 H1292 G1292 rfl W1293 5 rfl (Nat.le_of_ble_eq_true rfl)
 have N1293 := Fr.snoc X1293 N1287 g_b1257
 refine own_stp 44 st1293 (own_iik X1293 q d8_44 rfl (show ((5 : Int32) + (1 : Int32)) = (6 : Int32) by decide) (l' := #[.val (.ref a1), .val (.ref b1257), .val v'6, .unset, .unset, .unset, .unset, .unset, .unset, .unset, .unset]) rfl (own_gt X1293 q d8_47 (own_iln X1293 q d8_11 rfl (own_aln X1293 q d8_12 rfl rfl (own_alen (n := (9 : Int32)) X1293 q hZ e1293 V1293 d8_13 (own_cn X1293 q d8_14 ((tlt ((by decide) : (6 : Int32) < (9 : Int32))).2.1) (own_aln X1293 q d8_17 rfl rfl (own_iln X1293 q d8_18 rfl (own_aln X1293 q d8_19 rfl rfl ?_)))))))))
 refine own_gF X1293 q hZ e1293 hown (W 22 rfl) (((((((FR.ext E1257).other W1263 (Or.inl (own_ne (E1).lt (Nat.le_of_eq g1257.symm)))).other W1269 (Or.inl (own_ne (E1).lt (Nat.le_of_eq g1257.symm)))).other W1275 (Or.inl (own_ne (E1).lt (Nat.le_of_eq g1257.symm)))).other W1281 (Or.inl (own_ne (E1).lt (Nat.le_of_eq g1257.symm)))).other W1287 (Or.inl (own_ne (E1).lt (Nat.le_of_eq g1257.symm)))).other W1293 (Or.inl (own_ne (E1).lt (Nat.le_of_eq g1257.symm)))) d8_20 fun T1295 X1295 e1295 => ?_
 refine own_k X1295 q d8_23 (own_iln X1295 q d8_24 rfl (own_stp 26 (fun _ k => XS.imul X1295.here hx rfl (q.d d8_25) rfl k) ?_))
 rw [show ((2 : Int32) * (6 : Int32)) = (12 : Int32) from by decide]
 refine own_ild (v := (.int x0)) X1295 q hZ e1295 (((((((VB.ext E1257).other W1263 (own_ne (VB).lt (Nat.le_of_eq g1257.symm))).other W1269 (own_ne (VB).lt (Nat.le_of_eq g1257.symm))).other W1275 (own_ne (VB).lt (Nat.le_of_eq g1257.symm))).other W1281 (own_ne (VB).lt (Nat.le_of_eq g1257.symm))).other W1287 (own_ne (VB).lt (Nat.le_of_eq g1257.symm))).other W1293 (own_ne (VB).lt (Nat.le_of_eq g1257.symm))) d8_26 (by decide) rfl (own_stp 28 (fun _ k => XS.i2l X1295.here hx rfl (q.d d8_27) rfl k) (own_k X1295 q d8_28 (own_stp 31 (fun _ k => XS.lshl X1295.here hx rfl (q.d d8_30) rfl k) (own_aln X1295 q d8_31 rfl rfl ?_))))
 refine own_gF X1295 q hZ e1295 hown (W 22 rfl) (((((((FR.ext E1257).other W1263 (Or.inl (own_ne (E1).lt (Nat.le_of_eq g1257.symm)))).other W1269 (Or.inl (own_ne (E1).lt (Nat.le_of_eq g1257.symm)))).other W1275 (Or.inl (own_ne (E1).lt (Nat.le_of_eq g1257.symm)))).other W1281 (Or.inl (own_ne (E1).lt (Nat.le_of_eq g1257.symm)))).other W1287 (Or.inl (own_ne (E1).lt (Nat.le_of_eq g1257.symm)))).other W1293 (Or.inl (own_ne (E1).lt (Nat.le_of_eq g1257.symm)))) d8_32 fun T1296 X1296 e1296 => ?_
 refine own_k X1296 q d8_35 (own_iln X1296 q d8_36 rfl (own_stp 38 (fun _ k => XS.imul X1296.here hx rfl (q.d d8_37) rfl k) ?_))
 rw [show ((2 : Int32) * (6 : Int32)) = (12 : Int32) from by decide]
 refine own_k X1296 q d8_38 (own_iaddk 13 X1296 q d8_39 (by decide) (own_ild (v := (.int x1)) X1296 q hZ e1296 (((((((VB.ext E1257).other W1263 (own_ne (VB).lt (Nat.le_of_eq g1257.symm))).other W1269 (own_ne (VB).lt (Nat.le_of_eq g1257.symm))).other W1275 (own_ne (VB).lt (Nat.le_of_eq g1257.symm))).other W1281 (own_ne (VB).lt (Nat.le_of_eq g1257.symm))).other W1287 (own_ne (VB).lt (Nat.le_of_eq g1257.symm))).other W1293 (own_ne (VB).lt (Nat.le_of_eq g1257.symm))) d8_40 (by decide) rfl (own_stp 42 (fun _ k => XS.i2l X1296.here hx rfl (q.d d8_41) rfl k) (own_stp 43 (fun _ k => XS.lor X1296.here hx rfl (q.d d8_42) rfl k) ?_))))
 rw [show (((x0.toInt64) <<< ((32 : Int32) &&& 0x3f).toInt64) ||| (x1.toInt64)) = al from hal]
 show own_Fin _ _ _ _ (T1296.setTop (mkF m 43 #[.val (.ref a1), .val (.ref b1257), .val v'6, .unset, .unset, .unset, .unset, .unset, .unset, .unset, .unset] [(.long al), v'6, (.ref b1257)]))
 refine own_let ?_; intro g1297_
 obtain ⟨cl1298, Ar1298, q1298, S1298, M1298, H1298, G1298⟩ := id V1293
 obtain ⟨T1299, h1299, X1299, e1299, W1299, st1299⟩ := stJ X1296 hx hZ e1296 Ar1298 (j := (6 : Int32)) (inb_of S1298 ⟨by decide, by decide⟩) (g := g1297_) rfl rfl (q.d d8_43)
 have zs1300 := Nat.le_trans zs1294 (Keep.of_wr W1299).1
 have kp1300 := kp1294.wr W1299 (Or.inr sz_b1257)
 have V1299 : Arv Z h1299 b1257 k1257 .long (9 : Int32) [(.long al), (.long be), (.long al), (.long be), (.long al), (.long be), (.long al), (.long (0 : Int64)), (.long (0 : Int64))] (.long (0 : Int64)) := Arv.set Ar1298 q1298 S1298 M1298 H1298 G1298 rfl W1299 6 rfl (Nat.le_of_ble_eq_true rfl)
 have N1299 := Fr.snoc X1299 N1293 g_b1257
 refine own_stp 44 st1299 (own_iik X1299 q d8_44 rfl (show ((6 : Int32) + (1 : Int32)) = (7 : Int32) by decide) (l' := #[.val (.ref a1), .val (.ref b1257), .val v'7, .unset, .unset, .unset, .unset, .unset, .unset, .unset, .unset]) rfl (own_gt X1299 q d8_47 (own_iln X1299 q d8_11 rfl (own_aln X1299 q d8_12 rfl rfl (own_alen (n := (9 : Int32)) X1299 q hZ e1299 V1299 d8_13 (own_cn X1299 q d8_14 ((tlt ((by decide) : (7 : Int32) < (9 : Int32))).2.1) (own_aln X1299 q d8_17 rfl rfl (own_iln X1299 q d8_18 rfl (own_aln X1299 q d8_19 rfl rfl ?_)))))))))
 refine own_gF X1299 q hZ e1299 hown (W 22 rfl) ((((((((FR.ext E1257).other W1263 (Or.inl (own_ne (E1).lt (Nat.le_of_eq g1257.symm)))).other W1269 (Or.inl (own_ne (E1).lt (Nat.le_of_eq g1257.symm)))).other W1275 (Or.inl (own_ne (E1).lt (Nat.le_of_eq g1257.symm)))).other W1281 (Or.inl (own_ne (E1).lt (Nat.le_of_eq g1257.symm)))).other W1287 (Or.inl (own_ne (E1).lt (Nat.le_of_eq g1257.symm)))).other W1293 (Or.inl (own_ne (E1).lt (Nat.le_of_eq g1257.symm)))).other W1299 (Or.inl (own_ne (E1).lt (Nat.le_of_eq g1257.symm)))) d8_20 fun T1301 X1301 e1301 => ?_
 refine own_k X1301 q d8_23 (own_iln X1301 q d8_24 rfl (own_stp 26 (fun _ k => XS.imul X1301.here hx rfl (q.d d8_25) rfl k) ?_))
 rw [show ((2 : Int32) * (7 : Int32)) = (14 : Int32) from by decide]
 refine own_ild (v := (.int x2)) X1301 q hZ e1301 ((((((((VB.ext E1257).other W1263 (own_ne (VB).lt (Nat.le_of_eq g1257.symm))).other W1269 (own_ne (VB).lt (Nat.le_of_eq g1257.symm))).other W1275 (own_ne (VB).lt (Nat.le_of_eq g1257.symm))).other W1281 (own_ne (VB).lt (Nat.le_of_eq g1257.symm))).other W1287 (own_ne (VB).lt (Nat.le_of_eq g1257.symm))).other W1293 (own_ne (VB).lt (Nat.le_of_eq g1257.symm))).other W1299 (own_ne (VB).lt (Nat.le_of_eq g1257.symm))) d8_26 (by decide) rfl (own_stp 28 (fun _ k => XS.i2l X1301.here hx rfl (q.d d8_27) rfl k) (own_k X1301 q d8_28 (own_stp 31 (fun _ k => XS.lshl X1301.here hx rfl (q.d d8_30) rfl k) (own_aln X1301 q d8_31 rfl rfl ?_))))
 refine own_gF X1301 q hZ e1301 hown (W 22 rfl) ((((((((FR.ext E1257).other W1263 (Or.inl (own_ne (E1).lt (Nat.le_of_eq g1257.symm)))).other W1269 (Or.inl (own_ne (E1).lt (Nat.le_of_eq g1257.symm)))).other W1275 (Or.inl (own_ne (E1).lt (Nat.le_of_eq g1257.symm)))).other W1281 (Or.inl (own_ne (E1).lt (Nat.le_of_eq g1257.symm)))).other W1287 (Or.inl (own_ne (E1).lt (Nat.le_of_eq g1257.symm)))).other W1293 (Or.inl (own_ne (E1).lt (Nat.le_of_eq g1257.symm)))).other W1299 (Or.inl (own_ne (E1).lt (Nat.le_of_eq g1257.symm)))) d8_32 fun T1302 X1302 e1302 => ?_
 refine own_k X1302 q d8_35 (own_iln X1302 q d8_36 rfl (own_stp 38 (fun _ k => XS.imul X1302.here hx rfl (q.d d8_37) rfl k) ?_))
 rw [show ((2 : Int32) * (7 : Int32)) = (14 : Int32) from by decide]
 refine own_k X1302 q d8_38 (own_iaddk 15 X1302 q d8_39 (by decide) (own_ild (v := (.int x3)) X1302 q hZ e1302 ((((((((VB.ext E1257).other W1263 (own_ne (VB).lt (Nat.le_of_eq g1257.symm))).other W1269 (own_ne (VB).lt (Nat.le_of_eq g1257.symm))).other W1275 (own_ne (VB).lt (Nat.le_of_eq g1257.symm))).other W1281 (own_ne (VB).lt (Nat.le_of_eq g1257.symm))).other W1287 (own_ne (VB).lt (Nat.le_of_eq g1257.symm))).other W1293 (own_ne (VB).lt (Nat.le_of_eq g1257.symm))).other W1299 (own_ne (VB).lt (Nat.le_of_eq g1257.symm))) d8_40 (by decide) rfl (own_stp 42 (fun _ k => XS.i2l X1302.here hx rfl (q.d d8_41) rfl k) (own_stp 43 (fun _ k => XS.lor X1302.here hx rfl (q.d d8_42) rfl k) ?_))))
 rw [show (((x2.toInt64) <<< ((32 : Int32) &&& 0x3f).toInt64) ||| (x3.toInt64)) = be from hbe]
 show own_Fin _ _ _ _ (T1302.setTop (mkF m 43 #[.val (.ref a1), .val (.ref b1257), .val v'7, .unset, .unset, .unset, .unset, .unset, .unset, .unset, .unset] [(.long be), v'7, (.ref b1257)]))
 refine own_let ?_; intro g1303_
 obtain ⟨cl1304, Ar1304, q1304, S1304, M1304, H1304, G1304⟩ := id V1299
 obtain ⟨T1305, h1305, X1305, e1305, W1305, st1305⟩ := stJ X1302 hx hZ e1302 Ar1304 (j := (7 : Int32)) (inb_of S1304 ⟨by decide, by decide⟩) (g := g1303_) rfl rfl (q.d d8_43)
 have zs1306 := Nat.le_trans zs1300 (Keep.of_wr W1305).1
 have kp1306 := kp1300.wr W1305 (Or.inr sz_b1257)
 have V1305 : Arv Z h1305 b1257 k1257 .long (9 : Int32) [(.long al), (.long be), (.long al), (.long be), (.long al), (.long be), (.long al), (.long be), (.long (0 : Int64))] (.long (0 : Int64)) := Arv.set Ar1304 q1304 S1304 M1304 H1304 G1304 rfl W1305 7 rfl (Nat.le_of_ble_eq_true rfl)
 have N1305 := Fr.snoc X1305 N1299 g_b1257
 refine own_stp 44 st1305 (own_iik X1305 q d8_44 rfl (show ((7 : Int32) + (1 : Int32)) = (8 : Int32) by decide) (l' := #[.val (.ref a1), .val (.ref b1257), .val v'8, .unset, .unset, .unset, .unset, .unset, .unset, .unset, .unset]) rfl (own_gt X1305 q d8_47 (own_iln X1305 q d8_11 rfl (own_aln X1305 q d8_12 rfl rfl (own_alen (n := (9 : Int32)) X1305 q hZ e1305 V1305 d8_13 (own_cn X1305 q d8_14 ((tlt ((by decide) : (8 : Int32) < (9 : Int32))).2.1) (own_aln X1305 q d8_17 rfl rfl (own_iln X1305 q d8_18 rfl (own_aln X1305 q d8_19 rfl rfl ?_)))))))))
 refine own_gF X1305 q hZ e1305 hown (W 22 rfl) (((((((((FR.ext E1257).other W1263 (Or.inl (own_ne (E1).lt (Nat.le_of_eq g1257.symm)))).other W1269 (Or.inl (own_ne (E1).lt (Nat.le_of_eq g1257.symm)))).other W1275 (Or.inl (own_ne (E1).lt (Nat.le_of_eq g1257.symm)))).other W1281 (Or.inl (own_ne (E1).lt (Nat.le_of_eq g1257.symm)))).other W1287 (Or.inl (own_ne (E1).lt (Nat.le_of_eq g1257.symm)))).other W1293 (Or.inl (own_ne (E1).lt (Nat.le_of_eq g1257.symm)))).other W1299 (Or.inl (own_ne (E1).lt (Nat.le_of_eq g1257.symm)))).other W1305 (Or.inl (own_ne (E1).lt (Nat.le_of_eq g1257.symm)))) d8_20 fun T1307 X1307 e1307 => ?_
 refine own_k X1307 q d8_23 (own_iln X1307 q d8_24 rfl (own_stp 26 (fun _ k => XS.imul X1307.here hx rfl (q.d d8_25) rfl k) ?_))
 rw [show ((2 : Int32) * (8 : Int32)) = (16 : Int32) from by decide]
 refine own_ild (v := (.int x0)) X1307 q hZ e1307 (((((((((VB.ext E1257).other W1263 (own_ne (VB).lt (Nat.le_of_eq g1257.symm))).other W1269 (own_ne (VB).lt (Nat.le_of_eq g1257.symm))).other W1275 (own_ne (VB).lt (Nat.le_of_eq g1257.symm))).other W1281 (own_ne (VB).lt (Nat.le_of_eq g1257.symm))).other W1287 (own_ne (VB).lt (Nat.le_of_eq g1257.symm))).other W1293 (own_ne (VB).lt (Nat.le_of_eq g1257.symm))).other W1299 (own_ne (VB).lt (Nat.le_of_eq g1257.symm))).other W1305 (own_ne (VB).lt (Nat.le_of_eq g1257.symm))) d8_26 (by decide) rfl (own_stp 28 (fun _ k => XS.i2l X1307.here hx rfl (q.d d8_27) rfl k) (own_k X1307 q d8_28 (own_stp 31 (fun _ k => XS.lshl X1307.here hx rfl (q.d d8_30) rfl k) (own_aln X1307 q d8_31 rfl rfl ?_))))
 refine own_gF X1307 q hZ e1307 hown (W 22 rfl) (((((((((FR.ext E1257).other W1263 (Or.inl (own_ne (E1).lt (Nat.le_of_eq g1257.symm)))).other W1269 (Or.inl (own_ne (E1).lt (Nat.le_of_eq g1257.symm)))).other W1275 (Or.inl (own_ne (E1).lt (Nat.le_of_eq g1257.symm)))).other W1281 (Or.inl (own_ne (E1).lt (Nat.le_of_eq g1257.symm)))).other W1287 (Or.inl (own_ne (E1).lt (Nat.le_of_eq g1257.symm)))).other W1293 (Or.inl (own_ne (E1).lt (Nat.le_of_eq g1257.symm)))).other W1299 (Or.inl (own_ne (E1).lt (Nat.le_of_eq g1257.symm)))).other W1305 (Or.inl (own_ne (E1).lt (Nat.le_of_eq g1257.symm)))) d8_32 fun T1308 X1308 e1308 => ?_
 refine own_k X1308 q d8_35 (own_iln X1308 q d8_36 rfl (own_stp 38 (fun _ k => XS.imul X1308.here hx rfl (q.d d8_37) rfl k) ?_))
 rw [show ((2 : Int32) * (8 : Int32)) = (16 : Int32) from by decide]
 refine own_k X1308 q d8_38 (own_iaddk 17 X1308 q d8_39 (by decide) (own_ild (v := (.int x1)) X1308 q hZ e1308 (((((((((VB.ext E1257).other W1263 (own_ne (VB).lt (Nat.le_of_eq g1257.symm))).other W1269 (own_ne (VB).lt (Nat.le_of_eq g1257.symm))).other W1275 (own_ne (VB).lt (Nat.le_of_eq g1257.symm))).other W1281 (own_ne (VB).lt (Nat.le_of_eq g1257.symm))).other W1287 (own_ne (VB).lt (Nat.le_of_eq g1257.symm))).other W1293 (own_ne (VB).lt (Nat.le_of_eq g1257.symm))).other W1299 (own_ne (VB).lt (Nat.le_of_eq g1257.symm))).other W1305 (own_ne (VB).lt (Nat.le_of_eq g1257.symm))) d8_40 (by decide) rfl (own_stp 42 (fun _ k => XS.i2l X1308.here hx rfl (q.d d8_41) rfl k) (own_stp 43 (fun _ k => XS.lor X1308.here hx rfl (q.d d8_42) rfl k) ?_))))
 rw [show (((x0.toInt64) <<< ((32 : Int32) &&& 0x3f).toInt64) ||| (x1.toInt64)) = al from hal]
 show own_Fin _ _ _ _ (T1308.setTop (mkF m 43 #[.val (.ref a1), .val (.ref b1257), .val v'8, .unset, .unset, .unset, .unset, .unset, .unset, .unset, .unset] [(.long al), v'8, (.ref b1257)]))
 refine own_let ?_; intro g1309_
 obtain ⟨cl1310, Ar1310, q1310, S1310, M1310, H1310, G1310⟩ := id V1305
 obtain ⟨T1311, h1311, X1311, e1311, W1311, st1311⟩ := stJ X1308 hx hZ e1308 Ar1310 (j := (8 : Int32)) (inb_of S1310 ⟨by decide, by decide⟩) (g := g1309_) rfl rfl (q.d d8_43)
 have zs1312 := Nat.le_trans zs1306 (Keep.of_wr W1311).1
 have kp1312 := kp1306.wr W1311 (Or.inr sz_b1257)
 have V1311 : Arv Z h1311 b1257 k1257 .long (9 : Int32) [(.long al), (.long be), (.long al), (.long be), (.long al), (.long be), (.long al), (.long be), (.long al)] (.long (0 : Int64)) := Arv.set Ar1310 q1310 S1310 M1310 H1310 G1310 rfl W1311 8 rfl (Nat.le_of_ble_eq_true rfl)
 have N1311 := Fr.snoc X1311 N1305 g_b1257
 refine own_stp 44 st1311 (own_iik X1311 q d8_44 rfl (show ((8 : Int32) + (1 : Int32)) = (9 : Int32) by decide) (l' := #[.val (.ref a1), .val (.ref b1257), .val v'9, .unset, .unset, .unset, .unset, .unset, .unset, .unset, .unset]) rfl (own_gt X1311 q d8_47 (own_iln X1311 q d8_11 rfl (own_aln X1311 q d8_12 rfl rfl (own_alen (n := (9 : Int32)) X1311 q hZ e1311 V1311 d8_13 (own_cy X1311 q d8_14 ((flt (Int32.lt_irrefl : ¬ ((9 : Int32) < (9 : Int32)))).2.1) (own_aln X1311 q d8_50 rfl rfl ?_)))))))
 by_cases hlt : lcmpW al be < (0 : Int32)
 ·show own_Fin _ _ _ _ (T1311.setTop (mkF m 51 #[.val (.ref a1), .val (.ref b1257), .val v'9, .unset, .unset, .unset, .unset, .unset, .unset, .unset, .unset] [(.ref b1257)]))
  refine own_cSh X1311 q hZ e1311 hown hml (W 46 rfl) (W 47 rfl) (W 33 rfl) (W 48 rfl) (rm9_1 l Z a0 hw b1257 k1257 al be h1311 n0 zs1312 V1311 g_b1257 hlt (own_lasym hlt)) d8_51 [(.ref b1257)] [] own_pd7 rfl rfl 0 (Nat.le_refl _) (by decide) (fun v1313 T1313 L1313 h1313 e1313' X1313 hQ1313 => ?_)
  obtain ⟨rfl, N1313q, K1313, V1313⟩ := hQ1313
  have N1313 := Fr.app N1311 N1313q
  have zs1314 := Nat.le_trans zs1312 K1313.1
  have kp1314 := kp1312.trans K1313 (allS (Or.inr sz_b1257) all0)
  refine own_nn (own_aln X1313 q d8_54 rfl rfl ?_)
  refine own_gF X1313 q hZ e1313' hown (W 29 rfl) (((((((((((FS.ext E1257).other W1263 (Or.inl (own_ne (E1).lt (Nat.le_of_eq g1257.symm)))).other W1269 (Or.inl (own_ne (E1).lt (Nat.le_of_eq g1257.symm)))).other W1275 (Or.inl (own_ne (E1).lt (Nat.le_of_eq g1257.symm)))).other W1281 (Or.inl (own_ne (E1).lt (Nat.le_of_eq g1257.symm)))).other W1287 (Or.inl (own_ne (E1).lt (Nat.le_of_eq g1257.symm)))).other W1293 (Or.inl (own_ne (E1).lt (Nat.le_of_eq g1257.symm)))).other W1299 (Or.inl (own_ne (E1).lt (Nat.le_of_eq g1257.symm)))).other W1305 (Or.inl (own_ne (E1).lt (Nat.le_of_eq g1257.symm)))).other W1311 (Or.inl (own_ne (E1).lt (Nat.le_of_eq g1257.symm)))).keep K1313 (ninS (own_ne (E1).lt (Nat.le_of_eq g1257.symm)) nin0)) d8_55 fun T1315 X1315 e1315 => ?_
  refine own_let ?_; intro g1316_
  obtain ⟨T1317, h1317, k1317, X1317, e1317, E1317, A1317, st1317⟩ := newP X1315 hx hZ (W 21 rfl) e1315 (g := g1316_) rfl (q.d d8_58) rfl (by decide) (cap := 18) (by decide) (by decide) (by decide) (by decide)
  obtain ⟨b1317, g1317⟩ : ∃ z, z = h1313.size := ⟨_, rfl⟩
  rw [← g1317] at A1317 st1317
  have V1317 : Arv Z h1317 b1317 k1317 .int (18 : Int32) [v'0, v'0, v'0, v'0, v'0, v'0, v'0, v'0, v'0, v'0, v'0, v'0, v'0, v'0, v'0, v'0, v'0, v'0] v'0 := (Arv.new A1317 (by decide)).pad (pad_rep [] v'0 18)
  have zs1318 := Nat.le_trans zs1314 E1317.1
  have kp1318 := kp1314.ext E1317
  have g_b1317 : n0 ≤ b1317 := Nat.le_trans zs1314 (Nat.le_of_eq g1317.symm)
  have sz_b1317 : h0.size ≤ b1317 := Nat.le_trans kp1314.1 (Nat.le_of_eq g1317.symm)
  refine own_stp 60 st1317 (own_asn X1317 q d8_60 rfl (l' := #[.val (.ref a1), .val (.ref b1257), .val (.ref b1317), .unset, .unset, .unset, .unset, .unset, .unset, .unset, .unset]) rfl (own_k X1317 q d8_61 (own_isn X1317 q d8_62 (l' := #[.val (.ref a1), .val (.ref b1257), .val (.ref b1317), .val v'0, .unset, .unset, .unset, .unset, .unset, .unset, .unset]) rfl (own_aln X1317 q d8_63 rfl rfl (own_as X1317 q d8_64 rfl (l' := #[.val (.ref a1), .val (.ref b1257), .val (.ref b1317), .val v'0, .val (.ref b1257), .unset, .unset, .unset, .unset, .unset, .unset]) rfl (own_al X1317 q d8_66 rfl rfl (own_alen (n := (9 : Int32)) X1317 q hZ e1317 (V1313.ext E1317) d8_68 (own_is X1317 q d8_69 (l' := #[.val (.ref a1), .val (.ref b1257), .val (.ref b1317), .val v'0, .val (.ref b1257), .val v'9, .unset, .unset, .unset, .unset, .unset]) rfl (own_k X1317 q d8_71 (own_is X1317 q d8_72 (l' := #[.val (.ref a1), .val (.ref b1257), .val (.ref b1317), .val v'0, .val (.ref b1257), .val v'9, .val v'0, .unset, .unset, .unset, .unset]) rfl (own_il X1317 q d8_74 rfl ?_)))))))))))
  refine own_il X1317 q d8_76 rfl (own_cn X1317 q d8_78 ((tlt ((by decide) : (0 : Int32) < (9 : Int32))).2.1) (own_al X1317 q d8_81 rfl rfl (own_il X1317 q d8_83 rfl ?_)))
  obtain ⟨cl1319, Ar1319, q1319, S1319, M1319, H1319, G1319⟩ := id (V1313.ext E1317)
  refine own_stp 86 (fun _ k => X1317.laload hx (j := (0 : Int32)) (v := (.long al)) (by rw [e1317]; exact Ar1319.1) (State.isArrayOf_alike hZ.alike Ar1319.2.1) Ar1319.2.2 (inb_of S1319 ⟨by decide, by decide⟩) (Has.at H1319 (inb_of S1319 ⟨by decide, by decide⟩) rfl) (g := mkF m 85 _ _) rfl rfl (q.d d8_85) _ k) (own_ls X1317 q d8_86 (l' := #[.val (.ref a1), .val (.ref b1257), .val (.ref b1317), .val v'0, .val (.ref b1257), .val v'9, .val v'0, .val (.long al), .second, .unset, .unset]) rfl (own_ll X1317 q d8_88 rfl (own_k X1317 q d8_90 (own_stp 93 (fun _ k => XS.lushr X1317.here hx rfl (q.d d8_92) rfl k) (own_stp 94 (fun _ k => XS.l2i X1317.here hx rfl (q.d d8_93) rfl k) ?_)))))
  rw [own_firstz hal hok0]
  show own_Fin _ _ _ _ (T1317.setTop (mkF m 94 #[.val (.ref a1), .val (.ref b1257), .val (.ref b1317), .val v'0, .val (.ref b1257), .val v'9, .val v'0, .val (.long al), .second, .unset, .unset] [(.int x0)]))
  refine own_is X1317 q d8_94 (l' := #[.val (.ref a1), .val (.ref b1257), .val (.ref b1317), .val v'0, .val (.ref b1257), .val v'9, .val v'0, .val (.long al), .second, .val (.int x0), .unset]) rfl (own_ll X1317 q d8_96 rfl (own_stp 99 (fun _ k => XS.l2i X1317.here hx rfl (q.d d8_98) rfl k) ?_))
  rw [own_lastz hal hok0]
  show own_Fin _ _ _ _ (T1317.setTop (mkF m 99 #[.val (.ref a1), .val (.ref b1257), .val (.ref b1317), .val v'0, .val (.ref b1257), .val v'9, .val v'0, .val (.long al), .second, .val (.int x0), .unset] [(.int x1)]))
  refine own_is X1317 q d8_99 (l' := #[.val (.ref a1), .val (.ref b1257), .val (.ref b1317), .val v'0, .val (.ref b1257), .val v'9, .val v'0, .val (.long al), .second, .val (.int x0), .val (.int x1)]) rfl (own_iln X1317 q d8_101 rfl (own_zy X1317 q d8_102 (((if0 _ _).trans (flt (Int32.lt_irrefl : ¬ ((0 : Int32) < (0 : Int32)))).2.2.2)) (own_aln X1317 q d8_135 rfl rfl (own_iln X1317 q d8_136 rfl (own_iik X1317 q d8_137 rfl (show ((0 : Int32) + (1 : Int32)) = (1 : Int32) by decide) (l' := #[.val (.ref a1), .val (.ref b1257), .val (.ref b1317), .val v'1, .val (.ref b1257), .val v'9, .val v'0, .val (.long al), .second, .val (.int x0), .val (.int x1)]) rfl (own_il X1317 q d8_140 rfl ?_))))))
  refine own_ist X1317 q hZ e1317 V1317 d8_142 (by decide) (Nat.le_of_ble_eq_true rfl) N1313 g_b1317 fun T1320 h1320 X1320 e1320 W1320 V1320 N1320 => ?_
  have zs1321 := Nat.le_trans zs1318 (Keep.of_wr W1320).1
  have kp1321 := kp1318.wr W1320 (Or.inr sz_b1317)
  refine own_aln X1320 q d8_143 rfl rfl (own_iln X1320 q d8_144 rfl (own_iik X1320 q d8_145 rfl (show ((1 : Int32) + (1 : Int32)) = (2 : Int32) by decide) (l' := #[.val (.ref a1), .val (.ref b1257), .val (.ref b1317), .val v'2, .val (.ref b1257), .val v'9, .val v'0, .val (.long al), .second, .val (.int x0), .val (.int x1)]) rfl (own_il X1320 q d8_148 rfl ?_)))
  refine own_ist X1320 q hZ e1320 V1320 d8_150 (by decide) (Nat.le_of_ble_eq_true rfl) N1320 g_b1317 fun T1322 h1322 X1322 e1322 W1322 V1322 N1322 => ?_
  have zs1323 := Nat.le_trans zs1321 (Keep.of_wr W1322).1
  have kp1323 := kp1321.wr W1322 (Or.inr sz_b1317)
  refine own_iik X1322 q d8_151 rfl (show ((0 : Int32) + (1 : Int32)) = (1 : Int32) by decide) (l' := #[.val (.ref a1), .val (.ref b1257), .val (.ref b1317), .val v'2, .val (.ref b1257), .val v'9, .val v'1, .val (.long al), .second, .val (.int x0), .val (.int x1)]) rfl (own_gt X1322 q d8_154 (own_il X1322 q d8_74 rfl (own_il X1322 q d8_76 rfl (own_cn X1322 q d8_78 ((tlt ((by decide) : (1 : Int32) < (9 : Int32))).2.1) (own_al X1322 q d8_81 rfl rfl (own_il X1322 q d8_83 rfl ?_))))))
  obtain ⟨cl1324, Ar1324, q1324, S1324, M1324, H1324, G1324⟩ := id (((V1313.ext E1317).other W1320 (own_ne (V1313).lt (Nat.le_of_eq g1317.symm))).other W1322 (own_ne (V1313).lt (Nat.le_of_eq g1317.symm)))
  refine own_stp 86 (fun _ k => X1322.laload hx (j := (1 : Int32)) (v := (.long al)) (by rw [e1322]; exact Ar1324.1) (State.isArrayOf_alike hZ.alike Ar1324.2.1) Ar1324.2.2 (inb_of S1324 ⟨by decide, by decide⟩) (Has.at H1324 (inb_of S1324 ⟨by decide, by decide⟩) rfl) (g := mkF m 85 _ _) rfl rfl (q.d d8_85) _ k) (own_ls X1322 q d8_86 (l' := #[.val (.ref a1), .val (.ref b1257), .val (.ref b1317), .val v'2, .val (.ref b1257), .val v'9, .val v'1, .val (.long al), .second, .val (.int x0), .val (.int x1)]) rfl (own_ll X1322 q d8_88 rfl (own_k X1322 q d8_90 (own_stp 93 (fun _ k => XS.lushr X1322.here hx rfl (q.d d8_92) rfl k) (own_stp 94 (fun _ k => XS.l2i X1322.here hx rfl (q.d d8_93) rfl k) ?_)))))
  rw [own_firstz hal hok0]
  show own_Fin _ _ _ _ (T1322.setTop (mkF m 94 #[.val (.ref a1), .val (.ref b1257), .val (.ref b1317), .val v'2, .val (.ref b1257), .val v'9, .val v'1, .val (.long al), .second, .val (.int x0), .val (.int x1)] [(.int x0)]))
  refine own_is X1322 q d8_94 (l' := #[.val (.ref a1), .val (.ref b1257), .val (.ref b1317), .val v'2, .val (.ref b1257), .val v'9, .val v'1, .val (.long al), .second, .val (.int x0), .val (.int x1)]) rfl (own_ll X1322 q d8_96 rfl (own_stp 99 (fun _ k => XS.l2i X1322.here hx rfl (q.d d8_98) rfl k) ?_))
  rw [own_lastz hal hok0]
  show own_Fin _ _ _ _ (T1322.setTop (mkF m 99 #[.val (.ref a1), .val (.ref b1257), .val (.ref b1317), .val v'2, .val (.ref b1257), .val v'9, .val v'1, .val (.long al), .second, .val (.int x0), .val (.int x1)] [(.int x1)]))
  refine own_is X1322 q d8_99 (l' := #[.val (.ref a1), .val (.ref b1257), .val (.ref b1317), .val v'2, .val (.ref b1257), .val v'9, .val v'1, .val (.long al), .second, .val (.int x0), .val (.int x1)]) rfl (own_iln X1322 q d8_101 rfl (own_zn X1322 q d8_102 (((if0 _ _).trans (tlt ((by decide) : (0 : Int32) < (2 : Int32))).2.2.2)) (own_il X1322 q d8_105 rfl (own_aln X1322 q d8_107 rfl rfl (own_iln X1322 q d8_108 rfl (own_k X1322 q d8_109 (own_isubk 1 X1322 q d8_110 (by decide) (own_ild (v := (.int x1)) X1322 q hZ e1322 V1322 d8_111 (by decide) rfl (own_k X1322 q d8_112 (own_iadd X1322 q d8_113 (own_cn X1322 q d8_114 ((flt ((own_gap hok0) : ¬ ((x1 + (1 : Int32)) < x0))).2.2.1) ?_)))))))))))
  refine own_aln X1322 q d8_117 rfl rfl (own_iln X1322 q d8_118 rfl (own_k X1322 q d8_119 (own_isubk 1 X1322 q d8_120 (by decide) (own_aln X1322 q d8_121 rfl rfl (own_iln X1322 q d8_122 rfl (own_k X1322 q d8_123 (own_isubk 1 X1322 q d8_124 (by decide) (own_ild (v := (.int x1)) X1322 q hZ e1322 V1322 d8_125 (by decide) rfl (own_il X1322 q d8_126 rfl ?_)))))))))
  refine own_cS X1322 q hZ e1322 hown hml (W 59 rfl) (W 10 rfl) (W 7 rfl) (W 11 rfl) (rm3 l Z a0 hw x1 x1 x1 h1322 n0 zs1323 (own_maxS _)) d8_128 [(.int x1), (.int x1)] [v'1, (.ref b1317)] own_pd0 rfl rfl 2 (Nat.le_refl _) (by decide) (fun v1325 T1325 L1325 X1325 hQ1325 => ?_)
  obtain ⟨rfl, N1325q, e1325⟩ := hQ1325
  have N1325 := Fr.app N1322 N1325q
  refine own_nv ?_
  refine own_ist X1325 q hZ e1325 V1322 d8_131 (by decide) (Nat.le_of_ble_eq_true rfl) N1325 g_b1317 fun T1326 h1326 X1326 e1326 W1326 V1326 N1326 => ?_
  have zs1327 := Nat.le_trans zs1323 (Keep.of_wr W1326).1
  have kp1327 := kp1323.wr W1326 (Or.inr sz_b1317)
  refine own_gt X1326 q d8_132 (own_iik X1326 q d8_151 rfl (show ((1 : Int32) + (1 : Int32)) = (2 : Int32) by decide) (l' := #[.val (.ref a1), .val (.ref b1257), .val (.ref b1317), .val v'2, .val (.ref b1257), .val v'9, .val v'2, .val (.long al), .second, .val (.int x0), .val (.int x1)]) rfl (own_gt X1326 q d8_154 (own_il X1326 q d8_74 rfl (own_il X1326 q d8_76 rfl (own_cn X1326 q d8_78 ((tlt ((by decide) : (2 : Int32) < (9 : Int32))).2.1) (own_al X1326 q d8_81 rfl rfl (own_il X1326 q d8_83 rfl ?_)))))))
  obtain ⟨cl1328, Ar1328, q1328, S1328, M1328, H1328, G1328⟩ := id ((((V1313.ext E1317).other W1320 (own_ne (V1313).lt (Nat.le_of_eq g1317.symm))).other W1322 (own_ne (V1313).lt (Nat.le_of_eq g1317.symm))).other W1326 (own_ne (V1313).lt (Nat.le_of_eq g1317.symm)))
  refine own_stp 86 (fun _ k => X1326.laload hx (j := (2 : Int32)) (v := (.long al)) (by rw [e1326]; exact Ar1328.1) (State.isArrayOf_alike hZ.alike Ar1328.2.1) Ar1328.2.2 (inb_of S1328 ⟨by decide, by decide⟩) (Has.at H1328 (inb_of S1328 ⟨by decide, by decide⟩) rfl) (g := mkF m 85 _ _) rfl rfl (q.d d8_85) _ k) (own_ls X1326 q d8_86 (l' := #[.val (.ref a1), .val (.ref b1257), .val (.ref b1317), .val v'2, .val (.ref b1257), .val v'9, .val v'2, .val (.long al), .second, .val (.int x0), .val (.int x1)]) rfl (own_ll X1326 q d8_88 rfl (own_k X1326 q d8_90 (own_stp 93 (fun _ k => XS.lushr X1326.here hx rfl (q.d d8_92) rfl k) (own_stp 94 (fun _ k => XS.l2i X1326.here hx rfl (q.d d8_93) rfl k) ?_)))))
  rw [own_firstz hal hok0]
  show own_Fin _ _ _ _ (T1326.setTop (mkF m 94 #[.val (.ref a1), .val (.ref b1257), .val (.ref b1317), .val v'2, .val (.ref b1257), .val v'9, .val v'2, .val (.long al), .second, .val (.int x0), .val (.int x1)] [(.int x0)]))
  refine own_is X1326 q d8_94 (l' := #[.val (.ref a1), .val (.ref b1257), .val (.ref b1317), .val v'2, .val (.ref b1257), .val v'9, .val v'2, .val (.long al), .second, .val (.int x0), .val (.int x1)]) rfl (own_ll X1326 q d8_96 rfl (own_stp 99 (fun _ k => XS.l2i X1326.here hx rfl (q.d d8_98) rfl k) ?_))
  rw [own_lastz hal hok0]
  show own_Fin _ _ _ _ (T1326.setTop (mkF m 99 #[.val (.ref a1), .val (.ref b1257), .val (.ref b1317), .val v'2, .val (.ref b1257), .val v'9, .val v'2, .val (.long al), .second, .val (.int x0), .val (.int x1)] [(.int x1)]))
  refine own_is X1326 q d8_99 (l' := #[.val (.ref a1), .val (.ref b1257), .val (.ref b1317), .val v'2, .val (.ref b1257), .val v'9, .val v'2, .val (.long al), .second, .val (.int x0), .val (.int x1)]) rfl (own_iln X1326 q d8_101 rfl (own_zn X1326 q d8_102 (((if0 _ _).trans (tlt ((by decide) : (0 : Int32) < (2 : Int32))).2.2.2)) (own_il X1326 q d8_105 rfl (own_aln X1326 q d8_107 rfl rfl (own_iln X1326 q d8_108 rfl (own_k X1326 q d8_109 (own_isubk 1 X1326 q d8_110 (by decide) (own_ild (v := (.int x1)) X1326 q hZ e1326 V1326 d8_111 (by decide) rfl (own_k X1326 q d8_112 (own_iadd X1326 q d8_113 (own_cn X1326 q d8_114 ((flt ((own_gap hok0) : ¬ ((x1 + (1 : Int32)) < x0))).2.2.1) ?_)))))))))))
  refine own_aln X1326 q d8_117 rfl rfl (own_iln X1326 q d8_118 rfl (own_k X1326 q d8_119 (own_isubk 1 X1326 q d8_120 (by decide) (own_aln X1326 q d8_121 rfl rfl (own_iln X1326 q d8_122 rfl (own_k X1326 q d8_123 (own_isubk 1 X1326 q d8_124 (by decide) (own_ild (v := (.int x1)) X1326 q hZ e1326 V1326 d8_125 (by decide) rfl (own_il X1326 q d8_126 rfl ?_)))))))))
  refine own_cS X1326 q hZ e1326 hown hml (W 59 rfl) (W 10 rfl) (W 7 rfl) (W 11 rfl) (rm3 l Z a0 hw x1 x1 x1 h1326 n0 zs1327 (own_maxS _)) d8_128 [(.int x1), (.int x1)] [v'1, (.ref b1317)] own_pd0 rfl rfl 2 (Nat.le_refl _) (by decide) (fun v1329 T1329 L1329 X1329 hQ1329 => ?_)
  obtain ⟨rfl, N1329q, e1329⟩ := hQ1329
  have N1329 := Fr.app N1326 N1329q
  refine own_nv ?_
  refine own_ist X1329 q hZ e1329 V1326 d8_131 (by decide) (Nat.le_of_ble_eq_true rfl) N1329 g_b1317 fun T1330 h1330 X1330 e1330 W1330 V1330 N1330 => ?_
  have zs1331 := Nat.le_trans zs1327 (Keep.of_wr W1330).1
  have kp1331 := kp1327.wr W1330 (Or.inr sz_b1317)
  refine own_gt X1330 q d8_132 (own_iik X1330 q d8_151 rfl (show ((2 : Int32) + (1 : Int32)) = (3 : Int32) by decide) (l' := #[.val (.ref a1), .val (.ref b1257), .val (.ref b1317), .val v'2, .val (.ref b1257), .val v'9, .val v'3, .val (.long al), .second, .val (.int x0), .val (.int x1)]) rfl (own_gt X1330 q d8_154 (own_il X1330 q d8_74 rfl (own_il X1330 q d8_76 rfl (own_cn X1330 q d8_78 ((tlt ((by decide) : (3 : Int32) < (9 : Int32))).2.1) (own_al X1330 q d8_81 rfl rfl (own_il X1330 q d8_83 rfl ?_)))))))
  obtain ⟨cl1332, Ar1332, q1332, S1332, M1332, H1332, G1332⟩ := id (((((V1313.ext E1317).other W1320 (own_ne (V1313).lt (Nat.le_of_eq g1317.symm))).other W1322 (own_ne (V1313).lt (Nat.le_of_eq g1317.symm))).other W1326 (own_ne (V1313).lt (Nat.le_of_eq g1317.symm))).other W1330 (own_ne (V1313).lt (Nat.le_of_eq g1317.symm)))
  refine own_stp 86 (fun _ k => X1330.laload hx (j := (3 : Int32)) (v := (.long al)) (by rw [e1330]; exact Ar1332.1) (State.isArrayOf_alike hZ.alike Ar1332.2.1) Ar1332.2.2 (inb_of S1332 ⟨by decide, by decide⟩) (Has.at H1332 (inb_of S1332 ⟨by decide, by decide⟩) rfl) (g := mkF m 85 _ _) rfl rfl (q.d d8_85) _ k) (own_ls X1330 q d8_86 (l' := #[.val (.ref a1), .val (.ref b1257), .val (.ref b1317), .val v'2, .val (.ref b1257), .val v'9, .val v'3, .val (.long al), .second, .val (.int x0), .val (.int x1)]) rfl (own_ll X1330 q d8_88 rfl (own_k X1330 q d8_90 (own_stp 93 (fun _ k => XS.lushr X1330.here hx rfl (q.d d8_92) rfl k) (own_stp 94 (fun _ k => XS.l2i X1330.here hx rfl (q.d d8_93) rfl k) ?_)))))
  rw [own_firstz hal hok0]
  show own_Fin _ _ _ _ (T1330.setTop (mkF m 94 #[.val (.ref a1), .val (.ref b1257), .val (.ref b1317), .val v'2, .val (.ref b1257), .val v'9, .val v'3, .val (.long al), .second, .val (.int x0), .val (.int x1)] [(.int x0)]))
  refine own_is X1330 q d8_94 (l' := #[.val (.ref a1), .val (.ref b1257), .val (.ref b1317), .val v'2, .val (.ref b1257), .val v'9, .val v'3, .val (.long al), .second, .val (.int x0), .val (.int x1)]) rfl (own_ll X1330 q d8_96 rfl (own_stp 99 (fun _ k => XS.l2i X1330.here hx rfl (q.d d8_98) rfl k) ?_))
  rw [own_lastz hal hok0]
  show own_Fin _ _ _ _ (T1330.setTop (mkF m 99 #[.val (.ref a1), .val (.ref b1257), .val (.ref b1317), .val v'2, .val (.ref b1257), .val v'9, .val v'3, .val (.long al), .second, .val (.int x0), .val (.int x1)] [(.int x1)]))
  refine own_is X1330 q d8_99 (l' := #[.val (.ref a1), .val (.ref b1257), .val (.ref b1317), .val v'2, .val (.ref b1257), .val v'9, .val v'3, .val (.long al), .second, .val (.int x0), .val (.int x1)]) rfl (own_iln X1330 q d8_101 rfl (own_zn X1330 q d8_102 (((if0 _ _).trans (tlt ((by decide) : (0 : Int32) < (2 : Int32))).2.2.2)) (own_il X1330 q d8_105 rfl (own_aln X1330 q d8_107 rfl rfl (own_iln X1330 q d8_108 rfl (own_k X1330 q d8_109 (own_isubk 1 X1330 q d8_110 (by decide) (own_ild (v := (.int x1)) X1330 q hZ e1330 V1330 d8_111 (by decide) rfl (own_k X1330 q d8_112 (own_iadd X1330 q d8_113 (own_cn X1330 q d8_114 ((flt ((own_gap hok0) : ¬ ((x1 + (1 : Int32)) < x0))).2.2.1) ?_)))))))))))
  refine own_aln X1330 q d8_117 rfl rfl (own_iln X1330 q d8_118 rfl (own_k X1330 q d8_119 (own_isubk 1 X1330 q d8_120 (by decide) (own_aln X1330 q d8_121 rfl rfl (own_iln X1330 q d8_122 rfl (own_k X1330 q d8_123 (own_isubk 1 X1330 q d8_124 (by decide) (own_ild (v := (.int x1)) X1330 q hZ e1330 V1330 d8_125 (by decide) rfl (own_il X1330 q d8_126 rfl ?_)))))))))
  refine own_cS X1330 q hZ e1330 hown hml (W 59 rfl) (W 10 rfl) (W 7 rfl) (W 11 rfl) (rm3 l Z a0 hw x1 x1 x1 h1330 n0 zs1331 (own_maxS _)) d8_128 [(.int x1), (.int x1)] [v'1, (.ref b1317)] own_pd0 rfl rfl 2 (Nat.le_refl _) (by decide) (fun v1333 T1333 L1333 X1333 hQ1333 => ?_)
  obtain ⟨rfl, N1333q, e1333⟩ := hQ1333
  have N1333 := Fr.app N1330 N1333q
  refine own_nv ?_
  refine own_ist X1333 q hZ e1333 V1330 d8_131 (by decide) (Nat.le_of_ble_eq_true rfl) N1333 g_b1317 fun T1334 h1334 X1334 e1334 W1334 V1334 N1334 => ?_
  have zs1335 := Nat.le_trans zs1331 (Keep.of_wr W1334).1
  have kp1335 := kp1331.wr W1334 (Or.inr sz_b1317)
  refine own_gt X1334 q d8_132 (own_iik X1334 q d8_151 rfl (show ((3 : Int32) + (1 : Int32)) = (4 : Int32) by decide) (l' := #[.val (.ref a1), .val (.ref b1257), .val (.ref b1317), .val v'2, .val (.ref b1257), .val v'9, .val v'4, .val (.long al), .second, .val (.int x0), .val (.int x1)]) rfl (own_gt X1334 q d8_154 (own_il X1334 q d8_74 rfl (own_il X1334 q d8_76 rfl (own_cn X1334 q d8_78 ((tlt ((by decide) : (4 : Int32) < (9 : Int32))).2.1) (own_al X1334 q d8_81 rfl rfl (own_il X1334 q d8_83 rfl ?_)))))))
  obtain ⟨cl1336, Ar1336, q1336, S1336, M1336, H1336, G1336⟩ := id ((((((V1313.ext E1317).other W1320 (own_ne (V1313).lt (Nat.le_of_eq g1317.symm))).other W1322 (own_ne (V1313).lt (Nat.le_of_eq g1317.symm))).other W1326 (own_ne (V1313).lt (Nat.le_of_eq g1317.symm))).other W1330 (own_ne (V1313).lt (Nat.le_of_eq g1317.symm))).other W1334 (own_ne (V1313).lt (Nat.le_of_eq g1317.symm)))
  refine own_stp 86 (fun _ k => X1334.laload hx (j := (4 : Int32)) (v := (.long al)) (by rw [e1334]; exact Ar1336.1) (State.isArrayOf_alike hZ.alike Ar1336.2.1) Ar1336.2.2 (inb_of S1336 ⟨by decide, by decide⟩) (Has.at H1336 (inb_of S1336 ⟨by decide, by decide⟩) rfl) (g := mkF m 85 _ _) rfl rfl (q.d d8_85) _ k) (own_ls X1334 q d8_86 (l' := #[.val (.ref a1), .val (.ref b1257), .val (.ref b1317), .val v'2, .val (.ref b1257), .val v'9, .val v'4, .val (.long al), .second, .val (.int x0), .val (.int x1)]) rfl (own_ll X1334 q d8_88 rfl (own_k X1334 q d8_90 (own_stp 93 (fun _ k => XS.lushr X1334.here hx rfl (q.d d8_92) rfl k) (own_stp 94 (fun _ k => XS.l2i X1334.here hx rfl (q.d d8_93) rfl k) ?_)))))
  rw [own_firstz hal hok0]
  show own_Fin _ _ _ _ (T1334.setTop (mkF m 94 #[.val (.ref a1), .val (.ref b1257), .val (.ref b1317), .val v'2, .val (.ref b1257), .val v'9, .val v'4, .val (.long al), .second, .val (.int x0), .val (.int x1)] [(.int x0)]))
  refine own_is X1334 q d8_94 (l' := #[.val (.ref a1), .val (.ref b1257), .val (.ref b1317), .val v'2, .val (.ref b1257), .val v'9, .val v'4, .val (.long al), .second, .val (.int x0), .val (.int x1)]) rfl (own_ll X1334 q d8_96 rfl (own_stp 99 (fun _ k => XS.l2i X1334.here hx rfl (q.d d8_98) rfl k) ?_))
  rw [own_lastz hal hok0]
  show own_Fin _ _ _ _ (T1334.setTop (mkF m 99 #[.val (.ref a1), .val (.ref b1257), .val (.ref b1317), .val v'2, .val (.ref b1257), .val v'9, .val v'4, .val (.long al), .second, .val (.int x0), .val (.int x1)] [(.int x1)]))
  refine own_is X1334 q d8_99 (l' := #[.val (.ref a1), .val (.ref b1257), .val (.ref b1317), .val v'2, .val (.ref b1257), .val v'9, .val v'4, .val (.long al), .second, .val (.int x0), .val (.int x1)]) rfl (own_iln X1334 q d8_101 rfl (own_zn X1334 q d8_102 (((if0 _ _).trans (tlt ((by decide) : (0 : Int32) < (2 : Int32))).2.2.2)) (own_il X1334 q d8_105 rfl (own_aln X1334 q d8_107 rfl rfl (own_iln X1334 q d8_108 rfl (own_k X1334 q d8_109 (own_isubk 1 X1334 q d8_110 (by decide) (own_ild (v := (.int x1)) X1334 q hZ e1334 V1334 d8_111 (by decide) rfl (own_k X1334 q d8_112 (own_iadd X1334 q d8_113 (own_cn X1334 q d8_114 ((flt ((own_gap hok0) : ¬ ((x1 + (1 : Int32)) < x0))).2.2.1) ?_)))))))))))
  refine own_aln X1334 q d8_117 rfl rfl (own_iln X1334 q d8_118 rfl (own_k X1334 q d8_119 (own_isubk 1 X1334 q d8_120 (by decide) (own_aln X1334 q d8_121 rfl rfl (own_iln X1334 q d8_122 rfl (own_k X1334 q d8_123 (own_isubk 1 X1334 q d8_124 (by decide) (own_ild (v := (.int x1)) X1334 q hZ e1334 V1334 d8_125 (by decide) rfl (own_il X1334 q d8_126 rfl ?_)))))))))
  refine own_cS X1334 q hZ e1334 hown hml (W 59 rfl) (W 10 rfl) (W 7 rfl) (W 11 rfl) (rm3 l Z a0 hw x1 x1 x1 h1334 n0 zs1335 (own_maxS _)) d8_128 [(.int x1), (.int x1)] [v'1, (.ref b1317)] own_pd0 rfl rfl 2 (Nat.le_refl _) (by decide) (fun v1337 T1337 L1337 X1337 hQ1337 => ?_)
  obtain ⟨rfl, N1337q, e1337⟩ := hQ1337
  have N1337 := Fr.app N1334 N1337q
  refine own_nv ?_
  refine own_ist X1337 q hZ e1337 V1334 d8_131 (by decide) (Nat.le_of_ble_eq_true rfl) N1337 g_b1317 fun T1338 h1338 X1338 e1338 W1338 V1338 N1338 => ?_
  have zs1339 := Nat.le_trans zs1335 (Keep.of_wr W1338).1
  have kp1339 := kp1335.wr W1338 (Or.inr sz_b1317)
  refine own_gt X1338 q d8_132 (own_iik X1338 q d8_151 rfl (show ((4 : Int32) + (1 : Int32)) = (5 : Int32) by decide) (l' := #[.val (.ref a1), .val (.ref b1257), .val (.ref b1317), .val v'2, .val (.ref b1257), .val v'9, .val v'5, .val (.long al), .second, .val (.int x0), .val (.int x1)]) rfl (own_gt X1338 q d8_154 (own_il X1338 q d8_74 rfl (own_il X1338 q d8_76 rfl (own_cn X1338 q d8_78 ((tlt ((by decide) : (5 : Int32) < (9 : Int32))).2.1) (own_al X1338 q d8_81 rfl rfl (own_il X1338 q d8_83 rfl ?_)))))))
  obtain ⟨cl1340, Ar1340, q1340, S1340, M1340, H1340, G1340⟩ := id (((((((V1313.ext E1317).other W1320 (own_ne (V1313).lt (Nat.le_of_eq g1317.symm))).other W1322 (own_ne (V1313).lt (Nat.le_of_eq g1317.symm))).other W1326 (own_ne (V1313).lt (Nat.le_of_eq g1317.symm))).other W1330 (own_ne (V1313).lt (Nat.le_of_eq g1317.symm))).other W1334 (own_ne (V1313).lt (Nat.le_of_eq g1317.symm))).other W1338 (own_ne (V1313).lt (Nat.le_of_eq g1317.symm)))
  refine own_stp 86 (fun _ k => X1338.laload hx (j := (5 : Int32)) (v := (.long be)) (by rw [e1338]; exact Ar1340.1) (State.isArrayOf_alike hZ.alike Ar1340.2.1) Ar1340.2.2 (inb_of S1340 ⟨by decide, by decide⟩) (Has.at H1340 (inb_of S1340 ⟨by decide, by decide⟩) rfl) (g := mkF m 85 _ _) rfl rfl (q.d d8_85) _ k) (own_ls X1338 q d8_86 (l' := #[.val (.ref a1), .val (.ref b1257), .val (.ref b1317), .val v'2, .val (.ref b1257), .val v'9, .val v'5, .val (.long be), .second, .val (.int x0), .val (.int x1)]) rfl (own_ll X1338 q d8_88 rfl (own_k X1338 q d8_90 (own_stp 93 (fun _ k => XS.lushr X1338.here hx rfl (q.d d8_92) rfl k) (own_stp 94 (fun _ k => XS.l2i X1338.here hx rfl (q.d d8_93) rfl k) ?_)))))
  rw [own_firstz hbe hok1]
  show own_Fin _ _ _ _ (T1338.setTop (mkF m 94 #[.val (.ref a1), .val (.ref b1257), .val (.ref b1317), .val v'2, .val (.ref b1257), .val v'9, .val v'5, .val (.long be), .second, .val (.int x0), .val (.int x1)] [(.int x2)]))
  refine own_is X1338 q d8_94 (l' := #[.val (.ref a1), .val (.ref b1257), .val (.ref b1317), .val v'2, .val (.ref b1257), .val v'9, .val v'5, .val (.long be), .second, .val (.int x2), .val (.int x1)]) rfl (own_ll X1338 q d8_96 rfl (own_stp 99 (fun _ k => XS.l2i X1338.here hx rfl (q.d d8_98) rfl k) ?_))
  rw [own_lastz hbe hok1]
  show own_Fin _ _ _ _ (T1338.setTop (mkF m 99 #[.val (.ref a1), .val (.ref b1257), .val (.ref b1317), .val v'2, .val (.ref b1257), .val v'9, .val v'5, .val (.long be), .second, .val (.int x2), .val (.int x1)] [(.int x3)]))
  refine own_is X1338 q d8_99 (l' := #[.val (.ref a1), .val (.ref b1257), .val (.ref b1317), .val v'2, .val (.ref b1257), .val v'9, .val v'5, .val (.long be), .second, .val (.int x2), .val (.int x3)]) rfl (own_iln X1338 q d8_101 rfl (own_zn X1338 q d8_102 (((if0 _ _).trans (tlt ((by decide) : (0 : Int32) < (2 : Int32))).2.2.2)) (own_il X1338 q d8_105 rfl (own_aln X1338 q d8_107 rfl rfl (own_iln X1338 q d8_108 rfl (own_k X1338 q d8_109 (own_isubk 1 X1338 q d8_110 (by decide) (own_ild (v := (.int x1)) X1338 q hZ e1338 V1338 d8_111 (by decide) rfl (own_k X1338 q d8_112 (own_iadd X1338 q d8_113 ?_))))))))))
  by_cases hc114_1341 : (x1 + (1 : Int32)) < x2
  ·refine own_cy X1338 q d8_114 ((tlt hc114_1341).2.2.1) (own_aln X1338 q d8_135 rfl rfl (own_iln X1338 q d8_136 rfl (own_iik X1338 q d8_137 rfl (show ((2 : Int32) + (1 : Int32)) = (3 : Int32) by decide) (l' := #[.val (.ref a1), .val (.ref b1257), .val (.ref b1317), .val v'3, .val (.ref b1257), .val v'9, .val v'5, .val (.long be), .second, .val (.int x2), .val (.int x3)]) rfl (own_il X1338 q d8_140 rfl ?_))))
   refine own_ist X1338 q hZ e1338 V1338 d8_142 (by decide) (Nat.le_of_ble_eq_true rfl) N1338 g_b1317 fun T1342 h1342 X1342 e1342 W1342 V1342 N1342 => ?_
   have zs1343 := Nat.le_trans zs1339 (Keep.of_wr W1342).1
   have kp1343 := kp1339.wr W1342 (Or.inr sz_b1317)
   refine own_aln X1342 q d8_143 rfl rfl (own_iln X1342 q d8_144 rfl (own_iik X1342 q d8_145 rfl (show ((3 : Int32) + (1 : Int32)) = (4 : Int32) by decide) (l' := #[.val (.ref a1), .val (.ref b1257), .val (.ref b1317), .val v'4, .val (.ref b1257), .val v'9, .val v'5, .val (.long be), .second, .val (.int x2), .val (.int x3)]) rfl (own_il X1342 q d8_148 rfl ?_)))
   refine own_ist X1342 q hZ e1342 V1342 d8_150 (by decide) (Nat.le_of_ble_eq_true rfl) N1342 g_b1317 fun T1344 h1344 X1344 e1344 W1344 V1344 N1344 => ?_
   have zs1345 := Nat.le_trans zs1343 (Keep.of_wr W1344).1
   have kp1345 := kp1343.wr W1344 (Or.inr sz_b1317)
   refine own_iik X1344 q d8_151 rfl (show ((5 : Int32) + (1 : Int32)) = (6 : Int32) by decide) (l' := #[.val (.ref a1), .val (.ref b1257), .val (.ref b1317), .val v'4, .val (.ref b1257), .val v'9, .val v'6, .val (.long be), .second, .val (.int x2), .val (.int x3)]) rfl (own_gt X1344 q d8_154 (own_il X1344 q d8_74 rfl (own_il X1344 q d8_76 rfl (own_cn X1344 q d8_78 ((tlt ((by decide) : (6 : Int32) < (9 : Int32))).2.1) (own_al X1344 q d8_81 rfl rfl (own_il X1344 q d8_83 rfl ?_))))))
   obtain ⟨cl1346, Ar1346, q1346, S1346, M1346, H1346, G1346⟩ := id (((((((((V1313.ext E1317).other W1320 (own_ne (V1313).lt (Nat.le_of_eq g1317.symm))).other W1322 (own_ne (V1313).lt (Nat.le_of_eq g1317.symm))).other W1326 (own_ne (V1313).lt (Nat.le_of_eq g1317.symm))).other W1330 (own_ne (V1313).lt (Nat.le_of_eq g1317.symm))).other W1334 (own_ne (V1313).lt (Nat.le_of_eq g1317.symm))).other W1338 (own_ne (V1313).lt (Nat.le_of_eq g1317.symm))).other W1342 (own_ne (V1313).lt (Nat.le_of_eq g1317.symm))).other W1344 (own_ne (V1313).lt (Nat.le_of_eq g1317.symm)))
   refine own_stp 86 (fun _ k => X1344.laload hx (j := (6 : Int32)) (v := (.long be)) (by rw [e1344]; exact Ar1346.1) (State.isArrayOf_alike hZ.alike Ar1346.2.1) Ar1346.2.2 (inb_of S1346 ⟨by decide, by decide⟩) (Has.at H1346 (inb_of S1346 ⟨by decide, by decide⟩) rfl) (g := mkF m 85 _ _) rfl rfl (q.d d8_85) _ k) (own_ls X1344 q d8_86 (l' := #[.val (.ref a1), .val (.ref b1257), .val (.ref b1317), .val v'4, .val (.ref b1257), .val v'9, .val v'6, .val (.long be), .second, .val (.int x2), .val (.int x3)]) rfl (own_ll X1344 q d8_88 rfl (own_k X1344 q d8_90 (own_stp 93 (fun _ k => XS.lushr X1344.here hx rfl (q.d d8_92) rfl k) (own_stp 94 (fun _ k => XS.l2i X1344.here hx rfl (q.d d8_93) rfl k) ?_)))))
   rw [own_firstz hbe hok1]
   show own_Fin _ _ _ _ (T1344.setTop (mkF m 94 #[.val (.ref a1), .val (.ref b1257), .val (.ref b1317), .val v'4, .val (.ref b1257), .val v'9, .val v'6, .val (.long be), .second, .val (.int x2), .val (.int x3)] [(.int x2)]))
   refine own_is X1344 q d8_94 (l' := #[.val (.ref a1), .val (.ref b1257), .val (.ref b1317), .val v'4, .val (.ref b1257), .val v'9, .val v'6, .val (.long be), .second, .val (.int x2), .val (.int x3)]) rfl (own_ll X1344 q d8_96 rfl (own_stp 99 (fun _ k => XS.l2i X1344.here hx rfl (q.d d8_98) rfl k) ?_))
   rw [own_lastz hbe hok1]
   show own_Fin _ _ _ _ (T1344.setTop (mkF m 99 #[.val (.ref a1), .val (.ref b1257), .val (.ref b1317), .val v'4, .val (.ref b1257), .val v'9, .val v'6, .val (.long be), .second, .val (.int x2), .val (.int x3)] [(.int x3)]))
   refine own_is X1344 q d8_99 (l' := #[.val (.ref a1), .val (.ref b1257), .val (.ref b1317), .val v'4, .val (.ref b1257), .val v'9, .val v'6, .val (.long be), .second, .val (.int x2), .val (.int x3)]) rfl (own_iln X1344 q d8_101 rfl (own_zn X1344 q d8_102 (((if0 _ _).trans (tlt ((by decide) : (0 : Int32) < (4 : Int32))).2.2.2)) (own_il X1344 q d8_105 rfl (own_aln X1344 q d8_107 rfl rfl (own_iln X1344 q d8_108 rfl (own_k X1344 q d8_109 (own_isubk 3 X1344 q d8_110 (by decide) (own_ild (v := (.int x3)) X1344 q hZ e1344 V1344 d8_111 (by decide) rfl (own_k X1344 q d8_112 (own_iadd X1344 q d8_113 (own_cn X1344 q d8_114 ((flt ((own_gap hok1) : ¬ ((x3 + (1 : Int32)) < x2))).2.2.1) ?_)))))))))))
   refine own_aln X1344 q d8_117 rfl rfl (own_iln X1344 q d8_118 rfl (own_k X1344 q d8_119 (own_isubk 3 X1344 q d8_120 (by decide) (own_aln X1344 q d8_121 rfl rfl (own_iln X1344 q d8_122 rfl (own_k X1344 q d8_123 (own_isubk 3 X1344 q d8_124 (by decide) (own_ild (v := (.int x3)) X1344 q hZ e1344 V1344 d8_125 (by decide) rfl (own_il X1344 q d8_126 rfl ?_)))))))))
   refine own_cS X1344 q hZ e1344 hown hml (W 59 rfl) (W 10 rfl) (W 7 rfl) (W 11 rfl) (rm3 l Z a0 hw x3 x3 x3 h1344 n0 zs1345 (own_maxS _)) d8_128 [(.int x3), (.int x3)] [v'3, (.ref b1317)] own_pd0 rfl rfl 2 (Nat.le_refl _) (by decide) (fun v1347 T1347 L1347 X1347 hQ1347 => ?_)
   obtain ⟨rfl, N1347q, e1347⟩ := hQ1347
   have N1347 := Fr.app N1344 N1347q
   refine own_nv ?_
   refine own_ist X1347 q hZ e1347 V1344 d8_131 (by decide) (Nat.le_of_ble_eq_true rfl) N1347 g_b1317 fun T1348 h1348 X1348 e1348 W1348 V1348 N1348 => ?_
   have zs1349 := Nat.le_trans zs1345 (Keep.of_wr W1348).1
   have kp1349 := kp1345.wr W1348 (Or.inr sz_b1317)
   refine own_gt X1348 q d8_132 (own_iik X1348 q d8_151 rfl (show ((6 : Int32) + (1 : Int32)) = (7 : Int32) by decide) (l' := #[.val (.ref a1), .val (.ref b1257), .val (.ref b1317), .val v'4, .val (.ref b1257), .val v'9, .val v'7, .val (.long be), .second, .val (.int x2), .val (.int x3)]) rfl (own_gt X1348 q d8_154 (own_il X1348 q d8_74 rfl (own_il X1348 q d8_76 rfl (own_cn X1348 q d8_78 ((tlt ((by decide) : (7 : Int32) < (9 : Int32))).2.1) (own_al X1348 q d8_81 rfl rfl (own_il X1348 q d8_83 rfl ?_)))))))
   obtain ⟨cl1350, Ar1350, q1350, S1350, M1350, H1350, G1350⟩ := id ((((((((((V1313.ext E1317).other W1320 (own_ne (V1313).lt (Nat.le_of_eq g1317.symm))).other W1322 (own_ne (V1313).lt (Nat.le_of_eq g1317.symm))).other W1326 (own_ne (V1313).lt (Nat.le_of_eq g1317.symm))).other W1330 (own_ne (V1313).lt (Nat.le_of_eq g1317.symm))).other W1334 (own_ne (V1313).lt (Nat.le_of_eq g1317.symm))).other W1338 (own_ne (V1313).lt (Nat.le_of_eq g1317.symm))).other W1342 (own_ne (V1313).lt (Nat.le_of_eq g1317.symm))).other W1344 (own_ne (V1313).lt (Nat.le_of_eq g1317.symm))).other W1348 (own_ne (V1313).lt (Nat.le_of_eq g1317.symm)))
   refine own_stp 86 (fun _ k => X1348.laload hx (j := (7 : Int32)) (v := (.long be)) (by rw [e1348]; exact Ar1350.1) (State.isArrayOf_alike hZ.alike Ar1350.2.1) Ar1350.2.2 (inb_of S1350 ⟨by decide, by decide⟩) (Has.at H1350 (inb_of S1350 ⟨by decide, by decide⟩) rfl) (g := mkF m 85 _ _) rfl rfl (q.d d8_85) _ k) (own_ls X1348 q d8_86 (l' := #[.val (.ref a1), .val (.ref b1257), .val (.ref b1317), .val v'4, .val (.ref b1257), .val v'9, .val v'7, .val (.long be), .second, .val (.int x2), .val (.int x3)]) rfl (own_ll X1348 q d8_88 rfl (own_k X1348 q d8_90 (own_stp 93 (fun _ k => XS.lushr X1348.here hx rfl (q.d d8_92) rfl k) (own_stp 94 (fun _ k => XS.l2i X1348.here hx rfl (q.d d8_93) rfl k) ?_)))))
   rw [own_firstz hbe hok1]
   show own_Fin _ _ _ _ (T1348.setTop (mkF m 94 #[.val (.ref a1), .val (.ref b1257), .val (.ref b1317), .val v'4, .val (.ref b1257), .val v'9, .val v'7, .val (.long be), .second, .val (.int x2), .val (.int x3)] [(.int x2)]))
   refine own_is X1348 q d8_94 (l' := #[.val (.ref a1), .val (.ref b1257), .val (.ref b1317), .val v'4, .val (.ref b1257), .val v'9, .val v'7, .val (.long be), .second, .val (.int x2), .val (.int x3)]) rfl (own_ll X1348 q d8_96 rfl (own_stp 99 (fun _ k => XS.l2i X1348.here hx rfl (q.d d8_98) rfl k) ?_))
   rw [own_lastz hbe hok1]
   show own_Fin _ _ _ _ (T1348.setTop (mkF m 99 #[.val (.ref a1), .val (.ref b1257), .val (.ref b1317), .val v'4, .val (.ref b1257), .val v'9, .val v'7, .val (.long be), .second, .val (.int x2), .val (.int x3)] [(.int x3)]))
   refine own_is X1348 q d8_99 (l' := #[.val (.ref a1), .val (.ref b1257), .val (.ref b1317), .val v'4, .val (.ref b1257), .val v'9, .val v'7, .val (.long be), .second, .val (.int x2), .val (.int x3)]) rfl (own_iln X1348 q d8_101 rfl (own_zn X1348 q d8_102 (((if0 _ _).trans (tlt ((by decide) : (0 : Int32) < (4 : Int32))).2.2.2)) (own_il X1348 q d8_105 rfl (own_aln X1348 q d8_107 rfl rfl (own_iln X1348 q d8_108 rfl (own_k X1348 q d8_109 (own_isubk 3 X1348 q d8_110 (by decide) (own_ild (v := (.int x3)) X1348 q hZ e1348 V1348 d8_111 (by decide) rfl (own_k X1348 q d8_112 (own_iadd X1348 q d8_113 (own_cn X1348 q d8_114 ((flt ((own_gap hok1) : ¬ ((x3 + (1 : Int32)) < x2))).2.2.1) ?_)))))))))))
   refine own_aln X1348 q d8_117 rfl rfl (own_iln X1348 q d8_118 rfl (own_k X1348 q d8_119 (own_isubk 3 X1348 q d8_120 (by decide) (own_aln X1348 q d8_121 rfl rfl (own_iln X1348 q d8_122 rfl (own_k X1348 q d8_123 (own_isubk 3 X1348 q d8_124 (by decide) (own_ild (v := (.int x3)) X1348 q hZ e1348 V1348 d8_125 (by decide) rfl (own_il X1348 q d8_126 rfl ?_)))))))))
   refine own_cS X1348 q hZ e1348 hown hml (W 59 rfl) (W 10 rfl) (W 7 rfl) (W 11 rfl) (rm3 l Z a0 hw x3 x3 x3 h1348 n0 zs1349 (own_maxS _)) d8_128 [(.int x3), (.int x3)] [v'3, (.ref b1317)] own_pd0 rfl rfl 2 (Nat.le_refl _) (by decide) (fun v1351 T1351 L1351 X1351 hQ1351 => ?_)
   obtain ⟨rfl, N1351q, e1351⟩ := hQ1351
   have N1351 := Fr.app N1348 N1351q
   refine own_nv ?_
   refine own_ist X1351 q hZ e1351 V1348 d8_131 (by decide) (Nat.le_of_ble_eq_true rfl) N1351 g_b1317 fun T1352 h1352 X1352 e1352 W1352 V1352 N1352 => ?_
   have zs1353 := Nat.le_trans zs1349 (Keep.of_wr W1352).1
   have kp1353 := kp1349.wr W1352 (Or.inr sz_b1317)
   refine own_gt X1352 q d8_132 (own_iik X1352 q d8_151 rfl (show ((7 : Int32) + (1 : Int32)) = (8 : Int32) by decide) (l' := #[.val (.ref a1), .val (.ref b1257), .val (.ref b1317), .val v'4, .val (.ref b1257), .val v'9, .val v'8, .val (.long be), .second, .val (.int x2), .val (.int x3)]) rfl (own_gt X1352 q d8_154 (own_il X1352 q d8_74 rfl (own_il X1352 q d8_76 rfl (own_cn X1352 q d8_78 ((tlt ((by decide) : (8 : Int32) < (9 : Int32))).2.1) (own_al X1352 q d8_81 rfl rfl (own_il X1352 q d8_83 rfl ?_)))))))
   obtain ⟨cl1354, Ar1354, q1354, S1354, M1354, H1354, G1354⟩ := id (((((((((((V1313.ext E1317).other W1320 (own_ne (V1313).lt (Nat.le_of_eq g1317.symm))).other W1322 (own_ne (V1313).lt (Nat.le_of_eq g1317.symm))).other W1326 (own_ne (V1313).lt (Nat.le_of_eq g1317.symm))).other W1330 (own_ne (V1313).lt (Nat.le_of_eq g1317.symm))).other W1334 (own_ne (V1313).lt (Nat.le_of_eq g1317.symm))).other W1338 (own_ne (V1313).lt (Nat.le_of_eq g1317.symm))).other W1342 (own_ne (V1313).lt (Nat.le_of_eq g1317.symm))).other W1344 (own_ne (V1313).lt (Nat.le_of_eq g1317.symm))).other W1348 (own_ne (V1313).lt (Nat.le_of_eq g1317.symm))).other W1352 (own_ne (V1313).lt (Nat.le_of_eq g1317.symm)))
   refine own_stp 86 (fun _ k => X1352.laload hx (j := (8 : Int32)) (v := (.long be)) (by rw [e1352]; exact Ar1354.1) (State.isArrayOf_alike hZ.alike Ar1354.2.1) Ar1354.2.2 (inb_of S1354 ⟨by decide, by decide⟩) (Has.at H1354 (inb_of S1354 ⟨by decide, by decide⟩) rfl) (g := mkF m 85 _ _) rfl rfl (q.d d8_85) _ k) (own_ls X1352 q d8_86 (l' := #[.val (.ref a1), .val (.ref b1257), .val (.ref b1317), .val v'4, .val (.ref b1257), .val v'9, .val v'8, .val (.long be), .second, .val (.int x2), .val (.int x3)]) rfl (own_ll X1352 q d8_88 rfl (own_k X1352 q d8_90 (own_stp 93 (fun _ k => XS.lushr X1352.here hx rfl (q.d d8_92) rfl k) (own_stp 94 (fun _ k => XS.l2i X1352.here hx rfl (q.d d8_93) rfl k) ?_)))))
   rw [own_firstz hbe hok1]
   show own_Fin _ _ _ _ (T1352.setTop (mkF m 94 #[.val (.ref a1), .val (.ref b1257), .val (.ref b1317), .val v'4, .val (.ref b1257), .val v'9, .val v'8, .val (.long be), .second, .val (.int x2), .val (.int x3)] [(.int x2)]))
   refine own_is X1352 q d8_94 (l' := #[.val (.ref a1), .val (.ref b1257), .val (.ref b1317), .val v'4, .val (.ref b1257), .val v'9, .val v'8, .val (.long be), .second, .val (.int x2), .val (.int x3)]) rfl (own_ll X1352 q d8_96 rfl (own_stp 99 (fun _ k => XS.l2i X1352.here hx rfl (q.d d8_98) rfl k) ?_))
   rw [own_lastz hbe hok1]
   show own_Fin _ _ _ _ (T1352.setTop (mkF m 99 #[.val (.ref a1), .val (.ref b1257), .val (.ref b1317), .val v'4, .val (.ref b1257), .val v'9, .val v'8, .val (.long be), .second, .val (.int x2), .val (.int x3)] [(.int x3)]))
   refine own_is X1352 q d8_99 (l' := #[.val (.ref a1), .val (.ref b1257), .val (.ref b1317), .val v'4, .val (.ref b1257), .val v'9, .val v'8, .val (.long be), .second, .val (.int x2), .val (.int x3)]) rfl (own_iln X1352 q d8_101 rfl (own_zn X1352 q d8_102 (((if0 _ _).trans (tlt ((by decide) : (0 : Int32) < (4 : Int32))).2.2.2)) (own_il X1352 q d8_105 rfl (own_aln X1352 q d8_107 rfl rfl (own_iln X1352 q d8_108 rfl (own_k X1352 q d8_109 (own_isubk 3 X1352 q d8_110 (by decide) (own_ild (v := (.int x3)) X1352 q hZ e1352 V1352 d8_111 (by decide) rfl (own_k X1352 q d8_112 (own_iadd X1352 q d8_113 (own_cn X1352 q d8_114 ((flt ((own_gap hok1) : ¬ ((x3 + (1 : Int32)) < x2))).2.2.1) ?_)))))))))))
   refine own_aln X1352 q d8_117 rfl rfl (own_iln X1352 q d8_118 rfl (own_k X1352 q d8_119 (own_isubk 3 X1352 q d8_120 (by decide) (own_aln X1352 q d8_121 rfl rfl (own_iln X1352 q d8_122 rfl (own_k X1352 q d8_123 (own_isubk 3 X1352 q d8_124 (by decide) (own_ild (v := (.int x3)) X1352 q hZ e1352 V1352 d8_125 (by decide) rfl (own_il X1352 q d8_126 rfl ?_)))))))))
   refine own_cS X1352 q hZ e1352 hown hml (W 59 rfl) (W 10 rfl) (W 7 rfl) (W 11 rfl) (rm3 l Z a0 hw x3 x3 x3 h1352 n0 zs1353 (own_maxS _)) d8_128 [(.int x3), (.int x3)] [v'3, (.ref b1317)] own_pd0 rfl rfl 2 (Nat.le_refl _) (by decide) (fun v1355 T1355 L1355 X1355 hQ1355 => ?_)
   obtain ⟨rfl, N1355q, e1355⟩ := hQ1355
   have N1355 := Fr.app N1352 N1355q
   refine own_nv ?_
   refine own_ist X1355 q hZ e1355 V1352 d8_131 (by decide) (Nat.le_of_ble_eq_true rfl) N1355 g_b1317 fun T1356 h1356 X1356 e1356 W1356 V1356 N1356 => ?_
   have zs1357 := Nat.le_trans zs1353 (Keep.of_wr W1356).1
   have kp1357 := kp1353.wr W1356 (Or.inr sz_b1317)
   refine own_gt X1356 q d8_132 (own_iik X1356 q d8_151 rfl (show ((8 : Int32) + (1 : Int32)) = (9 : Int32) by decide) (l' := #[.val (.ref a1), .val (.ref b1257), .val (.ref b1317), .val v'4, .val (.ref b1257), .val v'9, .val v'9, .val (.long be), .second, .val (.int x2), .val (.int x3)]) rfl (own_gt X1356 q d8_154 (own_il X1356 q d8_74 rfl (own_il X1356 q d8_76 rfl (own_cy X1356 q d8_78 ((flt (Int32.lt_irrefl : ¬ ((9 : Int32) < (9 : Int32)))).2.1) ?_)))))
   refine own_let ?_; intro g1358_
   obtain ⟨T1359, h1359, X1359, e1359, E1359, A1359, D1359, -, st1359⟩ := newO X1356 hx hZ hown (W 60 rfl) (W 61 rfl) (W 62 rfl) e1356 (g := g1358_) rfl (q.d d8_157) (by decide) (by decide)
   obtain ⟨b1359, g1359⟩ : ∃ z, z = h1356.size := ⟨_, rfl⟩
   rw [← g1359] at A1359 D1359 st1359
   have zs1360 := Nat.le_trans zs1357 E1359.1
   have kp1360 := kp1357.ext E1359
   have g_b1359 : n0 ≤ b1359 := Nat.le_trans zs1357 (Nat.le_of_eq g1359.symm)
   have sz_b1359 : h0.size ≤ b1359 := Nat.le_trans kp1357.1 (Nat.le_of_eq g1359.symm)
   have F1359_ascii : F'2 Z h1359 b1359 .null := D1359 (Or.inr (W 68 rfl)) (ty := (.array .long)) (by decide)
   have F1359_ranges : F'3 Z h1359 b1359 .null := D1359 (Or.inr (W 70 rfl)) (ty := (.array .int)) (by decide)
   refine own_stq 160 [(.ref b1359)] st1359 (own_dp X1359 q d8_160 rfl (own_aln X1359 q d8_161 rfl rfl (own_iln X1359 q d8_162 rfl ?_)))
   refine own_cSh X1359 q hZ e1359 hown hml (W 31 rfl) (W 32 rfl) (W 33 rfl) (W 34 rfl) (rm7_d l Z a0 hw b1317 k1317 x0 x1 x2 x3 h1359 n0 zs1360 (V1356.ext E1359)) d8_163 [(.ref b1317), v'4] [(.ref b1359), (.ref b1359)] own_pd1 rfl rfl 2 (Nat.le_refl _) (by decide) (fun v1361 T1361 L1361 h1361 e1361' X1361 hQ1361 => ?_)
   obtain ⟨b1361, k1361, rfl, N1361q, E1361, lo1361, V1361⟩ := hQ1361
   have N1361 := Fr.app N1356 N1361q
   have zs1362 := Nat.le_trans zs1360 E1361.1
   have kp1362 := kp1360.ext E1361
   have g_b1361 : n0 ≤ b1361 := Nat.le_trans zs1360 lo1361
   have sz_b1361 : h0.size ≤ b1361 := Nat.le_trans kp1360.1 lo1361
   refine own_nv ?_
   refine own_let ?_; intro g1364_
   obtain ⟨_, _, ⟨T1363, L1363, k1363, n1363⟩, -, X1363, ⟨Lc1363, hQ1363, l1363, y1363, z1363⟩, st1363⟩ := X1361.specialBackNest hx (y := own_y10) rfl hown (Cond.methodLinkNest_wide hZ (W 63 rfl) :) (mvT hZ (W 64 rfl)) (mvT hZ (W 65 rfl)) (by decide) (backOf (W := 1) (rm13_4 l Z a0 hw b1359 b1361 k1361 x0 x1 x2 x3 h1361 n0 zs1362 (A1359.ext E1361) (F1359_ranges.ext E1361) (F1359_ascii.ext E1361) V1361 g_b1359 (own_ne (A1359).lt lo1361) hok0 hok1 ((own_gapI (own_okR hok0)).mp hc114_1341)) hZ (W 65 rfl) (W 62 rfl) (by decide) (by decide)) (g := g1364_) rfl (by rw [hml]; rfl) (Steps.refl _) (a := b1359) (argsL := [(.ref b1361)]) (rest := [(.ref b1359)]) (lenOf own_pd8 rfl) rfl (by show 2 * 0 + _ ≤ _; exact Nat.le_of_eq rfl) (q.d d8_166) (fun _ _ => ⟨rfl, e1361', (by decide : 4 + 1 ≤ _), (by decide : 33 + 2 ≤ _)⟩)
   dsimp only [Pt.U, Pt.locs, Pt.cells, Pt.slots] at X1363 l1363 y1363 z1363 st1363 hQ1363
   rw [l1363, y1363, z1363] at X1363
   clear l1363 y1363 z1363
   obtain ⟨b1363, k1363, wa1363, wb1363, rfl, N1363q, K1363, lo1363, Fa1363, Fb1363, V1363, bt1363⟩ := hQ1363
   have N1363 := Fr.app N1361 N1363q
   obtain ⟨h1363, e1363⟩ : ∃ z, z = T1363.heap := ⟨_, rfl⟩
   have e1363' := e1363.symm
   rw [← e1363] at K1363 Fa1363 Fb1363 V1363
   have zs1365 := Nat.le_trans zs1362 K1363.1
   have kp1365 := kp1362.trans K1363 (allS (Or.inr sz_b1359) all0)
   have g_b1363 : n0 ≤ b1363 := Nat.le_trans zs1362 lo1363
   have sz_b1363 : h0.size ≤ b1363 := Nat.le_trans kp1362.1 lo1363
   refine own_stp 169 (fun _ k => st1363.trans k) (own_nn ?_)
   refine own_rA X1363 q hrt d8_169 hlk (by decide) ?_
   show QBD Z x0 x1 x2 x3 h0 n0 _ T1363.heap _
   rw [e1363']
   exact ⟨_, _, _, _, _, _, _, rfl, N1363, own_extK kp1365, ((A1359.ext E1361).keep K1363), Fa1363, Fb1363, V1363, Or.inr ⟨_, _, _, _, (V1361.keep K1363 (ninS (Ne.symm (own_ne (A1359).lt lo1361)) nin0)), own_four1 hok0 hok1 hc114_1341 bt1363⟩⟩
  ·refine own_cn X1338 q d8_114 ((flt hc114_1341).2.2.1) (own_aln X1338 q d8_117 rfl rfl (own_iln X1338 q d8_118 rfl (own_k X1338 q d8_119 (own_isubk 1 X1338 q d8_120 (by decide) (own_aln X1338 q d8_121 rfl rfl (own_iln X1338 q d8_122 rfl (own_k X1338 q d8_123 (own_isubk 1 X1338 q d8_124 (by decide) (own_ild (v := (.int x1)) X1338 q hZ e1338 V1338 d8_125 (by decide) rfl (own_il X1338 q d8_126 rfl ?_))))))))))
   obtain ⟨z1366, hz1366⟩ : ∃ z, own_max x1 x3 = z := ⟨_, rfl⟩
   refine own_cS X1338 q hZ e1338 hown hml (W 59 rfl) (W 10 rfl) (W 7 rfl) (W 11 rfl) (rm3 l Z a0 hw x1 x3 z1366 h1338 n0 zs1339 hz1366) d8_128 [(.int x1), (.int x3)] [v'1, (.ref b1317)] own_pd0 rfl rfl 2 (Nat.le_refl _) (by decide) (fun v1367 T1367 L1367 X1367 hQ1367 => ?_)
   obtain ⟨rfl, N1367q, e1367⟩ := hQ1367
   have N1367 := Fr.app N1338 N1367q
   refine own_nv ?_
   refine own_ist X1367 q hZ e1367 V1338 d8_131 (by decide) (Nat.le_of_ble_eq_true rfl) N1367 g_b1317 fun T1368 h1368 X1368 e1368 W1368 V1368 N1368 => ?_
   have zs1369 := Nat.le_trans zs1339 (Keep.of_wr W1368).1
   have kp1369 := kp1339.wr W1368 (Or.inr sz_b1317)
   refine own_gt X1368 q d8_132 (own_iik X1368 q d8_151 rfl (show ((5 : Int32) + (1 : Int32)) = (6 : Int32) by decide) (l' := #[.val (.ref a1), .val (.ref b1257), .val (.ref b1317), .val v'2, .val (.ref b1257), .val v'9, .val v'6, .val (.long be), .second, .val (.int x2), .val (.int x3)]) rfl (own_gt X1368 q d8_154 (own_il X1368 q d8_74 rfl (own_il X1368 q d8_76 rfl (own_cn X1368 q d8_78 ((tlt ((by decide) : (6 : Int32) < (9 : Int32))).2.1) (own_al X1368 q d8_81 rfl rfl (own_il X1368 q d8_83 rfl ?_)))))))
   obtain ⟨cl1370, Ar1370, q1370, S1370, M1370, H1370, G1370⟩ := id ((((((((V1313.ext E1317).other W1320 (own_ne (V1313).lt (Nat.le_of_eq g1317.symm))).other W1322 (own_ne (V1313).lt (Nat.le_of_eq g1317.symm))).other W1326 (own_ne (V1313).lt (Nat.le_of_eq g1317.symm))).other W1330 (own_ne (V1313).lt (Nat.le_of_eq g1317.symm))).other W1334 (own_ne (V1313).lt (Nat.le_of_eq g1317.symm))).other W1338 (own_ne (V1313).lt (Nat.le_of_eq g1317.symm))).other W1368 (own_ne (V1313).lt (Nat.le_of_eq g1317.symm)))
   refine own_stp 86 (fun _ k => X1368.laload hx (j := (6 : Int32)) (v := (.long be)) (by rw [e1368]; exact Ar1370.1) (State.isArrayOf_alike hZ.alike Ar1370.2.1) Ar1370.2.2 (inb_of S1370 ⟨by decide, by decide⟩) (Has.at H1370 (inb_of S1370 ⟨by decide, by decide⟩) rfl) (g := mkF m 85 _ _) rfl rfl (q.d d8_85) _ k) (own_ls X1368 q d8_86 (l' := #[.val (.ref a1), .val (.ref b1257), .val (.ref b1317), .val v'2, .val (.ref b1257), .val v'9, .val v'6, .val (.long be), .second, .val (.int x2), .val (.int x3)]) rfl (own_ll X1368 q d8_88 rfl (own_k X1368 q d8_90 (own_stp 93 (fun _ k => XS.lushr X1368.here hx rfl (q.d d8_92) rfl k) (own_stp 94 (fun _ k => XS.l2i X1368.here hx rfl (q.d d8_93) rfl k) ?_)))))
   rw [own_firstz hbe hok1]
   show own_Fin _ _ _ _ (T1368.setTop (mkF m 94 #[.val (.ref a1), .val (.ref b1257), .val (.ref b1317), .val v'2, .val (.ref b1257), .val v'9, .val v'6, .val (.long be), .second, .val (.int x2), .val (.int x3)] [(.int x2)]))
   refine own_is X1368 q d8_94 (l' := #[.val (.ref a1), .val (.ref b1257), .val (.ref b1317), .val v'2, .val (.ref b1257), .val v'9, .val v'6, .val (.long be), .second, .val (.int x2), .val (.int x3)]) rfl (own_ll X1368 q d8_96 rfl (own_stp 99 (fun _ k => XS.l2i X1368.here hx rfl (q.d d8_98) rfl k) ?_))
   rw [own_lastz hbe hok1]
   show own_Fin _ _ _ _ (T1368.setTop (mkF m 99 #[.val (.ref a1), .val (.ref b1257), .val (.ref b1317), .val v'2, .val (.ref b1257), .val v'9, .val v'6, .val (.long be), .second, .val (.int x2), .val (.int x3)] [(.int x3)]))
   refine own_is X1368 q d8_99 (l' := #[.val (.ref a1), .val (.ref b1257), .val (.ref b1317), .val v'2, .val (.ref b1257), .val v'9, .val v'6, .val (.long be), .second, .val (.int x2), .val (.int x3)]) rfl (own_iln X1368 q d8_101 rfl (own_zn X1368 q d8_102 (((if0 _ _).trans (tlt ((by decide) : (0 : Int32) < (2 : Int32))).2.2.2)) (own_il X1368 q d8_105 rfl (own_aln X1368 q d8_107 rfl rfl (own_iln X1368 q d8_108 rfl (own_k X1368 q d8_109 (own_isubk 1 X1368 q d8_110 (by decide) (own_ild (v := (.int z1366)) X1368 q hZ e1368 V1368 d8_111 (by decide) rfl (own_k X1368 q d8_112 (own_iadd X1368 q d8_113 (own_cn X1368 q d8_114 ((flt ((own_gapM hok1 (own_okR hok0) hz1366) : ¬ ((z1366 + (1 : Int32)) < x2))).2.2.1) ?_)))))))))))
   refine own_aln X1368 q d8_117 rfl rfl (own_iln X1368 q d8_118 rfl (own_k X1368 q d8_119 (own_isubk 1 X1368 q d8_120 (by decide) (own_aln X1368 q d8_121 rfl rfl (own_iln X1368 q d8_122 rfl (own_k X1368 q d8_123 (own_isubk 1 X1368 q d8_124 (by decide) (own_ild (v := (.int z1366)) X1368 q hZ e1368 V1368 d8_125 (by decide) rfl (own_il X1368 q d8_126 rfl ?_)))))))))
   refine own_cS X1368 q hZ e1368 hown hml (W 59 rfl) (W 10 rfl) (W 7 rfl) (W 11 rfl) (rm3 l Z a0 hw z1366 x3 z1366 h1368 n0 zs1369 (own_maxM hz1366)) d8_128 [(.int z1366), (.int x3)] [v'1, (.ref b1317)] own_pd0 rfl rfl 2 (Nat.le_refl _) (by decide) (fun v1371 T1371 L1371 X1371 hQ1371 => ?_)
   obtain ⟨rfl, N1371q, e1371⟩ := hQ1371
   have N1371 := Fr.app N1368 N1371q
   refine own_nv ?_
   refine own_ist X1371 q hZ e1371 V1368 d8_131 (by decide) (Nat.le_of_ble_eq_true rfl) N1371 g_b1317 fun T1372 h1372 X1372 e1372 W1372 V1372 N1372 => ?_
   have zs1373 := Nat.le_trans zs1369 (Keep.of_wr W1372).1
   have kp1373 := kp1369.wr W1372 (Or.inr sz_b1317)
   refine own_gt X1372 q d8_132 (own_iik X1372 q d8_151 rfl (show ((6 : Int32) + (1 : Int32)) = (7 : Int32) by decide) (l' := #[.val (.ref a1), .val (.ref b1257), .val (.ref b1317), .val v'2, .val (.ref b1257), .val v'9, .val v'7, .val (.long be), .second, .val (.int x2), .val (.int x3)]) rfl (own_gt X1372 q d8_154 (own_il X1372 q d8_74 rfl (own_il X1372 q d8_76 rfl (own_cn X1372 q d8_78 ((tlt ((by decide) : (7 : Int32) < (9 : Int32))).2.1) (own_al X1372 q d8_81 rfl rfl (own_il X1372 q d8_83 rfl ?_)))))))
   obtain ⟨cl1374, Ar1374, q1374, S1374, M1374, H1374, G1374⟩ := id (((((((((V1313.ext E1317).other W1320 (own_ne (V1313).lt (Nat.le_of_eq g1317.symm))).other W1322 (own_ne (V1313).lt (Nat.le_of_eq g1317.symm))).other W1326 (own_ne (V1313).lt (Nat.le_of_eq g1317.symm))).other W1330 (own_ne (V1313).lt (Nat.le_of_eq g1317.symm))).other W1334 (own_ne (V1313).lt (Nat.le_of_eq g1317.symm))).other W1338 (own_ne (V1313).lt (Nat.le_of_eq g1317.symm))).other W1368 (own_ne (V1313).lt (Nat.le_of_eq g1317.symm))).other W1372 (own_ne (V1313).lt (Nat.le_of_eq g1317.symm)))
   refine own_stp 86 (fun _ k => X1372.laload hx (j := (7 : Int32)) (v := (.long be)) (by rw [e1372]; exact Ar1374.1) (State.isArrayOf_alike hZ.alike Ar1374.2.1) Ar1374.2.2 (inb_of S1374 ⟨by decide, by decide⟩) (Has.at H1374 (inb_of S1374 ⟨by decide, by decide⟩) rfl) (g := mkF m 85 _ _) rfl rfl (q.d d8_85) _ k) (own_ls X1372 q d8_86 (l' := #[.val (.ref a1), .val (.ref b1257), .val (.ref b1317), .val v'2, .val (.ref b1257), .val v'9, .val v'7, .val (.long be), .second, .val (.int x2), .val (.int x3)]) rfl (own_ll X1372 q d8_88 rfl (own_k X1372 q d8_90 (own_stp 93 (fun _ k => XS.lushr X1372.here hx rfl (q.d d8_92) rfl k) (own_stp 94 (fun _ k => XS.l2i X1372.here hx rfl (q.d d8_93) rfl k) ?_)))))
   rw [own_firstz hbe hok1]
   show own_Fin _ _ _ _ (T1372.setTop (mkF m 94 #[.val (.ref a1), .val (.ref b1257), .val (.ref b1317), .val v'2, .val (.ref b1257), .val v'9, .val v'7, .val (.long be), .second, .val (.int x2), .val (.int x3)] [(.int x2)]))
   refine own_is X1372 q d8_94 (l' := #[.val (.ref a1), .val (.ref b1257), .val (.ref b1317), .val v'2, .val (.ref b1257), .val v'9, .val v'7, .val (.long be), .second, .val (.int x2), .val (.int x3)]) rfl (own_ll X1372 q d8_96 rfl (own_stp 99 (fun _ k => XS.l2i X1372.here hx rfl (q.d d8_98) rfl k) ?_))
   rw [own_lastz hbe hok1]
   show own_Fin _ _ _ _ (T1372.setTop (mkF m 99 #[.val (.ref a1), .val (.ref b1257), .val (.ref b1317), .val v'2, .val (.ref b1257), .val v'9, .val v'7, .val (.long be), .second, .val (.int x2), .val (.int x3)] [(.int x3)]))
   refine own_is X1372 q d8_99 (l' := #[.val (.ref a1), .val (.ref b1257), .val (.ref b1317), .val v'2, .val (.ref b1257), .val v'9, .val v'7, .val (.long be), .second, .val (.int x2), .val (.int x3)]) rfl (own_iln X1372 q d8_101 rfl (own_zn X1372 q d8_102 (((if0 _ _).trans (tlt ((by decide) : (0 : Int32) < (2 : Int32))).2.2.2)) (own_il X1372 q d8_105 rfl (own_aln X1372 q d8_107 rfl rfl (own_iln X1372 q d8_108 rfl (own_k X1372 q d8_109 (own_isubk 1 X1372 q d8_110 (by decide) (own_ild (v := (.int z1366)) X1372 q hZ e1372 V1372 d8_111 (by decide) rfl (own_k X1372 q d8_112 (own_iadd X1372 q d8_113 (own_cn X1372 q d8_114 ((flt ((own_gapM hok1 (own_okR hok0) hz1366) : ¬ ((z1366 + (1 : Int32)) < x2))).2.2.1) ?_)))))))))))
   refine own_aln X1372 q d8_117 rfl rfl (own_iln X1372 q d8_118 rfl (own_k X1372 q d8_119 (own_isubk 1 X1372 q d8_120 (by decide) (own_aln X1372 q d8_121 rfl rfl (own_iln X1372 q d8_122 rfl (own_k X1372 q d8_123 (own_isubk 1 X1372 q d8_124 (by decide) (own_ild (v := (.int z1366)) X1372 q hZ e1372 V1372 d8_125 (by decide) rfl (own_il X1372 q d8_126 rfl ?_)))))))))
   refine own_cS X1372 q hZ e1372 hown hml (W 59 rfl) (W 10 rfl) (W 7 rfl) (W 11 rfl) (rm3 l Z a0 hw z1366 x3 z1366 h1372 n0 zs1373 (own_maxM hz1366)) d8_128 [(.int z1366), (.int x3)] [v'1, (.ref b1317)] own_pd0 rfl rfl 2 (Nat.le_refl _) (by decide) (fun v1375 T1375 L1375 X1375 hQ1375 => ?_)
   obtain ⟨rfl, N1375q, e1375⟩ := hQ1375
   have N1375 := Fr.app N1372 N1375q
   refine own_nv ?_
   refine own_ist X1375 q hZ e1375 V1372 d8_131 (by decide) (Nat.le_of_ble_eq_true rfl) N1375 g_b1317 fun T1376 h1376 X1376 e1376 W1376 V1376 N1376 => ?_
   have zs1377 := Nat.le_trans zs1373 (Keep.of_wr W1376).1
   have kp1377 := kp1373.wr W1376 (Or.inr sz_b1317)
   refine own_gt X1376 q d8_132 (own_iik X1376 q d8_151 rfl (show ((7 : Int32) + (1 : Int32)) = (8 : Int32) by decide) (l' := #[.val (.ref a1), .val (.ref b1257), .val (.ref b1317), .val v'2, .val (.ref b1257), .val v'9, .val v'8, .val (.long be), .second, .val (.int x2), .val (.int x3)]) rfl (own_gt X1376 q d8_154 (own_il X1376 q d8_74 rfl (own_il X1376 q d8_76 rfl (own_cn X1376 q d8_78 ((tlt ((by decide) : (8 : Int32) < (9 : Int32))).2.1) (own_al X1376 q d8_81 rfl rfl (own_il X1376 q d8_83 rfl ?_)))))))
   obtain ⟨cl1378, Ar1378, q1378, S1378, M1378, H1378, G1378⟩ := id ((((((((((V1313.ext E1317).other W1320 (own_ne (V1313).lt (Nat.le_of_eq g1317.symm))).other W1322 (own_ne (V1313).lt (Nat.le_of_eq g1317.symm))).other W1326 (own_ne (V1313).lt (Nat.le_of_eq g1317.symm))).other W1330 (own_ne (V1313).lt (Nat.le_of_eq g1317.symm))).other W1334 (own_ne (V1313).lt (Nat.le_of_eq g1317.symm))).other W1338 (own_ne (V1313).lt (Nat.le_of_eq g1317.symm))).other W1368 (own_ne (V1313).lt (Nat.le_of_eq g1317.symm))).other W1372 (own_ne (V1313).lt (Nat.le_of_eq g1317.symm))).other W1376 (own_ne (V1313).lt (Nat.le_of_eq g1317.symm)))
   refine own_stp 86 (fun _ k => X1376.laload hx (j := (8 : Int32)) (v := (.long be)) (by rw [e1376]; exact Ar1378.1) (State.isArrayOf_alike hZ.alike Ar1378.2.1) Ar1378.2.2 (inb_of S1378 ⟨by decide, by decide⟩) (Has.at H1378 (inb_of S1378 ⟨by decide, by decide⟩) rfl) (g := mkF m 85 _ _) rfl rfl (q.d d8_85) _ k) (own_ls X1376 q d8_86 (l' := #[.val (.ref a1), .val (.ref b1257), .val (.ref b1317), .val v'2, .val (.ref b1257), .val v'9, .val v'8, .val (.long be), .second, .val (.int x2), .val (.int x3)]) rfl (own_ll X1376 q d8_88 rfl (own_k X1376 q d8_90 (own_stp 93 (fun _ k => XS.lushr X1376.here hx rfl (q.d d8_92) rfl k) (own_stp 94 (fun _ k => XS.l2i X1376.here hx rfl (q.d d8_93) rfl k) ?_)))))
   rw [own_firstz hbe hok1]
   show own_Fin _ _ _ _ (T1376.setTop (mkF m 94 #[.val (.ref a1), .val (.ref b1257), .val (.ref b1317), .val v'2, .val (.ref b1257), .val v'9, .val v'8, .val (.long be), .second, .val (.int x2), .val (.int x3)] [(.int x2)]))
   refine own_is X1376 q d8_94 (l' := #[.val (.ref a1), .val (.ref b1257), .val (.ref b1317), .val v'2, .val (.ref b1257), .val v'9, .val v'8, .val (.long be), .second, .val (.int x2), .val (.int x3)]) rfl (own_ll X1376 q d8_96 rfl (own_stp 99 (fun _ k => XS.l2i X1376.here hx rfl (q.d d8_98) rfl k) ?_))
   rw [own_lastz hbe hok1]
   show own_Fin _ _ _ _ (T1376.setTop (mkF m 99 #[.val (.ref a1), .val (.ref b1257), .val (.ref b1317), .val v'2, .val (.ref b1257), .val v'9, .val v'8, .val (.long be), .second, .val (.int x2), .val (.int x3)] [(.int x3)]))
   refine own_is X1376 q d8_99 (l' := #[.val (.ref a1), .val (.ref b1257), .val (.ref b1317), .val v'2, .val (.ref b1257), .val v'9, .val v'8, .val (.long be), .second, .val (.int x2), .val (.int x3)]) rfl (own_iln X1376 q d8_101 rfl (own_zn X1376 q d8_102 (((if0 _ _).trans (tlt ((by decide) : (0 : Int32) < (2 : Int32))).2.2.2)) (own_il X1376 q d8_105 rfl (own_aln X1376 q d8_107 rfl rfl (own_iln X1376 q d8_108 rfl (own_k X1376 q d8_109 (own_isubk 1 X1376 q d8_110 (by decide) (own_ild (v := (.int z1366)) X1376 q hZ e1376 V1376 d8_111 (by decide) rfl (own_k X1376 q d8_112 (own_iadd X1376 q d8_113 (own_cn X1376 q d8_114 ((flt ((own_gapM hok1 (own_okR hok0) hz1366) : ¬ ((z1366 + (1 : Int32)) < x2))).2.2.1) ?_)))))))))))
   refine own_aln X1376 q d8_117 rfl rfl (own_iln X1376 q d8_118 rfl (own_k X1376 q d8_119 (own_isubk 1 X1376 q d8_120 (by decide) (own_aln X1376 q d8_121 rfl rfl (own_iln X1376 q d8_122 rfl (own_k X1376 q d8_123 (own_isubk 1 X1376 q d8_124 (by decide) (own_ild (v := (.int z1366)) X1376 q hZ e1376 V1376 d8_125 (by decide) rfl (own_il X1376 q d8_126 rfl ?_)))))))))
   refine own_cS X1376 q hZ e1376 hown hml (W 59 rfl) (W 10 rfl) (W 7 rfl) (W 11 rfl) (rm3 l Z a0 hw z1366 x3 z1366 h1376 n0 zs1377 (own_maxM hz1366)) d8_128 [(.int z1366), (.int x3)] [v'1, (.ref b1317)] own_pd0 rfl rfl 2 (Nat.le_refl _) (by decide) (fun v1379 T1379 L1379 X1379 hQ1379 => ?_)
   obtain ⟨rfl, N1379q, e1379⟩ := hQ1379
   have N1379 := Fr.app N1376 N1379q
   refine own_nv ?_
   refine own_ist X1379 q hZ e1379 V1376 d8_131 (by decide) (Nat.le_of_ble_eq_true rfl) N1379 g_b1317 fun T1380 h1380 X1380 e1380 W1380 V1380 N1380 => ?_
   have zs1381 := Nat.le_trans zs1377 (Keep.of_wr W1380).1
   have kp1381 := kp1377.wr W1380 (Or.inr sz_b1317)
   refine own_gt X1380 q d8_132 (own_iik X1380 q d8_151 rfl (show ((8 : Int32) + (1 : Int32)) = (9 : Int32) by decide) (l' := #[.val (.ref a1), .val (.ref b1257), .val (.ref b1317), .val v'2, .val (.ref b1257), .val v'9, .val v'9, .val (.long be), .second, .val (.int x2), .val (.int x3)]) rfl (own_gt X1380 q d8_154 (own_il X1380 q d8_74 rfl (own_il X1380 q d8_76 rfl (own_cy X1380 q d8_78 ((flt (Int32.lt_irrefl : ¬ ((9 : Int32) < (9 : Int32)))).2.1) ?_)))))
   refine own_let ?_; intro g1382_
   obtain ⟨T1383, h1383, X1383, e1383, E1383, A1383, D1383, -, st1383⟩ := newO X1380 hx hZ hown (W 60 rfl) (W 61 rfl) (W 62 rfl) e1380 (g := g1382_) rfl (q.d d8_157) (by decide) (by decide)
   obtain ⟨b1383, g1383⟩ : ∃ z, z = h1380.size := ⟨_, rfl⟩
   rw [← g1383] at A1383 D1383 st1383
   have zs1384 := Nat.le_trans zs1381 E1383.1
   have kp1384 := kp1381.ext E1383
   have g_b1383 : n0 ≤ b1383 := Nat.le_trans zs1381 (Nat.le_of_eq g1383.symm)
   have sz_b1383 : h0.size ≤ b1383 := Nat.le_trans kp1381.1 (Nat.le_of_eq g1383.symm)
   have F1383_ascii : F'2 Z h1383 b1383 .null := D1383 (Or.inr (W 68 rfl)) (ty := (.array .long)) (by decide)
   have F1383_ranges : F'3 Z h1383 b1383 .null := D1383 (Or.inr (W 70 rfl)) (ty := (.array .int)) (by decide)
   refine own_stq 160 [(.ref b1383)] st1383 (own_dp X1383 q d8_160 rfl (own_aln X1383 q d8_161 rfl rfl (own_iln X1383 q d8_162 rfl ?_)))
   refine own_cSh X1383 q hZ e1383 hown hml (W 31 rfl) (W 32 rfl) (W 33 rfl) (W 34 rfl) (rm7_b l Z a0 hw b1317 k1317 x0 z1366 h1383 n0 zs1384 (V1380.ext E1383)) d8_163 [(.ref b1317), v'2] [(.ref b1383), (.ref b1383)] own_pd1 rfl rfl 2 (Nat.le_refl _) (by decide) (fun v1385 T1385 L1385 h1385 e1385' X1385 hQ1385 => ?_)
   obtain ⟨b1385, k1385, rfl, N1385q, E1385, lo1385, V1385⟩ := hQ1385
   have N1385 := Fr.app N1380 N1385q
   have zs1386 := Nat.le_trans zs1384 E1385.1
   have kp1386 := kp1384.ext E1385
   have g_b1385 : n0 ≤ b1385 := Nat.le_trans zs1384 lo1385
   have sz_b1385 : h0.size ≤ b1385 := Nat.le_trans kp1384.1 lo1385
   refine own_nv ?_
   refine own_let ?_; intro g1388_
   obtain ⟨_, _, ⟨T1387, L1387, k1387, n1387⟩, -, X1387, ⟨Lc1387, hQ1387, l1387, y1387, z1387⟩, st1387⟩ := X1385.specialBackNest hx (y := own_y10) rfl hown (Cond.methodLinkNest_wide hZ (W 63 rfl) :) (mvT hZ (W 64 rfl)) (mvT hZ (W 65 rfl)) (by decide) (backOf (W := 1) (rm13_2 l Z a0 hw b1383 b1385 k1385 x0 z1366 h1385 n0 zs1386 (A1383.ext E1385) (F1383_ranges.ext E1385) (F1383_ascii.ext E1385) V1385 g_b1383 (own_ne (A1383).lt lo1385) (own_okM hok0 hok1 hz1366)) hZ (W 65 rfl) (W 62 rfl) (by decide) (by decide)) (g := g1388_) rfl (by rw [hml]; rfl) (Steps.refl _) (a := b1383) (argsL := [(.ref b1385)]) (rest := [(.ref b1383)]) (lenOf own_pd8 rfl) rfl (by show 2 * 0 + _ ≤ _; exact Nat.le_of_eq rfl) (q.d d8_166) (fun _ _ => ⟨rfl, e1385', (by decide : 4 + 1 ≤ _), (by decide : 31 + 2 ≤ _)⟩)
   dsimp only [Pt.U, Pt.locs, Pt.cells, Pt.slots] at X1387 l1387 y1387 z1387 st1387 hQ1387
   rw [l1387, y1387, z1387] at X1387
   clear l1387 y1387 z1387
   obtain ⟨b1387, k1387, wa1387, wb1387, rfl, N1387q, K1387, lo1387, Fa1387, Fb1387, V1387, bt1387⟩ := hQ1387
   have N1387 := Fr.app N1385 N1387q
   obtain ⟨h1387, e1387⟩ : ∃ z, z = T1387.heap := ⟨_, rfl⟩
   have e1387' := e1387.symm
   rw [← e1387] at K1387 Fa1387 Fb1387 V1387
   have zs1389 := Nat.le_trans zs1386 K1387.1
   have kp1389 := kp1386.trans K1387 (allS (Or.inr sz_b1383) all0)
   have g_b1387 : n0 ≤ b1387 := Nat.le_trans zs1386 lo1387
   have sz_b1387 : h0.size ≤ b1387 := Nat.le_trans kp1386.1 lo1387
   refine own_stp 169 (fun _ k => st1387.trans k) (own_nn ?_)
   refine own_rA X1387 q hrt d8_169 hlk (by decide) ?_
   show QBD Z x0 x1 x2 x3 h0 n0 _ T1387.heap _
   rw [e1387']
   exact ⟨_, _, _, _, _, _, _, rfl, N1387, own_extK kp1389, ((A1383.ext E1385).keep K1387), Fa1387, Fb1387, V1387, Or.inl ⟨_, _, (V1385.keep K1387 (ninS (Ne.symm (own_ne (A1383).lt lo1385)) nin0)), own_two1 hok0 hok1 (own_lle hal hbe hok0 hok1 hlt) hc114_1341 hz1366 bt1387⟩⟩
 by_cases hgt : lcmpW be al < (0 : Int32)
 ·show own_Fin _ _ _ _ (T1311.setTop (mkF m 51 #[.val (.ref a1), .val (.ref b1257), .val v'9, .unset, .unset, .unset, .unset, .unset, .unset, .unset, .unset] [(.ref b1257)]))
  refine own_cSh X1311 q hZ e1311 hown hml (W 46 rfl) (W 47 rfl) (W 33 rfl) (W 48 rfl) (rm9_2 l Z a0 hw b1257 k1257 al be h1311 n0 zs1312 V1311 g_b1257 hlt hgt) d8_51 [(.ref b1257)] [] own_pd7 rfl rfl 0 (Nat.le_refl _) (by decide) (fun v1390 T1390 L1390 h1390 e1390' X1390 hQ1390 => ?_)
  obtain ⟨rfl, N1390q, K1390, V1390⟩ := hQ1390
  have N1390 := Fr.app N1311 N1390q
  have zs1391 := Nat.le_trans zs1312 K1390.1
  have kp1391 := kp1312.trans K1390 (allS (Or.inr sz_b1257) all0)
  refine own_nn (own_aln X1390 q d8_54 rfl rfl ?_)
  refine own_gF X1390 q hZ e1390' hown (W 29 rfl) (((((((((((FS.ext E1257).other W1263 (Or.inl (own_ne (E1).lt (Nat.le_of_eq g1257.symm)))).other W1269 (Or.inl (own_ne (E1).lt (Nat.le_of_eq g1257.symm)))).other W1275 (Or.inl (own_ne (E1).lt (Nat.le_of_eq g1257.symm)))).other W1281 (Or.inl (own_ne (E1).lt (Nat.le_of_eq g1257.symm)))).other W1287 (Or.inl (own_ne (E1).lt (Nat.le_of_eq g1257.symm)))).other W1293 (Or.inl (own_ne (E1).lt (Nat.le_of_eq g1257.symm)))).other W1299 (Or.inl (own_ne (E1).lt (Nat.le_of_eq g1257.symm)))).other W1305 (Or.inl (own_ne (E1).lt (Nat.le_of_eq g1257.symm)))).other W1311 (Or.inl (own_ne (E1).lt (Nat.le_of_eq g1257.symm)))).keep K1390 (ninS (own_ne (E1).lt (Nat.le_of_eq g1257.symm)) nin0)) d8_55 fun T1392 X1392 e1392 => ?_
  refine own_let ?_; intro g1393_
  obtain ⟨T1394, h1394, k1394, X1394, e1394, E1394, A1394, st1394⟩ := newP X1392 hx hZ (W 21 rfl) e1392 (g := g1393_) rfl (q.d d8_58) rfl (by decide) (cap := 18) (by decide) (by decide) (by decide) (by decide)
  obtain ⟨b1394, g1394⟩ : ∃ z, z = h1390.size := ⟨_, rfl⟩
  rw [← g1394] at A1394 st1394
  have V1394 : Arv Z h1394 b1394 k1394 .int (18 : Int32) [v'0, v'0, v'0, v'0, v'0, v'0, v'0, v'0, v'0, v'0, v'0, v'0, v'0, v'0, v'0, v'0, v'0, v'0] v'0 := (Arv.new A1394 (by decide)).pad (pad_rep [] v'0 18)
  have zs1395 := Nat.le_trans zs1391 E1394.1
  have kp1395 := kp1391.ext E1394
  have g_b1394 : n0 ≤ b1394 := Nat.le_trans zs1391 (Nat.le_of_eq g1394.symm)
  have sz_b1394 : h0.size ≤ b1394 := Nat.le_trans kp1391.1 (Nat.le_of_eq g1394.symm)
  refine own_stp 60 st1394 (own_asn X1394 q d8_60 rfl (l' := #[.val (.ref a1), .val (.ref b1257), .val (.ref b1394), .unset, .unset, .unset, .unset, .unset, .unset, .unset, .unset]) rfl (own_k X1394 q d8_61 (own_isn X1394 q d8_62 (l' := #[.val (.ref a1), .val (.ref b1257), .val (.ref b1394), .val v'0, .unset, .unset, .unset, .unset, .unset, .unset, .unset]) rfl (own_aln X1394 q d8_63 rfl rfl (own_as X1394 q d8_64 rfl (l' := #[.val (.ref a1), .val (.ref b1257), .val (.ref b1394), .val v'0, .val (.ref b1257), .unset, .unset, .unset, .unset, .unset, .unset]) rfl (own_al X1394 q d8_66 rfl rfl (own_alen (n := (9 : Int32)) X1394 q hZ e1394 (V1390.ext E1394) d8_68 (own_is X1394 q d8_69 (l' := #[.val (.ref a1), .val (.ref b1257), .val (.ref b1394), .val v'0, .val (.ref b1257), .val v'9, .unset, .unset, .unset, .unset, .unset]) rfl (own_k X1394 q d8_71 (own_is X1394 q d8_72 (l' := #[.val (.ref a1), .val (.ref b1257), .val (.ref b1394), .val v'0, .val (.ref b1257), .val v'9, .val v'0, .unset, .unset, .unset, .unset]) rfl (own_il X1394 q d8_74 rfl ?_)))))))))))
  refine own_il X1394 q d8_76 rfl (own_cn X1394 q d8_78 ((tlt ((by decide) : (0 : Int32) < (9 : Int32))).2.1) (own_al X1394 q d8_81 rfl rfl (own_il X1394 q d8_83 rfl ?_)))
  obtain ⟨cl1396, Ar1396, q1396, S1396, M1396, H1396, G1396⟩ := id (V1390.ext E1394)
  refine own_stp 86 (fun _ k => X1394.laload hx (j := (0 : Int32)) (v := (.long be)) (by rw [e1394]; exact Ar1396.1) (State.isArrayOf_alike hZ.alike Ar1396.2.1) Ar1396.2.2 (inb_of S1396 ⟨by decide, by decide⟩) (Has.at H1396 (inb_of S1396 ⟨by decide, by decide⟩) rfl) (g := mkF m 85 _ _) rfl rfl (q.d d8_85) _ k) (own_ls X1394 q d8_86 (l' := #[.val (.ref a1), .val (.ref b1257), .val (.ref b1394), .val v'0, .val (.ref b1257), .val v'9, .val v'0, .val (.long be), .second, .unset, .unset]) rfl (own_ll X1394 q d8_88 rfl (own_k X1394 q d8_90 (own_stp 93 (fun _ k => XS.lushr X1394.here hx rfl (q.d d8_92) rfl k) (own_stp 94 (fun _ k => XS.l2i X1394.here hx rfl (q.d d8_93) rfl k) ?_)))))
  rw [own_firstz hbe hok1]
  show own_Fin _ _ _ _ (T1394.setTop (mkF m 94 #[.val (.ref a1), .val (.ref b1257), .val (.ref b1394), .val v'0, .val (.ref b1257), .val v'9, .val v'0, .val (.long be), .second, .unset, .unset] [(.int x2)]))
  refine own_is X1394 q d8_94 (l' := #[.val (.ref a1), .val (.ref b1257), .val (.ref b1394), .val v'0, .val (.ref b1257), .val v'9, .val v'0, .val (.long be), .second, .val (.int x2), .unset]) rfl (own_ll X1394 q d8_96 rfl (own_stp 99 (fun _ k => XS.l2i X1394.here hx rfl (q.d d8_98) rfl k) ?_))
  rw [own_lastz hbe hok1]
  show own_Fin _ _ _ _ (T1394.setTop (mkF m 99 #[.val (.ref a1), .val (.ref b1257), .val (.ref b1394), .val v'0, .val (.ref b1257), .val v'9, .val v'0, .val (.long be), .second, .val (.int x2), .unset] [(.int x3)]))
  refine own_is X1394 q d8_99 (l' := #[.val (.ref a1), .val (.ref b1257), .val (.ref b1394), .val v'0, .val (.ref b1257), .val v'9, .val v'0, .val (.long be), .second, .val (.int x2), .val (.int x3)]) rfl (own_iln X1394 q d8_101 rfl (own_zy X1394 q d8_102 (((if0 _ _).trans (flt (Int32.lt_irrefl : ¬ ((0 : Int32) < (0 : Int32)))).2.2.2)) (own_aln X1394 q d8_135 rfl rfl (own_iln X1394 q d8_136 rfl (own_iik X1394 q d8_137 rfl (show ((0 : Int32) + (1 : Int32)) = (1 : Int32) by decide) (l' := #[.val (.ref a1), .val (.ref b1257), .val (.ref b1394), .val v'1, .val (.ref b1257), .val v'9, .val v'0, .val (.long be), .second, .val (.int x2), .val (.int x3)]) rfl (own_il X1394 q d8_140 rfl ?_))))))
  refine own_ist X1394 q hZ e1394 V1394 d8_142 (by decide) (Nat.le_of_ble_eq_true rfl) N1390 g_b1394 fun T1397 h1397 X1397 e1397 W1397 V1397 N1397 => ?_
  have zs1398 := Nat.le_trans zs1395 (Keep.of_wr W1397).1
  have kp1398 := kp1395.wr W1397 (Or.inr sz_b1394)
  refine own_aln X1397 q d8_143 rfl rfl (own_iln X1397 q d8_144 rfl (own_iik X1397 q d8_145 rfl (show ((1 : Int32) + (1 : Int32)) = (2 : Int32) by decide) (l' := #[.val (.ref a1), .val (.ref b1257), .val (.ref b1394), .val v'2, .val (.ref b1257), .val v'9, .val v'0, .val (.long be), .second, .val (.int x2), .val (.int x3)]) rfl (own_il X1397 q d8_148 rfl ?_)))
  refine own_ist X1397 q hZ e1397 V1397 d8_150 (by decide) (Nat.le_of_ble_eq_true rfl) N1397 g_b1394 fun T1399 h1399 X1399 e1399 W1399 V1399 N1399 => ?_
  have zs1400 := Nat.le_trans zs1398 (Keep.of_wr W1399).1
  have kp1400 := kp1398.wr W1399 (Or.inr sz_b1394)
  refine own_iik X1399 q d8_151 rfl (show ((0 : Int32) + (1 : Int32)) = (1 : Int32) by decide) (l' := #[.val (.ref a1), .val (.ref b1257), .val (.ref b1394), .val v'2, .val (.ref b1257), .val v'9, .val v'1, .val (.long be), .second, .val (.int x2), .val (.int x3)]) rfl (own_gt X1399 q d8_154 (own_il X1399 q d8_74 rfl (own_il X1399 q d8_76 rfl (own_cn X1399 q d8_78 ((tlt ((by decide) : (1 : Int32) < (9 : Int32))).2.1) (own_al X1399 q d8_81 rfl rfl (own_il X1399 q d8_83 rfl ?_))))))
  obtain ⟨cl1401, Ar1401, q1401, S1401, M1401, H1401, G1401⟩ := id (((V1390.ext E1394).other W1397 (own_ne (V1390).lt (Nat.le_of_eq g1394.symm))).other W1399 (own_ne (V1390).lt (Nat.le_of_eq g1394.symm)))
  refine own_stp 86 (fun _ k => X1399.laload hx (j := (1 : Int32)) (v := (.long be)) (by rw [e1399]; exact Ar1401.1) (State.isArrayOf_alike hZ.alike Ar1401.2.1) Ar1401.2.2 (inb_of S1401 ⟨by decide, by decide⟩) (Has.at H1401 (inb_of S1401 ⟨by decide, by decide⟩) rfl) (g := mkF m 85 _ _) rfl rfl (q.d d8_85) _ k) (own_ls X1399 q d8_86 (l' := #[.val (.ref a1), .val (.ref b1257), .val (.ref b1394), .val v'2, .val (.ref b1257), .val v'9, .val v'1, .val (.long be), .second, .val (.int x2), .val (.int x3)]) rfl (own_ll X1399 q d8_88 rfl (own_k X1399 q d8_90 (own_stp 93 (fun _ k => XS.lushr X1399.here hx rfl (q.d d8_92) rfl k) (own_stp 94 (fun _ k => XS.l2i X1399.here hx rfl (q.d d8_93) rfl k) ?_)))))
  rw [own_firstz hbe hok1]
  show own_Fin _ _ _ _ (T1399.setTop (mkF m 94 #[.val (.ref a1), .val (.ref b1257), .val (.ref b1394), .val v'2, .val (.ref b1257), .val v'9, .val v'1, .val (.long be), .second, .val (.int x2), .val (.int x3)] [(.int x2)]))
  refine own_is X1399 q d8_94 (l' := #[.val (.ref a1), .val (.ref b1257), .val (.ref b1394), .val v'2, .val (.ref b1257), .val v'9, .val v'1, .val (.long be), .second, .val (.int x2), .val (.int x3)]) rfl (own_ll X1399 q d8_96 rfl (own_stp 99 (fun _ k => XS.l2i X1399.here hx rfl (q.d d8_98) rfl k) ?_))
  rw [own_lastz hbe hok1]
  show own_Fin _ _ _ _ (T1399.setTop (mkF m 99 #[.val (.ref a1), .val (.ref b1257), .val (.ref b1394), .val v'2, .val (.ref b1257), .val v'9, .val v'1, .val (.long be), .second, .val (.int x2), .val (.int x3)] [(.int x3)]))
  refine own_is X1399 q d8_99 (l' := #[.val (.ref a1), .val (.ref b1257), .val (.ref b1394), .val v'2, .val (.ref b1257), .val v'9, .val v'1, .val (.long be), .second, .val (.int x2), .val (.int x3)]) rfl (own_iln X1399 q d8_101 rfl (own_zn X1399 q d8_102 (((if0 _ _).trans (tlt ((by decide) : (0 : Int32) < (2 : Int32))).2.2.2)) (own_il X1399 q d8_105 rfl (own_aln X1399 q d8_107 rfl rfl (own_iln X1399 q d8_108 rfl (own_k X1399 q d8_109 (own_isubk 1 X1399 q d8_110 (by decide) (own_ild (v := (.int x3)) X1399 q hZ e1399 V1399 d8_111 (by decide) rfl (own_k X1399 q d8_112 (own_iadd X1399 q d8_113 (own_cn X1399 q d8_114 ((flt ((own_gap hok1) : ¬ ((x3 + (1 : Int32)) < x2))).2.2.1) ?_)))))))))))
  refine own_aln X1399 q d8_117 rfl rfl (own_iln X1399 q d8_118 rfl (own_k X1399 q d8_119 (own_isubk 1 X1399 q d8_120 (by decide) (own_aln X1399 q d8_121 rfl rfl (own_iln X1399 q d8_122 rfl (own_k X1399 q d8_123 (own_isubk 1 X1399 q d8_124 (by decide) (own_ild (v := (.int x3)) X1399 q hZ e1399 V1399 d8_125 (by decide) rfl (own_il X1399 q d8_126 rfl ?_)))))))))
  refine own_cS X1399 q hZ e1399 hown hml (W 59 rfl) (W 10 rfl) (W 7 rfl) (W 11 rfl) (rm3 l Z a0 hw x3 x3 x3 h1399 n0 zs1400 (own_maxS _)) d8_128 [(.int x3), (.int x3)] [v'1, (.ref b1394)] own_pd0 rfl rfl 2 (Nat.le_refl _) (by decide) (fun v1402 T1402 L1402 X1402 hQ1402 => ?_)
  obtain ⟨rfl, N1402q, e1402⟩ := hQ1402
  have N1402 := Fr.app N1399 N1402q
  refine own_nv ?_
  refine own_ist X1402 q hZ e1402 V1399 d8_131 (by decide) (Nat.le_of_ble_eq_true rfl) N1402 g_b1394 fun T1403 h1403 X1403 e1403 W1403 V1403 N1403 => ?_
  have zs1404 := Nat.le_trans zs1400 (Keep.of_wr W1403).1
  have kp1404 := kp1400.wr W1403 (Or.inr sz_b1394)
  refine own_gt X1403 q d8_132 (own_iik X1403 q d8_151 rfl (show ((1 : Int32) + (1 : Int32)) = (2 : Int32) by decide) (l' := #[.val (.ref a1), .val (.ref b1257), .val (.ref b1394), .val v'2, .val (.ref b1257), .val v'9, .val v'2, .val (.long be), .second, .val (.int x2), .val (.int x3)]) rfl (own_gt X1403 q d8_154 (own_il X1403 q d8_74 rfl (own_il X1403 q d8_76 rfl (own_cn X1403 q d8_78 ((tlt ((by decide) : (2 : Int32) < (9 : Int32))).2.1) (own_al X1403 q d8_81 rfl rfl (own_il X1403 q d8_83 rfl ?_)))))))
  obtain ⟨cl1405, Ar1405, q1405, S1405, M1405, H1405, G1405⟩ := id ((((V1390.ext E1394).other W1397 (own_ne (V1390).lt (Nat.le_of_eq g1394.symm))).other W1399 (own_ne (V1390).lt (Nat.le_of_eq g1394.symm))).other W1403 (own_ne (V1390).lt (Nat.le_of_eq g1394.symm)))
  refine own_stp 86 (fun _ k => X1403.laload hx (j := (2 : Int32)) (v := (.long be)) (by rw [e1403]; exact Ar1405.1) (State.isArrayOf_alike hZ.alike Ar1405.2.1) Ar1405.2.2 (inb_of S1405 ⟨by decide, by decide⟩) (Has.at H1405 (inb_of S1405 ⟨by decide, by decide⟩) rfl) (g := mkF m 85 _ _) rfl rfl (q.d d8_85) _ k) (own_ls X1403 q d8_86 (l' := #[.val (.ref a1), .val (.ref b1257), .val (.ref b1394), .val v'2, .val (.ref b1257), .val v'9, .val v'2, .val (.long be), .second, .val (.int x2), .val (.int x3)]) rfl (own_ll X1403 q d8_88 rfl (own_k X1403 q d8_90 (own_stp 93 (fun _ k => XS.lushr X1403.here hx rfl (q.d d8_92) rfl k) (own_stp 94 (fun _ k => XS.l2i X1403.here hx rfl (q.d d8_93) rfl k) ?_)))))
  rw [own_firstz hbe hok1]
  show own_Fin _ _ _ _ (T1403.setTop (mkF m 94 #[.val (.ref a1), .val (.ref b1257), .val (.ref b1394), .val v'2, .val (.ref b1257), .val v'9, .val v'2, .val (.long be), .second, .val (.int x2), .val (.int x3)] [(.int x2)]))
  refine own_is X1403 q d8_94 (l' := #[.val (.ref a1), .val (.ref b1257), .val (.ref b1394), .val v'2, .val (.ref b1257), .val v'9, .val v'2, .val (.long be), .second, .val (.int x2), .val (.int x3)]) rfl (own_ll X1403 q d8_96 rfl (own_stp 99 (fun _ k => XS.l2i X1403.here hx rfl (q.d d8_98) rfl k) ?_))
  rw [own_lastz hbe hok1]
  show own_Fin _ _ _ _ (T1403.setTop (mkF m 99 #[.val (.ref a1), .val (.ref b1257), .val (.ref b1394), .val v'2, .val (.ref b1257), .val v'9, .val v'2, .val (.long be), .second, .val (.int x2), .val (.int x3)] [(.int x3)]))
  refine own_is X1403 q d8_99 (l' := #[.val (.ref a1), .val (.ref b1257), .val (.ref b1394), .val v'2, .val (.ref b1257), .val v'9, .val v'2, .val (.long be), .second, .val (.int x2), .val (.int x3)]) rfl (own_iln X1403 q d8_101 rfl (own_zn X1403 q d8_102 (((if0 _ _).trans (tlt ((by decide) : (0 : Int32) < (2 : Int32))).2.2.2)) (own_il X1403 q d8_105 rfl (own_aln X1403 q d8_107 rfl rfl (own_iln X1403 q d8_108 rfl (own_k X1403 q d8_109 (own_isubk 1 X1403 q d8_110 (by decide) (own_ild (v := (.int x3)) X1403 q hZ e1403 V1403 d8_111 (by decide) rfl (own_k X1403 q d8_112 (own_iadd X1403 q d8_113 (own_cn X1403 q d8_114 ((flt ((own_gap hok1) : ¬ ((x3 + (1 : Int32)) < x2))).2.2.1) ?_)))))))))))
  refine own_aln X1403 q d8_117 rfl rfl (own_iln X1403 q d8_118 rfl (own_k X1403 q d8_119 (own_isubk 1 X1403 q d8_120 (by decide) (own_aln X1403 q d8_121 rfl rfl (own_iln X1403 q d8_122 rfl (own_k X1403 q d8_123 (own_isubk 1 X1403 q d8_124 (by decide) (own_ild (v := (.int x3)) X1403 q hZ e1403 V1403 d8_125 (by decide) rfl (own_il X1403 q d8_126 rfl ?_)))))))))
  refine own_cS X1403 q hZ e1403 hown hml (W 59 rfl) (W 10 rfl) (W 7 rfl) (W 11 rfl) (rm3 l Z a0 hw x3 x3 x3 h1403 n0 zs1404 (own_maxS _)) d8_128 [(.int x3), (.int x3)] [v'1, (.ref b1394)] own_pd0 rfl rfl 2 (Nat.le_refl _) (by decide) (fun v1406 T1406 L1406 X1406 hQ1406 => ?_)
  obtain ⟨rfl, N1406q, e1406⟩ := hQ1406
  have N1406 := Fr.app N1403 N1406q
  refine own_nv ?_
  refine own_ist X1406 q hZ e1406 V1403 d8_131 (by decide) (Nat.le_of_ble_eq_true rfl) N1406 g_b1394 fun T1407 h1407 X1407 e1407 W1407 V1407 N1407 => ?_
  have zs1408 := Nat.le_trans zs1404 (Keep.of_wr W1407).1
  have kp1408 := kp1404.wr W1407 (Or.inr sz_b1394)
  refine own_gt X1407 q d8_132 (own_iik X1407 q d8_151 rfl (show ((2 : Int32) + (1 : Int32)) = (3 : Int32) by decide) (l' := #[.val (.ref a1), .val (.ref b1257), .val (.ref b1394), .val v'2, .val (.ref b1257), .val v'9, .val v'3, .val (.long be), .second, .val (.int x2), .val (.int x3)]) rfl (own_gt X1407 q d8_154 (own_il X1407 q d8_74 rfl (own_il X1407 q d8_76 rfl (own_cn X1407 q d8_78 ((tlt ((by decide) : (3 : Int32) < (9 : Int32))).2.1) (own_al X1407 q d8_81 rfl rfl (own_il X1407 q d8_83 rfl ?_)))))))
  obtain ⟨cl1409, Ar1409, q1409, S1409, M1409, H1409, G1409⟩ := id (((((V1390.ext E1394).other W1397 (own_ne (V1390).lt (Nat.le_of_eq g1394.symm))).other W1399 (own_ne (V1390).lt (Nat.le_of_eq g1394.symm))).other W1403 (own_ne (V1390).lt (Nat.le_of_eq g1394.symm))).other W1407 (own_ne (V1390).lt (Nat.le_of_eq g1394.symm)))
  refine own_stp 86 (fun _ k => X1407.laload hx (j := (3 : Int32)) (v := (.long be)) (by rw [e1407]; exact Ar1409.1) (State.isArrayOf_alike hZ.alike Ar1409.2.1) Ar1409.2.2 (inb_of S1409 ⟨by decide, by decide⟩) (Has.at H1409 (inb_of S1409 ⟨by decide, by decide⟩) rfl) (g := mkF m 85 _ _) rfl rfl (q.d d8_85) _ k) (own_ls X1407 q d8_86 (l' := #[.val (.ref a1), .val (.ref b1257), .val (.ref b1394), .val v'2, .val (.ref b1257), .val v'9, .val v'3, .val (.long be), .second, .val (.int x2), .val (.int x3)]) rfl (own_ll X1407 q d8_88 rfl (own_k X1407 q d8_90 (own_stp 93 (fun _ k => XS.lushr X1407.here hx rfl (q.d d8_92) rfl k) (own_stp 94 (fun _ k => XS.l2i X1407.here hx rfl (q.d d8_93) rfl k) ?_)))))
  rw [own_firstz hbe hok1]
  show own_Fin _ _ _ _ (T1407.setTop (mkF m 94 #[.val (.ref a1), .val (.ref b1257), .val (.ref b1394), .val v'2, .val (.ref b1257), .val v'9, .val v'3, .val (.long be), .second, .val (.int x2), .val (.int x3)] [(.int x2)]))
  refine own_is X1407 q d8_94 (l' := #[.val (.ref a1), .val (.ref b1257), .val (.ref b1394), .val v'2, .val (.ref b1257), .val v'9, .val v'3, .val (.long be), .second, .val (.int x2), .val (.int x3)]) rfl (own_ll X1407 q d8_96 rfl (own_stp 99 (fun _ k => XS.l2i X1407.here hx rfl (q.d d8_98) rfl k) ?_))
  rw [own_lastz hbe hok1]
  show own_Fin _ _ _ _ (T1407.setTop (mkF m 99 #[.val (.ref a1), .val (.ref b1257), .val (.ref b1394), .val v'2, .val (.ref b1257), .val v'9, .val v'3, .val (.long be), .second, .val (.int x2), .val (.int x3)] [(.int x3)]))
  refine own_is X1407 q d8_99 (l' := #[.val (.ref a1), .val (.ref b1257), .val (.ref b1394), .val v'2, .val (.ref b1257), .val v'9, .val v'3, .val (.long be), .second, .val (.int x2), .val (.int x3)]) rfl (own_iln X1407 q d8_101 rfl (own_zn X1407 q d8_102 (((if0 _ _).trans (tlt ((by decide) : (0 : Int32) < (2 : Int32))).2.2.2)) (own_il X1407 q d8_105 rfl (own_aln X1407 q d8_107 rfl rfl (own_iln X1407 q d8_108 rfl (own_k X1407 q d8_109 (own_isubk 1 X1407 q d8_110 (by decide) (own_ild (v := (.int x3)) X1407 q hZ e1407 V1407 d8_111 (by decide) rfl (own_k X1407 q d8_112 (own_iadd X1407 q d8_113 (own_cn X1407 q d8_114 ((flt ((own_gap hok1) : ¬ ((x3 + (1 : Int32)) < x2))).2.2.1) ?_)))))))))))
  refine own_aln X1407 q d8_117 rfl rfl (own_iln X1407 q d8_118 rfl (own_k X1407 q d8_119 (own_isubk 1 X1407 q d8_120 (by decide) (own_aln X1407 q d8_121 rfl rfl (own_iln X1407 q d8_122 rfl (own_k X1407 q d8_123 (own_isubk 1 X1407 q d8_124 (by decide) (own_ild (v := (.int x3)) X1407 q hZ e1407 V1407 d8_125 (by decide) rfl (own_il X1407 q d8_126 rfl ?_)))))))))
  refine own_cS X1407 q hZ e1407 hown hml (W 59 rfl) (W 10 rfl) (W 7 rfl) (W 11 rfl) (rm3 l Z a0 hw x3 x3 x3 h1407 n0 zs1408 (own_maxS _)) d8_128 [(.int x3), (.int x3)] [v'1, (.ref b1394)] own_pd0 rfl rfl 2 (Nat.le_refl _) (by decide) (fun v1410 T1410 L1410 X1410 hQ1410 => ?_)
  obtain ⟨rfl, N1410q, e1410⟩ := hQ1410
  have N1410 := Fr.app N1407 N1410q
  refine own_nv ?_
  refine own_ist X1410 q hZ e1410 V1407 d8_131 (by decide) (Nat.le_of_ble_eq_true rfl) N1410 g_b1394 fun T1411 h1411 X1411 e1411 W1411 V1411 N1411 => ?_
  have zs1412 := Nat.le_trans zs1408 (Keep.of_wr W1411).1
  have kp1412 := kp1408.wr W1411 (Or.inr sz_b1394)
  refine own_gt X1411 q d8_132 (own_iik X1411 q d8_151 rfl (show ((3 : Int32) + (1 : Int32)) = (4 : Int32) by decide) (l' := #[.val (.ref a1), .val (.ref b1257), .val (.ref b1394), .val v'2, .val (.ref b1257), .val v'9, .val v'4, .val (.long be), .second, .val (.int x2), .val (.int x3)]) rfl (own_gt X1411 q d8_154 (own_il X1411 q d8_74 rfl (own_il X1411 q d8_76 rfl (own_cn X1411 q d8_78 ((tlt ((by decide) : (4 : Int32) < (9 : Int32))).2.1) (own_al X1411 q d8_81 rfl rfl (own_il X1411 q d8_83 rfl ?_)))))))
  obtain ⟨cl1413, Ar1413, q1413, S1413, M1413, H1413, G1413⟩ := id ((((((V1390.ext E1394).other W1397 (own_ne (V1390).lt (Nat.le_of_eq g1394.symm))).other W1399 (own_ne (V1390).lt (Nat.le_of_eq g1394.symm))).other W1403 (own_ne (V1390).lt (Nat.le_of_eq g1394.symm))).other W1407 (own_ne (V1390).lt (Nat.le_of_eq g1394.symm))).other W1411 (own_ne (V1390).lt (Nat.le_of_eq g1394.symm)))
  refine own_stp 86 (fun _ k => X1411.laload hx (j := (4 : Int32)) (v := (.long al)) (by rw [e1411]; exact Ar1413.1) (State.isArrayOf_alike hZ.alike Ar1413.2.1) Ar1413.2.2 (inb_of S1413 ⟨by decide, by decide⟩) (Has.at H1413 (inb_of S1413 ⟨by decide, by decide⟩) rfl) (g := mkF m 85 _ _) rfl rfl (q.d d8_85) _ k) (own_ls X1411 q d8_86 (l' := #[.val (.ref a1), .val (.ref b1257), .val (.ref b1394), .val v'2, .val (.ref b1257), .val v'9, .val v'4, .val (.long al), .second, .val (.int x2), .val (.int x3)]) rfl (own_ll X1411 q d8_88 rfl (own_k X1411 q d8_90 (own_stp 93 (fun _ k => XS.lushr X1411.here hx rfl (q.d d8_92) rfl k) (own_stp 94 (fun _ k => XS.l2i X1411.here hx rfl (q.d d8_93) rfl k) ?_)))))
  rw [own_firstz hal hok0]
  show own_Fin _ _ _ _ (T1411.setTop (mkF m 94 #[.val (.ref a1), .val (.ref b1257), .val (.ref b1394), .val v'2, .val (.ref b1257), .val v'9, .val v'4, .val (.long al), .second, .val (.int x2), .val (.int x3)] [(.int x0)]))
  refine own_is X1411 q d8_94 (l' := #[.val (.ref a1), .val (.ref b1257), .val (.ref b1394), .val v'2, .val (.ref b1257), .val v'9, .val v'4, .val (.long al), .second, .val (.int x0), .val (.int x3)]) rfl (own_ll X1411 q d8_96 rfl (own_stp 99 (fun _ k => XS.l2i X1411.here hx rfl (q.d d8_98) rfl k) ?_))
  rw [own_lastz hal hok0]
  show own_Fin _ _ _ _ (T1411.setTop (mkF m 99 #[.val (.ref a1), .val (.ref b1257), .val (.ref b1394), .val v'2, .val (.ref b1257), .val v'9, .val v'4, .val (.long al), .second, .val (.int x0), .val (.int x3)] [(.int x1)]))
  refine own_is X1411 q d8_99 (l' := #[.val (.ref a1), .val (.ref b1257), .val (.ref b1394), .val v'2, .val (.ref b1257), .val v'9, .val v'4, .val (.long al), .second, .val (.int x0), .val (.int x1)]) rfl (own_iln X1411 q d8_101 rfl (own_zn X1411 q d8_102 (((if0 _ _).trans (tlt ((by decide) : (0 : Int32) < (2 : Int32))).2.2.2)) (own_il X1411 q d8_105 rfl (own_aln X1411 q d8_107 rfl rfl (own_iln X1411 q d8_108 rfl (own_k X1411 q d8_109 (own_isubk 1 X1411 q d8_110 (by decide) (own_ild (v := (.int x3)) X1411 q hZ e1411 V1411 d8_111 (by decide) rfl (own_k X1411 q d8_112 (own_iadd X1411 q d8_113 ?_))))))))))
  by_cases hc114_1414 : (x3 + (1 : Int32)) < x0
  ·refine own_cy X1411 q d8_114 ((tlt hc114_1414).2.2.1) (own_aln X1411 q d8_135 rfl rfl (own_iln X1411 q d8_136 rfl (own_iik X1411 q d8_137 rfl (show ((2 : Int32) + (1 : Int32)) = (3 : Int32) by decide) (l' := #[.val (.ref a1), .val (.ref b1257), .val (.ref b1394), .val v'3, .val (.ref b1257), .val v'9, .val v'4, .val (.long al), .second, .val (.int x0), .val (.int x1)]) rfl (own_il X1411 q d8_140 rfl ?_))))
   refine own_ist X1411 q hZ e1411 V1411 d8_142 (by decide) (Nat.le_of_ble_eq_true rfl) N1411 g_b1394 fun T1415 h1415 X1415 e1415 W1415 V1415 N1415 => ?_
   have zs1416 := Nat.le_trans zs1412 (Keep.of_wr W1415).1
   have kp1416 := kp1412.wr W1415 (Or.inr sz_b1394)
   refine own_aln X1415 q d8_143 rfl rfl (own_iln X1415 q d8_144 rfl (own_iik X1415 q d8_145 rfl (show ((3 : Int32) + (1 : Int32)) = (4 : Int32) by decide) (l' := #[.val (.ref a1), .val (.ref b1257), .val (.ref b1394), .val v'4, .val (.ref b1257), .val v'9, .val v'4, .val (.long al), .second, .val (.int x0), .val (.int x1)]) rfl (own_il X1415 q d8_148 rfl ?_)))
   refine own_ist X1415 q hZ e1415 V1415 d8_150 (by decide) (Nat.le_of_ble_eq_true rfl) N1415 g_b1394 fun T1417 h1417 X1417 e1417 W1417 V1417 N1417 => ?_
   have zs1418 := Nat.le_trans zs1416 (Keep.of_wr W1417).1
   have kp1418 := kp1416.wr W1417 (Or.inr sz_b1394)
   refine own_iik X1417 q d8_151 rfl (show ((4 : Int32) + (1 : Int32)) = (5 : Int32) by decide) (l' := #[.val (.ref a1), .val (.ref b1257), .val (.ref b1394), .val v'4, .val (.ref b1257), .val v'9, .val v'5, .val (.long al), .second, .val (.int x0), .val (.int x1)]) rfl (own_gt X1417 q d8_154 (own_il X1417 q d8_74 rfl (own_il X1417 q d8_76 rfl (own_cn X1417 q d8_78 ((tlt ((by decide) : (5 : Int32) < (9 : Int32))).2.1) (own_al X1417 q d8_81 rfl rfl (own_il X1417 q d8_83 rfl ?_))))))
   obtain ⟨cl1419, Ar1419, q1419, S1419, M1419, H1419, G1419⟩ := id ((((((((V1390.ext E1394).other W1397 (own_ne (V1390).lt (Nat.le_of_eq g1394.symm))).other W1399 (own_ne (V1390).lt (Nat.le_of_eq g1394.symm))).other W1403 (own_ne (V1390).lt (Nat.le_of_eq g1394.symm))).other W1407 (own_ne (V1390).lt (Nat.le_of_eq g1394.symm))).other W1411 (own_ne (V1390).lt (Nat.le_of_eq g1394.symm))).other W1415 (own_ne (V1390).lt (Nat.le_of_eq g1394.symm))).other W1417 (own_ne (V1390).lt (Nat.le_of_eq g1394.symm)))
   refine own_stp 86 (fun _ k => X1417.laload hx (j := (5 : Int32)) (v := (.long al)) (by rw [e1417]; exact Ar1419.1) (State.isArrayOf_alike hZ.alike Ar1419.2.1) Ar1419.2.2 (inb_of S1419 ⟨by decide, by decide⟩) (Has.at H1419 (inb_of S1419 ⟨by decide, by decide⟩) rfl) (g := mkF m 85 _ _) rfl rfl (q.d d8_85) _ k) (own_ls X1417 q d8_86 (l' := #[.val (.ref a1), .val (.ref b1257), .val (.ref b1394), .val v'4, .val (.ref b1257), .val v'9, .val v'5, .val (.long al), .second, .val (.int x0), .val (.int x1)]) rfl (own_ll X1417 q d8_88 rfl (own_k X1417 q d8_90 (own_stp 93 (fun _ k => XS.lushr X1417.here hx rfl (q.d d8_92) rfl k) (own_stp 94 (fun _ k => XS.l2i X1417.here hx rfl (q.d d8_93) rfl k) ?_)))))
   rw [own_firstz hal hok0]
   show own_Fin _ _ _ _ (T1417.setTop (mkF m 94 #[.val (.ref a1), .val (.ref b1257), .val (.ref b1394), .val v'4, .val (.ref b1257), .val v'9, .val v'5, .val (.long al), .second, .val (.int x0), .val (.int x1)] [(.int x0)]))
   refine own_is X1417 q d8_94 (l' := #[.val (.ref a1), .val (.ref b1257), .val (.ref b1394), .val v'4, .val (.ref b1257), .val v'9, .val v'5, .val (.long al), .second, .val (.int x0), .val (.int x1)]) rfl (own_ll X1417 q d8_96 rfl (own_stp 99 (fun _ k => XS.l2i X1417.here hx rfl (q.d d8_98) rfl k) ?_))
   rw [own_lastz hal hok0]
   show own_Fin _ _ _ _ (T1417.setTop (mkF m 99 #[.val (.ref a1), .val (.ref b1257), .val (.ref b1394), .val v'4, .val (.ref b1257), .val v'9, .val v'5, .val (.long al), .second, .val (.int x0), .val (.int x1)] [(.int x1)]))
   refine own_is X1417 q d8_99 (l' := #[.val (.ref a1), .val (.ref b1257), .val (.ref b1394), .val v'4, .val (.ref b1257), .val v'9, .val v'5, .val (.long al), .second, .val (.int x0), .val (.int x1)]) rfl (own_iln X1417 q d8_101 rfl (own_zn X1417 q d8_102 (((if0 _ _).trans (tlt ((by decide) : (0 : Int32) < (4 : Int32))).2.2.2)) (own_il X1417 q d8_105 rfl (own_aln X1417 q d8_107 rfl rfl (own_iln X1417 q d8_108 rfl (own_k X1417 q d8_109 (own_isubk 3 X1417 q d8_110 (by decide) (own_ild (v := (.int x1)) X1417 q hZ e1417 V1417 d8_111 (by decide) rfl (own_k X1417 q d8_112 (own_iadd X1417 q d8_113 (own_cn X1417 q d8_114 ((flt ((own_gap hok0) : ¬ ((x1 + (1 : Int32)) < x0))).2.2.1) ?_)))))))))))
   refine own_aln X1417 q d8_117 rfl rfl (own_iln X1417 q d8_118 rfl (own_k X1417 q d8_119 (own_isubk 3 X1417 q d8_120 (by decide) (own_aln X1417 q d8_121 rfl rfl (own_iln X1417 q d8_122 rfl (own_k X1417 q d8_123 (own_isubk 3 X1417 q d8_124 (by decide) (own_ild (v := (.int x1)) X1417 q hZ e1417 V1417 d8_125 (by decide) rfl (own_il X1417 q d8_126 rfl ?_)))))))))
   refine own_cS X1417 q hZ e1417 hown hml (W 59 rfl) (W 10 rfl) (W 7 rfl) (W 11 rfl) (rm3 l Z a0 hw x1 x1 x1 h1417 n0 zs1418 (own_maxS _)) d8_128 [(.int x1), (.int x1)] [v'3, (.ref b1394)] own_pd0 rfl rfl 2 (Nat.le_refl _) (by decide) (fun v1420 T1420 L1420 X1420 hQ1420 => ?_)
   obtain ⟨rfl, N1420q, e1420⟩ := hQ1420
   have N1420 := Fr.app N1417 N1420q
   refine own_nv ?_
   refine own_ist X1420 q hZ e1420 V1417 d8_131 (by decide) (Nat.le_of_ble_eq_true rfl) N1420 g_b1394 fun T1421 h1421 X1421 e1421 W1421 V1421 N1421 => ?_
   have zs1422 := Nat.le_trans zs1418 (Keep.of_wr W1421).1
   have kp1422 := kp1418.wr W1421 (Or.inr sz_b1394)
   refine own_gt X1421 q d8_132 (own_iik X1421 q d8_151 rfl (show ((5 : Int32) + (1 : Int32)) = (6 : Int32) by decide) (l' := #[.val (.ref a1), .val (.ref b1257), .val (.ref b1394), .val v'4, .val (.ref b1257), .val v'9, .val v'6, .val (.long al), .second, .val (.int x0), .val (.int x1)]) rfl (own_gt X1421 q d8_154 (own_il X1421 q d8_74 rfl (own_il X1421 q d8_76 rfl (own_cn X1421 q d8_78 ((tlt ((by decide) : (6 : Int32) < (9 : Int32))).2.1) (own_al X1421 q d8_81 rfl rfl (own_il X1421 q d8_83 rfl ?_)))))))
   obtain ⟨cl1423, Ar1423, q1423, S1423, M1423, H1423, G1423⟩ := id (((((((((V1390.ext E1394).other W1397 (own_ne (V1390).lt (Nat.le_of_eq g1394.symm))).other W1399 (own_ne (V1390).lt (Nat.le_of_eq g1394.symm))).other W1403 (own_ne (V1390).lt (Nat.le_of_eq g1394.symm))).other W1407 (own_ne (V1390).lt (Nat.le_of_eq g1394.symm))).other W1411 (own_ne (V1390).lt (Nat.le_of_eq g1394.symm))).other W1415 (own_ne (V1390).lt (Nat.le_of_eq g1394.symm))).other W1417 (own_ne (V1390).lt (Nat.le_of_eq g1394.symm))).other W1421 (own_ne (V1390).lt (Nat.le_of_eq g1394.symm)))
   refine own_stp 86 (fun _ k => X1421.laload hx (j := (6 : Int32)) (v := (.long al)) (by rw [e1421]; exact Ar1423.1) (State.isArrayOf_alike hZ.alike Ar1423.2.1) Ar1423.2.2 (inb_of S1423 ⟨by decide, by decide⟩) (Has.at H1423 (inb_of S1423 ⟨by decide, by decide⟩) rfl) (g := mkF m 85 _ _) rfl rfl (q.d d8_85) _ k) (own_ls X1421 q d8_86 (l' := #[.val (.ref a1), .val (.ref b1257), .val (.ref b1394), .val v'4, .val (.ref b1257), .val v'9, .val v'6, .val (.long al), .second, .val (.int x0), .val (.int x1)]) rfl (own_ll X1421 q d8_88 rfl (own_k X1421 q d8_90 (own_stp 93 (fun _ k => XS.lushr X1421.here hx rfl (q.d d8_92) rfl k) (own_stp 94 (fun _ k => XS.l2i X1421.here hx rfl (q.d d8_93) rfl k) ?_)))))
   rw [own_firstz hal hok0]
   show own_Fin _ _ _ _ (T1421.setTop (mkF m 94 #[.val (.ref a1), .val (.ref b1257), .val (.ref b1394), .val v'4, .val (.ref b1257), .val v'9, .val v'6, .val (.long al), .second, .val (.int x0), .val (.int x1)] [(.int x0)]))
   refine own_is X1421 q d8_94 (l' := #[.val (.ref a1), .val (.ref b1257), .val (.ref b1394), .val v'4, .val (.ref b1257), .val v'9, .val v'6, .val (.long al), .second, .val (.int x0), .val (.int x1)]) rfl (own_ll X1421 q d8_96 rfl (own_stp 99 (fun _ k => XS.l2i X1421.here hx rfl (q.d d8_98) rfl k) ?_))
   rw [own_lastz hal hok0]
   show own_Fin _ _ _ _ (T1421.setTop (mkF m 99 #[.val (.ref a1), .val (.ref b1257), .val (.ref b1394), .val v'4, .val (.ref b1257), .val v'9, .val v'6, .val (.long al), .second, .val (.int x0), .val (.int x1)] [(.int x1)]))
   refine own_is X1421 q d8_99 (l' := #[.val (.ref a1), .val (.ref b1257), .val (.ref b1394), .val v'4, .val (.ref b1257), .val v'9, .val v'6, .val (.long al), .second, .val (.int x0), .val (.int x1)]) rfl (own_iln X1421 q d8_101 rfl (own_zn X1421 q d8_102 (((if0 _ _).trans (tlt ((by decide) : (0 : Int32) < (4 : Int32))).2.2.2)) (own_il X1421 q d8_105 rfl (own_aln X1421 q d8_107 rfl rfl (own_iln X1421 q d8_108 rfl (own_k X1421 q d8_109 (own_isubk 3 X1421 q d8_110 (by decide) (own_ild (v := (.int x1)) X1421 q hZ e1421 V1421 d8_111 (by decide) rfl (own_k X1421 q d8_112 (own_iadd X1421 q d8_113 (own_cn X1421 q d8_114 ((flt ((own_gap hok0) : ¬ ((x1 + (1 : Int32)) < x0))).2.2.1) ?_)))))))))))
   refine own_aln X1421 q d8_117 rfl rfl (own_iln X1421 q d8_118 rfl (own_k X1421 q d8_119 (own_isubk 3 X1421 q d8_120 (by decide) (own_aln X1421 q d8_121 rfl rfl (own_iln X1421 q d8_122 rfl (own_k X1421 q d8_123 (own_isubk 3 X1421 q d8_124 (by decide) (own_ild (v := (.int x1)) X1421 q hZ e1421 V1421 d8_125 (by decide) rfl (own_il X1421 q d8_126 rfl ?_)))))))))
   refine own_cS X1421 q hZ e1421 hown hml (W 59 rfl) (W 10 rfl) (W 7 rfl) (W 11 rfl) (rm3 l Z a0 hw x1 x1 x1 h1421 n0 zs1422 (own_maxS _)) d8_128 [(.int x1), (.int x1)] [v'3, (.ref b1394)] own_pd0 rfl rfl 2 (Nat.le_refl _) (by decide) (fun v1424 T1424 L1424 X1424 hQ1424 => ?_)
   obtain ⟨rfl, N1424q, e1424⟩ := hQ1424
   have N1424 := Fr.app N1421 N1424q
   refine own_nv ?_
   refine own_ist X1424 q hZ e1424 V1421 d8_131 (by decide) (Nat.le_of_ble_eq_true rfl) N1424 g_b1394 fun T1425 h1425 X1425 e1425 W1425 V1425 N1425 => ?_
   have zs1426 := Nat.le_trans zs1422 (Keep.of_wr W1425).1
   have kp1426 := kp1422.wr W1425 (Or.inr sz_b1394)
   refine own_gt X1425 q d8_132 (own_iik X1425 q d8_151 rfl (show ((6 : Int32) + (1 : Int32)) = (7 : Int32) by decide) (l' := #[.val (.ref a1), .val (.ref b1257), .val (.ref b1394), .val v'4, .val (.ref b1257), .val v'9, .val v'7, .val (.long al), .second, .val (.int x0), .val (.int x1)]) rfl (own_gt X1425 q d8_154 (own_il X1425 q d8_74 rfl (own_il X1425 q d8_76 rfl (own_cn X1425 q d8_78 ((tlt ((by decide) : (7 : Int32) < (9 : Int32))).2.1) (own_al X1425 q d8_81 rfl rfl (own_il X1425 q d8_83 rfl ?_)))))))
   obtain ⟨cl1427, Ar1427, q1427, S1427, M1427, H1427, G1427⟩ := id ((((((((((V1390.ext E1394).other W1397 (own_ne (V1390).lt (Nat.le_of_eq g1394.symm))).other W1399 (own_ne (V1390).lt (Nat.le_of_eq g1394.symm))).other W1403 (own_ne (V1390).lt (Nat.le_of_eq g1394.symm))).other W1407 (own_ne (V1390).lt (Nat.le_of_eq g1394.symm))).other W1411 (own_ne (V1390).lt (Nat.le_of_eq g1394.symm))).other W1415 (own_ne (V1390).lt (Nat.le_of_eq g1394.symm))).other W1417 (own_ne (V1390).lt (Nat.le_of_eq g1394.symm))).other W1421 (own_ne (V1390).lt (Nat.le_of_eq g1394.symm))).other W1425 (own_ne (V1390).lt (Nat.le_of_eq g1394.symm)))
   refine own_stp 86 (fun _ k => X1425.laload hx (j := (7 : Int32)) (v := (.long al)) (by rw [e1425]; exact Ar1427.1) (State.isArrayOf_alike hZ.alike Ar1427.2.1) Ar1427.2.2 (inb_of S1427 ⟨by decide, by decide⟩) (Has.at H1427 (inb_of S1427 ⟨by decide, by decide⟩) rfl) (g := mkF m 85 _ _) rfl rfl (q.d d8_85) _ k) (own_ls X1425 q d8_86 (l' := #[.val (.ref a1), .val (.ref b1257), .val (.ref b1394), .val v'4, .val (.ref b1257), .val v'9, .val v'7, .val (.long al), .second, .val (.int x0), .val (.int x1)]) rfl (own_ll X1425 q d8_88 rfl (own_k X1425 q d8_90 (own_stp 93 (fun _ k => XS.lushr X1425.here hx rfl (q.d d8_92) rfl k) (own_stp 94 (fun _ k => XS.l2i X1425.here hx rfl (q.d d8_93) rfl k) ?_)))))
   rw [own_firstz hal hok0]
   show own_Fin _ _ _ _ (T1425.setTop (mkF m 94 #[.val (.ref a1), .val (.ref b1257), .val (.ref b1394), .val v'4, .val (.ref b1257), .val v'9, .val v'7, .val (.long al), .second, .val (.int x0), .val (.int x1)] [(.int x0)]))
   refine own_is X1425 q d8_94 (l' := #[.val (.ref a1), .val (.ref b1257), .val (.ref b1394), .val v'4, .val (.ref b1257), .val v'9, .val v'7, .val (.long al), .second, .val (.int x0), .val (.int x1)]) rfl (own_ll X1425 q d8_96 rfl (own_stp 99 (fun _ k => XS.l2i X1425.here hx rfl (q.d d8_98) rfl k) ?_))
   rw [own_lastz hal hok0]
   show own_Fin _ _ _ _ (T1425.setTop (mkF m 99 #[.val (.ref a1), .val (.ref b1257), .val (.ref b1394), .val v'4, .val (.ref b1257), .val v'9, .val v'7, .val (.long al), .second, .val (.int x0), .val (.int x1)] [(.int x1)]))
   refine own_is X1425 q d8_99 (l' := #[.val (.ref a1), .val (.ref b1257), .val (.ref b1394), .val v'4, .val (.ref b1257), .val v'9, .val v'7, .val (.long al), .second, .val (.int x0), .val (.int x1)]) rfl (own_iln X1425 q d8_101 rfl (own_zn X1425 q d8_102 (((if0 _ _).trans (tlt ((by decide) : (0 : Int32) < (4 : Int32))).2.2.2)) (own_il X1425 q d8_105 rfl (own_aln X1425 q d8_107 rfl rfl (own_iln X1425 q d8_108 rfl (own_k X1425 q d8_109 (own_isubk 3 X1425 q d8_110 (by decide) (own_ild (v := (.int x1)) X1425 q hZ e1425 V1425 d8_111 (by decide) rfl (own_k X1425 q d8_112 (own_iadd X1425 q d8_113 (own_cn X1425 q d8_114 ((flt ((own_gap hok0) : ¬ ((x1 + (1 : Int32)) < x0))).2.2.1) ?_)))))))))))
   refine own_aln X1425 q d8_117 rfl rfl (own_iln X1425 q d8_118 rfl (own_k X1425 q d8_119 (own_isubk 3 X1425 q d8_120 (by decide) (own_aln X1425 q d8_121 rfl rfl (own_iln X1425 q d8_122 rfl (own_k X1425 q d8_123 (own_isubk 3 X1425 q d8_124 (by decide) (own_ild (v := (.int x1)) X1425 q hZ e1425 V1425 d8_125 (by decide) rfl (own_il X1425 q d8_126 rfl ?_)))))))))
   refine own_cS X1425 q hZ e1425 hown hml (W 59 rfl) (W 10 rfl) (W 7 rfl) (W 11 rfl) (rm3 l Z a0 hw x1 x1 x1 h1425 n0 zs1426 (own_maxS _)) d8_128 [(.int x1), (.int x1)] [v'3, (.ref b1394)] own_pd0 rfl rfl 2 (Nat.le_refl _) (by decide) (fun v1428 T1428 L1428 X1428 hQ1428 => ?_)
   obtain ⟨rfl, N1428q, e1428⟩ := hQ1428
   have N1428 := Fr.app N1425 N1428q
   refine own_nv ?_
   refine own_ist X1428 q hZ e1428 V1425 d8_131 (by decide) (Nat.le_of_ble_eq_true rfl) N1428 g_b1394 fun T1429 h1429 X1429 e1429 W1429 V1429 N1429 => ?_
   have zs1430 := Nat.le_trans zs1426 (Keep.of_wr W1429).1
   have kp1430 := kp1426.wr W1429 (Or.inr sz_b1394)
   refine own_gt X1429 q d8_132 (own_iik X1429 q d8_151 rfl (show ((7 : Int32) + (1 : Int32)) = (8 : Int32) by decide) (l' := #[.val (.ref a1), .val (.ref b1257), .val (.ref b1394), .val v'4, .val (.ref b1257), .val v'9, .val v'8, .val (.long al), .second, .val (.int x0), .val (.int x1)]) rfl (own_gt X1429 q d8_154 (own_il X1429 q d8_74 rfl (own_il X1429 q d8_76 rfl (own_cn X1429 q d8_78 ((tlt ((by decide) : (8 : Int32) < (9 : Int32))).2.1) (own_al X1429 q d8_81 rfl rfl (own_il X1429 q d8_83 rfl ?_)))))))
   obtain ⟨cl1431, Ar1431, q1431, S1431, M1431, H1431, G1431⟩ := id (((((((((((V1390.ext E1394).other W1397 (own_ne (V1390).lt (Nat.le_of_eq g1394.symm))).other W1399 (own_ne (V1390).lt (Nat.le_of_eq g1394.symm))).other W1403 (own_ne (V1390).lt (Nat.le_of_eq g1394.symm))).other W1407 (own_ne (V1390).lt (Nat.le_of_eq g1394.symm))).other W1411 (own_ne (V1390).lt (Nat.le_of_eq g1394.symm))).other W1415 (own_ne (V1390).lt (Nat.le_of_eq g1394.symm))).other W1417 (own_ne (V1390).lt (Nat.le_of_eq g1394.symm))).other W1421 (own_ne (V1390).lt (Nat.le_of_eq g1394.symm))).other W1425 (own_ne (V1390).lt (Nat.le_of_eq g1394.symm))).other W1429 (own_ne (V1390).lt (Nat.le_of_eq g1394.symm)))
   refine own_stp 86 (fun _ k => X1429.laload hx (j := (8 : Int32)) (v := (.long al)) (by rw [e1429]; exact Ar1431.1) (State.isArrayOf_alike hZ.alike Ar1431.2.1) Ar1431.2.2 (inb_of S1431 ⟨by decide, by decide⟩) (Has.at H1431 (inb_of S1431 ⟨by decide, by decide⟩) rfl) (g := mkF m 85 _ _) rfl rfl (q.d d8_85) _ k) (own_ls X1429 q d8_86 (l' := #[.val (.ref a1), .val (.ref b1257), .val (.ref b1394), .val v'4, .val (.ref b1257), .val v'9, .val v'8, .val (.long al), .second, .val (.int x0), .val (.int x1)]) rfl (own_ll X1429 q d8_88 rfl (own_k X1429 q d8_90 (own_stp 93 (fun _ k => XS.lushr X1429.here hx rfl (q.d d8_92) rfl k) (own_stp 94 (fun _ k => XS.l2i X1429.here hx rfl (q.d d8_93) rfl k) ?_)))))
   rw [own_firstz hal hok0]
   show own_Fin _ _ _ _ (T1429.setTop (mkF m 94 #[.val (.ref a1), .val (.ref b1257), .val (.ref b1394), .val v'4, .val (.ref b1257), .val v'9, .val v'8, .val (.long al), .second, .val (.int x0), .val (.int x1)] [(.int x0)]))
   refine own_is X1429 q d8_94 (l' := #[.val (.ref a1), .val (.ref b1257), .val (.ref b1394), .val v'4, .val (.ref b1257), .val v'9, .val v'8, .val (.long al), .second, .val (.int x0), .val (.int x1)]) rfl (own_ll X1429 q d8_96 rfl (own_stp 99 (fun _ k => XS.l2i X1429.here hx rfl (q.d d8_98) rfl k) ?_))
   rw [own_lastz hal hok0]
   show own_Fin _ _ _ _ (T1429.setTop (mkF m 99 #[.val (.ref a1), .val (.ref b1257), .val (.ref b1394), .val v'4, .val (.ref b1257), .val v'9, .val v'8, .val (.long al), .second, .val (.int x0), .val (.int x1)] [(.int x1)]))
   refine own_is X1429 q d8_99 (l' := #[.val (.ref a1), .val (.ref b1257), .val (.ref b1394), .val v'4, .val (.ref b1257), .val v'9, .val v'8, .val (.long al), .second, .val (.int x0), .val (.int x1)]) rfl (own_iln X1429 q d8_101 rfl (own_zn X1429 q d8_102 (((if0 _ _).trans (tlt ((by decide) : (0 : Int32) < (4 : Int32))).2.2.2)) (own_il X1429 q d8_105 rfl (own_aln X1429 q d8_107 rfl rfl (own_iln X1429 q d8_108 rfl (own_k X1429 q d8_109 (own_isubk 3 X1429 q d8_110 (by decide) (own_ild (v := (.int x1)) X1429 q hZ e1429 V1429 d8_111 (by decide) rfl (own_k X1429 q d8_112 (own_iadd X1429 q d8_113 (own_cn X1429 q d8_114 ((flt ((own_gap hok0) : ¬ ((x1 + (1 : Int32)) < x0))).2.2.1) ?_)))))))))))
   refine own_aln X1429 q d8_117 rfl rfl (own_iln X1429 q d8_118 rfl (own_k X1429 q d8_119 (own_isubk 3 X1429 q d8_120 (by decide) (own_aln X1429 q d8_121 rfl rfl (own_iln X1429 q d8_122 rfl (own_k X1429 q d8_123 (own_isubk 3 X1429 q d8_124 (by decide) (own_ild (v := (.int x1)) X1429 q hZ e1429 V1429 d8_125 (by decide) rfl (own_il X1429 q d8_126 rfl ?_)))))))))
   refine own_cS X1429 q hZ e1429 hown hml (W 59 rfl) (W 10 rfl) (W 7 rfl) (W 11 rfl) (rm3 l Z a0 hw x1 x1 x1 h1429 n0 zs1430 (own_maxS _)) d8_128 [(.int x1), (.int x1)] [v'3, (.ref b1394)] own_pd0 rfl rfl 2 (Nat.le_refl _) (by decide) (fun v1432 T1432 L1432 X1432 hQ1432 => ?_)
   obtain ⟨rfl, N1432q, e1432⟩ := hQ1432
   have N1432 := Fr.app N1429 N1432q
   refine own_nv ?_
   refine own_ist X1432 q hZ e1432 V1429 d8_131 (by decide) (Nat.le_of_ble_eq_true rfl) N1432 g_b1394 fun T1433 h1433 X1433 e1433 W1433 V1433 N1433 => ?_
   have zs1434 := Nat.le_trans zs1430 (Keep.of_wr W1433).1
   have kp1434 := kp1430.wr W1433 (Or.inr sz_b1394)
   refine own_gt X1433 q d8_132 (own_iik X1433 q d8_151 rfl (show ((8 : Int32) + (1 : Int32)) = (9 : Int32) by decide) (l' := #[.val (.ref a1), .val (.ref b1257), .val (.ref b1394), .val v'4, .val (.ref b1257), .val v'9, .val v'9, .val (.long al), .second, .val (.int x0), .val (.int x1)]) rfl (own_gt X1433 q d8_154 (own_il X1433 q d8_74 rfl (own_il X1433 q d8_76 rfl (own_cy X1433 q d8_78 ((flt (Int32.lt_irrefl : ¬ ((9 : Int32) < (9 : Int32)))).2.1) ?_)))))
   refine own_let ?_; intro g1435_
   obtain ⟨T1436, h1436, X1436, e1436, E1436, A1436, D1436, -, st1436⟩ := newO X1433 hx hZ hown (W 60 rfl) (W 61 rfl) (W 62 rfl) e1433 (g := g1435_) rfl (q.d d8_157) (by decide) (by decide)
   obtain ⟨b1436, g1436⟩ : ∃ z, z = h1433.size := ⟨_, rfl⟩
   rw [← g1436] at A1436 D1436 st1436
   have zs1437 := Nat.le_trans zs1434 E1436.1
   have kp1437 := kp1434.ext E1436
   have g_b1436 : n0 ≤ b1436 := Nat.le_trans zs1434 (Nat.le_of_eq g1436.symm)
   have sz_b1436 : h0.size ≤ b1436 := Nat.le_trans kp1434.1 (Nat.le_of_eq g1436.symm)
   have F1436_ascii : F'2 Z h1436 b1436 .null := D1436 (Or.inr (W 68 rfl)) (ty := (.array .long)) (by decide)
   have F1436_ranges : F'3 Z h1436 b1436 .null := D1436 (Or.inr (W 70 rfl)) (ty := (.array .int)) (by decide)
   refine own_stq 160 [(.ref b1436)] st1436 (own_dp X1436 q d8_160 rfl (own_aln X1436 q d8_161 rfl rfl (own_iln X1436 q d8_162 rfl ?_)))
   refine own_cSh X1436 q hZ e1436 hown hml (W 31 rfl) (W 32 rfl) (W 33 rfl) (W 34 rfl) (rm7_d l Z a0 hw b1394 k1394 x2 x3 x0 x1 h1436 n0 zs1437 (V1433.ext E1436)) d8_163 [(.ref b1394), v'4] [(.ref b1436), (.ref b1436)] own_pd1 rfl rfl 2 (Nat.le_refl _) (by decide) (fun v1438 T1438 L1438 h1438 e1438' X1438 hQ1438 => ?_)
   obtain ⟨b1438, k1438, rfl, N1438q, E1438, lo1438, V1438⟩ := hQ1438
   have N1438 := Fr.app N1433 N1438q
   have zs1439 := Nat.le_trans zs1437 E1438.1
   have kp1439 := kp1437.ext E1438
   have g_b1438 : n0 ≤ b1438 := Nat.le_trans zs1437 lo1438
   have sz_b1438 : h0.size ≤ b1438 := Nat.le_trans kp1437.1 lo1438
   refine own_nv ?_
   refine own_let ?_; intro g1441_
   obtain ⟨_, _, ⟨T1440, L1440, k1440, n1440⟩, -, X1440, ⟨Lc1440, hQ1440, l1440, y1440, z1440⟩, st1440⟩ := X1438.specialBackNest hx (y := own_y10) rfl hown (Cond.methodLinkNest_wide hZ (W 63 rfl) :) (mvT hZ (W 64 rfl)) (mvT hZ (W 65 rfl)) (by decide) (backOf (W := 1) (rm13_4 l Z a0 hw b1436 b1438 k1438 x2 x3 x0 x1 h1438 n0 zs1439 (A1436.ext E1438) (F1436_ranges.ext E1438) (F1436_ascii.ext E1438) V1438 g_b1436 (own_ne (A1436).lt lo1438) hok1 hok0 ((own_gapI (own_okR hok1)).mp hc114_1414)) hZ (W 65 rfl) (W 62 rfl) (by decide) (by decide)) (g := g1441_) rfl (by rw [hml]; rfl) (Steps.refl _) (a := b1436) (argsL := [(.ref b1438)]) (rest := [(.ref b1436)]) (lenOf own_pd8 rfl) rfl (by show 2 * 0 + _ ≤ _; exact Nat.le_of_eq rfl) (q.d d8_166) (fun _ _ => ⟨rfl, e1438', (by decide : 4 + 1 ≤ _), (by decide : 33 + 2 ≤ _)⟩)
   dsimp only [Pt.U, Pt.locs, Pt.cells, Pt.slots] at X1440 l1440 y1440 z1440 st1440 hQ1440
   rw [l1440, y1440, z1440] at X1440
   clear l1440 y1440 z1440
   obtain ⟨b1440, k1440, wa1440, wb1440, rfl, N1440q, K1440, lo1440, Fa1440, Fb1440, V1440, bt1440⟩ := hQ1440
   have N1440 := Fr.app N1438 N1440q
   obtain ⟨h1440, e1440⟩ : ∃ z, z = T1440.heap := ⟨_, rfl⟩
   have e1440' := e1440.symm
   rw [← e1440] at K1440 Fa1440 Fb1440 V1440
   have zs1442 := Nat.le_trans zs1439 K1440.1
   have kp1442 := kp1439.trans K1440 (allS (Or.inr sz_b1436) all0)
   have g_b1440 : n0 ≤ b1440 := Nat.le_trans zs1439 lo1440
   have sz_b1440 : h0.size ≤ b1440 := Nat.le_trans kp1439.1 lo1440
   refine own_stp 169 (fun _ k => st1440.trans k) (own_nn ?_)
   refine own_rA X1440 q hrt d8_169 hlk (by decide) ?_
   show QBD Z x0 x1 x2 x3 h0 n0 _ T1440.heap _
   rw [e1440']
   exact ⟨_, _, _, _, _, _, _, rfl, N1440, own_extK kp1442, ((A1436.ext E1438).keep K1440), Fa1440, Fb1440, V1440, Or.inr ⟨_, _, _, _, (V1438.keep K1440 (ninS (Ne.symm (own_ne (A1436).lt lo1438)) nin0)), own_four2 hok0 hok1 hc114_1414 bt1440⟩⟩
  ·refine own_cn X1411 q d8_114 ((flt hc114_1414).2.2.1) (own_aln X1411 q d8_117 rfl rfl (own_iln X1411 q d8_118 rfl (own_k X1411 q d8_119 (own_isubk 1 X1411 q d8_120 (by decide) (own_aln X1411 q d8_121 rfl rfl (own_iln X1411 q d8_122 rfl (own_k X1411 q d8_123 (own_isubk 1 X1411 q d8_124 (by decide) (own_ild (v := (.int x3)) X1411 q hZ e1411 V1411 d8_125 (by decide) rfl (own_il X1411 q d8_126 rfl ?_))))))))))
   obtain ⟨z1443, hz1443⟩ : ∃ z, own_max x3 x1 = z := ⟨_, rfl⟩
   refine own_cS X1411 q hZ e1411 hown hml (W 59 rfl) (W 10 rfl) (W 7 rfl) (W 11 rfl) (rm3 l Z a0 hw x3 x1 z1443 h1411 n0 zs1412 hz1443) d8_128 [(.int x3), (.int x1)] [v'1, (.ref b1394)] own_pd0 rfl rfl 2 (Nat.le_refl _) (by decide) (fun v1444 T1444 L1444 X1444 hQ1444 => ?_)
   obtain ⟨rfl, N1444q, e1444⟩ := hQ1444
   have N1444 := Fr.app N1411 N1444q
   refine own_nv ?_
   refine own_ist X1444 q hZ e1444 V1411 d8_131 (by decide) (Nat.le_of_ble_eq_true rfl) N1444 g_b1394 fun T1445 h1445 X1445 e1445 W1445 V1445 N1445 => ?_
   have zs1446 := Nat.le_trans zs1412 (Keep.of_wr W1445).1
   have kp1446 := kp1412.wr W1445 (Or.inr sz_b1394)
   refine own_gt X1445 q d8_132 (own_iik X1445 q d8_151 rfl (show ((4 : Int32) + (1 : Int32)) = (5 : Int32) by decide) (l' := #[.val (.ref a1), .val (.ref b1257), .val (.ref b1394), .val v'2, .val (.ref b1257), .val v'9, .val v'5, .val (.long al), .second, .val (.int x0), .val (.int x1)]) rfl (own_gt X1445 q d8_154 (own_il X1445 q d8_74 rfl (own_il X1445 q d8_76 rfl (own_cn X1445 q d8_78 ((tlt ((by decide) : (5 : Int32) < (9 : Int32))).2.1) (own_al X1445 q d8_81 rfl rfl (own_il X1445 q d8_83 rfl ?_)))))))
   obtain ⟨cl1447, Ar1447, q1447, S1447, M1447, H1447, G1447⟩ := id (((((((V1390.ext E1394).other W1397 (own_ne (V1390).lt (Nat.le_of_eq g1394.symm))).other W1399 (own_ne (V1390).lt (Nat.le_of_eq g1394.symm))).other W1403 (own_ne (V1390).lt (Nat.le_of_eq g1394.symm))).other W1407 (own_ne (V1390).lt (Nat.le_of_eq g1394.symm))).other W1411 (own_ne (V1390).lt (Nat.le_of_eq g1394.symm))).other W1445 (own_ne (V1390).lt (Nat.le_of_eq g1394.symm)))
   refine own_stp 86 (fun _ k => X1445.laload hx (j := (5 : Int32)) (v := (.long al)) (by rw [e1445]; exact Ar1447.1) (State.isArrayOf_alike hZ.alike Ar1447.2.1) Ar1447.2.2 (inb_of S1447 ⟨by decide, by decide⟩) (Has.at H1447 (inb_of S1447 ⟨by decide, by decide⟩) rfl) (g := mkF m 85 _ _) rfl rfl (q.d d8_85) _ k) (own_ls X1445 q d8_86 (l' := #[.val (.ref a1), .val (.ref b1257), .val (.ref b1394), .val v'2, .val (.ref b1257), .val v'9, .val v'5, .val (.long al), .second, .val (.int x0), .val (.int x1)]) rfl (own_ll X1445 q d8_88 rfl (own_k X1445 q d8_90 (own_stp 93 (fun _ k => XS.lushr X1445.here hx rfl (q.d d8_92) rfl k) (own_stp 94 (fun _ k => XS.l2i X1445.here hx rfl (q.d d8_93) rfl k) ?_)))))
   rw [own_firstz hal hok0]
   show own_Fin _ _ _ _ (T1445.setTop (mkF m 94 #[.val (.ref a1), .val (.ref b1257), .val (.ref b1394), .val v'2, .val (.ref b1257), .val v'9, .val v'5, .val (.long al), .second, .val (.int x0), .val (.int x1)] [(.int x0)]))
   refine own_is X1445 q d8_94 (l' := #[.val (.ref a1), .val (.ref b1257), .val (.ref b1394), .val v'2, .val (.ref b1257), .val v'9, .val v'5, .val (.long al), .second, .val (.int x0), .val (.int x1)]) rfl (own_ll X1445 q d8_96 rfl (own_stp 99 (fun _ k => XS.l2i X1445.here hx rfl (q.d d8_98) rfl k) ?_))
   rw [own_lastz hal hok0]
   show own_Fin _ _ _ _ (T1445.setTop (mkF m 99 #[.val (.ref a1), .val (.ref b1257), .val (.ref b1394), .val v'2, .val (.ref b1257), .val v'9, .val v'5, .val (.long al), .second, .val (.int x0), .val (.int x1)] [(.int x1)]))
   refine own_is X1445 q d8_99 (l' := #[.val (.ref a1), .val (.ref b1257), .val (.ref b1394), .val v'2, .val (.ref b1257), .val v'9, .val v'5, .val (.long al), .second, .val (.int x0), .val (.int x1)]) rfl (own_iln X1445 q d8_101 rfl (own_zn X1445 q d8_102 (((if0 _ _).trans (tlt ((by decide) : (0 : Int32) < (2 : Int32))).2.2.2)) (own_il X1445 q d8_105 rfl (own_aln X1445 q d8_107 rfl rfl (own_iln X1445 q d8_108 rfl (own_k X1445 q d8_109 (own_isubk 1 X1445 q d8_110 (by decide) (own_ild (v := (.int z1443)) X1445 q hZ e1445 V1445 d8_111 (by decide) rfl (own_k X1445 q d8_112 (own_iadd X1445 q d8_113 (own_cn X1445 q d8_114 ((flt ((own_gapM hok0 (own_okR hok1) hz1443) : ¬ ((z1443 + (1 : Int32)) < x0))).2.2.1) ?_)))))))))))
   refine own_aln X1445 q d8_117 rfl rfl (own_iln X1445 q d8_118 rfl (own_k X1445 q d8_119 (own_isubk 1 X1445 q d8_120 (by decide) (own_aln X1445 q d8_121 rfl rfl (own_iln X1445 q d8_122 rfl (own_k X1445 q d8_123 (own_isubk 1 X1445 q d8_124 (by decide) (own_ild (v := (.int z1443)) X1445 q hZ e1445 V1445 d8_125 (by decide) rfl (own_il X1445 q d8_126 rfl ?_)))))))))
   refine own_cS X1445 q hZ e1445 hown hml (W 59 rfl) (W 10 rfl) (W 7 rfl) (W 11 rfl) (rm3 l Z a0 hw z1443 x1 z1443 h1445 n0 zs1446 (own_maxM hz1443)) d8_128 [(.int z1443), (.int x1)] [v'1, (.ref b1394)] own_pd0 rfl rfl 2 (Nat.le_refl _) (by decide) (fun v1448 T1448 L1448 X1448 hQ1448 => ?_)
   obtain ⟨rfl, N1448q, e1448⟩ := hQ1448
   have N1448 := Fr.app N1445 N1448q
   refine own_nv ?_
   refine own_ist X1448 q hZ e1448 V1445 d8_131 (by decide) (Nat.le_of_ble_eq_true rfl) N1448 g_b1394 fun T1449 h1449 X1449 e1449 W1449 V1449 N1449 => ?_
   have zs1450 := Nat.le_trans zs1446 (Keep.of_wr W1449).1
   have kp1450 := kp1446.wr W1449 (Or.inr sz_b1394)
   refine own_gt X1449 q d8_132 (own_iik X1449 q d8_151 rfl (show ((5 : Int32) + (1 : Int32)) = (6 : Int32) by decide) (l' := #[.val (.ref a1), .val (.ref b1257), .val (.ref b1394), .val v'2, .val (.ref b1257), .val v'9, .val v'6, .val (.long al), .second, .val (.int x0), .val (.int x1)]) rfl (own_gt X1449 q d8_154 (own_il X1449 q d8_74 rfl (own_il X1449 q d8_76 rfl (own_cn X1449 q d8_78 ((tlt ((by decide) : (6 : Int32) < (9 : Int32))).2.1) (own_al X1449 q d8_81 rfl rfl (own_il X1449 q d8_83 rfl ?_)))))))
   obtain ⟨cl1451, Ar1451, q1451, S1451, M1451, H1451, G1451⟩ := id ((((((((V1390.ext E1394).other W1397 (own_ne (V1390).lt (Nat.le_of_eq g1394.symm))).other W1399 (own_ne (V1390).lt (Nat.le_of_eq g1394.symm))).other W1403 (own_ne (V1390).lt (Nat.le_of_eq g1394.symm))).other W1407 (own_ne (V1390).lt (Nat.le_of_eq g1394.symm))).other W1411 (own_ne (V1390).lt (Nat.le_of_eq g1394.symm))).other W1445 (own_ne (V1390).lt (Nat.le_of_eq g1394.symm))).other W1449 (own_ne (V1390).lt (Nat.le_of_eq g1394.symm)))
   refine own_stp 86 (fun _ k => X1449.laload hx (j := (6 : Int32)) (v := (.long al)) (by rw [e1449]; exact Ar1451.1) (State.isArrayOf_alike hZ.alike Ar1451.2.1) Ar1451.2.2 (inb_of S1451 ⟨by decide, by decide⟩) (Has.at H1451 (inb_of S1451 ⟨by decide, by decide⟩) rfl) (g := mkF m 85 _ _) rfl rfl (q.d d8_85) _ k) (own_ls X1449 q d8_86 (l' := #[.val (.ref a1), .val (.ref b1257), .val (.ref b1394), .val v'2, .val (.ref b1257), .val v'9, .val v'6, .val (.long al), .second, .val (.int x0), .val (.int x1)]) rfl (own_ll X1449 q d8_88 rfl (own_k X1449 q d8_90 (own_stp 93 (fun _ k => XS.lushr X1449.here hx rfl (q.d d8_92) rfl k) (own_stp 94 (fun _ k => XS.l2i X1449.here hx rfl (q.d d8_93) rfl k) ?_)))))
   rw [own_firstz hal hok0]
   show own_Fin _ _ _ _ (T1449.setTop (mkF m 94 #[.val (.ref a1), .val (.ref b1257), .val (.ref b1394), .val v'2, .val (.ref b1257), .val v'9, .val v'6, .val (.long al), .second, .val (.int x0), .val (.int x1)] [(.int x0)]))
   refine own_is X1449 q d8_94 (l' := #[.val (.ref a1), .val (.ref b1257), .val (.ref b1394), .val v'2, .val (.ref b1257), .val v'9, .val v'6, .val (.long al), .second, .val (.int x0), .val (.int x1)]) rfl (own_ll X1449 q d8_96 rfl (own_stp 99 (fun _ k => XS.l2i X1449.here hx rfl (q.d d8_98) rfl k) ?_))
   rw [own_lastz hal hok0]
   show own_Fin _ _ _ _ (T1449.setTop (mkF m 99 #[.val (.ref a1), .val (.ref b1257), .val (.ref b1394), .val v'2, .val (.ref b1257), .val v'9, .val v'6, .val (.long al), .second, .val (.int x0), .val (.int x1)] [(.int x1)]))
   refine own_is X1449 q d8_99 (l' := #[.val (.ref a1), .val (.ref b1257), .val (.ref b1394), .val v'2, .val (.ref b1257), .val v'9, .val v'6, .val (.long al), .second, .val (.int x0), .val (.int x1)]) rfl (own_iln X1449 q d8_101 rfl (own_zn X1449 q d8_102 (((if0 _ _).trans (tlt ((by decide) : (0 : Int32) < (2 : Int32))).2.2.2)) (own_il X1449 q d8_105 rfl (own_aln X1449 q d8_107 rfl rfl (own_iln X1449 q d8_108 rfl (own_k X1449 q d8_109 (own_isubk 1 X1449 q d8_110 (by decide) (own_ild (v := (.int z1443)) X1449 q hZ e1449 V1449 d8_111 (by decide) rfl (own_k X1449 q d8_112 (own_iadd X1449 q d8_113 (own_cn X1449 q d8_114 ((flt ((own_gapM hok0 (own_okR hok1) hz1443) : ¬ ((z1443 + (1 : Int32)) < x0))).2.2.1) ?_)))))))))))
   refine own_aln X1449 q d8_117 rfl rfl (own_iln X1449 q d8_118 rfl (own_k X1449 q d8_119 (own_isubk 1 X1449 q d8_120 (by decide) (own_aln X1449 q d8_121 rfl rfl (own_iln X1449 q d8_122 rfl (own_k X1449 q d8_123 (own_isubk 1 X1449 q d8_124 (by decide) (own_ild (v := (.int z1443)) X1449 q hZ e1449 V1449 d8_125 (by decide) rfl (own_il X1449 q d8_126 rfl ?_)))))))))
   refine own_cS X1449 q hZ e1449 hown hml (W 59 rfl) (W 10 rfl) (W 7 rfl) (W 11 rfl) (rm3 l Z a0 hw z1443 x1 z1443 h1449 n0 zs1450 (own_maxM hz1443)) d8_128 [(.int z1443), (.int x1)] [v'1, (.ref b1394)] own_pd0 rfl rfl 2 (Nat.le_refl _) (by decide) (fun v1452 T1452 L1452 X1452 hQ1452 => ?_)
   obtain ⟨rfl, N1452q, e1452⟩ := hQ1452
   have N1452 := Fr.app N1449 N1452q
   refine own_nv ?_
   refine own_ist X1452 q hZ e1452 V1449 d8_131 (by decide) (Nat.le_of_ble_eq_true rfl) N1452 g_b1394 fun T1453 h1453 X1453 e1453 W1453 V1453 N1453 => ?_
   have zs1454 := Nat.le_trans zs1450 (Keep.of_wr W1453).1
   have kp1454 := kp1450.wr W1453 (Or.inr sz_b1394)
   refine own_gt X1453 q d8_132 (own_iik X1453 q d8_151 rfl (show ((6 : Int32) + (1 : Int32)) = (7 : Int32) by decide) (l' := #[.val (.ref a1), .val (.ref b1257), .val (.ref b1394), .val v'2, .val (.ref b1257), .val v'9, .val v'7, .val (.long al), .second, .val (.int x0), .val (.int x1)]) rfl (own_gt X1453 q d8_154 (own_il X1453 q d8_74 rfl (own_il X1453 q d8_76 rfl (own_cn X1453 q d8_78 ((tlt ((by decide) : (7 : Int32) < (9 : Int32))).2.1) (own_al X1453 q d8_81 rfl rfl (own_il X1453 q d8_83 rfl ?_)))))))
   obtain ⟨cl1455, Ar1455, q1455, S1455, M1455, H1455, G1455⟩ := id (((((((((V1390.ext E1394).other W1397 (own_ne (V1390).lt (Nat.le_of_eq g1394.symm))).other W1399 (own_ne (V1390).lt (Nat.le_of_eq g1394.symm))).other W1403 (own_ne (V1390).lt (Nat.le_of_eq g1394.symm))).other W1407 (own_ne (V1390).lt (Nat.le_of_eq g1394.symm))).other W1411 (own_ne (V1390).lt (Nat.le_of_eq g1394.symm))).other W1445 (own_ne (V1390).lt (Nat.le_of_eq g1394.symm))).other W1449 (own_ne (V1390).lt (Nat.le_of_eq g1394.symm))).other W1453 (own_ne (V1390).lt (Nat.le_of_eq g1394.symm)))
   refine own_stp 86 (fun _ k => X1453.laload hx (j := (7 : Int32)) (v := (.long al)) (by rw [e1453]; exact Ar1455.1) (State.isArrayOf_alike hZ.alike Ar1455.2.1) Ar1455.2.2 (inb_of S1455 ⟨by decide, by decide⟩) (Has.at H1455 (inb_of S1455 ⟨by decide, by decide⟩) rfl) (g := mkF m 85 _ _) rfl rfl (q.d d8_85) _ k) (own_ls X1453 q d8_86 (l' := #[.val (.ref a1), .val (.ref b1257), .val (.ref b1394), .val v'2, .val (.ref b1257), .val v'9, .val v'7, .val (.long al), .second, .val (.int x0), .val (.int x1)]) rfl (own_ll X1453 q d8_88 rfl (own_k X1453 q d8_90 (own_stp 93 (fun _ k => XS.lushr X1453.here hx rfl (q.d d8_92) rfl k) (own_stp 94 (fun _ k => XS.l2i X1453.here hx rfl (q.d d8_93) rfl k) ?_)))))
   rw [own_firstz hal hok0]
   show own_Fin _ _ _ _ (T1453.setTop (mkF m 94 #[.val (.ref a1), .val (.ref b1257), .val (.ref b1394), .val v'2, .val (.ref b1257), .val v'9, .val v'7, .val (.long al), .second, .val (.int x0), .val (.int x1)] [(.int x0)]))
   refine own_is X1453 q d8_94 (l' := #[.val (.ref a1), .val (.ref b1257), .val (.ref b1394), .val v'2, .val (.ref b1257), .val v'9, .val v'7, .val (.long al), .second, .val (.int x0), .val (.int x1)]) rfl (own_ll X1453 q d8_96 rfl (own_stp 99 (fun _ k => XS.l2i X1453.here hx rfl (q.d d8_98) rfl k) ?_))
   rw [own_lastz hal hok0]
   show own_Fin _ _ _ _ (T1453.setTop (mkF m 99 #[.val (.ref a1), .val (.ref b1257), .val (.ref b1394), .val v'2, .val (.ref b1257), .val v'9, .val v'7, .val (.long al), .second, .val (.int x0), .val (.int x1)] [(.int x1)]))
   refine own_is X1453 q d8_99 (l' := #[.val (.ref a1), .val (.ref b1257), .val (.ref b1394), .val v'2, .val (.ref b1257), .val v'9, .val v'7, .val (.long al), .second, .val (.int x0), .val (.int x1)]) rfl (own_iln X1453 q d8_101 rfl (own_zn X1453 q d8_102 (((if0 _ _).trans (tlt ((by decide) : (0 : Int32) < (2 : Int32))).2.2.2)) (own_il X1453 q d8_105 rfl (own_aln X1453 q d8_107 rfl rfl (own_iln X1453 q d8_108 rfl (own_k X1453 q d8_109 (own_isubk 1 X1453 q d8_110 (by decide) (own_ild (v := (.int z1443)) X1453 q hZ e1453 V1453 d8_111 (by decide) rfl (own_k X1453 q d8_112 (own_iadd X1453 q d8_113 (own_cn X1453 q d8_114 ((flt ((own_gapM hok0 (own_okR hok1) hz1443) : ¬ ((z1443 + (1 : Int32)) < x0))).2.2.1) ?_)))))))))))
   refine own_aln X1453 q d8_117 rfl rfl (own_iln X1453 q d8_118 rfl (own_k X1453 q d8_119 (own_isubk 1 X1453 q d8_120 (by decide) (own_aln X1453 q d8_121 rfl rfl (own_iln X1453 q d8_122 rfl (own_k X1453 q d8_123 (own_isubk 1 X1453 q d8_124 (by decide) (own_ild (v := (.int z1443)) X1453 q hZ e1453 V1453 d8_125 (by decide) rfl (own_il X1453 q d8_126 rfl ?_)))))))))
   refine own_cS X1453 q hZ e1453 hown hml (W 59 rfl) (W 10 rfl) (W 7 rfl) (W 11 rfl) (rm3 l Z a0 hw z1443 x1 z1443 h1453 n0 zs1454 (own_maxM hz1443)) d8_128 [(.int z1443), (.int x1)] [v'1, (.ref b1394)] own_pd0 rfl rfl 2 (Nat.le_refl _) (by decide) (fun v1456 T1456 L1456 X1456 hQ1456 => ?_)
   obtain ⟨rfl, N1456q, e1456⟩ := hQ1456
   have N1456 := Fr.app N1453 N1456q
   refine own_nv ?_
   refine own_ist X1456 q hZ e1456 V1453 d8_131 (by decide) (Nat.le_of_ble_eq_true rfl) N1456 g_b1394 fun T1457 h1457 X1457 e1457 W1457 V1457 N1457 => ?_
   have zs1458 := Nat.le_trans zs1454 (Keep.of_wr W1457).1
   have kp1458 := kp1454.wr W1457 (Or.inr sz_b1394)
   refine own_gt X1457 q d8_132 (own_iik X1457 q d8_151 rfl (show ((7 : Int32) + (1 : Int32)) = (8 : Int32) by decide) (l' := #[.val (.ref a1), .val (.ref b1257), .val (.ref b1394), .val v'2, .val (.ref b1257), .val v'9, .val v'8, .val (.long al), .second, .val (.int x0), .val (.int x1)]) rfl (own_gt X1457 q d8_154 (own_il X1457 q d8_74 rfl (own_il X1457 q d8_76 rfl (own_cn X1457 q d8_78 ((tlt ((by decide) : (8 : Int32) < (9 : Int32))).2.1) (own_al X1457 q d8_81 rfl rfl (own_il X1457 q d8_83 rfl ?_)))))))
   obtain ⟨cl1459, Ar1459, q1459, S1459, M1459, H1459, G1459⟩ := id ((((((((((V1390.ext E1394).other W1397 (own_ne (V1390).lt (Nat.le_of_eq g1394.symm))).other W1399 (own_ne (V1390).lt (Nat.le_of_eq g1394.symm))).other W1403 (own_ne (V1390).lt (Nat.le_of_eq g1394.symm))).other W1407 (own_ne (V1390).lt (Nat.le_of_eq g1394.symm))).other W1411 (own_ne (V1390).lt (Nat.le_of_eq g1394.symm))).other W1445 (own_ne (V1390).lt (Nat.le_of_eq g1394.symm))).other W1449 (own_ne (V1390).lt (Nat.le_of_eq g1394.symm))).other W1453 (own_ne (V1390).lt (Nat.le_of_eq g1394.symm))).other W1457 (own_ne (V1390).lt (Nat.le_of_eq g1394.symm)))
   refine own_stp 86 (fun _ k => X1457.laload hx (j := (8 : Int32)) (v := (.long al)) (by rw [e1457]; exact Ar1459.1) (State.isArrayOf_alike hZ.alike Ar1459.2.1) Ar1459.2.2 (inb_of S1459 ⟨by decide, by decide⟩) (Has.at H1459 (inb_of S1459 ⟨by decide, by decide⟩) rfl) (g := mkF m 85 _ _) rfl rfl (q.d d8_85) _ k) (own_ls X1457 q d8_86 (l' := #[.val (.ref a1), .val (.ref b1257), .val (.ref b1394), .val v'2, .val (.ref b1257), .val v'9, .val v'8, .val (.long al), .second, .val (.int x0), .val (.int x1)]) rfl (own_ll X1457 q d8_88 rfl (own_k X1457 q d8_90 (own_stp 93 (fun _ k => XS.lushr X1457.here hx rfl (q.d d8_92) rfl k) (own_stp 94 (fun _ k => XS.l2i X1457.here hx rfl (q.d d8_93) rfl k) ?_)))))
   rw [own_firstz hal hok0]
   show own_Fin _ _ _ _ (T1457.setTop (mkF m 94 #[.val (.ref a1), .val (.ref b1257), .val (.ref b1394), .val v'2, .val (.ref b1257), .val v'9, .val v'8, .val (.long al), .second, .val (.int x0), .val (.int x1)] [(.int x0)]))
   refine own_is X1457 q d8_94 (l' := #[.val (.ref a1), .val (.ref b1257), .val (.ref b1394), .val v'2, .val (.ref b1257), .val v'9, .val v'8, .val (.long al), .second, .val (.int x0), .val (.int x1)]) rfl (own_ll X1457 q d8_96 rfl (own_stp 99 (fun _ k => XS.l2i X1457.here hx rfl (q.d d8_98) rfl k) ?_))
   rw [own_lastz hal hok0]
   show own_Fin _ _ _ _ (T1457.setTop (mkF m 99 #[.val (.ref a1), .val (.ref b1257), .val (.ref b1394), .val v'2, .val (.ref b1257), .val v'9, .val v'8, .val (.long al), .second, .val (.int x0), .val (.int x1)] [(.int x1)]))
   refine own_is X1457 q d8_99 (l' := #[.val (.ref a1), .val (.ref b1257), .val (.ref b1394), .val v'2, .val (.ref b1257), .val v'9, .val v'8, .val (.long al), .second, .val (.int x0), .val (.int x1)]) rfl (own_iln X1457 q d8_101 rfl (own_zn X1457 q d8_102 (((if0 _ _).trans (tlt ((by decide) : (0 : Int32) < (2 : Int32))).2.2.2)) (own_il X1457 q d8_105 rfl (own_aln X1457 q d8_107 rfl rfl (own_iln X1457 q d8_108 rfl (own_k X1457 q d8_109 (own_isubk 1 X1457 q d8_110 (by decide) (own_ild (v := (.int z1443)) X1457 q hZ e1457 V1457 d8_111 (by decide) rfl (own_k X1457 q d8_112 (own_iadd X1457 q d8_113 (own_cn X1457 q d8_114 ((flt ((own_gapM hok0 (own_okR hok1) hz1443) : ¬ ((z1443 + (1 : Int32)) < x0))).2.2.1) ?_)))))))))))
   refine own_aln X1457 q d8_117 rfl rfl (own_iln X1457 q d8_118 rfl (own_k X1457 q d8_119 (own_isubk 1 X1457 q d8_120 (by decide) (own_aln X1457 q d8_121 rfl rfl (own_iln X1457 q d8_122 rfl (own_k X1457 q d8_123 (own_isubk 1 X1457 q d8_124 (by decide) (own_ild (v := (.int z1443)) X1457 q hZ e1457 V1457 d8_125 (by decide) rfl (own_il X1457 q d8_126 rfl ?_)))))))))
   refine own_cS X1457 q hZ e1457 hown hml (W 59 rfl) (W 10 rfl) (W 7 rfl) (W 11 rfl) (rm3 l Z a0 hw z1443 x1 z1443 h1457 n0 zs1458 (own_maxM hz1443)) d8_128 [(.int z1443), (.int x1)] [v'1, (.ref b1394)] own_pd0 rfl rfl 2 (Nat.le_refl _) (by decide) (fun v1460 T1460 L1460 X1460 hQ1460 => ?_)
   obtain ⟨rfl, N1460q, e1460⟩ := hQ1460
   have N1460 := Fr.app N1457 N1460q
   refine own_nv ?_
   refine own_ist X1460 q hZ e1460 V1457 d8_131 (by decide) (Nat.le_of_ble_eq_true rfl) N1460 g_b1394 fun T1461 h1461 X1461 e1461 W1461 V1461 N1461 => ?_
   have zs1462 := Nat.le_trans zs1458 (Keep.of_wr W1461).1
   have kp1462 := kp1458.wr W1461 (Or.inr sz_b1394)
   refine own_gt X1461 q d8_132 (own_iik X1461 q d8_151 rfl (show ((8 : Int32) + (1 : Int32)) = (9 : Int32) by decide) (l' := #[.val (.ref a1), .val (.ref b1257), .val (.ref b1394), .val v'2, .val (.ref b1257), .val v'9, .val v'9, .val (.long al), .second, .val (.int x0), .val (.int x1)]) rfl (own_gt X1461 q d8_154 (own_il X1461 q d8_74 rfl (own_il X1461 q d8_76 rfl (own_cy X1461 q d8_78 ((flt (Int32.lt_irrefl : ¬ ((9 : Int32) < (9 : Int32)))).2.1) ?_)))))
   refine own_let ?_; intro g1463_
   obtain ⟨T1464, h1464, X1464, e1464, E1464, A1464, D1464, -, st1464⟩ := newO X1461 hx hZ hown (W 60 rfl) (W 61 rfl) (W 62 rfl) e1461 (g := g1463_) rfl (q.d d8_157) (by decide) (by decide)
   obtain ⟨b1464, g1464⟩ : ∃ z, z = h1461.size := ⟨_, rfl⟩
   rw [← g1464] at A1464 D1464 st1464
   have zs1465 := Nat.le_trans zs1462 E1464.1
   have kp1465 := kp1462.ext E1464
   have g_b1464 : n0 ≤ b1464 := Nat.le_trans zs1462 (Nat.le_of_eq g1464.symm)
   have sz_b1464 : h0.size ≤ b1464 := Nat.le_trans kp1462.1 (Nat.le_of_eq g1464.symm)
   have F1464_ascii : F'2 Z h1464 b1464 .null := D1464 (Or.inr (W 68 rfl)) (ty := (.array .long)) (by decide)
   have F1464_ranges : F'3 Z h1464 b1464 .null := D1464 (Or.inr (W 70 rfl)) (ty := (.array .int)) (by decide)
   refine own_stq 160 [(.ref b1464)] st1464 (own_dp X1464 q d8_160 rfl (own_aln X1464 q d8_161 rfl rfl (own_iln X1464 q d8_162 rfl ?_)))
   refine own_cSh X1464 q hZ e1464 hown hml (W 31 rfl) (W 32 rfl) (W 33 rfl) (W 34 rfl) (rm7_b l Z a0 hw b1394 k1394 x2 z1443 h1464 n0 zs1465 (V1461.ext E1464)) d8_163 [(.ref b1394), v'2] [(.ref b1464), (.ref b1464)] own_pd1 rfl rfl 2 (Nat.le_refl _) (by decide) (fun v1466 T1466 L1466 h1466 e1466' X1466 hQ1466 => ?_)
   obtain ⟨b1466, k1466, rfl, N1466q, E1466, lo1466, V1466⟩ := hQ1466
   have N1466 := Fr.app N1461 N1466q
   have zs1467 := Nat.le_trans zs1465 E1466.1
   have kp1467 := kp1465.ext E1466
   have g_b1466 : n0 ≤ b1466 := Nat.le_trans zs1465 lo1466
   have sz_b1466 : h0.size ≤ b1466 := Nat.le_trans kp1465.1 lo1466
   refine own_nv ?_
   refine own_let ?_; intro g1469_
   obtain ⟨_, _, ⟨T1468, L1468, k1468, n1468⟩, -, X1468, ⟨Lc1468, hQ1468, l1468, y1468, z1468⟩, st1468⟩ := X1466.specialBackNest hx (y := own_y10) rfl hown (Cond.methodLinkNest_wide hZ (W 63 rfl) :) (mvT hZ (W 64 rfl)) (mvT hZ (W 65 rfl)) (by decide) (backOf (W := 1) (rm13_2 l Z a0 hw b1464 b1466 k1466 x2 z1443 h1466 n0 zs1467 (A1464.ext E1466) (F1464_ranges.ext E1466) (F1464_ascii.ext E1466) V1466 g_b1464 (own_ne (A1464).lt lo1466) (own_okM hok1 hok0 hz1443)) hZ (W 65 rfl) (W 62 rfl) (by decide) (by decide)) (g := g1469_) rfl (by rw [hml]; rfl) (Steps.refl _) (a := b1464) (argsL := [(.ref b1466)]) (rest := [(.ref b1464)]) (lenOf own_pd8 rfl) rfl (by show 2 * 0 + _ ≤ _; exact Nat.le_of_eq rfl) (q.d d8_166) (fun _ _ => ⟨rfl, e1466', (by decide : 4 + 1 ≤ _), (by decide : 31 + 2 ≤ _)⟩)
   dsimp only [Pt.U, Pt.locs, Pt.cells, Pt.slots] at X1468 l1468 y1468 z1468 st1468 hQ1468
   rw [l1468, y1468, z1468] at X1468
   clear l1468 y1468 z1468
   obtain ⟨b1468, k1468, wa1468, wb1468, rfl, N1468q, K1468, lo1468, Fa1468, Fb1468, V1468, bt1468⟩ := hQ1468
   have N1468 := Fr.app N1466 N1468q
   obtain ⟨h1468, e1468⟩ : ∃ z, z = T1468.heap := ⟨_, rfl⟩
   have e1468' := e1468.symm
   rw [← e1468] at K1468 Fa1468 Fb1468 V1468
   have zs1470 := Nat.le_trans zs1467 K1468.1
   have kp1470 := kp1467.trans K1468 (allS (Or.inr sz_b1464) all0)
   have g_b1468 : n0 ≤ b1468 := Nat.le_trans zs1467 lo1468
   have sz_b1468 : h0.size ≤ b1468 := Nat.le_trans kp1467.1 lo1468
   refine own_stp 169 (fun _ k => st1468.trans k) (own_nn ?_)
   refine own_rA X1468 q hrt d8_169 hlk (by decide) ?_
   show QBD Z x0 x1 x2 x3 h0 n0 _ T1468.heap _
   rw [e1468']
   exact ⟨_, _, _, _, _, _, _, rfl, N1468, own_extK kp1470, ((A1464.ext E1466).keep K1468), Fa1468, Fb1468, V1468, Or.inl ⟨_, _, (V1466.keep K1468 (ninS (Ne.symm (own_ne (A1464).lt lo1466)) nin0)), own_two2 hok0 hok1 (own_lle hbe hal hok1 hok0 hgt) hc114_1414 hz1443 bt1468⟩⟩
 obtain ⟨h3a, h3b⟩ := own_leq hal hbe hok0 hok1 hlt hgt
 subst h3a
 subst h3b
 show own_Fin _ _ _ _ (T1311.setTop (mkF m 51 #[.val (.ref a1), .val (.ref b1257), .val v'9, .unset, .unset, .unset, .unset, .unset, .unset, .unset, .unset] [(.ref b1257)]))
 refine own_cSh X1311 q hZ e1311 hown hml (W 46 rfl) (W 47 rfl) (W 33 rfl) (W 48 rfl) (rm9_3 l Z a0 hw b1257 k1257 al be h1311 n0 zs1312 V1311 g_b1257 hlt hgt) d8_51 [(.ref b1257)] [] own_pd7 rfl rfl 0 (Nat.le_refl _) (by decide) (fun v1471 T1471 L1471 h1471 e1471' X1471 hQ1471 => ?_)
 obtain ⟨rfl, N1471q, K1471, V1471⟩ := hQ1471
 have N1471 := Fr.app N1311 N1471q
 have zs1472 := Nat.le_trans zs1312 K1471.1
 have kp1472 := kp1312.trans K1471 (allS (Or.inr sz_b1257) all0)
 refine own_nn (own_aln X1471 q d8_54 rfl rfl ?_)
 refine own_gF X1471 q hZ e1471' hown (W 29 rfl) (((((((((((FS.ext E1257).other W1263 (Or.inl (own_ne (E1).lt (Nat.le_of_eq g1257.symm)))).other W1269 (Or.inl (own_ne (E1).lt (Nat.le_of_eq g1257.symm)))).other W1275 (Or.inl (own_ne (E1).lt (Nat.le_of_eq g1257.symm)))).other W1281 (Or.inl (own_ne (E1).lt (Nat.le_of_eq g1257.symm)))).other W1287 (Or.inl (own_ne (E1).lt (Nat.le_of_eq g1257.symm)))).other W1293 (Or.inl (own_ne (E1).lt (Nat.le_of_eq g1257.symm)))).other W1299 (Or.inl (own_ne (E1).lt (Nat.le_of_eq g1257.symm)))).other W1305 (Or.inl (own_ne (E1).lt (Nat.le_of_eq g1257.symm)))).other W1311 (Or.inl (own_ne (E1).lt (Nat.le_of_eq g1257.symm)))).keep K1471 (ninS (own_ne (E1).lt (Nat.le_of_eq g1257.symm)) nin0)) d8_55 fun T1473 X1473 e1473 => ?_
 refine own_let ?_; intro g1474_
 obtain ⟨T1475, h1475, k1475, X1475, e1475, E1475, A1475, st1475⟩ := newP X1473 hx hZ (W 21 rfl) e1473 (g := g1474_) rfl (q.d d8_58) rfl (by decide) (cap := 18) (by decide) (by decide) (by decide) (by decide)
 obtain ⟨b1475, g1475⟩ : ∃ z, z = h1471.size := ⟨_, rfl⟩
 rw [← g1475] at A1475 st1475
 have V1475 : Arv Z h1475 b1475 k1475 .int (18 : Int32) [v'0, v'0, v'0, v'0, v'0, v'0, v'0, v'0, v'0, v'0, v'0, v'0, v'0, v'0, v'0, v'0, v'0, v'0] v'0 := (Arv.new A1475 (by decide)).pad (pad_rep [] v'0 18)
 have zs1476 := Nat.le_trans zs1472 E1475.1
 have kp1476 := kp1472.ext E1475
 have g_b1475 : n0 ≤ b1475 := Nat.le_trans zs1472 (Nat.le_of_eq g1475.symm)
 have sz_b1475 : h0.size ≤ b1475 := Nat.le_trans kp1472.1 (Nat.le_of_eq g1475.symm)
 refine own_stp 60 st1475 (own_asn X1475 q d8_60 rfl (l' := #[.val (.ref a1), .val (.ref b1257), .val (.ref b1475), .unset, .unset, .unset, .unset, .unset, .unset, .unset, .unset]) rfl (own_k X1475 q d8_61 (own_isn X1475 q d8_62 (l' := #[.val (.ref a1), .val (.ref b1257), .val (.ref b1475), .val v'0, .unset, .unset, .unset, .unset, .unset, .unset, .unset]) rfl (own_aln X1475 q d8_63 rfl rfl (own_as X1475 q d8_64 rfl (l' := #[.val (.ref a1), .val (.ref b1257), .val (.ref b1475), .val v'0, .val (.ref b1257), .unset, .unset, .unset, .unset, .unset, .unset]) rfl (own_al X1475 q d8_66 rfl rfl (own_alen (n := (9 : Int32)) X1475 q hZ e1475 (V1471.ext E1475) d8_68 (own_is X1475 q d8_69 (l' := #[.val (.ref a1), .val (.ref b1257), .val (.ref b1475), .val v'0, .val (.ref b1257), .val v'9, .unset, .unset, .unset, .unset, .unset]) rfl (own_k X1475 q d8_71 (own_is X1475 q d8_72 (l' := #[.val (.ref a1), .val (.ref b1257), .val (.ref b1475), .val v'0, .val (.ref b1257), .val v'9, .val v'0, .unset, .unset, .unset, .unset]) rfl (own_il X1475 q d8_74 rfl ?_)))))))))))
 refine own_il X1475 q d8_76 rfl (own_cn X1475 q d8_78 ((tlt ((by decide) : (0 : Int32) < (9 : Int32))).2.1) (own_al X1475 q d8_81 rfl rfl (own_il X1475 q d8_83 rfl ?_)))
 obtain ⟨cl1477, Ar1477, q1477, S1477, M1477, H1477, G1477⟩ := id (V1471.ext E1475)
 refine own_stp 86 (fun _ k => X1475.laload hx (j := (0 : Int32)) (v := (.long al)) (by rw [e1475]; exact Ar1477.1) (State.isArrayOf_alike hZ.alike Ar1477.2.1) Ar1477.2.2 (inb_of S1477 ⟨by decide, by decide⟩) (Has.at H1477 (inb_of S1477 ⟨by decide, by decide⟩) rfl) (g := mkF m 85 _ _) rfl rfl (q.d d8_85) _ k) (own_ls X1475 q d8_86 (l' := #[.val (.ref a1), .val (.ref b1257), .val (.ref b1475), .val v'0, .val (.ref b1257), .val v'9, .val v'0, .val (.long al), .second, .unset, .unset]) rfl (own_ll X1475 q d8_88 rfl (own_k X1475 q d8_90 (own_stp 93 (fun _ k => XS.lushr X1475.here hx rfl (q.d d8_92) rfl k) (own_stp 94 (fun _ k => XS.l2i X1475.here hx rfl (q.d d8_93) rfl k) ?_)))))
 rw [own_firstz hal hok0]
 show own_Fin _ _ _ _ (T1475.setTop (mkF m 94 #[.val (.ref a1), .val (.ref b1257), .val (.ref b1475), .val v'0, .val (.ref b1257), .val v'9, .val v'0, .val (.long al), .second, .unset, .unset] [(.int x0)]))
 refine own_is X1475 q d8_94 (l' := #[.val (.ref a1), .val (.ref b1257), .val (.ref b1475), .val v'0, .val (.ref b1257), .val v'9, .val v'0, .val (.long al), .second, .val (.int x0), .unset]) rfl (own_ll X1475 q d8_96 rfl (own_stp 99 (fun _ k => XS.l2i X1475.here hx rfl (q.d d8_98) rfl k) ?_))
 rw [own_lastz hal hok0]
 show own_Fin _ _ _ _ (T1475.setTop (mkF m 99 #[.val (.ref a1), .val (.ref b1257), .val (.ref b1475), .val v'0, .val (.ref b1257), .val v'9, .val v'0, .val (.long al), .second, .val (.int x0), .unset] [(.int x1)]))
 refine own_is X1475 q d8_99 (l' := #[.val (.ref a1), .val (.ref b1257), .val (.ref b1475), .val v'0, .val (.ref b1257), .val v'9, .val v'0, .val (.long al), .second, .val (.int x0), .val (.int x1)]) rfl (own_iln X1475 q d8_101 rfl (own_zy X1475 q d8_102 (((if0 _ _).trans (flt (Int32.lt_irrefl : ¬ ((0 : Int32) < (0 : Int32)))).2.2.2)) (own_aln X1475 q d8_135 rfl rfl (own_iln X1475 q d8_136 rfl (own_iik X1475 q d8_137 rfl (show ((0 : Int32) + (1 : Int32)) = (1 : Int32) by decide) (l' := #[.val (.ref a1), .val (.ref b1257), .val (.ref b1475), .val v'1, .val (.ref b1257), .val v'9, .val v'0, .val (.long al), .second, .val (.int x0), .val (.int x1)]) rfl (own_il X1475 q d8_140 rfl ?_))))))
 refine own_ist X1475 q hZ e1475 V1475 d8_142 (by decide) (Nat.le_of_ble_eq_true rfl) N1471 g_b1475 fun T1478 h1478 X1478 e1478 W1478 V1478 N1478 => ?_
 have zs1479 := Nat.le_trans zs1476 (Keep.of_wr W1478).1
 have kp1479 := kp1476.wr W1478 (Or.inr sz_b1475)
 refine own_aln X1478 q d8_143 rfl rfl (own_iln X1478 q d8_144 rfl (own_iik X1478 q d8_145 rfl (show ((1 : Int32) + (1 : Int32)) = (2 : Int32) by decide) (l' := #[.val (.ref a1), .val (.ref b1257), .val (.ref b1475), .val v'2, .val (.ref b1257), .val v'9, .val v'0, .val (.long al), .second, .val (.int x0), .val (.int x1)]) rfl (own_il X1478 q d8_148 rfl ?_)))
 refine own_ist X1478 q hZ e1478 V1478 d8_150 (by decide) (Nat.le_of_ble_eq_true rfl) N1478 g_b1475 fun T1480 h1480 X1480 e1480 W1480 V1480 N1480 => ?_
 have zs1481 := Nat.le_trans zs1479 (Keep.of_wr W1480).1
 have kp1481 := kp1479.wr W1480 (Or.inr sz_b1475)
 refine own_iik X1480 q d8_151 rfl (show ((0 : Int32) + (1 : Int32)) = (1 : Int32) by decide) (l' := #[.val (.ref a1), .val (.ref b1257), .val (.ref b1475), .val v'2, .val (.ref b1257), .val v'9, .val v'1, .val (.long al), .second, .val (.int x0), .val (.int x1)]) rfl (own_gt X1480 q d8_154 (own_il X1480 q d8_74 rfl (own_il X1480 q d8_76 rfl (own_cn X1480 q d8_78 ((tlt ((by decide) : (1 : Int32) < (9 : Int32))).2.1) (own_al X1480 q d8_81 rfl rfl (own_il X1480 q d8_83 rfl ?_))))))
 obtain ⟨cl1482, Ar1482, q1482, S1482, M1482, H1482, G1482⟩ := id (((V1471.ext E1475).other W1478 (own_ne (V1471).lt (Nat.le_of_eq g1475.symm))).other W1480 (own_ne (V1471).lt (Nat.le_of_eq g1475.symm)))
 refine own_stp 86 (fun _ k => X1480.laload hx (j := (1 : Int32)) (v := (.long be)) (by rw [e1480]; exact Ar1482.1) (State.isArrayOf_alike hZ.alike Ar1482.2.1) Ar1482.2.2 (inb_of S1482 ⟨by decide, by decide⟩) (Has.at H1482 (inb_of S1482 ⟨by decide, by decide⟩) rfl) (g := mkF m 85 _ _) rfl rfl (q.d d8_85) _ k) (own_ls X1480 q d8_86 (l' := #[.val (.ref a1), .val (.ref b1257), .val (.ref b1475), .val v'2, .val (.ref b1257), .val v'9, .val v'1, .val (.long be), .second, .val (.int x0), .val (.int x1)]) rfl (own_ll X1480 q d8_88 rfl (own_k X1480 q d8_90 (own_stp 93 (fun _ k => XS.lushr X1480.here hx rfl (q.d d8_92) rfl k) (own_stp 94 (fun _ k => XS.l2i X1480.here hx rfl (q.d d8_93) rfl k) ?_)))))
 rw [own_firstz hbe hok0]
 show own_Fin _ _ _ _ (T1480.setTop (mkF m 94 #[.val (.ref a1), .val (.ref b1257), .val (.ref b1475), .val v'2, .val (.ref b1257), .val v'9, .val v'1, .val (.long be), .second, .val (.int x0), .val (.int x1)] [(.int x0)]))
 refine own_is X1480 q d8_94 (l' := #[.val (.ref a1), .val (.ref b1257), .val (.ref b1475), .val v'2, .val (.ref b1257), .val v'9, .val v'1, .val (.long be), .second, .val (.int x0), .val (.int x1)]) rfl (own_ll X1480 q d8_96 rfl (own_stp 99 (fun _ k => XS.l2i X1480.here hx rfl (q.d d8_98) rfl k) ?_))
 rw [own_lastz hbe hok0]
 show own_Fin _ _ _ _ (T1480.setTop (mkF m 99 #[.val (.ref a1), .val (.ref b1257), .val (.ref b1475), .val v'2, .val (.ref b1257), .val v'9, .val v'1, .val (.long be), .second, .val (.int x0), .val (.int x1)] [(.int x1)]))
 refine own_is X1480 q d8_99 (l' := #[.val (.ref a1), .val (.ref b1257), .val (.ref b1475), .val v'2, .val (.ref b1257), .val v'9, .val v'1, .val (.long be), .second, .val (.int x0), .val (.int x1)]) rfl (own_iln X1480 q d8_101 rfl (own_zn X1480 q d8_102 (((if0 _ _).trans (tlt ((by decide) : (0 : Int32) < (2 : Int32))).2.2.2)) (own_il X1480 q d8_105 rfl (own_aln X1480 q d8_107 rfl rfl (own_iln X1480 q d8_108 rfl (own_k X1480 q d8_109 (own_isubk 1 X1480 q d8_110 (by decide) (own_ild (v := (.int x1)) X1480 q hZ e1480 V1480 d8_111 (by decide) rfl (own_k X1480 q d8_112 (own_iadd X1480 q d8_113 (own_cn X1480 q d8_114 ((flt ((own_gap hok0) : ¬ ((x1 + (1 : Int32)) < x0))).2.2.1) ?_)))))))))))
 refine own_aln X1480 q d8_117 rfl rfl (own_iln X1480 q d8_118 rfl (own_k X1480 q d8_119 (own_isubk 1 X1480 q d8_120 (by decide) (own_aln X1480 q d8_121 rfl rfl (own_iln X1480 q d8_122 rfl (own_k X1480 q d8_123 (own_isubk 1 X1480 q d8_124 (by decide) (own_ild (v := (.int x1)) X1480 q hZ e1480 V1480 d8_125 (by decide) rfl (own_il X1480 q d8_126 rfl ?_)))))))))
 refine own_cS X1480 q hZ e1480 hown hml (W 59 rfl) (W 10 rfl) (W 7 rfl) (W 11 rfl) (rm3 l Z a0 hw x1 x1 x1 h1480 n0 zs1481 (own_maxS _)) d8_128 [(.int x1), (.int x1)] [v'1, (.ref b1475)] own_pd0 rfl rfl 2 (Nat.le_refl _) (by decide) (fun v1483 T1483 L1483 X1483 hQ1483 => ?_)
 obtain ⟨rfl, N1483q, e1483⟩ := hQ1483
 have N1483 := Fr.app N1480 N1483q
 refine own_nv ?_
 refine own_ist X1483 q hZ e1483 V1480 d8_131 (by decide) (Nat.le_of_ble_eq_true rfl) N1483 g_b1475 fun T1484 h1484 X1484 e1484 W1484 V1484 N1484 => ?_
 have zs1485 := Nat.le_trans zs1481 (Keep.of_wr W1484).1
 have kp1485 := kp1481.wr W1484 (Or.inr sz_b1475)
 refine own_gt X1484 q d8_132 (own_iik X1484 q d8_151 rfl (show ((1 : Int32) + (1 : Int32)) = (2 : Int32) by decide) (l' := #[.val (.ref a1), .val (.ref b1257), .val (.ref b1475), .val v'2, .val (.ref b1257), .val v'9, .val v'2, .val (.long be), .second, .val (.int x0), .val (.int x1)]) rfl (own_gt X1484 q d8_154 (own_il X1484 q d8_74 rfl (own_il X1484 q d8_76 rfl (own_cn X1484 q d8_78 ((tlt ((by decide) : (2 : Int32) < (9 : Int32))).2.1) (own_al X1484 q d8_81 rfl rfl (own_il X1484 q d8_83 rfl ?_)))))))
 obtain ⟨cl1486, Ar1486, q1486, S1486, M1486, H1486, G1486⟩ := id ((((V1471.ext E1475).other W1478 (own_ne (V1471).lt (Nat.le_of_eq g1475.symm))).other W1480 (own_ne (V1471).lt (Nat.le_of_eq g1475.symm))).other W1484 (own_ne (V1471).lt (Nat.le_of_eq g1475.symm)))
 refine own_stp 86 (fun _ k => X1484.laload hx (j := (2 : Int32)) (v := (.long al)) (by rw [e1484]; exact Ar1486.1) (State.isArrayOf_alike hZ.alike Ar1486.2.1) Ar1486.2.2 (inb_of S1486 ⟨by decide, by decide⟩) (Has.at H1486 (inb_of S1486 ⟨by decide, by decide⟩) rfl) (g := mkF m 85 _ _) rfl rfl (q.d d8_85) _ k) (own_ls X1484 q d8_86 (l' := #[.val (.ref a1), .val (.ref b1257), .val (.ref b1475), .val v'2, .val (.ref b1257), .val v'9, .val v'2, .val (.long al), .second, .val (.int x0), .val (.int x1)]) rfl (own_ll X1484 q d8_88 rfl (own_k X1484 q d8_90 (own_stp 93 (fun _ k => XS.lushr X1484.here hx rfl (q.d d8_92) rfl k) (own_stp 94 (fun _ k => XS.l2i X1484.here hx rfl (q.d d8_93) rfl k) ?_)))))
 rw [own_firstz hal hok0]
 show own_Fin _ _ _ _ (T1484.setTop (mkF m 94 #[.val (.ref a1), .val (.ref b1257), .val (.ref b1475), .val v'2, .val (.ref b1257), .val v'9, .val v'2, .val (.long al), .second, .val (.int x0), .val (.int x1)] [(.int x0)]))
 refine own_is X1484 q d8_94 (l' := #[.val (.ref a1), .val (.ref b1257), .val (.ref b1475), .val v'2, .val (.ref b1257), .val v'9, .val v'2, .val (.long al), .second, .val (.int x0), .val (.int x1)]) rfl (own_ll X1484 q d8_96 rfl (own_stp 99 (fun _ k => XS.l2i X1484.here hx rfl (q.d d8_98) rfl k) ?_))
 rw [own_lastz hal hok0]
 show own_Fin _ _ _ _ (T1484.setTop (mkF m 99 #[.val (.ref a1), .val (.ref b1257), .val (.ref b1475), .val v'2, .val (.ref b1257), .val v'9, .val v'2, .val (.long al), .second, .val (.int x0), .val (.int x1)] [(.int x1)]))
 refine own_is X1484 q d8_99 (l' := #[.val (.ref a1), .val (.ref b1257), .val (.ref b1475), .val v'2, .val (.ref b1257), .val v'9, .val v'2, .val (.long al), .second, .val (.int x0), .val (.int x1)]) rfl (own_iln X1484 q d8_101 rfl (own_zn X1484 q d8_102 (((if0 _ _).trans (tlt ((by decide) : (0 : Int32) < (2 : Int32))).2.2.2)) (own_il X1484 q d8_105 rfl (own_aln X1484 q d8_107 rfl rfl (own_iln X1484 q d8_108 rfl (own_k X1484 q d8_109 (own_isubk 1 X1484 q d8_110 (by decide) (own_ild (v := (.int x1)) X1484 q hZ e1484 V1484 d8_111 (by decide) rfl (own_k X1484 q d8_112 (own_iadd X1484 q d8_113 (own_cn X1484 q d8_114 ((flt ((own_gap hok0) : ¬ ((x1 + (1 : Int32)) < x0))).2.2.1) ?_)))))))))))
 refine own_aln X1484 q d8_117 rfl rfl (own_iln X1484 q d8_118 rfl (own_k X1484 q d8_119 (own_isubk 1 X1484 q d8_120 (by decide) (own_aln X1484 q d8_121 rfl rfl (own_iln X1484 q d8_122 rfl (own_k X1484 q d8_123 (own_isubk 1 X1484 q d8_124 (by decide) (own_ild (v := (.int x1)) X1484 q hZ e1484 V1484 d8_125 (by decide) rfl (own_il X1484 q d8_126 rfl ?_)))))))))
 refine own_cS X1484 q hZ e1484 hown hml (W 59 rfl) (W 10 rfl) (W 7 rfl) (W 11 rfl) (rm3 l Z a0 hw x1 x1 x1 h1484 n0 zs1485 (own_maxS _)) d8_128 [(.int x1), (.int x1)] [v'1, (.ref b1475)] own_pd0 rfl rfl 2 (Nat.le_refl _) (by decide) (fun v1487 T1487 L1487 X1487 hQ1487 => ?_)
 obtain ⟨rfl, N1487q, e1487⟩ := hQ1487
 have N1487 := Fr.app N1484 N1487q
 refine own_nv ?_
 refine own_ist X1487 q hZ e1487 V1484 d8_131 (by decide) (Nat.le_of_ble_eq_true rfl) N1487 g_b1475 fun T1488 h1488 X1488 e1488 W1488 V1488 N1488 => ?_
 have zs1489 := Nat.le_trans zs1485 (Keep.of_wr W1488).1
 have kp1489 := kp1485.wr W1488 (Or.inr sz_b1475)
 refine own_gt X1488 q d8_132 (own_iik X1488 q d8_151 rfl (show ((2 : Int32) + (1 : Int32)) = (3 : Int32) by decide) (l' := #[.val (.ref a1), .val (.ref b1257), .val (.ref b1475), .val v'2, .val (.ref b1257), .val v'9, .val v'3, .val (.long al), .second, .val (.int x0), .val (.int x1)]) rfl (own_gt X1488 q d8_154 (own_il X1488 q d8_74 rfl (own_il X1488 q d8_76 rfl (own_cn X1488 q d8_78 ((tlt ((by decide) : (3 : Int32) < (9 : Int32))).2.1) (own_al X1488 q d8_81 rfl rfl (own_il X1488 q d8_83 rfl ?_)))))))
 obtain ⟨cl1490, Ar1490, q1490, S1490, M1490, H1490, G1490⟩ := id (((((V1471.ext E1475).other W1478 (own_ne (V1471).lt (Nat.le_of_eq g1475.symm))).other W1480 (own_ne (V1471).lt (Nat.le_of_eq g1475.symm))).other W1484 (own_ne (V1471).lt (Nat.le_of_eq g1475.symm))).other W1488 (own_ne (V1471).lt (Nat.le_of_eq g1475.symm)))
 refine own_stp 86 (fun _ k => X1488.laload hx (j := (3 : Int32)) (v := (.long be)) (by rw [e1488]; exact Ar1490.1) (State.isArrayOf_alike hZ.alike Ar1490.2.1) Ar1490.2.2 (inb_of S1490 ⟨by decide, by decide⟩) (Has.at H1490 (inb_of S1490 ⟨by decide, by decide⟩) rfl) (g := mkF m 85 _ _) rfl rfl (q.d d8_85) _ k) (own_ls X1488 q d8_86 (l' := #[.val (.ref a1), .val (.ref b1257), .val (.ref b1475), .val v'2, .val (.ref b1257), .val v'9, .val v'3, .val (.long be), .second, .val (.int x0), .val (.int x1)]) rfl (own_ll X1488 q d8_88 rfl (own_k X1488 q d8_90 (own_stp 93 (fun _ k => XS.lushr X1488.here hx rfl (q.d d8_92) rfl k) (own_stp 94 (fun _ k => XS.l2i X1488.here hx rfl (q.d d8_93) rfl k) ?_)))))
 rw [own_firstz hbe hok0]
 show own_Fin _ _ _ _ (T1488.setTop (mkF m 94 #[.val (.ref a1), .val (.ref b1257), .val (.ref b1475), .val v'2, .val (.ref b1257), .val v'9, .val v'3, .val (.long be), .second, .val (.int x0), .val (.int x1)] [(.int x0)]))
 refine own_is X1488 q d8_94 (l' := #[.val (.ref a1), .val (.ref b1257), .val (.ref b1475), .val v'2, .val (.ref b1257), .val v'9, .val v'3, .val (.long be), .second, .val (.int x0), .val (.int x1)]) rfl (own_ll X1488 q d8_96 rfl (own_stp 99 (fun _ k => XS.l2i X1488.here hx rfl (q.d d8_98) rfl k) ?_))
 rw [own_lastz hbe hok0]
 show own_Fin _ _ _ _ (T1488.setTop (mkF m 99 #[.val (.ref a1), .val (.ref b1257), .val (.ref b1475), .val v'2, .val (.ref b1257), .val v'9, .val v'3, .val (.long be), .second, .val (.int x0), .val (.int x1)] [(.int x1)]))
 refine own_is X1488 q d8_99 (l' := #[.val (.ref a1), .val (.ref b1257), .val (.ref b1475), .val v'2, .val (.ref b1257), .val v'9, .val v'3, .val (.long be), .second, .val (.int x0), .val (.int x1)]) rfl (own_iln X1488 q d8_101 rfl (own_zn X1488 q d8_102 (((if0 _ _).trans (tlt ((by decide) : (0 : Int32) < (2 : Int32))).2.2.2)) (own_il X1488 q d8_105 rfl (own_aln X1488 q d8_107 rfl rfl (own_iln X1488 q d8_108 rfl (own_k X1488 q d8_109 (own_isubk 1 X1488 q d8_110 (by decide) (own_ild (v := (.int x1)) X1488 q hZ e1488 V1488 d8_111 (by decide) rfl (own_k X1488 q d8_112 (own_iadd X1488 q d8_113 (own_cn X1488 q d8_114 ((flt ((own_gap hok0) : ¬ ((x1 + (1 : Int32)) < x0))).2.2.1) ?_)))))))))))
 refine own_aln X1488 q d8_117 rfl rfl (own_iln X1488 q d8_118 rfl (own_k X1488 q d8_119 (own_isubk 1 X1488 q d8_120 (by decide) (own_aln X1488 q d8_121 rfl rfl (own_iln X1488 q d8_122 rfl (own_k X1488 q d8_123 (own_isubk 1 X1488 q d8_124 (by decide) (own_ild (v := (.int x1)) X1488 q hZ e1488 V1488 d8_125 (by decide) rfl (own_il X1488 q d8_126 rfl ?_)))))))))
 refine own_cS X1488 q hZ e1488 hown hml (W 59 rfl) (W 10 rfl) (W 7 rfl) (W 11 rfl) (rm3 l Z a0 hw x1 x1 x1 h1488 n0 zs1489 (own_maxS _)) d8_128 [(.int x1), (.int x1)] [v'1, (.ref b1475)] own_pd0 rfl rfl 2 (Nat.le_refl _) (by decide) (fun v1491 T1491 L1491 X1491 hQ1491 => ?_)
 obtain ⟨rfl, N1491q, e1491⟩ := hQ1491
 have N1491 := Fr.app N1488 N1491q
 refine own_nv ?_
 refine own_ist X1491 q hZ e1491 V1488 d8_131 (by decide) (Nat.le_of_ble_eq_true rfl) N1491 g_b1475 fun T1492 h1492 X1492 e1492 W1492 V1492 N1492 => ?_
 have zs1493 := Nat.le_trans zs1489 (Keep.of_wr W1492).1
 have kp1493 := kp1489.wr W1492 (Or.inr sz_b1475)
 refine own_gt X1492 q d8_132 (own_iik X1492 q d8_151 rfl (show ((3 : Int32) + (1 : Int32)) = (4 : Int32) by decide) (l' := #[.val (.ref a1), .val (.ref b1257), .val (.ref b1475), .val v'2, .val (.ref b1257), .val v'9, .val v'4, .val (.long be), .second, .val (.int x0), .val (.int x1)]) rfl (own_gt X1492 q d8_154 (own_il X1492 q d8_74 rfl (own_il X1492 q d8_76 rfl (own_cn X1492 q d8_78 ((tlt ((by decide) : (4 : Int32) < (9 : Int32))).2.1) (own_al X1492 q d8_81 rfl rfl (own_il X1492 q d8_83 rfl ?_)))))))
 obtain ⟨cl1494, Ar1494, q1494, S1494, M1494, H1494, G1494⟩ := id ((((((V1471.ext E1475).other W1478 (own_ne (V1471).lt (Nat.le_of_eq g1475.symm))).other W1480 (own_ne (V1471).lt (Nat.le_of_eq g1475.symm))).other W1484 (own_ne (V1471).lt (Nat.le_of_eq g1475.symm))).other W1488 (own_ne (V1471).lt (Nat.le_of_eq g1475.symm))).other W1492 (own_ne (V1471).lt (Nat.le_of_eq g1475.symm)))
 refine own_stp 86 (fun _ k => X1492.laload hx (j := (4 : Int32)) (v := (.long al)) (by rw [e1492]; exact Ar1494.1) (State.isArrayOf_alike hZ.alike Ar1494.2.1) Ar1494.2.2 (inb_of S1494 ⟨by decide, by decide⟩) (Has.at H1494 (inb_of S1494 ⟨by decide, by decide⟩) rfl) (g := mkF m 85 _ _) rfl rfl (q.d d8_85) _ k) (own_ls X1492 q d8_86 (l' := #[.val (.ref a1), .val (.ref b1257), .val (.ref b1475), .val v'2, .val (.ref b1257), .val v'9, .val v'4, .val (.long al), .second, .val (.int x0), .val (.int x1)]) rfl (own_ll X1492 q d8_88 rfl (own_k X1492 q d8_90 (own_stp 93 (fun _ k => XS.lushr X1492.here hx rfl (q.d d8_92) rfl k) (own_stp 94 (fun _ k => XS.l2i X1492.here hx rfl (q.d d8_93) rfl k) ?_)))))
 rw [own_firstz hal hok0]
 show own_Fin _ _ _ _ (T1492.setTop (mkF m 94 #[.val (.ref a1), .val (.ref b1257), .val (.ref b1475), .val v'2, .val (.ref b1257), .val v'9, .val v'4, .val (.long al), .second, .val (.int x0), .val (.int x1)] [(.int x0)]))
 refine own_is X1492 q d8_94 (l' := #[.val (.ref a1), .val (.ref b1257), .val (.ref b1475), .val v'2, .val (.ref b1257), .val v'9, .val v'4, .val (.long al), .second, .val (.int x0), .val (.int x1)]) rfl (own_ll X1492 q d8_96 rfl (own_stp 99 (fun _ k => XS.l2i X1492.here hx rfl (q.d d8_98) rfl k) ?_))
 rw [own_lastz hal hok0]
 show own_Fin _ _ _ _ (T1492.setTop (mkF m 99 #[.val (.ref a1), .val (.ref b1257), .val (.ref b1475), .val v'2, .val (.ref b1257), .val v'9, .val v'4, .val (.long al), .second, .val (.int x0), .val (.int x1)] [(.int x1)]))
 refine own_is X1492 q d8_99 (l' := #[.val (.ref a1), .val (.ref b1257), .val (.ref b1475), .val v'2, .val (.ref b1257), .val v'9, .val v'4, .val (.long al), .second, .val (.int x0), .val (.int x1)]) rfl (own_iln X1492 q d8_101 rfl (own_zn X1492 q d8_102 (((if0 _ _).trans (tlt ((by decide) : (0 : Int32) < (2 : Int32))).2.2.2)) (own_il X1492 q d8_105 rfl (own_aln X1492 q d8_107 rfl rfl (own_iln X1492 q d8_108 rfl (own_k X1492 q d8_109 (own_isubk 1 X1492 q d8_110 (by decide) (own_ild (v := (.int x1)) X1492 q hZ e1492 V1492 d8_111 (by decide) rfl (own_k X1492 q d8_112 (own_iadd X1492 q d8_113 (own_cn X1492 q d8_114 ((flt ((own_gap hok0) : ¬ ((x1 + (1 : Int32)) < x0))).2.2.1) ?_)))))))))))
 refine own_aln X1492 q d8_117 rfl rfl (own_iln X1492 q d8_118 rfl (own_k X1492 q d8_119 (own_isubk 1 X1492 q d8_120 (by decide) (own_aln X1492 q d8_121 rfl rfl (own_iln X1492 q d8_122 rfl (own_k X1492 q d8_123 (own_isubk 1 X1492 q d8_124 (by decide) (own_ild (v := (.int x1)) X1492 q hZ e1492 V1492 d8_125 (by decide) rfl (own_il X1492 q d8_126 rfl ?_)))))))))
 refine own_cS X1492 q hZ e1492 hown hml (W 59 rfl) (W 10 rfl) (W 7 rfl) (W 11 rfl) (rm3 l Z a0 hw x1 x1 x1 h1492 n0 zs1493 (own_maxS _)) d8_128 [(.int x1), (.int x1)] [v'1, (.ref b1475)] own_pd0 rfl rfl 2 (Nat.le_refl _) (by decide) (fun v1495 T1495 L1495 X1495 hQ1495 => ?_)
 obtain ⟨rfl, N1495q, e1495⟩ := hQ1495
 have N1495 := Fr.app N1492 N1495q
 refine own_nv ?_
 refine own_ist X1495 q hZ e1495 V1492 d8_131 (by decide) (Nat.le_of_ble_eq_true rfl) N1495 g_b1475 fun T1496 h1496 X1496 e1496 W1496 V1496 N1496 => ?_
 have zs1497 := Nat.le_trans zs1493 (Keep.of_wr W1496).1
 have kp1497 := kp1493.wr W1496 (Or.inr sz_b1475)
 refine own_gt X1496 q d8_132 (own_iik X1496 q d8_151 rfl (show ((4 : Int32) + (1 : Int32)) = (5 : Int32) by decide) (l' := #[.val (.ref a1), .val (.ref b1257), .val (.ref b1475), .val v'2, .val (.ref b1257), .val v'9, .val v'5, .val (.long al), .second, .val (.int x0), .val (.int x1)]) rfl (own_gt X1496 q d8_154 (own_il X1496 q d8_74 rfl (own_il X1496 q d8_76 rfl (own_cn X1496 q d8_78 ((tlt ((by decide) : (5 : Int32) < (9 : Int32))).2.1) (own_al X1496 q d8_81 rfl rfl (own_il X1496 q d8_83 rfl ?_)))))))
 obtain ⟨cl1498, Ar1498, q1498, S1498, M1498, H1498, G1498⟩ := id (((((((V1471.ext E1475).other W1478 (own_ne (V1471).lt (Nat.le_of_eq g1475.symm))).other W1480 (own_ne (V1471).lt (Nat.le_of_eq g1475.symm))).other W1484 (own_ne (V1471).lt (Nat.le_of_eq g1475.symm))).other W1488 (own_ne (V1471).lt (Nat.le_of_eq g1475.symm))).other W1492 (own_ne (V1471).lt (Nat.le_of_eq g1475.symm))).other W1496 (own_ne (V1471).lt (Nat.le_of_eq g1475.symm)))
 refine own_stp 86 (fun _ k => X1496.laload hx (j := (5 : Int32)) (v := (.long be)) (by rw [e1496]; exact Ar1498.1) (State.isArrayOf_alike hZ.alike Ar1498.2.1) Ar1498.2.2 (inb_of S1498 ⟨by decide, by decide⟩) (Has.at H1498 (inb_of S1498 ⟨by decide, by decide⟩) rfl) (g := mkF m 85 _ _) rfl rfl (q.d d8_85) _ k) (own_ls X1496 q d8_86 (l' := #[.val (.ref a1), .val (.ref b1257), .val (.ref b1475), .val v'2, .val (.ref b1257), .val v'9, .val v'5, .val (.long be), .second, .val (.int x0), .val (.int x1)]) rfl (own_ll X1496 q d8_88 rfl (own_k X1496 q d8_90 (own_stp 93 (fun _ k => XS.lushr X1496.here hx rfl (q.d d8_92) rfl k) (own_stp 94 (fun _ k => XS.l2i X1496.here hx rfl (q.d d8_93) rfl k) ?_)))))
 rw [own_firstz hbe hok0]
 show own_Fin _ _ _ _ (T1496.setTop (mkF m 94 #[.val (.ref a1), .val (.ref b1257), .val (.ref b1475), .val v'2, .val (.ref b1257), .val v'9, .val v'5, .val (.long be), .second, .val (.int x0), .val (.int x1)] [(.int x0)]))
 refine own_is X1496 q d8_94 (l' := #[.val (.ref a1), .val (.ref b1257), .val (.ref b1475), .val v'2, .val (.ref b1257), .val v'9, .val v'5, .val (.long be), .second, .val (.int x0), .val (.int x1)]) rfl (own_ll X1496 q d8_96 rfl (own_stp 99 (fun _ k => XS.l2i X1496.here hx rfl (q.d d8_98) rfl k) ?_))
 rw [own_lastz hbe hok0]
 show own_Fin _ _ _ _ (T1496.setTop (mkF m 99 #[.val (.ref a1), .val (.ref b1257), .val (.ref b1475), .val v'2, .val (.ref b1257), .val v'9, .val v'5, .val (.long be), .second, .val (.int x0), .val (.int x1)] [(.int x1)]))
 refine own_is X1496 q d8_99 (l' := #[.val (.ref a1), .val (.ref b1257), .val (.ref b1475), .val v'2, .val (.ref b1257), .val v'9, .val v'5, .val (.long be), .second, .val (.int x0), .val (.int x1)]) rfl (own_iln X1496 q d8_101 rfl (own_zn X1496 q d8_102 (((if0 _ _).trans (tlt ((by decide) : (0 : Int32) < (2 : Int32))).2.2.2)) (own_il X1496 q d8_105 rfl (own_aln X1496 q d8_107 rfl rfl (own_iln X1496 q d8_108 rfl (own_k X1496 q d8_109 (own_isubk 1 X1496 q d8_110 (by decide) (own_ild (v := (.int x1)) X1496 q hZ e1496 V1496 d8_111 (by decide) rfl (own_k X1496 q d8_112 (own_iadd X1496 q d8_113 (own_cn X1496 q d8_114 ((flt ((own_gap hok0) : ¬ ((x1 + (1 : Int32)) < x0))).2.2.1) ?_)))))))))))
 refine own_aln X1496 q d8_117 rfl rfl (own_iln X1496 q d8_118 rfl (own_k X1496 q d8_119 (own_isubk 1 X1496 q d8_120 (by decide) (own_aln X1496 q d8_121 rfl rfl (own_iln X1496 q d8_122 rfl (own_k X1496 q d8_123 (own_isubk 1 X1496 q d8_124 (by decide) (own_ild (v := (.int x1)) X1496 q hZ e1496 V1496 d8_125 (by decide) rfl (own_il X1496 q d8_126 rfl ?_)))))))))
 refine own_cS X1496 q hZ e1496 hown hml (W 59 rfl) (W 10 rfl) (W 7 rfl) (W 11 rfl) (rm3 l Z a0 hw x1 x1 x1 h1496 n0 zs1497 (own_maxS _)) d8_128 [(.int x1), (.int x1)] [v'1, (.ref b1475)] own_pd0 rfl rfl 2 (Nat.le_refl _) (by decide) (fun v1499 T1499 L1499 X1499 hQ1499 => ?_)
 obtain ⟨rfl, N1499q, e1499⟩ := hQ1499
 have N1499 := Fr.app N1496 N1499q
 refine own_nv ?_
 refine own_ist X1499 q hZ e1499 V1496 d8_131 (by decide) (Nat.le_of_ble_eq_true rfl) N1499 g_b1475 fun T1500 h1500 X1500 e1500 W1500 V1500 N1500 => ?_
 have zs1501 := Nat.le_trans zs1497 (Keep.of_wr W1500).1
 have kp1501 := kp1497.wr W1500 (Or.inr sz_b1475)
 refine own_gt X1500 q d8_132 (own_iik X1500 q d8_151 rfl (show ((5 : Int32) + (1 : Int32)) = (6 : Int32) by decide) (l' := #[.val (.ref a1), .val (.ref b1257), .val (.ref b1475), .val v'2, .val (.ref b1257), .val v'9, .val v'6, .val (.long be), .second, .val (.int x0), .val (.int x1)]) rfl (own_gt X1500 q d8_154 (own_il X1500 q d8_74 rfl (own_il X1500 q d8_76 rfl (own_cn X1500 q d8_78 ((tlt ((by decide) : (6 : Int32) < (9 : Int32))).2.1) (own_al X1500 q d8_81 rfl rfl (own_il X1500 q d8_83 rfl ?_)))))))
 obtain ⟨cl1502, Ar1502, q1502, S1502, M1502, H1502, G1502⟩ := id ((((((((V1471.ext E1475).other W1478 (own_ne (V1471).lt (Nat.le_of_eq g1475.symm))).other W1480 (own_ne (V1471).lt (Nat.le_of_eq g1475.symm))).other W1484 (own_ne (V1471).lt (Nat.le_of_eq g1475.symm))).other W1488 (own_ne (V1471).lt (Nat.le_of_eq g1475.symm))).other W1492 (own_ne (V1471).lt (Nat.le_of_eq g1475.symm))).other W1496 (own_ne (V1471).lt (Nat.le_of_eq g1475.symm))).other W1500 (own_ne (V1471).lt (Nat.le_of_eq g1475.symm)))
 refine own_stp 86 (fun _ k => X1500.laload hx (j := (6 : Int32)) (v := (.long al)) (by rw [e1500]; exact Ar1502.1) (State.isArrayOf_alike hZ.alike Ar1502.2.1) Ar1502.2.2 (inb_of S1502 ⟨by decide, by decide⟩) (Has.at H1502 (inb_of S1502 ⟨by decide, by decide⟩) rfl) (g := mkF m 85 _ _) rfl rfl (q.d d8_85) _ k) (own_ls X1500 q d8_86 (l' := #[.val (.ref a1), .val (.ref b1257), .val (.ref b1475), .val v'2, .val (.ref b1257), .val v'9, .val v'6, .val (.long al), .second, .val (.int x0), .val (.int x1)]) rfl (own_ll X1500 q d8_88 rfl (own_k X1500 q d8_90 (own_stp 93 (fun _ k => XS.lushr X1500.here hx rfl (q.d d8_92) rfl k) (own_stp 94 (fun _ k => XS.l2i X1500.here hx rfl (q.d d8_93) rfl k) ?_)))))
 rw [own_firstz hal hok0]
 show own_Fin _ _ _ _ (T1500.setTop (mkF m 94 #[.val (.ref a1), .val (.ref b1257), .val (.ref b1475), .val v'2, .val (.ref b1257), .val v'9, .val v'6, .val (.long al), .second, .val (.int x0), .val (.int x1)] [(.int x0)]))
 refine own_is X1500 q d8_94 (l' := #[.val (.ref a1), .val (.ref b1257), .val (.ref b1475), .val v'2, .val (.ref b1257), .val v'9, .val v'6, .val (.long al), .second, .val (.int x0), .val (.int x1)]) rfl (own_ll X1500 q d8_96 rfl (own_stp 99 (fun _ k => XS.l2i X1500.here hx rfl (q.d d8_98) rfl k) ?_))
 rw [own_lastz hal hok0]
 show own_Fin _ _ _ _ (T1500.setTop (mkF m 99 #[.val (.ref a1), .val (.ref b1257), .val (.ref b1475), .val v'2, .val (.ref b1257), .val v'9, .val v'6, .val (.long al), .second, .val (.int x0), .val (.int x1)] [(.int x1)]))
 refine own_is X1500 q d8_99 (l' := #[.val (.ref a1), .val (.ref b1257), .val (.ref b1475), .val v'2, .val (.ref b1257), .val v'9, .val v'6, .val (.long al), .second, .val (.int x0), .val (.int x1)]) rfl (own_iln X1500 q d8_101 rfl (own_zn X1500 q d8_102 (((if0 _ _).trans (tlt ((by decide) : (0 : Int32) < (2 : Int32))).2.2.2)) (own_il X1500 q d8_105 rfl (own_aln X1500 q d8_107 rfl rfl (own_iln X1500 q d8_108 rfl (own_k X1500 q d8_109 (own_isubk 1 X1500 q d8_110 (by decide) (own_ild (v := (.int x1)) X1500 q hZ e1500 V1500 d8_111 (by decide) rfl (own_k X1500 q d8_112 (own_iadd X1500 q d8_113 (own_cn X1500 q d8_114 ((flt ((own_gap hok0) : ¬ ((x1 + (1 : Int32)) < x0))).2.2.1) ?_)))))))))))
 refine own_aln X1500 q d8_117 rfl rfl (own_iln X1500 q d8_118 rfl (own_k X1500 q d8_119 (own_isubk 1 X1500 q d8_120 (by decide) (own_aln X1500 q d8_121 rfl rfl (own_iln X1500 q d8_122 rfl (own_k X1500 q d8_123 (own_isubk 1 X1500 q d8_124 (by decide) (own_ild (v := (.int x1)) X1500 q hZ e1500 V1500 d8_125 (by decide) rfl (own_il X1500 q d8_126 rfl ?_)))))))))
 refine own_cS X1500 q hZ e1500 hown hml (W 59 rfl) (W 10 rfl) (W 7 rfl) (W 11 rfl) (rm3 l Z a0 hw x1 x1 x1 h1500 n0 zs1501 (own_maxS _)) d8_128 [(.int x1), (.int x1)] [v'1, (.ref b1475)] own_pd0 rfl rfl 2 (Nat.le_refl _) (by decide) (fun v1503 T1503 L1503 X1503 hQ1503 => ?_)
 obtain ⟨rfl, N1503q, e1503⟩ := hQ1503
 have N1503 := Fr.app N1500 N1503q
 refine own_nv ?_
 refine own_ist X1503 q hZ e1503 V1500 d8_131 (by decide) (Nat.le_of_ble_eq_true rfl) N1503 g_b1475 fun T1504 h1504 X1504 e1504 W1504 V1504 N1504 => ?_
 have zs1505 := Nat.le_trans zs1501 (Keep.of_wr W1504).1
 have kp1505 := kp1501.wr W1504 (Or.inr sz_b1475)
 refine own_gt X1504 q d8_132 (own_iik X1504 q d8_151 rfl (show ((6 : Int32) + (1 : Int32)) = (7 : Int32) by decide) (l' := #[.val (.ref a1), .val (.ref b1257), .val (.ref b1475), .val v'2, .val (.ref b1257), .val v'9, .val v'7, .val (.long al), .second, .val (.int x0), .val (.int x1)]) rfl (own_gt X1504 q d8_154 (own_il X1504 q d8_74 rfl (own_il X1504 q d8_76 rfl (own_cn X1504 q d8_78 ((tlt ((by decide) : (7 : Int32) < (9 : Int32))).2.1) (own_al X1504 q d8_81 rfl rfl (own_il X1504 q d8_83 rfl ?_)))))))
 obtain ⟨cl1506, Ar1506, q1506, S1506, M1506, H1506, G1506⟩ := id (((((((((V1471.ext E1475).other W1478 (own_ne (V1471).lt (Nat.le_of_eq g1475.symm))).other W1480 (own_ne (V1471).lt (Nat.le_of_eq g1475.symm))).other W1484 (own_ne (V1471).lt (Nat.le_of_eq g1475.symm))).other W1488 (own_ne (V1471).lt (Nat.le_of_eq g1475.symm))).other W1492 (own_ne (V1471).lt (Nat.le_of_eq g1475.symm))).other W1496 (own_ne (V1471).lt (Nat.le_of_eq g1475.symm))).other W1500 (own_ne (V1471).lt (Nat.le_of_eq g1475.symm))).other W1504 (own_ne (V1471).lt (Nat.le_of_eq g1475.symm)))
 refine own_stp 86 (fun _ k => X1504.laload hx (j := (7 : Int32)) (v := (.long be)) (by rw [e1504]; exact Ar1506.1) (State.isArrayOf_alike hZ.alike Ar1506.2.1) Ar1506.2.2 (inb_of S1506 ⟨by decide, by decide⟩) (Has.at H1506 (inb_of S1506 ⟨by decide, by decide⟩) rfl) (g := mkF m 85 _ _) rfl rfl (q.d d8_85) _ k) (own_ls X1504 q d8_86 (l' := #[.val (.ref a1), .val (.ref b1257), .val (.ref b1475), .val v'2, .val (.ref b1257), .val v'9, .val v'7, .val (.long be), .second, .val (.int x0), .val (.int x1)]) rfl (own_ll X1504 q d8_88 rfl (own_k X1504 q d8_90 (own_stp 93 (fun _ k => XS.lushr X1504.here hx rfl (q.d d8_92) rfl k) (own_stp 94 (fun _ k => XS.l2i X1504.here hx rfl (q.d d8_93) rfl k) ?_)))))
 rw [own_firstz hbe hok0]
 show own_Fin _ _ _ _ (T1504.setTop (mkF m 94 #[.val (.ref a1), .val (.ref b1257), .val (.ref b1475), .val v'2, .val (.ref b1257), .val v'9, .val v'7, .val (.long be), .second, .val (.int x0), .val (.int x1)] [(.int x0)]))
 refine own_is X1504 q d8_94 (l' := #[.val (.ref a1), .val (.ref b1257), .val (.ref b1475), .val v'2, .val (.ref b1257), .val v'9, .val v'7, .val (.long be), .second, .val (.int x0), .val (.int x1)]) rfl (own_ll X1504 q d8_96 rfl (own_stp 99 (fun _ k => XS.l2i X1504.here hx rfl (q.d d8_98) rfl k) ?_))
 rw [own_lastz hbe hok0]
 show own_Fin _ _ _ _ (T1504.setTop (mkF m 99 #[.val (.ref a1), .val (.ref b1257), .val (.ref b1475), .val v'2, .val (.ref b1257), .val v'9, .val v'7, .val (.long be), .second, .val (.int x0), .val (.int x1)] [(.int x1)]))
 refine own_is X1504 q d8_99 (l' := #[.val (.ref a1), .val (.ref b1257), .val (.ref b1475), .val v'2, .val (.ref b1257), .val v'9, .val v'7, .val (.long be), .second, .val (.int x0), .val (.int x1)]) rfl (own_iln X1504 q d8_101 rfl (own_zn X1504 q d8_102 (((if0 _ _).trans (tlt ((by decide) : (0 : Int32) < (2 : Int32))).2.2.2)) (own_il X1504 q d8_105 rfl (own_aln X1504 q d8_107 rfl rfl (own_iln X1504 q d8_108 rfl (own_k X1504 q d8_109 (own_isubk 1 X1504 q d8_110 (by decide) (own_ild (v := (.int x1)) X1504 q hZ e1504 V1504 d8_111 (by decide) rfl (own_k X1504 q d8_112 (own_iadd X1504 q d8_113 (own_cn X1504 q d8_114 ((flt ((own_gap hok0) : ¬ ((x1 + (1 : Int32)) < x0))).2.2.1) ?_)))))))))))
 refine own_aln X1504 q d8_117 rfl rfl (own_iln X1504 q d8_118 rfl (own_k X1504 q d8_119 (own_isubk 1 X1504 q d8_120 (by decide) (own_aln X1504 q d8_121 rfl rfl (own_iln X1504 q d8_122 rfl (own_k X1504 q d8_123 (own_isubk 1 X1504 q d8_124 (by decide) (own_ild (v := (.int x1)) X1504 q hZ e1504 V1504 d8_125 (by decide) rfl (own_il X1504 q d8_126 rfl ?_)))))))))
 refine own_cS X1504 q hZ e1504 hown hml (W 59 rfl) (W 10 rfl) (W 7 rfl) (W 11 rfl) (rm3 l Z a0 hw x1 x1 x1 h1504 n0 zs1505 (own_maxS _)) d8_128 [(.int x1), (.int x1)] [v'1, (.ref b1475)] own_pd0 rfl rfl 2 (Nat.le_refl _) (by decide) (fun v1507 T1507 L1507 X1507 hQ1507 => ?_)
 obtain ⟨rfl, N1507q, e1507⟩ := hQ1507
 have N1507 := Fr.app N1504 N1507q
 refine own_nv ?_
 refine own_ist X1507 q hZ e1507 V1504 d8_131 (by decide) (Nat.le_of_ble_eq_true rfl) N1507 g_b1475 fun T1508 h1508 X1508 e1508 W1508 V1508 N1508 => ?_
 have zs1509 := Nat.le_trans zs1505 (Keep.of_wr W1508).1
 have kp1509 := kp1505.wr W1508 (Or.inr sz_b1475)
 refine own_gt X1508 q d8_132 (own_iik X1508 q d8_151 rfl (show ((7 : Int32) + (1 : Int32)) = (8 : Int32) by decide) (l' := #[.val (.ref a1), .val (.ref b1257), .val (.ref b1475), .val v'2, .val (.ref b1257), .val v'9, .val v'8, .val (.long be), .second, .val (.int x0), .val (.int x1)]) rfl (own_gt X1508 q d8_154 (own_il X1508 q d8_74 rfl (own_il X1508 q d8_76 rfl (own_cn X1508 q d8_78 ((tlt ((by decide) : (8 : Int32) < (9 : Int32))).2.1) (own_al X1508 q d8_81 rfl rfl (own_il X1508 q d8_83 rfl ?_)))))))
 obtain ⟨cl1510, Ar1510, q1510, S1510, M1510, H1510, G1510⟩ := id ((((((((((V1471.ext E1475).other W1478 (own_ne (V1471).lt (Nat.le_of_eq g1475.symm))).other W1480 (own_ne (V1471).lt (Nat.le_of_eq g1475.symm))).other W1484 (own_ne (V1471).lt (Nat.le_of_eq g1475.symm))).other W1488 (own_ne (V1471).lt (Nat.le_of_eq g1475.symm))).other W1492 (own_ne (V1471).lt (Nat.le_of_eq g1475.symm))).other W1496 (own_ne (V1471).lt (Nat.le_of_eq g1475.symm))).other W1500 (own_ne (V1471).lt (Nat.le_of_eq g1475.symm))).other W1504 (own_ne (V1471).lt (Nat.le_of_eq g1475.symm))).other W1508 (own_ne (V1471).lt (Nat.le_of_eq g1475.symm)))
 refine own_stp 86 (fun _ k => X1508.laload hx (j := (8 : Int32)) (v := (.long al)) (by rw [e1508]; exact Ar1510.1) (State.isArrayOf_alike hZ.alike Ar1510.2.1) Ar1510.2.2 (inb_of S1510 ⟨by decide, by decide⟩) (Has.at H1510 (inb_of S1510 ⟨by decide, by decide⟩) rfl) (g := mkF m 85 _ _) rfl rfl (q.d d8_85) _ k) (own_ls X1508 q d8_86 (l' := #[.val (.ref a1), .val (.ref b1257), .val (.ref b1475), .val v'2, .val (.ref b1257), .val v'9, .val v'8, .val (.long al), .second, .val (.int x0), .val (.int x1)]) rfl (own_ll X1508 q d8_88 rfl (own_k X1508 q d8_90 (own_stp 93 (fun _ k => XS.lushr X1508.here hx rfl (q.d d8_92) rfl k) (own_stp 94 (fun _ k => XS.l2i X1508.here hx rfl (q.d d8_93) rfl k) ?_)))))
 rw [own_firstz hal hok0]
 show own_Fin _ _ _ _ (T1508.setTop (mkF m 94 #[.val (.ref a1), .val (.ref b1257), .val (.ref b1475), .val v'2, .val (.ref b1257), .val v'9, .val v'8, .val (.long al), .second, .val (.int x0), .val (.int x1)] [(.int x0)]))
 refine own_is X1508 q d8_94 (l' := #[.val (.ref a1), .val (.ref b1257), .val (.ref b1475), .val v'2, .val (.ref b1257), .val v'9, .val v'8, .val (.long al), .second, .val (.int x0), .val (.int x1)]) rfl (own_ll X1508 q d8_96 rfl (own_stp 99 (fun _ k => XS.l2i X1508.here hx rfl (q.d d8_98) rfl k) ?_))
 rw [own_lastz hal hok0]
 show own_Fin _ _ _ _ (T1508.setTop (mkF m 99 #[.val (.ref a1), .val (.ref b1257), .val (.ref b1475), .val v'2, .val (.ref b1257), .val v'9, .val v'8, .val (.long al), .second, .val (.int x0), .val (.int x1)] [(.int x1)]))
 refine own_is X1508 q d8_99 (l' := #[.val (.ref a1), .val (.ref b1257), .val (.ref b1475), .val v'2, .val (.ref b1257), .val v'9, .val v'8, .val (.long al), .second, .val (.int x0), .val (.int x1)]) rfl (own_iln X1508 q d8_101 rfl (own_zn X1508 q d8_102 (((if0 _ _).trans (tlt ((by decide) : (0 : Int32) < (2 : Int32))).2.2.2)) (own_il X1508 q d8_105 rfl (own_aln X1508 q d8_107 rfl rfl (own_iln X1508 q d8_108 rfl (own_k X1508 q d8_109 (own_isubk 1 X1508 q d8_110 (by decide) (own_ild (v := (.int x1)) X1508 q hZ e1508 V1508 d8_111 (by decide) rfl (own_k X1508 q d8_112 (own_iadd X1508 q d8_113 (own_cn X1508 q d8_114 ((flt ((own_gap hok0) : ¬ ((x1 + (1 : Int32)) < x0))).2.2.1) ?_)))))))))))
 refine own_aln X1508 q d8_117 rfl rfl (own_iln X1508 q d8_118 rfl (own_k X1508 q d8_119 (own_isubk 1 X1508 q d8_120 (by decide) (own_aln X1508 q d8_121 rfl rfl (own_iln X1508 q d8_122 rfl (own_k X1508 q d8_123 (own_isubk 1 X1508 q d8_124 (by decide) (own_ild (v := (.int x1)) X1508 q hZ e1508 V1508 d8_125 (by decide) rfl (own_il X1508 q d8_126 rfl ?_)))))))))
 refine own_cS X1508 q hZ e1508 hown hml (W 59 rfl) (W 10 rfl) (W 7 rfl) (W 11 rfl) (rm3 l Z a0 hw x1 x1 x1 h1508 n0 zs1509 (own_maxS _)) d8_128 [(.int x1), (.int x1)] [v'1, (.ref b1475)] own_pd0 rfl rfl 2 (Nat.le_refl _) (by decide) (fun v1511 T1511 L1511 X1511 hQ1511 => ?_)
 obtain ⟨rfl, N1511q, e1511⟩ := hQ1511
 have N1511 := Fr.app N1508 N1511q
 refine own_nv ?_
 refine own_ist X1511 q hZ e1511 V1508 d8_131 (by decide) (Nat.le_of_ble_eq_true rfl) N1511 g_b1475 fun T1512 h1512 X1512 e1512 W1512 V1512 N1512 => ?_
 have zs1513 := Nat.le_trans zs1509 (Keep.of_wr W1512).1
 have kp1513 := kp1509.wr W1512 (Or.inr sz_b1475)
 refine own_gt X1512 q d8_132 (own_iik X1512 q d8_151 rfl (show ((8 : Int32) + (1 : Int32)) = (9 : Int32) by decide) (l' := #[.val (.ref a1), .val (.ref b1257), .val (.ref b1475), .val v'2, .val (.ref b1257), .val v'9, .val v'9, .val (.long al), .second, .val (.int x0), .val (.int x1)]) rfl (own_gt X1512 q d8_154 (own_il X1512 q d8_74 rfl (own_il X1512 q d8_76 rfl (own_cy X1512 q d8_78 ((flt (Int32.lt_irrefl : ¬ ((9 : Int32) < (9 : Int32)))).2.1) ?_)))))
 refine own_let ?_; intro g1514_
 obtain ⟨T1515, h1515, X1515, e1515, E1515, A1515, D1515, -, st1515⟩ := newO X1512 hx hZ hown (W 60 rfl) (W 61 rfl) (W 62 rfl) e1512 (g := g1514_) rfl (q.d d8_157) (by decide) (by decide)
 obtain ⟨b1515, g1515⟩ : ∃ z, z = h1512.size := ⟨_, rfl⟩
 rw [← g1515] at A1515 D1515 st1515
 have zs1516 := Nat.le_trans zs1513 E1515.1
 have kp1516 := kp1513.ext E1515
 have g_b1515 : n0 ≤ b1515 := Nat.le_trans zs1513 (Nat.le_of_eq g1515.symm)
 have sz_b1515 : h0.size ≤ b1515 := Nat.le_trans kp1513.1 (Nat.le_of_eq g1515.symm)
 have F1515_ascii : F'2 Z h1515 b1515 .null := D1515 (Or.inr (W 68 rfl)) (ty := (.array .long)) (by decide)
 have F1515_ranges : F'3 Z h1515 b1515 .null := D1515 (Or.inr (W 70 rfl)) (ty := (.array .int)) (by decide)
 refine own_stq 160 [(.ref b1515)] st1515 (own_dp X1515 q d8_160 rfl (own_aln X1515 q d8_161 rfl rfl (own_iln X1515 q d8_162 rfl ?_)))
 refine own_cSh X1515 q hZ e1515 hown hml (W 31 rfl) (W 32 rfl) (W 33 rfl) (W 34 rfl) (rm7_b l Z a0 hw b1475 k1475 x0 x1 h1515 n0 zs1516 (V1512.ext E1515)) d8_163 [(.ref b1475), v'2] [(.ref b1515), (.ref b1515)] own_pd1 rfl rfl 2 (Nat.le_refl _) (by decide) (fun v1517 T1517 L1517 h1517 e1517' X1517 hQ1517 => ?_)
 obtain ⟨b1517, k1517, rfl, N1517q, E1517, lo1517, V1517⟩ := hQ1517
 have N1517 := Fr.app N1512 N1517q
 have zs1518 := Nat.le_trans zs1516 E1517.1
 have kp1518 := kp1516.ext E1517
 have g_b1517 : n0 ≤ b1517 := Nat.le_trans zs1516 lo1517
 have sz_b1517 : h0.size ≤ b1517 := Nat.le_trans kp1516.1 lo1517
 refine own_nv ?_
 refine own_let ?_; intro g1520_
 obtain ⟨_, _, ⟨T1519, L1519, k1519, n1519⟩, -, X1519, ⟨Lc1519, hQ1519, l1519, y1519, z1519⟩, st1519⟩ := X1517.specialBackNest hx (y := own_y10) rfl hown (Cond.methodLinkNest_wide hZ (W 63 rfl) :) (mvT hZ (W 64 rfl)) (mvT hZ (W 65 rfl)) (by decide) (backOf (W := 1) (rm13_2 l Z a0 hw b1515 b1517 k1517 x0 x1 h1517 n0 zs1518 (A1515.ext E1517) (F1515_ranges.ext E1517) (F1515_ascii.ext E1517) V1517 g_b1515 (own_ne (A1515).lt lo1517) hok0) hZ (W 65 rfl) (W 62 rfl) (by decide) (by decide)) (g := g1520_) rfl (by rw [hml]; rfl) (Steps.refl _) (a := b1515) (argsL := [(.ref b1517)]) (rest := [(.ref b1515)]) (lenOf own_pd8 rfl) rfl (by show 2 * 0 + _ ≤ _; exact Nat.le_of_eq rfl) (q.d d8_166) (fun _ _ => ⟨rfl, e1517', (by decide : 4 + 1 ≤ _), (by decide : 31 + 2 ≤ _)⟩)
 dsimp only [Pt.U, Pt.locs, Pt.cells, Pt.slots] at X1519 l1519 y1519 z1519 st1519 hQ1519
 rw [l1519, y1519, z1519] at X1519
 clear l1519 y1519 z1519
 obtain ⟨b1519, k1519, wa1519, wb1519, rfl, N1519q, K1519, lo1519, Fa1519, Fb1519, V1519, bt1519⟩ := hQ1519
 have N1519 := Fr.app N1517 N1519q
 obtain ⟨h1519, e1519⟩ : ∃ z, z = T1519.heap := ⟨_, rfl⟩
 have e1519' := e1519.symm
 rw [← e1519] at K1519 Fa1519 Fb1519 V1519
 have zs1521 := Nat.le_trans zs1518 K1519.1
 have kp1521 := kp1518.trans K1519 (allS (Or.inr sz_b1515) all0)
 have g_b1519 : n0 ≤ b1519 := Nat.le_trans zs1518 lo1519
 have sz_b1519 : h0.size ≤ b1519 := Nat.le_trans kp1518.1 lo1519
 refine own_stp 169 (fun _ k => st1519.trans k) (own_nn ?_)
 refine own_rA X1519 q hrt d8_169 hlk (by decide) ?_
 show QBD Z x0 x1 x0 x1 h0 n0 _ T1519.heap _
 rw [e1519']
 exact ⟨_, _, _, _, _, _, _, rfl, N1519, own_extK kp1521, ((A1515.ext E1517).keep K1519), Fa1519, Fb1519, V1519, Or.inl ⟨_, _, (V1517.keep K1519 (ninS (Ne.symm (own_ne (A1515).lt lo1517)) nin0)), own_two3 hok0 bt1519⟩⟩
theorem d0_0 : own_D code 0 (.iload_n 0) 1 1 := by decide +kernel
theorem d0_1 : own_D code 1 (.invokestatic 8) 3 4 := by decide +kernel
theorem d0_4 : own_D code 4 (.istore 5) 2 6 := by decide +kernel
theorem d0_6 : own_D code 6 (.iload_n 1) 1 7 := by decide +kernel
theorem d0_7 : own_D code 7 (.invokestatic 8) 3 10 := by decide +kernel
theorem d0_10 : own_D code 10 (.istore 6) 2 12 := by decide +kernel
theorem d0_12 : own_D code 12 (.iload 5) 2 14 := by decide +kernel
theorem d0_14 : own_D code 14 (.iload 6) 2 16 := by decide +kernel
theorem d0_16 : own_D code 16 (.invokestatic 14) 3 19 := by decide +kernel
theorem d0_19 : own_D code 19 (.istore 7) 2 21 := by decide +kernel
theorem d0_21 : own_D code 21 (.iload 5) 2 23 := by decide +kernel
theorem d0_23 : own_D code 23 (.iload 6) 2 25 := by decide +kernel
theorem d0_25 : own_D code 25 (.invokestatic 20) 3 28 := by decide +kernel
theorem d0_28 : own_D code 28 (.istore 8) 2 30 := by decide +kernel
theorem d0_30 : own_D code 30 (.iload_n 2) 1 31 := by decide +kernel
theorem d0_31 : own_D code 31 (.invokestatic 8) 3 34 := by decide +kernel
theorem d0_34 : own_D code 34 (.istore 9) 2 36 := by decide +kernel
theorem d0_36 : own_D code 36 (.iload_n 3) 1 37 := by decide +kernel
theorem d0_37 : own_D code 37 (.invokestatic 8) 3 40 := by decide +kernel
theorem d0_40 : own_D code 40 (.istore 10) 2 42 := by decide +kernel
theorem d0_42 : own_D code 42 (.iload 9) 2 44 := by decide +kernel
theorem d0_44 : own_D code 44 (.iload 10) 2 46 := by decide +kernel
theorem d0_46 : own_D code 46 (.invokestatic 14) 3 49 := by decide +kernel
theorem d0_49 : own_D code 49 (.istore 11) 2 51 := by decide +kernel
theorem d0_51 : own_D code 51 (.iload 9) 2 53 := by decide +kernel
theorem d0_53 : own_D code 53 (.iload 10) 2 55 := by decide +kernel
theorem d0_55 : own_D code 55 (.invokestatic 20) 3 58 := by decide +kernel
theorem d0_58 : own_D code 58 (.istore 12) 2 60 := by decide +kernel
theorem d0_60 : own_D code 60 (.new 23) 3 63 := by decide +kernel
theorem d0_63 : own_D code 63 .dup 1 64 := by decide +kernel
theorem d0_64 : own_D code 64 (.invokespecial 25) 3 67 := by decide +kernel
theorem d0_67 : own_D code 67 (.astore 13) 2 69 := by decide +kernel
theorem d0_69 : own_D code 69 (.aload 13) 2 71 := by decide +kernel
theorem d0_71 : own_D code 71 (.iload 7) 2 73 := by decide +kernel
theorem d0_73 : own_D code 73 (.iload 8) 2 75 := by decide +kernel
theorem d0_75 : own_D code 75 (.invokevirtual 26) 3 78 := by decide +kernel
theorem d0_78 : own_D code 78 (.astore 14) 2 80 := by decide +kernel
theorem d0_80 : own_D code 80 (.aload 13) 2 82 := by decide +kernel
theorem d0_82 : own_D code 82 (.iload 11) 2 84 := by decide +kernel
theorem d0_84 : own_D code 84 (.iload 12) 2 86 := by decide +kernel
theorem d0_86 : own_D code 86 (.invokevirtual 26) 3 89 := by decide +kernel
theorem d0_89 : own_D code 89 .pop 1 90 := by decide +kernel
theorem d0_90 : own_D code 90 (.aload 13) 2 92 := by decide +kernel
theorem d0_92 : own_D code 92 (.iload 7) 2 94 := by decide +kernel
theorem d0_94 : own_D code 94 (.iload 8) 2 96 := by decide +kernel
theorem d0_96 : own_D code 96 (.invokevirtual 26) 3 99 := by decide +kernel
theorem d0_99 : own_D code 99 .pop 1 100 := by decide +kernel
theorem d0_100 : own_D code 100 (.aload 13) 2 102 := by decide +kernel
theorem d0_102 : own_D code 102 (.iload 11) 2 104 := by decide +kernel
theorem d0_104 : own_D code 104 (.iload 12) 2 106 := by decide +kernel
theorem d0_106 : own_D code 106 (.invokevirtual 26) 3 109 := by decide +kernel
theorem d0_109 : own_D code 109 .pop 1 110 := by decide +kernel
theorem d0_110 : own_D code 110 (.aload 13) 2 112 := by decide +kernel
theorem d0_112 : own_D code 112 (.iload 7) 2 114 := by decide +kernel
theorem d0_114 : own_D code 114 (.iload 8) 2 116 := by decide +kernel
theorem d0_116 : own_D code 116 (.invokevirtual 26) 3 119 := by decide +kernel
theorem d0_119 : own_D code 119 .pop 1 120 := by decide +kernel
theorem d0_120 : own_D code 120 (.aload 13) 2 122 := by decide +kernel
theorem d0_122 : own_D code 122 (.iload 11) 2 124 := by decide +kernel
theorem d0_124 : own_D code 124 (.iload 12) 2 126 := by decide +kernel
theorem d0_126 : own_D code 126 (.invokevirtual 26) 3 129 := by decide +kernel
theorem d0_129 : own_D code 129 .pop 1 130 := by decide +kernel
theorem d0_130 : own_D code 130 (.aload 13) 2 132 := by decide +kernel
theorem d0_132 : own_D code 132 (.iload 7) 2 134 := by decide +kernel
theorem d0_134 : own_D code 134 (.iload 8) 2 136 := by decide +kernel
theorem d0_136 : own_D code 136 (.invokevirtual 26) 3 139 := by decide +kernel
theorem d0_139 : own_D code 139 .pop 1 140 := by decide +kernel
theorem d0_140 : own_D code 140 (.aload 13) 2 142 := by decide +kernel
theorem d0_142 : own_D code 142 (.iload 11) 2 144 := by decide +kernel
theorem d0_144 : own_D code 144 (.iload 12) 2 146 := by decide +kernel
theorem d0_146 : own_D code 146 (.invokevirtual 26) 3 149 := by decide +kernel
theorem d0_149 : own_D code 149 .pop 1 150 := by decide +kernel
theorem d0_150 : own_D code 150 (.aload 13) 2 152 := by decide +kernel
theorem d0_152 : own_D code 152 (.iload 7) 2 154 := by decide +kernel
theorem d0_154 : own_D code 154 (.iload 8) 2 156 := by decide +kernel
theorem d0_156 : own_D code 156 (.invokevirtual 26) 3 159 := by decide +kernel
theorem d0_159 : own_D code 159 (.astore 15) 2 161 := by decide +kernel
theorem d0_161 : own_D code 161 (.aload 13) 2 163 := by decide +kernel
theorem d0_163 : own_D code 163 (.invokevirtual 30) 3 166 := by decide +kernel
theorem d0_166 : own_D code 166 (.astore 16) 2 168 := by decide +kernel
theorem d0_168 : own_D code 168 (.iload 7) 2 170 := by decide +kernel
theorem d0_170 : own_D code 170 (.iload 4) 2 172 := by decide +kernel
theorem d0_172 : own_DJ code 172 .gt 186 175 := by decide +kernel
theorem d0_175 : own_D code 175 (.iload 4) 2 177 := by decide +kernel
theorem d0_177 : own_D code 177 (.iload 8) 2 179 := by decide +kernel
theorem d0_179 : own_DJ code 179 .gt 186 182 := by decide +kernel
theorem d0_182 : own_DK code 182 1 183 := by decide +kernel
theorem d0_183 : own_DG code 183 187 := by decide +kernel
theorem d0_186 : own_DK code 186 0 187 := by decide +kernel
theorem d0_187 : own_D code 187 (.istore 17) 2 189 := by decide +kernel
theorem d0_189 : own_D code 189 (.iload 11) 2 191 := by decide +kernel
theorem d0_191 : own_D code 191 (.iload 4) 2 193 := by decide +kernel
theorem d0_193 : own_DJ code 193 .gt 207 196 := by decide +kernel
theorem d0_196 : own_D code 196 (.iload 4) 2 198 := by decide +kernel
theorem d0_198 : own_D code 198 (.iload 12) 2 200 := by decide +kernel
theorem d0_200 : own_DJ code 200 .gt 207 203 := by decide +kernel
theorem d0_203 : own_DK code 203 1 204 := by decide +kernel
theorem d0_204 : own_DG code 204 208 := by decide +kernel
theorem d0_207 : own_DK code 207 0 208 := by decide +kernel
theorem d0_208 : own_D code 208 (.istore 18) 2 210 := by decide +kernel
theorem d0_210 : own_D code 210 (.iload 7) 2 212 := by decide +kernel
theorem d0_212 : own_D code 212 (.iload 11) 2 214 := by decide +kernel
theorem d0_214 : own_D code 214 (.invokestatic 20) 3 217 := by decide +kernel
theorem d0_217 : own_D code 217 (.iload 8) 2 219 := by decide +kernel
theorem d0_219 : own_D code 219 (.iload 12) 2 221 := by decide +kernel
theorem d0_221 : own_D code 221 (.invokestatic 14) 3 224 := by decide +kernel
theorem d0_224 : own_DK code 224 1 225 := by decide +kernel
theorem d0_225 : own_D code 225 .iadd 1 226 := by decide +kernel
theorem d0_226 : own_DJ code 226 .gt 233 229 := by decide +kernel
theorem d0_229 : own_DK code 229 1 230 := by decide +kernel
theorem d0_230 : own_DG code 230 234 := by decide +kernel
theorem d0_233 : own_DK code 233 0 234 := by decide +kernel
theorem d0_234 : own_D code 234 (.istore 19) 2 236 := by decide +kernel
theorem d0_236 : own_D code 236 (.iload 19) 2 238 := by decide +kernel
theorem d0_238 : own_DZ code 238 .eq 245 241 := by decide +kernel
theorem d0_241 : own_DK code 241 1 242 := by decide +kernel
theorem d0_242 : own_DG code 242 246 := by decide +kernel
theorem d0_245 : own_DK code 245 2 246 := by decide +kernel
theorem d0_246 : own_D code 246 (.istore 20) 2 248 := by decide +kernel
theorem d0_248 : own_D code 248 (.aload 14) 2 250 := by decide +kernel
theorem d0_250 : own_D code 250 (.aload 13) 2 252 := by decide +kernel
theorem d0_252 : own_D code 252 (.if_acmp .ne 49) 3 255 := by decide +kernel
theorem d0_255 : own_D code 255 (.aload 15) 2 257 := by decide +kernel
theorem d0_257 : own_D code 257 (.aload 13) 2 259 := by decide +kernel
theorem d0_259 : own_D code 259 (.if_acmp .ne 42) 3 262 := by decide +kernel
theorem d0_262 : own_D code 262 (.aload 16) 2 264 := by decide +kernel
theorem d0_264 : own_D code 264 (.iload 4) 2 266 := by decide +kernel
theorem d0_266 : own_D code 266 (.invokevirtual 34) 3 269 := by decide +kernel
theorem d0_269 : own_D code 269 (.iload 17) 2 271 := by decide +kernel
theorem d0_271 : own_DZ code 271 .ne 279 274 := by decide +kernel
theorem d0_274 : own_D code 274 (.iload 18) 2 276 := by decide +kernel
theorem d0_276 : own_DZ code 276 .eq 283 279 := by decide +kernel
theorem d0_279 : own_DK code 279 1 280 := by decide +kernel
theorem d0_280 : own_DG code 280 284 := by decide +kernel
theorem d0_283 : own_DK code 283 0 284 := by decide +kernel
theorem d0_284 : own_DJ code 284 .ne 301 287 := by decide +kernel
theorem d0_287 : own_D code 287 (.aload 16) 2 289 := by decide +kernel
theorem d0_289 : own_D code 289 (.invokevirtual 40) 3 292 := by decide +kernel
theorem d0_292 : own_D code 292 (.iload 20) 2 294 := by decide +kernel
theorem d0_294 : own_DJ code 294 .ne 301 297 := by decide +kernel
theorem d0_297 : own_DK code 297 1 298 := by decide +kernel
theorem d0_298 : own_DG code 298 302 := by decide +kernel
theorem d0_301 : own_DK code 301 0 302 := by decide +kernel
theorem d0_302 : own_D code 302 .ireturn 1 303 := by decide +kernel
theorem pn_0 : plainFor (⟨"com/example/austere_json/austerejson/BuilderAddPinLaw", "law", "(IIIII)Z"⟩ : MethodName) = true := plainFor_of_name (by first | (simp [plainName, overriddenIn]; done) | decide +kernel)
theorem rm0 (l : Launch) (Z : State) (a0 : Array Value) (hw : own_hw a0 Z) (ws : List Jvm.Cond) (p1 : Int32) (p2 : Int32) (p3 : Int32) (p4 : Int32) (p5 : Int32)  (h0 : Heap) (n0 : Nat) (Z0 : n0 ≤ h0.size) :
  own_M l Z ws x code maxLocals ret room_1 #[(.int p1), (.int p2), (.int p3), (.int p4), (.int p5)] h0 (Q0 n0) := by
 refine own_start (n0 := n0) hw "com/example/austere_json/austerejson/BuilderAddPinLaw" (L := #[.val (.int p1), .val (.int p2), .val (.int p3), .val (.int p4), .val (.int p5), .unset, .unset, .unset, .unset, .unset, .unset, .unset, .unset, .unset, .unset, .unset, .unset, .unset, .unset, .unset, .unset]) pn_0 (fun {p e s m below meth c s₁} q hx W hml hZ hown hnm hlk hrt X0 e0 N0 => ?_) rfl (fun m => by first | (simp [entryFrame, mkF, argsToLocals, Value.category, maxLocals]; done) | rfl)
 have hby := q.2
 have hml : c.maxLocals = 21 := hml
 refine own_iln X0 q d0_0 rfl ?_
 obtain ⟨z1705, hz1705⟩ : ∃ z, own_cp p1 = z := ⟨_, rfl⟩
 refine own_cS X0 q hZ e0 hown hml (W 0 rfl) (W 1 rfl) (W 2 rfl) (W 3 rfl) (rm1 l Z a0 hw p1 z1705 h0 n0 Z0 hz1705) d0_1 [(.int p1)] [] own_pd9 rfl rfl 0 (Nat.le_refl _) (by decide) (fun v1706 T1706 L1706 X1706 hQ1706 => ?_)
 obtain ⟨rfl, N1706q, e1706⟩ := hQ1706
 have N1706 := Fr.app N0 N1706q
 refine own_nv (own_is X1706 q d0_4 (l' := #[.val (.int p1), .val (.int p2), .val (.int p3), .val (.int p4), .val (.int p5), .val (.int z1705), .unset, .unset, .unset, .unset, .unset, .unset, .unset, .unset, .unset, .unset, .unset, .unset, .unset, .unset, .unset]) rfl (own_iln X1706 q d0_6 rfl ?_))
 obtain ⟨z1707, hz1707⟩ : ∃ z, own_cp p2 = z := ⟨_, rfl⟩
 refine own_cS X1706 q hZ e1706 hown hml (W 0 rfl) (W 1 rfl) (W 2 rfl) (W 3 rfl) (rm1 l Z a0 hw p2 z1707 h0 n0 Z0 hz1707) d0_7 [(.int p2)] [] own_pd9 rfl rfl 0 (Nat.le_refl _) (by decide) (fun v1708 T1708 L1708 X1708 hQ1708 => ?_)
 obtain ⟨rfl, N1708q, e1708⟩ := hQ1708
 have N1708 := Fr.app N1706 N1708q
 refine own_nv (own_is X1708 q d0_10 (l' := #[.val (.int p1), .val (.int p2), .val (.int p3), .val (.int p4), .val (.int p5), .val (.int z1705), .val (.int z1707), .unset, .unset, .unset, .unset, .unset, .unset, .unset, .unset, .unset, .unset, .unset, .unset, .unset, .unset]) rfl (own_il X1708 q d0_12 rfl (own_il X1708 q d0_14 rfl ?_)))
 obtain ⟨z1709, hz1709⟩ : ∃ z, own_min z1705 z1707 = z := ⟨_, rfl⟩
 refine own_cS X1708 q hZ e1708 hown hml (W 5 rfl) (W 6 rfl) (W 7 rfl) (W 8 rfl) (rm2 l Z a0 hw z1705 z1707 z1709 h0 n0 Z0 hz1709) d0_16 [(.int z1705), (.int z1707)] [] own_pd0 rfl rfl 0 (Nat.le_refl _) (by decide) (fun v1710 T1710 L1710 X1710 hQ1710 => ?_)
 obtain ⟨rfl, N1710q, e1710⟩ := hQ1710
 have N1710 := Fr.app N1708 N1710q
 refine own_nv (own_is X1710 q d0_19 (l' := #[.val (.int p1), .val (.int p2), .val (.int p3), .val (.int p4), .val (.int p5), .val (.int z1705), .val (.int z1707), .val (.int z1709), .unset, .unset, .unset, .unset, .unset, .unset, .unset, .unset, .unset, .unset, .unset, .unset, .unset]) rfl (own_il X1710 q d0_21 rfl (own_il X1710 q d0_23 rfl ?_)))
 obtain ⟨z1711, hz1711⟩ : ∃ z, own_max z1705 z1707 = z := ⟨_, rfl⟩
 refine own_cS X1710 q hZ e1710 hown hml (W 9 rfl) (W 10 rfl) (W 7 rfl) (W 11 rfl) (rm3 l Z a0 hw z1705 z1707 z1711 h0 n0 Z0 hz1711) d0_25 [(.int z1705), (.int z1707)] [] own_pd0 rfl rfl 0 (Nat.le_refl _) (by decide) (fun v1712 T1712 L1712 X1712 hQ1712 => ?_)
 obtain ⟨rfl, N1712q, e1712⟩ := hQ1712
 have N1712 := Fr.app N1710 N1712q
 refine own_nv (own_is X1712 q d0_28 (l' := #[.val (.int p1), .val (.int p2), .val (.int p3), .val (.int p4), .val (.int p5), .val (.int z1705), .val (.int z1707), .val (.int z1709), .val (.int z1711), .unset, .unset, .unset, .unset, .unset, .unset, .unset, .unset, .unset, .unset, .unset, .unset]) rfl (own_iln X1712 q d0_30 rfl ?_))
 obtain ⟨z1713, hz1713⟩ : ∃ z, own_cp p3 = z := ⟨_, rfl⟩
 refine own_cS X1712 q hZ e1712 hown hml (W 0 rfl) (W 1 rfl) (W 2 rfl) (W 3 rfl) (rm1 l Z a0 hw p3 z1713 h0 n0 Z0 hz1713) d0_31 [(.int p3)] [] own_pd9 rfl rfl 0 (Nat.le_refl _) (by decide) (fun v1714 T1714 L1714 X1714 hQ1714 => ?_)
 obtain ⟨rfl, N1714q, e1714⟩ := hQ1714
 have N1714 := Fr.app N1712 N1714q
 refine own_nv (own_is X1714 q d0_34 (l' := #[.val (.int p1), .val (.int p2), .val (.int p3), .val (.int p4), .val (.int p5), .val (.int z1705), .val (.int z1707), .val (.int z1709), .val (.int z1711), .val (.int z1713), .unset, .unset, .unset, .unset, .unset, .unset, .unset, .unset, .unset, .unset, .unset]) rfl (own_iln X1714 q d0_36 rfl ?_))
 obtain ⟨z1715, hz1715⟩ : ∃ z, own_cp p4 = z := ⟨_, rfl⟩
 refine own_cS X1714 q hZ e1714 hown hml (W 0 rfl) (W 1 rfl) (W 2 rfl) (W 3 rfl) (rm1 l Z a0 hw p4 z1715 h0 n0 Z0 hz1715) d0_37 [(.int p4)] [] own_pd9 rfl rfl 0 (Nat.le_refl _) (by decide) (fun v1716 T1716 L1716 X1716 hQ1716 => ?_)
 obtain ⟨rfl, N1716q, e1716⟩ := hQ1716
 have N1716 := Fr.app N1714 N1716q
 refine own_nv (own_is X1716 q d0_40 (l' := #[.val (.int p1), .val (.int p2), .val (.int p3), .val (.int p4), .val (.int p5), .val (.int z1705), .val (.int z1707), .val (.int z1709), .val (.int z1711), .val (.int z1713), .val (.int z1715), .unset, .unset, .unset, .unset, .unset, .unset, .unset, .unset, .unset, .unset]) rfl (own_il X1716 q d0_42 rfl (own_il X1716 q d0_44 rfl ?_)))
 obtain ⟨z1717, hz1717⟩ : ∃ z, own_min z1713 z1715 = z := ⟨_, rfl⟩
 refine own_cS X1716 q hZ e1716 hown hml (W 5 rfl) (W 6 rfl) (W 7 rfl) (W 8 rfl) (rm2 l Z a0 hw z1713 z1715 z1717 h0 n0 Z0 hz1717) d0_46 [(.int z1713), (.int z1715)] [] own_pd0 rfl rfl 0 (Nat.le_refl _) (by decide) (fun v1718 T1718 L1718 X1718 hQ1718 => ?_)
 obtain ⟨rfl, N1718q, e1718⟩ := hQ1718
 have N1718 := Fr.app N1716 N1718q
 refine own_nv (own_is X1718 q d0_49 (l' := #[.val (.int p1), .val (.int p2), .val (.int p3), .val (.int p4), .val (.int p5), .val (.int z1705), .val (.int z1707), .val (.int z1709), .val (.int z1711), .val (.int z1713), .val (.int z1715), .val (.int z1717), .unset, .unset, .unset, .unset, .unset, .unset, .unset, .unset, .unset]) rfl (own_il X1718 q d0_51 rfl (own_il X1718 q d0_53 rfl ?_)))
 obtain ⟨z1719, hz1719⟩ : ∃ z, own_max z1713 z1715 = z := ⟨_, rfl⟩
 refine own_cS X1718 q hZ e1718 hown hml (W 9 rfl) (W 10 rfl) (W 7 rfl) (W 11 rfl) (rm3 l Z a0 hw z1713 z1715 z1719 h0 n0 Z0 hz1719) d0_55 [(.int z1713), (.int z1715)] [] own_pd0 rfl rfl 0 (Nat.le_refl _) (by decide) (fun v1720 T1720 L1720 X1720 hQ1720 => ?_)
 obtain ⟨rfl, N1720q, e1720⟩ := hQ1720
 have N1720 := Fr.app N1718 N1720q
 refine own_nv (own_is X1720 q d0_58 (l' := #[.val (.int p1), .val (.int p2), .val (.int p3), .val (.int p4), .val (.int p5), .val (.int z1705), .val (.int z1707), .val (.int z1709), .val (.int z1711), .val (.int z1713), .val (.int z1715), .val (.int z1717), .val (.int z1719), .unset, .unset, .unset, .unset, .unset, .unset, .unset, .unset]) rfl ?_)
 have hokA := own_okA hz1705 hz1707 hz1709 hz1711
 have hokB := own_okA hz1713 hz1715 hz1717 hz1719
 refine own_let ?_; intro g1721_
 obtain ⟨T1722, h1722, X1722, e1722, E1722, A1722, D1722, -, st1722⟩ := newO X1720 hx hZ hown (W 12 rfl) (W 13 rfl) (W 14 rfl) e1720 (g := g1721_) rfl (q.d d0_60) (by decide) (by decide)
 obtain ⟨b1722, g1722⟩ : ∃ z, z = h0.size := ⟨_, rfl⟩
 rw [← g1722] at A1722 D1722 st1722
 have zs1723 := Nat.le_trans Z0 E1722.1
 have g_b1722 : n0 ≤ b1722 := Nat.le_trans Z0 (Nat.le_of_eq g1722.symm)
 have F1722_ranges : F'0 Z h1722 b1722 .null := D1722 (Or.inl (W 23 rfl)) (ty := (.array .int)) (by decide)
 have F1722_size : F'1 Z h1722 b1722 v'0 := D1722 (Or.inl (W 30 rfl)) (ty := .int) (by decide)
 refine own_stq 63 [(.ref b1722)] st1722 (own_dp X1722 q d0_63 rfl ?_)
 refine own_cIh (a := b1722) X1722 q hZ e1722 hown hml (W 15 rfl) (W 16 rfl) (W 14 rfl) (W 17 rfl) (rm4 l Z a0 hw b1722 h1722 n0 zs1723 A1722 F1722_ranges F1722_size g_b1722) d0_64 [] [(.ref b1722)] own_pd10 rfl rfl 1 (Nat.le_refl _) rfl (by decide) (fun v1724 T1724 L1724 h1724 e1724' X1724 hQ1724 => ?_)
 obtain ⟨b1724, k1724, rfl, N1724q, K1724, lo1724, Fa1724, Fb1724, V1724⟩ := hQ1724
 have N1724 := Fr.app N1720 N1724q
 have zs1725 := Nat.le_trans zs1723 K1724.1
 have g_b1724 : n0 ≤ b1724 := Nat.le_trans zs1723 lo1724
 refine own_nn (own_as X1724 q d0_67 rfl (l' := #[.val (.int p1), .val (.int p2), .val (.int p3), .val (.int p4), .val (.int p5), .val (.int z1705), .val (.int z1707), .val (.int z1709), .val (.int z1711), .val (.int z1713), .val (.int z1715), .val (.int z1717), .val (.int z1719), .val (.ref b1722), .unset, .unset, .unset, .unset, .unset, .unset, .unset]) rfl (own_al X1724 q d0_69 rfl rfl (own_il X1724 q d0_71 rfl (own_il X1724 q d0_73 rfl ?_))))
 refine own_cVh X1724 q hZ e1724' hown hml (W 24 rfl) (W 25 rfl) (W 27 rfl) (W 26 rfl) (W 14 rfl) (W 28 rfl) rfl (A1722.keep K1724) (rm6_0 l Z a0 hw b1722 z1709 z1711 b1724 k1724 z1717 z1719 h1724 n0 zs1725 (A1722.keep K1724) Fa1724 Fb1724 V1724 g_b1722 g_b1724 (own_ne (A1722).lt lo1724)) d0_75 [(.int z1709), (.int z1711)] [] own_pd11 rfl rfl 0 (Nat.le_refl _) (by decide) (fun v1726 T1726 L1726 h1726 e1726' X1726 hQ1726 => ?_)
 obtain ⟨rfl, N1726q, K1726, Fa1726, Fb1726, V1726⟩ := hQ1726
 have N1726 := Fr.app N1724 N1726q
 have zs1727 := Nat.le_trans zs1725 K1726.1
 refine own_nv (own_as X1726 q d0_78 rfl (l' := #[.val (.int p1), .val (.int p2), .val (.int p3), .val (.int p4), .val (.int p5), .val (.int z1705), .val (.int z1707), .val (.int z1709), .val (.int z1711), .val (.int z1713), .val (.int z1715), .val (.int z1717), .val (.int z1719), .val (.ref b1722), .val (.ref b1722), .unset, .unset, .unset, .unset, .unset, .unset]) rfl (own_al X1726 q d0_80 rfl rfl (own_il X1726 q d0_82 rfl (own_il X1726 q d0_84 rfl ?_))))
 refine own_cVh X1726 q hZ e1726' hown hml (W 24 rfl) (W 25 rfl) (W 27 rfl) (W 26 rfl) (W 14 rfl) (W 28 rfl) rfl ((A1722.keep K1724).keep K1726) (rm6_1 l Z a0 hw b1722 z1717 z1719 b1724 k1724 z1709 z1711 h1726 n0 zs1727 ((A1722.keep K1724).keep K1726) Fa1726 Fb1726 V1726 g_b1722 g_b1724 (own_ne (A1722).lt lo1724)) d0_86 [(.int z1717), (.int z1719)] [] own_pd11 rfl rfl 0 (Nat.le_refl _) (by decide) (fun v1728 T1728 L1728 h1728 e1728' X1728 hQ1728 => ?_)
 obtain ⟨rfl, N1728q, K1728, Fa1728, Fb1728, V1728⟩ := hQ1728
 have N1728 := Fr.app N1726 N1728q
 have zs1729 := Nat.le_trans zs1727 K1728.1
 refine own_nv (own_stp 90 (fun _ k => XS.pop X1728.here hx rfl (q.d d0_89) rfl rfl k) (own_al X1728 q d0_90 rfl rfl (own_il X1728 q d0_92 rfl (own_il X1728 q d0_94 rfl ?_))))
 refine own_cVh X1728 q hZ e1728' hown hml (W 24 rfl) (W 25 rfl) (W 27 rfl) (W 26 rfl) (W 14 rfl) (W 28 rfl) rfl (((A1722.keep K1724).keep K1726).keep K1728) (rm6_2 l Z a0 hw b1722 z1709 z1711 b1724 k1724 z1717 z1719 h1728 n0 zs1729 (((A1722.keep K1724).keep K1726).keep K1728) Fa1728 Fb1728 V1728 g_b1722 g_b1724 (own_ne (A1722).lt lo1724)) d0_96 [(.int z1709), (.int z1711)] [] own_pd11 rfl rfl 0 (Nat.le_refl _) (by decide) (fun v1730 T1730 L1730 h1730 e1730' X1730 hQ1730 => ?_)
 obtain ⟨rfl, N1730q, K1730, Fa1730, Fb1730, V1730⟩ := hQ1730
 have N1730 := Fr.app N1728 N1730q
 have zs1731 := Nat.le_trans zs1729 K1730.1
 refine own_nv (own_stp 100 (fun _ k => XS.pop X1730.here hx rfl (q.d d0_99) rfl rfl k) (own_al X1730 q d0_100 rfl rfl (own_il X1730 q d0_102 rfl (own_il X1730 q d0_104 rfl ?_))))
 refine own_cVh X1730 q hZ e1730' hown hml (W 24 rfl) (W 25 rfl) (W 27 rfl) (W 26 rfl) (W 14 rfl) (W 28 rfl) rfl ((((A1722.keep K1724).keep K1726).keep K1728).keep K1730) (rm6_3 l Z a0 hw b1722 z1717 z1719 b1724 k1724 z1709 z1711 h1730 n0 zs1731 ((((A1722.keep K1724).keep K1726).keep K1728).keep K1730) Fa1730 Fb1730 V1730 g_b1722 g_b1724 (own_ne (A1722).lt lo1724)) d0_106 [(.int z1717), (.int z1719)] [] own_pd11 rfl rfl 0 (Nat.le_refl _) (by decide) (fun v1732 T1732 L1732 h1732 e1732' X1732 hQ1732 => ?_)
 obtain ⟨rfl, N1732q, K1732, Fa1732, Fb1732, V1732⟩ := hQ1732
 have N1732 := Fr.app N1730 N1732q
 have zs1733 := Nat.le_trans zs1731 K1732.1
 refine own_nv (own_stp 110 (fun _ k => XS.pop X1732.here hx rfl (q.d d0_109) rfl rfl k) (own_al X1732 q d0_110 rfl rfl (own_il X1732 q d0_112 rfl (own_il X1732 q d0_114 rfl ?_))))
 refine own_cVh X1732 q hZ e1732' hown hml (W 24 rfl) (W 25 rfl) (W 27 rfl) (W 26 rfl) (W 14 rfl) (W 28 rfl) rfl (((((A1722.keep K1724).keep K1726).keep K1728).keep K1730).keep K1732) (rm6_4 l Z a0 hw b1722 z1709 z1711 b1724 k1724 z1717 z1719 h1732 n0 zs1733 (((((A1722.keep K1724).keep K1726).keep K1728).keep K1730).keep K1732) Fa1732 Fb1732 V1732 g_b1722 g_b1724 (own_ne (A1722).lt lo1724)) d0_116 [(.int z1709), (.int z1711)] [] own_pd11 rfl rfl 0 (Nat.le_refl _) (by decide) (fun v1734 T1734 L1734 h1734 e1734' X1734 hQ1734 => ?_)
 obtain ⟨rfl, N1734q, K1734, Fa1734, Fb1734, V1734⟩ := hQ1734
 have N1734 := Fr.app N1732 N1734q
 have zs1735 := Nat.le_trans zs1733 K1734.1
 refine own_nv (own_stp 120 (fun _ k => XS.pop X1734.here hx rfl (q.d d0_119) rfl rfl k) (own_al X1734 q d0_120 rfl rfl (own_il X1734 q d0_122 rfl (own_il X1734 q d0_124 rfl ?_))))
 refine own_cVh X1734 q hZ e1734' hown hml (W 24 rfl) (W 25 rfl) (W 27 rfl) (W 26 rfl) (W 14 rfl) (W 28 rfl) rfl ((((((A1722.keep K1724).keep K1726).keep K1728).keep K1730).keep K1732).keep K1734) (rm6_5 l Z a0 hw b1722 z1717 z1719 b1724 k1724 z1709 z1711 h1734 n0 zs1735 ((((((A1722.keep K1724).keep K1726).keep K1728).keep K1730).keep K1732).keep K1734) Fa1734 Fb1734 V1734 g_b1722 g_b1724 (own_ne (A1722).lt lo1724)) d0_126 [(.int z1717), (.int z1719)] [] own_pd11 rfl rfl 0 (Nat.le_refl _) (by decide) (fun v1736 T1736 L1736 h1736 e1736' X1736 hQ1736 => ?_)
 obtain ⟨rfl, N1736q, K1736, Fa1736, Fb1736, V1736⟩ := hQ1736
 have N1736 := Fr.app N1734 N1736q
 have zs1737 := Nat.le_trans zs1735 K1736.1
 refine own_nv (own_stp 130 (fun _ k => XS.pop X1736.here hx rfl (q.d d0_129) rfl rfl k) (own_al X1736 q d0_130 rfl rfl (own_il X1736 q d0_132 rfl (own_il X1736 q d0_134 rfl ?_))))
 refine own_cVh X1736 q hZ e1736' hown hml (W 24 rfl) (W 25 rfl) (W 27 rfl) (W 26 rfl) (W 14 rfl) (W 28 rfl) rfl (((((((A1722.keep K1724).keep K1726).keep K1728).keep K1730).keep K1732).keep K1734).keep K1736) (rm6_6 l Z a0 hw b1722 z1709 z1711 b1724 k1724 z1717 z1719 h1736 n0 zs1737 (((((((A1722.keep K1724).keep K1726).keep K1728).keep K1730).keep K1732).keep K1734).keep K1736) Fa1736 Fb1736 V1736 g_b1722 g_b1724 (own_ne (A1722).lt lo1724)) d0_136 [(.int z1709), (.int z1711)] [] own_pd11 rfl rfl 0 (Nat.le_refl _) (by decide) (fun v1738 T1738 L1738 h1738 e1738' X1738 hQ1738 => ?_)
 obtain ⟨rfl, N1738q, K1738, Fa1738, Fb1738, V1738⟩ := hQ1738
 have N1738 := Fr.app N1736 N1738q
 have zs1739 := Nat.le_trans zs1737 K1738.1
 refine own_nv (own_stp 140 (fun _ k => XS.pop X1738.here hx rfl (q.d d0_139) rfl rfl k) (own_al X1738 q d0_140 rfl rfl (own_il X1738 q d0_142 rfl (own_il X1738 q d0_144 rfl ?_))))
 refine own_cVh X1738 q hZ e1738' hown hml (W 24 rfl) (W 25 rfl) (W 27 rfl) (W 26 rfl) (W 14 rfl) (W 28 rfl) rfl ((((((((A1722.keep K1724).keep K1726).keep K1728).keep K1730).keep K1732).keep K1734).keep K1736).keep K1738) (rm6_7 l Z a0 hw b1722 z1717 z1719 b1724 k1724 z1709 z1711 h1738 n0 zs1739 ((((((((A1722.keep K1724).keep K1726).keep K1728).keep K1730).keep K1732).keep K1734).keep K1736).keep K1738) Fa1738 Fb1738 V1738 g_b1722 g_b1724 (own_ne (A1722).lt lo1724)) d0_146 [(.int z1717), (.int z1719)] [] own_pd11 rfl rfl 0 (Nat.le_refl _) (by decide) (fun v1740 T1740 L1740 h1740 e1740' X1740 hQ1740 => ?_)
 obtain ⟨rfl, N1740q, K1740, Fa1740, Fb1740, V1740⟩ := hQ1740
 have N1740 := Fr.app N1738 N1740q
 have zs1741 := Nat.le_trans zs1739 K1740.1
 refine own_nv (own_stp 150 (fun _ k => XS.pop X1740.here hx rfl (q.d d0_149) rfl rfl k) (own_al X1740 q d0_150 rfl rfl (own_il X1740 q d0_152 rfl (own_il X1740 q d0_154 rfl ?_))))
 refine own_cVh X1740 q hZ e1740' hown hml (W 24 rfl) (W 25 rfl) (W 27 rfl) (W 26 rfl) (W 14 rfl) (W 28 rfl) rfl (((((((((A1722.keep K1724).keep K1726).keep K1728).keep K1730).keep K1732).keep K1734).keep K1736).keep K1738).keep K1740) (rm6_8 l Z a0 hw b1722 z1709 z1711 b1724 k1724 z1717 z1719 h1740 n0 zs1741 (((((((((A1722.keep K1724).keep K1726).keep K1728).keep K1730).keep K1732).keep K1734).keep K1736).keep K1738).keep K1740) Fa1740 Fb1740 V1740 g_b1722 g_b1724 (own_ne (A1722).lt lo1724)) d0_156 [(.int z1709), (.int z1711)] [] own_pd11 rfl rfl 0 (Nat.le_refl _) (by decide) (fun v1742 T1742 L1742 h1742 e1742' X1742 hQ1742 => ?_)
 obtain ⟨b1742, k1742, rfl, N1742q, K1742, lo1742, Fa1742, Fb1742, V1742⟩ := hQ1742
 have N1742 := Fr.app N1740 N1742q
 have zs1743 := Nat.le_trans zs1741 K1742.1
 have g_b1742 : n0 ≤ b1742 := Nat.le_trans zs1741 lo1742
 refine own_nv (own_as X1742 q d0_159 rfl (l' := #[.val (.int p1), .val (.int p2), .val (.int p3), .val (.int p4), .val (.int p5), .val (.int z1705), .val (.int z1707), .val (.int z1709), .val (.int z1711), .val (.int z1713), .val (.int z1715), .val (.int z1717), .val (.int z1719), .val (.ref b1722), .val (.ref b1722), .val (.ref b1722), .unset, .unset, .unset, .unset, .unset]) rfl (own_al X1742 q d0_161 rfl rfl ?_))
 refine own_cVh X1742 q hZ e1742' hown hml (W 40 rfl) (W 41 rfl) (W 43 rfl) (W 42 rfl) (W 14 rfl) (W 44 rfl) rfl ((((((((((A1722.keep K1724).keep K1726).keep K1728).keep K1730).keep K1732).keep K1734).keep K1736).keep K1738).keep K1740).keep K1742) (rm8 l Z a0 hw b1722 b1742 k1742 z1709 z1711 z1717 z1719 h1742 n0 zs1743 ((((((((((A1722.keep K1724).keep K1726).keep K1728).keep K1730).keep K1732).keep K1734).keep K1736).keep K1738).keep K1740).keep K1742) Fa1742 Fb1742 V1742 hokA hokB) d0_163 [] [] own_pd12 rfl rfl 0 (Nat.le_refl _) (by decide) (fun v1744 T1744 L1744 h1744 e1744' X1744 hQ1744 => ?_)
 obtain ⟨x1744, r1744, b1744, ka1744, kb1744, ua1744, ub1744, rfl, N1744q, E1744, Ex1744, Fa1744, Fb1744, V1744, hR1744⟩ := hQ1744
 have N1744 := Fr.app N1742 N1744q
 have zs1745 := Nat.le_trans zs1743 E1744.1
 refine own_nv ?_
 rcases hR1744 with ⟨r0, r1, Vr, tw⟩ | ⟨r0, r1, r2, r3, Vr, tw⟩
 ·have tw1 := tw.1
  show own_Fin _ _ _ _ (T1744.setTop (mkF m 166 #[.val (.int p1), .val (.int p2), .val (.int p3), .val (.int p4), .val (.int p5), .val (.int z1705), .val (.int z1707), .val (.int z1709), .val (.int z1711), .val (.int z1713), .val (.int z1715), .val (.int z1717), .val (.int z1719), .val (.ref b1722), .val (.ref b1722), .val (.ref b1722), .unset, .unset, .unset, .unset, .unset] [(.ref x1744)]))
  refine own_as X1744 q d0_166 rfl (l' := #[.val (.int p1), .val (.int p2), .val (.int p3), .val (.int p4), .val (.int p5), .val (.int z1705), .val (.int z1707), .val (.int z1709), .val (.int z1711), .val (.int z1713), .val (.int z1715), .val (.int z1717), .val (.int z1719), .val (.ref b1722), .val (.ref b1722), .val (.ref b1722), .val (.ref x1744), .unset, .unset, .unset, .unset]) rfl (own_il X1744 q d0_168 rfl (own_il X1744 q d0_170 rfl ?_))
  by_cases hc172_1746 : p5 < z1709
  ·refine own_cy X1744 q d0_172 ((tlt hc172_1746).2.2.1) (own_k X1744 q d0_186 (own_is X1744 q d0_187 (l' := #[.val (.int p1), .val (.int p2), .val (.int p3), .val (.int p4), .val (.int p5), .val (.int z1705), .val (.int z1707), .val (.int z1709), .val (.int z1711), .val (.int z1713), .val (.int z1715), .val (.int z1717), .val (.int z1719), .val (.ref b1722), .val (.ref b1722), .val (.ref b1722), .val (.ref x1744), .val v'0, .unset, .unset, .unset]) rfl (own_il X1744 q d0_189 rfl (own_il X1744 q d0_191 rfl ?_))))
   by_cases hc193_1747 : p5 < z1717
   ·refine own_cy X1744 q d0_193 ((tlt hc193_1747).2.2.1) (own_k X1744 q d0_207 (own_is X1744 q d0_208 (l' := #[.val (.int p1), .val (.int p2), .val (.int p3), .val (.int p4), .val (.int p5), .val (.int z1705), .val (.int z1707), .val (.int z1709), .val (.int z1711), .val (.int z1713), .val (.int z1715), .val (.int z1717), .val (.int z1719), .val (.ref b1722), .val (.ref b1722), .val (.ref b1722), .val (.ref x1744), .val v'0, .val v'0, .unset, .unset]) rfl (own_il X1744 q d0_210 rfl (own_il X1744 q d0_212 rfl ?_))))
    obtain ⟨z1748, hz1748⟩ : ∃ z, own_max z1709 z1717 = z := ⟨_, rfl⟩
    refine own_cS X1744 q hZ e1744' hown hml (W 9 rfl) (W 10 rfl) (W 7 rfl) (W 11 rfl) (rm3 l Z a0 hw z1709 z1717 z1748 h1744 n0 zs1745 hz1748) d0_214 [(.int z1709), (.int z1717)] [] own_pd0 rfl rfl 0 (Nat.le_refl _) (by decide) (fun v1749 T1749 L1749 X1749 hQ1749 => ?_)
    obtain ⟨rfl, N1749q, e1749⟩ := hQ1749
    have N1749 := Fr.app N1744 N1749q
    refine own_nv (own_il X1749 q d0_217 rfl (own_il X1749 q d0_219 rfl ?_))
    obtain ⟨z1750, hz1750⟩ : ∃ z, own_min z1711 z1719 = z := ⟨_, rfl⟩
    refine own_cS X1749 q hZ e1749 hown hml (W 5 rfl) (W 6 rfl) (W 7 rfl) (W 8 rfl) (rm2 l Z a0 hw z1711 z1719 z1750 h1744 n0 zs1745 hz1750) d0_221 [(.int z1711), (.int z1719)] [(.int z1748)] own_pd0 rfl rfl 1 (Nat.le_refl _) (by decide) (fun v1751 T1751 L1751 X1751 hQ1751 => ?_)
    obtain ⟨rfl, N1751q, e1751⟩ := hQ1751
    have N1751 := Fr.app N1749 N1751q
    refine own_nv (own_k X1751 q d0_224 (own_iadd X1751 q d0_225 (own_cn X1751 q d0_226 ((flt ((fun r => (own_tc hokA hokB hz1748 hz1750).mp r tw1) : ¬ ((z1750 + (1 : Int32)) < z1748))).2.2.1) (own_k X1751 q d0_229 (own_gt X1751 q d0_230 (own_is X1751 q d0_234 (l' := #[.val (.int p1), .val (.int p2), .val (.int p3), .val (.int p4), .val (.int p5), .val (.int z1705), .val (.int z1707), .val (.int z1709), .val (.int z1711), .val (.int z1713), .val (.int z1715), .val (.int z1717), .val (.int z1719), .val (.ref b1722), .val (.ref b1722), .val (.ref b1722), .val (.ref x1744), .val v'0, .val v'0, .val v'1, .unset]) rfl (own_il X1751 q d0_236 rfl (own_zn X1751 q d0_238 (((if0 _ _).trans (feq ((by decide) : ¬ ((1 : Int32) = (0 : Int32)))).1)) (own_k X1751 q d0_241 (own_gt X1751 q d0_242 (own_is X1751 q d0_246 (l' := #[.val (.int p1), .val (.int p2), .val (.int p3), .val (.int p4), .val (.int p5), .val (.int z1705), .val (.int z1707), .val (.int z1709), .val (.int z1711), .val (.int z1713), .val (.int z1715), .val (.int z1717), .val (.int z1719), .val (.ref b1722), .val (.ref b1722), .val (.ref b1722), .val (.ref x1744), .val v'0, .val v'0, .val v'1, .val v'1]) rfl ?_)))))))))))
    refine own_al X1751 q d0_248 rfl rfl (own_al X1751 q d0_250 rfl rfl (own_stp 255 (fun _ k => Jvm.RoadKit.acmp (g := mkF m 252 _ _) X1751 hx rfl rfl rfl (pc0 := 252) (pc' := 255) (same := true) rfl (q.d d0_252) rfl (decide_eq_true rfl) (by decide) (by decide) k) (own_al X1751 q d0_255 rfl rfl (own_al X1751 q d0_257 rfl rfl (own_stp 262 (fun _ k => Jvm.RoadKit.acmp (g := mkF m 259 _ _) X1751 hx rfl rfl rfl (pc0 := 259) (pc' := 262) (same := true) rfl (q.d d0_259) rfl (decide_eq_true rfl) (by decide) (by decide) k) (own_al X1751 q d0_262 rfl rfl (own_il X1751 q d0_264 rfl ?_)))))))
    refine own_cV X1751 q hZ e1751 hown hml (W 72 rfl) (W 73 rfl) (W 75 rfl) (W 74 rfl) (W 62 rfl) (W 76 rfl) rfl Ex1744 (rm14_2 l Z a0 hw x1744 p5 r1744 b1744 ka1744 kb1744 r0 r1 ua1744 ub1744 h1744 n0 zs1745 Fa1744 Fb1744 Vr V1744 tw.2.2.2 tw.2.1) d0_266 [(.int p5)] [] own_pd13 rfl rfl 0 (Nat.le_refl _) (by decide) (fun v1752 T1752 L1752 X1752 hQ1752 => ?_)
    obtain ⟨z1752, rfl, N1752q, e1752, hM1752⟩ := hQ1752
    have N1752 := Fr.app N1751 N1752q
    refine own_nv (own_il X1752 q d0_269 rfl (own_zn X1752 q d0_271 (((if0 _ _).trans (teq (rfl : (0 : Int32) = (0 : Int32))).2)) (own_il X1752 q d0_274 rfl (own_zy X1752 q d0_276 (((if0 _ _).trans (teq (rfl : (0 : Int32) = (0 : Int32))).1)) (own_k X1752 q d0_283 ?_)))))
    have hE1753 : z1752 = (0 : Int32) := by
     simp only [Int32.lt_iff_toInt_lt] at hc172_1746 hc193_1747
     unfold own_ok at hokA hokB
     rcases hM1752 with ⟨hq, r⟩ | ⟨hq, r⟩
     ·have r2 := (tw.2.2.1 p5).mp r
      unfold own_in at r2
      omega
     ·exact hq
    refine own_cn X1752 q d0_284 ((teq (hE1753 : z1752 = (0 : Int32))).2) (own_al X1752 q d0_287 rfl rfl ?_)
    refine own_cV X1752 q hZ e1752 hown hml (W 77 rfl) (W 78 rfl) (W 80 rfl) (W 79 rfl) (W 62 rfl) (W 81 rfl) rfl Ex1744 (rm15_2 l Z a0 hw x1744 r1744 ka1744 r0 r1 h1744 n0 zs1745 Fa1744 Vr) d0_289 [] [] own_pd14 rfl rfl 0 (Nat.le_refl _) (by decide) (fun v1754 T1754 L1754 X1754 hQ1754 => ?_)
    obtain ⟨rfl, N1754q, e1754⟩ := hQ1754
    have N1754 := Fr.app N1752 N1754q
    refine own_nv (own_il X1754 q d0_292 rfl (own_cn X1754 q d0_294 ((teq (rfl : (1 : Int32) = (1 : Int32))).2) (own_k X1754 q d0_297 (own_gt X1754 q d0_298 ?_))))
    refine own_rN X1754 q hrt (by simp) d0_302 hlk (by decide) ?_
    exact ⟨rfl, N1754⟩
   ·refine own_cn X1744 q d0_193 ((flt hc193_1747).2.2.1) (own_il X1744 q d0_196 rfl (own_il X1744 q d0_198 rfl ?_))
    by_cases hc200_1755 : z1719 < p5
    ·refine own_cy X1744 q d0_200 ((tlt hc200_1755).2.2.1) (own_k X1744 q d0_207 (own_is X1744 q d0_208 (l' := #[.val (.int p1), .val (.int p2), .val (.int p3), .val (.int p4), .val (.int p5), .val (.int z1705), .val (.int z1707), .val (.int z1709), .val (.int z1711), .val (.int z1713), .val (.int z1715), .val (.int z1717), .val (.int z1719), .val (.ref b1722), .val (.ref b1722), .val (.ref b1722), .val (.ref x1744), .val v'0, .val v'0, .unset, .unset]) rfl (own_il X1744 q d0_210 rfl (own_il X1744 q d0_212 rfl ?_))))
     obtain ⟨z1756, hz1756⟩ : ∃ z, own_max z1709 z1717 = z := ⟨_, rfl⟩
     refine own_cS X1744 q hZ e1744' hown hml (W 9 rfl) (W 10 rfl) (W 7 rfl) (W 11 rfl) (rm3 l Z a0 hw z1709 z1717 z1756 h1744 n0 zs1745 hz1756) d0_214 [(.int z1709), (.int z1717)] [] own_pd0 rfl rfl 0 (Nat.le_refl _) (by decide) (fun v1757 T1757 L1757 X1757 hQ1757 => ?_)
     obtain ⟨rfl, N1757q, e1757⟩ := hQ1757
     have N1757 := Fr.app N1744 N1757q
     refine own_nv (own_il X1757 q d0_217 rfl (own_il X1757 q d0_219 rfl ?_))
     obtain ⟨z1758, hz1758⟩ : ∃ z, own_min z1711 z1719 = z := ⟨_, rfl⟩
     refine own_cS X1757 q hZ e1757 hown hml (W 5 rfl) (W 6 rfl) (W 7 rfl) (W 8 rfl) (rm2 l Z a0 hw z1711 z1719 z1758 h1744 n0 zs1745 hz1758) d0_221 [(.int z1711), (.int z1719)] [(.int z1756)] own_pd0 rfl rfl 1 (Nat.le_refl _) (by decide) (fun v1759 T1759 L1759 X1759 hQ1759 => ?_)
     obtain ⟨rfl, N1759q, e1759⟩ := hQ1759
     have N1759 := Fr.app N1757 N1759q
     refine own_nv (own_k X1759 q d0_224 (own_iadd X1759 q d0_225 (own_cn X1759 q d0_226 ((flt ((fun r => (own_tc hokA hokB hz1756 hz1758).mp r tw1) : ¬ ((z1758 + (1 : Int32)) < z1756))).2.2.1) (own_k X1759 q d0_229 (own_gt X1759 q d0_230 (own_is X1759 q d0_234 (l' := #[.val (.int p1), .val (.int p2), .val (.int p3), .val (.int p4), .val (.int p5), .val (.int z1705), .val (.int z1707), .val (.int z1709), .val (.int z1711), .val (.int z1713), .val (.int z1715), .val (.int z1717), .val (.int z1719), .val (.ref b1722), .val (.ref b1722), .val (.ref b1722), .val (.ref x1744), .val v'0, .val v'0, .val v'1, .unset]) rfl (own_il X1759 q d0_236 rfl (own_zn X1759 q d0_238 (((if0 _ _).trans (feq ((by decide) : ¬ ((1 : Int32) = (0 : Int32)))).1)) (own_k X1759 q d0_241 (own_gt X1759 q d0_242 (own_is X1759 q d0_246 (l' := #[.val (.int p1), .val (.int p2), .val (.int p3), .val (.int p4), .val (.int p5), .val (.int z1705), .val (.int z1707), .val (.int z1709), .val (.int z1711), .val (.int z1713), .val (.int z1715), .val (.int z1717), .val (.int z1719), .val (.ref b1722), .val (.ref b1722), .val (.ref b1722), .val (.ref x1744), .val v'0, .val v'0, .val v'1, .val v'1]) rfl ?_)))))))))))
     refine own_al X1759 q d0_248 rfl rfl (own_al X1759 q d0_250 rfl rfl (own_stp 255 (fun _ k => Jvm.RoadKit.acmp (g := mkF m 252 _ _) X1759 hx rfl rfl rfl (pc0 := 252) (pc' := 255) (same := true) rfl (q.d d0_252) rfl (decide_eq_true rfl) (by decide) (by decide) k) (own_al X1759 q d0_255 rfl rfl (own_al X1759 q d0_257 rfl rfl (own_stp 262 (fun _ k => Jvm.RoadKit.acmp (g := mkF m 259 _ _) X1759 hx rfl rfl rfl (pc0 := 259) (pc' := 262) (same := true) rfl (q.d d0_259) rfl (decide_eq_true rfl) (by decide) (by decide) k) (own_al X1759 q d0_262 rfl rfl (own_il X1759 q d0_264 rfl ?_)))))))
     refine own_cV X1759 q hZ e1759 hown hml (W 72 rfl) (W 73 rfl) (W 75 rfl) (W 74 rfl) (W 62 rfl) (W 76 rfl) rfl Ex1744 (rm14_2 l Z a0 hw x1744 p5 r1744 b1744 ka1744 kb1744 r0 r1 ua1744 ub1744 h1744 n0 zs1745 Fa1744 Fb1744 Vr V1744 tw.2.2.2 tw.2.1) d0_266 [(.int p5)] [] own_pd13 rfl rfl 0 (Nat.le_refl _) (by decide) (fun v1760 T1760 L1760 X1760 hQ1760 => ?_)
     obtain ⟨z1760, rfl, N1760q, e1760, hM1760⟩ := hQ1760
     have N1760 := Fr.app N1759 N1760q
     refine own_nv (own_il X1760 q d0_269 rfl (own_zn X1760 q d0_271 (((if0 _ _).trans (teq (rfl : (0 : Int32) = (0 : Int32))).2)) (own_il X1760 q d0_274 rfl (own_zy X1760 q d0_276 (((if0 _ _).trans (teq (rfl : (0 : Int32) = (0 : Int32))).1)) (own_k X1760 q d0_283 ?_)))))
     have hE1761 : z1760 = (0 : Int32) := by
      simp only [Int32.lt_iff_toInt_lt] at hc172_1746 hc193_1747 hc200_1755
      unfold own_ok at hokA hokB
      rcases hM1760 with ⟨hq, r⟩ | ⟨hq, r⟩
      ·have r2 := (tw.2.2.1 p5).mp r
       unfold own_in at r2
       omega
      ·exact hq
     refine own_cn X1760 q d0_284 ((teq (hE1761 : z1760 = (0 : Int32))).2) (own_al X1760 q d0_287 rfl rfl ?_)
     refine own_cV X1760 q hZ e1760 hown hml (W 77 rfl) (W 78 rfl) (W 80 rfl) (W 79 rfl) (W 62 rfl) (W 81 rfl) rfl Ex1744 (rm15_2 l Z a0 hw x1744 r1744 ka1744 r0 r1 h1744 n0 zs1745 Fa1744 Vr) d0_289 [] [] own_pd14 rfl rfl 0 (Nat.le_refl _) (by decide) (fun v1762 T1762 L1762 X1762 hQ1762 => ?_)
     obtain ⟨rfl, N1762q, e1762⟩ := hQ1762
     have N1762 := Fr.app N1760 N1762q
     refine own_nv (own_il X1762 q d0_292 rfl (own_cn X1762 q d0_294 ((teq (rfl : (1 : Int32) = (1 : Int32))).2) (own_k X1762 q d0_297 (own_gt X1762 q d0_298 ?_))))
     refine own_rN X1762 q hrt (by simp) d0_302 hlk (by decide) ?_
     exact ⟨rfl, N1762⟩
    ·refine own_cn X1744 q d0_200 ((flt hc200_1755).2.2.1) (own_k X1744 q d0_203 (own_gt X1744 q d0_204 (own_is X1744 q d0_208 (l' := #[.val (.int p1), .val (.int p2), .val (.int p3), .val (.int p4), .val (.int p5), .val (.int z1705), .val (.int z1707), .val (.int z1709), .val (.int z1711), .val (.int z1713), .val (.int z1715), .val (.int z1717), .val (.int z1719), .val (.ref b1722), .val (.ref b1722), .val (.ref b1722), .val (.ref x1744), .val v'0, .val v'1, .unset, .unset]) rfl (own_il X1744 q d0_210 rfl (own_il X1744 q d0_212 rfl ?_)))))
     obtain ⟨z1763, hz1763⟩ : ∃ z, own_max z1709 z1717 = z := ⟨_, rfl⟩
     refine own_cS X1744 q hZ e1744' hown hml (W 9 rfl) (W 10 rfl) (W 7 rfl) (W 11 rfl) (rm3 l Z a0 hw z1709 z1717 z1763 h1744 n0 zs1745 hz1763) d0_214 [(.int z1709), (.int z1717)] [] own_pd0 rfl rfl 0 (Nat.le_refl _) (by decide) (fun v1764 T1764 L1764 X1764 hQ1764 => ?_)
     obtain ⟨rfl, N1764q, e1764⟩ := hQ1764
     have N1764 := Fr.app N1744 N1764q
     refine own_nv (own_il X1764 q d0_217 rfl (own_il X1764 q d0_219 rfl ?_))
     obtain ⟨z1765, hz1765⟩ : ∃ z, own_min z1711 z1719 = z := ⟨_, rfl⟩
     refine own_cS X1764 q hZ e1764 hown hml (W 5 rfl) (W 6 rfl) (W 7 rfl) (W 8 rfl) (rm2 l Z a0 hw z1711 z1719 z1765 h1744 n0 zs1745 hz1765) d0_221 [(.int z1711), (.int z1719)] [(.int z1763)] own_pd0 rfl rfl 1 (Nat.le_refl _) (by decide) (fun v1766 T1766 L1766 X1766 hQ1766 => ?_)
     obtain ⟨rfl, N1766q, e1766⟩ := hQ1766
     have N1766 := Fr.app N1764 N1766q
     refine own_nv (own_k X1766 q d0_224 (own_iadd X1766 q d0_225 (own_cn X1766 q d0_226 ((flt ((fun r => (own_tc hokA hokB hz1763 hz1765).mp r tw1) : ¬ ((z1765 + (1 : Int32)) < z1763))).2.2.1) (own_k X1766 q d0_229 (own_gt X1766 q d0_230 (own_is X1766 q d0_234 (l' := #[.val (.int p1), .val (.int p2), .val (.int p3), .val (.int p4), .val (.int p5), .val (.int z1705), .val (.int z1707), .val (.int z1709), .val (.int z1711), .val (.int z1713), .val (.int z1715), .val (.int z1717), .val (.int z1719), .val (.ref b1722), .val (.ref b1722), .val (.ref b1722), .val (.ref x1744), .val v'0, .val v'1, .val v'1, .unset]) rfl (own_il X1766 q d0_236 rfl (own_zn X1766 q d0_238 (((if0 _ _).trans (feq ((by decide) : ¬ ((1 : Int32) = (0 : Int32)))).1)) (own_k X1766 q d0_241 (own_gt X1766 q d0_242 (own_is X1766 q d0_246 (l' := #[.val (.int p1), .val (.int p2), .val (.int p3), .val (.int p4), .val (.int p5), .val (.int z1705), .val (.int z1707), .val (.int z1709), .val (.int z1711), .val (.int z1713), .val (.int z1715), .val (.int z1717), .val (.int z1719), .val (.ref b1722), .val (.ref b1722), .val (.ref b1722), .val (.ref x1744), .val v'0, .val v'1, .val v'1, .val v'1]) rfl ?_)))))))))))
     refine own_al X1766 q d0_248 rfl rfl (own_al X1766 q d0_250 rfl rfl (own_stp 255 (fun _ k => Jvm.RoadKit.acmp (g := mkF m 252 _ _) X1766 hx rfl rfl rfl (pc0 := 252) (pc' := 255) (same := true) rfl (q.d d0_252) rfl (decide_eq_true rfl) (by decide) (by decide) k) (own_al X1766 q d0_255 rfl rfl (own_al X1766 q d0_257 rfl rfl (own_stp 262 (fun _ k => Jvm.RoadKit.acmp (g := mkF m 259 _ _) X1766 hx rfl rfl rfl (pc0 := 259) (pc' := 262) (same := true) rfl (q.d d0_259) rfl (decide_eq_true rfl) (by decide) (by decide) k) (own_al X1766 q d0_262 rfl rfl (own_il X1766 q d0_264 rfl ?_)))))))
     refine own_cV X1766 q hZ e1766 hown hml (W 72 rfl) (W 73 rfl) (W 75 rfl) (W 74 rfl) (W 62 rfl) (W 76 rfl) rfl Ex1744 (rm14_2 l Z a0 hw x1744 p5 r1744 b1744 ka1744 kb1744 r0 r1 ua1744 ub1744 h1744 n0 zs1745 Fa1744 Fb1744 Vr V1744 tw.2.2.2 tw.2.1) d0_266 [(.int p5)] [] own_pd13 rfl rfl 0 (Nat.le_refl _) (by decide) (fun v1767 T1767 L1767 X1767 hQ1767 => ?_)
     obtain ⟨z1767, rfl, N1767q, e1767, hM1767⟩ := hQ1767
     have N1767 := Fr.app N1766 N1767q
     refine own_nv (own_il X1767 q d0_269 rfl (own_zn X1767 q d0_271 (((if0 _ _).trans (teq (rfl : (0 : Int32) = (0 : Int32))).2)) (own_il X1767 q d0_274 rfl (own_zn X1767 q d0_276 (((if0 _ _).trans (feq ((by decide) : ¬ ((1 : Int32) = (0 : Int32)))).1)) (own_k X1767 q d0_279 (own_gt X1767 q d0_280 ?_))))))
     have hE1768 : z1767 = (1 : Int32) := by
      simp only [Int32.lt_iff_toInt_lt] at hc172_1746 hc193_1747 hc200_1755
      unfold own_ok at hokA hokB
      rcases hM1767 with ⟨hq, r⟩ | ⟨hq, r⟩
      ·exact hq
      ·exact absurd ((tw.2.2.1 p5).mpr (by unfold own_in; omega)) r
     refine own_cn X1767 q d0_284 ((teq (hE1768 : z1767 = (1 : Int32))).2) (own_al X1767 q d0_287 rfl rfl ?_)
     refine own_cV X1767 q hZ e1767 hown hml (W 77 rfl) (W 78 rfl) (W 80 rfl) (W 79 rfl) (W 62 rfl) (W 81 rfl) rfl Ex1744 (rm15_2 l Z a0 hw x1744 r1744 ka1744 r0 r1 h1744 n0 zs1745 Fa1744 Vr) d0_289 [] [] own_pd14 rfl rfl 0 (Nat.le_refl _) (by decide) (fun v1769 T1769 L1769 X1769 hQ1769 => ?_)
     obtain ⟨rfl, N1769q, e1769⟩ := hQ1769
     have N1769 := Fr.app N1767 N1769q
     refine own_nv (own_il X1769 q d0_292 rfl (own_cn X1769 q d0_294 ((teq (rfl : (1 : Int32) = (1 : Int32))).2) (own_k X1769 q d0_297 (own_gt X1769 q d0_298 ?_))))
     refine own_rN X1769 q hrt (by simp) d0_302 hlk (by decide) ?_
     exact ⟨rfl, N1769⟩
  ·refine own_cn X1744 q d0_172 ((flt hc172_1746).2.2.1) (own_il X1744 q d0_175 rfl (own_il X1744 q d0_177 rfl ?_))
   by_cases hc179_1770 : z1711 < p5
   ·refine own_cy X1744 q d0_179 ((tlt hc179_1770).2.2.1) (own_k X1744 q d0_186 (own_is X1744 q d0_187 (l' := #[.val (.int p1), .val (.int p2), .val (.int p3), .val (.int p4), .val (.int p5), .val (.int z1705), .val (.int z1707), .val (.int z1709), .val (.int z1711), .val (.int z1713), .val (.int z1715), .val (.int z1717), .val (.int z1719), .val (.ref b1722), .val (.ref b1722), .val (.ref b1722), .val (.ref x1744), .val v'0, .unset, .unset, .unset]) rfl (own_il X1744 q d0_189 rfl (own_il X1744 q d0_191 rfl ?_))))
    by_cases hc193_1771 : p5 < z1717
    ·refine own_cy X1744 q d0_193 ((tlt hc193_1771).2.2.1) (own_k X1744 q d0_207 (own_is X1744 q d0_208 (l' := #[.val (.int p1), .val (.int p2), .val (.int p3), .val (.int p4), .val (.int p5), .val (.int z1705), .val (.int z1707), .val (.int z1709), .val (.int z1711), .val (.int z1713), .val (.int z1715), .val (.int z1717), .val (.int z1719), .val (.ref b1722), .val (.ref b1722), .val (.ref b1722), .val (.ref x1744), .val v'0, .val v'0, .unset, .unset]) rfl (own_il X1744 q d0_210 rfl (own_il X1744 q d0_212 rfl ?_))))
     obtain ⟨z1772, hz1772⟩ : ∃ z, own_max z1709 z1717 = z := ⟨_, rfl⟩
     refine own_cS X1744 q hZ e1744' hown hml (W 9 rfl) (W 10 rfl) (W 7 rfl) (W 11 rfl) (rm3 l Z a0 hw z1709 z1717 z1772 h1744 n0 zs1745 hz1772) d0_214 [(.int z1709), (.int z1717)] [] own_pd0 rfl rfl 0 (Nat.le_refl _) (by decide) (fun v1773 T1773 L1773 X1773 hQ1773 => ?_)
     obtain ⟨rfl, N1773q, e1773⟩ := hQ1773
     have N1773 := Fr.app N1744 N1773q
     refine own_nv (own_il X1773 q d0_217 rfl (own_il X1773 q d0_219 rfl ?_))
     obtain ⟨z1774, hz1774⟩ : ∃ z, own_min z1711 z1719 = z := ⟨_, rfl⟩
     refine own_cS X1773 q hZ e1773 hown hml (W 5 rfl) (W 6 rfl) (W 7 rfl) (W 8 rfl) (rm2 l Z a0 hw z1711 z1719 z1774 h1744 n0 zs1745 hz1774) d0_221 [(.int z1711), (.int z1719)] [(.int z1772)] own_pd0 rfl rfl 1 (Nat.le_refl _) (by decide) (fun v1775 T1775 L1775 X1775 hQ1775 => ?_)
     obtain ⟨rfl, N1775q, e1775⟩ := hQ1775
     have N1775 := Fr.app N1773 N1775q
     refine own_nv (own_k X1775 q d0_224 (own_iadd X1775 q d0_225 (own_cn X1775 q d0_226 ((flt ((fun r => (own_tc hokA hokB hz1772 hz1774).mp r tw1) : ¬ ((z1774 + (1 : Int32)) < z1772))).2.2.1) (own_k X1775 q d0_229 (own_gt X1775 q d0_230 (own_is X1775 q d0_234 (l' := #[.val (.int p1), .val (.int p2), .val (.int p3), .val (.int p4), .val (.int p5), .val (.int z1705), .val (.int z1707), .val (.int z1709), .val (.int z1711), .val (.int z1713), .val (.int z1715), .val (.int z1717), .val (.int z1719), .val (.ref b1722), .val (.ref b1722), .val (.ref b1722), .val (.ref x1744), .val v'0, .val v'0, .val v'1, .unset]) rfl (own_il X1775 q d0_236 rfl (own_zn X1775 q d0_238 (((if0 _ _).trans (feq ((by decide) : ¬ ((1 : Int32) = (0 : Int32)))).1)) (own_k X1775 q d0_241 (own_gt X1775 q d0_242 (own_is X1775 q d0_246 (l' := #[.val (.int p1), .val (.int p2), .val (.int p3), .val (.int p4), .val (.int p5), .val (.int z1705), .val (.int z1707), .val (.int z1709), .val (.int z1711), .val (.int z1713), .val (.int z1715), .val (.int z1717), .val (.int z1719), .val (.ref b1722), .val (.ref b1722), .val (.ref b1722), .val (.ref x1744), .val v'0, .val v'0, .val v'1, .val v'1]) rfl ?_)))))))))))
     refine own_al X1775 q d0_248 rfl rfl (own_al X1775 q d0_250 rfl rfl (own_stp 255 (fun _ k => Jvm.RoadKit.acmp (g := mkF m 252 _ _) X1775 hx rfl rfl rfl (pc0 := 252) (pc' := 255) (same := true) rfl (q.d d0_252) rfl (decide_eq_true rfl) (by decide) (by decide) k) (own_al X1775 q d0_255 rfl rfl (own_al X1775 q d0_257 rfl rfl (own_stp 262 (fun _ k => Jvm.RoadKit.acmp (g := mkF m 259 _ _) X1775 hx rfl rfl rfl (pc0 := 259) (pc' := 262) (same := true) rfl (q.d d0_259) rfl (decide_eq_true rfl) (by decide) (by decide) k) (own_al X1775 q d0_262 rfl rfl (own_il X1775 q d0_264 rfl ?_)))))))
     refine own_cV X1775 q hZ e1775 hown hml (W 72 rfl) (W 73 rfl) (W 75 rfl) (W 74 rfl) (W 62 rfl) (W 76 rfl) rfl Ex1744 (rm14_2 l Z a0 hw x1744 p5 r1744 b1744 ka1744 kb1744 r0 r1 ua1744 ub1744 h1744 n0 zs1745 Fa1744 Fb1744 Vr V1744 tw.2.2.2 tw.2.1) d0_266 [(.int p5)] [] own_pd13 rfl rfl 0 (Nat.le_refl _) (by decide) (fun v1776 T1776 L1776 X1776 hQ1776 => ?_)
     obtain ⟨z1776, rfl, N1776q, e1776, hM1776⟩ := hQ1776
     have N1776 := Fr.app N1775 N1776q
     refine own_nv (own_il X1776 q d0_269 rfl (own_zn X1776 q d0_271 (((if0 _ _).trans (teq (rfl : (0 : Int32) = (0 : Int32))).2)) (own_il X1776 q d0_274 rfl (own_zy X1776 q d0_276 (((if0 _ _).trans (teq (rfl : (0 : Int32) = (0 : Int32))).1)) (own_k X1776 q d0_283 ?_)))))
     have hE1777 : z1776 = (0 : Int32) := by
      simp only [Int32.lt_iff_toInt_lt] at hc172_1746 hc179_1770 hc193_1771
      unfold own_ok at hokA hokB
      rcases hM1776 with ⟨hq, r⟩ | ⟨hq, r⟩
      ·have r2 := (tw.2.2.1 p5).mp r
       unfold own_in at r2
       omega
      ·exact hq
     refine own_cn X1776 q d0_284 ((teq (hE1777 : z1776 = (0 : Int32))).2) (own_al X1776 q d0_287 rfl rfl ?_)
     refine own_cV X1776 q hZ e1776 hown hml (W 77 rfl) (W 78 rfl) (W 80 rfl) (W 79 rfl) (W 62 rfl) (W 81 rfl) rfl Ex1744 (rm15_2 l Z a0 hw x1744 r1744 ka1744 r0 r1 h1744 n0 zs1745 Fa1744 Vr) d0_289 [] [] own_pd14 rfl rfl 0 (Nat.le_refl _) (by decide) (fun v1778 T1778 L1778 X1778 hQ1778 => ?_)
     obtain ⟨rfl, N1778q, e1778⟩ := hQ1778
     have N1778 := Fr.app N1776 N1778q
     refine own_nv (own_il X1778 q d0_292 rfl (own_cn X1778 q d0_294 ((teq (rfl : (1 : Int32) = (1 : Int32))).2) (own_k X1778 q d0_297 (own_gt X1778 q d0_298 ?_))))
     refine own_rN X1778 q hrt (by simp) d0_302 hlk (by decide) ?_
     exact ⟨rfl, N1778⟩
    ·refine own_cn X1744 q d0_193 ((flt hc193_1771).2.2.1) (own_il X1744 q d0_196 rfl (own_il X1744 q d0_198 rfl ?_))
     by_cases hc200_1779 : z1719 < p5
     ·refine own_cy X1744 q d0_200 ((tlt hc200_1779).2.2.1) (own_k X1744 q d0_207 (own_is X1744 q d0_208 (l' := #[.val (.int p1), .val (.int p2), .val (.int p3), .val (.int p4), .val (.int p5), .val (.int z1705), .val (.int z1707), .val (.int z1709), .val (.int z1711), .val (.int z1713), .val (.int z1715), .val (.int z1717), .val (.int z1719), .val (.ref b1722), .val (.ref b1722), .val (.ref b1722), .val (.ref x1744), .val v'0, .val v'0, .unset, .unset]) rfl (own_il X1744 q d0_210 rfl (own_il X1744 q d0_212 rfl ?_))))
      obtain ⟨z1780, hz1780⟩ : ∃ z, own_max z1709 z1717 = z := ⟨_, rfl⟩
      refine own_cS X1744 q hZ e1744' hown hml (W 9 rfl) (W 10 rfl) (W 7 rfl) (W 11 rfl) (rm3 l Z a0 hw z1709 z1717 z1780 h1744 n0 zs1745 hz1780) d0_214 [(.int z1709), (.int z1717)] [] own_pd0 rfl rfl 0 (Nat.le_refl _) (by decide) (fun v1781 T1781 L1781 X1781 hQ1781 => ?_)
      obtain ⟨rfl, N1781q, e1781⟩ := hQ1781
      have N1781 := Fr.app N1744 N1781q
      refine own_nv (own_il X1781 q d0_217 rfl (own_il X1781 q d0_219 rfl ?_))
      obtain ⟨z1782, hz1782⟩ : ∃ z, own_min z1711 z1719 = z := ⟨_, rfl⟩
      refine own_cS X1781 q hZ e1781 hown hml (W 5 rfl) (W 6 rfl) (W 7 rfl) (W 8 rfl) (rm2 l Z a0 hw z1711 z1719 z1782 h1744 n0 zs1745 hz1782) d0_221 [(.int z1711), (.int z1719)] [(.int z1780)] own_pd0 rfl rfl 1 (Nat.le_refl _) (by decide) (fun v1783 T1783 L1783 X1783 hQ1783 => ?_)
      obtain ⟨rfl, N1783q, e1783⟩ := hQ1783
      have N1783 := Fr.app N1781 N1783q
      refine own_nv (own_k X1783 q d0_224 (own_iadd X1783 q d0_225 (own_cn X1783 q d0_226 ((flt ((fun r => (own_tc hokA hokB hz1780 hz1782).mp r tw1) : ¬ ((z1782 + (1 : Int32)) < z1780))).2.2.1) (own_k X1783 q d0_229 (own_gt X1783 q d0_230 (own_is X1783 q d0_234 (l' := #[.val (.int p1), .val (.int p2), .val (.int p3), .val (.int p4), .val (.int p5), .val (.int z1705), .val (.int z1707), .val (.int z1709), .val (.int z1711), .val (.int z1713), .val (.int z1715), .val (.int z1717), .val (.int z1719), .val (.ref b1722), .val (.ref b1722), .val (.ref b1722), .val (.ref x1744), .val v'0, .val v'0, .val v'1, .unset]) rfl (own_il X1783 q d0_236 rfl (own_zn X1783 q d0_238 (((if0 _ _).trans (feq ((by decide) : ¬ ((1 : Int32) = (0 : Int32)))).1)) (own_k X1783 q d0_241 (own_gt X1783 q d0_242 (own_is X1783 q d0_246 (l' := #[.val (.int p1), .val (.int p2), .val (.int p3), .val (.int p4), .val (.int p5), .val (.int z1705), .val (.int z1707), .val (.int z1709), .val (.int z1711), .val (.int z1713), .val (.int z1715), .val (.int z1717), .val (.int z1719), .val (.ref b1722), .val (.ref b1722), .val (.ref b1722), .val (.ref x1744), .val v'0, .val v'0, .val v'1, .val v'1]) rfl ?_)))))))))))
      refine own_al X1783 q d0_248 rfl rfl (own_al X1783 q d0_250 rfl rfl (own_stp 255 (fun _ k => Jvm.RoadKit.acmp (g := mkF m 252 _ _) X1783 hx rfl rfl rfl (pc0 := 252) (pc' := 255) (same := true) rfl (q.d d0_252) rfl (decide_eq_true rfl) (by decide) (by decide) k) (own_al X1783 q d0_255 rfl rfl (own_al X1783 q d0_257 rfl rfl (own_stp 262 (fun _ k => Jvm.RoadKit.acmp (g := mkF m 259 _ _) X1783 hx rfl rfl rfl (pc0 := 259) (pc' := 262) (same := true) rfl (q.d d0_259) rfl (decide_eq_true rfl) (by decide) (by decide) k) (own_al X1783 q d0_262 rfl rfl (own_il X1783 q d0_264 rfl ?_)))))))
      refine own_cV X1783 q hZ e1783 hown hml (W 72 rfl) (W 73 rfl) (W 75 rfl) (W 74 rfl) (W 62 rfl) (W 76 rfl) rfl Ex1744 (rm14_2 l Z a0 hw x1744 p5 r1744 b1744 ka1744 kb1744 r0 r1 ua1744 ub1744 h1744 n0 zs1745 Fa1744 Fb1744 Vr V1744 tw.2.2.2 tw.2.1) d0_266 [(.int p5)] [] own_pd13 rfl rfl 0 (Nat.le_refl _) (by decide) (fun v1784 T1784 L1784 X1784 hQ1784 => ?_)
      obtain ⟨z1784, rfl, N1784q, e1784, hM1784⟩ := hQ1784
      have N1784 := Fr.app N1783 N1784q
      refine own_nv (own_il X1784 q d0_269 rfl (own_zn X1784 q d0_271 (((if0 _ _).trans (teq (rfl : (0 : Int32) = (0 : Int32))).2)) (own_il X1784 q d0_274 rfl (own_zy X1784 q d0_276 (((if0 _ _).trans (teq (rfl : (0 : Int32) = (0 : Int32))).1)) (own_k X1784 q d0_283 ?_)))))
      have hE1785 : z1784 = (0 : Int32) := by
       simp only [Int32.lt_iff_toInt_lt] at hc172_1746 hc179_1770 hc193_1771 hc200_1779
       unfold own_ok at hokA hokB
       rcases hM1784 with ⟨hq, r⟩ | ⟨hq, r⟩
       ·have r2 := (tw.2.2.1 p5).mp r
        unfold own_in at r2
        omega
       ·exact hq
      refine own_cn X1784 q d0_284 ((teq (hE1785 : z1784 = (0 : Int32))).2) (own_al X1784 q d0_287 rfl rfl ?_)
      refine own_cV X1784 q hZ e1784 hown hml (W 77 rfl) (W 78 rfl) (W 80 rfl) (W 79 rfl) (W 62 rfl) (W 81 rfl) rfl Ex1744 (rm15_2 l Z a0 hw x1744 r1744 ka1744 r0 r1 h1744 n0 zs1745 Fa1744 Vr) d0_289 [] [] own_pd14 rfl rfl 0 (Nat.le_refl _) (by decide) (fun v1786 T1786 L1786 X1786 hQ1786 => ?_)
      obtain ⟨rfl, N1786q, e1786⟩ := hQ1786
      have N1786 := Fr.app N1784 N1786q
      refine own_nv (own_il X1786 q d0_292 rfl (own_cn X1786 q d0_294 ((teq (rfl : (1 : Int32) = (1 : Int32))).2) (own_k X1786 q d0_297 (own_gt X1786 q d0_298 ?_))))
      refine own_rN X1786 q hrt (by simp) d0_302 hlk (by decide) ?_
      exact ⟨rfl, N1786⟩
     ·refine own_cn X1744 q d0_200 ((flt hc200_1779).2.2.1) (own_k X1744 q d0_203 (own_gt X1744 q d0_204 (own_is X1744 q d0_208 (l' := #[.val (.int p1), .val (.int p2), .val (.int p3), .val (.int p4), .val (.int p5), .val (.int z1705), .val (.int z1707), .val (.int z1709), .val (.int z1711), .val (.int z1713), .val (.int z1715), .val (.int z1717), .val (.int z1719), .val (.ref b1722), .val (.ref b1722), .val (.ref b1722), .val (.ref x1744), .val v'0, .val v'1, .unset, .unset]) rfl (own_il X1744 q d0_210 rfl (own_il X1744 q d0_212 rfl ?_)))))
      obtain ⟨z1787, hz1787⟩ : ∃ z, own_max z1709 z1717 = z := ⟨_, rfl⟩
      refine own_cS X1744 q hZ e1744' hown hml (W 9 rfl) (W 10 rfl) (W 7 rfl) (W 11 rfl) (rm3 l Z a0 hw z1709 z1717 z1787 h1744 n0 zs1745 hz1787) d0_214 [(.int z1709), (.int z1717)] [] own_pd0 rfl rfl 0 (Nat.le_refl _) (by decide) (fun v1788 T1788 L1788 X1788 hQ1788 => ?_)
      obtain ⟨rfl, N1788q, e1788⟩ := hQ1788
      have N1788 := Fr.app N1744 N1788q
      refine own_nv (own_il X1788 q d0_217 rfl (own_il X1788 q d0_219 rfl ?_))
      obtain ⟨z1789, hz1789⟩ : ∃ z, own_min z1711 z1719 = z := ⟨_, rfl⟩
      refine own_cS X1788 q hZ e1788 hown hml (W 5 rfl) (W 6 rfl) (W 7 rfl) (W 8 rfl) (rm2 l Z a0 hw z1711 z1719 z1789 h1744 n0 zs1745 hz1789) d0_221 [(.int z1711), (.int z1719)] [(.int z1787)] own_pd0 rfl rfl 1 (Nat.le_refl _) (by decide) (fun v1790 T1790 L1790 X1790 hQ1790 => ?_)
      obtain ⟨rfl, N1790q, e1790⟩ := hQ1790
      have N1790 := Fr.app N1788 N1790q
      refine own_nv (own_k X1790 q d0_224 (own_iadd X1790 q d0_225 (own_cn X1790 q d0_226 ((flt ((fun r => (own_tc hokA hokB hz1787 hz1789).mp r tw1) : ¬ ((z1789 + (1 : Int32)) < z1787))).2.2.1) (own_k X1790 q d0_229 (own_gt X1790 q d0_230 (own_is X1790 q d0_234 (l' := #[.val (.int p1), .val (.int p2), .val (.int p3), .val (.int p4), .val (.int p5), .val (.int z1705), .val (.int z1707), .val (.int z1709), .val (.int z1711), .val (.int z1713), .val (.int z1715), .val (.int z1717), .val (.int z1719), .val (.ref b1722), .val (.ref b1722), .val (.ref b1722), .val (.ref x1744), .val v'0, .val v'1, .val v'1, .unset]) rfl (own_il X1790 q d0_236 rfl (own_zn X1790 q d0_238 (((if0 _ _).trans (feq ((by decide) : ¬ ((1 : Int32) = (0 : Int32)))).1)) (own_k X1790 q d0_241 (own_gt X1790 q d0_242 (own_is X1790 q d0_246 (l' := #[.val (.int p1), .val (.int p2), .val (.int p3), .val (.int p4), .val (.int p5), .val (.int z1705), .val (.int z1707), .val (.int z1709), .val (.int z1711), .val (.int z1713), .val (.int z1715), .val (.int z1717), .val (.int z1719), .val (.ref b1722), .val (.ref b1722), .val (.ref b1722), .val (.ref x1744), .val v'0, .val v'1, .val v'1, .val v'1]) rfl ?_)))))))))))
      refine own_al X1790 q d0_248 rfl rfl (own_al X1790 q d0_250 rfl rfl (own_stp 255 (fun _ k => Jvm.RoadKit.acmp (g := mkF m 252 _ _) X1790 hx rfl rfl rfl (pc0 := 252) (pc' := 255) (same := true) rfl (q.d d0_252) rfl (decide_eq_true rfl) (by decide) (by decide) k) (own_al X1790 q d0_255 rfl rfl (own_al X1790 q d0_257 rfl rfl (own_stp 262 (fun _ k => Jvm.RoadKit.acmp (g := mkF m 259 _ _) X1790 hx rfl rfl rfl (pc0 := 259) (pc' := 262) (same := true) rfl (q.d d0_259) rfl (decide_eq_true rfl) (by decide) (by decide) k) (own_al X1790 q d0_262 rfl rfl (own_il X1790 q d0_264 rfl ?_)))))))
      refine own_cV X1790 q hZ e1790 hown hml (W 72 rfl) (W 73 rfl) (W 75 rfl) (W 74 rfl) (W 62 rfl) (W 76 rfl) rfl Ex1744 (rm14_2 l Z a0 hw x1744 p5 r1744 b1744 ka1744 kb1744 r0 r1 ua1744 ub1744 h1744 n0 zs1745 Fa1744 Fb1744 Vr V1744 tw.2.2.2 tw.2.1) d0_266 [(.int p5)] [] own_pd13 rfl rfl 0 (Nat.le_refl _) (by decide) (fun v1791 T1791 L1791 X1791 hQ1791 => ?_)
      obtain ⟨z1791, rfl, N1791q, e1791, hM1791⟩ := hQ1791
      have N1791 := Fr.app N1790 N1791q
      refine own_nv (own_il X1791 q d0_269 rfl (own_zn X1791 q d0_271 (((if0 _ _).trans (teq (rfl : (0 : Int32) = (0 : Int32))).2)) (own_il X1791 q d0_274 rfl (own_zn X1791 q d0_276 (((if0 _ _).trans (feq ((by decide) : ¬ ((1 : Int32) = (0 : Int32)))).1)) (own_k X1791 q d0_279 (own_gt X1791 q d0_280 ?_))))))
      have hE1792 : z1791 = (1 : Int32) := by
       simp only [Int32.lt_iff_toInt_lt] at hc172_1746 hc179_1770 hc193_1771 hc200_1779
       unfold own_ok at hokA hokB
       rcases hM1791 with ⟨hq, r⟩ | ⟨hq, r⟩
       ·exact hq
       ·exact absurd ((tw.2.2.1 p5).mpr (by unfold own_in; omega)) r
      refine own_cn X1791 q d0_284 ((teq (hE1792 : z1791 = (1 : Int32))).2) (own_al X1791 q d0_287 rfl rfl ?_)
      refine own_cV X1791 q hZ e1791 hown hml (W 77 rfl) (W 78 rfl) (W 80 rfl) (W 79 rfl) (W 62 rfl) (W 81 rfl) rfl Ex1744 (rm15_2 l Z a0 hw x1744 r1744 ka1744 r0 r1 h1744 n0 zs1745 Fa1744 Vr) d0_289 [] [] own_pd14 rfl rfl 0 (Nat.le_refl _) (by decide) (fun v1793 T1793 L1793 X1793 hQ1793 => ?_)
      obtain ⟨rfl, N1793q, e1793⟩ := hQ1793
      have N1793 := Fr.app N1791 N1793q
      refine own_nv (own_il X1793 q d0_292 rfl (own_cn X1793 q d0_294 ((teq (rfl : (1 : Int32) = (1 : Int32))).2) (own_k X1793 q d0_297 (own_gt X1793 q d0_298 ?_))))
      refine own_rN X1793 q hrt (by simp) d0_302 hlk (by decide) ?_
      exact ⟨rfl, N1793⟩
   ·refine own_cn X1744 q d0_179 ((flt hc179_1770).2.2.1) (own_k X1744 q d0_182 (own_gt X1744 q d0_183 (own_is X1744 q d0_187 (l' := #[.val (.int p1), .val (.int p2), .val (.int p3), .val (.int p4), .val (.int p5), .val (.int z1705), .val (.int z1707), .val (.int z1709), .val (.int z1711), .val (.int z1713), .val (.int z1715), .val (.int z1717), .val (.int z1719), .val (.ref b1722), .val (.ref b1722), .val (.ref b1722), .val (.ref x1744), .val v'1, .unset, .unset, .unset]) rfl (own_il X1744 q d0_189 rfl (own_il X1744 q d0_191 rfl ?_)))))
    by_cases hc193_1794 : p5 < z1717
    ·refine own_cy X1744 q d0_193 ((tlt hc193_1794).2.2.1) (own_k X1744 q d0_207 (own_is X1744 q d0_208 (l' := #[.val (.int p1), .val (.int p2), .val (.int p3), .val (.int p4), .val (.int p5), .val (.int z1705), .val (.int z1707), .val (.int z1709), .val (.int z1711), .val (.int z1713), .val (.int z1715), .val (.int z1717), .val (.int z1719), .val (.ref b1722), .val (.ref b1722), .val (.ref b1722), .val (.ref x1744), .val v'1, .val v'0, .unset, .unset]) rfl (own_il X1744 q d0_210 rfl (own_il X1744 q d0_212 rfl ?_))))
     obtain ⟨z1795, hz1795⟩ : ∃ z, own_max z1709 z1717 = z := ⟨_, rfl⟩
     refine own_cS X1744 q hZ e1744' hown hml (W 9 rfl) (W 10 rfl) (W 7 rfl) (W 11 rfl) (rm3 l Z a0 hw z1709 z1717 z1795 h1744 n0 zs1745 hz1795) d0_214 [(.int z1709), (.int z1717)] [] own_pd0 rfl rfl 0 (Nat.le_refl _) (by decide) (fun v1796 T1796 L1796 X1796 hQ1796 => ?_)
     obtain ⟨rfl, N1796q, e1796⟩ := hQ1796
     have N1796 := Fr.app N1744 N1796q
     refine own_nv (own_il X1796 q d0_217 rfl (own_il X1796 q d0_219 rfl ?_))
     obtain ⟨z1797, hz1797⟩ : ∃ z, own_min z1711 z1719 = z := ⟨_, rfl⟩
     refine own_cS X1796 q hZ e1796 hown hml (W 5 rfl) (W 6 rfl) (W 7 rfl) (W 8 rfl) (rm2 l Z a0 hw z1711 z1719 z1797 h1744 n0 zs1745 hz1797) d0_221 [(.int z1711), (.int z1719)] [(.int z1795)] own_pd0 rfl rfl 1 (Nat.le_refl _) (by decide) (fun v1798 T1798 L1798 X1798 hQ1798 => ?_)
     obtain ⟨rfl, N1798q, e1798⟩ := hQ1798
     have N1798 := Fr.app N1796 N1798q
     refine own_nv (own_k X1798 q d0_224 (own_iadd X1798 q d0_225 (own_cn X1798 q d0_226 ((flt ((fun r => (own_tc hokA hokB hz1795 hz1797).mp r tw1) : ¬ ((z1797 + (1 : Int32)) < z1795))).2.2.1) (own_k X1798 q d0_229 (own_gt X1798 q d0_230 (own_is X1798 q d0_234 (l' := #[.val (.int p1), .val (.int p2), .val (.int p3), .val (.int p4), .val (.int p5), .val (.int z1705), .val (.int z1707), .val (.int z1709), .val (.int z1711), .val (.int z1713), .val (.int z1715), .val (.int z1717), .val (.int z1719), .val (.ref b1722), .val (.ref b1722), .val (.ref b1722), .val (.ref x1744), .val v'1, .val v'0, .val v'1, .unset]) rfl (own_il X1798 q d0_236 rfl (own_zn X1798 q d0_238 (((if0 _ _).trans (feq ((by decide) : ¬ ((1 : Int32) = (0 : Int32)))).1)) (own_k X1798 q d0_241 (own_gt X1798 q d0_242 (own_is X1798 q d0_246 (l' := #[.val (.int p1), .val (.int p2), .val (.int p3), .val (.int p4), .val (.int p5), .val (.int z1705), .val (.int z1707), .val (.int z1709), .val (.int z1711), .val (.int z1713), .val (.int z1715), .val (.int z1717), .val (.int z1719), .val (.ref b1722), .val (.ref b1722), .val (.ref b1722), .val (.ref x1744), .val v'1, .val v'0, .val v'1, .val v'1]) rfl ?_)))))))))))
     refine own_al X1798 q d0_248 rfl rfl (own_al X1798 q d0_250 rfl rfl (own_stp 255 (fun _ k => Jvm.RoadKit.acmp (g := mkF m 252 _ _) X1798 hx rfl rfl rfl (pc0 := 252) (pc' := 255) (same := true) rfl (q.d d0_252) rfl (decide_eq_true rfl) (by decide) (by decide) k) (own_al X1798 q d0_255 rfl rfl (own_al X1798 q d0_257 rfl rfl (own_stp 262 (fun _ k => Jvm.RoadKit.acmp (g := mkF m 259 _ _) X1798 hx rfl rfl rfl (pc0 := 259) (pc' := 262) (same := true) rfl (q.d d0_259) rfl (decide_eq_true rfl) (by decide) (by decide) k) (own_al X1798 q d0_262 rfl rfl (own_il X1798 q d0_264 rfl ?_)))))))
     refine own_cV X1798 q hZ e1798 hown hml (W 72 rfl) (W 73 rfl) (W 75 rfl) (W 74 rfl) (W 62 rfl) (W 76 rfl) rfl Ex1744 (rm14_2 l Z a0 hw x1744 p5 r1744 b1744 ka1744 kb1744 r0 r1 ua1744 ub1744 h1744 n0 zs1745 Fa1744 Fb1744 Vr V1744 tw.2.2.2 tw.2.1) d0_266 [(.int p5)] [] own_pd13 rfl rfl 0 (Nat.le_refl _) (by decide) (fun v1799 T1799 L1799 X1799 hQ1799 => ?_)
     obtain ⟨z1799, rfl, N1799q, e1799, hM1799⟩ := hQ1799
     have N1799 := Fr.app N1798 N1799q
     refine own_nv (own_il X1799 q d0_269 rfl (own_zy X1799 q d0_271 (((if0 _ _).trans (feq ((by decide) : ¬ ((1 : Int32) = (0 : Int32)))).2)) (own_k X1799 q d0_279 (own_gt X1799 q d0_280 ?_))))
     have hE1800 : z1799 = (1 : Int32) := by
      simp only [Int32.lt_iff_toInt_lt] at hc172_1746 hc179_1770 hc193_1794
      unfold own_ok at hokA hokB
      rcases hM1799 with ⟨hq, r⟩ | ⟨hq, r⟩
      ·exact hq
      ·exact absurd ((tw.2.2.1 p5).mpr (by unfold own_in; omega)) r
     refine own_cn X1799 q d0_284 ((teq (hE1800 : z1799 = (1 : Int32))).2) (own_al X1799 q d0_287 rfl rfl ?_)
     refine own_cV X1799 q hZ e1799 hown hml (W 77 rfl) (W 78 rfl) (W 80 rfl) (W 79 rfl) (W 62 rfl) (W 81 rfl) rfl Ex1744 (rm15_2 l Z a0 hw x1744 r1744 ka1744 r0 r1 h1744 n0 zs1745 Fa1744 Vr) d0_289 [] [] own_pd14 rfl rfl 0 (Nat.le_refl _) (by decide) (fun v1801 T1801 L1801 X1801 hQ1801 => ?_)
     obtain ⟨rfl, N1801q, e1801⟩ := hQ1801
     have N1801 := Fr.app N1799 N1801q
     refine own_nv (own_il X1801 q d0_292 rfl (own_cn X1801 q d0_294 ((teq (rfl : (1 : Int32) = (1 : Int32))).2) (own_k X1801 q d0_297 (own_gt X1801 q d0_298 ?_))))
     refine own_rN X1801 q hrt (by simp) d0_302 hlk (by decide) ?_
     exact ⟨rfl, N1801⟩
    ·refine own_cn X1744 q d0_193 ((flt hc193_1794).2.2.1) (own_il X1744 q d0_196 rfl (own_il X1744 q d0_198 rfl ?_))
     by_cases hc200_1802 : z1719 < p5
     ·refine own_cy X1744 q d0_200 ((tlt hc200_1802).2.2.1) (own_k X1744 q d0_207 (own_is X1744 q d0_208 (l' := #[.val (.int p1), .val (.int p2), .val (.int p3), .val (.int p4), .val (.int p5), .val (.int z1705), .val (.int z1707), .val (.int z1709), .val (.int z1711), .val (.int z1713), .val (.int z1715), .val (.int z1717), .val (.int z1719), .val (.ref b1722), .val (.ref b1722), .val (.ref b1722), .val (.ref x1744), .val v'1, .val v'0, .unset, .unset]) rfl (own_il X1744 q d0_210 rfl (own_il X1744 q d0_212 rfl ?_))))
      obtain ⟨z1803, hz1803⟩ : ∃ z, own_max z1709 z1717 = z := ⟨_, rfl⟩
      refine own_cS X1744 q hZ e1744' hown hml (W 9 rfl) (W 10 rfl) (W 7 rfl) (W 11 rfl) (rm3 l Z a0 hw z1709 z1717 z1803 h1744 n0 zs1745 hz1803) d0_214 [(.int z1709), (.int z1717)] [] own_pd0 rfl rfl 0 (Nat.le_refl _) (by decide) (fun v1804 T1804 L1804 X1804 hQ1804 => ?_)
      obtain ⟨rfl, N1804q, e1804⟩ := hQ1804
      have N1804 := Fr.app N1744 N1804q
      refine own_nv (own_il X1804 q d0_217 rfl (own_il X1804 q d0_219 rfl ?_))
      obtain ⟨z1805, hz1805⟩ : ∃ z, own_min z1711 z1719 = z := ⟨_, rfl⟩
      refine own_cS X1804 q hZ e1804 hown hml (W 5 rfl) (W 6 rfl) (W 7 rfl) (W 8 rfl) (rm2 l Z a0 hw z1711 z1719 z1805 h1744 n0 zs1745 hz1805) d0_221 [(.int z1711), (.int z1719)] [(.int z1803)] own_pd0 rfl rfl 1 (Nat.le_refl _) (by decide) (fun v1806 T1806 L1806 X1806 hQ1806 => ?_)
      obtain ⟨rfl, N1806q, e1806⟩ := hQ1806
      have N1806 := Fr.app N1804 N1806q
      refine own_nv (own_k X1806 q d0_224 (own_iadd X1806 q d0_225 (own_cn X1806 q d0_226 ((flt ((fun r => (own_tc hokA hokB hz1803 hz1805).mp r tw1) : ¬ ((z1805 + (1 : Int32)) < z1803))).2.2.1) (own_k X1806 q d0_229 (own_gt X1806 q d0_230 (own_is X1806 q d0_234 (l' := #[.val (.int p1), .val (.int p2), .val (.int p3), .val (.int p4), .val (.int p5), .val (.int z1705), .val (.int z1707), .val (.int z1709), .val (.int z1711), .val (.int z1713), .val (.int z1715), .val (.int z1717), .val (.int z1719), .val (.ref b1722), .val (.ref b1722), .val (.ref b1722), .val (.ref x1744), .val v'1, .val v'0, .val v'1, .unset]) rfl (own_il X1806 q d0_236 rfl (own_zn X1806 q d0_238 (((if0 _ _).trans (feq ((by decide) : ¬ ((1 : Int32) = (0 : Int32)))).1)) (own_k X1806 q d0_241 (own_gt X1806 q d0_242 (own_is X1806 q d0_246 (l' := #[.val (.int p1), .val (.int p2), .val (.int p3), .val (.int p4), .val (.int p5), .val (.int z1705), .val (.int z1707), .val (.int z1709), .val (.int z1711), .val (.int z1713), .val (.int z1715), .val (.int z1717), .val (.int z1719), .val (.ref b1722), .val (.ref b1722), .val (.ref b1722), .val (.ref x1744), .val v'1, .val v'0, .val v'1, .val v'1]) rfl ?_)))))))))))
      refine own_al X1806 q d0_248 rfl rfl (own_al X1806 q d0_250 rfl rfl (own_stp 255 (fun _ k => Jvm.RoadKit.acmp (g := mkF m 252 _ _) X1806 hx rfl rfl rfl (pc0 := 252) (pc' := 255) (same := true) rfl (q.d d0_252) rfl (decide_eq_true rfl) (by decide) (by decide) k) (own_al X1806 q d0_255 rfl rfl (own_al X1806 q d0_257 rfl rfl (own_stp 262 (fun _ k => Jvm.RoadKit.acmp (g := mkF m 259 _ _) X1806 hx rfl rfl rfl (pc0 := 259) (pc' := 262) (same := true) rfl (q.d d0_259) rfl (decide_eq_true rfl) (by decide) (by decide) k) (own_al X1806 q d0_262 rfl rfl (own_il X1806 q d0_264 rfl ?_)))))))
      refine own_cV X1806 q hZ e1806 hown hml (W 72 rfl) (W 73 rfl) (W 75 rfl) (W 74 rfl) (W 62 rfl) (W 76 rfl) rfl Ex1744 (rm14_2 l Z a0 hw x1744 p5 r1744 b1744 ka1744 kb1744 r0 r1 ua1744 ub1744 h1744 n0 zs1745 Fa1744 Fb1744 Vr V1744 tw.2.2.2 tw.2.1) d0_266 [(.int p5)] [] own_pd13 rfl rfl 0 (Nat.le_refl _) (by decide) (fun v1807 T1807 L1807 X1807 hQ1807 => ?_)
      obtain ⟨z1807, rfl, N1807q, e1807, hM1807⟩ := hQ1807
      have N1807 := Fr.app N1806 N1807q
      refine own_nv (own_il X1807 q d0_269 rfl (own_zy X1807 q d0_271 (((if0 _ _).trans (feq ((by decide) : ¬ ((1 : Int32) = (0 : Int32)))).2)) (own_k X1807 q d0_279 (own_gt X1807 q d0_280 ?_))))
      have hE1808 : z1807 = (1 : Int32) := by
       simp only [Int32.lt_iff_toInt_lt] at hc172_1746 hc179_1770 hc193_1794 hc200_1802
       unfold own_ok at hokA hokB
       rcases hM1807 with ⟨hq, r⟩ | ⟨hq, r⟩
       ·exact hq
       ·exact absurd ((tw.2.2.1 p5).mpr (by unfold own_in; omega)) r
      refine own_cn X1807 q d0_284 ((teq (hE1808 : z1807 = (1 : Int32))).2) (own_al X1807 q d0_287 rfl rfl ?_)
      refine own_cV X1807 q hZ e1807 hown hml (W 77 rfl) (W 78 rfl) (W 80 rfl) (W 79 rfl) (W 62 rfl) (W 81 rfl) rfl Ex1744 (rm15_2 l Z a0 hw x1744 r1744 ka1744 r0 r1 h1744 n0 zs1745 Fa1744 Vr) d0_289 [] [] own_pd14 rfl rfl 0 (Nat.le_refl _) (by decide) (fun v1809 T1809 L1809 X1809 hQ1809 => ?_)
      obtain ⟨rfl, N1809q, e1809⟩ := hQ1809
      have N1809 := Fr.app N1807 N1809q
      refine own_nv (own_il X1809 q d0_292 rfl (own_cn X1809 q d0_294 ((teq (rfl : (1 : Int32) = (1 : Int32))).2) (own_k X1809 q d0_297 (own_gt X1809 q d0_298 ?_))))
      refine own_rN X1809 q hrt (by simp) d0_302 hlk (by decide) ?_
      exact ⟨rfl, N1809⟩
     ·refine own_cn X1744 q d0_200 ((flt hc200_1802).2.2.1) (own_k X1744 q d0_203 (own_gt X1744 q d0_204 (own_is X1744 q d0_208 (l' := #[.val (.int p1), .val (.int p2), .val (.int p3), .val (.int p4), .val (.int p5), .val (.int z1705), .val (.int z1707), .val (.int z1709), .val (.int z1711), .val (.int z1713), .val (.int z1715), .val (.int z1717), .val (.int z1719), .val (.ref b1722), .val (.ref b1722), .val (.ref b1722), .val (.ref x1744), .val v'1, .val v'1, .unset, .unset]) rfl (own_il X1744 q d0_210 rfl (own_il X1744 q d0_212 rfl ?_)))))
      obtain ⟨z1810, hz1810⟩ : ∃ z, own_max z1709 z1717 = z := ⟨_, rfl⟩
      refine own_cS X1744 q hZ e1744' hown hml (W 9 rfl) (W 10 rfl) (W 7 rfl) (W 11 rfl) (rm3 l Z a0 hw z1709 z1717 z1810 h1744 n0 zs1745 hz1810) d0_214 [(.int z1709), (.int z1717)] [] own_pd0 rfl rfl 0 (Nat.le_refl _) (by decide) (fun v1811 T1811 L1811 X1811 hQ1811 => ?_)
      obtain ⟨rfl, N1811q, e1811⟩ := hQ1811
      have N1811 := Fr.app N1744 N1811q
      refine own_nv (own_il X1811 q d0_217 rfl (own_il X1811 q d0_219 rfl ?_))
      obtain ⟨z1812, hz1812⟩ : ∃ z, own_min z1711 z1719 = z := ⟨_, rfl⟩
      refine own_cS X1811 q hZ e1811 hown hml (W 5 rfl) (W 6 rfl) (W 7 rfl) (W 8 rfl) (rm2 l Z a0 hw z1711 z1719 z1812 h1744 n0 zs1745 hz1812) d0_221 [(.int z1711), (.int z1719)] [(.int z1810)] own_pd0 rfl rfl 1 (Nat.le_refl _) (by decide) (fun v1813 T1813 L1813 X1813 hQ1813 => ?_)
      obtain ⟨rfl, N1813q, e1813⟩ := hQ1813
      have N1813 := Fr.app N1811 N1813q
      refine own_nv (own_k X1813 q d0_224 (own_iadd X1813 q d0_225 (own_cn X1813 q d0_226 ((flt ((fun r => (own_tc hokA hokB hz1810 hz1812).mp r tw1) : ¬ ((z1812 + (1 : Int32)) < z1810))).2.2.1) (own_k X1813 q d0_229 (own_gt X1813 q d0_230 (own_is X1813 q d0_234 (l' := #[.val (.int p1), .val (.int p2), .val (.int p3), .val (.int p4), .val (.int p5), .val (.int z1705), .val (.int z1707), .val (.int z1709), .val (.int z1711), .val (.int z1713), .val (.int z1715), .val (.int z1717), .val (.int z1719), .val (.ref b1722), .val (.ref b1722), .val (.ref b1722), .val (.ref x1744), .val v'1, .val v'1, .val v'1, .unset]) rfl (own_il X1813 q d0_236 rfl (own_zn X1813 q d0_238 (((if0 _ _).trans (feq ((by decide) : ¬ ((1 : Int32) = (0 : Int32)))).1)) (own_k X1813 q d0_241 (own_gt X1813 q d0_242 (own_is X1813 q d0_246 (l' := #[.val (.int p1), .val (.int p2), .val (.int p3), .val (.int p4), .val (.int p5), .val (.int z1705), .val (.int z1707), .val (.int z1709), .val (.int z1711), .val (.int z1713), .val (.int z1715), .val (.int z1717), .val (.int z1719), .val (.ref b1722), .val (.ref b1722), .val (.ref b1722), .val (.ref x1744), .val v'1, .val v'1, .val v'1, .val v'1]) rfl ?_)))))))))))
      refine own_al X1813 q d0_248 rfl rfl (own_al X1813 q d0_250 rfl rfl (own_stp 255 (fun _ k => Jvm.RoadKit.acmp (g := mkF m 252 _ _) X1813 hx rfl rfl rfl (pc0 := 252) (pc' := 255) (same := true) rfl (q.d d0_252) rfl (decide_eq_true rfl) (by decide) (by decide) k) (own_al X1813 q d0_255 rfl rfl (own_al X1813 q d0_257 rfl rfl (own_stp 262 (fun _ k => Jvm.RoadKit.acmp (g := mkF m 259 _ _) X1813 hx rfl rfl rfl (pc0 := 259) (pc' := 262) (same := true) rfl (q.d d0_259) rfl (decide_eq_true rfl) (by decide) (by decide) k) (own_al X1813 q d0_262 rfl rfl (own_il X1813 q d0_264 rfl ?_)))))))
      refine own_cV X1813 q hZ e1813 hown hml (W 72 rfl) (W 73 rfl) (W 75 rfl) (W 74 rfl) (W 62 rfl) (W 76 rfl) rfl Ex1744 (rm14_2 l Z a0 hw x1744 p5 r1744 b1744 ka1744 kb1744 r0 r1 ua1744 ub1744 h1744 n0 zs1745 Fa1744 Fb1744 Vr V1744 tw.2.2.2 tw.2.1) d0_266 [(.int p5)] [] own_pd13 rfl rfl 0 (Nat.le_refl _) (by decide) (fun v1814 T1814 L1814 X1814 hQ1814 => ?_)
      obtain ⟨z1814, rfl, N1814q, e1814, hM1814⟩ := hQ1814
      have N1814 := Fr.app N1813 N1814q
      refine own_nv (own_il X1814 q d0_269 rfl (own_zy X1814 q d0_271 (((if0 _ _).trans (feq ((by decide) : ¬ ((1 : Int32) = (0 : Int32)))).2)) (own_k X1814 q d0_279 (own_gt X1814 q d0_280 ?_))))
      have hE1815 : z1814 = (1 : Int32) := by
       simp only [Int32.lt_iff_toInt_lt] at hc172_1746 hc179_1770 hc193_1794 hc200_1802
       unfold own_ok at hokA hokB
       rcases hM1814 with ⟨hq, r⟩ | ⟨hq, r⟩
       ·exact hq
       ·exact absurd ((tw.2.2.1 p5).mpr (by unfold own_in; omega)) r
      refine own_cn X1814 q d0_284 ((teq (hE1815 : z1814 = (1 : Int32))).2) (own_al X1814 q d0_287 rfl rfl ?_)
      refine own_cV X1814 q hZ e1814 hown hml (W 77 rfl) (W 78 rfl) (W 80 rfl) (W 79 rfl) (W 62 rfl) (W 81 rfl) rfl Ex1744 (rm15_2 l Z a0 hw x1744 r1744 ka1744 r0 r1 h1744 n0 zs1745 Fa1744 Vr) d0_289 [] [] own_pd14 rfl rfl 0 (Nat.le_refl _) (by decide) (fun v1816 T1816 L1816 X1816 hQ1816 => ?_)
      obtain ⟨rfl, N1816q, e1816⟩ := hQ1816
      have N1816 := Fr.app N1814 N1816q
      refine own_nv (own_il X1816 q d0_292 rfl (own_cn X1816 q d0_294 ((teq (rfl : (1 : Int32) = (1 : Int32))).2) (own_k X1816 q d0_297 (own_gt X1816 q d0_298 ?_))))
      refine own_rN X1816 q hrt (by simp) d0_302 hlk (by decide) ?_
      exact ⟨rfl, N1816⟩
 ·have tw1 := tw.1
  show own_Fin _ _ _ _ (T1744.setTop (mkF m 166 #[.val (.int p1), .val (.int p2), .val (.int p3), .val (.int p4), .val (.int p5), .val (.int z1705), .val (.int z1707), .val (.int z1709), .val (.int z1711), .val (.int z1713), .val (.int z1715), .val (.int z1717), .val (.int z1719), .val (.ref b1722), .val (.ref b1722), .val (.ref b1722), .unset, .unset, .unset, .unset, .unset] [(.ref x1744)]))
  refine own_as X1744 q d0_166 rfl (l' := #[.val (.int p1), .val (.int p2), .val (.int p3), .val (.int p4), .val (.int p5), .val (.int z1705), .val (.int z1707), .val (.int z1709), .val (.int z1711), .val (.int z1713), .val (.int z1715), .val (.int z1717), .val (.int z1719), .val (.ref b1722), .val (.ref b1722), .val (.ref b1722), .val (.ref x1744), .unset, .unset, .unset, .unset]) rfl (own_il X1744 q d0_168 rfl (own_il X1744 q d0_170 rfl ?_))
  by_cases hc172_1817 : p5 < z1709
  ·refine own_cy X1744 q d0_172 ((tlt hc172_1817).2.2.1) (own_k X1744 q d0_186 (own_is X1744 q d0_187 (l' := #[.val (.int p1), .val (.int p2), .val (.int p3), .val (.int p4), .val (.int p5), .val (.int z1705), .val (.int z1707), .val (.int z1709), .val (.int z1711), .val (.int z1713), .val (.int z1715), .val (.int z1717), .val (.int z1719), .val (.ref b1722), .val (.ref b1722), .val (.ref b1722), .val (.ref x1744), .val v'0, .unset, .unset, .unset]) rfl (own_il X1744 q d0_189 rfl (own_il X1744 q d0_191 rfl ?_))))
   by_cases hc193_1818 : p5 < z1717
   ·refine own_cy X1744 q d0_193 ((tlt hc193_1818).2.2.1) (own_k X1744 q d0_207 (own_is X1744 q d0_208 (l' := #[.val (.int p1), .val (.int p2), .val (.int p3), .val (.int p4), .val (.int p5), .val (.int z1705), .val (.int z1707), .val (.int z1709), .val (.int z1711), .val (.int z1713), .val (.int z1715), .val (.int z1717), .val (.int z1719), .val (.ref b1722), .val (.ref b1722), .val (.ref b1722), .val (.ref x1744), .val v'0, .val v'0, .unset, .unset]) rfl (own_il X1744 q d0_210 rfl (own_il X1744 q d0_212 rfl ?_))))
    obtain ⟨z1819, hz1819⟩ : ∃ z, own_max z1709 z1717 = z := ⟨_, rfl⟩
    refine own_cS X1744 q hZ e1744' hown hml (W 9 rfl) (W 10 rfl) (W 7 rfl) (W 11 rfl) (rm3 l Z a0 hw z1709 z1717 z1819 h1744 n0 zs1745 hz1819) d0_214 [(.int z1709), (.int z1717)] [] own_pd0 rfl rfl 0 (Nat.le_refl _) (by decide) (fun v1820 T1820 L1820 X1820 hQ1820 => ?_)
    obtain ⟨rfl, N1820q, e1820⟩ := hQ1820
    have N1820 := Fr.app N1744 N1820q
    refine own_nv (own_il X1820 q d0_217 rfl (own_il X1820 q d0_219 rfl ?_))
    obtain ⟨z1821, hz1821⟩ : ∃ z, own_min z1711 z1719 = z := ⟨_, rfl⟩
    refine own_cS X1820 q hZ e1820 hown hml (W 5 rfl) (W 6 rfl) (W 7 rfl) (W 8 rfl) (rm2 l Z a0 hw z1711 z1719 z1821 h1744 n0 zs1745 hz1821) d0_221 [(.int z1711), (.int z1719)] [(.int z1819)] own_pd0 rfl rfl 1 (Nat.le_refl _) (by decide) (fun v1822 T1822 L1822 X1822 hQ1822 => ?_)
    obtain ⟨rfl, N1822q, e1822⟩ := hQ1822
    have N1822 := Fr.app N1820 N1822q
    refine own_nv (own_k X1822 q d0_224 (own_iadd X1822 q d0_225 (own_cy X1822 q d0_226 ((tlt (((own_tc hokA hokB hz1819 hz1821).mpr tw1) : (z1821 + (1 : Int32)) < z1819)).2.2.1) (own_k X1822 q d0_233 (own_is X1822 q d0_234 (l' := #[.val (.int p1), .val (.int p2), .val (.int p3), .val (.int p4), .val (.int p5), .val (.int z1705), .val (.int z1707), .val (.int z1709), .val (.int z1711), .val (.int z1713), .val (.int z1715), .val (.int z1717), .val (.int z1719), .val (.ref b1722), .val (.ref b1722), .val (.ref b1722), .val (.ref x1744), .val v'0, .val v'0, .val v'0, .unset]) rfl (own_il X1822 q d0_236 rfl (own_zy X1822 q d0_238 (((if0 _ _).trans (teq (rfl : (0 : Int32) = (0 : Int32))).1)) (own_k X1822 q d0_245 (own_is X1822 q d0_246 (l' := #[.val (.int p1), .val (.int p2), .val (.int p3), .val (.int p4), .val (.int p5), .val (.int z1705), .val (.int z1707), .val (.int z1709), .val (.int z1711), .val (.int z1713), .val (.int z1715), .val (.int z1717), .val (.int z1719), .val (.ref b1722), .val (.ref b1722), .val (.ref b1722), .val (.ref x1744), .val v'0, .val v'0, .val v'0, .val v'2]) rfl (own_al X1822 q d0_248 rfl rfl (own_al X1822 q d0_250 rfl rfl ?_)))))))))))
    refine own_stp 255 (fun _ k => Jvm.RoadKit.acmp (g := mkF m 252 _ _) X1822 hx rfl rfl rfl (pc0 := 252) (pc' := 255) (same := true) rfl (q.d d0_252) rfl (decide_eq_true rfl) (by decide) (by decide) k) (own_al X1822 q d0_255 rfl rfl (own_al X1822 q d0_257 rfl rfl (own_stp 262 (fun _ k => Jvm.RoadKit.acmp (g := mkF m 259 _ _) X1822 hx rfl rfl rfl (pc0 := 259) (pc' := 262) (same := true) rfl (q.d d0_259) rfl (decide_eq_true rfl) (by decide) (by decide) k) (own_al X1822 q d0_262 rfl rfl (own_il X1822 q d0_264 rfl ?_)))))
    refine own_cV X1822 q hZ e1822 hown hml (W 72 rfl) (W 73 rfl) (W 75 rfl) (W 74 rfl) (W 62 rfl) (W 76 rfl) rfl Ex1744 (rm14_4 l Z a0 hw x1744 p5 r1744 b1744 ka1744 kb1744 r0 r1 r2 r3 ua1744 ub1744 h1744 n0 zs1745 Fa1744 Fb1744 Vr V1744 tw.2.2.2.2.2 tw.2.1 tw.2.2.1 tw.2.2.2.1) d0_266 [(.int p5)] [] own_pd13 rfl rfl 0 (Nat.le_refl _) (by decide) (fun v1823 T1823 L1823 X1823 hQ1823 => ?_)
    obtain ⟨z1823, rfl, N1823q, e1823, hM1823⟩ := hQ1823
    have N1823 := Fr.app N1822 N1823q
    refine own_nv (own_il X1823 q d0_269 rfl (own_zn X1823 q d0_271 (((if0 _ _).trans (teq (rfl : (0 : Int32) = (0 : Int32))).2)) (own_il X1823 q d0_274 rfl (own_zy X1823 q d0_276 (((if0 _ _).trans (teq (rfl : (0 : Int32) = (0 : Int32))).1)) (own_k X1823 q d0_283 ?_)))))
    have hE1824 : z1823 = (0 : Int32) := by
     simp only [Int32.lt_iff_toInt_lt] at hc172_1817 hc193_1818
     unfold own_ok at hokA hokB
     rcases hM1823 with ⟨hq, r⟩ | ⟨hq, r⟩
     ·have r2 := (tw.2.2.2.2.1 p5).mp r
      unfold own_in at r2
      omega
     ·exact hq
    refine own_cn X1823 q d0_284 ((teq (hE1824 : z1823 = (0 : Int32))).2) (own_al X1823 q d0_287 rfl rfl ?_)
    refine own_cV X1823 q hZ e1823 hown hml (W 77 rfl) (W 78 rfl) (W 80 rfl) (W 79 rfl) (W 62 rfl) (W 81 rfl) rfl Ex1744 (rm15_4 l Z a0 hw x1744 r1744 ka1744 r0 r1 r2 r3 h1744 n0 zs1745 Fa1744 Vr) d0_289 [] [] own_pd14 rfl rfl 0 (Nat.le_refl _) (by decide) (fun v1825 T1825 L1825 X1825 hQ1825 => ?_)
    obtain ⟨rfl, N1825q, e1825⟩ := hQ1825
    have N1825 := Fr.app N1823 N1825q
    refine own_nv (own_il X1825 q d0_292 rfl (own_cn X1825 q d0_294 ((teq (rfl : (2 : Int32) = (2 : Int32))).2) (own_k X1825 q d0_297 (own_gt X1825 q d0_298 ?_))))
    refine own_rN X1825 q hrt (by simp) d0_302 hlk (by decide) ?_
    exact ⟨rfl, N1825⟩
   ·refine own_cn X1744 q d0_193 ((flt hc193_1818).2.2.1) (own_il X1744 q d0_196 rfl (own_il X1744 q d0_198 rfl ?_))
    by_cases hc200_1826 : z1719 < p5
    ·refine own_cy X1744 q d0_200 ((tlt hc200_1826).2.2.1) (own_k X1744 q d0_207 (own_is X1744 q d0_208 (l' := #[.val (.int p1), .val (.int p2), .val (.int p3), .val (.int p4), .val (.int p5), .val (.int z1705), .val (.int z1707), .val (.int z1709), .val (.int z1711), .val (.int z1713), .val (.int z1715), .val (.int z1717), .val (.int z1719), .val (.ref b1722), .val (.ref b1722), .val (.ref b1722), .val (.ref x1744), .val v'0, .val v'0, .unset, .unset]) rfl (own_il X1744 q d0_210 rfl (own_il X1744 q d0_212 rfl ?_))))
     obtain ⟨z1827, hz1827⟩ : ∃ z, own_max z1709 z1717 = z := ⟨_, rfl⟩
     refine own_cS X1744 q hZ e1744' hown hml (W 9 rfl) (W 10 rfl) (W 7 rfl) (W 11 rfl) (rm3 l Z a0 hw z1709 z1717 z1827 h1744 n0 zs1745 hz1827) d0_214 [(.int z1709), (.int z1717)] [] own_pd0 rfl rfl 0 (Nat.le_refl _) (by decide) (fun v1828 T1828 L1828 X1828 hQ1828 => ?_)
     obtain ⟨rfl, N1828q, e1828⟩ := hQ1828
     have N1828 := Fr.app N1744 N1828q
     refine own_nv (own_il X1828 q d0_217 rfl (own_il X1828 q d0_219 rfl ?_))
     obtain ⟨z1829, hz1829⟩ : ∃ z, own_min z1711 z1719 = z := ⟨_, rfl⟩
     refine own_cS X1828 q hZ e1828 hown hml (W 5 rfl) (W 6 rfl) (W 7 rfl) (W 8 rfl) (rm2 l Z a0 hw z1711 z1719 z1829 h1744 n0 zs1745 hz1829) d0_221 [(.int z1711), (.int z1719)] [(.int z1827)] own_pd0 rfl rfl 1 (Nat.le_refl _) (by decide) (fun v1830 T1830 L1830 X1830 hQ1830 => ?_)
     obtain ⟨rfl, N1830q, e1830⟩ := hQ1830
     have N1830 := Fr.app N1828 N1830q
     refine own_nv (own_k X1830 q d0_224 (own_iadd X1830 q d0_225 (own_cy X1830 q d0_226 ((tlt (((own_tc hokA hokB hz1827 hz1829).mpr tw1) : (z1829 + (1 : Int32)) < z1827)).2.2.1) (own_k X1830 q d0_233 (own_is X1830 q d0_234 (l' := #[.val (.int p1), .val (.int p2), .val (.int p3), .val (.int p4), .val (.int p5), .val (.int z1705), .val (.int z1707), .val (.int z1709), .val (.int z1711), .val (.int z1713), .val (.int z1715), .val (.int z1717), .val (.int z1719), .val (.ref b1722), .val (.ref b1722), .val (.ref b1722), .val (.ref x1744), .val v'0, .val v'0, .val v'0, .unset]) rfl (own_il X1830 q d0_236 rfl (own_zy X1830 q d0_238 (((if0 _ _).trans (teq (rfl : (0 : Int32) = (0 : Int32))).1)) (own_k X1830 q d0_245 (own_is X1830 q d0_246 (l' := #[.val (.int p1), .val (.int p2), .val (.int p3), .val (.int p4), .val (.int p5), .val (.int z1705), .val (.int z1707), .val (.int z1709), .val (.int z1711), .val (.int z1713), .val (.int z1715), .val (.int z1717), .val (.int z1719), .val (.ref b1722), .val (.ref b1722), .val (.ref b1722), .val (.ref x1744), .val v'0, .val v'0, .val v'0, .val v'2]) rfl (own_al X1830 q d0_248 rfl rfl (own_al X1830 q d0_250 rfl rfl ?_)))))))))))
     refine own_stp 255 (fun _ k => Jvm.RoadKit.acmp (g := mkF m 252 _ _) X1830 hx rfl rfl rfl (pc0 := 252) (pc' := 255) (same := true) rfl (q.d d0_252) rfl (decide_eq_true rfl) (by decide) (by decide) k) (own_al X1830 q d0_255 rfl rfl (own_al X1830 q d0_257 rfl rfl (own_stp 262 (fun _ k => Jvm.RoadKit.acmp (g := mkF m 259 _ _) X1830 hx rfl rfl rfl (pc0 := 259) (pc' := 262) (same := true) rfl (q.d d0_259) rfl (decide_eq_true rfl) (by decide) (by decide) k) (own_al X1830 q d0_262 rfl rfl (own_il X1830 q d0_264 rfl ?_)))))
     refine own_cV X1830 q hZ e1830 hown hml (W 72 rfl) (W 73 rfl) (W 75 rfl) (W 74 rfl) (W 62 rfl) (W 76 rfl) rfl Ex1744 (rm14_4 l Z a0 hw x1744 p5 r1744 b1744 ka1744 kb1744 r0 r1 r2 r3 ua1744 ub1744 h1744 n0 zs1745 Fa1744 Fb1744 Vr V1744 tw.2.2.2.2.2 tw.2.1 tw.2.2.1 tw.2.2.2.1) d0_266 [(.int p5)] [] own_pd13 rfl rfl 0 (Nat.le_refl _) (by decide) (fun v1831 T1831 L1831 X1831 hQ1831 => ?_)
     obtain ⟨z1831, rfl, N1831q, e1831, hM1831⟩ := hQ1831
     have N1831 := Fr.app N1830 N1831q
     refine own_nv (own_il X1831 q d0_269 rfl (own_zn X1831 q d0_271 (((if0 _ _).trans (teq (rfl : (0 : Int32) = (0 : Int32))).2)) (own_il X1831 q d0_274 rfl (own_zy X1831 q d0_276 (((if0 _ _).trans (teq (rfl : (0 : Int32) = (0 : Int32))).1)) (own_k X1831 q d0_283 ?_)))))
     have hE1832 : z1831 = (0 : Int32) := by
      simp only [Int32.lt_iff_toInt_lt] at hc172_1817 hc193_1818 hc200_1826
      unfold own_ok at hokA hokB
      rcases hM1831 with ⟨hq, r⟩ | ⟨hq, r⟩
      ·have r2 := (tw.2.2.2.2.1 p5).mp r
       unfold own_in at r2
       omega
      ·exact hq
     refine own_cn X1831 q d0_284 ((teq (hE1832 : z1831 = (0 : Int32))).2) (own_al X1831 q d0_287 rfl rfl ?_)
     refine own_cV X1831 q hZ e1831 hown hml (W 77 rfl) (W 78 rfl) (W 80 rfl) (W 79 rfl) (W 62 rfl) (W 81 rfl) rfl Ex1744 (rm15_4 l Z a0 hw x1744 r1744 ka1744 r0 r1 r2 r3 h1744 n0 zs1745 Fa1744 Vr) d0_289 [] [] own_pd14 rfl rfl 0 (Nat.le_refl _) (by decide) (fun v1833 T1833 L1833 X1833 hQ1833 => ?_)
     obtain ⟨rfl, N1833q, e1833⟩ := hQ1833
     have N1833 := Fr.app N1831 N1833q
     refine own_nv (own_il X1833 q d0_292 rfl (own_cn X1833 q d0_294 ((teq (rfl : (2 : Int32) = (2 : Int32))).2) (own_k X1833 q d0_297 (own_gt X1833 q d0_298 ?_))))
     refine own_rN X1833 q hrt (by simp) d0_302 hlk (by decide) ?_
     exact ⟨rfl, N1833⟩
    ·refine own_cn X1744 q d0_200 ((flt hc200_1826).2.2.1) (own_k X1744 q d0_203 (own_gt X1744 q d0_204 (own_is X1744 q d0_208 (l' := #[.val (.int p1), .val (.int p2), .val (.int p3), .val (.int p4), .val (.int p5), .val (.int z1705), .val (.int z1707), .val (.int z1709), .val (.int z1711), .val (.int z1713), .val (.int z1715), .val (.int z1717), .val (.int z1719), .val (.ref b1722), .val (.ref b1722), .val (.ref b1722), .val (.ref x1744), .val v'0, .val v'1, .unset, .unset]) rfl (own_il X1744 q d0_210 rfl (own_il X1744 q d0_212 rfl ?_)))))
     obtain ⟨z1834, hz1834⟩ : ∃ z, own_max z1709 z1717 = z := ⟨_, rfl⟩
     refine own_cS X1744 q hZ e1744' hown hml (W 9 rfl) (W 10 rfl) (W 7 rfl) (W 11 rfl) (rm3 l Z a0 hw z1709 z1717 z1834 h1744 n0 zs1745 hz1834) d0_214 [(.int z1709), (.int z1717)] [] own_pd0 rfl rfl 0 (Nat.le_refl _) (by decide) (fun v1835 T1835 L1835 X1835 hQ1835 => ?_)
     obtain ⟨rfl, N1835q, e1835⟩ := hQ1835
     have N1835 := Fr.app N1744 N1835q
     refine own_nv (own_il X1835 q d0_217 rfl (own_il X1835 q d0_219 rfl ?_))
     obtain ⟨z1836, hz1836⟩ : ∃ z, own_min z1711 z1719 = z := ⟨_, rfl⟩
     refine own_cS X1835 q hZ e1835 hown hml (W 5 rfl) (W 6 rfl) (W 7 rfl) (W 8 rfl) (rm2 l Z a0 hw z1711 z1719 z1836 h1744 n0 zs1745 hz1836) d0_221 [(.int z1711), (.int z1719)] [(.int z1834)] own_pd0 rfl rfl 1 (Nat.le_refl _) (by decide) (fun v1837 T1837 L1837 X1837 hQ1837 => ?_)
     obtain ⟨rfl, N1837q, e1837⟩ := hQ1837
     have N1837 := Fr.app N1835 N1837q
     refine own_nv (own_k X1837 q d0_224 (own_iadd X1837 q d0_225 (own_cy X1837 q d0_226 ((tlt (((own_tc hokA hokB hz1834 hz1836).mpr tw1) : (z1836 + (1 : Int32)) < z1834)).2.2.1) (own_k X1837 q d0_233 (own_is X1837 q d0_234 (l' := #[.val (.int p1), .val (.int p2), .val (.int p3), .val (.int p4), .val (.int p5), .val (.int z1705), .val (.int z1707), .val (.int z1709), .val (.int z1711), .val (.int z1713), .val (.int z1715), .val (.int z1717), .val (.int z1719), .val (.ref b1722), .val (.ref b1722), .val (.ref b1722), .val (.ref x1744), .val v'0, .val v'1, .val v'0, .unset]) rfl (own_il X1837 q d0_236 rfl (own_zy X1837 q d0_238 (((if0 _ _).trans (teq (rfl : (0 : Int32) = (0 : Int32))).1)) (own_k X1837 q d0_245 (own_is X1837 q d0_246 (l' := #[.val (.int p1), .val (.int p2), .val (.int p3), .val (.int p4), .val (.int p5), .val (.int z1705), .val (.int z1707), .val (.int z1709), .val (.int z1711), .val (.int z1713), .val (.int z1715), .val (.int z1717), .val (.int z1719), .val (.ref b1722), .val (.ref b1722), .val (.ref b1722), .val (.ref x1744), .val v'0, .val v'1, .val v'0, .val v'2]) rfl (own_al X1837 q d0_248 rfl rfl (own_al X1837 q d0_250 rfl rfl ?_)))))))))))
     refine own_stp 255 (fun _ k => Jvm.RoadKit.acmp (g := mkF m 252 _ _) X1837 hx rfl rfl rfl (pc0 := 252) (pc' := 255) (same := true) rfl (q.d d0_252) rfl (decide_eq_true rfl) (by decide) (by decide) k) (own_al X1837 q d0_255 rfl rfl (own_al X1837 q d0_257 rfl rfl (own_stp 262 (fun _ k => Jvm.RoadKit.acmp (g := mkF m 259 _ _) X1837 hx rfl rfl rfl (pc0 := 259) (pc' := 262) (same := true) rfl (q.d d0_259) rfl (decide_eq_true rfl) (by decide) (by decide) k) (own_al X1837 q d0_262 rfl rfl (own_il X1837 q d0_264 rfl ?_)))))
     refine own_cV X1837 q hZ e1837 hown hml (W 72 rfl) (W 73 rfl) (W 75 rfl) (W 74 rfl) (W 62 rfl) (W 76 rfl) rfl Ex1744 (rm14_4 l Z a0 hw x1744 p5 r1744 b1744 ka1744 kb1744 r0 r1 r2 r3 ua1744 ub1744 h1744 n0 zs1745 Fa1744 Fb1744 Vr V1744 tw.2.2.2.2.2 tw.2.1 tw.2.2.1 tw.2.2.2.1) d0_266 [(.int p5)] [] own_pd13 rfl rfl 0 (Nat.le_refl _) (by decide) (fun v1838 T1838 L1838 X1838 hQ1838 => ?_)
     obtain ⟨z1838, rfl, N1838q, e1838, hM1838⟩ := hQ1838
     have N1838 := Fr.app N1837 N1838q
     refine own_nv (own_il X1838 q d0_269 rfl (own_zn X1838 q d0_271 (((if0 _ _).trans (teq (rfl : (0 : Int32) = (0 : Int32))).2)) (own_il X1838 q d0_274 rfl (own_zn X1838 q d0_276 (((if0 _ _).trans (feq ((by decide) : ¬ ((1 : Int32) = (0 : Int32)))).1)) (own_k X1838 q d0_279 (own_gt X1838 q d0_280 ?_))))))
     have hE1839 : z1838 = (1 : Int32) := by
      simp only [Int32.lt_iff_toInt_lt] at hc172_1817 hc193_1818 hc200_1826
      unfold own_ok at hokA hokB
      rcases hM1838 with ⟨hq, r⟩ | ⟨hq, r⟩
      ·exact hq
      ·exact absurd ((tw.2.2.2.2.1 p5).mpr (by unfold own_in; omega)) r
     refine own_cn X1838 q d0_284 ((teq (hE1839 : z1838 = (1 : Int32))).2) (own_al X1838 q d0_287 rfl rfl ?_)
     refine own_cV X1838 q hZ e1838 hown hml (W 77 rfl) (W 78 rfl) (W 80 rfl) (W 79 rfl) (W 62 rfl) (W 81 rfl) rfl Ex1744 (rm15_4 l Z a0 hw x1744 r1744 ka1744 r0 r1 r2 r3 h1744 n0 zs1745 Fa1744 Vr) d0_289 [] [] own_pd14 rfl rfl 0 (Nat.le_refl _) (by decide) (fun v1840 T1840 L1840 X1840 hQ1840 => ?_)
     obtain ⟨rfl, N1840q, e1840⟩ := hQ1840
     have N1840 := Fr.app N1838 N1840q
     refine own_nv (own_il X1840 q d0_292 rfl (own_cn X1840 q d0_294 ((teq (rfl : (2 : Int32) = (2 : Int32))).2) (own_k X1840 q d0_297 (own_gt X1840 q d0_298 ?_))))
     refine own_rN X1840 q hrt (by simp) d0_302 hlk (by decide) ?_
     exact ⟨rfl, N1840⟩
  ·refine own_cn X1744 q d0_172 ((flt hc172_1817).2.2.1) (own_il X1744 q d0_175 rfl (own_il X1744 q d0_177 rfl ?_))
   by_cases hc179_1841 : z1711 < p5
   ·refine own_cy X1744 q d0_179 ((tlt hc179_1841).2.2.1) (own_k X1744 q d0_186 (own_is X1744 q d0_187 (l' := #[.val (.int p1), .val (.int p2), .val (.int p3), .val (.int p4), .val (.int p5), .val (.int z1705), .val (.int z1707), .val (.int z1709), .val (.int z1711), .val (.int z1713), .val (.int z1715), .val (.int z1717), .val (.int z1719), .val (.ref b1722), .val (.ref b1722), .val (.ref b1722), .val (.ref x1744), .val v'0, .unset, .unset, .unset]) rfl (own_il X1744 q d0_189 rfl (own_il X1744 q d0_191 rfl ?_))))
    by_cases hc193_1842 : p5 < z1717
    ·refine own_cy X1744 q d0_193 ((tlt hc193_1842).2.2.1) (own_k X1744 q d0_207 (own_is X1744 q d0_208 (l' := #[.val (.int p1), .val (.int p2), .val (.int p3), .val (.int p4), .val (.int p5), .val (.int z1705), .val (.int z1707), .val (.int z1709), .val (.int z1711), .val (.int z1713), .val (.int z1715), .val (.int z1717), .val (.int z1719), .val (.ref b1722), .val (.ref b1722), .val (.ref b1722), .val (.ref x1744), .val v'0, .val v'0, .unset, .unset]) rfl (own_il X1744 q d0_210 rfl (own_il X1744 q d0_212 rfl ?_))))
     obtain ⟨z1843, hz1843⟩ : ∃ z, own_max z1709 z1717 = z := ⟨_, rfl⟩
     refine own_cS X1744 q hZ e1744' hown hml (W 9 rfl) (W 10 rfl) (W 7 rfl) (W 11 rfl) (rm3 l Z a0 hw z1709 z1717 z1843 h1744 n0 zs1745 hz1843) d0_214 [(.int z1709), (.int z1717)] [] own_pd0 rfl rfl 0 (Nat.le_refl _) (by decide) (fun v1844 T1844 L1844 X1844 hQ1844 => ?_)
     obtain ⟨rfl, N1844q, e1844⟩ := hQ1844
     have N1844 := Fr.app N1744 N1844q
     refine own_nv (own_il X1844 q d0_217 rfl (own_il X1844 q d0_219 rfl ?_))
     obtain ⟨z1845, hz1845⟩ : ∃ z, own_min z1711 z1719 = z := ⟨_, rfl⟩
     refine own_cS X1844 q hZ e1844 hown hml (W 5 rfl) (W 6 rfl) (W 7 rfl) (W 8 rfl) (rm2 l Z a0 hw z1711 z1719 z1845 h1744 n0 zs1745 hz1845) d0_221 [(.int z1711), (.int z1719)] [(.int z1843)] own_pd0 rfl rfl 1 (Nat.le_refl _) (by decide) (fun v1846 T1846 L1846 X1846 hQ1846 => ?_)
     obtain ⟨rfl, N1846q, e1846⟩ := hQ1846
     have N1846 := Fr.app N1844 N1846q
     refine own_nv (own_k X1846 q d0_224 (own_iadd X1846 q d0_225 (own_cy X1846 q d0_226 ((tlt (((own_tc hokA hokB hz1843 hz1845).mpr tw1) : (z1845 + (1 : Int32)) < z1843)).2.2.1) (own_k X1846 q d0_233 (own_is X1846 q d0_234 (l' := #[.val (.int p1), .val (.int p2), .val (.int p3), .val (.int p4), .val (.int p5), .val (.int z1705), .val (.int z1707), .val (.int z1709), .val (.int z1711), .val (.int z1713), .val (.int z1715), .val (.int z1717), .val (.int z1719), .val (.ref b1722), .val (.ref b1722), .val (.ref b1722), .val (.ref x1744), .val v'0, .val v'0, .val v'0, .unset]) rfl (own_il X1846 q d0_236 rfl (own_zy X1846 q d0_238 (((if0 _ _).trans (teq (rfl : (0 : Int32) = (0 : Int32))).1)) (own_k X1846 q d0_245 (own_is X1846 q d0_246 (l' := #[.val (.int p1), .val (.int p2), .val (.int p3), .val (.int p4), .val (.int p5), .val (.int z1705), .val (.int z1707), .val (.int z1709), .val (.int z1711), .val (.int z1713), .val (.int z1715), .val (.int z1717), .val (.int z1719), .val (.ref b1722), .val (.ref b1722), .val (.ref b1722), .val (.ref x1744), .val v'0, .val v'0, .val v'0, .val v'2]) rfl (own_al X1846 q d0_248 rfl rfl (own_al X1846 q d0_250 rfl rfl ?_)))))))))))
     refine own_stp 255 (fun _ k => Jvm.RoadKit.acmp (g := mkF m 252 _ _) X1846 hx rfl rfl rfl (pc0 := 252) (pc' := 255) (same := true) rfl (q.d d0_252) rfl (decide_eq_true rfl) (by decide) (by decide) k) (own_al X1846 q d0_255 rfl rfl (own_al X1846 q d0_257 rfl rfl (own_stp 262 (fun _ k => Jvm.RoadKit.acmp (g := mkF m 259 _ _) X1846 hx rfl rfl rfl (pc0 := 259) (pc' := 262) (same := true) rfl (q.d d0_259) rfl (decide_eq_true rfl) (by decide) (by decide) k) (own_al X1846 q d0_262 rfl rfl (own_il X1846 q d0_264 rfl ?_)))))
     refine own_cV X1846 q hZ e1846 hown hml (W 72 rfl) (W 73 rfl) (W 75 rfl) (W 74 rfl) (W 62 rfl) (W 76 rfl) rfl Ex1744 (rm14_4 l Z a0 hw x1744 p5 r1744 b1744 ka1744 kb1744 r0 r1 r2 r3 ua1744 ub1744 h1744 n0 zs1745 Fa1744 Fb1744 Vr V1744 tw.2.2.2.2.2 tw.2.1 tw.2.2.1 tw.2.2.2.1) d0_266 [(.int p5)] [] own_pd13 rfl rfl 0 (Nat.le_refl _) (by decide) (fun v1847 T1847 L1847 X1847 hQ1847 => ?_)
     obtain ⟨z1847, rfl, N1847q, e1847, hM1847⟩ := hQ1847
     have N1847 := Fr.app N1846 N1847q
     refine own_nv (own_il X1847 q d0_269 rfl (own_zn X1847 q d0_271 (((if0 _ _).trans (teq (rfl : (0 : Int32) = (0 : Int32))).2)) (own_il X1847 q d0_274 rfl (own_zy X1847 q d0_276 (((if0 _ _).trans (teq (rfl : (0 : Int32) = (0 : Int32))).1)) (own_k X1847 q d0_283 ?_)))))
     have hE1848 : z1847 = (0 : Int32) := by
      simp only [Int32.lt_iff_toInt_lt] at hc172_1817 hc179_1841 hc193_1842
      unfold own_ok at hokA hokB
      rcases hM1847 with ⟨hq, r⟩ | ⟨hq, r⟩
      ·have r2 := (tw.2.2.2.2.1 p5).mp r
       unfold own_in at r2
       omega
      ·exact hq
     refine own_cn X1847 q d0_284 ((teq (hE1848 : z1847 = (0 : Int32))).2) (own_al X1847 q d0_287 rfl rfl ?_)
     refine own_cV X1847 q hZ e1847 hown hml (W 77 rfl) (W 78 rfl) (W 80 rfl) (W 79 rfl) (W 62 rfl) (W 81 rfl) rfl Ex1744 (rm15_4 l Z a0 hw x1744 r1744 ka1744 r0 r1 r2 r3 h1744 n0 zs1745 Fa1744 Vr) d0_289 [] [] own_pd14 rfl rfl 0 (Nat.le_refl _) (by decide) (fun v1849 T1849 L1849 X1849 hQ1849 => ?_)
     obtain ⟨rfl, N1849q, e1849⟩ := hQ1849
     have N1849 := Fr.app N1847 N1849q
     refine own_nv (own_il X1849 q d0_292 rfl (own_cn X1849 q d0_294 ((teq (rfl : (2 : Int32) = (2 : Int32))).2) (own_k X1849 q d0_297 (own_gt X1849 q d0_298 ?_))))
     refine own_rN X1849 q hrt (by simp) d0_302 hlk (by decide) ?_
     exact ⟨rfl, N1849⟩
    ·refine own_cn X1744 q d0_193 ((flt hc193_1842).2.2.1) (own_il X1744 q d0_196 rfl (own_il X1744 q d0_198 rfl ?_))
     by_cases hc200_1850 : z1719 < p5
     ·refine own_cy X1744 q d0_200 ((tlt hc200_1850).2.2.1) (own_k X1744 q d0_207 (own_is X1744 q d0_208 (l' := #[.val (.int p1), .val (.int p2), .val (.int p3), .val (.int p4), .val (.int p5), .val (.int z1705), .val (.int z1707), .val (.int z1709), .val (.int z1711), .val (.int z1713), .val (.int z1715), .val (.int z1717), .val (.int z1719), .val (.ref b1722), .val (.ref b1722), .val (.ref b1722), .val (.ref x1744), .val v'0, .val v'0, .unset, .unset]) rfl (own_il X1744 q d0_210 rfl (own_il X1744 q d0_212 rfl ?_))))
      obtain ⟨z1851, hz1851⟩ : ∃ z, own_max z1709 z1717 = z := ⟨_, rfl⟩
      refine own_cS X1744 q hZ e1744' hown hml (W 9 rfl) (W 10 rfl) (W 7 rfl) (W 11 rfl) (rm3 l Z a0 hw z1709 z1717 z1851 h1744 n0 zs1745 hz1851) d0_214 [(.int z1709), (.int z1717)] [] own_pd0 rfl rfl 0 (Nat.le_refl _) (by decide) (fun v1852 T1852 L1852 X1852 hQ1852 => ?_)
      obtain ⟨rfl, N1852q, e1852⟩ := hQ1852
      have N1852 := Fr.app N1744 N1852q
      refine own_nv (own_il X1852 q d0_217 rfl (own_il X1852 q d0_219 rfl ?_))
      obtain ⟨z1853, hz1853⟩ : ∃ z, own_min z1711 z1719 = z := ⟨_, rfl⟩
      refine own_cS X1852 q hZ e1852 hown hml (W 5 rfl) (W 6 rfl) (W 7 rfl) (W 8 rfl) (rm2 l Z a0 hw z1711 z1719 z1853 h1744 n0 zs1745 hz1853) d0_221 [(.int z1711), (.int z1719)] [(.int z1851)] own_pd0 rfl rfl 1 (Nat.le_refl _) (by decide) (fun v1854 T1854 L1854 X1854 hQ1854 => ?_)
      obtain ⟨rfl, N1854q, e1854⟩ := hQ1854
      have N1854 := Fr.app N1852 N1854q
      refine own_nv (own_k X1854 q d0_224 (own_iadd X1854 q d0_225 (own_cy X1854 q d0_226 ((tlt (((own_tc hokA hokB hz1851 hz1853).mpr tw1) : (z1853 + (1 : Int32)) < z1851)).2.2.1) (own_k X1854 q d0_233 (own_is X1854 q d0_234 (l' := #[.val (.int p1), .val (.int p2), .val (.int p3), .val (.int p4), .val (.int p5), .val (.int z1705), .val (.int z1707), .val (.int z1709), .val (.int z1711), .val (.int z1713), .val (.int z1715), .val (.int z1717), .val (.int z1719), .val (.ref b1722), .val (.ref b1722), .val (.ref b1722), .val (.ref x1744), .val v'0, .val v'0, .val v'0, .unset]) rfl (own_il X1854 q d0_236 rfl (own_zy X1854 q d0_238 (((if0 _ _).trans (teq (rfl : (0 : Int32) = (0 : Int32))).1)) (own_k X1854 q d0_245 (own_is X1854 q d0_246 (l' := #[.val (.int p1), .val (.int p2), .val (.int p3), .val (.int p4), .val (.int p5), .val (.int z1705), .val (.int z1707), .val (.int z1709), .val (.int z1711), .val (.int z1713), .val (.int z1715), .val (.int z1717), .val (.int z1719), .val (.ref b1722), .val (.ref b1722), .val (.ref b1722), .val (.ref x1744), .val v'0, .val v'0, .val v'0, .val v'2]) rfl (own_al X1854 q d0_248 rfl rfl (own_al X1854 q d0_250 rfl rfl ?_)))))))))))
      refine own_stp 255 (fun _ k => Jvm.RoadKit.acmp (g := mkF m 252 _ _) X1854 hx rfl rfl rfl (pc0 := 252) (pc' := 255) (same := true) rfl (q.d d0_252) rfl (decide_eq_true rfl) (by decide) (by decide) k) (own_al X1854 q d0_255 rfl rfl (own_al X1854 q d0_257 rfl rfl (own_stp 262 (fun _ k => Jvm.RoadKit.acmp (g := mkF m 259 _ _) X1854 hx rfl rfl rfl (pc0 := 259) (pc' := 262) (same := true) rfl (q.d d0_259) rfl (decide_eq_true rfl) (by decide) (by decide) k) (own_al X1854 q d0_262 rfl rfl (own_il X1854 q d0_264 rfl ?_)))))
      refine own_cV X1854 q hZ e1854 hown hml (W 72 rfl) (W 73 rfl) (W 75 rfl) (W 74 rfl) (W 62 rfl) (W 76 rfl) rfl Ex1744 (rm14_4 l Z a0 hw x1744 p5 r1744 b1744 ka1744 kb1744 r0 r1 r2 r3 ua1744 ub1744 h1744 n0 zs1745 Fa1744 Fb1744 Vr V1744 tw.2.2.2.2.2 tw.2.1 tw.2.2.1 tw.2.2.2.1) d0_266 [(.int p5)] [] own_pd13 rfl rfl 0 (Nat.le_refl _) (by decide) (fun v1855 T1855 L1855 X1855 hQ1855 => ?_)
      obtain ⟨z1855, rfl, N1855q, e1855, hM1855⟩ := hQ1855
      have N1855 := Fr.app N1854 N1855q
      refine own_nv (own_il X1855 q d0_269 rfl (own_zn X1855 q d0_271 (((if0 _ _).trans (teq (rfl : (0 : Int32) = (0 : Int32))).2)) (own_il X1855 q d0_274 rfl (own_zy X1855 q d0_276 (((if0 _ _).trans (teq (rfl : (0 : Int32) = (0 : Int32))).1)) (own_k X1855 q d0_283 ?_)))))
      have hE1856 : z1855 = (0 : Int32) := by
       simp only [Int32.lt_iff_toInt_lt] at hc172_1817 hc179_1841 hc193_1842 hc200_1850
       unfold own_ok at hokA hokB
       rcases hM1855 with ⟨hq, r⟩ | ⟨hq, r⟩
       ·have r2 := (tw.2.2.2.2.1 p5).mp r
        unfold own_in at r2
        omega
       ·exact hq
      refine own_cn X1855 q d0_284 ((teq (hE1856 : z1855 = (0 : Int32))).2) (own_al X1855 q d0_287 rfl rfl ?_)
      refine own_cV X1855 q hZ e1855 hown hml (W 77 rfl) (W 78 rfl) (W 80 rfl) (W 79 rfl) (W 62 rfl) (W 81 rfl) rfl Ex1744 (rm15_4 l Z a0 hw x1744 r1744 ka1744 r0 r1 r2 r3 h1744 n0 zs1745 Fa1744 Vr) d0_289 [] [] own_pd14 rfl rfl 0 (Nat.le_refl _) (by decide) (fun v1857 T1857 L1857 X1857 hQ1857 => ?_)
      obtain ⟨rfl, N1857q, e1857⟩ := hQ1857
      have N1857 := Fr.app N1855 N1857q
      refine own_nv (own_il X1857 q d0_292 rfl (own_cn X1857 q d0_294 ((teq (rfl : (2 : Int32) = (2 : Int32))).2) (own_k X1857 q d0_297 (own_gt X1857 q d0_298 ?_))))
      refine own_rN X1857 q hrt (by simp) d0_302 hlk (by decide) ?_
      exact ⟨rfl, N1857⟩
     ·refine own_cn X1744 q d0_200 ((flt hc200_1850).2.2.1) (own_k X1744 q d0_203 (own_gt X1744 q d0_204 (own_is X1744 q d0_208 (l' := #[.val (.int p1), .val (.int p2), .val (.int p3), .val (.int p4), .val (.int p5), .val (.int z1705), .val (.int z1707), .val (.int z1709), .val (.int z1711), .val (.int z1713), .val (.int z1715), .val (.int z1717), .val (.int z1719), .val (.ref b1722), .val (.ref b1722), .val (.ref b1722), .val (.ref x1744), .val v'0, .val v'1, .unset, .unset]) rfl (own_il X1744 q d0_210 rfl (own_il X1744 q d0_212 rfl ?_)))))
      obtain ⟨z1858, hz1858⟩ : ∃ z, own_max z1709 z1717 = z := ⟨_, rfl⟩
      refine own_cS X1744 q hZ e1744' hown hml (W 9 rfl) (W 10 rfl) (W 7 rfl) (W 11 rfl) (rm3 l Z a0 hw z1709 z1717 z1858 h1744 n0 zs1745 hz1858) d0_214 [(.int z1709), (.int z1717)] [] own_pd0 rfl rfl 0 (Nat.le_refl _) (by decide) (fun v1859 T1859 L1859 X1859 hQ1859 => ?_)
      obtain ⟨rfl, N1859q, e1859⟩ := hQ1859
      have N1859 := Fr.app N1744 N1859q
      refine own_nv (own_il X1859 q d0_217 rfl (own_il X1859 q d0_219 rfl ?_))
      obtain ⟨z1860, hz1860⟩ : ∃ z, own_min z1711 z1719 = z := ⟨_, rfl⟩
      refine own_cS X1859 q hZ e1859 hown hml (W 5 rfl) (W 6 rfl) (W 7 rfl) (W 8 rfl) (rm2 l Z a0 hw z1711 z1719 z1860 h1744 n0 zs1745 hz1860) d0_221 [(.int z1711), (.int z1719)] [(.int z1858)] own_pd0 rfl rfl 1 (Nat.le_refl _) (by decide) (fun v1861 T1861 L1861 X1861 hQ1861 => ?_)
      obtain ⟨rfl, N1861q, e1861⟩ := hQ1861
      have N1861 := Fr.app N1859 N1861q
      refine own_nv (own_k X1861 q d0_224 (own_iadd X1861 q d0_225 (own_cy X1861 q d0_226 ((tlt (((own_tc hokA hokB hz1858 hz1860).mpr tw1) : (z1860 + (1 : Int32)) < z1858)).2.2.1) (own_k X1861 q d0_233 (own_is X1861 q d0_234 (l' := #[.val (.int p1), .val (.int p2), .val (.int p3), .val (.int p4), .val (.int p5), .val (.int z1705), .val (.int z1707), .val (.int z1709), .val (.int z1711), .val (.int z1713), .val (.int z1715), .val (.int z1717), .val (.int z1719), .val (.ref b1722), .val (.ref b1722), .val (.ref b1722), .val (.ref x1744), .val v'0, .val v'1, .val v'0, .unset]) rfl (own_il X1861 q d0_236 rfl (own_zy X1861 q d0_238 (((if0 _ _).trans (teq (rfl : (0 : Int32) = (0 : Int32))).1)) (own_k X1861 q d0_245 (own_is X1861 q d0_246 (l' := #[.val (.int p1), .val (.int p2), .val (.int p3), .val (.int p4), .val (.int p5), .val (.int z1705), .val (.int z1707), .val (.int z1709), .val (.int z1711), .val (.int z1713), .val (.int z1715), .val (.int z1717), .val (.int z1719), .val (.ref b1722), .val (.ref b1722), .val (.ref b1722), .val (.ref x1744), .val v'0, .val v'1, .val v'0, .val v'2]) rfl (own_al X1861 q d0_248 rfl rfl (own_al X1861 q d0_250 rfl rfl ?_)))))))))))
      refine own_stp 255 (fun _ k => Jvm.RoadKit.acmp (g := mkF m 252 _ _) X1861 hx rfl rfl rfl (pc0 := 252) (pc' := 255) (same := true) rfl (q.d d0_252) rfl (decide_eq_true rfl) (by decide) (by decide) k) (own_al X1861 q d0_255 rfl rfl (own_al X1861 q d0_257 rfl rfl (own_stp 262 (fun _ k => Jvm.RoadKit.acmp (g := mkF m 259 _ _) X1861 hx rfl rfl rfl (pc0 := 259) (pc' := 262) (same := true) rfl (q.d d0_259) rfl (decide_eq_true rfl) (by decide) (by decide) k) (own_al X1861 q d0_262 rfl rfl (own_il X1861 q d0_264 rfl ?_)))))
      refine own_cV X1861 q hZ e1861 hown hml (W 72 rfl) (W 73 rfl) (W 75 rfl) (W 74 rfl) (W 62 rfl) (W 76 rfl) rfl Ex1744 (rm14_4 l Z a0 hw x1744 p5 r1744 b1744 ka1744 kb1744 r0 r1 r2 r3 ua1744 ub1744 h1744 n0 zs1745 Fa1744 Fb1744 Vr V1744 tw.2.2.2.2.2 tw.2.1 tw.2.2.1 tw.2.2.2.1) d0_266 [(.int p5)] [] own_pd13 rfl rfl 0 (Nat.le_refl _) (by decide) (fun v1862 T1862 L1862 X1862 hQ1862 => ?_)
      obtain ⟨z1862, rfl, N1862q, e1862, hM1862⟩ := hQ1862
      have N1862 := Fr.app N1861 N1862q
      refine own_nv (own_il X1862 q d0_269 rfl (own_zn X1862 q d0_271 (((if0 _ _).trans (teq (rfl : (0 : Int32) = (0 : Int32))).2)) (own_il X1862 q d0_274 rfl (own_zn X1862 q d0_276 (((if0 _ _).trans (feq ((by decide) : ¬ ((1 : Int32) = (0 : Int32)))).1)) (own_k X1862 q d0_279 (own_gt X1862 q d0_280 ?_))))))
      have hE1863 : z1862 = (1 : Int32) := by
       simp only [Int32.lt_iff_toInt_lt] at hc172_1817 hc179_1841 hc193_1842 hc200_1850
       unfold own_ok at hokA hokB
       rcases hM1862 with ⟨hq, r⟩ | ⟨hq, r⟩
       ·exact hq
       ·exact absurd ((tw.2.2.2.2.1 p5).mpr (by unfold own_in; omega)) r
      refine own_cn X1862 q d0_284 ((teq (hE1863 : z1862 = (1 : Int32))).2) (own_al X1862 q d0_287 rfl rfl ?_)
      refine own_cV X1862 q hZ e1862 hown hml (W 77 rfl) (W 78 rfl) (W 80 rfl) (W 79 rfl) (W 62 rfl) (W 81 rfl) rfl Ex1744 (rm15_4 l Z a0 hw x1744 r1744 ka1744 r0 r1 r2 r3 h1744 n0 zs1745 Fa1744 Vr) d0_289 [] [] own_pd14 rfl rfl 0 (Nat.le_refl _) (by decide) (fun v1864 T1864 L1864 X1864 hQ1864 => ?_)
      obtain ⟨rfl, N1864q, e1864⟩ := hQ1864
      have N1864 := Fr.app N1862 N1864q
      refine own_nv (own_il X1864 q d0_292 rfl (own_cn X1864 q d0_294 ((teq (rfl : (2 : Int32) = (2 : Int32))).2) (own_k X1864 q d0_297 (own_gt X1864 q d0_298 ?_))))
      refine own_rN X1864 q hrt (by simp) d0_302 hlk (by decide) ?_
      exact ⟨rfl, N1864⟩
   ·refine own_cn X1744 q d0_179 ((flt hc179_1841).2.2.1) (own_k X1744 q d0_182 (own_gt X1744 q d0_183 (own_is X1744 q d0_187 (l' := #[.val (.int p1), .val (.int p2), .val (.int p3), .val (.int p4), .val (.int p5), .val (.int z1705), .val (.int z1707), .val (.int z1709), .val (.int z1711), .val (.int z1713), .val (.int z1715), .val (.int z1717), .val (.int z1719), .val (.ref b1722), .val (.ref b1722), .val (.ref b1722), .val (.ref x1744), .val v'1, .unset, .unset, .unset]) rfl (own_il X1744 q d0_189 rfl (own_il X1744 q d0_191 rfl ?_)))))
    by_cases hc193_1865 : p5 < z1717
    ·refine own_cy X1744 q d0_193 ((tlt hc193_1865).2.2.1) (own_k X1744 q d0_207 (own_is X1744 q d0_208 (l' := #[.val (.int p1), .val (.int p2), .val (.int p3), .val (.int p4), .val (.int p5), .val (.int z1705), .val (.int z1707), .val (.int z1709), .val (.int z1711), .val (.int z1713), .val (.int z1715), .val (.int z1717), .val (.int z1719), .val (.ref b1722), .val (.ref b1722), .val (.ref b1722), .val (.ref x1744), .val v'1, .val v'0, .unset, .unset]) rfl (own_il X1744 q d0_210 rfl (own_il X1744 q d0_212 rfl ?_))))
     obtain ⟨z1866, hz1866⟩ : ∃ z, own_max z1709 z1717 = z := ⟨_, rfl⟩
     refine own_cS X1744 q hZ e1744' hown hml (W 9 rfl) (W 10 rfl) (W 7 rfl) (W 11 rfl) (rm3 l Z a0 hw z1709 z1717 z1866 h1744 n0 zs1745 hz1866) d0_214 [(.int z1709), (.int z1717)] [] own_pd0 rfl rfl 0 (Nat.le_refl _) (by decide) (fun v1867 T1867 L1867 X1867 hQ1867 => ?_)
     obtain ⟨rfl, N1867q, e1867⟩ := hQ1867
     have N1867 := Fr.app N1744 N1867q
     refine own_nv (own_il X1867 q d0_217 rfl (own_il X1867 q d0_219 rfl ?_))
     obtain ⟨z1868, hz1868⟩ : ∃ z, own_min z1711 z1719 = z := ⟨_, rfl⟩
     refine own_cS X1867 q hZ e1867 hown hml (W 5 rfl) (W 6 rfl) (W 7 rfl) (W 8 rfl) (rm2 l Z a0 hw z1711 z1719 z1868 h1744 n0 zs1745 hz1868) d0_221 [(.int z1711), (.int z1719)] [(.int z1866)] own_pd0 rfl rfl 1 (Nat.le_refl _) (by decide) (fun v1869 T1869 L1869 X1869 hQ1869 => ?_)
     obtain ⟨rfl, N1869q, e1869⟩ := hQ1869
     have N1869 := Fr.app N1867 N1869q
     refine own_nv (own_k X1869 q d0_224 (own_iadd X1869 q d0_225 (own_cy X1869 q d0_226 ((tlt (((own_tc hokA hokB hz1866 hz1868).mpr tw1) : (z1868 + (1 : Int32)) < z1866)).2.2.1) (own_k X1869 q d0_233 (own_is X1869 q d0_234 (l' := #[.val (.int p1), .val (.int p2), .val (.int p3), .val (.int p4), .val (.int p5), .val (.int z1705), .val (.int z1707), .val (.int z1709), .val (.int z1711), .val (.int z1713), .val (.int z1715), .val (.int z1717), .val (.int z1719), .val (.ref b1722), .val (.ref b1722), .val (.ref b1722), .val (.ref x1744), .val v'1, .val v'0, .val v'0, .unset]) rfl (own_il X1869 q d0_236 rfl (own_zy X1869 q d0_238 (((if0 _ _).trans (teq (rfl : (0 : Int32) = (0 : Int32))).1)) (own_k X1869 q d0_245 (own_is X1869 q d0_246 (l' := #[.val (.int p1), .val (.int p2), .val (.int p3), .val (.int p4), .val (.int p5), .val (.int z1705), .val (.int z1707), .val (.int z1709), .val (.int z1711), .val (.int z1713), .val (.int z1715), .val (.int z1717), .val (.int z1719), .val (.ref b1722), .val (.ref b1722), .val (.ref b1722), .val (.ref x1744), .val v'1, .val v'0, .val v'0, .val v'2]) rfl (own_al X1869 q d0_248 rfl rfl (own_al X1869 q d0_250 rfl rfl ?_)))))))))))
     refine own_stp 255 (fun _ k => Jvm.RoadKit.acmp (g := mkF m 252 _ _) X1869 hx rfl rfl rfl (pc0 := 252) (pc' := 255) (same := true) rfl (q.d d0_252) rfl (decide_eq_true rfl) (by decide) (by decide) k) (own_al X1869 q d0_255 rfl rfl (own_al X1869 q d0_257 rfl rfl (own_stp 262 (fun _ k => Jvm.RoadKit.acmp (g := mkF m 259 _ _) X1869 hx rfl rfl rfl (pc0 := 259) (pc' := 262) (same := true) rfl (q.d d0_259) rfl (decide_eq_true rfl) (by decide) (by decide) k) (own_al X1869 q d0_262 rfl rfl (own_il X1869 q d0_264 rfl ?_)))))
     refine own_cV X1869 q hZ e1869 hown hml (W 72 rfl) (W 73 rfl) (W 75 rfl) (W 74 rfl) (W 62 rfl) (W 76 rfl) rfl Ex1744 (rm14_4 l Z a0 hw x1744 p5 r1744 b1744 ka1744 kb1744 r0 r1 r2 r3 ua1744 ub1744 h1744 n0 zs1745 Fa1744 Fb1744 Vr V1744 tw.2.2.2.2.2 tw.2.1 tw.2.2.1 tw.2.2.2.1) d0_266 [(.int p5)] [] own_pd13 rfl rfl 0 (Nat.le_refl _) (by decide) (fun v1870 T1870 L1870 X1870 hQ1870 => ?_)
     obtain ⟨z1870, rfl, N1870q, e1870, hM1870⟩ := hQ1870
     have N1870 := Fr.app N1869 N1870q
     refine own_nv (own_il X1870 q d0_269 rfl (own_zy X1870 q d0_271 (((if0 _ _).trans (feq ((by decide) : ¬ ((1 : Int32) = (0 : Int32)))).2)) (own_k X1870 q d0_279 (own_gt X1870 q d0_280 ?_))))
     have hE1871 : z1870 = (1 : Int32) := by
      simp only [Int32.lt_iff_toInt_lt] at hc172_1817 hc179_1841 hc193_1865
      unfold own_ok at hokA hokB
      rcases hM1870 with ⟨hq, r⟩ | ⟨hq, r⟩
      ·exact hq
      ·exact absurd ((tw.2.2.2.2.1 p5).mpr (by unfold own_in; omega)) r
     refine own_cn X1870 q d0_284 ((teq (hE1871 : z1870 = (1 : Int32))).2) (own_al X1870 q d0_287 rfl rfl ?_)
     refine own_cV X1870 q hZ e1870 hown hml (W 77 rfl) (W 78 rfl) (W 80 rfl) (W 79 rfl) (W 62 rfl) (W 81 rfl) rfl Ex1744 (rm15_4 l Z a0 hw x1744 r1744 ka1744 r0 r1 r2 r3 h1744 n0 zs1745 Fa1744 Vr) d0_289 [] [] own_pd14 rfl rfl 0 (Nat.le_refl _) (by decide) (fun v1872 T1872 L1872 X1872 hQ1872 => ?_)
     obtain ⟨rfl, N1872q, e1872⟩ := hQ1872
     have N1872 := Fr.app N1870 N1872q
     refine own_nv (own_il X1872 q d0_292 rfl (own_cn X1872 q d0_294 ((teq (rfl : (2 : Int32) = (2 : Int32))).2) (own_k X1872 q d0_297 (own_gt X1872 q d0_298 ?_))))
     refine own_rN X1872 q hrt (by simp) d0_302 hlk (by decide) ?_
     exact ⟨rfl, N1872⟩
    ·refine own_cn X1744 q d0_193 ((flt hc193_1865).2.2.1) (own_il X1744 q d0_196 rfl (own_il X1744 q d0_198 rfl ?_))
     by_cases hc200_1873 : z1719 < p5
     ·refine own_cy X1744 q d0_200 ((tlt hc200_1873).2.2.1) (own_k X1744 q d0_207 (own_is X1744 q d0_208 (l' := #[.val (.int p1), .val (.int p2), .val (.int p3), .val (.int p4), .val (.int p5), .val (.int z1705), .val (.int z1707), .val (.int z1709), .val (.int z1711), .val (.int z1713), .val (.int z1715), .val (.int z1717), .val (.int z1719), .val (.ref b1722), .val (.ref b1722), .val (.ref b1722), .val (.ref x1744), .val v'1, .val v'0, .unset, .unset]) rfl (own_il X1744 q d0_210 rfl (own_il X1744 q d0_212 rfl ?_))))
      obtain ⟨z1874, hz1874⟩ : ∃ z, own_max z1709 z1717 = z := ⟨_, rfl⟩
      refine own_cS X1744 q hZ e1744' hown hml (W 9 rfl) (W 10 rfl) (W 7 rfl) (W 11 rfl) (rm3 l Z a0 hw z1709 z1717 z1874 h1744 n0 zs1745 hz1874) d0_214 [(.int z1709), (.int z1717)] [] own_pd0 rfl rfl 0 (Nat.le_refl _) (by decide) (fun v1875 T1875 L1875 X1875 hQ1875 => ?_)
      obtain ⟨rfl, N1875q, e1875⟩ := hQ1875
      have N1875 := Fr.app N1744 N1875q
      refine own_nv (own_il X1875 q d0_217 rfl (own_il X1875 q d0_219 rfl ?_))
      obtain ⟨z1876, hz1876⟩ : ∃ z, own_min z1711 z1719 = z := ⟨_, rfl⟩
      refine own_cS X1875 q hZ e1875 hown hml (W 5 rfl) (W 6 rfl) (W 7 rfl) (W 8 rfl) (rm2 l Z a0 hw z1711 z1719 z1876 h1744 n0 zs1745 hz1876) d0_221 [(.int z1711), (.int z1719)] [(.int z1874)] own_pd0 rfl rfl 1 (Nat.le_refl _) (by decide) (fun v1877 T1877 L1877 X1877 hQ1877 => ?_)
      obtain ⟨rfl, N1877q, e1877⟩ := hQ1877
      have N1877 := Fr.app N1875 N1877q
      refine own_nv (own_k X1877 q d0_224 (own_iadd X1877 q d0_225 (own_cy X1877 q d0_226 ((tlt (((own_tc hokA hokB hz1874 hz1876).mpr tw1) : (z1876 + (1 : Int32)) < z1874)).2.2.1) (own_k X1877 q d0_233 (own_is X1877 q d0_234 (l' := #[.val (.int p1), .val (.int p2), .val (.int p3), .val (.int p4), .val (.int p5), .val (.int z1705), .val (.int z1707), .val (.int z1709), .val (.int z1711), .val (.int z1713), .val (.int z1715), .val (.int z1717), .val (.int z1719), .val (.ref b1722), .val (.ref b1722), .val (.ref b1722), .val (.ref x1744), .val v'1, .val v'0, .val v'0, .unset]) rfl (own_il X1877 q d0_236 rfl (own_zy X1877 q d0_238 (((if0 _ _).trans (teq (rfl : (0 : Int32) = (0 : Int32))).1)) (own_k X1877 q d0_245 (own_is X1877 q d0_246 (l' := #[.val (.int p1), .val (.int p2), .val (.int p3), .val (.int p4), .val (.int p5), .val (.int z1705), .val (.int z1707), .val (.int z1709), .val (.int z1711), .val (.int z1713), .val (.int z1715), .val (.int z1717), .val (.int z1719), .val (.ref b1722), .val (.ref b1722), .val (.ref b1722), .val (.ref x1744), .val v'1, .val v'0, .val v'0, .val v'2]) rfl (own_al X1877 q d0_248 rfl rfl (own_al X1877 q d0_250 rfl rfl ?_)))))))))))
      refine own_stp 255 (fun _ k => Jvm.RoadKit.acmp (g := mkF m 252 _ _) X1877 hx rfl rfl rfl (pc0 := 252) (pc' := 255) (same := true) rfl (q.d d0_252) rfl (decide_eq_true rfl) (by decide) (by decide) k) (own_al X1877 q d0_255 rfl rfl (own_al X1877 q d0_257 rfl rfl (own_stp 262 (fun _ k => Jvm.RoadKit.acmp (g := mkF m 259 _ _) X1877 hx rfl rfl rfl (pc0 := 259) (pc' := 262) (same := true) rfl (q.d d0_259) rfl (decide_eq_true rfl) (by decide) (by decide) k) (own_al X1877 q d0_262 rfl rfl (own_il X1877 q d0_264 rfl ?_)))))
      refine own_cV X1877 q hZ e1877 hown hml (W 72 rfl) (W 73 rfl) (W 75 rfl) (W 74 rfl) (W 62 rfl) (W 76 rfl) rfl Ex1744 (rm14_4 l Z a0 hw x1744 p5 r1744 b1744 ka1744 kb1744 r0 r1 r2 r3 ua1744 ub1744 h1744 n0 zs1745 Fa1744 Fb1744 Vr V1744 tw.2.2.2.2.2 tw.2.1 tw.2.2.1 tw.2.2.2.1) d0_266 [(.int p5)] [] own_pd13 rfl rfl 0 (Nat.le_refl _) (by decide) (fun v1878 T1878 L1878 X1878 hQ1878 => ?_)
      obtain ⟨z1878, rfl, N1878q, e1878, hM1878⟩ := hQ1878
      have N1878 := Fr.app N1877 N1878q
      refine own_nv (own_il X1878 q d0_269 rfl (own_zy X1878 q d0_271 (((if0 _ _).trans (feq ((by decide) : ¬ ((1 : Int32) = (0 : Int32)))).2)) (own_k X1878 q d0_279 (own_gt X1878 q d0_280 ?_))))
      have hE1879 : z1878 = (1 : Int32) := by
       simp only [Int32.lt_iff_toInt_lt] at hc172_1817 hc179_1841 hc193_1865 hc200_1873
       unfold own_ok at hokA hokB
       rcases hM1878 with ⟨hq, r⟩ | ⟨hq, r⟩
       ·exact hq
       ·exact absurd ((tw.2.2.2.2.1 p5).mpr (by unfold own_in; omega)) r
      refine own_cn X1878 q d0_284 ((teq (hE1879 : z1878 = (1 : Int32))).2) (own_al X1878 q d0_287 rfl rfl ?_)
      refine own_cV X1878 q hZ e1878 hown hml (W 77 rfl) (W 78 rfl) (W 80 rfl) (W 79 rfl) (W 62 rfl) (W 81 rfl) rfl Ex1744 (rm15_4 l Z a0 hw x1744 r1744 ka1744 r0 r1 r2 r3 h1744 n0 zs1745 Fa1744 Vr) d0_289 [] [] own_pd14 rfl rfl 0 (Nat.le_refl _) (by decide) (fun v1880 T1880 L1880 X1880 hQ1880 => ?_)
      obtain ⟨rfl, N1880q, e1880⟩ := hQ1880
      have N1880 := Fr.app N1878 N1880q
      refine own_nv (own_il X1880 q d0_292 rfl (own_cn X1880 q d0_294 ((teq (rfl : (2 : Int32) = (2 : Int32))).2) (own_k X1880 q d0_297 (own_gt X1880 q d0_298 ?_))))
      refine own_rN X1880 q hrt (by simp) d0_302 hlk (by decide) ?_
      exact ⟨rfl, N1880⟩
     ·refine own_cn X1744 q d0_200 ((flt hc200_1873).2.2.1) (own_k X1744 q d0_203 (own_gt X1744 q d0_204 (own_is X1744 q d0_208 (l' := #[.val (.int p1), .val (.int p2), .val (.int p3), .val (.int p4), .val (.int p5), .val (.int z1705), .val (.int z1707), .val (.int z1709), .val (.int z1711), .val (.int z1713), .val (.int z1715), .val (.int z1717), .val (.int z1719), .val (.ref b1722), .val (.ref b1722), .val (.ref b1722), .val (.ref x1744), .val v'1, .val v'1, .unset, .unset]) rfl (own_il X1744 q d0_210 rfl (own_il X1744 q d0_212 rfl ?_)))))
      obtain ⟨z1881, hz1881⟩ : ∃ z, own_max z1709 z1717 = z := ⟨_, rfl⟩
      refine own_cS X1744 q hZ e1744' hown hml (W 9 rfl) (W 10 rfl) (W 7 rfl) (W 11 rfl) (rm3 l Z a0 hw z1709 z1717 z1881 h1744 n0 zs1745 hz1881) d0_214 [(.int z1709), (.int z1717)] [] own_pd0 rfl rfl 0 (Nat.le_refl _) (by decide) (fun v1882 T1882 L1882 X1882 hQ1882 => ?_)
      obtain ⟨rfl, N1882q, e1882⟩ := hQ1882
      have N1882 := Fr.app N1744 N1882q
      refine own_nv (own_il X1882 q d0_217 rfl (own_il X1882 q d0_219 rfl ?_))
      obtain ⟨z1883, hz1883⟩ : ∃ z, own_min z1711 z1719 = z := ⟨_, rfl⟩
      refine own_cS X1882 q hZ e1882 hown hml (W 5 rfl) (W 6 rfl) (W 7 rfl) (W 8 rfl) (rm2 l Z a0 hw z1711 z1719 z1883 h1744 n0 zs1745 hz1883) d0_221 [(.int z1711), (.int z1719)] [(.int z1881)] own_pd0 rfl rfl 1 (Nat.le_refl _) (by decide) (fun v1884 T1884 L1884 X1884 hQ1884 => ?_)
      obtain ⟨rfl, N1884q, e1884⟩ := hQ1884
      have N1884 := Fr.app N1882 N1884q
      refine own_nv (own_k X1884 q d0_224 (own_iadd X1884 q d0_225 (own_cy X1884 q d0_226 ((tlt (((own_tc hokA hokB hz1881 hz1883).mpr tw1) : (z1883 + (1 : Int32)) < z1881)).2.2.1) (own_k X1884 q d0_233 (own_is X1884 q d0_234 (l' := #[.val (.int p1), .val (.int p2), .val (.int p3), .val (.int p4), .val (.int p5), .val (.int z1705), .val (.int z1707), .val (.int z1709), .val (.int z1711), .val (.int z1713), .val (.int z1715), .val (.int z1717), .val (.int z1719), .val (.ref b1722), .val (.ref b1722), .val (.ref b1722), .val (.ref x1744), .val v'1, .val v'1, .val v'0, .unset]) rfl (own_il X1884 q d0_236 rfl (own_zy X1884 q d0_238 (((if0 _ _).trans (teq (rfl : (0 : Int32) = (0 : Int32))).1)) (own_k X1884 q d0_245 (own_is X1884 q d0_246 (l' := #[.val (.int p1), .val (.int p2), .val (.int p3), .val (.int p4), .val (.int p5), .val (.int z1705), .val (.int z1707), .val (.int z1709), .val (.int z1711), .val (.int z1713), .val (.int z1715), .val (.int z1717), .val (.int z1719), .val (.ref b1722), .val (.ref b1722), .val (.ref b1722), .val (.ref x1744), .val v'1, .val v'1, .val v'0, .val v'2]) rfl (own_al X1884 q d0_248 rfl rfl (own_al X1884 q d0_250 rfl rfl ?_)))))))))))
      refine own_stp 255 (fun _ k => Jvm.RoadKit.acmp (g := mkF m 252 _ _) X1884 hx rfl rfl rfl (pc0 := 252) (pc' := 255) (same := true) rfl (q.d d0_252) rfl (decide_eq_true rfl) (by decide) (by decide) k) (own_al X1884 q d0_255 rfl rfl (own_al X1884 q d0_257 rfl rfl (own_stp 262 (fun _ k => Jvm.RoadKit.acmp (g := mkF m 259 _ _) X1884 hx rfl rfl rfl (pc0 := 259) (pc' := 262) (same := true) rfl (q.d d0_259) rfl (decide_eq_true rfl) (by decide) (by decide) k) (own_al X1884 q d0_262 rfl rfl (own_il X1884 q d0_264 rfl ?_)))))
      refine own_cV X1884 q hZ e1884 hown hml (W 72 rfl) (W 73 rfl) (W 75 rfl) (W 74 rfl) (W 62 rfl) (W 76 rfl) rfl Ex1744 (rm14_4 l Z a0 hw x1744 p5 r1744 b1744 ka1744 kb1744 r0 r1 r2 r3 ua1744 ub1744 h1744 n0 zs1745 Fa1744 Fb1744 Vr V1744 tw.2.2.2.2.2 tw.2.1 tw.2.2.1 tw.2.2.2.1) d0_266 [(.int p5)] [] own_pd13 rfl rfl 0 (Nat.le_refl _) (by decide) (fun v1885 T1885 L1885 X1885 hQ1885 => ?_)
      obtain ⟨z1885, rfl, N1885q, e1885, hM1885⟩ := hQ1885
      have N1885 := Fr.app N1884 N1885q
      refine own_nv (own_il X1885 q d0_269 rfl (own_zy X1885 q d0_271 (((if0 _ _).trans (feq ((by decide) : ¬ ((1 : Int32) = (0 : Int32)))).2)) (own_k X1885 q d0_279 (own_gt X1885 q d0_280 ?_))))
      have hE1886 : z1885 = (1 : Int32) := by
       simp only [Int32.lt_iff_toInt_lt] at hc172_1817 hc179_1841 hc193_1865 hc200_1873
       unfold own_ok at hokA hokB
       rcases hM1885 with ⟨hq, r⟩ | ⟨hq, r⟩
       ·exact hq
       ·exact absurd ((tw.2.2.2.2.1 p5).mpr (by unfold own_in; omega)) r
      refine own_cn X1885 q d0_284 ((teq (hE1886 : z1885 = (1 : Int32))).2) (own_al X1885 q d0_287 rfl rfl ?_)
      refine own_cV X1885 q hZ e1885 hown hml (W 77 rfl) (W 78 rfl) (W 80 rfl) (W 79 rfl) (W 62 rfl) (W 81 rfl) rfl Ex1744 (rm15_4 l Z a0 hw x1744 r1744 ka1744 r0 r1 r2 r3 h1744 n0 zs1745 Fa1744 Vr) d0_289 [] [] own_pd14 rfl rfl 0 (Nat.le_refl _) (by decide) (fun v1887 T1887 L1887 X1887 hQ1887 => ?_)
      obtain ⟨rfl, N1887q, e1887⟩ := hQ1887
      have N1887 := Fr.app N1885 N1887q
      refine own_nv (own_il X1887 q d0_292 rfl (own_cn X1887 q d0_294 ((teq (rfl : (2 : Int32) = (2 : Int32))).2) (own_k X1887 q d0_297 (own_gt X1887 q d0_298 ?_))))
      refine own_rN X1887 q hrt (by simp) d0_302 hlk (by decide) ?_
      exact ⟨rfl, N1887⟩
set_option maxRecDepth 65536 in
set_option maxHeartbeats 40000000 in
theorem comes_1 {Post : Tables → Env → Array Value → State → Outcome → State → Prop} (hpost : ∀ tb e args s v u, (limb_1_1.after args s (.returned v) u = true ∧ limb_1_2.after args s (.returned v) u = true ∧ True) → FrameEnd s (.returned v) u (Jvm.fieldLocs frame_1_writes args s ++ Jvm.arrayLocs frame_1_arrays args s ++ Jvm.staticLocs frame_1_statics s) 24 256 → Post tb e args s (.returned v) u) :
  ArmFor flags0 classFile x code maxLocals ret World_1 tables_1 room_1 Calls_1 rest_1 Pre_1 Post := by
 intro l hfl _ _ p e ha hc hk s m args below hf hA hF happ hP
 obtain ⟨hcalls, hrest, hpre⟩ := hP
 obtain ⟨-, -, -, hnamed, -, -, -, hat⟩ := (Spec.applies_iff hf).mp happ
 obtain ⟨hg, hn⟩ := and_e (Cond.before_iff.mp (show (Jvm.Cond.and given_1 narrow_1).before args s = true from hpre))
 obtain ⟨g0, hg⟩ := and_e hg
 obtain ⟨g1, hg⟩ := and_e hg
 obtain ⟨g2, hg⟩ := and_e hg
 obtain ⟨g3, hg⟩ := and_e hg
 obtain ⟨g4, g5⟩ := and_e hg
 obtain ⟨w0, w1, w2, w3, w4, rfl⟩ : ∃ w0 w1 w2 w3 w4 : Value, args = #[w0, w1, w2, w3, w4] := by
  have hs : args.size = 5 := by simpa [Cond.value, given_1] using g0
  obtain ⟨L⟩ := args
  match L, hs with
  | [w0, w1, w2, w3, w4], _ => exact ⟨w0, w1, w2, w3, w4, rfl⟩
 have hw := fun d (hd : d ∈ tables_1) => atoms_spec (ws := Jvm.Cond.code x code maxLocals ret :: tables_1) hat d (List.mem_cons_of_mem _ hd)
 have hfit : Fit s := fun {y c} hc i hi => by
  obtain ⟨ha, rfl⟩ := Array.getElem?_eq_some_iff.mp hc
  have q := List.all_eq_true.mp ((Array.all_eq_true_iff_forall_mem.mp hF) _ (Array.getElem_mem ha)) i (List.mem_range.mpr hi)
  simpa [Array.getElem?_eq_getElem hi] using q
 have W := @own_w _ _ hw
 obtain ⟨i0, ei0⟩ := is_v g1
 obtain rfl : w0 = (.int i0) := Option.some.inj ei0
 obtain ⟨i1, ei1⟩ := is_v g2
 obtain rfl : w1 = (.int i1) := Option.some.inj ei1
 obtain ⟨i2, ei2⟩ := is_v g3
 obtain rfl : w2 = (.int i2) := Option.some.inj ei2
 obtain ⟨i3, ei3⟩ := is_v g4
 obtain rfl : w3 = (.int i3) := Option.some.inj ei3
 obtain ⟨i4, ei4⟩ := is_v g5
 obtain rfl : w4 = (.int i4) := Option.some.inj ei4
 obtain ⟨n, o, h1, h2, h3, _, L, rfl, ⟨rfl, N⟩, hq⟩ := rm0 l s _ hw tables_1 i0 i1 i2 i3 i4 s.heap s.heap.size (Nat.le_refl _) p e ha hc hk s m _ below hf ((Spec.applies_iff_loose hf).mp happ).1 ⟨rfl, State.Warmed39.refl s, rfl⟩ trivial
 refine ⟨n, _, h1, h2, h3, hpost _ _ _ _ _ _ ⟨Cond.after_iff.mpr rfl, Cond.after_iff.mpr (eq_i res_at (Term.int_eval (1)) rfl), trivial⟩ ⟨hq.1, hq.2.1, (hq.2.2.sift fun y hy => Or.inr (N y hy)).mono (by decide) (by decide)⟩⟩
theorem main_1_1 : Claimed_1_1 := comes_1 fun _ _ _ _ _ _ h hF => ⟨h.1, hF⟩
theorem main_1_2 : Claimed_1_2 := comes_1 fun _ _ _ _ _ _ h hF => ⟨h.2.1, hF⟩
end Jvm.Pilot.@@N@@
namespace Jvm.Pilot.@@N@@
open Jvm Jvm.ClassFile Sem Op Lib Jvm.Free Jvm.Stand Jvm.Pilot.@@N@@.Jvm.D
/-! MADE BY PROGRAM (witnessworld.py) out of the Statement's table words and the real class files: 16 classes; the members and pool entries that the words name. The judged class is class 1, her method 2. -/
namespace start1
open Jvm.ClassFile
def u (s : String) : CpInfo := .utf8 (stringToUtf16 s)
/-- a pool by its gaps: so many unusable entries, then the entry; so many at the end -/
def gap : Nat → List CpInfo → List CpInfo
  | 0, r => r
  | n + 1, r => .unusable :: gap n r
def poolList (es : List (Nat × CpInfo)) (last : Nat) : List CpInfo := es.foldr (fun e r => gap e.1 (e.2 :: r)) (gap last [])
def pool (es : List (Nat × CpInfo)) (last : Nat) : Array CpInfo := ⟨poolList es last⟩
def fileOf (pool : Array CpInfo) (this : Nat) (attrs : Array Attribute := #[]) (ms : Array MethodInfo := #[]) (fl : Nat := 33) (sup : Nat := 0) (ifs : Array Nat := #[]) (fds : Array FieldInfo := #[]) : ClassFile where
  minorVersion := 0
  majorVersion := 65
  constantPool := pool
  accessFlags := fl
  thisClass := this
  superClass := sup
  interfaces := ifs
  fields := fds
  methods := ms
  attributes := attrs
def plain (name : String) (sup : Option ClassId) : Class where
  name := name
  kind := .ordinary
  loader := none
  accessFlags := 33
  super := sup
  interfaces := #[]
  cf := none
  fields := #[]
  methods := #[]
  instanceTypes := #[]
  staticTypes := #[]
  resolved := #[]
  callSites := []
  init := .initialized
  statics := none
  mirror := none

def pool0 : Array CpInfo := pool [(5, u "<init>"), (0, u "()V"), (1, .class_ 10), (1, u "java/lang/Object")] 113

def k0c0 : Code := { maxStack := 0, maxLocals := 1, code := object_method_1_code, exceptionTable := #[], attributes := #[] }
def k0m0 : Method := { name := "<init>", desc := "()V", sig := { parameters := [], returnType := none }, accessFlags := 1, code := some k0c0 }
/-- java/lang/Object -/
def k0 : Class := { plain "java/lang/Object" none with
  accessFlags := 33
  interfaces := #[]
  cf := some (fileOf pool0 8 #[] #[{ accessFlags := 1, nameIndex := 5, descriptorIndex := 6, attributes := #[] }] 33 0 #[] #[])
  fields := #[]
  methods := #[k0m0]
  instanceTypes := #[]
  staticTypes := #[]
  resolved := Array.replicate 124 none
  statics := none }

def pool1 : Array CpInfo := pool [(2, .class_ 4), (0, .nameAndType 5 6), (0, u "java/lang/Object"), (0, u "<init>"), (0, u "()V"), (0, .integer 1114112), (0, .methodref 9 10), (0, .class_ 11), (0, .nameAndType 12 13), (0, u "com/example/austere_json/austerejson/BuilderAddPinLaw"), (0, u "cp"), (0, u "(I)I"), (0, .methodref 15 16), (0, .class_ 17), (0, .nameAndType 18 19), (0, u "java/lang/Math"), (0, u "min"), (0, u "(II)I"), (0, .methodref 15 21), (0, .nameAndType 22 19), (0, u "max"), (0, .class_ 24), (0, u "com/example/austere_json/austerejson/CodePointSet$Builder"), (0, .methodref 23 3), (0, .methodref 23 27), (0, .nameAndType 28 29), (0, u "add"), (0, u "(II)Lcom/example/austere_json/austerejson/CodePointSet$Builder;"), (0, .methodref 23 31), (0, .nameAndType 32 33), (0, u "build"), (0, u "()Lcom/example/austere_json/austerejson/CodePointSet;"), (0, .methodref 35 36), (0, .class_ 37), (0, .nameAndType 38 39), (0, u "com/example/austere_json/austerejson/CodePointSet"), (0, u "contains"), (0, u "(I)Z"), (0, .methodref 35 41), (0, .nameAndType 42 43), (0, u "rangeCount"), (0, u "()I"), (3, u "law"), (0, u "(IIIII)Z")] 4

def k1m0 : Method := { name := "<init>", desc := "()V", sig := { parameters := [], returnType := none }, accessFlags := 1, code := none }
def k1c1 : Code := { maxStack := 2, maxLocals := 1, code := method_2_code, exceptionTable := #[], attributes := #[] }
def k1m1 : Method := { name := "cp", desc := "(I)I", sig := { parameters := [.int], returnType := some .int }, accessFlags := 10, code := some k1c1 }
def k1c2 : Code := { maxStack := 3, maxLocals := 21, code := code, exceptionTable := #[], attributes := #[] }
def k1m2 : Method := { name := "law", desc := "(IIIII)Z", sig := { parameters := [.int, .int, .int, .int, .int], returnType := some .boolean }, accessFlags := 9, code := some k1c2 }
/-- com/example/austere_json/austerejson/BuilderAddPinLaw -/
def k1 : Class := { plain "com/example/austere_json/austerejson/BuilderAddPinLaw" (some 0) with
  accessFlags := 49
  interfaces := #[]
  cf := some (fileOf pool1 9 #[] #[{ accessFlags := 1, nameIndex := 5, descriptorIndex := 6, attributes := #[] }, { accessFlags := 10, nameIndex := 12, descriptorIndex := 13, attributes := #[] }, { accessFlags := 9, nameIndex := 47, descriptorIndex := 48, attributes := #[] }] 49 2 #[] #[])
  fields := #[]
  methods := #[k1m0, k1m1, k1m2]
  instanceTypes := #[]
  staticTypes := #[]
  resolved := Array.replicate 53 none
  statics := none }

def pool2 : Array CpInfo := pool [(1, .class_ 2), (0, u "java/lang/Math"), (1, .class_ 6), (1, u "java/lang/Object"), (0, u "<init>"), (0, u "()V"), (89, .class_ 100), (1, u "java/lang/Math$RandomNumberGeneratorHolder"), (71, u "negativeZeroFloatBits"), (0, u "J"), (2, u "negativeZeroDoubleBits"), (21, u "max"), (2, u "min"), (43, u "$assertionsDisabled"), (0, u "Z"), (88, u "(II)I"), (2, u "twoToTheDoubleScaleDown"), (0, u "D"), (4, u "twoToTheDoubleScaleUp"), (9, u "E"), (3, u "PI"), (2, u "TAU"), (2, u "DEGREES_TO_RADIANS"), (0, u "RADIANS_TO_DEGREES")] 94

def k2m0 : Method := { name := "<init>", desc := "()V", sig := { parameters := [], returnType := none }, accessFlags := 2, code := none }
def k2c1 : Code := { maxStack := 2, maxLocals := 2, code := jdk_29_method_65_code, exceptionTable := #[], attributes := #[] }
def k2m1 : Method := { name := "max", desc := "(II)I", sig := { parameters := [.int, .int], returnType := some .int }, accessFlags := 9, code := some k2c1 }
def k2c2 : Code := { maxStack := 2, maxLocals := 2, code := jdk_29_method_69_code, exceptionTable := #[], attributes := #[] }
def k2m2 : Method := { name := "min", desc := "(II)I", sig := { parameters := [.int, .int], returnType := some .int }, accessFlags := 9, code := some k2c2 }
/-- java/lang/Math -/
def k2 : Class := { plain "java/lang/Math" (some 0) with
  accessFlags := 49
  interfaces := #[]
  cf := some (fileOf pool2 1 #[.nestMembers #[98]] #[{ accessFlags := 2, nameIndex := 7, descriptorIndex := 8, attributes := #[] }, { accessFlags := 9, nameIndex := 198, descriptorIndex := 335, attributes := #[] }, { accessFlags := 9, nameIndex := 201, descriptorIndex := 335, attributes := #[] }] 49 4 #[] #[{ accessFlags := 25, nameIndex := 354, descriptorIndex := 339, attributes := #[] }, { accessFlags := 25, nameIndex := 358, descriptorIndex := 339, attributes := #[] }, { accessFlags := 25, nameIndex := 361, descriptorIndex := 339, attributes := #[] }, { accessFlags := 26, nameIndex := 364, descriptorIndex := 339, attributes := #[] }, { accessFlags := 26, nameIndex := 365, descriptorIndex := 339, attributes := #[] }, { accessFlags := 26, nameIndex := 172, descriptorIndex := 173, attributes := #[] }, { accessFlags := 26, nameIndex := 176, descriptorIndex := 173, attributes := #[] }, { accessFlags := 8, nameIndex := 344, descriptorIndex := 339, attributes := #[] }, { accessFlags := 8, nameIndex := 338, descriptorIndex := 339, attributes := #[] }, { accessFlags := 4120, nameIndex := 245, descriptorIndex := 246, attributes := #[] }])
  fields := #[{ name := "E", type := .double, accessFlags := 25, slot := 0, constantValue := 0 }, { name := "PI", type := .double, accessFlags := 25, slot := 1, constantValue := 0 }, { name := "TAU", type := .double, accessFlags := 25, slot := 2, constantValue := 0 }, { name := "DEGREES_TO_RADIANS", type := .double, accessFlags := 26, slot := 3, constantValue := 0 }, { name := "RADIANS_TO_DEGREES", type := .double, accessFlags := 26, slot := 4, constantValue := 0 }, { name := "negativeZeroFloatBits", type := .long, accessFlags := 26, slot := 5, constantValue := 0 }, { name := "negativeZeroDoubleBits", type := .long, accessFlags := 26, slot := 6, constantValue := 0 }, { name := "twoToTheDoubleScaleUp", type := .double, accessFlags := 8, slot := 7, constantValue := 0 }, { name := "twoToTheDoubleScaleDown", type := .double, accessFlags := 8, slot := 8, constantValue := 0 }, { name := "$assertionsDisabled", type := .boolean, accessFlags := 4120, slot := 9, constantValue := 0 }]
  methods := #[k2m0, k2m1, k2m2]
  instanceTypes := #[]
  staticTypes := #[.double, .double, .double, .double, .double, .long, .long, .double, .double, .boolean]
  resolved := Array.replicate 460 none
  statics := none }

def pool3 : Array CpInfo := pool [(1, .methodref 2 3), (0, .class_ 4), (0, .nameAndType 5 6), (0, u "java/lang/Object"), (0, u "<init>"), (0, u "()V"), (0, .fieldref 8 9), (0, .class_ 10), (0, .nameAndType 11 12), (0, u "com/example/austere_json/austerejson/CodePointSet$Builder"), (0, u "ranges"), (0, u "[I"), (0, .fieldref 8 14), (0, .nameAndType 15 16), (0, u "size"), (0, u "I"), (0, .methodref 18 19), (0, .class_ 20), (0, .nameAndType 21 22), (0, u "java/util/Arrays"), (0, u "copyOf"), (0, u "([II)[I"), (2, u "add"), (0, u "(II)Lcom/example/austere_json/austerejson/CodePointSet$Builder;"), (1, .class_ 30), (1, u "com/example/austere_json/austerejson/CodePointSet"), (9, .methodref 18 41), (0, .nameAndType 42 43), (0, u "sort"), (0, u "([J)V"), (0, .methodref 45 46), (0, .class_ 47), (0, .nameAndType 48 49), (0, u "java/lang/Math"), (0, u "max"), (0, u "(II)I"), (0, .methodref 28 51), (0, .nameAndType 5 52), (0, u "([I)V"), (6, u "build"), (0, u "()Lcom/example/austere_json/austerejson/CodePointSet;")] 8

def k3c0 : Code := { maxStack := 2, maxLocals := 1, code := prog_3_method_1_code, exceptionTable := #[], attributes := #[] }
def k3m0 : Method := { name := "<init>", desc := "()V", sig := { parameters := [], returnType := none }, accessFlags := 0, code := some k3c0 }
def k3c1 : Code := { maxStack := 5, maxLocals := 3, code := prog_3_method_2_code, exceptionTable := #[], attributes := #[] }
def k3m1 : Method := { name := "add", desc := "(II)Lcom/example/austere_json/austerejson/CodePointSet$Builder;", sig := { parameters := [.int, .int], returnType := some (.object "com/example/austere_json/austerejson/CodePointSet$Builder") }, accessFlags := 0, code := some k3c1 }
def k3c2 : Code := { maxStack := 7, maxLocals := 11, code := prog_3_method_5_code, exceptionTable := #[], attributes := #[] }
def k3m2 : Method := { name := "build", desc := "()Lcom/example/austere_json/austerejson/CodePointSet;", sig := { parameters := [], returnType := some (.object "com/example/austere_json/austerejson/CodePointSet") }, accessFlags := 0, code := some k3c2 }
/-- com/example/austere_json/austerejson/CodePointSet$Builder -/
def k3 : Class := { plain "com/example/austere_json/austerejson/CodePointSet$Builder" (some 0) with
  accessFlags := 48
  interfaces := #[]
  cf := some (fileOf pool3 8 #[.nestHost 28] #[{ accessFlags := 0, nameIndex := 5, descriptorIndex := 6, attributes := #[] }, { accessFlags := 0, nameIndex := 25, descriptorIndex := 26, attributes := #[] }, { accessFlags := 0, nameIndex := 59, descriptorIndex := 60, attributes := #[] }] 48 2 #[] #[{ accessFlags := 2, nameIndex := 11, descriptorIndex := 12, attributes := #[] }, { accessFlags := 2, nameIndex := 15, descriptorIndex := 16, attributes := #[] }])
  fields := #[{ name := "ranges", type := (.array .int), accessFlags := 2, slot := 0, constantValue := 0 }, { name := "size", type := .int, accessFlags := 2, slot := 1, constantValue := 0 }]
  methods := #[k3m0, k3m1, k3m2]
  instanceTypes := #[(.array .int), .int]
  staticTypes := #[]
  resolved := Array.replicate 69 none
  statics := none }

def pool4 : Array CpInfo := pool [(2, .class_ 4), (1, u "java/lang/Object"), (0, u "<init>"), (0, u "()V"), (1, .class_ 10), (1, u "java/util/DualPivotQuicksort"), (0, u "sort"), (2, .class_ 16), (1, u "java/util/Arrays"), (2, .methodref 8 20), (0, .nameAndType 11 21), (0, u "([JIII)V"), (52, .class_ 76), (1, u "java/util/Arrays$NaturalOrder"), (36, .class_ 115), (1, u "java/util/Arrays$LegacyMergeSort"), (1, u "Z"), (32, .methodref 151 152), (0, .class_ 153), (0, .nameAndType 154 155), (0, u "java/lang/System"), (0, u "arraycopy"), (0, u "(Ljava/lang/Object;ILjava/lang/Object;II)V"), (51, u "binarySearch0"), (1, .methodref 14 210), (0, .nameAndType 207 211), (0, u "([IIII)I"), (90, u "copyOf"), (1, .methodref 305 306), (0, .class_ 307), (0, .nameAndType 308 309), (0, u "java/lang/Math"), (0, u "min"), (0, u "(II)I"), (65, .class_ 376), (0, u "java/util/Arrays$ArrayList"), (68, u "$assertionsDisabled"), (269, u "MIN_ARRAY_SORT_GRAN"), (0, u "I"), (2, u "INSERTIONSORT_THRESHOLD"), (11, u "([J)V"), (62, u "binarySearch"), (4, u "([II)I"), (71, u "([II)[I"), (103, .class_ 976), (0, u "java/util/Arrays$ArrayItr")] 52

def k4m0 : Method := { name := "<init>", desc := "()V", sig := { parameters := [], returnType := none }, accessFlags := 2, code := none }
def k4c1 : Code := { maxStack := 4, maxLocals := 1, code := jdk_65_method_4_code, exceptionTable := #[], attributes := #[] }
def k4m1 : Method := { name := "sort", desc := "([J)V", sig := { parameters := [(.array .long)], returnType := none }, accessFlags := 9, code := some k4c1 }
def k4c2 : Code := { maxStack := 4, maxLocals := 2, code := jdk_65_method_57_code, exceptionTable := #[], attributes := #[] }
def k4m2 : Method := { name := "binarySearch", desc := "([II)I", sig := { parameters := [(.array .int), .int], returnType := some .int }, accessFlags := 9, code := some k4c2 }
def k4c3 : Code := { maxStack := 2, maxLocals := 8, code := jdk_65_method_59_code, exceptionTable := #[], attributes := #[] }
def k4m3 : Method := { name := "binarySearch0", desc := "([IIII)I", sig := { parameters := [(.array .int), .int, .int, .int], returnType := some .int }, accessFlags := 10, code := some k4c3 }
def k4c4 : Code := { maxStack := 6, maxLocals := 3, code := jdk_65_method_123_code, exceptionTable := #[], attributes := #[] }
def k4m4 : Method := { name := "copyOf", desc := "([II)[I", sig := { parameters := [(.array .int), .int], returnType := some (.array .int) }, accessFlags := 9, code := some k4c4 }
/-- java/util/Arrays -/
def k4 : Class := { plain "java/util/Arrays" (some 0) with
  accessFlags := 49
  interfaces := #[]
  cf := some (fileOf pool4 14 #[.nestMembers #[975, 375, 113, 74]] #[{ accessFlags := 2, nameIndex := 5, descriptorIndex := 6, attributes := #[] }, { accessFlags := 9, nameIndex := 11, descriptorIndex := 731, attributes := #[] }, { accessFlags := 9, nameIndex := 794, descriptorIndex := 799, attributes := #[] }, { accessFlags := 10, nameIndex := 207, descriptorIndex := 211, attributes := #[] }, { accessFlags := 9, nameIndex := 302, descriptorIndex := 871, attributes := #[] }] 49 2 #[] #[{ accessFlags := 26, nameIndex := 715, descriptorIndex := 716, attributes := #[] }, { accessFlags := 26, nameIndex := 719, descriptorIndex := 716, attributes := #[] }, { accessFlags := 4120, nameIndex := 445, descriptorIndex := 117, attributes := #[] }])
  fields := #[{ name := "MIN_ARRAY_SORT_GRAN", type := .int, accessFlags := 26, slot := 0, constantValue := 0 }, { name := "INSERTIONSORT_THRESHOLD", type := .int, accessFlags := 26, slot := 1, constantValue := 0 }, { name := "$assertionsDisabled", type := .boolean, accessFlags := 4120, slot := 2, constantValue := 0 }]
  methods := #[k4m0, k4m1, k4m2, k4m3, k4m4]
  instanceTypes := #[]
  staticTypes := #[.int, .int, .boolean]
  resolved := Array.replicate 1029 none
  statics := none }

def pool5 : Array CpInfo := pool [(2, .class_ 4), (1, u "java/lang/Object"), (0, u "<init>"), (0, u "()V"), (1, .class_ 10), (1, u "java/lang/System"), (0, u "allowSecurityManager"), (0, u "I"), (16, u "cons"), (0, u "Ljava/io/Console;"), (77, .class_ 110), (1, u "java/lang/System$CallersHolder"), (43, u "initialErrStream"), (0, u "Ljava/io/PrintStream;"), (19, u "security"), (0, u "Ljava/lang/SecurityManager;"), (31, .class_ 209), (0, u "java/lang/System$1"), (7, u "props"), (0, u "Ljava/util/Properties;"), (2, u "lineSeparator"), (0, u "Ljava/lang/String;"), (96, .class_ 321), (1, u "java/lang/System$LoggerFinder"), (5, .class_ 328), (0, u "java/lang/System$Logger"), (67, u "err"), (2, u "out"), (91, u "notSupportedJnuEncoding"), (15, u "in"), (17, u "initialIn"), (0, u "Ljava/io/InputStream;"), (35, u "bootLayer"), (0, u "Ljava/lang/ModuleLayer;"), (99, .class_ 664), (0, u "java/lang/System$2"), (9, u "NEVER"), (2, u "MAYBE"), (49, u "arraycopy"), (0, u "(Ljava/lang/Object;ILjava/lang/Object;II)V"), (72, .class_ 802), (0, u "java/lang/System$Logger$Level")] 31

def k5m0 : Method := { name := "<init>", desc := "()V", sig := { parameters := [], returnType := none }, accessFlags := 2, code := none }
def k5m1 : Method := { name := "arraycopy", desc := "(Ljava/lang/Object;ILjava/lang/Object;II)V", sig := { parameters := [(.object "java/lang/Object"), .int, (.object "java/lang/Object"), .int, .int], returnType := none }, accessFlags := 265, code := none }
/-- java/lang/System -/
def k5 : Class := { plain "java/lang/System" (some 0) with
  accessFlags := 49
  interfaces := #[]
  cf := some (fileOf pool5 8 #[.nestMembers #[319, 327, 801, 108, 663, 208]] #[{ accessFlags := 2, nameIndex := 5, descriptorIndex := 6, attributes := #[] }, { accessFlags := 265, nameIndex := 727, descriptorIndex := 728, attributes := #[] }] 49 2 #[] #[{ accessFlags := 25, nameIndex := 507, descriptorIndex := 526, attributes := #[] }, { accessFlags := 25, nameIndex := 399, descriptorIndex := 155, attributes := #[] }, { accessFlags := 25, nameIndex := 396, descriptorIndex := 155, attributes := #[] }, { accessFlags := 10, nameIndex := 525, descriptorIndex := 526, attributes := #[] }, { accessFlags := 26, nameIndex := 674, descriptorIndex := 12, attributes := #[] }, { accessFlags := 26, nameIndex := 677, descriptorIndex := 12, attributes := #[] }, { accessFlags := 10, nameIndex := 11, descriptorIndex := 12, attributes := #[] }, { accessFlags := 74, nameIndex := 175, descriptorIndex := 176, attributes := #[] }, { accessFlags := 10, nameIndex := 491, descriptorIndex := 222, attributes := #[] }, { accessFlags := 74, nameIndex := 29, descriptorIndex := 30, attributes := #[] }, { accessFlags := 74, nameIndex := 154, descriptorIndex := 155, attributes := #[] }, { accessFlags := 10, nameIndex := 217, descriptorIndex := 218, attributes := #[] }, { accessFlags := 10, nameIndex := 221, descriptorIndex := 222, attributes := #[] }, { accessFlags := 8, nameIndex := 562, descriptorIndex := 563, attributes := #[] }])
  fields := #[{ name := "in", type := (.object "java/io/InputStream"), accessFlags := 25, slot := 0, constantValue := 0 }, { name := "out", type := (.object "java/io/PrintStream"), accessFlags := 25, slot := 1, constantValue := 0 }, { name := "err", type := (.object "java/io/PrintStream"), accessFlags := 25, slot := 2, constantValue := 0 }, { name := "initialIn", type := (.object "java/io/InputStream"), accessFlags := 10, slot := 3, constantValue := 0 }, { name := "NEVER", type := .int, accessFlags := 26, slot := 4, constantValue := 0 }, { name := "MAYBE", type := .int, accessFlags := 26, slot := 5, constantValue := 0 }, { name := "allowSecurityManager", type := .int, accessFlags := 10, slot := 6, constantValue := 0 }, { name := "security", type := (.object "java/lang/SecurityManager"), accessFlags := 74, slot := 7, constantValue := 0 }, { name := "notSupportedJnuEncoding", type := (.object "java/lang/String"), accessFlags := 10, slot := 8, constantValue := 0 }, { name := "cons", type := (.object "java/io/Console"), accessFlags := 74, slot := 9, constantValue := 0 }, { name := "initialErrStream", type := (.object "java/io/PrintStream"), accessFlags := 74, slot := 10, constantValue := 0 }, { name := "props", type := (.object "java/util/Properties"), accessFlags := 10, slot := 11, constantValue := 0 }, { name := "lineSeparator", type := (.object "java/lang/String"), accessFlags := 10, slot := 12, constantValue := 0 }, { name := "bootLayer", type := (.object "java/lang/ModuleLayer"), accessFlags := 8, slot := 13, constantValue := 0 }]
  methods := #[k5m0, k5m1]
  instanceTypes := #[]
  staticTypes := #[(.object "java/io/InputStream"), (.object "java/io/PrintStream"), (.object "java/io/PrintStream"), (.object "java/io/InputStream"), .int, .int, .int, (.object "java/lang/SecurityManager"), (.object "java/lang/String"), (.object "java/io/Console"), (.object "java/io/PrintStream"), (.object "java/util/Properties"), (.object "java/lang/String"), (.object "java/lang/ModuleLayer")]
  resolved := Array.replicate 834 none
  statics := none }

def pool6 : Array CpInfo := pool [(1, .class_ 2), (0, u "java/util/DualPivotQuicksort"), (5, .class_ 10), (1, u "java/lang/Object"), (0, u "<init>"), (0, u "()V"), (4, .class_ 18), (0, u "java/util/DualPivotQuicksort$Sorter"), (9, u "sort"), (7, u "insertionSort"), (31, u "I"), (4, .class_ 74), (0, u "java/util/DualPivotQuicksort$RunMerger"), (10, .class_ 86), (0, u "java/util/DualPivotQuicksort$Merger"), (12, .methodref 1 100), (0, .nameAndType 28 101), (0, u "(Ljava/util/DualPivotQuicksort$Sorter;[JIII)V"), (2, u "([JIII)V"), (0, .methodref 1 106), (0, .nameAndType 36 107), (0, u "([JII)V"), (106, u "MAX_MIXED_INSERTION_SORT_SIZE"), (2, u "MAX_INSERTION_SORT_SIZE"), (1, u "MIN_PARALLEL_SORT_SIZE"), (1, u "MIN_TRY_MERGE_SIZE"), (0, u "MIN_FIRST_RUN_SIZE"), (1, u "MIN_FIRST_RUNS_FACTOR"), (1, u "MAX_RUN_CAPACITY"), (1, u "MIN_RUN_COUNT"), (1, u "MIN_PARALLEL_MERGE_PARTS_SIZE"), (0, u "MIN_BYTE_COUNTING_SORT_SIZE"), (1, u "MIN_SHORT_OR_CHAR_COUNTING_SORT_SIZE"), (1, u "DELTA"), (1, u "MAX_RECURSION_DEPTH"), (1, u "NUM_BYTE_VALUES"), (1, u "MAX_BYTE_INDEX"), (0, u "NUM_CHAR_VALUES"), (0, u "NUM_SHORT_VALUES"), (0, u "MAX_SHORT_INDEX")] 86

def k6m0 : Method := { name := "<init>", desc := "()V", sig := { parameters := [], returnType := none }, accessFlags := 2, code := none }
def k6c1 : Code := { maxStack := 9, maxLocals := 7, code := jdk_2529_method_12_code, exceptionTable := #[], attributes := #[] }
def k6m1 : Method := { name := "sort", desc := "([JIII)V", sig := { parameters := [(.array .long), .int, .int, .int], returnType := none }, accessFlags := 8, code := some k6c1 }
def k6c2 : Code := { maxStack := 6, maxLocals := 25, code := jdk_2529_method_13_code, exceptionTable := #[], attributes := #[] }
def k6m2 : Method := { name := "sort", desc := "(Ljava/util/DualPivotQuicksort$Sorter;[JIII)V", sig := { parameters := [(.object "java/util/DualPivotQuicksort$Sorter"), (.array .long), .int, .int, .int], returnType := none }, accessFlags := 8, code := some k6c2 }
def k6c3 : Code := { maxStack := 5, maxLocals := 7, code := jdk_2529_method_15_code, exceptionTable := #[], attributes := #[] }
def k6m3 : Method := { name := "insertionSort", desc := "([JII)V", sig := { parameters := [(.array .long), .int, .int], returnType := none }, accessFlags := 10, code := some k6c3 }
/-- java/util/DualPivotQuicksort -/
def k6 : Class := { plain "java/util/DualPivotQuicksort" (some 0) with
  accessFlags := 48
  interfaces := #[]
  cf := some (fileOf pool6 1 #[.nestMembers #[73, 85, 17]] #[{ accessFlags := 2, nameIndex := 11, descriptorIndex := 12, attributes := #[] }, { accessFlags := 8, nameIndex := 28, descriptorIndex := 104, attributes := #[] }, { accessFlags := 8, nameIndex := 28, descriptorIndex := 101, attributes := #[] }, { accessFlags := 10, nameIndex := 36, descriptorIndex := 107, attributes := #[] }] 48 8 #[] #[{ accessFlags := 26, nameIndex := 214, descriptorIndex := 68, attributes := #[] }, { accessFlags := 26, nameIndex := 217, descriptorIndex := 68, attributes := #[] }, { accessFlags := 26, nameIndex := 219, descriptorIndex := 68, attributes := #[] }, { accessFlags := 26, nameIndex := 221, descriptorIndex := 68, attributes := #[] }, { accessFlags := 26, nameIndex := 222, descriptorIndex := 68, attributes := #[] }, { accessFlags := 26, nameIndex := 224, descriptorIndex := 68, attributes := #[] }, { accessFlags := 26, nameIndex := 226, descriptorIndex := 68, attributes := #[] }, { accessFlags := 26, nameIndex := 228, descriptorIndex := 68, attributes := #[] }, { accessFlags := 26, nameIndex := 230, descriptorIndex := 68, attributes := #[] }, { accessFlags := 26, nameIndex := 231, descriptorIndex := 68, attributes := #[] }, { accessFlags := 26, nameIndex := 233, descriptorIndex := 68, attributes := #[] }, { accessFlags := 26, nameIndex := 235, descriptorIndex := 68, attributes := #[] }, { accessFlags := 26, nameIndex := 237, descriptorIndex := 68, attributes := #[] }, { accessFlags := 26, nameIndex := 239, descriptorIndex := 68, attributes := #[] }, { accessFlags := 26, nameIndex := 241, descriptorIndex := 68, attributes := #[] }, { accessFlags := 26, nameIndex := 242, descriptorIndex := 68, attributes := #[] }, { accessFlags := 26, nameIndex := 243, descriptorIndex := 68, attributes := #[] }, { accessFlags := 26, nameIndex := 244, descriptorIndex := 68, attributes := #[] }])
  fields := #[{ name := "MAX_MIXED_INSERTION_SORT_SIZE", type := .int, accessFlags := 26, slot := 0, constantValue := 0 }, { name := "MAX_INSERTION_SORT_SIZE", type := .int, accessFlags := 26, slot := 1, constantValue := 0 }, { name := "MIN_PARALLEL_SORT_SIZE", type := .int, accessFlags := 26, slot := 2, constantValue := 0 }, { name := "MIN_TRY_MERGE_SIZE", type := .int, accessFlags := 26, slot := 3, constantValue := 0 }, { name := "MIN_FIRST_RUN_SIZE", type := .int, accessFlags := 26, slot := 4, constantValue := 0 }, { name := "MIN_FIRST_RUNS_FACTOR", type := .int, accessFlags := 26, slot := 5, constantValue := 0 }, { name := "MAX_RUN_CAPACITY", type := .int, accessFlags := 26, slot := 6, constantValue := 0 }, { name := "MIN_RUN_COUNT", type := .int, accessFlags := 26, slot := 7, constantValue := 0 }, { name := "MIN_PARALLEL_MERGE_PARTS_SIZE", type := .int, accessFlags := 26, slot := 8, constantValue := 0 }, { name := "MIN_BYTE_COUNTING_SORT_SIZE", type := .int, accessFlags := 26, slot := 9, constantValue := 0 }, { name := "MIN_SHORT_OR_CHAR_COUNTING_SORT_SIZE", type := .int, accessFlags := 26, slot := 10, constantValue := 0 }, { name := "DELTA", type := .int, accessFlags := 26, slot := 11, constantValue := 0 }, { name := "MAX_RECURSION_DEPTH", type := .int, accessFlags := 26, slot := 12, constantValue := 0 }, { name := "NUM_BYTE_VALUES", type := .int, accessFlags := 26, slot := 13, constantValue := 0 }, { name := "MAX_BYTE_INDEX", type := .int, accessFlags := 26, slot := 14, constantValue := 0 }, { name := "NUM_CHAR_VALUES", type := .int, accessFlags := 26, slot := 15, constantValue := 0 }, { name := "NUM_SHORT_VALUES", type := .int, accessFlags := 26, slot := 16, constantValue := 0 }, { name := "MAX_SHORT_INDEX", type := .int, accessFlags := 26, slot := 17, constantValue := 0 }]
  methods := #[k6m0, k6m1, k6m2, k6m3]
  instanceTypes := #[]
  staticTypes := #[.int, .int, .int, .int, .int, .int, .int, .int, .int, .int, .int, .int, .int, .int, .int, .int, .int, .int]
  resolved := Array.replicate 331 none
  statics := none }

def pool7 : Array CpInfo := pool [(3, .methodref 4 5), (0, .class_ 6), (0, .nameAndType 7 8), (0, u "java/lang/Object"), (0, u "<init>"), (0, u "()V"), (0, .fieldref 10 11), (0, .class_ 12), (0, .nameAndType 13 14), (0, u "com/example/austere_json/austerejson/CodePointSet"), (0, u "ascii"), (0, u "[J"), (0, .fieldref 10 16), (0, .nameAndType 17 18), (0, u "ranges"), (0, u "[I"), (0, .methodref 20 21), (0, .class_ 22), (0, .nameAndType 23 24), (0, u "java/lang/Math"), (0, u "min"), (0, u "(II)I"), (2, u "([I)V"), (0, .methodref 29 30), (0, .class_ 31), (0, .nameAndType 32 33), (0, u "java/util/Arrays"), (0, u "binarySearch"), (0, u "([II)I"), (0, .class_ 35), (0, u "com/example/austere_json/austerejson/CodePointSet$Builder"), (18, u "rangeCount"), (0, u "()I"), (14, u "EMPTY"), (0, u "Lcom/example/austere_json/austerejson/CodePointSet;"), (2, u "ALL"), (0, u "MAX_CODE_POINT"), (0, u "I"), (1, u "ASCII"), (9, u "contains"), (0, u "(I)Z")] 8

def k7c0 : Code := { maxStack := 7, maxLocals := 4, code := prog_2_method_1_code, exceptionTable := #[], attributes := #[] }
def k7m0 : Method := { name := "<init>", desc := "([I)V", sig := { parameters := [(.array .int)], returnType := none }, accessFlags := 2, code := some k7c0 }
def k7c1 : Code := { maxStack := 5, maxLocals := 4, code := prog_2_method_4_code, exceptionTable := #[], attributes := #[] }
def k7m1 : Method := { name := "contains", desc := "(I)Z", sig := { parameters := [.int], returnType := some .boolean }, accessFlags := 0, code := some k7c1 }
def k7c2 : Code := { maxStack := 2, maxLocals := 1, code := prog_2_method_5_code, exceptionTable := #[], attributes := #[] }
def k7m2 : Method := { name := "rangeCount", desc := "()I", sig := { parameters := [], returnType := some .int }, accessFlags := 0, code := some k7c2 }
/-- com/example/austere_json/austerejson/CodePointSet -/
def k7 : Class := { plain "com/example/austere_json/austerejson/CodePointSet" (some 0) with
  accessFlags := 48
  interfaces := #[]
  cf := some (fileOf pool7 10 #[.nestMembers #[34]] #[{ accessFlags := 2, nameIndex := 7, descriptorIndex := 27, attributes := #[] }, { accessFlags := 0, nameIndex := 88, descriptorIndex := 89, attributes := #[] }, { accessFlags := 0, nameIndex := 54, descriptorIndex := 55, attributes := #[] }] 48 4 #[] #[{ accessFlags := 24, nameIndex := 75, descriptorIndex := 76, attributes := #[] }, { accessFlags := 26, nameIndex := 78, descriptorIndex := 76, attributes := #[] }, { accessFlags := 24, nameIndex := 70, descriptorIndex := 71, attributes := #[] }, { accessFlags := 24, nameIndex := 74, descriptorIndex := 71, attributes := #[] }, { accessFlags := 18, nameIndex := 17, descriptorIndex := 18, attributes := #[] }, { accessFlags := 18, nameIndex := 13, descriptorIndex := 14, attributes := #[] }])
  fields := #[{ name := "MAX_CODE_POINT", type := .int, accessFlags := 24, slot := 0, constantValue := 0 }, { name := "ASCII", type := .int, accessFlags := 26, slot := 1, constantValue := 0 }, { name := "EMPTY", type := (.object "com/example/austere_json/austerejson/CodePointSet"), accessFlags := 24, slot := 2, constantValue := 0 }, { name := "ALL", type := (.object "com/example/austere_json/austerejson/CodePointSet"), accessFlags := 24, slot := 3, constantValue := 0 }, { name := "ranges", type := (.array .int), accessFlags := 18, slot := 0, constantValue := 0 }, { name := "ascii", type := (.array .long), accessFlags := 18, slot := 1, constantValue := 0 }]
  methods := #[k7m0, k7m1, k7m2]
  instanceTypes := #[(.array .int), (.array .long)]
  staticTypes := #[.int, .int, (.object "com/example/austere_json/austerejson/CodePointSet"), (.object "com/example/austere_json/austerejson/CodePointSet")]
  resolved := Array.replicate 98 none
  statics := none }

def pool8 : Array CpInfo := pool [(1, u "java/lang/Cloneable"), (0, .class_ 1), (0, u "java/lang/Object"), (0, .class_ 3)] 3

/-- java/lang/Cloneable -/
def k8 : Class := { plain "java/lang/Cloneable" (some 0) with
  accessFlags := 1537
  interfaces := #[]
  cf := some (fileOf pool8 2 #[] #[] 1537 4 #[] #[])
  fields := #[]
  methods := #[]
  instanceTypes := #[]
  staticTypes := #[]
  resolved := Array.replicate 8 none
  statics := none }

def pool9 : Array CpInfo := pool [(1, u "java/io/Serializable"), (0, .class_ 1), (0, u "java/lang/Object"), (0, .class_ 3)] 3

/-- java/io/Serializable -/
def k9 : Class := { plain "java/io/Serializable" (some 0) with
  accessFlags := 1537
  interfaces := #[]
  cf := some (fileOf pool9 2 #[] #[] 1537 4 #[] #[])
  fields := #[]
  methods := #[]
  instanceTypes := #[]
  staticTypes := #[]
  resolved := Array.replicate 8 none
  statics := none }

/-- the primitive byte -/
def k10 : Class := { plain "byte" none with kind := .primitive 'B', accessFlags := 0x411 }
/-- [B -/
def k11 : Class := { plain "[B" (some 0) with kind := .array 10 .byte, interfaces := #[8, 9], accessFlags := 1041 }

/-- the primitive int -/
def k12 : Class := { plain "int" none with kind := .primitive 'I', accessFlags := 0x411 }
/-- [I -/
def k13 : Class := { plain "[I" (some 0) with kind := .array 12 .int, interfaces := #[8, 9], accessFlags := 1041 }

/-- the primitive long -/
def k14 : Class := { plain "long" none with kind := .primitive 'J', accessFlags := 0x411 }
/-- [J -/
def k15 : Class := { plain "[J" (some 0) with kind := .array 14 .long, interfaces := #[8, 9], accessFlags := 1041 }

def heap : Heap := #[]
def classes : Array Class := #[k0, k1, k2, k3, k4, k5, k6, k7, k8, k9, k10, k11, k12, k13, k14, k15]
def interned : List (Array UInt16 × Addr) := []
def slotsUsed : Nat := 0
def theMethod : MethodId := ⟨1, 2⟩
def args0 : Array Value := #[.int 5, .int 6, .int 7, .int 8, .int 9]
def aboutOver (below : List Frame) : State where
  vm := { classes := classes, interned := interned.toArray }
  heap := heap
  slotsUsed := slotsUsed
  threads := #[{ frames := .invoking theMethod args0 :: below }]
def below0 : List Frame := [.native { method := ⟨0, 0⟩, args := #[] }]
def about1 : State := aboutOver below0
def p0 : Program := .bare "" "" ""
def e0 : Env := launch0.env 0 0 0
theorem w_frames : about1.frames = Frame.invoking theMethod args0 :: below0 := rfl
set_option maxRecDepth 65536 in
theorem w_args : argsFit about1.vm theMethod args0 = true := by decide +kernel
set_option maxRecDepth 65536 in
theorem w_heap : heapFits about1 = true := by decide +kernel
set_option maxRecDepth 65536 in
theorem w_runnable : about1.curStatus? = some .runnable := by decide +kernel
set_option maxRecDepth 65536 in
theorem w_alone : about1.alone = true := by decide +kernel
set_option maxRecDepth 65536 in
theorem w_named : about1.methodNamed? x = some theMethod := by decide +kernel
set_option maxRecDepth 65536 in
theorem w_hears : about1.hears theMethod below0 = true := by decide +kernel
set_option maxRecDepth 65536 in
theorem w_ripe : about1.ripe theMethod args0 below0 = true := by decide +kernel
theorem w_running : about1.status = .running := rfl
set_option maxRecDepth 65536 in
theorem w_room : about1.hasRoom e0.platform room_1 = true :=
  launch0.hasRoom_least _ room_1 (by decide +kernel) (by decide +kernel) (by decide +kernel) (by decide +kernel) (by decide +kernel) (by decide +kernel)
theorem allAtoms_all (ts : List Jvm.Cond) (a : Array Jvm.Value) (st : Jvm.State) : (allAtoms ts).before a st = ts.all (fun c => c.before a st) := by
  induction ts with
  | nil => rfl
  | cons c t ih =>
    show (Jvm.Cond.and c (allAtoms t)).before a st = _
    rw [Jvm.Cond.before_and, ih, List.all_cons]
def words1 : List Jvm.Cond := Jvm.Cond.code x code maxLocals ret :: tables_1
/-- a 'code' word, met by the world's own term for the bytes: nothing is compared byte by byte -/
theorem code_word {y : MethodName} {bytes : ByteArray} {mx : Nat} {rt : Option FieldType} {a : Array Value} {s : State} {m : MethodId} {meth : Method} {c : Code} (h1 : s.methodNamed? y = some m) (h2 : s.vm.method? m = some meth) (h3 : meth.code = some c) (h4 : c.code = bytes)
    (h5 : (c.maxLocals == mx && c.exceptionTable.isEmpty && decide (c.maxStack ≤ mostOperands) && decide (meth.sig.returnType = rt) && !meth.locks && decide (parseMethodDescriptor y.desc = some meth.sig)) = true) : (Jvm.Cond.code y bytes mx rt).before a s = true := by
  simp only [Bool.and_eq_true, beq_iff_eq, Bool.not_eq_true', decide_eq_true_eq] at h5
  obtain ⟨⟨⟨⟨⟨g1, g2⟩, g3⟩, g4⟩, g5⟩, g6⟩ := h5
  simp [Cond.before, Cond.holds, Cond.value, h1, h2, h3, h4, g1, g2, g3, g4, g5, g6]
def isCode : Jvm.Cond → Bool
  | .code _ _ _ _ => true
  | _ => false
theorem all_split {L : List Jvm.Cond} {P : Jvm.Cond → Bool} (h1 : L.all (fun c => isCode c || P c) = true) (h2 : ∀ c ∈ L.filter isCode, P c = true) : L.all P = true := by
  refine List.all_eq_true.mpr fun c hc => ?_
  have h := List.all_eq_true.mp h1 c hc
  rcases Bool.eq_false_or_eq_true (isCode c) with hi | hi
  · exact h2 c (List.mem_filter.mpr ⟨hc, hi⟩)
  · simpa [hi] using h
set_option maxRecDepth 65536 in
theorem w_c0 : (Jvm.Cond.code x code maxLocals ret).before args0 about1 = true := code_word (m := ⟨1, 2⟩) (meth := k1m2) (c := k1c2) (by decide +kernel) rfl rfl rfl (by decide +kernel)
set_option maxRecDepth 65536 in
theorem w_c1 : (Jvm.Cond.code ({ cls := "com/example/austere_json/austerejson/BuilderAddPinLaw", name := "cp", desc := "(I)I" } : Jvm.MethodName) method_2_code (1 : Nat) (Option.some Jvm.ClassFile.FieldType.int)).before args0 about1 = true := code_word (m := ⟨1, 1⟩) (meth := k1m1) (c := k1c1) (by decide +kernel) rfl rfl rfl (by decide +kernel)
set_option maxRecDepth 65536 in
theorem w_c2 : (Jvm.Cond.code ({ cls := "java/lang/Math", name := "min", desc := "(II)I" } : Jvm.MethodName) jdk_29_method_69_code (2 : Nat) (Option.some Jvm.ClassFile.FieldType.int)).before args0 about1 = true := code_word (m := ⟨2, 2⟩) (meth := k2m2) (c := k2c2) (by decide +kernel) rfl rfl rfl (by decide +kernel)
set_option maxRecDepth 65536 in
theorem w_c3 : (Jvm.Cond.code ({ cls := "java/lang/Math", name := "max", desc := "(II)I" } : Jvm.MethodName) jdk_29_method_65_code (2 : Nat) (Option.some Jvm.ClassFile.FieldType.int)).before args0 about1 = true := code_word (m := ⟨2, 1⟩) (meth := k2m1) (c := k2c1) (by decide +kernel) rfl rfl rfl (by decide +kernel)
set_option maxRecDepth 65536 in
theorem w_c4 : (Jvm.Cond.code ({ cls := "com/example/austere_json/austerejson/CodePointSet$Builder", name := "<init>", desc := "()V" } : Jvm.MethodName) prog_3_method_1_code (1 : Nat) (Option.none : Option Jvm.ClassFile.FieldType)).before args0 about1 = true := code_word (m := ⟨3, 0⟩) (meth := k3m0) (c := k3c0) (by decide +kernel) rfl rfl rfl (by decide +kernel)
set_option maxRecDepth 65536 in
theorem w_c5 : (Jvm.Cond.code ({ cls := "java/lang/Object", name := "<init>", desc := "()V" } : Jvm.MethodName) object_method_1_code (1 : Nat) (Option.none : Option Jvm.ClassFile.FieldType)).before args0 about1 = true := code_word (m := ⟨0, 0⟩) (meth := k0m0) (c := k0c0) (by decide +kernel) rfl rfl rfl (by decide +kernel)
set_option maxRecDepth 65536 in
theorem w_c6 : (Jvm.Cond.code ({ cls := "com/example/austere_json/austerejson/CodePointSet$Builder", name := "add", desc := "(II)Lcom/example/austere_json/austerejson/CodePointSet$Builder;" } : Jvm.MethodName) prog_3_method_2_code (3 : Nat) (Option.some (Jvm.ClassFile.FieldType.object "com/example/austere_json/austerejson/CodePointSet$Builder"))).before args0 about1 = true := code_word (m := ⟨3, 1⟩) (meth := k3m1) (c := k3c1) (by decide +kernel) rfl rfl rfl (by decide +kernel)
set_option maxRecDepth 65536 in
theorem w_c7 : (Jvm.Cond.code ({ cls := "java/util/Arrays", name := "copyOf", desc := "([II)[I" } : Jvm.MethodName) jdk_65_method_123_code (3 : Nat) (Option.some (Jvm.ClassFile.FieldType.array Jvm.ClassFile.FieldType.int))).before args0 about1 = true := code_word (m := ⟨4, 4⟩) (meth := k4m4) (c := k4c4) (by decide +kernel) rfl rfl rfl (by decide +kernel)
set_option maxRecDepth 65536 in
theorem w_c8 : (Jvm.Cond.code ({ cls := "com/example/austere_json/austerejson/CodePointSet$Builder", name := "build", desc := "()Lcom/example/austere_json/austerejson/CodePointSet;" } : Jvm.MethodName) prog_3_method_5_code (11 : Nat) (Option.some (Jvm.ClassFile.FieldType.object "com/example/austere_json/austerejson/CodePointSet"))).before args0 about1 = true := code_word (m := ⟨3, 2⟩) (meth := k3m2) (c := k3c2) (by decide +kernel) rfl rfl rfl (by decide +kernel)
set_option maxRecDepth 65536 in
theorem w_c9 : (Jvm.Cond.code ({ cls := "java/util/Arrays", name := "sort", desc := "([J)V" } : Jvm.MethodName) jdk_65_method_4_code (1 : Nat) (Option.none : Option Jvm.ClassFile.FieldType)).before args0 about1 = true := code_word (m := ⟨4, 1⟩) (meth := k4m1) (c := k4c1) (by decide +kernel) rfl rfl rfl (by decide +kernel)
set_option maxRecDepth 65536 in
theorem w_c10 : (Jvm.Cond.code ({ cls := "java/util/DualPivotQuicksort", name := "sort", desc := "([JIII)V" } : Jvm.MethodName) jdk_2529_method_12_code (7 : Nat) (Option.none : Option Jvm.ClassFile.FieldType)).before args0 about1 = true := code_word (m := ⟨6, 1⟩) (meth := k6m1) (c := k6c1) (by decide +kernel) rfl rfl rfl (by decide +kernel)
set_option maxRecDepth 65536 in
theorem w_c11 : (Jvm.Cond.code ({ cls := "java/util/DualPivotQuicksort", name := "sort", desc := "(Ljava/util/DualPivotQuicksort$Sorter;[JIII)V" } : Jvm.MethodName) jdk_2529_method_13_code (25 : Nat) (Option.none : Option Jvm.ClassFile.FieldType)).before args0 about1 = true := code_word (m := ⟨6, 2⟩) (meth := k6m2) (c := k6c2) (by decide +kernel) rfl rfl rfl (by decide +kernel)
set_option maxRecDepth 65536 in
theorem w_c12 : (Jvm.Cond.code ({ cls := "java/util/DualPivotQuicksort", name := "insertionSort", desc := "([JII)V" } : Jvm.MethodName) jdk_2529_method_15_code (7 : Nat) (Option.none : Option Jvm.ClassFile.FieldType)).before args0 about1 = true := code_word (m := ⟨6, 3⟩) (meth := k6m3) (c := k6c3) (by decide +kernel) rfl rfl rfl (by decide +kernel)
set_option maxRecDepth 65536 in
theorem w_c13 : (Jvm.Cond.code ({ cls := "com/example/austere_json/austerejson/CodePointSet", name := "<init>", desc := "([I)V" } : Jvm.MethodName) prog_2_method_1_code (4 : Nat) (Option.none : Option Jvm.ClassFile.FieldType)).before args0 about1 = true := code_word (m := ⟨7, 0⟩) (meth := k7m0) (c := k7c0) (by decide +kernel) rfl rfl rfl (by decide +kernel)
set_option maxRecDepth 65536 in
theorem w_c14 : (Jvm.Cond.code ({ cls := "com/example/austere_json/austerejson/CodePointSet", name := "contains", desc := "(I)Z" } : Jvm.MethodName) prog_2_method_4_code (4 : Nat) (Option.some Jvm.ClassFile.FieldType.boolean)).before args0 about1 = true := code_word (m := ⟨7, 1⟩) (meth := k7m1) (c := k7c1) (by decide +kernel) rfl rfl rfl (by decide +kernel)
set_option maxRecDepth 65536 in
theorem w_c15 : (Jvm.Cond.code ({ cls := "com/example/austere_json/austerejson/CodePointSet", name := "rangeCount", desc := "()I" } : Jvm.MethodName) prog_2_method_5_code (1 : Nat) (Option.some Jvm.ClassFile.FieldType.int)).before args0 about1 = true := code_word (m := ⟨7, 2⟩) (meth := k7m2) (c := k7c2) (by decide +kernel) rfl rfl rfl (by decide +kernel)
set_option maxRecDepth 65536 in
theorem w_c16 : (Jvm.Cond.code ({ cls := "java/util/Arrays", name := "binarySearch", desc := "([II)I" } : Jvm.MethodName) jdk_65_method_57_code (2 : Nat) (Option.some Jvm.ClassFile.FieldType.int)).before args0 about1 = true := code_word (m := ⟨4, 2⟩) (meth := k4m2) (c := k4c2) (by decide +kernel) rfl rfl rfl (by decide +kernel)
set_option maxRecDepth 65536 in
theorem w_c17 : (Jvm.Cond.code ({ cls := "java/util/Arrays", name := "binarySearch0", desc := "([IIII)I" } : Jvm.MethodName) jdk_65_method_59_code (8 : Nat) (Option.some Jvm.ClassFile.FieldType.int)).before args0 about1 = true := code_word (m := ⟨4, 3⟩) (meth := k4m3) (c := k4c3) (by decide +kernel) rfl rfl rfl (by decide +kernel)
def codes1 : List Jvm.Cond := [Jvm.Cond.code x code maxLocals ret, Jvm.Cond.code ({ cls := "com/example/austere_json/austerejson/BuilderAddPinLaw", name := "cp", desc := "(I)I" } : Jvm.MethodName) method_2_code (1 : Nat) (Option.some Jvm.ClassFile.FieldType.int), Jvm.Cond.code ({ cls := "java/lang/Math", name := "min", desc := "(II)I" } : Jvm.MethodName) jdk_29_method_69_code (2 : Nat) (Option.some Jvm.ClassFile.FieldType.int), Jvm.Cond.code ({ cls := "java/lang/Math", name := "max", desc := "(II)I" } : Jvm.MethodName) jdk_29_method_65_code (2 : Nat) (Option.some Jvm.ClassFile.FieldType.int), Jvm.Cond.code ({ cls := "com/example/austere_json/austerejson/CodePointSet$Builder", name := "<init>", desc := "()V" } : Jvm.MethodName) prog_3_method_1_code (1 : Nat) (Option.none : Option Jvm.ClassFile.FieldType), Jvm.Cond.code ({ cls := "java/lang/Object", name := "<init>", desc := "()V" } : Jvm.MethodName) object_method_1_code (1 : Nat) (Option.none : Option Jvm.ClassFile.FieldType), Jvm.Cond.code ({ cls := "com/example/austere_json/austerejson/CodePointSet$Builder", name := "add", desc := "(II)Lcom/example/austere_json/austerejson/CodePointSet$Builder;" } : Jvm.MethodName) prog_3_method_2_code (3 : Nat) (Option.some (Jvm.ClassFile.FieldType.object "com/example/austere_json/austerejson/CodePointSet$Builder")), Jvm.Cond.code ({ cls := "java/util/Arrays", name := "copyOf", desc := "([II)[I" } : Jvm.MethodName) jdk_65_method_123_code (3 : Nat) (Option.some (Jvm.ClassFile.FieldType.array Jvm.ClassFile.FieldType.int)), Jvm.Cond.code ({ cls := "com/example/austere_json/austerejson/CodePointSet$Builder", name := "build", desc := "()Lcom/example/austere_json/austerejson/CodePointSet;" } : Jvm.MethodName) prog_3_method_5_code (11 : Nat) (Option.some (Jvm.ClassFile.FieldType.object "com/example/austere_json/austerejson/CodePointSet")), Jvm.Cond.code ({ cls := "java/util/Arrays", name := "sort", desc := "([J)V" } : Jvm.MethodName) jdk_65_method_4_code (1 : Nat) (Option.none : Option Jvm.ClassFile.FieldType), Jvm.Cond.code ({ cls := "java/util/DualPivotQuicksort", name := "sort", desc := "([JIII)V" } : Jvm.MethodName) jdk_2529_method_12_code (7 : Nat) (Option.none : Option Jvm.ClassFile.FieldType), Jvm.Cond.code ({ cls := "java/util/DualPivotQuicksort", name := "sort", desc := "(Ljava/util/DualPivotQuicksort$Sorter;[JIII)V" } : Jvm.MethodName) jdk_2529_method_13_code (25 : Nat) (Option.none : Option Jvm.ClassFile.FieldType), Jvm.Cond.code ({ cls := "java/util/DualPivotQuicksort", name := "insertionSort", desc := "([JII)V" } : Jvm.MethodName) jdk_2529_method_15_code (7 : Nat) (Option.none : Option Jvm.ClassFile.FieldType), Jvm.Cond.code ({ cls := "com/example/austere_json/austerejson/CodePointSet", name := "<init>", desc := "([I)V" } : Jvm.MethodName) prog_2_method_1_code (4 : Nat) (Option.none : Option Jvm.ClassFile.FieldType), Jvm.Cond.code ({ cls := "com/example/austere_json/austerejson/CodePointSet", name := "contains", desc := "(I)Z" } : Jvm.MethodName) prog_2_method_4_code (4 : Nat) (Option.some Jvm.ClassFile.FieldType.boolean), Jvm.Cond.code ({ cls := "com/example/austere_json/austerejson/CodePointSet", name := "rangeCount", desc := "()I" } : Jvm.MethodName) prog_2_method_5_code (1 : Nat) (Option.some Jvm.ClassFile.FieldType.int), Jvm.Cond.code ({ cls := "java/util/Arrays", name := "binarySearch", desc := "([II)I" } : Jvm.MethodName) jdk_65_method_57_code (2 : Nat) (Option.some Jvm.ClassFile.FieldType.int), Jvm.Cond.code ({ cls := "java/util/Arrays", name := "binarySearch0", desc := "([IIII)I" } : Jvm.MethodName) jdk_65_method_59_code (8 : Nat) (Option.some Jvm.ClassFile.FieldType.int)]
set_option maxRecDepth 65536 in
theorem codes_eq : words1.filter isCode = codes1 := rfl
theorem w_codes : ∀ c ∈ words1.filter isCode, c.before args0 about1 = true := by
  rw [codes_eq]
  intro c hc
  simp only [codes1, List.mem_cons, List.not_mem_nil, or_false] at hc
  rcases hc with rfl | rfl | rfl | rfl | rfl | rfl | rfl | rfl | rfl | rfl | rfl | rfl | rfl | rfl | rfl | rfl | rfl | rfl
  · exact w_c0
  · exact w_c1
  · exact w_c2
  · exact w_c3
  · exact w_c4
  · exact w_c5
  · exact w_c6
  · exact w_c7
  · exact w_c8
  · exact w_c9
  · exact w_c10
  · exact w_c11
  · exact w_c12
  · exact w_c13
  · exact w_c14
  · exact w_c15
  · exact w_c16
  · exact w_c17
set_option maxRecDepth 65536 in
theorem w_t1 : (words1.take 24).all (fun c => isCode c || c.before args0 about1) = true := by decide +kernel
set_option maxRecDepth 65536 in
theorem w_t2 : ((words1.drop 24).take 24).all (fun c => isCode c || c.before args0 about1) = true := by decide +kernel
set_option maxRecDepth 65536 in
theorem w_t3 : (((words1.drop 24).drop 24).take 24).all (fun c => isCode c || c.before args0 about1) = true := by decide +kernel
set_option maxRecDepth 65536 in
theorem w_t4 : (((words1.drop 24).drop 24).drop 24).all (fun c => isCode c || c.before args0 about1) = true := by decide +kernel
theorem w_tables : (allAtoms (Jvm.Cond.code x code maxLocals ret :: tables_1)).before args0 about1 = true := by
  rw [allAtoms_all]
  show words1.all (fun c => c.before args0 about1) = true
  refine all_split ?_ w_codes
  rw [← List.take_append_drop 24 words1, List.all_append, w_t1, ← List.take_append_drop 24 (words1.drop 24), List.all_append, w_t2, ← List.take_append_drop 24 ((words1.drop 24).drop 24), List.all_append, w_t3, w_t4]
  rfl
set_option maxRecDepth 65536 in
theorem w_case : (Jvm.Cond.and given_1 narrow_1).before args0 about1 = true := by decide +kernel
theorem w_applies : (headSpec (Jvm.Cond.code x code maxLocals ret :: tables_1) room_1).applies x e0.platform about1 = true :=
  (Spec.applies_iff w_frames).mpr ⟨w_running, w_runnable, w_alone, w_named, w_hears, w_ripe, w_room, w_tables⟩
theorem atStart : AtStart classFile x code maxLocals ret World_1 tables_1 room_1 Calls_1 rest_1 Pre_1 launch0 p0 e0 about1 theMethod args0 below0 :=
  ⟨lists_1, trivial, launch0.admits_env _ _ _, launch0.least_env, fairChoices_fair.cas, fairChoices_fair.clock, w_frames, w_args, w_heap, w_applies, trivial, trivial, w_case⟩
end start1
theorem witness_1 : WitnessClaimed_1 := ⟨start1.p0, start1.e0, start1.about1, start1.theMethod, start1.args0, start1.below0, start1.atStart⟩
end Jvm.Pilot.@@N@@
