import JvmDerived
import JvmDerived.Pilot.@@N@@Statement
import JvmDerived.Pilot.@@N@@Code
set_option maxRecDepth 65536
set_option maxHeartbeats 40000000
set_option linter.unusedVariables false
set_option linter.unusedSimpArgs false
namespace Jvm.Pilot.@@N@@
open Jvm Jvm.ClassFile Sem Op Lib Jvm.Free Jvm.Stand Jvm.LawKit Jvm.RoadKit Bundle Jvm.Pilot.@@N@@.Jvm.D
def own_SC (Z : State) (cs0 : Int32) : Prop := Sta Z Z.heap "java/lang/String" "COMPACT_STRINGS" "Z" (.int cs0) ∧ ¬ cs0 = 0
def own_SU (Z : State) : Prop := Sta Z Z.heap "java/lang/StringUTF16" "$assertionsDisabled" "Z" (.int (1 : Int32)) ∧ Sta Z Z.heap "java/lang/StringUTF16" "HI_BYTE_SHIFT" "I" (.int (0 : Int32)) ∧ Sta Z Z.heap "java/lang/StringUTF16" "LO_BYTE_SHIFT" "I" (.int (8 : Int32))
abbrev F'0 (Z : State) (h : Heap) (a : Addr) (v : Value) : Prop := Fld Z h a "java/lang/String" "coder" "B" v
abbrev F'1 (Z : State) (h : Heap) (a : Addr) (v : Value) : Prop := Fld Z h a "java/lang/String" "value" "[B" v
abbrev F'2 (Z : State) (h : Heap) (a : Addr) (v : Value) : Prop := Fld Z h a "java/lang/AbstractStringBuilder" "coder" "B" v
abbrev F'3 (Z : State) (h : Heap) (a : Addr) (v : Value) : Prop := Fld Z h a "java/lang/AbstractStringBuilder" "value" "[B" v
abbrev F'4 (Z : State) (h : Heap) (a : Addr) (v : Value) : Prop := Fld Z h a "java/lang/AbstractStringBuilder" "count" "I" v
abbrev F'5 (Z : State) (h : Heap) (a : Addr) (v : Value) : Prop := Fld Z h a "java/lang/AbstractStringBuilder" "maybeLatin1" "Z" v
abbrev F'6 (Z : State) (h : Heap) (a : Addr) (v : Value) : Prop := Fld Z h a "com/example/wolf_spider/wolfspider/Url" "path" "Ljava/lang/String;" v
abbrev F'7 (Z : State) (h : Heap) (a : Addr) (v : Value) : Prop := Fld Z h a "com/example/wolf_spider/wolfspider/Url" "query" "Ljava/lang/String;" v
abbrev F'8 (Z : State) (h : Heap) (a : Addr) (v : Value) : Prop := Fld Z h a "com/example/wolf_spider/wolfspider/Url" "scheme" "Ljava/lang/String;" v
abbrev F'9 (Z : State) (h : Heap) (a : Addr) (v : Value) : Prop := Fld Z h a "com/example/wolf_spider/wolfspider/Url" "authority" "Ljava/lang/String;" v
abbrev b'1 := method_2_code
abbrev b'2 := jdk_42_method_3_code
abbrev b'3 := jdk_42_method_149_code
abbrev b'5 := prog_36_method_3_code
abbrev b'6 := prog_36_method_1_code
abbrev b'7 := prog_36_method_7_code
abbrev b'8 := jdk_42_method_66_code
abbrev b'9 := prog_36_method_9_code
abbrev b'10 := jdk_67_method_1_code
abbrev b'11 := jdk_68_method_2_code
abbrev b'12 := jdk_67_method_7_code
abbrev b'13 := jdk_68_method_22_code
abbrev b'14 := jdk_42_method_54_code
abbrev b'15 := jdk_42_method_152_code
abbrev b'16 := jdk_68_method_9_code
abbrev b'17 := jdk_68_method_73_code
abbrev b'18 := jdk_68_method_71_code
abbrev b'19 := jdk_42_method_147_code
abbrev b'20 := jdk_67_method_42_code
abbrev b'21 := jdk_42_method_53_code
abbrev b'22 := jdk_42_method_150_code
abbrev b'23 := jdk_68_method_64_code
abbrev b'24 := jdk_67_method_93_code
abbrev b'25 := jdk_68_method_6_code
abbrev b'26 := jdk_68_method_68_code
abbrev b'27 := jdk_65_method_132_code
abbrev b'28 := jdk_65_method_133_code
abbrev b'29 := jdk_65_method_131_code
abbrev b'30 := jdk_29_method_69_code
abbrev b'31 := jdk_43_method_13_code
abbrev b'32 := prog_36_method_8_code
abbrev b'33 := jdk_52_method_16_code
abbrev b'34 := jdk_52_method_21_code
abbrev b'35 := jdk_52_method_15_code
abbrev b'36 := jdk_52_method_14_code
abbrev b'37 := jdk_52_method_2_code
abbrev b'38 := jdk_52_method_3_code
abbrev b'39 := jdk_52_method_4_code
abbrev b'40 := jdk_52_method_5_code
abbrev b'41 := jdk_68_method_11_code
abbrev b'42 := jdk_43_method_50_code
abbrev b'43 := jdk_52_method_86_code
abbrev b'44 := jdk_52_method_94_code
abbrev b'45 := jdk_52_method_6_code
abbrev b'46 := jdk_42_method_157_code
abbrev b'47 := jdk_41_method_13_code
abbrev v'0 : Value := .int 0
abbrev v'1 : Value := .int 1
abbrev v'2 : Value := .int 2
abbrev v'3 : Value := .int 3
abbrev v'4 : Value := .int 4
abbrev v'6 : Value := .int 6
abbrev v'8 : Value := .int 8
abbrev v'16 : Value := .int 16
abbrev v'65535 : Value := .int 65535
theorem own_dummy : True := trivial
section Own
variable {p : Program} {l : Launch} {e : Env} {R : Room} {s : State} {m : MethodId} {args : Array Value} {below : List Frame} {meth : Method} {c : Code} {T : State} {locs : List Loc} {cells slots : Nat}
def own_Fin (p : Program) (e : Env) (below : List Frame) (P : Outcome → State → Prop) (U : State) : Prop := ∃ s₂ o, Steps p.tables e below U s₂ ∧ s₂.status = .running ∧ Ended s₂ below o ∧ P o s₂
def own_P (Q : Option Value → Heap → List Loc → Prop) (s : State) (C S : Nat) : Outcome → State → Prop := fun o t => ∃ v L, o = .returned v ∧ Q v t.heap L ∧ FrameEnd s o t L C S
theorem own_go {P : Outcome → State → Prop} {U U' : State} (k : own_Fin p e below P U') (h : ∀ t, Steps p.tables e below U' t → Steps p.tables e below U t) : own_Fin p e below P U := by
 obtain ⟨t, o, h1, r⟩ := k; exact ⟨t, o, h t h1, r⟩
theorem own_cut {P : Outcome → State → Prop} {U : State} (A : Prop) (k : A) (h : A → own_Fin p e below P U) : own_Fin p e below P U := h k
theorem own_retN (X : Stand p l e R s m args below meth c T locs cells slots) (hx : p.tables.exec = Jvm.exec) {pc : Nat} {Ls : Array Slot} {z : Int32} {t : FieldType} {rest : List Value} (hret : meth.sig.returnType = some t) (ht : t = .boolean ∨ t = .byte ∨ t = .char ∨ t = .short)
  (hd : decode c.code pc = .ok (.ireturn, 1)) (hlk : meth.locks = false) {Q : Option Value → Heap → List Loc → Prop} {C S : Nat} (hQ : Q (some (.int (nar t z))) T.heap locs) (hC : cells ≤ C) (hS : slots ≤ S) : own_Fin p e below (own_P Q s C S) (T.setTop (mkF m pc Ls (.int z :: rest))) := by
 obtain ⟨fs, hr, hrun, hended, hW, hsame⟩ := X.leave (v := some (.int (nar t z))) (fun h => by rw [hret] at h; cases h) hlk
 exact ⟨_, _, retN X hx hret ht hd hr, hrun, hended, _, _, rfl, hQ, ⟨_, rfl⟩, hW, hsame.mono hC hS⟩
theorem own_retO (X : Stand p l e R s m args below meth c T locs cells slots) (hx : p.tables.exec = Jvm.exec) {pc : Nat} {Ls : Array Slot} {w : Value} {t : FieldType} {i : Instr} {rest : List Value} (hret : meth.sig.returnType = some t) (hn : narrow t w = w)
  (hi : (i = .ireturn ∧ (t = .int ∨ t = .boolean ∨ t = .byte ∨ t = .char ∨ t = .short) ∧ ∃ z, w = .int z) ∨ (i = .lreturn ∧ t = .long ∧ ∃ z, w = .long z) ∨ (i = .dreturn ∧ t = .double ∧ ∃ z, w = .double z) ∨ (i = .freturn ∧ t = .float ∧ ∃ z, w = .float z) ∨ (i = .areturn ∧ t.isReference = true ∧ w.isRef = true))
  (hd : decode c.code pc = .ok (i, 1)) (hlk : meth.locks = false) {Q : Option Value → Heap → List Loc → Prop} {C S : Nat} (hQ : Q (some w) T.heap locs) (hC : cells ≤ C) (hS : slots ≤ S) : own_Fin p e below (own_P Q s C S) (T.setTop (mkF m pc Ls (w :: rest))) := by
 obtain ⟨fs, hr, hrun, hended, hW, hsame⟩ := X.leave (v := some w) (fun h => by rw [hret] at h; cases h) hlk
 exact ⟨_, _, retOut X hx hret hn hi hd hr, hrun, hended, _, _, rfl, hQ, ⟨_, rfl⟩, hW, hsame.mono hC hS⟩
theorem own_retV (X : Stand p l e R s m args below meth c T locs cells slots) (hx : p.tables.exec = Jvm.exec) {pc : Nat} {Ls : Array Slot} (hret : meth.sig.returnType = none)
  (hd : decode c.code pc = .ok (.return_, 1)) (hlk : meth.locks = false) {Q : Option Value → Heap → List Loc → Prop} {C S : Nat} (hQ : Q none T.heap locs) (hC : cells ≤ C) (hS : slots ≤ S) : own_Fin p e below (own_P Q s C S) (T.setTop (mkF m pc Ls [])) := by
 obtain ⟨fs, hr, hrun, hended, hW, hsame⟩ := X.leave (v := none) (fun _ => rfl) hlk
 exact ⟨_, _, X.returnOut hx hret hd hr, hrun, hended, _, _, rfl, hQ, ⟨_, rfl⟩, hW, hsame.mono hC hS⟩
def own_PW (Q : Option Value → Heap → List Loc → Prop) (s : State) (C S : Nat) : Outcome → State → Prop := fun o t => ∃ v L, o = .returned v ∧ Q v t.heap L ∧ ReturnedEndW s o t L C S
theorem own_wmono {s t : State} {o : Outcome} {L : List Loc} {k n C S : Nat} (h : ReturnedEndW s o t L k n) (hC : k ≤ C) (hS : n ≤ S) : ReturnedEndW s o t L C S := ⟨h.1, h.2.1, h.2.2.1, h.2.2.2.mono hC hS⟩
theorem own_retNW {vm0 : Vm} (X : Stand p l e R (s.setVm vm0) m args below meth c T locs cells slots) {k0 : Nat} (hS : s.Since vm0 k0) (hk : k0 ≤ T.heap.size) (hx : p.tables.exec = Jvm.exec) {pc : Nat} {Ls : Array Slot} {z : Int32} {t : FieldType} {rest : List Value} (hret : meth.sig.returnType = some t) (ht : t = .boolean ∨ t = .byte ∨ t = .char ∨ t = .short)
  (hd : decode c.code pc = .ok (.ireturn, 1)) (hlk : meth.locks = false) {Q : Option Value → Heap → List Loc → Prop} {C S : Nat} (hQ : Q (some (.int (nar t z))) T.heap locs) (hC : cells ≤ C) (hS' : slots ≤ S) : own_Fin p e below (own_PW Q s C S) (T.setTop (mkF m pc Ls (.int z :: rest))) := by
 obtain ⟨fs, hr, hrun, hended, hW⟩ := X.leaveW hS hk (v := some (.int (nar t z))) (fun h => by rw [hret] at h; cases h) hlk
 exact ⟨_, _, retN X hx hret ht hd hr, hrun, hended, _, _, rfl, hQ, own_wmono hW hC hS'⟩
theorem own_retOW {vm0 : Vm} (X : Stand p l e R (s.setVm vm0) m args below meth c T locs cells slots) {k0 : Nat} (hS : s.Since vm0 k0) (hk : k0 ≤ T.heap.size) (hx : p.tables.exec = Jvm.exec) {pc : Nat} {Ls : Array Slot} {w : Value} {t : FieldType} {i : Instr} {rest : List Value} (hret : meth.sig.returnType = some t) (hn : narrow t w = w)
  (hi : (i = .ireturn ∧ (t = .int ∨ t = .boolean ∨ t = .byte ∨ t = .char ∨ t = .short) ∧ ∃ z, w = .int z) ∨ (i = .lreturn ∧ t = .long ∧ ∃ z, w = .long z) ∨ (i = .dreturn ∧ t = .double ∧ ∃ z, w = .double z) ∨ (i = .freturn ∧ t = .float ∧ ∃ z, w = .float z) ∨ (i = .areturn ∧ t.isReference = true ∧ w.isRef = true))
  (hd : decode c.code pc = .ok (i, 1)) (hlk : meth.locks = false) {Q : Option Value → Heap → List Loc → Prop} {C S : Nat} (hQ : Q (some w) T.heap locs) (hC : cells ≤ C) (hS' : slots ≤ S) : own_Fin p e below (own_PW Q s C S) (T.setTop (mkF m pc Ls (w :: rest))) := by
 obtain ⟨fs, hr, hrun, hended, hW⟩ := X.leaveW hS hk (v := some w) (fun h => by rw [hret] at h; cases h) hlk
 exact ⟨_, _, retOut X hx hret hn hi hd hr, hrun, hended, _, _, rfl, hQ, own_wmono hW hC hS'⟩
theorem own_retVW {vm0 : Vm} (X : Stand p l e R (s.setVm vm0) m args below meth c T locs cells slots) {k0 : Nat} (hS : s.Since vm0 k0) (hk : k0 ≤ T.heap.size) (hx : p.tables.exec = Jvm.exec) {pc : Nat} {Ls : Array Slot} (hret : meth.sig.returnType = none)
  (hd : decode c.code pc = .ok (.return_, 1)) (hlk : meth.locks = false) {Q : Option Value → Heap → List Loc → Prop} {C S : Nat} (hQ : Q none T.heap locs) (hC : cells ≤ C) (hS' : slots ≤ S) : own_Fin p e below (own_PW Q s C S) (T.setTop (mkF m pc Ls [])) := by
 obtain ⟨fs, hr, hrun, hended, hW⟩ := X.leaveW hS hk (v := none) (fun _ => rfl) hlk
 exact ⟨_, _, X.returnOut hx hret hd hr, hrun, hended, _, _, rfl, hQ, own_wmono hW hC hS'⟩
theorem own_getR {Z : State} {a0 : Array Value} {h : Heap} (X : Stand p l e R s m args below meth c T locs cells slots) (hx : p.tables.exec = Jvm.exec) (hZ : Z.Warmed39 s.vm) {own O n d : String} {index : Nat} (hown : s.vm.findClass own = some m.cls) (w : (Jvm.Cond.fieldRef own index O n d).before a0 Z = true)
  (eT : T.heap = h) {a : Addr} {v : Value} (F : Fld Z h a O n d v) {g : JFrame} (hg : g.method = m) {rest : List Value} (hs : g.stack = .ref a :: rest) (hd : decode c.code g.pc = .ok (.getfield index, 3)) :
  ∀ target, Steps p.tables e below (T.setTop { g with pc := g.pc + 3, stack := v :: rest }) target → Steps p.tables e below (T.setTop g) target := by
 obtain ⟨cell, cf, k, i, f, h1, h2, h3, h4, -, -, h7⟩ := F
 have hU : Z.Warmed39 T.vm := wtrans hZ X.warmed
 have w0 : (Jvm.Cond.fieldRef own index O n d).before a0 (Z.setVm T.vm) = true := Cond.fieldRef_warmed39 hU w
 have w' : (Jvm.Cond.fieldRef own index O n d).before args T = true := w0
 have hc : T.vm.findClass own = some m.cls := by rw [X.warmed.alike.findClass]; exact hown
 obtain ⟨c', k', i', f', q1, q2⟩ := Cond.fieldRef_spec hc w'
 obtain ⟨k2, hi, -⟩ := State.fieldFound?_setVm (s := Z) hU.alike h2
 have hi' : T.fieldFound? O n d = some (cf, k2, i, f) := hi
 cases q1.symm.trans hi'
 intro target ht
 exact (X.getfieldR hx hg q2 h3 hs (by rw [eT]; exact h1) h4 h7 hd (Steps.refl _)).trans ht
end Own
abbrev own_hw (a0 : Array Value) (Z : State) : Prop := ∀ d ∈ tables_1, d.before a0 Z = true
def own_q (p : Program) (c : Code) (b : ByteArray) : Prop := p.tables.exec = Jvm.exec ∧ c.code = b
abbrev own_D (b : ByteArray) (pc : Nat) (i : Instr) (n pc' : Nat) : Prop := decode b pc = .ok (i, n) ∧ pc + n = pc'
def own_dk (b : ByteArray) (pc : Nat) : Option (Int32 × Nat) := match decode b pc with
 | .ok (.iconst i, 1) => some (Int32.ofInt i, pc + 1)
 | .ok (.bipush i, 2) => some ((Int8.ofInt i).toInt32, pc + 2)
 | .ok (.sipush i, 3) => some ((Int16.ofInt i).toInt32, pc + 3)
 | _ => none
abbrev own_DK (b : ByteArray) (pc : Nat) (z : Int32) (pc' : Nat) : Prop := own_dk b pc = some (z, pc')
theorem own_dkE {b : ByteArray} {pc pc' : Nat} {z : Int32} (d : own_DK b pc z pc') : (∃ i, decode b pc = .ok (.iconst i, 1) ∧ Int32.ofInt i = z ∧ pc + 1 = pc') ∨ (∃ i, decode b pc = .ok (.bipush i, 2) ∧ (Int8.ofInt i).toInt32 = z ∧ pc + 2 = pc') ∨ (∃ i, decode b pc = .ok (.sipush i, 3) ∧ (Int16.ofInt i).toInt32 = z ∧ pc + 3 = pc') := by
 unfold own_DK own_dk at d
 split at d
 ·rename_i i hd; cases d; exact Or.inl ⟨_, hd, rfl, rfl⟩
 ·rename_i i hd; cases d; exact Or.inr (Or.inl ⟨_, hd, rfl, rfl⟩)
 ·rename_i i hd; cases d; exact Or.inr (Or.inr ⟨_, hd, rfl, rfl⟩)
 ·cases d
def own_di (b : ByteArray) (pc : Nat) : Option (Nat × Int32 × Nat) := match decode b pc with
 | .ok (.iinc k i, 3) => some (k, Int32.ofInt i, pc + 3)
 | _ => none
abbrev own_DI (b : ByteArray) (pc k : Nat) (z : Int32) (pc' : Nat) : Prop := own_di b pc = some (k, z, pc')
theorem own_diE {b : ByteArray} {pc k pc' : Nat} {z : Int32} (d : own_DI b pc k z pc') : ∃ i, decode b pc = .ok (.iinc k i, 3) ∧ Int32.ofInt i = z ∧ pc + 3 = pc' := by
 unfold own_DI own_di at d
 split at d
 ·rename_i k i hd; cases d; exact ⟨_, hd, rfl, rfl⟩
 ·cases d
def own_dg (b : ByteArray) (pc : Nat) : Option Nat := match decode b pc with
 | .ok (.goto o, 3) => if 0 ≤ (pc : Int) + o then some ((pc : Int) + o).toNat else none
 | _ => none
abbrev own_DG (b : ByteArray) (pc t : Nat) : Prop := own_dg b pc = some t
theorem own_dgE {b : ByteArray} {pc t : Nat} (d : own_DG b pc t) : ∃ o, decode b pc = .ok (.goto o, 3) ∧ 0 ≤ (pc : Int) + o ∧ ((pc : Int) + o).toNat = t := by
 unfold own_DG own_dg at d
 split at d
 ·rename_i o hd
  split at d
  ·rename_i h; cases d; exact ⟨_, hd, h, rfl⟩
  ·cases d
 ·cases d
def own_dj (b : ByteArray) (pc : Nat) : Option (ClassFile.Cond × Nat × Nat) := match decode b pc with
 | .ok (.if_icmp cd o, 3) => if 0 ≤ (pc : Int) + o then some (cd, ((pc : Int) + o).toNat, pc + 3) else none
 | _ => none
abbrev own_DJ (b : ByteArray) (pc : Nat) (cd : ClassFile.Cond) (t n : Nat) : Prop := own_dj b pc = some (cd, t, n)
theorem own_djE {b : ByteArray} {pc t n : Nat} {cd : ClassFile.Cond} (d : own_DJ b pc cd t n) : ∃ o, decode b pc = .ok (.if_icmp cd o, 3) ∧ 0 ≤ (pc : Int) + o ∧ ((pc : Int) + o).toNat = t ∧ pc + 3 = n := by
 unfold own_DJ own_dj at d
 split at d
 ·rename_i cd o hd
  split at d
  ·rename_i h; cases d; exact ⟨_, hd, h, rfl, rfl⟩
  ·cases d
 ·cases d
def own_dz (b : ByteArray) (pc : Nat) : Option (ClassFile.Cond × Nat × Nat) := match decode b pc with
 | .ok (.ifCond cd o, 3) => if 0 ≤ (pc : Int) + o then some (cd, ((pc : Int) + o).toNat, pc + 3) else none
 | _ => none
abbrev own_DZ (b : ByteArray) (pc : Nat) (cd : ClassFile.Cond) (t n : Nat) : Prop := own_dz b pc = some (cd, t, n)
theorem own_dzE {b : ByteArray} {pc t n : Nat} {cd : ClassFile.Cond} (d : own_DZ b pc cd t n) : ∃ o, decode b pc = .ok (.ifCond cd o, 3) ∧ 0 ≤ (pc : Int) + o ∧ ((pc : Int) + o).toNat = t ∧ pc + 3 = n := by
 unfold own_DZ own_dz at d
 split at d
 ·rename_i cd o hd
  split at d
  ·rename_i h; cases d; exact ⟨_, hd, h, rfl, rfl⟩
  ·cases d
 ·cases d
section OwnC
variable {p : Program} {l : Launch} {e : Env} {R : Room} {s : State} {m : MethodId} {args : Array Value} {below : List Frame} {meth : Method} {c : Code} {T T' : State} {locs : List Loc} {cells slots : Nat} {b : ByteArray} {P : Outcome → State → Prop} {Ls l' : Array Slot} {S S' : List Value} {pc pc' t n : Nat}
theorem own_q.d {i : Instr} (q : own_q p c b) (d : own_D b pc i n pc') : decode c.code pc = .ok (i, n) := hb q.2 d.1
theorem own_w {Z : State} {a0 : Array Value} (hw : ∀ d ∈ tables_1, d.before a0 Z = true) (i : Nat) {d : Jvm.Cond} (h : tables_1[i]? = some d) : d.before a0 Z = true := hw d (List.mem_of_getElem? h)
theorem own_let (h : let g := mkF m pc Ls S; own_Fin p e below P (T.setTop g)) : own_Fin p e below P (T.setTop (mkF m pc Ls S)) := h
theorem own_stp (k : Nat) (st : ∀ t, Steps p.tables e below (T'.setTop (mkF m k Ls S')) t → Steps p.tables e below (T.setTop (mkF m pc Ls S)) t) (K : own_Fin p e below P (T'.setTop (mkF m k Ls S'))) : own_Fin p e below P (T.setTop (mkF m pc Ls S)) := own_go K st
theorem own_stq (k : Nat) (S' : List Value) (st : ∀ t, Steps p.tables e below (T'.setTop (mkF m k Ls S')) t → Steps p.tables e below (T.setTop (mkF m pc Ls S)) t) (K : own_Fin p e below P (T'.setTop (mkF m k Ls S'))) : own_Fin p e below P (T.setTop (mkF m pc Ls S)) := own_go K st
section OwnC2
theorem own_il {k : Nat} {v : Int32} (X : Stand p l e R s m args below meth c T locs cells slots) (q : own_q p c b) (d : own_D b pc (.iload k) 2 pc') (h : Ls[k]? = some (.val (.int v))) (K : own_Fin p e below P (T.setTop (mkF m pc' Ls (.int v :: S)))) : own_Fin p e below P (T.setTop (mkF m pc Ls S)) := by
 obtain ⟨hd, rfl⟩ := d
 exact own_go K fun t k => XS.iload X.here q.1 rfl (hb q.2 hd) h k
theorem own_iln {k : Fin 4} {v : Int32} (X : Stand p l e R s m args below meth c T locs cells slots) (q : own_q p c b) (d : own_D b pc (.iload_n k) 1 pc') (h : Ls[k.val]? = some (.val (.int v))) (K : own_Fin p e below P (T.setTop (mkF m pc' Ls (.int v :: S)))) : own_Fin p e below P (T.setTop (mkF m pc Ls S)) := by
 obtain ⟨hd, rfl⟩ := d
 exact own_go K fun t k => XS.iloadN X.here q.1 rfl (hb q.2 hd) h k
theorem own_al {k : Nat} {v : Value} (X : Stand p l e R s m args below meth c T locs cells slots) (q : own_q p c b) (d : own_D b pc (.aload k) 2 pc') (h : Ls[k]? = some (.val v)) (hv : v.isRef = true) (K : own_Fin p e below P (T.setTop (mkF m pc' Ls (v :: S)))) : own_Fin p e below P (T.setTop (mkF m pc Ls S)) := by
 obtain ⟨hd, rfl⟩ := d
 exact own_go K fun t k => XS.aload X.here q.1 rfl (hb q.2 hd) h hv k
theorem own_aln {k : Fin 4} {v : Value} (X : Stand p l e R s m args below meth c T locs cells slots) (q : own_q p c b) (d : own_D b pc (.aload_n k) 1 pc') (h : Ls[k.val]? = some (.val v)) (hv : v.isRef = true) (K : own_Fin p e below P (T.setTop (mkF m pc' Ls (v :: S)))) : own_Fin p e below P (T.setTop (mkF m pc Ls S)) := by
 obtain ⟨hd, rfl⟩ := d
 exact own_go K fun t k => XS.aloadN X.here q.1 rfl (hb q.2 hd) h hv k
theorem own_is {k : Nat} {v : Int32} (X : Stand p l e R s m args below meth c T locs cells slots) (q : own_q p c b) (d : own_D b pc (.istore k) 2 pc') (h : storeLocals Ls k (.int v) = some l') (K : own_Fin p e below P (T.setTop (mkF m pc' l' S))) : own_Fin p e below P (T.setTop (mkF m pc Ls (.int v :: S))) := by
 obtain ⟨hd, rfl⟩ := d
 exact own_go K fun t k => XS.istore X.here q.1 rfl (hb q.2 hd) rfl h k
theorem own_isn {k : Fin 4} {v : Int32} (X : Stand p l e R s m args below meth c T locs cells slots) (q : own_q p c b) (d : own_D b pc (.istore_n k) 1 pc') (h : storeLocals Ls k.val (.int v) = some l') (K : own_Fin p e below P (T.setTop (mkF m pc' l' S))) : own_Fin p e below P (T.setTop (mkF m pc Ls (.int v :: S))) := by
 obtain ⟨hd, rfl⟩ := d
 exact own_go K fun t k => XS.istoreN X.here q.1 rfl (hb q.2 hd) rfl h k
theorem own_as {k : Nat} {v : Value} (X : Stand p l e R s m args below meth c T locs cells slots) (q : own_q p c b) (d : own_D b pc (.astore k) 2 pc') (hv : v.isRef = true) (h : storeLocals Ls k v = some l') (K : own_Fin p e below P (T.setTop (mkF m pc' l' S))) : own_Fin p e below P (T.setTop (mkF m pc Ls (v :: S))) := by
 obtain ⟨hd, rfl⟩ := d
 exact own_go K fun t k => XS.astore X.here q.1 rfl (hb q.2 hd) rfl hv h k
theorem own_asn {k : Fin 4} {v : Value} (X : Stand p l e R s m args below meth c T locs cells slots) (q : own_q p c b) (d : own_D b pc (.astore_n k) 1 pc') (hv : v.isRef = true) (h : storeLocals Ls k.val v = some l') (K : own_Fin p e below P (T.setTop (mkF m pc' l' S))) : own_Fin p e below P (T.setTop (mkF m pc Ls (v :: S))) := by
 obtain ⟨hd, rfl⟩ := d
 exact own_go K fun t k => XS.astoreN X.here q.1 rfl (hb q.2 hd) rfl hv h k
theorem own_k {z : Int32} (X : Stand p l e R s m args below meth c T locs cells slots) (q : own_q p c b) (d : own_DK b pc z pc') (K : own_Fin p e below P (T.setTop (mkF m pc' Ls (.int z :: S)))) : own_Fin p e below P (T.setTop (mkF m pc Ls S)) := by
 rcases own_dkE d with ⟨i, hd, rfl, rfl⟩ | ⟨i, hd, rfl, rfl⟩ | ⟨i, hd, rfl, rfl⟩
 ·exact own_go K fun t k => XS.iconst X.here q.1 rfl (hb q.2 hd) k
 ·exact own_go K fun t k => XS.bipush X.here q.1 rfl (hb q.2 hd) k
 ·exact own_go K fun t k => XS.sipush X.here q.1 rfl (hb q.2 hd) k
theorem own_nl (X : Stand p l e R s m args below meth c T locs cells slots) (q : own_q p c b) (d : own_D b pc .aconst_null 1 pc') (K : own_Fin p e below P (T.setTop (mkF m pc' Ls (.null :: S)))) : own_Fin p e below P (T.setTop (mkF m pc Ls S)) := by
 obtain ⟨hd, rfl⟩ := d
 exact own_go K fun t k => XS.aconstNull X.here q.1 rfl (hb q.2 hd) k
theorem own_ii {k : Nat} {x z : Int32} (X : Stand p l e R s m args below meth c T locs cells slots) (q : own_q p c b) (d : own_DI b pc k z pc') (h : Ls[k]? = some (.val (.int x))) (h' : storeLocals Ls k (.int (x + z)) = some l') (K : own_Fin p e below P (T.setTop (mkF m pc' l' S))) : own_Fin p e below P (T.setTop (mkF m pc Ls S)) := by
 obtain ⟨i, hd, rfl, rfl⟩ := own_diE d
 exact own_go K fun t k => XS.iinc X.here q.1 rfl (hb q.2 hd) h h' k
theorem own_iik {k : Nat} {x y z : Int32} (X : Stand p l e R s m args below meth c T locs cells slots) (q : own_q p c b) (d : own_DI b pc k z pc') (h : Ls[k]? = some (.val (.int x))) (hy : x + z = y) (h' : storeLocals Ls k (.int y) = some l') (K : own_Fin p e below P (T.setTop (mkF m pc' l' S))) : own_Fin p e below P (T.setTop (mkF m pc Ls S)) := by
 subst hy; exact own_ii X q d h h' K
theorem own_dp {v : Value} (X : Stand p l e R s m args below meth c T locs cells slots) (q : own_q p c b) (d : own_D b pc .dup 1 pc') (hc : v.category = 1) (K : own_Fin p e below P (T.setTop (mkF m pc' Ls (v :: v :: S)))) : own_Fin p e below P (T.setTop (mkF m pc Ls (v :: S))) := by
 obtain ⟨hd, rfl⟩ := d
 exact own_go K fun t k => XS.dup X.here q.1 rfl (hb q.2 hd) rfl hc k
theorem own_iadd {x y : Int32} (X : Stand p l e R s m args below meth c T locs cells slots) (q : own_q p c b) (d : own_D b pc .iadd 1 pc') (K : own_Fin p e below P (T.setTop (mkF m pc' Ls (.int (x + y) :: S)))) : own_Fin p e below P (T.setTop (mkF m pc Ls (.int y :: .int x :: S))) := by
 obtain ⟨hd, rfl⟩ := d
 exact own_go K fun t k => XS.iadd X.here q.1 rfl (hb q.2 hd) rfl k
theorem own_isub {x y : Int32} (X : Stand p l e R s m args below meth c T locs cells slots) (q : own_q p c b) (d : own_D b pc .isub 1 pc') (K : own_Fin p e below P (T.setTop (mkF m pc' Ls (.int (x - y) :: S)))) : own_Fin p e below P (T.setTop (mkF m pc Ls (.int y :: .int x :: S))) := by
 obtain ⟨hd, rfl⟩ := d
 exact own_go K fun t k => XS.isub X.here q.1 rfl (hb q.2 hd) rfl k
theorem own_iaddk (z : Int32) {x y : Int32} (X : Stand p l e R s m args below meth c T locs cells slots) (q : own_q p c b) (d : own_D b pc .iadd 1 pc') (h : x + y = z) (K : own_Fin p e below P (T.setTop (mkF m pc' Ls (.int z :: S)))) : own_Fin p e below P (T.setTop (mkF m pc Ls (.int y :: .int x :: S))) := own_iadd X q d (h.symm ▸ K)
theorem own_isubk (z : Int32) {x y : Int32} (X : Stand p l e R s m args below meth c T locs cells slots) (q : own_q p c b) (d : own_D b pc .isub 1 pc') (h : x - y = z) (K : own_Fin p e below P (T.setTop (mkF m pc' Ls (.int z :: S)))) : own_Fin p e below P (T.setTop (mkF m pc Ls (.int y :: .int x :: S))) := own_isub X q d (h.symm ▸ K)
theorem own_gt (X : Stand p l e R s m args below meth c T locs cells slots) (q : own_q p c b) (d : own_DG b pc t) (K : own_Fin p e below P (T.setTop (mkF m t Ls S))) : own_Fin p e below P (T.setTop (mkF m pc Ls S)) := by
 obtain ⟨o, hd, h1, h2⟩ := own_dgE d
 exact own_go K fun t k => XS.goto X.here q.1 rfl rfl (hb q.2 hd) h1 h2 k
theorem own_cy {cd : ClassFile.Cond} {x y : Int32} (X : Stand p l e R s m args below meth c T locs cells slots) (q : own_q p c b) (d : own_DJ b pc cd t n) (h : if_icmp.holds cd x y = true) (K : own_Fin p e below P (T.setTop (mkF m t Ls S))) : own_Fin p e below P (T.setTop (mkF m pc Ls (.int y :: .int x :: S))) := by
 obtain ⟨o, hd, h1, h2, -⟩ := own_djE d
 exact own_go K fun t k => XS.icmpYes X.here q.1 rfl rfl (hb q.2 hd) rfl h h1 h2 k
theorem own_cn {cd : ClassFile.Cond} {x y : Int32} (X : Stand p l e R s m args below meth c T locs cells slots) (q : own_q p c b) (d : own_DJ b pc cd t n) (h : if_icmp.holds cd x y = false) (K : own_Fin p e below P (T.setTop (mkF m n Ls S))) : own_Fin p e below P (T.setTop (mkF m pc Ls (.int y :: .int x :: S))) := by
 obtain ⟨o, hd, -, -, rfl⟩ := own_djE d
 exact own_go K fun t k => XS.icmpNo X.here q.1 rfl (hb q.2 hd) rfl h k
theorem own_zy {cd : ClassFile.Cond} {x : Int32} (X : Stand p l e R s m args below meth c T locs cells slots) (q : own_q p c b) (d : own_DZ b pc cd t n) (h : ifCond.holds cd x = true) (K : own_Fin p e below P (T.setTop (mkF m t Ls S))) : own_Fin p e below P (T.setTop (mkF m pc Ls (.int x :: S))) := by
 obtain ⟨o, hd, h1, h2, -⟩ := own_dzE d
 exact own_go K fun t k => XS.ifYes X.here q.1 rfl rfl (hb q.2 hd) rfl h h1 h2 k
theorem own_zn {cd : ClassFile.Cond} {x : Int32} (X : Stand p l e R s m args below meth c T locs cells slots) (q : own_q p c b) (d : own_DZ b pc cd t n) (h : ifCond.holds cd x = false) (K : own_Fin p e below P (T.setTop (mkF m n Ls S))) : own_Fin p e below P (T.setTop (mkF m pc Ls (.int x :: S))) := by
 obtain ⟨o, hd, -, -, rfl⟩ := own_dzE d
 exact own_go K fun t k => XS.ifNo X.here q.1 rfl (hb q.2 hd) rfl h k
end OwnC2
end OwnC
abbrev own_M (l : Launch) (Z : State) (ws : List Jvm.Cond) (y : MethodName) (b : ByteArray) (ml : Nat) (rt : Option FieldType) (R : Room) (A : Array Value) (h0 : Heap) (Q : Option Value → Heap → List Loc → Prop) : Prop := MetFree l y (head1 (Jvm.Cond.code y b ml rt :: ws) R) (fun a U => a = A ∧ Z.Warmed39 U.vm ∧ U.heap = h0) (fun _ _ _ _ _ => True) (fun _ U o U' => ∃ v L, o = .returned v ∧ Q v U'.heap L ∧ FrameEnd U o U' L R.cells R.slots)
theorem own_start {l : Launch} {Z : State} {ws : List Jvm.Cond} {y : MethodName} {b : ByteArray} {ml : Nat} {rt : Option FieldType} {R : Room} {A : Array Value} {h0 : Heap} {Q : Option Value → Heap → List Loc → Prop} {a0 : Array Value} {n0 : Nat} (hw : own_hw a0 Z) (own : String) {L : Array Slot} (pn : plainFor y = true)
  (H : ∀ {p : Program} {e : Env} {s : State} {m : MethodId} {below : List Frame} {meth : Method} {c : Code} {s₁ : State}, own_q p c b → p.tables.exec = Jvm.exec → (∀ (i : Nat) {d : Jvm.Cond}, tables_1[i]? = some d → d.before a0 Z = true) → c.maxLocals = ml → Z.Warmed39 s.vm → s.vm.findClass own = some m.cls → meth.name = y.name → meth.locks = false → meth.sig.returnType = rt → Stand p l e R s m A below meth c s₁ [] 0 0 → s₁.heap = h0 → Fr n0 [] → own_Fin p e below (own_P Q s R.cells R.slots) (s₁.setTop (mkF m 0 L [])))
  (ho : y.cls = own := by rfl) (hE : ∀ m, entryFrame m A ml = mkF m 0 L [] := by intro m; first | (simp [entryFrame, mkF, argsToLocals, Value.category]; done) | rfl) : own_M l Z ws y b ml rt R A h0 Q := by
 refine MetFree.of_bodySF pn hisR ?_
 intro p e s m args below meth c s₁ Bd hml0 hP hK
 obtain ⟨rfl, hZ, hh⟩ := hP
 have X0 : Stand p l e R s m args below meth c s₁ [] 0 0 := Stand.of_body Bd
 have e0 : s₁.heap = h0 := by rw [← hh, Bd.state]; rfl
 show own_Fin p e below (own_P Q s R.cells R.slots) (s₁.setTop (entryFrame m args ml))
 rw [hE m]
 exact H ⟨Bd.exec, Bd.bytes⟩ Bd.exec (own_w hw) hml0 hZ (ho ▸ findClass_of_methodNamed Bd.named) (name_of_methodNamed Bd.named Bd.method).1 (BodyLoose.notSynchronized Bd) Bd.returns X0 e0 (Fr.nil n0)
section OwnE
variable {p : Program} {l : Launch} {e : Env} {R : Room} {s : State} {m : MethodId} {args : Array Value} {below : List Frame} {meth : Method} {c : Code} {T : State} {locs : List Loc} {cells slots C S' : Nat} {b : ByteArray} {Ls : Array Slot} {S : List Value} {pc pc' : Nat} {t : FieldType} {Q : Option Value → Heap → List Loc → Prop}
theorem own_rA {a : Addr} (X : Stand p l e R s m args below meth c T locs cells slots) (q : own_q p c b) (hr : meth.sig.returnType = some t) (d : own_D b pc .areturn 1 pc') (hlk : meth.locks = false) (hc : cells ≤ C ∧ slots ≤ S') (hQ : Q (some (.ref a)) T.heap locs) (hn : narrow t (.ref a) = .ref a := by rfl) (ht : t.isReference = true := by rfl) : own_Fin p e below (own_P Q s C S') (T.setTop (mkF m pc Ls (.ref a :: S))) :=
 own_retO X q.1 hr hn (Or.inr (Or.inr (Or.inr (Or.inr ⟨rfl, ht, rfl⟩)))) (q.d d) hlk hQ hc.1 hc.2
theorem own_rI {z : Int32} (X : Stand p l e R s m args below meth c T locs cells slots) (q : own_q p c b) (hr : meth.sig.returnType = some .int) (d : own_D b pc .ireturn 1 pc') (hlk : meth.locks = false) (hc : cells ≤ C ∧ slots ≤ S') (hQ : Q (some (.int z)) T.heap locs) : own_Fin p e below (own_P Q s C S') (T.setTop (mkF m pc Ls (.int z :: S))) :=
 own_retO X q.1 hr rfl (Or.inl ⟨rfl, Or.inl rfl, _, rfl⟩) (q.d d) hlk hQ hc.1 hc.2
theorem own_rN {z : Int32} (X : Stand p l e R s m args below meth c T locs cells slots) (q : own_q p c b) (hr : meth.sig.returnType = some t) (ht : t = .boolean ∨ t = .byte ∨ t = .char ∨ t = .short) (d : own_D b pc .ireturn 1 pc') (hlk : meth.locks = false) (hc : cells ≤ C ∧ slots ≤ S') (hQ : Q (some (.int (nar t z))) T.heap locs) : own_Fin p e below (own_P Q s C S') (T.setTop (mkF m pc Ls (.int z :: S))) :=
 own_retN X q.1 hr ht (q.d d) hlk hQ hc.1 hc.2
theorem own_rV (X : Stand p l e R s m args below meth c T locs cells slots) (q : own_q p c b) (hr : meth.sig.returnType = none) (d : own_D b pc .return_ 1 pc') (hlk : meth.locks = false) (hc : cells ≤ C ∧ slots ≤ S') (hQ : Q none T.heap locs) : own_Fin p e below (own_P Q s C S') (T.setTop (mkF m pc Ls [])) :=
 own_retV X q.1 hr (q.d d) hlk hQ hc.1 hc.2
end OwnE
section OwnD
variable {p : Program} {l : Launch} {e : Env} {R : Room} {s : State} {m : MethodId} {args : Array Value} {below : List Frame} {meth : Method} {c : Code} {T : State} {locs : List Loc} {cells slots : Nat} {b : ByteArray} {P : Outcome → State → Prop} {Ls : Array Slot} {S : List Value} {pc pc' : Nat} {Z : State} {a0 : Array Value} {h : Heap}
theorem own_nv {v : Value} (K : own_Fin p e below P (T.setTop (mkF m pc Ls (v :: S)))) : own_Fin p e below P (T.setTop (mkF m pc Ls ((some v).toList ++ S))) := K
theorem own_nn (K : own_Fin p e below P (T.setTop (mkF m pc Ls S))) : own_Fin p e below P (T.setTop (mkF m pc Ls ((none : Option Value).toList ++ S))) := K
theorem own_cS {own : String} {index : Nat} {y : MethodName} {bytes : ByteArray} {maxL : Nat} {ret : Option FieldType} {rm : Room} {as' : Array Value} {Q : Option Value → Heap → List Loc → Prop} {ps : List FieldType} {r : Option FieldType}
  (X : Stand p l e R s m args below meth c T locs cells slots) (q : own_q p c b) (hZ : Z.Warmed39 s.vm) (eT : T.heap = h) (hown : s.vm.findClass own = some m.cls) {ml : Nat} (hml : c.maxLocals = ml) (w1 : (Jvm.Cond.methodLink own index y).before a0 Z = true) (w2 : (Jvm.Cond.static y).before a0 Z = true) (w3 : (Jvm.Cond.initialized y.cls).before a0 Z = true) (w4 : (Jvm.Cond.code y bytes maxL ret).before a0 Z = true)
  (hM : own_M l Z [] y bytes maxL ret rm as' h Q) (d : own_D b pc (.invokestatic index) 3 pc') (argsL rest : List Value) (pd : parseMethodDescriptor y.desc = some ⟨ps, r⟩) (W : Nat)
  (dec : (y.cls ≠ "java/lang/invoke/MethodHandle" ∧ y.cls ≠ "java/lang/invoke/VarHandle") ∧ rm.frames + 1 ≤ R.frames ∧ W + (maxL + 11) + rm.locals ≤ R.locals ∧ cells + rm.cells ≤ R.cells ∧ slots + rm.slots ≤ R.slots)
  (K : ∀ (v : Option Value) (T' : State) (L : List Loc), Stand p l e R s m args below meth c T' (locs ++ L) (cells + rm.cells) (slots + rm.slots) → Q v T'.heap L → own_Fin p e below P (T'.setTop (mkF m pc' Ls (v.toList ++ rest)))) (hs : Ls.size = ml := by rfl) (hl : argsL.length = ps.length := by rfl) (ha : argsL.toArray = as' := by rfl) (hW : (rest.map fun v => v.category).sum ≤ W := by exact Nat.le_refl _) :
  own_Fin p e below P (T.setTop (mkF m pc Ls (argsL.reverse ++ rest))) := by
 obtain ⟨hd, rfl⟩ := d
 obtain ⟨v, _, ⟨T', L', k', n'⟩, -, X', ⟨L, hQ, l1, l2, l3⟩, st⟩ := Jvm.LawKit.callS X q.1 (y := y) hown (mvT hZ w1) (mvT hZ w2) (mvT hZ w3) (mvT hZ w4) dec.1 (backOf (W := W) hM hZ w4 w3 dec.2.1 dec.2.2.1) (g := mkF m pc Ls (argsL.reverse ++ rest)) rfl (hs.trans hml.symm) (argsL := argsL) (rest := rest) (lenOf pd hl) rfl (by show 2 * 0 + _ ≤ _; omega) (hb q.2 hd) (fun _ _ => ⟨ha, eT, dec.2.2.2.1, dec.2.2.2.2⟩)
 dsimp only [Pt.U, Pt.locs, Pt.cells, Pt.slots] at X' l1 l2 l3 st hQ
 rw [l1, l2, l3] at X'
 exact own_go (K v T' L X' hQ) st
theorem own_cI {own : String} {index : Nat} {y : MethodName} {bytes : ByteArray} {maxL : Nat} {rm : Room} {as' : Array Value} {Q : Option Value → Heap → List Loc → Prop} {ps : List FieldType} {r : Option FieldType} {a : Addr}
  (X : Stand p l e R s m args below meth c T locs cells slots) (q : own_q p c b) (hZ : Z.Warmed39 s.vm) (eT : T.heap = h) (hown : s.vm.findClass own = some m.cls) {ml : Nat} (hml : c.maxLocals = ml) (w1 : (Jvm.Cond.methodLink own index y).before a0 Z = true) (w2 : (Jvm.Cond.instanceMethod y).before a0 Z = true) (w3 : (Jvm.Cond.initialized y.cls).before a0 Z = true) (w4 : (Jvm.Cond.code y bytes maxL none).before a0 Z = true)
  (hM : own_M l Z [] y bytes maxL none rm as' h Q) (d : own_D b pc (.invokespecial index) 3 pc') (argsL rest : List Value) (pd : parseMethodDescriptor y.desc = some ⟨ps, r⟩) (W : Nat) (hy1 : y.name = "<init>")
  (dec : (y.cls ≠ "java/lang/invoke/MethodHandle" ∧ y.cls ≠ "java/lang/invoke/VarHandle") ∧ rm.frames + 1 ≤ R.frames ∧ W + (maxL + 11) + rm.locals ≤ R.locals ∧ cells + rm.cells ≤ R.cells ∧ slots + rm.slots ≤ R.slots)
  (K : ∀ (v : Option Value) (T' : State) (L : List Loc), Stand p l e R s m args below meth c T' (locs ++ L) (cells + rm.cells) (slots + rm.slots) → Q v T'.heap L → own_Fin p e below P (T'.setTop (mkF m pc' Ls (v.toList ++ rest)))) (hs : Ls.size = ml := by rfl) (hl : argsL.length = ps.length := by rfl) (ha : (Value.ref a :: argsL).toArray = as' := by rfl) (hW : (rest.map fun v => v.category).sum ≤ W := by exact Nat.le_refl _) :
  own_Fin p e below P (T.setTop (mkF m pc Ls (argsL.reverse ++ .ref a :: rest))) := by
 obtain ⟨hd, rfl⟩ := d
 obtain ⟨v, _, ⟨T', L', k', n'⟩, -, X', ⟨L, hQ, l1, l2, l3⟩, st⟩ := X.specialBack q.1 (y := y) hy1 hown (mvT hZ w1) (mvT hZ w2) (mvT hZ w4) dec.1 (backOf (W := W) hM hZ w4 w3 dec.2.1 dec.2.2.1) (g := mkF m pc Ls (argsL.reverse ++ .ref a :: rest)) rfl (hs.trans hml.symm) (Steps.refl _) (a := a) (argsL := argsL) (rest := rest) (lenOf pd hl) rfl (by show 2 * 0 + _ ≤ _; omega) (hb q.2 hd) (fun _ _ => ⟨ha, eT, dec.2.2.2.1, dec.2.2.2.2⟩)
 dsimp only [Pt.U, Pt.locs, Pt.cells, Pt.slots] at X' l1 l2 l3 st hQ
 rw [l1, l2, l3] at X'
 exact own_go (K v T' L X' hQ) fun t k => st.trans k
theorem own_cV {own C : String} {index : Nat} {y z : MethodName} {bytes : ByteArray} {maxL : Nat} {ret : Option FieldType} {rm : Room} {as' : Array Value} {Q : Option Value → Heap → List Loc → Prop} {ps : List FieldType} {r : Option FieldType} {a : Addr}
  (X : Stand p l e R s m args below meth c T locs cells slots) (q : own_q p c b) (hZ : Z.Warmed39 s.vm) (eT : T.heap = h) (hown : s.vm.findClass own = some m.cls) {ml : Nat} (hml : c.maxLocals = ml) (w1 : (Jvm.Cond.methodLink own index y).before a0 Z = true) (w2 : (Jvm.Cond.declares y).before a0 Z = true) (w5 : (Jvm.Cond.selects C y z).before a0 Z = true) (w6 : (Jvm.Cond.instanceMethod z).before a0 Z = true) (w3 : (Jvm.Cond.initialized z.cls).before a0 Z = true) (w4 : (Jvm.Cond.code z bytes maxL ret).before a0 Z = true) (hzy : z = y) (E : Exa Z h a C)
  (hM : own_M l Z [] z bytes maxL ret rm as' h Q) (d : own_D b pc (.invokevirtual index) 3 pc') (argsL rest : List Value) (pd : parseMethodDescriptor y.desc = some ⟨ps, r⟩) (W : Nat)
  (dec : (y.cls ≠ "java/lang/invoke/MethodHandle" ∧ y.cls ≠ "java/lang/invoke/VarHandle") ∧ rm.frames + 1 ≤ R.frames ∧ W + (maxL + 11) + rm.locals ≤ R.locals ∧ cells + rm.cells ≤ R.cells ∧ slots + rm.slots ≤ R.slots)
  (K : ∀ (v : Option Value) (T' : State) (L : List Loc), Stand p l e R s m args below meth c T' (locs ++ L) (cells + rm.cells) (slots + rm.slots) → Q v T'.heap L → own_Fin p e below P (T'.setTop (mkF m pc' Ls (v.toList ++ rest)))) (hs : Ls.size = ml := by rfl) (hl : argsL.length = ps.length := by rfl) (ha : (Value.ref a :: argsL).toArray = as' := by rfl) (hW : (rest.map fun v => v.category).sum ≤ W := by exact Nat.le_refl _) :
  own_Fin p e below P (T.setTop (mkF m pc Ls (argsL.reverse ++ .ref a :: rest))) := by
 obtain ⟨hd, rfl⟩ := d
 subst hzy
 obtain ⟨cq, kq, qa, qb, qc⟩ := isOf hZ eT E
 obtain ⟨v, _, ⟨T', L', k', n'⟩, -, X', ⟨L, hQ, l1, l2, l3⟩, st⟩ := X.virtualBack q.1 hown (mvT hZ w1) (mvT hZ w2) (notFace_of_selects (args := #[]) (mvT hZ w5)) (mvT hZ w5) (mvT hZ w6) dec.1 (backOf (W := W) hM hZ w4 w3 dec.2.1 dec.2.2.1) qa qc (g := mkF m pc Ls (argsL.reverse ++ .ref a :: rest)) rfl (hs.trans hml.symm) (Steps.refl _) (argsL := argsL) (rest := rest) (lenOf pd hl) rfl (by show 2 * 0 + _ ≤ _; omega) (hb q.2 hd) (fun _ _ => ⟨ha, eT, dec.2.2.2.1, dec.2.2.2.2⟩)
 dsimp only [Pt.U, Pt.locs, Pt.cells, Pt.slots] at X' l1 l2 l3 st hQ
 rw [l1, l2, l3] at X'
 exact own_go (K v T' L X' hQ) fun t k => st.trans k
theorem own_cSh {own : String} {index : Nat} {y : MethodName} {bytes : ByteArray} {maxL : Nat} {ret : Option FieldType} {rm : Room} {as' : Array Value} {Q : Option Value → Heap → List Loc → Prop} {ps : List FieldType} {r : Option FieldType}
  (X : Stand p l e R s m args below meth c T locs cells slots) (q : own_q p c b) (hZ : Z.Warmed39 s.vm) (eT : T.heap = h) (hown : s.vm.findClass own = some m.cls) {ml : Nat} (hml : c.maxLocals = ml) (w1 : (Jvm.Cond.methodLink own index y).before a0 Z = true) (w2 : (Jvm.Cond.static y).before a0 Z = true) (w3 : (Jvm.Cond.initialized y.cls).before a0 Z = true) (w4 : (Jvm.Cond.code y bytes maxL ret).before a0 Z = true)
  (hM : own_M l Z [] y bytes maxL ret rm as' h Q) (d : own_D b pc (.invokestatic index) 3 pc') (argsL rest : List Value) (pd : parseMethodDescriptor y.desc = some ⟨ps, r⟩) (W : Nat)
  (dec : (y.cls ≠ "java/lang/invoke/MethodHandle" ∧ y.cls ≠ "java/lang/invoke/VarHandle") ∧ rm.frames + 1 ≤ R.frames ∧ W + (maxL + 11) + rm.locals ≤ R.locals ∧ cells + rm.cells ≤ R.cells ∧ slots + rm.slots ≤ R.slots)
  (K : ∀ (v : Option Value) (T' : State) (L : List Loc) (h' : Heap), T'.heap = h' → Stand p l e R s m args below meth c T' (locs ++ L) (cells + rm.cells) (slots + rm.slots) → Q v h' L → own_Fin p e below P (T'.setTop (mkF m pc' Ls (v.toList ++ rest)))) (hs : Ls.size = ml := by rfl) (hl : argsL.length = ps.length := by rfl) (ha : argsL.toArray = as' := by rfl) (hW : (rest.map fun v => v.category).sum ≤ W := by exact Nat.le_refl _) :
  own_Fin p e below P (T.setTop (mkF m pc Ls (argsL.reverse ++ rest))) :=
 own_cS X q hZ eT hown hml w1 w2 w3 w4 hM d argsL rest pd W dec (fun v T' L X' hQ => K v T' L _ rfl X' hQ) hs hl ha hW
theorem own_cIh {own : String} {index : Nat} {y : MethodName} {bytes : ByteArray} {maxL : Nat} {rm : Room} {as' : Array Value} {Q : Option Value → Heap → List Loc → Prop} {ps : List FieldType} {r : Option FieldType} {a : Addr}
  (X : Stand p l e R s m args below meth c T locs cells slots) (q : own_q p c b) (hZ : Z.Warmed39 s.vm) (eT : T.heap = h) (hown : s.vm.findClass own = some m.cls) {ml : Nat} (hml : c.maxLocals = ml) (w1 : (Jvm.Cond.methodLink own index y).before a0 Z = true) (w2 : (Jvm.Cond.instanceMethod y).before a0 Z = true) (w3 : (Jvm.Cond.initialized y.cls).before a0 Z = true) (w4 : (Jvm.Cond.code y bytes maxL none).before a0 Z = true)
  (hM : own_M l Z [] y bytes maxL none rm as' h Q) (d : own_D b pc (.invokespecial index) 3 pc') (argsL rest : List Value) (pd : parseMethodDescriptor y.desc = some ⟨ps, r⟩) (W : Nat) (hy1 : y.name = "<init>")
  (dec : (y.cls ≠ "java/lang/invoke/MethodHandle" ∧ y.cls ≠ "java/lang/invoke/VarHandle") ∧ rm.frames + 1 ≤ R.frames ∧ W + (maxL + 11) + rm.locals ≤ R.locals ∧ cells + rm.cells ≤ R.cells ∧ slots + rm.slots ≤ R.slots)
  (K : ∀ (v : Option Value) (T' : State) (L : List Loc) (h' : Heap), T'.heap = h' → Stand p l e R s m args below meth c T' (locs ++ L) (cells + rm.cells) (slots + rm.slots) → Q v h' L → own_Fin p e below P (T'.setTop (mkF m pc' Ls (v.toList ++ rest)))) (hs : Ls.size = ml := by rfl) (hl : argsL.length = ps.length := by rfl) (ha : (Value.ref a :: argsL).toArray = as' := by rfl) (hW : (rest.map fun v => v.category).sum ≤ W := by exact Nat.le_refl _) :
  own_Fin p e below P (T.setTop (mkF m pc Ls (argsL.reverse ++ .ref a :: rest))) :=
 own_cI X q hZ eT hown hml w1 w2 w3 w4 hM d argsL rest pd W hy1 dec (fun v T' L X' hQ => K v T' L _ rfl X' hQ) hs hl ha hW
theorem own_cVh {own C : String} {index : Nat} {y z : MethodName} {bytes : ByteArray} {maxL : Nat} {ret : Option FieldType} {rm : Room} {as' : Array Value} {Q : Option Value → Heap → List Loc → Prop} {ps : List FieldType} {r : Option FieldType} {a : Addr}
  (X : Stand p l e R s m args below meth c T locs cells slots) (q : own_q p c b) (hZ : Z.Warmed39 s.vm) (eT : T.heap = h) (hown : s.vm.findClass own = some m.cls) {ml : Nat} (hml : c.maxLocals = ml) (w1 : (Jvm.Cond.methodLink own index y).before a0 Z = true) (w2 : (Jvm.Cond.declares y).before a0 Z = true) (w5 : (Jvm.Cond.selects C y z).before a0 Z = true) (w6 : (Jvm.Cond.instanceMethod z).before a0 Z = true) (w3 : (Jvm.Cond.initialized z.cls).before a0 Z = true) (w4 : (Jvm.Cond.code z bytes maxL ret).before a0 Z = true) (hzy : z = y) (E : Exa Z h a C)
  (hM : own_M l Z [] z bytes maxL ret rm as' h Q) (d : own_D b pc (.invokevirtual index) 3 pc') (argsL rest : List Value) (pd : parseMethodDescriptor y.desc = some ⟨ps, r⟩) (W : Nat)
  (dec : (y.cls ≠ "java/lang/invoke/MethodHandle" ∧ y.cls ≠ "java/lang/invoke/VarHandle") ∧ rm.frames + 1 ≤ R.frames ∧ W + (maxL + 11) + rm.locals ≤ R.locals ∧ cells + rm.cells ≤ R.cells ∧ slots + rm.slots ≤ R.slots)
  (K : ∀ (v : Option Value) (T' : State) (L : List Loc) (h' : Heap), T'.heap = h' → Stand p l e R s m args below meth c T' (locs ++ L) (cells + rm.cells) (slots + rm.slots) → Q v h' L → own_Fin p e below P (T'.setTop (mkF m pc' Ls (v.toList ++ rest)))) (hs : Ls.size = ml := by rfl) (hl : argsL.length = ps.length := by rfl) (ha : (Value.ref a :: argsL).toArray = as' := by rfl) (hW : (rest.map fun v => v.category).sum ≤ W := by exact Nat.le_refl _) :
  own_Fin p e below P (T.setTop (mkF m pc Ls (argsL.reverse ++ .ref a :: rest))) :=
 own_cV X q hZ eT hown hml w1 w2 w5 w6 w3 w4 hzy E hM d argsL rest pd W dec (fun v T' L X' hQ => K v T' L _ rfl X' hQ) hs hl ha hW
theorem own_bld {a : Addr} {k : ClassId} {n : Int32} {vs : List Value} {dv v : Value} {j : Int32} (X : Stand p l e R s m args below meth c T locs cells slots) (q : own_q p c b) (hZ : Z.Warmed39 s.vm) (eT : T.heap = h) (V : Arv Z h a k .byte n vs dv) (d : own_D b pc .baload 1 pc') (hj : ¬ j < 0 ∧ j < n) (hv : vs.getD j.toNatClampNeg dv = v) (K : own_Fin p e below P (T.setTop (mkF m pc' Ls (v :: S)))) : own_Fin p e below P (T.setTop (mkF m pc Ls (.int j :: .ref a :: S))) := by
 obtain ⟨cl, Ar, _, S1, _, H, _⟩ := V
 obtain ⟨hd, rfl⟩ := d
 exact own_go K fun t k => X.baloadBytes q.1 (j := j) (v := v) (by rw [eT]; exact Ar.1) (State.isArrayOf_alike hZ.alike Ar.2.1) Ar.2.2 (inb_of S1 hj) (Has.at H (inb_of S1 hj) hv) (g := mkF m pc Ls (.int j :: .ref a :: S)) rfl rfl (hb q.2 hd) _ k
theorem own_bst {a : Addr} {k : ClassId} {n : Int32} {vs : List Value} {dv : Value} {j x : Int32} {n0 : Nat} (X : Stand p l e R s m args below meth c T locs cells slots) (q : own_q p c b) (hZ : Z.Warmed39 s.vm) (eT : T.heap = h) (V : Arv Z h a k .byte n vs dv) (d : own_D b pc .bastore 1 pc') (hj : ¬ j < 0 ∧ j < n) (hi : j.toNatClampNeg < vs.length) (N : Fr n0 locs) (ga : n0 ≤ a)
  (K : ∀ (T' : State) (h' : Heap), Stand p l e R s m args below meth c T' (locs ++ [⟨a, j.toNatClampNeg⟩]) cells slots → T'.heap = h' → Wr h h' a j.toNatClampNeg (.int (nar .byte x)) → Arv Z h' a k .byte n (vs.set j.toNatClampNeg (.int (nar .byte x))) dv → Fr n0 (locs ++ [⟨a, j.toNatClampNeg⟩]) → own_Fin p e below P (T'.setTop (mkF m pc' Ls S))) : own_Fin p e below P (T.setTop (mkF m pc Ls (.int x :: .int j :: .ref a :: S))) := by
 obtain ⟨cl, Ar, q1, S1, M1, H1, G1⟩ := V
 obtain ⟨hd, rfl⟩ := d
 obtain ⟨T', h', X', e', W', st⟩ := stB X q.1 hZ eT Ar (j := j) (x := x) (inb_of S1 hj) (g := mkF m pc Ls (.int x :: .int j :: .ref a :: S)) rfl rfl (hb q.2 hd)
 exact own_go (K T' h' X' e' W' (Arv.set Ar q1 S1 M1 H1 G1 (fits_nar_byte _) W' _ rfl hi) (Fr.snoc X' N ga)) st
theorem own_cld {a : Addr} {k : ClassId} {n : Int32} {vs : List Value} {dv v : Value} {j : Int32} (X : Stand p l e R s m args below meth c T locs cells slots) (q : own_q p c b) (hZ : Z.Warmed39 s.vm) (eT : T.heap = h) (V : Arv Z h a k .char n vs dv) (d : own_D b pc .caload 1 pc') (hj : ¬ j < 0 ∧ j < n) (hv : vs.getD j.toNatClampNeg dv = v) (K : own_Fin p e below P (T.setTop (mkF m pc' Ls (v :: S)))) : own_Fin p e below P (T.setTop (mkF m pc Ls (.int j :: .ref a :: S))) := by
 obtain ⟨cl, Ar, _, S1, _, H, _⟩ := V
 obtain ⟨hd, rfl⟩ := d
 exact own_go K fun t k => X.caload q.1 (j := j) (v := v) (by rw [eT]; exact Ar.1) (State.isArrayOf_alike hZ.alike Ar.2.1) Ar.2.2 (inb_of S1 hj) (Has.at H (inb_of S1 hj) hv) (g := mkF m pc Ls (.int j :: .ref a :: S)) rfl rfl (hb q.2 hd) _ k
theorem own_cst {a : Addr} {k : ClassId} {n : Int32} {vs : List Value} {dv : Value} {j x : Int32} {n0 : Nat} (X : Stand p l e R s m args below meth c T locs cells slots) (q : own_q p c b) (hZ : Z.Warmed39 s.vm) (eT : T.heap = h) (V : Arv Z h a k .char n vs dv) (d : own_D b pc .castore 1 pc') (hj : ¬ j < 0 ∧ j < n) (hi : j.toNatClampNeg < vs.length) (N : Fr n0 locs) (ga : n0 ≤ a)
  (K : ∀ (T' : State) (h' : Heap), Stand p l e R s m args below meth c T' (locs ++ [⟨a, j.toNatClampNeg⟩]) cells slots → T'.heap = h' → Wr h h' a j.toNatClampNeg (.int (nar .char x)) → Arv Z h' a k .char n (vs.set j.toNatClampNeg (.int (nar .char x))) dv → Fr n0 (locs ++ [⟨a, j.toNatClampNeg⟩]) → own_Fin p e below P (T'.setTop (mkF m pc' Ls S))) : own_Fin p e below P (T.setTop (mkF m pc Ls (.int x :: .int j :: .ref a :: S))) := by
 obtain ⟨cl, Ar, q1, S1, M1, H1, G1⟩ := V
 obtain ⟨hd, rfl⟩ := d
 obtain ⟨T', h', X', e', W', st⟩ := stC X q.1 hZ eT Ar (j := j) (x := x) (inb_of S1 hj) (g := mkF m pc Ls (.int x :: .int j :: .ref a :: S)) rfl rfl (hb q.2 hd)
 exact own_go (K T' h' X' e' W' (Arv.set Ar q1 S1 M1 H1 G1 (fits_nar_char _) W' _ rfl hi) (Fr.snoc X' N ga)) st
theorem own_cPh {own : String} {index : Nat} {y : MethodName} {bytes : ByteArray} {maxL : Nat} {ret : Option FieldType} {rm : Room} {as' : Array Value} {Q : Option Value → Heap → List Loc → Prop} {ps : List FieldType} {r : Option FieldType} {a : Addr} {C : String}
  (X : Stand p l e R s m args below meth c T locs cells slots) (q : own_q p c b) (hZ : Z.Warmed39 s.vm) (eT : T.heap = h) (hown : s.vm.findClass own = some m.cls) {ml : Nat} (hml : c.maxLocals = ml) (w1 : (Jvm.Cond.methodLink own index y).before a0 Z = true) (w2 : (Jvm.Cond.instanceMethod y).before a0 Z = true) (w5 : (Jvm.Cond.selects y.cls y y).before args s = true) (w6 : (Jvm.Cond.privateMethod y).before a0 Z = true) (w3 : (Jvm.Cond.initialized y.cls).before a0 Z = true) (w4 : (Jvm.Cond.code y bytes maxL ret).before a0 Z = true) (E : Exa Z h a C)
  (hM : own_M l Z [] y bytes maxL ret rm as' h Q) (d : own_D b pc (.invokevirtual index) 3 pc') (argsL rest : List Value) (pd : parseMethodDescriptor y.desc = some ⟨ps, r⟩) (W : Nat)
  (dec : (y.cls ≠ "java/lang/invoke/MethodHandle" ∧ y.cls ≠ "java/lang/invoke/VarHandle") ∧ rm.frames + 1 ≤ R.frames ∧ W + (maxL + 11) + rm.locals ≤ R.locals ∧ cells + rm.cells ≤ R.cells ∧ slots + rm.slots ≤ R.slots)
  (K : ∀ (v : Option Value) (T' : State) (L : List Loc) (h' : Heap), T'.heap = h' → Stand p l e R s m args below meth c T' (locs ++ L) (cells + rm.cells) (slots + rm.slots) → Q v h' L → own_Fin p e below P (T'.setTop (mkF m pc' Ls (v.toList ++ rest)))) (hs : Ls.size = ml := by rfl) (hl : argsL.length = ps.length := by rfl) (ha : (Value.ref a :: argsL).toArray = as' := by rfl) (hW : (rest.map fun v => v.category).sum ≤ W := by exact Nat.le_refl _) :
  own_Fin p e below P (T.setTop (mkF m pc Ls (argsL.reverse ++ .ref a :: rest))) := by
 obtain ⟨hd, rfl⟩ := d
 obtain ⟨cq, q1, q2⟩ := E.cell
 obtain ⟨v, _, ⟨T', L', k', n'⟩, -, X', ⟨L, hQ, l1, l2, l3⟩, st⟩ := X.privateBack q.1 (y := y) hown (mvT hZ w1) (mvT hZ w2) w5 (Cond.privateMethod_at (mvP hZ w6 (args := #[]))) (mvT hZ w4) dec.1 (backOf (W := W) hM hZ w4 w3 dec.2.1 dec.2.2.1) (g := mkF m pc Ls (argsL.reverse ++ .ref a :: rest)) rfl (hs.trans hml.symm) (Steps.refl _) (a := a) (by rw [eT]; exact q1) q2 (argsL := argsL) (rest := rest) (lenOf pd hl) rfl (by show 2 * 0 + _ ≤ _; omega) (hb q.2 hd) (fun _ _ => ⟨ha, eT, dec.2.2.2.1, dec.2.2.2.2⟩)
 dsimp only [Pt.U, Pt.locs, Pt.cells, Pt.slots] at X' l1 l2 l3 st hQ
 rw [l1, l2, l3] at X'
 exact own_go (K v T' L _ rfl X' hQ) fun t k => st.trans k
theorem own_i0 {a : Addr} {L : List Addr} {Q : Prop} : a ∈ a :: L ∨ Q := Or.inl (List.mem_cons_self ..)
theorem own_i1 {a a' : Addr} {L : List Addr} {Q : Prop} : a ∈ a' :: a :: L ∨ Q := Or.inl (List.mem_cons_of_mem _ (List.mem_cons_self ..))
theorem own_ne {a a' n : Nat} (h1 : a < n) (h2 : n ≤ a') : a ≠ a' := Nat.ne_of_lt (Nat.lt_of_lt_of_le h1 h2)
theorem own_alen {a : Addr} {k : ClassId} {ty : FieldType} {n : Int32} {vs : List Value} {dv : Value} (X : Stand p l e R s m args below meth c T locs cells slots) (q : own_q p c b) (hZ : Z.Warmed39 s.vm) (eT : T.heap = h) (V : Arv Z h a k ty n vs dv) (d : own_D b pc .arraylength 1 pc') (K : own_Fin p e below P (T.setTop (mkF m pc' Ls (.int n :: S)))) : own_Fin p e below P (T.setTop (mkF m pc Ls (.ref a :: S))) := by
 obtain ⟨cl, Ar, -, S1, M1, -, -⟩ := V
 obtain ⟨hd, rfl⟩ := d
 exact own_go K fun t k => X.arraylength q.1 (by rw [eT]; exact Ar.1) (State.isArrayOf_alike hZ.alike Ar.2.1) (g := mkF m pc Ls (.ref a :: S)) rfl rfl (hb q.2 hd) _ (by rw [len_of S1 M1]; exact k)
theorem own_gF {own O n d : String} {index : Nat} {a : Addr} {v : Value} (X : Stand p l e R s m args below meth c T locs cells slots) (q : own_q p c b) (hZ : Z.Warmed39 s.vm) (eT : T.heap = h) (hown : s.vm.findClass own = some m.cls) (w : (Jvm.Cond.fieldLink own index O n d).before a0 Z = true) (F : Fld Z h a O n d v) (dd : own_D b pc (.getfield index) 3 pc') (K : ∀ T' : State, Stand p l e R s m args below meth c T' locs cells slots → T'.heap = h → own_Fin p e below P (T'.setTop (mkF m pc' Ls (v :: S)))) : own_Fin p e below P (T.setTop (mkF m pc Ls (.ref a :: S))) := by
 obtain ⟨hd, rfl⟩ := dd
 obtain ⟨T', X', e', st⟩ := getF X q.1 hZ hown (host := "") (Or.inl w) Via.refl eT F (g := mkF m pc Ls (.ref a :: S)) rfl rfl (hb q.2 hd)
 exact own_go (K T' X' e') st
theorem own_gS {own O n d : String} {index : Nat} {v : Value} (X : Stand p l e R s m args below meth c T locs cells slots) (q : own_q p c b) (hZ : Z.Warmed39 s.vm) (eT : T.heap = h) (hown : s.vm.findClass own = some m.cls) (w : (Jvm.Cond.fieldLink own index O n d).before a0 Z = true) (F : Sta Z h O n d v) (dd : own_D b pc (.getstatic index) 3 pc') (K : ∀ T' : State, Stand p l e R s m args below meth c T' locs cells slots → T'.heap = h → own_Fin p e below P (T'.setTop (mkF m pc' Ls (v :: S)))) : own_Fin p e below P (T.setTop (mkF m pc Ls S)) := by
 obtain ⟨hd, rfl⟩ := dd
 obtain ⟨T', X', e', st⟩ := getS2 X q.1 hZ hown (host := "") (Or.inl w) Via.refl eT F (g := mkF m pc Ls S) rfl (hb q.2 hd)
 exact own_go (K T' X' e') st
end OwnD
section OwnH
variable {p : Program} {l : Launch} {e : Env} {R : Room} {s : State} {m : MethodId} {args : Array Value} {below : List Frame} {meth : Method} {c : Code} {T : State} {locs : List Loc} {cells slots : Nat} {Z : State} {a0 : Array Value} {EL : List (String × Nat)} {h : Heap} {vm0 : Vm}
def own_PH (Z : State) (EL : List (String × Nat)) (Q : Option Value → Heap → List Loc → Prop) (s : State) (C S : Nat) : Outcome → State → Prop := fun o t => ∃ v L, o = .returned v ∧ Q v t.heap L ∧ CHr Z EL s.vm s.heap t.vm t.heap ∧ ReturnedEndW s o t L C S
theorem own_retNH (X : Stand p l e R (s.setVm vm0) m args below meth c T locs cells slots) {k0 : Nat} (hS : s.Since vm0 k0) (hk : k0 ≤ T.heap.size) (hR : CHr Z EL s.vm s.heap T.vm T.heap) (hx : p.tables.exec = Jvm.exec) {pc : Nat} {Ls : Array Slot} {z : Int32} {t : FieldType} {rest : List Value} (hret : meth.sig.returnType = some t) (ht : t = .boolean ∨ t = .byte ∨ t = .char ∨ t = .short)
  (hd : decode c.code pc = .ok (.ireturn, 1)) (hlk : meth.locks = false) {Q : Option Value → Heap → List Loc → Prop} {C S : Nat} (hQ : Q (some (.int (nar t z))) T.heap locs) (hC : cells ≤ C) (hS' : slots ≤ S) : own_Fin p e below (own_PH Z EL Q s C S) (T.setTop (mkF m pc Ls (.int z :: rest))) := by
 obtain ⟨fs, hr, hrun, hended, hW⟩ := X.leaveW hS hk (v := some (.int (nar t z))) (fun h => by rw [hret] at h; cases h) hlk
 exact ⟨_, _, retN X hx hret ht hd hr, hrun, hended, _, _, rfl, hQ, hR, own_wmono hW hC hS'⟩
theorem own_retOH (X : Stand p l e R (s.setVm vm0) m args below meth c T locs cells slots) {k0 : Nat} (hS : s.Since vm0 k0) (hk : k0 ≤ T.heap.size) (hR : CHr Z EL s.vm s.heap T.vm T.heap) (hx : p.tables.exec = Jvm.exec) {pc : Nat} {Ls : Array Slot} {w : Value} {t : FieldType} {i : Instr} {rest : List Value} (hret : meth.sig.returnType = some t) (hn : narrow t w = w)
  (hi : (i = .ireturn ∧ (t = .int ∨ t = .boolean ∨ t = .byte ∨ t = .char ∨ t = .short) ∧ ∃ z, w = .int z) ∨ (i = .lreturn ∧ t = .long ∧ ∃ z, w = .long z) ∨ (i = .dreturn ∧ t = .double ∧ ∃ z, w = .double z) ∨ (i = .freturn ∧ t = .float ∧ ∃ z, w = .float z) ∨ (i = .areturn ∧ t.isReference = true ∧ w.isRef = true))
  (hd : decode c.code pc = .ok (i, 1)) (hlk : meth.locks = false) {Q : Option Value → Heap → List Loc → Prop} {C S : Nat} (hQ : Q (some w) T.heap locs) (hC : cells ≤ C) (hS' : slots ≤ S) : own_Fin p e below (own_PH Z EL Q s C S) (T.setTop (mkF m pc Ls (w :: rest))) := by
 obtain ⟨fs, hr, hrun, hended, hW⟩ := X.leaveW hS hk (v := some w) (fun h => by rw [hret] at h; cases h) hlk
 exact ⟨_, _, retOut X hx hret hn hi hd hr, hrun, hended, _, _, rfl, hQ, hR, own_wmono hW hC hS'⟩
theorem own_retVH (X : Stand p l e R (s.setVm vm0) m args below meth c T locs cells slots) {k0 : Nat} (hS : s.Since vm0 k0) (hk : k0 ≤ T.heap.size) (hR : CHr Z EL s.vm s.heap T.vm T.heap) (hx : p.tables.exec = Jvm.exec) {pc : Nat} {Ls : Array Slot} (hret : meth.sig.returnType = none)
  (hd : decode c.code pc = .ok (.return_, 1)) (hlk : meth.locks = false) {Q : Option Value → Heap → List Loc → Prop} {C S : Nat} (hQ : Q none T.heap locs) (hC : cells ≤ C) (hS' : slots ≤ S) : own_Fin p e below (own_PH Z EL Q s C S) (T.setTop (mkF m pc Ls [])) := by
 obtain ⟨fs, hr, hrun, hended, hW⟩ := X.leaveW hS hk (v := none) (fun _ => rfl) hlk
 exact ⟨_, _, X.returnOut hx hret hd hr, hrun, hended, _, _, rfl, hQ, hR, own_wmono hW hC hS'⟩
theorem own_backHS {y : MethodName} {bytes : ByteArray} {maxL : Nat} {ret : Option FieldType} {rm : Room} {len W : Nat} {as' : Array Value} {Q : Option Value → Heap → List Loc → Prop} {ss : List Addr}
  (hM : MetFree l y (head1 [Jvm.Cond.code y bytes maxL ret] rm) (fun a U => a = as' ∧ Z.Warmed39 U.vm ∧ U.heap = h ∧ CHv Z EL U.vm h ∧ ∀ x ∈ ss, Safe Z EL U.vm h x) (fun _ _ _ _ _ => True) (fun _ U o U' => ∃ v L, o = .returned v ∧ Q v U'.heap L ∧ CHr Z EL U.vm U.heap U'.vm U'.heap ∧ ReturnedEndW U o U' L rm.cells rm.slots))
  (hZ : Z.Warmed39 vm0) (wc : (Jvm.Cond.code y bytes maxL ret).before a0 Z = true) (wz : (Jvm.Cond.initialized y.cls).before a0 Z = true) (hf : rm.frames + 1 ≤ R.frames) (hl : W + (maxL + 11) + rm.locals ≤ R.locals) (hEL : EW Z a0 EL) (H : CHv Z EL vm0 h) (hss : ∀ x ∈ ss, x < h.size ∧ Safe Z EL vm0 h x) :
  BackS l R p e below (s.setVm vm0) args y len W (fun A a => a = as' ∧ A.U.heap = h ∧ A.cells + rm.cells ≤ R.cells ∧ A.slots + rm.slots ≤ R.slots)
   (fun A _ v B => ∃ L, Q v B.U.heap L ∧ B.locs = A.locs ++ L ∧ B.cells = A.cells + rm.cells ∧ B.slots = A.slots + rm.slots ∧ CHr Z EL vm0 h B.U.vm B.U.heap) := by
 refine BackS.of_freeW (bytes := bytes) (maxL := maxL) (ret := ret) (E := fun _ first o t L k n => k = rm.cells ∧ n = rm.slots ∧ (∃ v, o = .returned v ∧ Q v t.heap L) ∧ CHr Z EL first.vm first.heap t.vm t.heap) hM hf hl ?_ ?_ (fun _ _ _ _ _ _ _ _ _ => trivial) ?_ ?_
 ·intro m meth c A a Y hp
  have hU : Z.Warmed39 A.U.vm := wtrans (s := s.setVm vm0) hZ Y.warmed
  refine ⟨?_, mv hU wc, mv hU wz, hp.2.2.1, hp.2.2.2⟩
  show (Jvm.Cond.and _ .tt).before a A.U = true
  rw [Cond.before_and, mv hU wc]; rfl
 ·intro m meth c A a g mk Y hp
  have r := CHv.at Y hZ hEL H
  exact ⟨hp.1, wtrans (s := s.setVm vm0) hZ Y.warmed, hp.2.1, r.1, fun x hx => r.safe (hss x hx).1 (hss x hx).2⟩
 ·intro _ _ _ _ hq
  obtain ⟨v, L, h1, h2, h3, h4⟩ := hq
  exact ⟨L, _, _, h4, rfl, rfl, ⟨v, h1, h2⟩, h3⟩
 ·intro m meth c A a g mk v t L k n Y hp _ _ hq
  obtain ⟨e1, e2, ⟨v', e3, e4⟩, e5⟩ := hq
  cases e3; subst e1 e2
  refine ⟨L, e4, rfl, rfl, rfl, (CHv.at Y hZ hEL H).trans ?_⟩
  rw [← hp.2.1]; exact e5
end OwnH
section OwnH2
variable {p : Program} {l : Launch} {e : Env} {R : Room} {s : State} {args : Array Value} {below : List Frame} {Z : State} {a0 : Array Value} {EL : List (String × Nat)} {h : Heap} {vm0 : Vm}
theorem own_backH {y : MethodName} {bytes : ByteArray} {maxL : Nat} {ret : Option FieldType} {rm : Room} {len W : Nat} {as' : Array Value} {Q : Option Value → Heap → List Loc → Prop}
  (hM : MetFree l y (head1 [Jvm.Cond.code y bytes maxL ret] rm) (fun a U => a = as' ∧ Z.Warmed39 U.vm ∧ U.heap = h ∧ CHv Z EL U.vm h) (fun _ _ _ _ _ => True) (fun _ U o U' => ∃ v L, o = .returned v ∧ Q v U'.heap L ∧ ReturnedEndW U o U' L rm.cells rm.slots))
  (hZ : Z.Warmed39 vm0) (wc : (Jvm.Cond.code y bytes maxL ret).before a0 Z = true) (wz : (Jvm.Cond.initialized y.cls).before a0 Z = true) (hf : rm.frames + 1 ≤ R.frames) (hl : W + (maxL + 11) + rm.locals ≤ R.locals) (hEL : EW Z a0 EL) (H : CHv Z EL vm0 h) :
  BackS l R p e below (s.setVm vm0) args y len W (fun A a => a = as' ∧ A.U.heap = h ∧ A.cells + rm.cells ≤ R.cells ∧ A.slots + rm.slots ≤ R.slots)
   (fun A _ v B => ∃ L, Q v B.U.heap L ∧ B.locs = A.locs ++ L ∧ B.cells = A.cells + rm.cells ∧ B.slots = A.slots + rm.slots) := by
 refine BackS.of_freeW (bytes := bytes) (maxL := maxL) (ret := ret) (E := fun _ _ o t L k n => k = rm.cells ∧ n = rm.slots ∧ ∃ v, o = .returned v ∧ Q v t.heap L) hM hf hl ?_ ?_ (fun _ _ _ _ _ _ _ _ _ => trivial) ?_ ?_
 ·intro m meth c A a Y hp
  have hU : Z.Warmed39 A.U.vm := wtrans (s := s.setVm vm0) hZ Y.warmed
  refine ⟨?_, mv hU wc, mv hU wz, hp.2.2.1, hp.2.2.2⟩
  show (Jvm.Cond.and _ .tt).before a A.U = true
  rw [Cond.before_and, mv hU wc]; rfl
 ·intro m meth c A a g mk Y hp
  exact ⟨hp.1, wtrans (s := s.setVm vm0) hZ Y.warmed, hp.2.1, (CHv.at Y hZ hEL H).1⟩
 ·intro _ _ _ _ hq
  obtain ⟨v, L, h1, h2, h3⟩ := hq
  exact ⟨L, _, _, h3, rfl, rfl, v, h1, h2⟩
 ·intro m meth c A a g mk v t L k n Y hp _ _ hq
  obtain ⟨e1, e2, v', e3, e4⟩ := hq
  cases e3; subst e1 e2
  exact ⟨L, e4, rfl, rfl, rfl⟩
end OwnH2
theorem own_extK {h0 h : Heap} (K : Keep h0 h []) : Ext h0 h := ⟨K.1, fun a c q => K.2.1 a c q nin0⟩
theorem own_c255 (x : Int32) : ¬ (255 : Int32) < ((x &&& (255 : Int32)).toUInt32.toUInt16.toUInt32.toInt32) := by
 rw [i2c_mask]
 have := c_and x 255 (by decide)
 rw [Int32.lt_iff_toInt_lt]
 have e : (255 : Int32).toInt = 255 := rfl
 omega
theorem own_narR {v : Value} {C : String} (h : v.isRef = true) : narrow (.object C) v = v := by rcases ref_cases h with rfl | ⟨a, rfl⟩ <;> rfl
theorem own_fitR {v : Value} {C : String} (h : v.isRef = true) : fits (.object C) v = true := by rcases ref_cases h with rfl | ⟨a, rfl⟩ <;> rfl
theorem own_catR {v : Value} (h : v.isRef = true) : v.category = 1 := by rcases ref_cases h with rfl | ⟨a, rfl⟩ <;> rfl
theorem own_toInt {i : Nat} (h : i ≤ 1000) : (Int32.ofNat i).toInt = i := Int32.toInt_ofNat_of_lt (by omega)
theorem own_ltN {i j : Nat} (hi : i ≤ 1000) (hj : j ≤ 1000) : Int32.ofNat i < Int32.ofNat j ↔ i < j := by
 rw [Int32.lt_iff_toInt_lt, own_toInt hi, own_toInt hj]; omega
theorem own_clamp {i : Nat} (h : i ≤ 1000) : (Int32.ofNat i).toNatClampNeg = i := by
 simp only [Int32.toNatClampNeg, own_toInt h]; rfl
theorem own_inN {i n : Nat} (h : i < n) (hn : n ≤ 1000) : ¬ Int32.ofNat i < 0 ∧ Int32.ofNat i < Int32.ofNat n := by
 have e1 : (0 : Int32) = Int32.ofNat 0 := rfl
 rw [e1, own_ltN (by omega) (by omega), own_ltN (by omega) (by omega)]
 omega
theorem own_dbl {p2 : Int32} {i n : Nat} (hp : p2 = Int32.ofNat i) (hn : n ≤ 1000) (hi : 2 * i + 1 < n) : p2 <<< ((1 : Int32) &&& 31) = Int32.ofNat (2 * i) := by
 have q := c_ishl p2 1 1 (by decide)
 have e : ((2 ^ 1 : Nat) : Int) = 2 := rfl
 have r := own_toInt (i := i) (by omega)
 rw [e, hp, r] at q
 rw [← Int32.toInt_inj, own_toInt (by omega), hp]
 have g := rng32 (Int32.ofNat i <<< ((1 : Int32) &&& 31))
 omega
theorem own_pi0 {p2 : Int32} {i n : Nat} (hp : p2 = Int32.ofNat i) (hn : n ≤ 1000) (hi : 2 * i + 1 < n) : ¬ p2 <<< ((1 : Int32) &&& 31) < 0 ∧ p2 <<< ((1 : Int32) &&& 31) < Int32.ofNat n := by
 rw [own_dbl hp hn hi]; exact own_inN (by omega) hn
theorem own_pj0 {p2 : Int32} {i n : Nat} (hp : p2 = Int32.ofNat i) (hn : n ≤ 1000) (hi : 2 * i + 1 < n) : (p2 <<< ((1 : Int32) &&& 31)).toNatClampNeg = 2 * i := by
 rw [own_dbl hp hn hi]; exact own_clamp (by omega)
theorem own_dbl1 {p2 : Int32} {i n : Nat} (hp : p2 = Int32.ofNat i) (hn : n ≤ 1000) (hi : 2 * i + 1 < n) : p2 <<< ((1 : Int32) &&& 31) + (1 : Int32) = Int32.ofNat (2 * i + 1) := by
 rw [own_dbl hp hn hi, Int32.ofNat_add]; rfl
theorem own_pi1 {p2 : Int32} {i n : Nat} (hp : p2 = Int32.ofNat i) (hn : n ≤ 1000) (hi : 2 * i + 1 < n) : ¬ p2 <<< ((1 : Int32) &&& 31) + (1 : Int32) < 0 ∧ p2 <<< ((1 : Int32) &&& 31) + (1 : Int32) < Int32.ofNat n := by
 rw [own_dbl1 hp hn hi]; exact own_inN (by omega) hn
theorem own_pj1 {p2 : Int32} {i n : Nat} (hp : p2 = Int32.ofNat i) (hn : n ≤ 1000) (hi : 2 * i + 1 < n) : (p2 <<< ((1 : Int32) &&& 31) + (1 : Int32)).toNatClampNeg = 2 * i + 1 := by
 rw [own_dbl1 hp hn hi]; exact own_clamp (by omega)
def own_c16 (x : Int32) : Prop := 0 ≤ x.toInt ∧ x.toInt ≤ 65535
theorem own_nc16 (x : Int32) : own_c16 (nar .char x) := by
 have b := c_i2c x
 have q : nar .char x = x.toUInt32.toUInt16.toUInt32.toInt32 := rfl
 unfold own_c16; rw [q]; omega
theorem own_nc {x : Int32} (h : own_c16 x) : nar .char x = x := by
 have b := c_i2c x
 have q : nar .char x = x.toUInt32.toUInt16.toUInt32.toInt32 := rfl
 unfold own_c16 at h
 rw [q, ← Int32.toInt_inj]; omega
/-- what toBytes and getChar make of a sign -/
def own_gc (x : Int32) : Int32 := nar .char ((((nar .byte ((x >>> ((0 : Int32) &&& 31)).toInt8.toInt32)) &&& (255 : Int32)) <<< ((0 : Int32) &&& 31)) ||| (((nar .byte ((x >>> ((8 : Int32) &&& 31)).toInt8.toInt32)) &&& (255 : Int32)) <<< ((8 : Int32) &&& 31))).toUInt32.toUInt16.toUInt32.toInt32
theorem own_mask8 (y : Int32) : (nar .byte (y.toInt8.toInt32) &&& (255 : Int32)).toInt = y.toInt % 256 := by
 have a := c_mask (nar .byte (y.toInt8.toInt32)) 255 8 (by decide) (by decide)
 have b := c_i2b y
 have b2 := c_i2b (y.toInt8.toInt32)
 have q : nar .byte (y.toInt8.toInt32) = (y.toInt8.toInt32).toInt8.toInt32 := rfl
 have e : ((2 ^ 8 : Nat) : Int) = 256 := rfl
 rw [e] at a
 rw [a, q]; omega
theorem own_gcE {x : Int32} (h : own_c16 x) : own_gc x = x := by
 unfold own_c16 at h
 have s0 := c_ishr x 0 0 (by decide)
 have s8 := c_ishr x 8 8 (by decide)
 have e0 : ((2 ^ 0 : Nat) : Int) = 1 := rfl
 have e8 : ((2 ^ 8 : Nat) : Int) = 256 := rfl
 rw [e0] at s0
 rw [e8] at s8
 have m0 := own_mask8 (x >>> ((0 : Int32) &&& 31))
 have m8 := own_mask8 (x >>> ((8 : Int32) &&& 31))
 have t0 := c_ishl (nar .byte ((x >>> ((0 : Int32) &&& 31)).toInt8.toInt32) &&& (255 : Int32)) 0 0 (by decide)
 have t8 := c_ishl (nar .byte ((x >>> ((8 : Int32) &&& 31)).toInt8.toInt32) &&& (255 : Int32)) 8 8 (by decide)
 rw [e0] at t0
 rw [e8] at t8
 unfold own_gc
 generalize ((nar .byte ((x >>> ((0 : Int32) &&& 31)).toInt8.toInt32)) &&& (255 : Int32)) <<< ((0 : Int32) &&& 31) = A at *
 generalize ((nar .byte ((x >>> ((8 : Int32) &&& 31)).toInt8.toInt32)) &&& (255 : Int32)) <<< ((8 : Int32) &&& 31) = B at *
 have rA := rng32 A
 have rB := rng32 B
 have o := c_or' A B 8 (by decide) 256 rfl (by omega) (by omega) (by omega)
 have rO := rng32 (A ||| B)
 have i := c_i2c (A ||| B)
 have i2 := own_nc (x := (A ||| B).toUInt32.toUInt16.toUInt32.toInt32) (by unfold own_c16; omega)
 rw [i2, ← Int32.toInt_inj]
 omega
def own_min (a b : Int32) : Int32 := if b < a then b else a
theorem own_len5 (n : Int32) : ((n &&& (2147483647 : Int32)) % (5 : Int32)) = 0 ∨ ((n &&& (2147483647 : Int32)) % (5 : Int32)) = 1 ∨ ((n &&& (2147483647 : Int32)) % (5 : Int32)) = 2 ∨ ((n &&& (2147483647 : Int32)) % (5 : Int32)) = 3 ∨ ((n &&& (2147483647 : Int32)) % (5 : Int32)) = 4 := by
 have a := c_and n 2147483647 (by decide)
 have r := c_irem (n &&& 2147483647) 5 5 rfl
 have e0 : (0 : Int32).toInt = 0 := rfl
 have e1 : (1 : Int32).toInt = 1 := rfl
 have e2 : (2 : Int32).toInt = 2 := rfl
 have e3 : (3 : Int32).toInt = 3 := rfl
 have e4 : (4 : Int32).toInt = 4 := rfl
 simp only [← Int32.toInt_inj]
 omega
theorem own_selP {args : Array Value} {s : State} {C : String} {y : MethodName} (hy : y.cls ≠ "java/lang/invoke/MethodHandle" ∧ y.cls ≠ "java/lang/invoke/VarHandle") (w : (Jvm.Cond.selects C y y).before args s = true) (hp : (Jvm.Cond.privateMethod y).before args s = true) (hi : (Jvm.Cond.instanceMethod y).before args s = true) : (Jvm.Cond.selects y.cls y y).before args s = true := by
 obtain ⟨c, r, m, hc, hr, hm, hsel, mk, hk, hki⟩ := Cond.selects_spec w
 obtain ⟨mk', methM, hnamed, hmethM, hstM, habM⟩ := Cond.instanceMethod_spec hi
 cases hm.symm.trans hnamed
 have hfc := findClass_of_methodNamed hm
 have hpr := Cond.privateMethod_at hp m methM hm hmethM
 have hf := State.methodFound?_of_named hm hy
 have hs : selectMethod {} s.vm m.cls m = .method m := selectMethod_private hmethM hpr
 simp [Jvm.Cond.before, Jvm.Cond.holds, Jvm.Cond.value, hfc, hf, hm, hs, hk, hki]
theorem own_sameM {args : Array Value} {s : State} {C : String} {y z x : MethodName} (hy : y.cls ≠ "java/lang/invoke/MethodHandle" ∧ y.cls ≠ "java/lang/invoke/VarHandle") (w : (Jvm.Cond.selects C x z).before args s = true) (hz : z.cls = y.cls) (hd : (Jvm.Cond.declares y).before args s = true) : (Jvm.Cond.sameMethod y.cls y.cls y.name y.desc).before args s = true := by
 obtain ⟨c, r, m, hc, hr, hm, hsel, mk, hk, hki⟩ := Cond.selects_spec w
 obtain ⟨m', meth, h1, h2, h3, h4⟩ := Cond.declares_spec hd
 have hf := State.methodFound?_of_named h1 hy
 have hfc := findClass_of_methodNamed h1
 have hfz := findClass_of_methodNamed hm
 rw [hz] at hfz
 have e : m.cls = m'.cls := by rw [hfc] at hfz; exact (Option.some.inj hfz).symm
 rw [e] at hk
 simp [Jvm.Cond.before, Jvm.Cond.holds, Jvm.Cond.value, hfc, hf, h1, hk, hki]
theorem own_nf {args : Array Value} {s : State} {C : String} {x z y : MethodName} (hsel : (Jvm.Cond.selects C x z).before args s = true) (hz : z.cls = y.cls) : NotFace s y := fun r0 h0 => by
 obtain ⟨c2, r2, m2, q1, q2, q3, q4, kP, hkP, hkPi⟩ := Cond.selects_spec hsel
 have f1 := findClass_of_methodNamed h0
 have f2 := findClass_of_methodNamed q3
 rw [hz, f1] at f2
 exact ⟨kP, by rw [Option.some.inj f2]; exact hkP, hkPi⟩

abbrev own_y0 : MethodName := (⟨"java/lang/StringUTF16", "newBytesLength", "(I)I"⟩ : MethodName)
abbrev own_y1 : MethodName := (⟨"java/lang/StringUTF16", "compress", "([CI[BII)I"⟩ : MethodName)
abbrev own_y2 : MethodName := (⟨"java/lang/StringUTF16", "putChar", "([BII)V"⟩ : MethodName)
abbrev own_y3 : MethodName := (⟨"java/lang/StringUTF16", "getChar", "([BI)C"⟩ : MethodName)
abbrev own_y4 : MethodName := (⟨"java/lang/StringUTF16", "newBytesFor", "(I)[B"⟩ : MethodName)
abbrev own_y5 : MethodName := (⟨"java/lang/StringUTF16", "toBytes", "([CII)[B"⟩ : MethodName)
abbrev own_y6 : MethodName := (⟨"java/lang/StringUTF16", "compress", "([CII)[B"⟩ : MethodName)
abbrev own_y7 : MethodName := (⟨"java/lang/StringUTF16", "coderFromArrayLen", "([BI)B"⟩ : MethodName)
abbrev own_y8 : MethodName := (⟨"java/lang/String", "<init>", "([CIILjava/lang/Void;)V"⟩ : MethodName)
abbrev own_y9 : MethodName := (⟨"java/lang/String", "<init>", "([C)V"⟩ : MethodName)
abbrev own_y10 : MethodName := (⟨"java/lang/AbstractStringBuilder", "<init>", "(I)V"⟩ : MethodName)
abbrev own_y11 : MethodName := (⟨"java/lang/StringBuilder", "<init>", "()V"⟩ : MethodName)
abbrev own_y12 : MethodName := (⟨"java/lang/String", "coder", "()B"⟩ : MethodName)
abbrev own_y13 : MethodName := (⟨"java/lang/AbstractStringBuilder", "isLatin1", "()Z"⟩ : MethodName)
abbrev own_y14 : MethodName := (⟨"java/lang/AbstractStringBuilder", "getValue", "()[B"⟩ : MethodName)
abbrev own_y15 : MethodName := (⟨"java/lang/AbstractStringBuilder", "length", "()I"⟩ : MethodName)
abbrev own_y16 : MethodName := (⟨"java/lang/StringBuilder", "length", "()I"⟩ : MethodName)
abbrev own_y17 : MethodName := (⟨"java/lang/Math", "min", "(II)I"⟩ : MethodName)
abbrev own_y18 : MethodName := (⟨"java/util/Arrays", "checkLength", "(II)V"⟩ : MethodName)
abbrev own_y19 : MethodName := (⟨"java/util/Arrays", "copyOfRangeByte", "([BII)[B"⟩ : MethodName)
abbrev own_y20 : MethodName := (⟨"java/util/Arrays", "copyOfRange", "([BII)[B"⟩ : MethodName)
abbrev own_y21 : MethodName := (⟨"java/lang/StringUTF16", "length", "([B)I"⟩ : MethodName)
abbrev own_y22 : MethodName := (⟨"jdk/internal/util/Preconditions", "checkFromIndexSize", "(IIILjava/util/function/BiFunction;)I"⟩ : MethodName)
abbrev own_y23 : MethodName := (⟨"java/lang/String", "checkBoundsOffCount", "(III)I"⟩ : MethodName)
abbrev own_y24 : MethodName := (⟨"java/lang/StringUTF16", "checkBoundsOffCount", "(II[B)V"⟩ : MethodName)
abbrev own_y25 : MethodName := (⟨"java/lang/StringUTF16", "inflate", "([BI[BII)V"⟩ : MethodName)
abbrev own_y26 : MethodName := (⟨"java/lang/StringLatin1", "inflate", "([BI[BII)V"⟩ : MethodName)
abbrev own_y27 : MethodName := (⟨"java/lang/AbstractStringBuilder", "inflate", "()V"⟩ : MethodName)
abbrev own_y28 : MethodName := (⟨"java/lang/AbstractStringBuilder", "ensureCapacityInternal", "(I)V"⟩ : MethodName)
abbrev own_y29 : MethodName := (⟨"java/lang/String", "getBytes", "([BIB)V"⟩ : MethodName)
abbrev own_y30 : MethodName := (⟨"java/lang/AbstractStringBuilder", "inflateIfNeededFor", "(Ljava/lang/String;)V"⟩ : MethodName)
abbrev own_y31 : MethodName := (⟨"java/lang/String", "length", "()I"⟩ : MethodName)
abbrev own_y32 : MethodName := (⟨"java/lang/AbstractStringBuilder", "putStringAt", "(ILjava/lang/String;)V"⟩ : MethodName)
abbrev own_y33 : MethodName := (⟨"java/lang/AbstractStringBuilder", "append", "(Ljava/lang/String;)Ljava/lang/AbstractStringBuilder;"⟩ : MethodName)
abbrev own_y34 : MethodName := (⟨"java/lang/StringBuilder", "append", "(Ljava/lang/String;)Ljava/lang/StringBuilder;"⟩ : MethodName)
abbrev own_y35 : MethodName := (⟨"java/lang/String", "<init>", "(Ljava/lang/AbstractStringBuilder;Ljava/lang/Void;)V"⟩ : MethodName)
abbrev own_y36 : MethodName := (⟨"java/lang/String", "<init>", "(Ljava/lang/StringBuilder;)V"⟩ : MethodName)
abbrev own_y37 : MethodName := (⟨"java/lang/StringBuilder", "toString", "()Ljava/lang/String;"⟩ : MethodName)
abbrev own_y38 : MethodName := (⟨"com/example/wolf_spider/wolfspider/Url", "<init>", "(Ljava/lang/String;Ljava/lang/String;Ljava/lang/String;Ljava/lang/String;)V"⟩ : MethodName)
abbrev own_y39 : MethodName := (⟨"com/example/wolf_spider/wolfspider/Url", "ofPath", "(Ljava/lang/String;)Lcom/example/wolf_spider/wolfspider/Url;"⟩ : MethodName)
abbrev own_y40 : MethodName := (⟨"com/example/wolf_spider/wolfspider/Url", "path", "()Ljava/lang/String;"⟩ : MethodName)
abbrev own_y41 : MethodName := (⟨"com/example/wolf_spider/wolfspider/Url", "pathAndQuery", "()Ljava/lang/String;"⟩ : MethodName)
abbrev own_y42 : MethodName := (⟨"com/example/wolf_spider/wolfspider/Url", "toString", "()Ljava/lang/String;"⟩ : MethodName)
abbrev own_y43 : MethodName := (⟨"java/lang/String", "equals", "(Ljava/lang/Object;)Z"⟩ : MethodName)
abbrev own_y44 : MethodName := (⟨"java/lang/StringLatin1", "equals", "([B[B)Z"⟩ : MethodName)
abbrev own_y45 : MethodName := (⟨"com/example/wolf_spider/wolfspider/UrlOfPathPinLaw", "make", "(ICCCC)Ljava/lang/String;"⟩ : MethodName)
def QI (z : Int32) (h0 : Heap) (n0 : Nat) (v : Option Value) (h : Heap) (L : List Loc) : Prop := v = some (.int z) ∧ Fr n0 L ∧ h = h0
def QC1a (Z : State) (b : Addr) (k2 : ClassId) (x0 : Int32) (h0 : Heap) (n0 : Nat) (v : Option Value) (h : Heap) (L : List Loc) : Prop := ∃ z : Int32, v = some (.int z) ∧ Fr n0 L ∧ Keep h0 h [b] ∧ ((z = (1 : Int32) ∧ (¬ (255 : Int32) < x0) ∧ Arv Z h b k2 .byte (1 : Int32) [(.int (nar .byte (x0.toInt8.toInt32)))] v'0) ∨ (z = (0 : Int32) ∧ (255 : Int32) < x0))
def QPC (Z : State) (a1 : Addr) (k1 : ClassId) (p3 : Int32) (vs : List Value) (n i : Nat) (h0 : Heap) (n0 : Nat) (v : Option Value) (h : Heap) (L : List Loc) : Prop := v = none ∧ Fr n0 L ∧ Keep h0 h [a1] ∧ Arv Z h a1 k1 .byte (Int32.ofNat n) ((vs.set (2 * i) (.int (nar .byte ((p3 >>> ((0 : Int32) &&& 31)).toInt8.toInt32)))).set (2 * i + 1) (.int (nar .byte ((p3 >>> ((8 : Int32) &&& 31)).toInt8.toInt32)))) v'0
def QNB1 (Z : State) (h0 : Heap) (n0 : Nat) (v : Option Value) (h : Heap) (L : List Loc) : Prop := ∃ (b : Addr) (k : ClassId), v = some (.ref b) ∧ Fr n0 L ∧ Ext h0 h ∧ h0.size ≤ b ∧ Arv Z h b k .byte (2 : Int32) [v'0, v'0] v'0
def QTB1 (Z : State) (x0 : Int32) (h0 : Heap) (n0 : Nat) (v : Option Value) (h : Heap) (L : List Loc) : Prop := ∃ (b : Addr) (k : ClassId), v = some (.ref b) ∧ Fr n0 L ∧ Ext h0 h ∧ h0.size ≤ b ∧ Arv Z h b k .byte (2 : Int32) [(.int (nar .byte ((x0 >>> ((0 : Int32) &&& 31)).toInt8.toInt32))), (.int (nar .byte ((x0 >>> ((8 : Int32) &&& 31)).toInt8.toInt32)))] v'0
def QC1b (Z : State) (x0 : Int32) (h0 : Heap) (n0 : Nat) (v : Option Value) (h : Heap) (L : List Loc) : Prop := ∃ (b : Addr) (k : ClassId), v = some (.ref b) ∧ Fr n0 L ∧ Ext h0 h ∧ h0.size ≤ b ∧ (((¬ (255 : Int32) < x0) ∧ Arv Z h b k .byte (1 : Int32) [(.int (nar .byte (x0.toInt8.toInt32)))] v'0) ∨ (((255 : Int32) < x0) ∧ Arv Z h b k .byte (2 : Int32) [(.int (nar .byte ((x0 >>> ((0 : Int32) &&& 31)).toInt8.toInt32))), (.int (nar .byte ((x0 >>> ((8 : Int32) &&& 31)).toInt8.toInt32)))] v'0))
def QI1 (Z : State) (a1 : Addr) (x0 : Int32) (h0 : Heap) (n0 : Nat) (v : Option Value) (h : Heap) (L : List Loc) : Prop := ∃ (t : Addr) (k : ClassId), v = none ∧ Fr n0 L ∧ Keep h0 h [a1] ∧ h0.size ≤ t ∧ F'1 Z h a1 (.ref t) ∧ ((F'0 Z h a1 v'0 ∧ (¬ (255 : Int32) < x0) ∧ Arv Z h t k .byte (1 : Int32) [(.int (nar .byte (x0.toInt8.toInt32)))] v'0) ∨ (F'0 Z h a1 v'1 ∧ ((255 : Int32) < x0) ∧ Arv Z h t k .byte (2 : Int32) [(.int (nar .byte ((x0 >>> ((0 : Int32) &&& 31)).toInt8.toInt32))), (.int (nar .byte ((x0 >>> ((8 : Int32) &&& 31)).toInt8.toInt32)))] v'0))
def QC2a (Z : State) (b : Addr) (k2 : ClassId) (x0 x1 : Int32) (h0 : Heap) (n0 : Nat) (v : Option Value) (h : Heap) (L : List Loc) : Prop := ∃ z : Int32, v = some (.int z) ∧ Fr n0 L ∧ Keep h0 h [b] ∧ ((z = (2 : Int32) ∧ (¬ (255 : Int32) < x0 ∧ ¬ (255 : Int32) < x1) ∧ Arv Z h b k2 .byte (2 : Int32) [(.int (nar .byte (x0.toInt8.toInt32))), (.int (nar .byte (x1.toInt8.toInt32)))] v'0) ∨ (z = (0 : Int32) ∧ (255 : Int32) < x0) ∨ (z = (1 : Int32) ∧ (255 : Int32) < x1))
def QNB2 (Z : State) (h0 : Heap) (n0 : Nat) (v : Option Value) (h : Heap) (L : List Loc) : Prop := ∃ (b : Addr) (k : ClassId), v = some (.ref b) ∧ Fr n0 L ∧ Ext h0 h ∧ h0.size ≤ b ∧ Arv Z h b k .byte (4 : Int32) [v'0, v'0, v'0, v'0] v'0
def QTB2 (Z : State) (x0 x1 : Int32) (h0 : Heap) (n0 : Nat) (v : Option Value) (h : Heap) (L : List Loc) : Prop := ∃ (b : Addr) (k : ClassId), v = some (.ref b) ∧ Fr n0 L ∧ Ext h0 h ∧ h0.size ≤ b ∧ Arv Z h b k .byte (4 : Int32) [(.int (nar .byte ((x0 >>> ((0 : Int32) &&& 31)).toInt8.toInt32))), (.int (nar .byte ((x0 >>> ((8 : Int32) &&& 31)).toInt8.toInt32))), (.int (nar .byte ((x1 >>> ((0 : Int32) &&& 31)).toInt8.toInt32))), (.int (nar .byte ((x1 >>> ((8 : Int32) &&& 31)).toInt8.toInt32)))] v'0
def QC2b (Z : State) (x0 x1 : Int32) (h0 : Heap) (n0 : Nat) (v : Option Value) (h : Heap) (L : List Loc) : Prop := ∃ (b : Addr) (k : ClassId), v = some (.ref b) ∧ Fr n0 L ∧ Ext h0 h ∧ h0.size ≤ b ∧ (((¬ (255 : Int32) < x0 ∧ ¬ (255 : Int32) < x1) ∧ Arv Z h b k .byte (2 : Int32) [(.int (nar .byte (x0.toInt8.toInt32))), (.int (nar .byte (x1.toInt8.toInt32)))] v'0) ∨ (((255 : Int32) < x0 ∨ (255 : Int32) < x1) ∧ Arv Z h b k .byte (4 : Int32) [(.int (nar .byte ((x0 >>> ((0 : Int32) &&& 31)).toInt8.toInt32))), (.int (nar .byte ((x0 >>> ((8 : Int32) &&& 31)).toInt8.toInt32))), (.int (nar .byte ((x1 >>> ((0 : Int32) &&& 31)).toInt8.toInt32))), (.int (nar .byte ((x1 >>> ((8 : Int32) &&& 31)).toInt8.toInt32)))] v'0))
def QI2 (Z : State) (a1 : Addr) (x0 x1 : Int32) (h0 : Heap) (n0 : Nat) (v : Option Value) (h : Heap) (L : List Loc) : Prop := ∃ (t : Addr) (k : ClassId), v = none ∧ Fr n0 L ∧ Keep h0 h [a1] ∧ h0.size ≤ t ∧ F'1 Z h a1 (.ref t) ∧ ((F'0 Z h a1 v'0 ∧ (¬ (255 : Int32) < x0 ∧ ¬ (255 : Int32) < x1) ∧ Arv Z h t k .byte (2 : Int32) [(.int (nar .byte (x0.toInt8.toInt32))), (.int (nar .byte (x1.toInt8.toInt32)))] v'0) ∨ (F'0 Z h a1 v'1 ∧ ((255 : Int32) < x0 ∨ (255 : Int32) < x1) ∧ Arv Z h t k .byte (4 : Int32) [(.int (nar .byte ((x0 >>> ((0 : Int32) &&& 31)).toInt8.toInt32))), (.int (nar .byte ((x0 >>> ((8 : Int32) &&& 31)).toInt8.toInt32))), (.int (nar .byte ((x1 >>> ((0 : Int32) &&& 31)).toInt8.toInt32))), (.int (nar .byte ((x1 >>> ((8 : Int32) &&& 31)).toInt8.toInt32)))] v'0))
def QC3a (Z : State) (b : Addr) (k2 : ClassId) (x0 x1 x2 : Int32) (h0 : Heap) (n0 : Nat) (v : Option Value) (h : Heap) (L : List Loc) : Prop := ∃ z : Int32, v = some (.int z) ∧ Fr n0 L ∧ Keep h0 h [b] ∧ ((z = (3 : Int32) ∧ (¬ (255 : Int32) < x0 ∧ ¬ (255 : Int32) < x1 ∧ ¬ (255 : Int32) < x2) ∧ Arv Z h b k2 .byte (3 : Int32) [(.int (nar .byte (x0.toInt8.toInt32))), (.int (nar .byte (x1.toInt8.toInt32))), (.int (nar .byte (x2.toInt8.toInt32)))] v'0) ∨ (z = (0 : Int32) ∧ (255 : Int32) < x0) ∨ (z = (1 : Int32) ∧ (255 : Int32) < x1) ∨ (z = (2 : Int32) ∧ (255 : Int32) < x2))
def QNB3 (Z : State) (h0 : Heap) (n0 : Nat) (v : Option Value) (h : Heap) (L : List Loc) : Prop := ∃ (b : Addr) (k : ClassId), v = some (.ref b) ∧ Fr n0 L ∧ Ext h0 h ∧ h0.size ≤ b ∧ Arv Z h b k .byte (6 : Int32) [v'0, v'0, v'0, v'0, v'0, v'0] v'0
def QTB3 (Z : State) (x0 x1 x2 : Int32) (h0 : Heap) (n0 : Nat) (v : Option Value) (h : Heap) (L : List Loc) : Prop := ∃ (b : Addr) (k : ClassId), v = some (.ref b) ∧ Fr n0 L ∧ Ext h0 h ∧ h0.size ≤ b ∧ Arv Z h b k .byte (6 : Int32) [(.int (nar .byte ((x0 >>> ((0 : Int32) &&& 31)).toInt8.toInt32))), (.int (nar .byte ((x0 >>> ((8 : Int32) &&& 31)).toInt8.toInt32))), (.int (nar .byte ((x1 >>> ((0 : Int32) &&& 31)).toInt8.toInt32))), (.int (nar .byte ((x1 >>> ((8 : Int32) &&& 31)).toInt8.toInt32))), (.int (nar .byte ((x2 >>> ((0 : Int32) &&& 31)).toInt8.toInt32))), (.int (nar .byte ((x2 >>> ((8 : Int32) &&& 31)).toInt8.toInt32)))] v'0
def QC3b (Z : State) (x0 x1 x2 : Int32) (h0 : Heap) (n0 : Nat) (v : Option Value) (h : Heap) (L : List Loc) : Prop := ∃ (b : Addr) (k : ClassId), v = some (.ref b) ∧ Fr n0 L ∧ Ext h0 h ∧ h0.size ≤ b ∧ (((¬ (255 : Int32) < x0 ∧ ¬ (255 : Int32) < x1 ∧ ¬ (255 : Int32) < x2) ∧ Arv Z h b k .byte (3 : Int32) [(.int (nar .byte (x0.toInt8.toInt32))), (.int (nar .byte (x1.toInt8.toInt32))), (.int (nar .byte (x2.toInt8.toInt32)))] v'0) ∨ (((255 : Int32) < x0 ∨ (255 : Int32) < x1 ∨ (255 : Int32) < x2) ∧ Arv Z h b k .byte (6 : Int32) [(.int (nar .byte ((x0 >>> ((0 : Int32) &&& 31)).toInt8.toInt32))), (.int (nar .byte ((x0 >>> ((8 : Int32) &&& 31)).toInt8.toInt32))), (.int (nar .byte ((x1 >>> ((0 : Int32) &&& 31)).toInt8.toInt32))), (.int (nar .byte ((x1 >>> ((8 : Int32) &&& 31)).toInt8.toInt32))), (.int (nar .byte ((x2 >>> ((0 : Int32) &&& 31)).toInt8.toInt32))), (.int (nar .byte ((x2 >>> ((8 : Int32) &&& 31)).toInt8.toInt32)))] v'0))
def QI3 (Z : State) (a1 : Addr) (x0 x1 x2 : Int32) (h0 : Heap) (n0 : Nat) (v : Option Value) (h : Heap) (L : List Loc) : Prop := ∃ (t : Addr) (k : ClassId), v = none ∧ Fr n0 L ∧ Keep h0 h [a1] ∧ h0.size ≤ t ∧ F'1 Z h a1 (.ref t) ∧ ((F'0 Z h a1 v'0 ∧ (¬ (255 : Int32) < x0 ∧ ¬ (255 : Int32) < x1 ∧ ¬ (255 : Int32) < x2) ∧ Arv Z h t k .byte (3 : Int32) [(.int (nar .byte (x0.toInt8.toInt32))), (.int (nar .byte (x1.toInt8.toInt32))), (.int (nar .byte (x2.toInt8.toInt32)))] v'0) ∨ (F'0 Z h a1 v'1 ∧ ((255 : Int32) < x0 ∨ (255 : Int32) < x1 ∨ (255 : Int32) < x2) ∧ Arv Z h t k .byte (6 : Int32) [(.int (nar .byte ((x0 >>> ((0 : Int32) &&& 31)).toInt8.toInt32))), (.int (nar .byte ((x0 >>> ((8 : Int32) &&& 31)).toInt8.toInt32))), (.int (nar .byte ((x1 >>> ((0 : Int32) &&& 31)).toInt8.toInt32))), (.int (nar .byte ((x1 >>> ((8 : Int32) &&& 31)).toInt8.toInt32))), (.int (nar .byte ((x2 >>> ((0 : Int32) &&& 31)).toInt8.toInt32))), (.int (nar .byte ((x2 >>> ((8 : Int32) &&& 31)).toInt8.toInt32)))] v'0))
def QC4a (Z : State) (b : Addr) (k2 : ClassId) (x0 x1 x2 x3 : Int32) (h0 : Heap) (n0 : Nat) (v : Option Value) (h : Heap) (L : List Loc) : Prop := ∃ z : Int32, v = some (.int z) ∧ Fr n0 L ∧ Keep h0 h [b] ∧ ((z = (4 : Int32) ∧ (¬ (255 : Int32) < x0 ∧ ¬ (255 : Int32) < x1 ∧ ¬ (255 : Int32) < x2 ∧ ¬ (255 : Int32) < x3) ∧ Arv Z h b k2 .byte (4 : Int32) [(.int (nar .byte (x0.toInt8.toInt32))), (.int (nar .byte (x1.toInt8.toInt32))), (.int (nar .byte (x2.toInt8.toInt32))), (.int (nar .byte (x3.toInt8.toInt32)))] v'0) ∨ (z = (0 : Int32) ∧ (255 : Int32) < x0) ∨ (z = (1 : Int32) ∧ (255 : Int32) < x1) ∨ (z = (2 : Int32) ∧ (255 : Int32) < x2) ∨ (z = (3 : Int32) ∧ (255 : Int32) < x3))
def QNB4 (Z : State) (h0 : Heap) (n0 : Nat) (v : Option Value) (h : Heap) (L : List Loc) : Prop := ∃ (b : Addr) (k : ClassId), v = some (.ref b) ∧ Fr n0 L ∧ Ext h0 h ∧ h0.size ≤ b ∧ Arv Z h b k .byte (8 : Int32) [v'0, v'0, v'0, v'0, v'0, v'0, v'0, v'0] v'0
def QTB4 (Z : State) (x0 x1 x2 x3 : Int32) (h0 : Heap) (n0 : Nat) (v : Option Value) (h : Heap) (L : List Loc) : Prop := ∃ (b : Addr) (k : ClassId), v = some (.ref b) ∧ Fr n0 L ∧ Ext h0 h ∧ h0.size ≤ b ∧ Arv Z h b k .byte (8 : Int32) [(.int (nar .byte ((x0 >>> ((0 : Int32) &&& 31)).toInt8.toInt32))), (.int (nar .byte ((x0 >>> ((8 : Int32) &&& 31)).toInt8.toInt32))), (.int (nar .byte ((x1 >>> ((0 : Int32) &&& 31)).toInt8.toInt32))), (.int (nar .byte ((x1 >>> ((8 : Int32) &&& 31)).toInt8.toInt32))), (.int (nar .byte ((x2 >>> ((0 : Int32) &&& 31)).toInt8.toInt32))), (.int (nar .byte ((x2 >>> ((8 : Int32) &&& 31)).toInt8.toInt32))), (.int (nar .byte ((x3 >>> ((0 : Int32) &&& 31)).toInt8.toInt32))), (.int (nar .byte ((x3 >>> ((8 : Int32) &&& 31)).toInt8.toInt32)))] v'0
def QC4b (Z : State) (x0 x1 x2 x3 : Int32) (h0 : Heap) (n0 : Nat) (v : Option Value) (h : Heap) (L : List Loc) : Prop := ∃ (b : Addr) (k : ClassId), v = some (.ref b) ∧ Fr n0 L ∧ Ext h0 h ∧ h0.size ≤ b ∧ (((¬ (255 : Int32) < x0 ∧ ¬ (255 : Int32) < x1 ∧ ¬ (255 : Int32) < x2 ∧ ¬ (255 : Int32) < x3) ∧ Arv Z h b k .byte (4 : Int32) [(.int (nar .byte (x0.toInt8.toInt32))), (.int (nar .byte (x1.toInt8.toInt32))), (.int (nar .byte (x2.toInt8.toInt32))), (.int (nar .byte (x3.toInt8.toInt32)))] v'0) ∨ (((255 : Int32) < x0 ∨ (255 : Int32) < x1 ∨ (255 : Int32) < x2 ∨ (255 : Int32) < x3) ∧ Arv Z h b k .byte (8 : Int32) [(.int (nar .byte ((x0 >>> ((0 : Int32) &&& 31)).toInt8.toInt32))), (.int (nar .byte ((x0 >>> ((8 : Int32) &&& 31)).toInt8.toInt32))), (.int (nar .byte ((x1 >>> ((0 : Int32) &&& 31)).toInt8.toInt32))), (.int (nar .byte ((x1 >>> ((8 : Int32) &&& 31)).toInt8.toInt32))), (.int (nar .byte ((x2 >>> ((0 : Int32) &&& 31)).toInt8.toInt32))), (.int (nar .byte ((x2 >>> ((8 : Int32) &&& 31)).toInt8.toInt32))), (.int (nar .byte ((x3 >>> ((0 : Int32) &&& 31)).toInt8.toInt32))), (.int (nar .byte ((x3 >>> ((8 : Int32) &&& 31)).toInt8.toInt32)))] v'0))
def QI4 (Z : State) (a1 : Addr) (x0 x1 x2 x3 : Int32) (h0 : Heap) (n0 : Nat) (v : Option Value) (h : Heap) (L : List Loc) : Prop := ∃ (t : Addr) (k : ClassId), v = none ∧ Fr n0 L ∧ Keep h0 h [a1] ∧ h0.size ≤ t ∧ F'1 Z h a1 (.ref t) ∧ ((F'0 Z h a1 v'0 ∧ (¬ (255 : Int32) < x0 ∧ ¬ (255 : Int32) < x1 ∧ ¬ (255 : Int32) < x2 ∧ ¬ (255 : Int32) < x3) ∧ Arv Z h t k .byte (4 : Int32) [(.int (nar .byte (x0.toInt8.toInt32))), (.int (nar .byte (x1.toInt8.toInt32))), (.int (nar .byte (x2.toInt8.toInt32))), (.int (nar .byte (x3.toInt8.toInt32)))] v'0) ∨ (F'0 Z h a1 v'1 ∧ ((255 : Int32) < x0 ∨ (255 : Int32) < x1 ∨ (255 : Int32) < x2 ∨ (255 : Int32) < x3) ∧ Arv Z h t k .byte (8 : Int32) [(.int (nar .byte ((x0 >>> ((0 : Int32) &&& 31)).toInt8.toInt32))), (.int (nar .byte ((x0 >>> ((8 : Int32) &&& 31)).toInt8.toInt32))), (.int (nar .byte ((x1 >>> ((0 : Int32) &&& 31)).toInt8.toInt32))), (.int (nar .byte ((x1 >>> ((8 : Int32) &&& 31)).toInt8.toInt32))), (.int (nar .byte ((x2 >>> ((0 : Int32) &&& 31)).toInt8.toInt32))), (.int (nar .byte ((x2 >>> ((8 : Int32) &&& 31)).toInt8.toInt32))), (.int (nar .byte ((x3 >>> ((0 : Int32) &&& 31)).toInt8.toInt32))), (.int (nar .byte ((x3 >>> ((8 : Int32) &&& 31)).toInt8.toInt32)))] v'0))
def QI0 (Z : State) (a1 : Addr) (h0 : Heap) (n0 : Nat) (v : Option Value) (h : Heap) (L : List Loc) : Prop := ∃ (t : Addr) (k : ClassId), v = none ∧ Fr n0 L ∧ Keep h0 h [a1] ∧ F'1 Z h a1 (.ref t) ∧ F'0 Z h a1 v'0 ∧ Arv Z h t k .byte (0 : Int32) [] v'0
def QN (h0 : Heap) (n0 : Nat) (v : Option Value) (h : Heap) (L : List Loc) : Prop := v = none ∧ Fr n0 L ∧ h = h0
def QSB (Z : State) (a1 : Addr) (h0 : Heap) (n0 : Nat) (v : Option Value) (h : Heap) (L : List Loc) : Prop := ∃ (b : Addr) (k : ClassId), v = none ∧ Fr n0 L ∧ Keep h0 h [a1] ∧ h0.size ≤ b ∧ F'3 Z h a1 (.ref b) ∧ F'2 Z h a1 v'0 ∧ F'4 Z h a1 v'0 ∧ F'5 Z h a1 v'0 ∧ Arv Z h b k .byte (16 : Int32) [v'0, v'0, v'0, v'0, v'0, v'0, v'0, v'0, v'0, v'0, v'0, v'0, v'0, v'0, v'0, v'0] v'0
def QR (r : Value) (h0 : Heap) (n0 : Nat) (v : Option Value) (h : Heap) (L : List Loc) : Prop := v = some r ∧ Fr n0 L ∧ h = h0
def QCRL0 (Z : State)  (h0 : Heap) (n0 : Nat) (v : Option Value) (h : Heap) (L : List Loc) : Prop := ∃ (b : Addr) (k : ClassId), v = some (.ref b) ∧ Fr n0 L ∧ Ext h0 h ∧ h0.size ≤ b ∧ Arv Z h b k .byte (0 : Int32) [] v'0
def QCRL1 (Z : State) (y0 : Int32) (h0 : Heap) (n0 : Nat) (v : Option Value) (h : Heap) (L : List Loc) : Prop := ∃ (b : Addr) (k : ClassId), v = some (.ref b) ∧ Fr n0 L ∧ Ext h0 h ∧ h0.size ≤ b ∧ Arv Z h b k .byte (1 : Int32) [(.int y0)] v'0
def QCRL2 (Z : State) (y0 y1 : Int32) (h0 : Heap) (n0 : Nat) (v : Option Value) (h : Heap) (L : List Loc) : Prop := ∃ (b : Addr) (k : ClassId), v = some (.ref b) ∧ Fr n0 L ∧ Ext h0 h ∧ h0.size ≤ b ∧ Arv Z h b k .byte (2 : Int32) [(.int y0), (.int y1)] v'0
def QCRL3 (Z : State) (y0 y1 y2 : Int32) (h0 : Heap) (n0 : Nat) (v : Option Value) (h : Heap) (L : List Loc) : Prop := ∃ (b : Addr) (k : ClassId), v = some (.ref b) ∧ Fr n0 L ∧ Ext h0 h ∧ h0.size ≤ b ∧ Arv Z h b k .byte (3 : Int32) [(.int y0), (.int y1), (.int y2)] v'0
def QCRL4 (Z : State) (y0 y1 y2 y3 : Int32) (h0 : Heap) (n0 : Nat) (v : Option Value) (h : Heap) (L : List Loc) : Prop := ∃ (b : Addr) (k : ClassId), v = some (.ref b) ∧ Fr n0 L ∧ Ext h0 h ∧ h0.size ≤ b ∧ Arv Z h b k .byte (4 : Int32) [(.int y0), (.int y1), (.int y2), (.int y3)] v'0
def QCRU1 (Z : State) (y0 y1 : Int32) (h0 : Heap) (n0 : Nat) (v : Option Value) (h : Heap) (L : List Loc) : Prop := ∃ (b : Addr) (k : ClassId), v = some (.ref b) ∧ Fr n0 L ∧ Ext h0 h ∧ h0.size ≤ b ∧ Arv Z h b k .byte (2 : Int32) [(.int y0), (.int y1)] v'0
def QCRU2 (Z : State) (y0 y1 y2 y3 : Int32) (h0 : Heap) (n0 : Nat) (v : Option Value) (h : Heap) (L : List Loc) : Prop := ∃ (b : Addr) (k : ClassId), v = some (.ref b) ∧ Fr n0 L ∧ Ext h0 h ∧ h0.size ≤ b ∧ Arv Z h b k .byte (4 : Int32) [(.int y0), (.int y1), (.int y2), (.int y3)] v'0
def QCRU3 (Z : State) (y0 y1 y2 y3 y4 y5 : Int32) (h0 : Heap) (n0 : Nat) (v : Option Value) (h : Heap) (L : List Loc) : Prop := ∃ (b : Addr) (k : ClassId), v = some (.ref b) ∧ Fr n0 L ∧ Ext h0 h ∧ h0.size ≤ b ∧ Arv Z h b k .byte (6 : Int32) [(.int y0), (.int y1), (.int y2), (.int y3), (.int y4), (.int y5)] v'0
def QCRU4 (Z : State) (y0 y1 y2 y3 y4 y5 y6 y7 : Int32) (h0 : Heap) (n0 : Nat) (v : Option Value) (h : Heap) (L : List Loc) : Prop := ∃ (b : Addr) (k : ClassId), v = some (.ref b) ∧ Fr n0 L ∧ Ext h0 h ∧ h0.size ≤ b ∧ Arv Z h b k .byte (8 : Int32) [(.int y0), (.int y1), (.int y2), (.int y3), (.int y4), (.int y5), (.int y6), (.int y7)] v'0
def QNB16 (Z : State) (h0 : Heap) (n0 : Nat) (v : Option Value) (h : Heap) (L : List Loc) : Prop := ∃ (b : Addr) (k : ClassId), v = some (.ref b) ∧ Fr n0 L ∧ Ext h0 h ∧ h0.size ≤ b ∧ Arv Z h b k .byte (32 : Int32) [v'0, v'0, v'0, v'0, v'0, v'0, v'0, v'0, v'0, v'0, v'0, v'0, v'0, v'0, v'0, v'0, v'0, v'0, v'0, v'0, v'0, v'0, v'0, v'0, v'0, v'0, v'0, v'0, v'0, v'0, v'0, v'0] v'0
def QINF (Z : State) (a1 : Addr) (h0 : Heap) (n0 : Nat) (v : Option Value) (h : Heap) (L : List Loc) : Prop := ∃ (b : Addr) (k : ClassId), v = none ∧ Fr n0 L ∧ Keep h0 h [a1] ∧ h0.size ≤ b ∧ F'3 Z h a1 (.ref b) ∧ F'2 Z h a1 v'1 ∧ F'4 Z h a1 v'0 ∧ F'5 Z h a1 v'0 ∧ Arv Z h b k .byte (32 : Int32) [v'0, v'0, v'0, v'0, v'0, v'0, v'0, v'0, v'0, v'0, v'0, v'0, v'0, v'0, v'0, v'0, v'0, v'0, v'0, v'0, v'0, v'0, v'0, v'0, v'0, v'0, v'0, v'0, v'0, v'0, v'0, v'0] v'0
def QGBL0 (Z : State) (d : Addr) (kd : ClassId)  (h0 : Heap) (n0 : Nat) (v : Option Value) (h : Heap) (L : List Loc) : Prop := v = none ∧ Fr n0 L ∧ Keep h0 h [d] ∧ Arv Z h d kd .byte (16 : Int32) [v'0, v'0, v'0, v'0, v'0, v'0, v'0, v'0, v'0, v'0, v'0, v'0, v'0, v'0, v'0, v'0] v'0
def QGBL1 (Z : State) (d : Addr) (kd : ClassId) (y0 : Int32) (h0 : Heap) (n0 : Nat) (v : Option Value) (h : Heap) (L : List Loc) : Prop := v = none ∧ Fr n0 L ∧ Keep h0 h [d] ∧ Arv Z h d kd .byte (16 : Int32) [(.int y0), v'0, v'0, v'0, v'0, v'0, v'0, v'0, v'0, v'0, v'0, v'0, v'0, v'0, v'0, v'0] v'0
def QGBL2 (Z : State) (d : Addr) (kd : ClassId) (y0 y1 : Int32) (h0 : Heap) (n0 : Nat) (v : Option Value) (h : Heap) (L : List Loc) : Prop := v = none ∧ Fr n0 L ∧ Keep h0 h [d] ∧ Arv Z h d kd .byte (16 : Int32) [(.int y0), (.int y1), v'0, v'0, v'0, v'0, v'0, v'0, v'0, v'0, v'0, v'0, v'0, v'0, v'0, v'0] v'0
def QGBL3 (Z : State) (d : Addr) (kd : ClassId) (y0 y1 y2 : Int32) (h0 : Heap) (n0 : Nat) (v : Option Value) (h : Heap) (L : List Loc) : Prop := v = none ∧ Fr n0 L ∧ Keep h0 h [d] ∧ Arv Z h d kd .byte (16 : Int32) [(.int y0), (.int y1), (.int y2), v'0, v'0, v'0, v'0, v'0, v'0, v'0, v'0, v'0, v'0, v'0, v'0, v'0] v'0
def QGBL4 (Z : State) (d : Addr) (kd : ClassId) (y0 y1 y2 y3 : Int32) (h0 : Heap) (n0 : Nat) (v : Option Value) (h : Heap) (L : List Loc) : Prop := v = none ∧ Fr n0 L ∧ Keep h0 h [d] ∧ Arv Z h d kd .byte (16 : Int32) [(.int y0), (.int y1), (.int y2), (.int y3), v'0, v'0, v'0, v'0, v'0, v'0, v'0, v'0, v'0, v'0, v'0, v'0] v'0
def QGBU1 (Z : State) (d : Addr) (kd : ClassId) (y0 y1 : Int32) (h0 : Heap) (n0 : Nat) (v : Option Value) (h : Heap) (L : List Loc) : Prop := v = none ∧ Fr n0 L ∧ Keep h0 h [d] ∧ Arv Z h d kd .byte (32 : Int32) [(.int y0), (.int y1), v'0, v'0, v'0, v'0, v'0, v'0, v'0, v'0, v'0, v'0, v'0, v'0, v'0, v'0, v'0, v'0, v'0, v'0, v'0, v'0, v'0, v'0, v'0, v'0, v'0, v'0, v'0, v'0, v'0, v'0] v'0
def QGBU2 (Z : State) (d : Addr) (kd : ClassId) (y0 y1 y2 y3 : Int32) (h0 : Heap) (n0 : Nat) (v : Option Value) (h : Heap) (L : List Loc) : Prop := v = none ∧ Fr n0 L ∧ Keep h0 h [d] ∧ Arv Z h d kd .byte (32 : Int32) [(.int y0), (.int y1), (.int y2), (.int y3), v'0, v'0, v'0, v'0, v'0, v'0, v'0, v'0, v'0, v'0, v'0, v'0, v'0, v'0, v'0, v'0, v'0, v'0, v'0, v'0, v'0, v'0, v'0, v'0, v'0, v'0, v'0, v'0] v'0
def QGBU3 (Z : State) (d : Addr) (kd : ClassId) (y0 y1 y2 y3 y4 y5 : Int32) (h0 : Heap) (n0 : Nat) (v : Option Value) (h : Heap) (L : List Loc) : Prop := v = none ∧ Fr n0 L ∧ Keep h0 h [d] ∧ Arv Z h d kd .byte (32 : Int32) [(.int y0), (.int y1), (.int y2), (.int y3), (.int y4), (.int y5), v'0, v'0, v'0, v'0, v'0, v'0, v'0, v'0, v'0, v'0, v'0, v'0, v'0, v'0, v'0, v'0, v'0, v'0, v'0, v'0, v'0, v'0, v'0, v'0, v'0, v'0] v'0
def QGBU4 (Z : State) (d : Addr) (kd : ClassId) (y0 y1 y2 y3 y4 y5 y6 y7 : Int32) (h0 : Heap) (n0 : Nat) (v : Option Value) (h : Heap) (L : List Loc) : Prop := v = none ∧ Fr n0 L ∧ Keep h0 h [d] ∧ Arv Z h d kd .byte (32 : Int32) [(.int y0), (.int y1), (.int y2), (.int y3), (.int y4), (.int y5), (.int y6), (.int y7), v'0, v'0, v'0, v'0, v'0, v'0, v'0, v'0, v'0, v'0, v'0, v'0, v'0, v'0, v'0, v'0, v'0, v'0, v'0, v'0, v'0, v'0, v'0, v'0] v'0
def QPSL0 (Z : State) (a1 v0 : Addr)  (h0 : Heap) (n0 : Nat) (v : Option Value) (h : Heap) (L : List Loc) : Prop := ∃ (b : Addr) (k : ClassId), v = none ∧ Fr n0 L ∧ Keep h0 h [a1, v0] ∧ n0 ≤ b ∧ a1 ≠ b ∧ F'3 Z h a1 (.ref b) ∧ F'2 Z h a1 v'0 ∧ F'4 Z h a1 v'0 ∧ F'5 Z h a1 v'0 ∧ Arv Z h b k .byte (16 : Int32) [v'0, v'0, v'0, v'0, v'0, v'0, v'0, v'0, v'0, v'0, v'0, v'0, v'0, v'0, v'0, v'0] v'0
def QAPL0 (Z : State) (a1 v0 : Addr)  (h0 : Heap) (n0 : Nat) (v : Option Value) (h : Heap) (L : List Loc) : Prop := ∃ (b : Addr) (k : ClassId), v = some (.ref a1) ∧ Fr n0 L ∧ Keep h0 h [a1, v0] ∧ n0 ≤ b ∧ a1 ≠ b ∧ F'3 Z h a1 (.ref b) ∧ F'2 Z h a1 v'0 ∧ F'4 Z h a1 v'0 ∧ F'5 Z h a1 v'0 ∧ Arv Z h b k .byte (16 : Int32) [v'0, v'0, v'0, v'0, v'0, v'0, v'0, v'0, v'0, v'0, v'0, v'0, v'0, v'0, v'0, v'0] v'0
def QPSL1 (Z : State) (a1 v0 : Addr) (y0 : Int32) (h0 : Heap) (n0 : Nat) (v : Option Value) (h : Heap) (L : List Loc) : Prop := ∃ (b : Addr) (k : ClassId), v = none ∧ Fr n0 L ∧ Keep h0 h [a1, v0] ∧ n0 ≤ b ∧ a1 ≠ b ∧ F'3 Z h a1 (.ref b) ∧ F'2 Z h a1 v'0 ∧ F'4 Z h a1 v'0 ∧ F'5 Z h a1 v'0 ∧ Arv Z h b k .byte (16 : Int32) [(.int y0), v'0, v'0, v'0, v'0, v'0, v'0, v'0, v'0, v'0, v'0, v'0, v'0, v'0, v'0, v'0] v'0
def QAPL1 (Z : State) (a1 v0 : Addr) (y0 : Int32) (h0 : Heap) (n0 : Nat) (v : Option Value) (h : Heap) (L : List Loc) : Prop := ∃ (b : Addr) (k : ClassId), v = some (.ref a1) ∧ Fr n0 L ∧ Keep h0 h [a1, v0] ∧ n0 ≤ b ∧ a1 ≠ b ∧ F'3 Z h a1 (.ref b) ∧ F'2 Z h a1 v'0 ∧ F'4 Z h a1 v'1 ∧ F'5 Z h a1 v'0 ∧ Arv Z h b k .byte (16 : Int32) [(.int y0), v'0, v'0, v'0, v'0, v'0, v'0, v'0, v'0, v'0, v'0, v'0, v'0, v'0, v'0, v'0] v'0
def QPSL2 (Z : State) (a1 v0 : Addr) (y0 y1 : Int32) (h0 : Heap) (n0 : Nat) (v : Option Value) (h : Heap) (L : List Loc) : Prop := ∃ (b : Addr) (k : ClassId), v = none ∧ Fr n0 L ∧ Keep h0 h [a1, v0] ∧ n0 ≤ b ∧ a1 ≠ b ∧ F'3 Z h a1 (.ref b) ∧ F'2 Z h a1 v'0 ∧ F'4 Z h a1 v'0 ∧ F'5 Z h a1 v'0 ∧ Arv Z h b k .byte (16 : Int32) [(.int y0), (.int y1), v'0, v'0, v'0, v'0, v'0, v'0, v'0, v'0, v'0, v'0, v'0, v'0, v'0, v'0] v'0
def QAPL2 (Z : State) (a1 v0 : Addr) (y0 y1 : Int32) (h0 : Heap) (n0 : Nat) (v : Option Value) (h : Heap) (L : List Loc) : Prop := ∃ (b : Addr) (k : ClassId), v = some (.ref a1) ∧ Fr n0 L ∧ Keep h0 h [a1, v0] ∧ n0 ≤ b ∧ a1 ≠ b ∧ F'3 Z h a1 (.ref b) ∧ F'2 Z h a1 v'0 ∧ F'4 Z h a1 v'2 ∧ F'5 Z h a1 v'0 ∧ Arv Z h b k .byte (16 : Int32) [(.int y0), (.int y1), v'0, v'0, v'0, v'0, v'0, v'0, v'0, v'0, v'0, v'0, v'0, v'0, v'0, v'0] v'0
def QPSL3 (Z : State) (a1 v0 : Addr) (y0 y1 y2 : Int32) (h0 : Heap) (n0 : Nat) (v : Option Value) (h : Heap) (L : List Loc) : Prop := ∃ (b : Addr) (k : ClassId), v = none ∧ Fr n0 L ∧ Keep h0 h [a1, v0] ∧ n0 ≤ b ∧ a1 ≠ b ∧ F'3 Z h a1 (.ref b) ∧ F'2 Z h a1 v'0 ∧ F'4 Z h a1 v'0 ∧ F'5 Z h a1 v'0 ∧ Arv Z h b k .byte (16 : Int32) [(.int y0), (.int y1), (.int y2), v'0, v'0, v'0, v'0, v'0, v'0, v'0, v'0, v'0, v'0, v'0, v'0, v'0] v'0
def QAPL3 (Z : State) (a1 v0 : Addr) (y0 y1 y2 : Int32) (h0 : Heap) (n0 : Nat) (v : Option Value) (h : Heap) (L : List Loc) : Prop := ∃ (b : Addr) (k : ClassId), v = some (.ref a1) ∧ Fr n0 L ∧ Keep h0 h [a1, v0] ∧ n0 ≤ b ∧ a1 ≠ b ∧ F'3 Z h a1 (.ref b) ∧ F'2 Z h a1 v'0 ∧ F'4 Z h a1 v'3 ∧ F'5 Z h a1 v'0 ∧ Arv Z h b k .byte (16 : Int32) [(.int y0), (.int y1), (.int y2), v'0, v'0, v'0, v'0, v'0, v'0, v'0, v'0, v'0, v'0, v'0, v'0, v'0] v'0
def QPSL4 (Z : State) (a1 v0 : Addr) (y0 y1 y2 y3 : Int32) (h0 : Heap) (n0 : Nat) (v : Option Value) (h : Heap) (L : List Loc) : Prop := ∃ (b : Addr) (k : ClassId), v = none ∧ Fr n0 L ∧ Keep h0 h [a1, v0] ∧ n0 ≤ b ∧ a1 ≠ b ∧ F'3 Z h a1 (.ref b) ∧ F'2 Z h a1 v'0 ∧ F'4 Z h a1 v'0 ∧ F'5 Z h a1 v'0 ∧ Arv Z h b k .byte (16 : Int32) [(.int y0), (.int y1), (.int y2), (.int y3), v'0, v'0, v'0, v'0, v'0, v'0, v'0, v'0, v'0, v'0, v'0, v'0] v'0
def QAPL4 (Z : State) (a1 v0 : Addr) (y0 y1 y2 y3 : Int32) (h0 : Heap) (n0 : Nat) (v : Option Value) (h : Heap) (L : List Loc) : Prop := ∃ (b : Addr) (k : ClassId), v = some (.ref a1) ∧ Fr n0 L ∧ Keep h0 h [a1, v0] ∧ n0 ≤ b ∧ a1 ≠ b ∧ F'3 Z h a1 (.ref b) ∧ F'2 Z h a1 v'0 ∧ F'4 Z h a1 v'4 ∧ F'5 Z h a1 v'0 ∧ Arv Z h b k .byte (16 : Int32) [(.int y0), (.int y1), (.int y2), (.int y3), v'0, v'0, v'0, v'0, v'0, v'0, v'0, v'0, v'0, v'0, v'0, v'0] v'0
def QPSU1 (Z : State) (a1 v0 : Addr) (y0 y1 : Int32) (h0 : Heap) (n0 : Nat) (v : Option Value) (h : Heap) (L : List Loc) : Prop := ∃ (b : Addr) (k : ClassId), v = none ∧ Fr n0 L ∧ Keep h0 h [a1, v0] ∧ n0 ≤ b ∧ a1 ≠ b ∧ F'3 Z h a1 (.ref b) ∧ F'2 Z h a1 v'1 ∧ F'4 Z h a1 v'0 ∧ F'5 Z h a1 v'0 ∧ Arv Z h b k .byte (32 : Int32) [(.int y0), (.int y1), v'0, v'0, v'0, v'0, v'0, v'0, v'0, v'0, v'0, v'0, v'0, v'0, v'0, v'0, v'0, v'0, v'0, v'0, v'0, v'0, v'0, v'0, v'0, v'0, v'0, v'0, v'0, v'0, v'0, v'0] v'0
def QAPU1 (Z : State) (a1 v0 : Addr) (y0 y1 : Int32) (h0 : Heap) (n0 : Nat) (v : Option Value) (h : Heap) (L : List Loc) : Prop := ∃ (b : Addr) (k : ClassId), v = some (.ref a1) ∧ Fr n0 L ∧ Keep h0 h [a1, v0] ∧ n0 ≤ b ∧ a1 ≠ b ∧ F'3 Z h a1 (.ref b) ∧ F'2 Z h a1 v'1 ∧ F'4 Z h a1 v'1 ∧ F'5 Z h a1 v'0 ∧ Arv Z h b k .byte (32 : Int32) [(.int y0), (.int y1), v'0, v'0, v'0, v'0, v'0, v'0, v'0, v'0, v'0, v'0, v'0, v'0, v'0, v'0, v'0, v'0, v'0, v'0, v'0, v'0, v'0, v'0, v'0, v'0, v'0, v'0, v'0, v'0, v'0, v'0] v'0
def QPSU2 (Z : State) (a1 v0 : Addr) (y0 y1 y2 y3 : Int32) (h0 : Heap) (n0 : Nat) (v : Option Value) (h : Heap) (L : List Loc) : Prop := ∃ (b : Addr) (k : ClassId), v = none ∧ Fr n0 L ∧ Keep h0 h [a1, v0] ∧ n0 ≤ b ∧ a1 ≠ b ∧ F'3 Z h a1 (.ref b) ∧ F'2 Z h a1 v'1 ∧ F'4 Z h a1 v'0 ∧ F'5 Z h a1 v'0 ∧ Arv Z h b k .byte (32 : Int32) [(.int y0), (.int y1), (.int y2), (.int y3), v'0, v'0, v'0, v'0, v'0, v'0, v'0, v'0, v'0, v'0, v'0, v'0, v'0, v'0, v'0, v'0, v'0, v'0, v'0, v'0, v'0, v'0, v'0, v'0, v'0, v'0, v'0, v'0] v'0
def QAPU2 (Z : State) (a1 v0 : Addr) (y0 y1 y2 y3 : Int32) (h0 : Heap) (n0 : Nat) (v : Option Value) (h : Heap) (L : List Loc) : Prop := ∃ (b : Addr) (k : ClassId), v = some (.ref a1) ∧ Fr n0 L ∧ Keep h0 h [a1, v0] ∧ n0 ≤ b ∧ a1 ≠ b ∧ F'3 Z h a1 (.ref b) ∧ F'2 Z h a1 v'1 ∧ F'4 Z h a1 v'2 ∧ F'5 Z h a1 v'0 ∧ Arv Z h b k .byte (32 : Int32) [(.int y0), (.int y1), (.int y2), (.int y3), v'0, v'0, v'0, v'0, v'0, v'0, v'0, v'0, v'0, v'0, v'0, v'0, v'0, v'0, v'0, v'0, v'0, v'0, v'0, v'0, v'0, v'0, v'0, v'0, v'0, v'0, v'0, v'0] v'0
def QPSU3 (Z : State) (a1 v0 : Addr) (y0 y1 y2 y3 y4 y5 : Int32) (h0 : Heap) (n0 : Nat) (v : Option Value) (h : Heap) (L : List Loc) : Prop := ∃ (b : Addr) (k : ClassId), v = none ∧ Fr n0 L ∧ Keep h0 h [a1, v0] ∧ n0 ≤ b ∧ a1 ≠ b ∧ F'3 Z h a1 (.ref b) ∧ F'2 Z h a1 v'1 ∧ F'4 Z h a1 v'0 ∧ F'5 Z h a1 v'0 ∧ Arv Z h b k .byte (32 : Int32) [(.int y0), (.int y1), (.int y2), (.int y3), (.int y4), (.int y5), v'0, v'0, v'0, v'0, v'0, v'0, v'0, v'0, v'0, v'0, v'0, v'0, v'0, v'0, v'0, v'0, v'0, v'0, v'0, v'0, v'0, v'0, v'0, v'0, v'0, v'0] v'0
def QAPU3 (Z : State) (a1 v0 : Addr) (y0 y1 y2 y3 y4 y5 : Int32) (h0 : Heap) (n0 : Nat) (v : Option Value) (h : Heap) (L : List Loc) : Prop := ∃ (b : Addr) (k : ClassId), v = some (.ref a1) ∧ Fr n0 L ∧ Keep h0 h [a1, v0] ∧ n0 ≤ b ∧ a1 ≠ b ∧ F'3 Z h a1 (.ref b) ∧ F'2 Z h a1 v'1 ∧ F'4 Z h a1 v'3 ∧ F'5 Z h a1 v'0 ∧ Arv Z h b k .byte (32 : Int32) [(.int y0), (.int y1), (.int y2), (.int y3), (.int y4), (.int y5), v'0, v'0, v'0, v'0, v'0, v'0, v'0, v'0, v'0, v'0, v'0, v'0, v'0, v'0, v'0, v'0, v'0, v'0, v'0, v'0, v'0, v'0, v'0, v'0, v'0, v'0] v'0
def QPSU4 (Z : State) (a1 v0 : Addr) (y0 y1 y2 y3 y4 y5 y6 y7 : Int32) (h0 : Heap) (n0 : Nat) (v : Option Value) (h : Heap) (L : List Loc) : Prop := ∃ (b : Addr) (k : ClassId), v = none ∧ Fr n0 L ∧ Keep h0 h [a1, v0] ∧ n0 ≤ b ∧ a1 ≠ b ∧ F'3 Z h a1 (.ref b) ∧ F'2 Z h a1 v'1 ∧ F'4 Z h a1 v'0 ∧ F'5 Z h a1 v'0 ∧ Arv Z h b k .byte (32 : Int32) [(.int y0), (.int y1), (.int y2), (.int y3), (.int y4), (.int y5), (.int y6), (.int y7), v'0, v'0, v'0, v'0, v'0, v'0, v'0, v'0, v'0, v'0, v'0, v'0, v'0, v'0, v'0, v'0, v'0, v'0, v'0, v'0, v'0, v'0, v'0, v'0] v'0
def QAPU4 (Z : State) (a1 v0 : Addr) (y0 y1 y2 y3 y4 y5 y6 y7 : Int32) (h0 : Heap) (n0 : Nat) (v : Option Value) (h : Heap) (L : List Loc) : Prop := ∃ (b : Addr) (k : ClassId), v = some (.ref a1) ∧ Fr n0 L ∧ Keep h0 h [a1, v0] ∧ n0 ≤ b ∧ a1 ≠ b ∧ F'3 Z h a1 (.ref b) ∧ F'2 Z h a1 v'1 ∧ F'4 Z h a1 v'4 ∧ F'5 Z h a1 v'0 ∧ Arv Z h b k .byte (32 : Int32) [(.int y0), (.int y1), (.int y2), (.int y3), (.int y4), (.int y5), (.int y6), (.int y7), v'0, v'0, v'0, v'0, v'0, v'0, v'0, v'0, v'0, v'0, v'0, v'0, v'0, v'0, v'0, v'0, v'0, v'0, v'0, v'0, v'0, v'0, v'0, v'0] v'0
def QSVL0 (Z : State) (a1 : Addr)  (h0 : Heap) (n0 : Nat) (v : Option Value) (h : Heap) (L : List Loc) : Prop := ∃ (t : Addr) (k : ClassId), v = none ∧ Fr n0 L ∧ Keep h0 h [a1] ∧ h0.size ≤ t ∧ F'0 Z h a1 v'0 ∧ F'1 Z h a1 (.ref t) ∧ Arv Z h t k .byte (0 : Int32) [] v'0
def QTSL0 (Z : State)  (h0 : Heap) (n0 : Nat) (v : Option Value) (h : Heap) (L : List Loc) : Prop := ∃ (x t : Addr) (k : ClassId), v = some (.ref x) ∧ Fr n0 L ∧ Ext h0 h ∧ h0.size ≤ x ∧ h0.size ≤ t ∧ Exa Z h x "java/lang/String" ∧ F'0 Z h x v'0 ∧ F'1 Z h x (.ref t) ∧ Arv Z h t k .byte (0 : Int32) [] v'0
def QSVL1 (Z : State) (a1 : Addr) (y0 : Int32) (h0 : Heap) (n0 : Nat) (v : Option Value) (h : Heap) (L : List Loc) : Prop := ∃ (t : Addr) (k : ClassId), v = none ∧ Fr n0 L ∧ Keep h0 h [a1] ∧ h0.size ≤ t ∧ F'0 Z h a1 v'0 ∧ F'1 Z h a1 (.ref t) ∧ Arv Z h t k .byte (1 : Int32) [(.int y0)] v'0
def QTSL1 (Z : State) (y0 : Int32) (h0 : Heap) (n0 : Nat) (v : Option Value) (h : Heap) (L : List Loc) : Prop := ∃ (x t : Addr) (k : ClassId), v = some (.ref x) ∧ Fr n0 L ∧ Ext h0 h ∧ h0.size ≤ x ∧ h0.size ≤ t ∧ Exa Z h x "java/lang/String" ∧ F'0 Z h x v'0 ∧ F'1 Z h x (.ref t) ∧ Arv Z h t k .byte (1 : Int32) [(.int y0)] v'0
def QSVL2 (Z : State) (a1 : Addr) (y0 y1 : Int32) (h0 : Heap) (n0 : Nat) (v : Option Value) (h : Heap) (L : List Loc) : Prop := ∃ (t : Addr) (k : ClassId), v = none ∧ Fr n0 L ∧ Keep h0 h [a1] ∧ h0.size ≤ t ∧ F'0 Z h a1 v'0 ∧ F'1 Z h a1 (.ref t) ∧ Arv Z h t k .byte (2 : Int32) [(.int y0), (.int y1)] v'0
def QTSL2 (Z : State) (y0 y1 : Int32) (h0 : Heap) (n0 : Nat) (v : Option Value) (h : Heap) (L : List Loc) : Prop := ∃ (x t : Addr) (k : ClassId), v = some (.ref x) ∧ Fr n0 L ∧ Ext h0 h ∧ h0.size ≤ x ∧ h0.size ≤ t ∧ Exa Z h x "java/lang/String" ∧ F'0 Z h x v'0 ∧ F'1 Z h x (.ref t) ∧ Arv Z h t k .byte (2 : Int32) [(.int y0), (.int y1)] v'0
def QSVL3 (Z : State) (a1 : Addr) (y0 y1 y2 : Int32) (h0 : Heap) (n0 : Nat) (v : Option Value) (h : Heap) (L : List Loc) : Prop := ∃ (t : Addr) (k : ClassId), v = none ∧ Fr n0 L ∧ Keep h0 h [a1] ∧ h0.size ≤ t ∧ F'0 Z h a1 v'0 ∧ F'1 Z h a1 (.ref t) ∧ Arv Z h t k .byte (3 : Int32) [(.int y0), (.int y1), (.int y2)] v'0
def QTSL3 (Z : State) (y0 y1 y2 : Int32) (h0 : Heap) (n0 : Nat) (v : Option Value) (h : Heap) (L : List Loc) : Prop := ∃ (x t : Addr) (k : ClassId), v = some (.ref x) ∧ Fr n0 L ∧ Ext h0 h ∧ h0.size ≤ x ∧ h0.size ≤ t ∧ Exa Z h x "java/lang/String" ∧ F'0 Z h x v'0 ∧ F'1 Z h x (.ref t) ∧ Arv Z h t k .byte (3 : Int32) [(.int y0), (.int y1), (.int y2)] v'0
def QSVL4 (Z : State) (a1 : Addr) (y0 y1 y2 y3 : Int32) (h0 : Heap) (n0 : Nat) (v : Option Value) (h : Heap) (L : List Loc) : Prop := ∃ (t : Addr) (k : ClassId), v = none ∧ Fr n0 L ∧ Keep h0 h [a1] ∧ h0.size ≤ t ∧ F'0 Z h a1 v'0 ∧ F'1 Z h a1 (.ref t) ∧ Arv Z h t k .byte (4 : Int32) [(.int y0), (.int y1), (.int y2), (.int y3)] v'0
def QTSL4 (Z : State) (y0 y1 y2 y3 : Int32) (h0 : Heap) (n0 : Nat) (v : Option Value) (h : Heap) (L : List Loc) : Prop := ∃ (x t : Addr) (k : ClassId), v = some (.ref x) ∧ Fr n0 L ∧ Ext h0 h ∧ h0.size ≤ x ∧ h0.size ≤ t ∧ Exa Z h x "java/lang/String" ∧ F'0 Z h x v'0 ∧ F'1 Z h x (.ref t) ∧ Arv Z h t k .byte (4 : Int32) [(.int y0), (.int y1), (.int y2), (.int y3)] v'0
def QSVU1 (Z : State) (a1 : Addr) (y0 y1 : Int32) (h0 : Heap) (n0 : Nat) (v : Option Value) (h : Heap) (L : List Loc) : Prop := ∃ (t : Addr) (k : ClassId), v = none ∧ Fr n0 L ∧ Keep h0 h [a1] ∧ h0.size ≤ t ∧ F'0 Z h a1 v'1 ∧ F'1 Z h a1 (.ref t) ∧ Arv Z h t k .byte (2 : Int32) [(.int y0), (.int y1)] v'0
def QTSU1 (Z : State) (y0 y1 : Int32) (h0 : Heap) (n0 : Nat) (v : Option Value) (h : Heap) (L : List Loc) : Prop := ∃ (x t : Addr) (k : ClassId), v = some (.ref x) ∧ Fr n0 L ∧ Ext h0 h ∧ h0.size ≤ x ∧ h0.size ≤ t ∧ Exa Z h x "java/lang/String" ∧ F'0 Z h x v'1 ∧ F'1 Z h x (.ref t) ∧ Arv Z h t k .byte (2 : Int32) [(.int y0), (.int y1)] v'0
def QSVU2 (Z : State) (a1 : Addr) (y0 y1 y2 y3 : Int32) (h0 : Heap) (n0 : Nat) (v : Option Value) (h : Heap) (L : List Loc) : Prop := ∃ (t : Addr) (k : ClassId), v = none ∧ Fr n0 L ∧ Keep h0 h [a1] ∧ h0.size ≤ t ∧ F'0 Z h a1 v'1 ∧ F'1 Z h a1 (.ref t) ∧ Arv Z h t k .byte (4 : Int32) [(.int y0), (.int y1), (.int y2), (.int y3)] v'0
def QTSU2 (Z : State) (y0 y1 y2 y3 : Int32) (h0 : Heap) (n0 : Nat) (v : Option Value) (h : Heap) (L : List Loc) : Prop := ∃ (x t : Addr) (k : ClassId), v = some (.ref x) ∧ Fr n0 L ∧ Ext h0 h ∧ h0.size ≤ x ∧ h0.size ≤ t ∧ Exa Z h x "java/lang/String" ∧ F'0 Z h x v'1 ∧ F'1 Z h x (.ref t) ∧ Arv Z h t k .byte (4 : Int32) [(.int y0), (.int y1), (.int y2), (.int y3)] v'0
def QSVU3 (Z : State) (a1 : Addr) (y0 y1 y2 y3 y4 y5 : Int32) (h0 : Heap) (n0 : Nat) (v : Option Value) (h : Heap) (L : List Loc) : Prop := ∃ (t : Addr) (k : ClassId), v = none ∧ Fr n0 L ∧ Keep h0 h [a1] ∧ h0.size ≤ t ∧ F'0 Z h a1 v'1 ∧ F'1 Z h a1 (.ref t) ∧ Arv Z h t k .byte (6 : Int32) [(.int y0), (.int y1), (.int y2), (.int y3), (.int y4), (.int y5)] v'0
def QTSU3 (Z : State) (y0 y1 y2 y3 y4 y5 : Int32) (h0 : Heap) (n0 : Nat) (v : Option Value) (h : Heap) (L : List Loc) : Prop := ∃ (x t : Addr) (k : ClassId), v = some (.ref x) ∧ Fr n0 L ∧ Ext h0 h ∧ h0.size ≤ x ∧ h0.size ≤ t ∧ Exa Z h x "java/lang/String" ∧ F'0 Z h x v'1 ∧ F'1 Z h x (.ref t) ∧ Arv Z h t k .byte (6 : Int32) [(.int y0), (.int y1), (.int y2), (.int y3), (.int y4), (.int y5)] v'0
def QSVU4 (Z : State) (a1 : Addr) (y0 y1 y2 y3 y4 y5 y6 y7 : Int32) (h0 : Heap) (n0 : Nat) (v : Option Value) (h : Heap) (L : List Loc) : Prop := ∃ (t : Addr) (k : ClassId), v = none ∧ Fr n0 L ∧ Keep h0 h [a1] ∧ h0.size ≤ t ∧ F'0 Z h a1 v'1 ∧ F'1 Z h a1 (.ref t) ∧ Arv Z h t k .byte (8 : Int32) [(.int y0), (.int y1), (.int y2), (.int y3), (.int y4), (.int y5), (.int y6), (.int y7)] v'0
def QTSU4 (Z : State) (y0 y1 y2 y3 y4 y5 y6 y7 : Int32) (h0 : Heap) (n0 : Nat) (v : Option Value) (h : Heap) (L : List Loc) : Prop := ∃ (x t : Addr) (k : ClassId), v = some (.ref x) ∧ Fr n0 L ∧ Ext h0 h ∧ h0.size ≤ x ∧ h0.size ≤ t ∧ Exa Z h x "java/lang/String" ∧ F'0 Z h x v'1 ∧ F'1 Z h x (.ref t) ∧ Arv Z h t k .byte (8 : Int32) [(.int y0), (.int y1), (.int y2), (.int y3), (.int y4), (.int y5), (.int y6), (.int y7)] v'0
def QC6 (Z : State) (a1 : Addr) (a4 : Addr)  (h0 : Heap) (n0 : Nat) (v : Option Value) (h : Heap) (L : List Loc) : Prop := v = none ∧ Fr n0 L ∧ Keep h0 h [a1] ∧ F'8 Z h a1 .null ∧ F'9 Z h a1 .null ∧ F'6 Z h a1 (.ref a4) ∧ F'7 Z h a1 .null
def QOP (Z : State) (a1 : Addr) (h0 : Heap) (n0 : Nat) (v : Option Value) (h : Heap) (L : List Loc) : Prop := ∃ u : Addr, v = some (.ref u) ∧ Fr n0 L ∧ Ext h0 h ∧ h0.size ≤ u ∧ Exa Z h u "com/example/wolf_spider/wolfspider/Url" ∧ F'8 Z h u .null ∧ F'9 Z h u .null ∧ F'6 Z h u (.ref a1) ∧ F'7 Z h u .null
def QMK0 (Z : State)  (h0 : Heap) (n0 : Nat) (v : Option Value) (h : Heap) (L : List Loc) : Prop := ∃ (x t : Addr) (k : ClassId), v = some (.ref x) ∧ Fr n0 L ∧ Ext h0 h ∧ h0.size ≤ x ∧ Exa Z h x "java/lang/String" ∧ F'1 Z h x (.ref t) ∧ (F'0 Z h x v'0 ∧ Arv Z h t k .byte (0 : Int32) [] v'0)
def QMK1 (Z : State) (p2 : Int32) (h0 : Heap) (n0 : Nat) (v : Option Value) (h : Heap) (L : List Loc) : Prop := ∃ (x t : Addr) (k : ClassId), v = some (.ref x) ∧ Fr n0 L ∧ Ext h0 h ∧ h0.size ≤ x ∧ Exa Z h x "java/lang/String" ∧ F'1 Z h x (.ref t) ∧ ((F'0 Z h x v'0 ∧ Arv Z h t k .byte (1 : Int32) [(.int (nar .byte ((nar .char p2).toInt8.toInt32)))] v'0) ∨ (F'0 Z h x v'1 ∧ Arv Z h t k .byte (2 : Int32) [(.int (nar .byte (((nar .char p2) >>> ((0 : Int32) &&& 31)).toInt8.toInt32))), (.int (nar .byte (((nar .char p2) >>> ((8 : Int32) &&& 31)).toInt8.toInt32)))] v'0))
def QMK2 (Z : State) (p2 p3 : Int32) (h0 : Heap) (n0 : Nat) (v : Option Value) (h : Heap) (L : List Loc) : Prop := ∃ (x t : Addr) (k : ClassId), v = some (.ref x) ∧ Fr n0 L ∧ Ext h0 h ∧ h0.size ≤ x ∧ Exa Z h x "java/lang/String" ∧ F'1 Z h x (.ref t) ∧ ((F'0 Z h x v'0 ∧ Arv Z h t k .byte (2 : Int32) [(.int (nar .byte ((nar .char p2).toInt8.toInt32))), (.int (nar .byte ((nar .char p3).toInt8.toInt32)))] v'0) ∨ (F'0 Z h x v'1 ∧ Arv Z h t k .byte (4 : Int32) [(.int (nar .byte (((nar .char p2) >>> ((0 : Int32) &&& 31)).toInt8.toInt32))), (.int (nar .byte (((nar .char p2) >>> ((8 : Int32) &&& 31)).toInt8.toInt32))), (.int (nar .byte (((nar .char p3) >>> ((0 : Int32) &&& 31)).toInt8.toInt32))), (.int (nar .byte (((nar .char p3) >>> ((8 : Int32) &&& 31)).toInt8.toInt32)))] v'0))
def QMK3 (Z : State) (p2 p3 p4 : Int32) (h0 : Heap) (n0 : Nat) (v : Option Value) (h : Heap) (L : List Loc) : Prop := ∃ (x t : Addr) (k : ClassId), v = some (.ref x) ∧ Fr n0 L ∧ Ext h0 h ∧ h0.size ≤ x ∧ Exa Z h x "java/lang/String" ∧ F'1 Z h x (.ref t) ∧ ((F'0 Z h x v'0 ∧ Arv Z h t k .byte (3 : Int32) [(.int (nar .byte ((nar .char p2).toInt8.toInt32))), (.int (nar .byte ((nar .char p3).toInt8.toInt32))), (.int (nar .byte ((nar .char p4).toInt8.toInt32)))] v'0) ∨ (F'0 Z h x v'1 ∧ Arv Z h t k .byte (6 : Int32) [(.int (nar .byte (((nar .char p2) >>> ((0 : Int32) &&& 31)).toInt8.toInt32))), (.int (nar .byte (((nar .char p2) >>> ((8 : Int32) &&& 31)).toInt8.toInt32))), (.int (nar .byte (((nar .char p3) >>> ((0 : Int32) &&& 31)).toInt8.toInt32))), (.int (nar .byte (((nar .char p3) >>> ((8 : Int32) &&& 31)).toInt8.toInt32))), (.int (nar .byte (((nar .char p4) >>> ((0 : Int32) &&& 31)).toInt8.toInt32))), (.int (nar .byte (((nar .char p4) >>> ((8 : Int32) &&& 31)).toInt8.toInt32)))] v'0))
def QMK4 (Z : State) (p2 p3 p4 p5 : Int32) (h0 : Heap) (n0 : Nat) (v : Option Value) (h : Heap) (L : List Loc) : Prop := ∃ (x t : Addr) (k : ClassId), v = some (.ref x) ∧ Fr n0 L ∧ Ext h0 h ∧ h0.size ≤ x ∧ Exa Z h x "java/lang/String" ∧ F'1 Z h x (.ref t) ∧ ((F'0 Z h x v'0 ∧ Arv Z h t k .byte (4 : Int32) [(.int (nar .byte ((nar .char p2).toInt8.toInt32))), (.int (nar .byte ((nar .char p3).toInt8.toInt32))), (.int (nar .byte ((nar .char p4).toInt8.toInt32))), (.int (nar .byte ((nar .char p5).toInt8.toInt32)))] v'0) ∨ (F'0 Z h x v'1 ∧ Arv Z h t k .byte (8 : Int32) [(.int (nar .byte (((nar .char p2) >>> ((0 : Int32) &&& 31)).toInt8.toInt32))), (.int (nar .byte (((nar .char p2) >>> ((8 : Int32) &&& 31)).toInt8.toInt32))), (.int (nar .byte (((nar .char p3) >>> ((0 : Int32) &&& 31)).toInt8.toInt32))), (.int (nar .byte (((nar .char p3) >>> ((8 : Int32) &&& 31)).toInt8.toInt32))), (.int (nar .byte (((nar .char p4) >>> ((0 : Int32) &&& 31)).toInt8.toInt32))), (.int (nar .byte (((nar .char p4) >>> ((8 : Int32) &&& 31)).toInt8.toInt32))), (.int (nar .byte (((nar .char p5) >>> ((0 : Int32) &&& 31)).toInt8.toInt32))), (.int (nar .byte (((nar .char p5) >>> ((8 : Int32) &&& 31)).toInt8.toInt32)))] v'0))
def Q0 (n0 : Nat) (v : Option Value) (h : Heap) (L : List Loc) : Prop := v = some (.int 1) ∧ Fr n0 L
theorem own_pd0 : parseMethodDescriptor "(I)I" = some ⟨[.int], some .int⟩ := by decide +kernel
theorem own_pd1 : parseMethodDescriptor "(I)[B" = some ⟨[.int], some (.array .byte)⟩ := by decide +kernel
theorem own_pd2 : parseMethodDescriptor "([BII)V" = some ⟨[(.array .byte), .int, .int], none⟩ := by decide +kernel
theorem own_pd3 : parseMethodDescriptor "([CI[BII)I" = some ⟨[(.array .char), .int, (.array .byte), .int, .int], some .int⟩ := by decide +kernel
theorem own_pd4 : parseMethodDescriptor "([CII)[B" = some ⟨[(.array .char), .int, .int], some (.array .byte)⟩ := by decide +kernel
theorem own_pd5 : parseMethodDescriptor "([BI)C" = some ⟨[(.array .byte), .int], some .char⟩ := by decide +kernel
theorem own_pd6 : parseMethodDescriptor "([BI)B" = some ⟨[(.array .byte), .int], some .byte⟩ := by decide +kernel
theorem own_pd7 : parseMethodDescriptor "([CIILjava/lang/Void;)V" = some ⟨[(.array .char), .int, .int, (.object "java/lang/Void")], none⟩ := by decide +kernel
theorem own_pd8 : parseMethodDescriptor "(I)V" = some ⟨[.int], none⟩ := by decide +kernel
theorem own_pd9 : parseMethodDescriptor "()I" = some ⟨[], some .int⟩ := by decide +kernel
theorem own_pd10 : parseMethodDescriptor "(II)V" = some ⟨[.int, .int], none⟩ := by decide +kernel
theorem own_pd11 : parseMethodDescriptor "(II)I" = some ⟨[.int, .int], some .int⟩ := by decide +kernel
theorem own_pd12 : parseMethodDescriptor "([BII)[B" = some ⟨[(.array .byte), .int, .int], some (.array .byte)⟩ := by decide +kernel
theorem own_pd13 : parseMethodDescriptor "(IIILjava/util/function/BiFunction;)I" = some ⟨[.int, .int, .int, (.object "java/util/function/BiFunction")], some .int⟩ := by decide +kernel
theorem own_pd14 : parseMethodDescriptor "([B)I" = some ⟨[(.array .byte)], some .int⟩ := by decide +kernel
theorem own_pd15 : parseMethodDescriptor "(III)I" = some ⟨[.int, .int, .int], some .int⟩ := by decide +kernel
theorem own_pd16 : parseMethodDescriptor "(II[B)V" = some ⟨[.int, .int, (.array .byte)], none⟩ := by decide +kernel
theorem own_pd17 : parseMethodDescriptor "([BI[BII)V" = some ⟨[(.array .byte), .int, (.array .byte), .int, .int], none⟩ := by decide +kernel
theorem own_pd18 : parseMethodDescriptor "()Z" = some ⟨[], some .boolean⟩ := by decide +kernel
theorem own_pd19 : parseMethodDescriptor "()B" = some ⟨[], some .byte⟩ := by decide +kernel
theorem own_pd20 : parseMethodDescriptor "()V" = some ⟨[], none⟩ := by decide +kernel
theorem own_pd21 : parseMethodDescriptor "(Ljava/lang/String;)V" = some ⟨[(.object "java/lang/String")], none⟩ := by decide +kernel
theorem own_pd22 : parseMethodDescriptor "([BIB)V" = some ⟨[(.array .byte), .int, .byte], none⟩ := by decide +kernel
theorem own_pd23 : parseMethodDescriptor "(ILjava/lang/String;)V" = some ⟨[.int, (.object "java/lang/String")], none⟩ := by decide +kernel
theorem own_pd24 : parseMethodDescriptor "(Ljava/lang/String;)Ljava/lang/AbstractStringBuilder;" = some ⟨[(.object "java/lang/String")], some (.object "java/lang/AbstractStringBuilder")⟩ := by decide +kernel
theorem own_pd25 : parseMethodDescriptor "()[B" = some ⟨[], some (.array .byte)⟩ := by decide +kernel
theorem own_pd26 : parseMethodDescriptor "(Ljava/lang/AbstractStringBuilder;Ljava/lang/Void;)V" = some ⟨[(.object "java/lang/AbstractStringBuilder"), (.object "java/lang/Void")], none⟩ := by decide +kernel
theorem own_pd27 : parseMethodDescriptor "(Ljava/lang/StringBuilder;)V" = some ⟨[(.object "java/lang/StringBuilder")], none⟩ := by decide +kernel
theorem own_pd28 : parseMethodDescriptor "(Ljava/lang/String;Ljava/lang/String;Ljava/lang/String;Ljava/lang/String;)V" = some ⟨[(.object "java/lang/String"), (.object "java/lang/String"), (.object "java/lang/String"), (.object "java/lang/String")], none⟩ := by decide +kernel
theorem own_pd29 : parseMethodDescriptor "(Ljava/lang/String;)Ljava/lang/StringBuilder;" = some ⟨[(.object "java/lang/String")], some (.object "java/lang/StringBuilder")⟩ := by decide +kernel
theorem own_pd30 : parseMethodDescriptor "()Ljava/lang/String;" = some ⟨[], some (.object "java/lang/String")⟩ := by decide +kernel
theorem own_pd31 : parseMethodDescriptor "([B[B)Z" = some ⟨[(.array .byte), (.array .byte)], some .boolean⟩ := by decide +kernel
theorem own_pd32 : parseMethodDescriptor "([C)V" = some ⟨[(.array .char)], none⟩ := by decide +kernel
theorem own_pd33 : parseMethodDescriptor "(ICCCC)Ljava/lang/String;" = some ⟨[.int, .char, .char, .char, .char], some (.object "java/lang/String")⟩ := by decide +kernel
theorem own_pd34 : parseMethodDescriptor "(Ljava/lang/String;)Lcom/example/wolf_spider/wolfspider/Url;" = some ⟨[(.object "java/lang/String")], some (.object "com/example/wolf_spider/wolfspider/Url")⟩ := by decide +kernel
theorem own_pd35 : parseMethodDescriptor "(Ljava/lang/Object;)Z" = some ⟨[(.object "java/lang/Object")], some .boolean⟩ := by decide +kernel
theorem d38_0 : own_D b'38 0 (.iload_n 0) 1 1 := by decide +kernel
theorem d38_1 : own_DZ b'38 1 .ge 12 4 := by decide +kernel
theorem d38_12 : own_D b'38 12 (.iload_n 0) 1 13 := by decide +kernel
theorem d38_13 : own_D b'38 13 (.ldc 20) 2 15 := by decide +kernel
theorem d38_15 : own_DJ b'38 15 .lt 55 18 := by decide +kernel
theorem d38_55 : own_D b'38 55 (.iload_n 0) 1 56 := by decide +kernel
theorem d38_56 : own_DK b'38 56 1 57 := by decide +kernel
theorem d38_57 : own_D b'38 57 .ishl 1 58 := by decide +kernel
theorem d38_58 : own_D b'38 58 .ireturn 1 59 := by decide +kernel
theorem pn_38 : plainFor (⟨"java/lang/StringUTF16", "newBytesLength", "(I)I"⟩ : MethodName) = true := plainFor_of_name (by first | (simp [plainName, overriddenIn]; done) | decide +kernel)
theorem rm38 (l : Launch) (Z : State) (a0 : Array Value) (hw : own_hw a0 Z) (p1 : Int32) (z : Int32) (h0 : Heap) (n0 : Nat) (Z0 : n0 ≤ h0.size) (h0_ : ¬ p1 < (0 : Int32)) (h1_ : p1 < (1073741823 : Int32)) (hz : p1 <<< ((1 : Int32) &&& 31) = z) :
  own_M l Z [] own_y0 b'38 1 (some .int) ⟨0, 0, 0, 0⟩ #[(.int p1)] h0 (QI z h0 n0) := by
 refine own_start (n0 := n0) hw "java/lang/StringUTF16" (L := #[.val (.int p1)]) pn_38 (fun {p e s m below meth c s₁} q hx W hml hZ hown hnm hlk hrt X0 e0 N0 => ?_)
 refine own_iln X0 q d38_0 rfl (own_zy X0 q d38_1 (((if0 _ _).trans (flt (h0_ : ¬ (p1 < (0 : Int32)))).2.1)) (own_iln X0 q d38_12 rfl (own_stq 15 [(.int (1073741823 : Int32)), (.int p1)] (fun _ k => X0.ldcInt hx hown (mvT hZ (W 201 rfl)) (g := mkF m 13 _ _) rfl (q.d d38_13) _ k) (own_cy X0 q d38_15 ((tlt (h1_ : p1 < (1073741823 : Int32))).1) (own_iln X0 q d38_55 rfl (own_k X0 q d38_56 (own_stp 58 (fun _ k => XS.ishl X0.here hx rfl (q.d d38_57) rfl k) ?_)))))))
 refine own_rI X0 q hrt d38_58 hlk (by decide) ?_
 show QI z h0 n0 _ s₁.heap _
 rw [e0]
 exact ⟨by rw [← hz], N0, rfl⟩
theorem d34_0 : own_DK b'34 0 0 1 := by decide +kernel
theorem d34_1 : own_D b'34 1 (.istore 5) 2 3 := by decide +kernel
theorem d34_3 : own_D b'34 3 (.iload 5) 2 5 := by decide +kernel
theorem d34_5 : own_D b'34 5 (.iload 4) 2 7 := by decide +kernel
theorem d34_7 : own_DJ b'34 7 .ge 44 10 := by decide +kernel
theorem d34_10 : own_D b'34 10 (.aload_n 0) 1 11 := by decide +kernel
theorem d34_11 : own_D b'34 11 (.iload_n 1) 1 12 := by decide +kernel
theorem d34_12 : own_D b'34 12 .caload 1 13 := by decide +kernel
theorem d34_13 : own_D b'34 13 (.istore 6) 2 15 := by decide +kernel
theorem d34_15 : own_D b'34 15 (.iload 6) 2 17 := by decide +kernel
theorem d34_17 : own_DK b'34 17 255 20 := by decide +kernel
theorem d34_20 : own_DJ b'34 20 .le 26 23 := by decide +kernel
theorem d34_23 : own_D b'34 23 (.iload 5) 2 25 := by decide +kernel
theorem d34_25 : own_D b'34 25 .ireturn 1 26 := by decide +kernel
theorem d34_26 : own_D b'34 26 (.aload_n 2) 1 27 := by decide +kernel
theorem d34_27 : own_D b'34 27 (.iload_n 3) 1 28 := by decide +kernel
theorem d34_28 : own_D b'34 28 (.iload 6) 2 30 := by decide +kernel
theorem d34_30 : own_D b'34 30 .i2b 1 31 := by decide +kernel
theorem d34_31 : own_D b'34 31 .bastore 1 32 := by decide +kernel
theorem d34_32 : own_DI b'34 32 1 1 35 := by decide +kernel
theorem d34_35 : own_DI b'34 35 3 1 38 := by decide +kernel
theorem d34_38 : own_DI b'34 38 5 1 41 := by decide +kernel
theorem d34_41 : own_DG b'34 41 3 := by decide +kernel
theorem d34_44 : own_D b'34 44 (.iload 4) 2 46 := by decide +kernel
theorem d34_46 : own_D b'34 46 .ireturn 1 47 := by decide +kernel
theorem pn_34 : plainFor (⟨"java/lang/StringUTF16", "compress", "([CI[BII)I"⟩ : MethodName) = true := plainFor_of_name (by first | (simp [plainName, overriddenIn]; done) | decide +kernel)
theorem rm34_1 (l : Launch) (Z : State) (a0 : Array Value) (hw : own_hw a0 Z) (a1 : Addr) (b : Addr) (k1 k2 : ClassId) (x0 : Int32) (h0 : Heap) (n0 : Nat) (Z0 : n0 ≤ h0.size) (VA : Arv Z h0 a1 k1 .char (1 : Int32) [(.int x0)] v'0) (VB : Arv Z h0 b k2 .byte (1 : Int32) [v'0] v'0) (gb : n0 ≤ b) (nab : a1 ≠ b) :
  own_M l Z [] own_y1 b'34 7 (some .int) ⟨0, 0, 0, 0⟩ #[(.ref a1), v'0, (.ref b), v'0, v'1] h0 (QC1a Z b k2 x0 h0 n0) := by
 refine own_start (n0 := n0) hw "java/lang/StringUTF16" (L := #[.val (.ref a1), .val v'0, .val (.ref b), .val v'0, .val v'1, .unset, .unset]) pn_34 (fun {p e s m below meth c s₁} q hx W hml hZ hown hnm hlk hrt X0 e0 N0 => ?_)
 have kp0 := Keep.refl h0 [b]
 refine own_k X0 q d34_0 (own_is X0 q d34_1 (l' := #[.val (.ref a1), .val v'0, .val (.ref b), .val v'0, .val v'1, .val v'0, .unset]) rfl (own_il X0 q d34_3 rfl (own_il X0 q d34_5 rfl (own_cn X0 q d34_7 ((tlt ((by decide) : (0 : Int32) < (1 : Int32))).2.1) (own_aln X0 q d34_10 rfl rfl (own_iln X0 q d34_11 rfl (own_cld (v := (.int x0)) X0 q hZ e0 VA d34_12 (by decide) rfl (own_is X0 q d34_13 (l' := #[.val (.ref a1), .val v'0, .val (.ref b), .val v'0, .val v'1, .val v'0, .val (.int x0)]) rfl (own_il X0 q d34_15 rfl (own_k X0 q d34_17 ?_))))))))))
 by_cases hc20_4 : (255 : Int32) < x0
 ·refine own_cn X0 q d34_20 ((tlt hc20_4).2.2.2) (own_il X0 q d34_23 rfl ?_)
  refine own_rI X0 q hrt d34_25 hlk (by decide) ?_
  show QC1a Z b k2 x0 h0 n0 _ s₁.heap _
  rw [e0]
  exact ⟨_, rfl, N0, kp0, Or.inr ⟨rfl, hc20_4⟩⟩
 ·refine own_cy X0 q d34_20 ((flt hc20_4).2.2.2) (own_aln X0 q d34_26 rfl rfl (own_iln X0 q d34_27 rfl (own_il X0 q d34_28 rfl (own_stp 31 (fun _ k => XS.i2b X0.here hx rfl (q.d d34_30) rfl k) ?_))))
  refine own_bst X0 q hZ e0 VB d34_31 (by decide) (Nat.le_of_ble_eq_true rfl) N0 gb fun T5 h5 X5 e5 W5 V5 N5 => ?_
  have kp6 := kp0.wr W5 (own_i0)
  refine own_iik X5 q d34_32 rfl (show ((0 : Int32) + (1 : Int32)) = (1 : Int32) by decide) (l' := #[.val (.ref a1), .val v'1, .val (.ref b), .val v'0, .val v'1, .val v'0, .val (.int x0)]) rfl (own_iik X5 q d34_35 rfl (show ((0 : Int32) + (1 : Int32)) = (1 : Int32) by decide) (l' := #[.val (.ref a1), .val v'1, .val (.ref b), .val v'1, .val v'1, .val v'0, .val (.int x0)]) rfl (own_iik X5 q d34_38 rfl (show ((0 : Int32) + (1 : Int32)) = (1 : Int32) by decide) (l' := #[.val (.ref a1), .val v'1, .val (.ref b), .val v'1, .val v'1, .val v'1, .val (.int x0)]) rfl (own_gt X5 q d34_41 (own_il X5 q d34_3 rfl (own_il X5 q d34_5 rfl (own_cy X5 q d34_7 ((flt (Int32.lt_irrefl : ¬ ((1 : Int32) < (1 : Int32)))).2.1) (own_il X5 q d34_44 rfl ?_)))))))
  refine own_rI X5 q hrt d34_46 hlk (by decide) ?_
  show QC1a Z b k2 x0 h0 n0 _ T5.heap _
  rw [e5]
  exact ⟨_, rfl, N5, kp6, Or.inl ⟨rfl, hc20_4, V5⟩⟩
theorem d39_0 : own_D b'39 0 (.getstatic 44) 3 3 := by decide +kernel
theorem d39_3 : own_DZ b'39 3 .ne 28 6 := by decide +kernel
theorem d39_28 : own_D b'39 28 (.iload_n 1) 1 29 := by decide +kernel
theorem d39_29 : own_DK b'39 29 1 30 := by decide +kernel
theorem d39_30 : own_D b'39 30 .ishl 1 31 := by decide +kernel
theorem d39_31 : own_D b'39 31 (.istore_n 1) 1 32 := by decide +kernel
theorem d39_32 : own_D b'39 32 (.aload_n 0) 1 33 := by decide +kernel
theorem d39_33 : own_D b'39 33 (.iload_n 1) 1 34 := by decide +kernel
theorem d39_34 : own_DI b'39 34 1 1 37 := by decide +kernel
theorem d39_37 : own_D b'39 37 (.iload_n 2) 1 38 := by decide +kernel
theorem d39_38 : own_D b'39 38 (.getstatic 59) 3 41 := by decide +kernel
theorem d39_41 : own_D b'39 41 .ishr 1 42 := by decide +kernel
theorem d39_42 : own_D b'39 42 .i2b 1 43 := by decide +kernel
theorem d39_43 : own_D b'39 43 .bastore 1 44 := by decide +kernel
theorem d39_44 : own_D b'39 44 (.aload_n 0) 1 45 := by decide +kernel
theorem d39_45 : own_D b'39 45 (.iload_n 1) 1 46 := by decide +kernel
theorem d39_46 : own_D b'39 46 (.iload_n 2) 1 47 := by decide +kernel
theorem d39_47 : own_D b'39 47 (.getstatic 63) 3 50 := by decide +kernel
theorem d39_50 : own_D b'39 50 .ishr 1 51 := by decide +kernel
theorem d39_51 : own_D b'39 51 .i2b 1 52 := by decide +kernel
theorem d39_52 : own_D b'39 52 .bastore 1 53 := by decide +kernel
theorem d39_53 : own_D b'39 53 .return_ 1 54 := by decide +kernel
theorem pn_39 : plainFor (⟨"java/lang/StringUTF16", "putChar", "([BII)V"⟩ : MethodName) = true := plainFor_of_name (by first | (simp [plainName, overriddenIn]; done) | decide +kernel)
theorem rm39 (l : Launch) (Z : State) (a0 : Array Value) (hw : own_hw a0 Z) (a1 : Addr) (p2 : Int32) (p3 : Int32) (k1 : ClassId) (vs : List Value) (n i : Nat) (h0 : Heap) (n0 : Nat) (Z0 : n0 ≤ h0.size) (O0 : Old Z n0 h0) (SU_ : own_SU Z) (VA : Arv Z h0 a1 k1 .byte (Int32.ofNat n) vs v'0) (hp : p2 = Int32.ofNat i) (hn : n ≤ 1000) (hi : 2 * i + 1 < n) (hv : vs.length = n) (g1 : n0 ≤ a1) :
  own_M l Z [] own_y2 b'39 3 none ⟨0, 0, 0, 0⟩ #[(.ref a1), (.int p2), (.int p3)] h0 (QPC Z a1 k1 p3 vs n i h0 n0) := by
 obtain ⟨SAD, SHI, SLO⟩ := SU_
 refine own_start (n0 := n0) hw "java/lang/StringUTF16" (L := #[.val (.ref a1), .val (.int p2), .val (.int p3)]) pn_39 (fun {p e s m below meth c s₁} q hx W hml hZ hown hnm hlk hrt X0 e0 N0 => ?_)
 have kp0 := Keep.refl h0 [a1]
 refine own_gS X0 q hZ e0 hown (W 205 rfl) (SAD.ext O0.2) d39_0 fun T18 X18 e18 => ?_
 refine own_zy X18 q d39_3 (((if0 _ _).trans (feq ((by decide) : ¬ ((1 : Int32) = (0 : Int32)))).2)) (own_iln X18 q d39_28 rfl (own_k X18 q d39_29 (own_stp 31 (fun _ k => XS.ishl X18.here hx rfl (q.d d39_30) rfl k) (own_isn X18 q d39_31 (l' := #[.val (.ref a1), .val (.int (p2 <<< ((1 : Int32) &&& 31))), .val (.int p3)]) rfl (own_aln X18 q d39_32 rfl rfl (own_iln X18 q d39_33 rfl (own_ii X18 q d39_34 rfl (l' := #[.val (.ref a1), .val (.int ((p2 <<< ((1 : Int32) &&& 31)) + (1 : Int32))), .val (.int p3)]) rfl (own_iln X18 q d39_37 rfl ?_))))))))
 refine own_gS X18 q hZ e18 hown (W 206 rfl) (SHI.ext O0.2) d39_38 fun T19 X19 e19 => ?_
 refine own_stp 42 (fun _ k => XS.ishr X19.here hx rfl (q.d d39_41) rfl k) (own_stp 43 (fun _ k => XS.i2b X19.here hx rfl (q.d d39_42) rfl k) ?_)
 refine own_let ?_; intro g20_
 obtain ⟨cl21, Ar21, q21, S21, M21, H21, G21⟩ := id VA
 obtain ⟨T22, h22, X22, e22, W22, st22⟩ := stB X19 hx hZ e19 Ar21 (j := (p2 <<< ((1 : Int32) &&& 31))) (inb_of S21 (own_pi0 hp hn hi)) (g := g20_) rfl rfl (q.d d39_43)
 have od23 := O0.wr W22 g1
 have kp23 := kp0.wr W22 (own_i0)
 have V22 := Arv.set Ar21 q21 S21 M21 H21 G21 (fits_nar_byte _) W22 (2 * i) (own_pj0 hp hn hi) (by rw [hv]; omega)
 have N22 := Fr.snoc X22 N0 g1
 refine own_stp 44 st22 (own_aln X22 q d39_44 rfl rfl (own_iln X22 q d39_45 rfl (own_iln X22 q d39_46 rfl ?_)))
 refine own_gS X22 q hZ e22 hown (W 207 rfl) (SLO.ext od23.2) d39_47 fun T24 X24 e24 => ?_
 refine own_stp 51 (fun _ k => XS.ishr X24.here hx rfl (q.d d39_50) rfl k) (own_stp 52 (fun _ k => XS.i2b X24.here hx rfl (q.d d39_51) rfl k) ?_)
 refine own_let ?_; intro g25_
 obtain ⟨cl26, Ar26, q26, S26, M26, H26, G26⟩ := id V22
 obtain ⟨T27, h27, X27, e27, W27, st27⟩ := stB X24 hx hZ e24 Ar26 (j := ((p2 <<< ((1 : Int32) &&& 31)) + (1 : Int32))) (inb_of S26 (own_pi1 hp hn hi)) (g := g25_) rfl rfl (q.d d39_52)
 have kp28 := kp23.wr W27 (own_i0)
 have V27 := Arv.set Ar26 q26 S26 M26 H26 G26 (fits_nar_byte _) W27 (2 * i + 1) (own_pj1 hp hn hi) (by rw [List.length_set]; rw [hv]; omega)
 have N27 := Fr.snoc X27 N22 g1
 refine own_stp 53 st27 ?_
 refine own_rV X27 q hrt d39_53 hlk (by decide) ?_
 show QPC Z a1 k1 p3 vs n i h0 n0 _ T27.heap _
 rw [e27]
 exact ⟨rfl, N27, kp28, V27⟩
theorem d40_0 : own_D b'40 0 (.getstatic 44) 3 3 := by decide +kernel
theorem d40_3 : own_DZ b'40 3 .ne 28 6 := by decide +kernel
theorem d40_28 : own_D b'40 28 (.iload_n 1) 1 29 := by decide +kernel
theorem d40_29 : own_DK b'40 29 1 30 := by decide +kernel
theorem d40_30 : own_D b'40 30 .ishl 1 31 := by decide +kernel
theorem d40_31 : own_D b'40 31 (.istore_n 1) 1 32 := by decide +kernel
theorem d40_32 : own_D b'40 32 (.aload_n 0) 1 33 := by decide +kernel
theorem d40_33 : own_D b'40 33 (.iload_n 1) 1 34 := by decide +kernel
theorem d40_34 : own_DI b'40 34 1 1 37 := by decide +kernel
theorem d40_37 : own_D b'40 37 .baload 1 38 := by decide +kernel
theorem d40_38 : own_DK b'40 38 255 41 := by decide +kernel
theorem d40_41 : own_D b'40 41 .iand 1 42 := by decide +kernel
theorem d40_42 : own_D b'40 42 (.getstatic 59) 3 45 := by decide +kernel
theorem d40_45 : own_D b'40 45 .ishl 1 46 := by decide +kernel
theorem d40_46 : own_D b'40 46 (.aload_n 0) 1 47 := by decide +kernel
theorem d40_47 : own_D b'40 47 (.iload_n 1) 1 48 := by decide +kernel
theorem d40_48 : own_D b'40 48 .baload 1 49 := by decide +kernel
theorem d40_49 : own_DK b'40 49 255 52 := by decide +kernel
theorem d40_52 : own_D b'40 52 .iand 1 53 := by decide +kernel
theorem d40_53 : own_D b'40 53 (.getstatic 63) 3 56 := by decide +kernel
theorem d40_56 : own_D b'40 56 .ishl 1 57 := by decide +kernel
theorem d40_57 : own_D b'40 57 .ior 1 58 := by decide +kernel
theorem d40_58 : own_D b'40 58 .i2c 1 59 := by decide +kernel
theorem d40_59 : own_D b'40 59 .ireturn 1 60 := by decide +kernel
theorem pn_40 : plainFor (⟨"java/lang/StringUTF16", "getChar", "([BI)C"⟩ : MethodName) = true := plainFor_of_name (by first | (simp [plainName, overriddenIn]; done) | decide +kernel)
theorem rm40 (l : Launch) (Z : State) (a0 : Array Value) (hw : own_hw a0 Z) (a1 : Addr) (p2 : Int32) (k1 : ClassId) (vs : List Value) (n i : Nat) (x : Int32) (h0 : Heap) (n0 : Nat) (Z0 : n0 ≤ h0.size) (O0 : Old Z n0 h0) (SU_ : own_SU Z) (VA : Arv Z h0 a1 k1 .byte (Int32.ofNat n) vs v'0) (hp : p2 = Int32.ofNat i) (hn : n ≤ 1000) (hi : 2 * i + 1 < n) (hx0 : vs.getD (2 * i) v'0 = (.int (nar .byte ((x >>> ((0 : Int32) &&& 31)).toInt8.toInt32)))) (hx1 : vs.getD (2 * i + 1) v'0 = (.int (nar .byte ((x >>> ((8 : Int32) &&& 31)).toInt8.toInt32)))) :
  own_M l Z [] own_y3 b'40 2 (some .char) ⟨0, 0, 0, 0⟩ #[(.ref a1), (.int p2)] h0 (QI (own_gc x) h0 n0) := by
 obtain ⟨SAD, SHI, SLO⟩ := SU_
 refine own_start (n0 := n0) hw "java/lang/StringUTF16" (L := #[.val (.ref a1), .val (.int p2)]) pn_40 (fun {p e s m below meth c s₁} q hx W hml hZ hown hnm hlk hrt X0 e0 N0 => ?_)
 refine own_gS X0 q hZ e0 hown (W 205 rfl) (SAD.ext O0.2) d40_0 fun T34 X34 e34 => ?_
 refine own_zy X34 q d40_3 (((if0 _ _).trans (feq ((by decide) : ¬ ((1 : Int32) = (0 : Int32)))).2)) (own_iln X34 q d40_28 rfl (own_k X34 q d40_29 (own_stp 31 (fun _ k => XS.ishl X34.here hx rfl (q.d d40_30) rfl k) (own_isn X34 q d40_31 (l' := #[.val (.ref a1), .val (.int (p2 <<< ((1 : Int32) &&& 31)))]) rfl (own_aln X34 q d40_32 rfl rfl (own_iln X34 q d40_33 rfl (own_ii X34 q d40_34 rfl (l' := #[.val (.ref a1), .val (.int ((p2 <<< ((1 : Int32) &&& 31)) + (1 : Int32)))]) rfl ?_)))))))
 obtain ⟨cl35, Ar35, q35, S35, M35, H35, G35⟩ := id VA
 refine own_stp 38 (fun _ k => X34.baloadBytes hx (j := (p2 <<< ((1 : Int32) &&& 31))) (v := (.int (nar .byte ((x >>> ((0 : Int32) &&& 31)).toInt8.toInt32)))) (by rw [e34]; exact Ar35.1) (State.isArrayOf_alike hZ.alike Ar35.2.1) Ar35.2.2 (inb_of S35 (own_pi0 hp hn hi)) (Has.at H35 (inb_of S35 (own_pi0 hp hn hi)) (by rw [own_pj0 hp hn hi]; exact hx0)) (g := mkF m 37 _ _) rfl rfl (q.d d40_37) _ k) (own_k X34 q d40_38 (own_stp 42 (fun _ k => XS.iand X34.here hx rfl (q.d d40_41) rfl k) ?_))
 refine own_gS X34 q hZ e34 hown (W 206 rfl) (SHI.ext O0.2) d40_42 fun T36 X36 e36 => ?_
 refine own_stp 46 (fun _ k => XS.ishl X36.here hx rfl (q.d d40_45) rfl k) (own_aln X36 q d40_46 rfl rfl (own_iln X36 q d40_47 rfl ?_))
 obtain ⟨cl37, Ar37, q37, S37, M37, H37, G37⟩ := id VA
 refine own_stp 49 (fun _ k => X36.baloadBytes hx (j := ((p2 <<< ((1 : Int32) &&& 31)) + (1 : Int32))) (v := (.int (nar .byte ((x >>> ((8 : Int32) &&& 31)).toInt8.toInt32)))) (by rw [e36]; exact Ar37.1) (State.isArrayOf_alike hZ.alike Ar37.2.1) Ar37.2.2 (inb_of S37 (own_pi1 hp hn hi)) (Has.at H37 (inb_of S37 (own_pi1 hp hn hi)) (by rw [own_pj1 hp hn hi]; exact hx1)) (g := mkF m 48 _ _) rfl rfl (q.d d40_48) _ k) (own_k X36 q d40_49 (own_stp 53 (fun _ k => XS.iand X36.here hx rfl (q.d d40_52) rfl k) ?_))
 refine own_gS X36 q hZ e36 hown (W 207 rfl) (SLO.ext O0.2) d40_53 fun T38 X38 e38 => ?_
 refine own_stp 57 (fun _ k => XS.ishl X38.here hx rfl (q.d d40_56) rfl k) (own_stp 58 (fun _ k => XS.ior X38.here hx rfl (q.d d40_57) rfl k) (own_stp 59 (fun _ k => XS.i2c X38.here hx rfl (q.d d40_58) rfl k) ?_))
 refine own_rN X38 q hrt (by simp) d40_59 hlk (by decide) ?_
 show QI (own_gc x) h0 n0 _ T38.heap _
 rw [e38]
 exact ⟨rfl, N0, rfl⟩
theorem d37_0 : own_D b'37 0 (.iload_n 0) 1 1 := by decide +kernel
theorem d37_1 : own_D b'37 1 (.invokestatic 11) 3 4 := by decide +kernel
theorem d37_4 : own_D b'37 4 (.newarray .byte) 2 6 := by decide +kernel
theorem d37_6 : own_D b'37 6 .areturn 1 7 := by decide +kernel
theorem pn_37 : plainFor (⟨"java/lang/StringUTF16", "newBytesFor", "(I)[B"⟩ : MethodName) = true := plainFor_of_name (by first | (simp [plainName, overriddenIn]; done) | decide +kernel)
theorem rm37_1 (l : Launch) (Z : State) (a0 : Array Value) (hw : own_hw a0 Z)   (h0 : Heap) (n0 : Nat) (Z0 : n0 ≤ h0.size) :
  own_M l Z [] own_y4 b'37 1 (some (.array .byte)) ⟨1, 1, 2, 12⟩ #[v'1] h0 (QNB1 Z h0 n0) := by
 refine own_start (n0 := n0) hw "java/lang/StringUTF16" (L := #[.val v'1]) pn_37 (fun {p e s m below meth c s₁} q hx W hml hZ hown hnm hlk hrt X0 e0 N0 => ?_)
 have kp0 := Keep.refl h0 []
 refine own_iln X0 q d37_0 rfl ?_
 refine own_cS X0 q hZ e0 hown hml (W 198 rfl) (W 199 rfl) (W 184 rfl) (W 200 rfl) (rm38 l Z a0 hw (1 : Int32) (2 : Int32) h0 n0 Z0 (by decide) (by decide) (by decide)) d37_1 [v'1] [] own_pd0 0 (by decide) (fun v43 T43 L43 X43 hQ43 => ?_)
 obtain ⟨rfl, N43q, e43⟩ := hQ43
 have N43 := Fr.app N0 N43q
 refine own_nv ?_
 refine own_let ?_; intro g44_
 obtain ⟨T45, h45, k45, X45, e45, E45, A45, st45⟩ := newP X43 hx hZ (W 21 rfl) e43 (g := g44_) rfl (q.d d37_4) rfl (by decide) (cap := 2) (by decide) (by decide) (by decide) (by decide)
 obtain ⟨b45, g45⟩ : ∃ z, z = h0.size := ⟨_, rfl⟩
 rw [← g45] at A45 st45
 have V45 : Arv Z h45 b45 k45 .byte (2 : Int32) [v'0, v'0] v'0 := (Arv.new A45 (by decide)).pad (pad_rep [] v'0 2)
 have kp46 := kp0.ext E45
 have sz_b45 : h0.size ≤ b45 := Nat.le_trans kp0.1 (Nat.le_of_eq g45.symm)
 refine own_stp 6 st45 ?_
 refine own_rA X45 q hrt d37_6 hlk (by decide) ?_
 show QNB1 Z h0 n0 _ T45.heap _
 rw [e45]
 exact ⟨_, _, rfl, N43, own_extK kp46, sz_b45, V45⟩
theorem d36_0 : own_D b'36 0 (.iload_n 2) 1 1 := by decide +kernel
theorem d36_1 : own_D b'36 1 (.invokestatic 107) 3 4 := by decide +kernel
theorem d36_4 : own_D b'36 4 (.astore_n 3) 1 5 := by decide +kernel
theorem d36_5 : own_DK b'36 5 0 6 := by decide +kernel
theorem d36_6 : own_D b'36 6 (.istore 4) 2 8 := by decide +kernel
theorem d36_8 : own_D b'36 8 (.iload 4) 2 10 := by decide +kernel
theorem d36_10 : own_D b'36 10 (.iload_n 2) 1 11 := by decide +kernel
theorem d36_11 : own_DJ b'36 11 .ge 32 14 := by decide +kernel
theorem d36_14 : own_D b'36 14 (.aload_n 3) 1 15 := by decide +kernel
theorem d36_15 : own_D b'36 15 (.iload 4) 2 17 := by decide +kernel
theorem d36_17 : own_D b'36 17 (.aload_n 0) 1 18 := by decide +kernel
theorem d36_18 : own_D b'36 18 (.iload_n 1) 1 19 := by decide +kernel
theorem d36_19 : own_D b'36 19 .caload 1 20 := by decide +kernel
theorem d36_20 : own_D b'36 20 (.invokestatic 111) 3 23 := by decide +kernel
theorem d36_23 : own_DI b'36 23 1 1 26 := by decide +kernel
theorem d36_26 : own_DI b'36 26 4 1 29 := by decide +kernel
theorem d36_29 : own_DG b'36 29 8 := by decide +kernel
theorem d36_32 : own_D b'36 32 (.aload_n 3) 1 33 := by decide +kernel
theorem d36_33 : own_D b'36 33 .areturn 1 34 := by decide +kernel
theorem pn_36 : plainFor (⟨"java/lang/StringUTF16", "toBytes", "([CII)[B"⟩ : MethodName) = true := plainFor_of_name (by first | (simp [plainName, overriddenIn]; done) | decide +kernel)
theorem rm36_1 (l : Launch) (Z : State) (a0 : Array Value) (hw : own_hw a0 Z) (a1 : Addr) (k1 : ClassId) (x0 : Int32) (h0 : Heap) (n0 : Nat) (Z0 : n0 ≤ h0.size) (O0 : Old Z n0 h0) (SU_ : own_SU Z) (VA : Arv Z h0 a1 k1 .char (1 : Int32) [(.int x0)] v'0) :
  own_M l Z [] own_y5 b'36 5 (some (.array .byte)) ⟨2, 1, 2, 24⟩ #[(.ref a1), v'0, v'1] h0 (QTB1 Z x0 h0 n0) := by
 obtain ⟨SAD, SHI, SLO⟩ := SU_
 refine own_start (n0 := n0) hw "java/lang/StringUTF16" (L := #[.val (.ref a1), .val v'0, .val v'1, .unset, .unset]) pn_36 (fun {p e s m below meth c s₁} q hx W hml hZ hown hnm hlk hrt X0 e0 N0 => ?_)
 have kp0 := Keep.refl h0 []
 refine own_iln X0 q d36_0 rfl ?_
 refine own_cSh X0 q hZ e0 hown hml (W 195 rfl) (W 196 rfl) (W 184 rfl) (W 197 rfl) (rm37_1 l Z a0 hw h0 n0 Z0) d36_1 [v'1] [] own_pd1 0 (by decide) (fun v51 T51 L51 h51 e51' X51 hQ51 => ?_)
 obtain ⟨b51, k51, rfl, N51q, E51, lo51, V51⟩ := hQ51
 have N51 := Fr.app N0 N51q
 have zs52 := Nat.le_trans Z0 E51.1
 have od52 := O0.ext E51
 have kp52 := kp0.ext E51
 have g_b51 : n0 ≤ b51 := Nat.le_trans Z0 lo51
 have sz_b51 : h0.size ≤ b51 := Nat.le_trans kp0.1 lo51
 refine own_nv (own_asn X51 q d36_4 rfl (l' := #[.val (.ref a1), .val v'0, .val v'1, .val (.ref b51), .unset]) rfl (own_k X51 q d36_5 (own_is X51 q d36_6 (l' := #[.val (.ref a1), .val v'0, .val v'1, .val (.ref b51), .val v'0]) rfl (own_il X51 q d36_8 rfl (own_iln X51 q d36_10 rfl (own_cn X51 q d36_11 ((tlt ((by decide) : (0 : Int32) < (1 : Int32))).2.1) (own_aln X51 q d36_14 rfl rfl (own_il X51 q d36_15 rfl (own_aln X51 q d36_17 rfl rfl (own_iln X51 q d36_18 rfl (own_cld (v := (.int x0)) X51 q hZ e51' (VA.ext E51) d36_19 (by decide) rfl ?_)))))))))))
 refine own_cSh X51 q hZ e51' hown hml (W 202 rfl) (W 203 rfl) (W 184 rfl) (W 204 rfl) (rm39 l Z a0 hw b51 (0 : Int32) x0 k51 _ 2 0 h51 n0 zs52 od52 ⟨SAD, SHI, SLO⟩ V51 rfl (by decide) (by decide) rfl g_b51) d36_20 [(.ref b51), v'0, (.int x0)] [] own_pd2 0 (by decide) (fun v53 T53 L53 h53 e53' X53 hQ53 => ?_)
 obtain ⟨rfl, N53q, K53, V53⟩ := hQ53
 have N53 := Fr.app N51 N53q
 have kp54 := kp52.trans K53 (allS (Or.inr sz_b51) all0)
 refine own_nn (own_iik X53 q d36_23 rfl (show ((0 : Int32) + (1 : Int32)) = (1 : Int32) by decide) (l' := #[.val (.ref a1), .val v'1, .val v'1, .val (.ref b51), .val v'0]) rfl (own_iik X53 q d36_26 rfl (show ((0 : Int32) + (1 : Int32)) = (1 : Int32) by decide) (l' := #[.val (.ref a1), .val v'1, .val v'1, .val (.ref b51), .val v'1]) rfl (own_gt X53 q d36_29 (own_il X53 q d36_8 rfl (own_iln X53 q d36_10 rfl (own_cy X53 q d36_11 ((flt (Int32.lt_irrefl : ¬ ((1 : Int32) < (1 : Int32)))).2.1) (own_aln X53 q d36_32 rfl rfl ?_)))))))
 refine own_rA X53 q hrt d36_33 hlk (by decide) ?_
 show QTB1 Z x0 h0 n0 _ T53.heap _
 rw [e53']
 exact ⟨_, _, rfl, N53, own_extK kp54, sz_b51, V53⟩
theorem d33_0 : own_D b'33 0 (.iload_n 2) 1 1 := by decide +kernel
theorem d33_1 : own_D b'33 1 (.newarray .byte) 2 3 := by decide +kernel
theorem d33_3 : own_D b'33 3 (.astore_n 3) 1 4 := by decide +kernel
theorem d33_4 : own_D b'33 4 (.aload_n 0) 1 5 := by decide +kernel
theorem d33_5 : own_D b'33 5 (.iload_n 1) 1 6 := by decide +kernel
theorem d33_6 : own_D b'33 6 (.aload_n 3) 1 7 := by decide +kernel
theorem d33_7 : own_DK b'33 7 0 8 := by decide +kernel
theorem d33_8 : own_D b'33 8 (.iload_n 2) 1 9 := by decide +kernel
theorem d33_9 : own_D b'33 9 (.invokestatic 115) 3 12 := by decide +kernel
theorem d33_12 : own_D b'33 12 (.istore 4) 2 14 := by decide +kernel
theorem d33_14 : own_D b'33 14 (.iload 4) 2 16 := by decide +kernel
theorem d33_16 : own_D b'33 16 (.iload_n 2) 1 17 := by decide +kernel
theorem d33_17 : own_DJ b'33 17 .eq 57 20 := by decide +kernel
theorem d33_20 : own_D b'33 20 (.aload_n 0) 1 21 := by decide +kernel
theorem d33_21 : own_D b'33 21 (.iload_n 1) 1 22 := by decide +kernel
theorem d33_22 : own_D b'33 22 (.iload_n 2) 1 23 := by decide +kernel
theorem d33_23 : own_D b'33 23 (.invokestatic 119) 3 26 := by decide +kernel
theorem d33_26 : own_D b'33 26 (.astore 5) 2 28 := by decide +kernel
theorem d33_28 : own_D b'33 28 (.aload 5) 2 30 := by decide +kernel
theorem d33_30 : own_D b'33 30 (.iload 4) 2 32 := by decide +kernel
theorem d33_32 : own_D b'33 32 (.invokestatic 71) 3 35 := by decide +kernel
theorem d33_35 : own_DK b'33 35 255 38 := by decide +kernel
theorem d33_38 : own_DJ b'33 38 .gt 54 41 := by decide +kernel
theorem d33_54 : own_D b'33 54 (.aload 5) 2 56 := by decide +kernel
theorem d33_56 : own_D b'33 56 .areturn 1 57 := by decide +kernel
theorem d33_57 : own_D b'33 57 (.aload_n 3) 1 58 := by decide +kernel
theorem d33_58 : own_D b'33 58 .areturn 1 59 := by decide +kernel
theorem pn_33 : plainFor (⟨"java/lang/StringUTF16", "compress", "([CII)[B"⟩ : MethodName) = true := plainFor_of_name (by first | (simp [plainName, overriddenIn]; done) | decide +kernel)
theorem rm33_1 (l : Launch) (Z : State) (a0 : Array Value) (hw : own_hw a0 Z) (a1 : Addr) (k1 : ClassId) (x0 : Int32) (h0 : Heap) (n0 : Nat) (Z0 : n0 ≤ h0.size) (O0 : Old Z n0 h0) (SU_ : own_SU Z) (VA : Arv Z h0 a1 k1 .char (1 : Int32) [(.int x0)] v'0) (hd0 : own_c16 x0) :
  own_M l Z [] own_y6 b'33 6 (some (.array .byte)) ⟨3, 2, 3, 40⟩ #[(.ref a1), v'0, v'1] h0 (QC1b Z x0 h0 n0) := by
 obtain ⟨SAD, SHI, SLO⟩ := SU_
 refine own_start (n0 := n0) hw "java/lang/StringUTF16" (L := #[.val (.ref a1), .val v'0, .val v'1, .unset, .unset, .unset]) pn_33 (fun {p e s m below meth c s₁} q hx W hml hZ hown hnm hlk hrt X0 e0 N0 => ?_)
 have hby := q.2
 have kp0 := Keep.refl h0 []
 refine own_iln X0 q d33_0 rfl ?_
 refine own_let ?_; intro g63_
 obtain ⟨T64, h64, k64, X64, e64, E64, A64, st64⟩ := newP X0 hx hZ (W 21 rfl) e0 (g := g63_) rfl (q.d d33_1) rfl (by decide) (cap := 1) (by decide) (by decide) (by decide) (by decide)
 obtain ⟨b64, g64⟩ : ∃ z, z = h0.size := ⟨_, rfl⟩
 rw [← g64] at A64 st64
 have V64 : Arv Z h64 b64 k64 .byte (1 : Int32) [v'0] v'0 := (Arv.new A64 (by decide)).pad (pad_rep [] v'0 1)
 have zs65 := Nat.le_trans Z0 E64.1
 have od65 := O0.ext E64
 have kp65 := kp0.ext E64
 have g_b64 : n0 ≤ b64 := Nat.le_trans Z0 (Nat.le_of_eq g64.symm)
 have sz_b64 : h0.size ≤ b64 := Nat.le_trans kp0.1 (Nat.le_of_eq g64.symm)
 refine own_stp 3 st64 (own_asn X64 q d33_3 rfl (l' := #[.val (.ref a1), .val v'0, .val v'1, .val (.ref b64), .unset, .unset]) rfl (own_aln X64 q d33_4 rfl rfl (own_iln X64 q d33_5 rfl (own_aln X64 q d33_6 rfl rfl (own_k X64 q d33_7 (own_iln X64 q d33_8 rfl ?_))))))
 refine own_cSh X64 q hZ e64 hown hml (W 186 rfl) (W 187 rfl) (W 184 rfl) (W 188 rfl) (rm34_1 l Z a0 hw a1 b64 k1 k64 x0 h64 n0 zs65 (VA.ext E64) V64 g_b64 (own_ne (VA).lt (Nat.le_of_eq g64.symm))) d33_9 [(.ref a1), v'0, (.ref b64), v'0, v'1] [] own_pd3 0 (by decide) (fun v66 T66 L66 h66 e66' X66 hQ66 => ?_)
 obtain ⟨z66, rfl, N66q, K66, D66⟩ := hQ66
 have N66 := Fr.app N0 N66q
 have zs67 := Nat.le_trans zs65 K66.1
 have od67 := od65.keep K66 (allS g_b64 all0)
 have kp67 := kp65.trans K66 (allS (Or.inr sz_b64) all0)
 refine own_nv ?_
 rcases D66 with ⟨hz, hA, hV⟩ | ⟨hz, hB⟩
 ·subst hz
  show own_Fin _ _ _ _ (T66.setTop (mkF m 12 #[.val (.ref a1), .val v'0, .val v'1, .val (.ref b64), .unset, .unset] [v'1]))
  refine own_is X66 q d33_12 (l' := #[.val (.ref a1), .val v'0, .val v'1, .val (.ref b64), .val v'1, .unset]) rfl (own_il X66 q d33_14 rfl (own_iln X66 q d33_16 rfl (own_cy X66 q d33_17 ((teq (rfl : (1 : Int32) = (1 : Int32))).1) (own_aln X66 q d33_57 rfl rfl ?_))))
  refine own_rA X66 q hrt d33_58 hlk (by decide) ?_
  show QC1b Z x0 h0 n0 _ T66.heap _
  rw [e66']
  exact ⟨_, _, rfl, N66, own_extK kp67, sz_b64, Or.inl ⟨hA, hV⟩⟩
 ·subst hz
  show own_Fin _ _ _ _ (T66.setTop (mkF m 12 #[.val (.ref a1), .val v'0, .val v'1, .val (.ref b64), .unset, .unset] [v'0]))
  refine own_is X66 q d33_12 (l' := #[.val (.ref a1), .val v'0, .val v'1, .val (.ref b64), .val v'0, .unset]) rfl (own_il X66 q d33_14 rfl (own_iln X66 q d33_16 rfl (own_cn X66 q d33_17 ((feq ((by decide) : ¬ ((0 : Int32) = (1 : Int32)))).1) (own_aln X66 q d33_20 rfl rfl (own_iln X66 q d33_21 rfl (own_iln X66 q d33_22 rfl ?_))))))
  refine own_cSh X66 q hZ e66' hown hml (W 192 rfl) (W 193 rfl) (W 184 rfl) (W 194 rfl) (rm36_1 l Z a0 hw a1 k1 x0 h66 n0 zs67 od67 ⟨SAD, SHI, SLO⟩ ((VA.ext E64).keep K66 (ninS (own_ne (VA).lt (Nat.le_of_eq g64.symm)) nin0))) d33_23 [(.ref a1), v'0, v'1] [] own_pd4 0 (by decide) (fun v68 T68 L68 h68 e68' X68 hQ68 => ?_)
  obtain ⟨b68, k68, rfl, N68q, E68, lo68, V68⟩ := hQ68
  have N68 := Fr.app N66 N68q
  have zs69 := Nat.le_trans zs67 E68.1
  have od69 := od67.ext E68
  have kp69 := kp67.ext E68
  have sz_b68 : h0.size ≤ b68 := Nat.le_trans kp67.1 lo68
  refine own_nv (own_as X68 q d33_26 rfl (l' := #[.val (.ref a1), .val v'0, .val v'1, .val (.ref b64), .val v'0, .val (.ref b68)]) rfl (own_al X68 q d33_28 rfl rfl (own_il X68 q d33_30 rfl ?_)))
  refine own_cS X68 q hZ e68' hown hml (W 208 rfl) (W 209 rfl) (W 184 rfl) (W 210 rfl) (rm40 l Z a0 hw b68 (0 : Int32) k68 _ 2 0 x0 h68 n0 zs69 od69 ⟨SAD, SHI, SLO⟩ V68 rfl (by decide) (by decide) rfl rfl) d33_32 [(.ref b68), v'0] [] own_pd5 0 (by decide) (fun v70 T70 L70 X70 hQ70 => ?_)
  obtain ⟨rfl, N70q, e70⟩ := hQ70
  have N70 := Fr.app N68 N70q
  refine own_nv (own_k X70 q d33_35 (own_cy X70 q d33_38 ((tlt ((by rw [own_gcE hd0]; exact hB) : (255 : Int32) < (own_gc x0))).2.2.1) (own_al X70 q d33_54 rfl rfl ?_)))
  refine own_rA X70 q hrt d33_56 hlk (by decide) ?_
  show QC1b Z x0 h0 n0 _ T70.heap _
  rw [e70]
  exact ⟨_, _, rfl, N70, own_extK kp69, sz_b68, Or.inr ⟨hB, V68⟩⟩
theorem d35_0 : own_D b'35 0 (.iload_n 1) 1 1 := by decide +kernel
theorem d35_1 : own_D b'35 1 (.aload_n 0) 1 2 := by decide +kernel
theorem d35_2 : own_D b'35 2 .arraylength 1 3 := by decide +kernel
theorem d35_3 : own_D b'35 3 .isub 1 4 := by decide +kernel
theorem d35_4 : own_DK b'35 4 31 6 := by decide +kernel
theorem d35_6 : own_D b'35 6 .iushr 1 7 := by decide +kernel
theorem d35_7 : own_D b'35 7 .i2b 1 8 := by decide +kernel
theorem d35_8 : own_D b'35 8 .ireturn 1 9 := by decide +kernel
theorem pn_35 : plainFor (⟨"java/lang/StringUTF16", "coderFromArrayLen", "([BI)B"⟩ : MethodName) = true := plainFor_of_name (by first | (simp [plainName, overriddenIn]; done) | decide +kernel)
theorem rm35_1_1 (l : Launch) (Z : State) (a0 : Array Value) (hw : own_hw a0 Z) (a1 : Addr) (k1 : ClassId) (vs : List Value) (h0 : Heap) (n0 : Nat) (Z0 : n0 ≤ h0.size) (VA : Arv Z h0 a1 k1 .byte (1 : Int32) vs v'0) :
  own_M l Z [] own_y7 b'35 2 (some .byte) ⟨0, 0, 0, 0⟩ #[(.ref a1), v'1] h0 (QI (0 : Int32) h0 n0) := by
 refine own_start (n0 := n0) hw "java/lang/StringUTF16" (L := #[.val (.ref a1), .val v'1]) pn_35 (fun {p e s m below meth c s₁} q hx W hml hZ hown hnm hlk hrt X0 e0 N0 => ?_)
 refine own_iln X0 q d35_0 rfl (own_aln X0 q d35_1 rfl rfl (own_alen (n := (1 : Int32)) X0 q hZ e0 VA d35_2 (own_isubk 0 X0 q d35_3 (by decide) (own_k X0 q d35_4 (own_stp 7 (fun _ k => XS.iushr X0.here hx rfl (q.d d35_6) rfl k) ?_)))))
 rw [show (((0 : Int32).toUInt32 >>> ((31 : Int32) &&& 31).toUInt32).toInt32) = (0 : Int32) from by decide]
 refine own_stp 8 (fun _ k => XS.i2b X0.here hx rfl (q.d d35_7) rfl k) ?_
 rw [show ((0 : Int32).toInt8.toInt32) = (0 : Int32) from by decide]
 refine own_rN X0 q hrt (by simp) d35_8 hlk (by decide) ?_
 show QI (0 : Int32) h0 n0 _ s₁.heap _
 rw [e0]
 exact ⟨rfl, N0, rfl⟩
theorem rm35_1_2 (l : Launch) (Z : State) (a0 : Array Value) (hw : own_hw a0 Z) (a1 : Addr) (k1 : ClassId) (vs : List Value) (h0 : Heap) (n0 : Nat) (Z0 : n0 ≤ h0.size) (VA : Arv Z h0 a1 k1 .byte (2 : Int32) vs v'0) :
  own_M l Z [] own_y7 b'35 2 (some .byte) ⟨0, 0, 0, 0⟩ #[(.ref a1), v'1] h0 (QI (1 : Int32) h0 n0) := by
 refine own_start (n0 := n0) hw "java/lang/StringUTF16" (L := #[.val (.ref a1), .val v'1]) pn_35 (fun {p e s m below meth c s₁} q hx W hml hZ hown hnm hlk hrt X0 e0 N0 => ?_)
 refine own_iln X0 q d35_0 rfl (own_aln X0 q d35_1 rfl rfl (own_alen (n := (2 : Int32)) X0 q hZ e0 VA d35_2 (own_isubk (-1) X0 q d35_3 (by decide) (own_k X0 q d35_4 (own_stp 7 (fun _ k => XS.iushr X0.here hx rfl (q.d d35_6) rfl k) ?_)))))
 rw [show (((-1 : Int32).toUInt32 >>> ((31 : Int32) &&& 31).toUInt32).toInt32) = (1 : Int32) from by decide]
 refine own_stp 8 (fun _ k => XS.i2b X0.here hx rfl (q.d d35_7) rfl k) ?_
 rw [show ((1 : Int32).toInt8.toInt32) = (1 : Int32) from by decide]
 refine own_rN X0 q hrt (by simp) d35_8 hlk (by decide) ?_
 show QI (1 : Int32) h0 n0 _ s₁.heap _
 rw [e0]
 exact ⟨rfl, N0, rfl⟩
theorem d3_0 : own_D b'3 0 (.aload_n 0) 1 1 := by decide +kernel
theorem d3_1 : own_D b'3 1 (.invokespecial 1) 3 4 := by decide +kernel
theorem d3_4 : own_D b'3 4 (.iload_n 3) 1 5 := by decide +kernel
theorem d3_5 : own_DZ b'3 5 .ne 27 8 := by decide +kernel
theorem d3_8 : own_D b'3 8 (.aload_n 0) 1 9 := by decide +kernel
theorem d3_9 : own_D b'3 9 (.ldc 7) 2 11 := by decide +kernel
theorem d3_11 : own_D b'3 11 (.getfield 9) 3 14 := by decide +kernel
theorem d3_14 : own_D b'3 14 (.putfield 9) 3 17 := by decide +kernel
theorem d3_17 : own_D b'3 17 (.aload_n 0) 1 18 := by decide +kernel
theorem d3_18 : own_D b'3 18 (.ldc 7) 2 20 := by decide +kernel
theorem d3_20 : own_D b'3 20 (.getfield 15) 3 23 := by decide +kernel
theorem d3_23 : own_D b'3 23 (.putfield 15) 3 26 := by decide +kernel
theorem d3_26 : own_D b'3 26 .return_ 1 27 := by decide +kernel
theorem d3_27 : own_D b'3 27 (.getstatic 38) 3 30 := by decide +kernel
theorem d3_30 : own_DZ b'3 30 .eq 58 33 := by decide +kernel
theorem d3_33 : own_D b'3 33 (.aload_n 1) 1 34 := by decide +kernel
theorem d3_34 : own_D b'3 34 (.iload_n 2) 1 35 := by decide +kernel
theorem d3_35 : own_D b'3 35 (.iload_n 3) 1 36 := by decide +kernel
theorem d3_36 : own_D b'3 36 (.invokestatic 177) 3 39 := by decide +kernel
theorem d3_39 : own_D b'3 39 (.astore 5) 2 41 := by decide +kernel
theorem d3_41 : own_D b'3 41 (.aload_n 0) 1 42 := by decide +kernel
theorem d3_42 : own_D b'3 42 (.aload 5) 2 44 := by decide +kernel
theorem d3_44 : own_D b'3 44 (.iload_n 3) 1 45 := by decide +kernel
theorem d3_45 : own_D b'3 45 (.invokestatic 47) 3 48 := by decide +kernel
theorem d3_48 : own_D b'3 48 (.putfield 15) 3 51 := by decide +kernel
theorem d3_51 : own_D b'3 51 (.aload_n 0) 1 52 := by decide +kernel
theorem d3_52 : own_D b'3 52 (.aload 5) 2 54 := by decide +kernel
theorem d3_54 : own_D b'3 54 (.putfield 9) 3 57 := by decide +kernel
theorem d3_57 : own_D b'3 57 .return_ 1 58 := by decide +kernel
theorem pn_3 : plainFor (⟨"java/lang/String", "<init>", "([CIILjava/lang/Void;)V"⟩ : MethodName) = true := plainFor_of_name (by first | (simp [plainName, overriddenIn]; done) | decide +kernel)
theorem rm3_1 (l : Launch) (Z : State) (a0 : Array Value) (hw : own_hw a0 Z) (a1 : Addr) (a2 : Addr) (k1 : ClassId) (x0 : Int32) (cs0 : Int32) (h0 : Heap) (n0 : Nat) (Z0 : n0 ≤ h0.size) (E1 : Exa Z h0 a1 "java/lang/String") (FV : F'1 Z h0 a1 .null) (FC : F'0 Z h0 a1 v'0) (VA : Arv Z h0 a2 k1 .char (1 : Int32) [(.int x0)] v'0) (g1 : n0 ≤ a1) (n12 : a1 ≠ a2) (O0 : Old Z n0 h0) (SC_ : own_SC Z cs0) (SU_ : own_SU Z) (hd0 : own_c16 x0) :
  own_M l Z [] own_y8 b'3 6 none ⟨4, 2, 3, 57⟩ #[(.ref a1), (.ref a2), v'0, v'1, .null] h0 (QI1 Z a1 x0 h0 n0) := by
 obtain ⟨SCS, hcs⟩ := SC_; obtain ⟨SAD, SHI, SLO⟩ := SU_
 refine own_start (n0 := n0) hw "java/lang/String" (L := #[.val (.ref a1), .val (.ref a2), .val v'0, .val v'1, .val .null, .unset]) pn_3 (fun {p e s m below meth c s₁} q hx W hml hZ hown hnm hlk hrt X0 e0 N0 => ?_)
 have hby := q.2
 have kp0 := Keep.refl h0 [a1]
 refine own_aln X0 q d3_0 rfl rfl ?_
 refine own_let ?_; intro g90_
 obtain ⟨T91, X91, e91, st91⟩ := initO X0 hx hZ hown (W 17 rfl) (W 18 rfl) (W 19 rfl) e0 (g := g90_) rfl (by rw [hml]; rfl) rfl (q.d d3_1) (by decide) (W := 0) (by show 2 * 0 + _ ≤ _; exact Nat.le_of_eq rfl) (by decide)
 refine own_stp 4 st91 (own_iln X91 q d3_4 rfl (own_zy X91 q d3_5 (((if0 _ _).trans (feq ((by decide) : ¬ ((1 : Int32) = (0 : Int32)))).2)) ?_))
 refine own_gS X91 q hZ e91 hown (W 99 rfl) (SCS.ext O0.2) d3_27 fun T92 X92 e92 => ?_
 refine own_zn X92 q d3_30 (((if0 _ _).trans (feq hcs).1)) (own_aln X92 q d3_33 rfl rfl (own_iln X92 q d3_34 rfl (own_iln X92 q d3_35 rfl ?_)))
 refine own_cSh X92 q hZ e92 hown hml (W 182 rfl) (W 183 rfl) (W 184 rfl) (W 185 rfl) (rm33_1 l Z a0 hw a2 k1 x0 h0 n0 Z0 O0 ⟨SAD, SHI, SLO⟩ VA hd0) d3_36 [(.ref a2), v'0, v'1] [] own_pd4 0 (by decide) (fun v93 T93 L93 h93 e93' X93 hQ93 => ?_)
 obtain ⟨b93, k93, rfl, N93q, E93, lo93, D93⟩ := hQ93
 have N93 := Fr.app N0 N93q
 have zs94 := Nat.le_trans Z0 E93.1
 have kp94 := kp0.ext E93
 have sz_b93 : h0.size ≤ b93 := Nat.le_trans kp0.1 lo93
 refine own_nv ?_
 rcases D93 with ⟨hA, hV⟩ | ⟨hA, hV⟩
 ·have hV_ := hV
  show own_Fin _ _ _ _ (T93.setTop (mkF m 39 #[.val (.ref a1), .val (.ref a2), .val v'0, .val v'1, .val .null, .unset] [(.ref b93)]))
  refine own_as X93 q d3_39 rfl (l' := #[.val (.ref a1), .val (.ref a2), .val v'0, .val v'1, .val .null, .val (.ref b93)]) rfl (own_aln X93 q d3_41 rfl rfl (own_al X93 q d3_42 rfl rfl (own_iln X93 q d3_44 rfl ?_)))
  refine own_cS X93 q hZ e93' hown hml (W 189 rfl) (W 190 rfl) (W 184 rfl) (W 191 rfl) (rm35_1_1 l Z a0 hw b93 k93 _ h93 n0 zs94 hV) d3_45 [(.ref b93), v'1] [(.ref a1)] own_pd6 1 (by decide) (fun v95 T95 L95 X95 hQ95 => ?_)
  obtain ⟨rfl, N95q, e95⟩ := hQ95
  have N95 := Fr.app N93 N95q
  refine own_nv ?_
  refine own_let ?_; intro g96_
  obtain ⟨T97, h97, X97, e97, W97, st97⟩ := putFN X95 hx hZ hown (W 27 rfl) Via.refl e95 (FC.ext E93) (E1.ext E93) (Or.inr ⟨(W 23 rfl), rfl, hnm⟩) (W 7 rfl) (ty := .byte) (v' := v'0) (by decide) rfl rfl (g := g96_) rfl rfl (q.d d3_48)
  have kp98 := kp94.wr W97 (own_i0)
  have Fw97 := ((FC.ext E93)).same W97
  have N97 := Fr.snoc X97 N95 g1
  refine own_stp 51 st97 (own_aln X97 q d3_51 rfl rfl (own_al X97 q d3_52 rfl rfl ?_))
  refine own_let ?_; intro g99_
  obtain ⟨T100, h100, X100, e100, W100, st100⟩ := putF X97 hx hZ hown (host := "") (Or.inl (W 26 rfl)) Via.refl e97 ((FV.ext E93).other W97 (Or.inr (slot_ne (Or.inr (W 22 rfl)) (Or.inr (W 23 rfl)) (by decide) (t := (.array .byte)) (t' := .byte) (by decide) (by decide)))) ((E1.ext E93).wr W97) (Or.inr ⟨(W 22 rfl), rfl, hnm⟩) (W 7 rfl) (ty := (.array .byte)) (by decide) rfl rfl (g := g99_) rfl rfl (q.d d3_54)
  have kp101 := kp98.wr W100 (own_i0)
  have Fw100 := (((FV.ext E93).other W97 (Or.inr (slot_ne (Or.inr (W 22 rfl)) (Or.inr (W 23 rfl)) (by decide) (t := (.array .byte)) (t' := .byte) (by decide) (by decide))))).same W100
  have N100 := Fr.snoc X100 N97 g1
  refine own_stp 57 st100 ?_
  refine own_rV X100 q hrt d3_57 hlk (by decide) ?_
  show QI1 Z a1 x0 h0 n0 _ T100.heap _
  rw [e100]
  exact ⟨_, _, rfl, N100, kp101, sz_b93, Fw100, Or.inl ⟨(Fw97.other W100 (Or.inr (slot_ne (Or.inr (W 23 rfl)) (Or.inr (W 22 rfl)) (by decide) (t := .byte) (t' := (.array .byte)) (by decide) (by decide)))), hA, ((hV.other W97 (Ne.symm (own_ne (E1).lt lo93))).other W100 (Ne.symm (own_ne (E1).lt lo93)))⟩⟩
 ·have hV_ := hV
  show own_Fin _ _ _ _ (T93.setTop (mkF m 39 #[.val (.ref a1), .val (.ref a2), .val v'0, .val v'1, .val .null, .unset] [(.ref b93)]))
  refine own_as X93 q d3_39 rfl (l' := #[.val (.ref a1), .val (.ref a2), .val v'0, .val v'1, .val .null, .val (.ref b93)]) rfl (own_aln X93 q d3_41 rfl rfl (own_al X93 q d3_42 rfl rfl (own_iln X93 q d3_44 rfl ?_)))
  refine own_cS X93 q hZ e93' hown hml (W 189 rfl) (W 190 rfl) (W 184 rfl) (W 191 rfl) (rm35_1_2 l Z a0 hw b93 k93 _ h93 n0 zs94 hV) d3_45 [(.ref b93), v'1] [(.ref a1)] own_pd6 1 (by decide) (fun v102 T102 L102 X102 hQ102 => ?_)
  obtain ⟨rfl, N102q, e102⟩ := hQ102
  have N102 := Fr.app N93 N102q
  refine own_nv ?_
  refine own_let ?_; intro g103_
  obtain ⟨T104, h104, X104, e104, W104, st104⟩ := putFN X102 hx hZ hown (W 27 rfl) Via.refl e102 (FC.ext E93) (E1.ext E93) (Or.inr ⟨(W 23 rfl), rfl, hnm⟩) (W 7 rfl) (ty := .byte) (v' := v'1) (by decide) rfl rfl (g := g103_) rfl rfl (q.d d3_48)
  have kp105 := kp94.wr W104 (own_i0)
  have Fw104 := ((FC.ext E93)).same W104
  have N104 := Fr.snoc X104 N102 g1
  refine own_stp 51 st104 (own_aln X104 q d3_51 rfl rfl (own_al X104 q d3_52 rfl rfl ?_))
  refine own_let ?_; intro g106_
  obtain ⟨T107, h107, X107, e107, W107, st107⟩ := putF X104 hx hZ hown (host := "") (Or.inl (W 26 rfl)) Via.refl e104 ((FV.ext E93).other W104 (Or.inr (slot_ne (Or.inr (W 22 rfl)) (Or.inr (W 23 rfl)) (by decide) (t := (.array .byte)) (t' := .byte) (by decide) (by decide)))) ((E1.ext E93).wr W104) (Or.inr ⟨(W 22 rfl), rfl, hnm⟩) (W 7 rfl) (ty := (.array .byte)) (by decide) rfl rfl (g := g106_) rfl rfl (q.d d3_54)
  have kp108 := kp105.wr W107 (own_i0)
  have Fw107 := (((FV.ext E93).other W104 (Or.inr (slot_ne (Or.inr (W 22 rfl)) (Or.inr (W 23 rfl)) (by decide) (t := (.array .byte)) (t' := .byte) (by decide) (by decide))))).same W107
  have N107 := Fr.snoc X107 N104 g1
  refine own_stp 57 st107 ?_
  refine own_rV X107 q hrt d3_57 hlk (by decide) ?_
  show QI1 Z a1 x0 h0 n0 _ T107.heap _
  rw [e107]
  exact ⟨_, _, rfl, N107, kp108, sz_b93, Fw107, Or.inr ⟨(Fw104.other W107 (Or.inr (slot_ne (Or.inr (W 23 rfl)) (Or.inr (W 22 rfl)) (by decide) (t := .byte) (t' := (.array .byte)) (by decide) (by decide)))), hA, ((hV.other W104 (Ne.symm (own_ne (E1).lt lo93))).other W107 (Ne.symm (own_ne (E1).lt lo93)))⟩⟩
theorem d2_0 : own_D b'2 0 (.aload_n 0) 1 1 := by decide +kernel
theorem d2_1 : own_D b'2 1 (.aload_n 1) 1 2 := by decide +kernel
theorem d2_2 : own_DK b'2 2 0 3 := by decide +kernel
theorem d2_3 : own_D b'2 3 (.aload_n 1) 1 4 := by decide +kernel
theorem d2_4 : own_D b'2 4 .arraylength 1 5 := by decide +kernel
theorem d2_5 : own_D b'2 5 .aconst_null 1 6 := by decide +kernel
theorem d2_6 : own_D b'2 6 (.invokespecial 27) 3 9 := by decide +kernel
theorem d2_9 : own_D b'2 9 .return_ 1 10 := by decide +kernel
theorem pn_2 : plainFor (⟨"java/lang/String", "<init>", "([C)V"⟩ : MethodName) = true := plainFor_of_name (by first | (simp [plainName, overriddenIn]; done) | decide +kernel)
theorem rm2_1 (l : Launch) (Z : State) (a0 : Array Value) (hw : own_hw a0 Z) (a1 : Addr) (a2 : Addr) (k1 : ClassId) (x0 : Int32) (cs0 : Int32) (h0 : Heap) (n0 : Nat) (Z0 : n0 ≤ h0.size) (E1 : Exa Z h0 a1 "java/lang/String") (FV : F'1 Z h0 a1 .null) (FC : F'0 Z h0 a1 v'0) (VA : Arv Z h0 a2 k1 .char (1 : Int32) [(.int x0)] v'0) (g1 : n0 ≤ a1) (n12 : a1 ≠ a2) (O0 : Old Z n0 h0) (SC_ : own_SC Z cs0) (SU_ : own_SU Z) (hd0 : own_c16 x0) :
  own_M l Z [] own_y9 b'2 2 none ⟨5, 2, 3, 74⟩ #[(.ref a1), (.ref a2)] h0 (QI1 Z a1 x0 h0 n0) := by
 obtain ⟨SCS, hcs⟩ := SC_; obtain ⟨SAD, SHI, SLO⟩ := SU_
 refine own_start (n0 := n0) hw "java/lang/String" (L := #[.val (.ref a1), .val (.ref a2)]) pn_2 (fun {p e s m below meth c s₁} q hx W hml hZ hown hnm hlk hrt X0 e0 N0 => ?_)
 have kp0 := Keep.refl h0 [a1]
 refine own_aln X0 q d2_0 rfl rfl (own_aln X0 q d2_1 rfl rfl (own_k X0 q d2_2 (own_aln X0 q d2_3 rfl rfl (own_alen (n := (1 : Int32)) X0 q hZ e0 VA d2_4 (own_nl X0 q d2_5 ?_)))))
 refine own_cIh (a := a1) X0 q hZ e0 hown hml (W 13 rfl) (W 14 rfl) (W 8 rfl) (W 16 rfl) (rm3_1 l Z a0 hw a1 a2 k1 x0 cs0 h0 n0 Z0 E1 FV FC VA g1 n12 O0 ⟨SCS, hcs⟩ ⟨SAD, SHI, SLO⟩ hd0) d2_6 [(.ref a2), v'0, v'1, .null] [] own_pd7 0 rfl (by decide) (fun v111 T111 L111 h111 e111' X111 hQ111 => ?_)
 obtain ⟨t111, k111, rfl, N111q, K111, lo111, Fv111, D111⟩ := hQ111
 have N111 := Fr.app N0 N111q
 have kp112 := kp0.trans K111 (allS (own_i0) all0)
 have sz_t111 : h0.size ≤ t111 := Nat.le_trans kp0.1 lo111
 refine own_nn ?_
 refine own_rV X111 q hrt d2_9 hlk (by decide) ?_
 show QI1 Z a1 x0 h0 n0 _ T111.heap _
 rw [e111']
 exact ⟨_, _, rfl, N111, kp112, sz_t111, Fv111, D111⟩
theorem rm34_2 (l : Launch) (Z : State) (a0 : Array Value) (hw : own_hw a0 Z) (a1 : Addr) (b : Addr) (k1 k2 : ClassId) (x0 x1 : Int32) (h0 : Heap) (n0 : Nat) (Z0 : n0 ≤ h0.size) (VA : Arv Z h0 a1 k1 .char (2 : Int32) [(.int x0), (.int x1)] v'0) (VB : Arv Z h0 b k2 .byte (2 : Int32) [v'0, v'0] v'0) (gb : n0 ≤ b) (nab : a1 ≠ b) :
  own_M l Z [] own_y1 b'34 7 (some .int) ⟨0, 0, 0, 0⟩ #[(.ref a1), v'0, (.ref b), v'0, v'2] h0 (QC2a Z b k2 x0 x1 h0 n0) := by
 refine own_start (n0 := n0) hw "java/lang/StringUTF16" (L := #[.val (.ref a1), .val v'0, .val (.ref b), .val v'0, .val v'2, .unset, .unset]) pn_34 (fun {p e s m below meth c s₁} q hx W hml hZ hown hnm hlk hrt X0 e0 N0 => ?_)
 have kp0 := Keep.refl h0 [b]
 refine own_k X0 q d34_0 (own_is X0 q d34_1 (l' := #[.val (.ref a1), .val v'0, .val (.ref b), .val v'0, .val v'2, .val v'0, .unset]) rfl (own_il X0 q d34_3 rfl (own_il X0 q d34_5 rfl (own_cn X0 q d34_7 ((tlt ((by decide) : (0 : Int32) < (2 : Int32))).2.1) (own_aln X0 q d34_10 rfl rfl (own_iln X0 q d34_11 rfl (own_cld (v := (.int x0)) X0 q hZ e0 VA d34_12 (by decide) rfl (own_is X0 q d34_13 (l' := #[.val (.ref a1), .val v'0, .val (.ref b), .val v'0, .val v'2, .val v'0, .val (.int x0)]) rfl (own_il X0 q d34_15 rfl (own_k X0 q d34_17 ?_))))))))))
 by_cases hc20_119 : (255 : Int32) < x0
 ·refine own_cn X0 q d34_20 ((tlt hc20_119).2.2.2) (own_il X0 q d34_23 rfl ?_)
  refine own_rI X0 q hrt d34_25 hlk (by decide) ?_
  show QC2a Z b k2 x0 x1 h0 n0 _ s₁.heap _
  rw [e0]
  exact ⟨_, rfl, N0, kp0, Or.inr (Or.inl ⟨rfl, hc20_119⟩)⟩
 ·refine own_cy X0 q d34_20 ((flt hc20_119).2.2.2) (own_aln X0 q d34_26 rfl rfl (own_iln X0 q d34_27 rfl (own_il X0 q d34_28 rfl (own_stp 31 (fun _ k => XS.i2b X0.here hx rfl (q.d d34_30) rfl k) ?_))))
  refine own_bst X0 q hZ e0 VB d34_31 (by decide) (Nat.le_of_ble_eq_true rfl) N0 gb fun T120 h120 X120 e120 W120 V120 N120 => ?_
  have kp121 := kp0.wr W120 (own_i0)
  refine own_iik X120 q d34_32 rfl (show ((0 : Int32) + (1 : Int32)) = (1 : Int32) by decide) (l' := #[.val (.ref a1), .val v'1, .val (.ref b), .val v'0, .val v'2, .val v'0, .val (.int x0)]) rfl (own_iik X120 q d34_35 rfl (show ((0 : Int32) + (1 : Int32)) = (1 : Int32) by decide) (l' := #[.val (.ref a1), .val v'1, .val (.ref b), .val v'1, .val v'2, .val v'0, .val (.int x0)]) rfl (own_iik X120 q d34_38 rfl (show ((0 : Int32) + (1 : Int32)) = (1 : Int32) by decide) (l' := #[.val (.ref a1), .val v'1, .val (.ref b), .val v'1, .val v'2, .val v'1, .val (.int x0)]) rfl (own_gt X120 q d34_41 (own_il X120 q d34_3 rfl (own_il X120 q d34_5 rfl (own_cn X120 q d34_7 ((tlt ((by decide) : (1 : Int32) < (2 : Int32))).2.1) (own_aln X120 q d34_10 rfl rfl (own_iln X120 q d34_11 rfl (own_cld (v := (.int x1)) X120 q hZ e120 (VA.other W120 nab) d34_12 (by decide) rfl (own_is X120 q d34_13 (l' := #[.val (.ref a1), .val v'1, .val (.ref b), .val v'1, .val v'2, .val v'1, .val (.int x1)]) rfl (own_il X120 q d34_15 rfl ?_)))))))))))
  refine own_k X120 q d34_17 ?_
  by_cases hc20_122 : (255 : Int32) < x1
  ·refine own_cn X120 q d34_20 ((tlt hc20_122).2.2.2) (own_il X120 q d34_23 rfl ?_)
   refine own_rI X120 q hrt d34_25 hlk (by decide) ?_
   show QC2a Z b k2 x0 x1 h0 n0 _ T120.heap _
   rw [e120]
   exact ⟨_, rfl, N120, kp121, Or.inr (Or.inr ⟨rfl, hc20_122⟩)⟩
  ·refine own_cy X120 q d34_20 ((flt hc20_122).2.2.2) (own_aln X120 q d34_26 rfl rfl (own_iln X120 q d34_27 rfl (own_il X120 q d34_28 rfl (own_stp 31 (fun _ k => XS.i2b X120.here hx rfl (q.d d34_30) rfl k) ?_))))
   refine own_bst X120 q hZ e120 V120 d34_31 (by decide) (Nat.le_of_ble_eq_true rfl) N120 gb fun T123 h123 X123 e123 W123 V123 N123 => ?_
   have kp124 := kp121.wr W123 (own_i0)
   refine own_iik X123 q d34_32 rfl (show ((1 : Int32) + (1 : Int32)) = (2 : Int32) by decide) (l' := #[.val (.ref a1), .val v'2, .val (.ref b), .val v'1, .val v'2, .val v'1, .val (.int x1)]) rfl (own_iik X123 q d34_35 rfl (show ((1 : Int32) + (1 : Int32)) = (2 : Int32) by decide) (l' := #[.val (.ref a1), .val v'2, .val (.ref b), .val v'2, .val v'2, .val v'1, .val (.int x1)]) rfl (own_iik X123 q d34_38 rfl (show ((1 : Int32) + (1 : Int32)) = (2 : Int32) by decide) (l' := #[.val (.ref a1), .val v'2, .val (.ref b), .val v'2, .val v'2, .val v'2, .val (.int x1)]) rfl (own_gt X123 q d34_41 (own_il X123 q d34_3 rfl (own_il X123 q d34_5 rfl (own_cy X123 q d34_7 ((flt (Int32.lt_irrefl : ¬ ((2 : Int32) < (2 : Int32)))).2.1) (own_il X123 q d34_44 rfl ?_)))))))
   refine own_rI X123 q hrt d34_46 hlk (by decide) ?_
   show QC2a Z b k2 x0 x1 h0 n0 _ T123.heap _
   rw [e123]
   exact ⟨_, rfl, N123, kp124, Or.inl ⟨rfl, ⟨hc20_119, hc20_122⟩, V123⟩⟩
theorem rm37_2 (l : Launch) (Z : State) (a0 : Array Value) (hw : own_hw a0 Z)   (h0 : Heap) (n0 : Nat) (Z0 : n0 ≤ h0.size) :
  own_M l Z [] own_y4 b'37 1 (some (.array .byte)) ⟨1, 1, 4, 12⟩ #[v'2] h0 (QNB2 Z h0 n0) := by
 refine own_start (n0 := n0) hw "java/lang/StringUTF16" (L := #[.val v'2]) pn_37 (fun {p e s m below meth c s₁} q hx W hml hZ hown hnm hlk hrt X0 e0 N0 => ?_)
 have kp0 := Keep.refl h0 []
 refine own_iln X0 q d37_0 rfl ?_
 refine own_cS X0 q hZ e0 hown hml (W 198 rfl) (W 199 rfl) (W 184 rfl) (W 200 rfl) (rm38 l Z a0 hw (2 : Int32) (4 : Int32) h0 n0 Z0 (by decide) (by decide) (by decide)) d37_1 [v'2] [] own_pd0 0 (by decide) (fun v129 T129 L129 X129 hQ129 => ?_)
 obtain ⟨rfl, N129q, e129⟩ := hQ129
 have N129 := Fr.app N0 N129q
 refine own_nv ?_
 refine own_let ?_; intro g130_
 obtain ⟨T131, h131, k131, X131, e131, E131, A131, st131⟩ := newP X129 hx hZ (W 21 rfl) e129 (g := g130_) rfl (q.d d37_4) rfl (by decide) (cap := 4) (by decide) (by decide) (by decide) (by decide)
 obtain ⟨b131, g131⟩ : ∃ z, z = h0.size := ⟨_, rfl⟩
 rw [← g131] at A131 st131
 have V131 : Arv Z h131 b131 k131 .byte (4 : Int32) [v'0, v'0, v'0, v'0] v'0 := (Arv.new A131 (by decide)).pad (pad_rep [] v'0 4)
 have kp132 := kp0.ext E131
 have sz_b131 : h0.size ≤ b131 := Nat.le_trans kp0.1 (Nat.le_of_eq g131.symm)
 refine own_stp 6 st131 ?_
 refine own_rA X131 q hrt d37_6 hlk (by decide) ?_
 show QNB2 Z h0 n0 _ T131.heap _
 rw [e131]
 exact ⟨_, _, rfl, N129, own_extK kp132, sz_b131, V131⟩
theorem rm36_2 (l : Launch) (Z : State) (a0 : Array Value) (hw : own_hw a0 Z) (a1 : Addr) (k1 : ClassId) (x0 x1 : Int32) (h0 : Heap) (n0 : Nat) (Z0 : n0 ≤ h0.size) (O0 : Old Z n0 h0) (SU_ : own_SU Z) (VA : Arv Z h0 a1 k1 .char (2 : Int32) [(.int x0), (.int x1)] v'0) :
  own_M l Z [] own_y5 b'36 5 (some (.array .byte)) ⟨2, 1, 4, 24⟩ #[(.ref a1), v'0, v'2] h0 (QTB2 Z x0 x1 h0 n0) := by
 obtain ⟨SAD, SHI, SLO⟩ := SU_
 refine own_start (n0 := n0) hw "java/lang/StringUTF16" (L := #[.val (.ref a1), .val v'0, .val v'2, .unset, .unset]) pn_36 (fun {p e s m below meth c s₁} q hx W hml hZ hown hnm hlk hrt X0 e0 N0 => ?_)
 have kp0 := Keep.refl h0 []
 refine own_iln X0 q d36_0 rfl ?_
 refine own_cSh X0 q hZ e0 hown hml (W 195 rfl) (W 196 rfl) (W 184 rfl) (W 197 rfl) (rm37_2 l Z a0 hw h0 n0 Z0) d36_1 [v'2] [] own_pd1 0 (by decide) (fun v139 T139 L139 h139 e139' X139 hQ139 => ?_)
 obtain ⟨b139, k139, rfl, N139q, E139, lo139, V139⟩ := hQ139
 have N139 := Fr.app N0 N139q
 have zs140 := Nat.le_trans Z0 E139.1
 have od140 := O0.ext E139
 have kp140 := kp0.ext E139
 have g_b139 : n0 ≤ b139 := Nat.le_trans Z0 lo139
 have sz_b139 : h0.size ≤ b139 := Nat.le_trans kp0.1 lo139
 refine own_nv (own_asn X139 q d36_4 rfl (l' := #[.val (.ref a1), .val v'0, .val v'2, .val (.ref b139), .unset]) rfl (own_k X139 q d36_5 (own_is X139 q d36_6 (l' := #[.val (.ref a1), .val v'0, .val v'2, .val (.ref b139), .val v'0]) rfl (own_il X139 q d36_8 rfl (own_iln X139 q d36_10 rfl (own_cn X139 q d36_11 ((tlt ((by decide) : (0 : Int32) < (2 : Int32))).2.1) (own_aln X139 q d36_14 rfl rfl (own_il X139 q d36_15 rfl (own_aln X139 q d36_17 rfl rfl (own_iln X139 q d36_18 rfl (own_cld (v := (.int x0)) X139 q hZ e139' (VA.ext E139) d36_19 (by decide) rfl ?_)))))))))))
 refine own_cSh X139 q hZ e139' hown hml (W 202 rfl) (W 203 rfl) (W 184 rfl) (W 204 rfl) (rm39 l Z a0 hw b139 (0 : Int32) x0 k139 _ 4 0 h139 n0 zs140 od140 ⟨SAD, SHI, SLO⟩ V139 rfl (by decide) (by decide) rfl g_b139) d36_20 [(.ref b139), v'0, (.int x0)] [] own_pd2 0 (by decide) (fun v141 T141 L141 h141 e141' X141 hQ141 => ?_)
 obtain ⟨rfl, N141q, K141, V141⟩ := hQ141
 have N141 := Fr.app N139 N141q
 have zs142 := Nat.le_trans zs140 K141.1
 have od142 := od140.keep K141 (allS g_b139 all0)
 have kp142 := kp140.trans K141 (allS (Or.inr sz_b139) all0)
 refine own_nn (own_iik X141 q d36_23 rfl (show ((0 : Int32) + (1 : Int32)) = (1 : Int32) by decide) (l' := #[.val (.ref a1), .val v'1, .val v'2, .val (.ref b139), .val v'0]) rfl (own_iik X141 q d36_26 rfl (show ((0 : Int32) + (1 : Int32)) = (1 : Int32) by decide) (l' := #[.val (.ref a1), .val v'1, .val v'2, .val (.ref b139), .val v'1]) rfl (own_gt X141 q d36_29 (own_il X141 q d36_8 rfl (own_iln X141 q d36_10 rfl (own_cn X141 q d36_11 ((tlt ((by decide) : (1 : Int32) < (2 : Int32))).2.1) (own_aln X141 q d36_14 rfl rfl (own_il X141 q d36_15 rfl (own_aln X141 q d36_17 rfl rfl (own_iln X141 q d36_18 rfl (own_cld (v := (.int x1)) X141 q hZ e141' ((VA.ext E139).keep K141 (ninS (own_ne (VA).lt lo139) nin0)) d36_19 (by decide) rfl ?_)))))))))))
 refine own_cSh X141 q hZ e141' hown hml (W 202 rfl) (W 203 rfl) (W 184 rfl) (W 204 rfl) (rm39 l Z a0 hw b139 (1 : Int32) x1 k139 _ 4 1 h141 n0 zs142 od142 ⟨SAD, SHI, SLO⟩ V141 rfl (by decide) (by decide) rfl g_b139) d36_20 [(.ref b139), v'1, (.int x1)] [] own_pd2 0 (by decide) (fun v143 T143 L143 h143 e143' X143 hQ143 => ?_)
 obtain ⟨rfl, N143q, K143, V143⟩ := hQ143
 have N143 := Fr.app N141 N143q
 have kp144 := kp142.trans K143 (allS (Or.inr sz_b139) all0)
 refine own_nn (own_iik X143 q d36_23 rfl (show ((1 : Int32) + (1 : Int32)) = (2 : Int32) by decide) (l' := #[.val (.ref a1), .val v'2, .val v'2, .val (.ref b139), .val v'1]) rfl (own_iik X143 q d36_26 rfl (show ((1 : Int32) + (1 : Int32)) = (2 : Int32) by decide) (l' := #[.val (.ref a1), .val v'2, .val v'2, .val (.ref b139), .val v'2]) rfl (own_gt X143 q d36_29 (own_il X143 q d36_8 rfl (own_iln X143 q d36_10 rfl (own_cy X143 q d36_11 ((flt (Int32.lt_irrefl : ¬ ((2 : Int32) < (2 : Int32)))).2.1) (own_aln X143 q d36_32 rfl rfl ?_)))))))
 refine own_rA X143 q hrt d36_33 hlk (by decide) ?_
 show QTB2 Z x0 x1 h0 n0 _ T143.heap _
 rw [e143']
 exact ⟨_, _, rfl, N143, own_extK kp144, sz_b139, V143⟩
theorem rm33_2 (l : Launch) (Z : State) (a0 : Array Value) (hw : own_hw a0 Z) (a1 : Addr) (k1 : ClassId) (x0 x1 : Int32) (h0 : Heap) (n0 : Nat) (Z0 : n0 ≤ h0.size) (O0 : Old Z n0 h0) (SU_ : own_SU Z) (VA : Arv Z h0 a1 k1 .char (2 : Int32) [(.int x0), (.int x1)] v'0) (hd0 : own_c16 x0) (hd1 : own_c16 x1) :
  own_M l Z [] own_y6 b'33 6 (some (.array .byte)) ⟨3, 2, 6, 40⟩ #[(.ref a1), v'0, v'2] h0 (QC2b Z x0 x1 h0 n0) := by
 obtain ⟨SAD, SHI, SLO⟩ := SU_
 refine own_start (n0 := n0) hw "java/lang/StringUTF16" (L := #[.val (.ref a1), .val v'0, .val v'2, .unset, .unset, .unset]) pn_33 (fun {p e s m below meth c s₁} q hx W hml hZ hown hnm hlk hrt X0 e0 N0 => ?_)
 have hby := q.2
 have kp0 := Keep.refl h0 []
 refine own_iln X0 q d33_0 rfl ?_
 refine own_let ?_; intro g156_
 obtain ⟨T157, h157, k157, X157, e157, E157, A157, st157⟩ := newP X0 hx hZ (W 21 rfl) e0 (g := g156_) rfl (q.d d33_1) rfl (by decide) (cap := 2) (by decide) (by decide) (by decide) (by decide)
 obtain ⟨b157, g157⟩ : ∃ z, z = h0.size := ⟨_, rfl⟩
 rw [← g157] at A157 st157
 have V157 : Arv Z h157 b157 k157 .byte (2 : Int32) [v'0, v'0] v'0 := (Arv.new A157 (by decide)).pad (pad_rep [] v'0 2)
 have zs158 := Nat.le_trans Z0 E157.1
 have od158 := O0.ext E157
 have kp158 := kp0.ext E157
 have g_b157 : n0 ≤ b157 := Nat.le_trans Z0 (Nat.le_of_eq g157.symm)
 have sz_b157 : h0.size ≤ b157 := Nat.le_trans kp0.1 (Nat.le_of_eq g157.symm)
 refine own_stp 3 st157 (own_asn X157 q d33_3 rfl (l' := #[.val (.ref a1), .val v'0, .val v'2, .val (.ref b157), .unset, .unset]) rfl (own_aln X157 q d33_4 rfl rfl (own_iln X157 q d33_5 rfl (own_aln X157 q d33_6 rfl rfl (own_k X157 q d33_7 (own_iln X157 q d33_8 rfl ?_))))))
 refine own_cSh X157 q hZ e157 hown hml (W 186 rfl) (W 187 rfl) (W 184 rfl) (W 188 rfl) (rm34_2 l Z a0 hw a1 b157 k1 k157 x0 x1 h157 n0 zs158 (VA.ext E157) V157 g_b157 (own_ne (VA).lt (Nat.le_of_eq g157.symm))) d33_9 [(.ref a1), v'0, (.ref b157), v'0, v'2] [] own_pd3 0 (by decide) (fun v159 T159 L159 h159 e159' X159 hQ159 => ?_)
 obtain ⟨z159, rfl, N159q, K159, D159⟩ := hQ159
 have N159 := Fr.app N0 N159q
 have zs160 := Nat.le_trans zs158 K159.1
 have od160 := od158.keep K159 (allS g_b157 all0)
 have kp160 := kp158.trans K159 (allS (Or.inr sz_b157) all0)
 refine own_nv ?_
 rcases D159 with ⟨hz, hA, hV⟩ | ⟨hz, hB⟩ | ⟨hz, hB⟩
 ·subst hz
  show own_Fin _ _ _ _ (T159.setTop (mkF m 12 #[.val (.ref a1), .val v'0, .val v'2, .val (.ref b157), .unset, .unset] [v'2]))
  refine own_is X159 q d33_12 (l' := #[.val (.ref a1), .val v'0, .val v'2, .val (.ref b157), .val v'2, .unset]) rfl (own_il X159 q d33_14 rfl (own_iln X159 q d33_16 rfl (own_cy X159 q d33_17 ((teq (rfl : (2 : Int32) = (2 : Int32))).1) (own_aln X159 q d33_57 rfl rfl ?_))))
  refine own_rA X159 q hrt d33_58 hlk (by decide) ?_
  show QC2b Z x0 x1 h0 n0 _ T159.heap _
  rw [e159']
  exact ⟨_, _, rfl, N159, own_extK kp160, sz_b157, Or.inl ⟨hA, hV⟩⟩
 ·subst hz
  show own_Fin _ _ _ _ (T159.setTop (mkF m 12 #[.val (.ref a1), .val v'0, .val v'2, .val (.ref b157), .unset, .unset] [v'0]))
  refine own_is X159 q d33_12 (l' := #[.val (.ref a1), .val v'0, .val v'2, .val (.ref b157), .val v'0, .unset]) rfl (own_il X159 q d33_14 rfl (own_iln X159 q d33_16 rfl (own_cn X159 q d33_17 ((feq ((by decide) : ¬ ((0 : Int32) = (2 : Int32)))).1) (own_aln X159 q d33_20 rfl rfl (own_iln X159 q d33_21 rfl (own_iln X159 q d33_22 rfl ?_))))))
  refine own_cSh X159 q hZ e159' hown hml (W 192 rfl) (W 193 rfl) (W 184 rfl) (W 194 rfl) (rm36_2 l Z a0 hw a1 k1 x0 x1 h159 n0 zs160 od160 ⟨SAD, SHI, SLO⟩ ((VA.ext E157).keep K159 (ninS (own_ne (VA).lt (Nat.le_of_eq g157.symm)) nin0))) d33_23 [(.ref a1), v'0, v'2] [] own_pd4 0 (by decide) (fun v161 T161 L161 h161 e161' X161 hQ161 => ?_)
  obtain ⟨b161, k161, rfl, N161q, E161, lo161, V161⟩ := hQ161
  have N161 := Fr.app N159 N161q
  have zs162 := Nat.le_trans zs160 E161.1
  have od162 := od160.ext E161
  have kp162 := kp160.ext E161
  have sz_b161 : h0.size ≤ b161 := Nat.le_trans kp160.1 lo161
  refine own_nv (own_as X161 q d33_26 rfl (l' := #[.val (.ref a1), .val v'0, .val v'2, .val (.ref b157), .val v'0, .val (.ref b161)]) rfl (own_al X161 q d33_28 rfl rfl (own_il X161 q d33_30 rfl ?_)))
  refine own_cS X161 q hZ e161' hown hml (W 208 rfl) (W 209 rfl) (W 184 rfl) (W 210 rfl) (rm40 l Z a0 hw b161 (0 : Int32) k161 _ 4 0 x0 h161 n0 zs162 od162 ⟨SAD, SHI, SLO⟩ V161 rfl (by decide) (by decide) rfl rfl) d33_32 [(.ref b161), v'0] [] own_pd5 0 (by decide) (fun v163 T163 L163 X163 hQ163 => ?_)
  obtain ⟨rfl, N163q, e163⟩ := hQ163
  have N163 := Fr.app N161 N163q
  refine own_nv (own_k X163 q d33_35 (own_cy X163 q d33_38 ((tlt ((by rw [own_gcE hd0]; exact hB) : (255 : Int32) < (own_gc x0))).2.2.1) (own_al X163 q d33_54 rfl rfl ?_)))
  refine own_rA X163 q hrt d33_56 hlk (by decide) ?_
  show QC2b Z x0 x1 h0 n0 _ T163.heap _
  rw [e163]
  exact ⟨_, _, rfl, N163, own_extK kp162, sz_b161, Or.inr ⟨(Or.inl hB), V161⟩⟩
 ·subst hz
  show own_Fin _ _ _ _ (T159.setTop (mkF m 12 #[.val (.ref a1), .val v'0, .val v'2, .val (.ref b157), .unset, .unset] [v'1]))
  refine own_is X159 q d33_12 (l' := #[.val (.ref a1), .val v'0, .val v'2, .val (.ref b157), .val v'1, .unset]) rfl (own_il X159 q d33_14 rfl (own_iln X159 q d33_16 rfl (own_cn X159 q d33_17 ((feq ((by decide) : ¬ ((1 : Int32) = (2 : Int32)))).1) (own_aln X159 q d33_20 rfl rfl (own_iln X159 q d33_21 rfl (own_iln X159 q d33_22 rfl ?_))))))
  refine own_cSh X159 q hZ e159' hown hml (W 192 rfl) (W 193 rfl) (W 184 rfl) (W 194 rfl) (rm36_2 l Z a0 hw a1 k1 x0 x1 h159 n0 zs160 od160 ⟨SAD, SHI, SLO⟩ ((VA.ext E157).keep K159 (ninS (own_ne (VA).lt (Nat.le_of_eq g157.symm)) nin0))) d33_23 [(.ref a1), v'0, v'2] [] own_pd4 0 (by decide) (fun v164 T164 L164 h164 e164' X164 hQ164 => ?_)
  obtain ⟨b164, k164, rfl, N164q, E164, lo164, V164⟩ := hQ164
  have N164 := Fr.app N159 N164q
  have zs165 := Nat.le_trans zs160 E164.1
  have od165 := od160.ext E164
  have kp165 := kp160.ext E164
  have sz_b164 : h0.size ≤ b164 := Nat.le_trans kp160.1 lo164
  refine own_nv (own_as X164 q d33_26 rfl (l' := #[.val (.ref a1), .val v'0, .val v'2, .val (.ref b157), .val v'1, .val (.ref b164)]) rfl (own_al X164 q d33_28 rfl rfl (own_il X164 q d33_30 rfl ?_)))
  refine own_cS X164 q hZ e164' hown hml (W 208 rfl) (W 209 rfl) (W 184 rfl) (W 210 rfl) (rm40 l Z a0 hw b164 (1 : Int32) k164 _ 4 1 x1 h164 n0 zs165 od165 ⟨SAD, SHI, SLO⟩ V164 rfl (by decide) (by decide) rfl rfl) d33_32 [(.ref b164), v'1] [] own_pd5 0 (by decide) (fun v166 T166 L166 X166 hQ166 => ?_)
  obtain ⟨rfl, N166q, e166⟩ := hQ166
  have N166 := Fr.app N164 N166q
  refine own_nv (own_k X166 q d33_35 (own_cy X166 q d33_38 ((tlt ((by rw [own_gcE hd1]; exact hB) : (255 : Int32) < (own_gc x1))).2.2.1) (own_al X166 q d33_54 rfl rfl ?_)))
  refine own_rA X166 q hrt d33_56 hlk (by decide) ?_
  show QC2b Z x0 x1 h0 n0 _ T166.heap _
  rw [e166]
  exact ⟨_, _, rfl, N166, own_extK kp165, sz_b164, Or.inr ⟨(Or.inr hB), V164⟩⟩
theorem rm35_2_2 (l : Launch) (Z : State) (a0 : Array Value) (hw : own_hw a0 Z) (a1 : Addr) (k1 : ClassId) (vs : List Value) (h0 : Heap) (n0 : Nat) (Z0 : n0 ≤ h0.size) (VA : Arv Z h0 a1 k1 .byte (2 : Int32) vs v'0) :
  own_M l Z [] own_y7 b'35 2 (some .byte) ⟨0, 0, 0, 0⟩ #[(.ref a1), v'2] h0 (QI (0 : Int32) h0 n0) := by
 refine own_start (n0 := n0) hw "java/lang/StringUTF16" (L := #[.val (.ref a1), .val v'2]) pn_35 (fun {p e s m below meth c s₁} q hx W hml hZ hown hnm hlk hrt X0 e0 N0 => ?_)
 refine own_iln X0 q d35_0 rfl (own_aln X0 q d35_1 rfl rfl (own_alen (n := (2 : Int32)) X0 q hZ e0 VA d35_2 (own_isubk 0 X0 q d35_3 (by decide) (own_k X0 q d35_4 (own_stp 7 (fun _ k => XS.iushr X0.here hx rfl (q.d d35_6) rfl k) ?_)))))
 rw [show (((0 : Int32).toUInt32 >>> ((31 : Int32) &&& 31).toUInt32).toInt32) = (0 : Int32) from by decide]
 refine own_stp 8 (fun _ k => XS.i2b X0.here hx rfl (q.d d35_7) rfl k) ?_
 rw [show ((0 : Int32).toInt8.toInt32) = (0 : Int32) from by decide]
 refine own_rN X0 q hrt (by simp) d35_8 hlk (by decide) ?_
 show QI (0 : Int32) h0 n0 _ s₁.heap _
 rw [e0]
 exact ⟨rfl, N0, rfl⟩
theorem rm35_2_4 (l : Launch) (Z : State) (a0 : Array Value) (hw : own_hw a0 Z) (a1 : Addr) (k1 : ClassId) (vs : List Value) (h0 : Heap) (n0 : Nat) (Z0 : n0 ≤ h0.size) (VA : Arv Z h0 a1 k1 .byte (4 : Int32) vs v'0) :
  own_M l Z [] own_y7 b'35 2 (some .byte) ⟨0, 0, 0, 0⟩ #[(.ref a1), v'2] h0 (QI (1 : Int32) h0 n0) := by
 refine own_start (n0 := n0) hw "java/lang/StringUTF16" (L := #[.val (.ref a1), .val v'2]) pn_35 (fun {p e s m below meth c s₁} q hx W hml hZ hown hnm hlk hrt X0 e0 N0 => ?_)
 refine own_iln X0 q d35_0 rfl (own_aln X0 q d35_1 rfl rfl (own_alen (n := (4 : Int32)) X0 q hZ e0 VA d35_2 (own_isubk (-2) X0 q d35_3 (by decide) (own_k X0 q d35_4 (own_stp 7 (fun _ k => XS.iushr X0.here hx rfl (q.d d35_6) rfl k) ?_)))))
 rw [show (((-2 : Int32).toUInt32 >>> ((31 : Int32) &&& 31).toUInt32).toInt32) = (1 : Int32) from by decide]
 refine own_stp 8 (fun _ k => XS.i2b X0.here hx rfl (q.d d35_7) rfl k) ?_
 rw [show ((1 : Int32).toInt8.toInt32) = (1 : Int32) from by decide]
 refine own_rN X0 q hrt (by simp) d35_8 hlk (by decide) ?_
 show QI (1 : Int32) h0 n0 _ s₁.heap _
 rw [e0]
 exact ⟨rfl, N0, rfl⟩
theorem rm3_2 (l : Launch) (Z : State) (a0 : Array Value) (hw : own_hw a0 Z) (a1 : Addr) (a2 : Addr) (k1 : ClassId) (x0 x1 : Int32) (cs0 : Int32) (h0 : Heap) (n0 : Nat) (Z0 : n0 ≤ h0.size) (E1 : Exa Z h0 a1 "java/lang/String") (FV : F'1 Z h0 a1 .null) (FC : F'0 Z h0 a1 v'0) (VA : Arv Z h0 a2 k1 .char (2 : Int32) [(.int x0), (.int x1)] v'0) (g1 : n0 ≤ a1) (n12 : a1 ≠ a2) (O0 : Old Z n0 h0) (SC_ : own_SC Z cs0) (SU_ : own_SU Z) (hd0 : own_c16 x0) (hd1 : own_c16 x1) :
  own_M l Z [] own_y8 b'3 6 none ⟨4, 2, 6, 57⟩ #[(.ref a1), (.ref a2), v'0, v'2, .null] h0 (QI2 Z a1 x0 x1 h0 n0) := by
 obtain ⟨SCS, hcs⟩ := SC_; obtain ⟨SAD, SHI, SLO⟩ := SU_
 refine own_start (n0 := n0) hw "java/lang/String" (L := #[.val (.ref a1), .val (.ref a2), .val v'0, .val v'2, .val .null, .unset]) pn_3 (fun {p e s m below meth c s₁} q hx W hml hZ hown hnm hlk hrt X0 e0 N0 => ?_)
 have hby := q.2
 have kp0 := Keep.refl h0 [a1]
 refine own_aln X0 q d3_0 rfl rfl ?_
 refine own_let ?_; intro g186_
 obtain ⟨T187, X187, e187, st187⟩ := initO X0 hx hZ hown (W 17 rfl) (W 18 rfl) (W 19 rfl) e0 (g := g186_) rfl (by rw [hml]; rfl) rfl (q.d d3_1) (by decide) (W := 0) (by show 2 * 0 + _ ≤ _; exact Nat.le_of_eq rfl) (by decide)
 refine own_stp 4 st187 (own_iln X187 q d3_4 rfl (own_zy X187 q d3_5 (((if0 _ _).trans (feq ((by decide) : ¬ ((2 : Int32) = (0 : Int32)))).2)) ?_))
 refine own_gS X187 q hZ e187 hown (W 99 rfl) (SCS.ext O0.2) d3_27 fun T188 X188 e188 => ?_
 refine own_zn X188 q d3_30 (((if0 _ _).trans (feq hcs).1)) (own_aln X188 q d3_33 rfl rfl (own_iln X188 q d3_34 rfl (own_iln X188 q d3_35 rfl ?_)))
 refine own_cSh X188 q hZ e188 hown hml (W 182 rfl) (W 183 rfl) (W 184 rfl) (W 185 rfl) (rm33_2 l Z a0 hw a2 k1 x0 x1 h0 n0 Z0 O0 ⟨SAD, SHI, SLO⟩ VA hd0 hd1) d3_36 [(.ref a2), v'0, v'2] [] own_pd4 0 (by decide) (fun v189 T189 L189 h189 e189' X189 hQ189 => ?_)
 obtain ⟨b189, k189, rfl, N189q, E189, lo189, D189⟩ := hQ189
 have N189 := Fr.app N0 N189q
 have zs190 := Nat.le_trans Z0 E189.1
 have kp190 := kp0.ext E189
 have sz_b189 : h0.size ≤ b189 := Nat.le_trans kp0.1 lo189
 refine own_nv ?_
 rcases D189 with ⟨hA, hV⟩ | ⟨hA, hV⟩
 ·have hV_ := hV
  show own_Fin _ _ _ _ (T189.setTop (mkF m 39 #[.val (.ref a1), .val (.ref a2), .val v'0, .val v'2, .val .null, .unset] [(.ref b189)]))
  refine own_as X189 q d3_39 rfl (l' := #[.val (.ref a1), .val (.ref a2), .val v'0, .val v'2, .val .null, .val (.ref b189)]) rfl (own_aln X189 q d3_41 rfl rfl (own_al X189 q d3_42 rfl rfl (own_iln X189 q d3_44 rfl ?_)))
  refine own_cS X189 q hZ e189' hown hml (W 189 rfl) (W 190 rfl) (W 184 rfl) (W 191 rfl) (rm35_2_2 l Z a0 hw b189 k189 _ h189 n0 zs190 hV) d3_45 [(.ref b189), v'2] [(.ref a1)] own_pd6 1 (by decide) (fun v191 T191 L191 X191 hQ191 => ?_)
  obtain ⟨rfl, N191q, e191⟩ := hQ191
  have N191 := Fr.app N189 N191q
  refine own_nv ?_
  refine own_let ?_; intro g192_
  obtain ⟨T193, h193, X193, e193, W193, st193⟩ := putFN X191 hx hZ hown (W 27 rfl) Via.refl e191 (FC.ext E189) (E1.ext E189) (Or.inr ⟨(W 23 rfl), rfl, hnm⟩) (W 7 rfl) (ty := .byte) (v' := v'0) (by decide) rfl rfl (g := g192_) rfl rfl (q.d d3_48)
  have kp194 := kp190.wr W193 (own_i0)
  have Fw193 := ((FC.ext E189)).same W193
  have N193 := Fr.snoc X193 N191 g1
  refine own_stp 51 st193 (own_aln X193 q d3_51 rfl rfl (own_al X193 q d3_52 rfl rfl ?_))
  refine own_let ?_; intro g195_
  obtain ⟨T196, h196, X196, e196, W196, st196⟩ := putF X193 hx hZ hown (host := "") (Or.inl (W 26 rfl)) Via.refl e193 ((FV.ext E189).other W193 (Or.inr (slot_ne (Or.inr (W 22 rfl)) (Or.inr (W 23 rfl)) (by decide) (t := (.array .byte)) (t' := .byte) (by decide) (by decide)))) ((E1.ext E189).wr W193) (Or.inr ⟨(W 22 rfl), rfl, hnm⟩) (W 7 rfl) (ty := (.array .byte)) (by decide) rfl rfl (g := g195_) rfl rfl (q.d d3_54)
  have kp197 := kp194.wr W196 (own_i0)
  have Fw196 := (((FV.ext E189).other W193 (Or.inr (slot_ne (Or.inr (W 22 rfl)) (Or.inr (W 23 rfl)) (by decide) (t := (.array .byte)) (t' := .byte) (by decide) (by decide))))).same W196
  have N196 := Fr.snoc X196 N193 g1
  refine own_stp 57 st196 ?_
  refine own_rV X196 q hrt d3_57 hlk (by decide) ?_
  show QI2 Z a1 x0 x1 h0 n0 _ T196.heap _
  rw [e196]
  exact ⟨_, _, rfl, N196, kp197, sz_b189, Fw196, Or.inl ⟨(Fw193.other W196 (Or.inr (slot_ne (Or.inr (W 23 rfl)) (Or.inr (W 22 rfl)) (by decide) (t := .byte) (t' := (.array .byte)) (by decide) (by decide)))), hA, ((hV.other W193 (Ne.symm (own_ne (E1).lt lo189))).other W196 (Ne.symm (own_ne (E1).lt lo189)))⟩⟩
 ·have hV_ := hV
  show own_Fin _ _ _ _ (T189.setTop (mkF m 39 #[.val (.ref a1), .val (.ref a2), .val v'0, .val v'2, .val .null, .unset] [(.ref b189)]))
  refine own_as X189 q d3_39 rfl (l' := #[.val (.ref a1), .val (.ref a2), .val v'0, .val v'2, .val .null, .val (.ref b189)]) rfl (own_aln X189 q d3_41 rfl rfl (own_al X189 q d3_42 rfl rfl (own_iln X189 q d3_44 rfl ?_)))
  refine own_cS X189 q hZ e189' hown hml (W 189 rfl) (W 190 rfl) (W 184 rfl) (W 191 rfl) (rm35_2_4 l Z a0 hw b189 k189 _ h189 n0 zs190 hV) d3_45 [(.ref b189), v'2] [(.ref a1)] own_pd6 1 (by decide) (fun v198 T198 L198 X198 hQ198 => ?_)
  obtain ⟨rfl, N198q, e198⟩ := hQ198
  have N198 := Fr.app N189 N198q
  refine own_nv ?_
  refine own_let ?_; intro g199_
  obtain ⟨T200, h200, X200, e200, W200, st200⟩ := putFN X198 hx hZ hown (W 27 rfl) Via.refl e198 (FC.ext E189) (E1.ext E189) (Or.inr ⟨(W 23 rfl), rfl, hnm⟩) (W 7 rfl) (ty := .byte) (v' := v'1) (by decide) rfl rfl (g := g199_) rfl rfl (q.d d3_48)
  have kp201 := kp190.wr W200 (own_i0)
  have Fw200 := ((FC.ext E189)).same W200
  have N200 := Fr.snoc X200 N198 g1
  refine own_stp 51 st200 (own_aln X200 q d3_51 rfl rfl (own_al X200 q d3_52 rfl rfl ?_))
  refine own_let ?_; intro g202_
  obtain ⟨T203, h203, X203, e203, W203, st203⟩ := putF X200 hx hZ hown (host := "") (Or.inl (W 26 rfl)) Via.refl e200 ((FV.ext E189).other W200 (Or.inr (slot_ne (Or.inr (W 22 rfl)) (Or.inr (W 23 rfl)) (by decide) (t := (.array .byte)) (t' := .byte) (by decide) (by decide)))) ((E1.ext E189).wr W200) (Or.inr ⟨(W 22 rfl), rfl, hnm⟩) (W 7 rfl) (ty := (.array .byte)) (by decide) rfl rfl (g := g202_) rfl rfl (q.d d3_54)
  have kp204 := kp201.wr W203 (own_i0)
  have Fw203 := (((FV.ext E189).other W200 (Or.inr (slot_ne (Or.inr (W 22 rfl)) (Or.inr (W 23 rfl)) (by decide) (t := (.array .byte)) (t' := .byte) (by decide) (by decide))))).same W203
  have N203 := Fr.snoc X203 N200 g1
  refine own_stp 57 st203 ?_
  refine own_rV X203 q hrt d3_57 hlk (by decide) ?_
  show QI2 Z a1 x0 x1 h0 n0 _ T203.heap _
  rw [e203]
  exact ⟨_, _, rfl, N203, kp204, sz_b189, Fw203, Or.inr ⟨(Fw200.other W203 (Or.inr (slot_ne (Or.inr (W 23 rfl)) (Or.inr (W 22 rfl)) (by decide) (t := .byte) (t' := (.array .byte)) (by decide) (by decide)))), hA, ((hV.other W200 (Ne.symm (own_ne (E1).lt lo189))).other W203 (Ne.symm (own_ne (E1).lt lo189)))⟩⟩
theorem rm2_2 (l : Launch) (Z : State) (a0 : Array Value) (hw : own_hw a0 Z) (a1 : Addr) (a2 : Addr) (k1 : ClassId) (x0 x1 : Int32) (cs0 : Int32) (h0 : Heap) (n0 : Nat) (Z0 : n0 ≤ h0.size) (E1 : Exa Z h0 a1 "java/lang/String") (FV : F'1 Z h0 a1 .null) (FC : F'0 Z h0 a1 v'0) (VA : Arv Z h0 a2 k1 .char (2 : Int32) [(.int x0), (.int x1)] v'0) (g1 : n0 ≤ a1) (n12 : a1 ≠ a2) (O0 : Old Z n0 h0) (SC_ : own_SC Z cs0) (SU_ : own_SU Z) (hd0 : own_c16 x0) (hd1 : own_c16 x1) :
  own_M l Z [] own_y9 b'2 2 none ⟨5, 2, 6, 74⟩ #[(.ref a1), (.ref a2)] h0 (QI2 Z a1 x0 x1 h0 n0) := by
 obtain ⟨SCS, hcs⟩ := SC_; obtain ⟨SAD, SHI, SLO⟩ := SU_
 refine own_start (n0 := n0) hw "java/lang/String" (L := #[.val (.ref a1), .val (.ref a2)]) pn_2 (fun {p e s m below meth c s₁} q hx W hml hZ hown hnm hlk hrt X0 e0 N0 => ?_)
 have kp0 := Keep.refl h0 [a1]
 refine own_aln X0 q d2_0 rfl rfl (own_aln X0 q d2_1 rfl rfl (own_k X0 q d2_2 (own_aln X0 q d2_3 rfl rfl (own_alen (n := (2 : Int32)) X0 q hZ e0 VA d2_4 (own_nl X0 q d2_5 ?_)))))
 refine own_cIh (a := a1) X0 q hZ e0 hown hml (W 13 rfl) (W 14 rfl) (W 8 rfl) (W 16 rfl) (rm3_2 l Z a0 hw a1 a2 k1 x0 x1 cs0 h0 n0 Z0 E1 FV FC VA g1 n12 O0 ⟨SCS, hcs⟩ ⟨SAD, SHI, SLO⟩ hd0 hd1) d2_6 [(.ref a2), v'0, v'2, .null] [] own_pd7 0 rfl (by decide) (fun v207 T207 L207 h207 e207' X207 hQ207 => ?_)
 obtain ⟨t207, k207, rfl, N207q, K207, lo207, Fv207, D207⟩ := hQ207
 have N207 := Fr.app N0 N207q
 have kp208 := kp0.trans K207 (allS (own_i0) all0)
 have sz_t207 : h0.size ≤ t207 := Nat.le_trans kp0.1 lo207
 refine own_nn ?_
 refine own_rV X207 q hrt d2_9 hlk (by decide) ?_
 show QI2 Z a1 x0 x1 h0 n0 _ T207.heap _
 rw [e207']
 exact ⟨_, _, rfl, N207, kp208, sz_t207, Fv207, D207⟩
theorem rm34_3 (l : Launch) (Z : State) (a0 : Array Value) (hw : own_hw a0 Z) (a1 : Addr) (b : Addr) (k1 k2 : ClassId) (x0 x1 x2 : Int32) (h0 : Heap) (n0 : Nat) (Z0 : n0 ≤ h0.size) (VA : Arv Z h0 a1 k1 .char (3 : Int32) [(.int x0), (.int x1), (.int x2)] v'0) (VB : Arv Z h0 b k2 .byte (3 : Int32) [v'0, v'0, v'0] v'0) (gb : n0 ≤ b) (nab : a1 ≠ b) :
  own_M l Z [] own_y1 b'34 7 (some .int) ⟨0, 0, 0, 0⟩ #[(.ref a1), v'0, (.ref b), v'0, v'3] h0 (QC3a Z b k2 x0 x1 x2 h0 n0) := by
 refine own_start (n0 := n0) hw "java/lang/StringUTF16" (L := #[.val (.ref a1), .val v'0, .val (.ref b), .val v'0, .val v'3, .unset, .unset]) pn_34 (fun {p e s m below meth c s₁} q hx W hml hZ hown hnm hlk hrt X0 e0 N0 => ?_)
 have kp0 := Keep.refl h0 [b]
 refine own_k X0 q d34_0 (own_is X0 q d34_1 (l' := #[.val (.ref a1), .val v'0, .val (.ref b), .val v'0, .val v'3, .val v'0, .unset]) rfl (own_il X0 q d34_3 rfl (own_il X0 q d34_5 rfl (own_cn X0 q d34_7 ((tlt ((by decide) : (0 : Int32) < (3 : Int32))).2.1) (own_aln X0 q d34_10 rfl rfl (own_iln X0 q d34_11 rfl (own_cld (v := (.int x0)) X0 q hZ e0 VA d34_12 (by decide) rfl (own_is X0 q d34_13 (l' := #[.val (.ref a1), .val v'0, .val (.ref b), .val v'0, .val v'3, .val v'0, .val (.int x0)]) rfl (own_il X0 q d34_15 rfl (own_k X0 q d34_17 ?_))))))))))
 by_cases hc20_218 : (255 : Int32) < x0
 ·refine own_cn X0 q d34_20 ((tlt hc20_218).2.2.2) (own_il X0 q d34_23 rfl ?_)
  refine own_rI X0 q hrt d34_25 hlk (by decide) ?_
  show QC3a Z b k2 x0 x1 x2 h0 n0 _ s₁.heap _
  rw [e0]
  exact ⟨_, rfl, N0, kp0, Or.inr (Or.inl ⟨rfl, hc20_218⟩)⟩
 ·refine own_cy X0 q d34_20 ((flt hc20_218).2.2.2) (own_aln X0 q d34_26 rfl rfl (own_iln X0 q d34_27 rfl (own_il X0 q d34_28 rfl (own_stp 31 (fun _ k => XS.i2b X0.here hx rfl (q.d d34_30) rfl k) ?_))))
  refine own_bst X0 q hZ e0 VB d34_31 (by decide) (Nat.le_of_ble_eq_true rfl) N0 gb fun T219 h219 X219 e219 W219 V219 N219 => ?_
  have kp220 := kp0.wr W219 (own_i0)
  refine own_iik X219 q d34_32 rfl (show ((0 : Int32) + (1 : Int32)) = (1 : Int32) by decide) (l' := #[.val (.ref a1), .val v'1, .val (.ref b), .val v'0, .val v'3, .val v'0, .val (.int x0)]) rfl (own_iik X219 q d34_35 rfl (show ((0 : Int32) + (1 : Int32)) = (1 : Int32) by decide) (l' := #[.val (.ref a1), .val v'1, .val (.ref b), .val v'1, .val v'3, .val v'0, .val (.int x0)]) rfl (own_iik X219 q d34_38 rfl (show ((0 : Int32) + (1 : Int32)) = (1 : Int32) by decide) (l' := #[.val (.ref a1), .val v'1, .val (.ref b), .val v'1, .val v'3, .val v'1, .val (.int x0)]) rfl (own_gt X219 q d34_41 (own_il X219 q d34_3 rfl (own_il X219 q d34_5 rfl (own_cn X219 q d34_7 ((tlt ((by decide) : (1 : Int32) < (3 : Int32))).2.1) (own_aln X219 q d34_10 rfl rfl (own_iln X219 q d34_11 rfl (own_cld (v := (.int x1)) X219 q hZ e219 (VA.other W219 nab) d34_12 (by decide) rfl (own_is X219 q d34_13 (l' := #[.val (.ref a1), .val v'1, .val (.ref b), .val v'1, .val v'3, .val v'1, .val (.int x1)]) rfl (own_il X219 q d34_15 rfl ?_)))))))))))
  refine own_k X219 q d34_17 ?_
  by_cases hc20_221 : (255 : Int32) < x1
  ·refine own_cn X219 q d34_20 ((tlt hc20_221).2.2.2) (own_il X219 q d34_23 rfl ?_)
   refine own_rI X219 q hrt d34_25 hlk (by decide) ?_
   show QC3a Z b k2 x0 x1 x2 h0 n0 _ T219.heap _
   rw [e219]
   exact ⟨_, rfl, N219, kp220, Or.inr (Or.inr (Or.inl ⟨rfl, hc20_221⟩))⟩
  ·refine own_cy X219 q d34_20 ((flt hc20_221).2.2.2) (own_aln X219 q d34_26 rfl rfl (own_iln X219 q d34_27 rfl (own_il X219 q d34_28 rfl (own_stp 31 (fun _ k => XS.i2b X219.here hx rfl (q.d d34_30) rfl k) ?_))))
   refine own_bst X219 q hZ e219 V219 d34_31 (by decide) (Nat.le_of_ble_eq_true rfl) N219 gb fun T222 h222 X222 e222 W222 V222 N222 => ?_
   have kp223 := kp220.wr W222 (own_i0)
   refine own_iik X222 q d34_32 rfl (show ((1 : Int32) + (1 : Int32)) = (2 : Int32) by decide) (l' := #[.val (.ref a1), .val v'2, .val (.ref b), .val v'1, .val v'3, .val v'1, .val (.int x1)]) rfl (own_iik X222 q d34_35 rfl (show ((1 : Int32) + (1 : Int32)) = (2 : Int32) by decide) (l' := #[.val (.ref a1), .val v'2, .val (.ref b), .val v'2, .val v'3, .val v'1, .val (.int x1)]) rfl (own_iik X222 q d34_38 rfl (show ((1 : Int32) + (1 : Int32)) = (2 : Int32) by decide) (l' := #[.val (.ref a1), .val v'2, .val (.ref b), .val v'2, .val v'3, .val v'2, .val (.int x1)]) rfl (own_gt X222 q d34_41 (own_il X222 q d34_3 rfl (own_il X222 q d34_5 rfl (own_cn X222 q d34_7 ((tlt ((by decide) : (2 : Int32) < (3 : Int32))).2.1) (own_aln X222 q d34_10 rfl rfl (own_iln X222 q d34_11 rfl (own_cld (v := (.int x2)) X222 q hZ e222 ((VA.other W219 nab).other W222 nab) d34_12 (by decide) rfl (own_is X222 q d34_13 (l' := #[.val (.ref a1), .val v'2, .val (.ref b), .val v'2, .val v'3, .val v'2, .val (.int x2)]) rfl (own_il X222 q d34_15 rfl ?_)))))))))))
   refine own_k X222 q d34_17 ?_
   by_cases hc20_224 : (255 : Int32) < x2
   ·refine own_cn X222 q d34_20 ((tlt hc20_224).2.2.2) (own_il X222 q d34_23 rfl ?_)
    refine own_rI X222 q hrt d34_25 hlk (by decide) ?_
    show QC3a Z b k2 x0 x1 x2 h0 n0 _ T222.heap _
    rw [e222]
    exact ⟨_, rfl, N222, kp223, Or.inr (Or.inr (Or.inr ⟨rfl, hc20_224⟩))⟩
   ·refine own_cy X222 q d34_20 ((flt hc20_224).2.2.2) (own_aln X222 q d34_26 rfl rfl (own_iln X222 q d34_27 rfl (own_il X222 q d34_28 rfl (own_stp 31 (fun _ k => XS.i2b X222.here hx rfl (q.d d34_30) rfl k) ?_))))
    refine own_bst X222 q hZ e222 V222 d34_31 (by decide) (Nat.le_of_ble_eq_true rfl) N222 gb fun T225 h225 X225 e225 W225 V225 N225 => ?_
    have kp226 := kp223.wr W225 (own_i0)
    refine own_iik X225 q d34_32 rfl (show ((2 : Int32) + (1 : Int32)) = (3 : Int32) by decide) (l' := #[.val (.ref a1), .val v'3, .val (.ref b), .val v'2, .val v'3, .val v'2, .val (.int x2)]) rfl (own_iik X225 q d34_35 rfl (show ((2 : Int32) + (1 : Int32)) = (3 : Int32) by decide) (l' := #[.val (.ref a1), .val v'3, .val (.ref b), .val v'3, .val v'3, .val v'2, .val (.int x2)]) rfl (own_iik X225 q d34_38 rfl (show ((2 : Int32) + (1 : Int32)) = (3 : Int32) by decide) (l' := #[.val (.ref a1), .val v'3, .val (.ref b), .val v'3, .val v'3, .val v'3, .val (.int x2)]) rfl (own_gt X225 q d34_41 (own_il X225 q d34_3 rfl (own_il X225 q d34_5 rfl (own_cy X225 q d34_7 ((flt (Int32.lt_irrefl : ¬ ((3 : Int32) < (3 : Int32)))).2.1) (own_il X225 q d34_44 rfl ?_)))))))
    refine own_rI X225 q hrt d34_46 hlk (by decide) ?_
    show QC3a Z b k2 x0 x1 x2 h0 n0 _ T225.heap _
    rw [e225]
    exact ⟨_, rfl, N225, kp226, Or.inl ⟨rfl, ⟨hc20_218, hc20_221, hc20_224⟩, V225⟩⟩
theorem rm37_3 (l : Launch) (Z : State) (a0 : Array Value) (hw : own_hw a0 Z)   (h0 : Heap) (n0 : Nat) (Z0 : n0 ≤ h0.size) :
  own_M l Z [] own_y4 b'37 1 (some (.array .byte)) ⟨1, 1, 6, 12⟩ #[v'3] h0 (QNB3 Z h0 n0) := by
 refine own_start (n0 := n0) hw "java/lang/StringUTF16" (L := #[.val v'3]) pn_37 (fun {p e s m below meth c s₁} q hx W hml hZ hown hnm hlk hrt X0 e0 N0 => ?_)
 have kp0 := Keep.refl h0 []
 refine own_iln X0 q d37_0 rfl ?_
 refine own_cS X0 q hZ e0 hown hml (W 198 rfl) (W 199 rfl) (W 184 rfl) (W 200 rfl) (rm38 l Z a0 hw (3 : Int32) (6 : Int32) h0 n0 Z0 (by decide) (by decide) (by decide)) d37_1 [v'3] [] own_pd0 0 (by decide) (fun v231 T231 L231 X231 hQ231 => ?_)
 obtain ⟨rfl, N231q, e231⟩ := hQ231
 have N231 := Fr.app N0 N231q
 refine own_nv ?_
 refine own_let ?_; intro g232_
 obtain ⟨T233, h233, k233, X233, e233, E233, A233, st233⟩ := newP X231 hx hZ (W 21 rfl) e231 (g := g232_) rfl (q.d d37_4) rfl (by decide) (cap := 6) (by decide) (by decide) (by decide) (by decide)
 obtain ⟨b233, g233⟩ : ∃ z, z = h0.size := ⟨_, rfl⟩
 rw [← g233] at A233 st233
 have V233 : Arv Z h233 b233 k233 .byte (6 : Int32) [v'0, v'0, v'0, v'0, v'0, v'0] v'0 := (Arv.new A233 (by decide)).pad (pad_rep [] v'0 6)
 have kp234 := kp0.ext E233
 have sz_b233 : h0.size ≤ b233 := Nat.le_trans kp0.1 (Nat.le_of_eq g233.symm)
 refine own_stp 6 st233 ?_
 refine own_rA X233 q hrt d37_6 hlk (by decide) ?_
 show QNB3 Z h0 n0 _ T233.heap _
 rw [e233]
 exact ⟨_, _, rfl, N231, own_extK kp234, sz_b233, V233⟩
theorem rm36_3 (l : Launch) (Z : State) (a0 : Array Value) (hw : own_hw a0 Z) (a1 : Addr) (k1 : ClassId) (x0 x1 x2 : Int32) (h0 : Heap) (n0 : Nat) (Z0 : n0 ≤ h0.size) (O0 : Old Z n0 h0) (SU_ : own_SU Z) (VA : Arv Z h0 a1 k1 .char (3 : Int32) [(.int x0), (.int x1), (.int x2)] v'0) :
  own_M l Z [] own_y5 b'36 5 (some (.array .byte)) ⟨2, 1, 6, 24⟩ #[(.ref a1), v'0, v'3] h0 (QTB3 Z x0 x1 x2 h0 n0) := by
 obtain ⟨SAD, SHI, SLO⟩ := SU_
 refine own_start (n0 := n0) hw "java/lang/StringUTF16" (L := #[.val (.ref a1), .val v'0, .val v'3, .unset, .unset]) pn_36 (fun {p e s m below meth c s₁} q hx W hml hZ hown hnm hlk hrt X0 e0 N0 => ?_)
 have kp0 := Keep.refl h0 []
 refine own_iln X0 q d36_0 rfl ?_
 refine own_cSh X0 q hZ e0 hown hml (W 195 rfl) (W 196 rfl) (W 184 rfl) (W 197 rfl) (rm37_3 l Z a0 hw h0 n0 Z0) d36_1 [v'3] [] own_pd1 0 (by decide) (fun v243 T243 L243 h243 e243' X243 hQ243 => ?_)
 obtain ⟨b243, k243, rfl, N243q, E243, lo243, V243⟩ := hQ243
 have N243 := Fr.app N0 N243q
 have zs244 := Nat.le_trans Z0 E243.1
 have od244 := O0.ext E243
 have kp244 := kp0.ext E243
 have g_b243 : n0 ≤ b243 := Nat.le_trans Z0 lo243
 have sz_b243 : h0.size ≤ b243 := Nat.le_trans kp0.1 lo243
 refine own_nv (own_asn X243 q d36_4 rfl (l' := #[.val (.ref a1), .val v'0, .val v'3, .val (.ref b243), .unset]) rfl (own_k X243 q d36_5 (own_is X243 q d36_6 (l' := #[.val (.ref a1), .val v'0, .val v'3, .val (.ref b243), .val v'0]) rfl (own_il X243 q d36_8 rfl (own_iln X243 q d36_10 rfl (own_cn X243 q d36_11 ((tlt ((by decide) : (0 : Int32) < (3 : Int32))).2.1) (own_aln X243 q d36_14 rfl rfl (own_il X243 q d36_15 rfl (own_aln X243 q d36_17 rfl rfl (own_iln X243 q d36_18 rfl (own_cld (v := (.int x0)) X243 q hZ e243' (VA.ext E243) d36_19 (by decide) rfl ?_)))))))))))
 refine own_cSh X243 q hZ e243' hown hml (W 202 rfl) (W 203 rfl) (W 184 rfl) (W 204 rfl) (rm39 l Z a0 hw b243 (0 : Int32) x0 k243 _ 6 0 h243 n0 zs244 od244 ⟨SAD, SHI, SLO⟩ V243 rfl (by decide) (by decide) rfl g_b243) d36_20 [(.ref b243), v'0, (.int x0)] [] own_pd2 0 (by decide) (fun v245 T245 L245 h245 e245' X245 hQ245 => ?_)
 obtain ⟨rfl, N245q, K245, V245⟩ := hQ245
 have N245 := Fr.app N243 N245q
 have zs246 := Nat.le_trans zs244 K245.1
 have od246 := od244.keep K245 (allS g_b243 all0)
 have kp246 := kp244.trans K245 (allS (Or.inr sz_b243) all0)
 refine own_nn (own_iik X245 q d36_23 rfl (show ((0 : Int32) + (1 : Int32)) = (1 : Int32) by decide) (l' := #[.val (.ref a1), .val v'1, .val v'3, .val (.ref b243), .val v'0]) rfl (own_iik X245 q d36_26 rfl (show ((0 : Int32) + (1 : Int32)) = (1 : Int32) by decide) (l' := #[.val (.ref a1), .val v'1, .val v'3, .val (.ref b243), .val v'1]) rfl (own_gt X245 q d36_29 (own_il X245 q d36_8 rfl (own_iln X245 q d36_10 rfl (own_cn X245 q d36_11 ((tlt ((by decide) : (1 : Int32) < (3 : Int32))).2.1) (own_aln X245 q d36_14 rfl rfl (own_il X245 q d36_15 rfl (own_aln X245 q d36_17 rfl rfl (own_iln X245 q d36_18 rfl (own_cld (v := (.int x1)) X245 q hZ e245' ((VA.ext E243).keep K245 (ninS (own_ne (VA).lt lo243) nin0)) d36_19 (by decide) rfl ?_)))))))))))
 refine own_cSh X245 q hZ e245' hown hml (W 202 rfl) (W 203 rfl) (W 184 rfl) (W 204 rfl) (rm39 l Z a0 hw b243 (1 : Int32) x1 k243 _ 6 1 h245 n0 zs246 od246 ⟨SAD, SHI, SLO⟩ V245 rfl (by decide) (by decide) rfl g_b243) d36_20 [(.ref b243), v'1, (.int x1)] [] own_pd2 0 (by decide) (fun v247 T247 L247 h247 e247' X247 hQ247 => ?_)
 obtain ⟨rfl, N247q, K247, V247⟩ := hQ247
 have N247 := Fr.app N245 N247q
 have zs248 := Nat.le_trans zs246 K247.1
 have od248 := od246.keep K247 (allS g_b243 all0)
 have kp248 := kp246.trans K247 (allS (Or.inr sz_b243) all0)
 refine own_nn (own_iik X247 q d36_23 rfl (show ((1 : Int32) + (1 : Int32)) = (2 : Int32) by decide) (l' := #[.val (.ref a1), .val v'2, .val v'3, .val (.ref b243), .val v'1]) rfl (own_iik X247 q d36_26 rfl (show ((1 : Int32) + (1 : Int32)) = (2 : Int32) by decide) (l' := #[.val (.ref a1), .val v'2, .val v'3, .val (.ref b243), .val v'2]) rfl (own_gt X247 q d36_29 (own_il X247 q d36_8 rfl (own_iln X247 q d36_10 rfl (own_cn X247 q d36_11 ((tlt ((by decide) : (2 : Int32) < (3 : Int32))).2.1) (own_aln X247 q d36_14 rfl rfl (own_il X247 q d36_15 rfl (own_aln X247 q d36_17 rfl rfl (own_iln X247 q d36_18 rfl (own_cld (v := (.int x2)) X247 q hZ e247' (((VA.ext E243).keep K245 (ninS (own_ne (VA).lt lo243) nin0)).keep K247 (ninS (own_ne (VA).lt lo243) nin0)) d36_19 (by decide) rfl ?_)))))))))))
 refine own_cSh X247 q hZ e247' hown hml (W 202 rfl) (W 203 rfl) (W 184 rfl) (W 204 rfl) (rm39 l Z a0 hw b243 (2 : Int32) x2 k243 _ 6 2 h247 n0 zs248 od248 ⟨SAD, SHI, SLO⟩ V247 rfl (by decide) (by decide) rfl g_b243) d36_20 [(.ref b243), v'2, (.int x2)] [] own_pd2 0 (by decide) (fun v249 T249 L249 h249 e249' X249 hQ249 => ?_)
 obtain ⟨rfl, N249q, K249, V249⟩ := hQ249
 have N249 := Fr.app N247 N249q
 have kp250 := kp248.trans K249 (allS (Or.inr sz_b243) all0)
 refine own_nn (own_iik X249 q d36_23 rfl (show ((2 : Int32) + (1 : Int32)) = (3 : Int32) by decide) (l' := #[.val (.ref a1), .val v'3, .val v'3, .val (.ref b243), .val v'2]) rfl (own_iik X249 q d36_26 rfl (show ((2 : Int32) + (1 : Int32)) = (3 : Int32) by decide) (l' := #[.val (.ref a1), .val v'3, .val v'3, .val (.ref b243), .val v'3]) rfl (own_gt X249 q d36_29 (own_il X249 q d36_8 rfl (own_iln X249 q d36_10 rfl (own_cy X249 q d36_11 ((flt (Int32.lt_irrefl : ¬ ((3 : Int32) < (3 : Int32)))).2.1) (own_aln X249 q d36_32 rfl rfl ?_)))))))
 refine own_rA X249 q hrt d36_33 hlk (by decide) ?_
 show QTB3 Z x0 x1 x2 h0 n0 _ T249.heap _
 rw [e249']
 exact ⟨_, _, rfl, N249, own_extK kp250, sz_b243, V249⟩
theorem rm33_3 (l : Launch) (Z : State) (a0 : Array Value) (hw : own_hw a0 Z) (a1 : Addr) (k1 : ClassId) (x0 x1 x2 : Int32) (h0 : Heap) (n0 : Nat) (Z0 : n0 ≤ h0.size) (O0 : Old Z n0 h0) (SU_ : own_SU Z) (VA : Arv Z h0 a1 k1 .char (3 : Int32) [(.int x0), (.int x1), (.int x2)] v'0) (hd0 : own_c16 x0) (hd1 : own_c16 x1) (hd2 : own_c16 x2) :
  own_M l Z [] own_y6 b'33 6 (some (.array .byte)) ⟨3, 2, 9, 40⟩ #[(.ref a1), v'0, v'3] h0 (QC3b Z x0 x1 x2 h0 n0) := by
 obtain ⟨SAD, SHI, SLO⟩ := SU_
 refine own_start (n0 := n0) hw "java/lang/StringUTF16" (L := #[.val (.ref a1), .val v'0, .val v'3, .unset, .unset, .unset]) pn_33 (fun {p e s m below meth c s₁} q hx W hml hZ hown hnm hlk hrt X0 e0 N0 => ?_)
 have hby := q.2
 have kp0 := Keep.refl h0 []
 refine own_iln X0 q d33_0 rfl ?_
 refine own_let ?_; intro g265_
 obtain ⟨T266, h266, k266, X266, e266, E266, A266, st266⟩ := newP X0 hx hZ (W 21 rfl) e0 (g := g265_) rfl (q.d d33_1) rfl (by decide) (cap := 3) (by decide) (by decide) (by decide) (by decide)
 obtain ⟨b266, g266⟩ : ∃ z, z = h0.size := ⟨_, rfl⟩
 rw [← g266] at A266 st266
 have V266 : Arv Z h266 b266 k266 .byte (3 : Int32) [v'0, v'0, v'0] v'0 := (Arv.new A266 (by decide)).pad (pad_rep [] v'0 3)
 have zs267 := Nat.le_trans Z0 E266.1
 have od267 := O0.ext E266
 have kp267 := kp0.ext E266
 have g_b266 : n0 ≤ b266 := Nat.le_trans Z0 (Nat.le_of_eq g266.symm)
 have sz_b266 : h0.size ≤ b266 := Nat.le_trans kp0.1 (Nat.le_of_eq g266.symm)
 refine own_stp 3 st266 (own_asn X266 q d33_3 rfl (l' := #[.val (.ref a1), .val v'0, .val v'3, .val (.ref b266), .unset, .unset]) rfl (own_aln X266 q d33_4 rfl rfl (own_iln X266 q d33_5 rfl (own_aln X266 q d33_6 rfl rfl (own_k X266 q d33_7 (own_iln X266 q d33_8 rfl ?_))))))
 refine own_cSh X266 q hZ e266 hown hml (W 186 rfl) (W 187 rfl) (W 184 rfl) (W 188 rfl) (rm34_3 l Z a0 hw a1 b266 k1 k266 x0 x1 x2 h266 n0 zs267 (VA.ext E266) V266 g_b266 (own_ne (VA).lt (Nat.le_of_eq g266.symm))) d33_9 [(.ref a1), v'0, (.ref b266), v'0, v'3] [] own_pd3 0 (by decide) (fun v268 T268 L268 h268 e268' X268 hQ268 => ?_)
 obtain ⟨z268, rfl, N268q, K268, D268⟩ := hQ268
 have N268 := Fr.app N0 N268q
 have zs269 := Nat.le_trans zs267 K268.1
 have od269 := od267.keep K268 (allS g_b266 all0)
 have kp269 := kp267.trans K268 (allS (Or.inr sz_b266) all0)
 refine own_nv ?_
 rcases D268 with ⟨hz, hA, hV⟩ | ⟨hz, hB⟩ | ⟨hz, hB⟩ | ⟨hz, hB⟩
 ·subst hz
  show own_Fin _ _ _ _ (T268.setTop (mkF m 12 #[.val (.ref a1), .val v'0, .val v'3, .val (.ref b266), .unset, .unset] [v'3]))
  refine own_is X268 q d33_12 (l' := #[.val (.ref a1), .val v'0, .val v'3, .val (.ref b266), .val v'3, .unset]) rfl (own_il X268 q d33_14 rfl (own_iln X268 q d33_16 rfl (own_cy X268 q d33_17 ((teq (rfl : (3 : Int32) = (3 : Int32))).1) (own_aln X268 q d33_57 rfl rfl ?_))))
  refine own_rA X268 q hrt d33_58 hlk (by decide) ?_
  show QC3b Z x0 x1 x2 h0 n0 _ T268.heap _
  rw [e268']
  exact ⟨_, _, rfl, N268, own_extK kp269, sz_b266, Or.inl ⟨hA, hV⟩⟩
 ·subst hz
  show own_Fin _ _ _ _ (T268.setTop (mkF m 12 #[.val (.ref a1), .val v'0, .val v'3, .val (.ref b266), .unset, .unset] [v'0]))
  refine own_is X268 q d33_12 (l' := #[.val (.ref a1), .val v'0, .val v'3, .val (.ref b266), .val v'0, .unset]) rfl (own_il X268 q d33_14 rfl (own_iln X268 q d33_16 rfl (own_cn X268 q d33_17 ((feq ((by decide) : ¬ ((0 : Int32) = (3 : Int32)))).1) (own_aln X268 q d33_20 rfl rfl (own_iln X268 q d33_21 rfl (own_iln X268 q d33_22 rfl ?_))))))
  refine own_cSh X268 q hZ e268' hown hml (W 192 rfl) (W 193 rfl) (W 184 rfl) (W 194 rfl) (rm36_3 l Z a0 hw a1 k1 x0 x1 x2 h268 n0 zs269 od269 ⟨SAD, SHI, SLO⟩ ((VA.ext E266).keep K268 (ninS (own_ne (VA).lt (Nat.le_of_eq g266.symm)) nin0))) d33_23 [(.ref a1), v'0, v'3] [] own_pd4 0 (by decide) (fun v270 T270 L270 h270 e270' X270 hQ270 => ?_)
  obtain ⟨b270, k270, rfl, N270q, E270, lo270, V270⟩ := hQ270
  have N270 := Fr.app N268 N270q
  have zs271 := Nat.le_trans zs269 E270.1
  have od271 := od269.ext E270
  have kp271 := kp269.ext E270
  have sz_b270 : h0.size ≤ b270 := Nat.le_trans kp269.1 lo270
  refine own_nv (own_as X270 q d33_26 rfl (l' := #[.val (.ref a1), .val v'0, .val v'3, .val (.ref b266), .val v'0, .val (.ref b270)]) rfl (own_al X270 q d33_28 rfl rfl (own_il X270 q d33_30 rfl ?_)))
  refine own_cS X270 q hZ e270' hown hml (W 208 rfl) (W 209 rfl) (W 184 rfl) (W 210 rfl) (rm40 l Z a0 hw b270 (0 : Int32) k270 _ 6 0 x0 h270 n0 zs271 od271 ⟨SAD, SHI, SLO⟩ V270 rfl (by decide) (by decide) rfl rfl) d33_32 [(.ref b270), v'0] [] own_pd5 0 (by decide) (fun v272 T272 L272 X272 hQ272 => ?_)
  obtain ⟨rfl, N272q, e272⟩ := hQ272
  have N272 := Fr.app N270 N272q
  refine own_nv (own_k X272 q d33_35 (own_cy X272 q d33_38 ((tlt ((by rw [own_gcE hd0]; exact hB) : (255 : Int32) < (own_gc x0))).2.2.1) (own_al X272 q d33_54 rfl rfl ?_)))
  refine own_rA X272 q hrt d33_56 hlk (by decide) ?_
  show QC3b Z x0 x1 x2 h0 n0 _ T272.heap _
  rw [e272]
  exact ⟨_, _, rfl, N272, own_extK kp271, sz_b270, Or.inr ⟨(Or.inl hB), V270⟩⟩
 ·subst hz
  show own_Fin _ _ _ _ (T268.setTop (mkF m 12 #[.val (.ref a1), .val v'0, .val v'3, .val (.ref b266), .unset, .unset] [v'1]))
  refine own_is X268 q d33_12 (l' := #[.val (.ref a1), .val v'0, .val v'3, .val (.ref b266), .val v'1, .unset]) rfl (own_il X268 q d33_14 rfl (own_iln X268 q d33_16 rfl (own_cn X268 q d33_17 ((feq ((by decide) : ¬ ((1 : Int32) = (3 : Int32)))).1) (own_aln X268 q d33_20 rfl rfl (own_iln X268 q d33_21 rfl (own_iln X268 q d33_22 rfl ?_))))))
  refine own_cSh X268 q hZ e268' hown hml (W 192 rfl) (W 193 rfl) (W 184 rfl) (W 194 rfl) (rm36_3 l Z a0 hw a1 k1 x0 x1 x2 h268 n0 zs269 od269 ⟨SAD, SHI, SLO⟩ ((VA.ext E266).keep K268 (ninS (own_ne (VA).lt (Nat.le_of_eq g266.symm)) nin0))) d33_23 [(.ref a1), v'0, v'3] [] own_pd4 0 (by decide) (fun v273 T273 L273 h273 e273' X273 hQ273 => ?_)
  obtain ⟨b273, k273, rfl, N273q, E273, lo273, V273⟩ := hQ273
  have N273 := Fr.app N268 N273q
  have zs274 := Nat.le_trans zs269 E273.1
  have od274 := od269.ext E273
  have kp274 := kp269.ext E273
  have sz_b273 : h0.size ≤ b273 := Nat.le_trans kp269.1 lo273
  refine own_nv (own_as X273 q d33_26 rfl (l' := #[.val (.ref a1), .val v'0, .val v'3, .val (.ref b266), .val v'1, .val (.ref b273)]) rfl (own_al X273 q d33_28 rfl rfl (own_il X273 q d33_30 rfl ?_)))
  refine own_cS X273 q hZ e273' hown hml (W 208 rfl) (W 209 rfl) (W 184 rfl) (W 210 rfl) (rm40 l Z a0 hw b273 (1 : Int32) k273 _ 6 1 x1 h273 n0 zs274 od274 ⟨SAD, SHI, SLO⟩ V273 rfl (by decide) (by decide) rfl rfl) d33_32 [(.ref b273), v'1] [] own_pd5 0 (by decide) (fun v275 T275 L275 X275 hQ275 => ?_)
  obtain ⟨rfl, N275q, e275⟩ := hQ275
  have N275 := Fr.app N273 N275q
  refine own_nv (own_k X275 q d33_35 (own_cy X275 q d33_38 ((tlt ((by rw [own_gcE hd1]; exact hB) : (255 : Int32) < (own_gc x1))).2.2.1) (own_al X275 q d33_54 rfl rfl ?_)))
  refine own_rA X275 q hrt d33_56 hlk (by decide) ?_
  show QC3b Z x0 x1 x2 h0 n0 _ T275.heap _
  rw [e275]
  exact ⟨_, _, rfl, N275, own_extK kp274, sz_b273, Or.inr ⟨(Or.inr (Or.inl hB)), V273⟩⟩
 ·subst hz
  show own_Fin _ _ _ _ (T268.setTop (mkF m 12 #[.val (.ref a1), .val v'0, .val v'3, .val (.ref b266), .unset, .unset] [v'2]))
  refine own_is X268 q d33_12 (l' := #[.val (.ref a1), .val v'0, .val v'3, .val (.ref b266), .val v'2, .unset]) rfl (own_il X268 q d33_14 rfl (own_iln X268 q d33_16 rfl (own_cn X268 q d33_17 ((feq ((by decide) : ¬ ((2 : Int32) = (3 : Int32)))).1) (own_aln X268 q d33_20 rfl rfl (own_iln X268 q d33_21 rfl (own_iln X268 q d33_22 rfl ?_))))))
  refine own_cSh X268 q hZ e268' hown hml (W 192 rfl) (W 193 rfl) (W 184 rfl) (W 194 rfl) (rm36_3 l Z a0 hw a1 k1 x0 x1 x2 h268 n0 zs269 od269 ⟨SAD, SHI, SLO⟩ ((VA.ext E266).keep K268 (ninS (own_ne (VA).lt (Nat.le_of_eq g266.symm)) nin0))) d33_23 [(.ref a1), v'0, v'3] [] own_pd4 0 (by decide) (fun v276 T276 L276 h276 e276' X276 hQ276 => ?_)
  obtain ⟨b276, k276, rfl, N276q, E276, lo276, V276⟩ := hQ276
  have N276 := Fr.app N268 N276q
  have zs277 := Nat.le_trans zs269 E276.1
  have od277 := od269.ext E276
  have kp277 := kp269.ext E276
  have sz_b276 : h0.size ≤ b276 := Nat.le_trans kp269.1 lo276
  refine own_nv (own_as X276 q d33_26 rfl (l' := #[.val (.ref a1), .val v'0, .val v'3, .val (.ref b266), .val v'2, .val (.ref b276)]) rfl (own_al X276 q d33_28 rfl rfl (own_il X276 q d33_30 rfl ?_)))
  refine own_cS X276 q hZ e276' hown hml (W 208 rfl) (W 209 rfl) (W 184 rfl) (W 210 rfl) (rm40 l Z a0 hw b276 (2 : Int32) k276 _ 6 2 x2 h276 n0 zs277 od277 ⟨SAD, SHI, SLO⟩ V276 rfl (by decide) (by decide) rfl rfl) d33_32 [(.ref b276), v'2] [] own_pd5 0 (by decide) (fun v278 T278 L278 X278 hQ278 => ?_)
  obtain ⟨rfl, N278q, e278⟩ := hQ278
  have N278 := Fr.app N276 N278q
  refine own_nv (own_k X278 q d33_35 (own_cy X278 q d33_38 ((tlt ((by rw [own_gcE hd2]; exact hB) : (255 : Int32) < (own_gc x2))).2.2.1) (own_al X278 q d33_54 rfl rfl ?_)))
  refine own_rA X278 q hrt d33_56 hlk (by decide) ?_
  show QC3b Z x0 x1 x2 h0 n0 _ T278.heap _
  rw [e278]
  exact ⟨_, _, rfl, N278, own_extK kp277, sz_b276, Or.inr ⟨(Or.inr (Or.inr hB)), V276⟩⟩
theorem rm35_3_3 (l : Launch) (Z : State) (a0 : Array Value) (hw : own_hw a0 Z) (a1 : Addr) (k1 : ClassId) (vs : List Value) (h0 : Heap) (n0 : Nat) (Z0 : n0 ≤ h0.size) (VA : Arv Z h0 a1 k1 .byte (3 : Int32) vs v'0) :
  own_M l Z [] own_y7 b'35 2 (some .byte) ⟨0, 0, 0, 0⟩ #[(.ref a1), v'3] h0 (QI (0 : Int32) h0 n0) := by
 refine own_start (n0 := n0) hw "java/lang/StringUTF16" (L := #[.val (.ref a1), .val v'3]) pn_35 (fun {p e s m below meth c s₁} q hx W hml hZ hown hnm hlk hrt X0 e0 N0 => ?_)
 refine own_iln X0 q d35_0 rfl (own_aln X0 q d35_1 rfl rfl (own_alen (n := (3 : Int32)) X0 q hZ e0 VA d35_2 (own_isubk 0 X0 q d35_3 (by decide) (own_k X0 q d35_4 (own_stp 7 (fun _ k => XS.iushr X0.here hx rfl (q.d d35_6) rfl k) ?_)))))
 rw [show (((0 : Int32).toUInt32 >>> ((31 : Int32) &&& 31).toUInt32).toInt32) = (0 : Int32) from by decide]
 refine own_stp 8 (fun _ k => XS.i2b X0.here hx rfl (q.d d35_7) rfl k) ?_
 rw [show ((0 : Int32).toInt8.toInt32) = (0 : Int32) from by decide]
 refine own_rN X0 q hrt (by simp) d35_8 hlk (by decide) ?_
 show QI (0 : Int32) h0 n0 _ s₁.heap _
 rw [e0]
 exact ⟨rfl, N0, rfl⟩
theorem rm35_3_6 (l : Launch) (Z : State) (a0 : Array Value) (hw : own_hw a0 Z) (a1 : Addr) (k1 : ClassId) (vs : List Value) (h0 : Heap) (n0 : Nat) (Z0 : n0 ≤ h0.size) (VA : Arv Z h0 a1 k1 .byte (6 : Int32) vs v'0) :
  own_M l Z [] own_y7 b'35 2 (some .byte) ⟨0, 0, 0, 0⟩ #[(.ref a1), v'3] h0 (QI (1 : Int32) h0 n0) := by
 refine own_start (n0 := n0) hw "java/lang/StringUTF16" (L := #[.val (.ref a1), .val v'3]) pn_35 (fun {p e s m below meth c s₁} q hx W hml hZ hown hnm hlk hrt X0 e0 N0 => ?_)
 refine own_iln X0 q d35_0 rfl (own_aln X0 q d35_1 rfl rfl (own_alen (n := (6 : Int32)) X0 q hZ e0 VA d35_2 (own_isubk (-3) X0 q d35_3 (by decide) (own_k X0 q d35_4 (own_stp 7 (fun _ k => XS.iushr X0.here hx rfl (q.d d35_6) rfl k) ?_)))))
 rw [show (((-3 : Int32).toUInt32 >>> ((31 : Int32) &&& 31).toUInt32).toInt32) = (1 : Int32) from by decide]
 refine own_stp 8 (fun _ k => XS.i2b X0.here hx rfl (q.d d35_7) rfl k) ?_
 rw [show ((1 : Int32).toInt8.toInt32) = (1 : Int32) from by decide]
 refine own_rN X0 q hrt (by simp) d35_8 hlk (by decide) ?_
 show QI (1 : Int32) h0 n0 _ s₁.heap _
 rw [e0]
 exact ⟨rfl, N0, rfl⟩
theorem rm3_3 (l : Launch) (Z : State) (a0 : Array Value) (hw : own_hw a0 Z) (a1 : Addr) (a2 : Addr) (k1 : ClassId) (x0 x1 x2 : Int32) (cs0 : Int32) (h0 : Heap) (n0 : Nat) (Z0 : n0 ≤ h0.size) (E1 : Exa Z h0 a1 "java/lang/String") (FV : F'1 Z h0 a1 .null) (FC : F'0 Z h0 a1 v'0) (VA : Arv Z h0 a2 k1 .char (3 : Int32) [(.int x0), (.int x1), (.int x2)] v'0) (g1 : n0 ≤ a1) (n12 : a1 ≠ a2) (O0 : Old Z n0 h0) (SC_ : own_SC Z cs0) (SU_ : own_SU Z) (hd0 : own_c16 x0) (hd1 : own_c16 x1) (hd2 : own_c16 x2) :
  own_M l Z [] own_y8 b'3 6 none ⟨4, 2, 9, 57⟩ #[(.ref a1), (.ref a2), v'0, v'3, .null] h0 (QI3 Z a1 x0 x1 x2 h0 n0) := by
 obtain ⟨SCS, hcs⟩ := SC_; obtain ⟨SAD, SHI, SLO⟩ := SU_
 refine own_start (n0 := n0) hw "java/lang/String" (L := #[.val (.ref a1), .val (.ref a2), .val v'0, .val v'3, .val .null, .unset]) pn_3 (fun {p e s m below meth c s₁} q hx W hml hZ hown hnm hlk hrt X0 e0 N0 => ?_)
 have hby := q.2
 have kp0 := Keep.refl h0 [a1]
 refine own_aln X0 q d3_0 rfl rfl ?_
 refine own_let ?_; intro g298_
 obtain ⟨T299, X299, e299, st299⟩ := initO X0 hx hZ hown (W 17 rfl) (W 18 rfl) (W 19 rfl) e0 (g := g298_) rfl (by rw [hml]; rfl) rfl (q.d d3_1) (by decide) (W := 0) (by show 2 * 0 + _ ≤ _; exact Nat.le_of_eq rfl) (by decide)
 refine own_stp 4 st299 (own_iln X299 q d3_4 rfl (own_zy X299 q d3_5 (((if0 _ _).trans (feq ((by decide) : ¬ ((3 : Int32) = (0 : Int32)))).2)) ?_))
 refine own_gS X299 q hZ e299 hown (W 99 rfl) (SCS.ext O0.2) d3_27 fun T300 X300 e300 => ?_
 refine own_zn X300 q d3_30 (((if0 _ _).trans (feq hcs).1)) (own_aln X300 q d3_33 rfl rfl (own_iln X300 q d3_34 rfl (own_iln X300 q d3_35 rfl ?_)))
 refine own_cSh X300 q hZ e300 hown hml (W 182 rfl) (W 183 rfl) (W 184 rfl) (W 185 rfl) (rm33_3 l Z a0 hw a2 k1 x0 x1 x2 h0 n0 Z0 O0 ⟨SAD, SHI, SLO⟩ VA hd0 hd1 hd2) d3_36 [(.ref a2), v'0, v'3] [] own_pd4 0 (by decide) (fun v301 T301 L301 h301 e301' X301 hQ301 => ?_)
 obtain ⟨b301, k301, rfl, N301q, E301, lo301, D301⟩ := hQ301
 have N301 := Fr.app N0 N301q
 have zs302 := Nat.le_trans Z0 E301.1
 have kp302 := kp0.ext E301
 have sz_b301 : h0.size ≤ b301 := Nat.le_trans kp0.1 lo301
 refine own_nv ?_
 rcases D301 with ⟨hA, hV⟩ | ⟨hA, hV⟩
 ·have hV_ := hV
  show own_Fin _ _ _ _ (T301.setTop (mkF m 39 #[.val (.ref a1), .val (.ref a2), .val v'0, .val v'3, .val .null, .unset] [(.ref b301)]))
  refine own_as X301 q d3_39 rfl (l' := #[.val (.ref a1), .val (.ref a2), .val v'0, .val v'3, .val .null, .val (.ref b301)]) rfl (own_aln X301 q d3_41 rfl rfl (own_al X301 q d3_42 rfl rfl (own_iln X301 q d3_44 rfl ?_)))
  refine own_cS X301 q hZ e301' hown hml (W 189 rfl) (W 190 rfl) (W 184 rfl) (W 191 rfl) (rm35_3_3 l Z a0 hw b301 k301 _ h301 n0 zs302 hV) d3_45 [(.ref b301), v'3] [(.ref a1)] own_pd6 1 (by decide) (fun v303 T303 L303 X303 hQ303 => ?_)
  obtain ⟨rfl, N303q, e303⟩ := hQ303
  have N303 := Fr.app N301 N303q
  refine own_nv ?_
  refine own_let ?_; intro g304_
  obtain ⟨T305, h305, X305, e305, W305, st305⟩ := putFN X303 hx hZ hown (W 27 rfl) Via.refl e303 (FC.ext E301) (E1.ext E301) (Or.inr ⟨(W 23 rfl), rfl, hnm⟩) (W 7 rfl) (ty := .byte) (v' := v'0) (by decide) rfl rfl (g := g304_) rfl rfl (q.d d3_48)
  have kp306 := kp302.wr W305 (own_i0)
  have Fw305 := ((FC.ext E301)).same W305
  have N305 := Fr.snoc X305 N303 g1
  refine own_stp 51 st305 (own_aln X305 q d3_51 rfl rfl (own_al X305 q d3_52 rfl rfl ?_))
  refine own_let ?_; intro g307_
  obtain ⟨T308, h308, X308, e308, W308, st308⟩ := putF X305 hx hZ hown (host := "") (Or.inl (W 26 rfl)) Via.refl e305 ((FV.ext E301).other W305 (Or.inr (slot_ne (Or.inr (W 22 rfl)) (Or.inr (W 23 rfl)) (by decide) (t := (.array .byte)) (t' := .byte) (by decide) (by decide)))) ((E1.ext E301).wr W305) (Or.inr ⟨(W 22 rfl), rfl, hnm⟩) (W 7 rfl) (ty := (.array .byte)) (by decide) rfl rfl (g := g307_) rfl rfl (q.d d3_54)
  have kp309 := kp306.wr W308 (own_i0)
  have Fw308 := (((FV.ext E301).other W305 (Or.inr (slot_ne (Or.inr (W 22 rfl)) (Or.inr (W 23 rfl)) (by decide) (t := (.array .byte)) (t' := .byte) (by decide) (by decide))))).same W308
  have N308 := Fr.snoc X308 N305 g1
  refine own_stp 57 st308 ?_
  refine own_rV X308 q hrt d3_57 hlk (by decide) ?_
  show QI3 Z a1 x0 x1 x2 h0 n0 _ T308.heap _
  rw [e308]
  exact ⟨_, _, rfl, N308, kp309, sz_b301, Fw308, Or.inl ⟨(Fw305.other W308 (Or.inr (slot_ne (Or.inr (W 23 rfl)) (Or.inr (W 22 rfl)) (by decide) (t := .byte) (t' := (.array .byte)) (by decide) (by decide)))), hA, ((hV.other W305 (Ne.symm (own_ne (E1).lt lo301))).other W308 (Ne.symm (own_ne (E1).lt lo301)))⟩⟩
 ·have hV_ := hV
  show own_Fin _ _ _ _ (T301.setTop (mkF m 39 #[.val (.ref a1), .val (.ref a2), .val v'0, .val v'3, .val .null, .unset] [(.ref b301)]))
  refine own_as X301 q d3_39 rfl (l' := #[.val (.ref a1), .val (.ref a2), .val v'0, .val v'3, .val .null, .val (.ref b301)]) rfl (own_aln X301 q d3_41 rfl rfl (own_al X301 q d3_42 rfl rfl (own_iln X301 q d3_44 rfl ?_)))
  refine own_cS X301 q hZ e301' hown hml (W 189 rfl) (W 190 rfl) (W 184 rfl) (W 191 rfl) (rm35_3_6 l Z a0 hw b301 k301 _ h301 n0 zs302 hV) d3_45 [(.ref b301), v'3] [(.ref a1)] own_pd6 1 (by decide) (fun v310 T310 L310 X310 hQ310 => ?_)
  obtain ⟨rfl, N310q, e310⟩ := hQ310
  have N310 := Fr.app N301 N310q
  refine own_nv ?_
  refine own_let ?_; intro g311_
  obtain ⟨T312, h312, X312, e312, W312, st312⟩ := putFN X310 hx hZ hown (W 27 rfl) Via.refl e310 (FC.ext E301) (E1.ext E301) (Or.inr ⟨(W 23 rfl), rfl, hnm⟩) (W 7 rfl) (ty := .byte) (v' := v'1) (by decide) rfl rfl (g := g311_) rfl rfl (q.d d3_48)
  have kp313 := kp302.wr W312 (own_i0)
  have Fw312 := ((FC.ext E301)).same W312
  have N312 := Fr.snoc X312 N310 g1
  refine own_stp 51 st312 (own_aln X312 q d3_51 rfl rfl (own_al X312 q d3_52 rfl rfl ?_))
  refine own_let ?_; intro g314_
  obtain ⟨T315, h315, X315, e315, W315, st315⟩ := putF X312 hx hZ hown (host := "") (Or.inl (W 26 rfl)) Via.refl e312 ((FV.ext E301).other W312 (Or.inr (slot_ne (Or.inr (W 22 rfl)) (Or.inr (W 23 rfl)) (by decide) (t := (.array .byte)) (t' := .byte) (by decide) (by decide)))) ((E1.ext E301).wr W312) (Or.inr ⟨(W 22 rfl), rfl, hnm⟩) (W 7 rfl) (ty := (.array .byte)) (by decide) rfl rfl (g := g314_) rfl rfl (q.d d3_54)
  have kp316 := kp313.wr W315 (own_i0)
  have Fw315 := (((FV.ext E301).other W312 (Or.inr (slot_ne (Or.inr (W 22 rfl)) (Or.inr (W 23 rfl)) (by decide) (t := (.array .byte)) (t' := .byte) (by decide) (by decide))))).same W315
  have N315 := Fr.snoc X315 N312 g1
  refine own_stp 57 st315 ?_
  refine own_rV X315 q hrt d3_57 hlk (by decide) ?_
  show QI3 Z a1 x0 x1 x2 h0 n0 _ T315.heap _
  rw [e315]
  exact ⟨_, _, rfl, N315, kp316, sz_b301, Fw315, Or.inr ⟨(Fw312.other W315 (Or.inr (slot_ne (Or.inr (W 23 rfl)) (Or.inr (W 22 rfl)) (by decide) (t := .byte) (t' := (.array .byte)) (by decide) (by decide)))), hA, ((hV.other W312 (Ne.symm (own_ne (E1).lt lo301))).other W315 (Ne.symm (own_ne (E1).lt lo301)))⟩⟩
theorem rm2_3 (l : Launch) (Z : State) (a0 : Array Value) (hw : own_hw a0 Z) (a1 : Addr) (a2 : Addr) (k1 : ClassId) (x0 x1 x2 : Int32) (cs0 : Int32) (h0 : Heap) (n0 : Nat) (Z0 : n0 ≤ h0.size) (E1 : Exa Z h0 a1 "java/lang/String") (FV : F'1 Z h0 a1 .null) (FC : F'0 Z h0 a1 v'0) (VA : Arv Z h0 a2 k1 .char (3 : Int32) [(.int x0), (.int x1), (.int x2)] v'0) (g1 : n0 ≤ a1) (n12 : a1 ≠ a2) (O0 : Old Z n0 h0) (SC_ : own_SC Z cs0) (SU_ : own_SU Z) (hd0 : own_c16 x0) (hd1 : own_c16 x1) (hd2 : own_c16 x2) :
  own_M l Z [] own_y9 b'2 2 none ⟨5, 2, 9, 74⟩ #[(.ref a1), (.ref a2)] h0 (QI3 Z a1 x0 x1 x2 h0 n0) := by
 obtain ⟨SCS, hcs⟩ := SC_; obtain ⟨SAD, SHI, SLO⟩ := SU_
 refine own_start (n0 := n0) hw "java/lang/String" (L := #[.val (.ref a1), .val (.ref a2)]) pn_2 (fun {p e s m below meth c s₁} q hx W hml hZ hown hnm hlk hrt X0 e0 N0 => ?_)
 have kp0 := Keep.refl h0 [a1]
 refine own_aln X0 q d2_0 rfl rfl (own_aln X0 q d2_1 rfl rfl (own_k X0 q d2_2 (own_aln X0 q d2_3 rfl rfl (own_alen (n := (3 : Int32)) X0 q hZ e0 VA d2_4 (own_nl X0 q d2_5 ?_)))))
 refine own_cIh (a := a1) X0 q hZ e0 hown hml (W 13 rfl) (W 14 rfl) (W 8 rfl) (W 16 rfl) (rm3_3 l Z a0 hw a1 a2 k1 x0 x1 x2 cs0 h0 n0 Z0 E1 FV FC VA g1 n12 O0 ⟨SCS, hcs⟩ ⟨SAD, SHI, SLO⟩ hd0 hd1 hd2) d2_6 [(.ref a2), v'0, v'3, .null] [] own_pd7 0 rfl (by decide) (fun v319 T319 L319 h319 e319' X319 hQ319 => ?_)
 obtain ⟨t319, k319, rfl, N319q, K319, lo319, Fv319, D319⟩ := hQ319
 have N319 := Fr.app N0 N319q
 have kp320 := kp0.trans K319 (allS (own_i0) all0)
 have sz_t319 : h0.size ≤ t319 := Nat.le_trans kp0.1 lo319
 refine own_nn ?_
 refine own_rV X319 q hrt d2_9 hlk (by decide) ?_
 show QI3 Z a1 x0 x1 x2 h0 n0 _ T319.heap _
 rw [e319']
 exact ⟨_, _, rfl, N319, kp320, sz_t319, Fv319, D319⟩
theorem rm34_4 (l : Launch) (Z : State) (a0 : Array Value) (hw : own_hw a0 Z) (a1 : Addr) (b : Addr) (k1 k2 : ClassId) (x0 x1 x2 x3 : Int32) (h0 : Heap) (n0 : Nat) (Z0 : n0 ≤ h0.size) (VA : Arv Z h0 a1 k1 .char (4 : Int32) [(.int x0), (.int x1), (.int x2), (.int x3)] v'0) (VB : Arv Z h0 b k2 .byte (4 : Int32) [v'0, v'0, v'0, v'0] v'0) (gb : n0 ≤ b) (nab : a1 ≠ b) :
  own_M l Z [] own_y1 b'34 7 (some .int) ⟨0, 0, 0, 0⟩ #[(.ref a1), v'0, (.ref b), v'0, v'4] h0 (QC4a Z b k2 x0 x1 x2 x3 h0 n0) := by
 refine own_start (n0 := n0) hw "java/lang/StringUTF16" (L := #[.val (.ref a1), .val v'0, .val (.ref b), .val v'0, .val v'4, .unset, .unset]) pn_34 (fun {p e s m below meth c s₁} q hx W hml hZ hown hnm hlk hrt X0 e0 N0 => ?_)
 have kp0 := Keep.refl h0 [b]
 refine own_k X0 q d34_0 (own_is X0 q d34_1 (l' := #[.val (.ref a1), .val v'0, .val (.ref b), .val v'0, .val v'4, .val v'0, .unset]) rfl (own_il X0 q d34_3 rfl (own_il X0 q d34_5 rfl (own_cn X0 q d34_7 ((tlt ((by decide) : (0 : Int32) < (4 : Int32))).2.1) (own_aln X0 q d34_10 rfl rfl (own_iln X0 q d34_11 rfl (own_cld (v := (.int x0)) X0 q hZ e0 VA d34_12 (by decide) rfl (own_is X0 q d34_13 (l' := #[.val (.ref a1), .val v'0, .val (.ref b), .val v'0, .val v'4, .val v'0, .val (.int x0)]) rfl (own_il X0 q d34_15 rfl (own_k X0 q d34_17 ?_))))))))))
 by_cases hc20_333 : (255 : Int32) < x0
 ·refine own_cn X0 q d34_20 ((tlt hc20_333).2.2.2) (own_il X0 q d34_23 rfl ?_)
  refine own_rI X0 q hrt d34_25 hlk (by decide) ?_
  show QC4a Z b k2 x0 x1 x2 x3 h0 n0 _ s₁.heap _
  rw [e0]
  exact ⟨_, rfl, N0, kp0, Or.inr (Or.inl ⟨rfl, hc20_333⟩)⟩
 ·refine own_cy X0 q d34_20 ((flt hc20_333).2.2.2) (own_aln X0 q d34_26 rfl rfl (own_iln X0 q d34_27 rfl (own_il X0 q d34_28 rfl (own_stp 31 (fun _ k => XS.i2b X0.here hx rfl (q.d d34_30) rfl k) ?_))))
  refine own_bst X0 q hZ e0 VB d34_31 (by decide) (Nat.le_of_ble_eq_true rfl) N0 gb fun T334 h334 X334 e334 W334 V334 N334 => ?_
  have kp335 := kp0.wr W334 (own_i0)
  refine own_iik X334 q d34_32 rfl (show ((0 : Int32) + (1 : Int32)) = (1 : Int32) by decide) (l' := #[.val (.ref a1), .val v'1, .val (.ref b), .val v'0, .val v'4, .val v'0, .val (.int x0)]) rfl (own_iik X334 q d34_35 rfl (show ((0 : Int32) + (1 : Int32)) = (1 : Int32) by decide) (l' := #[.val (.ref a1), .val v'1, .val (.ref b), .val v'1, .val v'4, .val v'0, .val (.int x0)]) rfl (own_iik X334 q d34_38 rfl (show ((0 : Int32) + (1 : Int32)) = (1 : Int32) by decide) (l' := #[.val (.ref a1), .val v'1, .val (.ref b), .val v'1, .val v'4, .val v'1, .val (.int x0)]) rfl (own_gt X334 q d34_41 (own_il X334 q d34_3 rfl (own_il X334 q d34_5 rfl (own_cn X334 q d34_7 ((tlt ((by decide) : (1 : Int32) < (4 : Int32))).2.1) (own_aln X334 q d34_10 rfl rfl (own_iln X334 q d34_11 rfl (own_cld (v := (.int x1)) X334 q hZ e334 (VA.other W334 nab) d34_12 (by decide) rfl (own_is X334 q d34_13 (l' := #[.val (.ref a1), .val v'1, .val (.ref b), .val v'1, .val v'4, .val v'1, .val (.int x1)]) rfl (own_il X334 q d34_15 rfl ?_)))))))))))
  refine own_k X334 q d34_17 ?_
  by_cases hc20_336 : (255 : Int32) < x1
  ·refine own_cn X334 q d34_20 ((tlt hc20_336).2.2.2) (own_il X334 q d34_23 rfl ?_)
   refine own_rI X334 q hrt d34_25 hlk (by decide) ?_
   show QC4a Z b k2 x0 x1 x2 x3 h0 n0 _ T334.heap _
   rw [e334]
   exact ⟨_, rfl, N334, kp335, Or.inr (Or.inr (Or.inl ⟨rfl, hc20_336⟩))⟩
  ·refine own_cy X334 q d34_20 ((flt hc20_336).2.2.2) (own_aln X334 q d34_26 rfl rfl (own_iln X334 q d34_27 rfl (own_il X334 q d34_28 rfl (own_stp 31 (fun _ k => XS.i2b X334.here hx rfl (q.d d34_30) rfl k) ?_))))
   refine own_bst X334 q hZ e334 V334 d34_31 (by decide) (Nat.le_of_ble_eq_true rfl) N334 gb fun T337 h337 X337 e337 W337 V337 N337 => ?_
   have kp338 := kp335.wr W337 (own_i0)
   refine own_iik X337 q d34_32 rfl (show ((1 : Int32) + (1 : Int32)) = (2 : Int32) by decide) (l' := #[.val (.ref a1), .val v'2, .val (.ref b), .val v'1, .val v'4, .val v'1, .val (.int x1)]) rfl (own_iik X337 q d34_35 rfl (show ((1 : Int32) + (1 : Int32)) = (2 : Int32) by decide) (l' := #[.val (.ref a1), .val v'2, .val (.ref b), .val v'2, .val v'4, .val v'1, .val (.int x1)]) rfl (own_iik X337 q d34_38 rfl (show ((1 : Int32) + (1 : Int32)) = (2 : Int32) by decide) (l' := #[.val (.ref a1), .val v'2, .val (.ref b), .val v'2, .val v'4, .val v'2, .val (.int x1)]) rfl (own_gt X337 q d34_41 (own_il X337 q d34_3 rfl (own_il X337 q d34_5 rfl (own_cn X337 q d34_7 ((tlt ((by decide) : (2 : Int32) < (4 : Int32))).2.1) (own_aln X337 q d34_10 rfl rfl (own_iln X337 q d34_11 rfl (own_cld (v := (.int x2)) X337 q hZ e337 ((VA.other W334 nab).other W337 nab) d34_12 (by decide) rfl (own_is X337 q d34_13 (l' := #[.val (.ref a1), .val v'2, .val (.ref b), .val v'2, .val v'4, .val v'2, .val (.int x2)]) rfl (own_il X337 q d34_15 rfl ?_)))))))))))
   refine own_k X337 q d34_17 ?_
   by_cases hc20_339 : (255 : Int32) < x2
   ·refine own_cn X337 q d34_20 ((tlt hc20_339).2.2.2) (own_il X337 q d34_23 rfl ?_)
    refine own_rI X337 q hrt d34_25 hlk (by decide) ?_
    show QC4a Z b k2 x0 x1 x2 x3 h0 n0 _ T337.heap _
    rw [e337]
    exact ⟨_, rfl, N337, kp338, Or.inr (Or.inr (Or.inr (Or.inl ⟨rfl, hc20_339⟩)))⟩
   ·refine own_cy X337 q d34_20 ((flt hc20_339).2.2.2) (own_aln X337 q d34_26 rfl rfl (own_iln X337 q d34_27 rfl (own_il X337 q d34_28 rfl (own_stp 31 (fun _ k => XS.i2b X337.here hx rfl (q.d d34_30) rfl k) ?_))))
    refine own_bst X337 q hZ e337 V337 d34_31 (by decide) (Nat.le_of_ble_eq_true rfl) N337 gb fun T340 h340 X340 e340 W340 V340 N340 => ?_
    have kp341 := kp338.wr W340 (own_i0)
    refine own_iik X340 q d34_32 rfl (show ((2 : Int32) + (1 : Int32)) = (3 : Int32) by decide) (l' := #[.val (.ref a1), .val v'3, .val (.ref b), .val v'2, .val v'4, .val v'2, .val (.int x2)]) rfl (own_iik X340 q d34_35 rfl (show ((2 : Int32) + (1 : Int32)) = (3 : Int32) by decide) (l' := #[.val (.ref a1), .val v'3, .val (.ref b), .val v'3, .val v'4, .val v'2, .val (.int x2)]) rfl (own_iik X340 q d34_38 rfl (show ((2 : Int32) + (1 : Int32)) = (3 : Int32) by decide) (l' := #[.val (.ref a1), .val v'3, .val (.ref b), .val v'3, .val v'4, .val v'3, .val (.int x2)]) rfl (own_gt X340 q d34_41 (own_il X340 q d34_3 rfl (own_il X340 q d34_5 rfl (own_cn X340 q d34_7 ((tlt ((by decide) : (3 : Int32) < (4 : Int32))).2.1) (own_aln X340 q d34_10 rfl rfl (own_iln X340 q d34_11 rfl (own_cld (v := (.int x3)) X340 q hZ e340 (((VA.other W334 nab).other W337 nab).other W340 nab) d34_12 (by decide) rfl (own_is X340 q d34_13 (l' := #[.val (.ref a1), .val v'3, .val (.ref b), .val v'3, .val v'4, .val v'3, .val (.int x3)]) rfl (own_il X340 q d34_15 rfl ?_)))))))))))
    refine own_k X340 q d34_17 ?_
    by_cases hc20_342 : (255 : Int32) < x3
    ·refine own_cn X340 q d34_20 ((tlt hc20_342).2.2.2) (own_il X340 q d34_23 rfl ?_)
     refine own_rI X340 q hrt d34_25 hlk (by decide) ?_
     show QC4a Z b k2 x0 x1 x2 x3 h0 n0 _ T340.heap _
     rw [e340]
     exact ⟨_, rfl, N340, kp341, Or.inr (Or.inr (Or.inr (Or.inr ⟨rfl, hc20_342⟩)))⟩
    ·refine own_cy X340 q d34_20 ((flt hc20_342).2.2.2) (own_aln X340 q d34_26 rfl rfl (own_iln X340 q d34_27 rfl (own_il X340 q d34_28 rfl (own_stp 31 (fun _ k => XS.i2b X340.here hx rfl (q.d d34_30) rfl k) ?_))))
     refine own_bst X340 q hZ e340 V340 d34_31 (by decide) (Nat.le_of_ble_eq_true rfl) N340 gb fun T343 h343 X343 e343 W343 V343 N343 => ?_
     have kp344 := kp341.wr W343 (own_i0)
     refine own_iik X343 q d34_32 rfl (show ((3 : Int32) + (1 : Int32)) = (4 : Int32) by decide) (l' := #[.val (.ref a1), .val v'4, .val (.ref b), .val v'3, .val v'4, .val v'3, .val (.int x3)]) rfl (own_iik X343 q d34_35 rfl (show ((3 : Int32) + (1 : Int32)) = (4 : Int32) by decide) (l' := #[.val (.ref a1), .val v'4, .val (.ref b), .val v'4, .val v'4, .val v'3, .val (.int x3)]) rfl (own_iik X343 q d34_38 rfl (show ((3 : Int32) + (1 : Int32)) = (4 : Int32) by decide) (l' := #[.val (.ref a1), .val v'4, .val (.ref b), .val v'4, .val v'4, .val v'4, .val (.int x3)]) rfl (own_gt X343 q d34_41 (own_il X343 q d34_3 rfl (own_il X343 q d34_5 rfl (own_cy X343 q d34_7 ((flt (Int32.lt_irrefl : ¬ ((4 : Int32) < (4 : Int32)))).2.1) (own_il X343 q d34_44 rfl ?_)))))))
     refine own_rI X343 q hrt d34_46 hlk (by decide) ?_
     show QC4a Z b k2 x0 x1 x2 x3 h0 n0 _ T343.heap _
     rw [e343]
     exact ⟨_, rfl, N343, kp344, Or.inl ⟨rfl, ⟨hc20_333, hc20_336, hc20_339, hc20_342⟩, V343⟩⟩
theorem rm37_4 (l : Launch) (Z : State) (a0 : Array Value) (hw : own_hw a0 Z)   (h0 : Heap) (n0 : Nat) (Z0 : n0 ≤ h0.size) :
  own_M l Z [] own_y4 b'37 1 (some (.array .byte)) ⟨1, 1, 8, 12⟩ #[v'4] h0 (QNB4 Z h0 n0) := by
 refine own_start (n0 := n0) hw "java/lang/StringUTF16" (L := #[.val v'4]) pn_37 (fun {p e s m below meth c s₁} q hx W hml hZ hown hnm hlk hrt X0 e0 N0 => ?_)
 have kp0 := Keep.refl h0 []
 refine own_iln X0 q d37_0 rfl ?_
 refine own_cS X0 q hZ e0 hown hml (W 198 rfl) (W 199 rfl) (W 184 rfl) (W 200 rfl) (rm38 l Z a0 hw (4 : Int32) (8 : Int32) h0 n0 Z0 (by decide) (by decide) (by decide)) d37_1 [v'4] [] own_pd0 0 (by decide) (fun v349 T349 L349 X349 hQ349 => ?_)
 obtain ⟨rfl, N349q, e349⟩ := hQ349
 have N349 := Fr.app N0 N349q
 refine own_nv ?_
 refine own_let ?_; intro g350_
 obtain ⟨T351, h351, k351, X351, e351, E351, A351, st351⟩ := newP X349 hx hZ (W 21 rfl) e349 (g := g350_) rfl (q.d d37_4) rfl (by decide) (cap := 8) (by decide) (by decide) (by decide) (by decide)
 obtain ⟨b351, g351⟩ : ∃ z, z = h0.size := ⟨_, rfl⟩
 rw [← g351] at A351 st351
 have V351 : Arv Z h351 b351 k351 .byte (8 : Int32) [v'0, v'0, v'0, v'0, v'0, v'0, v'0, v'0] v'0 := (Arv.new A351 (by decide)).pad (pad_rep [] v'0 8)
 have kp352 := kp0.ext E351
 have sz_b351 : h0.size ≤ b351 := Nat.le_trans kp0.1 (Nat.le_of_eq g351.symm)
 refine own_stp 6 st351 ?_
 refine own_rA X351 q hrt d37_6 hlk (by decide) ?_
 show QNB4 Z h0 n0 _ T351.heap _
 rw [e351]
 exact ⟨_, _, rfl, N349, own_extK kp352, sz_b351, V351⟩
theorem rm36_4 (l : Launch) (Z : State) (a0 : Array Value) (hw : own_hw a0 Z) (a1 : Addr) (k1 : ClassId) (x0 x1 x2 x3 : Int32) (h0 : Heap) (n0 : Nat) (Z0 : n0 ≤ h0.size) (O0 : Old Z n0 h0) (SU_ : own_SU Z) (VA : Arv Z h0 a1 k1 .char (4 : Int32) [(.int x0), (.int x1), (.int x2), (.int x3)] v'0) :
  own_M l Z [] own_y5 b'36 5 (some (.array .byte)) ⟨2, 1, 8, 24⟩ #[(.ref a1), v'0, v'4] h0 (QTB4 Z x0 x1 x2 x3 h0 n0) := by
 obtain ⟨SAD, SHI, SLO⟩ := SU_
 refine own_start (n0 := n0) hw "java/lang/StringUTF16" (L := #[.val (.ref a1), .val v'0, .val v'4, .unset, .unset]) pn_36 (fun {p e s m below meth c s₁} q hx W hml hZ hown hnm hlk hrt X0 e0 N0 => ?_)
 have kp0 := Keep.refl h0 []
 refine own_iln X0 q d36_0 rfl ?_
 refine own_cSh X0 q hZ e0 hown hml (W 195 rfl) (W 196 rfl) (W 184 rfl) (W 197 rfl) (rm37_4 l Z a0 hw h0 n0 Z0) d36_1 [v'4] [] own_pd1 0 (by decide) (fun v363 T363 L363 h363 e363' X363 hQ363 => ?_)
 obtain ⟨b363, k363, rfl, N363q, E363, lo363, V363⟩ := hQ363
 have N363 := Fr.app N0 N363q
 have zs364 := Nat.le_trans Z0 E363.1
 have od364 := O0.ext E363
 have kp364 := kp0.ext E363
 have g_b363 : n0 ≤ b363 := Nat.le_trans Z0 lo363
 have sz_b363 : h0.size ≤ b363 := Nat.le_trans kp0.1 lo363
 refine own_nv (own_asn X363 q d36_4 rfl (l' := #[.val (.ref a1), .val v'0, .val v'4, .val (.ref b363), .unset]) rfl (own_k X363 q d36_5 (own_is X363 q d36_6 (l' := #[.val (.ref a1), .val v'0, .val v'4, .val (.ref b363), .val v'0]) rfl (own_il X363 q d36_8 rfl (own_iln X363 q d36_10 rfl (own_cn X363 q d36_11 ((tlt ((by decide) : (0 : Int32) < (4 : Int32))).2.1) (own_aln X363 q d36_14 rfl rfl (own_il X363 q d36_15 rfl (own_aln X363 q d36_17 rfl rfl (own_iln X363 q d36_18 rfl (own_cld (v := (.int x0)) X363 q hZ e363' (VA.ext E363) d36_19 (by decide) rfl ?_)))))))))))
 refine own_cSh X363 q hZ e363' hown hml (W 202 rfl) (W 203 rfl) (W 184 rfl) (W 204 rfl) (rm39 l Z a0 hw b363 (0 : Int32) x0 k363 _ 8 0 h363 n0 zs364 od364 ⟨SAD, SHI, SLO⟩ V363 rfl (by decide) (by decide) rfl g_b363) d36_20 [(.ref b363), v'0, (.int x0)] [] own_pd2 0 (by decide) (fun v365 T365 L365 h365 e365' X365 hQ365 => ?_)
 obtain ⟨rfl, N365q, K365, V365⟩ := hQ365
 have N365 := Fr.app N363 N365q
 have zs366 := Nat.le_trans zs364 K365.1
 have od366 := od364.keep K365 (allS g_b363 all0)
 have kp366 := kp364.trans K365 (allS (Or.inr sz_b363) all0)
 refine own_nn (own_iik X365 q d36_23 rfl (show ((0 : Int32) + (1 : Int32)) = (1 : Int32) by decide) (l' := #[.val (.ref a1), .val v'1, .val v'4, .val (.ref b363), .val v'0]) rfl (own_iik X365 q d36_26 rfl (show ((0 : Int32) + (1 : Int32)) = (1 : Int32) by decide) (l' := #[.val (.ref a1), .val v'1, .val v'4, .val (.ref b363), .val v'1]) rfl (own_gt X365 q d36_29 (own_il X365 q d36_8 rfl (own_iln X365 q d36_10 rfl (own_cn X365 q d36_11 ((tlt ((by decide) : (1 : Int32) < (4 : Int32))).2.1) (own_aln X365 q d36_14 rfl rfl (own_il X365 q d36_15 rfl (own_aln X365 q d36_17 rfl rfl (own_iln X365 q d36_18 rfl (own_cld (v := (.int x1)) X365 q hZ e365' ((VA.ext E363).keep K365 (ninS (own_ne (VA).lt lo363) nin0)) d36_19 (by decide) rfl ?_)))))))))))
 refine own_cSh X365 q hZ e365' hown hml (W 202 rfl) (W 203 rfl) (W 184 rfl) (W 204 rfl) (rm39 l Z a0 hw b363 (1 : Int32) x1 k363 _ 8 1 h365 n0 zs366 od366 ⟨SAD, SHI, SLO⟩ V365 rfl (by decide) (by decide) rfl g_b363) d36_20 [(.ref b363), v'1, (.int x1)] [] own_pd2 0 (by decide) (fun v367 T367 L367 h367 e367' X367 hQ367 => ?_)
 obtain ⟨rfl, N367q, K367, V367⟩ := hQ367
 have N367 := Fr.app N365 N367q
 have zs368 := Nat.le_trans zs366 K367.1
 have od368 := od366.keep K367 (allS g_b363 all0)
 have kp368 := kp366.trans K367 (allS (Or.inr sz_b363) all0)
 refine own_nn (own_iik X367 q d36_23 rfl (show ((1 : Int32) + (1 : Int32)) = (2 : Int32) by decide) (l' := #[.val (.ref a1), .val v'2, .val v'4, .val (.ref b363), .val v'1]) rfl (own_iik X367 q d36_26 rfl (show ((1 : Int32) + (1 : Int32)) = (2 : Int32) by decide) (l' := #[.val (.ref a1), .val v'2, .val v'4, .val (.ref b363), .val v'2]) rfl (own_gt X367 q d36_29 (own_il X367 q d36_8 rfl (own_iln X367 q d36_10 rfl (own_cn X367 q d36_11 ((tlt ((by decide) : (2 : Int32) < (4 : Int32))).2.1) (own_aln X367 q d36_14 rfl rfl (own_il X367 q d36_15 rfl (own_aln X367 q d36_17 rfl rfl (own_iln X367 q d36_18 rfl (own_cld (v := (.int x2)) X367 q hZ e367' (((VA.ext E363).keep K365 (ninS (own_ne (VA).lt lo363) nin0)).keep K367 (ninS (own_ne (VA).lt lo363) nin0)) d36_19 (by decide) rfl ?_)))))))))))
 refine own_cSh X367 q hZ e367' hown hml (W 202 rfl) (W 203 rfl) (W 184 rfl) (W 204 rfl) (rm39 l Z a0 hw b363 (2 : Int32) x2 k363 _ 8 2 h367 n0 zs368 od368 ⟨SAD, SHI, SLO⟩ V367 rfl (by decide) (by decide) rfl g_b363) d36_20 [(.ref b363), v'2, (.int x2)] [] own_pd2 0 (by decide) (fun v369 T369 L369 h369 e369' X369 hQ369 => ?_)
 obtain ⟨rfl, N369q, K369, V369⟩ := hQ369
 have N369 := Fr.app N367 N369q
 have zs370 := Nat.le_trans zs368 K369.1
 have od370 := od368.keep K369 (allS g_b363 all0)
 have kp370 := kp368.trans K369 (allS (Or.inr sz_b363) all0)
 refine own_nn (own_iik X369 q d36_23 rfl (show ((2 : Int32) + (1 : Int32)) = (3 : Int32) by decide) (l' := #[.val (.ref a1), .val v'3, .val v'4, .val (.ref b363), .val v'2]) rfl (own_iik X369 q d36_26 rfl (show ((2 : Int32) + (1 : Int32)) = (3 : Int32) by decide) (l' := #[.val (.ref a1), .val v'3, .val v'4, .val (.ref b363), .val v'3]) rfl (own_gt X369 q d36_29 (own_il X369 q d36_8 rfl (own_iln X369 q d36_10 rfl (own_cn X369 q d36_11 ((tlt ((by decide) : (3 : Int32) < (4 : Int32))).2.1) (own_aln X369 q d36_14 rfl rfl (own_il X369 q d36_15 rfl (own_aln X369 q d36_17 rfl rfl (own_iln X369 q d36_18 rfl (own_cld (v := (.int x3)) X369 q hZ e369' ((((VA.ext E363).keep K365 (ninS (own_ne (VA).lt lo363) nin0)).keep K367 (ninS (own_ne (VA).lt lo363) nin0)).keep K369 (ninS (own_ne (VA).lt lo363) nin0)) d36_19 (by decide) rfl ?_)))))))))))
 refine own_cSh X369 q hZ e369' hown hml (W 202 rfl) (W 203 rfl) (W 184 rfl) (W 204 rfl) (rm39 l Z a0 hw b363 (3 : Int32) x3 k363 _ 8 3 h369 n0 zs370 od370 ⟨SAD, SHI, SLO⟩ V369 rfl (by decide) (by decide) rfl g_b363) d36_20 [(.ref b363), v'3, (.int x3)] [] own_pd2 0 (by decide) (fun v371 T371 L371 h371 e371' X371 hQ371 => ?_)
 obtain ⟨rfl, N371q, K371, V371⟩ := hQ371
 have N371 := Fr.app N369 N371q
 have kp372 := kp370.trans K371 (allS (Or.inr sz_b363) all0)
 refine own_nn (own_iik X371 q d36_23 rfl (show ((3 : Int32) + (1 : Int32)) = (4 : Int32) by decide) (l' := #[.val (.ref a1), .val v'4, .val v'4, .val (.ref b363), .val v'3]) rfl (own_iik X371 q d36_26 rfl (show ((3 : Int32) + (1 : Int32)) = (4 : Int32) by decide) (l' := #[.val (.ref a1), .val v'4, .val v'4, .val (.ref b363), .val v'4]) rfl (own_gt X371 q d36_29 (own_il X371 q d36_8 rfl (own_iln X371 q d36_10 rfl (own_cy X371 q d36_11 ((flt (Int32.lt_irrefl : ¬ ((4 : Int32) < (4 : Int32)))).2.1) (own_aln X371 q d36_32 rfl rfl ?_)))))))
 refine own_rA X371 q hrt d36_33 hlk (by decide) ?_
 show QTB4 Z x0 x1 x2 x3 h0 n0 _ T371.heap _
 rw [e371']
 exact ⟨_, _, rfl, N371, own_extK kp372, sz_b363, V371⟩
theorem rm33_4 (l : Launch) (Z : State) (a0 : Array Value) (hw : own_hw a0 Z) (a1 : Addr) (k1 : ClassId) (x0 x1 x2 x3 : Int32) (h0 : Heap) (n0 : Nat) (Z0 : n0 ≤ h0.size) (O0 : Old Z n0 h0) (SU_ : own_SU Z) (VA : Arv Z h0 a1 k1 .char (4 : Int32) [(.int x0), (.int x1), (.int x2), (.int x3)] v'0) (hd0 : own_c16 x0) (hd1 : own_c16 x1) (hd2 : own_c16 x2) (hd3 : own_c16 x3) :
  own_M l Z [] own_y6 b'33 6 (some (.array .byte)) ⟨3, 2, 12, 40⟩ #[(.ref a1), v'0, v'4] h0 (QC4b Z x0 x1 x2 x3 h0 n0) := by
 obtain ⟨SAD, SHI, SLO⟩ := SU_
 refine own_start (n0 := n0) hw "java/lang/StringUTF16" (L := #[.val (.ref a1), .val v'0, .val v'4, .unset, .unset, .unset]) pn_33 (fun {p e s m below meth c s₁} q hx W hml hZ hown hnm hlk hrt X0 e0 N0 => ?_)
 have hby := q.2
 have kp0 := Keep.refl h0 []
 refine own_iln X0 q d33_0 rfl ?_
 refine own_let ?_; intro g390_
 obtain ⟨T391, h391, k391, X391, e391, E391, A391, st391⟩ := newP X0 hx hZ (W 21 rfl) e0 (g := g390_) rfl (q.d d33_1) rfl (by decide) (cap := 4) (by decide) (by decide) (by decide) (by decide)
 obtain ⟨b391, g391⟩ : ∃ z, z = h0.size := ⟨_, rfl⟩
 rw [← g391] at A391 st391
 have V391 : Arv Z h391 b391 k391 .byte (4 : Int32) [v'0, v'0, v'0, v'0] v'0 := (Arv.new A391 (by decide)).pad (pad_rep [] v'0 4)
 have zs392 := Nat.le_trans Z0 E391.1
 have od392 := O0.ext E391
 have kp392 := kp0.ext E391
 have g_b391 : n0 ≤ b391 := Nat.le_trans Z0 (Nat.le_of_eq g391.symm)
 have sz_b391 : h0.size ≤ b391 := Nat.le_trans kp0.1 (Nat.le_of_eq g391.symm)
 refine own_stp 3 st391 (own_asn X391 q d33_3 rfl (l' := #[.val (.ref a1), .val v'0, .val v'4, .val (.ref b391), .unset, .unset]) rfl (own_aln X391 q d33_4 rfl rfl (own_iln X391 q d33_5 rfl (own_aln X391 q d33_6 rfl rfl (own_k X391 q d33_7 (own_iln X391 q d33_8 rfl ?_))))))
 refine own_cSh X391 q hZ e391 hown hml (W 186 rfl) (W 187 rfl) (W 184 rfl) (W 188 rfl) (rm34_4 l Z a0 hw a1 b391 k1 k391 x0 x1 x2 x3 h391 n0 zs392 (VA.ext E391) V391 g_b391 (own_ne (VA).lt (Nat.le_of_eq g391.symm))) d33_9 [(.ref a1), v'0, (.ref b391), v'0, v'4] [] own_pd3 0 (by decide) (fun v393 T393 L393 h393 e393' X393 hQ393 => ?_)
 obtain ⟨z393, rfl, N393q, K393, D393⟩ := hQ393
 have N393 := Fr.app N0 N393q
 have zs394 := Nat.le_trans zs392 K393.1
 have od394 := od392.keep K393 (allS g_b391 all0)
 have kp394 := kp392.trans K393 (allS (Or.inr sz_b391) all0)
 refine own_nv ?_
 rcases D393 with ⟨hz, hA, hV⟩ | ⟨hz, hB⟩ | ⟨hz, hB⟩ | ⟨hz, hB⟩ | ⟨hz, hB⟩
 ·subst hz
  show own_Fin _ _ _ _ (T393.setTop (mkF m 12 #[.val (.ref a1), .val v'0, .val v'4, .val (.ref b391), .unset, .unset] [v'4]))
  refine own_is X393 q d33_12 (l' := #[.val (.ref a1), .val v'0, .val v'4, .val (.ref b391), .val v'4, .unset]) rfl (own_il X393 q d33_14 rfl (own_iln X393 q d33_16 rfl (own_cy X393 q d33_17 ((teq (rfl : (4 : Int32) = (4 : Int32))).1) (own_aln X393 q d33_57 rfl rfl ?_))))
  refine own_rA X393 q hrt d33_58 hlk (by decide) ?_
  show QC4b Z x0 x1 x2 x3 h0 n0 _ T393.heap _
  rw [e393']
  exact ⟨_, _, rfl, N393, own_extK kp394, sz_b391, Or.inl ⟨hA, hV⟩⟩
 ·subst hz
  show own_Fin _ _ _ _ (T393.setTop (mkF m 12 #[.val (.ref a1), .val v'0, .val v'4, .val (.ref b391), .unset, .unset] [v'0]))
  refine own_is X393 q d33_12 (l' := #[.val (.ref a1), .val v'0, .val v'4, .val (.ref b391), .val v'0, .unset]) rfl (own_il X393 q d33_14 rfl (own_iln X393 q d33_16 rfl (own_cn X393 q d33_17 ((feq ((by decide) : ¬ ((0 : Int32) = (4 : Int32)))).1) (own_aln X393 q d33_20 rfl rfl (own_iln X393 q d33_21 rfl (own_iln X393 q d33_22 rfl ?_))))))
  refine own_cSh X393 q hZ e393' hown hml (W 192 rfl) (W 193 rfl) (W 184 rfl) (W 194 rfl) (rm36_4 l Z a0 hw a1 k1 x0 x1 x2 x3 h393 n0 zs394 od394 ⟨SAD, SHI, SLO⟩ ((VA.ext E391).keep K393 (ninS (own_ne (VA).lt (Nat.le_of_eq g391.symm)) nin0))) d33_23 [(.ref a1), v'0, v'4] [] own_pd4 0 (by decide) (fun v395 T395 L395 h395 e395' X395 hQ395 => ?_)
  obtain ⟨b395, k395, rfl, N395q, E395, lo395, V395⟩ := hQ395
  have N395 := Fr.app N393 N395q
  have zs396 := Nat.le_trans zs394 E395.1
  have od396 := od394.ext E395
  have kp396 := kp394.ext E395
  have sz_b395 : h0.size ≤ b395 := Nat.le_trans kp394.1 lo395
  refine own_nv (own_as X395 q d33_26 rfl (l' := #[.val (.ref a1), .val v'0, .val v'4, .val (.ref b391), .val v'0, .val (.ref b395)]) rfl (own_al X395 q d33_28 rfl rfl (own_il X395 q d33_30 rfl ?_)))
  refine own_cS X395 q hZ e395' hown hml (W 208 rfl) (W 209 rfl) (W 184 rfl) (W 210 rfl) (rm40 l Z a0 hw b395 (0 : Int32) k395 _ 8 0 x0 h395 n0 zs396 od396 ⟨SAD, SHI, SLO⟩ V395 rfl (by decide) (by decide) rfl rfl) d33_32 [(.ref b395), v'0] [] own_pd5 0 (by decide) (fun v397 T397 L397 X397 hQ397 => ?_)
  obtain ⟨rfl, N397q, e397⟩ := hQ397
  have N397 := Fr.app N395 N397q
  refine own_nv (own_k X397 q d33_35 (own_cy X397 q d33_38 ((tlt ((by rw [own_gcE hd0]; exact hB) : (255 : Int32) < (own_gc x0))).2.2.1) (own_al X397 q d33_54 rfl rfl ?_)))
  refine own_rA X397 q hrt d33_56 hlk (by decide) ?_
  show QC4b Z x0 x1 x2 x3 h0 n0 _ T397.heap _
  rw [e397]
  exact ⟨_, _, rfl, N397, own_extK kp396, sz_b395, Or.inr ⟨(Or.inl hB), V395⟩⟩
 ·subst hz
  show own_Fin _ _ _ _ (T393.setTop (mkF m 12 #[.val (.ref a1), .val v'0, .val v'4, .val (.ref b391), .unset, .unset] [v'1]))
  refine own_is X393 q d33_12 (l' := #[.val (.ref a1), .val v'0, .val v'4, .val (.ref b391), .val v'1, .unset]) rfl (own_il X393 q d33_14 rfl (own_iln X393 q d33_16 rfl (own_cn X393 q d33_17 ((feq ((by decide) : ¬ ((1 : Int32) = (4 : Int32)))).1) (own_aln X393 q d33_20 rfl rfl (own_iln X393 q d33_21 rfl (own_iln X393 q d33_22 rfl ?_))))))
  refine own_cSh X393 q hZ e393' hown hml (W 192 rfl) (W 193 rfl) (W 184 rfl) (W 194 rfl) (rm36_4 l Z a0 hw a1 k1 x0 x1 x2 x3 h393 n0 zs394 od394 ⟨SAD, SHI, SLO⟩ ((VA.ext E391).keep K393 (ninS (own_ne (VA).lt (Nat.le_of_eq g391.symm)) nin0))) d33_23 [(.ref a1), v'0, v'4] [] own_pd4 0 (by decide) (fun v398 T398 L398 h398 e398' X398 hQ398 => ?_)
  obtain ⟨b398, k398, rfl, N398q, E398, lo398, V398⟩ := hQ398
  have N398 := Fr.app N393 N398q
  have zs399 := Nat.le_trans zs394 E398.1
  have od399 := od394.ext E398
  have kp399 := kp394.ext E398
  have sz_b398 : h0.size ≤ b398 := Nat.le_trans kp394.1 lo398
  refine own_nv (own_as X398 q d33_26 rfl (l' := #[.val (.ref a1), .val v'0, .val v'4, .val (.ref b391), .val v'1, .val (.ref b398)]) rfl (own_al X398 q d33_28 rfl rfl (own_il X398 q d33_30 rfl ?_)))
  refine own_cS X398 q hZ e398' hown hml (W 208 rfl) (W 209 rfl) (W 184 rfl) (W 210 rfl) (rm40 l Z a0 hw b398 (1 : Int32) k398 _ 8 1 x1 h398 n0 zs399 od399 ⟨SAD, SHI, SLO⟩ V398 rfl (by decide) (by decide) rfl rfl) d33_32 [(.ref b398), v'1] [] own_pd5 0 (by decide) (fun v400 T400 L400 X400 hQ400 => ?_)
  obtain ⟨rfl, N400q, e400⟩ := hQ400
  have N400 := Fr.app N398 N400q
  refine own_nv (own_k X400 q d33_35 (own_cy X400 q d33_38 ((tlt ((by rw [own_gcE hd1]; exact hB) : (255 : Int32) < (own_gc x1))).2.2.1) (own_al X400 q d33_54 rfl rfl ?_)))
  refine own_rA X400 q hrt d33_56 hlk (by decide) ?_
  show QC4b Z x0 x1 x2 x3 h0 n0 _ T400.heap _
  rw [e400]
  exact ⟨_, _, rfl, N400, own_extK kp399, sz_b398, Or.inr ⟨(Or.inr (Or.inl hB)), V398⟩⟩
 ·subst hz
  show own_Fin _ _ _ _ (T393.setTop (mkF m 12 #[.val (.ref a1), .val v'0, .val v'4, .val (.ref b391), .unset, .unset] [v'2]))
  refine own_is X393 q d33_12 (l' := #[.val (.ref a1), .val v'0, .val v'4, .val (.ref b391), .val v'2, .unset]) rfl (own_il X393 q d33_14 rfl (own_iln X393 q d33_16 rfl (own_cn X393 q d33_17 ((feq ((by decide) : ¬ ((2 : Int32) = (4 : Int32)))).1) (own_aln X393 q d33_20 rfl rfl (own_iln X393 q d33_21 rfl (own_iln X393 q d33_22 rfl ?_))))))
  refine own_cSh X393 q hZ e393' hown hml (W 192 rfl) (W 193 rfl) (W 184 rfl) (W 194 rfl) (rm36_4 l Z a0 hw a1 k1 x0 x1 x2 x3 h393 n0 zs394 od394 ⟨SAD, SHI, SLO⟩ ((VA.ext E391).keep K393 (ninS (own_ne (VA).lt (Nat.le_of_eq g391.symm)) nin0))) d33_23 [(.ref a1), v'0, v'4] [] own_pd4 0 (by decide) (fun v401 T401 L401 h401 e401' X401 hQ401 => ?_)
  obtain ⟨b401, k401, rfl, N401q, E401, lo401, V401⟩ := hQ401
  have N401 := Fr.app N393 N401q
  have zs402 := Nat.le_trans zs394 E401.1
  have od402 := od394.ext E401
  have kp402 := kp394.ext E401
  have sz_b401 : h0.size ≤ b401 := Nat.le_trans kp394.1 lo401
  refine own_nv (own_as X401 q d33_26 rfl (l' := #[.val (.ref a1), .val v'0, .val v'4, .val (.ref b391), .val v'2, .val (.ref b401)]) rfl (own_al X401 q d33_28 rfl rfl (own_il X401 q d33_30 rfl ?_)))
  refine own_cS X401 q hZ e401' hown hml (W 208 rfl) (W 209 rfl) (W 184 rfl) (W 210 rfl) (rm40 l Z a0 hw b401 (2 : Int32) k401 _ 8 2 x2 h401 n0 zs402 od402 ⟨SAD, SHI, SLO⟩ V401 rfl (by decide) (by decide) rfl rfl) d33_32 [(.ref b401), v'2] [] own_pd5 0 (by decide) (fun v403 T403 L403 X403 hQ403 => ?_)
  obtain ⟨rfl, N403q, e403⟩ := hQ403
  have N403 := Fr.app N401 N403q
  refine own_nv (own_k X403 q d33_35 (own_cy X403 q d33_38 ((tlt ((by rw [own_gcE hd2]; exact hB) : (255 : Int32) < (own_gc x2))).2.2.1) (own_al X403 q d33_54 rfl rfl ?_)))
  refine own_rA X403 q hrt d33_56 hlk (by decide) ?_
  show QC4b Z x0 x1 x2 x3 h0 n0 _ T403.heap _
  rw [e403]
  exact ⟨_, _, rfl, N403, own_extK kp402, sz_b401, Or.inr ⟨(Or.inr (Or.inr (Or.inl hB))), V401⟩⟩
 ·subst hz
  show own_Fin _ _ _ _ (T393.setTop (mkF m 12 #[.val (.ref a1), .val v'0, .val v'4, .val (.ref b391), .unset, .unset] [v'3]))
  refine own_is X393 q d33_12 (l' := #[.val (.ref a1), .val v'0, .val v'4, .val (.ref b391), .val v'3, .unset]) rfl (own_il X393 q d33_14 rfl (own_iln X393 q d33_16 rfl (own_cn X393 q d33_17 ((feq ((by decide) : ¬ ((3 : Int32) = (4 : Int32)))).1) (own_aln X393 q d33_20 rfl rfl (own_iln X393 q d33_21 rfl (own_iln X393 q d33_22 rfl ?_))))))
  refine own_cSh X393 q hZ e393' hown hml (W 192 rfl) (W 193 rfl) (W 184 rfl) (W 194 rfl) (rm36_4 l Z a0 hw a1 k1 x0 x1 x2 x3 h393 n0 zs394 od394 ⟨SAD, SHI, SLO⟩ ((VA.ext E391).keep K393 (ninS (own_ne (VA).lt (Nat.le_of_eq g391.symm)) nin0))) d33_23 [(.ref a1), v'0, v'4] [] own_pd4 0 (by decide) (fun v404 T404 L404 h404 e404' X404 hQ404 => ?_)
  obtain ⟨b404, k404, rfl, N404q, E404, lo404, V404⟩ := hQ404
  have N404 := Fr.app N393 N404q
  have zs405 := Nat.le_trans zs394 E404.1
  have od405 := od394.ext E404
  have kp405 := kp394.ext E404
  have sz_b404 : h0.size ≤ b404 := Nat.le_trans kp394.1 lo404
  refine own_nv (own_as X404 q d33_26 rfl (l' := #[.val (.ref a1), .val v'0, .val v'4, .val (.ref b391), .val v'3, .val (.ref b404)]) rfl (own_al X404 q d33_28 rfl rfl (own_il X404 q d33_30 rfl ?_)))
  refine own_cS X404 q hZ e404' hown hml (W 208 rfl) (W 209 rfl) (W 184 rfl) (W 210 rfl) (rm40 l Z a0 hw b404 (3 : Int32) k404 _ 8 3 x3 h404 n0 zs405 od405 ⟨SAD, SHI, SLO⟩ V404 rfl (by decide) (by decide) rfl rfl) d33_32 [(.ref b404), v'3] [] own_pd5 0 (by decide) (fun v406 T406 L406 X406 hQ406 => ?_)
  obtain ⟨rfl, N406q, e406⟩ := hQ406
  have N406 := Fr.app N404 N406q
  refine own_nv (own_k X406 q d33_35 (own_cy X406 q d33_38 ((tlt ((by rw [own_gcE hd3]; exact hB) : (255 : Int32) < (own_gc x3))).2.2.1) (own_al X406 q d33_54 rfl rfl ?_)))
  refine own_rA X406 q hrt d33_56 hlk (by decide) ?_
  show QC4b Z x0 x1 x2 x3 h0 n0 _ T406.heap _
  rw [e406]
  exact ⟨_, _, rfl, N406, own_extK kp405, sz_b404, Or.inr ⟨(Or.inr (Or.inr (Or.inr hB))), V404⟩⟩
theorem rm35_4_4 (l : Launch) (Z : State) (a0 : Array Value) (hw : own_hw a0 Z) (a1 : Addr) (k1 : ClassId) (vs : List Value) (h0 : Heap) (n0 : Nat) (Z0 : n0 ≤ h0.size) (VA : Arv Z h0 a1 k1 .byte (4 : Int32) vs v'0) :
  own_M l Z [] own_y7 b'35 2 (some .byte) ⟨0, 0, 0, 0⟩ #[(.ref a1), v'4] h0 (QI (0 : Int32) h0 n0) := by
 refine own_start (n0 := n0) hw "java/lang/StringUTF16" (L := #[.val (.ref a1), .val v'4]) pn_35 (fun {p e s m below meth c s₁} q hx W hml hZ hown hnm hlk hrt X0 e0 N0 => ?_)
 refine own_iln X0 q d35_0 rfl (own_aln X0 q d35_1 rfl rfl (own_alen (n := (4 : Int32)) X0 q hZ e0 VA d35_2 (own_isubk 0 X0 q d35_3 (by decide) (own_k X0 q d35_4 (own_stp 7 (fun _ k => XS.iushr X0.here hx rfl (q.d d35_6) rfl k) ?_)))))
 rw [show (((0 : Int32).toUInt32 >>> ((31 : Int32) &&& 31).toUInt32).toInt32) = (0 : Int32) from by decide]
 refine own_stp 8 (fun _ k => XS.i2b X0.here hx rfl (q.d d35_7) rfl k) ?_
 rw [show ((0 : Int32).toInt8.toInt32) = (0 : Int32) from by decide]
 refine own_rN X0 q hrt (by simp) d35_8 hlk (by decide) ?_
 show QI (0 : Int32) h0 n0 _ s₁.heap _
 rw [e0]
 exact ⟨rfl, N0, rfl⟩
theorem rm35_4_8 (l : Launch) (Z : State) (a0 : Array Value) (hw : own_hw a0 Z) (a1 : Addr) (k1 : ClassId) (vs : List Value) (h0 : Heap) (n0 : Nat) (Z0 : n0 ≤ h0.size) (VA : Arv Z h0 a1 k1 .byte (8 : Int32) vs v'0) :
  own_M l Z [] own_y7 b'35 2 (some .byte) ⟨0, 0, 0, 0⟩ #[(.ref a1), v'4] h0 (QI (1 : Int32) h0 n0) := by
 refine own_start (n0 := n0) hw "java/lang/StringUTF16" (L := #[.val (.ref a1), .val v'4]) pn_35 (fun {p e s m below meth c s₁} q hx W hml hZ hown hnm hlk hrt X0 e0 N0 => ?_)
 refine own_iln X0 q d35_0 rfl (own_aln X0 q d35_1 rfl rfl (own_alen (n := (8 : Int32)) X0 q hZ e0 VA d35_2 (own_isubk (-4) X0 q d35_3 (by decide) (own_k X0 q d35_4 (own_stp 7 (fun _ k => XS.iushr X0.here hx rfl (q.d d35_6) rfl k) ?_)))))
 rw [show (((-4 : Int32).toUInt32 >>> ((31 : Int32) &&& 31).toUInt32).toInt32) = (1 : Int32) from by decide]
 refine own_stp 8 (fun _ k => XS.i2b X0.here hx rfl (q.d d35_7) rfl k) ?_
 rw [show ((1 : Int32).toInt8.toInt32) = (1 : Int32) from by decide]
 refine own_rN X0 q hrt (by simp) d35_8 hlk (by decide) ?_
 show QI (1 : Int32) h0 n0 _ s₁.heap _
 rw [e0]
 exact ⟨rfl, N0, rfl⟩
theorem rm3_4 (l : Launch) (Z : State) (a0 : Array Value) (hw : own_hw a0 Z) (a1 : Addr) (a2 : Addr) (k1 : ClassId) (x0 x1 x2 x3 : Int32) (cs0 : Int32) (h0 : Heap) (n0 : Nat) (Z0 : n0 ≤ h0.size) (E1 : Exa Z h0 a1 "java/lang/String") (FV : F'1 Z h0 a1 .null) (FC : F'0 Z h0 a1 v'0) (VA : Arv Z h0 a2 k1 .char (4 : Int32) [(.int x0), (.int x1), (.int x2), (.int x3)] v'0) (g1 : n0 ≤ a1) (n12 : a1 ≠ a2) (O0 : Old Z n0 h0) (SC_ : own_SC Z cs0) (SU_ : own_SU Z) (hd0 : own_c16 x0) (hd1 : own_c16 x1) (hd2 : own_c16 x2) (hd3 : own_c16 x3) :
  own_M l Z [] own_y8 b'3 6 none ⟨4, 2, 12, 57⟩ #[(.ref a1), (.ref a2), v'0, v'4, .null] h0 (QI4 Z a1 x0 x1 x2 x3 h0 n0) := by
 obtain ⟨SCS, hcs⟩ := SC_; obtain ⟨SAD, SHI, SLO⟩ := SU_
 refine own_start (n0 := n0) hw "java/lang/String" (L := #[.val (.ref a1), .val (.ref a2), .val v'0, .val v'4, .val .null, .unset]) pn_3 (fun {p e s m below meth c s₁} q hx W hml hZ hown hnm hlk hrt X0 e0 N0 => ?_)
 have hby := q.2
 have kp0 := Keep.refl h0 [a1]
 refine own_aln X0 q d3_0 rfl rfl ?_
 refine own_let ?_; intro g426_
 obtain ⟨T427, X427, e427, st427⟩ := initO X0 hx hZ hown (W 17 rfl) (W 18 rfl) (W 19 rfl) e0 (g := g426_) rfl (by rw [hml]; rfl) rfl (q.d d3_1) (by decide) (W := 0) (by show 2 * 0 + _ ≤ _; exact Nat.le_of_eq rfl) (by decide)
 refine own_stp 4 st427 (own_iln X427 q d3_4 rfl (own_zy X427 q d3_5 (((if0 _ _).trans (feq ((by decide) : ¬ ((4 : Int32) = (0 : Int32)))).2)) ?_))
 refine own_gS X427 q hZ e427 hown (W 99 rfl) (SCS.ext O0.2) d3_27 fun T428 X428 e428 => ?_
 refine own_zn X428 q d3_30 (((if0 _ _).trans (feq hcs).1)) (own_aln X428 q d3_33 rfl rfl (own_iln X428 q d3_34 rfl (own_iln X428 q d3_35 rfl ?_)))
 refine own_cSh X428 q hZ e428 hown hml (W 182 rfl) (W 183 rfl) (W 184 rfl) (W 185 rfl) (rm33_4 l Z a0 hw a2 k1 x0 x1 x2 x3 h0 n0 Z0 O0 ⟨SAD, SHI, SLO⟩ VA hd0 hd1 hd2 hd3) d3_36 [(.ref a2), v'0, v'4] [] own_pd4 0 (by decide) (fun v429 T429 L429 h429 e429' X429 hQ429 => ?_)
 obtain ⟨b429, k429, rfl, N429q, E429, lo429, D429⟩ := hQ429
 have N429 := Fr.app N0 N429q
 have zs430 := Nat.le_trans Z0 E429.1
 have kp430 := kp0.ext E429
 have sz_b429 : h0.size ≤ b429 := Nat.le_trans kp0.1 lo429
 refine own_nv ?_
 rcases D429 with ⟨hA, hV⟩ | ⟨hA, hV⟩
 ·have hV_ := hV
  show own_Fin _ _ _ _ (T429.setTop (mkF m 39 #[.val (.ref a1), .val (.ref a2), .val v'0, .val v'4, .val .null, .unset] [(.ref b429)]))
  refine own_as X429 q d3_39 rfl (l' := #[.val (.ref a1), .val (.ref a2), .val v'0, .val v'4, .val .null, .val (.ref b429)]) rfl (own_aln X429 q d3_41 rfl rfl (own_al X429 q d3_42 rfl rfl (own_iln X429 q d3_44 rfl ?_)))
  refine own_cS X429 q hZ e429' hown hml (W 189 rfl) (W 190 rfl) (W 184 rfl) (W 191 rfl) (rm35_4_4 l Z a0 hw b429 k429 _ h429 n0 zs430 hV) d3_45 [(.ref b429), v'4] [(.ref a1)] own_pd6 1 (by decide) (fun v431 T431 L431 X431 hQ431 => ?_)
  obtain ⟨rfl, N431q, e431⟩ := hQ431
  have N431 := Fr.app N429 N431q
  refine own_nv ?_
  refine own_let ?_; intro g432_
  obtain ⟨T433, h433, X433, e433, W433, st433⟩ := putFN X431 hx hZ hown (W 27 rfl) Via.refl e431 (FC.ext E429) (E1.ext E429) (Or.inr ⟨(W 23 rfl), rfl, hnm⟩) (W 7 rfl) (ty := .byte) (v' := v'0) (by decide) rfl rfl (g := g432_) rfl rfl (q.d d3_48)
  have kp434 := kp430.wr W433 (own_i0)
  have Fw433 := ((FC.ext E429)).same W433
  have N433 := Fr.snoc X433 N431 g1
  refine own_stp 51 st433 (own_aln X433 q d3_51 rfl rfl (own_al X433 q d3_52 rfl rfl ?_))
  refine own_let ?_; intro g435_
  obtain ⟨T436, h436, X436, e436, W436, st436⟩ := putF X433 hx hZ hown (host := "") (Or.inl (W 26 rfl)) Via.refl e433 ((FV.ext E429).other W433 (Or.inr (slot_ne (Or.inr (W 22 rfl)) (Or.inr (W 23 rfl)) (by decide) (t := (.array .byte)) (t' := .byte) (by decide) (by decide)))) ((E1.ext E429).wr W433) (Or.inr ⟨(W 22 rfl), rfl, hnm⟩) (W 7 rfl) (ty := (.array .byte)) (by decide) rfl rfl (g := g435_) rfl rfl (q.d d3_54)
  have kp437 := kp434.wr W436 (own_i0)
  have Fw436 := (((FV.ext E429).other W433 (Or.inr (slot_ne (Or.inr (W 22 rfl)) (Or.inr (W 23 rfl)) (by decide) (t := (.array .byte)) (t' := .byte) (by decide) (by decide))))).same W436
  have N436 := Fr.snoc X436 N433 g1
  refine own_stp 57 st436 ?_
  refine own_rV X436 q hrt d3_57 hlk (by decide) ?_
  show QI4 Z a1 x0 x1 x2 x3 h0 n0 _ T436.heap _
  rw [e436]
  exact ⟨_, _, rfl, N436, kp437, sz_b429, Fw436, Or.inl ⟨(Fw433.other W436 (Or.inr (slot_ne (Or.inr (W 23 rfl)) (Or.inr (W 22 rfl)) (by decide) (t := .byte) (t' := (.array .byte)) (by decide) (by decide)))), hA, ((hV.other W433 (Ne.symm (own_ne (E1).lt lo429))).other W436 (Ne.symm (own_ne (E1).lt lo429)))⟩⟩
 ·have hV_ := hV
  show own_Fin _ _ _ _ (T429.setTop (mkF m 39 #[.val (.ref a1), .val (.ref a2), .val v'0, .val v'4, .val .null, .unset] [(.ref b429)]))
  refine own_as X429 q d3_39 rfl (l' := #[.val (.ref a1), .val (.ref a2), .val v'0, .val v'4, .val .null, .val (.ref b429)]) rfl (own_aln X429 q d3_41 rfl rfl (own_al X429 q d3_42 rfl rfl (own_iln X429 q d3_44 rfl ?_)))
  refine own_cS X429 q hZ e429' hown hml (W 189 rfl) (W 190 rfl) (W 184 rfl) (W 191 rfl) (rm35_4_8 l Z a0 hw b429 k429 _ h429 n0 zs430 hV) d3_45 [(.ref b429), v'4] [(.ref a1)] own_pd6 1 (by decide) (fun v438 T438 L438 X438 hQ438 => ?_)
  obtain ⟨rfl, N438q, e438⟩ := hQ438
  have N438 := Fr.app N429 N438q
  refine own_nv ?_
  refine own_let ?_; intro g439_
  obtain ⟨T440, h440, X440, e440, W440, st440⟩ := putFN X438 hx hZ hown (W 27 rfl) Via.refl e438 (FC.ext E429) (E1.ext E429) (Or.inr ⟨(W 23 rfl), rfl, hnm⟩) (W 7 rfl) (ty := .byte) (v' := v'1) (by decide) rfl rfl (g := g439_) rfl rfl (q.d d3_48)
  have kp441 := kp430.wr W440 (own_i0)
  have Fw440 := ((FC.ext E429)).same W440
  have N440 := Fr.snoc X440 N438 g1
  refine own_stp 51 st440 (own_aln X440 q d3_51 rfl rfl (own_al X440 q d3_52 rfl rfl ?_))
  refine own_let ?_; intro g442_
  obtain ⟨T443, h443, X443, e443, W443, st443⟩ := putF X440 hx hZ hown (host := "") (Or.inl (W 26 rfl)) Via.refl e440 ((FV.ext E429).other W440 (Or.inr (slot_ne (Or.inr (W 22 rfl)) (Or.inr (W 23 rfl)) (by decide) (t := (.array .byte)) (t' := .byte) (by decide) (by decide)))) ((E1.ext E429).wr W440) (Or.inr ⟨(W 22 rfl), rfl, hnm⟩) (W 7 rfl) (ty := (.array .byte)) (by decide) rfl rfl (g := g442_) rfl rfl (q.d d3_54)
  have kp444 := kp441.wr W443 (own_i0)
  have Fw443 := (((FV.ext E429).other W440 (Or.inr (slot_ne (Or.inr (W 22 rfl)) (Or.inr (W 23 rfl)) (by decide) (t := (.array .byte)) (t' := .byte) (by decide) (by decide))))).same W443
  have N443 := Fr.snoc X443 N440 g1
  refine own_stp 57 st443 ?_
  refine own_rV X443 q hrt d3_57 hlk (by decide) ?_
  show QI4 Z a1 x0 x1 x2 x3 h0 n0 _ T443.heap _
  rw [e443]
  exact ⟨_, _, rfl, N443, kp444, sz_b429, Fw443, Or.inr ⟨(Fw440.other W443 (Or.inr (slot_ne (Or.inr (W 23 rfl)) (Or.inr (W 22 rfl)) (by decide) (t := .byte) (t' := (.array .byte)) (by decide) (by decide)))), hA, ((hV.other W440 (Ne.symm (own_ne (E1).lt lo429))).other W443 (Ne.symm (own_ne (E1).lt lo429)))⟩⟩
theorem rm2_4 (l : Launch) (Z : State) (a0 : Array Value) (hw : own_hw a0 Z) (a1 : Addr) (a2 : Addr) (k1 : ClassId) (x0 x1 x2 x3 : Int32) (cs0 : Int32) (h0 : Heap) (n0 : Nat) (Z0 : n0 ≤ h0.size) (E1 : Exa Z h0 a1 "java/lang/String") (FV : F'1 Z h0 a1 .null) (FC : F'0 Z h0 a1 v'0) (VA : Arv Z h0 a2 k1 .char (4 : Int32) [(.int x0), (.int x1), (.int x2), (.int x3)] v'0) (g1 : n0 ≤ a1) (n12 : a1 ≠ a2) (O0 : Old Z n0 h0) (SC_ : own_SC Z cs0) (SU_ : own_SU Z) (hd0 : own_c16 x0) (hd1 : own_c16 x1) (hd2 : own_c16 x2) (hd3 : own_c16 x3) :
  own_M l Z [] own_y9 b'2 2 none ⟨5, 2, 12, 74⟩ #[(.ref a1), (.ref a2)] h0 (QI4 Z a1 x0 x1 x2 x3 h0 n0) := by
 obtain ⟨SCS, hcs⟩ := SC_; obtain ⟨SAD, SHI, SLO⟩ := SU_
 refine own_start (n0 := n0) hw "java/lang/String" (L := #[.val (.ref a1), .val (.ref a2)]) pn_2 (fun {p e s m below meth c s₁} q hx W hml hZ hown hnm hlk hrt X0 e0 N0 => ?_)
 have kp0 := Keep.refl h0 [a1]
 refine own_aln X0 q d2_0 rfl rfl (own_aln X0 q d2_1 rfl rfl (own_k X0 q d2_2 (own_aln X0 q d2_3 rfl rfl (own_alen (n := (4 : Int32)) X0 q hZ e0 VA d2_4 (own_nl X0 q d2_5 ?_)))))
 refine own_cIh (a := a1) X0 q hZ e0 hown hml (W 13 rfl) (W 14 rfl) (W 8 rfl) (W 16 rfl) (rm3_4 l Z a0 hw a1 a2 k1 x0 x1 x2 x3 cs0 h0 n0 Z0 E1 FV FC VA g1 n12 O0 ⟨SCS, hcs⟩ ⟨SAD, SHI, SLO⟩ hd0 hd1 hd2 hd3) d2_6 [(.ref a2), v'0, v'4, .null] [] own_pd7 0 rfl (by decide) (fun v447 T447 L447 h447 e447' X447 hQ447 => ?_)
 obtain ⟨t447, k447, rfl, N447q, K447, lo447, Fv447, D447⟩ := hQ447
 have N447 := Fr.app N0 N447q
 have kp448 := kp0.trans K447 (allS (own_i0) all0)
 have sz_t447 : h0.size ≤ t447 := Nat.le_trans kp0.1 lo447
 refine own_nn ?_
 refine own_rV X447 q hrt d2_9 hlk (by decide) ?_
 show QI4 Z a1 x0 x1 x2 x3 h0 n0 _ T447.heap _
 rw [e447']
 exact ⟨_, _, rfl, N447, kp448, sz_t447, Fv447, D447⟩
theorem rm3_0 (l : Launch) (Z : State) (a0 : Array Value) (hw : ∀ d ∈ tables_1, d.before a0 Z = true) (ws : List Jvm.Cond) (a1 : Addr) (a2 : Addr) (k1 : ClassId) (h0 : Heap) (n0 : Nat) (Z0 : n0 ≤ h0.size) (E1 : Exa Z h0 a1 "java/lang/String") (FV : F'1 Z h0 a1 .null) (FC : F'0 Z h0 a1 v'0) (VA : Arv Z h0 a2 k1 .char (0 : Int32) [] v'0) (g1 : n0 ≤ a1) (n12 : a1 ≠ a2) (hEL : EW Z a0 ([("java/lang/String", 7)] : List (String × Nat))) :
  MetFree l (⟨"java/lang/String", "<init>", "([CIILjava/lang/Void;)V"⟩ : MethodName) (head1 (Jvm.Cond.code (⟨"java/lang/String", "<init>", "([CIILjava/lang/Void;)V"⟩ : MethodName) b'3 6 none :: ws) ({ frames := 1, cells := 2, slots := 4, locals := 12 } : Room)) (fun a U => a = #[(.ref a1), (.ref a2), v'0, v'0, .null] ∧ Z.Warmed39 U.vm ∧ U.heap = h0 ∧ CHv Z ([("java/lang/String", 7)] : List (String × Nat)) U.vm h0 ∧ ∀ x ∈ ([a1] : List Addr), Safe Z ([("java/lang/String", 7)] : List (String × Nat)) U.vm h0 x) (fun _ _ _ _ _ => True) (fun _ U o U' => ∃ v L, o = .returned v ∧ QI0 Z a1 h0 n0 v U'.heap L ∧ CHr Z ([("java/lang/String", 7)] : List (String × Nat)) U.vm U.heap U'.vm U'.heap ∧ ReturnedEndW U o U' L ({ frames := 1, cells := 2, slots := 4, locals := 12 } : Room).cells ({ frames := 1, cells := 2, slots := 4, locals := 12 } : Room).slots) := by
 refine MetFree.of_bodySF pn_3 hisR ?_
 intro p e s m args below meth c s₁ Bd hml0 hP hK
 obtain ⟨rfl, hZ, hh, hCH, hSF⟩ := hP
 have hx := Bd.exec
 have hby := Bd.bytes
 have q : own_q p c b'3 := ⟨hx, hby⟩
 have W := @own_w _ _ hw
 have hml : c.maxLocals = 6 := hml0
 have hown : s.vm.findClass "java/lang/String" = some m.cls := findClass_of_methodNamed Bd.named
 have hnm := (name_of_methodNamed Bd.named Bd.method).1
 have hlk : meth.locks = false := BodyLoose.notSynchronized Bd
 have X0 : Stand p l e ({ frames := 1, cells := 2, slots := 4, locals := 12 } : Room) s m #[(.ref a1), (.ref a2), v'0, v'0, .null] below meth c s₁ [] 0 0 := Stand.of_body Bd
 have e0 : s₁.heap = h0 := by rw [← hh, Bd.state]; rfl
 have N0 := Fr.nil n0
 show own_Fin p e below (own_PH Z ([("java/lang/String", 7)] : List (String × Nat)) (QI0 Z a1 h0 n0) s ({ frames := 1, cells := 2, slots := 4, locals := 12 } : Room).cells ({ frames := 1, cells := 2, slots := 4, locals := 12 } : Room).slots) (s₁.setTop (entryFrame m #[(.ref a1), (.ref a2), v'0, v'0, .null] 6))
 rw [show entryFrame m #[(.ref a1), (.ref a2), v'0, v'0, .null] 6 = mkF m 0 #[.val (.ref a1), .val (.ref a2), .val v'0, .val v'0, .val .null, .unset] [] from by first | (simp [entryFrame, mkF, argsToLocals, Value.category]; done) | rfl]
 have X0 : Stand p l e ({ frames := 1, cells := 2, slots := 4, locals := 12 } : Room) (s.setVm s.vm) m #[(.ref a1), (.ref a2), v'0, v'0, .null] below meth c s₁ [] 0 0 := X0
 have hZ : Z.Warmed39 (s.setVm s.vm).vm := hZ
 have hown : (s.setVm s.vm).vm.findClass "java/lang/String" = some m.cls := hown
 have hS0 : s.Since s.vm 0 := (State.WarmedH.refl s).since 0
 have hk0 : 0 ≤ h0.size := Nat.zero_le _
 have hCH : CHv Z ([("java/lang/String", 7)] : List (String × Nat)) s.vm h0 := hCH
 have hCR := CHr.refl hCH
 have sf_a1 : Safe Z ([("java/lang/String", 7)] : List (String × Nat)) s.vm h0 a1 := hSF _ (List.mem_of_getElem? (i := 0) rfl)
 have hstr : ∀ a ∈ Bundle.stringAtoms, a.before a0 Z = true := fun d hd => hw d ((by decide +kernel : ∀ d ∈ Bundle.stringAtoms, d ∈ tables_1) d hd)
 have kp0 := Keep.refl h0 [a1]
 refine own_aln X0 q d3_0 rfl rfl ?_
 refine own_let ?_; intro g462_
 obtain ⟨T463, X463, e463, st463⟩ := initO X0 hx hZ hown (W 17 rfl) (W 18 rfl) (W 19 rfl) e0 (g := g462_) rfl (by rw [hml]; rfl) rfl (q.d d3_1) (by decide) (W := 0) (by show 2 * 0 + _ ≤ _; exact Nat.le_of_eq rfl) (by decide)
 refine own_stp 4 st463 (own_iln X463 q d3_4 rfl (own_zn X463 q d3_5 (((if0 _ _).trans (teq (rfl : (0 : Int32) = (0 : Int32))).2)) (own_aln X463 q d3_8 rfl rfl ?_)))
 refine own_let ?_; intro g464_
 obtain ⟨a465, T465, h465, kk465, b465, k465, X465, e465, E465, hS465, hk465, hZ, hown, Ex465, Fc465, Fv465, V465, lt465, lb465, cH465, Lt465, sn465, st465⟩ := ldcCH X463 hx hZ hown (W 20 rfl) hstr e463 hS0 hk0 hEL (by simp) hCH (vs := []) (z := (0 : Int32)) ⟨by decide, by decide⟩ (by decide) rfl (g := g464_) rfl (q.d d3_9) (n := 0) (by decide) (by decide) (by decide) (by decide)
 have hk466 := Nat.le_trans hk0 E465.1
 have kp466 := kp0.ext E465
 have cr465 := CHr.trans hCR cH465
 have sf465_a1 := cH465.safe (E1).lt sf_a1
 refine own_stq 11 [(.ref a465), (.ref a1)] st465 ?_
 refine own_gF X465 q hZ e465 hown (W 26 rfl) Fv465 d3_11 fun T467 X467 e467 => ?_
 refine own_let ?_; intro g468_
 obtain ⟨T469, h469, X469, e469, W469, st469⟩ := putF X467 hx hZ hown (host := "") (Or.inl (W 26 rfl)) Via.refl e467 (FV.ext E465) (E1.ext E465) (Or.inr ⟨(W 22 rfl), rfl, hnm⟩) (W 7 rfl) (ty := (.array .byte)) (by decide) rfl rfl (g := g468_) rfl rfl (q.d d3_14)
 have ch470 := CHr.wr W469 sf465_a1 cH465.1
 have cr470 := CHr.trans cr465 ch470
 have sf470_a1 := Safe.wr W469 sf465_a1 cH465.1 sf465_a1
 have hk470 := Nat.le_trans hk465 (Keep.of_wr W469).1
 have kp470 := kp466.wr W469 (own_i0)
 have Fw469 := ((FV.ext E465)).same W469
 have N469 := Fr.snoc X469 N0 g1
 refine own_stp 17 st469 (own_aln X469 q d3_17 rfl rfl (own_stp 20 (fun _ k => ldcAgain X469 hx hZ hown (W 20 rfl) Lt465 (g := (mkF m 18 #[.val (.ref a1), .val (.ref a2), .val v'0, .val v'0, .val .null, .unset] [(.ref a1)])) rfl (q.d d3_18) _ k) ?_))
 refine own_gF X469 q hZ e469 hown (W 27 rfl) (Fc465.other W469 (Or.inl (Ne.symm (sn465 _ sf465_a1).1))) d3_20 fun T471 X471 e471 => ?_
 refine own_let ?_; intro g472_
 obtain ⟨T473, h473, X473, e473, W473, st473⟩ := putFN X471 hx hZ hown (W 27 rfl) Via.refl e471 ((FC.ext E465).other W469 (Or.inr (slot_ne (Or.inr (W 23 rfl)) (Or.inr (W 22 rfl)) (by decide) (t := .byte) (t' := (.array .byte)) (by decide) (by decide)))) ((E1.ext E465).wr W469) (Or.inr ⟨(W 23 rfl), rfl, hnm⟩) (W 7 rfl) (ty := .byte) (v' := v'0) (by decide) rfl rfl (g := g472_) rfl rfl (q.d d3_23)
 have ch474 := CHr.wr W473 sf470_a1 ch470.1
 have cr474 := CHr.trans cr470 ch474
 have sf474_a1 := Safe.wr W473 sf470_a1 ch470.1 sf470_a1
 have hk474 := Nat.le_trans hk470 (Keep.of_wr W473).1
 have kp474 := kp470.wr W473 (own_i0)
 have Fw473 := (((FC.ext E465).other W469 (Or.inr (slot_ne (Or.inr (W 23 rfl)) (Or.inr (W 22 rfl)) (by decide) (t := .byte) (t' := (.array .byte)) (by decide) (by decide))))).same W473
 have N473 := Fr.snoc X473 N469 g1
 refine own_stp 26 st473 ?_
 have hRR : CHr Z ([("java/lang/String", 7)] : List (String × Nat)) s.vm s.heap T473.vm T473.heap := by rw [hh, e473]; exact CHr.trans cr474 (CHv.at X473 hZ hEL ch474.1)
 refine own_retVH X473 hS465 (by rw [e473]; exact hk474) hRR hx Bd.returns (q.d d3_26) hlk ?_ (by decide) (by decide)
 show QI0 Z a1 h0 n0 _ T473.heap _
 rw [e473]
 exact ⟨_, _, rfl, N473, kp474, (Fw469.other W473 (Or.inr (slot_ne (Or.inr (W 22 rfl)) (Or.inr (W 23 rfl)) (by decide) (t := (.array .byte)) (t' := .byte) (by decide) (by decide)))), Fw473, ((V465.other W469 (Ne.symm (sn465 _ sf465_a1).2)).other W473 (Ne.symm (sn465 _ sf465_a1).2))⟩
theorem rm2_0 (l : Launch) (Z : State) (a0 : Array Value) (hw : ∀ d ∈ tables_1, d.before a0 Z = true) (ws : List Jvm.Cond) (a1 : Addr) (a2 : Addr) (k1 : ClassId) (h0 : Heap) (n0 : Nat) (Z0 : n0 ≤ h0.size) (E1 : Exa Z h0 a1 "java/lang/String") (FV : F'1 Z h0 a1 .null) (FC : F'0 Z h0 a1 v'0) (VA : Arv Z h0 a2 k1 .char (0 : Int32) [] v'0) (g1 : n0 ≤ a1) (n12 : a1 ≠ a2) (hEL : EW Z a0 ([("java/lang/String", 7)] : List (String × Nat))) :
  MetFree l (⟨"java/lang/String", "<init>", "([C)V"⟩ : MethodName) (head1 (Jvm.Cond.code (⟨"java/lang/String", "<init>", "([C)V"⟩ : MethodName) b'2 2 none :: ws) ({ frames := 2, cells := 2, slots := 4, locals := 29 } : Room)) (fun a U => a = #[(.ref a1), (.ref a2)] ∧ Z.Warmed39 U.vm ∧ U.heap = h0 ∧ CHv Z ([("java/lang/String", 7)] : List (String × Nat)) U.vm h0 ∧ ∀ x ∈ ([a1] : List Addr), Safe Z ([("java/lang/String", 7)] : List (String × Nat)) U.vm h0 x) (fun _ _ _ _ _ => True) (fun _ U o U' => ∃ v L, o = .returned v ∧ QI0 Z a1 h0 n0 v U'.heap L ∧ CHr Z ([("java/lang/String", 7)] : List (String × Nat)) U.vm U.heap U'.vm U'.heap ∧ ReturnedEndW U o U' L ({ frames := 2, cells := 2, slots := 4, locals := 29 } : Room).cells ({ frames := 2, cells := 2, slots := 4, locals := 29 } : Room).slots) := by
 refine MetFree.of_bodySF pn_2 hisR ?_
 intro p e s m args below meth c s₁ Bd hml0 hP hK
 obtain ⟨rfl, hZ, hh, hCH, hSF⟩ := hP
 have hx := Bd.exec
 have hby := Bd.bytes
 have q : own_q p c b'2 := ⟨hx, hby⟩
 have W := @own_w _ _ hw
 have hml : c.maxLocals = 2 := hml0
 have hown : s.vm.findClass "java/lang/String" = some m.cls := findClass_of_methodNamed Bd.named
 have hnm := (name_of_methodNamed Bd.named Bd.method).1
 have hlk : meth.locks = false := BodyLoose.notSynchronized Bd
 have X0 : Stand p l e ({ frames := 2, cells := 2, slots := 4, locals := 29 } : Room) s m #[(.ref a1), (.ref a2)] below meth c s₁ [] 0 0 := Stand.of_body Bd
 have e0 : s₁.heap = h0 := by rw [← hh, Bd.state]; rfl
 have N0 := Fr.nil n0
 show own_Fin p e below (own_PH Z ([("java/lang/String", 7)] : List (String × Nat)) (QI0 Z a1 h0 n0) s ({ frames := 2, cells := 2, slots := 4, locals := 29 } : Room).cells ({ frames := 2, cells := 2, slots := 4, locals := 29 } : Room).slots) (s₁.setTop (entryFrame m #[(.ref a1), (.ref a2)] 2))
 rw [show entryFrame m #[(.ref a1), (.ref a2)] 2 = mkF m 0 #[.val (.ref a1), .val (.ref a2)] [] from by first | (simp [entryFrame, mkF, argsToLocals, Value.category]; done) | rfl]
 have X0 : Stand p l e ({ frames := 2, cells := 2, slots := 4, locals := 29 } : Room) (s.setVm s.vm) m #[(.ref a1), (.ref a2)] below meth c s₁ [] 0 0 := X0
 have hZ : Z.Warmed39 (s.setVm s.vm).vm := hZ
 have hown : (s.setVm s.vm).vm.findClass "java/lang/String" = some m.cls := hown
 have hS0 : s.Since s.vm 0 := (State.WarmedH.refl s).since 0
 have hk0 : 0 ≤ h0.size := Nat.zero_le _
 have hCH : CHv Z ([("java/lang/String", 7)] : List (String × Nat)) s.vm h0 := hCH
 have hCR := CHr.refl hCH
 have sf_a1 : Safe Z ([("java/lang/String", 7)] : List (String × Nat)) s.vm h0 a1 := hSF _ (List.mem_of_getElem? (i := 0) rfl)
 have hstr : ∀ a ∈ Bundle.stringAtoms, a.before a0 Z = true := fun d hd => hw d ((by decide +kernel : ∀ d ∈ Bundle.stringAtoms, d ∈ tables_1) d hd)
 have kp0 := Keep.refl h0 [a1]
 refine own_aln X0 q d2_0 rfl rfl (own_aln X0 q d2_1 rfl rfl (own_k X0 q d2_2 (own_aln X0 q d2_3 rfl rfl (own_alen (n := (0 : Int32)) X0 q hZ e0 VA d2_4 (own_nl X0 q d2_5 ?_)))))
 refine own_let ?_; intro g479_
 obtain ⟨_, _, ⟨T478, L478, k478, n478⟩, -, X478, hS478, hG478, ⟨Lc478, hQ478, l478, y478, z478, cH478⟩, st478⟩ := X0.specialBackS hx (y := own_y8) rfl hown (mvT hZ (W 13 rfl)) (mvT hZ (W 14 rfl)) (mvT hZ (W 16 rfl)) (by decide) (own_backHS (W := 0) (rm3_0 l Z a0 hw [] a1 a2 k1 h0 n0 Z0 E1 FV FC VA g1 n12 hEL) hZ (W 16 rfl) (W 8 rfl) (by decide) (by decide) hEL hCH (ss := [a1]) (allS ⟨(E1).lt, sf_a1⟩ all0)) (g := g479_) rfl (by rw [hml]; rfl) (Steps.refl _) (a := a1) (argsL := [(.ref a2), v'0, v'0, .null]) (rest := []) (lenOf own_pd7 rfl) rfl (by show 2 * 0 + _ ≤ _; exact Nat.le_of_eq rfl) (q.d d2_6) (fun _ _ => ⟨rfl, e0, (by decide : 0 + 2 ≤ _), (by decide : 0 + 4 ≤ _)⟩)
 dsimp only [Pt.U, Pt.locs, Pt.cells, Pt.slots] at X478 l478 y478 z478 st478 hQ478
 rw [l478, y478, z478] at X478
 clear l478 y478 z478
 have X478 : Stand p l e _ (s.setVm T478.vm) m _ below meth c T478 _ _ _ := X478
 have hZ478 : Z.Warmed39 (s.setVm T478.vm).vm := State.Warmed39.trans hZ hS478.1
 have hown : (s.setVm T478.vm).vm.findClass "java/lang/String" = some m.cls := by show T478.vm.findClass _ = _; rw [hS478.1.alike.findClass]; exact hown
 have hZ := hZ478
 have hS478 := State.Since.trans hS0 hS478 (Nat.le_trans hk0 (by rw [← e0]; exact hG478))
 obtain ⟨t478, k478, rfl, N478q, K478, Fv478, Fc478, V478⟩ := hQ478
 have N478 := Fr.app N0 N478q
 obtain ⟨h478, e478⟩ : ∃ z, z = T478.heap := ⟨_, rfl⟩
 have e478' := e478.symm
 rw [← e478] at K478 Fv478 Fc478 V478
 rw [e478'] at hS478
 have hkc478 : h478.size ≤ h478.size := Nat.le_refl _
 have hk480 := Nat.le_trans hk0 K478.1
 have kp480 := kp0.trans K478 (allS (own_i0) all0)
 rw [e478'] at cH478
 have cr478 := CHr.trans hCR cH478
 have sf478_a1 := cH478.safe (E1).lt sf_a1
 refine own_stp 9 (fun _ k => st478.trans k) (own_nn ?_)
 have hRR : CHr Z ([("java/lang/String", 7)] : List (String × Nat)) s.vm s.heap T478.vm T478.heap := by rw [hh, e478']; exact CHr.trans cr478 (CHv.at X478 hZ hEL cH478.1)
 refine own_retVH X478 hS478 (by rw [e478']; exact hkc478) hRR hx Bd.returns (q.d d2_9) hlk ?_ (by decide) (by decide)
 show QI0 Z a1 h0 n0 _ T478.heap _
 rw [e478']
 exact ⟨_, _, rfl, N478, kp480, Fv478, Fc478, V478⟩
theorem d11_0 : own_D b'11 0 (.aload_n 0) 1 1 := by decide +kernel
theorem d11_1 : own_D b'11 1 (.invokespecial 3) 3 4 := by decide +kernel
theorem d11_4 : own_D b'11 4 (.getstatic 18) 3 7 := by decide +kernel
theorem d11_7 : own_DZ b'11 7 .eq 25 10 := by decide +kernel
theorem d11_10 : own_D b'11 10 (.aload_n 0) 1 11 := by decide +kernel
theorem d11_11 : own_D b'11 11 (.iload_n 1) 1 12 := by decide +kernel
theorem d11_12 : own_D b'11 12 (.newarray .byte) 2 14 := by decide +kernel
theorem d11_14 : own_D b'11 14 (.putfield 15) 3 17 := by decide +kernel
theorem d11_17 : own_D b'11 17 (.aload_n 0) 1 18 := by decide +kernel
theorem d11_18 : own_DK b'11 18 0 19 := by decide +kernel
theorem d11_19 : own_D b'11 19 (.putfield 22) 3 22 := by decide +kernel
theorem d11_22 : own_DG b'11 22 38 := by decide +kernel
theorem d11_38 : own_D b'11 38 .return_ 1 39 := by decide +kernel
theorem pn_11 : plainFor (⟨"java/lang/AbstractStringBuilder", "<init>", "(I)V"⟩ : MethodName) = true := plainFor_of_name (by first | (simp [plainName, overriddenIn]; done) | decide +kernel)
theorem rm11 (l : Launch) (Z : State) (a0 : Array Value) (hw : own_hw a0 Z) (a1 : Addr) (cs0 : Int32) (h0 : Heap) (n0 : Nat) (Z0 : n0 ≤ h0.size) (O0 : Old Z n0 h0) (SC_ : own_SC Z cs0) (E1 : Exa Z h0 a1 "java/lang/StringBuilder") (G0 : F'3 Z h0 a1 .null) (G1 : F'2 Z h0 a1 v'0) (G2 : F'4 Z h0 a1 v'0) (G3 : F'5 Z h0 a1 v'0) (g1 : n0 ≤ a1) :
  own_M l Z [] own_y10 b'11 2 none ⟨1, 1, 16, 12⟩ #[(.ref a1), v'16] h0 (QSB Z a1 h0 n0) := by
 obtain ⟨SCS, hcs⟩ := SC_
 refine own_start (n0 := n0) hw "java/lang/AbstractStringBuilder" (L := #[.val (.ref a1), .val v'16]) pn_11 (fun {p e s m below meth c s₁} q hx W hml hZ hown hnm hlk hrt X0 e0 N0 => ?_)
 have kp0 := Keep.refl h0 [a1]
 refine own_aln X0 q d11_0 rfl rfl ?_
 refine own_let ?_; intro g493_
 obtain ⟨T494, X494, e494, st494⟩ := initO X0 hx hZ hown (W 73 rfl) (W 18 rfl) (W 19 rfl) e0 (g := g493_) rfl (by rw [hml]; rfl) rfl (q.d d11_1) (by decide) (W := 0) (by show 2 * 0 + _ ≤ _; exact Nat.le_of_eq rfl) (by decide)
 refine own_stp 4 st494 ?_
 refine own_gS X494 q hZ e494 hown (W 74 rfl) (SCS.ext O0.2) d11_4 fun T495 X495 e495 => ?_
 refine own_zn X495 q d11_7 (((if0 _ _).trans (feq hcs).1)) (own_aln X495 q d11_10 rfl rfl (own_iln X495 q d11_11 rfl ?_))
 refine own_let ?_; intro g496_
 obtain ⟨T497, h497, k497, X497, e497, E497, A497, st497⟩ := newP X495 hx hZ (W 21 rfl) e495 (g := g496_) rfl (q.d d11_12) rfl (by decide) (cap := 16) (by decide) (by decide) (by decide) (by decide)
 obtain ⟨b497, g497⟩ : ∃ z, z = h0.size := ⟨_, rfl⟩
 rw [← g497] at A497 st497
 have V497 : Arv Z h497 b497 k497 .byte (16 : Int32) [v'0, v'0, v'0, v'0, v'0, v'0, v'0, v'0, v'0, v'0, v'0, v'0, v'0, v'0, v'0, v'0] v'0 := (Arv.new A497 (by decide)).pad (pad_rep [] v'0 16)
 have kp498 := kp0.ext E497
 have sz_b497 : h0.size ≤ b497 := Nat.le_trans kp0.1 (Nat.le_of_eq g497.symm)
 refine own_stp 14 st497 ?_
 refine own_let ?_; intro g499_
 obtain ⟨T500, h500, X500, e500, W500, st500⟩ := putF X497 hx hZ hown (host := "") (Or.inl (W 75 rfl)) Via.refl e497 (G0.ext E497) (E1.ext E497) (Or.inl (W 76 rfl)) (W 62 rfl) (ty := (.array .byte)) (by decide) rfl rfl (g := g499_) rfl rfl (q.d d11_14)
 have kp501 := kp498.wr W500 (own_i0)
 have Fw500 := ((G0.ext E497)).same W500
 have N500 := Fr.snoc X500 N0 g1
 refine own_stp 17 st500 (own_aln X500 q d11_17 rfl rfl (own_k X500 q d11_18 ?_))
 refine own_let ?_; intro g502_
 obtain ⟨T503, h503, X503, e503, W503, st503⟩ := putFN X500 hx hZ hown (W 77 rfl) Via.refl e500 ((G1.ext E497).other W500 (Or.inr (slot_ne (Or.inl (W 78 rfl)) (Or.inl (W 76 rfl)) (by decide) (t := .byte) (t' := (.array .byte)) (by decide) (by decide)))) ((E1.ext E497).wr W500) (Or.inl (W 78 rfl)) (W 62 rfl) (ty := .byte) (v' := v'0) (by decide) rfl rfl (g := g502_) rfl rfl (q.d d11_19)
 have kp504 := kp501.wr W503 (own_i0)
 have Fw503 := (((G1.ext E497).other W500 (Or.inr (slot_ne (Or.inl (W 78 rfl)) (Or.inl (W 76 rfl)) (by decide) (t := .byte) (t' := (.array .byte)) (by decide) (by decide))))).same W503
 have N503 := Fr.snoc X503 N500 g1
 refine own_stp 22 st503 (own_gt X503 q d11_22 ?_)
 refine own_rV X503 q hrt d11_38 hlk (by decide) ?_
 show QSB Z a1 h0 n0 _ T503.heap _
 rw [e503]
 exact ⟨_, _, rfl, N503, kp504, sz_b497, (Fw500.other W503 (Or.inr (slot_ne (Or.inl (W 76 rfl)) (Or.inl (W 78 rfl)) (by decide) (t := (.array .byte)) (t' := .byte) (by decide) (by decide)))), Fw503, (((G2.ext E497).other W500 (Or.inr (slot_ne (Or.inl (W 101 rfl)) (Or.inl (W 76 rfl)) (by decide) (t := .int) (t' := (.array .byte)) (by decide) (by decide)))).other W503 (Or.inr (slot_ne (Or.inl (W 101 rfl)) (Or.inl (W 78 rfl)) (by decide) (t := .int) (t' := .byte) (by decide) (by decide)))), (((G3.ext E497).other W500 (Or.inr (slot_ne (Or.inl (W 239 rfl)) (Or.inl (W 76 rfl)) (by decide) (t := .boolean) (t' := (.array .byte)) (by decide) (by decide)))).other W503 (Or.inr (slot_ne (Or.inl (W 239 rfl)) (Or.inl (W 78 rfl)) (by decide) (t := .boolean) (t' := .byte) (by decide) (by decide)))), ((V497.other W500 (Ne.symm (own_ne (E1).lt (Nat.le_of_eq g497.symm)))).other W503 (Ne.symm (own_ne (E1).lt (Nat.le_of_eq g497.symm))))⟩
theorem d10_0 : own_D b'10 0 (.aload_n 0) 1 1 := by decide +kernel
theorem d10_1 : own_DK b'10 1 16 3 := by decide +kernel
theorem d10_3 : own_D b'10 3 (.invokespecial 1) 3 6 := by decide +kernel
theorem d10_6 : own_D b'10 6 .return_ 1 7 := by decide +kernel
theorem pn_10 : plainFor (⟨"java/lang/StringBuilder", "<init>", "()V"⟩ : MethodName) = true := plainFor_of_name (by first | (simp [plainName, overriddenIn]; done) | decide +kernel)
theorem rm10 (l : Launch) (Z : State) (a0 : Array Value) (hw : own_hw a0 Z) (a1 : Addr) (cs0 : Int32) (h0 : Heap) (n0 : Nat) (Z0 : n0 ≤ h0.size) (O0 : Old Z n0 h0) (SC_ : own_SC Z cs0) (E1 : Exa Z h0 a1 "java/lang/StringBuilder") (G0 : F'3 Z h0 a1 .null) (G1 : F'2 Z h0 a1 v'0) (G2 : F'4 Z h0 a1 v'0) (G3 : F'5 Z h0 a1 v'0) (g1 : n0 ≤ a1) :
  own_M l Z [] own_y11 b'10 1 none ⟨2, 1, 16, 25⟩ #[(.ref a1)] h0 (QSB Z a1 h0 n0) := by
 obtain ⟨SCS, hcs⟩ := SC_
 refine own_start (n0 := n0) hw "java/lang/StringBuilder" (L := #[.val (.ref a1)]) pn_10 (fun {p e s m below meth c s₁} q hx W hml hZ hown hnm hlk hrt X0 e0 N0 => ?_)
 have kp0 := Keep.refl h0 [a1]
 refine own_aln X0 q d10_0 rfl rfl (own_k X0 q d10_1 ?_)
 refine own_cIh (a := a1) X0 q hZ e0 hown hml (W 67 rfl) (W 68 rfl) (W 71 rfl) (W 72 rfl) (rm11 l Z a0 hw a1 cs0 h0 n0 Z0 O0 ⟨SCS, hcs⟩ E1 G0 G1 G2 G3 g1) d10_3 [v'16] [] own_pd8 0 rfl (by decide) (fun v507 T507 L507 h507 e507' X507 hQ507 => ?_)
 obtain ⟨b507, k507, rfl, N507q, K507, lo507, G507_0, G507_1, G507_2, G507_3, V507⟩ := hQ507
 have N507 := Fr.app N0 N507q
 have kp508 := kp0.trans K507 (allS (own_i0) all0)
 have sz_b507 : h0.size ≤ b507 := Nat.le_trans kp0.1 lo507
 refine own_nn ?_
 refine own_rV X507 q hrt d10_6 hlk (by decide) ?_
 show QSB Z a1 h0 n0 _ T507.heap _
 rw [e507']
 exact ⟨_, _, rfl, N507, kp508, sz_b507, G507_0, G507_1, G507_2, G507_3, V507⟩
theorem d15_0 : own_D b'15 0 (.getstatic 38) 3 3 := by decide +kernel
theorem d15_3 : own_DZ b'15 3 .eq 13 6 := by decide +kernel
theorem d15_6 : own_D b'15 6 (.aload_n 0) 1 7 := by decide +kernel
theorem d15_7 : own_D b'15 7 (.getfield 15) 3 10 := by decide +kernel
theorem d15_10 : own_DG b'15 10 14 := by decide +kernel
theorem d15_14 : own_D b'15 14 .ireturn 1 15 := by decide +kernel
theorem pn_15 : plainFor (⟨"java/lang/String", "coder", "()B"⟩ : MethodName) = true := plainFor_of_name (by first | (simp [plainName, overriddenIn]; done) | decide +kernel)
theorem rm15_0 (l : Launch) (Z : State) (a0 : Array Value) (hw : own_hw a0 Z) (a1 : Addr) (cs0 : Int32) (h0 : Heap) (n0 : Nat) (Z0 : n0 ≤ h0.size) (O0 : Old Z n0 h0) (SC_ : own_SC Z cs0) (FC : F'0 Z h0 a1 v'0) :
  own_M l Z [] own_y12 b'15 1 (some .byte) ⟨0, 0, 0, 0⟩ #[(.ref a1)] h0 (QI (0 : Int32) h0 n0) := by
 obtain ⟨SCS, hcs⟩ := SC_
 refine own_start (n0 := n0) hw "java/lang/String" (L := #[.val (.ref a1)]) pn_15 (fun {p e s m below meth c s₁} q hx W hml hZ hown hnm hlk hrt X0 e0 N0 => ?_)
 refine own_gS X0 q hZ e0 hown (W 99 rfl) (SCS.ext O0.2) d15_0 fun T511 X511 e511 => ?_
 refine own_zn X511 q d15_3 (((if0 _ _).trans (feq hcs).1)) (own_aln X511 q d15_6 rfl rfl ?_)
 refine own_gF X511 q hZ e511 hown (W 27 rfl) FC d15_7 fun T512 X512 e512 => ?_
 refine own_gt X512 q d15_10 ?_
 refine own_rN X512 q hrt (by simp) d15_14 hlk (by decide) ?_
 show QI (0 : Int32) h0 n0 _ T512.heap _
 rw [e512]
 exact ⟨rfl, N0, rfl⟩
theorem d26_0 : own_D b'26 0 (.getstatic 18) 3 3 := by decide +kernel
theorem d26_3 : own_DZ b'26 3 .eq 17 6 := by decide +kernel
theorem d26_6 : own_D b'26 6 (.aload_n 0) 1 7 := by decide +kernel
theorem d26_7 : own_D b'26 7 (.getfield 22) 3 10 := by decide +kernel
theorem d26_10 : own_DZ b'26 10 .ne 17 13 := by decide +kernel
theorem d26_13 : own_DK b'26 13 1 14 := by decide +kernel
theorem d26_14 : own_DG b'26 14 18 := by decide +kernel
theorem d26_17 : own_DK b'26 17 0 18 := by decide +kernel
theorem d26_18 : own_D b'26 18 .ireturn 1 19 := by decide +kernel
theorem pn_26 : plainFor (⟨"java/lang/AbstractStringBuilder", "isLatin1", "()Z"⟩ : MethodName) = true := plainFor_of_name (by first | (simp [plainName, overriddenIn]; done) | decide +kernel)
theorem rm26_0 (l : Launch) (Z : State) (a0 : Array Value) (hw : own_hw a0 Z) (a1 : Addr) (cs0 : Int32) (h0 : Heap) (n0 : Nat) (Z0 : n0 ≤ h0.size) (O0 : Old Z n0 h0) (SC_ : own_SC Z cs0) (FC : F'2 Z h0 a1 v'0) :
  own_M l Z [] own_y13 b'26 1 (some .boolean) ⟨0, 0, 0, 0⟩ #[(.ref a1)] h0 (QI (1 : Int32) h0 n0) := by
 obtain ⟨SCS, hcs⟩ := SC_
 refine own_start (n0 := n0) hw "java/lang/AbstractStringBuilder" (L := #[.val (.ref a1)]) pn_26 (fun {p e s m below meth c s₁} q hx W hml hZ hown hnm hlk hrt X0 e0 N0 => ?_)
 refine own_gS X0 q hZ e0 hown (W 74 rfl) (SCS.ext O0.2) d26_0 fun T515 X515 e515 => ?_
 refine own_zn X515 q d26_3 (((if0 _ _).trans (feq hcs).1)) (own_aln X515 q d26_6 rfl rfl ?_)
 refine own_gF X515 q hZ e515 hown (W 77 rfl) FC d26_7 fun T516 X516 e516 => ?_
 refine own_zn X516 q d26_10 (((if0 _ _).trans (teq (rfl : (0 : Int32) = (0 : Int32))).2)) (own_k X516 q d26_13 (own_gt X516 q d26_14 ?_))
 refine own_rN X516 q hrt (by simp) d26_18 hlk (by decide) ?_
 show QI (1 : Int32) h0 n0 _ T516.heap _
 rw [e516]
 exact ⟨rfl, N0, rfl⟩
theorem rm15_1 (l : Launch) (Z : State) (a0 : Array Value) (hw : own_hw a0 Z) (a1 : Addr) (cs0 : Int32) (h0 : Heap) (n0 : Nat) (Z0 : n0 ≤ h0.size) (O0 : Old Z n0 h0) (SC_ : own_SC Z cs0) (FC : F'0 Z h0 a1 v'1) :
  own_M l Z [] own_y12 b'15 1 (some .byte) ⟨0, 0, 0, 0⟩ #[(.ref a1)] h0 (QI (1 : Int32) h0 n0) := by
 obtain ⟨SCS, hcs⟩ := SC_
 refine own_start (n0 := n0) hw "java/lang/String" (L := #[.val (.ref a1)]) pn_15 (fun {p e s m below meth c s₁} q hx W hml hZ hown hnm hlk hrt X0 e0 N0 => ?_)
 refine own_gS X0 q hZ e0 hown (W 99 rfl) (SCS.ext O0.2) d15_0 fun T519 X519 e519 => ?_
 refine own_zn X519 q d15_3 (((if0 _ _).trans (feq hcs).1)) (own_aln X519 q d15_6 rfl rfl ?_)
 refine own_gF X519 q hZ e519 hown (W 27 rfl) FC d15_7 fun T520 X520 e520 => ?_
 refine own_gt X520 q d15_10 ?_
 refine own_rN X520 q hrt (by simp) d15_14 hlk (by decide) ?_
 show QI (1 : Int32) h0 n0 _ T520.heap _
 rw [e520]
 exact ⟨rfl, N0, rfl⟩
theorem rm26_1 (l : Launch) (Z : State) (a0 : Array Value) (hw : own_hw a0 Z) (a1 : Addr) (cs0 : Int32) (h0 : Heap) (n0 : Nat) (Z0 : n0 ≤ h0.size) (O0 : Old Z n0 h0) (SC_ : own_SC Z cs0) (FC : F'2 Z h0 a1 v'1) :
  own_M l Z [] own_y13 b'26 1 (some .boolean) ⟨0, 0, 0, 0⟩ #[(.ref a1)] h0 (QI (0 : Int32) h0 n0) := by
 obtain ⟨SCS, hcs⟩ := SC_
 refine own_start (n0 := n0) hw "java/lang/AbstractStringBuilder" (L := #[.val (.ref a1)]) pn_26 (fun {p e s m below meth c s₁} q hx W hml hZ hown hnm hlk hrt X0 e0 N0 => ?_)
 refine own_gS X0 q hZ e0 hown (W 74 rfl) (SCS.ext O0.2) d26_0 fun T523 X523 e523 => ?_
 refine own_zn X523 q d26_3 (((if0 _ _).trans (feq hcs).1)) (own_aln X523 q d26_6 rfl rfl ?_)
 refine own_gF X523 q hZ e523 hown (W 77 rfl) FC d26_7 fun T524 X524 e524 => ?_
 refine own_zy X524 q d26_10 (((if0 _ _).trans (feq ((by decide) : ¬ ((1 : Int32) = (0 : Int32)))).2)) (own_k X524 q d26_17 ?_)
 refine own_rN X524 q hrt (by simp) d26_18 hlk (by decide) ?_
 show QI (0 : Int32) h0 n0 _ T524.heap _
 rw [e524]
 exact ⟨rfl, N0, rfl⟩
theorem d23_0 : own_D b'23 0 (.aload_n 0) 1 1 := by decide +kernel
theorem d23_1 : own_D b'23 1 (.getfield 15) 3 4 := by decide +kernel
theorem d23_4 : own_D b'23 4 .areturn 1 5 := by decide +kernel
theorem pn_23 : plainFor (⟨"java/lang/AbstractStringBuilder", "getValue", "()[B"⟩ : MethodName) = true := plainFor_of_name (by first | (simp [plainName, overriddenIn]; done) | decide +kernel)
theorem rm23 (l : Launch) (Z : State) (a0 : Array Value) (hw : own_hw a0 Z) (a1 : Addr) (b : Addr) (h0 : Heap) (n0 : Nat) (Z0 : n0 ≤ h0.size) (F : F'3 Z h0 a1 (.ref b)) :
  own_M l Z [] own_y14 b'23 1 (some (.array .byte)) ⟨0, 0, 0, 0⟩ #[(.ref a1)] h0 (QR (.ref b) h0 n0) := by
 refine own_start (n0 := n0) hw "java/lang/AbstractStringBuilder" (L := #[.val (.ref a1)]) pn_23 (fun {p e s m below meth c s₁} q hx W hml hZ hown hnm hlk hrt X0 e0 N0 => ?_)
 refine own_aln X0 q d23_0 rfl rfl ?_
 refine own_gF X0 q hZ e0 hown (W 75 rfl) F d23_1 fun T526 X526 e526 => ?_
 refine own_rA X526 q hrt d23_4 hlk (by decide) ?_
 show QR (.ref b) h0 n0 _ T526.heap _
 rw [e526]
 exact ⟨rfl, N0, rfl⟩
theorem d25_0 : own_D b'25 0 (.aload_n 0) 1 1 := by decide +kernel
theorem d25_1 : own_D b'25 1 (.getfield 79) 3 4 := by decide +kernel
theorem d25_4 : own_D b'25 4 .ireturn 1 5 := by decide +kernel
theorem pn_25 : plainFor (⟨"java/lang/AbstractStringBuilder", "length", "()I"⟩ : MethodName) = true := plainFor_of_name (by first | (simp [plainName, overriddenIn]; done) | decide +kernel)
theorem rm25 (l : Launch) (Z : State) (a0 : Array Value) (hw : own_hw a0 Z) (a1 : Addr) (z : Int32) (h0 : Heap) (n0 : Nat) (Z0 : n0 ≤ h0.size) (E1 : Exa Z h0 a1 "java/lang/StringBuilder") (F : F'4 Z h0 a1 (.int z)) :
  own_M l Z [] own_y15 b'25 1 (some .int) ⟨0, 0, 0, 0⟩ #[(.ref a1)] h0 (QI z h0 n0) := by
 refine own_start (n0 := n0) hw "java/lang/AbstractStringBuilder" (L := #[.val (.ref a1)]) pn_25 (fun {p e s m below meth c s₁} q hx W hml hZ hown hnm hlk hrt X0 e0 N0 => ?_)
 refine own_aln X0 q d25_0 rfl rfl ?_
 refine own_gF X0 q hZ e0 hown (W 100 rfl) F d25_1 fun T528 X528 e528 => ?_
 refine own_rI X528 q hrt d25_4 hlk (by decide) ?_
 show QI z h0 n0 _ T528.heap _
 rw [e528]
 exact ⟨rfl, N0, rfl⟩
theorem d24_0 : own_D b'24 0 (.aload_n 0) 1 1 := by decide +kernel
theorem d24_1 : own_D b'24 1 (.invokespecial 343) 3 4 := by decide +kernel
theorem d24_4 : own_D b'24 4 .ireturn 1 5 := by decide +kernel
theorem pn_24 : plainFor (⟨"java/lang/StringBuilder", "length", "()I"⟩ : MethodName) = true := plainFor_of_name (by first | (simp [plainName, overriddenIn]; done) | decide +kernel)
theorem rm24 (l : Launch) (Z : State) (a0 : Array Value) (hw : own_hw a0 Z) (a1 : Addr) (z : Int32) (h0 : Heap) (n0 : Nat) (Z0 : n0 ≤ h0.size) (E1 : Exa Z h0 a1 "java/lang/StringBuilder") (F : F'4 Z h0 a1 (.int z)) :
  own_M l Z [] own_y16 b'24 1 (some .int) ⟨1, 0, 0, 12⟩ #[(.ref a1)] h0 (QI z h0 n0) := by
 refine own_start (n0 := n0) hw "java/lang/StringBuilder" (L := #[.val (.ref a1)]) pn_24 (fun {p e s m below meth c s₁} q hx W hml hZ hown hnm hlk hrt X0 e0 N0 => ?_)
 refine own_aln X0 q d24_0 rfl rfl ?_
 refine own_let ?_; intro g532_
 obtain ⟨_, _, ⟨T531, L531, k531, n531⟩, -, X531, ⟨Lc531, hQ531, l531, y531, z531⟩, st531⟩ := superBack X0 hx hZ (y := own_y15) hown (W 150 rfl) (own_sameM (by decide) (W 105 rfl) rfl (W 145 rfl)) (W 146 rfl) (W 86 rfl) (by decide) (backOf (W := 0) (rm25 l Z a0 hw a1 z h0 n0 Z0 E1 F) hZ (W 151 rfl) (W 71 rfl) (by decide) (by decide)) e0 (Ins.self E1) (g := g532_) rfl (by rw [hml]; rfl) (W 151 rfl) (argsL := []) (rest := []) (lenOf own_pd9 rfl) rfl (by show 2 * 0 + _ ≤ _; exact Nat.le_of_eq rfl) (q.d d24_1) (fun _ _ => ⟨rfl, e0, (by decide : 0 + 0 ≤ _), (by decide : 0 + 0 ≤ _)⟩)
 dsimp only [Pt.U, Pt.locs, Pt.cells, Pt.slots] at X531 l531 y531 z531 st531 hQ531
 rw [l531, y531, z531] at X531
 clear l531 y531 z531
 obtain ⟨rfl, N531q, e531⟩ := hQ531
 have N531 := Fr.app N0 N531q
 refine own_stp 4 (fun _ k => st531.trans k) (own_nv ?_)
 refine own_rI X531 q hrt d24_4 hlk (by decide) ?_
 show QI z h0 n0 _ T531.heap _
 rw [e531]
 exact ⟨rfl, N531, rfl⟩
theorem d30_0 : own_D b'30 0 (.iload_n 0) 1 1 := by decide +kernel
theorem d30_1 : own_D b'30 1 (.iload_n 1) 1 2 := by decide +kernel
theorem d30_2 : own_DJ b'30 2 .gt 9 5 := by decide +kernel
theorem d30_5 : own_D b'30 5 (.iload_n 0) 1 6 := by decide +kernel
theorem d30_6 : own_DG b'30 6 10 := by decide +kernel
theorem d30_9 : own_D b'30 9 (.iload_n 1) 1 10 := by decide +kernel
theorem d30_10 : own_D b'30 10 .ireturn 1 11 := by decide +kernel
theorem pn_30 : plainFor (⟨"java/lang/Math", "min", "(II)I"⟩ : MethodName) = true := Jvm.Free.JP.mathPlain rfl (by decide +kernel)
theorem rm30 (l : Launch) (Z : State) (a0 : Array Value) (hw : own_hw a0 Z) (p1 : Int32) (p2 : Int32) (z : Int32) (h0 : Heap) (n0 : Nat) (Z0 : n0 ≤ h0.size) (hz : own_min p1 p2 = z) :
  own_M l Z [] own_y17 b'30 2 (some .int) ⟨0, 0, 0, 0⟩ #[(.int p1), (.int p2)] h0 (QI z h0 n0) := by
 refine own_start (n0 := n0) hw "java/lang/Math" (L := #[.val (.int p1), .val (.int p2)]) pn_30 (fun {p e s m below meth c s₁} q hx W hml hZ hown hnm hlk hrt X0 e0 N0 => ?_)
 refine own_iln X0 q d30_0 rfl (own_iln X0 q d30_1 rfl ?_)
 by_cases hc2_534 : p2 < p1
 ·refine own_cy X0 q d30_2 ((tlt hc2_534).2.2.1) (own_iln X0 q d30_9 rfl ?_)
  refine own_rI X0 q hrt d30_10 hlk (by decide) ?_
  show QI z h0 n0 _ s₁.heap _
  rw [e0]
  exact ⟨by rw [← hz]; simp only [own_min]; rw [if_pos hc2_534], N0, rfl⟩
 ·refine own_cn X0 q d30_2 ((flt hc2_534).2.2.1) (own_iln X0 q d30_5 rfl (own_gt X0 q d30_6 ?_))
  refine own_rI X0 q hrt d30_10 hlk (by decide) ?_
  show QI z h0 n0 _ s₁.heap _
  rw [e0]
  exact ⟨by rw [← hz]; simp only [own_min]; rw [if_neg hc2_534], N0, rfl⟩
theorem d29_0 : own_D b'29 0 (.iload_n 1) 1 1 := by decide +kernel
theorem d29_1 : own_D b'29 1 (.iload_n 0) 1 2 := by decide +kernel
theorem d29_2 : own_DJ b'29 2 .ge 37 5 := by decide +kernel
theorem d29_37 : own_D b'29 37 .return_ 1 38 := by decide +kernel
theorem pn_29 : plainFor (⟨"java/util/Arrays", "checkLength", "(II)V"⟩ : MethodName) = true := plainFor_of_name (by first | (simp [plainName, overriddenIn]; done) | decide +kernel)
theorem rm29 (l : Launch) (Z : State) (a0 : Array Value) (hw : own_hw a0 Z) (p1 : Int32) (p2 : Int32)  (h0 : Heap) (n0 : Nat) (Z0 : n0 ≤ h0.size) (hp : ¬ p2 < p1) :
  own_M l Z [] own_y18 b'29 2 none ⟨0, 0, 0, 0⟩ #[(.int p1), (.int p2)] h0 (QN h0 n0) := by
 refine own_start (n0 := n0) hw "java/util/Arrays" (L := #[.val (.int p1), .val (.int p2)]) pn_29 (fun {p e s m below meth c s₁} q hx W hml hZ hown hnm hlk hrt X0 e0 N0 => ?_)
 refine own_iln X0 q d29_0 rfl (own_iln X0 q d29_1 rfl (own_cy X0 q d29_2 ((flt (hp : ¬ (p2 < p1))).2.1) ?_))
 refine own_rV X0 q hrt d29_37 hlk (by decide) ?_
 show QN h0 n0 _ s₁.heap _
 rw [e0]
 exact ⟨rfl, N0, rfl⟩
theorem d28_0 : own_D b'28 0 (.iload_n 1) 1 1 := by decide +kernel
theorem d28_1 : own_D b'28 1 (.iload_n 2) 1 2 := by decide +kernel
theorem d28_2 : own_D b'28 2 (.invokestatic 343) 3 5 := by decide +kernel
theorem d28_5 : own_D b'28 5 (.iload_n 2) 1 6 := by decide +kernel
theorem d28_6 : own_D b'28 6 (.iload_n 1) 1 7 := by decide +kernel
theorem d28_7 : own_D b'28 7 .isub 1 8 := by decide +kernel
theorem d28_8 : own_D b'28 8 (.istore_n 3) 1 9 := by decide +kernel
theorem d28_9 : own_D b'28 9 (.iload_n 3) 1 10 := by decide +kernel
theorem d28_10 : own_D b'28 10 (.newarray .byte) 2 12 := by decide +kernel
theorem d28_12 : own_D b'28 12 (.astore 4) 2 14 := by decide +kernel
theorem d28_14 : own_D b'28 14 (.aload_n 0) 1 15 := by decide +kernel
theorem d28_15 : own_D b'28 15 (.iload_n 1) 1 16 := by decide +kernel
theorem d28_16 : own_D b'28 16 (.aload 4) 2 18 := by decide +kernel
theorem d28_18 : own_DK b'28 18 0 19 := by decide +kernel
theorem d28_19 : own_D b'28 19 (.aload_n 0) 1 20 := by decide +kernel
theorem d28_20 : own_D b'28 20 .arraylength 1 21 := by decide +kernel
theorem d28_21 : own_D b'28 21 (.iload_n 1) 1 22 := by decide +kernel
theorem d28_22 : own_D b'28 22 .isub 1 23 := by decide +kernel
theorem d28_23 : own_D b'28 23 (.iload_n 3) 1 24 := by decide +kernel
theorem d28_24 : own_D b'28 24 (.invokestatic 304) 3 27 := by decide +kernel
theorem d28_27 : own_D b'28 27 (.invokestatic 150) 3 30 := by decide +kernel
theorem d28_30 : own_D b'28 30 (.aload 4) 2 32 := by decide +kernel
theorem d28_32 : own_D b'28 32 .areturn 1 33 := by decide +kernel
theorem pn_28 : plainFor (⟨"java/util/Arrays", "copyOfRangeByte", "([BII)[B"⟩ : MethodName) = true := plainFor_of_name (by first | (simp [plainName, overriddenIn]; done) | decide +kernel)
theorem rm28_L0 (l : Launch) (Z : State) (a0 : Array Value) (hw : own_hw a0 Z) (a1 : Addr) (k1 : ClassId) (h0 : Heap) (n0 : Nat) (Z0 : n0 ≤ h0.size) (VA : Arv Z h0 a1 k1 .byte (16 : Int32) [v'0, v'0, v'0, v'0, v'0, v'0, v'0, v'0, v'0, v'0, v'0, v'0, v'0, v'0, v'0, v'0] v'0) :
  own_M l Z [] own_y19 b'28 5 (some (.array .byte)) ⟨1, 1, 0, 18⟩ #[(.ref a1), v'0, v'0] h0 (QCRL0 Z  h0 n0) := by
 refine own_start (n0 := n0) hw "java/util/Arrays" (L := #[.val (.ref a1), .val v'0, .val v'0, .unset, .unset]) pn_28 (fun {p e s m below meth c s₁} q hx W hml hZ hown hnm hlk hrt X0 e0 N0 => ?_)
 have kp0 := Keep.refl h0 []
 refine own_iln X0 q d28_0 rfl (own_iln X0 q d28_1 rfl ?_)
 refine own_cS X0 q hZ e0 hown hml (W 164 rfl) (W 165 rfl) (W 159 rfl) (W 166 rfl) (rm29 l Z a0 hw (0 : Int32) (0 : Int32) h0 n0 Z0 (by decide)) d28_2 [v'0, v'0] [] own_pd10 0 (by decide) (fun v542 T542 L542 X542 hQ542 => ?_)
 obtain ⟨rfl, N542q, e542⟩ := hQ542
 have N542 := Fr.app N0 N542q
 refine own_nn (own_iln X542 q d28_5 rfl (own_iln X542 q d28_6 rfl (own_isubk 0 X542 q d28_7 (by decide) (own_isn X542 q d28_8 (l' := #[.val (.ref a1), .val v'0, .val v'0, .val v'0, .unset]) rfl (own_iln X542 q d28_9 rfl ?_)))))
 refine own_let ?_; intro g543_
 obtain ⟨T544, h544, k544, X544, e544, E544, A544, st544⟩ := newP X542 hx hZ (W 21 rfl) e542 (g := g543_) rfl (q.d d28_10) rfl (by decide) (cap := 0) (by decide) (by decide) (by decide) (by decide)
 obtain ⟨b544, g544⟩ : ∃ z, z = h0.size := ⟨_, rfl⟩
 rw [← g544] at A544 st544
 have V544 : Arv Z h544 b544 k544 .byte (0 : Int32) [] v'0 := Arv.new A544 (by decide)
 have zs545 := Nat.le_trans Z0 E544.1
 have kp545 := kp0.ext E544
 have g_b544 : n0 ≤ b544 := Nat.le_trans Z0 (Nat.le_of_eq g544.symm)
 have sz_b544 : h0.size ≤ b544 := Nat.le_trans kp0.1 (Nat.le_of_eq g544.symm)
 refine own_stp 12 st544 (own_as X544 q d28_12 rfl (l' := #[.val (.ref a1), .val v'0, .val v'0, .val v'0, .val (.ref b544)]) rfl (own_aln X544 q d28_14 rfl rfl (own_iln X544 q d28_15 rfl (own_al X544 q d28_16 rfl rfl (own_k X544 q d28_18 (own_aln X544 q d28_19 rfl rfl (own_alen (n := (16 : Int32)) X544 q hZ e544 (VA.ext E544) d28_20 (own_iln X544 q d28_21 rfl (own_isubk 16 X544 q d28_22 (by decide) (own_iln X544 q d28_23 rfl ?_))))))))))
 refine own_cS X544 q hZ e544 hown hml (W 167 rfl) (W 168 rfl) (W 169 rfl) (W 170 rfl) (rm30 l Z a0 hw (16 : Int32) (0 : Int32) (0 : Int32) h544 n0 zs545 (by decide)) d28_24 [v'16, v'0] [v'0, (.ref b544), v'0, (.ref a1)] own_pd11 4 (by decide) (fun v546 T546 L546 X546 hQ546 => ?_)
 obtain ⟨rfl, N546q, e546⟩ := hQ546
 have N546 := Fr.app N542 N546q
 refine own_nv ?_
 obtain ⟨T547, h547, L547, X547, e547, N547, K547, V547, st547⟩ := cpA X546 hx hZ hown (W 171 rfl) (W 126 rfl) (W 124 rfl) (W 125 rfl) e546 (sp := (0 : Int32)) (dp := (0 : Int32)) (nn := (0 : Int32)) (VA.ext E544) V544 (Or.inl ⟨rfl, rfl⟩) (by decide) (by decide) (by decide) (by decide) (by decide) rfl (by decide) N546 g_b544 (g := (mkF m 27 #[.val (.ref a1), .val v'0, .val v'0, .val v'0, .val (.ref b544)] [v'0, v'0, (.ref b544), v'0, (.ref a1)])) rfl (by rw [hml]; rfl) rfl (q.d d28_27) (by decide) (W := 0) (by show 2 * 0 + _ ≤ _; exact Nat.le_of_eq rfl) (by decide)
 have V547 : Arv Z h547 b544 k544 .byte (0 : Int32) [] v'0 := V547
 have kp548 := kp545.trans K547 (allS (Or.inr sz_b544) all0)
 refine own_stp 30 st547 (own_al X547 q d28_30 rfl rfl ?_)
 refine own_rA X547 q hrt d28_32 hlk (by decide) ?_
 show QCRL0 Z  h0 n0 _ T547.heap _
 rw [e547]
 exact ⟨_, _, rfl, N547, own_extK kp548, sz_b544, V547⟩
theorem d27_0 : own_D b'27 0 (.iload_n 1) 1 1 := by decide +kernel
theorem d27_1 : own_DZ b'27 1 .ne 10 4 := by decide +kernel
theorem d27_4 : own_D b'27 4 (.iload_n 2) 1 5 := by decide +kernel
theorem d27_5 : own_D b'27 5 (.aload_n 0) 1 6 := by decide +kernel
theorem d27_6 : own_D b'27 6 .arraylength 1 7 := by decide +kernel
theorem d27_7 : own_DJ b'27 7 .eq 17 10 := by decide +kernel
theorem d27_10 : own_D b'27 10 (.aload_n 0) 1 11 := by decide +kernel
theorem d27_11 : own_D b'27 11 (.iload_n 1) 1 12 := by decide +kernel
theorem d27_12 : own_D b'27 12 (.iload_n 2) 1 13 := by decide +kernel
theorem d27_13 : own_D b'27 13 (.invokestatic 339) 3 16 := by decide +kernel
theorem d27_16 : own_D b'27 16 .areturn 1 17 := by decide +kernel
theorem pn_27 : plainFor (⟨"java/util/Arrays", "copyOfRange", "([BII)[B"⟩ : MethodName) = true := plainFor_of_name (by first | (simp [plainName, overriddenIn]; done) | decide +kernel)
theorem rm27_L0 (l : Launch) (Z : State) (a0 : Array Value) (hw : own_hw a0 Z) (a1 : Addr) (k1 : ClassId) (h0 : Heap) (n0 : Nat) (Z0 : n0 ≤ h0.size) (VA : Arv Z h0 a1 k1 .byte (16 : Int32) [v'0, v'0, v'0, v'0, v'0, v'0, v'0, v'0, v'0, v'0, v'0, v'0, v'0, v'0, v'0, v'0] v'0) :
  own_M l Z [] own_y20 b'27 3 (some (.array .byte)) ⟨2, 1, 0, 34⟩ #[(.ref a1), v'0, v'0] h0 (QCRL0 Z  h0 n0) := by
 refine own_start (n0 := n0) hw "java/util/Arrays" (L := #[.val (.ref a1), .val v'0, .val v'0]) pn_27 (fun {p e s m below meth c s₁} q hx W hml hZ hown hnm hlk hrt X0 e0 N0 => ?_)
 have kp0 := Keep.refl h0 []
 refine own_iln X0 q d27_0 rfl (own_zn X0 q d27_1 (((if0 _ _).trans (teq (rfl : (0 : Int32) = (0 : Int32))).2)) (own_iln X0 q d27_4 rfl (own_aln X0 q d27_5 rfl rfl (own_alen (n := (16 : Int32)) X0 q hZ e0 VA d27_6 (own_cn X0 q d27_7 ((feq ((by decide) : ¬ ((0 : Int32) = (16 : Int32)))).1) (own_aln X0 q d27_10 rfl rfl (own_iln X0 q d27_11 rfl (own_iln X0 q d27_12 rfl ?_))))))))
 refine own_cSh X0 q hZ e0 hown hml (W 161 rfl) (W 162 rfl) (W 159 rfl) (W 163 rfl) (rm28_L0 l Z a0 hw a1 k1  h0 n0 Z0 VA) d27_13 [(.ref a1), v'0, v'0] [] own_pd12 0 (by decide) (fun v551 T551 L551 h551 e551' X551 hQ551 => ?_)
 obtain ⟨b551, k551, rfl, N551q, E551, lo551, V551⟩ := hQ551
 have N551 := Fr.app N0 N551q
 have kp552 := kp0.ext E551
 have sz_b551 : h0.size ≤ b551 := Nat.le_trans kp0.1 lo551
 refine own_nv ?_
 refine own_rA X551 q hrt d27_16 hlk (by decide) ?_
 show QCRL0 Z  h0 n0 _ T551.heap _
 rw [e551']
 exact ⟨_, _, rfl, N551, own_extK kp552, sz_b551, V551⟩
theorem rm28_L1 (l : Launch) (Z : State) (a0 : Array Value) (hw : own_hw a0 Z) (a1 : Addr) (k1 : ClassId) (y0 : Int32) (h0 : Heap) (n0 : Nat) (Z0 : n0 ≤ h0.size) (VA : Arv Z h0 a1 k1 .byte (16 : Int32) [(.int y0), v'0, v'0, v'0, v'0, v'0, v'0, v'0, v'0, v'0, v'0, v'0, v'0, v'0, v'0, v'0] v'0) :
  own_M l Z [] own_y19 b'28 5 (some (.array .byte)) ⟨1, 1, 1, 18⟩ #[(.ref a1), v'0, v'1] h0 (QCRL1 Z y0 h0 n0) := by
 refine own_start (n0 := n0) hw "java/util/Arrays" (L := #[.val (.ref a1), .val v'0, .val v'1, .unset, .unset]) pn_28 (fun {p e s m below meth c s₁} q hx W hml hZ hown hnm hlk hrt X0 e0 N0 => ?_)
 have kp0 := Keep.refl h0 []
 refine own_iln X0 q d28_0 rfl (own_iln X0 q d28_1 rfl ?_)
 refine own_cS X0 q hZ e0 hown hml (W 164 rfl) (W 165 rfl) (W 159 rfl) (W 166 rfl) (rm29 l Z a0 hw (0 : Int32) (1 : Int32) h0 n0 Z0 (by decide)) d28_2 [v'0, v'1] [] own_pd10 0 (by decide) (fun v560 T560 L560 X560 hQ560 => ?_)
 obtain ⟨rfl, N560q, e560⟩ := hQ560
 have N560 := Fr.app N0 N560q
 refine own_nn (own_iln X560 q d28_5 rfl (own_iln X560 q d28_6 rfl (own_isubk 1 X560 q d28_7 (by decide) (own_isn X560 q d28_8 (l' := #[.val (.ref a1), .val v'0, .val v'1, .val v'1, .unset]) rfl (own_iln X560 q d28_9 rfl ?_)))))
 refine own_let ?_; intro g561_
 obtain ⟨T562, h562, k562, X562, e562, E562, A562, st562⟩ := newP X560 hx hZ (W 21 rfl) e560 (g := g561_) rfl (q.d d28_10) rfl (by decide) (cap := 1) (by decide) (by decide) (by decide) (by decide)
 obtain ⟨b562, g562⟩ : ∃ z, z = h0.size := ⟨_, rfl⟩
 rw [← g562] at A562 st562
 have V562 : Arv Z h562 b562 k562 .byte (1 : Int32) [v'0] v'0 := (Arv.new A562 (by decide)).pad (pad_rep [] v'0 1)
 have zs563 := Nat.le_trans Z0 E562.1
 have kp563 := kp0.ext E562
 have g_b562 : n0 ≤ b562 := Nat.le_trans Z0 (Nat.le_of_eq g562.symm)
 have sz_b562 : h0.size ≤ b562 := Nat.le_trans kp0.1 (Nat.le_of_eq g562.symm)
 refine own_stp 12 st562 (own_as X562 q d28_12 rfl (l' := #[.val (.ref a1), .val v'0, .val v'1, .val v'1, .val (.ref b562)]) rfl (own_aln X562 q d28_14 rfl rfl (own_iln X562 q d28_15 rfl (own_al X562 q d28_16 rfl rfl (own_k X562 q d28_18 (own_aln X562 q d28_19 rfl rfl (own_alen (n := (16 : Int32)) X562 q hZ e562 (VA.ext E562) d28_20 (own_iln X562 q d28_21 rfl (own_isubk 16 X562 q d28_22 (by decide) (own_iln X562 q d28_23 rfl ?_))))))))))
 refine own_cS X562 q hZ e562 hown hml (W 167 rfl) (W 168 rfl) (W 169 rfl) (W 170 rfl) (rm30 l Z a0 hw (16 : Int32) (1 : Int32) (1 : Int32) h562 n0 zs563 (by decide)) d28_24 [v'16, v'1] [v'0, (.ref b562), v'0, (.ref a1)] own_pd11 4 (by decide) (fun v564 T564 L564 X564 hQ564 => ?_)
 obtain ⟨rfl, N564q, e564⟩ := hQ564
 have N564 := Fr.app N560 N564q
 refine own_nv ?_
 obtain ⟨T565, h565, L565, X565, e565, N565, K565, V565, st565⟩ := cpA X564 hx hZ hown (W 171 rfl) (W 126 rfl) (W 124 rfl) (W 125 rfl) e564 (sp := (0 : Int32)) (dp := (0 : Int32)) (nn := (1 : Int32)) (VA.ext E562) V562 (Or.inl ⟨rfl, rfl⟩) (by decide) (by decide) (by decide) (by decide) (by decide) rfl (by decide) N564 g_b562 (g := (mkF m 27 #[.val (.ref a1), .val v'0, .val v'1, .val v'1, .val (.ref b562)] [v'1, v'0, (.ref b562), v'0, (.ref a1)])) rfl (by rw [hml]; rfl) rfl (q.d d28_27) (by decide) (W := 0) (by show 2 * 0 + _ ≤ _; exact Nat.le_of_eq rfl) (by decide)
 have V565 : Arv Z h565 b562 k562 .byte (1 : Int32) [(.int y0)] v'0 := V565
 have kp566 := kp563.trans K565 (allS (Or.inr sz_b562) all0)
 refine own_stp 30 st565 (own_al X565 q d28_30 rfl rfl ?_)
 refine own_rA X565 q hrt d28_32 hlk (by decide) ?_
 show QCRL1 Z y0 h0 n0 _ T565.heap _
 rw [e565]
 exact ⟨_, _, rfl, N565, own_extK kp566, sz_b562, V565⟩
theorem rm27_L1 (l : Launch) (Z : State) (a0 : Array Value) (hw : own_hw a0 Z) (a1 : Addr) (k1 : ClassId) (y0 : Int32) (h0 : Heap) (n0 : Nat) (Z0 : n0 ≤ h0.size) (VA : Arv Z h0 a1 k1 .byte (16 : Int32) [(.int y0), v'0, v'0, v'0, v'0, v'0, v'0, v'0, v'0, v'0, v'0, v'0, v'0, v'0, v'0, v'0] v'0) :
  own_M l Z [] own_y20 b'27 3 (some (.array .byte)) ⟨2, 1, 1, 34⟩ #[(.ref a1), v'0, v'1] h0 (QCRL1 Z y0 h0 n0) := by
 refine own_start (n0 := n0) hw "java/util/Arrays" (L := #[.val (.ref a1), .val v'0, .val v'1]) pn_27 (fun {p e s m below meth c s₁} q hx W hml hZ hown hnm hlk hrt X0 e0 N0 => ?_)
 have kp0 := Keep.refl h0 []
 refine own_iln X0 q d27_0 rfl (own_zn X0 q d27_1 (((if0 _ _).trans (teq (rfl : (0 : Int32) = (0 : Int32))).2)) (own_iln X0 q d27_4 rfl (own_aln X0 q d27_5 rfl rfl (own_alen (n := (16 : Int32)) X0 q hZ e0 VA d27_6 (own_cn X0 q d27_7 ((feq ((by decide) : ¬ ((1 : Int32) = (16 : Int32)))).1) (own_aln X0 q d27_10 rfl rfl (own_iln X0 q d27_11 rfl (own_iln X0 q d27_12 rfl ?_))))))))
 refine own_cSh X0 q hZ e0 hown hml (W 161 rfl) (W 162 rfl) (W 159 rfl) (W 163 rfl) (rm28_L1 l Z a0 hw a1 k1 y0 h0 n0 Z0 VA) d27_13 [(.ref a1), v'0, v'1] [] own_pd12 0 (by decide) (fun v569 T569 L569 h569 e569' X569 hQ569 => ?_)
 obtain ⟨b569, k569, rfl, N569q, E569, lo569, V569⟩ := hQ569
 have N569 := Fr.app N0 N569q
 have kp570 := kp0.ext E569
 have sz_b569 : h0.size ≤ b569 := Nat.le_trans kp0.1 lo569
 refine own_nv ?_
 refine own_rA X569 q hrt d27_16 hlk (by decide) ?_
 show QCRL1 Z y0 h0 n0 _ T569.heap _
 rw [e569']
 exact ⟨_, _, rfl, N569, own_extK kp570, sz_b569, V569⟩
theorem rm28_L2 (l : Launch) (Z : State) (a0 : Array Value) (hw : own_hw a0 Z) (a1 : Addr) (k1 : ClassId) (y0 y1 : Int32) (h0 : Heap) (n0 : Nat) (Z0 : n0 ≤ h0.size) (VA : Arv Z h0 a1 k1 .byte (16 : Int32) [(.int y0), (.int y1), v'0, v'0, v'0, v'0, v'0, v'0, v'0, v'0, v'0, v'0, v'0, v'0, v'0, v'0] v'0) :
  own_M l Z [] own_y19 b'28 5 (some (.array .byte)) ⟨1, 1, 2, 18⟩ #[(.ref a1), v'0, v'2] h0 (QCRL2 Z y0 y1 h0 n0) := by
 refine own_start (n0 := n0) hw "java/util/Arrays" (L := #[.val (.ref a1), .val v'0, .val v'2, .unset, .unset]) pn_28 (fun {p e s m below meth c s₁} q hx W hml hZ hown hnm hlk hrt X0 e0 N0 => ?_)
 have kp0 := Keep.refl h0 []
 refine own_iln X0 q d28_0 rfl (own_iln X0 q d28_1 rfl ?_)
 refine own_cS X0 q hZ e0 hown hml (W 164 rfl) (W 165 rfl) (W 159 rfl) (W 166 rfl) (rm29 l Z a0 hw (0 : Int32) (2 : Int32) h0 n0 Z0 (by decide)) d28_2 [v'0, v'2] [] own_pd10 0 (by decide) (fun v578 T578 L578 X578 hQ578 => ?_)
 obtain ⟨rfl, N578q, e578⟩ := hQ578
 have N578 := Fr.app N0 N578q
 refine own_nn (own_iln X578 q d28_5 rfl (own_iln X578 q d28_6 rfl (own_isubk 2 X578 q d28_7 (by decide) (own_isn X578 q d28_8 (l' := #[.val (.ref a1), .val v'0, .val v'2, .val v'2, .unset]) rfl (own_iln X578 q d28_9 rfl ?_)))))
 refine own_let ?_; intro g579_
 obtain ⟨T580, h580, k580, X580, e580, E580, A580, st580⟩ := newP X578 hx hZ (W 21 rfl) e578 (g := g579_) rfl (q.d d28_10) rfl (by decide) (cap := 2) (by decide) (by decide) (by decide) (by decide)
 obtain ⟨b580, g580⟩ : ∃ z, z = h0.size := ⟨_, rfl⟩
 rw [← g580] at A580 st580
 have V580 : Arv Z h580 b580 k580 .byte (2 : Int32) [v'0, v'0] v'0 := (Arv.new A580 (by decide)).pad (pad_rep [] v'0 2)
 have zs581 := Nat.le_trans Z0 E580.1
 have kp581 := kp0.ext E580
 have g_b580 : n0 ≤ b580 := Nat.le_trans Z0 (Nat.le_of_eq g580.symm)
 have sz_b580 : h0.size ≤ b580 := Nat.le_trans kp0.1 (Nat.le_of_eq g580.symm)
 refine own_stp 12 st580 (own_as X580 q d28_12 rfl (l' := #[.val (.ref a1), .val v'0, .val v'2, .val v'2, .val (.ref b580)]) rfl (own_aln X580 q d28_14 rfl rfl (own_iln X580 q d28_15 rfl (own_al X580 q d28_16 rfl rfl (own_k X580 q d28_18 (own_aln X580 q d28_19 rfl rfl (own_alen (n := (16 : Int32)) X580 q hZ e580 (VA.ext E580) d28_20 (own_iln X580 q d28_21 rfl (own_isubk 16 X580 q d28_22 (by decide) (own_iln X580 q d28_23 rfl ?_))))))))))
 refine own_cS X580 q hZ e580 hown hml (W 167 rfl) (W 168 rfl) (W 169 rfl) (W 170 rfl) (rm30 l Z a0 hw (16 : Int32) (2 : Int32) (2 : Int32) h580 n0 zs581 (by decide)) d28_24 [v'16, v'2] [v'0, (.ref b580), v'0, (.ref a1)] own_pd11 4 (by decide) (fun v582 T582 L582 X582 hQ582 => ?_)
 obtain ⟨rfl, N582q, e582⟩ := hQ582
 have N582 := Fr.app N578 N582q
 refine own_nv ?_
 obtain ⟨T583, h583, L583, X583, e583, N583, K583, V583, st583⟩ := cpA X582 hx hZ hown (W 171 rfl) (W 126 rfl) (W 124 rfl) (W 125 rfl) e582 (sp := (0 : Int32)) (dp := (0 : Int32)) (nn := (2 : Int32)) (VA.ext E580) V580 (Or.inl ⟨rfl, rfl⟩) (by decide) (by decide) (by decide) (by decide) (by decide) rfl (by decide) N582 g_b580 (g := (mkF m 27 #[.val (.ref a1), .val v'0, .val v'2, .val v'2, .val (.ref b580)] [v'2, v'0, (.ref b580), v'0, (.ref a1)])) rfl (by rw [hml]; rfl) rfl (q.d d28_27) (by decide) (W := 0) (by show 2 * 0 + _ ≤ _; exact Nat.le_of_eq rfl) (by decide)
 have V583 : Arv Z h583 b580 k580 .byte (2 : Int32) [(.int y0), (.int y1)] v'0 := V583
 have kp584 := kp581.trans K583 (allS (Or.inr sz_b580) all0)
 refine own_stp 30 st583 (own_al X583 q d28_30 rfl rfl ?_)
 refine own_rA X583 q hrt d28_32 hlk (by decide) ?_
 show QCRL2 Z y0 y1 h0 n0 _ T583.heap _
 rw [e583]
 exact ⟨_, _, rfl, N583, own_extK kp584, sz_b580, V583⟩
theorem rm27_L2 (l : Launch) (Z : State) (a0 : Array Value) (hw : own_hw a0 Z) (a1 : Addr) (k1 : ClassId) (y0 y1 : Int32) (h0 : Heap) (n0 : Nat) (Z0 : n0 ≤ h0.size) (VA : Arv Z h0 a1 k1 .byte (16 : Int32) [(.int y0), (.int y1), v'0, v'0, v'0, v'0, v'0, v'0, v'0, v'0, v'0, v'0, v'0, v'0, v'0, v'0] v'0) :
  own_M l Z [] own_y20 b'27 3 (some (.array .byte)) ⟨2, 1, 2, 34⟩ #[(.ref a1), v'0, v'2] h0 (QCRL2 Z y0 y1 h0 n0) := by
 refine own_start (n0 := n0) hw "java/util/Arrays" (L := #[.val (.ref a1), .val v'0, .val v'2]) pn_27 (fun {p e s m below meth c s₁} q hx W hml hZ hown hnm hlk hrt X0 e0 N0 => ?_)
 have kp0 := Keep.refl h0 []
 refine own_iln X0 q d27_0 rfl (own_zn X0 q d27_1 (((if0 _ _).trans (teq (rfl : (0 : Int32) = (0 : Int32))).2)) (own_iln X0 q d27_4 rfl (own_aln X0 q d27_5 rfl rfl (own_alen (n := (16 : Int32)) X0 q hZ e0 VA d27_6 (own_cn X0 q d27_7 ((feq ((by decide) : ¬ ((2 : Int32) = (16 : Int32)))).1) (own_aln X0 q d27_10 rfl rfl (own_iln X0 q d27_11 rfl (own_iln X0 q d27_12 rfl ?_))))))))
 refine own_cSh X0 q hZ e0 hown hml (W 161 rfl) (W 162 rfl) (W 159 rfl) (W 163 rfl) (rm28_L2 l Z a0 hw a1 k1 y0 y1 h0 n0 Z0 VA) d27_13 [(.ref a1), v'0, v'2] [] own_pd12 0 (by decide) (fun v587 T587 L587 h587 e587' X587 hQ587 => ?_)
 obtain ⟨b587, k587, rfl, N587q, E587, lo587, V587⟩ := hQ587
 have N587 := Fr.app N0 N587q
 have kp588 := kp0.ext E587
 have sz_b587 : h0.size ≤ b587 := Nat.le_trans kp0.1 lo587
 refine own_nv ?_
 refine own_rA X587 q hrt d27_16 hlk (by decide) ?_
 show QCRL2 Z y0 y1 h0 n0 _ T587.heap _
 rw [e587']
 exact ⟨_, _, rfl, N587, own_extK kp588, sz_b587, V587⟩
theorem rm28_L3 (l : Launch) (Z : State) (a0 : Array Value) (hw : own_hw a0 Z) (a1 : Addr) (k1 : ClassId) (y0 y1 y2 : Int32) (h0 : Heap) (n0 : Nat) (Z0 : n0 ≤ h0.size) (VA : Arv Z h0 a1 k1 .byte (16 : Int32) [(.int y0), (.int y1), (.int y2), v'0, v'0, v'0, v'0, v'0, v'0, v'0, v'0, v'0, v'0, v'0, v'0, v'0] v'0) :
  own_M l Z [] own_y19 b'28 5 (some (.array .byte)) ⟨1, 1, 3, 18⟩ #[(.ref a1), v'0, v'3] h0 (QCRL3 Z y0 y1 y2 h0 n0) := by
 refine own_start (n0 := n0) hw "java/util/Arrays" (L := #[.val (.ref a1), .val v'0, .val v'3, .unset, .unset]) pn_28 (fun {p e s m below meth c s₁} q hx W hml hZ hown hnm hlk hrt X0 e0 N0 => ?_)
 have kp0 := Keep.refl h0 []
 refine own_iln X0 q d28_0 rfl (own_iln X0 q d28_1 rfl ?_)
 refine own_cS X0 q hZ e0 hown hml (W 164 rfl) (W 165 rfl) (W 159 rfl) (W 166 rfl) (rm29 l Z a0 hw (0 : Int32) (3 : Int32) h0 n0 Z0 (by decide)) d28_2 [v'0, v'3] [] own_pd10 0 (by decide) (fun v596 T596 L596 X596 hQ596 => ?_)
 obtain ⟨rfl, N596q, e596⟩ := hQ596
 have N596 := Fr.app N0 N596q
 refine own_nn (own_iln X596 q d28_5 rfl (own_iln X596 q d28_6 rfl (own_isubk 3 X596 q d28_7 (by decide) (own_isn X596 q d28_8 (l' := #[.val (.ref a1), .val v'0, .val v'3, .val v'3, .unset]) rfl (own_iln X596 q d28_9 rfl ?_)))))
 refine own_let ?_; intro g597_
 obtain ⟨T598, h598, k598, X598, e598, E598, A598, st598⟩ := newP X596 hx hZ (W 21 rfl) e596 (g := g597_) rfl (q.d d28_10) rfl (by decide) (cap := 3) (by decide) (by decide) (by decide) (by decide)
 obtain ⟨b598, g598⟩ : ∃ z, z = h0.size := ⟨_, rfl⟩
 rw [← g598] at A598 st598
 have V598 : Arv Z h598 b598 k598 .byte (3 : Int32) [v'0, v'0, v'0] v'0 := (Arv.new A598 (by decide)).pad (pad_rep [] v'0 3)
 have zs599 := Nat.le_trans Z0 E598.1
 have kp599 := kp0.ext E598
 have g_b598 : n0 ≤ b598 := Nat.le_trans Z0 (Nat.le_of_eq g598.symm)
 have sz_b598 : h0.size ≤ b598 := Nat.le_trans kp0.1 (Nat.le_of_eq g598.symm)
 refine own_stp 12 st598 (own_as X598 q d28_12 rfl (l' := #[.val (.ref a1), .val v'0, .val v'3, .val v'3, .val (.ref b598)]) rfl (own_aln X598 q d28_14 rfl rfl (own_iln X598 q d28_15 rfl (own_al X598 q d28_16 rfl rfl (own_k X598 q d28_18 (own_aln X598 q d28_19 rfl rfl (own_alen (n := (16 : Int32)) X598 q hZ e598 (VA.ext E598) d28_20 (own_iln X598 q d28_21 rfl (own_isubk 16 X598 q d28_22 (by decide) (own_iln X598 q d28_23 rfl ?_))))))))))
 refine own_cS X598 q hZ e598 hown hml (W 167 rfl) (W 168 rfl) (W 169 rfl) (W 170 rfl) (rm30 l Z a0 hw (16 : Int32) (3 : Int32) (3 : Int32) h598 n0 zs599 (by decide)) d28_24 [v'16, v'3] [v'0, (.ref b598), v'0, (.ref a1)] own_pd11 4 (by decide) (fun v600 T600 L600 X600 hQ600 => ?_)
 obtain ⟨rfl, N600q, e600⟩ := hQ600
 have N600 := Fr.app N596 N600q
 refine own_nv ?_
 obtain ⟨T601, h601, L601, X601, e601, N601, K601, V601, st601⟩ := cpA X600 hx hZ hown (W 171 rfl) (W 126 rfl) (W 124 rfl) (W 125 rfl) e600 (sp := (0 : Int32)) (dp := (0 : Int32)) (nn := (3 : Int32)) (VA.ext E598) V598 (Or.inl ⟨rfl, rfl⟩) (by decide) (by decide) (by decide) (by decide) (by decide) rfl (by decide) N600 g_b598 (g := (mkF m 27 #[.val (.ref a1), .val v'0, .val v'3, .val v'3, .val (.ref b598)] [v'3, v'0, (.ref b598), v'0, (.ref a1)])) rfl (by rw [hml]; rfl) rfl (q.d d28_27) (by decide) (W := 0) (by show 2 * 0 + _ ≤ _; exact Nat.le_of_eq rfl) (by decide)
 have V601 : Arv Z h601 b598 k598 .byte (3 : Int32) [(.int y0), (.int y1), (.int y2)] v'0 := V601
 have kp602 := kp599.trans K601 (allS (Or.inr sz_b598) all0)
 refine own_stp 30 st601 (own_al X601 q d28_30 rfl rfl ?_)
 refine own_rA X601 q hrt d28_32 hlk (by decide) ?_
 show QCRL3 Z y0 y1 y2 h0 n0 _ T601.heap _
 rw [e601]
 exact ⟨_, _, rfl, N601, own_extK kp602, sz_b598, V601⟩
theorem rm27_L3 (l : Launch) (Z : State) (a0 : Array Value) (hw : own_hw a0 Z) (a1 : Addr) (k1 : ClassId) (y0 y1 y2 : Int32) (h0 : Heap) (n0 : Nat) (Z0 : n0 ≤ h0.size) (VA : Arv Z h0 a1 k1 .byte (16 : Int32) [(.int y0), (.int y1), (.int y2), v'0, v'0, v'0, v'0, v'0, v'0, v'0, v'0, v'0, v'0, v'0, v'0, v'0] v'0) :
  own_M l Z [] own_y20 b'27 3 (some (.array .byte)) ⟨2, 1, 3, 34⟩ #[(.ref a1), v'0, v'3] h0 (QCRL3 Z y0 y1 y2 h0 n0) := by
 refine own_start (n0 := n0) hw "java/util/Arrays" (L := #[.val (.ref a1), .val v'0, .val v'3]) pn_27 (fun {p e s m below meth c s₁} q hx W hml hZ hown hnm hlk hrt X0 e0 N0 => ?_)
 have kp0 := Keep.refl h0 []
 refine own_iln X0 q d27_0 rfl (own_zn X0 q d27_1 (((if0 _ _).trans (teq (rfl : (0 : Int32) = (0 : Int32))).2)) (own_iln X0 q d27_4 rfl (own_aln X0 q d27_5 rfl rfl (own_alen (n := (16 : Int32)) X0 q hZ e0 VA d27_6 (own_cn X0 q d27_7 ((feq ((by decide) : ¬ ((3 : Int32) = (16 : Int32)))).1) (own_aln X0 q d27_10 rfl rfl (own_iln X0 q d27_11 rfl (own_iln X0 q d27_12 rfl ?_))))))))
 refine own_cSh X0 q hZ e0 hown hml (W 161 rfl) (W 162 rfl) (W 159 rfl) (W 163 rfl) (rm28_L3 l Z a0 hw a1 k1 y0 y1 y2 h0 n0 Z0 VA) d27_13 [(.ref a1), v'0, v'3] [] own_pd12 0 (by decide) (fun v605 T605 L605 h605 e605' X605 hQ605 => ?_)
 obtain ⟨b605, k605, rfl, N605q, E605, lo605, V605⟩ := hQ605
 have N605 := Fr.app N0 N605q
 have kp606 := kp0.ext E605
 have sz_b605 : h0.size ≤ b605 := Nat.le_trans kp0.1 lo605
 refine own_nv ?_
 refine own_rA X605 q hrt d27_16 hlk (by decide) ?_
 show QCRL3 Z y0 y1 y2 h0 n0 _ T605.heap _
 rw [e605']
 exact ⟨_, _, rfl, N605, own_extK kp606, sz_b605, V605⟩
theorem rm28_L4 (l : Launch) (Z : State) (a0 : Array Value) (hw : own_hw a0 Z) (a1 : Addr) (k1 : ClassId) (y0 y1 y2 y3 : Int32) (h0 : Heap) (n0 : Nat) (Z0 : n0 ≤ h0.size) (VA : Arv Z h0 a1 k1 .byte (16 : Int32) [(.int y0), (.int y1), (.int y2), (.int y3), v'0, v'0, v'0, v'0, v'0, v'0, v'0, v'0, v'0, v'0, v'0, v'0] v'0) :
  own_M l Z [] own_y19 b'28 5 (some (.array .byte)) ⟨1, 1, 4, 18⟩ #[(.ref a1), v'0, v'4] h0 (QCRL4 Z y0 y1 y2 y3 h0 n0) := by
 refine own_start (n0 := n0) hw "java/util/Arrays" (L := #[.val (.ref a1), .val v'0, .val v'4, .unset, .unset]) pn_28 (fun {p e s m below meth c s₁} q hx W hml hZ hown hnm hlk hrt X0 e0 N0 => ?_)
 have kp0 := Keep.refl h0 []
 refine own_iln X0 q d28_0 rfl (own_iln X0 q d28_1 rfl ?_)
 refine own_cS X0 q hZ e0 hown hml (W 164 rfl) (W 165 rfl) (W 159 rfl) (W 166 rfl) (rm29 l Z a0 hw (0 : Int32) (4 : Int32) h0 n0 Z0 (by decide)) d28_2 [v'0, v'4] [] own_pd10 0 (by decide) (fun v614 T614 L614 X614 hQ614 => ?_)
 obtain ⟨rfl, N614q, e614⟩ := hQ614
 have N614 := Fr.app N0 N614q
 refine own_nn (own_iln X614 q d28_5 rfl (own_iln X614 q d28_6 rfl (own_isubk 4 X614 q d28_7 (by decide) (own_isn X614 q d28_8 (l' := #[.val (.ref a1), .val v'0, .val v'4, .val v'4, .unset]) rfl (own_iln X614 q d28_9 rfl ?_)))))
 refine own_let ?_; intro g615_
 obtain ⟨T616, h616, k616, X616, e616, E616, A616, st616⟩ := newP X614 hx hZ (W 21 rfl) e614 (g := g615_) rfl (q.d d28_10) rfl (by decide) (cap := 4) (by decide) (by decide) (by decide) (by decide)
 obtain ⟨b616, g616⟩ : ∃ z, z = h0.size := ⟨_, rfl⟩
 rw [← g616] at A616 st616
 have V616 : Arv Z h616 b616 k616 .byte (4 : Int32) [v'0, v'0, v'0, v'0] v'0 := (Arv.new A616 (by decide)).pad (pad_rep [] v'0 4)
 have zs617 := Nat.le_trans Z0 E616.1
 have kp617 := kp0.ext E616
 have g_b616 : n0 ≤ b616 := Nat.le_trans Z0 (Nat.le_of_eq g616.symm)
 have sz_b616 : h0.size ≤ b616 := Nat.le_trans kp0.1 (Nat.le_of_eq g616.symm)
 refine own_stp 12 st616 (own_as X616 q d28_12 rfl (l' := #[.val (.ref a1), .val v'0, .val v'4, .val v'4, .val (.ref b616)]) rfl (own_aln X616 q d28_14 rfl rfl (own_iln X616 q d28_15 rfl (own_al X616 q d28_16 rfl rfl (own_k X616 q d28_18 (own_aln X616 q d28_19 rfl rfl (own_alen (n := (16 : Int32)) X616 q hZ e616 (VA.ext E616) d28_20 (own_iln X616 q d28_21 rfl (own_isubk 16 X616 q d28_22 (by decide) (own_iln X616 q d28_23 rfl ?_))))))))))
 refine own_cS X616 q hZ e616 hown hml (W 167 rfl) (W 168 rfl) (W 169 rfl) (W 170 rfl) (rm30 l Z a0 hw (16 : Int32) (4 : Int32) (4 : Int32) h616 n0 zs617 (by decide)) d28_24 [v'16, v'4] [v'0, (.ref b616), v'0, (.ref a1)] own_pd11 4 (by decide) (fun v618 T618 L618 X618 hQ618 => ?_)
 obtain ⟨rfl, N618q, e618⟩ := hQ618
 have N618 := Fr.app N614 N618q
 refine own_nv ?_
 obtain ⟨T619, h619, L619, X619, e619, N619, K619, V619, st619⟩ := cpA X618 hx hZ hown (W 171 rfl) (W 126 rfl) (W 124 rfl) (W 125 rfl) e618 (sp := (0 : Int32)) (dp := (0 : Int32)) (nn := (4 : Int32)) (VA.ext E616) V616 (Or.inl ⟨rfl, rfl⟩) (by decide) (by decide) (by decide) (by decide) (by decide) rfl (by decide) N618 g_b616 (g := (mkF m 27 #[.val (.ref a1), .val v'0, .val v'4, .val v'4, .val (.ref b616)] [v'4, v'0, (.ref b616), v'0, (.ref a1)])) rfl (by rw [hml]; rfl) rfl (q.d d28_27) (by decide) (W := 0) (by show 2 * 0 + _ ≤ _; exact Nat.le_of_eq rfl) (by decide)
 have V619 : Arv Z h619 b616 k616 .byte (4 : Int32) [(.int y0), (.int y1), (.int y2), (.int y3)] v'0 := V619
 have kp620 := kp617.trans K619 (allS (Or.inr sz_b616) all0)
 refine own_stp 30 st619 (own_al X619 q d28_30 rfl rfl ?_)
 refine own_rA X619 q hrt d28_32 hlk (by decide) ?_
 show QCRL4 Z y0 y1 y2 y3 h0 n0 _ T619.heap _
 rw [e619]
 exact ⟨_, _, rfl, N619, own_extK kp620, sz_b616, V619⟩
theorem rm27_L4 (l : Launch) (Z : State) (a0 : Array Value) (hw : own_hw a0 Z) (a1 : Addr) (k1 : ClassId) (y0 y1 y2 y3 : Int32) (h0 : Heap) (n0 : Nat) (Z0 : n0 ≤ h0.size) (VA : Arv Z h0 a1 k1 .byte (16 : Int32) [(.int y0), (.int y1), (.int y2), (.int y3), v'0, v'0, v'0, v'0, v'0, v'0, v'0, v'0, v'0, v'0, v'0, v'0] v'0) :
  own_M l Z [] own_y20 b'27 3 (some (.array .byte)) ⟨2, 1, 4, 34⟩ #[(.ref a1), v'0, v'4] h0 (QCRL4 Z y0 y1 y2 y3 h0 n0) := by
 refine own_start (n0 := n0) hw "java/util/Arrays" (L := #[.val (.ref a1), .val v'0, .val v'4]) pn_27 (fun {p e s m below meth c s₁} q hx W hml hZ hown hnm hlk hrt X0 e0 N0 => ?_)
 have kp0 := Keep.refl h0 []
 refine own_iln X0 q d27_0 rfl (own_zn X0 q d27_1 (((if0 _ _).trans (teq (rfl : (0 : Int32) = (0 : Int32))).2)) (own_iln X0 q d27_4 rfl (own_aln X0 q d27_5 rfl rfl (own_alen (n := (16 : Int32)) X0 q hZ e0 VA d27_6 (own_cn X0 q d27_7 ((feq ((by decide) : ¬ ((4 : Int32) = (16 : Int32)))).1) (own_aln X0 q d27_10 rfl rfl (own_iln X0 q d27_11 rfl (own_iln X0 q d27_12 rfl ?_))))))))
 refine own_cSh X0 q hZ e0 hown hml (W 161 rfl) (W 162 rfl) (W 159 rfl) (W 163 rfl) (rm28_L4 l Z a0 hw a1 k1 y0 y1 y2 y3 h0 n0 Z0 VA) d27_13 [(.ref a1), v'0, v'4] [] own_pd12 0 (by decide) (fun v623 T623 L623 h623 e623' X623 hQ623 => ?_)
 obtain ⟨b623, k623, rfl, N623q, E623, lo623, V623⟩ := hQ623
 have N623 := Fr.app N0 N623q
 have kp624 := kp0.ext E623
 have sz_b623 : h0.size ≤ b623 := Nat.le_trans kp0.1 lo623
 refine own_nv ?_
 refine own_rA X623 q hrt d27_16 hlk (by decide) ?_
 show QCRL4 Z y0 y1 y2 y3 h0 n0 _ T623.heap _
 rw [e623']
 exact ⟨_, _, rfl, N623, own_extK kp624, sz_b623, V623⟩
theorem rm28_U1 (l : Launch) (Z : State) (a0 : Array Value) (hw : own_hw a0 Z) (a1 : Addr) (k1 : ClassId) (y0 y1 : Int32) (h0 : Heap) (n0 : Nat) (Z0 : n0 ≤ h0.size) (VA : Arv Z h0 a1 k1 .byte (32 : Int32) [(.int y0), (.int y1), v'0, v'0, v'0, v'0, v'0, v'0, v'0, v'0, v'0, v'0, v'0, v'0, v'0, v'0, v'0, v'0, v'0, v'0, v'0, v'0, v'0, v'0, v'0, v'0, v'0, v'0, v'0, v'0, v'0, v'0] v'0) :
  own_M l Z [] own_y19 b'28 5 (some (.array .byte)) ⟨1, 1, 2, 18⟩ #[(.ref a1), v'0, v'2] h0 (QCRU1 Z y0 y1 h0 n0) := by
 refine own_start (n0 := n0) hw "java/util/Arrays" (L := #[.val (.ref a1), .val v'0, .val v'2, .unset, .unset]) pn_28 (fun {p e s m below meth c s₁} q hx W hml hZ hown hnm hlk hrt X0 e0 N0 => ?_)
 have kp0 := Keep.refl h0 []
 refine own_iln X0 q d28_0 rfl (own_iln X0 q d28_1 rfl ?_)
 refine own_cS X0 q hZ e0 hown hml (W 164 rfl) (W 165 rfl) (W 159 rfl) (W 166 rfl) (rm29 l Z a0 hw (0 : Int32) (2 : Int32) h0 n0 Z0 (by decide)) d28_2 [v'0, v'2] [] own_pd10 0 (by decide) (fun v632 T632 L632 X632 hQ632 => ?_)
 obtain ⟨rfl, N632q, e632⟩ := hQ632
 have N632 := Fr.app N0 N632q
 refine own_nn (own_iln X632 q d28_5 rfl (own_iln X632 q d28_6 rfl (own_isubk 2 X632 q d28_7 (by decide) (own_isn X632 q d28_8 (l' := #[.val (.ref a1), .val v'0, .val v'2, .val v'2, .unset]) rfl (own_iln X632 q d28_9 rfl ?_)))))
 refine own_let ?_; intro g633_
 obtain ⟨T634, h634, k634, X634, e634, E634, A634, st634⟩ := newP X632 hx hZ (W 21 rfl) e632 (g := g633_) rfl (q.d d28_10) rfl (by decide) (cap := 2) (by decide) (by decide) (by decide) (by decide)
 obtain ⟨b634, g634⟩ : ∃ z, z = h0.size := ⟨_, rfl⟩
 rw [← g634] at A634 st634
 have V634 : Arv Z h634 b634 k634 .byte (2 : Int32) [v'0, v'0] v'0 := (Arv.new A634 (by decide)).pad (pad_rep [] v'0 2)
 have zs635 := Nat.le_trans Z0 E634.1
 have kp635 := kp0.ext E634
 have g_b634 : n0 ≤ b634 := Nat.le_trans Z0 (Nat.le_of_eq g634.symm)
 have sz_b634 : h0.size ≤ b634 := Nat.le_trans kp0.1 (Nat.le_of_eq g634.symm)
 refine own_stp 12 st634 (own_as X634 q d28_12 rfl (l' := #[.val (.ref a1), .val v'0, .val v'2, .val v'2, .val (.ref b634)]) rfl (own_aln X634 q d28_14 rfl rfl (own_iln X634 q d28_15 rfl (own_al X634 q d28_16 rfl rfl (own_k X634 q d28_18 (own_aln X634 q d28_19 rfl rfl (own_alen (n := (32 : Int32)) X634 q hZ e634 (VA.ext E634) d28_20 (own_iln X634 q d28_21 rfl (own_isubk 32 X634 q d28_22 (by decide) (own_iln X634 q d28_23 rfl ?_))))))))))
 refine own_cS X634 q hZ e634 hown hml (W 167 rfl) (W 168 rfl) (W 169 rfl) (W 170 rfl) (rm30 l Z a0 hw (32 : Int32) (2 : Int32) (2 : Int32) h634 n0 zs635 (by decide)) d28_24 [(.int (32 : Int32)), v'2] [v'0, (.ref b634), v'0, (.ref a1)] own_pd11 4 (by decide) (fun v636 T636 L636 X636 hQ636 => ?_)
 obtain ⟨rfl, N636q, e636⟩ := hQ636
 have N636 := Fr.app N632 N636q
 refine own_nv ?_
 obtain ⟨T637, h637, L637, X637, e637, N637, K637, V637, st637⟩ := cpA X636 hx hZ hown (W 171 rfl) (W 126 rfl) (W 124 rfl) (W 125 rfl) e636 (sp := (0 : Int32)) (dp := (0 : Int32)) (nn := (2 : Int32)) (VA.ext E634) V634 (Or.inl ⟨rfl, rfl⟩) (by decide) (by decide) (by decide) (by decide) (by decide) rfl (by decide) N636 g_b634 (g := (mkF m 27 #[.val (.ref a1), .val v'0, .val v'2, .val v'2, .val (.ref b634)] [v'2, v'0, (.ref b634), v'0, (.ref a1)])) rfl (by rw [hml]; rfl) rfl (q.d d28_27) (by decide) (W := 0) (by show 2 * 0 + _ ≤ _; exact Nat.le_of_eq rfl) (by decide)
 have V637 : Arv Z h637 b634 k634 .byte (2 : Int32) [(.int y0), (.int y1)] v'0 := V637
 have kp638 := kp635.trans K637 (allS (Or.inr sz_b634) all0)
 refine own_stp 30 st637 (own_al X637 q d28_30 rfl rfl ?_)
 refine own_rA X637 q hrt d28_32 hlk (by decide) ?_
 show QCRU1 Z y0 y1 h0 n0 _ T637.heap _
 rw [e637]
 exact ⟨_, _, rfl, N637, own_extK kp638, sz_b634, V637⟩
theorem rm27_U1 (l : Launch) (Z : State) (a0 : Array Value) (hw : own_hw a0 Z) (a1 : Addr) (k1 : ClassId) (y0 y1 : Int32) (h0 : Heap) (n0 : Nat) (Z0 : n0 ≤ h0.size) (VA : Arv Z h0 a1 k1 .byte (32 : Int32) [(.int y0), (.int y1), v'0, v'0, v'0, v'0, v'0, v'0, v'0, v'0, v'0, v'0, v'0, v'0, v'0, v'0, v'0, v'0, v'0, v'0, v'0, v'0, v'0, v'0, v'0, v'0, v'0, v'0, v'0, v'0, v'0, v'0] v'0) :
  own_M l Z [] own_y20 b'27 3 (some (.array .byte)) ⟨2, 1, 2, 34⟩ #[(.ref a1), v'0, v'2] h0 (QCRU1 Z y0 y1 h0 n0) := by
 refine own_start (n0 := n0) hw "java/util/Arrays" (L := #[.val (.ref a1), .val v'0, .val v'2]) pn_27 (fun {p e s m below meth c s₁} q hx W hml hZ hown hnm hlk hrt X0 e0 N0 => ?_)
 have kp0 := Keep.refl h0 []
 refine own_iln X0 q d27_0 rfl (own_zn X0 q d27_1 (((if0 _ _).trans (teq (rfl : (0 : Int32) = (0 : Int32))).2)) (own_iln X0 q d27_4 rfl (own_aln X0 q d27_5 rfl rfl (own_alen (n := (32 : Int32)) X0 q hZ e0 VA d27_6 (own_cn X0 q d27_7 ((feq ((by decide) : ¬ ((2 : Int32) = (32 : Int32)))).1) (own_aln X0 q d27_10 rfl rfl (own_iln X0 q d27_11 rfl (own_iln X0 q d27_12 rfl ?_))))))))
 refine own_cSh X0 q hZ e0 hown hml (W 161 rfl) (W 162 rfl) (W 159 rfl) (W 163 rfl) (rm28_U1 l Z a0 hw a1 k1 y0 y1 h0 n0 Z0 VA) d27_13 [(.ref a1), v'0, v'2] [] own_pd12 0 (by decide) (fun v641 T641 L641 h641 e641' X641 hQ641 => ?_)
 obtain ⟨b641, k641, rfl, N641q, E641, lo641, V641⟩ := hQ641
 have N641 := Fr.app N0 N641q
 have kp642 := kp0.ext E641
 have sz_b641 : h0.size ≤ b641 := Nat.le_trans kp0.1 lo641
 refine own_nv ?_
 refine own_rA X641 q hrt d27_16 hlk (by decide) ?_
 show QCRU1 Z y0 y1 h0 n0 _ T641.heap _
 rw [e641']
 exact ⟨_, _, rfl, N641, own_extK kp642, sz_b641, V641⟩
theorem rm28_U2 (l : Launch) (Z : State) (a0 : Array Value) (hw : own_hw a0 Z) (a1 : Addr) (k1 : ClassId) (y0 y1 y2 y3 : Int32) (h0 : Heap) (n0 : Nat) (Z0 : n0 ≤ h0.size) (VA : Arv Z h0 a1 k1 .byte (32 : Int32) [(.int y0), (.int y1), (.int y2), (.int y3), v'0, v'0, v'0, v'0, v'0, v'0, v'0, v'0, v'0, v'0, v'0, v'0, v'0, v'0, v'0, v'0, v'0, v'0, v'0, v'0, v'0, v'0, v'0, v'0, v'0, v'0, v'0, v'0] v'0) :
  own_M l Z [] own_y19 b'28 5 (some (.array .byte)) ⟨1, 1, 4, 18⟩ #[(.ref a1), v'0, v'4] h0 (QCRU2 Z y0 y1 y2 y3 h0 n0) := by
 refine own_start (n0 := n0) hw "java/util/Arrays" (L := #[.val (.ref a1), .val v'0, .val v'4, .unset, .unset]) pn_28 (fun {p e s m below meth c s₁} q hx W hml hZ hown hnm hlk hrt X0 e0 N0 => ?_)
 have kp0 := Keep.refl h0 []
 refine own_iln X0 q d28_0 rfl (own_iln X0 q d28_1 rfl ?_)
 refine own_cS X0 q hZ e0 hown hml (W 164 rfl) (W 165 rfl) (W 159 rfl) (W 166 rfl) (rm29 l Z a0 hw (0 : Int32) (4 : Int32) h0 n0 Z0 (by decide)) d28_2 [v'0, v'4] [] own_pd10 0 (by decide) (fun v650 T650 L650 X650 hQ650 => ?_)
 obtain ⟨rfl, N650q, e650⟩ := hQ650
 have N650 := Fr.app N0 N650q
 refine own_nn (own_iln X650 q d28_5 rfl (own_iln X650 q d28_6 rfl (own_isubk 4 X650 q d28_7 (by decide) (own_isn X650 q d28_8 (l' := #[.val (.ref a1), .val v'0, .val v'4, .val v'4, .unset]) rfl (own_iln X650 q d28_9 rfl ?_)))))
 refine own_let ?_; intro g651_
 obtain ⟨T652, h652, k652, X652, e652, E652, A652, st652⟩ := newP X650 hx hZ (W 21 rfl) e650 (g := g651_) rfl (q.d d28_10) rfl (by decide) (cap := 4) (by decide) (by decide) (by decide) (by decide)
 obtain ⟨b652, g652⟩ : ∃ z, z = h0.size := ⟨_, rfl⟩
 rw [← g652] at A652 st652
 have V652 : Arv Z h652 b652 k652 .byte (4 : Int32) [v'0, v'0, v'0, v'0] v'0 := (Arv.new A652 (by decide)).pad (pad_rep [] v'0 4)
 have zs653 := Nat.le_trans Z0 E652.1
 have kp653 := kp0.ext E652
 have g_b652 : n0 ≤ b652 := Nat.le_trans Z0 (Nat.le_of_eq g652.symm)
 have sz_b652 : h0.size ≤ b652 := Nat.le_trans kp0.1 (Nat.le_of_eq g652.symm)
 refine own_stp 12 st652 (own_as X652 q d28_12 rfl (l' := #[.val (.ref a1), .val v'0, .val v'4, .val v'4, .val (.ref b652)]) rfl (own_aln X652 q d28_14 rfl rfl (own_iln X652 q d28_15 rfl (own_al X652 q d28_16 rfl rfl (own_k X652 q d28_18 (own_aln X652 q d28_19 rfl rfl (own_alen (n := (32 : Int32)) X652 q hZ e652 (VA.ext E652) d28_20 (own_iln X652 q d28_21 rfl (own_isubk 32 X652 q d28_22 (by decide) (own_iln X652 q d28_23 rfl ?_))))))))))
 refine own_cS X652 q hZ e652 hown hml (W 167 rfl) (W 168 rfl) (W 169 rfl) (W 170 rfl) (rm30 l Z a0 hw (32 : Int32) (4 : Int32) (4 : Int32) h652 n0 zs653 (by decide)) d28_24 [(.int (32 : Int32)), v'4] [v'0, (.ref b652), v'0, (.ref a1)] own_pd11 4 (by decide) (fun v654 T654 L654 X654 hQ654 => ?_)
 obtain ⟨rfl, N654q, e654⟩ := hQ654
 have N654 := Fr.app N650 N654q
 refine own_nv ?_
 obtain ⟨T655, h655, L655, X655, e655, N655, K655, V655, st655⟩ := cpA X654 hx hZ hown (W 171 rfl) (W 126 rfl) (W 124 rfl) (W 125 rfl) e654 (sp := (0 : Int32)) (dp := (0 : Int32)) (nn := (4 : Int32)) (VA.ext E652) V652 (Or.inl ⟨rfl, rfl⟩) (by decide) (by decide) (by decide) (by decide) (by decide) rfl (by decide) N654 g_b652 (g := (mkF m 27 #[.val (.ref a1), .val v'0, .val v'4, .val v'4, .val (.ref b652)] [v'4, v'0, (.ref b652), v'0, (.ref a1)])) rfl (by rw [hml]; rfl) rfl (q.d d28_27) (by decide) (W := 0) (by show 2 * 0 + _ ≤ _; exact Nat.le_of_eq rfl) (by decide)
 have V655 : Arv Z h655 b652 k652 .byte (4 : Int32) [(.int y0), (.int y1), (.int y2), (.int y3)] v'0 := V655
 have kp656 := kp653.trans K655 (allS (Or.inr sz_b652) all0)
 refine own_stp 30 st655 (own_al X655 q d28_30 rfl rfl ?_)
 refine own_rA X655 q hrt d28_32 hlk (by decide) ?_
 show QCRU2 Z y0 y1 y2 y3 h0 n0 _ T655.heap _
 rw [e655]
 exact ⟨_, _, rfl, N655, own_extK kp656, sz_b652, V655⟩
theorem rm27_U2 (l : Launch) (Z : State) (a0 : Array Value) (hw : own_hw a0 Z) (a1 : Addr) (k1 : ClassId) (y0 y1 y2 y3 : Int32) (h0 : Heap) (n0 : Nat) (Z0 : n0 ≤ h0.size) (VA : Arv Z h0 a1 k1 .byte (32 : Int32) [(.int y0), (.int y1), (.int y2), (.int y3), v'0, v'0, v'0, v'0, v'0, v'0, v'0, v'0, v'0, v'0, v'0, v'0, v'0, v'0, v'0, v'0, v'0, v'0, v'0, v'0, v'0, v'0, v'0, v'0, v'0, v'0, v'0, v'0] v'0) :
  own_M l Z [] own_y20 b'27 3 (some (.array .byte)) ⟨2, 1, 4, 34⟩ #[(.ref a1), v'0, v'4] h0 (QCRU2 Z y0 y1 y2 y3 h0 n0) := by
 refine own_start (n0 := n0) hw "java/util/Arrays" (L := #[.val (.ref a1), .val v'0, .val v'4]) pn_27 (fun {p e s m below meth c s₁} q hx W hml hZ hown hnm hlk hrt X0 e0 N0 => ?_)
 have kp0 := Keep.refl h0 []
 refine own_iln X0 q d27_0 rfl (own_zn X0 q d27_1 (((if0 _ _).trans (teq (rfl : (0 : Int32) = (0 : Int32))).2)) (own_iln X0 q d27_4 rfl (own_aln X0 q d27_5 rfl rfl (own_alen (n := (32 : Int32)) X0 q hZ e0 VA d27_6 (own_cn X0 q d27_7 ((feq ((by decide) : ¬ ((4 : Int32) = (32 : Int32)))).1) (own_aln X0 q d27_10 rfl rfl (own_iln X0 q d27_11 rfl (own_iln X0 q d27_12 rfl ?_))))))))
 refine own_cSh X0 q hZ e0 hown hml (W 161 rfl) (W 162 rfl) (W 159 rfl) (W 163 rfl) (rm28_U2 l Z a0 hw a1 k1 y0 y1 y2 y3 h0 n0 Z0 VA) d27_13 [(.ref a1), v'0, v'4] [] own_pd12 0 (by decide) (fun v659 T659 L659 h659 e659' X659 hQ659 => ?_)
 obtain ⟨b659, k659, rfl, N659q, E659, lo659, V659⟩ := hQ659
 have N659 := Fr.app N0 N659q
 have kp660 := kp0.ext E659
 have sz_b659 : h0.size ≤ b659 := Nat.le_trans kp0.1 lo659
 refine own_nv ?_
 refine own_rA X659 q hrt d27_16 hlk (by decide) ?_
 show QCRU2 Z y0 y1 y2 y3 h0 n0 _ T659.heap _
 rw [e659']
 exact ⟨_, _, rfl, N659, own_extK kp660, sz_b659, V659⟩
theorem rm28_U3 (l : Launch) (Z : State) (a0 : Array Value) (hw : own_hw a0 Z) (a1 : Addr) (k1 : ClassId) (y0 y1 y2 y3 y4 y5 : Int32) (h0 : Heap) (n0 : Nat) (Z0 : n0 ≤ h0.size) (VA : Arv Z h0 a1 k1 .byte (32 : Int32) [(.int y0), (.int y1), (.int y2), (.int y3), (.int y4), (.int y5), v'0, v'0, v'0, v'0, v'0, v'0, v'0, v'0, v'0, v'0, v'0, v'0, v'0, v'0, v'0, v'0, v'0, v'0, v'0, v'0, v'0, v'0, v'0, v'0, v'0, v'0] v'0) :
  own_M l Z [] own_y19 b'28 5 (some (.array .byte)) ⟨1, 1, 6, 18⟩ #[(.ref a1), v'0, v'6] h0 (QCRU3 Z y0 y1 y2 y3 y4 y5 h0 n0) := by
 refine own_start (n0 := n0) hw "java/util/Arrays" (L := #[.val (.ref a1), .val v'0, .val v'6, .unset, .unset]) pn_28 (fun {p e s m below meth c s₁} q hx W hml hZ hown hnm hlk hrt X0 e0 N0 => ?_)
 have kp0 := Keep.refl h0 []
 refine own_iln X0 q d28_0 rfl (own_iln X0 q d28_1 rfl ?_)
 refine own_cS X0 q hZ e0 hown hml (W 164 rfl) (W 165 rfl) (W 159 rfl) (W 166 rfl) (rm29 l Z a0 hw (0 : Int32) (6 : Int32) h0 n0 Z0 (by decide)) d28_2 [v'0, v'6] [] own_pd10 0 (by decide) (fun v668 T668 L668 X668 hQ668 => ?_)
 obtain ⟨rfl, N668q, e668⟩ := hQ668
 have N668 := Fr.app N0 N668q
 refine own_nn (own_iln X668 q d28_5 rfl (own_iln X668 q d28_6 rfl (own_isubk 6 X668 q d28_7 (by decide) (own_isn X668 q d28_8 (l' := #[.val (.ref a1), .val v'0, .val v'6, .val v'6, .unset]) rfl (own_iln X668 q d28_9 rfl ?_)))))
 refine own_let ?_; intro g669_
 obtain ⟨T670, h670, k670, X670, e670, E670, A670, st670⟩ := newP X668 hx hZ (W 21 rfl) e668 (g := g669_) rfl (q.d d28_10) rfl (by decide) (cap := 6) (by decide) (by decide) (by decide) (by decide)
 obtain ⟨b670, g670⟩ : ∃ z, z = h0.size := ⟨_, rfl⟩
 rw [← g670] at A670 st670
 have V670 : Arv Z h670 b670 k670 .byte (6 : Int32) [v'0, v'0, v'0, v'0, v'0, v'0] v'0 := (Arv.new A670 (by decide)).pad (pad_rep [] v'0 6)
 have zs671 := Nat.le_trans Z0 E670.1
 have kp671 := kp0.ext E670
 have g_b670 : n0 ≤ b670 := Nat.le_trans Z0 (Nat.le_of_eq g670.symm)
 have sz_b670 : h0.size ≤ b670 := Nat.le_trans kp0.1 (Nat.le_of_eq g670.symm)
 refine own_stp 12 st670 (own_as X670 q d28_12 rfl (l' := #[.val (.ref a1), .val v'0, .val v'6, .val v'6, .val (.ref b670)]) rfl (own_aln X670 q d28_14 rfl rfl (own_iln X670 q d28_15 rfl (own_al X670 q d28_16 rfl rfl (own_k X670 q d28_18 (own_aln X670 q d28_19 rfl rfl (own_alen (n := (32 : Int32)) X670 q hZ e670 (VA.ext E670) d28_20 (own_iln X670 q d28_21 rfl (own_isubk 32 X670 q d28_22 (by decide) (own_iln X670 q d28_23 rfl ?_))))))))))
 refine own_cS X670 q hZ e670 hown hml (W 167 rfl) (W 168 rfl) (W 169 rfl) (W 170 rfl) (rm30 l Z a0 hw (32 : Int32) (6 : Int32) (6 : Int32) h670 n0 zs671 (by decide)) d28_24 [(.int (32 : Int32)), v'6] [v'0, (.ref b670), v'0, (.ref a1)] own_pd11 4 (by decide) (fun v672 T672 L672 X672 hQ672 => ?_)
 obtain ⟨rfl, N672q, e672⟩ := hQ672
 have N672 := Fr.app N668 N672q
 refine own_nv ?_
 obtain ⟨T673, h673, L673, X673, e673, N673, K673, V673, st673⟩ := cpA X672 hx hZ hown (W 171 rfl) (W 126 rfl) (W 124 rfl) (W 125 rfl) e672 (sp := (0 : Int32)) (dp := (0 : Int32)) (nn := (6 : Int32)) (VA.ext E670) V670 (Or.inl ⟨rfl, rfl⟩) (by decide) (by decide) (by decide) (by decide) (by decide) rfl (by decide) N672 g_b670 (g := (mkF m 27 #[.val (.ref a1), .val v'0, .val v'6, .val v'6, .val (.ref b670)] [v'6, v'0, (.ref b670), v'0, (.ref a1)])) rfl (by rw [hml]; rfl) rfl (q.d d28_27) (by decide) (W := 0) (by show 2 * 0 + _ ≤ _; exact Nat.le_of_eq rfl) (by decide)
 have V673 : Arv Z h673 b670 k670 .byte (6 : Int32) [(.int y0), (.int y1), (.int y2), (.int y3), (.int y4), (.int y5)] v'0 := V673
 have kp674 := kp671.trans K673 (allS (Or.inr sz_b670) all0)
 refine own_stp 30 st673 (own_al X673 q d28_30 rfl rfl ?_)
 refine own_rA X673 q hrt d28_32 hlk (by decide) ?_
 show QCRU3 Z y0 y1 y2 y3 y4 y5 h0 n0 _ T673.heap _
 rw [e673]
 exact ⟨_, _, rfl, N673, own_extK kp674, sz_b670, V673⟩
theorem rm27_U3 (l : Launch) (Z : State) (a0 : Array Value) (hw : own_hw a0 Z) (a1 : Addr) (k1 : ClassId) (y0 y1 y2 y3 y4 y5 : Int32) (h0 : Heap) (n0 : Nat) (Z0 : n0 ≤ h0.size) (VA : Arv Z h0 a1 k1 .byte (32 : Int32) [(.int y0), (.int y1), (.int y2), (.int y3), (.int y4), (.int y5), v'0, v'0, v'0, v'0, v'0, v'0, v'0, v'0, v'0, v'0, v'0, v'0, v'0, v'0, v'0, v'0, v'0, v'0, v'0, v'0, v'0, v'0, v'0, v'0, v'0, v'0] v'0) :
  own_M l Z [] own_y20 b'27 3 (some (.array .byte)) ⟨2, 1, 6, 34⟩ #[(.ref a1), v'0, v'6] h0 (QCRU3 Z y0 y1 y2 y3 y4 y5 h0 n0) := by
 refine own_start (n0 := n0) hw "java/util/Arrays" (L := #[.val (.ref a1), .val v'0, .val v'6]) pn_27 (fun {p e s m below meth c s₁} q hx W hml hZ hown hnm hlk hrt X0 e0 N0 => ?_)
 have kp0 := Keep.refl h0 []
 refine own_iln X0 q d27_0 rfl (own_zn X0 q d27_1 (((if0 _ _).trans (teq (rfl : (0 : Int32) = (0 : Int32))).2)) (own_iln X0 q d27_4 rfl (own_aln X0 q d27_5 rfl rfl (own_alen (n := (32 : Int32)) X0 q hZ e0 VA d27_6 (own_cn X0 q d27_7 ((feq ((by decide) : ¬ ((6 : Int32) = (32 : Int32)))).1) (own_aln X0 q d27_10 rfl rfl (own_iln X0 q d27_11 rfl (own_iln X0 q d27_12 rfl ?_))))))))
 refine own_cSh X0 q hZ e0 hown hml (W 161 rfl) (W 162 rfl) (W 159 rfl) (W 163 rfl) (rm28_U3 l Z a0 hw a1 k1 y0 y1 y2 y3 y4 y5 h0 n0 Z0 VA) d27_13 [(.ref a1), v'0, v'6] [] own_pd12 0 (by decide) (fun v677 T677 L677 h677 e677' X677 hQ677 => ?_)
 obtain ⟨b677, k677, rfl, N677q, E677, lo677, V677⟩ := hQ677
 have N677 := Fr.app N0 N677q
 have kp678 := kp0.ext E677
 have sz_b677 : h0.size ≤ b677 := Nat.le_trans kp0.1 lo677
 refine own_nv ?_
 refine own_rA X677 q hrt d27_16 hlk (by decide) ?_
 show QCRU3 Z y0 y1 y2 y3 y4 y5 h0 n0 _ T677.heap _
 rw [e677']
 exact ⟨_, _, rfl, N677, own_extK kp678, sz_b677, V677⟩
theorem rm28_U4 (l : Launch) (Z : State) (a0 : Array Value) (hw : own_hw a0 Z) (a1 : Addr) (k1 : ClassId) (y0 y1 y2 y3 y4 y5 y6 y7 : Int32) (h0 : Heap) (n0 : Nat) (Z0 : n0 ≤ h0.size) (VA : Arv Z h0 a1 k1 .byte (32 : Int32) [(.int y0), (.int y1), (.int y2), (.int y3), (.int y4), (.int y5), (.int y6), (.int y7), v'0, v'0, v'0, v'0, v'0, v'0, v'0, v'0, v'0, v'0, v'0, v'0, v'0, v'0, v'0, v'0, v'0, v'0, v'0, v'0, v'0, v'0, v'0, v'0] v'0) :
  own_M l Z [] own_y19 b'28 5 (some (.array .byte)) ⟨1, 1, 8, 18⟩ #[(.ref a1), v'0, v'8] h0 (QCRU4 Z y0 y1 y2 y3 y4 y5 y6 y7 h0 n0) := by
 refine own_start (n0 := n0) hw "java/util/Arrays" (L := #[.val (.ref a1), .val v'0, .val v'8, .unset, .unset]) pn_28 (fun {p e s m below meth c s₁} q hx W hml hZ hown hnm hlk hrt X0 e0 N0 => ?_)
 have kp0 := Keep.refl h0 []
 refine own_iln X0 q d28_0 rfl (own_iln X0 q d28_1 rfl ?_)
 refine own_cS X0 q hZ e0 hown hml (W 164 rfl) (W 165 rfl) (W 159 rfl) (W 166 rfl) (rm29 l Z a0 hw (0 : Int32) (8 : Int32) h0 n0 Z0 (by decide)) d28_2 [v'0, v'8] [] own_pd10 0 (by decide) (fun v686 T686 L686 X686 hQ686 => ?_)
 obtain ⟨rfl, N686q, e686⟩ := hQ686
 have N686 := Fr.app N0 N686q
 refine own_nn (own_iln X686 q d28_5 rfl (own_iln X686 q d28_6 rfl (own_isubk 8 X686 q d28_7 (by decide) (own_isn X686 q d28_8 (l' := #[.val (.ref a1), .val v'0, .val v'8, .val v'8, .unset]) rfl (own_iln X686 q d28_9 rfl ?_)))))
 refine own_let ?_; intro g687_
 obtain ⟨T688, h688, k688, X688, e688, E688, A688, st688⟩ := newP X686 hx hZ (W 21 rfl) e686 (g := g687_) rfl (q.d d28_10) rfl (by decide) (cap := 8) (by decide) (by decide) (by decide) (by decide)
 obtain ⟨b688, g688⟩ : ∃ z, z = h0.size := ⟨_, rfl⟩
 rw [← g688] at A688 st688
 have V688 : Arv Z h688 b688 k688 .byte (8 : Int32) [v'0, v'0, v'0, v'0, v'0, v'0, v'0, v'0] v'0 := (Arv.new A688 (by decide)).pad (pad_rep [] v'0 8)
 have zs689 := Nat.le_trans Z0 E688.1
 have kp689 := kp0.ext E688
 have g_b688 : n0 ≤ b688 := Nat.le_trans Z0 (Nat.le_of_eq g688.symm)
 have sz_b688 : h0.size ≤ b688 := Nat.le_trans kp0.1 (Nat.le_of_eq g688.symm)
 refine own_stp 12 st688 (own_as X688 q d28_12 rfl (l' := #[.val (.ref a1), .val v'0, .val v'8, .val v'8, .val (.ref b688)]) rfl (own_aln X688 q d28_14 rfl rfl (own_iln X688 q d28_15 rfl (own_al X688 q d28_16 rfl rfl (own_k X688 q d28_18 (own_aln X688 q d28_19 rfl rfl (own_alen (n := (32 : Int32)) X688 q hZ e688 (VA.ext E688) d28_20 (own_iln X688 q d28_21 rfl (own_isubk 32 X688 q d28_22 (by decide) (own_iln X688 q d28_23 rfl ?_))))))))))
 refine own_cS X688 q hZ e688 hown hml (W 167 rfl) (W 168 rfl) (W 169 rfl) (W 170 rfl) (rm30 l Z a0 hw (32 : Int32) (8 : Int32) (8 : Int32) h688 n0 zs689 (by decide)) d28_24 [(.int (32 : Int32)), v'8] [v'0, (.ref b688), v'0, (.ref a1)] own_pd11 4 (by decide) (fun v690 T690 L690 X690 hQ690 => ?_)
 obtain ⟨rfl, N690q, e690⟩ := hQ690
 have N690 := Fr.app N686 N690q
 refine own_nv ?_
 obtain ⟨T691, h691, L691, X691, e691, N691, K691, V691, st691⟩ := cpA X690 hx hZ hown (W 171 rfl) (W 126 rfl) (W 124 rfl) (W 125 rfl) e690 (sp := (0 : Int32)) (dp := (0 : Int32)) (nn := (8 : Int32)) (VA.ext E688) V688 (Or.inl ⟨rfl, rfl⟩) (by decide) (by decide) (by decide) (by decide) (by decide) rfl (by decide) N690 g_b688 (g := (mkF m 27 #[.val (.ref a1), .val v'0, .val v'8, .val v'8, .val (.ref b688)] [v'8, v'0, (.ref b688), v'0, (.ref a1)])) rfl (by rw [hml]; rfl) rfl (q.d d28_27) (by decide) (W := 0) (by show 2 * 0 + _ ≤ _; exact Nat.le_of_eq rfl) (by decide)
 have V691 : Arv Z h691 b688 k688 .byte (8 : Int32) [(.int y0), (.int y1), (.int y2), (.int y3), (.int y4), (.int y5), (.int y6), (.int y7)] v'0 := V691
 have kp692 := kp689.trans K691 (allS (Or.inr sz_b688) all0)
 refine own_stp 30 st691 (own_al X691 q d28_30 rfl rfl ?_)
 refine own_rA X691 q hrt d28_32 hlk (by decide) ?_
 show QCRU4 Z y0 y1 y2 y3 y4 y5 y6 y7 h0 n0 _ T691.heap _
 rw [e691]
 exact ⟨_, _, rfl, N691, own_extK kp692, sz_b688, V691⟩
theorem rm27_U4 (l : Launch) (Z : State) (a0 : Array Value) (hw : own_hw a0 Z) (a1 : Addr) (k1 : ClassId) (y0 y1 y2 y3 y4 y5 y6 y7 : Int32) (h0 : Heap) (n0 : Nat) (Z0 : n0 ≤ h0.size) (VA : Arv Z h0 a1 k1 .byte (32 : Int32) [(.int y0), (.int y1), (.int y2), (.int y3), (.int y4), (.int y5), (.int y6), (.int y7), v'0, v'0, v'0, v'0, v'0, v'0, v'0, v'0, v'0, v'0, v'0, v'0, v'0, v'0, v'0, v'0, v'0, v'0, v'0, v'0, v'0, v'0, v'0, v'0] v'0) :
  own_M l Z [] own_y20 b'27 3 (some (.array .byte)) ⟨2, 1, 8, 34⟩ #[(.ref a1), v'0, v'8] h0 (QCRU4 Z y0 y1 y2 y3 y4 y5 y6 y7 h0 n0) := by
 refine own_start (n0 := n0) hw "java/util/Arrays" (L := #[.val (.ref a1), .val v'0, .val v'8]) pn_27 (fun {p e s m below meth c s₁} q hx W hml hZ hown hnm hlk hrt X0 e0 N0 => ?_)
 have kp0 := Keep.refl h0 []
 refine own_iln X0 q d27_0 rfl (own_zn X0 q d27_1 (((if0 _ _).trans (teq (rfl : (0 : Int32) = (0 : Int32))).2)) (own_iln X0 q d27_4 rfl (own_aln X0 q d27_5 rfl rfl (own_alen (n := (32 : Int32)) X0 q hZ e0 VA d27_6 (own_cn X0 q d27_7 ((feq ((by decide) : ¬ ((8 : Int32) = (32 : Int32)))).1) (own_aln X0 q d27_10 rfl rfl (own_iln X0 q d27_11 rfl (own_iln X0 q d27_12 rfl ?_))))))))
 refine own_cSh X0 q hZ e0 hown hml (W 161 rfl) (W 162 rfl) (W 159 rfl) (W 163 rfl) (rm28_U4 l Z a0 hw a1 k1 y0 y1 y2 y3 y4 y5 y6 y7 h0 n0 Z0 VA) d27_13 [(.ref a1), v'0, v'8] [] own_pd12 0 (by decide) (fun v695 T695 L695 h695 e695' X695 hQ695 => ?_)
 obtain ⟨b695, k695, rfl, N695q, E695, lo695, V695⟩ := hQ695
 have N695 := Fr.app N0 N695q
 have kp696 := kp0.ext E695
 have sz_b695 : h0.size ≤ b695 := Nat.le_trans kp0.1 lo695
 refine own_nv ?_
 refine own_rA X695 q hrt d27_16 hlk (by decide) ?_
 show QCRU4 Z y0 y1 y2 y3 y4 y5 y6 y7 h0 n0 _ T695.heap _
 rw [e695']
 exact ⟨_, _, rfl, N695, own_extK kp696, sz_b695, V695⟩
theorem rm37_16 (l : Launch) (Z : State) (a0 : Array Value) (hw : own_hw a0 Z)   (h0 : Heap) (n0 : Nat) (Z0 : n0 ≤ h0.size) :
  own_M l Z [] own_y4 b'37 1 (some (.array .byte)) ⟨1, 1, 32, 12⟩ #[v'16] h0 (QNB16 Z h0 n0) := by
 refine own_start (n0 := n0) hw "java/lang/StringUTF16" (L := #[.val v'16]) pn_37 (fun {p e s m below meth c s₁} q hx W hml hZ hown hnm hlk hrt X0 e0 N0 => ?_)
 have kp0 := Keep.refl h0 []
 refine own_iln X0 q d37_0 rfl ?_
 refine own_cS X0 q hZ e0 hown hml (W 198 rfl) (W 199 rfl) (W 184 rfl) (W 200 rfl) (rm38 l Z a0 hw (16 : Int32) (32 : Int32) h0 n0 Z0 (by decide) (by decide) (by decide)) d37_1 [v'16] [] own_pd0 0 (by decide) (fun v701 T701 L701 X701 hQ701 => ?_)
 obtain ⟨rfl, N701q, e701⟩ := hQ701
 have N701 := Fr.app N0 N701q
 refine own_nv ?_
 refine own_let ?_; intro g702_
 obtain ⟨T703, h703, k703, X703, e703, E703, A703, st703⟩ := newP X701 hx hZ (W 21 rfl) e701 (g := g702_) rfl (q.d d37_4) rfl (by decide) (cap := 32) (by decide) (by decide) (by decide) (by decide)
 obtain ⟨b703, g703⟩ : ∃ z, z = h0.size := ⟨_, rfl⟩
 rw [← g703] at A703 st703
 have V703 : Arv Z h703 b703 k703 .byte (32 : Int32) [v'0, v'0, v'0, v'0, v'0, v'0, v'0, v'0, v'0, v'0, v'0, v'0, v'0, v'0, v'0, v'0, v'0, v'0, v'0, v'0, v'0, v'0, v'0, v'0, v'0, v'0, v'0, v'0, v'0, v'0, v'0, v'0] v'0 := (Arv.new A703 (by decide)).pad (pad_rep [] v'0 32)
 have kp704 := kp0.ext E703
 have sz_b703 : h0.size ≤ b703 := Nat.le_trans kp0.1 (Nat.le_of_eq g703.symm)
 refine own_stp 6 st703 ?_
 refine own_rA X703 q hrt d37_6 hlk (by decide) ?_
 show QNB16 Z h0 n0 _ T703.heap _
 rw [e703]
 exact ⟨_, _, rfl, N701, own_extK kp704, sz_b703, V703⟩
theorem d45_0 : own_D b'45 0 (.aload_n 0) 1 1 := by decide +kernel
theorem d45_1 : own_D b'45 1 .arraylength 1 2 := by decide +kernel
theorem d45_2 : own_DK b'45 2 1 3 := by decide +kernel
theorem d45_3 : own_D b'45 3 .ishr 1 4 := by decide +kernel
theorem d45_4 : own_D b'45 4 .ireturn 1 5 := by decide +kernel
theorem pn_45 : plainFor (⟨"java/lang/StringUTF16", "length", "([B)I"⟩ : MethodName) = true := plainFor_of_name (by first | (simp [plainName, overriddenIn]; done) | decide +kernel)
theorem rm45 (l : Launch) (Z : State) (a0 : Array Value) (hw : own_hw a0 Z) (a1 : Addr) (k1 : ClassId) (vs : List Value) (h0 : Heap) (n0 : Nat) (Z0 : n0 ≤ h0.size) (VA : Arv Z h0 a1 k1 .byte (32 : Int32) vs v'0) :
  own_M l Z [] own_y21 b'45 1 (some .int) ⟨0, 0, 0, 0⟩ #[(.ref a1)] h0 (QI (16 : Int32) h0 n0) := by
 refine own_start (n0 := n0) hw "java/lang/StringUTF16" (L := #[.val (.ref a1)]) pn_45 (fun {p e s m below meth c s₁} q hx W hml hZ hown hnm hlk hrt X0 e0 N0 => ?_)
 refine own_aln X0 q d45_0 rfl rfl (own_alen (n := (32 : Int32)) X0 q hZ e0 VA d45_1 (own_k X0 q d45_2 (own_stp 4 (fun _ k => XS.ishr X0.here hx rfl (q.d d45_3) rfl k) ?_)))
 rw [show ((32 : Int32) >>> ((1 : Int32) &&& 31)) = (16 : Int32) from by decide]
 refine own_rI X0 q hrt d45_4 hlk (by decide) ?_
 show QI (16 : Int32) h0 n0 _ s₁.heap _
 rw [e0]
 exact ⟨rfl, N0, rfl⟩
theorem d47_0 : own_D b'47 0 (.iload_n 2) 1 1 := by decide +kernel
theorem d47_1 : own_D b'47 1 (.iload_n 0) 1 2 := by decide +kernel
theorem d47_2 : own_D b'47 2 .ior 1 3 := by decide +kernel
theorem d47_3 : own_D b'47 3 (.iload_n 1) 1 4 := by decide +kernel
theorem d47_4 : own_D b'47 4 .ior 1 5 := by decide +kernel
theorem d47_5 : own_DZ b'47 5 .lt 15 8 := by decide +kernel
theorem d47_8 : own_D b'47 8 (.iload_n 1) 1 9 := by decide +kernel
theorem d47_9 : own_D b'47 9 (.iload_n 2) 1 10 := by decide +kernel
theorem d47_10 : own_D b'47 10 (.iload_n 0) 1 11 := by decide +kernel
theorem d47_11 : own_D b'47 11 .isub 1 12 := by decide +kernel
theorem d47_12 : own_DJ b'47 12 .le 23 15 := by decide +kernel
theorem d47_23 : own_D b'47 23 (.iload_n 0) 1 24 := by decide +kernel
theorem d47_24 : own_D b'47 24 .ireturn 1 25 := by decide +kernel
theorem pn_47 : plainFor (⟨"jdk/internal/util/Preconditions", "checkFromIndexSize", "(IIILjava/util/function/BiFunction;)I"⟩ : MethodName) = true := plainFor_of_name (by first | (simp [plainName, overriddenIn]; done) | decide +kernel)
theorem rm47 (l : Launch) (Z : State) (a0 : Array Value) (hw : own_hw a0 Z) (fo : Value)  (h0 : Heap) (n0 : Nat) (Z0 : n0 ≤ h0.size) (hfo : fo.isRef = true) :
  own_M l Z [] own_y22 b'47 4 (some .int) ⟨0, 0, 0, 0⟩ #[v'0, v'0, v'16, fo] h0 (QI (0 : Int32) h0 n0) := by
 refine own_start (n0 := n0) hw "jdk/internal/util/Preconditions" (L := #[.val v'0, .val v'0, .val v'16, .val fo]) pn_47 (fun {p e s m below meth c s₁} q hx W hml hZ hown hnm hlk hrt X0 e0 N0 => ?_) rfl (fun m => by rcases ref_cases hfo with hv | ⟨_, hv⟩ <;> subst hv <;> first | (simp [entryFrame, mkF, argsToLocals, Value.category]; done) | rfl)
 refine own_iln X0 q d47_0 rfl (own_iln X0 q d47_1 rfl (own_stp 3 (fun _ k => XS.ior X0.here hx rfl (q.d d47_2) rfl k) ?_))
 rw [show ((16 : Int32) ||| (0 : Int32)) = (16 : Int32) from by decide]
 refine own_iln X0 q d47_3 rfl (own_stp 5 (fun _ k => XS.ior X0.here hx rfl (q.d d47_4) rfl k) ?_)
 rw [show ((16 : Int32) ||| (0 : Int32)) = (16 : Int32) from by decide]
 refine own_zn X0 q d47_5 (((if0 _ _).trans (flt ((by decide) : ¬ ((16 : Int32) < (0 : Int32)))).1)) (own_iln X0 q d47_8 rfl (own_iln X0 q d47_9 rfl (own_iln X0 q d47_10 rfl (own_isubk 16 X0 q d47_11 (by decide) (own_cy X0 q d47_12 ((flt ((by decide) : ¬ ((16 : Int32) < (0 : Int32)))).2.2.2) (own_iln X0 q d47_23 rfl ?_))))))
 refine own_rI X0 q hrt d47_24 hlk (by decide) ?_
 show QI (0 : Int32) h0 n0 _ s₁.heap _
 rw [e0]
 exact ⟨rfl, N0, rfl⟩
theorem d46_0 : own_D b'46 0 (.iload_n 0) 1 1 := by decide +kernel
theorem d46_1 : own_D b'46 1 (.iload_n 1) 1 2 := by decide +kernel
theorem d46_2 : own_D b'46 2 (.iload_n 2) 1 3 := by decide +kernel
theorem d46_3 : own_D b'46 3 (.getstatic 1053) 3 6 := by decide +kernel
theorem d46_6 : own_D b'46 6 (.invokestatic 1065) 3 9 := by decide +kernel
theorem d46_9 : own_D b'46 9 .ireturn 1 10 := by decide +kernel
theorem pn_46 : plainFor (⟨"java/lang/String", "checkBoundsOffCount", "(III)I"⟩ : MethodName) = true := plainFor_of_name (by first | (simp [plainName, overriddenIn]; done) | decide +kernel)
theorem rm46 (l : Launch) (Z : State) (a0 : Array Value) (hw : own_hw a0 Z)  (fo : Value) (h0 : Heap) (n0 : Nat) (Z0 : n0 ≤ h0.size) (O0 : Old Z n0 h0) (SIO : Sta Z Z.heap "jdk/internal/util/Preconditions" "SIOOBE_FORMATTER" "Ljava/util/function/BiFunction;" fo) (hfo : fo.isRef = true) :
  own_M l Z [] own_y23 b'46 3 (some .int) ⟨1, 0, 0, 15⟩ #[v'0, v'0, v'16] h0 (QI (0 : Int32) h0 n0) := by
 refine own_start (n0 := n0) hw "java/lang/String" (L := #[.val v'0, .val v'0, .val v'16]) pn_46 (fun {p e s m below meth c s₁} q hx W hml hZ hown hnm hlk hrt X0 e0 N0 => ?_)
 refine own_iln X0 q d46_0 rfl (own_iln X0 q d46_1 rfl (own_iln X0 q d46_2 rfl ?_))
 refine own_gS X0 q hZ e0 hown (W 233 rfl) (SIO.ext O0.2) d46_3 fun T707 X707 e707 => ?_
 refine own_cS X707 q hZ e707 hown hml (W 235 rfl) (W 236 rfl) (W 234 rfl) (W 237 rfl) (rm47 l Z a0 hw fo h0 n0 Z0 hfo) d46_6 [v'0, v'0, v'16, fo] [] own_pd13 0 (by decide) (fun v708 T708 L708 X708 hQ708 => ?_)
 obtain ⟨rfl, N708q, e708⟩ := hQ708
 have N708 := Fr.app N0 N708q
 refine own_nv ?_
 refine own_rI X708 q hrt d46_9 hlk (by decide) ?_
 show QI (0 : Int32) h0 n0 _ T708.heap _
 rw [e708]
 exact ⟨rfl, N708, rfl⟩
theorem d44_0 : own_D b'44 0 (.iload_n 0) 1 1 := by decide +kernel
theorem d44_1 : own_D b'44 1 (.iload_n 1) 1 2 := by decide +kernel
theorem d44_2 : own_D b'44 2 (.aload_n 2) 1 3 := by decide +kernel
theorem d44_3 : own_D b'44 3 (.invokestatic 48) 3 6 := by decide +kernel
theorem d44_6 : own_D b'44 6 (.invokestatic 419) 3 9 := by decide +kernel
theorem d44_9 : own_D b'44 9 .pop 1 10 := by decide +kernel
theorem d44_10 : own_D b'44 10 .return_ 1 11 := by decide +kernel
theorem pn_44 : plainFor (⟨"java/lang/StringUTF16", "checkBoundsOffCount", "(II[B)V"⟩ : MethodName) = true := plainFor_of_name (by first | (simp [plainName, overriddenIn]; done) | decide +kernel)
theorem rm44 (l : Launch) (Z : State) (a0 : Array Value) (hw : own_hw a0 Z) (b : Addr) (k2 : ClassId) (fo : Value) (h0 : Heap) (n0 : Nat) (Z0 : n0 ≤ h0.size) (O0 : Old Z n0 h0) (SIO : Sta Z Z.heap "jdk/internal/util/Preconditions" "SIOOBE_FORMATTER" "Ljava/util/function/BiFunction;" fo) (hfo : fo.isRef = true) (VB : Arv Z h0 b k2 .byte (32 : Int32) [v'0, v'0, v'0, v'0, v'0, v'0, v'0, v'0, v'0, v'0, v'0, v'0, v'0, v'0, v'0, v'0, v'0, v'0, v'0, v'0, v'0, v'0, v'0, v'0, v'0, v'0, v'0, v'0, v'0, v'0, v'0, v'0] v'0) :
  own_M l Z [] own_y24 b'44 3 none ⟨2, 0, 0, 29⟩ #[v'0, v'0, (.ref b)] h0 (QN h0 n0) := by
 refine own_start (n0 := n0) hw "java/lang/StringUTF16" (L := #[.val v'0, .val v'0, .val (.ref b)]) pn_44 (fun {p e s m below meth c s₁} q hx W hml hZ hown hnm hlk hrt X0 e0 N0 => ?_)
 refine own_iln X0 q d44_0 rfl (own_iln X0 q d44_1 rfl (own_aln X0 q d44_2 rfl rfl ?_))
 refine own_cS X0 q hZ e0 hown hml (W 227 rfl) (W 228 rfl) (W 184 rfl) (W 229 rfl) (rm45 l Z a0 hw b k2 _ h0 n0 Z0 VB) d44_3 [(.ref b)] [v'0, v'0] own_pd14 2 (by decide) (fun v711 T711 L711 X711 hQ711 => ?_)
 obtain ⟨rfl, N711q, e711⟩ := hQ711
 have N711 := Fr.app N0 N711q
 refine own_nv ?_
 refine own_cS X711 q hZ e711 hown hml (W 230 rfl) (W 231 rfl) (W 8 rfl) (W 232 rfl) (rm46 l Z a0 hw fo h0 n0 Z0 O0 SIO hfo) d44_6 [v'0, v'0, v'16] [] own_pd15 0 (by decide) (fun v712 T712 L712 X712 hQ712 => ?_)
 obtain ⟨rfl, N712q, e712⟩ := hQ712
 have N712 := Fr.app N711 N712q
 refine own_nv (own_stp 10 (fun _ k => XS.pop X712.here hx rfl (q.d d44_9) rfl rfl k) ?_)
 refine own_rV X712 q hrt d44_10 hlk (by decide) ?_
 show QN h0 n0 _ T712.heap _
 rw [e712]
 exact ⟨rfl, N712, rfl⟩
theorem d43_0 : own_D b'43 0 (.iload_n 3) 1 1 := by decide +kernel
theorem d43_1 : own_D b'43 1 (.iload 4) 2 3 := by decide +kernel
theorem d43_3 : own_D b'43 3 (.aload_n 2) 1 4 := by decide +kernel
theorem d43_4 : own_D b'43 4 (.invokestatic 173) 3 7 := by decide +kernel
theorem d43_7 : own_DK b'43 7 0 8 := by decide +kernel
theorem d43_8 : own_D b'43 8 (.istore 5) 2 10 := by decide +kernel
theorem d43_10 : own_D b'43 10 (.iload 5) 2 12 := by decide +kernel
theorem d43_12 : own_D b'43 12 (.iload 4) 2 14 := by decide +kernel
theorem d43_14 : own_DJ b'43 14 .ge 41 17 := by decide +kernel
theorem d43_41 : own_D b'43 41 .return_ 1 42 := by decide +kernel
theorem pn_43 : plainFor (⟨"java/lang/StringUTF16", "inflate", "([BI[BII)V"⟩ : MethodName) = true := plainFor_of_name (by first | (simp [plainName, overriddenIn]; done) | decide +kernel)
theorem rm43 (l : Launch) (Z : State) (a0 : Array Value) (hw : own_hw a0 Z) (a1 : Addr) (b : Addr) (k2 : ClassId) (fo : Value) (h0 : Heap) (n0 : Nat) (Z0 : n0 ≤ h0.size) (O0 : Old Z n0 h0) (SIO : Sta Z Z.heap "jdk/internal/util/Preconditions" "SIOOBE_FORMATTER" "Ljava/util/function/BiFunction;" fo) (hfo : fo.isRef = true) (VB : Arv Z h0 b k2 .byte (32 : Int32) [v'0, v'0, v'0, v'0, v'0, v'0, v'0, v'0, v'0, v'0, v'0, v'0, v'0, v'0, v'0, v'0, v'0, v'0, v'0, v'0, v'0, v'0, v'0, v'0, v'0, v'0, v'0, v'0, v'0, v'0, v'0, v'0] v'0) :
  own_M l Z [] own_y25 b'43 6 none ⟨3, 0, 0, 43⟩ #[(.ref a1), v'0, (.ref b), v'0, v'0] h0 (QN h0 n0) := by
 refine own_start (n0 := n0) hw "java/lang/StringUTF16" (L := #[.val (.ref a1), .val v'0, .val (.ref b), .val v'0, .val v'0, .unset]) pn_43 (fun {p e s m below meth c s₁} q hx W hml hZ hown hnm hlk hrt X0 e0 N0 => ?_)
 refine own_iln X0 q d43_0 rfl (own_il X0 q d43_1 rfl (own_aln X0 q d43_3 rfl rfl ?_))
 refine own_cS X0 q hZ e0 hown hml (W 224 rfl) (W 225 rfl) (W 184 rfl) (W 226 rfl) (rm44 l Z a0 hw b k2 fo h0 n0 Z0 O0 SIO hfo VB) d43_4 [v'0, v'0, (.ref b)] [] own_pd16 0 (by decide) (fun v714 T714 L714 X714 hQ714 => ?_)
 obtain ⟨rfl, N714q, e714⟩ := hQ714
 have N714 := Fr.app N0 N714q
 refine own_nn (own_k X714 q d43_7 (own_is X714 q d43_8 (l' := #[.val (.ref a1), .val v'0, .val (.ref b), .val v'0, .val v'0, .val v'0]) rfl (own_il X714 q d43_10 rfl (own_il X714 q d43_12 rfl (own_cy X714 q d43_14 ((flt (Int32.lt_irrefl : ¬ ((0 : Int32) < (0 : Int32)))).2.1) ?_)))))
 refine own_rV X714 q hrt d43_41 hlk (by decide) ?_
 show QN h0 n0 _ T714.heap _
 rw [e714]
 exact ⟨rfl, N714, rfl⟩
theorem d42_0 : own_D b'42 0 (.aload_n 0) 1 1 := by decide +kernel
theorem d42_1 : own_D b'42 1 (.iload_n 1) 1 2 := by decide +kernel
theorem d42_2 : own_D b'42 2 (.aload_n 2) 1 3 := by decide +kernel
theorem d42_3 : own_D b'42 3 (.iload_n 3) 1 4 := by decide +kernel
theorem d42_4 : own_D b'42 4 (.iload 4) 2 6 := by decide +kernel
theorem d42_6 : own_D b'42 6 (.invokestatic 240) 3 9 := by decide +kernel
theorem d42_9 : own_D b'42 9 .return_ 1 10 := by decide +kernel
theorem pn_42 : plainFor (⟨"java/lang/StringLatin1", "inflate", "([BI[BII)V"⟩ : MethodName) = true := plainFor_of_name (by first | (simp [plainName, overriddenIn]; done) | decide +kernel)
theorem rm42 (l : Launch) (Z : State) (a0 : Array Value) (hw : own_hw a0 Z) (a1 : Addr) (b : Addr) (k2 : ClassId) (fo : Value) (h0 : Heap) (n0 : Nat) (Z0 : n0 ≤ h0.size) (O0 : Old Z n0 h0) (SIO : Sta Z Z.heap "jdk/internal/util/Preconditions" "SIOOBE_FORMATTER" "Ljava/util/function/BiFunction;" fo) (hfo : fo.isRef = true) (VB : Arv Z h0 b k2 .byte (32 : Int32) [v'0, v'0, v'0, v'0, v'0, v'0, v'0, v'0, v'0, v'0, v'0, v'0, v'0, v'0, v'0, v'0, v'0, v'0, v'0, v'0, v'0, v'0, v'0, v'0, v'0, v'0, v'0, v'0, v'0, v'0, v'0, v'0] v'0) :
  own_M l Z [] own_y26 b'42 5 none ⟨4, 0, 0, 60⟩ #[(.ref a1), v'0, (.ref b), v'0, v'0] h0 (QN h0 n0) := by
 refine own_start (n0 := n0) hw "java/lang/StringLatin1" (L := #[.val (.ref a1), .val v'0, .val (.ref b), .val v'0, .val v'0]) pn_42 (fun {p e s m below meth c s₁} q hx W hml hZ hown hnm hlk hrt X0 e0 N0 => ?_)
 refine own_aln X0 q d42_0 rfl rfl (own_iln X0 q d42_1 rfl (own_aln X0 q d42_2 rfl rfl (own_iln X0 q d42_3 rfl (own_il X0 q d42_4 rfl ?_))))
 refine own_cS X0 q hZ e0 hown hml (W 221 rfl) (W 222 rfl) (W 184 rfl) (W 223 rfl) (rm43 l Z a0 hw a1 b k2 fo h0 n0 Z0 O0 SIO hfo VB) d42_6 [(.ref a1), v'0, (.ref b), v'0, v'0] [] own_pd17 0 (by decide) (fun v716 T716 L716 X716 hQ716 => ?_)
 obtain ⟨rfl, N716q, e716⟩ := hQ716
 have N716 := Fr.app N0 N716q
 refine own_nn ?_
 refine own_rV X716 q hrt d42_9 hlk (by decide) ?_
 show QN h0 n0 _ T716.heap _
 rw [e716]
 exact ⟨rfl, N716, rfl⟩
theorem d41_0 : own_D b'41 0 (.aload_n 0) 1 1 := by decide +kernel
theorem d41_1 : own_D b'41 1 (.invokevirtual 83) 3 4 := by decide +kernel
theorem d41_4 : own_DZ b'41 4 .ne 8 7 := by decide +kernel
theorem d41_8 : own_D b'41 8 (.aload_n 0) 1 9 := by decide +kernel
theorem d41_9 : own_D b'41 9 (.getfield 15) 3 12 := by decide +kernel
theorem d41_12 : own_D b'41 12 .arraylength 1 13 := by decide +kernel
theorem d41_13 : own_D b'41 13 (.invokestatic 26) 3 16 := by decide +kernel
theorem d41_16 : own_D b'41 16 (.astore_n 1) 1 17 := by decide +kernel
theorem d41_17 : own_D b'41 17 (.aload_n 0) 1 18 := by decide +kernel
theorem d41_18 : own_D b'41 18 (.getfield 15) 3 21 := by decide +kernel
theorem d41_21 : own_DK b'41 21 0 22 := by decide +kernel
theorem d41_22 : own_D b'41 22 (.aload_n 1) 1 23 := by decide +kernel
theorem d41_23 : own_DK b'41 23 0 24 := by decide +kernel
theorem d41_24 : own_D b'41 24 (.aload_n 0) 1 25 := by decide +kernel
theorem d41_25 : own_D b'41 25 (.getfield 79) 3 28 := by decide +kernel
theorem d41_28 : own_D b'41 28 (.invokestatic 125) 3 31 := by decide +kernel
theorem d41_31 : own_D b'41 31 (.aload_n 0) 1 32 := by decide +kernel
theorem d41_32 : own_D b'41 32 (.aload_n 1) 1 33 := by decide +kernel
theorem d41_33 : own_D b'41 33 (.putfield 15) 3 36 := by decide +kernel
theorem d41_36 : own_D b'41 36 (.aload_n 0) 1 37 := by decide +kernel
theorem d41_37 : own_DK b'41 37 1 38 := by decide +kernel
theorem d41_38 : own_D b'41 38 (.putfield 22) 3 41 := by decide +kernel
theorem d41_41 : own_D b'41 41 .return_ 1 42 := by decide +kernel
theorem pn_41 : plainFor (⟨"java/lang/AbstractStringBuilder", "inflate", "()V"⟩ : MethodName) = true := plainFor_of_name (by first | (simp [plainName, overriddenIn]; done) | decide +kernel)
theorem rm41 (l : Launch) (Z : State) (a0 : Array Value) (hw : own_hw a0 Z) (a1 : Addr) (v0 : Addr) (k0 : ClassId) (cs0 : Int32) (fo : Value) (h0 : Heap) (n0 : Nat) (Z0 : n0 ≤ h0.size) (O0 : Old Z n0 h0) (SC_ : own_SC Z cs0) (SIO : Sta Z Z.heap "jdk/internal/util/Preconditions" "SIOOBE_FORMATTER" "Ljava/util/function/BiFunction;" fo) (hfo : fo.isRef = true) (E1 : Exa Z h0 a1 "java/lang/StringBuilder") (G0 : F'3 Z h0 a1 (.ref v0)) (G1 : F'2 Z h0 a1 v'0) (G2 : F'4 Z h0 a1 v'0) (G3 : F'5 Z h0 a1 v'0) (VV : Arv Z h0 v0 k0 .byte (16 : Int32) [v'0, v'0, v'0, v'0, v'0, v'0, v'0, v'0, v'0, v'0, v'0, v'0, v'0, v'0, v'0, v'0] v'0) (g1 : n0 ≤ a1) (gv : n0 ≤ v0) (nav : a1 ≠ v0) :
  own_M l Z [] own_y27 b'41 2 none ⟨5, 1, 32, 76⟩ #[(.ref a1)] h0 (QINF Z a1 h0 n0) := by
 obtain ⟨SCS, hcs⟩ := SC_
 refine own_start (n0 := n0) hw "java/lang/AbstractStringBuilder" (L := #[.val (.ref a1), .unset]) pn_41 (fun {p e s m below meth c s₁} q hx W hml hZ hown hnm hlk hrt X0 e0 N0 => ?_)
 have kp0 := Keep.refl h0 [a1]
 refine own_aln X0 q d41_0 rfl rfl ?_
 refine own_cV X0 q hZ e0 hown hml (W 216 rfl) (W 153 rfl) (W 155 rfl) (W 154 rfl) (W 71 rfl) (W 156 rfl) rfl E1 (rm26_0 l Z a0 hw a1 cs0 h0 n0 Z0 O0 ⟨SCS, hcs⟩ G1) d41_1 [] [] own_pd18 0 (by decide) (fun v730 T730 L730 X730 hQ730 => ?_)
 obtain ⟨rfl, N730q, e730⟩ := hQ730
 have N730 := Fr.app N0 N730q
 refine own_nv (own_zy X730 q d41_4 (((if0 _ _).trans (feq ((by decide) : ¬ ((1 : Int32) = (0 : Int32)))).2)) (own_aln X730 q d41_8 rfl rfl ?_))
 refine own_gF X730 q hZ e730 hown (W 75 rfl) G0 d41_9 fun T731 X731 e731 => ?_
 refine own_alen (n := (16 : Int32)) X731 q hZ e731 VV d41_12 ?_
 refine own_cSh X731 q hZ e731 hown hml (W 217 rfl) (W 196 rfl) (W 184 rfl) (W 197 rfl) (rm37_16 l Z a0 hw h0 n0 Z0) d41_13 [v'16] [] own_pd1 0 (by decide) (fun v732 T732 L732 h732 e732' X732 hQ732 => ?_)
 obtain ⟨b732, k732, rfl, N732q, E732, lo732, V732⟩ := hQ732
 have N732 := Fr.app N730 N732q
 have zs733 := Nat.le_trans Z0 E732.1
 have od733 := O0.ext E732
 have kp733 := kp0.ext E732
 have sz_b732 : h0.size ≤ b732 := Nat.le_trans kp0.1 lo732
 refine own_nv (own_asn X732 q d41_16 rfl (l' := #[.val (.ref a1), .val (.ref b732)]) rfl (own_aln X732 q d41_17 rfl rfl ?_))
 refine own_gF X732 q hZ e732' hown (W 75 rfl) (G0.ext E732) d41_18 fun T734 X734 e734 => ?_
 refine own_k X734 q d41_21 (own_aln X734 q d41_22 rfl rfl (own_k X734 q d41_23 (own_aln X734 q d41_24 rfl rfl ?_)))
 refine own_gF X734 q hZ e734 hown (W 100 rfl) (G2.ext E732) d41_25 fun T735 X735 e735 => ?_
 refine own_cS X735 q hZ e735 hown hml (W 218 rfl) (W 219 rfl) (W 175 rfl) (W 220 rfl) (rm42 l Z a0 hw v0 b732 k732 fo h732 n0 zs733 od733 SIO hfo V732) d41_28 [(.ref v0), v'0, (.ref b732), v'0, v'0] [] own_pd17 0 (by decide) (fun v736 T736 L736 X736 hQ736 => ?_)
 obtain ⟨rfl, N736q, e736⟩ := hQ736
 have N736 := Fr.app N732 N736q
 refine own_nn (own_aln X736 q d41_31 rfl rfl (own_aln X736 q d41_32 rfl rfl ?_))
 refine own_let ?_; intro g737_
 obtain ⟨T738, h738, X738, e738, W738, st738⟩ := putF X736 hx hZ hown (host := "") (Or.inl (W 75 rfl)) Via.refl e736 (G0.ext E732) (E1.ext E732) (Or.inl (W 76 rfl)) (W 62 rfl) (ty := (.array .byte)) (by decide) rfl rfl (g := g737_) rfl rfl (q.d d41_33)
 have kp739 := kp733.wr W738 (own_i0)
 have Fw738 := ((G0.ext E732)).same W738
 have N738 := Fr.snoc X738 N736 g1
 refine own_stp 36 st738 (own_aln X738 q d41_36 rfl rfl (own_k X738 q d41_37 ?_))
 refine own_let ?_; intro g740_
 obtain ⟨T741, h741, X741, e741, W741, st741⟩ := putFN X738 hx hZ hown (W 77 rfl) Via.refl e738 ((G1.ext E732).other W738 (Or.inr (slot_ne (Or.inl (W 78 rfl)) (Or.inl (W 76 rfl)) (by decide) (t := .byte) (t' := (.array .byte)) (by decide) (by decide)))) ((E1.ext E732).wr W738) (Or.inl (W 78 rfl)) (W 62 rfl) (ty := .byte) (v' := v'1) (by decide) rfl rfl (g := g740_) rfl rfl (q.d d41_38)
 have kp742 := kp739.wr W741 (own_i0)
 have Fw741 := (((G1.ext E732).other W738 (Or.inr (slot_ne (Or.inl (W 78 rfl)) (Or.inl (W 76 rfl)) (by decide) (t := .byte) (t' := (.array .byte)) (by decide) (by decide))))).same W741
 have N741 := Fr.snoc X741 N738 g1
 refine own_stp 41 st741 ?_
 refine own_rV X741 q hrt d41_41 hlk (by decide) ?_
 show QINF Z a1 h0 n0 _ T741.heap _
 rw [e741]
 exact ⟨_, _, rfl, N741, kp742, sz_b732, (Fw738.other W741 (Or.inr (slot_ne (Or.inl (W 76 rfl)) (Or.inl (W 78 rfl)) (by decide) (t := (.array .byte)) (t' := .byte) (by decide) (by decide)))), Fw741, (((G2.ext E732).other W738 (Or.inr (slot_ne (Or.inl (W 101 rfl)) (Or.inl (W 76 rfl)) (by decide) (t := .int) (t' := (.array .byte)) (by decide) (by decide)))).other W741 (Or.inr (slot_ne (Or.inl (W 101 rfl)) (Or.inl (W 78 rfl)) (by decide) (t := .int) (t' := .byte) (by decide) (by decide)))), (((G3.ext E732).other W738 (Or.inr (slot_ne (Or.inl (W 239 rfl)) (Or.inl (W 76 rfl)) (by decide) (t := .boolean) (t' := (.array .byte)) (by decide) (by decide)))).other W741 (Or.inr (slot_ne (Or.inl (W 239 rfl)) (Or.inl (W 78 rfl)) (by decide) (t := .boolean) (t' := .byte) (by decide) (by decide)))), ((V732.other W738 (Ne.symm (own_ne (E1).lt lo732))).other W741 (Ne.symm (own_ne (E1).lt lo732)))⟩
theorem d16_0 : own_D b'16 0 (.aload_n 0) 1 1 := by decide +kernel
theorem d16_1 : own_D b'16 1 (.getfield 15) 3 4 := by decide +kernel
theorem d16_4 : own_D b'16 4 .arraylength 1 5 := by decide +kernel
theorem d16_5 : own_D b'16 5 (.aload_n 0) 1 6 := by decide +kernel
theorem d16_6 : own_D b'16 6 (.getfield 22) 3 9 := by decide +kernel
theorem d16_9 : own_D b'16 9 .ishr 1 10 := by decide +kernel
theorem d16_10 : own_D b'16 10 (.istore_n 2) 1 11 := by decide +kernel
theorem d16_11 : own_D b'16 11 (.iload_n 1) 1 12 := by decide +kernel
theorem d16_12 : own_D b'16 12 (.iload_n 2) 1 13 := by decide +kernel
theorem d16_13 : own_D b'16 13 .isub 1 14 := by decide +kernel
theorem d16_14 : own_DZ b'16 14 .le 38 17 := by decide +kernel
theorem d16_38 : own_D b'16 38 .return_ 1 39 := by decide +kernel
theorem pn_16 : plainFor (⟨"java/lang/AbstractStringBuilder", "ensureCapacityInternal", "(I)V"⟩ : MethodName) = true := plainFor_of_name (by first | (simp [plainName, overriddenIn]; done) | decide +kernel)
theorem rm16_0 (l : Launch) (Z : State) (a0 : Array Value) (hw : own_hw a0 Z) (a1 : Addr) (v0 : Addr) (k0 : ClassId) (h0 : Heap) (n0 : Nat) (Z0 : n0 ≤ h0.size) (G0 : F'3 Z h0 a1 (.ref v0)) (G1 : F'2 Z h0 a1 v'0) (VV : Arv Z h0 v0 k0 .byte (16 : Int32) [v'0, v'0, v'0, v'0, v'0, v'0, v'0, v'0, v'0, v'0, v'0, v'0, v'0, v'0, v'0, v'0] v'0) :
  own_M l Z [] own_y28 b'16 3 none ⟨0, 0, 0, 0⟩ #[(.ref a1), v'0] h0 (QN h0 n0) := by
 refine own_start (n0 := n0) hw "java/lang/AbstractStringBuilder" (L := #[.val (.ref a1), .val v'0, .unset]) pn_16 (fun {p e s m below meth c s₁} q hx W hml hZ hown hnm hlk hrt X0 e0 N0 => ?_)
 refine own_aln X0 q d16_0 rfl rfl ?_
 refine own_gF X0 q hZ e0 hown (W 75 rfl) G0 d16_1 fun T745 X745 e745 => ?_
 refine own_alen (n := (16 : Int32)) X745 q hZ e745 VV d16_4 (own_aln X745 q d16_5 rfl rfl ?_)
 refine own_gF X745 q hZ e745 hown (W 77 rfl) G1 d16_6 fun T746 X746 e746 => ?_
 refine own_stp 10 (fun _ k => XS.ishr X746.here hx rfl (q.d d16_9) rfl k) ?_
 rw [show ((16 : Int32) >>> ((0 : Int32) &&& 31)) = (16 : Int32) from by decide]
 refine own_isn X746 q d16_10 (l' := #[.val (.ref a1), .val v'0, .val v'16]) rfl (own_iln X746 q d16_11 rfl (own_iln X746 q d16_12 rfl (own_isubk (-16) X746 q d16_13 (by decide) (own_zy X746 q d16_14 (((if0 _ _).trans (flt ((by decide) : ¬ ((0 : Int32) < (-16 : Int32)))).2.2.2)) ?_))))
 refine own_rV X746 q hrt d16_38 hlk (by decide) ?_
 show QN h0 n0 _ T746.heap _
 rw [e746]
 exact ⟨rfl, N0, rfl⟩
theorem rm16_1 (l : Launch) (Z : State) (a0 : Array Value) (hw : own_hw a0 Z) (a1 : Addr) (v0 : Addr) (k0 : ClassId) (h0 : Heap) (n0 : Nat) (Z0 : n0 ≤ h0.size) (G0 : F'3 Z h0 a1 (.ref v0)) (G1 : F'2 Z h0 a1 v'0) (VV : Arv Z h0 v0 k0 .byte (16 : Int32) [v'0, v'0, v'0, v'0, v'0, v'0, v'0, v'0, v'0, v'0, v'0, v'0, v'0, v'0, v'0, v'0] v'0) :
  own_M l Z [] own_y28 b'16 3 none ⟨0, 0, 0, 0⟩ #[(.ref a1), v'1] h0 (QN h0 n0) := by
 refine own_start (n0 := n0) hw "java/lang/AbstractStringBuilder" (L := #[.val (.ref a1), .val v'1, .unset]) pn_16 (fun {p e s m below meth c s₁} q hx W hml hZ hown hnm hlk hrt X0 e0 N0 => ?_)
 refine own_aln X0 q d16_0 rfl rfl ?_
 refine own_gF X0 q hZ e0 hown (W 75 rfl) G0 d16_1 fun T749 X749 e749 => ?_
 refine own_alen (n := (16 : Int32)) X749 q hZ e749 VV d16_4 (own_aln X749 q d16_5 rfl rfl ?_)
 refine own_gF X749 q hZ e749 hown (W 77 rfl) G1 d16_6 fun T750 X750 e750 => ?_
 refine own_stp 10 (fun _ k => XS.ishr X750.here hx rfl (q.d d16_9) rfl k) ?_
 rw [show ((16 : Int32) >>> ((0 : Int32) &&& 31)) = (16 : Int32) from by decide]
 refine own_isn X750 q d16_10 (l' := #[.val (.ref a1), .val v'1, .val v'16]) rfl (own_iln X750 q d16_11 rfl (own_iln X750 q d16_12 rfl (own_isubk (-15) X750 q d16_13 (by decide) (own_zy X750 q d16_14 (((if0 _ _).trans (flt ((by decide) : ¬ ((0 : Int32) < (-15 : Int32)))).2.2.2)) ?_))))
 refine own_rV X750 q hrt d16_38 hlk (by decide) ?_
 show QN h0 n0 _ T750.heap _
 rw [e750]
 exact ⟨rfl, N0, rfl⟩
theorem rm16_2 (l : Launch) (Z : State) (a0 : Array Value) (hw : own_hw a0 Z) (a1 : Addr) (v0 : Addr) (k0 : ClassId) (h0 : Heap) (n0 : Nat) (Z0 : n0 ≤ h0.size) (G0 : F'3 Z h0 a1 (.ref v0)) (G1 : F'2 Z h0 a1 v'0) (VV : Arv Z h0 v0 k0 .byte (16 : Int32) [v'0, v'0, v'0, v'0, v'0, v'0, v'0, v'0, v'0, v'0, v'0, v'0, v'0, v'0, v'0, v'0] v'0) :
  own_M l Z [] own_y28 b'16 3 none ⟨0, 0, 0, 0⟩ #[(.ref a1), v'2] h0 (QN h0 n0) := by
 refine own_start (n0 := n0) hw "java/lang/AbstractStringBuilder" (L := #[.val (.ref a1), .val v'2, .unset]) pn_16 (fun {p e s m below meth c s₁} q hx W hml hZ hown hnm hlk hrt X0 e0 N0 => ?_)
 refine own_aln X0 q d16_0 rfl rfl ?_
 refine own_gF X0 q hZ e0 hown (W 75 rfl) G0 d16_1 fun T753 X753 e753 => ?_
 refine own_alen (n := (16 : Int32)) X753 q hZ e753 VV d16_4 (own_aln X753 q d16_5 rfl rfl ?_)
 refine own_gF X753 q hZ e753 hown (W 77 rfl) G1 d16_6 fun T754 X754 e754 => ?_
 refine own_stp 10 (fun _ k => XS.ishr X754.here hx rfl (q.d d16_9) rfl k) ?_
 rw [show ((16 : Int32) >>> ((0 : Int32) &&& 31)) = (16 : Int32) from by decide]
 refine own_isn X754 q d16_10 (l' := #[.val (.ref a1), .val v'2, .val v'16]) rfl (own_iln X754 q d16_11 rfl (own_iln X754 q d16_12 rfl (own_isubk (-14) X754 q d16_13 (by decide) (own_zy X754 q d16_14 (((if0 _ _).trans (flt ((by decide) : ¬ ((0 : Int32) < (-14 : Int32)))).2.2.2)) ?_))))
 refine own_rV X754 q hrt d16_38 hlk (by decide) ?_
 show QN h0 n0 _ T754.heap _
 rw [e754]
 exact ⟨rfl, N0, rfl⟩
theorem rm16_3 (l : Launch) (Z : State) (a0 : Array Value) (hw : own_hw a0 Z) (a1 : Addr) (v0 : Addr) (k0 : ClassId) (h0 : Heap) (n0 : Nat) (Z0 : n0 ≤ h0.size) (G0 : F'3 Z h0 a1 (.ref v0)) (G1 : F'2 Z h0 a1 v'0) (VV : Arv Z h0 v0 k0 .byte (16 : Int32) [v'0, v'0, v'0, v'0, v'0, v'0, v'0, v'0, v'0, v'0, v'0, v'0, v'0, v'0, v'0, v'0] v'0) :
  own_M l Z [] own_y28 b'16 3 none ⟨0, 0, 0, 0⟩ #[(.ref a1), v'3] h0 (QN h0 n0) := by
 refine own_start (n0 := n0) hw "java/lang/AbstractStringBuilder" (L := #[.val (.ref a1), .val v'3, .unset]) pn_16 (fun {p e s m below meth c s₁} q hx W hml hZ hown hnm hlk hrt X0 e0 N0 => ?_)
 refine own_aln X0 q d16_0 rfl rfl ?_
 refine own_gF X0 q hZ e0 hown (W 75 rfl) G0 d16_1 fun T757 X757 e757 => ?_
 refine own_alen (n := (16 : Int32)) X757 q hZ e757 VV d16_4 (own_aln X757 q d16_5 rfl rfl ?_)
 refine own_gF X757 q hZ e757 hown (W 77 rfl) G1 d16_6 fun T758 X758 e758 => ?_
 refine own_stp 10 (fun _ k => XS.ishr X758.here hx rfl (q.d d16_9) rfl k) ?_
 rw [show ((16 : Int32) >>> ((0 : Int32) &&& 31)) = (16 : Int32) from by decide]
 refine own_isn X758 q d16_10 (l' := #[.val (.ref a1), .val v'3, .val v'16]) rfl (own_iln X758 q d16_11 rfl (own_iln X758 q d16_12 rfl (own_isubk (-13) X758 q d16_13 (by decide) (own_zy X758 q d16_14 (((if0 _ _).trans (flt ((by decide) : ¬ ((0 : Int32) < (-13 : Int32)))).2.2.2)) ?_))))
 refine own_rV X758 q hrt d16_38 hlk (by decide) ?_
 show QN h0 n0 _ T758.heap _
 rw [e758]
 exact ⟨rfl, N0, rfl⟩
theorem rm16_4 (l : Launch) (Z : State) (a0 : Array Value) (hw : own_hw a0 Z) (a1 : Addr) (v0 : Addr) (k0 : ClassId) (h0 : Heap) (n0 : Nat) (Z0 : n0 ≤ h0.size) (G0 : F'3 Z h0 a1 (.ref v0)) (G1 : F'2 Z h0 a1 v'0) (VV : Arv Z h0 v0 k0 .byte (16 : Int32) [v'0, v'0, v'0, v'0, v'0, v'0, v'0, v'0, v'0, v'0, v'0, v'0, v'0, v'0, v'0, v'0] v'0) :
  own_M l Z [] own_y28 b'16 3 none ⟨0, 0, 0, 0⟩ #[(.ref a1), v'4] h0 (QN h0 n0) := by
 refine own_start (n0 := n0) hw "java/lang/AbstractStringBuilder" (L := #[.val (.ref a1), .val v'4, .unset]) pn_16 (fun {p e s m below meth c s₁} q hx W hml hZ hown hnm hlk hrt X0 e0 N0 => ?_)
 refine own_aln X0 q d16_0 rfl rfl ?_
 refine own_gF X0 q hZ e0 hown (W 75 rfl) G0 d16_1 fun T761 X761 e761 => ?_
 refine own_alen (n := (16 : Int32)) X761 q hZ e761 VV d16_4 (own_aln X761 q d16_5 rfl rfl ?_)
 refine own_gF X761 q hZ e761 hown (W 77 rfl) G1 d16_6 fun T762 X762 e762 => ?_
 refine own_stp 10 (fun _ k => XS.ishr X762.here hx rfl (q.d d16_9) rfl k) ?_
 rw [show ((16 : Int32) >>> ((0 : Int32) &&& 31)) = (16 : Int32) from by decide]
 refine own_isn X762 q d16_10 (l' := #[.val (.ref a1), .val v'4, .val v'16]) rfl (own_iln X762 q d16_11 rfl (own_iln X762 q d16_12 rfl (own_isubk (-12) X762 q d16_13 (by decide) (own_zy X762 q d16_14 (((if0 _ _).trans (flt ((by decide) : ¬ ((0 : Int32) < (-12 : Int32)))).2.2.2)) ?_))))
 refine own_rV X762 q hrt d16_38 hlk (by decide) ?_
 show QN h0 n0 _ T762.heap _
 rw [e762]
 exact ⟨rfl, N0, rfl⟩
theorem d19_0 : own_D b'19 0 (.aload_n 0) 1 1 := by decide +kernel
theorem d19_1 : own_D b'19 1 (.invokevirtual 335) 3 4 := by decide +kernel
theorem d19_4 : own_D b'19 4 (.iload_n 3) 1 5 := by decide +kernel
theorem d19_5 : own_DJ b'19 5 .ne 28 8 := by decide +kernel
theorem d19_8 : own_D b'19 8 (.aload_n 0) 1 9 := by decide +kernel
theorem d19_9 : own_D b'19 9 (.getfield 9) 3 12 := by decide +kernel
theorem d19_12 : own_DK b'19 12 0 13 := by decide +kernel
theorem d19_13 : own_D b'19 13 (.aload_n 1) 1 14 := by decide +kernel
theorem d19_14 : own_D b'19 14 (.iload_n 2) 1 15 := by decide +kernel
theorem d19_15 : own_D b'19 15 (.iload_n 3) 1 16 := by decide +kernel
theorem d19_16 : own_D b'19 16 .ishl 1 17 := by decide +kernel
theorem d19_17 : own_D b'19 17 (.aload_n 0) 1 18 := by decide +kernel
theorem d19_18 : own_D b'19 18 (.getfield 9) 3 21 := by decide +kernel
theorem d19_21 : own_D b'19 21 .arraylength 1 22 := by decide +kernel
theorem d19_22 : own_D b'19 22 (.invokestatic 212) 3 25 := by decide +kernel
theorem d19_25 : own_DG b'19 25 43 := by decide +kernel
theorem d19_43 : own_D b'19 43 .return_ 1 44 := by decide +kernel
theorem pn_19 : plainFor (⟨"java/lang/String", "getBytes", "([BIB)V"⟩ : MethodName) = true := plainFor_of_name (by first | (simp [plainName, overriddenIn]; done) | decide +kernel)
theorem rm19_L0 (l : Launch) (Z : State) (a0 : Array Value) (hw : own_hw a0 Z) (a1 : Addr) (d : Addr) (t : Addr) (ks kd : ClassId) (cs0 : Int32) (h0 : Heap) (n0 : Nat) (Z0 : n0 ≤ h0.size) (O0 : Old Z n0 h0) (SC_ : own_SC Z cs0) (ES : Exa Z h0 a1 "java/lang/String") (FC : F'0 Z h0 a1 v'0) (FV : F'1 Z h0 a1 (.ref t)) (VS : Arv Z h0 t ks .byte (0 : Int32) [] v'0) (VD : Arv Z h0 d kd .byte (16 : Int32) [v'0, v'0, v'0, v'0, v'0, v'0, v'0, v'0, v'0, v'0, v'0, v'0, v'0, v'0, v'0, v'0] v'0) (gd : n0 ≤ d) (ntd : t ≠ d) (nad : a1 ≠ d) :
  own_M l Z [] own_y29 b'19 4 none ⟨1, 0, 0, 18⟩ #[(.ref a1), (.ref d), v'0, v'0] h0 (QGBL0 Z d kd  h0 n0) := by
 obtain ⟨SCS, hcs⟩ := SC_
 refine own_start (n0 := n0) hw "java/lang/String" (L := #[.val (.ref a1), .val (.ref d), .val v'0, .val v'0]) pn_19 (fun {p e s m below meth c s₁} q hx W hml hZ hown hnm hlk hrt X0 e0 N0 => ?_)
 have kp0 := Keep.refl h0 [d]
 refine own_aln X0 q d19_0 rfl rfl ?_
 refine own_cV X0 q hZ e0 hown hml (W 94 rfl) (W 95 rfl) (W 97 rfl) (W 96 rfl) (W 8 rfl) (W 98 rfl) rfl ES (rm15_0 l Z a0 hw a1 cs0 h0 n0 Z0 O0 ⟨SCS, hcs⟩ FC) d19_1 [] [] own_pd19 0 (by decide) (fun v768 T768 L768 X768 hQ768 => ?_)
 obtain ⟨rfl, N768q, e768⟩ := hQ768
 have N768 := Fr.app N0 N768q
 refine own_nv (own_iln X768 q d19_4 rfl (own_cn X768 q d19_5 ((teq (rfl : (0 : Int32) = (0 : Int32))).2) (own_aln X768 q d19_8 rfl rfl ?_)))
 refine own_gF X768 q hZ e768 hown (W 26 rfl) FV d19_9 fun T769 X769 e769 => ?_
 refine own_k X769 q d19_12 (own_aln X769 q d19_13 rfl rfl (own_iln X769 q d19_14 rfl (own_iln X769 q d19_15 rfl (own_stp 17 (fun _ k => XS.ishl X769.here hx rfl (q.d d19_16) rfl k) ?_))))
 rw [show ((0 : Int32) <<< ((0 : Int32) &&& 31)) = (0 : Int32) from by decide]
 refine own_aln X769 q d19_17 rfl rfl ?_
 refine own_gF X769 q hZ e769 hown (W 26 rfl) FV d19_18 fun T770 X770 e770 => ?_
 refine own_alen (n := (0 : Int32)) X770 q hZ e770 VS d19_21 ?_
 obtain ⟨T771, h771, L771, X771, e771, N771, K771, V771, st771⟩ := cpA X770 hx hZ hown (W 123 rfl) (W 126 rfl) (W 124 rfl) (W 125 rfl) e770 (sp := (0 : Int32)) (dp := (0 : Int32)) (nn := (0 : Int32)) VS VD (Or.inl ⟨rfl, rfl⟩) (by decide) (by decide) (by decide) (by decide) (by decide) rfl (by decide) N768 gd (g := (mkF m 22 #[.val (.ref a1), .val (.ref d), .val v'0, .val v'0] [v'0, v'0, (.ref d), v'0, (.ref t)])) rfl (by rw [hml]; rfl) rfl (q.d d19_22) (by decide) (W := 0) (by show 2 * 0 + _ ≤ _; exact Nat.le_of_eq rfl) (by decide)
 have V771 : Arv Z h771 d kd .byte (16 : Int32) [v'0, v'0, v'0, v'0, v'0, v'0, v'0, v'0, v'0, v'0, v'0, v'0, v'0, v'0, v'0, v'0] v'0 := V771
 have kp772 := kp0.trans K771 (allS (own_i0) all0)
 refine own_stp 25 st771 (own_gt X771 q d19_25 ?_)
 refine own_rV X771 q hrt d19_43 hlk (by decide) ?_
 show QGBL0 Z d kd  h0 n0 _ T771.heap _
 rw [e771]
 exact ⟨rfl, N771, kp772, V771⟩
theorem d18_0 : own_D b'18 0 (.getstatic 18) 3 3 := by decide +kernel
theorem d18_3 : own_DZ b'18 3 .eq 21 6 := by decide +kernel
theorem d18_6 : own_D b'18 6 (.aload_n 0) 1 7 := by decide +kernel
theorem d18_7 : own_D b'18 7 (.getfield 22) 3 10 := by decide +kernel
theorem d18_10 : own_D b'18 10 (.aload_n 1) 1 11 := by decide +kernel
theorem d18_11 : own_D b'18 11 (.invokevirtual 40) 3 14 := by decide +kernel
theorem d18_14 : own_DJ b'18 14 .eq 21 17 := by decide +kernel
theorem d18_17 : own_D b'18 17 (.aload_n 0) 1 18 := by decide +kernel
theorem d18_18 : own_D b'18 18 (.invokevirtual 195) 3 21 := by decide +kernel
theorem d18_21 : own_D b'18 21 .return_ 1 22 := by decide +kernel
theorem pn_18 : plainFor (⟨"java/lang/AbstractStringBuilder", "inflateIfNeededFor", "(Ljava/lang/String;)V"⟩ : MethodName) = true := plainFor_of_name (by first | (simp [plainName, overriddenIn]; done) | decide +kernel)
theorem rm18_L0 (l : Launch) (Z : State) (a0 : Array Value) (hw : own_hw a0 Z) (a1 : Addr) (a2 : Addr) (cs0 : Int32) (h0 : Heap) (n0 : Nat) (Z0 : n0 ≤ h0.size) (O0 : Old Z n0 h0) (SC_ : own_SC Z cs0) (G1 : F'2 Z h0 a1 v'0) (E2 : Exa Z h0 a2 "java/lang/String") (FC : F'0 Z h0 a2 v'0) :
  own_M l Z [] own_y30 b'18 2 none ⟨1, 0, 0, 13⟩ #[(.ref a1), (.ref a2)] h0 (QN h0 n0) := by
 obtain ⟨SCS, hcs⟩ := SC_
 refine own_start (n0 := n0) hw "java/lang/AbstractStringBuilder" (L := #[.val (.ref a1), .val (.ref a2)]) pn_18 (fun {p e s m below meth c s₁} q hx W hml hZ hown hnm hlk hrt X0 e0 N0 => ?_)
 refine own_gS X0 q hZ e0 hown (W 74 rfl) (SCS.ext O0.2) d18_0 fun T776 X776 e776 => ?_
 refine own_zn X776 q d18_3 (((if0 _ _).trans (feq hcs).1)) (own_aln X776 q d18_6 rfl rfl ?_)
 refine own_gF X776 q hZ e776 hown (W 77 rfl) G1 d18_7 fun T777 X777 e777 => ?_
 refine own_aln X777 q d18_10 rfl rfl ?_
 refine own_cV X777 q hZ e777 hown hml (W 117 rfl) (W 95 rfl) (W 97 rfl) (W 96 rfl) (W 8 rfl) (W 98 rfl) rfl E2 (rm15_0 l Z a0 hw a2 cs0 h0 n0 Z0 O0 ⟨SCS, hcs⟩ FC) d18_11 [] [v'0] own_pd19 1 (by decide) (fun v778 T778 L778 X778 hQ778 => ?_)
 obtain ⟨rfl, N778q, e778⟩ := hQ778
 have N778 := Fr.app N0 N778q
 refine own_nv (own_cy X778 q d18_14 ((teq (rfl : (0 : Int32) = (0 : Int32))).1) ?_)
 refine own_rV X778 q hrt d18_21 hlk (by decide) ?_
 show QN h0 n0 _ T778.heap _
 rw [e778]
 exact ⟨rfl, N778, rfl⟩
theorem rm19_L1 (l : Launch) (Z : State) (a0 : Array Value) (hw : own_hw a0 Z) (a1 : Addr) (d : Addr) (t : Addr) (ks kd : ClassId) (y0 : Int32) (cs0 : Int32) (h0 : Heap) (n0 : Nat) (Z0 : n0 ≤ h0.size) (O0 : Old Z n0 h0) (SC_ : own_SC Z cs0) (ES : Exa Z h0 a1 "java/lang/String") (FC : F'0 Z h0 a1 v'0) (FV : F'1 Z h0 a1 (.ref t)) (VS : Arv Z h0 t ks .byte (1 : Int32) [(.int y0)] v'0) (VD : Arv Z h0 d kd .byte (16 : Int32) [v'0, v'0, v'0, v'0, v'0, v'0, v'0, v'0, v'0, v'0, v'0, v'0, v'0, v'0, v'0, v'0] v'0) (gd : n0 ≤ d) (ntd : t ≠ d) (nad : a1 ≠ d) :
  own_M l Z [] own_y29 b'19 4 none ⟨1, 0, 0, 18⟩ #[(.ref a1), (.ref d), v'0, v'0] h0 (QGBL1 Z d kd y0 h0 n0) := by
 obtain ⟨SCS, hcs⟩ := SC_
 refine own_start (n0 := n0) hw "java/lang/String" (L := #[.val (.ref a1), .val (.ref d), .val v'0, .val v'0]) pn_19 (fun {p e s m below meth c s₁} q hx W hml hZ hown hnm hlk hrt X0 e0 N0 => ?_)
 have kp0 := Keep.refl h0 [d]
 refine own_aln X0 q d19_0 rfl rfl ?_
 refine own_cV X0 q hZ e0 hown hml (W 94 rfl) (W 95 rfl) (W 97 rfl) (W 96 rfl) (W 8 rfl) (W 98 rfl) rfl ES (rm15_0 l Z a0 hw a1 cs0 h0 n0 Z0 O0 ⟨SCS, hcs⟩ FC) d19_1 [] [] own_pd19 0 (by decide) (fun v784 T784 L784 X784 hQ784 => ?_)
 obtain ⟨rfl, N784q, e784⟩ := hQ784
 have N784 := Fr.app N0 N784q
 refine own_nv (own_iln X784 q d19_4 rfl (own_cn X784 q d19_5 ((teq (rfl : (0 : Int32) = (0 : Int32))).2) (own_aln X784 q d19_8 rfl rfl ?_)))
 refine own_gF X784 q hZ e784 hown (W 26 rfl) FV d19_9 fun T785 X785 e785 => ?_
 refine own_k X785 q d19_12 (own_aln X785 q d19_13 rfl rfl (own_iln X785 q d19_14 rfl (own_iln X785 q d19_15 rfl (own_stp 17 (fun _ k => XS.ishl X785.here hx rfl (q.d d19_16) rfl k) ?_))))
 rw [show ((0 : Int32) <<< ((0 : Int32) &&& 31)) = (0 : Int32) from by decide]
 refine own_aln X785 q d19_17 rfl rfl ?_
 refine own_gF X785 q hZ e785 hown (W 26 rfl) FV d19_18 fun T786 X786 e786 => ?_
 refine own_alen (n := (1 : Int32)) X786 q hZ e786 VS d19_21 ?_
 obtain ⟨T787, h787, L787, X787, e787, N787, K787, V787, st787⟩ := cpA X786 hx hZ hown (W 123 rfl) (W 126 rfl) (W 124 rfl) (W 125 rfl) e786 (sp := (0 : Int32)) (dp := (0 : Int32)) (nn := (1 : Int32)) VS VD (Or.inl ⟨rfl, rfl⟩) (by decide) (by decide) (by decide) (by decide) (by decide) rfl (by decide) N784 gd (g := (mkF m 22 #[.val (.ref a1), .val (.ref d), .val v'0, .val v'0] [v'1, v'0, (.ref d), v'0, (.ref t)])) rfl (by rw [hml]; rfl) rfl (q.d d19_22) (by decide) (W := 0) (by show 2 * 0 + _ ≤ _; exact Nat.le_of_eq rfl) (by decide)
 have V787 : Arv Z h787 d kd .byte (16 : Int32) [(.int y0), v'0, v'0, v'0, v'0, v'0, v'0, v'0, v'0, v'0, v'0, v'0, v'0, v'0, v'0, v'0] v'0 := V787
 have kp788 := kp0.trans K787 (allS (own_i0) all0)
 refine own_stp 25 st787 (own_gt X787 q d19_25 ?_)
 refine own_rV X787 q hrt d19_43 hlk (by decide) ?_
 show QGBL1 Z d kd y0 h0 n0 _ T787.heap _
 rw [e787]
 exact ⟨rfl, N787, kp788, V787⟩
theorem rm19_L2 (l : Launch) (Z : State) (a0 : Array Value) (hw : own_hw a0 Z) (a1 : Addr) (d : Addr) (t : Addr) (ks kd : ClassId) (y0 y1 : Int32) (cs0 : Int32) (h0 : Heap) (n0 : Nat) (Z0 : n0 ≤ h0.size) (O0 : Old Z n0 h0) (SC_ : own_SC Z cs0) (ES : Exa Z h0 a1 "java/lang/String") (FC : F'0 Z h0 a1 v'0) (FV : F'1 Z h0 a1 (.ref t)) (VS : Arv Z h0 t ks .byte (2 : Int32) [(.int y0), (.int y1)] v'0) (VD : Arv Z h0 d kd .byte (16 : Int32) [v'0, v'0, v'0, v'0, v'0, v'0, v'0, v'0, v'0, v'0, v'0, v'0, v'0, v'0, v'0, v'0] v'0) (gd : n0 ≤ d) (ntd : t ≠ d) (nad : a1 ≠ d) :
  own_M l Z [] own_y29 b'19 4 none ⟨1, 0, 0, 18⟩ #[(.ref a1), (.ref d), v'0, v'0] h0 (QGBL2 Z d kd y0 y1 h0 n0) := by
 obtain ⟨SCS, hcs⟩ := SC_
 refine own_start (n0 := n0) hw "java/lang/String" (L := #[.val (.ref a1), .val (.ref d), .val v'0, .val v'0]) pn_19 (fun {p e s m below meth c s₁} q hx W hml hZ hown hnm hlk hrt X0 e0 N0 => ?_)
 have kp0 := Keep.refl h0 [d]
 refine own_aln X0 q d19_0 rfl rfl ?_
 refine own_cV X0 q hZ e0 hown hml (W 94 rfl) (W 95 rfl) (W 97 rfl) (W 96 rfl) (W 8 rfl) (W 98 rfl) rfl ES (rm15_0 l Z a0 hw a1 cs0 h0 n0 Z0 O0 ⟨SCS, hcs⟩ FC) d19_1 [] [] own_pd19 0 (by decide) (fun v794 T794 L794 X794 hQ794 => ?_)
 obtain ⟨rfl, N794q, e794⟩ := hQ794
 have N794 := Fr.app N0 N794q
 refine own_nv (own_iln X794 q d19_4 rfl (own_cn X794 q d19_5 ((teq (rfl : (0 : Int32) = (0 : Int32))).2) (own_aln X794 q d19_8 rfl rfl ?_)))
 refine own_gF X794 q hZ e794 hown (W 26 rfl) FV d19_9 fun T795 X795 e795 => ?_
 refine own_k X795 q d19_12 (own_aln X795 q d19_13 rfl rfl (own_iln X795 q d19_14 rfl (own_iln X795 q d19_15 rfl (own_stp 17 (fun _ k => XS.ishl X795.here hx rfl (q.d d19_16) rfl k) ?_))))
 rw [show ((0 : Int32) <<< ((0 : Int32) &&& 31)) = (0 : Int32) from by decide]
 refine own_aln X795 q d19_17 rfl rfl ?_
 refine own_gF X795 q hZ e795 hown (W 26 rfl) FV d19_18 fun T796 X796 e796 => ?_
 refine own_alen (n := (2 : Int32)) X796 q hZ e796 VS d19_21 ?_
 obtain ⟨T797, h797, L797, X797, e797, N797, K797, V797, st797⟩ := cpA X796 hx hZ hown (W 123 rfl) (W 126 rfl) (W 124 rfl) (W 125 rfl) e796 (sp := (0 : Int32)) (dp := (0 : Int32)) (nn := (2 : Int32)) VS VD (Or.inl ⟨rfl, rfl⟩) (by decide) (by decide) (by decide) (by decide) (by decide) rfl (by decide) N794 gd (g := (mkF m 22 #[.val (.ref a1), .val (.ref d), .val v'0, .val v'0] [v'2, v'0, (.ref d), v'0, (.ref t)])) rfl (by rw [hml]; rfl) rfl (q.d d19_22) (by decide) (W := 0) (by show 2 * 0 + _ ≤ _; exact Nat.le_of_eq rfl) (by decide)
 have V797 : Arv Z h797 d kd .byte (16 : Int32) [(.int y0), (.int y1), v'0, v'0, v'0, v'0, v'0, v'0, v'0, v'0, v'0, v'0, v'0, v'0, v'0, v'0] v'0 := V797
 have kp798 := kp0.trans K797 (allS (own_i0) all0)
 refine own_stp 25 st797 (own_gt X797 q d19_25 ?_)
 refine own_rV X797 q hrt d19_43 hlk (by decide) ?_
 show QGBL2 Z d kd y0 y1 h0 n0 _ T797.heap _
 rw [e797]
 exact ⟨rfl, N797, kp798, V797⟩
theorem rm19_L3 (l : Launch) (Z : State) (a0 : Array Value) (hw : own_hw a0 Z) (a1 : Addr) (d : Addr) (t : Addr) (ks kd : ClassId) (y0 y1 y2 : Int32) (cs0 : Int32) (h0 : Heap) (n0 : Nat) (Z0 : n0 ≤ h0.size) (O0 : Old Z n0 h0) (SC_ : own_SC Z cs0) (ES : Exa Z h0 a1 "java/lang/String") (FC : F'0 Z h0 a1 v'0) (FV : F'1 Z h0 a1 (.ref t)) (VS : Arv Z h0 t ks .byte (3 : Int32) [(.int y0), (.int y1), (.int y2)] v'0) (VD : Arv Z h0 d kd .byte (16 : Int32) [v'0, v'0, v'0, v'0, v'0, v'0, v'0, v'0, v'0, v'0, v'0, v'0, v'0, v'0, v'0, v'0] v'0) (gd : n0 ≤ d) (ntd : t ≠ d) (nad : a1 ≠ d) :
  own_M l Z [] own_y29 b'19 4 none ⟨1, 0, 0, 18⟩ #[(.ref a1), (.ref d), v'0, v'0] h0 (QGBL3 Z d kd y0 y1 y2 h0 n0) := by
 obtain ⟨SCS, hcs⟩ := SC_
 refine own_start (n0 := n0) hw "java/lang/String" (L := #[.val (.ref a1), .val (.ref d), .val v'0, .val v'0]) pn_19 (fun {p e s m below meth c s₁} q hx W hml hZ hown hnm hlk hrt X0 e0 N0 => ?_)
 have kp0 := Keep.refl h0 [d]
 refine own_aln X0 q d19_0 rfl rfl ?_
 refine own_cV X0 q hZ e0 hown hml (W 94 rfl) (W 95 rfl) (W 97 rfl) (W 96 rfl) (W 8 rfl) (W 98 rfl) rfl ES (rm15_0 l Z a0 hw a1 cs0 h0 n0 Z0 O0 ⟨SCS, hcs⟩ FC) d19_1 [] [] own_pd19 0 (by decide) (fun v804 T804 L804 X804 hQ804 => ?_)
 obtain ⟨rfl, N804q, e804⟩ := hQ804
 have N804 := Fr.app N0 N804q
 refine own_nv (own_iln X804 q d19_4 rfl (own_cn X804 q d19_5 ((teq (rfl : (0 : Int32) = (0 : Int32))).2) (own_aln X804 q d19_8 rfl rfl ?_)))
 refine own_gF X804 q hZ e804 hown (W 26 rfl) FV d19_9 fun T805 X805 e805 => ?_
 refine own_k X805 q d19_12 (own_aln X805 q d19_13 rfl rfl (own_iln X805 q d19_14 rfl (own_iln X805 q d19_15 rfl (own_stp 17 (fun _ k => XS.ishl X805.here hx rfl (q.d d19_16) rfl k) ?_))))
 rw [show ((0 : Int32) <<< ((0 : Int32) &&& 31)) = (0 : Int32) from by decide]
 refine own_aln X805 q d19_17 rfl rfl ?_
 refine own_gF X805 q hZ e805 hown (W 26 rfl) FV d19_18 fun T806 X806 e806 => ?_
 refine own_alen (n := (3 : Int32)) X806 q hZ e806 VS d19_21 ?_
 obtain ⟨T807, h807, L807, X807, e807, N807, K807, V807, st807⟩ := cpA X806 hx hZ hown (W 123 rfl) (W 126 rfl) (W 124 rfl) (W 125 rfl) e806 (sp := (0 : Int32)) (dp := (0 : Int32)) (nn := (3 : Int32)) VS VD (Or.inl ⟨rfl, rfl⟩) (by decide) (by decide) (by decide) (by decide) (by decide) rfl (by decide) N804 gd (g := (mkF m 22 #[.val (.ref a1), .val (.ref d), .val v'0, .val v'0] [v'3, v'0, (.ref d), v'0, (.ref t)])) rfl (by rw [hml]; rfl) rfl (q.d d19_22) (by decide) (W := 0) (by show 2 * 0 + _ ≤ _; exact Nat.le_of_eq rfl) (by decide)
 have V807 : Arv Z h807 d kd .byte (16 : Int32) [(.int y0), (.int y1), (.int y2), v'0, v'0, v'0, v'0, v'0, v'0, v'0, v'0, v'0, v'0, v'0, v'0, v'0] v'0 := V807
 have kp808 := kp0.trans K807 (allS (own_i0) all0)
 refine own_stp 25 st807 (own_gt X807 q d19_25 ?_)
 refine own_rV X807 q hrt d19_43 hlk (by decide) ?_
 show QGBL3 Z d kd y0 y1 y2 h0 n0 _ T807.heap _
 rw [e807]
 exact ⟨rfl, N807, kp808, V807⟩
theorem rm19_L4 (l : Launch) (Z : State) (a0 : Array Value) (hw : own_hw a0 Z) (a1 : Addr) (d : Addr) (t : Addr) (ks kd : ClassId) (y0 y1 y2 y3 : Int32) (cs0 : Int32) (h0 : Heap) (n0 : Nat) (Z0 : n0 ≤ h0.size) (O0 : Old Z n0 h0) (SC_ : own_SC Z cs0) (ES : Exa Z h0 a1 "java/lang/String") (FC : F'0 Z h0 a1 v'0) (FV : F'1 Z h0 a1 (.ref t)) (VS : Arv Z h0 t ks .byte (4 : Int32) [(.int y0), (.int y1), (.int y2), (.int y3)] v'0) (VD : Arv Z h0 d kd .byte (16 : Int32) [v'0, v'0, v'0, v'0, v'0, v'0, v'0, v'0, v'0, v'0, v'0, v'0, v'0, v'0, v'0, v'0] v'0) (gd : n0 ≤ d) (ntd : t ≠ d) (nad : a1 ≠ d) :
  own_M l Z [] own_y29 b'19 4 none ⟨1, 0, 0, 18⟩ #[(.ref a1), (.ref d), v'0, v'0] h0 (QGBL4 Z d kd y0 y1 y2 y3 h0 n0) := by
 obtain ⟨SCS, hcs⟩ := SC_
 refine own_start (n0 := n0) hw "java/lang/String" (L := #[.val (.ref a1), .val (.ref d), .val v'0, .val v'0]) pn_19 (fun {p e s m below meth c s₁} q hx W hml hZ hown hnm hlk hrt X0 e0 N0 => ?_)
 have kp0 := Keep.refl h0 [d]
 refine own_aln X0 q d19_0 rfl rfl ?_
 refine own_cV X0 q hZ e0 hown hml (W 94 rfl) (W 95 rfl) (W 97 rfl) (W 96 rfl) (W 8 rfl) (W 98 rfl) rfl ES (rm15_0 l Z a0 hw a1 cs0 h0 n0 Z0 O0 ⟨SCS, hcs⟩ FC) d19_1 [] [] own_pd19 0 (by decide) (fun v814 T814 L814 X814 hQ814 => ?_)
 obtain ⟨rfl, N814q, e814⟩ := hQ814
 have N814 := Fr.app N0 N814q
 refine own_nv (own_iln X814 q d19_4 rfl (own_cn X814 q d19_5 ((teq (rfl : (0 : Int32) = (0 : Int32))).2) (own_aln X814 q d19_8 rfl rfl ?_)))
 refine own_gF X814 q hZ e814 hown (W 26 rfl) FV d19_9 fun T815 X815 e815 => ?_
 refine own_k X815 q d19_12 (own_aln X815 q d19_13 rfl rfl (own_iln X815 q d19_14 rfl (own_iln X815 q d19_15 rfl (own_stp 17 (fun _ k => XS.ishl X815.here hx rfl (q.d d19_16) rfl k) ?_))))
 rw [show ((0 : Int32) <<< ((0 : Int32) &&& 31)) = (0 : Int32) from by decide]
 refine own_aln X815 q d19_17 rfl rfl ?_
 refine own_gF X815 q hZ e815 hown (W 26 rfl) FV d19_18 fun T816 X816 e816 => ?_
 refine own_alen (n := (4 : Int32)) X816 q hZ e816 VS d19_21 ?_
 obtain ⟨T817, h817, L817, X817, e817, N817, K817, V817, st817⟩ := cpA X816 hx hZ hown (W 123 rfl) (W 126 rfl) (W 124 rfl) (W 125 rfl) e816 (sp := (0 : Int32)) (dp := (0 : Int32)) (nn := (4 : Int32)) VS VD (Or.inl ⟨rfl, rfl⟩) (by decide) (by decide) (by decide) (by decide) (by decide) rfl (by decide) N814 gd (g := (mkF m 22 #[.val (.ref a1), .val (.ref d), .val v'0, .val v'0] [v'4, v'0, (.ref d), v'0, (.ref t)])) rfl (by rw [hml]; rfl) rfl (q.d d19_22) (by decide) (W := 0) (by show 2 * 0 + _ ≤ _; exact Nat.le_of_eq rfl) (by decide)
 have V817 : Arv Z h817 d kd .byte (16 : Int32) [(.int y0), (.int y1), (.int y2), (.int y3), v'0, v'0, v'0, v'0, v'0, v'0, v'0, v'0, v'0, v'0, v'0, v'0] v'0 := V817
 have kp818 := kp0.trans K817 (allS (own_i0) all0)
 refine own_stp 25 st817 (own_gt X817 q d19_25 ?_)
 refine own_rV X817 q hrt d19_43 hlk (by decide) ?_
 show QGBL4 Z d kd y0 y1 y2 y3 h0 n0 _ T817.heap _
 rw [e817]
 exact ⟨rfl, N817, kp818, V817⟩
theorem rm19_U1 (l : Launch) (Z : State) (a0 : Array Value) (hw : own_hw a0 Z) (a1 : Addr) (d : Addr) (t : Addr) (ks kd : ClassId) (y0 y1 : Int32) (cs0 : Int32) (h0 : Heap) (n0 : Nat) (Z0 : n0 ≤ h0.size) (O0 : Old Z n0 h0) (SC_ : own_SC Z cs0) (ES : Exa Z h0 a1 "java/lang/String") (FC : F'0 Z h0 a1 v'1) (FV : F'1 Z h0 a1 (.ref t)) (VS : Arv Z h0 t ks .byte (2 : Int32) [(.int y0), (.int y1)] v'0) (VD : Arv Z h0 d kd .byte (32 : Int32) [v'0, v'0, v'0, v'0, v'0, v'0, v'0, v'0, v'0, v'0, v'0, v'0, v'0, v'0, v'0, v'0, v'0, v'0, v'0, v'0, v'0, v'0, v'0, v'0, v'0, v'0, v'0, v'0, v'0, v'0, v'0, v'0] v'0) (gd : n0 ≤ d) (ntd : t ≠ d) (nad : a1 ≠ d) :
  own_M l Z [] own_y29 b'19 4 none ⟨1, 0, 0, 18⟩ #[(.ref a1), (.ref d), v'0, v'1] h0 (QGBU1 Z d kd y0 y1 h0 n0) := by
 obtain ⟨SCS, hcs⟩ := SC_
 refine own_start (n0 := n0) hw "java/lang/String" (L := #[.val (.ref a1), .val (.ref d), .val v'0, .val v'1]) pn_19 (fun {p e s m below meth c s₁} q hx W hml hZ hown hnm hlk hrt X0 e0 N0 => ?_)
 have kp0 := Keep.refl h0 [d]
 refine own_aln X0 q d19_0 rfl rfl ?_
 refine own_cV X0 q hZ e0 hown hml (W 94 rfl) (W 95 rfl) (W 97 rfl) (W 96 rfl) (W 8 rfl) (W 98 rfl) rfl ES (rm15_1 l Z a0 hw a1 cs0 h0 n0 Z0 O0 ⟨SCS, hcs⟩ FC) d19_1 [] [] own_pd19 0 (by decide) (fun v824 T824 L824 X824 hQ824 => ?_)
 obtain ⟨rfl, N824q, e824⟩ := hQ824
 have N824 := Fr.app N0 N824q
 refine own_nv (own_iln X824 q d19_4 rfl (own_cn X824 q d19_5 ((teq (rfl : (1 : Int32) = (1 : Int32))).2) (own_aln X824 q d19_8 rfl rfl ?_)))
 refine own_gF X824 q hZ e824 hown (W 26 rfl) FV d19_9 fun T825 X825 e825 => ?_
 refine own_k X825 q d19_12 (own_aln X825 q d19_13 rfl rfl (own_iln X825 q d19_14 rfl (own_iln X825 q d19_15 rfl (own_stp 17 (fun _ k => XS.ishl X825.here hx rfl (q.d d19_16) rfl k) ?_))))
 rw [show ((0 : Int32) <<< ((1 : Int32) &&& 31)) = (0 : Int32) from by decide]
 refine own_aln X825 q d19_17 rfl rfl ?_
 refine own_gF X825 q hZ e825 hown (W 26 rfl) FV d19_18 fun T826 X826 e826 => ?_
 refine own_alen (n := (2 : Int32)) X826 q hZ e826 VS d19_21 ?_
 obtain ⟨T827, h827, L827, X827, e827, N827, K827, V827, st827⟩ := cpA X826 hx hZ hown (W 123 rfl) (W 126 rfl) (W 124 rfl) (W 125 rfl) e826 (sp := (0 : Int32)) (dp := (0 : Int32)) (nn := (2 : Int32)) VS VD (Or.inl ⟨rfl, rfl⟩) (by decide) (by decide) (by decide) (by decide) (by decide) rfl (by decide) N824 gd (g := (mkF m 22 #[.val (.ref a1), .val (.ref d), .val v'0, .val v'1] [v'2, v'0, (.ref d), v'0, (.ref t)])) rfl (by rw [hml]; rfl) rfl (q.d d19_22) (by decide) (W := 0) (by show 2 * 0 + _ ≤ _; exact Nat.le_of_eq rfl) (by decide)
 have V827 : Arv Z h827 d kd .byte (32 : Int32) [(.int y0), (.int y1), v'0, v'0, v'0, v'0, v'0, v'0, v'0, v'0, v'0, v'0, v'0, v'0, v'0, v'0, v'0, v'0, v'0, v'0, v'0, v'0, v'0, v'0, v'0, v'0, v'0, v'0, v'0, v'0, v'0, v'0] v'0 := V827
 have kp828 := kp0.trans K827 (allS (own_i0) all0)
 refine own_stp 25 st827 (own_gt X827 q d19_25 ?_)
 refine own_rV X827 q hrt d19_43 hlk (by decide) ?_
 show QGBU1 Z d kd y0 y1 h0 n0 _ T827.heap _
 rw [e827]
 exact ⟨rfl, N827, kp828, V827⟩
theorem rm18_U (l : Launch) (Z : State) (a0 : Array Value) (hw : own_hw a0 Z) (a1 : Addr) (a2 : Addr) (v0 : Addr) (k0 : ClassId) (cs0 : Int32) (fo : Value) (h0 : Heap) (n0 : Nat) (Z0 : n0 ≤ h0.size) (O0 : Old Z n0 h0) (SC_ : own_SC Z cs0) (SIO : Sta Z Z.heap "jdk/internal/util/Preconditions" "SIOOBE_FORMATTER" "Ljava/util/function/BiFunction;" fo) (hfo : fo.isRef = true) (E1 : Exa Z h0 a1 "java/lang/StringBuilder") (G0 : F'3 Z h0 a1 (.ref v0)) (G1 : F'2 Z h0 a1 v'0) (G2 : F'4 Z h0 a1 v'0) (G3 : F'5 Z h0 a1 v'0) (VV : Arv Z h0 v0 k0 .byte (16 : Int32) [v'0, v'0, v'0, v'0, v'0, v'0, v'0, v'0, v'0, v'0, v'0, v'0, v'0, v'0, v'0, v'0] v'0) (g1 : n0 ≤ a1) (gv : n0 ≤ v0) (nav : a1 ≠ v0) (E2 : Exa Z h0 a2 "java/lang/String") (FC : F'0 Z h0 a2 v'1) :
  own_M l Z [] own_y30 b'18 2 none ⟨6, 1, 32, 89⟩ #[(.ref a1), (.ref a2)] h0 (QINF Z a1 h0 n0) := by
 obtain ⟨SCS, hcs⟩ := SC_
 refine own_start (n0 := n0) hw "java/lang/AbstractStringBuilder" (L := #[.val (.ref a1), .val (.ref a2)]) pn_18 (fun {p e s m below meth c s₁} q hx W hml hZ hown hnm hlk hrt X0 e0 N0 => ?_)
 have kp0 := Keep.refl h0 [a1]
 refine own_gS X0 q hZ e0 hown (W 74 rfl) (SCS.ext O0.2) d18_0 fun T834 X834 e834 => ?_
 refine own_zn X834 q d18_3 (((if0 _ _).trans (feq hcs).1)) (own_aln X834 q d18_6 rfl rfl ?_)
 refine own_gF X834 q hZ e834 hown (W 77 rfl) G1 d18_7 fun T835 X835 e835 => ?_
 refine own_aln X835 q d18_10 rfl rfl ?_
 refine own_cV X835 q hZ e835 hown hml (W 117 rfl) (W 95 rfl) (W 97 rfl) (W 96 rfl) (W 8 rfl) (W 98 rfl) rfl E2 (rm15_1 l Z a0 hw a2 cs0 h0 n0 Z0 O0 ⟨SCS, hcs⟩ FC) d18_11 [] [v'0] own_pd19 1 (by decide) (fun v836 T836 L836 X836 hQ836 => ?_)
 obtain ⟨rfl, N836q, e836⟩ := hQ836
 have N836 := Fr.app N0 N836q
 refine own_nv (own_cn X836 q d18_14 ((feq ((by decide) : ¬ ((0 : Int32) = (1 : Int32)))).1) (own_aln X836 q d18_17 rfl rfl ?_))
 refine own_cPh X836 q hZ e836 hown hml (W 211 rfl) (W 212 rfl) (own_selP (by decide) (mvT hZ (W 214 rfl)) (mvP hZ (W 213 rfl)) (mvT hZ (W 212 rfl))) (W 213 rfl) (W 71 rfl) (W 215 rfl) E1 (rm41 l Z a0 hw a1  v0 k0 cs0 fo h0 n0 Z0 O0 ⟨SCS, hcs⟩ SIO hfo E1 G0 G1 G2 G3 VV g1 gv nav ) d18_18 [] [] own_pd20 0 (by decide) (fun v837 T837 L837 h837 e837' X837 hQ837 => ?_)
 obtain ⟨b837, k837, rfl, N837q, K837, lo837, G837_0, G837_1, G837_2, G837_3, V837⟩ := hQ837
 have N837 := Fr.app N836 N837q
 have kp838 := kp0.trans K837 (allS (own_i0) all0)
 have sz_b837 : h0.size ≤ b837 := Nat.le_trans kp0.1 lo837
 refine own_nn ?_
 refine own_rV X837 q hrt d18_21 hlk (by decide) ?_
 show QINF Z a1 h0 n0 _ T837.heap _
 rw [e837']
 exact ⟨_, _, rfl, N837, kp838, sz_b837, G837_0, G837_1, G837_2, G837_3, V837⟩
theorem rm19_U2 (l : Launch) (Z : State) (a0 : Array Value) (hw : own_hw a0 Z) (a1 : Addr) (d : Addr) (t : Addr) (ks kd : ClassId) (y0 y1 y2 y3 : Int32) (cs0 : Int32) (h0 : Heap) (n0 : Nat) (Z0 : n0 ≤ h0.size) (O0 : Old Z n0 h0) (SC_ : own_SC Z cs0) (ES : Exa Z h0 a1 "java/lang/String") (FC : F'0 Z h0 a1 v'1) (FV : F'1 Z h0 a1 (.ref t)) (VS : Arv Z h0 t ks .byte (4 : Int32) [(.int y0), (.int y1), (.int y2), (.int y3)] v'0) (VD : Arv Z h0 d kd .byte (32 : Int32) [v'0, v'0, v'0, v'0, v'0, v'0, v'0, v'0, v'0, v'0, v'0, v'0, v'0, v'0, v'0, v'0, v'0, v'0, v'0, v'0, v'0, v'0, v'0, v'0, v'0, v'0, v'0, v'0, v'0, v'0, v'0, v'0] v'0) (gd : n0 ≤ d) (ntd : t ≠ d) (nad : a1 ≠ d) :
  own_M l Z [] own_y29 b'19 4 none ⟨1, 0, 0, 18⟩ #[(.ref a1), (.ref d), v'0, v'1] h0 (QGBU2 Z d kd y0 y1 y2 y3 h0 n0) := by
 obtain ⟨SCS, hcs⟩ := SC_
 refine own_start (n0 := n0) hw "java/lang/String" (L := #[.val (.ref a1), .val (.ref d), .val v'0, .val v'1]) pn_19 (fun {p e s m below meth c s₁} q hx W hml hZ hown hnm hlk hrt X0 e0 N0 => ?_)
 have kp0 := Keep.refl h0 [d]
 refine own_aln X0 q d19_0 rfl rfl ?_
 refine own_cV X0 q hZ e0 hown hml (W 94 rfl) (W 95 rfl) (W 97 rfl) (W 96 rfl) (W 8 rfl) (W 98 rfl) rfl ES (rm15_1 l Z a0 hw a1 cs0 h0 n0 Z0 O0 ⟨SCS, hcs⟩ FC) d19_1 [] [] own_pd19 0 (by decide) (fun v844 T844 L844 X844 hQ844 => ?_)
 obtain ⟨rfl, N844q, e844⟩ := hQ844
 have N844 := Fr.app N0 N844q
 refine own_nv (own_iln X844 q d19_4 rfl (own_cn X844 q d19_5 ((teq (rfl : (1 : Int32) = (1 : Int32))).2) (own_aln X844 q d19_8 rfl rfl ?_)))
 refine own_gF X844 q hZ e844 hown (W 26 rfl) FV d19_9 fun T845 X845 e845 => ?_
 refine own_k X845 q d19_12 (own_aln X845 q d19_13 rfl rfl (own_iln X845 q d19_14 rfl (own_iln X845 q d19_15 rfl (own_stp 17 (fun _ k => XS.ishl X845.here hx rfl (q.d d19_16) rfl k) ?_))))
 rw [show ((0 : Int32) <<< ((1 : Int32) &&& 31)) = (0 : Int32) from by decide]
 refine own_aln X845 q d19_17 rfl rfl ?_
 refine own_gF X845 q hZ e845 hown (W 26 rfl) FV d19_18 fun T846 X846 e846 => ?_
 refine own_alen (n := (4 : Int32)) X846 q hZ e846 VS d19_21 ?_
 obtain ⟨T847, h847, L847, X847, e847, N847, K847, V847, st847⟩ := cpA X846 hx hZ hown (W 123 rfl) (W 126 rfl) (W 124 rfl) (W 125 rfl) e846 (sp := (0 : Int32)) (dp := (0 : Int32)) (nn := (4 : Int32)) VS VD (Or.inl ⟨rfl, rfl⟩) (by decide) (by decide) (by decide) (by decide) (by decide) rfl (by decide) N844 gd (g := (mkF m 22 #[.val (.ref a1), .val (.ref d), .val v'0, .val v'1] [v'4, v'0, (.ref d), v'0, (.ref t)])) rfl (by rw [hml]; rfl) rfl (q.d d19_22) (by decide) (W := 0) (by show 2 * 0 + _ ≤ _; exact Nat.le_of_eq rfl) (by decide)
 have V847 : Arv Z h847 d kd .byte (32 : Int32) [(.int y0), (.int y1), (.int y2), (.int y3), v'0, v'0, v'0, v'0, v'0, v'0, v'0, v'0, v'0, v'0, v'0, v'0, v'0, v'0, v'0, v'0, v'0, v'0, v'0, v'0, v'0, v'0, v'0, v'0, v'0, v'0, v'0, v'0] v'0 := V847
 have kp848 := kp0.trans K847 (allS (own_i0) all0)
 refine own_stp 25 st847 (own_gt X847 q d19_25 ?_)
 refine own_rV X847 q hrt d19_43 hlk (by decide) ?_
 show QGBU2 Z d kd y0 y1 y2 y3 h0 n0 _ T847.heap _
 rw [e847]
 exact ⟨rfl, N847, kp848, V847⟩
theorem rm19_U3 (l : Launch) (Z : State) (a0 : Array Value) (hw : own_hw a0 Z) (a1 : Addr) (d : Addr) (t : Addr) (ks kd : ClassId) (y0 y1 y2 y3 y4 y5 : Int32) (cs0 : Int32) (h0 : Heap) (n0 : Nat) (Z0 : n0 ≤ h0.size) (O0 : Old Z n0 h0) (SC_ : own_SC Z cs0) (ES : Exa Z h0 a1 "java/lang/String") (FC : F'0 Z h0 a1 v'1) (FV : F'1 Z h0 a1 (.ref t)) (VS : Arv Z h0 t ks .byte (6 : Int32) [(.int y0), (.int y1), (.int y2), (.int y3), (.int y4), (.int y5)] v'0) (VD : Arv Z h0 d kd .byte (32 : Int32) [v'0, v'0, v'0, v'0, v'0, v'0, v'0, v'0, v'0, v'0, v'0, v'0, v'0, v'0, v'0, v'0, v'0, v'0, v'0, v'0, v'0, v'0, v'0, v'0, v'0, v'0, v'0, v'0, v'0, v'0, v'0, v'0] v'0) (gd : n0 ≤ d) (ntd : t ≠ d) (nad : a1 ≠ d) :
  own_M l Z [] own_y29 b'19 4 none ⟨1, 0, 0, 18⟩ #[(.ref a1), (.ref d), v'0, v'1] h0 (QGBU3 Z d kd y0 y1 y2 y3 y4 y5 h0 n0) := by
 obtain ⟨SCS, hcs⟩ := SC_
 refine own_start (n0 := n0) hw "java/lang/String" (L := #[.val (.ref a1), .val (.ref d), .val v'0, .val v'1]) pn_19 (fun {p e s m below meth c s₁} q hx W hml hZ hown hnm hlk hrt X0 e0 N0 => ?_)
 have kp0 := Keep.refl h0 [d]
 refine own_aln X0 q d19_0 rfl rfl ?_
 refine own_cV X0 q hZ e0 hown hml (W 94 rfl) (W 95 rfl) (W 97 rfl) (W 96 rfl) (W 8 rfl) (W 98 rfl) rfl ES (rm15_1 l Z a0 hw a1 cs0 h0 n0 Z0 O0 ⟨SCS, hcs⟩ FC) d19_1 [] [] own_pd19 0 (by decide) (fun v854 T854 L854 X854 hQ854 => ?_)
 obtain ⟨rfl, N854q, e854⟩ := hQ854
 have N854 := Fr.app N0 N854q
 refine own_nv (own_iln X854 q d19_4 rfl (own_cn X854 q d19_5 ((teq (rfl : (1 : Int32) = (1 : Int32))).2) (own_aln X854 q d19_8 rfl rfl ?_)))
 refine own_gF X854 q hZ e854 hown (W 26 rfl) FV d19_9 fun T855 X855 e855 => ?_
 refine own_k X855 q d19_12 (own_aln X855 q d19_13 rfl rfl (own_iln X855 q d19_14 rfl (own_iln X855 q d19_15 rfl (own_stp 17 (fun _ k => XS.ishl X855.here hx rfl (q.d d19_16) rfl k) ?_))))
 rw [show ((0 : Int32) <<< ((1 : Int32) &&& 31)) = (0 : Int32) from by decide]
 refine own_aln X855 q d19_17 rfl rfl ?_
 refine own_gF X855 q hZ e855 hown (W 26 rfl) FV d19_18 fun T856 X856 e856 => ?_
 refine own_alen (n := (6 : Int32)) X856 q hZ e856 VS d19_21 ?_
 obtain ⟨T857, h857, L857, X857, e857, N857, K857, V857, st857⟩ := cpA X856 hx hZ hown (W 123 rfl) (W 126 rfl) (W 124 rfl) (W 125 rfl) e856 (sp := (0 : Int32)) (dp := (0 : Int32)) (nn := (6 : Int32)) VS VD (Or.inl ⟨rfl, rfl⟩) (by decide) (by decide) (by decide) (by decide) (by decide) rfl (by decide) N854 gd (g := (mkF m 22 #[.val (.ref a1), .val (.ref d), .val v'0, .val v'1] [v'6, v'0, (.ref d), v'0, (.ref t)])) rfl (by rw [hml]; rfl) rfl (q.d d19_22) (by decide) (W := 0) (by show 2 * 0 + _ ≤ _; exact Nat.le_of_eq rfl) (by decide)
 have V857 : Arv Z h857 d kd .byte (32 : Int32) [(.int y0), (.int y1), (.int y2), (.int y3), (.int y4), (.int y5), v'0, v'0, v'0, v'0, v'0, v'0, v'0, v'0, v'0, v'0, v'0, v'0, v'0, v'0, v'0, v'0, v'0, v'0, v'0, v'0, v'0, v'0, v'0, v'0, v'0, v'0] v'0 := V857
 have kp858 := kp0.trans K857 (allS (own_i0) all0)
 refine own_stp 25 st857 (own_gt X857 q d19_25 ?_)
 refine own_rV X857 q hrt d19_43 hlk (by decide) ?_
 show QGBU3 Z d kd y0 y1 y2 y3 y4 y5 h0 n0 _ T857.heap _
 rw [e857]
 exact ⟨rfl, N857, kp858, V857⟩
theorem rm19_U4 (l : Launch) (Z : State) (a0 : Array Value) (hw : own_hw a0 Z) (a1 : Addr) (d : Addr) (t : Addr) (ks kd : ClassId) (y0 y1 y2 y3 y4 y5 y6 y7 : Int32) (cs0 : Int32) (h0 : Heap) (n0 : Nat) (Z0 : n0 ≤ h0.size) (O0 : Old Z n0 h0) (SC_ : own_SC Z cs0) (ES : Exa Z h0 a1 "java/lang/String") (FC : F'0 Z h0 a1 v'1) (FV : F'1 Z h0 a1 (.ref t)) (VS : Arv Z h0 t ks .byte (8 : Int32) [(.int y0), (.int y1), (.int y2), (.int y3), (.int y4), (.int y5), (.int y6), (.int y7)] v'0) (VD : Arv Z h0 d kd .byte (32 : Int32) [v'0, v'0, v'0, v'0, v'0, v'0, v'0, v'0, v'0, v'0, v'0, v'0, v'0, v'0, v'0, v'0, v'0, v'0, v'0, v'0, v'0, v'0, v'0, v'0, v'0, v'0, v'0, v'0, v'0, v'0, v'0, v'0] v'0) (gd : n0 ≤ d) (ntd : t ≠ d) (nad : a1 ≠ d) :
  own_M l Z [] own_y29 b'19 4 none ⟨1, 0, 0, 18⟩ #[(.ref a1), (.ref d), v'0, v'1] h0 (QGBU4 Z d kd y0 y1 y2 y3 y4 y5 y6 y7 h0 n0) := by
 obtain ⟨SCS, hcs⟩ := SC_
 refine own_start (n0 := n0) hw "java/lang/String" (L := #[.val (.ref a1), .val (.ref d), .val v'0, .val v'1]) pn_19 (fun {p e s m below meth c s₁} q hx W hml hZ hown hnm hlk hrt X0 e0 N0 => ?_)
 have kp0 := Keep.refl h0 [d]
 refine own_aln X0 q d19_0 rfl rfl ?_
 refine own_cV X0 q hZ e0 hown hml (W 94 rfl) (W 95 rfl) (W 97 rfl) (W 96 rfl) (W 8 rfl) (W 98 rfl) rfl ES (rm15_1 l Z a0 hw a1 cs0 h0 n0 Z0 O0 ⟨SCS, hcs⟩ FC) d19_1 [] [] own_pd19 0 (by decide) (fun v864 T864 L864 X864 hQ864 => ?_)
 obtain ⟨rfl, N864q, e864⟩ := hQ864
 have N864 := Fr.app N0 N864q
 refine own_nv (own_iln X864 q d19_4 rfl (own_cn X864 q d19_5 ((teq (rfl : (1 : Int32) = (1 : Int32))).2) (own_aln X864 q d19_8 rfl rfl ?_)))
 refine own_gF X864 q hZ e864 hown (W 26 rfl) FV d19_9 fun T865 X865 e865 => ?_
 refine own_k X865 q d19_12 (own_aln X865 q d19_13 rfl rfl (own_iln X865 q d19_14 rfl (own_iln X865 q d19_15 rfl (own_stp 17 (fun _ k => XS.ishl X865.here hx rfl (q.d d19_16) rfl k) ?_))))
 rw [show ((0 : Int32) <<< ((1 : Int32) &&& 31)) = (0 : Int32) from by decide]
 refine own_aln X865 q d19_17 rfl rfl ?_
 refine own_gF X865 q hZ e865 hown (W 26 rfl) FV d19_18 fun T866 X866 e866 => ?_
 refine own_alen (n := (8 : Int32)) X866 q hZ e866 VS d19_21 ?_
 obtain ⟨T867, h867, L867, X867, e867, N867, K867, V867, st867⟩ := cpA X866 hx hZ hown (W 123 rfl) (W 126 rfl) (W 124 rfl) (W 125 rfl) e866 (sp := (0 : Int32)) (dp := (0 : Int32)) (nn := (8 : Int32)) VS VD (Or.inl ⟨rfl, rfl⟩) (by decide) (by decide) (by decide) (by decide) (by decide) rfl (by decide) N864 gd (g := (mkF m 22 #[.val (.ref a1), .val (.ref d), .val v'0, .val v'1] [v'8, v'0, (.ref d), v'0, (.ref t)])) rfl (by rw [hml]; rfl) rfl (q.d d19_22) (by decide) (W := 0) (by show 2 * 0 + _ ≤ _; exact Nat.le_of_eq rfl) (by decide)
 have V867 : Arv Z h867 d kd .byte (32 : Int32) [(.int y0), (.int y1), (.int y2), (.int y3), (.int y4), (.int y5), (.int y6), (.int y7), v'0, v'0, v'0, v'0, v'0, v'0, v'0, v'0, v'0, v'0, v'0, v'0, v'0, v'0, v'0, v'0, v'0, v'0, v'0, v'0, v'0, v'0, v'0, v'0] v'0 := V867
 have kp868 := kp0.trans K867 (allS (own_i0) all0)
 refine own_stp 25 st867 (own_gt X867 q d19_25 ?_)
 refine own_rV X867 q hrt d19_43 hlk (by decide) ?_
 show QGBU4 Z d kd y0 y1 y2 y3 y4 y5 y6 y7 h0 n0 _ T867.heap _
 rw [e867]
 exact ⟨rfl, N867, kp868, V867⟩
theorem d14_0 : own_D b'14 0 (.aload_n 0) 1 1 := by decide +kernel
theorem d14_1 : own_D b'14 1 (.getfield 9) 3 4 := by decide +kernel
theorem d14_4 : own_D b'14 4 .arraylength 1 5 := by decide +kernel
theorem d14_5 : own_D b'14 5 (.aload_n 0) 1 6 := by decide +kernel
theorem d14_6 : own_D b'14 6 (.invokevirtual 335) 3 9 := by decide +kernel
theorem d14_9 : own_D b'14 9 .ishr 1 10 := by decide +kernel
theorem d14_10 : own_D b'14 10 .ireturn 1 11 := by decide +kernel
theorem pn_14 : plainFor (⟨"java/lang/String", "length", "()I"⟩ : MethodName) = true := plainFor_of_name (by first | (simp [plainName, overriddenIn]; done) | decide +kernel)
theorem rm14_L0 (l : Launch) (Z : State) (a0 : Array Value) (hw : own_hw a0 Z) (a1 : Addr) (t : Addr) (ks : ClassId) (cs0 : Int32) (h0 : Heap) (n0 : Nat) (Z0 : n0 ≤ h0.size) (O0 : Old Z n0 h0) (SC_ : own_SC Z cs0) (ES : Exa Z h0 a1 "java/lang/String") (FC : F'0 Z h0 a1 v'0) (FV : F'1 Z h0 a1 (.ref t)) (VS : Arv Z h0 t ks .byte (0 : Int32) [] v'0) :
  own_M l Z [] own_y31 b'14 1 (some .int) ⟨1, 0, 0, 13⟩ #[(.ref a1)] h0 (QI (0 : Int32) h0 n0) := by
 obtain ⟨SCS, hcs⟩ := SC_
 refine own_start (n0 := n0) hw "java/lang/String" (L := #[.val (.ref a1)]) pn_14 (fun {p e s m below meth c s₁} q hx W hml hZ hown hnm hlk hrt X0 e0 N0 => ?_)
 refine own_aln X0 q d14_0 rfl rfl ?_
 refine own_gF X0 q hZ e0 hown (W 26 rfl) FV d14_1 fun T871 X871 e871 => ?_
 refine own_alen (n := (0 : Int32)) X871 q hZ e871 VS d14_4 (own_aln X871 q d14_5 rfl rfl ?_)
 refine own_cV X871 q hZ e871 hown hml (W 94 rfl) (W 95 rfl) (W 97 rfl) (W 96 rfl) (W 8 rfl) (W 98 rfl) rfl ES (rm15_0 l Z a0 hw a1 cs0 h0 n0 Z0 O0 ⟨SCS, hcs⟩ FC) d14_6 [] [v'0] own_pd19 1 (by decide) (fun v872 T872 L872 X872 hQ872 => ?_)
 obtain ⟨rfl, N872q, e872⟩ := hQ872
 have N872 := Fr.app N0 N872q
 refine own_nv (own_stp 10 (fun _ k => XS.ishr X872.here hx rfl (q.d d14_9) rfl k) ?_)
 rw [show ((0 : Int32) >>> ((0 : Int32) &&& 31)) = (0 : Int32) from by decide]
 refine own_rI X872 q hrt d14_10 hlk (by decide) ?_
 show QI (0 : Int32) h0 n0 _ T872.heap _
 rw [e872]
 exact ⟨rfl, N872, rfl⟩
theorem rm14_L1 (l : Launch) (Z : State) (a0 : Array Value) (hw : own_hw a0 Z) (a1 : Addr) (t : Addr) (ks : ClassId) (y0 : Int32) (cs0 : Int32) (h0 : Heap) (n0 : Nat) (Z0 : n0 ≤ h0.size) (O0 : Old Z n0 h0) (SC_ : own_SC Z cs0) (ES : Exa Z h0 a1 "java/lang/String") (FC : F'0 Z h0 a1 v'0) (FV : F'1 Z h0 a1 (.ref t)) (VS : Arv Z h0 t ks .byte (1 : Int32) [(.int y0)] v'0) :
  own_M l Z [] own_y31 b'14 1 (some .int) ⟨1, 0, 0, 13⟩ #[(.ref a1)] h0 (QI (1 : Int32) h0 n0) := by
 obtain ⟨SCS, hcs⟩ := SC_
 refine own_start (n0 := n0) hw "java/lang/String" (L := #[.val (.ref a1)]) pn_14 (fun {p e s m below meth c s₁} q hx W hml hZ hown hnm hlk hrt X0 e0 N0 => ?_)
 refine own_aln X0 q d14_0 rfl rfl ?_
 refine own_gF X0 q hZ e0 hown (W 26 rfl) FV d14_1 fun T875 X875 e875 => ?_
 refine own_alen (n := (1 : Int32)) X875 q hZ e875 VS d14_4 (own_aln X875 q d14_5 rfl rfl ?_)
 refine own_cV X875 q hZ e875 hown hml (W 94 rfl) (W 95 rfl) (W 97 rfl) (W 96 rfl) (W 8 rfl) (W 98 rfl) rfl ES (rm15_0 l Z a0 hw a1 cs0 h0 n0 Z0 O0 ⟨SCS, hcs⟩ FC) d14_6 [] [v'1] own_pd19 1 (by decide) (fun v876 T876 L876 X876 hQ876 => ?_)
 obtain ⟨rfl, N876q, e876⟩ := hQ876
 have N876 := Fr.app N0 N876q
 refine own_nv (own_stp 10 (fun _ k => XS.ishr X876.here hx rfl (q.d d14_9) rfl k) ?_)
 rw [show ((1 : Int32) >>> ((0 : Int32) &&& 31)) = (1 : Int32) from by decide]
 refine own_rI X876 q hrt d14_10 hlk (by decide) ?_
 show QI (1 : Int32) h0 n0 _ T876.heap _
 rw [e876]
 exact ⟨rfl, N876, rfl⟩
theorem rm14_L2 (l : Launch) (Z : State) (a0 : Array Value) (hw : own_hw a0 Z) (a1 : Addr) (t : Addr) (ks : ClassId) (y0 y1 : Int32) (cs0 : Int32) (h0 : Heap) (n0 : Nat) (Z0 : n0 ≤ h0.size) (O0 : Old Z n0 h0) (SC_ : own_SC Z cs0) (ES : Exa Z h0 a1 "java/lang/String") (FC : F'0 Z h0 a1 v'0) (FV : F'1 Z h0 a1 (.ref t)) (VS : Arv Z h0 t ks .byte (2 : Int32) [(.int y0), (.int y1)] v'0) :
  own_M l Z [] own_y31 b'14 1 (some .int) ⟨1, 0, 0, 13⟩ #[(.ref a1)] h0 (QI (2 : Int32) h0 n0) := by
 obtain ⟨SCS, hcs⟩ := SC_
 refine own_start (n0 := n0) hw "java/lang/String" (L := #[.val (.ref a1)]) pn_14 (fun {p e s m below meth c s₁} q hx W hml hZ hown hnm hlk hrt X0 e0 N0 => ?_)
 refine own_aln X0 q d14_0 rfl rfl ?_
 refine own_gF X0 q hZ e0 hown (W 26 rfl) FV d14_1 fun T879 X879 e879 => ?_
 refine own_alen (n := (2 : Int32)) X879 q hZ e879 VS d14_4 (own_aln X879 q d14_5 rfl rfl ?_)
 refine own_cV X879 q hZ e879 hown hml (W 94 rfl) (W 95 rfl) (W 97 rfl) (W 96 rfl) (W 8 rfl) (W 98 rfl) rfl ES (rm15_0 l Z a0 hw a1 cs0 h0 n0 Z0 O0 ⟨SCS, hcs⟩ FC) d14_6 [] [v'2] own_pd19 1 (by decide) (fun v880 T880 L880 X880 hQ880 => ?_)
 obtain ⟨rfl, N880q, e880⟩ := hQ880
 have N880 := Fr.app N0 N880q
 refine own_nv (own_stp 10 (fun _ k => XS.ishr X880.here hx rfl (q.d d14_9) rfl k) ?_)
 rw [show ((2 : Int32) >>> ((0 : Int32) &&& 31)) = (2 : Int32) from by decide]
 refine own_rI X880 q hrt d14_10 hlk (by decide) ?_
 show QI (2 : Int32) h0 n0 _ T880.heap _
 rw [e880]
 exact ⟨rfl, N880, rfl⟩
theorem rm14_L3 (l : Launch) (Z : State) (a0 : Array Value) (hw : own_hw a0 Z) (a1 : Addr) (t : Addr) (ks : ClassId) (y0 y1 y2 : Int32) (cs0 : Int32) (h0 : Heap) (n0 : Nat) (Z0 : n0 ≤ h0.size) (O0 : Old Z n0 h0) (SC_ : own_SC Z cs0) (ES : Exa Z h0 a1 "java/lang/String") (FC : F'0 Z h0 a1 v'0) (FV : F'1 Z h0 a1 (.ref t)) (VS : Arv Z h0 t ks .byte (3 : Int32) [(.int y0), (.int y1), (.int y2)] v'0) :
  own_M l Z [] own_y31 b'14 1 (some .int) ⟨1, 0, 0, 13⟩ #[(.ref a1)] h0 (QI (3 : Int32) h0 n0) := by
 obtain ⟨SCS, hcs⟩ := SC_
 refine own_start (n0 := n0) hw "java/lang/String" (L := #[.val (.ref a1)]) pn_14 (fun {p e s m below meth c s₁} q hx W hml hZ hown hnm hlk hrt X0 e0 N0 => ?_)
 refine own_aln X0 q d14_0 rfl rfl ?_
 refine own_gF X0 q hZ e0 hown (W 26 rfl) FV d14_1 fun T883 X883 e883 => ?_
 refine own_alen (n := (3 : Int32)) X883 q hZ e883 VS d14_4 (own_aln X883 q d14_5 rfl rfl ?_)
 refine own_cV X883 q hZ e883 hown hml (W 94 rfl) (W 95 rfl) (W 97 rfl) (W 96 rfl) (W 8 rfl) (W 98 rfl) rfl ES (rm15_0 l Z a0 hw a1 cs0 h0 n0 Z0 O0 ⟨SCS, hcs⟩ FC) d14_6 [] [v'3] own_pd19 1 (by decide) (fun v884 T884 L884 X884 hQ884 => ?_)
 obtain ⟨rfl, N884q, e884⟩ := hQ884
 have N884 := Fr.app N0 N884q
 refine own_nv (own_stp 10 (fun _ k => XS.ishr X884.here hx rfl (q.d d14_9) rfl k) ?_)
 rw [show ((3 : Int32) >>> ((0 : Int32) &&& 31)) = (3 : Int32) from by decide]
 refine own_rI X884 q hrt d14_10 hlk (by decide) ?_
 show QI (3 : Int32) h0 n0 _ T884.heap _
 rw [e884]
 exact ⟨rfl, N884, rfl⟩
theorem rm14_L4 (l : Launch) (Z : State) (a0 : Array Value) (hw : own_hw a0 Z) (a1 : Addr) (t : Addr) (ks : ClassId) (y0 y1 y2 y3 : Int32) (cs0 : Int32) (h0 : Heap) (n0 : Nat) (Z0 : n0 ≤ h0.size) (O0 : Old Z n0 h0) (SC_ : own_SC Z cs0) (ES : Exa Z h0 a1 "java/lang/String") (FC : F'0 Z h0 a1 v'0) (FV : F'1 Z h0 a1 (.ref t)) (VS : Arv Z h0 t ks .byte (4 : Int32) [(.int y0), (.int y1), (.int y2), (.int y3)] v'0) :
  own_M l Z [] own_y31 b'14 1 (some .int) ⟨1, 0, 0, 13⟩ #[(.ref a1)] h0 (QI (4 : Int32) h0 n0) := by
 obtain ⟨SCS, hcs⟩ := SC_
 refine own_start (n0 := n0) hw "java/lang/String" (L := #[.val (.ref a1)]) pn_14 (fun {p e s m below meth c s₁} q hx W hml hZ hown hnm hlk hrt X0 e0 N0 => ?_)
 refine own_aln X0 q d14_0 rfl rfl ?_
 refine own_gF X0 q hZ e0 hown (W 26 rfl) FV d14_1 fun T887 X887 e887 => ?_
 refine own_alen (n := (4 : Int32)) X887 q hZ e887 VS d14_4 (own_aln X887 q d14_5 rfl rfl ?_)
 refine own_cV X887 q hZ e887 hown hml (W 94 rfl) (W 95 rfl) (W 97 rfl) (W 96 rfl) (W 8 rfl) (W 98 rfl) rfl ES (rm15_0 l Z a0 hw a1 cs0 h0 n0 Z0 O0 ⟨SCS, hcs⟩ FC) d14_6 [] [v'4] own_pd19 1 (by decide) (fun v888 T888 L888 X888 hQ888 => ?_)
 obtain ⟨rfl, N888q, e888⟩ := hQ888
 have N888 := Fr.app N0 N888q
 refine own_nv (own_stp 10 (fun _ k => XS.ishr X888.here hx rfl (q.d d14_9) rfl k) ?_)
 rw [show ((4 : Int32) >>> ((0 : Int32) &&& 31)) = (4 : Int32) from by decide]
 refine own_rI X888 q hrt d14_10 hlk (by decide) ?_
 show QI (4 : Int32) h0 n0 _ T888.heap _
 rw [e888]
 exact ⟨rfl, N888, rfl⟩
theorem rm14_U1 (l : Launch) (Z : State) (a0 : Array Value) (hw : own_hw a0 Z) (a1 : Addr) (t : Addr) (ks : ClassId) (y0 y1 : Int32) (cs0 : Int32) (h0 : Heap) (n0 : Nat) (Z0 : n0 ≤ h0.size) (O0 : Old Z n0 h0) (SC_ : own_SC Z cs0) (ES : Exa Z h0 a1 "java/lang/String") (FC : F'0 Z h0 a1 v'1) (FV : F'1 Z h0 a1 (.ref t)) (VS : Arv Z h0 t ks .byte (2 : Int32) [(.int y0), (.int y1)] v'0) :
  own_M l Z [] own_y31 b'14 1 (some .int) ⟨1, 0, 0, 13⟩ #[(.ref a1)] h0 (QI (1 : Int32) h0 n0) := by
 obtain ⟨SCS, hcs⟩ := SC_
 refine own_start (n0 := n0) hw "java/lang/String" (L := #[.val (.ref a1)]) pn_14 (fun {p e s m below meth c s₁} q hx W hml hZ hown hnm hlk hrt X0 e0 N0 => ?_)
 refine own_aln X0 q d14_0 rfl rfl ?_
 refine own_gF X0 q hZ e0 hown (W 26 rfl) FV d14_1 fun T891 X891 e891 => ?_
 refine own_alen (n := (2 : Int32)) X891 q hZ e891 VS d14_4 (own_aln X891 q d14_5 rfl rfl ?_)
 refine own_cV X891 q hZ e891 hown hml (W 94 rfl) (W 95 rfl) (W 97 rfl) (W 96 rfl) (W 8 rfl) (W 98 rfl) rfl ES (rm15_1 l Z a0 hw a1 cs0 h0 n0 Z0 O0 ⟨SCS, hcs⟩ FC) d14_6 [] [v'2] own_pd19 1 (by decide) (fun v892 T892 L892 X892 hQ892 => ?_)
 obtain ⟨rfl, N892q, e892⟩ := hQ892
 have N892 := Fr.app N0 N892q
 refine own_nv (own_stp 10 (fun _ k => XS.ishr X892.here hx rfl (q.d d14_9) rfl k) ?_)
 rw [show ((2 : Int32) >>> ((1 : Int32) &&& 31)) = (1 : Int32) from by decide]
 refine own_rI X892 q hrt d14_10 hlk (by decide) ?_
 show QI (1 : Int32) h0 n0 _ T892.heap _
 rw [e892]
 exact ⟨rfl, N892, rfl⟩
theorem rm14_U2 (l : Launch) (Z : State) (a0 : Array Value) (hw : own_hw a0 Z) (a1 : Addr) (t : Addr) (ks : ClassId) (y0 y1 y2 y3 : Int32) (cs0 : Int32) (h0 : Heap) (n0 : Nat) (Z0 : n0 ≤ h0.size) (O0 : Old Z n0 h0) (SC_ : own_SC Z cs0) (ES : Exa Z h0 a1 "java/lang/String") (FC : F'0 Z h0 a1 v'1) (FV : F'1 Z h0 a1 (.ref t)) (VS : Arv Z h0 t ks .byte (4 : Int32) [(.int y0), (.int y1), (.int y2), (.int y3)] v'0) :
  own_M l Z [] own_y31 b'14 1 (some .int) ⟨1, 0, 0, 13⟩ #[(.ref a1)] h0 (QI (2 : Int32) h0 n0) := by
 obtain ⟨SCS, hcs⟩ := SC_
 refine own_start (n0 := n0) hw "java/lang/String" (L := #[.val (.ref a1)]) pn_14 (fun {p e s m below meth c s₁} q hx W hml hZ hown hnm hlk hrt X0 e0 N0 => ?_)
 refine own_aln X0 q d14_0 rfl rfl ?_
 refine own_gF X0 q hZ e0 hown (W 26 rfl) FV d14_1 fun T895 X895 e895 => ?_
 refine own_alen (n := (4 : Int32)) X895 q hZ e895 VS d14_4 (own_aln X895 q d14_5 rfl rfl ?_)
 refine own_cV X895 q hZ e895 hown hml (W 94 rfl) (W 95 rfl) (W 97 rfl) (W 96 rfl) (W 8 rfl) (W 98 rfl) rfl ES (rm15_1 l Z a0 hw a1 cs0 h0 n0 Z0 O0 ⟨SCS, hcs⟩ FC) d14_6 [] [v'4] own_pd19 1 (by decide) (fun v896 T896 L896 X896 hQ896 => ?_)
 obtain ⟨rfl, N896q, e896⟩ := hQ896
 have N896 := Fr.app N0 N896q
 refine own_nv (own_stp 10 (fun _ k => XS.ishr X896.here hx rfl (q.d d14_9) rfl k) ?_)
 rw [show ((4 : Int32) >>> ((1 : Int32) &&& 31)) = (2 : Int32) from by decide]
 refine own_rI X896 q hrt d14_10 hlk (by decide) ?_
 show QI (2 : Int32) h0 n0 _ T896.heap _
 rw [e896]
 exact ⟨rfl, N896, rfl⟩
theorem rm14_U3 (l : Launch) (Z : State) (a0 : Array Value) (hw : own_hw a0 Z) (a1 : Addr) (t : Addr) (ks : ClassId) (y0 y1 y2 y3 y4 y5 : Int32) (cs0 : Int32) (h0 : Heap) (n0 : Nat) (Z0 : n0 ≤ h0.size) (O0 : Old Z n0 h0) (SC_ : own_SC Z cs0) (ES : Exa Z h0 a1 "java/lang/String") (FC : F'0 Z h0 a1 v'1) (FV : F'1 Z h0 a1 (.ref t)) (VS : Arv Z h0 t ks .byte (6 : Int32) [(.int y0), (.int y1), (.int y2), (.int y3), (.int y4), (.int y5)] v'0) :
  own_M l Z [] own_y31 b'14 1 (some .int) ⟨1, 0, 0, 13⟩ #[(.ref a1)] h0 (QI (3 : Int32) h0 n0) := by
 obtain ⟨SCS, hcs⟩ := SC_
 refine own_start (n0 := n0) hw "java/lang/String" (L := #[.val (.ref a1)]) pn_14 (fun {p e s m below meth c s₁} q hx W hml hZ hown hnm hlk hrt X0 e0 N0 => ?_)
 refine own_aln X0 q d14_0 rfl rfl ?_
 refine own_gF X0 q hZ e0 hown (W 26 rfl) FV d14_1 fun T899 X899 e899 => ?_
 refine own_alen (n := (6 : Int32)) X899 q hZ e899 VS d14_4 (own_aln X899 q d14_5 rfl rfl ?_)
 refine own_cV X899 q hZ e899 hown hml (W 94 rfl) (W 95 rfl) (W 97 rfl) (W 96 rfl) (W 8 rfl) (W 98 rfl) rfl ES (rm15_1 l Z a0 hw a1 cs0 h0 n0 Z0 O0 ⟨SCS, hcs⟩ FC) d14_6 [] [v'6] own_pd19 1 (by decide) (fun v900 T900 L900 X900 hQ900 => ?_)
 obtain ⟨rfl, N900q, e900⟩ := hQ900
 have N900 := Fr.app N0 N900q
 refine own_nv (own_stp 10 (fun _ k => XS.ishr X900.here hx rfl (q.d d14_9) rfl k) ?_)
 rw [show ((6 : Int32) >>> ((1 : Int32) &&& 31)) = (3 : Int32) from by decide]
 refine own_rI X900 q hrt d14_10 hlk (by decide) ?_
 show QI (3 : Int32) h0 n0 _ T900.heap _
 rw [e900]
 exact ⟨rfl, N900, rfl⟩
theorem rm14_U4 (l : Launch) (Z : State) (a0 : Array Value) (hw : own_hw a0 Z) (a1 : Addr) (t : Addr) (ks : ClassId) (y0 y1 y2 y3 y4 y5 y6 y7 : Int32) (cs0 : Int32) (h0 : Heap) (n0 : Nat) (Z0 : n0 ≤ h0.size) (O0 : Old Z n0 h0) (SC_ : own_SC Z cs0) (ES : Exa Z h0 a1 "java/lang/String") (FC : F'0 Z h0 a1 v'1) (FV : F'1 Z h0 a1 (.ref t)) (VS : Arv Z h0 t ks .byte (8 : Int32) [(.int y0), (.int y1), (.int y2), (.int y3), (.int y4), (.int y5), (.int y6), (.int y7)] v'0) :
  own_M l Z [] own_y31 b'14 1 (some .int) ⟨1, 0, 0, 13⟩ #[(.ref a1)] h0 (QI (4 : Int32) h0 n0) := by
 obtain ⟨SCS, hcs⟩ := SC_
 refine own_start (n0 := n0) hw "java/lang/String" (L := #[.val (.ref a1)]) pn_14 (fun {p e s m below meth c s₁} q hx W hml hZ hown hnm hlk hrt X0 e0 N0 => ?_)
 refine own_aln X0 q d14_0 rfl rfl ?_
 refine own_gF X0 q hZ e0 hown (W 26 rfl) FV d14_1 fun T903 X903 e903 => ?_
 refine own_alen (n := (8 : Int32)) X903 q hZ e903 VS d14_4 (own_aln X903 q d14_5 rfl rfl ?_)
 refine own_cV X903 q hZ e903 hown hml (W 94 rfl) (W 95 rfl) (W 97 rfl) (W 96 rfl) (W 8 rfl) (W 98 rfl) rfl ES (rm15_1 l Z a0 hw a1 cs0 h0 n0 Z0 O0 ⟨SCS, hcs⟩ FC) d14_6 [] [v'8] own_pd19 1 (by decide) (fun v904 T904 L904 X904 hQ904 => ?_)
 obtain ⟨rfl, N904q, e904⟩ := hQ904
 have N904 := Fr.app N0 N904q
 refine own_nv (own_stp 10 (fun _ k => XS.ishr X904.here hx rfl (q.d d14_9) rfl k) ?_)
 rw [show ((8 : Int32) >>> ((1 : Int32) &&& 31)) = (4 : Int32) from by decide]
 refine own_rI X904 q hrt d14_10 hlk (by decide) ?_
 show QI (4 : Int32) h0 n0 _ T904.heap _
 rw [e904]
 exact ⟨rfl, N904, rfl⟩
theorem d17_0 : own_D b'17 0 (.aload_n 0) 1 1 := by decide +kernel
theorem d17_1 : own_D b'17 1 (.aload_n 2) 1 2 := by decide +kernel
theorem d17_2 : own_D b'17 2 (.invokevirtual 397) 3 5 := by decide +kernel
theorem d17_5 : own_D b'17 5 (.aload_n 2) 1 6 := by decide +kernel
theorem d17_6 : own_D b'17 6 (.aload_n 0) 1 7 := by decide +kernel
theorem d17_7 : own_D b'17 7 (.getfield 15) 3 10 := by decide +kernel
theorem d17_10 : own_D b'17 10 (.iload_n 1) 1 11 := by decide +kernel
theorem d17_11 : own_D b'17 11 (.aload_n 0) 1 12 := by decide +kernel
theorem d17_12 : own_D b'17 12 (.getfield 22) 3 15 := by decide +kernel
theorem d17_15 : own_D b'17 15 (.invokevirtual 399) 3 18 := by decide +kernel
theorem d17_18 : own_D b'17 18 .return_ 1 19 := by decide +kernel
theorem pn_17 : plainFor (⟨"java/lang/AbstractStringBuilder", "putStringAt", "(ILjava/lang/String;)V"⟩ : MethodName) = true := plainFor_of_name (by first | (simp [plainName, overriddenIn]; done) | decide +kernel)
theorem rm17_L0 (l : Launch) (Z : State) (a0 : Array Value) (hw : own_hw a0 Z) (a1 : Addr) (a2 : Addr) (v0 : Addr) (k0 : ClassId) (t : Addr) (ks : ClassId) (cs0 : Int32) (fo : Value) (h0 : Heap) (n0 : Nat) (Z0 : n0 ≤ h0.size) (O0 : Old Z n0 h0) (SC_ : own_SC Z cs0) (SIO : Sta Z Z.heap "jdk/internal/util/Preconditions" "SIOOBE_FORMATTER" "Ljava/util/function/BiFunction;" fo) (hfo : fo.isRef = true) (E1 : Exa Z h0 a1 "java/lang/StringBuilder") (G0 : F'3 Z h0 a1 (.ref v0)) (G1 : F'2 Z h0 a1 v'0) (G2 : F'4 Z h0 a1 v'0) (G3 : F'5 Z h0 a1 v'0) (VV : Arv Z h0 v0 k0 .byte (16 : Int32) [v'0, v'0, v'0, v'0, v'0, v'0, v'0, v'0, v'0, v'0, v'0, v'0, v'0, v'0, v'0, v'0] v'0) (g1 : n0 ≤ a1) (gv : n0 ≤ v0) (nav : a1 ≠ v0) (ES : Exa Z h0 a2 "java/lang/String") (FC : F'0 Z h0 a2 v'0) (FV : F'1 Z h0 a2 (.ref t)) (VS : Arv Z h0 t ks .byte (0 : Int32) [] v'0) (m1 : a1 ≠ a2) (m2 : v0 ≠ a2) (m3 : a1 ≠ t) (m4 : v0 ≠ t) :
  own_M l Z [] own_y32 b'17 3 none ⟨2, 0, 0, 33⟩ #[(.ref a1), v'0, (.ref a2)] h0 (QPSL0 Z a1 v0  h0 n0) := by
 obtain ⟨SCS, hcs⟩ := SC_
 refine own_start (n0 := n0) hw "java/lang/AbstractStringBuilder" (L := #[.val (.ref a1), .val v'0, .val (.ref a2)]) pn_17 (fun {p e s m below meth c s₁} q hx W hml hZ hown hnm hlk hrt X0 e0 N0 => ?_)
 have kp0 := Keep.refl h0 [a1]
 have kp0 := Keep.refl h0 [a1, v0]
 refine own_aln X0 q d17_0 rfl rfl (own_aln X0 q d17_1 rfl rfl ?_)
 refine own_let ?_; intro g912_
 obtain ⟨cq911, q911, q911'⟩ := (E1).cell
 obtain ⟨_, _, ⟨T911, L911, k911, n911⟩, -, X911, ⟨Lc911, hQ911, l911, y911, z911⟩, st911⟩ := X0.privateBack hx (y := own_y30) hown (mvT hZ (W 112 rfl)) (mvT hZ (W 113 rfl)) (own_selP (by decide) (mvT hZ (W 115 rfl)) (mvP hZ (W 114 rfl)) (mvT hZ (W 113 rfl))) (Cond.privateMethod_at (mvP hZ (W 114 rfl) (args := #[]))) (mvT hZ (W 116 rfl)) (by decide) (backOf (W := 0) (rm18_L0 l Z a0 hw a1 a2 cs0 h0 n0 Z0 O0 ⟨SCS, hcs⟩ G1 ES FC) hZ (W 116 rfl) (W 71 rfl) (by decide) (by decide)) (g := g912_) rfl (by rw [hml]; rfl) (Steps.refl _) (a := a1) (by rw [e0]; exact q911) q911' (argsL := [(.ref a2)]) (rest := []) (lenOf own_pd21 rfl) rfl (by show 2 * 0 + _ ≤ _; exact Nat.le_of_eq rfl) (q.d d17_2) (fun _ _ => ⟨rfl, e0, (by decide : 0 + 0 ≤ _), (by decide : 0 + 0 ≤ _)⟩)
 dsimp only [Pt.U, Pt.locs, Pt.cells, Pt.slots] at X911 l911 y911 z911 st911 hQ911
 rw [l911, y911, z911] at X911
 clear l911 y911 z911
 obtain ⟨rfl, N911q, e911⟩ := hQ911
 have N911 := Fr.app N0 N911q
 refine own_stp 5 (fun _ k => st911.trans k) (own_nn (own_aln X911 q d17_5 rfl rfl (own_aln X911 q d17_6 rfl rfl ?_)))
 refine own_gF X911 q hZ e911 hown (W 75 rfl) G0 d17_7 fun T913 X913 e913 => ?_
 refine own_iln X913 q d17_10 rfl (own_aln X913 q d17_11 rfl rfl ?_)
 refine own_gF X913 q hZ e913 hown (W 77 rfl) G1 d17_12 fun T914 X914 e914 => ?_
 refine own_cVh X914 q hZ e914 hown hml (W 118 rfl) (W 119 rfl) (W 121 rfl) (W 120 rfl) (W 8 rfl) (W 122 rfl) rfl ES (rm19_L0 l Z a0 hw a2 v0 t ks k0  cs0 h0 n0 Z0 O0 ⟨SCS, hcs⟩ ES FC FV VS VV gv (Ne.symm m4) (Ne.symm m2)) d17_15 [(.ref v0), v'0, v'0] [] own_pd22 0 (by decide) (fun v915 T915 L915 h915 e915' X915 hQ915 => ?_)
 obtain ⟨rfl, N915q, K915, V915⟩ := hQ915
 have N915 := Fr.app N911 N915q
 have kp916 := kp0.trans K915 (allS (own_i1) all0)
 refine own_nn ?_
 refine own_rV X915 q hrt d17_18 hlk (by decide) ?_
 show QPSL0 Z a1 v0  h0 n0 _ T915.heap _
 rw [e915']
 exact ⟨_, _, rfl, N915, kp916, gv, nav, (G0.keep K915 (ninS nav nin0)), (G1.keep K915 (ninS nav nin0)), (G2.keep K915 (ninS nav nin0)), (G3.keep K915 (ninS nav nin0)), V915⟩
theorem d13_0 : own_D b'13 0 (.aload_n 1) 1 1 := by decide +kernel
theorem d13_1 : own_D b'13 1 (.ifnonnull 8) 3 4 := by decide +kernel
theorem d13_9 : own_D b'13 9 (.aload_n 1) 1 10 := by decide +kernel
theorem d13_10 : own_D b'13 10 (.invokevirtual 32) 3 13 := by decide +kernel
theorem d13_13 : own_D b'13 13 (.istore_n 2) 1 14 := by decide +kernel
theorem d13_14 : own_D b'13 14 (.aload_n 0) 1 15 := by decide +kernel
theorem d13_15 : own_D b'13 15 (.aload_n 0) 1 16 := by decide +kernel
theorem d13_16 : own_D b'13 16 (.getfield 79) 3 19 := by decide +kernel
theorem d13_19 : own_D b'13 19 (.iload_n 2) 1 20 := by decide +kernel
theorem d13_20 : own_D b'13 20 .iadd 1 21 := by decide +kernel
theorem d13_21 : own_D b'13 21 (.invokevirtual 100) 3 24 := by decide +kernel
theorem d13_24 : own_D b'13 24 (.aload_n 0) 1 25 := by decide +kernel
theorem d13_25 : own_D b'13 25 (.aload_n 0) 1 26 := by decide +kernel
theorem d13_26 : own_D b'13 26 (.getfield 79) 3 29 := by decide +kernel
theorem d13_29 : own_D b'13 29 (.aload_n 1) 1 30 := by decide +kernel
theorem d13_30 : own_D b'13 30 (.invokevirtual 208) 3 33 := by decide +kernel
theorem d13_33 : own_D b'13 33 (.aload_n 0) 1 34 := by decide +kernel
theorem d13_34 : own_D b'13 34 .dup 1 35 := by decide +kernel
theorem d13_35 : own_D b'13 35 (.getfield 79) 3 38 := by decide +kernel
theorem d13_38 : own_D b'13 38 (.iload_n 2) 1 39 := by decide +kernel
theorem d13_39 : own_D b'13 39 .iadd 1 40 := by decide +kernel
theorem d13_40 : own_D b'13 40 (.putfield 79) 3 43 := by decide +kernel
theorem d13_43 : own_D b'13 43 (.aload_n 0) 1 44 := by decide +kernel
theorem d13_44 : own_D b'13 44 .areturn 1 45 := by decide +kernel
theorem pn_13 : plainFor (⟨"java/lang/AbstractStringBuilder", "append", "(Ljava/lang/String;)Ljava/lang/AbstractStringBuilder;"⟩ : MethodName) = true := plainFor_of_name (by first | (simp [plainName, overriddenIn]; done) | decide +kernel)
theorem rm13_L0 (l : Launch) (Z : State) (a0 : Array Value) (hw : own_hw a0 Z) (a1 : Addr) (a2 : Addr) (v0 : Addr) (k0 : ClassId) (t : Addr) (ks : ClassId) (cs0 : Int32) (fo : Value) (h0 : Heap) (n0 : Nat) (Z0 : n0 ≤ h0.size) (O0 : Old Z n0 h0) (SC_ : own_SC Z cs0) (SIO : Sta Z Z.heap "jdk/internal/util/Preconditions" "SIOOBE_FORMATTER" "Ljava/util/function/BiFunction;" fo) (hfo : fo.isRef = true) (E1 : Exa Z h0 a1 "java/lang/StringBuilder") (G0 : F'3 Z h0 a1 (.ref v0)) (G1 : F'2 Z h0 a1 v'0) (G2 : F'4 Z h0 a1 v'0) (G3 : F'5 Z h0 a1 v'0) (VV : Arv Z h0 v0 k0 .byte (16 : Int32) [v'0, v'0, v'0, v'0, v'0, v'0, v'0, v'0, v'0, v'0, v'0, v'0, v'0, v'0, v'0, v'0] v'0) (g1 : n0 ≤ a1) (gv : n0 ≤ v0) (nav : a1 ≠ v0) (ES : Exa Z h0 a2 "java/lang/String") (FC : F'0 Z h0 a2 v'0) (FV : F'1 Z h0 a2 (.ref t)) (VS : Arv Z h0 t ks .byte (0 : Int32) [] v'0) (m1 : a1 ≠ a2) (m2 : v0 ≠ a2) (m3 : a1 ≠ t) (m4 : v0 ≠ t) :
  own_M l Z [] own_y33 b'13 3 (some (.object "java/lang/AbstractStringBuilder")) ⟨3, 0, 0, 47⟩ #[(.ref a1), (.ref a2)] h0 (QAPL0 Z a1 v0  h0 n0) := by
 obtain ⟨SCS, hcs⟩ := SC_
 refine own_start (n0 := n0) hw "java/lang/AbstractStringBuilder" (L := #[.val (.ref a1), .val (.ref a2), .unset]) pn_13 (fun {p e s m below meth c s₁} q hx W hml hZ hown hnm hlk hrt X0 e0 N0 => ?_)
 have kp0 := Keep.refl h0 [a1]
 have kp0 := Keep.refl h0 [a1, v0]
 refine own_aln X0 q d13_0 rfl rfl (own_stp 9 (fun _ k => XS.ifnonnullYes X0.here hx rfl (pc0 := 1) (pc' := 9) rfl (q.d d13_1) rfl (by decide) (by decide) k) (own_aln X0 q d13_9 rfl rfl ?_))
 refine own_cV X0 q hZ e0 hown hml (W 89 rfl) (W 90 rfl) (W 92 rfl) (W 91 rfl) (W 8 rfl) (W 93 rfl) rfl ES (rm14_L0 l Z a0 hw a2 t ks  cs0 h0 n0 Z0 O0 ⟨SCS, hcs⟩ ES FC FV VS) d13_10 [] [] own_pd9 0 (by decide) (fun v928 T928 L928 X928 hQ928 => ?_)
 obtain ⟨rfl, N928q, e928⟩ := hQ928
 have N928 := Fr.app N0 N928q
 refine own_nv (own_isn X928 q d13_13 (l' := #[.val (.ref a1), .val (.ref a2), .val v'0]) rfl (own_aln X928 q d13_14 rfl rfl (own_aln X928 q d13_15 rfl rfl ?_)))
 refine own_gF X928 q hZ e928 hown (W 100 rfl) G2 d13_16 fun T929 X929 e929 => ?_
 refine own_iln X929 q d13_19 rfl (own_iaddk 0 X929 q d13_20 (by decide) ?_)
 refine own_let ?_; intro g931_
 obtain ⟨cq930, q930, q930'⟩ := (E1).cell
 obtain ⟨_, _, ⟨T930, L930, k930, n930⟩, -, X930, ⟨Lc930, hQ930, l930, y930, z930⟩, st930⟩ := X929.privateBack hx (y := own_y28) hown (mvT hZ (W 102 rfl)) (mvT hZ (W 103 rfl)) (own_selP (by decide) (mvT hZ (W 105 rfl)) (mvP hZ (W 104 rfl)) (mvT hZ (W 103 rfl))) (Cond.privateMethod_at (mvP hZ (W 104 rfl) (args := #[]))) (mvT hZ (W 106 rfl)) (by decide) (backOf (W := 0) (rm16_0 l Z a0 hw a1 v0 k0 h0 n0 Z0 G0 G1 VV) hZ (W 106 rfl) (W 71 rfl) (by decide) (by decide)) (g := g931_) rfl (by rw [hml]; rfl) (Steps.refl _) (a := a1) (by rw [e929]; exact q930) q930' (argsL := [v'0]) (rest := []) (lenOf own_pd8 rfl) rfl (by show 2 * 0 + _ ≤ _; exact Nat.le_of_eq rfl) (q.d d13_21) (fun _ _ => ⟨rfl, e929, (by decide : 0 + 0 ≤ _), (by decide : 0 + 0 ≤ _)⟩)
 dsimp only [Pt.U, Pt.locs, Pt.cells, Pt.slots] at X930 l930 y930 z930 st930 hQ930
 rw [l930, y930, z930] at X930
 clear l930 y930 z930
 obtain ⟨rfl, N930q, e930⟩ := hQ930
 have N930 := Fr.app N928 N930q
 refine own_stp 24 (fun _ k => st930.trans k) (own_nn (own_aln X930 q d13_24 rfl rfl (own_aln X930 q d13_25 rfl rfl ?_)))
 refine own_gF X930 q hZ e930 hown (W 100 rfl) G2 d13_26 fun T932 X932 e932 => ?_
 refine own_aln X932 q d13_29 rfl rfl ?_
 refine own_cPh X932 q hZ e932 hown hml (W 107 rfl) (W 108 rfl) (own_selP (by decide) (mvT hZ (W 110 rfl)) (mvP hZ (W 109 rfl)) (mvT hZ (W 108 rfl))) (W 109 rfl) (W 71 rfl) (W 111 rfl) E1 (rm17_L0 l Z a0 hw a1 a2 v0 k0 t ks  cs0 fo h0 n0 Z0 O0 ⟨SCS, hcs⟩ SIO hfo E1 G0 G1 G2 G3 VV g1 gv nav ES FC FV VS m1 m2 m3 m4) d13_30 [v'0, (.ref a2)] [] own_pd23 0 (by decide) (fun v933 T933 L933 h933 e933' X933 hQ933 => ?_)
 obtain ⟨b933, k933, rfl, N933q, K933, gb933, nb933, G933_0, G933_1, G933_2, G933_3, V933⟩ := hQ933
 have N933 := Fr.app N930 N933q
 have kp934 := kp0.trans K933 (allS (own_i0) (allS (own_i1) all0))
 refine own_nn (own_aln X933 q d13_33 rfl rfl (own_dp X933 q d13_34 rfl ?_))
 refine own_gF X933 q hZ e933' hown (W 100 rfl) G933_2 d13_35 fun T935 X935 e935 => ?_
 refine own_iln X935 q d13_38 rfl (own_iaddk 0 X935 q d13_39 (by decide) ?_)
 refine own_let ?_; intro g936_
 obtain ⟨T937, h937, X937, e937, W937, st937⟩ := putF X935 hx hZ hown (host := "") (Or.inl (W 100 rfl)) Via.refl e935 G933_2 (E1.keep K933) (Or.inl (W 101 rfl)) (W 62 rfl) (ty := .int) (by decide) rfl rfl (g := g936_) rfl rfl (q.d d13_40)
 have kp938 := kp934.wr W937 (own_i0)
 have Fw937 := (G933_2).same W937
 have N937 := Fr.snoc X937 N933 g1
 refine own_stp 43 st937 (own_aln X937 q d13_43 rfl rfl ?_)
 refine own_rA X937 q hrt d13_44 hlk (by decide) ?_
 show QAPL0 Z a1 v0  h0 n0 _ T937.heap _
 rw [e937]
 exact ⟨_, _, rfl, N937, kp938, gb933, nb933, (G933_0.other W937 (Or.inr (slot_ne (Or.inl (W 76 rfl)) (Or.inl (W 101 rfl)) (by decide) (t := (.array .byte)) (t' := .int) (by decide) (by decide)))), (G933_1.other W937 (Or.inr (slot_ne (Or.inl (W 78 rfl)) (Or.inl (W 101 rfl)) (by decide) (t := .byte) (t' := .int) (by decide) (by decide)))), Fw937, (G933_3.other W937 (Or.inr (slot_ne (Or.inl (W 239 rfl)) (Or.inl (W 101 rfl)) (by decide) (t := .boolean) (t' := .int) (by decide) (by decide)))), (V933.other W937 (Ne.symm nb933))⟩
theorem d12_0 : own_D b'12 0 (.aload_n 0) 1 1 := by decide +kernel
theorem d12_1 : own_D b'12 1 (.aload_n 1) 1 2 := by decide +kernel
theorem d12_2 : own_D b'12 2 (.invokespecial 29) 3 5 := by decide +kernel
theorem d12_5 : own_D b'12 5 .pop 1 6 := by decide +kernel
theorem d12_6 : own_D b'12 6 (.aload_n 0) 1 7 := by decide +kernel
theorem d12_7 : own_D b'12 7 .areturn 1 8 := by decide +kernel
theorem pn_12 : plainFor (⟨"java/lang/StringBuilder", "append", "(Ljava/lang/String;)Ljava/lang/StringBuilder;"⟩ : MethodName) = true := plainFor_of_name (by first | (simp [plainName, overriddenIn]; done) | decide +kernel)
theorem rm12_L0 (l : Launch) (Z : State) (a0 : Array Value) (hw : own_hw a0 Z) (a1 : Addr) (a2 : Addr) (v0 : Addr) (k0 : ClassId) (t : Addr) (ks : ClassId) (cs0 : Int32) (fo : Value) (h0 : Heap) (n0 : Nat) (Z0 : n0 ≤ h0.size) (O0 : Old Z n0 h0) (SC_ : own_SC Z cs0) (SIO : Sta Z Z.heap "jdk/internal/util/Preconditions" "SIOOBE_FORMATTER" "Ljava/util/function/BiFunction;" fo) (hfo : fo.isRef = true) (E1 : Exa Z h0 a1 "java/lang/StringBuilder") (G0 : F'3 Z h0 a1 (.ref v0)) (G1 : F'2 Z h0 a1 v'0) (G2 : F'4 Z h0 a1 v'0) (G3 : F'5 Z h0 a1 v'0) (VV : Arv Z h0 v0 k0 .byte (16 : Int32) [v'0, v'0, v'0, v'0, v'0, v'0, v'0, v'0, v'0, v'0, v'0, v'0, v'0, v'0, v'0, v'0] v'0) (g1 : n0 ≤ a1) (gv : n0 ≤ v0) (nav : a1 ≠ v0) (ES : Exa Z h0 a2 "java/lang/String") (FC : F'0 Z h0 a2 v'0) (FV : F'1 Z h0 a2 (.ref t)) (VS : Arv Z h0 t ks .byte (0 : Int32) [] v'0) (m1 : a1 ≠ a2) (m2 : v0 ≠ a2) (m3 : a1 ≠ t) (m4 : v0 ≠ t) :
  own_M l Z [] own_y34 b'12 2 (some (.object "java/lang/StringBuilder")) ⟨4, 0, 0, 61⟩ #[(.ref a1), (.ref a2)] h0 (QAPL0 Z a1 v0  h0 n0) := by
 obtain ⟨SCS, hcs⟩ := SC_
 refine own_start (n0 := n0) hw "java/lang/StringBuilder" (L := #[.val (.ref a1), .val (.ref a2)]) pn_12 (fun {p e s m below meth c s₁} q hx W hml hZ hown hnm hlk hrt X0 e0 N0 => ?_)
 have kp0 := Keep.refl h0 [a1]
 have kp0 := Keep.refl h0 [a1, v0]
 refine own_aln X0 q d12_0 rfl rfl (own_aln X0 q d12_1 rfl rfl ?_)
 refine own_let ?_; intro g943_
 obtain ⟨_, _, ⟨T942, L942, k942, n942⟩, -, X942, ⟨Lc942, hQ942, l942, y942, z942⟩, st942⟩ := superBack X0 hx hZ (y := own_y33) hown (W 84 rfl) (own_sameM (by decide) (W 105 rfl) rfl (W 87 rfl)) (W 85 rfl) (W 86 rfl) (by decide) (backOf (W := 0) (rm13_L0 l Z a0 hw a1 a2 v0 k0 t ks  cs0 fo h0 n0 Z0 O0 ⟨SCS, hcs⟩ SIO hfo E1 G0 G1 G2 G3 VV g1 gv nav ES FC FV VS m1 m2 m3 m4) hZ (W 88 rfl) (W 71 rfl) (by decide) (by decide)) e0 (Ins.self E1) (g := g943_) rfl (by rw [hml]; rfl) (W 88 rfl) (argsL := [(.ref a2)]) (rest := []) (lenOf own_pd24 rfl) rfl (by show 2 * 0 + _ ≤ _; exact Nat.le_of_eq rfl) (q.d d12_2) (fun _ _ => ⟨rfl, e0, (by decide : 0 + 0 ≤ _), (by decide : 0 + 0 ≤ _)⟩)
 dsimp only [Pt.U, Pt.locs, Pt.cells, Pt.slots] at X942 l942 y942 z942 st942 hQ942
 rw [l942, y942, z942] at X942
 clear l942 y942 z942
 obtain ⟨b942, k942, rfl, N942q, K942, gb942, nb942, G942_0, G942_1, G942_2, G942_3, V942⟩ := hQ942
 have N942 := Fr.app N0 N942q
 obtain ⟨h942, e942⟩ : ∃ z, z = T942.heap := ⟨_, rfl⟩
 have e942' := e942.symm
 rw [← e942] at K942 G942_0 G942_1 G942_2 G942_3 V942
 have kp944 := kp0.trans K942 (allS (own_i0) (allS (own_i1) all0))
 refine own_stp 5 (fun _ k => st942.trans k) (own_nv (own_stp 6 (fun _ k => XS.pop X942.here hx rfl (q.d d12_5) rfl rfl k) (own_aln X942 q d12_6 rfl rfl ?_)))
 refine own_rA X942 q hrt d12_7 hlk (by decide) ?_
 show QAPL0 Z a1 v0  h0 n0 _ T942.heap _
 rw [e942']
 exact ⟨_, _, rfl, N942, kp944, gb942, nb942, G942_0, G942_1, G942_2, G942_3, V942⟩
theorem rm17_L1 (l : Launch) (Z : State) (a0 : Array Value) (hw : own_hw a0 Z) (a1 : Addr) (a2 : Addr) (v0 : Addr) (k0 : ClassId) (t : Addr) (ks : ClassId) (y0 : Int32) (cs0 : Int32) (fo : Value) (h0 : Heap) (n0 : Nat) (Z0 : n0 ≤ h0.size) (O0 : Old Z n0 h0) (SC_ : own_SC Z cs0) (SIO : Sta Z Z.heap "jdk/internal/util/Preconditions" "SIOOBE_FORMATTER" "Ljava/util/function/BiFunction;" fo) (hfo : fo.isRef = true) (E1 : Exa Z h0 a1 "java/lang/StringBuilder") (G0 : F'3 Z h0 a1 (.ref v0)) (G1 : F'2 Z h0 a1 v'0) (G2 : F'4 Z h0 a1 v'0) (G3 : F'5 Z h0 a1 v'0) (VV : Arv Z h0 v0 k0 .byte (16 : Int32) [v'0, v'0, v'0, v'0, v'0, v'0, v'0, v'0, v'0, v'0, v'0, v'0, v'0, v'0, v'0, v'0] v'0) (g1 : n0 ≤ a1) (gv : n0 ≤ v0) (nav : a1 ≠ v0) (ES : Exa Z h0 a2 "java/lang/String") (FC : F'0 Z h0 a2 v'0) (FV : F'1 Z h0 a2 (.ref t)) (VS : Arv Z h0 t ks .byte (1 : Int32) [(.int y0)] v'0) (m1 : a1 ≠ a2) (m2 : v0 ≠ a2) (m3 : a1 ≠ t) (m4 : v0 ≠ t) :
  own_M l Z [] own_y32 b'17 3 none ⟨2, 0, 0, 33⟩ #[(.ref a1), v'0, (.ref a2)] h0 (QPSL1 Z a1 v0 y0 h0 n0) := by
 obtain ⟨SCS, hcs⟩ := SC_
 refine own_start (n0 := n0) hw "java/lang/AbstractStringBuilder" (L := #[.val (.ref a1), .val v'0, .val (.ref a2)]) pn_17 (fun {p e s m below meth c s₁} q hx W hml hZ hown hnm hlk hrt X0 e0 N0 => ?_)
 have kp0 := Keep.refl h0 [a1]
 have kp0 := Keep.refl h0 [a1, v0]
 refine own_aln X0 q d17_0 rfl rfl (own_aln X0 q d17_1 rfl rfl ?_)
 refine own_let ?_; intro g952_
 obtain ⟨cq951, q951, q951'⟩ := (E1).cell
 obtain ⟨_, _, ⟨T951, L951, k951, n951⟩, -, X951, ⟨Lc951, hQ951, l951, y951, z951⟩, st951⟩ := X0.privateBack hx (y := own_y30) hown (mvT hZ (W 112 rfl)) (mvT hZ (W 113 rfl)) (own_selP (by decide) (mvT hZ (W 115 rfl)) (mvP hZ (W 114 rfl)) (mvT hZ (W 113 rfl))) (Cond.privateMethod_at (mvP hZ (W 114 rfl) (args := #[]))) (mvT hZ (W 116 rfl)) (by decide) (backOf (W := 0) (rm18_L0 l Z a0 hw a1 a2 cs0 h0 n0 Z0 O0 ⟨SCS, hcs⟩ G1 ES FC) hZ (W 116 rfl) (W 71 rfl) (by decide) (by decide)) (g := g952_) rfl (by rw [hml]; rfl) (Steps.refl _) (a := a1) (by rw [e0]; exact q951) q951' (argsL := [(.ref a2)]) (rest := []) (lenOf own_pd21 rfl) rfl (by show 2 * 0 + _ ≤ _; exact Nat.le_of_eq rfl) (q.d d17_2) (fun _ _ => ⟨rfl, e0, (by decide : 0 + 0 ≤ _), (by decide : 0 + 0 ≤ _)⟩)
 dsimp only [Pt.U, Pt.locs, Pt.cells, Pt.slots] at X951 l951 y951 z951 st951 hQ951
 rw [l951, y951, z951] at X951
 clear l951 y951 z951
 obtain ⟨rfl, N951q, e951⟩ := hQ951
 have N951 := Fr.app N0 N951q
 refine own_stp 5 (fun _ k => st951.trans k) (own_nn (own_aln X951 q d17_5 rfl rfl (own_aln X951 q d17_6 rfl rfl ?_)))
 refine own_gF X951 q hZ e951 hown (W 75 rfl) G0 d17_7 fun T953 X953 e953 => ?_
 refine own_iln X953 q d17_10 rfl (own_aln X953 q d17_11 rfl rfl ?_)
 refine own_gF X953 q hZ e953 hown (W 77 rfl) G1 d17_12 fun T954 X954 e954 => ?_
 refine own_cVh X954 q hZ e954 hown hml (W 118 rfl) (W 119 rfl) (W 121 rfl) (W 120 rfl) (W 8 rfl) (W 122 rfl) rfl ES (rm19_L1 l Z a0 hw a2 v0 t ks k0 y0 cs0 h0 n0 Z0 O0 ⟨SCS, hcs⟩ ES FC FV VS VV gv (Ne.symm m4) (Ne.symm m2)) d17_15 [(.ref v0), v'0, v'0] [] own_pd22 0 (by decide) (fun v955 T955 L955 h955 e955' X955 hQ955 => ?_)
 obtain ⟨rfl, N955q, K955, V955⟩ := hQ955
 have N955 := Fr.app N951 N955q
 have kp956 := kp0.trans K955 (allS (own_i1) all0)
 refine own_nn ?_
 refine own_rV X955 q hrt d17_18 hlk (by decide) ?_
 show QPSL1 Z a1 v0 y0 h0 n0 _ T955.heap _
 rw [e955']
 exact ⟨_, _, rfl, N955, kp956, gv, nav, (G0.keep K955 (ninS nav nin0)), (G1.keep K955 (ninS nav nin0)), (G2.keep K955 (ninS nav nin0)), (G3.keep K955 (ninS nav nin0)), V955⟩
theorem rm13_L1 (l : Launch) (Z : State) (a0 : Array Value) (hw : own_hw a0 Z) (a1 : Addr) (a2 : Addr) (v0 : Addr) (k0 : ClassId) (t : Addr) (ks : ClassId) (y0 : Int32) (cs0 : Int32) (fo : Value) (h0 : Heap) (n0 : Nat) (Z0 : n0 ≤ h0.size) (O0 : Old Z n0 h0) (SC_ : own_SC Z cs0) (SIO : Sta Z Z.heap "jdk/internal/util/Preconditions" "SIOOBE_FORMATTER" "Ljava/util/function/BiFunction;" fo) (hfo : fo.isRef = true) (E1 : Exa Z h0 a1 "java/lang/StringBuilder") (G0 : F'3 Z h0 a1 (.ref v0)) (G1 : F'2 Z h0 a1 v'0) (G2 : F'4 Z h0 a1 v'0) (G3 : F'5 Z h0 a1 v'0) (VV : Arv Z h0 v0 k0 .byte (16 : Int32) [v'0, v'0, v'0, v'0, v'0, v'0, v'0, v'0, v'0, v'0, v'0, v'0, v'0, v'0, v'0, v'0] v'0) (g1 : n0 ≤ a1) (gv : n0 ≤ v0) (nav : a1 ≠ v0) (ES : Exa Z h0 a2 "java/lang/String") (FC : F'0 Z h0 a2 v'0) (FV : F'1 Z h0 a2 (.ref t)) (VS : Arv Z h0 t ks .byte (1 : Int32) [(.int y0)] v'0) (m1 : a1 ≠ a2) (m2 : v0 ≠ a2) (m3 : a1 ≠ t) (m4 : v0 ≠ t) :
  own_M l Z [] own_y33 b'13 3 (some (.object "java/lang/AbstractStringBuilder")) ⟨3, 0, 0, 47⟩ #[(.ref a1), (.ref a2)] h0 (QAPL1 Z a1 v0 y0 h0 n0) := by
 obtain ⟨SCS, hcs⟩ := SC_
 refine own_start (n0 := n0) hw "java/lang/AbstractStringBuilder" (L := #[.val (.ref a1), .val (.ref a2), .unset]) pn_13 (fun {p e s m below meth c s₁} q hx W hml hZ hown hnm hlk hrt X0 e0 N0 => ?_)
 have kp0 := Keep.refl h0 [a1]
 have kp0 := Keep.refl h0 [a1, v0]
 refine own_aln X0 q d13_0 rfl rfl (own_stp 9 (fun _ k => XS.ifnonnullYes X0.here hx rfl (pc0 := 1) (pc' := 9) rfl (q.d d13_1) rfl (by decide) (by decide) k) (own_aln X0 q d13_9 rfl rfl ?_))
 refine own_cV X0 q hZ e0 hown hml (W 89 rfl) (W 90 rfl) (W 92 rfl) (W 91 rfl) (W 8 rfl) (W 93 rfl) rfl ES (rm14_L1 l Z a0 hw a2 t ks y0 cs0 h0 n0 Z0 O0 ⟨SCS, hcs⟩ ES FC FV VS) d13_10 [] [] own_pd9 0 (by decide) (fun v968 T968 L968 X968 hQ968 => ?_)
 obtain ⟨rfl, N968q, e968⟩ := hQ968
 have N968 := Fr.app N0 N968q
 refine own_nv (own_isn X968 q d13_13 (l' := #[.val (.ref a1), .val (.ref a2), .val v'1]) rfl (own_aln X968 q d13_14 rfl rfl (own_aln X968 q d13_15 rfl rfl ?_)))
 refine own_gF X968 q hZ e968 hown (W 100 rfl) G2 d13_16 fun T969 X969 e969 => ?_
 refine own_iln X969 q d13_19 rfl (own_iaddk 1 X969 q d13_20 (by decide) ?_)
 refine own_let ?_; intro g971_
 obtain ⟨cq970, q970, q970'⟩ := (E1).cell
 obtain ⟨_, _, ⟨T970, L970, k970, n970⟩, -, X970, ⟨Lc970, hQ970, l970, y970, z970⟩, st970⟩ := X969.privateBack hx (y := own_y28) hown (mvT hZ (W 102 rfl)) (mvT hZ (W 103 rfl)) (own_selP (by decide) (mvT hZ (W 105 rfl)) (mvP hZ (W 104 rfl)) (mvT hZ (W 103 rfl))) (Cond.privateMethod_at (mvP hZ (W 104 rfl) (args := #[]))) (mvT hZ (W 106 rfl)) (by decide) (backOf (W := 0) (rm16_1 l Z a0 hw a1 v0 k0 h0 n0 Z0 G0 G1 VV) hZ (W 106 rfl) (W 71 rfl) (by decide) (by decide)) (g := g971_) rfl (by rw [hml]; rfl) (Steps.refl _) (a := a1) (by rw [e969]; exact q970) q970' (argsL := [v'1]) (rest := []) (lenOf own_pd8 rfl) rfl (by show 2 * 0 + _ ≤ _; exact Nat.le_of_eq rfl) (q.d d13_21) (fun _ _ => ⟨rfl, e969, (by decide : 0 + 0 ≤ _), (by decide : 0 + 0 ≤ _)⟩)
 dsimp only [Pt.U, Pt.locs, Pt.cells, Pt.slots] at X970 l970 y970 z970 st970 hQ970
 rw [l970, y970, z970] at X970
 clear l970 y970 z970
 obtain ⟨rfl, N970q, e970⟩ := hQ970
 have N970 := Fr.app N968 N970q
 refine own_stp 24 (fun _ k => st970.trans k) (own_nn (own_aln X970 q d13_24 rfl rfl (own_aln X970 q d13_25 rfl rfl ?_)))
 refine own_gF X970 q hZ e970 hown (W 100 rfl) G2 d13_26 fun T972 X972 e972 => ?_
 refine own_aln X972 q d13_29 rfl rfl ?_
 refine own_cPh X972 q hZ e972 hown hml (W 107 rfl) (W 108 rfl) (own_selP (by decide) (mvT hZ (W 110 rfl)) (mvP hZ (W 109 rfl)) (mvT hZ (W 108 rfl))) (W 109 rfl) (W 71 rfl) (W 111 rfl) E1 (rm17_L1 l Z a0 hw a1 a2 v0 k0 t ks y0 cs0 fo h0 n0 Z0 O0 ⟨SCS, hcs⟩ SIO hfo E1 G0 G1 G2 G3 VV g1 gv nav ES FC FV VS m1 m2 m3 m4) d13_30 [v'0, (.ref a2)] [] own_pd23 0 (by decide) (fun v973 T973 L973 h973 e973' X973 hQ973 => ?_)
 obtain ⟨b973, k973, rfl, N973q, K973, gb973, nb973, G973_0, G973_1, G973_2, G973_3, V973⟩ := hQ973
 have N973 := Fr.app N970 N973q
 have kp974 := kp0.trans K973 (allS (own_i0) (allS (own_i1) all0))
 refine own_nn (own_aln X973 q d13_33 rfl rfl (own_dp X973 q d13_34 rfl ?_))
 refine own_gF X973 q hZ e973' hown (W 100 rfl) G973_2 d13_35 fun T975 X975 e975 => ?_
 refine own_iln X975 q d13_38 rfl (own_iaddk 1 X975 q d13_39 (by decide) ?_)
 refine own_let ?_; intro g976_
 obtain ⟨T977, h977, X977, e977, W977, st977⟩ := putF X975 hx hZ hown (host := "") (Or.inl (W 100 rfl)) Via.refl e975 G973_2 (E1.keep K973) (Or.inl (W 101 rfl)) (W 62 rfl) (ty := .int) (by decide) rfl rfl (g := g976_) rfl rfl (q.d d13_40)
 have kp978 := kp974.wr W977 (own_i0)
 have Fw977 := (G973_2).same W977
 have N977 := Fr.snoc X977 N973 g1
 refine own_stp 43 st977 (own_aln X977 q d13_43 rfl rfl ?_)
 refine own_rA X977 q hrt d13_44 hlk (by decide) ?_
 show QAPL1 Z a1 v0 y0 h0 n0 _ T977.heap _
 rw [e977]
 exact ⟨_, _, rfl, N977, kp978, gb973, nb973, (G973_0.other W977 (Or.inr (slot_ne (Or.inl (W 76 rfl)) (Or.inl (W 101 rfl)) (by decide) (t := (.array .byte)) (t' := .int) (by decide) (by decide)))), (G973_1.other W977 (Or.inr (slot_ne (Or.inl (W 78 rfl)) (Or.inl (W 101 rfl)) (by decide) (t := .byte) (t' := .int) (by decide) (by decide)))), Fw977, (G973_3.other W977 (Or.inr (slot_ne (Or.inl (W 239 rfl)) (Or.inl (W 101 rfl)) (by decide) (t := .boolean) (t' := .int) (by decide) (by decide)))), (V973.other W977 (Ne.symm nb973))⟩
theorem rm12_L1 (l : Launch) (Z : State) (a0 : Array Value) (hw : own_hw a0 Z) (a1 : Addr) (a2 : Addr) (v0 : Addr) (k0 : ClassId) (t : Addr) (ks : ClassId) (y0 : Int32) (cs0 : Int32) (fo : Value) (h0 : Heap) (n0 : Nat) (Z0 : n0 ≤ h0.size) (O0 : Old Z n0 h0) (SC_ : own_SC Z cs0) (SIO : Sta Z Z.heap "jdk/internal/util/Preconditions" "SIOOBE_FORMATTER" "Ljava/util/function/BiFunction;" fo) (hfo : fo.isRef = true) (E1 : Exa Z h0 a1 "java/lang/StringBuilder") (G0 : F'3 Z h0 a1 (.ref v0)) (G1 : F'2 Z h0 a1 v'0) (G2 : F'4 Z h0 a1 v'0) (G3 : F'5 Z h0 a1 v'0) (VV : Arv Z h0 v0 k0 .byte (16 : Int32) [v'0, v'0, v'0, v'0, v'0, v'0, v'0, v'0, v'0, v'0, v'0, v'0, v'0, v'0, v'0, v'0] v'0) (g1 : n0 ≤ a1) (gv : n0 ≤ v0) (nav : a1 ≠ v0) (ES : Exa Z h0 a2 "java/lang/String") (FC : F'0 Z h0 a2 v'0) (FV : F'1 Z h0 a2 (.ref t)) (VS : Arv Z h0 t ks .byte (1 : Int32) [(.int y0)] v'0) (m1 : a1 ≠ a2) (m2 : v0 ≠ a2) (m3 : a1 ≠ t) (m4 : v0 ≠ t) :
  own_M l Z [] own_y34 b'12 2 (some (.object "java/lang/StringBuilder")) ⟨4, 0, 0, 61⟩ #[(.ref a1), (.ref a2)] h0 (QAPL1 Z a1 v0 y0 h0 n0) := by
 obtain ⟨SCS, hcs⟩ := SC_
 refine own_start (n0 := n0) hw "java/lang/StringBuilder" (L := #[.val (.ref a1), .val (.ref a2)]) pn_12 (fun {p e s m below meth c s₁} q hx W hml hZ hown hnm hlk hrt X0 e0 N0 => ?_)
 have kp0 := Keep.refl h0 [a1]
 have kp0 := Keep.refl h0 [a1, v0]
 refine own_aln X0 q d12_0 rfl rfl (own_aln X0 q d12_1 rfl rfl ?_)
 refine own_let ?_; intro g983_
 obtain ⟨_, _, ⟨T982, L982, k982, n982⟩, -, X982, ⟨Lc982, hQ982, l982, y982, z982⟩, st982⟩ := superBack X0 hx hZ (y := own_y33) hown (W 84 rfl) (own_sameM (by decide) (W 105 rfl) rfl (W 87 rfl)) (W 85 rfl) (W 86 rfl) (by decide) (backOf (W := 0) (rm13_L1 l Z a0 hw a1 a2 v0 k0 t ks y0 cs0 fo h0 n0 Z0 O0 ⟨SCS, hcs⟩ SIO hfo E1 G0 G1 G2 G3 VV g1 gv nav ES FC FV VS m1 m2 m3 m4) hZ (W 88 rfl) (W 71 rfl) (by decide) (by decide)) e0 (Ins.self E1) (g := g983_) rfl (by rw [hml]; rfl) (W 88 rfl) (argsL := [(.ref a2)]) (rest := []) (lenOf own_pd24 rfl) rfl (by show 2 * 0 + _ ≤ _; exact Nat.le_of_eq rfl) (q.d d12_2) (fun _ _ => ⟨rfl, e0, (by decide : 0 + 0 ≤ _), (by decide : 0 + 0 ≤ _)⟩)
 dsimp only [Pt.U, Pt.locs, Pt.cells, Pt.slots] at X982 l982 y982 z982 st982 hQ982
 rw [l982, y982, z982] at X982
 clear l982 y982 z982
 obtain ⟨b982, k982, rfl, N982q, K982, gb982, nb982, G982_0, G982_1, G982_2, G982_3, V982⟩ := hQ982
 have N982 := Fr.app N0 N982q
 obtain ⟨h982, e982⟩ : ∃ z, z = T982.heap := ⟨_, rfl⟩
 have e982' := e982.symm
 rw [← e982] at K982 G982_0 G982_1 G982_2 G982_3 V982
 have kp984 := kp0.trans K982 (allS (own_i0) (allS (own_i1) all0))
 refine own_stp 5 (fun _ k => st982.trans k) (own_nv (own_stp 6 (fun _ k => XS.pop X982.here hx rfl (q.d d12_5) rfl rfl k) (own_aln X982 q d12_6 rfl rfl ?_)))
 refine own_rA X982 q hrt d12_7 hlk (by decide) ?_
 show QAPL1 Z a1 v0 y0 h0 n0 _ T982.heap _
 rw [e982']
 exact ⟨_, _, rfl, N982, kp984, gb982, nb982, G982_0, G982_1, G982_2, G982_3, V982⟩
theorem rm17_L2 (l : Launch) (Z : State) (a0 : Array Value) (hw : own_hw a0 Z) (a1 : Addr) (a2 : Addr) (v0 : Addr) (k0 : ClassId) (t : Addr) (ks : ClassId) (y0 y1 : Int32) (cs0 : Int32) (fo : Value) (h0 : Heap) (n0 : Nat) (Z0 : n0 ≤ h0.size) (O0 : Old Z n0 h0) (SC_ : own_SC Z cs0) (SIO : Sta Z Z.heap "jdk/internal/util/Preconditions" "SIOOBE_FORMATTER" "Ljava/util/function/BiFunction;" fo) (hfo : fo.isRef = true) (E1 : Exa Z h0 a1 "java/lang/StringBuilder") (G0 : F'3 Z h0 a1 (.ref v0)) (G1 : F'2 Z h0 a1 v'0) (G2 : F'4 Z h0 a1 v'0) (G3 : F'5 Z h0 a1 v'0) (VV : Arv Z h0 v0 k0 .byte (16 : Int32) [v'0, v'0, v'0, v'0, v'0, v'0, v'0, v'0, v'0, v'0, v'0, v'0, v'0, v'0, v'0, v'0] v'0) (g1 : n0 ≤ a1) (gv : n0 ≤ v0) (nav : a1 ≠ v0) (ES : Exa Z h0 a2 "java/lang/String") (FC : F'0 Z h0 a2 v'0) (FV : F'1 Z h0 a2 (.ref t)) (VS : Arv Z h0 t ks .byte (2 : Int32) [(.int y0), (.int y1)] v'0) (m1 : a1 ≠ a2) (m2 : v0 ≠ a2) (m3 : a1 ≠ t) (m4 : v0 ≠ t) :
  own_M l Z [] own_y32 b'17 3 none ⟨2, 0, 0, 33⟩ #[(.ref a1), v'0, (.ref a2)] h0 (QPSL2 Z a1 v0 y0 y1 h0 n0) := by
 obtain ⟨SCS, hcs⟩ := SC_
 refine own_start (n0 := n0) hw "java/lang/AbstractStringBuilder" (L := #[.val (.ref a1), .val v'0, .val (.ref a2)]) pn_17 (fun {p e s m below meth c s₁} q hx W hml hZ hown hnm hlk hrt X0 e0 N0 => ?_)
 have kp0 := Keep.refl h0 [a1]
 have kp0 := Keep.refl h0 [a1, v0]
 refine own_aln X0 q d17_0 rfl rfl (own_aln X0 q d17_1 rfl rfl ?_)
 refine own_let ?_; intro g992_
 obtain ⟨cq991, q991, q991'⟩ := (E1).cell
 obtain ⟨_, _, ⟨T991, L991, k991, n991⟩, -, X991, ⟨Lc991, hQ991, l991, y991, z991⟩, st991⟩ := X0.privateBack hx (y := own_y30) hown (mvT hZ (W 112 rfl)) (mvT hZ (W 113 rfl)) (own_selP (by decide) (mvT hZ (W 115 rfl)) (mvP hZ (W 114 rfl)) (mvT hZ (W 113 rfl))) (Cond.privateMethod_at (mvP hZ (W 114 rfl) (args := #[]))) (mvT hZ (W 116 rfl)) (by decide) (backOf (W := 0) (rm18_L0 l Z a0 hw a1 a2 cs0 h0 n0 Z0 O0 ⟨SCS, hcs⟩ G1 ES FC) hZ (W 116 rfl) (W 71 rfl) (by decide) (by decide)) (g := g992_) rfl (by rw [hml]; rfl) (Steps.refl _) (a := a1) (by rw [e0]; exact q991) q991' (argsL := [(.ref a2)]) (rest := []) (lenOf own_pd21 rfl) rfl (by show 2 * 0 + _ ≤ _; exact Nat.le_of_eq rfl) (q.d d17_2) (fun _ _ => ⟨rfl, e0, (by decide : 0 + 0 ≤ _), (by decide : 0 + 0 ≤ _)⟩)
 dsimp only [Pt.U, Pt.locs, Pt.cells, Pt.slots] at X991 l991 y991 z991 st991 hQ991
 rw [l991, y991, z991] at X991
 clear l991 y991 z991
 obtain ⟨rfl, N991q, e991⟩ := hQ991
 have N991 := Fr.app N0 N991q
 refine own_stp 5 (fun _ k => st991.trans k) (own_nn (own_aln X991 q d17_5 rfl rfl (own_aln X991 q d17_6 rfl rfl ?_)))
 refine own_gF X991 q hZ e991 hown (W 75 rfl) G0 d17_7 fun T993 X993 e993 => ?_
 refine own_iln X993 q d17_10 rfl (own_aln X993 q d17_11 rfl rfl ?_)
 refine own_gF X993 q hZ e993 hown (W 77 rfl) G1 d17_12 fun T994 X994 e994 => ?_
 refine own_cVh X994 q hZ e994 hown hml (W 118 rfl) (W 119 rfl) (W 121 rfl) (W 120 rfl) (W 8 rfl) (W 122 rfl) rfl ES (rm19_L2 l Z a0 hw a2 v0 t ks k0 y0 y1 cs0 h0 n0 Z0 O0 ⟨SCS, hcs⟩ ES FC FV VS VV gv (Ne.symm m4) (Ne.symm m2)) d17_15 [(.ref v0), v'0, v'0] [] own_pd22 0 (by decide) (fun v995 T995 L995 h995 e995' X995 hQ995 => ?_)
 obtain ⟨rfl, N995q, K995, V995⟩ := hQ995
 have N995 := Fr.app N991 N995q
 have kp996 := kp0.trans K995 (allS (own_i1) all0)
 refine own_nn ?_
 refine own_rV X995 q hrt d17_18 hlk (by decide) ?_
 show QPSL2 Z a1 v0 y0 y1 h0 n0 _ T995.heap _
 rw [e995']
 exact ⟨_, _, rfl, N995, kp996, gv, nav, (G0.keep K995 (ninS nav nin0)), (G1.keep K995 (ninS nav nin0)), (G2.keep K995 (ninS nav nin0)), (G3.keep K995 (ninS nav nin0)), V995⟩
theorem rm13_L2 (l : Launch) (Z : State) (a0 : Array Value) (hw : own_hw a0 Z) (a1 : Addr) (a2 : Addr) (v0 : Addr) (k0 : ClassId) (t : Addr) (ks : ClassId) (y0 y1 : Int32) (cs0 : Int32) (fo : Value) (h0 : Heap) (n0 : Nat) (Z0 : n0 ≤ h0.size) (O0 : Old Z n0 h0) (SC_ : own_SC Z cs0) (SIO : Sta Z Z.heap "jdk/internal/util/Preconditions" "SIOOBE_FORMATTER" "Ljava/util/function/BiFunction;" fo) (hfo : fo.isRef = true) (E1 : Exa Z h0 a1 "java/lang/StringBuilder") (G0 : F'3 Z h0 a1 (.ref v0)) (G1 : F'2 Z h0 a1 v'0) (G2 : F'4 Z h0 a1 v'0) (G3 : F'5 Z h0 a1 v'0) (VV : Arv Z h0 v0 k0 .byte (16 : Int32) [v'0, v'0, v'0, v'0, v'0, v'0, v'0, v'0, v'0, v'0, v'0, v'0, v'0, v'0, v'0, v'0] v'0) (g1 : n0 ≤ a1) (gv : n0 ≤ v0) (nav : a1 ≠ v0) (ES : Exa Z h0 a2 "java/lang/String") (FC : F'0 Z h0 a2 v'0) (FV : F'1 Z h0 a2 (.ref t)) (VS : Arv Z h0 t ks .byte (2 : Int32) [(.int y0), (.int y1)] v'0) (m1 : a1 ≠ a2) (m2 : v0 ≠ a2) (m3 : a1 ≠ t) (m4 : v0 ≠ t) :
  own_M l Z [] own_y33 b'13 3 (some (.object "java/lang/AbstractStringBuilder")) ⟨3, 0, 0, 47⟩ #[(.ref a1), (.ref a2)] h0 (QAPL2 Z a1 v0 y0 y1 h0 n0) := by
 obtain ⟨SCS, hcs⟩ := SC_
 refine own_start (n0 := n0) hw "java/lang/AbstractStringBuilder" (L := #[.val (.ref a1), .val (.ref a2), .unset]) pn_13 (fun {p e s m below meth c s₁} q hx W hml hZ hown hnm hlk hrt X0 e0 N0 => ?_)
 have kp0 := Keep.refl h0 [a1]
 have kp0 := Keep.refl h0 [a1, v0]
 refine own_aln X0 q d13_0 rfl rfl (own_stp 9 (fun _ k => XS.ifnonnullYes X0.here hx rfl (pc0 := 1) (pc' := 9) rfl (q.d d13_1) rfl (by decide) (by decide) k) (own_aln X0 q d13_9 rfl rfl ?_))
 refine own_cV X0 q hZ e0 hown hml (W 89 rfl) (W 90 rfl) (W 92 rfl) (W 91 rfl) (W 8 rfl) (W 93 rfl) rfl ES (rm14_L2 l Z a0 hw a2 t ks y0 y1 cs0 h0 n0 Z0 O0 ⟨SCS, hcs⟩ ES FC FV VS) d13_10 [] [] own_pd9 0 (by decide) (fun v1008 T1008 L1008 X1008 hQ1008 => ?_)
 obtain ⟨rfl, N1008q, e1008⟩ := hQ1008
 have N1008 := Fr.app N0 N1008q
 refine own_nv (own_isn X1008 q d13_13 (l' := #[.val (.ref a1), .val (.ref a2), .val v'2]) rfl (own_aln X1008 q d13_14 rfl rfl (own_aln X1008 q d13_15 rfl rfl ?_)))
 refine own_gF X1008 q hZ e1008 hown (W 100 rfl) G2 d13_16 fun T1009 X1009 e1009 => ?_
 refine own_iln X1009 q d13_19 rfl (own_iaddk 2 X1009 q d13_20 (by decide) ?_)
 refine own_let ?_; intro g1011_
 obtain ⟨cq1010, q1010, q1010'⟩ := (E1).cell
 obtain ⟨_, _, ⟨T1010, L1010, k1010, n1010⟩, -, X1010, ⟨Lc1010, hQ1010, l1010, y1010, z1010⟩, st1010⟩ := X1009.privateBack hx (y := own_y28) hown (mvT hZ (W 102 rfl)) (mvT hZ (W 103 rfl)) (own_selP (by decide) (mvT hZ (W 105 rfl)) (mvP hZ (W 104 rfl)) (mvT hZ (W 103 rfl))) (Cond.privateMethod_at (mvP hZ (W 104 rfl) (args := #[]))) (mvT hZ (W 106 rfl)) (by decide) (backOf (W := 0) (rm16_2 l Z a0 hw a1 v0 k0 h0 n0 Z0 G0 G1 VV) hZ (W 106 rfl) (W 71 rfl) (by decide) (by decide)) (g := g1011_) rfl (by rw [hml]; rfl) (Steps.refl _) (a := a1) (by rw [e1009]; exact q1010) q1010' (argsL := [v'2]) (rest := []) (lenOf own_pd8 rfl) rfl (by show 2 * 0 + _ ≤ _; exact Nat.le_of_eq rfl) (q.d d13_21) (fun _ _ => ⟨rfl, e1009, (by decide : 0 + 0 ≤ _), (by decide : 0 + 0 ≤ _)⟩)
 dsimp only [Pt.U, Pt.locs, Pt.cells, Pt.slots] at X1010 l1010 y1010 z1010 st1010 hQ1010
 rw [l1010, y1010, z1010] at X1010
 clear l1010 y1010 z1010
 obtain ⟨rfl, N1010q, e1010⟩ := hQ1010
 have N1010 := Fr.app N1008 N1010q
 refine own_stp 24 (fun _ k => st1010.trans k) (own_nn (own_aln X1010 q d13_24 rfl rfl (own_aln X1010 q d13_25 rfl rfl ?_)))
 refine own_gF X1010 q hZ e1010 hown (W 100 rfl) G2 d13_26 fun T1012 X1012 e1012 => ?_
 refine own_aln X1012 q d13_29 rfl rfl ?_
 refine own_cPh X1012 q hZ e1012 hown hml (W 107 rfl) (W 108 rfl) (own_selP (by decide) (mvT hZ (W 110 rfl)) (mvP hZ (W 109 rfl)) (mvT hZ (W 108 rfl))) (W 109 rfl) (W 71 rfl) (W 111 rfl) E1 (rm17_L2 l Z a0 hw a1 a2 v0 k0 t ks y0 y1 cs0 fo h0 n0 Z0 O0 ⟨SCS, hcs⟩ SIO hfo E1 G0 G1 G2 G3 VV g1 gv nav ES FC FV VS m1 m2 m3 m4) d13_30 [v'0, (.ref a2)] [] own_pd23 0 (by decide) (fun v1013 T1013 L1013 h1013 e1013' X1013 hQ1013 => ?_)
 obtain ⟨b1013, k1013, rfl, N1013q, K1013, gb1013, nb1013, G1013_0, G1013_1, G1013_2, G1013_3, V1013⟩ := hQ1013
 have N1013 := Fr.app N1010 N1013q
 have kp1014 := kp0.trans K1013 (allS (own_i0) (allS (own_i1) all0))
 refine own_nn (own_aln X1013 q d13_33 rfl rfl (own_dp X1013 q d13_34 rfl ?_))
 refine own_gF X1013 q hZ e1013' hown (W 100 rfl) G1013_2 d13_35 fun T1015 X1015 e1015 => ?_
 refine own_iln X1015 q d13_38 rfl (own_iaddk 2 X1015 q d13_39 (by decide) ?_)
 refine own_let ?_; intro g1016_
 obtain ⟨T1017, h1017, X1017, e1017, W1017, st1017⟩ := putF X1015 hx hZ hown (host := "") (Or.inl (W 100 rfl)) Via.refl e1015 G1013_2 (E1.keep K1013) (Or.inl (W 101 rfl)) (W 62 rfl) (ty := .int) (by decide) rfl rfl (g := g1016_) rfl rfl (q.d d13_40)
 have kp1018 := kp1014.wr W1017 (own_i0)
 have Fw1017 := (G1013_2).same W1017
 have N1017 := Fr.snoc X1017 N1013 g1
 refine own_stp 43 st1017 (own_aln X1017 q d13_43 rfl rfl ?_)
 refine own_rA X1017 q hrt d13_44 hlk (by decide) ?_
 show QAPL2 Z a1 v0 y0 y1 h0 n0 _ T1017.heap _
 rw [e1017]
 exact ⟨_, _, rfl, N1017, kp1018, gb1013, nb1013, (G1013_0.other W1017 (Or.inr (slot_ne (Or.inl (W 76 rfl)) (Or.inl (W 101 rfl)) (by decide) (t := (.array .byte)) (t' := .int) (by decide) (by decide)))), (G1013_1.other W1017 (Or.inr (slot_ne (Or.inl (W 78 rfl)) (Or.inl (W 101 rfl)) (by decide) (t := .byte) (t' := .int) (by decide) (by decide)))), Fw1017, (G1013_3.other W1017 (Or.inr (slot_ne (Or.inl (W 239 rfl)) (Or.inl (W 101 rfl)) (by decide) (t := .boolean) (t' := .int) (by decide) (by decide)))), (V1013.other W1017 (Ne.symm nb1013))⟩
theorem rm12_L2 (l : Launch) (Z : State) (a0 : Array Value) (hw : own_hw a0 Z) (a1 : Addr) (a2 : Addr) (v0 : Addr) (k0 : ClassId) (t : Addr) (ks : ClassId) (y0 y1 : Int32) (cs0 : Int32) (fo : Value) (h0 : Heap) (n0 : Nat) (Z0 : n0 ≤ h0.size) (O0 : Old Z n0 h0) (SC_ : own_SC Z cs0) (SIO : Sta Z Z.heap "jdk/internal/util/Preconditions" "SIOOBE_FORMATTER" "Ljava/util/function/BiFunction;" fo) (hfo : fo.isRef = true) (E1 : Exa Z h0 a1 "java/lang/StringBuilder") (G0 : F'3 Z h0 a1 (.ref v0)) (G1 : F'2 Z h0 a1 v'0) (G2 : F'4 Z h0 a1 v'0) (G3 : F'5 Z h0 a1 v'0) (VV : Arv Z h0 v0 k0 .byte (16 : Int32) [v'0, v'0, v'0, v'0, v'0, v'0, v'0, v'0, v'0, v'0, v'0, v'0, v'0, v'0, v'0, v'0] v'0) (g1 : n0 ≤ a1) (gv : n0 ≤ v0) (nav : a1 ≠ v0) (ES : Exa Z h0 a2 "java/lang/String") (FC : F'0 Z h0 a2 v'0) (FV : F'1 Z h0 a2 (.ref t)) (VS : Arv Z h0 t ks .byte (2 : Int32) [(.int y0), (.int y1)] v'0) (m1 : a1 ≠ a2) (m2 : v0 ≠ a2) (m3 : a1 ≠ t) (m4 : v0 ≠ t) :
  own_M l Z [] own_y34 b'12 2 (some (.object "java/lang/StringBuilder")) ⟨4, 0, 0, 61⟩ #[(.ref a1), (.ref a2)] h0 (QAPL2 Z a1 v0 y0 y1 h0 n0) := by
 obtain ⟨SCS, hcs⟩ := SC_
 refine own_start (n0 := n0) hw "java/lang/StringBuilder" (L := #[.val (.ref a1), .val (.ref a2)]) pn_12 (fun {p e s m below meth c s₁} q hx W hml hZ hown hnm hlk hrt X0 e0 N0 => ?_)
 have kp0 := Keep.refl h0 [a1]
 have kp0 := Keep.refl h0 [a1, v0]
 refine own_aln X0 q d12_0 rfl rfl (own_aln X0 q d12_1 rfl rfl ?_)
 refine own_let ?_; intro g1023_
 obtain ⟨_, _, ⟨T1022, L1022, k1022, n1022⟩, -, X1022, ⟨Lc1022, hQ1022, l1022, y1022, z1022⟩, st1022⟩ := superBack X0 hx hZ (y := own_y33) hown (W 84 rfl) (own_sameM (by decide) (W 105 rfl) rfl (W 87 rfl)) (W 85 rfl) (W 86 rfl) (by decide) (backOf (W := 0) (rm13_L2 l Z a0 hw a1 a2 v0 k0 t ks y0 y1 cs0 fo h0 n0 Z0 O0 ⟨SCS, hcs⟩ SIO hfo E1 G0 G1 G2 G3 VV g1 gv nav ES FC FV VS m1 m2 m3 m4) hZ (W 88 rfl) (W 71 rfl) (by decide) (by decide)) e0 (Ins.self E1) (g := g1023_) rfl (by rw [hml]; rfl) (W 88 rfl) (argsL := [(.ref a2)]) (rest := []) (lenOf own_pd24 rfl) rfl (by show 2 * 0 + _ ≤ _; exact Nat.le_of_eq rfl) (q.d d12_2) (fun _ _ => ⟨rfl, e0, (by decide : 0 + 0 ≤ _), (by decide : 0 + 0 ≤ _)⟩)
 dsimp only [Pt.U, Pt.locs, Pt.cells, Pt.slots] at X1022 l1022 y1022 z1022 st1022 hQ1022
 rw [l1022, y1022, z1022] at X1022
 clear l1022 y1022 z1022
 obtain ⟨b1022, k1022, rfl, N1022q, K1022, gb1022, nb1022, G1022_0, G1022_1, G1022_2, G1022_3, V1022⟩ := hQ1022
 have N1022 := Fr.app N0 N1022q
 obtain ⟨h1022, e1022⟩ : ∃ z, z = T1022.heap := ⟨_, rfl⟩
 have e1022' := e1022.symm
 rw [← e1022] at K1022 G1022_0 G1022_1 G1022_2 G1022_3 V1022
 have kp1024 := kp0.trans K1022 (allS (own_i0) (allS (own_i1) all0))
 refine own_stp 5 (fun _ k => st1022.trans k) (own_nv (own_stp 6 (fun _ k => XS.pop X1022.here hx rfl (q.d d12_5) rfl rfl k) (own_aln X1022 q d12_6 rfl rfl ?_)))
 refine own_rA X1022 q hrt d12_7 hlk (by decide) ?_
 show QAPL2 Z a1 v0 y0 y1 h0 n0 _ T1022.heap _
 rw [e1022']
 exact ⟨_, _, rfl, N1022, kp1024, gb1022, nb1022, G1022_0, G1022_1, G1022_2, G1022_3, V1022⟩
theorem rm17_L3 (l : Launch) (Z : State) (a0 : Array Value) (hw : own_hw a0 Z) (a1 : Addr) (a2 : Addr) (v0 : Addr) (k0 : ClassId) (t : Addr) (ks : ClassId) (y0 y1 y2 : Int32) (cs0 : Int32) (fo : Value) (h0 : Heap) (n0 : Nat) (Z0 : n0 ≤ h0.size) (O0 : Old Z n0 h0) (SC_ : own_SC Z cs0) (SIO : Sta Z Z.heap "jdk/internal/util/Preconditions" "SIOOBE_FORMATTER" "Ljava/util/function/BiFunction;" fo) (hfo : fo.isRef = true) (E1 : Exa Z h0 a1 "java/lang/StringBuilder") (G0 : F'3 Z h0 a1 (.ref v0)) (G1 : F'2 Z h0 a1 v'0) (G2 : F'4 Z h0 a1 v'0) (G3 : F'5 Z h0 a1 v'0) (VV : Arv Z h0 v0 k0 .byte (16 : Int32) [v'0, v'0, v'0, v'0, v'0, v'0, v'0, v'0, v'0, v'0, v'0, v'0, v'0, v'0, v'0, v'0] v'0) (g1 : n0 ≤ a1) (gv : n0 ≤ v0) (nav : a1 ≠ v0) (ES : Exa Z h0 a2 "java/lang/String") (FC : F'0 Z h0 a2 v'0) (FV : F'1 Z h0 a2 (.ref t)) (VS : Arv Z h0 t ks .byte (3 : Int32) [(.int y0), (.int y1), (.int y2)] v'0) (m1 : a1 ≠ a2) (m2 : v0 ≠ a2) (m3 : a1 ≠ t) (m4 : v0 ≠ t) :
  own_M l Z [] own_y32 b'17 3 none ⟨2, 0, 0, 33⟩ #[(.ref a1), v'0, (.ref a2)] h0 (QPSL3 Z a1 v0 y0 y1 y2 h0 n0) := by
 obtain ⟨SCS, hcs⟩ := SC_
 refine own_start (n0 := n0) hw "java/lang/AbstractStringBuilder" (L := #[.val (.ref a1), .val v'0, .val (.ref a2)]) pn_17 (fun {p e s m below meth c s₁} q hx W hml hZ hown hnm hlk hrt X0 e0 N0 => ?_)
 have kp0 := Keep.refl h0 [a1]
 have kp0 := Keep.refl h0 [a1, v0]
 refine own_aln X0 q d17_0 rfl rfl (own_aln X0 q d17_1 rfl rfl ?_)
 refine own_let ?_; intro g1032_
 obtain ⟨cq1031, q1031, q1031'⟩ := (E1).cell
 obtain ⟨_, _, ⟨T1031, L1031, k1031, n1031⟩, -, X1031, ⟨Lc1031, hQ1031, l1031, y1031, z1031⟩, st1031⟩ := X0.privateBack hx (y := own_y30) hown (mvT hZ (W 112 rfl)) (mvT hZ (W 113 rfl)) (own_selP (by decide) (mvT hZ (W 115 rfl)) (mvP hZ (W 114 rfl)) (mvT hZ (W 113 rfl))) (Cond.privateMethod_at (mvP hZ (W 114 rfl) (args := #[]))) (mvT hZ (W 116 rfl)) (by decide) (backOf (W := 0) (rm18_L0 l Z a0 hw a1 a2 cs0 h0 n0 Z0 O0 ⟨SCS, hcs⟩ G1 ES FC) hZ (W 116 rfl) (W 71 rfl) (by decide) (by decide)) (g := g1032_) rfl (by rw [hml]; rfl) (Steps.refl _) (a := a1) (by rw [e0]; exact q1031) q1031' (argsL := [(.ref a2)]) (rest := []) (lenOf own_pd21 rfl) rfl (by show 2 * 0 + _ ≤ _; exact Nat.le_of_eq rfl) (q.d d17_2) (fun _ _ => ⟨rfl, e0, (by decide : 0 + 0 ≤ _), (by decide : 0 + 0 ≤ _)⟩)
 dsimp only [Pt.U, Pt.locs, Pt.cells, Pt.slots] at X1031 l1031 y1031 z1031 st1031 hQ1031
 rw [l1031, y1031, z1031] at X1031
 clear l1031 y1031 z1031
 obtain ⟨rfl, N1031q, e1031⟩ := hQ1031
 have N1031 := Fr.app N0 N1031q
 refine own_stp 5 (fun _ k => st1031.trans k) (own_nn (own_aln X1031 q d17_5 rfl rfl (own_aln X1031 q d17_6 rfl rfl ?_)))
 refine own_gF X1031 q hZ e1031 hown (W 75 rfl) G0 d17_7 fun T1033 X1033 e1033 => ?_
 refine own_iln X1033 q d17_10 rfl (own_aln X1033 q d17_11 rfl rfl ?_)
 refine own_gF X1033 q hZ e1033 hown (W 77 rfl) G1 d17_12 fun T1034 X1034 e1034 => ?_
 refine own_cVh X1034 q hZ e1034 hown hml (W 118 rfl) (W 119 rfl) (W 121 rfl) (W 120 rfl) (W 8 rfl) (W 122 rfl) rfl ES (rm19_L3 l Z a0 hw a2 v0 t ks k0 y0 y1 y2 cs0 h0 n0 Z0 O0 ⟨SCS, hcs⟩ ES FC FV VS VV gv (Ne.symm m4) (Ne.symm m2)) d17_15 [(.ref v0), v'0, v'0] [] own_pd22 0 (by decide) (fun v1035 T1035 L1035 h1035 e1035' X1035 hQ1035 => ?_)
 obtain ⟨rfl, N1035q, K1035, V1035⟩ := hQ1035
 have N1035 := Fr.app N1031 N1035q
 have kp1036 := kp0.trans K1035 (allS (own_i1) all0)
 refine own_nn ?_
 refine own_rV X1035 q hrt d17_18 hlk (by decide) ?_
 show QPSL3 Z a1 v0 y0 y1 y2 h0 n0 _ T1035.heap _
 rw [e1035']
 exact ⟨_, _, rfl, N1035, kp1036, gv, nav, (G0.keep K1035 (ninS nav nin0)), (G1.keep K1035 (ninS nav nin0)), (G2.keep K1035 (ninS nav nin0)), (G3.keep K1035 (ninS nav nin0)), V1035⟩
theorem rm13_L3 (l : Launch) (Z : State) (a0 : Array Value) (hw : own_hw a0 Z) (a1 : Addr) (a2 : Addr) (v0 : Addr) (k0 : ClassId) (t : Addr) (ks : ClassId) (y0 y1 y2 : Int32) (cs0 : Int32) (fo : Value) (h0 : Heap) (n0 : Nat) (Z0 : n0 ≤ h0.size) (O0 : Old Z n0 h0) (SC_ : own_SC Z cs0) (SIO : Sta Z Z.heap "jdk/internal/util/Preconditions" "SIOOBE_FORMATTER" "Ljava/util/function/BiFunction;" fo) (hfo : fo.isRef = true) (E1 : Exa Z h0 a1 "java/lang/StringBuilder") (G0 : F'3 Z h0 a1 (.ref v0)) (G1 : F'2 Z h0 a1 v'0) (G2 : F'4 Z h0 a1 v'0) (G3 : F'5 Z h0 a1 v'0) (VV : Arv Z h0 v0 k0 .byte (16 : Int32) [v'0, v'0, v'0, v'0, v'0, v'0, v'0, v'0, v'0, v'0, v'0, v'0, v'0, v'0, v'0, v'0] v'0) (g1 : n0 ≤ a1) (gv : n0 ≤ v0) (nav : a1 ≠ v0) (ES : Exa Z h0 a2 "java/lang/String") (FC : F'0 Z h0 a2 v'0) (FV : F'1 Z h0 a2 (.ref t)) (VS : Arv Z h0 t ks .byte (3 : Int32) [(.int y0), (.int y1), (.int y2)] v'0) (m1 : a1 ≠ a2) (m2 : v0 ≠ a2) (m3 : a1 ≠ t) (m4 : v0 ≠ t) :
  own_M l Z [] own_y33 b'13 3 (some (.object "java/lang/AbstractStringBuilder")) ⟨3, 0, 0, 47⟩ #[(.ref a1), (.ref a2)] h0 (QAPL3 Z a1 v0 y0 y1 y2 h0 n0) := by
 obtain ⟨SCS, hcs⟩ := SC_
 refine own_start (n0 := n0) hw "java/lang/AbstractStringBuilder" (L := #[.val (.ref a1), .val (.ref a2), .unset]) pn_13 (fun {p e s m below meth c s₁} q hx W hml hZ hown hnm hlk hrt X0 e0 N0 => ?_)
 have kp0 := Keep.refl h0 [a1]
 have kp0 := Keep.refl h0 [a1, v0]
 refine own_aln X0 q d13_0 rfl rfl (own_stp 9 (fun _ k => XS.ifnonnullYes X0.here hx rfl (pc0 := 1) (pc' := 9) rfl (q.d d13_1) rfl (by decide) (by decide) k) (own_aln X0 q d13_9 rfl rfl ?_))
 refine own_cV X0 q hZ e0 hown hml (W 89 rfl) (W 90 rfl) (W 92 rfl) (W 91 rfl) (W 8 rfl) (W 93 rfl) rfl ES (rm14_L3 l Z a0 hw a2 t ks y0 y1 y2 cs0 h0 n0 Z0 O0 ⟨SCS, hcs⟩ ES FC FV VS) d13_10 [] [] own_pd9 0 (by decide) (fun v1048 T1048 L1048 X1048 hQ1048 => ?_)
 obtain ⟨rfl, N1048q, e1048⟩ := hQ1048
 have N1048 := Fr.app N0 N1048q
 refine own_nv (own_isn X1048 q d13_13 (l' := #[.val (.ref a1), .val (.ref a2), .val v'3]) rfl (own_aln X1048 q d13_14 rfl rfl (own_aln X1048 q d13_15 rfl rfl ?_)))
 refine own_gF X1048 q hZ e1048 hown (W 100 rfl) G2 d13_16 fun T1049 X1049 e1049 => ?_
 refine own_iln X1049 q d13_19 rfl (own_iaddk 3 X1049 q d13_20 (by decide) ?_)
 refine own_let ?_; intro g1051_
 obtain ⟨cq1050, q1050, q1050'⟩ := (E1).cell
 obtain ⟨_, _, ⟨T1050, L1050, k1050, n1050⟩, -, X1050, ⟨Lc1050, hQ1050, l1050, y1050, z1050⟩, st1050⟩ := X1049.privateBack hx (y := own_y28) hown (mvT hZ (W 102 rfl)) (mvT hZ (W 103 rfl)) (own_selP (by decide) (mvT hZ (W 105 rfl)) (mvP hZ (W 104 rfl)) (mvT hZ (W 103 rfl))) (Cond.privateMethod_at (mvP hZ (W 104 rfl) (args := #[]))) (mvT hZ (W 106 rfl)) (by decide) (backOf (W := 0) (rm16_3 l Z a0 hw a1 v0 k0 h0 n0 Z0 G0 G1 VV) hZ (W 106 rfl) (W 71 rfl) (by decide) (by decide)) (g := g1051_) rfl (by rw [hml]; rfl) (Steps.refl _) (a := a1) (by rw [e1049]; exact q1050) q1050' (argsL := [v'3]) (rest := []) (lenOf own_pd8 rfl) rfl (by show 2 * 0 + _ ≤ _; exact Nat.le_of_eq rfl) (q.d d13_21) (fun _ _ => ⟨rfl, e1049, (by decide : 0 + 0 ≤ _), (by decide : 0 + 0 ≤ _)⟩)
 dsimp only [Pt.U, Pt.locs, Pt.cells, Pt.slots] at X1050 l1050 y1050 z1050 st1050 hQ1050
 rw [l1050, y1050, z1050] at X1050
 clear l1050 y1050 z1050
 obtain ⟨rfl, N1050q, e1050⟩ := hQ1050
 have N1050 := Fr.app N1048 N1050q
 refine own_stp 24 (fun _ k => st1050.trans k) (own_nn (own_aln X1050 q d13_24 rfl rfl (own_aln X1050 q d13_25 rfl rfl ?_)))
 refine own_gF X1050 q hZ e1050 hown (W 100 rfl) G2 d13_26 fun T1052 X1052 e1052 => ?_
 refine own_aln X1052 q d13_29 rfl rfl ?_
 refine own_cPh X1052 q hZ e1052 hown hml (W 107 rfl) (W 108 rfl) (own_selP (by decide) (mvT hZ (W 110 rfl)) (mvP hZ (W 109 rfl)) (mvT hZ (W 108 rfl))) (W 109 rfl) (W 71 rfl) (W 111 rfl) E1 (rm17_L3 l Z a0 hw a1 a2 v0 k0 t ks y0 y1 y2 cs0 fo h0 n0 Z0 O0 ⟨SCS, hcs⟩ SIO hfo E1 G0 G1 G2 G3 VV g1 gv nav ES FC FV VS m1 m2 m3 m4) d13_30 [v'0, (.ref a2)] [] own_pd23 0 (by decide) (fun v1053 T1053 L1053 h1053 e1053' X1053 hQ1053 => ?_)
 obtain ⟨b1053, k1053, rfl, N1053q, K1053, gb1053, nb1053, G1053_0, G1053_1, G1053_2, G1053_3, V1053⟩ := hQ1053
 have N1053 := Fr.app N1050 N1053q
 have kp1054 := kp0.trans K1053 (allS (own_i0) (allS (own_i1) all0))
 refine own_nn (own_aln X1053 q d13_33 rfl rfl (own_dp X1053 q d13_34 rfl ?_))
 refine own_gF X1053 q hZ e1053' hown (W 100 rfl) G1053_2 d13_35 fun T1055 X1055 e1055 => ?_
 refine own_iln X1055 q d13_38 rfl (own_iaddk 3 X1055 q d13_39 (by decide) ?_)
 refine own_let ?_; intro g1056_
 obtain ⟨T1057, h1057, X1057, e1057, W1057, st1057⟩ := putF X1055 hx hZ hown (host := "") (Or.inl (W 100 rfl)) Via.refl e1055 G1053_2 (E1.keep K1053) (Or.inl (W 101 rfl)) (W 62 rfl) (ty := .int) (by decide) rfl rfl (g := g1056_) rfl rfl (q.d d13_40)
 have kp1058 := kp1054.wr W1057 (own_i0)
 have Fw1057 := (G1053_2).same W1057
 have N1057 := Fr.snoc X1057 N1053 g1
 refine own_stp 43 st1057 (own_aln X1057 q d13_43 rfl rfl ?_)
 refine own_rA X1057 q hrt d13_44 hlk (by decide) ?_
 show QAPL3 Z a1 v0 y0 y1 y2 h0 n0 _ T1057.heap _
 rw [e1057]
 exact ⟨_, _, rfl, N1057, kp1058, gb1053, nb1053, (G1053_0.other W1057 (Or.inr (slot_ne (Or.inl (W 76 rfl)) (Or.inl (W 101 rfl)) (by decide) (t := (.array .byte)) (t' := .int) (by decide) (by decide)))), (G1053_1.other W1057 (Or.inr (slot_ne (Or.inl (W 78 rfl)) (Or.inl (W 101 rfl)) (by decide) (t := .byte) (t' := .int) (by decide) (by decide)))), Fw1057, (G1053_3.other W1057 (Or.inr (slot_ne (Or.inl (W 239 rfl)) (Or.inl (W 101 rfl)) (by decide) (t := .boolean) (t' := .int) (by decide) (by decide)))), (V1053.other W1057 (Ne.symm nb1053))⟩
theorem rm12_L3 (l : Launch) (Z : State) (a0 : Array Value) (hw : own_hw a0 Z) (a1 : Addr) (a2 : Addr) (v0 : Addr) (k0 : ClassId) (t : Addr) (ks : ClassId) (y0 y1 y2 : Int32) (cs0 : Int32) (fo : Value) (h0 : Heap) (n0 : Nat) (Z0 : n0 ≤ h0.size) (O0 : Old Z n0 h0) (SC_ : own_SC Z cs0) (SIO : Sta Z Z.heap "jdk/internal/util/Preconditions" "SIOOBE_FORMATTER" "Ljava/util/function/BiFunction;" fo) (hfo : fo.isRef = true) (E1 : Exa Z h0 a1 "java/lang/StringBuilder") (G0 : F'3 Z h0 a1 (.ref v0)) (G1 : F'2 Z h0 a1 v'0) (G2 : F'4 Z h0 a1 v'0) (G3 : F'5 Z h0 a1 v'0) (VV : Arv Z h0 v0 k0 .byte (16 : Int32) [v'0, v'0, v'0, v'0, v'0, v'0, v'0, v'0, v'0, v'0, v'0, v'0, v'0, v'0, v'0, v'0] v'0) (g1 : n0 ≤ a1) (gv : n0 ≤ v0) (nav : a1 ≠ v0) (ES : Exa Z h0 a2 "java/lang/String") (FC : F'0 Z h0 a2 v'0) (FV : F'1 Z h0 a2 (.ref t)) (VS : Arv Z h0 t ks .byte (3 : Int32) [(.int y0), (.int y1), (.int y2)] v'0) (m1 : a1 ≠ a2) (m2 : v0 ≠ a2) (m3 : a1 ≠ t) (m4 : v0 ≠ t) :
  own_M l Z [] own_y34 b'12 2 (some (.object "java/lang/StringBuilder")) ⟨4, 0, 0, 61⟩ #[(.ref a1), (.ref a2)] h0 (QAPL3 Z a1 v0 y0 y1 y2 h0 n0) := by
 obtain ⟨SCS, hcs⟩ := SC_
 refine own_start (n0 := n0) hw "java/lang/StringBuilder" (L := #[.val (.ref a1), .val (.ref a2)]) pn_12 (fun {p e s m below meth c s₁} q hx W hml hZ hown hnm hlk hrt X0 e0 N0 => ?_)
 have kp0 := Keep.refl h0 [a1]
 have kp0 := Keep.refl h0 [a1, v0]
 refine own_aln X0 q d12_0 rfl rfl (own_aln X0 q d12_1 rfl rfl ?_)
 refine own_let ?_; intro g1063_
 obtain ⟨_, _, ⟨T1062, L1062, k1062, n1062⟩, -, X1062, ⟨Lc1062, hQ1062, l1062, y1062, z1062⟩, st1062⟩ := superBack X0 hx hZ (y := own_y33) hown (W 84 rfl) (own_sameM (by decide) (W 105 rfl) rfl (W 87 rfl)) (W 85 rfl) (W 86 rfl) (by decide) (backOf (W := 0) (rm13_L3 l Z a0 hw a1 a2 v0 k0 t ks y0 y1 y2 cs0 fo h0 n0 Z0 O0 ⟨SCS, hcs⟩ SIO hfo E1 G0 G1 G2 G3 VV g1 gv nav ES FC FV VS m1 m2 m3 m4) hZ (W 88 rfl) (W 71 rfl) (by decide) (by decide)) e0 (Ins.self E1) (g := g1063_) rfl (by rw [hml]; rfl) (W 88 rfl) (argsL := [(.ref a2)]) (rest := []) (lenOf own_pd24 rfl) rfl (by show 2 * 0 + _ ≤ _; exact Nat.le_of_eq rfl) (q.d d12_2) (fun _ _ => ⟨rfl, e0, (by decide : 0 + 0 ≤ _), (by decide : 0 + 0 ≤ _)⟩)
 dsimp only [Pt.U, Pt.locs, Pt.cells, Pt.slots] at X1062 l1062 y1062 z1062 st1062 hQ1062
 rw [l1062, y1062, z1062] at X1062
 clear l1062 y1062 z1062
 obtain ⟨b1062, k1062, rfl, N1062q, K1062, gb1062, nb1062, G1062_0, G1062_1, G1062_2, G1062_3, V1062⟩ := hQ1062
 have N1062 := Fr.app N0 N1062q
 obtain ⟨h1062, e1062⟩ : ∃ z, z = T1062.heap := ⟨_, rfl⟩
 have e1062' := e1062.symm
 rw [← e1062] at K1062 G1062_0 G1062_1 G1062_2 G1062_3 V1062
 have kp1064 := kp0.trans K1062 (allS (own_i0) (allS (own_i1) all0))
 refine own_stp 5 (fun _ k => st1062.trans k) (own_nv (own_stp 6 (fun _ k => XS.pop X1062.here hx rfl (q.d d12_5) rfl rfl k) (own_aln X1062 q d12_6 rfl rfl ?_)))
 refine own_rA X1062 q hrt d12_7 hlk (by decide) ?_
 show QAPL3 Z a1 v0 y0 y1 y2 h0 n0 _ T1062.heap _
 rw [e1062']
 exact ⟨_, _, rfl, N1062, kp1064, gb1062, nb1062, G1062_0, G1062_1, G1062_2, G1062_3, V1062⟩
theorem rm17_L4 (l : Launch) (Z : State) (a0 : Array Value) (hw : own_hw a0 Z) (a1 : Addr) (a2 : Addr) (v0 : Addr) (k0 : ClassId) (t : Addr) (ks : ClassId) (y0 y1 y2 y3 : Int32) (cs0 : Int32) (fo : Value) (h0 : Heap) (n0 : Nat) (Z0 : n0 ≤ h0.size) (O0 : Old Z n0 h0) (SC_ : own_SC Z cs0) (SIO : Sta Z Z.heap "jdk/internal/util/Preconditions" "SIOOBE_FORMATTER" "Ljava/util/function/BiFunction;" fo) (hfo : fo.isRef = true) (E1 : Exa Z h0 a1 "java/lang/StringBuilder") (G0 : F'3 Z h0 a1 (.ref v0)) (G1 : F'2 Z h0 a1 v'0) (G2 : F'4 Z h0 a1 v'0) (G3 : F'5 Z h0 a1 v'0) (VV : Arv Z h0 v0 k0 .byte (16 : Int32) [v'0, v'0, v'0, v'0, v'0, v'0, v'0, v'0, v'0, v'0, v'0, v'0, v'0, v'0, v'0, v'0] v'0) (g1 : n0 ≤ a1) (gv : n0 ≤ v0) (nav : a1 ≠ v0) (ES : Exa Z h0 a2 "java/lang/String") (FC : F'0 Z h0 a2 v'0) (FV : F'1 Z h0 a2 (.ref t)) (VS : Arv Z h0 t ks .byte (4 : Int32) [(.int y0), (.int y1), (.int y2), (.int y3)] v'0) (m1 : a1 ≠ a2) (m2 : v0 ≠ a2) (m3 : a1 ≠ t) (m4 : v0 ≠ t) :
  own_M l Z [] own_y32 b'17 3 none ⟨2, 0, 0, 33⟩ #[(.ref a1), v'0, (.ref a2)] h0 (QPSL4 Z a1 v0 y0 y1 y2 y3 h0 n0) := by
 obtain ⟨SCS, hcs⟩ := SC_
 refine own_start (n0 := n0) hw "java/lang/AbstractStringBuilder" (L := #[.val (.ref a1), .val v'0, .val (.ref a2)]) pn_17 (fun {p e s m below meth c s₁} q hx W hml hZ hown hnm hlk hrt X0 e0 N0 => ?_)
 have kp0 := Keep.refl h0 [a1]
 have kp0 := Keep.refl h0 [a1, v0]
 refine own_aln X0 q d17_0 rfl rfl (own_aln X0 q d17_1 rfl rfl ?_)
 refine own_let ?_; intro g1072_
 obtain ⟨cq1071, q1071, q1071'⟩ := (E1).cell
 obtain ⟨_, _, ⟨T1071, L1071, k1071, n1071⟩, -, X1071, ⟨Lc1071, hQ1071, l1071, y1071, z1071⟩, st1071⟩ := X0.privateBack hx (y := own_y30) hown (mvT hZ (W 112 rfl)) (mvT hZ (W 113 rfl)) (own_selP (by decide) (mvT hZ (W 115 rfl)) (mvP hZ (W 114 rfl)) (mvT hZ (W 113 rfl))) (Cond.privateMethod_at (mvP hZ (W 114 rfl) (args := #[]))) (mvT hZ (W 116 rfl)) (by decide) (backOf (W := 0) (rm18_L0 l Z a0 hw a1 a2 cs0 h0 n0 Z0 O0 ⟨SCS, hcs⟩ G1 ES FC) hZ (W 116 rfl) (W 71 rfl) (by decide) (by decide)) (g := g1072_) rfl (by rw [hml]; rfl) (Steps.refl _) (a := a1) (by rw [e0]; exact q1071) q1071' (argsL := [(.ref a2)]) (rest := []) (lenOf own_pd21 rfl) rfl (by show 2 * 0 + _ ≤ _; exact Nat.le_of_eq rfl) (q.d d17_2) (fun _ _ => ⟨rfl, e0, (by decide : 0 + 0 ≤ _), (by decide : 0 + 0 ≤ _)⟩)
 dsimp only [Pt.U, Pt.locs, Pt.cells, Pt.slots] at X1071 l1071 y1071 z1071 st1071 hQ1071
 rw [l1071, y1071, z1071] at X1071
 clear l1071 y1071 z1071
 obtain ⟨rfl, N1071q, e1071⟩ := hQ1071
 have N1071 := Fr.app N0 N1071q
 refine own_stp 5 (fun _ k => st1071.trans k) (own_nn (own_aln X1071 q d17_5 rfl rfl (own_aln X1071 q d17_6 rfl rfl ?_)))
 refine own_gF X1071 q hZ e1071 hown (W 75 rfl) G0 d17_7 fun T1073 X1073 e1073 => ?_
 refine own_iln X1073 q d17_10 rfl (own_aln X1073 q d17_11 rfl rfl ?_)
 refine own_gF X1073 q hZ e1073 hown (W 77 rfl) G1 d17_12 fun T1074 X1074 e1074 => ?_
 refine own_cVh X1074 q hZ e1074 hown hml (W 118 rfl) (W 119 rfl) (W 121 rfl) (W 120 rfl) (W 8 rfl) (W 122 rfl) rfl ES (rm19_L4 l Z a0 hw a2 v0 t ks k0 y0 y1 y2 y3 cs0 h0 n0 Z0 O0 ⟨SCS, hcs⟩ ES FC FV VS VV gv (Ne.symm m4) (Ne.symm m2)) d17_15 [(.ref v0), v'0, v'0] [] own_pd22 0 (by decide) (fun v1075 T1075 L1075 h1075 e1075' X1075 hQ1075 => ?_)
 obtain ⟨rfl, N1075q, K1075, V1075⟩ := hQ1075
 have N1075 := Fr.app N1071 N1075q
 have kp1076 := kp0.trans K1075 (allS (own_i1) all0)
 refine own_nn ?_
 refine own_rV X1075 q hrt d17_18 hlk (by decide) ?_
 show QPSL4 Z a1 v0 y0 y1 y2 y3 h0 n0 _ T1075.heap _
 rw [e1075']
 exact ⟨_, _, rfl, N1075, kp1076, gv, nav, (G0.keep K1075 (ninS nav nin0)), (G1.keep K1075 (ninS nav nin0)), (G2.keep K1075 (ninS nav nin0)), (G3.keep K1075 (ninS nav nin0)), V1075⟩
theorem rm13_L4 (l : Launch) (Z : State) (a0 : Array Value) (hw : own_hw a0 Z) (a1 : Addr) (a2 : Addr) (v0 : Addr) (k0 : ClassId) (t : Addr) (ks : ClassId) (y0 y1 y2 y3 : Int32) (cs0 : Int32) (fo : Value) (h0 : Heap) (n0 : Nat) (Z0 : n0 ≤ h0.size) (O0 : Old Z n0 h0) (SC_ : own_SC Z cs0) (SIO : Sta Z Z.heap "jdk/internal/util/Preconditions" "SIOOBE_FORMATTER" "Ljava/util/function/BiFunction;" fo) (hfo : fo.isRef = true) (E1 : Exa Z h0 a1 "java/lang/StringBuilder") (G0 : F'3 Z h0 a1 (.ref v0)) (G1 : F'2 Z h0 a1 v'0) (G2 : F'4 Z h0 a1 v'0) (G3 : F'5 Z h0 a1 v'0) (VV : Arv Z h0 v0 k0 .byte (16 : Int32) [v'0, v'0, v'0, v'0, v'0, v'0, v'0, v'0, v'0, v'0, v'0, v'0, v'0, v'0, v'0, v'0] v'0) (g1 : n0 ≤ a1) (gv : n0 ≤ v0) (nav : a1 ≠ v0) (ES : Exa Z h0 a2 "java/lang/String") (FC : F'0 Z h0 a2 v'0) (FV : F'1 Z h0 a2 (.ref t)) (VS : Arv Z h0 t ks .byte (4 : Int32) [(.int y0), (.int y1), (.int y2), (.int y3)] v'0) (m1 : a1 ≠ a2) (m2 : v0 ≠ a2) (m3 : a1 ≠ t) (m4 : v0 ≠ t) :
  own_M l Z [] own_y33 b'13 3 (some (.object "java/lang/AbstractStringBuilder")) ⟨3, 0, 0, 47⟩ #[(.ref a1), (.ref a2)] h0 (QAPL4 Z a1 v0 y0 y1 y2 y3 h0 n0) := by
 obtain ⟨SCS, hcs⟩ := SC_
 refine own_start (n0 := n0) hw "java/lang/AbstractStringBuilder" (L := #[.val (.ref a1), .val (.ref a2), .unset]) pn_13 (fun {p e s m below meth c s₁} q hx W hml hZ hown hnm hlk hrt X0 e0 N0 => ?_)
 have kp0 := Keep.refl h0 [a1]
 have kp0 := Keep.refl h0 [a1, v0]
 refine own_aln X0 q d13_0 rfl rfl (own_stp 9 (fun _ k => XS.ifnonnullYes X0.here hx rfl (pc0 := 1) (pc' := 9) rfl (q.d d13_1) rfl (by decide) (by decide) k) (own_aln X0 q d13_9 rfl rfl ?_))
 refine own_cV X0 q hZ e0 hown hml (W 89 rfl) (W 90 rfl) (W 92 rfl) (W 91 rfl) (W 8 rfl) (W 93 rfl) rfl ES (rm14_L4 l Z a0 hw a2 t ks y0 y1 y2 y3 cs0 h0 n0 Z0 O0 ⟨SCS, hcs⟩ ES FC FV VS) d13_10 [] [] own_pd9 0 (by decide) (fun v1088 T1088 L1088 X1088 hQ1088 => ?_)
 obtain ⟨rfl, N1088q, e1088⟩ := hQ1088
 have N1088 := Fr.app N0 N1088q
 refine own_nv (own_isn X1088 q d13_13 (l' := #[.val (.ref a1), .val (.ref a2), .val v'4]) rfl (own_aln X1088 q d13_14 rfl rfl (own_aln X1088 q d13_15 rfl rfl ?_)))
 refine own_gF X1088 q hZ e1088 hown (W 100 rfl) G2 d13_16 fun T1089 X1089 e1089 => ?_
 refine own_iln X1089 q d13_19 rfl (own_iaddk 4 X1089 q d13_20 (by decide) ?_)
 refine own_let ?_; intro g1091_
 obtain ⟨cq1090, q1090, q1090'⟩ := (E1).cell
 obtain ⟨_, _, ⟨T1090, L1090, k1090, n1090⟩, -, X1090, ⟨Lc1090, hQ1090, l1090, y1090, z1090⟩, st1090⟩ := X1089.privateBack hx (y := own_y28) hown (mvT hZ (W 102 rfl)) (mvT hZ (W 103 rfl)) (own_selP (by decide) (mvT hZ (W 105 rfl)) (mvP hZ (W 104 rfl)) (mvT hZ (W 103 rfl))) (Cond.privateMethod_at (mvP hZ (W 104 rfl) (args := #[]))) (mvT hZ (W 106 rfl)) (by decide) (backOf (W := 0) (rm16_4 l Z a0 hw a1 v0 k0 h0 n0 Z0 G0 G1 VV) hZ (W 106 rfl) (W 71 rfl) (by decide) (by decide)) (g := g1091_) rfl (by rw [hml]; rfl) (Steps.refl _) (a := a1) (by rw [e1089]; exact q1090) q1090' (argsL := [v'4]) (rest := []) (lenOf own_pd8 rfl) rfl (by show 2 * 0 + _ ≤ _; exact Nat.le_of_eq rfl) (q.d d13_21) (fun _ _ => ⟨rfl, e1089, (by decide : 0 + 0 ≤ _), (by decide : 0 + 0 ≤ _)⟩)
 dsimp only [Pt.U, Pt.locs, Pt.cells, Pt.slots] at X1090 l1090 y1090 z1090 st1090 hQ1090
 rw [l1090, y1090, z1090] at X1090
 clear l1090 y1090 z1090
 obtain ⟨rfl, N1090q, e1090⟩ := hQ1090
 have N1090 := Fr.app N1088 N1090q
 refine own_stp 24 (fun _ k => st1090.trans k) (own_nn (own_aln X1090 q d13_24 rfl rfl (own_aln X1090 q d13_25 rfl rfl ?_)))
 refine own_gF X1090 q hZ e1090 hown (W 100 rfl) G2 d13_26 fun T1092 X1092 e1092 => ?_
 refine own_aln X1092 q d13_29 rfl rfl ?_
 refine own_cPh X1092 q hZ e1092 hown hml (W 107 rfl) (W 108 rfl) (own_selP (by decide) (mvT hZ (W 110 rfl)) (mvP hZ (W 109 rfl)) (mvT hZ (W 108 rfl))) (W 109 rfl) (W 71 rfl) (W 111 rfl) E1 (rm17_L4 l Z a0 hw a1 a2 v0 k0 t ks y0 y1 y2 y3 cs0 fo h0 n0 Z0 O0 ⟨SCS, hcs⟩ SIO hfo E1 G0 G1 G2 G3 VV g1 gv nav ES FC FV VS m1 m2 m3 m4) d13_30 [v'0, (.ref a2)] [] own_pd23 0 (by decide) (fun v1093 T1093 L1093 h1093 e1093' X1093 hQ1093 => ?_)
 obtain ⟨b1093, k1093, rfl, N1093q, K1093, gb1093, nb1093, G1093_0, G1093_1, G1093_2, G1093_3, V1093⟩ := hQ1093
 have N1093 := Fr.app N1090 N1093q
 have kp1094 := kp0.trans K1093 (allS (own_i0) (allS (own_i1) all0))
 refine own_nn (own_aln X1093 q d13_33 rfl rfl (own_dp X1093 q d13_34 rfl ?_))
 refine own_gF X1093 q hZ e1093' hown (W 100 rfl) G1093_2 d13_35 fun T1095 X1095 e1095 => ?_
 refine own_iln X1095 q d13_38 rfl (own_iaddk 4 X1095 q d13_39 (by decide) ?_)
 refine own_let ?_; intro g1096_
 obtain ⟨T1097, h1097, X1097, e1097, W1097, st1097⟩ := putF X1095 hx hZ hown (host := "") (Or.inl (W 100 rfl)) Via.refl e1095 G1093_2 (E1.keep K1093) (Or.inl (W 101 rfl)) (W 62 rfl) (ty := .int) (by decide) rfl rfl (g := g1096_) rfl rfl (q.d d13_40)
 have kp1098 := kp1094.wr W1097 (own_i0)
 have Fw1097 := (G1093_2).same W1097
 have N1097 := Fr.snoc X1097 N1093 g1
 refine own_stp 43 st1097 (own_aln X1097 q d13_43 rfl rfl ?_)
 refine own_rA X1097 q hrt d13_44 hlk (by decide) ?_
 show QAPL4 Z a1 v0 y0 y1 y2 y3 h0 n0 _ T1097.heap _
 rw [e1097]
 exact ⟨_, _, rfl, N1097, kp1098, gb1093, nb1093, (G1093_0.other W1097 (Or.inr (slot_ne (Or.inl (W 76 rfl)) (Or.inl (W 101 rfl)) (by decide) (t := (.array .byte)) (t' := .int) (by decide) (by decide)))), (G1093_1.other W1097 (Or.inr (slot_ne (Or.inl (W 78 rfl)) (Or.inl (W 101 rfl)) (by decide) (t := .byte) (t' := .int) (by decide) (by decide)))), Fw1097, (G1093_3.other W1097 (Or.inr (slot_ne (Or.inl (W 239 rfl)) (Or.inl (W 101 rfl)) (by decide) (t := .boolean) (t' := .int) (by decide) (by decide)))), (V1093.other W1097 (Ne.symm nb1093))⟩
theorem rm12_L4 (l : Launch) (Z : State) (a0 : Array Value) (hw : own_hw a0 Z) (a1 : Addr) (a2 : Addr) (v0 : Addr) (k0 : ClassId) (t : Addr) (ks : ClassId) (y0 y1 y2 y3 : Int32) (cs0 : Int32) (fo : Value) (h0 : Heap) (n0 : Nat) (Z0 : n0 ≤ h0.size) (O0 : Old Z n0 h0) (SC_ : own_SC Z cs0) (SIO : Sta Z Z.heap "jdk/internal/util/Preconditions" "SIOOBE_FORMATTER" "Ljava/util/function/BiFunction;" fo) (hfo : fo.isRef = true) (E1 : Exa Z h0 a1 "java/lang/StringBuilder") (G0 : F'3 Z h0 a1 (.ref v0)) (G1 : F'2 Z h0 a1 v'0) (G2 : F'4 Z h0 a1 v'0) (G3 : F'5 Z h0 a1 v'0) (VV : Arv Z h0 v0 k0 .byte (16 : Int32) [v'0, v'0, v'0, v'0, v'0, v'0, v'0, v'0, v'0, v'0, v'0, v'0, v'0, v'0, v'0, v'0] v'0) (g1 : n0 ≤ a1) (gv : n0 ≤ v0) (nav : a1 ≠ v0) (ES : Exa Z h0 a2 "java/lang/String") (FC : F'0 Z h0 a2 v'0) (FV : F'1 Z h0 a2 (.ref t)) (VS : Arv Z h0 t ks .byte (4 : Int32) [(.int y0), (.int y1), (.int y2), (.int y3)] v'0) (m1 : a1 ≠ a2) (m2 : v0 ≠ a2) (m3 : a1 ≠ t) (m4 : v0 ≠ t) :
  own_M l Z [] own_y34 b'12 2 (some (.object "java/lang/StringBuilder")) ⟨4, 0, 0, 61⟩ #[(.ref a1), (.ref a2)] h0 (QAPL4 Z a1 v0 y0 y1 y2 y3 h0 n0) := by
 obtain ⟨SCS, hcs⟩ := SC_
 refine own_start (n0 := n0) hw "java/lang/StringBuilder" (L := #[.val (.ref a1), .val (.ref a2)]) pn_12 (fun {p e s m below meth c s₁} q hx W hml hZ hown hnm hlk hrt X0 e0 N0 => ?_)
 have kp0 := Keep.refl h0 [a1]
 have kp0 := Keep.refl h0 [a1, v0]
 refine own_aln X0 q d12_0 rfl rfl (own_aln X0 q d12_1 rfl rfl ?_)
 refine own_let ?_; intro g1103_
 obtain ⟨_, _, ⟨T1102, L1102, k1102, n1102⟩, -, X1102, ⟨Lc1102, hQ1102, l1102, y1102, z1102⟩, st1102⟩ := superBack X0 hx hZ (y := own_y33) hown (W 84 rfl) (own_sameM (by decide) (W 105 rfl) rfl (W 87 rfl)) (W 85 rfl) (W 86 rfl) (by decide) (backOf (W := 0) (rm13_L4 l Z a0 hw a1 a2 v0 k0 t ks y0 y1 y2 y3 cs0 fo h0 n0 Z0 O0 ⟨SCS, hcs⟩ SIO hfo E1 G0 G1 G2 G3 VV g1 gv nav ES FC FV VS m1 m2 m3 m4) hZ (W 88 rfl) (W 71 rfl) (by decide) (by decide)) e0 (Ins.self E1) (g := g1103_) rfl (by rw [hml]; rfl) (W 88 rfl) (argsL := [(.ref a2)]) (rest := []) (lenOf own_pd24 rfl) rfl (by show 2 * 0 + _ ≤ _; exact Nat.le_of_eq rfl) (q.d d12_2) (fun _ _ => ⟨rfl, e0, (by decide : 0 + 0 ≤ _), (by decide : 0 + 0 ≤ _)⟩)
 dsimp only [Pt.U, Pt.locs, Pt.cells, Pt.slots] at X1102 l1102 y1102 z1102 st1102 hQ1102
 rw [l1102, y1102, z1102] at X1102
 clear l1102 y1102 z1102
 obtain ⟨b1102, k1102, rfl, N1102q, K1102, gb1102, nb1102, G1102_0, G1102_1, G1102_2, G1102_3, V1102⟩ := hQ1102
 have N1102 := Fr.app N0 N1102q
 obtain ⟨h1102, e1102⟩ : ∃ z, z = T1102.heap := ⟨_, rfl⟩
 have e1102' := e1102.symm
 rw [← e1102] at K1102 G1102_0 G1102_1 G1102_2 G1102_3 V1102
 have kp1104 := kp0.trans K1102 (allS (own_i0) (allS (own_i1) all0))
 refine own_stp 5 (fun _ k => st1102.trans k) (own_nv (own_stp 6 (fun _ k => XS.pop X1102.here hx rfl (q.d d12_5) rfl rfl k) (own_aln X1102 q d12_6 rfl rfl ?_)))
 refine own_rA X1102 q hrt d12_7 hlk (by decide) ?_
 show QAPL4 Z a1 v0 y0 y1 y2 y3 h0 n0 _ T1102.heap _
 rw [e1102']
 exact ⟨_, _, rfl, N1102, kp1104, gb1102, nb1102, G1102_0, G1102_1, G1102_2, G1102_3, V1102⟩
theorem rm17_U1 (l : Launch) (Z : State) (a0 : Array Value) (hw : own_hw a0 Z) (a1 : Addr) (a2 : Addr) (v0 : Addr) (k0 : ClassId) (t : Addr) (ks : ClassId) (y0 y1 : Int32) (cs0 : Int32) (fo : Value) (h0 : Heap) (n0 : Nat) (Z0 : n0 ≤ h0.size) (O0 : Old Z n0 h0) (SC_ : own_SC Z cs0) (SIO : Sta Z Z.heap "jdk/internal/util/Preconditions" "SIOOBE_FORMATTER" "Ljava/util/function/BiFunction;" fo) (hfo : fo.isRef = true) (E1 : Exa Z h0 a1 "java/lang/StringBuilder") (G0 : F'3 Z h0 a1 (.ref v0)) (G1 : F'2 Z h0 a1 v'0) (G2 : F'4 Z h0 a1 v'0) (G3 : F'5 Z h0 a1 v'0) (VV : Arv Z h0 v0 k0 .byte (16 : Int32) [v'0, v'0, v'0, v'0, v'0, v'0, v'0, v'0, v'0, v'0, v'0, v'0, v'0, v'0, v'0, v'0] v'0) (g1 : n0 ≤ a1) (gv : n0 ≤ v0) (nav : a1 ≠ v0) (ES : Exa Z h0 a2 "java/lang/String") (FC : F'0 Z h0 a2 v'1) (FV : F'1 Z h0 a2 (.ref t)) (VS : Arv Z h0 t ks .byte (2 : Int32) [(.int y0), (.int y1)] v'0) (m1 : a1 ≠ a2) (m2 : v0 ≠ a2) (m3 : a1 ≠ t) (m4 : v0 ≠ t) :
  own_M l Z [] own_y32 b'17 3 none ⟨7, 1, 32, 102⟩ #[(.ref a1), v'0, (.ref a2)] h0 (QPSU1 Z a1 v0 y0 y1 h0 n0) := by
 obtain ⟨SCS, hcs⟩ := SC_
 refine own_start (n0 := n0) hw "java/lang/AbstractStringBuilder" (L := #[.val (.ref a1), .val v'0, .val (.ref a2)]) pn_17 (fun {p e s m below meth c s₁} q hx W hml hZ hown hnm hlk hrt X0 e0 N0 => ?_)
 have kp0 := Keep.refl h0 [a1]
 have kp0 := Keep.refl h0 [a1, v0]
 refine own_aln X0 q d17_0 rfl rfl (own_aln X0 q d17_1 rfl rfl ?_)
 refine own_cPh X0 q hZ e0 hown hml (W 112 rfl) (W 113 rfl) (own_selP (by decide) (mvT hZ (W 115 rfl)) (mvP hZ (W 114 rfl)) (mvT hZ (W 113 rfl))) (W 114 rfl) (W 71 rfl) (W 116 rfl) E1 (rm18_U l Z a0 hw a1 a2 v0 k0 cs0 fo h0 n0 Z0 O0 ⟨SCS, hcs⟩ SIO hfo E1 G0 G1 G2 G3 VV g1 gv nav ES FC) d17_2 [(.ref a2)] [] own_pd21 0 (by decide) (fun v1111 T1111 L1111 h1111 e1111' X1111 hQ1111 => ?_)
 obtain ⟨b1111, k1111, rfl, N1111q, K1111, lo1111, G1111_0, G1111_1, G1111_2, G1111_3, V1111⟩ := hQ1111
 have N1111 := Fr.app N0 N1111q
 have zs1112 := Nat.le_trans Z0 K1111.1
 have od1112 := O0.keep K1111 (allS g1 all0)
 have kp1112 := kp0.trans K1111 (allS (own_i0) all0)
 have g_b1111 : n0 ≤ b1111 := Nat.le_trans Z0 lo1111
 have sz_b1111 : h0.size ≤ b1111 := Nat.le_trans kp0.1 lo1111
 refine own_nn (own_aln X1111 q d17_5 rfl rfl (own_aln X1111 q d17_6 rfl rfl ?_))
 refine own_gF X1111 q hZ e1111' hown (W 75 rfl) G1111_0 d17_7 fun T1113 X1113 e1113 => ?_
 refine own_iln X1113 q d17_10 rfl (own_aln X1113 q d17_11 rfl rfl ?_)
 refine own_gF X1113 q hZ e1113 hown (W 77 rfl) G1111_1 d17_12 fun T1114 X1114 e1114 => ?_
 refine own_cVh X1114 q hZ e1114 hown hml (W 118 rfl) (W 119 rfl) (W 121 rfl) (W 120 rfl) (W 8 rfl) (W 122 rfl) rfl (ES.keep K1111) (rm19_U1 l Z a0 hw a2 b1111 t ks k1111 y0 y1 cs0 h1111 n0 zs1112 od1112 ⟨SCS, hcs⟩ (ES.keep K1111) (FC.keep K1111 (ninS (Ne.symm m1) nin0)) (FV.keep K1111 (ninS (Ne.symm m1) nin0)) (VS.keep K1111 (ninS (Ne.symm m3) nin0)) V1111 g_b1111 (own_ne (VS).lt lo1111) (own_ne (ES).lt lo1111)) d17_15 [(.ref b1111), v'0, v'1] [] own_pd22 0 (by decide) (fun v1115 T1115 L1115 h1115 e1115' X1115 hQ1115 => ?_)
 obtain ⟨rfl, N1115q, K1115, V1115⟩ := hQ1115
 have N1115 := Fr.app N1111 N1115q
 have kp1116 := kp1112.trans K1115 (allS (Or.inr sz_b1111) all0)
 refine own_nn ?_
 refine own_rV X1115 q hrt d17_18 hlk (by decide) ?_
 show QPSU1 Z a1 v0 y0 y1 h0 n0 _ T1115.heap _
 rw [e1115']
 exact ⟨_, _, rfl, N1115, kp1116, g_b1111, (own_ne (E1).lt lo1111), (G1111_0.keep K1115 (ninS (own_ne (E1).lt lo1111) nin0)), (G1111_1.keep K1115 (ninS (own_ne (E1).lt lo1111) nin0)), (G1111_2.keep K1115 (ninS (own_ne (E1).lt lo1111) nin0)), (G1111_3.keep K1115 (ninS (own_ne (E1).lt lo1111) nin0)), V1115⟩
theorem rm13_U1 (l : Launch) (Z : State) (a0 : Array Value) (hw : own_hw a0 Z) (a1 : Addr) (a2 : Addr) (v0 : Addr) (k0 : ClassId) (t : Addr) (ks : ClassId) (y0 y1 : Int32) (cs0 : Int32) (fo : Value) (h0 : Heap) (n0 : Nat) (Z0 : n0 ≤ h0.size) (O0 : Old Z n0 h0) (SC_ : own_SC Z cs0) (SIO : Sta Z Z.heap "jdk/internal/util/Preconditions" "SIOOBE_FORMATTER" "Ljava/util/function/BiFunction;" fo) (hfo : fo.isRef = true) (E1 : Exa Z h0 a1 "java/lang/StringBuilder") (G0 : F'3 Z h0 a1 (.ref v0)) (G1 : F'2 Z h0 a1 v'0) (G2 : F'4 Z h0 a1 v'0) (G3 : F'5 Z h0 a1 v'0) (VV : Arv Z h0 v0 k0 .byte (16 : Int32) [v'0, v'0, v'0, v'0, v'0, v'0, v'0, v'0, v'0, v'0, v'0, v'0, v'0, v'0, v'0, v'0] v'0) (g1 : n0 ≤ a1) (gv : n0 ≤ v0) (nav : a1 ≠ v0) (ES : Exa Z h0 a2 "java/lang/String") (FC : F'0 Z h0 a2 v'1) (FV : F'1 Z h0 a2 (.ref t)) (VS : Arv Z h0 t ks .byte (2 : Int32) [(.int y0), (.int y1)] v'0) (m1 : a1 ≠ a2) (m2 : v0 ≠ a2) (m3 : a1 ≠ t) (m4 : v0 ≠ t) :
  own_M l Z [] own_y33 b'13 3 (some (.object "java/lang/AbstractStringBuilder")) ⟨8, 1, 32, 116⟩ #[(.ref a1), (.ref a2)] h0 (QAPU1 Z a1 v0 y0 y1 h0 n0) := by
 obtain ⟨SCS, hcs⟩ := SC_
 refine own_start (n0 := n0) hw "java/lang/AbstractStringBuilder" (L := #[.val (.ref a1), .val (.ref a2), .unset]) pn_13 (fun {p e s m below meth c s₁} q hx W hml hZ hown hnm hlk hrt X0 e0 N0 => ?_)
 have kp0 := Keep.refl h0 [a1]
 have kp0 := Keep.refl h0 [a1, v0]
 refine own_aln X0 q d13_0 rfl rfl (own_stp 9 (fun _ k => XS.ifnonnullYes X0.here hx rfl (pc0 := 1) (pc' := 9) rfl (q.d d13_1) rfl (by decide) (by decide) k) (own_aln X0 q d13_9 rfl rfl ?_))
 refine own_cV X0 q hZ e0 hown hml (W 89 rfl) (W 90 rfl) (W 92 rfl) (W 91 rfl) (W 8 rfl) (W 93 rfl) rfl ES (rm14_U1 l Z a0 hw a2 t ks y0 y1 cs0 h0 n0 Z0 O0 ⟨SCS, hcs⟩ ES FC FV VS) d13_10 [] [] own_pd9 0 (by decide) (fun v1128 T1128 L1128 X1128 hQ1128 => ?_)
 obtain ⟨rfl, N1128q, e1128⟩ := hQ1128
 have N1128 := Fr.app N0 N1128q
 refine own_nv (own_isn X1128 q d13_13 (l' := #[.val (.ref a1), .val (.ref a2), .val v'1]) rfl (own_aln X1128 q d13_14 rfl rfl (own_aln X1128 q d13_15 rfl rfl ?_)))
 refine own_gF X1128 q hZ e1128 hown (W 100 rfl) G2 d13_16 fun T1129 X1129 e1129 => ?_
 refine own_iln X1129 q d13_19 rfl (own_iaddk 1 X1129 q d13_20 (by decide) ?_)
 refine own_let ?_; intro g1131_
 obtain ⟨cq1130, q1130, q1130'⟩ := (E1).cell
 obtain ⟨_, _, ⟨T1130, L1130, k1130, n1130⟩, -, X1130, ⟨Lc1130, hQ1130, l1130, y1130, z1130⟩, st1130⟩ := X1129.privateBack hx (y := own_y28) hown (mvT hZ (W 102 rfl)) (mvT hZ (W 103 rfl)) (own_selP (by decide) (mvT hZ (W 105 rfl)) (mvP hZ (W 104 rfl)) (mvT hZ (W 103 rfl))) (Cond.privateMethod_at (mvP hZ (W 104 rfl) (args := #[]))) (mvT hZ (W 106 rfl)) (by decide) (backOf (W := 0) (rm16_1 l Z a0 hw a1 v0 k0 h0 n0 Z0 G0 G1 VV) hZ (W 106 rfl) (W 71 rfl) (by decide) (by decide)) (g := g1131_) rfl (by rw [hml]; rfl) (Steps.refl _) (a := a1) (by rw [e1129]; exact q1130) q1130' (argsL := [v'1]) (rest := []) (lenOf own_pd8 rfl) rfl (by show 2 * 0 + _ ≤ _; exact Nat.le_of_eq rfl) (q.d d13_21) (fun _ _ => ⟨rfl, e1129, (by decide : 0 + 0 ≤ _), (by decide : 0 + 0 ≤ _)⟩)
 dsimp only [Pt.U, Pt.locs, Pt.cells, Pt.slots] at X1130 l1130 y1130 z1130 st1130 hQ1130
 rw [l1130, y1130, z1130] at X1130
 clear l1130 y1130 z1130
 obtain ⟨rfl, N1130q, e1130⟩ := hQ1130
 have N1130 := Fr.app N1128 N1130q
 refine own_stp 24 (fun _ k => st1130.trans k) (own_nn (own_aln X1130 q d13_24 rfl rfl (own_aln X1130 q d13_25 rfl rfl ?_)))
 refine own_gF X1130 q hZ e1130 hown (W 100 rfl) G2 d13_26 fun T1132 X1132 e1132 => ?_
 refine own_aln X1132 q d13_29 rfl rfl ?_
 refine own_cPh X1132 q hZ e1132 hown hml (W 107 rfl) (W 108 rfl) (own_selP (by decide) (mvT hZ (W 110 rfl)) (mvP hZ (W 109 rfl)) (mvT hZ (W 108 rfl))) (W 109 rfl) (W 71 rfl) (W 111 rfl) E1 (rm17_U1 l Z a0 hw a1 a2 v0 k0 t ks y0 y1 cs0 fo h0 n0 Z0 O0 ⟨SCS, hcs⟩ SIO hfo E1 G0 G1 G2 G3 VV g1 gv nav ES FC FV VS m1 m2 m3 m4) d13_30 [v'0, (.ref a2)] [] own_pd23 0 (by decide) (fun v1133 T1133 L1133 h1133 e1133' X1133 hQ1133 => ?_)
 obtain ⟨b1133, k1133, rfl, N1133q, K1133, gb1133, nb1133, G1133_0, G1133_1, G1133_2, G1133_3, V1133⟩ := hQ1133
 have N1133 := Fr.app N1130 N1133q
 have kp1134 := kp0.trans K1133 (allS (own_i0) (allS (own_i1) all0))
 refine own_nn (own_aln X1133 q d13_33 rfl rfl (own_dp X1133 q d13_34 rfl ?_))
 refine own_gF X1133 q hZ e1133' hown (W 100 rfl) G1133_2 d13_35 fun T1135 X1135 e1135 => ?_
 refine own_iln X1135 q d13_38 rfl (own_iaddk 1 X1135 q d13_39 (by decide) ?_)
 refine own_let ?_; intro g1136_
 obtain ⟨T1137, h1137, X1137, e1137, W1137, st1137⟩ := putF X1135 hx hZ hown (host := "") (Or.inl (W 100 rfl)) Via.refl e1135 G1133_2 (E1.keep K1133) (Or.inl (W 101 rfl)) (W 62 rfl) (ty := .int) (by decide) rfl rfl (g := g1136_) rfl rfl (q.d d13_40)
 have kp1138 := kp1134.wr W1137 (own_i0)
 have Fw1137 := (G1133_2).same W1137
 have N1137 := Fr.snoc X1137 N1133 g1
 refine own_stp 43 st1137 (own_aln X1137 q d13_43 rfl rfl ?_)
 refine own_rA X1137 q hrt d13_44 hlk (by decide) ?_
 show QAPU1 Z a1 v0 y0 y1 h0 n0 _ T1137.heap _
 rw [e1137]
 exact ⟨_, _, rfl, N1137, kp1138, gb1133, nb1133, (G1133_0.other W1137 (Or.inr (slot_ne (Or.inl (W 76 rfl)) (Or.inl (W 101 rfl)) (by decide) (t := (.array .byte)) (t' := .int) (by decide) (by decide)))), (G1133_1.other W1137 (Or.inr (slot_ne (Or.inl (W 78 rfl)) (Or.inl (W 101 rfl)) (by decide) (t := .byte) (t' := .int) (by decide) (by decide)))), Fw1137, (G1133_3.other W1137 (Or.inr (slot_ne (Or.inl (W 239 rfl)) (Or.inl (W 101 rfl)) (by decide) (t := .boolean) (t' := .int) (by decide) (by decide)))), (V1133.other W1137 (Ne.symm nb1133))⟩
theorem rm12_U1 (l : Launch) (Z : State) (a0 : Array Value) (hw : own_hw a0 Z) (a1 : Addr) (a2 : Addr) (v0 : Addr) (k0 : ClassId) (t : Addr) (ks : ClassId) (y0 y1 : Int32) (cs0 : Int32) (fo : Value) (h0 : Heap) (n0 : Nat) (Z0 : n0 ≤ h0.size) (O0 : Old Z n0 h0) (SC_ : own_SC Z cs0) (SIO : Sta Z Z.heap "jdk/internal/util/Preconditions" "SIOOBE_FORMATTER" "Ljava/util/function/BiFunction;" fo) (hfo : fo.isRef = true) (E1 : Exa Z h0 a1 "java/lang/StringBuilder") (G0 : F'3 Z h0 a1 (.ref v0)) (G1 : F'2 Z h0 a1 v'0) (G2 : F'4 Z h0 a1 v'0) (G3 : F'5 Z h0 a1 v'0) (VV : Arv Z h0 v0 k0 .byte (16 : Int32) [v'0, v'0, v'0, v'0, v'0, v'0, v'0, v'0, v'0, v'0, v'0, v'0, v'0, v'0, v'0, v'0] v'0) (g1 : n0 ≤ a1) (gv : n0 ≤ v0) (nav : a1 ≠ v0) (ES : Exa Z h0 a2 "java/lang/String") (FC : F'0 Z h0 a2 v'1) (FV : F'1 Z h0 a2 (.ref t)) (VS : Arv Z h0 t ks .byte (2 : Int32) [(.int y0), (.int y1)] v'0) (m1 : a1 ≠ a2) (m2 : v0 ≠ a2) (m3 : a1 ≠ t) (m4 : v0 ≠ t) :
  own_M l Z [] own_y34 b'12 2 (some (.object "java/lang/StringBuilder")) ⟨9, 1, 32, 130⟩ #[(.ref a1), (.ref a2)] h0 (QAPU1 Z a1 v0 y0 y1 h0 n0) := by
 obtain ⟨SCS, hcs⟩ := SC_
 refine own_start (n0 := n0) hw "java/lang/StringBuilder" (L := #[.val (.ref a1), .val (.ref a2)]) pn_12 (fun {p e s m below meth c s₁} q hx W hml hZ hown hnm hlk hrt X0 e0 N0 => ?_)
 have kp0 := Keep.refl h0 [a1]
 have kp0 := Keep.refl h0 [a1, v0]
 refine own_aln X0 q d12_0 rfl rfl (own_aln X0 q d12_1 rfl rfl ?_)
 refine own_let ?_; intro g1143_
 obtain ⟨_, _, ⟨T1142, L1142, k1142, n1142⟩, -, X1142, ⟨Lc1142, hQ1142, l1142, y1142, z1142⟩, st1142⟩ := superBack X0 hx hZ (y := own_y33) hown (W 84 rfl) (own_sameM (by decide) (W 105 rfl) rfl (W 87 rfl)) (W 85 rfl) (W 86 rfl) (by decide) (backOf (W := 0) (rm13_U1 l Z a0 hw a1 a2 v0 k0 t ks y0 y1 cs0 fo h0 n0 Z0 O0 ⟨SCS, hcs⟩ SIO hfo E1 G0 G1 G2 G3 VV g1 gv nav ES FC FV VS m1 m2 m3 m4) hZ (W 88 rfl) (W 71 rfl) (by decide) (by decide)) e0 (Ins.self E1) (g := g1143_) rfl (by rw [hml]; rfl) (W 88 rfl) (argsL := [(.ref a2)]) (rest := []) (lenOf own_pd24 rfl) rfl (by show 2 * 0 + _ ≤ _; exact Nat.le_of_eq rfl) (q.d d12_2) (fun _ _ => ⟨rfl, e0, (by decide : 0 + 1 ≤ _), (by decide : 0 + 32 ≤ _)⟩)
 dsimp only [Pt.U, Pt.locs, Pt.cells, Pt.slots] at X1142 l1142 y1142 z1142 st1142 hQ1142
 rw [l1142, y1142, z1142] at X1142
 clear l1142 y1142 z1142
 obtain ⟨b1142, k1142, rfl, N1142q, K1142, gb1142, nb1142, G1142_0, G1142_1, G1142_2, G1142_3, V1142⟩ := hQ1142
 have N1142 := Fr.app N0 N1142q
 obtain ⟨h1142, e1142⟩ : ∃ z, z = T1142.heap := ⟨_, rfl⟩
 have e1142' := e1142.symm
 rw [← e1142] at K1142 G1142_0 G1142_1 G1142_2 G1142_3 V1142
 have kp1144 := kp0.trans K1142 (allS (own_i0) (allS (own_i1) all0))
 refine own_stp 5 (fun _ k => st1142.trans k) (own_nv (own_stp 6 (fun _ k => XS.pop X1142.here hx rfl (q.d d12_5) rfl rfl k) (own_aln X1142 q d12_6 rfl rfl ?_)))
 refine own_rA X1142 q hrt d12_7 hlk (by decide) ?_
 show QAPU1 Z a1 v0 y0 y1 h0 n0 _ T1142.heap _
 rw [e1142']
 exact ⟨_, _, rfl, N1142, kp1144, gb1142, nb1142, G1142_0, G1142_1, G1142_2, G1142_3, V1142⟩
theorem rm17_U2 (l : Launch) (Z : State) (a0 : Array Value) (hw : own_hw a0 Z) (a1 : Addr) (a2 : Addr) (v0 : Addr) (k0 : ClassId) (t : Addr) (ks : ClassId) (y0 y1 y2 y3 : Int32) (cs0 : Int32) (fo : Value) (h0 : Heap) (n0 : Nat) (Z0 : n0 ≤ h0.size) (O0 : Old Z n0 h0) (SC_ : own_SC Z cs0) (SIO : Sta Z Z.heap "jdk/internal/util/Preconditions" "SIOOBE_FORMATTER" "Ljava/util/function/BiFunction;" fo) (hfo : fo.isRef = true) (E1 : Exa Z h0 a1 "java/lang/StringBuilder") (G0 : F'3 Z h0 a1 (.ref v0)) (G1 : F'2 Z h0 a1 v'0) (G2 : F'4 Z h0 a1 v'0) (G3 : F'5 Z h0 a1 v'0) (VV : Arv Z h0 v0 k0 .byte (16 : Int32) [v'0, v'0, v'0, v'0, v'0, v'0, v'0, v'0, v'0, v'0, v'0, v'0, v'0, v'0, v'0, v'0] v'0) (g1 : n0 ≤ a1) (gv : n0 ≤ v0) (nav : a1 ≠ v0) (ES : Exa Z h0 a2 "java/lang/String") (FC : F'0 Z h0 a2 v'1) (FV : F'1 Z h0 a2 (.ref t)) (VS : Arv Z h0 t ks .byte (4 : Int32) [(.int y0), (.int y1), (.int y2), (.int y3)] v'0) (m1 : a1 ≠ a2) (m2 : v0 ≠ a2) (m3 : a1 ≠ t) (m4 : v0 ≠ t) :
  own_M l Z [] own_y32 b'17 3 none ⟨7, 1, 32, 102⟩ #[(.ref a1), v'0, (.ref a2)] h0 (QPSU2 Z a1 v0 y0 y1 y2 y3 h0 n0) := by
 obtain ⟨SCS, hcs⟩ := SC_
 refine own_start (n0 := n0) hw "java/lang/AbstractStringBuilder" (L := #[.val (.ref a1), .val v'0, .val (.ref a2)]) pn_17 (fun {p e s m below meth c s₁} q hx W hml hZ hown hnm hlk hrt X0 e0 N0 => ?_)
 have kp0 := Keep.refl h0 [a1]
 have kp0 := Keep.refl h0 [a1, v0]
 refine own_aln X0 q d17_0 rfl rfl (own_aln X0 q d17_1 rfl rfl ?_)
 refine own_cPh X0 q hZ e0 hown hml (W 112 rfl) (W 113 rfl) (own_selP (by decide) (mvT hZ (W 115 rfl)) (mvP hZ (W 114 rfl)) (mvT hZ (W 113 rfl))) (W 114 rfl) (W 71 rfl) (W 116 rfl) E1 (rm18_U l Z a0 hw a1 a2 v0 k0 cs0 fo h0 n0 Z0 O0 ⟨SCS, hcs⟩ SIO hfo E1 G0 G1 G2 G3 VV g1 gv nav ES FC) d17_2 [(.ref a2)] [] own_pd21 0 (by decide) (fun v1151 T1151 L1151 h1151 e1151' X1151 hQ1151 => ?_)
 obtain ⟨b1151, k1151, rfl, N1151q, K1151, lo1151, G1151_0, G1151_1, G1151_2, G1151_3, V1151⟩ := hQ1151
 have N1151 := Fr.app N0 N1151q
 have zs1152 := Nat.le_trans Z0 K1151.1
 have od1152 := O0.keep K1151 (allS g1 all0)
 have kp1152 := kp0.trans K1151 (allS (own_i0) all0)
 have g_b1151 : n0 ≤ b1151 := Nat.le_trans Z0 lo1151
 have sz_b1151 : h0.size ≤ b1151 := Nat.le_trans kp0.1 lo1151
 refine own_nn (own_aln X1151 q d17_5 rfl rfl (own_aln X1151 q d17_6 rfl rfl ?_))
 refine own_gF X1151 q hZ e1151' hown (W 75 rfl) G1151_0 d17_7 fun T1153 X1153 e1153 => ?_
 refine own_iln X1153 q d17_10 rfl (own_aln X1153 q d17_11 rfl rfl ?_)
 refine own_gF X1153 q hZ e1153 hown (W 77 rfl) G1151_1 d17_12 fun T1154 X1154 e1154 => ?_
 refine own_cVh X1154 q hZ e1154 hown hml (W 118 rfl) (W 119 rfl) (W 121 rfl) (W 120 rfl) (W 8 rfl) (W 122 rfl) rfl (ES.keep K1151) (rm19_U2 l Z a0 hw a2 b1151 t ks k1151 y0 y1 y2 y3 cs0 h1151 n0 zs1152 od1152 ⟨SCS, hcs⟩ (ES.keep K1151) (FC.keep K1151 (ninS (Ne.symm m1) nin0)) (FV.keep K1151 (ninS (Ne.symm m1) nin0)) (VS.keep K1151 (ninS (Ne.symm m3) nin0)) V1151 g_b1151 (own_ne (VS).lt lo1151) (own_ne (ES).lt lo1151)) d17_15 [(.ref b1151), v'0, v'1] [] own_pd22 0 (by decide) (fun v1155 T1155 L1155 h1155 e1155' X1155 hQ1155 => ?_)
 obtain ⟨rfl, N1155q, K1155, V1155⟩ := hQ1155
 have N1155 := Fr.app N1151 N1155q
 have kp1156 := kp1152.trans K1155 (allS (Or.inr sz_b1151) all0)
 refine own_nn ?_
 refine own_rV X1155 q hrt d17_18 hlk (by decide) ?_
 show QPSU2 Z a1 v0 y0 y1 y2 y3 h0 n0 _ T1155.heap _
 rw [e1155']
 exact ⟨_, _, rfl, N1155, kp1156, g_b1151, (own_ne (E1).lt lo1151), (G1151_0.keep K1155 (ninS (own_ne (E1).lt lo1151) nin0)), (G1151_1.keep K1155 (ninS (own_ne (E1).lt lo1151) nin0)), (G1151_2.keep K1155 (ninS (own_ne (E1).lt lo1151) nin0)), (G1151_3.keep K1155 (ninS (own_ne (E1).lt lo1151) nin0)), V1155⟩
theorem rm13_U2 (l : Launch) (Z : State) (a0 : Array Value) (hw : own_hw a0 Z) (a1 : Addr) (a2 : Addr) (v0 : Addr) (k0 : ClassId) (t : Addr) (ks : ClassId) (y0 y1 y2 y3 : Int32) (cs0 : Int32) (fo : Value) (h0 : Heap) (n0 : Nat) (Z0 : n0 ≤ h0.size) (O0 : Old Z n0 h0) (SC_ : own_SC Z cs0) (SIO : Sta Z Z.heap "jdk/internal/util/Preconditions" "SIOOBE_FORMATTER" "Ljava/util/function/BiFunction;" fo) (hfo : fo.isRef = true) (E1 : Exa Z h0 a1 "java/lang/StringBuilder") (G0 : F'3 Z h0 a1 (.ref v0)) (G1 : F'2 Z h0 a1 v'0) (G2 : F'4 Z h0 a1 v'0) (G3 : F'5 Z h0 a1 v'0) (VV : Arv Z h0 v0 k0 .byte (16 : Int32) [v'0, v'0, v'0, v'0, v'0, v'0, v'0, v'0, v'0, v'0, v'0, v'0, v'0, v'0, v'0, v'0] v'0) (g1 : n0 ≤ a1) (gv : n0 ≤ v0) (nav : a1 ≠ v0) (ES : Exa Z h0 a2 "java/lang/String") (FC : F'0 Z h0 a2 v'1) (FV : F'1 Z h0 a2 (.ref t)) (VS : Arv Z h0 t ks .byte (4 : Int32) [(.int y0), (.int y1), (.int y2), (.int y3)] v'0) (m1 : a1 ≠ a2) (m2 : v0 ≠ a2) (m3 : a1 ≠ t) (m4 : v0 ≠ t) :
  own_M l Z [] own_y33 b'13 3 (some (.object "java/lang/AbstractStringBuilder")) ⟨8, 1, 32, 116⟩ #[(.ref a1), (.ref a2)] h0 (QAPU2 Z a1 v0 y0 y1 y2 y3 h0 n0) := by
 obtain ⟨SCS, hcs⟩ := SC_
 refine own_start (n0 := n0) hw "java/lang/AbstractStringBuilder" (L := #[.val (.ref a1), .val (.ref a2), .unset]) pn_13 (fun {p e s m below meth c s₁} q hx W hml hZ hown hnm hlk hrt X0 e0 N0 => ?_)
 have kp0 := Keep.refl h0 [a1]
 have kp0 := Keep.refl h0 [a1, v0]
 refine own_aln X0 q d13_0 rfl rfl (own_stp 9 (fun _ k => XS.ifnonnullYes X0.here hx rfl (pc0 := 1) (pc' := 9) rfl (q.d d13_1) rfl (by decide) (by decide) k) (own_aln X0 q d13_9 rfl rfl ?_))
 refine own_cV X0 q hZ e0 hown hml (W 89 rfl) (W 90 rfl) (W 92 rfl) (W 91 rfl) (W 8 rfl) (W 93 rfl) rfl ES (rm14_U2 l Z a0 hw a2 t ks y0 y1 y2 y3 cs0 h0 n0 Z0 O0 ⟨SCS, hcs⟩ ES FC FV VS) d13_10 [] [] own_pd9 0 (by decide) (fun v1168 T1168 L1168 X1168 hQ1168 => ?_)
 obtain ⟨rfl, N1168q, e1168⟩ := hQ1168
 have N1168 := Fr.app N0 N1168q
 refine own_nv (own_isn X1168 q d13_13 (l' := #[.val (.ref a1), .val (.ref a2), .val v'2]) rfl (own_aln X1168 q d13_14 rfl rfl (own_aln X1168 q d13_15 rfl rfl ?_)))
 refine own_gF X1168 q hZ e1168 hown (W 100 rfl) G2 d13_16 fun T1169 X1169 e1169 => ?_
 refine own_iln X1169 q d13_19 rfl (own_iaddk 2 X1169 q d13_20 (by decide) ?_)
 refine own_let ?_; intro g1171_
 obtain ⟨cq1170, q1170, q1170'⟩ := (E1).cell
 obtain ⟨_, _, ⟨T1170, L1170, k1170, n1170⟩, -, X1170, ⟨Lc1170, hQ1170, l1170, y1170, z1170⟩, st1170⟩ := X1169.privateBack hx (y := own_y28) hown (mvT hZ (W 102 rfl)) (mvT hZ (W 103 rfl)) (own_selP (by decide) (mvT hZ (W 105 rfl)) (mvP hZ (W 104 rfl)) (mvT hZ (W 103 rfl))) (Cond.privateMethod_at (mvP hZ (W 104 rfl) (args := #[]))) (mvT hZ (W 106 rfl)) (by decide) (backOf (W := 0) (rm16_2 l Z a0 hw a1 v0 k0 h0 n0 Z0 G0 G1 VV) hZ (W 106 rfl) (W 71 rfl) (by decide) (by decide)) (g := g1171_) rfl (by rw [hml]; rfl) (Steps.refl _) (a := a1) (by rw [e1169]; exact q1170) q1170' (argsL := [v'2]) (rest := []) (lenOf own_pd8 rfl) rfl (by show 2 * 0 + _ ≤ _; exact Nat.le_of_eq rfl) (q.d d13_21) (fun _ _ => ⟨rfl, e1169, (by decide : 0 + 0 ≤ _), (by decide : 0 + 0 ≤ _)⟩)
 dsimp only [Pt.U, Pt.locs, Pt.cells, Pt.slots] at X1170 l1170 y1170 z1170 st1170 hQ1170
 rw [l1170, y1170, z1170] at X1170
 clear l1170 y1170 z1170
 obtain ⟨rfl, N1170q, e1170⟩ := hQ1170
 have N1170 := Fr.app N1168 N1170q
 refine own_stp 24 (fun _ k => st1170.trans k) (own_nn (own_aln X1170 q d13_24 rfl rfl (own_aln X1170 q d13_25 rfl rfl ?_)))
 refine own_gF X1170 q hZ e1170 hown (W 100 rfl) G2 d13_26 fun T1172 X1172 e1172 => ?_
 refine own_aln X1172 q d13_29 rfl rfl ?_
 refine own_cPh X1172 q hZ e1172 hown hml (W 107 rfl) (W 108 rfl) (own_selP (by decide) (mvT hZ (W 110 rfl)) (mvP hZ (W 109 rfl)) (mvT hZ (W 108 rfl))) (W 109 rfl) (W 71 rfl) (W 111 rfl) E1 (rm17_U2 l Z a0 hw a1 a2 v0 k0 t ks y0 y1 y2 y3 cs0 fo h0 n0 Z0 O0 ⟨SCS, hcs⟩ SIO hfo E1 G0 G1 G2 G3 VV g1 gv nav ES FC FV VS m1 m2 m3 m4) d13_30 [v'0, (.ref a2)] [] own_pd23 0 (by decide) (fun v1173 T1173 L1173 h1173 e1173' X1173 hQ1173 => ?_)
 obtain ⟨b1173, k1173, rfl, N1173q, K1173, gb1173, nb1173, G1173_0, G1173_1, G1173_2, G1173_3, V1173⟩ := hQ1173
 have N1173 := Fr.app N1170 N1173q
 have kp1174 := kp0.trans K1173 (allS (own_i0) (allS (own_i1) all0))
 refine own_nn (own_aln X1173 q d13_33 rfl rfl (own_dp X1173 q d13_34 rfl ?_))
 refine own_gF X1173 q hZ e1173' hown (W 100 rfl) G1173_2 d13_35 fun T1175 X1175 e1175 => ?_
 refine own_iln X1175 q d13_38 rfl (own_iaddk 2 X1175 q d13_39 (by decide) ?_)
 refine own_let ?_; intro g1176_
 obtain ⟨T1177, h1177, X1177, e1177, W1177, st1177⟩ := putF X1175 hx hZ hown (host := "") (Or.inl (W 100 rfl)) Via.refl e1175 G1173_2 (E1.keep K1173) (Or.inl (W 101 rfl)) (W 62 rfl) (ty := .int) (by decide) rfl rfl (g := g1176_) rfl rfl (q.d d13_40)
 have kp1178 := kp1174.wr W1177 (own_i0)
 have Fw1177 := (G1173_2).same W1177
 have N1177 := Fr.snoc X1177 N1173 g1
 refine own_stp 43 st1177 (own_aln X1177 q d13_43 rfl rfl ?_)
 refine own_rA X1177 q hrt d13_44 hlk (by decide) ?_
 show QAPU2 Z a1 v0 y0 y1 y2 y3 h0 n0 _ T1177.heap _
 rw [e1177]
 exact ⟨_, _, rfl, N1177, kp1178, gb1173, nb1173, (G1173_0.other W1177 (Or.inr (slot_ne (Or.inl (W 76 rfl)) (Or.inl (W 101 rfl)) (by decide) (t := (.array .byte)) (t' := .int) (by decide) (by decide)))), (G1173_1.other W1177 (Or.inr (slot_ne (Or.inl (W 78 rfl)) (Or.inl (W 101 rfl)) (by decide) (t := .byte) (t' := .int) (by decide) (by decide)))), Fw1177, (G1173_3.other W1177 (Or.inr (slot_ne (Or.inl (W 239 rfl)) (Or.inl (W 101 rfl)) (by decide) (t := .boolean) (t' := .int) (by decide) (by decide)))), (V1173.other W1177 (Ne.symm nb1173))⟩
theorem rm12_U2 (l : Launch) (Z : State) (a0 : Array Value) (hw : own_hw a0 Z) (a1 : Addr) (a2 : Addr) (v0 : Addr) (k0 : ClassId) (t : Addr) (ks : ClassId) (y0 y1 y2 y3 : Int32) (cs0 : Int32) (fo : Value) (h0 : Heap) (n0 : Nat) (Z0 : n0 ≤ h0.size) (O0 : Old Z n0 h0) (SC_ : own_SC Z cs0) (SIO : Sta Z Z.heap "jdk/internal/util/Preconditions" "SIOOBE_FORMATTER" "Ljava/util/function/BiFunction;" fo) (hfo : fo.isRef = true) (E1 : Exa Z h0 a1 "java/lang/StringBuilder") (G0 : F'3 Z h0 a1 (.ref v0)) (G1 : F'2 Z h0 a1 v'0) (G2 : F'4 Z h0 a1 v'0) (G3 : F'5 Z h0 a1 v'0) (VV : Arv Z h0 v0 k0 .byte (16 : Int32) [v'0, v'0, v'0, v'0, v'0, v'0, v'0, v'0, v'0, v'0, v'0, v'0, v'0, v'0, v'0, v'0] v'0) (g1 : n0 ≤ a1) (gv : n0 ≤ v0) (nav : a1 ≠ v0) (ES : Exa Z h0 a2 "java/lang/String") (FC : F'0 Z h0 a2 v'1) (FV : F'1 Z h0 a2 (.ref t)) (VS : Arv Z h0 t ks .byte (4 : Int32) [(.int y0), (.int y1), (.int y2), (.int y3)] v'0) (m1 : a1 ≠ a2) (m2 : v0 ≠ a2) (m3 : a1 ≠ t) (m4 : v0 ≠ t) :
  own_M l Z [] own_y34 b'12 2 (some (.object "java/lang/StringBuilder")) ⟨9, 1, 32, 130⟩ #[(.ref a1), (.ref a2)] h0 (QAPU2 Z a1 v0 y0 y1 y2 y3 h0 n0) := by
 obtain ⟨SCS, hcs⟩ := SC_
 refine own_start (n0 := n0) hw "java/lang/StringBuilder" (L := #[.val (.ref a1), .val (.ref a2)]) pn_12 (fun {p e s m below meth c s₁} q hx W hml hZ hown hnm hlk hrt X0 e0 N0 => ?_)
 have kp0 := Keep.refl h0 [a1]
 have kp0 := Keep.refl h0 [a1, v0]
 refine own_aln X0 q d12_0 rfl rfl (own_aln X0 q d12_1 rfl rfl ?_)
 refine own_let ?_; intro g1183_
 obtain ⟨_, _, ⟨T1182, L1182, k1182, n1182⟩, -, X1182, ⟨Lc1182, hQ1182, l1182, y1182, z1182⟩, st1182⟩ := superBack X0 hx hZ (y := own_y33) hown (W 84 rfl) (own_sameM (by decide) (W 105 rfl) rfl (W 87 rfl)) (W 85 rfl) (W 86 rfl) (by decide) (backOf (W := 0) (rm13_U2 l Z a0 hw a1 a2 v0 k0 t ks y0 y1 y2 y3 cs0 fo h0 n0 Z0 O0 ⟨SCS, hcs⟩ SIO hfo E1 G0 G1 G2 G3 VV g1 gv nav ES FC FV VS m1 m2 m3 m4) hZ (W 88 rfl) (W 71 rfl) (by decide) (by decide)) e0 (Ins.self E1) (g := g1183_) rfl (by rw [hml]; rfl) (W 88 rfl) (argsL := [(.ref a2)]) (rest := []) (lenOf own_pd24 rfl) rfl (by show 2 * 0 + _ ≤ _; exact Nat.le_of_eq rfl) (q.d d12_2) (fun _ _ => ⟨rfl, e0, (by decide : 0 + 1 ≤ _), (by decide : 0 + 32 ≤ _)⟩)
 dsimp only [Pt.U, Pt.locs, Pt.cells, Pt.slots] at X1182 l1182 y1182 z1182 st1182 hQ1182
 rw [l1182, y1182, z1182] at X1182
 clear l1182 y1182 z1182
 obtain ⟨b1182, k1182, rfl, N1182q, K1182, gb1182, nb1182, G1182_0, G1182_1, G1182_2, G1182_3, V1182⟩ := hQ1182
 have N1182 := Fr.app N0 N1182q
 obtain ⟨h1182, e1182⟩ : ∃ z, z = T1182.heap := ⟨_, rfl⟩
 have e1182' := e1182.symm
 rw [← e1182] at K1182 G1182_0 G1182_1 G1182_2 G1182_3 V1182
 have kp1184 := kp0.trans K1182 (allS (own_i0) (allS (own_i1) all0))
 refine own_stp 5 (fun _ k => st1182.trans k) (own_nv (own_stp 6 (fun _ k => XS.pop X1182.here hx rfl (q.d d12_5) rfl rfl k) (own_aln X1182 q d12_6 rfl rfl ?_)))
 refine own_rA X1182 q hrt d12_7 hlk (by decide) ?_
 show QAPU2 Z a1 v0 y0 y1 y2 y3 h0 n0 _ T1182.heap _
 rw [e1182']
 exact ⟨_, _, rfl, N1182, kp1184, gb1182, nb1182, G1182_0, G1182_1, G1182_2, G1182_3, V1182⟩
theorem rm17_U3 (l : Launch) (Z : State) (a0 : Array Value) (hw : own_hw a0 Z) (a1 : Addr) (a2 : Addr) (v0 : Addr) (k0 : ClassId) (t : Addr) (ks : ClassId) (y0 y1 y2 y3 y4 y5 : Int32) (cs0 : Int32) (fo : Value) (h0 : Heap) (n0 : Nat) (Z0 : n0 ≤ h0.size) (O0 : Old Z n0 h0) (SC_ : own_SC Z cs0) (SIO : Sta Z Z.heap "jdk/internal/util/Preconditions" "SIOOBE_FORMATTER" "Ljava/util/function/BiFunction;" fo) (hfo : fo.isRef = true) (E1 : Exa Z h0 a1 "java/lang/StringBuilder") (G0 : F'3 Z h0 a1 (.ref v0)) (G1 : F'2 Z h0 a1 v'0) (G2 : F'4 Z h0 a1 v'0) (G3 : F'5 Z h0 a1 v'0) (VV : Arv Z h0 v0 k0 .byte (16 : Int32) [v'0, v'0, v'0, v'0, v'0, v'0, v'0, v'0, v'0, v'0, v'0, v'0, v'0, v'0, v'0, v'0] v'0) (g1 : n0 ≤ a1) (gv : n0 ≤ v0) (nav : a1 ≠ v0) (ES : Exa Z h0 a2 "java/lang/String") (FC : F'0 Z h0 a2 v'1) (FV : F'1 Z h0 a2 (.ref t)) (VS : Arv Z h0 t ks .byte (6 : Int32) [(.int y0), (.int y1), (.int y2), (.int y3), (.int y4), (.int y5)] v'0) (m1 : a1 ≠ a2) (m2 : v0 ≠ a2) (m3 : a1 ≠ t) (m4 : v0 ≠ t) :
  own_M l Z [] own_y32 b'17 3 none ⟨7, 1, 32, 102⟩ #[(.ref a1), v'0, (.ref a2)] h0 (QPSU3 Z a1 v0 y0 y1 y2 y3 y4 y5 h0 n0) := by
 obtain ⟨SCS, hcs⟩ := SC_
 refine own_start (n0 := n0) hw "java/lang/AbstractStringBuilder" (L := #[.val (.ref a1), .val v'0, .val (.ref a2)]) pn_17 (fun {p e s m below meth c s₁} q hx W hml hZ hown hnm hlk hrt X0 e0 N0 => ?_)
 have kp0 := Keep.refl h0 [a1]
 have kp0 := Keep.refl h0 [a1, v0]
 refine own_aln X0 q d17_0 rfl rfl (own_aln X0 q d17_1 rfl rfl ?_)
 refine own_cPh X0 q hZ e0 hown hml (W 112 rfl) (W 113 rfl) (own_selP (by decide) (mvT hZ (W 115 rfl)) (mvP hZ (W 114 rfl)) (mvT hZ (W 113 rfl))) (W 114 rfl) (W 71 rfl) (W 116 rfl) E1 (rm18_U l Z a0 hw a1 a2 v0 k0 cs0 fo h0 n0 Z0 O0 ⟨SCS, hcs⟩ SIO hfo E1 G0 G1 G2 G3 VV g1 gv nav ES FC) d17_2 [(.ref a2)] [] own_pd21 0 (by decide) (fun v1191 T1191 L1191 h1191 e1191' X1191 hQ1191 => ?_)
 obtain ⟨b1191, k1191, rfl, N1191q, K1191, lo1191, G1191_0, G1191_1, G1191_2, G1191_3, V1191⟩ := hQ1191
 have N1191 := Fr.app N0 N1191q
 have zs1192 := Nat.le_trans Z0 K1191.1
 have od1192 := O0.keep K1191 (allS g1 all0)
 have kp1192 := kp0.trans K1191 (allS (own_i0) all0)
 have g_b1191 : n0 ≤ b1191 := Nat.le_trans Z0 lo1191
 have sz_b1191 : h0.size ≤ b1191 := Nat.le_trans kp0.1 lo1191
 refine own_nn (own_aln X1191 q d17_5 rfl rfl (own_aln X1191 q d17_6 rfl rfl ?_))
 refine own_gF X1191 q hZ e1191' hown (W 75 rfl) G1191_0 d17_7 fun T1193 X1193 e1193 => ?_
 refine own_iln X1193 q d17_10 rfl (own_aln X1193 q d17_11 rfl rfl ?_)
 refine own_gF X1193 q hZ e1193 hown (W 77 rfl) G1191_1 d17_12 fun T1194 X1194 e1194 => ?_
 refine own_cVh X1194 q hZ e1194 hown hml (W 118 rfl) (W 119 rfl) (W 121 rfl) (W 120 rfl) (W 8 rfl) (W 122 rfl) rfl (ES.keep K1191) (rm19_U3 l Z a0 hw a2 b1191 t ks k1191 y0 y1 y2 y3 y4 y5 cs0 h1191 n0 zs1192 od1192 ⟨SCS, hcs⟩ (ES.keep K1191) (FC.keep K1191 (ninS (Ne.symm m1) nin0)) (FV.keep K1191 (ninS (Ne.symm m1) nin0)) (VS.keep K1191 (ninS (Ne.symm m3) nin0)) V1191 g_b1191 (own_ne (VS).lt lo1191) (own_ne (ES).lt lo1191)) d17_15 [(.ref b1191), v'0, v'1] [] own_pd22 0 (by decide) (fun v1195 T1195 L1195 h1195 e1195' X1195 hQ1195 => ?_)
 obtain ⟨rfl, N1195q, K1195, V1195⟩ := hQ1195
 have N1195 := Fr.app N1191 N1195q
 have kp1196 := kp1192.trans K1195 (allS (Or.inr sz_b1191) all0)
 refine own_nn ?_
 refine own_rV X1195 q hrt d17_18 hlk (by decide) ?_
 show QPSU3 Z a1 v0 y0 y1 y2 y3 y4 y5 h0 n0 _ T1195.heap _
 rw [e1195']
 exact ⟨_, _, rfl, N1195, kp1196, g_b1191, (own_ne (E1).lt lo1191), (G1191_0.keep K1195 (ninS (own_ne (E1).lt lo1191) nin0)), (G1191_1.keep K1195 (ninS (own_ne (E1).lt lo1191) nin0)), (G1191_2.keep K1195 (ninS (own_ne (E1).lt lo1191) nin0)), (G1191_3.keep K1195 (ninS (own_ne (E1).lt lo1191) nin0)), V1195⟩
theorem rm13_U3 (l : Launch) (Z : State) (a0 : Array Value) (hw : own_hw a0 Z) (a1 : Addr) (a2 : Addr) (v0 : Addr) (k0 : ClassId) (t : Addr) (ks : ClassId) (y0 y1 y2 y3 y4 y5 : Int32) (cs0 : Int32) (fo : Value) (h0 : Heap) (n0 : Nat) (Z0 : n0 ≤ h0.size) (O0 : Old Z n0 h0) (SC_ : own_SC Z cs0) (SIO : Sta Z Z.heap "jdk/internal/util/Preconditions" "SIOOBE_FORMATTER" "Ljava/util/function/BiFunction;" fo) (hfo : fo.isRef = true) (E1 : Exa Z h0 a1 "java/lang/StringBuilder") (G0 : F'3 Z h0 a1 (.ref v0)) (G1 : F'2 Z h0 a1 v'0) (G2 : F'4 Z h0 a1 v'0) (G3 : F'5 Z h0 a1 v'0) (VV : Arv Z h0 v0 k0 .byte (16 : Int32) [v'0, v'0, v'0, v'0, v'0, v'0, v'0, v'0, v'0, v'0, v'0, v'0, v'0, v'0, v'0, v'0] v'0) (g1 : n0 ≤ a1) (gv : n0 ≤ v0) (nav : a1 ≠ v0) (ES : Exa Z h0 a2 "java/lang/String") (FC : F'0 Z h0 a2 v'1) (FV : F'1 Z h0 a2 (.ref t)) (VS : Arv Z h0 t ks .byte (6 : Int32) [(.int y0), (.int y1), (.int y2), (.int y3), (.int y4), (.int y5)] v'0) (m1 : a1 ≠ a2) (m2 : v0 ≠ a2) (m3 : a1 ≠ t) (m4 : v0 ≠ t) :
  own_M l Z [] own_y33 b'13 3 (some (.object "java/lang/AbstractStringBuilder")) ⟨8, 1, 32, 116⟩ #[(.ref a1), (.ref a2)] h0 (QAPU3 Z a1 v0 y0 y1 y2 y3 y4 y5 h0 n0) := by
 obtain ⟨SCS, hcs⟩ := SC_
 refine own_start (n0 := n0) hw "java/lang/AbstractStringBuilder" (L := #[.val (.ref a1), .val (.ref a2), .unset]) pn_13 (fun {p e s m below meth c s₁} q hx W hml hZ hown hnm hlk hrt X0 e0 N0 => ?_)
 have kp0 := Keep.refl h0 [a1]
 have kp0 := Keep.refl h0 [a1, v0]
 refine own_aln X0 q d13_0 rfl rfl (own_stp 9 (fun _ k => XS.ifnonnullYes X0.here hx rfl (pc0 := 1) (pc' := 9) rfl (q.d d13_1) rfl (by decide) (by decide) k) (own_aln X0 q d13_9 rfl rfl ?_))
 refine own_cV X0 q hZ e0 hown hml (W 89 rfl) (W 90 rfl) (W 92 rfl) (W 91 rfl) (W 8 rfl) (W 93 rfl) rfl ES (rm14_U3 l Z a0 hw a2 t ks y0 y1 y2 y3 y4 y5 cs0 h0 n0 Z0 O0 ⟨SCS, hcs⟩ ES FC FV VS) d13_10 [] [] own_pd9 0 (by decide) (fun v1208 T1208 L1208 X1208 hQ1208 => ?_)
 obtain ⟨rfl, N1208q, e1208⟩ := hQ1208
 have N1208 := Fr.app N0 N1208q
 refine own_nv (own_isn X1208 q d13_13 (l' := #[.val (.ref a1), .val (.ref a2), .val v'3]) rfl (own_aln X1208 q d13_14 rfl rfl (own_aln X1208 q d13_15 rfl rfl ?_)))
 refine own_gF X1208 q hZ e1208 hown (W 100 rfl) G2 d13_16 fun T1209 X1209 e1209 => ?_
 refine own_iln X1209 q d13_19 rfl (own_iaddk 3 X1209 q d13_20 (by decide) ?_)
 refine own_let ?_; intro g1211_
 obtain ⟨cq1210, q1210, q1210'⟩ := (E1).cell
 obtain ⟨_, _, ⟨T1210, L1210, k1210, n1210⟩, -, X1210, ⟨Lc1210, hQ1210, l1210, y1210, z1210⟩, st1210⟩ := X1209.privateBack hx (y := own_y28) hown (mvT hZ (W 102 rfl)) (mvT hZ (W 103 rfl)) (own_selP (by decide) (mvT hZ (W 105 rfl)) (mvP hZ (W 104 rfl)) (mvT hZ (W 103 rfl))) (Cond.privateMethod_at (mvP hZ (W 104 rfl) (args := #[]))) (mvT hZ (W 106 rfl)) (by decide) (backOf (W := 0) (rm16_3 l Z a0 hw a1 v0 k0 h0 n0 Z0 G0 G1 VV) hZ (W 106 rfl) (W 71 rfl) (by decide) (by decide)) (g := g1211_) rfl (by rw [hml]; rfl) (Steps.refl _) (a := a1) (by rw [e1209]; exact q1210) q1210' (argsL := [v'3]) (rest := []) (lenOf own_pd8 rfl) rfl (by show 2 * 0 + _ ≤ _; exact Nat.le_of_eq rfl) (q.d d13_21) (fun _ _ => ⟨rfl, e1209, (by decide : 0 + 0 ≤ _), (by decide : 0 + 0 ≤ _)⟩)
 dsimp only [Pt.U, Pt.locs, Pt.cells, Pt.slots] at X1210 l1210 y1210 z1210 st1210 hQ1210
 rw [l1210, y1210, z1210] at X1210
 clear l1210 y1210 z1210
 obtain ⟨rfl, N1210q, e1210⟩ := hQ1210
 have N1210 := Fr.app N1208 N1210q
 refine own_stp 24 (fun _ k => st1210.trans k) (own_nn (own_aln X1210 q d13_24 rfl rfl (own_aln X1210 q d13_25 rfl rfl ?_)))
 refine own_gF X1210 q hZ e1210 hown (W 100 rfl) G2 d13_26 fun T1212 X1212 e1212 => ?_
 refine own_aln X1212 q d13_29 rfl rfl ?_
 refine own_cPh X1212 q hZ e1212 hown hml (W 107 rfl) (W 108 rfl) (own_selP (by decide) (mvT hZ (W 110 rfl)) (mvP hZ (W 109 rfl)) (mvT hZ (W 108 rfl))) (W 109 rfl) (W 71 rfl) (W 111 rfl) E1 (rm17_U3 l Z a0 hw a1 a2 v0 k0 t ks y0 y1 y2 y3 y4 y5 cs0 fo h0 n0 Z0 O0 ⟨SCS, hcs⟩ SIO hfo E1 G0 G1 G2 G3 VV g1 gv nav ES FC FV VS m1 m2 m3 m4) d13_30 [v'0, (.ref a2)] [] own_pd23 0 (by decide) (fun v1213 T1213 L1213 h1213 e1213' X1213 hQ1213 => ?_)
 obtain ⟨b1213, k1213, rfl, N1213q, K1213, gb1213, nb1213, G1213_0, G1213_1, G1213_2, G1213_3, V1213⟩ := hQ1213
 have N1213 := Fr.app N1210 N1213q
 have kp1214 := kp0.trans K1213 (allS (own_i0) (allS (own_i1) all0))
 refine own_nn (own_aln X1213 q d13_33 rfl rfl (own_dp X1213 q d13_34 rfl ?_))
 refine own_gF X1213 q hZ e1213' hown (W 100 rfl) G1213_2 d13_35 fun T1215 X1215 e1215 => ?_
 refine own_iln X1215 q d13_38 rfl (own_iaddk 3 X1215 q d13_39 (by decide) ?_)
 refine own_let ?_; intro g1216_
 obtain ⟨T1217, h1217, X1217, e1217, W1217, st1217⟩ := putF X1215 hx hZ hown (host := "") (Or.inl (W 100 rfl)) Via.refl e1215 G1213_2 (E1.keep K1213) (Or.inl (W 101 rfl)) (W 62 rfl) (ty := .int) (by decide) rfl rfl (g := g1216_) rfl rfl (q.d d13_40)
 have kp1218 := kp1214.wr W1217 (own_i0)
 have Fw1217 := (G1213_2).same W1217
 have N1217 := Fr.snoc X1217 N1213 g1
 refine own_stp 43 st1217 (own_aln X1217 q d13_43 rfl rfl ?_)
 refine own_rA X1217 q hrt d13_44 hlk (by decide) ?_
 show QAPU3 Z a1 v0 y0 y1 y2 y3 y4 y5 h0 n0 _ T1217.heap _
 rw [e1217]
 exact ⟨_, _, rfl, N1217, kp1218, gb1213, nb1213, (G1213_0.other W1217 (Or.inr (slot_ne (Or.inl (W 76 rfl)) (Or.inl (W 101 rfl)) (by decide) (t := (.array .byte)) (t' := .int) (by decide) (by decide)))), (G1213_1.other W1217 (Or.inr (slot_ne (Or.inl (W 78 rfl)) (Or.inl (W 101 rfl)) (by decide) (t := .byte) (t' := .int) (by decide) (by decide)))), Fw1217, (G1213_3.other W1217 (Or.inr (slot_ne (Or.inl (W 239 rfl)) (Or.inl (W 101 rfl)) (by decide) (t := .boolean) (t' := .int) (by decide) (by decide)))), (V1213.other W1217 (Ne.symm nb1213))⟩
theorem rm12_U3 (l : Launch) (Z : State) (a0 : Array Value) (hw : own_hw a0 Z) (a1 : Addr) (a2 : Addr) (v0 : Addr) (k0 : ClassId) (t : Addr) (ks : ClassId) (y0 y1 y2 y3 y4 y5 : Int32) (cs0 : Int32) (fo : Value) (h0 : Heap) (n0 : Nat) (Z0 : n0 ≤ h0.size) (O0 : Old Z n0 h0) (SC_ : own_SC Z cs0) (SIO : Sta Z Z.heap "jdk/internal/util/Preconditions" "SIOOBE_FORMATTER" "Ljava/util/function/BiFunction;" fo) (hfo : fo.isRef = true) (E1 : Exa Z h0 a1 "java/lang/StringBuilder") (G0 : F'3 Z h0 a1 (.ref v0)) (G1 : F'2 Z h0 a1 v'0) (G2 : F'4 Z h0 a1 v'0) (G3 : F'5 Z h0 a1 v'0) (VV : Arv Z h0 v0 k0 .byte (16 : Int32) [v'0, v'0, v'0, v'0, v'0, v'0, v'0, v'0, v'0, v'0, v'0, v'0, v'0, v'0, v'0, v'0] v'0) (g1 : n0 ≤ a1) (gv : n0 ≤ v0) (nav : a1 ≠ v0) (ES : Exa Z h0 a2 "java/lang/String") (FC : F'0 Z h0 a2 v'1) (FV : F'1 Z h0 a2 (.ref t)) (VS : Arv Z h0 t ks .byte (6 : Int32) [(.int y0), (.int y1), (.int y2), (.int y3), (.int y4), (.int y5)] v'0) (m1 : a1 ≠ a2) (m2 : v0 ≠ a2) (m3 : a1 ≠ t) (m4 : v0 ≠ t) :
  own_M l Z [] own_y34 b'12 2 (some (.object "java/lang/StringBuilder")) ⟨9, 1, 32, 130⟩ #[(.ref a1), (.ref a2)] h0 (QAPU3 Z a1 v0 y0 y1 y2 y3 y4 y5 h0 n0) := by
 obtain ⟨SCS, hcs⟩ := SC_
 refine own_start (n0 := n0) hw "java/lang/StringBuilder" (L := #[.val (.ref a1), .val (.ref a2)]) pn_12 (fun {p e s m below meth c s₁} q hx W hml hZ hown hnm hlk hrt X0 e0 N0 => ?_)
 have kp0 := Keep.refl h0 [a1]
 have kp0 := Keep.refl h0 [a1, v0]
 refine own_aln X0 q d12_0 rfl rfl (own_aln X0 q d12_1 rfl rfl ?_)
 refine own_let ?_; intro g1223_
 obtain ⟨_, _, ⟨T1222, L1222, k1222, n1222⟩, -, X1222, ⟨Lc1222, hQ1222, l1222, y1222, z1222⟩, st1222⟩ := superBack X0 hx hZ (y := own_y33) hown (W 84 rfl) (own_sameM (by decide) (W 105 rfl) rfl (W 87 rfl)) (W 85 rfl) (W 86 rfl) (by decide) (backOf (W := 0) (rm13_U3 l Z a0 hw a1 a2 v0 k0 t ks y0 y1 y2 y3 y4 y5 cs0 fo h0 n0 Z0 O0 ⟨SCS, hcs⟩ SIO hfo E1 G0 G1 G2 G3 VV g1 gv nav ES FC FV VS m1 m2 m3 m4) hZ (W 88 rfl) (W 71 rfl) (by decide) (by decide)) e0 (Ins.self E1) (g := g1223_) rfl (by rw [hml]; rfl) (W 88 rfl) (argsL := [(.ref a2)]) (rest := []) (lenOf own_pd24 rfl) rfl (by show 2 * 0 + _ ≤ _; exact Nat.le_of_eq rfl) (q.d d12_2) (fun _ _ => ⟨rfl, e0, (by decide : 0 + 1 ≤ _), (by decide : 0 + 32 ≤ _)⟩)
 dsimp only [Pt.U, Pt.locs, Pt.cells, Pt.slots] at X1222 l1222 y1222 z1222 st1222 hQ1222
 rw [l1222, y1222, z1222] at X1222
 clear l1222 y1222 z1222
 obtain ⟨b1222, k1222, rfl, N1222q, K1222, gb1222, nb1222, G1222_0, G1222_1, G1222_2, G1222_3, V1222⟩ := hQ1222
 have N1222 := Fr.app N0 N1222q
 obtain ⟨h1222, e1222⟩ : ∃ z, z = T1222.heap := ⟨_, rfl⟩
 have e1222' := e1222.symm
 rw [← e1222] at K1222 G1222_0 G1222_1 G1222_2 G1222_3 V1222
 have kp1224 := kp0.trans K1222 (allS (own_i0) (allS (own_i1) all0))
 refine own_stp 5 (fun _ k => st1222.trans k) (own_nv (own_stp 6 (fun _ k => XS.pop X1222.here hx rfl (q.d d12_5) rfl rfl k) (own_aln X1222 q d12_6 rfl rfl ?_)))
 refine own_rA X1222 q hrt d12_7 hlk (by decide) ?_
 show QAPU3 Z a1 v0 y0 y1 y2 y3 y4 y5 h0 n0 _ T1222.heap _
 rw [e1222']
 exact ⟨_, _, rfl, N1222, kp1224, gb1222, nb1222, G1222_0, G1222_1, G1222_2, G1222_3, V1222⟩
theorem rm17_U4 (l : Launch) (Z : State) (a0 : Array Value) (hw : own_hw a0 Z) (a1 : Addr) (a2 : Addr) (v0 : Addr) (k0 : ClassId) (t : Addr) (ks : ClassId) (y0 y1 y2 y3 y4 y5 y6 y7 : Int32) (cs0 : Int32) (fo : Value) (h0 : Heap) (n0 : Nat) (Z0 : n0 ≤ h0.size) (O0 : Old Z n0 h0) (SC_ : own_SC Z cs0) (SIO : Sta Z Z.heap "jdk/internal/util/Preconditions" "SIOOBE_FORMATTER" "Ljava/util/function/BiFunction;" fo) (hfo : fo.isRef = true) (E1 : Exa Z h0 a1 "java/lang/StringBuilder") (G0 : F'3 Z h0 a1 (.ref v0)) (G1 : F'2 Z h0 a1 v'0) (G2 : F'4 Z h0 a1 v'0) (G3 : F'5 Z h0 a1 v'0) (VV : Arv Z h0 v0 k0 .byte (16 : Int32) [v'0, v'0, v'0, v'0, v'0, v'0, v'0, v'0, v'0, v'0, v'0, v'0, v'0, v'0, v'0, v'0] v'0) (g1 : n0 ≤ a1) (gv : n0 ≤ v0) (nav : a1 ≠ v0) (ES : Exa Z h0 a2 "java/lang/String") (FC : F'0 Z h0 a2 v'1) (FV : F'1 Z h0 a2 (.ref t)) (VS : Arv Z h0 t ks .byte (8 : Int32) [(.int y0), (.int y1), (.int y2), (.int y3), (.int y4), (.int y5), (.int y6), (.int y7)] v'0) (m1 : a1 ≠ a2) (m2 : v0 ≠ a2) (m3 : a1 ≠ t) (m4 : v0 ≠ t) :
  own_M l Z [] own_y32 b'17 3 none ⟨7, 1, 32, 102⟩ #[(.ref a1), v'0, (.ref a2)] h0 (QPSU4 Z a1 v0 y0 y1 y2 y3 y4 y5 y6 y7 h0 n0) := by
 obtain ⟨SCS, hcs⟩ := SC_
 refine own_start (n0 := n0) hw "java/lang/AbstractStringBuilder" (L := #[.val (.ref a1), .val v'0, .val (.ref a2)]) pn_17 (fun {p e s m below meth c s₁} q hx W hml hZ hown hnm hlk hrt X0 e0 N0 => ?_)
 have kp0 := Keep.refl h0 [a1]
 have kp0 := Keep.refl h0 [a1, v0]
 refine own_aln X0 q d17_0 rfl rfl (own_aln X0 q d17_1 rfl rfl ?_)
 refine own_cPh X0 q hZ e0 hown hml (W 112 rfl) (W 113 rfl) (own_selP (by decide) (mvT hZ (W 115 rfl)) (mvP hZ (W 114 rfl)) (mvT hZ (W 113 rfl))) (W 114 rfl) (W 71 rfl) (W 116 rfl) E1 (rm18_U l Z a0 hw a1 a2 v0 k0 cs0 fo h0 n0 Z0 O0 ⟨SCS, hcs⟩ SIO hfo E1 G0 G1 G2 G3 VV g1 gv nav ES FC) d17_2 [(.ref a2)] [] own_pd21 0 (by decide) (fun v1231 T1231 L1231 h1231 e1231' X1231 hQ1231 => ?_)
 obtain ⟨b1231, k1231, rfl, N1231q, K1231, lo1231, G1231_0, G1231_1, G1231_2, G1231_3, V1231⟩ := hQ1231
 have N1231 := Fr.app N0 N1231q
 have zs1232 := Nat.le_trans Z0 K1231.1
 have od1232 := O0.keep K1231 (allS g1 all0)
 have kp1232 := kp0.trans K1231 (allS (own_i0) all0)
 have g_b1231 : n0 ≤ b1231 := Nat.le_trans Z0 lo1231
 have sz_b1231 : h0.size ≤ b1231 := Nat.le_trans kp0.1 lo1231
 refine own_nn (own_aln X1231 q d17_5 rfl rfl (own_aln X1231 q d17_6 rfl rfl ?_))
 refine own_gF X1231 q hZ e1231' hown (W 75 rfl) G1231_0 d17_7 fun T1233 X1233 e1233 => ?_
 refine own_iln X1233 q d17_10 rfl (own_aln X1233 q d17_11 rfl rfl ?_)
 refine own_gF X1233 q hZ e1233 hown (W 77 rfl) G1231_1 d17_12 fun T1234 X1234 e1234 => ?_
 refine own_cVh X1234 q hZ e1234 hown hml (W 118 rfl) (W 119 rfl) (W 121 rfl) (W 120 rfl) (W 8 rfl) (W 122 rfl) rfl (ES.keep K1231) (rm19_U4 l Z a0 hw a2 b1231 t ks k1231 y0 y1 y2 y3 y4 y5 y6 y7 cs0 h1231 n0 zs1232 od1232 ⟨SCS, hcs⟩ (ES.keep K1231) (FC.keep K1231 (ninS (Ne.symm m1) nin0)) (FV.keep K1231 (ninS (Ne.symm m1) nin0)) (VS.keep K1231 (ninS (Ne.symm m3) nin0)) V1231 g_b1231 (own_ne (VS).lt lo1231) (own_ne (ES).lt lo1231)) d17_15 [(.ref b1231), v'0, v'1] [] own_pd22 0 (by decide) (fun v1235 T1235 L1235 h1235 e1235' X1235 hQ1235 => ?_)
 obtain ⟨rfl, N1235q, K1235, V1235⟩ := hQ1235
 have N1235 := Fr.app N1231 N1235q
 have kp1236 := kp1232.trans K1235 (allS (Or.inr sz_b1231) all0)
 refine own_nn ?_
 refine own_rV X1235 q hrt d17_18 hlk (by decide) ?_
 show QPSU4 Z a1 v0 y0 y1 y2 y3 y4 y5 y6 y7 h0 n0 _ T1235.heap _
 rw [e1235']
 exact ⟨_, _, rfl, N1235, kp1236, g_b1231, (own_ne (E1).lt lo1231), (G1231_0.keep K1235 (ninS (own_ne (E1).lt lo1231) nin0)), (G1231_1.keep K1235 (ninS (own_ne (E1).lt lo1231) nin0)), (G1231_2.keep K1235 (ninS (own_ne (E1).lt lo1231) nin0)), (G1231_3.keep K1235 (ninS (own_ne (E1).lt lo1231) nin0)), V1235⟩
theorem rm13_U4 (l : Launch) (Z : State) (a0 : Array Value) (hw : own_hw a0 Z) (a1 : Addr) (a2 : Addr) (v0 : Addr) (k0 : ClassId) (t : Addr) (ks : ClassId) (y0 y1 y2 y3 y4 y5 y6 y7 : Int32) (cs0 : Int32) (fo : Value) (h0 : Heap) (n0 : Nat) (Z0 : n0 ≤ h0.size) (O0 : Old Z n0 h0) (SC_ : own_SC Z cs0) (SIO : Sta Z Z.heap "jdk/internal/util/Preconditions" "SIOOBE_FORMATTER" "Ljava/util/function/BiFunction;" fo) (hfo : fo.isRef = true) (E1 : Exa Z h0 a1 "java/lang/StringBuilder") (G0 : F'3 Z h0 a1 (.ref v0)) (G1 : F'2 Z h0 a1 v'0) (G2 : F'4 Z h0 a1 v'0) (G3 : F'5 Z h0 a1 v'0) (VV : Arv Z h0 v0 k0 .byte (16 : Int32) [v'0, v'0, v'0, v'0, v'0, v'0, v'0, v'0, v'0, v'0, v'0, v'0, v'0, v'0, v'0, v'0] v'0) (g1 : n0 ≤ a1) (gv : n0 ≤ v0) (nav : a1 ≠ v0) (ES : Exa Z h0 a2 "java/lang/String") (FC : F'0 Z h0 a2 v'1) (FV : F'1 Z h0 a2 (.ref t)) (VS : Arv Z h0 t ks .byte (8 : Int32) [(.int y0), (.int y1), (.int y2), (.int y3), (.int y4), (.int y5), (.int y6), (.int y7)] v'0) (m1 : a1 ≠ a2) (m2 : v0 ≠ a2) (m3 : a1 ≠ t) (m4 : v0 ≠ t) :
  own_M l Z [] own_y33 b'13 3 (some (.object "java/lang/AbstractStringBuilder")) ⟨8, 1, 32, 116⟩ #[(.ref a1), (.ref a2)] h0 (QAPU4 Z a1 v0 y0 y1 y2 y3 y4 y5 y6 y7 h0 n0) := by
 obtain ⟨SCS, hcs⟩ := SC_
 refine own_start (n0 := n0) hw "java/lang/AbstractStringBuilder" (L := #[.val (.ref a1), .val (.ref a2), .unset]) pn_13 (fun {p e s m below meth c s₁} q hx W hml hZ hown hnm hlk hrt X0 e0 N0 => ?_)
 have kp0 := Keep.refl h0 [a1]
 have kp0 := Keep.refl h0 [a1, v0]
 refine own_aln X0 q d13_0 rfl rfl (own_stp 9 (fun _ k => XS.ifnonnullYes X0.here hx rfl (pc0 := 1) (pc' := 9) rfl (q.d d13_1) rfl (by decide) (by decide) k) (own_aln X0 q d13_9 rfl rfl ?_))
 refine own_cV X0 q hZ e0 hown hml (W 89 rfl) (W 90 rfl) (W 92 rfl) (W 91 rfl) (W 8 rfl) (W 93 rfl) rfl ES (rm14_U4 l Z a0 hw a2 t ks y0 y1 y2 y3 y4 y5 y6 y7 cs0 h0 n0 Z0 O0 ⟨SCS, hcs⟩ ES FC FV VS) d13_10 [] [] own_pd9 0 (by decide) (fun v1248 T1248 L1248 X1248 hQ1248 => ?_)
 obtain ⟨rfl, N1248q, e1248⟩ := hQ1248
 have N1248 := Fr.app N0 N1248q
 refine own_nv (own_isn X1248 q d13_13 (l' := #[.val (.ref a1), .val (.ref a2), .val v'4]) rfl (own_aln X1248 q d13_14 rfl rfl (own_aln X1248 q d13_15 rfl rfl ?_)))
 refine own_gF X1248 q hZ e1248 hown (W 100 rfl) G2 d13_16 fun T1249 X1249 e1249 => ?_
 refine own_iln X1249 q d13_19 rfl (own_iaddk 4 X1249 q d13_20 (by decide) ?_)
 refine own_let ?_; intro g1251_
 obtain ⟨cq1250, q1250, q1250'⟩ := (E1).cell
 obtain ⟨_, _, ⟨T1250, L1250, k1250, n1250⟩, -, X1250, ⟨Lc1250, hQ1250, l1250, y1250, z1250⟩, st1250⟩ := X1249.privateBack hx (y := own_y28) hown (mvT hZ (W 102 rfl)) (mvT hZ (W 103 rfl)) (own_selP (by decide) (mvT hZ (W 105 rfl)) (mvP hZ (W 104 rfl)) (mvT hZ (W 103 rfl))) (Cond.privateMethod_at (mvP hZ (W 104 rfl) (args := #[]))) (mvT hZ (W 106 rfl)) (by decide) (backOf (W := 0) (rm16_4 l Z a0 hw a1 v0 k0 h0 n0 Z0 G0 G1 VV) hZ (W 106 rfl) (W 71 rfl) (by decide) (by decide)) (g := g1251_) rfl (by rw [hml]; rfl) (Steps.refl _) (a := a1) (by rw [e1249]; exact q1250) q1250' (argsL := [v'4]) (rest := []) (lenOf own_pd8 rfl) rfl (by show 2 * 0 + _ ≤ _; exact Nat.le_of_eq rfl) (q.d d13_21) (fun _ _ => ⟨rfl, e1249, (by decide : 0 + 0 ≤ _), (by decide : 0 + 0 ≤ _)⟩)
 dsimp only [Pt.U, Pt.locs, Pt.cells, Pt.slots] at X1250 l1250 y1250 z1250 st1250 hQ1250
 rw [l1250, y1250, z1250] at X1250
 clear l1250 y1250 z1250
 obtain ⟨rfl, N1250q, e1250⟩ := hQ1250
 have N1250 := Fr.app N1248 N1250q
 refine own_stp 24 (fun _ k => st1250.trans k) (own_nn (own_aln X1250 q d13_24 rfl rfl (own_aln X1250 q d13_25 rfl rfl ?_)))
 refine own_gF X1250 q hZ e1250 hown (W 100 rfl) G2 d13_26 fun T1252 X1252 e1252 => ?_
 refine own_aln X1252 q d13_29 rfl rfl ?_
 refine own_cPh X1252 q hZ e1252 hown hml (W 107 rfl) (W 108 rfl) (own_selP (by decide) (mvT hZ (W 110 rfl)) (mvP hZ (W 109 rfl)) (mvT hZ (W 108 rfl))) (W 109 rfl) (W 71 rfl) (W 111 rfl) E1 (rm17_U4 l Z a0 hw a1 a2 v0 k0 t ks y0 y1 y2 y3 y4 y5 y6 y7 cs0 fo h0 n0 Z0 O0 ⟨SCS, hcs⟩ SIO hfo E1 G0 G1 G2 G3 VV g1 gv nav ES FC FV VS m1 m2 m3 m4) d13_30 [v'0, (.ref a2)] [] own_pd23 0 (by decide) (fun v1253 T1253 L1253 h1253 e1253' X1253 hQ1253 => ?_)
 obtain ⟨b1253, k1253, rfl, N1253q, K1253, gb1253, nb1253, G1253_0, G1253_1, G1253_2, G1253_3, V1253⟩ := hQ1253
 have N1253 := Fr.app N1250 N1253q
 have kp1254 := kp0.trans K1253 (allS (own_i0) (allS (own_i1) all0))
 refine own_nn (own_aln X1253 q d13_33 rfl rfl (own_dp X1253 q d13_34 rfl ?_))
 refine own_gF X1253 q hZ e1253' hown (W 100 rfl) G1253_2 d13_35 fun T1255 X1255 e1255 => ?_
 refine own_iln X1255 q d13_38 rfl (own_iaddk 4 X1255 q d13_39 (by decide) ?_)
 refine own_let ?_; intro g1256_
 obtain ⟨T1257, h1257, X1257, e1257, W1257, st1257⟩ := putF X1255 hx hZ hown (host := "") (Or.inl (W 100 rfl)) Via.refl e1255 G1253_2 (E1.keep K1253) (Or.inl (W 101 rfl)) (W 62 rfl) (ty := .int) (by decide) rfl rfl (g := g1256_) rfl rfl (q.d d13_40)
 have kp1258 := kp1254.wr W1257 (own_i0)
 have Fw1257 := (G1253_2).same W1257
 have N1257 := Fr.snoc X1257 N1253 g1
 refine own_stp 43 st1257 (own_aln X1257 q d13_43 rfl rfl ?_)
 refine own_rA X1257 q hrt d13_44 hlk (by decide) ?_
 show QAPU4 Z a1 v0 y0 y1 y2 y3 y4 y5 y6 y7 h0 n0 _ T1257.heap _
 rw [e1257]
 exact ⟨_, _, rfl, N1257, kp1258, gb1253, nb1253, (G1253_0.other W1257 (Or.inr (slot_ne (Or.inl (W 76 rfl)) (Or.inl (W 101 rfl)) (by decide) (t := (.array .byte)) (t' := .int) (by decide) (by decide)))), (G1253_1.other W1257 (Or.inr (slot_ne (Or.inl (W 78 rfl)) (Or.inl (W 101 rfl)) (by decide) (t := .byte) (t' := .int) (by decide) (by decide)))), Fw1257, (G1253_3.other W1257 (Or.inr (slot_ne (Or.inl (W 239 rfl)) (Or.inl (W 101 rfl)) (by decide) (t := .boolean) (t' := .int) (by decide) (by decide)))), (V1253.other W1257 (Ne.symm nb1253))⟩
theorem rm12_U4 (l : Launch) (Z : State) (a0 : Array Value) (hw : own_hw a0 Z) (a1 : Addr) (a2 : Addr) (v0 : Addr) (k0 : ClassId) (t : Addr) (ks : ClassId) (y0 y1 y2 y3 y4 y5 y6 y7 : Int32) (cs0 : Int32) (fo : Value) (h0 : Heap) (n0 : Nat) (Z0 : n0 ≤ h0.size) (O0 : Old Z n0 h0) (SC_ : own_SC Z cs0) (SIO : Sta Z Z.heap "jdk/internal/util/Preconditions" "SIOOBE_FORMATTER" "Ljava/util/function/BiFunction;" fo) (hfo : fo.isRef = true) (E1 : Exa Z h0 a1 "java/lang/StringBuilder") (G0 : F'3 Z h0 a1 (.ref v0)) (G1 : F'2 Z h0 a1 v'0) (G2 : F'4 Z h0 a1 v'0) (G3 : F'5 Z h0 a1 v'0) (VV : Arv Z h0 v0 k0 .byte (16 : Int32) [v'0, v'0, v'0, v'0, v'0, v'0, v'0, v'0, v'0, v'0, v'0, v'0, v'0, v'0, v'0, v'0] v'0) (g1 : n0 ≤ a1) (gv : n0 ≤ v0) (nav : a1 ≠ v0) (ES : Exa Z h0 a2 "java/lang/String") (FC : F'0 Z h0 a2 v'1) (FV : F'1 Z h0 a2 (.ref t)) (VS : Arv Z h0 t ks .byte (8 : Int32) [(.int y0), (.int y1), (.int y2), (.int y3), (.int y4), (.int y5), (.int y6), (.int y7)] v'0) (m1 : a1 ≠ a2) (m2 : v0 ≠ a2) (m3 : a1 ≠ t) (m4 : v0 ≠ t) :
  own_M l Z [] own_y34 b'12 2 (some (.object "java/lang/StringBuilder")) ⟨9, 1, 32, 130⟩ #[(.ref a1), (.ref a2)] h0 (QAPU4 Z a1 v0 y0 y1 y2 y3 y4 y5 y6 y7 h0 n0) := by
 obtain ⟨SCS, hcs⟩ := SC_
 refine own_start (n0 := n0) hw "java/lang/StringBuilder" (L := #[.val (.ref a1), .val (.ref a2)]) pn_12 (fun {p e s m below meth c s₁} q hx W hml hZ hown hnm hlk hrt X0 e0 N0 => ?_)
 have kp0 := Keep.refl h0 [a1]
 have kp0 := Keep.refl h0 [a1, v0]
 refine own_aln X0 q d12_0 rfl rfl (own_aln X0 q d12_1 rfl rfl ?_)
 refine own_let ?_; intro g1263_
 obtain ⟨_, _, ⟨T1262, L1262, k1262, n1262⟩, -, X1262, ⟨Lc1262, hQ1262, l1262, y1262, z1262⟩, st1262⟩ := superBack X0 hx hZ (y := own_y33) hown (W 84 rfl) (own_sameM (by decide) (W 105 rfl) rfl (W 87 rfl)) (W 85 rfl) (W 86 rfl) (by decide) (backOf (W := 0) (rm13_U4 l Z a0 hw a1 a2 v0 k0 t ks y0 y1 y2 y3 y4 y5 y6 y7 cs0 fo h0 n0 Z0 O0 ⟨SCS, hcs⟩ SIO hfo E1 G0 G1 G2 G3 VV g1 gv nav ES FC FV VS m1 m2 m3 m4) hZ (W 88 rfl) (W 71 rfl) (by decide) (by decide)) e0 (Ins.self E1) (g := g1263_) rfl (by rw [hml]; rfl) (W 88 rfl) (argsL := [(.ref a2)]) (rest := []) (lenOf own_pd24 rfl) rfl (by show 2 * 0 + _ ≤ _; exact Nat.le_of_eq rfl) (q.d d12_2) (fun _ _ => ⟨rfl, e0, (by decide : 0 + 1 ≤ _), (by decide : 0 + 32 ≤ _)⟩)
 dsimp only [Pt.U, Pt.locs, Pt.cells, Pt.slots] at X1262 l1262 y1262 z1262 st1262 hQ1262
 rw [l1262, y1262, z1262] at X1262
 clear l1262 y1262 z1262
 obtain ⟨b1262, k1262, rfl, N1262q, K1262, gb1262, nb1262, G1262_0, G1262_1, G1262_2, G1262_3, V1262⟩ := hQ1262
 have N1262 := Fr.app N0 N1262q
 obtain ⟨h1262, e1262⟩ : ∃ z, z = T1262.heap := ⟨_, rfl⟩
 have e1262' := e1262.symm
 rw [← e1262] at K1262 G1262_0 G1262_1 G1262_2 G1262_3 V1262
 have kp1264 := kp0.trans K1262 (allS (own_i0) (allS (own_i1) all0))
 refine own_stp 5 (fun _ k => st1262.trans k) (own_nv (own_stp 6 (fun _ k => XS.pop X1262.here hx rfl (q.d d12_5) rfl rfl k) (own_aln X1262 q d12_6 rfl rfl ?_)))
 refine own_rA X1262 q hrt d12_7 hlk (by decide) ?_
 show QAPU4 Z a1 v0 y0 y1 y2 y3 y4 y5 y6 y7 h0 n0 _ T1262.heap _
 rw [e1262']
 exact ⟨_, _, rfl, N1262, kp1264, gb1262, nb1262, G1262_0, G1262_1, G1262_2, G1262_3, V1262⟩
theorem d22_0 : own_D b'22 0 (.aload_n 0) 1 1 := by decide +kernel
theorem d22_1 : own_D b'22 1 (.invokespecial 1) 3 4 := by decide +kernel
theorem d22_4 : own_D b'22 4 (.aload_n 1) 1 5 := by decide +kernel
theorem d22_5 : own_D b'22 5 (.invokevirtual 552) 3 8 := by decide +kernel
theorem d22_8 : own_D b'22 8 (.astore_n 3) 1 9 := by decide +kernel
theorem d22_9 : own_D b'22 9 (.aload_n 1) 1 10 := by decide +kernel
theorem d22_10 : own_D b'22 10 (.invokevirtual 549) 3 13 := by decide +kernel
theorem d22_13 : own_D b'22 13 (.istore 4) 2 15 := by decide +kernel
theorem d22_15 : own_D b'22 15 (.aload_n 1) 1 16 := by decide +kernel
theorem d22_16 : own_D b'22 16 (.invokevirtual 1047) 3 19 := by decide +kernel
theorem d22_19 : own_DZ b'22 19 .eq 41 22 := by decide +kernel
theorem d22_22 : own_D b'22 22 (.aload_n 0) 1 23 := by decide +kernel
theorem d22_23 : own_DK b'22 23 0 24 := by decide +kernel
theorem d22_24 : own_D b'22 24 (.putfield 15) 3 27 := by decide +kernel
theorem d22_27 : own_D b'22 27 (.aload_n 0) 1 28 := by decide +kernel
theorem d22_28 : own_D b'22 28 (.aload_n 3) 1 29 := by decide +kernel
theorem d22_29 : own_DK b'22 29 0 30 := by decide +kernel
theorem d22_30 : own_D b'22 30 (.iload 4) 2 32 := by decide +kernel
theorem d22_32 : own_D b'22 32 (.invokestatic 54) 3 35 := by decide +kernel
theorem d22_35 : own_D b'22 35 (.putfield 9) 3 38 := by decide +kernel
theorem d22_38 : own_DG b'22 38 97 := by decide +kernel
theorem d22_41 : own_D b'22 41 (.getstatic 38) 3 44 := by decide +kernel
theorem d22_44 : own_DZ b'22 44 .eq 79 47 := by decide +kernel
theorem d22_47 : own_D b'22 47 (.aload_n 1) 1 48 := by decide +kernel
theorem d22_48 : own_D b'22 48 (.getfield 1048) 3 51 := by decide +kernel
theorem d22_51 : own_DZ b'22 51 .eq 79 54 := by decide +kernel
theorem d22_79 : own_D b'22 79 (.aload_n 0) 1 80 := by decide +kernel
theorem d22_80 : own_DK b'22 80 1 81 := by decide +kernel
theorem d22_81 : own_D b'22 81 (.putfield 15) 3 84 := by decide +kernel
theorem d22_84 : own_D b'22 84 (.aload_n 0) 1 85 := by decide +kernel
theorem d22_85 : own_D b'22 85 (.aload_n 3) 1 86 := by decide +kernel
theorem d22_86 : own_DK b'22 86 0 87 := by decide +kernel
theorem d22_87 : own_D b'22 87 (.iload 4) 2 89 := by decide +kernel
theorem d22_89 : own_DK b'22 89 1 90 := by decide +kernel
theorem d22_90 : own_D b'22 90 .ishl 1 91 := by decide +kernel
theorem d22_91 : own_D b'22 91 (.invokestatic 54) 3 94 := by decide +kernel
theorem d22_94 : own_D b'22 94 (.putfield 9) 3 97 := by decide +kernel
theorem d22_97 : own_D b'22 97 .return_ 1 98 := by decide +kernel
theorem pn_22 : plainFor (⟨"java/lang/String", "<init>", "(Ljava/lang/AbstractStringBuilder;Ljava/lang/Void;)V"⟩ : MethodName) = true := plainFor_of_name (by first | (simp [plainName, overriddenIn]; done) | decide +kernel)
theorem rm22_L0 (l : Launch) (Z : State) (a0 : Array Value) (hw : own_hw a0 Z) (a1 : Addr) (a2 : Addr) (v0 : Addr) (k0 : ClassId) (cs0 : Int32) (h0 : Heap) (n0 : Nat) (Z0 : n0 ≤ h0.size) (O0 : Old Z n0 h0) (SC_ : own_SC Z cs0) (E1 : Exa Z h0 a1 "java/lang/String") (FC : F'0 Z h0 a1 v'0) (FV : F'1 Z h0 a1 .null) (EB : Exa Z h0 a2 "java/lang/StringBuilder") (G0 : F'3 Z h0 a2 (.ref v0)) (G1 : F'2 Z h0 a2 v'0) (G2 : F'4 Z h0 a2 v'0) (G3 : F'5 Z h0 a2 v'0) (VV : Arv Z h0 v0 k0 .byte (16 : Int32) [v'0, v'0, v'0, v'0, v'0, v'0, v'0, v'0, v'0, v'0, v'0, v'0, v'0, v'0, v'0, v'0] v'0) (g1 : n0 ≤ a1) (n12 : a1 ≠ a2) (n1v : a1 ≠ v0) :
  own_M l Z [] own_y35 b'22 5 none ⟨3, 1, 0, 49⟩ #[(.ref a1), (.ref a2), .null] h0 (QSVL0 Z a1  h0 n0) := by
 obtain ⟨SCS, hcs⟩ := SC_
 refine own_start (n0 := n0) hw "java/lang/String" (L := #[.val (.ref a1), .val (.ref a2), .val .null, .unset, .unset]) pn_22 (fun {p e s m below meth c s₁} q hx W hml hZ hown hnm hlk hrt X0 e0 N0 => ?_)
 have kp0 := Keep.refl h0 [a1]
 refine own_aln X0 q d22_0 rfl rfl ?_
 refine own_let ?_; intro g1279_
 obtain ⟨T1280, X1280, e1280, st1280⟩ := initO X0 hx hZ hown (W 17 rfl) (W 18 rfl) (W 19 rfl) e0 (g := g1279_) rfl (by rw [hml]; rfl) rfl (q.d d22_1) (by decide) (W := 0) (by show 2 * 0 + _ ≤ _; exact Nat.le_of_eq rfl) (by decide)
 refine own_stp 4 st1280 (own_aln X1280 q d22_4 rfl rfl ?_)
 refine own_cV X1280 q hZ e1280 hown hml (W 139 rfl) (W 140 rfl) (W 142 rfl) (W 141 rfl) (W 71 rfl) (W 143 rfl) rfl EB (rm23 l Z a0 hw a2 v0 h0 n0 Z0 G0) d22_5 [] [] own_pd25 0 (by decide) (fun v1281 T1281 L1281 X1281 hQ1281 => ?_)
 obtain ⟨rfl, N1281q, e1281⟩ := hQ1281
 have N1281 := Fr.app N0 N1281q
 refine own_nv (own_asn X1281 q d22_8 rfl (l' := #[.val (.ref a1), .val (.ref a2), .val .null, .val (.ref v0), .unset]) rfl (own_aln X1281 q d22_9 rfl rfl ?_))
 refine own_let ?_; intro g1283_
 obtain ⟨cq1282, kq1282, q1282a, q1282b, q1282c⟩ := isOf hZ e1281 EB
 obtain ⟨_, _, ⟨T1282, L1282, k1282, n1282⟩, -, X1282, ⟨Lc1282, hQ1282, l1282, y1282, z1282⟩, st1282⟩ := X1281.virtualBack hx (y := own_y15) (z := own_y16) hown (mvT hZ (W 144 rfl)) (mvT hZ (W 145 rfl)) (own_nf (args := #[]) (mvT hZ (W 105 rfl)) rfl) (mvT hZ (W 147 rfl)) (mvT hZ (W 148 rfl)) (by decide) (backOf (W := 0) (rm24 l Z a0 hw a2 (0 : Int32) h0 n0 Z0 EB G2) hZ (W 149 rfl) (W 63 rfl) (by decide) (by decide)) q1282a q1282c (g := g1283_) rfl (by rw [hml]; rfl) (Steps.refl _) (argsL := []) (rest := []) (lenOf own_pd9 rfl) rfl (by show 2 * 0 + _ ≤ _; exact Nat.le_of_eq rfl) (q.d d22_10) (fun _ _ => ⟨rfl, e1281, (by decide : 0 + 0 ≤ _), (by decide : 0 + 0 ≤ _)⟩)
 dsimp only [Pt.U, Pt.locs, Pt.cells, Pt.slots] at X1282 l1282 y1282 z1282 st1282 hQ1282
 rw [l1282, y1282, z1282] at X1282
 clear l1282 y1282 z1282
 obtain ⟨rfl, N1282q, e1282⟩ := hQ1282
 have N1282 := Fr.app N1281 N1282q
 refine own_stp 13 (fun _ k => st1282.trans k) (own_nv (own_is X1282 q d22_13 (l' := #[.val (.ref a1), .val (.ref a2), .val .null, .val (.ref v0), .val v'0]) rfl (own_aln X1282 q d22_15 rfl rfl ?_)))
 refine own_cV X1282 q hZ e1282 hown hml (W 152 rfl) (W 153 rfl) (W 155 rfl) (W 154 rfl) (W 71 rfl) (W 156 rfl) rfl EB (rm26_0 l Z a0 hw a2 cs0 h0 n0 Z0 O0 ⟨SCS, hcs⟩ G1) d22_16 [] [] own_pd18 0 (by decide) (fun v1284 T1284 L1284 X1284 hQ1284 => ?_)
 obtain ⟨rfl, N1284q, e1284⟩ := hQ1284
 have N1284 := Fr.app N1282 N1284q
 refine own_nv (own_zn X1284 q d22_19 (((if0 _ _).trans (feq ((by decide) : ¬ ((1 : Int32) = (0 : Int32)))).1)) (own_aln X1284 q d22_22 rfl rfl (own_k X1284 q d22_23 ?_)))
 refine own_let ?_; intro g1285_
 obtain ⟨T1286, h1286, X1286, e1286, W1286, st1286⟩ := putFN X1284 hx hZ hown (W 27 rfl) Via.refl e1284 FC E1 (Or.inr ⟨(W 23 rfl), rfl, hnm⟩) (W 7 rfl) (ty := .byte) (v' := v'0) (by decide) rfl rfl (g := g1285_) rfl rfl (q.d d22_24)
 have zs1287 := Nat.le_trans Z0 (Keep.of_wr W1286).1
 have kp1287 := kp0.wr W1286 (own_i0)
 have Fw1286 := (FC).same W1286
 have N1286 := Fr.snoc X1286 N1284 g1
 refine own_stp 27 st1286 (own_aln X1286 q d22_27 rfl rfl (own_aln X1286 q d22_28 rfl rfl (own_k X1286 q d22_29 (own_il X1286 q d22_30 rfl ?_))))
 refine own_cSh X1286 q hZ e1286 hown hml (W 157 rfl) (W 158 rfl) (W 159 rfl) (W 160 rfl) (rm27_L0 l Z a0 hw v0 k0  h1286 n0 zs1287 (VV.other W1286 (Ne.symm n1v))) d22_32 [(.ref v0), v'0, v'0] [(.ref a1)] own_pd12 1 (by decide) (fun v1288 T1288 L1288 h1288 e1288' X1288 hQ1288 => ?_)
 obtain ⟨b1288, k1288, rfl, N1288q, E1288, lo1288, V1288⟩ := hQ1288
 have N1288 := Fr.app N1286 N1288q
 have kp1289 := kp1287.ext E1288
 have sz_b1288 : h0.size ≤ b1288 := Nat.le_trans kp1287.1 lo1288
 refine own_nv ?_
 refine own_let ?_; intro g1290_
 obtain ⟨T1291, h1291, X1291, e1291, W1291, st1291⟩ := putF X1288 hx hZ hown (host := "") (Or.inl (W 26 rfl)) Via.refl e1288' ((FV.other W1286 (Or.inr (slot_ne (Or.inr (W 22 rfl)) (Or.inr (W 23 rfl)) (by decide) (t := (.array .byte)) (t' := .byte) (by decide) (by decide)))).ext E1288) ((E1.wr W1286).ext E1288) (Or.inr ⟨(W 22 rfl), rfl, hnm⟩) (W 7 rfl) (ty := (.array .byte)) (by decide) rfl rfl (g := g1290_) rfl rfl (q.d d22_35)
 have kp1292 := kp1289.wr W1291 (own_i0)
 have Fw1291 := (((FV.other W1286 (Or.inr (slot_ne (Or.inr (W 22 rfl)) (Or.inr (W 23 rfl)) (by decide) (t := (.array .byte)) (t' := .byte) (by decide) (by decide)))).ext E1288)).same W1291
 have N1291 := Fr.snoc X1291 N1288 g1
 refine own_stp 38 st1291 (own_gt X1291 q d22_38 ?_)
 refine own_rV X1291 q hrt d22_97 hlk (by decide) ?_
 show QSVL0 Z a1  h0 n0 _ T1291.heap _
 rw [e1291]
 exact ⟨_, _, rfl, N1291, kp1292, sz_b1288, ((Fw1286.ext E1288).other W1291 (Or.inr (slot_ne (Or.inr (W 23 rfl)) (Or.inr (W 22 rfl)) (by decide) (t := .byte) (t' := (.array .byte)) (by decide) (by decide)))), Fw1291, (V1288.other W1291 (Ne.symm (own_ne ((E1.wr W1286)).lt lo1288)))⟩
theorem d21_0 : own_D b'21 0 (.aload_n 0) 1 1 := by decide +kernel
theorem d21_1 : own_D b'21 1 (.aload_n 1) 1 2 := by decide +kernel
theorem d21_2 : own_D b'21 2 .aconst_null 1 3 := by decide +kernel
theorem d21_3 : own_D b'21 3 (.invokespecial 489) 3 6 := by decide +kernel
theorem d21_6 : own_D b'21 6 .return_ 1 7 := by decide +kernel
theorem pn_21 : plainFor (⟨"java/lang/String", "<init>", "(Ljava/lang/StringBuilder;)V"⟩ : MethodName) = true := plainFor_of_name (by first | (simp [plainName, overriddenIn]; done) | decide +kernel)
theorem rm21_L0 (l : Launch) (Z : State) (a0 : Array Value) (hw : own_hw a0 Z) (a1 : Addr) (a2 : Addr) (v0 : Addr) (k0 : ClassId) (cs0 : Int32) (h0 : Heap) (n0 : Nat) (Z0 : n0 ≤ h0.size) (O0 : Old Z n0 h0) (SC_ : own_SC Z cs0) (E1 : Exa Z h0 a1 "java/lang/String") (FC : F'0 Z h0 a1 v'0) (FV : F'1 Z h0 a1 .null) (EB : Exa Z h0 a2 "java/lang/StringBuilder") (G0 : F'3 Z h0 a2 (.ref v0)) (G1 : F'2 Z h0 a2 v'0) (G2 : F'4 Z h0 a2 v'0) (G3 : F'5 Z h0 a2 v'0) (VV : Arv Z h0 v0 k0 .byte (16 : Int32) [v'0, v'0, v'0, v'0, v'0, v'0, v'0, v'0, v'0, v'0, v'0, v'0, v'0, v'0, v'0, v'0] v'0) (g1 : n0 ≤ a1) (n12 : a1 ≠ a2) (n1v : a1 ≠ v0) :
  own_M l Z [] own_y36 b'21 2 none ⟨4, 1, 0, 65⟩ #[(.ref a1), (.ref a2)] h0 (QSVL0 Z a1  h0 n0) := by
 obtain ⟨SCS, hcs⟩ := SC_
 refine own_start (n0 := n0) hw "java/lang/String" (L := #[.val (.ref a1), .val (.ref a2)]) pn_21 (fun {p e s m below meth c s₁} q hx W hml hZ hown hnm hlk hrt X0 e0 N0 => ?_)
 have kp0 := Keep.refl h0 [a1]
 refine own_aln X0 q d21_0 rfl rfl (own_aln X0 q d21_1 rfl rfl (own_nl X0 q d21_2 ?_))
 refine own_cIh (a := a1) X0 q hZ e0 hown hml (W 136 rfl) (W 137 rfl) (W 8 rfl) (W 138 rfl) (rm22_L0 l Z a0 hw a1 a2 v0 k0  cs0 h0 n0 Z0 O0 ⟨SCS, hcs⟩ E1 FC FV EB G0 G1 G2 G3 VV g1 n12 n1v) d21_3 [(.ref a2), .null] [] own_pd26 0 rfl (by decide) (fun v1295 T1295 L1295 h1295 e1295' X1295 hQ1295 => ?_)
 obtain ⟨t1295, k1295, rfl, N1295q, K1295, lo1295, Fc1295, Fv1295, V1295⟩ := hQ1295
 have N1295 := Fr.app N0 N1295q
 have kp1296 := kp0.trans K1295 (allS (own_i0) all0)
 have sz_t1295 : h0.size ≤ t1295 := Nat.le_trans kp0.1 lo1295
 refine own_nn ?_
 refine own_rV X1295 q hrt d21_6 hlk (by decide) ?_
 show QSVL0 Z a1  h0 n0 _ T1295.heap _
 rw [e1295']
 exact ⟨_, _, rfl, N1295, kp1296, sz_t1295, Fc1295, Fv1295, V1295⟩
theorem d20_0 : own_D b'20 0 (.new 18) 3 3 := by decide +kernel
theorem d20_3 : own_D b'20 3 .dup 1 4 := by decide +kernel
theorem d20_4 : own_D b'20 4 (.aload_n 0) 1 5 := by decide +kernel
theorem d20_5 : own_D b'20 5 (.invokespecial 137) 3 8 := by decide +kernel
theorem d20_8 : own_D b'20 8 .areturn 1 9 := by decide +kernel
theorem pn_20 : plainFor (⟨"java/lang/StringBuilder", "toString", "()Ljava/lang/String;"⟩ : MethodName) = true := plainFor_of_name (by first | (simp [plainName, overriddenIn]; done) | decide +kernel)
theorem rm20_L0 (l : Launch) (Z : State) (a0 : Array Value) (hw : own_hw a0 Z) (a1 : Addr) (v0 : Addr) (k0 : ClassId) (cs0 : Int32) (h0 : Heap) (n0 : Nat) (Z0 : n0 ≤ h0.size) (O0 : Old Z n0 h0) (SC_ : own_SC Z cs0) (EB : Exa Z h0 a1 "java/lang/StringBuilder") (G0 : F'3 Z h0 a1 (.ref v0)) (G1 : F'2 Z h0 a1 v'0) (G2 : F'4 Z h0 a1 v'0) (G3 : F'5 Z h0 a1 v'0) (VV : Arv Z h0 v0 k0 .byte (16 : Int32) [v'0, v'0, v'0, v'0, v'0, v'0, v'0, v'0, v'0, v'0, v'0, v'0, v'0, v'0, v'0, v'0] v'0) :
  own_M l Z [] own_y37 b'20 1 (some (.object "java/lang/String")) ⟨5, 2, 4, 79⟩ #[(.ref a1)] h0 (QTSL0 Z  h0 n0) := by
 obtain ⟨SCS, hcs⟩ := SC_
 refine own_start (n0 := n0) hw "java/lang/StringBuilder" (L := #[.val (.ref a1)]) pn_20 (fun {p e s m below meth c s₁} q hx W hml hZ hown hnm hlk hrt X0 e0 N0 => ?_)
 have kp0 := Keep.refl h0 []
 refine own_let ?_; intro g1302_
 obtain ⟨T1303, h1303, X1303, e1303, E1303, A1303, D1303, -, st1303⟩ := newO X0 hx hZ hown (W 132 rfl) (W 7 rfl) (W 8 rfl) e0 (g := g1302_) rfl (q.d d20_0) (by decide) (by decide)
 obtain ⟨b1303, g1303⟩ : ∃ z, z = h0.size := ⟨_, rfl⟩
 rw [← g1303] at A1303 D1303 st1303
 have zs1304 := Nat.le_trans Z0 E1303.1
 have od1304 := O0.ext E1303
 have kp1304 := kp0.ext E1303
 have g_b1303 : n0 ≤ b1303 := Nat.le_trans Z0 (Nat.le_of_eq g1303.symm)
 have sz_b1303 : h0.size ≤ b1303 := Nat.le_trans kp0.1 (Nat.le_of_eq g1303.symm)
 have F1303_value : F'1 Z h1303 b1303 .null := D1303 (Or.inr (W 22 rfl)) (ty := (.array .byte)) (by decide)
 have F1303_coder : F'0 Z h1303 b1303 v'0 := D1303 (Or.inr (W 23 rfl)) (ty := .byte) (by decide)
 refine own_stq 3 [(.ref b1303)] st1303 (own_dp X1303 q d20_3 rfl (own_aln X1303 q d20_4 rfl rfl ?_))
 refine own_cIh (a := b1303) X1303 q hZ e1303 hown hml (W 133 rfl) (W 134 rfl) (W 8 rfl) (W 135 rfl) (rm21_L0 l Z a0 hw b1303 a1 v0 k0  cs0 h1303 n0 zs1304 od1304 ⟨SCS, hcs⟩ A1303 F1303_coder F1303_value (EB.ext E1303) (G0.ext E1303) (G1.ext E1303) (G2.ext E1303) (G3.ext E1303) (VV.ext E1303) g_b1303 (Ne.symm (own_ne (EB).lt (Nat.le_of_eq g1303.symm))) (Ne.symm (own_ne (VV).lt (Nat.le_of_eq g1303.symm)))) d20_5 [(.ref a1)] [(.ref b1303)] own_pd27 1 rfl (by decide) (fun v1305 T1305 L1305 h1305 e1305' X1305 hQ1305 => ?_)
 obtain ⟨t1305, k1305, rfl, N1305q, K1305, lo1305, Fc1305, Fv1305, V1305⟩ := hQ1305
 have N1305 := Fr.app N0 N1305q
 have kp1306 := kp1304.trans K1305 (allS (Or.inr sz_b1303) all0)
 have sz_t1305 : h0.size ≤ t1305 := Nat.le_trans kp1304.1 lo1305
 refine own_nn ?_
 refine own_rA X1305 q hrt d20_8 hlk (by decide) ?_
 show QTSL0 Z  h0 n0 _ T1305.heap _
 rw [e1305']
 exact ⟨_, _, _, rfl, N1305, own_extK kp1306, sz_b1303, sz_t1305, (A1303.keep K1305), Fc1305, Fv1305, V1305⟩
theorem rm22_L1 (l : Launch) (Z : State) (a0 : Array Value) (hw : own_hw a0 Z) (a1 : Addr) (a2 : Addr) (v0 : Addr) (k0 : ClassId) (y0 : Int32) (cs0 : Int32) (h0 : Heap) (n0 : Nat) (Z0 : n0 ≤ h0.size) (O0 : Old Z n0 h0) (SC_ : own_SC Z cs0) (E1 : Exa Z h0 a1 "java/lang/String") (FC : F'0 Z h0 a1 v'0) (FV : F'1 Z h0 a1 .null) (EB : Exa Z h0 a2 "java/lang/StringBuilder") (G0 : F'3 Z h0 a2 (.ref v0)) (G1 : F'2 Z h0 a2 v'0) (G2 : F'4 Z h0 a2 v'1) (G3 : F'5 Z h0 a2 v'0) (VV : Arv Z h0 v0 k0 .byte (16 : Int32) [(.int y0), v'0, v'0, v'0, v'0, v'0, v'0, v'0, v'0, v'0, v'0, v'0, v'0, v'0, v'0, v'0] v'0) (g1 : n0 ≤ a1) (n12 : a1 ≠ a2) (n1v : a1 ≠ v0) :
  own_M l Z [] own_y35 b'22 5 none ⟨3, 1, 1, 49⟩ #[(.ref a1), (.ref a2), .null] h0 (QSVL1 Z a1 y0 h0 n0) := by
 obtain ⟨SCS, hcs⟩ := SC_
 refine own_start (n0 := n0) hw "java/lang/String" (L := #[.val (.ref a1), .val (.ref a2), .val .null, .unset, .unset]) pn_22 (fun {p e s m below meth c s₁} q hx W hml hZ hown hnm hlk hrt X0 e0 N0 => ?_)
 have kp0 := Keep.refl h0 [a1]
 refine own_aln X0 q d22_0 rfl rfl ?_
 refine own_let ?_; intro g1321_
 obtain ⟨T1322, X1322, e1322, st1322⟩ := initO X0 hx hZ hown (W 17 rfl) (W 18 rfl) (W 19 rfl) e0 (g := g1321_) rfl (by rw [hml]; rfl) rfl (q.d d22_1) (by decide) (W := 0) (by show 2 * 0 + _ ≤ _; exact Nat.le_of_eq rfl) (by decide)
 refine own_stp 4 st1322 (own_aln X1322 q d22_4 rfl rfl ?_)
 refine own_cV X1322 q hZ e1322 hown hml (W 139 rfl) (W 140 rfl) (W 142 rfl) (W 141 rfl) (W 71 rfl) (W 143 rfl) rfl EB (rm23 l Z a0 hw a2 v0 h0 n0 Z0 G0) d22_5 [] [] own_pd25 0 (by decide) (fun v1323 T1323 L1323 X1323 hQ1323 => ?_)
 obtain ⟨rfl, N1323q, e1323⟩ := hQ1323
 have N1323 := Fr.app N0 N1323q
 refine own_nv (own_asn X1323 q d22_8 rfl (l' := #[.val (.ref a1), .val (.ref a2), .val .null, .val (.ref v0), .unset]) rfl (own_aln X1323 q d22_9 rfl rfl ?_))
 refine own_let ?_; intro g1325_
 obtain ⟨cq1324, kq1324, q1324a, q1324b, q1324c⟩ := isOf hZ e1323 EB
 obtain ⟨_, _, ⟨T1324, L1324, k1324, n1324⟩, -, X1324, ⟨Lc1324, hQ1324, l1324, y1324, z1324⟩, st1324⟩ := X1323.virtualBack hx (y := own_y15) (z := own_y16) hown (mvT hZ (W 144 rfl)) (mvT hZ (W 145 rfl)) (own_nf (args := #[]) (mvT hZ (W 105 rfl)) rfl) (mvT hZ (W 147 rfl)) (mvT hZ (W 148 rfl)) (by decide) (backOf (W := 0) (rm24 l Z a0 hw a2 (1 : Int32) h0 n0 Z0 EB G2) hZ (W 149 rfl) (W 63 rfl) (by decide) (by decide)) q1324a q1324c (g := g1325_) rfl (by rw [hml]; rfl) (Steps.refl _) (argsL := []) (rest := []) (lenOf own_pd9 rfl) rfl (by show 2 * 0 + _ ≤ _; exact Nat.le_of_eq rfl) (q.d d22_10) (fun _ _ => ⟨rfl, e1323, (by decide : 0 + 0 ≤ _), (by decide : 0 + 0 ≤ _)⟩)
 dsimp only [Pt.U, Pt.locs, Pt.cells, Pt.slots] at X1324 l1324 y1324 z1324 st1324 hQ1324
 rw [l1324, y1324, z1324] at X1324
 clear l1324 y1324 z1324
 obtain ⟨rfl, N1324q, e1324⟩ := hQ1324
 have N1324 := Fr.app N1323 N1324q
 refine own_stp 13 (fun _ k => st1324.trans k) (own_nv (own_is X1324 q d22_13 (l' := #[.val (.ref a1), .val (.ref a2), .val .null, .val (.ref v0), .val v'1]) rfl (own_aln X1324 q d22_15 rfl rfl ?_)))
 refine own_cV X1324 q hZ e1324 hown hml (W 152 rfl) (W 153 rfl) (W 155 rfl) (W 154 rfl) (W 71 rfl) (W 156 rfl) rfl EB (rm26_0 l Z a0 hw a2 cs0 h0 n0 Z0 O0 ⟨SCS, hcs⟩ G1) d22_16 [] [] own_pd18 0 (by decide) (fun v1326 T1326 L1326 X1326 hQ1326 => ?_)
 obtain ⟨rfl, N1326q, e1326⟩ := hQ1326
 have N1326 := Fr.app N1324 N1326q
 refine own_nv (own_zn X1326 q d22_19 (((if0 _ _).trans (feq ((by decide) : ¬ ((1 : Int32) = (0 : Int32)))).1)) (own_aln X1326 q d22_22 rfl rfl (own_k X1326 q d22_23 ?_)))
 refine own_let ?_; intro g1327_
 obtain ⟨T1328, h1328, X1328, e1328, W1328, st1328⟩ := putFN X1326 hx hZ hown (W 27 rfl) Via.refl e1326 FC E1 (Or.inr ⟨(W 23 rfl), rfl, hnm⟩) (W 7 rfl) (ty := .byte) (v' := v'0) (by decide) rfl rfl (g := g1327_) rfl rfl (q.d d22_24)
 have zs1329 := Nat.le_trans Z0 (Keep.of_wr W1328).1
 have kp1329 := kp0.wr W1328 (own_i0)
 have Fw1328 := (FC).same W1328
 have N1328 := Fr.snoc X1328 N1326 g1
 refine own_stp 27 st1328 (own_aln X1328 q d22_27 rfl rfl (own_aln X1328 q d22_28 rfl rfl (own_k X1328 q d22_29 (own_il X1328 q d22_30 rfl ?_))))
 refine own_cSh X1328 q hZ e1328 hown hml (W 157 rfl) (W 158 rfl) (W 159 rfl) (W 160 rfl) (rm27_L1 l Z a0 hw v0 k0 y0 h1328 n0 zs1329 (VV.other W1328 (Ne.symm n1v))) d22_32 [(.ref v0), v'0, v'1] [(.ref a1)] own_pd12 1 (by decide) (fun v1330 T1330 L1330 h1330 e1330' X1330 hQ1330 => ?_)
 obtain ⟨b1330, k1330, rfl, N1330q, E1330, lo1330, V1330⟩ := hQ1330
 have N1330 := Fr.app N1328 N1330q
 have kp1331 := kp1329.ext E1330
 have sz_b1330 : h0.size ≤ b1330 := Nat.le_trans kp1329.1 lo1330
 refine own_nv ?_
 refine own_let ?_; intro g1332_
 obtain ⟨T1333, h1333, X1333, e1333, W1333, st1333⟩ := putF X1330 hx hZ hown (host := "") (Or.inl (W 26 rfl)) Via.refl e1330' ((FV.other W1328 (Or.inr (slot_ne (Or.inr (W 22 rfl)) (Or.inr (W 23 rfl)) (by decide) (t := (.array .byte)) (t' := .byte) (by decide) (by decide)))).ext E1330) ((E1.wr W1328).ext E1330) (Or.inr ⟨(W 22 rfl), rfl, hnm⟩) (W 7 rfl) (ty := (.array .byte)) (by decide) rfl rfl (g := g1332_) rfl rfl (q.d d22_35)
 have kp1334 := kp1331.wr W1333 (own_i0)
 have Fw1333 := (((FV.other W1328 (Or.inr (slot_ne (Or.inr (W 22 rfl)) (Or.inr (W 23 rfl)) (by decide) (t := (.array .byte)) (t' := .byte) (by decide) (by decide)))).ext E1330)).same W1333
 have N1333 := Fr.snoc X1333 N1330 g1
 refine own_stp 38 st1333 (own_gt X1333 q d22_38 ?_)
 refine own_rV X1333 q hrt d22_97 hlk (by decide) ?_
 show QSVL1 Z a1 y0 h0 n0 _ T1333.heap _
 rw [e1333]
 exact ⟨_, _, rfl, N1333, kp1334, sz_b1330, ((Fw1328.ext E1330).other W1333 (Or.inr (slot_ne (Or.inr (W 23 rfl)) (Or.inr (W 22 rfl)) (by decide) (t := .byte) (t' := (.array .byte)) (by decide) (by decide)))), Fw1333, (V1330.other W1333 (Ne.symm (own_ne ((E1.wr W1328)).lt lo1330)))⟩
theorem rm21_L1 (l : Launch) (Z : State) (a0 : Array Value) (hw : own_hw a0 Z) (a1 : Addr) (a2 : Addr) (v0 : Addr) (k0 : ClassId) (y0 : Int32) (cs0 : Int32) (h0 : Heap) (n0 : Nat) (Z0 : n0 ≤ h0.size) (O0 : Old Z n0 h0) (SC_ : own_SC Z cs0) (E1 : Exa Z h0 a1 "java/lang/String") (FC : F'0 Z h0 a1 v'0) (FV : F'1 Z h0 a1 .null) (EB : Exa Z h0 a2 "java/lang/StringBuilder") (G0 : F'3 Z h0 a2 (.ref v0)) (G1 : F'2 Z h0 a2 v'0) (G2 : F'4 Z h0 a2 v'1) (G3 : F'5 Z h0 a2 v'0) (VV : Arv Z h0 v0 k0 .byte (16 : Int32) [(.int y0), v'0, v'0, v'0, v'0, v'0, v'0, v'0, v'0, v'0, v'0, v'0, v'0, v'0, v'0, v'0] v'0) (g1 : n0 ≤ a1) (n12 : a1 ≠ a2) (n1v : a1 ≠ v0) :
  own_M l Z [] own_y36 b'21 2 none ⟨4, 1, 1, 65⟩ #[(.ref a1), (.ref a2)] h0 (QSVL1 Z a1 y0 h0 n0) := by
 obtain ⟨SCS, hcs⟩ := SC_
 refine own_start (n0 := n0) hw "java/lang/String" (L := #[.val (.ref a1), .val (.ref a2)]) pn_21 (fun {p e s m below meth c s₁} q hx W hml hZ hown hnm hlk hrt X0 e0 N0 => ?_)
 have kp0 := Keep.refl h0 [a1]
 refine own_aln X0 q d21_0 rfl rfl (own_aln X0 q d21_1 rfl rfl (own_nl X0 q d21_2 ?_))
 refine own_cIh (a := a1) X0 q hZ e0 hown hml (W 136 rfl) (W 137 rfl) (W 8 rfl) (W 138 rfl) (rm22_L1 l Z a0 hw a1 a2 v0 k0 y0 cs0 h0 n0 Z0 O0 ⟨SCS, hcs⟩ E1 FC FV EB G0 G1 G2 G3 VV g1 n12 n1v) d21_3 [(.ref a2), .null] [] own_pd26 0 rfl (by decide) (fun v1337 T1337 L1337 h1337 e1337' X1337 hQ1337 => ?_)
 obtain ⟨t1337, k1337, rfl, N1337q, K1337, lo1337, Fc1337, Fv1337, V1337⟩ := hQ1337
 have N1337 := Fr.app N0 N1337q
 have kp1338 := kp0.trans K1337 (allS (own_i0) all0)
 have sz_t1337 : h0.size ≤ t1337 := Nat.le_trans kp0.1 lo1337
 refine own_nn ?_
 refine own_rV X1337 q hrt d21_6 hlk (by decide) ?_
 show QSVL1 Z a1 y0 h0 n0 _ T1337.heap _
 rw [e1337']
 exact ⟨_, _, rfl, N1337, kp1338, sz_t1337, Fc1337, Fv1337, V1337⟩
theorem rm20_L1 (l : Launch) (Z : State) (a0 : Array Value) (hw : own_hw a0 Z) (a1 : Addr) (v0 : Addr) (k0 : ClassId) (y0 : Int32) (cs0 : Int32) (h0 : Heap) (n0 : Nat) (Z0 : n0 ≤ h0.size) (O0 : Old Z n0 h0) (SC_ : own_SC Z cs0) (EB : Exa Z h0 a1 "java/lang/StringBuilder") (G0 : F'3 Z h0 a1 (.ref v0)) (G1 : F'2 Z h0 a1 v'0) (G2 : F'4 Z h0 a1 v'1) (G3 : F'5 Z h0 a1 v'0) (VV : Arv Z h0 v0 k0 .byte (16 : Int32) [(.int y0), v'0, v'0, v'0, v'0, v'0, v'0, v'0, v'0, v'0, v'0, v'0, v'0, v'0, v'0, v'0] v'0) :
  own_M l Z [] own_y37 b'20 1 (some (.object "java/lang/String")) ⟨5, 2, 5, 79⟩ #[(.ref a1)] h0 (QTSL1 Z y0 h0 n0) := by
 obtain ⟨SCS, hcs⟩ := SC_
 refine own_start (n0 := n0) hw "java/lang/StringBuilder" (L := #[.val (.ref a1)]) pn_20 (fun {p e s m below meth c s₁} q hx W hml hZ hown hnm hlk hrt X0 e0 N0 => ?_)
 have kp0 := Keep.refl h0 []
 refine own_let ?_; intro g1344_
 obtain ⟨T1345, h1345, X1345, e1345, E1345, A1345, D1345, -, st1345⟩ := newO X0 hx hZ hown (W 132 rfl) (W 7 rfl) (W 8 rfl) e0 (g := g1344_) rfl (q.d d20_0) (by decide) (by decide)
 obtain ⟨b1345, g1345⟩ : ∃ z, z = h0.size := ⟨_, rfl⟩
 rw [← g1345] at A1345 D1345 st1345
 have zs1346 := Nat.le_trans Z0 E1345.1
 have od1346 := O0.ext E1345
 have kp1346 := kp0.ext E1345
 have g_b1345 : n0 ≤ b1345 := Nat.le_trans Z0 (Nat.le_of_eq g1345.symm)
 have sz_b1345 : h0.size ≤ b1345 := Nat.le_trans kp0.1 (Nat.le_of_eq g1345.symm)
 have F1345_value : F'1 Z h1345 b1345 .null := D1345 (Or.inr (W 22 rfl)) (ty := (.array .byte)) (by decide)
 have F1345_coder : F'0 Z h1345 b1345 v'0 := D1345 (Or.inr (W 23 rfl)) (ty := .byte) (by decide)
 refine own_stq 3 [(.ref b1345)] st1345 (own_dp X1345 q d20_3 rfl (own_aln X1345 q d20_4 rfl rfl ?_))
 refine own_cIh (a := b1345) X1345 q hZ e1345 hown hml (W 133 rfl) (W 134 rfl) (W 8 rfl) (W 135 rfl) (rm21_L1 l Z a0 hw b1345 a1 v0 k0 y0 cs0 h1345 n0 zs1346 od1346 ⟨SCS, hcs⟩ A1345 F1345_coder F1345_value (EB.ext E1345) (G0.ext E1345) (G1.ext E1345) (G2.ext E1345) (G3.ext E1345) (VV.ext E1345) g_b1345 (Ne.symm (own_ne (EB).lt (Nat.le_of_eq g1345.symm))) (Ne.symm (own_ne (VV).lt (Nat.le_of_eq g1345.symm)))) d20_5 [(.ref a1)] [(.ref b1345)] own_pd27 1 rfl (by decide) (fun v1347 T1347 L1347 h1347 e1347' X1347 hQ1347 => ?_)
 obtain ⟨t1347, k1347, rfl, N1347q, K1347, lo1347, Fc1347, Fv1347, V1347⟩ := hQ1347
 have N1347 := Fr.app N0 N1347q
 have kp1348 := kp1346.trans K1347 (allS (Or.inr sz_b1345) all0)
 have sz_t1347 : h0.size ≤ t1347 := Nat.le_trans kp1346.1 lo1347
 refine own_nn ?_
 refine own_rA X1347 q hrt d20_8 hlk (by decide) ?_
 show QTSL1 Z y0 h0 n0 _ T1347.heap _
 rw [e1347']
 exact ⟨_, _, _, rfl, N1347, own_extK kp1348, sz_b1345, sz_t1347, (A1345.keep K1347), Fc1347, Fv1347, V1347⟩
theorem rm22_L2 (l : Launch) (Z : State) (a0 : Array Value) (hw : own_hw a0 Z) (a1 : Addr) (a2 : Addr) (v0 : Addr) (k0 : ClassId) (y0 y1 : Int32) (cs0 : Int32) (h0 : Heap) (n0 : Nat) (Z0 : n0 ≤ h0.size) (O0 : Old Z n0 h0) (SC_ : own_SC Z cs0) (E1 : Exa Z h0 a1 "java/lang/String") (FC : F'0 Z h0 a1 v'0) (FV : F'1 Z h0 a1 .null) (EB : Exa Z h0 a2 "java/lang/StringBuilder") (G0 : F'3 Z h0 a2 (.ref v0)) (G1 : F'2 Z h0 a2 v'0) (G2 : F'4 Z h0 a2 v'2) (G3 : F'5 Z h0 a2 v'0) (VV : Arv Z h0 v0 k0 .byte (16 : Int32) [(.int y0), (.int y1), v'0, v'0, v'0, v'0, v'0, v'0, v'0, v'0, v'0, v'0, v'0, v'0, v'0, v'0] v'0) (g1 : n0 ≤ a1) (n12 : a1 ≠ a2) (n1v : a1 ≠ v0) :
  own_M l Z [] own_y35 b'22 5 none ⟨3, 1, 2, 49⟩ #[(.ref a1), (.ref a2), .null] h0 (QSVL2 Z a1 y0 y1 h0 n0) := by
 obtain ⟨SCS, hcs⟩ := SC_
 refine own_start (n0 := n0) hw "java/lang/String" (L := #[.val (.ref a1), .val (.ref a2), .val .null, .unset, .unset]) pn_22 (fun {p e s m below meth c s₁} q hx W hml hZ hown hnm hlk hrt X0 e0 N0 => ?_)
 have kp0 := Keep.refl h0 [a1]
 refine own_aln X0 q d22_0 rfl rfl ?_
 refine own_let ?_; intro g1363_
 obtain ⟨T1364, X1364, e1364, st1364⟩ := initO X0 hx hZ hown (W 17 rfl) (W 18 rfl) (W 19 rfl) e0 (g := g1363_) rfl (by rw [hml]; rfl) rfl (q.d d22_1) (by decide) (W := 0) (by show 2 * 0 + _ ≤ _; exact Nat.le_of_eq rfl) (by decide)
 refine own_stp 4 st1364 (own_aln X1364 q d22_4 rfl rfl ?_)
 refine own_cV X1364 q hZ e1364 hown hml (W 139 rfl) (W 140 rfl) (W 142 rfl) (W 141 rfl) (W 71 rfl) (W 143 rfl) rfl EB (rm23 l Z a0 hw a2 v0 h0 n0 Z0 G0) d22_5 [] [] own_pd25 0 (by decide) (fun v1365 T1365 L1365 X1365 hQ1365 => ?_)
 obtain ⟨rfl, N1365q, e1365⟩ := hQ1365
 have N1365 := Fr.app N0 N1365q
 refine own_nv (own_asn X1365 q d22_8 rfl (l' := #[.val (.ref a1), .val (.ref a2), .val .null, .val (.ref v0), .unset]) rfl (own_aln X1365 q d22_9 rfl rfl ?_))
 refine own_let ?_; intro g1367_
 obtain ⟨cq1366, kq1366, q1366a, q1366b, q1366c⟩ := isOf hZ e1365 EB
 obtain ⟨_, _, ⟨T1366, L1366, k1366, n1366⟩, -, X1366, ⟨Lc1366, hQ1366, l1366, y1366, z1366⟩, st1366⟩ := X1365.virtualBack hx (y := own_y15) (z := own_y16) hown (mvT hZ (W 144 rfl)) (mvT hZ (W 145 rfl)) (own_nf (args := #[]) (mvT hZ (W 105 rfl)) rfl) (mvT hZ (W 147 rfl)) (mvT hZ (W 148 rfl)) (by decide) (backOf (W := 0) (rm24 l Z a0 hw a2 (2 : Int32) h0 n0 Z0 EB G2) hZ (W 149 rfl) (W 63 rfl) (by decide) (by decide)) q1366a q1366c (g := g1367_) rfl (by rw [hml]; rfl) (Steps.refl _) (argsL := []) (rest := []) (lenOf own_pd9 rfl) rfl (by show 2 * 0 + _ ≤ _; exact Nat.le_of_eq rfl) (q.d d22_10) (fun _ _ => ⟨rfl, e1365, (by decide : 0 + 0 ≤ _), (by decide : 0 + 0 ≤ _)⟩)
 dsimp only [Pt.U, Pt.locs, Pt.cells, Pt.slots] at X1366 l1366 y1366 z1366 st1366 hQ1366
 rw [l1366, y1366, z1366] at X1366
 clear l1366 y1366 z1366
 obtain ⟨rfl, N1366q, e1366⟩ := hQ1366
 have N1366 := Fr.app N1365 N1366q
 refine own_stp 13 (fun _ k => st1366.trans k) (own_nv (own_is X1366 q d22_13 (l' := #[.val (.ref a1), .val (.ref a2), .val .null, .val (.ref v0), .val v'2]) rfl (own_aln X1366 q d22_15 rfl rfl ?_)))
 refine own_cV X1366 q hZ e1366 hown hml (W 152 rfl) (W 153 rfl) (W 155 rfl) (W 154 rfl) (W 71 rfl) (W 156 rfl) rfl EB (rm26_0 l Z a0 hw a2 cs0 h0 n0 Z0 O0 ⟨SCS, hcs⟩ G1) d22_16 [] [] own_pd18 0 (by decide) (fun v1368 T1368 L1368 X1368 hQ1368 => ?_)
 obtain ⟨rfl, N1368q, e1368⟩ := hQ1368
 have N1368 := Fr.app N1366 N1368q
 refine own_nv (own_zn X1368 q d22_19 (((if0 _ _).trans (feq ((by decide) : ¬ ((1 : Int32) = (0 : Int32)))).1)) (own_aln X1368 q d22_22 rfl rfl (own_k X1368 q d22_23 ?_)))
 refine own_let ?_; intro g1369_
 obtain ⟨T1370, h1370, X1370, e1370, W1370, st1370⟩ := putFN X1368 hx hZ hown (W 27 rfl) Via.refl e1368 FC E1 (Or.inr ⟨(W 23 rfl), rfl, hnm⟩) (W 7 rfl) (ty := .byte) (v' := v'0) (by decide) rfl rfl (g := g1369_) rfl rfl (q.d d22_24)
 have zs1371 := Nat.le_trans Z0 (Keep.of_wr W1370).1
 have kp1371 := kp0.wr W1370 (own_i0)
 have Fw1370 := (FC).same W1370
 have N1370 := Fr.snoc X1370 N1368 g1
 refine own_stp 27 st1370 (own_aln X1370 q d22_27 rfl rfl (own_aln X1370 q d22_28 rfl rfl (own_k X1370 q d22_29 (own_il X1370 q d22_30 rfl ?_))))
 refine own_cSh X1370 q hZ e1370 hown hml (W 157 rfl) (W 158 rfl) (W 159 rfl) (W 160 rfl) (rm27_L2 l Z a0 hw v0 k0 y0 y1 h1370 n0 zs1371 (VV.other W1370 (Ne.symm n1v))) d22_32 [(.ref v0), v'0, v'2] [(.ref a1)] own_pd12 1 (by decide) (fun v1372 T1372 L1372 h1372 e1372' X1372 hQ1372 => ?_)
 obtain ⟨b1372, k1372, rfl, N1372q, E1372, lo1372, V1372⟩ := hQ1372
 have N1372 := Fr.app N1370 N1372q
 have kp1373 := kp1371.ext E1372
 have sz_b1372 : h0.size ≤ b1372 := Nat.le_trans kp1371.1 lo1372
 refine own_nv ?_
 refine own_let ?_; intro g1374_
 obtain ⟨T1375, h1375, X1375, e1375, W1375, st1375⟩ := putF X1372 hx hZ hown (host := "") (Or.inl (W 26 rfl)) Via.refl e1372' ((FV.other W1370 (Or.inr (slot_ne (Or.inr (W 22 rfl)) (Or.inr (W 23 rfl)) (by decide) (t := (.array .byte)) (t' := .byte) (by decide) (by decide)))).ext E1372) ((E1.wr W1370).ext E1372) (Or.inr ⟨(W 22 rfl), rfl, hnm⟩) (W 7 rfl) (ty := (.array .byte)) (by decide) rfl rfl (g := g1374_) rfl rfl (q.d d22_35)
 have kp1376 := kp1373.wr W1375 (own_i0)
 have Fw1375 := (((FV.other W1370 (Or.inr (slot_ne (Or.inr (W 22 rfl)) (Or.inr (W 23 rfl)) (by decide) (t := (.array .byte)) (t' := .byte) (by decide) (by decide)))).ext E1372)).same W1375
 have N1375 := Fr.snoc X1375 N1372 g1
 refine own_stp 38 st1375 (own_gt X1375 q d22_38 ?_)
 refine own_rV X1375 q hrt d22_97 hlk (by decide) ?_
 show QSVL2 Z a1 y0 y1 h0 n0 _ T1375.heap _
 rw [e1375]
 exact ⟨_, _, rfl, N1375, kp1376, sz_b1372, ((Fw1370.ext E1372).other W1375 (Or.inr (slot_ne (Or.inr (W 23 rfl)) (Or.inr (W 22 rfl)) (by decide) (t := .byte) (t' := (.array .byte)) (by decide) (by decide)))), Fw1375, (V1372.other W1375 (Ne.symm (own_ne ((E1.wr W1370)).lt lo1372)))⟩
theorem rm21_L2 (l : Launch) (Z : State) (a0 : Array Value) (hw : own_hw a0 Z) (a1 : Addr) (a2 : Addr) (v0 : Addr) (k0 : ClassId) (y0 y1 : Int32) (cs0 : Int32) (h0 : Heap) (n0 : Nat) (Z0 : n0 ≤ h0.size) (O0 : Old Z n0 h0) (SC_ : own_SC Z cs0) (E1 : Exa Z h0 a1 "java/lang/String") (FC : F'0 Z h0 a1 v'0) (FV : F'1 Z h0 a1 .null) (EB : Exa Z h0 a2 "java/lang/StringBuilder") (G0 : F'3 Z h0 a2 (.ref v0)) (G1 : F'2 Z h0 a2 v'0) (G2 : F'4 Z h0 a2 v'2) (G3 : F'5 Z h0 a2 v'0) (VV : Arv Z h0 v0 k0 .byte (16 : Int32) [(.int y0), (.int y1), v'0, v'0, v'0, v'0, v'0, v'0, v'0, v'0, v'0, v'0, v'0, v'0, v'0, v'0] v'0) (g1 : n0 ≤ a1) (n12 : a1 ≠ a2) (n1v : a1 ≠ v0) :
  own_M l Z [] own_y36 b'21 2 none ⟨4, 1, 2, 65⟩ #[(.ref a1), (.ref a2)] h0 (QSVL2 Z a1 y0 y1 h0 n0) := by
 obtain ⟨SCS, hcs⟩ := SC_
 refine own_start (n0 := n0) hw "java/lang/String" (L := #[.val (.ref a1), .val (.ref a2)]) pn_21 (fun {p e s m below meth c s₁} q hx W hml hZ hown hnm hlk hrt X0 e0 N0 => ?_)
 have kp0 := Keep.refl h0 [a1]
 refine own_aln X0 q d21_0 rfl rfl (own_aln X0 q d21_1 rfl rfl (own_nl X0 q d21_2 ?_))
 refine own_cIh (a := a1) X0 q hZ e0 hown hml (W 136 rfl) (W 137 rfl) (W 8 rfl) (W 138 rfl) (rm22_L2 l Z a0 hw a1 a2 v0 k0 y0 y1 cs0 h0 n0 Z0 O0 ⟨SCS, hcs⟩ E1 FC FV EB G0 G1 G2 G3 VV g1 n12 n1v) d21_3 [(.ref a2), .null] [] own_pd26 0 rfl (by decide) (fun v1379 T1379 L1379 h1379 e1379' X1379 hQ1379 => ?_)
 obtain ⟨t1379, k1379, rfl, N1379q, K1379, lo1379, Fc1379, Fv1379, V1379⟩ := hQ1379
 have N1379 := Fr.app N0 N1379q
 have kp1380 := kp0.trans K1379 (allS (own_i0) all0)
 have sz_t1379 : h0.size ≤ t1379 := Nat.le_trans kp0.1 lo1379
 refine own_nn ?_
 refine own_rV X1379 q hrt d21_6 hlk (by decide) ?_
 show QSVL2 Z a1 y0 y1 h0 n0 _ T1379.heap _
 rw [e1379']
 exact ⟨_, _, rfl, N1379, kp1380, sz_t1379, Fc1379, Fv1379, V1379⟩
theorem rm20_L2 (l : Launch) (Z : State) (a0 : Array Value) (hw : own_hw a0 Z) (a1 : Addr) (v0 : Addr) (k0 : ClassId) (y0 y1 : Int32) (cs0 : Int32) (h0 : Heap) (n0 : Nat) (Z0 : n0 ≤ h0.size) (O0 : Old Z n0 h0) (SC_ : own_SC Z cs0) (EB : Exa Z h0 a1 "java/lang/StringBuilder") (G0 : F'3 Z h0 a1 (.ref v0)) (G1 : F'2 Z h0 a1 v'0) (G2 : F'4 Z h0 a1 v'2) (G3 : F'5 Z h0 a1 v'0) (VV : Arv Z h0 v0 k0 .byte (16 : Int32) [(.int y0), (.int y1), v'0, v'0, v'0, v'0, v'0, v'0, v'0, v'0, v'0, v'0, v'0, v'0, v'0, v'0] v'0) :
  own_M l Z [] own_y37 b'20 1 (some (.object "java/lang/String")) ⟨5, 2, 6, 79⟩ #[(.ref a1)] h0 (QTSL2 Z y0 y1 h0 n0) := by
 obtain ⟨SCS, hcs⟩ := SC_
 refine own_start (n0 := n0) hw "java/lang/StringBuilder" (L := #[.val (.ref a1)]) pn_20 (fun {p e s m below meth c s₁} q hx W hml hZ hown hnm hlk hrt X0 e0 N0 => ?_)
 have kp0 := Keep.refl h0 []
 refine own_let ?_; intro g1386_
 obtain ⟨T1387, h1387, X1387, e1387, E1387, A1387, D1387, -, st1387⟩ := newO X0 hx hZ hown (W 132 rfl) (W 7 rfl) (W 8 rfl) e0 (g := g1386_) rfl (q.d d20_0) (by decide) (by decide)
 obtain ⟨b1387, g1387⟩ : ∃ z, z = h0.size := ⟨_, rfl⟩
 rw [← g1387] at A1387 D1387 st1387
 have zs1388 := Nat.le_trans Z0 E1387.1
 have od1388 := O0.ext E1387
 have kp1388 := kp0.ext E1387
 have g_b1387 : n0 ≤ b1387 := Nat.le_trans Z0 (Nat.le_of_eq g1387.symm)
 have sz_b1387 : h0.size ≤ b1387 := Nat.le_trans kp0.1 (Nat.le_of_eq g1387.symm)
 have F1387_value : F'1 Z h1387 b1387 .null := D1387 (Or.inr (W 22 rfl)) (ty := (.array .byte)) (by decide)
 have F1387_coder : F'0 Z h1387 b1387 v'0 := D1387 (Or.inr (W 23 rfl)) (ty := .byte) (by decide)
 refine own_stq 3 [(.ref b1387)] st1387 (own_dp X1387 q d20_3 rfl (own_aln X1387 q d20_4 rfl rfl ?_))
 refine own_cIh (a := b1387) X1387 q hZ e1387 hown hml (W 133 rfl) (W 134 rfl) (W 8 rfl) (W 135 rfl) (rm21_L2 l Z a0 hw b1387 a1 v0 k0 y0 y1 cs0 h1387 n0 zs1388 od1388 ⟨SCS, hcs⟩ A1387 F1387_coder F1387_value (EB.ext E1387) (G0.ext E1387) (G1.ext E1387) (G2.ext E1387) (G3.ext E1387) (VV.ext E1387) g_b1387 (Ne.symm (own_ne (EB).lt (Nat.le_of_eq g1387.symm))) (Ne.symm (own_ne (VV).lt (Nat.le_of_eq g1387.symm)))) d20_5 [(.ref a1)] [(.ref b1387)] own_pd27 1 rfl (by decide) (fun v1389 T1389 L1389 h1389 e1389' X1389 hQ1389 => ?_)
 obtain ⟨t1389, k1389, rfl, N1389q, K1389, lo1389, Fc1389, Fv1389, V1389⟩ := hQ1389
 have N1389 := Fr.app N0 N1389q
 have kp1390 := kp1388.trans K1389 (allS (Or.inr sz_b1387) all0)
 have sz_t1389 : h0.size ≤ t1389 := Nat.le_trans kp1388.1 lo1389
 refine own_nn ?_
 refine own_rA X1389 q hrt d20_8 hlk (by decide) ?_
 show QTSL2 Z y0 y1 h0 n0 _ T1389.heap _
 rw [e1389']
 exact ⟨_, _, _, rfl, N1389, own_extK kp1390, sz_b1387, sz_t1389, (A1387.keep K1389), Fc1389, Fv1389, V1389⟩
theorem rm22_L3 (l : Launch) (Z : State) (a0 : Array Value) (hw : own_hw a0 Z) (a1 : Addr) (a2 : Addr) (v0 : Addr) (k0 : ClassId) (y0 y1 y2 : Int32) (cs0 : Int32) (h0 : Heap) (n0 : Nat) (Z0 : n0 ≤ h0.size) (O0 : Old Z n0 h0) (SC_ : own_SC Z cs0) (E1 : Exa Z h0 a1 "java/lang/String") (FC : F'0 Z h0 a1 v'0) (FV : F'1 Z h0 a1 .null) (EB : Exa Z h0 a2 "java/lang/StringBuilder") (G0 : F'3 Z h0 a2 (.ref v0)) (G1 : F'2 Z h0 a2 v'0) (G2 : F'4 Z h0 a2 v'3) (G3 : F'5 Z h0 a2 v'0) (VV : Arv Z h0 v0 k0 .byte (16 : Int32) [(.int y0), (.int y1), (.int y2), v'0, v'0, v'0, v'0, v'0, v'0, v'0, v'0, v'0, v'0, v'0, v'0, v'0] v'0) (g1 : n0 ≤ a1) (n12 : a1 ≠ a2) (n1v : a1 ≠ v0) :
  own_M l Z [] own_y35 b'22 5 none ⟨3, 1, 3, 49⟩ #[(.ref a1), (.ref a2), .null] h0 (QSVL3 Z a1 y0 y1 y2 h0 n0) := by
 obtain ⟨SCS, hcs⟩ := SC_
 refine own_start (n0 := n0) hw "java/lang/String" (L := #[.val (.ref a1), .val (.ref a2), .val .null, .unset, .unset]) pn_22 (fun {p e s m below meth c s₁} q hx W hml hZ hown hnm hlk hrt X0 e0 N0 => ?_)
 have kp0 := Keep.refl h0 [a1]
 refine own_aln X0 q d22_0 rfl rfl ?_
 refine own_let ?_; intro g1405_
 obtain ⟨T1406, X1406, e1406, st1406⟩ := initO X0 hx hZ hown (W 17 rfl) (W 18 rfl) (W 19 rfl) e0 (g := g1405_) rfl (by rw [hml]; rfl) rfl (q.d d22_1) (by decide) (W := 0) (by show 2 * 0 + _ ≤ _; exact Nat.le_of_eq rfl) (by decide)
 refine own_stp 4 st1406 (own_aln X1406 q d22_4 rfl rfl ?_)
 refine own_cV X1406 q hZ e1406 hown hml (W 139 rfl) (W 140 rfl) (W 142 rfl) (W 141 rfl) (W 71 rfl) (W 143 rfl) rfl EB (rm23 l Z a0 hw a2 v0 h0 n0 Z0 G0) d22_5 [] [] own_pd25 0 (by decide) (fun v1407 T1407 L1407 X1407 hQ1407 => ?_)
 obtain ⟨rfl, N1407q, e1407⟩ := hQ1407
 have N1407 := Fr.app N0 N1407q
 refine own_nv (own_asn X1407 q d22_8 rfl (l' := #[.val (.ref a1), .val (.ref a2), .val .null, .val (.ref v0), .unset]) rfl (own_aln X1407 q d22_9 rfl rfl ?_))
 refine own_let ?_; intro g1409_
 obtain ⟨cq1408, kq1408, q1408a, q1408b, q1408c⟩ := isOf hZ e1407 EB
 obtain ⟨_, _, ⟨T1408, L1408, k1408, n1408⟩, -, X1408, ⟨Lc1408, hQ1408, l1408, y1408, z1408⟩, st1408⟩ := X1407.virtualBack hx (y := own_y15) (z := own_y16) hown (mvT hZ (W 144 rfl)) (mvT hZ (W 145 rfl)) (own_nf (args := #[]) (mvT hZ (W 105 rfl)) rfl) (mvT hZ (W 147 rfl)) (mvT hZ (W 148 rfl)) (by decide) (backOf (W := 0) (rm24 l Z a0 hw a2 (3 : Int32) h0 n0 Z0 EB G2) hZ (W 149 rfl) (W 63 rfl) (by decide) (by decide)) q1408a q1408c (g := g1409_) rfl (by rw [hml]; rfl) (Steps.refl _) (argsL := []) (rest := []) (lenOf own_pd9 rfl) rfl (by show 2 * 0 + _ ≤ _; exact Nat.le_of_eq rfl) (q.d d22_10) (fun _ _ => ⟨rfl, e1407, (by decide : 0 + 0 ≤ _), (by decide : 0 + 0 ≤ _)⟩)
 dsimp only [Pt.U, Pt.locs, Pt.cells, Pt.slots] at X1408 l1408 y1408 z1408 st1408 hQ1408
 rw [l1408, y1408, z1408] at X1408
 clear l1408 y1408 z1408
 obtain ⟨rfl, N1408q, e1408⟩ := hQ1408
 have N1408 := Fr.app N1407 N1408q
 refine own_stp 13 (fun _ k => st1408.trans k) (own_nv (own_is X1408 q d22_13 (l' := #[.val (.ref a1), .val (.ref a2), .val .null, .val (.ref v0), .val v'3]) rfl (own_aln X1408 q d22_15 rfl rfl ?_)))
 refine own_cV X1408 q hZ e1408 hown hml (W 152 rfl) (W 153 rfl) (W 155 rfl) (W 154 rfl) (W 71 rfl) (W 156 rfl) rfl EB (rm26_0 l Z a0 hw a2 cs0 h0 n0 Z0 O0 ⟨SCS, hcs⟩ G1) d22_16 [] [] own_pd18 0 (by decide) (fun v1410 T1410 L1410 X1410 hQ1410 => ?_)
 obtain ⟨rfl, N1410q, e1410⟩ := hQ1410
 have N1410 := Fr.app N1408 N1410q
 refine own_nv (own_zn X1410 q d22_19 (((if0 _ _).trans (feq ((by decide) : ¬ ((1 : Int32) = (0 : Int32)))).1)) (own_aln X1410 q d22_22 rfl rfl (own_k X1410 q d22_23 ?_)))
 refine own_let ?_; intro g1411_
 obtain ⟨T1412, h1412, X1412, e1412, W1412, st1412⟩ := putFN X1410 hx hZ hown (W 27 rfl) Via.refl e1410 FC E1 (Or.inr ⟨(W 23 rfl), rfl, hnm⟩) (W 7 rfl) (ty := .byte) (v' := v'0) (by decide) rfl rfl (g := g1411_) rfl rfl (q.d d22_24)
 have zs1413 := Nat.le_trans Z0 (Keep.of_wr W1412).1
 have kp1413 := kp0.wr W1412 (own_i0)
 have Fw1412 := (FC).same W1412
 have N1412 := Fr.snoc X1412 N1410 g1
 refine own_stp 27 st1412 (own_aln X1412 q d22_27 rfl rfl (own_aln X1412 q d22_28 rfl rfl (own_k X1412 q d22_29 (own_il X1412 q d22_30 rfl ?_))))
 refine own_cSh X1412 q hZ e1412 hown hml (W 157 rfl) (W 158 rfl) (W 159 rfl) (W 160 rfl) (rm27_L3 l Z a0 hw v0 k0 y0 y1 y2 h1412 n0 zs1413 (VV.other W1412 (Ne.symm n1v))) d22_32 [(.ref v0), v'0, v'3] [(.ref a1)] own_pd12 1 (by decide) (fun v1414 T1414 L1414 h1414 e1414' X1414 hQ1414 => ?_)
 obtain ⟨b1414, k1414, rfl, N1414q, E1414, lo1414, V1414⟩ := hQ1414
 have N1414 := Fr.app N1412 N1414q
 have kp1415 := kp1413.ext E1414
 have sz_b1414 : h0.size ≤ b1414 := Nat.le_trans kp1413.1 lo1414
 refine own_nv ?_
 refine own_let ?_; intro g1416_
 obtain ⟨T1417, h1417, X1417, e1417, W1417, st1417⟩ := putF X1414 hx hZ hown (host := "") (Or.inl (W 26 rfl)) Via.refl e1414' ((FV.other W1412 (Or.inr (slot_ne (Or.inr (W 22 rfl)) (Or.inr (W 23 rfl)) (by decide) (t := (.array .byte)) (t' := .byte) (by decide) (by decide)))).ext E1414) ((E1.wr W1412).ext E1414) (Or.inr ⟨(W 22 rfl), rfl, hnm⟩) (W 7 rfl) (ty := (.array .byte)) (by decide) rfl rfl (g := g1416_) rfl rfl (q.d d22_35)
 have kp1418 := kp1415.wr W1417 (own_i0)
 have Fw1417 := (((FV.other W1412 (Or.inr (slot_ne (Or.inr (W 22 rfl)) (Or.inr (W 23 rfl)) (by decide) (t := (.array .byte)) (t' := .byte) (by decide) (by decide)))).ext E1414)).same W1417
 have N1417 := Fr.snoc X1417 N1414 g1
 refine own_stp 38 st1417 (own_gt X1417 q d22_38 ?_)
 refine own_rV X1417 q hrt d22_97 hlk (by decide) ?_
 show QSVL3 Z a1 y0 y1 y2 h0 n0 _ T1417.heap _
 rw [e1417]
 exact ⟨_, _, rfl, N1417, kp1418, sz_b1414, ((Fw1412.ext E1414).other W1417 (Or.inr (slot_ne (Or.inr (W 23 rfl)) (Or.inr (W 22 rfl)) (by decide) (t := .byte) (t' := (.array .byte)) (by decide) (by decide)))), Fw1417, (V1414.other W1417 (Ne.symm (own_ne ((E1.wr W1412)).lt lo1414)))⟩
theorem rm21_L3 (l : Launch) (Z : State) (a0 : Array Value) (hw : own_hw a0 Z) (a1 : Addr) (a2 : Addr) (v0 : Addr) (k0 : ClassId) (y0 y1 y2 : Int32) (cs0 : Int32) (h0 : Heap) (n0 : Nat) (Z0 : n0 ≤ h0.size) (O0 : Old Z n0 h0) (SC_ : own_SC Z cs0) (E1 : Exa Z h0 a1 "java/lang/String") (FC : F'0 Z h0 a1 v'0) (FV : F'1 Z h0 a1 .null) (EB : Exa Z h0 a2 "java/lang/StringBuilder") (G0 : F'3 Z h0 a2 (.ref v0)) (G1 : F'2 Z h0 a2 v'0) (G2 : F'4 Z h0 a2 v'3) (G3 : F'5 Z h0 a2 v'0) (VV : Arv Z h0 v0 k0 .byte (16 : Int32) [(.int y0), (.int y1), (.int y2), v'0, v'0, v'0, v'0, v'0, v'0, v'0, v'0, v'0, v'0, v'0, v'0, v'0] v'0) (g1 : n0 ≤ a1) (n12 : a1 ≠ a2) (n1v : a1 ≠ v0) :
  own_M l Z [] own_y36 b'21 2 none ⟨4, 1, 3, 65⟩ #[(.ref a1), (.ref a2)] h0 (QSVL3 Z a1 y0 y1 y2 h0 n0) := by
 obtain ⟨SCS, hcs⟩ := SC_
 refine own_start (n0 := n0) hw "java/lang/String" (L := #[.val (.ref a1), .val (.ref a2)]) pn_21 (fun {p e s m below meth c s₁} q hx W hml hZ hown hnm hlk hrt X0 e0 N0 => ?_)
 have kp0 := Keep.refl h0 [a1]
 refine own_aln X0 q d21_0 rfl rfl (own_aln X0 q d21_1 rfl rfl (own_nl X0 q d21_2 ?_))
 refine own_cIh (a := a1) X0 q hZ e0 hown hml (W 136 rfl) (W 137 rfl) (W 8 rfl) (W 138 rfl) (rm22_L3 l Z a0 hw a1 a2 v0 k0 y0 y1 y2 cs0 h0 n0 Z0 O0 ⟨SCS, hcs⟩ E1 FC FV EB G0 G1 G2 G3 VV g1 n12 n1v) d21_3 [(.ref a2), .null] [] own_pd26 0 rfl (by decide) (fun v1421 T1421 L1421 h1421 e1421' X1421 hQ1421 => ?_)
 obtain ⟨t1421, k1421, rfl, N1421q, K1421, lo1421, Fc1421, Fv1421, V1421⟩ := hQ1421
 have N1421 := Fr.app N0 N1421q
 have kp1422 := kp0.trans K1421 (allS (own_i0) all0)
 have sz_t1421 : h0.size ≤ t1421 := Nat.le_trans kp0.1 lo1421
 refine own_nn ?_
 refine own_rV X1421 q hrt d21_6 hlk (by decide) ?_
 show QSVL3 Z a1 y0 y1 y2 h0 n0 _ T1421.heap _
 rw [e1421']
 exact ⟨_, _, rfl, N1421, kp1422, sz_t1421, Fc1421, Fv1421, V1421⟩
theorem rm20_L3 (l : Launch) (Z : State) (a0 : Array Value) (hw : own_hw a0 Z) (a1 : Addr) (v0 : Addr) (k0 : ClassId) (y0 y1 y2 : Int32) (cs0 : Int32) (h0 : Heap) (n0 : Nat) (Z0 : n0 ≤ h0.size) (O0 : Old Z n0 h0) (SC_ : own_SC Z cs0) (EB : Exa Z h0 a1 "java/lang/StringBuilder") (G0 : F'3 Z h0 a1 (.ref v0)) (G1 : F'2 Z h0 a1 v'0) (G2 : F'4 Z h0 a1 v'3) (G3 : F'5 Z h0 a1 v'0) (VV : Arv Z h0 v0 k0 .byte (16 : Int32) [(.int y0), (.int y1), (.int y2), v'0, v'0, v'0, v'0, v'0, v'0, v'0, v'0, v'0, v'0, v'0, v'0, v'0] v'0) :
  own_M l Z [] own_y37 b'20 1 (some (.object "java/lang/String")) ⟨5, 2, 7, 79⟩ #[(.ref a1)] h0 (QTSL3 Z y0 y1 y2 h0 n0) := by
 obtain ⟨SCS, hcs⟩ := SC_
 refine own_start (n0 := n0) hw "java/lang/StringBuilder" (L := #[.val (.ref a1)]) pn_20 (fun {p e s m below meth c s₁} q hx W hml hZ hown hnm hlk hrt X0 e0 N0 => ?_)
 have kp0 := Keep.refl h0 []
 refine own_let ?_; intro g1428_
 obtain ⟨T1429, h1429, X1429, e1429, E1429, A1429, D1429, -, st1429⟩ := newO X0 hx hZ hown (W 132 rfl) (W 7 rfl) (W 8 rfl) e0 (g := g1428_) rfl (q.d d20_0) (by decide) (by decide)
 obtain ⟨b1429, g1429⟩ : ∃ z, z = h0.size := ⟨_, rfl⟩
 rw [← g1429] at A1429 D1429 st1429
 have zs1430 := Nat.le_trans Z0 E1429.1
 have od1430 := O0.ext E1429
 have kp1430 := kp0.ext E1429
 have g_b1429 : n0 ≤ b1429 := Nat.le_trans Z0 (Nat.le_of_eq g1429.symm)
 have sz_b1429 : h0.size ≤ b1429 := Nat.le_trans kp0.1 (Nat.le_of_eq g1429.symm)
 have F1429_value : F'1 Z h1429 b1429 .null := D1429 (Or.inr (W 22 rfl)) (ty := (.array .byte)) (by decide)
 have F1429_coder : F'0 Z h1429 b1429 v'0 := D1429 (Or.inr (W 23 rfl)) (ty := .byte) (by decide)
 refine own_stq 3 [(.ref b1429)] st1429 (own_dp X1429 q d20_3 rfl (own_aln X1429 q d20_4 rfl rfl ?_))
 refine own_cIh (a := b1429) X1429 q hZ e1429 hown hml (W 133 rfl) (W 134 rfl) (W 8 rfl) (W 135 rfl) (rm21_L3 l Z a0 hw b1429 a1 v0 k0 y0 y1 y2 cs0 h1429 n0 zs1430 od1430 ⟨SCS, hcs⟩ A1429 F1429_coder F1429_value (EB.ext E1429) (G0.ext E1429) (G1.ext E1429) (G2.ext E1429) (G3.ext E1429) (VV.ext E1429) g_b1429 (Ne.symm (own_ne (EB).lt (Nat.le_of_eq g1429.symm))) (Ne.symm (own_ne (VV).lt (Nat.le_of_eq g1429.symm)))) d20_5 [(.ref a1)] [(.ref b1429)] own_pd27 1 rfl (by decide) (fun v1431 T1431 L1431 h1431 e1431' X1431 hQ1431 => ?_)
 obtain ⟨t1431, k1431, rfl, N1431q, K1431, lo1431, Fc1431, Fv1431, V1431⟩ := hQ1431
 have N1431 := Fr.app N0 N1431q
 have kp1432 := kp1430.trans K1431 (allS (Or.inr sz_b1429) all0)
 have sz_t1431 : h0.size ≤ t1431 := Nat.le_trans kp1430.1 lo1431
 refine own_nn ?_
 refine own_rA X1431 q hrt d20_8 hlk (by decide) ?_
 show QTSL3 Z y0 y1 y2 h0 n0 _ T1431.heap _
 rw [e1431']
 exact ⟨_, _, _, rfl, N1431, own_extK kp1432, sz_b1429, sz_t1431, (A1429.keep K1431), Fc1431, Fv1431, V1431⟩
theorem rm22_L4 (l : Launch) (Z : State) (a0 : Array Value) (hw : own_hw a0 Z) (a1 : Addr) (a2 : Addr) (v0 : Addr) (k0 : ClassId) (y0 y1 y2 y3 : Int32) (cs0 : Int32) (h0 : Heap) (n0 : Nat) (Z0 : n0 ≤ h0.size) (O0 : Old Z n0 h0) (SC_ : own_SC Z cs0) (E1 : Exa Z h0 a1 "java/lang/String") (FC : F'0 Z h0 a1 v'0) (FV : F'1 Z h0 a1 .null) (EB : Exa Z h0 a2 "java/lang/StringBuilder") (G0 : F'3 Z h0 a2 (.ref v0)) (G1 : F'2 Z h0 a2 v'0) (G2 : F'4 Z h0 a2 v'4) (G3 : F'5 Z h0 a2 v'0) (VV : Arv Z h0 v0 k0 .byte (16 : Int32) [(.int y0), (.int y1), (.int y2), (.int y3), v'0, v'0, v'0, v'0, v'0, v'0, v'0, v'0, v'0, v'0, v'0, v'0] v'0) (g1 : n0 ≤ a1) (n12 : a1 ≠ a2) (n1v : a1 ≠ v0) :
  own_M l Z [] own_y35 b'22 5 none ⟨3, 1, 4, 49⟩ #[(.ref a1), (.ref a2), .null] h0 (QSVL4 Z a1 y0 y1 y2 y3 h0 n0) := by
 obtain ⟨SCS, hcs⟩ := SC_
 refine own_start (n0 := n0) hw "java/lang/String" (L := #[.val (.ref a1), .val (.ref a2), .val .null, .unset, .unset]) pn_22 (fun {p e s m below meth c s₁} q hx W hml hZ hown hnm hlk hrt X0 e0 N0 => ?_)
 have kp0 := Keep.refl h0 [a1]
 refine own_aln X0 q d22_0 rfl rfl ?_
 refine own_let ?_; intro g1447_
 obtain ⟨T1448, X1448, e1448, st1448⟩ := initO X0 hx hZ hown (W 17 rfl) (W 18 rfl) (W 19 rfl) e0 (g := g1447_) rfl (by rw [hml]; rfl) rfl (q.d d22_1) (by decide) (W := 0) (by show 2 * 0 + _ ≤ _; exact Nat.le_of_eq rfl) (by decide)
 refine own_stp 4 st1448 (own_aln X1448 q d22_4 rfl rfl ?_)
 refine own_cV X1448 q hZ e1448 hown hml (W 139 rfl) (W 140 rfl) (W 142 rfl) (W 141 rfl) (W 71 rfl) (W 143 rfl) rfl EB (rm23 l Z a0 hw a2 v0 h0 n0 Z0 G0) d22_5 [] [] own_pd25 0 (by decide) (fun v1449 T1449 L1449 X1449 hQ1449 => ?_)
 obtain ⟨rfl, N1449q, e1449⟩ := hQ1449
 have N1449 := Fr.app N0 N1449q
 refine own_nv (own_asn X1449 q d22_8 rfl (l' := #[.val (.ref a1), .val (.ref a2), .val .null, .val (.ref v0), .unset]) rfl (own_aln X1449 q d22_9 rfl rfl ?_))
 refine own_let ?_; intro g1451_
 obtain ⟨cq1450, kq1450, q1450a, q1450b, q1450c⟩ := isOf hZ e1449 EB
 obtain ⟨_, _, ⟨T1450, L1450, k1450, n1450⟩, -, X1450, ⟨Lc1450, hQ1450, l1450, y1450, z1450⟩, st1450⟩ := X1449.virtualBack hx (y := own_y15) (z := own_y16) hown (mvT hZ (W 144 rfl)) (mvT hZ (W 145 rfl)) (own_nf (args := #[]) (mvT hZ (W 105 rfl)) rfl) (mvT hZ (W 147 rfl)) (mvT hZ (W 148 rfl)) (by decide) (backOf (W := 0) (rm24 l Z a0 hw a2 (4 : Int32) h0 n0 Z0 EB G2) hZ (W 149 rfl) (W 63 rfl) (by decide) (by decide)) q1450a q1450c (g := g1451_) rfl (by rw [hml]; rfl) (Steps.refl _) (argsL := []) (rest := []) (lenOf own_pd9 rfl) rfl (by show 2 * 0 + _ ≤ _; exact Nat.le_of_eq rfl) (q.d d22_10) (fun _ _ => ⟨rfl, e1449, (by decide : 0 + 0 ≤ _), (by decide : 0 + 0 ≤ _)⟩)
 dsimp only [Pt.U, Pt.locs, Pt.cells, Pt.slots] at X1450 l1450 y1450 z1450 st1450 hQ1450
 rw [l1450, y1450, z1450] at X1450
 clear l1450 y1450 z1450
 obtain ⟨rfl, N1450q, e1450⟩ := hQ1450
 have N1450 := Fr.app N1449 N1450q
 refine own_stp 13 (fun _ k => st1450.trans k) (own_nv (own_is X1450 q d22_13 (l' := #[.val (.ref a1), .val (.ref a2), .val .null, .val (.ref v0), .val v'4]) rfl (own_aln X1450 q d22_15 rfl rfl ?_)))
 refine own_cV X1450 q hZ e1450 hown hml (W 152 rfl) (W 153 rfl) (W 155 rfl) (W 154 rfl) (W 71 rfl) (W 156 rfl) rfl EB (rm26_0 l Z a0 hw a2 cs0 h0 n0 Z0 O0 ⟨SCS, hcs⟩ G1) d22_16 [] [] own_pd18 0 (by decide) (fun v1452 T1452 L1452 X1452 hQ1452 => ?_)
 obtain ⟨rfl, N1452q, e1452⟩ := hQ1452
 have N1452 := Fr.app N1450 N1452q
 refine own_nv (own_zn X1452 q d22_19 (((if0 _ _).trans (feq ((by decide) : ¬ ((1 : Int32) = (0 : Int32)))).1)) (own_aln X1452 q d22_22 rfl rfl (own_k X1452 q d22_23 ?_)))
 refine own_let ?_; intro g1453_
 obtain ⟨T1454, h1454, X1454, e1454, W1454, st1454⟩ := putFN X1452 hx hZ hown (W 27 rfl) Via.refl e1452 FC E1 (Or.inr ⟨(W 23 rfl), rfl, hnm⟩) (W 7 rfl) (ty := .byte) (v' := v'0) (by decide) rfl rfl (g := g1453_) rfl rfl (q.d d22_24)
 have zs1455 := Nat.le_trans Z0 (Keep.of_wr W1454).1
 have kp1455 := kp0.wr W1454 (own_i0)
 have Fw1454 := (FC).same W1454
 have N1454 := Fr.snoc X1454 N1452 g1
 refine own_stp 27 st1454 (own_aln X1454 q d22_27 rfl rfl (own_aln X1454 q d22_28 rfl rfl (own_k X1454 q d22_29 (own_il X1454 q d22_30 rfl ?_))))
 refine own_cSh X1454 q hZ e1454 hown hml (W 157 rfl) (W 158 rfl) (W 159 rfl) (W 160 rfl) (rm27_L4 l Z a0 hw v0 k0 y0 y1 y2 y3 h1454 n0 zs1455 (VV.other W1454 (Ne.symm n1v))) d22_32 [(.ref v0), v'0, v'4] [(.ref a1)] own_pd12 1 (by decide) (fun v1456 T1456 L1456 h1456 e1456' X1456 hQ1456 => ?_)
 obtain ⟨b1456, k1456, rfl, N1456q, E1456, lo1456, V1456⟩ := hQ1456
 have N1456 := Fr.app N1454 N1456q
 have kp1457 := kp1455.ext E1456
 have sz_b1456 : h0.size ≤ b1456 := Nat.le_trans kp1455.1 lo1456
 refine own_nv ?_
 refine own_let ?_; intro g1458_
 obtain ⟨T1459, h1459, X1459, e1459, W1459, st1459⟩ := putF X1456 hx hZ hown (host := "") (Or.inl (W 26 rfl)) Via.refl e1456' ((FV.other W1454 (Or.inr (slot_ne (Or.inr (W 22 rfl)) (Or.inr (W 23 rfl)) (by decide) (t := (.array .byte)) (t' := .byte) (by decide) (by decide)))).ext E1456) ((E1.wr W1454).ext E1456) (Or.inr ⟨(W 22 rfl), rfl, hnm⟩) (W 7 rfl) (ty := (.array .byte)) (by decide) rfl rfl (g := g1458_) rfl rfl (q.d d22_35)
 have kp1460 := kp1457.wr W1459 (own_i0)
 have Fw1459 := (((FV.other W1454 (Or.inr (slot_ne (Or.inr (W 22 rfl)) (Or.inr (W 23 rfl)) (by decide) (t := (.array .byte)) (t' := .byte) (by decide) (by decide)))).ext E1456)).same W1459
 have N1459 := Fr.snoc X1459 N1456 g1
 refine own_stp 38 st1459 (own_gt X1459 q d22_38 ?_)
 refine own_rV X1459 q hrt d22_97 hlk (by decide) ?_
 show QSVL4 Z a1 y0 y1 y2 y3 h0 n0 _ T1459.heap _
 rw [e1459]
 exact ⟨_, _, rfl, N1459, kp1460, sz_b1456, ((Fw1454.ext E1456).other W1459 (Or.inr (slot_ne (Or.inr (W 23 rfl)) (Or.inr (W 22 rfl)) (by decide) (t := .byte) (t' := (.array .byte)) (by decide) (by decide)))), Fw1459, (V1456.other W1459 (Ne.symm (own_ne ((E1.wr W1454)).lt lo1456)))⟩
theorem rm21_L4 (l : Launch) (Z : State) (a0 : Array Value) (hw : own_hw a0 Z) (a1 : Addr) (a2 : Addr) (v0 : Addr) (k0 : ClassId) (y0 y1 y2 y3 : Int32) (cs0 : Int32) (h0 : Heap) (n0 : Nat) (Z0 : n0 ≤ h0.size) (O0 : Old Z n0 h0) (SC_ : own_SC Z cs0) (E1 : Exa Z h0 a1 "java/lang/String") (FC : F'0 Z h0 a1 v'0) (FV : F'1 Z h0 a1 .null) (EB : Exa Z h0 a2 "java/lang/StringBuilder") (G0 : F'3 Z h0 a2 (.ref v0)) (G1 : F'2 Z h0 a2 v'0) (G2 : F'4 Z h0 a2 v'4) (G3 : F'5 Z h0 a2 v'0) (VV : Arv Z h0 v0 k0 .byte (16 : Int32) [(.int y0), (.int y1), (.int y2), (.int y3), v'0, v'0, v'0, v'0, v'0, v'0, v'0, v'0, v'0, v'0, v'0, v'0] v'0) (g1 : n0 ≤ a1) (n12 : a1 ≠ a2) (n1v : a1 ≠ v0) :
  own_M l Z [] own_y36 b'21 2 none ⟨4, 1, 4, 65⟩ #[(.ref a1), (.ref a2)] h0 (QSVL4 Z a1 y0 y1 y2 y3 h0 n0) := by
 obtain ⟨SCS, hcs⟩ := SC_
 refine own_start (n0 := n0) hw "java/lang/String" (L := #[.val (.ref a1), .val (.ref a2)]) pn_21 (fun {p e s m below meth c s₁} q hx W hml hZ hown hnm hlk hrt X0 e0 N0 => ?_)
 have kp0 := Keep.refl h0 [a1]
 refine own_aln X0 q d21_0 rfl rfl (own_aln X0 q d21_1 rfl rfl (own_nl X0 q d21_2 ?_))
 refine own_cIh (a := a1) X0 q hZ e0 hown hml (W 136 rfl) (W 137 rfl) (W 8 rfl) (W 138 rfl) (rm22_L4 l Z a0 hw a1 a2 v0 k0 y0 y1 y2 y3 cs0 h0 n0 Z0 O0 ⟨SCS, hcs⟩ E1 FC FV EB G0 G1 G2 G3 VV g1 n12 n1v) d21_3 [(.ref a2), .null] [] own_pd26 0 rfl (by decide) (fun v1463 T1463 L1463 h1463 e1463' X1463 hQ1463 => ?_)
 obtain ⟨t1463, k1463, rfl, N1463q, K1463, lo1463, Fc1463, Fv1463, V1463⟩ := hQ1463
 have N1463 := Fr.app N0 N1463q
 have kp1464 := kp0.trans K1463 (allS (own_i0) all0)
 have sz_t1463 : h0.size ≤ t1463 := Nat.le_trans kp0.1 lo1463
 refine own_nn ?_
 refine own_rV X1463 q hrt d21_6 hlk (by decide) ?_
 show QSVL4 Z a1 y0 y1 y2 y3 h0 n0 _ T1463.heap _
 rw [e1463']
 exact ⟨_, _, rfl, N1463, kp1464, sz_t1463, Fc1463, Fv1463, V1463⟩
theorem rm20_L4 (l : Launch) (Z : State) (a0 : Array Value) (hw : own_hw a0 Z) (a1 : Addr) (v0 : Addr) (k0 : ClassId) (y0 y1 y2 y3 : Int32) (cs0 : Int32) (h0 : Heap) (n0 : Nat) (Z0 : n0 ≤ h0.size) (O0 : Old Z n0 h0) (SC_ : own_SC Z cs0) (EB : Exa Z h0 a1 "java/lang/StringBuilder") (G0 : F'3 Z h0 a1 (.ref v0)) (G1 : F'2 Z h0 a1 v'0) (G2 : F'4 Z h0 a1 v'4) (G3 : F'5 Z h0 a1 v'0) (VV : Arv Z h0 v0 k0 .byte (16 : Int32) [(.int y0), (.int y1), (.int y2), (.int y3), v'0, v'0, v'0, v'0, v'0, v'0, v'0, v'0, v'0, v'0, v'0, v'0] v'0) :
  own_M l Z [] own_y37 b'20 1 (some (.object "java/lang/String")) ⟨5, 2, 8, 79⟩ #[(.ref a1)] h0 (QTSL4 Z y0 y1 y2 y3 h0 n0) := by
 obtain ⟨SCS, hcs⟩ := SC_
 refine own_start (n0 := n0) hw "java/lang/StringBuilder" (L := #[.val (.ref a1)]) pn_20 (fun {p e s m below meth c s₁} q hx W hml hZ hown hnm hlk hrt X0 e0 N0 => ?_)
 have kp0 := Keep.refl h0 []
 refine own_let ?_; intro g1470_
 obtain ⟨T1471, h1471, X1471, e1471, E1471, A1471, D1471, -, st1471⟩ := newO X0 hx hZ hown (W 132 rfl) (W 7 rfl) (W 8 rfl) e0 (g := g1470_) rfl (q.d d20_0) (by decide) (by decide)
 obtain ⟨b1471, g1471⟩ : ∃ z, z = h0.size := ⟨_, rfl⟩
 rw [← g1471] at A1471 D1471 st1471
 have zs1472 := Nat.le_trans Z0 E1471.1
 have od1472 := O0.ext E1471
 have kp1472 := kp0.ext E1471
 have g_b1471 : n0 ≤ b1471 := Nat.le_trans Z0 (Nat.le_of_eq g1471.symm)
 have sz_b1471 : h0.size ≤ b1471 := Nat.le_trans kp0.1 (Nat.le_of_eq g1471.symm)
 have F1471_value : F'1 Z h1471 b1471 .null := D1471 (Or.inr (W 22 rfl)) (ty := (.array .byte)) (by decide)
 have F1471_coder : F'0 Z h1471 b1471 v'0 := D1471 (Or.inr (W 23 rfl)) (ty := .byte) (by decide)
 refine own_stq 3 [(.ref b1471)] st1471 (own_dp X1471 q d20_3 rfl (own_aln X1471 q d20_4 rfl rfl ?_))
 refine own_cIh (a := b1471) X1471 q hZ e1471 hown hml (W 133 rfl) (W 134 rfl) (W 8 rfl) (W 135 rfl) (rm21_L4 l Z a0 hw b1471 a1 v0 k0 y0 y1 y2 y3 cs0 h1471 n0 zs1472 od1472 ⟨SCS, hcs⟩ A1471 F1471_coder F1471_value (EB.ext E1471) (G0.ext E1471) (G1.ext E1471) (G2.ext E1471) (G3.ext E1471) (VV.ext E1471) g_b1471 (Ne.symm (own_ne (EB).lt (Nat.le_of_eq g1471.symm))) (Ne.symm (own_ne (VV).lt (Nat.le_of_eq g1471.symm)))) d20_5 [(.ref a1)] [(.ref b1471)] own_pd27 1 rfl (by decide) (fun v1473 T1473 L1473 h1473 e1473' X1473 hQ1473 => ?_)
 obtain ⟨t1473, k1473, rfl, N1473q, K1473, lo1473, Fc1473, Fv1473, V1473⟩ := hQ1473
 have N1473 := Fr.app N0 N1473q
 have kp1474 := kp1472.trans K1473 (allS (Or.inr sz_b1471) all0)
 have sz_t1473 : h0.size ≤ t1473 := Nat.le_trans kp1472.1 lo1473
 refine own_nn ?_
 refine own_rA X1473 q hrt d20_8 hlk (by decide) ?_
 show QTSL4 Z y0 y1 y2 y3 h0 n0 _ T1473.heap _
 rw [e1473']
 exact ⟨_, _, _, rfl, N1473, own_extK kp1474, sz_b1471, sz_t1473, (A1471.keep K1473), Fc1473, Fv1473, V1473⟩
theorem rm22_U1 (l : Launch) (Z : State) (a0 : Array Value) (hw : own_hw a0 Z) (a1 : Addr) (a2 : Addr) (v0 : Addr) (k0 : ClassId) (y0 y1 : Int32) (cs0 : Int32) (h0 : Heap) (n0 : Nat) (Z0 : n0 ≤ h0.size) (O0 : Old Z n0 h0) (SC_ : own_SC Z cs0) (E1 : Exa Z h0 a1 "java/lang/String") (FC : F'0 Z h0 a1 v'0) (FV : F'1 Z h0 a1 .null) (EB : Exa Z h0 a2 "java/lang/StringBuilder") (G0 : F'3 Z h0 a2 (.ref v0)) (G1 : F'2 Z h0 a2 v'1) (G2 : F'4 Z h0 a2 v'1) (G3 : F'5 Z h0 a2 v'0) (VV : Arv Z h0 v0 k0 .byte (32 : Int32) [(.int y0), (.int y1), v'0, v'0, v'0, v'0, v'0, v'0, v'0, v'0, v'0, v'0, v'0, v'0, v'0, v'0, v'0, v'0, v'0, v'0, v'0, v'0, v'0, v'0, v'0, v'0, v'0, v'0, v'0, v'0, v'0, v'0] v'0) (g1 : n0 ≤ a1) (n12 : a1 ≠ a2) (n1v : a1 ≠ v0) :
  own_M l Z [] own_y35 b'22 5 none ⟨3, 1, 2, 49⟩ #[(.ref a1), (.ref a2), .null] h0 (QSVU1 Z a1 y0 y1 h0 n0) := by
 obtain ⟨SCS, hcs⟩ := SC_
 refine own_start (n0 := n0) hw "java/lang/String" (L := #[.val (.ref a1), .val (.ref a2), .val .null, .unset, .unset]) pn_22 (fun {p e s m below meth c s₁} q hx W hml hZ hown hnm hlk hrt X0 e0 N0 => ?_)
 have kp0 := Keep.refl h0 [a1]
 refine own_aln X0 q d22_0 rfl rfl ?_
 refine own_let ?_; intro g1491_
 obtain ⟨T1492, X1492, e1492, st1492⟩ := initO X0 hx hZ hown (W 17 rfl) (W 18 rfl) (W 19 rfl) e0 (g := g1491_) rfl (by rw [hml]; rfl) rfl (q.d d22_1) (by decide) (W := 0) (by show 2 * 0 + _ ≤ _; exact Nat.le_of_eq rfl) (by decide)
 refine own_stp 4 st1492 (own_aln X1492 q d22_4 rfl rfl ?_)
 refine own_cV X1492 q hZ e1492 hown hml (W 139 rfl) (W 140 rfl) (W 142 rfl) (W 141 rfl) (W 71 rfl) (W 143 rfl) rfl EB (rm23 l Z a0 hw a2 v0 h0 n0 Z0 G0) d22_5 [] [] own_pd25 0 (by decide) (fun v1493 T1493 L1493 X1493 hQ1493 => ?_)
 obtain ⟨rfl, N1493q, e1493⟩ := hQ1493
 have N1493 := Fr.app N0 N1493q
 refine own_nv (own_asn X1493 q d22_8 rfl (l' := #[.val (.ref a1), .val (.ref a2), .val .null, .val (.ref v0), .unset]) rfl (own_aln X1493 q d22_9 rfl rfl ?_))
 refine own_let ?_; intro g1495_
 obtain ⟨cq1494, kq1494, q1494a, q1494b, q1494c⟩ := isOf hZ e1493 EB
 obtain ⟨_, _, ⟨T1494, L1494, k1494, n1494⟩, -, X1494, ⟨Lc1494, hQ1494, l1494, y1494, z1494⟩, st1494⟩ := X1493.virtualBack hx (y := own_y15) (z := own_y16) hown (mvT hZ (W 144 rfl)) (mvT hZ (W 145 rfl)) (own_nf (args := #[]) (mvT hZ (W 105 rfl)) rfl) (mvT hZ (W 147 rfl)) (mvT hZ (W 148 rfl)) (by decide) (backOf (W := 0) (rm24 l Z a0 hw a2 (1 : Int32) h0 n0 Z0 EB G2) hZ (W 149 rfl) (W 63 rfl) (by decide) (by decide)) q1494a q1494c (g := g1495_) rfl (by rw [hml]; rfl) (Steps.refl _) (argsL := []) (rest := []) (lenOf own_pd9 rfl) rfl (by show 2 * 0 + _ ≤ _; exact Nat.le_of_eq rfl) (q.d d22_10) (fun _ _ => ⟨rfl, e1493, (by decide : 0 + 0 ≤ _), (by decide : 0 + 0 ≤ _)⟩)
 dsimp only [Pt.U, Pt.locs, Pt.cells, Pt.slots] at X1494 l1494 y1494 z1494 st1494 hQ1494
 rw [l1494, y1494, z1494] at X1494
 clear l1494 y1494 z1494
 obtain ⟨rfl, N1494q, e1494⟩ := hQ1494
 have N1494 := Fr.app N1493 N1494q
 refine own_stp 13 (fun _ k => st1494.trans k) (own_nv (own_is X1494 q d22_13 (l' := #[.val (.ref a1), .val (.ref a2), .val .null, .val (.ref v0), .val v'1]) rfl (own_aln X1494 q d22_15 rfl rfl ?_)))
 refine own_cV X1494 q hZ e1494 hown hml (W 152 rfl) (W 153 rfl) (W 155 rfl) (W 154 rfl) (W 71 rfl) (W 156 rfl) rfl EB (rm26_1 l Z a0 hw a2 cs0 h0 n0 Z0 O0 ⟨SCS, hcs⟩ G1) d22_16 [] [] own_pd18 0 (by decide) (fun v1496 T1496 L1496 X1496 hQ1496 => ?_)
 obtain ⟨rfl, N1496q, e1496⟩ := hQ1496
 have N1496 := Fr.app N1494 N1496q
 refine own_nv (own_zy X1496 q d22_19 (((if0 _ _).trans (teq (rfl : (0 : Int32) = (0 : Int32))).1)) ?_)
 refine own_gS X1496 q hZ e1496 hown (W 99 rfl) (SCS.ext O0.2) d22_41 fun T1497 X1497 e1497 => ?_
 refine own_zn X1497 q d22_44 (((if0 _ _).trans (feq hcs).1)) (own_aln X1497 q d22_47 rfl rfl ?_)
 refine own_gF X1497 q hZ e1497 hown (W 238 rfl) G3 d22_48 fun T1498 X1498 e1498 => ?_
 refine own_zy X1498 q d22_51 (((if0 _ _).trans (teq (rfl : (0 : Int32) = (0 : Int32))).1)) (own_aln X1498 q d22_79 rfl rfl (own_k X1498 q d22_80 ?_))
 refine own_let ?_; intro g1499_
 obtain ⟨T1500, h1500, X1500, e1500, W1500, st1500⟩ := putFN X1498 hx hZ hown (W 27 rfl) Via.refl e1498 FC E1 (Or.inr ⟨(W 23 rfl), rfl, hnm⟩) (W 7 rfl) (ty := .byte) (v' := v'1) (by decide) rfl rfl (g := g1499_) rfl rfl (q.d d22_81)
 have zs1501 := Nat.le_trans Z0 (Keep.of_wr W1500).1
 have kp1501 := kp0.wr W1500 (own_i0)
 have Fw1500 := (FC).same W1500
 have N1500 := Fr.snoc X1500 N1496 g1
 refine own_stp 84 st1500 (own_aln X1500 q d22_84 rfl rfl (own_aln X1500 q d22_85 rfl rfl (own_k X1500 q d22_86 (own_il X1500 q d22_87 rfl (own_k X1500 q d22_89 (own_stp 91 (fun _ k => XS.ishl X1500.here hx rfl (q.d d22_90) rfl k) ?_))))))
 rw [show ((1 : Int32) <<< ((1 : Int32) &&& 31)) = (2 : Int32) from by decide]
 refine own_cSh X1500 q hZ e1500 hown hml (W 157 rfl) (W 158 rfl) (W 159 rfl) (W 160 rfl) (rm27_U1 l Z a0 hw v0 k0 y0 y1 h1500 n0 zs1501 (VV.other W1500 (Ne.symm n1v))) d22_91 [(.ref v0), v'0, v'2] [(.ref a1)] own_pd12 1 (by decide) (fun v1502 T1502 L1502 h1502 e1502' X1502 hQ1502 => ?_)
 obtain ⟨b1502, k1502, rfl, N1502q, E1502, lo1502, V1502⟩ := hQ1502
 have N1502 := Fr.app N1500 N1502q
 have kp1503 := kp1501.ext E1502
 have sz_b1502 : h0.size ≤ b1502 := Nat.le_trans kp1501.1 lo1502
 refine own_nv ?_
 refine own_let ?_; intro g1504_
 obtain ⟨T1505, h1505, X1505, e1505, W1505, st1505⟩ := putF X1502 hx hZ hown (host := "") (Or.inl (W 26 rfl)) Via.refl e1502' ((FV.other W1500 (Or.inr (slot_ne (Or.inr (W 22 rfl)) (Or.inr (W 23 rfl)) (by decide) (t := (.array .byte)) (t' := .byte) (by decide) (by decide)))).ext E1502) ((E1.wr W1500).ext E1502) (Or.inr ⟨(W 22 rfl), rfl, hnm⟩) (W 7 rfl) (ty := (.array .byte)) (by decide) rfl rfl (g := g1504_) rfl rfl (q.d d22_94)
 have kp1506 := kp1503.wr W1505 (own_i0)
 have Fw1505 := (((FV.other W1500 (Or.inr (slot_ne (Or.inr (W 22 rfl)) (Or.inr (W 23 rfl)) (by decide) (t := (.array .byte)) (t' := .byte) (by decide) (by decide)))).ext E1502)).same W1505
 have N1505 := Fr.snoc X1505 N1502 g1
 refine own_stp 97 st1505 ?_
 refine own_rV X1505 q hrt d22_97 hlk (by decide) ?_
 show QSVU1 Z a1 y0 y1 h0 n0 _ T1505.heap _
 rw [e1505]
 exact ⟨_, _, rfl, N1505, kp1506, sz_b1502, ((Fw1500.ext E1502).other W1505 (Or.inr (slot_ne (Or.inr (W 23 rfl)) (Or.inr (W 22 rfl)) (by decide) (t := .byte) (t' := (.array .byte)) (by decide) (by decide)))), Fw1505, (V1502.other W1505 (Ne.symm (own_ne ((E1.wr W1500)).lt lo1502)))⟩
theorem rm21_U1 (l : Launch) (Z : State) (a0 : Array Value) (hw : own_hw a0 Z) (a1 : Addr) (a2 : Addr) (v0 : Addr) (k0 : ClassId) (y0 y1 : Int32) (cs0 : Int32) (h0 : Heap) (n0 : Nat) (Z0 : n0 ≤ h0.size) (O0 : Old Z n0 h0) (SC_ : own_SC Z cs0) (E1 : Exa Z h0 a1 "java/lang/String") (FC : F'0 Z h0 a1 v'0) (FV : F'1 Z h0 a1 .null) (EB : Exa Z h0 a2 "java/lang/StringBuilder") (G0 : F'3 Z h0 a2 (.ref v0)) (G1 : F'2 Z h0 a2 v'1) (G2 : F'4 Z h0 a2 v'1) (G3 : F'5 Z h0 a2 v'0) (VV : Arv Z h0 v0 k0 .byte (32 : Int32) [(.int y0), (.int y1), v'0, v'0, v'0, v'0, v'0, v'0, v'0, v'0, v'0, v'0, v'0, v'0, v'0, v'0, v'0, v'0, v'0, v'0, v'0, v'0, v'0, v'0, v'0, v'0, v'0, v'0, v'0, v'0, v'0, v'0] v'0) (g1 : n0 ≤ a1) (n12 : a1 ≠ a2) (n1v : a1 ≠ v0) :
  own_M l Z [] own_y36 b'21 2 none ⟨4, 1, 2, 65⟩ #[(.ref a1), (.ref a2)] h0 (QSVU1 Z a1 y0 y1 h0 n0) := by
 obtain ⟨SCS, hcs⟩ := SC_
 refine own_start (n0 := n0) hw "java/lang/String" (L := #[.val (.ref a1), .val (.ref a2)]) pn_21 (fun {p e s m below meth c s₁} q hx W hml hZ hown hnm hlk hrt X0 e0 N0 => ?_)
 have kp0 := Keep.refl h0 [a1]
 refine own_aln X0 q d21_0 rfl rfl (own_aln X0 q d21_1 rfl rfl (own_nl X0 q d21_2 ?_))
 refine own_cIh (a := a1) X0 q hZ e0 hown hml (W 136 rfl) (W 137 rfl) (W 8 rfl) (W 138 rfl) (rm22_U1 l Z a0 hw a1 a2 v0 k0 y0 y1 cs0 h0 n0 Z0 O0 ⟨SCS, hcs⟩ E1 FC FV EB G0 G1 G2 G3 VV g1 n12 n1v) d21_3 [(.ref a2), .null] [] own_pd26 0 rfl (by decide) (fun v1509 T1509 L1509 h1509 e1509' X1509 hQ1509 => ?_)
 obtain ⟨t1509, k1509, rfl, N1509q, K1509, lo1509, Fc1509, Fv1509, V1509⟩ := hQ1509
 have N1509 := Fr.app N0 N1509q
 have kp1510 := kp0.trans K1509 (allS (own_i0) all0)
 have sz_t1509 : h0.size ≤ t1509 := Nat.le_trans kp0.1 lo1509
 refine own_nn ?_
 refine own_rV X1509 q hrt d21_6 hlk (by decide) ?_
 show QSVU1 Z a1 y0 y1 h0 n0 _ T1509.heap _
 rw [e1509']
 exact ⟨_, _, rfl, N1509, kp1510, sz_t1509, Fc1509, Fv1509, V1509⟩
theorem rm20_U1 (l : Launch) (Z : State) (a0 : Array Value) (hw : own_hw a0 Z) (a1 : Addr) (v0 : Addr) (k0 : ClassId) (y0 y1 : Int32) (cs0 : Int32) (h0 : Heap) (n0 : Nat) (Z0 : n0 ≤ h0.size) (O0 : Old Z n0 h0) (SC_ : own_SC Z cs0) (EB : Exa Z h0 a1 "java/lang/StringBuilder") (G0 : F'3 Z h0 a1 (.ref v0)) (G1 : F'2 Z h0 a1 v'1) (G2 : F'4 Z h0 a1 v'1) (G3 : F'5 Z h0 a1 v'0) (VV : Arv Z h0 v0 k0 .byte (32 : Int32) [(.int y0), (.int y1), v'0, v'0, v'0, v'0, v'0, v'0, v'0, v'0, v'0, v'0, v'0, v'0, v'0, v'0, v'0, v'0, v'0, v'0, v'0, v'0, v'0, v'0, v'0, v'0, v'0, v'0, v'0, v'0, v'0, v'0] v'0) :
  own_M l Z [] own_y37 b'20 1 (some (.object "java/lang/String")) ⟨5, 2, 6, 79⟩ #[(.ref a1)] h0 (QTSU1 Z y0 y1 h0 n0) := by
 obtain ⟨SCS, hcs⟩ := SC_
 refine own_start (n0 := n0) hw "java/lang/StringBuilder" (L := #[.val (.ref a1)]) pn_20 (fun {p e s m below meth c s₁} q hx W hml hZ hown hnm hlk hrt X0 e0 N0 => ?_)
 have kp0 := Keep.refl h0 []
 refine own_let ?_; intro g1516_
 obtain ⟨T1517, h1517, X1517, e1517, E1517, A1517, D1517, -, st1517⟩ := newO X0 hx hZ hown (W 132 rfl) (W 7 rfl) (W 8 rfl) e0 (g := g1516_) rfl (q.d d20_0) (by decide) (by decide)
 obtain ⟨b1517, g1517⟩ : ∃ z, z = h0.size := ⟨_, rfl⟩
 rw [← g1517] at A1517 D1517 st1517
 have zs1518 := Nat.le_trans Z0 E1517.1
 have od1518 := O0.ext E1517
 have kp1518 := kp0.ext E1517
 have g_b1517 : n0 ≤ b1517 := Nat.le_trans Z0 (Nat.le_of_eq g1517.symm)
 have sz_b1517 : h0.size ≤ b1517 := Nat.le_trans kp0.1 (Nat.le_of_eq g1517.symm)
 have F1517_value : F'1 Z h1517 b1517 .null := D1517 (Or.inr (W 22 rfl)) (ty := (.array .byte)) (by decide)
 have F1517_coder : F'0 Z h1517 b1517 v'0 := D1517 (Or.inr (W 23 rfl)) (ty := .byte) (by decide)
 refine own_stq 3 [(.ref b1517)] st1517 (own_dp X1517 q d20_3 rfl (own_aln X1517 q d20_4 rfl rfl ?_))
 refine own_cIh (a := b1517) X1517 q hZ e1517 hown hml (W 133 rfl) (W 134 rfl) (W 8 rfl) (W 135 rfl) (rm21_U1 l Z a0 hw b1517 a1 v0 k0 y0 y1 cs0 h1517 n0 zs1518 od1518 ⟨SCS, hcs⟩ A1517 F1517_coder F1517_value (EB.ext E1517) (G0.ext E1517) (G1.ext E1517) (G2.ext E1517) (G3.ext E1517) (VV.ext E1517) g_b1517 (Ne.symm (own_ne (EB).lt (Nat.le_of_eq g1517.symm))) (Ne.symm (own_ne (VV).lt (Nat.le_of_eq g1517.symm)))) d20_5 [(.ref a1)] [(.ref b1517)] own_pd27 1 rfl (by decide) (fun v1519 T1519 L1519 h1519 e1519' X1519 hQ1519 => ?_)
 obtain ⟨t1519, k1519, rfl, N1519q, K1519, lo1519, Fc1519, Fv1519, V1519⟩ := hQ1519
 have N1519 := Fr.app N0 N1519q
 have kp1520 := kp1518.trans K1519 (allS (Or.inr sz_b1517) all0)
 have sz_t1519 : h0.size ≤ t1519 := Nat.le_trans kp1518.1 lo1519
 refine own_nn ?_
 refine own_rA X1519 q hrt d20_8 hlk (by decide) ?_
 show QTSU1 Z y0 y1 h0 n0 _ T1519.heap _
 rw [e1519']
 exact ⟨_, _, _, rfl, N1519, own_extK kp1520, sz_b1517, sz_t1519, (A1517.keep K1519), Fc1519, Fv1519, V1519⟩
theorem rm22_U2 (l : Launch) (Z : State) (a0 : Array Value) (hw : own_hw a0 Z) (a1 : Addr) (a2 : Addr) (v0 : Addr) (k0 : ClassId) (y0 y1 y2 y3 : Int32) (cs0 : Int32) (h0 : Heap) (n0 : Nat) (Z0 : n0 ≤ h0.size) (O0 : Old Z n0 h0) (SC_ : own_SC Z cs0) (E1 : Exa Z h0 a1 "java/lang/String") (FC : F'0 Z h0 a1 v'0) (FV : F'1 Z h0 a1 .null) (EB : Exa Z h0 a2 "java/lang/StringBuilder") (G0 : F'3 Z h0 a2 (.ref v0)) (G1 : F'2 Z h0 a2 v'1) (G2 : F'4 Z h0 a2 v'2) (G3 : F'5 Z h0 a2 v'0) (VV : Arv Z h0 v0 k0 .byte (32 : Int32) [(.int y0), (.int y1), (.int y2), (.int y3), v'0, v'0, v'0, v'0, v'0, v'0, v'0, v'0, v'0, v'0, v'0, v'0, v'0, v'0, v'0, v'0, v'0, v'0, v'0, v'0, v'0, v'0, v'0, v'0, v'0, v'0, v'0, v'0] v'0) (g1 : n0 ≤ a1) (n12 : a1 ≠ a2) (n1v : a1 ≠ v0) :
  own_M l Z [] own_y35 b'22 5 none ⟨3, 1, 4, 49⟩ #[(.ref a1), (.ref a2), .null] h0 (QSVU2 Z a1 y0 y1 y2 y3 h0 n0) := by
 obtain ⟨SCS, hcs⟩ := SC_
 refine own_start (n0 := n0) hw "java/lang/String" (L := #[.val (.ref a1), .val (.ref a2), .val .null, .unset, .unset]) pn_22 (fun {p e s m below meth c s₁} q hx W hml hZ hown hnm hlk hrt X0 e0 N0 => ?_)
 have kp0 := Keep.refl h0 [a1]
 refine own_aln X0 q d22_0 rfl rfl ?_
 refine own_let ?_; intro g1537_
 obtain ⟨T1538, X1538, e1538, st1538⟩ := initO X0 hx hZ hown (W 17 rfl) (W 18 rfl) (W 19 rfl) e0 (g := g1537_) rfl (by rw [hml]; rfl) rfl (q.d d22_1) (by decide) (W := 0) (by show 2 * 0 + _ ≤ _; exact Nat.le_of_eq rfl) (by decide)
 refine own_stp 4 st1538 (own_aln X1538 q d22_4 rfl rfl ?_)
 refine own_cV X1538 q hZ e1538 hown hml (W 139 rfl) (W 140 rfl) (W 142 rfl) (W 141 rfl) (W 71 rfl) (W 143 rfl) rfl EB (rm23 l Z a0 hw a2 v0 h0 n0 Z0 G0) d22_5 [] [] own_pd25 0 (by decide) (fun v1539 T1539 L1539 X1539 hQ1539 => ?_)
 obtain ⟨rfl, N1539q, e1539⟩ := hQ1539
 have N1539 := Fr.app N0 N1539q
 refine own_nv (own_asn X1539 q d22_8 rfl (l' := #[.val (.ref a1), .val (.ref a2), .val .null, .val (.ref v0), .unset]) rfl (own_aln X1539 q d22_9 rfl rfl ?_))
 refine own_let ?_; intro g1541_
 obtain ⟨cq1540, kq1540, q1540a, q1540b, q1540c⟩ := isOf hZ e1539 EB
 obtain ⟨_, _, ⟨T1540, L1540, k1540, n1540⟩, -, X1540, ⟨Lc1540, hQ1540, l1540, y1540, z1540⟩, st1540⟩ := X1539.virtualBack hx (y := own_y15) (z := own_y16) hown (mvT hZ (W 144 rfl)) (mvT hZ (W 145 rfl)) (own_nf (args := #[]) (mvT hZ (W 105 rfl)) rfl) (mvT hZ (W 147 rfl)) (mvT hZ (W 148 rfl)) (by decide) (backOf (W := 0) (rm24 l Z a0 hw a2 (2 : Int32) h0 n0 Z0 EB G2) hZ (W 149 rfl) (W 63 rfl) (by decide) (by decide)) q1540a q1540c (g := g1541_) rfl (by rw [hml]; rfl) (Steps.refl _) (argsL := []) (rest := []) (lenOf own_pd9 rfl) rfl (by show 2 * 0 + _ ≤ _; exact Nat.le_of_eq rfl) (q.d d22_10) (fun _ _ => ⟨rfl, e1539, (by decide : 0 + 0 ≤ _), (by decide : 0 + 0 ≤ _)⟩)
 dsimp only [Pt.U, Pt.locs, Pt.cells, Pt.slots] at X1540 l1540 y1540 z1540 st1540 hQ1540
 rw [l1540, y1540, z1540] at X1540
 clear l1540 y1540 z1540
 obtain ⟨rfl, N1540q, e1540⟩ := hQ1540
 have N1540 := Fr.app N1539 N1540q
 refine own_stp 13 (fun _ k => st1540.trans k) (own_nv (own_is X1540 q d22_13 (l' := #[.val (.ref a1), .val (.ref a2), .val .null, .val (.ref v0), .val v'2]) rfl (own_aln X1540 q d22_15 rfl rfl ?_)))
 refine own_cV X1540 q hZ e1540 hown hml (W 152 rfl) (W 153 rfl) (W 155 rfl) (W 154 rfl) (W 71 rfl) (W 156 rfl) rfl EB (rm26_1 l Z a0 hw a2 cs0 h0 n0 Z0 O0 ⟨SCS, hcs⟩ G1) d22_16 [] [] own_pd18 0 (by decide) (fun v1542 T1542 L1542 X1542 hQ1542 => ?_)
 obtain ⟨rfl, N1542q, e1542⟩ := hQ1542
 have N1542 := Fr.app N1540 N1542q
 refine own_nv (own_zy X1542 q d22_19 (((if0 _ _).trans (teq (rfl : (0 : Int32) = (0 : Int32))).1)) ?_)
 refine own_gS X1542 q hZ e1542 hown (W 99 rfl) (SCS.ext O0.2) d22_41 fun T1543 X1543 e1543 => ?_
 refine own_zn X1543 q d22_44 (((if0 _ _).trans (feq hcs).1)) (own_aln X1543 q d22_47 rfl rfl ?_)
 refine own_gF X1543 q hZ e1543 hown (W 238 rfl) G3 d22_48 fun T1544 X1544 e1544 => ?_
 refine own_zy X1544 q d22_51 (((if0 _ _).trans (teq (rfl : (0 : Int32) = (0 : Int32))).1)) (own_aln X1544 q d22_79 rfl rfl (own_k X1544 q d22_80 ?_))
 refine own_let ?_; intro g1545_
 obtain ⟨T1546, h1546, X1546, e1546, W1546, st1546⟩ := putFN X1544 hx hZ hown (W 27 rfl) Via.refl e1544 FC E1 (Or.inr ⟨(W 23 rfl), rfl, hnm⟩) (W 7 rfl) (ty := .byte) (v' := v'1) (by decide) rfl rfl (g := g1545_) rfl rfl (q.d d22_81)
 have zs1547 := Nat.le_trans Z0 (Keep.of_wr W1546).1
 have kp1547 := kp0.wr W1546 (own_i0)
 have Fw1546 := (FC).same W1546
 have N1546 := Fr.snoc X1546 N1542 g1
 refine own_stp 84 st1546 (own_aln X1546 q d22_84 rfl rfl (own_aln X1546 q d22_85 rfl rfl (own_k X1546 q d22_86 (own_il X1546 q d22_87 rfl (own_k X1546 q d22_89 (own_stp 91 (fun _ k => XS.ishl X1546.here hx rfl (q.d d22_90) rfl k) ?_))))))
 rw [show ((2 : Int32) <<< ((1 : Int32) &&& 31)) = (4 : Int32) from by decide]
 refine own_cSh X1546 q hZ e1546 hown hml (W 157 rfl) (W 158 rfl) (W 159 rfl) (W 160 rfl) (rm27_U2 l Z a0 hw v0 k0 y0 y1 y2 y3 h1546 n0 zs1547 (VV.other W1546 (Ne.symm n1v))) d22_91 [(.ref v0), v'0, v'4] [(.ref a1)] own_pd12 1 (by decide) (fun v1548 T1548 L1548 h1548 e1548' X1548 hQ1548 => ?_)
 obtain ⟨b1548, k1548, rfl, N1548q, E1548, lo1548, V1548⟩ := hQ1548
 have N1548 := Fr.app N1546 N1548q
 have kp1549 := kp1547.ext E1548
 have sz_b1548 : h0.size ≤ b1548 := Nat.le_trans kp1547.1 lo1548
 refine own_nv ?_
 refine own_let ?_; intro g1550_
 obtain ⟨T1551, h1551, X1551, e1551, W1551, st1551⟩ := putF X1548 hx hZ hown (host := "") (Or.inl (W 26 rfl)) Via.refl e1548' ((FV.other W1546 (Or.inr (slot_ne (Or.inr (W 22 rfl)) (Or.inr (W 23 rfl)) (by decide) (t := (.array .byte)) (t' := .byte) (by decide) (by decide)))).ext E1548) ((E1.wr W1546).ext E1548) (Or.inr ⟨(W 22 rfl), rfl, hnm⟩) (W 7 rfl) (ty := (.array .byte)) (by decide) rfl rfl (g := g1550_) rfl rfl (q.d d22_94)
 have kp1552 := kp1549.wr W1551 (own_i0)
 have Fw1551 := (((FV.other W1546 (Or.inr (slot_ne (Or.inr (W 22 rfl)) (Or.inr (W 23 rfl)) (by decide) (t := (.array .byte)) (t' := .byte) (by decide) (by decide)))).ext E1548)).same W1551
 have N1551 := Fr.snoc X1551 N1548 g1
 refine own_stp 97 st1551 ?_
 refine own_rV X1551 q hrt d22_97 hlk (by decide) ?_
 show QSVU2 Z a1 y0 y1 y2 y3 h0 n0 _ T1551.heap _
 rw [e1551]
 exact ⟨_, _, rfl, N1551, kp1552, sz_b1548, ((Fw1546.ext E1548).other W1551 (Or.inr (slot_ne (Or.inr (W 23 rfl)) (Or.inr (W 22 rfl)) (by decide) (t := .byte) (t' := (.array .byte)) (by decide) (by decide)))), Fw1551, (V1548.other W1551 (Ne.symm (own_ne ((E1.wr W1546)).lt lo1548)))⟩
theorem rm21_U2 (l : Launch) (Z : State) (a0 : Array Value) (hw : own_hw a0 Z) (a1 : Addr) (a2 : Addr) (v0 : Addr) (k0 : ClassId) (y0 y1 y2 y3 : Int32) (cs0 : Int32) (h0 : Heap) (n0 : Nat) (Z0 : n0 ≤ h0.size) (O0 : Old Z n0 h0) (SC_ : own_SC Z cs0) (E1 : Exa Z h0 a1 "java/lang/String") (FC : F'0 Z h0 a1 v'0) (FV : F'1 Z h0 a1 .null) (EB : Exa Z h0 a2 "java/lang/StringBuilder") (G0 : F'3 Z h0 a2 (.ref v0)) (G1 : F'2 Z h0 a2 v'1) (G2 : F'4 Z h0 a2 v'2) (G3 : F'5 Z h0 a2 v'0) (VV : Arv Z h0 v0 k0 .byte (32 : Int32) [(.int y0), (.int y1), (.int y2), (.int y3), v'0, v'0, v'0, v'0, v'0, v'0, v'0, v'0, v'0, v'0, v'0, v'0, v'0, v'0, v'0, v'0, v'0, v'0, v'0, v'0, v'0, v'0, v'0, v'0, v'0, v'0, v'0, v'0] v'0) (g1 : n0 ≤ a1) (n12 : a1 ≠ a2) (n1v : a1 ≠ v0) :
  own_M l Z [] own_y36 b'21 2 none ⟨4, 1, 4, 65⟩ #[(.ref a1), (.ref a2)] h0 (QSVU2 Z a1 y0 y1 y2 y3 h0 n0) := by
 obtain ⟨SCS, hcs⟩ := SC_
 refine own_start (n0 := n0) hw "java/lang/String" (L := #[.val (.ref a1), .val (.ref a2)]) pn_21 (fun {p e s m below meth c s₁} q hx W hml hZ hown hnm hlk hrt X0 e0 N0 => ?_)
 have kp0 := Keep.refl h0 [a1]
 refine own_aln X0 q d21_0 rfl rfl (own_aln X0 q d21_1 rfl rfl (own_nl X0 q d21_2 ?_))
 refine own_cIh (a := a1) X0 q hZ e0 hown hml (W 136 rfl) (W 137 rfl) (W 8 rfl) (W 138 rfl) (rm22_U2 l Z a0 hw a1 a2 v0 k0 y0 y1 y2 y3 cs0 h0 n0 Z0 O0 ⟨SCS, hcs⟩ E1 FC FV EB G0 G1 G2 G3 VV g1 n12 n1v) d21_3 [(.ref a2), .null] [] own_pd26 0 rfl (by decide) (fun v1555 T1555 L1555 h1555 e1555' X1555 hQ1555 => ?_)
 obtain ⟨t1555, k1555, rfl, N1555q, K1555, lo1555, Fc1555, Fv1555, V1555⟩ := hQ1555
 have N1555 := Fr.app N0 N1555q
 have kp1556 := kp0.trans K1555 (allS (own_i0) all0)
 have sz_t1555 : h0.size ≤ t1555 := Nat.le_trans kp0.1 lo1555
 refine own_nn ?_
 refine own_rV X1555 q hrt d21_6 hlk (by decide) ?_
 show QSVU2 Z a1 y0 y1 y2 y3 h0 n0 _ T1555.heap _
 rw [e1555']
 exact ⟨_, _, rfl, N1555, kp1556, sz_t1555, Fc1555, Fv1555, V1555⟩
theorem rm20_U2 (l : Launch) (Z : State) (a0 : Array Value) (hw : own_hw a0 Z) (a1 : Addr) (v0 : Addr) (k0 : ClassId) (y0 y1 y2 y3 : Int32) (cs0 : Int32) (h0 : Heap) (n0 : Nat) (Z0 : n0 ≤ h0.size) (O0 : Old Z n0 h0) (SC_ : own_SC Z cs0) (EB : Exa Z h0 a1 "java/lang/StringBuilder") (G0 : F'3 Z h0 a1 (.ref v0)) (G1 : F'2 Z h0 a1 v'1) (G2 : F'4 Z h0 a1 v'2) (G3 : F'5 Z h0 a1 v'0) (VV : Arv Z h0 v0 k0 .byte (32 : Int32) [(.int y0), (.int y1), (.int y2), (.int y3), v'0, v'0, v'0, v'0, v'0, v'0, v'0, v'0, v'0, v'0, v'0, v'0, v'0, v'0, v'0, v'0, v'0, v'0, v'0, v'0, v'0, v'0, v'0, v'0, v'0, v'0, v'0, v'0] v'0) :
  own_M l Z [] own_y37 b'20 1 (some (.object "java/lang/String")) ⟨5, 2, 8, 79⟩ #[(.ref a1)] h0 (QTSU2 Z y0 y1 y2 y3 h0 n0) := by
 obtain ⟨SCS, hcs⟩ := SC_
 refine own_start (n0 := n0) hw "java/lang/StringBuilder" (L := #[.val (.ref a1)]) pn_20 (fun {p e s m below meth c s₁} q hx W hml hZ hown hnm hlk hrt X0 e0 N0 => ?_)
 have kp0 := Keep.refl h0 []
 refine own_let ?_; intro g1562_
 obtain ⟨T1563, h1563, X1563, e1563, E1563, A1563, D1563, -, st1563⟩ := newO X0 hx hZ hown (W 132 rfl) (W 7 rfl) (W 8 rfl) e0 (g := g1562_) rfl (q.d d20_0) (by decide) (by decide)
 obtain ⟨b1563, g1563⟩ : ∃ z, z = h0.size := ⟨_, rfl⟩
 rw [← g1563] at A1563 D1563 st1563
 have zs1564 := Nat.le_trans Z0 E1563.1
 have od1564 := O0.ext E1563
 have kp1564 := kp0.ext E1563
 have g_b1563 : n0 ≤ b1563 := Nat.le_trans Z0 (Nat.le_of_eq g1563.symm)
 have sz_b1563 : h0.size ≤ b1563 := Nat.le_trans kp0.1 (Nat.le_of_eq g1563.symm)
 have F1563_value : F'1 Z h1563 b1563 .null := D1563 (Or.inr (W 22 rfl)) (ty := (.array .byte)) (by decide)
 have F1563_coder : F'0 Z h1563 b1563 v'0 := D1563 (Or.inr (W 23 rfl)) (ty := .byte) (by decide)
 refine own_stq 3 [(.ref b1563)] st1563 (own_dp X1563 q d20_3 rfl (own_aln X1563 q d20_4 rfl rfl ?_))
 refine own_cIh (a := b1563) X1563 q hZ e1563 hown hml (W 133 rfl) (W 134 rfl) (W 8 rfl) (W 135 rfl) (rm21_U2 l Z a0 hw b1563 a1 v0 k0 y0 y1 y2 y3 cs0 h1563 n0 zs1564 od1564 ⟨SCS, hcs⟩ A1563 F1563_coder F1563_value (EB.ext E1563) (G0.ext E1563) (G1.ext E1563) (G2.ext E1563) (G3.ext E1563) (VV.ext E1563) g_b1563 (Ne.symm (own_ne (EB).lt (Nat.le_of_eq g1563.symm))) (Ne.symm (own_ne (VV).lt (Nat.le_of_eq g1563.symm)))) d20_5 [(.ref a1)] [(.ref b1563)] own_pd27 1 rfl (by decide) (fun v1565 T1565 L1565 h1565 e1565' X1565 hQ1565 => ?_)
 obtain ⟨t1565, k1565, rfl, N1565q, K1565, lo1565, Fc1565, Fv1565, V1565⟩ := hQ1565
 have N1565 := Fr.app N0 N1565q
 have kp1566 := kp1564.trans K1565 (allS (Or.inr sz_b1563) all0)
 have sz_t1565 : h0.size ≤ t1565 := Nat.le_trans kp1564.1 lo1565
 refine own_nn ?_
 refine own_rA X1565 q hrt d20_8 hlk (by decide) ?_
 show QTSU2 Z y0 y1 y2 y3 h0 n0 _ T1565.heap _
 rw [e1565']
 exact ⟨_, _, _, rfl, N1565, own_extK kp1566, sz_b1563, sz_t1565, (A1563.keep K1565), Fc1565, Fv1565, V1565⟩
theorem rm22_U3 (l : Launch) (Z : State) (a0 : Array Value) (hw : own_hw a0 Z) (a1 : Addr) (a2 : Addr) (v0 : Addr) (k0 : ClassId) (y0 y1 y2 y3 y4 y5 : Int32) (cs0 : Int32) (h0 : Heap) (n0 : Nat) (Z0 : n0 ≤ h0.size) (O0 : Old Z n0 h0) (SC_ : own_SC Z cs0) (E1 : Exa Z h0 a1 "java/lang/String") (FC : F'0 Z h0 a1 v'0) (FV : F'1 Z h0 a1 .null) (EB : Exa Z h0 a2 "java/lang/StringBuilder") (G0 : F'3 Z h0 a2 (.ref v0)) (G1 : F'2 Z h0 a2 v'1) (G2 : F'4 Z h0 a2 v'3) (G3 : F'5 Z h0 a2 v'0) (VV : Arv Z h0 v0 k0 .byte (32 : Int32) [(.int y0), (.int y1), (.int y2), (.int y3), (.int y4), (.int y5), v'0, v'0, v'0, v'0, v'0, v'0, v'0, v'0, v'0, v'0, v'0, v'0, v'0, v'0, v'0, v'0, v'0, v'0, v'0, v'0, v'0, v'0, v'0, v'0, v'0, v'0] v'0) (g1 : n0 ≤ a1) (n12 : a1 ≠ a2) (n1v : a1 ≠ v0) :
  own_M l Z [] own_y35 b'22 5 none ⟨3, 1, 6, 49⟩ #[(.ref a1), (.ref a2), .null] h0 (QSVU3 Z a1 y0 y1 y2 y3 y4 y5 h0 n0) := by
 obtain ⟨SCS, hcs⟩ := SC_
 refine own_start (n0 := n0) hw "java/lang/String" (L := #[.val (.ref a1), .val (.ref a2), .val .null, .unset, .unset]) pn_22 (fun {p e s m below meth c s₁} q hx W hml hZ hown hnm hlk hrt X0 e0 N0 => ?_)
 have kp0 := Keep.refl h0 [a1]
 refine own_aln X0 q d22_0 rfl rfl ?_
 refine own_let ?_; intro g1583_
 obtain ⟨T1584, X1584, e1584, st1584⟩ := initO X0 hx hZ hown (W 17 rfl) (W 18 rfl) (W 19 rfl) e0 (g := g1583_) rfl (by rw [hml]; rfl) rfl (q.d d22_1) (by decide) (W := 0) (by show 2 * 0 + _ ≤ _; exact Nat.le_of_eq rfl) (by decide)
 refine own_stp 4 st1584 (own_aln X1584 q d22_4 rfl rfl ?_)
 refine own_cV X1584 q hZ e1584 hown hml (W 139 rfl) (W 140 rfl) (W 142 rfl) (W 141 rfl) (W 71 rfl) (W 143 rfl) rfl EB (rm23 l Z a0 hw a2 v0 h0 n0 Z0 G0) d22_5 [] [] own_pd25 0 (by decide) (fun v1585 T1585 L1585 X1585 hQ1585 => ?_)
 obtain ⟨rfl, N1585q, e1585⟩ := hQ1585
 have N1585 := Fr.app N0 N1585q
 refine own_nv (own_asn X1585 q d22_8 rfl (l' := #[.val (.ref a1), .val (.ref a2), .val .null, .val (.ref v0), .unset]) rfl (own_aln X1585 q d22_9 rfl rfl ?_))
 refine own_let ?_; intro g1587_
 obtain ⟨cq1586, kq1586, q1586a, q1586b, q1586c⟩ := isOf hZ e1585 EB
 obtain ⟨_, _, ⟨T1586, L1586, k1586, n1586⟩, -, X1586, ⟨Lc1586, hQ1586, l1586, y1586, z1586⟩, st1586⟩ := X1585.virtualBack hx (y := own_y15) (z := own_y16) hown (mvT hZ (W 144 rfl)) (mvT hZ (W 145 rfl)) (own_nf (args := #[]) (mvT hZ (W 105 rfl)) rfl) (mvT hZ (W 147 rfl)) (mvT hZ (W 148 rfl)) (by decide) (backOf (W := 0) (rm24 l Z a0 hw a2 (3 : Int32) h0 n0 Z0 EB G2) hZ (W 149 rfl) (W 63 rfl) (by decide) (by decide)) q1586a q1586c (g := g1587_) rfl (by rw [hml]; rfl) (Steps.refl _) (argsL := []) (rest := []) (lenOf own_pd9 rfl) rfl (by show 2 * 0 + _ ≤ _; exact Nat.le_of_eq rfl) (q.d d22_10) (fun _ _ => ⟨rfl, e1585, (by decide : 0 + 0 ≤ _), (by decide : 0 + 0 ≤ _)⟩)
 dsimp only [Pt.U, Pt.locs, Pt.cells, Pt.slots] at X1586 l1586 y1586 z1586 st1586 hQ1586
 rw [l1586, y1586, z1586] at X1586
 clear l1586 y1586 z1586
 obtain ⟨rfl, N1586q, e1586⟩ := hQ1586
 have N1586 := Fr.app N1585 N1586q
 refine own_stp 13 (fun _ k => st1586.trans k) (own_nv (own_is X1586 q d22_13 (l' := #[.val (.ref a1), .val (.ref a2), .val .null, .val (.ref v0), .val v'3]) rfl (own_aln X1586 q d22_15 rfl rfl ?_)))
 refine own_cV X1586 q hZ e1586 hown hml (W 152 rfl) (W 153 rfl) (W 155 rfl) (W 154 rfl) (W 71 rfl) (W 156 rfl) rfl EB (rm26_1 l Z a0 hw a2 cs0 h0 n0 Z0 O0 ⟨SCS, hcs⟩ G1) d22_16 [] [] own_pd18 0 (by decide) (fun v1588 T1588 L1588 X1588 hQ1588 => ?_)
 obtain ⟨rfl, N1588q, e1588⟩ := hQ1588
 have N1588 := Fr.app N1586 N1588q
 refine own_nv (own_zy X1588 q d22_19 (((if0 _ _).trans (teq (rfl : (0 : Int32) = (0 : Int32))).1)) ?_)
 refine own_gS X1588 q hZ e1588 hown (W 99 rfl) (SCS.ext O0.2) d22_41 fun T1589 X1589 e1589 => ?_
 refine own_zn X1589 q d22_44 (((if0 _ _).trans (feq hcs).1)) (own_aln X1589 q d22_47 rfl rfl ?_)
 refine own_gF X1589 q hZ e1589 hown (W 238 rfl) G3 d22_48 fun T1590 X1590 e1590 => ?_
 refine own_zy X1590 q d22_51 (((if0 _ _).trans (teq (rfl : (0 : Int32) = (0 : Int32))).1)) (own_aln X1590 q d22_79 rfl rfl (own_k X1590 q d22_80 ?_))
 refine own_let ?_; intro g1591_
 obtain ⟨T1592, h1592, X1592, e1592, W1592, st1592⟩ := putFN X1590 hx hZ hown (W 27 rfl) Via.refl e1590 FC E1 (Or.inr ⟨(W 23 rfl), rfl, hnm⟩) (W 7 rfl) (ty := .byte) (v' := v'1) (by decide) rfl rfl (g := g1591_) rfl rfl (q.d d22_81)
 have zs1593 := Nat.le_trans Z0 (Keep.of_wr W1592).1
 have kp1593 := kp0.wr W1592 (own_i0)
 have Fw1592 := (FC).same W1592
 have N1592 := Fr.snoc X1592 N1588 g1
 refine own_stp 84 st1592 (own_aln X1592 q d22_84 rfl rfl (own_aln X1592 q d22_85 rfl rfl (own_k X1592 q d22_86 (own_il X1592 q d22_87 rfl (own_k X1592 q d22_89 (own_stp 91 (fun _ k => XS.ishl X1592.here hx rfl (q.d d22_90) rfl k) ?_))))))
 rw [show ((3 : Int32) <<< ((1 : Int32) &&& 31)) = (6 : Int32) from by decide]
 refine own_cSh X1592 q hZ e1592 hown hml (W 157 rfl) (W 158 rfl) (W 159 rfl) (W 160 rfl) (rm27_U3 l Z a0 hw v0 k0 y0 y1 y2 y3 y4 y5 h1592 n0 zs1593 (VV.other W1592 (Ne.symm n1v))) d22_91 [(.ref v0), v'0, v'6] [(.ref a1)] own_pd12 1 (by decide) (fun v1594 T1594 L1594 h1594 e1594' X1594 hQ1594 => ?_)
 obtain ⟨b1594, k1594, rfl, N1594q, E1594, lo1594, V1594⟩ := hQ1594
 have N1594 := Fr.app N1592 N1594q
 have kp1595 := kp1593.ext E1594
 have sz_b1594 : h0.size ≤ b1594 := Nat.le_trans kp1593.1 lo1594
 refine own_nv ?_
 refine own_let ?_; intro g1596_
 obtain ⟨T1597, h1597, X1597, e1597, W1597, st1597⟩ := putF X1594 hx hZ hown (host := "") (Or.inl (W 26 rfl)) Via.refl e1594' ((FV.other W1592 (Or.inr (slot_ne (Or.inr (W 22 rfl)) (Or.inr (W 23 rfl)) (by decide) (t := (.array .byte)) (t' := .byte) (by decide) (by decide)))).ext E1594) ((E1.wr W1592).ext E1594) (Or.inr ⟨(W 22 rfl), rfl, hnm⟩) (W 7 rfl) (ty := (.array .byte)) (by decide) rfl rfl (g := g1596_) rfl rfl (q.d d22_94)
 have kp1598 := kp1595.wr W1597 (own_i0)
 have Fw1597 := (((FV.other W1592 (Or.inr (slot_ne (Or.inr (W 22 rfl)) (Or.inr (W 23 rfl)) (by decide) (t := (.array .byte)) (t' := .byte) (by decide) (by decide)))).ext E1594)).same W1597
 have N1597 := Fr.snoc X1597 N1594 g1
 refine own_stp 97 st1597 ?_
 refine own_rV X1597 q hrt d22_97 hlk (by decide) ?_
 show QSVU3 Z a1 y0 y1 y2 y3 y4 y5 h0 n0 _ T1597.heap _
 rw [e1597]
 exact ⟨_, _, rfl, N1597, kp1598, sz_b1594, ((Fw1592.ext E1594).other W1597 (Or.inr (slot_ne (Or.inr (W 23 rfl)) (Or.inr (W 22 rfl)) (by decide) (t := .byte) (t' := (.array .byte)) (by decide) (by decide)))), Fw1597, (V1594.other W1597 (Ne.symm (own_ne ((E1.wr W1592)).lt lo1594)))⟩
theorem rm21_U3 (l : Launch) (Z : State) (a0 : Array Value) (hw : own_hw a0 Z) (a1 : Addr) (a2 : Addr) (v0 : Addr) (k0 : ClassId) (y0 y1 y2 y3 y4 y5 : Int32) (cs0 : Int32) (h0 : Heap) (n0 : Nat) (Z0 : n0 ≤ h0.size) (O0 : Old Z n0 h0) (SC_ : own_SC Z cs0) (E1 : Exa Z h0 a1 "java/lang/String") (FC : F'0 Z h0 a1 v'0) (FV : F'1 Z h0 a1 .null) (EB : Exa Z h0 a2 "java/lang/StringBuilder") (G0 : F'3 Z h0 a2 (.ref v0)) (G1 : F'2 Z h0 a2 v'1) (G2 : F'4 Z h0 a2 v'3) (G3 : F'5 Z h0 a2 v'0) (VV : Arv Z h0 v0 k0 .byte (32 : Int32) [(.int y0), (.int y1), (.int y2), (.int y3), (.int y4), (.int y5), v'0, v'0, v'0, v'0, v'0, v'0, v'0, v'0, v'0, v'0, v'0, v'0, v'0, v'0, v'0, v'0, v'0, v'0, v'0, v'0, v'0, v'0, v'0, v'0, v'0, v'0] v'0) (g1 : n0 ≤ a1) (n12 : a1 ≠ a2) (n1v : a1 ≠ v0) :
  own_M l Z [] own_y36 b'21 2 none ⟨4, 1, 6, 65⟩ #[(.ref a1), (.ref a2)] h0 (QSVU3 Z a1 y0 y1 y2 y3 y4 y5 h0 n0) := by
 obtain ⟨SCS, hcs⟩ := SC_
 refine own_start (n0 := n0) hw "java/lang/String" (L := #[.val (.ref a1), .val (.ref a2)]) pn_21 (fun {p e s m below meth c s₁} q hx W hml hZ hown hnm hlk hrt X0 e0 N0 => ?_)
 have kp0 := Keep.refl h0 [a1]
 refine own_aln X0 q d21_0 rfl rfl (own_aln X0 q d21_1 rfl rfl (own_nl X0 q d21_2 ?_))
 refine own_cIh (a := a1) X0 q hZ e0 hown hml (W 136 rfl) (W 137 rfl) (W 8 rfl) (W 138 rfl) (rm22_U3 l Z a0 hw a1 a2 v0 k0 y0 y1 y2 y3 y4 y5 cs0 h0 n0 Z0 O0 ⟨SCS, hcs⟩ E1 FC FV EB G0 G1 G2 G3 VV g1 n12 n1v) d21_3 [(.ref a2), .null] [] own_pd26 0 rfl (by decide) (fun v1601 T1601 L1601 h1601 e1601' X1601 hQ1601 => ?_)
 obtain ⟨t1601, k1601, rfl, N1601q, K1601, lo1601, Fc1601, Fv1601, V1601⟩ := hQ1601
 have N1601 := Fr.app N0 N1601q
 have kp1602 := kp0.trans K1601 (allS (own_i0) all0)
 have sz_t1601 : h0.size ≤ t1601 := Nat.le_trans kp0.1 lo1601
 refine own_nn ?_
 refine own_rV X1601 q hrt d21_6 hlk (by decide) ?_
 show QSVU3 Z a1 y0 y1 y2 y3 y4 y5 h0 n0 _ T1601.heap _
 rw [e1601']
 exact ⟨_, _, rfl, N1601, kp1602, sz_t1601, Fc1601, Fv1601, V1601⟩
theorem rm20_U3 (l : Launch) (Z : State) (a0 : Array Value) (hw : own_hw a0 Z) (a1 : Addr) (v0 : Addr) (k0 : ClassId) (y0 y1 y2 y3 y4 y5 : Int32) (cs0 : Int32) (h0 : Heap) (n0 : Nat) (Z0 : n0 ≤ h0.size) (O0 : Old Z n0 h0) (SC_ : own_SC Z cs0) (EB : Exa Z h0 a1 "java/lang/StringBuilder") (G0 : F'3 Z h0 a1 (.ref v0)) (G1 : F'2 Z h0 a1 v'1) (G2 : F'4 Z h0 a1 v'3) (G3 : F'5 Z h0 a1 v'0) (VV : Arv Z h0 v0 k0 .byte (32 : Int32) [(.int y0), (.int y1), (.int y2), (.int y3), (.int y4), (.int y5), v'0, v'0, v'0, v'0, v'0, v'0, v'0, v'0, v'0, v'0, v'0, v'0, v'0, v'0, v'0, v'0, v'0, v'0, v'0, v'0, v'0, v'0, v'0, v'0, v'0, v'0] v'0) :
  own_M l Z [] own_y37 b'20 1 (some (.object "java/lang/String")) ⟨5, 2, 10, 79⟩ #[(.ref a1)] h0 (QTSU3 Z y0 y1 y2 y3 y4 y5 h0 n0) := by
 obtain ⟨SCS, hcs⟩ := SC_
 refine own_start (n0 := n0) hw "java/lang/StringBuilder" (L := #[.val (.ref a1)]) pn_20 (fun {p e s m below meth c s₁} q hx W hml hZ hown hnm hlk hrt X0 e0 N0 => ?_)
 have kp0 := Keep.refl h0 []
 refine own_let ?_; intro g1608_
 obtain ⟨T1609, h1609, X1609, e1609, E1609, A1609, D1609, -, st1609⟩ := newO X0 hx hZ hown (W 132 rfl) (W 7 rfl) (W 8 rfl) e0 (g := g1608_) rfl (q.d d20_0) (by decide) (by decide)
 obtain ⟨b1609, g1609⟩ : ∃ z, z = h0.size := ⟨_, rfl⟩
 rw [← g1609] at A1609 D1609 st1609
 have zs1610 := Nat.le_trans Z0 E1609.1
 have od1610 := O0.ext E1609
 have kp1610 := kp0.ext E1609
 have g_b1609 : n0 ≤ b1609 := Nat.le_trans Z0 (Nat.le_of_eq g1609.symm)
 have sz_b1609 : h0.size ≤ b1609 := Nat.le_trans kp0.1 (Nat.le_of_eq g1609.symm)
 have F1609_value : F'1 Z h1609 b1609 .null := D1609 (Or.inr (W 22 rfl)) (ty := (.array .byte)) (by decide)
 have F1609_coder : F'0 Z h1609 b1609 v'0 := D1609 (Or.inr (W 23 rfl)) (ty := .byte) (by decide)
 refine own_stq 3 [(.ref b1609)] st1609 (own_dp X1609 q d20_3 rfl (own_aln X1609 q d20_4 rfl rfl ?_))
 refine own_cIh (a := b1609) X1609 q hZ e1609 hown hml (W 133 rfl) (W 134 rfl) (W 8 rfl) (W 135 rfl) (rm21_U3 l Z a0 hw b1609 a1 v0 k0 y0 y1 y2 y3 y4 y5 cs0 h1609 n0 zs1610 od1610 ⟨SCS, hcs⟩ A1609 F1609_coder F1609_value (EB.ext E1609) (G0.ext E1609) (G1.ext E1609) (G2.ext E1609) (G3.ext E1609) (VV.ext E1609) g_b1609 (Ne.symm (own_ne (EB).lt (Nat.le_of_eq g1609.symm))) (Ne.symm (own_ne (VV).lt (Nat.le_of_eq g1609.symm)))) d20_5 [(.ref a1)] [(.ref b1609)] own_pd27 1 rfl (by decide) (fun v1611 T1611 L1611 h1611 e1611' X1611 hQ1611 => ?_)
 obtain ⟨t1611, k1611, rfl, N1611q, K1611, lo1611, Fc1611, Fv1611, V1611⟩ := hQ1611
 have N1611 := Fr.app N0 N1611q
 have kp1612 := kp1610.trans K1611 (allS (Or.inr sz_b1609) all0)
 have sz_t1611 : h0.size ≤ t1611 := Nat.le_trans kp1610.1 lo1611
 refine own_nn ?_
 refine own_rA X1611 q hrt d20_8 hlk (by decide) ?_
 show QTSU3 Z y0 y1 y2 y3 y4 y5 h0 n0 _ T1611.heap _
 rw [e1611']
 exact ⟨_, _, _, rfl, N1611, own_extK kp1612, sz_b1609, sz_t1611, (A1609.keep K1611), Fc1611, Fv1611, V1611⟩
theorem rm22_U4 (l : Launch) (Z : State) (a0 : Array Value) (hw : own_hw a0 Z) (a1 : Addr) (a2 : Addr) (v0 : Addr) (k0 : ClassId) (y0 y1 y2 y3 y4 y5 y6 y7 : Int32) (cs0 : Int32) (h0 : Heap) (n0 : Nat) (Z0 : n0 ≤ h0.size) (O0 : Old Z n0 h0) (SC_ : own_SC Z cs0) (E1 : Exa Z h0 a1 "java/lang/String") (FC : F'0 Z h0 a1 v'0) (FV : F'1 Z h0 a1 .null) (EB : Exa Z h0 a2 "java/lang/StringBuilder") (G0 : F'3 Z h0 a2 (.ref v0)) (G1 : F'2 Z h0 a2 v'1) (G2 : F'4 Z h0 a2 v'4) (G3 : F'5 Z h0 a2 v'0) (VV : Arv Z h0 v0 k0 .byte (32 : Int32) [(.int y0), (.int y1), (.int y2), (.int y3), (.int y4), (.int y5), (.int y6), (.int y7), v'0, v'0, v'0, v'0, v'0, v'0, v'0, v'0, v'0, v'0, v'0, v'0, v'0, v'0, v'0, v'0, v'0, v'0, v'0, v'0, v'0, v'0, v'0, v'0] v'0) (g1 : n0 ≤ a1) (n12 : a1 ≠ a2) (n1v : a1 ≠ v0) :
  own_M l Z [] own_y35 b'22 5 none ⟨3, 1, 8, 49⟩ #[(.ref a1), (.ref a2), .null] h0 (QSVU4 Z a1 y0 y1 y2 y3 y4 y5 y6 y7 h0 n0) := by
 obtain ⟨SCS, hcs⟩ := SC_
 refine own_start (n0 := n0) hw "java/lang/String" (L := #[.val (.ref a1), .val (.ref a2), .val .null, .unset, .unset]) pn_22 (fun {p e s m below meth c s₁} q hx W hml hZ hown hnm hlk hrt X0 e0 N0 => ?_)
 have kp0 := Keep.refl h0 [a1]
 refine own_aln X0 q d22_0 rfl rfl ?_
 refine own_let ?_; intro g1629_
 obtain ⟨T1630, X1630, e1630, st1630⟩ := initO X0 hx hZ hown (W 17 rfl) (W 18 rfl) (W 19 rfl) e0 (g := g1629_) rfl (by rw [hml]; rfl) rfl (q.d d22_1) (by decide) (W := 0) (by show 2 * 0 + _ ≤ _; exact Nat.le_of_eq rfl) (by decide)
 refine own_stp 4 st1630 (own_aln X1630 q d22_4 rfl rfl ?_)
 refine own_cV X1630 q hZ e1630 hown hml (W 139 rfl) (W 140 rfl) (W 142 rfl) (W 141 rfl) (W 71 rfl) (W 143 rfl) rfl EB (rm23 l Z a0 hw a2 v0 h0 n0 Z0 G0) d22_5 [] [] own_pd25 0 (by decide) (fun v1631 T1631 L1631 X1631 hQ1631 => ?_)
 obtain ⟨rfl, N1631q, e1631⟩ := hQ1631
 have N1631 := Fr.app N0 N1631q
 refine own_nv (own_asn X1631 q d22_8 rfl (l' := #[.val (.ref a1), .val (.ref a2), .val .null, .val (.ref v0), .unset]) rfl (own_aln X1631 q d22_9 rfl rfl ?_))
 refine own_let ?_; intro g1633_
 obtain ⟨cq1632, kq1632, q1632a, q1632b, q1632c⟩ := isOf hZ e1631 EB
 obtain ⟨_, _, ⟨T1632, L1632, k1632, n1632⟩, -, X1632, ⟨Lc1632, hQ1632, l1632, y1632, z1632⟩, st1632⟩ := X1631.virtualBack hx (y := own_y15) (z := own_y16) hown (mvT hZ (W 144 rfl)) (mvT hZ (W 145 rfl)) (own_nf (args := #[]) (mvT hZ (W 105 rfl)) rfl) (mvT hZ (W 147 rfl)) (mvT hZ (W 148 rfl)) (by decide) (backOf (W := 0) (rm24 l Z a0 hw a2 (4 : Int32) h0 n0 Z0 EB G2) hZ (W 149 rfl) (W 63 rfl) (by decide) (by decide)) q1632a q1632c (g := g1633_) rfl (by rw [hml]; rfl) (Steps.refl _) (argsL := []) (rest := []) (lenOf own_pd9 rfl) rfl (by show 2 * 0 + _ ≤ _; exact Nat.le_of_eq rfl) (q.d d22_10) (fun _ _ => ⟨rfl, e1631, (by decide : 0 + 0 ≤ _), (by decide : 0 + 0 ≤ _)⟩)
 dsimp only [Pt.U, Pt.locs, Pt.cells, Pt.slots] at X1632 l1632 y1632 z1632 st1632 hQ1632
 rw [l1632, y1632, z1632] at X1632
 clear l1632 y1632 z1632
 obtain ⟨rfl, N1632q, e1632⟩ := hQ1632
 have N1632 := Fr.app N1631 N1632q
 refine own_stp 13 (fun _ k => st1632.trans k) (own_nv (own_is X1632 q d22_13 (l' := #[.val (.ref a1), .val (.ref a2), .val .null, .val (.ref v0), .val v'4]) rfl (own_aln X1632 q d22_15 rfl rfl ?_)))
 refine own_cV X1632 q hZ e1632 hown hml (W 152 rfl) (W 153 rfl) (W 155 rfl) (W 154 rfl) (W 71 rfl) (W 156 rfl) rfl EB (rm26_1 l Z a0 hw a2 cs0 h0 n0 Z0 O0 ⟨SCS, hcs⟩ G1) d22_16 [] [] own_pd18 0 (by decide) (fun v1634 T1634 L1634 X1634 hQ1634 => ?_)
 obtain ⟨rfl, N1634q, e1634⟩ := hQ1634
 have N1634 := Fr.app N1632 N1634q
 refine own_nv (own_zy X1634 q d22_19 (((if0 _ _).trans (teq (rfl : (0 : Int32) = (0 : Int32))).1)) ?_)
 refine own_gS X1634 q hZ e1634 hown (W 99 rfl) (SCS.ext O0.2) d22_41 fun T1635 X1635 e1635 => ?_
 refine own_zn X1635 q d22_44 (((if0 _ _).trans (feq hcs).1)) (own_aln X1635 q d22_47 rfl rfl ?_)
 refine own_gF X1635 q hZ e1635 hown (W 238 rfl) G3 d22_48 fun T1636 X1636 e1636 => ?_
 refine own_zy X1636 q d22_51 (((if0 _ _).trans (teq (rfl : (0 : Int32) = (0 : Int32))).1)) (own_aln X1636 q d22_79 rfl rfl (own_k X1636 q d22_80 ?_))
 refine own_let ?_; intro g1637_
 obtain ⟨T1638, h1638, X1638, e1638, W1638, st1638⟩ := putFN X1636 hx hZ hown (W 27 rfl) Via.refl e1636 FC E1 (Or.inr ⟨(W 23 rfl), rfl, hnm⟩) (W 7 rfl) (ty := .byte) (v' := v'1) (by decide) rfl rfl (g := g1637_) rfl rfl (q.d d22_81)
 have zs1639 := Nat.le_trans Z0 (Keep.of_wr W1638).1
 have kp1639 := kp0.wr W1638 (own_i0)
 have Fw1638 := (FC).same W1638
 have N1638 := Fr.snoc X1638 N1634 g1
 refine own_stp 84 st1638 (own_aln X1638 q d22_84 rfl rfl (own_aln X1638 q d22_85 rfl rfl (own_k X1638 q d22_86 (own_il X1638 q d22_87 rfl (own_k X1638 q d22_89 (own_stp 91 (fun _ k => XS.ishl X1638.here hx rfl (q.d d22_90) rfl k) ?_))))))
 rw [show ((4 : Int32) <<< ((1 : Int32) &&& 31)) = (8 : Int32) from by decide]
 refine own_cSh X1638 q hZ e1638 hown hml (W 157 rfl) (W 158 rfl) (W 159 rfl) (W 160 rfl) (rm27_U4 l Z a0 hw v0 k0 y0 y1 y2 y3 y4 y5 y6 y7 h1638 n0 zs1639 (VV.other W1638 (Ne.symm n1v))) d22_91 [(.ref v0), v'0, v'8] [(.ref a1)] own_pd12 1 (by decide) (fun v1640 T1640 L1640 h1640 e1640' X1640 hQ1640 => ?_)
 obtain ⟨b1640, k1640, rfl, N1640q, E1640, lo1640, V1640⟩ := hQ1640
 have N1640 := Fr.app N1638 N1640q
 have kp1641 := kp1639.ext E1640
 have sz_b1640 : h0.size ≤ b1640 := Nat.le_trans kp1639.1 lo1640
 refine own_nv ?_
 refine own_let ?_; intro g1642_
 obtain ⟨T1643, h1643, X1643, e1643, W1643, st1643⟩ := putF X1640 hx hZ hown (host := "") (Or.inl (W 26 rfl)) Via.refl e1640' ((FV.other W1638 (Or.inr (slot_ne (Or.inr (W 22 rfl)) (Or.inr (W 23 rfl)) (by decide) (t := (.array .byte)) (t' := .byte) (by decide) (by decide)))).ext E1640) ((E1.wr W1638).ext E1640) (Or.inr ⟨(W 22 rfl), rfl, hnm⟩) (W 7 rfl) (ty := (.array .byte)) (by decide) rfl rfl (g := g1642_) rfl rfl (q.d d22_94)
 have kp1644 := kp1641.wr W1643 (own_i0)
 have Fw1643 := (((FV.other W1638 (Or.inr (slot_ne (Or.inr (W 22 rfl)) (Or.inr (W 23 rfl)) (by decide) (t := (.array .byte)) (t' := .byte) (by decide) (by decide)))).ext E1640)).same W1643
 have N1643 := Fr.snoc X1643 N1640 g1
 refine own_stp 97 st1643 ?_
 refine own_rV X1643 q hrt d22_97 hlk (by decide) ?_
 show QSVU4 Z a1 y0 y1 y2 y3 y4 y5 y6 y7 h0 n0 _ T1643.heap _
 rw [e1643]
 exact ⟨_, _, rfl, N1643, kp1644, sz_b1640, ((Fw1638.ext E1640).other W1643 (Or.inr (slot_ne (Or.inr (W 23 rfl)) (Or.inr (W 22 rfl)) (by decide) (t := .byte) (t' := (.array .byte)) (by decide) (by decide)))), Fw1643, (V1640.other W1643 (Ne.symm (own_ne ((E1.wr W1638)).lt lo1640)))⟩
theorem rm21_U4 (l : Launch) (Z : State) (a0 : Array Value) (hw : own_hw a0 Z) (a1 : Addr) (a2 : Addr) (v0 : Addr) (k0 : ClassId) (y0 y1 y2 y3 y4 y5 y6 y7 : Int32) (cs0 : Int32) (h0 : Heap) (n0 : Nat) (Z0 : n0 ≤ h0.size) (O0 : Old Z n0 h0) (SC_ : own_SC Z cs0) (E1 : Exa Z h0 a1 "java/lang/String") (FC : F'0 Z h0 a1 v'0) (FV : F'1 Z h0 a1 .null) (EB : Exa Z h0 a2 "java/lang/StringBuilder") (G0 : F'3 Z h0 a2 (.ref v0)) (G1 : F'2 Z h0 a2 v'1) (G2 : F'4 Z h0 a2 v'4) (G3 : F'5 Z h0 a2 v'0) (VV : Arv Z h0 v0 k0 .byte (32 : Int32) [(.int y0), (.int y1), (.int y2), (.int y3), (.int y4), (.int y5), (.int y6), (.int y7), v'0, v'0, v'0, v'0, v'0, v'0, v'0, v'0, v'0, v'0, v'0, v'0, v'0, v'0, v'0, v'0, v'0, v'0, v'0, v'0, v'0, v'0, v'0, v'0] v'0) (g1 : n0 ≤ a1) (n12 : a1 ≠ a2) (n1v : a1 ≠ v0) :
  own_M l Z [] own_y36 b'21 2 none ⟨4, 1, 8, 65⟩ #[(.ref a1), (.ref a2)] h0 (QSVU4 Z a1 y0 y1 y2 y3 y4 y5 y6 y7 h0 n0) := by
 obtain ⟨SCS, hcs⟩ := SC_
 refine own_start (n0 := n0) hw "java/lang/String" (L := #[.val (.ref a1), .val (.ref a2)]) pn_21 (fun {p e s m below meth c s₁} q hx W hml hZ hown hnm hlk hrt X0 e0 N0 => ?_)
 have kp0 := Keep.refl h0 [a1]
 refine own_aln X0 q d21_0 rfl rfl (own_aln X0 q d21_1 rfl rfl (own_nl X0 q d21_2 ?_))
 refine own_cIh (a := a1) X0 q hZ e0 hown hml (W 136 rfl) (W 137 rfl) (W 8 rfl) (W 138 rfl) (rm22_U4 l Z a0 hw a1 a2 v0 k0 y0 y1 y2 y3 y4 y5 y6 y7 cs0 h0 n0 Z0 O0 ⟨SCS, hcs⟩ E1 FC FV EB G0 G1 G2 G3 VV g1 n12 n1v) d21_3 [(.ref a2), .null] [] own_pd26 0 rfl (by decide) (fun v1647 T1647 L1647 h1647 e1647' X1647 hQ1647 => ?_)
 obtain ⟨t1647, k1647, rfl, N1647q, K1647, lo1647, Fc1647, Fv1647, V1647⟩ := hQ1647
 have N1647 := Fr.app N0 N1647q
 have kp1648 := kp0.trans K1647 (allS (own_i0) all0)
 have sz_t1647 : h0.size ≤ t1647 := Nat.le_trans kp0.1 lo1647
 refine own_nn ?_
 refine own_rV X1647 q hrt d21_6 hlk (by decide) ?_
 show QSVU4 Z a1 y0 y1 y2 y3 y4 y5 y6 y7 h0 n0 _ T1647.heap _
 rw [e1647']
 exact ⟨_, _, rfl, N1647, kp1648, sz_t1647, Fc1647, Fv1647, V1647⟩
theorem rm20_U4 (l : Launch) (Z : State) (a0 : Array Value) (hw : own_hw a0 Z) (a1 : Addr) (v0 : Addr) (k0 : ClassId) (y0 y1 y2 y3 y4 y5 y6 y7 : Int32) (cs0 : Int32) (h0 : Heap) (n0 : Nat) (Z0 : n0 ≤ h0.size) (O0 : Old Z n0 h0) (SC_ : own_SC Z cs0) (EB : Exa Z h0 a1 "java/lang/StringBuilder") (G0 : F'3 Z h0 a1 (.ref v0)) (G1 : F'2 Z h0 a1 v'1) (G2 : F'4 Z h0 a1 v'4) (G3 : F'5 Z h0 a1 v'0) (VV : Arv Z h0 v0 k0 .byte (32 : Int32) [(.int y0), (.int y1), (.int y2), (.int y3), (.int y4), (.int y5), (.int y6), (.int y7), v'0, v'0, v'0, v'0, v'0, v'0, v'0, v'0, v'0, v'0, v'0, v'0, v'0, v'0, v'0, v'0, v'0, v'0, v'0, v'0, v'0, v'0, v'0, v'0] v'0) :
  own_M l Z [] own_y37 b'20 1 (some (.object "java/lang/String")) ⟨5, 2, 12, 79⟩ #[(.ref a1)] h0 (QTSU4 Z y0 y1 y2 y3 y4 y5 y6 y7 h0 n0) := by
 obtain ⟨SCS, hcs⟩ := SC_
 refine own_start (n0 := n0) hw "java/lang/StringBuilder" (L := #[.val (.ref a1)]) pn_20 (fun {p e s m below meth c s₁} q hx W hml hZ hown hnm hlk hrt X0 e0 N0 => ?_)
 have kp0 := Keep.refl h0 []
 refine own_let ?_; intro g1654_
 obtain ⟨T1655, h1655, X1655, e1655, E1655, A1655, D1655, -, st1655⟩ := newO X0 hx hZ hown (W 132 rfl) (W 7 rfl) (W 8 rfl) e0 (g := g1654_) rfl (q.d d20_0) (by decide) (by decide)
 obtain ⟨b1655, g1655⟩ : ∃ z, z = h0.size := ⟨_, rfl⟩
 rw [← g1655] at A1655 D1655 st1655
 have zs1656 := Nat.le_trans Z0 E1655.1
 have od1656 := O0.ext E1655
 have kp1656 := kp0.ext E1655
 have g_b1655 : n0 ≤ b1655 := Nat.le_trans Z0 (Nat.le_of_eq g1655.symm)
 have sz_b1655 : h0.size ≤ b1655 := Nat.le_trans kp0.1 (Nat.le_of_eq g1655.symm)
 have F1655_value : F'1 Z h1655 b1655 .null := D1655 (Or.inr (W 22 rfl)) (ty := (.array .byte)) (by decide)
 have F1655_coder : F'0 Z h1655 b1655 v'0 := D1655 (Or.inr (W 23 rfl)) (ty := .byte) (by decide)
 refine own_stq 3 [(.ref b1655)] st1655 (own_dp X1655 q d20_3 rfl (own_aln X1655 q d20_4 rfl rfl ?_))
 refine own_cIh (a := b1655) X1655 q hZ e1655 hown hml (W 133 rfl) (W 134 rfl) (W 8 rfl) (W 135 rfl) (rm21_U4 l Z a0 hw b1655 a1 v0 k0 y0 y1 y2 y3 y4 y5 y6 y7 cs0 h1655 n0 zs1656 od1656 ⟨SCS, hcs⟩ A1655 F1655_coder F1655_value (EB.ext E1655) (G0.ext E1655) (G1.ext E1655) (G2.ext E1655) (G3.ext E1655) (VV.ext E1655) g_b1655 (Ne.symm (own_ne (EB).lt (Nat.le_of_eq g1655.symm))) (Ne.symm (own_ne (VV).lt (Nat.le_of_eq g1655.symm)))) d20_5 [(.ref a1)] [(.ref b1655)] own_pd27 1 rfl (by decide) (fun v1657 T1657 L1657 h1657 e1657' X1657 hQ1657 => ?_)
 obtain ⟨t1657, k1657, rfl, N1657q, K1657, lo1657, Fc1657, Fv1657, V1657⟩ := hQ1657
 have N1657 := Fr.app N0 N1657q
 have kp1658 := kp1656.trans K1657 (allS (Or.inr sz_b1655) all0)
 have sz_t1657 : h0.size ≤ t1657 := Nat.le_trans kp1656.1 lo1657
 refine own_nn ?_
 refine own_rA X1657 q hrt d20_8 hlk (by decide) ?_
 show QTSU4 Z y0 y1 y2 y3 y4 y5 y6 y7 h0 n0 _ T1657.heap _
 rw [e1657']
 exact ⟨_, _, _, rfl, N1657, own_extK kp1658, sz_b1655, sz_t1657, (A1655.keep K1657), Fc1657, Fv1657, V1657⟩
theorem d6_0 : own_D b'6 0 (.aload_n 0) 1 1 := by decide +kernel
theorem d6_1 : own_D b'6 1 (.invokespecial 1) 3 4 := by decide +kernel
theorem d6_4 : own_D b'6 4 (.aload_n 0) 1 5 := by decide +kernel
theorem d6_5 : own_D b'6 5 (.aload_n 1) 1 6 := by decide +kernel
theorem d6_6 : own_D b'6 6 (.putfield 7) 3 9 := by decide +kernel
theorem d6_9 : own_D b'6 9 (.aload_n 0) 1 10 := by decide +kernel
theorem d6_10 : own_D b'6 10 (.aload_n 2) 1 11 := by decide +kernel
theorem d6_11 : own_D b'6 11 (.putfield 13) 3 14 := by decide +kernel
theorem d6_14 : own_D b'6 14 (.aload_n 0) 1 15 := by decide +kernel
theorem d6_15 : own_D b'6 15 (.aload_n 3) 1 16 := by decide +kernel
theorem d6_16 : own_D b'6 16 (.putfield 16) 3 19 := by decide +kernel
theorem d6_19 : own_D b'6 19 (.aload_n 0) 1 20 := by decide +kernel
theorem d6_20 : own_D b'6 20 (.aload 4) 2 22 := by decide +kernel
theorem d6_22 : own_D b'6 22 (.putfield 19) 3 25 := by decide +kernel
theorem d6_25 : own_D b'6 25 .return_ 1 26 := by decide +kernel
theorem pn_6 : plainFor (⟨"com/example/wolf_spider/wolfspider/Url", "<init>", "(Ljava/lang/String;Ljava/lang/String;Ljava/lang/String;Ljava/lang/String;)V"⟩ : MethodName) = true := plainFor_of_name (by first | (simp [plainName, overriddenIn]; done) | decide +kernel)
theorem rm6 (l : Launch) (Z : State) (a0 : Array Value) (hw : own_hw a0 Z) (a1 : Addr) (a4 : Addr)  (h0 : Heap) (n0 : Nat) (Z0 : n0 ≤ h0.size) (E1 : Exa Z h0 a1 "com/example/wolf_spider/wolfspider/Url") (F_0 : F'8 Z h0 a1 .null) (F_1 : F'9 Z h0 a1 .null) (F_2 : F'6 Z h0 a1 .null) (F_3 : F'7 Z h0 a1 .null) (g1 : n0 ≤ a1) :
  own_M l Z [] own_y38 b'6 5 none ⟨1, 0, 0, 12⟩ #[(.ref a1), .null, .null, (.ref a4), .null] h0 (QC6 Z a1 a4 h0 n0) := by
 refine own_start (n0 := n0) hw "com/example/wolf_spider/wolfspider/Url" (L := #[.val (.ref a1), .val .null, .val .null, .val (.ref a4), .val .null]) pn_6 (fun {p e s m below meth c s₁} q hx W hml hZ hown hnm hlk hrt X0 e0 N0 => ?_)
 have kp0 := Keep.refl h0 [a1]
 refine own_aln X0 q d6_0 rfl rfl ?_
 refine own_let ?_; intro g1673_
 obtain ⟨T1674, X1674, e1674, st1674⟩ := initO X0 hx hZ hown (W 37 rfl) (W 18 rfl) (W 19 rfl) e0 (g := g1673_) rfl (by rw [hml]; rfl) rfl (q.d d6_1) (by decide) (W := 0) (by show 2 * 0 + _ ≤ _; exact Nat.le_of_eq rfl) (by decide)
 refine own_stp 4 st1674 (own_aln X1674 q d6_4 rfl rfl (own_aln X1674 q d6_5 rfl rfl ?_))
 refine own_let ?_; intro g1675_
 obtain ⟨T1676, h1676, X1676, e1676, W1676, st1676⟩ := putF X1674 hx hZ hown (host := "") (Or.inl (W 38 rfl)) Via.refl e1674 F_0 E1 (Or.inr ⟨(W 39 rfl), rfl, hnm⟩) (W 33 rfl) (ty := (.object "java/lang/String")) (by decide) rfl rfl (g := g1675_) rfl rfl (q.d d6_6)
 have kp1677 := kp0.wr W1676 (own_i0)
 have Fw1676 := (F_0).same W1676
 have N1676 := Fr.snoc X1676 N0 g1
 refine own_stp 9 st1676 (own_aln X1676 q d6_9 rfl rfl (own_aln X1676 q d6_10 rfl rfl ?_))
 refine own_let ?_; intro g1678_
 obtain ⟨T1679, h1679, X1679, e1679, W1679, st1679⟩ := putF X1676 hx hZ hown (host := "") (Or.inl (W 40 rfl)) Via.refl e1676 (F_1.other W1676 (Or.inr (slot_ne (Or.inr (W 41 rfl)) (Or.inr (W 39 rfl)) (by decide) (t := (.object "java/lang/String")) (t' := (.object "java/lang/String")) (by decide) (by decide)))) (E1.wr W1676) (Or.inr ⟨(W 41 rfl), rfl, hnm⟩) (W 33 rfl) (ty := (.object "java/lang/String")) (by decide) rfl rfl (g := g1678_) rfl rfl (q.d d6_11)
 have kp1680 := kp1677.wr W1679 (own_i0)
 have Fw1679 := ((F_1.other W1676 (Or.inr (slot_ne (Or.inr (W 41 rfl)) (Or.inr (W 39 rfl)) (by decide) (t := (.object "java/lang/String")) (t' := (.object "java/lang/String")) (by decide) (by decide))))).same W1679
 have N1679 := Fr.snoc X1679 N1676 g1
 refine own_stp 14 st1679 (own_aln X1679 q d6_14 rfl rfl (own_aln X1679 q d6_15 rfl rfl ?_))
 refine own_let ?_; intro g1681_
 obtain ⟨T1682, h1682, X1682, e1682, W1682, st1682⟩ := putF X1679 hx hZ hown (host := "") (Or.inl (W 42 rfl)) Via.refl e1679 ((F_2.other W1676 (Or.inr (slot_ne (Or.inr (W 43 rfl)) (Or.inr (W 39 rfl)) (by decide) (t := (.object "java/lang/String")) (t' := (.object "java/lang/String")) (by decide) (by decide)))).other W1679 (Or.inr (slot_ne (Or.inr (W 43 rfl)) (Or.inr (W 41 rfl)) (by decide) (t := (.object "java/lang/String")) (t' := (.object "java/lang/String")) (by decide) (by decide)))) ((E1.wr W1676).wr W1679) (Or.inr ⟨(W 43 rfl), rfl, hnm⟩) (W 33 rfl) (ty := (.object "java/lang/String")) (by decide) rfl rfl (g := g1681_) rfl rfl (q.d d6_16)
 have kp1683 := kp1680.wr W1682 (own_i0)
 have Fw1682 := (((F_2.other W1676 (Or.inr (slot_ne (Or.inr (W 43 rfl)) (Or.inr (W 39 rfl)) (by decide) (t := (.object "java/lang/String")) (t' := (.object "java/lang/String")) (by decide) (by decide)))).other W1679 (Or.inr (slot_ne (Or.inr (W 43 rfl)) (Or.inr (W 41 rfl)) (by decide) (t := (.object "java/lang/String")) (t' := (.object "java/lang/String")) (by decide) (by decide))))).same W1682
 have N1682 := Fr.snoc X1682 N1679 g1
 refine own_stp 19 st1682 (own_aln X1682 q d6_19 rfl rfl (own_al X1682 q d6_20 rfl rfl ?_))
 refine own_let ?_; intro g1684_
 obtain ⟨T1685, h1685, X1685, e1685, W1685, st1685⟩ := putF X1682 hx hZ hown (host := "") (Or.inl (W 44 rfl)) Via.refl e1682 (((F_3.other W1676 (Or.inr (slot_ne (Or.inr (W 45 rfl)) (Or.inr (W 39 rfl)) (by decide) (t := (.object "java/lang/String")) (t' := (.object "java/lang/String")) (by decide) (by decide)))).other W1679 (Or.inr (slot_ne (Or.inr (W 45 rfl)) (Or.inr (W 41 rfl)) (by decide) (t := (.object "java/lang/String")) (t' := (.object "java/lang/String")) (by decide) (by decide)))).other W1682 (Or.inr (slot_ne (Or.inr (W 45 rfl)) (Or.inr (W 43 rfl)) (by decide) (t := (.object "java/lang/String")) (t' := (.object "java/lang/String")) (by decide) (by decide)))) (((E1.wr W1676).wr W1679).wr W1682) (Or.inr ⟨(W 45 rfl), rfl, hnm⟩) (W 33 rfl) (ty := (.object "java/lang/String")) (by decide) rfl rfl (g := g1684_) rfl rfl (q.d d6_22)
 have kp1686 := kp1683.wr W1685 (own_i0)
 have Fw1685 := ((((F_3.other W1676 (Or.inr (slot_ne (Or.inr (W 45 rfl)) (Or.inr (W 39 rfl)) (by decide) (t := (.object "java/lang/String")) (t' := (.object "java/lang/String")) (by decide) (by decide)))).other W1679 (Or.inr (slot_ne (Or.inr (W 45 rfl)) (Or.inr (W 41 rfl)) (by decide) (t := (.object "java/lang/String")) (t' := (.object "java/lang/String")) (by decide) (by decide)))).other W1682 (Or.inr (slot_ne (Or.inr (W 45 rfl)) (Or.inr (W 43 rfl)) (by decide) (t := (.object "java/lang/String")) (t' := (.object "java/lang/String")) (by decide) (by decide))))).same W1685
 have N1685 := Fr.snoc X1685 N1682 g1
 refine own_stp 25 st1685 ?_
 refine own_rV X1685 q hrt d6_25 hlk (by decide) ?_
 show QC6 Z a1 a4 h0 n0 _ T1685.heap _
 rw [e1685]
 exact ⟨rfl, N1685, kp1686, (((Fw1676.other W1679 (Or.inr (slot_ne (Or.inr (W 39 rfl)) (Or.inr (W 41 rfl)) (by decide) (t := (.object "java/lang/String")) (t' := (.object "java/lang/String")) (by decide) (by decide)))).other W1682 (Or.inr (slot_ne (Or.inr (W 39 rfl)) (Or.inr (W 43 rfl)) (by decide) (t := (.object "java/lang/String")) (t' := (.object "java/lang/String")) (by decide) (by decide)))).other W1685 (Or.inr (slot_ne (Or.inr (W 39 rfl)) (Or.inr (W 45 rfl)) (by decide) (t := (.object "java/lang/String")) (t' := (.object "java/lang/String")) (by decide) (by decide)))), ((Fw1679.other W1682 (Or.inr (slot_ne (Or.inr (W 41 rfl)) (Or.inr (W 43 rfl)) (by decide) (t := (.object "java/lang/String")) (t' := (.object "java/lang/String")) (by decide) (by decide)))).other W1685 (Or.inr (slot_ne (Or.inr (W 41 rfl)) (Or.inr (W 45 rfl)) (by decide) (t := (.object "java/lang/String")) (t' := (.object "java/lang/String")) (by decide) (by decide)))), (Fw1682.other W1685 (Or.inr (slot_ne (Or.inr (W 43 rfl)) (Or.inr (W 45 rfl)) (by decide) (t := (.object "java/lang/String")) (t' := (.object "java/lang/String")) (by decide) (by decide)))), Fw1685⟩
theorem d5_0 : own_D b'5 0 (.new 8) 3 3 := by decide +kernel
theorem d5_3 : own_D b'5 3 .dup 1 4 := by decide +kernel
theorem d5_4 : own_D b'5 4 .aconst_null 1 5 := by decide +kernel
theorem d5_5 : own_D b'5 5 .aconst_null 1 6 := by decide +kernel
theorem d5_6 : own_D b'5 6 (.aload_n 0) 1 7 := by decide +kernel
theorem d5_7 : own_D b'5 7 .aconst_null 1 8 := by decide +kernel
theorem d5_8 : own_D b'5 8 (.invokespecial 85) 3 11 := by decide +kernel
theorem d5_11 : own_D b'5 11 .areturn 1 12 := by decide +kernel
theorem pn_5 : plainFor (⟨"com/example/wolf_spider/wolfspider/Url", "ofPath", "(Ljava/lang/String;)Lcom/example/wolf_spider/wolfspider/Url;"⟩ : MethodName) = true := plainFor_of_name (by first | (simp [plainName, overriddenIn]; done) | decide +kernel)
theorem rm5 (l : Launch) (Z : State) (a0 : Array Value) (hw : own_hw a0 Z) (a1 : Addr)  (h0 : Heap) (n0 : Nat) (Z0 : n0 ≤ h0.size) :
  own_M l Z [] own_y39 b'5 1 (some (.object "com/example/wolf_spider/wolfspider/Url")) ⟨2, 1, 4, 29⟩ #[(.ref a1)] h0 (QOP Z a1 h0 n0) := by
 refine own_start (n0 := n0) hw "com/example/wolf_spider/wolfspider/Url" (L := #[.val (.ref a1)]) pn_5 (fun {p e s m below meth c s₁} q hx W hml hZ hown hnm hlk hrt X0 e0 N0 => ?_)
 have kp0 := Keep.refl h0 []
 refine own_let ?_; intro g1692_
 obtain ⟨T1693, h1693, X1693, e1693, E1693, A1693, D1693, -, st1693⟩ := newO X0 hx hZ hown (W 32 rfl) (W 33 rfl) (W 30 rfl) e0 (g := g1692_) rfl (q.d d5_0) (by decide) (by decide)
 obtain ⟨b1693, g1693⟩ : ∃ z, z = h0.size := ⟨_, rfl⟩
 rw [← g1693] at A1693 D1693 st1693
 have zs1694 := Nat.le_trans Z0 E1693.1
 have kp1694 := kp0.ext E1693
 have g_b1693 : n0 ≤ b1693 := Nat.le_trans Z0 (Nat.le_of_eq g1693.symm)
 have sz_b1693 : h0.size ≤ b1693 := Nat.le_trans kp0.1 (Nat.le_of_eq g1693.symm)
 have F1693_scheme : F'8 Z h1693 b1693 .null := D1693 (Or.inr (W 39 rfl)) (ty := (.object "java/lang/String")) (by decide)
 have F1693_authority : F'9 Z h1693 b1693 .null := D1693 (Or.inr (W 41 rfl)) (ty := (.object "java/lang/String")) (by decide)
 have F1693_path : F'6 Z h1693 b1693 .null := D1693 (Or.inr (W 43 rfl)) (ty := (.object "java/lang/String")) (by decide)
 have F1693_query : F'7 Z h1693 b1693 .null := D1693 (Or.inr (W 45 rfl)) (ty := (.object "java/lang/String")) (by decide)
 refine own_stq 3 [(.ref b1693)] st1693 (own_dp X1693 q d5_3 rfl (own_nl X1693 q d5_4 (own_nl X1693 q d5_5 (own_aln X1693 q d5_6 rfl rfl (own_nl X1693 q d5_7 ?_)))))
 refine own_cIh (a := b1693) X1693 q hZ e1693 hown hml (W 34 rfl) (W 35 rfl) (W 30 rfl) (W 36 rfl) (rm6 l Z a0 hw b1693 a1  h1693 n0 zs1694  A1693 F1693_scheme F1693_authority F1693_path F1693_query g_b1693  ) d5_8 [.null, .null, (.ref a1), .null] [(.ref b1693)] own_pd28 1 rfl (by decide) (fun v1695 T1695 L1695 h1695 e1695' X1695 hQ1695 => ?_)
 obtain ⟨rfl, N1695q, K1695, F1695_0, F1695_1, F1695_2, F1695_3⟩ := hQ1695
 have N1695 := Fr.app N0 N1695q
 have kp1696 := kp1694.trans K1695 (allS (Or.inr sz_b1693) all0)
 refine own_nn ?_
 refine own_rA X1695 q hrt d5_11 hlk (by decide) ?_
 show QOP Z a1 h0 n0 _ T1695.heap _
 rw [e1695']
 exact ⟨_, rfl, N1695, own_extK kp1696, sz_b1693, (A1693.keep K1695), F1695_0, F1695_1, F1695_2, F1695_3⟩
theorem d7_0 : own_D b'7 0 (.aload_n 0) 1 1 := by decide +kernel
theorem d7_1 : own_D b'7 1 (.getfield 16) 3 4 := by decide +kernel
theorem d7_4 : own_D b'7 4 .areturn 1 5 := by decide +kernel
theorem pn_7 : plainFor (⟨"com/example/wolf_spider/wolfspider/Url", "path", "()Ljava/lang/String;"⟩ : MethodName) = true := plainFor_of_name (by first | (simp [plainName, overriddenIn]; done) | decide +kernel)
theorem rm7 (l : Launch) (Z : State) (a0 : Array Value) (hw : own_hw a0 Z) (a1 : Addr) (a2 : Addr) (h0 : Heap) (n0 : Nat) (Z0 : n0 ≤ h0.size) (U2 : F'6 Z h0 a1 (.ref a2)) (U3 : F'7 Z h0 a1 .null) :
  own_M l Z [] own_y40 b'7 1 (some (.object "java/lang/String")) ⟨0, 0, 0, 0⟩ #[(.ref a1)] h0 (QR (.ref a2) h0 n0) := by
 refine own_start (n0 := n0) hw "com/example/wolf_spider/wolfspider/Url" (L := #[.val (.ref a1)]) pn_7 (fun {p e s m below meth c s₁} q hx W hml hZ hown hnm hlk hrt X0 e0 N0 => ?_)
 refine own_aln X0 q d7_0 rfl rfl ?_
 refine own_gF X0 q hZ e0 hown (W 42 rfl) U2 d7_1 fun T1698 X1698 e1698 => ?_
 refine own_rA X1698 q hrt d7_4 hlk (by decide) ?_
 show QR (.ref a2) h0 n0 _ T1698.heap _
 rw [e1698]
 exact ⟨rfl, N0, rfl⟩
theorem d32_0 : own_D b'32 0 (.aload_n 0) 1 1 := by decide +kernel
theorem d32_1 : own_D b'32 1 (.getfield 19) 3 4 := by decide +kernel
theorem d32_4 : own_D b'32 4 (.ifnonnull 10) 3 7 := by decide +kernel
theorem d32_7 : own_D b'32 7 (.aload_n 0) 1 8 := by decide +kernel
theorem d32_8 : own_D b'32 8 (.getfield 16) 3 11 := by decide +kernel
theorem d32_11 : own_DG b'32 11 27 := by decide +kernel
theorem d32_27 : own_D b'32 27 .areturn 1 28 := by decide +kernel
theorem pn_32 : plainFor (⟨"com/example/wolf_spider/wolfspider/Url", "pathAndQuery", "()Ljava/lang/String;"⟩ : MethodName) = true := plainFor_of_name (by first | (simp [plainName, overriddenIn]; done) | decide +kernel)
theorem rm32 (l : Launch) (Z : State) (a0 : Array Value) (hw : own_hw a0 Z) (a1 : Addr) (a2 : Addr) (h0 : Heap) (n0 : Nat) (Z0 : n0 ≤ h0.size) (U2 : F'6 Z h0 a1 (.ref a2)) (U3 : F'7 Z h0 a1 .null) :
  own_M l Z [] own_y41 b'32 1 (some (.object "java/lang/String")) ⟨0, 0, 0, 0⟩ #[(.ref a1)] h0 (QR (.ref a2) h0 n0) := by
 refine own_start (n0 := n0) hw "com/example/wolf_spider/wolfspider/Url" (L := #[.val (.ref a1)]) pn_32 (fun {p e s m below meth c s₁} q hx W hml hZ hown hnm hlk hrt X0 e0 N0 => ?_)
 refine own_aln X0 q d32_0 rfl rfl ?_
 refine own_gF X0 q hZ e0 hown (W 44 rfl) U3 d32_1 fun T1701 X1701 e1701 => ?_
 refine own_stp 7 (fun _ k => XS.ifnonnullNo X1701.here hx rfl (q.d d32_4) rfl k) (own_aln X1701 q d32_7 rfl rfl ?_)
 refine own_gF X1701 q hZ e1701 hown (W 42 rfl) U2 d32_8 fun T1702 X1702 e1702 => ?_
 refine own_gt X1702 q d32_11 ?_
 refine own_rA X1702 q hrt d32_27 hlk (by decide) ?_
 show QR (.ref a2) h0 n0 _ T1702.heap _
 rw [e1702]
 exact ⟨rfl, N0, rfl⟩
theorem d9_0 : own_D b'9 0 (.new 105) 3 3 := by decide +kernel
theorem d9_3 : own_D b'9 3 .dup 1 4 := by decide +kernel
theorem d9_4 : own_D b'9 4 (.invokespecial 107) 3 7 := by decide +kernel
theorem d9_7 : own_D b'9 7 (.astore_n 1) 1 8 := by decide +kernel
theorem d9_8 : own_D b'9 8 (.aload_n 0) 1 9 := by decide +kernel
theorem d9_9 : own_D b'9 9 (.getfield 7) 3 12 := by decide +kernel
theorem d9_12 : own_D b'9 12 (.ifnull 17) 3 15 := by decide +kernel
theorem d9_29 : own_D b'9 29 (.aload_n 0) 1 30 := by decide +kernel
theorem d9_30 : own_D b'9 30 (.getfield 13) 3 33 := by decide +kernel
theorem d9_33 : own_D b'9 33 (.ifnull 17) 3 36 := by decide +kernel
theorem d9_50 : own_D b'9 50 (.aload_n 1) 1 51 := by decide +kernel
theorem d9_51 : own_D b'9 51 (.aload_n 0) 1 52 := by decide +kernel
theorem d9_52 : own_D b'9 52 (.getfield 16) 3 55 := by decide +kernel
theorem d9_55 : own_D b'9 55 (.invokevirtual 108) 3 58 := by decide +kernel
theorem d9_58 : own_D b'9 58 .pop 1 59 := by decide +kernel
theorem d9_59 : own_D b'9 59 (.aload_n 0) 1 60 := by decide +kernel
theorem d9_60 : own_D b'9 60 (.getfield 19) 3 63 := by decide +kernel
theorem d9_63 : own_D b'9 63 (.ifnull 17) 3 66 := by decide +kernel
theorem d9_80 : own_D b'9 80 (.aload_n 1) 1 81 := by decide +kernel
theorem d9_81 : own_D b'9 81 (.invokevirtual 115) 3 84 := by decide +kernel
theorem d9_84 : own_D b'9 84 .areturn 1 85 := by decide +kernel
theorem pn_9 : plainFor (⟨"com/example/wolf_spider/wolfspider/Url", "toString", "()Ljava/lang/String;"⟩ : MethodName) = true := plainFor_of_name (by first | (simp [plainName, overriddenIn]; done) | decide +kernel)
theorem rm9_L0 (l : Launch) (Z : State) (a0 : Array Value) (hw : own_hw a0 Z) (a1 : Addr) (a2 t : Addr) (ks : ClassId) (cs0 : Int32) (fo : Value) (h0 : Heap) (n0 : Nat) (Z0 : n0 ≤ h0.size) (O0 : Old Z n0 h0) (SC_ : own_SC Z cs0) (SIO : Sta Z Z.heap "jdk/internal/util/Preconditions" "SIOOBE_FORMATTER" "Ljava/util/function/BiFunction;" fo) (hfo : fo.isRef = true) (EU : Exa Z h0 a1 "com/example/wolf_spider/wolfspider/Url") (U0 : F'8 Z h0 a1 .null) (U1 : F'9 Z h0 a1 .null) (U2 : F'6 Z h0 a1 (.ref a2)) (U3 : F'7 Z h0 a1 .null) (ES : Exa Z h0 a2 "java/lang/String") (FC : F'0 Z h0 a2 v'0) (FV : F'1 Z h0 a2 (.ref t)) (VS : Arv Z h0 t ks .byte (0 : Int32) [] v'0) :
  own_M l Z [] own_y42 b'9 2 (some (.object "java/lang/String")) ⟨6, 4, 24, 91⟩ #[(.ref a1)] h0 (QTSL0 Z  h0 n0) := by
 obtain ⟨SCS, hcs⟩ := SC_
 refine own_start (n0 := n0) hw "com/example/wolf_spider/wolfspider/Url" (L := #[.val (.ref a1), .unset]) pn_9 (fun {p e s m below meth c s₁} q hx W hml hZ hown hnm hlk hrt X0 e0 N0 => ?_)
 have kp0 := Keep.refl h0 []
 refine own_let ?_; intro g1716_
 obtain ⟨T1717, h1717, X1717, e1717, E1717, A1717, D1717, -, st1717⟩ := newO X0 hx hZ hown (W 61 rfl) (W 62 rfl) (W 63 rfl) e0 (g := g1716_) rfl (q.d d9_0) (by decide) (by decide)
 obtain ⟨b1717, g1717⟩ : ∃ z, z = h0.size := ⟨_, rfl⟩
 rw [← g1717] at A1717 D1717 st1717
 have zs1718 := Nat.le_trans Z0 E1717.1
 have od1718 := O0.ext E1717
 have kp1718 := kp0.ext E1717
 have g_b1717 : n0 ≤ b1717 := Nat.le_trans Z0 (Nat.le_of_eq g1717.symm)
 have sz_b1717 : h0.size ≤ b1717 := Nat.le_trans kp0.1 (Nat.le_of_eq g1717.symm)
 have F1717_value : F'3 Z h1717 b1717 .null := D1717 (Or.inl (W 76 rfl)) (ty := (.array .byte)) (by decide)
 have F1717_coder : F'2 Z h1717 b1717 v'0 := D1717 (Or.inl (W 78 rfl)) (ty := .byte) (by decide)
 have F1717_count : F'4 Z h1717 b1717 v'0 := D1717 (Or.inl (W 101 rfl)) (ty := .int) (by decide)
 have F1717_maybeLatin1 : F'5 Z h1717 b1717 v'0 := D1717 (Or.inl (W 239 rfl)) (ty := .boolean) (by decide)
 refine own_stq 3 [(.ref b1717)] st1717 (own_dp X1717 q d9_3 rfl ?_)
 refine own_cIh (a := b1717) X1717 q hZ e1717 hown hml (W 64 rfl) (W 65 rfl) (W 63 rfl) (W 66 rfl) (rm10 l Z a0 hw b1717 cs0 h1717 n0 zs1718 od1718 ⟨SCS, hcs⟩ A1717 F1717_value F1717_coder F1717_count F1717_maybeLatin1 g_b1717) d9_4 [] [(.ref b1717)] own_pd20 1 rfl (by decide) (fun v1719 T1719 L1719 h1719 e1719' X1719 hQ1719 => ?_)
 obtain ⟨b1719, k1719, rfl, N1719q, K1719, lo1719, G1719_0, G1719_1, G1719_2, G1719_3, V1719⟩ := hQ1719
 have N1719 := Fr.app N0 N1719q
 have zs1720 := Nat.le_trans zs1718 K1719.1
 have od1720 := od1718.keep K1719 (allS g_b1717 all0)
 have kp1720 := kp1718.trans K1719 (allS (Or.inr sz_b1717) all0)
 have g_b1719 : n0 ≤ b1719 := Nat.le_trans zs1718 lo1719
 have sz_b1719 : h0.size ≤ b1719 := Nat.le_trans kp1718.1 lo1719
 refine own_nn (own_asn X1719 q d9_7 rfl (l' := #[.val (.ref a1), .val (.ref b1717)]) rfl (own_aln X1719 q d9_8 rfl rfl ?_))
 refine own_gF X1719 q hZ e1719' hown (W 38 rfl) ((U0.ext E1717).keep K1719 (ninS (own_ne (EU).lt (Nat.le_of_eq g1717.symm)) nin0)) d9_9 fun T1721 X1721 e1721 => ?_
 refine own_stp 29 (fun _ k => XS.ifnullYes X1721.here hx rfl (pc0 := 12) (pc' := 29) rfl (q.d d9_12) rfl (by decide) (by decide) k) (own_aln X1721 q d9_29 rfl rfl ?_)
 refine own_gF X1721 q hZ e1721 hown (W 40 rfl) ((U1.ext E1717).keep K1719 (ninS (own_ne (EU).lt (Nat.le_of_eq g1717.symm)) nin0)) d9_30 fun T1722 X1722 e1722 => ?_
 refine own_stp 50 (fun _ k => XS.ifnullYes X1722.here hx rfl (pc0 := 33) (pc' := 50) rfl (q.d d9_33) rfl (by decide) (by decide) k) (own_aln X1722 q d9_50 rfl rfl (own_aln X1722 q d9_51 rfl rfl ?_))
 refine own_gF X1722 q hZ e1722 hown (W 42 rfl) ((U2.ext E1717).keep K1719 (ninS (own_ne (EU).lt (Nat.le_of_eq g1717.symm)) nin0)) d9_52 fun T1723 X1723 e1723 => ?_
 refine own_cVh X1723 q hZ e1723 hown hml (W 79 rfl) (W 80 rfl) (W 82 rfl) (W 81 rfl) (W 63 rfl) (W 83 rfl) rfl (A1717.keep K1719) (rm12_L0 l Z a0 hw b1717 a2 b1719 k1719 t ks  cs0 fo h1719 n0 zs1720 od1720 ⟨SCS, hcs⟩ SIO hfo (A1717.keep K1719) G1719_0 G1719_1 G1719_2 G1719_3 V1719 g_b1717 g_b1719 (own_ne (A1717).lt lo1719) ((ES.ext E1717).keep K1719) ((FC.ext E1717).keep K1719 (ninS (own_ne (ES).lt (Nat.le_of_eq g1717.symm)) nin0)) ((FV.ext E1717).keep K1719 (ninS (own_ne (ES).lt (Nat.le_of_eq g1717.symm)) nin0)) ((VS.ext E1717).keep K1719 (ninS (own_ne (VS).lt (Nat.le_of_eq g1717.symm)) nin0)) (Ne.symm (own_ne (ES).lt (Nat.le_of_eq g1717.symm))) (Ne.symm (own_ne ((ES.ext E1717)).lt lo1719)) (Ne.symm (own_ne (VS).lt (Nat.le_of_eq g1717.symm))) (Ne.symm (own_ne ((VS.ext E1717)).lt lo1719))) d9_55 [(.ref a2)] [] own_pd29 0 (by decide) (fun v1724 T1724 L1724 h1724 e1724' X1724 hQ1724 => ?_)
 obtain ⟨b1724, k1724, rfl, N1724q, K1724, gb1724, nb1724, G1724_0, G1724_1, G1724_2, G1724_3, V1724⟩ := hQ1724
 have N1724 := Fr.app N1719 N1724q
 have zs1725 := Nat.le_trans zs1720 K1724.1
 have od1725 := od1720.keep K1724 (allS g_b1717 (allS g_b1719 all0))
 have kp1725 := kp1720.trans K1724 (allS (Or.inr sz_b1717) (allS (Or.inr sz_b1719) all0))
 refine own_nv (own_stp 59 (fun _ k => XS.pop X1724.here hx rfl (q.d d9_58) rfl rfl k) (own_aln X1724 q d9_59 rfl rfl ?_))
 refine own_gF X1724 q hZ e1724' hown (W 44 rfl) (((U3.ext E1717).keep K1719 (ninS (own_ne (EU).lt (Nat.le_of_eq g1717.symm)) nin0)).keep K1724 (ninS (own_ne (EU).lt (Nat.le_of_eq g1717.symm)) (ninS (own_ne ((EU.ext E1717)).lt lo1719) nin0))) d9_60 fun T1726 X1726 e1726 => ?_
 refine own_stp 80 (fun _ k => XS.ifnullYes X1726.here hx rfl (pc0 := 63) (pc' := 80) rfl (q.d d9_63) rfl (by decide) (by decide) k) (own_aln X1726 q d9_80 rfl rfl ?_)
 refine own_cVh X1726 q hZ e1726 hown hml (W 127 rfl) (W 128 rfl) (W 130 rfl) (W 129 rfl) (W 63 rfl) (W 131 rfl) rfl ((A1717.keep K1719).keep K1724) (rm20_L0 l Z a0 hw b1717 b1724 k1724  cs0 h1724 n0 zs1725 od1725 ⟨SCS, hcs⟩ ((A1717.keep K1719).keep K1724) G1724_0 G1724_1 G1724_2 G1724_3 V1724) d9_81 [] [] own_pd30 0 (by decide) (fun v1727 T1727 L1727 h1727 e1727' X1727 hQ1727 => ?_)
 obtain ⟨x1727, t1727, k1727, rfl, N1727q, E1727, lo1727, lt1727, Ex1727, Fc1727, Fv1727, V1727⟩ := hQ1727
 have N1727 := Fr.app N1724 N1727q
 have kp1728 := kp1725.ext E1727
 have sz_x1727 : h0.size ≤ x1727 := Nat.le_trans kp1725.1 lo1727
 have sz_t1727 : h0.size ≤ t1727 := Nat.le_trans kp1725.1 lt1727
 refine own_nv ?_
 refine own_rA X1727 q hrt d9_84 hlk (by decide) ?_
 show QTSL0 Z  h0 n0 _ T1727.heap _
 rw [e1727']
 exact ⟨_, _, _, rfl, N1727, own_extK kp1728, sz_x1727, sz_t1727, Ex1727, Fc1727, Fv1727, V1727⟩
theorem rm9_L1 (l : Launch) (Z : State) (a0 : Array Value) (hw : own_hw a0 Z) (a1 : Addr) (a2 t : Addr) (ks : ClassId) (y0 : Int32) (cs0 : Int32) (fo : Value) (h0 : Heap) (n0 : Nat) (Z0 : n0 ≤ h0.size) (O0 : Old Z n0 h0) (SC_ : own_SC Z cs0) (SIO : Sta Z Z.heap "jdk/internal/util/Preconditions" "SIOOBE_FORMATTER" "Ljava/util/function/BiFunction;" fo) (hfo : fo.isRef = true) (EU : Exa Z h0 a1 "com/example/wolf_spider/wolfspider/Url") (U0 : F'8 Z h0 a1 .null) (U1 : F'9 Z h0 a1 .null) (U2 : F'6 Z h0 a1 (.ref a2)) (U3 : F'7 Z h0 a1 .null) (ES : Exa Z h0 a2 "java/lang/String") (FC : F'0 Z h0 a2 v'0) (FV : F'1 Z h0 a2 (.ref t)) (VS : Arv Z h0 t ks .byte (1 : Int32) [(.int y0)] v'0) :
  own_M l Z [] own_y42 b'9 2 (some (.object "java/lang/String")) ⟨6, 4, 25, 91⟩ #[(.ref a1)] h0 (QTSL1 Z y0 h0 n0) := by
 obtain ⟨SCS, hcs⟩ := SC_
 refine own_start (n0 := n0) hw "com/example/wolf_spider/wolfspider/Url" (L := #[.val (.ref a1), .unset]) pn_9 (fun {p e s m below meth c s₁} q hx W hml hZ hown hnm hlk hrt X0 e0 N0 => ?_)
 have kp0 := Keep.refl h0 []
 refine own_let ?_; intro g1742_
 obtain ⟨T1743, h1743, X1743, e1743, E1743, A1743, D1743, -, st1743⟩ := newO X0 hx hZ hown (W 61 rfl) (W 62 rfl) (W 63 rfl) e0 (g := g1742_) rfl (q.d d9_0) (by decide) (by decide)
 obtain ⟨b1743, g1743⟩ : ∃ z, z = h0.size := ⟨_, rfl⟩
 rw [← g1743] at A1743 D1743 st1743
 have zs1744 := Nat.le_trans Z0 E1743.1
 have od1744 := O0.ext E1743
 have kp1744 := kp0.ext E1743
 have g_b1743 : n0 ≤ b1743 := Nat.le_trans Z0 (Nat.le_of_eq g1743.symm)
 have sz_b1743 : h0.size ≤ b1743 := Nat.le_trans kp0.1 (Nat.le_of_eq g1743.symm)
 have F1743_value : F'3 Z h1743 b1743 .null := D1743 (Or.inl (W 76 rfl)) (ty := (.array .byte)) (by decide)
 have F1743_coder : F'2 Z h1743 b1743 v'0 := D1743 (Or.inl (W 78 rfl)) (ty := .byte) (by decide)
 have F1743_count : F'4 Z h1743 b1743 v'0 := D1743 (Or.inl (W 101 rfl)) (ty := .int) (by decide)
 have F1743_maybeLatin1 : F'5 Z h1743 b1743 v'0 := D1743 (Or.inl (W 239 rfl)) (ty := .boolean) (by decide)
 refine own_stq 3 [(.ref b1743)] st1743 (own_dp X1743 q d9_3 rfl ?_)
 refine own_cIh (a := b1743) X1743 q hZ e1743 hown hml (W 64 rfl) (W 65 rfl) (W 63 rfl) (W 66 rfl) (rm10 l Z a0 hw b1743 cs0 h1743 n0 zs1744 od1744 ⟨SCS, hcs⟩ A1743 F1743_value F1743_coder F1743_count F1743_maybeLatin1 g_b1743) d9_4 [] [(.ref b1743)] own_pd20 1 rfl (by decide) (fun v1745 T1745 L1745 h1745 e1745' X1745 hQ1745 => ?_)
 obtain ⟨b1745, k1745, rfl, N1745q, K1745, lo1745, G1745_0, G1745_1, G1745_2, G1745_3, V1745⟩ := hQ1745
 have N1745 := Fr.app N0 N1745q
 have zs1746 := Nat.le_trans zs1744 K1745.1
 have od1746 := od1744.keep K1745 (allS g_b1743 all0)
 have kp1746 := kp1744.trans K1745 (allS (Or.inr sz_b1743) all0)
 have g_b1745 : n0 ≤ b1745 := Nat.le_trans zs1744 lo1745
 have sz_b1745 : h0.size ≤ b1745 := Nat.le_trans kp1744.1 lo1745
 refine own_nn (own_asn X1745 q d9_7 rfl (l' := #[.val (.ref a1), .val (.ref b1743)]) rfl (own_aln X1745 q d9_8 rfl rfl ?_))
 refine own_gF X1745 q hZ e1745' hown (W 38 rfl) ((U0.ext E1743).keep K1745 (ninS (own_ne (EU).lt (Nat.le_of_eq g1743.symm)) nin0)) d9_9 fun T1747 X1747 e1747 => ?_
 refine own_stp 29 (fun _ k => XS.ifnullYes X1747.here hx rfl (pc0 := 12) (pc' := 29) rfl (q.d d9_12) rfl (by decide) (by decide) k) (own_aln X1747 q d9_29 rfl rfl ?_)
 refine own_gF X1747 q hZ e1747 hown (W 40 rfl) ((U1.ext E1743).keep K1745 (ninS (own_ne (EU).lt (Nat.le_of_eq g1743.symm)) nin0)) d9_30 fun T1748 X1748 e1748 => ?_
 refine own_stp 50 (fun _ k => XS.ifnullYes X1748.here hx rfl (pc0 := 33) (pc' := 50) rfl (q.d d9_33) rfl (by decide) (by decide) k) (own_aln X1748 q d9_50 rfl rfl (own_aln X1748 q d9_51 rfl rfl ?_))
 refine own_gF X1748 q hZ e1748 hown (W 42 rfl) ((U2.ext E1743).keep K1745 (ninS (own_ne (EU).lt (Nat.le_of_eq g1743.symm)) nin0)) d9_52 fun T1749 X1749 e1749 => ?_
 refine own_cVh X1749 q hZ e1749 hown hml (W 79 rfl) (W 80 rfl) (W 82 rfl) (W 81 rfl) (W 63 rfl) (W 83 rfl) rfl (A1743.keep K1745) (rm12_L1 l Z a0 hw b1743 a2 b1745 k1745 t ks y0 cs0 fo h1745 n0 zs1746 od1746 ⟨SCS, hcs⟩ SIO hfo (A1743.keep K1745) G1745_0 G1745_1 G1745_2 G1745_3 V1745 g_b1743 g_b1745 (own_ne (A1743).lt lo1745) ((ES.ext E1743).keep K1745) ((FC.ext E1743).keep K1745 (ninS (own_ne (ES).lt (Nat.le_of_eq g1743.symm)) nin0)) ((FV.ext E1743).keep K1745 (ninS (own_ne (ES).lt (Nat.le_of_eq g1743.symm)) nin0)) ((VS.ext E1743).keep K1745 (ninS (own_ne (VS).lt (Nat.le_of_eq g1743.symm)) nin0)) (Ne.symm (own_ne (ES).lt (Nat.le_of_eq g1743.symm))) (Ne.symm (own_ne ((ES.ext E1743)).lt lo1745)) (Ne.symm (own_ne (VS).lt (Nat.le_of_eq g1743.symm))) (Ne.symm (own_ne ((VS.ext E1743)).lt lo1745))) d9_55 [(.ref a2)] [] own_pd29 0 (by decide) (fun v1750 T1750 L1750 h1750 e1750' X1750 hQ1750 => ?_)
 obtain ⟨b1750, k1750, rfl, N1750q, K1750, gb1750, nb1750, G1750_0, G1750_1, G1750_2, G1750_3, V1750⟩ := hQ1750
 have N1750 := Fr.app N1745 N1750q
 have zs1751 := Nat.le_trans zs1746 K1750.1
 have od1751 := od1746.keep K1750 (allS g_b1743 (allS g_b1745 all0))
 have kp1751 := kp1746.trans K1750 (allS (Or.inr sz_b1743) (allS (Or.inr sz_b1745) all0))
 refine own_nv (own_stp 59 (fun _ k => XS.pop X1750.here hx rfl (q.d d9_58) rfl rfl k) (own_aln X1750 q d9_59 rfl rfl ?_))
 refine own_gF X1750 q hZ e1750' hown (W 44 rfl) (((U3.ext E1743).keep K1745 (ninS (own_ne (EU).lt (Nat.le_of_eq g1743.symm)) nin0)).keep K1750 (ninS (own_ne (EU).lt (Nat.le_of_eq g1743.symm)) (ninS (own_ne ((EU.ext E1743)).lt lo1745) nin0))) d9_60 fun T1752 X1752 e1752 => ?_
 refine own_stp 80 (fun _ k => XS.ifnullYes X1752.here hx rfl (pc0 := 63) (pc' := 80) rfl (q.d d9_63) rfl (by decide) (by decide) k) (own_aln X1752 q d9_80 rfl rfl ?_)
 refine own_cVh X1752 q hZ e1752 hown hml (W 127 rfl) (W 128 rfl) (W 130 rfl) (W 129 rfl) (W 63 rfl) (W 131 rfl) rfl ((A1743.keep K1745).keep K1750) (rm20_L1 l Z a0 hw b1743 b1750 k1750 y0 cs0 h1750 n0 zs1751 od1751 ⟨SCS, hcs⟩ ((A1743.keep K1745).keep K1750) G1750_0 G1750_1 G1750_2 G1750_3 V1750) d9_81 [] [] own_pd30 0 (by decide) (fun v1753 T1753 L1753 h1753 e1753' X1753 hQ1753 => ?_)
 obtain ⟨x1753, t1753, k1753, rfl, N1753q, E1753, lo1753, lt1753, Ex1753, Fc1753, Fv1753, V1753⟩ := hQ1753
 have N1753 := Fr.app N1750 N1753q
 have kp1754 := kp1751.ext E1753
 have sz_x1753 : h0.size ≤ x1753 := Nat.le_trans kp1751.1 lo1753
 have sz_t1753 : h0.size ≤ t1753 := Nat.le_trans kp1751.1 lt1753
 refine own_nv ?_
 refine own_rA X1753 q hrt d9_84 hlk (by decide) ?_
 show QTSL1 Z y0 h0 n0 _ T1753.heap _
 rw [e1753']
 exact ⟨_, _, _, rfl, N1753, own_extK kp1754, sz_x1753, sz_t1753, Ex1753, Fc1753, Fv1753, V1753⟩
theorem rm9_L2 (l : Launch) (Z : State) (a0 : Array Value) (hw : own_hw a0 Z) (a1 : Addr) (a2 t : Addr) (ks : ClassId) (y0 y1 : Int32) (cs0 : Int32) (fo : Value) (h0 : Heap) (n0 : Nat) (Z0 : n0 ≤ h0.size) (O0 : Old Z n0 h0) (SC_ : own_SC Z cs0) (SIO : Sta Z Z.heap "jdk/internal/util/Preconditions" "SIOOBE_FORMATTER" "Ljava/util/function/BiFunction;" fo) (hfo : fo.isRef = true) (EU : Exa Z h0 a1 "com/example/wolf_spider/wolfspider/Url") (U0 : F'8 Z h0 a1 .null) (U1 : F'9 Z h0 a1 .null) (U2 : F'6 Z h0 a1 (.ref a2)) (U3 : F'7 Z h0 a1 .null) (ES : Exa Z h0 a2 "java/lang/String") (FC : F'0 Z h0 a2 v'0) (FV : F'1 Z h0 a2 (.ref t)) (VS : Arv Z h0 t ks .byte (2 : Int32) [(.int y0), (.int y1)] v'0) :
  own_M l Z [] own_y42 b'9 2 (some (.object "java/lang/String")) ⟨6, 4, 26, 91⟩ #[(.ref a1)] h0 (QTSL2 Z y0 y1 h0 n0) := by
 obtain ⟨SCS, hcs⟩ := SC_
 refine own_start (n0 := n0) hw "com/example/wolf_spider/wolfspider/Url" (L := #[.val (.ref a1), .unset]) pn_9 (fun {p e s m below meth c s₁} q hx W hml hZ hown hnm hlk hrt X0 e0 N0 => ?_)
 have kp0 := Keep.refl h0 []
 refine own_let ?_; intro g1768_
 obtain ⟨T1769, h1769, X1769, e1769, E1769, A1769, D1769, -, st1769⟩ := newO X0 hx hZ hown (W 61 rfl) (W 62 rfl) (W 63 rfl) e0 (g := g1768_) rfl (q.d d9_0) (by decide) (by decide)
 obtain ⟨b1769, g1769⟩ : ∃ z, z = h0.size := ⟨_, rfl⟩
 rw [← g1769] at A1769 D1769 st1769
 have zs1770 := Nat.le_trans Z0 E1769.1
 have od1770 := O0.ext E1769
 have kp1770 := kp0.ext E1769
 have g_b1769 : n0 ≤ b1769 := Nat.le_trans Z0 (Nat.le_of_eq g1769.symm)
 have sz_b1769 : h0.size ≤ b1769 := Nat.le_trans kp0.1 (Nat.le_of_eq g1769.symm)
 have F1769_value : F'3 Z h1769 b1769 .null := D1769 (Or.inl (W 76 rfl)) (ty := (.array .byte)) (by decide)
 have F1769_coder : F'2 Z h1769 b1769 v'0 := D1769 (Or.inl (W 78 rfl)) (ty := .byte) (by decide)
 have F1769_count : F'4 Z h1769 b1769 v'0 := D1769 (Or.inl (W 101 rfl)) (ty := .int) (by decide)
 have F1769_maybeLatin1 : F'5 Z h1769 b1769 v'0 := D1769 (Or.inl (W 239 rfl)) (ty := .boolean) (by decide)
 refine own_stq 3 [(.ref b1769)] st1769 (own_dp X1769 q d9_3 rfl ?_)
 refine own_cIh (a := b1769) X1769 q hZ e1769 hown hml (W 64 rfl) (W 65 rfl) (W 63 rfl) (W 66 rfl) (rm10 l Z a0 hw b1769 cs0 h1769 n0 zs1770 od1770 ⟨SCS, hcs⟩ A1769 F1769_value F1769_coder F1769_count F1769_maybeLatin1 g_b1769) d9_4 [] [(.ref b1769)] own_pd20 1 rfl (by decide) (fun v1771 T1771 L1771 h1771 e1771' X1771 hQ1771 => ?_)
 obtain ⟨b1771, k1771, rfl, N1771q, K1771, lo1771, G1771_0, G1771_1, G1771_2, G1771_3, V1771⟩ := hQ1771
 have N1771 := Fr.app N0 N1771q
 have zs1772 := Nat.le_trans zs1770 K1771.1
 have od1772 := od1770.keep K1771 (allS g_b1769 all0)
 have kp1772 := kp1770.trans K1771 (allS (Or.inr sz_b1769) all0)
 have g_b1771 : n0 ≤ b1771 := Nat.le_trans zs1770 lo1771
 have sz_b1771 : h0.size ≤ b1771 := Nat.le_trans kp1770.1 lo1771
 refine own_nn (own_asn X1771 q d9_7 rfl (l' := #[.val (.ref a1), .val (.ref b1769)]) rfl (own_aln X1771 q d9_8 rfl rfl ?_))
 refine own_gF X1771 q hZ e1771' hown (W 38 rfl) ((U0.ext E1769).keep K1771 (ninS (own_ne (EU).lt (Nat.le_of_eq g1769.symm)) nin0)) d9_9 fun T1773 X1773 e1773 => ?_
 refine own_stp 29 (fun _ k => XS.ifnullYes X1773.here hx rfl (pc0 := 12) (pc' := 29) rfl (q.d d9_12) rfl (by decide) (by decide) k) (own_aln X1773 q d9_29 rfl rfl ?_)
 refine own_gF X1773 q hZ e1773 hown (W 40 rfl) ((U1.ext E1769).keep K1771 (ninS (own_ne (EU).lt (Nat.le_of_eq g1769.symm)) nin0)) d9_30 fun T1774 X1774 e1774 => ?_
 refine own_stp 50 (fun _ k => XS.ifnullYes X1774.here hx rfl (pc0 := 33) (pc' := 50) rfl (q.d d9_33) rfl (by decide) (by decide) k) (own_aln X1774 q d9_50 rfl rfl (own_aln X1774 q d9_51 rfl rfl ?_))
 refine own_gF X1774 q hZ e1774 hown (W 42 rfl) ((U2.ext E1769).keep K1771 (ninS (own_ne (EU).lt (Nat.le_of_eq g1769.symm)) nin0)) d9_52 fun T1775 X1775 e1775 => ?_
 refine own_cVh X1775 q hZ e1775 hown hml (W 79 rfl) (W 80 rfl) (W 82 rfl) (W 81 rfl) (W 63 rfl) (W 83 rfl) rfl (A1769.keep K1771) (rm12_L2 l Z a0 hw b1769 a2 b1771 k1771 t ks y0 y1 cs0 fo h1771 n0 zs1772 od1772 ⟨SCS, hcs⟩ SIO hfo (A1769.keep K1771) G1771_0 G1771_1 G1771_2 G1771_3 V1771 g_b1769 g_b1771 (own_ne (A1769).lt lo1771) ((ES.ext E1769).keep K1771) ((FC.ext E1769).keep K1771 (ninS (own_ne (ES).lt (Nat.le_of_eq g1769.symm)) nin0)) ((FV.ext E1769).keep K1771 (ninS (own_ne (ES).lt (Nat.le_of_eq g1769.symm)) nin0)) ((VS.ext E1769).keep K1771 (ninS (own_ne (VS).lt (Nat.le_of_eq g1769.symm)) nin0)) (Ne.symm (own_ne (ES).lt (Nat.le_of_eq g1769.symm))) (Ne.symm (own_ne ((ES.ext E1769)).lt lo1771)) (Ne.symm (own_ne (VS).lt (Nat.le_of_eq g1769.symm))) (Ne.symm (own_ne ((VS.ext E1769)).lt lo1771))) d9_55 [(.ref a2)] [] own_pd29 0 (by decide) (fun v1776 T1776 L1776 h1776 e1776' X1776 hQ1776 => ?_)
 obtain ⟨b1776, k1776, rfl, N1776q, K1776, gb1776, nb1776, G1776_0, G1776_1, G1776_2, G1776_3, V1776⟩ := hQ1776
 have N1776 := Fr.app N1771 N1776q
 have zs1777 := Nat.le_trans zs1772 K1776.1
 have od1777 := od1772.keep K1776 (allS g_b1769 (allS g_b1771 all0))
 have kp1777 := kp1772.trans K1776 (allS (Or.inr sz_b1769) (allS (Or.inr sz_b1771) all0))
 refine own_nv (own_stp 59 (fun _ k => XS.pop X1776.here hx rfl (q.d d9_58) rfl rfl k) (own_aln X1776 q d9_59 rfl rfl ?_))
 refine own_gF X1776 q hZ e1776' hown (W 44 rfl) (((U3.ext E1769).keep K1771 (ninS (own_ne (EU).lt (Nat.le_of_eq g1769.symm)) nin0)).keep K1776 (ninS (own_ne (EU).lt (Nat.le_of_eq g1769.symm)) (ninS (own_ne ((EU.ext E1769)).lt lo1771) nin0))) d9_60 fun T1778 X1778 e1778 => ?_
 refine own_stp 80 (fun _ k => XS.ifnullYes X1778.here hx rfl (pc0 := 63) (pc' := 80) rfl (q.d d9_63) rfl (by decide) (by decide) k) (own_aln X1778 q d9_80 rfl rfl ?_)
 refine own_cVh X1778 q hZ e1778 hown hml (W 127 rfl) (W 128 rfl) (W 130 rfl) (W 129 rfl) (W 63 rfl) (W 131 rfl) rfl ((A1769.keep K1771).keep K1776) (rm20_L2 l Z a0 hw b1769 b1776 k1776 y0 y1 cs0 h1776 n0 zs1777 od1777 ⟨SCS, hcs⟩ ((A1769.keep K1771).keep K1776) G1776_0 G1776_1 G1776_2 G1776_3 V1776) d9_81 [] [] own_pd30 0 (by decide) (fun v1779 T1779 L1779 h1779 e1779' X1779 hQ1779 => ?_)
 obtain ⟨x1779, t1779, k1779, rfl, N1779q, E1779, lo1779, lt1779, Ex1779, Fc1779, Fv1779, V1779⟩ := hQ1779
 have N1779 := Fr.app N1776 N1779q
 have kp1780 := kp1777.ext E1779
 have sz_x1779 : h0.size ≤ x1779 := Nat.le_trans kp1777.1 lo1779
 have sz_t1779 : h0.size ≤ t1779 := Nat.le_trans kp1777.1 lt1779
 refine own_nv ?_
 refine own_rA X1779 q hrt d9_84 hlk (by decide) ?_
 show QTSL2 Z y0 y1 h0 n0 _ T1779.heap _
 rw [e1779']
 exact ⟨_, _, _, rfl, N1779, own_extK kp1780, sz_x1779, sz_t1779, Ex1779, Fc1779, Fv1779, V1779⟩
theorem rm9_L3 (l : Launch) (Z : State) (a0 : Array Value) (hw : own_hw a0 Z) (a1 : Addr) (a2 t : Addr) (ks : ClassId) (y0 y1 y2 : Int32) (cs0 : Int32) (fo : Value) (h0 : Heap) (n0 : Nat) (Z0 : n0 ≤ h0.size) (O0 : Old Z n0 h0) (SC_ : own_SC Z cs0) (SIO : Sta Z Z.heap "jdk/internal/util/Preconditions" "SIOOBE_FORMATTER" "Ljava/util/function/BiFunction;" fo) (hfo : fo.isRef = true) (EU : Exa Z h0 a1 "com/example/wolf_spider/wolfspider/Url") (U0 : F'8 Z h0 a1 .null) (U1 : F'9 Z h0 a1 .null) (U2 : F'6 Z h0 a1 (.ref a2)) (U3 : F'7 Z h0 a1 .null) (ES : Exa Z h0 a2 "java/lang/String") (FC : F'0 Z h0 a2 v'0) (FV : F'1 Z h0 a2 (.ref t)) (VS : Arv Z h0 t ks .byte (3 : Int32) [(.int y0), (.int y1), (.int y2)] v'0) :
  own_M l Z [] own_y42 b'9 2 (some (.object "java/lang/String")) ⟨6, 4, 27, 91⟩ #[(.ref a1)] h0 (QTSL3 Z y0 y1 y2 h0 n0) := by
 obtain ⟨SCS, hcs⟩ := SC_
 refine own_start (n0 := n0) hw "com/example/wolf_spider/wolfspider/Url" (L := #[.val (.ref a1), .unset]) pn_9 (fun {p e s m below meth c s₁} q hx W hml hZ hown hnm hlk hrt X0 e0 N0 => ?_)
 have kp0 := Keep.refl h0 []
 refine own_let ?_; intro g1794_
 obtain ⟨T1795, h1795, X1795, e1795, E1795, A1795, D1795, -, st1795⟩ := newO X0 hx hZ hown (W 61 rfl) (W 62 rfl) (W 63 rfl) e0 (g := g1794_) rfl (q.d d9_0) (by decide) (by decide)
 obtain ⟨b1795, g1795⟩ : ∃ z, z = h0.size := ⟨_, rfl⟩
 rw [← g1795] at A1795 D1795 st1795
 have zs1796 := Nat.le_trans Z0 E1795.1
 have od1796 := O0.ext E1795
 have kp1796 := kp0.ext E1795
 have g_b1795 : n0 ≤ b1795 := Nat.le_trans Z0 (Nat.le_of_eq g1795.symm)
 have sz_b1795 : h0.size ≤ b1795 := Nat.le_trans kp0.1 (Nat.le_of_eq g1795.symm)
 have F1795_value : F'3 Z h1795 b1795 .null := D1795 (Or.inl (W 76 rfl)) (ty := (.array .byte)) (by decide)
 have F1795_coder : F'2 Z h1795 b1795 v'0 := D1795 (Or.inl (W 78 rfl)) (ty := .byte) (by decide)
 have F1795_count : F'4 Z h1795 b1795 v'0 := D1795 (Or.inl (W 101 rfl)) (ty := .int) (by decide)
 have F1795_maybeLatin1 : F'5 Z h1795 b1795 v'0 := D1795 (Or.inl (W 239 rfl)) (ty := .boolean) (by decide)
 refine own_stq 3 [(.ref b1795)] st1795 (own_dp X1795 q d9_3 rfl ?_)
 refine own_cIh (a := b1795) X1795 q hZ e1795 hown hml (W 64 rfl) (W 65 rfl) (W 63 rfl) (W 66 rfl) (rm10 l Z a0 hw b1795 cs0 h1795 n0 zs1796 od1796 ⟨SCS, hcs⟩ A1795 F1795_value F1795_coder F1795_count F1795_maybeLatin1 g_b1795) d9_4 [] [(.ref b1795)] own_pd20 1 rfl (by decide) (fun v1797 T1797 L1797 h1797 e1797' X1797 hQ1797 => ?_)
 obtain ⟨b1797, k1797, rfl, N1797q, K1797, lo1797, G1797_0, G1797_1, G1797_2, G1797_3, V1797⟩ := hQ1797
 have N1797 := Fr.app N0 N1797q
 have zs1798 := Nat.le_trans zs1796 K1797.1
 have od1798 := od1796.keep K1797 (allS g_b1795 all0)
 have kp1798 := kp1796.trans K1797 (allS (Or.inr sz_b1795) all0)
 have g_b1797 : n0 ≤ b1797 := Nat.le_trans zs1796 lo1797
 have sz_b1797 : h0.size ≤ b1797 := Nat.le_trans kp1796.1 lo1797
 refine own_nn (own_asn X1797 q d9_7 rfl (l' := #[.val (.ref a1), .val (.ref b1795)]) rfl (own_aln X1797 q d9_8 rfl rfl ?_))
 refine own_gF X1797 q hZ e1797' hown (W 38 rfl) ((U0.ext E1795).keep K1797 (ninS (own_ne (EU).lt (Nat.le_of_eq g1795.symm)) nin0)) d9_9 fun T1799 X1799 e1799 => ?_
 refine own_stp 29 (fun _ k => XS.ifnullYes X1799.here hx rfl (pc0 := 12) (pc' := 29) rfl (q.d d9_12) rfl (by decide) (by decide) k) (own_aln X1799 q d9_29 rfl rfl ?_)
 refine own_gF X1799 q hZ e1799 hown (W 40 rfl) ((U1.ext E1795).keep K1797 (ninS (own_ne (EU).lt (Nat.le_of_eq g1795.symm)) nin0)) d9_30 fun T1800 X1800 e1800 => ?_
 refine own_stp 50 (fun _ k => XS.ifnullYes X1800.here hx rfl (pc0 := 33) (pc' := 50) rfl (q.d d9_33) rfl (by decide) (by decide) k) (own_aln X1800 q d9_50 rfl rfl (own_aln X1800 q d9_51 rfl rfl ?_))
 refine own_gF X1800 q hZ e1800 hown (W 42 rfl) ((U2.ext E1795).keep K1797 (ninS (own_ne (EU).lt (Nat.le_of_eq g1795.symm)) nin0)) d9_52 fun T1801 X1801 e1801 => ?_
 refine own_cVh X1801 q hZ e1801 hown hml (W 79 rfl) (W 80 rfl) (W 82 rfl) (W 81 rfl) (W 63 rfl) (W 83 rfl) rfl (A1795.keep K1797) (rm12_L3 l Z a0 hw b1795 a2 b1797 k1797 t ks y0 y1 y2 cs0 fo h1797 n0 zs1798 od1798 ⟨SCS, hcs⟩ SIO hfo (A1795.keep K1797) G1797_0 G1797_1 G1797_2 G1797_3 V1797 g_b1795 g_b1797 (own_ne (A1795).lt lo1797) ((ES.ext E1795).keep K1797) ((FC.ext E1795).keep K1797 (ninS (own_ne (ES).lt (Nat.le_of_eq g1795.symm)) nin0)) ((FV.ext E1795).keep K1797 (ninS (own_ne (ES).lt (Nat.le_of_eq g1795.symm)) nin0)) ((VS.ext E1795).keep K1797 (ninS (own_ne (VS).lt (Nat.le_of_eq g1795.symm)) nin0)) (Ne.symm (own_ne (ES).lt (Nat.le_of_eq g1795.symm))) (Ne.symm (own_ne ((ES.ext E1795)).lt lo1797)) (Ne.symm (own_ne (VS).lt (Nat.le_of_eq g1795.symm))) (Ne.symm (own_ne ((VS.ext E1795)).lt lo1797))) d9_55 [(.ref a2)] [] own_pd29 0 (by decide) (fun v1802 T1802 L1802 h1802 e1802' X1802 hQ1802 => ?_)
 obtain ⟨b1802, k1802, rfl, N1802q, K1802, gb1802, nb1802, G1802_0, G1802_1, G1802_2, G1802_3, V1802⟩ := hQ1802
 have N1802 := Fr.app N1797 N1802q
 have zs1803 := Nat.le_trans zs1798 K1802.1
 have od1803 := od1798.keep K1802 (allS g_b1795 (allS g_b1797 all0))
 have kp1803 := kp1798.trans K1802 (allS (Or.inr sz_b1795) (allS (Or.inr sz_b1797) all0))
 refine own_nv (own_stp 59 (fun _ k => XS.pop X1802.here hx rfl (q.d d9_58) rfl rfl k) (own_aln X1802 q d9_59 rfl rfl ?_))
 refine own_gF X1802 q hZ e1802' hown (W 44 rfl) (((U3.ext E1795).keep K1797 (ninS (own_ne (EU).lt (Nat.le_of_eq g1795.symm)) nin0)).keep K1802 (ninS (own_ne (EU).lt (Nat.le_of_eq g1795.symm)) (ninS (own_ne ((EU.ext E1795)).lt lo1797) nin0))) d9_60 fun T1804 X1804 e1804 => ?_
 refine own_stp 80 (fun _ k => XS.ifnullYes X1804.here hx rfl (pc0 := 63) (pc' := 80) rfl (q.d d9_63) rfl (by decide) (by decide) k) (own_aln X1804 q d9_80 rfl rfl ?_)
 refine own_cVh X1804 q hZ e1804 hown hml (W 127 rfl) (W 128 rfl) (W 130 rfl) (W 129 rfl) (W 63 rfl) (W 131 rfl) rfl ((A1795.keep K1797).keep K1802) (rm20_L3 l Z a0 hw b1795 b1802 k1802 y0 y1 y2 cs0 h1802 n0 zs1803 od1803 ⟨SCS, hcs⟩ ((A1795.keep K1797).keep K1802) G1802_0 G1802_1 G1802_2 G1802_3 V1802) d9_81 [] [] own_pd30 0 (by decide) (fun v1805 T1805 L1805 h1805 e1805' X1805 hQ1805 => ?_)
 obtain ⟨x1805, t1805, k1805, rfl, N1805q, E1805, lo1805, lt1805, Ex1805, Fc1805, Fv1805, V1805⟩ := hQ1805
 have N1805 := Fr.app N1802 N1805q
 have kp1806 := kp1803.ext E1805
 have sz_x1805 : h0.size ≤ x1805 := Nat.le_trans kp1803.1 lo1805
 have sz_t1805 : h0.size ≤ t1805 := Nat.le_trans kp1803.1 lt1805
 refine own_nv ?_
 refine own_rA X1805 q hrt d9_84 hlk (by decide) ?_
 show QTSL3 Z y0 y1 y2 h0 n0 _ T1805.heap _
 rw [e1805']
 exact ⟨_, _, _, rfl, N1805, own_extK kp1806, sz_x1805, sz_t1805, Ex1805, Fc1805, Fv1805, V1805⟩
theorem rm9_L4 (l : Launch) (Z : State) (a0 : Array Value) (hw : own_hw a0 Z) (a1 : Addr) (a2 t : Addr) (ks : ClassId) (y0 y1 y2 y3 : Int32) (cs0 : Int32) (fo : Value) (h0 : Heap) (n0 : Nat) (Z0 : n0 ≤ h0.size) (O0 : Old Z n0 h0) (SC_ : own_SC Z cs0) (SIO : Sta Z Z.heap "jdk/internal/util/Preconditions" "SIOOBE_FORMATTER" "Ljava/util/function/BiFunction;" fo) (hfo : fo.isRef = true) (EU : Exa Z h0 a1 "com/example/wolf_spider/wolfspider/Url") (U0 : F'8 Z h0 a1 .null) (U1 : F'9 Z h0 a1 .null) (U2 : F'6 Z h0 a1 (.ref a2)) (U3 : F'7 Z h0 a1 .null) (ES : Exa Z h0 a2 "java/lang/String") (FC : F'0 Z h0 a2 v'0) (FV : F'1 Z h0 a2 (.ref t)) (VS : Arv Z h0 t ks .byte (4 : Int32) [(.int y0), (.int y1), (.int y2), (.int y3)] v'0) :
  own_M l Z [] own_y42 b'9 2 (some (.object "java/lang/String")) ⟨6, 4, 28, 91⟩ #[(.ref a1)] h0 (QTSL4 Z y0 y1 y2 y3 h0 n0) := by
 obtain ⟨SCS, hcs⟩ := SC_
 refine own_start (n0 := n0) hw "com/example/wolf_spider/wolfspider/Url" (L := #[.val (.ref a1), .unset]) pn_9 (fun {p e s m below meth c s₁} q hx W hml hZ hown hnm hlk hrt X0 e0 N0 => ?_)
 have kp0 := Keep.refl h0 []
 refine own_let ?_; intro g1820_
 obtain ⟨T1821, h1821, X1821, e1821, E1821, A1821, D1821, -, st1821⟩ := newO X0 hx hZ hown (W 61 rfl) (W 62 rfl) (W 63 rfl) e0 (g := g1820_) rfl (q.d d9_0) (by decide) (by decide)
 obtain ⟨b1821, g1821⟩ : ∃ z, z = h0.size := ⟨_, rfl⟩
 rw [← g1821] at A1821 D1821 st1821
 have zs1822 := Nat.le_trans Z0 E1821.1
 have od1822 := O0.ext E1821
 have kp1822 := kp0.ext E1821
 have g_b1821 : n0 ≤ b1821 := Nat.le_trans Z0 (Nat.le_of_eq g1821.symm)
 have sz_b1821 : h0.size ≤ b1821 := Nat.le_trans kp0.1 (Nat.le_of_eq g1821.symm)
 have F1821_value : F'3 Z h1821 b1821 .null := D1821 (Or.inl (W 76 rfl)) (ty := (.array .byte)) (by decide)
 have F1821_coder : F'2 Z h1821 b1821 v'0 := D1821 (Or.inl (W 78 rfl)) (ty := .byte) (by decide)
 have F1821_count : F'4 Z h1821 b1821 v'0 := D1821 (Or.inl (W 101 rfl)) (ty := .int) (by decide)
 have F1821_maybeLatin1 : F'5 Z h1821 b1821 v'0 := D1821 (Or.inl (W 239 rfl)) (ty := .boolean) (by decide)
 refine own_stq 3 [(.ref b1821)] st1821 (own_dp X1821 q d9_3 rfl ?_)
 refine own_cIh (a := b1821) X1821 q hZ e1821 hown hml (W 64 rfl) (W 65 rfl) (W 63 rfl) (W 66 rfl) (rm10 l Z a0 hw b1821 cs0 h1821 n0 zs1822 od1822 ⟨SCS, hcs⟩ A1821 F1821_value F1821_coder F1821_count F1821_maybeLatin1 g_b1821) d9_4 [] [(.ref b1821)] own_pd20 1 rfl (by decide) (fun v1823 T1823 L1823 h1823 e1823' X1823 hQ1823 => ?_)
 obtain ⟨b1823, k1823, rfl, N1823q, K1823, lo1823, G1823_0, G1823_1, G1823_2, G1823_3, V1823⟩ := hQ1823
 have N1823 := Fr.app N0 N1823q
 have zs1824 := Nat.le_trans zs1822 K1823.1
 have od1824 := od1822.keep K1823 (allS g_b1821 all0)
 have kp1824 := kp1822.trans K1823 (allS (Or.inr sz_b1821) all0)
 have g_b1823 : n0 ≤ b1823 := Nat.le_trans zs1822 lo1823
 have sz_b1823 : h0.size ≤ b1823 := Nat.le_trans kp1822.1 lo1823
 refine own_nn (own_asn X1823 q d9_7 rfl (l' := #[.val (.ref a1), .val (.ref b1821)]) rfl (own_aln X1823 q d9_8 rfl rfl ?_))
 refine own_gF X1823 q hZ e1823' hown (W 38 rfl) ((U0.ext E1821).keep K1823 (ninS (own_ne (EU).lt (Nat.le_of_eq g1821.symm)) nin0)) d9_9 fun T1825 X1825 e1825 => ?_
 refine own_stp 29 (fun _ k => XS.ifnullYes X1825.here hx rfl (pc0 := 12) (pc' := 29) rfl (q.d d9_12) rfl (by decide) (by decide) k) (own_aln X1825 q d9_29 rfl rfl ?_)
 refine own_gF X1825 q hZ e1825 hown (W 40 rfl) ((U1.ext E1821).keep K1823 (ninS (own_ne (EU).lt (Nat.le_of_eq g1821.symm)) nin0)) d9_30 fun T1826 X1826 e1826 => ?_
 refine own_stp 50 (fun _ k => XS.ifnullYes X1826.here hx rfl (pc0 := 33) (pc' := 50) rfl (q.d d9_33) rfl (by decide) (by decide) k) (own_aln X1826 q d9_50 rfl rfl (own_aln X1826 q d9_51 rfl rfl ?_))
 refine own_gF X1826 q hZ e1826 hown (W 42 rfl) ((U2.ext E1821).keep K1823 (ninS (own_ne (EU).lt (Nat.le_of_eq g1821.symm)) nin0)) d9_52 fun T1827 X1827 e1827 => ?_
 refine own_cVh X1827 q hZ e1827 hown hml (W 79 rfl) (W 80 rfl) (W 82 rfl) (W 81 rfl) (W 63 rfl) (W 83 rfl) rfl (A1821.keep K1823) (rm12_L4 l Z a0 hw b1821 a2 b1823 k1823 t ks y0 y1 y2 y3 cs0 fo h1823 n0 zs1824 od1824 ⟨SCS, hcs⟩ SIO hfo (A1821.keep K1823) G1823_0 G1823_1 G1823_2 G1823_3 V1823 g_b1821 g_b1823 (own_ne (A1821).lt lo1823) ((ES.ext E1821).keep K1823) ((FC.ext E1821).keep K1823 (ninS (own_ne (ES).lt (Nat.le_of_eq g1821.symm)) nin0)) ((FV.ext E1821).keep K1823 (ninS (own_ne (ES).lt (Nat.le_of_eq g1821.symm)) nin0)) ((VS.ext E1821).keep K1823 (ninS (own_ne (VS).lt (Nat.le_of_eq g1821.symm)) nin0)) (Ne.symm (own_ne (ES).lt (Nat.le_of_eq g1821.symm))) (Ne.symm (own_ne ((ES.ext E1821)).lt lo1823)) (Ne.symm (own_ne (VS).lt (Nat.le_of_eq g1821.symm))) (Ne.symm (own_ne ((VS.ext E1821)).lt lo1823))) d9_55 [(.ref a2)] [] own_pd29 0 (by decide) (fun v1828 T1828 L1828 h1828 e1828' X1828 hQ1828 => ?_)
 obtain ⟨b1828, k1828, rfl, N1828q, K1828, gb1828, nb1828, G1828_0, G1828_1, G1828_2, G1828_3, V1828⟩ := hQ1828
 have N1828 := Fr.app N1823 N1828q
 have zs1829 := Nat.le_trans zs1824 K1828.1
 have od1829 := od1824.keep K1828 (allS g_b1821 (allS g_b1823 all0))
 have kp1829 := kp1824.trans K1828 (allS (Or.inr sz_b1821) (allS (Or.inr sz_b1823) all0))
 refine own_nv (own_stp 59 (fun _ k => XS.pop X1828.here hx rfl (q.d d9_58) rfl rfl k) (own_aln X1828 q d9_59 rfl rfl ?_))
 refine own_gF X1828 q hZ e1828' hown (W 44 rfl) (((U3.ext E1821).keep K1823 (ninS (own_ne (EU).lt (Nat.le_of_eq g1821.symm)) nin0)).keep K1828 (ninS (own_ne (EU).lt (Nat.le_of_eq g1821.symm)) (ninS (own_ne ((EU.ext E1821)).lt lo1823) nin0))) d9_60 fun T1830 X1830 e1830 => ?_
 refine own_stp 80 (fun _ k => XS.ifnullYes X1830.here hx rfl (pc0 := 63) (pc' := 80) rfl (q.d d9_63) rfl (by decide) (by decide) k) (own_aln X1830 q d9_80 rfl rfl ?_)
 refine own_cVh X1830 q hZ e1830 hown hml (W 127 rfl) (W 128 rfl) (W 130 rfl) (W 129 rfl) (W 63 rfl) (W 131 rfl) rfl ((A1821.keep K1823).keep K1828) (rm20_L4 l Z a0 hw b1821 b1828 k1828 y0 y1 y2 y3 cs0 h1828 n0 zs1829 od1829 ⟨SCS, hcs⟩ ((A1821.keep K1823).keep K1828) G1828_0 G1828_1 G1828_2 G1828_3 V1828) d9_81 [] [] own_pd30 0 (by decide) (fun v1831 T1831 L1831 h1831 e1831' X1831 hQ1831 => ?_)
 obtain ⟨x1831, t1831, k1831, rfl, N1831q, E1831, lo1831, lt1831, Ex1831, Fc1831, Fv1831, V1831⟩ := hQ1831
 have N1831 := Fr.app N1828 N1831q
 have kp1832 := kp1829.ext E1831
 have sz_x1831 : h0.size ≤ x1831 := Nat.le_trans kp1829.1 lo1831
 have sz_t1831 : h0.size ≤ t1831 := Nat.le_trans kp1829.1 lt1831
 refine own_nv ?_
 refine own_rA X1831 q hrt d9_84 hlk (by decide) ?_
 show QTSL4 Z y0 y1 y2 y3 h0 n0 _ T1831.heap _
 rw [e1831']
 exact ⟨_, _, _, rfl, N1831, own_extK kp1832, sz_x1831, sz_t1831, Ex1831, Fc1831, Fv1831, V1831⟩
theorem rm9_U1 (l : Launch) (Z : State) (a0 : Array Value) (hw : own_hw a0 Z) (a1 : Addr) (a2 t : Addr) (ks : ClassId) (y0 y1 : Int32) (cs0 : Int32) (fo : Value) (h0 : Heap) (n0 : Nat) (Z0 : n0 ≤ h0.size) (O0 : Old Z n0 h0) (SC_ : own_SC Z cs0) (SIO : Sta Z Z.heap "jdk/internal/util/Preconditions" "SIOOBE_FORMATTER" "Ljava/util/function/BiFunction;" fo) (hfo : fo.isRef = true) (EU : Exa Z h0 a1 "com/example/wolf_spider/wolfspider/Url") (U0 : F'8 Z h0 a1 .null) (U1 : F'9 Z h0 a1 .null) (U2 : F'6 Z h0 a1 (.ref a2)) (U3 : F'7 Z h0 a1 .null) (ES : Exa Z h0 a2 "java/lang/String") (FC : F'0 Z h0 a2 v'1) (FV : F'1 Z h0 a2 (.ref t)) (VS : Arv Z h0 t ks .byte (2 : Int32) [(.int y0), (.int y1)] v'0) :
  own_M l Z [] own_y42 b'9 2 (some (.object "java/lang/String")) ⟨10, 5, 58, 143⟩ #[(.ref a1)] h0 (QTSU1 Z y0 y1 h0 n0) := by
 obtain ⟨SCS, hcs⟩ := SC_
 refine own_start (n0 := n0) hw "com/example/wolf_spider/wolfspider/Url" (L := #[.val (.ref a1), .unset]) pn_9 (fun {p e s m below meth c s₁} q hx W hml hZ hown hnm hlk hrt X0 e0 N0 => ?_)
 have kp0 := Keep.refl h0 []
 refine own_let ?_; intro g1846_
 obtain ⟨T1847, h1847, X1847, e1847, E1847, A1847, D1847, -, st1847⟩ := newO X0 hx hZ hown (W 61 rfl) (W 62 rfl) (W 63 rfl) e0 (g := g1846_) rfl (q.d d9_0) (by decide) (by decide)
 obtain ⟨b1847, g1847⟩ : ∃ z, z = h0.size := ⟨_, rfl⟩
 rw [← g1847] at A1847 D1847 st1847
 have zs1848 := Nat.le_trans Z0 E1847.1
 have od1848 := O0.ext E1847
 have kp1848 := kp0.ext E1847
 have g_b1847 : n0 ≤ b1847 := Nat.le_trans Z0 (Nat.le_of_eq g1847.symm)
 have sz_b1847 : h0.size ≤ b1847 := Nat.le_trans kp0.1 (Nat.le_of_eq g1847.symm)
 have F1847_value : F'3 Z h1847 b1847 .null := D1847 (Or.inl (W 76 rfl)) (ty := (.array .byte)) (by decide)
 have F1847_coder : F'2 Z h1847 b1847 v'0 := D1847 (Or.inl (W 78 rfl)) (ty := .byte) (by decide)
 have F1847_count : F'4 Z h1847 b1847 v'0 := D1847 (Or.inl (W 101 rfl)) (ty := .int) (by decide)
 have F1847_maybeLatin1 : F'5 Z h1847 b1847 v'0 := D1847 (Or.inl (W 239 rfl)) (ty := .boolean) (by decide)
 refine own_stq 3 [(.ref b1847)] st1847 (own_dp X1847 q d9_3 rfl ?_)
 refine own_cIh (a := b1847) X1847 q hZ e1847 hown hml (W 64 rfl) (W 65 rfl) (W 63 rfl) (W 66 rfl) (rm10 l Z a0 hw b1847 cs0 h1847 n0 zs1848 od1848 ⟨SCS, hcs⟩ A1847 F1847_value F1847_coder F1847_count F1847_maybeLatin1 g_b1847) d9_4 [] [(.ref b1847)] own_pd20 1 rfl (by decide) (fun v1849 T1849 L1849 h1849 e1849' X1849 hQ1849 => ?_)
 obtain ⟨b1849, k1849, rfl, N1849q, K1849, lo1849, G1849_0, G1849_1, G1849_2, G1849_3, V1849⟩ := hQ1849
 have N1849 := Fr.app N0 N1849q
 have zs1850 := Nat.le_trans zs1848 K1849.1
 have od1850 := od1848.keep K1849 (allS g_b1847 all0)
 have kp1850 := kp1848.trans K1849 (allS (Or.inr sz_b1847) all0)
 have g_b1849 : n0 ≤ b1849 := Nat.le_trans zs1848 lo1849
 have sz_b1849 : h0.size ≤ b1849 := Nat.le_trans kp1848.1 lo1849
 refine own_nn (own_asn X1849 q d9_7 rfl (l' := #[.val (.ref a1), .val (.ref b1847)]) rfl (own_aln X1849 q d9_8 rfl rfl ?_))
 refine own_gF X1849 q hZ e1849' hown (W 38 rfl) ((U0.ext E1847).keep K1849 (ninS (own_ne (EU).lt (Nat.le_of_eq g1847.symm)) nin0)) d9_9 fun T1851 X1851 e1851 => ?_
 refine own_stp 29 (fun _ k => XS.ifnullYes X1851.here hx rfl (pc0 := 12) (pc' := 29) rfl (q.d d9_12) rfl (by decide) (by decide) k) (own_aln X1851 q d9_29 rfl rfl ?_)
 refine own_gF X1851 q hZ e1851 hown (W 40 rfl) ((U1.ext E1847).keep K1849 (ninS (own_ne (EU).lt (Nat.le_of_eq g1847.symm)) nin0)) d9_30 fun T1852 X1852 e1852 => ?_
 refine own_stp 50 (fun _ k => XS.ifnullYes X1852.here hx rfl (pc0 := 33) (pc' := 50) rfl (q.d d9_33) rfl (by decide) (by decide) k) (own_aln X1852 q d9_50 rfl rfl (own_aln X1852 q d9_51 rfl rfl ?_))
 refine own_gF X1852 q hZ e1852 hown (W 42 rfl) ((U2.ext E1847).keep K1849 (ninS (own_ne (EU).lt (Nat.le_of_eq g1847.symm)) nin0)) d9_52 fun T1853 X1853 e1853 => ?_
 refine own_cVh X1853 q hZ e1853 hown hml (W 79 rfl) (W 80 rfl) (W 82 rfl) (W 81 rfl) (W 63 rfl) (W 83 rfl) rfl (A1847.keep K1849) (rm12_U1 l Z a0 hw b1847 a2 b1849 k1849 t ks y0 y1 cs0 fo h1849 n0 zs1850 od1850 ⟨SCS, hcs⟩ SIO hfo (A1847.keep K1849) G1849_0 G1849_1 G1849_2 G1849_3 V1849 g_b1847 g_b1849 (own_ne (A1847).lt lo1849) ((ES.ext E1847).keep K1849) ((FC.ext E1847).keep K1849 (ninS (own_ne (ES).lt (Nat.le_of_eq g1847.symm)) nin0)) ((FV.ext E1847).keep K1849 (ninS (own_ne (ES).lt (Nat.le_of_eq g1847.symm)) nin0)) ((VS.ext E1847).keep K1849 (ninS (own_ne (VS).lt (Nat.le_of_eq g1847.symm)) nin0)) (Ne.symm (own_ne (ES).lt (Nat.le_of_eq g1847.symm))) (Ne.symm (own_ne ((ES.ext E1847)).lt lo1849)) (Ne.symm (own_ne (VS).lt (Nat.le_of_eq g1847.symm))) (Ne.symm (own_ne ((VS.ext E1847)).lt lo1849))) d9_55 [(.ref a2)] [] own_pd29 0 (by decide) (fun v1854 T1854 L1854 h1854 e1854' X1854 hQ1854 => ?_)
 obtain ⟨b1854, k1854, rfl, N1854q, K1854, gb1854, nb1854, G1854_0, G1854_1, G1854_2, G1854_3, V1854⟩ := hQ1854
 have N1854 := Fr.app N1849 N1854q
 have zs1855 := Nat.le_trans zs1850 K1854.1
 have od1855 := od1850.keep K1854 (allS g_b1847 (allS g_b1849 all0))
 have kp1855 := kp1850.trans K1854 (allS (Or.inr sz_b1847) (allS (Or.inr sz_b1849) all0))
 refine own_nv (own_stp 59 (fun _ k => XS.pop X1854.here hx rfl (q.d d9_58) rfl rfl k) (own_aln X1854 q d9_59 rfl rfl ?_))
 refine own_gF X1854 q hZ e1854' hown (W 44 rfl) (((U3.ext E1847).keep K1849 (ninS (own_ne (EU).lt (Nat.le_of_eq g1847.symm)) nin0)).keep K1854 (ninS (own_ne (EU).lt (Nat.le_of_eq g1847.symm)) (ninS (own_ne ((EU.ext E1847)).lt lo1849) nin0))) d9_60 fun T1856 X1856 e1856 => ?_
 refine own_stp 80 (fun _ k => XS.ifnullYes X1856.here hx rfl (pc0 := 63) (pc' := 80) rfl (q.d d9_63) rfl (by decide) (by decide) k) (own_aln X1856 q d9_80 rfl rfl ?_)
 refine own_cVh X1856 q hZ e1856 hown hml (W 127 rfl) (W 128 rfl) (W 130 rfl) (W 129 rfl) (W 63 rfl) (W 131 rfl) rfl ((A1847.keep K1849).keep K1854) (rm20_U1 l Z a0 hw b1847 b1854 k1854 y0 y1 cs0 h1854 n0 zs1855 od1855 ⟨SCS, hcs⟩ ((A1847.keep K1849).keep K1854) G1854_0 G1854_1 G1854_2 G1854_3 V1854) d9_81 [] [] own_pd30 0 (by decide) (fun v1857 T1857 L1857 h1857 e1857' X1857 hQ1857 => ?_)
 obtain ⟨x1857, t1857, k1857, rfl, N1857q, E1857, lo1857, lt1857, Ex1857, Fc1857, Fv1857, V1857⟩ := hQ1857
 have N1857 := Fr.app N1854 N1857q
 have kp1858 := kp1855.ext E1857
 have sz_x1857 : h0.size ≤ x1857 := Nat.le_trans kp1855.1 lo1857
 have sz_t1857 : h0.size ≤ t1857 := Nat.le_trans kp1855.1 lt1857
 refine own_nv ?_
 refine own_rA X1857 q hrt d9_84 hlk (by decide) ?_
 show QTSU1 Z y0 y1 h0 n0 _ T1857.heap _
 rw [e1857']
 exact ⟨_, _, _, rfl, N1857, own_extK kp1858, sz_x1857, sz_t1857, Ex1857, Fc1857, Fv1857, V1857⟩
theorem rm9_U2 (l : Launch) (Z : State) (a0 : Array Value) (hw : own_hw a0 Z) (a1 : Addr) (a2 t : Addr) (ks : ClassId) (y0 y1 y2 y3 : Int32) (cs0 : Int32) (fo : Value) (h0 : Heap) (n0 : Nat) (Z0 : n0 ≤ h0.size) (O0 : Old Z n0 h0) (SC_ : own_SC Z cs0) (SIO : Sta Z Z.heap "jdk/internal/util/Preconditions" "SIOOBE_FORMATTER" "Ljava/util/function/BiFunction;" fo) (hfo : fo.isRef = true) (EU : Exa Z h0 a1 "com/example/wolf_spider/wolfspider/Url") (U0 : F'8 Z h0 a1 .null) (U1 : F'9 Z h0 a1 .null) (U2 : F'6 Z h0 a1 (.ref a2)) (U3 : F'7 Z h0 a1 .null) (ES : Exa Z h0 a2 "java/lang/String") (FC : F'0 Z h0 a2 v'1) (FV : F'1 Z h0 a2 (.ref t)) (VS : Arv Z h0 t ks .byte (4 : Int32) [(.int y0), (.int y1), (.int y2), (.int y3)] v'0) :
  own_M l Z [] own_y42 b'9 2 (some (.object "java/lang/String")) ⟨10, 5, 60, 143⟩ #[(.ref a1)] h0 (QTSU2 Z y0 y1 y2 y3 h0 n0) := by
 obtain ⟨SCS, hcs⟩ := SC_
 refine own_start (n0 := n0) hw "com/example/wolf_spider/wolfspider/Url" (L := #[.val (.ref a1), .unset]) pn_9 (fun {p e s m below meth c s₁} q hx W hml hZ hown hnm hlk hrt X0 e0 N0 => ?_)
 have kp0 := Keep.refl h0 []
 refine own_let ?_; intro g1872_
 obtain ⟨T1873, h1873, X1873, e1873, E1873, A1873, D1873, -, st1873⟩ := newO X0 hx hZ hown (W 61 rfl) (W 62 rfl) (W 63 rfl) e0 (g := g1872_) rfl (q.d d9_0) (by decide) (by decide)
 obtain ⟨b1873, g1873⟩ : ∃ z, z = h0.size := ⟨_, rfl⟩
 rw [← g1873] at A1873 D1873 st1873
 have zs1874 := Nat.le_trans Z0 E1873.1
 have od1874 := O0.ext E1873
 have kp1874 := kp0.ext E1873
 have g_b1873 : n0 ≤ b1873 := Nat.le_trans Z0 (Nat.le_of_eq g1873.symm)
 have sz_b1873 : h0.size ≤ b1873 := Nat.le_trans kp0.1 (Nat.le_of_eq g1873.symm)
 have F1873_value : F'3 Z h1873 b1873 .null := D1873 (Or.inl (W 76 rfl)) (ty := (.array .byte)) (by decide)
 have F1873_coder : F'2 Z h1873 b1873 v'0 := D1873 (Or.inl (W 78 rfl)) (ty := .byte) (by decide)
 have F1873_count : F'4 Z h1873 b1873 v'0 := D1873 (Or.inl (W 101 rfl)) (ty := .int) (by decide)
 have F1873_maybeLatin1 : F'5 Z h1873 b1873 v'0 := D1873 (Or.inl (W 239 rfl)) (ty := .boolean) (by decide)
 refine own_stq 3 [(.ref b1873)] st1873 (own_dp X1873 q d9_3 rfl ?_)
 refine own_cIh (a := b1873) X1873 q hZ e1873 hown hml (W 64 rfl) (W 65 rfl) (W 63 rfl) (W 66 rfl) (rm10 l Z a0 hw b1873 cs0 h1873 n0 zs1874 od1874 ⟨SCS, hcs⟩ A1873 F1873_value F1873_coder F1873_count F1873_maybeLatin1 g_b1873) d9_4 [] [(.ref b1873)] own_pd20 1 rfl (by decide) (fun v1875 T1875 L1875 h1875 e1875' X1875 hQ1875 => ?_)
 obtain ⟨b1875, k1875, rfl, N1875q, K1875, lo1875, G1875_0, G1875_1, G1875_2, G1875_3, V1875⟩ := hQ1875
 have N1875 := Fr.app N0 N1875q
 have zs1876 := Nat.le_trans zs1874 K1875.1
 have od1876 := od1874.keep K1875 (allS g_b1873 all0)
 have kp1876 := kp1874.trans K1875 (allS (Or.inr sz_b1873) all0)
 have g_b1875 : n0 ≤ b1875 := Nat.le_trans zs1874 lo1875
 have sz_b1875 : h0.size ≤ b1875 := Nat.le_trans kp1874.1 lo1875
 refine own_nn (own_asn X1875 q d9_7 rfl (l' := #[.val (.ref a1), .val (.ref b1873)]) rfl (own_aln X1875 q d9_8 rfl rfl ?_))
 refine own_gF X1875 q hZ e1875' hown (W 38 rfl) ((U0.ext E1873).keep K1875 (ninS (own_ne (EU).lt (Nat.le_of_eq g1873.symm)) nin0)) d9_9 fun T1877 X1877 e1877 => ?_
 refine own_stp 29 (fun _ k => XS.ifnullYes X1877.here hx rfl (pc0 := 12) (pc' := 29) rfl (q.d d9_12) rfl (by decide) (by decide) k) (own_aln X1877 q d9_29 rfl rfl ?_)
 refine own_gF X1877 q hZ e1877 hown (W 40 rfl) ((U1.ext E1873).keep K1875 (ninS (own_ne (EU).lt (Nat.le_of_eq g1873.symm)) nin0)) d9_30 fun T1878 X1878 e1878 => ?_
 refine own_stp 50 (fun _ k => XS.ifnullYes X1878.here hx rfl (pc0 := 33) (pc' := 50) rfl (q.d d9_33) rfl (by decide) (by decide) k) (own_aln X1878 q d9_50 rfl rfl (own_aln X1878 q d9_51 rfl rfl ?_))
 refine own_gF X1878 q hZ e1878 hown (W 42 rfl) ((U2.ext E1873).keep K1875 (ninS (own_ne (EU).lt (Nat.le_of_eq g1873.symm)) nin0)) d9_52 fun T1879 X1879 e1879 => ?_
 refine own_cVh X1879 q hZ e1879 hown hml (W 79 rfl) (W 80 rfl) (W 82 rfl) (W 81 rfl) (W 63 rfl) (W 83 rfl) rfl (A1873.keep K1875) (rm12_U2 l Z a0 hw b1873 a2 b1875 k1875 t ks y0 y1 y2 y3 cs0 fo h1875 n0 zs1876 od1876 ⟨SCS, hcs⟩ SIO hfo (A1873.keep K1875) G1875_0 G1875_1 G1875_2 G1875_3 V1875 g_b1873 g_b1875 (own_ne (A1873).lt lo1875) ((ES.ext E1873).keep K1875) ((FC.ext E1873).keep K1875 (ninS (own_ne (ES).lt (Nat.le_of_eq g1873.symm)) nin0)) ((FV.ext E1873).keep K1875 (ninS (own_ne (ES).lt (Nat.le_of_eq g1873.symm)) nin0)) ((VS.ext E1873).keep K1875 (ninS (own_ne (VS).lt (Nat.le_of_eq g1873.symm)) nin0)) (Ne.symm (own_ne (ES).lt (Nat.le_of_eq g1873.symm))) (Ne.symm (own_ne ((ES.ext E1873)).lt lo1875)) (Ne.symm (own_ne (VS).lt (Nat.le_of_eq g1873.symm))) (Ne.symm (own_ne ((VS.ext E1873)).lt lo1875))) d9_55 [(.ref a2)] [] own_pd29 0 (by decide) (fun v1880 T1880 L1880 h1880 e1880' X1880 hQ1880 => ?_)
 obtain ⟨b1880, k1880, rfl, N1880q, K1880, gb1880, nb1880, G1880_0, G1880_1, G1880_2, G1880_3, V1880⟩ := hQ1880
 have N1880 := Fr.app N1875 N1880q
 have zs1881 := Nat.le_trans zs1876 K1880.1
 have od1881 := od1876.keep K1880 (allS g_b1873 (allS g_b1875 all0))
 have kp1881 := kp1876.trans K1880 (allS (Or.inr sz_b1873) (allS (Or.inr sz_b1875) all0))
 refine own_nv (own_stp 59 (fun _ k => XS.pop X1880.here hx rfl (q.d d9_58) rfl rfl k) (own_aln X1880 q d9_59 rfl rfl ?_))
 refine own_gF X1880 q hZ e1880' hown (W 44 rfl) (((U3.ext E1873).keep K1875 (ninS (own_ne (EU).lt (Nat.le_of_eq g1873.symm)) nin0)).keep K1880 (ninS (own_ne (EU).lt (Nat.le_of_eq g1873.symm)) (ninS (own_ne ((EU.ext E1873)).lt lo1875) nin0))) d9_60 fun T1882 X1882 e1882 => ?_
 refine own_stp 80 (fun _ k => XS.ifnullYes X1882.here hx rfl (pc0 := 63) (pc' := 80) rfl (q.d d9_63) rfl (by decide) (by decide) k) (own_aln X1882 q d9_80 rfl rfl ?_)
 refine own_cVh X1882 q hZ e1882 hown hml (W 127 rfl) (W 128 rfl) (W 130 rfl) (W 129 rfl) (W 63 rfl) (W 131 rfl) rfl ((A1873.keep K1875).keep K1880) (rm20_U2 l Z a0 hw b1873 b1880 k1880 y0 y1 y2 y3 cs0 h1880 n0 zs1881 od1881 ⟨SCS, hcs⟩ ((A1873.keep K1875).keep K1880) G1880_0 G1880_1 G1880_2 G1880_3 V1880) d9_81 [] [] own_pd30 0 (by decide) (fun v1883 T1883 L1883 h1883 e1883' X1883 hQ1883 => ?_)
 obtain ⟨x1883, t1883, k1883, rfl, N1883q, E1883, lo1883, lt1883, Ex1883, Fc1883, Fv1883, V1883⟩ := hQ1883
 have N1883 := Fr.app N1880 N1883q
 have kp1884 := kp1881.ext E1883
 have sz_x1883 : h0.size ≤ x1883 := Nat.le_trans kp1881.1 lo1883
 have sz_t1883 : h0.size ≤ t1883 := Nat.le_trans kp1881.1 lt1883
 refine own_nv ?_
 refine own_rA X1883 q hrt d9_84 hlk (by decide) ?_
 show QTSU2 Z y0 y1 y2 y3 h0 n0 _ T1883.heap _
 rw [e1883']
 exact ⟨_, _, _, rfl, N1883, own_extK kp1884, sz_x1883, sz_t1883, Ex1883, Fc1883, Fv1883, V1883⟩
theorem rm9_U3 (l : Launch) (Z : State) (a0 : Array Value) (hw : own_hw a0 Z) (a1 : Addr) (a2 t : Addr) (ks : ClassId) (y0 y1 y2 y3 y4 y5 : Int32) (cs0 : Int32) (fo : Value) (h0 : Heap) (n0 : Nat) (Z0 : n0 ≤ h0.size) (O0 : Old Z n0 h0) (SC_ : own_SC Z cs0) (SIO : Sta Z Z.heap "jdk/internal/util/Preconditions" "SIOOBE_FORMATTER" "Ljava/util/function/BiFunction;" fo) (hfo : fo.isRef = true) (EU : Exa Z h0 a1 "com/example/wolf_spider/wolfspider/Url") (U0 : F'8 Z h0 a1 .null) (U1 : F'9 Z h0 a1 .null) (U2 : F'6 Z h0 a1 (.ref a2)) (U3 : F'7 Z h0 a1 .null) (ES : Exa Z h0 a2 "java/lang/String") (FC : F'0 Z h0 a2 v'1) (FV : F'1 Z h0 a2 (.ref t)) (VS : Arv Z h0 t ks .byte (6 : Int32) [(.int y0), (.int y1), (.int y2), (.int y3), (.int y4), (.int y5)] v'0) :
  own_M l Z [] own_y42 b'9 2 (some (.object "java/lang/String")) ⟨10, 5, 62, 143⟩ #[(.ref a1)] h0 (QTSU3 Z y0 y1 y2 y3 y4 y5 h0 n0) := by
 obtain ⟨SCS, hcs⟩ := SC_
 refine own_start (n0 := n0) hw "com/example/wolf_spider/wolfspider/Url" (L := #[.val (.ref a1), .unset]) pn_9 (fun {p e s m below meth c s₁} q hx W hml hZ hown hnm hlk hrt X0 e0 N0 => ?_)
 have kp0 := Keep.refl h0 []
 refine own_let ?_; intro g1898_
 obtain ⟨T1899, h1899, X1899, e1899, E1899, A1899, D1899, -, st1899⟩ := newO X0 hx hZ hown (W 61 rfl) (W 62 rfl) (W 63 rfl) e0 (g := g1898_) rfl (q.d d9_0) (by decide) (by decide)
 obtain ⟨b1899, g1899⟩ : ∃ z, z = h0.size := ⟨_, rfl⟩
 rw [← g1899] at A1899 D1899 st1899
 have zs1900 := Nat.le_trans Z0 E1899.1
 have od1900 := O0.ext E1899
 have kp1900 := kp0.ext E1899
 have g_b1899 : n0 ≤ b1899 := Nat.le_trans Z0 (Nat.le_of_eq g1899.symm)
 have sz_b1899 : h0.size ≤ b1899 := Nat.le_trans kp0.1 (Nat.le_of_eq g1899.symm)
 have F1899_value : F'3 Z h1899 b1899 .null := D1899 (Or.inl (W 76 rfl)) (ty := (.array .byte)) (by decide)
 have F1899_coder : F'2 Z h1899 b1899 v'0 := D1899 (Or.inl (W 78 rfl)) (ty := .byte) (by decide)
 have F1899_count : F'4 Z h1899 b1899 v'0 := D1899 (Or.inl (W 101 rfl)) (ty := .int) (by decide)
 have F1899_maybeLatin1 : F'5 Z h1899 b1899 v'0 := D1899 (Or.inl (W 239 rfl)) (ty := .boolean) (by decide)
 refine own_stq 3 [(.ref b1899)] st1899 (own_dp X1899 q d9_3 rfl ?_)
 refine own_cIh (a := b1899) X1899 q hZ e1899 hown hml (W 64 rfl) (W 65 rfl) (W 63 rfl) (W 66 rfl) (rm10 l Z a0 hw b1899 cs0 h1899 n0 zs1900 od1900 ⟨SCS, hcs⟩ A1899 F1899_value F1899_coder F1899_count F1899_maybeLatin1 g_b1899) d9_4 [] [(.ref b1899)] own_pd20 1 rfl (by decide) (fun v1901 T1901 L1901 h1901 e1901' X1901 hQ1901 => ?_)
 obtain ⟨b1901, k1901, rfl, N1901q, K1901, lo1901, G1901_0, G1901_1, G1901_2, G1901_3, V1901⟩ := hQ1901
 have N1901 := Fr.app N0 N1901q
 have zs1902 := Nat.le_trans zs1900 K1901.1
 have od1902 := od1900.keep K1901 (allS g_b1899 all0)
 have kp1902 := kp1900.trans K1901 (allS (Or.inr sz_b1899) all0)
 have g_b1901 : n0 ≤ b1901 := Nat.le_trans zs1900 lo1901
 have sz_b1901 : h0.size ≤ b1901 := Nat.le_trans kp1900.1 lo1901
 refine own_nn (own_asn X1901 q d9_7 rfl (l' := #[.val (.ref a1), .val (.ref b1899)]) rfl (own_aln X1901 q d9_8 rfl rfl ?_))
 refine own_gF X1901 q hZ e1901' hown (W 38 rfl) ((U0.ext E1899).keep K1901 (ninS (own_ne (EU).lt (Nat.le_of_eq g1899.symm)) nin0)) d9_9 fun T1903 X1903 e1903 => ?_
 refine own_stp 29 (fun _ k => XS.ifnullYes X1903.here hx rfl (pc0 := 12) (pc' := 29) rfl (q.d d9_12) rfl (by decide) (by decide) k) (own_aln X1903 q d9_29 rfl rfl ?_)
 refine own_gF X1903 q hZ e1903 hown (W 40 rfl) ((U1.ext E1899).keep K1901 (ninS (own_ne (EU).lt (Nat.le_of_eq g1899.symm)) nin0)) d9_30 fun T1904 X1904 e1904 => ?_
 refine own_stp 50 (fun _ k => XS.ifnullYes X1904.here hx rfl (pc0 := 33) (pc' := 50) rfl (q.d d9_33) rfl (by decide) (by decide) k) (own_aln X1904 q d9_50 rfl rfl (own_aln X1904 q d9_51 rfl rfl ?_))
 refine own_gF X1904 q hZ e1904 hown (W 42 rfl) ((U2.ext E1899).keep K1901 (ninS (own_ne (EU).lt (Nat.le_of_eq g1899.symm)) nin0)) d9_52 fun T1905 X1905 e1905 => ?_
 refine own_cVh X1905 q hZ e1905 hown hml (W 79 rfl) (W 80 rfl) (W 82 rfl) (W 81 rfl) (W 63 rfl) (W 83 rfl) rfl (A1899.keep K1901) (rm12_U3 l Z a0 hw b1899 a2 b1901 k1901 t ks y0 y1 y2 y3 y4 y5 cs0 fo h1901 n0 zs1902 od1902 ⟨SCS, hcs⟩ SIO hfo (A1899.keep K1901) G1901_0 G1901_1 G1901_2 G1901_3 V1901 g_b1899 g_b1901 (own_ne (A1899).lt lo1901) ((ES.ext E1899).keep K1901) ((FC.ext E1899).keep K1901 (ninS (own_ne (ES).lt (Nat.le_of_eq g1899.symm)) nin0)) ((FV.ext E1899).keep K1901 (ninS (own_ne (ES).lt (Nat.le_of_eq g1899.symm)) nin0)) ((VS.ext E1899).keep K1901 (ninS (own_ne (VS).lt (Nat.le_of_eq g1899.symm)) nin0)) (Ne.symm (own_ne (ES).lt (Nat.le_of_eq g1899.symm))) (Ne.symm (own_ne ((ES.ext E1899)).lt lo1901)) (Ne.symm (own_ne (VS).lt (Nat.le_of_eq g1899.symm))) (Ne.symm (own_ne ((VS.ext E1899)).lt lo1901))) d9_55 [(.ref a2)] [] own_pd29 0 (by decide) (fun v1906 T1906 L1906 h1906 e1906' X1906 hQ1906 => ?_)
 obtain ⟨b1906, k1906, rfl, N1906q, K1906, gb1906, nb1906, G1906_0, G1906_1, G1906_2, G1906_3, V1906⟩ := hQ1906
 have N1906 := Fr.app N1901 N1906q
 have zs1907 := Nat.le_trans zs1902 K1906.1
 have od1907 := od1902.keep K1906 (allS g_b1899 (allS g_b1901 all0))
 have kp1907 := kp1902.trans K1906 (allS (Or.inr sz_b1899) (allS (Or.inr sz_b1901) all0))
 refine own_nv (own_stp 59 (fun _ k => XS.pop X1906.here hx rfl (q.d d9_58) rfl rfl k) (own_aln X1906 q d9_59 rfl rfl ?_))
 refine own_gF X1906 q hZ e1906' hown (W 44 rfl) (((U3.ext E1899).keep K1901 (ninS (own_ne (EU).lt (Nat.le_of_eq g1899.symm)) nin0)).keep K1906 (ninS (own_ne (EU).lt (Nat.le_of_eq g1899.symm)) (ninS (own_ne ((EU.ext E1899)).lt lo1901) nin0))) d9_60 fun T1908 X1908 e1908 => ?_
 refine own_stp 80 (fun _ k => XS.ifnullYes X1908.here hx rfl (pc0 := 63) (pc' := 80) rfl (q.d d9_63) rfl (by decide) (by decide) k) (own_aln X1908 q d9_80 rfl rfl ?_)
 refine own_cVh X1908 q hZ e1908 hown hml (W 127 rfl) (W 128 rfl) (W 130 rfl) (W 129 rfl) (W 63 rfl) (W 131 rfl) rfl ((A1899.keep K1901).keep K1906) (rm20_U3 l Z a0 hw b1899 b1906 k1906 y0 y1 y2 y3 y4 y5 cs0 h1906 n0 zs1907 od1907 ⟨SCS, hcs⟩ ((A1899.keep K1901).keep K1906) G1906_0 G1906_1 G1906_2 G1906_3 V1906) d9_81 [] [] own_pd30 0 (by decide) (fun v1909 T1909 L1909 h1909 e1909' X1909 hQ1909 => ?_)
 obtain ⟨x1909, t1909, k1909, rfl, N1909q, E1909, lo1909, lt1909, Ex1909, Fc1909, Fv1909, V1909⟩ := hQ1909
 have N1909 := Fr.app N1906 N1909q
 have kp1910 := kp1907.ext E1909
 have sz_x1909 : h0.size ≤ x1909 := Nat.le_trans kp1907.1 lo1909
 have sz_t1909 : h0.size ≤ t1909 := Nat.le_trans kp1907.1 lt1909
 refine own_nv ?_
 refine own_rA X1909 q hrt d9_84 hlk (by decide) ?_
 show QTSU3 Z y0 y1 y2 y3 y4 y5 h0 n0 _ T1909.heap _
 rw [e1909']
 exact ⟨_, _, _, rfl, N1909, own_extK kp1910, sz_x1909, sz_t1909, Ex1909, Fc1909, Fv1909, V1909⟩
theorem rm9_U4 (l : Launch) (Z : State) (a0 : Array Value) (hw : own_hw a0 Z) (a1 : Addr) (a2 t : Addr) (ks : ClassId) (y0 y1 y2 y3 y4 y5 y6 y7 : Int32) (cs0 : Int32) (fo : Value) (h0 : Heap) (n0 : Nat) (Z0 : n0 ≤ h0.size) (O0 : Old Z n0 h0) (SC_ : own_SC Z cs0) (SIO : Sta Z Z.heap "jdk/internal/util/Preconditions" "SIOOBE_FORMATTER" "Ljava/util/function/BiFunction;" fo) (hfo : fo.isRef = true) (EU : Exa Z h0 a1 "com/example/wolf_spider/wolfspider/Url") (U0 : F'8 Z h0 a1 .null) (U1 : F'9 Z h0 a1 .null) (U2 : F'6 Z h0 a1 (.ref a2)) (U3 : F'7 Z h0 a1 .null) (ES : Exa Z h0 a2 "java/lang/String") (FC : F'0 Z h0 a2 v'1) (FV : F'1 Z h0 a2 (.ref t)) (VS : Arv Z h0 t ks .byte (8 : Int32) [(.int y0), (.int y1), (.int y2), (.int y3), (.int y4), (.int y5), (.int y6), (.int y7)] v'0) :
  own_M l Z [] own_y42 b'9 2 (some (.object "java/lang/String")) ⟨10, 5, 64, 143⟩ #[(.ref a1)] h0 (QTSU4 Z y0 y1 y2 y3 y4 y5 y6 y7 h0 n0) := by
 obtain ⟨SCS, hcs⟩ := SC_
 refine own_start (n0 := n0) hw "com/example/wolf_spider/wolfspider/Url" (L := #[.val (.ref a1), .unset]) pn_9 (fun {p e s m below meth c s₁} q hx W hml hZ hown hnm hlk hrt X0 e0 N0 => ?_)
 have kp0 := Keep.refl h0 []
 refine own_let ?_; intro g1924_
 obtain ⟨T1925, h1925, X1925, e1925, E1925, A1925, D1925, -, st1925⟩ := newO X0 hx hZ hown (W 61 rfl) (W 62 rfl) (W 63 rfl) e0 (g := g1924_) rfl (q.d d9_0) (by decide) (by decide)
 obtain ⟨b1925, g1925⟩ : ∃ z, z = h0.size := ⟨_, rfl⟩
 rw [← g1925] at A1925 D1925 st1925
 have zs1926 := Nat.le_trans Z0 E1925.1
 have od1926 := O0.ext E1925
 have kp1926 := kp0.ext E1925
 have g_b1925 : n0 ≤ b1925 := Nat.le_trans Z0 (Nat.le_of_eq g1925.symm)
 have sz_b1925 : h0.size ≤ b1925 := Nat.le_trans kp0.1 (Nat.le_of_eq g1925.symm)
 have F1925_value : F'3 Z h1925 b1925 .null := D1925 (Or.inl (W 76 rfl)) (ty := (.array .byte)) (by decide)
 have F1925_coder : F'2 Z h1925 b1925 v'0 := D1925 (Or.inl (W 78 rfl)) (ty := .byte) (by decide)
 have F1925_count : F'4 Z h1925 b1925 v'0 := D1925 (Or.inl (W 101 rfl)) (ty := .int) (by decide)
 have F1925_maybeLatin1 : F'5 Z h1925 b1925 v'0 := D1925 (Or.inl (W 239 rfl)) (ty := .boolean) (by decide)
 refine own_stq 3 [(.ref b1925)] st1925 (own_dp X1925 q d9_3 rfl ?_)
 refine own_cIh (a := b1925) X1925 q hZ e1925 hown hml (W 64 rfl) (W 65 rfl) (W 63 rfl) (W 66 rfl) (rm10 l Z a0 hw b1925 cs0 h1925 n0 zs1926 od1926 ⟨SCS, hcs⟩ A1925 F1925_value F1925_coder F1925_count F1925_maybeLatin1 g_b1925) d9_4 [] [(.ref b1925)] own_pd20 1 rfl (by decide) (fun v1927 T1927 L1927 h1927 e1927' X1927 hQ1927 => ?_)
 obtain ⟨b1927, k1927, rfl, N1927q, K1927, lo1927, G1927_0, G1927_1, G1927_2, G1927_3, V1927⟩ := hQ1927
 have N1927 := Fr.app N0 N1927q
 have zs1928 := Nat.le_trans zs1926 K1927.1
 have od1928 := od1926.keep K1927 (allS g_b1925 all0)
 have kp1928 := kp1926.trans K1927 (allS (Or.inr sz_b1925) all0)
 have g_b1927 : n0 ≤ b1927 := Nat.le_trans zs1926 lo1927
 have sz_b1927 : h0.size ≤ b1927 := Nat.le_trans kp1926.1 lo1927
 refine own_nn (own_asn X1927 q d9_7 rfl (l' := #[.val (.ref a1), .val (.ref b1925)]) rfl (own_aln X1927 q d9_8 rfl rfl ?_))
 refine own_gF X1927 q hZ e1927' hown (W 38 rfl) ((U0.ext E1925).keep K1927 (ninS (own_ne (EU).lt (Nat.le_of_eq g1925.symm)) nin0)) d9_9 fun T1929 X1929 e1929 => ?_
 refine own_stp 29 (fun _ k => XS.ifnullYes X1929.here hx rfl (pc0 := 12) (pc' := 29) rfl (q.d d9_12) rfl (by decide) (by decide) k) (own_aln X1929 q d9_29 rfl rfl ?_)
 refine own_gF X1929 q hZ e1929 hown (W 40 rfl) ((U1.ext E1925).keep K1927 (ninS (own_ne (EU).lt (Nat.le_of_eq g1925.symm)) nin0)) d9_30 fun T1930 X1930 e1930 => ?_
 refine own_stp 50 (fun _ k => XS.ifnullYes X1930.here hx rfl (pc0 := 33) (pc' := 50) rfl (q.d d9_33) rfl (by decide) (by decide) k) (own_aln X1930 q d9_50 rfl rfl (own_aln X1930 q d9_51 rfl rfl ?_))
 refine own_gF X1930 q hZ e1930 hown (W 42 rfl) ((U2.ext E1925).keep K1927 (ninS (own_ne (EU).lt (Nat.le_of_eq g1925.symm)) nin0)) d9_52 fun T1931 X1931 e1931 => ?_
 refine own_cVh X1931 q hZ e1931 hown hml (W 79 rfl) (W 80 rfl) (W 82 rfl) (W 81 rfl) (W 63 rfl) (W 83 rfl) rfl (A1925.keep K1927) (rm12_U4 l Z a0 hw b1925 a2 b1927 k1927 t ks y0 y1 y2 y3 y4 y5 y6 y7 cs0 fo h1927 n0 zs1928 od1928 ⟨SCS, hcs⟩ SIO hfo (A1925.keep K1927) G1927_0 G1927_1 G1927_2 G1927_3 V1927 g_b1925 g_b1927 (own_ne (A1925).lt lo1927) ((ES.ext E1925).keep K1927) ((FC.ext E1925).keep K1927 (ninS (own_ne (ES).lt (Nat.le_of_eq g1925.symm)) nin0)) ((FV.ext E1925).keep K1927 (ninS (own_ne (ES).lt (Nat.le_of_eq g1925.symm)) nin0)) ((VS.ext E1925).keep K1927 (ninS (own_ne (VS).lt (Nat.le_of_eq g1925.symm)) nin0)) (Ne.symm (own_ne (ES).lt (Nat.le_of_eq g1925.symm))) (Ne.symm (own_ne ((ES.ext E1925)).lt lo1927)) (Ne.symm (own_ne (VS).lt (Nat.le_of_eq g1925.symm))) (Ne.symm (own_ne ((VS.ext E1925)).lt lo1927))) d9_55 [(.ref a2)] [] own_pd29 0 (by decide) (fun v1932 T1932 L1932 h1932 e1932' X1932 hQ1932 => ?_)
 obtain ⟨b1932, k1932, rfl, N1932q, K1932, gb1932, nb1932, G1932_0, G1932_1, G1932_2, G1932_3, V1932⟩ := hQ1932
 have N1932 := Fr.app N1927 N1932q
 have zs1933 := Nat.le_trans zs1928 K1932.1
 have od1933 := od1928.keep K1932 (allS g_b1925 (allS g_b1927 all0))
 have kp1933 := kp1928.trans K1932 (allS (Or.inr sz_b1925) (allS (Or.inr sz_b1927) all0))
 refine own_nv (own_stp 59 (fun _ k => XS.pop X1932.here hx rfl (q.d d9_58) rfl rfl k) (own_aln X1932 q d9_59 rfl rfl ?_))
 refine own_gF X1932 q hZ e1932' hown (W 44 rfl) (((U3.ext E1925).keep K1927 (ninS (own_ne (EU).lt (Nat.le_of_eq g1925.symm)) nin0)).keep K1932 (ninS (own_ne (EU).lt (Nat.le_of_eq g1925.symm)) (ninS (own_ne ((EU.ext E1925)).lt lo1927) nin0))) d9_60 fun T1934 X1934 e1934 => ?_
 refine own_stp 80 (fun _ k => XS.ifnullYes X1934.here hx rfl (pc0 := 63) (pc' := 80) rfl (q.d d9_63) rfl (by decide) (by decide) k) (own_aln X1934 q d9_80 rfl rfl ?_)
 refine own_cVh X1934 q hZ e1934 hown hml (W 127 rfl) (W 128 rfl) (W 130 rfl) (W 129 rfl) (W 63 rfl) (W 131 rfl) rfl ((A1925.keep K1927).keep K1932) (rm20_U4 l Z a0 hw b1925 b1932 k1932 y0 y1 y2 y3 y4 y5 y6 y7 cs0 h1932 n0 zs1933 od1933 ⟨SCS, hcs⟩ ((A1925.keep K1927).keep K1932) G1932_0 G1932_1 G1932_2 G1932_3 V1932) d9_81 [] [] own_pd30 0 (by decide) (fun v1935 T1935 L1935 h1935 e1935' X1935 hQ1935 => ?_)
 obtain ⟨x1935, t1935, k1935, rfl, N1935q, E1935, lo1935, lt1935, Ex1935, Fc1935, Fv1935, V1935⟩ := hQ1935
 have N1935 := Fr.app N1932 N1935q
 have kp1936 := kp1933.ext E1935
 have sz_x1935 : h0.size ≤ x1935 := Nat.le_trans kp1933.1 lo1935
 have sz_t1935 : h0.size ≤ t1935 := Nat.le_trans kp1933.1 lt1935
 refine own_nv ?_
 refine own_rA X1935 q hrt d9_84 hlk (by decide) ?_
 show QTSU4 Z y0 y1 y2 y3 y4 y5 y6 y7 h0 n0 _ T1935.heap _
 rw [e1935']
 exact ⟨_, _, _, rfl, N1935, own_extK kp1936, sz_x1935, sz_t1935, Ex1935, Fc1935, Fv1935, V1935⟩
theorem d8_0 : own_D b'8 0 (.aload_n 0) 1 1 := by decide +kernel
theorem d8_1 : own_D b'8 1 (.aload_n 1) 1 2 := by decide +kernel
theorem d8_2 : own_D b'8 2 (.if_acmp .ne 5) 3 5 := by decide +kernel
theorem d8_5 : own_DK b'8 5 1 6 := by decide +kernel
theorem d8_6 : own_D b'8 6 .ireturn 1 7 := by decide +kernel
theorem d8_7 : own_D b'8 7 (.aload_n 1) 1 8 := by decide +kernel
theorem d8_8 : own_D b'8 8 (.instanceof 10) 3 11 := by decide +kernel
theorem d8_11 : own_DZ b'8 11 .eq 54 14 := by decide +kernel
theorem d8_14 : own_D b'8 14 (.aload_n 1) 1 15 := by decide +kernel
theorem d8_15 : own_D b'8 15 (.checkcast 10) 3 18 := by decide +kernel
theorem d8_18 : own_D b'8 18 (.astore_n 2) 1 19 := by decide +kernel
theorem d8_19 : own_D b'8 19 (.getstatic 38) 3 22 := by decide +kernel
theorem d8_22 : own_DZ b'8 22 .eq 36 25 := by decide +kernel
theorem d8_25 : own_D b'8 25 (.aload_n 0) 1 26 := by decide +kernel
theorem d8_26 : own_D b'8 26 (.getfield 15) 3 29 := by decide +kernel
theorem d8_29 : own_D b'8 29 (.aload_n 2) 1 30 := by decide +kernel
theorem d8_30 : own_D b'8 30 (.getfield 15) 3 33 := by decide +kernel
theorem d8_33 : own_DJ b'8 33 .ne 54 36 := by decide +kernel
theorem d8_36 : own_D b'8 36 (.aload_n 0) 1 37 := by decide +kernel
theorem d8_37 : own_D b'8 37 (.getfield 9) 3 40 := by decide +kernel
theorem d8_40 : own_D b'8 40 (.aload_n 2) 1 41 := by decide +kernel
theorem d8_41 : own_D b'8 41 (.getfield 9) 3 44 := by decide +kernel
theorem d8_44 : own_D b'8 44 (.invokestatic 541) 3 47 := by decide +kernel
theorem d8_47 : own_DZ b'8 47 .eq 54 50 := by decide +kernel
theorem d8_50 : own_DK b'8 50 1 51 := by decide +kernel
theorem d8_51 : own_DG b'8 51 55 := by decide +kernel
theorem d8_55 : own_D b'8 55 .ireturn 1 56 := by decide +kernel
theorem pn_8 : plainFor (⟨"java/lang/String", "equals", "(Ljava/lang/Object;)Z"⟩ : MethodName) = true := plainFor_of_name (by first | (simp [plainName, overriddenIn]; done) | decide +kernel)
theorem rm8_same (l : Launch) (Z : State) (a0 : Array Value) (hw : own_hw a0 Z) (a1 : Addr) (a2 : Addr)  (h0 : Heap) (n0 : Nat) (Z0 : n0 ≤ h0.size) (he : a1 = a2) :
  own_M l Z [] own_y43 b'8 3 (some .boolean) ⟨0, 0, 0, 0⟩ #[(.ref a1), (.ref a2)] h0 (QI (1 : Int32) h0 n0) := by
 refine own_start (n0 := n0) hw "java/lang/String" (L := #[.val (.ref a1), .val (.ref a2), .unset]) pn_8 (fun {p e s m below meth c s₁} q hx W hml hZ hown hnm hlk hrt X0 e0 N0 => ?_)
 refine own_aln X0 q d8_0 rfl rfl (own_aln X0 q d8_1 rfl rfl (own_stp 5 (fun _ k => Jvm.RoadKit.acmp (g := mkF m 2 _ _) X0 hx rfl rfl rfl (pc0 := 2) (pc' := 5) (same := true) rfl (q.d d8_2) rfl (decide_eq_true (congrArg Value.ref he)) (by decide) (by decide) k) (own_k X0 q d8_5 ?_)))
 refine own_rN X0 q hrt (by simp) d8_6 hlk (by decide) ?_
 show QI (1 : Int32) h0 n0 _ s₁.heap _
 rw [e0]
 exact ⟨rfl, N0, rfl⟩
theorem d31_0 : own_D b'31 0 (.aload_n 0) 1 1 := by decide +kernel
theorem d31_1 : own_D b'31 1 .arraylength 1 2 := by decide +kernel
theorem d31_2 : own_D b'31 2 (.aload_n 1) 1 3 := by decide +kernel
theorem d31_3 : own_D b'31 3 .arraylength 1 4 := by decide +kernel
theorem d31_4 : own_DJ b'31 4 .ne 34 7 := by decide +kernel
theorem d31_7 : own_DK b'31 7 0 8 := by decide +kernel
theorem d31_8 : own_D b'31 8 (.istore_n 2) 1 9 := by decide +kernel
theorem d31_9 : own_D b'31 9 (.iload_n 2) 1 10 := by decide +kernel
theorem d31_10 : own_D b'31 10 (.aload_n 0) 1 11 := by decide +kernel
theorem d31_11 : own_D b'31 11 .arraylength 1 12 := by decide +kernel
theorem d31_12 : own_DJ b'31 12 .ge 32 15 := by decide +kernel
theorem d31_15 : own_D b'31 15 (.aload_n 0) 1 16 := by decide +kernel
theorem d31_16 : own_D b'31 16 (.iload_n 2) 1 17 := by decide +kernel
theorem d31_17 : own_D b'31 17 .baload 1 18 := by decide +kernel
theorem d31_18 : own_D b'31 18 (.aload_n 1) 1 19 := by decide +kernel
theorem d31_19 : own_D b'31 19 (.iload_n 2) 1 20 := by decide +kernel
theorem d31_20 : own_D b'31 20 .baload 1 21 := by decide +kernel
theorem d31_21 : own_DJ b'31 21 .eq 26 24 := by decide +kernel
theorem d31_26 : own_DI b'31 26 2 1 29 := by decide +kernel
theorem d31_29 : own_DG b'31 29 9 := by decide +kernel
theorem d31_32 : own_DK b'31 32 1 33 := by decide +kernel
theorem d31_33 : own_D b'31 33 .ireturn 1 34 := by decide +kernel
theorem pn_31 : plainFor (⟨"java/lang/StringLatin1", "equals", "([B[B)Z"⟩ : MethodName) = true := plainFor_of_name (by first | (simp [plainName, overriddenIn]; done) | decide +kernel)
theorem rm31_L0 (l : Launch) (Z : State) (a0 : Array Value) (hw : own_hw a0 Z) (a1 : Addr) (a2 : Addr) (k1 k2 : ClassId) (h0 : Heap) (n0 : Nat) (Z0 : n0 ≤ h0.size) (V1 : Arv Z h0 a1 k1 .byte (0 : Int32) [] v'0) (V2 : Arv Z h0 a2 k2 .byte (0 : Int32) [] v'0) :
  own_M l Z [] own_y44 b'31 3 (some .boolean) ⟨0, 0, 0, 0⟩ #[(.ref a1), (.ref a2)] h0 (QI (1 : Int32) h0 n0) := by
 refine own_start (n0 := n0) hw "java/lang/StringLatin1" (L := #[.val (.ref a1), .val (.ref a2), .unset]) pn_31 (fun {p e s m below meth c s₁} q hx W hml hZ hown hnm hlk hrt X0 e0 N0 => ?_)
 refine own_aln X0 q d31_0 rfl rfl (own_alen (n := (0 : Int32)) X0 q hZ e0 V1 d31_1 (own_aln X0 q d31_2 rfl rfl (own_alen (n := (0 : Int32)) X0 q hZ e0 V2 d31_3 (own_cn X0 q d31_4 ((teq (rfl : (0 : Int32) = (0 : Int32))).2) (own_k X0 q d31_7 (own_isn X0 q d31_8 (l' := #[.val (.ref a1), .val (.ref a2), .val v'0]) rfl (own_iln X0 q d31_9 rfl (own_aln X0 q d31_10 rfl rfl (own_alen (n := (0 : Int32)) X0 q hZ e0 V1 d31_11 (own_cy X0 q d31_12 ((flt (Int32.lt_irrefl : ¬ ((0 : Int32) < (0 : Int32)))).2.1) (own_k X0 q d31_32 ?_)))))))))))
 refine own_rN X0 q hrt (by simp) d31_33 hlk (by decide) ?_
 show QI (1 : Int32) h0 n0 _ s₁.heap _
 rw [e0]
 exact ⟨rfl, N0, rfl⟩
theorem rm8_L0 (l : Launch) (Z : State) (a0 : Array Value) (hw : own_hw a0 Z) (a1 : Addr) (a2 : Addr) (t1 t2 : Addr) (k1 k2 : ClassId) (cs0 : Int32) (h0 : Heap) (n0 : Nat) (Z0 : n0 ≤ h0.size) (O0 : Old Z n0 h0) (SC_ : own_SC Z cs0) (E1 : Exa Z h0 a1 "java/lang/String") (C1 : F'0 Z h0 a1 v'0) (F1 : F'1 Z h0 a1 (.ref t1)) (V1 : Arv Z h0 t1 k1 .byte (0 : Int32) [] v'0) (E2 : Exa Z h0 a2 "java/lang/String") (C2 : F'0 Z h0 a2 v'0) (F2 : F'1 Z h0 a2 (.ref t2)) (V2 : Arv Z h0 t2 k2 .byte (0 : Int32) [] v'0) (n12 : a1 ≠ a2) :
  own_M l Z [] own_y43 b'8 3 (some .boolean) ⟨1, 0, 0, 14⟩ #[(.ref a1), (.ref a2)] h0 (QI (1 : Int32) h0 n0) := by
 obtain ⟨SCS, hcs⟩ := SC_
 refine own_start (n0 := n0) hw "java/lang/String" (L := #[.val (.ref a1), .val (.ref a2), .unset]) pn_8 (fun {p e s m below meth c s₁} q hx W hml hZ hown hnm hlk hrt X0 e0 N0 => ?_)
 refine own_aln X0 q d8_0 rfl rfl (own_aln X0 q d8_1 rfl rfl (own_stp 7 (fun _ k => Jvm.RoadKit.acmp (g := mkF m 2 _ _) X0 hx rfl rfl rfl (pc0 := 2) (pc' := 7) (same := false) rfl (q.d d8_2) rfl (decide_eq_false fun q => n12 (Value.ref.inj q)) (by decide) (by decide) k) (own_aln X0 q d8_7 rfl rfl ?_)))
 refine own_let ?_; intro g1947_
 obtain ⟨T1948, X1948, e1948, st1948⟩ := instY X0 hx hZ hown (W 172 rfl) e0 (Ins.self E2) (g := g1947_) rfl rfl (q.d d8_8)
 refine own_stp 11 st1948 (own_zn X1948 q d8_11 (((if0 _ _).trans (feq ((by decide) : ¬ ((1 : Int32) = (0 : Int32)))).1)) (own_aln X1948 q d8_14 rfl rfl ?_))
 refine own_let ?_; intro g1949_
 obtain ⟨T1950, X1950, e1950, st1950⟩ := castY X1948 hx hZ hown (W 172 rfl) e1948 (Ins.self E2) (g := g1949_) rfl rfl (q.d d8_15)
 refine own_stp 18 st1950 (own_asn X1950 q d8_18 rfl (l' := #[.val (.ref a1), .val (.ref a2), .val (.ref a2)]) rfl ?_)
 refine own_gS X1950 q hZ e1950 hown (W 99 rfl) (SCS.ext O0.2) d8_19 fun T1951 X1951 e1951 => ?_
 refine own_zn X1951 q d8_22 (((if0 _ _).trans (feq hcs).1)) (own_aln X1951 q d8_25 rfl rfl ?_)
 refine own_gF X1951 q hZ e1951 hown (W 27 rfl) C1 d8_26 fun T1952 X1952 e1952 => ?_
 refine own_aln X1952 q d8_29 rfl rfl ?_
 refine own_gF X1952 q hZ e1952 hown (W 27 rfl) C2 d8_30 fun T1953 X1953 e1953 => ?_
 refine own_cn X1953 q d8_33 ((teq (rfl : (0 : Int32) = (0 : Int32))).2) (own_aln X1953 q d8_36 rfl rfl ?_)
 refine own_gF X1953 q hZ e1953 hown (W 26 rfl) F1 d8_37 fun T1954 X1954 e1954 => ?_
 refine own_aln X1954 q d8_40 rfl rfl ?_
 refine own_gF X1954 q hZ e1954 hown (W 26 rfl) F2 d8_41 fun T1955 X1955 e1955 => ?_
 refine own_cS X1955 q hZ e1955 hown hml (W 173 rfl) (W 174 rfl) (W 175 rfl) (W 176 rfl) (rm31_L0 l Z a0 hw t1 t2 k1 k2  h0 n0 Z0 V1 V2) d8_44 [(.ref t1), (.ref t2)] [] own_pd31 0 (by decide) (fun v1956 T1956 L1956 X1956 hQ1956 => ?_)
 obtain ⟨rfl, N1956q, e1956⟩ := hQ1956
 have N1956 := Fr.app N0 N1956q
 refine own_nv (own_zn X1956 q d8_47 (((if0 _ _).trans (feq ((by decide) : ¬ ((1 : Int32) = (0 : Int32)))).1)) (own_k X1956 q d8_50 (own_gt X1956 q d8_51 ?_)))
 refine own_rN X1956 q hrt (by simp) d8_55 hlk (by decide) ?_
 show QI (1 : Int32) h0 n0 _ T1956.heap _
 rw [e1956]
 exact ⟨rfl, N1956, rfl⟩
theorem rm31_L1 (l : Launch) (Z : State) (a0 : Array Value) (hw : own_hw a0 Z) (a1 : Addr) (a2 : Addr) (k1 k2 : ClassId) (y0 : Int32) (h0 : Heap) (n0 : Nat) (Z0 : n0 ≤ h0.size) (V1 : Arv Z h0 a1 k1 .byte (1 : Int32) [(.int y0)] v'0) (V2 : Arv Z h0 a2 k2 .byte (1 : Int32) [(.int y0)] v'0) :
  own_M l Z [] own_y44 b'31 3 (some .boolean) ⟨0, 0, 0, 0⟩ #[(.ref a1), (.ref a2)] h0 (QI (1 : Int32) h0 n0) := by
 refine own_start (n0 := n0) hw "java/lang/StringLatin1" (L := #[.val (.ref a1), .val (.ref a2), .unset]) pn_31 (fun {p e s m below meth c s₁} q hx W hml hZ hown hnm hlk hrt X0 e0 N0 => ?_)
 refine own_aln X0 q d31_0 rfl rfl (own_alen (n := (1 : Int32)) X0 q hZ e0 V1 d31_1 (own_aln X0 q d31_2 rfl rfl (own_alen (n := (1 : Int32)) X0 q hZ e0 V2 d31_3 (own_cn X0 q d31_4 ((teq (rfl : (1 : Int32) = (1 : Int32))).2) (own_k X0 q d31_7 (own_isn X0 q d31_8 (l' := #[.val (.ref a1), .val (.ref a2), .val v'0]) rfl (own_iln X0 q d31_9 rfl (own_aln X0 q d31_10 rfl rfl (own_alen (n := (1 : Int32)) X0 q hZ e0 V1 d31_11 (own_cn X0 q d31_12 ((tlt ((by decide) : (0 : Int32) < (1 : Int32))).2.1) (own_aln X0 q d31_15 rfl rfl ?_)))))))))))
 refine own_iln X0 q d31_16 rfl (own_bld (v := (.int y0)) X0 q hZ e0 V1 d31_17 (by decide) rfl (own_aln X0 q d31_18 rfl rfl (own_iln X0 q d31_19 rfl (own_bld (v := (.int y0)) X0 q hZ e0 V2 d31_20 (by decide) rfl (own_cy X0 q d31_21 ((teq (rfl : y0 = y0)).1) (own_iik X0 q d31_26 rfl (show ((0 : Int32) + (1 : Int32)) = (1 : Int32) by decide) (l' := #[.val (.ref a1), .val (.ref a2), .val v'1]) rfl (own_gt X0 q d31_29 (own_iln X0 q d31_9 rfl (own_aln X0 q d31_10 rfl rfl (own_alen (n := (1 : Int32)) X0 q hZ e0 V1 d31_11 (own_cy X0 q d31_12 ((flt (Int32.lt_irrefl : ¬ ((1 : Int32) < (1 : Int32)))).2.1) ?_)))))))))))
 refine own_k X0 q d31_32 ?_
 refine own_rN X0 q hrt (by simp) d31_33 hlk (by decide) ?_
 show QI (1 : Int32) h0 n0 _ s₁.heap _
 rw [e0]
 exact ⟨rfl, N0, rfl⟩
theorem rm8_L1 (l : Launch) (Z : State) (a0 : Array Value) (hw : own_hw a0 Z) (a1 : Addr) (a2 : Addr) (t1 t2 : Addr) (k1 k2 : ClassId) (y0 : Int32) (cs0 : Int32) (h0 : Heap) (n0 : Nat) (Z0 : n0 ≤ h0.size) (O0 : Old Z n0 h0) (SC_ : own_SC Z cs0) (E1 : Exa Z h0 a1 "java/lang/String") (C1 : F'0 Z h0 a1 v'0) (F1 : F'1 Z h0 a1 (.ref t1)) (V1 : Arv Z h0 t1 k1 .byte (1 : Int32) [(.int y0)] v'0) (E2 : Exa Z h0 a2 "java/lang/String") (C2 : F'0 Z h0 a2 v'0) (F2 : F'1 Z h0 a2 (.ref t2)) (V2 : Arv Z h0 t2 k2 .byte (1 : Int32) [(.int y0)] v'0) (n12 : a1 ≠ a2) :
  own_M l Z [] own_y43 b'8 3 (some .boolean) ⟨1, 0, 0, 14⟩ #[(.ref a1), (.ref a2)] h0 (QI (1 : Int32) h0 n0) := by
 obtain ⟨SCS, hcs⟩ := SC_
 refine own_start (n0 := n0) hw "java/lang/String" (L := #[.val (.ref a1), .val (.ref a2), .unset]) pn_8 (fun {p e s m below meth c s₁} q hx W hml hZ hown hnm hlk hrt X0 e0 N0 => ?_)
 refine own_aln X0 q d8_0 rfl rfl (own_aln X0 q d8_1 rfl rfl (own_stp 7 (fun _ k => Jvm.RoadKit.acmp (g := mkF m 2 _ _) X0 hx rfl rfl rfl (pc0 := 2) (pc' := 7) (same := false) rfl (q.d d8_2) rfl (decide_eq_false fun q => n12 (Value.ref.inj q)) (by decide) (by decide) k) (own_aln X0 q d8_7 rfl rfl ?_)))
 refine own_let ?_; intro g1967_
 obtain ⟨T1968, X1968, e1968, st1968⟩ := instY X0 hx hZ hown (W 172 rfl) e0 (Ins.self E2) (g := g1967_) rfl rfl (q.d d8_8)
 refine own_stp 11 st1968 (own_zn X1968 q d8_11 (((if0 _ _).trans (feq ((by decide) : ¬ ((1 : Int32) = (0 : Int32)))).1)) (own_aln X1968 q d8_14 rfl rfl ?_))
 refine own_let ?_; intro g1969_
 obtain ⟨T1970, X1970, e1970, st1970⟩ := castY X1968 hx hZ hown (W 172 rfl) e1968 (Ins.self E2) (g := g1969_) rfl rfl (q.d d8_15)
 refine own_stp 18 st1970 (own_asn X1970 q d8_18 rfl (l' := #[.val (.ref a1), .val (.ref a2), .val (.ref a2)]) rfl ?_)
 refine own_gS X1970 q hZ e1970 hown (W 99 rfl) (SCS.ext O0.2) d8_19 fun T1971 X1971 e1971 => ?_
 refine own_zn X1971 q d8_22 (((if0 _ _).trans (feq hcs).1)) (own_aln X1971 q d8_25 rfl rfl ?_)
 refine own_gF X1971 q hZ e1971 hown (W 27 rfl) C1 d8_26 fun T1972 X1972 e1972 => ?_
 refine own_aln X1972 q d8_29 rfl rfl ?_
 refine own_gF X1972 q hZ e1972 hown (W 27 rfl) C2 d8_30 fun T1973 X1973 e1973 => ?_
 refine own_cn X1973 q d8_33 ((teq (rfl : (0 : Int32) = (0 : Int32))).2) (own_aln X1973 q d8_36 rfl rfl ?_)
 refine own_gF X1973 q hZ e1973 hown (W 26 rfl) F1 d8_37 fun T1974 X1974 e1974 => ?_
 refine own_aln X1974 q d8_40 rfl rfl ?_
 refine own_gF X1974 q hZ e1974 hown (W 26 rfl) F2 d8_41 fun T1975 X1975 e1975 => ?_
 refine own_cS X1975 q hZ e1975 hown hml (W 173 rfl) (W 174 rfl) (W 175 rfl) (W 176 rfl) (rm31_L1 l Z a0 hw t1 t2 k1 k2 y0 h0 n0 Z0 V1 V2) d8_44 [(.ref t1), (.ref t2)] [] own_pd31 0 (by decide) (fun v1976 T1976 L1976 X1976 hQ1976 => ?_)
 obtain ⟨rfl, N1976q, e1976⟩ := hQ1976
 have N1976 := Fr.app N0 N1976q
 refine own_nv (own_zn X1976 q d8_47 (((if0 _ _).trans (feq ((by decide) : ¬ ((1 : Int32) = (0 : Int32)))).1)) (own_k X1976 q d8_50 (own_gt X1976 q d8_51 ?_)))
 refine own_rN X1976 q hrt (by simp) d8_55 hlk (by decide) ?_
 show QI (1 : Int32) h0 n0 _ T1976.heap _
 rw [e1976]
 exact ⟨rfl, N1976, rfl⟩
theorem rm31_L2 (l : Launch) (Z : State) (a0 : Array Value) (hw : own_hw a0 Z) (a1 : Addr) (a2 : Addr) (k1 k2 : ClassId) (y0 y1 : Int32) (h0 : Heap) (n0 : Nat) (Z0 : n0 ≤ h0.size) (V1 : Arv Z h0 a1 k1 .byte (2 : Int32) [(.int y0), (.int y1)] v'0) (V2 : Arv Z h0 a2 k2 .byte (2 : Int32) [(.int y0), (.int y1)] v'0) :
  own_M l Z [] own_y44 b'31 3 (some .boolean) ⟨0, 0, 0, 0⟩ #[(.ref a1), (.ref a2)] h0 (QI (1 : Int32) h0 n0) := by
 refine own_start (n0 := n0) hw "java/lang/StringLatin1" (L := #[.val (.ref a1), .val (.ref a2), .unset]) pn_31 (fun {p e s m below meth c s₁} q hx W hml hZ hown hnm hlk hrt X0 e0 N0 => ?_)
 refine own_aln X0 q d31_0 rfl rfl (own_alen (n := (2 : Int32)) X0 q hZ e0 V1 d31_1 (own_aln X0 q d31_2 rfl rfl (own_alen (n := (2 : Int32)) X0 q hZ e0 V2 d31_3 (own_cn X0 q d31_4 ((teq (rfl : (2 : Int32) = (2 : Int32))).2) (own_k X0 q d31_7 (own_isn X0 q d31_8 (l' := #[.val (.ref a1), .val (.ref a2), .val v'0]) rfl (own_iln X0 q d31_9 rfl (own_aln X0 q d31_10 rfl rfl (own_alen (n := (2 : Int32)) X0 q hZ e0 V1 d31_11 (own_cn X0 q d31_12 ((tlt ((by decide) : (0 : Int32) < (2 : Int32))).2.1) (own_aln X0 q d31_15 rfl rfl ?_)))))))))))
 refine own_iln X0 q d31_16 rfl (own_bld (v := (.int y0)) X0 q hZ e0 V1 d31_17 (by decide) rfl (own_aln X0 q d31_18 rfl rfl (own_iln X0 q d31_19 rfl (own_bld (v := (.int y0)) X0 q hZ e0 V2 d31_20 (by decide) rfl (own_cy X0 q d31_21 ((teq (rfl : y0 = y0)).1) (own_iik X0 q d31_26 rfl (show ((0 : Int32) + (1 : Int32)) = (1 : Int32) by decide) (l' := #[.val (.ref a1), .val (.ref a2), .val v'1]) rfl (own_gt X0 q d31_29 (own_iln X0 q d31_9 rfl (own_aln X0 q d31_10 rfl rfl (own_alen (n := (2 : Int32)) X0 q hZ e0 V1 d31_11 (own_cn X0 q d31_12 ((tlt ((by decide) : (1 : Int32) < (2 : Int32))).2.1) ?_)))))))))))
 refine own_aln X0 q d31_15 rfl rfl (own_iln X0 q d31_16 rfl (own_bld (v := (.int y1)) X0 q hZ e0 V1 d31_17 (by decide) rfl (own_aln X0 q d31_18 rfl rfl (own_iln X0 q d31_19 rfl (own_bld (v := (.int y1)) X0 q hZ e0 V2 d31_20 (by decide) rfl (own_cy X0 q d31_21 ((teq (rfl : y1 = y1)).1) (own_iik X0 q d31_26 rfl (show ((1 : Int32) + (1 : Int32)) = (2 : Int32) by decide) (l' := #[.val (.ref a1), .val (.ref a2), .val v'2]) rfl (own_gt X0 q d31_29 (own_iln X0 q d31_9 rfl (own_aln X0 q d31_10 rfl rfl (own_alen (n := (2 : Int32)) X0 q hZ e0 V1 d31_11 ?_)))))))))))
 refine own_cy X0 q d31_12 ((flt (Int32.lt_irrefl : ¬ ((2 : Int32) < (2 : Int32)))).2.1) (own_k X0 q d31_32 ?_)
 refine own_rN X0 q hrt (by simp) d31_33 hlk (by decide) ?_
 show QI (1 : Int32) h0 n0 _ s₁.heap _
 rw [e0]
 exact ⟨rfl, N0, rfl⟩
theorem rm8_L2 (l : Launch) (Z : State) (a0 : Array Value) (hw : own_hw a0 Z) (a1 : Addr) (a2 : Addr) (t1 t2 : Addr) (k1 k2 : ClassId) (y0 y1 : Int32) (cs0 : Int32) (h0 : Heap) (n0 : Nat) (Z0 : n0 ≤ h0.size) (O0 : Old Z n0 h0) (SC_ : own_SC Z cs0) (E1 : Exa Z h0 a1 "java/lang/String") (C1 : F'0 Z h0 a1 v'0) (F1 : F'1 Z h0 a1 (.ref t1)) (V1 : Arv Z h0 t1 k1 .byte (2 : Int32) [(.int y0), (.int y1)] v'0) (E2 : Exa Z h0 a2 "java/lang/String") (C2 : F'0 Z h0 a2 v'0) (F2 : F'1 Z h0 a2 (.ref t2)) (V2 : Arv Z h0 t2 k2 .byte (2 : Int32) [(.int y0), (.int y1)] v'0) (n12 : a1 ≠ a2) :
  own_M l Z [] own_y43 b'8 3 (some .boolean) ⟨1, 0, 0, 14⟩ #[(.ref a1), (.ref a2)] h0 (QI (1 : Int32) h0 n0) := by
 obtain ⟨SCS, hcs⟩ := SC_
 refine own_start (n0 := n0) hw "java/lang/String" (L := #[.val (.ref a1), .val (.ref a2), .unset]) pn_8 (fun {p e s m below meth c s₁} q hx W hml hZ hown hnm hlk hrt X0 e0 N0 => ?_)
 refine own_aln X0 q d8_0 rfl rfl (own_aln X0 q d8_1 rfl rfl (own_stp 7 (fun _ k => Jvm.RoadKit.acmp (g := mkF m 2 _ _) X0 hx rfl rfl rfl (pc0 := 2) (pc' := 7) (same := false) rfl (q.d d8_2) rfl (decide_eq_false fun q => n12 (Value.ref.inj q)) (by decide) (by decide) k) (own_aln X0 q d8_7 rfl rfl ?_)))
 refine own_let ?_; intro g1987_
 obtain ⟨T1988, X1988, e1988, st1988⟩ := instY X0 hx hZ hown (W 172 rfl) e0 (Ins.self E2) (g := g1987_) rfl rfl (q.d d8_8)
 refine own_stp 11 st1988 (own_zn X1988 q d8_11 (((if0 _ _).trans (feq ((by decide) : ¬ ((1 : Int32) = (0 : Int32)))).1)) (own_aln X1988 q d8_14 rfl rfl ?_))
 refine own_let ?_; intro g1989_
 obtain ⟨T1990, X1990, e1990, st1990⟩ := castY X1988 hx hZ hown (W 172 rfl) e1988 (Ins.self E2) (g := g1989_) rfl rfl (q.d d8_15)
 refine own_stp 18 st1990 (own_asn X1990 q d8_18 rfl (l' := #[.val (.ref a1), .val (.ref a2), .val (.ref a2)]) rfl ?_)
 refine own_gS X1990 q hZ e1990 hown (W 99 rfl) (SCS.ext O0.2) d8_19 fun T1991 X1991 e1991 => ?_
 refine own_zn X1991 q d8_22 (((if0 _ _).trans (feq hcs).1)) (own_aln X1991 q d8_25 rfl rfl ?_)
 refine own_gF X1991 q hZ e1991 hown (W 27 rfl) C1 d8_26 fun T1992 X1992 e1992 => ?_
 refine own_aln X1992 q d8_29 rfl rfl ?_
 refine own_gF X1992 q hZ e1992 hown (W 27 rfl) C2 d8_30 fun T1993 X1993 e1993 => ?_
 refine own_cn X1993 q d8_33 ((teq (rfl : (0 : Int32) = (0 : Int32))).2) (own_aln X1993 q d8_36 rfl rfl ?_)
 refine own_gF X1993 q hZ e1993 hown (W 26 rfl) F1 d8_37 fun T1994 X1994 e1994 => ?_
 refine own_aln X1994 q d8_40 rfl rfl ?_
 refine own_gF X1994 q hZ e1994 hown (W 26 rfl) F2 d8_41 fun T1995 X1995 e1995 => ?_
 refine own_cS X1995 q hZ e1995 hown hml (W 173 rfl) (W 174 rfl) (W 175 rfl) (W 176 rfl) (rm31_L2 l Z a0 hw t1 t2 k1 k2 y0 y1 h0 n0 Z0 V1 V2) d8_44 [(.ref t1), (.ref t2)] [] own_pd31 0 (by decide) (fun v1996 T1996 L1996 X1996 hQ1996 => ?_)
 obtain ⟨rfl, N1996q, e1996⟩ := hQ1996
 have N1996 := Fr.app N0 N1996q
 refine own_nv (own_zn X1996 q d8_47 (((if0 _ _).trans (feq ((by decide) : ¬ ((1 : Int32) = (0 : Int32)))).1)) (own_k X1996 q d8_50 (own_gt X1996 q d8_51 ?_)))
 refine own_rN X1996 q hrt (by simp) d8_55 hlk (by decide) ?_
 show QI (1 : Int32) h0 n0 _ T1996.heap _
 rw [e1996]
 exact ⟨rfl, N1996, rfl⟩
theorem rm31_L3 (l : Launch) (Z : State) (a0 : Array Value) (hw : own_hw a0 Z) (a1 : Addr) (a2 : Addr) (k1 k2 : ClassId) (y0 y1 y2 : Int32) (h0 : Heap) (n0 : Nat) (Z0 : n0 ≤ h0.size) (V1 : Arv Z h0 a1 k1 .byte (3 : Int32) [(.int y0), (.int y1), (.int y2)] v'0) (V2 : Arv Z h0 a2 k2 .byte (3 : Int32) [(.int y0), (.int y1), (.int y2)] v'0) :
  own_M l Z [] own_y44 b'31 3 (some .boolean) ⟨0, 0, 0, 0⟩ #[(.ref a1), (.ref a2)] h0 (QI (1 : Int32) h0 n0) := by
 refine own_start (n0 := n0) hw "java/lang/StringLatin1" (L := #[.val (.ref a1), .val (.ref a2), .unset]) pn_31 (fun {p e s m below meth c s₁} q hx W hml hZ hown hnm hlk hrt X0 e0 N0 => ?_)
 refine own_aln X0 q d31_0 rfl rfl (own_alen (n := (3 : Int32)) X0 q hZ e0 V1 d31_1 (own_aln X0 q d31_2 rfl rfl (own_alen (n := (3 : Int32)) X0 q hZ e0 V2 d31_3 (own_cn X0 q d31_4 ((teq (rfl : (3 : Int32) = (3 : Int32))).2) (own_k X0 q d31_7 (own_isn X0 q d31_8 (l' := #[.val (.ref a1), .val (.ref a2), .val v'0]) rfl (own_iln X0 q d31_9 rfl (own_aln X0 q d31_10 rfl rfl (own_alen (n := (3 : Int32)) X0 q hZ e0 V1 d31_11 (own_cn X0 q d31_12 ((tlt ((by decide) : (0 : Int32) < (3 : Int32))).2.1) (own_aln X0 q d31_15 rfl rfl ?_)))))))))))
 refine own_iln X0 q d31_16 rfl (own_bld (v := (.int y0)) X0 q hZ e0 V1 d31_17 (by decide) rfl (own_aln X0 q d31_18 rfl rfl (own_iln X0 q d31_19 rfl (own_bld (v := (.int y0)) X0 q hZ e0 V2 d31_20 (by decide) rfl (own_cy X0 q d31_21 ((teq (rfl : y0 = y0)).1) (own_iik X0 q d31_26 rfl (show ((0 : Int32) + (1 : Int32)) = (1 : Int32) by decide) (l' := #[.val (.ref a1), .val (.ref a2), .val v'1]) rfl (own_gt X0 q d31_29 (own_iln X0 q d31_9 rfl (own_aln X0 q d31_10 rfl rfl (own_alen (n := (3 : Int32)) X0 q hZ e0 V1 d31_11 (own_cn X0 q d31_12 ((tlt ((by decide) : (1 : Int32) < (3 : Int32))).2.1) ?_)))))))))))
 refine own_aln X0 q d31_15 rfl rfl (own_iln X0 q d31_16 rfl (own_bld (v := (.int y1)) X0 q hZ e0 V1 d31_17 (by decide) rfl (own_aln X0 q d31_18 rfl rfl (own_iln X0 q d31_19 rfl (own_bld (v := (.int y1)) X0 q hZ e0 V2 d31_20 (by decide) rfl (own_cy X0 q d31_21 ((teq (rfl : y1 = y1)).1) (own_iik X0 q d31_26 rfl (show ((1 : Int32) + (1 : Int32)) = (2 : Int32) by decide) (l' := #[.val (.ref a1), .val (.ref a2), .val v'2]) rfl (own_gt X0 q d31_29 (own_iln X0 q d31_9 rfl (own_aln X0 q d31_10 rfl rfl (own_alen (n := (3 : Int32)) X0 q hZ e0 V1 d31_11 ?_)))))))))))
 refine own_cn X0 q d31_12 ((tlt ((by decide) : (2 : Int32) < (3 : Int32))).2.1) (own_aln X0 q d31_15 rfl rfl (own_iln X0 q d31_16 rfl (own_bld (v := (.int y2)) X0 q hZ e0 V1 d31_17 (by decide) rfl (own_aln X0 q d31_18 rfl rfl (own_iln X0 q d31_19 rfl (own_bld (v := (.int y2)) X0 q hZ e0 V2 d31_20 (by decide) rfl (own_cy X0 q d31_21 ((teq (rfl : y2 = y2)).1) (own_iik X0 q d31_26 rfl (show ((2 : Int32) + (1 : Int32)) = (3 : Int32) by decide) (l' := #[.val (.ref a1), .val (.ref a2), .val v'3]) rfl (own_gt X0 q d31_29 (own_iln X0 q d31_9 rfl (own_aln X0 q d31_10 rfl rfl ?_)))))))))))
 refine own_alen (n := (3 : Int32)) X0 q hZ e0 V1 d31_11 (own_cy X0 q d31_12 ((flt (Int32.lt_irrefl : ¬ ((3 : Int32) < (3 : Int32)))).2.1) (own_k X0 q d31_32 ?_))
 refine own_rN X0 q hrt (by simp) d31_33 hlk (by decide) ?_
 show QI (1 : Int32) h0 n0 _ s₁.heap _
 rw [e0]
 exact ⟨rfl, N0, rfl⟩
theorem rm8_L3 (l : Launch) (Z : State) (a0 : Array Value) (hw : own_hw a0 Z) (a1 : Addr) (a2 : Addr) (t1 t2 : Addr) (k1 k2 : ClassId) (y0 y1 y2 : Int32) (cs0 : Int32) (h0 : Heap) (n0 : Nat) (Z0 : n0 ≤ h0.size) (O0 : Old Z n0 h0) (SC_ : own_SC Z cs0) (E1 : Exa Z h0 a1 "java/lang/String") (C1 : F'0 Z h0 a1 v'0) (F1 : F'1 Z h0 a1 (.ref t1)) (V1 : Arv Z h0 t1 k1 .byte (3 : Int32) [(.int y0), (.int y1), (.int y2)] v'0) (E2 : Exa Z h0 a2 "java/lang/String") (C2 : F'0 Z h0 a2 v'0) (F2 : F'1 Z h0 a2 (.ref t2)) (V2 : Arv Z h0 t2 k2 .byte (3 : Int32) [(.int y0), (.int y1), (.int y2)] v'0) (n12 : a1 ≠ a2) :
  own_M l Z [] own_y43 b'8 3 (some .boolean) ⟨1, 0, 0, 14⟩ #[(.ref a1), (.ref a2)] h0 (QI (1 : Int32) h0 n0) := by
 obtain ⟨SCS, hcs⟩ := SC_
 refine own_start (n0 := n0) hw "java/lang/String" (L := #[.val (.ref a1), .val (.ref a2), .unset]) pn_8 (fun {p e s m below meth c s₁} q hx W hml hZ hown hnm hlk hrt X0 e0 N0 => ?_)
 refine own_aln X0 q d8_0 rfl rfl (own_aln X0 q d8_1 rfl rfl (own_stp 7 (fun _ k => Jvm.RoadKit.acmp (g := mkF m 2 _ _) X0 hx rfl rfl rfl (pc0 := 2) (pc' := 7) (same := false) rfl (q.d d8_2) rfl (decide_eq_false fun q => n12 (Value.ref.inj q)) (by decide) (by decide) k) (own_aln X0 q d8_7 rfl rfl ?_)))
 refine own_let ?_; intro g2007_
 obtain ⟨T2008, X2008, e2008, st2008⟩ := instY X0 hx hZ hown (W 172 rfl) e0 (Ins.self E2) (g := g2007_) rfl rfl (q.d d8_8)
 refine own_stp 11 st2008 (own_zn X2008 q d8_11 (((if0 _ _).trans (feq ((by decide) : ¬ ((1 : Int32) = (0 : Int32)))).1)) (own_aln X2008 q d8_14 rfl rfl ?_))
 refine own_let ?_; intro g2009_
 obtain ⟨T2010, X2010, e2010, st2010⟩ := castY X2008 hx hZ hown (W 172 rfl) e2008 (Ins.self E2) (g := g2009_) rfl rfl (q.d d8_15)
 refine own_stp 18 st2010 (own_asn X2010 q d8_18 rfl (l' := #[.val (.ref a1), .val (.ref a2), .val (.ref a2)]) rfl ?_)
 refine own_gS X2010 q hZ e2010 hown (W 99 rfl) (SCS.ext O0.2) d8_19 fun T2011 X2011 e2011 => ?_
 refine own_zn X2011 q d8_22 (((if0 _ _).trans (feq hcs).1)) (own_aln X2011 q d8_25 rfl rfl ?_)
 refine own_gF X2011 q hZ e2011 hown (W 27 rfl) C1 d8_26 fun T2012 X2012 e2012 => ?_
 refine own_aln X2012 q d8_29 rfl rfl ?_
 refine own_gF X2012 q hZ e2012 hown (W 27 rfl) C2 d8_30 fun T2013 X2013 e2013 => ?_
 refine own_cn X2013 q d8_33 ((teq (rfl : (0 : Int32) = (0 : Int32))).2) (own_aln X2013 q d8_36 rfl rfl ?_)
 refine own_gF X2013 q hZ e2013 hown (W 26 rfl) F1 d8_37 fun T2014 X2014 e2014 => ?_
 refine own_aln X2014 q d8_40 rfl rfl ?_
 refine own_gF X2014 q hZ e2014 hown (W 26 rfl) F2 d8_41 fun T2015 X2015 e2015 => ?_
 refine own_cS X2015 q hZ e2015 hown hml (W 173 rfl) (W 174 rfl) (W 175 rfl) (W 176 rfl) (rm31_L3 l Z a0 hw t1 t2 k1 k2 y0 y1 y2 h0 n0 Z0 V1 V2) d8_44 [(.ref t1), (.ref t2)] [] own_pd31 0 (by decide) (fun v2016 T2016 L2016 X2016 hQ2016 => ?_)
 obtain ⟨rfl, N2016q, e2016⟩ := hQ2016
 have N2016 := Fr.app N0 N2016q
 refine own_nv (own_zn X2016 q d8_47 (((if0 _ _).trans (feq ((by decide) : ¬ ((1 : Int32) = (0 : Int32)))).1)) (own_k X2016 q d8_50 (own_gt X2016 q d8_51 ?_)))
 refine own_rN X2016 q hrt (by simp) d8_55 hlk (by decide) ?_
 show QI (1 : Int32) h0 n0 _ T2016.heap _
 rw [e2016]
 exact ⟨rfl, N2016, rfl⟩
theorem rm31_L4 (l : Launch) (Z : State) (a0 : Array Value) (hw : own_hw a0 Z) (a1 : Addr) (a2 : Addr) (k1 k2 : ClassId) (y0 y1 y2 y3 : Int32) (h0 : Heap) (n0 : Nat) (Z0 : n0 ≤ h0.size) (V1 : Arv Z h0 a1 k1 .byte (4 : Int32) [(.int y0), (.int y1), (.int y2), (.int y3)] v'0) (V2 : Arv Z h0 a2 k2 .byte (4 : Int32) [(.int y0), (.int y1), (.int y2), (.int y3)] v'0) :
  own_M l Z [] own_y44 b'31 3 (some .boolean) ⟨0, 0, 0, 0⟩ #[(.ref a1), (.ref a2)] h0 (QI (1 : Int32) h0 n0) := by
 refine own_start (n0 := n0) hw "java/lang/StringLatin1" (L := #[.val (.ref a1), .val (.ref a2), .unset]) pn_31 (fun {p e s m below meth c s₁} q hx W hml hZ hown hnm hlk hrt X0 e0 N0 => ?_)
 refine own_aln X0 q d31_0 rfl rfl (own_alen (n := (4 : Int32)) X0 q hZ e0 V1 d31_1 (own_aln X0 q d31_2 rfl rfl (own_alen (n := (4 : Int32)) X0 q hZ e0 V2 d31_3 (own_cn X0 q d31_4 ((teq (rfl : (4 : Int32) = (4 : Int32))).2) (own_k X0 q d31_7 (own_isn X0 q d31_8 (l' := #[.val (.ref a1), .val (.ref a2), .val v'0]) rfl (own_iln X0 q d31_9 rfl (own_aln X0 q d31_10 rfl rfl (own_alen (n := (4 : Int32)) X0 q hZ e0 V1 d31_11 (own_cn X0 q d31_12 ((tlt ((by decide) : (0 : Int32) < (4 : Int32))).2.1) (own_aln X0 q d31_15 rfl rfl ?_)))))))))))
 refine own_iln X0 q d31_16 rfl (own_bld (v := (.int y0)) X0 q hZ e0 V1 d31_17 (by decide) rfl (own_aln X0 q d31_18 rfl rfl (own_iln X0 q d31_19 rfl (own_bld (v := (.int y0)) X0 q hZ e0 V2 d31_20 (by decide) rfl (own_cy X0 q d31_21 ((teq (rfl : y0 = y0)).1) (own_iik X0 q d31_26 rfl (show ((0 : Int32) + (1 : Int32)) = (1 : Int32) by decide) (l' := #[.val (.ref a1), .val (.ref a2), .val v'1]) rfl (own_gt X0 q d31_29 (own_iln X0 q d31_9 rfl (own_aln X0 q d31_10 rfl rfl (own_alen (n := (4 : Int32)) X0 q hZ e0 V1 d31_11 (own_cn X0 q d31_12 ((tlt ((by decide) : (1 : Int32) < (4 : Int32))).2.1) ?_)))))))))))
 refine own_aln X0 q d31_15 rfl rfl (own_iln X0 q d31_16 rfl (own_bld (v := (.int y1)) X0 q hZ e0 V1 d31_17 (by decide) rfl (own_aln X0 q d31_18 rfl rfl (own_iln X0 q d31_19 rfl (own_bld (v := (.int y1)) X0 q hZ e0 V2 d31_20 (by decide) rfl (own_cy X0 q d31_21 ((teq (rfl : y1 = y1)).1) (own_iik X0 q d31_26 rfl (show ((1 : Int32) + (1 : Int32)) = (2 : Int32) by decide) (l' := #[.val (.ref a1), .val (.ref a2), .val v'2]) rfl (own_gt X0 q d31_29 (own_iln X0 q d31_9 rfl (own_aln X0 q d31_10 rfl rfl (own_alen (n := (4 : Int32)) X0 q hZ e0 V1 d31_11 ?_)))))))))))
 refine own_cn X0 q d31_12 ((tlt ((by decide) : (2 : Int32) < (4 : Int32))).2.1) (own_aln X0 q d31_15 rfl rfl (own_iln X0 q d31_16 rfl (own_bld (v := (.int y2)) X0 q hZ e0 V1 d31_17 (by decide) rfl (own_aln X0 q d31_18 rfl rfl (own_iln X0 q d31_19 rfl (own_bld (v := (.int y2)) X0 q hZ e0 V2 d31_20 (by decide) rfl (own_cy X0 q d31_21 ((teq (rfl : y2 = y2)).1) (own_iik X0 q d31_26 rfl (show ((2 : Int32) + (1 : Int32)) = (3 : Int32) by decide) (l' := #[.val (.ref a1), .val (.ref a2), .val v'3]) rfl (own_gt X0 q d31_29 (own_iln X0 q d31_9 rfl (own_aln X0 q d31_10 rfl rfl ?_)))))))))))
 refine own_alen (n := (4 : Int32)) X0 q hZ e0 V1 d31_11 (own_cn X0 q d31_12 ((tlt ((by decide) : (3 : Int32) < (4 : Int32))).2.1) (own_aln X0 q d31_15 rfl rfl (own_iln X0 q d31_16 rfl (own_bld (v := (.int y3)) X0 q hZ e0 V1 d31_17 (by decide) rfl (own_aln X0 q d31_18 rfl rfl (own_iln X0 q d31_19 rfl (own_bld (v := (.int y3)) X0 q hZ e0 V2 d31_20 (by decide) rfl (own_cy X0 q d31_21 ((teq (rfl : y3 = y3)).1) (own_iik X0 q d31_26 rfl (show ((3 : Int32) + (1 : Int32)) = (4 : Int32) by decide) (l' := #[.val (.ref a1), .val (.ref a2), .val v'4]) rfl (own_gt X0 q d31_29 (own_iln X0 q d31_9 rfl ?_)))))))))))
 refine own_aln X0 q d31_10 rfl rfl (own_alen (n := (4 : Int32)) X0 q hZ e0 V1 d31_11 (own_cy X0 q d31_12 ((flt (Int32.lt_irrefl : ¬ ((4 : Int32) < (4 : Int32)))).2.1) (own_k X0 q d31_32 ?_)))
 refine own_rN X0 q hrt (by simp) d31_33 hlk (by decide) ?_
 show QI (1 : Int32) h0 n0 _ s₁.heap _
 rw [e0]
 exact ⟨rfl, N0, rfl⟩
theorem rm8_L4 (l : Launch) (Z : State) (a0 : Array Value) (hw : own_hw a0 Z) (a1 : Addr) (a2 : Addr) (t1 t2 : Addr) (k1 k2 : ClassId) (y0 y1 y2 y3 : Int32) (cs0 : Int32) (h0 : Heap) (n0 : Nat) (Z0 : n0 ≤ h0.size) (O0 : Old Z n0 h0) (SC_ : own_SC Z cs0) (E1 : Exa Z h0 a1 "java/lang/String") (C1 : F'0 Z h0 a1 v'0) (F1 : F'1 Z h0 a1 (.ref t1)) (V1 : Arv Z h0 t1 k1 .byte (4 : Int32) [(.int y0), (.int y1), (.int y2), (.int y3)] v'0) (E2 : Exa Z h0 a2 "java/lang/String") (C2 : F'0 Z h0 a2 v'0) (F2 : F'1 Z h0 a2 (.ref t2)) (V2 : Arv Z h0 t2 k2 .byte (4 : Int32) [(.int y0), (.int y1), (.int y2), (.int y3)] v'0) (n12 : a1 ≠ a2) :
  own_M l Z [] own_y43 b'8 3 (some .boolean) ⟨1, 0, 0, 14⟩ #[(.ref a1), (.ref a2)] h0 (QI (1 : Int32) h0 n0) := by
 obtain ⟨SCS, hcs⟩ := SC_
 refine own_start (n0 := n0) hw "java/lang/String" (L := #[.val (.ref a1), .val (.ref a2), .unset]) pn_8 (fun {p e s m below meth c s₁} q hx W hml hZ hown hnm hlk hrt X0 e0 N0 => ?_)
 refine own_aln X0 q d8_0 rfl rfl (own_aln X0 q d8_1 rfl rfl (own_stp 7 (fun _ k => Jvm.RoadKit.acmp (g := mkF m 2 _ _) X0 hx rfl rfl rfl (pc0 := 2) (pc' := 7) (same := false) rfl (q.d d8_2) rfl (decide_eq_false fun q => n12 (Value.ref.inj q)) (by decide) (by decide) k) (own_aln X0 q d8_7 rfl rfl ?_)))
 refine own_let ?_; intro g2027_
 obtain ⟨T2028, X2028, e2028, st2028⟩ := instY X0 hx hZ hown (W 172 rfl) e0 (Ins.self E2) (g := g2027_) rfl rfl (q.d d8_8)
 refine own_stp 11 st2028 (own_zn X2028 q d8_11 (((if0 _ _).trans (feq ((by decide) : ¬ ((1 : Int32) = (0 : Int32)))).1)) (own_aln X2028 q d8_14 rfl rfl ?_))
 refine own_let ?_; intro g2029_
 obtain ⟨T2030, X2030, e2030, st2030⟩ := castY X2028 hx hZ hown (W 172 rfl) e2028 (Ins.self E2) (g := g2029_) rfl rfl (q.d d8_15)
 refine own_stp 18 st2030 (own_asn X2030 q d8_18 rfl (l' := #[.val (.ref a1), .val (.ref a2), .val (.ref a2)]) rfl ?_)
 refine own_gS X2030 q hZ e2030 hown (W 99 rfl) (SCS.ext O0.2) d8_19 fun T2031 X2031 e2031 => ?_
 refine own_zn X2031 q d8_22 (((if0 _ _).trans (feq hcs).1)) (own_aln X2031 q d8_25 rfl rfl ?_)
 refine own_gF X2031 q hZ e2031 hown (W 27 rfl) C1 d8_26 fun T2032 X2032 e2032 => ?_
 refine own_aln X2032 q d8_29 rfl rfl ?_
 refine own_gF X2032 q hZ e2032 hown (W 27 rfl) C2 d8_30 fun T2033 X2033 e2033 => ?_
 refine own_cn X2033 q d8_33 ((teq (rfl : (0 : Int32) = (0 : Int32))).2) (own_aln X2033 q d8_36 rfl rfl ?_)
 refine own_gF X2033 q hZ e2033 hown (W 26 rfl) F1 d8_37 fun T2034 X2034 e2034 => ?_
 refine own_aln X2034 q d8_40 rfl rfl ?_
 refine own_gF X2034 q hZ e2034 hown (W 26 rfl) F2 d8_41 fun T2035 X2035 e2035 => ?_
 refine own_cS X2035 q hZ e2035 hown hml (W 173 rfl) (W 174 rfl) (W 175 rfl) (W 176 rfl) (rm31_L4 l Z a0 hw t1 t2 k1 k2 y0 y1 y2 y3 h0 n0 Z0 V1 V2) d8_44 [(.ref t1), (.ref t2)] [] own_pd31 0 (by decide) (fun v2036 T2036 L2036 X2036 hQ2036 => ?_)
 obtain ⟨rfl, N2036q, e2036⟩ := hQ2036
 have N2036 := Fr.app N0 N2036q
 refine own_nv (own_zn X2036 q d8_47 (((if0 _ _).trans (feq ((by decide) : ¬ ((1 : Int32) = (0 : Int32)))).1)) (own_k X2036 q d8_50 (own_gt X2036 q d8_51 ?_)))
 refine own_rN X2036 q hrt (by simp) d8_55 hlk (by decide) ?_
 show QI (1 : Int32) h0 n0 _ T2036.heap _
 rw [e2036]
 exact ⟨rfl, N2036, rfl⟩
theorem rm31_U1 (l : Launch) (Z : State) (a0 : Array Value) (hw : own_hw a0 Z) (a1 : Addr) (a2 : Addr) (k1 k2 : ClassId) (y0 y1 : Int32) (h0 : Heap) (n0 : Nat) (Z0 : n0 ≤ h0.size) (V1 : Arv Z h0 a1 k1 .byte (2 : Int32) [(.int y0), (.int y1)] v'0) (V2 : Arv Z h0 a2 k2 .byte (2 : Int32) [(.int y0), (.int y1)] v'0) :
  own_M l Z [] own_y44 b'31 3 (some .boolean) ⟨0, 0, 0, 0⟩ #[(.ref a1), (.ref a2)] h0 (QI (1 : Int32) h0 n0) := by
 refine own_start (n0 := n0) hw "java/lang/StringLatin1" (L := #[.val (.ref a1), .val (.ref a2), .unset]) pn_31 (fun {p e s m below meth c s₁} q hx W hml hZ hown hnm hlk hrt X0 e0 N0 => ?_)
 refine own_aln X0 q d31_0 rfl rfl (own_alen (n := (2 : Int32)) X0 q hZ e0 V1 d31_1 (own_aln X0 q d31_2 rfl rfl (own_alen (n := (2 : Int32)) X0 q hZ e0 V2 d31_3 (own_cn X0 q d31_4 ((teq (rfl : (2 : Int32) = (2 : Int32))).2) (own_k X0 q d31_7 (own_isn X0 q d31_8 (l' := #[.val (.ref a1), .val (.ref a2), .val v'0]) rfl (own_iln X0 q d31_9 rfl (own_aln X0 q d31_10 rfl rfl (own_alen (n := (2 : Int32)) X0 q hZ e0 V1 d31_11 (own_cn X0 q d31_12 ((tlt ((by decide) : (0 : Int32) < (2 : Int32))).2.1) (own_aln X0 q d31_15 rfl rfl ?_)))))))))))
 refine own_iln X0 q d31_16 rfl (own_bld (v := (.int y0)) X0 q hZ e0 V1 d31_17 (by decide) rfl (own_aln X0 q d31_18 rfl rfl (own_iln X0 q d31_19 rfl (own_bld (v := (.int y0)) X0 q hZ e0 V2 d31_20 (by decide) rfl (own_cy X0 q d31_21 ((teq (rfl : y0 = y0)).1) (own_iik X0 q d31_26 rfl (show ((0 : Int32) + (1 : Int32)) = (1 : Int32) by decide) (l' := #[.val (.ref a1), .val (.ref a2), .val v'1]) rfl (own_gt X0 q d31_29 (own_iln X0 q d31_9 rfl (own_aln X0 q d31_10 rfl rfl (own_alen (n := (2 : Int32)) X0 q hZ e0 V1 d31_11 (own_cn X0 q d31_12 ((tlt ((by decide) : (1 : Int32) < (2 : Int32))).2.1) ?_)))))))))))
 refine own_aln X0 q d31_15 rfl rfl (own_iln X0 q d31_16 rfl (own_bld (v := (.int y1)) X0 q hZ e0 V1 d31_17 (by decide) rfl (own_aln X0 q d31_18 rfl rfl (own_iln X0 q d31_19 rfl (own_bld (v := (.int y1)) X0 q hZ e0 V2 d31_20 (by decide) rfl (own_cy X0 q d31_21 ((teq (rfl : y1 = y1)).1) (own_iik X0 q d31_26 rfl (show ((1 : Int32) + (1 : Int32)) = (2 : Int32) by decide) (l' := #[.val (.ref a1), .val (.ref a2), .val v'2]) rfl (own_gt X0 q d31_29 (own_iln X0 q d31_9 rfl (own_aln X0 q d31_10 rfl rfl (own_alen (n := (2 : Int32)) X0 q hZ e0 V1 d31_11 ?_)))))))))))
 refine own_cy X0 q d31_12 ((flt (Int32.lt_irrefl : ¬ ((2 : Int32) < (2 : Int32)))).2.1) (own_k X0 q d31_32 ?_)
 refine own_rN X0 q hrt (by simp) d31_33 hlk (by decide) ?_
 show QI (1 : Int32) h0 n0 _ s₁.heap _
 rw [e0]
 exact ⟨rfl, N0, rfl⟩
theorem rm8_U1 (l : Launch) (Z : State) (a0 : Array Value) (hw : own_hw a0 Z) (a1 : Addr) (a2 : Addr) (t1 t2 : Addr) (k1 k2 : ClassId) (y0 y1 : Int32) (cs0 : Int32) (h0 : Heap) (n0 : Nat) (Z0 : n0 ≤ h0.size) (O0 : Old Z n0 h0) (SC_ : own_SC Z cs0) (E1 : Exa Z h0 a1 "java/lang/String") (C1 : F'0 Z h0 a1 v'1) (F1 : F'1 Z h0 a1 (.ref t1)) (V1 : Arv Z h0 t1 k1 .byte (2 : Int32) [(.int y0), (.int y1)] v'0) (E2 : Exa Z h0 a2 "java/lang/String") (C2 : F'0 Z h0 a2 v'1) (F2 : F'1 Z h0 a2 (.ref t2)) (V2 : Arv Z h0 t2 k2 .byte (2 : Int32) [(.int y0), (.int y1)] v'0) (n12 : a1 ≠ a2) :
  own_M l Z [] own_y43 b'8 3 (some .boolean) ⟨1, 0, 0, 14⟩ #[(.ref a1), (.ref a2)] h0 (QI (1 : Int32) h0 n0) := by
 obtain ⟨SCS, hcs⟩ := SC_
 refine own_start (n0 := n0) hw "java/lang/String" (L := #[.val (.ref a1), .val (.ref a2), .unset]) pn_8 (fun {p e s m below meth c s₁} q hx W hml hZ hown hnm hlk hrt X0 e0 N0 => ?_)
 refine own_aln X0 q d8_0 rfl rfl (own_aln X0 q d8_1 rfl rfl (own_stp 7 (fun _ k => Jvm.RoadKit.acmp (g := mkF m 2 _ _) X0 hx rfl rfl rfl (pc0 := 2) (pc' := 7) (same := false) rfl (q.d d8_2) rfl (decide_eq_false fun q => n12 (Value.ref.inj q)) (by decide) (by decide) k) (own_aln X0 q d8_7 rfl rfl ?_)))
 refine own_let ?_; intro g2047_
 obtain ⟨T2048, X2048, e2048, st2048⟩ := instY X0 hx hZ hown (W 172 rfl) e0 (Ins.self E2) (g := g2047_) rfl rfl (q.d d8_8)
 refine own_stp 11 st2048 (own_zn X2048 q d8_11 (((if0 _ _).trans (feq ((by decide) : ¬ ((1 : Int32) = (0 : Int32)))).1)) (own_aln X2048 q d8_14 rfl rfl ?_))
 refine own_let ?_; intro g2049_
 obtain ⟨T2050, X2050, e2050, st2050⟩ := castY X2048 hx hZ hown (W 172 rfl) e2048 (Ins.self E2) (g := g2049_) rfl rfl (q.d d8_15)
 refine own_stp 18 st2050 (own_asn X2050 q d8_18 rfl (l' := #[.val (.ref a1), .val (.ref a2), .val (.ref a2)]) rfl ?_)
 refine own_gS X2050 q hZ e2050 hown (W 99 rfl) (SCS.ext O0.2) d8_19 fun T2051 X2051 e2051 => ?_
 refine own_zn X2051 q d8_22 (((if0 _ _).trans (feq hcs).1)) (own_aln X2051 q d8_25 rfl rfl ?_)
 refine own_gF X2051 q hZ e2051 hown (W 27 rfl) C1 d8_26 fun T2052 X2052 e2052 => ?_
 refine own_aln X2052 q d8_29 rfl rfl ?_
 refine own_gF X2052 q hZ e2052 hown (W 27 rfl) C2 d8_30 fun T2053 X2053 e2053 => ?_
 refine own_cn X2053 q d8_33 ((teq (rfl : (1 : Int32) = (1 : Int32))).2) (own_aln X2053 q d8_36 rfl rfl ?_)
 refine own_gF X2053 q hZ e2053 hown (W 26 rfl) F1 d8_37 fun T2054 X2054 e2054 => ?_
 refine own_aln X2054 q d8_40 rfl rfl ?_
 refine own_gF X2054 q hZ e2054 hown (W 26 rfl) F2 d8_41 fun T2055 X2055 e2055 => ?_
 refine own_cS X2055 q hZ e2055 hown hml (W 173 rfl) (W 174 rfl) (W 175 rfl) (W 176 rfl) (rm31_U1 l Z a0 hw t1 t2 k1 k2 y0 y1 h0 n0 Z0 V1 V2) d8_44 [(.ref t1), (.ref t2)] [] own_pd31 0 (by decide) (fun v2056 T2056 L2056 X2056 hQ2056 => ?_)
 obtain ⟨rfl, N2056q, e2056⟩ := hQ2056
 have N2056 := Fr.app N0 N2056q
 refine own_nv (own_zn X2056 q d8_47 (((if0 _ _).trans (feq ((by decide) : ¬ ((1 : Int32) = (0 : Int32)))).1)) (own_k X2056 q d8_50 (own_gt X2056 q d8_51 ?_)))
 refine own_rN X2056 q hrt (by simp) d8_55 hlk (by decide) ?_
 show QI (1 : Int32) h0 n0 _ T2056.heap _
 rw [e2056]
 exact ⟨rfl, N2056, rfl⟩
theorem rm31_U2 (l : Launch) (Z : State) (a0 : Array Value) (hw : own_hw a0 Z) (a1 : Addr) (a2 : Addr) (k1 k2 : ClassId) (y0 y1 y2 y3 : Int32) (h0 : Heap) (n0 : Nat) (Z0 : n0 ≤ h0.size) (V1 : Arv Z h0 a1 k1 .byte (4 : Int32) [(.int y0), (.int y1), (.int y2), (.int y3)] v'0) (V2 : Arv Z h0 a2 k2 .byte (4 : Int32) [(.int y0), (.int y1), (.int y2), (.int y3)] v'0) :
  own_M l Z [] own_y44 b'31 3 (some .boolean) ⟨0, 0, 0, 0⟩ #[(.ref a1), (.ref a2)] h0 (QI (1 : Int32) h0 n0) := by
 refine own_start (n0 := n0) hw "java/lang/StringLatin1" (L := #[.val (.ref a1), .val (.ref a2), .unset]) pn_31 (fun {p e s m below meth c s₁} q hx W hml hZ hown hnm hlk hrt X0 e0 N0 => ?_)
 refine own_aln X0 q d31_0 rfl rfl (own_alen (n := (4 : Int32)) X0 q hZ e0 V1 d31_1 (own_aln X0 q d31_2 rfl rfl (own_alen (n := (4 : Int32)) X0 q hZ e0 V2 d31_3 (own_cn X0 q d31_4 ((teq (rfl : (4 : Int32) = (4 : Int32))).2) (own_k X0 q d31_7 (own_isn X0 q d31_8 (l' := #[.val (.ref a1), .val (.ref a2), .val v'0]) rfl (own_iln X0 q d31_9 rfl (own_aln X0 q d31_10 rfl rfl (own_alen (n := (4 : Int32)) X0 q hZ e0 V1 d31_11 (own_cn X0 q d31_12 ((tlt ((by decide) : (0 : Int32) < (4 : Int32))).2.1) (own_aln X0 q d31_15 rfl rfl ?_)))))))))))
 refine own_iln X0 q d31_16 rfl (own_bld (v := (.int y0)) X0 q hZ e0 V1 d31_17 (by decide) rfl (own_aln X0 q d31_18 rfl rfl (own_iln X0 q d31_19 rfl (own_bld (v := (.int y0)) X0 q hZ e0 V2 d31_20 (by decide) rfl (own_cy X0 q d31_21 ((teq (rfl : y0 = y0)).1) (own_iik X0 q d31_26 rfl (show ((0 : Int32) + (1 : Int32)) = (1 : Int32) by decide) (l' := #[.val (.ref a1), .val (.ref a2), .val v'1]) rfl (own_gt X0 q d31_29 (own_iln X0 q d31_9 rfl (own_aln X0 q d31_10 rfl rfl (own_alen (n := (4 : Int32)) X0 q hZ e0 V1 d31_11 (own_cn X0 q d31_12 ((tlt ((by decide) : (1 : Int32) < (4 : Int32))).2.1) ?_)))))))))))
 refine own_aln X0 q d31_15 rfl rfl (own_iln X0 q d31_16 rfl (own_bld (v := (.int y1)) X0 q hZ e0 V1 d31_17 (by decide) rfl (own_aln X0 q d31_18 rfl rfl (own_iln X0 q d31_19 rfl (own_bld (v := (.int y1)) X0 q hZ e0 V2 d31_20 (by decide) rfl (own_cy X0 q d31_21 ((teq (rfl : y1 = y1)).1) (own_iik X0 q d31_26 rfl (show ((1 : Int32) + (1 : Int32)) = (2 : Int32) by decide) (l' := #[.val (.ref a1), .val (.ref a2), .val v'2]) rfl (own_gt X0 q d31_29 (own_iln X0 q d31_9 rfl (own_aln X0 q d31_10 rfl rfl (own_alen (n := (4 : Int32)) X0 q hZ e0 V1 d31_11 ?_)))))))))))
 refine own_cn X0 q d31_12 ((tlt ((by decide) : (2 : Int32) < (4 : Int32))).2.1) (own_aln X0 q d31_15 rfl rfl (own_iln X0 q d31_16 rfl (own_bld (v := (.int y2)) X0 q hZ e0 V1 d31_17 (by decide) rfl (own_aln X0 q d31_18 rfl rfl (own_iln X0 q d31_19 rfl (own_bld (v := (.int y2)) X0 q hZ e0 V2 d31_20 (by decide) rfl (own_cy X0 q d31_21 ((teq (rfl : y2 = y2)).1) (own_iik X0 q d31_26 rfl (show ((2 : Int32) + (1 : Int32)) = (3 : Int32) by decide) (l' := #[.val (.ref a1), .val (.ref a2), .val v'3]) rfl (own_gt X0 q d31_29 (own_iln X0 q d31_9 rfl (own_aln X0 q d31_10 rfl rfl ?_)))))))))))
 refine own_alen (n := (4 : Int32)) X0 q hZ e0 V1 d31_11 (own_cn X0 q d31_12 ((tlt ((by decide) : (3 : Int32) < (4 : Int32))).2.1) (own_aln X0 q d31_15 rfl rfl (own_iln X0 q d31_16 rfl (own_bld (v := (.int y3)) X0 q hZ e0 V1 d31_17 (by decide) rfl (own_aln X0 q d31_18 rfl rfl (own_iln X0 q d31_19 rfl (own_bld (v := (.int y3)) X0 q hZ e0 V2 d31_20 (by decide) rfl (own_cy X0 q d31_21 ((teq (rfl : y3 = y3)).1) (own_iik X0 q d31_26 rfl (show ((3 : Int32) + (1 : Int32)) = (4 : Int32) by decide) (l' := #[.val (.ref a1), .val (.ref a2), .val v'4]) rfl (own_gt X0 q d31_29 (own_iln X0 q d31_9 rfl ?_)))))))))))
 refine own_aln X0 q d31_10 rfl rfl (own_alen (n := (4 : Int32)) X0 q hZ e0 V1 d31_11 (own_cy X0 q d31_12 ((flt (Int32.lt_irrefl : ¬ ((4 : Int32) < (4 : Int32)))).2.1) (own_k X0 q d31_32 ?_)))
 refine own_rN X0 q hrt (by simp) d31_33 hlk (by decide) ?_
 show QI (1 : Int32) h0 n0 _ s₁.heap _
 rw [e0]
 exact ⟨rfl, N0, rfl⟩
theorem rm8_U2 (l : Launch) (Z : State) (a0 : Array Value) (hw : own_hw a0 Z) (a1 : Addr) (a2 : Addr) (t1 t2 : Addr) (k1 k2 : ClassId) (y0 y1 y2 y3 : Int32) (cs0 : Int32) (h0 : Heap) (n0 : Nat) (Z0 : n0 ≤ h0.size) (O0 : Old Z n0 h0) (SC_ : own_SC Z cs0) (E1 : Exa Z h0 a1 "java/lang/String") (C1 : F'0 Z h0 a1 v'1) (F1 : F'1 Z h0 a1 (.ref t1)) (V1 : Arv Z h0 t1 k1 .byte (4 : Int32) [(.int y0), (.int y1), (.int y2), (.int y3)] v'0) (E2 : Exa Z h0 a2 "java/lang/String") (C2 : F'0 Z h0 a2 v'1) (F2 : F'1 Z h0 a2 (.ref t2)) (V2 : Arv Z h0 t2 k2 .byte (4 : Int32) [(.int y0), (.int y1), (.int y2), (.int y3)] v'0) (n12 : a1 ≠ a2) :
  own_M l Z [] own_y43 b'8 3 (some .boolean) ⟨1, 0, 0, 14⟩ #[(.ref a1), (.ref a2)] h0 (QI (1 : Int32) h0 n0) := by
 obtain ⟨SCS, hcs⟩ := SC_
 refine own_start (n0 := n0) hw "java/lang/String" (L := #[.val (.ref a1), .val (.ref a2), .unset]) pn_8 (fun {p e s m below meth c s₁} q hx W hml hZ hown hnm hlk hrt X0 e0 N0 => ?_)
 refine own_aln X0 q d8_0 rfl rfl (own_aln X0 q d8_1 rfl rfl (own_stp 7 (fun _ k => Jvm.RoadKit.acmp (g := mkF m 2 _ _) X0 hx rfl rfl rfl (pc0 := 2) (pc' := 7) (same := false) rfl (q.d d8_2) rfl (decide_eq_false fun q => n12 (Value.ref.inj q)) (by decide) (by decide) k) (own_aln X0 q d8_7 rfl rfl ?_)))
 refine own_let ?_; intro g2067_
 obtain ⟨T2068, X2068, e2068, st2068⟩ := instY X0 hx hZ hown (W 172 rfl) e0 (Ins.self E2) (g := g2067_) rfl rfl (q.d d8_8)
 refine own_stp 11 st2068 (own_zn X2068 q d8_11 (((if0 _ _).trans (feq ((by decide) : ¬ ((1 : Int32) = (0 : Int32)))).1)) (own_aln X2068 q d8_14 rfl rfl ?_))
 refine own_let ?_; intro g2069_
 obtain ⟨T2070, X2070, e2070, st2070⟩ := castY X2068 hx hZ hown (W 172 rfl) e2068 (Ins.self E2) (g := g2069_) rfl rfl (q.d d8_15)
 refine own_stp 18 st2070 (own_asn X2070 q d8_18 rfl (l' := #[.val (.ref a1), .val (.ref a2), .val (.ref a2)]) rfl ?_)
 refine own_gS X2070 q hZ e2070 hown (W 99 rfl) (SCS.ext O0.2) d8_19 fun T2071 X2071 e2071 => ?_
 refine own_zn X2071 q d8_22 (((if0 _ _).trans (feq hcs).1)) (own_aln X2071 q d8_25 rfl rfl ?_)
 refine own_gF X2071 q hZ e2071 hown (W 27 rfl) C1 d8_26 fun T2072 X2072 e2072 => ?_
 refine own_aln X2072 q d8_29 rfl rfl ?_
 refine own_gF X2072 q hZ e2072 hown (W 27 rfl) C2 d8_30 fun T2073 X2073 e2073 => ?_
 refine own_cn X2073 q d8_33 ((teq (rfl : (1 : Int32) = (1 : Int32))).2) (own_aln X2073 q d8_36 rfl rfl ?_)
 refine own_gF X2073 q hZ e2073 hown (W 26 rfl) F1 d8_37 fun T2074 X2074 e2074 => ?_
 refine own_aln X2074 q d8_40 rfl rfl ?_
 refine own_gF X2074 q hZ e2074 hown (W 26 rfl) F2 d8_41 fun T2075 X2075 e2075 => ?_
 refine own_cS X2075 q hZ e2075 hown hml (W 173 rfl) (W 174 rfl) (W 175 rfl) (W 176 rfl) (rm31_U2 l Z a0 hw t1 t2 k1 k2 y0 y1 y2 y3 h0 n0 Z0 V1 V2) d8_44 [(.ref t1), (.ref t2)] [] own_pd31 0 (by decide) (fun v2076 T2076 L2076 X2076 hQ2076 => ?_)
 obtain ⟨rfl, N2076q, e2076⟩ := hQ2076
 have N2076 := Fr.app N0 N2076q
 refine own_nv (own_zn X2076 q d8_47 (((if0 _ _).trans (feq ((by decide) : ¬ ((1 : Int32) = (0 : Int32)))).1)) (own_k X2076 q d8_50 (own_gt X2076 q d8_51 ?_)))
 refine own_rN X2076 q hrt (by simp) d8_55 hlk (by decide) ?_
 show QI (1 : Int32) h0 n0 _ T2076.heap _
 rw [e2076]
 exact ⟨rfl, N2076, rfl⟩
theorem rm31_U3 (l : Launch) (Z : State) (a0 : Array Value) (hw : own_hw a0 Z) (a1 : Addr) (a2 : Addr) (k1 k2 : ClassId) (y0 y1 y2 y3 y4 y5 : Int32) (h0 : Heap) (n0 : Nat) (Z0 : n0 ≤ h0.size) (V1 : Arv Z h0 a1 k1 .byte (6 : Int32) [(.int y0), (.int y1), (.int y2), (.int y3), (.int y4), (.int y5)] v'0) (V2 : Arv Z h0 a2 k2 .byte (6 : Int32) [(.int y0), (.int y1), (.int y2), (.int y3), (.int y4), (.int y5)] v'0) :
  own_M l Z [] own_y44 b'31 3 (some .boolean) ⟨0, 0, 0, 0⟩ #[(.ref a1), (.ref a2)] h0 (QI (1 : Int32) h0 n0) := by
 refine own_start (n0 := n0) hw "java/lang/StringLatin1" (L := #[.val (.ref a1), .val (.ref a2), .unset]) pn_31 (fun {p e s m below meth c s₁} q hx W hml hZ hown hnm hlk hrt X0 e0 N0 => ?_)
 refine own_aln X0 q d31_0 rfl rfl (own_alen (n := (6 : Int32)) X0 q hZ e0 V1 d31_1 (own_aln X0 q d31_2 rfl rfl (own_alen (n := (6 : Int32)) X0 q hZ e0 V2 d31_3 (own_cn X0 q d31_4 ((teq (rfl : (6 : Int32) = (6 : Int32))).2) (own_k X0 q d31_7 (own_isn X0 q d31_8 (l' := #[.val (.ref a1), .val (.ref a2), .val v'0]) rfl (own_iln X0 q d31_9 rfl (own_aln X0 q d31_10 rfl rfl (own_alen (n := (6 : Int32)) X0 q hZ e0 V1 d31_11 (own_cn X0 q d31_12 ((tlt ((by decide) : (0 : Int32) < (6 : Int32))).2.1) (own_aln X0 q d31_15 rfl rfl ?_)))))))))))
 refine own_iln X0 q d31_16 rfl (own_bld (v := (.int y0)) X0 q hZ e0 V1 d31_17 (by decide) rfl (own_aln X0 q d31_18 rfl rfl (own_iln X0 q d31_19 rfl (own_bld (v := (.int y0)) X0 q hZ e0 V2 d31_20 (by decide) rfl (own_cy X0 q d31_21 ((teq (rfl : y0 = y0)).1) (own_iik X0 q d31_26 rfl (show ((0 : Int32) + (1 : Int32)) = (1 : Int32) by decide) (l' := #[.val (.ref a1), .val (.ref a2), .val v'1]) rfl (own_gt X0 q d31_29 (own_iln X0 q d31_9 rfl (own_aln X0 q d31_10 rfl rfl (own_alen (n := (6 : Int32)) X0 q hZ e0 V1 d31_11 (own_cn X0 q d31_12 ((tlt ((by decide) : (1 : Int32) < (6 : Int32))).2.1) ?_)))))))))))
 refine own_aln X0 q d31_15 rfl rfl (own_iln X0 q d31_16 rfl (own_bld (v := (.int y1)) X0 q hZ e0 V1 d31_17 (by decide) rfl (own_aln X0 q d31_18 rfl rfl (own_iln X0 q d31_19 rfl (own_bld (v := (.int y1)) X0 q hZ e0 V2 d31_20 (by decide) rfl (own_cy X0 q d31_21 ((teq (rfl : y1 = y1)).1) (own_iik X0 q d31_26 rfl (show ((1 : Int32) + (1 : Int32)) = (2 : Int32) by decide) (l' := #[.val (.ref a1), .val (.ref a2), .val v'2]) rfl (own_gt X0 q d31_29 (own_iln X0 q d31_9 rfl (own_aln X0 q d31_10 rfl rfl (own_alen (n := (6 : Int32)) X0 q hZ e0 V1 d31_11 ?_)))))))))))
 refine own_cn X0 q d31_12 ((tlt ((by decide) : (2 : Int32) < (6 : Int32))).2.1) (own_aln X0 q d31_15 rfl rfl (own_iln X0 q d31_16 rfl (own_bld (v := (.int y2)) X0 q hZ e0 V1 d31_17 (by decide) rfl (own_aln X0 q d31_18 rfl rfl (own_iln X0 q d31_19 rfl (own_bld (v := (.int y2)) X0 q hZ e0 V2 d31_20 (by decide) rfl (own_cy X0 q d31_21 ((teq (rfl : y2 = y2)).1) (own_iik X0 q d31_26 rfl (show ((2 : Int32) + (1 : Int32)) = (3 : Int32) by decide) (l' := #[.val (.ref a1), .val (.ref a2), .val v'3]) rfl (own_gt X0 q d31_29 (own_iln X0 q d31_9 rfl (own_aln X0 q d31_10 rfl rfl ?_)))))))))))
 refine own_alen (n := (6 : Int32)) X0 q hZ e0 V1 d31_11 (own_cn X0 q d31_12 ((tlt ((by decide) : (3 : Int32) < (6 : Int32))).2.1) (own_aln X0 q d31_15 rfl rfl (own_iln X0 q d31_16 rfl (own_bld (v := (.int y3)) X0 q hZ e0 V1 d31_17 (by decide) rfl (own_aln X0 q d31_18 rfl rfl (own_iln X0 q d31_19 rfl (own_bld (v := (.int y3)) X0 q hZ e0 V2 d31_20 (by decide) rfl (own_cy X0 q d31_21 ((teq (rfl : y3 = y3)).1) (own_iik X0 q d31_26 rfl (show ((3 : Int32) + (1 : Int32)) = (4 : Int32) by decide) (l' := #[.val (.ref a1), .val (.ref a2), .val v'4]) rfl (own_gt X0 q d31_29 (own_iln X0 q d31_9 rfl ?_)))))))))))
 refine own_aln X0 q d31_10 rfl rfl (own_alen (n := (6 : Int32)) X0 q hZ e0 V1 d31_11 (own_cn X0 q d31_12 ((tlt ((by decide) : (4 : Int32) < (6 : Int32))).2.1) (own_aln X0 q d31_15 rfl rfl (own_iln X0 q d31_16 rfl (own_bld (v := (.int y4)) X0 q hZ e0 V1 d31_17 (by decide) rfl (own_aln X0 q d31_18 rfl rfl (own_iln X0 q d31_19 rfl (own_bld (v := (.int y4)) X0 q hZ e0 V2 d31_20 (by decide) rfl (own_cy X0 q d31_21 ((teq (rfl : y4 = y4)).1) (own_iik X0 q d31_26 rfl (show ((4 : Int32) + (1 : Int32)) = (5 : Int32) by decide) (l' := #[.val (.ref a1), .val (.ref a2), .val (.int (5 : Int32))]) rfl (own_gt X0 q d31_29 ?_)))))))))))
 refine own_iln X0 q d31_9 rfl (own_aln X0 q d31_10 rfl rfl (own_alen (n := (6 : Int32)) X0 q hZ e0 V1 d31_11 (own_cn X0 q d31_12 ((tlt ((by decide) : (5 : Int32) < (6 : Int32))).2.1) (own_aln X0 q d31_15 rfl rfl (own_iln X0 q d31_16 rfl (own_bld (v := (.int y5)) X0 q hZ e0 V1 d31_17 (by decide) rfl (own_aln X0 q d31_18 rfl rfl (own_iln X0 q d31_19 rfl (own_bld (v := (.int y5)) X0 q hZ e0 V2 d31_20 (by decide) rfl (own_cy X0 q d31_21 ((teq (rfl : y5 = y5)).1) (own_iik X0 q d31_26 rfl (show ((5 : Int32) + (1 : Int32)) = (6 : Int32) by decide) (l' := #[.val (.ref a1), .val (.ref a2), .val v'6]) rfl ?_)))))))))))
 refine own_gt X0 q d31_29 (own_iln X0 q d31_9 rfl (own_aln X0 q d31_10 rfl rfl (own_alen (n := (6 : Int32)) X0 q hZ e0 V1 d31_11 (own_cy X0 q d31_12 ((flt (Int32.lt_irrefl : ¬ ((6 : Int32) < (6 : Int32)))).2.1) (own_k X0 q d31_32 ?_)))))
 refine own_rN X0 q hrt (by simp) d31_33 hlk (by decide) ?_
 show QI (1 : Int32) h0 n0 _ s₁.heap _
 rw [e0]
 exact ⟨rfl, N0, rfl⟩
theorem rm8_U3 (l : Launch) (Z : State) (a0 : Array Value) (hw : own_hw a0 Z) (a1 : Addr) (a2 : Addr) (t1 t2 : Addr) (k1 k2 : ClassId) (y0 y1 y2 y3 y4 y5 : Int32) (cs0 : Int32) (h0 : Heap) (n0 : Nat) (Z0 : n0 ≤ h0.size) (O0 : Old Z n0 h0) (SC_ : own_SC Z cs0) (E1 : Exa Z h0 a1 "java/lang/String") (C1 : F'0 Z h0 a1 v'1) (F1 : F'1 Z h0 a1 (.ref t1)) (V1 : Arv Z h0 t1 k1 .byte (6 : Int32) [(.int y0), (.int y1), (.int y2), (.int y3), (.int y4), (.int y5)] v'0) (E2 : Exa Z h0 a2 "java/lang/String") (C2 : F'0 Z h0 a2 v'1) (F2 : F'1 Z h0 a2 (.ref t2)) (V2 : Arv Z h0 t2 k2 .byte (6 : Int32) [(.int y0), (.int y1), (.int y2), (.int y3), (.int y4), (.int y5)] v'0) (n12 : a1 ≠ a2) :
  own_M l Z [] own_y43 b'8 3 (some .boolean) ⟨1, 0, 0, 14⟩ #[(.ref a1), (.ref a2)] h0 (QI (1 : Int32) h0 n0) := by
 obtain ⟨SCS, hcs⟩ := SC_
 refine own_start (n0 := n0) hw "java/lang/String" (L := #[.val (.ref a1), .val (.ref a2), .unset]) pn_8 (fun {p e s m below meth c s₁} q hx W hml hZ hown hnm hlk hrt X0 e0 N0 => ?_)
 refine own_aln X0 q d8_0 rfl rfl (own_aln X0 q d8_1 rfl rfl (own_stp 7 (fun _ k => Jvm.RoadKit.acmp (g := mkF m 2 _ _) X0 hx rfl rfl rfl (pc0 := 2) (pc' := 7) (same := false) rfl (q.d d8_2) rfl (decide_eq_false fun q => n12 (Value.ref.inj q)) (by decide) (by decide) k) (own_aln X0 q d8_7 rfl rfl ?_)))
 refine own_let ?_; intro g2087_
 obtain ⟨T2088, X2088, e2088, st2088⟩ := instY X0 hx hZ hown (W 172 rfl) e0 (Ins.self E2) (g := g2087_) rfl rfl (q.d d8_8)
 refine own_stp 11 st2088 (own_zn X2088 q d8_11 (((if0 _ _).trans (feq ((by decide) : ¬ ((1 : Int32) = (0 : Int32)))).1)) (own_aln X2088 q d8_14 rfl rfl ?_))
 refine own_let ?_; intro g2089_
 obtain ⟨T2090, X2090, e2090, st2090⟩ := castY X2088 hx hZ hown (W 172 rfl) e2088 (Ins.self E2) (g := g2089_) rfl rfl (q.d d8_15)
 refine own_stp 18 st2090 (own_asn X2090 q d8_18 rfl (l' := #[.val (.ref a1), .val (.ref a2), .val (.ref a2)]) rfl ?_)
 refine own_gS X2090 q hZ e2090 hown (W 99 rfl) (SCS.ext O0.2) d8_19 fun T2091 X2091 e2091 => ?_
 refine own_zn X2091 q d8_22 (((if0 _ _).trans (feq hcs).1)) (own_aln X2091 q d8_25 rfl rfl ?_)
 refine own_gF X2091 q hZ e2091 hown (W 27 rfl) C1 d8_26 fun T2092 X2092 e2092 => ?_
 refine own_aln X2092 q d8_29 rfl rfl ?_
 refine own_gF X2092 q hZ e2092 hown (W 27 rfl) C2 d8_30 fun T2093 X2093 e2093 => ?_
 refine own_cn X2093 q d8_33 ((teq (rfl : (1 : Int32) = (1 : Int32))).2) (own_aln X2093 q d8_36 rfl rfl ?_)
 refine own_gF X2093 q hZ e2093 hown (W 26 rfl) F1 d8_37 fun T2094 X2094 e2094 => ?_
 refine own_aln X2094 q d8_40 rfl rfl ?_
 refine own_gF X2094 q hZ e2094 hown (W 26 rfl) F2 d8_41 fun T2095 X2095 e2095 => ?_
 refine own_cS X2095 q hZ e2095 hown hml (W 173 rfl) (W 174 rfl) (W 175 rfl) (W 176 rfl) (rm31_U3 l Z a0 hw t1 t2 k1 k2 y0 y1 y2 y3 y4 y5 h0 n0 Z0 V1 V2) d8_44 [(.ref t1), (.ref t2)] [] own_pd31 0 (by decide) (fun v2096 T2096 L2096 X2096 hQ2096 => ?_)
 obtain ⟨rfl, N2096q, e2096⟩ := hQ2096
 have N2096 := Fr.app N0 N2096q
 refine own_nv (own_zn X2096 q d8_47 (((if0 _ _).trans (feq ((by decide) : ¬ ((1 : Int32) = (0 : Int32)))).1)) (own_k X2096 q d8_50 (own_gt X2096 q d8_51 ?_)))
 refine own_rN X2096 q hrt (by simp) d8_55 hlk (by decide) ?_
 show QI (1 : Int32) h0 n0 _ T2096.heap _
 rw [e2096]
 exact ⟨rfl, N2096, rfl⟩
theorem rm31_U4 (l : Launch) (Z : State) (a0 : Array Value) (hw : own_hw a0 Z) (a1 : Addr) (a2 : Addr) (k1 k2 : ClassId) (y0 y1 y2 y3 y4 y5 y6 y7 : Int32) (h0 : Heap) (n0 : Nat) (Z0 : n0 ≤ h0.size) (V1 : Arv Z h0 a1 k1 .byte (8 : Int32) [(.int y0), (.int y1), (.int y2), (.int y3), (.int y4), (.int y5), (.int y6), (.int y7)] v'0) (V2 : Arv Z h0 a2 k2 .byte (8 : Int32) [(.int y0), (.int y1), (.int y2), (.int y3), (.int y4), (.int y5), (.int y6), (.int y7)] v'0) :
  own_M l Z [] own_y44 b'31 3 (some .boolean) ⟨0, 0, 0, 0⟩ #[(.ref a1), (.ref a2)] h0 (QI (1 : Int32) h0 n0) := by
 refine own_start (n0 := n0) hw "java/lang/StringLatin1" (L := #[.val (.ref a1), .val (.ref a2), .unset]) pn_31 (fun {p e s m below meth c s₁} q hx W hml hZ hown hnm hlk hrt X0 e0 N0 => ?_)
 refine own_aln X0 q d31_0 rfl rfl (own_alen (n := (8 : Int32)) X0 q hZ e0 V1 d31_1 (own_aln X0 q d31_2 rfl rfl (own_alen (n := (8 : Int32)) X0 q hZ e0 V2 d31_3 (own_cn X0 q d31_4 ((teq (rfl : (8 : Int32) = (8 : Int32))).2) (own_k X0 q d31_7 (own_isn X0 q d31_8 (l' := #[.val (.ref a1), .val (.ref a2), .val v'0]) rfl (own_iln X0 q d31_9 rfl (own_aln X0 q d31_10 rfl rfl (own_alen (n := (8 : Int32)) X0 q hZ e0 V1 d31_11 (own_cn X0 q d31_12 ((tlt ((by decide) : (0 : Int32) < (8 : Int32))).2.1) (own_aln X0 q d31_15 rfl rfl ?_)))))))))))
 refine own_iln X0 q d31_16 rfl (own_bld (v := (.int y0)) X0 q hZ e0 V1 d31_17 (by decide) rfl (own_aln X0 q d31_18 rfl rfl (own_iln X0 q d31_19 rfl (own_bld (v := (.int y0)) X0 q hZ e0 V2 d31_20 (by decide) rfl (own_cy X0 q d31_21 ((teq (rfl : y0 = y0)).1) (own_iik X0 q d31_26 rfl (show ((0 : Int32) + (1 : Int32)) = (1 : Int32) by decide) (l' := #[.val (.ref a1), .val (.ref a2), .val v'1]) rfl (own_gt X0 q d31_29 (own_iln X0 q d31_9 rfl (own_aln X0 q d31_10 rfl rfl (own_alen (n := (8 : Int32)) X0 q hZ e0 V1 d31_11 (own_cn X0 q d31_12 ((tlt ((by decide) : (1 : Int32) < (8 : Int32))).2.1) ?_)))))))))))
 refine own_aln X0 q d31_15 rfl rfl (own_iln X0 q d31_16 rfl (own_bld (v := (.int y1)) X0 q hZ e0 V1 d31_17 (by decide) rfl (own_aln X0 q d31_18 rfl rfl (own_iln X0 q d31_19 rfl (own_bld (v := (.int y1)) X0 q hZ e0 V2 d31_20 (by decide) rfl (own_cy X0 q d31_21 ((teq (rfl : y1 = y1)).1) (own_iik X0 q d31_26 rfl (show ((1 : Int32) + (1 : Int32)) = (2 : Int32) by decide) (l' := #[.val (.ref a1), .val (.ref a2), .val v'2]) rfl (own_gt X0 q d31_29 (own_iln X0 q d31_9 rfl (own_aln X0 q d31_10 rfl rfl (own_alen (n := (8 : Int32)) X0 q hZ e0 V1 d31_11 ?_)))))))))))
 refine own_cn X0 q d31_12 ((tlt ((by decide) : (2 : Int32) < (8 : Int32))).2.1) (own_aln X0 q d31_15 rfl rfl (own_iln X0 q d31_16 rfl (own_bld (v := (.int y2)) X0 q hZ e0 V1 d31_17 (by decide) rfl (own_aln X0 q d31_18 rfl rfl (own_iln X0 q d31_19 rfl (own_bld (v := (.int y2)) X0 q hZ e0 V2 d31_20 (by decide) rfl (own_cy X0 q d31_21 ((teq (rfl : y2 = y2)).1) (own_iik X0 q d31_26 rfl (show ((2 : Int32) + (1 : Int32)) = (3 : Int32) by decide) (l' := #[.val (.ref a1), .val (.ref a2), .val v'3]) rfl (own_gt X0 q d31_29 (own_iln X0 q d31_9 rfl (own_aln X0 q d31_10 rfl rfl ?_)))))))))))
 refine own_alen (n := (8 : Int32)) X0 q hZ e0 V1 d31_11 (own_cn X0 q d31_12 ((tlt ((by decide) : (3 : Int32) < (8 : Int32))).2.1) (own_aln X0 q d31_15 rfl rfl (own_iln X0 q d31_16 rfl (own_bld (v := (.int y3)) X0 q hZ e0 V1 d31_17 (by decide) rfl (own_aln X0 q d31_18 rfl rfl (own_iln X0 q d31_19 rfl (own_bld (v := (.int y3)) X0 q hZ e0 V2 d31_20 (by decide) rfl (own_cy X0 q d31_21 ((teq (rfl : y3 = y3)).1) (own_iik X0 q d31_26 rfl (show ((3 : Int32) + (1 : Int32)) = (4 : Int32) by decide) (l' := #[.val (.ref a1), .val (.ref a2), .val v'4]) rfl (own_gt X0 q d31_29 (own_iln X0 q d31_9 rfl ?_)))))))))))
 refine own_aln X0 q d31_10 rfl rfl (own_alen (n := (8 : Int32)) X0 q hZ e0 V1 d31_11 (own_cn X0 q d31_12 ((tlt ((by decide) : (4 : Int32) < (8 : Int32))).2.1) (own_aln X0 q d31_15 rfl rfl (own_iln X0 q d31_16 rfl (own_bld (v := (.int y4)) X0 q hZ e0 V1 d31_17 (by decide) rfl (own_aln X0 q d31_18 rfl rfl (own_iln X0 q d31_19 rfl (own_bld (v := (.int y4)) X0 q hZ e0 V2 d31_20 (by decide) rfl (own_cy X0 q d31_21 ((teq (rfl : y4 = y4)).1) (own_iik X0 q d31_26 rfl (show ((4 : Int32) + (1 : Int32)) = (5 : Int32) by decide) (l' := #[.val (.ref a1), .val (.ref a2), .val (.int (5 : Int32))]) rfl (own_gt X0 q d31_29 ?_)))))))))))
 refine own_iln X0 q d31_9 rfl (own_aln X0 q d31_10 rfl rfl (own_alen (n := (8 : Int32)) X0 q hZ e0 V1 d31_11 (own_cn X0 q d31_12 ((tlt ((by decide) : (5 : Int32) < (8 : Int32))).2.1) (own_aln X0 q d31_15 rfl rfl (own_iln X0 q d31_16 rfl (own_bld (v := (.int y5)) X0 q hZ e0 V1 d31_17 (by decide) rfl (own_aln X0 q d31_18 rfl rfl (own_iln X0 q d31_19 rfl (own_bld (v := (.int y5)) X0 q hZ e0 V2 d31_20 (by decide) rfl (own_cy X0 q d31_21 ((teq (rfl : y5 = y5)).1) (own_iik X0 q d31_26 rfl (show ((5 : Int32) + (1 : Int32)) = (6 : Int32) by decide) (l' := #[.val (.ref a1), .val (.ref a2), .val v'6]) rfl ?_)))))))))))
 refine own_gt X0 q d31_29 (own_iln X0 q d31_9 rfl (own_aln X0 q d31_10 rfl rfl (own_alen (n := (8 : Int32)) X0 q hZ e0 V1 d31_11 (own_cn X0 q d31_12 ((tlt ((by decide) : (6 : Int32) < (8 : Int32))).2.1) (own_aln X0 q d31_15 rfl rfl (own_iln X0 q d31_16 rfl (own_bld (v := (.int y6)) X0 q hZ e0 V1 d31_17 (by decide) rfl (own_aln X0 q d31_18 rfl rfl (own_iln X0 q d31_19 rfl (own_bld (v := (.int y6)) X0 q hZ e0 V2 d31_20 (by decide) rfl (own_cy X0 q d31_21 ((teq (rfl : y6 = y6)).1) ?_)))))))))))
 refine own_iik X0 q d31_26 rfl (show ((6 : Int32) + (1 : Int32)) = (7 : Int32) by decide) (l' := #[.val (.ref a1), .val (.ref a2), .val (.int (7 : Int32))]) rfl (own_gt X0 q d31_29 (own_iln X0 q d31_9 rfl (own_aln X0 q d31_10 rfl rfl (own_alen (n := (8 : Int32)) X0 q hZ e0 V1 d31_11 (own_cn X0 q d31_12 ((tlt ((by decide) : (7 : Int32) < (8 : Int32))).2.1) (own_aln X0 q d31_15 rfl rfl (own_iln X0 q d31_16 rfl (own_bld (v := (.int y7)) X0 q hZ e0 V1 d31_17 (by decide) rfl (own_aln X0 q d31_18 rfl rfl (own_iln X0 q d31_19 rfl (own_bld (v := (.int y7)) X0 q hZ e0 V2 d31_20 (by decide) rfl ?_)))))))))))
 refine own_cy X0 q d31_21 ((teq (rfl : y7 = y7)).1) (own_iik X0 q d31_26 rfl (show ((7 : Int32) + (1 : Int32)) = (8 : Int32) by decide) (l' := #[.val (.ref a1), .val (.ref a2), .val v'8]) rfl (own_gt X0 q d31_29 (own_iln X0 q d31_9 rfl (own_aln X0 q d31_10 rfl rfl (own_alen (n := (8 : Int32)) X0 q hZ e0 V1 d31_11 (own_cy X0 q d31_12 ((flt (Int32.lt_irrefl : ¬ ((8 : Int32) < (8 : Int32)))).2.1) (own_k X0 q d31_32 ?_)))))))
 refine own_rN X0 q hrt (by simp) d31_33 hlk (by decide) ?_
 show QI (1 : Int32) h0 n0 _ s₁.heap _
 rw [e0]
 exact ⟨rfl, N0, rfl⟩
theorem rm8_U4 (l : Launch) (Z : State) (a0 : Array Value) (hw : own_hw a0 Z) (a1 : Addr) (a2 : Addr) (t1 t2 : Addr) (k1 k2 : ClassId) (y0 y1 y2 y3 y4 y5 y6 y7 : Int32) (cs0 : Int32) (h0 : Heap) (n0 : Nat) (Z0 : n0 ≤ h0.size) (O0 : Old Z n0 h0) (SC_ : own_SC Z cs0) (E1 : Exa Z h0 a1 "java/lang/String") (C1 : F'0 Z h0 a1 v'1) (F1 : F'1 Z h0 a1 (.ref t1)) (V1 : Arv Z h0 t1 k1 .byte (8 : Int32) [(.int y0), (.int y1), (.int y2), (.int y3), (.int y4), (.int y5), (.int y6), (.int y7)] v'0) (E2 : Exa Z h0 a2 "java/lang/String") (C2 : F'0 Z h0 a2 v'1) (F2 : F'1 Z h0 a2 (.ref t2)) (V2 : Arv Z h0 t2 k2 .byte (8 : Int32) [(.int y0), (.int y1), (.int y2), (.int y3), (.int y4), (.int y5), (.int y6), (.int y7)] v'0) (n12 : a1 ≠ a2) :
  own_M l Z [] own_y43 b'8 3 (some .boolean) ⟨1, 0, 0, 14⟩ #[(.ref a1), (.ref a2)] h0 (QI (1 : Int32) h0 n0) := by
 obtain ⟨SCS, hcs⟩ := SC_
 refine own_start (n0 := n0) hw "java/lang/String" (L := #[.val (.ref a1), .val (.ref a2), .unset]) pn_8 (fun {p e s m below meth c s₁} q hx W hml hZ hown hnm hlk hrt X0 e0 N0 => ?_)
 refine own_aln X0 q d8_0 rfl rfl (own_aln X0 q d8_1 rfl rfl (own_stp 7 (fun _ k => Jvm.RoadKit.acmp (g := mkF m 2 _ _) X0 hx rfl rfl rfl (pc0 := 2) (pc' := 7) (same := false) rfl (q.d d8_2) rfl (decide_eq_false fun q => n12 (Value.ref.inj q)) (by decide) (by decide) k) (own_aln X0 q d8_7 rfl rfl ?_)))
 refine own_let ?_; intro g2107_
 obtain ⟨T2108, X2108, e2108, st2108⟩ := instY X0 hx hZ hown (W 172 rfl) e0 (Ins.self E2) (g := g2107_) rfl rfl (q.d d8_8)
 refine own_stp 11 st2108 (own_zn X2108 q d8_11 (((if0 _ _).trans (feq ((by decide) : ¬ ((1 : Int32) = (0 : Int32)))).1)) (own_aln X2108 q d8_14 rfl rfl ?_))
 refine own_let ?_; intro g2109_
 obtain ⟨T2110, X2110, e2110, st2110⟩ := castY X2108 hx hZ hown (W 172 rfl) e2108 (Ins.self E2) (g := g2109_) rfl rfl (q.d d8_15)
 refine own_stp 18 st2110 (own_asn X2110 q d8_18 rfl (l' := #[.val (.ref a1), .val (.ref a2), .val (.ref a2)]) rfl ?_)
 refine own_gS X2110 q hZ e2110 hown (W 99 rfl) (SCS.ext O0.2) d8_19 fun T2111 X2111 e2111 => ?_
 refine own_zn X2111 q d8_22 (((if0 _ _).trans (feq hcs).1)) (own_aln X2111 q d8_25 rfl rfl ?_)
 refine own_gF X2111 q hZ e2111 hown (W 27 rfl) C1 d8_26 fun T2112 X2112 e2112 => ?_
 refine own_aln X2112 q d8_29 rfl rfl ?_
 refine own_gF X2112 q hZ e2112 hown (W 27 rfl) C2 d8_30 fun T2113 X2113 e2113 => ?_
 refine own_cn X2113 q d8_33 ((teq (rfl : (1 : Int32) = (1 : Int32))).2) (own_aln X2113 q d8_36 rfl rfl ?_)
 refine own_gF X2113 q hZ e2113 hown (W 26 rfl) F1 d8_37 fun T2114 X2114 e2114 => ?_
 refine own_aln X2114 q d8_40 rfl rfl ?_
 refine own_gF X2114 q hZ e2114 hown (W 26 rfl) F2 d8_41 fun T2115 X2115 e2115 => ?_
 refine own_cS X2115 q hZ e2115 hown hml (W 173 rfl) (W 174 rfl) (W 175 rfl) (W 176 rfl) (rm31_U4 l Z a0 hw t1 t2 k1 k2 y0 y1 y2 y3 y4 y5 y6 y7 h0 n0 Z0 V1 V2) d8_44 [(.ref t1), (.ref t2)] [] own_pd31 0 (by decide) (fun v2116 T2116 L2116 X2116 hQ2116 => ?_)
 obtain ⟨rfl, N2116q, e2116⟩ := hQ2116
 have N2116 := Fr.app N0 N2116q
 refine own_nv (own_zn X2116 q d8_47 (((if0 _ _).trans (feq ((by decide) : ¬ ((1 : Int32) = (0 : Int32)))).1)) (own_k X2116 q d8_50 (own_gt X2116 q d8_51 ?_)))
 refine own_rN X2116 q hrt (by simp) d8_55 hlk (by decide) ?_
 show QI (1 : Int32) h0 n0 _ T2116.heap _
 rw [e2116]
 exact ⟨rfl, N2116, rfl⟩
theorem d1_0 : own_D b'1 0 (.iload_n 0) 1 1 := by decide +kernel
theorem d1_1 : own_DZ b'1 1 .ne 15 4 := by decide +kernel
theorem d1_4 : own_D b'1 4 (.new 7) 3 7 := by decide +kernel
theorem d1_7 : own_D b'1 7 .dup 1 8 := by decide +kernel
theorem d1_8 : own_DK b'1 8 0 9 := by decide +kernel
theorem d1_9 : own_D b'1 9 (.newarray .char) 2 11 := by decide +kernel
theorem d1_11 : own_D b'1 11 (.invokespecial 9) 3 14 := by decide +kernel
theorem d1_14 : own_D b'1 14 .areturn 1 15 := by decide +kernel
theorem d1_15 : own_D b'1 15 (.iload_n 0) 1 16 := by decide +kernel
theorem d1_16 : own_DK b'1 16 1 17 := by decide +kernel
theorem d1_17 : own_DJ b'1 17 .ne 35 20 := by decide +kernel
theorem d1_20 : own_D b'1 20 (.new 7) 3 23 := by decide +kernel
theorem d1_23 : own_D b'1 23 .dup 1 24 := by decide +kernel
theorem d1_24 : own_DK b'1 24 1 25 := by decide +kernel
theorem d1_25 : own_D b'1 25 (.newarray .char) 2 27 := by decide +kernel
theorem d1_27 : own_D b'1 27 .dup 1 28 := by decide +kernel
theorem d1_28 : own_DK b'1 28 0 29 := by decide +kernel
theorem d1_29 : own_D b'1 29 (.iload_n 1) 1 30 := by decide +kernel
theorem d1_30 : own_D b'1 30 .castore 1 31 := by decide +kernel
theorem d1_31 : own_D b'1 31 (.invokespecial 9) 3 34 := by decide +kernel
theorem d1_34 : own_D b'1 34 .areturn 1 35 := by decide +kernel
theorem d1_35 : own_D b'1 35 (.iload_n 0) 1 36 := by decide +kernel
theorem d1_36 : own_DK b'1 36 2 37 := by decide +kernel
theorem d1_37 : own_DJ b'1 37 .ne 59 40 := by decide +kernel
theorem d1_40 : own_D b'1 40 (.new 7) 3 43 := by decide +kernel
theorem d1_43 : own_D b'1 43 .dup 1 44 := by decide +kernel
theorem d1_44 : own_DK b'1 44 2 45 := by decide +kernel
theorem d1_45 : own_D b'1 45 (.newarray .char) 2 47 := by decide +kernel
theorem d1_47 : own_D b'1 47 .dup 1 48 := by decide +kernel
theorem d1_48 : own_DK b'1 48 0 49 := by decide +kernel
theorem d1_49 : own_D b'1 49 (.iload_n 1) 1 50 := by decide +kernel
theorem d1_50 : own_D b'1 50 .castore 1 51 := by decide +kernel
theorem d1_51 : own_D b'1 51 .dup 1 52 := by decide +kernel
theorem d1_52 : own_DK b'1 52 1 53 := by decide +kernel
theorem d1_53 : own_D b'1 53 (.iload_n 2) 1 54 := by decide +kernel
theorem d1_54 : own_D b'1 54 .castore 1 55 := by decide +kernel
theorem d1_55 : own_D b'1 55 (.invokespecial 9) 3 58 := by decide +kernel
theorem d1_58 : own_D b'1 58 .areturn 1 59 := by decide +kernel
theorem d1_59 : own_D b'1 59 (.iload_n 0) 1 60 := by decide +kernel
theorem d1_60 : own_DK b'1 60 3 61 := by decide +kernel
theorem d1_61 : own_DJ b'1 61 .ne 87 64 := by decide +kernel
theorem d1_64 : own_D b'1 64 (.new 7) 3 67 := by decide +kernel
theorem d1_67 : own_D b'1 67 .dup 1 68 := by decide +kernel
theorem d1_68 : own_DK b'1 68 3 69 := by decide +kernel
theorem d1_69 : own_D b'1 69 (.newarray .char) 2 71 := by decide +kernel
theorem d1_71 : own_D b'1 71 .dup 1 72 := by decide +kernel
theorem d1_72 : own_DK b'1 72 0 73 := by decide +kernel
theorem d1_73 : own_D b'1 73 (.iload_n 1) 1 74 := by decide +kernel
theorem d1_74 : own_D b'1 74 .castore 1 75 := by decide +kernel
theorem d1_75 : own_D b'1 75 .dup 1 76 := by decide +kernel
theorem d1_76 : own_DK b'1 76 1 77 := by decide +kernel
theorem d1_77 : own_D b'1 77 (.iload_n 2) 1 78 := by decide +kernel
theorem d1_78 : own_D b'1 78 .castore 1 79 := by decide +kernel
theorem d1_79 : own_D b'1 79 .dup 1 80 := by decide +kernel
theorem d1_80 : own_DK b'1 80 2 81 := by decide +kernel
theorem d1_81 : own_D b'1 81 (.iload_n 3) 1 82 := by decide +kernel
theorem d1_82 : own_D b'1 82 .castore 1 83 := by decide +kernel
theorem d1_83 : own_D b'1 83 (.invokespecial 9) 3 86 := by decide +kernel
theorem d1_86 : own_D b'1 86 .areturn 1 87 := by decide +kernel
theorem d1_87 : own_D b'1 87 (.new 7) 3 90 := by decide +kernel
theorem d1_90 : own_D b'1 90 .dup 1 91 := by decide +kernel
theorem d1_91 : own_DK b'1 91 4 92 := by decide +kernel
theorem d1_92 : own_D b'1 92 (.newarray .char) 2 94 := by decide +kernel
theorem d1_94 : own_D b'1 94 .dup 1 95 := by decide +kernel
theorem d1_95 : own_DK b'1 95 0 96 := by decide +kernel
theorem d1_96 : own_D b'1 96 (.iload_n 1) 1 97 := by decide +kernel
theorem d1_97 : own_D b'1 97 .castore 1 98 := by decide +kernel
theorem d1_98 : own_D b'1 98 .dup 1 99 := by decide +kernel
theorem d1_99 : own_DK b'1 99 1 100 := by decide +kernel
theorem d1_100 : own_D b'1 100 (.iload_n 2) 1 101 := by decide +kernel
theorem d1_101 : own_D b'1 101 .castore 1 102 := by decide +kernel
theorem d1_102 : own_D b'1 102 .dup 1 103 := by decide +kernel
theorem d1_103 : own_DK b'1 103 2 104 := by decide +kernel
theorem d1_104 : own_D b'1 104 (.iload_n 3) 1 105 := by decide +kernel
theorem d1_105 : own_D b'1 105 .castore 1 106 := by decide +kernel
theorem d1_106 : own_D b'1 106 .dup 1 107 := by decide +kernel
theorem d1_107 : own_DK b'1 107 3 108 := by decide +kernel
theorem d1_108 : own_D b'1 108 (.iload 4) 2 110 := by decide +kernel
theorem d1_110 : own_D b'1 110 .castore 1 111 := by decide +kernel
theorem d1_111 : own_D b'1 111 (.invokespecial 9) 3 114 := by decide +kernel
theorem d1_114 : own_D b'1 114 .areturn 1 115 := by decide +kernel
theorem pn_1 : plainFor (⟨"com/example/wolf_spider/wolfspider/UrlOfPathPinLaw", "make", "(ICCCC)Ljava/lang/String;"⟩ : MethodName) = true := plainFor_of_name (by first | (simp [plainName, overriddenIn]; done) | decide +kernel)
theorem rm1_0 (l : Launch) (Z : State) (a0 : Array Value) (hw : ∀ d ∈ tables_1, d.before a0 Z = true) (ws : List Jvm.Cond) (p2 : Int32) (p3 : Int32) (p4 : Int32) (p5 : Int32) (cs0 : Int32) (h0 : Heap) (n0 : Nat) (Z0 : n0 ≤ h0.size) (O0 : Old Z n0 h0) (SC_ : own_SC Z cs0) (SU_ : own_SU Z) (hEL : EW Z a0 ([("java/lang/String", 7)] : List (String × Nat))) :
  MetFree l (⟨"com/example/wolf_spider/wolfspider/UrlOfPathPinLaw", "make", "(ICCCC)Ljava/lang/String;"⟩ : MethodName) (head1 (Jvm.Cond.code (⟨"com/example/wolf_spider/wolfspider/UrlOfPathPinLaw", "make", "(ICCCC)Ljava/lang/String;"⟩ : MethodName) b'1 5 (some (.object "java/lang/String")) :: ws) ({ frames := 3, cells := 4, slots := 8, locals := 43 } : Room)) (fun a U => a = #[v'0, (.int p2), (.int p3), (.int p4), (.int p5)] ∧ Z.Warmed39 U.vm ∧ U.heap = h0 ∧ CHv Z ([("java/lang/String", 7)] : List (String × Nat)) U.vm h0) (fun _ _ _ _ _ => True) (fun _ U o U' => ∃ v L, o = .returned v ∧ QMK0 Z  h0 n0 v U'.heap L ∧ ReturnedEndW U o U' L ({ frames := 3, cells := 4, slots := 8, locals := 43 } : Room).cells ({ frames := 3, cells := 4, slots := 8, locals := 43 } : Room).slots) := by
 obtain ⟨SCS, hcs⟩ := SC_; obtain ⟨SAD, SHI, SLO⟩ := SU_
 refine MetFree.of_bodySF pn_1 hisR ?_
 intro p e s m args below meth c s₁ Bd hml0 hP hK
 obtain ⟨rfl, hZ, hh, hCH⟩ := hP
 have hx := Bd.exec
 have hby := Bd.bytes
 have q : own_q p c b'1 := ⟨hx, hby⟩
 have W := @own_w _ _ hw
 have hml : c.maxLocals = 5 := hml0
 have hown : s.vm.findClass "com/example/wolf_spider/wolfspider/UrlOfPathPinLaw" = some m.cls := findClass_of_methodNamed Bd.named
 have hnm := (name_of_methodNamed Bd.named Bd.method).1
 have hlk : meth.locks = false := BodyLoose.notSynchronized Bd
 have X0 : Stand p l e ({ frames := 3, cells := 4, slots := 8, locals := 43 } : Room) s m #[v'0, (.int p2), (.int p3), (.int p4), (.int p5)] below meth c s₁ [] 0 0 := Stand.of_body Bd
 have e0 : s₁.heap = h0 := by rw [← hh, Bd.state]; rfl
 have N0 := Fr.nil n0
 show own_Fin p e below (own_PW (QMK0 Z  h0 n0) s ({ frames := 3, cells := 4, slots := 8, locals := 43 } : Room).cells ({ frames := 3, cells := 4, slots := 8, locals := 43 } : Room).slots) (s₁.setTop (entryFrame m #[v'0, (.int p2), (.int p3), (.int p4), (.int p5)] 5))
 rw [show entryFrame m #[v'0, (.int p2), (.int p3), (.int p4), (.int p5)] 5 = mkF m 0 #[.val v'0, .val (.int p2), .val (.int p3), .val (.int p4), .val (.int p5)] [] from by first | (simp [entryFrame, mkF, argsToLocals, Value.category]; done) | rfl]
 have X0 : Stand p l e ({ frames := 3, cells := 4, slots := 8, locals := 43 } : Room) (s.setVm s.vm) m #[v'0, (.int p2), (.int p3), (.int p4), (.int p5)] below meth c s₁ [] 0 0 := X0
 have hZ : Z.Warmed39 (s.setVm s.vm).vm := hZ
 have hown : (s.setVm s.vm).vm.findClass "com/example/wolf_spider/wolfspider/UrlOfPathPinLaw" = some m.cls := hown
 have hS0 : s.Since s.vm 0 := (State.WarmedH.refl s).since 0
 have hk0 : 0 ≤ h0.size := Nat.zero_le _
 have hCH : CHv Z ([("java/lang/String", 7)] : List (String × Nat)) s.vm h0 := hCH
 have hCR := CHr.refl hCH
 have hstr : ∀ a ∈ Bundle.stringAtoms, a.before a0 Z = true := fun d hd => hw d ((by decide +kernel : ∀ d ∈ Bundle.stringAtoms, d ∈ tables_1) d hd)
 have kp0 := Keep.refl h0 []
 refine own_iln X0 q d1_0 rfl (own_zn X0 q d1_1 (((if0 _ _).trans (teq (rfl : (0 : Int32) = (0 : Int32))).2)) ?_)
 refine own_let ?_; intro g2126_
 obtain ⟨T2127, h2127, X2127, e2127, E2127, A2127, D2127, -, st2127⟩ := newO X0 hx hZ hown (W 6 rfl) (W 7 rfl) (W 8 rfl) e0 (g := g2126_) rfl (q.d d1_4) (by decide) (by decide)
 obtain ⟨b2127, g2127⟩ : ∃ z, z = h0.size := ⟨_, rfl⟩
 rw [← g2127] at A2127 D2127 st2127
 have ch2128 := CHr.ext E2127 hCH
 have cr2128 := CHr.trans hCR ch2128
 have zs2128 := Nat.le_trans Z0 E2127.1
 have hk2128 := Nat.le_trans hk0 E2127.1
 have kp2128 := kp0.ext E2127
 have g_b2127 : n0 ≤ b2127 := Nat.le_trans Z0 (Nat.le_of_eq g2127.symm)
 have sz_b2127 : h0.size ≤ b2127 := Nat.le_trans kp0.1 (Nat.le_of_eq g2127.symm)
 have sf_b2127 := Safe.ext E2127 hCH (Safe.new (Nat.le_of_eq g2127.symm))
 have F2127_value : F'1 Z h2127 b2127 .null := D2127 (Or.inr (W 22 rfl)) (ty := (.array .byte)) (by decide)
 have F2127_coder : F'0 Z h2127 b2127 v'0 := D2127 (Or.inr (W 23 rfl)) (ty := .byte) (by decide)
 refine own_stq 7 [(.ref b2127)] st2127 (own_dp X2127 q d1_7 rfl (own_k X2127 q d1_8 ?_))
 refine own_let ?_; intro g2129_
 obtain ⟨T2130, h2130, k2130, X2130, e2130, E2130, A2130, st2130⟩ := newP X2127 hx hZ (W 9 rfl) e2127 (g := g2129_) rfl (q.d d1_9) rfl (by decide) (cap := 0) (by decide) (by decide) (by decide) (by decide)
 obtain ⟨b2130, g2130⟩ : ∃ z, z = h2127.size := ⟨_, rfl⟩
 rw [← g2130] at A2130 st2130
 have V2130 : Arv Z h2130 b2130 k2130 .char (0 : Int32) [] v'0 := Arv.new A2130 (by decide)
 have ch2131 := CHr.ext E2130 ch2128.1
 have cr2131 := CHr.trans cr2128 ch2131
 have sf2131_b2127 := Safe.ext E2130 ch2128.1 sf_b2127
 have zs2131 := Nat.le_trans zs2128 E2130.1
 have hk2131 := Nat.le_trans hk2128 E2130.1
 have kp2131 := kp2128.ext E2130
 refine own_stp 11 st2130 ?_
 refine own_let ?_; intro g2133_
 obtain ⟨_, _, ⟨T2132, L2132, k2132, n2132⟩, -, X2132, hS2132, hG2132, ⟨Lc2132, hQ2132, l2132, y2132, z2132, cH2132⟩, st2132⟩ := X2130.specialBackS hx (y := own_y9) rfl hown (mvT hZ (W 10 rfl)) (mvT hZ (W 11 rfl)) (mvT hZ (W 12 rfl)) (by decide) (own_backHS (W := 1) (rm2_0 l Z a0 hw [] b2127 b2130 k2130 h2130 n0 zs2131 (A2127.ext E2130) (F2127_value.ext E2130) (F2127_coder.ext E2130) V2130 g_b2127 (own_ne (A2127).lt (Nat.le_of_eq g2130.symm)) hEL) hZ (W 12 rfl) (W 8 rfl) (by decide) (by decide) hEL ch2131.1 (ss := [b2127]) (allS ⟨((A2127.ext E2130)).lt, sf2131_b2127⟩ all0)) (g := g2133_) rfl (by rw [hml]; rfl) (Steps.refl _) (a := b2127) (argsL := [(.ref b2130)]) (rest := [(.ref b2127)]) (lenOf own_pd32 rfl) rfl (by show 2 * 0 + _ ≤ _; exact Nat.le_of_eq rfl) (q.d d1_11) (fun _ _ => ⟨rfl, e2130, (by decide : 2 + 2 ≤ _), (by decide : 4 + 4 ≤ _)⟩)
 dsimp only [Pt.U, Pt.locs, Pt.cells, Pt.slots] at X2132 l2132 y2132 z2132 st2132 hQ2132
 rw [l2132, y2132, z2132] at X2132
 clear l2132 y2132 z2132
 have X2132 : Stand p l e _ (s.setVm T2132.vm) m _ below meth c T2132 _ _ _ := X2132
 have hZ2132 : Z.Warmed39 (s.setVm T2132.vm).vm := State.Warmed39.trans hZ hS2132.1
 have hown : (s.setVm T2132.vm).vm.findClass "com/example/wolf_spider/wolfspider/UrlOfPathPinLaw" = some m.cls := by show T2132.vm.findClass _ = _; rw [hS2132.1.alike.findClass]; exact hown
 have hZ := hZ2132
 have hS2132 := State.Since.trans hS0 hS2132 (Nat.le_trans hk2131 (by rw [← e2130]; exact hG2132))
 obtain ⟨t2132, k2132, rfl, N2132q, K2132, Fv2132, Fc2132, V2132⟩ := hQ2132
 have N2132 := Fr.app N0 N2132q
 obtain ⟨h2132, e2132⟩ : ∃ z, z = T2132.heap := ⟨_, rfl⟩
 have e2132' := e2132.symm
 rw [← e2132] at K2132 Fv2132 Fc2132 V2132
 rw [e2132'] at hS2132
 have hkc2132 : h2132.size ≤ h2132.size := Nat.le_refl _
 have hk2134 := Nat.le_trans hk2131 K2132.1
 have kp2134 := kp2131.trans K2132 (allS (Or.inr sz_b2127) all0)
 rw [e2132'] at cH2132
 have cr2132 := CHr.trans cr2131 cH2132
 have sf2132_b2127 := cH2132.safe ((A2127.ext E2130)).lt sf2131_b2127
 refine own_stp 14 (fun _ k => st2132.trans k) (own_nn ?_)
 refine own_retOW X2132 hS2132 (by rw [e2132']; exact hkc2132) hx (t := (.object "java/lang/String")) Bd.returns rfl (Or.inr (Or.inr (Or.inr (Or.inr ⟨rfl, rfl, rfl⟩)))) (q.d d1_14) hlk ?_ (by decide) (by decide)
 show QMK0 Z  h0 n0 _ T2132.heap _
 rw [e2132']
 exact ⟨_, _, _, rfl, N2132, own_extK kp2134, sz_b2127, ((A2127.ext E2130).keep K2132), Fv2132, ⟨Fc2132, V2132⟩⟩
theorem rm1_1 (l : Launch) (Z : State) (a0 : Array Value) (hw : own_hw a0 Z) (p2 : Int32) (p3 : Int32) (p4 : Int32) (p5 : Int32) (cs0 : Int32) (h0 : Heap) (n0 : Nat) (Z0 : n0 ≤ h0.size) (O0 : Old Z n0 h0) (SC_ : own_SC Z cs0) (SU_ : own_SU Z) :
  own_M l Z [] own_y45 b'1 5 (some (.object "java/lang/String")) ⟨6, 4, 8, 88⟩ #[v'1, (.int p2), (.int p3), (.int p4), (.int p5)] h0 (QMK1 Z p2 h0 n0) := by
 obtain ⟨SCS, hcs⟩ := SC_; obtain ⟨SAD, SHI, SLO⟩ := SU_
 refine own_start (n0 := n0) hw "com/example/wolf_spider/wolfspider/UrlOfPathPinLaw" (L := #[.val v'1, .val (.int p2), .val (.int p3), .val (.int p4), .val (.int p5)]) pn_1 (fun {p e s m below meth c s₁} q hx W hml hZ hown hnm hlk hrt X0 e0 N0 => ?_)
 have kp0 := Keep.refl h0 []
 refine own_iln X0 q d1_0 rfl (own_zy X0 q d1_1 (((if0 _ _).trans (feq ((by decide) : ¬ ((1 : Int32) = (0 : Int32)))).2)) (own_iln X0 q d1_15 rfl (own_k X0 q d1_16 (own_cn X0 q d1_17 ((teq (rfl : (1 : Int32) = (1 : Int32))).2) ?_))))
 refine own_let ?_; intro g2145_
 obtain ⟨T2146, h2146, X2146, e2146, E2146, A2146, D2146, -, st2146⟩ := newO X0 hx hZ hown (W 6 rfl) (W 7 rfl) (W 8 rfl) e0 (g := g2145_) rfl (q.d d1_20) (by decide) (by decide)
 obtain ⟨b2146, g2146⟩ : ∃ z, z = h0.size := ⟨_, rfl⟩
 rw [← g2146] at A2146 D2146 st2146
 have zs2147 := Nat.le_trans Z0 E2146.1
 have od2147 := O0.ext E2146
 have kp2147 := kp0.ext E2146
 have g_b2146 : n0 ≤ b2146 := Nat.le_trans Z0 (Nat.le_of_eq g2146.symm)
 have sz_b2146 : h0.size ≤ b2146 := Nat.le_trans kp0.1 (Nat.le_of_eq g2146.symm)
 have F2146_value : F'1 Z h2146 b2146 .null := D2146 (Or.inr (W 22 rfl)) (ty := (.array .byte)) (by decide)
 have F2146_coder : F'0 Z h2146 b2146 v'0 := D2146 (Or.inr (W 23 rfl)) (ty := .byte) (by decide)
 refine own_stq 23 [(.ref b2146)] st2146 (own_dp X2146 q d1_23 rfl (own_k X2146 q d1_24 ?_))
 refine own_let ?_; intro g2148_
 obtain ⟨T2149, h2149, k2149, X2149, e2149, E2149, A2149, st2149⟩ := newP X2146 hx hZ (W 9 rfl) e2146 (g := g2148_) rfl (q.d d1_25) rfl (by decide) (cap := 1) (by decide) (by decide) (by decide) (by decide)
 obtain ⟨b2149, g2149⟩ : ∃ z, z = h2146.size := ⟨_, rfl⟩
 rw [← g2149] at A2149 st2149
 have V2149 : Arv Z h2149 b2149 k2149 .char (1 : Int32) [v'0] v'0 := (Arv.new A2149 (by decide)).pad (pad_rep [] v'0 1)
 have zs2150 := Nat.le_trans zs2147 E2149.1
 have od2150 := od2147.ext E2149
 have kp2150 := kp2147.ext E2149
 have g_b2149 : n0 ≤ b2149 := Nat.le_trans zs2147 (Nat.le_of_eq g2149.symm)
 have sz_b2149 : h0.size ≤ b2149 := Nat.le_trans kp2147.1 (Nat.le_of_eq g2149.symm)
 refine own_stp 27 st2149 (own_dp X2149 q d1_27 rfl (own_k X2149 q d1_28 (own_iln X2149 q d1_29 rfl ?_)))
 refine own_cst X2149 q hZ e2149 V2149 d1_30 (by decide) (Nat.le_of_ble_eq_true rfl) N0 g_b2149 fun T2151 h2151 X2151 e2151 W2151 V2151 N2151 => ?_
 have zs2152 := Nat.le_trans zs2150 (Keep.of_wr W2151).1
 have od2152 := od2150.wr W2151 g_b2149
 have kp2152 := kp2150.wr W2151 (Or.inr sz_b2149)
 refine own_cIh (a := b2146) X2151 q hZ e2151 hown hml (W 10 rfl) (W 11 rfl) (W 8 rfl) (W 12 rfl) (rm2_1 l Z a0 hw b2146 b2149 k2149 (nar .char p2) cs0 h2151 n0 zs2152 ((A2146.ext E2149).wr W2151) ((F2146_value.ext E2149).other W2151 (Or.inl (own_ne (A2146).lt (Nat.le_of_eq g2149.symm)))) ((F2146_coder.ext E2149).other W2151 (Or.inl (own_ne (A2146).lt (Nat.le_of_eq g2149.symm)))) V2151 g_b2146 (own_ne (A2146).lt (Nat.le_of_eq g2149.symm)) od2152 ⟨SCS, hcs⟩ ⟨SAD, SHI, SLO⟩ (own_nc16 _)) d1_31 [(.ref b2149)] [(.ref b2146)] own_pd32 1 rfl (by decide) (fun v2153 T2153 L2153 h2153 e2153' X2153 hQ2153 => ?_)
 obtain ⟨t2153, k2153, rfl, N2153q, K2153, lo2153, Fv2153, D2153⟩ := hQ2153
 have N2153 := Fr.app N2151 N2153q
 have kp2154 := kp2152.trans K2153 (allS (Or.inr sz_b2146) all0)
 refine own_nn ?_
 refine own_rA X2153 q hrt d1_34 hlk (by decide) ?_
 show QMK1 Z p2 h0 n0 _ T2153.heap _
 rw [e2153']
 exact ⟨_, _, _, rfl, N2153, own_extK kp2154, sz_b2146, (((A2146.ext E2149).wr W2151).keep K2153), Fv2153, (D2153.imp (fun r => ⟨r.1, r.2.2⟩) (fun r => ⟨r.1, r.2.2⟩))⟩
theorem rm1_2 (l : Launch) (Z : State) (a0 : Array Value) (hw : own_hw a0 Z) (p2 : Int32) (p3 : Int32) (p4 : Int32) (p5 : Int32) (cs0 : Int32) (h0 : Heap) (n0 : Nat) (Z0 : n0 ≤ h0.size) (O0 : Old Z n0 h0) (SC_ : own_SC Z cs0) (SU_ : own_SU Z) :
  own_M l Z [] own_y45 b'1 5 (some (.object "java/lang/String")) ⟨6, 4, 12, 88⟩ #[v'2, (.int p2), (.int p3), (.int p4), (.int p5)] h0 (QMK2 Z p2 p3 h0 n0) := by
 obtain ⟨SCS, hcs⟩ := SC_; obtain ⟨SAD, SHI, SLO⟩ := SU_
 refine own_start (n0 := n0) hw "com/example/wolf_spider/wolfspider/UrlOfPathPinLaw" (L := #[.val v'2, .val (.int p2), .val (.int p3), .val (.int p4), .val (.int p5)]) pn_1 (fun {p e s m below meth c s₁} q hx W hml hZ hown hnm hlk hrt X0 e0 N0 => ?_)
 have kp0 := Keep.refl h0 []
 refine own_iln X0 q d1_0 rfl (own_zy X0 q d1_1 (((if0 _ _).trans (feq ((by decide) : ¬ ((2 : Int32) = (0 : Int32)))).2)) (own_iln X0 q d1_15 rfl (own_k X0 q d1_16 (own_cy X0 q d1_17 ((feq ((by decide) : ¬ ((2 : Int32) = (1 : Int32)))).2) (own_iln X0 q d1_35 rfl (own_k X0 q d1_36 (own_cn X0 q d1_37 ((teq (rfl : (2 : Int32) = (2 : Int32))).2) ?_)))))))
 refine own_let ?_; intro g2167_
 obtain ⟨T2168, h2168, X2168, e2168, E2168, A2168, D2168, -, st2168⟩ := newO X0 hx hZ hown (W 6 rfl) (W 7 rfl) (W 8 rfl) e0 (g := g2167_) rfl (q.d d1_40) (by decide) (by decide)
 obtain ⟨b2168, g2168⟩ : ∃ z, z = h0.size := ⟨_, rfl⟩
 rw [← g2168] at A2168 D2168 st2168
 have zs2169 := Nat.le_trans Z0 E2168.1
 have od2169 := O0.ext E2168
 have kp2169 := kp0.ext E2168
 have g_b2168 : n0 ≤ b2168 := Nat.le_trans Z0 (Nat.le_of_eq g2168.symm)
 have sz_b2168 : h0.size ≤ b2168 := Nat.le_trans kp0.1 (Nat.le_of_eq g2168.symm)
 have F2168_value : F'1 Z h2168 b2168 .null := D2168 (Or.inr (W 22 rfl)) (ty := (.array .byte)) (by decide)
 have F2168_coder : F'0 Z h2168 b2168 v'0 := D2168 (Or.inr (W 23 rfl)) (ty := .byte) (by decide)
 refine own_stq 43 [(.ref b2168)] st2168 (own_dp X2168 q d1_43 rfl (own_k X2168 q d1_44 ?_))
 refine own_let ?_; intro g2170_
 obtain ⟨T2171, h2171, k2171, X2171, e2171, E2171, A2171, st2171⟩ := newP X2168 hx hZ (W 9 rfl) e2168 (g := g2170_) rfl (q.d d1_45) rfl (by decide) (cap := 2) (by decide) (by decide) (by decide) (by decide)
 obtain ⟨b2171, g2171⟩ : ∃ z, z = h2168.size := ⟨_, rfl⟩
 rw [← g2171] at A2171 st2171
 have V2171 : Arv Z h2171 b2171 k2171 .char (2 : Int32) [v'0, v'0] v'0 := (Arv.new A2171 (by decide)).pad (pad_rep [] v'0 2)
 have zs2172 := Nat.le_trans zs2169 E2171.1
 have od2172 := od2169.ext E2171
 have kp2172 := kp2169.ext E2171
 have g_b2171 : n0 ≤ b2171 := Nat.le_trans zs2169 (Nat.le_of_eq g2171.symm)
 have sz_b2171 : h0.size ≤ b2171 := Nat.le_trans kp2169.1 (Nat.le_of_eq g2171.symm)
 refine own_stp 47 st2171 (own_dp X2171 q d1_47 rfl (own_k X2171 q d1_48 (own_iln X2171 q d1_49 rfl ?_)))
 refine own_cst X2171 q hZ e2171 V2171 d1_50 (by decide) (Nat.le_of_ble_eq_true rfl) N0 g_b2171 fun T2173 h2173 X2173 e2173 W2173 V2173 N2173 => ?_
 have zs2174 := Nat.le_trans zs2172 (Keep.of_wr W2173).1
 have od2174 := od2172.wr W2173 g_b2171
 have kp2174 := kp2172.wr W2173 (Or.inr sz_b2171)
 refine own_dp X2173 q d1_51 rfl (own_k X2173 q d1_52 (own_iln X2173 q d1_53 rfl ?_))
 refine own_cst X2173 q hZ e2173 V2173 d1_54 (by decide) (Nat.le_of_ble_eq_true rfl) N2173 g_b2171 fun T2175 h2175 X2175 e2175 W2175 V2175 N2175 => ?_
 have zs2176 := Nat.le_trans zs2174 (Keep.of_wr W2175).1
 have od2176 := od2174.wr W2175 g_b2171
 have kp2176 := kp2174.wr W2175 (Or.inr sz_b2171)
 refine own_cIh (a := b2168) X2175 q hZ e2175 hown hml (W 10 rfl) (W 11 rfl) (W 8 rfl) (W 12 rfl) (rm2_2 l Z a0 hw b2168 b2171 k2171 (nar .char p2) (nar .char p3) cs0 h2175 n0 zs2176 (((A2168.ext E2171).wr W2173).wr W2175) (((F2168_value.ext E2171).other W2173 (Or.inl (own_ne (A2168).lt (Nat.le_of_eq g2171.symm)))).other W2175 (Or.inl (own_ne (A2168).lt (Nat.le_of_eq g2171.symm)))) (((F2168_coder.ext E2171).other W2173 (Or.inl (own_ne (A2168).lt (Nat.le_of_eq g2171.symm)))).other W2175 (Or.inl (own_ne (A2168).lt (Nat.le_of_eq g2171.symm)))) V2175 g_b2168 (own_ne (A2168).lt (Nat.le_of_eq g2171.symm)) od2176 ⟨SCS, hcs⟩ ⟨SAD, SHI, SLO⟩ (own_nc16 _) (own_nc16 _)) d1_55 [(.ref b2171)] [(.ref b2168)] own_pd32 1 rfl (by decide) (fun v2177 T2177 L2177 h2177 e2177' X2177 hQ2177 => ?_)
 obtain ⟨t2177, k2177, rfl, N2177q, K2177, lo2177, Fv2177, D2177⟩ := hQ2177
 have N2177 := Fr.app N2175 N2177q
 have kp2178 := kp2176.trans K2177 (allS (Or.inr sz_b2168) all0)
 refine own_nn ?_
 refine own_rA X2177 q hrt d1_58 hlk (by decide) ?_
 show QMK2 Z p2 p3 h0 n0 _ T2177.heap _
 rw [e2177']
 exact ⟨_, _, _, rfl, N2177, own_extK kp2178, sz_b2168, ((((A2168.ext E2171).wr W2173).wr W2175).keep K2177), Fv2177, (D2177.imp (fun r => ⟨r.1, r.2.2⟩) (fun r => ⟨r.1, r.2.2⟩))⟩
theorem rm1_3 (l : Launch) (Z : State) (a0 : Array Value) (hw : own_hw a0 Z) (p2 : Int32) (p3 : Int32) (p4 : Int32) (p5 : Int32) (cs0 : Int32) (h0 : Heap) (n0 : Nat) (Z0 : n0 ≤ h0.size) (O0 : Old Z n0 h0) (SC_ : own_SC Z cs0) (SU_ : own_SU Z) :
  own_M l Z [] own_y45 b'1 5 (some (.object "java/lang/String")) ⟨6, 4, 16, 88⟩ #[v'3, (.int p2), (.int p3), (.int p4), (.int p5)] h0 (QMK3 Z p2 p3 p4 h0 n0) := by
 obtain ⟨SCS, hcs⟩ := SC_; obtain ⟨SAD, SHI, SLO⟩ := SU_
 refine own_start (n0 := n0) hw "com/example/wolf_spider/wolfspider/UrlOfPathPinLaw" (L := #[.val v'3, .val (.int p2), .val (.int p3), .val (.int p4), .val (.int p5)]) pn_1 (fun {p e s m below meth c s₁} q hx W hml hZ hown hnm hlk hrt X0 e0 N0 => ?_)
 have kp0 := Keep.refl h0 []
 refine own_iln X0 q d1_0 rfl (own_zy X0 q d1_1 (((if0 _ _).trans (feq ((by decide) : ¬ ((3 : Int32) = (0 : Int32)))).2)) (own_iln X0 q d1_15 rfl (own_k X0 q d1_16 (own_cy X0 q d1_17 ((feq ((by decide) : ¬ ((3 : Int32) = (1 : Int32)))).2) (own_iln X0 q d1_35 rfl (own_k X0 q d1_36 (own_cy X0 q d1_37 ((feq ((by decide) : ¬ ((3 : Int32) = (2 : Int32)))).2) (own_iln X0 q d1_59 rfl (own_k X0 q d1_60 (own_cn X0 q d1_61 ((teq (rfl : (3 : Int32) = (3 : Int32))).2) ?_))))))))))
 refine own_let ?_; intro g2193_
 obtain ⟨T2194, h2194, X2194, e2194, E2194, A2194, D2194, -, st2194⟩ := newO X0 hx hZ hown (W 6 rfl) (W 7 rfl) (W 8 rfl) e0 (g := g2193_) rfl (q.d d1_64) (by decide) (by decide)
 obtain ⟨b2194, g2194⟩ : ∃ z, z = h0.size := ⟨_, rfl⟩
 rw [← g2194] at A2194 D2194 st2194
 have zs2195 := Nat.le_trans Z0 E2194.1
 have od2195 := O0.ext E2194
 have kp2195 := kp0.ext E2194
 have g_b2194 : n0 ≤ b2194 := Nat.le_trans Z0 (Nat.le_of_eq g2194.symm)
 have sz_b2194 : h0.size ≤ b2194 := Nat.le_trans kp0.1 (Nat.le_of_eq g2194.symm)
 have F2194_value : F'1 Z h2194 b2194 .null := D2194 (Or.inr (W 22 rfl)) (ty := (.array .byte)) (by decide)
 have F2194_coder : F'0 Z h2194 b2194 v'0 := D2194 (Or.inr (W 23 rfl)) (ty := .byte) (by decide)
 refine own_stq 67 [(.ref b2194)] st2194 (own_dp X2194 q d1_67 rfl (own_k X2194 q d1_68 ?_))
 refine own_let ?_; intro g2196_
 obtain ⟨T2197, h2197, k2197, X2197, e2197, E2197, A2197, st2197⟩ := newP X2194 hx hZ (W 9 rfl) e2194 (g := g2196_) rfl (q.d d1_69) rfl (by decide) (cap := 3) (by decide) (by decide) (by decide) (by decide)
 obtain ⟨b2197, g2197⟩ : ∃ z, z = h2194.size := ⟨_, rfl⟩
 rw [← g2197] at A2197 st2197
 have V2197 : Arv Z h2197 b2197 k2197 .char (3 : Int32) [v'0, v'0, v'0] v'0 := (Arv.new A2197 (by decide)).pad (pad_rep [] v'0 3)
 have zs2198 := Nat.le_trans zs2195 E2197.1
 have od2198 := od2195.ext E2197
 have kp2198 := kp2195.ext E2197
 have g_b2197 : n0 ≤ b2197 := Nat.le_trans zs2195 (Nat.le_of_eq g2197.symm)
 have sz_b2197 : h0.size ≤ b2197 := Nat.le_trans kp2195.1 (Nat.le_of_eq g2197.symm)
 refine own_stp 71 st2197 (own_dp X2197 q d1_71 rfl (own_k X2197 q d1_72 (own_iln X2197 q d1_73 rfl ?_)))
 refine own_cst X2197 q hZ e2197 V2197 d1_74 (by decide) (Nat.le_of_ble_eq_true rfl) N0 g_b2197 fun T2199 h2199 X2199 e2199 W2199 V2199 N2199 => ?_
 have zs2200 := Nat.le_trans zs2198 (Keep.of_wr W2199).1
 have od2200 := od2198.wr W2199 g_b2197
 have kp2200 := kp2198.wr W2199 (Or.inr sz_b2197)
 refine own_dp X2199 q d1_75 rfl (own_k X2199 q d1_76 (own_iln X2199 q d1_77 rfl ?_))
 refine own_cst X2199 q hZ e2199 V2199 d1_78 (by decide) (Nat.le_of_ble_eq_true rfl) N2199 g_b2197 fun T2201 h2201 X2201 e2201 W2201 V2201 N2201 => ?_
 have zs2202 := Nat.le_trans zs2200 (Keep.of_wr W2201).1
 have od2202 := od2200.wr W2201 g_b2197
 have kp2202 := kp2200.wr W2201 (Or.inr sz_b2197)
 refine own_dp X2201 q d1_79 rfl (own_k X2201 q d1_80 (own_iln X2201 q d1_81 rfl ?_))
 refine own_cst X2201 q hZ e2201 V2201 d1_82 (by decide) (Nat.le_of_ble_eq_true rfl) N2201 g_b2197 fun T2203 h2203 X2203 e2203 W2203 V2203 N2203 => ?_
 have zs2204 := Nat.le_trans zs2202 (Keep.of_wr W2203).1
 have od2204 := od2202.wr W2203 g_b2197
 have kp2204 := kp2202.wr W2203 (Or.inr sz_b2197)
 refine own_cIh (a := b2194) X2203 q hZ e2203 hown hml (W 10 rfl) (W 11 rfl) (W 8 rfl) (W 12 rfl) (rm2_3 l Z a0 hw b2194 b2197 k2197 (nar .char p2) (nar .char p3) (nar .char p4) cs0 h2203 n0 zs2204 ((((A2194.ext E2197).wr W2199).wr W2201).wr W2203) ((((F2194_value.ext E2197).other W2199 (Or.inl (own_ne (A2194).lt (Nat.le_of_eq g2197.symm)))).other W2201 (Or.inl (own_ne (A2194).lt (Nat.le_of_eq g2197.symm)))).other W2203 (Or.inl (own_ne (A2194).lt (Nat.le_of_eq g2197.symm)))) ((((F2194_coder.ext E2197).other W2199 (Or.inl (own_ne (A2194).lt (Nat.le_of_eq g2197.symm)))).other W2201 (Or.inl (own_ne (A2194).lt (Nat.le_of_eq g2197.symm)))).other W2203 (Or.inl (own_ne (A2194).lt (Nat.le_of_eq g2197.symm)))) V2203 g_b2194 (own_ne (A2194).lt (Nat.le_of_eq g2197.symm)) od2204 ⟨SCS, hcs⟩ ⟨SAD, SHI, SLO⟩ (own_nc16 _) (own_nc16 _) (own_nc16 _)) d1_83 [(.ref b2197)] [(.ref b2194)] own_pd32 1 rfl (by decide) (fun v2205 T2205 L2205 h2205 e2205' X2205 hQ2205 => ?_)
 obtain ⟨t2205, k2205, rfl, N2205q, K2205, lo2205, Fv2205, D2205⟩ := hQ2205
 have N2205 := Fr.app N2203 N2205q
 have kp2206 := kp2204.trans K2205 (allS (Or.inr sz_b2194) all0)
 refine own_nn ?_
 refine own_rA X2205 q hrt d1_86 hlk (by decide) ?_
 show QMK3 Z p2 p3 p4 h0 n0 _ T2205.heap _
 rw [e2205']
 exact ⟨_, _, _, rfl, N2205, own_extK kp2206, sz_b2194, (((((A2194.ext E2197).wr W2199).wr W2201).wr W2203).keep K2205), Fv2205, (D2205.imp (fun r => ⟨r.1, r.2.2⟩) (fun r => ⟨r.1, r.2.2⟩))⟩
theorem rm1_4 (l : Launch) (Z : State) (a0 : Array Value) (hw : own_hw a0 Z) (p2 : Int32) (p3 : Int32) (p4 : Int32) (p5 : Int32) (cs0 : Int32) (h0 : Heap) (n0 : Nat) (Z0 : n0 ≤ h0.size) (O0 : Old Z n0 h0) (SC_ : own_SC Z cs0) (SU_ : own_SU Z) :
  own_M l Z [] own_y45 b'1 5 (some (.object "java/lang/String")) ⟨6, 4, 20, 88⟩ #[v'4, (.int p2), (.int p3), (.int p4), (.int p5)] h0 (QMK4 Z p2 p3 p4 p5 h0 n0) := by
 obtain ⟨SCS, hcs⟩ := SC_; obtain ⟨SAD, SHI, SLO⟩ := SU_
 refine own_start (n0 := n0) hw "com/example/wolf_spider/wolfspider/UrlOfPathPinLaw" (L := #[.val v'4, .val (.int p2), .val (.int p3), .val (.int p4), .val (.int p5)]) pn_1 (fun {p e s m below meth c s₁} q hx W hml hZ hown hnm hlk hrt X0 e0 N0 => ?_)
 have kp0 := Keep.refl h0 []
 refine own_iln X0 q d1_0 rfl (own_zy X0 q d1_1 (((if0 _ _).trans (feq ((by decide) : ¬ ((4 : Int32) = (0 : Int32)))).2)) (own_iln X0 q d1_15 rfl (own_k X0 q d1_16 (own_cy X0 q d1_17 ((feq ((by decide) : ¬ ((4 : Int32) = (1 : Int32)))).2) (own_iln X0 q d1_35 rfl (own_k X0 q d1_36 (own_cy X0 q d1_37 ((feq ((by decide) : ¬ ((4 : Int32) = (2 : Int32)))).2) (own_iln X0 q d1_59 rfl (own_k X0 q d1_60 (own_cy X0 q d1_61 ((feq ((by decide) : ¬ ((4 : Int32) = (3 : Int32)))).2) ?_))))))))))
 refine own_let ?_; intro g2223_
 obtain ⟨T2224, h2224, X2224, e2224, E2224, A2224, D2224, -, st2224⟩ := newO X0 hx hZ hown (W 6 rfl) (W 7 rfl) (W 8 rfl) e0 (g := g2223_) rfl (q.d d1_87) (by decide) (by decide)
 obtain ⟨b2224, g2224⟩ : ∃ z, z = h0.size := ⟨_, rfl⟩
 rw [← g2224] at A2224 D2224 st2224
 have zs2225 := Nat.le_trans Z0 E2224.1
 have od2225 := O0.ext E2224
 have kp2225 := kp0.ext E2224
 have g_b2224 : n0 ≤ b2224 := Nat.le_trans Z0 (Nat.le_of_eq g2224.symm)
 have sz_b2224 : h0.size ≤ b2224 := Nat.le_trans kp0.1 (Nat.le_of_eq g2224.symm)
 have F2224_value : F'1 Z h2224 b2224 .null := D2224 (Or.inr (W 22 rfl)) (ty := (.array .byte)) (by decide)
 have F2224_coder : F'0 Z h2224 b2224 v'0 := D2224 (Or.inr (W 23 rfl)) (ty := .byte) (by decide)
 refine own_stq 90 [(.ref b2224)] st2224 (own_dp X2224 q d1_90 rfl (own_k X2224 q d1_91 ?_))
 refine own_let ?_; intro g2226_
 obtain ⟨T2227, h2227, k2227, X2227, e2227, E2227, A2227, st2227⟩ := newP X2224 hx hZ (W 9 rfl) e2224 (g := g2226_) rfl (q.d d1_92) rfl (by decide) (cap := 4) (by decide) (by decide) (by decide) (by decide)
 obtain ⟨b2227, g2227⟩ : ∃ z, z = h2224.size := ⟨_, rfl⟩
 rw [← g2227] at A2227 st2227
 have V2227 : Arv Z h2227 b2227 k2227 .char (4 : Int32) [v'0, v'0, v'0, v'0] v'0 := (Arv.new A2227 (by decide)).pad (pad_rep [] v'0 4)
 have zs2228 := Nat.le_trans zs2225 E2227.1
 have od2228 := od2225.ext E2227
 have kp2228 := kp2225.ext E2227
 have g_b2227 : n0 ≤ b2227 := Nat.le_trans zs2225 (Nat.le_of_eq g2227.symm)
 have sz_b2227 : h0.size ≤ b2227 := Nat.le_trans kp2225.1 (Nat.le_of_eq g2227.symm)
 refine own_stp 94 st2227 (own_dp X2227 q d1_94 rfl (own_k X2227 q d1_95 (own_iln X2227 q d1_96 rfl ?_)))
 refine own_cst X2227 q hZ e2227 V2227 d1_97 (by decide) (Nat.le_of_ble_eq_true rfl) N0 g_b2227 fun T2229 h2229 X2229 e2229 W2229 V2229 N2229 => ?_
 have zs2230 := Nat.le_trans zs2228 (Keep.of_wr W2229).1
 have od2230 := od2228.wr W2229 g_b2227
 have kp2230 := kp2228.wr W2229 (Or.inr sz_b2227)
 refine own_dp X2229 q d1_98 rfl (own_k X2229 q d1_99 (own_iln X2229 q d1_100 rfl ?_))
 refine own_cst X2229 q hZ e2229 V2229 d1_101 (by decide) (Nat.le_of_ble_eq_true rfl) N2229 g_b2227 fun T2231 h2231 X2231 e2231 W2231 V2231 N2231 => ?_
 have zs2232 := Nat.le_trans zs2230 (Keep.of_wr W2231).1
 have od2232 := od2230.wr W2231 g_b2227
 have kp2232 := kp2230.wr W2231 (Or.inr sz_b2227)
 refine own_dp X2231 q d1_102 rfl (own_k X2231 q d1_103 (own_iln X2231 q d1_104 rfl ?_))
 refine own_cst X2231 q hZ e2231 V2231 d1_105 (by decide) (Nat.le_of_ble_eq_true rfl) N2231 g_b2227 fun T2233 h2233 X2233 e2233 W2233 V2233 N2233 => ?_
 have zs2234 := Nat.le_trans zs2232 (Keep.of_wr W2233).1
 have od2234 := od2232.wr W2233 g_b2227
 have kp2234 := kp2232.wr W2233 (Or.inr sz_b2227)
 refine own_dp X2233 q d1_106 rfl (own_k X2233 q d1_107 (own_il X2233 q d1_108 rfl ?_))
 refine own_cst X2233 q hZ e2233 V2233 d1_110 (by decide) (Nat.le_of_ble_eq_true rfl) N2233 g_b2227 fun T2235 h2235 X2235 e2235 W2235 V2235 N2235 => ?_
 have zs2236 := Nat.le_trans zs2234 (Keep.of_wr W2235).1
 have od2236 := od2234.wr W2235 g_b2227
 have kp2236 := kp2234.wr W2235 (Or.inr sz_b2227)
 refine own_cIh (a := b2224) X2235 q hZ e2235 hown hml (W 10 rfl) (W 11 rfl) (W 8 rfl) (W 12 rfl) (rm2_4 l Z a0 hw b2224 b2227 k2227 (nar .char p2) (nar .char p3) (nar .char p4) (nar .char p5) cs0 h2235 n0 zs2236 (((((A2224.ext E2227).wr W2229).wr W2231).wr W2233).wr W2235) (((((F2224_value.ext E2227).other W2229 (Or.inl (own_ne (A2224).lt (Nat.le_of_eq g2227.symm)))).other W2231 (Or.inl (own_ne (A2224).lt (Nat.le_of_eq g2227.symm)))).other W2233 (Or.inl (own_ne (A2224).lt (Nat.le_of_eq g2227.symm)))).other W2235 (Or.inl (own_ne (A2224).lt (Nat.le_of_eq g2227.symm)))) (((((F2224_coder.ext E2227).other W2229 (Or.inl (own_ne (A2224).lt (Nat.le_of_eq g2227.symm)))).other W2231 (Or.inl (own_ne (A2224).lt (Nat.le_of_eq g2227.symm)))).other W2233 (Or.inl (own_ne (A2224).lt (Nat.le_of_eq g2227.symm)))).other W2235 (Or.inl (own_ne (A2224).lt (Nat.le_of_eq g2227.symm)))) V2235 g_b2224 (own_ne (A2224).lt (Nat.le_of_eq g2227.symm)) od2236 ⟨SCS, hcs⟩ ⟨SAD, SHI, SLO⟩ (own_nc16 _) (own_nc16 _) (own_nc16 _) (own_nc16 _)) d1_111 [(.ref b2227)] [(.ref b2224)] own_pd32 1 rfl (by decide) (fun v2237 T2237 L2237 h2237 e2237' X2237 hQ2237 => ?_)
 obtain ⟨t2237, k2237, rfl, N2237q, K2237, lo2237, Fv2237, D2237⟩ := hQ2237
 have N2237 := Fr.app N2235 N2237q
 have kp2238 := kp2236.trans K2237 (allS (Or.inr sz_b2224) all0)
 refine own_nn ?_
 refine own_rA X2237 q hrt d1_114 hlk (by decide) ?_
 show QMK4 Z p2 p3 p4 p5 h0 n0 _ T2237.heap _
 rw [e2237']
 exact ⟨_, _, _, rfl, N2237, own_extK kp2238, sz_b2224, ((((((A2224.ext E2227).wr W2229).wr W2231).wr W2233).wr W2235).keep K2237), Fv2237, (D2237.imp (fun r => ⟨r.1, r.2.2⟩) (fun r => ⟨r.1, r.2.2⟩))⟩
theorem d0_0 : own_D code 0 (.iload 4) 2 2 := by decide +kernel
theorem d0_2 : own_D code 2 (.ldc 12) 2 4 := by decide +kernel
theorem d0_4 : own_D code 4 .iand 1 5 := by decide +kernel
theorem d0_5 : own_DK code 5 5 6 := by decide +kernel
theorem d0_6 : own_D code 6 .irem 1 7 := by decide +kernel
theorem d0_7 : own_D code 7 (.istore 5) 2 9 := by decide +kernel
theorem d0_9 : own_D code 9 (.iload 5) 2 11 := by decide +kernel
theorem d0_11 : own_D code 11 (.iload_n 0) 1 12 := by decide +kernel
theorem d0_12 : own_D code 12 (.ldc 13) 2 14 := by decide +kernel
theorem d0_14 : own_D code 14 .iand 1 15 := by decide +kernel
theorem d0_15 : own_D code 15 .i2c 1 16 := by decide +kernel
theorem d0_16 : own_D code 16 (.iload_n 1) 1 17 := by decide +kernel
theorem d0_17 : own_D code 17 (.ldc 13) 2 19 := by decide +kernel
theorem d0_19 : own_D code 19 .iand 1 20 := by decide +kernel
theorem d0_20 : own_D code 20 .i2c 1 21 := by decide +kernel
theorem d0_21 : own_D code 21 (.iload_n 2) 1 22 := by decide +kernel
theorem d0_22 : own_D code 22 (.ldc 13) 2 24 := by decide +kernel
theorem d0_24 : own_D code 24 .iand 1 25 := by decide +kernel
theorem d0_25 : own_D code 25 .i2c 1 26 := by decide +kernel
theorem d0_26 : own_D code 26 (.iload_n 3) 1 27 := by decide +kernel
theorem d0_27 : own_D code 27 (.ldc 13) 2 29 := by decide +kernel
theorem d0_29 : own_D code 29 .iand 1 30 := by decide +kernel
theorem d0_30 : own_D code 30 .i2c 1 31 := by decide +kernel
theorem d0_31 : own_D code 31 (.invokestatic 14) 3 34 := by decide +kernel
theorem d0_34 : own_D code 34 (.astore 6) 2 36 := by decide +kernel
theorem d0_36 : own_D code 36 (.aload 6) 2 38 := by decide +kernel
theorem d0_38 : own_D code 38 (.invokestatic 20) 3 41 := by decide +kernel
theorem d0_41 : own_D code 41 (.astore 7) 2 43 := by decide +kernel
theorem d0_43 : own_D code 43 (.aload 7) 2 45 := by decide +kernel
theorem d0_45 : own_D code 45 (.invokevirtual 26) 3 48 := by decide +kernel
theorem d0_48 : own_D code 48 (.aload 6) 2 50 := by decide +kernel
theorem d0_50 : own_D code 50 (.invokevirtual 30) 3 53 := by decide +kernel
theorem d0_53 : own_DZ code 53 .eq 86 56 := by decide +kernel
theorem d0_56 : own_D code 56 (.aload 7) 2 58 := by decide +kernel
theorem d0_58 : own_D code 58 (.invokevirtual 34) 3 61 := by decide +kernel
theorem d0_61 : own_D code 61 (.aload 6) 2 63 := by decide +kernel
theorem d0_63 : own_D code 63 (.invokevirtual 30) 3 66 := by decide +kernel
theorem d0_66 : own_DZ code 66 .eq 86 69 := by decide +kernel
theorem d0_69 : own_D code 69 (.aload 7) 2 71 := by decide +kernel
theorem d0_71 : own_D code 71 (.invokevirtual 37) 3 74 := by decide +kernel
theorem d0_74 : own_D code 74 (.aload 6) 2 76 := by decide +kernel
theorem d0_76 : own_D code 76 (.invokevirtual 30) 3 79 := by decide +kernel
theorem d0_79 : own_DZ code 79 .eq 86 82 := by decide +kernel
theorem d0_82 : own_DK code 82 1 83 := by decide +kernel
theorem d0_83 : own_DG code 83 87 := by decide +kernel
theorem d0_87 : own_D code 87 .ireturn 1 88 := by decide +kernel
theorem pn_0 : plainFor (⟨"com/example/wolf_spider/wolfspider/UrlOfPathPinLaw", "law", "(IIIII)Z"⟩ : MethodName) = true := plainFor_of_name (by first | (simp [plainName, overriddenIn]; done) | decide +kernel)
theorem rm0 (l : Launch) (Z : State) (a0 : Array Value) (hw : ∀ d ∈ tables_1, d.before a0 Z = true) (ws : List Jvm.Cond) (p1 : Int32) (p2 : Int32) (p3 : Int32) (p4 : Int32) (p5 : Int32) (cs0 : Int32) (fo : Value) (h0 : Heap) (n0 : Nat) (Z0 : n0 ≤ h0.size) (O0 : Old Z n0 h0) (SC_ : own_SC Z cs0) (SIO : Sta Z Z.heap "jdk/internal/util/Preconditions" "SIOOBE_FORMATTER" "Ljava/util/function/BiFunction;" fo) (hfo : fo.isRef = true) (SU_ : own_SU Z) (hEL : EW Z a0 ([("java/lang/String", 7)] : List (String × Nat))) :
  MetFree l x (head1 (Jvm.Cond.code x code maxLocals ret :: ws) room_1) (fun a U => a = #[(.int p1), (.int p2), (.int p3), (.int p4), (.int p5)] ∧ Z.Warmed39 U.vm ∧ U.heap = h0 ∧ CHv Z ([("java/lang/String", 7)] : List (String × Nat)) U.vm h0) (fun _ _ _ _ _ => True) (fun _ U o U' => ∃ v L, o = .returned v ∧ Q0 n0 v U'.heap L ∧ ReturnedEndW U o U' L room_1.cells room_1.slots) := by
 obtain ⟨SCS, hcs⟩ := SC_; obtain ⟨SAD, SHI, SLO⟩ := SU_
 refine MetFree.of_bodySF pn_0 hisR ?_
 intro p e s m args below meth c s₁ Bd hml0 hP hK
 obtain ⟨rfl, hZ, hh, hCH⟩ := hP
 have hx := Bd.exec
 have hby := Bd.bytes
 have q : own_q p c code := ⟨hx, hby⟩
 have W := @own_w _ _ hw
 have hml : c.maxLocals = 8 := hml0
 have hown : s.vm.findClass "com/example/wolf_spider/wolfspider/UrlOfPathPinLaw" = some m.cls := findClass_of_methodNamed Bd.named
 have hnm := (name_of_methodNamed Bd.named Bd.method).1
 have hlk : meth.locks = false := BodyLoose.notSynchronized Bd
 have X0 : Stand p l e room_1 s m #[(.int p1), (.int p2), (.int p3), (.int p4), (.int p5)] below meth c s₁ [] 0 0 := Stand.of_body Bd
 have e0 : s₁.heap = h0 := by rw [← hh, Bd.state]; rfl
 have N0 := Fr.nil n0
 show own_Fin p e below (own_PW (Q0 n0) s room_1.cells room_1.slots) (s₁.setTop (entryFrame m #[(.int p1), (.int p2), (.int p3), (.int p4), (.int p5)] maxLocals))
 rw [show entryFrame m #[(.int p1), (.int p2), (.int p3), (.int p4), (.int p5)] maxLocals = mkF m 0 #[.val (.int p1), .val (.int p2), .val (.int p3), .val (.int p4), .val (.int p5), .unset, .unset, .unset] [] from by first | (simp [entryFrame, mkF, argsToLocals, Value.category, maxLocals]; done) | rfl]
 have X0 : Stand p l e room_1 (s.setVm s.vm) m #[(.int p1), (.int p2), (.int p3), (.int p4), (.int p5)] below meth c s₁ [] 0 0 := X0
 have hZ : Z.Warmed39 (s.setVm s.vm).vm := hZ
 have hown : (s.setVm s.vm).vm.findClass "com/example/wolf_spider/wolfspider/UrlOfPathPinLaw" = some m.cls := hown
 have hS0 : s.Since s.vm 0 := (State.WarmedH.refl s).since 0
 have hk0 : 0 ≤ h0.size := Nat.zero_le _
 have hCH : CHv Z ([("java/lang/String", 7)] : List (String × Nat)) s.vm h0 := hCH
 have hstr : ∀ a ∈ Bundle.stringAtoms, a.before a0 Z = true := fun d hd => hw d ((by decide +kernel : ∀ d ∈ Bundle.stringAtoms, d ∈ tables_1) d hd)
 refine own_il X0 q d0_0 rfl (own_stq 4 [(.int (2147483647 : Int32)), (.int p5)] (fun _ k => X0.ldcInt hx hown (mvT hZ (W 0 rfl)) (g := mkF m 2 _ _) rfl (q.d d0_2) _ k) (own_stp 5 (fun _ k => XS.iand X0.here hx rfl (q.d d0_4) rfl k) (own_k X0 q d0_5 (own_stp 7 (fun _ k => iremM X0 hx rfl (q.d d0_6) rfl (by decide) k) ?_))))
 rcases own_len5 p5 with hl | hl | hl | hl | hl
 ·rw [hl]
  show own_Fin _ _ _ _ (s₁.setTop (mkF m 7 #[.val (.int p1), .val (.int p2), .val (.int p3), .val (.int p4), .val (.int p5), .unset, .unset, .unset] [v'0]))
  refine own_is X0 q d0_7 (l' := #[.val (.int p1), .val (.int p2), .val (.int p3), .val (.int p4), .val (.int p5), .val v'0, .unset, .unset]) rfl (own_il X0 q d0_9 rfl (own_iln X0 q d0_11 rfl (own_stq 14 [v'65535, (.int p1), v'0] (fun _ k => X0.ldcInt hx hown (mvT hZ (W 1 rfl)) (g := mkF m 12 _ _) rfl (q.d d0_12) _ k) (own_stp 15 (fun _ k => XS.iand X0.here hx rfl (q.d d0_14) rfl k) (own_stp 16 (fun _ k => XS.i2c X0.here hx rfl (q.d d0_15) rfl k) (own_iln X0 q d0_16 rfl (own_stq 19 [v'65535, (.int p2), (.int ((p1 &&& (65535 : Int32)).toUInt32.toUInt16.toUInt32.toInt32)), v'0] (fun _ k => X0.ldcInt hx hown (mvT hZ (W 1 rfl)) (g := mkF m 17 _ _) rfl (q.d d0_17) _ k) (own_stp 20 (fun _ k => XS.iand X0.here hx rfl (q.d d0_19) rfl k) (own_stp 21 (fun _ k => XS.i2c X0.here hx rfl (q.d d0_20) rfl k) (own_iln X0 q d0_21 rfl (own_stq 24 [v'65535, (.int p3), (.int ((p2 &&& (65535 : Int32)).toUInt32.toUInt16.toUInt32.toInt32)), (.int ((p1 &&& (65535 : Int32)).toUInt32.toUInt16.toUInt32.toInt32)), v'0] (fun _ k => X0.ldcInt hx hown (mvT hZ (W 1 rfl)) (g := mkF m 22 _ _) rfl (q.d d0_22) _ k) ?_)))))))))))
  refine own_stp 25 (fun _ k => XS.iand X0.here hx rfl (q.d d0_24) rfl k) (own_stp 26 (fun _ k => XS.i2c X0.here hx rfl (q.d d0_25) rfl k) (own_iln X0 q d0_26 rfl (own_stq 29 [v'65535, (.int p4), (.int ((p3 &&& (65535 : Int32)).toUInt32.toUInt16.toUInt32.toInt32)), (.int ((p2 &&& (65535 : Int32)).toUInt32.toUInt16.toUInt32.toInt32)), (.int ((p1 &&& (65535 : Int32)).toUInt32.toUInt16.toUInt32.toInt32)), v'0] (fun _ k => X0.ldcInt hx hown (mvT hZ (W 1 rfl)) (g := mkF m 27 _ _) rfl (q.d d0_27) _ k) (own_stp 30 (fun _ k => XS.iand X0.here hx rfl (q.d d0_29) rfl k) (own_stp 31 (fun _ k => XS.i2c X0.here hx rfl (q.d d0_30) rfl k) ?_)))))
  refine own_let ?_; intro g2332_
  obtain ⟨_, _, ⟨T2331, L2331, k2331, n2331⟩, -, X2331, hS2331, hG2331, ⟨Lc2331, hQ2331, l2331, y2331, z2331⟩, st2331⟩ := Jvm.RoadKit.callSS X0 hx (y := own_y45) hown (mvT hZ (W 2 rfl)) (mvT hZ (W 3 rfl)) (mvT hZ (W 4 rfl)) (mvT hZ (W 5 rfl)) (by decide) (own_backH (W := 0) (rm1_0 l Z a0 hw [] ((p1 &&& (65535 : Int32)).toUInt32.toUInt16.toUInt32.toInt32) ((p2 &&& (65535 : Int32)).toUInt32.toUInt16.toUInt32.toInt32) ((p3 &&& (65535 : Int32)).toUInt32.toUInt16.toUInt32.toInt32) ((p4 &&& (65535 : Int32)).toUInt32.toUInt16.toUInt32.toInt32) cs0 h0 n0 Z0 O0 ⟨SCS, hcs⟩ ⟨SAD, SHI, SLO⟩ hEL) hZ (W 5 rfl) (W 4 rfl) (by decide) (by decide) hEL hCH) (g := g2332_) rfl (by rw [hml]; rfl) (argsL := [v'0, (.int ((p1 &&& (65535 : Int32)).toUInt32.toUInt16.toUInt32.toInt32)), (.int ((p2 &&& (65535 : Int32)).toUInt32.toUInt16.toUInt32.toInt32)), (.int ((p3 &&& (65535 : Int32)).toUInt32.toUInt16.toUInt32.toInt32)), (.int ((p4 &&& (65535 : Int32)).toUInt32.toUInt16.toUInt32.toInt32))]) (rest := []) (lenOf own_pd33 rfl) rfl (by show 2 * 0 + _ ≤ _; exact Nat.le_of_eq rfl) (q.d d0_31) (fun _ _ => ⟨rfl, e0, (by decide : 0 + 4 ≤ _), (by decide : 0 + 8 ≤ _)⟩)
  dsimp only [Pt.U, Pt.locs, Pt.cells, Pt.slots] at X2331 l2331 y2331 z2331 st2331 hQ2331
  rw [l2331, y2331, z2331] at X2331
  clear l2331 y2331 z2331
  have X2331 : Stand p l e _ (s.setVm T2331.vm) m _ below meth c T2331 _ _ _ := X2331
  have hZ2331 : Z.Warmed39 (s.setVm T2331.vm).vm := State.Warmed39.trans hZ hS2331.1
  have hown : (s.setVm T2331.vm).vm.findClass "com/example/wolf_spider/wolfspider/UrlOfPathPinLaw" = some m.cls := by show T2331.vm.findClass _ = _; rw [hS2331.1.alike.findClass]; exact hown
  have hZ := hZ2331
  have hS2331 := State.Since.trans hS0 hS2331 (Nat.le_trans hk0 (by rw [← e0]; exact hG2331))
  obtain ⟨x2331, t2331, k2331, rfl, N2331q, E2331, lo2331, Ex2331, Fv2331, D2331⟩ := hQ2331
  have N2331 := Fr.app N0 N2331q
  obtain ⟨h2331, e2331⟩ : ∃ z, z = T2331.heap := ⟨_, rfl⟩
  have e2331' := e2331.symm
  rw [← e2331] at E2331 Ex2331 Fv2331 D2331
  rw [e2331'] at hS2331
  have hkc2331 : h2331.size ≤ h2331.size := Nat.le_refl _
  have zs2333 := Nat.le_trans Z0 E2331.1
  have hk2333 := Nat.le_trans hk0 E2331.1
  have od2333 := O0.ext E2331
  refine own_stp 34 (fun _ k => st2331.trans k) (own_nv (own_as X2331 q d0_34 rfl (l' := #[.val (.int p1), .val (.int p2), .val (.int p3), .val (.int p4), .val (.int p5), .val v'0, .val (.ref x2331), .unset]) rfl (own_al X2331 q d0_36 rfl rfl ?_)))
  refine own_cSh X2331 q hZ e2331' hown hml (W 28 rfl) (W 29 rfl) (W 30 rfl) (W 31 rfl) (rm5 l Z a0 hw x2331 h2331 n0 zs2333) d0_38 [(.ref x2331)] [] own_pd34 0 (by decide) (fun v2334 T2334 L2334 h2334 e2334' X2334 hQ2334 => ?_)
  obtain ⟨u2334, rfl, N2334q, E2334, lo2334, Eu2334, U2334_0, U2334_1, U2334_2, U2334_3⟩ := hQ2334
  have N2334 := Fr.app N2331 N2334q
  have zs2335 := Nat.le_trans zs2333 E2334.1
  have hk2335 := Nat.le_trans hkc2331 E2334.1
  have od2335 := od2333.ext E2334
  refine own_nv (own_as X2334 q d0_41 rfl (l' := #[.val (.int p1), .val (.int p2), .val (.int p3), .val (.int p4), .val (.int p5), .val v'0, .val (.ref x2331), .val (.ref u2334)]) rfl (own_al X2334 q d0_43 rfl rfl ?_))
  refine own_cV X2334 q hZ e2334' hown hml (W 46 rfl) (W 47 rfl) (W 49 rfl) (W 48 rfl) (W 30 rfl) (W 50 rfl) rfl Eu2334 (rm7 l Z a0 hw u2334 x2331 h2334 n0 zs2335 U2334_2 U2334_3) d0_45 [] [] own_pd30 0 (by decide) (fun v2336 T2336 L2336 X2336 hQ2336 => ?_)
  obtain ⟨rfl, N2336q, e2336⟩ := hQ2336
  have N2336 := Fr.app N2334 N2336q
  refine own_nv (own_al X2336 q d0_48 rfl rfl ?_)
  refine own_cV X2336 q hZ e2336 hown hml (W 51 rfl) (W 52 rfl) (W 54 rfl) (W 53 rfl) (W 8 rfl) (W 55 rfl) rfl (Ex2331.ext E2334) (rm8_same l Z a0 hw x2331 x2331 h2334 n0 zs2335 rfl) d0_50 [(.ref x2331)] [] own_pd35 0 (by decide) (fun v2337 T2337 L2337 X2337 hQ2337 => ?_)
  obtain ⟨rfl, N2337q, e2337⟩ := hQ2337
  have N2337 := Fr.app N2336 N2337q
  refine own_nv (own_zn X2337 q d0_53 (((if0 _ _).trans (feq ((by decide) : ¬ ((1 : Int32) = (0 : Int32)))).1)) (own_al X2337 q d0_56 rfl rfl ?_))
  refine own_cVh X2337 q hZ e2337 hown hml (W 56 rfl) (W 57 rfl) (W 59 rfl) (W 58 rfl) (W 30 rfl) (W 60 rfl) rfl Eu2334 (rm9_L0 l Z a0 hw u2334 x2331 t2331 k2331  cs0 fo h2334 n0 zs2335 od2335 ⟨SCS, hcs⟩ SIO hfo Eu2334 U2334_0 U2334_1 U2334_2 U2334_3 (Ex2331.ext E2334) (D2331.1.ext E2334) (Fv2331.ext E2334) (D2331.2.ext E2334)) d0_58 [] [] own_pd30 0 (by decide) (fun v2338 T2338 L2338 h2338 e2338' X2338 hQ2338 => ?_)
  obtain ⟨x2338, t2338, k2338, rfl, N2338q, E2338, lo2338, lt2338, Ex2338, Fc2338, Fv2338, V2338⟩ := hQ2338
  have N2338 := Fr.app N2337 N2338q
  have zs2339 := Nat.le_trans zs2335 E2338.1
  have hk2339 := Nat.le_trans hk2335 E2338.1
  have od2339 := od2335.ext E2338
  refine own_nv (own_al X2338 q d0_61 rfl rfl ?_)
  refine own_cV X2338 q hZ e2338' hown hml (W 51 rfl) (W 52 rfl) (W 54 rfl) (W 53 rfl) (W 8 rfl) (W 55 rfl) rfl Ex2338 (rm8_L0 l Z a0 hw x2338 x2331 t2338 t2331 k2338 k2331  cs0 h2338 n0 zs2339 od2339 ⟨SCS, hcs⟩ Ex2338 Fc2338 Fv2338 V2338 ((Ex2331.ext E2334).ext E2338) ((D2331.1.ext E2334).ext E2338) ((Fv2331.ext E2334).ext E2338) ((D2331.2.ext E2334).ext E2338) (Ne.symm (own_ne ((Ex2331.ext E2334)).lt lo2338))) d0_63 [(.ref x2331)] [] own_pd35 0 (by decide) (fun v2340 T2340 L2340 X2340 hQ2340 => ?_)
  obtain ⟨rfl, N2340q, e2340⟩ := hQ2340
  have N2340 := Fr.app N2338 N2340q
  refine own_nv (own_zn X2340 q d0_66 (((if0 _ _).trans (feq ((by decide) : ¬ ((1 : Int32) = (0 : Int32)))).1)) (own_al X2340 q d0_69 rfl rfl ?_))
  refine own_cV X2340 q hZ e2340 hown hml (W 177 rfl) (W 178 rfl) (W 180 rfl) (W 179 rfl) (W 30 rfl) (W 181 rfl) rfl (Eu2334.ext E2338) (rm32 l Z a0 hw u2334 x2331 h2338 n0 zs2339 (U2334_2.ext E2338) (U2334_3.ext E2338)) d0_71 [] [] own_pd30 0 (by decide) (fun v2341 T2341 L2341 X2341 hQ2341 => ?_)
  obtain ⟨rfl, N2341q, e2341⟩ := hQ2341
  have N2341 := Fr.app N2340 N2341q
  refine own_nv (own_al X2341 q d0_74 rfl rfl ?_)
  refine own_cV X2341 q hZ e2341 hown hml (W 51 rfl) (W 52 rfl) (W 54 rfl) (W 53 rfl) (W 8 rfl) (W 55 rfl) rfl ((Ex2331.ext E2334).ext E2338) (rm8_same l Z a0 hw x2331 x2331 h2338 n0 zs2339 rfl) d0_76 [(.ref x2331)] [] own_pd35 0 (by decide) (fun v2342 T2342 L2342 X2342 hQ2342 => ?_)
  obtain ⟨rfl, N2342q, e2342⟩ := hQ2342
  have N2342 := Fr.app N2341 N2342q
  refine own_nv (own_zn X2342 q d0_79 (((if0 _ _).trans (feq ((by decide) : ¬ ((1 : Int32) = (0 : Int32)))).1)) (own_k X2342 q d0_82 (own_gt X2342 q d0_83 ?_)))
  refine own_retNW X2342 hS2331 (by rw [e2342]; exact hk2339) hx (t := .boolean) Bd.returns (by simp) (q.d d0_87) hlk ?_ (by decide) (by decide)
  exact ⟨rfl, N2342⟩
 ·rw [hl]
  show own_Fin _ _ _ _ (s₁.setTop (mkF m 7 #[.val (.int p1), .val (.int p2), .val (.int p3), .val (.int p4), .val (.int p5), .unset, .unset, .unset] [v'1]))
  refine own_is X0 q d0_7 (l' := #[.val (.int p1), .val (.int p2), .val (.int p3), .val (.int p4), .val (.int p5), .val v'1, .unset, .unset]) rfl (own_il X0 q d0_9 rfl (own_iln X0 q d0_11 rfl (own_stq 14 [v'65535, (.int p1), v'1] (fun _ k => X0.ldcInt hx hown (mvT hZ (W 1 rfl)) (g := mkF m 12 _ _) rfl (q.d d0_12) _ k) (own_stp 15 (fun _ k => XS.iand X0.here hx rfl (q.d d0_14) rfl k) (own_stp 16 (fun _ k => XS.i2c X0.here hx rfl (q.d d0_15) rfl k) (own_iln X0 q d0_16 rfl (own_stq 19 [v'65535, (.int p2), (.int ((p1 &&& (65535 : Int32)).toUInt32.toUInt16.toUInt32.toInt32)), v'1] (fun _ k => X0.ldcInt hx hown (mvT hZ (W 1 rfl)) (g := mkF m 17 _ _) rfl (q.d d0_17) _ k) (own_stp 20 (fun _ k => XS.iand X0.here hx rfl (q.d d0_19) rfl k) (own_stp 21 (fun _ k => XS.i2c X0.here hx rfl (q.d d0_20) rfl k) (own_iln X0 q d0_21 rfl (own_stq 24 [v'65535, (.int p3), (.int ((p2 &&& (65535 : Int32)).toUInt32.toUInt16.toUInt32.toInt32)), (.int ((p1 &&& (65535 : Int32)).toUInt32.toUInt16.toUInt32.toInt32)), v'1] (fun _ k => X0.ldcInt hx hown (mvT hZ (W 1 rfl)) (g := mkF m 22 _ _) rfl (q.d d0_22) _ k) ?_)))))))))))
  refine own_stp 25 (fun _ k => XS.iand X0.here hx rfl (q.d d0_24) rfl k) (own_stp 26 (fun _ k => XS.i2c X0.here hx rfl (q.d d0_25) rfl k) (own_iln X0 q d0_26 rfl (own_stq 29 [v'65535, (.int p4), (.int ((p3 &&& (65535 : Int32)).toUInt32.toUInt16.toUInt32.toInt32)), (.int ((p2 &&& (65535 : Int32)).toUInt32.toUInt16.toUInt32.toInt32)), (.int ((p1 &&& (65535 : Int32)).toUInt32.toUInt16.toUInt32.toInt32)), v'1] (fun _ k => X0.ldcInt hx hown (mvT hZ (W 1 rfl)) (g := mkF m 27 _ _) rfl (q.d d0_27) _ k) (own_stp 30 (fun _ k => XS.iand X0.here hx rfl (q.d d0_29) rfl k) (own_stp 31 (fun _ k => XS.i2c X0.here hx rfl (q.d d0_30) rfl k) ?_)))))
  refine own_cSh X0 q hZ e0 hown hml (W 2 rfl) (W 3 rfl) (W 4 rfl) (W 5 rfl) (rm1_1 l Z a0 hw ((p1 &&& (65535 : Int32)).toUInt32.toUInt16.toUInt32.toInt32) ((p2 &&& (65535 : Int32)).toUInt32.toUInt16.toUInt32.toInt32) ((p3 &&& (65535 : Int32)).toUInt32.toUInt16.toUInt32.toInt32) ((p4 &&& (65535 : Int32)).toUInt32.toUInt16.toUInt32.toInt32) cs0 h0 n0 Z0 O0 ⟨SCS, hcs⟩ ⟨SAD, SHI, SLO⟩ ) d0_31 [v'1, (.int ((p1 &&& (65535 : Int32)).toUInt32.toUInt16.toUInt32.toInt32)), (.int ((p2 &&& (65535 : Int32)).toUInt32.toUInt16.toUInt32.toInt32)), (.int ((p3 &&& (65535 : Int32)).toUInt32.toUInt16.toUInt32.toInt32)), (.int ((p4 &&& (65535 : Int32)).toUInt32.toUInt16.toUInt32.toInt32))] [] own_pd33 0 (by decide) (fun v2343 T2343 L2343 h2343 e2343' X2343 hQ2343 => ?_)
  obtain ⟨x2343, t2343, k2343, rfl, N2343q, E2343, lo2343, Ex2343, Fv2343, D2343⟩ := hQ2343
  have N2343 := Fr.app N0 N2343q
  have zs2344 := Nat.le_trans Z0 E2343.1
  have hk2344 := Nat.le_trans hk0 E2343.1
  have od2344 := O0.ext E2343
  refine own_nv ?_
  rcases D2343 with ⟨Fc, hV⟩ | ⟨Fc, hV⟩
  ·have Fc_ := Fc
   show own_Fin _ _ _ _ (T2343.setTop (mkF m 34 #[.val (.int p1), .val (.int p2), .val (.int p3), .val (.int p4), .val (.int p5), .val v'1, .unset, .unset] [(.ref x2343)]))
   refine own_as X2343 q d0_34 rfl (l' := #[.val (.int p1), .val (.int p2), .val (.int p3), .val (.int p4), .val (.int p5), .val v'1, .val (.ref x2343), .unset]) rfl (own_al X2343 q d0_36 rfl rfl ?_)
   refine own_cSh X2343 q hZ e2343' hown hml (W 28 rfl) (W 29 rfl) (W 30 rfl) (W 31 rfl) (rm5 l Z a0 hw x2343 h2343 n0 zs2344) d0_38 [(.ref x2343)] [] own_pd34 0 (by decide) (fun v2345 T2345 L2345 h2345 e2345' X2345 hQ2345 => ?_)
   obtain ⟨u2345, rfl, N2345q, E2345, lo2345, Eu2345, U2345_0, U2345_1, U2345_2, U2345_3⟩ := hQ2345
   have N2345 := Fr.app N2343 N2345q
   have zs2346 := Nat.le_trans zs2344 E2345.1
   have hk2346 := Nat.le_trans hk2344 E2345.1
   have od2346 := od2344.ext E2345
   refine own_nv (own_as X2345 q d0_41 rfl (l' := #[.val (.int p1), .val (.int p2), .val (.int p3), .val (.int p4), .val (.int p5), .val v'1, .val (.ref x2343), .val (.ref u2345)]) rfl (own_al X2345 q d0_43 rfl rfl ?_))
   refine own_cV X2345 q hZ e2345' hown hml (W 46 rfl) (W 47 rfl) (W 49 rfl) (W 48 rfl) (W 30 rfl) (W 50 rfl) rfl Eu2345 (rm7 l Z a0 hw u2345 x2343 h2345 n0 zs2346 U2345_2 U2345_3) d0_45 [] [] own_pd30 0 (by decide) (fun v2347 T2347 L2347 X2347 hQ2347 => ?_)
   obtain ⟨rfl, N2347q, e2347⟩ := hQ2347
   have N2347 := Fr.app N2345 N2347q
   refine own_nv (own_al X2347 q d0_48 rfl rfl ?_)
   refine own_cV X2347 q hZ e2347 hown hml (W 51 rfl) (W 52 rfl) (W 54 rfl) (W 53 rfl) (W 8 rfl) (W 55 rfl) rfl (Ex2343.ext E2345) (rm8_same l Z a0 hw x2343 x2343 h2345 n0 zs2346 rfl) d0_50 [(.ref x2343)] [] own_pd35 0 (by decide) (fun v2348 T2348 L2348 X2348 hQ2348 => ?_)
   obtain ⟨rfl, N2348q, e2348⟩ := hQ2348
   have N2348 := Fr.app N2347 N2348q
   refine own_nv (own_zn X2348 q d0_53 (((if0 _ _).trans (feq ((by decide) : ¬ ((1 : Int32) = (0 : Int32)))).1)) (own_al X2348 q d0_56 rfl rfl ?_))
   refine own_cVh X2348 q hZ e2348 hown hml (W 56 rfl) (W 57 rfl) (W 59 rfl) (W 58 rfl) (W 30 rfl) (W 60 rfl) rfl Eu2345 (rm9_L1 l Z a0 hw u2345 x2343 t2343 k2343 (nar .byte ((nar .char ((p1 &&& (65535 : Int32)).toUInt32.toUInt16.toUInt32.toInt32)).toInt8.toInt32)) cs0 fo h2345 n0 zs2346 od2346 ⟨SCS, hcs⟩ SIO hfo Eu2345 U2345_0 U2345_1 U2345_2 U2345_3 (Ex2343.ext E2345) (Fc.ext E2345) (Fv2343.ext E2345) (hV.ext E2345)) d0_58 [] [] own_pd30 0 (by decide) (fun v2349 T2349 L2349 h2349 e2349' X2349 hQ2349 => ?_)
   obtain ⟨x2349, t2349, k2349, rfl, N2349q, E2349, lo2349, lt2349, Ex2349, Fc2349, Fv2349, V2349⟩ := hQ2349
   have N2349 := Fr.app N2348 N2349q
   have zs2350 := Nat.le_trans zs2346 E2349.1
   have hk2350 := Nat.le_trans hk2346 E2349.1
   have od2350 := od2346.ext E2349
   refine own_nv (own_al X2349 q d0_61 rfl rfl ?_)
   refine own_cV X2349 q hZ e2349' hown hml (W 51 rfl) (W 52 rfl) (W 54 rfl) (W 53 rfl) (W 8 rfl) (W 55 rfl) rfl Ex2349 (rm8_L1 l Z a0 hw x2349 x2343 t2349 t2343 k2349 k2343 (nar .byte ((nar .char ((p1 &&& (65535 : Int32)).toUInt32.toUInt16.toUInt32.toInt32)).toInt8.toInt32)) cs0 h2349 n0 zs2350 od2350 ⟨SCS, hcs⟩ Ex2349 Fc2349 Fv2349 V2349 ((Ex2343.ext E2345).ext E2349) ((Fc.ext E2345).ext E2349) ((Fv2343.ext E2345).ext E2349) ((hV.ext E2345).ext E2349) (Ne.symm (own_ne ((Ex2343.ext E2345)).lt lo2349))) d0_63 [(.ref x2343)] [] own_pd35 0 (by decide) (fun v2351 T2351 L2351 X2351 hQ2351 => ?_)
   obtain ⟨rfl, N2351q, e2351⟩ := hQ2351
   have N2351 := Fr.app N2349 N2351q
   refine own_nv (own_zn X2351 q d0_66 (((if0 _ _).trans (feq ((by decide) : ¬ ((1 : Int32) = (0 : Int32)))).1)) (own_al X2351 q d0_69 rfl rfl ?_))
   refine own_cV X2351 q hZ e2351 hown hml (W 177 rfl) (W 178 rfl) (W 180 rfl) (W 179 rfl) (W 30 rfl) (W 181 rfl) rfl (Eu2345.ext E2349) (rm32 l Z a0 hw u2345 x2343 h2349 n0 zs2350 (U2345_2.ext E2349) (U2345_3.ext E2349)) d0_71 [] [] own_pd30 0 (by decide) (fun v2352 T2352 L2352 X2352 hQ2352 => ?_)
   obtain ⟨rfl, N2352q, e2352⟩ := hQ2352
   have N2352 := Fr.app N2351 N2352q
   refine own_nv (own_al X2352 q d0_74 rfl rfl ?_)
   refine own_cV X2352 q hZ e2352 hown hml (W 51 rfl) (W 52 rfl) (W 54 rfl) (W 53 rfl) (W 8 rfl) (W 55 rfl) rfl ((Ex2343.ext E2345).ext E2349) (rm8_same l Z a0 hw x2343 x2343 h2349 n0 zs2350 rfl) d0_76 [(.ref x2343)] [] own_pd35 0 (by decide) (fun v2353 T2353 L2353 X2353 hQ2353 => ?_)
   obtain ⟨rfl, N2353q, e2353⟩ := hQ2353
   have N2353 := Fr.app N2352 N2353q
   refine own_nv (own_zn X2353 q d0_79 (((if0 _ _).trans (feq ((by decide) : ¬ ((1 : Int32) = (0 : Int32)))).1)) (own_k X2353 q d0_82 (own_gt X2353 q d0_83 ?_)))
   refine own_retNW X2353 hS0 (by rw [e2353]; exact hk2350) hx (t := .boolean) Bd.returns (by simp) (q.d d0_87) hlk ?_ (by decide) (by decide)
   exact ⟨rfl, N2353⟩
  ·have Fc_ := Fc
   show own_Fin _ _ _ _ (T2343.setTop (mkF m 34 #[.val (.int p1), .val (.int p2), .val (.int p3), .val (.int p4), .val (.int p5), .val v'1, .unset, .unset] [(.ref x2343)]))
   refine own_as X2343 q d0_34 rfl (l' := #[.val (.int p1), .val (.int p2), .val (.int p3), .val (.int p4), .val (.int p5), .val v'1, .val (.ref x2343), .unset]) rfl (own_al X2343 q d0_36 rfl rfl ?_)
   refine own_cSh X2343 q hZ e2343' hown hml (W 28 rfl) (W 29 rfl) (W 30 rfl) (W 31 rfl) (rm5 l Z a0 hw x2343 h2343 n0 zs2344) d0_38 [(.ref x2343)] [] own_pd34 0 (by decide) (fun v2354 T2354 L2354 h2354 e2354' X2354 hQ2354 => ?_)
   obtain ⟨u2354, rfl, N2354q, E2354, lo2354, Eu2354, U2354_0, U2354_1, U2354_2, U2354_3⟩ := hQ2354
   have N2354 := Fr.app N2343 N2354q
   have zs2355 := Nat.le_trans zs2344 E2354.1
   have hk2355 := Nat.le_trans hk2344 E2354.1
   have od2355 := od2344.ext E2354
   refine own_nv (own_as X2354 q d0_41 rfl (l' := #[.val (.int p1), .val (.int p2), .val (.int p3), .val (.int p4), .val (.int p5), .val v'1, .val (.ref x2343), .val (.ref u2354)]) rfl (own_al X2354 q d0_43 rfl rfl ?_))
   refine own_cV X2354 q hZ e2354' hown hml (W 46 rfl) (W 47 rfl) (W 49 rfl) (W 48 rfl) (W 30 rfl) (W 50 rfl) rfl Eu2354 (rm7 l Z a0 hw u2354 x2343 h2354 n0 zs2355 U2354_2 U2354_3) d0_45 [] [] own_pd30 0 (by decide) (fun v2356 T2356 L2356 X2356 hQ2356 => ?_)
   obtain ⟨rfl, N2356q, e2356⟩ := hQ2356
   have N2356 := Fr.app N2354 N2356q
   refine own_nv (own_al X2356 q d0_48 rfl rfl ?_)
   refine own_cV X2356 q hZ e2356 hown hml (W 51 rfl) (W 52 rfl) (W 54 rfl) (W 53 rfl) (W 8 rfl) (W 55 rfl) rfl (Ex2343.ext E2354) (rm8_same l Z a0 hw x2343 x2343 h2354 n0 zs2355 rfl) d0_50 [(.ref x2343)] [] own_pd35 0 (by decide) (fun v2357 T2357 L2357 X2357 hQ2357 => ?_)
   obtain ⟨rfl, N2357q, e2357⟩ := hQ2357
   have N2357 := Fr.app N2356 N2357q
   refine own_nv (own_zn X2357 q d0_53 (((if0 _ _).trans (feq ((by decide) : ¬ ((1 : Int32) = (0 : Int32)))).1)) (own_al X2357 q d0_56 rfl rfl ?_))
   refine own_cVh X2357 q hZ e2357 hown hml (W 56 rfl) (W 57 rfl) (W 59 rfl) (W 58 rfl) (W 30 rfl) (W 60 rfl) rfl Eu2354 (rm9_U1 l Z a0 hw u2354 x2343 t2343 k2343 (nar .byte (((nar .char ((p1 &&& (65535 : Int32)).toUInt32.toUInt16.toUInt32.toInt32)) >>> ((0 : Int32) &&& 31)).toInt8.toInt32)) (nar .byte (((nar .char ((p1 &&& (65535 : Int32)).toUInt32.toUInt16.toUInt32.toInt32)) >>> ((8 : Int32) &&& 31)).toInt8.toInt32)) cs0 fo h2354 n0 zs2355 od2355 ⟨SCS, hcs⟩ SIO hfo Eu2354 U2354_0 U2354_1 U2354_2 U2354_3 (Ex2343.ext E2354) (Fc.ext E2354) (Fv2343.ext E2354) (hV.ext E2354)) d0_58 [] [] own_pd30 0 (by decide) (fun v2358 T2358 L2358 h2358 e2358' X2358 hQ2358 => ?_)
   obtain ⟨x2358, t2358, k2358, rfl, N2358q, E2358, lo2358, lt2358, Ex2358, Fc2358, Fv2358, V2358⟩ := hQ2358
   have N2358 := Fr.app N2357 N2358q
   have zs2359 := Nat.le_trans zs2355 E2358.1
   have hk2359 := Nat.le_trans hk2355 E2358.1
   have od2359 := od2355.ext E2358
   refine own_nv (own_al X2358 q d0_61 rfl rfl ?_)
   refine own_cV X2358 q hZ e2358' hown hml (W 51 rfl) (W 52 rfl) (W 54 rfl) (W 53 rfl) (W 8 rfl) (W 55 rfl) rfl Ex2358 (rm8_U1 l Z a0 hw x2358 x2343 t2358 t2343 k2358 k2343 (nar .byte (((nar .char ((p1 &&& (65535 : Int32)).toUInt32.toUInt16.toUInt32.toInt32)) >>> ((0 : Int32) &&& 31)).toInt8.toInt32)) (nar .byte (((nar .char ((p1 &&& (65535 : Int32)).toUInt32.toUInt16.toUInt32.toInt32)) >>> ((8 : Int32) &&& 31)).toInt8.toInt32)) cs0 h2358 n0 zs2359 od2359 ⟨SCS, hcs⟩ Ex2358 Fc2358 Fv2358 V2358 ((Ex2343.ext E2354).ext E2358) ((Fc.ext E2354).ext E2358) ((Fv2343.ext E2354).ext E2358) ((hV.ext E2354).ext E2358) (Ne.symm (own_ne ((Ex2343.ext E2354)).lt lo2358))) d0_63 [(.ref x2343)] [] own_pd35 0 (by decide) (fun v2360 T2360 L2360 X2360 hQ2360 => ?_)
   obtain ⟨rfl, N2360q, e2360⟩ := hQ2360
   have N2360 := Fr.app N2358 N2360q
   refine own_nv (own_zn X2360 q d0_66 (((if0 _ _).trans (feq ((by decide) : ¬ ((1 : Int32) = (0 : Int32)))).1)) (own_al X2360 q d0_69 rfl rfl ?_))
   refine own_cV X2360 q hZ e2360 hown hml (W 177 rfl) (W 178 rfl) (W 180 rfl) (W 179 rfl) (W 30 rfl) (W 181 rfl) rfl (Eu2354.ext E2358) (rm32 l Z a0 hw u2354 x2343 h2358 n0 zs2359 (U2354_2.ext E2358) (U2354_3.ext E2358)) d0_71 [] [] own_pd30 0 (by decide) (fun v2361 T2361 L2361 X2361 hQ2361 => ?_)
   obtain ⟨rfl, N2361q, e2361⟩ := hQ2361
   have N2361 := Fr.app N2360 N2361q
   refine own_nv (own_al X2361 q d0_74 rfl rfl ?_)
   refine own_cV X2361 q hZ e2361 hown hml (W 51 rfl) (W 52 rfl) (W 54 rfl) (W 53 rfl) (W 8 rfl) (W 55 rfl) rfl ((Ex2343.ext E2354).ext E2358) (rm8_same l Z a0 hw x2343 x2343 h2358 n0 zs2359 rfl) d0_76 [(.ref x2343)] [] own_pd35 0 (by decide) (fun v2362 T2362 L2362 X2362 hQ2362 => ?_)
   obtain ⟨rfl, N2362q, e2362⟩ := hQ2362
   have N2362 := Fr.app N2361 N2362q
   refine own_nv (own_zn X2362 q d0_79 (((if0 _ _).trans (feq ((by decide) : ¬ ((1 : Int32) = (0 : Int32)))).1)) (own_k X2362 q d0_82 (own_gt X2362 q d0_83 ?_)))
   refine own_retNW X2362 hS0 (by rw [e2362]; exact hk2359) hx (t := .boolean) Bd.returns (by simp) (q.d d0_87) hlk ?_ (by decide) (by decide)
   exact ⟨rfl, N2362⟩
 ·rw [hl]
  show own_Fin _ _ _ _ (s₁.setTop (mkF m 7 #[.val (.int p1), .val (.int p2), .val (.int p3), .val (.int p4), .val (.int p5), .unset, .unset, .unset] [v'2]))
  refine own_is X0 q d0_7 (l' := #[.val (.int p1), .val (.int p2), .val (.int p3), .val (.int p4), .val (.int p5), .val v'2, .unset, .unset]) rfl (own_il X0 q d0_9 rfl (own_iln X0 q d0_11 rfl (own_stq 14 [v'65535, (.int p1), v'2] (fun _ k => X0.ldcInt hx hown (mvT hZ (W 1 rfl)) (g := mkF m 12 _ _) rfl (q.d d0_12) _ k) (own_stp 15 (fun _ k => XS.iand X0.here hx rfl (q.d d0_14) rfl k) (own_stp 16 (fun _ k => XS.i2c X0.here hx rfl (q.d d0_15) rfl k) (own_iln X0 q d0_16 rfl (own_stq 19 [v'65535, (.int p2), (.int ((p1 &&& (65535 : Int32)).toUInt32.toUInt16.toUInt32.toInt32)), v'2] (fun _ k => X0.ldcInt hx hown (mvT hZ (W 1 rfl)) (g := mkF m 17 _ _) rfl (q.d d0_17) _ k) (own_stp 20 (fun _ k => XS.iand X0.here hx rfl (q.d d0_19) rfl k) (own_stp 21 (fun _ k => XS.i2c X0.here hx rfl (q.d d0_20) rfl k) (own_iln X0 q d0_21 rfl (own_stq 24 [v'65535, (.int p3), (.int ((p2 &&& (65535 : Int32)).toUInt32.toUInt16.toUInt32.toInt32)), (.int ((p1 &&& (65535 : Int32)).toUInt32.toUInt16.toUInt32.toInt32)), v'2] (fun _ k => X0.ldcInt hx hown (mvT hZ (W 1 rfl)) (g := mkF m 22 _ _) rfl (q.d d0_22) _ k) ?_)))))))))))
  refine own_stp 25 (fun _ k => XS.iand X0.here hx rfl (q.d d0_24) rfl k) (own_stp 26 (fun _ k => XS.i2c X0.here hx rfl (q.d d0_25) rfl k) (own_iln X0 q d0_26 rfl (own_stq 29 [v'65535, (.int p4), (.int ((p3 &&& (65535 : Int32)).toUInt32.toUInt16.toUInt32.toInt32)), (.int ((p2 &&& (65535 : Int32)).toUInt32.toUInt16.toUInt32.toInt32)), (.int ((p1 &&& (65535 : Int32)).toUInt32.toUInt16.toUInt32.toInt32)), v'2] (fun _ k => X0.ldcInt hx hown (mvT hZ (W 1 rfl)) (g := mkF m 27 _ _) rfl (q.d d0_27) _ k) (own_stp 30 (fun _ k => XS.iand X0.here hx rfl (q.d d0_29) rfl k) (own_stp 31 (fun _ k => XS.i2c X0.here hx rfl (q.d d0_30) rfl k) ?_)))))
  refine own_cSh X0 q hZ e0 hown hml (W 2 rfl) (W 3 rfl) (W 4 rfl) (W 5 rfl) (rm1_2 l Z a0 hw ((p1 &&& (65535 : Int32)).toUInt32.toUInt16.toUInt32.toInt32) ((p2 &&& (65535 : Int32)).toUInt32.toUInt16.toUInt32.toInt32) ((p3 &&& (65535 : Int32)).toUInt32.toUInt16.toUInt32.toInt32) ((p4 &&& (65535 : Int32)).toUInt32.toUInt16.toUInt32.toInt32) cs0 h0 n0 Z0 O0 ⟨SCS, hcs⟩ ⟨SAD, SHI, SLO⟩ ) d0_31 [v'2, (.int ((p1 &&& (65535 : Int32)).toUInt32.toUInt16.toUInt32.toInt32)), (.int ((p2 &&& (65535 : Int32)).toUInt32.toUInt16.toUInt32.toInt32)), (.int ((p3 &&& (65535 : Int32)).toUInt32.toUInt16.toUInt32.toInt32)), (.int ((p4 &&& (65535 : Int32)).toUInt32.toUInt16.toUInt32.toInt32))] [] own_pd33 0 (by decide) (fun v2363 T2363 L2363 h2363 e2363' X2363 hQ2363 => ?_)
  obtain ⟨x2363, t2363, k2363, rfl, N2363q, E2363, lo2363, Ex2363, Fv2363, D2363⟩ := hQ2363
  have N2363 := Fr.app N0 N2363q
  have zs2364 := Nat.le_trans Z0 E2363.1
  have hk2364 := Nat.le_trans hk0 E2363.1
  have od2364 := O0.ext E2363
  refine own_nv ?_
  rcases D2363 with ⟨Fc, hV⟩ | ⟨Fc, hV⟩
  ·have Fc_ := Fc
   show own_Fin _ _ _ _ (T2363.setTop (mkF m 34 #[.val (.int p1), .val (.int p2), .val (.int p3), .val (.int p4), .val (.int p5), .val v'2, .unset, .unset] [(.ref x2363)]))
   refine own_as X2363 q d0_34 rfl (l' := #[.val (.int p1), .val (.int p2), .val (.int p3), .val (.int p4), .val (.int p5), .val v'2, .val (.ref x2363), .unset]) rfl (own_al X2363 q d0_36 rfl rfl ?_)
   refine own_cSh X2363 q hZ e2363' hown hml (W 28 rfl) (W 29 rfl) (W 30 rfl) (W 31 rfl) (rm5 l Z a0 hw x2363 h2363 n0 zs2364) d0_38 [(.ref x2363)] [] own_pd34 0 (by decide) (fun v2365 T2365 L2365 h2365 e2365' X2365 hQ2365 => ?_)
   obtain ⟨u2365, rfl, N2365q, E2365, lo2365, Eu2365, U2365_0, U2365_1, U2365_2, U2365_3⟩ := hQ2365
   have N2365 := Fr.app N2363 N2365q
   have zs2366 := Nat.le_trans zs2364 E2365.1
   have hk2366 := Nat.le_trans hk2364 E2365.1
   have od2366 := od2364.ext E2365
   refine own_nv (own_as X2365 q d0_41 rfl (l' := #[.val (.int p1), .val (.int p2), .val (.int p3), .val (.int p4), .val (.int p5), .val v'2, .val (.ref x2363), .val (.ref u2365)]) rfl (own_al X2365 q d0_43 rfl rfl ?_))
   refine own_cV X2365 q hZ e2365' hown hml (W 46 rfl) (W 47 rfl) (W 49 rfl) (W 48 rfl) (W 30 rfl) (W 50 rfl) rfl Eu2365 (rm7 l Z a0 hw u2365 x2363 h2365 n0 zs2366 U2365_2 U2365_3) d0_45 [] [] own_pd30 0 (by decide) (fun v2367 T2367 L2367 X2367 hQ2367 => ?_)
   obtain ⟨rfl, N2367q, e2367⟩ := hQ2367
   have N2367 := Fr.app N2365 N2367q
   refine own_nv (own_al X2367 q d0_48 rfl rfl ?_)
   refine own_cV X2367 q hZ e2367 hown hml (W 51 rfl) (W 52 rfl) (W 54 rfl) (W 53 rfl) (W 8 rfl) (W 55 rfl) rfl (Ex2363.ext E2365) (rm8_same l Z a0 hw x2363 x2363 h2365 n0 zs2366 rfl) d0_50 [(.ref x2363)] [] own_pd35 0 (by decide) (fun v2368 T2368 L2368 X2368 hQ2368 => ?_)
   obtain ⟨rfl, N2368q, e2368⟩ := hQ2368
   have N2368 := Fr.app N2367 N2368q
   refine own_nv (own_zn X2368 q d0_53 (((if0 _ _).trans (feq ((by decide) : ¬ ((1 : Int32) = (0 : Int32)))).1)) (own_al X2368 q d0_56 rfl rfl ?_))
   refine own_cVh X2368 q hZ e2368 hown hml (W 56 rfl) (W 57 rfl) (W 59 rfl) (W 58 rfl) (W 30 rfl) (W 60 rfl) rfl Eu2365 (rm9_L2 l Z a0 hw u2365 x2363 t2363 k2363 (nar .byte ((nar .char ((p1 &&& (65535 : Int32)).toUInt32.toUInt16.toUInt32.toInt32)).toInt8.toInt32)) (nar .byte ((nar .char ((p2 &&& (65535 : Int32)).toUInt32.toUInt16.toUInt32.toInt32)).toInt8.toInt32)) cs0 fo h2365 n0 zs2366 od2366 ⟨SCS, hcs⟩ SIO hfo Eu2365 U2365_0 U2365_1 U2365_2 U2365_3 (Ex2363.ext E2365) (Fc.ext E2365) (Fv2363.ext E2365) (hV.ext E2365)) d0_58 [] [] own_pd30 0 (by decide) (fun v2369 T2369 L2369 h2369 e2369' X2369 hQ2369 => ?_)
   obtain ⟨x2369, t2369, k2369, rfl, N2369q, E2369, lo2369, lt2369, Ex2369, Fc2369, Fv2369, V2369⟩ := hQ2369
   have N2369 := Fr.app N2368 N2369q
   have zs2370 := Nat.le_trans zs2366 E2369.1
   have hk2370 := Nat.le_trans hk2366 E2369.1
   have od2370 := od2366.ext E2369
   refine own_nv (own_al X2369 q d0_61 rfl rfl ?_)
   refine own_cV X2369 q hZ e2369' hown hml (W 51 rfl) (W 52 rfl) (W 54 rfl) (W 53 rfl) (W 8 rfl) (W 55 rfl) rfl Ex2369 (rm8_L2 l Z a0 hw x2369 x2363 t2369 t2363 k2369 k2363 (nar .byte ((nar .char ((p1 &&& (65535 : Int32)).toUInt32.toUInt16.toUInt32.toInt32)).toInt8.toInt32)) (nar .byte ((nar .char ((p2 &&& (65535 : Int32)).toUInt32.toUInt16.toUInt32.toInt32)).toInt8.toInt32)) cs0 h2369 n0 zs2370 od2370 ⟨SCS, hcs⟩ Ex2369 Fc2369 Fv2369 V2369 ((Ex2363.ext E2365).ext E2369) ((Fc.ext E2365).ext E2369) ((Fv2363.ext E2365).ext E2369) ((hV.ext E2365).ext E2369) (Ne.symm (own_ne ((Ex2363.ext E2365)).lt lo2369))) d0_63 [(.ref x2363)] [] own_pd35 0 (by decide) (fun v2371 T2371 L2371 X2371 hQ2371 => ?_)
   obtain ⟨rfl, N2371q, e2371⟩ := hQ2371
   have N2371 := Fr.app N2369 N2371q
   refine own_nv (own_zn X2371 q d0_66 (((if0 _ _).trans (feq ((by decide) : ¬ ((1 : Int32) = (0 : Int32)))).1)) (own_al X2371 q d0_69 rfl rfl ?_))
   refine own_cV X2371 q hZ e2371 hown hml (W 177 rfl) (W 178 rfl) (W 180 rfl) (W 179 rfl) (W 30 rfl) (W 181 rfl) rfl (Eu2365.ext E2369) (rm32 l Z a0 hw u2365 x2363 h2369 n0 zs2370 (U2365_2.ext E2369) (U2365_3.ext E2369)) d0_71 [] [] own_pd30 0 (by decide) (fun v2372 T2372 L2372 X2372 hQ2372 => ?_)
   obtain ⟨rfl, N2372q, e2372⟩ := hQ2372
   have N2372 := Fr.app N2371 N2372q
   refine own_nv (own_al X2372 q d0_74 rfl rfl ?_)
   refine own_cV X2372 q hZ e2372 hown hml (W 51 rfl) (W 52 rfl) (W 54 rfl) (W 53 rfl) (W 8 rfl) (W 55 rfl) rfl ((Ex2363.ext E2365).ext E2369) (rm8_same l Z a0 hw x2363 x2363 h2369 n0 zs2370 rfl) d0_76 [(.ref x2363)] [] own_pd35 0 (by decide) (fun v2373 T2373 L2373 X2373 hQ2373 => ?_)
   obtain ⟨rfl, N2373q, e2373⟩ := hQ2373
   have N2373 := Fr.app N2372 N2373q
   refine own_nv (own_zn X2373 q d0_79 (((if0 _ _).trans (feq ((by decide) : ¬ ((1 : Int32) = (0 : Int32)))).1)) (own_k X2373 q d0_82 (own_gt X2373 q d0_83 ?_)))
   refine own_retNW X2373 hS0 (by rw [e2373]; exact hk2370) hx (t := .boolean) Bd.returns (by simp) (q.d d0_87) hlk ?_ (by decide) (by decide)
   exact ⟨rfl, N2373⟩
  ·have Fc_ := Fc
   show own_Fin _ _ _ _ (T2363.setTop (mkF m 34 #[.val (.int p1), .val (.int p2), .val (.int p3), .val (.int p4), .val (.int p5), .val v'2, .unset, .unset] [(.ref x2363)]))
   refine own_as X2363 q d0_34 rfl (l' := #[.val (.int p1), .val (.int p2), .val (.int p3), .val (.int p4), .val (.int p5), .val v'2, .val (.ref x2363), .unset]) rfl (own_al X2363 q d0_36 rfl rfl ?_)
   refine own_cSh X2363 q hZ e2363' hown hml (W 28 rfl) (W 29 rfl) (W 30 rfl) (W 31 rfl) (rm5 l Z a0 hw x2363 h2363 n0 zs2364) d0_38 [(.ref x2363)] [] own_pd34 0 (by decide) (fun v2374 T2374 L2374 h2374 e2374' X2374 hQ2374 => ?_)
   obtain ⟨u2374, rfl, N2374q, E2374, lo2374, Eu2374, U2374_0, U2374_1, U2374_2, U2374_3⟩ := hQ2374
   have N2374 := Fr.app N2363 N2374q
   have zs2375 := Nat.le_trans zs2364 E2374.1
   have hk2375 := Nat.le_trans hk2364 E2374.1
   have od2375 := od2364.ext E2374
   refine own_nv (own_as X2374 q d0_41 rfl (l' := #[.val (.int p1), .val (.int p2), .val (.int p3), .val (.int p4), .val (.int p5), .val v'2, .val (.ref x2363), .val (.ref u2374)]) rfl (own_al X2374 q d0_43 rfl rfl ?_))
   refine own_cV X2374 q hZ e2374' hown hml (W 46 rfl) (W 47 rfl) (W 49 rfl) (W 48 rfl) (W 30 rfl) (W 50 rfl) rfl Eu2374 (rm7 l Z a0 hw u2374 x2363 h2374 n0 zs2375 U2374_2 U2374_3) d0_45 [] [] own_pd30 0 (by decide) (fun v2376 T2376 L2376 X2376 hQ2376 => ?_)
   obtain ⟨rfl, N2376q, e2376⟩ := hQ2376
   have N2376 := Fr.app N2374 N2376q
   refine own_nv (own_al X2376 q d0_48 rfl rfl ?_)
   refine own_cV X2376 q hZ e2376 hown hml (W 51 rfl) (W 52 rfl) (W 54 rfl) (W 53 rfl) (W 8 rfl) (W 55 rfl) rfl (Ex2363.ext E2374) (rm8_same l Z a0 hw x2363 x2363 h2374 n0 zs2375 rfl) d0_50 [(.ref x2363)] [] own_pd35 0 (by decide) (fun v2377 T2377 L2377 X2377 hQ2377 => ?_)
   obtain ⟨rfl, N2377q, e2377⟩ := hQ2377
   have N2377 := Fr.app N2376 N2377q
   refine own_nv (own_zn X2377 q d0_53 (((if0 _ _).trans (feq ((by decide) : ¬ ((1 : Int32) = (0 : Int32)))).1)) (own_al X2377 q d0_56 rfl rfl ?_))
   refine own_cVh X2377 q hZ e2377 hown hml (W 56 rfl) (W 57 rfl) (W 59 rfl) (W 58 rfl) (W 30 rfl) (W 60 rfl) rfl Eu2374 (rm9_U2 l Z a0 hw u2374 x2363 t2363 k2363 (nar .byte (((nar .char ((p1 &&& (65535 : Int32)).toUInt32.toUInt16.toUInt32.toInt32)) >>> ((0 : Int32) &&& 31)).toInt8.toInt32)) (nar .byte (((nar .char ((p1 &&& (65535 : Int32)).toUInt32.toUInt16.toUInt32.toInt32)) >>> ((8 : Int32) &&& 31)).toInt8.toInt32)) (nar .byte (((nar .char ((p2 &&& (65535 : Int32)).toUInt32.toUInt16.toUInt32.toInt32)) >>> ((0 : Int32) &&& 31)).toInt8.toInt32)) (nar .byte (((nar .char ((p2 &&& (65535 : Int32)).toUInt32.toUInt16.toUInt32.toInt32)) >>> ((8 : Int32) &&& 31)).toInt8.toInt32)) cs0 fo h2374 n0 zs2375 od2375 ⟨SCS, hcs⟩ SIO hfo Eu2374 U2374_0 U2374_1 U2374_2 U2374_3 (Ex2363.ext E2374) (Fc.ext E2374) (Fv2363.ext E2374) (hV.ext E2374)) d0_58 [] [] own_pd30 0 (by decide) (fun v2378 T2378 L2378 h2378 e2378' X2378 hQ2378 => ?_)
   obtain ⟨x2378, t2378, k2378, rfl, N2378q, E2378, lo2378, lt2378, Ex2378, Fc2378, Fv2378, V2378⟩ := hQ2378
   have N2378 := Fr.app N2377 N2378q
   have zs2379 := Nat.le_trans zs2375 E2378.1
   have hk2379 := Nat.le_trans hk2375 E2378.1
   have od2379 := od2375.ext E2378
   refine own_nv (own_al X2378 q d0_61 rfl rfl ?_)
   refine own_cV X2378 q hZ e2378' hown hml (W 51 rfl) (W 52 rfl) (W 54 rfl) (W 53 rfl) (W 8 rfl) (W 55 rfl) rfl Ex2378 (rm8_U2 l Z a0 hw x2378 x2363 t2378 t2363 k2378 k2363 (nar .byte (((nar .char ((p1 &&& (65535 : Int32)).toUInt32.toUInt16.toUInt32.toInt32)) >>> ((0 : Int32) &&& 31)).toInt8.toInt32)) (nar .byte (((nar .char ((p1 &&& (65535 : Int32)).toUInt32.toUInt16.toUInt32.toInt32)) >>> ((8 : Int32) &&& 31)).toInt8.toInt32)) (nar .byte (((nar .char ((p2 &&& (65535 : Int32)).toUInt32.toUInt16.toUInt32.toInt32)) >>> ((0 : Int32) &&& 31)).toInt8.toInt32)) (nar .byte (((nar .char ((p2 &&& (65535 : Int32)).toUInt32.toUInt16.toUInt32.toInt32)) >>> ((8 : Int32) &&& 31)).toInt8.toInt32)) cs0 h2378 n0 zs2379 od2379 ⟨SCS, hcs⟩ Ex2378 Fc2378 Fv2378 V2378 ((Ex2363.ext E2374).ext E2378) ((Fc.ext E2374).ext E2378) ((Fv2363.ext E2374).ext E2378) ((hV.ext E2374).ext E2378) (Ne.symm (own_ne ((Ex2363.ext E2374)).lt lo2378))) d0_63 [(.ref x2363)] [] own_pd35 0 (by decide) (fun v2380 T2380 L2380 X2380 hQ2380 => ?_)
   obtain ⟨rfl, N2380q, e2380⟩ := hQ2380
   have N2380 := Fr.app N2378 N2380q
   refine own_nv (own_zn X2380 q d0_66 (((if0 _ _).trans (feq ((by decide) : ¬ ((1 : Int32) = (0 : Int32)))).1)) (own_al X2380 q d0_69 rfl rfl ?_))
   refine own_cV X2380 q hZ e2380 hown hml (W 177 rfl) (W 178 rfl) (W 180 rfl) (W 179 rfl) (W 30 rfl) (W 181 rfl) rfl (Eu2374.ext E2378) (rm32 l Z a0 hw u2374 x2363 h2378 n0 zs2379 (U2374_2.ext E2378) (U2374_3.ext E2378)) d0_71 [] [] own_pd30 0 (by decide) (fun v2381 T2381 L2381 X2381 hQ2381 => ?_)
   obtain ⟨rfl, N2381q, e2381⟩ := hQ2381
   have N2381 := Fr.app N2380 N2381q
   refine own_nv (own_al X2381 q d0_74 rfl rfl ?_)
   refine own_cV X2381 q hZ e2381 hown hml (W 51 rfl) (W 52 rfl) (W 54 rfl) (W 53 rfl) (W 8 rfl) (W 55 rfl) rfl ((Ex2363.ext E2374).ext E2378) (rm8_same l Z a0 hw x2363 x2363 h2378 n0 zs2379 rfl) d0_76 [(.ref x2363)] [] own_pd35 0 (by decide) (fun v2382 T2382 L2382 X2382 hQ2382 => ?_)
   obtain ⟨rfl, N2382q, e2382⟩ := hQ2382
   have N2382 := Fr.app N2381 N2382q
   refine own_nv (own_zn X2382 q d0_79 (((if0 _ _).trans (feq ((by decide) : ¬ ((1 : Int32) = (0 : Int32)))).1)) (own_k X2382 q d0_82 (own_gt X2382 q d0_83 ?_)))
   refine own_retNW X2382 hS0 (by rw [e2382]; exact hk2379) hx (t := .boolean) Bd.returns (by simp) (q.d d0_87) hlk ?_ (by decide) (by decide)
   exact ⟨rfl, N2382⟩
 ·rw [hl]
  show own_Fin _ _ _ _ (s₁.setTop (mkF m 7 #[.val (.int p1), .val (.int p2), .val (.int p3), .val (.int p4), .val (.int p5), .unset, .unset, .unset] [v'3]))
  refine own_is X0 q d0_7 (l' := #[.val (.int p1), .val (.int p2), .val (.int p3), .val (.int p4), .val (.int p5), .val v'3, .unset, .unset]) rfl (own_il X0 q d0_9 rfl (own_iln X0 q d0_11 rfl (own_stq 14 [v'65535, (.int p1), v'3] (fun _ k => X0.ldcInt hx hown (mvT hZ (W 1 rfl)) (g := mkF m 12 _ _) rfl (q.d d0_12) _ k) (own_stp 15 (fun _ k => XS.iand X0.here hx rfl (q.d d0_14) rfl k) (own_stp 16 (fun _ k => XS.i2c X0.here hx rfl (q.d d0_15) rfl k) (own_iln X0 q d0_16 rfl (own_stq 19 [v'65535, (.int p2), (.int ((p1 &&& (65535 : Int32)).toUInt32.toUInt16.toUInt32.toInt32)), v'3] (fun _ k => X0.ldcInt hx hown (mvT hZ (W 1 rfl)) (g := mkF m 17 _ _) rfl (q.d d0_17) _ k) (own_stp 20 (fun _ k => XS.iand X0.here hx rfl (q.d d0_19) rfl k) (own_stp 21 (fun _ k => XS.i2c X0.here hx rfl (q.d d0_20) rfl k) (own_iln X0 q d0_21 rfl (own_stq 24 [v'65535, (.int p3), (.int ((p2 &&& (65535 : Int32)).toUInt32.toUInt16.toUInt32.toInt32)), (.int ((p1 &&& (65535 : Int32)).toUInt32.toUInt16.toUInt32.toInt32)), v'3] (fun _ k => X0.ldcInt hx hown (mvT hZ (W 1 rfl)) (g := mkF m 22 _ _) rfl (q.d d0_22) _ k) ?_)))))))))))
  refine own_stp 25 (fun _ k => XS.iand X0.here hx rfl (q.d d0_24) rfl k) (own_stp 26 (fun _ k => XS.i2c X0.here hx rfl (q.d d0_25) rfl k) (own_iln X0 q d0_26 rfl (own_stq 29 [v'65535, (.int p4), (.int ((p3 &&& (65535 : Int32)).toUInt32.toUInt16.toUInt32.toInt32)), (.int ((p2 &&& (65535 : Int32)).toUInt32.toUInt16.toUInt32.toInt32)), (.int ((p1 &&& (65535 : Int32)).toUInt32.toUInt16.toUInt32.toInt32)), v'3] (fun _ k => X0.ldcInt hx hown (mvT hZ (W 1 rfl)) (g := mkF m 27 _ _) rfl (q.d d0_27) _ k) (own_stp 30 (fun _ k => XS.iand X0.here hx rfl (q.d d0_29) rfl k) (own_stp 31 (fun _ k => XS.i2c X0.here hx rfl (q.d d0_30) rfl k) ?_)))))
  refine own_cSh X0 q hZ e0 hown hml (W 2 rfl) (W 3 rfl) (W 4 rfl) (W 5 rfl) (rm1_3 l Z a0 hw ((p1 &&& (65535 : Int32)).toUInt32.toUInt16.toUInt32.toInt32) ((p2 &&& (65535 : Int32)).toUInt32.toUInt16.toUInt32.toInt32) ((p3 &&& (65535 : Int32)).toUInt32.toUInt16.toUInt32.toInt32) ((p4 &&& (65535 : Int32)).toUInt32.toUInt16.toUInt32.toInt32) cs0 h0 n0 Z0 O0 ⟨SCS, hcs⟩ ⟨SAD, SHI, SLO⟩ ) d0_31 [v'3, (.int ((p1 &&& (65535 : Int32)).toUInt32.toUInt16.toUInt32.toInt32)), (.int ((p2 &&& (65535 : Int32)).toUInt32.toUInt16.toUInt32.toInt32)), (.int ((p3 &&& (65535 : Int32)).toUInt32.toUInt16.toUInt32.toInt32)), (.int ((p4 &&& (65535 : Int32)).toUInt32.toUInt16.toUInt32.toInt32))] [] own_pd33 0 (by decide) (fun v2383 T2383 L2383 h2383 e2383' X2383 hQ2383 => ?_)
  obtain ⟨x2383, t2383, k2383, rfl, N2383q, E2383, lo2383, Ex2383, Fv2383, D2383⟩ := hQ2383
  have N2383 := Fr.app N0 N2383q
  have zs2384 := Nat.le_trans Z0 E2383.1
  have hk2384 := Nat.le_trans hk0 E2383.1
  have od2384 := O0.ext E2383
  refine own_nv ?_
  rcases D2383 with ⟨Fc, hV⟩ | ⟨Fc, hV⟩
  ·have Fc_ := Fc
   show own_Fin _ _ _ _ (T2383.setTop (mkF m 34 #[.val (.int p1), .val (.int p2), .val (.int p3), .val (.int p4), .val (.int p5), .val v'3, .unset, .unset] [(.ref x2383)]))
   refine own_as X2383 q d0_34 rfl (l' := #[.val (.int p1), .val (.int p2), .val (.int p3), .val (.int p4), .val (.int p5), .val v'3, .val (.ref x2383), .unset]) rfl (own_al X2383 q d0_36 rfl rfl ?_)
   refine own_cSh X2383 q hZ e2383' hown hml (W 28 rfl) (W 29 rfl) (W 30 rfl) (W 31 rfl) (rm5 l Z a0 hw x2383 h2383 n0 zs2384) d0_38 [(.ref x2383)] [] own_pd34 0 (by decide) (fun v2385 T2385 L2385 h2385 e2385' X2385 hQ2385 => ?_)
   obtain ⟨u2385, rfl, N2385q, E2385, lo2385, Eu2385, U2385_0, U2385_1, U2385_2, U2385_3⟩ := hQ2385
   have N2385 := Fr.app N2383 N2385q
   have zs2386 := Nat.le_trans zs2384 E2385.1
   have hk2386 := Nat.le_trans hk2384 E2385.1
   have od2386 := od2384.ext E2385
   refine own_nv (own_as X2385 q d0_41 rfl (l' := #[.val (.int p1), .val (.int p2), .val (.int p3), .val (.int p4), .val (.int p5), .val v'3, .val (.ref x2383), .val (.ref u2385)]) rfl (own_al X2385 q d0_43 rfl rfl ?_))
   refine own_cV X2385 q hZ e2385' hown hml (W 46 rfl) (W 47 rfl) (W 49 rfl) (W 48 rfl) (W 30 rfl) (W 50 rfl) rfl Eu2385 (rm7 l Z a0 hw u2385 x2383 h2385 n0 zs2386 U2385_2 U2385_3) d0_45 [] [] own_pd30 0 (by decide) (fun v2387 T2387 L2387 X2387 hQ2387 => ?_)
   obtain ⟨rfl, N2387q, e2387⟩ := hQ2387
   have N2387 := Fr.app N2385 N2387q
   refine own_nv (own_al X2387 q d0_48 rfl rfl ?_)
   refine own_cV X2387 q hZ e2387 hown hml (W 51 rfl) (W 52 rfl) (W 54 rfl) (W 53 rfl) (W 8 rfl) (W 55 rfl) rfl (Ex2383.ext E2385) (rm8_same l Z a0 hw x2383 x2383 h2385 n0 zs2386 rfl) d0_50 [(.ref x2383)] [] own_pd35 0 (by decide) (fun v2388 T2388 L2388 X2388 hQ2388 => ?_)
   obtain ⟨rfl, N2388q, e2388⟩ := hQ2388
   have N2388 := Fr.app N2387 N2388q
   refine own_nv (own_zn X2388 q d0_53 (((if0 _ _).trans (feq ((by decide) : ¬ ((1 : Int32) = (0 : Int32)))).1)) (own_al X2388 q d0_56 rfl rfl ?_))
   refine own_cVh X2388 q hZ e2388 hown hml (W 56 rfl) (W 57 rfl) (W 59 rfl) (W 58 rfl) (W 30 rfl) (W 60 rfl) rfl Eu2385 (rm9_L3 l Z a0 hw u2385 x2383 t2383 k2383 (nar .byte ((nar .char ((p1 &&& (65535 : Int32)).toUInt32.toUInt16.toUInt32.toInt32)).toInt8.toInt32)) (nar .byte ((nar .char ((p2 &&& (65535 : Int32)).toUInt32.toUInt16.toUInt32.toInt32)).toInt8.toInt32)) (nar .byte ((nar .char ((p3 &&& (65535 : Int32)).toUInt32.toUInt16.toUInt32.toInt32)).toInt8.toInt32)) cs0 fo h2385 n0 zs2386 od2386 ⟨SCS, hcs⟩ SIO hfo Eu2385 U2385_0 U2385_1 U2385_2 U2385_3 (Ex2383.ext E2385) (Fc.ext E2385) (Fv2383.ext E2385) (hV.ext E2385)) d0_58 [] [] own_pd30 0 (by decide) (fun v2389 T2389 L2389 h2389 e2389' X2389 hQ2389 => ?_)
   obtain ⟨x2389, t2389, k2389, rfl, N2389q, E2389, lo2389, lt2389, Ex2389, Fc2389, Fv2389, V2389⟩ := hQ2389
   have N2389 := Fr.app N2388 N2389q
   have zs2390 := Nat.le_trans zs2386 E2389.1
   have hk2390 := Nat.le_trans hk2386 E2389.1
   have od2390 := od2386.ext E2389
   refine own_nv (own_al X2389 q d0_61 rfl rfl ?_)
   refine own_cV X2389 q hZ e2389' hown hml (W 51 rfl) (W 52 rfl) (W 54 rfl) (W 53 rfl) (W 8 rfl) (W 55 rfl) rfl Ex2389 (rm8_L3 l Z a0 hw x2389 x2383 t2389 t2383 k2389 k2383 (nar .byte ((nar .char ((p1 &&& (65535 : Int32)).toUInt32.toUInt16.toUInt32.toInt32)).toInt8.toInt32)) (nar .byte ((nar .char ((p2 &&& (65535 : Int32)).toUInt32.toUInt16.toUInt32.toInt32)).toInt8.toInt32)) (nar .byte ((nar .char ((p3 &&& (65535 : Int32)).toUInt32.toUInt16.toUInt32.toInt32)).toInt8.toInt32)) cs0 h2389 n0 zs2390 od2390 ⟨SCS, hcs⟩ Ex2389 Fc2389 Fv2389 V2389 ((Ex2383.ext E2385).ext E2389) ((Fc.ext E2385).ext E2389) ((Fv2383.ext E2385).ext E2389) ((hV.ext E2385).ext E2389) (Ne.symm (own_ne ((Ex2383.ext E2385)).lt lo2389))) d0_63 [(.ref x2383)] [] own_pd35 0 (by decide) (fun v2391 T2391 L2391 X2391 hQ2391 => ?_)
   obtain ⟨rfl, N2391q, e2391⟩ := hQ2391
   have N2391 := Fr.app N2389 N2391q
   refine own_nv (own_zn X2391 q d0_66 (((if0 _ _).trans (feq ((by decide) : ¬ ((1 : Int32) = (0 : Int32)))).1)) (own_al X2391 q d0_69 rfl rfl ?_))
   refine own_cV X2391 q hZ e2391 hown hml (W 177 rfl) (W 178 rfl) (W 180 rfl) (W 179 rfl) (W 30 rfl) (W 181 rfl) rfl (Eu2385.ext E2389) (rm32 l Z a0 hw u2385 x2383 h2389 n0 zs2390 (U2385_2.ext E2389) (U2385_3.ext E2389)) d0_71 [] [] own_pd30 0 (by decide) (fun v2392 T2392 L2392 X2392 hQ2392 => ?_)
   obtain ⟨rfl, N2392q, e2392⟩ := hQ2392
   have N2392 := Fr.app N2391 N2392q
   refine own_nv (own_al X2392 q d0_74 rfl rfl ?_)
   refine own_cV X2392 q hZ e2392 hown hml (W 51 rfl) (W 52 rfl) (W 54 rfl) (W 53 rfl) (W 8 rfl) (W 55 rfl) rfl ((Ex2383.ext E2385).ext E2389) (rm8_same l Z a0 hw x2383 x2383 h2389 n0 zs2390 rfl) d0_76 [(.ref x2383)] [] own_pd35 0 (by decide) (fun v2393 T2393 L2393 X2393 hQ2393 => ?_)
   obtain ⟨rfl, N2393q, e2393⟩ := hQ2393
   have N2393 := Fr.app N2392 N2393q
   refine own_nv (own_zn X2393 q d0_79 (((if0 _ _).trans (feq ((by decide) : ¬ ((1 : Int32) = (0 : Int32)))).1)) (own_k X2393 q d0_82 (own_gt X2393 q d0_83 ?_)))
   refine own_retNW X2393 hS0 (by rw [e2393]; exact hk2390) hx (t := .boolean) Bd.returns (by simp) (q.d d0_87) hlk ?_ (by decide) (by decide)
   exact ⟨rfl, N2393⟩
  ·have Fc_ := Fc
   show own_Fin _ _ _ _ (T2383.setTop (mkF m 34 #[.val (.int p1), .val (.int p2), .val (.int p3), .val (.int p4), .val (.int p5), .val v'3, .unset, .unset] [(.ref x2383)]))
   refine own_as X2383 q d0_34 rfl (l' := #[.val (.int p1), .val (.int p2), .val (.int p3), .val (.int p4), .val (.int p5), .val v'3, .val (.ref x2383), .unset]) rfl (own_al X2383 q d0_36 rfl rfl ?_)
   refine own_cSh X2383 q hZ e2383' hown hml (W 28 rfl) (W 29 rfl) (W 30 rfl) (W 31 rfl) (rm5 l Z a0 hw x2383 h2383 n0 zs2384) d0_38 [(.ref x2383)] [] own_pd34 0 (by decide) (fun v2394 T2394 L2394 h2394 e2394' X2394 hQ2394 => ?_)
   obtain ⟨u2394, rfl, N2394q, E2394, lo2394, Eu2394, U2394_0, U2394_1, U2394_2, U2394_3⟩ := hQ2394
   have N2394 := Fr.app N2383 N2394q
   have zs2395 := Nat.le_trans zs2384 E2394.1
   have hk2395 := Nat.le_trans hk2384 E2394.1
   have od2395 := od2384.ext E2394
   refine own_nv (own_as X2394 q d0_41 rfl (l' := #[.val (.int p1), .val (.int p2), .val (.int p3), .val (.int p4), .val (.int p5), .val v'3, .val (.ref x2383), .val (.ref u2394)]) rfl (own_al X2394 q d0_43 rfl rfl ?_))
   refine own_cV X2394 q hZ e2394' hown hml (W 46 rfl) (W 47 rfl) (W 49 rfl) (W 48 rfl) (W 30 rfl) (W 50 rfl) rfl Eu2394 (rm7 l Z a0 hw u2394 x2383 h2394 n0 zs2395 U2394_2 U2394_3) d0_45 [] [] own_pd30 0 (by decide) (fun v2396 T2396 L2396 X2396 hQ2396 => ?_)
   obtain ⟨rfl, N2396q, e2396⟩ := hQ2396
   have N2396 := Fr.app N2394 N2396q
   refine own_nv (own_al X2396 q d0_48 rfl rfl ?_)
   refine own_cV X2396 q hZ e2396 hown hml (W 51 rfl) (W 52 rfl) (W 54 rfl) (W 53 rfl) (W 8 rfl) (W 55 rfl) rfl (Ex2383.ext E2394) (rm8_same l Z a0 hw x2383 x2383 h2394 n0 zs2395 rfl) d0_50 [(.ref x2383)] [] own_pd35 0 (by decide) (fun v2397 T2397 L2397 X2397 hQ2397 => ?_)
   obtain ⟨rfl, N2397q, e2397⟩ := hQ2397
   have N2397 := Fr.app N2396 N2397q
   refine own_nv (own_zn X2397 q d0_53 (((if0 _ _).trans (feq ((by decide) : ¬ ((1 : Int32) = (0 : Int32)))).1)) (own_al X2397 q d0_56 rfl rfl ?_))
   refine own_cVh X2397 q hZ e2397 hown hml (W 56 rfl) (W 57 rfl) (W 59 rfl) (W 58 rfl) (W 30 rfl) (W 60 rfl) rfl Eu2394 (rm9_U3 l Z a0 hw u2394 x2383 t2383 k2383 (nar .byte (((nar .char ((p1 &&& (65535 : Int32)).toUInt32.toUInt16.toUInt32.toInt32)) >>> ((0 : Int32) &&& 31)).toInt8.toInt32)) (nar .byte (((nar .char ((p1 &&& (65535 : Int32)).toUInt32.toUInt16.toUInt32.toInt32)) >>> ((8 : Int32) &&& 31)).toInt8.toInt32)) (nar .byte (((nar .char ((p2 &&& (65535 : Int32)).toUInt32.toUInt16.toUInt32.toInt32)) >>> ((0 : Int32) &&& 31)).toInt8.toInt32)) (nar .byte (((nar .char ((p2 &&& (65535 : Int32)).toUInt32.toUInt16.toUInt32.toInt32)) >>> ((8 : Int32) &&& 31)).toInt8.toInt32)) (nar .byte (((nar .char ((p3 &&& (65535 : Int32)).toUInt32.toUInt16.toUInt32.toInt32)) >>> ((0 : Int32) &&& 31)).toInt8.toInt32)) (nar .byte (((nar .char ((p3 &&& (65535 : Int32)).toUInt32.toUInt16.toUInt32.toInt32)) >>> ((8 : Int32) &&& 31)).toInt8.toInt32)) cs0 fo h2394 n0 zs2395 od2395 ⟨SCS, hcs⟩ SIO hfo Eu2394 U2394_0 U2394_1 U2394_2 U2394_3 (Ex2383.ext E2394) (Fc.ext E2394) (Fv2383.ext E2394) (hV.ext E2394)) d0_58 [] [] own_pd30 0 (by decide) (fun v2398 T2398 L2398 h2398 e2398' X2398 hQ2398 => ?_)
   obtain ⟨x2398, t2398, k2398, rfl, N2398q, E2398, lo2398, lt2398, Ex2398, Fc2398, Fv2398, V2398⟩ := hQ2398
   have N2398 := Fr.app N2397 N2398q
   have zs2399 := Nat.le_trans zs2395 E2398.1
   have hk2399 := Nat.le_trans hk2395 E2398.1
   have od2399 := od2395.ext E2398
   refine own_nv (own_al X2398 q d0_61 rfl rfl ?_)
   refine own_cV X2398 q hZ e2398' hown hml (W 51 rfl) (W 52 rfl) (W 54 rfl) (W 53 rfl) (W 8 rfl) (W 55 rfl) rfl Ex2398 (rm8_U3 l Z a0 hw x2398 x2383 t2398 t2383 k2398 k2383 (nar .byte (((nar .char ((p1 &&& (65535 : Int32)).toUInt32.toUInt16.toUInt32.toInt32)) >>> ((0 : Int32) &&& 31)).toInt8.toInt32)) (nar .byte (((nar .char ((p1 &&& (65535 : Int32)).toUInt32.toUInt16.toUInt32.toInt32)) >>> ((8 : Int32) &&& 31)).toInt8.toInt32)) (nar .byte (((nar .char ((p2 &&& (65535 : Int32)).toUInt32.toUInt16.toUInt32.toInt32)) >>> ((0 : Int32) &&& 31)).toInt8.toInt32)) (nar .byte (((nar .char ((p2 &&& (65535 : Int32)).toUInt32.toUInt16.toUInt32.toInt32)) >>> ((8 : Int32) &&& 31)).toInt8.toInt32)) (nar .byte (((nar .char ((p3 &&& (65535 : Int32)).toUInt32.toUInt16.toUInt32.toInt32)) >>> ((0 : Int32) &&& 31)).toInt8.toInt32)) (nar .byte (((nar .char ((p3 &&& (65535 : Int32)).toUInt32.toUInt16.toUInt32.toInt32)) >>> ((8 : Int32) &&& 31)).toInt8.toInt32)) cs0 h2398 n0 zs2399 od2399 ⟨SCS, hcs⟩ Ex2398 Fc2398 Fv2398 V2398 ((Ex2383.ext E2394).ext E2398) ((Fc.ext E2394).ext E2398) ((Fv2383.ext E2394).ext E2398) ((hV.ext E2394).ext E2398) (Ne.symm (own_ne ((Ex2383.ext E2394)).lt lo2398))) d0_63 [(.ref x2383)] [] own_pd35 0 (by decide) (fun v2400 T2400 L2400 X2400 hQ2400 => ?_)
   obtain ⟨rfl, N2400q, e2400⟩ := hQ2400
   have N2400 := Fr.app N2398 N2400q
   refine own_nv (own_zn X2400 q d0_66 (((if0 _ _).trans (feq ((by decide) : ¬ ((1 : Int32) = (0 : Int32)))).1)) (own_al X2400 q d0_69 rfl rfl ?_))
   refine own_cV X2400 q hZ e2400 hown hml (W 177 rfl) (W 178 rfl) (W 180 rfl) (W 179 rfl) (W 30 rfl) (W 181 rfl) rfl (Eu2394.ext E2398) (rm32 l Z a0 hw u2394 x2383 h2398 n0 zs2399 (U2394_2.ext E2398) (U2394_3.ext E2398)) d0_71 [] [] own_pd30 0 (by decide) (fun v2401 T2401 L2401 X2401 hQ2401 => ?_)
   obtain ⟨rfl, N2401q, e2401⟩ := hQ2401
   have N2401 := Fr.app N2400 N2401q
   refine own_nv (own_al X2401 q d0_74 rfl rfl ?_)
   refine own_cV X2401 q hZ e2401 hown hml (W 51 rfl) (W 52 rfl) (W 54 rfl) (W 53 rfl) (W 8 rfl) (W 55 rfl) rfl ((Ex2383.ext E2394).ext E2398) (rm8_same l Z a0 hw x2383 x2383 h2398 n0 zs2399 rfl) d0_76 [(.ref x2383)] [] own_pd35 0 (by decide) (fun v2402 T2402 L2402 X2402 hQ2402 => ?_)
   obtain ⟨rfl, N2402q, e2402⟩ := hQ2402
   have N2402 := Fr.app N2401 N2402q
   refine own_nv (own_zn X2402 q d0_79 (((if0 _ _).trans (feq ((by decide) : ¬ ((1 : Int32) = (0 : Int32)))).1)) (own_k X2402 q d0_82 (own_gt X2402 q d0_83 ?_)))
   refine own_retNW X2402 hS0 (by rw [e2402]; exact hk2399) hx (t := .boolean) Bd.returns (by simp) (q.d d0_87) hlk ?_ (by decide) (by decide)
   exact ⟨rfl, N2402⟩
 ·rw [hl]
  show own_Fin _ _ _ _ (s₁.setTop (mkF m 7 #[.val (.int p1), .val (.int p2), .val (.int p3), .val (.int p4), .val (.int p5), .unset, .unset, .unset] [v'4]))
  refine own_is X0 q d0_7 (l' := #[.val (.int p1), .val (.int p2), .val (.int p3), .val (.int p4), .val (.int p5), .val v'4, .unset, .unset]) rfl (own_il X0 q d0_9 rfl (own_iln X0 q d0_11 rfl (own_stq 14 [v'65535, (.int p1), v'4] (fun _ k => X0.ldcInt hx hown (mvT hZ (W 1 rfl)) (g := mkF m 12 _ _) rfl (q.d d0_12) _ k) (own_stp 15 (fun _ k => XS.iand X0.here hx rfl (q.d d0_14) rfl k) (own_stp 16 (fun _ k => XS.i2c X0.here hx rfl (q.d d0_15) rfl k) (own_iln X0 q d0_16 rfl (own_stq 19 [v'65535, (.int p2), (.int ((p1 &&& (65535 : Int32)).toUInt32.toUInt16.toUInt32.toInt32)), v'4] (fun _ k => X0.ldcInt hx hown (mvT hZ (W 1 rfl)) (g := mkF m 17 _ _) rfl (q.d d0_17) _ k) (own_stp 20 (fun _ k => XS.iand X0.here hx rfl (q.d d0_19) rfl k) (own_stp 21 (fun _ k => XS.i2c X0.here hx rfl (q.d d0_20) rfl k) (own_iln X0 q d0_21 rfl (own_stq 24 [v'65535, (.int p3), (.int ((p2 &&& (65535 : Int32)).toUInt32.toUInt16.toUInt32.toInt32)), (.int ((p1 &&& (65535 : Int32)).toUInt32.toUInt16.toUInt32.toInt32)), v'4] (fun _ k => X0.ldcInt hx hown (mvT hZ (W 1 rfl)) (g := mkF m 22 _ _) rfl (q.d d0_22) _ k) ?_)))))))))))
  refine own_stp 25 (fun _ k => XS.iand X0.here hx rfl (q.d d0_24) rfl k) (own_stp 26 (fun _ k => XS.i2c X0.here hx rfl (q.d d0_25) rfl k) (own_iln X0 q d0_26 rfl (own_stq 29 [v'65535, (.int p4), (.int ((p3 &&& (65535 : Int32)).toUInt32.toUInt16.toUInt32.toInt32)), (.int ((p2 &&& (65535 : Int32)).toUInt32.toUInt16.toUInt32.toInt32)), (.int ((p1 &&& (65535 : Int32)).toUInt32.toUInt16.toUInt32.toInt32)), v'4] (fun _ k => X0.ldcInt hx hown (mvT hZ (W 1 rfl)) (g := mkF m 27 _ _) rfl (q.d d0_27) _ k) (own_stp 30 (fun _ k => XS.iand X0.here hx rfl (q.d d0_29) rfl k) (own_stp 31 (fun _ k => XS.i2c X0.here hx rfl (q.d d0_30) rfl k) ?_)))))
  refine own_cSh X0 q hZ e0 hown hml (W 2 rfl) (W 3 rfl) (W 4 rfl) (W 5 rfl) (rm1_4 l Z a0 hw ((p1 &&& (65535 : Int32)).toUInt32.toUInt16.toUInt32.toInt32) ((p2 &&& (65535 : Int32)).toUInt32.toUInt16.toUInt32.toInt32) ((p3 &&& (65535 : Int32)).toUInt32.toUInt16.toUInt32.toInt32) ((p4 &&& (65535 : Int32)).toUInt32.toUInt16.toUInt32.toInt32) cs0 h0 n0 Z0 O0 ⟨SCS, hcs⟩ ⟨SAD, SHI, SLO⟩ ) d0_31 [v'4, (.int ((p1 &&& (65535 : Int32)).toUInt32.toUInt16.toUInt32.toInt32)), (.int ((p2 &&& (65535 : Int32)).toUInt32.toUInt16.toUInt32.toInt32)), (.int ((p3 &&& (65535 : Int32)).toUInt32.toUInt16.toUInt32.toInt32)), (.int ((p4 &&& (65535 : Int32)).toUInt32.toUInt16.toUInt32.toInt32))] [] own_pd33 0 (by decide) (fun v2403 T2403 L2403 h2403 e2403' X2403 hQ2403 => ?_)
  obtain ⟨x2403, t2403, k2403, rfl, N2403q, E2403, lo2403, Ex2403, Fv2403, D2403⟩ := hQ2403
  have N2403 := Fr.app N0 N2403q
  have zs2404 := Nat.le_trans Z0 E2403.1
  have hk2404 := Nat.le_trans hk0 E2403.1
  have od2404 := O0.ext E2403
  refine own_nv ?_
  rcases D2403 with ⟨Fc, hV⟩ | ⟨Fc, hV⟩
  ·have Fc_ := Fc
   show own_Fin _ _ _ _ (T2403.setTop (mkF m 34 #[.val (.int p1), .val (.int p2), .val (.int p3), .val (.int p4), .val (.int p5), .val v'4, .unset, .unset] [(.ref x2403)]))
   refine own_as X2403 q d0_34 rfl (l' := #[.val (.int p1), .val (.int p2), .val (.int p3), .val (.int p4), .val (.int p5), .val v'4, .val (.ref x2403), .unset]) rfl (own_al X2403 q d0_36 rfl rfl ?_)
   refine own_cSh X2403 q hZ e2403' hown hml (W 28 rfl) (W 29 rfl) (W 30 rfl) (W 31 rfl) (rm5 l Z a0 hw x2403 h2403 n0 zs2404) d0_38 [(.ref x2403)] [] own_pd34 0 (by decide) (fun v2405 T2405 L2405 h2405 e2405' X2405 hQ2405 => ?_)
   obtain ⟨u2405, rfl, N2405q, E2405, lo2405, Eu2405, U2405_0, U2405_1, U2405_2, U2405_3⟩ := hQ2405
   have N2405 := Fr.app N2403 N2405q
   have zs2406 := Nat.le_trans zs2404 E2405.1
   have hk2406 := Nat.le_trans hk2404 E2405.1
   have od2406 := od2404.ext E2405
   refine own_nv (own_as X2405 q d0_41 rfl (l' := #[.val (.int p1), .val (.int p2), .val (.int p3), .val (.int p4), .val (.int p5), .val v'4, .val (.ref x2403), .val (.ref u2405)]) rfl (own_al X2405 q d0_43 rfl rfl ?_))
   refine own_cV X2405 q hZ e2405' hown hml (W 46 rfl) (W 47 rfl) (W 49 rfl) (W 48 rfl) (W 30 rfl) (W 50 rfl) rfl Eu2405 (rm7 l Z a0 hw u2405 x2403 h2405 n0 zs2406 U2405_2 U2405_3) d0_45 [] [] own_pd30 0 (by decide) (fun v2407 T2407 L2407 X2407 hQ2407 => ?_)
   obtain ⟨rfl, N2407q, e2407⟩ := hQ2407
   have N2407 := Fr.app N2405 N2407q
   refine own_nv (own_al X2407 q d0_48 rfl rfl ?_)
   refine own_cV X2407 q hZ e2407 hown hml (W 51 rfl) (W 52 rfl) (W 54 rfl) (W 53 rfl) (W 8 rfl) (W 55 rfl) rfl (Ex2403.ext E2405) (rm8_same l Z a0 hw x2403 x2403 h2405 n0 zs2406 rfl) d0_50 [(.ref x2403)] [] own_pd35 0 (by decide) (fun v2408 T2408 L2408 X2408 hQ2408 => ?_)
   obtain ⟨rfl, N2408q, e2408⟩ := hQ2408
   have N2408 := Fr.app N2407 N2408q
   refine own_nv (own_zn X2408 q d0_53 (((if0 _ _).trans (feq ((by decide) : ¬ ((1 : Int32) = (0 : Int32)))).1)) (own_al X2408 q d0_56 rfl rfl ?_))
   refine own_cVh X2408 q hZ e2408 hown hml (W 56 rfl) (W 57 rfl) (W 59 rfl) (W 58 rfl) (W 30 rfl) (W 60 rfl) rfl Eu2405 (rm9_L4 l Z a0 hw u2405 x2403 t2403 k2403 (nar .byte ((nar .char ((p1 &&& (65535 : Int32)).toUInt32.toUInt16.toUInt32.toInt32)).toInt8.toInt32)) (nar .byte ((nar .char ((p2 &&& (65535 : Int32)).toUInt32.toUInt16.toUInt32.toInt32)).toInt8.toInt32)) (nar .byte ((nar .char ((p3 &&& (65535 : Int32)).toUInt32.toUInt16.toUInt32.toInt32)).toInt8.toInt32)) (nar .byte ((nar .char ((p4 &&& (65535 : Int32)).toUInt32.toUInt16.toUInt32.toInt32)).toInt8.toInt32)) cs0 fo h2405 n0 zs2406 od2406 ⟨SCS, hcs⟩ SIO hfo Eu2405 U2405_0 U2405_1 U2405_2 U2405_3 (Ex2403.ext E2405) (Fc.ext E2405) (Fv2403.ext E2405) (hV.ext E2405)) d0_58 [] [] own_pd30 0 (by decide) (fun v2409 T2409 L2409 h2409 e2409' X2409 hQ2409 => ?_)
   obtain ⟨x2409, t2409, k2409, rfl, N2409q, E2409, lo2409, lt2409, Ex2409, Fc2409, Fv2409, V2409⟩ := hQ2409
   have N2409 := Fr.app N2408 N2409q
   have zs2410 := Nat.le_trans zs2406 E2409.1
   have hk2410 := Nat.le_trans hk2406 E2409.1
   have od2410 := od2406.ext E2409
   refine own_nv (own_al X2409 q d0_61 rfl rfl ?_)
   refine own_cV X2409 q hZ e2409' hown hml (W 51 rfl) (W 52 rfl) (W 54 rfl) (W 53 rfl) (W 8 rfl) (W 55 rfl) rfl Ex2409 (rm8_L4 l Z a0 hw x2409 x2403 t2409 t2403 k2409 k2403 (nar .byte ((nar .char ((p1 &&& (65535 : Int32)).toUInt32.toUInt16.toUInt32.toInt32)).toInt8.toInt32)) (nar .byte ((nar .char ((p2 &&& (65535 : Int32)).toUInt32.toUInt16.toUInt32.toInt32)).toInt8.toInt32)) (nar .byte ((nar .char ((p3 &&& (65535 : Int32)).toUInt32.toUInt16.toUInt32.toInt32)).toInt8.toInt32)) (nar .byte ((nar .char ((p4 &&& (65535 : Int32)).toUInt32.toUInt16.toUInt32.toInt32)).toInt8.toInt32)) cs0 h2409 n0 zs2410 od2410 ⟨SCS, hcs⟩ Ex2409 Fc2409 Fv2409 V2409 ((Ex2403.ext E2405).ext E2409) ((Fc.ext E2405).ext E2409) ((Fv2403.ext E2405).ext E2409) ((hV.ext E2405).ext E2409) (Ne.symm (own_ne ((Ex2403.ext E2405)).lt lo2409))) d0_63 [(.ref x2403)] [] own_pd35 0 (by decide) (fun v2411 T2411 L2411 X2411 hQ2411 => ?_)
   obtain ⟨rfl, N2411q, e2411⟩ := hQ2411
   have N2411 := Fr.app N2409 N2411q
   refine own_nv (own_zn X2411 q d0_66 (((if0 _ _).trans (feq ((by decide) : ¬ ((1 : Int32) = (0 : Int32)))).1)) (own_al X2411 q d0_69 rfl rfl ?_))
   refine own_cV X2411 q hZ e2411 hown hml (W 177 rfl) (W 178 rfl) (W 180 rfl) (W 179 rfl) (W 30 rfl) (W 181 rfl) rfl (Eu2405.ext E2409) (rm32 l Z a0 hw u2405 x2403 h2409 n0 zs2410 (U2405_2.ext E2409) (U2405_3.ext E2409)) d0_71 [] [] own_pd30 0 (by decide) (fun v2412 T2412 L2412 X2412 hQ2412 => ?_)
   obtain ⟨rfl, N2412q, e2412⟩ := hQ2412
   have N2412 := Fr.app N2411 N2412q
   refine own_nv (own_al X2412 q d0_74 rfl rfl ?_)
   refine own_cV X2412 q hZ e2412 hown hml (W 51 rfl) (W 52 rfl) (W 54 rfl) (W 53 rfl) (W 8 rfl) (W 55 rfl) rfl ((Ex2403.ext E2405).ext E2409) (rm8_same l Z a0 hw x2403 x2403 h2409 n0 zs2410 rfl) d0_76 [(.ref x2403)] [] own_pd35 0 (by decide) (fun v2413 T2413 L2413 X2413 hQ2413 => ?_)
   obtain ⟨rfl, N2413q, e2413⟩ := hQ2413
   have N2413 := Fr.app N2412 N2413q
   refine own_nv (own_zn X2413 q d0_79 (((if0 _ _).trans (feq ((by decide) : ¬ ((1 : Int32) = (0 : Int32)))).1)) (own_k X2413 q d0_82 (own_gt X2413 q d0_83 ?_)))
   refine own_retNW X2413 hS0 (by rw [e2413]; exact hk2410) hx (t := .boolean) Bd.returns (by simp) (q.d d0_87) hlk ?_ (by decide) (by decide)
   exact ⟨rfl, N2413⟩
  ·have Fc_ := Fc
   show own_Fin _ _ _ _ (T2403.setTop (mkF m 34 #[.val (.int p1), .val (.int p2), .val (.int p3), .val (.int p4), .val (.int p5), .val v'4, .unset, .unset] [(.ref x2403)]))
   refine own_as X2403 q d0_34 rfl (l' := #[.val (.int p1), .val (.int p2), .val (.int p3), .val (.int p4), .val (.int p5), .val v'4, .val (.ref x2403), .unset]) rfl (own_al X2403 q d0_36 rfl rfl ?_)
   refine own_cSh X2403 q hZ e2403' hown hml (W 28 rfl) (W 29 rfl) (W 30 rfl) (W 31 rfl) (rm5 l Z a0 hw x2403 h2403 n0 zs2404) d0_38 [(.ref x2403)] [] own_pd34 0 (by decide) (fun v2414 T2414 L2414 h2414 e2414' X2414 hQ2414 => ?_)
   obtain ⟨u2414, rfl, N2414q, E2414, lo2414, Eu2414, U2414_0, U2414_1, U2414_2, U2414_3⟩ := hQ2414
   have N2414 := Fr.app N2403 N2414q
   have zs2415 := Nat.le_trans zs2404 E2414.1
   have hk2415 := Nat.le_trans hk2404 E2414.1
   have od2415 := od2404.ext E2414
   refine own_nv (own_as X2414 q d0_41 rfl (l' := #[.val (.int p1), .val (.int p2), .val (.int p3), .val (.int p4), .val (.int p5), .val v'4, .val (.ref x2403), .val (.ref u2414)]) rfl (own_al X2414 q d0_43 rfl rfl ?_))
   refine own_cV X2414 q hZ e2414' hown hml (W 46 rfl) (W 47 rfl) (W 49 rfl) (W 48 rfl) (W 30 rfl) (W 50 rfl) rfl Eu2414 (rm7 l Z a0 hw u2414 x2403 h2414 n0 zs2415 U2414_2 U2414_3) d0_45 [] [] own_pd30 0 (by decide) (fun v2416 T2416 L2416 X2416 hQ2416 => ?_)
   obtain ⟨rfl, N2416q, e2416⟩ := hQ2416
   have N2416 := Fr.app N2414 N2416q
   refine own_nv (own_al X2416 q d0_48 rfl rfl ?_)
   refine own_cV X2416 q hZ e2416 hown hml (W 51 rfl) (W 52 rfl) (W 54 rfl) (W 53 rfl) (W 8 rfl) (W 55 rfl) rfl (Ex2403.ext E2414) (rm8_same l Z a0 hw x2403 x2403 h2414 n0 zs2415 rfl) d0_50 [(.ref x2403)] [] own_pd35 0 (by decide) (fun v2417 T2417 L2417 X2417 hQ2417 => ?_)
   obtain ⟨rfl, N2417q, e2417⟩ := hQ2417
   have N2417 := Fr.app N2416 N2417q
   refine own_nv (own_zn X2417 q d0_53 (((if0 _ _).trans (feq ((by decide) : ¬ ((1 : Int32) = (0 : Int32)))).1)) (own_al X2417 q d0_56 rfl rfl ?_))
   refine own_cVh X2417 q hZ e2417 hown hml (W 56 rfl) (W 57 rfl) (W 59 rfl) (W 58 rfl) (W 30 rfl) (W 60 rfl) rfl Eu2414 (rm9_U4 l Z a0 hw u2414 x2403 t2403 k2403 (nar .byte (((nar .char ((p1 &&& (65535 : Int32)).toUInt32.toUInt16.toUInt32.toInt32)) >>> ((0 : Int32) &&& 31)).toInt8.toInt32)) (nar .byte (((nar .char ((p1 &&& (65535 : Int32)).toUInt32.toUInt16.toUInt32.toInt32)) >>> ((8 : Int32) &&& 31)).toInt8.toInt32)) (nar .byte (((nar .char ((p2 &&& (65535 : Int32)).toUInt32.toUInt16.toUInt32.toInt32)) >>> ((0 : Int32) &&& 31)).toInt8.toInt32)) (nar .byte (((nar .char ((p2 &&& (65535 : Int32)).toUInt32.toUInt16.toUInt32.toInt32)) >>> ((8 : Int32) &&& 31)).toInt8.toInt32)) (nar .byte (((nar .char ((p3 &&& (65535 : Int32)).toUInt32.toUInt16.toUInt32.toInt32)) >>> ((0 : Int32) &&& 31)).toInt8.toInt32)) (nar .byte (((nar .char ((p3 &&& (65535 : Int32)).toUInt32.toUInt16.toUInt32.toInt32)) >>> ((8 : Int32) &&& 31)).toInt8.toInt32)) (nar .byte (((nar .char ((p4 &&& (65535 : Int32)).toUInt32.toUInt16.toUInt32.toInt32)) >>> ((0 : Int32) &&& 31)).toInt8.toInt32)) (nar .byte (((nar .char ((p4 &&& (65535 : Int32)).toUInt32.toUInt16.toUInt32.toInt32)) >>> ((8 : Int32) &&& 31)).toInt8.toInt32)) cs0 fo h2414 n0 zs2415 od2415 ⟨SCS, hcs⟩ SIO hfo Eu2414 U2414_0 U2414_1 U2414_2 U2414_3 (Ex2403.ext E2414) (Fc.ext E2414) (Fv2403.ext E2414) (hV.ext E2414)) d0_58 [] [] own_pd30 0 (by decide) (fun v2418 T2418 L2418 h2418 e2418' X2418 hQ2418 => ?_)
   obtain ⟨x2418, t2418, k2418, rfl, N2418q, E2418, lo2418, lt2418, Ex2418, Fc2418, Fv2418, V2418⟩ := hQ2418
   have N2418 := Fr.app N2417 N2418q
   have zs2419 := Nat.le_trans zs2415 E2418.1
   have hk2419 := Nat.le_trans hk2415 E2418.1
   have od2419 := od2415.ext E2418
   refine own_nv (own_al X2418 q d0_61 rfl rfl ?_)
   refine own_cV X2418 q hZ e2418' hown hml (W 51 rfl) (W 52 rfl) (W 54 rfl) (W 53 rfl) (W 8 rfl) (W 55 rfl) rfl Ex2418 (rm8_U4 l Z a0 hw x2418 x2403 t2418 t2403 k2418 k2403 (nar .byte (((nar .char ((p1 &&& (65535 : Int32)).toUInt32.toUInt16.toUInt32.toInt32)) >>> ((0 : Int32) &&& 31)).toInt8.toInt32)) (nar .byte (((nar .char ((p1 &&& (65535 : Int32)).toUInt32.toUInt16.toUInt32.toInt32)) >>> ((8 : Int32) &&& 31)).toInt8.toInt32)) (nar .byte (((nar .char ((p2 &&& (65535 : Int32)).toUInt32.toUInt16.toUInt32.toInt32)) >>> ((0 : Int32) &&& 31)).toInt8.toInt32)) (nar .byte (((nar .char ((p2 &&& (65535 : Int32)).toUInt32.toUInt16.toUInt32.toInt32)) >>> ((8 : Int32) &&& 31)).toInt8.toInt32)) (nar .byte (((nar .char ((p3 &&& (65535 : Int32)).toUInt32.toUInt16.toUInt32.toInt32)) >>> ((0 : Int32) &&& 31)).toInt8.toInt32)) (nar .byte (((nar .char ((p3 &&& (65535 : Int32)).toUInt32.toUInt16.toUInt32.toInt32)) >>> ((8 : Int32) &&& 31)).toInt8.toInt32)) (nar .byte (((nar .char ((p4 &&& (65535 : Int32)).toUInt32.toUInt16.toUInt32.toInt32)) >>> ((0 : Int32) &&& 31)).toInt8.toInt32)) (nar .byte (((nar .char ((p4 &&& (65535 : Int32)).toUInt32.toUInt16.toUInt32.toInt32)) >>> ((8 : Int32) &&& 31)).toInt8.toInt32)) cs0 h2418 n0 zs2419 od2419 ⟨SCS, hcs⟩ Ex2418 Fc2418 Fv2418 V2418 ((Ex2403.ext E2414).ext E2418) ((Fc.ext E2414).ext E2418) ((Fv2403.ext E2414).ext E2418) ((hV.ext E2414).ext E2418) (Ne.symm (own_ne ((Ex2403.ext E2414)).lt lo2418))) d0_63 [(.ref x2403)] [] own_pd35 0 (by decide) (fun v2420 T2420 L2420 X2420 hQ2420 => ?_)
   obtain ⟨rfl, N2420q, e2420⟩ := hQ2420
   have N2420 := Fr.app N2418 N2420q
   refine own_nv (own_zn X2420 q d0_66 (((if0 _ _).trans (feq ((by decide) : ¬ ((1 : Int32) = (0 : Int32)))).1)) (own_al X2420 q d0_69 rfl rfl ?_))
   refine own_cV X2420 q hZ e2420 hown hml (W 177 rfl) (W 178 rfl) (W 180 rfl) (W 179 rfl) (W 30 rfl) (W 181 rfl) rfl (Eu2414.ext E2418) (rm32 l Z a0 hw u2414 x2403 h2418 n0 zs2419 (U2414_2.ext E2418) (U2414_3.ext E2418)) d0_71 [] [] own_pd30 0 (by decide) (fun v2421 T2421 L2421 X2421 hQ2421 => ?_)
   obtain ⟨rfl, N2421q, e2421⟩ := hQ2421
   have N2421 := Fr.app N2420 N2421q
   refine own_nv (own_al X2421 q d0_74 rfl rfl ?_)
   refine own_cV X2421 q hZ e2421 hown hml (W 51 rfl) (W 52 rfl) (W 54 rfl) (W 53 rfl) (W 8 rfl) (W 55 rfl) rfl ((Ex2403.ext E2414).ext E2418) (rm8_same l Z a0 hw x2403 x2403 h2418 n0 zs2419 rfl) d0_76 [(.ref x2403)] [] own_pd35 0 (by decide) (fun v2422 T2422 L2422 X2422 hQ2422 => ?_)
   obtain ⟨rfl, N2422q, e2422⟩ := hQ2422
   have N2422 := Fr.app N2421 N2422q
   refine own_nv (own_zn X2422 q d0_79 (((if0 _ _).trans (feq ((by decide) : ¬ ((1 : Int32) = (0 : Int32)))).1)) (own_k X2422 q d0_82 (own_gt X2422 q d0_83 ?_)))
   refine own_retNW X2422 hS0 (by rw [e2422]; exact hk2419) hx (t := .boolean) Bd.returns (by simp) (q.d d0_87) hlk ?_ (by decide) (by decide)
   exact ⟨rfl, N2422⟩
set_option maxRecDepth 65536 in
set_option maxHeartbeats 40000000 in
theorem comes_1 {Post : Tables → Env → Array Value → State → Outcome → State → Prop} (hpost : ∀ tb e args s v u, (limb_1_1.after args s (.returned v) u = true ∧ limb_1_2.after args s (.returned v) u = true ∧ True) → ReturnedEndW s (.returned v) u (Jvm.fieldLocs frame_1_writes args s ++ Jvm.arrayLocs frame_1_arrays args s ++ Jvm.staticLocs frame_1_statics s) 32 1280 → Post tb e args s (.returned v) u) :
  ArmFor flags0 classFile x code maxLocals ret World_1 tables_1 room_1 Calls_1 rest_1 Pre_1 Post := by
 intro l hfl _ _ p e ha hc hk s m args below hf hA hF happ hP
 obtain ⟨hcalls, hrest, hpre⟩ := hP
 obtain ⟨-, -, -, hnamed, -, -, -, hat⟩ := (Spec.applies_iff hf).mp happ
 obtain ⟨hg, hn⟩ := and_e (Cond.before_iff.mp (show (Jvm.Cond.and given_1 narrow_1).before args s = true from hpre))
 obtain ⟨g0, hg⟩ := and_e hg
 obtain ⟨g1, hg⟩ := and_e hg
 obtain ⟨g2, hg⟩ := and_e hg
 obtain ⟨g3, hg⟩ := and_e hg
 obtain ⟨g4, g5⟩ := and_e hg
 obtain ⟨w0, w1, w2, w3, w4, rfl⟩ : ∃ w0 w1 w2 w3 w4 : Value, args = #[w0, w1, w2, w3, w4] := by
  have hs : args.size = 5 := by simpa [Cond.value, given_1] using g0
  obtain ⟨L⟩ := args
  match L, hs with
  | [w0, w1, w2, w3, w4], _ => exact ⟨w0, w1, w2, w3, w4, rfl⟩
 have hw := fun d (hd : d ∈ tables_1) => atoms_spec (ws := Jvm.Cond.code x code maxLocals ret :: tables_1) hat d (List.mem_cons_of_mem _ hd)
 have hfit : Fit s := fun {y c} hc i hi => by
  obtain ⟨ha, rfl⟩ := Array.getElem?_eq_some_iff.mp hc
  have q := List.all_eq_true.mp ((Array.all_eq_true_iff_forall_mem.mp hF) _ (Array.getElem_mem ha)) i (List.mem_range.mpr hi)
  simpa [Array.getElem?_eq_getElem hi] using q
 have W := @own_w _ _ hw
 obtain ⟨i0, ei0⟩ := is_v g1
 obtain rfl : w0 = (.int i0) := Option.some.inj ei0
 obtain ⟨i1, ei1⟩ := is_v g2
 obtain rfl : w1 = (.int i1) := Option.some.inj ei1
 obtain ⟨i2, ei2⟩ := is_v g3
 obtain rfl : w2 = (.int i2) := Option.some.inj ei2
 obtain ⟨i3, ei3⟩ := is_v g4
 obtain rfl : w3 = (.int i3) := Option.some.inj ei3
 obtain ⟨i4, ei4⟩ := is_v g5
 obtain rfl : w4 = (.int i4) := Option.some.inj ei4
 obtain ⟨hsets, hown0⟩ := atoms_of _ (rest_1_c_eq ▸ (show rest_1_c.before _ s = true from hrest))
 obtain ⟨cs0, ecs⟩ := is_v (Cond.before_iff.mp (hsets _ (List.mem_of_getElem? (i := 1) rfl)))
 have SCS : Sta s s.heap "java/lang/String" "COMPACT_STRINGS" "Z" (.int cs0) := Sta.start ecs (Or.inl (hsets _ (List.mem_of_getElem? (i := 0) rfl)))
 have hcs : ¬ cs0 = 0 := gotF (Cond.eq_ints ecs (Term.int_eval (0))) (not_v (Cond.before_iff.mp (hsets _ (List.mem_of_getElem? (i := 2) rfl))))
 have eSAD := Cond.eq_int (beq_iff_eq.mpr (Cond.before_iff.mp (hsets _ (List.mem_of_getElem? (i := 12) rfl)))) (Term.int_eval (1))
 have SAD : Sta s s.heap "java/lang/StringUTF16" "$assertionsDisabled" "Z" v'1 := Sta.start eSAD (Or.inl (hsets _ (List.mem_of_getElem? (i := 11) rfl)))
 have eSHI := Cond.eq_int (beq_iff_eq.mpr (Cond.before_iff.mp (hsets _ (List.mem_of_getElem? (i := 15) rfl)))) (Term.int_eval (0))
 have SHI : Sta s s.heap "java/lang/StringUTF16" "HI_BYTE_SHIFT" "I" v'0 := Sta.start eSHI (Or.inl (hsets _ (List.mem_of_getElem? (i := 14) rfl)))
 have eSLO := Cond.eq_int (beq_iff_eq.mpr (Cond.before_iff.mp (hsets _ (List.mem_of_getElem? (i := 18) rfl)))) (Term.int_eval (8))
 have SLO : Sta s s.heap "java/lang/StringUTF16" "LO_BYTE_SHIFT" "I" v'8 := Sta.start eSLO (Or.inl (hsets _ (List.mem_of_getElem? (i := 17) rfl)))
 obtain ⟨fo, efo, hfo⟩ := isR_v (Cond.before_iff.mp (hsets _ (List.mem_of_getElem? (i := 8) rfl)))
 have SIO : Sta s s.heap "jdk/internal/util/Preconditions" "SIOOBE_FORMATTER" "Ljava/util/function/BiFunction;" fo := Sta.start efo (Or.inl (hsets _ (List.mem_of_getElem? (i := 7) rfl)))
 obtain ⟨n, o, h1, h2, h3, _, L, rfl, ⟨rfl, N⟩, hq⟩ := rm0 l s _ hw tables_1 i0 i1 i2 i3 i4 cs0 fo s.heap s.heap.size (Nat.le_refl _) (Old.start s) ⟨SCS, hcs⟩ SIO hfo ⟨SAD, SHI, SLO⟩ (EW.cons (W 20 rfl) (by simp) EW.nil) p e ha hc hk s m _ below hf ((Spec.applies_iff_loose hf).mp happ).1 ⟨rfl, State.Warmed39.refl s, rfl, CHv.start (EW.cons (W 20 rfl) (by simp) EW.nil) (fun p hp => hcalls.1 p hp) (hsets _ (List.mem_of_getElem? (i := 2) rfl)) (W 21 rfl) (W 7 rfl)⟩ trivial
 refine ⟨n, _, h1, h2, h3, hpost _ _ _ _ _ _ ⟨Cond.after_iff.mpr rfl, Cond.after_iff.mpr (eq_i res_at (Term.int_eval (1)) rfl), trivial⟩ ⟨hq.1, hq.2.1, hq.2.2.1, (hq.2.2.2.sift fun y hy => Or.inr (N y hy)).mono (by decide) (by decide)⟩⟩
theorem main_1_1 : Claimed_1_1 := comes_1 fun _ _ _ _ _ _ h hF => ⟨h.1, hF⟩
theorem main_1_2 : Claimed_1_2 := comes_1 fun _ _ _ _ _ _ h hF => ⟨h.2.1, hF⟩
end Jvm.Pilot.@@N@@
namespace Jvm.Pilot.@@N@@
open Jvm Jvm.ClassFile Sem Op Lib Jvm.Free Jvm.Stand Jvm.Pilot.@@N@@.Jvm.D
/-! MADE BY PROGRAM (witnessworld.py) out of the Statement's table words and the real class files: 26 classes; the members and pool entries that the words name. The judged class is class 1, her method 2. -/
namespace start1
open Jvm.ClassFile
def u (s : String) : CpInfo := .utf8 (stringToUtf16 s)
/-- a pool by its gaps: so many unusable entries, then the entry; so many at the end -/
def gap : Nat → List CpInfo → List CpInfo
  | 0, r => r
  | n + 1, r => .unusable :: gap n r
def poolList (es : List (Nat × CpInfo)) (last : Nat) : List CpInfo := es.foldr (fun e r => gap e.1 (e.2 :: r)) (gap last [])
def pool (es : List (Nat × CpInfo)) (last : Nat) : Array CpInfo := ⟨poolList es last⟩
def fileOf (pool : Array CpInfo) (this : Nat) (attrs : Array Attribute := #[]) (ms : Array MethodInfo := #[]) (fl : Nat := 33) (sup : Nat := 0) (ifs : Array Nat := #[]) (fds : Array FieldInfo := #[]) : ClassFile where
  minorVersion := 0
  majorVersion := 65
  constantPool := pool
  accessFlags := fl
  thisClass := this
  superClass := sup
  interfaces := ifs
  fields := fds
  methods := ms
  attributes := attrs
def plain (name : String) (sup : Option ClassId) : Class where
  name := name
  kind := .ordinary
  loader := none
  accessFlags := 33
  super := sup
  interfaces := #[]
  cf := none
  fields := #[]
  methods := #[]
  instanceTypes := #[]
  staticTypes := #[]
  resolved := #[]
  callSites := []
  init := .initialized
  statics := none
  mirror := none

def pool0 : Array CpInfo := pool [(5, u "<init>"), (0, u "()V"), (1, .class_ 10), (1, u "java/lang/Object")] 113

def k0c0 : Code := { maxStack := 0, maxLocals := 1, code := object_method_1_code, exceptionTable := #[], attributes := #[] }
def k0m0 : Method := { name := "<init>", desc := "()V", sig := { parameters := [], returnType := none }, accessFlags := 1, code := some k0c0 }
/-- java/lang/Object -/
def k0 : Class := { plain "java/lang/Object" none with
  accessFlags := 33
  interfaces := #[]
  cf := some (fileOf pool0 8 #[] #[{ accessFlags := 1, nameIndex := 5, descriptorIndex := 6, attributes := #[] }] 33 0 #[] #[])
  fields := #[]
  methods := #[k0m0]
  instanceTypes := #[]
  staticTypes := #[]
  resolved := Array.replicate 124 none
  statics := none }

def pool1 : Array CpInfo := pool [(2, .class_ 4), (1, u "java/lang/Object"), (0, u "<init>"), (0, u "()V"), (0, .class_ 8), (0, u "java/lang/String"), (0, .methodref 7 10), (0, .nameAndType 5 11), (0, u "([C)V"), (0, .integer 2147483647), (0, .integer 65535), (0, .methodref 15 16), (0, .class_ 17), (0, .nameAndType 18 19), (0, u "com/example/wolf_spider/wolfspider/UrlOfPathPinLaw"), (0, u "make"), (0, u "(ICCCC)Ljava/lang/String;"), (0, .methodref 21 22), (0, .class_ 23), (0, .nameAndType 24 25), (0, u "com/example/wolf_spider/wolfspider/Url"), (0, u "ofPath"), (0, u "(Ljava/lang/String;)Lcom/example/wolf_spider/wolfspider/Url;"), (0, .methodref 21 27), (0, .nameAndType 28 29), (0, u "path"), (0, u "()Ljava/lang/String;"), (0, .methodref 7 31), (0, .nameAndType 32 33), (0, u "equals"), (0, u "(Ljava/lang/Object;)Z"), (0, .methodref 21 35), (0, .nameAndType 36 29), (0, u "toString"), (0, .methodref 21 38), (0, .nameAndType 39 29), (0, u "pathAndQuery"), (3, u "law"), (0, u "(IIIII)Z")] 2

def k1m0 : Method := { name := "<init>", desc := "()V", sig := { parameters := [], returnType := none }, accessFlags := 2, code := none }
def k1c1 : Code := { maxStack := 6, maxLocals := 5, code := method_2_code, exceptionTable := #[], attributes := #[] }
def k1m1 : Method := { name := "make", desc := "(ICCCC)Ljava/lang/String;", sig := { parameters := [.int, .char, .char, .char, .char], returnType := some (.object "java/lang/String") }, accessFlags := 10, code := some k1c1 }
def k1c2 : Code := { maxStack := 6, maxLocals := 8, code := code, exceptionTable := #[], attributes := #[] }
def k1m2 : Method := { name := "law", desc := "(IIIII)Z", sig := { parameters := [.int, .int, .int, .int, .int], returnType := some .boolean }, accessFlags := 9, code := some k1c2 }
/-- com/example/wolf_spider/wolfspider/UrlOfPathPinLaw -/
def k1 : Class := { plain "com/example/wolf_spider/wolfspider/UrlOfPathPinLaw" (some 0) with
  accessFlags := 49
  interfaces := #[]
  cf := some (fileOf pool1 15 #[] #[{ accessFlags := 2, nameIndex := 5, descriptorIndex := 6, attributes := #[] }, { accessFlags := 10, nameIndex := 18, descriptorIndex := 19, attributes := #[] }, { accessFlags := 9, nameIndex := 43, descriptorIndex := 44, attributes := #[] }] 49 2 #[] #[])
  fields := #[]
  methods := #[k1m0, k1m1, k1m2]
  instanceTypes := #[]
  staticTypes := #[]
  resolved := Array.replicate 47 none
  statics := none }

def pool2 : Array CpInfo := pool [(1, .class_ 2), (0, u "java/io/Serializable"), (0, .class_ 4), (0, u "java/lang/Object")] 2

/-- java/io/Serializable -/
def k2 : Class := { plain "java/io/Serializable" (some 0) with
  accessFlags := 1537
  interfaces := #[]
  cf := some (fileOf pool2 1 #[] #[] 1537 3 #[] #[])
  fields := #[]
  methods := #[]
  instanceTypes := #[]
  staticTypes := #[]
  resolved := Array.replicate 7 none
  statics := none }

def pool3 : Array CpInfo := pool [(1, .class_ 2), (0, u "java/lang/Comparable"), (0, .class_ 4), (0, u "java/lang/Object")] 7

/-- java/lang/Comparable -/
def k3 : Class := { plain "java/lang/Comparable" (some 0) with
  accessFlags := 1537
  interfaces := #[]
  cf := some (fileOf pool3 1 #[] #[] 1537 3 #[] #[])
  fields := #[]
  methods := #[]
  instanceTypes := #[]
  staticTypes := #[]
  resolved := Array.replicate 12 none
  statics := none }

def pool4 : Array CpInfo := pool [(2, .class_ 4), (1, u "java/lang/CharSequence"), (42, .class_ 48), (0, u "java/lang/CharSequence$1CodePointIterator"), (10, .class_ 60), (0, u "java/lang/CharSequence$1CharIterator"), (5, .class_ 67), (0, u "java/lang/Object")] 63

/-- java/lang/CharSequence -/
def k4 : Class := { plain "java/lang/CharSequence" (some 0) with
  accessFlags := 1537
  interfaces := #[]
  cf := some (fileOf pool4 2 #[.nestMembers #[47, 59]] #[] 1537 66 #[] #[])
  fields := #[]
  methods := #[]
  instanceTypes := #[]
  staticTypes := #[]
  resolved := Array.replicate 131 none
  statics := none }

def pool5 : Array CpInfo := pool [(1, .class_ 2), (0, u "java/lang/constant/Constable"), (0, .class_ 4), (0, u "java/lang/Object")] 6

/-- java/lang/constant/Constable -/
def k5 : Class := { plain "java/lang/constant/Constable" (some 0) with
  accessFlags := 1537
  interfaces := #[]
  cf := some (fileOf pool5 1 #[] #[] 1537 3 #[] #[])
  fields := #[]
  methods := #[]
  instanceTypes := #[]
  staticTypes := #[]
  resolved := Array.replicate 11 none
  statics := none }

def pool6 : Array CpInfo := pool [(1, .class_ 2), (0, u "java/lang/constant/ConstantDesc"), (0, .class_ 4), (0, u "java/lang/Object")] 32

/-- java/lang/constant/ConstantDesc -/
def k6 : Class := { plain "java/lang/constant/ConstantDesc" (some 0) with
  accessFlags := 1537
  interfaces := #[]
  cf := some (fileOf pool6 1 #[] #[] 1537 3 #[] #[])
  fields := #[]
  methods := #[]
  instanceTypes := #[]
  staticTypes := #[]
  resolved := Array.replicate 37 none
  statics := none }

def pool7 : Array CpInfo := pool [(1, .methodref 2 3), (0, .class_ 4), (0, .nameAndType 5 6), (0, u "java/lang/Object"), (0, u "<init>"), (0, u "()V"), (0, .string 8), (0, u ""), (0, .fieldref 10 11), (0, .class_ 12), (0, .nameAndType 13 14), (0, u "java/lang/String"), (0, u "value"), (0, u "[B"), (0, .fieldref 10 16), (0, .nameAndType 17 18), (0, u "coder"), (0, u "B"), (2, u "hash"), (0, u "I"), (2, u "hashIsZero"), (0, u "Z"), (0, .methodref 10 28), (0, .nameAndType 5 29), (0, u "([CIILjava/lang/Void;)V"), (6, u "checkBoundsOffCount"), (0, u "(III)I"), (0, .fieldref 10 39), (0, .nameAndType 40 26), (0, u "COMPACT_STRINGS"), (1, .class_ 44), (1, u "java/lang/StringUTF16"), (0, u "compress"), (1, .methodref 42 48), (0, .nameAndType 49 50), (0, u "coderFromArrayLen"), (0, u "([BI)B"), (3, .methodref 55 56), (0, .class_ 57), (0, .nameAndType 58 59), (0, u "java/util/Arrays"), (0, u "copyOfRange"), (0, u "([BII)[B"), (47, .class_ 109), (1, u "java/lang/StringLatin1"), (32, u "()Z"), (34, .methodref 42 178), (0, .nameAndType 45 179), (0, u "([CII)[B"), (13, .class_ 195), (1, u "java/lang/System"), (16, .methodref 193 213), (0, .nameAndType 214 215), (0, u "arraycopy"), (0, u "(Ljava/lang/Object;ILjava/lang/Object;II)V"), (118, u "()I"), (0, .methodref 10 336), (0, .nameAndType 17 337), (0, u "()B"), (2, u "()[B"), (148, .methodref 10 490), (0, .nameAndType 5 491), (0, u "(Ljava/lang/AbstractStringBuilder;Ljava/lang/Void;)V"), (1, .nameAndType 494 142), (0, u "isLatin1"), (11, .nameAndType 507 334), (0, u "length"), (24, u "getBytes"), (8, .methodref 107 542), (0, .nameAndType 543 544), (0, u "equals"), (0, u "([B[B)Z"), (4, .methodref 550 506), (0, .class_ 551), (0, u "java/lang/AbstractStringBuilder"), (0, .methodref 550 553), (0, .nameAndType 554 340), (0, u "getValue"), (18, u "(Ljava/lang/Object;)Z"), (1, .class_ 576), (0, u "java/lang/CharSequence"), (22, u "CASE_INSENSITIVE_ORDER"), (0, u "Ljava/util/Comparator;"), (220, u "([BIB)V"), (188, u "([C)V"), (36, .methodref 550 493), (0, .fieldref 550 1049), (0, .nameAndType 1050 26), (0, u "maybeLatin1"), (2, .fieldref 1054 1055), (0, .class_ 1056), (0, .nameAndType 1057 1058), (0, u "jdk/internal/util/Preconditions"), (0, u "SIOOBE_FORMATTER"), (0, u "Ljava/util/function/BiFunction;"), (5, u "(IIILjava/util/function/BiFunction;)I"), (0, .methodref 1054 1066), (0, .nameAndType 1067 1064), (0, u "checkFromIndexSize"), (33, u "serialPersistentFields"), (0, u "[Ljava/io/ObjectStreamField;"), (0, .class_ 1104), (0, u "java/lang/String$CaseInsensitiveComparator"), (1, .class_ 1107), (0, u "java/io/Serializable"), (0, .class_ 1109), (0, u "java/lang/Comparable"), (0, .class_ 1111), (0, u "java/lang/constant/Constable"), (0, .class_ 1113), (0, u "java/lang/constant/ConstantDesc"), (2, u "serialVersionUID"), (0, u "J"), (3, u "REPL"), (0, u "C"), (2, u "LATIN1"), (1, u "UTF16"), (105, u "(Ljava/lang/StringBuilder;)V")] 217

def k7m0 : Method := { name := "<init>", desc := "()V", sig := { parameters := [], returnType := none }, accessFlags := 1, code := none }
def k7c1 : Code := { maxStack := 5, maxLocals := 2, code := jdk_42_method_3_code, exceptionTable := #[], attributes := #[] }
def k7m1 : Method := { name := "<init>", desc := "([C)V", sig := { parameters := [(.array .char)], returnType := none }, accessFlags := 1, code := some k7c1 }
def k7c2 : Code := { maxStack := 3, maxLocals := 2, code := jdk_42_method_53_code, exceptionTable := #[], attributes := #[] }
def k7m2 : Method := { name := "<init>", desc := "(Ljava/lang/StringBuilder;)V", sig := { parameters := [(.object "java/lang/StringBuilder")], returnType := none }, accessFlags := 1, code := some k7c2 }
def k7c3 : Code := { maxStack := 2, maxLocals := 1, code := jdk_42_method_54_code, exceptionTable := #[], attributes := #[] }
def k7m3 : Method := { name := "length", desc := "()I", sig := { parameters := [], returnType := some .int }, accessFlags := 1, code := some k7c3 }
def k7c4 : Code := { maxStack := 2, maxLocals := 3, code := jdk_42_method_66_code, exceptionTable := #[], attributes := #[] }
def k7m4 : Method := { name := "equals", desc := "(Ljava/lang/Object;)Z", sig := { parameters := [(.object "java/lang/Object")], returnType := some .boolean }, accessFlags := 1, code := some k7c4 }
def k7c5 : Code := { maxStack := 5, maxLocals := 4, code := jdk_42_method_147_code, exceptionTable := #[], attributes := #[] }
def k7m5 : Method := { name := "getBytes", desc := "([BIB)V", sig := { parameters := [(.array .byte), .int, .byte], returnType := none }, accessFlags := 0, code := some k7c5 }
def k7c6 : Code := { maxStack := 4, maxLocals := 6, code := jdk_42_method_149_code, exceptionTable := #[], attributes := #[] }
def k7m6 : Method := { name := "<init>", desc := "([CIILjava/lang/Void;)V", sig := { parameters := [(.array .char), .int, .int, (.object "java/lang/Void")], returnType := none }, accessFlags := 2, code := some k7c6 }
def k7c7 : Code := { maxStack := 5, maxLocals := 5, code := jdk_42_method_150_code, exceptionTable := #[], attributes := #[] }
def k7m7 : Method := { name := "<init>", desc := "(Ljava/lang/AbstractStringBuilder;Ljava/lang/Void;)V", sig := { parameters := [(.object "java/lang/AbstractStringBuilder"), (.object "java/lang/Void")], returnType := none }, accessFlags := 0, code := some k7c7 }
def k7c8 : Code := { maxStack := 1, maxLocals := 1, code := jdk_42_method_152_code, exceptionTable := #[], attributes := #[] }
def k7m8 : Method := { name := "coder", desc := "()B", sig := { parameters := [], returnType := some .byte }, accessFlags := 0, code := some k7c8 }
def k7c9 : Code := { maxStack := 4, maxLocals := 3, code := jdk_42_method_157_code, exceptionTable := #[], attributes := #[] }
def k7m9 : Method := { name := "checkBoundsOffCount", desc := "(III)I", sig := { parameters := [.int, .int, .int], returnType := some .int }, accessFlags := 8, code := some k7c9 }
/-- java/lang/String -/
def k7 : Class := { plain "java/lang/String" (some 0) with
  accessFlags := 49
  interfaces := #[2, 3, 4, 5, 6]
  cf := some (fileOf pool7 10 #[.nestMembers #[1103]] #[{ accessFlags := 1, nameIndex := 5, descriptorIndex := 6, attributes := #[] }, { accessFlags := 1, nameIndex := 5, descriptorIndex := 1010, attributes := #[] }, { accessFlags := 1, nameIndex := 5, descriptorIndex := 1233, attributes := #[] }, { accessFlags := 1, nameIndex := 507, descriptorIndex := 334, attributes := #[] }, { accessFlags := 1, nameIndex := 543, descriptorIndex := 573, attributes := #[] }, { accessFlags := 0, nameIndex := 532, descriptorIndex := 821, attributes := #[] }, { accessFlags := 2, nameIndex := 5, descriptorIndex := 29, attributes := #[] }, { accessFlags := 0, nameIndex := 5, descriptorIndex := 491, attributes := #[] }, { accessFlags := 0, nameIndex := 17, descriptorIndex := 337, attributes := #[] }, { accessFlags := 8, nameIndex := 36, descriptorIndex := 37, attributes := #[] }] 49 2 #[1106, 1108, 575, 1110, 1112] #[{ accessFlags := 18, nameIndex := 13, descriptorIndex := 14, attributes := #[] }, { accessFlags := 18, nameIndex := 17, descriptorIndex := 18, attributes := #[] }, { accessFlags := 2, nameIndex := 21, descriptorIndex := 22, attributes := #[] }, { accessFlags := 2, nameIndex := 25, descriptorIndex := 26, attributes := #[] }, { accessFlags := 26, nameIndex := 1116, descriptorIndex := 1117, attributes := #[] }, { accessFlags := 24, nameIndex := 40, descriptorIndex := 26, attributes := #[] }, { accessFlags := 26, nameIndex := 1101, descriptorIndex := 1102, attributes := #[] }, { accessFlags := 26, nameIndex := 1121, descriptorIndex := 1122, attributes := #[] }, { accessFlags := 25, nameIndex := 599, descriptorIndex := 600, attributes := #[] }, { accessFlags := 24, nameIndex := 1125, descriptorIndex := 18, attributes := #[] }, { accessFlags := 24, nameIndex := 1127, descriptorIndex := 18, attributes := #[] }])
  fields := #[{ name := "value", type := (.array .byte), accessFlags := 18, slot := 0, constantValue := 0 }, { name := "coder", type := .byte, accessFlags := 18, slot := 1, constantValue := 0 }, { name := "hash", type := .int, accessFlags := 2, slot := 2, constantValue := 0 }, { name := "hashIsZero", type := .boolean, accessFlags := 2, slot := 3, constantValue := 0 }, { name := "serialVersionUID", type := .long, accessFlags := 26, slot := 0, constantValue := 0 }, { name := "COMPACT_STRINGS", type := .boolean, accessFlags := 24, slot := 1, constantValue := 0 }, { name := "serialPersistentFields", type := (.array (.object "java/io/ObjectStreamField")), accessFlags := 26, slot := 2, constantValue := 0 }, { name := "REPL", type := .char, accessFlags := 26, slot := 3, constantValue := 0 }, { name := "CASE_INSENSITIVE_ORDER", type := (.object "java/util/Comparator"), accessFlags := 25, slot := 4, constantValue := 0 }, { name := "LATIN1", type := .byte, accessFlags := 24, slot := 5, constantValue := 0 }, { name := "UTF16", type := .byte, accessFlags := 24, slot := 6, constantValue := 0 }]
  methods := #[k7m0, k7m1, k7m2, k7m3, k7m4, k7m5, k7m6, k7m7, k7m8, k7m9]
  instanceTypes := #[(.array .byte), .byte, .int, .boolean]
  staticTypes := #[.long, .boolean, (.array (.object "java/io/ObjectStreamField")), .char, (.object "java/util/Comparator"), .byte, .byte]
  resolved := Array.replicate 1451 none
  statics := some 0 }

def pool8 : Array CpInfo := pool [(1, .methodref 2 3), (0, .class_ 4), (0, .nameAndType 5 6), (0, u "java/lang/Object"), (0, u "<init>"), (0, u "()V"), (0, .fieldref 8 9), (0, .class_ 10), (0, .nameAndType 11 12), (0, u "com/example/wolf_spider/wolfspider/Url"), (0, u "scheme"), (0, u "Ljava/lang/String;"), (0, .fieldref 8 14), (0, .nameAndType 15 12), (0, u "authority"), (0, .fieldref 8 17), (0, .nameAndType 18 12), (0, u "path"), (0, .fieldref 8 20), (0, .nameAndType 21 12), (0, u "query"), (63, .methodref 8 86), (0, .nameAndType 5 87), (0, u "(Ljava/lang/String;Ljava/lang/String;Ljava/lang/String;Ljava/lang/String;)V"), (17, .class_ 106), (0, u "java/lang/StringBuilder"), (0, .methodref 105 3), (0, .methodref 105 109), (0, .nameAndType 110 111), (0, u "append"), (0, u "(Ljava/lang/String;)Ljava/lang/StringBuilder;"), (3, .methodref 105 116), (0, .nameAndType 117 118), (0, u "toString"), (0, u "()Ljava/lang/String;"), (10, u "DEFAULT_PORTS"), (0, u "Ljava/util/Map;"), (74, u "DOT"), (1, u "DOT_DOT"), (5, u "(Ljava/lang/String;)Lcom/example/wolf_spider/wolfspider/Url;"), (1, u "ofPath"), (4, u "pathAndQuery")] 28

def k8c0 : Code := { maxStack := 2, maxLocals := 5, code := prog_36_method_1_code, exceptionTable := #[], attributes := #[] }
def k8m0 : Method := { name := "<init>", desc := "(Ljava/lang/String;Ljava/lang/String;Ljava/lang/String;Ljava/lang/String;)V", sig := { parameters := [(.object "java/lang/String"), (.object "java/lang/String"), (.object "java/lang/String"), (.object "java/lang/String")], returnType := none }, accessFlags := 2, code := some k8c0 }
def k8c1 : Code := { maxStack := 6, maxLocals := 1, code := prog_36_method_3_code, exceptionTable := #[], attributes := #[] }
def k8m1 : Method := { name := "ofPath", desc := "(Ljava/lang/String;)Lcom/example/wolf_spider/wolfspider/Url;", sig := { parameters := [(.object "java/lang/String")], returnType := some (.object "com/example/wolf_spider/wolfspider/Url") }, accessFlags := 8, code := some k8c1 }
def k8c2 : Code := { maxStack := 1, maxLocals := 1, code := prog_36_method_7_code, exceptionTable := #[], attributes := #[] }
def k8m2 : Method := { name := "path", desc := "()Ljava/lang/String;", sig := { parameters := [], returnType := some (.object "java/lang/String") }, accessFlags := 0, code := some k8c2 }
def k8c3 : Code := { maxStack := 2, maxLocals := 1, code := prog_36_method_8_code, exceptionTable := #[], attributes := #[] }
def k8m3 : Method := { name := "pathAndQuery", desc := "()Ljava/lang/String;", sig := { parameters := [], returnType := some (.object "java/lang/String") }, accessFlags := 0, code := some k8c3 }
def k8c4 : Code := { maxStack := 2, maxLocals := 2, code := prog_36_method_9_code, exceptionTable := #[], attributes := #[] }
def k8m4 : Method := { name := "toString", desc := "()Ljava/lang/String;", sig := { parameters := [], returnType := some (.object "java/lang/String") }, accessFlags := 1, code := some k8c4 }
/-- com/example/wolf_spider/wolfspider/Url -/
def k8 : Class := { plain "com/example/wolf_spider/wolfspider/Url" (some 0) with
  accessFlags := 48
  interfaces := #[]
  cf := some (fileOf pool8 8 #[] #[{ accessFlags := 2, nameIndex := 5, descriptorIndex := 87, attributes := #[] }, { accessFlags := 8, nameIndex := 215, descriptorIndex := 213, attributes := #[] }, { accessFlags := 0, nameIndex := 18, descriptorIndex := 118, attributes := #[] }, { accessFlags := 0, nameIndex := 220, descriptorIndex := 118, attributes := #[] }, { accessFlags := 1, nameIndex := 117, descriptorIndex := 118, attributes := #[] }] 48 2 #[] #[{ accessFlags := 26, nameIndex := 205, descriptorIndex := 12, attributes := #[] }, { accessFlags := 26, nameIndex := 207, descriptorIndex := 12, attributes := #[] }, { accessFlags := 26, nameIndex := 129, descriptorIndex := 130, attributes := #[] }, { accessFlags := 18, nameIndex := 11, descriptorIndex := 12, attributes := #[] }, { accessFlags := 18, nameIndex := 15, descriptorIndex := 12, attributes := #[] }, { accessFlags := 18, nameIndex := 18, descriptorIndex := 12, attributes := #[] }, { accessFlags := 18, nameIndex := 21, descriptorIndex := 12, attributes := #[] }])
  fields := #[{ name := "DOT", type := (.object "java/lang/String"), accessFlags := 26, slot := 0, constantValue := 0 }, { name := "DOT_DOT", type := (.object "java/lang/String"), accessFlags := 26, slot := 1, constantValue := 0 }, { name := "DEFAULT_PORTS", type := (.object "java/util/Map"), accessFlags := 26, slot := 2, constantValue := 0 }, { name := "scheme", type := (.object "java/lang/String"), accessFlags := 18, slot := 0, constantValue := 0 }, { name := "authority", type := (.object "java/lang/String"), accessFlags := 18, slot := 1, constantValue := 0 }, { name := "path", type := (.object "java/lang/String"), accessFlags := 18, slot := 2, constantValue := 0 }, { name := "query", type := (.object "java/lang/String"), accessFlags := 18, slot := 3, constantValue := 0 }]
  methods := #[k8m0, k8m1, k8m2, k8m3, k8m4]
  instanceTypes := #[(.object "java/lang/String"), (.object "java/lang/String"), (.object "java/lang/String"), (.object "java/lang/String")]
  staticTypes := #[(.object "java/lang/String"), (.object "java/lang/String"), (.object "java/util/Map")]
  resolved := Array.replicate 249 none
  statics := none }

def pool9 : Array CpInfo := pool [(1, .class_ 2), (0, u "java/lang/Appendable"), (0, .class_ 4), (0, u "java/lang/Object")] 9

/-- java/lang/Appendable -/
def k9 : Class := { plain "java/lang/Appendable" (some 0) with
  accessFlags := 1537
  interfaces := #[]
  cf := some (fileOf pool9 1 #[] #[] 1537 3 #[] #[])
  fields := #[]
  methods := #[]
  instanceTypes := #[]
  staticTypes := #[]
  resolved := Array.replicate 14 none
  statics := none }

def pool10 : Array CpInfo := pool [(1, .class_ 2), (0, u "java/lang/String"), (0, .methodref 4 5), (0, .class_ 6), (0, .nameAndType 7 8), (0, u "java/lang/Object"), (0, u "<init>"), (0, u "()V"), (1, .class_ 12), (1, u "java/lang/AbstractStringBuilder"), (0, u "EMPTYVALUE"), (0, u "[B"), (0, .fieldref 10 16), (0, .nameAndType 17 14), (0, u "value"), (0, .fieldref 1 19), (0, .nameAndType 20 21), (0, u "COMPACT_STRINGS"), (0, u "Z"), (0, .fieldref 10 23), (0, .nameAndType 24 25), (0, u "coder"), (0, u "B"), (0, .methodref 27 28), (0, .class_ 29), (0, .nameAndType 30 31), (0, u "java/lang/StringUTF16"), (0, u "newBytesFor"), (0, u "(I)[B"), (0, .methodref 1 33), (0, .nameAndType 34 35), (0, u "length"), (0, u "()I"), (4, .methodref 1 41), (0, .nameAndType 24 42), (0, u "()B"), (2, u "append"), (0, u "(Ljava/lang/String;)Ljava/lang/AbstractStringBuilder;"), (1, .class_ 49), (0, u "java/lang/CharSequence"), (19, u "(Ljava/lang/String;)V"), (5, u "maybeLatin1"), (3, .fieldref 10 80), (0, .nameAndType 81 82), (0, u "count"), (0, u "I"), (0, .methodref 10 84), (0, .nameAndType 85 86), (0, u "isLatin1"), (0, u "()Z"), (1, .class_ 90), (1, u "java/lang/StringLatin1"), (9, .methodref 10 101), (0, .nameAndType 102 103), (0, u "ensureCapacityInternal"), (0, u "(I)V"), (21, .methodref 88 126), (0, .nameAndType 127 128), (0, u "inflate"), (0, u "([BI[BII)V"), (66, .methodref 10 196), (0, .nameAndType 127 8), (11, .methodref 10 209), (0, .nameAndType 210 211), (0, u "putStringAt"), (0, u "(ILjava/lang/String;)V"), (5, u "inflateIfNeededFor"), (2, .nameAndType 221 222), (0, u "getBytes"), (0, u "([BIB)V"), (174, .methodref 10 398), (0, .nameAndType 217 69), (0, .methodref 1 220), (3, u "()[B"), (40, .class_ 445), (0, u "java/lang/Appendable"), (106, u "getValue")] 56

def k10m0 : Method := { name := "<init>", desc := "()V", sig := { parameters := [], returnType := none }, accessFlags := 0, code := none }
def k10c1 : Code := { maxStack := 2, maxLocals := 2, code := jdk_68_method_2_code, exceptionTable := #[], attributes := #[] }
def k10m1 : Method := { name := "<init>", desc := "(I)V", sig := { parameters := [.int], returnType := none }, accessFlags := 0, code := some k10c1 }
def k10c2 : Code := { maxStack := 1, maxLocals := 1, code := jdk_68_method_6_code, exceptionTable := #[], attributes := #[] }
def k10m2 : Method := { name := "length", desc := "()I", sig := { parameters := [], returnType := some .int }, accessFlags := 1, code := some k10c2 }
def k10c3 : Code := { maxStack := 4, maxLocals := 3, code := jdk_68_method_9_code, exceptionTable := #[], attributes := #[] }
def k10m3 : Method := { name := "ensureCapacityInternal", desc := "(I)V", sig := { parameters := [.int], returnType := none }, accessFlags := 2, code := some k10c3 }
def k10c4 : Code := { maxStack := 5, maxLocals := 2, code := jdk_68_method_11_code, exceptionTable := #[], attributes := #[] }
def k10m4 : Method := { name := "inflate", desc := "()V", sig := { parameters := [], returnType := none }, accessFlags := 2, code := some k10c4 }
def k10c5 : Code := { maxStack := 3, maxLocals := 3, code := jdk_68_method_22_code, exceptionTable := #[], attributes := #[] }
def k10m5 : Method := { name := "append", desc := "(Ljava/lang/String;)Ljava/lang/AbstractStringBuilder;", sig := { parameters := [(.object "java/lang/String")], returnType := some (.object "java/lang/AbstractStringBuilder") }, accessFlags := 1, code := some k10c5 }
def k10c6 : Code := { maxStack := 1, maxLocals := 1, code := jdk_68_method_64_code, exceptionTable := #[], attributes := #[] }
def k10m6 : Method := { name := "getValue", desc := "()[B", sig := { parameters := [], returnType := some (.array .byte) }, accessFlags := 16, code := some k10c6 }
def k10c7 : Code := { maxStack := 1, maxLocals := 1, code := jdk_68_method_68_code, exceptionTable := #[], attributes := #[] }
def k10m7 : Method := { name := "isLatin1", desc := "()Z", sig := { parameters := [], returnType := some .boolean }, accessFlags := 16, code := some k10c7 }
def k10c8 : Code := { maxStack := 2, maxLocals := 2, code := jdk_68_method_71_code, exceptionTable := #[], attributes := #[] }
def k10m8 : Method := { name := "inflateIfNeededFor", desc := "(Ljava/lang/String;)V", sig := { parameters := [(.object "java/lang/String")], returnType := none }, accessFlags := 2, code := some k10c8 }
def k10c9 : Code := { maxStack := 4, maxLocals := 3, code := jdk_68_method_73_code, exceptionTable := #[], attributes := #[] }
def k10m9 : Method := { name := "putStringAt", desc := "(ILjava/lang/String;)V", sig := { parameters := [.int, (.object "java/lang/String")], returnType := none }, accessFlags := 2, code := some k10c9 }
/-- java/lang/AbstractStringBuilder -/
def k10 : Class := { plain "java/lang/AbstractStringBuilder" (some 0) with
  accessFlags := 1056
  interfaces := #[9, 4]
  cf := some (fileOf pool10 10 #[] #[{ accessFlags := 0, nameIndex := 7, descriptorIndex := 8, attributes := #[] }, { accessFlags := 0, nameIndex := 7, descriptorIndex := 103, attributes := #[] }, { accessFlags := 1, nameIndex := 34, descriptorIndex := 35, attributes := #[] }, { accessFlags := 2, nameIndex := 102, descriptorIndex := 103, attributes := #[] }, { accessFlags := 2, nameIndex := 127, descriptorIndex := 8, attributes := #[] }, { accessFlags := 1, nameIndex := 45, descriptorIndex := 46, attributes := #[] }, { accessFlags := 16, nameIndex := 552, descriptorIndex := 403, attributes := #[] }, { accessFlags := 16, nameIndex := 85, descriptorIndex := 86, attributes := #[] }, { accessFlags := 2, nameIndex := 217, descriptorIndex := 69, attributes := #[] }, { accessFlags := 2, nameIndex := 210, descriptorIndex := 211, attributes := #[] }] 1056 4 #[444, 48] #[{ accessFlags := 0, nameIndex := 17, descriptorIndex := 14, attributes := #[] }, { accessFlags := 0, nameIndex := 24, descriptorIndex := 25, attributes := #[] }, { accessFlags := 0, nameIndex := 75, descriptorIndex := 21, attributes := #[] }, { accessFlags := 0, nameIndex := 81, descriptorIndex := 82, attributes := #[] }, { accessFlags := 26, nameIndex := 13, descriptorIndex := 14, attributes := #[] }])
  fields := #[{ name := "value", type := (.array .byte), accessFlags := 0, slot := 0, constantValue := 0 }, { name := "coder", type := .byte, accessFlags := 0, slot := 1, constantValue := 0 }, { name := "maybeLatin1", type := .boolean, accessFlags := 0, slot := 2, constantValue := 0 }, { name := "count", type := .int, accessFlags := 0, slot := 3, constantValue := 0 }, { name := "EMPTYVALUE", type := (.array .byte), accessFlags := 26, slot := 0, constantValue := 0 }]
  methods := #[k10m0, k10m1, k10m2, k10m3, k10m4, k10m5, k10m6, k10m7, k10m8, k10m9]
  instanceTypes := #[(.array .byte), .byte, .boolean, .int]
  staticTypes := #[(.array .byte)]
  resolved := Array.replicate 609 none
  statics := none }

def pool11 : Array CpInfo := pool [(1, .methodref 2 3), (0, .class_ 4), (0, .nameAndType 5 6), (0, u "java/lang/AbstractStringBuilder"), (0, u "<init>"), (0, u "(I)V"), (11, .class_ 20), (1, u "java/lang/String"), (3, .class_ 26), (1, u "java/lang/StringBuilder"), (0, u "append"), (0, u "(Ljava/lang/String;)Ljava/lang/StringBuilder;"), (0, .methodref 2 30), (0, .nameAndType 27 31), (0, u "(Ljava/lang/String;)Ljava/lang/AbstractStringBuilder;"), (105, .methodref 18 138), (0, .nameAndType 5 139), (0, u "(Ljava/lang/StringBuilder;)V"), (5, u "()V"), (10, u "()I"), (186, .methodref 2 344), (0, .nameAndType 345 156), (0, u "length"), (3, .class_ 350), (0, u "java/lang/Appendable"), (0, .class_ 352), (0, u "java/io/Serializable"), (0, .class_ 354), (0, u "java/lang/Comparable"), (0, .class_ 356), (0, u "java/lang/CharSequence"), (0, u "serialVersionUID"), (0, u "J"), (40, u "toString"), (0, u "()Ljava/lang/String;")] 21

def k11c0 : Code := { maxStack := 2, maxLocals := 1, code := jdk_67_method_1_code, exceptionTable := #[], attributes := #[] }
def k11m0 : Method := { name := "<init>", desc := "()V", sig := { parameters := [], returnType := none }, accessFlags := 1, code := some k11c0 }
def k11c1 : Code := { maxStack := 2, maxLocals := 2, code := jdk_67_method_7_code, exceptionTable := #[], attributes := #[] }
def k11m1 : Method := { name := "append", desc := "(Ljava/lang/String;)Ljava/lang/StringBuilder;", sig := { parameters := [(.object "java/lang/String")], returnType := some (.object "java/lang/StringBuilder") }, accessFlags := 1, code := some k11c1 }
def k11c2 : Code := { maxStack := 3, maxLocals := 1, code := jdk_67_method_42_code, exceptionTable := #[], attributes := #[] }
def k11m2 : Method := { name := "toString", desc := "()Ljava/lang/String;", sig := { parameters := [], returnType := some (.object "java/lang/String") }, accessFlags := 1, code := some k11c2 }
def k11c3 : Code := { maxStack := 1, maxLocals := 1, code := jdk_67_method_93_code, exceptionTable := #[], attributes := #[] }
def k11m3 : Method := { name := "length", desc := "()I", sig := { parameters := [], returnType := some .int }, accessFlags := 4161, code := some k11c3 }
/-- java/lang/StringBuilder -/
def k11 : Class := { plain "java/lang/StringBuilder" (some 10) with
  accessFlags := 49
  interfaces := #[9, 2, 3, 4]
  cf := some (fileOf pool11 24 #[] #[{ accessFlags := 1, nameIndex := 5, descriptorIndex := 145, attributes := #[] }, { accessFlags := 1, nameIndex := 27, descriptorIndex := 28, attributes := #[] }, { accessFlags := 1, nameIndex := 399, descriptorIndex := 400, attributes := #[] }, { accessFlags := 4161, nameIndex := 345, descriptorIndex := 156, attributes := #[] }] 49 2 #[349, 351, 353, 355] #[{ accessFlags := 24, nameIndex := 357, descriptorIndex := 358, attributes := #[] }])
  fields := #[{ name := "serialVersionUID", type := .long, accessFlags := 24, slot := 0, constantValue := 0 }]
  methods := #[k11m0, k11m1, k11m2, k11m3]
  instanceTypes := #[(.array .byte), .byte, .boolean, .int]
  staticTypes := #[.long]
  resolved := Array.replicate 422 none
  statics := none }

def pool12 : Array CpInfo := pool [(2, .class_ 4), (1, u "java/lang/Object"), (0, u "<init>"), (0, u "()V"), (1, .class_ 10), (1, u "java/lang/System"), (0, u "allowSecurityManager"), (0, u "I"), (16, u "cons"), (0, u "Ljava/io/Console;"), (77, .class_ 110), (1, u "java/lang/System$CallersHolder"), (43, u "initialErrStream"), (0, u "Ljava/io/PrintStream;"), (19, u "security"), (0, u "Ljava/lang/SecurityManager;"), (31, .class_ 209), (0, u "java/lang/System$1"), (7, u "props"), (0, u "Ljava/util/Properties;"), (2, u "lineSeparator"), (0, u "Ljava/lang/String;"), (96, .class_ 321), (1, u "java/lang/System$LoggerFinder"), (5, .class_ 328), (0, u "java/lang/System$Logger"), (67, u "err"), (2, u "out"), (91, u "notSupportedJnuEncoding"), (15, u "in"), (17, u "initialIn"), (0, u "Ljava/io/InputStream;"), (35, u "bootLayer"), (0, u "Ljava/lang/ModuleLayer;"), (99, .class_ 664), (0, u "java/lang/System$2"), (9, u "NEVER"), (2, u "MAYBE"), (49, u "arraycopy"), (0, u "(Ljava/lang/Object;ILjava/lang/Object;II)V"), (72, .class_ 802), (0, u "java/lang/System$Logger$Level")] 31

def k12m0 : Method := { name := "<init>", desc := "()V", sig := { parameters := [], returnType := none }, accessFlags := 2, code := none }
def k12m1 : Method := { name := "arraycopy", desc := "(Ljava/lang/Object;ILjava/lang/Object;II)V", sig := { parameters := [(.object "java/lang/Object"), .int, (.object "java/lang/Object"), .int, .int], returnType := none }, accessFlags := 265, code := none }
/-- java/lang/System -/
def k12 : Class := { plain "java/lang/System" (some 0) with
  accessFlags := 49
  interfaces := #[]
  cf := some (fileOf pool12 8 #[.nestMembers #[319, 327, 801, 108, 663, 208]] #[{ accessFlags := 2, nameIndex := 5, descriptorIndex := 6, attributes := #[] }, { accessFlags := 265, nameIndex := 727, descriptorIndex := 728, attributes := #[] }] 49 2 #[] #[{ accessFlags := 25, nameIndex := 507, descriptorIndex := 526, attributes := #[] }, { accessFlags := 25, nameIndex := 399, descriptorIndex := 155, attributes := #[] }, { accessFlags := 25, nameIndex := 396, descriptorIndex := 155, attributes := #[] }, { accessFlags := 10, nameIndex := 525, descriptorIndex := 526, attributes := #[] }, { accessFlags := 26, nameIndex := 674, descriptorIndex := 12, attributes := #[] }, { accessFlags := 26, nameIndex := 677, descriptorIndex := 12, attributes := #[] }, { accessFlags := 10, nameIndex := 11, descriptorIndex := 12, attributes := #[] }, { accessFlags := 74, nameIndex := 175, descriptorIndex := 176, attributes := #[] }, { accessFlags := 10, nameIndex := 491, descriptorIndex := 222, attributes := #[] }, { accessFlags := 74, nameIndex := 29, descriptorIndex := 30, attributes := #[] }, { accessFlags := 74, nameIndex := 154, descriptorIndex := 155, attributes := #[] }, { accessFlags := 10, nameIndex := 217, descriptorIndex := 218, attributes := #[] }, { accessFlags := 10, nameIndex := 221, descriptorIndex := 222, attributes := #[] }, { accessFlags := 8, nameIndex := 562, descriptorIndex := 563, attributes := #[] }])
  fields := #[{ name := "in", type := (.object "java/io/InputStream"), accessFlags := 25, slot := 0, constantValue := 0 }, { name := "out", type := (.object "java/io/PrintStream"), accessFlags := 25, slot := 1, constantValue := 0 }, { name := "err", type := (.object "java/io/PrintStream"), accessFlags := 25, slot := 2, constantValue := 0 }, { name := "initialIn", type := (.object "java/io/InputStream"), accessFlags := 10, slot := 3, constantValue := 0 }, { name := "NEVER", type := .int, accessFlags := 26, slot := 4, constantValue := 0 }, { name := "MAYBE", type := .int, accessFlags := 26, slot := 5, constantValue := 0 }, { name := "allowSecurityManager", type := .int, accessFlags := 10, slot := 6, constantValue := 0 }, { name := "security", type := (.object "java/lang/SecurityManager"), accessFlags := 74, slot := 7, constantValue := 0 }, { name := "notSupportedJnuEncoding", type := (.object "java/lang/String"), accessFlags := 10, slot := 8, constantValue := 0 }, { name := "cons", type := (.object "java/io/Console"), accessFlags := 74, slot := 9, constantValue := 0 }, { name := "initialErrStream", type := (.object "java/io/PrintStream"), accessFlags := 74, slot := 10, constantValue := 0 }, { name := "props", type := (.object "java/util/Properties"), accessFlags := 10, slot := 11, constantValue := 0 }, { name := "lineSeparator", type := (.object "java/lang/String"), accessFlags := 10, slot := 12, constantValue := 0 }, { name := "bootLayer", type := (.object "java/lang/ModuleLayer"), accessFlags := 8, slot := 13, constantValue := 0 }]
  methods := #[k12m0, k12m1]
  instanceTypes := #[]
  staticTypes := #[(.object "java/io/InputStream"), (.object "java/io/PrintStream"), (.object "java/io/PrintStream"), (.object "java/io/InputStream"), .int, .int, .int, (.object "java/lang/SecurityManager"), (.object "java/lang/String"), (.object "java/io/Console"), (.object "java/io/PrintStream"), (.object "java/util/Properties"), (.object "java/lang/String"), (.object "java/lang/ModuleLayer")]
  resolved := Array.replicate 834 none
  statics := none }

def pool13 : Array CpInfo := pool [(2, .class_ 4), (1, u "java/lang/Object"), (0, u "<init>"), (0, u "()V"), (7, .class_ 16), (1, u "java/util/Arrays"), (57, .class_ 76), (1, u "java/util/Arrays$NaturalOrder"), (36, .class_ 115), (1, u "java/util/Arrays$LegacyMergeSort"), (1, u "Z"), (21, u "copyOfRange"), (10, .methodref 151 152), (0, .class_ 153), (0, .nameAndType 154 155), (0, u "java/lang/System"), (0, u "arraycopy"), (0, u "(Ljava/lang/Object;ILjava/lang/Object;II)V"), (148, .methodref 305 306), (0, .class_ 307), (0, .nameAndType 308 309), (0, u "java/lang/Math"), (0, u "min"), (0, u "(II)I"), (29, .methodref 14 340), (0, .nameAndType 341 342), (0, u "copyOfRangeByte"), (0, u "([BII)[B"), (0, .methodref 14 344), (0, .nameAndType 345 346), (0, u "checkLength"), (0, u "(II)V"), (28, .class_ 376), (0, u "java/util/Arrays$ArrayList"), (68, u "$assertionsDisabled"), (269, u "MIN_ARRAY_SORT_GRAN"), (0, u "I"), (2, u "INSERTIONSORT_THRESHOLD"), (255, .class_ 976), (0, u "java/util/Arrays$ArrayItr")] 52

def k13m0 : Method := { name := "<init>", desc := "()V", sig := { parameters := [], returnType := none }, accessFlags := 2, code := none }
def k13c1 : Code := { maxStack := 4, maxLocals := 2, code := jdk_65_method_131_code, exceptionTable := #[], attributes := #[] }
def k13m1 : Method := { name := "checkLength", desc := "(II)V", sig := { parameters := [.int, .int], returnType := none }, accessFlags := 10, code := some k13c1 }
def k13c2 : Code := { maxStack := 3, maxLocals := 3, code := jdk_65_method_132_code, exceptionTable := #[], attributes := #[] }
def k13m2 : Method := { name := "copyOfRange", desc := "([BII)[B", sig := { parameters := [(.array .byte), .int, .int], returnType := some (.array .byte) }, accessFlags := 9, code := some k13c2 }
def k13c3 : Code := { maxStack := 6, maxLocals := 5, code := jdk_65_method_133_code, exceptionTable := #[], attributes := #[] }
def k13m3 : Method := { name := "copyOfRangeByte", desc := "([BII)[B", sig := { parameters := [(.array .byte), .int, .int], returnType := some (.array .byte) }, accessFlags := 10, code := some k13c3 }
/-- java/util/Arrays -/
def k13 : Class := { plain "java/util/Arrays" (some 0) with
  accessFlags := 49
  interfaces := #[]
  cf := some (fileOf pool13 14 #[.nestMembers #[975, 375, 113, 74]] #[{ accessFlags := 2, nameIndex := 5, descriptorIndex := 6, attributes := #[] }, { accessFlags := 10, nameIndex := 345, descriptorIndex := 346, attributes := #[] }, { accessFlags := 9, nameIndex := 139, descriptorIndex := 342, attributes := #[] }, { accessFlags := 10, nameIndex := 341, descriptorIndex := 342, attributes := #[] }] 49 2 #[] #[{ accessFlags := 26, nameIndex := 715, descriptorIndex := 716, attributes := #[] }, { accessFlags := 26, nameIndex := 719, descriptorIndex := 716, attributes := #[] }, { accessFlags := 4120, nameIndex := 445, descriptorIndex := 117, attributes := #[] }])
  fields := #[{ name := "MIN_ARRAY_SORT_GRAN", type := .int, accessFlags := 26, slot := 0, constantValue := 0 }, { name := "INSERTIONSORT_THRESHOLD", type := .int, accessFlags := 26, slot := 1, constantValue := 0 }, { name := "$assertionsDisabled", type := .boolean, accessFlags := 4120, slot := 2, constantValue := 0 }]
  methods := #[k13m0, k13m1, k13m2, k13m3]
  instanceTypes := #[]
  staticTypes := #[.int, .int, .boolean]
  resolved := Array.replicate 1029 none
  statics := none }

def pool14 : Array CpInfo := pool [(1, .class_ 2), (0, u "java/lang/Math"), (1, .class_ 6), (1, u "java/lang/Object"), (0, u "<init>"), (0, u "()V"), (89, .class_ 100), (1, u "java/lang/Math$RandomNumberGeneratorHolder"), (71, u "negativeZeroFloatBits"), (0, u "J"), (2, u "negativeZeroDoubleBits"), (24, u "min"), (43, u "$assertionsDisabled"), (0, u "Z"), (88, u "(II)I"), (2, u "twoToTheDoubleScaleDown"), (0, u "D"), (4, u "twoToTheDoubleScaleUp"), (9, u "E"), (3, u "PI"), (2, u "TAU"), (2, u "DEGREES_TO_RADIANS"), (0, u "RADIANS_TO_DEGREES")] 94

def k14m0 : Method := { name := "<init>", desc := "()V", sig := { parameters := [], returnType := none }, accessFlags := 2, code := none }
def k14c1 : Code := { maxStack := 2, maxLocals := 2, code := jdk_29_method_69_code, exceptionTable := #[], attributes := #[] }
def k14m1 : Method := { name := "min", desc := "(II)I", sig := { parameters := [.int, .int], returnType := some .int }, accessFlags := 9, code := some k14c1 }
/-- java/lang/Math -/
def k14 : Class := { plain "java/lang/Math" (some 0) with
  accessFlags := 49
  interfaces := #[]
  cf := some (fileOf pool14 1 #[.nestMembers #[98]] #[{ accessFlags := 2, nameIndex := 7, descriptorIndex := 8, attributes := #[] }, { accessFlags := 9, nameIndex := 201, descriptorIndex := 335, attributes := #[] }] 49 4 #[] #[{ accessFlags := 25, nameIndex := 354, descriptorIndex := 339, attributes := #[] }, { accessFlags := 25, nameIndex := 358, descriptorIndex := 339, attributes := #[] }, { accessFlags := 25, nameIndex := 361, descriptorIndex := 339, attributes := #[] }, { accessFlags := 26, nameIndex := 364, descriptorIndex := 339, attributes := #[] }, { accessFlags := 26, nameIndex := 365, descriptorIndex := 339, attributes := #[] }, { accessFlags := 26, nameIndex := 172, descriptorIndex := 173, attributes := #[] }, { accessFlags := 26, nameIndex := 176, descriptorIndex := 173, attributes := #[] }, { accessFlags := 8, nameIndex := 344, descriptorIndex := 339, attributes := #[] }, { accessFlags := 8, nameIndex := 338, descriptorIndex := 339, attributes := #[] }, { accessFlags := 4120, nameIndex := 245, descriptorIndex := 246, attributes := #[] }])
  fields := #[{ name := "E", type := .double, accessFlags := 25, slot := 0, constantValue := 0 }, { name := "PI", type := .double, accessFlags := 25, slot := 1, constantValue := 0 }, { name := "TAU", type := .double, accessFlags := 25, slot := 2, constantValue := 0 }, { name := "DEGREES_TO_RADIANS", type := .double, accessFlags := 26, slot := 3, constantValue := 0 }, { name := "RADIANS_TO_DEGREES", type := .double, accessFlags := 26, slot := 4, constantValue := 0 }, { name := "negativeZeroFloatBits", type := .long, accessFlags := 26, slot := 5, constantValue := 0 }, { name := "negativeZeroDoubleBits", type := .long, accessFlags := 26, slot := 6, constantValue := 0 }, { name := "twoToTheDoubleScaleUp", type := .double, accessFlags := 8, slot := 7, constantValue := 0 }, { name := "twoToTheDoubleScaleDown", type := .double, accessFlags := 8, slot := 8, constantValue := 0 }, { name := "$assertionsDisabled", type := .boolean, accessFlags := 4120, slot := 9, constantValue := 0 }]
  methods := #[k14m0, k14m1]
  instanceTypes := #[]
  staticTypes := #[.double, .double, .double, .double, .double, .long, .long, .double, .double, .boolean]
  resolved := Array.replicate 460 none
  statics := none }

def pool15 : Array CpInfo := pool [(4, .class_ 6), (1, u "java/lang/Object"), (0, u "<init>"), (0, u "()V"), (5, .class_ 16), (1, u "java/lang/StringLatin1"), (0, u "inflate"), (2, .class_ 22), (1, u "java/lang/StringUTF16"), (3, .nameAndType 17 27), (0, u "([BI[BII)V"), (93, u "$assertionsDisabled"), (0, u "Z"), (98, .class_ 223), (1, u "java/lang/StringLatin1$LinesSpliterator"), (16, .methodref 20 26), (40, u "equals"), (0, u "([B[B)Z"), (107, .class_ 391), (0, u "java/lang/StringLatin1$CharsSpliterator")] 3

def k15m0 : Method := { name := "<init>", desc := "()V", sig := { parameters := [], returnType := none }, accessFlags := 0, code := none }
def k15c1 : Code := { maxStack := 3, maxLocals := 3, code := jdk_43_method_13_code, exceptionTable := #[], attributes := #[] }
def k15m1 : Method := { name := "equals", desc := "([B[B)Z", sig := { parameters := [(.array .byte), (.array .byte)], returnType := some .boolean }, accessFlags := 9, code := some k15c1 }
def k15c2 : Code := { maxStack := 5, maxLocals := 5, code := jdk_43_method_50_code, exceptionTable := #[], attributes := #[] }
def k15m2 : Method := { name := "inflate", desc := "([BI[BII)V", sig := { parameters := [(.array .byte), .int, (.array .byte), .int, .int], returnType := none }, accessFlags := 9, code := some k15c2 }
/-- java/lang/StringLatin1 -/
def k15 : Class := { plain "java/lang/StringLatin1" (some 0) with
  accessFlags := 48
  interfaces := #[]
  cf := some (fileOf pool15 14 #[.nestMembers #[390, 221]] #[{ accessFlags := 0, nameIndex := 7, descriptorIndex := 8, attributes := #[] }, { accessFlags := 9, nameIndex := 281, descriptorIndex := 282, attributes := #[] }, { accessFlags := 9, nameIndex := 17, descriptorIndex := 27, attributes := #[] }] 48 4 #[] #[{ accessFlags := 4120, nameIndex := 121, descriptorIndex := 122, attributes := #[] }])
  fields := #[{ name := "$assertionsDisabled", type := .boolean, accessFlags := 4120, slot := 0, constantValue := 0 }]
  methods := #[k15m0, k15m1, k15m2]
  instanceTypes := #[]
  staticTypes := #[.boolean]
  resolved := Array.replicate 395 none
  statics := none }

def pool16 : Array CpInfo := pool [(3, .class_ 4), (0, u "java/lang/String"), (1, .class_ 8), (1, u "java/lang/Object"), (0, u "<init>"), (0, u "()V"), (0, .methodref 12 13), (0, .class_ 14), (0, .nameAndType 15 16), (0, u "java/lang/StringUTF16"), (0, u "newBytesLength"), (0, u "(I)I"), (3, .integer 1073741823), (23, .fieldref 12 45), (0, .nameAndType 46 47), (0, u "$assertionsDisabled"), (0, u "Z"), (0, .methodref 12 49), (0, .nameAndType 50 51), (0, u "length"), (0, u "([B)I"), (7, .fieldref 12 60), (0, .nameAndType 61 62), (0, u "HI_BYTE_SHIFT"), (0, u "I"), (0, .fieldref 12 64), (0, .nameAndType 65 62), (0, u "LO_BYTE_SHIFT"), (5, .methodref 12 72), (0, .nameAndType 73 74), (0, u "getChar"), (0, u "([BI)C"), (24, u "(II[B)V"), (7, .methodref 12 108), (0, .nameAndType 109 110), (0, u "newBytesFor"), (0, u "(I)[B"), (0, .methodref 12 112), (0, .nameAndType 113 114), (0, u "putChar"), (0, u "([BII)V"), (0, .methodref 12 116), (0, .nameAndType 117 118), (0, u "compress"), (0, u "([CI[BII)I"), (0, .methodref 12 120), (0, .nameAndType 121 122), (0, u "toBytes"), (0, u "([CII)[B"), (17, u "inflate"), (0, u "([BI[BII)V"), (31, .methodref 12 174), (0, .nameAndType 175 99), (0, u "checkBoundsOffCount"), (85, u "coderFromArrayLen"), (0, u "([BI)B"), (18, u "(III)I"), (87, .class_ 371), (1, u "java/lang/StringUTF16$LinesSpliterator"), (47, .methodref 3 420), (0, .nameAndType 175 281), (9, u "MAX_LENGTH"), (196, .class_ 628), (0, u "java/lang/StringUTF16$CodePointsSpliterator"), (0, .class_ 630), (0, u "java/lang/StringUTF16$CharsSpliterator")] 4

def k16m0 : Method := { name := "<init>", desc := "()V", sig := { parameters := [], returnType := none }, accessFlags := 0, code := none }
def k16c1 : Code := { maxStack := 1, maxLocals := 1, code := jdk_52_method_2_code, exceptionTable := #[], attributes := #[] }
def k16m1 : Method := { name := "newBytesFor", desc := "(I)[B", sig := { parameters := [.int], returnType := some (.array .byte) }, accessFlags := 9, code := some k16c1 }
def k16c2 : Code := { maxStack := 4, maxLocals := 1, code := jdk_52_method_3_code, exceptionTable := #[], attributes := #[] }
def k16m2 : Method := { name := "newBytesLength", desc := "(I)I", sig := { parameters := [.int], returnType := some .int }, accessFlags := 9, code := some k16c2 }
def k16c3 : Code := { maxStack := 4, maxLocals := 3, code := jdk_52_method_4_code, exceptionTable := #[], attributes := #[] }
def k16m3 : Method := { name := "putChar", desc := "([BII)V", sig := { parameters := [(.array .byte), .int, .int], returnType := none }, accessFlags := 8, code := some k16c3 }
def k16c4 : Code := { maxStack := 3, maxLocals := 2, code := jdk_52_method_5_code, exceptionTable := #[], attributes := #[] }
def k16m4 : Method := { name := "getChar", desc := "([BI)C", sig := { parameters := [(.array .byte), .int], returnType := some .char }, accessFlags := 8, code := some k16c4 }
def k16c5 : Code := { maxStack := 2, maxLocals := 1, code := jdk_52_method_6_code, exceptionTable := #[], attributes := #[] }
def k16m5 : Method := { name := "length", desc := "([B)I", sig := { parameters := [(.array .byte)], returnType := some .int }, accessFlags := 9, code := some k16c5 }
def k16c6 : Code := { maxStack := 4, maxLocals := 5, code := jdk_52_method_14_code, exceptionTable := #[], attributes := #[] }
def k16m6 : Method := { name := "toBytes", desc := "([CII)[B", sig := { parameters := [(.array .char), .int, .int], returnType := some (.array .byte) }, accessFlags := 9, code := some k16c6 }
def k16c7 : Code := { maxStack := 2, maxLocals := 2, code := jdk_52_method_15_code, exceptionTable := #[], attributes := #[] }
def k16m7 : Method := { name := "coderFromArrayLen", desc := "([BI)B", sig := { parameters := [(.array .byte), .int], returnType := some .byte }, accessFlags := 8, code := some k16c7 }
def k16c8 : Code := { maxStack := 5, maxLocals := 6, code := jdk_52_method_16_code, exceptionTable := #[], attributes := #[] }
def k16m8 : Method := { name := "compress", desc := "([CII)[B", sig := { parameters := [(.array .char), .int, .int], returnType := some (.array .byte) }, accessFlags := 9, code := some k16c8 }
def k16c9 : Code := { maxStack := 3, maxLocals := 7, code := jdk_52_method_21_code, exceptionTable := #[], attributes := #[] }
def k16m9 : Method := { name := "compress", desc := "([CI[BII)I", sig := { parameters := [(.array .char), .int, (.array .byte), .int, .int], returnType := some .int }, accessFlags := 9, code := some k16c9 }
def k16c10 : Code := { maxStack := 4, maxLocals := 6, code := jdk_52_method_86_code, exceptionTable := #[], attributes := #[] }
def k16m10 : Method := { name := "inflate", desc := "([BI[BII)V", sig := { parameters := [(.array .byte), .int, (.array .byte), .int, .int], returnType := none }, accessFlags := 9, code := some k16c10 }
def k16c11 : Code := { maxStack := 3, maxLocals := 3, code := jdk_52_method_94_code, exceptionTable := #[], attributes := #[] }
def k16m11 : Method := { name := "checkBoundsOffCount", desc := "(II[B)V", sig := { parameters := [.int, .int, (.array .byte)], returnType := none }, accessFlags := 9, code := some k16c11 }
/-- java/lang/StringUTF16 -/
def k16 : Class := { plain "java/lang/StringUTF16" (some 0) with
  accessFlags := 48
  interfaces := #[]
  cf := some (fileOf pool16 12 #[.nestMembers #[627, 629, 369]] #[{ accessFlags := 0, nameIndex := 9, descriptorIndex := 10, attributes := #[] }, { accessFlags := 9, nameIndex := 109, descriptorIndex := 110, attributes := #[] }, { accessFlags := 9, nameIndex := 15, descriptorIndex := 16, attributes := #[] }, { accessFlags := 8, nameIndex := 113, descriptorIndex := 114, attributes := #[] }, { accessFlags := 8, nameIndex := 73, descriptorIndex := 74, attributes := #[] }, { accessFlags := 9, nameIndex := 50, descriptorIndex := 51, attributes := #[] }, { accessFlags := 9, nameIndex := 121, descriptorIndex := 122, attributes := #[] }, { accessFlags := 8, nameIndex := 261, descriptorIndex := 262, attributes := #[] }, { accessFlags := 9, nameIndex := 117, descriptorIndex := 122, attributes := #[] }, { accessFlags := 9, nameIndex := 117, descriptorIndex := 118, attributes := #[] }, { accessFlags := 9, nameIndex := 140, descriptorIndex := 141, attributes := #[] }, { accessFlags := 9, nameIndex := 175, descriptorIndex := 99, attributes := #[] }] 48 6 #[] #[{ accessFlags := 26, nameIndex := 61, descriptorIndex := 62, attributes := #[] }, { accessFlags := 26, nameIndex := 65, descriptorIndex := 62, attributes := #[] }, { accessFlags := 24, nameIndex := 430, descriptorIndex := 62, attributes := #[] }, { accessFlags := 4120, nameIndex := 46, descriptorIndex := 47, attributes := #[] }])
  fields := #[{ name := "HI_BYTE_SHIFT", type := .int, accessFlags := 26, slot := 0, constantValue := 0 }, { name := "LO_BYTE_SHIFT", type := .int, accessFlags := 26, slot := 1, constantValue := 0 }, { name := "MAX_LENGTH", type := .int, accessFlags := 24, slot := 2, constantValue := 0 }, { name := "$assertionsDisabled", type := .boolean, accessFlags := 4120, slot := 3, constantValue := 0 }]
  methods := #[k16m0, k16m1, k16m2, k16m3, k16m4, k16m5, k16m6, k16m7, k16m8, k16m9, k16m10, k16m11]
  instanceTypes := #[]
  staticTypes := #[.int, .int, .int, .boolean]
  resolved := Array.replicate 635 none
  statics := some 1 }

def pool17 : Array CpInfo := pool [(2, .class_ 4), (1, u "java/lang/Object"), (0, u "<init>"), (0, u "()V"), (17, .class_ 26), (1, u "jdk/internal/util/Preconditions"), (22, u "checkFromIndexSize"), (5, .class_ 56), (0, u "jdk/internal/util/Preconditions$4"), (57, .class_ 115), (0, u "jdk/internal/util/Preconditions$1"), (7, u "SIOOBE_FORMATTER"), (0, u "Ljava/util/function/BiFunction;"), (0, .class_ 126), (0, u "jdk/internal/util/Preconditions$2"), (3, u "AIOOBE_FORMATTER"), (0, .class_ 132), (0, u "jdk/internal/util/Preconditions$3"), (3, u "IOOBE_FORMATTER"), (46, u "(IIILjava/util/function/BiFunction;)I")] 10

def k17m0 : Method := { name := "<init>", desc := "()V", sig := { parameters := [], returnType := none }, accessFlags := 1, code := none }
def k17c1 : Code := { maxStack := 4, maxLocals := 4, code := jdk_41_method_13_code, exceptionTable := #[], attributes := #[] }
def k17m1 : Method := { name := "checkFromIndexSize", desc := "(IIILjava/util/function/BiFunction;)I", sig := { parameters := [.int, .int, .int, (.object "java/util/function/BiFunction")], returnType := some .int }, accessFlags := 9, code := some k17c1 }
/-- jdk/internal/util/Preconditions -/
def k17 : Class := { plain "jdk/internal/util/Preconditions" (some 0) with
  accessFlags := 33
  interfaces := #[]
  cf := some (fileOf pool17 24 #[.nestMembers #[55, 131, 125, 114]] #[{ accessFlags := 1, nameIndex := 5, descriptorIndex := 6, attributes := #[] }, { accessFlags := 9, nameIndex := 49, descriptorIndex := 183, attributes := #[] }] 33 2 #[] #[{ accessFlags := 25, nameIndex := 123, descriptorIndex := 124, attributes := #[] }, { accessFlags := 25, nameIndex := 130, descriptorIndex := 124, attributes := #[] }, { accessFlags := 25, nameIndex := 136, descriptorIndex := 124, attributes := #[] }])
  fields := #[{ name := "SIOOBE_FORMATTER", type := (.object "java/util/function/BiFunction"), accessFlags := 25, slot := 0, constantValue := 0 }, { name := "AIOOBE_FORMATTER", type := (.object "java/util/function/BiFunction"), accessFlags := 25, slot := 1, constantValue := 0 }, { name := "IOOBE_FORMATTER", type := (.object "java/util/function/BiFunction"), accessFlags := 25, slot := 2, constantValue := 0 }]
  methods := #[k17m0, k17m1]
  instanceTypes := #[]
  staticTypes := #[(.object "java/util/function/BiFunction"), (.object "java/util/function/BiFunction"), (.object "java/util/function/BiFunction")]
  resolved := Array.replicate 194 none
  statics := some 2 }

def pool18 : Array CpInfo := pool [(9, u "<init>"), (6, .class_ 18), (1, u "java/lang/Object"), (0, u "()V"), (1, .class_ 23), (1, u "jdk/internal/util/ArraysSupport"), (0, u "LOG2_ARRAY_LONG_INDEX_SCALE"), (0, u "I"), (2, u "U"), (0, u "Ljdk/internal/misc/Unsafe;"), (8, u "BIG_ENDIAN"), (0, u "Z"), (8, u "LOG2_BYTE_BIT_SIZE"), (4, u "LOG2_ARRAY_INT_INDEX_SCALE"), (54, u "JLA"), (0, u "Ljdk/internal/access/JavaLangAccess;"), (11, u "LOG2_ARRAY_BOOLEAN_INDEX_SCALE"), (9, u "LOG2_ARRAY_BYTE_INDEX_SCALE"), (5, u "LOG2_ARRAY_CHAR_INDEX_SCALE"), (5, u "LOG2_ARRAY_SHORT_INDEX_SCALE"), (18, u "LOG2_ARRAY_FLOAT_INDEX_SCALE"), (24, u "LOG2_ARRAY_DOUBLE_INDEX_SCALE"), (89, u "T_BOOLEAN"), (2, u "T_CHAR"), (1, u "T_FLOAT"), (1, u "T_DOUBLE"), (1, u "T_BYTE"), (1, u "T_SHORT"), (1, u "T_INT"), (1, u "T_LONG"), (1, u "SOFT_MAX_ARRAY_LENGTH")] 83

def k18m0 : Method := { name := "<init>", desc := "()V", sig := { parameters := [], returnType := none }, accessFlags := 2, code := none }
/-- jdk/internal/util/ArraysSupport -/
def k18 : Class := { plain "jdk/internal/util/ArraysSupport" (some 0) with
  accessFlags := 33
  interfaces := #[]
  cf := some (fileOf pool18 21 #[] #[{ accessFlags := 2, nameIndex := 9, descriptorIndex := 19, attributes := #[] }] 33 16 #[] #[{ accessFlags := 24, nameIndex := 28, descriptorIndex := 29, attributes := #[] }, { accessFlags := 26, nameIndex := 38, descriptorIndex := 39, attributes := #[] }, { accessFlags := 25, nameIndex := 121, descriptorIndex := 25, attributes := #[] }, { accessFlags := 25, nameIndex := 131, descriptorIndex := 25, attributes := #[] }, { accessFlags := 25, nameIndex := 137, descriptorIndex := 25, attributes := #[] }, { accessFlags := 25, nameIndex := 143, descriptorIndex := 25, attributes := #[] }, { accessFlags := 25, nameIndex := 53, descriptorIndex := 25, attributes := #[] }, { accessFlags := 25, nameIndex := 24, descriptorIndex := 25, attributes := #[] }, { accessFlags := 25, nameIndex := 162, descriptorIndex := 25, attributes := #[] }, { accessFlags := 25, nameIndex := 187, descriptorIndex := 25, attributes := #[] }, { accessFlags := 26, nameIndex := 48, descriptorIndex := 25, attributes := #[] }, { accessFlags := 25, nameIndex := 277, descriptorIndex := 25, attributes := #[] }, { accessFlags := 25, nameIndex := 280, descriptorIndex := 25, attributes := #[] }, { accessFlags := 25, nameIndex := 282, descriptorIndex := 25, attributes := #[] }, { accessFlags := 25, nameIndex := 284, descriptorIndex := 25, attributes := #[] }, { accessFlags := 25, nameIndex := 286, descriptorIndex := 25, attributes := #[] }, { accessFlags := 25, nameIndex := 288, descriptorIndex := 25, attributes := #[] }, { accessFlags := 25, nameIndex := 290, descriptorIndex := 25, attributes := #[] }, { accessFlags := 25, nameIndex := 292, descriptorIndex := 25, attributes := #[] }, { accessFlags := 26, nameIndex := 108, descriptorIndex := 109, attributes := #[] }, { accessFlags := 25, nameIndex := 294, descriptorIndex := 25, attributes := #[] }])
  fields := #[{ name := "U", type := (.object "jdk/internal/misc/Unsafe"), accessFlags := 24, slot := 0, constantValue := 0 }, { name := "BIG_ENDIAN", type := .boolean, accessFlags := 26, slot := 1, constantValue := 0 }, { name := "LOG2_ARRAY_BOOLEAN_INDEX_SCALE", type := .int, accessFlags := 25, slot := 2, constantValue := 0 }, { name := "LOG2_ARRAY_BYTE_INDEX_SCALE", type := .int, accessFlags := 25, slot := 3, constantValue := 0 }, { name := "LOG2_ARRAY_CHAR_INDEX_SCALE", type := .int, accessFlags := 25, slot := 4, constantValue := 0 }, { name := "LOG2_ARRAY_SHORT_INDEX_SCALE", type := .int, accessFlags := 25, slot := 5, constantValue := 0 }, { name := "LOG2_ARRAY_INT_INDEX_SCALE", type := .int, accessFlags := 25, slot := 6, constantValue := 0 }, { name := "LOG2_ARRAY_LONG_INDEX_SCALE", type := .int, accessFlags := 25, slot := 7, constantValue := 0 }, { name := "LOG2_ARRAY_FLOAT_INDEX_SCALE", type := .int, accessFlags := 25, slot := 8, constantValue := 0 }, { name := "LOG2_ARRAY_DOUBLE_INDEX_SCALE", type := .int, accessFlags := 25, slot := 9, constantValue := 0 }, { name := "LOG2_BYTE_BIT_SIZE", type := .int, accessFlags := 26, slot := 10, constantValue := 0 }, { name := "T_BOOLEAN", type := .int, accessFlags := 25, slot := 11, constantValue := 0 }, { name := "T_CHAR", type := .int, accessFlags := 25, slot := 12, constantValue := 0 }, { name := "T_FLOAT", type := .int, accessFlags := 25, slot := 13, constantValue := 0 }, { name := "T_DOUBLE", type := .int, accessFlags := 25, slot := 14, constantValue := 0 }, { name := "T_BYTE", type := .int, accessFlags := 25, slot := 15, constantValue := 0 }, { name := "T_SHORT", type := .int, accessFlags := 25, slot := 16, constantValue := 0 }, { name := "T_INT", type := .int, accessFlags := 25, slot := 17, constantValue := 0 }, { name := "T_LONG", type := .int, accessFlags := 25, slot := 18, constantValue := 0 }, { name := "JLA", type := (.object "jdk/internal/access/JavaLangAccess"), accessFlags := 26, slot := 19, constantValue := 0 }, { name := "SOFT_MAX_ARRAY_LENGTH", type := .int, accessFlags := 25, slot := 20, constantValue := 0 }]
  methods := #[k18m0]
  instanceTypes := #[]
  staticTypes := #[(.object "jdk/internal/misc/Unsafe"), .boolean, .int, .int, .int, .int, .int, .int, .int, .int, .int, .int, .int, .int, .int, .int, .int, .int, .int, (.object "jdk/internal/access/JavaLangAccess"), .int]
  resolved := Array.replicate 378 none
  statics := none }

def pool19 : Array CpInfo := pool [(1, u "java/lang/Cloneable"), (0, .class_ 1), (0, u "java/lang/Object"), (0, .class_ 3)] 3

/-- java/lang/Cloneable -/
def k19 : Class := { plain "java/lang/Cloneable" (some 0) with
  accessFlags := 1537
  interfaces := #[]
  cf := some (fileOf pool19 2 #[] #[] 1537 4 #[] #[])
  fields := #[]
  methods := #[]
  instanceTypes := #[]
  staticTypes := #[]
  resolved := Array.replicate 8 none
  statics := none }

/-- the primitive byte -/
def k20 : Class := { plain "byte" none with kind := .primitive 'B', accessFlags := 0x411 }
/-- [B -/
def k21 : Class := { plain "[B" (some 0) with kind := .array 20 .byte, interfaces := #[19, 2], accessFlags := 1041 }

/-- the primitive char -/
def k22 : Class := { plain "char" none with kind := .primitive 'C', accessFlags := 0x411 }
/-- [C -/
def k23 : Class := { plain "[C" (some 0) with kind := .array 22 .char, interfaces := #[19, 2], accessFlags := 1041 }

/-- the primitive int -/
def k24 : Class := { plain "int" none with kind := .primitive 'I', accessFlags := 0x411 }
/-- [I -/
def k25 : Class := { plain "[I" (some 0) with kind := .array 24 .int, interfaces := #[19, 2], accessFlags := 1041 }

def heap : Heap := #[{ cls := 7, slots := #[.long 0, .int 1, .null, .int 0, .null, .int 0, .int 0], vm := .statics 7 },
  { cls := 16, slots := #[.int 0, .int 8, .int 0, .int 1], vm := .statics 16 },
  { cls := 17, slots := #[.null, .null, .null], vm := .statics 17 }]
def classes : Array Class := #[k0, k1, k2, k3, k4, k5, k6, k7, k8, k9, k10, k11, k12, k13, k14, k15, k16, k17, k18, k19, k20, k21, k22, k23, k24, k25]
def interned : List (Array UInt16 × Addr) := []
def slotsUsed : Nat := 14
def theMethod : MethodId := ⟨1, 2⟩
def args0 : Array Value := #[.int 1, .int 2, .int 3, .int 4, .int 5]
def aboutOver (below : List Frame) : State where
  vm := { classes := classes, interned := interned.toArray }
  heap := heap
  slotsUsed := slotsUsed
  threads := #[{ frames := .invoking theMethod args0 :: below }]
def below0 : List Frame := [.native { method := ⟨0, 0⟩, args := #[] }]
def about1 : State := aboutOver below0
def p0 : Program := .bare "" "" ""
def e0 : Env := launch0.env 0 0 0
theorem w_frames : about1.frames = Frame.invoking theMethod args0 :: below0 := rfl
set_option maxRecDepth 65536 in
theorem w_args : argsFit about1.vm theMethod args0 = true := by decide +kernel
set_option maxRecDepth 65536 in
theorem w_heap : heapFits about1 = true := by decide +kernel
set_option maxRecDepth 65536 in
theorem w_runnable : about1.curStatus? = some .runnable := by decide +kernel
set_option maxRecDepth 65536 in
theorem w_alone : about1.alone = true := by decide +kernel
set_option maxRecDepth 65536 in
theorem w_named : about1.methodNamed? x = some theMethod := by decide +kernel
set_option maxRecDepth 65536 in
theorem w_hears : about1.hears theMethod below0 = true := by decide +kernel
set_option maxRecDepth 65536 in
theorem w_ripe : about1.ripe theMethod args0 below0 = true := by decide +kernel
theorem w_running : about1.status = .running := rfl
set_option maxRecDepth 65536 in
theorem w_room : about1.hasRoom e0.platform room_1 = true :=
  launch0.hasRoom_least _ room_1 (by decide +kernel) (by decide +kernel) (by decide +kernel) (by decide +kernel) (by decide +kernel) (by decide +kernel)
theorem allAtoms_all (ts : List Jvm.Cond) (a : Array Jvm.Value) (st : Jvm.State) : (allAtoms ts).before a st = ts.all (fun c => c.before a st) := by
  induction ts with
  | nil => rfl
  | cons c t ih =>
    show (Jvm.Cond.and c (allAtoms t)).before a st = _
    rw [Jvm.Cond.before_and, ih, List.all_cons]
def words1 : List Jvm.Cond := Jvm.Cond.code x code maxLocals ret :: tables_1
/-- a 'code' word, met by the world's own term for the bytes: nothing is compared byte by byte -/
theorem code_word {y : MethodName} {bytes : ByteArray} {mx : Nat} {rt : Option FieldType} {a : Array Value} {s : State} {m : MethodId} {meth : Method} {c : Code} (h1 : s.methodNamed? y = some m) (h2 : s.vm.method? m = some meth) (h3 : meth.code = some c) (h4 : c.code = bytes)
    (h5 : (c.maxLocals == mx && c.exceptionTable.isEmpty && decide (c.maxStack ≤ mostOperands) && decide (meth.sig.returnType = rt) && !meth.locks && decide (parseMethodDescriptor y.desc = some meth.sig)) = true) : (Jvm.Cond.code y bytes mx rt).before a s = true := by
  simp only [Bool.and_eq_true, beq_iff_eq, Bool.not_eq_true', decide_eq_true_eq] at h5
  obtain ⟨⟨⟨⟨⟨g1, g2⟩, g3⟩, g4⟩, g5⟩, g6⟩ := h5
  simp [Cond.before, Cond.holds, Cond.value, h1, h2, h3, h4, g1, g2, g3, g4, g5, g6]
def isCode : Jvm.Cond → Bool
  | .code _ _ _ _ => true
  | _ => false
theorem all_split {L : List Jvm.Cond} {P : Jvm.Cond → Bool} (h1 : L.all (fun c => isCode c || P c) = true) (h2 : ∀ c ∈ L.filter isCode, P c = true) : L.all P = true := by
  refine List.all_eq_true.mpr fun c hc => ?_
  have h := List.all_eq_true.mp h1 c hc
  rcases Bool.eq_false_or_eq_true (isCode c) with hi | hi
  · exact h2 c (List.mem_filter.mpr ⟨hc, hi⟩)
  · simpa [hi] using h
set_option maxRecDepth 65536 in
theorem w_c0 : (Jvm.Cond.code x code maxLocals ret).before args0 about1 = true := code_word (m := ⟨1, 2⟩) (meth := k1m2) (c := k1c2) (by decide +kernel) rfl rfl rfl (by decide +kernel)
set_option maxRecDepth 65536 in
theorem w_c1 : (Jvm.Cond.code ({ cls := "com/example/wolf_spider/wolfspider/UrlOfPathPinLaw", name := "make", desc := "(ICCCC)Ljava/lang/String;" } : Jvm.MethodName) method_2_code (5 : Nat) (Option.some (Jvm.ClassFile.FieldType.object "java/lang/String"))).before args0 about1 = true := code_word (m := ⟨1, 1⟩) (meth := k1m1) (c := k1c1) (by decide +kernel) rfl rfl rfl (by decide +kernel)
set_option maxRecDepth 65536 in
theorem w_c2 : (Jvm.Cond.code ({ cls := "java/lang/String", name := "<init>", desc := "([C)V" } : Jvm.MethodName) jdk_42_method_3_code (2 : Nat) (Option.none : Option Jvm.ClassFile.FieldType)).before args0 about1 = true := code_word (m := ⟨7, 1⟩) (meth := k7m1) (c := k7c1) (by decide +kernel) rfl rfl rfl (by decide +kernel)
set_option maxRecDepth 65536 in
theorem w_c3 : (Jvm.Cond.code ({ cls := "java/lang/String", name := "<init>", desc := "([CIILjava/lang/Void;)V" } : Jvm.MethodName) jdk_42_method_149_code (6 : Nat) (Option.none : Option Jvm.ClassFile.FieldType)).before args0 about1 = true := code_word (m := ⟨7, 6⟩) (meth := k7m6) (c := k7c6) (by decide +kernel) rfl rfl rfl (by decide +kernel)
set_option maxRecDepth 65536 in
theorem w_c4 : (Jvm.Cond.code ({ cls := "java/lang/Object", name := "<init>", desc := "()V" } : Jvm.MethodName) object_method_1_code (1 : Nat) (Option.none : Option Jvm.ClassFile.FieldType)).before args0 about1 = true := code_word (m := ⟨0, 0⟩) (meth := k0m0) (c := k0c0) (by decide +kernel) rfl rfl rfl (by decide +kernel)
set_option maxRecDepth 65536 in
theorem w_c5 : (Jvm.Cond.code ({ cls := "com/example/wolf_spider/wolfspider/Url", name := "ofPath", desc := "(Ljava/lang/String;)Lcom/example/wolf_spider/wolfspider/Url;" } : Jvm.MethodName) prog_36_method_3_code (1 : Nat) (Option.some (Jvm.ClassFile.FieldType.object "com/example/wolf_spider/wolfspider/Url"))).before args0 about1 = true := code_word (m := ⟨8, 1⟩) (meth := k8m1) (c := k8c1) (by decide +kernel) rfl rfl rfl (by decide +kernel)
set_option maxRecDepth 65536 in
theorem w_c6 : (Jvm.Cond.code ({ cls := "com/example/wolf_spider/wolfspider/Url", name := "<init>", desc := "(Ljava/lang/String;Ljava/lang/String;Ljava/lang/String;Ljava/lang/String;)V" } : Jvm.MethodName) prog_36_method_1_code (5 : Nat) (Option.none : Option Jvm.ClassFile.FieldType)).before args0 about1 = true := code_word (m := ⟨8, 0⟩) (meth := k8m0) (c := k8c0) (by decide +kernel) rfl rfl rfl (by decide +kernel)
set_option maxRecDepth 65536 in
theorem w_c7 : (Jvm.Cond.code ({ cls := "com/example/wolf_spider/wolfspider/Url", name := "path", desc := "()Ljava/lang/String;" } : Jvm.MethodName) prog_36_method_7_code (1 : Nat) (Option.some (Jvm.ClassFile.FieldType.object "java/lang/String"))).before args0 about1 = true := code_word (m := ⟨8, 2⟩) (meth := k8m2) (c := k8c2) (by decide +kernel) rfl rfl rfl (by decide +kernel)
set_option maxRecDepth 65536 in
theorem w_c8 : (Jvm.Cond.code ({ cls := "java/lang/String", name := "equals", desc := "(Ljava/lang/Object;)Z" } : Jvm.MethodName) jdk_42_method_66_code (3 : Nat) (Option.some Jvm.ClassFile.FieldType.boolean)).before args0 about1 = true := code_word (m := ⟨7, 4⟩) (meth := k7m4) (c := k7c4) (by decide +kernel) rfl rfl rfl (by decide +kernel)
set_option maxRecDepth 65536 in
theorem w_c9 : (Jvm.Cond.code ({ cls := "com/example/wolf_spider/wolfspider/Url", name := "toString", desc := "()Ljava/lang/String;" } : Jvm.MethodName) prog_36_method_9_code (2 : Nat) (Option.some (Jvm.ClassFile.FieldType.object "java/lang/String"))).before args0 about1 = true := code_word (m := ⟨8, 4⟩) (meth := k8m4) (c := k8c4) (by decide +kernel) rfl rfl rfl (by decide +kernel)
set_option maxRecDepth 65536 in
theorem w_c10 : (Jvm.Cond.code ({ cls := "java/lang/StringBuilder", name := "<init>", desc := "()V" } : Jvm.MethodName) jdk_67_method_1_code (1 : Nat) (Option.none : Option Jvm.ClassFile.FieldType)).before args0 about1 = true := code_word (m := ⟨11, 0⟩) (meth := k11m0) (c := k11c0) (by decide +kernel) rfl rfl rfl (by decide +kernel)
set_option maxRecDepth 65536 in
theorem w_c11 : (Jvm.Cond.code ({ cls := "java/lang/AbstractStringBuilder", name := "<init>", desc := "(I)V" } : Jvm.MethodName) jdk_68_method_2_code (2 : Nat) (Option.none : Option Jvm.ClassFile.FieldType)).before args0 about1 = true := code_word (m := ⟨10, 1⟩) (meth := k10m1) (c := k10c1) (by decide +kernel) rfl rfl rfl (by decide +kernel)
set_option maxRecDepth 65536 in
theorem w_c12 : (Jvm.Cond.code ({ cls := "java/lang/StringBuilder", name := "append", desc := "(Ljava/lang/String;)Ljava/lang/StringBuilder;" } : Jvm.MethodName) jdk_67_method_7_code (2 : Nat) (Option.some (Jvm.ClassFile.FieldType.object "java/lang/StringBuilder"))).before args0 about1 = true := code_word (m := ⟨11, 1⟩) (meth := k11m1) (c := k11c1) (by decide +kernel) rfl rfl rfl (by decide +kernel)
set_option maxRecDepth 65536 in
theorem w_c13 : (Jvm.Cond.code ({ cls := "java/lang/AbstractStringBuilder", name := "append", desc := "(Ljava/lang/String;)Ljava/lang/AbstractStringBuilder;" } : Jvm.MethodName) jdk_68_method_22_code (3 : Nat) (Option.some (Jvm.ClassFile.FieldType.object "java/lang/AbstractStringBuilder"))).before args0 about1 = true := code_word (m := ⟨10, 5⟩) (meth := k10m5) (c := k10c5) (by decide +kernel) rfl rfl rfl (by decide +kernel)
set_option maxRecDepth 65536 in
theorem w_c14 : (Jvm.Cond.code ({ cls := "java/lang/String", name := "length", desc := "()I" } : Jvm.MethodName) jdk_42_method_54_code (1 : Nat) (Option.some Jvm.ClassFile.FieldType.int)).before args0 about1 = true := code_word (m := ⟨7, 3⟩) (meth := k7m3) (c := k7c3) (by decide +kernel) rfl rfl rfl (by decide +kernel)
set_option maxRecDepth 65536 in
theorem w_c15 : (Jvm.Cond.code ({ cls := "java/lang/String", name := "coder", desc := "()B" } : Jvm.MethodName) jdk_42_method_152_code (1 : Nat) (Option.some Jvm.ClassFile.FieldType.byte)).before args0 about1 = true := code_word (m := ⟨7, 8⟩) (meth := k7m8) (c := k7c8) (by decide +kernel) rfl rfl rfl (by decide +kernel)
set_option maxRecDepth 65536 in
theorem w_c16 : (Jvm.Cond.code ({ cls := "java/lang/AbstractStringBuilder", name := "ensureCapacityInternal", desc := "(I)V" } : Jvm.MethodName) jdk_68_method_9_code (3 : Nat) (Option.none : Option Jvm.ClassFile.FieldType)).before args0 about1 = true := code_word (m := ⟨10, 3⟩) (meth := k10m3) (c := k10c3) (by decide +kernel) rfl rfl rfl (by decide +kernel)
set_option maxRecDepth 65536 in
theorem w_c17 : (Jvm.Cond.code ({ cls := "java/lang/AbstractStringBuilder", name := "putStringAt", desc := "(ILjava/lang/String;)V" } : Jvm.MethodName) jdk_68_method_73_code (3 : Nat) (Option.none : Option Jvm.ClassFile.FieldType)).before args0 about1 = true := code_word (m := ⟨10, 9⟩) (meth := k10m9) (c := k10c9) (by decide +kernel) rfl rfl rfl (by decide +kernel)
set_option maxRecDepth 65536 in
theorem w_c18 : (Jvm.Cond.code ({ cls := "java/lang/AbstractStringBuilder", name := "inflateIfNeededFor", desc := "(Ljava/lang/String;)V" } : Jvm.MethodName) jdk_68_method_71_code (2 : Nat) (Option.none : Option Jvm.ClassFile.FieldType)).before args0 about1 = true := code_word (m := ⟨10, 8⟩) (meth := k10m8) (c := k10c8) (by decide +kernel) rfl rfl rfl (by decide +kernel)
set_option maxRecDepth 65536 in
theorem w_c19 : (Jvm.Cond.code ({ cls := "java/lang/String", name := "getBytes", desc := "([BIB)V" } : Jvm.MethodName) jdk_42_method_147_code (4 : Nat) (Option.none : Option Jvm.ClassFile.FieldType)).before args0 about1 = true := code_word (m := ⟨7, 5⟩) (meth := k7m5) (c := k7c5) (by decide +kernel) rfl rfl rfl (by decide +kernel)
set_option maxRecDepth 65536 in
theorem w_c20 : (Jvm.Cond.code ({ cls := "java/lang/StringBuilder", name := "toString", desc := "()Ljava/lang/String;" } : Jvm.MethodName) jdk_67_method_42_code (1 : Nat) (Option.some (Jvm.ClassFile.FieldType.object "java/lang/String"))).before args0 about1 = true := code_word (m := ⟨11, 2⟩) (meth := k11m2) (c := k11c2) (by decide +kernel) rfl rfl rfl (by decide +kernel)
set_option maxRecDepth 65536 in
theorem w_c21 : (Jvm.Cond.code ({ cls := "java/lang/String", name := "<init>", desc := "(Ljava/lang/StringBuilder;)V" } : Jvm.MethodName) jdk_42_method_53_code (2 : Nat) (Option.none : Option Jvm.ClassFile.FieldType)).before args0 about1 = true := code_word (m := ⟨7, 2⟩) (meth := k7m2) (c := k7c2) (by decide +kernel) rfl rfl rfl (by decide +kernel)
set_option maxRecDepth 65536 in
theorem w_c22 : (Jvm.Cond.code ({ cls := "java/lang/String", name := "<init>", desc := "(Ljava/lang/AbstractStringBuilder;Ljava/lang/Void;)V" } : Jvm.MethodName) jdk_42_method_150_code (5 : Nat) (Option.none : Option Jvm.ClassFile.FieldType)).before args0 about1 = true := code_word (m := ⟨7, 7⟩) (meth := k7m7) (c := k7c7) (by decide +kernel) rfl rfl rfl (by decide +kernel)
set_option maxRecDepth 65536 in
theorem w_c23 : (Jvm.Cond.code ({ cls := "java/lang/AbstractStringBuilder", name := "getValue", desc := "()[B" } : Jvm.MethodName) jdk_68_method_64_code (1 : Nat) (Option.some (Jvm.ClassFile.FieldType.array Jvm.ClassFile.FieldType.byte))).before args0 about1 = true := code_word (m := ⟨10, 6⟩) (meth := k10m6) (c := k10c6) (by decide +kernel) rfl rfl rfl (by decide +kernel)
set_option maxRecDepth 65536 in
theorem w_c24 : (Jvm.Cond.code ({ cls := "java/lang/StringBuilder", name := "length", desc := "()I" } : Jvm.MethodName) jdk_67_method_93_code (1 : Nat) (Option.some Jvm.ClassFile.FieldType.int)).before args0 about1 = true := code_word (m := ⟨11, 3⟩) (meth := k11m3) (c := k11c3) (by decide +kernel) rfl rfl rfl (by decide +kernel)
set_option maxRecDepth 65536 in
theorem w_c25 : (Jvm.Cond.code ({ cls := "java/lang/AbstractStringBuilder", name := "length", desc := "()I" } : Jvm.MethodName) jdk_68_method_6_code (1 : Nat) (Option.some Jvm.ClassFile.FieldType.int)).before args0 about1 = true := code_word (m := ⟨10, 2⟩) (meth := k10m2) (c := k10c2) (by decide +kernel) rfl rfl rfl (by decide +kernel)
set_option maxRecDepth 65536 in
theorem w_c26 : (Jvm.Cond.code ({ cls := "java/lang/AbstractStringBuilder", name := "isLatin1", desc := "()Z" } : Jvm.MethodName) jdk_68_method_68_code (1 : Nat) (Option.some Jvm.ClassFile.FieldType.boolean)).before args0 about1 = true := code_word (m := ⟨10, 7⟩) (meth := k10m7) (c := k10c7) (by decide +kernel) rfl rfl rfl (by decide +kernel)
set_option maxRecDepth 65536 in
theorem w_c27 : (Jvm.Cond.code ({ cls := "java/util/Arrays", name := "copyOfRange", desc := "([BII)[B" } : Jvm.MethodName) jdk_65_method_132_code (3 : Nat) (Option.some (Jvm.ClassFile.FieldType.array Jvm.ClassFile.FieldType.byte))).before args0 about1 = true := code_word (m := ⟨13, 2⟩) (meth := k13m2) (c := k13c2) (by decide +kernel) rfl rfl rfl (by decide +kernel)
set_option maxRecDepth 65536 in
theorem w_c28 : (Jvm.Cond.code ({ cls := "java/util/Arrays", name := "copyOfRangeByte", desc := "([BII)[B" } : Jvm.MethodName) jdk_65_method_133_code (5 : Nat) (Option.some (Jvm.ClassFile.FieldType.array Jvm.ClassFile.FieldType.byte))).before args0 about1 = true := code_word (m := ⟨13, 3⟩) (meth := k13m3) (c := k13c3) (by decide +kernel) rfl rfl rfl (by decide +kernel)
set_option maxRecDepth 65536 in
theorem w_c29 : (Jvm.Cond.code ({ cls := "java/util/Arrays", name := "checkLength", desc := "(II)V" } : Jvm.MethodName) jdk_65_method_131_code (2 : Nat) (Option.none : Option Jvm.ClassFile.FieldType)).before args0 about1 = true := code_word (m := ⟨13, 1⟩) (meth := k13m1) (c := k13c1) (by decide +kernel) rfl rfl rfl (by decide +kernel)
set_option maxRecDepth 65536 in
theorem w_c30 : (Jvm.Cond.code ({ cls := "java/lang/Math", name := "min", desc := "(II)I" } : Jvm.MethodName) jdk_29_method_69_code (2 : Nat) (Option.some Jvm.ClassFile.FieldType.int)).before args0 about1 = true := code_word (m := ⟨14, 1⟩) (meth := k14m1) (c := k14c1) (by decide +kernel) rfl rfl rfl (by decide +kernel)
set_option maxRecDepth 65536 in
theorem w_c31 : (Jvm.Cond.code ({ cls := "java/lang/StringLatin1", name := "equals", desc := "([B[B)Z" } : Jvm.MethodName) jdk_43_method_13_code (3 : Nat) (Option.some Jvm.ClassFile.FieldType.boolean)).before args0 about1 = true := code_word (m := ⟨15, 1⟩) (meth := k15m1) (c := k15c1) (by decide +kernel) rfl rfl rfl (by decide +kernel)
set_option maxRecDepth 65536 in
theorem w_c32 : (Jvm.Cond.code ({ cls := "com/example/wolf_spider/wolfspider/Url", name := "pathAndQuery", desc := "()Ljava/lang/String;" } : Jvm.MethodName) prog_36_method_8_code (1 : Nat) (Option.some (Jvm.ClassFile.FieldType.object "java/lang/String"))).before args0 about1 = true := code_word (m := ⟨8, 3⟩) (meth := k8m3) (c := k8c3) (by decide +kernel) rfl rfl rfl (by decide +kernel)
set_option maxRecDepth 65536 in
theorem w_c33 : (Jvm.Cond.code ({ cls := "java/lang/StringUTF16", name := "compress", desc := "([CII)[B" } : Jvm.MethodName) jdk_52_method_16_code (6 : Nat) (Option.some (Jvm.ClassFile.FieldType.array Jvm.ClassFile.FieldType.byte))).before args0 about1 = true := code_word (m := ⟨16, 8⟩) (meth := k16m8) (c := k16c8) (by decide +kernel) rfl rfl rfl (by decide +kernel)
set_option maxRecDepth 65536 in
theorem w_c34 : (Jvm.Cond.code ({ cls := "java/lang/StringUTF16", name := "compress", desc := "([CI[BII)I" } : Jvm.MethodName) jdk_52_method_21_code (7 : Nat) (Option.some Jvm.ClassFile.FieldType.int)).before args0 about1 = true := code_word (m := ⟨16, 9⟩) (meth := k16m9) (c := k16c9) (by decide +kernel) rfl rfl rfl (by decide +kernel)
set_option maxRecDepth 65536 in
theorem w_c35 : (Jvm.Cond.code ({ cls := "java/lang/StringUTF16", name := "coderFromArrayLen", desc := "([BI)B" } : Jvm.MethodName) jdk_52_method_15_code (2 : Nat) (Option.some Jvm.ClassFile.FieldType.byte)).before args0 about1 = true := code_word (m := ⟨16, 7⟩) (meth := k16m7) (c := k16c7) (by decide +kernel) rfl rfl rfl (by decide +kernel)
set_option maxRecDepth 65536 in
theorem w_c36 : (Jvm.Cond.code ({ cls := "java/lang/StringUTF16", name := "toBytes", desc := "([CII)[B" } : Jvm.MethodName) jdk_52_method_14_code (5 : Nat) (Option.some (Jvm.ClassFile.FieldType.array Jvm.ClassFile.FieldType.byte))).before args0 about1 = true := code_word (m := ⟨16, 6⟩) (meth := k16m6) (c := k16c6) (by decide +kernel) rfl rfl rfl (by decide +kernel)
set_option maxRecDepth 65536 in
theorem w_c37 : (Jvm.Cond.code ({ cls := "java/lang/StringUTF16", name := "newBytesFor", desc := "(I)[B" } : Jvm.MethodName) jdk_52_method_2_code (1 : Nat) (Option.some (Jvm.ClassFile.FieldType.array Jvm.ClassFile.FieldType.byte))).before args0 about1 = true := code_word (m := ⟨16, 1⟩) (meth := k16m1) (c := k16c1) (by decide +kernel) rfl rfl rfl (by decide +kernel)
set_option maxRecDepth 65536 in
theorem w_c38 : (Jvm.Cond.code ({ cls := "java/lang/StringUTF16", name := "newBytesLength", desc := "(I)I" } : Jvm.MethodName) jdk_52_method_3_code (1 : Nat) (Option.some Jvm.ClassFile.FieldType.int)).before args0 about1 = true := code_word (m := ⟨16, 2⟩) (meth := k16m2) (c := k16c2) (by decide +kernel) rfl rfl rfl (by decide +kernel)
set_option maxRecDepth 65536 in
theorem w_c39 : (Jvm.Cond.code ({ cls := "java/lang/StringUTF16", name := "putChar", desc := "([BII)V" } : Jvm.MethodName) jdk_52_method_4_code (3 : Nat) (Option.none : Option Jvm.ClassFile.FieldType)).before args0 about1 = true := code_word (m := ⟨16, 3⟩) (meth := k16m3) (c := k16c3) (by decide +kernel) rfl rfl rfl (by decide +kernel)
set_option maxRecDepth 65536 in
theorem w_c40 : (Jvm.Cond.code ({ cls := "java/lang/StringUTF16", name := "getChar", desc := "([BI)C" } : Jvm.MethodName) jdk_52_method_5_code (2 : Nat) (Option.some Jvm.ClassFile.FieldType.char)).before args0 about1 = true := code_word (m := ⟨16, 4⟩) (meth := k16m4) (c := k16c4) (by decide +kernel) rfl rfl rfl (by decide +kernel)
set_option maxRecDepth 65536 in
theorem w_c41 : (Jvm.Cond.code ({ cls := "java/lang/AbstractStringBuilder", name := "inflate", desc := "()V" } : Jvm.MethodName) jdk_68_method_11_code (2 : Nat) (Option.none : Option Jvm.ClassFile.FieldType)).before args0 about1 = true := code_word (m := ⟨10, 4⟩) (meth := k10m4) (c := k10c4) (by decide +kernel) rfl rfl rfl (by decide +kernel)
set_option maxRecDepth 65536 in
theorem w_c42 : (Jvm.Cond.code ({ cls := "java/lang/StringLatin1", name := "inflate", desc := "([BI[BII)V" } : Jvm.MethodName) jdk_43_method_50_code (5 : Nat) (Option.none : Option Jvm.ClassFile.FieldType)).before args0 about1 = true := code_word (m := ⟨15, 2⟩) (meth := k15m2) (c := k15c2) (by decide +kernel) rfl rfl rfl (by decide +kernel)
set_option maxRecDepth 65536 in
theorem w_c43 : (Jvm.Cond.code ({ cls := "java/lang/StringUTF16", name := "inflate", desc := "([BI[BII)V" } : Jvm.MethodName) jdk_52_method_86_code (6 : Nat) (Option.none : Option Jvm.ClassFile.FieldType)).before args0 about1 = true := code_word (m := ⟨16, 10⟩) (meth := k16m10) (c := k16c10) (by decide +kernel) rfl rfl rfl (by decide +kernel)
set_option maxRecDepth 65536 in
theorem w_c44 : (Jvm.Cond.code ({ cls := "java/lang/StringUTF16", name := "checkBoundsOffCount", desc := "(II[B)V" } : Jvm.MethodName) jdk_52_method_94_code (3 : Nat) (Option.none : Option Jvm.ClassFile.FieldType)).before args0 about1 = true := code_word (m := ⟨16, 11⟩) (meth := k16m11) (c := k16c11) (by decide +kernel) rfl rfl rfl (by decide +kernel)
set_option maxRecDepth 65536 in
theorem w_c45 : (Jvm.Cond.code ({ cls := "java/lang/StringUTF16", name := "length", desc := "([B)I" } : Jvm.MethodName) jdk_52_method_6_code (1 : Nat) (Option.some Jvm.ClassFile.FieldType.int)).before args0 about1 = true := code_word (m := ⟨16, 5⟩) (meth := k16m5) (c := k16c5) (by decide +kernel) rfl rfl rfl (by decide +kernel)
set_option maxRecDepth 65536 in
theorem w_c46 : (Jvm.Cond.code ({ cls := "java/lang/String", name := "checkBoundsOffCount", desc := "(III)I" } : Jvm.MethodName) jdk_42_method_157_code (3 : Nat) (Option.some Jvm.ClassFile.FieldType.int)).before args0 about1 = true := code_word (m := ⟨7, 9⟩) (meth := k7m9) (c := k7c9) (by decide +kernel) rfl rfl rfl (by decide +kernel)
set_option maxRecDepth 65536 in
theorem w_c47 : (Jvm.Cond.code ({ cls := "jdk/internal/util/Preconditions", name := "checkFromIndexSize", desc := "(IIILjava/util/function/BiFunction;)I" } : Jvm.MethodName) jdk_41_method_13_code (4 : Nat) (Option.some Jvm.ClassFile.FieldType.int)).before args0 about1 = true := code_word (m := ⟨17, 1⟩) (meth := k17m1) (c := k17c1) (by decide +kernel) rfl rfl rfl (by decide +kernel)
def codes1 : List Jvm.Cond := [Jvm.Cond.code x code maxLocals ret, Jvm.Cond.code ({ cls := "com/example/wolf_spider/wolfspider/UrlOfPathPinLaw", name := "make", desc := "(ICCCC)Ljava/lang/String;" } : Jvm.MethodName) method_2_code (5 : Nat) (Option.some (Jvm.ClassFile.FieldType.object "java/lang/String")), Jvm.Cond.code ({ cls := "java/lang/String", name := "<init>", desc := "([C)V" } : Jvm.MethodName) jdk_42_method_3_code (2 : Nat) (Option.none : Option Jvm.ClassFile.FieldType), Jvm.Cond.code ({ cls := "java/lang/String", name := "<init>", desc := "([CIILjava/lang/Void;)V" } : Jvm.MethodName) jdk_42_method_149_code (6 : Nat) (Option.none : Option Jvm.ClassFile.FieldType), Jvm.Cond.code ({ cls := "java/lang/Object", name := "<init>", desc := "()V" } : Jvm.MethodName) object_method_1_code (1 : Nat) (Option.none : Option Jvm.ClassFile.FieldType), Jvm.Cond.code ({ cls := "com/example/wolf_spider/wolfspider/Url", name := "ofPath", desc := "(Ljava/lang/String;)Lcom/example/wolf_spider/wolfspider/Url;" } : Jvm.MethodName) prog_36_method_3_code (1 : Nat) (Option.some (Jvm.ClassFile.FieldType.object "com/example/wolf_spider/wolfspider/Url")), Jvm.Cond.code ({ cls := "com/example/wolf_spider/wolfspider/Url", name := "<init>", desc := "(Ljava/lang/String;Ljava/lang/String;Ljava/lang/String;Ljava/lang/String;)V" } : Jvm.MethodName) prog_36_method_1_code (5 : Nat) (Option.none : Option Jvm.ClassFile.FieldType), Jvm.Cond.code ({ cls := "com/example/wolf_spider/wolfspider/Url", name := "path", desc := "()Ljava/lang/String;" } : Jvm.MethodName) prog_36_method_7_code (1 : Nat) (Option.some (Jvm.ClassFile.FieldType.object "java/lang/String")), Jvm.Cond.code ({ cls := "java/lang/String", name := "equals", desc := "(Ljava/lang/Object;)Z" } : Jvm.MethodName) jdk_42_method_66_code (3 : Nat) (Option.some Jvm.ClassFile.FieldType.boolean), Jvm.Cond.code ({ cls := "com/example/wolf_spider/wolfspider/Url", name := "toString", desc := "()Ljava/lang/String;" } : Jvm.MethodName) prog_36_method_9_code (2 : Nat) (Option.some (Jvm.ClassFile.FieldType.object "java/lang/String")), Jvm.Cond.code ({ cls := "java/lang/StringBuilder", name := "<init>", desc := "()V" } : Jvm.MethodName) jdk_67_method_1_code (1 : Nat) (Option.none : Option Jvm.ClassFile.FieldType), Jvm.Cond.code ({ cls := "java/lang/AbstractStringBuilder", name := "<init>", desc := "(I)V" } : Jvm.MethodName) jdk_68_method_2_code (2 : Nat) (Option.none : Option Jvm.ClassFile.FieldType), Jvm.Cond.code ({ cls := "java/lang/StringBuilder", name := "append", desc := "(Ljava/lang/String;)Ljava/lang/StringBuilder;" } : Jvm.MethodName) jdk_67_method_7_code (2 : Nat) (Option.some (Jvm.ClassFile.FieldType.object "java/lang/StringBuilder")), Jvm.Cond.code ({ cls := "java/lang/AbstractStringBuilder", name := "append", desc := "(Ljava/lang/String;)Ljava/lang/AbstractStringBuilder;" } : Jvm.MethodName) jdk_68_method_22_code (3 : Nat) (Option.some (Jvm.ClassFile.FieldType.object "java/lang/AbstractStringBuilder")), Jvm.Cond.code ({ cls := "java/lang/String", name := "length", desc := "()I" } : Jvm.MethodName) jdk_42_method_54_code (1 : Nat) (Option.some Jvm.ClassFile.FieldType.int), Jvm.Cond.code ({ cls := "java/lang/String", name := "coder", desc := "()B" } : Jvm.MethodName) jdk_42_method_152_code (1 : Nat) (Option.some Jvm.ClassFile.FieldType.byte), Jvm.Cond.code ({ cls := "java/lang/AbstractStringBuilder", name := "ensureCapacityInternal", desc := "(I)V" } : Jvm.MethodName) jdk_68_method_9_code (3 : Nat) (Option.none : Option Jvm.ClassFile.FieldType), Jvm.Cond.code ({ cls := "java/lang/AbstractStringBuilder", name := "putStringAt", desc := "(ILjava/lang/String;)V" } : Jvm.MethodName) jdk_68_method_73_code (3 : Nat) (Option.none : Option Jvm.ClassFile.FieldType), Jvm.Cond.code ({ cls := "java/lang/AbstractStringBuilder", name := "inflateIfNeededFor", desc := "(Ljava/lang/String;)V" } : Jvm.MethodName) jdk_68_method_71_code (2 : Nat) (Option.none : Option Jvm.ClassFile.FieldType), Jvm.Cond.code ({ cls := "java/lang/String", name := "getBytes", desc := "([BIB)V" } : Jvm.MethodName) jdk_42_method_147_code (4 : Nat) (Option.none : Option Jvm.ClassFile.FieldType), Jvm.Cond.code ({ cls := "java/lang/StringBuilder", name := "toString", desc := "()Ljava/lang/String;" } : Jvm.MethodName) jdk_67_method_42_code (1 : Nat) (Option.some (Jvm.ClassFile.FieldType.object "java/lang/String")), Jvm.Cond.code ({ cls := "java/lang/String", name := "<init>", desc := "(Ljava/lang/StringBuilder;)V" } : Jvm.MethodName) jdk_42_method_53_code (2 : Nat) (Option.none : Option Jvm.ClassFile.FieldType), Jvm.Cond.code ({ cls := "java/lang/String", name := "<init>", desc := "(Ljava/lang/AbstractStringBuilder;Ljava/lang/Void;)V" } : Jvm.MethodName) jdk_42_method_150_code (5 : Nat) (Option.none : Option Jvm.ClassFile.FieldType), Jvm.Cond.code ({ cls := "java/lang/AbstractStringBuilder", name := "getValue", desc := "()[B" } : Jvm.MethodName) jdk_68_method_64_code (1 : Nat) (Option.some (Jvm.ClassFile.FieldType.array Jvm.ClassFile.FieldType.byte)), Jvm.Cond.code ({ cls := "java/lang/StringBuilder", name := "length", desc := "()I" } : Jvm.MethodName) jdk_67_method_93_code (1 : Nat) (Option.some Jvm.ClassFile.FieldType.int), Jvm.Cond.code ({ cls := "java/lang/AbstractStringBuilder", name := "length", desc := "()I" } : Jvm.MethodName) jdk_68_method_6_code (1 : Nat) (Option.some Jvm.ClassFile.FieldType.int), Jvm.Cond.code ({ cls := "java/lang/AbstractStringBuilder", name := "isLatin1", desc := "()Z" } : Jvm.MethodName) jdk_68_method_68_code (1 : Nat) (Option.some Jvm.ClassFile.FieldType.boolean), Jvm.Cond.code ({ cls := "java/util/Arrays", name := "copyOfRange", desc := "([BII)[B" } : Jvm.MethodName) jdk_65_method_132_code (3 : Nat) (Option.some (Jvm.ClassFile.FieldType.array Jvm.ClassFile.FieldType.byte)), Jvm.Cond.code ({ cls := "java/util/Arrays", name := "copyOfRangeByte", desc := "([BII)[B" } : Jvm.MethodName) jdk_65_method_133_code (5 : Nat) (Option.some (Jvm.ClassFile.FieldType.array Jvm.ClassFile.FieldType.byte)), Jvm.Cond.code ({ cls := "java/util/Arrays", name := "checkLength", desc := "(II)V" } : Jvm.MethodName) jdk_65_method_131_code (2 : Nat) (Option.none : Option Jvm.ClassFile.FieldType), Jvm.Cond.code ({ cls := "java/lang/Math", name := "min", desc := "(II)I" } : Jvm.MethodName) jdk_29_method_69_code (2 : Nat) (Option.some Jvm.ClassFile.FieldType.int), Jvm.Cond.code ({ cls := "java/lang/StringLatin1", name := "equals", desc := "([B[B)Z" } : Jvm.MethodName) jdk_43_method_13_code (3 : Nat) (Option.some Jvm.ClassFile.FieldType.boolean), Jvm.Cond.code ({ cls := "com/example/wolf_spider/wolfspider/Url", name := "pathAndQuery", desc := "()Ljava/lang/String;" } : Jvm.MethodName) prog_36_method_8_code (1 : Nat) (Option.some (Jvm.ClassFile.FieldType.object "java/lang/String")), Jvm.Cond.code ({ cls := "java/lang/StringUTF16", name := "compress", desc := "([CII)[B" } : Jvm.MethodName) jdk_52_method_16_code (6 : Nat) (Option.some (Jvm.ClassFile.FieldType.array Jvm.ClassFile.FieldType.byte)), Jvm.Cond.code ({ cls := "java/lang/StringUTF16", name := "compress", desc := "([CI[BII)I" } : Jvm.MethodName) jdk_52_method_21_code (7 : Nat) (Option.some Jvm.ClassFile.FieldType.int), Jvm.Cond.code ({ cls := "java/lang/StringUTF16", name := "coderFromArrayLen", desc := "([BI)B" } : Jvm.MethodName) jdk_52_method_15_code (2 : Nat) (Option.some Jvm.ClassFile.FieldType.byte), Jvm.Cond.code ({ cls := "java/lang/StringUTF16", name := "toBytes", desc := "([CII)[B" } : Jvm.MethodName) jdk_52_method_14_code (5 : Nat) (Option.some (Jvm.ClassFile.FieldType.array Jvm.ClassFile.FieldType.byte)), Jvm.Cond.code ({ cls := "java/lang/StringUTF16", name := "newBytesFor", desc := "(I)[B" } : Jvm.MethodName) jdk_52_method_2_code (1 : Nat) (Option.some (Jvm.ClassFile.FieldType.array Jvm.ClassFile.FieldType.byte)), Jvm.Cond.code ({ cls := "java/lang/StringUTF16", name := "newBytesLength", desc := "(I)I" } : Jvm.MethodName) jdk_52_method_3_code (1 : Nat) (Option.some Jvm.ClassFile.FieldType.int), Jvm.Cond.code ({ cls := "java/lang/StringUTF16", name := "putChar", desc := "([BII)V" } : Jvm.MethodName) jdk_52_method_4_code (3 : Nat) (Option.none : Option Jvm.ClassFile.FieldType), Jvm.Cond.code ({ cls := "java/lang/StringUTF16", name := "getChar", desc := "([BI)C" } : Jvm.MethodName) jdk_52_method_5_code (2 : Nat) (Option.some Jvm.ClassFile.FieldType.char), Jvm.Cond.code ({ cls := "java/lang/AbstractStringBuilder", name := "inflate", desc := "()V" } : Jvm.MethodName) jdk_68_method_11_code (2 : Nat) (Option.none : Option Jvm.ClassFile.FieldType), Jvm.Cond.code ({ cls := "java/lang/StringLatin1", name := "inflate", desc := "([BI[BII)V" } : Jvm.MethodName) jdk_43_method_50_code (5 : Nat) (Option.none : Option Jvm.ClassFile.FieldType), Jvm.Cond.code ({ cls := "java/lang/StringUTF16", name := "inflate", desc := "([BI[BII)V" } : Jvm.MethodName) jdk_52_method_86_code (6 : Nat) (Option.none : Option Jvm.ClassFile.FieldType), Jvm.Cond.code ({ cls := "java/lang/StringUTF16", name := "checkBoundsOffCount", desc := "(II[B)V" } : Jvm.MethodName) jdk_52_method_94_code (3 : Nat) (Option.none : Option Jvm.ClassFile.FieldType), Jvm.Cond.code ({ cls := "java/lang/StringUTF16", name := "length", desc := "([B)I" } : Jvm.MethodName) jdk_52_method_6_code (1 : Nat) (Option.some Jvm.ClassFile.FieldType.int), Jvm.Cond.code ({ cls := "java/lang/String", name := "checkBoundsOffCount", desc := "(III)I" } : Jvm.MethodName) jdk_42_method_157_code (3 : Nat) (Option.some Jvm.ClassFile.FieldType.int), Jvm.Cond.code ({ cls := "jdk/internal/util/Preconditions", name := "checkFromIndexSize", desc := "(IIILjava/util/function/BiFunction;)I" } : Jvm.MethodName) jdk_41_method_13_code (4 : Nat) (Option.some Jvm.ClassFile.FieldType.int)]
set_option maxRecDepth 65536 in
theorem codes_eq : words1.filter isCode = codes1 := rfl
theorem w_codes : ∀ c ∈ words1.filter isCode, c.before args0 about1 = true := by
  rw [codes_eq]
  intro c hc
  simp only [codes1, List.mem_cons, List.not_mem_nil, or_false] at hc
  rcases hc with rfl | rfl | rfl | rfl | rfl | rfl | rfl | rfl | rfl | rfl | rfl | rfl | rfl | rfl | rfl | rfl | rfl | rfl | rfl | rfl | rfl | rfl | rfl | rfl | rfl | rfl | rfl | rfl | rfl | rfl | rfl | rfl | rfl | rfl | rfl | rfl | rfl | rfl | rfl | rfl | rfl | rfl | rfl | rfl | rfl | rfl | rfl | rfl
  · exact w_c0
  · exact w_c1
  · exact w_c2
  · exact w_c3
  · exact w_c4
  · exact w_c5
  · exact w_c6
  · exact w_c7
  · exact w_c8
  · exact w_c9
  · exact w_c10
  · exact w_c11
  · exact w_c12
  · exact w_c13
  · exact w_c14
  · exact w_c15
  · exact w_c16
  · exact w_c17
  · exact w_c18
  · exact w_c19
  · exact w_c20
  · exact w_c21
  · exact w_c22
  · exact w_c23
  · exact w_c24
  · exact w_c25
  · exact w_c26
  · exact w_c27
  · exact w_c28
  · exact w_c29
  · exact w_c30
  · exact w_c31
  · exact w_c32
  · exact w_c33
  · exact w_c34
  · exact w_c35
  · exact w_c36
  · exact w_c37
  · exact w_c38
  · exact w_c39
  · exact w_c40
  · exact w_c41
  · exact w_c42
  · exact w_c43
  · exact w_c44
  · exact w_c45
  · exact w_c46
  · exact w_c47
set_option maxRecDepth 65536 in
theorem w_t1 : (words1.take 24).all (fun c => isCode c || c.before args0 about1) = true := by decide +kernel
set_option maxRecDepth 65536 in
theorem w_t2 : ((words1.drop 24).take 24).all (fun c => isCode c || c.before args0 about1) = true := by decide +kernel
set_option maxRecDepth 65536 in
theorem w_t3 : (((words1.drop 24).drop 24).take 24).all (fun c => isCode c || c.before args0 about1) = true := by decide +kernel
set_option maxRecDepth 65536 in
theorem w_t4 : ((((words1.drop 24).drop 24).drop 24).take 24).all (fun c => isCode c || c.before args0 about1) = true := by decide +kernel
set_option maxRecDepth 65536 in
theorem w_t5 : (((((words1.drop 24).drop 24).drop 24).drop 24).take 24).all (fun c => isCode c || c.before args0 about1) = true := by decide +kernel
set_option maxRecDepth 65536 in
theorem w_t6 : ((((((words1.drop 24).drop 24).drop 24).drop 24).drop 24).take 24).all (fun c => isCode c || c.before args0 about1) = true := by decide +kernel
set_option maxRecDepth 65536 in
theorem w_t7 : (((((((words1.drop 24).drop 24).drop 24).drop 24).drop 24).drop 24).take 24).all (fun c => isCode c || c.before args0 about1) = true := by decide +kernel
set_option maxRecDepth 65536 in
theorem w_t8 : ((((((((words1.drop 24).drop 24).drop 24).drop 24).drop 24).drop 24).drop 24).take 24).all (fun c => isCode c || c.before args0 about1) = true := by decide +kernel
set_option maxRecDepth 65536 in
theorem w_t9 : (((((((((words1.drop 24).drop 24).drop 24).drop 24).drop 24).drop 24).drop 24).drop 24).take 24).all (fun c => isCode c || c.before args0 about1) = true := by decide +kernel
set_option maxRecDepth 65536 in
theorem w_t10 : ((((((((((words1.drop 24).drop 24).drop 24).drop 24).drop 24).drop 24).drop 24).drop 24).drop 24).take 24).all (fun c => isCode c || c.before args0 about1) = true := by decide +kernel
set_option maxRecDepth 65536 in
theorem w_t11 : ((((((((((words1.drop 24).drop 24).drop 24).drop 24).drop 24).drop 24).drop 24).drop 24).drop 24).drop 24).all (fun c => isCode c || c.before args0 about1) = true := by decide +kernel
theorem w_tables : (allAtoms (Jvm.Cond.code x code maxLocals ret :: tables_1)).before args0 about1 = true := by
  rw [allAtoms_all]
  show words1.all (fun c => c.before args0 about1) = true
  refine all_split ?_ w_codes
  rw [← List.take_append_drop 24 words1, List.all_append, w_t1, ← List.take_append_drop 24 (words1.drop 24), List.all_append, w_t2, ← List.take_append_drop 24 ((words1.drop 24).drop 24), List.all_append, w_t3, ← List.take_append_drop 24 (((words1.drop 24).drop 24).drop 24), List.all_append, w_t4, ← List.take_append_drop 24 ((((words1.drop 24).drop 24).drop 24).drop 24), List.all_append, w_t5, ← List.take_append_drop 24 (((((words1.drop 24).drop 24).drop 24).drop 24).drop 24), List.all_append, w_t6, ← List.take_append_drop 24 ((((((words1.drop 24).drop 24).drop 24).drop 24).drop 24).drop 24), List.all_append, w_t7, ← List.take_append_drop 24 (((((((words1.drop 24).drop 24).drop 24).drop 24).drop 24).drop 24).drop 24), List.all_append, w_t8, ← List.take_append_drop 24 ((((((((words1.drop 24).drop 24).drop 24).drop 24).drop 24).drop 24).drop 24).drop 24), List.all_append, w_t9, ← List.take_append_drop 24 (((((((((words1.drop 24).drop 24).drop 24).drop 24).drop 24).drop 24).drop 24).drop 24).drop 24), List.all_append, w_t10, w_t11]
  rfl
set_option maxRecDepth 65536 in
theorem w_rest : rest_1_c.before args0 about1 = true := by decide +kernel
set_option maxRecDepth 65536 in
theorem w_case : (Jvm.Cond.and given_1 narrow_1).before args0 about1 = true := by decide +kernel
set_option maxRecDepth 65536 in
theorem w_consts : constsHeld consts_1 about1 := Jvm.Lit.constsHeldB_iff.mp (by decide +kernel)
theorem w_applies : (headSpec (Jvm.Cond.code x code maxLocals ret :: tables_1) room_1).applies x e0.platform about1 = true :=
  (Spec.applies_iff w_frames).mpr ⟨w_running, w_runnable, w_alone, w_named, w_hears, w_ripe, w_room, w_tables⟩
theorem atStart : AtStart classFile x code maxLocals ret World_1 tables_1 room_1 Calls_1 rest_1 Pre_1 launch0 p0 e0 about1 theMethod args0 below0 :=
  ⟨lists_1, trivial, launch0.admits_env _ _ _, launch0.least_env, fairChoices_fair.cas, fairChoices_fair.clock, w_frames, w_args, w_heap, w_applies, ⟨w_consts, trivial⟩, w_rest, w_case⟩
end start1
theorem witness_1 : WitnessClaimed_1 := ⟨start1.p0, start1.e0, start1.about1, start1.theMethod, start1.args0, start1.below0, start1.atStart⟩
end Jvm.Pilot.@@N@@
