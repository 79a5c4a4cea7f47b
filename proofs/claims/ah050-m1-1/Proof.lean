import JvmDerived
import JvmDerived.Pilot.@@N@@Statement
import JvmDerived.Pilot.@@N@@Code
set_option linter.unusedVariables false
set_option linter.unusedSimpArgs false
namespace Jvm.Pilot.@@N@@
open Jvm Jvm.ClassFile Sem Op Lib Jvm.Free Jvm.Stand Jvm.LawKit Jvm.RoadKit Bundle Jvm.Pilot.@@N@@.Jvm.D
theorem own_dummy : True := trivial
section Own
variable {p : Program} {l : Launch} {e : Env} {R : Room} {s : State} {m : MethodId} {args : Array Value} {below : List Frame} {meth : Method} {c : Code} {T : State} {locs : List Loc} {cells slots : Nat}
def own_Fin (p : Program) (e : Env) (below : List Frame) (P : Outcome → State → Prop) (U : State) : Prop := ∃ s₂ o, Steps p.tables e below U s₂ ∧ s₂.status = .running ∧ Ended s₂ below o ∧ P o s₂
def own_P (Q : Option Value → Heap → List Loc → Prop) (s : State) (C S : Nat) : Outcome → State → Prop := fun o t => ∃ v L, o = .returned v ∧ Q v t.heap L ∧ FrameEnd s o t L C S
theorem own_go {P : Outcome → State → Prop} {U U' : State} (k : own_Fin p e below P U') (h : ∀ t, Steps p.tables e below U' t → Steps p.tables e below U t) : own_Fin p e below P U := by
  obtain ⟨t, o, h1, r⟩ := k; exact ⟨t, o, h t h1, r⟩
theorem own_cut {P : Outcome → State → Prop} {U : State} (A : Prop) (k : A) (h : A → own_Fin p e below P U) : own_Fin p e below P U := h k
theorem own_retN (X : Stand p l e R s m args below meth c T locs cells slots) (hx : p.tables.exec = Jvm.exec) {pc : Nat} {Ls : Array Slot} {z : Int32} {t : FieldType} {rest : List Value} (hret : meth.sig.returnType = some t) (ht : t = .boolean ∨ t = .byte ∨ t = .char ∨ t = .short)
    (hd : decode c.code pc = .ok (.ireturn, 1)) (hlk : meth.locks = false) {Q : Option Value → Heap → List Loc → Prop} {C S : Nat} (hQ : Q (some (.int (nar t z))) T.heap locs) (hC : cells ≤ C) (hS : slots ≤ S) : own_Fin p e below (own_P Q s C S) (T.setTop (mkF m pc Ls (.int z :: rest))) := by
  obtain ⟨fs, hr, hrun, hended, hW, hsame⟩ := X.leave (v := some (.int (nar t z))) (fun h => by rw [hret] at h; cases h) hlk
  exact ⟨_, _, retN X hx hret ht hd hr, hrun, hended, _, _, rfl, hQ, ⟨_, rfl⟩, hW, hsame.mono hC hS⟩
theorem own_retO (X : Stand p l e R s m args below meth c T locs cells slots) (hx : p.tables.exec = Jvm.exec) {pc : Nat} {Ls : Array Slot} {w : Value} {t : FieldType} {i : Instr} {rest : List Value} (hret : meth.sig.returnType = some t) (hn : narrow t w = w)
    (hi : (i = .ireturn ∧ (t = .int ∨ t = .boolean ∨ t = .byte ∨ t = .char ∨ t = .short) ∧ ∃ z, w = .int z) ∨ (i = .lreturn ∧ t = .long ∧ ∃ z, w = .long z) ∨ (i = .dreturn ∧ t = .double ∧ ∃ z, w = .double z) ∨ (i = .freturn ∧ t = .float ∧ ∃ z, w = .float z) ∨ (i = .areturn ∧ t.isReference = true ∧ w.isRef = true))
    (hd : decode c.code pc = .ok (i, 1)) (hlk : meth.locks = false) {Q : Option Value → Heap → List Loc → Prop} {C S : Nat} (hQ : Q (some w) T.heap locs) (hC : cells ≤ C) (hS : slots ≤ S) : own_Fin p e below (own_P Q s C S) (T.setTop (mkF m pc Ls (w :: rest))) := by
  obtain ⟨fs, hr, hrun, hended, hW, hsame⟩ := X.leave (v := some w) (fun h => by rw [hret] at h; cases h) hlk
  exact ⟨_, _, retOut X hx hret hn hi hd hr, hrun, hended, _, _, rfl, hQ, ⟨_, rfl⟩, hW, hsame.mono hC hS⟩
theorem own_retV (X : Stand p l e R s m args below meth c T locs cells slots) (hx : p.tables.exec = Jvm.exec) {pc : Nat} {Ls : Array Slot} (hret : meth.sig.returnType = none)
    (hd : decode c.code pc = .ok (.return_, 1)) (hlk : meth.locks = false) {Q : Option Value → Heap → List Loc → Prop} {C S : Nat} (hQ : Q none T.heap locs) (hC : cells ≤ C) (hS : slots ≤ S) : own_Fin p e below (own_P Q s C S) (T.setTop (mkF m pc Ls [])) := by
  obtain ⟨fs, hr, hrun, hended, hW, hsame⟩ := X.leave (v := none) (fun _ => rfl) hlk
  exact ⟨_, _, X.returnOut hx hret hd hr, hrun, hended, _, _, rfl, hQ, ⟨_, rfl⟩, hW, hsame.mono hC hS⟩
theorem own_getR {Z : State} {a0 : Array Value} {h : Heap} (X : Stand p l e R s m args below meth c T locs cells slots) (hx : p.tables.exec = Jvm.exec) (hZ : Z.Warmed39 s.vm) {own O n d : String} {index : Nat} (hown : s.vm.findClass own = some m.cls) (w : (Jvm.Cond.fieldRef own index O n d).before a0 Z = true)
    (eT : T.heap = h) {a : Addr} {v : Value} (F : Fld Z h a O n d v) {g : JFrame} (hg : g.method = m) {rest : List Value} (hs : g.stack = .ref a :: rest) (hd : decode c.code g.pc = .ok (.getfield index, 3)) :
    ∀ target, Steps p.tables e below (T.setTop { g with pc := g.pc + 3, stack := v :: rest }) target → Steps p.tables e below (T.setTop g) target := by
  obtain ⟨cell, cf, k, i, f, h1, h2, h3, h4, -, -, h7⟩ := F
  have hU : Z.Warmed39 T.vm := wtrans hZ X.warmed
  have w0 : (Jvm.Cond.fieldRef own index O n d).before a0 (Z.setVm T.vm) = true := Cond.fieldRef_warmed39 hU w
  have w' : (Jvm.Cond.fieldRef own index O n d).before args T = true := w0
  have hc : T.vm.findClass own = some m.cls := by rw [X.warmed.alike.findClass]; exact hown
  obtain ⟨c', k', i', f', q1, q2⟩ := Cond.fieldRef_spec hc w'
  obtain ⟨k2, hi, -⟩ := State.fieldFound?_setVm (s := Z) hU.alike h2
  have hi' : T.fieldFound? O n d = some (cf, k2, i, f) := hi
  cases q1.symm.trans hi'
  intro target ht
  exact (X.getfieldR hx hg q2 h3 hs (by rw [eT]; exact h1) h4 h7 hd (Steps.refl _)).trans ht
end Own
def Q1 (r : Addr) (h0 : Heap) (n0 : Nat) (v : Option Value) (h : Heap) (L : List Loc) : Prop := v = some (.ref r) ∧ Fr n0 L ∧ h = h0
def Q2 (z : Int32) (h0 : Heap) (n0 : Nat) (v : Option Value) (h : Heap) (L : List Loc) : Prop := v = some (.int z) ∧ Fr n0 L ∧ h = h0
def Q3 (h0 : Heap) (n0 : Nat) (v : Option Value) (h : Heap) (L : List Loc) : Prop := v = some .null ∧ Fr n0 L ∧ h = h0
def Q0 (n0 : Nat) (v : Option Value) (h : Heap) (L : List Loc) : Prop := v = some (.int 1) ∧ Fr n0 L
theorem pn_0 : plainFor (⟨"com/example/austere_json/austerejson/JudgedOfPinLaw", "law", "(I)Z"⟩ : MethodName) = true := plainFor_of_name (by first | (simp [plainName, overriddenIn]; done) | decide +kernel)
theorem d1_0 : decode prog_5_method_2_code 0 = .ok (.iload_n 0, 1) := by decide +kernel
theorem d1_1 : decode prog_5_method_2_code 1 = .ok (.ifCond .eq 9, 3) := by decide +kernel
theorem d1_4 : decode prog_5_method_2_code 4 = .ok (.getstatic 13, 3) := by decide +kernel
theorem d1_7 : decode prog_5_method_2_code 7 = .ok (.goto 6, 3) := by decide +kernel
theorem d1_10 : decode prog_5_method_2_code 10 = .ok (.getstatic 17, 3) := by decide +kernel
theorem d1_13 : decode prog_5_method_2_code 13 = .ok (.areturn, 1) := by decide +kernel
theorem pn_1 : plainFor (⟨"com/example/austere_json/austerejson/Frame$Judged", "of", "(Z)Lcom/example/austere_json/austerejson/Frame$Judged;"⟩ : MethodName) = true := plainFor_of_name (by first | (simp [plainName, overriddenIn]; done) | decide +kernel)
theorem d2_0 : decode prog_5_method_5_code 0 = .ok (.aload_n 0, 1) := by decide +kernel
theorem d2_1 : decode prog_5_method_5_code 1 = .ok (.getfield 7, 3) := by decide +kernel
theorem d2_4 : decode prog_5_method_5_code 4 = .ok (.ireturn, 1) := by decide +kernel
theorem pn_2 : plainFor (⟨"com/example/austere_json/austerejson/Frame$Judged", "finish", "()Z"⟩ : MethodName) = true := plainFor_of_name (by first | (simp [plainName, overriddenIn]; done) | decide +kernel)
theorem d3_0 : decode prog_5_method_3_code 0 = .ok (.aconst_null, 1) := by decide +kernel
theorem d3_1 : decode prog_5_method_3_code 1 = .ok (.areturn, 1) := by decide +kernel
theorem pn_3 : plainFor (⟨"com/example/austere_json/austerejson/Frame$Judged", "next", "()Lcom/example/austere_json/austerejson/Frame;"⟩ : MethodName) = true := plainFor_of_name (by first | (simp [plainName, overriddenIn]; done) | decide +kernel)
theorem own_pd0 : parseMethodDescriptor "(Z)Lcom/example/austere_json/austerejson/Frame$Judged;" = some ⟨[.boolean], some (.object "com/example/austere_json/austerejson/Frame$Judged")⟩ := by decide +kernel
theorem own_pd1 : parseMethodDescriptor "()Z" = some ⟨[], some .boolean⟩ := by decide +kernel
theorem own_pd2 : parseMethodDescriptor "()Lcom/example/austere_json/austerejson/Frame;" = some ⟨[], some (.object "com/example/austere_json/austerejson/Frame")⟩ := by decide +kernel
set_option maxRecDepth 65536 in
set_option maxHeartbeats 40000000 in
theorem rm1 (l : Launch) (Z : State) (a0 : Array Value) (hw : ∀ d ∈ tables_1, d.before a0 Z = true) (ws : List Jvm.Cond) (p1 : Int32) (f : Addr) (tt : Addr) (r : Addr) (h0 : Heap) (n0 : Nat) (Z0 : n0 ≤ h0.size) (O0 : Old Z n0 h0) (SF : Sta Z Z.heap "com/example/austere_json/austerejson/Frame$Judged" "FAILS" "Lcom/example/austere_json/austerejson/Frame$Judged;" (.ref f)) (SH : Sta Z Z.heap "com/example/austere_json/austerejson/Frame$Judged" "HOLDS" "Lcom/example/austere_json/austerejson/Frame$Judged;" (.ref tt)) (hr : (p1 = 0 → r = f) ∧ (¬ p1 = 0 → r = tt)) :
    MetFree l (⟨"com/example/austere_json/austerejson/Frame$Judged", "of", "(Z)Lcom/example/austere_json/austerejson/Frame$Judged;"⟩ : MethodName) (head1 (Jvm.Cond.code (⟨"com/example/austere_json/austerejson/Frame$Judged", "of", "(Z)Lcom/example/austere_json/austerejson/Frame$Judged;"⟩ : MethodName) prog_5_method_2_code 1 (some (.object "com/example/austere_json/austerejson/Frame$Judged")) :: ws) ({ frames := 0, cells := 0, slots := 0, locals := 0 } : Room)) (fun a U => a = #[(.int p1)] ∧ Z.Warmed39 U.vm ∧ U.heap = h0) (fun _ _ _ _ _ => True) (fun _ U o U' => ∃ v L, o = .returned v ∧ Q1 r h0 n0 v U'.heap L ∧ FrameEnd U o U' L ({ frames := 0, cells := 0, slots := 0, locals := 0 } : Room).cells ({ frames := 0, cells := 0, slots := 0, locals := 0 } : Room).slots) := by
  refine MetFree.of_bodySF pn_1 hisR ?_
  intro p e s m args below meth c s₁ Bd hml0 hP hK
  obtain ⟨rfl, hZ, hh⟩ := hP
  have hx := Bd.exec
  have hby := Bd.bytes
  have hml : c.maxLocals = 1 := hml0
  have hown : s.vm.findClass "com/example/austere_json/austerejson/Frame$Judged" = some m.cls := findClass_of_methodNamed Bd.named
  have hnm := (name_of_methodNamed Bd.named Bd.method).1
  have hlk : meth.locks = false := BodyLoose.notSynchronized Bd
  have X0 : Stand p l e ({ frames := 0, cells := 0, slots := 0, locals := 0 } : Room) s m #[(.int p1)] below meth c s₁ [] 0 0 := Stand.of_body Bd
  have e0 : s₁.heap = h0 := by rw [← hh, Bd.state]; rfl
  have N0 := Fr.nil n0
  show own_Fin p e below (own_P (Q1 r h0 n0) s ({ frames := 0, cells := 0, slots := 0, locals := 0 } : Room).cells ({ frames := 0, cells := 0, slots := 0, locals := 0 } : Room).slots) (s₁.setTop (entryFrame m #[(.int p1)] 1))
  rw [show entryFrame m #[(.int p1)] 1 = mkF m 0 #[.val (.int p1)] [] from by first | (simp [entryFrame, mkF, argsToLocals, Value.category]; done) | rfl]
  refine own_go ?_ (fun tq kt => XS.iloadN X0.here hx rfl (hb hby d1_0) rfl kt)
  show own_Fin _ _ _ _ (s₁.setTop (mkF m 1 #[.val (.int p1)] [(.int p1)]))
  by_cases hc1_1 : p1 = (0 : Int32)
  · refine own_go ?_ (fun tq kt => XS.ifYes X0.here hx rfl (pc0 := 1) (pc' := 10) rfl (hb hby d1_1) rfl ((if0 _ _).trans (teq (hc1_1 : p1 = (0 : Int32))).1) (by decide) (by decide) kt)
    show own_Fin _ _ _ _ (s₁.setTop (mkF m 10 #[.val (.int p1)] []))
    obtain ⟨T2, X2, e2, st2⟩ := getS2 X0 hx hZ hown (host := "") (Or.inl (hw _ (List.mem_of_getElem? (i := 4) rfl))) Via.refl e0 (SF.ext O0.2) (g := (mkF m 10 #[.val (.int p1)] [])) rfl (hb hby d1_10)
    refine own_go ?_ (fun tq kt => st2 _ kt)
    show own_Fin _ _ _ _ (T2.setTop (mkF m 13 #[.val (.int p1)] [(.ref f)]))
    refine own_retO X2 hx (t := (.object "com/example/austere_json/austerejson/Frame$Judged")) Bd.returns rfl (Or.inr (Or.inr (Or.inr (Or.inr ⟨rfl, rfl, rfl⟩)))) (hb hby d1_13) hlk ?_ (by decide) (by decide)
    show Q1 r h0 n0 _ T2.heap _
    rw [e2]
    exact ⟨by rw [hr.1 hc1_1], N0, rfl⟩
  · refine own_go ?_ (fun tq kt => XS.ifNo X0.here hx rfl (hb hby d1_1) rfl ((if0 _ _).trans (feq (hc1_1 : ¬ (p1 = (0 : Int32)))).1) kt)
    show own_Fin _ _ _ _ (s₁.setTop (mkF m 4 #[.val (.int p1)] []))
    obtain ⟨T3, X3, e3, st3⟩ := getS2 X0 hx hZ hown (host := "") (Or.inl (hw _ (List.mem_of_getElem? (i := 6) rfl))) Via.refl e0 (SH.ext O0.2) (g := (mkF m 4 #[.val (.int p1)] [])) rfl (hb hby d1_4)
    refine own_go ?_ (fun tq kt => st3 _ kt)
    show own_Fin _ _ _ _ (T3.setTop (mkF m 7 #[.val (.int p1)] [(.ref tt)]))
    refine own_go ?_ (fun tq kt => XS.goto X3.here hx rfl (pc0 := 7) (pc' := 13) rfl (hb hby d1_7) (by decide) (by decide) kt)
    show own_Fin _ _ _ _ (T3.setTop (mkF m 13 #[.val (.int p1)] [(.ref tt)]))
    refine own_retO X3 hx (t := (.object "com/example/austere_json/austerejson/Frame$Judged")) Bd.returns rfl (Or.inr (Or.inr (Or.inr (Or.inr ⟨rfl, rfl, rfl⟩)))) (hb hby d1_13) hlk ?_ (by decide) (by decide)
    show Q1 r h0 n0 _ T3.heap _
    rw [e3]
    exact ⟨by rw [hr.2 hc1_1], N0, rfl⟩
set_option maxRecDepth 65536 in
set_option maxHeartbeats 40000000 in
theorem rm2 (l : Launch) (Z : State) (a0 : Array Value) (hw : ∀ d ∈ tables_1, d.before a0 Z = true) (ws : List Jvm.Cond) (a1 : Addr) (z : Int32) (h0 : Heap) (n0 : Nat) (Z0 : n0 ≤ h0.size) (O0 : Old Z n0 h0) (F : Fld Z Z.heap a1 "com/example/austere_json/austerejson/Frame$Judged" "holds" "Z" (.int z)) (hz : nar .boolean z = z) :
    MetFree l (⟨"com/example/austere_json/austerejson/Frame$Judged", "finish", "()Z"⟩ : MethodName) (head1 (Jvm.Cond.code (⟨"com/example/austere_json/austerejson/Frame$Judged", "finish", "()Z"⟩ : MethodName) prog_5_method_5_code 1 (some .boolean) :: ws) ({ frames := 0, cells := 0, slots := 0, locals := 0 } : Room)) (fun a U => a = #[(.ref a1)] ∧ Z.Warmed39 U.vm ∧ U.heap = h0) (fun _ _ _ _ _ => True) (fun _ U o U' => ∃ v L, o = .returned v ∧ Q2 z h0 n0 v U'.heap L ∧ FrameEnd U o U' L ({ frames := 0, cells := 0, slots := 0, locals := 0 } : Room).cells ({ frames := 0, cells := 0, slots := 0, locals := 0 } : Room).slots) := by
  refine MetFree.of_bodySF pn_2 hisR ?_
  intro p e s m args below meth c s₁ Bd hml0 hP hK
  obtain ⟨rfl, hZ, hh⟩ := hP
  have hx := Bd.exec
  have hby := Bd.bytes
  have hml : c.maxLocals = 1 := hml0
  have hown : s.vm.findClass "com/example/austere_json/austerejson/Frame$Judged" = some m.cls := findClass_of_methodNamed Bd.named
  have hnm := (name_of_methodNamed Bd.named Bd.method).1
  have hlk : meth.locks = false := BodyLoose.notSynchronized Bd
  have X0 : Stand p l e ({ frames := 0, cells := 0, slots := 0, locals := 0 } : Room) s m #[(.ref a1)] below meth c s₁ [] 0 0 := Stand.of_body Bd
  have e0 : s₁.heap = h0 := by rw [← hh, Bd.state]; rfl
  have N0 := Fr.nil n0
  show own_Fin p e below (own_P (Q2 z h0 n0) s ({ frames := 0, cells := 0, slots := 0, locals := 0 } : Room).cells ({ frames := 0, cells := 0, slots := 0, locals := 0 } : Room).slots) (s₁.setTop (entryFrame m #[(.ref a1)] 1))
  rw [show entryFrame m #[(.ref a1)] 1 = mkF m 0 #[.val (.ref a1)] [] from by first | (simp [entryFrame, mkF, argsToLocals, Value.category]; done) | rfl]
  refine own_go ?_ (fun tq kt => XS.aloadN X0.here hx rfl (hb hby d2_0) rfl rfl kt)
  show own_Fin _ _ _ _ (s₁.setTop (mkF m 1 #[.val (.ref a1)] [(.ref a1)]))
  obtain ⟨T4, X4, e4, st4⟩ := getF X0 hx hZ hown (host := "") (Or.inl (hw _ (List.mem_of_getElem? (i := 14) rfl))) Via.refl e0 (F.ext O0.2) (g := (mkF m 1 #[.val (.ref a1)] [(.ref a1)])) rfl rfl (hb hby d2_1)
  refine own_go ?_ (fun tq kt => st4 _ kt)
  show own_Fin _ _ _ _ (T4.setTop (mkF m 4 #[.val (.ref a1)] [(.int z)]))
  refine own_retN X4 hx (t := .boolean) Bd.returns (by simp) (hb hby d2_4) hlk ?_ (by decide) (by decide)
  show Q2 z h0 n0 _ T4.heap _
  rw [e4]
  exact ⟨by rw [hz], N0, rfl⟩
set_option maxRecDepth 65536 in
set_option maxHeartbeats 40000000 in
theorem rm3 (l : Launch) (Z : State) (a0 : Array Value) (hw : ∀ d ∈ tables_1, d.before a0 Z = true) (ws : List Jvm.Cond) (a1 : Addr)  (h0 : Heap) (n0 : Nat) (Z0 : n0 ≤ h0.size) :
    MetFree l (⟨"com/example/austere_json/austerejson/Frame$Judged", "next", "()Lcom/example/austere_json/austerejson/Frame;"⟩ : MethodName) (head1 (Jvm.Cond.code (⟨"com/example/austere_json/austerejson/Frame$Judged", "next", "()Lcom/example/austere_json/austerejson/Frame;"⟩ : MethodName) prog_5_method_3_code 1 (some (.object "com/example/austere_json/austerejson/Frame")) :: ws) ({ frames := 0, cells := 0, slots := 0, locals := 0 } : Room)) (fun a U => a = #[(.ref a1)] ∧ Z.Warmed39 U.vm ∧ U.heap = h0) (fun _ _ _ _ _ => True) (fun _ U o U' => ∃ v L, o = .returned v ∧ Q3 h0 n0 v U'.heap L ∧ FrameEnd U o U' L ({ frames := 0, cells := 0, slots := 0, locals := 0 } : Room).cells ({ frames := 0, cells := 0, slots := 0, locals := 0 } : Room).slots) := by
  refine MetFree.of_bodySF pn_3 hisR ?_
  intro p e s m args below meth c s₁ Bd hml0 hP hK
  obtain ⟨rfl, hZ, hh⟩ := hP
  have hx := Bd.exec
  have hby := Bd.bytes
  have hml : c.maxLocals = 1 := hml0
  have hown : s.vm.findClass "com/example/austere_json/austerejson/Frame$Judged" = some m.cls := findClass_of_methodNamed Bd.named
  have hnm := (name_of_methodNamed Bd.named Bd.method).1
  have hlk : meth.locks = false := BodyLoose.notSynchronized Bd
  have X0 : Stand p l e ({ frames := 0, cells := 0, slots := 0, locals := 0 } : Room) s m #[(.ref a1)] below meth c s₁ [] 0 0 := Stand.of_body Bd
  have e0 : s₁.heap = h0 := by rw [← hh, Bd.state]; rfl
  have N0 := Fr.nil n0
  show own_Fin p e below (own_P (Q3 h0 n0) s ({ frames := 0, cells := 0, slots := 0, locals := 0 } : Room).cells ({ frames := 0, cells := 0, slots := 0, locals := 0 } : Room).slots) (s₁.setTop (entryFrame m #[(.ref a1)] 1))
  rw [show entryFrame m #[(.ref a1)] 1 = mkF m 0 #[.val (.ref a1)] [] from by first | (simp [entryFrame, mkF, argsToLocals, Value.category]; done) | rfl]
  refine own_go ?_ (fun tq kt => XS.aconstNull X0.here hx rfl (hb hby d3_0) kt)
  show own_Fin _ _ _ _ (s₁.setTop (mkF m 1 #[.val (.ref a1)] [.null]))
  refine own_retO X0 hx (t := (.object "com/example/austere_json/austerejson/Frame")) Bd.returns rfl (Or.inr (Or.inr (Or.inr (Or.inr ⟨rfl, rfl, rfl⟩)))) (hb hby d3_1) hlk ?_ (by decide) (by decide)
  show Q3 h0 n0 _ s₁.heap _
  rw [e0]
  exact ⟨rfl, N0, rfl⟩
set_option maxRecDepth 65536 in
set_option maxHeartbeats 40000000 in
theorem rm0 (l : Launch) (Z : State) (a0 : Array Value) (hw : ∀ d ∈ tables_1, d.before a0 Z = true) (ws : List Jvm.Cond) (p1 : Int32) (f : Addr) (tt : Addr) (h0 : Heap) (n0 : Nat) (Z0 : n0 ≤ h0.size) (O0 : Old Z n0 h0) (SF : Sta Z Z.heap "com/example/austere_json/austerejson/Frame$Judged" "FAILS" "Lcom/example/austere_json/austerejson/Frame$Judged;" (.ref f)) (SH : Sta Z Z.heap "com/example/austere_json/austerejson/Frame$Judged" "HOLDS" "Lcom/example/austere_json/austerejson/Frame$Judged;" (.ref tt)) (EF : Exa Z Z.heap f "com/example/austere_json/austerejson/Frame$Judged") (ET : Exa Z Z.heap tt "com/example/austere_json/austerejson/Frame$Judged") (FF : Fld Z Z.heap f "com/example/austere_json/austerejson/Frame$Judged" "holds" "Z" (.int 0)) (FT : Fld Z Z.heap tt "com/example/austere_json/austerejson/Frame$Judged" "holds" "Z" (.int 1)) (hne : f ≠ tt) :
    MetFree l x (head1 (Jvm.Cond.code x code maxLocals ret :: ws) room_1) (fun a U => a = #[(.int p1)] ∧ Z.Warmed39 U.vm ∧ U.heap = h0) (fun _ _ _ _ _ => True) (fun _ U o U' => ∃ v L, o = .returned v ∧ Q0 n0 v U'.heap L ∧ FrameEnd U o U' L room_1.cells room_1.slots) := by
  refine MetFree.of_bodySF pn_0 hisR ?_
  intro p e s m args below meth c s₁ Bd hml0 hP hK
  obtain ⟨rfl, hZ, hh⟩ := hP
  have hx := Bd.exec
  have hby := Bd.bytes
  have hml : c.maxLocals = 9 := hml0
  have hown : s.vm.findClass "com/example/austere_json/austerejson/JudgedOfPinLaw" = some m.cls := findClass_of_methodNamed Bd.named
  have hnm := (name_of_methodNamed Bd.named Bd.method).1
  have hlk : meth.locks = false := BodyLoose.notSynchronized Bd
  have X0 : Stand p l e room_1 s m #[(.int p1)] below meth c s₁ [] 0 0 := Stand.of_body Bd
  have e0 : s₁.heap = h0 := by rw [← hh, Bd.state]; rfl
  have N0 := Fr.nil n0
  show own_Fin p e below (own_P (Q0 n0) s room_1.cells room_1.slots) (s₁.setTop (entryFrame m #[(.int p1)] maxLocals))
  rw [show entryFrame m #[(.int p1)] maxLocals = mkF m 0 #[.val (.int p1), .unset, .unset, .unset, .unset, .unset, .unset, .unset, .unset] [] from by first | (simp [entryFrame, mkF, argsToLocals, Value.category, maxLocals]; done) | rfl]
  refine own_go ?_ (fun tq kt => XS.iloadN X0.here hx rfl (hb hby at_0) rfl kt)
  show own_Fin _ _ _ _ (s₁.setTop (mkF m 1 #[.val (.int p1), .unset, .unset, .unset, .unset, .unset, .unset, .unset, .unset] [(.int p1)]))
  refine own_go ?_ (fun tq kt => XS.iconst X0.here hx rfl (hb hby at_1) kt)
  show own_Fin _ _ _ _ (s₁.setTop (mkF m 2 #[.val (.int p1), .unset, .unset, .unset, .unset, .unset, .unset, .unset, .unset] [(.int (1 : Int32)), (.int p1)]))
  refine own_go ?_ (fun tq kt => XS.iand X0.here hx rfl (hb hby at_2) rfl kt)
  show own_Fin _ _ _ _ (s₁.setTop (mkF m 3 #[.val (.int p1), .unset, .unset, .unset, .unset, .unset, .unset, .unset, .unset] [(.int (p1 &&& (1 : Int32)))]))
  by_cases hc3_5 : (p1 &&& (1 : Int32)) = (0 : Int32)
  · refine own_go ?_ (fun tq kt => XS.ifYes X0.here hx rfl (pc0 := 3) (pc' := 10) rfl (hb hby at_3) rfl ((if0 _ _).trans (teq (hc3_5 : (p1 &&& (1 : Int32)) = (0 : Int32))).1) (by decide) (by decide) kt)
    show own_Fin _ _ _ _ (s₁.setTop (mkF m 10 #[.val (.int p1), .unset, .unset, .unset, .unset, .unset, .unset, .unset, .unset] []))
    refine own_go ?_ (fun tq kt => XS.iconst X0.here hx rfl (hb hby at_10) kt)
    show own_Fin _ _ _ _ (s₁.setTop (mkF m 11 #[.val (.int p1), .unset, .unset, .unset, .unset, .unset, .unset, .unset, .unset] [(.int (0 : Int32))]))
    refine own_go ?_ (fun tq kt => XS.istoreN X0.here hx rfl (hb hby at_11) rfl (l' := #[.val (.int p1), .val (.int (0 : Int32)), .unset, .unset, .unset, .unset, .unset, .unset, .unset]) rfl kt)
    show own_Fin _ _ _ _ (s₁.setTop (mkF m 12 #[.val (.int p1), .val (.int (0 : Int32)), .unset, .unset, .unset, .unset, .unset, .unset, .unset] []))
    refine own_go ?_ (fun tq kt => XS.iloadN X0.here hx rfl (hb hby at_12) rfl kt)
    show own_Fin _ _ _ _ (s₁.setTop (mkF m 13 #[.val (.int p1), .val (.int (0 : Int32)), .unset, .unset, .unset, .unset, .unset, .unset, .unset] [(.int (0 : Int32))]))
    obtain ⟨_, _, ⟨T6, L6, k6, n6⟩, -, X6, ⟨Lc6, hQ6, l6, y6, z6⟩, st6⟩ := Jvm.LawKit.callS X0 hx (y := (⟨"com/example/austere_json/austerejson/Frame$Judged", "of", "(Z)Lcom/example/austere_json/austerejson/Frame$Judged;"⟩ : MethodName)) hown (mvT hZ (hw _ (List.mem_of_getElem? (i := 0) rfl))) (mvT hZ (hw _ (List.mem_of_getElem? (i := 1) rfl))) (mvT hZ (hw _ (List.mem_of_getElem? (i := 2) rfl))) (mvT hZ (hw _ (List.mem_of_getElem? (i := 3) rfl))) (by decide) (backOf (W := 0) (rm1 l Z a0 hw [] (0 : Int32) f tt f h0 n0 Z0 O0 SF SH ⟨fun _ => rfl, fun q => absurd rfl q⟩) hZ (hw _ (List.mem_of_getElem? (i := 3) rfl)) (hw _ (List.mem_of_getElem? (i := 2) rfl)) (by decide) (by decide)) (g := (mkF m 13 #[.val (.int p1), .val (.int (0 : Int32)), .unset, .unset, .unset, .unset, .unset, .unset, .unset] [(.int (0 : Int32))])) rfl (by rw [hml]; rfl) (argsL := [(.int (0 : Int32))]) (rest := []) (lenOf own_pd0 rfl) rfl (by show 2 * 0 + _ ≤ _; exact Nat.le_of_eq rfl) (hb hby at_13) (fun _ _ => ⟨rfl, e0, (by decide : 0 + 0 ≤ _), (by decide : 0 + 0 ≤ _)⟩)
    dsimp only [Pt.U, Pt.locs, Pt.cells, Pt.slots] at X6 l6 y6 z6 st6 hQ6
    subst l6 y6 z6
    obtain ⟨rfl, N6q, e6⟩ := hQ6
    have N6 := Fr.app N0 N6q
    refine own_go ?_ (fun tq kt => st6 _ kt)
    show own_Fin _ _ _ _ (T6.setTop (mkF m 16 #[.val (.int p1), .val (.int (0 : Int32)), .unset, .unset, .unset, .unset, .unset, .unset, .unset] [(.ref f)]))
    refine own_go ?_ (fun tq kt => XS.astoreN X6.here hx rfl (hb hby at_16) rfl rfl (l' := #[.val (.int p1), .val (.int (0 : Int32)), .val (.ref f), .unset, .unset, .unset, .unset, .unset, .unset]) rfl kt)
    show own_Fin _ _ _ _ (T6.setTop (mkF m 17 #[.val (.int p1), .val (.int (0 : Int32)), .val (.ref f), .unset, .unset, .unset, .unset, .unset, .unset] []))
    refine own_go ?_ (fun tq kt => XS.iloadN X6.here hx rfl (hb hby at_17) rfl kt)
    show own_Fin _ _ _ _ (T6.setTop (mkF m 18 #[.val (.int p1), .val (.int (0 : Int32)), .val (.ref f), .unset, .unset, .unset, .unset, .unset, .unset] [(.int (0 : Int32))]))
    obtain ⟨_, _, ⟨T7, L7, k7, n7⟩, -, X7, ⟨Lc7, hQ7, l7, y7, z7⟩, st7⟩ := Jvm.LawKit.callS X6 hx (y := (⟨"com/example/austere_json/austerejson/Frame$Judged", "of", "(Z)Lcom/example/austere_json/austerejson/Frame$Judged;"⟩ : MethodName)) hown (mvT hZ (hw _ (List.mem_of_getElem? (i := 0) rfl))) (mvT hZ (hw _ (List.mem_of_getElem? (i := 1) rfl))) (mvT hZ (hw _ (List.mem_of_getElem? (i := 2) rfl))) (mvT hZ (hw _ (List.mem_of_getElem? (i := 3) rfl))) (by decide) (backOf (W := 0) (rm1 l Z a0 hw [] (0 : Int32) f tt f h0 n0 Z0 O0 SF SH ⟨fun _ => rfl, fun q => absurd rfl q⟩) hZ (hw _ (List.mem_of_getElem? (i := 3) rfl)) (hw _ (List.mem_of_getElem? (i := 2) rfl)) (by decide) (by decide)) (g := (mkF m 18 #[.val (.int p1), .val (.int (0 : Int32)), .val (.ref f), .unset, .unset, .unset, .unset, .unset, .unset] [(.int (0 : Int32))])) rfl (by rw [hml]; rfl) (argsL := [(.int (0 : Int32))]) (rest := []) (lenOf own_pd0 rfl) rfl (by show 2 * 0 + _ ≤ _; exact Nat.le_of_eq rfl) (hb hby at_18) (fun _ _ => ⟨rfl, e6, (by decide : 0 + 0 ≤ _), (by decide : 0 + 0 ≤ _)⟩)
    dsimp only [Pt.U, Pt.locs, Pt.cells, Pt.slots] at X7 l7 y7 z7 st7 hQ7
    subst l7 y7 z7
    obtain ⟨rfl, N7q, e7⟩ := hQ7
    have N7 := Fr.app N6 N7q
    refine own_go ?_ (fun tq kt => st7 _ kt)
    show own_Fin _ _ _ _ (T7.setTop (mkF m 21 #[.val (.int p1), .val (.int (0 : Int32)), .val (.ref f), .unset, .unset, .unset, .unset, .unset, .unset] [(.ref f)]))
    refine own_go ?_ (fun tq kt => XS.astoreN X7.here hx rfl (hb hby at_21) rfl rfl (l' := #[.val (.int p1), .val (.int (0 : Int32)), .val (.ref f), .val (.ref f), .unset, .unset, .unset, .unset, .unset]) rfl kt)
    show own_Fin _ _ _ _ (T7.setTop (mkF m 22 #[.val (.int p1), .val (.int (0 : Int32)), .val (.ref f), .val (.ref f), .unset, .unset, .unset, .unset, .unset] []))
    refine own_go ?_ (fun tq kt => XS.iloadN X7.here hx rfl (hb hby at_22) rfl kt)
    show own_Fin _ _ _ _ (T7.setTop (mkF m 23 #[.val (.int p1), .val (.int (0 : Int32)), .val (.ref f), .val (.ref f), .unset, .unset, .unset, .unset, .unset] [(.int (0 : Int32))]))
    refine own_go ?_ (fun tq kt => XS.ifNo X7.here hx rfl (hb hby at_23) rfl ((if0 _ _).trans (teq (rfl : (0 : Int32) = (0 : Int32))).2) kt)
    show own_Fin _ _ _ _ (T7.setTop (mkF m 26 #[.val (.int p1), .val (.int (0 : Int32)), .val (.ref f), .val (.ref f), .unset, .unset, .unset, .unset, .unset] []))
    refine own_go ?_ (fun tq kt => XS.iconst X7.here hx rfl (hb hby at_26) kt)
    show own_Fin _ _ _ _ (T7.setTop (mkF m 27 #[.val (.int p1), .val (.int (0 : Int32)), .val (.ref f), .val (.ref f), .unset, .unset, .unset, .unset, .unset] [(.int (1 : Int32))]))
    refine own_go ?_ (fun tq kt => XS.goto X7.here hx rfl (pc0 := 27) (pc' := 31) rfl (hb hby at_27) (by decide) (by decide) kt)
    show own_Fin _ _ _ _ (T7.setTop (mkF m 31 #[.val (.int p1), .val (.int (0 : Int32)), .val (.ref f), .val (.ref f), .unset, .unset, .unset, .unset, .unset] [(.int (1 : Int32))]))
    obtain ⟨_, _, ⟨T8, L8, k8, n8⟩, -, X8, ⟨Lc8, hQ8, l8, y8, z8⟩, st8⟩ := Jvm.LawKit.callS X7 hx (y := (⟨"com/example/austere_json/austerejson/Frame$Judged", "of", "(Z)Lcom/example/austere_json/austerejson/Frame$Judged;"⟩ : MethodName)) hown (mvT hZ (hw _ (List.mem_of_getElem? (i := 0) rfl))) (mvT hZ (hw _ (List.mem_of_getElem? (i := 1) rfl))) (mvT hZ (hw _ (List.mem_of_getElem? (i := 2) rfl))) (mvT hZ (hw _ (List.mem_of_getElem? (i := 3) rfl))) (by decide) (backOf (W := 0) (rm1 l Z a0 hw [] (1 : Int32) f tt tt h0 n0 Z0 O0 SF SH ⟨fun q => absurd q (by decide), fun _ => rfl⟩) hZ (hw _ (List.mem_of_getElem? (i := 3) rfl)) (hw _ (List.mem_of_getElem? (i := 2) rfl)) (by decide) (by decide)) (g := (mkF m 31 #[.val (.int p1), .val (.int (0 : Int32)), .val (.ref f), .val (.ref f), .unset, .unset, .unset, .unset, .unset] [(.int (1 : Int32))])) rfl (by rw [hml]; rfl) (argsL := [(.int (1 : Int32))]) (rest := []) (lenOf own_pd0 rfl) rfl (by show 2 * 0 + _ ≤ _; exact Nat.le_of_eq rfl) (hb hby at_31) (fun _ _ => ⟨rfl, e7, (by decide : 0 + 0 ≤ _), (by decide : 0 + 0 ≤ _)⟩)
    dsimp only [Pt.U, Pt.locs, Pt.cells, Pt.slots] at X8 l8 y8 z8 st8 hQ8
    subst l8 y8 z8
    obtain ⟨rfl, N8q, e8⟩ := hQ8
    have N8 := Fr.app N7 N8q
    refine own_go ?_ (fun tq kt => st8 _ kt)
    show own_Fin _ _ _ _ (T8.setTop (mkF m 34 #[.val (.int p1), .val (.int (0 : Int32)), .val (.ref f), .val (.ref f), .unset, .unset, .unset, .unset, .unset] [(.ref tt)]))
    refine own_go ?_ (fun tq kt => XS.astore X8.here hx rfl (hb hby at_34) rfl rfl (l' := #[.val (.int p1), .val (.int (0 : Int32)), .val (.ref f), .val (.ref f), .val (.ref tt), .unset, .unset, .unset, .unset]) rfl kt)
    show own_Fin _ _ _ _ (T8.setTop (mkF m 36 #[.val (.int p1), .val (.int (0 : Int32)), .val (.ref f), .val (.ref f), .val (.ref tt), .unset, .unset, .unset, .unset] []))
    refine own_go ?_ (fun tq kt => XS.aloadN X8.here hx rfl (hb hby at_36) rfl rfl kt)
    show own_Fin _ _ _ _ (T8.setTop (mkF m 37 #[.val (.int p1), .val (.int (0 : Int32)), .val (.ref f), .val (.ref f), .val (.ref tt), .unset, .unset, .unset, .unset] [(.ref f)]))
    refine own_go ?_ (fun tq kt => XS.ifnullNo X8.here hx rfl (hb hby at_37) rfl kt)
    show own_Fin _ _ _ _ (T8.setTop (mkF m 40 #[.val (.int p1), .val (.int (0 : Int32)), .val (.ref f), .val (.ref f), .val (.ref tt), .unset, .unset, .unset, .unset] []))
    refine own_go ?_ (fun tq kt => XS.aload X8.here hx rfl (hb hby at_40) rfl rfl kt)
    show own_Fin _ _ _ _ (T8.setTop (mkF m 42 #[.val (.int p1), .val (.int (0 : Int32)), .val (.ref f), .val (.ref f), .val (.ref tt), .unset, .unset, .unset, .unset] [(.ref tt)]))
    refine own_go ?_ (fun tq kt => XS.ifnonnullYes X8.here hx rfl (pc0 := 42) (pc' := 47) rfl (hb hby at_42) rfl (by decide) (by decide) kt)
    show own_Fin _ _ _ _ (T8.setTop (mkF m 47 #[.val (.int p1), .val (.int (0 : Int32)), .val (.ref f), .val (.ref f), .val (.ref tt), .unset, .unset, .unset, .unset] []))
    refine own_go ?_ (fun tq kt => XS.aloadN X8.here hx rfl (hb hby at_47) rfl rfl kt)
    show own_Fin _ _ _ _ (T8.setTop (mkF m 48 #[.val (.int p1), .val (.int (0 : Int32)), .val (.ref f), .val (.ref f), .val (.ref tt), .unset, .unset, .unset, .unset] [(.ref f)]))
    refine own_go ?_ (fun tq kt => XS.aloadN X8.here hx rfl (hb hby at_48) rfl rfl kt)
    show own_Fin _ _ _ _ (T8.setTop (mkF m 49 #[.val (.int p1), .val (.int (0 : Int32)), .val (.ref f), .val (.ref f), .val (.ref tt), .unset, .unset, .unset, .unset] [(.ref f), (.ref f)]))
    refine own_go ?_ (fun tq kt => Jvm.RoadKit.acmp (g := (mkF m 49 #[.val (.int p1), .val (.int (0 : Int32)), .val (.ref f), .val (.ref f), .val (.ref tt), .unset, .unset, .unset, .unset] [(.ref f), (.ref f)])) X8 hx rfl rfl rfl (pc0 := 49) (pc' := 52) (same := true) rfl (hb hby at_49) rfl (decide_eq_true rfl) (by decide) (by decide) kt)
    show own_Fin _ _ _ _ (T8.setTop (mkF m 52 #[.val (.int p1), .val (.int (0 : Int32)), .val (.ref f), .val (.ref f), .val (.ref tt), .unset, .unset, .unset, .unset] []))
    refine own_go ?_ (fun tq kt => XS.aloadN X8.here hx rfl (hb hby at_52) rfl rfl kt)
    show own_Fin _ _ _ _ (T8.setTop (mkF m 53 #[.val (.int p1), .val (.int (0 : Int32)), .val (.ref f), .val (.ref f), .val (.ref tt), .unset, .unset, .unset, .unset] [(.ref f)]))
    refine own_go ?_ (fun tq kt => XS.aload X8.here hx rfl (hb hby at_53) rfl rfl kt)
    show own_Fin _ _ _ _ (T8.setTop (mkF m 55 #[.val (.int p1), .val (.int (0 : Int32)), .val (.ref f), .val (.ref f), .val (.ref tt), .unset, .unset, .unset, .unset] [(.ref tt), (.ref f)]))
    refine own_go ?_ (fun tq kt => Jvm.RoadKit.acmp (g := (mkF m 55 #[.val (.int p1), .val (.int (0 : Int32)), .val (.ref f), .val (.ref f), .val (.ref tt), .unset, .unset, .unset, .unset] [(.ref tt), (.ref f)])) X8 hx rfl rfl rfl (pc0 := 55) (pc' := 58) (same := false) rfl (hb hby at_55) rfl (decide_eq_false fun q => hne (Value.ref.inj q)) (by decide) (by decide) kt)
    show own_Fin _ _ _ _ (T8.setTop (mkF m 58 #[.val (.int p1), .val (.int (0 : Int32)), .val (.ref f), .val (.ref f), .val (.ref tt), .unset, .unset, .unset, .unset] []))
    refine own_go ?_ (fun tq kt => XS.iconst X8.here hx rfl (hb hby at_58) kt)
    show own_Fin _ _ _ _ (T8.setTop (mkF m 59 #[.val (.int p1), .val (.int (0 : Int32)), .val (.ref f), .val (.ref f), .val (.ref tt), .unset, .unset, .unset, .unset] [(.int (1 : Int32))]))
    refine own_go ?_ (fun tq kt => XS.goto X8.here hx rfl (pc0 := 59) (pc' := 63) rfl (hb hby at_59) (by decide) (by decide) kt)
    show own_Fin _ _ _ _ (T8.setTop (mkF m 63 #[.val (.int p1), .val (.int (0 : Int32)), .val (.ref f), .val (.ref f), .val (.ref tt), .unset, .unset, .unset, .unset] [(.int (1 : Int32))]))
    refine own_go ?_ (fun tq kt => XS.istore X8.here hx rfl (hb hby at_63) rfl (l' := #[.val (.int p1), .val (.int (0 : Int32)), .val (.ref f), .val (.ref f), .val (.ref tt), .val (.int (1 : Int32)), .unset, .unset, .unset]) rfl kt)
    show own_Fin _ _ _ _ (T8.setTop (mkF m 65 #[.val (.int p1), .val (.int (0 : Int32)), .val (.ref f), .val (.ref f), .val (.ref tt), .val (.int (1 : Int32)), .unset, .unset, .unset] []))
    refine own_go ?_ (fun tq kt => XS.aloadN X8.here hx rfl (hb hby at_65) rfl rfl kt)
    show own_Fin _ _ _ _ (T8.setTop (mkF m 66 #[.val (.int p1), .val (.int (0 : Int32)), .val (.ref f), .val (.ref f), .val (.ref tt), .val (.int (1 : Int32)), .unset, .unset, .unset] [(.ref f)]))
    refine own_go ?_ (fun tq kt => XS.iloadN X8.here hx rfl (hb hby at_66) rfl kt)
    show own_Fin _ _ _ _ (T8.setTop (mkF m 67 #[.val (.int p1), .val (.int (0 : Int32)), .val (.ref f), .val (.ref f), .val (.ref tt), .val (.int (1 : Int32)), .unset, .unset, .unset] [(.int (0 : Int32)), (.ref f)]))
    refine own_go ?_ (fun tq kt => XS.ifYes X8.here hx rfl (pc0 := 67) (pc' := 76) rfl (hb hby at_67) rfl ((if0 _ _).trans (teq (rfl : (0 : Int32) = (0 : Int32))).1) (by decide) (by decide) kt)
    show own_Fin _ _ _ _ (T8.setTop (mkF m 76 #[.val (.int p1), .val (.int (0 : Int32)), .val (.ref f), .val (.ref f), .val (.ref tt), .val (.int (1 : Int32)), .unset, .unset, .unset] [(.ref f)]))
    obtain ⟨T9, X9, e9, st9⟩ := getS2 X8 hx hZ hown (host := "") (Or.inl (hw _ (List.mem_of_getElem? (i := 8) rfl))) Via.refl e8 (SF.ext O0.2) (g := (mkF m 76 #[.val (.int p1), .val (.int (0 : Int32)), .val (.ref f), .val (.ref f), .val (.ref tt), .val (.int (1 : Int32)), .unset, .unset, .unset] [(.ref f)])) rfl (hb hby at_76)
    refine own_go ?_ (fun tq kt => st9 _ kt)
    show own_Fin _ _ _ _ (T9.setTop (mkF m 79 #[.val (.int p1), .val (.int (0 : Int32)), .val (.ref f), .val (.ref f), .val (.ref tt), .val (.int (1 : Int32)), .unset, .unset, .unset] [(.ref f), (.ref f)]))
    refine own_go ?_ (fun tq kt => Jvm.RoadKit.acmp (g := (mkF m 79 #[.val (.int p1), .val (.int (0 : Int32)), .val (.ref f), .val (.ref f), .val (.ref tt), .val (.int (1 : Int32)), .unset, .unset, .unset] [(.ref f), (.ref f)])) X9 hx rfl rfl rfl (pc0 := 79) (pc' := 82) (same := true) rfl (hb hby at_79) rfl (decide_eq_true rfl) (by decide) (by decide) kt)
    show own_Fin _ _ _ _ (T9.setTop (mkF m 82 #[.val (.int p1), .val (.int (0 : Int32)), .val (.ref f), .val (.ref f), .val (.ref tt), .val (.int (1 : Int32)), .unset, .unset, .unset] []))
    refine own_go ?_ (fun tq kt => XS.iconst X9.here hx rfl (hb hby at_82) kt)
    show own_Fin _ _ _ _ (T9.setTop (mkF m 83 #[.val (.int p1), .val (.int (0 : Int32)), .val (.ref f), .val (.ref f), .val (.ref tt), .val (.int (1 : Int32)), .unset, .unset, .unset] [(.int (1 : Int32))]))
    refine own_go ?_ (fun tq kt => XS.goto X9.here hx rfl (pc0 := 83) (pc' := 87) rfl (hb hby at_83) (by decide) (by decide) kt)
    show own_Fin _ _ _ _ (T9.setTop (mkF m 87 #[.val (.int p1), .val (.int (0 : Int32)), .val (.ref f), .val (.ref f), .val (.ref tt), .val (.int (1 : Int32)), .unset, .unset, .unset] [(.int (1 : Int32))]))
    refine own_go ?_ (fun tq kt => XS.istore X9.here hx rfl (hb hby at_87) rfl (l' := #[.val (.int p1), .val (.int (0 : Int32)), .val (.ref f), .val (.ref f), .val (.ref tt), .val (.int (1 : Int32)), .val (.int (1 : Int32)), .unset, .unset]) rfl kt)
    show own_Fin _ _ _ _ (T9.setTop (mkF m 89 #[.val (.int p1), .val (.int (0 : Int32)), .val (.ref f), .val (.ref f), .val (.ref tt), .val (.int (1 : Int32)), .val (.int (1 : Int32)), .unset, .unset] []))
    refine own_go ?_ (fun tq kt => XS.aloadN X9.here hx rfl (hb hby at_89) rfl rfl kt)
    show own_Fin _ _ _ _ (T9.setTop (mkF m 90 #[.val (.int p1), .val (.int (0 : Int32)), .val (.ref f), .val (.ref f), .val (.ref tt), .val (.int (1 : Int32)), .val (.int (1 : Int32)), .unset, .unset] [(.ref f)]))
    obtain ⟨cq10, kq10, q10a, q10b, q10c⟩ := isOf hZ e9 (EF.ext O0.2)
    obtain ⟨_, _, ⟨T10, L10, k10, n10⟩, -, X10, ⟨Lc10, hQ10, l10, y10, z10⟩, st10⟩ := X9.virtualBack hx (y := (⟨"com/example/austere_json/austerejson/Frame$Judged", "finish", "()Z"⟩ : MethodName)) (z := (⟨"com/example/austere_json/austerejson/Frame$Judged", "finish", "()Z"⟩ : MethodName)) hown (mvT hZ (hw _ (List.mem_of_getElem? (i := 9) rfl))) (mvT hZ (hw _ (List.mem_of_getElem? (i := 10) rfl))) (notFace_of_selects (args := #[]) (mvT hZ (hw _ (List.mem_of_getElem? (i := 12) rfl)))) (mvT hZ (hw _ (List.mem_of_getElem? (i := 12) rfl))) (mvT hZ (hw _ (List.mem_of_getElem? (i := 11) rfl))) (by decide) (backOf (W := 0) (rm2 l Z a0 hw [] f (0 : Int32) h0 n0 Z0 O0 FF rfl) hZ (hw _ (List.mem_of_getElem? (i := 13) rfl)) (hw _ (List.mem_of_getElem? (i := 2) rfl)) (by decide) (by decide)) q10a q10c (g := (mkF m 90 #[.val (.int p1), .val (.int (0 : Int32)), .val (.ref f), .val (.ref f), .val (.ref tt), .val (.int (1 : Int32)), .val (.int (1 : Int32)), .unset, .unset] [(.ref f)])) rfl (by rw [hml]; rfl) (Steps.refl _) (argsL := []) (rest := []) (lenOf own_pd1 rfl) rfl (by show 2 * 0 + _ ≤ _; exact Nat.le_of_eq rfl) (hb hby at_90) (fun _ _ => ⟨rfl, e9, (by decide : 0 + 0 ≤ _), (by decide : 0 + 0 ≤ _)⟩)
    dsimp only [Pt.U, Pt.locs, Pt.cells, Pt.slots] at X10 l10 y10 z10 st10 hQ10
    subst l10 y10 z10
    obtain ⟨rfl, N10q, e10⟩ := hQ10
    have N10 := Fr.app N8 N10q
    refine own_go ?_ (fun tq kt => st10.trans kt)
    show own_Fin _ _ _ _ (T10.setTop (mkF m 93 #[.val (.int p1), .val (.int (0 : Int32)), .val (.ref f), .val (.ref f), .val (.ref tt), .val (.int (1 : Int32)), .val (.int (1 : Int32)), .unset, .unset] [(.int (0 : Int32))]))
    refine own_go ?_ (fun tq kt => XS.iloadN X10.here hx rfl (hb hby at_93) rfl kt)
    show own_Fin _ _ _ _ (T10.setTop (mkF m 94 #[.val (.int p1), .val (.int (0 : Int32)), .val (.ref f), .val (.ref f), .val (.ref tt), .val (.int (1 : Int32)), .val (.int (1 : Int32)), .unset, .unset] [(.int (0 : Int32)), (.int (0 : Int32))]))
    refine own_go ?_ (fun tq kt => XS.icmpNo X10.here hx rfl (hb hby at_94) rfl (teq (rfl : (0 : Int32) = (0 : Int32))).2 kt)
    show own_Fin _ _ _ _ (T10.setTop (mkF m 97 #[.val (.int p1), .val (.int (0 : Int32)), .val (.ref f), .val (.ref f), .val (.ref tt), .val (.int (1 : Int32)), .val (.int (1 : Int32)), .unset, .unset] []))
    refine own_go ?_ (fun tq kt => XS.aload X10.here hx rfl (hb hby at_97) rfl rfl kt)
    show own_Fin _ _ _ _ (T10.setTop (mkF m 99 #[.val (.int p1), .val (.int (0 : Int32)), .val (.ref f), .val (.ref f), .val (.ref tt), .val (.int (1 : Int32)), .val (.int (1 : Int32)), .unset, .unset] [(.ref tt)]))
    obtain ⟨cq11, kq11, q11a, q11b, q11c⟩ := isOf hZ e10 (ET.ext O0.2)
    obtain ⟨_, _, ⟨T11, L11, k11, n11⟩, -, X11, ⟨Lc11, hQ11, l11, y11, z11⟩, st11⟩ := X10.virtualBack hx (y := (⟨"com/example/austere_json/austerejson/Frame$Judged", "finish", "()Z"⟩ : MethodName)) (z := (⟨"com/example/austere_json/austerejson/Frame$Judged", "finish", "()Z"⟩ : MethodName)) hown (mvT hZ (hw _ (List.mem_of_getElem? (i := 9) rfl))) (mvT hZ (hw _ (List.mem_of_getElem? (i := 10) rfl))) (notFace_of_selects (args := #[]) (mvT hZ (hw _ (List.mem_of_getElem? (i := 12) rfl)))) (mvT hZ (hw _ (List.mem_of_getElem? (i := 12) rfl))) (mvT hZ (hw _ (List.mem_of_getElem? (i := 11) rfl))) (by decide) (backOf (W := 0) (rm2 l Z a0 hw [] tt (1 : Int32) h0 n0 Z0 O0 FT rfl) hZ (hw _ (List.mem_of_getElem? (i := 13) rfl)) (hw _ (List.mem_of_getElem? (i := 2) rfl)) (by decide) (by decide)) q11a q11c (g := (mkF m 99 #[.val (.int p1), .val (.int (0 : Int32)), .val (.ref f), .val (.ref f), .val (.ref tt), .val (.int (1 : Int32)), .val (.int (1 : Int32)), .unset, .unset] [(.ref tt)])) rfl (by rw [hml]; rfl) (Steps.refl _) (argsL := []) (rest := []) (lenOf own_pd1 rfl) rfl (by show 2 * 0 + _ ≤ _; exact Nat.le_of_eq rfl) (hb hby at_99) (fun _ _ => ⟨rfl, e10, (by decide : 0 + 0 ≤ _), (by decide : 0 + 0 ≤ _)⟩)
    dsimp only [Pt.U, Pt.locs, Pt.cells, Pt.slots] at X11 l11 y11 z11 st11 hQ11
    subst l11 y11 z11
    obtain ⟨rfl, N11q, e11⟩ := hQ11
    have N11 := Fr.app N10 N11q
    refine own_go ?_ (fun tq kt => st11.trans kt)
    show own_Fin _ _ _ _ (T11.setTop (mkF m 102 #[.val (.int p1), .val (.int (0 : Int32)), .val (.ref f), .val (.ref f), .val (.ref tt), .val (.int (1 : Int32)), .val (.int (1 : Int32)), .unset, .unset] [(.int (1 : Int32))]))
    refine own_go ?_ (fun tq kt => XS.iloadN X11.here hx rfl (hb hby at_102) rfl kt)
    show own_Fin _ _ _ _ (T11.setTop (mkF m 103 #[.val (.int p1), .val (.int (0 : Int32)), .val (.ref f), .val (.ref f), .val (.ref tt), .val (.int (1 : Int32)), .val (.int (1 : Int32)), .unset, .unset] [(.int (0 : Int32)), (.int (1 : Int32))]))
    refine own_go ?_ (fun tq kt => XS.ifNo X11.here hx rfl (hb hby at_103) rfl ((if0 _ _).trans (teq (rfl : (0 : Int32) = (0 : Int32))).2) kt)
    show own_Fin _ _ _ _ (T11.setTop (mkF m 106 #[.val (.int p1), .val (.int (0 : Int32)), .val (.ref f), .val (.ref f), .val (.ref tt), .val (.int (1 : Int32)), .val (.int (1 : Int32)), .unset, .unset] [(.int (1 : Int32))]))
    refine own_go ?_ (fun tq kt => XS.iconst X11.here hx rfl (hb hby at_106) kt)
    show own_Fin _ _ _ _ (T11.setTop (mkF m 107 #[.val (.int p1), .val (.int (0 : Int32)), .val (.ref f), .val (.ref f), .val (.ref tt), .val (.int (1 : Int32)), .val (.int (1 : Int32)), .unset, .unset] [(.int (1 : Int32)), (.int (1 : Int32))]))
    refine own_go ?_ (fun tq kt => XS.goto X11.here hx rfl (pc0 := 107) (pc' := 111) rfl (hb hby at_107) (by decide) (by decide) kt)
    show own_Fin _ _ _ _ (T11.setTop (mkF m 111 #[.val (.int p1), .val (.int (0 : Int32)), .val (.ref f), .val (.ref f), .val (.ref tt), .val (.int (1 : Int32)), .val (.int (1 : Int32)), .unset, .unset] [(.int (1 : Int32)), (.int (1 : Int32))]))
    refine own_go ?_ (fun tq kt => XS.icmpNo X11.here hx rfl (hb hby at_111) rfl (teq (rfl : (1 : Int32) = (1 : Int32))).2 kt)
    show own_Fin _ _ _ _ (T11.setTop (mkF m 114 #[.val (.int p1), .val (.int (0 : Int32)), .val (.ref f), .val (.ref f), .val (.ref tt), .val (.int (1 : Int32)), .val (.int (1 : Int32)), .unset, .unset] []))
    refine own_go ?_ (fun tq kt => XS.iconst X11.here hx rfl (hb hby at_114) kt)
    show own_Fin _ _ _ _ (T11.setTop (mkF m 115 #[.val (.int p1), .val (.int (0 : Int32)), .val (.ref f), .val (.ref f), .val (.ref tt), .val (.int (1 : Int32)), .val (.int (1 : Int32)), .unset, .unset] [(.int (1 : Int32))]))
    refine own_go ?_ (fun tq kt => XS.goto X11.here hx rfl (pc0 := 115) (pc' := 119) rfl (hb hby at_115) (by decide) (by decide) kt)
    show own_Fin _ _ _ _ (T11.setTop (mkF m 119 #[.val (.int p1), .val (.int (0 : Int32)), .val (.ref f), .val (.ref f), .val (.ref tt), .val (.int (1 : Int32)), .val (.int (1 : Int32)), .unset, .unset] [(.int (1 : Int32))]))
    refine own_go ?_ (fun tq kt => XS.istore X11.here hx rfl (hb hby at_119) rfl (l' := #[.val (.int p1), .val (.int (0 : Int32)), .val (.ref f), .val (.ref f), .val (.ref tt), .val (.int (1 : Int32)), .val (.int (1 : Int32)), .val (.int (1 : Int32)), .unset]) rfl kt)
    show own_Fin _ _ _ _ (T11.setTop (mkF m 121 #[.val (.int p1), .val (.int (0 : Int32)), .val (.ref f), .val (.ref f), .val (.ref tt), .val (.int (1 : Int32)), .val (.int (1 : Int32)), .val (.int (1 : Int32)), .unset] []))
    refine own_go ?_ (fun tq kt => XS.aloadN X11.here hx rfl (hb hby at_121) rfl rfl kt)
    show own_Fin _ _ _ _ (T11.setTop (mkF m 122 #[.val (.int p1), .val (.int (0 : Int32)), .val (.ref f), .val (.ref f), .val (.ref tt), .val (.int (1 : Int32)), .val (.int (1 : Int32)), .val (.int (1 : Int32)), .unset] [(.ref f)]))
    obtain ⟨cq12, kq12, q12a, q12b, q12c⟩ := isOf hZ e11 (EF.ext O0.2)
    obtain ⟨_, _, ⟨T12, L12, k12, n12⟩, -, X12, ⟨Lc12, hQ12, l12, y12, z12⟩, st12⟩ := X11.virtualBack hx (y := (⟨"com/example/austere_json/austerejson/Frame$Judged", "next", "()Lcom/example/austere_json/austerejson/Frame;"⟩ : MethodName)) (z := (⟨"com/example/austere_json/austerejson/Frame$Judged", "next", "()Lcom/example/austere_json/austerejson/Frame;"⟩ : MethodName)) hown (mvT hZ (hw _ (List.mem_of_getElem? (i := 16) rfl))) (mvT hZ (hw _ (List.mem_of_getElem? (i := 17) rfl))) (notFace_of_selects (args := #[]) (mvT hZ (hw _ (List.mem_of_getElem? (i := 19) rfl)))) (mvT hZ (hw _ (List.mem_of_getElem? (i := 19) rfl))) (mvT hZ (hw _ (List.mem_of_getElem? (i := 18) rfl))) (by decide) (backOf (W := 0) (rm3 l Z a0 hw [] f h0 n0 Z0) hZ (hw _ (List.mem_of_getElem? (i := 20) rfl)) (hw _ (List.mem_of_getElem? (i := 2) rfl)) (by decide) (by decide)) q12a q12c (g := (mkF m 122 #[.val (.int p1), .val (.int (0 : Int32)), .val (.ref f), .val (.ref f), .val (.ref tt), .val (.int (1 : Int32)), .val (.int (1 : Int32)), .val (.int (1 : Int32)), .unset] [(.ref f)])) rfl (by rw [hml]; rfl) (Steps.refl _) (argsL := []) (rest := []) (lenOf own_pd2 rfl) rfl (by show 2 * 0 + _ ≤ _; exact Nat.le_of_eq rfl) (hb hby at_122) (fun _ _ => ⟨rfl, e11, (by decide : 0 + 0 ≤ _), (by decide : 0 + 0 ≤ _)⟩)
    dsimp only [Pt.U, Pt.locs, Pt.cells, Pt.slots] at X12 l12 y12 z12 st12 hQ12
    subst l12 y12 z12
    obtain ⟨rfl, N12q, e12⟩ := hQ12
    have N12 := Fr.app N11 N12q
    refine own_go ?_ (fun tq kt => st12.trans kt)
    show own_Fin _ _ _ _ (T12.setTop (mkF m 125 #[.val (.int p1), .val (.int (0 : Int32)), .val (.ref f), .val (.ref f), .val (.ref tt), .val (.int (1 : Int32)), .val (.int (1 : Int32)), .val (.int (1 : Int32)), .unset] [.null]))
    refine own_go ?_ (fun tq kt => XS.ifnonnullNo X12.here hx rfl (hb hby at_125) rfl kt)
    show own_Fin _ _ _ _ (T12.setTop (mkF m 128 #[.val (.int p1), .val (.int (0 : Int32)), .val (.ref f), .val (.ref f), .val (.ref tt), .val (.int (1 : Int32)), .val (.int (1 : Int32)), .val (.int (1 : Int32)), .unset] []))
    refine own_go ?_ (fun tq kt => XS.iconst X12.here hx rfl (hb hby at_128) kt)
    show own_Fin _ _ _ _ (T12.setTop (mkF m 129 #[.val (.int p1), .val (.int (0 : Int32)), .val (.ref f), .val (.ref f), .val (.ref tt), .val (.int (1 : Int32)), .val (.int (1 : Int32)), .val (.int (1 : Int32)), .unset] [(.int (1 : Int32))]))
    refine own_go ?_ (fun tq kt => XS.goto X12.here hx rfl (pc0 := 129) (pc' := 133) rfl (hb hby at_129) (by decide) (by decide) kt)
    show own_Fin _ _ _ _ (T12.setTop (mkF m 133 #[.val (.int p1), .val (.int (0 : Int32)), .val (.ref f), .val (.ref f), .val (.ref tt), .val (.int (1 : Int32)), .val (.int (1 : Int32)), .val (.int (1 : Int32)), .unset] [(.int (1 : Int32))]))
    refine own_go ?_ (fun tq kt => XS.istore X12.here hx rfl (hb hby at_133) rfl (l' := #[.val (.int p1), .val (.int (0 : Int32)), .val (.ref f), .val (.ref f), .val (.ref tt), .val (.int (1 : Int32)), .val (.int (1 : Int32)), .val (.int (1 : Int32)), .val (.int (1 : Int32))]) rfl kt)
    show own_Fin _ _ _ _ (T12.setTop (mkF m 135 #[.val (.int p1), .val (.int (0 : Int32)), .val (.ref f), .val (.ref f), .val (.ref tt), .val (.int (1 : Int32)), .val (.int (1 : Int32)), .val (.int (1 : Int32)), .val (.int (1 : Int32))] []))
    refine own_go ?_ (fun tq kt => XS.iload X12.here hx rfl (hb hby at_135) rfl kt)
    show own_Fin _ _ _ _ (T12.setTop (mkF m 137 #[.val (.int p1), .val (.int (0 : Int32)), .val (.ref f), .val (.ref f), .val (.ref tt), .val (.int (1 : Int32)), .val (.int (1 : Int32)), .val (.int (1 : Int32)), .val (.int (1 : Int32))] [(.int (1 : Int32))]))
    refine own_go ?_ (fun tq kt => XS.ifNo X12.here hx rfl (hb hby at_137) rfl ((if0 _ _).trans (feq ((by decide) : ¬ ((1 : Int32) = (0 : Int32)))).1) kt)
    show own_Fin _ _ _ _ (T12.setTop (mkF m 140 #[.val (.int p1), .val (.int (0 : Int32)), .val (.ref f), .val (.ref f), .val (.ref tt), .val (.int (1 : Int32)), .val (.int (1 : Int32)), .val (.int (1 : Int32)), .val (.int (1 : Int32))] []))
    refine own_go ?_ (fun tq kt => XS.iload X12.here hx rfl (hb hby at_140) rfl kt)
    show own_Fin _ _ _ _ (T12.setTop (mkF m 142 #[.val (.int p1), .val (.int (0 : Int32)), .val (.ref f), .val (.ref f), .val (.ref tt), .val (.int (1 : Int32)), .val (.int (1 : Int32)), .val (.int (1 : Int32)), .val (.int (1 : Int32))] [(.int (1 : Int32))]))
    refine own_go ?_ (fun tq kt => XS.ifNo X12.here hx rfl (hb hby at_142) rfl ((if0 _ _).trans (feq ((by decide) : ¬ ((1 : Int32) = (0 : Int32)))).1) kt)
    show own_Fin _ _ _ _ (T12.setTop (mkF m 145 #[.val (.int p1), .val (.int (0 : Int32)), .val (.ref f), .val (.ref f), .val (.ref tt), .val (.int (1 : Int32)), .val (.int (1 : Int32)), .val (.int (1 : Int32)), .val (.int (1 : Int32))] []))
    refine own_go ?_ (fun tq kt => XS.iload X12.here hx rfl (hb hby at_145) rfl kt)
    show own_Fin _ _ _ _ (T12.setTop (mkF m 147 #[.val (.int p1), .val (.int (0 : Int32)), .val (.ref f), .val (.ref f), .val (.ref tt), .val (.int (1 : Int32)), .val (.int (1 : Int32)), .val (.int (1 : Int32)), .val (.int (1 : Int32))] [(.int (1 : Int32))]))
    refine own_go ?_ (fun tq kt => XS.ifNo X12.here hx rfl (hb hby at_147) rfl ((if0 _ _).trans (feq ((by decide) : ¬ ((1 : Int32) = (0 : Int32)))).1) kt)
    show own_Fin _ _ _ _ (T12.setTop (mkF m 150 #[.val (.int p1), .val (.int (0 : Int32)), .val (.ref f), .val (.ref f), .val (.ref tt), .val (.int (1 : Int32)), .val (.int (1 : Int32)), .val (.int (1 : Int32)), .val (.int (1 : Int32))] []))
    refine own_go ?_ (fun tq kt => XS.iload X12.here hx rfl (hb hby at_150) rfl kt)
    show own_Fin _ _ _ _ (T12.setTop (mkF m 152 #[.val (.int p1), .val (.int (0 : Int32)), .val (.ref f), .val (.ref f), .val (.ref tt), .val (.int (1 : Int32)), .val (.int (1 : Int32)), .val (.int (1 : Int32)), .val (.int (1 : Int32))] [(.int (1 : Int32))]))
    refine own_go ?_ (fun tq kt => XS.ifNo X12.here hx rfl (hb hby at_152) rfl ((if0 _ _).trans (feq ((by decide) : ¬ ((1 : Int32) = (0 : Int32)))).1) kt)
    show own_Fin _ _ _ _ (T12.setTop (mkF m 155 #[.val (.int p1), .val (.int (0 : Int32)), .val (.ref f), .val (.ref f), .val (.ref tt), .val (.int (1 : Int32)), .val (.int (1 : Int32)), .val (.int (1 : Int32)), .val (.int (1 : Int32))] []))
    refine own_go ?_ (fun tq kt => XS.iconst X12.here hx rfl (hb hby at_155) kt)
    show own_Fin _ _ _ _ (T12.setTop (mkF m 156 #[.val (.int p1), .val (.int (0 : Int32)), .val (.ref f), .val (.ref f), .val (.ref tt), .val (.int (1 : Int32)), .val (.int (1 : Int32)), .val (.int (1 : Int32)), .val (.int (1 : Int32))] [(.int (1 : Int32))]))
    refine own_go ?_ (fun tq kt => XS.goto X12.here hx rfl (pc0 := 156) (pc' := 160) rfl (hb hby at_156) (by decide) (by decide) kt)
    show own_Fin _ _ _ _ (T12.setTop (mkF m 160 #[.val (.int p1), .val (.int (0 : Int32)), .val (.ref f), .val (.ref f), .val (.ref tt), .val (.int (1 : Int32)), .val (.int (1 : Int32)), .val (.int (1 : Int32)), .val (.int (1 : Int32))] [(.int (1 : Int32))]))
    refine own_retN X12 hx (t := .boolean) Bd.returns (by simp) (hb hby at_160) hlk ?_ (by decide) (by decide)
    exact ⟨rfl, N12⟩
  · refine own_go ?_ (fun tq kt => XS.ifNo X0.here hx rfl (hb hby at_3) rfl ((if0 _ _).trans (feq (hc3_5 : ¬ ((p1 &&& (1 : Int32)) = (0 : Int32)))).1) kt)
    show own_Fin _ _ _ _ (s₁.setTop (mkF m 6 #[.val (.int p1), .unset, .unset, .unset, .unset, .unset, .unset, .unset, .unset] []))
    refine own_go ?_ (fun tq kt => XS.iconst X0.here hx rfl (hb hby at_6) kt)
    show own_Fin _ _ _ _ (s₁.setTop (mkF m 7 #[.val (.int p1), .unset, .unset, .unset, .unset, .unset, .unset, .unset, .unset] [(.int (1 : Int32))]))
    refine own_go ?_ (fun tq kt => XS.goto X0.here hx rfl (pc0 := 7) (pc' := 11) rfl (hb hby at_7) (by decide) (by decide) kt)
    show own_Fin _ _ _ _ (s₁.setTop (mkF m 11 #[.val (.int p1), .unset, .unset, .unset, .unset, .unset, .unset, .unset, .unset] [(.int (1 : Int32))]))
    refine own_go ?_ (fun tq kt => XS.istoreN X0.here hx rfl (hb hby at_11) rfl (l' := #[.val (.int p1), .val (.int (1 : Int32)), .unset, .unset, .unset, .unset, .unset, .unset, .unset]) rfl kt)
    show own_Fin _ _ _ _ (s₁.setTop (mkF m 12 #[.val (.int p1), .val (.int (1 : Int32)), .unset, .unset, .unset, .unset, .unset, .unset, .unset] []))
    refine own_go ?_ (fun tq kt => XS.iloadN X0.here hx rfl (hb hby at_12) rfl kt)
    show own_Fin _ _ _ _ (s₁.setTop (mkF m 13 #[.val (.int p1), .val (.int (1 : Int32)), .unset, .unset, .unset, .unset, .unset, .unset, .unset] [(.int (1 : Int32))]))
    obtain ⟨_, _, ⟨T13, L13, k13, n13⟩, -, X13, ⟨Lc13, hQ13, l13, y13, z13⟩, st13⟩ := Jvm.LawKit.callS X0 hx (y := (⟨"com/example/austere_json/austerejson/Frame$Judged", "of", "(Z)Lcom/example/austere_json/austerejson/Frame$Judged;"⟩ : MethodName)) hown (mvT hZ (hw _ (List.mem_of_getElem? (i := 0) rfl))) (mvT hZ (hw _ (List.mem_of_getElem? (i := 1) rfl))) (mvT hZ (hw _ (List.mem_of_getElem? (i := 2) rfl))) (mvT hZ (hw _ (List.mem_of_getElem? (i := 3) rfl))) (by decide) (backOf (W := 0) (rm1 l Z a0 hw [] (1 : Int32) f tt tt h0 n0 Z0 O0 SF SH ⟨fun q => absurd q (by decide), fun _ => rfl⟩) hZ (hw _ (List.mem_of_getElem? (i := 3) rfl)) (hw _ (List.mem_of_getElem? (i := 2) rfl)) (by decide) (by decide)) (g := (mkF m 13 #[.val (.int p1), .val (.int (1 : Int32)), .unset, .unset, .unset, .unset, .unset, .unset, .unset] [(.int (1 : Int32))])) rfl (by rw [hml]; rfl) (argsL := [(.int (1 : Int32))]) (rest := []) (lenOf own_pd0 rfl) rfl (by show 2 * 0 + _ ≤ _; exact Nat.le_of_eq rfl) (hb hby at_13) (fun _ _ => ⟨rfl, e0, (by decide : 0 + 0 ≤ _), (by decide : 0 + 0 ≤ _)⟩)
    dsimp only [Pt.U, Pt.locs, Pt.cells, Pt.slots] at X13 l13 y13 z13 st13 hQ13
    subst l13 y13 z13
    obtain ⟨rfl, N13q, e13⟩ := hQ13
    have N13 := Fr.app N0 N13q
    refine own_go ?_ (fun tq kt => st13 _ kt)
    show own_Fin _ _ _ _ (T13.setTop (mkF m 16 #[.val (.int p1), .val (.int (1 : Int32)), .unset, .unset, .unset, .unset, .unset, .unset, .unset] [(.ref tt)]))
    refine own_go ?_ (fun tq kt => XS.astoreN X13.here hx rfl (hb hby at_16) rfl rfl (l' := #[.val (.int p1), .val (.int (1 : Int32)), .val (.ref tt), .unset, .unset, .unset, .unset, .unset, .unset]) rfl kt)
    show own_Fin _ _ _ _ (T13.setTop (mkF m 17 #[.val (.int p1), .val (.int (1 : Int32)), .val (.ref tt), .unset, .unset, .unset, .unset, .unset, .unset] []))
    refine own_go ?_ (fun tq kt => XS.iloadN X13.here hx rfl (hb hby at_17) rfl kt)
    show own_Fin _ _ _ _ (T13.setTop (mkF m 18 #[.val (.int p1), .val (.int (1 : Int32)), .val (.ref tt), .unset, .unset, .unset, .unset, .unset, .unset] [(.int (1 : Int32))]))
    obtain ⟨_, _, ⟨T14, L14, k14, n14⟩, -, X14, ⟨Lc14, hQ14, l14, y14, z14⟩, st14⟩ := Jvm.LawKit.callS X13 hx (y := (⟨"com/example/austere_json/austerejson/Frame$Judged", "of", "(Z)Lcom/example/austere_json/austerejson/Frame$Judged;"⟩ : MethodName)) hown (mvT hZ (hw _ (List.mem_of_getElem? (i := 0) rfl))) (mvT hZ (hw _ (List.mem_of_getElem? (i := 1) rfl))) (mvT hZ (hw _ (List.mem_of_getElem? (i := 2) rfl))) (mvT hZ (hw _ (List.mem_of_getElem? (i := 3) rfl))) (by decide) (backOf (W := 0) (rm1 l Z a0 hw [] (1 : Int32) f tt tt h0 n0 Z0 O0 SF SH ⟨fun q => absurd q (by decide), fun _ => rfl⟩) hZ (hw _ (List.mem_of_getElem? (i := 3) rfl)) (hw _ (List.mem_of_getElem? (i := 2) rfl)) (by decide) (by decide)) (g := (mkF m 18 #[.val (.int p1), .val (.int (1 : Int32)), .val (.ref tt), .unset, .unset, .unset, .unset, .unset, .unset] [(.int (1 : Int32))])) rfl (by rw [hml]; rfl) (argsL := [(.int (1 : Int32))]) (rest := []) (lenOf own_pd0 rfl) rfl (by show 2 * 0 + _ ≤ _; exact Nat.le_of_eq rfl) (hb hby at_18) (fun _ _ => ⟨rfl, e13, (by decide : 0 + 0 ≤ _), (by decide : 0 + 0 ≤ _)⟩)
    dsimp only [Pt.U, Pt.locs, Pt.cells, Pt.slots] at X14 l14 y14 z14 st14 hQ14
    subst l14 y14 z14
    obtain ⟨rfl, N14q, e14⟩ := hQ14
    have N14 := Fr.app N13 N14q
    refine own_go ?_ (fun tq kt => st14 _ kt)
    show own_Fin _ _ _ _ (T14.setTop (mkF m 21 #[.val (.int p1), .val (.int (1 : Int32)), .val (.ref tt), .unset, .unset, .unset, .unset, .unset, .unset] [(.ref tt)]))
    refine own_go ?_ (fun tq kt => XS.astoreN X14.here hx rfl (hb hby at_21) rfl rfl (l' := #[.val (.int p1), .val (.int (1 : Int32)), .val (.ref tt), .val (.ref tt), .unset, .unset, .unset, .unset, .unset]) rfl kt)
    show own_Fin _ _ _ _ (T14.setTop (mkF m 22 #[.val (.int p1), .val (.int (1 : Int32)), .val (.ref tt), .val (.ref tt), .unset, .unset, .unset, .unset, .unset] []))
    refine own_go ?_ (fun tq kt => XS.iloadN X14.here hx rfl (hb hby at_22) rfl kt)
    show own_Fin _ _ _ _ (T14.setTop (mkF m 23 #[.val (.int p1), .val (.int (1 : Int32)), .val (.ref tt), .val (.ref tt), .unset, .unset, .unset, .unset, .unset] [(.int (1 : Int32))]))
    refine own_go ?_ (fun tq kt => XS.ifYes X14.here hx rfl (pc0 := 23) (pc' := 30) rfl (hb hby at_23) rfl ((if0 _ _).trans (feq ((by decide) : ¬ ((1 : Int32) = (0 : Int32)))).2) (by decide) (by decide) kt)
    show own_Fin _ _ _ _ (T14.setTop (mkF m 30 #[.val (.int p1), .val (.int (1 : Int32)), .val (.ref tt), .val (.ref tt), .unset, .unset, .unset, .unset, .unset] []))
    refine own_go ?_ (fun tq kt => XS.iconst X14.here hx rfl (hb hby at_30) kt)
    show own_Fin _ _ _ _ (T14.setTop (mkF m 31 #[.val (.int p1), .val (.int (1 : Int32)), .val (.ref tt), .val (.ref tt), .unset, .unset, .unset, .unset, .unset] [(.int (0 : Int32))]))
    obtain ⟨_, _, ⟨T15, L15, k15, n15⟩, -, X15, ⟨Lc15, hQ15, l15, y15, z15⟩, st15⟩ := Jvm.LawKit.callS X14 hx (y := (⟨"com/example/austere_json/austerejson/Frame$Judged", "of", "(Z)Lcom/example/austere_json/austerejson/Frame$Judged;"⟩ : MethodName)) hown (mvT hZ (hw _ (List.mem_of_getElem? (i := 0) rfl))) (mvT hZ (hw _ (List.mem_of_getElem? (i := 1) rfl))) (mvT hZ (hw _ (List.mem_of_getElem? (i := 2) rfl))) (mvT hZ (hw _ (List.mem_of_getElem? (i := 3) rfl))) (by decide) (backOf (W := 0) (rm1 l Z a0 hw [] (0 : Int32) f tt f h0 n0 Z0 O0 SF SH ⟨fun _ => rfl, fun q => absurd rfl q⟩) hZ (hw _ (List.mem_of_getElem? (i := 3) rfl)) (hw _ (List.mem_of_getElem? (i := 2) rfl)) (by decide) (by decide)) (g := (mkF m 31 #[.val (.int p1), .val (.int (1 : Int32)), .val (.ref tt), .val (.ref tt), .unset, .unset, .unset, .unset, .unset] [(.int (0 : Int32))])) rfl (by rw [hml]; rfl) (argsL := [(.int (0 : Int32))]) (rest := []) (lenOf own_pd0 rfl) rfl (by show 2 * 0 + _ ≤ _; exact Nat.le_of_eq rfl) (hb hby at_31) (fun _ _ => ⟨rfl, e14, (by decide : 0 + 0 ≤ _), (by decide : 0 + 0 ≤ _)⟩)
    dsimp only [Pt.U, Pt.locs, Pt.cells, Pt.slots] at X15 l15 y15 z15 st15 hQ15
    subst l15 y15 z15
    obtain ⟨rfl, N15q, e15⟩ := hQ15
    have N15 := Fr.app N14 N15q
    refine own_go ?_ (fun tq kt => st15 _ kt)
    show own_Fin _ _ _ _ (T15.setTop (mkF m 34 #[.val (.int p1), .val (.int (1 : Int32)), .val (.ref tt), .val (.ref tt), .unset, .unset, .unset, .unset, .unset] [(.ref f)]))
    refine own_go ?_ (fun tq kt => XS.astore X15.here hx rfl (hb hby at_34) rfl rfl (l' := #[.val (.int p1), .val (.int (1 : Int32)), .val (.ref tt), .val (.ref tt), .val (.ref f), .unset, .unset, .unset, .unset]) rfl kt)
    show own_Fin _ _ _ _ (T15.setTop (mkF m 36 #[.val (.int p1), .val (.int (1 : Int32)), .val (.ref tt), .val (.ref tt), .val (.ref f), .unset, .unset, .unset, .unset] []))
    refine own_go ?_ (fun tq kt => XS.aloadN X15.here hx rfl (hb hby at_36) rfl rfl kt)
    show own_Fin _ _ _ _ (T15.setTop (mkF m 37 #[.val (.int p1), .val (.int (1 : Int32)), .val (.ref tt), .val (.ref tt), .val (.ref f), .unset, .unset, .unset, .unset] [(.ref tt)]))
    refine own_go ?_ (fun tq kt => XS.ifnullNo X15.here hx rfl (hb hby at_37) rfl kt)
    show own_Fin _ _ _ _ (T15.setTop (mkF m 40 #[.val (.int p1), .val (.int (1 : Int32)), .val (.ref tt), .val (.ref tt), .val (.ref f), .unset, .unset, .unset, .unset] []))
    refine own_go ?_ (fun tq kt => XS.aload X15.here hx rfl (hb hby at_40) rfl rfl kt)
    show own_Fin _ _ _ _ (T15.setTop (mkF m 42 #[.val (.int p1), .val (.int (1 : Int32)), .val (.ref tt), .val (.ref tt), .val (.ref f), .unset, .unset, .unset, .unset] [(.ref f)]))
    refine own_go ?_ (fun tq kt => XS.ifnonnullYes X15.here hx rfl (pc0 := 42) (pc' := 47) rfl (hb hby at_42) rfl (by decide) (by decide) kt)
    show own_Fin _ _ _ _ (T15.setTop (mkF m 47 #[.val (.int p1), .val (.int (1 : Int32)), .val (.ref tt), .val (.ref tt), .val (.ref f), .unset, .unset, .unset, .unset] []))
    refine own_go ?_ (fun tq kt => XS.aloadN X15.here hx rfl (hb hby at_47) rfl rfl kt)
    show own_Fin _ _ _ _ (T15.setTop (mkF m 48 #[.val (.int p1), .val (.int (1 : Int32)), .val (.ref tt), .val (.ref tt), .val (.ref f), .unset, .unset, .unset, .unset] [(.ref tt)]))
    refine own_go ?_ (fun tq kt => XS.aloadN X15.here hx rfl (hb hby at_48) rfl rfl kt)
    show own_Fin _ _ _ _ (T15.setTop (mkF m 49 #[.val (.int p1), .val (.int (1 : Int32)), .val (.ref tt), .val (.ref tt), .val (.ref f), .unset, .unset, .unset, .unset] [(.ref tt), (.ref tt)]))
    refine own_go ?_ (fun tq kt => Jvm.RoadKit.acmp (g := (mkF m 49 #[.val (.int p1), .val (.int (1 : Int32)), .val (.ref tt), .val (.ref tt), .val (.ref f), .unset, .unset, .unset, .unset] [(.ref tt), (.ref tt)])) X15 hx rfl rfl rfl (pc0 := 49) (pc' := 52) (same := true) rfl (hb hby at_49) rfl (decide_eq_true rfl) (by decide) (by decide) kt)
    show own_Fin _ _ _ _ (T15.setTop (mkF m 52 #[.val (.int p1), .val (.int (1 : Int32)), .val (.ref tt), .val (.ref tt), .val (.ref f), .unset, .unset, .unset, .unset] []))
    refine own_go ?_ (fun tq kt => XS.aloadN X15.here hx rfl (hb hby at_52) rfl rfl kt)
    show own_Fin _ _ _ _ (T15.setTop (mkF m 53 #[.val (.int p1), .val (.int (1 : Int32)), .val (.ref tt), .val (.ref tt), .val (.ref f), .unset, .unset, .unset, .unset] [(.ref tt)]))
    refine own_go ?_ (fun tq kt => XS.aload X15.here hx rfl (hb hby at_53) rfl rfl kt)
    show own_Fin _ _ _ _ (T15.setTop (mkF m 55 #[.val (.int p1), .val (.int (1 : Int32)), .val (.ref tt), .val (.ref tt), .val (.ref f), .unset, .unset, .unset, .unset] [(.ref f), (.ref tt)]))
    refine own_go ?_ (fun tq kt => Jvm.RoadKit.acmp (g := (mkF m 55 #[.val (.int p1), .val (.int (1 : Int32)), .val (.ref tt), .val (.ref tt), .val (.ref f), .unset, .unset, .unset, .unset] [(.ref f), (.ref tt)])) X15 hx rfl rfl rfl (pc0 := 55) (pc' := 58) (same := false) rfl (hb hby at_55) rfl (decide_eq_false fun q => (Ne.symm hne) (Value.ref.inj q)) (by decide) (by decide) kt)
    show own_Fin _ _ _ _ (T15.setTop (mkF m 58 #[.val (.int p1), .val (.int (1 : Int32)), .val (.ref tt), .val (.ref tt), .val (.ref f), .unset, .unset, .unset, .unset] []))
    refine own_go ?_ (fun tq kt => XS.iconst X15.here hx rfl (hb hby at_58) kt)
    show own_Fin _ _ _ _ (T15.setTop (mkF m 59 #[.val (.int p1), .val (.int (1 : Int32)), .val (.ref tt), .val (.ref tt), .val (.ref f), .unset, .unset, .unset, .unset] [(.int (1 : Int32))]))
    refine own_go ?_ (fun tq kt => XS.goto X15.here hx rfl (pc0 := 59) (pc' := 63) rfl (hb hby at_59) (by decide) (by decide) kt)
    show own_Fin _ _ _ _ (T15.setTop (mkF m 63 #[.val (.int p1), .val (.int (1 : Int32)), .val (.ref tt), .val (.ref tt), .val (.ref f), .unset, .unset, .unset, .unset] [(.int (1 : Int32))]))
    refine own_go ?_ (fun tq kt => XS.istore X15.here hx rfl (hb hby at_63) rfl (l' := #[.val (.int p1), .val (.int (1 : Int32)), .val (.ref tt), .val (.ref tt), .val (.ref f), .val (.int (1 : Int32)), .unset, .unset, .unset]) rfl kt)
    show own_Fin _ _ _ _ (T15.setTop (mkF m 65 #[.val (.int p1), .val (.int (1 : Int32)), .val (.ref tt), .val (.ref tt), .val (.ref f), .val (.int (1 : Int32)), .unset, .unset, .unset] []))
    refine own_go ?_ (fun tq kt => XS.aloadN X15.here hx rfl (hb hby at_65) rfl rfl kt)
    show own_Fin _ _ _ _ (T15.setTop (mkF m 66 #[.val (.int p1), .val (.int (1 : Int32)), .val (.ref tt), .val (.ref tt), .val (.ref f), .val (.int (1 : Int32)), .unset, .unset, .unset] [(.ref tt)]))
    refine own_go ?_ (fun tq kt => XS.iloadN X15.here hx rfl (hb hby at_66) rfl kt)
    show own_Fin _ _ _ _ (T15.setTop (mkF m 67 #[.val (.int p1), .val (.int (1 : Int32)), .val (.ref tt), .val (.ref tt), .val (.ref f), .val (.int (1 : Int32)), .unset, .unset, .unset] [(.int (1 : Int32)), (.ref tt)]))
    refine own_go ?_ (fun tq kt => XS.ifNo X15.here hx rfl (hb hby at_67) rfl ((if0 _ _).trans (feq ((by decide) : ¬ ((1 : Int32) = (0 : Int32)))).1) kt)
    show own_Fin _ _ _ _ (T15.setTop (mkF m 70 #[.val (.int p1), .val (.int (1 : Int32)), .val (.ref tt), .val (.ref tt), .val (.ref f), .val (.int (1 : Int32)), .unset, .unset, .unset] [(.ref tt)]))
    obtain ⟨T16, X16, e16, st16⟩ := getS2 X15 hx hZ hown (host := "") (Or.inl (hw _ (List.mem_of_getElem? (i := 21) rfl))) Via.refl e15 (SH.ext O0.2) (g := (mkF m 70 #[.val (.int p1), .val (.int (1 : Int32)), .val (.ref tt), .val (.ref tt), .val (.ref f), .val (.int (1 : Int32)), .unset, .unset, .unset] [(.ref tt)])) rfl (hb hby at_70)
    refine own_go ?_ (fun tq kt => st16 _ kt)
    show own_Fin _ _ _ _ (T16.setTop (mkF m 73 #[.val (.int p1), .val (.int (1 : Int32)), .val (.ref tt), .val (.ref tt), .val (.ref f), .val (.int (1 : Int32)), .unset, .unset, .unset] [(.ref tt), (.ref tt)]))
    refine own_go ?_ (fun tq kt => XS.goto X16.here hx rfl (pc0 := 73) (pc' := 79) rfl (hb hby at_73) (by decide) (by decide) kt)
    show own_Fin _ _ _ _ (T16.setTop (mkF m 79 #[.val (.int p1), .val (.int (1 : Int32)), .val (.ref tt), .val (.ref tt), .val (.ref f), .val (.int (1 : Int32)), .unset, .unset, .unset] [(.ref tt), (.ref tt)]))
    refine own_go ?_ (fun tq kt => Jvm.RoadKit.acmp (g := (mkF m 79 #[.val (.int p1), .val (.int (1 : Int32)), .val (.ref tt), .val (.ref tt), .val (.ref f), .val (.int (1 : Int32)), .unset, .unset, .unset] [(.ref tt), (.ref tt)])) X16 hx rfl rfl rfl (pc0 := 79) (pc' := 82) (same := true) rfl (hb hby at_79) rfl (decide_eq_true rfl) (by decide) (by decide) kt)
    show own_Fin _ _ _ _ (T16.setTop (mkF m 82 #[.val (.int p1), .val (.int (1 : Int32)), .val (.ref tt), .val (.ref tt), .val (.ref f), .val (.int (1 : Int32)), .unset, .unset, .unset] []))
    refine own_go ?_ (fun tq kt => XS.iconst X16.here hx rfl (hb hby at_82) kt)
    show own_Fin _ _ _ _ (T16.setTop (mkF m 83 #[.val (.int p1), .val (.int (1 : Int32)), .val (.ref tt), .val (.ref tt), .val (.ref f), .val (.int (1 : Int32)), .unset, .unset, .unset] [(.int (1 : Int32))]))
    refine own_go ?_ (fun tq kt => XS.goto X16.here hx rfl (pc0 := 83) (pc' := 87) rfl (hb hby at_83) (by decide) (by decide) kt)
    show own_Fin _ _ _ _ (T16.setTop (mkF m 87 #[.val (.int p1), .val (.int (1 : Int32)), .val (.ref tt), .val (.ref tt), .val (.ref f), .val (.int (1 : Int32)), .unset, .unset, .unset] [(.int (1 : Int32))]))
    refine own_go ?_ (fun tq kt => XS.istore X16.here hx rfl (hb hby at_87) rfl (l' := #[.val (.int p1), .val (.int (1 : Int32)), .val (.ref tt), .val (.ref tt), .val (.ref f), .val (.int (1 : Int32)), .val (.int (1 : Int32)), .unset, .unset]) rfl kt)
    show own_Fin _ _ _ _ (T16.setTop (mkF m 89 #[.val (.int p1), .val (.int (1 : Int32)), .val (.ref tt), .val (.ref tt), .val (.ref f), .val (.int (1 : Int32)), .val (.int (1 : Int32)), .unset, .unset] []))
    refine own_go ?_ (fun tq kt => XS.aloadN X16.here hx rfl (hb hby at_89) rfl rfl kt)
    show own_Fin _ _ _ _ (T16.setTop (mkF m 90 #[.val (.int p1), .val (.int (1 : Int32)), .val (.ref tt), .val (.ref tt), .val (.ref f), .val (.int (1 : Int32)), .val (.int (1 : Int32)), .unset, .unset] [(.ref tt)]))
    obtain ⟨cq17, kq17, q17a, q17b, q17c⟩ := isOf hZ e16 (ET.ext O0.2)
    obtain ⟨_, _, ⟨T17, L17, k17, n17⟩, -, X17, ⟨Lc17, hQ17, l17, y17, z17⟩, st17⟩ := X16.virtualBack hx (y := (⟨"com/example/austere_json/austerejson/Frame$Judged", "finish", "()Z"⟩ : MethodName)) (z := (⟨"com/example/austere_json/austerejson/Frame$Judged", "finish", "()Z"⟩ : MethodName)) hown (mvT hZ (hw _ (List.mem_of_getElem? (i := 9) rfl))) (mvT hZ (hw _ (List.mem_of_getElem? (i := 10) rfl))) (notFace_of_selects (args := #[]) (mvT hZ (hw _ (List.mem_of_getElem? (i := 12) rfl)))) (mvT hZ (hw _ (List.mem_of_getElem? (i := 12) rfl))) (mvT hZ (hw _ (List.mem_of_getElem? (i := 11) rfl))) (by decide) (backOf (W := 0) (rm2 l Z a0 hw [] tt (1 : Int32) h0 n0 Z0 O0 FT rfl) hZ (hw _ (List.mem_of_getElem? (i := 13) rfl)) (hw _ (List.mem_of_getElem? (i := 2) rfl)) (by decide) (by decide)) q17a q17c (g := (mkF m 90 #[.val (.int p1), .val (.int (1 : Int32)), .val (.ref tt), .val (.ref tt), .val (.ref f), .val (.int (1 : Int32)), .val (.int (1 : Int32)), .unset, .unset] [(.ref tt)])) rfl (by rw [hml]; rfl) (Steps.refl _) (argsL := []) (rest := []) (lenOf own_pd1 rfl) rfl (by show 2 * 0 + _ ≤ _; exact Nat.le_of_eq rfl) (hb hby at_90) (fun _ _ => ⟨rfl, e16, (by decide : 0 + 0 ≤ _), (by decide : 0 + 0 ≤ _)⟩)
    dsimp only [Pt.U, Pt.locs, Pt.cells, Pt.slots] at X17 l17 y17 z17 st17 hQ17
    subst l17 y17 z17
    obtain ⟨rfl, N17q, e17⟩ := hQ17
    have N17 := Fr.app N15 N17q
    refine own_go ?_ (fun tq kt => st17.trans kt)
    show own_Fin _ _ _ _ (T17.setTop (mkF m 93 #[.val (.int p1), .val (.int (1 : Int32)), .val (.ref tt), .val (.ref tt), .val (.ref f), .val (.int (1 : Int32)), .val (.int (1 : Int32)), .unset, .unset] [(.int (1 : Int32))]))
    refine own_go ?_ (fun tq kt => XS.iloadN X17.here hx rfl (hb hby at_93) rfl kt)
    show own_Fin _ _ _ _ (T17.setTop (mkF m 94 #[.val (.int p1), .val (.int (1 : Int32)), .val (.ref tt), .val (.ref tt), .val (.ref f), .val (.int (1 : Int32)), .val (.int (1 : Int32)), .unset, .unset] [(.int (1 : Int32)), (.int (1 : Int32))]))
    refine own_go ?_ (fun tq kt => XS.icmpNo X17.here hx rfl (hb hby at_94) rfl (teq (rfl : (1 : Int32) = (1 : Int32))).2 kt)
    show own_Fin _ _ _ _ (T17.setTop (mkF m 97 #[.val (.int p1), .val (.int (1 : Int32)), .val (.ref tt), .val (.ref tt), .val (.ref f), .val (.int (1 : Int32)), .val (.int (1 : Int32)), .unset, .unset] []))
    refine own_go ?_ (fun tq kt => XS.aload X17.here hx rfl (hb hby at_97) rfl rfl kt)
    show own_Fin _ _ _ _ (T17.setTop (mkF m 99 #[.val (.int p1), .val (.int (1 : Int32)), .val (.ref tt), .val (.ref tt), .val (.ref f), .val (.int (1 : Int32)), .val (.int (1 : Int32)), .unset, .unset] [(.ref f)]))
    obtain ⟨cq18, kq18, q18a, q18b, q18c⟩ := isOf hZ e17 (EF.ext O0.2)
    obtain ⟨_, _, ⟨T18, L18, k18, n18⟩, -, X18, ⟨Lc18, hQ18, l18, y18, z18⟩, st18⟩ := X17.virtualBack hx (y := (⟨"com/example/austere_json/austerejson/Frame$Judged", "finish", "()Z"⟩ : MethodName)) (z := (⟨"com/example/austere_json/austerejson/Frame$Judged", "finish", "()Z"⟩ : MethodName)) hown (mvT hZ (hw _ (List.mem_of_getElem? (i := 9) rfl))) (mvT hZ (hw _ (List.mem_of_getElem? (i := 10) rfl))) (notFace_of_selects (args := #[]) (mvT hZ (hw _ (List.mem_of_getElem? (i := 12) rfl)))) (mvT hZ (hw _ (List.mem_of_getElem? (i := 12) rfl))) (mvT hZ (hw _ (List.mem_of_getElem? (i := 11) rfl))) (by decide) (backOf (W := 0) (rm2 l Z a0 hw [] f (0 : Int32) h0 n0 Z0 O0 FF rfl) hZ (hw _ (List.mem_of_getElem? (i := 13) rfl)) (hw _ (List.mem_of_getElem? (i := 2) rfl)) (by decide) (by decide)) q18a q18c (g := (mkF m 99 #[.val (.int p1), .val (.int (1 : Int32)), .val (.ref tt), .val (.ref tt), .val (.ref f), .val (.int (1 : Int32)), .val (.int (1 : Int32)), .unset, .unset] [(.ref f)])) rfl (by rw [hml]; rfl) (Steps.refl _) (argsL := []) (rest := []) (lenOf own_pd1 rfl) rfl (by show 2 * 0 + _ ≤ _; exact Nat.le_of_eq rfl) (hb hby at_99) (fun _ _ => ⟨rfl, e17, (by decide : 0 + 0 ≤ _), (by decide : 0 + 0 ≤ _)⟩)
    dsimp only [Pt.U, Pt.locs, Pt.cells, Pt.slots] at X18 l18 y18 z18 st18 hQ18
    subst l18 y18 z18
    obtain ⟨rfl, N18q, e18⟩ := hQ18
    have N18 := Fr.app N17 N18q
    refine own_go ?_ (fun tq kt => st18.trans kt)
    show own_Fin _ _ _ _ (T18.setTop (mkF m 102 #[.val (.int p1), .val (.int (1 : Int32)), .val (.ref tt), .val (.ref tt), .val (.ref f), .val (.int (1 : Int32)), .val (.int (1 : Int32)), .unset, .unset] [(.int (0 : Int32))]))
    refine own_go ?_ (fun tq kt => XS.iloadN X18.here hx rfl (hb hby at_102) rfl kt)
    show own_Fin _ _ _ _ (T18.setTop (mkF m 103 #[.val (.int p1), .val (.int (1 : Int32)), .val (.ref tt), .val (.ref tt), .val (.ref f), .val (.int (1 : Int32)), .val (.int (1 : Int32)), .unset, .unset] [(.int (1 : Int32)), (.int (0 : Int32))]))
    refine own_go ?_ (fun tq kt => XS.ifYes X18.here hx rfl (pc0 := 103) (pc' := 110) rfl (hb hby at_103) rfl ((if0 _ _).trans (feq ((by decide) : ¬ ((1 : Int32) = (0 : Int32)))).2) (by decide) (by decide) kt)
    show own_Fin _ _ _ _ (T18.setTop (mkF m 110 #[.val (.int p1), .val (.int (1 : Int32)), .val (.ref tt), .val (.ref tt), .val (.ref f), .val (.int (1 : Int32)), .val (.int (1 : Int32)), .unset, .unset] [(.int (0 : Int32))]))
    refine own_go ?_ (fun tq kt => XS.iconst X18.here hx rfl (hb hby at_110) kt)
    show own_Fin _ _ _ _ (T18.setTop (mkF m 111 #[.val (.int p1), .val (.int (1 : Int32)), .val (.ref tt), .val (.ref tt), .val (.ref f), .val (.int (1 : Int32)), .val (.int (1 : Int32)), .unset, .unset] [(.int (0 : Int32)), (.int (0 : Int32))]))
    refine own_go ?_ (fun tq kt => XS.icmpNo X18.here hx rfl (hb hby at_111) rfl (teq (rfl : (0 : Int32) = (0 : Int32))).2 kt)
    show own_Fin _ _ _ _ (T18.setTop (mkF m 114 #[.val (.int p1), .val (.int (1 : Int32)), .val (.ref tt), .val (.ref tt), .val (.ref f), .val (.int (1 : Int32)), .val (.int (1 : Int32)), .unset, .unset] []))
    refine own_go ?_ (fun tq kt => XS.iconst X18.here hx rfl (hb hby at_114) kt)
    show own_Fin _ _ _ _ (T18.setTop (mkF m 115 #[.val (.int p1), .val (.int (1 : Int32)), .val (.ref tt), .val (.ref tt), .val (.ref f), .val (.int (1 : Int32)), .val (.int (1 : Int32)), .unset, .unset] [(.int (1 : Int32))]))
    refine own_go ?_ (fun tq kt => XS.goto X18.here hx rfl (pc0 := 115) (pc' := 119) rfl (hb hby at_115) (by decide) (by decide) kt)
    show own_Fin _ _ _ _ (T18.setTop (mkF m 119 #[.val (.int p1), .val (.int (1 : Int32)), .val (.ref tt), .val (.ref tt), .val (.ref f), .val (.int (1 : Int32)), .val (.int (1 : Int32)), .unset, .unset] [(.int (1 : Int32))]))
    refine own_go ?_ (fun tq kt => XS.istore X18.here hx rfl (hb hby at_119) rfl (l' := #[.val (.int p1), .val (.int (1 : Int32)), .val (.ref tt), .val (.ref tt), .val (.ref f), .val (.int (1 : Int32)), .val (.int (1 : Int32)), .val (.int (1 : Int32)), .unset]) rfl kt)
    show own_Fin _ _ _ _ (T18.setTop (mkF m 121 #[.val (.int p1), .val (.int (1 : Int32)), .val (.ref tt), .val (.ref tt), .val (.ref f), .val (.int (1 : Int32)), .val (.int (1 : Int32)), .val (.int (1 : Int32)), .unset] []))
    refine own_go ?_ (fun tq kt => XS.aloadN X18.here hx rfl (hb hby at_121) rfl rfl kt)
    show own_Fin _ _ _ _ (T18.setTop (mkF m 122 #[.val (.int p1), .val (.int (1 : Int32)), .val (.ref tt), .val (.ref tt), .val (.ref f), .val (.int (1 : Int32)), .val (.int (1 : Int32)), .val (.int (1 : Int32)), .unset] [(.ref tt)]))
    obtain ⟨cq19, kq19, q19a, q19b, q19c⟩ := isOf hZ e18 (ET.ext O0.2)
    obtain ⟨_, _, ⟨T19, L19, k19, n19⟩, -, X19, ⟨Lc19, hQ19, l19, y19, z19⟩, st19⟩ := X18.virtualBack hx (y := (⟨"com/example/austere_json/austerejson/Frame$Judged", "next", "()Lcom/example/austere_json/austerejson/Frame;"⟩ : MethodName)) (z := (⟨"com/example/austere_json/austerejson/Frame$Judged", "next", "()Lcom/example/austere_json/austerejson/Frame;"⟩ : MethodName)) hown (mvT hZ (hw _ (List.mem_of_getElem? (i := 16) rfl))) (mvT hZ (hw _ (List.mem_of_getElem? (i := 17) rfl))) (notFace_of_selects (args := #[]) (mvT hZ (hw _ (List.mem_of_getElem? (i := 19) rfl)))) (mvT hZ (hw _ (List.mem_of_getElem? (i := 19) rfl))) (mvT hZ (hw _ (List.mem_of_getElem? (i := 18) rfl))) (by decide) (backOf (W := 0) (rm3 l Z a0 hw [] tt h0 n0 Z0) hZ (hw _ (List.mem_of_getElem? (i := 20) rfl)) (hw _ (List.mem_of_getElem? (i := 2) rfl)) (by decide) (by decide)) q19a q19c (g := (mkF m 122 #[.val (.int p1), .val (.int (1 : Int32)), .val (.ref tt), .val (.ref tt), .val (.ref f), .val (.int (1 : Int32)), .val (.int (1 : Int32)), .val (.int (1 : Int32)), .unset] [(.ref tt)])) rfl (by rw [hml]; rfl) (Steps.refl _) (argsL := []) (rest := []) (lenOf own_pd2 rfl) rfl (by show 2 * 0 + _ ≤ _; exact Nat.le_of_eq rfl) (hb hby at_122) (fun _ _ => ⟨rfl, e18, (by decide : 0 + 0 ≤ _), (by decide : 0 + 0 ≤ _)⟩)
    dsimp only [Pt.U, Pt.locs, Pt.cells, Pt.slots] at X19 l19 y19 z19 st19 hQ19
    subst l19 y19 z19
    obtain ⟨rfl, N19q, e19⟩ := hQ19
    have N19 := Fr.app N18 N19q
    refine own_go ?_ (fun tq kt => st19.trans kt)
    show own_Fin _ _ _ _ (T19.setTop (mkF m 125 #[.val (.int p1), .val (.int (1 : Int32)), .val (.ref tt), .val (.ref tt), .val (.ref f), .val (.int (1 : Int32)), .val (.int (1 : Int32)), .val (.int (1 : Int32)), .unset] [.null]))
    refine own_go ?_ (fun tq kt => XS.ifnonnullNo X19.here hx rfl (hb hby at_125) rfl kt)
    show own_Fin _ _ _ _ (T19.setTop (mkF m 128 #[.val (.int p1), .val (.int (1 : Int32)), .val (.ref tt), .val (.ref tt), .val (.ref f), .val (.int (1 : Int32)), .val (.int (1 : Int32)), .val (.int (1 : Int32)), .unset] []))
    refine own_go ?_ (fun tq kt => XS.iconst X19.here hx rfl (hb hby at_128) kt)
    show own_Fin _ _ _ _ (T19.setTop (mkF m 129 #[.val (.int p1), .val (.int (1 : Int32)), .val (.ref tt), .val (.ref tt), .val (.ref f), .val (.int (1 : Int32)), .val (.int (1 : Int32)), .val (.int (1 : Int32)), .unset] [(.int (1 : Int32))]))
    refine own_go ?_ (fun tq kt => XS.goto X19.here hx rfl (pc0 := 129) (pc' := 133) rfl (hb hby at_129) (by decide) (by decide) kt)
    show own_Fin _ _ _ _ (T19.setTop (mkF m 133 #[.val (.int p1), .val (.int (1 : Int32)), .val (.ref tt), .val (.ref tt), .val (.ref f), .val (.int (1 : Int32)), .val (.int (1 : Int32)), .val (.int (1 : Int32)), .unset] [(.int (1 : Int32))]))
    refine own_go ?_ (fun tq kt => XS.istore X19.here hx rfl (hb hby at_133) rfl (l' := #[.val (.int p1), .val (.int (1 : Int32)), .val (.ref tt), .val (.ref tt), .val (.ref f), .val (.int (1 : Int32)), .val (.int (1 : Int32)), .val (.int (1 : Int32)), .val (.int (1 : Int32))]) rfl kt)
    show own_Fin _ _ _ _ (T19.setTop (mkF m 135 #[.val (.int p1), .val (.int (1 : Int32)), .val (.ref tt), .val (.ref tt), .val (.ref f), .val (.int (1 : Int32)), .val (.int (1 : Int32)), .val (.int (1 : Int32)), .val (.int (1 : Int32))] []))
    refine own_go ?_ (fun tq kt => XS.iload X19.here hx rfl (hb hby at_135) rfl kt)
    show own_Fin _ _ _ _ (T19.setTop (mkF m 137 #[.val (.int p1), .val (.int (1 : Int32)), .val (.ref tt), .val (.ref tt), .val (.ref f), .val (.int (1 : Int32)), .val (.int (1 : Int32)), .val (.int (1 : Int32)), .val (.int (1 : Int32))] [(.int (1 : Int32))]))
    refine own_go ?_ (fun tq kt => XS.ifNo X19.here hx rfl (hb hby at_137) rfl ((if0 _ _).trans (feq ((by decide) : ¬ ((1 : Int32) = (0 : Int32)))).1) kt)
    show own_Fin _ _ _ _ (T19.setTop (mkF m 140 #[.val (.int p1), .val (.int (1 : Int32)), .val (.ref tt), .val (.ref tt), .val (.ref f), .val (.int (1 : Int32)), .val (.int (1 : Int32)), .val (.int (1 : Int32)), .val (.int (1 : Int32))] []))
    refine own_go ?_ (fun tq kt => XS.iload X19.here hx rfl (hb hby at_140) rfl kt)
    show own_Fin _ _ _ _ (T19.setTop (mkF m 142 #[.val (.int p1), .val (.int (1 : Int32)), .val (.ref tt), .val (.ref tt), .val (.ref f), .val (.int (1 : Int32)), .val (.int (1 : Int32)), .val (.int (1 : Int32)), .val (.int (1 : Int32))] [(.int (1 : Int32))]))
    refine own_go ?_ (fun tq kt => XS.ifNo X19.here hx rfl (hb hby at_142) rfl ((if0 _ _).trans (feq ((by decide) : ¬ ((1 : Int32) = (0 : Int32)))).1) kt)
    show own_Fin _ _ _ _ (T19.setTop (mkF m 145 #[.val (.int p1), .val (.int (1 : Int32)), .val (.ref tt), .val (.ref tt), .val (.ref f), .val (.int (1 : Int32)), .val (.int (1 : Int32)), .val (.int (1 : Int32)), .val (.int (1 : Int32))] []))
    refine own_go ?_ (fun tq kt => XS.iload X19.here hx rfl (hb hby at_145) rfl kt)
    show own_Fin _ _ _ _ (T19.setTop (mkF m 147 #[.val (.int p1), .val (.int (1 : Int32)), .val (.ref tt), .val (.ref tt), .val (.ref f), .val (.int (1 : Int32)), .val (.int (1 : Int32)), .val (.int (1 : Int32)), .val (.int (1 : Int32))] [(.int (1 : Int32))]))
    refine own_go ?_ (fun tq kt => XS.ifNo X19.here hx rfl (hb hby at_147) rfl ((if0 _ _).trans (feq ((by decide) : ¬ ((1 : Int32) = (0 : Int32)))).1) kt)
    show own_Fin _ _ _ _ (T19.setTop (mkF m 150 #[.val (.int p1), .val (.int (1 : Int32)), .val (.ref tt), .val (.ref tt), .val (.ref f), .val (.int (1 : Int32)), .val (.int (1 : Int32)), .val (.int (1 : Int32)), .val (.int (1 : Int32))] []))
    refine own_go ?_ (fun tq kt => XS.iload X19.here hx rfl (hb hby at_150) rfl kt)
    show own_Fin _ _ _ _ (T19.setTop (mkF m 152 #[.val (.int p1), .val (.int (1 : Int32)), .val (.ref tt), .val (.ref tt), .val (.ref f), .val (.int (1 : Int32)), .val (.int (1 : Int32)), .val (.int (1 : Int32)), .val (.int (1 : Int32))] [(.int (1 : Int32))]))
    refine own_go ?_ (fun tq kt => XS.ifNo X19.here hx rfl (hb hby at_152) rfl ((if0 _ _).trans (feq ((by decide) : ¬ ((1 : Int32) = (0 : Int32)))).1) kt)
    show own_Fin _ _ _ _ (T19.setTop (mkF m 155 #[.val (.int p1), .val (.int (1 : Int32)), .val (.ref tt), .val (.ref tt), .val (.ref f), .val (.int (1 : Int32)), .val (.int (1 : Int32)), .val (.int (1 : Int32)), .val (.int (1 : Int32))] []))
    refine own_go ?_ (fun tq kt => XS.iconst X19.here hx rfl (hb hby at_155) kt)
    show own_Fin _ _ _ _ (T19.setTop (mkF m 156 #[.val (.int p1), .val (.int (1 : Int32)), .val (.ref tt), .val (.ref tt), .val (.ref f), .val (.int (1 : Int32)), .val (.int (1 : Int32)), .val (.int (1 : Int32)), .val (.int (1 : Int32))] [(.int (1 : Int32))]))
    refine own_go ?_ (fun tq kt => XS.goto X19.here hx rfl (pc0 := 156) (pc' := 160) rfl (hb hby at_156) (by decide) (by decide) kt)
    show own_Fin _ _ _ _ (T19.setTop (mkF m 160 #[.val (.int p1), .val (.int (1 : Int32)), .val (.ref tt), .val (.ref tt), .val (.ref f), .val (.int (1 : Int32)), .val (.int (1 : Int32)), .val (.int (1 : Int32)), .val (.int (1 : Int32))] [(.int (1 : Int32))]))
    refine own_retN X19 hx (t := .boolean) Bd.returns (by simp) (hb hby at_160) hlk ?_ (by decide) (by decide)
    exact ⟨rfl, N19⟩
theorem own_feq {args : Array Value} {s : State} {t : Term} {x : Addr} {C n d : String} {k : Int32} (ht : t.eval args s none [] s = some (.ref x)) (h : (Jvm.Cond.eq (Term.field t C n d) (Term.int k)).value args s none s [] = some true) : Fld s s.heap x C n d (.int k) := by
  have e1 := Cond.eq_int (beq_iff_eq.mpr h) (Term.int_eval k)
  rw [fld_at ht] at e1
  exact Fld.start e1
set_option maxRecDepth 65536 in
set_option maxHeartbeats 40000000 in
theorem comes_1 {Post : Tables → Env → Array Value → State → Outcome → State → Prop} (hpost : ∀ tb e args s v u, (limb_1_1.after args s (.returned v) u = true ∧ limb_1_2.after args s (.returned v) u = true ∧ True) → FrameEnd s (.returned v) u (Jvm.fieldLocs frame_1_writes args s ++ Jvm.arrayLocs frame_1_arrays args s ++ Jvm.staticLocs frame_1_statics s) 0 0 → Post tb e args s (.returned v) u) :
    ArmFor flags0 classFile x code maxLocals ret World_1 tables_1 room_1 Calls_1 rest_1 Pre_1 Post := by
  intro l hfl _ _ p e ha hc hk s m args below hf hA hF happ hP
  obtain ⟨hcalls, hrest, hpre⟩ := hP
  obtain ⟨-, -, -, hnamed, -, -, -, hat⟩ := (Spec.applies_iff hf).mp happ
  obtain ⟨hg, hn⟩ := and_e (Cond.before_iff.mp (show (Jvm.Cond.and given_1 narrow_1).before args s = true from hpre))
  obtain ⟨g1, g2⟩ := and_e hg
  obtain ⟨w0, rfl⟩ : ∃ w0 : Value, args = #[w0] := by
    have hs : args.size = 1 := by simpa [Cond.value, given_1] using g1
    obtain ⟨L⟩ := args
    match L, hs with
    | [w0], _ => exact ⟨w0, rfl⟩
  have hw := fun d (hd : d ∈ tables_1) => atoms_spec (ws := Jvm.Cond.code x code maxLocals ret :: tables_1) hat d (List.mem_cons_of_mem _ hd)
  obtain ⟨i0, ei0⟩ := is_v g2
  obtain rfl : w0 = (.int i0) := Option.some.inj ei0
  obtain ⟨n1, hn⟩ := and_e hn
  obtain ⟨n2, hn⟩ := and_e hn
  obtain ⟨n3, hn⟩ := and_e hn
  obtain ⟨n4, n5⟩ := and_e hn
  obtain ⟨f, ef⟩ := exa_v n1
  obtain ⟨t, et⟩ := exa_v n2
  have hne : f ≠ t := fun q => gotF (eq_R ef et rfl rfl) (not_v n3) (by rw [q])
  obtain ⟨n, o, h1, h2, h3, _, L, rfl, ⟨rfl, N⟩, hq⟩ := rm0 l s _ hw tables_1 i0 f t s.heap s.heap.size (Nat.le_refl _) (Old.start s) (Sta.start ef (Or.inr ⟨(hw _ (List.mem_of_getElem? (i := 2) rfl)), (hw _ (List.mem_of_getElem? (i := 5) rfl))⟩)) (Sta.start et (Or.inr ⟨(hw _ (List.mem_of_getElem? (i := 2) rfl)), (hw _ (List.mem_of_getElem? (i := 7) rfl))⟩)) (Exa.start ef n1) (Exa.start et n2) (own_feq ef n4) (own_feq et n5) hne p e ha hc hk s m _ below hf ((Spec.applies_iff_loose hf).mp happ).1 ⟨rfl, State.Warmed39.refl s, rfl⟩ trivial
  refine ⟨n, _, h1, h2, h3, hpost _ _ _ _ _ _ ⟨Cond.after_iff.mpr rfl, Cond.after_iff.mpr (eq_i res_at (Term.int_eval (1)) rfl), trivial⟩ ⟨hq.1, hq.2.1, (hq.2.2.sift fun y hy => Or.inr (N y hy)).mono (by decide) (by decide)⟩⟩
theorem main_1_1 : Claimed_1_1 := comes_1 fun _ _ _ _ _ _ h hF => ⟨h.1, hF⟩
theorem main_1_2 : Claimed_1_2 := comes_1 fun _ _ _ _ _ _ h hF => ⟨h.2.1, hF⟩
end Jvm.Pilot.@@N@@
namespace Jvm.Pilot.@@N@@
open Jvm Jvm.ClassFile Sem Op Lib Jvm.Free Jvm.Stand Jvm.Pilot.@@N@@.Jvm.D
/-! MADE BY PROGRAM (witnessworld.py) out of the Statement's table words and the real class files: 10 classes; the members and pool entries that the words name. The judged class is class 1, her method 1. -/
namespace start1
open Jvm.ClassFile
def u (s : String) : CpInfo := .utf8 (stringToUtf16 s)
/-- a pool by its gaps: so many unusable entries, then the entry; so many at the end -/
def gap : Nat → List CpInfo → List CpInfo
  | 0, r => r
  | n + 1, r => .unusable :: gap n r
def poolList (es : List (Nat × CpInfo)) (last : Nat) : List CpInfo := es.foldr (fun e r => gap e.1 (e.2 :: r)) (gap last [])
def pool (es : List (Nat × CpInfo)) (last : Nat) : Array CpInfo := ⟨poolList es last⟩
def fileOf (pool : Array CpInfo) (this : Nat) (attrs : Array Attribute := #[]) (ms : Array MethodInfo := #[]) (fl : Nat := 33) (sup : Nat := 0) (ifs : Array Nat := #[]) (fds : Array FieldInfo := #[]) : ClassFile where
  minorVersion := 0
  majorVersion := 65
  constantPool := pool
  accessFlags := fl
  thisClass := this
  superClass := sup
  interfaces := ifs
  fields := fds
  methods := ms
  attributes := attrs
def plain (name : String) (sup : Option ClassId) : Class where
  name := name
  kind := .ordinary
  loader := none
  accessFlags := 33
  super := sup
  interfaces := #[]
  cf := none
  fields := #[]
  methods := #[]
  instanceTypes := #[]
  staticTypes := #[]
  resolved := #[]
  callSites := []
  init := .initialized
  statics := none
  mirror := none

def pool0 : Array CpInfo := pool [(5, u "<init>"), (0, u "()V"), (1, .class_ 10), (1, u "java/lang/Object")] 113

def k0m0 : Method := { name := "<init>", desc := "()V", sig := { parameters := [], returnType := none }, accessFlags := 1, code := none }
/-- java/lang/Object -/
def k0 : Class := { plain "java/lang/Object" none with
  accessFlags := 33
  interfaces := #[]
  cf := some (fileOf pool0 8 #[] #[{ accessFlags := 1, nameIndex := 5, descriptorIndex := 6, attributes := #[] }] 33 0 #[] #[])
  fields := #[]
  methods := #[k0m0]
  instanceTypes := #[]
  staticTypes := #[]
  resolved := Array.replicate 124 none
  statics := none }

def pool1 : Array CpInfo := pool [(2, .class_ 4), (1, u "java/lang/Object"), (0, u "<init>"), (0, u "()V"), (0, .methodref 8 9), (0, .class_ 10), (0, .nameAndType 11 12), (0, u "com/example/austere_json/austerejson/Frame$Judged"), (0, u "of"), (0, u "(Z)Lcom/example/austere_json/austerejson/Frame$Judged;"), (0, .fieldref 8 14), (0, .nameAndType 15 16), (0, u "HOLDS"), (0, u "Lcom/example/austere_json/austerejson/Frame$Judged;"), (0, .fieldref 8 18), (0, .nameAndType 19 16), (0, u "FAILS"), (0, .methodref 8 21), (0, .nameAndType 22 23), (0, u "finish"), (0, u "()Z"), (0, .methodref 8 25), (0, .nameAndType 26 27), (0, u "next"), (0, u "()Lcom/example/austere_json/austerejson/Frame;"), (0, .class_ 29), (0, u "com/example/austere_json/austerejson/JudgedOfPinLaw"), (2, u "law"), (0, u "(I)Z")] 7

def k1m0 : Method := { name := "<init>", desc := "()V", sig := { parameters := [], returnType := none }, accessFlags := 1, code := none }
def k1c1 : Code := { maxStack := 2, maxLocals := 9, code := code, exceptionTable := #[], attributes := #[] }
def k1m1 : Method := { name := "law", desc := "(I)Z", sig := { parameters := [.int], returnType := some .boolean }, accessFlags := 9, code := some k1c1 }
/-- com/example/austere_json/austerejson/JudgedOfPinLaw -/
def k1 : Class := { plain "com/example/austere_json/austerejson/JudgedOfPinLaw" (some 0) with
  accessFlags := 49
  interfaces := #[]
  cf := some (fileOf pool1 28 #[] #[{ accessFlags := 1, nameIndex := 5, descriptorIndex := 6, attributes := #[] }, { accessFlags := 9, nameIndex := 32, descriptorIndex := 33, attributes := #[] }] 49 2 #[] #[])
  fields := #[]
  methods := #[k1m0, k1m1]
  instanceTypes := #[]
  staticTypes := #[]
  resolved := Array.replicate 41 none
  statics := none }

def pool2 : Array CpInfo := pool [(2, .class_ 4), (1, u "java/lang/Object"), (0, u "<init>"), (0, u "()V"), (0, .class_ 8), (0, u "com/example/austere_json/austerejson/Frame"), (11, .class_ 21), (0, u "com/example/austere_json/austerejson/Frame$Judged")] 2

def k2m0 : Method := { name := "<init>", desc := "()V", sig := { parameters := [], returnType := none }, accessFlags := 0, code := none }
/-- com/example/austere_json/austerejson/Frame -/
def k2 : Class := { plain "com/example/austere_json/austerejson/Frame" (some 0) with
  accessFlags := 1056
  interfaces := #[]
  cf := some (fileOf pool2 7 #[.nestMembers #[20]] #[{ accessFlags := 0, nameIndex := 5, descriptorIndex := 6, attributes := #[] }] 1056 2 #[] #[])
  fields := #[]
  methods := #[k2m0]
  instanceTypes := #[]
  staticTypes := #[]
  resolved := Array.replicate 24 none
  statics := none }

def pool3 : Array CpInfo := pool [(2, .class_ 4), (1, u "com/example/austere_json/austerejson/Frame"), (2, .fieldref 8 9), (0, .class_ 10), (0, .nameAndType 11 12), (0, u "com/example/austere_json/austerejson/Frame$Judged"), (0, u "holds"), (0, u "Z"), (0, .fieldref 8 14), (0, .nameAndType 15 16), (0, u "HOLDS"), (0, u "Lcom/example/austere_json/austerejson/Frame$Judged;"), (0, .fieldref 8 18), (0, .nameAndType 19 16), (0, u "FAILS"), (12, u "of"), (0, u "(Z)Lcom/example/austere_json/austerejson/Frame$Judged;"), (1, u "next"), (0, u "()Lcom/example/austere_json/austerejson/Frame;"), (1, u "finish"), (0, u "()Z")] 6

def k3c0 : Code := { maxStack := 1, maxLocals := 1, code := prog_5_method_2_code, exceptionTable := #[], attributes := #[] }
def k3m0 : Method := { name := "of", desc := "(Z)Lcom/example/austere_json/austerejson/Frame$Judged;", sig := { parameters := [.boolean], returnType := some (.object "com/example/austere_json/austerejson/Frame$Judged") }, accessFlags := 8, code := some k3c0 }
def k3c1 : Code := { maxStack := 1, maxLocals := 1, code := prog_5_method_3_code, exceptionTable := #[], attributes := #[] }
def k3m1 : Method := { name := "next", desc := "()Lcom/example/austere_json/austerejson/Frame;", sig := { parameters := [], returnType := some (.object "com/example/austere_json/austerejson/Frame") }, accessFlags := 0, code := some k3c1 }
def k3c2 : Code := { maxStack := 1, maxLocals := 1, code := prog_5_method_5_code, exceptionTable := #[], attributes := #[] }
def k3m2 : Method := { name := "finish", desc := "()Z", sig := { parameters := [], returnType := some .boolean }, accessFlags := 0, code := some k3c2 }
/-- com/example/austere_json/austerejson/Frame$Judged -/
def k3 : Class := { plain "com/example/austere_json/austerejson/Frame$Judged" (some 2) with
  accessFlags := 48
  interfaces := #[]
  cf := some (fileOf pool3 8 #[.nestHost 2] #[{ accessFlags := 8, nameIndex := 32, descriptorIndex := 33, attributes := #[] }, { accessFlags := 0, nameIndex := 35, descriptorIndex := 36, attributes := #[] }, { accessFlags := 0, nameIndex := 38, descriptorIndex := 39, attributes := #[] }] 48 2 #[] #[{ accessFlags := 24, nameIndex := 15, descriptorIndex := 16, attributes := #[] }, { accessFlags := 24, nameIndex := 19, descriptorIndex := 16, attributes := #[] }, { accessFlags := 18, nameIndex := 11, descriptorIndex := 12, attributes := #[] }])
  fields := #[{ name := "HOLDS", type := (.object "com/example/austere_json/austerejson/Frame$Judged"), accessFlags := 24, slot := 0, constantValue := 0 }, { name := "FAILS", type := (.object "com/example/austere_json/austerejson/Frame$Judged"), accessFlags := 24, slot := 1, constantValue := 0 }, { name := "holds", type := .boolean, accessFlags := 18, slot := 0, constantValue := 0 }]
  methods := #[k3m0, k3m1, k3m2]
  instanceTypes := #[.boolean]
  staticTypes := #[(.object "com/example/austere_json/austerejson/Frame$Judged"), (.object "com/example/austere_json/austerejson/Frame$Judged")]
  resolved := Array.replicate 46 none
  statics := some 0 }

def pool4 : Array CpInfo := pool [(1, u "java/lang/Cloneable"), (0, .class_ 1), (0, u "java/lang/Object"), (0, .class_ 3)] 3

/-- java/lang/Cloneable -/
def k4 : Class := { plain "java/lang/Cloneable" (some 0) with
  accessFlags := 1537
  interfaces := #[]
  cf := some (fileOf pool4 2 #[] #[] 1537 4 #[] #[])
  fields := #[]
  methods := #[]
  instanceTypes := #[]
  staticTypes := #[]
  resolved := Array.replicate 8 none
  statics := none }

def pool5 : Array CpInfo := pool [(1, u "java/io/Serializable"), (0, .class_ 1), (0, u "java/lang/Object"), (0, .class_ 3)] 3

/-- java/io/Serializable -/
def k5 : Class := { plain "java/io/Serializable" (some 0) with
  accessFlags := 1537
  interfaces := #[]
  cf := some (fileOf pool5 2 #[] #[] 1537 4 #[] #[])
  fields := #[]
  methods := #[]
  instanceTypes := #[]
  staticTypes := #[]
  resolved := Array.replicate 8 none
  statics := none }

/-- the primitive byte -/
def k6 : Class := { plain "byte" none with kind := .primitive 'B', accessFlags := 0x411 }
/-- [B -/
def k7 : Class := { plain "[B" (some 0) with kind := .array 6 .byte, interfaces := #[4, 5], accessFlags := 1041 }

/-- the primitive int -/
def k8 : Class := { plain "int" none with kind := .primitive 'I', accessFlags := 0x411 }
/-- [I -/
def k9 : Class := { plain "[I" (some 0) with kind := .array 8 .int, interfaces := #[4, 5], accessFlags := 1041 }

def heap : Heap := #[{ cls := 3, slots := #[.ref 2, .ref 1], vm := .statics 3 },
  { cls := 3, slots := #[.int 0], vm := .none },
  { cls := 3, slots := #[.int 1], vm := .none }]
def classes : Array Class := #[k0, k1, k2, k3, k4, k5, k6, k7, k8, k9]
def interned : List (Array UInt16 × Addr) := []
def slotsUsed : Nat := 4
def theMethod : MethodId := ⟨1, 1⟩
def args0 : Array Value := #[.int 5]
def aboutOver (below : List Frame) : State where
  vm := { classes := classes, interned := interned.toArray }
  heap := heap
  slotsUsed := slotsUsed
  threads := #[{ frames := .invoking theMethod args0 :: below }]
def below0 : List Frame := [.native { method := ⟨0, 0⟩, args := #[] }]
def about1 : State := aboutOver below0
def p0 : Program := .bare "" "" ""
def e0 : Env := launch0.env 0 0 0
theorem w_frames : about1.frames = Frame.invoking theMethod args0 :: below0 := rfl
set_option maxRecDepth 65536 in
theorem w_args : argsFit about1.vm theMethod args0 = true := by decide +kernel
set_option maxRecDepth 65536 in
theorem w_heap : heapFits about1 = true := by decide +kernel
set_option maxRecDepth 65536 in
theorem w_runnable : about1.curStatus? = some .runnable := by decide +kernel
set_option maxRecDepth 65536 in
theorem w_alone : about1.alone = true := by decide +kernel
set_option maxRecDepth 65536 in
theorem w_named : about1.methodNamed? x = some theMethod := by decide +kernel
set_option maxRecDepth 65536 in
theorem w_hears : about1.hears theMethod below0 = true := by decide +kernel
set_option maxRecDepth 65536 in
theorem w_ripe : about1.ripe theMethod args0 below0 = true := by decide +kernel
theorem w_running : about1.status = .running := rfl
set_option maxRecDepth 65536 in
theorem w_room : about1.hasRoom e0.platform room_1 = true :=
  launch0.hasRoom_least _ room_1 (by decide +kernel) (by decide +kernel) (by decide +kernel) (by decide +kernel) (by decide +kernel) (by decide +kernel)
theorem allAtoms_all (ts : List Jvm.Cond) (a : Array Jvm.Value) (st : Jvm.State) : (allAtoms ts).before a st = ts.all (fun c => c.before a st) := by
  induction ts with
  | nil => rfl
  | cons c t ih =>
    show (Jvm.Cond.and c (allAtoms t)).before a st = _
    rw [Jvm.Cond.before_and, ih, List.all_cons]
def words1 : List Jvm.Cond := Jvm.Cond.code x code maxLocals ret :: tables_1
/-- a 'code' word, met by the world's own term for the bytes: nothing is compared byte by byte -/
theorem code_word {y : MethodName} {bytes : ByteArray} {mx : Nat} {rt : Option FieldType} {a : Array Value} {s : State} {m : MethodId} {meth : Method} {c : Code} (h1 : s.methodNamed? y = some m) (h2 : s.vm.method? m = some meth) (h3 : meth.code = some c) (h4 : c.code = bytes)
    (h5 : (c.maxLocals == mx && c.exceptionTable.isEmpty && decide (c.maxStack ≤ mostOperands) && decide (meth.sig.returnType = rt) && !meth.locks && decide (parseMethodDescriptor y.desc = some meth.sig)) = true) : (Jvm.Cond.code y bytes mx rt).before a s = true := by
  simp only [Bool.and_eq_true, beq_iff_eq, Bool.not_eq_true', decide_eq_true_eq] at h5
  obtain ⟨⟨⟨⟨⟨g1, g2⟩, g3⟩, g4⟩, g5⟩, g6⟩ := h5
  simp [Cond.before, Cond.holds, Cond.value, h1, h2, h3, h4, g1, g2, g3, g4, g5, g6]
def isCode : Jvm.Cond → Bool
  | .code _ _ _ _ => true
  | _ => false
theorem all_split {L : List Jvm.Cond} {P : Jvm.Cond → Bool} (h1 : L.all (fun c => isCode c || P c) = true) (h2 : ∀ c ∈ L.filter isCode, P c = true) : L.all P = true := by
  refine List.all_eq_true.mpr fun c hc => ?_
  have h := List.all_eq_true.mp h1 c hc
  rcases Bool.eq_false_or_eq_true (isCode c) with hi | hi
  · exact h2 c (List.mem_filter.mpr ⟨hc, hi⟩)
  · simpa [hi] using h
set_option maxRecDepth 65536 in
theorem w_c0 : (Jvm.Cond.code x code maxLocals ret).before args0 about1 = true := code_word (m := ⟨1, 1⟩) (meth := k1m1) (c := k1c1) (by decide +kernel) rfl rfl rfl (by decide +kernel)
set_option maxRecDepth 65536 in
theorem w_c1 : (Jvm.Cond.code ({ cls := "com/example/austere_json/austerejson/Frame$Judged", name := "of", desc := "(Z)Lcom/example/austere_json/austerejson/Frame$Judged;" } : Jvm.MethodName) prog_5_method_2_code (1 : Nat) (Option.some (Jvm.ClassFile.FieldType.object "com/example/austere_json/austerejson/Frame$Judged"))).before args0 about1 = true := code_word (m := ⟨3, 0⟩) (meth := k3m0) (c := k3c0) (by decide +kernel) rfl rfl rfl (by decide +kernel)
set_option maxRecDepth 65536 in
theorem w_c2 : (Jvm.Cond.code ({ cls := "com/example/austere_json/austerejson/Frame$Judged", name := "finish", desc := "()Z" } : Jvm.MethodName) prog_5_method_5_code (1 : Nat) (Option.some Jvm.ClassFile.FieldType.boolean)).before args0 about1 = true := code_word (m := ⟨3, 2⟩) (meth := k3m2) (c := k3c2) (by decide +kernel) rfl rfl rfl (by decide +kernel)
set_option maxRecDepth 65536 in
theorem w_c3 : (Jvm.Cond.code ({ cls := "com/example/austere_json/austerejson/Frame$Judged", name := "next", desc := "()Lcom/example/austere_json/austerejson/Frame;" } : Jvm.MethodName) prog_5_method_3_code (1 : Nat) (Option.some (Jvm.ClassFile.FieldType.object "com/example/austere_json/austerejson/Frame"))).before args0 about1 = true := code_word (m := ⟨3, 1⟩) (meth := k3m1) (c := k3c1) (by decide +kernel) rfl rfl rfl (by decide +kernel)
def codes1 : List Jvm.Cond := [Jvm.Cond.code x code maxLocals ret, Jvm.Cond.code ({ cls := "com/example/austere_json/austerejson/Frame$Judged", name := "of", desc := "(Z)Lcom/example/austere_json/austerejson/Frame$Judged;" } : Jvm.MethodName) prog_5_method_2_code (1 : Nat) (Option.some (Jvm.ClassFile.FieldType.object "com/example/austere_json/austerejson/Frame$Judged")), Jvm.Cond.code ({ cls := "com/example/austere_json/austerejson/Frame$Judged", name := "finish", desc := "()Z" } : Jvm.MethodName) prog_5_method_5_code (1 : Nat) (Option.some Jvm.ClassFile.FieldType.boolean), Jvm.Cond.code ({ cls := "com/example/austere_json/austerejson/Frame$Judged", name := "next", desc := "()Lcom/example/austere_json/austerejson/Frame;" } : Jvm.MethodName) prog_5_method_3_code (1 : Nat) (Option.some (Jvm.ClassFile.FieldType.object "com/example/austere_json/austerejson/Frame"))]
set_option maxRecDepth 65536 in
theorem codes_eq : words1.filter isCode = codes1 := rfl
theorem w_codes : ∀ c ∈ words1.filter isCode, c.before args0 about1 = true := by
  rw [codes_eq]
  intro c hc
  simp only [codes1, List.mem_cons, List.not_mem_nil, or_false] at hc
  rcases hc with rfl | rfl | rfl | rfl
  · exact w_c0
  · exact w_c1
  · exact w_c2
  · exact w_c3
set_option maxRecDepth 65536 in
theorem w_t1 : words1.all (fun c => isCode c || c.before args0 about1) = true := by decide +kernel
theorem w_tables : (allAtoms (Jvm.Cond.code x code maxLocals ret :: tables_1)).before args0 about1 = true := by
  rw [allAtoms_all]
  show words1.all (fun c => c.before args0 about1) = true
  refine all_split ?_ w_codes
  rw [w_t1]
set_option maxRecDepth 65536 in
theorem w_case : (Jvm.Cond.and given_1 narrow_1).before args0 about1 = true := by decide +kernel
theorem w_applies : (headSpec (Jvm.Cond.code x code maxLocals ret :: tables_1) room_1).applies x e0.platform about1 = true :=
  (Spec.applies_iff w_frames).mpr ⟨w_running, w_runnable, w_alone, w_named, w_hears, w_ripe, w_room, w_tables⟩
theorem atStart : AtStart classFile x code maxLocals ret World_1 tables_1 room_1 Calls_1 rest_1 Pre_1 launch0 p0 e0 about1 theMethod args0 below0 :=
  ⟨lists_1, trivial, launch0.admits_env _ _ _, launch0.least_env, fairChoices_fair.cas, fairChoices_fair.clock, w_frames, w_args, w_heap, w_applies, trivial, trivial, w_case⟩
end start1
theorem witness_1 : WitnessClaimed_1 := ⟨start1.p0, start1.e0, start1.about1, start1.theMethod, start1.args0, start1.below0, start1.atStart⟩
end Jvm.Pilot.@@N@@
