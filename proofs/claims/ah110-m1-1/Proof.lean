import JvmDerived
import JvmDerived.Pilot.@@N@@Statement
import JvmDerived.Pilot.@@N@@Code
set_option linter.unusedVariables false
set_option linter.unusedSimpArgs false
namespace Jvm.Pilot.@@N@@
open Jvm Jvm.ClassFile Sem Op Lib Jvm.Free Jvm.Stand Jvm.LawKit Jvm.RoadKit Bundle Jvm.Pilot.@@N@@.Jvm.D
theorem own_dummy : True := trivial
section Own
variable {p : Program} {l : Launch} {e : Env} {R : Room} {s : State} {m : MethodId} {args : Array Value} {below : List Frame} {meth : Method} {c : Code} {T : State} {locs : List Loc} {cells slots : Nat}
def own_Fin (p : Program) (e : Env) (below : List Frame) (P : Outcome → State → Prop) (U : State) : Prop := ∃ s₂ o, Steps p.tables e below U s₂ ∧ s₂.status = .running ∧ Ended s₂ below o ∧ P o s₂
def own_P (Q : Option Value → Heap → List Loc → Prop) (s : State) (C S : Nat) : Outcome → State → Prop := fun o t => ∃ v L, o = .returned v ∧ Q v t.heap L ∧ FrameEnd s o t L C S
theorem own_go {P : Outcome → State → Prop} {U U' : State} (k : own_Fin p e below P U') (h : ∀ t, Steps p.tables e below U' t → Steps p.tables e below U t) : own_Fin p e below P U := by
  obtain ⟨t, o, h1, r⟩ := k; exact ⟨t, o, h t h1, r⟩
theorem own_cut {P : Outcome → State → Prop} {U : State} (A : Prop) (k : A) (h : A → own_Fin p e below P U) : own_Fin p e below P U := h k
theorem own_retN (X : Stand p l e R s m args below meth c T locs cells slots) (hx : p.tables.exec = Jvm.exec) {pc : Nat} {Ls : Array Slot} {z : Int32} {t : FieldType} {rest : List Value} (hret : meth.sig.returnType = some t) (ht : t = .boolean ∨ t = .byte ∨ t = .char ∨ t = .short)
    (hd : decode c.code pc = .ok (.ireturn, 1)) (hlk : meth.locks = false) {Q : Option Value → Heap → List Loc → Prop} {C S : Nat} (hQ : Q (some (.int (nar t z))) T.heap locs) (hC : cells ≤ C) (hS : slots ≤ S) : own_Fin p e below (own_P Q s C S) (T.setTop (mkF m pc Ls (.int z :: rest))) := by
  obtain ⟨fs, hr, hrun, hended, hW, hsame⟩ := X.leave (v := some (.int (nar t z))) (fun h => by rw [hret] at h; cases h) hlk
  exact ⟨_, _, retN X hx hret ht hd hr, hrun, hended, _, _, rfl, hQ, ⟨_, rfl⟩, hW, hsame.mono hC hS⟩
theorem own_retO (X : Stand p l e R s m args below meth c T locs cells slots) (hx : p.tables.exec = Jvm.exec) {pc : Nat} {Ls : Array Slot} {w : Value} {t : FieldType} {i : Instr} {rest : List Value} (hret : meth.sig.returnType = some t) (hn : narrow t w = w)
    (hi : (i = .ireturn ∧ (t = .int ∨ t = .boolean ∨ t = .byte ∨ t = .char ∨ t = .short) ∧ ∃ z, w = .int z) ∨ (i = .lreturn ∧ t = .long ∧ ∃ z, w = .long z) ∨ (i = .dreturn ∧ t = .double ∧ ∃ z, w = .double z) ∨ (i = .freturn ∧ t = .float ∧ ∃ z, w = .float z) ∨ (i = .areturn ∧ t.isReference = true ∧ w.isRef = true))
    (hd : decode c.code pc = .ok (i, 1)) (hlk : meth.locks = false) {Q : Option Value → Heap → List Loc → Prop} {C S : Nat} (hQ : Q (some w) T.heap locs) (hC : cells ≤ C) (hS : slots ≤ S) : own_Fin p e below (own_P Q s C S) (T.setTop (mkF m pc Ls (w :: rest))) := by
  obtain ⟨fs, hr, hrun, hended, hW, hsame⟩ := X.leave (v := some w) (fun h => by rw [hret] at h; cases h) hlk
  exact ⟨_, _, retOut X hx hret hn hi hd hr, hrun, hended, _, _, rfl, hQ, ⟨_, rfl⟩, hW, hsame.mono hC hS⟩
theorem own_retV (X : Stand p l e R s m args below meth c T locs cells slots) (hx : p.tables.exec = Jvm.exec) {pc : Nat} {Ls : Array Slot} (hret : meth.sig.returnType = none)
    (hd : decode c.code pc = .ok (.return_, 1)) (hlk : meth.locks = false) {Q : Option Value → Heap → List Loc → Prop} {C S : Nat} (hQ : Q none T.heap locs) (hC : cells ≤ C) (hS : slots ≤ S) : own_Fin p e below (own_P Q s C S) (T.setTop (mkF m pc Ls [])) := by
  obtain ⟨fs, hr, hrun, hended, hW, hsame⟩ := X.leave (v := none) (fun _ => rfl) hlk
  exact ⟨_, _, X.returnOut hx hret hd hr, hrun, hended, _, _, rfl, hQ, ⟨_, rfl⟩, hW, hsame.mono hC hS⟩
theorem own_getR {Z : State} {a0 : Array Value} {h : Heap} (X : Stand p l e R s m args below meth c T locs cells slots) (hx : p.tables.exec = Jvm.exec) (hZ : Z.Warmed39 s.vm) {own O n d : String} {index : Nat} (hown : s.vm.findClass own = some m.cls) (w : (Jvm.Cond.fieldRef own index O n d).before a0 Z = true)
    (eT : T.heap = h) {a : Addr} {v : Value} (F : Fld Z h a O n d v) {g : JFrame} (hg : g.method = m) {rest : List Value} (hs : g.stack = .ref a :: rest) (hd : decode c.code g.pc = .ok (.getfield index, 3)) :
    ∀ target, Steps p.tables e below (T.setTop { g with pc := g.pc + 3, stack := v :: rest }) target → Steps p.tables e below (T.setTop g) target := by
  obtain ⟨cell, cf, k, i, f, h1, h2, h3, h4, -, -, h7⟩ := F
  have hU : Z.Warmed39 T.vm := wtrans hZ X.warmed
  have w0 : (Jvm.Cond.fieldRef own index O n d).before a0 (Z.setVm T.vm) = true := Cond.fieldRef_warmed39 hU w
  have w' : (Jvm.Cond.fieldRef own index O n d).before args T = true := w0
  have hc : T.vm.findClass own = some m.cls := by rw [X.warmed.alike.findClass]; exact hown
  obtain ⟨c', k', i', f', q1, q2⟩ := Cond.fieldRef_spec hc w'
  obtain ⟨k2, hi, -⟩ := State.fieldFound?_setVm (s := Z) hU.alike h2
  have hi' : T.fieldFound? O n d = some (cf, k2, i, f) := hi
  cases q1.symm.trans hi'
  intro target ht
  exact (X.getfieldR hx hg q2 h3 hs (by rw [eT]; exact h1) h4 h7 hd (Steps.refl _)).trans ht
end Own
def own_brk (c : Int32) : Int32 := if c = 10 then 1 else if c = 13 then 1 else 0
def own_one (c : Int32) : Int32 := if c = 9 then 1 else 0
def own_pick (x : Int32) : Int32 := if x &&& 7 = 0 then 9 else if x &&& 7 = 1 then 35 else if x &&& 7 = 2 then (if x &&& 8 = 0 then 13 else 10) else nar .byte ((x >>> ((3 : Int32) &&& 31)).toInt8.toInt32)
def own_entry (l c f g : Int32) : Option Int32 := if l = 0 then some (-2) else if c = 0 then (if f < 0 then some (-1) else if g < 0 then (if f = 0 then none else if f = l - 1 then none else some f) else none) else some (-2)
def own_tabs (v : Nat → Int32) (st : Nat) : Nat → Nat → Int32 → Int32 → Int32 × Int32
  | 0, _, f, g => (f, g)
  | k + 1, i, f, g => if v i = 9 then (if f < 0 then own_tabs v st k (i + 1) (Int32.ofNat i - Int32.ofNat st) g else if g < 0 then own_tabs v st k (i + 1) f (Int32.ofNat i - Int32.ofNat st) else own_tabs v st k (i + 1) f g) else own_tabs v st k (i + 1) f g
def own_tab (v : Nat → Int32) (st n : Nat) : Option Int32 := own_entry (Int32.ofNat (st + n) - Int32.ofNat st) (if 0 < n then (if v st = 35 then 1 else 0) else 0) (own_tabs v st n st (-1) (-1)).1 (own_tabs v st n st (-1) (-1)).2
def own_v (bs : List Int32) (i : Nat) : Int32 := bs.getD i 0
theorem own_getD (bs : List Int32) (i : Nat) : (bs.map Value.int).getD i (.int 0) = .int (own_v bs i) := by
  simp only [own_v, List.getD_eq_getElem?_getD, List.getElem?_map]
  cases bs[i]? <;> rfl
theorem own_succ (i : Nat) : Int32.ofNat i + (1 : Int32) = Int32.ofNat (i + 1) := by
  rw [Int32.ofNat_add]; rfl
theorem own_toInt {i : Nat} (h : i ≤ 1000) : (Int32.ofNat i).toInt = i := Int32.toInt_ofNat_small (by omega)
theorem own_ltN {i j : Nat} (hi : i ≤ 1000) (hj : j ≤ 1000) : Int32.ofNat i < Int32.ofNat j ↔ i < j := by
  rw [Int32.lt_iff_toInt_lt, own_toInt hi, own_toInt hj]; omega
theorem own_clamp {i : Nat} (h : i ≤ 1000) : (Int32.ofNat i).toNatClampNeg = i := by
  simp only [Int32.toNatClampNeg, own_toInt h]; rfl
theorem own_in6 {i : Nat} (h : i < 6) : ¬ Int32.ofNat i < 0 ∧ Int32.ofNat i < (6 : Int32) := by
  have e1 : (0 : Int32) = Int32.ofNat 0 := rfl
  have e2 : (6 : Int32) = Int32.ofNat 6 := rfl
  rw [e1, e2, own_ltN (by omega) (by omega), own_ltN (by omega) (by omega)]
  omega
theorem own_start (x : Int32) : ∃ st : Nat, ((x &&& (3 : Int32)) % (3 : Int32)) = Int32.ofNat st ∧ st ≤ 2 := by
  have a1 := c_mask x 3 2 (by decide) (by decide)
  have a2 := c_irem (x &&& 3) 3 3 rfl
  have e1 : ((2 ^ 2 : Nat) : Int) = 4 := rfl
  rw [e1] at a1
  refine ⟨((x &&& 3) % 3).toInt.toNat, ?_, by omega⟩
  rw [← Int32.toInt_inj, own_toInt (by omega)]
  omega
theorem own_lenN (x : Int32) : ∃ n : Nat, (((x.toUInt32 >>> ((2 : Int32) &&& 31).toUInt32).toInt32) % (5 : Int32)) = Int32.ofNat n ∧ n ≤ 4 := by
  have a1 := c_iushr x 2 2 (by decide) (by decide)
  have a2 := c_irem ((x.toUInt32 >>> ((2 : Int32) &&& 31).toUInt32).toInt32) 5 5 rfl
  have e1 : ((2 ^ 2 : Nat) : Int) = 4 := rfl
  rw [e1] at a1
  have r := rng32 x
  refine ⟨(((x.toUInt32 >>> ((2 : Int32) &&& 31).toUInt32).toInt32) % (5 : Int32)).toInt.toNat, ?_, by omega⟩
  rw [← Int32.toInt_inj, own_toInt (by omega)]
  omega
theorem own_at6 {st n k : Nat} (hs : st ≤ 2) (hn : n ≤ 4) (hk : k ≤ 3) : (Int32.ofNat k) < (Int32.ofNat n) → ¬ ((Int32.ofNat st) + (Int32.ofNat k)) < 0 ∧ ((Int32.ofNat st) + (Int32.ofNat k)) < (6 : Int32) := by
  intro q
  rw [own_ltN (by omega) (by omega)] at q
  rw [← Int32.ofNat_add]
  exact own_in6 (by omega)
theorem own_ck {st n k : Nat} {bs : List Int32} {c : Int32} (hs : st ≤ 2) (hn : n ≤ 4) (hk : k ≤ 3) (hc : c = if (Int32.ofNat k) < (Int32.ofNat n) then own_v bs ((Int32.ofNat st) + (Int32.ofNat k)).toNatClampNeg else 0) : c = if k < n then own_v bs (st + k) else 0 := by
  rw [hc, ← Int32.ofNat_add, own_clamp (by omega)]
  by_cases q : k < n
  · rw [if_pos q, if_pos ((own_ltN (by omega) (by omega)).mpr q)]
  · rw [if_neg q, if_neg (fun r => q ((own_ltN (by omega) (by omega)).mp r))]
theorem own_brk0 {c : Int32} (h : own_brk c = 0) : ¬ c = 10 ∧ ¬ c = 13 := by
  unfold own_brk at h
  refine ⟨fun q => ?_, fun q => ?_⟩
  · rw [if_pos q] at h; exact absurd h (by decide)
  · subst q; exact absurd h (by decide)
theorem own_nb {st n : Nat} {bs : List Int32} {c0 c1 c2 c3 : Int32} (hs : st ≤ 2) (hn : n ≤ 4) (h0 : c0 = if 0 < n then own_v bs (st + 0) else 0) (h1 : c1 = if 1 < n then own_v bs (st + 1) else 0) (h2 : c2 = if 2 < n then own_v bs (st + 2) else 0) (h3 : c3 = if 3 < n then own_v bs (st + 3) else 0) (b0 : own_brk c0 = 0) (b1 : own_brk c1 = 0) (b2 : own_brk c2 = 0) (b3 : own_brk c3 = 0) : ∀ i, st ≤ i → i < st + n → ¬ own_v bs i = 10 ∧ ¬ own_v bs i = 13 := by
  intro i hi hj
  obtain ⟨d, rfl⟩ : ∃ d, i = st + d := ⟨i - st, by omega⟩
  have hd : d < n := by omega
  match d, hd with
  | 0, hd => rw [if_pos hd] at h0; rw [← h0]; exact own_brk0 b0
  | 1, hd => rw [if_pos hd] at h1; rw [← h1]; exact own_brk0 b1
  | 2, hd => rw [if_pos hd] at h2; rw [← h2]; exact own_brk0 b2
  | 3, hd => rw [if_pos hd] at h3; rw [← h3]; exact own_brk0 b3
  | d + 4, hd => omega
def own_scan (u : Nat → Int32) : Nat → Nat → Int32 → Int32 → Int32 × Int32
  | 0, _, f, g => (f, g)
  | k + 1, j, f, g => if u j = 9 then (if f < 0 then own_scan u k (j + 1) (Int32.ofNat j) g else if g < 0 then own_scan u k (j + 1) f (Int32.ofNat j) else own_scan u k (j + 1) f g) else own_scan u k (j + 1) f g
theorem own_subN (st j : Nat) : Int32.ofNat (st + j) - Int32.ofNat st = Int32.ofNat j := by
  rw [Int32.ofNat_add, Int32.add_comm, Int32.add_sub_cancel]
theorem own_tabs_scan (v : Nat → Int32) (st : Nat) : ∀ (k j : Nat) (f g : Int32), own_tabs v st k (st + j) f g = own_scan (fun j => v (st + j)) k j f g := by
  intro k
  induction k with
  | zero => intro j f g; rfl
  | succ k ih =>
    intro j f g
    have e : st + j + 1 = st + (j + 1) := by omega
    simp only [own_tabs, own_scan, own_subN, e, ih]
theorem own_tab_scan (v : Nat → Int32) (st n : Nat) : own_tab v st n = own_entry (Int32.ofNat n) (if 0 < n then (if v (st + 0) = 35 then 1 else 0) else 0) (own_scan (fun j => v (st + j)) n 0 (-1) (-1)).1 (own_scan (fun j => v (st + j)) n 0 (-1) (-1)).2 := by
  have q := own_tabs_scan v st n 0 (-1) (-1)
  simp only [Nat.add_zero] at q
  simp only [own_tab, own_subN, q, Nat.add_zero]
theorem own_one_cases (c : Int32) : (own_one c = 0 ∧ ¬ c = 9) ∨ (own_one c = 1 ∧ c = 9) := by
  unfold own_one
  by_cases h : c = 9
  · exact Or.inr ⟨if_pos h, h⟩
  · exact Or.inl ⟨if_neg h, h⟩
theorem own_sum0 {c0 c1 c2 c3 : Int32} (h : ((((own_one c0) + (own_one c1)) + (own_one c2)) + (own_one c3)) = (0 : Int32)) : ¬ c0 = 9 ∧ ¬ c1 = 9 ∧ ¬ c2 = 9 ∧ ¬ c3 = 9 := by
  rcases own_one_cases c0 with ⟨a, a'⟩ | ⟨a, a'⟩ <;> rcases own_one_cases c1 with ⟨b, b'⟩ | ⟨b, b'⟩ <;> rcases own_one_cases c2 with ⟨c, c'⟩ | ⟨c, c'⟩ <;> rcases own_one_cases c3 with ⟨d, d'⟩ | ⟨d, d'⟩ <;> rw [a, b, c, d] at h <;> first | exact ⟨a', b', c', d'⟩ | exact absurd h (by decide)
theorem own_sum1 {c0 c1 c2 c3 : Int32} (h : ¬ ((((own_one c0) + (own_one c1)) + (own_one c2)) + (own_one c3)) = (0 : Int32)) (h2 : ((((own_one c0) + (own_one c1)) + (own_one c2)) + (own_one c3)) < (2 : Int32)) : (c0 = 9 ∧ ¬ c1 = 9 ∧ ¬ c2 = 9 ∧ ¬ c3 = 9) ∨ (¬ c0 = 9 ∧ c1 = 9 ∧ ¬ c2 = 9 ∧ ¬ c3 = 9) ∨ (¬ c0 = 9 ∧ ¬ c1 = 9 ∧ c2 = 9 ∧ ¬ c3 = 9) ∨ (¬ c0 = 9 ∧ ¬ c1 = 9 ∧ ¬ c2 = 9 ∧ c3 = 9) := by
  rcases own_one_cases c0 with ⟨a, a'⟩ | ⟨a, a'⟩ <;> rcases own_one_cases c1 with ⟨b, b'⟩ | ⟨b, b'⟩ <;> rcases own_one_cases c2 with ⟨c, c'⟩ | ⟨c, c'⟩ <;> rcases own_one_cases c3 with ⟨d, d'⟩ | ⟨d, d'⟩ <;> rw [a, b, c, d] at h h2 <;> first | exact absurd h2 (by decide) | exact absurd rfl h | exact Or.inl ⟨a', b', c', d'⟩ | exact Or.inr (Or.inl ⟨a', b', c', d'⟩) | exact Or.inr (Or.inr (Or.inl ⟨a', b', c', d'⟩)) | exact Or.inr (Or.inr (Or.inr ⟨a', b', c', d'⟩))
theorem own_n5 {n : Nat} (h : n ≤ 4) : n = 0 ∨ n = 1 ∨ n = 2 ∨ n = 3 ∨ n = 4 := by omega
section Fin
variable {st n : Nat} {bs : List Int32} {c0 c1 c2 c3 : Int32} (hs : st ≤ 2) (hn : n ≤ 4) (h0 : c0 = if 0 < n then own_v bs (st + 0) else 0) (h1 : c1 = if 1 < n then own_v bs (st + 1) else 0) (h2 : c2 = if 2 < n then own_v bs (st + 2) else 0) (h3 : c3 = if 3 < n then own_v bs (st + 3) else 0)
theorem own_finA {st n : Nat} {bs : List Int32} {c0 c1 c2 c3 : Int32} (hs : st ≤ 2) (hn : n ≤ 4) (h0 : c0 = if 0 < n then own_v bs (st + 0) else 0) (h1 : c1 = if 1 < n then own_v bs (st + 1) else 0) (h2 : c2 = if 2 < n then own_v bs (st + 2) else 0) (h3 : c3 = if 3 < n then own_v bs (st + 3) else 0)
    (hA : (Int32.ofNat n) = (0 : Int32) ∨ c0 = (35 : Int32)) : own_tab (own_v bs) st n = some (-2 : Int32) := by
  rw [own_tab_scan]
  unfold own_entry
  by_cases q : (Int32.ofNat n) = (0 : Int32)
  · rw [if_pos q]
  · rw [if_neg q]
    have h35 : c0 = 35 := hA.elim (fun r => absurd r q) id
    have n0 : 0 < n := by
      rcases own_n5 hn with rfl | rfl | rfl | rfl | rfl
      · exact absurd rfl q
      all_goals omega
    rw [if_pos n0] at h0
    rw [if_pos n0, if_pos (h0.symm.trans h35), if_neg (by decide)]
theorem own_finB {st n : Nat} {bs : List Int32} {c0 c1 c2 c3 : Int32} (hs : st ≤ 2) (hn : n ≤ 4) (h0 : c0 = if 0 < n then own_v bs (st + 0) else 0) (h1 : c1 = if 1 < n then own_v bs (st + 1) else 0) (h2 : c2 = if 2 < n then own_v bs (st + 2) else 0) (h3 : c3 = if 3 < n then own_v bs (st + 3) else 0)
    (q0 : ¬ (Int32.ofNat n) = (0 : Int32)) (q35 : ¬ c0 = (35 : Int32)) (hz : ((((own_one c0) + (own_one c1)) + (own_one c2)) + (own_one c3)) = (0 : Int32)) : own_tab (own_v bs) st n = some (-1 : Int32) := by
  obtain ⟨e0, e1, e2, e3⟩ := own_sum0 hz
  rw [own_tab_scan]
  rcases own_n5 hn with rfl | rfl | rfl | rfl | rfl
  · exact absurd rfl q0
  all_goals
    simp only [show (0 : Nat) < 1 from by decide, show (0 : Nat) < 2 from by decide, show (0 : Nat) < 3 from by decide, show (0 : Nat) < 4 from by decide, show (1 : Nat) < 2 from by decide, show (1 : Nat) < 3 from by decide, show (1 : Nat) < 4 from by decide, show (2 : Nat) < 3 from by decide, show (2 : Nat) < 4 from by decide, show (3 : Nat) < 4 from by decide, if_true] at h0 h1 h2 h3 ⊢
    simp only [own_scan, Nat.zero_add, Nat.reduceAdd, ← h0, if_neg q35, if_neg e0]
    try simp only [← h1, if_neg e1]
    try simp only [← h2, if_neg e2]
    try simp only [← h3, if_neg e3]
    rfl
theorem own_finC1 {st n : Nat} {bs : List Int32} {c0 c1 c2 c3 : Int32} (hs : st ≤ 2) (hn : n ≤ 4) (h0 : c0 = if 0 < n then own_v bs (st + 0) else 0) (h1 : c1 = if 1 < n then own_v bs (st + 1) else 0) (h2 : c2 = if 2 < n then own_v bs (st + 2) else 0) (h3 : c3 = if 3 < n then own_v bs (st + 3) else 0)
    (q0 : ¬ (Int32.ofNat n) = (0 : Int32)) (q35 : ¬ c0 = (35 : Int32)) (hz : ¬ ((((own_one c0) + (own_one c1)) + (own_one c2)) + (own_one c3)) = (0 : Int32)) (hl : ((((own_one c0) + (own_one c1)) + (own_one c2)) + (own_one c3)) < (2 : Int32)) (d0 : ¬ c0 = (9 : Int32)) (d1 : c1 = (9 : Int32)) (hL : ¬ (1 : Int32) = ((Int32.ofNat n) - (1 : Int32))) : own_tab (own_v bs) st n = some (1 : Int32) := by
  rcases own_sum1 hz hl with ⟨a, -⟩ | ⟨e0, e1, e2, e3⟩ | ⟨-, a, -⟩ | ⟨-, a, -⟩
  · exact absurd a d0
  rotate_left
  · exact absurd d1 a
  · exact absurd d1 a
  rw [own_tab_scan]
  rcases own_n5 hn with rfl | rfl | rfl | rfl | rfl
  · exact absurd rfl q0
  · rw [if_neg (by decide)] at h1; rw [h1] at e1; exact absurd e1 (by decide)
  · exact absurd (by decide) hL
  · simp only [show (0 : Nat) < 1 from by decide, show (0 : Nat) < 2 from by decide, show (1 : Nat) < 2 from by decide, show (0 : Nat) < 3 from by decide, show (1 : Nat) < 3 from by decide, show (2 : Nat) < 3 from by decide, show (0 : Nat) < 4 from by decide, show (1 : Nat) < 4 from by decide, show (2 : Nat) < 4 from by decide, show (3 : Nat) < 4 from by decide, if_true] at h0 h1 h2 h3 ⊢
    simp only [own_scan, Nat.zero_add, Nat.reduceAdd, ← h0, if_neg q35, if_neg e0]
    try simp only [← h1, if_pos e1, if_pos (show (-1 : Int32) < 0 from by decide)]
    try simp only [← h2, if_neg e2, if_pos (show (-1 : Int32) < 0 from by decide)]
    first | rfl | decide
  · simp only [show (0 : Nat) < 1 from by decide, show (0 : Nat) < 2 from by decide, show (1 : Nat) < 2 from by decide, show (0 : Nat) < 3 from by decide, show (1 : Nat) < 3 from by decide, show (2 : Nat) < 3 from by decide, show (0 : Nat) < 4 from by decide, show (1 : Nat) < 4 from by decide, show (2 : Nat) < 4 from by decide, show (3 : Nat) < 4 from by decide, if_true] at h0 h1 h2 h3 ⊢
    simp only [own_scan, Nat.zero_add, Nat.reduceAdd, ← h0, if_neg q35, if_neg e0]
    try simp only [← h1, if_pos e1, if_pos (show (-1 : Int32) < 0 from by decide)]
    try simp only [← h2, if_neg e2, if_pos (show (-1 : Int32) < 0 from by decide)]
    try simp only [← h3, if_neg e3, if_pos (show (-1 : Int32) < 0 from by decide)]
    first | rfl | decide
theorem own_finC2 {st n : Nat} {bs : List Int32} {c0 c1 c2 c3 : Int32} (hs : st ≤ 2) (hn : n ≤ 4) (h0 : c0 = if 0 < n then own_v bs (st + 0) else 0) (h1 : c1 = if 1 < n then own_v bs (st + 1) else 0) (h2 : c2 = if 2 < n then own_v bs (st + 2) else 0) (h3 : c3 = if 3 < n then own_v bs (st + 3) else 0)
    (q0 : ¬ (Int32.ofNat n) = (0 : Int32)) (q35 : ¬ c0 = (35 : Int32)) (hz : ¬ ((((own_one c0) + (own_one c1)) + (own_one c2)) + (own_one c3)) = (0 : Int32)) (hl : ((((own_one c0) + (own_one c1)) + (own_one c2)) + (own_one c3)) < (2 : Int32)) (d0 : ¬ c0 = (9 : Int32)) (d1 : ¬ c1 = (9 : Int32)) (d2 : c2 = (9 : Int32)) (hL : ¬ (2 : Int32) = ((Int32.ofNat n) - (1 : Int32))) : own_tab (own_v bs) st n = some (2 : Int32) := by
  rcases own_sum1 hz hl with ⟨a, -⟩ | ⟨-, a, -⟩ | ⟨e0, e1, e2, e3⟩ | ⟨-, -, a, -⟩
  · exact absurd a d0
  · exact absurd a d1
  rotate_left
  · exact absurd d2 a
  rw [own_tab_scan]
  rcases own_n5 hn with rfl | rfl | rfl | rfl | rfl
  · exact absurd rfl q0
  · rw [if_neg (by decide)] at h2; rw [h2] at e2; exact absurd e2 (by decide)
  · rw [if_neg (by decide)] at h2; rw [h2] at e2; exact absurd e2 (by decide)
  · exact absurd (by decide) hL
  · simp only [show (0 : Nat) < 1 from by decide, show (0 : Nat) < 2 from by decide, show (1 : Nat) < 2 from by decide, show (0 : Nat) < 3 from by decide, show (1 : Nat) < 3 from by decide, show (2 : Nat) < 3 from by decide, show (0 : Nat) < 4 from by decide, show (1 : Nat) < 4 from by decide, show (2 : Nat) < 4 from by decide, show (3 : Nat) < 4 from by decide, if_true] at h0 h1 h2 h3 ⊢
    simp only [own_scan, Nat.zero_add, Nat.reduceAdd, ← h0, if_neg q35, if_neg e0]
    try simp only [← h1, if_neg e1, if_pos (show (-1 : Int32) < 0 from by decide)]
    try simp only [← h2, if_pos e2, if_pos (show (-1 : Int32) < 0 from by decide)]
    try simp only [← h3, if_neg e3, if_pos (show (-1 : Int32) < 0 from by decide)]
    first | rfl | decide
theorem own_finC3 {st n : Nat} {bs : List Int32} {c0 c1 c2 c3 : Int32} (hs : st ≤ 2) (hn : n ≤ 4) (h0 : c0 = if 0 < n then own_v bs (st + 0) else 0) (h1 : c1 = if 1 < n then own_v bs (st + 1) else 0) (h2 : c2 = if 2 < n then own_v bs (st + 2) else 0) (h3 : c3 = if 3 < n then own_v bs (st + 3) else 0)
    (q0 : ¬ (Int32.ofNat n) = (0 : Int32)) (q35 : ¬ c0 = (35 : Int32)) (hz : ¬ ((((own_one c0) + (own_one c1)) + (own_one c2)) + (own_one c3)) = (0 : Int32)) (hl : ((((own_one c0) + (own_one c1)) + (own_one c2)) + (own_one c3)) < (2 : Int32)) (d0 : ¬ c0 = (9 : Int32)) (d1 : ¬ c1 = (9 : Int32)) (d2 : ¬ c2 = (9 : Int32)) (hL : ¬ (3 : Int32) = ((Int32.ofNat n) - (1 : Int32))) : own_tab (own_v bs) st n = some (3 : Int32) := by
  rcases own_sum1 hz hl with ⟨a, -⟩ | ⟨-, a, -⟩ | ⟨-, -, a, -⟩ | ⟨e0, e1, e2, e3⟩
  · exact absurd a d0
  · exact absurd a d1
  · exact absurd a d2
  rw [own_tab_scan]
  rcases own_n5 hn with rfl | rfl | rfl | rfl | rfl
  · exact absurd rfl q0
  · rw [if_neg (by decide)] at h3; rw [h3] at e3; exact absurd e3 (by decide)
  · rw [if_neg (by decide)] at h3; rw [h3] at e3; exact absurd e3 (by decide)
  · rw [if_neg (by decide)] at h3; rw [h3] at e3; exact absurd e3 (by decide)
  · exact absurd (by decide) hL
end Fin

def QI (z : Int32) (h0 : Heap) (n0 : Nat) (v : Option Value) (h : Heap) (L : List Loc) : Prop := v = some (.int z) ∧ Fr n0 L ∧ h = h0
def Q0 (n0 : Nat) (v : Option Value) (h : Heap) (L : List Loc) : Prop := v = some (.int 1) ∧ Fr n0 L
theorem own_pd0 : parseMethodDescriptor "(IZIIILcom/example/wolf_spider/wolfspider/EdgeListLine$Fields;)I" = some ⟨[.int, .boolean, .int, .int, .int, (.object "com/example/wolf_spider/wolfspider/EdgeListLine$Fields")], some .int⟩ := by decide +kernel
theorem own_pd1 : parseMethodDescriptor "(I)B" = some ⟨[.int], some .byte⟩ := by decide +kernel
theorem own_pd2 : parseMethodDescriptor "([BIII)I" = some ⟨[(.array .byte), .int, .int, .int], some .int⟩ := by decide +kernel
theorem own_pd3 : parseMethodDescriptor "(I)Z" = some ⟨[.int], some .boolean⟩ := by decide +kernel
theorem own_pd4 : parseMethodDescriptor "([BIILcom/example/wolf_spider/wolfspider/EdgeListLine$Fields;)I" = some ⟨[(.array .byte), .int, .int, (.object "com/example/wolf_spider/wolfspider/EdgeListLine$Fields")], some .int⟩ := by decide +kernel
theorem own_pd5 : parseMethodDescriptor "(I)I" = some ⟨[.int], some .int⟩ := by decide +kernel
theorem d1_0 : decode method_2_code 0 = .ok (.iload_n 0, 1) := by decide +kernel
theorem d1_1 : decode method_2_code 1 = .ok (.bipush 7, 2) := by decide +kernel
theorem d1_3 : decode method_2_code 3 = .ok (.iand, 1) := by decide +kernel
theorem d1_4 : decode method_2_code 4 = .ok (.istore_n 1, 1) := by decide +kernel
theorem d1_5 : decode method_2_code 5 = .ok (.iload_n 1, 1) := by decide +kernel
theorem d1_6 : decode method_2_code 6 = .ok (.ifCond .ne 6, 3) := by decide +kernel
theorem d1_9 : decode method_2_code 9 = .ok (.bipush 9, 2) := by decide +kernel
theorem d1_11 : decode method_2_code 11 = .ok (.ireturn, 1) := by decide +kernel
theorem d1_12 : decode method_2_code 12 = .ok (.iload_n 1, 1) := by decide +kernel
theorem d1_13 : decode method_2_code 13 = .ok (.iconst 1, 1) := by decide +kernel
theorem d1_14 : decode method_2_code 14 = .ok (.if_icmp .ne 6, 3) := by decide +kernel
theorem d1_17 : decode method_2_code 17 = .ok (.bipush 35, 2) := by decide +kernel
theorem d1_19 : decode method_2_code 19 = .ok (.ireturn, 1) := by decide +kernel
theorem d1_20 : decode method_2_code 20 = .ok (.iload_n 1, 1) := by decide +kernel
theorem d1_21 : decode method_2_code 21 = .ok (.iconst 2, 1) := by decide +kernel
theorem d1_22 : decode method_2_code 22 = .ok (.if_icmp .ne 18, 3) := by decide +kernel
theorem d1_25 : decode method_2_code 25 = .ok (.iload_n 0, 1) := by decide +kernel
theorem d1_26 : decode method_2_code 26 = .ok (.bipush 8, 2) := by decide +kernel
theorem d1_28 : decode method_2_code 28 = .ok (.iand, 1) := by decide +kernel
theorem d1_29 : decode method_2_code 29 = .ok (.ifCond .eq 8, 3) := by decide +kernel
theorem d1_32 : decode method_2_code 32 = .ok (.bipush 10, 2) := by decide +kernel
theorem d1_34 : decode method_2_code 34 = .ok (.goto 5, 3) := by decide +kernel
theorem d1_37 : decode method_2_code 37 = .ok (.bipush 13, 2) := by decide +kernel
theorem d1_39 : decode method_2_code 39 = .ok (.ireturn, 1) := by decide +kernel
theorem d1_40 : decode method_2_code 40 = .ok (.iload_n 0, 1) := by decide +kernel
theorem d1_41 : decode method_2_code 41 = .ok (.iconst 3, 1) := by decide +kernel
theorem d1_42 : decode method_2_code 42 = .ok (.ishr, 1) := by decide +kernel
theorem d1_43 : decode method_2_code 43 = .ok (.i2b, 1) := by decide +kernel
theorem d1_44 : decode method_2_code 44 = .ok (.ireturn, 1) := by decide +kernel
theorem pn_1 : plainFor (⟨"com/example/wolf_spider/wolfspider/EdgeListLineTabPinLaw", "pick", "(I)B"⟩ : MethodName) = true := plainFor_of_name (by first | (simp [plainName, overriddenIn]; done) | decide +kernel)
set_option maxRecDepth 65536 in
set_option maxHeartbeats 40000000 in
theorem rm1 (l : Launch) (Z : State) (a0 : Array Value) (hw : ∀ d ∈ tables_1, d.before a0 Z = true) (ws : List Jvm.Cond) (p1 : Int32) (z : Int32) (h0 : Heap) (n0 : Nat) (Z0 : n0 ≤ h0.size) (hz : own_pick p1 = z) :
    MetFree l (⟨"com/example/wolf_spider/wolfspider/EdgeListLineTabPinLaw", "pick", "(I)B"⟩ : MethodName) (head1 (Jvm.Cond.code (⟨"com/example/wolf_spider/wolfspider/EdgeListLineTabPinLaw", "pick", "(I)B"⟩ : MethodName) method_2_code 2 (some .byte) :: ws) ({ frames := 0, cells := 0, slots := 0, locals := 0 } : Room)) (fun a U => a = #[(.int p1)] ∧ Z.Warmed39 U.vm ∧ U.heap = h0) (fun _ _ _ _ _ => True) (fun _ U o U' => ∃ v L, o = .returned v ∧ QI z h0 n0 v U'.heap L ∧ FrameEnd U o U' L ({ frames := 0, cells := 0, slots := 0, locals := 0 } : Room).cells ({ frames := 0, cells := 0, slots := 0, locals := 0 } : Room).slots) := by
  refine MetFree.of_bodySF pn_1 hisR ?_
  intro p e s m args below meth c s₁ Bd hml0 hP hK
  obtain ⟨rfl, hZ, hh⟩ := hP
  have hx := Bd.exec
  have hby := Bd.bytes
  have hml : c.maxLocals = 2 := hml0
  have hown : s.vm.findClass "com/example/wolf_spider/wolfspider/EdgeListLineTabPinLaw" = some m.cls := findClass_of_methodNamed Bd.named
  have hnm := (name_of_methodNamed Bd.named Bd.method).1
  have hlk : meth.locks = false := BodyLoose.notSynchronized Bd
  have X0 : Stand p l e ({ frames := 0, cells := 0, slots := 0, locals := 0 } : Room) s m #[(.int p1)] below meth c s₁ [] 0 0 := Stand.of_body Bd
  have e0 : s₁.heap = h0 := by rw [← hh, Bd.state]; rfl
  have N0 := Fr.nil n0
  show own_Fin p e below (own_P (QI z h0 n0) s ({ frames := 0, cells := 0, slots := 0, locals := 0 } : Room).cells ({ frames := 0, cells := 0, slots := 0, locals := 0 } : Room).slots) (s₁.setTop (entryFrame m #[(.int p1)] 2))
  rw [show entryFrame m #[(.int p1)] 2 = mkF m 0 #[.val (.int p1), .unset] [] from by first | (simp [entryFrame, mkF, argsToLocals, Value.category]; done) | rfl]
  refine own_go ?_ (fun tq kt => XS.iloadN X0.here hx rfl (hb hby d1_0) rfl kt)
  show own_Fin _ _ _ _ (s₁.setTop (mkF m 1 #[.val (.int p1), .unset] [(.int p1)]))
  refine own_go ?_ (fun tq kt => XS.bipush X0.here hx rfl (hb hby d1_1) kt)
  show own_Fin _ _ _ _ (s₁.setTop (mkF m 3 #[.val (.int p1), .unset] [(.int (7 : Int32)), (.int p1)]))
  refine own_go ?_ (fun tq kt => XS.iand X0.here hx rfl (hb hby d1_3) rfl kt)
  show own_Fin _ _ _ _ (s₁.setTop (mkF m 4 #[.val (.int p1), .unset] [(.int (p1 &&& (7 : Int32)))]))
  refine own_go ?_ (fun tq kt => XS.istoreN X0.here hx rfl (hb hby d1_4) rfl (l' := #[.val (.int p1), .val (.int (p1 &&& (7 : Int32)))]) rfl kt)
  show own_Fin _ _ _ _ (s₁.setTop (mkF m 5 #[.val (.int p1), .val (.int (p1 &&& (7 : Int32)))] []))
  refine own_go ?_ (fun tq kt => XS.iloadN X0.here hx rfl (hb hby d1_5) rfl kt)
  show own_Fin _ _ _ _ (s₁.setTop (mkF m 6 #[.val (.int p1), .val (.int (p1 &&& (7 : Int32)))] [(.int (p1 &&& (7 : Int32)))]))
  by_cases hc6_5 : (p1 &&& (7 : Int32)) = (0 : Int32)
  · refine own_go ?_ (fun tq kt => XS.ifNo X0.here hx rfl (hb hby d1_6) rfl ((if0 _ _).trans (teq (hc6_5 : (p1 &&& (7 : Int32)) = (0 : Int32))).2) kt)
    show own_Fin _ _ _ _ (s₁.setTop (mkF m 9 #[.val (.int p1), .val (.int (p1 &&& (7 : Int32)))] []))
    refine own_go ?_ (fun tq kt => XS.bipush X0.here hx rfl (hb hby d1_9) kt)
    show own_Fin _ _ _ _ (s₁.setTop (mkF m 11 #[.val (.int p1), .val (.int (p1 &&& (7 : Int32)))] [(.int (9 : Int32))]))
    refine own_retN X0 hx (t := .byte) Bd.returns (by simp) (hb hby d1_11) hlk ?_ (by decide) (by decide)
    show QI z h0 n0 _ s₁.heap _
    rw [e0]
    exact ⟨by rw [← hz]; simp [own_pick, hc6_5]; try rfl, N0, rfl⟩
  · refine own_go ?_ (fun tq kt => XS.ifYes X0.here hx rfl (pc0 := 6) (pc' := 12) rfl (hb hby d1_6) rfl ((if0 _ _).trans (feq (hc6_5 : ¬ ((p1 &&& (7 : Int32)) = (0 : Int32)))).2) (by decide) (by decide) kt)
    show own_Fin _ _ _ _ (s₁.setTop (mkF m 12 #[.val (.int p1), .val (.int (p1 &&& (7 : Int32)))] []))
    refine own_go ?_ (fun tq kt => XS.iloadN X0.here hx rfl (hb hby d1_12) rfl kt)
    show own_Fin _ _ _ _ (s₁.setTop (mkF m 13 #[.val (.int p1), .val (.int (p1 &&& (7 : Int32)))] [(.int (p1 &&& (7 : Int32)))]))
    refine own_go ?_ (fun tq kt => XS.iconst X0.here hx rfl (hb hby d1_13) kt)
    show own_Fin _ _ _ _ (s₁.setTop (mkF m 14 #[.val (.int p1), .val (.int (p1 &&& (7 : Int32)))] [(.int (1 : Int32)), (.int (p1 &&& (7 : Int32)))]))
    by_cases hc14_6 : (p1 &&& (7 : Int32)) = (1 : Int32)
    · refine own_go ?_ (fun tq kt => XS.icmpNo X0.here hx rfl (hb hby d1_14) rfl (teq (hc14_6 : (p1 &&& (7 : Int32)) = (1 : Int32))).2 kt)
      show own_Fin _ _ _ _ (s₁.setTop (mkF m 17 #[.val (.int p1), .val (.int (p1 &&& (7 : Int32)))] []))
      refine own_go ?_ (fun tq kt => XS.bipush X0.here hx rfl (hb hby d1_17) kt)
      show own_Fin _ _ _ _ (s₁.setTop (mkF m 19 #[.val (.int p1), .val (.int (p1 &&& (7 : Int32)))] [(.int (35 : Int32))]))
      refine own_retN X0 hx (t := .byte) Bd.returns (by simp) (hb hby d1_19) hlk ?_ (by decide) (by decide)
      show QI z h0 n0 _ s₁.heap _
      rw [e0]
      exact ⟨by rw [← hz]; simp [own_pick, hc6_5, hc14_6]; try rfl, N0, rfl⟩
    · refine own_go ?_ (fun tq kt => XS.icmpYes X0.here hx rfl (pc0 := 14) (pc' := 20) rfl (hb hby d1_14) rfl (feq (hc14_6 : ¬ ((p1 &&& (7 : Int32)) = (1 : Int32)))).2 (by decide) (by decide) kt)
      show own_Fin _ _ _ _ (s₁.setTop (mkF m 20 #[.val (.int p1), .val (.int (p1 &&& (7 : Int32)))] []))
      refine own_go ?_ (fun tq kt => XS.iloadN X0.here hx rfl (hb hby d1_20) rfl kt)
      show own_Fin _ _ _ _ (s₁.setTop (mkF m 21 #[.val (.int p1), .val (.int (p1 &&& (7 : Int32)))] [(.int (p1 &&& (7 : Int32)))]))
      refine own_go ?_ (fun tq kt => XS.iconst X0.here hx rfl (hb hby d1_21) kt)
      show own_Fin _ _ _ _ (s₁.setTop (mkF m 22 #[.val (.int p1), .val (.int (p1 &&& (7 : Int32)))] [(.int (2 : Int32)), (.int (p1 &&& (7 : Int32)))]))
      by_cases hc22_7 : (p1 &&& (7 : Int32)) = (2 : Int32)
      · refine own_go ?_ (fun tq kt => XS.icmpNo X0.here hx rfl (hb hby d1_22) rfl (teq (hc22_7 : (p1 &&& (7 : Int32)) = (2 : Int32))).2 kt)
        show own_Fin _ _ _ _ (s₁.setTop (mkF m 25 #[.val (.int p1), .val (.int (p1 &&& (7 : Int32)))] []))
        refine own_go ?_ (fun tq kt => XS.iloadN X0.here hx rfl (hb hby d1_25) rfl kt)
        show own_Fin _ _ _ _ (s₁.setTop (mkF m 26 #[.val (.int p1), .val (.int (p1 &&& (7 : Int32)))] [(.int p1)]))
        refine own_go ?_ (fun tq kt => XS.bipush X0.here hx rfl (hb hby d1_26) kt)
        show own_Fin _ _ _ _ (s₁.setTop (mkF m 28 #[.val (.int p1), .val (.int (p1 &&& (7 : Int32)))] [(.int (8 : Int32)), (.int p1)]))
        refine own_go ?_ (fun tq kt => XS.iand X0.here hx rfl (hb hby d1_28) rfl kt)
        show own_Fin _ _ _ _ (s₁.setTop (mkF m 29 #[.val (.int p1), .val (.int (p1 &&& (7 : Int32)))] [(.int (p1 &&& (8 : Int32)))]))
        by_cases hc29_8 : (p1 &&& (8 : Int32)) = (0 : Int32)
        · refine own_go ?_ (fun tq kt => XS.ifYes X0.here hx rfl (pc0 := 29) (pc' := 37) rfl (hb hby d1_29) rfl ((if0 _ _).trans (teq (hc29_8 : (p1 &&& (8 : Int32)) = (0 : Int32))).1) (by decide) (by decide) kt)
          show own_Fin _ _ _ _ (s₁.setTop (mkF m 37 #[.val (.int p1), .val (.int (p1 &&& (7 : Int32)))] []))
          refine own_go ?_ (fun tq kt => XS.bipush X0.here hx rfl (hb hby d1_37) kt)
          show own_Fin _ _ _ _ (s₁.setTop (mkF m 39 #[.val (.int p1), .val (.int (p1 &&& (7 : Int32)))] [(.int (13 : Int32))]))
          refine own_retN X0 hx (t := .byte) Bd.returns (by simp) (hb hby d1_39) hlk ?_ (by decide) (by decide)
          show QI z h0 n0 _ s₁.heap _
          rw [e0]
          exact ⟨by rw [← hz]; simp [own_pick, hc6_5, hc14_6, hc22_7, hc29_8]; try rfl, N0, rfl⟩
        · refine own_go ?_ (fun tq kt => XS.ifNo X0.here hx rfl (hb hby d1_29) rfl ((if0 _ _).trans (feq (hc29_8 : ¬ ((p1 &&& (8 : Int32)) = (0 : Int32)))).1) kt)
          show own_Fin _ _ _ _ (s₁.setTop (mkF m 32 #[.val (.int p1), .val (.int (p1 &&& (7 : Int32)))] []))
          refine own_go ?_ (fun tq kt => XS.bipush X0.here hx rfl (hb hby d1_32) kt)
          show own_Fin _ _ _ _ (s₁.setTop (mkF m 34 #[.val (.int p1), .val (.int (p1 &&& (7 : Int32)))] [(.int (10 : Int32))]))
          refine own_go ?_ (fun tq kt => XS.goto X0.here hx rfl (pc0 := 34) (pc' := 39) rfl (hb hby d1_34) (by decide) (by decide) kt)
          show own_Fin _ _ _ _ (s₁.setTop (mkF m 39 #[.val (.int p1), .val (.int (p1 &&& (7 : Int32)))] [(.int (10 : Int32))]))
          refine own_retN X0 hx (t := .byte) Bd.returns (by simp) (hb hby d1_39) hlk ?_ (by decide) (by decide)
          show QI z h0 n0 _ s₁.heap _
          rw [e0]
          exact ⟨by rw [← hz]; simp [own_pick, hc6_5, hc14_6, hc22_7, hc29_8]; try rfl, N0, rfl⟩
      · refine own_go ?_ (fun tq kt => XS.icmpYes X0.here hx rfl (pc0 := 22) (pc' := 40) rfl (hb hby d1_22) rfl (feq (hc22_7 : ¬ ((p1 &&& (7 : Int32)) = (2 : Int32)))).2 (by decide) (by decide) kt)
        show own_Fin _ _ _ _ (s₁.setTop (mkF m 40 #[.val (.int p1), .val (.int (p1 &&& (7 : Int32)))] []))
        refine own_go ?_ (fun tq kt => XS.iloadN X0.here hx rfl (hb hby d1_40) rfl kt)
        show own_Fin _ _ _ _ (s₁.setTop (mkF m 41 #[.val (.int p1), .val (.int (p1 &&& (7 : Int32)))] [(.int p1)]))
        refine own_go ?_ (fun tq kt => XS.iconst X0.here hx rfl (hb hby d1_41) kt)
        show own_Fin _ _ _ _ (s₁.setTop (mkF m 42 #[.val (.int p1), .val (.int (p1 &&& (7 : Int32)))] [(.int (3 : Int32)), (.int p1)]))
        refine own_go ?_ (fun tq kt => XS.ishr X0.here hx rfl (hb hby d1_42) rfl kt)
        show own_Fin _ _ _ _ (s₁.setTop (mkF m 43 #[.val (.int p1), .val (.int (p1 &&& (7 : Int32)))] [(.int (p1 >>> ((3 : Int32) &&& 31)))]))
        refine own_go ?_ (fun tq kt => XS.i2b X0.here hx rfl (hb hby d1_43) rfl kt)
        show own_Fin _ _ _ _ (s₁.setTop (mkF m 44 #[.val (.int p1), .val (.int (p1 &&& (7 : Int32)))] [(.int ((p1 >>> ((3 : Int32) &&& 31)).toInt8.toInt32))]))
        refine own_retN X0 hx (t := .byte) Bd.returns (by simp) (hb hby d1_44) hlk ?_ (by decide) (by decide)
        show QI z h0 n0 _ s₁.heap _
        rw [e0]
        exact ⟨by rw [← hz]; simp [own_pick, hc6_5, hc14_6, hc22_7]; try rfl, N0, rfl⟩
theorem d3_0 : decode method_4_code 0 = .ok (.iload_n 0, 1) := by decide +kernel
theorem d3_1 : decode method_4_code 1 = .ok (.bipush 10, 2) := by decide +kernel
theorem d3_3 : decode method_4_code 3 = .ok (.if_icmp .eq 9, 3) := by decide +kernel
theorem d3_6 : decode method_4_code 6 = .ok (.iload_n 0, 1) := by decide +kernel
theorem d3_7 : decode method_4_code 7 = .ok (.bipush 13, 2) := by decide +kernel
theorem d3_9 : decode method_4_code 9 = .ok (.if_icmp .ne 7, 3) := by decide +kernel
theorem d3_12 : decode method_4_code 12 = .ok (.iconst 1, 1) := by decide +kernel
theorem d3_13 : decode method_4_code 13 = .ok (.goto 4, 3) := by decide +kernel
theorem d3_16 : decode method_4_code 16 = .ok (.iconst 0, 1) := by decide +kernel
theorem d3_17 : decode method_4_code 17 = .ok (.ireturn, 1) := by decide +kernel
theorem pn_3 : plainFor (⟨"com/example/wolf_spider/wolfspider/EdgeListLineTabPinLaw", "isBreak", "(I)Z"⟩ : MethodName) = true := plainFor_of_name (by first | (simp [plainName, overriddenIn]; done) | decide +kernel)
set_option maxRecDepth 65536 in
set_option maxHeartbeats 40000000 in
theorem rm3 (l : Launch) (Z : State) (a0 : Array Value) (hw : ∀ d ∈ tables_1, d.before a0 Z = true) (ws : List Jvm.Cond) (p1 : Int32) (z : Int32) (h0 : Heap) (n0 : Nat) (Z0 : n0 ≤ h0.size) (hz : own_brk p1 = z) :
    MetFree l (⟨"com/example/wolf_spider/wolfspider/EdgeListLineTabPinLaw", "isBreak", "(I)Z"⟩ : MethodName) (head1 (Jvm.Cond.code (⟨"com/example/wolf_spider/wolfspider/EdgeListLineTabPinLaw", "isBreak", "(I)Z"⟩ : MethodName) method_4_code 1 (some .boolean) :: ws) ({ frames := 0, cells := 0, slots := 0, locals := 0 } : Room)) (fun a U => a = #[(.int p1)] ∧ Z.Warmed39 U.vm ∧ U.heap = h0) (fun _ _ _ _ _ => True) (fun _ U o U' => ∃ v L, o = .returned v ∧ QI z h0 n0 v U'.heap L ∧ FrameEnd U o U' L ({ frames := 0, cells := 0, slots := 0, locals := 0 } : Room).cells ({ frames := 0, cells := 0, slots := 0, locals := 0 } : Room).slots) := by
  refine MetFree.of_bodySF pn_3 hisR ?_
  intro p e s m args below meth c s₁ Bd hml0 hP hK
  obtain ⟨rfl, hZ, hh⟩ := hP
  have hx := Bd.exec
  have hby := Bd.bytes
  have hml : c.maxLocals = 1 := hml0
  have hown : s.vm.findClass "com/example/wolf_spider/wolfspider/EdgeListLineTabPinLaw" = some m.cls := findClass_of_methodNamed Bd.named
  have hnm := (name_of_methodNamed Bd.named Bd.method).1
  have hlk : meth.locks = false := BodyLoose.notSynchronized Bd
  have X0 : Stand p l e ({ frames := 0, cells := 0, slots := 0, locals := 0 } : Room) s m #[(.int p1)] below meth c s₁ [] 0 0 := Stand.of_body Bd
  have e0 : s₁.heap = h0 := by rw [← hh, Bd.state]; rfl
  have N0 := Fr.nil n0
  show own_Fin p e below (own_P (QI z h0 n0) s ({ frames := 0, cells := 0, slots := 0, locals := 0 } : Room).cells ({ frames := 0, cells := 0, slots := 0, locals := 0 } : Room).slots) (s₁.setTop (entryFrame m #[(.int p1)] 1))
  rw [show entryFrame m #[(.int p1)] 1 = mkF m 0 #[.val (.int p1)] [] from by first | (simp [entryFrame, mkF, argsToLocals, Value.category]; done) | rfl]
  refine own_go ?_ (fun tq kt => XS.iloadN X0.here hx rfl (hb hby d3_0) rfl kt)
  show own_Fin _ _ _ _ (s₁.setTop (mkF m 1 #[.val (.int p1)] [(.int p1)]))
  refine own_go ?_ (fun tq kt => XS.bipush X0.here hx rfl (hb hby d3_1) kt)
  show own_Fin _ _ _ _ (s₁.setTop (mkF m 3 #[.val (.int p1)] [(.int (10 : Int32)), (.int p1)]))
  by_cases hc3_11 : p1 = (10 : Int32)
  · refine own_go ?_ (fun tq kt => XS.icmpYes X0.here hx rfl (pc0 := 3) (pc' := 12) rfl (hb hby d3_3) rfl (teq (hc3_11 : p1 = (10 : Int32))).1 (by decide) (by decide) kt)
    show own_Fin _ _ _ _ (s₁.setTop (mkF m 12 #[.val (.int p1)] []))
    refine own_go ?_ (fun tq kt => XS.iconst X0.here hx rfl (hb hby d3_12) kt)
    show own_Fin _ _ _ _ (s₁.setTop (mkF m 13 #[.val (.int p1)] [(.int (1 : Int32))]))
    refine own_go ?_ (fun tq kt => XS.goto X0.here hx rfl (pc0 := 13) (pc' := 17) rfl (hb hby d3_13) (by decide) (by decide) kt)
    show own_Fin _ _ _ _ (s₁.setTop (mkF m 17 #[.val (.int p1)] [(.int (1 : Int32))]))
    refine own_retN X0 hx (t := .boolean) Bd.returns (by simp) (hb hby d3_17) hlk ?_ (by decide) (by decide)
    show QI z h0 n0 _ s₁.heap _
    rw [e0]
    exact ⟨by rw [← hz]; simp [own_brk, hc3_11]; try rfl, N0, rfl⟩
  · refine own_go ?_ (fun tq kt => XS.icmpNo X0.here hx rfl (hb hby d3_3) rfl (feq (hc3_11 : ¬ (p1 = (10 : Int32)))).1 kt)
    show own_Fin _ _ _ _ (s₁.setTop (mkF m 6 #[.val (.int p1)] []))
    refine own_go ?_ (fun tq kt => XS.iloadN X0.here hx rfl (hb hby d3_6) rfl kt)
    show own_Fin _ _ _ _ (s₁.setTop (mkF m 7 #[.val (.int p1)] [(.int p1)]))
    refine own_go ?_ (fun tq kt => XS.bipush X0.here hx rfl (hb hby d3_7) kt)
    show own_Fin _ _ _ _ (s₁.setTop (mkF m 9 #[.val (.int p1)] [(.int (13 : Int32)), (.int p1)]))
    by_cases hc9_12 : p1 = (13 : Int32)
    · refine own_go ?_ (fun tq kt => XS.icmpNo X0.here hx rfl (hb hby d3_9) rfl (teq (hc9_12 : p1 = (13 : Int32))).2 kt)
      show own_Fin _ _ _ _ (s₁.setTop (mkF m 12 #[.val (.int p1)] []))
      refine own_go ?_ (fun tq kt => XS.iconst X0.here hx rfl (hb hby d3_12) kt)
      show own_Fin _ _ _ _ (s₁.setTop (mkF m 13 #[.val (.int p1)] [(.int (1 : Int32))]))
      refine own_go ?_ (fun tq kt => XS.goto X0.here hx rfl (pc0 := 13) (pc' := 17) rfl (hb hby d3_13) (by decide) (by decide) kt)
      show own_Fin _ _ _ _ (s₁.setTop (mkF m 17 #[.val (.int p1)] [(.int (1 : Int32))]))
      refine own_retN X0 hx (t := .boolean) Bd.returns (by simp) (hb hby d3_17) hlk ?_ (by decide) (by decide)
      show QI z h0 n0 _ s₁.heap _
      rw [e0]
      exact ⟨by rw [← hz]; simp [own_brk, hc3_11, hc9_12]; try rfl, N0, rfl⟩
    · refine own_go ?_ (fun tq kt => XS.icmpYes X0.here hx rfl (pc0 := 9) (pc' := 16) rfl (hb hby d3_9) rfl (feq (hc9_12 : ¬ (p1 = (13 : Int32)))).2 (by decide) (by decide) kt)
      show own_Fin _ _ _ _ (s₁.setTop (mkF m 16 #[.val (.int p1)] []))
      refine own_go ?_ (fun tq kt => XS.iconst X0.here hx rfl (hb hby d3_16) kt)
      show own_Fin _ _ _ _ (s₁.setTop (mkF m 17 #[.val (.int p1)] [(.int (0 : Int32))]))
      refine own_retN X0 hx (t := .boolean) Bd.returns (by simp) (hb hby d3_17) hlk ?_ (by decide) (by decide)
      show QI z h0 n0 _ s₁.heap _
      rw [e0]
      exact ⟨by rw [← hz]; simp [own_brk, hc3_11, hc9_12]; try rfl, N0, rfl⟩
theorem d6_0 : decode method_5_code 0 = .ok (.iload_n 0, 1) := by decide +kernel
theorem d6_1 : decode method_5_code 1 = .ok (.bipush 9, 2) := by decide +kernel
theorem d6_3 : decode method_5_code 3 = .ok (.if_icmp .ne 7, 3) := by decide +kernel
theorem d6_6 : decode method_5_code 6 = .ok (.iconst 1, 1) := by decide +kernel
theorem d6_7 : decode method_5_code 7 = .ok (.goto 4, 3) := by decide +kernel
theorem d6_10 : decode method_5_code 10 = .ok (.iconst 0, 1) := by decide +kernel
theorem d6_11 : decode method_5_code 11 = .ok (.ireturn, 1) := by decide +kernel
theorem pn_6 : plainFor (⟨"com/example/wolf_spider/wolfspider/EdgeListLineTabPinLaw", "tabOne", "(I)I"⟩ : MethodName) = true := plainFor_of_name (by first | (simp [plainName, overriddenIn]; done) | decide +kernel)
set_option maxRecDepth 65536 in
set_option maxHeartbeats 40000000 in
theorem rm6 (l : Launch) (Z : State) (a0 : Array Value) (hw : ∀ d ∈ tables_1, d.before a0 Z = true) (ws : List Jvm.Cond) (p1 : Int32) (z : Int32) (h0 : Heap) (n0 : Nat) (Z0 : n0 ≤ h0.size) (hz : own_one p1 = z) :
    MetFree l (⟨"com/example/wolf_spider/wolfspider/EdgeListLineTabPinLaw", "tabOne", "(I)I"⟩ : MethodName) (head1 (Jvm.Cond.code (⟨"com/example/wolf_spider/wolfspider/EdgeListLineTabPinLaw", "tabOne", "(I)I"⟩ : MethodName) method_5_code 1 (some .int) :: ws) ({ frames := 0, cells := 0, slots := 0, locals := 0 } : Room)) (fun a U => a = #[(.int p1)] ∧ Z.Warmed39 U.vm ∧ U.heap = h0) (fun _ _ _ _ _ => True) (fun _ U o U' => ∃ v L, o = .returned v ∧ QI z h0 n0 v U'.heap L ∧ FrameEnd U o U' L ({ frames := 0, cells := 0, slots := 0, locals := 0 } : Room).cells ({ frames := 0, cells := 0, slots := 0, locals := 0 } : Room).slots) := by
  refine MetFree.of_bodySF pn_6 hisR ?_
  intro p e s m args below meth c s₁ Bd hml0 hP hK
  obtain ⟨rfl, hZ, hh⟩ := hP
  have hx := Bd.exec
  have hby := Bd.bytes
  have hml : c.maxLocals = 1 := hml0
  have hown : s.vm.findClass "com/example/wolf_spider/wolfspider/EdgeListLineTabPinLaw" = some m.cls := findClass_of_methodNamed Bd.named
  have hnm := (name_of_methodNamed Bd.named Bd.method).1
  have hlk : meth.locks = false := BodyLoose.notSynchronized Bd
  have X0 : Stand p l e ({ frames := 0, cells := 0, slots := 0, locals := 0 } : Room) s m #[(.int p1)] below meth c s₁ [] 0 0 := Stand.of_body Bd
  have e0 : s₁.heap = h0 := by rw [← hh, Bd.state]; rfl
  have N0 := Fr.nil n0
  show own_Fin p e below (own_P (QI z h0 n0) s ({ frames := 0, cells := 0, slots := 0, locals := 0 } : Room).cells ({ frames := 0, cells := 0, slots := 0, locals := 0 } : Room).slots) (s₁.setTop (entryFrame m #[(.int p1)] 1))
  rw [show entryFrame m #[(.int p1)] 1 = mkF m 0 #[.val (.int p1)] [] from by first | (simp [entryFrame, mkF, argsToLocals, Value.category]; done) | rfl]
  refine own_go ?_ (fun tq kt => XS.iloadN X0.here hx rfl (hb hby d6_0) rfl kt)
  show own_Fin _ _ _ _ (s₁.setTop (mkF m 1 #[.val (.int p1)] [(.int p1)]))
  refine own_go ?_ (fun tq kt => XS.bipush X0.here hx rfl (hb hby d6_1) kt)
  show own_Fin _ _ _ _ (s₁.setTop (mkF m 3 #[.val (.int p1)] [(.int (9 : Int32)), (.int p1)]))
  by_cases hc3_14 : p1 = (9 : Int32)
  · refine own_go ?_ (fun tq kt => XS.icmpNo X0.here hx rfl (hb hby d6_3) rfl (teq (hc3_14 : p1 = (9 : Int32))).2 kt)
    show own_Fin _ _ _ _ (s₁.setTop (mkF m 6 #[.val (.int p1)] []))
    refine own_go ?_ (fun tq kt => XS.iconst X0.here hx rfl (hb hby d6_6) kt)
    show own_Fin _ _ _ _ (s₁.setTop (mkF m 7 #[.val (.int p1)] [(.int (1 : Int32))]))
    refine own_go ?_ (fun tq kt => XS.goto X0.here hx rfl (pc0 := 7) (pc' := 11) rfl (hb hby d6_7) (by decide) (by decide) kt)
    show own_Fin _ _ _ _ (s₁.setTop (mkF m 11 #[.val (.int p1)] [(.int (1 : Int32))]))
    refine own_retO X0 hx (t := .int) Bd.returns rfl (Or.inl ⟨rfl, Or.inl rfl, _, rfl⟩) (hb hby d6_11) hlk ?_ (by decide) (by decide)
    show QI z h0 n0 _ s₁.heap _
    rw [e0]
    exact ⟨by rw [← hz]; simp [own_one, hc3_14], N0, rfl⟩
  · refine own_go ?_ (fun tq kt => XS.icmpYes X0.here hx rfl (pc0 := 3) (pc' := 10) rfl (hb hby d6_3) rfl (feq (hc3_14 : ¬ (p1 = (9 : Int32)))).2 (by decide) (by decide) kt)
    show own_Fin _ _ _ _ (s₁.setTop (mkF m 10 #[.val (.int p1)] []))
    refine own_go ?_ (fun tq kt => XS.iconst X0.here hx rfl (hb hby d6_10) kt)
    show own_Fin _ _ _ _ (s₁.setTop (mkF m 11 #[.val (.int p1)] [(.int (0 : Int32))]))
    refine own_retO X0 hx (t := .int) Bd.returns rfl (Or.inl ⟨rfl, Or.inl rfl, _, rfl⟩) (hb hby d6_11) hlk ?_ (by decide) (by decide)
    show QI z h0 n0 _ s₁.heap _
    rw [e0]
    exact ⟨by rw [← hz]; simp [own_one, hc3_14], N0, rfl⟩
theorem d2_0 : decode method_3_code 0 = .ok (.iload_n 3, 1) := by decide +kernel
theorem d2_1 : decode method_3_code 1 = .ok (.iload_n 2, 1) := by decide +kernel
theorem d2_2 : decode method_3_code 2 = .ok (.if_icmp .ge 9, 3) := by decide +kernel
theorem d2_5 : decode method_3_code 5 = .ok (.aload_n 0, 1) := by decide +kernel
theorem d2_6 : decode method_3_code 6 = .ok (.iload_n 1, 1) := by decide +kernel
theorem d2_7 : decode method_3_code 7 = .ok (.iload_n 3, 1) := by decide +kernel
theorem d2_8 : decode method_3_code 8 = .ok (.iadd, 1) := by decide +kernel
theorem d2_9 : decode method_3_code 9 = .ok (.baload, 1) := by decide +kernel
theorem d2_10 : decode method_3_code 10 = .ok (.ireturn, 1) := by decide +kernel
theorem d2_11 : decode method_3_code 11 = .ok (.iconst 0, 1) := by decide +kernel
theorem d2_12 : decode method_3_code 12 = .ok (.ireturn, 1) := by decide +kernel
theorem pn_2 : plainFor (⟨"com/example/wolf_spider/wolfspider/EdgeListLineTabPinLaw", "at", "([BIII)I"⟩ : MethodName) = true := plainFor_of_name (by first | (simp [plainName, overriddenIn]; done) | decide +kernel)
set_option maxRecDepth 65536 in
set_option maxHeartbeats 40000000 in
theorem rm2 (l : Launch) (Z : State) (a0 : Array Value) (hw : ∀ d ∈ tables_1, d.before a0 Z = true) (ws : List Jvm.Cond) (a1 : Addr) (p2 : Int32) (p3 : Int32) (p4 : Int32) (k0 : ClassId) (bs : List Int32) (z : Int32) (h0 : Heap) (n0 : Nat) (Z0 : n0 ≤ h0.size) (V : Arv Z h0 a1 k0 .byte (6 : Int32) (bs.map Value.int) (.int (0 : Int32))) (hin : p4 < p3 → ¬ (p2 + p4) < 0 ∧ (p2 + p4) < (6 : Int32)) (hz : z = if p4 < p3 then own_v bs (p2 + p4).toNatClampNeg else 0) :
    MetFree l (⟨"com/example/wolf_spider/wolfspider/EdgeListLineTabPinLaw", "at", "([BIII)I"⟩ : MethodName) (head1 (Jvm.Cond.code (⟨"com/example/wolf_spider/wolfspider/EdgeListLineTabPinLaw", "at", "([BIII)I"⟩ : MethodName) method_3_code 4 (some .int) :: ws) ({ frames := 0, cells := 0, slots := 0, locals := 0 } : Room)) (fun a U => a = #[(.ref a1), (.int p2), (.int p3), (.int p4)] ∧ Z.Warmed39 U.vm ∧ U.heap = h0) (fun _ _ _ _ _ => True) (fun _ U o U' => ∃ v L, o = .returned v ∧ QI z h0 n0 v U'.heap L ∧ FrameEnd U o U' L ({ frames := 0, cells := 0, slots := 0, locals := 0 } : Room).cells ({ frames := 0, cells := 0, slots := 0, locals := 0 } : Room).slots) := by
  refine MetFree.of_bodySF pn_2 hisR ?_
  intro p e s m args below meth c s₁ Bd hml0 hP hK
  obtain ⟨rfl, hZ, hh⟩ := hP
  have hx := Bd.exec
  have hby := Bd.bytes
  have hml : c.maxLocals = 4 := hml0
  have hown : s.vm.findClass "com/example/wolf_spider/wolfspider/EdgeListLineTabPinLaw" = some m.cls := findClass_of_methodNamed Bd.named
  have hnm := (name_of_methodNamed Bd.named Bd.method).1
  have hlk : meth.locks = false := BodyLoose.notSynchronized Bd
  have X0 : Stand p l e ({ frames := 0, cells := 0, slots := 0, locals := 0 } : Room) s m #[(.ref a1), (.int p2), (.int p3), (.int p4)] below meth c s₁ [] 0 0 := Stand.of_body Bd
  have e0 : s₁.heap = h0 := by rw [← hh, Bd.state]; rfl
  have N0 := Fr.nil n0
  show own_Fin p e below (own_P (QI z h0 n0) s ({ frames := 0, cells := 0, slots := 0, locals := 0 } : Room).cells ({ frames := 0, cells := 0, slots := 0, locals := 0 } : Room).slots) (s₁.setTop (entryFrame m #[(.ref a1), (.int p2), (.int p3), (.int p4)] 4))
  rw [show entryFrame m #[(.ref a1), (.int p2), (.int p3), (.int p4)] 4 = mkF m 0 #[.val (.ref a1), .val (.int p2), .val (.int p3), .val (.int p4)] [] from by first | (simp [entryFrame, mkF, argsToLocals, Value.category]; done) | rfl]
  refine own_go ?_ (fun tq kt => XS.iloadN X0.here hx rfl (hb hby d2_0) rfl kt)
  show own_Fin _ _ _ _ (s₁.setTop (mkF m 1 #[.val (.ref a1), .val (.int p2), .val (.int p3), .val (.int p4)] [(.int p4)]))
  refine own_go ?_ (fun tq kt => XS.iloadN X0.here hx rfl (hb hby d2_1) rfl kt)
  show own_Fin _ _ _ _ (s₁.setTop (mkF m 2 #[.val (.ref a1), .val (.int p2), .val (.int p3), .val (.int p4)] [(.int p3), (.int p4)]))
  by_cases hc2_17 : p4 < p3
  · refine own_go ?_ (fun tq kt => XS.icmpNo X0.here hx rfl (hb hby d2_2) rfl (tlt (hc2_17 : p4 < p3)).2.1 kt)
    show own_Fin _ _ _ _ (s₁.setTop (mkF m 5 #[.val (.ref a1), .val (.int p2), .val (.int p3), .val (.int p4)] []))
    refine own_go ?_ (fun tq kt => XS.aloadN X0.here hx rfl (hb hby d2_5) rfl rfl kt)
    show own_Fin _ _ _ _ (s₁.setTop (mkF m 6 #[.val (.ref a1), .val (.int p2), .val (.int p3), .val (.int p4)] [(.ref a1)]))
    refine own_go ?_ (fun tq kt => XS.iloadN X0.here hx rfl (hb hby d2_6) rfl kt)
    show own_Fin _ _ _ _ (s₁.setTop (mkF m 7 #[.val (.ref a1), .val (.int p2), .val (.int p3), .val (.int p4)] [(.int p2), (.ref a1)]))
    refine own_go ?_ (fun tq kt => XS.iloadN X0.here hx rfl (hb hby d2_7) rfl kt)
    show own_Fin _ _ _ _ (s₁.setTop (mkF m 8 #[.val (.ref a1), .val (.int p2), .val (.int p3), .val (.int p4)] [(.int p4), (.int p2), (.ref a1)]))
    refine own_go ?_ (fun tq kt => XS.iadd X0.here hx rfl (hb hby d2_8) rfl kt)
    show own_Fin _ _ _ _ (s₁.setTop (mkF m 9 #[.val (.ref a1), .val (.int p2), .val (.int p3), .val (.int p4)] [(.int (p2 + p4)), (.ref a1)]))
    obtain ⟨cl18, Ar18, q18, S18, M18, H18, G18⟩ := id V
    refine own_go ?_ (fun tq kt => X0.baloadBytes hx (j := (p2 + p4)) (v := (.int (own_v bs (p2 + p4).toNatClampNeg))) (by rw [e0]; exact Ar18.1) (State.isArrayOf_alike hZ.alike Ar18.2.1) Ar18.2.2 (inb_of S18 (hin hc2_17)) (Has.at H18 (inb_of S18 (hin hc2_17)) (own_getD bs _)) (g := (mkF m 9 #[.val (.ref a1), .val (.int p2), .val (.int p3), .val (.int p4)] [(.int (p2 + p4)), (.ref a1)])) rfl rfl (hb hby d2_9) _ kt)
    show own_Fin _ _ _ _ (s₁.setTop (mkF m 10 #[.val (.ref a1), .val (.int p2), .val (.int p3), .val (.int p4)] [(.int (own_v bs (p2 + p4).toNatClampNeg))]))
    refine own_retO X0 hx (t := .int) Bd.returns rfl (Or.inl ⟨rfl, Or.inl rfl, _, rfl⟩) (hb hby d2_10) hlk ?_ (by decide) (by decide)
    show QI z h0 n0 _ s₁.heap _
    rw [e0]
    exact ⟨by rw [hz, if_pos hc2_17], N0, rfl⟩
  · refine own_go ?_ (fun tq kt => XS.icmpYes X0.here hx rfl (pc0 := 2) (pc' := 11) rfl (hb hby d2_2) rfl (flt (hc2_17 : ¬ (p4 < p3))).2.1 (by decide) (by decide) kt)
    show own_Fin _ _ _ _ (s₁.setTop (mkF m 11 #[.val (.ref a1), .val (.int p2), .val (.int p3), .val (.int p4)] []))
    refine own_go ?_ (fun tq kt => XS.iconst X0.here hx rfl (hb hby d2_11) kt)
    show own_Fin _ _ _ _ (s₁.setTop (mkF m 12 #[.val (.ref a1), .val (.int p2), .val (.int p3), .val (.int p4)] [(.int (0 : Int32))]))
    refine own_retO X0 hx (t := .int) Bd.returns rfl (Or.inl ⟨rfl, Or.inl rfl, _, rfl⟩) (hb hby d2_12) hlk ?_ (by decide) (by decide)
    show QI z h0 n0 _ s₁.heap _
    rw [e0]
    exact ⟨by rw [hz, if_neg hc2_17], N0, rfl⟩
theorem d5_0 : decode prog_6_method_5_code 0 = .ok (.iload 4, 2) := by decide +kernel
theorem d5_2 : decode prog_6_method_5_code 2 = .ok (.ifCond .lt 15, 3) := by decide +kernel
theorem d5_5 : decode prog_6_method_5_code 5 = .ok (.new 29, 3) := by decide +kernel
theorem d5_8 : decode prog_6_method_5_code 8 = .ok (.dup, 1) := by decide +kernel
theorem d5_9 : decode prog_6_method_5_code 9 = .ok (.ldc 31, 2) := by decide +kernel
theorem d5_11 : decode prog_6_method_5_code 11 = .ok (.iload 4, 2) := by decide +kernel
theorem d5_13 : decode prog_6_method_5_code 13 = .ok (.invokespecial 33, 3) := by decide +kernel
theorem d5_16 : decode prog_6_method_5_code 16 = .ok (.athrow, 1) := by decide +kernel
theorem d5_17 : decode prog_6_method_5_code 17 = .ok (.iload_n 0, 1) := by decide +kernel
theorem d5_18 : decode prog_6_method_5_code 18 = .ok (.ifCond .eq 7, 3) := by decide +kernel
theorem d5_21 : decode prog_6_method_5_code 21 = .ok (.iload_n 1, 1) := by decide +kernel
theorem d5_22 : decode prog_6_method_5_code 22 = .ok (.ifCond .eq 10, 3) := by decide +kernel
theorem d5_25 : decode prog_6_method_5_code 25 = .ok (.bipush (-2), 2) := by decide +kernel
theorem d5_27 : decode prog_6_method_5_code 27 = .ok (.istore 6, 2) := by decide +kernel
theorem d5_29 : decode prog_6_method_5_code 29 = .ok (.goto 82, 3) := by decide +kernel
theorem d5_32 : decode prog_6_method_5_code 32 = .ok (.iload_n 2, 1) := by decide +kernel
theorem d5_33 : decode prog_6_method_5_code 33 = .ok (.ifCond .ge 9, 3) := by decide +kernel
theorem d5_36 : decode prog_6_method_5_code 36 = .ok (.iconst (-1), 1) := by decide +kernel
theorem d5_37 : decode prog_6_method_5_code 37 = .ok (.istore 6, 2) := by decide +kernel
theorem d5_39 : decode prog_6_method_5_code 39 = .ok (.goto 72, 3) := by decide +kernel
theorem d5_42 : decode prog_6_method_5_code 42 = .ok (.iload_n 3, 1) := by decide +kernel
theorem d5_43 : decode prog_6_method_5_code 43 = .ok (.ifCond .lt 14, 3) := by decide +kernel
theorem d5_46 : decode prog_6_method_5_code 46 = .ok (.new 29, 3) := by decide +kernel
theorem d5_49 : decode prog_6_method_5_code 49 = .ok (.dup, 1) := by decide +kernel
theorem d5_50 : decode prog_6_method_5_code 50 = .ok (.ldc 36, 2) := by decide +kernel
theorem d5_52 : decode prog_6_method_5_code 52 = .ok (.iload_n 3, 1) := by decide +kernel
theorem d5_53 : decode prog_6_method_5_code 53 = .ok (.invokespecial 33, 3) := by decide +kernel
theorem d5_56 : decode prog_6_method_5_code 56 = .ok (.athrow, 1) := by decide +kernel
theorem d5_57 : decode prog_6_method_5_code 57 = .ok (.iload_n 2, 1) := by decide +kernel
theorem d5_58 : decode prog_6_method_5_code 58 = .ok (.ifCond .ne 22, 3) := by decide +kernel
theorem d5_61 : decode prog_6_method_5_code 61 = .ok (.new 29, 3) := by decide +kernel
theorem d5_64 : decode prog_6_method_5_code 64 = .ok (.dup, 1) := by decide +kernel
theorem d5_65 : decode prog_6_method_5_code 65 = .ok (.aload 5, 2) := by decide +kernel
theorem d5_67 : decode prog_6_method_5_code 67 = .ok (.invokevirtual 38, 3) := by decide +kernel
theorem d5_75 : decode prog_6_method_5_code 75 = .ok (.iconst 0, 1) := by decide +kernel
theorem d5_76 : decode prog_6_method_5_code 76 = .ok (.invokespecial 33, 3) := by decide +kernel
theorem d5_79 : decode prog_6_method_5_code 79 = .ok (.athrow, 1) := by decide +kernel
theorem d5_80 : decode prog_6_method_5_code 80 = .ok (.iload_n 2, 1) := by decide +kernel
theorem d5_81 : decode prog_6_method_5_code 81 = .ok (.iload_n 0, 1) := by decide +kernel
theorem d5_82 : decode prog_6_method_5_code 82 = .ok (.iconst 1, 1) := by decide +kernel
theorem d5_83 : decode prog_6_method_5_code 83 = .ok (.isub, 1) := by decide +kernel
theorem d5_84 : decode prog_6_method_5_code 84 = .ok (.if_icmp .ne 24, 3) := by decide +kernel
theorem d5_87 : decode prog_6_method_5_code 87 = .ok (.new 29, 3) := by decide +kernel
theorem d5_90 : decode prog_6_method_5_code 90 = .ok (.dup, 1) := by decide +kernel
theorem d5_91 : decode prog_6_method_5_code 91 = .ok (.aload 5, 2) := by decide +kernel
theorem d5_93 : decode prog_6_method_5_code 93 = .ok (.invokevirtual 48, 3) := by decide +kernel
theorem d5_101 : decode prog_6_method_5_code 101 = .ok (.iload_n 2, 1) := by decide +kernel
theorem d5_102 : decode prog_6_method_5_code 102 = .ok (.iconst 1, 1) := by decide +kernel
theorem d5_103 : decode prog_6_method_5_code 103 = .ok (.iadd, 1) := by decide +kernel
theorem d5_104 : decode prog_6_method_5_code 104 = .ok (.invokespecial 33, 3) := by decide +kernel
theorem d5_107 : decode prog_6_method_5_code 107 = .ok (.athrow, 1) := by decide +kernel
theorem d5_108 : decode prog_6_method_5_code 108 = .ok (.iload_n 2, 1) := by decide +kernel
theorem d5_109 : decode prog_6_method_5_code 109 = .ok (.istore 6, 2) := by decide +kernel
theorem d5_111 : decode prog_6_method_5_code 111 = .ok (.iload 6, 2) := by decide +kernel
theorem d5_113 : decode prog_6_method_5_code 113 = .ok (.ireturn, 1) := by decide +kernel
theorem pn_5 : plainFor (⟨"com/example/wolf_spider/wolfspider/EdgeListLine", "entry", "(IZIIILcom/example/wolf_spider/wolfspider/EdgeListLine$Fields;)I"⟩ : MethodName) = true := plainFor_of_name (by first | (simp [plainName, overriddenIn]; done) | decide +kernel)
set_option maxRecDepth 65536 in
set_option maxHeartbeats 40000000 in
theorem rm5 (l : Launch) (Z : State) (a0 : Array Value) (hw : ∀ d ∈ tables_1, d.before a0 Z = true) (ws : List Jvm.Cond) (p1 : Int32) (p2 : Int32) (p3 : Int32) (p4 : Int32) (p5 : Int32) (a6 : Addr) (z : Int32) (h0 : Heap) (n0 : Nat) (Z0 : n0 ≤ h0.size) (hp5 : p5 < (0 : Int32)) (hz : own_entry p1 p2 p3 p4 = some z) :
    MetFree l (⟨"com/example/wolf_spider/wolfspider/EdgeListLine", "entry", "(IZIIILcom/example/wolf_spider/wolfspider/EdgeListLine$Fields;)I"⟩ : MethodName) (head1 (Jvm.Cond.code (⟨"com/example/wolf_spider/wolfspider/EdgeListLine", "entry", "(IZIIILcom/example/wolf_spider/wolfspider/EdgeListLine$Fields;)I"⟩ : MethodName) prog_6_method_5_code 7 (some .int) :: ws) ({ frames := 0, cells := 0, slots := 0, locals := 0 } : Room)) (fun a U => a = #[(.int p1), (.int p2), (.int p3), (.int p4), (.int p5), (.ref a6)] ∧ Z.Warmed39 U.vm ∧ U.heap = h0) (fun _ _ _ _ _ => True) (fun _ U o U' => ∃ v L, o = .returned v ∧ QI z h0 n0 v U'.heap L ∧ FrameEnd U o U' L ({ frames := 0, cells := 0, slots := 0, locals := 0 } : Room).cells ({ frames := 0, cells := 0, slots := 0, locals := 0 } : Room).slots) := by
  refine MetFree.of_bodySF pn_5 hisR ?_
  intro p e s m args below meth c s₁ Bd hml0 hP hK
  obtain ⟨rfl, hZ, hh⟩ := hP
  have hx := Bd.exec
  have hby := Bd.bytes
  have hml : c.maxLocals = 7 := hml0
  have hown : s.vm.findClass "com/example/wolf_spider/wolfspider/EdgeListLine" = some m.cls := findClass_of_methodNamed Bd.named
  have hnm := (name_of_methodNamed Bd.named Bd.method).1
  have hlk : meth.locks = false := BodyLoose.notSynchronized Bd
  have X0 : Stand p l e ({ frames := 0, cells := 0, slots := 0, locals := 0 } : Room) s m #[(.int p1), (.int p2), (.int p3), (.int p4), (.int p5), (.ref a6)] below meth c s₁ [] 0 0 := Stand.of_body Bd
  have e0 : s₁.heap = h0 := by rw [← hh, Bd.state]; rfl
  have N0 := Fr.nil n0
  show own_Fin p e below (own_P (QI z h0 n0) s ({ frames := 0, cells := 0, slots := 0, locals := 0 } : Room).cells ({ frames := 0, cells := 0, slots := 0, locals := 0 } : Room).slots) (s₁.setTop (entryFrame m #[(.int p1), (.int p2), (.int p3), (.int p4), (.int p5), (.ref a6)] 7))
  rw [show entryFrame m #[(.int p1), (.int p2), (.int p3), (.int p4), (.int p5), (.ref a6)] 7 = mkF m 0 #[.val (.int p1), .val (.int p2), .val (.int p3), .val (.int p4), .val (.int p5), .val (.ref a6), .unset] [] from by first | (simp [entryFrame, mkF, argsToLocals, Value.category]; done) | rfl]
  refine own_go ?_ (fun tq kt => XS.iload X0.here hx rfl (hb hby d5_0) rfl kt)
  show own_Fin _ _ _ _ (s₁.setTop (mkF m 2 #[.val (.int p1), .val (.int p2), .val (.int p3), .val (.int p4), .val (.int p5), .val (.ref a6), .unset] [(.int p5)]))
  refine own_go ?_ (fun tq kt => XS.ifYes X0.here hx rfl (pc0 := 2) (pc' := 17) rfl (hb hby d5_2) rfl ((if0 _ _).trans (tlt (hp5 : p5 < (0 : Int32))).1) (by decide) (by decide) kt)
  show own_Fin _ _ _ _ (s₁.setTop (mkF m 17 #[.val (.int p1), .val (.int p2), .val (.int p3), .val (.int p4), .val (.int p5), .val (.ref a6), .unset] []))
  refine own_go ?_ (fun tq kt => XS.iloadN X0.here hx rfl (hb hby d5_17) rfl kt)
  show own_Fin _ _ _ _ (s₁.setTop (mkF m 18 #[.val (.int p1), .val (.int p2), .val (.int p3), .val (.int p4), .val (.int p5), .val (.ref a6), .unset] [(.int p1)]))
  by_cases hc18_25 : p1 = (0 : Int32)
  · refine own_go ?_ (fun tq kt => XS.ifYes X0.here hx rfl (pc0 := 18) (pc' := 25) rfl (hb hby d5_18) rfl ((if0 _ _).trans (teq (hc18_25 : p1 = (0 : Int32))).1) (by decide) (by decide) kt)
    show own_Fin _ _ _ _ (s₁.setTop (mkF m 25 #[.val (.int p1), .val (.int p2), .val (.int p3), .val (.int p4), .val (.int p5), .val (.ref a6), .unset] []))
    refine own_go ?_ (fun tq kt => XS.bipush X0.here hx rfl (hb hby d5_25) kt)
    show own_Fin _ _ _ _ (s₁.setTop (mkF m 27 #[.val (.int p1), .val (.int p2), .val (.int p3), .val (.int p4), .val (.int p5), .val (.ref a6), .unset] [(.int (-2 : Int32))]))
    refine own_go ?_ (fun tq kt => XS.istore X0.here hx rfl (hb hby d5_27) rfl (l' := #[.val (.int p1), .val (.int p2), .val (.int p3), .val (.int p4), .val (.int p5), .val (.ref a6), .val (.int (-2 : Int32))]) rfl kt)
    show own_Fin _ _ _ _ (s₁.setTop (mkF m 29 #[.val (.int p1), .val (.int p2), .val (.int p3), .val (.int p4), .val (.int p5), .val (.ref a6), .val (.int (-2 : Int32))] []))
    refine own_go ?_ (fun tq kt => XS.goto X0.here hx rfl (pc0 := 29) (pc' := 111) rfl (hb hby d5_29) (by decide) (by decide) kt)
    show own_Fin _ _ _ _ (s₁.setTop (mkF m 111 #[.val (.int p1), .val (.int p2), .val (.int p3), .val (.int p4), .val (.int p5), .val (.ref a6), .val (.int (-2 : Int32))] []))
    refine own_go ?_ (fun tq kt => XS.iload X0.here hx rfl (hb hby d5_111) rfl kt)
    show own_Fin _ _ _ _ (s₁.setTop (mkF m 113 #[.val (.int p1), .val (.int p2), .val (.int p3), .val (.int p4), .val (.int p5), .val (.ref a6), .val (.int (-2 : Int32))] [(.int (-2 : Int32))]))
    refine own_retO X0 hx (t := .int) Bd.returns rfl (Or.inl ⟨rfl, Or.inl rfl, _, rfl⟩) (hb hby d5_113) hlk ?_ (by decide) (by decide)
    show QI z h0 n0 _ s₁.heap _
    rw [e0]
    exact ⟨by simp only [own_entry, if_pos hc18_25] at hz; rw [Option.some.inj hz], N0, rfl⟩
  · refine own_go ?_ (fun tq kt => XS.ifNo X0.here hx rfl (hb hby d5_18) rfl ((if0 _ _).trans (feq (hc18_25 : ¬ (p1 = (0 : Int32)))).1) kt)
    show own_Fin _ _ _ _ (s₁.setTop (mkF m 21 #[.val (.int p1), .val (.int p2), .val (.int p3), .val (.int p4), .val (.int p5), .val (.ref a6), .unset] []))
    refine own_go ?_ (fun tq kt => XS.iloadN X0.here hx rfl (hb hby d5_21) rfl kt)
    show own_Fin _ _ _ _ (s₁.setTop (mkF m 22 #[.val (.int p1), .val (.int p2), .val (.int p3), .val (.int p4), .val (.int p5), .val (.ref a6), .unset] [(.int p2)]))
    by_cases hc22_26 : p2 = (0 : Int32)
    · refine own_go ?_ (fun tq kt => XS.ifYes X0.here hx rfl (pc0 := 22) (pc' := 32) rfl (hb hby d5_22) rfl ((if0 _ _).trans (teq (hc22_26 : p2 = (0 : Int32))).1) (by decide) (by decide) kt)
      show own_Fin _ _ _ _ (s₁.setTop (mkF m 32 #[.val (.int p1), .val (.int p2), .val (.int p3), .val (.int p4), .val (.int p5), .val (.ref a6), .unset] []))
      refine own_go ?_ (fun tq kt => XS.iloadN X0.here hx rfl (hb hby d5_32) rfl kt)
      show own_Fin _ _ _ _ (s₁.setTop (mkF m 33 #[.val (.int p1), .val (.int p2), .val (.int p3), .val (.int p4), .val (.int p5), .val (.ref a6), .unset] [(.int p3)]))
      by_cases hc33_27 : p3 < (0 : Int32)
      · refine own_go ?_ (fun tq kt => XS.ifNo X0.here hx rfl (hb hby d5_33) rfl ((if0 _ _).trans (tlt (hc33_27 : p3 < (0 : Int32))).2.1) kt)
        show own_Fin _ _ _ _ (s₁.setTop (mkF m 36 #[.val (.int p1), .val (.int p2), .val (.int p3), .val (.int p4), .val (.int p5), .val (.ref a6), .unset] []))
        refine own_go ?_ (fun tq kt => XS.iconst X0.here hx rfl (hb hby d5_36) kt)
        show own_Fin _ _ _ _ (s₁.setTop (mkF m 37 #[.val (.int p1), .val (.int p2), .val (.int p3), .val (.int p4), .val (.int p5), .val (.ref a6), .unset] [(.int (-1 : Int32))]))
        refine own_go ?_ (fun tq kt => XS.istore X0.here hx rfl (hb hby d5_37) rfl (l' := #[.val (.int p1), .val (.int p2), .val (.int p3), .val (.int p4), .val (.int p5), .val (.ref a6), .val (.int (-1 : Int32))]) rfl kt)
        show own_Fin _ _ _ _ (s₁.setTop (mkF m 39 #[.val (.int p1), .val (.int p2), .val (.int p3), .val (.int p4), .val (.int p5), .val (.ref a6), .val (.int (-1 : Int32))] []))
        refine own_go ?_ (fun tq kt => XS.goto X0.here hx rfl (pc0 := 39) (pc' := 111) rfl (hb hby d5_39) (by decide) (by decide) kt)
        show own_Fin _ _ _ _ (s₁.setTop (mkF m 111 #[.val (.int p1), .val (.int p2), .val (.int p3), .val (.int p4), .val (.int p5), .val (.ref a6), .val (.int (-1 : Int32))] []))
        refine own_go ?_ (fun tq kt => XS.iload X0.here hx rfl (hb hby d5_111) rfl kt)
        show own_Fin _ _ _ _ (s₁.setTop (mkF m 113 #[.val (.int p1), .val (.int p2), .val (.int p3), .val (.int p4), .val (.int p5), .val (.ref a6), .val (.int (-1 : Int32))] [(.int (-1 : Int32))]))
        refine own_retO X0 hx (t := .int) Bd.returns rfl (Or.inl ⟨rfl, Or.inl rfl, _, rfl⟩) (hb hby d5_113) hlk ?_ (by decide) (by decide)
        show QI z h0 n0 _ s₁.heap _
        rw [e0]
        exact ⟨by simp only [own_entry, if_neg hc18_25, if_pos hc22_26, if_pos hc33_27] at hz; rw [Option.some.inj hz], N0, rfl⟩
      · refine own_go ?_ (fun tq kt => XS.ifYes X0.here hx rfl (pc0 := 33) (pc' := 42) rfl (hb hby d5_33) rfl ((if0 _ _).trans (flt (hc33_27 : ¬ (p3 < (0 : Int32)))).2.1) (by decide) (by decide) kt)
        show own_Fin _ _ _ _ (s₁.setTop (mkF m 42 #[.val (.int p1), .val (.int p2), .val (.int p3), .val (.int p4), .val (.int p5), .val (.ref a6), .unset] []))
        refine own_go ?_ (fun tq kt => XS.iloadN X0.here hx rfl (hb hby d5_42) rfl kt)
        show own_Fin _ _ _ _ (s₁.setTop (mkF m 43 #[.val (.int p1), .val (.int p2), .val (.int p3), .val (.int p4), .val (.int p5), .val (.ref a6), .unset] [(.int p4)]))
        by_cases hc43_28 : p4 < (0 : Int32)
        · refine own_go ?_ (fun tq kt => XS.ifYes X0.here hx rfl (pc0 := 43) (pc' := 57) rfl (hb hby d5_43) rfl ((if0 _ _).trans (tlt (hc43_28 : p4 < (0 : Int32))).1) (by decide) (by decide) kt)
          show own_Fin _ _ _ _ (s₁.setTop (mkF m 57 #[.val (.int p1), .val (.int p2), .val (.int p3), .val (.int p4), .val (.int p5), .val (.ref a6), .unset] []))
          refine own_go ?_ (fun tq kt => XS.iloadN X0.here hx rfl (hb hby d5_57) rfl kt)
          show own_Fin _ _ _ _ (s₁.setTop (mkF m 58 #[.val (.int p1), .val (.int p2), .val (.int p3), .val (.int p4), .val (.int p5), .val (.ref a6), .unset] [(.int p3)]))
          by_cases hc58_29 : p3 = (0 : Int32)
          · refine own_go ?_ (fun tq kt => XS.ifNo X0.here hx rfl (hb hby d5_58) rfl ((if0 _ _).trans (teq (hc58_29 : p3 = (0 : Int32))).2) kt)
            show own_Fin _ _ _ _ (s₁.setTop (mkF m 61 #[.val (.int p1), .val (.int p2), .val (.int p3), .val (.int p4), .val (.int p5), .val (.ref a6), .unset] []))
            exfalso
            simp only [own_entry, if_neg hc18_25, if_pos hc22_26, if_neg hc33_27, if_pos hc43_28, if_pos hc58_29, reduceCtorEq] at hz
          · refine own_go ?_ (fun tq kt => XS.ifYes X0.here hx rfl (pc0 := 58) (pc' := 80) rfl (hb hby d5_58) rfl ((if0 _ _).trans (feq (hc58_29 : ¬ (p3 = (0 : Int32)))).2) (by decide) (by decide) kt)
            show own_Fin _ _ _ _ (s₁.setTop (mkF m 80 #[.val (.int p1), .val (.int p2), .val (.int p3), .val (.int p4), .val (.int p5), .val (.ref a6), .unset] []))
            refine own_go ?_ (fun tq kt => XS.iloadN X0.here hx rfl (hb hby d5_80) rfl kt)
            show own_Fin _ _ _ _ (s₁.setTop (mkF m 81 #[.val (.int p1), .val (.int p2), .val (.int p3), .val (.int p4), .val (.int p5), .val (.ref a6), .unset] [(.int p3)]))
            refine own_go ?_ (fun tq kt => XS.iloadN X0.here hx rfl (hb hby d5_81) rfl kt)
            show own_Fin _ _ _ _ (s₁.setTop (mkF m 82 #[.val (.int p1), .val (.int p2), .val (.int p3), .val (.int p4), .val (.int p5), .val (.ref a6), .unset] [(.int p1), (.int p3)]))
            refine own_go ?_ (fun tq kt => XS.iconst X0.here hx rfl (hb hby d5_82) kt)
            show own_Fin _ _ _ _ (s₁.setTop (mkF m 83 #[.val (.int p1), .val (.int p2), .val (.int p3), .val (.int p4), .val (.int p5), .val (.ref a6), .unset] [(.int (1 : Int32)), (.int p1), (.int p3)]))
            refine own_go ?_ (fun tq kt => XS.isub X0.here hx rfl (hb hby d5_83) rfl kt)
            show own_Fin _ _ _ _ (s₁.setTop (mkF m 84 #[.val (.int p1), .val (.int p2), .val (.int p3), .val (.int p4), .val (.int p5), .val (.ref a6), .unset] [(.int (p1 - (1 : Int32))), (.int p3)]))
            by_cases hc84_30 : p3 = (p1 - (1 : Int32))
            · refine own_go ?_ (fun tq kt => XS.icmpNo X0.here hx rfl (hb hby d5_84) rfl (teq (hc84_30 : p3 = (p1 - (1 : Int32)))).2 kt)
              show own_Fin _ _ _ _ (s₁.setTop (mkF m 87 #[.val (.int p1), .val (.int p2), .val (.int p3), .val (.int p4), .val (.int p5), .val (.ref a6), .unset] []))
              exfalso
              simp only [own_entry, if_neg hc18_25, if_pos hc22_26, if_neg hc33_27, if_pos hc43_28, if_neg hc58_29, if_pos hc84_30, reduceCtorEq] at hz
            · refine own_go ?_ (fun tq kt => XS.icmpYes X0.here hx rfl (pc0 := 84) (pc' := 108) rfl (hb hby d5_84) rfl (feq (hc84_30 : ¬ (p3 = (p1 - (1 : Int32))))).2 (by decide) (by decide) kt)
              show own_Fin _ _ _ _ (s₁.setTop (mkF m 108 #[.val (.int p1), .val (.int p2), .val (.int p3), .val (.int p4), .val (.int p5), .val (.ref a6), .unset] []))
              refine own_go ?_ (fun tq kt => XS.iloadN X0.here hx rfl (hb hby d5_108) rfl kt)
              show own_Fin _ _ _ _ (s₁.setTop (mkF m 109 #[.val (.int p1), .val (.int p2), .val (.int p3), .val (.int p4), .val (.int p5), .val (.ref a6), .unset] [(.int p3)]))
              refine own_go ?_ (fun tq kt => XS.istore X0.here hx rfl (hb hby d5_109) rfl (l' := #[.val (.int p1), .val (.int p2), .val (.int p3), .val (.int p4), .val (.int p5), .val (.ref a6), .val (.int p3)]) rfl kt)
              show own_Fin _ _ _ _ (s₁.setTop (mkF m 111 #[.val (.int p1), .val (.int p2), .val (.int p3), .val (.int p4), .val (.int p5), .val (.ref a6), .val (.int p3)] []))
              refine own_go ?_ (fun tq kt => XS.iload X0.here hx rfl (hb hby d5_111) rfl kt)
              show own_Fin _ _ _ _ (s₁.setTop (mkF m 113 #[.val (.int p1), .val (.int p2), .val (.int p3), .val (.int p4), .val (.int p5), .val (.ref a6), .val (.int p3)] [(.int p3)]))
              refine own_retO X0 hx (t := .int) Bd.returns rfl (Or.inl ⟨rfl, Or.inl rfl, _, rfl⟩) (hb hby d5_113) hlk ?_ (by decide) (by decide)
              show QI z h0 n0 _ s₁.heap _
              rw [e0]
              exact ⟨by simp only [own_entry, if_neg hc18_25, if_pos hc22_26, if_neg hc33_27, if_pos hc43_28, if_neg hc58_29, if_neg hc84_30] at hz; rw [Option.some.inj hz], N0, rfl⟩
        · refine own_go ?_ (fun tq kt => XS.ifNo X0.here hx rfl (hb hby d5_43) rfl ((if0 _ _).trans (flt (hc43_28 : ¬ (p4 < (0 : Int32)))).1) kt)
          show own_Fin _ _ _ _ (s₁.setTop (mkF m 46 #[.val (.int p1), .val (.int p2), .val (.int p3), .val (.int p4), .val (.int p5), .val (.ref a6), .unset] []))
          exfalso
          simp only [own_entry, if_neg hc18_25, if_pos hc22_26, if_neg hc33_27, if_neg hc43_28, reduceCtorEq] at hz
    · refine own_go ?_ (fun tq kt => XS.ifNo X0.here hx rfl (hb hby d5_22) rfl ((if0 _ _).trans (feq (hc22_26 : ¬ (p2 = (0 : Int32)))).1) kt)
      show own_Fin _ _ _ _ (s₁.setTop (mkF m 25 #[.val (.int p1), .val (.int p2), .val (.int p3), .val (.int p4), .val (.int p5), .val (.ref a6), .unset] []))
      refine own_go ?_ (fun tq kt => XS.bipush X0.here hx rfl (hb hby d5_25) kt)
      show own_Fin _ _ _ _ (s₁.setTop (mkF m 27 #[.val (.int p1), .val (.int p2), .val (.int p3), .val (.int p4), .val (.int p5), .val (.ref a6), .unset] [(.int (-2 : Int32))]))
      refine own_go ?_ (fun tq kt => XS.istore X0.here hx rfl (hb hby d5_27) rfl (l' := #[.val (.int p1), .val (.int p2), .val (.int p3), .val (.int p4), .val (.int p5), .val (.ref a6), .val (.int (-2 : Int32))]) rfl kt)
      show own_Fin _ _ _ _ (s₁.setTop (mkF m 29 #[.val (.int p1), .val (.int p2), .val (.int p3), .val (.int p4), .val (.int p5), .val (.ref a6), .val (.int (-2 : Int32))] []))
      refine own_go ?_ (fun tq kt => XS.goto X0.here hx rfl (pc0 := 29) (pc' := 111) rfl (hb hby d5_29) (by decide) (by decide) kt)
      show own_Fin _ _ _ _ (s₁.setTop (mkF m 111 #[.val (.int p1), .val (.int p2), .val (.int p3), .val (.int p4), .val (.int p5), .val (.ref a6), .val (.int (-2 : Int32))] []))
      refine own_go ?_ (fun tq kt => XS.iload X0.here hx rfl (hb hby d5_111) rfl kt)
      show own_Fin _ _ _ _ (s₁.setTop (mkF m 113 #[.val (.int p1), .val (.int p2), .val (.int p3), .val (.int p4), .val (.int p5), .val (.ref a6), .val (.int (-2 : Int32))] [(.int (-2 : Int32))]))
      refine own_retO X0 hx (t := .int) Bd.returns rfl (Or.inl ⟨rfl, Or.inl rfl, _, rfl⟩) (hb hby d5_113) hlk ?_ (by decide) (by decide)
      show QI z h0 n0 _ s₁.heap _
      rw [e0]
      exact ⟨by simp only [own_entry, if_neg hc18_25, if_neg hc22_26] at hz; rw [Option.some.inj hz], N0, rfl⟩
theorem d4_0 : decode prog_6_method_3_code 0 = .ok (.iconst (-1), 1) := by decide +kernel
theorem d4_1 : decode prog_6_method_3_code 1 = .ok (.istore 4, 2) := by decide +kernel
theorem d4_3 : decode prog_6_method_3_code 3 = .ok (.iconst (-1), 1) := by decide +kernel
theorem d4_4 : decode prog_6_method_3_code 4 = .ok (.istore 5, 2) := by decide +kernel
theorem d4_6 : decode prog_6_method_3_code 6 = .ok (.iconst (-1), 1) := by decide +kernel
theorem d4_7 : decode prog_6_method_3_code 7 = .ok (.istore 6, 2) := by decide +kernel
theorem d4_9 : decode prog_6_method_3_code 9 = .ok (.iload_n 1, 1) := by decide +kernel
theorem d4_10 : decode prog_6_method_3_code 10 = .ok (.istore 7, 2) := by decide +kernel
theorem d4_12 : decode prog_6_method_3_code 12 = .ok (.iload 7, 2) := by decide +kernel
theorem d4_14 : decode prog_6_method_3_code 14 = .ok (.iload_n 2, 1) := by decide +kernel
theorem d4_15 : decode prog_6_method_3_code 15 = .ok (.if_icmp .ge 82, 3) := by decide +kernel
theorem d4_18 : decode prog_6_method_3_code 18 = .ok (.iload 6, 2) := by decide +kernel
theorem d4_20 : decode prog_6_method_3_code 20 = .ok (.ifCond .ge 77, 3) := by decide +kernel
theorem d4_23 : decode prog_6_method_3_code 23 = .ok (.aload_n 0, 1) := by decide +kernel
theorem d4_24 : decode prog_6_method_3_code 24 = .ok (.iload 7, 2) := by decide +kernel
theorem d4_26 : decode prog_6_method_3_code 26 = .ok (.baload, 1) := by decide +kernel
theorem d4_27 : decode prog_6_method_3_code 27 = .ok (.istore 8, 2) := by decide +kernel
theorem d4_29 : decode prog_6_method_3_code 29 = .ok (.iload 8, 2) := by decide +kernel
theorem d4_31 : decode prog_6_method_3_code 31 = .ok (.bipush 9, 2) := by decide +kernel
theorem d4_33 : decode prog_6_method_3_code 33 = .ok (.if_icmp .ne 17, 3) := by decide +kernel
theorem d4_36 : decode prog_6_method_3_code 36 = .ok (.iload 4, 2) := by decide +kernel
theorem d4_38 : decode prog_6_method_3_code 38 = .ok (.ifCond .ge 12, 3) := by decide +kernel
theorem d4_41 : decode prog_6_method_3_code 41 = .ok (.iload 7, 2) := by decide +kernel
theorem d4_43 : decode prog_6_method_3_code 43 = .ok (.iload_n 1, 1) := by decide +kernel
theorem d4_44 : decode prog_6_method_3_code 44 = .ok (.isub, 1) := by decide +kernel
theorem d4_45 : decode prog_6_method_3_code 45 = .ok (.istore 4, 2) := by decide +kernel
theorem d4_47 : decode prog_6_method_3_code 47 = .ok (.goto 44, 3) := by decide +kernel
theorem d4_50 : decode prog_6_method_3_code 50 = .ok (.iload 8, 2) := by decide +kernel
theorem d4_52 : decode prog_6_method_3_code 52 = .ok (.bipush 9, 2) := by decide +kernel
theorem d4_54 : decode prog_6_method_3_code 54 = .ok (.if_icmp .ne 17, 3) := by decide +kernel
theorem d4_57 : decode prog_6_method_3_code 57 = .ok (.iload 5, 2) := by decide +kernel
theorem d4_59 : decode prog_6_method_3_code 59 = .ok (.ifCond .ge 12, 3) := by decide +kernel
theorem d4_62 : decode prog_6_method_3_code 62 = .ok (.iload 7, 2) := by decide +kernel
theorem d4_64 : decode prog_6_method_3_code 64 = .ok (.iload_n 1, 1) := by decide +kernel
theorem d4_65 : decode prog_6_method_3_code 65 = .ok (.isub, 1) := by decide +kernel
theorem d4_66 : decode prog_6_method_3_code 66 = .ok (.istore 5, 2) := by decide +kernel
theorem d4_68 : decode prog_6_method_3_code 68 = .ok (.goto 23, 3) := by decide +kernel
theorem d4_71 : decode prog_6_method_3_code 71 = .ok (.iload 8, 2) := by decide +kernel
theorem d4_73 : decode prog_6_method_3_code 73 = .ok (.bipush 10, 2) := by decide +kernel
theorem d4_75 : decode prog_6_method_3_code 75 = .ok (.if_icmp .eq 10, 3) := by decide +kernel
theorem d4_78 : decode prog_6_method_3_code 78 = .ok (.iload 8, 2) := by decide +kernel
theorem d4_80 : decode prog_6_method_3_code 80 = .ok (.bipush 13, 2) := by decide +kernel
theorem d4_82 : decode prog_6_method_3_code 82 = .ok (.if_icmp .ne 9, 3) := by decide +kernel
theorem d4_85 : decode prog_6_method_3_code 85 = .ok (.iload 7, 2) := by decide +kernel
theorem d4_87 : decode prog_6_method_3_code 87 = .ok (.iload_n 1, 1) := by decide +kernel
theorem d4_88 : decode prog_6_method_3_code 88 = .ok (.isub, 1) := by decide +kernel
theorem d4_89 : decode prog_6_method_3_code 89 = .ok (.istore 6, 2) := by decide +kernel
theorem d4_91 : decode prog_6_method_3_code 91 = .ok (.iinc 7 1, 3) := by decide +kernel
theorem d4_94 : decode prog_6_method_3_code 94 = .ok (.goto (-82), 3) := by decide +kernel
theorem d4_97 : decode prog_6_method_3_code 97 = .ok (.iload_n 2, 1) := by decide +kernel
theorem d4_98 : decode prog_6_method_3_code 98 = .ok (.iload_n 1, 1) := by decide +kernel
theorem d4_99 : decode prog_6_method_3_code 99 = .ok (.if_icmp .le 15, 3) := by decide +kernel
theorem d4_102 : decode prog_6_method_3_code 102 = .ok (.aload_n 0, 1) := by decide +kernel
theorem d4_103 : decode prog_6_method_3_code 103 = .ok (.iload_n 1, 1) := by decide +kernel
theorem d4_104 : decode prog_6_method_3_code 104 = .ok (.baload, 1) := by decide +kernel
theorem d4_105 : decode prog_6_method_3_code 105 = .ok (.bipush 35, 2) := by decide +kernel
theorem d4_107 : decode prog_6_method_3_code 107 = .ok (.if_icmp .ne 7, 3) := by decide +kernel
theorem d4_110 : decode prog_6_method_3_code 110 = .ok (.iconst 1, 1) := by decide +kernel
theorem d4_111 : decode prog_6_method_3_code 111 = .ok (.goto 4, 3) := by decide +kernel
theorem d4_114 : decode prog_6_method_3_code 114 = .ok (.iconst 0, 1) := by decide +kernel
theorem d4_115 : decode prog_6_method_3_code 115 = .ok (.istore 7, 2) := by decide +kernel
theorem d4_117 : decode prog_6_method_3_code 117 = .ok (.iload_n 2, 1) := by decide +kernel
theorem d4_118 : decode prog_6_method_3_code 118 = .ok (.iload_n 1, 1) := by decide +kernel
theorem d4_119 : decode prog_6_method_3_code 119 = .ok (.isub, 1) := by decide +kernel
theorem d4_120 : decode prog_6_method_3_code 120 = .ok (.iload 7, 2) := by decide +kernel
theorem d4_122 : decode prog_6_method_3_code 122 = .ok (.iload 4, 2) := by decide +kernel
theorem d4_124 : decode prog_6_method_3_code 124 = .ok (.iload 5, 2) := by decide +kernel
theorem d4_126 : decode prog_6_method_3_code 126 = .ok (.iload 6, 2) := by decide +kernel
theorem d4_128 : decode prog_6_method_3_code 128 = .ok (.aload_n 3, 1) := by decide +kernel
theorem d4_129 : decode prog_6_method_3_code 129 = .ok (.invokestatic 25, 3) := by decide +kernel
theorem d4_132 : decode prog_6_method_3_code 132 = .ok (.ireturn, 1) := by decide +kernel
set_option maxRecDepth 65536 in
set_option maxHeartbeats 40000000 in
theorem own_loop {p : Program} {l : Launch} {e : Env} {R : Room} {s : State} {m : MethodId} {args : Array Value} {below : List Frame} {meth : Method} {c : Code} {Z : State} {a0 : Array Value} {P : Outcome → State → Prop} {T : State} {locs : List Loc} {cells slots : Nat} {h0 : Heap}
    (hx : p.tables.exec = Jvm.exec) (hZ : Z.Warmed39 s.vm) (hw : ∀ d ∈ tables_1, d.before a0 Z = true) (hby : c.code = prog_6_method_3_code) (hml : c.maxLocals = 9) (hown : s.vm.findClass "com/example/wolf_spider/wolfspider/EdgeListLine" = some m.cls) (X0 : Stand p l e R s m args below meth c T locs cells slots) (e0 : T.heap = h0) (a1 a4 : Addr) (k0 : ClassId) (bs : List Int32) (V : Arv Z h0 a1 k0 .byte (6 : Int32) (bs.map Value.int) (.int (0 : Int32))) (st n : Nat) (hst : st + n ≤ 6) (hnb : ∀ i, st ≤ i → i < st + n → ¬ own_v bs i = 10 ∧ ¬ own_v bs i = 13) :
    ∀ (k i : Nat) (f g : Int32) (s8 : Slot), st ≤ i → i + k = st + n → RoadKit.One s8 → (∀ s8', RoadKit.One s8' → own_Fin p e below P (T.setTop (mkF m 97 #[.val (.ref a1), .val (.int (Int32.ofNat st)), .val (.int (Int32.ofNat (st + n))), .val (.ref a4), .val (.int (own_tabs (own_v bs) st k i f g).1), .val (.int (own_tabs (own_v bs) st k i f g).2), .val (.int (-1 : Int32)), .val (.int (Int32.ofNat (st + n))), s8'] []))) → own_Fin p e below P (T.setTop (mkF m 12 #[.val (.ref a1), .val (.int (Int32.ofNat st)), .val (.int (Int32.ofNat (st + n))), .val (.ref a4), .val (.int f), .val (.int g), .val (.int (-1 : Int32)), .val (.int (Int32.ofNat i)), s8] [])) := by
  intro k
  induction k with
  | zero =>
    intro i f g s8 hsi hik h8 K
    obtain rfl : i = st + n := by omega
    refine own_go ?_ (fun tq kt => XS.iload X0.here hx rfl (hb hby d4_12) rfl kt)
    show own_Fin _ _ _ _ (T.setTop (mkF m 14 #[.val (.ref a1), .val (.int (Int32.ofNat st)), .val (.int (Int32.ofNat (st + n))), .val (.ref a4), .val (.int f), .val (.int g), .val (.int (-1 : Int32)), .val (.int (Int32.ofNat (st + n))), s8] [(.int (Int32.ofNat (st + n)))]))
    refine own_go ?_ (fun tq kt => XS.iloadN X0.here hx rfl (hb hby d4_14) rfl kt)
    show own_Fin _ _ _ _ (T.setTop (mkF m 15 #[.val (.ref a1), .val (.int (Int32.ofNat st)), .val (.int (Int32.ofNat (st + n))), .val (.ref a4), .val (.int f), .val (.int g), .val (.int (-1 : Int32)), .val (.int (Int32.ofNat (st + n))), s8] [(.int (Int32.ofNat (st + n))), (.int (Int32.ofNat (st + n)))]))
    refine own_go ?_ (fun tq kt => XS.icmpYes X0.here hx rfl (pc0 := 15) (pc' := 97) rfl (hb hby d4_15) rfl (flt (Int32.lt_irrefl : ¬ ((Int32.ofNat (st + n)) < (Int32.ofNat (st + n))))).2.1 (by decide) (by decide) kt)
    show own_Fin _ _ _ _ (T.setTop (mkF m 97 #[.val (.ref a1), .val (.int (Int32.ofNat st)), .val (.int (Int32.ofNat (st + n))), .val (.ref a4), .val (.int f), .val (.int g), .val (.int (-1 : Int32)), .val (.int (Int32.ofNat (st + n))), s8] []))
    exact K s8 h8
  | succ k ih =>
    intro i f g s8 hsi hik h8 K
    have hi6 : i < 6 := by omega
    have hbk := hnb i hsi (by omega)
    have hlt : Int32.ofNat i < Int32.ofNat (st + n) := (own_ltN (by omega) (by omega)).mpr (by omega)
    refine own_go ?_ (fun tq kt => XS.iload X0.here hx rfl (hb hby d4_12) rfl kt)
    show own_Fin _ _ _ _ (T.setTop (mkF m 14 #[.val (.ref a1), .val (.int (Int32.ofNat st)), .val (.int (Int32.ofNat (st + n))), .val (.ref a4), .val (.int f), .val (.int g), .val (.int (-1 : Int32)), .val (.int (Int32.ofNat i)), s8] [(.int (Int32.ofNat i))]))
    refine own_go ?_ (fun tq kt => XS.iloadN X0.here hx rfl (hb hby d4_14) rfl kt)
    show own_Fin _ _ _ _ (T.setTop (mkF m 15 #[.val (.ref a1), .val (.int (Int32.ofNat st)), .val (.int (Int32.ofNat (st + n))), .val (.ref a4), .val (.int f), .val (.int g), .val (.int (-1 : Int32)), .val (.int (Int32.ofNat i)), s8] [(.int (Int32.ofNat (st + n))), (.int (Int32.ofNat i))]))
    refine own_go ?_ (fun tq kt => XS.icmpNo X0.here hx rfl (hb hby d4_15) rfl (tlt (hlt : (Int32.ofNat i) < (Int32.ofNat (st + n)))).2.1 kt)
    show own_Fin _ _ _ _ (T.setTop (mkF m 18 #[.val (.ref a1), .val (.int (Int32.ofNat st)), .val (.int (Int32.ofNat (st + n))), .val (.ref a4), .val (.int f), .val (.int g), .val (.int (-1 : Int32)), .val (.int (Int32.ofNat i)), s8] []))
    refine own_go ?_ (fun tq kt => XS.iload X0.here hx rfl (hb hby d4_18) rfl kt)
    show own_Fin _ _ _ _ (T.setTop (mkF m 20 #[.val (.ref a1), .val (.int (Int32.ofNat st)), .val (.int (Int32.ofNat (st + n))), .val (.ref a4), .val (.int f), .val (.int g), .val (.int (-1 : Int32)), .val (.int (Int32.ofNat i)), s8] [(.int (-1 : Int32))]))
    refine own_go ?_ (fun tq kt => XS.ifNo X0.here hx rfl (hb hby d4_20) rfl ((if0 _ _).trans (tlt ((by decide) : (-1 : Int32) < (0 : Int32))).2.1) kt)
    show own_Fin _ _ _ _ (T.setTop (mkF m 23 #[.val (.ref a1), .val (.int (Int32.ofNat st)), .val (.int (Int32.ofNat (st + n))), .val (.ref a4), .val (.int f), .val (.int g), .val (.int (-1 : Int32)), .val (.int (Int32.ofNat i)), s8] []))
    refine own_go ?_ (fun tq kt => XS.aloadN X0.here hx rfl (hb hby d4_23) rfl rfl kt)
    show own_Fin _ _ _ _ (T.setTop (mkF m 24 #[.val (.ref a1), .val (.int (Int32.ofNat st)), .val (.int (Int32.ofNat (st + n))), .val (.ref a4), .val (.int f), .val (.int g), .val (.int (-1 : Int32)), .val (.int (Int32.ofNat i)), s8] [(.ref a1)]))
    refine own_go ?_ (fun tq kt => XS.iload X0.here hx rfl (hb hby d4_24) rfl kt)
    show own_Fin _ _ _ _ (T.setTop (mkF m 26 #[.val (.ref a1), .val (.int (Int32.ofNat st)), .val (.int (Int32.ofNat (st + n))), .val (.ref a4), .val (.int f), .val (.int g), .val (.int (-1 : Int32)), .val (.int (Int32.ofNat i)), s8] [(.int (Int32.ofNat i)), (.ref a1)]))
    obtain ⟨cl31, Ar31, q31, S31, M31, H31, G31⟩ := id V
    refine own_go ?_ (fun tq kt => X0.baloadBytes hx (j := (Int32.ofNat i)) (v := (.int (own_v bs i))) (by rw [e0]; exact Ar31.1) (State.isArrayOf_alike hZ.alike Ar31.2.1) Ar31.2.2 (inb_of S31 (own_in6 hi6)) (Has.at H31 (inb_of S31 (own_in6 hi6)) (by rw [own_clamp (by omega)]; exact own_getD bs i)) (g := (mkF m 26 #[.val (.ref a1), .val (.int (Int32.ofNat st)), .val (.int (Int32.ofNat (st + n))), .val (.ref a4), .val (.int f), .val (.int g), .val (.int (-1 : Int32)), .val (.int (Int32.ofNat i)), s8] [(.int (Int32.ofNat i)), (.ref a1)])) rfl rfl (hb hby d4_26) _ kt)
    show own_Fin _ _ _ _ (T.setTop (mkF m 27 #[.val (.ref a1), .val (.int (Int32.ofNat st)), .val (.int (Int32.ofNat (st + n))), .val (.ref a4), .val (.int f), .val (.int g), .val (.int (-1 : Int32)), .val (.int (Int32.ofNat i)), s8] [(.int (own_v bs i))]))
    refine own_go ?_ (fun tq kt => XS.istore X0.here hx rfl (hb hby d4_27) rfl (l' := #[.val (.ref a1), .val (.int (Int32.ofNat st)), .val (.int (Int32.ofNat (st + n))), .val (.ref a4), .val (.int f), .val (.int g), .val (.int (-1 : Int32)), .val (.int (Int32.ofNat i)), .val (.int (own_v bs i))]) (by rcases h8 with hs | ⟨ws_, hs, hs'⟩ <;> subst hs <;> first | rfl | (cases ws_ <;> first | rfl | (simp [Value.category] at hs'))) kt)
    show own_Fin _ _ _ _ (T.setTop (mkF m 29 #[.val (.ref a1), .val (.int (Int32.ofNat st)), .val (.int (Int32.ofNat (st + n))), .val (.ref a4), .val (.int f), .val (.int g), .val (.int (-1 : Int32)), .val (.int (Int32.ofNat i)), .val (.int (own_v bs i))] []))
    refine own_go ?_ (fun tq kt => XS.iload X0.here hx rfl (hb hby d4_29) rfl kt)
    show own_Fin _ _ _ _ (T.setTop (mkF m 31 #[.val (.ref a1), .val (.int (Int32.ofNat st)), .val (.int (Int32.ofNat (st + n))), .val (.ref a4), .val (.int f), .val (.int g), .val (.int (-1 : Int32)), .val (.int (Int32.ofNat i)), .val (.int (own_v bs i))] [(.int (own_v bs i))]))
    refine own_go ?_ (fun tq kt => XS.bipush X0.here hx rfl (hb hby d4_31) kt)
    show own_Fin _ _ _ _ (T.setTop (mkF m 33 #[.val (.ref a1), .val (.int (Int32.ofNat st)), .val (.int (Int32.ofNat (st + n))), .val (.ref a4), .val (.int f), .val (.int g), .val (.int (-1 : Int32)), .val (.int (Int32.ofNat i)), .val (.int (own_v bs i))] [(.int (9 : Int32)), (.int (own_v bs i))]))
    by_cases hc33_32 : (own_v bs i) = (9 : Int32)
    · refine own_go ?_ (fun tq kt => XS.icmpNo X0.here hx rfl (hb hby d4_33) rfl (teq (hc33_32 : (own_v bs i) = (9 : Int32))).2 kt)
      show own_Fin _ _ _ _ (T.setTop (mkF m 36 #[.val (.ref a1), .val (.int (Int32.ofNat st)), .val (.int (Int32.ofNat (st + n))), .val (.ref a4), .val (.int f), .val (.int g), .val (.int (-1 : Int32)), .val (.int (Int32.ofNat i)), .val (.int (own_v bs i))] []))
      refine own_go ?_ (fun tq kt => XS.iload X0.here hx rfl (hb hby d4_36) rfl kt)
      show own_Fin _ _ _ _ (T.setTop (mkF m 38 #[.val (.ref a1), .val (.int (Int32.ofNat st)), .val (.int (Int32.ofNat (st + n))), .val (.ref a4), .val (.int f), .val (.int g), .val (.int (-1 : Int32)), .val (.int (Int32.ofNat i)), .val (.int (own_v bs i))] [(.int f)]))
      by_cases hc38_33 : f < (0 : Int32)
      · refine own_go ?_ (fun tq kt => XS.ifNo X0.here hx rfl (hb hby d4_38) rfl ((if0 _ _).trans (tlt (hc38_33 : f < (0 : Int32))).2.1) kt)
        show own_Fin _ _ _ _ (T.setTop (mkF m 41 #[.val (.ref a1), .val (.int (Int32.ofNat st)), .val (.int (Int32.ofNat (st + n))), .val (.ref a4), .val (.int f), .val (.int g), .val (.int (-1 : Int32)), .val (.int (Int32.ofNat i)), .val (.int (own_v bs i))] []))
        refine own_go ?_ (fun tq kt => XS.iload X0.here hx rfl (hb hby d4_41) rfl kt)
        show own_Fin _ _ _ _ (T.setTop (mkF m 43 #[.val (.ref a1), .val (.int (Int32.ofNat st)), .val (.int (Int32.ofNat (st + n))), .val (.ref a4), .val (.int f), .val (.int g), .val (.int (-1 : Int32)), .val (.int (Int32.ofNat i)), .val (.int (own_v bs i))] [(.int (Int32.ofNat i))]))
        refine own_go ?_ (fun tq kt => XS.iloadN X0.here hx rfl (hb hby d4_43) rfl kt)
        show own_Fin _ _ _ _ (T.setTop (mkF m 44 #[.val (.ref a1), .val (.int (Int32.ofNat st)), .val (.int (Int32.ofNat (st + n))), .val (.ref a4), .val (.int f), .val (.int g), .val (.int (-1 : Int32)), .val (.int (Int32.ofNat i)), .val (.int (own_v bs i))] [(.int (Int32.ofNat st)), (.int (Int32.ofNat i))]))
        refine own_go ?_ (fun tq kt => XS.isub X0.here hx rfl (hb hby d4_44) rfl kt)
        show own_Fin _ _ _ _ (T.setTop (mkF m 45 #[.val (.ref a1), .val (.int (Int32.ofNat st)), .val (.int (Int32.ofNat (st + n))), .val (.ref a4), .val (.int f), .val (.int g), .val (.int (-1 : Int32)), .val (.int (Int32.ofNat i)), .val (.int (own_v bs i))] [(.int ((Int32.ofNat i) - (Int32.ofNat st)))]))
        refine own_go ?_ (fun tq kt => XS.istore X0.here hx rfl (hb hby d4_45) rfl (l' := #[.val (.ref a1), .val (.int (Int32.ofNat st)), .val (.int (Int32.ofNat (st + n))), .val (.ref a4), .val (.int ((Int32.ofNat i) - (Int32.ofNat st))), .val (.int g), .val (.int (-1 : Int32)), .val (.int (Int32.ofNat i)), .val (.int (own_v bs i))]) rfl kt)
        show own_Fin _ _ _ _ (T.setTop (mkF m 47 #[.val (.ref a1), .val (.int (Int32.ofNat st)), .val (.int (Int32.ofNat (st + n))), .val (.ref a4), .val (.int ((Int32.ofNat i) - (Int32.ofNat st))), .val (.int g), .val (.int (-1 : Int32)), .val (.int (Int32.ofNat i)), .val (.int (own_v bs i))] []))
        refine own_go ?_ (fun tq kt => XS.goto X0.here hx rfl (pc0 := 47) (pc' := 91) rfl (hb hby d4_47) (by decide) (by decide) kt)
        show own_Fin _ _ _ _ (T.setTop (mkF m 91 #[.val (.ref a1), .val (.int (Int32.ofNat st)), .val (.int (Int32.ofNat (st + n))), .val (.ref a4), .val (.int ((Int32.ofNat i) - (Int32.ofNat st))), .val (.int g), .val (.int (-1 : Int32)), .val (.int (Int32.ofNat i)), .val (.int (own_v bs i))] []))
        refine own_go ?_ (fun tq kt => XS.iinc X0.here hx rfl (hb hby d4_91) rfl (l' := #[.val (.ref a1), .val (.int (Int32.ofNat st)), .val (.int (Int32.ofNat (st + n))), .val (.ref a4), .val (.int ((Int32.ofNat i) - (Int32.ofNat st))), .val (.int g), .val (.int (-1 : Int32)), .val (.int ((Int32.ofNat i) + (1 : Int32))), .val (.int (own_v bs i))]) rfl kt)
        show own_Fin _ _ _ _ (T.setTop (mkF m 94 #[.val (.ref a1), .val (.int (Int32.ofNat st)), .val (.int (Int32.ofNat (st + n))), .val (.ref a4), .val (.int ((Int32.ofNat i) - (Int32.ofNat st))), .val (.int g), .val (.int (-1 : Int32)), .val (.int ((Int32.ofNat i) + (1 : Int32))), .val (.int (own_v bs i))] []))
        refine own_go ?_ (fun tq kt => XS.goto X0.here hx rfl (pc0 := 94) (pc' := 12) rfl (hb hby d4_94) (by decide) (by decide) kt)
        show own_Fin _ _ _ _ (T.setTop (mkF m 12 #[.val (.ref a1), .val (.int (Int32.ofNat st)), .val (.int (Int32.ofNat (st + n))), .val (.ref a4), .val (.int ((Int32.ofNat i) - (Int32.ofNat st))), .val (.int g), .val (.int (-1 : Int32)), .val (.int ((Int32.ofNat i) + (1 : Int32))), .val (.int (own_v bs i))] []))
        rw [own_succ]
        refine ih (i + 1) ((Int32.ofNat i) - (Int32.ofNat st)) g _ (by omega) (by omega) (RoadKit.One.val rfl) (fun s8' h8' => ?_)
        have K' := K s8' h8'
        simp only [own_tabs, if_pos hc33_32, if_pos hc38_33] at K'
        exact K'
      · refine own_go ?_ (fun tq kt => XS.ifYes X0.here hx rfl (pc0 := 38) (pc' := 50) rfl (hb hby d4_38) rfl ((if0 _ _).trans (flt (hc38_33 : ¬ (f < (0 : Int32)))).2.1) (by decide) (by decide) kt)
        show own_Fin _ _ _ _ (T.setTop (mkF m 50 #[.val (.ref a1), .val (.int (Int32.ofNat st)), .val (.int (Int32.ofNat (st + n))), .val (.ref a4), .val (.int f), .val (.int g), .val (.int (-1 : Int32)), .val (.int (Int32.ofNat i)), .val (.int (own_v bs i))] []))
        refine own_go ?_ (fun tq kt => XS.iload X0.here hx rfl (hb hby d4_50) rfl kt)
        show own_Fin _ _ _ _ (T.setTop (mkF m 52 #[.val (.ref a1), .val (.int (Int32.ofNat st)), .val (.int (Int32.ofNat (st + n))), .val (.ref a4), .val (.int f), .val (.int g), .val (.int (-1 : Int32)), .val (.int (Int32.ofNat i)), .val (.int (own_v bs i))] [(.int (own_v bs i))]))
        refine own_go ?_ (fun tq kt => XS.bipush X0.here hx rfl (hb hby d4_52) kt)
        show own_Fin _ _ _ _ (T.setTop (mkF m 54 #[.val (.ref a1), .val (.int (Int32.ofNat st)), .val (.int (Int32.ofNat (st + n))), .val (.ref a4), .val (.int f), .val (.int g), .val (.int (-1 : Int32)), .val (.int (Int32.ofNat i)), .val (.int (own_v bs i))] [(.int (9 : Int32)), (.int (own_v bs i))]))
        refine own_go ?_ (fun tq kt => XS.icmpNo X0.here hx rfl (hb hby d4_54) rfl (teq (hc33_32 : (own_v bs i) = (9 : Int32))).2 kt)
        show own_Fin _ _ _ _ (T.setTop (mkF m 57 #[.val (.ref a1), .val (.int (Int32.ofNat st)), .val (.int (Int32.ofNat (st + n))), .val (.ref a4), .val (.int f), .val (.int g), .val (.int (-1 : Int32)), .val (.int (Int32.ofNat i)), .val (.int (own_v bs i))] []))
        refine own_go ?_ (fun tq kt => XS.iload X0.here hx rfl (hb hby d4_57) rfl kt)
        show own_Fin _ _ _ _ (T.setTop (mkF m 59 #[.val (.ref a1), .val (.int (Int32.ofNat st)), .val (.int (Int32.ofNat (st + n))), .val (.ref a4), .val (.int f), .val (.int g), .val (.int (-1 : Int32)), .val (.int (Int32.ofNat i)), .val (.int (own_v bs i))] [(.int g)]))
        by_cases hc59_34 : g < (0 : Int32)
        · refine own_go ?_ (fun tq kt => XS.ifNo X0.here hx rfl (hb hby d4_59) rfl ((if0 _ _).trans (tlt (hc59_34 : g < (0 : Int32))).2.1) kt)
          show own_Fin _ _ _ _ (T.setTop (mkF m 62 #[.val (.ref a1), .val (.int (Int32.ofNat st)), .val (.int (Int32.ofNat (st + n))), .val (.ref a4), .val (.int f), .val (.int g), .val (.int (-1 : Int32)), .val (.int (Int32.ofNat i)), .val (.int (own_v bs i))] []))
          refine own_go ?_ (fun tq kt => XS.iload X0.here hx rfl (hb hby d4_62) rfl kt)
          show own_Fin _ _ _ _ (T.setTop (mkF m 64 #[.val (.ref a1), .val (.int (Int32.ofNat st)), .val (.int (Int32.ofNat (st + n))), .val (.ref a4), .val (.int f), .val (.int g), .val (.int (-1 : Int32)), .val (.int (Int32.ofNat i)), .val (.int (own_v bs i))] [(.int (Int32.ofNat i))]))
          refine own_go ?_ (fun tq kt => XS.iloadN X0.here hx rfl (hb hby d4_64) rfl kt)
          show own_Fin _ _ _ _ (T.setTop (mkF m 65 #[.val (.ref a1), .val (.int (Int32.ofNat st)), .val (.int (Int32.ofNat (st + n))), .val (.ref a4), .val (.int f), .val (.int g), .val (.int (-1 : Int32)), .val (.int (Int32.ofNat i)), .val (.int (own_v bs i))] [(.int (Int32.ofNat st)), (.int (Int32.ofNat i))]))
          refine own_go ?_ (fun tq kt => XS.isub X0.here hx rfl (hb hby d4_65) rfl kt)
          show own_Fin _ _ _ _ (T.setTop (mkF m 66 #[.val (.ref a1), .val (.int (Int32.ofNat st)), .val (.int (Int32.ofNat (st + n))), .val (.ref a4), .val (.int f), .val (.int g), .val (.int (-1 : Int32)), .val (.int (Int32.ofNat i)), .val (.int (own_v bs i))] [(.int ((Int32.ofNat i) - (Int32.ofNat st)))]))
          refine own_go ?_ (fun tq kt => XS.istore X0.here hx rfl (hb hby d4_66) rfl (l' := #[.val (.ref a1), .val (.int (Int32.ofNat st)), .val (.int (Int32.ofNat (st + n))), .val (.ref a4), .val (.int f), .val (.int ((Int32.ofNat i) - (Int32.ofNat st))), .val (.int (-1 : Int32)), .val (.int (Int32.ofNat i)), .val (.int (own_v bs i))]) rfl kt)
          show own_Fin _ _ _ _ (T.setTop (mkF m 68 #[.val (.ref a1), .val (.int (Int32.ofNat st)), .val (.int (Int32.ofNat (st + n))), .val (.ref a4), .val (.int f), .val (.int ((Int32.ofNat i) - (Int32.ofNat st))), .val (.int (-1 : Int32)), .val (.int (Int32.ofNat i)), .val (.int (own_v bs i))] []))
          refine own_go ?_ (fun tq kt => XS.goto X0.here hx rfl (pc0 := 68) (pc' := 91) rfl (hb hby d4_68) (by decide) (by decide) kt)
          show own_Fin _ _ _ _ (T.setTop (mkF m 91 #[.val (.ref a1), .val (.int (Int32.ofNat st)), .val (.int (Int32.ofNat (st + n))), .val (.ref a4), .val (.int f), .val (.int ((Int32.ofNat i) - (Int32.ofNat st))), .val (.int (-1 : Int32)), .val (.int (Int32.ofNat i)), .val (.int (own_v bs i))] []))
          refine own_go ?_ (fun tq kt => XS.iinc X0.here hx rfl (hb hby d4_91) rfl (l' := #[.val (.ref a1), .val (.int (Int32.ofNat st)), .val (.int (Int32.ofNat (st + n))), .val (.ref a4), .val (.int f), .val (.int ((Int32.ofNat i) - (Int32.ofNat st))), .val (.int (-1 : Int32)), .val (.int ((Int32.ofNat i) + (1 : Int32))), .val (.int (own_v bs i))]) rfl kt)
          show own_Fin _ _ _ _ (T.setTop (mkF m 94 #[.val (.ref a1), .val (.int (Int32.ofNat st)), .val (.int (Int32.ofNat (st + n))), .val (.ref a4), .val (.int f), .val (.int ((Int32.ofNat i) - (Int32.ofNat st))), .val (.int (-1 : Int32)), .val (.int ((Int32.ofNat i) + (1 : Int32))), .val (.int (own_v bs i))] []))
          refine own_go ?_ (fun tq kt => XS.goto X0.here hx rfl (pc0 := 94) (pc' := 12) rfl (hb hby d4_94) (by decide) (by decide) kt)
          show own_Fin _ _ _ _ (T.setTop (mkF m 12 #[.val (.ref a1), .val (.int (Int32.ofNat st)), .val (.int (Int32.ofNat (st + n))), .val (.ref a4), .val (.int f), .val (.int ((Int32.ofNat i) - (Int32.ofNat st))), .val (.int (-1 : Int32)), .val (.int ((Int32.ofNat i) + (1 : Int32))), .val (.int (own_v bs i))] []))
          rw [own_succ]
          refine ih (i + 1) f ((Int32.ofNat i) - (Int32.ofNat st)) _ (by omega) (by omega) (RoadKit.One.val rfl) (fun s8' h8' => ?_)
          have K' := K s8' h8'
          simp only [own_tabs, if_pos hc33_32, if_neg hc38_33, if_pos hc59_34] at K'
          exact K'
        · refine own_go ?_ (fun tq kt => XS.ifYes X0.here hx rfl (pc0 := 59) (pc' := 71) rfl (hb hby d4_59) rfl ((if0 _ _).trans (flt (hc59_34 : ¬ (g < (0 : Int32)))).2.1) (by decide) (by decide) kt)
          show own_Fin _ _ _ _ (T.setTop (mkF m 71 #[.val (.ref a1), .val (.int (Int32.ofNat st)), .val (.int (Int32.ofNat (st + n))), .val (.ref a4), .val (.int f), .val (.int g), .val (.int (-1 : Int32)), .val (.int (Int32.ofNat i)), .val (.int (own_v bs i))] []))
          refine own_go ?_ (fun tq kt => XS.iload X0.here hx rfl (hb hby d4_71) rfl kt)
          show own_Fin _ _ _ _ (T.setTop (mkF m 73 #[.val (.ref a1), .val (.int (Int32.ofNat st)), .val (.int (Int32.ofNat (st + n))), .val (.ref a4), .val (.int f), .val (.int g), .val (.int (-1 : Int32)), .val (.int (Int32.ofNat i)), .val (.int (own_v bs i))] [(.int (own_v bs i))]))
          refine own_go ?_ (fun tq kt => XS.bipush X0.here hx rfl (hb hby d4_73) kt)
          show own_Fin _ _ _ _ (T.setTop (mkF m 75 #[.val (.ref a1), .val (.int (Int32.ofNat st)), .val (.int (Int32.ofNat (st + n))), .val (.ref a4), .val (.int f), .val (.int g), .val (.int (-1 : Int32)), .val (.int (Int32.ofNat i)), .val (.int (own_v bs i))] [(.int (10 : Int32)), (.int (own_v bs i))]))
          refine own_go ?_ (fun tq kt => XS.icmpNo X0.here hx rfl (hb hby d4_75) rfl (feq (hbk.1 : ¬ ((own_v bs i) = (10 : Int32)))).1 kt)
          show own_Fin _ _ _ _ (T.setTop (mkF m 78 #[.val (.ref a1), .val (.int (Int32.ofNat st)), .val (.int (Int32.ofNat (st + n))), .val (.ref a4), .val (.int f), .val (.int g), .val (.int (-1 : Int32)), .val (.int (Int32.ofNat i)), .val (.int (own_v bs i))] []))
          refine own_go ?_ (fun tq kt => XS.iload X0.here hx rfl (hb hby d4_78) rfl kt)
          show own_Fin _ _ _ _ (T.setTop (mkF m 80 #[.val (.ref a1), .val (.int (Int32.ofNat st)), .val (.int (Int32.ofNat (st + n))), .val (.ref a4), .val (.int f), .val (.int g), .val (.int (-1 : Int32)), .val (.int (Int32.ofNat i)), .val (.int (own_v bs i))] [(.int (own_v bs i))]))
          refine own_go ?_ (fun tq kt => XS.bipush X0.here hx rfl (hb hby d4_80) kt)
          show own_Fin _ _ _ _ (T.setTop (mkF m 82 #[.val (.ref a1), .val (.int (Int32.ofNat st)), .val (.int (Int32.ofNat (st + n))), .val (.ref a4), .val (.int f), .val (.int g), .val (.int (-1 : Int32)), .val (.int (Int32.ofNat i)), .val (.int (own_v bs i))] [(.int (13 : Int32)), (.int (own_v bs i))]))
          refine own_go ?_ (fun tq kt => XS.icmpYes X0.here hx rfl (pc0 := 82) (pc' := 91) rfl (hb hby d4_82) rfl (feq (hbk.2 : ¬ ((own_v bs i) = (13 : Int32)))).2 (by decide) (by decide) kt)
          show own_Fin _ _ _ _ (T.setTop (mkF m 91 #[.val (.ref a1), .val (.int (Int32.ofNat st)), .val (.int (Int32.ofNat (st + n))), .val (.ref a4), .val (.int f), .val (.int g), .val (.int (-1 : Int32)), .val (.int (Int32.ofNat i)), .val (.int (own_v bs i))] []))
          refine own_go ?_ (fun tq kt => XS.iinc X0.here hx rfl (hb hby d4_91) rfl (l' := #[.val (.ref a1), .val (.int (Int32.ofNat st)), .val (.int (Int32.ofNat (st + n))), .val (.ref a4), .val (.int f), .val (.int g), .val (.int (-1 : Int32)), .val (.int ((Int32.ofNat i) + (1 : Int32))), .val (.int (own_v bs i))]) rfl kt)
          show own_Fin _ _ _ _ (T.setTop (mkF m 94 #[.val (.ref a1), .val (.int (Int32.ofNat st)), .val (.int (Int32.ofNat (st + n))), .val (.ref a4), .val (.int f), .val (.int g), .val (.int (-1 : Int32)), .val (.int ((Int32.ofNat i) + (1 : Int32))), .val (.int (own_v bs i))] []))
          refine own_go ?_ (fun tq kt => XS.goto X0.here hx rfl (pc0 := 94) (pc' := 12) rfl (hb hby d4_94) (by decide) (by decide) kt)
          show own_Fin _ _ _ _ (T.setTop (mkF m 12 #[.val (.ref a1), .val (.int (Int32.ofNat st)), .val (.int (Int32.ofNat (st + n))), .val (.ref a4), .val (.int f), .val (.int g), .val (.int (-1 : Int32)), .val (.int ((Int32.ofNat i) + (1 : Int32))), .val (.int (own_v bs i))] []))
          rw [own_succ]
          refine ih (i + 1) f g _ (by omega) (by omega) (RoadKit.One.val rfl) (fun s8' h8' => ?_)
          have K' := K s8' h8'
          simp only [own_tabs, if_pos hc33_32, if_neg hc38_33, if_neg hc59_34] at K'
          exact K'
    · refine own_go ?_ (fun tq kt => XS.icmpYes X0.here hx rfl (pc0 := 33) (pc' := 50) rfl (hb hby d4_33) rfl (feq (hc33_32 : ¬ ((own_v bs i) = (9 : Int32)))).2 (by decide) (by decide) kt)
      show own_Fin _ _ _ _ (T.setTop (mkF m 50 #[.val (.ref a1), .val (.int (Int32.ofNat st)), .val (.int (Int32.ofNat (st + n))), .val (.ref a4), .val (.int f), .val (.int g), .val (.int (-1 : Int32)), .val (.int (Int32.ofNat i)), .val (.int (own_v bs i))] []))
      refine own_go ?_ (fun tq kt => XS.iload X0.here hx rfl (hb hby d4_50) rfl kt)
      show own_Fin _ _ _ _ (T.setTop (mkF m 52 #[.val (.ref a1), .val (.int (Int32.ofNat st)), .val (.int (Int32.ofNat (st + n))), .val (.ref a4), .val (.int f), .val (.int g), .val (.int (-1 : Int32)), .val (.int (Int32.ofNat i)), .val (.int (own_v bs i))] [(.int (own_v bs i))]))
      refine own_go ?_ (fun tq kt => XS.bipush X0.here hx rfl (hb hby d4_52) kt)
      show own_Fin _ _ _ _ (T.setTop (mkF m 54 #[.val (.ref a1), .val (.int (Int32.ofNat st)), .val (.int (Int32.ofNat (st + n))), .val (.ref a4), .val (.int f), .val (.int g), .val (.int (-1 : Int32)), .val (.int (Int32.ofNat i)), .val (.int (own_v bs i))] [(.int (9 : Int32)), (.int (own_v bs i))]))
      refine own_go ?_ (fun tq kt => XS.icmpYes X0.here hx rfl (pc0 := 54) (pc' := 71) rfl (hb hby d4_54) rfl (feq (hc33_32 : ¬ ((own_v bs i) = (9 : Int32)))).2 (by decide) (by decide) kt)
      show own_Fin _ _ _ _ (T.setTop (mkF m 71 #[.val (.ref a1), .val (.int (Int32.ofNat st)), .val (.int (Int32.ofNat (st + n))), .val (.ref a4), .val (.int f), .val (.int g), .val (.int (-1 : Int32)), .val (.int (Int32.ofNat i)), .val (.int (own_v bs i))] []))
      refine own_go ?_ (fun tq kt => XS.iload X0.here hx rfl (hb hby d4_71) rfl kt)
      show own_Fin _ _ _ _ (T.setTop (mkF m 73 #[.val (.ref a1), .val (.int (Int32.ofNat st)), .val (.int (Int32.ofNat (st + n))), .val (.ref a4), .val (.int f), .val (.int g), .val (.int (-1 : Int32)), .val (.int (Int32.ofNat i)), .val (.int (own_v bs i))] [(.int (own_v bs i))]))
      refine own_go ?_ (fun tq kt => XS.bipush X0.here hx rfl (hb hby d4_73) kt)
      show own_Fin _ _ _ _ (T.setTop (mkF m 75 #[.val (.ref a1), .val (.int (Int32.ofNat st)), .val (.int (Int32.ofNat (st + n))), .val (.ref a4), .val (.int f), .val (.int g), .val (.int (-1 : Int32)), .val (.int (Int32.ofNat i)), .val (.int (own_v bs i))] [(.int (10 : Int32)), (.int (own_v bs i))]))
      refine own_go ?_ (fun tq kt => XS.icmpNo X0.here hx rfl (hb hby d4_75) rfl (feq (hbk.1 : ¬ ((own_v bs i) = (10 : Int32)))).1 kt)
      show own_Fin _ _ _ _ (T.setTop (mkF m 78 #[.val (.ref a1), .val (.int (Int32.ofNat st)), .val (.int (Int32.ofNat (st + n))), .val (.ref a4), .val (.int f), .val (.int g), .val (.int (-1 : Int32)), .val (.int (Int32.ofNat i)), .val (.int (own_v bs i))] []))
      refine own_go ?_ (fun tq kt => XS.iload X0.here hx rfl (hb hby d4_78) rfl kt)
      show own_Fin _ _ _ _ (T.setTop (mkF m 80 #[.val (.ref a1), .val (.int (Int32.ofNat st)), .val (.int (Int32.ofNat (st + n))), .val (.ref a4), .val (.int f), .val (.int g), .val (.int (-1 : Int32)), .val (.int (Int32.ofNat i)), .val (.int (own_v bs i))] [(.int (own_v bs i))]))
      refine own_go ?_ (fun tq kt => XS.bipush X0.here hx rfl (hb hby d4_80) kt)
      show own_Fin _ _ _ _ (T.setTop (mkF m 82 #[.val (.ref a1), .val (.int (Int32.ofNat st)), .val (.int (Int32.ofNat (st + n))), .val (.ref a4), .val (.int f), .val (.int g), .val (.int (-1 : Int32)), .val (.int (Int32.ofNat i)), .val (.int (own_v bs i))] [(.int (13 : Int32)), (.int (own_v bs i))]))
      refine own_go ?_ (fun tq kt => XS.icmpYes X0.here hx rfl (pc0 := 82) (pc' := 91) rfl (hb hby d4_82) rfl (feq (hbk.2 : ¬ ((own_v bs i) = (13 : Int32)))).2 (by decide) (by decide) kt)
      show own_Fin _ _ _ _ (T.setTop (mkF m 91 #[.val (.ref a1), .val (.int (Int32.ofNat st)), .val (.int (Int32.ofNat (st + n))), .val (.ref a4), .val (.int f), .val (.int g), .val (.int (-1 : Int32)), .val (.int (Int32.ofNat i)), .val (.int (own_v bs i))] []))
      refine own_go ?_ (fun tq kt => XS.iinc X0.here hx rfl (hb hby d4_91) rfl (l' := #[.val (.ref a1), .val (.int (Int32.ofNat st)), .val (.int (Int32.ofNat (st + n))), .val (.ref a4), .val (.int f), .val (.int g), .val (.int (-1 : Int32)), .val (.int ((Int32.ofNat i) + (1 : Int32))), .val (.int (own_v bs i))]) rfl kt)
      show own_Fin _ _ _ _ (T.setTop (mkF m 94 #[.val (.ref a1), .val (.int (Int32.ofNat st)), .val (.int (Int32.ofNat (st + n))), .val (.ref a4), .val (.int f), .val (.int g), .val (.int (-1 : Int32)), .val (.int ((Int32.ofNat i) + (1 : Int32))), .val (.int (own_v bs i))] []))
      refine own_go ?_ (fun tq kt => XS.goto X0.here hx rfl (pc0 := 94) (pc' := 12) rfl (hb hby d4_94) (by decide) (by decide) kt)
      show own_Fin _ _ _ _ (T.setTop (mkF m 12 #[.val (.ref a1), .val (.int (Int32.ofNat st)), .val (.int (Int32.ofNat (st + n))), .val (.ref a4), .val (.int f), .val (.int g), .val (.int (-1 : Int32)), .val (.int ((Int32.ofNat i) + (1 : Int32))), .val (.int (own_v bs i))] []))
      rw [own_succ]
      refine ih (i + 1) f g _ (by omega) (by omega) (RoadKit.One.val rfl) (fun s8' h8' => ?_)
      have K' := K s8' h8'
      simp only [own_tabs, if_neg hc33_32] at K'
      exact K'
theorem pn_4 : plainFor (⟨"com/example/wolf_spider/wolfspider/EdgeListLine", "tab", "([BIILcom/example/wolf_spider/wolfspider/EdgeListLine$Fields;)I"⟩ : MethodName) = true := plainFor_of_name (by first | (simp [plainName, overriddenIn]; done) | decide +kernel)
set_option maxRecDepth 65536 in
set_option maxHeartbeats 40000000 in
theorem rm4 (l : Launch) (Z : State) (a0 : Array Value) (hw : ∀ d ∈ tables_1, d.before a0 Z = true) (ws : List Jvm.Cond) (a1 : Addr) (a4 : Addr) (st n : Nat) (k0 : ClassId) (bs : List Int32) (z : Int32) (h0 : Heap) (n0 : Nat) (Z0 : n0 ≤ h0.size) (V : Arv Z h0 a1 k0 .byte (6 : Int32) (bs.map Value.int) (.int (0 : Int32))) (hst : st + n ≤ 6) (hnb : ∀ i, st ≤ i → i < st + n → ¬ own_v bs i = 10 ∧ ¬ own_v bs i = 13) (hT : own_tab (own_v bs) st n = some z) :
    MetFree l (⟨"com/example/wolf_spider/wolfspider/EdgeListLine", "tab", "([BIILcom/example/wolf_spider/wolfspider/EdgeListLine$Fields;)I"⟩ : MethodName) (head1 (Jvm.Cond.code (⟨"com/example/wolf_spider/wolfspider/EdgeListLine", "tab", "([BIILcom/example/wolf_spider/wolfspider/EdgeListLine$Fields;)I"⟩ : MethodName) prog_6_method_3_code 9 (some .int) :: ws) ({ frames := 1, cells := 0, slots := 0, locals := 18 } : Room)) (fun a U => a = #[(.ref a1), (.int (Int32.ofNat st)), (.int (Int32.ofNat (st + n))), (.ref a4)] ∧ Z.Warmed39 U.vm ∧ U.heap = h0) (fun _ _ _ _ _ => True) (fun _ U o U' => ∃ v L, o = .returned v ∧ QI z h0 n0 v U'.heap L ∧ FrameEnd U o U' L ({ frames := 1, cells := 0, slots := 0, locals := 18 } : Room).cells ({ frames := 1, cells := 0, slots := 0, locals := 18 } : Room).slots) := by
  refine MetFree.of_bodySF pn_4 hisR ?_
  intro p e s m args below meth c s₁ Bd hml0 hP hK
  obtain ⟨rfl, hZ, hh⟩ := hP
  have hx := Bd.exec
  have hby := Bd.bytes
  have hml : c.maxLocals = 9 := hml0
  have hown : s.vm.findClass "com/example/wolf_spider/wolfspider/EdgeListLine" = some m.cls := findClass_of_methodNamed Bd.named
  have hnm := (name_of_methodNamed Bd.named Bd.method).1
  have hlk : meth.locks = false := BodyLoose.notSynchronized Bd
  have X0 : Stand p l e ({ frames := 1, cells := 0, slots := 0, locals := 18 } : Room) s m #[(.ref a1), (.int (Int32.ofNat st)), (.int (Int32.ofNat (st + n))), (.ref a4)] below meth c s₁ [] 0 0 := Stand.of_body Bd
  have e0 : s₁.heap = h0 := by rw [← hh, Bd.state]; rfl
  have N0 := Fr.nil n0
  show own_Fin p e below (own_P (QI z h0 n0) s ({ frames := 1, cells := 0, slots := 0, locals := 18 } : Room).cells ({ frames := 1, cells := 0, slots := 0, locals := 18 } : Room).slots) (s₁.setTop (entryFrame m #[(.ref a1), (.int (Int32.ofNat st)), (.int (Int32.ofNat (st + n))), (.ref a4)] 9))
  rw [show entryFrame m #[(.ref a1), (.int (Int32.ofNat st)), (.int (Int32.ofNat (st + n))), (.ref a4)] 9 = mkF m 0 #[.val (.ref a1), .val (.int (Int32.ofNat st)), .val (.int (Int32.ofNat (st + n))), .val (.ref a4), .unset, .unset, .unset, .unset, .unset] [] from by first | (simp [entryFrame, mkF, argsToLocals, Value.category]; done) | rfl]
  refine own_go ?_ (fun tq kt => XS.iconst X0.here hx rfl (hb hby d4_0) kt)
  show own_Fin _ _ _ _ (s₁.setTop (mkF m 1 #[.val (.ref a1), .val (.int (Int32.ofNat st)), .val (.int (Int32.ofNat (st + n))), .val (.ref a4), .unset, .unset, .unset, .unset, .unset] [(.int (-1 : Int32))]))
  refine own_go ?_ (fun tq kt => XS.istore X0.here hx rfl (hb hby d4_1) rfl (l' := #[.val (.ref a1), .val (.int (Int32.ofNat st)), .val (.int (Int32.ofNat (st + n))), .val (.ref a4), .val (.int (-1 : Int32)), .unset, .unset, .unset, .unset]) rfl kt)
  show own_Fin _ _ _ _ (s₁.setTop (mkF m 3 #[.val (.ref a1), .val (.int (Int32.ofNat st)), .val (.int (Int32.ofNat (st + n))), .val (.ref a4), .val (.int (-1 : Int32)), .unset, .unset, .unset, .unset] []))
  refine own_go ?_ (fun tq kt => XS.iconst X0.here hx rfl (hb hby d4_3) kt)
  show own_Fin _ _ _ _ (s₁.setTop (mkF m 4 #[.val (.ref a1), .val (.int (Int32.ofNat st)), .val (.int (Int32.ofNat (st + n))), .val (.ref a4), .val (.int (-1 : Int32)), .unset, .unset, .unset, .unset] [(.int (-1 : Int32))]))
  refine own_go ?_ (fun tq kt => XS.istore X0.here hx rfl (hb hby d4_4) rfl (l' := #[.val (.ref a1), .val (.int (Int32.ofNat st)), .val (.int (Int32.ofNat (st + n))), .val (.ref a4), .val (.int (-1 : Int32)), .val (.int (-1 : Int32)), .unset, .unset, .unset]) rfl kt)
  show own_Fin _ _ _ _ (s₁.setTop (mkF m 6 #[.val (.ref a1), .val (.int (Int32.ofNat st)), .val (.int (Int32.ofNat (st + n))), .val (.ref a4), .val (.int (-1 : Int32)), .val (.int (-1 : Int32)), .unset, .unset, .unset] []))
  refine own_go ?_ (fun tq kt => XS.iconst X0.here hx rfl (hb hby d4_6) kt)
  show own_Fin _ _ _ _ (s₁.setTop (mkF m 7 #[.val (.ref a1), .val (.int (Int32.ofNat st)), .val (.int (Int32.ofNat (st + n))), .val (.ref a4), .val (.int (-1 : Int32)), .val (.int (-1 : Int32)), .unset, .unset, .unset] [(.int (-1 : Int32))]))
  refine own_go ?_ (fun tq kt => XS.istore X0.here hx rfl (hb hby d4_7) rfl (l' := #[.val (.ref a1), .val (.int (Int32.ofNat st)), .val (.int (Int32.ofNat (st + n))), .val (.ref a4), .val (.int (-1 : Int32)), .val (.int (-1 : Int32)), .val (.int (-1 : Int32)), .unset, .unset]) rfl kt)
  show own_Fin _ _ _ _ (s₁.setTop (mkF m 9 #[.val (.ref a1), .val (.int (Int32.ofNat st)), .val (.int (Int32.ofNat (st + n))), .val (.ref a4), .val (.int (-1 : Int32)), .val (.int (-1 : Int32)), .val (.int (-1 : Int32)), .unset, .unset] []))
  refine own_go ?_ (fun tq kt => XS.iloadN X0.here hx rfl (hb hby d4_9) rfl kt)
  show own_Fin _ _ _ _ (s₁.setTop (mkF m 10 #[.val (.ref a1), .val (.int (Int32.ofNat st)), .val (.int (Int32.ofNat (st + n))), .val (.ref a4), .val (.int (-1 : Int32)), .val (.int (-1 : Int32)), .val (.int (-1 : Int32)), .unset, .unset] [(.int (Int32.ofNat st))]))
  refine own_go ?_ (fun tq kt => XS.istore X0.here hx rfl (hb hby d4_10) rfl (l' := #[.val (.ref a1), .val (.int (Int32.ofNat st)), .val (.int (Int32.ofNat (st + n))), .val (.ref a4), .val (.int (-1 : Int32)), .val (.int (-1 : Int32)), .val (.int (-1 : Int32)), .val (.int (Int32.ofNat st)), .unset]) rfl kt)
  show own_Fin _ _ _ _ (s₁.setTop (mkF m 12 #[.val (.ref a1), .val (.int (Int32.ofNat st)), .val (.int (Int32.ofNat (st + n))), .val (.ref a4), .val (.int (-1 : Int32)), .val (.int (-1 : Int32)), .val (.int (-1 : Int32)), .val (.int (Int32.ofNat st)), .unset] []))
  refine own_loop hx hZ hw hby hml hown X0 e0 a1 a4 k0 bs V st n hst hnb n st (-1) (-1) .unset (Nat.le_refl _) rfl RoadKit.One.u (fun s8 h8 => ?_)
  show own_Fin _ _ _ _ (s₁.setTop (mkF m 97 #[.val (.ref a1), .val (.int (Int32.ofNat st)), .val (.int (Int32.ofNat (st + n))), .val (.ref a4), .val (.int (own_tabs (own_v bs) st n st (-1) (-1)).1), .val (.int (own_tabs (own_v bs) st n st (-1) (-1)).2), .val (.int (-1 : Int32)), .val (.int (Int32.ofNat (st + n))), s8] []))
  refine own_go ?_ (fun tq kt => XS.iloadN X0.here hx rfl (hb hby d4_97) rfl kt)
  show own_Fin _ _ _ _ (s₁.setTop (mkF m 98 #[.val (.ref a1), .val (.int (Int32.ofNat st)), .val (.int (Int32.ofNat (st + n))), .val (.ref a4), .val (.int (own_tabs (own_v bs) st n st (-1) (-1)).1), .val (.int (own_tabs (own_v bs) st n st (-1) (-1)).2), .val (.int (-1 : Int32)), .val (.int (Int32.ofNat (st + n))), s8] [(.int (Int32.ofNat (st + n)))]))
  refine own_go ?_ (fun tq kt => XS.iloadN X0.here hx rfl (hb hby d4_98) rfl kt)
  show own_Fin _ _ _ _ (s₁.setTop (mkF m 99 #[.val (.ref a1), .val (.int (Int32.ofNat st)), .val (.int (Int32.ofNat (st + n))), .val (.ref a4), .val (.int (own_tabs (own_v bs) st n st (-1) (-1)).1), .val (.int (own_tabs (own_v bs) st n st (-1) (-1)).2), .val (.int (-1 : Int32)), .val (.int (Int32.ofNat (st + n))), s8] [(.int (Int32.ofNat st)), (.int (Int32.ofNat (st + n)))]))
  by_cases hc99_41 : (Int32.ofNat st) < (Int32.ofNat (st + n))
  · refine own_go ?_ (fun tq kt => XS.icmpNo X0.here hx rfl (hb hby d4_99) rfl (tlt (hc99_41 : (Int32.ofNat st) < (Int32.ofNat (st + n)))).2.2.2 kt)
    show own_Fin _ _ _ _ (s₁.setTop (mkF m 102 #[.val (.ref a1), .val (.int (Int32.ofNat st)), .val (.int (Int32.ofNat (st + n))), .val (.ref a4), .val (.int (own_tabs (own_v bs) st n st (-1) (-1)).1), .val (.int (own_tabs (own_v bs) st n st (-1) (-1)).2), .val (.int (-1 : Int32)), .val (.int (Int32.ofNat (st + n))), s8] []))
    refine own_go ?_ (fun tq kt => XS.aloadN X0.here hx rfl (hb hby d4_102) rfl rfl kt)
    show own_Fin _ _ _ _ (s₁.setTop (mkF m 103 #[.val (.ref a1), .val (.int (Int32.ofNat st)), .val (.int (Int32.ofNat (st + n))), .val (.ref a4), .val (.int (own_tabs (own_v bs) st n st (-1) (-1)).1), .val (.int (own_tabs (own_v bs) st n st (-1) (-1)).2), .val (.int (-1 : Int32)), .val (.int (Int32.ofNat (st + n))), s8] [(.ref a1)]))
    refine own_go ?_ (fun tq kt => XS.iloadN X0.here hx rfl (hb hby d4_103) rfl kt)
    show own_Fin _ _ _ _ (s₁.setTop (mkF m 104 #[.val (.ref a1), .val (.int (Int32.ofNat st)), .val (.int (Int32.ofNat (st + n))), .val (.ref a4), .val (.int (own_tabs (own_v bs) st n st (-1) (-1)).1), .val (.int (own_tabs (own_v bs) st n st (-1) (-1)).2), .val (.int (-1 : Int32)), .val (.int (Int32.ofNat (st + n))), s8] [(.int (Int32.ofNat st)), (.ref a1)]))
    obtain ⟨cl42, Ar42, q42, S42, M42, H42, G42⟩ := id V
    have hn0 : 0 < n := by have q := (own_ltN (by omega) (by omega)).mp hc99_41; omega
    refine own_go ?_ (fun tq kt => X0.baloadBytes hx (j := (Int32.ofNat st)) (v := (.int (own_v bs st))) (by rw [e0]; exact Ar42.1) (State.isArrayOf_alike hZ.alike Ar42.2.1) Ar42.2.2 (inb_of S42 (own_in6 (by omega))) (Has.at H42 (inb_of S42 (own_in6 (by omega))) (by rw [own_clamp (by omega)]; exact own_getD bs st)) (g := (mkF m 104 #[.val (.ref a1), .val (.int (Int32.ofNat st)), .val (.int (Int32.ofNat (st + n))), .val (.ref a4), .val (.int (own_tabs (own_v bs) st n st (-1) (-1)).1), .val (.int (own_tabs (own_v bs) st n st (-1) (-1)).2), .val (.int (-1 : Int32)), .val (.int (Int32.ofNat (st + n))), s8] [(.int (Int32.ofNat st)), (.ref a1)])) rfl rfl (hb hby d4_104) _ kt)
    show own_Fin _ _ _ _ (s₁.setTop (mkF m 105 #[.val (.ref a1), .val (.int (Int32.ofNat st)), .val (.int (Int32.ofNat (st + n))), .val (.ref a4), .val (.int (own_tabs (own_v bs) st n st (-1) (-1)).1), .val (.int (own_tabs (own_v bs) st n st (-1) (-1)).2), .val (.int (-1 : Int32)), .val (.int (Int32.ofNat (st + n))), s8] [(.int (own_v bs st))]))
    refine own_go ?_ (fun tq kt => XS.bipush X0.here hx rfl (hb hby d4_105) kt)
    show own_Fin _ _ _ _ (s₁.setTop (mkF m 107 #[.val (.ref a1), .val (.int (Int32.ofNat st)), .val (.int (Int32.ofNat (st + n))), .val (.ref a4), .val (.int (own_tabs (own_v bs) st n st (-1) (-1)).1), .val (.int (own_tabs (own_v bs) st n st (-1) (-1)).2), .val (.int (-1 : Int32)), .val (.int (Int32.ofNat (st + n))), s8] [(.int (35 : Int32)), (.int (own_v bs st))]))
    by_cases hc107_43 : (own_v bs st) = (35 : Int32)
    · refine own_go ?_ (fun tq kt => XS.icmpNo X0.here hx rfl (hb hby d4_107) rfl (teq (hc107_43 : (own_v bs st) = (35 : Int32))).2 kt)
      show own_Fin _ _ _ _ (s₁.setTop (mkF m 110 #[.val (.ref a1), .val (.int (Int32.ofNat st)), .val (.int (Int32.ofNat (st + n))), .val (.ref a4), .val (.int (own_tabs (own_v bs) st n st (-1) (-1)).1), .val (.int (own_tabs (own_v bs) st n st (-1) (-1)).2), .val (.int (-1 : Int32)), .val (.int (Int32.ofNat (st + n))), s8] []))
      refine own_go ?_ (fun tq kt => XS.iconst X0.here hx rfl (hb hby d4_110) kt)
      show own_Fin _ _ _ _ (s₁.setTop (mkF m 111 #[.val (.ref a1), .val (.int (Int32.ofNat st)), .val (.int (Int32.ofNat (st + n))), .val (.ref a4), .val (.int (own_tabs (own_v bs) st n st (-1) (-1)).1), .val (.int (own_tabs (own_v bs) st n st (-1) (-1)).2), .val (.int (-1 : Int32)), .val (.int (Int32.ofNat (st + n))), s8] [(.int (1 : Int32))]))
      refine own_go ?_ (fun tq kt => XS.goto X0.here hx rfl (pc0 := 111) (pc' := 115) rfl (hb hby d4_111) (by decide) (by decide) kt)
      show own_Fin _ _ _ _ (s₁.setTop (mkF m 115 #[.val (.ref a1), .val (.int (Int32.ofNat st)), .val (.int (Int32.ofNat (st + n))), .val (.ref a4), .val (.int (own_tabs (own_v bs) st n st (-1) (-1)).1), .val (.int (own_tabs (own_v bs) st n st (-1) (-1)).2), .val (.int (-1 : Int32)), .val (.int (Int32.ofNat (st + n))), s8] [(.int (1 : Int32))]))
      refine own_go ?_ (fun tq kt => XS.istore X0.here hx rfl (hb hby d4_115) rfl (l' := #[.val (.ref a1), .val (.int (Int32.ofNat st)), .val (.int (Int32.ofNat (st + n))), .val (.ref a4), .val (.int (own_tabs (own_v bs) st n st (-1) (-1)).1), .val (.int (own_tabs (own_v bs) st n st (-1) (-1)).2), .val (.int (-1 : Int32)), .val (.int (1 : Int32)), s8]) rfl kt)
      show own_Fin _ _ _ _ (s₁.setTop (mkF m 117 #[.val (.ref a1), .val (.int (Int32.ofNat st)), .val (.int (Int32.ofNat (st + n))), .val (.ref a4), .val (.int (own_tabs (own_v bs) st n st (-1) (-1)).1), .val (.int (own_tabs (own_v bs) st n st (-1) (-1)).2), .val (.int (-1 : Int32)), .val (.int (1 : Int32)), s8] []))
      refine own_go ?_ (fun tq kt => XS.iloadN X0.here hx rfl (hb hby d4_117) rfl kt)
      show own_Fin _ _ _ _ (s₁.setTop (mkF m 118 #[.val (.ref a1), .val (.int (Int32.ofNat st)), .val (.int (Int32.ofNat (st + n))), .val (.ref a4), .val (.int (own_tabs (own_v bs) st n st (-1) (-1)).1), .val (.int (own_tabs (own_v bs) st n st (-1) (-1)).2), .val (.int (-1 : Int32)), .val (.int (1 : Int32)), s8] [(.int (Int32.ofNat (st + n)))]))
      refine own_go ?_ (fun tq kt => XS.iloadN X0.here hx rfl (hb hby d4_118) rfl kt)
      show own_Fin _ _ _ _ (s₁.setTop (mkF m 119 #[.val (.ref a1), .val (.int (Int32.ofNat st)), .val (.int (Int32.ofNat (st + n))), .val (.ref a4), .val (.int (own_tabs (own_v bs) st n st (-1) (-1)).1), .val (.int (own_tabs (own_v bs) st n st (-1) (-1)).2), .val (.int (-1 : Int32)), .val (.int (1 : Int32)), s8] [(.int (Int32.ofNat st)), (.int (Int32.ofNat (st + n)))]))
      refine own_go ?_ (fun tq kt => XS.isub X0.here hx rfl (hb hby d4_119) rfl kt)
      show own_Fin _ _ _ _ (s₁.setTop (mkF m 120 #[.val (.ref a1), .val (.int (Int32.ofNat st)), .val (.int (Int32.ofNat (st + n))), .val (.ref a4), .val (.int (own_tabs (own_v bs) st n st (-1) (-1)).1), .val (.int (own_tabs (own_v bs) st n st (-1) (-1)).2), .val (.int (-1 : Int32)), .val (.int (1 : Int32)), s8] [(.int ((Int32.ofNat (st + n)) - (Int32.ofNat st)))]))
      refine own_go ?_ (fun tq kt => XS.iload X0.here hx rfl (hb hby d4_120) rfl kt)
      show own_Fin _ _ _ _ (s₁.setTop (mkF m 122 #[.val (.ref a1), .val (.int (Int32.ofNat st)), .val (.int (Int32.ofNat (st + n))), .val (.ref a4), .val (.int (own_tabs (own_v bs) st n st (-1) (-1)).1), .val (.int (own_tabs (own_v bs) st n st (-1) (-1)).2), .val (.int (-1 : Int32)), .val (.int (1 : Int32)), s8] [(.int (1 : Int32)), (.int ((Int32.ofNat (st + n)) - (Int32.ofNat st)))]))
      refine own_go ?_ (fun tq kt => XS.iload X0.here hx rfl (hb hby d4_122) rfl kt)
      show own_Fin _ _ _ _ (s₁.setTop (mkF m 124 #[.val (.ref a1), .val (.int (Int32.ofNat st)), .val (.int (Int32.ofNat (st + n))), .val (.ref a4), .val (.int (own_tabs (own_v bs) st n st (-1) (-1)).1), .val (.int (own_tabs (own_v bs) st n st (-1) (-1)).2), .val (.int (-1 : Int32)), .val (.int (1 : Int32)), s8] [(.int (own_tabs (own_v bs) st n st (-1) (-1)).1), (.int (1 : Int32)), (.int ((Int32.ofNat (st + n)) - (Int32.ofNat st)))]))
      refine own_go ?_ (fun tq kt => XS.iload X0.here hx rfl (hb hby d4_124) rfl kt)
      show own_Fin _ _ _ _ (s₁.setTop (mkF m 126 #[.val (.ref a1), .val (.int (Int32.ofNat st)), .val (.int (Int32.ofNat (st + n))), .val (.ref a4), .val (.int (own_tabs (own_v bs) st n st (-1) (-1)).1), .val (.int (own_tabs (own_v bs) st n st (-1) (-1)).2), .val (.int (-1 : Int32)), .val (.int (1 : Int32)), s8] [(.int (own_tabs (own_v bs) st n st (-1) (-1)).2), (.int (own_tabs (own_v bs) st n st (-1) (-1)).1), (.int (1 : Int32)), (.int ((Int32.ofNat (st + n)) - (Int32.ofNat st)))]))
      refine own_go ?_ (fun tq kt => XS.iload X0.here hx rfl (hb hby d4_126) rfl kt)
      show own_Fin _ _ _ _ (s₁.setTop (mkF m 128 #[.val (.ref a1), .val (.int (Int32.ofNat st)), .val (.int (Int32.ofNat (st + n))), .val (.ref a4), .val (.int (own_tabs (own_v bs) st n st (-1) (-1)).1), .val (.int (own_tabs (own_v bs) st n st (-1) (-1)).2), .val (.int (-1 : Int32)), .val (.int (1 : Int32)), s8] [(.int (-1 : Int32)), (.int (own_tabs (own_v bs) st n st (-1) (-1)).2), (.int (own_tabs (own_v bs) st n st (-1) (-1)).1), (.int (1 : Int32)), (.int ((Int32.ofNat (st + n)) - (Int32.ofNat st)))]))
      refine own_go ?_ (fun tq kt => XS.aloadN X0.here hx rfl (hb hby d4_128) rfl rfl kt)
      show own_Fin _ _ _ _ (s₁.setTop (mkF m 129 #[.val (.ref a1), .val (.int (Int32.ofNat st)), .val (.int (Int32.ofNat (st + n))), .val (.ref a4), .val (.int (own_tabs (own_v bs) st n st (-1) (-1)).1), .val (.int (own_tabs (own_v bs) st n st (-1) (-1)).2), .val (.int (-1 : Int32)), .val (.int (1 : Int32)), s8] [(.ref a4), (.int (-1 : Int32)), (.int (own_tabs (own_v bs) st n st (-1) (-1)).2), (.int (own_tabs (own_v bs) st n st (-1) (-1)).1), (.int (1 : Int32)), (.int ((Int32.ofNat (st + n)) - (Int32.ofNat st)))]))
      obtain ⟨_, _, ⟨T44, L44, k44, n44⟩, -, X44, ⟨Lc44, hQ44, l44, y44, z44⟩, st44⟩ := Jvm.LawKit.callS X0 hx (y := (⟨"com/example/wolf_spider/wolfspider/EdgeListLine", "entry", "(IZIIILcom/example/wolf_spider/wolfspider/EdgeListLine$Fields;)I"⟩ : MethodName)) hown (mvT hZ (hw _ (List.mem_of_getElem? (i := 17) rfl))) (mvT hZ (hw _ (List.mem_of_getElem? (i := 18) rfl))) (mvT hZ (hw _ (List.mem_of_getElem? (i := 12) rfl))) (mvT hZ (hw _ (List.mem_of_getElem? (i := 19) rfl))) (by decide) (backOf (W := 0) (rm5 l Z a0 hw [] ((Int32.ofNat (st + n)) - (Int32.ofNat st)) (1 : Int32) (own_tabs (own_v bs) st n st (-1) (-1)).1 (own_tabs (own_v bs) st n st (-1) (-1)).2 (-1 : Int32) a4 z h0 n0 Z0 (by decide) (by have q := hT; simp only [own_tab, if_pos hn0, if_pos hc107_43] at q; exact q)) hZ (hw _ (List.mem_of_getElem? (i := 19) rfl)) (hw _ (List.mem_of_getElem? (i := 12) rfl)) (by decide) (by decide)) (g := (mkF m 129 #[.val (.ref a1), .val (.int (Int32.ofNat st)), .val (.int (Int32.ofNat (st + n))), .val (.ref a4), .val (.int (own_tabs (own_v bs) st n st (-1) (-1)).1), .val (.int (own_tabs (own_v bs) st n st (-1) (-1)).2), .val (.int (-1 : Int32)), .val (.int (1 : Int32)), s8] [(.ref a4), (.int (-1 : Int32)), (.int (own_tabs (own_v bs) st n st (-1) (-1)).2), (.int (own_tabs (own_v bs) st n st (-1) (-1)).1), (.int (1 : Int32)), (.int ((Int32.ofNat (st + n)) - (Int32.ofNat st)))])) rfl (by rw [hml]; rfl) (argsL := [(.int ((Int32.ofNat (st + n)) - (Int32.ofNat st))), (.int (1 : Int32)), (.int (own_tabs (own_v bs) st n st (-1) (-1)).1), (.int (own_tabs (own_v bs) st n st (-1) (-1)).2), (.int (-1 : Int32)), (.ref a4)]) (rest := []) (lenOf own_pd0 rfl) rfl (by show 2 * 0 + _ ≤ _; exact Nat.le_of_eq rfl) (hb hby d4_129) (fun _ _ => ⟨rfl, e0, (by decide : 0 + 0 ≤ _), (by decide : 0 + 0 ≤ _)⟩)
      dsimp only [Pt.U, Pt.locs, Pt.cells, Pt.slots] at X44 l44 y44 z44 st44 hQ44
      rw [l44, y44, z44] at X44
      clear l44 y44 z44
      obtain ⟨rfl, N44q, e44⟩ := hQ44
      have N44 := Fr.app N0 N44q
      refine own_go ?_ (fun tq kt => st44 _ kt)
      show own_Fin _ _ _ _ (T44.setTop (mkF m 132 #[.val (.ref a1), .val (.int (Int32.ofNat st)), .val (.int (Int32.ofNat (st + n))), .val (.ref a4), .val (.int (own_tabs (own_v bs) st n st (-1) (-1)).1), .val (.int (own_tabs (own_v bs) st n st (-1) (-1)).2), .val (.int (-1 : Int32)), .val (.int (1 : Int32)), s8] [(.int z)]))
      refine own_retO X44 hx (t := .int) Bd.returns rfl (Or.inl ⟨rfl, Or.inl rfl, _, rfl⟩) (hb hby d4_132) hlk ?_ (by decide) (by decide)
      show QI z h0 n0 _ T44.heap _
      rw [e44]
      exact ⟨rfl, N44, rfl⟩
    · refine own_go ?_ (fun tq kt => XS.icmpYes X0.here hx rfl (pc0 := 107) (pc' := 114) rfl (hb hby d4_107) rfl (feq (hc107_43 : ¬ ((own_v bs st) = (35 : Int32)))).2 (by decide) (by decide) kt)
      show own_Fin _ _ _ _ (s₁.setTop (mkF m 114 #[.val (.ref a1), .val (.int (Int32.ofNat st)), .val (.int (Int32.ofNat (st + n))), .val (.ref a4), .val (.int (own_tabs (own_v bs) st n st (-1) (-1)).1), .val (.int (own_tabs (own_v bs) st n st (-1) (-1)).2), .val (.int (-1 : Int32)), .val (.int (Int32.ofNat (st + n))), s8] []))
      refine own_go ?_ (fun tq kt => XS.iconst X0.here hx rfl (hb hby d4_114) kt)
      show own_Fin _ _ _ _ (s₁.setTop (mkF m 115 #[.val (.ref a1), .val (.int (Int32.ofNat st)), .val (.int (Int32.ofNat (st + n))), .val (.ref a4), .val (.int (own_tabs (own_v bs) st n st (-1) (-1)).1), .val (.int (own_tabs (own_v bs) st n st (-1) (-1)).2), .val (.int (-1 : Int32)), .val (.int (Int32.ofNat (st + n))), s8] [(.int (0 : Int32))]))
      refine own_go ?_ (fun tq kt => XS.istore X0.here hx rfl (hb hby d4_115) rfl (l' := #[.val (.ref a1), .val (.int (Int32.ofNat st)), .val (.int (Int32.ofNat (st + n))), .val (.ref a4), .val (.int (own_tabs (own_v bs) st n st (-1) (-1)).1), .val (.int (own_tabs (own_v bs) st n st (-1) (-1)).2), .val (.int (-1 : Int32)), .val (.int (0 : Int32)), s8]) rfl kt)
      show own_Fin _ _ _ _ (s₁.setTop (mkF m 117 #[.val (.ref a1), .val (.int (Int32.ofNat st)), .val (.int (Int32.ofNat (st + n))), .val (.ref a4), .val (.int (own_tabs (own_v bs) st n st (-1) (-1)).1), .val (.int (own_tabs (own_v bs) st n st (-1) (-1)).2), .val (.int (-1 : Int32)), .val (.int (0 : Int32)), s8] []))
      refine own_go ?_ (fun tq kt => XS.iloadN X0.here hx rfl (hb hby d4_117) rfl kt)
      show own_Fin _ _ _ _ (s₁.setTop (mkF m 118 #[.val (.ref a1), .val (.int (Int32.ofNat st)), .val (.int (Int32.ofNat (st + n))), .val (.ref a4), .val (.int (own_tabs (own_v bs) st n st (-1) (-1)).1), .val (.int (own_tabs (own_v bs) st n st (-1) (-1)).2), .val (.int (-1 : Int32)), .val (.int (0 : Int32)), s8] [(.int (Int32.ofNat (st + n)))]))
      refine own_go ?_ (fun tq kt => XS.iloadN X0.here hx rfl (hb hby d4_118) rfl kt)
      show own_Fin _ _ _ _ (s₁.setTop (mkF m 119 #[.val (.ref a1), .val (.int (Int32.ofNat st)), .val (.int (Int32.ofNat (st + n))), .val (.ref a4), .val (.int (own_tabs (own_v bs) st n st (-1) (-1)).1), .val (.int (own_tabs (own_v bs) st n st (-1) (-1)).2), .val (.int (-1 : Int32)), .val (.int (0 : Int32)), s8] [(.int (Int32.ofNat st)), (.int (Int32.ofNat (st + n)))]))
      refine own_go ?_ (fun tq kt => XS.isub X0.here hx rfl (hb hby d4_119) rfl kt)
      show own_Fin _ _ _ _ (s₁.setTop (mkF m 120 #[.val (.ref a1), .val (.int (Int32.ofNat st)), .val (.int (Int32.ofNat (st + n))), .val (.ref a4), .val (.int (own_tabs (own_v bs) st n st (-1) (-1)).1), .val (.int (own_tabs (own_v bs) st n st (-1) (-1)).2), .val (.int (-1 : Int32)), .val (.int (0 : Int32)), s8] [(.int ((Int32.ofNat (st + n)) - (Int32.ofNat st)))]))
      refine own_go ?_ (fun tq kt => XS.iload X0.here hx rfl (hb hby d4_120) rfl kt)
      show own_Fin _ _ _ _ (s₁.setTop (mkF m 122 #[.val (.ref a1), .val (.int (Int32.ofNat st)), .val (.int (Int32.ofNat (st + n))), .val (.ref a4), .val (.int (own_tabs (own_v bs) st n st (-1) (-1)).1), .val (.int (own_tabs (own_v bs) st n st (-1) (-1)).2), .val (.int (-1 : Int32)), .val (.int (0 : Int32)), s8] [(.int (0 : Int32)), (.int ((Int32.ofNat (st + n)) - (Int32.ofNat st)))]))
      refine own_go ?_ (fun tq kt => XS.iload X0.here hx rfl (hb hby d4_122) rfl kt)
      show own_Fin _ _ _ _ (s₁.setTop (mkF m 124 #[.val (.ref a1), .val (.int (Int32.ofNat st)), .val (.int (Int32.ofNat (st + n))), .val (.ref a4), .val (.int (own_tabs (own_v bs) st n st (-1) (-1)).1), .val (.int (own_tabs (own_v bs) st n st (-1) (-1)).2), .val (.int (-1 : Int32)), .val (.int (0 : Int32)), s8] [(.int (own_tabs (own_v bs) st n st (-1) (-1)).1), (.int (0 : Int32)), (.int ((Int32.ofNat (st + n)) - (Int32.ofNat st)))]))
      refine own_go ?_ (fun tq kt => XS.iload X0.here hx rfl (hb hby d4_124) rfl kt)
      show own_Fin _ _ _ _ (s₁.setTop (mkF m 126 #[.val (.ref a1), .val (.int (Int32.ofNat st)), .val (.int (Int32.ofNat (st + n))), .val (.ref a4), .val (.int (own_tabs (own_v bs) st n st (-1) (-1)).1), .val (.int (own_tabs (own_v bs) st n st (-1) (-1)).2), .val (.int (-1 : Int32)), .val (.int (0 : Int32)), s8] [(.int (own_tabs (own_v bs) st n st (-1) (-1)).2), (.int (own_tabs (own_v bs) st n st (-1) (-1)).1), (.int (0 : Int32)), (.int ((Int32.ofNat (st + n)) - (Int32.ofNat st)))]))
      refine own_go ?_ (fun tq kt => XS.iload X0.here hx rfl (hb hby d4_126) rfl kt)
      show own_Fin _ _ _ _ (s₁.setTop (mkF m 128 #[.val (.ref a1), .val (.int (Int32.ofNat st)), .val (.int (Int32.ofNat (st + n))), .val (.ref a4), .val (.int (own_tabs (own_v bs) st n st (-1) (-1)).1), .val (.int (own_tabs (own_v bs) st n st (-1) (-1)).2), .val (.int (-1 : Int32)), .val (.int (0 : Int32)), s8] [(.int (-1 : Int32)), (.int (own_tabs (own_v bs) st n st (-1) (-1)).2), (.int (own_tabs (own_v bs) st n st (-1) (-1)).1), (.int (0 : Int32)), (.int ((Int32.ofNat (st + n)) - (Int32.ofNat st)))]))
      refine own_go ?_ (fun tq kt => XS.aloadN X0.here hx rfl (hb hby d4_128) rfl rfl kt)
      show own_Fin _ _ _ _ (s₁.setTop (mkF m 129 #[.val (.ref a1), .val (.int (Int32.ofNat st)), .val (.int (Int32.ofNat (st + n))), .val (.ref a4), .val (.int (own_tabs (own_v bs) st n st (-1) (-1)).1), .val (.int (own_tabs (own_v bs) st n st (-1) (-1)).2), .val (.int (-1 : Int32)), .val (.int (0 : Int32)), s8] [(.ref a4), (.int (-1 : Int32)), (.int (own_tabs (own_v bs) st n st (-1) (-1)).2), (.int (own_tabs (own_v bs) st n st (-1) (-1)).1), (.int (0 : Int32)), (.int ((Int32.ofNat (st + n)) - (Int32.ofNat st)))]))
      obtain ⟨_, _, ⟨T45, L45, k45, n45⟩, -, X45, ⟨Lc45, hQ45, l45, y45, z45⟩, st45⟩ := Jvm.LawKit.callS X0 hx (y := (⟨"com/example/wolf_spider/wolfspider/EdgeListLine", "entry", "(IZIIILcom/example/wolf_spider/wolfspider/EdgeListLine$Fields;)I"⟩ : MethodName)) hown (mvT hZ (hw _ (List.mem_of_getElem? (i := 17) rfl))) (mvT hZ (hw _ (List.mem_of_getElem? (i := 18) rfl))) (mvT hZ (hw _ (List.mem_of_getElem? (i := 12) rfl))) (mvT hZ (hw _ (List.mem_of_getElem? (i := 19) rfl))) (by decide) (backOf (W := 0) (rm5 l Z a0 hw [] ((Int32.ofNat (st + n)) - (Int32.ofNat st)) (0 : Int32) (own_tabs (own_v bs) st n st (-1) (-1)).1 (own_tabs (own_v bs) st n st (-1) (-1)).2 (-1 : Int32) a4 z h0 n0 Z0 (by decide) (by have q := hT; simp only [own_tab, if_pos hn0, if_neg hc107_43] at q; exact q)) hZ (hw _ (List.mem_of_getElem? (i := 19) rfl)) (hw _ (List.mem_of_getElem? (i := 12) rfl)) (by decide) (by decide)) (g := (mkF m 129 #[.val (.ref a1), .val (.int (Int32.ofNat st)), .val (.int (Int32.ofNat (st + n))), .val (.ref a4), .val (.int (own_tabs (own_v bs) st n st (-1) (-1)).1), .val (.int (own_tabs (own_v bs) st n st (-1) (-1)).2), .val (.int (-1 : Int32)), .val (.int (0 : Int32)), s8] [(.ref a4), (.int (-1 : Int32)), (.int (own_tabs (own_v bs) st n st (-1) (-1)).2), (.int (own_tabs (own_v bs) st n st (-1) (-1)).1), (.int (0 : Int32)), (.int ((Int32.ofNat (st + n)) - (Int32.ofNat st)))])) rfl (by rw [hml]; rfl) (argsL := [(.int ((Int32.ofNat (st + n)) - (Int32.ofNat st))), (.int (0 : Int32)), (.int (own_tabs (own_v bs) st n st (-1) (-1)).1), (.int (own_tabs (own_v bs) st n st (-1) (-1)).2), (.int (-1 : Int32)), (.ref a4)]) (rest := []) (lenOf own_pd0 rfl) rfl (by show 2 * 0 + _ ≤ _; exact Nat.le_of_eq rfl) (hb hby d4_129) (fun _ _ => ⟨rfl, e0, (by decide : 0 + 0 ≤ _), (by decide : 0 + 0 ≤ _)⟩)
      dsimp only [Pt.U, Pt.locs, Pt.cells, Pt.slots] at X45 l45 y45 z45 st45 hQ45
      rw [l45, y45, z45] at X45
      clear l45 y45 z45
      obtain ⟨rfl, N45q, e45⟩ := hQ45
      have N45 := Fr.app N0 N45q
      refine own_go ?_ (fun tq kt => st45 _ kt)
      show own_Fin _ _ _ _ (T45.setTop (mkF m 132 #[.val (.ref a1), .val (.int (Int32.ofNat st)), .val (.int (Int32.ofNat (st + n))), .val (.ref a4), .val (.int (own_tabs (own_v bs) st n st (-1) (-1)).1), .val (.int (own_tabs (own_v bs) st n st (-1) (-1)).2), .val (.int (-1 : Int32)), .val (.int (0 : Int32)), s8] [(.int z)]))
      refine own_retO X45 hx (t := .int) Bd.returns rfl (Or.inl ⟨rfl, Or.inl rfl, _, rfl⟩) (hb hby d4_132) hlk ?_ (by decide) (by decide)
      show QI z h0 n0 _ T45.heap _
      rw [e45]
      exact ⟨rfl, N45, rfl⟩
  · refine own_go ?_ (fun tq kt => XS.icmpYes X0.here hx rfl (pc0 := 99) (pc' := 114) rfl (hb hby d4_99) rfl (flt (hc99_41 : ¬ ((Int32.ofNat st) < (Int32.ofNat (st + n))))).2.2.2 (by decide) (by decide) kt)
    show own_Fin _ _ _ _ (s₁.setTop (mkF m 114 #[.val (.ref a1), .val (.int (Int32.ofNat st)), .val (.int (Int32.ofNat (st + n))), .val (.ref a4), .val (.int (own_tabs (own_v bs) st n st (-1) (-1)).1), .val (.int (own_tabs (own_v bs) st n st (-1) (-1)).2), .val (.int (-1 : Int32)), .val (.int (Int32.ofNat (st + n))), s8] []))
    refine own_go ?_ (fun tq kt => XS.iconst X0.here hx rfl (hb hby d4_114) kt)
    show own_Fin _ _ _ _ (s₁.setTop (mkF m 115 #[.val (.ref a1), .val (.int (Int32.ofNat st)), .val (.int (Int32.ofNat (st + n))), .val (.ref a4), .val (.int (own_tabs (own_v bs) st n st (-1) (-1)).1), .val (.int (own_tabs (own_v bs) st n st (-1) (-1)).2), .val (.int (-1 : Int32)), .val (.int (Int32.ofNat (st + n))), s8] [(.int (0 : Int32))]))
    refine own_go ?_ (fun tq kt => XS.istore X0.here hx rfl (hb hby d4_115) rfl (l' := #[.val (.ref a1), .val (.int (Int32.ofNat st)), .val (.int (Int32.ofNat (st + n))), .val (.ref a4), .val (.int (own_tabs (own_v bs) st n st (-1) (-1)).1), .val (.int (own_tabs (own_v bs) st n st (-1) (-1)).2), .val (.int (-1 : Int32)), .val (.int (0 : Int32)), s8]) rfl kt)
    show own_Fin _ _ _ _ (s₁.setTop (mkF m 117 #[.val (.ref a1), .val (.int (Int32.ofNat st)), .val (.int (Int32.ofNat (st + n))), .val (.ref a4), .val (.int (own_tabs (own_v bs) st n st (-1) (-1)).1), .val (.int (own_tabs (own_v bs) st n st (-1) (-1)).2), .val (.int (-1 : Int32)), .val (.int (0 : Int32)), s8] []))
    refine own_go ?_ (fun tq kt => XS.iloadN X0.here hx rfl (hb hby d4_117) rfl kt)
    show own_Fin _ _ _ _ (s₁.setTop (mkF m 118 #[.val (.ref a1), .val (.int (Int32.ofNat st)), .val (.int (Int32.ofNat (st + n))), .val (.ref a4), .val (.int (own_tabs (own_v bs) st n st (-1) (-1)).1), .val (.int (own_tabs (own_v bs) st n st (-1) (-1)).2), .val (.int (-1 : Int32)), .val (.int (0 : Int32)), s8] [(.int (Int32.ofNat (st + n)))]))
    refine own_go ?_ (fun tq kt => XS.iloadN X0.here hx rfl (hb hby d4_118) rfl kt)
    show own_Fin _ _ _ _ (s₁.setTop (mkF m 119 #[.val (.ref a1), .val (.int (Int32.ofNat st)), .val (.int (Int32.ofNat (st + n))), .val (.ref a4), .val (.int (own_tabs (own_v bs) st n st (-1) (-1)).1), .val (.int (own_tabs (own_v bs) st n st (-1) (-1)).2), .val (.int (-1 : Int32)), .val (.int (0 : Int32)), s8] [(.int (Int32.ofNat st)), (.int (Int32.ofNat (st + n)))]))
    refine own_go ?_ (fun tq kt => XS.isub X0.here hx rfl (hb hby d4_119) rfl kt)
    show own_Fin _ _ _ _ (s₁.setTop (mkF m 120 #[.val (.ref a1), .val (.int (Int32.ofNat st)), .val (.int (Int32.ofNat (st + n))), .val (.ref a4), .val (.int (own_tabs (own_v bs) st n st (-1) (-1)).1), .val (.int (own_tabs (own_v bs) st n st (-1) (-1)).2), .val (.int (-1 : Int32)), .val (.int (0 : Int32)), s8] [(.int ((Int32.ofNat (st + n)) - (Int32.ofNat st)))]))
    refine own_go ?_ (fun tq kt => XS.iload X0.here hx rfl (hb hby d4_120) rfl kt)
    show own_Fin _ _ _ _ (s₁.setTop (mkF m 122 #[.val (.ref a1), .val (.int (Int32.ofNat st)), .val (.int (Int32.ofNat (st + n))), .val (.ref a4), .val (.int (own_tabs (own_v bs) st n st (-1) (-1)).1), .val (.int (own_tabs (own_v bs) st n st (-1) (-1)).2), .val (.int (-1 : Int32)), .val (.int (0 : Int32)), s8] [(.int (0 : Int32)), (.int ((Int32.ofNat (st + n)) - (Int32.ofNat st)))]))
    refine own_go ?_ (fun tq kt => XS.iload X0.here hx rfl (hb hby d4_122) rfl kt)
    show own_Fin _ _ _ _ (s₁.setTop (mkF m 124 #[.val (.ref a1), .val (.int (Int32.ofNat st)), .val (.int (Int32.ofNat (st + n))), .val (.ref a4), .val (.int (own_tabs (own_v bs) st n st (-1) (-1)).1), .val (.int (own_tabs (own_v bs) st n st (-1) (-1)).2), .val (.int (-1 : Int32)), .val (.int (0 : Int32)), s8] [(.int (own_tabs (own_v bs) st n st (-1) (-1)).1), (.int (0 : Int32)), (.int ((Int32.ofNat (st + n)) - (Int32.ofNat st)))]))
    refine own_go ?_ (fun tq kt => XS.iload X0.here hx rfl (hb hby d4_124) rfl kt)
    show own_Fin _ _ _ _ (s₁.setTop (mkF m 126 #[.val (.ref a1), .val (.int (Int32.ofNat st)), .val (.int (Int32.ofNat (st + n))), .val (.ref a4), .val (.int (own_tabs (own_v bs) st n st (-1) (-1)).1), .val (.int (own_tabs (own_v bs) st n st (-1) (-1)).2), .val (.int (-1 : Int32)), .val (.int (0 : Int32)), s8] [(.int (own_tabs (own_v bs) st n st (-1) (-1)).2), (.int (own_tabs (own_v bs) st n st (-1) (-1)).1), (.int (0 : Int32)), (.int ((Int32.ofNat (st + n)) - (Int32.ofNat st)))]))
    refine own_go ?_ (fun tq kt => XS.iload X0.here hx rfl (hb hby d4_126) rfl kt)
    show own_Fin _ _ _ _ (s₁.setTop (mkF m 128 #[.val (.ref a1), .val (.int (Int32.ofNat st)), .val (.int (Int32.ofNat (st + n))), .val (.ref a4), .val (.int (own_tabs (own_v bs) st n st (-1) (-1)).1), .val (.int (own_tabs (own_v bs) st n st (-1) (-1)).2), .val (.int (-1 : Int32)), .val (.int (0 : Int32)), s8] [(.int (-1 : Int32)), (.int (own_tabs (own_v bs) st n st (-1) (-1)).2), (.int (own_tabs (own_v bs) st n st (-1) (-1)).1), (.int (0 : Int32)), (.int ((Int32.ofNat (st + n)) - (Int32.ofNat st)))]))
    refine own_go ?_ (fun tq kt => XS.aloadN X0.here hx rfl (hb hby d4_128) rfl rfl kt)
    show own_Fin _ _ _ _ (s₁.setTop (mkF m 129 #[.val (.ref a1), .val (.int (Int32.ofNat st)), .val (.int (Int32.ofNat (st + n))), .val (.ref a4), .val (.int (own_tabs (own_v bs) st n st (-1) (-1)).1), .val (.int (own_tabs (own_v bs) st n st (-1) (-1)).2), .val (.int (-1 : Int32)), .val (.int (0 : Int32)), s8] [(.ref a4), (.int (-1 : Int32)), (.int (own_tabs (own_v bs) st n st (-1) (-1)).2), (.int (own_tabs (own_v bs) st n st (-1) (-1)).1), (.int (0 : Int32)), (.int ((Int32.ofNat (st + n)) - (Int32.ofNat st)))]))
    obtain ⟨_, _, ⟨T46, L46, k46, n46⟩, -, X46, ⟨Lc46, hQ46, l46, y46, z46⟩, st46⟩ := Jvm.LawKit.callS X0 hx (y := (⟨"com/example/wolf_spider/wolfspider/EdgeListLine", "entry", "(IZIIILcom/example/wolf_spider/wolfspider/EdgeListLine$Fields;)I"⟩ : MethodName)) hown (mvT hZ (hw _ (List.mem_of_getElem? (i := 17) rfl))) (mvT hZ (hw _ (List.mem_of_getElem? (i := 18) rfl))) (mvT hZ (hw _ (List.mem_of_getElem? (i := 12) rfl))) (mvT hZ (hw _ (List.mem_of_getElem? (i := 19) rfl))) (by decide) (backOf (W := 0) (rm5 l Z a0 hw [] ((Int32.ofNat (st + n)) - (Int32.ofNat st)) (0 : Int32) (own_tabs (own_v bs) st n st (-1) (-1)).1 (own_tabs (own_v bs) st n st (-1) (-1)).2 (-1 : Int32) a4 z h0 n0 Z0 (by decide) (by have hn0 : ¬ 0 < n := fun q => hc99_41 ((own_ltN (by omega) (by omega)).mpr (by omega)); have q := hT; simp only [own_tab, if_neg hn0] at q; exact q)) hZ (hw _ (List.mem_of_getElem? (i := 19) rfl)) (hw _ (List.mem_of_getElem? (i := 12) rfl)) (by decide) (by decide)) (g := (mkF m 129 #[.val (.ref a1), .val (.int (Int32.ofNat st)), .val (.int (Int32.ofNat (st + n))), .val (.ref a4), .val (.int (own_tabs (own_v bs) st n st (-1) (-1)).1), .val (.int (own_tabs (own_v bs) st n st (-1) (-1)).2), .val (.int (-1 : Int32)), .val (.int (0 : Int32)), s8] [(.ref a4), (.int (-1 : Int32)), (.int (own_tabs (own_v bs) st n st (-1) (-1)).2), (.int (own_tabs (own_v bs) st n st (-1) (-1)).1), (.int (0 : Int32)), (.int ((Int32.ofNat (st + n)) - (Int32.ofNat st)))])) rfl (by rw [hml]; rfl) (argsL := [(.int ((Int32.ofNat (st + n)) - (Int32.ofNat st))), (.int (0 : Int32)), (.int (own_tabs (own_v bs) st n st (-1) (-1)).1), (.int (own_tabs (own_v bs) st n st (-1) (-1)).2), (.int (-1 : Int32)), (.ref a4)]) (rest := []) (lenOf own_pd0 rfl) rfl (by show 2 * 0 + _ ≤ _; exact Nat.le_of_eq rfl) (hb hby d4_129) (fun _ _ => ⟨rfl, e0, (by decide : 0 + 0 ≤ _), (by decide : 0 + 0 ≤ _)⟩)
    dsimp only [Pt.U, Pt.locs, Pt.cells, Pt.slots] at X46 l46 y46 z46 st46 hQ46
    rw [l46, y46, z46] at X46
    clear l46 y46 z46
    obtain ⟨rfl, N46q, e46⟩ := hQ46
    have N46 := Fr.app N0 N46q
    refine own_go ?_ (fun tq kt => st46 _ kt)
    show own_Fin _ _ _ _ (T46.setTop (mkF m 132 #[.val (.ref a1), .val (.int (Int32.ofNat st)), .val (.int (Int32.ofNat (st + n))), .val (.ref a4), .val (.int (own_tabs (own_v bs) st n st (-1) (-1)).1), .val (.int (own_tabs (own_v bs) st n st (-1) (-1)).2), .val (.int (-1 : Int32)), .val (.int (0 : Int32)), s8] [(.int z)]))
    refine own_retO X46 hx (t := .int) Bd.returns rfl (Or.inl ⟨rfl, Or.inl rfl, _, rfl⟩) (hb hby d4_132) hlk ?_ (by decide) (by decide)
    show QI z h0 n0 _ T46.heap _
    rw [e46]
    exact ⟨rfl, N46, rfl⟩
theorem pn_0 : plainFor (⟨"com/example/wolf_spider/wolfspider/EdgeListLineTabPinLaw", "law", "(IIII)Z"⟩ : MethodName) = true := plainFor_of_name (by first | (simp [plainName, overriddenIn]; done) | decide +kernel)
set_option maxRecDepth 65536 in
set_option maxHeartbeats 40000000 in
theorem rm0 (l : Launch) (Z : State) (a0 : Array Value) (hw : ∀ d ∈ tables_1, d.before a0 Z = true) (ws : List Jvm.Cond) (p1 : Int32) (p2 : Int32) (p3 : Int32) (p4 : Int32) (lk : Addr) (h0 : Heap) (n0 : Nat) (Z0 : n0 ≤ h0.size) (O0 : Old Z n0 h0) (SL : Sta Z Z.heap "com/example/wolf_spider/wolfspider/EdgeListLine" "LINK" "Lcom/example/wolf_spider/wolfspider/EdgeListLine$Fields;" (.ref lk)) :
    MetFree l x (head1 (Jvm.Cond.code x code maxLocals ret :: ws) room_1) (fun a U => a = #[(.int p1), (.int p2), (.int p3), (.int p4)] ∧ Z.Warmed39 U.vm ∧ U.heap = h0) (fun _ _ _ _ _ => True) (fun _ U o U' => ∃ v L, o = .returned v ∧ Q0 n0 v U'.heap L ∧ FrameEnd U o U' L room_1.cells room_1.slots) := by
  refine MetFree.of_bodySF pn_0 hisR ?_
  intro p e s m args below meth c s₁ Bd hml0 hP hK
  obtain ⟨rfl, hZ, hh⟩ := hP
  have hx := Bd.exec
  have hby := Bd.bytes
  have hml : c.maxLocals = 15 := hml0
  have hown : s.vm.findClass "com/example/wolf_spider/wolfspider/EdgeListLineTabPinLaw" = some m.cls := findClass_of_methodNamed Bd.named
  have hnm := (name_of_methodNamed Bd.named Bd.method).1
  have hlk : meth.locks = false := BodyLoose.notSynchronized Bd
  have X0 : Stand p l e room_1 s m #[(.int p1), (.int p2), (.int p3), (.int p4)] below meth c s₁ [] 0 0 := Stand.of_body Bd
  have e0 : s₁.heap = h0 := by rw [← hh, Bd.state]; rfl
  have N0 := Fr.nil n0
  show own_Fin p e below (own_P (Q0 n0) s room_1.cells room_1.slots) (s₁.setTop (entryFrame m #[(.int p1), (.int p2), (.int p3), (.int p4)] maxLocals))
  rw [show entryFrame m #[(.int p1), (.int p2), (.int p3), (.int p4)] maxLocals = mkF m 0 #[.val (.int p1), .val (.int p2), .val (.int p3), .val (.int p4), .unset, .unset, .unset, .unset, .unset, .unset, .unset, .unset, .unset, .unset, .unset] [] from by first | (simp [entryFrame, mkF, argsToLocals, Value.category, maxLocals]; done) | rfl]
  refine own_go ?_ (fun tq kt => XS.bipush X0.here hx rfl (hb hby at_0) kt)
  show own_Fin _ _ _ _ (s₁.setTop (mkF m 2 #[.val (.int p1), .val (.int p2), .val (.int p3), .val (.int p4), .unset, .unset, .unset, .unset, .unset, .unset, .unset, .unset, .unset, .unset, .unset] [(.int (6 : Int32))]))
  obtain ⟨T126, h126, k126, X126, e126, E126, A126, st126⟩ := newP X0 hx hZ (hw _ (List.mem_of_getElem? (i := 0) rfl)) e0 (g := (mkF m 2 #[.val (.int p1), .val (.int p2), .val (.int p3), .val (.int p4), .unset, .unset, .unset, .unset, .unset, .unset, .unset, .unset, .unset, .unset, .unset] [(.int (6 : Int32))])) rfl (hb hby at_2) rfl (by decide) (cap := 6) (by decide) (by decide) (by decide) (by decide)
  obtain ⟨b126, g126⟩ : ∃ z, z = h0.size := ⟨_, rfl⟩
  rw [← g126] at A126 st126
  have V126 : Arv Z h126 b126 k126 .byte (6 : Int32) [(.int (0 : Int32)), (.int (0 : Int32)), (.int (0 : Int32)), (.int (0 : Int32)), (.int (0 : Int32)), (.int (0 : Int32))] (.int (0 : Int32)) := (Arv.new A126 (by decide)).pad (pad_rep [] (.int (0 : Int32)) 6)
  have zs127 := Nat.le_trans Z0 E126.1
  have od127 := O0.ext E126
  have g_b126 : n0 ≤ b126 := Nat.le_trans Z0 (Nat.le_of_eq g126.symm)
  refine own_go ?_ (fun tq kt => st126 _ kt)
  show own_Fin _ _ _ _ (T126.setTop (mkF m 4 #[.val (.int p1), .val (.int p2), .val (.int p3), .val (.int p4), .unset, .unset, .unset, .unset, .unset, .unset, .unset, .unset, .unset, .unset, .unset] [(.ref b126)]))
  refine own_go ?_ (fun tq kt => XS.astore X126.here hx rfl (hb hby at_4) rfl rfl (l' := #[.val (.int p1), .val (.int p2), .val (.int p3), .val (.int p4), .val (.ref b126), .unset, .unset, .unset, .unset, .unset, .unset, .unset, .unset, .unset, .unset]) rfl kt)
  show own_Fin _ _ _ _ (T126.setTop (mkF m 6 #[.val (.int p1), .val (.int p2), .val (.int p3), .val (.int p4), .val (.ref b126), .unset, .unset, .unset, .unset, .unset, .unset, .unset, .unset, .unset, .unset] []))
  refine own_go ?_ (fun tq kt => XS.aload X126.here hx rfl (hb hby at_6) rfl rfl kt)
  show own_Fin _ _ _ _ (T126.setTop (mkF m 8 #[.val (.int p1), .val (.int p2), .val (.int p3), .val (.int p4), .val (.ref b126), .unset, .unset, .unset, .unset, .unset, .unset, .unset, .unset, .unset, .unset] [(.ref b126)]))
  refine own_go ?_ (fun tq kt => XS.iconst X126.here hx rfl (hb hby at_8) kt)
  show own_Fin _ _ _ _ (T126.setTop (mkF m 9 #[.val (.int p1), .val (.int p2), .val (.int p3), .val (.int p4), .val (.ref b126), .unset, .unset, .unset, .unset, .unset, .unset, .unset, .unset, .unset, .unset] [(.int (0 : Int32)), (.ref b126)]))
  refine own_go ?_ (fun tq kt => XS.iloadN X126.here hx rfl (hb hby at_9) rfl kt)
  show own_Fin _ _ _ _ (T126.setTop (mkF m 10 #[.val (.int p1), .val (.int p2), .val (.int p3), .val (.int p4), .val (.ref b126), .unset, .unset, .unset, .unset, .unset, .unset, .unset, .unset, .unset, .unset] [(.int p1), (.int (0 : Int32)), (.ref b126)]))
  obtain ⟨z128, hz128⟩ : ∃ z, own_pick p1 = z := ⟨_, rfl⟩
  obtain ⟨_, _, ⟨T129, L129, k129, n129⟩, -, X129, ⟨Lc129, hQ129, l129, y129, z129⟩, st129⟩ := Jvm.LawKit.callS X126 hx (y := (⟨"com/example/wolf_spider/wolfspider/EdgeListLineTabPinLaw", "pick", "(I)B"⟩ : MethodName)) hown (mvT hZ (hw _ (List.mem_of_getElem? (i := 1) rfl))) (mvT hZ (hw _ (List.mem_of_getElem? (i := 2) rfl))) (mvT hZ (hw _ (List.mem_of_getElem? (i := 3) rfl))) (mvT hZ (hw _ (List.mem_of_getElem? (i := 4) rfl))) (by decide) (backOf (W := 2) (rm1 l Z a0 hw [] p1 z128 h126 n0 zs127 hz128) hZ (hw _ (List.mem_of_getElem? (i := 4) rfl)) (hw _ (List.mem_of_getElem? (i := 3) rfl)) (by decide) (by decide)) (g := (mkF m 10 #[.val (.int p1), .val (.int p2), .val (.int p3), .val (.int p4), .val (.ref b126), .unset, .unset, .unset, .unset, .unset, .unset, .unset, .unset, .unset, .unset] [(.int p1), (.int (0 : Int32)), (.ref b126)])) rfl (by rw [hml]; rfl) (argsL := [(.int p1)]) (rest := [(.int (0 : Int32)), (.ref b126)]) (lenOf own_pd1 rfl) rfl (by show 2 * 0 + _ ≤ _; exact Nat.le_of_eq rfl) (hb hby at_10) (fun _ _ => ⟨rfl, e126, (by decide : 1 + 0 ≤ _), (by decide : 6 + 0 ≤ _)⟩)
  dsimp only [Pt.U, Pt.locs, Pt.cells, Pt.slots] at X129 l129 y129 z129 st129 hQ129
  rw [l129, y129, z129] at X129
  clear l129 y129 z129
  obtain ⟨rfl, N129q, e129⟩ := hQ129
  have N129 := Fr.app N0 N129q
  refine own_go ?_ (fun tq kt => st129 _ kt)
  show own_Fin _ _ _ _ (T129.setTop (mkF m 13 #[.val (.int p1), .val (.int p2), .val (.int p3), .val (.int p4), .val (.ref b126), .unset, .unset, .unset, .unset, .unset, .unset, .unset, .unset, .unset, .unset] [(.int z128), (.int (0 : Int32)), (.ref b126)]))
  obtain ⟨cl130, Ar130, q130, S130, M130, H130, G130⟩ := id V126
  obtain ⟨T131, h131, X131, e131, W131, st131⟩ := stB X129 hx hZ e129 Ar130 (j := (0 : Int32)) (inb_of S130 ⟨by decide, by decide⟩) (g := (mkF m 13 #[.val (.int p1), .val (.int p2), .val (.int p3), .val (.int p4), .val (.ref b126), .unset, .unset, .unset, .unset, .unset, .unset, .unset, .unset, .unset, .unset] [(.int z128), (.int (0 : Int32)), (.ref b126)])) rfl rfl (hb hby at_13)
  have zs132 := Nat.le_trans zs127 (Keep.of_wr W131).1
  have od132 := od127.wr W131 g_b126
  have V131 : Arv Z h131 b126 k126 .byte (6 : Int32) [(.int (nar .byte z128)), (.int (0 : Int32)), (.int (0 : Int32)), (.int (0 : Int32)), (.int (0 : Int32)), (.int (0 : Int32))] (.int (0 : Int32)) := Arv.set Ar130 q130 S130 M130 H130 G130 (fits_nar_byte _) W131 0 rfl (Nat.le_of_ble_eq_true rfl)
  have N131 := Fr.snoc X131 N129 g_b126
  refine own_go ?_ (fun tq kt => st131 _ kt)
  show own_Fin _ _ _ _ (T131.setTop (mkF m 14 #[.val (.int p1), .val (.int p2), .val (.int p3), .val (.int p4), .val (.ref b126), .unset, .unset, .unset, .unset, .unset, .unset, .unset, .unset, .unset, .unset] []))
  refine own_go ?_ (fun tq kt => XS.aload X131.here hx rfl (hb hby at_14) rfl rfl kt)
  show own_Fin _ _ _ _ (T131.setTop (mkF m 16 #[.val (.int p1), .val (.int p2), .val (.int p3), .val (.int p4), .val (.ref b126), .unset, .unset, .unset, .unset, .unset, .unset, .unset, .unset, .unset, .unset] [(.ref b126)]))
  refine own_go ?_ (fun tq kt => XS.iconst X131.here hx rfl (hb hby at_16) kt)
  show own_Fin _ _ _ _ (T131.setTop (mkF m 17 #[.val (.int p1), .val (.int p2), .val (.int p3), .val (.int p4), .val (.ref b126), .unset, .unset, .unset, .unset, .unset, .unset, .unset, .unset, .unset, .unset] [(.int (1 : Int32)), (.ref b126)]))
  refine own_go ?_ (fun tq kt => XS.iloadN X131.here hx rfl (hb hby at_17) rfl kt)
  show own_Fin _ _ _ _ (T131.setTop (mkF m 18 #[.val (.int p1), .val (.int p2), .val (.int p3), .val (.int p4), .val (.ref b126), .unset, .unset, .unset, .unset, .unset, .unset, .unset, .unset, .unset, .unset] [(.int p1), (.int (1 : Int32)), (.ref b126)]))
  refine own_go ?_ (fun tq kt => XS.bipush X131.here hx rfl (hb hby at_18) kt)
  show own_Fin _ _ _ _ (T131.setTop (mkF m 20 #[.val (.int p1), .val (.int p2), .val (.int p3), .val (.int p4), .val (.ref b126), .unset, .unset, .unset, .unset, .unset, .unset, .unset, .unset, .unset, .unset] [(.int (16 : Int32)), (.int p1), (.int (1 : Int32)), (.ref b126)]))
  refine own_go ?_ (fun tq kt => XS.iushr X131.here hx rfl (hb hby at_20) rfl kt)
  show own_Fin _ _ _ _ (T131.setTop (mkF m 21 #[.val (.int p1), .val (.int p2), .val (.int p3), .val (.int p4), .val (.ref b126), .unset, .unset, .unset, .unset, .unset, .unset, .unset, .unset, .unset, .unset] [(.int ((p1.toUInt32 >>> ((16 : Int32) &&& 31).toUInt32).toInt32)), (.int (1 : Int32)), (.ref b126)]))
  obtain ⟨z133, hz133⟩ : ∃ z, own_pick ((p1.toUInt32 >>> ((16 : Int32) &&& 31).toUInt32).toInt32) = z := ⟨_, rfl⟩
  obtain ⟨_, _, ⟨T134, L134, k134, n134⟩, -, X134, ⟨Lc134, hQ134, l134, y134, z134⟩, st134⟩ := Jvm.LawKit.callS X131 hx (y := (⟨"com/example/wolf_spider/wolfspider/EdgeListLineTabPinLaw", "pick", "(I)B"⟩ : MethodName)) hown (mvT hZ (hw _ (List.mem_of_getElem? (i := 1) rfl))) (mvT hZ (hw _ (List.mem_of_getElem? (i := 2) rfl))) (mvT hZ (hw _ (List.mem_of_getElem? (i := 3) rfl))) (mvT hZ (hw _ (List.mem_of_getElem? (i := 4) rfl))) (by decide) (backOf (W := 2) (rm1 l Z a0 hw [] ((p1.toUInt32 >>> ((16 : Int32) &&& 31).toUInt32).toInt32) z133 h131 n0 zs132 hz133) hZ (hw _ (List.mem_of_getElem? (i := 4) rfl)) (hw _ (List.mem_of_getElem? (i := 3) rfl)) (by decide) (by decide)) (g := (mkF m 21 #[.val (.int p1), .val (.int p2), .val (.int p3), .val (.int p4), .val (.ref b126), .unset, .unset, .unset, .unset, .unset, .unset, .unset, .unset, .unset, .unset] [(.int ((p1.toUInt32 >>> ((16 : Int32) &&& 31).toUInt32).toInt32)), (.int (1 : Int32)), (.ref b126)])) rfl (by rw [hml]; rfl) (argsL := [(.int ((p1.toUInt32 >>> ((16 : Int32) &&& 31).toUInt32).toInt32))]) (rest := [(.int (1 : Int32)), (.ref b126)]) (lenOf own_pd1 rfl) rfl (by show 2 * 0 + _ ≤ _; exact Nat.le_of_eq rfl) (hb hby at_21) (fun _ _ => ⟨rfl, e131, (by decide : 1 + 0 ≤ _), (by decide : 6 + 0 ≤ _)⟩)
  dsimp only [Pt.U, Pt.locs, Pt.cells, Pt.slots] at X134 l134 y134 z134 st134 hQ134
  rw [l134, y134, z134] at X134
  clear l134 y134 z134
  obtain ⟨rfl, N134q, e134⟩ := hQ134
  have N134 := Fr.app N131 N134q
  refine own_go ?_ (fun tq kt => st134 _ kt)
  show own_Fin _ _ _ _ (T134.setTop (mkF m 24 #[.val (.int p1), .val (.int p2), .val (.int p3), .val (.int p4), .val (.ref b126), .unset, .unset, .unset, .unset, .unset, .unset, .unset, .unset, .unset, .unset] [(.int z133), (.int (1 : Int32)), (.ref b126)]))
  obtain ⟨cl135, Ar135, q135, S135, M135, H135, G135⟩ := id V131
  obtain ⟨T136, h136, X136, e136, W136, st136⟩ := stB X134 hx hZ e134 Ar135 (j := (1 : Int32)) (inb_of S135 ⟨by decide, by decide⟩) (g := (mkF m 24 #[.val (.int p1), .val (.int p2), .val (.int p3), .val (.int p4), .val (.ref b126), .unset, .unset, .unset, .unset, .unset, .unset, .unset, .unset, .unset, .unset] [(.int z133), (.int (1 : Int32)), (.ref b126)])) rfl rfl (hb hby at_24)
  have zs137 := Nat.le_trans zs132 (Keep.of_wr W136).1
  have od137 := od132.wr W136 g_b126
  have V136 : Arv Z h136 b126 k126 .byte (6 : Int32) [(.int (nar .byte z128)), (.int (nar .byte z133)), (.int (0 : Int32)), (.int (0 : Int32)), (.int (0 : Int32)), (.int (0 : Int32))] (.int (0 : Int32)) := Arv.set Ar135 q135 S135 M135 H135 G135 (fits_nar_byte _) W136 1 rfl (Nat.le_of_ble_eq_true rfl)
  have N136 := Fr.snoc X136 N134 g_b126
  refine own_go ?_ (fun tq kt => st136 _ kt)
  show own_Fin _ _ _ _ (T136.setTop (mkF m 25 #[.val (.int p1), .val (.int p2), .val (.int p3), .val (.int p4), .val (.ref b126), .unset, .unset, .unset, .unset, .unset, .unset, .unset, .unset, .unset, .unset] []))
  refine own_go ?_ (fun tq kt => XS.aload X136.here hx rfl (hb hby at_25) rfl rfl kt)
  show own_Fin _ _ _ _ (T136.setTop (mkF m 27 #[.val (.int p1), .val (.int p2), .val (.int p3), .val (.int p4), .val (.ref b126), .unset, .unset, .unset, .unset, .unset, .unset, .unset, .unset, .unset, .unset] [(.ref b126)]))
  refine own_go ?_ (fun tq kt => XS.iconst X136.here hx rfl (hb hby at_27) kt)
  show own_Fin _ _ _ _ (T136.setTop (mkF m 28 #[.val (.int p1), .val (.int p2), .val (.int p3), .val (.int p4), .val (.ref b126), .unset, .unset, .unset, .unset, .unset, .unset, .unset, .unset, .unset, .unset] [(.int (2 : Int32)), (.ref b126)]))
  refine own_go ?_ (fun tq kt => XS.iloadN X136.here hx rfl (hb hby at_28) rfl kt)
  show own_Fin _ _ _ _ (T136.setTop (mkF m 29 #[.val (.int p1), .val (.int p2), .val (.int p3), .val (.int p4), .val (.ref b126), .unset, .unset, .unset, .unset, .unset, .unset, .unset, .unset, .unset, .unset] [(.int p2), (.int (2 : Int32)), (.ref b126)]))
  obtain ⟨z138, hz138⟩ : ∃ z, own_pick p2 = z := ⟨_, rfl⟩
  obtain ⟨_, _, ⟨T139, L139, k139, n139⟩, -, X139, ⟨Lc139, hQ139, l139, y139, z139⟩, st139⟩ := Jvm.LawKit.callS X136 hx (y := (⟨"com/example/wolf_spider/wolfspider/EdgeListLineTabPinLaw", "pick", "(I)B"⟩ : MethodName)) hown (mvT hZ (hw _ (List.mem_of_getElem? (i := 1) rfl))) (mvT hZ (hw _ (List.mem_of_getElem? (i := 2) rfl))) (mvT hZ (hw _ (List.mem_of_getElem? (i := 3) rfl))) (mvT hZ (hw _ (List.mem_of_getElem? (i := 4) rfl))) (by decide) (backOf (W := 2) (rm1 l Z a0 hw [] p2 z138 h136 n0 zs137 hz138) hZ (hw _ (List.mem_of_getElem? (i := 4) rfl)) (hw _ (List.mem_of_getElem? (i := 3) rfl)) (by decide) (by decide)) (g := (mkF m 29 #[.val (.int p1), .val (.int p2), .val (.int p3), .val (.int p4), .val (.ref b126), .unset, .unset, .unset, .unset, .unset, .unset, .unset, .unset, .unset, .unset] [(.int p2), (.int (2 : Int32)), (.ref b126)])) rfl (by rw [hml]; rfl) (argsL := [(.int p2)]) (rest := [(.int (2 : Int32)), (.ref b126)]) (lenOf own_pd1 rfl) rfl (by show 2 * 0 + _ ≤ _; exact Nat.le_of_eq rfl) (hb hby at_29) (fun _ _ => ⟨rfl, e136, (by decide : 1 + 0 ≤ _), (by decide : 6 + 0 ≤ _)⟩)
  dsimp only [Pt.U, Pt.locs, Pt.cells, Pt.slots] at X139 l139 y139 z139 st139 hQ139
  rw [l139, y139, z139] at X139
  clear l139 y139 z139
  obtain ⟨rfl, N139q, e139⟩ := hQ139
  have N139 := Fr.app N136 N139q
  refine own_go ?_ (fun tq kt => st139 _ kt)
  show own_Fin _ _ _ _ (T139.setTop (mkF m 32 #[.val (.int p1), .val (.int p2), .val (.int p3), .val (.int p4), .val (.ref b126), .unset, .unset, .unset, .unset, .unset, .unset, .unset, .unset, .unset, .unset] [(.int z138), (.int (2 : Int32)), (.ref b126)]))
  obtain ⟨cl140, Ar140, q140, S140, M140, H140, G140⟩ := id V136
  obtain ⟨T141, h141, X141, e141, W141, st141⟩ := stB X139 hx hZ e139 Ar140 (j := (2 : Int32)) (inb_of S140 ⟨by decide, by decide⟩) (g := (mkF m 32 #[.val (.int p1), .val (.int p2), .val (.int p3), .val (.int p4), .val (.ref b126), .unset, .unset, .unset, .unset, .unset, .unset, .unset, .unset, .unset, .unset] [(.int z138), (.int (2 : Int32)), (.ref b126)])) rfl rfl (hb hby at_32)
  have zs142 := Nat.le_trans zs137 (Keep.of_wr W141).1
  have od142 := od137.wr W141 g_b126
  have V141 : Arv Z h141 b126 k126 .byte (6 : Int32) [(.int (nar .byte z128)), (.int (nar .byte z133)), (.int (nar .byte z138)), (.int (0 : Int32)), (.int (0 : Int32)), (.int (0 : Int32))] (.int (0 : Int32)) := Arv.set Ar140 q140 S140 M140 H140 G140 (fits_nar_byte _) W141 2 rfl (Nat.le_of_ble_eq_true rfl)
  have N141 := Fr.snoc X141 N139 g_b126
  refine own_go ?_ (fun tq kt => st141 _ kt)
  show own_Fin _ _ _ _ (T141.setTop (mkF m 33 #[.val (.int p1), .val (.int p2), .val (.int p3), .val (.int p4), .val (.ref b126), .unset, .unset, .unset, .unset, .unset, .unset, .unset, .unset, .unset, .unset] []))
  refine own_go ?_ (fun tq kt => XS.aload X141.here hx rfl (hb hby at_33) rfl rfl kt)
  show own_Fin _ _ _ _ (T141.setTop (mkF m 35 #[.val (.int p1), .val (.int p2), .val (.int p3), .val (.int p4), .val (.ref b126), .unset, .unset, .unset, .unset, .unset, .unset, .unset, .unset, .unset, .unset] [(.ref b126)]))
  refine own_go ?_ (fun tq kt => XS.iconst X141.here hx rfl (hb hby at_35) kt)
  show own_Fin _ _ _ _ (T141.setTop (mkF m 36 #[.val (.int p1), .val (.int p2), .val (.int p3), .val (.int p4), .val (.ref b126), .unset, .unset, .unset, .unset, .unset, .unset, .unset, .unset, .unset, .unset] [(.int (3 : Int32)), (.ref b126)]))
  refine own_go ?_ (fun tq kt => XS.iloadN X141.here hx rfl (hb hby at_36) rfl kt)
  show own_Fin _ _ _ _ (T141.setTop (mkF m 37 #[.val (.int p1), .val (.int p2), .val (.int p3), .val (.int p4), .val (.ref b126), .unset, .unset, .unset, .unset, .unset, .unset, .unset, .unset, .unset, .unset] [(.int p2), (.int (3 : Int32)), (.ref b126)]))
  refine own_go ?_ (fun tq kt => XS.bipush X141.here hx rfl (hb hby at_37) kt)
  show own_Fin _ _ _ _ (T141.setTop (mkF m 39 #[.val (.int p1), .val (.int p2), .val (.int p3), .val (.int p4), .val (.ref b126), .unset, .unset, .unset, .unset, .unset, .unset, .unset, .unset, .unset, .unset] [(.int (16 : Int32)), (.int p2), (.int (3 : Int32)), (.ref b126)]))
  refine own_go ?_ (fun tq kt => XS.iushr X141.here hx rfl (hb hby at_39) rfl kt)
  show own_Fin _ _ _ _ (T141.setTop (mkF m 40 #[.val (.int p1), .val (.int p2), .val (.int p3), .val (.int p4), .val (.ref b126), .unset, .unset, .unset, .unset, .unset, .unset, .unset, .unset, .unset, .unset] [(.int ((p2.toUInt32 >>> ((16 : Int32) &&& 31).toUInt32).toInt32)), (.int (3 : Int32)), (.ref b126)]))
  obtain ⟨z143, hz143⟩ : ∃ z, own_pick ((p2.toUInt32 >>> ((16 : Int32) &&& 31).toUInt32).toInt32) = z := ⟨_, rfl⟩
  obtain ⟨_, _, ⟨T144, L144, k144, n144⟩, -, X144, ⟨Lc144, hQ144, l144, y144, z144⟩, st144⟩ := Jvm.LawKit.callS X141 hx (y := (⟨"com/example/wolf_spider/wolfspider/EdgeListLineTabPinLaw", "pick", "(I)B"⟩ : MethodName)) hown (mvT hZ (hw _ (List.mem_of_getElem? (i := 1) rfl))) (mvT hZ (hw _ (List.mem_of_getElem? (i := 2) rfl))) (mvT hZ (hw _ (List.mem_of_getElem? (i := 3) rfl))) (mvT hZ (hw _ (List.mem_of_getElem? (i := 4) rfl))) (by decide) (backOf (W := 2) (rm1 l Z a0 hw [] ((p2.toUInt32 >>> ((16 : Int32) &&& 31).toUInt32).toInt32) z143 h141 n0 zs142 hz143) hZ (hw _ (List.mem_of_getElem? (i := 4) rfl)) (hw _ (List.mem_of_getElem? (i := 3) rfl)) (by decide) (by decide)) (g := (mkF m 40 #[.val (.int p1), .val (.int p2), .val (.int p3), .val (.int p4), .val (.ref b126), .unset, .unset, .unset, .unset, .unset, .unset, .unset, .unset, .unset, .unset] [(.int ((p2.toUInt32 >>> ((16 : Int32) &&& 31).toUInt32).toInt32)), (.int (3 : Int32)), (.ref b126)])) rfl (by rw [hml]; rfl) (argsL := [(.int ((p2.toUInt32 >>> ((16 : Int32) &&& 31).toUInt32).toInt32))]) (rest := [(.int (3 : Int32)), (.ref b126)]) (lenOf own_pd1 rfl) rfl (by show 2 * 0 + _ ≤ _; exact Nat.le_of_eq rfl) (hb hby at_40) (fun _ _ => ⟨rfl, e141, (by decide : 1 + 0 ≤ _), (by decide : 6 + 0 ≤ _)⟩)
  dsimp only [Pt.U, Pt.locs, Pt.cells, Pt.slots] at X144 l144 y144 z144 st144 hQ144
  rw [l144, y144, z144] at X144
  clear l144 y144 z144
  obtain ⟨rfl, N144q, e144⟩ := hQ144
  have N144 := Fr.app N141 N144q
  refine own_go ?_ (fun tq kt => st144 _ kt)
  show own_Fin _ _ _ _ (T144.setTop (mkF m 43 #[.val (.int p1), .val (.int p2), .val (.int p3), .val (.int p4), .val (.ref b126), .unset, .unset, .unset, .unset, .unset, .unset, .unset, .unset, .unset, .unset] [(.int z143), (.int (3 : Int32)), (.ref b126)]))
  obtain ⟨cl145, Ar145, q145, S145, M145, H145, G145⟩ := id V141
  obtain ⟨T146, h146, X146, e146, W146, st146⟩ := stB X144 hx hZ e144 Ar145 (j := (3 : Int32)) (inb_of S145 ⟨by decide, by decide⟩) (g := (mkF m 43 #[.val (.int p1), .val (.int p2), .val (.int p3), .val (.int p4), .val (.ref b126), .unset, .unset, .unset, .unset, .unset, .unset, .unset, .unset, .unset, .unset] [(.int z143), (.int (3 : Int32)), (.ref b126)])) rfl rfl (hb hby at_43)
  have zs147 := Nat.le_trans zs142 (Keep.of_wr W146).1
  have od147 := od142.wr W146 g_b126
  have V146 : Arv Z h146 b126 k126 .byte (6 : Int32) [(.int (nar .byte z128)), (.int (nar .byte z133)), (.int (nar .byte z138)), (.int (nar .byte z143)), (.int (0 : Int32)), (.int (0 : Int32))] (.int (0 : Int32)) := Arv.set Ar145 q145 S145 M145 H145 G145 (fits_nar_byte _) W146 3 rfl (Nat.le_of_ble_eq_true rfl)
  have N146 := Fr.snoc X146 N144 g_b126
  refine own_go ?_ (fun tq kt => st146 _ kt)
  show own_Fin _ _ _ _ (T146.setTop (mkF m 44 #[.val (.int p1), .val (.int p2), .val (.int p3), .val (.int p4), .val (.ref b126), .unset, .unset, .unset, .unset, .unset, .unset, .unset, .unset, .unset, .unset] []))
  refine own_go ?_ (fun tq kt => XS.aload X146.here hx rfl (hb hby at_44) rfl rfl kt)
  show own_Fin _ _ _ _ (T146.setTop (mkF m 46 #[.val (.int p1), .val (.int p2), .val (.int p3), .val (.int p4), .val (.ref b126), .unset, .unset, .unset, .unset, .unset, .unset, .unset, .unset, .unset, .unset] [(.ref b126)]))
  refine own_go ?_ (fun tq kt => XS.iconst X146.here hx rfl (hb hby at_46) kt)
  show own_Fin _ _ _ _ (T146.setTop (mkF m 47 #[.val (.int p1), .val (.int p2), .val (.int p3), .val (.int p4), .val (.ref b126), .unset, .unset, .unset, .unset, .unset, .unset, .unset, .unset, .unset, .unset] [(.int (4 : Int32)), (.ref b126)]))
  refine own_go ?_ (fun tq kt => XS.iloadN X146.here hx rfl (hb hby at_47) rfl kt)
  show own_Fin _ _ _ _ (T146.setTop (mkF m 48 #[.val (.int p1), .val (.int p2), .val (.int p3), .val (.int p4), .val (.ref b126), .unset, .unset, .unset, .unset, .unset, .unset, .unset, .unset, .unset, .unset] [(.int p3), (.int (4 : Int32)), (.ref b126)]))
  obtain ⟨z148, hz148⟩ : ∃ z, own_pick p3 = z := ⟨_, rfl⟩
  obtain ⟨_, _, ⟨T149, L149, k149, n149⟩, -, X149, ⟨Lc149, hQ149, l149, y149, z149⟩, st149⟩ := Jvm.LawKit.callS X146 hx (y := (⟨"com/example/wolf_spider/wolfspider/EdgeListLineTabPinLaw", "pick", "(I)B"⟩ : MethodName)) hown (mvT hZ (hw _ (List.mem_of_getElem? (i := 1) rfl))) (mvT hZ (hw _ (List.mem_of_getElem? (i := 2) rfl))) (mvT hZ (hw _ (List.mem_of_getElem? (i := 3) rfl))) (mvT hZ (hw _ (List.mem_of_getElem? (i := 4) rfl))) (by decide) (backOf (W := 2) (rm1 l Z a0 hw [] p3 z148 h146 n0 zs147 hz148) hZ (hw _ (List.mem_of_getElem? (i := 4) rfl)) (hw _ (List.mem_of_getElem? (i := 3) rfl)) (by decide) (by decide)) (g := (mkF m 48 #[.val (.int p1), .val (.int p2), .val (.int p3), .val (.int p4), .val (.ref b126), .unset, .unset, .unset, .unset, .unset, .unset, .unset, .unset, .unset, .unset] [(.int p3), (.int (4 : Int32)), (.ref b126)])) rfl (by rw [hml]; rfl) (argsL := [(.int p3)]) (rest := [(.int (4 : Int32)), (.ref b126)]) (lenOf own_pd1 rfl) rfl (by show 2 * 0 + _ ≤ _; exact Nat.le_of_eq rfl) (hb hby at_48) (fun _ _ => ⟨rfl, e146, (by decide : 1 + 0 ≤ _), (by decide : 6 + 0 ≤ _)⟩)
  dsimp only [Pt.U, Pt.locs, Pt.cells, Pt.slots] at X149 l149 y149 z149 st149 hQ149
  rw [l149, y149, z149] at X149
  clear l149 y149 z149
  obtain ⟨rfl, N149q, e149⟩ := hQ149
  have N149 := Fr.app N146 N149q
  refine own_go ?_ (fun tq kt => st149 _ kt)
  show own_Fin _ _ _ _ (T149.setTop (mkF m 51 #[.val (.int p1), .val (.int p2), .val (.int p3), .val (.int p4), .val (.ref b126), .unset, .unset, .unset, .unset, .unset, .unset, .unset, .unset, .unset, .unset] [(.int z148), (.int (4 : Int32)), (.ref b126)]))
  obtain ⟨cl150, Ar150, q150, S150, M150, H150, G150⟩ := id V146
  obtain ⟨T151, h151, X151, e151, W151, st151⟩ := stB X149 hx hZ e149 Ar150 (j := (4 : Int32)) (inb_of S150 ⟨by decide, by decide⟩) (g := (mkF m 51 #[.val (.int p1), .val (.int p2), .val (.int p3), .val (.int p4), .val (.ref b126), .unset, .unset, .unset, .unset, .unset, .unset, .unset, .unset, .unset, .unset] [(.int z148), (.int (4 : Int32)), (.ref b126)])) rfl rfl (hb hby at_51)
  have zs152 := Nat.le_trans zs147 (Keep.of_wr W151).1
  have od152 := od147.wr W151 g_b126
  have V151 : Arv Z h151 b126 k126 .byte (6 : Int32) [(.int (nar .byte z128)), (.int (nar .byte z133)), (.int (nar .byte z138)), (.int (nar .byte z143)), (.int (nar .byte z148)), (.int (0 : Int32))] (.int (0 : Int32)) := Arv.set Ar150 q150 S150 M150 H150 G150 (fits_nar_byte _) W151 4 rfl (Nat.le_of_ble_eq_true rfl)
  have N151 := Fr.snoc X151 N149 g_b126
  refine own_go ?_ (fun tq kt => st151 _ kt)
  show own_Fin _ _ _ _ (T151.setTop (mkF m 52 #[.val (.int p1), .val (.int p2), .val (.int p3), .val (.int p4), .val (.ref b126), .unset, .unset, .unset, .unset, .unset, .unset, .unset, .unset, .unset, .unset] []))
  refine own_go ?_ (fun tq kt => XS.aload X151.here hx rfl (hb hby at_52) rfl rfl kt)
  show own_Fin _ _ _ _ (T151.setTop (mkF m 54 #[.val (.int p1), .val (.int p2), .val (.int p3), .val (.int p4), .val (.ref b126), .unset, .unset, .unset, .unset, .unset, .unset, .unset, .unset, .unset, .unset] [(.ref b126)]))
  refine own_go ?_ (fun tq kt => XS.iconst X151.here hx rfl (hb hby at_54) kt)
  show own_Fin _ _ _ _ (T151.setTop (mkF m 55 #[.val (.int p1), .val (.int p2), .val (.int p3), .val (.int p4), .val (.ref b126), .unset, .unset, .unset, .unset, .unset, .unset, .unset, .unset, .unset, .unset] [(.int (5 : Int32)), (.ref b126)]))
  refine own_go ?_ (fun tq kt => XS.iloadN X151.here hx rfl (hb hby at_55) rfl kt)
  show own_Fin _ _ _ _ (T151.setTop (mkF m 56 #[.val (.int p1), .val (.int p2), .val (.int p3), .val (.int p4), .val (.ref b126), .unset, .unset, .unset, .unset, .unset, .unset, .unset, .unset, .unset, .unset] [(.int p3), (.int (5 : Int32)), (.ref b126)]))
  refine own_go ?_ (fun tq kt => XS.bipush X151.here hx rfl (hb hby at_56) kt)
  show own_Fin _ _ _ _ (T151.setTop (mkF m 58 #[.val (.int p1), .val (.int p2), .val (.int p3), .val (.int p4), .val (.ref b126), .unset, .unset, .unset, .unset, .unset, .unset, .unset, .unset, .unset, .unset] [(.int (16 : Int32)), (.int p3), (.int (5 : Int32)), (.ref b126)]))
  refine own_go ?_ (fun tq kt => XS.iushr X151.here hx rfl (hb hby at_58) rfl kt)
  show own_Fin _ _ _ _ (T151.setTop (mkF m 59 #[.val (.int p1), .val (.int p2), .val (.int p3), .val (.int p4), .val (.ref b126), .unset, .unset, .unset, .unset, .unset, .unset, .unset, .unset, .unset, .unset] [(.int ((p3.toUInt32 >>> ((16 : Int32) &&& 31).toUInt32).toInt32)), (.int (5 : Int32)), (.ref b126)]))
  obtain ⟨z153, hz153⟩ : ∃ z, own_pick ((p3.toUInt32 >>> ((16 : Int32) &&& 31).toUInt32).toInt32) = z := ⟨_, rfl⟩
  obtain ⟨_, _, ⟨T154, L154, k154, n154⟩, -, X154, ⟨Lc154, hQ154, l154, y154, z154⟩, st154⟩ := Jvm.LawKit.callS X151 hx (y := (⟨"com/example/wolf_spider/wolfspider/EdgeListLineTabPinLaw", "pick", "(I)B"⟩ : MethodName)) hown (mvT hZ (hw _ (List.mem_of_getElem? (i := 1) rfl))) (mvT hZ (hw _ (List.mem_of_getElem? (i := 2) rfl))) (mvT hZ (hw _ (List.mem_of_getElem? (i := 3) rfl))) (mvT hZ (hw _ (List.mem_of_getElem? (i := 4) rfl))) (by decide) (backOf (W := 2) (rm1 l Z a0 hw [] ((p3.toUInt32 >>> ((16 : Int32) &&& 31).toUInt32).toInt32) z153 h151 n0 zs152 hz153) hZ (hw _ (List.mem_of_getElem? (i := 4) rfl)) (hw _ (List.mem_of_getElem? (i := 3) rfl)) (by decide) (by decide)) (g := (mkF m 59 #[.val (.int p1), .val (.int p2), .val (.int p3), .val (.int p4), .val (.ref b126), .unset, .unset, .unset, .unset, .unset, .unset, .unset, .unset, .unset, .unset] [(.int ((p3.toUInt32 >>> ((16 : Int32) &&& 31).toUInt32).toInt32)), (.int (5 : Int32)), (.ref b126)])) rfl (by rw [hml]; rfl) (argsL := [(.int ((p3.toUInt32 >>> ((16 : Int32) &&& 31).toUInt32).toInt32))]) (rest := [(.int (5 : Int32)), (.ref b126)]) (lenOf own_pd1 rfl) rfl (by show 2 * 0 + _ ≤ _; exact Nat.le_of_eq rfl) (hb hby at_59) (fun _ _ => ⟨rfl, e151, (by decide : 1 + 0 ≤ _), (by decide : 6 + 0 ≤ _)⟩)
  dsimp only [Pt.U, Pt.locs, Pt.cells, Pt.slots] at X154 l154 y154 z154 st154 hQ154
  rw [l154, y154, z154] at X154
  clear l154 y154 z154
  obtain ⟨rfl, N154q, e154⟩ := hQ154
  have N154 := Fr.app N151 N154q
  refine own_go ?_ (fun tq kt => st154 _ kt)
  show own_Fin _ _ _ _ (T154.setTop (mkF m 62 #[.val (.int p1), .val (.int p2), .val (.int p3), .val (.int p4), .val (.ref b126), .unset, .unset, .unset, .unset, .unset, .unset, .unset, .unset, .unset, .unset] [(.int z153), (.int (5 : Int32)), (.ref b126)]))
  obtain ⟨cl155, Ar155, q155, S155, M155, H155, G155⟩ := id V151
  obtain ⟨T156, h156, X156, e156, W156, st156⟩ := stB X154 hx hZ e154 Ar155 (j := (5 : Int32)) (inb_of S155 ⟨by decide, by decide⟩) (g := (mkF m 62 #[.val (.int p1), .val (.int p2), .val (.int p3), .val (.int p4), .val (.ref b126), .unset, .unset, .unset, .unset, .unset, .unset, .unset, .unset, .unset, .unset] [(.int z153), (.int (5 : Int32)), (.ref b126)])) rfl rfl (hb hby at_62)
  have zs157 := Nat.le_trans zs152 (Keep.of_wr W156).1
  have od157 := od152.wr W156 g_b126
  have V156 : Arv Z h156 b126 k126 .byte (6 : Int32) [(.int (nar .byte z128)), (.int (nar .byte z133)), (.int (nar .byte z138)), (.int (nar .byte z143)), (.int (nar .byte z148)), (.int (nar .byte z153))] (.int (0 : Int32)) := Arv.set Ar155 q155 S155 M155 H155 G155 (fits_nar_byte _) W156 5 rfl (Nat.le_of_ble_eq_true rfl)
  have N156 := Fr.snoc X156 N154 g_b126
  refine own_go ?_ (fun tq kt => st156 _ kt)
  show own_Fin _ _ _ _ (T156.setTop (mkF m 63 #[.val (.int p1), .val (.int p2), .val (.int p3), .val (.int p4), .val (.ref b126), .unset, .unset, .unset, .unset, .unset, .unset, .unset, .unset, .unset, .unset] []))
  refine own_go ?_ (fun tq kt => XS.iloadN X156.here hx rfl (hb hby at_63) rfl kt)
  show own_Fin _ _ _ _ (T156.setTop (mkF m 64 #[.val (.int p1), .val (.int p2), .val (.int p3), .val (.int p4), .val (.ref b126), .unset, .unset, .unset, .unset, .unset, .unset, .unset, .unset, .unset, .unset] [(.int p4)]))
  refine own_go ?_ (fun tq kt => XS.iconst X156.here hx rfl (hb hby at_64) kt)
  show own_Fin _ _ _ _ (T156.setTop (mkF m 65 #[.val (.int p1), .val (.int p2), .val (.int p3), .val (.int p4), .val (.ref b126), .unset, .unset, .unset, .unset, .unset, .unset, .unset, .unset, .unset, .unset] [(.int (3 : Int32)), (.int p4)]))
  refine own_go ?_ (fun tq kt => XS.iand X156.here hx rfl (hb hby at_65) rfl kt)
  show own_Fin _ _ _ _ (T156.setTop (mkF m 66 #[.val (.int p1), .val (.int p2), .val (.int p3), .val (.int p4), .val (.ref b126), .unset, .unset, .unset, .unset, .unset, .unset, .unset, .unset, .unset, .unset] [(.int (p4 &&& (3 : Int32)))]))
  refine own_go ?_ (fun tq kt => XS.iconst X156.here hx rfl (hb hby at_66) kt)
  show own_Fin _ _ _ _ (T156.setTop (mkF m 67 #[.val (.int p1), .val (.int p2), .val (.int p3), .val (.int p4), .val (.ref b126), .unset, .unset, .unset, .unset, .unset, .unset, .unset, .unset, .unset, .unset] [(.int (3 : Int32)), (.int (p4 &&& (3 : Int32)))]))
  refine own_go ?_ (fun tq kt => iremM X156 hx rfl (hb hby at_67) rfl (by decide) kt)
  show own_Fin _ _ _ _ (T156.setTop (mkF m 68 #[.val (.int p1), .val (.int p2), .val (.int p3), .val (.int p4), .val (.ref b126), .unset, .unset, .unset, .unset, .unset, .unset, .unset, .unset, .unset, .unset] [(.int ((p4 &&& (3 : Int32)) % (3 : Int32)))]))
  refine own_go ?_ (fun tq kt => XS.istore X156.here hx rfl (hb hby at_68) rfl (l' := #[.val (.int p1), .val (.int p2), .val (.int p3), .val (.int p4), .val (.ref b126), .val (.int ((p4 &&& (3 : Int32)) % (3 : Int32))), .unset, .unset, .unset, .unset, .unset, .unset, .unset, .unset, .unset]) rfl kt)
  show own_Fin _ _ _ _ (T156.setTop (mkF m 70 #[.val (.int p1), .val (.int p2), .val (.int p3), .val (.int p4), .val (.ref b126), .val (.int ((p4 &&& (3 : Int32)) % (3 : Int32))), .unset, .unset, .unset, .unset, .unset, .unset, .unset, .unset, .unset] []))
  refine own_go ?_ (fun tq kt => XS.iloadN X156.here hx rfl (hb hby at_70) rfl kt)
  show own_Fin _ _ _ _ (T156.setTop (mkF m 71 #[.val (.int p1), .val (.int p2), .val (.int p3), .val (.int p4), .val (.ref b126), .val (.int ((p4 &&& (3 : Int32)) % (3 : Int32))), .unset, .unset, .unset, .unset, .unset, .unset, .unset, .unset, .unset] [(.int p4)]))
  refine own_go ?_ (fun tq kt => XS.iconst X156.here hx rfl (hb hby at_71) kt)
  show own_Fin _ _ _ _ (T156.setTop (mkF m 72 #[.val (.int p1), .val (.int p2), .val (.int p3), .val (.int p4), .val (.ref b126), .val (.int ((p4 &&& (3 : Int32)) % (3 : Int32))), .unset, .unset, .unset, .unset, .unset, .unset, .unset, .unset, .unset] [(.int (2 : Int32)), (.int p4)]))
  refine own_go ?_ (fun tq kt => XS.iushr X156.here hx rfl (hb hby at_72) rfl kt)
  show own_Fin _ _ _ _ (T156.setTop (mkF m 73 #[.val (.int p1), .val (.int p2), .val (.int p3), .val (.int p4), .val (.ref b126), .val (.int ((p4 &&& (3 : Int32)) % (3 : Int32))), .unset, .unset, .unset, .unset, .unset, .unset, .unset, .unset, .unset] [(.int ((p4.toUInt32 >>> ((2 : Int32) &&& 31).toUInt32).toInt32))]))
  refine own_go ?_ (fun tq kt => XS.iconst X156.here hx rfl (hb hby at_73) kt)
  show own_Fin _ _ _ _ (T156.setTop (mkF m 74 #[.val (.int p1), .val (.int p2), .val (.int p3), .val (.int p4), .val (.ref b126), .val (.int ((p4 &&& (3 : Int32)) % (3 : Int32))), .unset, .unset, .unset, .unset, .unset, .unset, .unset, .unset, .unset] [(.int (5 : Int32)), (.int ((p4.toUInt32 >>> ((2 : Int32) &&& 31).toUInt32).toInt32))]))
  refine own_go ?_ (fun tq kt => iremM X156 hx rfl (hb hby at_74) rfl (by decide) kt)
  show own_Fin _ _ _ _ (T156.setTop (mkF m 75 #[.val (.int p1), .val (.int p2), .val (.int p3), .val (.int p4), .val (.ref b126), .val (.int ((p4 &&& (3 : Int32)) % (3 : Int32))), .unset, .unset, .unset, .unset, .unset, .unset, .unset, .unset, .unset] [(.int (((p4.toUInt32 >>> ((2 : Int32) &&& 31).toUInt32).toInt32) % (5 : Int32)))]))
  refine own_go ?_ (fun tq kt => XS.istore X156.here hx rfl (hb hby at_75) rfl (l' := #[.val (.int p1), .val (.int p2), .val (.int p3), .val (.int p4), .val (.ref b126), .val (.int ((p4 &&& (3 : Int32)) % (3 : Int32))), .val (.int (((p4.toUInt32 >>> ((2 : Int32) &&& 31).toUInt32).toInt32) % (5 : Int32))), .unset, .unset, .unset, .unset, .unset, .unset, .unset, .unset]) rfl kt)
  show own_Fin _ _ _ _ (T156.setTop (mkF m 77 #[.val (.int p1), .val (.int p2), .val (.int p3), .val (.int p4), .val (.ref b126), .val (.int ((p4 &&& (3 : Int32)) % (3 : Int32))), .val (.int (((p4.toUInt32 >>> ((2 : Int32) &&& 31).toUInt32).toInt32) % (5 : Int32))), .unset, .unset, .unset, .unset, .unset, .unset, .unset, .unset] []))
  have f158 := V156
  obtain ⟨bs, hws⟩ : ∃ bs : List Int32, bs = [(nar .byte z128), (nar .byte z133), (nar .byte z138), (nar .byte z143), (nar .byte z148), (nar .byte z153)] := ⟨_, rfl⟩
  have VW : Arv Z h156 b126 k126 .byte (6 : Int32) (bs.map Value.int) (.int (0 : Int32)) := by rw [hws]; exact f158
  clear hws
  obtain ⟨st, hs1, hs2⟩ := own_start p4
  obtain ⟨n, hn1, hn2⟩ := own_lenN p4
  rw [hs1, hn1]
  show own_Fin _ _ _ _ (T156.setTop (mkF m 77 #[.val (.int p1), .val (.int p2), .val (.int p3), .val (.int p4), .val (.ref b126), .val (.int (Int32.ofNat st)), .val (.int (Int32.ofNat n)), .unset, .unset, .unset, .unset, .unset, .unset, .unset, .unset] []))
  refine own_go ?_ (fun tq kt => XS.iload X156.here hx rfl (hb hby at_77) rfl kt)
  show own_Fin _ _ _ _ (T156.setTop (mkF m 79 #[.val (.int p1), .val (.int p2), .val (.int p3), .val (.int p4), .val (.ref b126), .val (.int (Int32.ofNat st)), .val (.int (Int32.ofNat n)), .unset, .unset, .unset, .unset, .unset, .unset, .unset, .unset] [(.int (Int32.ofNat st))]))
  refine own_go ?_ (fun tq kt => XS.iload X156.here hx rfl (hb hby at_79) rfl kt)
  show own_Fin _ _ _ _ (T156.setTop (mkF m 81 #[.val (.int p1), .val (.int p2), .val (.int p3), .val (.int p4), .val (.ref b126), .val (.int (Int32.ofNat st)), .val (.int (Int32.ofNat n)), .unset, .unset, .unset, .unset, .unset, .unset, .unset, .unset] [(.int (Int32.ofNat n)), (.int (Int32.ofNat st))]))
  refine own_go ?_ (fun tq kt => XS.iadd X156.here hx rfl (hb hby at_81) rfl kt)
  show own_Fin _ _ _ _ (T156.setTop (mkF m 82 #[.val (.int p1), .val (.int p2), .val (.int p3), .val (.int p4), .val (.ref b126), .val (.int (Int32.ofNat st)), .val (.int (Int32.ofNat n)), .unset, .unset, .unset, .unset, .unset, .unset, .unset, .unset] [(.int ((Int32.ofNat st) + (Int32.ofNat n)))]))
  refine own_go ?_ (fun tq kt => XS.istore X156.here hx rfl (hb hby at_82) rfl (l' := #[.val (.int p1), .val (.int p2), .val (.int p3), .val (.int p4), .val (.ref b126), .val (.int (Int32.ofNat st)), .val (.int (Int32.ofNat n)), .val (.int ((Int32.ofNat st) + (Int32.ofNat n))), .unset, .unset, .unset, .unset, .unset, .unset, .unset]) rfl kt)
  show own_Fin _ _ _ _ (T156.setTop (mkF m 84 #[.val (.int p1), .val (.int p2), .val (.int p3), .val (.int p4), .val (.ref b126), .val (.int (Int32.ofNat st)), .val (.int (Int32.ofNat n)), .val (.int ((Int32.ofNat st) + (Int32.ofNat n))), .unset, .unset, .unset, .unset, .unset, .unset, .unset] []))
  rw [← Int32.ofNat_add]
  show own_Fin _ _ _ _ (T156.setTop (mkF m 84 #[.val (.int p1), .val (.int p2), .val (.int p3), .val (.int p4), .val (.ref b126), .val (.int (Int32.ofNat st)), .val (.int (Int32.ofNat n)), .val (.int (Int32.ofNat (st + n))), .unset, .unset, .unset, .unset, .unset, .unset, .unset] []))
  refine own_go ?_ (fun tq kt => XS.aload X156.here hx rfl (hb hby at_84) rfl rfl kt)
  show own_Fin _ _ _ _ (T156.setTop (mkF m 86 #[.val (.int p1), .val (.int p2), .val (.int p3), .val (.int p4), .val (.ref b126), .val (.int (Int32.ofNat st)), .val (.int (Int32.ofNat n)), .val (.int (Int32.ofNat (st + n))), .unset, .unset, .unset, .unset, .unset, .unset, .unset] [(.ref b126)]))
  refine own_go ?_ (fun tq kt => XS.iload X156.here hx rfl (hb hby at_86) rfl kt)
  show own_Fin _ _ _ _ (T156.setTop (mkF m 88 #[.val (.int p1), .val (.int p2), .val (.int p3), .val (.int p4), .val (.ref b126), .val (.int (Int32.ofNat st)), .val (.int (Int32.ofNat n)), .val (.int (Int32.ofNat (st + n))), .unset, .unset, .unset, .unset, .unset, .unset, .unset] [(.int (Int32.ofNat st)), (.ref b126)]))
  refine own_go ?_ (fun tq kt => XS.iload X156.here hx rfl (hb hby at_88) rfl kt)
  show own_Fin _ _ _ _ (T156.setTop (mkF m 90 #[.val (.int p1), .val (.int p2), .val (.int p3), .val (.int p4), .val (.ref b126), .val (.int (Int32.ofNat st)), .val (.int (Int32.ofNat n)), .val (.int (Int32.ofNat (st + n))), .unset, .unset, .unset, .unset, .unset, .unset, .unset] [(.int (Int32.ofNat n)), (.int (Int32.ofNat st)), (.ref b126)]))
  refine own_go ?_ (fun tq kt => XS.iconst X156.here hx rfl (hb hby at_90) kt)
  show own_Fin _ _ _ _ (T156.setTop (mkF m 91 #[.val (.int p1), .val (.int p2), .val (.int p3), .val (.int p4), .val (.ref b126), .val (.int (Int32.ofNat st)), .val (.int (Int32.ofNat n)), .val (.int (Int32.ofNat (st + n))), .unset, .unset, .unset, .unset, .unset, .unset, .unset] [(.int (0 : Int32)), (.int (Int32.ofNat n)), (.int (Int32.ofNat st)), (.ref b126)]))
  obtain ⟨c0, hc0⟩ : ∃ z, z = if (0 : Int32) < (Int32.ofNat n) then own_v bs ((Int32.ofNat st) + (0 : Int32)).toNatClampNeg else 0 := ⟨_, rfl⟩
  obtain ⟨_, _, ⟨T159, L159, k159, n159⟩, -, X159, ⟨Lc159, hQ159, l159, y159, z159⟩, st159⟩ := Jvm.LawKit.callS X156 hx (y := (⟨"com/example/wolf_spider/wolfspider/EdgeListLineTabPinLaw", "at", "([BIII)I"⟩ : MethodName)) hown (mvT hZ (hw _ (List.mem_of_getElem? (i := 5) rfl))) (mvT hZ (hw _ (List.mem_of_getElem? (i := 6) rfl))) (mvT hZ (hw _ (List.mem_of_getElem? (i := 3) rfl))) (mvT hZ (hw _ (List.mem_of_getElem? (i := 7) rfl))) (by decide) (backOf (W := 0) (rm2 l Z a0 hw [] b126 (Int32.ofNat st) (Int32.ofNat n) (0 : Int32) k126 bs c0 h156 n0 zs157 VW (own_at6 hs2 hn2 (k := 0) (by omega)) hc0) hZ (hw _ (List.mem_of_getElem? (i := 7) rfl)) (hw _ (List.mem_of_getElem? (i := 3) rfl)) (by decide) (by decide)) (g := (mkF m 91 #[.val (.int p1), .val (.int p2), .val (.int p3), .val (.int p4), .val (.ref b126), .val (.int (Int32.ofNat st)), .val (.int (Int32.ofNat n)), .val (.int (Int32.ofNat (st + n))), .unset, .unset, .unset, .unset, .unset, .unset, .unset] [(.int (0 : Int32)), (.int (Int32.ofNat n)), (.int (Int32.ofNat st)), (.ref b126)])) rfl (by rw [hml]; rfl) (argsL := [(.ref b126), (.int (Int32.ofNat st)), (.int (Int32.ofNat n)), (.int (0 : Int32))]) (rest := []) (lenOf own_pd2 rfl) rfl (by show 2 * 0 + _ ≤ _; exact Nat.le_of_eq rfl) (hb hby at_91) (fun _ _ => ⟨rfl, e156, (by decide : 1 + 0 ≤ _), (by decide : 6 + 0 ≤ _)⟩)
  dsimp only [Pt.U, Pt.locs, Pt.cells, Pt.slots] at X159 l159 y159 z159 st159 hQ159
  rw [l159, y159, z159] at X159
  clear l159 y159 z159
  obtain ⟨rfl, N159q, e159⟩ := hQ159
  have N159 := Fr.app N156 N159q
  refine own_go ?_ (fun tq kt => st159 _ kt)
  show own_Fin _ _ _ _ (T159.setTop (mkF m 94 #[.val (.int p1), .val (.int p2), .val (.int p3), .val (.int p4), .val (.ref b126), .val (.int (Int32.ofNat st)), .val (.int (Int32.ofNat n)), .val (.int (Int32.ofNat (st + n))), .unset, .unset, .unset, .unset, .unset, .unset, .unset] [(.int c0)]))
  refine own_go ?_ (fun tq kt => XS.istore X159.here hx rfl (hb hby at_94) rfl (l' := #[.val (.int p1), .val (.int p2), .val (.int p3), .val (.int p4), .val (.ref b126), .val (.int (Int32.ofNat st)), .val (.int (Int32.ofNat n)), .val (.int (Int32.ofNat (st + n))), .val (.int c0), .unset, .unset, .unset, .unset, .unset, .unset]) rfl kt)
  show own_Fin _ _ _ _ (T159.setTop (mkF m 96 #[.val (.int p1), .val (.int p2), .val (.int p3), .val (.int p4), .val (.ref b126), .val (.int (Int32.ofNat st)), .val (.int (Int32.ofNat n)), .val (.int (Int32.ofNat (st + n))), .val (.int c0), .unset, .unset, .unset, .unset, .unset, .unset] []))
  refine own_go ?_ (fun tq kt => XS.aload X159.here hx rfl (hb hby at_96) rfl rfl kt)
  show own_Fin _ _ _ _ (T159.setTop (mkF m 98 #[.val (.int p1), .val (.int p2), .val (.int p3), .val (.int p4), .val (.ref b126), .val (.int (Int32.ofNat st)), .val (.int (Int32.ofNat n)), .val (.int (Int32.ofNat (st + n))), .val (.int c0), .unset, .unset, .unset, .unset, .unset, .unset] [(.ref b126)]))
  refine own_go ?_ (fun tq kt => XS.iload X159.here hx rfl (hb hby at_98) rfl kt)
  show own_Fin _ _ _ _ (T159.setTop (mkF m 100 #[.val (.int p1), .val (.int p2), .val (.int p3), .val (.int p4), .val (.ref b126), .val (.int (Int32.ofNat st)), .val (.int (Int32.ofNat n)), .val (.int (Int32.ofNat (st + n))), .val (.int c0), .unset, .unset, .unset, .unset, .unset, .unset] [(.int (Int32.ofNat st)), (.ref b126)]))
  refine own_go ?_ (fun tq kt => XS.iload X159.here hx rfl (hb hby at_100) rfl kt)
  show own_Fin _ _ _ _ (T159.setTop (mkF m 102 #[.val (.int p1), .val (.int p2), .val (.int p3), .val (.int p4), .val (.ref b126), .val (.int (Int32.ofNat st)), .val (.int (Int32.ofNat n)), .val (.int (Int32.ofNat (st + n))), .val (.int c0), .unset, .unset, .unset, .unset, .unset, .unset] [(.int (Int32.ofNat n)), (.int (Int32.ofNat st)), (.ref b126)]))
  refine own_go ?_ (fun tq kt => XS.iconst X159.here hx rfl (hb hby at_102) kt)
  show own_Fin _ _ _ _ (T159.setTop (mkF m 103 #[.val (.int p1), .val (.int p2), .val (.int p3), .val (.int p4), .val (.ref b126), .val (.int (Int32.ofNat st)), .val (.int (Int32.ofNat n)), .val (.int (Int32.ofNat (st + n))), .val (.int c0), .unset, .unset, .unset, .unset, .unset, .unset] [(.int (1 : Int32)), (.int (Int32.ofNat n)), (.int (Int32.ofNat st)), (.ref b126)]))
  obtain ⟨c1, hc1⟩ : ∃ z, z = if (1 : Int32) < (Int32.ofNat n) then own_v bs ((Int32.ofNat st) + (1 : Int32)).toNatClampNeg else 0 := ⟨_, rfl⟩
  obtain ⟨_, _, ⟨T160, L160, k160, n160⟩, -, X160, ⟨Lc160, hQ160, l160, y160, z160⟩, st160⟩ := Jvm.LawKit.callS X159 hx (y := (⟨"com/example/wolf_spider/wolfspider/EdgeListLineTabPinLaw", "at", "([BIII)I"⟩ : MethodName)) hown (mvT hZ (hw _ (List.mem_of_getElem? (i := 5) rfl))) (mvT hZ (hw _ (List.mem_of_getElem? (i := 6) rfl))) (mvT hZ (hw _ (List.mem_of_getElem? (i := 3) rfl))) (mvT hZ (hw _ (List.mem_of_getElem? (i := 7) rfl))) (by decide) (backOf (W := 0) (rm2 l Z a0 hw [] b126 (Int32.ofNat st) (Int32.ofNat n) (1 : Int32) k126 bs c1 h156 n0 zs157 VW (own_at6 hs2 hn2 (k := 1) (by omega)) hc1) hZ (hw _ (List.mem_of_getElem? (i := 7) rfl)) (hw _ (List.mem_of_getElem? (i := 3) rfl)) (by decide) (by decide)) (g := (mkF m 103 #[.val (.int p1), .val (.int p2), .val (.int p3), .val (.int p4), .val (.ref b126), .val (.int (Int32.ofNat st)), .val (.int (Int32.ofNat n)), .val (.int (Int32.ofNat (st + n))), .val (.int c0), .unset, .unset, .unset, .unset, .unset, .unset] [(.int (1 : Int32)), (.int (Int32.ofNat n)), (.int (Int32.ofNat st)), (.ref b126)])) rfl (by rw [hml]; rfl) (argsL := [(.ref b126), (.int (Int32.ofNat st)), (.int (Int32.ofNat n)), (.int (1 : Int32))]) (rest := []) (lenOf own_pd2 rfl) rfl (by show 2 * 0 + _ ≤ _; exact Nat.le_of_eq rfl) (hb hby at_103) (fun _ _ => ⟨rfl, e159, (by decide : 1 + 0 ≤ _), (by decide : 6 + 0 ≤ _)⟩)
  dsimp only [Pt.U, Pt.locs, Pt.cells, Pt.slots] at X160 l160 y160 z160 st160 hQ160
  rw [l160, y160, z160] at X160
  clear l160 y160 z160
  obtain ⟨rfl, N160q, e160⟩ := hQ160
  have N160 := Fr.app N159 N160q
  refine own_go ?_ (fun tq kt => st160 _ kt)
  show own_Fin _ _ _ _ (T160.setTop (mkF m 106 #[.val (.int p1), .val (.int p2), .val (.int p3), .val (.int p4), .val (.ref b126), .val (.int (Int32.ofNat st)), .val (.int (Int32.ofNat n)), .val (.int (Int32.ofNat (st + n))), .val (.int c0), .unset, .unset, .unset, .unset, .unset, .unset] [(.int c1)]))
  refine own_go ?_ (fun tq kt => XS.istore X160.here hx rfl (hb hby at_106) rfl (l' := #[.val (.int p1), .val (.int p2), .val (.int p3), .val (.int p4), .val (.ref b126), .val (.int (Int32.ofNat st)), .val (.int (Int32.ofNat n)), .val (.int (Int32.ofNat (st + n))), .val (.int c0), .val (.int c1), .unset, .unset, .unset, .unset, .unset]) rfl kt)
  show own_Fin _ _ _ _ (T160.setTop (mkF m 108 #[.val (.int p1), .val (.int p2), .val (.int p3), .val (.int p4), .val (.ref b126), .val (.int (Int32.ofNat st)), .val (.int (Int32.ofNat n)), .val (.int (Int32.ofNat (st + n))), .val (.int c0), .val (.int c1), .unset, .unset, .unset, .unset, .unset] []))
  refine own_go ?_ (fun tq kt => XS.aload X160.here hx rfl (hb hby at_108) rfl rfl kt)
  show own_Fin _ _ _ _ (T160.setTop (mkF m 110 #[.val (.int p1), .val (.int p2), .val (.int p3), .val (.int p4), .val (.ref b126), .val (.int (Int32.ofNat st)), .val (.int (Int32.ofNat n)), .val (.int (Int32.ofNat (st + n))), .val (.int c0), .val (.int c1), .unset, .unset, .unset, .unset, .unset] [(.ref b126)]))
  refine own_go ?_ (fun tq kt => XS.iload X160.here hx rfl (hb hby at_110) rfl kt)
  show own_Fin _ _ _ _ (T160.setTop (mkF m 112 #[.val (.int p1), .val (.int p2), .val (.int p3), .val (.int p4), .val (.ref b126), .val (.int (Int32.ofNat st)), .val (.int (Int32.ofNat n)), .val (.int (Int32.ofNat (st + n))), .val (.int c0), .val (.int c1), .unset, .unset, .unset, .unset, .unset] [(.int (Int32.ofNat st)), (.ref b126)]))
  refine own_go ?_ (fun tq kt => XS.iload X160.here hx rfl (hb hby at_112) rfl kt)
  show own_Fin _ _ _ _ (T160.setTop (mkF m 114 #[.val (.int p1), .val (.int p2), .val (.int p3), .val (.int p4), .val (.ref b126), .val (.int (Int32.ofNat st)), .val (.int (Int32.ofNat n)), .val (.int (Int32.ofNat (st + n))), .val (.int c0), .val (.int c1), .unset, .unset, .unset, .unset, .unset] [(.int (Int32.ofNat n)), (.int (Int32.ofNat st)), (.ref b126)]))
  refine own_go ?_ (fun tq kt => XS.iconst X160.here hx rfl (hb hby at_114) kt)
  show own_Fin _ _ _ _ (T160.setTop (mkF m 115 #[.val (.int p1), .val (.int p2), .val (.int p3), .val (.int p4), .val (.ref b126), .val (.int (Int32.ofNat st)), .val (.int (Int32.ofNat n)), .val (.int (Int32.ofNat (st + n))), .val (.int c0), .val (.int c1), .unset, .unset, .unset, .unset, .unset] [(.int (2 : Int32)), (.int (Int32.ofNat n)), (.int (Int32.ofNat st)), (.ref b126)]))
  obtain ⟨c2, hc2⟩ : ∃ z, z = if (2 : Int32) < (Int32.ofNat n) then own_v bs ((Int32.ofNat st) + (2 : Int32)).toNatClampNeg else 0 := ⟨_, rfl⟩
  obtain ⟨_, _, ⟨T161, L161, k161, n161⟩, -, X161, ⟨Lc161, hQ161, l161, y161, z161⟩, st161⟩ := Jvm.LawKit.callS X160 hx (y := (⟨"com/example/wolf_spider/wolfspider/EdgeListLineTabPinLaw", "at", "([BIII)I"⟩ : MethodName)) hown (mvT hZ (hw _ (List.mem_of_getElem? (i := 5) rfl))) (mvT hZ (hw _ (List.mem_of_getElem? (i := 6) rfl))) (mvT hZ (hw _ (List.mem_of_getElem? (i := 3) rfl))) (mvT hZ (hw _ (List.mem_of_getElem? (i := 7) rfl))) (by decide) (backOf (W := 0) (rm2 l Z a0 hw [] b126 (Int32.ofNat st) (Int32.ofNat n) (2 : Int32) k126 bs c2 h156 n0 zs157 VW (own_at6 hs2 hn2 (k := 2) (by omega)) hc2) hZ (hw _ (List.mem_of_getElem? (i := 7) rfl)) (hw _ (List.mem_of_getElem? (i := 3) rfl)) (by decide) (by decide)) (g := (mkF m 115 #[.val (.int p1), .val (.int p2), .val (.int p3), .val (.int p4), .val (.ref b126), .val (.int (Int32.ofNat st)), .val (.int (Int32.ofNat n)), .val (.int (Int32.ofNat (st + n))), .val (.int c0), .val (.int c1), .unset, .unset, .unset, .unset, .unset] [(.int (2 : Int32)), (.int (Int32.ofNat n)), (.int (Int32.ofNat st)), (.ref b126)])) rfl (by rw [hml]; rfl) (argsL := [(.ref b126), (.int (Int32.ofNat st)), (.int (Int32.ofNat n)), (.int (2 : Int32))]) (rest := []) (lenOf own_pd2 rfl) rfl (by show 2 * 0 + _ ≤ _; exact Nat.le_of_eq rfl) (hb hby at_115) (fun _ _ => ⟨rfl, e160, (by decide : 1 + 0 ≤ _), (by decide : 6 + 0 ≤ _)⟩)
  dsimp only [Pt.U, Pt.locs, Pt.cells, Pt.slots] at X161 l161 y161 z161 st161 hQ161
  rw [l161, y161, z161] at X161
  clear l161 y161 z161
  obtain ⟨rfl, N161q, e161⟩ := hQ161
  have N161 := Fr.app N160 N161q
  refine own_go ?_ (fun tq kt => st161 _ kt)
  show own_Fin _ _ _ _ (T161.setTop (mkF m 118 #[.val (.int p1), .val (.int p2), .val (.int p3), .val (.int p4), .val (.ref b126), .val (.int (Int32.ofNat st)), .val (.int (Int32.ofNat n)), .val (.int (Int32.ofNat (st + n))), .val (.int c0), .val (.int c1), .unset, .unset, .unset, .unset, .unset] [(.int c2)]))
  refine own_go ?_ (fun tq kt => XS.istore X161.here hx rfl (hb hby at_118) rfl (l' := #[.val (.int p1), .val (.int p2), .val (.int p3), .val (.int p4), .val (.ref b126), .val (.int (Int32.ofNat st)), .val (.int (Int32.ofNat n)), .val (.int (Int32.ofNat (st + n))), .val (.int c0), .val (.int c1), .val (.int c2), .unset, .unset, .unset, .unset]) rfl kt)
  show own_Fin _ _ _ _ (T161.setTop (mkF m 120 #[.val (.int p1), .val (.int p2), .val (.int p3), .val (.int p4), .val (.ref b126), .val (.int (Int32.ofNat st)), .val (.int (Int32.ofNat n)), .val (.int (Int32.ofNat (st + n))), .val (.int c0), .val (.int c1), .val (.int c2), .unset, .unset, .unset, .unset] []))
  refine own_go ?_ (fun tq kt => XS.aload X161.here hx rfl (hb hby at_120) rfl rfl kt)
  show own_Fin _ _ _ _ (T161.setTop (mkF m 122 #[.val (.int p1), .val (.int p2), .val (.int p3), .val (.int p4), .val (.ref b126), .val (.int (Int32.ofNat st)), .val (.int (Int32.ofNat n)), .val (.int (Int32.ofNat (st + n))), .val (.int c0), .val (.int c1), .val (.int c2), .unset, .unset, .unset, .unset] [(.ref b126)]))
  refine own_go ?_ (fun tq kt => XS.iload X161.here hx rfl (hb hby at_122) rfl kt)
  show own_Fin _ _ _ _ (T161.setTop (mkF m 124 #[.val (.int p1), .val (.int p2), .val (.int p3), .val (.int p4), .val (.ref b126), .val (.int (Int32.ofNat st)), .val (.int (Int32.ofNat n)), .val (.int (Int32.ofNat (st + n))), .val (.int c0), .val (.int c1), .val (.int c2), .unset, .unset, .unset, .unset] [(.int (Int32.ofNat st)), (.ref b126)]))
  refine own_go ?_ (fun tq kt => XS.iload X161.here hx rfl (hb hby at_124) rfl kt)
  show own_Fin _ _ _ _ (T161.setTop (mkF m 126 #[.val (.int p1), .val (.int p2), .val (.int p3), .val (.int p4), .val (.ref b126), .val (.int (Int32.ofNat st)), .val (.int (Int32.ofNat n)), .val (.int (Int32.ofNat (st + n))), .val (.int c0), .val (.int c1), .val (.int c2), .unset, .unset, .unset, .unset] [(.int (Int32.ofNat n)), (.int (Int32.ofNat st)), (.ref b126)]))
  refine own_go ?_ (fun tq kt => XS.iconst X161.here hx rfl (hb hby at_126) kt)
  show own_Fin _ _ _ _ (T161.setTop (mkF m 127 #[.val (.int p1), .val (.int p2), .val (.int p3), .val (.int p4), .val (.ref b126), .val (.int (Int32.ofNat st)), .val (.int (Int32.ofNat n)), .val (.int (Int32.ofNat (st + n))), .val (.int c0), .val (.int c1), .val (.int c2), .unset, .unset, .unset, .unset] [(.int (3 : Int32)), (.int (Int32.ofNat n)), (.int (Int32.ofNat st)), (.ref b126)]))
  obtain ⟨c3, hc3⟩ : ∃ z, z = if (3 : Int32) < (Int32.ofNat n) then own_v bs ((Int32.ofNat st) + (3 : Int32)).toNatClampNeg else 0 := ⟨_, rfl⟩
  obtain ⟨_, _, ⟨T162, L162, k162, n162⟩, -, X162, ⟨Lc162, hQ162, l162, y162, z162⟩, st162⟩ := Jvm.LawKit.callS X161 hx (y := (⟨"com/example/wolf_spider/wolfspider/EdgeListLineTabPinLaw", "at", "([BIII)I"⟩ : MethodName)) hown (mvT hZ (hw _ (List.mem_of_getElem? (i := 5) rfl))) (mvT hZ (hw _ (List.mem_of_getElem? (i := 6) rfl))) (mvT hZ (hw _ (List.mem_of_getElem? (i := 3) rfl))) (mvT hZ (hw _ (List.mem_of_getElem? (i := 7) rfl))) (by decide) (backOf (W := 0) (rm2 l Z a0 hw [] b126 (Int32.ofNat st) (Int32.ofNat n) (3 : Int32) k126 bs c3 h156 n0 zs157 VW (own_at6 hs2 hn2 (k := 3) (by omega)) hc3) hZ (hw _ (List.mem_of_getElem? (i := 7) rfl)) (hw _ (List.mem_of_getElem? (i := 3) rfl)) (by decide) (by decide)) (g := (mkF m 127 #[.val (.int p1), .val (.int p2), .val (.int p3), .val (.int p4), .val (.ref b126), .val (.int (Int32.ofNat st)), .val (.int (Int32.ofNat n)), .val (.int (Int32.ofNat (st + n))), .val (.int c0), .val (.int c1), .val (.int c2), .unset, .unset, .unset, .unset] [(.int (3 : Int32)), (.int (Int32.ofNat n)), (.int (Int32.ofNat st)), (.ref b126)])) rfl (by rw [hml]; rfl) (argsL := [(.ref b126), (.int (Int32.ofNat st)), (.int (Int32.ofNat n)), (.int (3 : Int32))]) (rest := []) (lenOf own_pd2 rfl) rfl (by show 2 * 0 + _ ≤ _; exact Nat.le_of_eq rfl) (hb hby at_127) (fun _ _ => ⟨rfl, e161, (by decide : 1 + 0 ≤ _), (by decide : 6 + 0 ≤ _)⟩)
  dsimp only [Pt.U, Pt.locs, Pt.cells, Pt.slots] at X162 l162 y162 z162 st162 hQ162
  rw [l162, y162, z162] at X162
  clear l162 y162 z162
  obtain ⟨rfl, N162q, e162⟩ := hQ162
  have N162 := Fr.app N161 N162q
  refine own_go ?_ (fun tq kt => st162 _ kt)
  show own_Fin _ _ _ _ (T162.setTop (mkF m 130 #[.val (.int p1), .val (.int p2), .val (.int p3), .val (.int p4), .val (.ref b126), .val (.int (Int32.ofNat st)), .val (.int (Int32.ofNat n)), .val (.int (Int32.ofNat (st + n))), .val (.int c0), .val (.int c1), .val (.int c2), .unset, .unset, .unset, .unset] [(.int c3)]))
  refine own_go ?_ (fun tq kt => XS.istore X162.here hx rfl (hb hby at_130) rfl (l' := #[.val (.int p1), .val (.int p2), .val (.int p3), .val (.int p4), .val (.ref b126), .val (.int (Int32.ofNat st)), .val (.int (Int32.ofNat n)), .val (.int (Int32.ofNat (st + n))), .val (.int c0), .val (.int c1), .val (.int c2), .val (.int c3), .unset, .unset, .unset]) rfl kt)
  show own_Fin _ _ _ _ (T162.setTop (mkF m 132 #[.val (.int p1), .val (.int p2), .val (.int p3), .val (.int p4), .val (.ref b126), .val (.int (Int32.ofNat st)), .val (.int (Int32.ofNat n)), .val (.int (Int32.ofNat (st + n))), .val (.int c0), .val (.int c1), .val (.int c2), .val (.int c3), .unset, .unset, .unset] []))
  have hk0 := own_ck hs2 hn2 (k := 0) (by omega) hc0
  have hk1 := own_ck hs2 hn2 (k := 1) (by omega) hc1
  have hk2 := own_ck hs2 hn2 (k := 2) (by omega) hc2
  have hk3 := own_ck hs2 hn2 (k := 3) (by omega) hc3
  refine own_go ?_ (fun tq kt => XS.iload X162.here hx rfl (hb hby at_132) rfl kt)
  show own_Fin _ _ _ _ (T162.setTop (mkF m 134 #[.val (.int p1), .val (.int p2), .val (.int p3), .val (.int p4), .val (.ref b126), .val (.int (Int32.ofNat st)), .val (.int (Int32.ofNat n)), .val (.int (Int32.ofNat (st + n))), .val (.int c0), .val (.int c1), .val (.int c2), .val (.int c3), .unset, .unset, .unset] [(.int c0)]))
  obtain ⟨z163, hz163⟩ : ∃ z, own_brk c0 = z := ⟨_, rfl⟩
  obtain ⟨_, _, ⟨T164, L164, k164, n164⟩, -, X164, ⟨Lc164, hQ164, l164, y164, z164⟩, st164⟩ := Jvm.LawKit.callS X162 hx (y := (⟨"com/example/wolf_spider/wolfspider/EdgeListLineTabPinLaw", "isBreak", "(I)Z"⟩ : MethodName)) hown (mvT hZ (hw _ (List.mem_of_getElem? (i := 8) rfl))) (mvT hZ (hw _ (List.mem_of_getElem? (i := 9) rfl))) (mvT hZ (hw _ (List.mem_of_getElem? (i := 3) rfl))) (mvT hZ (hw _ (List.mem_of_getElem? (i := 10) rfl))) (by decide) (backOf (W := 0) (rm3 l Z a0 hw [] c0 z163 h156 n0 zs157 hz163) hZ (hw _ (List.mem_of_getElem? (i := 10) rfl)) (hw _ (List.mem_of_getElem? (i := 3) rfl)) (by decide) (by decide)) (g := (mkF m 134 #[.val (.int p1), .val (.int p2), .val (.int p3), .val (.int p4), .val (.ref b126), .val (.int (Int32.ofNat st)), .val (.int (Int32.ofNat n)), .val (.int (Int32.ofNat (st + n))), .val (.int c0), .val (.int c1), .val (.int c2), .val (.int c3), .unset, .unset, .unset] [(.int c0)])) rfl (by rw [hml]; rfl) (argsL := [(.int c0)]) (rest := []) (lenOf own_pd3 rfl) rfl (by show 2 * 0 + _ ≤ _; exact Nat.le_of_eq rfl) (hb hby at_134) (fun _ _ => ⟨rfl, e162, (by decide : 1 + 0 ≤ _), (by decide : 6 + 0 ≤ _)⟩)
  dsimp only [Pt.U, Pt.locs, Pt.cells, Pt.slots] at X164 l164 y164 z164 st164 hQ164
  rw [l164, y164, z164] at X164
  clear l164 y164 z164
  obtain ⟨rfl, N164q, e164⟩ := hQ164
  have N164 := Fr.app N162 N164q
  refine own_go ?_ (fun tq kt => st164 _ kt)
  show own_Fin _ _ _ _ (T164.setTop (mkF m 137 #[.val (.int p1), .val (.int p2), .val (.int p3), .val (.int p4), .val (.ref b126), .val (.int (Int32.ofNat st)), .val (.int (Int32.ofNat n)), .val (.int (Int32.ofNat (st + n))), .val (.int c0), .val (.int c1), .val (.int c2), .val (.int c3), .unset, .unset, .unset] [(.int z163)]))
  by_cases hc137_165 : z163 = (0 : Int32)
  · refine own_go ?_ (fun tq kt => XS.ifNo X164.here hx rfl (hb hby at_137) rfl ((if0 _ _).trans (teq (hc137_165 : z163 = (0 : Int32))).2) kt)
    show own_Fin _ _ _ _ (T164.setTop (mkF m 140 #[.val (.int p1), .val (.int p2), .val (.int p3), .val (.int p4), .val (.ref b126), .val (.int (Int32.ofNat st)), .val (.int (Int32.ofNat n)), .val (.int (Int32.ofNat (st + n))), .val (.int c0), .val (.int c1), .val (.int c2), .val (.int c3), .unset, .unset, .unset] []))
    refine own_go ?_ (fun tq kt => XS.iload X164.here hx rfl (hb hby at_140) rfl kt)
    show own_Fin _ _ _ _ (T164.setTop (mkF m 142 #[.val (.int p1), .val (.int p2), .val (.int p3), .val (.int p4), .val (.ref b126), .val (.int (Int32.ofNat st)), .val (.int (Int32.ofNat n)), .val (.int (Int32.ofNat (st + n))), .val (.int c0), .val (.int c1), .val (.int c2), .val (.int c3), .unset, .unset, .unset] [(.int c1)]))
    obtain ⟨z166, hz166⟩ : ∃ z, own_brk c1 = z := ⟨_, rfl⟩
    obtain ⟨_, _, ⟨T167, L167, k167, n167⟩, -, X167, ⟨Lc167, hQ167, l167, y167, z167⟩, st167⟩ := Jvm.LawKit.callS X164 hx (y := (⟨"com/example/wolf_spider/wolfspider/EdgeListLineTabPinLaw", "isBreak", "(I)Z"⟩ : MethodName)) hown (mvT hZ (hw _ (List.mem_of_getElem? (i := 8) rfl))) (mvT hZ (hw _ (List.mem_of_getElem? (i := 9) rfl))) (mvT hZ (hw _ (List.mem_of_getElem? (i := 3) rfl))) (mvT hZ (hw _ (List.mem_of_getElem? (i := 10) rfl))) (by decide) (backOf (W := 0) (rm3 l Z a0 hw [] c1 z166 h156 n0 zs157 hz166) hZ (hw _ (List.mem_of_getElem? (i := 10) rfl)) (hw _ (List.mem_of_getElem? (i := 3) rfl)) (by decide) (by decide)) (g := (mkF m 142 #[.val (.int p1), .val (.int p2), .val (.int p3), .val (.int p4), .val (.ref b126), .val (.int (Int32.ofNat st)), .val (.int (Int32.ofNat n)), .val (.int (Int32.ofNat (st + n))), .val (.int c0), .val (.int c1), .val (.int c2), .val (.int c3), .unset, .unset, .unset] [(.int c1)])) rfl (by rw [hml]; rfl) (argsL := [(.int c1)]) (rest := []) (lenOf own_pd3 rfl) rfl (by show 2 * 0 + _ ≤ _; exact Nat.le_of_eq rfl) (hb hby at_142) (fun _ _ => ⟨rfl, e164, (by decide : 1 + 0 ≤ _), (by decide : 6 + 0 ≤ _)⟩)
    dsimp only [Pt.U, Pt.locs, Pt.cells, Pt.slots] at X167 l167 y167 z167 st167 hQ167
    rw [l167, y167, z167] at X167
    clear l167 y167 z167
    obtain ⟨rfl, N167q, e167⟩ := hQ167
    have N167 := Fr.app N164 N167q
    refine own_go ?_ (fun tq kt => st167 _ kt)
    show own_Fin _ _ _ _ (T167.setTop (mkF m 145 #[.val (.int p1), .val (.int p2), .val (.int p3), .val (.int p4), .val (.ref b126), .val (.int (Int32.ofNat st)), .val (.int (Int32.ofNat n)), .val (.int (Int32.ofNat (st + n))), .val (.int c0), .val (.int c1), .val (.int c2), .val (.int c3), .unset, .unset, .unset] [(.int z166)]))
    by_cases hc145_168 : z166 = (0 : Int32)
    · refine own_go ?_ (fun tq kt => XS.ifNo X167.here hx rfl (hb hby at_145) rfl ((if0 _ _).trans (teq (hc145_168 : z166 = (0 : Int32))).2) kt)
      show own_Fin _ _ _ _ (T167.setTop (mkF m 148 #[.val (.int p1), .val (.int p2), .val (.int p3), .val (.int p4), .val (.ref b126), .val (.int (Int32.ofNat st)), .val (.int (Int32.ofNat n)), .val (.int (Int32.ofNat (st + n))), .val (.int c0), .val (.int c1), .val (.int c2), .val (.int c3), .unset, .unset, .unset] []))
      refine own_go ?_ (fun tq kt => XS.iload X167.here hx rfl (hb hby at_148) rfl kt)
      show own_Fin _ _ _ _ (T167.setTop (mkF m 150 #[.val (.int p1), .val (.int p2), .val (.int p3), .val (.int p4), .val (.ref b126), .val (.int (Int32.ofNat st)), .val (.int (Int32.ofNat n)), .val (.int (Int32.ofNat (st + n))), .val (.int c0), .val (.int c1), .val (.int c2), .val (.int c3), .unset, .unset, .unset] [(.int c2)]))
      obtain ⟨z169, hz169⟩ : ∃ z, own_brk c2 = z := ⟨_, rfl⟩
      obtain ⟨_, _, ⟨T170, L170, k170, n170⟩, -, X170, ⟨Lc170, hQ170, l170, y170, z170⟩, st170⟩ := Jvm.LawKit.callS X167 hx (y := (⟨"com/example/wolf_spider/wolfspider/EdgeListLineTabPinLaw", "isBreak", "(I)Z"⟩ : MethodName)) hown (mvT hZ (hw _ (List.mem_of_getElem? (i := 8) rfl))) (mvT hZ (hw _ (List.mem_of_getElem? (i := 9) rfl))) (mvT hZ (hw _ (List.mem_of_getElem? (i := 3) rfl))) (mvT hZ (hw _ (List.mem_of_getElem? (i := 10) rfl))) (by decide) (backOf (W := 0) (rm3 l Z a0 hw [] c2 z169 h156 n0 zs157 hz169) hZ (hw _ (List.mem_of_getElem? (i := 10) rfl)) (hw _ (List.mem_of_getElem? (i := 3) rfl)) (by decide) (by decide)) (g := (mkF m 150 #[.val (.int p1), .val (.int p2), .val (.int p3), .val (.int p4), .val (.ref b126), .val (.int (Int32.ofNat st)), .val (.int (Int32.ofNat n)), .val (.int (Int32.ofNat (st + n))), .val (.int c0), .val (.int c1), .val (.int c2), .val (.int c3), .unset, .unset, .unset] [(.int c2)])) rfl (by rw [hml]; rfl) (argsL := [(.int c2)]) (rest := []) (lenOf own_pd3 rfl) rfl (by show 2 * 0 + _ ≤ _; exact Nat.le_of_eq rfl) (hb hby at_150) (fun _ _ => ⟨rfl, e167, (by decide : 1 + 0 ≤ _), (by decide : 6 + 0 ≤ _)⟩)
      dsimp only [Pt.U, Pt.locs, Pt.cells, Pt.slots] at X170 l170 y170 z170 st170 hQ170
      rw [l170, y170, z170] at X170
      clear l170 y170 z170
      obtain ⟨rfl, N170q, e170⟩ := hQ170
      have N170 := Fr.app N167 N170q
      refine own_go ?_ (fun tq kt => st170 _ kt)
      show own_Fin _ _ _ _ (T170.setTop (mkF m 153 #[.val (.int p1), .val (.int p2), .val (.int p3), .val (.int p4), .val (.ref b126), .val (.int (Int32.ofNat st)), .val (.int (Int32.ofNat n)), .val (.int (Int32.ofNat (st + n))), .val (.int c0), .val (.int c1), .val (.int c2), .val (.int c3), .unset, .unset, .unset] [(.int z169)]))
      by_cases hc153_171 : z169 = (0 : Int32)
      · refine own_go ?_ (fun tq kt => XS.ifNo X170.here hx rfl (hb hby at_153) rfl ((if0 _ _).trans (teq (hc153_171 : z169 = (0 : Int32))).2) kt)
        show own_Fin _ _ _ _ (T170.setTop (mkF m 156 #[.val (.int p1), .val (.int p2), .val (.int p3), .val (.int p4), .val (.ref b126), .val (.int (Int32.ofNat st)), .val (.int (Int32.ofNat n)), .val (.int (Int32.ofNat (st + n))), .val (.int c0), .val (.int c1), .val (.int c2), .val (.int c3), .unset, .unset, .unset] []))
        refine own_go ?_ (fun tq kt => XS.iload X170.here hx rfl (hb hby at_156) rfl kt)
        show own_Fin _ _ _ _ (T170.setTop (mkF m 158 #[.val (.int p1), .val (.int p2), .val (.int p3), .val (.int p4), .val (.ref b126), .val (.int (Int32.ofNat st)), .val (.int (Int32.ofNat n)), .val (.int (Int32.ofNat (st + n))), .val (.int c0), .val (.int c1), .val (.int c2), .val (.int c3), .unset, .unset, .unset] [(.int c3)]))
        obtain ⟨z172, hz172⟩ : ∃ z, own_brk c3 = z := ⟨_, rfl⟩
        obtain ⟨_, _, ⟨T173, L173, k173, n173⟩, -, X173, ⟨Lc173, hQ173, l173, y173, z173⟩, st173⟩ := Jvm.LawKit.callS X170 hx (y := (⟨"com/example/wolf_spider/wolfspider/EdgeListLineTabPinLaw", "isBreak", "(I)Z"⟩ : MethodName)) hown (mvT hZ (hw _ (List.mem_of_getElem? (i := 8) rfl))) (mvT hZ (hw _ (List.mem_of_getElem? (i := 9) rfl))) (mvT hZ (hw _ (List.mem_of_getElem? (i := 3) rfl))) (mvT hZ (hw _ (List.mem_of_getElem? (i := 10) rfl))) (by decide) (backOf (W := 0) (rm3 l Z a0 hw [] c3 z172 h156 n0 zs157 hz172) hZ (hw _ (List.mem_of_getElem? (i := 10) rfl)) (hw _ (List.mem_of_getElem? (i := 3) rfl)) (by decide) (by decide)) (g := (mkF m 158 #[.val (.int p1), .val (.int p2), .val (.int p3), .val (.int p4), .val (.ref b126), .val (.int (Int32.ofNat st)), .val (.int (Int32.ofNat n)), .val (.int (Int32.ofNat (st + n))), .val (.int c0), .val (.int c1), .val (.int c2), .val (.int c3), .unset, .unset, .unset] [(.int c3)])) rfl (by rw [hml]; rfl) (argsL := [(.int c3)]) (rest := []) (lenOf own_pd3 rfl) rfl (by show 2 * 0 + _ ≤ _; exact Nat.le_of_eq rfl) (hb hby at_158) (fun _ _ => ⟨rfl, e170, (by decide : 1 + 0 ≤ _), (by decide : 6 + 0 ≤ _)⟩)
        dsimp only [Pt.U, Pt.locs, Pt.cells, Pt.slots] at X173 l173 y173 z173 st173 hQ173
        rw [l173, y173, z173] at X173
        clear l173 y173 z173
        obtain ⟨rfl, N173q, e173⟩ := hQ173
        have N173 := Fr.app N170 N173q
        refine own_go ?_ (fun tq kt => st173 _ kt)
        show own_Fin _ _ _ _ (T173.setTop (mkF m 161 #[.val (.int p1), .val (.int p2), .val (.int p3), .val (.int p4), .val (.ref b126), .val (.int (Int32.ofNat st)), .val (.int (Int32.ofNat n)), .val (.int (Int32.ofNat (st + n))), .val (.int c0), .val (.int c1), .val (.int c2), .val (.int c3), .unset, .unset, .unset] [(.int z172)]))
        by_cases hc161_174 : z172 = (0 : Int32)
        · refine own_go ?_ (fun tq kt => XS.ifYes X173.here hx rfl (pc0 := 161) (pc' := 166) rfl (hb hby at_161) rfl ((if0 _ _).trans (teq (hc161_174 : z172 = (0 : Int32))).1) (by decide) (by decide) kt)
          show own_Fin _ _ _ _ (T173.setTop (mkF m 166 #[.val (.int p1), .val (.int p2), .val (.int p3), .val (.int p4), .val (.ref b126), .val (.int (Int32.ofNat st)), .val (.int (Int32.ofNat n)), .val (.int (Int32.ofNat (st + n))), .val (.int c0), .val (.int c1), .val (.int c2), .val (.int c3), .unset, .unset, .unset] []))
          refine own_go ?_ (fun tq kt => XS.iload X173.here hx rfl (hb hby at_166) rfl kt)
          show own_Fin _ _ _ _ (T173.setTop (mkF m 168 #[.val (.int p1), .val (.int p2), .val (.int p3), .val (.int p4), .val (.ref b126), .val (.int (Int32.ofNat st)), .val (.int (Int32.ofNat n)), .val (.int (Int32.ofNat (st + n))), .val (.int c0), .val (.int c1), .val (.int c2), .val (.int c3), .unset, .unset, .unset] [(.int (Int32.ofNat n))]))
          by_cases hc168_175 : (Int32.ofNat n) = (0 : Int32)
          · refine own_go ?_ (fun tq kt => XS.ifYes X173.here hx rfl (pc0 := 168) (pc' := 178) rfl (hb hby at_168) rfl ((if0 _ _).trans (teq (hc168_175 : (Int32.ofNat n) = (0 : Int32))).1) (by decide) (by decide) kt)
            show own_Fin _ _ _ _ (T173.setTop (mkF m 178 #[.val (.int p1), .val (.int p2), .val (.int p3), .val (.int p4), .val (.ref b126), .val (.int (Int32.ofNat st)), .val (.int (Int32.ofNat n)), .val (.int (Int32.ofNat (st + n))), .val (.int c0), .val (.int c1), .val (.int c2), .val (.int c3), .unset, .unset, .unset] []))
            refine own_go ?_ (fun tq kt => XS.bipush X173.here hx rfl (hb hby at_178) kt)
            show own_Fin _ _ _ _ (T173.setTop (mkF m 180 #[.val (.int p1), .val (.int p2), .val (.int p3), .val (.int p4), .val (.ref b126), .val (.int (Int32.ofNat st)), .val (.int (Int32.ofNat n)), .val (.int (Int32.ofNat (st + n))), .val (.int c0), .val (.int c1), .val (.int c2), .val (.int c3), .unset, .unset, .unset] [(.int (-2 : Int32))]))
            refine own_go ?_ (fun tq kt => XS.istore X173.here hx rfl (hb hby at_180) rfl (l' := #[.val (.int p1), .val (.int p2), .val (.int p3), .val (.int p4), .val (.ref b126), .val (.int (Int32.ofNat st)), .val (.int (Int32.ofNat n)), .val (.int (Int32.ofNat (st + n))), .val (.int c0), .val (.int c1), .val (.int c2), .val (.int c3), .val (.int (-2 : Int32)), .unset, .unset]) rfl kt)
            show own_Fin _ _ _ _ (T173.setTop (mkF m 182 #[.val (.int p1), .val (.int p2), .val (.int p3), .val (.int p4), .val (.ref b126), .val (.int (Int32.ofNat st)), .val (.int (Int32.ofNat n)), .val (.int (Int32.ofNat (st + n))), .val (.int c0), .val (.int c1), .val (.int c2), .val (.int c3), .val (.int (-2 : Int32)), .unset, .unset] []))
            refine own_go ?_ (fun tq kt => XS.goto X173.here hx rfl (pc0 := 182) (pc' := 285) rfl (hb hby at_182) (by decide) (by decide) kt)
            show own_Fin _ _ _ _ (T173.setTop (mkF m 285 #[.val (.int p1), .val (.int p2), .val (.int p3), .val (.int p4), .val (.ref b126), .val (.int (Int32.ofNat st)), .val (.int (Int32.ofNat n)), .val (.int (Int32.ofNat (st + n))), .val (.int c0), .val (.int c1), .val (.int c2), .val (.int c3), .val (.int (-2 : Int32)), .unset, .unset] []))
            refine own_go ?_ (fun tq kt => XS.aload X173.here hx rfl (hb hby at_285) rfl rfl kt)
            show own_Fin _ _ _ _ (T173.setTop (mkF m 287 #[.val (.int p1), .val (.int p2), .val (.int p3), .val (.int p4), .val (.ref b126), .val (.int (Int32.ofNat st)), .val (.int (Int32.ofNat n)), .val (.int (Int32.ofNat (st + n))), .val (.int c0), .val (.int c1), .val (.int c2), .val (.int c3), .val (.int (-2 : Int32)), .unset, .unset] [(.ref b126)]))
            refine own_go ?_ (fun tq kt => XS.iload X173.here hx rfl (hb hby at_287) rfl kt)
            show own_Fin _ _ _ _ (T173.setTop (mkF m 289 #[.val (.int p1), .val (.int p2), .val (.int p3), .val (.int p4), .val (.ref b126), .val (.int (Int32.ofNat st)), .val (.int (Int32.ofNat n)), .val (.int (Int32.ofNat (st + n))), .val (.int c0), .val (.int c1), .val (.int c2), .val (.int c3), .val (.int (-2 : Int32)), .unset, .unset] [(.int (Int32.ofNat st)), (.ref b126)]))
            refine own_go ?_ (fun tq kt => XS.iload X173.here hx rfl (hb hby at_289) rfl kt)
            show own_Fin _ _ _ _ (T173.setTop (mkF m 291 #[.val (.int p1), .val (.int p2), .val (.int p3), .val (.int p4), .val (.ref b126), .val (.int (Int32.ofNat st)), .val (.int (Int32.ofNat n)), .val (.int (Int32.ofNat (st + n))), .val (.int c0), .val (.int c1), .val (.int c2), .val (.int c3), .val (.int (-2 : Int32)), .unset, .unset] [(.int (Int32.ofNat (st + n))), (.int (Int32.ofNat st)), (.ref b126)]))
            obtain ⟨T176, X176, e176, st176⟩ := getS2 X173 hx hZ hown (host := "") (Or.inl (hw _ (List.mem_of_getElem? (i := 11) rfl))) Via.refl e173 (SL.ext od157.2) (g := (mkF m 291 #[.val (.int p1), .val (.int p2), .val (.int p3), .val (.int p4), .val (.ref b126), .val (.int (Int32.ofNat st)), .val (.int (Int32.ofNat n)), .val (.int (Int32.ofNat (st + n))), .val (.int c0), .val (.int c1), .val (.int c2), .val (.int c3), .val (.int (-2 : Int32)), .unset, .unset] [(.int (Int32.ofNat (st + n))), (.int (Int32.ofNat st)), (.ref b126)])) rfl (hb hby at_291)
            refine own_go ?_ (fun tq kt => st176 _ kt)
            show own_Fin _ _ _ _ (T176.setTop (mkF m 294 #[.val (.int p1), .val (.int p2), .val (.int p3), .val (.int p4), .val (.ref b126), .val (.int (Int32.ofNat st)), .val (.int (Int32.ofNat n)), .val (.int (Int32.ofNat (st + n))), .val (.int c0), .val (.int c1), .val (.int c2), .val (.int c3), .val (.int (-2 : Int32)), .unset, .unset] [(.ref lk), (.int (Int32.ofNat (st + n))), (.int (Int32.ofNat st)), (.ref b126)]))
            obtain ⟨_, _, ⟨T177, L177, k177, n177⟩, -, X177, ⟨Lc177, hQ177, l177, y177, z177⟩, st177⟩ := Jvm.LawKit.callS X176 hx (y := (⟨"com/example/wolf_spider/wolfspider/EdgeListLine", "tab", "([BIILcom/example/wolf_spider/wolfspider/EdgeListLine$Fields;)I"⟩ : MethodName)) hown (mvT hZ (hw _ (List.mem_of_getElem? (i := 14) rfl))) (mvT hZ (hw _ (List.mem_of_getElem? (i := 15) rfl))) (mvT hZ (hw _ (List.mem_of_getElem? (i := 12) rfl))) (mvT hZ (hw _ (List.mem_of_getElem? (i := 16) rfl))) (by decide) (backOf (W := 0) (rm4 l Z a0 hw [] b126 lk st n k126 bs (-2 : Int32) h156 n0 zs157 VW (by omega) (own_nb hs2 hn2 hk0 hk1 hk2 hk3 (hz163.trans hc137_165) (hz166.trans hc145_168) (hz169.trans hc153_171) (hz172.trans hc161_174)) (own_finA hs2 hn2 hk0 hk1 hk2 hk3 (Or.inl hc168_175))) hZ (hw _ (List.mem_of_getElem? (i := 16) rfl)) (hw _ (List.mem_of_getElem? (i := 12) rfl)) (by decide) (by decide)) (g := (mkF m 294 #[.val (.int p1), .val (.int p2), .val (.int p3), .val (.int p4), .val (.ref b126), .val (.int (Int32.ofNat st)), .val (.int (Int32.ofNat n)), .val (.int (Int32.ofNat (st + n))), .val (.int c0), .val (.int c1), .val (.int c2), .val (.int c3), .val (.int (-2 : Int32)), .unset, .unset] [(.ref lk), (.int (Int32.ofNat (st + n))), (.int (Int32.ofNat st)), (.ref b126)])) rfl (by rw [hml]; rfl) (argsL := [(.ref b126), (.int (Int32.ofNat st)), (.int (Int32.ofNat (st + n))), (.ref lk)]) (rest := []) (lenOf own_pd4 rfl) rfl (by show 2 * 0 + _ ≤ _; exact Nat.le_of_eq rfl) (hb hby at_294) (fun _ _ => ⟨rfl, e176, (by decide : 1 + 0 ≤ _), (by decide : 6 + 0 ≤ _)⟩)
            dsimp only [Pt.U, Pt.locs, Pt.cells, Pt.slots] at X177 l177 y177 z177 st177 hQ177
            rw [l177, y177, z177] at X177
            clear l177 y177 z177
            obtain ⟨rfl, N177q, e177⟩ := hQ177
            have N177 := Fr.app N173 N177q
            refine own_go ?_ (fun tq kt => st177 _ kt)
            show own_Fin _ _ _ _ (T177.setTop (mkF m 297 #[.val (.int p1), .val (.int p2), .val (.int p3), .val (.int p4), .val (.ref b126), .val (.int (Int32.ofNat st)), .val (.int (Int32.ofNat n)), .val (.int (Int32.ofNat (st + n))), .val (.int c0), .val (.int c1), .val (.int c2), .val (.int c3), .val (.int (-2 : Int32)), .unset, .unset] [(.int (-2 : Int32))]))
            refine own_go ?_ (fun tq kt => XS.iload X177.here hx rfl (hb hby at_297) rfl kt)
            show own_Fin _ _ _ _ (T177.setTop (mkF m 299 #[.val (.int p1), .val (.int p2), .val (.int p3), .val (.int p4), .val (.ref b126), .val (.int (Int32.ofNat st)), .val (.int (Int32.ofNat n)), .val (.int (Int32.ofNat (st + n))), .val (.int c0), .val (.int c1), .val (.int c2), .val (.int c3), .val (.int (-2 : Int32)), .unset, .unset] [(.int (-2 : Int32)), (.int (-2 : Int32))]))
            refine own_go ?_ (fun tq kt => XS.icmpNo X177.here hx rfl (hb hby at_299) rfl (teq (rfl : (-2 : Int32) = (-2 : Int32))).2 kt)
            show own_Fin _ _ _ _ (T177.setTop (mkF m 302 #[.val (.int p1), .val (.int p2), .val (.int p3), .val (.int p4), .val (.ref b126), .val (.int (Int32.ofNat st)), .val (.int (Int32.ofNat n)), .val (.int (Int32.ofNat (st + n))), .val (.int c0), .val (.int c1), .val (.int c2), .val (.int c3), .val (.int (-2 : Int32)), .unset, .unset] []))
            refine own_go ?_ (fun tq kt => XS.iconst X177.here hx rfl (hb hby at_302) kt)
            show own_Fin _ _ _ _ (T177.setTop (mkF m 303 #[.val (.int p1), .val (.int p2), .val (.int p3), .val (.int p4), .val (.ref b126), .val (.int (Int32.ofNat st)), .val (.int (Int32.ofNat n)), .val (.int (Int32.ofNat (st + n))), .val (.int c0), .val (.int c1), .val (.int c2), .val (.int c3), .val (.int (-2 : Int32)), .unset, .unset] [(.int (1 : Int32))]))
            refine own_go ?_ (fun tq kt => XS.goto X177.here hx rfl (pc0 := 303) (pc' := 307) rfl (hb hby at_303) (by decide) (by decide) kt)
            show own_Fin _ _ _ _ (T177.setTop (mkF m 307 #[.val (.int p1), .val (.int p2), .val (.int p3), .val (.int p4), .val (.ref b126), .val (.int (Int32.ofNat st)), .val (.int (Int32.ofNat n)), .val (.int (Int32.ofNat (st + n))), .val (.int c0), .val (.int c1), .val (.int c2), .val (.int c3), .val (.int (-2 : Int32)), .unset, .unset] [(.int (1 : Int32))]))
            refine own_retN X177 hx (t := .boolean) Bd.returns (by simp) (hb hby at_307) hlk ?_ (by decide) (by decide)
            exact ⟨rfl, N177⟩
          · refine own_go ?_ (fun tq kt => XS.ifNo X173.here hx rfl (hb hby at_168) rfl ((if0 _ _).trans (feq (hc168_175 : ¬ ((Int32.ofNat n) = (0 : Int32)))).1) kt)
            show own_Fin _ _ _ _ (T173.setTop (mkF m 171 #[.val (.int p1), .val (.int p2), .val (.int p3), .val (.int p4), .val (.ref b126), .val (.int (Int32.ofNat st)), .val (.int (Int32.ofNat n)), .val (.int (Int32.ofNat (st + n))), .val (.int c0), .val (.int c1), .val (.int c2), .val (.int c3), .unset, .unset, .unset] []))
            refine own_go ?_ (fun tq kt => XS.iload X173.here hx rfl (hb hby at_171) rfl kt)
            show own_Fin _ _ _ _ (T173.setTop (mkF m 173 #[.val (.int p1), .val (.int p2), .val (.int p3), .val (.int p4), .val (.ref b126), .val (.int (Int32.ofNat st)), .val (.int (Int32.ofNat n)), .val (.int (Int32.ofNat (st + n))), .val (.int c0), .val (.int c1), .val (.int c2), .val (.int c3), .unset, .unset, .unset] [(.int c0)]))
            refine own_go ?_ (fun tq kt => XS.bipush X173.here hx rfl (hb hby at_173) kt)
            show own_Fin _ _ _ _ (T173.setTop (mkF m 175 #[.val (.int p1), .val (.int p2), .val (.int p3), .val (.int p4), .val (.ref b126), .val (.int (Int32.ofNat st)), .val (.int (Int32.ofNat n)), .val (.int (Int32.ofNat (st + n))), .val (.int c0), .val (.int c1), .val (.int c2), .val (.int c3), .unset, .unset, .unset] [(.int (35 : Int32)), (.int c0)]))
            by_cases hc175_178 : c0 = (35 : Int32)
            · refine own_go ?_ (fun tq kt => XS.icmpNo X173.here hx rfl (hb hby at_175) rfl (teq (hc175_178 : c0 = (35 : Int32))).2 kt)
              show own_Fin _ _ _ _ (T173.setTop (mkF m 178 #[.val (.int p1), .val (.int p2), .val (.int p3), .val (.int p4), .val (.ref b126), .val (.int (Int32.ofNat st)), .val (.int (Int32.ofNat n)), .val (.int (Int32.ofNat (st + n))), .val (.int c0), .val (.int c1), .val (.int c2), .val (.int c3), .unset, .unset, .unset] []))
              refine own_go ?_ (fun tq kt => XS.bipush X173.here hx rfl (hb hby at_178) kt)
              show own_Fin _ _ _ _ (T173.setTop (mkF m 180 #[.val (.int p1), .val (.int p2), .val (.int p3), .val (.int p4), .val (.ref b126), .val (.int (Int32.ofNat st)), .val (.int (Int32.ofNat n)), .val (.int (Int32.ofNat (st + n))), .val (.int c0), .val (.int c1), .val (.int c2), .val (.int c3), .unset, .unset, .unset] [(.int (-2 : Int32))]))
              refine own_go ?_ (fun tq kt => XS.istore X173.here hx rfl (hb hby at_180) rfl (l' := #[.val (.int p1), .val (.int p2), .val (.int p3), .val (.int p4), .val (.ref b126), .val (.int (Int32.ofNat st)), .val (.int (Int32.ofNat n)), .val (.int (Int32.ofNat (st + n))), .val (.int c0), .val (.int c1), .val (.int c2), .val (.int c3), .val (.int (-2 : Int32)), .unset, .unset]) rfl kt)
              show own_Fin _ _ _ _ (T173.setTop (mkF m 182 #[.val (.int p1), .val (.int p2), .val (.int p3), .val (.int p4), .val (.ref b126), .val (.int (Int32.ofNat st)), .val (.int (Int32.ofNat n)), .val (.int (Int32.ofNat (st + n))), .val (.int c0), .val (.int c1), .val (.int c2), .val (.int c3), .val (.int (-2 : Int32)), .unset, .unset] []))
              refine own_go ?_ (fun tq kt => XS.goto X173.here hx rfl (pc0 := 182) (pc' := 285) rfl (hb hby at_182) (by decide) (by decide) kt)
              show own_Fin _ _ _ _ (T173.setTop (mkF m 285 #[.val (.int p1), .val (.int p2), .val (.int p3), .val (.int p4), .val (.ref b126), .val (.int (Int32.ofNat st)), .val (.int (Int32.ofNat n)), .val (.int (Int32.ofNat (st + n))), .val (.int c0), .val (.int c1), .val (.int c2), .val (.int c3), .val (.int (-2 : Int32)), .unset, .unset] []))
              refine own_go ?_ (fun tq kt => XS.aload X173.here hx rfl (hb hby at_285) rfl rfl kt)
              show own_Fin _ _ _ _ (T173.setTop (mkF m 287 #[.val (.int p1), .val (.int p2), .val (.int p3), .val (.int p4), .val (.ref b126), .val (.int (Int32.ofNat st)), .val (.int (Int32.ofNat n)), .val (.int (Int32.ofNat (st + n))), .val (.int c0), .val (.int c1), .val (.int c2), .val (.int c3), .val (.int (-2 : Int32)), .unset, .unset] [(.ref b126)]))
              refine own_go ?_ (fun tq kt => XS.iload X173.here hx rfl (hb hby at_287) rfl kt)
              show own_Fin _ _ _ _ (T173.setTop (mkF m 289 #[.val (.int p1), .val (.int p2), .val (.int p3), .val (.int p4), .val (.ref b126), .val (.int (Int32.ofNat st)), .val (.int (Int32.ofNat n)), .val (.int (Int32.ofNat (st + n))), .val (.int c0), .val (.int c1), .val (.int c2), .val (.int c3), .val (.int (-2 : Int32)), .unset, .unset] [(.int (Int32.ofNat st)), (.ref b126)]))
              refine own_go ?_ (fun tq kt => XS.iload X173.here hx rfl (hb hby at_289) rfl kt)
              show own_Fin _ _ _ _ (T173.setTop (mkF m 291 #[.val (.int p1), .val (.int p2), .val (.int p3), .val (.int p4), .val (.ref b126), .val (.int (Int32.ofNat st)), .val (.int (Int32.ofNat n)), .val (.int (Int32.ofNat (st + n))), .val (.int c0), .val (.int c1), .val (.int c2), .val (.int c3), .val (.int (-2 : Int32)), .unset, .unset] [(.int (Int32.ofNat (st + n))), (.int (Int32.ofNat st)), (.ref b126)]))
              obtain ⟨T179, X179, e179, st179⟩ := getS2 X173 hx hZ hown (host := "") (Or.inl (hw _ (List.mem_of_getElem? (i := 11) rfl))) Via.refl e173 (SL.ext od157.2) (g := (mkF m 291 #[.val (.int p1), .val (.int p2), .val (.int p3), .val (.int p4), .val (.ref b126), .val (.int (Int32.ofNat st)), .val (.int (Int32.ofNat n)), .val (.int (Int32.ofNat (st + n))), .val (.int c0), .val (.int c1), .val (.int c2), .val (.int c3), .val (.int (-2 : Int32)), .unset, .unset] [(.int (Int32.ofNat (st + n))), (.int (Int32.ofNat st)), (.ref b126)])) rfl (hb hby at_291)
              refine own_go ?_ (fun tq kt => st179 _ kt)
              show own_Fin _ _ _ _ (T179.setTop (mkF m 294 #[.val (.int p1), .val (.int p2), .val (.int p3), .val (.int p4), .val (.ref b126), .val (.int (Int32.ofNat st)), .val (.int (Int32.ofNat n)), .val (.int (Int32.ofNat (st + n))), .val (.int c0), .val (.int c1), .val (.int c2), .val (.int c3), .val (.int (-2 : Int32)), .unset, .unset] [(.ref lk), (.int (Int32.ofNat (st + n))), (.int (Int32.ofNat st)), (.ref b126)]))
              obtain ⟨_, _, ⟨T180, L180, k180, n180⟩, -, X180, ⟨Lc180, hQ180, l180, y180, z180⟩, st180⟩ := Jvm.LawKit.callS X179 hx (y := (⟨"com/example/wolf_spider/wolfspider/EdgeListLine", "tab", "([BIILcom/example/wolf_spider/wolfspider/EdgeListLine$Fields;)I"⟩ : MethodName)) hown (mvT hZ (hw _ (List.mem_of_getElem? (i := 14) rfl))) (mvT hZ (hw _ (List.mem_of_getElem? (i := 15) rfl))) (mvT hZ (hw _ (List.mem_of_getElem? (i := 12) rfl))) (mvT hZ (hw _ (List.mem_of_getElem? (i := 16) rfl))) (by decide) (backOf (W := 0) (rm4 l Z a0 hw [] b126 lk st n k126 bs (-2 : Int32) h156 n0 zs157 VW (by omega) (own_nb hs2 hn2 hk0 hk1 hk2 hk3 (hz163.trans hc137_165) (hz166.trans hc145_168) (hz169.trans hc153_171) (hz172.trans hc161_174)) (own_finA hs2 hn2 hk0 hk1 hk2 hk3 (Or.inr hc175_178))) hZ (hw _ (List.mem_of_getElem? (i := 16) rfl)) (hw _ (List.mem_of_getElem? (i := 12) rfl)) (by decide) (by decide)) (g := (mkF m 294 #[.val (.int p1), .val (.int p2), .val (.int p3), .val (.int p4), .val (.ref b126), .val (.int (Int32.ofNat st)), .val (.int (Int32.ofNat n)), .val (.int (Int32.ofNat (st + n))), .val (.int c0), .val (.int c1), .val (.int c2), .val (.int c3), .val (.int (-2 : Int32)), .unset, .unset] [(.ref lk), (.int (Int32.ofNat (st + n))), (.int (Int32.ofNat st)), (.ref b126)])) rfl (by rw [hml]; rfl) (argsL := [(.ref b126), (.int (Int32.ofNat st)), (.int (Int32.ofNat (st + n))), (.ref lk)]) (rest := []) (lenOf own_pd4 rfl) rfl (by show 2 * 0 + _ ≤ _; exact Nat.le_of_eq rfl) (hb hby at_294) (fun _ _ => ⟨rfl, e179, (by decide : 1 + 0 ≤ _), (by decide : 6 + 0 ≤ _)⟩)
              dsimp only [Pt.U, Pt.locs, Pt.cells, Pt.slots] at X180 l180 y180 z180 st180 hQ180
              rw [l180, y180, z180] at X180
              clear l180 y180 z180
              obtain ⟨rfl, N180q, e180⟩ := hQ180
              have N180 := Fr.app N173 N180q
              refine own_go ?_ (fun tq kt => st180 _ kt)
              show own_Fin _ _ _ _ (T180.setTop (mkF m 297 #[.val (.int p1), .val (.int p2), .val (.int p3), .val (.int p4), .val (.ref b126), .val (.int (Int32.ofNat st)), .val (.int (Int32.ofNat n)), .val (.int (Int32.ofNat (st + n))), .val (.int c0), .val (.int c1), .val (.int c2), .val (.int c3), .val (.int (-2 : Int32)), .unset, .unset] [(.int (-2 : Int32))]))
              refine own_go ?_ (fun tq kt => XS.iload X180.here hx rfl (hb hby at_297) rfl kt)
              show own_Fin _ _ _ _ (T180.setTop (mkF m 299 #[.val (.int p1), .val (.int p2), .val (.int p3), .val (.int p4), .val (.ref b126), .val (.int (Int32.ofNat st)), .val (.int (Int32.ofNat n)), .val (.int (Int32.ofNat (st + n))), .val (.int c0), .val (.int c1), .val (.int c2), .val (.int c3), .val (.int (-2 : Int32)), .unset, .unset] [(.int (-2 : Int32)), (.int (-2 : Int32))]))
              refine own_go ?_ (fun tq kt => XS.icmpNo X180.here hx rfl (hb hby at_299) rfl (teq (rfl : (-2 : Int32) = (-2 : Int32))).2 kt)
              show own_Fin _ _ _ _ (T180.setTop (mkF m 302 #[.val (.int p1), .val (.int p2), .val (.int p3), .val (.int p4), .val (.ref b126), .val (.int (Int32.ofNat st)), .val (.int (Int32.ofNat n)), .val (.int (Int32.ofNat (st + n))), .val (.int c0), .val (.int c1), .val (.int c2), .val (.int c3), .val (.int (-2 : Int32)), .unset, .unset] []))
              refine own_go ?_ (fun tq kt => XS.iconst X180.here hx rfl (hb hby at_302) kt)
              show own_Fin _ _ _ _ (T180.setTop (mkF m 303 #[.val (.int p1), .val (.int p2), .val (.int p3), .val (.int p4), .val (.ref b126), .val (.int (Int32.ofNat st)), .val (.int (Int32.ofNat n)), .val (.int (Int32.ofNat (st + n))), .val (.int c0), .val (.int c1), .val (.int c2), .val (.int c3), .val (.int (-2 : Int32)), .unset, .unset] [(.int (1 : Int32))]))
              refine own_go ?_ (fun tq kt => XS.goto X180.here hx rfl (pc0 := 303) (pc' := 307) rfl (hb hby at_303) (by decide) (by decide) kt)
              show own_Fin _ _ _ _ (T180.setTop (mkF m 307 #[.val (.int p1), .val (.int p2), .val (.int p3), .val (.int p4), .val (.ref b126), .val (.int (Int32.ofNat st)), .val (.int (Int32.ofNat n)), .val (.int (Int32.ofNat (st + n))), .val (.int c0), .val (.int c1), .val (.int c2), .val (.int c3), .val (.int (-2 : Int32)), .unset, .unset] [(.int (1 : Int32))]))
              refine own_retN X180 hx (t := .boolean) Bd.returns (by simp) (hb hby at_307) hlk ?_ (by decide) (by decide)
              exact ⟨rfl, N180⟩
            · refine own_go ?_ (fun tq kt => XS.icmpYes X173.here hx rfl (pc0 := 175) (pc' := 185) rfl (hb hby at_175) rfl (feq (hc175_178 : ¬ (c0 = (35 : Int32)))).2 (by decide) (by decide) kt)
              show own_Fin _ _ _ _ (T173.setTop (mkF m 185 #[.val (.int p1), .val (.int p2), .val (.int p3), .val (.int p4), .val (.ref b126), .val (.int (Int32.ofNat st)), .val (.int (Int32.ofNat n)), .val (.int (Int32.ofNat (st + n))), .val (.int c0), .val (.int c1), .val (.int c2), .val (.int c3), .unset, .unset, .unset] []))
              refine own_go ?_ (fun tq kt => XS.iload X173.here hx rfl (hb hby at_185) rfl kt)
              show own_Fin _ _ _ _ (T173.setTop (mkF m 187 #[.val (.int p1), .val (.int p2), .val (.int p3), .val (.int p4), .val (.ref b126), .val (.int (Int32.ofNat st)), .val (.int (Int32.ofNat n)), .val (.int (Int32.ofNat (st + n))), .val (.int c0), .val (.int c1), .val (.int c2), .val (.int c3), .unset, .unset, .unset] [(.int c0)]))
              obtain ⟨z181, hz181⟩ : ∃ z, own_one c0 = z := ⟨_, rfl⟩
              obtain ⟨_, _, ⟨T182, L182, k182, n182⟩, -, X182, ⟨Lc182, hQ182, l182, y182, z182⟩, st182⟩ := Jvm.LawKit.callS X173 hx (y := (⟨"com/example/wolf_spider/wolfspider/EdgeListLineTabPinLaw", "tabOne", "(I)I"⟩ : MethodName)) hown (mvT hZ (hw _ (List.mem_of_getElem? (i := 20) rfl))) (mvT hZ (hw _ (List.mem_of_getElem? (i := 21) rfl))) (mvT hZ (hw _ (List.mem_of_getElem? (i := 3) rfl))) (mvT hZ (hw _ (List.mem_of_getElem? (i := 22) rfl))) (by decide) (backOf (W := 0) (rm6 l Z a0 hw [] c0 z181 h156 n0 zs157 hz181) hZ (hw _ (List.mem_of_getElem? (i := 22) rfl)) (hw _ (List.mem_of_getElem? (i := 3) rfl)) (by decide) (by decide)) (g := (mkF m 187 #[.val (.int p1), .val (.int p2), .val (.int p3), .val (.int p4), .val (.ref b126), .val (.int (Int32.ofNat st)), .val (.int (Int32.ofNat n)), .val (.int (Int32.ofNat (st + n))), .val (.int c0), .val (.int c1), .val (.int c2), .val (.int c3), .unset, .unset, .unset] [(.int c0)])) rfl (by rw [hml]; rfl) (argsL := [(.int c0)]) (rest := []) (lenOf own_pd5 rfl) rfl (by show 2 * 0 + _ ≤ _; exact Nat.le_of_eq rfl) (hb hby at_187) (fun _ _ => ⟨rfl, e173, (by decide : 1 + 0 ≤ _), (by decide : 6 + 0 ≤ _)⟩)
              dsimp only [Pt.U, Pt.locs, Pt.cells, Pt.slots] at X182 l182 y182 z182 st182 hQ182
              rw [l182, y182, z182] at X182
              clear l182 y182 z182
              obtain ⟨rfl, N182q, e182⟩ := hQ182
              have N182 := Fr.app N173 N182q
              refine own_go ?_ (fun tq kt => st182 _ kt)
              show own_Fin _ _ _ _ (T182.setTop (mkF m 190 #[.val (.int p1), .val (.int p2), .val (.int p3), .val (.int p4), .val (.ref b126), .val (.int (Int32.ofNat st)), .val (.int (Int32.ofNat n)), .val (.int (Int32.ofNat (st + n))), .val (.int c0), .val (.int c1), .val (.int c2), .val (.int c3), .unset, .unset, .unset] [(.int z181)]))
              refine own_go ?_ (fun tq kt => XS.iload X182.here hx rfl (hb hby at_190) rfl kt)
              show own_Fin _ _ _ _ (T182.setTop (mkF m 192 #[.val (.int p1), .val (.int p2), .val (.int p3), .val (.int p4), .val (.ref b126), .val (.int (Int32.ofNat st)), .val (.int (Int32.ofNat n)), .val (.int (Int32.ofNat (st + n))), .val (.int c0), .val (.int c1), .val (.int c2), .val (.int c3), .unset, .unset, .unset] [(.int c1), (.int z181)]))
              obtain ⟨z183, hz183⟩ : ∃ z, own_one c1 = z := ⟨_, rfl⟩
              obtain ⟨_, _, ⟨T184, L184, k184, n184⟩, -, X184, ⟨Lc184, hQ184, l184, y184, z184⟩, st184⟩ := Jvm.LawKit.callS X182 hx (y := (⟨"com/example/wolf_spider/wolfspider/EdgeListLineTabPinLaw", "tabOne", "(I)I"⟩ : MethodName)) hown (mvT hZ (hw _ (List.mem_of_getElem? (i := 20) rfl))) (mvT hZ (hw _ (List.mem_of_getElem? (i := 21) rfl))) (mvT hZ (hw _ (List.mem_of_getElem? (i := 3) rfl))) (mvT hZ (hw _ (List.mem_of_getElem? (i := 22) rfl))) (by decide) (backOf (W := 1) (rm6 l Z a0 hw [] c1 z183 h156 n0 zs157 hz183) hZ (hw _ (List.mem_of_getElem? (i := 22) rfl)) (hw _ (List.mem_of_getElem? (i := 3) rfl)) (by decide) (by decide)) (g := (mkF m 192 #[.val (.int p1), .val (.int p2), .val (.int p3), .val (.int p4), .val (.ref b126), .val (.int (Int32.ofNat st)), .val (.int (Int32.ofNat n)), .val (.int (Int32.ofNat (st + n))), .val (.int c0), .val (.int c1), .val (.int c2), .val (.int c3), .unset, .unset, .unset] [(.int c1), (.int z181)])) rfl (by rw [hml]; rfl) (argsL := [(.int c1)]) (rest := [(.int z181)]) (lenOf own_pd5 rfl) rfl (by show 2 * 0 + _ ≤ _; exact Nat.le_of_eq rfl) (hb hby at_192) (fun _ _ => ⟨rfl, e182, (by decide : 1 + 0 ≤ _), (by decide : 6 + 0 ≤ _)⟩)
              dsimp only [Pt.U, Pt.locs, Pt.cells, Pt.slots] at X184 l184 y184 z184 st184 hQ184
              rw [l184, y184, z184] at X184
              clear l184 y184 z184
              obtain ⟨rfl, N184q, e184⟩ := hQ184
              have N184 := Fr.app N182 N184q
              refine own_go ?_ (fun tq kt => st184 _ kt)
              show own_Fin _ _ _ _ (T184.setTop (mkF m 195 #[.val (.int p1), .val (.int p2), .val (.int p3), .val (.int p4), .val (.ref b126), .val (.int (Int32.ofNat st)), .val (.int (Int32.ofNat n)), .val (.int (Int32.ofNat (st + n))), .val (.int c0), .val (.int c1), .val (.int c2), .val (.int c3), .unset, .unset, .unset] [(.int z183), (.int z181)]))
              refine own_go ?_ (fun tq kt => XS.iadd X184.here hx rfl (hb hby at_195) rfl kt)
              show own_Fin _ _ _ _ (T184.setTop (mkF m 196 #[.val (.int p1), .val (.int p2), .val (.int p3), .val (.int p4), .val (.ref b126), .val (.int (Int32.ofNat st)), .val (.int (Int32.ofNat n)), .val (.int (Int32.ofNat (st + n))), .val (.int c0), .val (.int c1), .val (.int c2), .val (.int c3), .unset, .unset, .unset] [(.int (z181 + z183))]))
              refine own_go ?_ (fun tq kt => XS.iload X184.here hx rfl (hb hby at_196) rfl kt)
              show own_Fin _ _ _ _ (T184.setTop (mkF m 198 #[.val (.int p1), .val (.int p2), .val (.int p3), .val (.int p4), .val (.ref b126), .val (.int (Int32.ofNat st)), .val (.int (Int32.ofNat n)), .val (.int (Int32.ofNat (st + n))), .val (.int c0), .val (.int c1), .val (.int c2), .val (.int c3), .unset, .unset, .unset] [(.int c2), (.int (z181 + z183))]))
              obtain ⟨z185, hz185⟩ : ∃ z, own_one c2 = z := ⟨_, rfl⟩
              obtain ⟨_, _, ⟨T186, L186, k186, n186⟩, -, X186, ⟨Lc186, hQ186, l186, y186, z186⟩, st186⟩ := Jvm.LawKit.callS X184 hx (y := (⟨"com/example/wolf_spider/wolfspider/EdgeListLineTabPinLaw", "tabOne", "(I)I"⟩ : MethodName)) hown (mvT hZ (hw _ (List.mem_of_getElem? (i := 20) rfl))) (mvT hZ (hw _ (List.mem_of_getElem? (i := 21) rfl))) (mvT hZ (hw _ (List.mem_of_getElem? (i := 3) rfl))) (mvT hZ (hw _ (List.mem_of_getElem? (i := 22) rfl))) (by decide) (backOf (W := 1) (rm6 l Z a0 hw [] c2 z185 h156 n0 zs157 hz185) hZ (hw _ (List.mem_of_getElem? (i := 22) rfl)) (hw _ (List.mem_of_getElem? (i := 3) rfl)) (by decide) (by decide)) (g := (mkF m 198 #[.val (.int p1), .val (.int p2), .val (.int p3), .val (.int p4), .val (.ref b126), .val (.int (Int32.ofNat st)), .val (.int (Int32.ofNat n)), .val (.int (Int32.ofNat (st + n))), .val (.int c0), .val (.int c1), .val (.int c2), .val (.int c3), .unset, .unset, .unset] [(.int c2), (.int (z181 + z183))])) rfl (by rw [hml]; rfl) (argsL := [(.int c2)]) (rest := [(.int (z181 + z183))]) (lenOf own_pd5 rfl) rfl (by show 2 * 0 + _ ≤ _; exact Nat.le_of_eq rfl) (hb hby at_198) (fun _ _ => ⟨rfl, e184, (by decide : 1 + 0 ≤ _), (by decide : 6 + 0 ≤ _)⟩)
              dsimp only [Pt.U, Pt.locs, Pt.cells, Pt.slots] at X186 l186 y186 z186 st186 hQ186
              rw [l186, y186, z186] at X186
              clear l186 y186 z186
              obtain ⟨rfl, N186q, e186⟩ := hQ186
              have N186 := Fr.app N184 N186q
              refine own_go ?_ (fun tq kt => st186 _ kt)
              show own_Fin _ _ _ _ (T186.setTop (mkF m 201 #[.val (.int p1), .val (.int p2), .val (.int p3), .val (.int p4), .val (.ref b126), .val (.int (Int32.ofNat st)), .val (.int (Int32.ofNat n)), .val (.int (Int32.ofNat (st + n))), .val (.int c0), .val (.int c1), .val (.int c2), .val (.int c3), .unset, .unset, .unset] [(.int z185), (.int (z181 + z183))]))
              refine own_go ?_ (fun tq kt => XS.iadd X186.here hx rfl (hb hby at_201) rfl kt)
              show own_Fin _ _ _ _ (T186.setTop (mkF m 202 #[.val (.int p1), .val (.int p2), .val (.int p3), .val (.int p4), .val (.ref b126), .val (.int (Int32.ofNat st)), .val (.int (Int32.ofNat n)), .val (.int (Int32.ofNat (st + n))), .val (.int c0), .val (.int c1), .val (.int c2), .val (.int c3), .unset, .unset, .unset] [(.int ((z181 + z183) + z185))]))
              refine own_go ?_ (fun tq kt => XS.iload X186.here hx rfl (hb hby at_202) rfl kt)
              show own_Fin _ _ _ _ (T186.setTop (mkF m 204 #[.val (.int p1), .val (.int p2), .val (.int p3), .val (.int p4), .val (.ref b126), .val (.int (Int32.ofNat st)), .val (.int (Int32.ofNat n)), .val (.int (Int32.ofNat (st + n))), .val (.int c0), .val (.int c1), .val (.int c2), .val (.int c3), .unset, .unset, .unset] [(.int c3), (.int ((z181 + z183) + z185))]))
              obtain ⟨z187, hz187⟩ : ∃ z, own_one c3 = z := ⟨_, rfl⟩
              obtain ⟨_, _, ⟨T188, L188, k188, n188⟩, -, X188, ⟨Lc188, hQ188, l188, y188, z188⟩, st188⟩ := Jvm.LawKit.callS X186 hx (y := (⟨"com/example/wolf_spider/wolfspider/EdgeListLineTabPinLaw", "tabOne", "(I)I"⟩ : MethodName)) hown (mvT hZ (hw _ (List.mem_of_getElem? (i := 20) rfl))) (mvT hZ (hw _ (List.mem_of_getElem? (i := 21) rfl))) (mvT hZ (hw _ (List.mem_of_getElem? (i := 3) rfl))) (mvT hZ (hw _ (List.mem_of_getElem? (i := 22) rfl))) (by decide) (backOf (W := 1) (rm6 l Z a0 hw [] c3 z187 h156 n0 zs157 hz187) hZ (hw _ (List.mem_of_getElem? (i := 22) rfl)) (hw _ (List.mem_of_getElem? (i := 3) rfl)) (by decide) (by decide)) (g := (mkF m 204 #[.val (.int p1), .val (.int p2), .val (.int p3), .val (.int p4), .val (.ref b126), .val (.int (Int32.ofNat st)), .val (.int (Int32.ofNat n)), .val (.int (Int32.ofNat (st + n))), .val (.int c0), .val (.int c1), .val (.int c2), .val (.int c3), .unset, .unset, .unset] [(.int c3), (.int ((z181 + z183) + z185))])) rfl (by rw [hml]; rfl) (argsL := [(.int c3)]) (rest := [(.int ((z181 + z183) + z185))]) (lenOf own_pd5 rfl) rfl (by show 2 * 0 + _ ≤ _; exact Nat.le_of_eq rfl) (hb hby at_204) (fun _ _ => ⟨rfl, e186, (by decide : 1 + 0 ≤ _), (by decide : 6 + 0 ≤ _)⟩)
              dsimp only [Pt.U, Pt.locs, Pt.cells, Pt.slots] at X188 l188 y188 z188 st188 hQ188
              rw [l188, y188, z188] at X188
              clear l188 y188 z188
              obtain ⟨rfl, N188q, e188⟩ := hQ188
              have N188 := Fr.app N186 N188q
              refine own_go ?_ (fun tq kt => st188 _ kt)
              show own_Fin _ _ _ _ (T188.setTop (mkF m 207 #[.val (.int p1), .val (.int p2), .val (.int p3), .val (.int p4), .val (.ref b126), .val (.int (Int32.ofNat st)), .val (.int (Int32.ofNat n)), .val (.int (Int32.ofNat (st + n))), .val (.int c0), .val (.int c1), .val (.int c2), .val (.int c3), .unset, .unset, .unset] [(.int z187), (.int ((z181 + z183) + z185))]))
              refine own_go ?_ (fun tq kt => XS.iadd X188.here hx rfl (hb hby at_207) rfl kt)
              show own_Fin _ _ _ _ (T188.setTop (mkF m 208 #[.val (.int p1), .val (.int p2), .val (.int p3), .val (.int p4), .val (.ref b126), .val (.int (Int32.ofNat st)), .val (.int (Int32.ofNat n)), .val (.int (Int32.ofNat (st + n))), .val (.int c0), .val (.int c1), .val (.int c2), .val (.int c3), .unset, .unset, .unset] [(.int (((z181 + z183) + z185) + z187))]))
              refine own_go ?_ (fun tq kt => XS.istore X188.here hx rfl (hb hby at_208) rfl (l' := #[.val (.int p1), .val (.int p2), .val (.int p3), .val (.int p4), .val (.ref b126), .val (.int (Int32.ofNat st)), .val (.int (Int32.ofNat n)), .val (.int (Int32.ofNat (st + n))), .val (.int c0), .val (.int c1), .val (.int c2), .val (.int c3), .unset, .val (.int (((z181 + z183) + z185) + z187)), .unset]) rfl kt)
              show own_Fin _ _ _ _ (T188.setTop (mkF m 210 #[.val (.int p1), .val (.int p2), .val (.int p3), .val (.int p4), .val (.ref b126), .val (.int (Int32.ofNat st)), .val (.int (Int32.ofNat n)), .val (.int (Int32.ofNat (st + n))), .val (.int c0), .val (.int c1), .val (.int c2), .val (.int c3), .unset, .val (.int (((z181 + z183) + z185) + z187)), .unset] []))
              refine own_go ?_ (fun tq kt => XS.iload X188.here hx rfl (hb hby at_210) rfl kt)
              show own_Fin _ _ _ _ (T188.setTop (mkF m 212 #[.val (.int p1), .val (.int p2), .val (.int p3), .val (.int p4), .val (.ref b126), .val (.int (Int32.ofNat st)), .val (.int (Int32.ofNat n)), .val (.int (Int32.ofNat (st + n))), .val (.int c0), .val (.int c1), .val (.int c2), .val (.int c3), .unset, .val (.int (((z181 + z183) + z185) + z187)), .unset] [(.int (((z181 + z183) + z185) + z187))]))
              by_cases hc212_189 : (((z181 + z183) + z185) + z187) = (0 : Int32)
              · refine own_go ?_ (fun tq kt => XS.ifNo X188.here hx rfl (hb hby at_212) rfl ((if0 _ _).trans (teq (hc212_189 : (((z181 + z183) + z185) + z187) = (0 : Int32))).2) kt)
                show own_Fin _ _ _ _ (T188.setTop (mkF m 215 #[.val (.int p1), .val (.int p2), .val (.int p3), .val (.int p4), .val (.ref b126), .val (.int (Int32.ofNat st)), .val (.int (Int32.ofNat n)), .val (.int (Int32.ofNat (st + n))), .val (.int c0), .val (.int c1), .val (.int c2), .val (.int c3), .unset, .val (.int (((z181 + z183) + z185) + z187)), .unset] []))
                refine own_go ?_ (fun tq kt => XS.iconst X188.here hx rfl (hb hby at_215) kt)
                show own_Fin _ _ _ _ (T188.setTop (mkF m 216 #[.val (.int p1), .val (.int p2), .val (.int p3), .val (.int p4), .val (.ref b126), .val (.int (Int32.ofNat st)), .val (.int (Int32.ofNat n)), .val (.int (Int32.ofNat (st + n))), .val (.int c0), .val (.int c1), .val (.int c2), .val (.int c3), .unset, .val (.int (((z181 + z183) + z185) + z187)), .unset] [(.int (-1 : Int32))]))
                refine own_go ?_ (fun tq kt => XS.istore X188.here hx rfl (hb hby at_216) rfl (l' := #[.val (.int p1), .val (.int p2), .val (.int p3), .val (.int p4), .val (.ref b126), .val (.int (Int32.ofNat st)), .val (.int (Int32.ofNat n)), .val (.int (Int32.ofNat (st + n))), .val (.int c0), .val (.int c1), .val (.int c2), .val (.int c3), .val (.int (-1 : Int32)), .val (.int (((z181 + z183) + z185) + z187)), .unset]) rfl kt)
                show own_Fin _ _ _ _ (T188.setTop (mkF m 218 #[.val (.int p1), .val (.int p2), .val (.int p3), .val (.int p4), .val (.ref b126), .val (.int (Int32.ofNat st)), .val (.int (Int32.ofNat n)), .val (.int (Int32.ofNat (st + n))), .val (.int c0), .val (.int c1), .val (.int c2), .val (.int c3), .val (.int (-1 : Int32)), .val (.int (((z181 + z183) + z185) + z187)), .unset] []))
                refine own_go ?_ (fun tq kt => XS.goto X188.here hx rfl (pc0 := 218) (pc' := 285) rfl (hb hby at_218) (by decide) (by decide) kt)
                show own_Fin _ _ _ _ (T188.setTop (mkF m 285 #[.val (.int p1), .val (.int p2), .val (.int p3), .val (.int p4), .val (.ref b126), .val (.int (Int32.ofNat st)), .val (.int (Int32.ofNat n)), .val (.int (Int32.ofNat (st + n))), .val (.int c0), .val (.int c1), .val (.int c2), .val (.int c3), .val (.int (-1 : Int32)), .val (.int (((z181 + z183) + z185) + z187)), .unset] []))
                refine own_go ?_ (fun tq kt => XS.aload X188.here hx rfl (hb hby at_285) rfl rfl kt)
                show own_Fin _ _ _ _ (T188.setTop (mkF m 287 #[.val (.int p1), .val (.int p2), .val (.int p3), .val (.int p4), .val (.ref b126), .val (.int (Int32.ofNat st)), .val (.int (Int32.ofNat n)), .val (.int (Int32.ofNat (st + n))), .val (.int c0), .val (.int c1), .val (.int c2), .val (.int c3), .val (.int (-1 : Int32)), .val (.int (((z181 + z183) + z185) + z187)), .unset] [(.ref b126)]))
                refine own_go ?_ (fun tq kt => XS.iload X188.here hx rfl (hb hby at_287) rfl kt)
                show own_Fin _ _ _ _ (T188.setTop (mkF m 289 #[.val (.int p1), .val (.int p2), .val (.int p3), .val (.int p4), .val (.ref b126), .val (.int (Int32.ofNat st)), .val (.int (Int32.ofNat n)), .val (.int (Int32.ofNat (st + n))), .val (.int c0), .val (.int c1), .val (.int c2), .val (.int c3), .val (.int (-1 : Int32)), .val (.int (((z181 + z183) + z185) + z187)), .unset] [(.int (Int32.ofNat st)), (.ref b126)]))
                refine own_go ?_ (fun tq kt => XS.iload X188.here hx rfl (hb hby at_289) rfl kt)
                show own_Fin _ _ _ _ (T188.setTop (mkF m 291 #[.val (.int p1), .val (.int p2), .val (.int p3), .val (.int p4), .val (.ref b126), .val (.int (Int32.ofNat st)), .val (.int (Int32.ofNat n)), .val (.int (Int32.ofNat (st + n))), .val (.int c0), .val (.int c1), .val (.int c2), .val (.int c3), .val (.int (-1 : Int32)), .val (.int (((z181 + z183) + z185) + z187)), .unset] [(.int (Int32.ofNat (st + n))), (.int (Int32.ofNat st)), (.ref b126)]))
                obtain ⟨T190, X190, e190, st190⟩ := getS2 X188 hx hZ hown (host := "") (Or.inl (hw _ (List.mem_of_getElem? (i := 11) rfl))) Via.refl e188 (SL.ext od157.2) (g := (mkF m 291 #[.val (.int p1), .val (.int p2), .val (.int p3), .val (.int p4), .val (.ref b126), .val (.int (Int32.ofNat st)), .val (.int (Int32.ofNat n)), .val (.int (Int32.ofNat (st + n))), .val (.int c0), .val (.int c1), .val (.int c2), .val (.int c3), .val (.int (-1 : Int32)), .val (.int (((z181 + z183) + z185) + z187)), .unset] [(.int (Int32.ofNat (st + n))), (.int (Int32.ofNat st)), (.ref b126)])) rfl (hb hby at_291)
                refine own_go ?_ (fun tq kt => st190 _ kt)
                show own_Fin _ _ _ _ (T190.setTop (mkF m 294 #[.val (.int p1), .val (.int p2), .val (.int p3), .val (.int p4), .val (.ref b126), .val (.int (Int32.ofNat st)), .val (.int (Int32.ofNat n)), .val (.int (Int32.ofNat (st + n))), .val (.int c0), .val (.int c1), .val (.int c2), .val (.int c3), .val (.int (-1 : Int32)), .val (.int (((z181 + z183) + z185) + z187)), .unset] [(.ref lk), (.int (Int32.ofNat (st + n))), (.int (Int32.ofNat st)), (.ref b126)]))
                obtain ⟨_, _, ⟨T191, L191, k191, n191⟩, -, X191, ⟨Lc191, hQ191, l191, y191, z191⟩, st191⟩ := Jvm.LawKit.callS X190 hx (y := (⟨"com/example/wolf_spider/wolfspider/EdgeListLine", "tab", "([BIILcom/example/wolf_spider/wolfspider/EdgeListLine$Fields;)I"⟩ : MethodName)) hown (mvT hZ (hw _ (List.mem_of_getElem? (i := 14) rfl))) (mvT hZ (hw _ (List.mem_of_getElem? (i := 15) rfl))) (mvT hZ (hw _ (List.mem_of_getElem? (i := 12) rfl))) (mvT hZ (hw _ (List.mem_of_getElem? (i := 16) rfl))) (by decide) (backOf (W := 0) (rm4 l Z a0 hw [] b126 lk st n k126 bs (-1 : Int32) h156 n0 zs157 VW (by omega) (own_nb hs2 hn2 hk0 hk1 hk2 hk3 (hz163.trans hc137_165) (hz166.trans hc145_168) (hz169.trans hc153_171) (hz172.trans hc161_174)) (own_finB hs2 hn2 hk0 hk1 hk2 hk3 hc168_175 hc175_178 (by rw [hz181, hz183, hz185, hz187]; exact hc212_189))) hZ (hw _ (List.mem_of_getElem? (i := 16) rfl)) (hw _ (List.mem_of_getElem? (i := 12) rfl)) (by decide) (by decide)) (g := (mkF m 294 #[.val (.int p1), .val (.int p2), .val (.int p3), .val (.int p4), .val (.ref b126), .val (.int (Int32.ofNat st)), .val (.int (Int32.ofNat n)), .val (.int (Int32.ofNat (st + n))), .val (.int c0), .val (.int c1), .val (.int c2), .val (.int c3), .val (.int (-1 : Int32)), .val (.int (((z181 + z183) + z185) + z187)), .unset] [(.ref lk), (.int (Int32.ofNat (st + n))), (.int (Int32.ofNat st)), (.ref b126)])) rfl (by rw [hml]; rfl) (argsL := [(.ref b126), (.int (Int32.ofNat st)), (.int (Int32.ofNat (st + n))), (.ref lk)]) (rest := []) (lenOf own_pd4 rfl) rfl (by show 2 * 0 + _ ≤ _; exact Nat.le_of_eq rfl) (hb hby at_294) (fun _ _ => ⟨rfl, e190, (by decide : 1 + 0 ≤ _), (by decide : 6 + 0 ≤ _)⟩)
                dsimp only [Pt.U, Pt.locs, Pt.cells, Pt.slots] at X191 l191 y191 z191 st191 hQ191
                rw [l191, y191, z191] at X191
                clear l191 y191 z191
                obtain ⟨rfl, N191q, e191⟩ := hQ191
                have N191 := Fr.app N188 N191q
                refine own_go ?_ (fun tq kt => st191 _ kt)
                show own_Fin _ _ _ _ (T191.setTop (mkF m 297 #[.val (.int p1), .val (.int p2), .val (.int p3), .val (.int p4), .val (.ref b126), .val (.int (Int32.ofNat st)), .val (.int (Int32.ofNat n)), .val (.int (Int32.ofNat (st + n))), .val (.int c0), .val (.int c1), .val (.int c2), .val (.int c3), .val (.int (-1 : Int32)), .val (.int (((z181 + z183) + z185) + z187)), .unset] [(.int (-1 : Int32))]))
                refine own_go ?_ (fun tq kt => XS.iload X191.here hx rfl (hb hby at_297) rfl kt)
                show own_Fin _ _ _ _ (T191.setTop (mkF m 299 #[.val (.int p1), .val (.int p2), .val (.int p3), .val (.int p4), .val (.ref b126), .val (.int (Int32.ofNat st)), .val (.int (Int32.ofNat n)), .val (.int (Int32.ofNat (st + n))), .val (.int c0), .val (.int c1), .val (.int c2), .val (.int c3), .val (.int (-1 : Int32)), .val (.int (((z181 + z183) + z185) + z187)), .unset] [(.int (-1 : Int32)), (.int (-1 : Int32))]))
                refine own_go ?_ (fun tq kt => XS.icmpNo X191.here hx rfl (hb hby at_299) rfl (teq (rfl : (-1 : Int32) = (-1 : Int32))).2 kt)
                show own_Fin _ _ _ _ (T191.setTop (mkF m 302 #[.val (.int p1), .val (.int p2), .val (.int p3), .val (.int p4), .val (.ref b126), .val (.int (Int32.ofNat st)), .val (.int (Int32.ofNat n)), .val (.int (Int32.ofNat (st + n))), .val (.int c0), .val (.int c1), .val (.int c2), .val (.int c3), .val (.int (-1 : Int32)), .val (.int (((z181 + z183) + z185) + z187)), .unset] []))
                refine own_go ?_ (fun tq kt => XS.iconst X191.here hx rfl (hb hby at_302) kt)
                show own_Fin _ _ _ _ (T191.setTop (mkF m 303 #[.val (.int p1), .val (.int p2), .val (.int p3), .val (.int p4), .val (.ref b126), .val (.int (Int32.ofNat st)), .val (.int (Int32.ofNat n)), .val (.int (Int32.ofNat (st + n))), .val (.int c0), .val (.int c1), .val (.int c2), .val (.int c3), .val (.int (-1 : Int32)), .val (.int (((z181 + z183) + z185) + z187)), .unset] [(.int (1 : Int32))]))
                refine own_go ?_ (fun tq kt => XS.goto X191.here hx rfl (pc0 := 303) (pc' := 307) rfl (hb hby at_303) (by decide) (by decide) kt)
                show own_Fin _ _ _ _ (T191.setTop (mkF m 307 #[.val (.int p1), .val (.int p2), .val (.int p3), .val (.int p4), .val (.ref b126), .val (.int (Int32.ofNat st)), .val (.int (Int32.ofNat n)), .val (.int (Int32.ofNat (st + n))), .val (.int c0), .val (.int c1), .val (.int c2), .val (.int c3), .val (.int (-1 : Int32)), .val (.int (((z181 + z183) + z185) + z187)), .unset] [(.int (1 : Int32))]))
                refine own_retN X191 hx (t := .boolean) Bd.returns (by simp) (hb hby at_307) hlk ?_ (by decide) (by decide)
                exact ⟨rfl, N191⟩
              · refine own_go ?_ (fun tq kt => XS.ifYes X188.here hx rfl (pc0 := 212) (pc' := 221) rfl (hb hby at_212) rfl ((if0 _ _).trans (feq (hc212_189 : ¬ ((((z181 + z183) + z185) + z187) = (0 : Int32)))).2) (by decide) (by decide) kt)
                show own_Fin _ _ _ _ (T188.setTop (mkF m 221 #[.val (.int p1), .val (.int p2), .val (.int p3), .val (.int p4), .val (.ref b126), .val (.int (Int32.ofNat st)), .val (.int (Int32.ofNat n)), .val (.int (Int32.ofNat (st + n))), .val (.int c0), .val (.int c1), .val (.int c2), .val (.int c3), .unset, .val (.int (((z181 + z183) + z185) + z187)), .unset] []))
                refine own_go ?_ (fun tq kt => XS.iload X188.here hx rfl (hb hby at_221) rfl kt)
                show own_Fin _ _ _ _ (T188.setTop (mkF m 223 #[.val (.int p1), .val (.int p2), .val (.int p3), .val (.int p4), .val (.ref b126), .val (.int (Int32.ofNat st)), .val (.int (Int32.ofNat n)), .val (.int (Int32.ofNat (st + n))), .val (.int c0), .val (.int c1), .val (.int c2), .val (.int c3), .unset, .val (.int (((z181 + z183) + z185) + z187)), .unset] [(.int (((z181 + z183) + z185) + z187))]))
                refine own_go ?_ (fun tq kt => XS.iconst X188.here hx rfl (hb hby at_223) kt)
                show own_Fin _ _ _ _ (T188.setTop (mkF m 224 #[.val (.int p1), .val (.int p2), .val (.int p3), .val (.int p4), .val (.ref b126), .val (.int (Int32.ofNat st)), .val (.int (Int32.ofNat n)), .val (.int (Int32.ofNat (st + n))), .val (.int c0), .val (.int c1), .val (.int c2), .val (.int c3), .unset, .val (.int (((z181 + z183) + z185) + z187)), .unset] [(.int (2 : Int32)), (.int (((z181 + z183) + z185) + z187))]))
                by_cases hc224_192 : (((z181 + z183) + z185) + z187) < (2 : Int32)
                · refine own_go ?_ (fun tq kt => XS.icmpYes X188.here hx rfl (pc0 := 224) (pc' := 229) rfl (hb hby at_224) rfl (tlt (hc224_192 : (((z181 + z183) + z185) + z187) < (2 : Int32))).1 (by decide) (by decide) kt)
                  show own_Fin _ _ _ _ (T188.setTop (mkF m 229 #[.val (.int p1), .val (.int p2), .val (.int p3), .val (.int p4), .val (.ref b126), .val (.int (Int32.ofNat st)), .val (.int (Int32.ofNat n)), .val (.int (Int32.ofNat (st + n))), .val (.int c0), .val (.int c1), .val (.int c2), .val (.int c3), .unset, .val (.int (((z181 + z183) + z185) + z187)), .unset] []))
                  refine own_go ?_ (fun tq kt => XS.iload X188.here hx rfl (hb hby at_229) rfl kt)
                  show own_Fin _ _ _ _ (T188.setTop (mkF m 231 #[.val (.int p1), .val (.int p2), .val (.int p3), .val (.int p4), .val (.ref b126), .val (.int (Int32.ofNat st)), .val (.int (Int32.ofNat n)), .val (.int (Int32.ofNat (st + n))), .val (.int c0), .val (.int c1), .val (.int c2), .val (.int c3), .unset, .val (.int (((z181 + z183) + z185) + z187)), .unset] [(.int c0)]))
                  refine own_go ?_ (fun tq kt => XS.bipush X188.here hx rfl (hb hby at_231) kt)
                  show own_Fin _ _ _ _ (T188.setTop (mkF m 233 #[.val (.int p1), .val (.int p2), .val (.int p3), .val (.int p4), .val (.ref b126), .val (.int (Int32.ofNat st)), .val (.int (Int32.ofNat n)), .val (.int (Int32.ofNat (st + n))), .val (.int c0), .val (.int c1), .val (.int c2), .val (.int c3), .unset, .val (.int (((z181 + z183) + z185) + z187)), .unset] [(.int (9 : Int32)), (.int c0)]))
                  by_cases hc233_193 : c0 = (9 : Int32)
                  · refine own_go ?_ (fun tq kt => XS.icmpNo X188.here hx rfl (hb hby at_233) rfl (teq (hc233_193 : c0 = (9 : Int32))).2 kt)
                    show own_Fin _ _ _ _ (T188.setTop (mkF m 236 #[.val (.int p1), .val (.int p2), .val (.int p3), .val (.int p4), .val (.ref b126), .val (.int (Int32.ofNat st)), .val (.int (Int32.ofNat n)), .val (.int (Int32.ofNat (st + n))), .val (.int c0), .val (.int c1), .val (.int c2), .val (.int c3), .unset, .val (.int (((z181 + z183) + z185) + z187)), .unset] []))
                    refine own_go ?_ (fun tq kt => XS.iconst X188.here hx rfl (hb hby at_236) kt)
                    show own_Fin _ _ _ _ (T188.setTop (mkF m 237 #[.val (.int p1), .val (.int p2), .val (.int p3), .val (.int p4), .val (.ref b126), .val (.int (Int32.ofNat st)), .val (.int (Int32.ofNat n)), .val (.int (Int32.ofNat (st + n))), .val (.int c0), .val (.int c1), .val (.int c2), .val (.int c3), .unset, .val (.int (((z181 + z183) + z185) + z187)), .unset] [(.int (0 : Int32))]))
                    refine own_go ?_ (fun tq kt => XS.goto X188.here hx rfl (pc0 := 237) (pc' := 263) rfl (hb hby at_237) (by decide) (by decide) kt)
                    show own_Fin _ _ _ _ (T188.setTop (mkF m 263 #[.val (.int p1), .val (.int p2), .val (.int p3), .val (.int p4), .val (.ref b126), .val (.int (Int32.ofNat st)), .val (.int (Int32.ofNat n)), .val (.int (Int32.ofNat (st + n))), .val (.int c0), .val (.int c1), .val (.int c2), .val (.int c3), .unset, .val (.int (((z181 + z183) + z185) + z187)), .unset] [(.int (0 : Int32))]))
                    refine own_go ?_ (fun tq kt => XS.istore X188.here hx rfl (hb hby at_263) rfl (l' := #[.val (.int p1), .val (.int p2), .val (.int p3), .val (.int p4), .val (.ref b126), .val (.int (Int32.ofNat st)), .val (.int (Int32.ofNat n)), .val (.int (Int32.ofNat (st + n))), .val (.int c0), .val (.int c1), .val (.int c2), .val (.int c3), .unset, .val (.int (((z181 + z183) + z185) + z187)), .val (.int (0 : Int32))]) rfl kt)
                    show own_Fin _ _ _ _ (T188.setTop (mkF m 265 #[.val (.int p1), .val (.int p2), .val (.int p3), .val (.int p4), .val (.ref b126), .val (.int (Int32.ofNat st)), .val (.int (Int32.ofNat n)), .val (.int (Int32.ofNat (st + n))), .val (.int c0), .val (.int c1), .val (.int c2), .val (.int c3), .unset, .val (.int (((z181 + z183) + z185) + z187)), .val (.int (0 : Int32))] []))
                    refine own_go ?_ (fun tq kt => XS.iload X188.here hx rfl (hb hby at_265) rfl kt)
                    show own_Fin _ _ _ _ (T188.setTop (mkF m 267 #[.val (.int p1), .val (.int p2), .val (.int p3), .val (.int p4), .val (.ref b126), .val (.int (Int32.ofNat st)), .val (.int (Int32.ofNat n)), .val (.int (Int32.ofNat (st + n))), .val (.int c0), .val (.int c1), .val (.int c2), .val (.int c3), .unset, .val (.int (((z181 + z183) + z185) + z187)), .val (.int (0 : Int32))] [(.int (0 : Int32))]))
                    refine own_go ?_ (fun tq kt => XS.ifYes X188.here hx rfl (pc0 := 267) (pc' := 279) rfl (hb hby at_267) rfl ((if0 _ _).trans (teq (rfl : (0 : Int32) = (0 : Int32))).1) (by decide) (by decide) kt)
                    show own_Fin _ _ _ _ (T188.setTop (mkF m 279 #[.val (.int p1), .val (.int p2), .val (.int p3), .val (.int p4), .val (.ref b126), .val (.int (Int32.ofNat st)), .val (.int (Int32.ofNat n)), .val (.int (Int32.ofNat (st + n))), .val (.int c0), .val (.int c1), .val (.int c2), .val (.int c3), .unset, .val (.int (((z181 + z183) + z185) + z187)), .val (.int (0 : Int32))] []))
                    refine own_go ?_ (fun tq kt => XS.iconst X188.here hx rfl (hb hby at_279) kt)
                    show own_Fin _ _ _ _ (T188.setTop (mkF m 280 #[.val (.int p1), .val (.int p2), .val (.int p3), .val (.int p4), .val (.ref b126), .val (.int (Int32.ofNat st)), .val (.int (Int32.ofNat n)), .val (.int (Int32.ofNat (st + n))), .val (.int c0), .val (.int c1), .val (.int c2), .val (.int c3), .unset, .val (.int (((z181 + z183) + z185) + z187)), .val (.int (0 : Int32))] [(.int (1 : Int32))]))
                    refine own_retN X188 hx (t := .boolean) Bd.returns (by simp) (hb hby at_280) hlk ?_ (by decide) (by decide)
                    exact ⟨rfl, N188⟩
                  · refine own_go ?_ (fun tq kt => XS.icmpYes X188.here hx rfl (pc0 := 233) (pc' := 240) rfl (hb hby at_233) rfl (feq (hc233_193 : ¬ (c0 = (9 : Int32)))).2 (by decide) (by decide) kt)
                    show own_Fin _ _ _ _ (T188.setTop (mkF m 240 #[.val (.int p1), .val (.int p2), .val (.int p3), .val (.int p4), .val (.ref b126), .val (.int (Int32.ofNat st)), .val (.int (Int32.ofNat n)), .val (.int (Int32.ofNat (st + n))), .val (.int c0), .val (.int c1), .val (.int c2), .val (.int c3), .unset, .val (.int (((z181 + z183) + z185) + z187)), .unset] []))
                    refine own_go ?_ (fun tq kt => XS.iload X188.here hx rfl (hb hby at_240) rfl kt)
                    show own_Fin _ _ _ _ (T188.setTop (mkF m 242 #[.val (.int p1), .val (.int p2), .val (.int p3), .val (.int p4), .val (.ref b126), .val (.int (Int32.ofNat st)), .val (.int (Int32.ofNat n)), .val (.int (Int32.ofNat (st + n))), .val (.int c0), .val (.int c1), .val (.int c2), .val (.int c3), .unset, .val (.int (((z181 + z183) + z185) + z187)), .unset] [(.int c1)]))
                    refine own_go ?_ (fun tq kt => XS.bipush X188.here hx rfl (hb hby at_242) kt)
                    show own_Fin _ _ _ _ (T188.setTop (mkF m 244 #[.val (.int p1), .val (.int p2), .val (.int p3), .val (.int p4), .val (.ref b126), .val (.int (Int32.ofNat st)), .val (.int (Int32.ofNat n)), .val (.int (Int32.ofNat (st + n))), .val (.int c0), .val (.int c1), .val (.int c2), .val (.int c3), .unset, .val (.int (((z181 + z183) + z185) + z187)), .unset] [(.int (9 : Int32)), (.int c1)]))
                    by_cases hc244_194 : c1 = (9 : Int32)
                    · refine own_go ?_ (fun tq kt => XS.icmpNo X188.here hx rfl (hb hby at_244) rfl (teq (hc244_194 : c1 = (9 : Int32))).2 kt)
                      show own_Fin _ _ _ _ (T188.setTop (mkF m 247 #[.val (.int p1), .val (.int p2), .val (.int p3), .val (.int p4), .val (.ref b126), .val (.int (Int32.ofNat st)), .val (.int (Int32.ofNat n)), .val (.int (Int32.ofNat (st + n))), .val (.int c0), .val (.int c1), .val (.int c2), .val (.int c3), .unset, .val (.int (((z181 + z183) + z185) + z187)), .unset] []))
                      refine own_go ?_ (fun tq kt => XS.iconst X188.here hx rfl (hb hby at_247) kt)
                      show own_Fin _ _ _ _ (T188.setTop (mkF m 248 #[.val (.int p1), .val (.int p2), .val (.int p3), .val (.int p4), .val (.ref b126), .val (.int (Int32.ofNat st)), .val (.int (Int32.ofNat n)), .val (.int (Int32.ofNat (st + n))), .val (.int c0), .val (.int c1), .val (.int c2), .val (.int c3), .unset, .val (.int (((z181 + z183) + z185) + z187)), .unset] [(.int (1 : Int32))]))
                      refine own_go ?_ (fun tq kt => XS.goto X188.here hx rfl (pc0 := 248) (pc' := 263) rfl (hb hby at_248) (by decide) (by decide) kt)
                      show own_Fin _ _ _ _ (T188.setTop (mkF m 263 #[.val (.int p1), .val (.int p2), .val (.int p3), .val (.int p4), .val (.ref b126), .val (.int (Int32.ofNat st)), .val (.int (Int32.ofNat n)), .val (.int (Int32.ofNat (st + n))), .val (.int c0), .val (.int c1), .val (.int c2), .val (.int c3), .unset, .val (.int (((z181 + z183) + z185) + z187)), .unset] [(.int (1 : Int32))]))
                      refine own_go ?_ (fun tq kt => XS.istore X188.here hx rfl (hb hby at_263) rfl (l' := #[.val (.int p1), .val (.int p2), .val (.int p3), .val (.int p4), .val (.ref b126), .val (.int (Int32.ofNat st)), .val (.int (Int32.ofNat n)), .val (.int (Int32.ofNat (st + n))), .val (.int c0), .val (.int c1), .val (.int c2), .val (.int c3), .unset, .val (.int (((z181 + z183) + z185) + z187)), .val (.int (1 : Int32))]) rfl kt)
                      show own_Fin _ _ _ _ (T188.setTop (mkF m 265 #[.val (.int p1), .val (.int p2), .val (.int p3), .val (.int p4), .val (.ref b126), .val (.int (Int32.ofNat st)), .val (.int (Int32.ofNat n)), .val (.int (Int32.ofNat (st + n))), .val (.int c0), .val (.int c1), .val (.int c2), .val (.int c3), .unset, .val (.int (((z181 + z183) + z185) + z187)), .val (.int (1 : Int32))] []))
                      refine own_go ?_ (fun tq kt => XS.iload X188.here hx rfl (hb hby at_265) rfl kt)
                      show own_Fin _ _ _ _ (T188.setTop (mkF m 267 #[.val (.int p1), .val (.int p2), .val (.int p3), .val (.int p4), .val (.ref b126), .val (.int (Int32.ofNat st)), .val (.int (Int32.ofNat n)), .val (.int (Int32.ofNat (st + n))), .val (.int c0), .val (.int c1), .val (.int c2), .val (.int c3), .unset, .val (.int (((z181 + z183) + z185) + z187)), .val (.int (1 : Int32))] [(.int (1 : Int32))]))
                      refine own_go ?_ (fun tq kt => XS.ifNo X188.here hx rfl (hb hby at_267) rfl ((if0 _ _).trans (feq ((by decide) : ¬ ((1 : Int32) = (0 : Int32)))).1) kt)
                      show own_Fin _ _ _ _ (T188.setTop (mkF m 270 #[.val (.int p1), .val (.int p2), .val (.int p3), .val (.int p4), .val (.ref b126), .val (.int (Int32.ofNat st)), .val (.int (Int32.ofNat n)), .val (.int (Int32.ofNat (st + n))), .val (.int c0), .val (.int c1), .val (.int c2), .val (.int c3), .unset, .val (.int (((z181 + z183) + z185) + z187)), .val (.int (1 : Int32))] []))
                      refine own_go ?_ (fun tq kt => XS.iload X188.here hx rfl (hb hby at_270) rfl kt)
                      show own_Fin _ _ _ _ (T188.setTop (mkF m 272 #[.val (.int p1), .val (.int p2), .val (.int p3), .val (.int p4), .val (.ref b126), .val (.int (Int32.ofNat st)), .val (.int (Int32.ofNat n)), .val (.int (Int32.ofNat (st + n))), .val (.int c0), .val (.int c1), .val (.int c2), .val (.int c3), .unset, .val (.int (((z181 + z183) + z185) + z187)), .val (.int (1 : Int32))] [(.int (1 : Int32))]))
                      refine own_go ?_ (fun tq kt => XS.iload X188.here hx rfl (hb hby at_272) rfl kt)
                      show own_Fin _ _ _ _ (T188.setTop (mkF m 274 #[.val (.int p1), .val (.int p2), .val (.int p3), .val (.int p4), .val (.ref b126), .val (.int (Int32.ofNat st)), .val (.int (Int32.ofNat n)), .val (.int (Int32.ofNat (st + n))), .val (.int c0), .val (.int c1), .val (.int c2), .val (.int c3), .unset, .val (.int (((z181 + z183) + z185) + z187)), .val (.int (1 : Int32))] [(.int (Int32.ofNat n)), (.int (1 : Int32))]))
                      refine own_go ?_ (fun tq kt => XS.iconst X188.here hx rfl (hb hby at_274) kt)
                      show own_Fin _ _ _ _ (T188.setTop (mkF m 275 #[.val (.int p1), .val (.int p2), .val (.int p3), .val (.int p4), .val (.ref b126), .val (.int (Int32.ofNat st)), .val (.int (Int32.ofNat n)), .val (.int (Int32.ofNat (st + n))), .val (.int c0), .val (.int c1), .val (.int c2), .val (.int c3), .unset, .val (.int (((z181 + z183) + z185) + z187)), .val (.int (1 : Int32))] [(.int (1 : Int32)), (.int (Int32.ofNat n)), (.int (1 : Int32))]))
                      refine own_go ?_ (fun tq kt => XS.isub X188.here hx rfl (hb hby at_275) rfl kt)
                      show own_Fin _ _ _ _ (T188.setTop (mkF m 276 #[.val (.int p1), .val (.int p2), .val (.int p3), .val (.int p4), .val (.ref b126), .val (.int (Int32.ofNat st)), .val (.int (Int32.ofNat n)), .val (.int (Int32.ofNat (st + n))), .val (.int c0), .val (.int c1), .val (.int c2), .val (.int c3), .unset, .val (.int (((z181 + z183) + z185) + z187)), .val (.int (1 : Int32))] [(.int ((Int32.ofNat n) - (1 : Int32))), (.int (1 : Int32))]))
                      by_cases hc276_195 : (1 : Int32) = ((Int32.ofNat n) - (1 : Int32))
                      · refine own_go ?_ (fun tq kt => XS.icmpNo X188.here hx rfl (hb hby at_276) rfl (teq (hc276_195 : (1 : Int32) = ((Int32.ofNat n) - (1 : Int32)))).2 kt)
                        show own_Fin _ _ _ _ (T188.setTop (mkF m 279 #[.val (.int p1), .val (.int p2), .val (.int p3), .val (.int p4), .val (.ref b126), .val (.int (Int32.ofNat st)), .val (.int (Int32.ofNat n)), .val (.int (Int32.ofNat (st + n))), .val (.int c0), .val (.int c1), .val (.int c2), .val (.int c3), .unset, .val (.int (((z181 + z183) + z185) + z187)), .val (.int (1 : Int32))] []))
                        refine own_go ?_ (fun tq kt => XS.iconst X188.here hx rfl (hb hby at_279) kt)
                        show own_Fin _ _ _ _ (T188.setTop (mkF m 280 #[.val (.int p1), .val (.int p2), .val (.int p3), .val (.int p4), .val (.ref b126), .val (.int (Int32.ofNat st)), .val (.int (Int32.ofNat n)), .val (.int (Int32.ofNat (st + n))), .val (.int c0), .val (.int c1), .val (.int c2), .val (.int c3), .unset, .val (.int (((z181 + z183) + z185) + z187)), .val (.int (1 : Int32))] [(.int (1 : Int32))]))
                        refine own_retN X188 hx (t := .boolean) Bd.returns (by simp) (hb hby at_280) hlk ?_ (by decide) (by decide)
                        exact ⟨rfl, N188⟩
                      · refine own_go ?_ (fun tq kt => XS.icmpYes X188.here hx rfl (pc0 := 276) (pc' := 281) rfl (hb hby at_276) rfl (feq (hc276_195 : ¬ ((1 : Int32) = ((Int32.ofNat n) - (1 : Int32))))).2 (by decide) (by decide) kt)
                        show own_Fin _ _ _ _ (T188.setTop (mkF m 281 #[.val (.int p1), .val (.int p2), .val (.int p3), .val (.int p4), .val (.ref b126), .val (.int (Int32.ofNat st)), .val (.int (Int32.ofNat n)), .val (.int (Int32.ofNat (st + n))), .val (.int c0), .val (.int c1), .val (.int c2), .val (.int c3), .unset, .val (.int (((z181 + z183) + z185) + z187)), .val (.int (1 : Int32))] []))
                        refine own_go ?_ (fun tq kt => XS.iload X188.here hx rfl (hb hby at_281) rfl kt)
                        show own_Fin _ _ _ _ (T188.setTop (mkF m 283 #[.val (.int p1), .val (.int p2), .val (.int p3), .val (.int p4), .val (.ref b126), .val (.int (Int32.ofNat st)), .val (.int (Int32.ofNat n)), .val (.int (Int32.ofNat (st + n))), .val (.int c0), .val (.int c1), .val (.int c2), .val (.int c3), .unset, .val (.int (((z181 + z183) + z185) + z187)), .val (.int (1 : Int32))] [(.int (1 : Int32))]))
                        refine own_go ?_ (fun tq kt => XS.istore X188.here hx rfl (hb hby at_283) rfl (l' := #[.val (.int p1), .val (.int p2), .val (.int p3), .val (.int p4), .val (.ref b126), .val (.int (Int32.ofNat st)), .val (.int (Int32.ofNat n)), .val (.int (Int32.ofNat (st + n))), .val (.int c0), .val (.int c1), .val (.int c2), .val (.int c3), .val (.int (1 : Int32)), .val (.int (((z181 + z183) + z185) + z187)), .val (.int (1 : Int32))]) rfl kt)
                        show own_Fin _ _ _ _ (T188.setTop (mkF m 285 #[.val (.int p1), .val (.int p2), .val (.int p3), .val (.int p4), .val (.ref b126), .val (.int (Int32.ofNat st)), .val (.int (Int32.ofNat n)), .val (.int (Int32.ofNat (st + n))), .val (.int c0), .val (.int c1), .val (.int c2), .val (.int c3), .val (.int (1 : Int32)), .val (.int (((z181 + z183) + z185) + z187)), .val (.int (1 : Int32))] []))
                        refine own_go ?_ (fun tq kt => XS.aload X188.here hx rfl (hb hby at_285) rfl rfl kt)
                        show own_Fin _ _ _ _ (T188.setTop (mkF m 287 #[.val (.int p1), .val (.int p2), .val (.int p3), .val (.int p4), .val (.ref b126), .val (.int (Int32.ofNat st)), .val (.int (Int32.ofNat n)), .val (.int (Int32.ofNat (st + n))), .val (.int c0), .val (.int c1), .val (.int c2), .val (.int c3), .val (.int (1 : Int32)), .val (.int (((z181 + z183) + z185) + z187)), .val (.int (1 : Int32))] [(.ref b126)]))
                        refine own_go ?_ (fun tq kt => XS.iload X188.here hx rfl (hb hby at_287) rfl kt)
                        show own_Fin _ _ _ _ (T188.setTop (mkF m 289 #[.val (.int p1), .val (.int p2), .val (.int p3), .val (.int p4), .val (.ref b126), .val (.int (Int32.ofNat st)), .val (.int (Int32.ofNat n)), .val (.int (Int32.ofNat (st + n))), .val (.int c0), .val (.int c1), .val (.int c2), .val (.int c3), .val (.int (1 : Int32)), .val (.int (((z181 + z183) + z185) + z187)), .val (.int (1 : Int32))] [(.int (Int32.ofNat st)), (.ref b126)]))
                        refine own_go ?_ (fun tq kt => XS.iload X188.here hx rfl (hb hby at_289) rfl kt)
                        show own_Fin _ _ _ _ (T188.setTop (mkF m 291 #[.val (.int p1), .val (.int p2), .val (.int p3), .val (.int p4), .val (.ref b126), .val (.int (Int32.ofNat st)), .val (.int (Int32.ofNat n)), .val (.int (Int32.ofNat (st + n))), .val (.int c0), .val (.int c1), .val (.int c2), .val (.int c3), .val (.int (1 : Int32)), .val (.int (((z181 + z183) + z185) + z187)), .val (.int (1 : Int32))] [(.int (Int32.ofNat (st + n))), (.int (Int32.ofNat st)), (.ref b126)]))
                        obtain ⟨T196, X196, e196, st196⟩ := getS2 X188 hx hZ hown (host := "") (Or.inl (hw _ (List.mem_of_getElem? (i := 11) rfl))) Via.refl e188 (SL.ext od157.2) (g := (mkF m 291 #[.val (.int p1), .val (.int p2), .val (.int p3), .val (.int p4), .val (.ref b126), .val (.int (Int32.ofNat st)), .val (.int (Int32.ofNat n)), .val (.int (Int32.ofNat (st + n))), .val (.int c0), .val (.int c1), .val (.int c2), .val (.int c3), .val (.int (1 : Int32)), .val (.int (((z181 + z183) + z185) + z187)), .val (.int (1 : Int32))] [(.int (Int32.ofNat (st + n))), (.int (Int32.ofNat st)), (.ref b126)])) rfl (hb hby at_291)
                        refine own_go ?_ (fun tq kt => st196 _ kt)
                        show own_Fin _ _ _ _ (T196.setTop (mkF m 294 #[.val (.int p1), .val (.int p2), .val (.int p3), .val (.int p4), .val (.ref b126), .val (.int (Int32.ofNat st)), .val (.int (Int32.ofNat n)), .val (.int (Int32.ofNat (st + n))), .val (.int c0), .val (.int c1), .val (.int c2), .val (.int c3), .val (.int (1 : Int32)), .val (.int (((z181 + z183) + z185) + z187)), .val (.int (1 : Int32))] [(.ref lk), (.int (Int32.ofNat (st + n))), (.int (Int32.ofNat st)), (.ref b126)]))
                        obtain ⟨_, _, ⟨T197, L197, k197, n197⟩, -, X197, ⟨Lc197, hQ197, l197, y197, z197⟩, st197⟩ := Jvm.LawKit.callS X196 hx (y := (⟨"com/example/wolf_spider/wolfspider/EdgeListLine", "tab", "([BIILcom/example/wolf_spider/wolfspider/EdgeListLine$Fields;)I"⟩ : MethodName)) hown (mvT hZ (hw _ (List.mem_of_getElem? (i := 14) rfl))) (mvT hZ (hw _ (List.mem_of_getElem? (i := 15) rfl))) (mvT hZ (hw _ (List.mem_of_getElem? (i := 12) rfl))) (mvT hZ (hw _ (List.mem_of_getElem? (i := 16) rfl))) (by decide) (backOf (W := 0) (rm4 l Z a0 hw [] b126 lk st n k126 bs (1 : Int32) h156 n0 zs157 VW (by omega) (own_nb hs2 hn2 hk0 hk1 hk2 hk3 (hz163.trans hc137_165) (hz166.trans hc145_168) (hz169.trans hc153_171) (hz172.trans hc161_174)) (own_finC1 hs2 hn2 hk0 hk1 hk2 hk3 hc168_175 hc175_178 (by rw [hz181, hz183, hz185, hz187]; exact hc212_189) (by rw [hz181, hz183, hz185, hz187]; exact hc224_192) hc233_193 hc244_194 hc276_195)) hZ (hw _ (List.mem_of_getElem? (i := 16) rfl)) (hw _ (List.mem_of_getElem? (i := 12) rfl)) (by decide) (by decide)) (g := (mkF m 294 #[.val (.int p1), .val (.int p2), .val (.int p3), .val (.int p4), .val (.ref b126), .val (.int (Int32.ofNat st)), .val (.int (Int32.ofNat n)), .val (.int (Int32.ofNat (st + n))), .val (.int c0), .val (.int c1), .val (.int c2), .val (.int c3), .val (.int (1 : Int32)), .val (.int (((z181 + z183) + z185) + z187)), .val (.int (1 : Int32))] [(.ref lk), (.int (Int32.ofNat (st + n))), (.int (Int32.ofNat st)), (.ref b126)])) rfl (by rw [hml]; rfl) (argsL := [(.ref b126), (.int (Int32.ofNat st)), (.int (Int32.ofNat (st + n))), (.ref lk)]) (rest := []) (lenOf own_pd4 rfl) rfl (by show 2 * 0 + _ ≤ _; exact Nat.le_of_eq rfl) (hb hby at_294) (fun _ _ => ⟨rfl, e196, (by decide : 1 + 0 ≤ _), (by decide : 6 + 0 ≤ _)⟩)
                        dsimp only [Pt.U, Pt.locs, Pt.cells, Pt.slots] at X197 l197 y197 z197 st197 hQ197
                        rw [l197, y197, z197] at X197
                        clear l197 y197 z197
                        obtain ⟨rfl, N197q, e197⟩ := hQ197
                        have N197 := Fr.app N188 N197q
                        refine own_go ?_ (fun tq kt => st197 _ kt)
                        show own_Fin _ _ _ _ (T197.setTop (mkF m 297 #[.val (.int p1), .val (.int p2), .val (.int p3), .val (.int p4), .val (.ref b126), .val (.int (Int32.ofNat st)), .val (.int (Int32.ofNat n)), .val (.int (Int32.ofNat (st + n))), .val (.int c0), .val (.int c1), .val (.int c2), .val (.int c3), .val (.int (1 : Int32)), .val (.int (((z181 + z183) + z185) + z187)), .val (.int (1 : Int32))] [(.int (1 : Int32))]))
                        refine own_go ?_ (fun tq kt => XS.iload X197.here hx rfl (hb hby at_297) rfl kt)
                        show own_Fin _ _ _ _ (T197.setTop (mkF m 299 #[.val (.int p1), .val (.int p2), .val (.int p3), .val (.int p4), .val (.ref b126), .val (.int (Int32.ofNat st)), .val (.int (Int32.ofNat n)), .val (.int (Int32.ofNat (st + n))), .val (.int c0), .val (.int c1), .val (.int c2), .val (.int c3), .val (.int (1 : Int32)), .val (.int (((z181 + z183) + z185) + z187)), .val (.int (1 : Int32))] [(.int (1 : Int32)), (.int (1 : Int32))]))
                        refine own_go ?_ (fun tq kt => XS.icmpNo X197.here hx rfl (hb hby at_299) rfl (teq (rfl : (1 : Int32) = (1 : Int32))).2 kt)
                        show own_Fin _ _ _ _ (T197.setTop (mkF m 302 #[.val (.int p1), .val (.int p2), .val (.int p3), .val (.int p4), .val (.ref b126), .val (.int (Int32.ofNat st)), .val (.int (Int32.ofNat n)), .val (.int (Int32.ofNat (st + n))), .val (.int c0), .val (.int c1), .val (.int c2), .val (.int c3), .val (.int (1 : Int32)), .val (.int (((z181 + z183) + z185) + z187)), .val (.int (1 : Int32))] []))
                        refine own_go ?_ (fun tq kt => XS.iconst X197.here hx rfl (hb hby at_302) kt)
                        show own_Fin _ _ _ _ (T197.setTop (mkF m 303 #[.val (.int p1), .val (.int p2), .val (.int p3), .val (.int p4), .val (.ref b126), .val (.int (Int32.ofNat st)), .val (.int (Int32.ofNat n)), .val (.int (Int32.ofNat (st + n))), .val (.int c0), .val (.int c1), .val (.int c2), .val (.int c3), .val (.int (1 : Int32)), .val (.int (((z181 + z183) + z185) + z187)), .val (.int (1 : Int32))] [(.int (1 : Int32))]))
                        refine own_go ?_ (fun tq kt => XS.goto X197.here hx rfl (pc0 := 303) (pc' := 307) rfl (hb hby at_303) (by decide) (by decide) kt)
                        show own_Fin _ _ _ _ (T197.setTop (mkF m 307 #[.val (.int p1), .val (.int p2), .val (.int p3), .val (.int p4), .val (.ref b126), .val (.int (Int32.ofNat st)), .val (.int (Int32.ofNat n)), .val (.int (Int32.ofNat (st + n))), .val (.int c0), .val (.int c1), .val (.int c2), .val (.int c3), .val (.int (1 : Int32)), .val (.int (((z181 + z183) + z185) + z187)), .val (.int (1 : Int32))] [(.int (1 : Int32))]))
                        refine own_retN X197 hx (t := .boolean) Bd.returns (by simp) (hb hby at_307) hlk ?_ (by decide) (by decide)
                        exact ⟨rfl, N197⟩
                    · refine own_go ?_ (fun tq kt => XS.icmpYes X188.here hx rfl (pc0 := 244) (pc' := 251) rfl (hb hby at_244) rfl (feq (hc244_194 : ¬ (c1 = (9 : Int32)))).2 (by decide) (by decide) kt)
                      show own_Fin _ _ _ _ (T188.setTop (mkF m 251 #[.val (.int p1), .val (.int p2), .val (.int p3), .val (.int p4), .val (.ref b126), .val (.int (Int32.ofNat st)), .val (.int (Int32.ofNat n)), .val (.int (Int32.ofNat (st + n))), .val (.int c0), .val (.int c1), .val (.int c2), .val (.int c3), .unset, .val (.int (((z181 + z183) + z185) + z187)), .unset] []))
                      refine own_go ?_ (fun tq kt => XS.iload X188.here hx rfl (hb hby at_251) rfl kt)
                      show own_Fin _ _ _ _ (T188.setTop (mkF m 253 #[.val (.int p1), .val (.int p2), .val (.int p3), .val (.int p4), .val (.ref b126), .val (.int (Int32.ofNat st)), .val (.int (Int32.ofNat n)), .val (.int (Int32.ofNat (st + n))), .val (.int c0), .val (.int c1), .val (.int c2), .val (.int c3), .unset, .val (.int (((z181 + z183) + z185) + z187)), .unset] [(.int c2)]))
                      refine own_go ?_ (fun tq kt => XS.bipush X188.here hx rfl (hb hby at_253) kt)
                      show own_Fin _ _ _ _ (T188.setTop (mkF m 255 #[.val (.int p1), .val (.int p2), .val (.int p3), .val (.int p4), .val (.ref b126), .val (.int (Int32.ofNat st)), .val (.int (Int32.ofNat n)), .val (.int (Int32.ofNat (st + n))), .val (.int c0), .val (.int c1), .val (.int c2), .val (.int c3), .unset, .val (.int (((z181 + z183) + z185) + z187)), .unset] [(.int (9 : Int32)), (.int c2)]))
                      by_cases hc255_198 : c2 = (9 : Int32)
                      · refine own_go ?_ (fun tq kt => XS.icmpNo X188.here hx rfl (hb hby at_255) rfl (teq (hc255_198 : c2 = (9 : Int32))).2 kt)
                        show own_Fin _ _ _ _ (T188.setTop (mkF m 258 #[.val (.int p1), .val (.int p2), .val (.int p3), .val (.int p4), .val (.ref b126), .val (.int (Int32.ofNat st)), .val (.int (Int32.ofNat n)), .val (.int (Int32.ofNat (st + n))), .val (.int c0), .val (.int c1), .val (.int c2), .val (.int c3), .unset, .val (.int (((z181 + z183) + z185) + z187)), .unset] []))
                        refine own_go ?_ (fun tq kt => XS.iconst X188.here hx rfl (hb hby at_258) kt)
                        show own_Fin _ _ _ _ (T188.setTop (mkF m 259 #[.val (.int p1), .val (.int p2), .val (.int p3), .val (.int p4), .val (.ref b126), .val (.int (Int32.ofNat st)), .val (.int (Int32.ofNat n)), .val (.int (Int32.ofNat (st + n))), .val (.int c0), .val (.int c1), .val (.int c2), .val (.int c3), .unset, .val (.int (((z181 + z183) + z185) + z187)), .unset] [(.int (2 : Int32))]))
                        refine own_go ?_ (fun tq kt => XS.goto X188.here hx rfl (pc0 := 259) (pc' := 263) rfl (hb hby at_259) (by decide) (by decide) kt)
                        show own_Fin _ _ _ _ (T188.setTop (mkF m 263 #[.val (.int p1), .val (.int p2), .val (.int p3), .val (.int p4), .val (.ref b126), .val (.int (Int32.ofNat st)), .val (.int (Int32.ofNat n)), .val (.int (Int32.ofNat (st + n))), .val (.int c0), .val (.int c1), .val (.int c2), .val (.int c3), .unset, .val (.int (((z181 + z183) + z185) + z187)), .unset] [(.int (2 : Int32))]))
                        refine own_go ?_ (fun tq kt => XS.istore X188.here hx rfl (hb hby at_263) rfl (l' := #[.val (.int p1), .val (.int p2), .val (.int p3), .val (.int p4), .val (.ref b126), .val (.int (Int32.ofNat st)), .val (.int (Int32.ofNat n)), .val (.int (Int32.ofNat (st + n))), .val (.int c0), .val (.int c1), .val (.int c2), .val (.int c3), .unset, .val (.int (((z181 + z183) + z185) + z187)), .val (.int (2 : Int32))]) rfl kt)
                        show own_Fin _ _ _ _ (T188.setTop (mkF m 265 #[.val (.int p1), .val (.int p2), .val (.int p3), .val (.int p4), .val (.ref b126), .val (.int (Int32.ofNat st)), .val (.int (Int32.ofNat n)), .val (.int (Int32.ofNat (st + n))), .val (.int c0), .val (.int c1), .val (.int c2), .val (.int c3), .unset, .val (.int (((z181 + z183) + z185) + z187)), .val (.int (2 : Int32))] []))
                        refine own_go ?_ (fun tq kt => XS.iload X188.here hx rfl (hb hby at_265) rfl kt)
                        show own_Fin _ _ _ _ (T188.setTop (mkF m 267 #[.val (.int p1), .val (.int p2), .val (.int p3), .val (.int p4), .val (.ref b126), .val (.int (Int32.ofNat st)), .val (.int (Int32.ofNat n)), .val (.int (Int32.ofNat (st + n))), .val (.int c0), .val (.int c1), .val (.int c2), .val (.int c3), .unset, .val (.int (((z181 + z183) + z185) + z187)), .val (.int (2 : Int32))] [(.int (2 : Int32))]))
                        refine own_go ?_ (fun tq kt => XS.ifNo X188.here hx rfl (hb hby at_267) rfl ((if0 _ _).trans (feq ((by decide) : ¬ ((2 : Int32) = (0 : Int32)))).1) kt)
                        show own_Fin _ _ _ _ (T188.setTop (mkF m 270 #[.val (.int p1), .val (.int p2), .val (.int p3), .val (.int p4), .val (.ref b126), .val (.int (Int32.ofNat st)), .val (.int (Int32.ofNat n)), .val (.int (Int32.ofNat (st + n))), .val (.int c0), .val (.int c1), .val (.int c2), .val (.int c3), .unset, .val (.int (((z181 + z183) + z185) + z187)), .val (.int (2 : Int32))] []))
                        refine own_go ?_ (fun tq kt => XS.iload X188.here hx rfl (hb hby at_270) rfl kt)
                        show own_Fin _ _ _ _ (T188.setTop (mkF m 272 #[.val (.int p1), .val (.int p2), .val (.int p3), .val (.int p4), .val (.ref b126), .val (.int (Int32.ofNat st)), .val (.int (Int32.ofNat n)), .val (.int (Int32.ofNat (st + n))), .val (.int c0), .val (.int c1), .val (.int c2), .val (.int c3), .unset, .val (.int (((z181 + z183) + z185) + z187)), .val (.int (2 : Int32))] [(.int (2 : Int32))]))
                        refine own_go ?_ (fun tq kt => XS.iload X188.here hx rfl (hb hby at_272) rfl kt)
                        show own_Fin _ _ _ _ (T188.setTop (mkF m 274 #[.val (.int p1), .val (.int p2), .val (.int p3), .val (.int p4), .val (.ref b126), .val (.int (Int32.ofNat st)), .val (.int (Int32.ofNat n)), .val (.int (Int32.ofNat (st + n))), .val (.int c0), .val (.int c1), .val (.int c2), .val (.int c3), .unset, .val (.int (((z181 + z183) + z185) + z187)), .val (.int (2 : Int32))] [(.int (Int32.ofNat n)), (.int (2 : Int32))]))
                        refine own_go ?_ (fun tq kt => XS.iconst X188.here hx rfl (hb hby at_274) kt)
                        show own_Fin _ _ _ _ (T188.setTop (mkF m 275 #[.val (.int p1), .val (.int p2), .val (.int p3), .val (.int p4), .val (.ref b126), .val (.int (Int32.ofNat st)), .val (.int (Int32.ofNat n)), .val (.int (Int32.ofNat (st + n))), .val (.int c0), .val (.int c1), .val (.int c2), .val (.int c3), .unset, .val (.int (((z181 + z183) + z185) + z187)), .val (.int (2 : Int32))] [(.int (1 : Int32)), (.int (Int32.ofNat n)), (.int (2 : Int32))]))
                        refine own_go ?_ (fun tq kt => XS.isub X188.here hx rfl (hb hby at_275) rfl kt)
                        show own_Fin _ _ _ _ (T188.setTop (mkF m 276 #[.val (.int p1), .val (.int p2), .val (.int p3), .val (.int p4), .val (.ref b126), .val (.int (Int32.ofNat st)), .val (.int (Int32.ofNat n)), .val (.int (Int32.ofNat (st + n))), .val (.int c0), .val (.int c1), .val (.int c2), .val (.int c3), .unset, .val (.int (((z181 + z183) + z185) + z187)), .val (.int (2 : Int32))] [(.int ((Int32.ofNat n) - (1 : Int32))), (.int (2 : Int32))]))
                        by_cases hc276_199 : (2 : Int32) = ((Int32.ofNat n) - (1 : Int32))
                        · refine own_go ?_ (fun tq kt => XS.icmpNo X188.here hx rfl (hb hby at_276) rfl (teq (hc276_199 : (2 : Int32) = ((Int32.ofNat n) - (1 : Int32)))).2 kt)
                          show own_Fin _ _ _ _ (T188.setTop (mkF m 279 #[.val (.int p1), .val (.int p2), .val (.int p3), .val (.int p4), .val (.ref b126), .val (.int (Int32.ofNat st)), .val (.int (Int32.ofNat n)), .val (.int (Int32.ofNat (st + n))), .val (.int c0), .val (.int c1), .val (.int c2), .val (.int c3), .unset, .val (.int (((z181 + z183) + z185) + z187)), .val (.int (2 : Int32))] []))
                          refine own_go ?_ (fun tq kt => XS.iconst X188.here hx rfl (hb hby at_279) kt)
                          show own_Fin _ _ _ _ (T188.setTop (mkF m 280 #[.val (.int p1), .val (.int p2), .val (.int p3), .val (.int p4), .val (.ref b126), .val (.int (Int32.ofNat st)), .val (.int (Int32.ofNat n)), .val (.int (Int32.ofNat (st + n))), .val (.int c0), .val (.int c1), .val (.int c2), .val (.int c3), .unset, .val (.int (((z181 + z183) + z185) + z187)), .val (.int (2 : Int32))] [(.int (1 : Int32))]))
                          refine own_retN X188 hx (t := .boolean) Bd.returns (by simp) (hb hby at_280) hlk ?_ (by decide) (by decide)
                          exact ⟨rfl, N188⟩
                        · refine own_go ?_ (fun tq kt => XS.icmpYes X188.here hx rfl (pc0 := 276) (pc' := 281) rfl (hb hby at_276) rfl (feq (hc276_199 : ¬ ((2 : Int32) = ((Int32.ofNat n) - (1 : Int32))))).2 (by decide) (by decide) kt)
                          show own_Fin _ _ _ _ (T188.setTop (mkF m 281 #[.val (.int p1), .val (.int p2), .val (.int p3), .val (.int p4), .val (.ref b126), .val (.int (Int32.ofNat st)), .val (.int (Int32.ofNat n)), .val (.int (Int32.ofNat (st + n))), .val (.int c0), .val (.int c1), .val (.int c2), .val (.int c3), .unset, .val (.int (((z181 + z183) + z185) + z187)), .val (.int (2 : Int32))] []))
                          refine own_go ?_ (fun tq kt => XS.iload X188.here hx rfl (hb hby at_281) rfl kt)
                          show own_Fin _ _ _ _ (T188.setTop (mkF m 283 #[.val (.int p1), .val (.int p2), .val (.int p3), .val (.int p4), .val (.ref b126), .val (.int (Int32.ofNat st)), .val (.int (Int32.ofNat n)), .val (.int (Int32.ofNat (st + n))), .val (.int c0), .val (.int c1), .val (.int c2), .val (.int c3), .unset, .val (.int (((z181 + z183) + z185) + z187)), .val (.int (2 : Int32))] [(.int (2 : Int32))]))
                          refine own_go ?_ (fun tq kt => XS.istore X188.here hx rfl (hb hby at_283) rfl (l' := #[.val (.int p1), .val (.int p2), .val (.int p3), .val (.int p4), .val (.ref b126), .val (.int (Int32.ofNat st)), .val (.int (Int32.ofNat n)), .val (.int (Int32.ofNat (st + n))), .val (.int c0), .val (.int c1), .val (.int c2), .val (.int c3), .val (.int (2 : Int32)), .val (.int (((z181 + z183) + z185) + z187)), .val (.int (2 : Int32))]) rfl kt)
                          show own_Fin _ _ _ _ (T188.setTop (mkF m 285 #[.val (.int p1), .val (.int p2), .val (.int p3), .val (.int p4), .val (.ref b126), .val (.int (Int32.ofNat st)), .val (.int (Int32.ofNat n)), .val (.int (Int32.ofNat (st + n))), .val (.int c0), .val (.int c1), .val (.int c2), .val (.int c3), .val (.int (2 : Int32)), .val (.int (((z181 + z183) + z185) + z187)), .val (.int (2 : Int32))] []))
                          refine own_go ?_ (fun tq kt => XS.aload X188.here hx rfl (hb hby at_285) rfl rfl kt)
                          show own_Fin _ _ _ _ (T188.setTop (mkF m 287 #[.val (.int p1), .val (.int p2), .val (.int p3), .val (.int p4), .val (.ref b126), .val (.int (Int32.ofNat st)), .val (.int (Int32.ofNat n)), .val (.int (Int32.ofNat (st + n))), .val (.int c0), .val (.int c1), .val (.int c2), .val (.int c3), .val (.int (2 : Int32)), .val (.int (((z181 + z183) + z185) + z187)), .val (.int (2 : Int32))] [(.ref b126)]))
                          refine own_go ?_ (fun tq kt => XS.iload X188.here hx rfl (hb hby at_287) rfl kt)
                          show own_Fin _ _ _ _ (T188.setTop (mkF m 289 #[.val (.int p1), .val (.int p2), .val (.int p3), .val (.int p4), .val (.ref b126), .val (.int (Int32.ofNat st)), .val (.int (Int32.ofNat n)), .val (.int (Int32.ofNat (st + n))), .val (.int c0), .val (.int c1), .val (.int c2), .val (.int c3), .val (.int (2 : Int32)), .val (.int (((z181 + z183) + z185) + z187)), .val (.int (2 : Int32))] [(.int (Int32.ofNat st)), (.ref b126)]))
                          refine own_go ?_ (fun tq kt => XS.iload X188.here hx rfl (hb hby at_289) rfl kt)
                          show own_Fin _ _ _ _ (T188.setTop (mkF m 291 #[.val (.int p1), .val (.int p2), .val (.int p3), .val (.int p4), .val (.ref b126), .val (.int (Int32.ofNat st)), .val (.int (Int32.ofNat n)), .val (.int (Int32.ofNat (st + n))), .val (.int c0), .val (.int c1), .val (.int c2), .val (.int c3), .val (.int (2 : Int32)), .val (.int (((z181 + z183) + z185) + z187)), .val (.int (2 : Int32))] [(.int (Int32.ofNat (st + n))), (.int (Int32.ofNat st)), (.ref b126)]))
                          obtain ⟨T200, X200, e200, st200⟩ := getS2 X188 hx hZ hown (host := "") (Or.inl (hw _ (List.mem_of_getElem? (i := 11) rfl))) Via.refl e188 (SL.ext od157.2) (g := (mkF m 291 #[.val (.int p1), .val (.int p2), .val (.int p3), .val (.int p4), .val (.ref b126), .val (.int (Int32.ofNat st)), .val (.int (Int32.ofNat n)), .val (.int (Int32.ofNat (st + n))), .val (.int c0), .val (.int c1), .val (.int c2), .val (.int c3), .val (.int (2 : Int32)), .val (.int (((z181 + z183) + z185) + z187)), .val (.int (2 : Int32))] [(.int (Int32.ofNat (st + n))), (.int (Int32.ofNat st)), (.ref b126)])) rfl (hb hby at_291)
                          refine own_go ?_ (fun tq kt => st200 _ kt)
                          show own_Fin _ _ _ _ (T200.setTop (mkF m 294 #[.val (.int p1), .val (.int p2), .val (.int p3), .val (.int p4), .val (.ref b126), .val (.int (Int32.ofNat st)), .val (.int (Int32.ofNat n)), .val (.int (Int32.ofNat (st + n))), .val (.int c0), .val (.int c1), .val (.int c2), .val (.int c3), .val (.int (2 : Int32)), .val (.int (((z181 + z183) + z185) + z187)), .val (.int (2 : Int32))] [(.ref lk), (.int (Int32.ofNat (st + n))), (.int (Int32.ofNat st)), (.ref b126)]))
                          obtain ⟨_, _, ⟨T201, L201, k201, n201⟩, -, X201, ⟨Lc201, hQ201, l201, y201, z201⟩, st201⟩ := Jvm.LawKit.callS X200 hx (y := (⟨"com/example/wolf_spider/wolfspider/EdgeListLine", "tab", "([BIILcom/example/wolf_spider/wolfspider/EdgeListLine$Fields;)I"⟩ : MethodName)) hown (mvT hZ (hw _ (List.mem_of_getElem? (i := 14) rfl))) (mvT hZ (hw _ (List.mem_of_getElem? (i := 15) rfl))) (mvT hZ (hw _ (List.mem_of_getElem? (i := 12) rfl))) (mvT hZ (hw _ (List.mem_of_getElem? (i := 16) rfl))) (by decide) (backOf (W := 0) (rm4 l Z a0 hw [] b126 lk st n k126 bs (2 : Int32) h156 n0 zs157 VW (by omega) (own_nb hs2 hn2 hk0 hk1 hk2 hk3 (hz163.trans hc137_165) (hz166.trans hc145_168) (hz169.trans hc153_171) (hz172.trans hc161_174)) (own_finC2 hs2 hn2 hk0 hk1 hk2 hk3 hc168_175 hc175_178 (by rw [hz181, hz183, hz185, hz187]; exact hc212_189) (by rw [hz181, hz183, hz185, hz187]; exact hc224_192) hc233_193 hc244_194 hc255_198 hc276_199)) hZ (hw _ (List.mem_of_getElem? (i := 16) rfl)) (hw _ (List.mem_of_getElem? (i := 12) rfl)) (by decide) (by decide)) (g := (mkF m 294 #[.val (.int p1), .val (.int p2), .val (.int p3), .val (.int p4), .val (.ref b126), .val (.int (Int32.ofNat st)), .val (.int (Int32.ofNat n)), .val (.int (Int32.ofNat (st + n))), .val (.int c0), .val (.int c1), .val (.int c2), .val (.int c3), .val (.int (2 : Int32)), .val (.int (((z181 + z183) + z185) + z187)), .val (.int (2 : Int32))] [(.ref lk), (.int (Int32.ofNat (st + n))), (.int (Int32.ofNat st)), (.ref b126)])) rfl (by rw [hml]; rfl) (argsL := [(.ref b126), (.int (Int32.ofNat st)), (.int (Int32.ofNat (st + n))), (.ref lk)]) (rest := []) (lenOf own_pd4 rfl) rfl (by show 2 * 0 + _ ≤ _; exact Nat.le_of_eq rfl) (hb hby at_294) (fun _ _ => ⟨rfl, e200, (by decide : 1 + 0 ≤ _), (by decide : 6 + 0 ≤ _)⟩)
                          dsimp only [Pt.U, Pt.locs, Pt.cells, Pt.slots] at X201 l201 y201 z201 st201 hQ201
                          rw [l201, y201, z201] at X201
                          clear l201 y201 z201
                          obtain ⟨rfl, N201q, e201⟩ := hQ201
                          have N201 := Fr.app N188 N201q
                          refine own_go ?_ (fun tq kt => st201 _ kt)
                          show own_Fin _ _ _ _ (T201.setTop (mkF m 297 #[.val (.int p1), .val (.int p2), .val (.int p3), .val (.int p4), .val (.ref b126), .val (.int (Int32.ofNat st)), .val (.int (Int32.ofNat n)), .val (.int (Int32.ofNat (st + n))), .val (.int c0), .val (.int c1), .val (.int c2), .val (.int c3), .val (.int (2 : Int32)), .val (.int (((z181 + z183) + z185) + z187)), .val (.int (2 : Int32))] [(.int (2 : Int32))]))
                          refine own_go ?_ (fun tq kt => XS.iload X201.here hx rfl (hb hby at_297) rfl kt)
                          show own_Fin _ _ _ _ (T201.setTop (mkF m 299 #[.val (.int p1), .val (.int p2), .val (.int p3), .val (.int p4), .val (.ref b126), .val (.int (Int32.ofNat st)), .val (.int (Int32.ofNat n)), .val (.int (Int32.ofNat (st + n))), .val (.int c0), .val (.int c1), .val (.int c2), .val (.int c3), .val (.int (2 : Int32)), .val (.int (((z181 + z183) + z185) + z187)), .val (.int (2 : Int32))] [(.int (2 : Int32)), (.int (2 : Int32))]))
                          refine own_go ?_ (fun tq kt => XS.icmpNo X201.here hx rfl (hb hby at_299) rfl (teq (rfl : (2 : Int32) = (2 : Int32))).2 kt)
                          show own_Fin _ _ _ _ (T201.setTop (mkF m 302 #[.val (.int p1), .val (.int p2), .val (.int p3), .val (.int p4), .val (.ref b126), .val (.int (Int32.ofNat st)), .val (.int (Int32.ofNat n)), .val (.int (Int32.ofNat (st + n))), .val (.int c0), .val (.int c1), .val (.int c2), .val (.int c3), .val (.int (2 : Int32)), .val (.int (((z181 + z183) + z185) + z187)), .val (.int (2 : Int32))] []))
                          refine own_go ?_ (fun tq kt => XS.iconst X201.here hx rfl (hb hby at_302) kt)
                          show own_Fin _ _ _ _ (T201.setTop (mkF m 303 #[.val (.int p1), .val (.int p2), .val (.int p3), .val (.int p4), .val (.ref b126), .val (.int (Int32.ofNat st)), .val (.int (Int32.ofNat n)), .val (.int (Int32.ofNat (st + n))), .val (.int c0), .val (.int c1), .val (.int c2), .val (.int c3), .val (.int (2 : Int32)), .val (.int (((z181 + z183) + z185) + z187)), .val (.int (2 : Int32))] [(.int (1 : Int32))]))
                          refine own_go ?_ (fun tq kt => XS.goto X201.here hx rfl (pc0 := 303) (pc' := 307) rfl (hb hby at_303) (by decide) (by decide) kt)
                          show own_Fin _ _ _ _ (T201.setTop (mkF m 307 #[.val (.int p1), .val (.int p2), .val (.int p3), .val (.int p4), .val (.ref b126), .val (.int (Int32.ofNat st)), .val (.int (Int32.ofNat n)), .val (.int (Int32.ofNat (st + n))), .val (.int c0), .val (.int c1), .val (.int c2), .val (.int c3), .val (.int (2 : Int32)), .val (.int (((z181 + z183) + z185) + z187)), .val (.int (2 : Int32))] [(.int (1 : Int32))]))
                          refine own_retN X201 hx (t := .boolean) Bd.returns (by simp) (hb hby at_307) hlk ?_ (by decide) (by decide)
                          exact ⟨rfl, N201⟩
                      · refine own_go ?_ (fun tq kt => XS.icmpYes X188.here hx rfl (pc0 := 255) (pc' := 262) rfl (hb hby at_255) rfl (feq (hc255_198 : ¬ (c2 = (9 : Int32)))).2 (by decide) (by decide) kt)
                        show own_Fin _ _ _ _ (T188.setTop (mkF m 262 #[.val (.int p1), .val (.int p2), .val (.int p3), .val (.int p4), .val (.ref b126), .val (.int (Int32.ofNat st)), .val (.int (Int32.ofNat n)), .val (.int (Int32.ofNat (st + n))), .val (.int c0), .val (.int c1), .val (.int c2), .val (.int c3), .unset, .val (.int (((z181 + z183) + z185) + z187)), .unset] []))
                        refine own_go ?_ (fun tq kt => XS.iconst X188.here hx rfl (hb hby at_262) kt)
                        show own_Fin _ _ _ _ (T188.setTop (mkF m 263 #[.val (.int p1), .val (.int p2), .val (.int p3), .val (.int p4), .val (.ref b126), .val (.int (Int32.ofNat st)), .val (.int (Int32.ofNat n)), .val (.int (Int32.ofNat (st + n))), .val (.int c0), .val (.int c1), .val (.int c2), .val (.int c3), .unset, .val (.int (((z181 + z183) + z185) + z187)), .unset] [(.int (3 : Int32))]))
                        refine own_go ?_ (fun tq kt => XS.istore X188.here hx rfl (hb hby at_263) rfl (l' := #[.val (.int p1), .val (.int p2), .val (.int p3), .val (.int p4), .val (.ref b126), .val (.int (Int32.ofNat st)), .val (.int (Int32.ofNat n)), .val (.int (Int32.ofNat (st + n))), .val (.int c0), .val (.int c1), .val (.int c2), .val (.int c3), .unset, .val (.int (((z181 + z183) + z185) + z187)), .val (.int (3 : Int32))]) rfl kt)
                        show own_Fin _ _ _ _ (T188.setTop (mkF m 265 #[.val (.int p1), .val (.int p2), .val (.int p3), .val (.int p4), .val (.ref b126), .val (.int (Int32.ofNat st)), .val (.int (Int32.ofNat n)), .val (.int (Int32.ofNat (st + n))), .val (.int c0), .val (.int c1), .val (.int c2), .val (.int c3), .unset, .val (.int (((z181 + z183) + z185) + z187)), .val (.int (3 : Int32))] []))
                        refine own_go ?_ (fun tq kt => XS.iload X188.here hx rfl (hb hby at_265) rfl kt)
                        show own_Fin _ _ _ _ (T188.setTop (mkF m 267 #[.val (.int p1), .val (.int p2), .val (.int p3), .val (.int p4), .val (.ref b126), .val (.int (Int32.ofNat st)), .val (.int (Int32.ofNat n)), .val (.int (Int32.ofNat (st + n))), .val (.int c0), .val (.int c1), .val (.int c2), .val (.int c3), .unset, .val (.int (((z181 + z183) + z185) + z187)), .val (.int (3 : Int32))] [(.int (3 : Int32))]))
                        refine own_go ?_ (fun tq kt => XS.ifNo X188.here hx rfl (hb hby at_267) rfl ((if0 _ _).trans (feq ((by decide) : ¬ ((3 : Int32) = (0 : Int32)))).1) kt)
                        show own_Fin _ _ _ _ (T188.setTop (mkF m 270 #[.val (.int p1), .val (.int p2), .val (.int p3), .val (.int p4), .val (.ref b126), .val (.int (Int32.ofNat st)), .val (.int (Int32.ofNat n)), .val (.int (Int32.ofNat (st + n))), .val (.int c0), .val (.int c1), .val (.int c2), .val (.int c3), .unset, .val (.int (((z181 + z183) + z185) + z187)), .val (.int (3 : Int32))] []))
                        refine own_go ?_ (fun tq kt => XS.iload X188.here hx rfl (hb hby at_270) rfl kt)
                        show own_Fin _ _ _ _ (T188.setTop (mkF m 272 #[.val (.int p1), .val (.int p2), .val (.int p3), .val (.int p4), .val (.ref b126), .val (.int (Int32.ofNat st)), .val (.int (Int32.ofNat n)), .val (.int (Int32.ofNat (st + n))), .val (.int c0), .val (.int c1), .val (.int c2), .val (.int c3), .unset, .val (.int (((z181 + z183) + z185) + z187)), .val (.int (3 : Int32))] [(.int (3 : Int32))]))
                        refine own_go ?_ (fun tq kt => XS.iload X188.here hx rfl (hb hby at_272) rfl kt)
                        show own_Fin _ _ _ _ (T188.setTop (mkF m 274 #[.val (.int p1), .val (.int p2), .val (.int p3), .val (.int p4), .val (.ref b126), .val (.int (Int32.ofNat st)), .val (.int (Int32.ofNat n)), .val (.int (Int32.ofNat (st + n))), .val (.int c0), .val (.int c1), .val (.int c2), .val (.int c3), .unset, .val (.int (((z181 + z183) + z185) + z187)), .val (.int (3 : Int32))] [(.int (Int32.ofNat n)), (.int (3 : Int32))]))
                        refine own_go ?_ (fun tq kt => XS.iconst X188.here hx rfl (hb hby at_274) kt)
                        show own_Fin _ _ _ _ (T188.setTop (mkF m 275 #[.val (.int p1), .val (.int p2), .val (.int p3), .val (.int p4), .val (.ref b126), .val (.int (Int32.ofNat st)), .val (.int (Int32.ofNat n)), .val (.int (Int32.ofNat (st + n))), .val (.int c0), .val (.int c1), .val (.int c2), .val (.int c3), .unset, .val (.int (((z181 + z183) + z185) + z187)), .val (.int (3 : Int32))] [(.int (1 : Int32)), (.int (Int32.ofNat n)), (.int (3 : Int32))]))
                        refine own_go ?_ (fun tq kt => XS.isub X188.here hx rfl (hb hby at_275) rfl kt)
                        show own_Fin _ _ _ _ (T188.setTop (mkF m 276 #[.val (.int p1), .val (.int p2), .val (.int p3), .val (.int p4), .val (.ref b126), .val (.int (Int32.ofNat st)), .val (.int (Int32.ofNat n)), .val (.int (Int32.ofNat (st + n))), .val (.int c0), .val (.int c1), .val (.int c2), .val (.int c3), .unset, .val (.int (((z181 + z183) + z185) + z187)), .val (.int (3 : Int32))] [(.int ((Int32.ofNat n) - (1 : Int32))), (.int (3 : Int32))]))
                        by_cases hc276_202 : (3 : Int32) = ((Int32.ofNat n) - (1 : Int32))
                        · refine own_go ?_ (fun tq kt => XS.icmpNo X188.here hx rfl (hb hby at_276) rfl (teq (hc276_202 : (3 : Int32) = ((Int32.ofNat n) - (1 : Int32)))).2 kt)
                          show own_Fin _ _ _ _ (T188.setTop (mkF m 279 #[.val (.int p1), .val (.int p2), .val (.int p3), .val (.int p4), .val (.ref b126), .val (.int (Int32.ofNat st)), .val (.int (Int32.ofNat n)), .val (.int (Int32.ofNat (st + n))), .val (.int c0), .val (.int c1), .val (.int c2), .val (.int c3), .unset, .val (.int (((z181 + z183) + z185) + z187)), .val (.int (3 : Int32))] []))
                          refine own_go ?_ (fun tq kt => XS.iconst X188.here hx rfl (hb hby at_279) kt)
                          show own_Fin _ _ _ _ (T188.setTop (mkF m 280 #[.val (.int p1), .val (.int p2), .val (.int p3), .val (.int p4), .val (.ref b126), .val (.int (Int32.ofNat st)), .val (.int (Int32.ofNat n)), .val (.int (Int32.ofNat (st + n))), .val (.int c0), .val (.int c1), .val (.int c2), .val (.int c3), .unset, .val (.int (((z181 + z183) + z185) + z187)), .val (.int (3 : Int32))] [(.int (1 : Int32))]))
                          refine own_retN X188 hx (t := .boolean) Bd.returns (by simp) (hb hby at_280) hlk ?_ (by decide) (by decide)
                          exact ⟨rfl, N188⟩
                        · refine own_go ?_ (fun tq kt => XS.icmpYes X188.here hx rfl (pc0 := 276) (pc' := 281) rfl (hb hby at_276) rfl (feq (hc276_202 : ¬ ((3 : Int32) = ((Int32.ofNat n) - (1 : Int32))))).2 (by decide) (by decide) kt)
                          show own_Fin _ _ _ _ (T188.setTop (mkF m 281 #[.val (.int p1), .val (.int p2), .val (.int p3), .val (.int p4), .val (.ref b126), .val (.int (Int32.ofNat st)), .val (.int (Int32.ofNat n)), .val (.int (Int32.ofNat (st + n))), .val (.int c0), .val (.int c1), .val (.int c2), .val (.int c3), .unset, .val (.int (((z181 + z183) + z185) + z187)), .val (.int (3 : Int32))] []))
                          refine own_go ?_ (fun tq kt => XS.iload X188.here hx rfl (hb hby at_281) rfl kt)
                          show own_Fin _ _ _ _ (T188.setTop (mkF m 283 #[.val (.int p1), .val (.int p2), .val (.int p3), .val (.int p4), .val (.ref b126), .val (.int (Int32.ofNat st)), .val (.int (Int32.ofNat n)), .val (.int (Int32.ofNat (st + n))), .val (.int c0), .val (.int c1), .val (.int c2), .val (.int c3), .unset, .val (.int (((z181 + z183) + z185) + z187)), .val (.int (3 : Int32))] [(.int (3 : Int32))]))
                          refine own_go ?_ (fun tq kt => XS.istore X188.here hx rfl (hb hby at_283) rfl (l' := #[.val (.int p1), .val (.int p2), .val (.int p3), .val (.int p4), .val (.ref b126), .val (.int (Int32.ofNat st)), .val (.int (Int32.ofNat n)), .val (.int (Int32.ofNat (st + n))), .val (.int c0), .val (.int c1), .val (.int c2), .val (.int c3), .val (.int (3 : Int32)), .val (.int (((z181 + z183) + z185) + z187)), .val (.int (3 : Int32))]) rfl kt)
                          show own_Fin _ _ _ _ (T188.setTop (mkF m 285 #[.val (.int p1), .val (.int p2), .val (.int p3), .val (.int p4), .val (.ref b126), .val (.int (Int32.ofNat st)), .val (.int (Int32.ofNat n)), .val (.int (Int32.ofNat (st + n))), .val (.int c0), .val (.int c1), .val (.int c2), .val (.int c3), .val (.int (3 : Int32)), .val (.int (((z181 + z183) + z185) + z187)), .val (.int (3 : Int32))] []))
                          refine own_go ?_ (fun tq kt => XS.aload X188.here hx rfl (hb hby at_285) rfl rfl kt)
                          show own_Fin _ _ _ _ (T188.setTop (mkF m 287 #[.val (.int p1), .val (.int p2), .val (.int p3), .val (.int p4), .val (.ref b126), .val (.int (Int32.ofNat st)), .val (.int (Int32.ofNat n)), .val (.int (Int32.ofNat (st + n))), .val (.int c0), .val (.int c1), .val (.int c2), .val (.int c3), .val (.int (3 : Int32)), .val (.int (((z181 + z183) + z185) + z187)), .val (.int (3 : Int32))] [(.ref b126)]))
                          refine own_go ?_ (fun tq kt => XS.iload X188.here hx rfl (hb hby at_287) rfl kt)
                          show own_Fin _ _ _ _ (T188.setTop (mkF m 289 #[.val (.int p1), .val (.int p2), .val (.int p3), .val (.int p4), .val (.ref b126), .val (.int (Int32.ofNat st)), .val (.int (Int32.ofNat n)), .val (.int (Int32.ofNat (st + n))), .val (.int c0), .val (.int c1), .val (.int c2), .val (.int c3), .val (.int (3 : Int32)), .val (.int (((z181 + z183) + z185) + z187)), .val (.int (3 : Int32))] [(.int (Int32.ofNat st)), (.ref b126)]))
                          refine own_go ?_ (fun tq kt => XS.iload X188.here hx rfl (hb hby at_289) rfl kt)
                          show own_Fin _ _ _ _ (T188.setTop (mkF m 291 #[.val (.int p1), .val (.int p2), .val (.int p3), .val (.int p4), .val (.ref b126), .val (.int (Int32.ofNat st)), .val (.int (Int32.ofNat n)), .val (.int (Int32.ofNat (st + n))), .val (.int c0), .val (.int c1), .val (.int c2), .val (.int c3), .val (.int (3 : Int32)), .val (.int (((z181 + z183) + z185) + z187)), .val (.int (3 : Int32))] [(.int (Int32.ofNat (st + n))), (.int (Int32.ofNat st)), (.ref b126)]))
                          obtain ⟨T203, X203, e203, st203⟩ := getS2 X188 hx hZ hown (host := "") (Or.inl (hw _ (List.mem_of_getElem? (i := 11) rfl))) Via.refl e188 (SL.ext od157.2) (g := (mkF m 291 #[.val (.int p1), .val (.int p2), .val (.int p3), .val (.int p4), .val (.ref b126), .val (.int (Int32.ofNat st)), .val (.int (Int32.ofNat n)), .val (.int (Int32.ofNat (st + n))), .val (.int c0), .val (.int c1), .val (.int c2), .val (.int c3), .val (.int (3 : Int32)), .val (.int (((z181 + z183) + z185) + z187)), .val (.int (3 : Int32))] [(.int (Int32.ofNat (st + n))), (.int (Int32.ofNat st)), (.ref b126)])) rfl (hb hby at_291)
                          refine own_go ?_ (fun tq kt => st203 _ kt)
                          show own_Fin _ _ _ _ (T203.setTop (mkF m 294 #[.val (.int p1), .val (.int p2), .val (.int p3), .val (.int p4), .val (.ref b126), .val (.int (Int32.ofNat st)), .val (.int (Int32.ofNat n)), .val (.int (Int32.ofNat (st + n))), .val (.int c0), .val (.int c1), .val (.int c2), .val (.int c3), .val (.int (3 : Int32)), .val (.int (((z181 + z183) + z185) + z187)), .val (.int (3 : Int32))] [(.ref lk), (.int (Int32.ofNat (st + n))), (.int (Int32.ofNat st)), (.ref b126)]))
                          obtain ⟨_, _, ⟨T204, L204, k204, n204⟩, -, X204, ⟨Lc204, hQ204, l204, y204, z204⟩, st204⟩ := Jvm.LawKit.callS X203 hx (y := (⟨"com/example/wolf_spider/wolfspider/EdgeListLine", "tab", "([BIILcom/example/wolf_spider/wolfspider/EdgeListLine$Fields;)I"⟩ : MethodName)) hown (mvT hZ (hw _ (List.mem_of_getElem? (i := 14) rfl))) (mvT hZ (hw _ (List.mem_of_getElem? (i := 15) rfl))) (mvT hZ (hw _ (List.mem_of_getElem? (i := 12) rfl))) (mvT hZ (hw _ (List.mem_of_getElem? (i := 16) rfl))) (by decide) (backOf (W := 0) (rm4 l Z a0 hw [] b126 lk st n k126 bs (3 : Int32) h156 n0 zs157 VW (by omega) (own_nb hs2 hn2 hk0 hk1 hk2 hk3 (hz163.trans hc137_165) (hz166.trans hc145_168) (hz169.trans hc153_171) (hz172.trans hc161_174)) (own_finC3 hs2 hn2 hk0 hk1 hk2 hk3 hc168_175 hc175_178 (by rw [hz181, hz183, hz185, hz187]; exact hc212_189) (by rw [hz181, hz183, hz185, hz187]; exact hc224_192) hc233_193 hc244_194 hc255_198 hc276_202)) hZ (hw _ (List.mem_of_getElem? (i := 16) rfl)) (hw _ (List.mem_of_getElem? (i := 12) rfl)) (by decide) (by decide)) (g := (mkF m 294 #[.val (.int p1), .val (.int p2), .val (.int p3), .val (.int p4), .val (.ref b126), .val (.int (Int32.ofNat st)), .val (.int (Int32.ofNat n)), .val (.int (Int32.ofNat (st + n))), .val (.int c0), .val (.int c1), .val (.int c2), .val (.int c3), .val (.int (3 : Int32)), .val (.int (((z181 + z183) + z185) + z187)), .val (.int (3 : Int32))] [(.ref lk), (.int (Int32.ofNat (st + n))), (.int (Int32.ofNat st)), (.ref b126)])) rfl (by rw [hml]; rfl) (argsL := [(.ref b126), (.int (Int32.ofNat st)), (.int (Int32.ofNat (st + n))), (.ref lk)]) (rest := []) (lenOf own_pd4 rfl) rfl (by show 2 * 0 + _ ≤ _; exact Nat.le_of_eq rfl) (hb hby at_294) (fun _ _ => ⟨rfl, e203, (by decide : 1 + 0 ≤ _), (by decide : 6 + 0 ≤ _)⟩)
                          dsimp only [Pt.U, Pt.locs, Pt.cells, Pt.slots] at X204 l204 y204 z204 st204 hQ204
                          rw [l204, y204, z204] at X204
                          clear l204 y204 z204
                          obtain ⟨rfl, N204q, e204⟩ := hQ204
                          have N204 := Fr.app N188 N204q
                          refine own_go ?_ (fun tq kt => st204 _ kt)
                          show own_Fin _ _ _ _ (T204.setTop (mkF m 297 #[.val (.int p1), .val (.int p2), .val (.int p3), .val (.int p4), .val (.ref b126), .val (.int (Int32.ofNat st)), .val (.int (Int32.ofNat n)), .val (.int (Int32.ofNat (st + n))), .val (.int c0), .val (.int c1), .val (.int c2), .val (.int c3), .val (.int (3 : Int32)), .val (.int (((z181 + z183) + z185) + z187)), .val (.int (3 : Int32))] [(.int (3 : Int32))]))
                          refine own_go ?_ (fun tq kt => XS.iload X204.here hx rfl (hb hby at_297) rfl kt)
                          show own_Fin _ _ _ _ (T204.setTop (mkF m 299 #[.val (.int p1), .val (.int p2), .val (.int p3), .val (.int p4), .val (.ref b126), .val (.int (Int32.ofNat st)), .val (.int (Int32.ofNat n)), .val (.int (Int32.ofNat (st + n))), .val (.int c0), .val (.int c1), .val (.int c2), .val (.int c3), .val (.int (3 : Int32)), .val (.int (((z181 + z183) + z185) + z187)), .val (.int (3 : Int32))] [(.int (3 : Int32)), (.int (3 : Int32))]))
                          refine own_go ?_ (fun tq kt => XS.icmpNo X204.here hx rfl (hb hby at_299) rfl (teq (rfl : (3 : Int32) = (3 : Int32))).2 kt)
                          show own_Fin _ _ _ _ (T204.setTop (mkF m 302 #[.val (.int p1), .val (.int p2), .val (.int p3), .val (.int p4), .val (.ref b126), .val (.int (Int32.ofNat st)), .val (.int (Int32.ofNat n)), .val (.int (Int32.ofNat (st + n))), .val (.int c0), .val (.int c1), .val (.int c2), .val (.int c3), .val (.int (3 : Int32)), .val (.int (((z181 + z183) + z185) + z187)), .val (.int (3 : Int32))] []))
                          refine own_go ?_ (fun tq kt => XS.iconst X204.here hx rfl (hb hby at_302) kt)
                          show own_Fin _ _ _ _ (T204.setTop (mkF m 303 #[.val (.int p1), .val (.int p2), .val (.int p3), .val (.int p4), .val (.ref b126), .val (.int (Int32.ofNat st)), .val (.int (Int32.ofNat n)), .val (.int (Int32.ofNat (st + n))), .val (.int c0), .val (.int c1), .val (.int c2), .val (.int c3), .val (.int (3 : Int32)), .val (.int (((z181 + z183) + z185) + z187)), .val (.int (3 : Int32))] [(.int (1 : Int32))]))
                          refine own_go ?_ (fun tq kt => XS.goto X204.here hx rfl (pc0 := 303) (pc' := 307) rfl (hb hby at_303) (by decide) (by decide) kt)
                          show own_Fin _ _ _ _ (T204.setTop (mkF m 307 #[.val (.int p1), .val (.int p2), .val (.int p3), .val (.int p4), .val (.ref b126), .val (.int (Int32.ofNat st)), .val (.int (Int32.ofNat n)), .val (.int (Int32.ofNat (st + n))), .val (.int c0), .val (.int c1), .val (.int c2), .val (.int c3), .val (.int (3 : Int32)), .val (.int (((z181 + z183) + z185) + z187)), .val (.int (3 : Int32))] [(.int (1 : Int32))]))
                          refine own_retN X204 hx (t := .boolean) Bd.returns (by simp) (hb hby at_307) hlk ?_ (by decide) (by decide)
                          exact ⟨rfl, N204⟩
                · refine own_go ?_ (fun tq kt => XS.icmpNo X188.here hx rfl (hb hby at_224) rfl (flt (hc224_192 : ¬ ((((z181 + z183) + z185) + z187) < (2 : Int32)))).1 kt)
                  show own_Fin _ _ _ _ (T188.setTop (mkF m 227 #[.val (.int p1), .val (.int p2), .val (.int p3), .val (.int p4), .val (.ref b126), .val (.int (Int32.ofNat st)), .val (.int (Int32.ofNat n)), .val (.int (Int32.ofNat (st + n))), .val (.int c0), .val (.int c1), .val (.int c2), .val (.int c3), .unset, .val (.int (((z181 + z183) + z185) + z187)), .unset] []))
                  refine own_go ?_ (fun tq kt => XS.iconst X188.here hx rfl (hb hby at_227) kt)
                  show own_Fin _ _ _ _ (T188.setTop (mkF m 228 #[.val (.int p1), .val (.int p2), .val (.int p3), .val (.int p4), .val (.ref b126), .val (.int (Int32.ofNat st)), .val (.int (Int32.ofNat n)), .val (.int (Int32.ofNat (st + n))), .val (.int c0), .val (.int c1), .val (.int c2), .val (.int c3), .unset, .val (.int (((z181 + z183) + z185) + z187)), .unset] [(.int (1 : Int32))]))
                  refine own_retN X188 hx (t := .boolean) Bd.returns (by simp) (hb hby at_228) hlk ?_ (by decide) (by decide)
                  exact ⟨rfl, N188⟩
        · refine own_go ?_ (fun tq kt => XS.ifNo X173.here hx rfl (hb hby at_161) rfl ((if0 _ _).trans (feq (hc161_174 : ¬ (z172 = (0 : Int32)))).1) kt)
          show own_Fin _ _ _ _ (T173.setTop (mkF m 164 #[.val (.int p1), .val (.int p2), .val (.int p3), .val (.int p4), .val (.ref b126), .val (.int (Int32.ofNat st)), .val (.int (Int32.ofNat n)), .val (.int (Int32.ofNat (st + n))), .val (.int c0), .val (.int c1), .val (.int c2), .val (.int c3), .unset, .unset, .unset] []))
          refine own_go ?_ (fun tq kt => XS.iconst X173.here hx rfl (hb hby at_164) kt)
          show own_Fin _ _ _ _ (T173.setTop (mkF m 165 #[.val (.int p1), .val (.int p2), .val (.int p3), .val (.int p4), .val (.ref b126), .val (.int (Int32.ofNat st)), .val (.int (Int32.ofNat n)), .val (.int (Int32.ofNat (st + n))), .val (.int c0), .val (.int c1), .val (.int c2), .val (.int c3), .unset, .unset, .unset] [(.int (1 : Int32))]))
          refine own_retN X173 hx (t := .boolean) Bd.returns (by simp) (hb hby at_165) hlk ?_ (by decide) (by decide)
          exact ⟨rfl, N173⟩
      · refine own_go ?_ (fun tq kt => XS.ifYes X170.here hx rfl (pc0 := 153) (pc' := 164) rfl (hb hby at_153) rfl ((if0 _ _).trans (feq (hc153_171 : ¬ (z169 = (0 : Int32)))).2) (by decide) (by decide) kt)
        show own_Fin _ _ _ _ (T170.setTop (mkF m 164 #[.val (.int p1), .val (.int p2), .val (.int p3), .val (.int p4), .val (.ref b126), .val (.int (Int32.ofNat st)), .val (.int (Int32.ofNat n)), .val (.int (Int32.ofNat (st + n))), .val (.int c0), .val (.int c1), .val (.int c2), .val (.int c3), .unset, .unset, .unset] []))
        refine own_go ?_ (fun tq kt => XS.iconst X170.here hx rfl (hb hby at_164) kt)
        show own_Fin _ _ _ _ (T170.setTop (mkF m 165 #[.val (.int p1), .val (.int p2), .val (.int p3), .val (.int p4), .val (.ref b126), .val (.int (Int32.ofNat st)), .val (.int (Int32.ofNat n)), .val (.int (Int32.ofNat (st + n))), .val (.int c0), .val (.int c1), .val (.int c2), .val (.int c3), .unset, .unset, .unset] [(.int (1 : Int32))]))
        refine own_retN X170 hx (t := .boolean) Bd.returns (by simp) (hb hby at_165) hlk ?_ (by decide) (by decide)
        exact ⟨rfl, N170⟩
    · refine own_go ?_ (fun tq kt => XS.ifYes X167.here hx rfl (pc0 := 145) (pc' := 164) rfl (hb hby at_145) rfl ((if0 _ _).trans (feq (hc145_168 : ¬ (z166 = (0 : Int32)))).2) (by decide) (by decide) kt)
      show own_Fin _ _ _ _ (T167.setTop (mkF m 164 #[.val (.int p1), .val (.int p2), .val (.int p3), .val (.int p4), .val (.ref b126), .val (.int (Int32.ofNat st)), .val (.int (Int32.ofNat n)), .val (.int (Int32.ofNat (st + n))), .val (.int c0), .val (.int c1), .val (.int c2), .val (.int c3), .unset, .unset, .unset] []))
      refine own_go ?_ (fun tq kt => XS.iconst X167.here hx rfl (hb hby at_164) kt)
      show own_Fin _ _ _ _ (T167.setTop (mkF m 165 #[.val (.int p1), .val (.int p2), .val (.int p3), .val (.int p4), .val (.ref b126), .val (.int (Int32.ofNat st)), .val (.int (Int32.ofNat n)), .val (.int (Int32.ofNat (st + n))), .val (.int c0), .val (.int c1), .val (.int c2), .val (.int c3), .unset, .unset, .unset] [(.int (1 : Int32))]))
      refine own_retN X167 hx (t := .boolean) Bd.returns (by simp) (hb hby at_165) hlk ?_ (by decide) (by decide)
      exact ⟨rfl, N167⟩
  · refine own_go ?_ (fun tq kt => XS.ifYes X164.here hx rfl (pc0 := 137) (pc' := 164) rfl (hb hby at_137) rfl ((if0 _ _).trans (feq (hc137_165 : ¬ (z163 = (0 : Int32)))).2) (by decide) (by decide) kt)
    show own_Fin _ _ _ _ (T164.setTop (mkF m 164 #[.val (.int p1), .val (.int p2), .val (.int p3), .val (.int p4), .val (.ref b126), .val (.int (Int32.ofNat st)), .val (.int (Int32.ofNat n)), .val (.int (Int32.ofNat (st + n))), .val (.int c0), .val (.int c1), .val (.int c2), .val (.int c3), .unset, .unset, .unset] []))
    refine own_go ?_ (fun tq kt => XS.iconst X164.here hx rfl (hb hby at_164) kt)
    show own_Fin _ _ _ _ (T164.setTop (mkF m 165 #[.val (.int p1), .val (.int p2), .val (.int p3), .val (.int p4), .val (.ref b126), .val (.int (Int32.ofNat st)), .val (.int (Int32.ofNat n)), .val (.int (Int32.ofNat (st + n))), .val (.int c0), .val (.int c1), .val (.int c2), .val (.int c3), .unset, .unset, .unset] [(.int (1 : Int32))]))
    refine own_retN X164 hx (t := .boolean) Bd.returns (by simp) (hb hby at_165) hlk ?_ (by decide) (by decide)
    exact ⟨rfl, N164⟩
set_option maxRecDepth 65536 in
set_option maxHeartbeats 40000000 in
theorem comes_1 {Post : Tables → Env → Array Value → State → Outcome → State → Prop} (hpost : ∀ tb e args s v u, (limb_1_1.after args s (.returned v) u = true ∧ limb_1_2.after args s (.returned v) u = true ∧ True) → FrameEnd s (.returned v) u (Jvm.fieldLocs frame_1_writes args s ++ Jvm.arrayLocs frame_1_arrays args s ++ Jvm.staticLocs frame_1_statics s) 16 128 → Post tb e args s (.returned v) u) :
    ArmFor flags0 classFile x code maxLocals ret World_1 tables_1 room_1 Calls_1 rest_1 Pre_1 Post := by
  intro l hfl _ _ p e ha hc hk s m args below hf hA hF happ hP
  obtain ⟨hcalls, hrest, hpre⟩ := hP
  obtain ⟨-, -, -, hnamed, -, -, -, hat⟩ := (Spec.applies_iff hf).mp happ
  obtain ⟨hg, hn⟩ := and_e (Cond.before_iff.mp (show (Jvm.Cond.and given_1 narrow_1).before args s = true from hpre))
  obtain ⟨g0, hg⟩ := and_e hg
  obtain ⟨g1, hg⟩ := and_e hg
  obtain ⟨g2, hg⟩ := and_e hg
  obtain ⟨g3, g4⟩ := and_e hg
  obtain ⟨w0, w1, w2, w3, rfl⟩ : ∃ w0 w1 w2 w3 : Value, args = #[w0, w1, w2, w3] := by
    have hs : args.size = 4 := by simpa [Cond.value, given_1] using g0
    obtain ⟨L⟩ := args
    match L, hs with
    | [w0, w1, w2, w3], _ => exact ⟨w0, w1, w2, w3, rfl⟩
  have hw := fun d (hd : d ∈ tables_1) => atoms_spec (ws := Jvm.Cond.code x code maxLocals ret :: tables_1) hat d (List.mem_cons_of_mem _ hd)
  have hfit : Fit s := fun {y c} hc i hi => by
    obtain ⟨ha, rfl⟩ := Array.getElem?_eq_some_iff.mp hc
    have q := List.all_eq_true.mp ((Array.all_eq_true_iff_forall_mem.mp hF) _ (Array.getElem_mem ha)) i (List.mem_range.mpr hi)
    simpa [Array.getElem?_eq_getElem hi] using q
  obtain ⟨i0, ei0⟩ := is_v g1
  obtain rfl : w0 = (.int i0) := Option.some.inj ei0
  obtain ⟨i1, ei1⟩ := is_v g2
  obtain rfl : w1 = (.int i1) := Option.some.inj ei1
  obtain ⟨i2, ei2⟩ := is_v g3
  obtain rfl : w2 = (.int i2) := Option.some.inj ei2
  obtain ⟨i3, ei3⟩ := is_v g4
  obtain rfl : w3 = (.int i3) := Option.some.inj ei3
  have n0 := hn
  obtain ⟨lk, elk⟩ := exa_v n0
  obtain ⟨n, o, h1, h2, h3, _, L, rfl, ⟨rfl, N⟩, hq⟩ := rm0 l s _ hw tables_1 i0 i1 i2 i3 lk s.heap s.heap.size (Nat.le_refl _) (Old.start s) (Sta.start elk (Or.inr ⟨(hw _ (List.mem_of_getElem? (i := 12) rfl)), (hw _ (List.mem_of_getElem? (i := 13) rfl))⟩)) p e ha hc hk s m _ below hf ((Spec.applies_iff_loose hf).mp happ).1 ⟨rfl, State.Warmed39.refl s, rfl⟩ trivial
  refine ⟨n, _, h1, h2, h3, hpost _ _ _ _ _ _ ⟨Cond.after_iff.mpr rfl, Cond.after_iff.mpr (eq_i res_at (Term.int_eval (1)) rfl), trivial⟩ ⟨hq.1, hq.2.1, (hq.2.2.sift fun y hy => Or.inr (N y hy)).mono (by decide) (by decide)⟩⟩
theorem main_1_1 : Claimed_1_1 := comes_1 fun _ _ _ _ _ _ h hF => ⟨h.1, hF⟩
theorem main_1_2 : Claimed_1_2 := comes_1 fun _ _ _ _ _ _ h hF => ⟨h.2.1, hF⟩
end Jvm.Pilot.@@N@@
namespace Jvm.Pilot.@@N@@
open Jvm Jvm.ClassFile Sem Op Lib Jvm.Free Jvm.Stand Jvm.Pilot.@@N@@.Jvm.D
/-! MADE BY PROGRAM (witnessworld.py) out of the Statement's table words and the real class files: 11 classes; the members and pool entries that the words name. The judged class is class 1, her method 5. -/
namespace start1
open Jvm.ClassFile
def u (s : String) : CpInfo := .utf8 (stringToUtf16 s)
/-- a pool by its gaps: so many unusable entries, then the entry; so many at the end -/
def gap : Nat → List CpInfo → List CpInfo
  | 0, r => r
  | n + 1, r => .unusable :: gap n r
def poolList (es : List (Nat × CpInfo)) (last : Nat) : List CpInfo := es.foldr (fun e r => gap e.1 (e.2 :: r)) (gap last [])
def pool (es : List (Nat × CpInfo)) (last : Nat) : Array CpInfo := ⟨poolList es last⟩
def fileOf (pool : Array CpInfo) (this : Nat) (attrs : Array Attribute := #[]) (ms : Array MethodInfo := #[]) (fl : Nat := 33) (sup : Nat := 0) (ifs : Array Nat := #[]) (fds : Array FieldInfo := #[]) : ClassFile where
  minorVersion := 0
  majorVersion := 65
  constantPool := pool
  accessFlags := fl
  thisClass := this
  superClass := sup
  interfaces := ifs
  fields := fds
  methods := ms
  attributes := attrs
def plain (name : String) (sup : Option ClassId) : Class where
  name := name
  kind := .ordinary
  loader := none
  accessFlags := 33
  super := sup
  interfaces := #[]
  cf := none
  fields := #[]
  methods := #[]
  instanceTypes := #[]
  staticTypes := #[]
  resolved := #[]
  callSites := []
  init := .initialized
  statics := none
  mirror := none

def pool0 : Array CpInfo := pool [(5, u "<init>"), (0, u "()V"), (1, .class_ 10), (1, u "java/lang/Object")] 113

def k0m0 : Method := { name := "<init>", desc := "()V", sig := { parameters := [], returnType := none }, accessFlags := 1, code := none }
/-- java/lang/Object -/
def k0 : Class := { plain "java/lang/Object" none with
  accessFlags := 33
  interfaces := #[]
  cf := some (fileOf pool0 8 #[] #[{ accessFlags := 1, nameIndex := 5, descriptorIndex := 6, attributes := #[] }] 33 0 #[] #[])
  fields := #[]
  methods := #[k0m0]
  instanceTypes := #[]
  staticTypes := #[]
  resolved := Array.replicate 124 none
  statics := none }

def pool1 : Array CpInfo := pool [(2, .class_ 4), (1, u "java/lang/Object"), (0, u "<init>"), (0, u "()V"), (0, .methodref 8 9), (0, .class_ 10), (0, .nameAndType 11 12), (0, u "com/example/wolf_spider/wolfspider/EdgeListLineTabPinLaw"), (0, u "pick"), (0, u "(I)B"), (0, .methodref 8 14), (0, .nameAndType 15 16), (0, u "at"), (0, u "([BIII)I"), (0, .methodref 8 18), (0, .nameAndType 19 20), (0, u "isBreak"), (0, u "(I)Z"), (0, .methodref 8 22), (0, .nameAndType 23 24), (0, u "tabOne"), (0, u "(I)I"), (0, .fieldref 26 27), (0, .class_ 28), (0, .nameAndType 29 30), (0, u "com/example/wolf_spider/wolfspider/EdgeListLine"), (0, u "LINK"), (0, u "Lcom/example/wolf_spider/wolfspider/EdgeListLine$Fields;"), (0, .methodref 26 32), (0, .nameAndType 33 34), (0, u "tab"), (0, u "([BIILcom/example/wolf_spider/wolfspider/EdgeListLine$Fields;)I"), (3, u "law"), (0, u "(IIII)Z")] 11

def k1m0 : Method := { name := "<init>", desc := "()V", sig := { parameters := [], returnType := none }, accessFlags := 2, code := none }
def k1c1 : Code := { maxStack := 2, maxLocals := 2, code := method_2_code, exceptionTable := #[], attributes := #[] }
def k1m1 : Method := { name := "pick", desc := "(I)B", sig := { parameters := [.int], returnType := some .byte }, accessFlags := 10, code := some k1c1 }
def k1c2 : Code := { maxStack := 3, maxLocals := 4, code := method_3_code, exceptionTable := #[], attributes := #[] }
def k1m2 : Method := { name := "at", desc := "([BIII)I", sig := { parameters := [(.array .byte), .int, .int, .int], returnType := some .int }, accessFlags := 10, code := some k1c2 }
def k1c3 : Code := { maxStack := 2, maxLocals := 1, code := method_4_code, exceptionTable := #[], attributes := #[] }
def k1m3 : Method := { name := "isBreak", desc := "(I)Z", sig := { parameters := [.int], returnType := some .boolean }, accessFlags := 10, code := some k1c3 }
def k1c4 : Code := { maxStack := 2, maxLocals := 1, code := method_5_code, exceptionTable := #[], attributes := #[] }
def k1m4 : Method := { name := "tabOne", desc := "(I)I", sig := { parameters := [.int], returnType := some .int }, accessFlags := 10, code := some k1c4 }
def k1c5 : Code := { maxStack := 4, maxLocals := 15, code := code, exceptionTable := #[], attributes := #[] }
def k1m5 : Method := { name := "law", desc := "(IIII)Z", sig := { parameters := [.int, .int, .int, .int], returnType := some .boolean }, accessFlags := 9, code := some k1c5 }
/-- com/example/wolf_spider/wolfspider/EdgeListLineTabPinLaw -/
def k1 : Class := { plain "com/example/wolf_spider/wolfspider/EdgeListLineTabPinLaw" (some 0) with
  accessFlags := 49
  interfaces := #[]
  cf := some (fileOf pool1 8 #[] #[{ accessFlags := 2, nameIndex := 5, descriptorIndex := 6, attributes := #[] }, { accessFlags := 10, nameIndex := 11, descriptorIndex := 12, attributes := #[] }, { accessFlags := 10, nameIndex := 15, descriptorIndex := 16, attributes := #[] }, { accessFlags := 10, nameIndex := 19, descriptorIndex := 20, attributes := #[] }, { accessFlags := 10, nameIndex := 23, descriptorIndex := 24, attributes := #[] }, { accessFlags := 9, nameIndex := 38, descriptorIndex := 39, attributes := #[] }] 49 2 #[] #[])
  fields := #[]
  methods := #[k1m0, k1m1, k1m2, k1m3, k1m4, k1m5]
  instanceTypes := #[]
  staticTypes := #[]
  resolved := Array.replicate 51 none
  statics := none }

def pool2 : Array CpInfo := pool [(2, .class_ 4), (1, u "java/lang/Object"), (0, u "<init>"), (0, u "()V"), (13, .class_ 22), (1, u "com/example/wolf_spider/wolfspider/EdgeListLine"), (0, u "LINK"), (0, u "Lcom/example/wolf_spider/wolfspider/EdgeListLine$Fields;"), (0, .methodref 20 26), (0, .nameAndType 27 28), (0, u "entry"), (0, u "(IZIIILcom/example/wolf_spider/wolfspider/EdgeListLine$Fields;)I"), (10, .class_ 41), (1, u "com/example/wolf_spider/wolfspider/EdgeListLine$Fields"), (16, u "NO_ENTRY"), (0, u "I"), (2, u "PAGE"), (3, u "tab"), (3, u "([BIILcom/example/wolf_spider/wolfspider/EdgeListLine$Fields;)I")] 23

def k2m0 : Method := { name := "<init>", desc := "()V", sig := { parameters := [], returnType := none }, accessFlags := 2, code := none }
def k2c1 : Code := { maxStack := 6, maxLocals := 9, code := prog_6_method_3_code, exceptionTable := #[], attributes := #[] }
def k2m1 : Method := { name := "tab", desc := "([BIILcom/example/wolf_spider/wolfspider/EdgeListLine$Fields;)I", sig := { parameters := [(.array .byte), .int, .int, (.object "com/example/wolf_spider/wolfspider/EdgeListLine$Fields")], returnType := some .int }, accessFlags := 8, code := some k2c1 }
def k2c2 : Code := { maxStack := 5, maxLocals := 7, code := prog_6_method_5_code, exceptionTable := #[], attributes := #[] }
def k2m2 : Method := { name := "entry", desc := "(IZIIILcom/example/wolf_spider/wolfspider/EdgeListLine$Fields;)I", sig := { parameters := [.int, .boolean, .int, .int, .int, (.object "com/example/wolf_spider/wolfspider/EdgeListLine$Fields")], returnType := some .int }, accessFlags := 10, code := some k2c2 }
/-- com/example/wolf_spider/wolfspider/EdgeListLine -/
def k2 : Class := { plain "com/example/wolf_spider/wolfspider/EdgeListLine" (some 0) with
  accessFlags := 48
  interfaces := #[]
  cf := some (fileOf pool2 20 #[.nestMembers #[39]] #[{ accessFlags := 2, nameIndex := 5, descriptorIndex := 6, attributes := #[] }, { accessFlags := 8, nameIndex := 66, descriptorIndex := 70, attributes := #[] }, { accessFlags := 10, nameIndex := 27, descriptorIndex := 28, attributes := #[] }] 48 2 #[] #[{ accessFlags := 24, nameIndex := 58, descriptorIndex := 59, attributes := #[] }, { accessFlags := 24, nameIndex := 62, descriptorIndex := 59, attributes := #[] }, { accessFlags := 24, nameIndex := 23, descriptorIndex := 24, attributes := #[] }])
  fields := #[{ name := "NO_ENTRY", type := .int, accessFlags := 24, slot := 0, constantValue := 0 }, { name := "PAGE", type := .int, accessFlags := 24, slot := 1, constantValue := 0 }, { name := "LINK", type := (.object "com/example/wolf_spider/wolfspider/EdgeListLine$Fields"), accessFlags := 24, slot := 2, constantValue := 0 }]
  methods := #[k2m0, k2m1, k2m2]
  instanceTypes := #[]
  staticTypes := #[.int, .int, (.object "com/example/wolf_spider/wolfspider/EdgeListLine$Fields")]
  resolved := Array.replicate 94 none
  statics := some 0 }

def pool3 : Array CpInfo := pool [(2, .class_ 4), (1, u "java/lang/Object"), (0, u "<init>"), (0, u "()V"), (0, .class_ 8), (0, u "java/lang/Record")] 13

def k3m0 : Method := { name := "<init>", desc := "()V", sig := { parameters := [], returnType := none }, accessFlags := 4, code := none }
/-- java/lang/Record -/
def k3 : Class := { plain "java/lang/Record" (some 0) with
  accessFlags := 1057
  interfaces := #[]
  cf := some (fileOf pool3 7 #[] #[{ accessFlags := 4, nameIndex := 5, descriptorIndex := 6, attributes := #[] }] 1057 2 #[] #[])
  fields := #[]
  methods := #[k3m0]
  instanceTypes := #[]
  staticTypes := #[]
  resolved := Array.replicate 22 none
  statics := none }

def pool4 : Array CpInfo := pool [(2, .class_ 4), (1, u "java/lang/Record"), (3, .class_ 10), (1, u "com/example/wolf_spider/wolfspider/EdgeListLine$Fields"), (0, u "first"), (0, u "Ljava/lang/String;"), (2, u "second"), (22, .class_ 39), (0, u "com/example/wolf_spider/wolfspider/EdgeListLine")] 20

/-- com/example/wolf_spider/wolfspider/EdgeListLine$Fields -/
def k4 : Class := { plain "com/example/wolf_spider/wolfspider/EdgeListLine$Fields" (some 3) with
  accessFlags := 48
  interfaces := #[]
  cf := some (fileOf pool4 8 #[.nestHost 38] #[] 48 2 #[] #[{ accessFlags := 18, nameIndex := 11, descriptorIndex := 12, attributes := #[] }, { accessFlags := 18, nameIndex := 15, descriptorIndex := 12, attributes := #[] }])
  fields := #[{ name := "first", type := (.object "java/lang/String"), accessFlags := 18, slot := 0, constantValue := 0 }, { name := "second", type := (.object "java/lang/String"), accessFlags := 18, slot := 1, constantValue := 0 }]
  methods := #[]
  instanceTypes := #[(.object "java/lang/String"), (.object "java/lang/String")]
  staticTypes := #[]
  resolved := Array.replicate 60 none
  statics := none }

def pool5 : Array CpInfo := pool [(1, u "java/lang/Cloneable"), (0, .class_ 1), (0, u "java/lang/Object"), (0, .class_ 3)] 3

/-- java/lang/Cloneable -/
def k5 : Class := { plain "java/lang/Cloneable" (some 0) with
  accessFlags := 1537
  interfaces := #[]
  cf := some (fileOf pool5 2 #[] #[] 1537 4 #[] #[])
  fields := #[]
  methods := #[]
  instanceTypes := #[]
  staticTypes := #[]
  resolved := Array.replicate 8 none
  statics := none }

def pool6 : Array CpInfo := pool [(1, u "java/io/Serializable"), (0, .class_ 1), (0, u "java/lang/Object"), (0, .class_ 3)] 3

/-- java/io/Serializable -/
def k6 : Class := { plain "java/io/Serializable" (some 0) with
  accessFlags := 1537
  interfaces := #[]
  cf := some (fileOf pool6 2 #[] #[] 1537 4 #[] #[])
  fields := #[]
  methods := #[]
  instanceTypes := #[]
  staticTypes := #[]
  resolved := Array.replicate 8 none
  statics := none }

/-- the primitive byte -/
def k7 : Class := { plain "byte" none with kind := .primitive 'B', accessFlags := 0x411 }
/-- [B -/
def k8 : Class := { plain "[B" (some 0) with kind := .array 7 .byte, interfaces := #[5, 6], accessFlags := 1041 }

/-- the primitive int -/
def k9 : Class := { plain "int" none with kind := .primitive 'I', accessFlags := 0x411 }
/-- [I -/
def k10 : Class := { plain "[I" (some 0) with kind := .array 9 .int, interfaces := #[5, 6], accessFlags := 1041 }

def heap : Heap := #[{ cls := 2, slots := #[.int 0, .int 0, .ref 1], vm := .statics 2 },
  { cls := 4, slots := #[.null, .null], vm := .none }]
def classes : Array Class := #[k0, k1, k2, k3, k4, k5, k6, k7, k8, k9, k10]
def interned : List (Array UInt16 × Addr) := []
def slotsUsed : Nat := 5
def theMethod : MethodId := ⟨1, 5⟩
def args0 : Array Value := #[.int 5, .int 6, .int 7, .int 8]
def aboutOver (below : List Frame) : State where
  vm := { classes := classes, interned := interned.toArray }
  heap := heap
  slotsUsed := slotsUsed
  threads := #[{ frames := .invoking theMethod args0 :: below }]
def below0 : List Frame := [.native { method := ⟨0, 0⟩, args := #[] }]
def about1 : State := aboutOver below0
def p0 : Program := .bare "" "" ""
def e0 : Env := launch0.env 0 0 0
theorem w_frames : about1.frames = Frame.invoking theMethod args0 :: below0 := rfl
set_option maxRecDepth 65536 in
theorem w_args : argsFit about1.vm theMethod args0 = true := by decide +kernel
set_option maxRecDepth 65536 in
theorem w_heap : heapFits about1 = true := by decide +kernel
set_option maxRecDepth 65536 in
theorem w_runnable : about1.curStatus? = some .runnable := by decide +kernel
set_option maxRecDepth 65536 in
theorem w_alone : about1.alone = true := by decide +kernel
set_option maxRecDepth 65536 in
theorem w_named : about1.methodNamed? x = some theMethod := by decide +kernel
set_option maxRecDepth 65536 in
theorem w_hears : about1.hears theMethod below0 = true := by decide +kernel
set_option maxRecDepth 65536 in
theorem w_ripe : about1.ripe theMethod args0 below0 = true := by decide +kernel
theorem w_running : about1.status = .running := rfl
set_option maxRecDepth 65536 in
theorem w_room : about1.hasRoom e0.platform room_1 = true :=
  launch0.hasRoom_least _ room_1 (by decide +kernel) (by decide +kernel) (by decide +kernel) (by decide +kernel) (by decide +kernel) (by decide +kernel)
theorem allAtoms_all (ts : List Jvm.Cond) (a : Array Jvm.Value) (st : Jvm.State) : (allAtoms ts).before a st = ts.all (fun c => c.before a st) := by
  induction ts with
  | nil => rfl
  | cons c t ih =>
    show (Jvm.Cond.and c (allAtoms t)).before a st = _
    rw [Jvm.Cond.before_and, ih, List.all_cons]
def words1 : List Jvm.Cond := Jvm.Cond.code x code maxLocals ret :: tables_1
/-- a 'code' word, met by the world's own term for the bytes: nothing is compared byte by byte -/
theorem code_word {y : MethodName} {bytes : ByteArray} {mx : Nat} {rt : Option FieldType} {a : Array Value} {s : State} {m : MethodId} {meth : Method} {c : Code} (h1 : s.methodNamed? y = some m) (h2 : s.vm.method? m = some meth) (h3 : meth.code = some c) (h4 : c.code = bytes)
    (h5 : (c.maxLocals == mx && c.exceptionTable.isEmpty && decide (c.maxStack ≤ mostOperands) && decide (meth.sig.returnType = rt) && !meth.locks && decide (parseMethodDescriptor y.desc = some meth.sig)) = true) : (Jvm.Cond.code y bytes mx rt).before a s = true := by
  simp only [Bool.and_eq_true, beq_iff_eq, Bool.not_eq_true', decide_eq_true_eq] at h5
  obtain ⟨⟨⟨⟨⟨g1, g2⟩, g3⟩, g4⟩, g5⟩, g6⟩ := h5
  simp [Cond.before, Cond.holds, Cond.value, h1, h2, h3, h4, g1, g2, g3, g4, g5, g6]
def isCode : Jvm.Cond → Bool
  | .code _ _ _ _ => true
  | _ => false
theorem all_split {L : List Jvm.Cond} {P : Jvm.Cond → Bool} (h1 : L.all (fun c => isCode c || P c) = true) (h2 : ∀ c ∈ L.filter isCode, P c = true) : L.all P = true := by
  refine List.all_eq_true.mpr fun c hc => ?_
  have h := List.all_eq_true.mp h1 c hc
  rcases Bool.eq_false_or_eq_true (isCode c) with hi | hi
  · exact h2 c (List.mem_filter.mpr ⟨hc, hi⟩)
  · simpa [hi] using h
set_option maxRecDepth 65536 in
theorem w_c0 : (Jvm.Cond.code x code maxLocals ret).before args0 about1 = true := code_word (m := ⟨1, 5⟩) (meth := k1m5) (c := k1c5) (by decide +kernel) rfl rfl rfl (by decide +kernel)
set_option maxRecDepth 65536 in
theorem w_c1 : (Jvm.Cond.code ({ cls := "com/example/wolf_spider/wolfspider/EdgeListLineTabPinLaw", name := "pick", desc := "(I)B" } : Jvm.MethodName) method_2_code (2 : Nat) (Option.some Jvm.ClassFile.FieldType.byte)).before args0 about1 = true := code_word (m := ⟨1, 1⟩) (meth := k1m1) (c := k1c1) (by decide +kernel) rfl rfl rfl (by decide +kernel)
set_option maxRecDepth 65536 in
theorem w_c2 : (Jvm.Cond.code ({ cls := "com/example/wolf_spider/wolfspider/EdgeListLineTabPinLaw", name := "at", desc := "([BIII)I" } : Jvm.MethodName) method_3_code (4 : Nat) (Option.some Jvm.ClassFile.FieldType.int)).before args0 about1 = true := code_word (m := ⟨1, 2⟩) (meth := k1m2) (c := k1c2) (by decide +kernel) rfl rfl rfl (by decide +kernel)
set_option maxRecDepth 65536 in
theorem w_c3 : (Jvm.Cond.code ({ cls := "com/example/wolf_spider/wolfspider/EdgeListLineTabPinLaw", name := "isBreak", desc := "(I)Z" } : Jvm.MethodName) method_4_code (1 : Nat) (Option.some Jvm.ClassFile.FieldType.boolean)).before args0 about1 = true := code_word (m := ⟨1, 3⟩) (meth := k1m3) (c := k1c3) (by decide +kernel) rfl rfl rfl (by decide +kernel)
set_option maxRecDepth 65536 in
theorem w_c4 : (Jvm.Cond.code ({ cls := "com/example/wolf_spider/wolfspider/EdgeListLine", name := "tab", desc := "([BIILcom/example/wolf_spider/wolfspider/EdgeListLine$Fields;)I" } : Jvm.MethodName) prog_6_method_3_code (9 : Nat) (Option.some Jvm.ClassFile.FieldType.int)).before args0 about1 = true := code_word (m := ⟨2, 1⟩) (meth := k2m1) (c := k2c1) (by decide +kernel) rfl rfl rfl (by decide +kernel)
set_option maxRecDepth 65536 in
theorem w_c5 : (Jvm.Cond.code ({ cls := "com/example/wolf_spider/wolfspider/EdgeListLine", name := "entry", desc := "(IZIIILcom/example/wolf_spider/wolfspider/EdgeListLine$Fields;)I" } : Jvm.MethodName) prog_6_method_5_code (7 : Nat) (Option.some Jvm.ClassFile.FieldType.int)).before args0 about1 = true := code_word (m := ⟨2, 2⟩) (meth := k2m2) (c := k2c2) (by decide +kernel) rfl rfl rfl (by decide +kernel)
set_option maxRecDepth 65536 in
theorem w_c6 : (Jvm.Cond.code ({ cls := "com/example/wolf_spider/wolfspider/EdgeListLineTabPinLaw", name := "tabOne", desc := "(I)I" } : Jvm.MethodName) method_5_code (1 : Nat) (Option.some Jvm.ClassFile.FieldType.int)).before args0 about1 = true := code_word (m := ⟨1, 4⟩) (meth := k1m4) (c := k1c4) (by decide +kernel) rfl rfl rfl (by decide +kernel)
def codes1 : List Jvm.Cond := [Jvm.Cond.code x code maxLocals ret, Jvm.Cond.code ({ cls := "com/example/wolf_spider/wolfspider/EdgeListLineTabPinLaw", name := "pick", desc := "(I)B" } : Jvm.MethodName) method_2_code (2 : Nat) (Option.some Jvm.ClassFile.FieldType.byte), Jvm.Cond.code ({ cls := "com/example/wolf_spider/wolfspider/EdgeListLineTabPinLaw", name := "at", desc := "([BIII)I" } : Jvm.MethodName) method_3_code (4 : Nat) (Option.some Jvm.ClassFile.FieldType.int), Jvm.Cond.code ({ cls := "com/example/wolf_spider/wolfspider/EdgeListLineTabPinLaw", name := "isBreak", desc := "(I)Z" } : Jvm.MethodName) method_4_code (1 : Nat) (Option.some Jvm.ClassFile.FieldType.boolean), Jvm.Cond.code ({ cls := "com/example/wolf_spider/wolfspider/EdgeListLine", name := "tab", desc := "([BIILcom/example/wolf_spider/wolfspider/EdgeListLine$Fields;)I" } : Jvm.MethodName) prog_6_method_3_code (9 : Nat) (Option.some Jvm.ClassFile.FieldType.int), Jvm.Cond.code ({ cls := "com/example/wolf_spider/wolfspider/EdgeListLine", name := "entry", desc := "(IZIIILcom/example/wolf_spider/wolfspider/EdgeListLine$Fields;)I" } : Jvm.MethodName) prog_6_method_5_code (7 : Nat) (Option.some Jvm.ClassFile.FieldType.int), Jvm.Cond.code ({ cls := "com/example/wolf_spider/wolfspider/EdgeListLineTabPinLaw", name := "tabOne", desc := "(I)I" } : Jvm.MethodName) method_5_code (1 : Nat) (Option.some Jvm.ClassFile.FieldType.int)]
set_option maxRecDepth 65536 in
theorem codes_eq : words1.filter isCode = codes1 := rfl
theorem w_codes : ∀ c ∈ words1.filter isCode, c.before args0 about1 = true := by
  rw [codes_eq]
  intro c hc
  simp only [codes1, List.mem_cons, List.not_mem_nil, or_false] at hc
  rcases hc with rfl | rfl | rfl | rfl | rfl | rfl | rfl
  · exact w_c0
  · exact w_c1
  · exact w_c2
  · exact w_c3
  · exact w_c4
  · exact w_c5
  · exact w_c6
set_option maxRecDepth 65536 in
theorem w_t1 : words1.all (fun c => isCode c || c.before args0 about1) = true := by decide +kernel
theorem w_tables : (allAtoms (Jvm.Cond.code x code maxLocals ret :: tables_1)).before args0 about1 = true := by
  rw [allAtoms_all]
  show words1.all (fun c => c.before args0 about1) = true
  refine all_split ?_ w_codes
  rw [w_t1]
set_option maxRecDepth 65536 in
theorem w_case : (Jvm.Cond.and given_1 narrow_1).before args0 about1 = true := by decide +kernel
theorem w_applies : (headSpec (Jvm.Cond.code x code maxLocals ret :: tables_1) room_1).applies x e0.platform about1 = true :=
  (Spec.applies_iff w_frames).mpr ⟨w_running, w_runnable, w_alone, w_named, w_hears, w_ripe, w_room, w_tables⟩
theorem atStart : AtStart classFile x code maxLocals ret World_1 tables_1 room_1 Calls_1 rest_1 Pre_1 launch0 p0 e0 about1 theMethod args0 below0 :=
  ⟨lists_1, trivial, launch0.admits_env _ _ _, launch0.least_env, fairChoices_fair.cas, fairChoices_fair.clock, w_frames, w_args, w_heap, w_applies, trivial, trivial, w_case⟩
end start1
theorem witness_1 : WitnessClaimed_1 := ⟨start1.p0, start1.e0, start1.about1, start1.theMethod, start1.args0, start1.below0, start1.atStart⟩
end Jvm.Pilot.@@N@@
