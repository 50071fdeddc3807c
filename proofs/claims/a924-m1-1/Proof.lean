import JvmDerived
import JvmDerived.Pilot.@@N@@Statement
import JvmDerived.Pilot.@@N@@Code
set_option linter.unusedVariables false
set_option linter.unusedSimpArgs false
@@BLOCK:NumsL.lean.txt@@
namespace Jvm.Pilot.@@N@@
open Jvm Jvm.ClassFile Sem Op Lib Jvm.Free Jvm.Stand Jvm.LawKit Jvm.RoadKit Bundle Jvm.Pilot.@@N@@.Jvm.D
section OwnKit
variable {p : Program} {l : Launch} {e : Env} {R : Room} {s : State} {m : MethodId} {args : Array Value} {below : List Frame} {meth : Method} {c : Code} {T T' : State} {locs : List Loc} {cells slots : Nat}
/-- from this configuration the body comes to its end, and then Q holds -/
def own_Fin (p : Program) (e : Env) (below : List Frame) (s : State) (Q : Option Value → Heap → List Loc → Prop) (kc ks : Nat) (T : State) (g : JFrame) : Prop :=
  ∃ s₂ o, Steps p.tables e below (T.setTop g) s₂ ∧ s₂.status = .running ∧ Ended s₂ below o ∧ ∃ v L, o = .returned v ∧ Q v s₂.heap L ∧ FrameEnd s o s₂ L kc ks
variable {Q : Option Value → Heap → List Loc → Prop} {kc ks : Nat} {g g' : JFrame}
theorem own_step (st : ∀ t, Steps p.tables e below (T'.setTop g') t → Steps p.tables e below (T.setTop g) t) (k : own_Fin p e below s Q kc ks T' g') : own_Fin p e below s Q kc ks T g := by
  obtain ⟨s₂, o, h1, r⟩ := k
  exact ⟨s₂, o, st _ h1, r⟩
theorem own_in {as : Array Value} {n : Nat} (ef : entryFrame m as n = g) (k : own_Fin p e below s Q kc ks T g) :
    ∃ s₂ o, Steps p.tables e below (T.setTop (entryFrame m as n)) s₂ ∧ s₂.status = .running ∧ Ended s₂ below o ∧ ∃ v L, o = .returned v ∧ Q v s₂.heap L ∧ FrameEnd s o s₂ L kc ks := by
  obtain ⟨s₂, o, h1, r⟩ := k
  exact ⟨s₂, o, castTop ef h1, r⟩
theorem own_retV (X : Stand p l e R s m args below meth c T locs cells slots) (hx : p.tables.exec = Jvm.exec) (hlk : meth.locks = false) {pc : Nat} {Ls : Array Slot} {w : Value} {t : FieldType} {i : Instr} {rest : List Value} (hret : meth.sig.returnType = some t) (hn : narrow t w = w)
    (hi : (i = .ireturn ∧ (t = .int ∨ t = .boolean ∨ t = .byte ∨ t = .char ∨ t = .short) ∧ ∃ z, w = .int z) ∨ (i = .lreturn ∧ t = .long ∧ ∃ z, w = .long z) ∨ (i = .dreturn ∧ t = .double ∧ ∃ z, w = .double z) ∨ (i = .freturn ∧ t = .float ∧ ∃ z, w = .float z) ∨ (i = .areturn ∧ t.isReference = true ∧ w.isRef = true))
    (hd : decode c.code pc = .ok (i, 1)) (hq : Q (some w) T.heap locs) (h1 : cells ≤ kc) (h2 : slots ≤ ks) : own_Fin p e below s Q kc ks T (mkF m pc Ls (w :: rest)) := by
  obtain ⟨fs, hr, hrun, hended, hW, hsame⟩ := X.leave (v := some w) (fun h => by rw [hret] at h; cases h) hlk
  exact ⟨_, _, retOut X hx hret hn hi hd hr, hrun, hended, _, _, rfl, hq, ⟨_, rfl⟩, hW, hsame.mono h1 h2⟩
theorem own_retI (X : Stand p l e R s m args below meth c T locs cells slots) (hx : p.tables.exec = Jvm.exec) (hlk : meth.locks = false) {pc : Nat} {Ls : Array Slot} {z : Int32} {rest : List Value} (hret : meth.sig.returnType = some .int)
    (hd : decode c.code pc = .ok (.ireturn, 1)) (hq : Q (some (.int z)) T.heap locs) (h1 : cells ≤ kc) (h2 : slots ≤ ks) : own_Fin p e below s Q kc ks T (mkF m pc Ls (.int z :: rest)) :=
  own_retV X hx hlk hret rfl (Or.inl ⟨rfl, Or.inl rfl, z, rfl⟩) hd hq h1 h2
theorem own_retJ (X : Stand p l e R s m args below meth c T locs cells slots) (hx : p.tables.exec = Jvm.exec) (hlk : meth.locks = false) {pc : Nat} {Ls : Array Slot} {z : Int64} {rest : List Value} (hret : meth.sig.returnType = some .long)
    (hd : decode c.code pc = .ok (.lreturn, 1)) (hq : Q (some (.long z)) T.heap locs) (h1 : cells ≤ kc) (h2 : slots ≤ ks) : own_Fin p e below s Q kc ks T (mkF m pc Ls (.long z :: rest)) :=
  own_retV X hx hlk hret rfl (Or.inr (Or.inl ⟨rfl, rfl, z, rfl⟩)) hd hq h1 h2
theorem own_retA (X : Stand p l e R s m args below meth c T locs cells slots) (hx : p.tables.exec = Jvm.exec) (hlk : meth.locks = false) {pc : Nat} {Ls : Array Slot} {w : Value} {t : FieldType} {rest : List Value} (hret : meth.sig.returnType = some t) (ht : t.isReference = true) (hw : w.isRef = true)
    (hd : decode c.code pc = .ok (.areturn, 1)) (hq : Q (some w) T.heap locs) (h1 : cells ≤ kc) (h2 : slots ≤ ks) : own_Fin p e below s Q kc ks T (mkF m pc Ls (w :: rest)) :=
  own_retV X hx hlk hret (by cases t <;> first | (cases ht; done) | rfl) (Or.inr (Or.inr (Or.inr (Or.inr ⟨rfl, ht, hw⟩)))) hd hq h1 h2
theorem own_retN (X : Stand p l e R s m args below meth c T locs cells slots) (hx : p.tables.exec = Jvm.exec) (hlk : meth.locks = false) {pc : Nat} {Ls : Array Slot} {z : Int32} {t : FieldType} {rest : List Value} (hret : meth.sig.returnType = some t) (ht : t = .boolean ∨ t = .byte ∨ t = .char ∨ t = .short)
    (hd : decode c.code pc = .ok (.ireturn, 1)) (hq : Q (some (.int (nar t z))) T.heap locs) (h1 : cells ≤ kc) (h2 : slots ≤ ks) : own_Fin p e below s Q kc ks T (mkF m pc Ls (.int z :: rest)) := by
  obtain ⟨fs, hr, hrun, hended, hW, hsame⟩ := X.leave (v := some (.int (nar t z))) (fun h => by rw [hret] at h; cases h) hlk
  exact ⟨_, _, retN X hx hret ht hd hr, hrun, hended, _, _, rfl, hq, ⟨_, rfl⟩, hW, hsame.mono h1 h2⟩
theorem own_ret (X : Stand p l e R s m args below meth c T locs cells slots) (hx : p.tables.exec = Jvm.exec) (hlk : meth.locks = false) {pc : Nat} {Ls : Array Slot} (hret : meth.sig.returnType = none)
    (hd : decode c.code pc = .ok (.return_, 1)) (hq : Q none T.heap locs) (h1 : cells ≤ kc) (h2 : slots ≤ ks) : own_Fin p e below s Q kc ks T (mkF m pc Ls []) := by
  obtain ⟨fs, hr, hrun, hended, hW, hsame⟩ := X.leave (v := none) (fun _ => rfl) hlk
  exact ⟨_, _, X.returnOut hx hret hd hr, hrun, hended, _, _, rfl, hq, ⟨_, rfl⟩, hW, hsame.mono h1 h2⟩
end OwnKit
theorem own_nar_ite {P : Prop} [Decidable P] {a b : Int32} (ha : nar .boolean a = a) (hb : nar .boolean b = b) : nar .boolean (if P then a else b) = (if P then a else b) := by
  by_cases h : P
  · rw [if_pos h]; exact ha
  · rw [if_neg h]; exact hb
theorem own_nar_bool (P : Prop) [Decidable P] : nar .boolean (if P then (1 : Int32) else 0) = (if P then (1 : Int32) else 0) := own_nar_ite (by decide) (by decide)
/-- the array at a holds just these values -/
def own_Arl (Z : State) (h : Heap) (a : Addr) (ty : FieldType) (vs : List Value) : Prop := ∃ c : Cell, Arr Z h a c ty ∧ c.slots.toList = vs
section OwnArr
variable {p : Program} {l : Launch} {e : Env} {R : Room} {s : State} {m : MethodId} {args : Array Value} {below : List Frame} {meth : Method} {c : Code} {T : State} {locs : List Loc} {cells slots : Nat}
variable {Z : State} {h h' : Heap} {a b : Addr} {ty : FieldType} {vs : List Value} {v w : Value} {sl : Nat} {ws : List Addr}
theorem own_Arl.lt (F : own_Arl Z h a ty vs) : a < h.size := by obtain ⟨c, A, -⟩ := F; exact A.lt
theorem own_Arl.ext (F : own_Arl Z h a ty vs) (E : Ext h h') : own_Arl Z h' a ty vs := by obtain ⟨c, A, r⟩ := F; exact ⟨c, A.ext E, r⟩
theorem own_Arl.other (F : own_Arl Z h b ty vs) (W : Wr h h' a sl v) (q : b ≠ a) : own_Arl Z h' b ty vs := by obtain ⟨c, A, r⟩ := F; exact ⟨c, A.other W q, r⟩
theorem own_Arl.keep (F : own_Arl Z h a ty vs) (K : Keep h h' ws) (q : a ∉ ws) : own_Arl Z h' a ty vs := by obtain ⟨c, A, r⟩ := F; exact ⟨c, ⟨K.2.1 a c A.1 q, A.2⟩, r⟩
theorem own_Arl.set (F : own_Arl Z h a ty vs) (W : Wr h h' a sl v) : own_Arl Z h' a ty (vs.set sl v) := by
  obtain ⟨c, A, rfl⟩ := F
  exact ⟨_, A.same W, by simp [Cell.setSlot]⟩
theorem own_Arl.set' {j : Int32} (F : own_Arl Z h a ty vs) (W : Wr h h' a j.toNatClampNeg v) {i : Nat} (hi : j.toNatClampNeg = i) : own_Arl Z h' a ty (vs.set i v) := hi ▸ F.set W
theorem own_Arl.of_new {k : ClassId} {n : Int32} (A : Arr Z h a (newA k ty n) ty) {i : Nat} (hi : n.toNatClampNeg = i) : own_Arl Z h a ty (List.replicate i (defaultValue ty)) := ⟨_, A, by subst hi; simp [newA]⟩
theorem own_inb {c : Cell} {j : Int32} (L : c.slots.toList = vs) (h1 : ¬ j < 0) (h2 : j.toNatClampNeg < vs.length) : ¬ (j < 0 ∨ c.slots.size ≤ j.toNatClampNeg) := by
  subst L
  intro q
  rcases q with q | q
  · exact h1 q
  · rw [Array.length_toList] at h2; exact absurd q (Nat.not_le.mpr h2)
theorem own_inb' {c : Cell} {j : Int32} {n : Nat} (L : c.slots.toList = vs) (hl : vs.length = n) (h1 : ¬ j < 0) (h2 : j.toNatClampNeg < n) : ¬ (j < 0 ∨ c.slots.size ≤ j.toNatClampNeg) := own_inb L h1 (hl ▸ h2)
theorem own_ix {j : Int32} {k : Nat} (hk : j.toNatClampNeg = k) (h : vs[k]? = some v) : vs[j.toNatClampNeg]? = some v := hk ▸ h
theorem own_get {c : Cell} {j : Nat} (L : c.slots.toList = vs) (h2 : vs[j]? = some v) : c.slots[j]? = some v := by
  subst L
  rw [Array.getElem?_toList] at h2; exact h2
theorem own_lt_of {j : Nat} (h2 : vs[j]? = some v) : j < vs.length := (List.getElem?_eq_some_iff.mp h2).1
variable {g : JFrame} {j : Int32} {rest : List Value}
theorem own_baload (X : Stand p l e R s m args below meth c T locs cells slots) (hx : p.tables.exec = Jvm.exec) (hZ : Z.Warmed39 s.vm) (eT : T.heap = h) (F : own_Arl Z h a .byte vs) (h1 : ¬ j < 0) (h2 : vs[j.toNatClampNeg]? = some v) (hg : g.method = m) (hs : g.stack = .int j :: .ref a :: rest) (hd : decode c.code g.pc = .ok (.baload, 1)) (target : State)
    (k : Steps p.tables e below (T.setTop { g with pc := g.pc + 1, stack := v :: rest }) target) : Steps p.tables e below (T.setTop g) target := by
  obtain ⟨cl, A, L⟩ := F
  exact X.baloadBytes hx (by rw [eT]; exact A.1) (State.isArrayOf_alike hZ.alike A.2.1) A.2.2 (own_inb L h1 (own_lt_of h2)) (own_get L h2) hg hs hd _ k
theorem own_caload (X : Stand p l e R s m args below meth c T locs cells slots) (hx : p.tables.exec = Jvm.exec) (hZ : Z.Warmed39 s.vm) (eT : T.heap = h) (F : own_Arl Z h a .char vs) (h1 : ¬ j < 0) (h2 : vs[j.toNatClampNeg]? = some v) (hg : g.method = m) (hs : g.stack = .int j :: .ref a :: rest) (hd : decode c.code g.pc = .ok (.caload, 1)) (target : State)
    (k : Steps p.tables e below (T.setTop { g with pc := g.pc + 1, stack := v :: rest }) target) : Steps p.tables e below (T.setTop g) target := by
  obtain ⟨cl, A, L⟩ := F
  exact X.caload hx (by rw [eT]; exact A.1) (State.isArrayOf_alike hZ.alike A.2.1) A.2.2 (own_inb L h1 (own_lt_of h2)) (own_get L h2) hg hs hd _ k
theorem own_iaload (X : Stand p l e R s m args below meth c T locs cells slots) (hx : p.tables.exec = Jvm.exec) (hZ : Z.Warmed39 s.vm) (eT : T.heap = h) (F : own_Arl Z h a .int vs) (h1 : ¬ j < 0) (h2 : vs[j.toNatClampNeg]? = some v) (hg : g.method = m) (hs : g.stack = .int j :: .ref a :: rest) (hd : decode c.code g.pc = .ok (.iaload, 1)) (target : State)
    (k : Steps p.tables e below (T.setTop { g with pc := g.pc + 1, stack := v :: rest }) target) : Steps p.tables e below (T.setTop g) target := by
  obtain ⟨cl, A, L⟩ := F
  exact X.iaload hx (by rw [eT]; exact A.1) (State.isArrayOf_alike hZ.alike A.2.1) A.2.2 (own_inb L h1 (own_lt_of h2)) (own_get L h2) hg hs hd _ k
theorem own_laload (X : Stand p l e R s m args below meth c T locs cells slots) (hx : p.tables.exec = Jvm.exec) (hZ : Z.Warmed39 s.vm) (eT : T.heap = h) (F : own_Arl Z h a .long vs) (h1 : ¬ j < 0) (h2 : vs[j.toNatClampNeg]? = some v) (hg : g.method = m) (hs : g.stack = .int j :: .ref a :: rest) (hd : decode c.code g.pc = .ok (.laload, 1)) (target : State)
    (k : Steps p.tables e below (T.setTop { g with pc := g.pc + 1, stack := v :: rest }) target) : Steps p.tables e below (T.setTop g) target := by
  obtain ⟨cl, A, L⟩ := F
  exact X.laload hx (by rw [eT]; exact A.1) (State.isArrayOf_alike hZ.alike A.2.1) A.2.2 (own_inb L h1 (own_lt_of h2)) (own_get L h2) hg hs hd _ k
theorem own_alen (X : Stand p l e R s m args below meth c T locs cells slots) (hx : p.tables.exec = Jvm.exec) (hZ : Z.Warmed39 s.vm) (eT : T.heap = h) (F : own_Arl Z h a ty vs) {n : Int32} {i : Nat} (hi : vs.length = i) (hn : i.toInt32 = n) (hg : g.method = m) (hs : g.stack = .ref a :: rest) (hd : decode c.code g.pc = .ok (.arraylength, 1)) (target : State)
    (k : Steps p.tables e below (T.setTop { g with pc := g.pc + 1, stack := .int n :: rest }) target) : Steps p.tables e below (T.setTop g) target := by
  obtain ⟨cl, A, rfl⟩ := F
  subst hi
  subst hn
  exact X.arraylength hx (by rw [eT]; exact A.1) (State.isArrayOf_alike hZ.alike A.2.1) hg hs hd _ (by rw [Array.length_toList] at k; exact k)
end OwnArr

theorem own_b0 {P : Prop} [Decidable P] (h : (if P then (1 : Int32) else (0 : Int32)) = 0) : ¬ P := fun q => by rw [if_pos q] at h; exact absurd h (by decide)
theorem own_b1 {P : Prop} [Decidable P] (h : ¬ ((if P then (1 : Int32) else (0 : Int32)) = 0)) : P := by
  by_cases q : P
  · exact q
  · rw [if_neg q] at h; exact absurd rfl h
def own_paper (B : Int64) (M : Int32) (L : Int64) : Int32 := if (0 : Int64) < B then (if M = 0 then (if B = (L / (5 : Int64)) then (if (L - (L / (5 : Int64)) * (5 : Int64)) = (0 : Int64) then (0 : Int32) else (1 : Int32)) else (0 : Int32)) else (0 : Int32)) else (0 : Int32)
def own_fits (i c n : Int32) : Int32 := if i < n then (if (if c = (32 : Int32) then (1 : Int32) else (0 : Int32)) = (if i = (4 : Int32) then (1 : Int32) else (if i = (9 : Int32) then (1 : Int32) else (0 : Int32))) then (1 : Int32) else (0 : Int32)) else (1 : Int32)
/-- one sign more: blanks, a blank out of place, length -/
def own_next (N j : Nat) (b : Bool) (s : Nat × Bool × Nat) : Nat × Bool × Nat := if j < N then (if b then s.1 + 1 else s.1, if b then (s.2.1 || s.2.2 % 5 != 4) else s.2.1, s.2.2 + 1) else s
def own_run (N : Nat) (b0 b1 b2 b3 b4 b5 b6 b7 b8 b9 b10 : Bool) : Nat × Bool × Nat := own_next N 10 b10 (own_next N 9 b9 (own_next N 8 b8 (own_next N 7 b7 (own_next N 6 b6 (own_next N 5 b5 (own_next N 4 b4 (own_next N 3 b3 (own_next N 2 b2 (own_next N 1 b1 (own_next N 0 b0 (0, false, 0)))))))))))
def own_isP (s : Nat × Bool × Nat) : Bool := decide (0 < s.1) && !s.2.1 && decide (s.1 = s.2.2 / 5) && !decide (s.2.2 % 5 = 0)
def own_fit (N j : Nat) (b : Bool) : Bool := !decide (j < N) || (b == (decide (j = 4) || decide (j = 9)))
def own_exp (N : Nat) (b0 b1 b2 b3 b4 b5 b6 b7 b8 b9 b10 : Bool) : Bool := !decide (N < 6) && !decide (N = 10) && own_fit N 0 b0 && own_fit N 1 b1 && own_fit N 2 b2 && own_fit N 3 b3 && own_fit N 4 b4 && own_fit N 5 b5 && own_fit N 6 b6 && own_fit N 7 b7 && own_fit N 8 b8 && own_fit N 9 b9 && own_fit N 10 b10
set_option maxRecDepth 100000 in
theorem own_all : ∀ N : Fin 12, ∀ b0 b1 b2 b3 b4 b5 b6 b7 b8 b9 b10 : Bool, own_isP (own_run N.val b0 b1 b2 b3 b4 b5 b6 b7 b8 b9 b10) = own_exp N.val b0 b1 b2 b3 b4 b5 b6 b7 b8 b9 b10 := by decide +kernel
theorem own_n64 {c : Nat} (h : c < 1000) : (Int64.ofNat c).toInt = (c : Int) := Int64.toInt_ofNat_of_lt (by omega)
theorem own_eq64 {x : Int64} {c : Nat} (h : x.toInt = (c : Int)) (hc : c < 1000) : x = Int64.ofNat c := Int64.toInt_inj.mp (h.trans (own_n64 hc).symm)
theorem own_div5 {c : Nat} (h : c < 1000) : Int64.ofNat c / (5 : Int64) = Int64.ofNat (c / 5) := by
  have c5 : (5 : Int64).toInt = 5 := rfl
  apply own_eq64 _ (by omega)
  rw [Jvm.Kit.i64_div (by rw [own_n64 h]; omega), own_n64 h, c5]; rfl
theorem own_rem5 {c : Nat} (h : c < 1000) : Int64.ofNat c - (Int64.ofNat c / (5 : Int64)) * (5 : Int64) = Int64.ofNat (c % 5) := by
  have c5 : (5 : Int64).toInt = 5 := rfl
  apply own_eq64 _ (by omega)
  rw [Jvm.Kit.i64_rem_nonneg (by rw [own_n64 h]; omega), own_n64 h, c5]; rfl
theorem own_inj64 {c d : Nat} (hc : c < 1000) (hd : d < 1000) : Int64.ofNat c = Int64.ofNat d ↔ c = d := by
  constructor
  · intro q
    have := congrArg Int64.toInt q
    rw [own_n64 hc, own_n64 hd] at this; omega
  · intro q; rw [q]
theorem own_lt32 {i j : Nat} (hi : i ≤ 100) (hj : j ≤ 100) : (Int32.ofNat i < Int32.ofNat j) ↔ i < j := by
  rw [Int32.lt_iff_toInt_lt, toInt_of rfl (by omega), toInt_of rfl (by omega)]; omega
theorem own_inj32 {i j : Nat} (hi : i ≤ 100) (hj : j ≤ 100) : (Int32.ofNat i = Int32.ofNat j) ↔ i = j := by
  constructor
  · intro q
    have := congrArg Int32.toInt q
    rw [toInt_of rfl (by omega), toInt_of rfl (by omega)] at this; omega
  · intro q; rw [q]
def own_Inv (B : Int64) (M : Int32) (L : Int64) (s : Nat × Bool × Nat) : Prop := B = Int64.ofNat s.1 ∧ M = (if s.2.1 = true then (1 : Int32) else (0 : Int32)) ∧ L = Int64.ofNat s.2.2
theorem own_stp {B L B' L' : Int64} {M M' c n i : Int32} {N j : Nat} {s : Nat × Bool × Nat} (hn : n = Int32.ofNat N) (hN : N < 12) (hi : i = Int32.ofNat j) (hj : j < 12) (h1 : s.1 ≤ j) (h2 : s.2.2 ≤ j) (I : own_Inv B M L s)
    (eB : B' = if i < n then (if c = (32 : Int32) then (B + (1 : Int64)) else B) else B)
    (eM : M' = if i < n then (if c = (32 : Int32) then (nar .boolean (M ||| (if (L - (L / (5 : Int64)) * (5 : Int64)) = (4 : Int64) then (0 : Int32) else (1 : Int32)))) else M) else M)
    (eL : L' = if i < n then (L + (1 : Int64)) else L) : own_Inv B' M' L' (own_next N j (decide (c = (32 : Int32))) s) ∧ (own_next N j (decide (c = (32 : Int32))) s).1 ≤ j + 1 ∧ (own_next N j (decide (c = (32 : Int32))) s).2.2 ≤ j + 1 := by
  obtain ⟨x, y, z⟩ := s
  obtain ⟨iB, iM, iL⟩ := I
  simp only at iB iM iL h1 h2
  subst iB iM iL hn hi
  rw [own_rem5 (by omega)] at eM
  have up : ∀ {t : Nat}, t < 100 → Int64.ofNat t + (1 : Int64) = Int64.ofNat (t + 1) := fun {t} ht => (Int64.ofNat_add t 1).symm
  rw [up (by omega)] at eB eL
  by_cases hc : j < N
  · have hc' := (own_lt32 (i := j) (j := N) (by omega) (by omega)).mpr hc
    rw [if_pos hc'] at eB eM eL
    unfold own_next
    rw [if_pos hc]
    by_cases hb : c = (32 : Int32)
    · rw [if_pos hb] at eB eM
      refine ⟨⟨?_, ?_, eL⟩, ?_, ?_⟩
      · simpa [hb] using eB
      · rw [eM]
        have c4 : (Int64.ofNat (z % 5) = (4 : Int64)) ↔ z % 5 = 4 := own_inj64 (c := z % 5) (d := 4) (by omega) (by omega)
        by_cases h4 : z % 5 = 4
        · rw [if_pos (c4.mpr h4)]
          cases y <;> simp [hb, h4] <;> decide
        · rw [if_neg (fun q => h4 (c4.mp q))]
          cases y <;> simp [hb, h4] <;> decide
      · simp [hb]; omega
      · simp only; omega
    · rw [if_neg hb] at eB eM
      refine ⟨⟨?_, ?_, eL⟩, ?_, ?_⟩
      · simpa [hb] using eB
      · simpa [hb] using eM
      · simp [hb]; omega
      · simp only; omega
  · have hc' : ¬ (Int32.ofNat j < Int32.ofNat N) := fun q => hc ((own_lt32 (by omega) (by omega)).mp q)
    rw [if_neg hc'] at eB eM eL
    unfold own_next
    rw [if_neg hc]
    exact ⟨⟨eB, eM, eL⟩, by simp only; omega, by simp only; omega⟩
theorem own_paper_eq {B L : Int64} {M : Int32} {s : Nat × Bool × Nat} (I : own_Inv B M L s) (h1 : s.1 ≤ 20) (h2 : s.2.2 ≤ 20) : own_paper B M L = if own_isP s = true then (1 : Int32) else (0 : Int32) := by
  obtain ⟨x, y, z⟩ := s
  obtain ⟨iB, iM, iL⟩ := I
  simp only at iB iM iL h1 h2
  subst iB iM iL
  unfold own_paper own_isP
  rw [own_rem5 (by omega), own_div5 (by omega)]
  have a1 : ((0 : Int64) < Int64.ofNat x) ↔ 0 < x := by
    rw [Int64.lt_iff_toInt_lt, own_n64 (by omega)]
    show (0 : Int) < (x : Int) ↔ _
    omega
  have a2 : (Int64.ofNat x = Int64.ofNat (z / 5)) ↔ x = z / 5 := own_inj64 (by omega) (by omega)
  have a3 : (Int64.ofNat (z % 5) = (0 : Int64)) ↔ z % 5 = 0 := own_inj64 (c := z % 5) (d := 0) (by omega) (by omega)
  have a4 : ((if y = true then (1 : Int32) else (0 : Int32)) = 0) ↔ y = false := by cases y <;> simp
  simp only [a1, a2, a3, a4]
  by_cases q1 : 0 < x <;> by_cases q2 : x = z / 5 <;> by_cases q3 : z % 5 = 0 <;> cases y <;> simp [q1, q2, q3]
theorem own_fits_eq {c n i : Int32} {N j : Nat} (hn : n = Int32.ofNat N) (hN : N < 12) (hi : i = Int32.ofNat j) (hj : j < 12) : (own_fits i c n = 0) ↔ own_fit N j (decide (c = (32 : Int32))) = false := by
  subst hn hi
  unfold own_fits own_fit
  have b1 := own_lt32 (i := j) (j := N) (by omega) (by omega)
  have b2 : (Int32.ofNat j = (4 : Int32)) ↔ j = 4 := own_inj32 (i := j) (j := 4) (by omega) (by omega)
  have b3 : (Int32.ofNat j = (9 : Int32)) ↔ j = 9 := own_inj32 (i := j) (j := 9) (by omega) (by omega)
  simp only [b1, b2, b3]
  by_cases q1 : j < N <;> by_cases q2 : j = 4 <;> by_cases q3 : j = 9 <;> by_cases q4 : c = (32 : Int32) <;> simp [q1, q2, q3, q4]
theorem own_len (n0 : Int32) : ∃ N : Nat, ((n0 &&& (2147483647 : Int32)) % (12 : Int32)) = Int32.ofNat N ∧ N < 12 := by
  have e1 : (n0 &&& (2147483647 : Int32)).toInt = n0.toInt % 2 ^ 31 := Jvm.Kit.i32_mask n0 _ (k := 31) (by decide) (by decide)
  have c : (12 : Int32).toInt = 12 := rfl
  have e2 : ((n0 &&& (2147483647 : Int32)) % (12 : Int32)).toInt = (n0.toInt % 2 ^ 31) % 12 := by rw [Jvm.Kit.i32_rem_nonneg (by rw [e1]; omega), e1, c]
  refine ⟨((n0.toInt % 2 ^ 31) % 12).toNat, Int32.toInt_inj.mp ?_, by omega⟩
  rw [toInt_of rfl (by omega), e2]; omega
theorem own_exp_eq {n c0 c1 c2 c3 c4 c5 c6 c7 c8 c9 c10 : Int32} {N : Nat} (hn : n = Int32.ofNat N) (hN : N < 12) : (if (if n < (6 : Int32) then (0 : Int32) else (if n = (10 : Int32) then (0 : Int32) else (1 : Int32))) = 0 then (0 : Int32) else (if (own_fits (0 : Int32) c0 n) = 0 then (0 : Int32) else (if (own_fits (1 : Int32) c1 n) = 0 then (0 : Int32) else (if (own_fits (2 : Int32) c2 n) = 0 then (0 : Int32) else (if (own_fits (3 : Int32) c3 n) = 0 then (0 : Int32) else (if (own_fits (4 : Int32) c4 n) = 0 then (0 : Int32) else (if (own_fits (5 : Int32) c5 n) = 0 then (0 : Int32) else (if (own_fits (6 : Int32) c6 n) = 0 then (0 : Int32) else (if (own_fits (7 : Int32) c7 n) = 0 then (0 : Int32) else (if (own_fits (8 : Int32) c8 n) = 0 then (0 : Int32) else (if (own_fits (9 : Int32) c9 n) = 0 then (0 : Int32) else (if (own_fits (10 : Int32) c10 n) = 0 then (0 : Int32) else (1 : Int32))))))))))))) = if own_exp N (decide (c0 = (32 : Int32))) (decide (c1 = (32 : Int32))) (decide (c2 = (32 : Int32))) (decide (c3 = (32 : Int32))) (decide (c4 = (32 : Int32))) (decide (c5 = (32 : Int32))) (decide (c6 = (32 : Int32))) (decide (c7 = (32 : Int32))) (decide (c8 = (32 : Int32))) (decide (c9 = (32 : Int32))) (decide (c10 = (32 : Int32))) = true then (1 : Int32) else (0 : Int32) := by
  have f0 := own_fits_eq (c := c0) (i := (0 : Int32)) (j := 0) hn hN rfl (by decide)
  have f1 := own_fits_eq (c := c1) (i := (1 : Int32)) (j := 1) hn hN rfl (by decide)
  have f2 := own_fits_eq (c := c2) (i := (2 : Int32)) (j := 2) hn hN rfl (by decide)
  have f3 := own_fits_eq (c := c3) (i := (3 : Int32)) (j := 3) hn hN rfl (by decide)
  have f4 := own_fits_eq (c := c4) (i := (4 : Int32)) (j := 4) hn hN rfl (by decide)
  have f5 := own_fits_eq (c := c5) (i := (5 : Int32)) (j := 5) hn hN rfl (by decide)
  have f6 := own_fits_eq (c := c6) (i := (6 : Int32)) (j := 6) hn hN rfl (by decide)
  have f7 := own_fits_eq (c := c7) (i := (7 : Int32)) (j := 7) hn hN rfl (by decide)
  have f8 := own_fits_eq (c := c8) (i := (8 : Int32)) (j := 8) hn hN rfl (by decide)
  have f9 := own_fits_eq (c := c9) (i := (9 : Int32)) (j := 9) hn hN rfl (by decide)
  have f10 := own_fits_eq (c := c10) (i := (10 : Int32)) (j := 10) hn hN rfl (by decide)
  have b1 : (n < (6 : Int32)) ↔ N < 6 := by rw [hn]; exact own_lt32 (j := 6) (by omega) (by omega)
  have b2 : (n = (10 : Int32)) ↔ N = 10 := by rw [hn]; exact own_inj32 (j := 10) (by omega) (by omega)
  unfold own_exp
  simp only [b1, b2, f0, f1, f2, f3, f4, f5, f6, f7, f8, f9, f10]
  generalize own_fit N 0 (decide (c0 = (32 : Int32))) = g0, own_fit N 1 (decide (c1 = (32 : Int32))) = g1, own_fit N 2 (decide (c2 = (32 : Int32))) = g2, own_fit N 3 (decide (c3 = (32 : Int32))) = g3, own_fit N 4 (decide (c4 = (32 : Int32))) = g4, own_fit N 5 (decide (c5 = (32 : Int32))) = g5, own_fit N 6 (decide (c6 = (32 : Int32))) = g6, own_fit N 7 (decide (c7 = (32 : Int32))) = g7, own_fit N 8 (decide (c8 = (32 : Int32))) = g8, own_fit N 9 (decide (c9 = (32 : Int32))) = g9, own_fit N 10 (decide (c10 = (32 : Int32))) = g10
  by_cases q1 : N < 6
  · simp [q1]
  · by_cases q2 : N = 10
    · simp [q2]
    · simp only [q1, q2, if_false, if_true, decide_false, decide_true, Bool.not_false, Bool.not_true, Bool.true_and]
      rw [if_neg (by decide)]
      cases g0 <;> cases g1 <;> cases g2 <;> cases g3 <;> cases g4 <;> cases g5 <;> cases g6 <;> cases g7 <;> cases g8 <;> cases g9 <;> cases g10 <;> rfl
theorem own_law {n c0 c1 c2 c3 c4 c5 c6 c7 c8 c9 c10 : Int32} {B1 B2 B3 B4 B5 B6 B7 B8 B9 B10 B11 L1 L2 L3 L4 L5 L6 L7 L8 L9 L10 L11 : Int64} {M1 M2 M3 M4 M5 M6 M7 M8 M9 M10 M11 : Int32} {N : Nat} (hn : n = Int32.ofNat N) (hN : N < 12) (eB0 : B1 = if 0 < n then (if c0 = (32 : Int32) then ((0 : Int64) + (1 : Int64)) else (0 : Int64)) else (0 : Int64)) (eM0 : M1 = if 0 < n then (if c0 = (32 : Int32) then (nar .boolean ((0 : Int32) ||| (if ((0 : Int64) - ((0 : Int64) / (5 : Int64)) * (5 : Int64)) = (4 : Int64) then (0 : Int32) else (1 : Int32)))) else (0 : Int32)) else (0 : Int32)) (eL0 : L1 = if 0 < n then ((0 : Int64) + (1 : Int64)) else (0 : Int64)) (eB1 : B2 = if (1 : Int32) < n then (if c1 = (32 : Int32) then (B1 + (1 : Int64)) else B1) else B1) (eM1 : M2 = if (1 : Int32) < n then (if c1 = (32 : Int32) then (nar .boolean (M1 ||| (if (L1 - (L1 / (5 : Int64)) * (5 : Int64)) = (4 : Int64) then (0 : Int32) else (1 : Int32)))) else M1) else M1) (eL1 : L2 = if (1 : Int32) < n then (L1 + (1 : Int64)) else L1) (eB2 : B3 = if (2 : Int32) < n then (if c2 = (32 : Int32) then (B2 + (1 : Int64)) else B2) else B2) (eM2 : M3 = if (2 : Int32) < n then (if c2 = (32 : Int32) then (nar .boolean (M2 ||| (if (L2 - (L2 / (5 : Int64)) * (5 : Int64)) = (4 : Int64) then (0 : Int32) else (1 : Int32)))) else M2) else M2) (eL2 : L3 = if (2 : Int32) < n then (L2 + (1 : Int64)) else L2) (eB3 : B4 = if (3 : Int32) < n then (if c3 = (32 : Int32) then (B3 + (1 : Int64)) else B3) else B3) (eM3 : M4 = if (3 : Int32) < n then (if c3 = (32 : Int32) then (nar .boolean (M3 ||| (if (L3 - (L3 / (5 : Int64)) * (5 : Int64)) = (4 : Int64) then (0 : Int32) else (1 : Int32)))) else M3) else M3) (eL3 : L4 = if (3 : Int32) < n then (L3 + (1 : Int64)) else L3) (eB4 : B5 = if (4 : Int32) < n then (if c4 = (32 : Int32) then (B4 + (1 : Int64)) else B4) else B4) (eM4 : M5 = if (4 : Int32) < n then (if c4 = (32 : Int32) then (nar .boolean (M4 ||| (if (L4 - (L4 / (5 : Int64)) * (5 : Int64)) = (4 : Int64) then (0 : Int32) else (1 : Int32)))) else M4) else M4) (eL4 : L5 = if (4 : Int32) < n then (L4 + (1 : Int64)) else L4) (eB5 : B6 = if (5 : Int32) < n then (if c5 = (32 : Int32) then (B5 + (1 : Int64)) else B5) else B5) (eM5 : M6 = if (5 : Int32) < n then (if c5 = (32 : Int32) then (nar .boolean (M5 ||| (if (L5 - (L5 / (5 : Int64)) * (5 : Int64)) = (4 : Int64) then (0 : Int32) else (1 : Int32)))) else M5) else M5) (eL5 : L6 = if (5 : Int32) < n then (L5 + (1 : Int64)) else L5) (eB6 : B7 = if (6 : Int32) < n then (if c6 = (32 : Int32) then (B6 + (1 : Int64)) else B6) else B6) (eM6 : M7 = if (6 : Int32) < n then (if c6 = (32 : Int32) then (nar .boolean (M6 ||| (if (L6 - (L6 / (5 : Int64)) * (5 : Int64)) = (4 : Int64) then (0 : Int32) else (1 : Int32)))) else M6) else M6) (eL6 : L7 = if (6 : Int32) < n then (L6 + (1 : Int64)) else L6) (eB7 : B8 = if (7 : Int32) < n then (if c7 = (32 : Int32) then (B7 + (1 : Int64)) else B7) else B7) (eM7 : M8 = if (7 : Int32) < n then (if c7 = (32 : Int32) then (nar .boolean (M7 ||| (if (L7 - (L7 / (5 : Int64)) * (5 : Int64)) = (4 : Int64) then (0 : Int32) else (1 : Int32)))) else M7) else M7) (eL7 : L8 = if (7 : Int32) < n then (L7 + (1 : Int64)) else L7) (eB8 : B9 = if (8 : Int32) < n then (if c8 = (32 : Int32) then (B8 + (1 : Int64)) else B8) else B8) (eM8 : M9 = if (8 : Int32) < n then (if c8 = (32 : Int32) then (nar .boolean (M8 ||| (if (L8 - (L8 / (5 : Int64)) * (5 : Int64)) = (4 : Int64) then (0 : Int32) else (1 : Int32)))) else M8) else M8) (eL8 : L9 = if (8 : Int32) < n then (L8 + (1 : Int64)) else L8) (eB9 : B10 = if (9 : Int32) < n then (if c9 = (32 : Int32) then (B9 + (1 : Int64)) else B9) else B9) (eM9 : M10 = if (9 : Int32) < n then (if c9 = (32 : Int32) then (nar .boolean (M9 ||| (if (L9 - (L9 / (5 : Int64)) * (5 : Int64)) = (4 : Int64) then (0 : Int32) else (1 : Int32)))) else M9) else M9) (eL9 : L10 = if (9 : Int32) < n then (L9 + (1 : Int64)) else L9) (eB10 : B11 = if (10 : Int32) < n then (if c10 = (32 : Int32) then (B10 + (1 : Int64)) else B10) else B10) (eM10 : M11 = if (10 : Int32) < n then (if c10 = (32 : Int32) then (nar .boolean (M10 ||| (if (L10 - (L10 / (5 : Int64)) * (5 : Int64)) = (4 : Int64) then (0 : Int32) else (1 : Int32)))) else M10) else M10) (eL10 : L11 = if (10 : Int32) < n then (L10 + (1 : Int64)) else L10) : own_paper B11 M11 L11 = (if (if n < (6 : Int32) then (0 : Int32) else (if n = (10 : Int32) then (0 : Int32) else (1 : Int32))) = 0 then (0 : Int32) else (if (own_fits (0 : Int32) c0 n) = 0 then (0 : Int32) else (if (own_fits (1 : Int32) c1 n) = 0 then (0 : Int32) else (if (own_fits (2 : Int32) c2 n) = 0 then (0 : Int32) else (if (own_fits (3 : Int32) c3 n) = 0 then (0 : Int32) else (if (own_fits (4 : Int32) c4 n) = 0 then (0 : Int32) else (if (own_fits (5 : Int32) c5 n) = 0 then (0 : Int32) else (if (own_fits (6 : Int32) c6 n) = 0 then (0 : Int32) else (if (own_fits (7 : Int32) c7 n) = 0 then (0 : Int32) else (if (own_fits (8 : Int32) c8 n) = 0 then (0 : Int32) else (if (own_fits (9 : Int32) c9 n) = 0 then (0 : Int32) else (if (own_fits (10 : Int32) c10 n) = 0 then (0 : Int32) else (1 : Int32))))))))))))) := by
  have I0 : own_Inv (0 : Int64) (0 : Int32) (0 : Int64) (0, false, 0) := ⟨rfl, rfl, rfl⟩
  obtain ⟨I1, p1, q1⟩ := own_stp (c := c0) (j := 0) (i := 0) hn hN rfl (by decide) (Nat.le_refl _) (Nat.le_refl _) I0 eB0 eM0 eL0
  obtain ⟨I2, p2, q2⟩ := own_stp (c := c1) (j := 1) (i := (1 : Int32)) hn hN rfl (by decide) p1 q1 I1 eB1 eM1 eL1
  obtain ⟨I3, p3, q3⟩ := own_stp (c := c2) (j := 2) (i := (2 : Int32)) hn hN rfl (by decide) p2 q2 I2 eB2 eM2 eL2
  obtain ⟨I4, p4, q4⟩ := own_stp (c := c3) (j := 3) (i := (3 : Int32)) hn hN rfl (by decide) p3 q3 I3 eB3 eM3 eL3
  obtain ⟨I5, p5, q5⟩ := own_stp (c := c4) (j := 4) (i := (4 : Int32)) hn hN rfl (by decide) p4 q4 I4 eB4 eM4 eL4
  obtain ⟨I6, p6, q6⟩ := own_stp (c := c5) (j := 5) (i := (5 : Int32)) hn hN rfl (by decide) p5 q5 I5 eB5 eM5 eL5
  obtain ⟨I7, p7, q7⟩ := own_stp (c := c6) (j := 6) (i := (6 : Int32)) hn hN rfl (by decide) p6 q6 I6 eB6 eM6 eL6
  obtain ⟨I8, p8, q8⟩ := own_stp (c := c7) (j := 7) (i := (7 : Int32)) hn hN rfl (by decide) p7 q7 I7 eB7 eM7 eL7
  obtain ⟨I9, p9, q9⟩ := own_stp (c := c8) (j := 8) (i := (8 : Int32)) hn hN rfl (by decide) p8 q8 I8 eB8 eM8 eL8
  obtain ⟨I10, p10, q10⟩ := own_stp (c := c9) (j := 9) (i := (9 : Int32)) hn hN rfl (by decide) p9 q9 I9 eB9 eM9 eL9
  obtain ⟨I11, p11, q11⟩ := own_stp (c := c10) (j := 10) (i := (10 : Int32)) hn hN rfl (by decide) p10 q10 I10 eB10 eM10 eL10
  rw [own_paper_eq I11 (by omega) (by omega), own_exp_eq hn hN]
  have h := own_all ⟨N, hN⟩ (decide (c0 = (32 : Int32))) (decide (c1 = (32 : Int32))) (decide (c2 = (32 : Int32))) (decide (c3 = (32 : Int32))) (decide (c4 = (32 : Int32))) (decide (c5 = (32 : Int32))) (decide (c6 = (32 : Int32))) (decide (c7 = (32 : Int32))) (decide (c8 = (32 : Int32))) (decide (c9 = (32 : Int32))) (decide (c10 = (32 : Int32)))
  unfold own_run at h
  simp only at h
  rw [h]
theorem pd_0 : parseMethodDescriptor "(C)Z" = some ⟨[.char], some .boolean⟩ := by decide +kernel
theorem pd_1 : parseMethodDescriptor "(IIJJ)C" = some ⟨[.int, .int, .long, .long], some .char⟩ := by decide +kernel
theorem pd_2 : parseMethodDescriptor "()V" = some ⟨[], none⟩ := by decide +kernel
theorem pd_3 : parseMethodDescriptor "(C)V" = some ⟨[.char], none⟩ := by decide +kernel
theorem pd_4 : parseMethodDescriptor "()Z" = some ⟨[], some .boolean⟩ := by decide +kernel
theorem pd_5 : parseMethodDescriptor "(ICI)Z" = some ⟨[.int, .char, .int], some .boolean⟩ := by decide +kernel
theorem d0_0 : decode method_2_code 0 = .ok (.iload_n 0, 1) := by decide +kernel
theorem d0_1 : decode method_2_code 1 = .ok (.bipush 8, 2) := by decide +kernel
theorem d0_3 : decode method_2_code 3 = .ok (.if_icmp .ge 12, 3) := by decide +kernel
theorem d0_6 : decode method_2_code 6 = .ok (.lload_n 2, 1) := by decide +kernel
theorem d0_7 : decode method_2_code 7 = .ok (.bipush 8, 2) := by decide +kernel
theorem d0_9 : decode method_2_code 9 = .ok (.iload_n 0, 1) := by decide +kernel
theorem d0_10 : decode method_2_code 10 = .ok (.imul, 1) := by decide +kernel
theorem d0_11 : decode method_2_code 11 = .ok (.lushr, 1) := by decide +kernel
theorem d0_12 : decode method_2_code 12 = .ok (.goto 13, 3) := by decide +kernel
theorem d0_15 : decode method_2_code 15 = .ok (.lload 4, 2) := by decide +kernel
theorem d0_17 : decode method_2_code 17 = .ok (.bipush 8, 2) := by decide +kernel
theorem d0_19 : decode method_2_code 19 = .ok (.iload_n 0, 1) := by decide +kernel
theorem d0_20 : decode method_2_code 20 = .ok (.bipush 8, 2) := by decide +kernel
theorem d0_22 : decode method_2_code 22 = .ok (.isub, 1) := by decide +kernel
theorem d0_23 : decode method_2_code 23 = .ok (.imul, 1) := by decide +kernel
theorem d0_24 : decode method_2_code 24 = .ok (.lushr, 1) := by decide +kernel
theorem d0_25 : decode method_2_code 25 = .ok (.lstore 6, 2) := by decide +kernel
theorem d0_27 : decode method_2_code 27 = .ok (.lload 6, 2) := by decide +kernel
theorem d0_29 : decode method_2_code 29 = .ok (.ldc2_w 7, 3) := by decide +kernel
theorem d0_32 : decode method_2_code 32 = .ok (.land, 1) := by decide +kernel
theorem d0_33 : decode method_2_code 33 = .ok (.l2i, 1) := by decide +kernel
theorem d0_34 : decode method_2_code 34 = .ok (.i2c, 1) := by decide +kernel
theorem d0_35 : decode method_2_code 35 = .ok (.istore 8, 2) := by decide +kernel
theorem d0_37 : decode method_2_code 37 = .ok (.iload_n 1, 1) := by decide +kernel
theorem d0_38 : decode method_2_code 38 = .ok (.iload_n 0, 1) := by decide +kernel
theorem d0_39 : decode method_2_code 39 = .ok (.iushr, 1) := by decide +kernel
theorem d0_40 : decode method_2_code 40 = .ok (.iconst 1, 1) := by decide +kernel
theorem d0_41 : decode method_2_code 41 = .ok (.iand, 1) := by decide +kernel
theorem d0_42 : decode method_2_code 42 = .ok (.ifCond .eq 6, 3) := by decide +kernel
theorem d0_45 : decode method_2_code 45 = .ok (.bipush 32, 2) := by decide +kernel
theorem d0_47 : decode method_2_code 47 = .ok (.ireturn, 1) := by decide +kernel
theorem d0_48 : decode method_2_code 48 = .ok (.iload 8, 2) := by decide +kernel
theorem d0_50 : decode method_2_code 50 = .ok (.ireturn, 1) := by decide +kernel
theorem pn_0 : plainFor (⟨"com/example/llogari/llogari/rules/WrittenFormIsPaperPinLaw", "ch", "(IIJJ)C"⟩ : MethodName) = true := by first | exact plainFor_of_name (by first | (simp [plainName, overriddenIn]; done) | decide +kernel) | decide +kernel
theorem ef_0 (m : MethodId) (x0 : Int32) (x1 : Int32) (x2 : Int64) (x3 : Int64) : entryFrame m #[(.int x0), (.int x1), (.long x2), (.long x3)] 9 = mkF m 0 #[.val (.int x0), .val (.int x1), .val (.long x2), .second, .val (.long x3), .second, .unset, .unset, .unset] [] := by first | (simp [entryFrame, mkF, argsToLocals, Value.category]; done) | rfl
def Q_0 (h0 : Heap) (n0 : Nat) (v : Option Value) (h : Heap) (L : List Loc) : Prop := (∃ z : Int32, v = some (.int z)) ∧ Fr n0 L ∧ h = h0
set_option maxRecDepth 65536 in
set_option maxHeartbeats 40000000 in
theorem rm_ch (l : Launch) (Z : State) (a0 : Array Value) (hw : ∀ d ∈ tables_1, d.before a0 Z = true) (ws : List Jvm.Cond) (i m1 : Int32) (x1 x2 : Int64) (h0 : Heap) (n0 : Nat) (Z0 : n0 ≤ h0.size)  :
    MetFree l (⟨"com/example/llogari/llogari/rules/WrittenFormIsPaperPinLaw", "ch", "(IIJJ)C"⟩ : MethodName) (head1 (Jvm.Cond.code (⟨"com/example/llogari/llogari/rules/WrittenFormIsPaperPinLaw", "ch", "(IIJJ)C"⟩ : MethodName) method_2_code 9 (some .char) :: ws) ({ frames := 0, cells := 0, slots := 0, locals := 0 } : Room)) (fun as_ U => as_ = #[(.int i), (.int m1), (.long x1), (.long x2)] ∧ Z.Warmed39 U.vm ∧ U.heap = h0) (fun _ _ _ _ _ => True) (fun _ U o U' => ∃ v L, o = .returned v ∧ Q_0 h0 n0 v U'.heap L ∧ FrameEnd U o U' L ({ frames := 0, cells := 0, slots := 0, locals := 0 } : Room).cells ({ frames := 0, cells := 0, slots := 0, locals := 0 } : Room).slots) := by
  refine MetFree.of_bodySF pn_0 hisR ?_
  intro p e s m args below meth c s₁ Bd hml0 hP hK
  obtain ⟨rfl, hZ, hh⟩ := hP
  have hx := Bd.exec
  have hby := Bd.bytes
  have hlk := BodyLoose.notSynchronized Bd
  have hml : c.maxLocals = 9 := hml0
  have hown : s.vm.findClass "com/example/llogari/llogari/rules/WrittenFormIsPaperPinLaw" = some m.cls := findClass_of_methodNamed Bd.named
  have hnm := (name_of_methodNamed Bd.named Bd.method).1
  have X0 : Stand p l e ({ frames := 0, cells := 0, slots := 0, locals := 0 } : Room) s m #[(.int i), (.int m1), (.long x1), (.long x2)] below meth c s₁ [] 0 0 := Stand.of_body Bd
  have e0 : s₁.heap = h0 := by rw [← hh, Bd.state]; rfl
  have N0 := Fr.nil n0
  refine own_in (ef_0 m i m1 x1 x2) ?_
  show own_Fin p e below s (Q_0 h0 n0) 0 0 s₁ (mkF m 0 #[.val (.int i), .val (.int m1), .val (.long x1), .second, .val (.long x2), .second, .unset, .unset, .unset] [])
  refine own_step (T' := s₁) (g' := (mkF m 1 #[.val (.int i), .val (.int m1), .val (.long x1), .second, .val (.long x2), .second, .unset, .unset, .unset] [(.int i)])) (fun t_ k_ => XS.iloadN X0.here hx rfl (hb hby d0_0) rfl k_) ?_
  refine own_step (T' := s₁) (g' := (mkF m 3 #[.val (.int i), .val (.int m1), .val (.long x1), .second, .val (.long x2), .second, .unset, .unset, .unset] [(.int (8 : Int32)), (.int i)])) (fun t_ k_ => XT.bipushV X0.here hx rfl (8 : Int32) (hb hby d0_1) (by decide) k_) ?_
  suffices k2 : ∀ v3 : Int64, v3 = (if i < (8 : Int32) then (XT.ushrL x1 ((8 : Int32) * i)) else (XT.ushrL x2 ((8 : Int32) * (i - (8 : Int32))))) → own_Fin p e below s (Q_0 h0 n0) 0 0 s₁ (mkF m 25 #[.val (.int i), .val (.int m1), .val (.long x1), .second, .val (.long x2), .second, .unset, .unset, .unset] [(.long v3)]) by
    by_cases hb1 : i < (8 : Int32)
    · refine own_step (T' := s₁) (g' := (mkF m 6 #[.val (.int i), .val (.int m1), .val (.long x1), .second, .val (.long x2), .second, .unset, .unset, .unset] [])) (fun t_ k_ => XS.icmpNo X0.here hx rfl (hb hby d0_3) rfl (XT.ii_ge_f hb1) k_) ?_
      refine own_step (T' := s₁) (g' := (mkF m 7 #[.val (.int i), .val (.int m1), .val (.long x1), .second, .val (.long x2), .second, .unset, .unset, .unset] [(.long x1)])) (fun t_ k_ => XT.lloadN X0.here hx rfl (hb hby d0_6) rfl k_) ?_
      refine own_step (T' := s₁) (g' := (mkF m 9 #[.val (.int i), .val (.int m1), .val (.long x1), .second, .val (.long x2), .second, .unset, .unset, .unset] [(.int (8 : Int32)), (.long x1)])) (fun t_ k_ => XT.bipushV X0.here hx rfl (8 : Int32) (hb hby d0_7) (by decide) k_) ?_
      refine own_step (T' := s₁) (g' := (mkF m 10 #[.val (.int i), .val (.int m1), .val (.long x1), .second, .val (.long x2), .second, .unset, .unset, .unset] [(.int i), (.int (8 : Int32)), (.long x1)])) (fun t_ k_ => XS.iloadN X0.here hx rfl (hb hby d0_9) rfl k_) ?_
      refine own_step (T' := s₁) (g' := (mkF m 11 #[.val (.int i), .val (.int m1), .val (.long x1), .second, .val (.long x2), .second, .unset, .unset, .unset] [(.int ((8 : Int32) * i)), (.long x1)])) (fun t_ k_ => XS.imul X0.here hx rfl (hb hby d0_10) rfl k_) ?_
      refine own_step (T' := s₁) (g' := (mkF m 12 #[.val (.int i), .val (.int m1), .val (.long x1), .second, .val (.long x2), .second, .unset, .unset, .unset] [(.long (XT.ushrL x1 ((8 : Int32) * i)))])) (fun t_ k_ => XT.lushr X0.here hx rfl (hb hby d0_11) rfl k_) ?_
      refine own_step (T' := s₁) (g' := (mkF m 25 #[.val (.int i), .val (.int m1), .val (.long x1), .second, .val (.long x2), .second, .unset, .unset, .unset] [(.long (XT.ushrL x1 ((8 : Int32) * i)))])) (fun t_ k_ => XS.goto X0.here hx rfl (pc0 := 12) (pc' := 25) rfl (hb hby d0_12) (by decide) (by decide) k_) ?_
      exact k2 _ (if_pos hb1).symm
    · refine own_step (T' := s₁) (g' := (mkF m 15 #[.val (.int i), .val (.int m1), .val (.long x1), .second, .val (.long x2), .second, .unset, .unset, .unset] [])) (fun t_ k_ => XS.icmpYes X0.here hx rfl (pc0 := 3) (pc' := 15) rfl (hb hby d0_3) rfl (XT.ii_ge_t hb1) (by decide) (by decide) k_) ?_
      refine own_step (T' := s₁) (g' := (mkF m 17 #[.val (.int i), .val (.int m1), .val (.long x1), .second, .val (.long x2), .second, .unset, .unset, .unset] [(.long x2)])) (fun t_ k_ => XT.lload X0.here hx rfl (hb hby d0_15) rfl k_) ?_
      refine own_step (T' := s₁) (g' := (mkF m 19 #[.val (.int i), .val (.int m1), .val (.long x1), .second, .val (.long x2), .second, .unset, .unset, .unset] [(.int (8 : Int32)), (.long x2)])) (fun t_ k_ => XT.bipushV X0.here hx rfl (8 : Int32) (hb hby d0_17) (by decide) k_) ?_
      refine own_step (T' := s₁) (g' := (mkF m 20 #[.val (.int i), .val (.int m1), .val (.long x1), .second, .val (.long x2), .second, .unset, .unset, .unset] [(.int i), (.int (8 : Int32)), (.long x2)])) (fun t_ k_ => XS.iloadN X0.here hx rfl (hb hby d0_19) rfl k_) ?_
      refine own_step (T' := s₁) (g' := (mkF m 22 #[.val (.int i), .val (.int m1), .val (.long x1), .second, .val (.long x2), .second, .unset, .unset, .unset] [(.int (8 : Int32)), (.int i), (.int (8 : Int32)), (.long x2)])) (fun t_ k_ => XT.bipushV X0.here hx rfl (8 : Int32) (hb hby d0_20) (by decide) k_) ?_
      refine own_step (T' := s₁) (g' := (mkF m 23 #[.val (.int i), .val (.int m1), .val (.long x1), .second, .val (.long x2), .second, .unset, .unset, .unset] [(.int (i - (8 : Int32))), (.int (8 : Int32)), (.long x2)])) (fun t_ k_ => XS.isub X0.here hx rfl (hb hby d0_22) rfl k_) ?_
      refine own_step (T' := s₁) (g' := (mkF m 24 #[.val (.int i), .val (.int m1), .val (.long x1), .second, .val (.long x2), .second, .unset, .unset, .unset] [(.int ((8 : Int32) * (i - (8 : Int32)))), (.long x2)])) (fun t_ k_ => XS.imul X0.here hx rfl (hb hby d0_23) rfl k_) ?_
      refine own_step (T' := s₁) (g' := (mkF m 25 #[.val (.int i), .val (.int m1), .val (.long x1), .second, .val (.long x2), .second, .unset, .unset, .unset] [(.long (XT.ushrL x2 ((8 : Int32) * (i - (8 : Int32)))))])) (fun t_ k_ => XT.lushr X0.here hx rfl (hb hby d0_24) rfl k_) ?_
      exact k2 _ (if_neg hb1).symm
  intro v3 hv3
  refine own_step (T' := s₁) (g' := (mkF m 27 #[.val (.int i), .val (.int m1), .val (.long x1), .second, .val (.long x2), .second, .val (.long v3), .second, .unset] [])) (fun t_ k_ => XT.lstore X0.here hx rfl (hb hby d0_25) rfl (l' := #[.val (.int i), .val (.int m1), .val (.long x1), .second, .val (.long x2), .second, .val (.long v3), .second, .unset]) rfl k_) ?_
  refine own_step (T' := s₁) (g' := (mkF m 29 #[.val (.int i), .val (.int m1), .val (.long x1), .second, .val (.long x2), .second, .val (.long v3), .second, .unset] [(.long v3)])) (fun t_ k_ => XT.lload X0.here hx rfl (hb hby d0_27) rfl k_) ?_
  refine own_step (T' := s₁) (g' := (mkF m 32 #[.val (.int i), .val (.int m1), .val (.long x1), .second, .val (.long x2), .second, .val (.long v3), .second, .unset] [(.long (255 : Int64)), (.long v3)])) (fun t_ k_ => X0.ldc2J hx hown (mvT hZ (hw _ (List.mem_of_getElem? (i := 6) rfl))) rfl (hb hby d0_29) k_) ?_
  refine own_step (T' := s₁) (g' := (mkF m 33 #[.val (.int i), .val (.int m1), .val (.long x1), .second, .val (.long x2), .second, .val (.long v3), .second, .unset] [(.long (v3 &&& (255 : Int64)))])) (fun t_ k_ => XT.land X0.here hx rfl (hb hby d0_32) rfl k_) ?_
  refine own_step (T' := s₁) (g' := (mkF m 34 #[.val (.int i), .val (.int m1), .val (.long x1), .second, .val (.long x2), .second, .val (.long v3), .second, .unset] [(.int (((v3 &&& (255 : Int64))).toInt32))])) (fun t_ k_ => XT.l2i X0.here hx rfl (hb hby d0_33) rfl k_) ?_
  refine own_step (T' := s₁) (g' := (mkF m 35 #[.val (.int i), .val (.int m1), .val (.long x1), .second, .val (.long x2), .second, .val (.long v3), .second, .unset] [(.int (((((v3 &&& (255 : Int64))).toInt32)).toUInt32.toUInt16.toUInt32.toInt32))])) (fun t_ k_ => XT.i2c X0.here hx rfl (hb hby d0_34) rfl k_) ?_
  refine own_step (T' := s₁) (g' := (mkF m 37 #[.val (.int i), .val (.int m1), .val (.long x1), .second, .val (.long x2), .second, .val (.long v3), .second, .val (.int (((((v3 &&& (255 : Int64))).toInt32)).toUInt32.toUInt16.toUInt32.toInt32))] [])) (fun t_ k_ => XS.istore X0.here hx rfl (hb hby d0_35) rfl (l' := #[.val (.int i), .val (.int m1), .val (.long x1), .second, .val (.long x2), .second, .val (.long v3), .second, .val (.int (((((v3 &&& (255 : Int64))).toInt32)).toUInt32.toUInt16.toUInt32.toInt32))]) rfl k_) ?_
  refine own_step (T' := s₁) (g' := (mkF m 38 #[.val (.int i), .val (.int m1), .val (.long x1), .second, .val (.long x2), .second, .val (.long v3), .second, .val (.int (((((v3 &&& (255 : Int64))).toInt32)).toUInt32.toUInt16.toUInt32.toInt32))] [(.int m1)])) (fun t_ k_ => XS.iloadN X0.here hx rfl (hb hby d0_37) rfl k_) ?_
  refine own_step (T' := s₁) (g' := (mkF m 39 #[.val (.int i), .val (.int m1), .val (.long x1), .second, .val (.long x2), .second, .val (.long v3), .second, .val (.int (((((v3 &&& (255 : Int64))).toInt32)).toUInt32.toUInt16.toUInt32.toInt32))] [(.int i), (.int m1)])) (fun t_ k_ => XS.iloadN X0.here hx rfl (hb hby d0_38) rfl k_) ?_
  refine own_step (T' := s₁) (g' := (mkF m 40 #[.val (.int i), .val (.int m1), .val (.long x1), .second, .val (.long x2), .second, .val (.long v3), .second, .val (.int (((((v3 &&& (255 : Int64))).toInt32)).toUInt32.toUInt16.toUInt32.toInt32))] [(.int (XT.ushr m1 i))])) (fun t_ k_ => XT.iushr X0.here hx rfl (hb hby d0_39) rfl k_) ?_
  refine own_step (T' := s₁) (g' := (mkF m 41 #[.val (.int i), .val (.int m1), .val (.long x1), .second, .val (.long x2), .second, .val (.long v3), .second, .val (.int (((((v3 &&& (255 : Int64))).toInt32)).toUInt32.toUInt16.toUInt32.toInt32))] [(.int (1 : Int32)), (.int (XT.ushr m1 i))])) (fun t_ k_ => XT.iconstV X0.here hx rfl (1 : Int32) (hb hby d0_40) (by decide) k_) ?_
  refine own_step (T' := s₁) (g' := (mkF m 42 #[.val (.int i), .val (.int m1), .val (.long x1), .second, .val (.long x2), .second, .val (.long v3), .second, .val (.int (((((v3 &&& (255 : Int64))).toInt32)).toUInt32.toUInt16.toUInt32.toInt32))] [(.int ((XT.ushr m1 i) &&& (1 : Int32)))])) (fun t_ k_ => XS.iand X0.here hx rfl (hb hby d0_41) rfl k_) ?_
  by_cases hb4 : ((XT.ushr m1 i) &&& (1 : Int32)) = 0
  · refine own_step (T' := s₁) (g' := (mkF m 48 #[.val (.int i), .val (.int m1), .val (.long x1), .second, .val (.long x2), .second, .val (.long v3), .second, .val (.int (((((v3 &&& (255 : Int64))).toInt32)).toUInt32.toUInt16.toUInt32.toInt32))] [])) (fun t_ k_ => XS.ifYes X0.here hx rfl (pc0 := 42) (pc' := 48) rfl (hb hby d0_42) rfl (XT.i0_eq_t hb4) (by decide) (by decide) k_) ?_
    refine own_step (T' := s₁) (g' := (mkF m 50 #[.val (.int i), .val (.int m1), .val (.long x1), .second, .val (.long x2), .second, .val (.long v3), .second, .val (.int (((((v3 &&& (255 : Int64))).toInt32)).toUInt32.toUInt16.toUInt32.toInt32))] [(.int (((((v3 &&& (255 : Int64))).toInt32)).toUInt32.toUInt16.toUInt32.toInt32))])) (fun t_ k_ => XS.iload X0.here hx rfl (hb hby d0_48) rfl k_) ?_
    exact own_retN X0 hx hlk (t := .char) Bd.returns (by simp) (hb hby d0_50) (by rw [e0]; exact ⟨⟨_, rfl⟩, N0, rfl⟩) (by decide) (by decide)
  · refine own_step (T' := s₁) (g' := (mkF m 45 #[.val (.int i), .val (.int m1), .val (.long x1), .second, .val (.long x2), .second, .val (.long v3), .second, .val (.int (((((v3 &&& (255 : Int64))).toInt32)).toUInt32.toUInt16.toUInt32.toInt32))] [])) (fun t_ k_ => XS.ifNo X0.here hx rfl (hb hby d0_42) rfl (XT.i0_eq_f hb4) k_) ?_
    refine own_step (T' := s₁) (g' := (mkF m 47 #[.val (.int i), .val (.int m1), .val (.long x1), .second, .val (.long x2), .second, .val (.long v3), .second, .val (.int (((((v3 &&& (255 : Int64))).toInt32)).toUInt32.toUInt16.toUInt32.toInt32))] [(.int (32 : Int32))])) (fun t_ k_ => XT.bipushV X0.here hx rfl (32 : Int32) (hb hby d0_45) (by decide) k_) ?_
    exact own_retN X0 hx hlk (t := .char) Bd.returns (by simp) (hb hby d0_47) (by rw [e0]; exact ⟨⟨_, rfl⟩, N0, rfl⟩) (by decide) (by decide)
theorem d1_0 : decode prog_28_method_1_code 0 = .ok (.aload_n 0, 1) := by decide +kernel
theorem d1_1 : decode prog_28_method_1_code 1 = .ok (.invokespecial 3, 3) := by decide +kernel
theorem d1_4 : decode prog_28_method_1_code 4 = .ok (.return_, 1) := by decide +kernel
theorem pn_1 : plainFor (⟨"com/example/llogari/llogari/rules/WrittenForm", "<init>", "()V"⟩ : MethodName) = true := by first | exact plainFor_of_name (by first | (simp [plainName, overriddenIn]; done) | decide +kernel) | decide +kernel
theorem ef_1 (m : MethodId) (x0 : Addr) : entryFrame m #[(.ref x0)] 1 = mkF m 0 #[.val (.ref x0)] [] := by first | (simp [entryFrame, mkF, argsToLocals, Value.category]; done) | rfl
def Q_1 (h0 : Heap) (n0 : Nat) (v : Option Value) (h : Heap) (L : List Loc) : Prop := v = none ∧ Fr n0 L ∧ h = h0
set_option maxRecDepth 65536 in
set_option maxHeartbeats 40000000 in
theorem rm_init (l : Launch) (Z : State) (a0 : Array Value) (hw : ∀ d ∈ tables_1, d.before a0 Z = true) (ws : List Jvm.Cond) (a : Addr) (h0 : Heap) (n0 : Nat) (Z0 : n0 ≤ h0.size)  :
    MetFree l (⟨"com/example/llogari/llogari/rules/WrittenForm", "<init>", "()V"⟩ : MethodName) (head1 (Jvm.Cond.code (⟨"com/example/llogari/llogari/rules/WrittenForm", "<init>", "()V"⟩ : MethodName) prog_28_method_1_code 1 none :: ws) ({ frames := 1, cells := 0, slots := 0, locals := 12 } : Room)) (fun as_ U => as_ = #[(.ref a)] ∧ Z.Warmed39 U.vm ∧ U.heap = h0) (fun _ _ _ _ _ => True) (fun _ U o U' => ∃ v L, o = .returned v ∧ Q_1 h0 n0 v U'.heap L ∧ FrameEnd U o U' L ({ frames := 1, cells := 0, slots := 0, locals := 12 } : Room).cells ({ frames := 1, cells := 0, slots := 0, locals := 12 } : Room).slots) := by
  refine MetFree.of_bodySF pn_1 hisR ?_
  intro p e s m args below meth c s₁ Bd hml0 hP hK
  obtain ⟨rfl, hZ, hh⟩ := hP
  have hx := Bd.exec
  have hby := Bd.bytes
  have hlk := BodyLoose.notSynchronized Bd
  have hml : c.maxLocals = 1 := hml0
  have hown : s.vm.findClass "com/example/llogari/llogari/rules/WrittenForm" = some m.cls := findClass_of_methodNamed Bd.named
  have hnm := (name_of_methodNamed Bd.named Bd.method).1
  have X0 : Stand p l e ({ frames := 1, cells := 0, slots := 0, locals := 12 } : Room) s m #[(.ref a)] below meth c s₁ [] 0 0 := Stand.of_body Bd
  have e0 : s₁.heap = h0 := by rw [← hh, Bd.state]; rfl
  have N0 := Fr.nil n0
  refine own_in (ef_1 m a) ?_
  show own_Fin p e below s (Q_1 h0 n0) 0 0 s₁ (mkF m 0 #[.val (.ref a)] [])
  refine own_step (T' := s₁) (g' := (mkF m 1 #[.val (.ref a)] [(.ref a)])) (fun t_ k_ => XS.aloadN X0.here hx rfl (hb hby d1_0) rfl rfl k_) ?_
  obtain ⟨T1, X2, e3, st4⟩ := initO X0 hx hZ hown (hw _ (List.mem_of_getElem? (i := 13) rfl)) (hw _ (List.mem_of_getElem? (i := 14) rfl)) (hw _ (List.mem_of_getElem? (i := 15) rfl)) e0 (g := (mkF m 1 #[.val (.ref a)] [(.ref a)])) rfl (by rw [hml]; rfl) rfl (hb hby d1_1) (by decide) (W := 0) (by show 2 * 0 + _ ≤ _; exact Nat.le_of_eq rfl) (by decide)
  refine own_step (T' := T1) (g' := (mkF m 4 #[.val (.ref a)] [])) st4 ?_
  exact own_ret X2 hx hlk Bd.returns (hb hby d1_4) (by rw [e3]; exact ⟨rfl, N0, rfl⟩) (by decide) (by decide)
theorem d5_0 : decode prog_28_method_2_code 0 = .ok (.iload_n 0, 1) := by decide +kernel
theorem d5_1 : decode prog_28_method_2_code 1 = .ok (.bipush 32, 2) := by decide +kernel
theorem d5_3 : decode prog_28_method_2_code 3 = .ok (.if_icmp .ne 7, 3) := by decide +kernel
theorem d5_6 : decode prog_28_method_2_code 6 = .ok (.iconst 1, 1) := by decide +kernel
theorem d5_7 : decode prog_28_method_2_code 7 = .ok (.goto 4, 3) := by decide +kernel
theorem d5_10 : decode prog_28_method_2_code 10 = .ok (.iconst 0, 1) := by decide +kernel
theorem d5_11 : decode prog_28_method_2_code 11 = .ok (.ireturn, 1) := by decide +kernel
theorem pn_5 : plainFor (⟨"com/example/llogari/llogari/rules/WrittenForm", "isBlank", "(C)Z"⟩ : MethodName) = true := by first | exact plainFor_of_name (by first | (simp [plainName, overriddenIn]; done) | decide +kernel) | decide +kernel
theorem ef_5 (m : MethodId) (x0 : Int32) : entryFrame m #[(.int x0)] 1 = mkF m 0 #[.val (.int x0)] [] := by first | (simp [entryFrame, mkF, argsToLocals, Value.category]; done) | rfl
def Q_5 (x : Int32) (h0 : Heap) (n0 : Nat) (v : Option Value) (h : Heap) (L : List Loc) : Prop := v = some (.int (if x = (32 : Int32) then (1 : Int32) else (0 : Int32))) ∧ Fr n0 L ∧ h = h0
set_option maxRecDepth 65536 in
set_option maxHeartbeats 40000000 in
theorem rm_blank (l : Launch) (Z : State) (a0 : Array Value) (hw : ∀ d ∈ tables_1, d.before a0 Z = true) (ws : List Jvm.Cond) (x : Int32) (h0 : Heap) (n0 : Nat) (Z0 : n0 ≤ h0.size)  :
    MetFree l (⟨"com/example/llogari/llogari/rules/WrittenForm", "isBlank", "(C)Z"⟩ : MethodName) (head1 (Jvm.Cond.code (⟨"com/example/llogari/llogari/rules/WrittenForm", "isBlank", "(C)Z"⟩ : MethodName) prog_28_method_2_code 1 (some .boolean) :: ws) ({ frames := 0, cells := 0, slots := 0, locals := 0 } : Room)) (fun as_ U => as_ = #[(.int x)] ∧ Z.Warmed39 U.vm ∧ U.heap = h0) (fun _ _ _ _ _ => True) (fun _ U o U' => ∃ v L, o = .returned v ∧ Q_5 x h0 n0 v U'.heap L ∧ FrameEnd U o U' L ({ frames := 0, cells := 0, slots := 0, locals := 0 } : Room).cells ({ frames := 0, cells := 0, slots := 0, locals := 0 } : Room).slots) := by
  refine MetFree.of_bodySF pn_5 hisR ?_
  intro p e s m args below meth c s₁ Bd hml0 hP hK
  obtain ⟨rfl, hZ, hh⟩ := hP
  have hx := Bd.exec
  have hby := Bd.bytes
  have hlk := BodyLoose.notSynchronized Bd
  have hml : c.maxLocals = 1 := hml0
  have hown : s.vm.findClass "com/example/llogari/llogari/rules/WrittenForm" = some m.cls := findClass_of_methodNamed Bd.named
  have hnm := (name_of_methodNamed Bd.named Bd.method).1
  have X0 : Stand p l e ({ frames := 0, cells := 0, slots := 0, locals := 0 } : Room) s m #[(.int x)] below meth c s₁ [] 0 0 := Stand.of_body Bd
  have e0 : s₁.heap = h0 := by rw [← hh, Bd.state]; rfl
  have N0 := Fr.nil n0
  refine own_in (ef_5 m x) ?_
  show own_Fin p e below s (Q_5 x h0 n0) 0 0 s₁ (mkF m 0 #[.val (.int x)] [])
  refine own_step (T' := s₁) (g' := (mkF m 1 #[.val (.int x)] [(.int x)])) (fun t_ k_ => XS.iloadN X0.here hx rfl (hb hby d5_0) rfl k_) ?_
  refine own_step (T' := s₁) (g' := (mkF m 3 #[.val (.int x)] [(.int (32 : Int32)), (.int x)])) (fun t_ k_ => XT.bipushV X0.here hx rfl (32 : Int32) (hb hby d5_1) (by decide) k_) ?_
  suffices k2 : ∀ v3 : Int32, v3 = (if x = (32 : Int32) then (1 : Int32) else (0 : Int32)) → own_Fin p e below s (Q_5 x h0 n0) 0 0 s₁ (mkF m 11 #[.val (.int x)] [(.int v3)]) by
    by_cases hb1 : x = (32 : Int32)
    · refine own_step (T' := s₁) (g' := (mkF m 6 #[.val (.int x)] [])) (fun t_ k_ => XS.icmpNo X0.here hx rfl (hb hby d5_3) rfl (XT.ii_ne_f hb1) k_) ?_
      refine own_step (T' := s₁) (g' := (mkF m 7 #[.val (.int x)] [(.int (1 : Int32))])) (fun t_ k_ => XT.iconstV X0.here hx rfl (1 : Int32) (hb hby d5_6) (by decide) k_) ?_
      refine own_step (T' := s₁) (g' := (mkF m 11 #[.val (.int x)] [(.int (1 : Int32))])) (fun t_ k_ => XS.goto X0.here hx rfl (pc0 := 7) (pc' := 11) rfl (hb hby d5_7) (by decide) (by decide) k_) ?_
      exact k2 _ (if_pos hb1).symm
    · refine own_step (T' := s₁) (g' := (mkF m 10 #[.val (.int x)] [])) (fun t_ k_ => XS.icmpYes X0.here hx rfl (pc0 := 3) (pc' := 10) rfl (hb hby d5_3) rfl (XT.ii_ne_t hb1) (by decide) (by decide) k_) ?_
      refine own_step (T' := s₁) (g' := (mkF m 11 #[.val (.int x)] [(.int (0 : Int32))])) (fun t_ k_ => XT.iconstV X0.here hx rfl (0 : Int32) (hb hby d5_10) (by decide) k_) ?_
      exact k2 _ (if_neg hb1).symm
  intro v3 hv3
  exact own_retN X0 hx hlk (t := .boolean) Bd.returns (by simp) (hb hby d5_11) (by rw [e0]; exact ⟨by rw [hv3, own_nar_ite (by decide) (by decide)], N0, rfl⟩) (by decide) (by decide)
theorem d4_0 : decode prog_28_method_3_code 0 = .ok (.iload_n 1, 1) := by decide +kernel
theorem d4_1 : decode prog_28_method_3_code 1 = .ok (.invokestatic 9, 3) := by decide +kernel
theorem d4_4 : decode prog_28_method_3_code 4 = .ok (.ifCond .eq 42, 3) := by decide +kernel
theorem d4_7 : decode prog_28_method_3_code 7 = .ok (.aload_n 0, 1) := by decide +kernel
theorem d4_8 : decode prog_28_method_3_code 8 = .ok (.dup, 1) := by decide +kernel
theorem d4_9 : decode prog_28_method_3_code 9 = .ok (.getfield 13, 3) := by decide +kernel
theorem d4_12 : decode prog_28_method_3_code 12 = .ok (.lconst 1, 1) := by decide +kernel
theorem d4_13 : decode prog_28_method_3_code 13 = .ok (.ladd, 1) := by decide +kernel
theorem d4_14 : decode prog_28_method_3_code 14 = .ok (.putfield 13, 3) := by decide +kernel
theorem d4_17 : decode prog_28_method_3_code 17 = .ok (.aload_n 0, 1) := by decide +kernel
theorem d4_18 : decode prog_28_method_3_code 18 = .ok (.dup, 1) := by decide +kernel
theorem d4_19 : decode prog_28_method_3_code 19 = .ok (.getfield 17, 3) := by decide +kernel
theorem d4_22 : decode prog_28_method_3_code 22 = .ok (.aload_n 0, 1) := by decide +kernel
theorem d4_23 : decode prog_28_method_3_code 23 = .ok (.getfield 21, 3) := by decide +kernel
theorem d4_26 : decode prog_28_method_3_code 26 = .ok (.ldc2_w 24, 3) := by decide +kernel
theorem d4_29 : decode prog_28_method_3_code 29 = .ok (.lrem, 1) := by decide +kernel
theorem d4_30 : decode prog_28_method_3_code 30 = .ok (.ldc2_w 26, 3) := by decide +kernel
theorem d4_33 : decode prog_28_method_3_code 33 = .ok (.lcmp, 1) := by decide +kernel
theorem d4_34 : decode prog_28_method_3_code 34 = .ok (.ifCond .eq 7, 3) := by decide +kernel
theorem d4_37 : decode prog_28_method_3_code 37 = .ok (.iconst 1, 1) := by decide +kernel
theorem d4_38 : decode prog_28_method_3_code 38 = .ok (.goto 4, 3) := by decide +kernel
theorem d4_41 : decode prog_28_method_3_code 41 = .ok (.iconst 0, 1) := by decide +kernel
theorem d4_42 : decode prog_28_method_3_code 42 = .ok (.ior, 1) := by decide +kernel
theorem d4_43 : decode prog_28_method_3_code 43 = .ok (.putfield 17, 3) := by decide +kernel
theorem d4_46 : decode prog_28_method_3_code 46 = .ok (.aload_n 0, 1) := by decide +kernel
theorem d4_47 : decode prog_28_method_3_code 47 = .ok (.dup, 1) := by decide +kernel
theorem d4_48 : decode prog_28_method_3_code 48 = .ok (.getfield 21, 3) := by decide +kernel
theorem d4_51 : decode prog_28_method_3_code 51 = .ok (.lconst 1, 1) := by decide +kernel
theorem d4_52 : decode prog_28_method_3_code 52 = .ok (.ladd, 1) := by decide +kernel
theorem d4_53 : decode prog_28_method_3_code 53 = .ok (.putfield 21, 3) := by decide +kernel
theorem d4_56 : decode prog_28_method_3_code 56 = .ok (.return_, 1) := by decide +kernel
theorem pn_4 : plainFor (⟨"com/example/llogari/llogari/rules/WrittenForm", "append", "(C)V"⟩ : MethodName) = true := by first | exact plainFor_of_name (by first | (simp [plainName, overriddenIn]; done) | decide +kernel) | decide +kernel
theorem ef_4 (m : MethodId) (x0 : Addr) (x1 : Int32) : entryFrame m #[(.ref x0), (.int x1)] 2 = mkF m 0 #[.val (.ref x0), .val (.int x1)] [] := by first | (simp [entryFrame, mkF, argsToLocals, Value.category]; done) | rfl
def Q_4 (Z : State) (a : Addr) (x : Int32) (f_blanks : Int64) (f_misplaced : Int32) (f_length : Int64) (h0 : Heap) (n0 : Nat) (v : Option Value) (h : Heap) (L : List Loc) : Prop := v = none ∧ Fr n0 L ∧ Keep h0 h [a] ∧ Fld Z h a "com/example/llogari/llogari/rules/WrittenForm" "blanks" "J" (.long (if x = (32 : Int32) then (f_blanks + (1 : Int64)) else f_blanks)) ∧ Fld Z h a "com/example/llogari/llogari/rules/WrittenForm" "misplaced" "Z" (.int (if x = (32 : Int32) then (nar .boolean (f_misplaced ||| (if (f_length - (f_length / (5 : Int64)) * (5 : Int64)) = (4 : Int64) then (0 : Int32) else (1 : Int32)))) else f_misplaced)) ∧ Fld Z h a "com/example/llogari/llogari/rules/WrittenForm" "length" "J" (.long (f_length + (1 : Int64)))
set_option maxRecDepth 65536 in
set_option maxHeartbeats 40000000 in
theorem rm_app (l : Launch) (Z : State) (a0 : Array Value) (hw : ∀ d ∈ tables_1, d.before a0 Z = true) (ws : List Jvm.Cond) (a : Addr) (x : Int32) (f_blanks : Int64) (f_misplaced : Int32) (f_length : Int64) (h0 : Heap) (n0 : Nat) (Z0 : n0 ≤ h0.size) (E_a : Exa Z h0 a "com/example/llogari/llogari/rules/WrittenForm") (F_blanks : Fld Z h0 a "com/example/llogari/llogari/rules/WrittenForm" "blanks" "J" (.long f_blanks)) (F_misplaced : Fld Z h0 a "com/example/llogari/llogari/rules/WrittenForm" "misplaced" "Z" (.int f_misplaced)) (F_length : Fld Z h0 a "com/example/llogari/llogari/rules/WrittenForm" "length" "J" (.long f_length)) (ga : n0 ≤ a) :
    MetFree l (⟨"com/example/llogari/llogari/rules/WrittenForm", "append", "(C)V"⟩ : MethodName) (head1 (Jvm.Cond.code (⟨"com/example/llogari/llogari/rules/WrittenForm", "append", "(C)V"⟩ : MethodName) prog_28_method_3_code 2 none :: ws) ({ frames := 1, cells := 0, slots := 0, locals := 12 } : Room)) (fun as_ U => as_ = #[(.ref a), (.int x)] ∧ Z.Warmed39 U.vm ∧ U.heap = h0) (fun _ _ _ _ _ => True) (fun _ U o U' => ∃ v L, o = .returned v ∧ Q_4 Z a x f_blanks f_misplaced f_length h0 n0 v U'.heap L ∧ FrameEnd U o U' L ({ frames := 1, cells := 0, slots := 0, locals := 12 } : Room).cells ({ frames := 1, cells := 0, slots := 0, locals := 12 } : Room).slots) := by
  refine MetFree.of_bodySF pn_4 hisR ?_
  intro p e s m args below meth c s₁ Bd hml0 hP hK
  obtain ⟨rfl, hZ, hh⟩ := hP
  have hx := Bd.exec
  have hby := Bd.bytes
  have hlk := BodyLoose.notSynchronized Bd
  have hml : c.maxLocals = 2 := hml0
  have hown : s.vm.findClass "com/example/llogari/llogari/rules/WrittenForm" = some m.cls := findClass_of_methodNamed Bd.named
  have hnm := (name_of_methodNamed Bd.named Bd.method).1
  have X0 : Stand p l e ({ frames := 1, cells := 0, slots := 0, locals := 12 } : Room) s m #[(.ref a), (.int x)] below meth c s₁ [] 0 0 := Stand.of_body Bd
  have e0 : s₁.heap = h0 := by rw [← hh, Bd.state]; rfl
  have N0 := Fr.nil n0
  refine own_in (ef_4 m a x) ?_
  show own_Fin p e below s (Q_4 Z a x f_blanks f_misplaced f_length h0 n0) 0 0 s₁ (mkF m 0 #[.val (.ref a), .val (.int x)] [])
  refine own_step (T' := s₁) (g' := (mkF m 1 #[.val (.ref a), .val (.int x)] [(.int x)])) (fun t_ k_ => XS.iloadN X0.here hx rfl (hb hby d4_0) rfl k_) ?_
  obtain ⟨_, _, ⟨Tc1, Lc1, kc1, nc1⟩, -, Xc1, ⟨Lcc1, hQc1, lc1, yc1, zc1⟩, stc1⟩ := Jvm.LawKit.callS X0 hx (y := (⟨"com/example/llogari/llogari/rules/WrittenForm", "isBlank", "(C)Z"⟩ : MethodName)) hown (mvT hZ (hw _ (List.mem_of_getElem? (i := 28) rfl))) (mvT hZ (hw _ (List.mem_of_getElem? (i := 29) rfl))) (mvT hZ (hw _ (List.mem_of_getElem? (i := 9) rfl))) (mvT hZ (hw _ (List.mem_of_getElem? (i := 30) rfl))) (by decide) (backOf (W := 0) (rm_blank l Z a0 hw [] x h0 n0 Z0) hZ (hw _ (List.mem_of_getElem? (i := 30) rfl)) (hw _ (List.mem_of_getElem? (i := 9) rfl)) (by decide) (by decide)) (g := (mkF m 1 #[.val (.ref a), .val (.int x)] [(.int x)])) rfl (by rw [hml]; rfl) (argsL := [(.int x)]) (rest := []) (lenOf pd_0 rfl) rfl (by show 2 * 0 + _ ≤ _; exact Nat.le_of_eq rfl) (hb hby d4_1) (fun _ _ => ⟨rfl, e0, (by decide : 0 + 0 ≤ _), (by decide : 0 + 0 ≤ _)⟩)
  dsimp only [Pt.U, Pt.locs, Pt.cells, Pt.slots] at Xc1 lc1 yc1 zc1 stc1 hQc1
  subst lc1 yc1 zc1
  obtain ⟨rfl, N2, e3⟩ := hQc1
  have N4 := Fr.app N0 N2
  refine own_step (T' := Tc1) (g' := (mkF m 4 #[.val (.ref a), .val (.int x)] [(.int (if x = (32 : Int32) then (1 : Int32) else (0 : Int32)))])) stc1 ?_
  by_cases hb5 : (if x = (32 : Int32) then (1 : Int32) else (0 : Int32)) = 0
  · refine own_step (T' := Tc1) (g' := (mkF m 46 #[.val (.ref a), .val (.int x)] [])) (fun t_ k_ => XS.ifYes Xc1.here hx rfl (pc0 := 4) (pc' := 46) rfl (hb hby d4_4) rfl (XT.i0_eq_t hb5) (by decide) (by decide) k_) ?_
    have hc : ¬ (x = (32 : Int32)) := own_b0 hb5
    refine own_step (T' := Tc1) (g' := (mkF m 47 #[.val (.ref a), .val (.int x)] [(.ref a)])) (fun t_ k_ => XS.aloadN Xc1.here hx rfl (hb hby d4_46) rfl rfl k_) ?_
    refine own_step (T' := Tc1) (g' := (mkF m 48 #[.val (.ref a), .val (.int x)] [(.ref a), (.ref a)])) (fun t_ k_ => XS.dup Xc1.here hx rfl (hb hby d4_47) rfl rfl k_) ?_
    obtain ⟨T6, X7, e8, st9⟩ := getF Xc1 hx hZ hown (host := "") (Or.inl (hw _ (List.mem_of_getElem? (i := 33) rfl))) Via.refl e3 F_length (g := (mkF m 48 #[.val (.ref a), .val (.int x)] [(.ref a), (.ref a)])) rfl rfl (hb hby d4_48)
    refine own_step (T' := T6) (g' := (mkF m 51 #[.val (.ref a), .val (.int x)] [(.long f_length), (.ref a)])) st9 ?_
    refine own_step (T' := T6) (g' := (mkF m 52 #[.val (.ref a), .val (.int x)] [(.long (1 : Int64)), (.long f_length), (.ref a)])) (fun t_ k_ => XT.lconstV X7.here hx rfl (1 : Int64) (hb hby d4_51) (by decide) k_) ?_
    refine own_step (T' := T6) (g' := (mkF m 53 #[.val (.ref a), .val (.int x)] [(.long (f_length + (1 : Int64))), (.ref a)])) (fun t_ k_ => XT.ladd X7.here hx rfl (hb hby d4_52) rfl k_) ?_
    obtain ⟨T10, h11, X12, e13, W14, st15⟩ := putF X7 hx hZ hown (host := "") (Or.inl (hw _ (List.mem_of_getElem? (i := 33) rfl))) Via.refl e8 F_length E_a (Or.inl (hw _ (List.mem_of_getElem? (i := 34) rfl))) (hw _ (List.mem_of_getElem? (i := 8) rfl)) (ty := .long) (by decide) rfl rfl (g := (mkF m 53 #[.val (.ref a), .val (.int x)] [(.long (f_length + (1 : Int64))), (.ref a)])) rfl rfl (hb hby d4_53)
    have N16 := Fr.snoc X12 N4 ga
    have F17 : n0 ≤ h11.size := Nat.le_trans Z0 (Keep.of_wr W14).1
    have F18 : Exa Z h11 a "com/example/llogari/llogari/rules/WrittenForm" := E_a.wr W14
    have F19 : Fld Z h11 a "com/example/llogari/llogari/rules/WrittenForm" "blanks" "J" (.long f_blanks) := F_blanks.other W14 (Or.inr (slot_ne (C := "com/example/llogari/llogari/rules/WrittenForm") (Or.inl (hw _ (List.mem_of_getElem? (i := 22) rfl))) (Or.inl (hw _ (List.mem_of_getElem? (i := 34) rfl))) (by decide) (t := .long) (by decide) (t' := .long) (by decide)))
    have F20 : Fld Z h11 a "com/example/llogari/llogari/rules/WrittenForm" "misplaced" "Z" (.int f_misplaced) := F_misplaced.other W14 (Or.inr (slot_ne (C := "com/example/llogari/llogari/rules/WrittenForm") (Or.inl (hw _ (List.mem_of_getElem? (i := 32) rfl))) (Or.inl (hw _ (List.mem_of_getElem? (i := 34) rfl))) (by decide) (t := .boolean) (by decide) (t' := .long) (by decide)))
    have F21 : Fld Z h11 a "com/example/llogari/llogari/rules/WrittenForm" "length" "J" (.long (f_length + (1 : Int64))) := F_length.same W14
    have F22 : Keep h0 h11 [a] := (Keep.refl h0 [a]).wr W14 (Or.inl (List.mem_of_getElem? (i := 0) rfl))
    refine own_step (T' := T10) (g' := (mkF m 56 #[.val (.ref a), .val (.int x)] [])) st15 ?_
    exact own_ret X12 hx hlk Bd.returns (hb hby d4_56) (by rw [e13]; exact ⟨rfl, N16, F22, by rw [if_neg hc]; exact F19, by rw [if_neg hc]; exact F20, F21⟩) (by decide) (by decide)
  · refine own_step (T' := Tc1) (g' := (mkF m 7 #[.val (.ref a), .val (.int x)] [])) (fun t_ k_ => XS.ifNo Xc1.here hx rfl (hb hby d4_4) rfl (XT.i0_eq_f hb5) k_) ?_
    have hc : x = (32 : Int32) := own_b1 hb5
    refine own_step (T' := Tc1) (g' := (mkF m 8 #[.val (.ref a), .val (.int x)] [(.ref a)])) (fun t_ k_ => XS.aloadN Xc1.here hx rfl (hb hby d4_7) rfl rfl k_) ?_
    refine own_step (T' := Tc1) (g' := (mkF m 9 #[.val (.ref a), .val (.int x)] [(.ref a), (.ref a)])) (fun t_ k_ => XS.dup Xc1.here hx rfl (hb hby d4_8) rfl rfl k_) ?_
    obtain ⟨T23, X24, e25, st26⟩ := getF Xc1 hx hZ hown (host := "") (Or.inl (hw _ (List.mem_of_getElem? (i := 21) rfl))) Via.refl e3 F_blanks (g := (mkF m 9 #[.val (.ref a), .val (.int x)] [(.ref a), (.ref a)])) rfl rfl (hb hby d4_9)
    refine own_step (T' := T23) (g' := (mkF m 12 #[.val (.ref a), .val (.int x)] [(.long f_blanks), (.ref a)])) st26 ?_
    refine own_step (T' := T23) (g' := (mkF m 13 #[.val (.ref a), .val (.int x)] [(.long (1 : Int64)), (.long f_blanks), (.ref a)])) (fun t_ k_ => XT.lconstV X24.here hx rfl (1 : Int64) (hb hby d4_12) (by decide) k_) ?_
    refine own_step (T' := T23) (g' := (mkF m 14 #[.val (.ref a), .val (.int x)] [(.long (f_blanks + (1 : Int64))), (.ref a)])) (fun t_ k_ => XT.ladd X24.here hx rfl (hb hby d4_13) rfl k_) ?_
    obtain ⟨T27, h28, X29, e30, W31, st32⟩ := putF X24 hx hZ hown (host := "") (Or.inl (hw _ (List.mem_of_getElem? (i := 21) rfl))) Via.refl e25 F_blanks E_a (Or.inl (hw _ (List.mem_of_getElem? (i := 22) rfl))) (hw _ (List.mem_of_getElem? (i := 8) rfl)) (ty := .long) (by decide) rfl rfl (g := (mkF m 14 #[.val (.ref a), .val (.int x)] [(.long (f_blanks + (1 : Int64))), (.ref a)])) rfl rfl (hb hby d4_14)
    have N33 := Fr.snoc X29 N4 ga
    have F34 : n0 ≤ h28.size := Nat.le_trans Z0 (Keep.of_wr W31).1
    have F35 : Exa Z h28 a "com/example/llogari/llogari/rules/WrittenForm" := E_a.wr W31
    have F36 : Fld Z h28 a "com/example/llogari/llogari/rules/WrittenForm" "blanks" "J" (.long (f_blanks + (1 : Int64))) := F_blanks.same W31
    have F37 : Fld Z h28 a "com/example/llogari/llogari/rules/WrittenForm" "misplaced" "Z" (.int f_misplaced) := F_misplaced.other W31 (Or.inr (slot_ne (C := "com/example/llogari/llogari/rules/WrittenForm") (Or.inl (hw _ (List.mem_of_getElem? (i := 32) rfl))) (Or.inl (hw _ (List.mem_of_getElem? (i := 22) rfl))) (by decide) (t := .boolean) (by decide) (t' := .long) (by decide)))
    have F38 : Fld Z h28 a "com/example/llogari/llogari/rules/WrittenForm" "length" "J" (.long f_length) := F_length.other W31 (Or.inr (slot_ne (C := "com/example/llogari/llogari/rules/WrittenForm") (Or.inl (hw _ (List.mem_of_getElem? (i := 34) rfl))) (Or.inl (hw _ (List.mem_of_getElem? (i := 22) rfl))) (by decide) (t := .long) (by decide) (t' := .long) (by decide)))
    have F39 : Keep h0 h28 [a] := (Keep.refl h0 [a]).wr W31 (Or.inl (List.mem_of_getElem? (i := 0) rfl))
    refine own_step (T' := T27) (g' := (mkF m 17 #[.val (.ref a), .val (.int x)] [])) st32 ?_
    refine own_step (T' := T27) (g' := (mkF m 18 #[.val (.ref a), .val (.int x)] [(.ref a)])) (fun t_ k_ => XS.aloadN X29.here hx rfl (hb hby d4_17) rfl rfl k_) ?_
    refine own_step (T' := T27) (g' := (mkF m 19 #[.val (.ref a), .val (.int x)] [(.ref a), (.ref a)])) (fun t_ k_ => XS.dup X29.here hx rfl (hb hby d4_18) rfl rfl k_) ?_
    obtain ⟨T40, X41, e42, st43⟩ := getF X29 hx hZ hown (host := "") (Or.inl (hw _ (List.mem_of_getElem? (i := 31) rfl))) Via.refl e30 F37 (g := (mkF m 19 #[.val (.ref a), .val (.int x)] [(.ref a), (.ref a)])) rfl rfl (hb hby d4_19)
    refine own_step (T' := T40) (g' := (mkF m 22 #[.val (.ref a), .val (.int x)] [(.int f_misplaced), (.ref a)])) st43 ?_
    refine own_step (T' := T40) (g' := (mkF m 23 #[.val (.ref a), .val (.int x)] [(.ref a), (.int f_misplaced), (.ref a)])) (fun t_ k_ => XS.aloadN X41.here hx rfl (hb hby d4_22) rfl rfl k_) ?_
    obtain ⟨T44, X45, e46, st47⟩ := getF X41 hx hZ hown (host := "") (Or.inl (hw _ (List.mem_of_getElem? (i := 33) rfl))) Via.refl e42 F38 (g := (mkF m 23 #[.val (.ref a), .val (.int x)] [(.ref a), (.int f_misplaced), (.ref a)])) rfl rfl (hb hby d4_23)
    refine own_step (T' := T44) (g' := (mkF m 26 #[.val (.ref a), .val (.int x)] [(.long f_length), (.int f_misplaced), (.ref a)])) st47 ?_
    refine own_step (T' := T44) (g' := (mkF m 29 #[.val (.ref a), .val (.int x)] [(.long (5 : Int64)), (.long f_length), (.int f_misplaced), (.ref a)])) (fun t_ k_ => X45.ldc2J hx hown (mvT hZ (hw _ (List.mem_of_getElem? (i := 35) rfl))) rfl (hb hby d4_26) k_) ?_
    refine own_step (T' := T44) (g' := (mkF m 30 #[.val (.ref a), .val (.int x)] [(.long (f_length - (f_length / (5 : Int64)) * (5 : Int64))), (.int f_misplaced), (.ref a)])) (fun t_ k_ => XT.lrem X45.here hx rfl (hb hby d4_29) rfl (by decide) k_) ?_
    refine own_step (T' := T44) (g' := (mkF m 33 #[.val (.ref a), .val (.int x)] [(.long (4 : Int64)), (.long (f_length - (f_length / (5 : Int64)) * (5 : Int64))), (.int f_misplaced), (.ref a)])) (fun t_ k_ => X45.ldc2J hx hown (mvT hZ (hw _ (List.mem_of_getElem? (i := 36) rfl))) rfl (hb hby d4_30) k_) ?_
    refine own_step (T' := T44) (g' := (mkF m 34 #[.val (.ref a), .val (.int x)] [(.int (XT.cmpL (f_length - (f_length / (5 : Int64)) * (5 : Int64)) (4 : Int64))), (.int f_misplaced), (.ref a)])) (fun t_ k_ => XT.lcmp X45.here hx rfl (hb hby d4_33) rfl k_) ?_
    suffices k49 : ∀ v50 : Int32, v50 = (if (f_length - (f_length / (5 : Int64)) * (5 : Int64)) = (4 : Int64) then (0 : Int32) else (1 : Int32)) → own_Fin p e below s (Q_4 Z a x f_blanks f_misplaced f_length h0 n0) 0 0 T44 (mkF m 42 #[.val (.ref a), .val (.int x)] [(.int v50), (.int f_misplaced), (.ref a)]) by
      by_cases hb48 : (f_length - (f_length / (5 : Int64)) * (5 : Int64)) = (4 : Int64)
      · refine own_step (T' := T44) (g' := (mkF m 41 #[.val (.ref a), .val (.int x)] [(.int f_misplaced), (.ref a)])) (fun t_ k_ => XS.ifYes X45.here hx rfl (pc0 := 34) (pc' := 41) rfl (hb hby d4_34) rfl (XT.ll_eq_t hb48) (by decide) (by decide) k_) ?_
        refine own_step (T' := T44) (g' := (mkF m 42 #[.val (.ref a), .val (.int x)] [(.int (0 : Int32)), (.int f_misplaced), (.ref a)])) (fun t_ k_ => XT.iconstV X45.here hx rfl (0 : Int32) (hb hby d4_41) (by decide) k_) ?_
        exact k49 _ (if_pos hb48).symm
      · refine own_step (T' := T44) (g' := (mkF m 37 #[.val (.ref a), .val (.int x)] [(.int f_misplaced), (.ref a)])) (fun t_ k_ => XS.ifNo X45.here hx rfl (hb hby d4_34) rfl (XT.ll_eq_f hb48) k_) ?_
        refine own_step (T' := T44) (g' := (mkF m 38 #[.val (.ref a), .val (.int x)] [(.int (1 : Int32)), (.int f_misplaced), (.ref a)])) (fun t_ k_ => XT.iconstV X45.here hx rfl (1 : Int32) (hb hby d4_37) (by decide) k_) ?_
        refine own_step (T' := T44) (g' := (mkF m 42 #[.val (.ref a), .val (.int x)] [(.int (1 : Int32)), (.int f_misplaced), (.ref a)])) (fun t_ k_ => XS.goto X45.here hx rfl (pc0 := 38) (pc' := 42) rfl (hb hby d4_38) (by decide) (by decide) k_) ?_
        exact k49 _ (if_neg hb48).symm
    intro v50 hv50
    refine own_step (T' := T44) (g' := (mkF m 43 #[.val (.ref a), .val (.int x)] [(.int (f_misplaced ||| v50)), (.ref a)])) (fun t_ k_ => XT.ior X45.here hx rfl (hb hby d4_42) rfl k_) ?_
    obtain ⟨T51, h52, X53, e54, W55, st56⟩ := putFN X45 hx hZ hown (hw _ (List.mem_of_getElem? (i := 31) rfl)) Via.refl e46 F37 F35 (Or.inl (hw _ (List.mem_of_getElem? (i := 32) rfl))) (hw _ (List.mem_of_getElem? (i := 8) rfl)) (ty := .boolean) (by decide) (v' := .int (nar .boolean (f_misplaced ||| v50))) rfl (fits_nar_bool _) (g := (mkF m 43 #[.val (.ref a), .val (.int x)] [(.int (f_misplaced ||| v50)), (.ref a)])) rfl rfl (hb hby d4_43)
    have N57 := Fr.snoc X53 N33 ga
    have F58 : n0 ≤ h52.size := Nat.le_trans F34 (Keep.of_wr W55).1
    have F59 : Exa Z h52 a "com/example/llogari/llogari/rules/WrittenForm" := F35.wr W55
    have F60 : Fld Z h52 a "com/example/llogari/llogari/rules/WrittenForm" "blanks" "J" (.long (f_blanks + (1 : Int64))) := F36.other W55 (Or.inr (slot_ne (C := "com/example/llogari/llogari/rules/WrittenForm") (Or.inl (hw _ (List.mem_of_getElem? (i := 22) rfl))) (Or.inl (hw _ (List.mem_of_getElem? (i := 32) rfl))) (by decide) (t := .long) (by decide) (t' := .boolean) (by decide)))
    have F61 : Fld Z h52 a "com/example/llogari/llogari/rules/WrittenForm" "misplaced" "Z" (.int (nar .boolean (f_misplaced ||| v50))) := F37.same W55
    have F62 : Fld Z h52 a "com/example/llogari/llogari/rules/WrittenForm" "length" "J" (.long f_length) := F38.other W55 (Or.inr (slot_ne (C := "com/example/llogari/llogari/rules/WrittenForm") (Or.inl (hw _ (List.mem_of_getElem? (i := 34) rfl))) (Or.inl (hw _ (List.mem_of_getElem? (i := 32) rfl))) (by decide) (t := .long) (by decide) (t' := .boolean) (by decide)))
    have F63 : Keep h0 h52 [a] := F39.wr W55 (Or.inl (List.mem_of_getElem? (i := 0) rfl))
    refine own_step (T' := T51) (g' := (mkF m 46 #[.val (.ref a), .val (.int x)] [])) st56 ?_
    refine own_step (T' := T51) (g' := (mkF m 47 #[.val (.ref a), .val (.int x)] [(.ref a)])) (fun t_ k_ => XS.aloadN X53.here hx rfl (hb hby d4_46) rfl rfl k_) ?_
    refine own_step (T' := T51) (g' := (mkF m 48 #[.val (.ref a), .val (.int x)] [(.ref a), (.ref a)])) (fun t_ k_ => XS.dup X53.here hx rfl (hb hby d4_47) rfl rfl k_) ?_
    obtain ⟨T64, X65, e66, st67⟩ := getF X53 hx hZ hown (host := "") (Or.inl (hw _ (List.mem_of_getElem? (i := 33) rfl))) Via.refl e54 F62 (g := (mkF m 48 #[.val (.ref a), .val (.int x)] [(.ref a), (.ref a)])) rfl rfl (hb hby d4_48)
    refine own_step (T' := T64) (g' := (mkF m 51 #[.val (.ref a), .val (.int x)] [(.long f_length), (.ref a)])) st67 ?_
    refine own_step (T' := T64) (g' := (mkF m 52 #[.val (.ref a), .val (.int x)] [(.long (1 : Int64)), (.long f_length), (.ref a)])) (fun t_ k_ => XT.lconstV X65.here hx rfl (1 : Int64) (hb hby d4_51) (by decide) k_) ?_
    refine own_step (T' := T64) (g' := (mkF m 53 #[.val (.ref a), .val (.int x)] [(.long (f_length + (1 : Int64))), (.ref a)])) (fun t_ k_ => XT.ladd X65.here hx rfl (hb hby d4_52) rfl k_) ?_
    obtain ⟨T68, h69, X70, e71, W72, st73⟩ := putF X65 hx hZ hown (host := "") (Or.inl (hw _ (List.mem_of_getElem? (i := 33) rfl))) Via.refl e66 F62 F59 (Or.inl (hw _ (List.mem_of_getElem? (i := 34) rfl))) (hw _ (List.mem_of_getElem? (i := 8) rfl)) (ty := .long) (by decide) rfl rfl (g := (mkF m 53 #[.val (.ref a), .val (.int x)] [(.long (f_length + (1 : Int64))), (.ref a)])) rfl rfl (hb hby d4_53)
    have N74 := Fr.snoc X70 N57 ga
    have F75 : n0 ≤ h69.size := Nat.le_trans F58 (Keep.of_wr W72).1
    have F76 : Exa Z h69 a "com/example/llogari/llogari/rules/WrittenForm" := F59.wr W72
    have F77 : Fld Z h69 a "com/example/llogari/llogari/rules/WrittenForm" "blanks" "J" (.long (f_blanks + (1 : Int64))) := F60.other W72 (Or.inr (slot_ne (C := "com/example/llogari/llogari/rules/WrittenForm") (Or.inl (hw _ (List.mem_of_getElem? (i := 22) rfl))) (Or.inl (hw _ (List.mem_of_getElem? (i := 34) rfl))) (by decide) (t := .long) (by decide) (t' := .long) (by decide)))
    have F78 : Fld Z h69 a "com/example/llogari/llogari/rules/WrittenForm" "misplaced" "Z" (.int (nar .boolean (f_misplaced ||| v50))) := F61.other W72 (Or.inr (slot_ne (C := "com/example/llogari/llogari/rules/WrittenForm") (Or.inl (hw _ (List.mem_of_getElem? (i := 32) rfl))) (Or.inl (hw _ (List.mem_of_getElem? (i := 34) rfl))) (by decide) (t := .boolean) (by decide) (t' := .long) (by decide)))
    have F79 : Fld Z h69 a "com/example/llogari/llogari/rules/WrittenForm" "length" "J" (.long (f_length + (1 : Int64))) := F62.same W72
    have F80 : Keep h0 h69 [a] := F63.wr W72 (Or.inl (List.mem_of_getElem? (i := 0) rfl))
    refine own_step (T' := T68) (g' := (mkF m 56 #[.val (.ref a), .val (.int x)] [])) st73 ?_
    exact own_ret X70 hx hlk Bd.returns (hb hby d4_56) (by rw [e71]; exact ⟨rfl, N74, F80, by rw [if_pos hc]; exact F77, by rw [if_pos hc, ← hv50]; exact F78, F79⟩) (by decide) (by decide)
theorem d3_0 : decode prog_28_method_6_code 0 = .ok (.aload_n 0, 1) := by decide +kernel
theorem d3_1 : decode prog_28_method_6_code 1 = .ok (.getfield 13, 3) := by decide +kernel
theorem d3_4 : decode prog_28_method_6_code 4 = .ok (.lconst 0, 1) := by decide +kernel
theorem d3_5 : decode prog_28_method_6_code 5 = .ok (.lcmp, 1) := by decide +kernel
theorem d3_6 : decode prog_28_method_6_code 6 = .ok (.ifCond .le 43, 3) := by decide +kernel
theorem d3_9 : decode prog_28_method_6_code 9 = .ok (.aload_n 0, 1) := by decide +kernel
theorem d3_10 : decode prog_28_method_6_code 10 = .ok (.getfield 17, 3) := by decide +kernel
theorem d3_13 : decode prog_28_method_6_code 13 = .ok (.ifCond .ne 36, 3) := by decide +kernel
theorem d3_16 : decode prog_28_method_6_code 16 = .ok (.aload_n 0, 1) := by decide +kernel
theorem d3_17 : decode prog_28_method_6_code 17 = .ok (.getfield 13, 3) := by decide +kernel
theorem d3_20 : decode prog_28_method_6_code 20 = .ok (.aload_n 0, 1) := by decide +kernel
theorem d3_21 : decode prog_28_method_6_code 21 = .ok (.getfield 21, 3) := by decide +kernel
theorem d3_24 : decode prog_28_method_6_code 24 = .ok (.ldc2_w 24, 3) := by decide +kernel
theorem d3_27 : decode prog_28_method_6_code 27 = .ok (.ldiv, 1) := by decide +kernel
theorem d3_28 : decode prog_28_method_6_code 28 = .ok (.lcmp, 1) := by decide +kernel
theorem d3_29 : decode prog_28_method_6_code 29 = .ok (.ifCond .ne 20, 3) := by decide +kernel
theorem d3_32 : decode prog_28_method_6_code 32 = .ok (.aload_n 0, 1) := by decide +kernel
theorem d3_33 : decode prog_28_method_6_code 33 = .ok (.getfield 21, 3) := by decide +kernel
theorem d3_36 : decode prog_28_method_6_code 36 = .ok (.ldc2_w 24, 3) := by decide +kernel
theorem d3_39 : decode prog_28_method_6_code 39 = .ok (.lrem, 1) := by decide +kernel
theorem d3_40 : decode prog_28_method_6_code 40 = .ok (.lconst 0, 1) := by decide +kernel
theorem d3_41 : decode prog_28_method_6_code 41 = .ok (.lcmp, 1) := by decide +kernel
theorem d3_42 : decode prog_28_method_6_code 42 = .ok (.ifCond .eq 7, 3) := by decide +kernel
theorem d3_45 : decode prog_28_method_6_code 45 = .ok (.iconst 1, 1) := by decide +kernel
theorem d3_46 : decode prog_28_method_6_code 46 = .ok (.goto 4, 3) := by decide +kernel
theorem d3_49 : decode prog_28_method_6_code 49 = .ok (.iconst 0, 1) := by decide +kernel
theorem d3_50 : decode prog_28_method_6_code 50 = .ok (.ireturn, 1) := by decide +kernel
theorem pn_3 : plainFor (⟨"com/example/llogari/llogari/rules/WrittenForm", "isPaper", "()Z"⟩ : MethodName) = true := by first | exact plainFor_of_name (by first | (simp [plainName, overriddenIn]; done) | decide +kernel) | decide +kernel
theorem ef_3 (m : MethodId) (x0 : Addr) : entryFrame m #[(.ref x0)] 1 = mkF m 0 #[.val (.ref x0)] [] := by first | (simp [entryFrame, mkF, argsToLocals, Value.category]; done) | rfl
def Q_3 (f_blanks : Int64) (f_misplaced : Int32) (f_length : Int64) (h0 : Heap) (n0 : Nat) (v : Option Value) (h : Heap) (L : List Loc) : Prop := v = some (.int (own_paper f_blanks f_misplaced f_length)) ∧ Fr n0 L ∧ h = h0
set_option maxRecDepth 65536 in
set_option maxHeartbeats 40000000 in
theorem rm_paper (l : Launch) (Z : State) (a0 : Array Value) (hw : ∀ d ∈ tables_1, d.before a0 Z = true) (ws : List Jvm.Cond) (a : Addr) (f_blanks : Int64) (f_misplaced : Int32) (f_length : Int64) (h0 : Heap) (n0 : Nat) (Z0 : n0 ≤ h0.size) (E_a : Exa Z h0 a "com/example/llogari/llogari/rules/WrittenForm") (F_blanks : Fld Z h0 a "com/example/llogari/llogari/rules/WrittenForm" "blanks" "J" (.long f_blanks)) (F_misplaced : Fld Z h0 a "com/example/llogari/llogari/rules/WrittenForm" "misplaced" "Z" (.int f_misplaced)) (F_length : Fld Z h0 a "com/example/llogari/llogari/rules/WrittenForm" "length" "J" (.long f_length)) :
    MetFree l (⟨"com/example/llogari/llogari/rules/WrittenForm", "isPaper", "()Z"⟩ : MethodName) (head1 (Jvm.Cond.code (⟨"com/example/llogari/llogari/rules/WrittenForm", "isPaper", "()Z"⟩ : MethodName) prog_28_method_6_code 1 (some .boolean) :: ws) ({ frames := 0, cells := 0, slots := 0, locals := 0 } : Room)) (fun as_ U => as_ = #[(.ref a)] ∧ Z.Warmed39 U.vm ∧ U.heap = h0) (fun _ _ _ _ _ => True) (fun _ U o U' => ∃ v L, o = .returned v ∧ Q_3 f_blanks f_misplaced f_length h0 n0 v U'.heap L ∧ FrameEnd U o U' L ({ frames := 0, cells := 0, slots := 0, locals := 0 } : Room).cells ({ frames := 0, cells := 0, slots := 0, locals := 0 } : Room).slots) := by
  refine MetFree.of_bodySF pn_3 hisR ?_
  intro p e s m args below meth c s₁ Bd hml0 hP hK
  obtain ⟨rfl, hZ, hh⟩ := hP
  have hx := Bd.exec
  have hby := Bd.bytes
  have hlk := BodyLoose.notSynchronized Bd
  have hml : c.maxLocals = 1 := hml0
  have hown : s.vm.findClass "com/example/llogari/llogari/rules/WrittenForm" = some m.cls := findClass_of_methodNamed Bd.named
  have hnm := (name_of_methodNamed Bd.named Bd.method).1
  have X0 : Stand p l e ({ frames := 0, cells := 0, slots := 0, locals := 0 } : Room) s m #[(.ref a)] below meth c s₁ [] 0 0 := Stand.of_body Bd
  have e0 : s₁.heap = h0 := by rw [← hh, Bd.state]; rfl
  have N0 := Fr.nil n0
  refine own_in (ef_3 m a) ?_
  show own_Fin p e below s (Q_3 f_blanks f_misplaced f_length h0 n0) 0 0 s₁ (mkF m 0 #[.val (.ref a)] [])
  refine own_step (T' := s₁) (g' := (mkF m 1 #[.val (.ref a)] [(.ref a)])) (fun t_ k_ => XS.aloadN X0.here hx rfl (hb hby d3_0) rfl rfl k_) ?_
  obtain ⟨T1, X2, e3, st4⟩ := getF X0 hx hZ hown (host := "") (Or.inl (hw _ (List.mem_of_getElem? (i := 21) rfl))) Via.refl e0 F_blanks (g := (mkF m 1 #[.val (.ref a)] [(.ref a)])) rfl rfl (hb hby d3_1)
  refine own_step (T' := T1) (g' := (mkF m 4 #[.val (.ref a)] [(.long f_blanks)])) st4 ?_
  refine own_step (T' := T1) (g' := (mkF m 5 #[.val (.ref a)] [(.long (0 : Int64)), (.long f_blanks)])) (fun t_ k_ => XT.lconstV X2.here hx rfl (0 : Int64) (hb hby d3_4) (by decide) k_) ?_
  refine own_step (T' := T1) (g' := (mkF m 6 #[.val (.ref a)] [(.int (XT.cmpL f_blanks (0 : Int64)))])) (fun t_ k_ => XT.lcmp X2.here hx rfl (hb hby d3_5) rfl k_) ?_
  by_cases hb5 : (0 : Int64) < f_blanks
  · refine own_step (T' := T1) (g' := (mkF m 9 #[.val (.ref a)] [])) (fun t_ k_ => XS.ifNo X2.here hx rfl (hb hby d3_6) rfl (XT.ll_le_f hb5) k_) ?_
    refine own_step (T' := T1) (g' := (mkF m 10 #[.val (.ref a)] [(.ref a)])) (fun t_ k_ => XS.aloadN X2.here hx rfl (hb hby d3_9) rfl rfl k_) ?_
    obtain ⟨T6, X7, e8, st9⟩ := getF X2 hx hZ hown (host := "") (Or.inl (hw _ (List.mem_of_getElem? (i := 31) rfl))) Via.refl e3 F_misplaced (g := (mkF m 10 #[.val (.ref a)] [(.ref a)])) rfl rfl (hb hby d3_10)
    refine own_step (T' := T6) (g' := (mkF m 13 #[.val (.ref a)] [(.int f_misplaced)])) st9 ?_
    by_cases hb10 : f_misplaced = 0
    · refine own_step (T' := T6) (g' := (mkF m 16 #[.val (.ref a)] [])) (fun t_ k_ => XS.ifNo X7.here hx rfl (hb hby d3_13) rfl (XT.i0_ne_f hb10) k_) ?_
      refine own_step (T' := T6) (g' := (mkF m 17 #[.val (.ref a)] [(.ref a)])) (fun t_ k_ => XS.aloadN X7.here hx rfl (hb hby d3_16) rfl rfl k_) ?_
      obtain ⟨T11, X12, e13, st14⟩ := getF X7 hx hZ hown (host := "") (Or.inl (hw _ (List.mem_of_getElem? (i := 21) rfl))) Via.refl e8 F_blanks (g := (mkF m 17 #[.val (.ref a)] [(.ref a)])) rfl rfl (hb hby d3_17)
      refine own_step (T' := T11) (g' := (mkF m 20 #[.val (.ref a)] [(.long f_blanks)])) st14 ?_
      refine own_step (T' := T11) (g' := (mkF m 21 #[.val (.ref a)] [(.ref a), (.long f_blanks)])) (fun t_ k_ => XS.aloadN X12.here hx rfl (hb hby d3_20) rfl rfl k_) ?_
      obtain ⟨T15, X16, e17, st18⟩ := getF X12 hx hZ hown (host := "") (Or.inl (hw _ (List.mem_of_getElem? (i := 33) rfl))) Via.refl e13 F_length (g := (mkF m 21 #[.val (.ref a)] [(.ref a), (.long f_blanks)])) rfl rfl (hb hby d3_21)
      refine own_step (T' := T15) (g' := (mkF m 24 #[.val (.ref a)] [(.long f_length), (.long f_blanks)])) st18 ?_
      refine own_step (T' := T15) (g' := (mkF m 27 #[.val (.ref a)] [(.long (5 : Int64)), (.long f_length), (.long f_blanks)])) (fun t_ k_ => X16.ldc2J hx hown (mvT hZ (hw _ (List.mem_of_getElem? (i := 35) rfl))) rfl (hb hby d3_24) k_) ?_
      refine own_step (T' := T15) (g' := (mkF m 28 #[.val (.ref a)] [(.long (f_length / (5 : Int64))), (.long f_blanks)])) (fun t_ k_ => XT.ldiv X16.here hx rfl (hb hby d3_27) rfl (by decide) k_) ?_
      refine own_step (T' := T15) (g' := (mkF m 29 #[.val (.ref a)] [(.int (XT.cmpL f_blanks (f_length / (5 : Int64))))])) (fun t_ k_ => XT.lcmp X16.here hx rfl (hb hby d3_28) rfl k_) ?_
      by_cases hb19 : f_blanks = (f_length / (5 : Int64))
      · refine own_step (T' := T15) (g' := (mkF m 32 #[.val (.ref a)] [])) (fun t_ k_ => XS.ifNo X16.here hx rfl (hb hby d3_29) rfl (XT.ll_ne_f hb19) k_) ?_
        refine own_step (T' := T15) (g' := (mkF m 33 #[.val (.ref a)] [(.ref a)])) (fun t_ k_ => XS.aloadN X16.here hx rfl (hb hby d3_32) rfl rfl k_) ?_
        obtain ⟨T20, X21, e22, st23⟩ := getF X16 hx hZ hown (host := "") (Or.inl (hw _ (List.mem_of_getElem? (i := 33) rfl))) Via.refl e17 F_length (g := (mkF m 33 #[.val (.ref a)] [(.ref a)])) rfl rfl (hb hby d3_33)
        refine own_step (T' := T20) (g' := (mkF m 36 #[.val (.ref a)] [(.long f_length)])) st23 ?_
        refine own_step (T' := T20) (g' := (mkF m 39 #[.val (.ref a)] [(.long (5 : Int64)), (.long f_length)])) (fun t_ k_ => X21.ldc2J hx hown (mvT hZ (hw _ (List.mem_of_getElem? (i := 35) rfl))) rfl (hb hby d3_36) k_) ?_
        refine own_step (T' := T20) (g' := (mkF m 40 #[.val (.ref a)] [(.long (f_length - (f_length / (5 : Int64)) * (5 : Int64)))])) (fun t_ k_ => XT.lrem X21.here hx rfl (hb hby d3_39) rfl (by decide) k_) ?_
        refine own_step (T' := T20) (g' := (mkF m 41 #[.val (.ref a)] [(.long (0 : Int64)), (.long (f_length - (f_length / (5 : Int64)) * (5 : Int64)))])) (fun t_ k_ => XT.lconstV X21.here hx rfl (0 : Int64) (hb hby d3_40) (by decide) k_) ?_
        refine own_step (T' := T20) (g' := (mkF m 42 #[.val (.ref a)] [(.int (XT.cmpL (f_length - (f_length / (5 : Int64)) * (5 : Int64)) (0 : Int64)))])) (fun t_ k_ => XT.lcmp X21.here hx rfl (hb hby d3_41) rfl k_) ?_
        by_cases hb24 : (f_length - (f_length / (5 : Int64)) * (5 : Int64)) = (0 : Int64)
        · refine own_step (T' := T20) (g' := (mkF m 49 #[.val (.ref a)] [])) (fun t_ k_ => XS.ifYes X21.here hx rfl (pc0 := 42) (pc' := 49) rfl (hb hby d3_42) rfl (XT.ll_eq_t hb24) (by decide) (by decide) k_) ?_
          refine own_step (T' := T20) (g' := (mkF m 50 #[.val (.ref a)] [(.int (0 : Int32))])) (fun t_ k_ => XT.iconstV X21.here hx rfl (0 : Int32) (hb hby d3_49) (by decide) k_) ?_
          exact own_retN X21 hx hlk (t := .boolean) Bd.returns (by simp) (hb hby d3_50) (by rw [e22]; exact ⟨by unfold own_paper; rw [if_pos hb5, if_pos hb10, if_pos hb19, if_pos hb24] <;> rfl, N0, rfl⟩) (by decide) (by decide)
        · refine own_step (T' := T20) (g' := (mkF m 45 #[.val (.ref a)] [])) (fun t_ k_ => XS.ifNo X21.here hx rfl (hb hby d3_42) rfl (XT.ll_eq_f hb24) k_) ?_
          refine own_step (T' := T20) (g' := (mkF m 46 #[.val (.ref a)] [(.int (1 : Int32))])) (fun t_ k_ => XT.iconstV X21.here hx rfl (1 : Int32) (hb hby d3_45) (by decide) k_) ?_
          refine own_step (T' := T20) (g' := (mkF m 50 #[.val (.ref a)] [(.int (1 : Int32))])) (fun t_ k_ => XS.goto X21.here hx rfl (pc0 := 46) (pc' := 50) rfl (hb hby d3_46) (by decide) (by decide) k_) ?_
          exact own_retN X21 hx hlk (t := .boolean) Bd.returns (by simp) (hb hby d3_50) (by rw [e22]; exact ⟨by unfold own_paper; rw [if_pos hb5, if_pos hb10, if_pos hb19, if_neg hb24] <;> rfl, N0, rfl⟩) (by decide) (by decide)
      · refine own_step (T' := T15) (g' := (mkF m 49 #[.val (.ref a)] [])) (fun t_ k_ => XS.ifYes X16.here hx rfl (pc0 := 29) (pc' := 49) rfl (hb hby d3_29) rfl (XT.ll_ne_t hb19) (by decide) (by decide) k_) ?_
        refine own_step (T' := T15) (g' := (mkF m 50 #[.val (.ref a)] [(.int (0 : Int32))])) (fun t_ k_ => XT.iconstV X16.here hx rfl (0 : Int32) (hb hby d3_49) (by decide) k_) ?_
        exact own_retN X16 hx hlk (t := .boolean) Bd.returns (by simp) (hb hby d3_50) (by rw [e17]; exact ⟨by unfold own_paper; rw [if_pos hb5, if_pos hb10, if_neg hb19] <;> rfl, N0, rfl⟩) (by decide) (by decide)
    · refine own_step (T' := T6) (g' := (mkF m 49 #[.val (.ref a)] [])) (fun t_ k_ => XS.ifYes X7.here hx rfl (pc0 := 13) (pc' := 49) rfl (hb hby d3_13) rfl (XT.i0_ne_t hb10) (by decide) (by decide) k_) ?_
      refine own_step (T' := T6) (g' := (mkF m 50 #[.val (.ref a)] [(.int (0 : Int32))])) (fun t_ k_ => XT.iconstV X7.here hx rfl (0 : Int32) (hb hby d3_49) (by decide) k_) ?_
      exact own_retN X7 hx hlk (t := .boolean) Bd.returns (by simp) (hb hby d3_50) (by rw [e8]; exact ⟨by unfold own_paper; rw [if_pos hb5, if_neg hb10] <;> rfl, N0, rfl⟩) (by decide) (by decide)
  · refine own_step (T' := T1) (g' := (mkF m 49 #[.val (.ref a)] [])) (fun t_ k_ => XS.ifYes X2.here hx rfl (pc0 := 6) (pc' := 49) rfl (hb hby d3_6) rfl (XT.ll_le_t hb5) (by decide) (by decide) k_) ?_
    refine own_step (T' := T1) (g' := (mkF m 50 #[.val (.ref a)] [(.int (0 : Int32))])) (fun t_ k_ => XT.iconstV X2.here hx rfl (0 : Int32) (hb hby d3_49) (by decide) k_) ?_
    exact own_retN X2 hx hlk (t := .boolean) Bd.returns (by simp) (hb hby d3_50) (by rw [e3]; exact ⟨by unfold own_paper; rw [if_neg hb5] <;> rfl, N0, rfl⟩) (by decide) (by decide)
theorem d6_0 : decode method_3_code 0 = .ok (.iload_n 0, 1) := by decide +kernel
theorem d6_1 : decode method_3_code 1 = .ok (.iload_n 2, 1) := by decide +kernel
theorem d6_2 : decode method_3_code 2 = .ok (.if_icmp .lt 5, 3) := by decide +kernel
theorem d6_5 : decode method_3_code 5 = .ok (.iconst 1, 1) := by decide +kernel
theorem d6_6 : decode method_3_code 6 = .ok (.ireturn, 1) := by decide +kernel
theorem d6_7 : decode method_3_code 7 = .ok (.iload_n 0, 1) := by decide +kernel
theorem d6_8 : decode method_3_code 8 = .ok (.iconst 4, 1) := by decide +kernel
theorem d6_9 : decode method_3_code 9 = .ok (.if_icmp .eq 9, 3) := by decide +kernel
theorem d6_12 : decode method_3_code 12 = .ok (.iload_n 0, 1) := by decide +kernel
theorem d6_13 : decode method_3_code 13 = .ok (.bipush 9, 2) := by decide +kernel
theorem d6_15 : decode method_3_code 15 = .ok (.if_icmp .ne 7, 3) := by decide +kernel
theorem d6_18 : decode method_3_code 18 = .ok (.iconst 1, 1) := by decide +kernel
theorem d6_19 : decode method_3_code 19 = .ok (.goto 4, 3) := by decide +kernel
theorem d6_22 : decode method_3_code 22 = .ok (.iconst 0, 1) := by decide +kernel
theorem d6_23 : decode method_3_code 23 = .ok (.istore_n 3, 1) := by decide +kernel
theorem d6_24 : decode method_3_code 24 = .ok (.iload_n 1, 1) := by decide +kernel
theorem d6_25 : decode method_3_code 25 = .ok (.bipush 32, 2) := by decide +kernel
theorem d6_27 : decode method_3_code 27 = .ok (.if_icmp .ne 7, 3) := by decide +kernel
theorem d6_30 : decode method_3_code 30 = .ok (.iconst 1, 1) := by decide +kernel
theorem d6_31 : decode method_3_code 31 = .ok (.goto 4, 3) := by decide +kernel
theorem d6_34 : decode method_3_code 34 = .ok (.iconst 0, 1) := by decide +kernel
theorem d6_35 : decode method_3_code 35 = .ok (.iload_n 3, 1) := by decide +kernel
theorem d6_36 : decode method_3_code 36 = .ok (.if_icmp .ne 7, 3) := by decide +kernel
theorem d6_39 : decode method_3_code 39 = .ok (.iconst 1, 1) := by decide +kernel
theorem d6_40 : decode method_3_code 40 = .ok (.goto 4, 3) := by decide +kernel
theorem d6_43 : decode method_3_code 43 = .ok (.iconst 0, 1) := by decide +kernel
theorem d6_44 : decode method_3_code 44 = .ok (.ireturn, 1) := by decide +kernel
theorem pn_6 : plainFor (⟨"com/example/llogari/llogari/rules/WrittenFormIsPaperPinLaw", "fits", "(ICI)Z"⟩ : MethodName) = true := by first | exact plainFor_of_name (by first | (simp [plainName, overriddenIn]; done) | decide +kernel) | decide +kernel
theorem ef_6 (m : MethodId) (x0 : Int32) (x1 : Int32) (x2 : Int32) : entryFrame m #[(.int x0), (.int x1), (.int x2)] 4 = mkF m 0 #[.val (.int x0), .val (.int x1), .val (.int x2), .unset] [] := by first | (simp [entryFrame, mkF, argsToLocals, Value.category]; done) | rfl
def Q_6 (i x n : Int32) (h0 : Heap) (n0 : Nat) (v : Option Value) (h : Heap) (L : List Loc) : Prop := v = some (.int (own_fits i x n)) ∧ Fr n0 L ∧ h = h0
set_option maxRecDepth 65536 in
set_option maxHeartbeats 40000000 in
theorem rm_fits (l : Launch) (Z : State) (a0 : Array Value) (hw : ∀ d ∈ tables_1, d.before a0 Z = true) (ws : List Jvm.Cond) (i x n : Int32) (h0 : Heap) (n0 : Nat) (Z0 : n0 ≤ h0.size)  :
    MetFree l (⟨"com/example/llogari/llogari/rules/WrittenFormIsPaperPinLaw", "fits", "(ICI)Z"⟩ : MethodName) (head1 (Jvm.Cond.code (⟨"com/example/llogari/llogari/rules/WrittenFormIsPaperPinLaw", "fits", "(ICI)Z"⟩ : MethodName) method_3_code 4 (some .boolean) :: ws) ({ frames := 0, cells := 0, slots := 0, locals := 0 } : Room)) (fun as_ U => as_ = #[(.int i), (.int x), (.int n)] ∧ Z.Warmed39 U.vm ∧ U.heap = h0) (fun _ _ _ _ _ => True) (fun _ U o U' => ∃ v L, o = .returned v ∧ Q_6 i x n h0 n0 v U'.heap L ∧ FrameEnd U o U' L ({ frames := 0, cells := 0, slots := 0, locals := 0 } : Room).cells ({ frames := 0, cells := 0, slots := 0, locals := 0 } : Room).slots) := by
  refine MetFree.of_bodySF pn_6 hisR ?_
  intro p e s m args below meth c s₁ Bd hml0 hP hK
  obtain ⟨rfl, hZ, hh⟩ := hP
  have hx := Bd.exec
  have hby := Bd.bytes
  have hlk := BodyLoose.notSynchronized Bd
  have hml : c.maxLocals = 4 := hml0
  have hown : s.vm.findClass "com/example/llogari/llogari/rules/WrittenFormIsPaperPinLaw" = some m.cls := findClass_of_methodNamed Bd.named
  have hnm := (name_of_methodNamed Bd.named Bd.method).1
  have X0 : Stand p l e ({ frames := 0, cells := 0, slots := 0, locals := 0 } : Room) s m #[(.int i), (.int x), (.int n)] below meth c s₁ [] 0 0 := Stand.of_body Bd
  have e0 : s₁.heap = h0 := by rw [← hh, Bd.state]; rfl
  have N0 := Fr.nil n0
  refine own_in (ef_6 m i x n) ?_
  show own_Fin p e below s (Q_6 i x n h0 n0) 0 0 s₁ (mkF m 0 #[.val (.int i), .val (.int x), .val (.int n), .unset] [])
  refine own_step (T' := s₁) (g' := (mkF m 1 #[.val (.int i), .val (.int x), .val (.int n), .unset] [(.int i)])) (fun t_ k_ => XS.iloadN X0.here hx rfl (hb hby d6_0) rfl k_) ?_
  refine own_step (T' := s₁) (g' := (mkF m 2 #[.val (.int i), .val (.int x), .val (.int n), .unset] [(.int n), (.int i)])) (fun t_ k_ => XS.iloadN X0.here hx rfl (hb hby d6_1) rfl k_) ?_
  by_cases hb1 : i < n
  · refine own_step (T' := s₁) (g' := (mkF m 7 #[.val (.int i), .val (.int x), .val (.int n), .unset] [])) (fun t_ k_ => XS.icmpYes X0.here hx rfl (pc0 := 2) (pc' := 7) rfl (hb hby d6_2) rfl (XT.ii_lt_t hb1) (by decide) (by decide) k_) ?_
    refine own_step (T' := s₁) (g' := (mkF m 8 #[.val (.int i), .val (.int x), .val (.int n), .unset] [(.int i)])) (fun t_ k_ => XS.iloadN X0.here hx rfl (hb hby d6_7) rfl k_) ?_
    refine own_step (T' := s₁) (g' := (mkF m 9 #[.val (.int i), .val (.int x), .val (.int n), .unset] [(.int (4 : Int32)), (.int i)])) (fun t_ k_ => XT.iconstV X0.here hx rfl (4 : Int32) (hb hby d6_8) (by decide) k_) ?_
    suffices k3 : ∀ v4 : Int32, v4 = (if i = (4 : Int32) then (1 : Int32) else (if i = (9 : Int32) then (1 : Int32) else (0 : Int32))) → own_Fin p e below s (Q_6 i x n h0 n0) 0 0 s₁ (mkF m 23 #[.val (.int i), .val (.int x), .val (.int n), .unset] [(.int v4)]) by
      by_cases hb2 : i = (4 : Int32)
      · refine own_step (T' := s₁) (g' := (mkF m 18 #[.val (.int i), .val (.int x), .val (.int n), .unset] [])) (fun t_ k_ => XS.icmpYes X0.here hx rfl (pc0 := 9) (pc' := 18) rfl (hb hby d6_9) rfl (XT.ii_eq_t hb2) (by decide) (by decide) k_) ?_
        refine own_step (T' := s₁) (g' := (mkF m 19 #[.val (.int i), .val (.int x), .val (.int n), .unset] [(.int (1 : Int32))])) (fun t_ k_ => XT.iconstV X0.here hx rfl (1 : Int32) (hb hby d6_18) (by decide) k_) ?_
        refine own_step (T' := s₁) (g' := (mkF m 23 #[.val (.int i), .val (.int x), .val (.int n), .unset] [(.int (1 : Int32))])) (fun t_ k_ => XS.goto X0.here hx rfl (pc0 := 19) (pc' := 23) rfl (hb hby d6_19) (by decide) (by decide) k_) ?_
        exact k3 _ (if_pos hb2).symm
      · refine own_step (T' := s₁) (g' := (mkF m 12 #[.val (.int i), .val (.int x), .val (.int n), .unset] [])) (fun t_ k_ => XS.icmpNo X0.here hx rfl (hb hby d6_9) rfl (XT.ii_eq_f hb2) k_) ?_
        refine own_step (T' := s₁) (g' := (mkF m 13 #[.val (.int i), .val (.int x), .val (.int n), .unset] [(.int i)])) (fun t_ k_ => XS.iloadN X0.here hx rfl (hb hby d6_12) rfl k_) ?_
        refine own_step (T' := s₁) (g' := (mkF m 15 #[.val (.int i), .val (.int x), .val (.int n), .unset] [(.int (9 : Int32)), (.int i)])) (fun t_ k_ => XT.bipushV X0.here hx rfl (9 : Int32) (hb hby d6_13) (by decide) k_) ?_
        suffices k6 : ∀ v7 : Int32, v7 = (if i = (9 : Int32) then (1 : Int32) else (0 : Int32)) → own_Fin p e below s (Q_6 i x n h0 n0) 0 0 s₁ (mkF m 23 #[.val (.int i), .val (.int x), .val (.int n), .unset] [(.int v7)]) by
          by_cases hb5 : i = (9 : Int32)
          · refine own_step (T' := s₁) (g' := (mkF m 18 #[.val (.int i), .val (.int x), .val (.int n), .unset] [])) (fun t_ k_ => XS.icmpNo X0.here hx rfl (hb hby d6_15) rfl (XT.ii_ne_f hb5) k_) ?_
            refine own_step (T' := s₁) (g' := (mkF m 19 #[.val (.int i), .val (.int x), .val (.int n), .unset] [(.int (1 : Int32))])) (fun t_ k_ => XT.iconstV X0.here hx rfl (1 : Int32) (hb hby d6_18) (by decide) k_) ?_
            refine own_step (T' := s₁) (g' := (mkF m 23 #[.val (.int i), .val (.int x), .val (.int n), .unset] [(.int (1 : Int32))])) (fun t_ k_ => XS.goto X0.here hx rfl (pc0 := 19) (pc' := 23) rfl (hb hby d6_19) (by decide) (by decide) k_) ?_
            exact k6 _ (if_pos hb5).symm
          · refine own_step (T' := s₁) (g' := (mkF m 22 #[.val (.int i), .val (.int x), .val (.int n), .unset] [])) (fun t_ k_ => XS.icmpYes X0.here hx rfl (pc0 := 15) (pc' := 22) rfl (hb hby d6_15) rfl (XT.ii_ne_t hb5) (by decide) (by decide) k_) ?_
            refine own_step (T' := s₁) (g' := (mkF m 23 #[.val (.int i), .val (.int x), .val (.int n), .unset] [(.int (0 : Int32))])) (fun t_ k_ => XT.iconstV X0.here hx rfl (0 : Int32) (hb hby d6_22) (by decide) k_) ?_
            exact k6 _ (if_neg hb5).symm
        rintro _ rfl
        exact k3 _ (if_neg hb2).symm
    intro v4 hv4
    refine own_step (T' := s₁) (g' := (mkF m 24 #[.val (.int i), .val (.int x), .val (.int n), .val (.int v4)] [])) (fun t_ k_ => XS.istoreN X0.here hx rfl (hb hby d6_23) rfl (l' := #[.val (.int i), .val (.int x), .val (.int n), .val (.int v4)]) rfl k_) ?_
    refine own_step (T' := s₁) (g' := (mkF m 25 #[.val (.int i), .val (.int x), .val (.int n), .val (.int v4)] [(.int x)])) (fun t_ k_ => XS.iloadN X0.here hx rfl (hb hby d6_24) rfl k_) ?_
    refine own_step (T' := s₁) (g' := (mkF m 27 #[.val (.int i), .val (.int x), .val (.int n), .val (.int v4)] [(.int (32 : Int32)), (.int x)])) (fun t_ k_ => XT.bipushV X0.here hx rfl (32 : Int32) (hb hby d6_25) (by decide) k_) ?_
    suffices k9 : ∀ v10 : Int32, v10 = (if x = (32 : Int32) then (1 : Int32) else (0 : Int32)) → own_Fin p e below s (Q_6 i x n h0 n0) 0 0 s₁ (mkF m 35 #[.val (.int i), .val (.int x), .val (.int n), .val (.int v4)] [(.int v10)]) by
      by_cases hb8 : x = (32 : Int32)
      · refine own_step (T' := s₁) (g' := (mkF m 30 #[.val (.int i), .val (.int x), .val (.int n), .val (.int v4)] [])) (fun t_ k_ => XS.icmpNo X0.here hx rfl (hb hby d6_27) rfl (XT.ii_ne_f hb8) k_) ?_
        refine own_step (T' := s₁) (g' := (mkF m 31 #[.val (.int i), .val (.int x), .val (.int n), .val (.int v4)] [(.int (1 : Int32))])) (fun t_ k_ => XT.iconstV X0.here hx rfl (1 : Int32) (hb hby d6_30) (by decide) k_) ?_
        refine own_step (T' := s₁) (g' := (mkF m 35 #[.val (.int i), .val (.int x), .val (.int n), .val (.int v4)] [(.int (1 : Int32))])) (fun t_ k_ => XS.goto X0.here hx rfl (pc0 := 31) (pc' := 35) rfl (hb hby d6_31) (by decide) (by decide) k_) ?_
        exact k9 _ (if_pos hb8).symm
      · refine own_step (T' := s₁) (g' := (mkF m 34 #[.val (.int i), .val (.int x), .val (.int n), .val (.int v4)] [])) (fun t_ k_ => XS.icmpYes X0.here hx rfl (pc0 := 27) (pc' := 34) rfl (hb hby d6_27) rfl (XT.ii_ne_t hb8) (by decide) (by decide) k_) ?_
        refine own_step (T' := s₁) (g' := (mkF m 35 #[.val (.int i), .val (.int x), .val (.int n), .val (.int v4)] [(.int (0 : Int32))])) (fun t_ k_ => XT.iconstV X0.here hx rfl (0 : Int32) (hb hby d6_34) (by decide) k_) ?_
        exact k9 _ (if_neg hb8).symm
    intro v10 hv10
    refine own_step (T' := s₁) (g' := (mkF m 36 #[.val (.int i), .val (.int x), .val (.int n), .val (.int v4)] [(.int v4), (.int v10)])) (fun t_ k_ => XS.iloadN X0.here hx rfl (hb hby d6_35) rfl k_) ?_
    suffices k12 : ∀ v13 : Int32, v13 = (if v10 = v4 then (1 : Int32) else (0 : Int32)) → own_Fin p e below s (Q_6 i x n h0 n0) 0 0 s₁ (mkF m 44 #[.val (.int i), .val (.int x), .val (.int n), .val (.int v4)] [(.int v13)]) by
      by_cases hb11 : v10 = v4
      · refine own_step (T' := s₁) (g' := (mkF m 39 #[.val (.int i), .val (.int x), .val (.int n), .val (.int v4)] [])) (fun t_ k_ => XS.icmpNo X0.here hx rfl (hb hby d6_36) rfl (XT.ii_ne_f hb11) k_) ?_
        refine own_step (T' := s₁) (g' := (mkF m 40 #[.val (.int i), .val (.int x), .val (.int n), .val (.int v4)] [(.int (1 : Int32))])) (fun t_ k_ => XT.iconstV X0.here hx rfl (1 : Int32) (hb hby d6_39) (by decide) k_) ?_
        refine own_step (T' := s₁) (g' := (mkF m 44 #[.val (.int i), .val (.int x), .val (.int n), .val (.int v4)] [(.int (1 : Int32))])) (fun t_ k_ => XS.goto X0.here hx rfl (pc0 := 40) (pc' := 44) rfl (hb hby d6_40) (by decide) (by decide) k_) ?_
        exact k12 _ (if_pos hb11).symm
      · refine own_step (T' := s₁) (g' := (mkF m 43 #[.val (.int i), .val (.int x), .val (.int n), .val (.int v4)] [])) (fun t_ k_ => XS.icmpYes X0.here hx rfl (pc0 := 36) (pc' := 43) rfl (hb hby d6_36) rfl (XT.ii_ne_t hb11) (by decide) (by decide) k_) ?_
        refine own_step (T' := s₁) (g' := (mkF m 44 #[.val (.int i), .val (.int x), .val (.int n), .val (.int v4)] [(.int (0 : Int32))])) (fun t_ k_ => XT.iconstV X0.here hx rfl (0 : Int32) (hb hby d6_43) (by decide) k_) ?_
        exact k12 _ (if_neg hb11).symm
    intro v13 hv13
    exact own_retN X0 hx hlk (t := .boolean) Bd.returns (by simp) (hb hby d6_44) (by rw [e0]; exact ⟨by unfold own_fits; rw [if_pos hb1, hv13, own_nar_ite (by decide) (by decide), hv10, hv4], N0, rfl⟩) (by decide) (by decide)
  · refine own_step (T' := s₁) (g' := (mkF m 5 #[.val (.int i), .val (.int x), .val (.int n), .unset] [])) (fun t_ k_ => XS.icmpNo X0.here hx rfl (hb hby d6_2) rfl (XT.ii_lt_f hb1) k_) ?_
    refine own_step (T' := s₁) (g' := (mkF m 6 #[.val (.int i), .val (.int x), .val (.int n), .unset] [(.int (1 : Int32))])) (fun t_ k_ => XT.iconstV X0.here hx rfl (1 : Int32) (hb hby d6_5) (by decide) k_) ?_
    exact own_retN X0 hx hlk (t := .boolean) Bd.returns (by simp) (hb hby d6_6) (by rw [e0]; exact ⟨by unfold own_fits; rw [if_neg hb1] <;> rfl, N0, rfl⟩) (by decide) (by decide)
theorem pn_7 : plainFor x = true := by first | exact plainFor_of_name (by first | (simp [plainName, overriddenIn]; done) | decide +kernel) | decide +kernel
theorem ef_7 (m : MethodId) (x0 : Int32) (x1 : Int32) (x2 : Int64) (x3 : Int64) : entryFrame m #[(.int x0), (.int x1), (.long x2), (.long x3)] maxLocals = mkF m 0 #[.val (.int x0), .val (.int x1), .val (.long x2), .second, .val (.long x3), .second, .unset, .unset, .unset, .unset, .unset, .unset] [] := by first | (simp [entryFrame, mkF, argsToLocals, Value.category, maxLocals]; done) | rfl
def Q_7 (h0 : Heap) (n0 : Nat) (v : Option Value) (h : Heap) (L : List Loc) : Prop := v = some (.int 1) ∧ Fr n0 L
set_option maxRecDepth 65536 in
set_option maxHeartbeats 40000000 in
theorem rm_law (l : Launch) (Z : State) (a0 : Array Value) (hw : ∀ d ∈ tables_1, d.before a0 Z = true) (ws : List Jvm.Cond) (k0 m1 : Int32) (x1 x2 : Int64) (h0 : Heap) (n0 : Nat) (Z0 : n0 ≤ h0.size)  :
    MetFree l x (head1 (Jvm.Cond.code x code maxLocals ret :: ws) room_1) (fun as_ U => as_ = #[(.int k0), (.int m1), (.long x1), (.long x2)] ∧ Z.Warmed39 U.vm ∧ U.heap = h0) (fun _ _ _ _ _ => True) (fun _ U o U' => ∃ v L, o = .returned v ∧ Q_7 h0 n0 v U'.heap L ∧ FrameEnd U o U' L 2 14) := by
  refine MetFree.of_bodySF pn_7 hisR ?_
  intro p e s m args below meth c s₁ Bd hml0 hP hK
  obtain ⟨rfl, hZ, hh⟩ := hP
  have hx := Bd.exec
  have hby := Bd.bytes
  have hlk := BodyLoose.notSynchronized Bd
  have hml : c.maxLocals = 12 := hml0
  have hown : s.vm.findClass "com/example/llogari/llogari/rules/WrittenFormIsPaperPinLaw" = some m.cls := findClass_of_methodNamed Bd.named
  have hnm := (name_of_methodNamed Bd.named Bd.method).1
  have X0 : Stand p l e room_1 s m #[(.int k0), (.int m1), (.long x1), (.long x2)] below meth c s₁ [] 0 0 := Stand.of_body Bd
  have e0 : s₁.heap = h0 := by rw [← hh, Bd.state]; rfl
  have N0 := Fr.nil n0
  refine own_in (ef_7 m k0 m1 x1 x2) ?_
  show own_Fin p e below s (Q_7 h0 n0) 2 14 s₁ (mkF m 0 #[.val (.int k0), .val (.int m1), .val (.long x1), .second, .val (.long x2), .second, .unset, .unset, .unset, .unset, .unset, .unset] [])
  refine own_step (T' := s₁) (g' := (mkF m 1 #[.val (.int k0), .val (.int m1), .val (.long x1), .second, .val (.long x2), .second, .unset, .unset, .unset, .unset, .unset, .unset] [(.int k0)])) (fun t_ k_ => XS.iloadN X0.here hx rfl (hb hby at_0) rfl k_) ?_
  refine own_step (T' := s₁) (g' := (mkF m 3 #[.val (.int k0), .val (.int m1), .val (.long x1), .second, .val (.long x2), .second, .unset, .unset, .unset, .unset, .unset, .unset] [(.int (2147483647 : Int32)), (.int k0)])) (fun t_ k_ => X0.ldcI hx hown (mvT hZ (hw _ (List.mem_of_getElem? (i := 0) rfl))) rfl (hb hby at_1) k_) ?_
  refine own_step (T' := s₁) (g' := (mkF m 4 #[.val (.int k0), .val (.int m1), .val (.long x1), .second, .val (.long x2), .second, .unset, .unset, .unset, .unset, .unset, .unset] [(.int (k0 &&& (2147483647 : Int32)))])) (fun t_ k_ => XS.iand X0.here hx rfl (hb hby at_3) rfl k_) ?_
  refine own_step (T' := s₁) (g' := (mkF m 6 #[.val (.int k0), .val (.int m1), .val (.long x1), .second, .val (.long x2), .second, .unset, .unset, .unset, .unset, .unset, .unset] [(.int (12 : Int32)), (.int (k0 &&& (2147483647 : Int32)))])) (fun t_ k_ => XT.bipushV X0.here hx rfl (12 : Int32) (hb hby at_4) (by decide) k_) ?_
  refine own_step (T' := s₁) (g' := (mkF m 7 #[.val (.int k0), .val (.int m1), .val (.long x1), .second, .val (.long x2), .second, .unset, .unset, .unset, .unset, .unset, .unset] [(.int ((k0 &&& (2147483647 : Int32)) % (12 : Int32)))])) (fun t_ k_ => iremM X0 hx rfl (hb hby at_6) rfl (by decide) k_) ?_
  obtain ⟨N, eN, hN⟩ := own_len k0
  generalize hn : ((k0 &&& (2147483647 : Int32)) % (12 : Int32)) = n
  rw [hn] at eN
  refine own_step (T' := s₁) (g' := (mkF m 9 #[.val (.int k0), .val (.int m1), .val (.long x1), .second, .val (.long x2), .second, .val (.int n), .unset, .unset, .unset, .unset, .unset] [])) (fun t_ k_ => XS.istore X0.here hx rfl (hb hby at_7) rfl (l' := #[.val (.int k0), .val (.int m1), .val (.long x1), .second, .val (.long x2), .second, .val (.int n), .unset, .unset, .unset, .unset, .unset]) rfl k_) ?_
  refine own_step (T' := s₁) (g' := (mkF m 11 #[.val (.int k0), .val (.int m1), .val (.long x1), .second, .val (.long x2), .second, .val (.int n), .unset, .unset, .unset, .unset, .unset] [(.int (11 : Int32))])) (fun t_ k_ => XT.bipushV X0.here hx rfl (11 : Int32) (hb hby at_9) (by decide) k_) ?_
  obtain ⟨T1, h2, cA3, X4, e5, E6, A7, st8⟩ := newP X0 hx hZ (hw _ (List.mem_of_getElem? (i := 1) rfl)) e0 (g := (mkF m 11 #[.val (.int k0), .val (.int m1), .val (.long x1), .second, .val (.long x2), .second, .val (.int n), .unset, .unset, .unset, .unset, .unset] [(.int (11 : Int32))])) rfl (hb hby at_11) rfl (by decide) (cap := 11) (by decide) (by decide) (by decide) (by decide)
  obtain ⟨a9, g10⟩ : ∃ z, z = h0.size := ⟨_, rfl⟩
  rw [← g10] at A7 st8
  have q11 : n0 ≤ a9 := Nat.le_trans Z0 (Nat.le_of_eq g10.symm)
  have F12 : n0 ≤ h2.size := Nat.le_trans Z0 E6.1
  have V13 : own_Arl Z h2 a9 .char [(.int (0 : Int32)), (.int (0 : Int32)), (.int (0 : Int32)), (.int (0 : Int32)), (.int (0 : Int32)), (.int (0 : Int32)), (.int (0 : Int32)), (.int (0 : Int32)), (.int (0 : Int32)), (.int (0 : Int32)), (.int (0 : Int32))] := own_Arl.of_new A7 (i := 11) (by decide)
  refine own_step (T' := T1) (g' := (mkF m 13 #[.val (.int k0), .val (.int m1), .val (.long x1), .second, .val (.long x2), .second, .val (.int n), .unset, .unset, .unset, .unset, .unset] [(.ref a9)])) st8 ?_
  refine own_step (T' := T1) (g' := (mkF m 15 #[.val (.int k0), .val (.int m1), .val (.long x1), .second, .val (.long x2), .second, .val (.int n), .val (.ref a9), .unset, .unset, .unset, .unset] [])) (fun t_ k_ => XS.astore X4.here hx rfl (hb hby at_13) rfl rfl (l' := #[.val (.int k0), .val (.int m1), .val (.long x1), .second, .val (.long x2), .second, .val (.int n), .val (.ref a9), .unset, .unset, .unset, .unset]) rfl k_) ?_
  refine own_step (T' := T1) (g' := (mkF m 17 #[.val (.int k0), .val (.int m1), .val (.long x1), .second, .val (.long x2), .second, .val (.int n), .val (.ref a9), .unset, .unset, .unset, .unset] [(.ref a9)])) (fun t_ k_ => XS.aload X4.here hx rfl (hb hby at_15) rfl rfl k_) ?_
  refine own_step (T' := T1) (g' := (mkF m 18 #[.val (.int k0), .val (.int m1), .val (.long x1), .second, .val (.long x2), .second, .val (.int n), .val (.ref a9), .unset, .unset, .unset, .unset] [(.int (0 : Int32)), (.ref a9)])) (fun t_ k_ => XT.iconstV X4.here hx rfl (0 : Int32) (hb hby at_17) (by decide) k_) ?_
  refine own_step (T' := T1) (g' := (mkF m 19 #[.val (.int k0), .val (.int m1), .val (.long x1), .second, .val (.long x2), .second, .val (.int n), .val (.ref a9), .unset, .unset, .unset, .unset] [(.int (0 : Int32)), (.int (0 : Int32)), (.ref a9)])) (fun t_ k_ => XT.iconstV X4.here hx rfl (0 : Int32) (hb hby at_18) (by decide) k_) ?_
  refine own_step (T' := T1) (g' := (mkF m 20 #[.val (.int k0), .val (.int m1), .val (.long x1), .second, .val (.long x2), .second, .val (.int n), .val (.ref a9), .unset, .unset, .unset, .unset] [(.int m1), (.int (0 : Int32)), (.int (0 : Int32)), (.ref a9)])) (fun t_ k_ => XS.iloadN X4.here hx rfl (hb hby at_19) rfl k_) ?_
  refine own_step (T' := T1) (g' := (mkF m 21 #[.val (.int k0), .val (.int m1), .val (.long x1), .second, .val (.long x2), .second, .val (.int n), .val (.ref a9), .unset, .unset, .unset, .unset] [(.long x1), (.int m1), (.int (0 : Int32)), (.int (0 : Int32)), (.ref a9)])) (fun t_ k_ => XT.lloadN X4.here hx rfl (hb hby at_20) rfl k_) ?_
  refine own_step (T' := T1) (g' := (mkF m 23 #[.val (.int k0), .val (.int m1), .val (.long x1), .second, .val (.long x2), .second, .val (.int n), .val (.ref a9), .unset, .unset, .unset, .unset] [(.long x2), (.long x1), (.int m1), (.int (0 : Int32)), (.int (0 : Int32)), (.ref a9)])) (fun t_ k_ => XT.lload X4.here hx rfl (hb hby at_21) rfl k_) ?_
  obtain ⟨_, _, ⟨Tc14, Lc14, kc14, nc14⟩, -, Xc14, ⟨Lcc14, hQc14, lc14, yc14, zc14⟩, stc14⟩ := Jvm.LawKit.callS X4 hx (y := (⟨"com/example/llogari/llogari/rules/WrittenFormIsPaperPinLaw", "ch", "(IIJJ)C"⟩ : MethodName)) hown (mvT hZ (hw _ (List.mem_of_getElem? (i := 2) rfl))) (mvT hZ (hw _ (List.mem_of_getElem? (i := 3) rfl))) (mvT hZ (hw _ (List.mem_of_getElem? (i := 4) rfl))) (mvT hZ (hw _ (List.mem_of_getElem? (i := 5) rfl))) (by decide) (backOf (W := 2) (rm_ch l Z a0 hw [] (0 : Int32) m1 x1 x2 h2 n0 F12) hZ (hw _ (List.mem_of_getElem? (i := 5) rfl)) (hw _ (List.mem_of_getElem? (i := 4) rfl)) (by decide) (by decide)) (g := (mkF m 23 #[.val (.int k0), .val (.int m1), .val (.long x1), .second, .val (.long x2), .second, .val (.int n), .val (.ref a9), .unset, .unset, .unset, .unset] [(.long x2), (.long x1), (.int m1), (.int (0 : Int32)), (.int (0 : Int32)), (.ref a9)])) rfl (by rw [hml]; rfl) (argsL := [(.int (0 : Int32)), (.int m1), (.long x1), (.long x2)]) (rest := [(.int (0 : Int32)), (.ref a9)]) (lenOf pd_1 rfl) rfl (by show 2 * 0 + _ ≤ _; exact Nat.le_of_eq rfl) (hb hby at_23) (fun _ _ => ⟨rfl, e5, (by decide : 1 + 0 ≤ _), (by decide : 11 + 0 ≤ _)⟩)
  dsimp only [Pt.U, Pt.locs, Pt.cells, Pt.slots] at Xc14 lc14 yc14 zc14 stc14 hQc14
  subst lc14 yc14 zc14
  obtain ⟨⟨z17, rfl⟩, N15, e16⟩ := hQc14
  have N18 := Fr.app N0 N15
  refine own_step (T' := Tc14) (g' := (mkF m 26 #[.val (.int k0), .val (.int m1), .val (.long x1), .second, .val (.long x2), .second, .val (.int n), .val (.ref a9), .unset, .unset, .unset, .unset] [(.int z17), (.int (0 : Int32)), (.ref a9)])) stc14 ?_
  obtain ⟨cl19, Ar20, Lx21⟩ := id V13
  obtain ⟨T22, h23, X24, e25, W26, st27⟩ := stC Xc14 hx hZ e16 Ar20 (j := (0 : Int32)) (own_inb' Lx21 (n := 11) rfl (by decide) (by decide)) (g := (mkF m 26 #[.val (.int k0), .val (.int m1), .val (.long x1), .second, .val (.long x2), .second, .val (.int n), .val (.ref a9), .unset, .unset, .unset, .unset] [(.int z17), (.int (0 : Int32)), (.ref a9)])) rfl rfl (hb hby at_26)
  have N28 := Fr.snoc X24 N18 q11
  have F29 : n0 ≤ h23.size := Nat.le_trans F12 (Keep.of_wr W26).1
  have V30 : own_Arl Z h23 a9 .char [(.int (nar .char z17)), (.int (0 : Int32)), (.int (0 : Int32)), (.int (0 : Int32)), (.int (0 : Int32)), (.int (0 : Int32)), (.int (0 : Int32)), (.int (0 : Int32)), (.int (0 : Int32)), (.int (0 : Int32)), (.int (0 : Int32))] := own_Arl.set' (j := (0 : Int32)) V13 W26 (i := 0) (by decide)
  refine own_step (T' := T22) (g' := (mkF m 27 #[.val (.int k0), .val (.int m1), .val (.long x1), .second, .val (.long x2), .second, .val (.int n), .val (.ref a9), .unset, .unset, .unset, .unset] [])) st27 ?_
  refine own_step (T' := T22) (g' := (mkF m 29 #[.val (.int k0), .val (.int m1), .val (.long x1), .second, .val (.long x2), .second, .val (.int n), .val (.ref a9), .unset, .unset, .unset, .unset] [(.ref a9)])) (fun t_ k_ => XS.aload X24.here hx rfl (hb hby at_27) rfl rfl k_) ?_
  refine own_step (T' := T22) (g' := (mkF m 30 #[.val (.int k0), .val (.int m1), .val (.long x1), .second, .val (.long x2), .second, .val (.int n), .val (.ref a9), .unset, .unset, .unset, .unset] [(.int (1 : Int32)), (.ref a9)])) (fun t_ k_ => XT.iconstV X24.here hx rfl (1 : Int32) (hb hby at_29) (by decide) k_) ?_
  refine own_step (T' := T22) (g' := (mkF m 31 #[.val (.int k0), .val (.int m1), .val (.long x1), .second, .val (.long x2), .second, .val (.int n), .val (.ref a9), .unset, .unset, .unset, .unset] [(.int (1 : Int32)), (.int (1 : Int32)), (.ref a9)])) (fun t_ k_ => XT.iconstV X24.here hx rfl (1 : Int32) (hb hby at_30) (by decide) k_) ?_
  refine own_step (T' := T22) (g' := (mkF m 32 #[.val (.int k0), .val (.int m1), .val (.long x1), .second, .val (.long x2), .second, .val (.int n), .val (.ref a9), .unset, .unset, .unset, .unset] [(.int m1), (.int (1 : Int32)), (.int (1 : Int32)), (.ref a9)])) (fun t_ k_ => XS.iloadN X24.here hx rfl (hb hby at_31) rfl k_) ?_
  refine own_step (T' := T22) (g' := (mkF m 33 #[.val (.int k0), .val (.int m1), .val (.long x1), .second, .val (.long x2), .second, .val (.int n), .val (.ref a9), .unset, .unset, .unset, .unset] [(.long x1), (.int m1), (.int (1 : Int32)), (.int (1 : Int32)), (.ref a9)])) (fun t_ k_ => XT.lloadN X24.here hx rfl (hb hby at_32) rfl k_) ?_
  refine own_step (T' := T22) (g' := (mkF m 35 #[.val (.int k0), .val (.int m1), .val (.long x1), .second, .val (.long x2), .second, .val (.int n), .val (.ref a9), .unset, .unset, .unset, .unset] [(.long x2), (.long x1), (.int m1), (.int (1 : Int32)), (.int (1 : Int32)), (.ref a9)])) (fun t_ k_ => XT.lload X24.here hx rfl (hb hby at_33) rfl k_) ?_
  obtain ⟨_, _, ⟨Tc31, Lc31, kc31, nc31⟩, -, Xc31, ⟨Lcc31, hQc31, lc31, yc31, zc31⟩, stc31⟩ := Jvm.LawKit.callS X24 hx (y := (⟨"com/example/llogari/llogari/rules/WrittenFormIsPaperPinLaw", "ch", "(IIJJ)C"⟩ : MethodName)) hown (mvT hZ (hw _ (List.mem_of_getElem? (i := 2) rfl))) (mvT hZ (hw _ (List.mem_of_getElem? (i := 3) rfl))) (mvT hZ (hw _ (List.mem_of_getElem? (i := 4) rfl))) (mvT hZ (hw _ (List.mem_of_getElem? (i := 5) rfl))) (by decide) (backOf (W := 2) (rm_ch l Z a0 hw [] (1 : Int32) m1 x1 x2 h23 n0 F29) hZ (hw _ (List.mem_of_getElem? (i := 5) rfl)) (hw _ (List.mem_of_getElem? (i := 4) rfl)) (by decide) (by decide)) (g := (mkF m 35 #[.val (.int k0), .val (.int m1), .val (.long x1), .second, .val (.long x2), .second, .val (.int n), .val (.ref a9), .unset, .unset, .unset, .unset] [(.long x2), (.long x1), (.int m1), (.int (1 : Int32)), (.int (1 : Int32)), (.ref a9)])) rfl (by rw [hml]; rfl) (argsL := [(.int (1 : Int32)), (.int m1), (.long x1), (.long x2)]) (rest := [(.int (1 : Int32)), (.ref a9)]) (lenOf pd_1 rfl) rfl (by show 2 * 0 + _ ≤ _; exact Nat.le_of_eq rfl) (hb hby at_35) (fun _ _ => ⟨rfl, e25, (by decide : 1 + 0 ≤ _), (by decide : 11 + 0 ≤ _)⟩)
  dsimp only [Pt.U, Pt.locs, Pt.cells, Pt.slots] at Xc31 lc31 yc31 zc31 stc31 hQc31
  subst lc31 yc31 zc31
  obtain ⟨⟨z34, rfl⟩, N32, e33⟩ := hQc31
  have N35 := Fr.app N28 N32
  refine own_step (T' := Tc31) (g' := (mkF m 38 #[.val (.int k0), .val (.int m1), .val (.long x1), .second, .val (.long x2), .second, .val (.int n), .val (.ref a9), .unset, .unset, .unset, .unset] [(.int z34), (.int (1 : Int32)), (.ref a9)])) stc31 ?_
  obtain ⟨cl36, Ar37, Lx38⟩ := id V30
  obtain ⟨T39, h40, X41, e42, W43, st44⟩ := stC Xc31 hx hZ e33 Ar37 (j := (1 : Int32)) (own_inb' Lx38 (n := 11) rfl (by decide) (by decide)) (g := (mkF m 38 #[.val (.int k0), .val (.int m1), .val (.long x1), .second, .val (.long x2), .second, .val (.int n), .val (.ref a9), .unset, .unset, .unset, .unset] [(.int z34), (.int (1 : Int32)), (.ref a9)])) rfl rfl (hb hby at_38)
  have N45 := Fr.snoc X41 N35 q11
  have F46 : n0 ≤ h40.size := Nat.le_trans F29 (Keep.of_wr W43).1
  have V47 : own_Arl Z h40 a9 .char [(.int (nar .char z17)), (.int (nar .char z34)), (.int (0 : Int32)), (.int (0 : Int32)), (.int (0 : Int32)), (.int (0 : Int32)), (.int (0 : Int32)), (.int (0 : Int32)), (.int (0 : Int32)), (.int (0 : Int32)), (.int (0 : Int32))] := own_Arl.set' (j := (1 : Int32)) V30 W43 (i := 1) (by decide)
  refine own_step (T' := T39) (g' := (mkF m 39 #[.val (.int k0), .val (.int m1), .val (.long x1), .second, .val (.long x2), .second, .val (.int n), .val (.ref a9), .unset, .unset, .unset, .unset] [])) st44 ?_
  refine own_step (T' := T39) (g' := (mkF m 41 #[.val (.int k0), .val (.int m1), .val (.long x1), .second, .val (.long x2), .second, .val (.int n), .val (.ref a9), .unset, .unset, .unset, .unset] [(.ref a9)])) (fun t_ k_ => XS.aload X41.here hx rfl (hb hby at_39) rfl rfl k_) ?_
  refine own_step (T' := T39) (g' := (mkF m 42 #[.val (.int k0), .val (.int m1), .val (.long x1), .second, .val (.long x2), .second, .val (.int n), .val (.ref a9), .unset, .unset, .unset, .unset] [(.int (2 : Int32)), (.ref a9)])) (fun t_ k_ => XT.iconstV X41.here hx rfl (2 : Int32) (hb hby at_41) (by decide) k_) ?_
  refine own_step (T' := T39) (g' := (mkF m 43 #[.val (.int k0), .val (.int m1), .val (.long x1), .second, .val (.long x2), .second, .val (.int n), .val (.ref a9), .unset, .unset, .unset, .unset] [(.int (2 : Int32)), (.int (2 : Int32)), (.ref a9)])) (fun t_ k_ => XT.iconstV X41.here hx rfl (2 : Int32) (hb hby at_42) (by decide) k_) ?_
  refine own_step (T' := T39) (g' := (mkF m 44 #[.val (.int k0), .val (.int m1), .val (.long x1), .second, .val (.long x2), .second, .val (.int n), .val (.ref a9), .unset, .unset, .unset, .unset] [(.int m1), (.int (2 : Int32)), (.int (2 : Int32)), (.ref a9)])) (fun t_ k_ => XS.iloadN X41.here hx rfl (hb hby at_43) rfl k_) ?_
  refine own_step (T' := T39) (g' := (mkF m 45 #[.val (.int k0), .val (.int m1), .val (.long x1), .second, .val (.long x2), .second, .val (.int n), .val (.ref a9), .unset, .unset, .unset, .unset] [(.long x1), (.int m1), (.int (2 : Int32)), (.int (2 : Int32)), (.ref a9)])) (fun t_ k_ => XT.lloadN X41.here hx rfl (hb hby at_44) rfl k_) ?_
  refine own_step (T' := T39) (g' := (mkF m 47 #[.val (.int k0), .val (.int m1), .val (.long x1), .second, .val (.long x2), .second, .val (.int n), .val (.ref a9), .unset, .unset, .unset, .unset] [(.long x2), (.long x1), (.int m1), (.int (2 : Int32)), (.int (2 : Int32)), (.ref a9)])) (fun t_ k_ => XT.lload X41.here hx rfl (hb hby at_45) rfl k_) ?_
  obtain ⟨_, _, ⟨Tc48, Lc48, kc48, nc48⟩, -, Xc48, ⟨Lcc48, hQc48, lc48, yc48, zc48⟩, stc48⟩ := Jvm.LawKit.callS X41 hx (y := (⟨"com/example/llogari/llogari/rules/WrittenFormIsPaperPinLaw", "ch", "(IIJJ)C"⟩ : MethodName)) hown (mvT hZ (hw _ (List.mem_of_getElem? (i := 2) rfl))) (mvT hZ (hw _ (List.mem_of_getElem? (i := 3) rfl))) (mvT hZ (hw _ (List.mem_of_getElem? (i := 4) rfl))) (mvT hZ (hw _ (List.mem_of_getElem? (i := 5) rfl))) (by decide) (backOf (W := 2) (rm_ch l Z a0 hw [] (2 : Int32) m1 x1 x2 h40 n0 F46) hZ (hw _ (List.mem_of_getElem? (i := 5) rfl)) (hw _ (List.mem_of_getElem? (i := 4) rfl)) (by decide) (by decide)) (g := (mkF m 47 #[.val (.int k0), .val (.int m1), .val (.long x1), .second, .val (.long x2), .second, .val (.int n), .val (.ref a9), .unset, .unset, .unset, .unset] [(.long x2), (.long x1), (.int m1), (.int (2 : Int32)), (.int (2 : Int32)), (.ref a9)])) rfl (by rw [hml]; rfl) (argsL := [(.int (2 : Int32)), (.int m1), (.long x1), (.long x2)]) (rest := [(.int (2 : Int32)), (.ref a9)]) (lenOf pd_1 rfl) rfl (by show 2 * 0 + _ ≤ _; exact Nat.le_of_eq rfl) (hb hby at_47) (fun _ _ => ⟨rfl, e42, (by decide : 1 + 0 ≤ _), (by decide : 11 + 0 ≤ _)⟩)
  dsimp only [Pt.U, Pt.locs, Pt.cells, Pt.slots] at Xc48 lc48 yc48 zc48 stc48 hQc48
  subst lc48 yc48 zc48
  obtain ⟨⟨z51, rfl⟩, N49, e50⟩ := hQc48
  have N52 := Fr.app N45 N49
  refine own_step (T' := Tc48) (g' := (mkF m 50 #[.val (.int k0), .val (.int m1), .val (.long x1), .second, .val (.long x2), .second, .val (.int n), .val (.ref a9), .unset, .unset, .unset, .unset] [(.int z51), (.int (2 : Int32)), (.ref a9)])) stc48 ?_
  obtain ⟨cl53, Ar54, Lx55⟩ := id V47
  obtain ⟨T56, h57, X58, e59, W60, st61⟩ := stC Xc48 hx hZ e50 Ar54 (j := (2 : Int32)) (own_inb' Lx55 (n := 11) rfl (by decide) (by decide)) (g := (mkF m 50 #[.val (.int k0), .val (.int m1), .val (.long x1), .second, .val (.long x2), .second, .val (.int n), .val (.ref a9), .unset, .unset, .unset, .unset] [(.int z51), (.int (2 : Int32)), (.ref a9)])) rfl rfl (hb hby at_50)
  have N62 := Fr.snoc X58 N52 q11
  have F63 : n0 ≤ h57.size := Nat.le_trans F46 (Keep.of_wr W60).1
  have V64 : own_Arl Z h57 a9 .char [(.int (nar .char z17)), (.int (nar .char z34)), (.int (nar .char z51)), (.int (0 : Int32)), (.int (0 : Int32)), (.int (0 : Int32)), (.int (0 : Int32)), (.int (0 : Int32)), (.int (0 : Int32)), (.int (0 : Int32)), (.int (0 : Int32))] := own_Arl.set' (j := (2 : Int32)) V47 W60 (i := 2) (by decide)
  refine own_step (T' := T56) (g' := (mkF m 51 #[.val (.int k0), .val (.int m1), .val (.long x1), .second, .val (.long x2), .second, .val (.int n), .val (.ref a9), .unset, .unset, .unset, .unset] [])) st61 ?_
  refine own_step (T' := T56) (g' := (mkF m 53 #[.val (.int k0), .val (.int m1), .val (.long x1), .second, .val (.long x2), .second, .val (.int n), .val (.ref a9), .unset, .unset, .unset, .unset] [(.ref a9)])) (fun t_ k_ => XS.aload X58.here hx rfl (hb hby at_51) rfl rfl k_) ?_
  refine own_step (T' := T56) (g' := (mkF m 54 #[.val (.int k0), .val (.int m1), .val (.long x1), .second, .val (.long x2), .second, .val (.int n), .val (.ref a9), .unset, .unset, .unset, .unset] [(.int (3 : Int32)), (.ref a9)])) (fun t_ k_ => XT.iconstV X58.here hx rfl (3 : Int32) (hb hby at_53) (by decide) k_) ?_
  refine own_step (T' := T56) (g' := (mkF m 55 #[.val (.int k0), .val (.int m1), .val (.long x1), .second, .val (.long x2), .second, .val (.int n), .val (.ref a9), .unset, .unset, .unset, .unset] [(.int (3 : Int32)), (.int (3 : Int32)), (.ref a9)])) (fun t_ k_ => XT.iconstV X58.here hx rfl (3 : Int32) (hb hby at_54) (by decide) k_) ?_
  refine own_step (T' := T56) (g' := (mkF m 56 #[.val (.int k0), .val (.int m1), .val (.long x1), .second, .val (.long x2), .second, .val (.int n), .val (.ref a9), .unset, .unset, .unset, .unset] [(.int m1), (.int (3 : Int32)), (.int (3 : Int32)), (.ref a9)])) (fun t_ k_ => XS.iloadN X58.here hx rfl (hb hby at_55) rfl k_) ?_
  refine own_step (T' := T56) (g' := (mkF m 57 #[.val (.int k0), .val (.int m1), .val (.long x1), .second, .val (.long x2), .second, .val (.int n), .val (.ref a9), .unset, .unset, .unset, .unset] [(.long x1), (.int m1), (.int (3 : Int32)), (.int (3 : Int32)), (.ref a9)])) (fun t_ k_ => XT.lloadN X58.here hx rfl (hb hby at_56) rfl k_) ?_
  refine own_step (T' := T56) (g' := (mkF m 59 #[.val (.int k0), .val (.int m1), .val (.long x1), .second, .val (.long x2), .second, .val (.int n), .val (.ref a9), .unset, .unset, .unset, .unset] [(.long x2), (.long x1), (.int m1), (.int (3 : Int32)), (.int (3 : Int32)), (.ref a9)])) (fun t_ k_ => XT.lload X58.here hx rfl (hb hby at_57) rfl k_) ?_
  obtain ⟨_, _, ⟨Tc65, Lc65, kc65, nc65⟩, -, Xc65, ⟨Lcc65, hQc65, lc65, yc65, zc65⟩, stc65⟩ := Jvm.LawKit.callS X58 hx (y := (⟨"com/example/llogari/llogari/rules/WrittenFormIsPaperPinLaw", "ch", "(IIJJ)C"⟩ : MethodName)) hown (mvT hZ (hw _ (List.mem_of_getElem? (i := 2) rfl))) (mvT hZ (hw _ (List.mem_of_getElem? (i := 3) rfl))) (mvT hZ (hw _ (List.mem_of_getElem? (i := 4) rfl))) (mvT hZ (hw _ (List.mem_of_getElem? (i := 5) rfl))) (by decide) (backOf (W := 2) (rm_ch l Z a0 hw [] (3 : Int32) m1 x1 x2 h57 n0 F63) hZ (hw _ (List.mem_of_getElem? (i := 5) rfl)) (hw _ (List.mem_of_getElem? (i := 4) rfl)) (by decide) (by decide)) (g := (mkF m 59 #[.val (.int k0), .val (.int m1), .val (.long x1), .second, .val (.long x2), .second, .val (.int n), .val (.ref a9), .unset, .unset, .unset, .unset] [(.long x2), (.long x1), (.int m1), (.int (3 : Int32)), (.int (3 : Int32)), (.ref a9)])) rfl (by rw [hml]; rfl) (argsL := [(.int (3 : Int32)), (.int m1), (.long x1), (.long x2)]) (rest := [(.int (3 : Int32)), (.ref a9)]) (lenOf pd_1 rfl) rfl (by show 2 * 0 + _ ≤ _; exact Nat.le_of_eq rfl) (hb hby at_59) (fun _ _ => ⟨rfl, e59, (by decide : 1 + 0 ≤ _), (by decide : 11 + 0 ≤ _)⟩)
  dsimp only [Pt.U, Pt.locs, Pt.cells, Pt.slots] at Xc65 lc65 yc65 zc65 stc65 hQc65
  subst lc65 yc65 zc65
  obtain ⟨⟨z68, rfl⟩, N66, e67⟩ := hQc65
  have N69 := Fr.app N62 N66
  refine own_step (T' := Tc65) (g' := (mkF m 62 #[.val (.int k0), .val (.int m1), .val (.long x1), .second, .val (.long x2), .second, .val (.int n), .val (.ref a9), .unset, .unset, .unset, .unset] [(.int z68), (.int (3 : Int32)), (.ref a9)])) stc65 ?_
  obtain ⟨cl70, Ar71, Lx72⟩ := id V64
  obtain ⟨T73, h74, X75, e76, W77, st78⟩ := stC Xc65 hx hZ e67 Ar71 (j := (3 : Int32)) (own_inb' Lx72 (n := 11) rfl (by decide) (by decide)) (g := (mkF m 62 #[.val (.int k0), .val (.int m1), .val (.long x1), .second, .val (.long x2), .second, .val (.int n), .val (.ref a9), .unset, .unset, .unset, .unset] [(.int z68), (.int (3 : Int32)), (.ref a9)])) rfl rfl (hb hby at_62)
  have N79 := Fr.snoc X75 N69 q11
  have F80 : n0 ≤ h74.size := Nat.le_trans F63 (Keep.of_wr W77).1
  have V81 : own_Arl Z h74 a9 .char [(.int (nar .char z17)), (.int (nar .char z34)), (.int (nar .char z51)), (.int (nar .char z68)), (.int (0 : Int32)), (.int (0 : Int32)), (.int (0 : Int32)), (.int (0 : Int32)), (.int (0 : Int32)), (.int (0 : Int32)), (.int (0 : Int32))] := own_Arl.set' (j := (3 : Int32)) V64 W77 (i := 3) (by decide)
  refine own_step (T' := T73) (g' := (mkF m 63 #[.val (.int k0), .val (.int m1), .val (.long x1), .second, .val (.long x2), .second, .val (.int n), .val (.ref a9), .unset, .unset, .unset, .unset] [])) st78 ?_
  refine own_step (T' := T73) (g' := (mkF m 65 #[.val (.int k0), .val (.int m1), .val (.long x1), .second, .val (.long x2), .second, .val (.int n), .val (.ref a9), .unset, .unset, .unset, .unset] [(.ref a9)])) (fun t_ k_ => XS.aload X75.here hx rfl (hb hby at_63) rfl rfl k_) ?_
  refine own_step (T' := T73) (g' := (mkF m 66 #[.val (.int k0), .val (.int m1), .val (.long x1), .second, .val (.long x2), .second, .val (.int n), .val (.ref a9), .unset, .unset, .unset, .unset] [(.int (4 : Int32)), (.ref a9)])) (fun t_ k_ => XT.iconstV X75.here hx rfl (4 : Int32) (hb hby at_65) (by decide) k_) ?_
  refine own_step (T' := T73) (g' := (mkF m 67 #[.val (.int k0), .val (.int m1), .val (.long x1), .second, .val (.long x2), .second, .val (.int n), .val (.ref a9), .unset, .unset, .unset, .unset] [(.int (4 : Int32)), (.int (4 : Int32)), (.ref a9)])) (fun t_ k_ => XT.iconstV X75.here hx rfl (4 : Int32) (hb hby at_66) (by decide) k_) ?_
  refine own_step (T' := T73) (g' := (mkF m 68 #[.val (.int k0), .val (.int m1), .val (.long x1), .second, .val (.long x2), .second, .val (.int n), .val (.ref a9), .unset, .unset, .unset, .unset] [(.int m1), (.int (4 : Int32)), (.int (4 : Int32)), (.ref a9)])) (fun t_ k_ => XS.iloadN X75.here hx rfl (hb hby at_67) rfl k_) ?_
  refine own_step (T' := T73) (g' := (mkF m 69 #[.val (.int k0), .val (.int m1), .val (.long x1), .second, .val (.long x2), .second, .val (.int n), .val (.ref a9), .unset, .unset, .unset, .unset] [(.long x1), (.int m1), (.int (4 : Int32)), (.int (4 : Int32)), (.ref a9)])) (fun t_ k_ => XT.lloadN X75.here hx rfl (hb hby at_68) rfl k_) ?_
  refine own_step (T' := T73) (g' := (mkF m 71 #[.val (.int k0), .val (.int m1), .val (.long x1), .second, .val (.long x2), .second, .val (.int n), .val (.ref a9), .unset, .unset, .unset, .unset] [(.long x2), (.long x1), (.int m1), (.int (4 : Int32)), (.int (4 : Int32)), (.ref a9)])) (fun t_ k_ => XT.lload X75.here hx rfl (hb hby at_69) rfl k_) ?_
  obtain ⟨_, _, ⟨Tc82, Lc82, kc82, nc82⟩, -, Xc82, ⟨Lcc82, hQc82, lc82, yc82, zc82⟩, stc82⟩ := Jvm.LawKit.callS X75 hx (y := (⟨"com/example/llogari/llogari/rules/WrittenFormIsPaperPinLaw", "ch", "(IIJJ)C"⟩ : MethodName)) hown (mvT hZ (hw _ (List.mem_of_getElem? (i := 2) rfl))) (mvT hZ (hw _ (List.mem_of_getElem? (i := 3) rfl))) (mvT hZ (hw _ (List.mem_of_getElem? (i := 4) rfl))) (mvT hZ (hw _ (List.mem_of_getElem? (i := 5) rfl))) (by decide) (backOf (W := 2) (rm_ch l Z a0 hw [] (4 : Int32) m1 x1 x2 h74 n0 F80) hZ (hw _ (List.mem_of_getElem? (i := 5) rfl)) (hw _ (List.mem_of_getElem? (i := 4) rfl)) (by decide) (by decide)) (g := (mkF m 71 #[.val (.int k0), .val (.int m1), .val (.long x1), .second, .val (.long x2), .second, .val (.int n), .val (.ref a9), .unset, .unset, .unset, .unset] [(.long x2), (.long x1), (.int m1), (.int (4 : Int32)), (.int (4 : Int32)), (.ref a9)])) rfl (by rw [hml]; rfl) (argsL := [(.int (4 : Int32)), (.int m1), (.long x1), (.long x2)]) (rest := [(.int (4 : Int32)), (.ref a9)]) (lenOf pd_1 rfl) rfl (by show 2 * 0 + _ ≤ _; exact Nat.le_of_eq rfl) (hb hby at_71) (fun _ _ => ⟨rfl, e76, (by decide : 1 + 0 ≤ _), (by decide : 11 + 0 ≤ _)⟩)
  dsimp only [Pt.U, Pt.locs, Pt.cells, Pt.slots] at Xc82 lc82 yc82 zc82 stc82 hQc82
  subst lc82 yc82 zc82
  obtain ⟨⟨z85, rfl⟩, N83, e84⟩ := hQc82
  have N86 := Fr.app N79 N83
  refine own_step (T' := Tc82) (g' := (mkF m 74 #[.val (.int k0), .val (.int m1), .val (.long x1), .second, .val (.long x2), .second, .val (.int n), .val (.ref a9), .unset, .unset, .unset, .unset] [(.int z85), (.int (4 : Int32)), (.ref a9)])) stc82 ?_
  obtain ⟨cl87, Ar88, Lx89⟩ := id V81
  obtain ⟨T90, h91, X92, e93, W94, st95⟩ := stC Xc82 hx hZ e84 Ar88 (j := (4 : Int32)) (own_inb' Lx89 (n := 11) rfl (by decide) (by decide)) (g := (mkF m 74 #[.val (.int k0), .val (.int m1), .val (.long x1), .second, .val (.long x2), .second, .val (.int n), .val (.ref a9), .unset, .unset, .unset, .unset] [(.int z85), (.int (4 : Int32)), (.ref a9)])) rfl rfl (hb hby at_74)
  have N96 := Fr.snoc X92 N86 q11
  have F97 : n0 ≤ h91.size := Nat.le_trans F80 (Keep.of_wr W94).1
  have V98 : own_Arl Z h91 a9 .char [(.int (nar .char z17)), (.int (nar .char z34)), (.int (nar .char z51)), (.int (nar .char z68)), (.int (nar .char z85)), (.int (0 : Int32)), (.int (0 : Int32)), (.int (0 : Int32)), (.int (0 : Int32)), (.int (0 : Int32)), (.int (0 : Int32))] := own_Arl.set' (j := (4 : Int32)) V81 W94 (i := 4) (by decide)
  refine own_step (T' := T90) (g' := (mkF m 75 #[.val (.int k0), .val (.int m1), .val (.long x1), .second, .val (.long x2), .second, .val (.int n), .val (.ref a9), .unset, .unset, .unset, .unset] [])) st95 ?_
  refine own_step (T' := T90) (g' := (mkF m 77 #[.val (.int k0), .val (.int m1), .val (.long x1), .second, .val (.long x2), .second, .val (.int n), .val (.ref a9), .unset, .unset, .unset, .unset] [(.ref a9)])) (fun t_ k_ => XS.aload X92.here hx rfl (hb hby at_75) rfl rfl k_) ?_
  refine own_step (T' := T90) (g' := (mkF m 78 #[.val (.int k0), .val (.int m1), .val (.long x1), .second, .val (.long x2), .second, .val (.int n), .val (.ref a9), .unset, .unset, .unset, .unset] [(.int (5 : Int32)), (.ref a9)])) (fun t_ k_ => XT.iconstV X92.here hx rfl (5 : Int32) (hb hby at_77) (by decide) k_) ?_
  refine own_step (T' := T90) (g' := (mkF m 79 #[.val (.int k0), .val (.int m1), .val (.long x1), .second, .val (.long x2), .second, .val (.int n), .val (.ref a9), .unset, .unset, .unset, .unset] [(.int (5 : Int32)), (.int (5 : Int32)), (.ref a9)])) (fun t_ k_ => XT.iconstV X92.here hx rfl (5 : Int32) (hb hby at_78) (by decide) k_) ?_
  refine own_step (T' := T90) (g' := (mkF m 80 #[.val (.int k0), .val (.int m1), .val (.long x1), .second, .val (.long x2), .second, .val (.int n), .val (.ref a9), .unset, .unset, .unset, .unset] [(.int m1), (.int (5 : Int32)), (.int (5 : Int32)), (.ref a9)])) (fun t_ k_ => XS.iloadN X92.here hx rfl (hb hby at_79) rfl k_) ?_
  refine own_step (T' := T90) (g' := (mkF m 81 #[.val (.int k0), .val (.int m1), .val (.long x1), .second, .val (.long x2), .second, .val (.int n), .val (.ref a9), .unset, .unset, .unset, .unset] [(.long x1), (.int m1), (.int (5 : Int32)), (.int (5 : Int32)), (.ref a9)])) (fun t_ k_ => XT.lloadN X92.here hx rfl (hb hby at_80) rfl k_) ?_
  refine own_step (T' := T90) (g' := (mkF m 83 #[.val (.int k0), .val (.int m1), .val (.long x1), .second, .val (.long x2), .second, .val (.int n), .val (.ref a9), .unset, .unset, .unset, .unset] [(.long x2), (.long x1), (.int m1), (.int (5 : Int32)), (.int (5 : Int32)), (.ref a9)])) (fun t_ k_ => XT.lload X92.here hx rfl (hb hby at_81) rfl k_) ?_
  obtain ⟨_, _, ⟨Tc99, Lc99, kc99, nc99⟩, -, Xc99, ⟨Lcc99, hQc99, lc99, yc99, zc99⟩, stc99⟩ := Jvm.LawKit.callS X92 hx (y := (⟨"com/example/llogari/llogari/rules/WrittenFormIsPaperPinLaw", "ch", "(IIJJ)C"⟩ : MethodName)) hown (mvT hZ (hw _ (List.mem_of_getElem? (i := 2) rfl))) (mvT hZ (hw _ (List.mem_of_getElem? (i := 3) rfl))) (mvT hZ (hw _ (List.mem_of_getElem? (i := 4) rfl))) (mvT hZ (hw _ (List.mem_of_getElem? (i := 5) rfl))) (by decide) (backOf (W := 2) (rm_ch l Z a0 hw [] (5 : Int32) m1 x1 x2 h91 n0 F97) hZ (hw _ (List.mem_of_getElem? (i := 5) rfl)) (hw _ (List.mem_of_getElem? (i := 4) rfl)) (by decide) (by decide)) (g := (mkF m 83 #[.val (.int k0), .val (.int m1), .val (.long x1), .second, .val (.long x2), .second, .val (.int n), .val (.ref a9), .unset, .unset, .unset, .unset] [(.long x2), (.long x1), (.int m1), (.int (5 : Int32)), (.int (5 : Int32)), (.ref a9)])) rfl (by rw [hml]; rfl) (argsL := [(.int (5 : Int32)), (.int m1), (.long x1), (.long x2)]) (rest := [(.int (5 : Int32)), (.ref a9)]) (lenOf pd_1 rfl) rfl (by show 2 * 0 + _ ≤ _; exact Nat.le_of_eq rfl) (hb hby at_83) (fun _ _ => ⟨rfl, e93, (by decide : 1 + 0 ≤ _), (by decide : 11 + 0 ≤ _)⟩)
  dsimp only [Pt.U, Pt.locs, Pt.cells, Pt.slots] at Xc99 lc99 yc99 zc99 stc99 hQc99
  subst lc99 yc99 zc99
  obtain ⟨⟨z102, rfl⟩, N100, e101⟩ := hQc99
  have N103 := Fr.app N96 N100
  refine own_step (T' := Tc99) (g' := (mkF m 86 #[.val (.int k0), .val (.int m1), .val (.long x1), .second, .val (.long x2), .second, .val (.int n), .val (.ref a9), .unset, .unset, .unset, .unset] [(.int z102), (.int (5 : Int32)), (.ref a9)])) stc99 ?_
  obtain ⟨cl104, Ar105, Lx106⟩ := id V98
  obtain ⟨T107, h108, X109, e110, W111, st112⟩ := stC Xc99 hx hZ e101 Ar105 (j := (5 : Int32)) (own_inb' Lx106 (n := 11) rfl (by decide) (by decide)) (g := (mkF m 86 #[.val (.int k0), .val (.int m1), .val (.long x1), .second, .val (.long x2), .second, .val (.int n), .val (.ref a9), .unset, .unset, .unset, .unset] [(.int z102), (.int (5 : Int32)), (.ref a9)])) rfl rfl (hb hby at_86)
  have N113 := Fr.snoc X109 N103 q11
  have F114 : n0 ≤ h108.size := Nat.le_trans F97 (Keep.of_wr W111).1
  have V115 : own_Arl Z h108 a9 .char [(.int (nar .char z17)), (.int (nar .char z34)), (.int (nar .char z51)), (.int (nar .char z68)), (.int (nar .char z85)), (.int (nar .char z102)), (.int (0 : Int32)), (.int (0 : Int32)), (.int (0 : Int32)), (.int (0 : Int32)), (.int (0 : Int32))] := own_Arl.set' (j := (5 : Int32)) V98 W111 (i := 5) (by decide)
  refine own_step (T' := T107) (g' := (mkF m 87 #[.val (.int k0), .val (.int m1), .val (.long x1), .second, .val (.long x2), .second, .val (.int n), .val (.ref a9), .unset, .unset, .unset, .unset] [])) st112 ?_
  refine own_step (T' := T107) (g' := (mkF m 89 #[.val (.int k0), .val (.int m1), .val (.long x1), .second, .val (.long x2), .second, .val (.int n), .val (.ref a9), .unset, .unset, .unset, .unset] [(.ref a9)])) (fun t_ k_ => XS.aload X109.here hx rfl (hb hby at_87) rfl rfl k_) ?_
  refine own_step (T' := T107) (g' := (mkF m 91 #[.val (.int k0), .val (.int m1), .val (.long x1), .second, .val (.long x2), .second, .val (.int n), .val (.ref a9), .unset, .unset, .unset, .unset] [(.int (6 : Int32)), (.ref a9)])) (fun t_ k_ => XT.bipushV X109.here hx rfl (6 : Int32) (hb hby at_89) (by decide) k_) ?_
  refine own_step (T' := T107) (g' := (mkF m 93 #[.val (.int k0), .val (.int m1), .val (.long x1), .second, .val (.long x2), .second, .val (.int n), .val (.ref a9), .unset, .unset, .unset, .unset] [(.int (6 : Int32)), (.int (6 : Int32)), (.ref a9)])) (fun t_ k_ => XT.bipushV X109.here hx rfl (6 : Int32) (hb hby at_91) (by decide) k_) ?_
  refine own_step (T' := T107) (g' := (mkF m 94 #[.val (.int k0), .val (.int m1), .val (.long x1), .second, .val (.long x2), .second, .val (.int n), .val (.ref a9), .unset, .unset, .unset, .unset] [(.int m1), (.int (6 : Int32)), (.int (6 : Int32)), (.ref a9)])) (fun t_ k_ => XS.iloadN X109.here hx rfl (hb hby at_93) rfl k_) ?_
  refine own_step (T' := T107) (g' := (mkF m 95 #[.val (.int k0), .val (.int m1), .val (.long x1), .second, .val (.long x2), .second, .val (.int n), .val (.ref a9), .unset, .unset, .unset, .unset] [(.long x1), (.int m1), (.int (6 : Int32)), (.int (6 : Int32)), (.ref a9)])) (fun t_ k_ => XT.lloadN X109.here hx rfl (hb hby at_94) rfl k_) ?_
  refine own_step (T' := T107) (g' := (mkF m 97 #[.val (.int k0), .val (.int m1), .val (.long x1), .second, .val (.long x2), .second, .val (.int n), .val (.ref a9), .unset, .unset, .unset, .unset] [(.long x2), (.long x1), (.int m1), (.int (6 : Int32)), (.int (6 : Int32)), (.ref a9)])) (fun t_ k_ => XT.lload X109.here hx rfl (hb hby at_95) rfl k_) ?_
  obtain ⟨_, _, ⟨Tc116, Lc116, kc116, nc116⟩, -, Xc116, ⟨Lcc116, hQc116, lc116, yc116, zc116⟩, stc116⟩ := Jvm.LawKit.callS X109 hx (y := (⟨"com/example/llogari/llogari/rules/WrittenFormIsPaperPinLaw", "ch", "(IIJJ)C"⟩ : MethodName)) hown (mvT hZ (hw _ (List.mem_of_getElem? (i := 2) rfl))) (mvT hZ (hw _ (List.mem_of_getElem? (i := 3) rfl))) (mvT hZ (hw _ (List.mem_of_getElem? (i := 4) rfl))) (mvT hZ (hw _ (List.mem_of_getElem? (i := 5) rfl))) (by decide) (backOf (W := 2) (rm_ch l Z a0 hw [] (6 : Int32) m1 x1 x2 h108 n0 F114) hZ (hw _ (List.mem_of_getElem? (i := 5) rfl)) (hw _ (List.mem_of_getElem? (i := 4) rfl)) (by decide) (by decide)) (g := (mkF m 97 #[.val (.int k0), .val (.int m1), .val (.long x1), .second, .val (.long x2), .second, .val (.int n), .val (.ref a9), .unset, .unset, .unset, .unset] [(.long x2), (.long x1), (.int m1), (.int (6 : Int32)), (.int (6 : Int32)), (.ref a9)])) rfl (by rw [hml]; rfl) (argsL := [(.int (6 : Int32)), (.int m1), (.long x1), (.long x2)]) (rest := [(.int (6 : Int32)), (.ref a9)]) (lenOf pd_1 rfl) rfl (by show 2 * 0 + _ ≤ _; exact Nat.le_of_eq rfl) (hb hby at_97) (fun _ _ => ⟨rfl, e110, (by decide : 1 + 0 ≤ _), (by decide : 11 + 0 ≤ _)⟩)
  dsimp only [Pt.U, Pt.locs, Pt.cells, Pt.slots] at Xc116 lc116 yc116 zc116 stc116 hQc116
  subst lc116 yc116 zc116
  obtain ⟨⟨z119, rfl⟩, N117, e118⟩ := hQc116
  have N120 := Fr.app N113 N117
  refine own_step (T' := Tc116) (g' := (mkF m 100 #[.val (.int k0), .val (.int m1), .val (.long x1), .second, .val (.long x2), .second, .val (.int n), .val (.ref a9), .unset, .unset, .unset, .unset] [(.int z119), (.int (6 : Int32)), (.ref a9)])) stc116 ?_
  obtain ⟨cl121, Ar122, Lx123⟩ := id V115
  obtain ⟨T124, h125, X126, e127, W128, st129⟩ := stC Xc116 hx hZ e118 Ar122 (j := (6 : Int32)) (own_inb' Lx123 (n := 11) rfl (by decide) (by decide)) (g := (mkF m 100 #[.val (.int k0), .val (.int m1), .val (.long x1), .second, .val (.long x2), .second, .val (.int n), .val (.ref a9), .unset, .unset, .unset, .unset] [(.int z119), (.int (6 : Int32)), (.ref a9)])) rfl rfl (hb hby at_100)
  have N130 := Fr.snoc X126 N120 q11
  have F131 : n0 ≤ h125.size := Nat.le_trans F114 (Keep.of_wr W128).1
  have V132 : own_Arl Z h125 a9 .char [(.int (nar .char z17)), (.int (nar .char z34)), (.int (nar .char z51)), (.int (nar .char z68)), (.int (nar .char z85)), (.int (nar .char z102)), (.int (nar .char z119)), (.int (0 : Int32)), (.int (0 : Int32)), (.int (0 : Int32)), (.int (0 : Int32))] := own_Arl.set' (j := (6 : Int32)) V115 W128 (i := 6) (by decide)
  refine own_step (T' := T124) (g' := (mkF m 101 #[.val (.int k0), .val (.int m1), .val (.long x1), .second, .val (.long x2), .second, .val (.int n), .val (.ref a9), .unset, .unset, .unset, .unset] [])) st129 ?_
  refine own_step (T' := T124) (g' := (mkF m 103 #[.val (.int k0), .val (.int m1), .val (.long x1), .second, .val (.long x2), .second, .val (.int n), .val (.ref a9), .unset, .unset, .unset, .unset] [(.ref a9)])) (fun t_ k_ => XS.aload X126.here hx rfl (hb hby at_101) rfl rfl k_) ?_
  refine own_step (T' := T124) (g' := (mkF m 105 #[.val (.int k0), .val (.int m1), .val (.long x1), .second, .val (.long x2), .second, .val (.int n), .val (.ref a9), .unset, .unset, .unset, .unset] [(.int (7 : Int32)), (.ref a9)])) (fun t_ k_ => XT.bipushV X126.here hx rfl (7 : Int32) (hb hby at_103) (by decide) k_) ?_
  refine own_step (T' := T124) (g' := (mkF m 107 #[.val (.int k0), .val (.int m1), .val (.long x1), .second, .val (.long x2), .second, .val (.int n), .val (.ref a9), .unset, .unset, .unset, .unset] [(.int (7 : Int32)), (.int (7 : Int32)), (.ref a9)])) (fun t_ k_ => XT.bipushV X126.here hx rfl (7 : Int32) (hb hby at_105) (by decide) k_) ?_
  refine own_step (T' := T124) (g' := (mkF m 108 #[.val (.int k0), .val (.int m1), .val (.long x1), .second, .val (.long x2), .second, .val (.int n), .val (.ref a9), .unset, .unset, .unset, .unset] [(.int m1), (.int (7 : Int32)), (.int (7 : Int32)), (.ref a9)])) (fun t_ k_ => XS.iloadN X126.here hx rfl (hb hby at_107) rfl k_) ?_
  refine own_step (T' := T124) (g' := (mkF m 109 #[.val (.int k0), .val (.int m1), .val (.long x1), .second, .val (.long x2), .second, .val (.int n), .val (.ref a9), .unset, .unset, .unset, .unset] [(.long x1), (.int m1), (.int (7 : Int32)), (.int (7 : Int32)), (.ref a9)])) (fun t_ k_ => XT.lloadN X126.here hx rfl (hb hby at_108) rfl k_) ?_
  refine own_step (T' := T124) (g' := (mkF m 111 #[.val (.int k0), .val (.int m1), .val (.long x1), .second, .val (.long x2), .second, .val (.int n), .val (.ref a9), .unset, .unset, .unset, .unset] [(.long x2), (.long x1), (.int m1), (.int (7 : Int32)), (.int (7 : Int32)), (.ref a9)])) (fun t_ k_ => XT.lload X126.here hx rfl (hb hby at_109) rfl k_) ?_
  obtain ⟨_, _, ⟨Tc133, Lc133, kc133, nc133⟩, -, Xc133, ⟨Lcc133, hQc133, lc133, yc133, zc133⟩, stc133⟩ := Jvm.LawKit.callS X126 hx (y := (⟨"com/example/llogari/llogari/rules/WrittenFormIsPaperPinLaw", "ch", "(IIJJ)C"⟩ : MethodName)) hown (mvT hZ (hw _ (List.mem_of_getElem? (i := 2) rfl))) (mvT hZ (hw _ (List.mem_of_getElem? (i := 3) rfl))) (mvT hZ (hw _ (List.mem_of_getElem? (i := 4) rfl))) (mvT hZ (hw _ (List.mem_of_getElem? (i := 5) rfl))) (by decide) (backOf (W := 2) (rm_ch l Z a0 hw [] (7 : Int32) m1 x1 x2 h125 n0 F131) hZ (hw _ (List.mem_of_getElem? (i := 5) rfl)) (hw _ (List.mem_of_getElem? (i := 4) rfl)) (by decide) (by decide)) (g := (mkF m 111 #[.val (.int k0), .val (.int m1), .val (.long x1), .second, .val (.long x2), .second, .val (.int n), .val (.ref a9), .unset, .unset, .unset, .unset] [(.long x2), (.long x1), (.int m1), (.int (7 : Int32)), (.int (7 : Int32)), (.ref a9)])) rfl (by rw [hml]; rfl) (argsL := [(.int (7 : Int32)), (.int m1), (.long x1), (.long x2)]) (rest := [(.int (7 : Int32)), (.ref a9)]) (lenOf pd_1 rfl) rfl (by show 2 * 0 + _ ≤ _; exact Nat.le_of_eq rfl) (hb hby at_111) (fun _ _ => ⟨rfl, e127, (by decide : 1 + 0 ≤ _), (by decide : 11 + 0 ≤ _)⟩)
  dsimp only [Pt.U, Pt.locs, Pt.cells, Pt.slots] at Xc133 lc133 yc133 zc133 stc133 hQc133
  subst lc133 yc133 zc133
  obtain ⟨⟨z136, rfl⟩, N134, e135⟩ := hQc133
  have N137 := Fr.app N130 N134
  refine own_step (T' := Tc133) (g' := (mkF m 114 #[.val (.int k0), .val (.int m1), .val (.long x1), .second, .val (.long x2), .second, .val (.int n), .val (.ref a9), .unset, .unset, .unset, .unset] [(.int z136), (.int (7 : Int32)), (.ref a9)])) stc133 ?_
  obtain ⟨cl138, Ar139, Lx140⟩ := id V132
  obtain ⟨T141, h142, X143, e144, W145, st146⟩ := stC Xc133 hx hZ e135 Ar139 (j := (7 : Int32)) (own_inb' Lx140 (n := 11) rfl (by decide) (by decide)) (g := (mkF m 114 #[.val (.int k0), .val (.int m1), .val (.long x1), .second, .val (.long x2), .second, .val (.int n), .val (.ref a9), .unset, .unset, .unset, .unset] [(.int z136), (.int (7 : Int32)), (.ref a9)])) rfl rfl (hb hby at_114)
  have N147 := Fr.snoc X143 N137 q11
  have F148 : n0 ≤ h142.size := Nat.le_trans F131 (Keep.of_wr W145).1
  have V149 : own_Arl Z h142 a9 .char [(.int (nar .char z17)), (.int (nar .char z34)), (.int (nar .char z51)), (.int (nar .char z68)), (.int (nar .char z85)), (.int (nar .char z102)), (.int (nar .char z119)), (.int (nar .char z136)), (.int (0 : Int32)), (.int (0 : Int32)), (.int (0 : Int32))] := own_Arl.set' (j := (7 : Int32)) V132 W145 (i := 7) (by decide)
  refine own_step (T' := T141) (g' := (mkF m 115 #[.val (.int k0), .val (.int m1), .val (.long x1), .second, .val (.long x2), .second, .val (.int n), .val (.ref a9), .unset, .unset, .unset, .unset] [])) st146 ?_
  refine own_step (T' := T141) (g' := (mkF m 117 #[.val (.int k0), .val (.int m1), .val (.long x1), .second, .val (.long x2), .second, .val (.int n), .val (.ref a9), .unset, .unset, .unset, .unset] [(.ref a9)])) (fun t_ k_ => XS.aload X143.here hx rfl (hb hby at_115) rfl rfl k_) ?_
  refine own_step (T' := T141) (g' := (mkF m 119 #[.val (.int k0), .val (.int m1), .val (.long x1), .second, .val (.long x2), .second, .val (.int n), .val (.ref a9), .unset, .unset, .unset, .unset] [(.int (8 : Int32)), (.ref a9)])) (fun t_ k_ => XT.bipushV X143.here hx rfl (8 : Int32) (hb hby at_117) (by decide) k_) ?_
  refine own_step (T' := T141) (g' := (mkF m 121 #[.val (.int k0), .val (.int m1), .val (.long x1), .second, .val (.long x2), .second, .val (.int n), .val (.ref a9), .unset, .unset, .unset, .unset] [(.int (8 : Int32)), (.int (8 : Int32)), (.ref a9)])) (fun t_ k_ => XT.bipushV X143.here hx rfl (8 : Int32) (hb hby at_119) (by decide) k_) ?_
  refine own_step (T' := T141) (g' := (mkF m 122 #[.val (.int k0), .val (.int m1), .val (.long x1), .second, .val (.long x2), .second, .val (.int n), .val (.ref a9), .unset, .unset, .unset, .unset] [(.int m1), (.int (8 : Int32)), (.int (8 : Int32)), (.ref a9)])) (fun t_ k_ => XS.iloadN X143.here hx rfl (hb hby at_121) rfl k_) ?_
  refine own_step (T' := T141) (g' := (mkF m 123 #[.val (.int k0), .val (.int m1), .val (.long x1), .second, .val (.long x2), .second, .val (.int n), .val (.ref a9), .unset, .unset, .unset, .unset] [(.long x1), (.int m1), (.int (8 : Int32)), (.int (8 : Int32)), (.ref a9)])) (fun t_ k_ => XT.lloadN X143.here hx rfl (hb hby at_122) rfl k_) ?_
  refine own_step (T' := T141) (g' := (mkF m 125 #[.val (.int k0), .val (.int m1), .val (.long x1), .second, .val (.long x2), .second, .val (.int n), .val (.ref a9), .unset, .unset, .unset, .unset] [(.long x2), (.long x1), (.int m1), (.int (8 : Int32)), (.int (8 : Int32)), (.ref a9)])) (fun t_ k_ => XT.lload X143.here hx rfl (hb hby at_123) rfl k_) ?_
  obtain ⟨_, _, ⟨Tc150, Lc150, kc150, nc150⟩, -, Xc150, ⟨Lcc150, hQc150, lc150, yc150, zc150⟩, stc150⟩ := Jvm.LawKit.callS X143 hx (y := (⟨"com/example/llogari/llogari/rules/WrittenFormIsPaperPinLaw", "ch", "(IIJJ)C"⟩ : MethodName)) hown (mvT hZ (hw _ (List.mem_of_getElem? (i := 2) rfl))) (mvT hZ (hw _ (List.mem_of_getElem? (i := 3) rfl))) (mvT hZ (hw _ (List.mem_of_getElem? (i := 4) rfl))) (mvT hZ (hw _ (List.mem_of_getElem? (i := 5) rfl))) (by decide) (backOf (W := 2) (rm_ch l Z a0 hw [] (8 : Int32) m1 x1 x2 h142 n0 F148) hZ (hw _ (List.mem_of_getElem? (i := 5) rfl)) (hw _ (List.mem_of_getElem? (i := 4) rfl)) (by decide) (by decide)) (g := (mkF m 125 #[.val (.int k0), .val (.int m1), .val (.long x1), .second, .val (.long x2), .second, .val (.int n), .val (.ref a9), .unset, .unset, .unset, .unset] [(.long x2), (.long x1), (.int m1), (.int (8 : Int32)), (.int (8 : Int32)), (.ref a9)])) rfl (by rw [hml]; rfl) (argsL := [(.int (8 : Int32)), (.int m1), (.long x1), (.long x2)]) (rest := [(.int (8 : Int32)), (.ref a9)]) (lenOf pd_1 rfl) rfl (by show 2 * 0 + _ ≤ _; exact Nat.le_of_eq rfl) (hb hby at_125) (fun _ _ => ⟨rfl, e144, (by decide : 1 + 0 ≤ _), (by decide : 11 + 0 ≤ _)⟩)
  dsimp only [Pt.U, Pt.locs, Pt.cells, Pt.slots] at Xc150 lc150 yc150 zc150 stc150 hQc150
  subst lc150 yc150 zc150
  obtain ⟨⟨z153, rfl⟩, N151, e152⟩ := hQc150
  have N154 := Fr.app N147 N151
  refine own_step (T' := Tc150) (g' := (mkF m 128 #[.val (.int k0), .val (.int m1), .val (.long x1), .second, .val (.long x2), .second, .val (.int n), .val (.ref a9), .unset, .unset, .unset, .unset] [(.int z153), (.int (8 : Int32)), (.ref a9)])) stc150 ?_
  obtain ⟨cl155, Ar156, Lx157⟩ := id V149
  obtain ⟨T158, h159, X160, e161, W162, st163⟩ := stC Xc150 hx hZ e152 Ar156 (j := (8 : Int32)) (own_inb' Lx157 (n := 11) rfl (by decide) (by decide)) (g := (mkF m 128 #[.val (.int k0), .val (.int m1), .val (.long x1), .second, .val (.long x2), .second, .val (.int n), .val (.ref a9), .unset, .unset, .unset, .unset] [(.int z153), (.int (8 : Int32)), (.ref a9)])) rfl rfl (hb hby at_128)
  have N164 := Fr.snoc X160 N154 q11
  have F165 : n0 ≤ h159.size := Nat.le_trans F148 (Keep.of_wr W162).1
  have V166 : own_Arl Z h159 a9 .char [(.int (nar .char z17)), (.int (nar .char z34)), (.int (nar .char z51)), (.int (nar .char z68)), (.int (nar .char z85)), (.int (nar .char z102)), (.int (nar .char z119)), (.int (nar .char z136)), (.int (nar .char z153)), (.int (0 : Int32)), (.int (0 : Int32))] := own_Arl.set' (j := (8 : Int32)) V149 W162 (i := 8) (by decide)
  refine own_step (T' := T158) (g' := (mkF m 129 #[.val (.int k0), .val (.int m1), .val (.long x1), .second, .val (.long x2), .second, .val (.int n), .val (.ref a9), .unset, .unset, .unset, .unset] [])) st163 ?_
  refine own_step (T' := T158) (g' := (mkF m 131 #[.val (.int k0), .val (.int m1), .val (.long x1), .second, .val (.long x2), .second, .val (.int n), .val (.ref a9), .unset, .unset, .unset, .unset] [(.ref a9)])) (fun t_ k_ => XS.aload X160.here hx rfl (hb hby at_129) rfl rfl k_) ?_
  refine own_step (T' := T158) (g' := (mkF m 133 #[.val (.int k0), .val (.int m1), .val (.long x1), .second, .val (.long x2), .second, .val (.int n), .val (.ref a9), .unset, .unset, .unset, .unset] [(.int (9 : Int32)), (.ref a9)])) (fun t_ k_ => XT.bipushV X160.here hx rfl (9 : Int32) (hb hby at_131) (by decide) k_) ?_
  refine own_step (T' := T158) (g' := (mkF m 135 #[.val (.int k0), .val (.int m1), .val (.long x1), .second, .val (.long x2), .second, .val (.int n), .val (.ref a9), .unset, .unset, .unset, .unset] [(.int (9 : Int32)), (.int (9 : Int32)), (.ref a9)])) (fun t_ k_ => XT.bipushV X160.here hx rfl (9 : Int32) (hb hby at_133) (by decide) k_) ?_
  refine own_step (T' := T158) (g' := (mkF m 136 #[.val (.int k0), .val (.int m1), .val (.long x1), .second, .val (.long x2), .second, .val (.int n), .val (.ref a9), .unset, .unset, .unset, .unset] [(.int m1), (.int (9 : Int32)), (.int (9 : Int32)), (.ref a9)])) (fun t_ k_ => XS.iloadN X160.here hx rfl (hb hby at_135) rfl k_) ?_
  refine own_step (T' := T158) (g' := (mkF m 137 #[.val (.int k0), .val (.int m1), .val (.long x1), .second, .val (.long x2), .second, .val (.int n), .val (.ref a9), .unset, .unset, .unset, .unset] [(.long x1), (.int m1), (.int (9 : Int32)), (.int (9 : Int32)), (.ref a9)])) (fun t_ k_ => XT.lloadN X160.here hx rfl (hb hby at_136) rfl k_) ?_
  refine own_step (T' := T158) (g' := (mkF m 139 #[.val (.int k0), .val (.int m1), .val (.long x1), .second, .val (.long x2), .second, .val (.int n), .val (.ref a9), .unset, .unset, .unset, .unset] [(.long x2), (.long x1), (.int m1), (.int (9 : Int32)), (.int (9 : Int32)), (.ref a9)])) (fun t_ k_ => XT.lload X160.here hx rfl (hb hby at_137) rfl k_) ?_
  obtain ⟨_, _, ⟨Tc167, Lc167, kc167, nc167⟩, -, Xc167, ⟨Lcc167, hQc167, lc167, yc167, zc167⟩, stc167⟩ := Jvm.LawKit.callS X160 hx (y := (⟨"com/example/llogari/llogari/rules/WrittenFormIsPaperPinLaw", "ch", "(IIJJ)C"⟩ : MethodName)) hown (mvT hZ (hw _ (List.mem_of_getElem? (i := 2) rfl))) (mvT hZ (hw _ (List.mem_of_getElem? (i := 3) rfl))) (mvT hZ (hw _ (List.mem_of_getElem? (i := 4) rfl))) (mvT hZ (hw _ (List.mem_of_getElem? (i := 5) rfl))) (by decide) (backOf (W := 2) (rm_ch l Z a0 hw [] (9 : Int32) m1 x1 x2 h159 n0 F165) hZ (hw _ (List.mem_of_getElem? (i := 5) rfl)) (hw _ (List.mem_of_getElem? (i := 4) rfl)) (by decide) (by decide)) (g := (mkF m 139 #[.val (.int k0), .val (.int m1), .val (.long x1), .second, .val (.long x2), .second, .val (.int n), .val (.ref a9), .unset, .unset, .unset, .unset] [(.long x2), (.long x1), (.int m1), (.int (9 : Int32)), (.int (9 : Int32)), (.ref a9)])) rfl (by rw [hml]; rfl) (argsL := [(.int (9 : Int32)), (.int m1), (.long x1), (.long x2)]) (rest := [(.int (9 : Int32)), (.ref a9)]) (lenOf pd_1 rfl) rfl (by show 2 * 0 + _ ≤ _; exact Nat.le_of_eq rfl) (hb hby at_139) (fun _ _ => ⟨rfl, e161, (by decide : 1 + 0 ≤ _), (by decide : 11 + 0 ≤ _)⟩)
  dsimp only [Pt.U, Pt.locs, Pt.cells, Pt.slots] at Xc167 lc167 yc167 zc167 stc167 hQc167
  subst lc167 yc167 zc167
  obtain ⟨⟨z170, rfl⟩, N168, e169⟩ := hQc167
  have N171 := Fr.app N164 N168
  refine own_step (T' := Tc167) (g' := (mkF m 142 #[.val (.int k0), .val (.int m1), .val (.long x1), .second, .val (.long x2), .second, .val (.int n), .val (.ref a9), .unset, .unset, .unset, .unset] [(.int z170), (.int (9 : Int32)), (.ref a9)])) stc167 ?_
  obtain ⟨cl172, Ar173, Lx174⟩ := id V166
  obtain ⟨T175, h176, X177, e178, W179, st180⟩ := stC Xc167 hx hZ e169 Ar173 (j := (9 : Int32)) (own_inb' Lx174 (n := 11) rfl (by decide) (by decide)) (g := (mkF m 142 #[.val (.int k0), .val (.int m1), .val (.long x1), .second, .val (.long x2), .second, .val (.int n), .val (.ref a9), .unset, .unset, .unset, .unset] [(.int z170), (.int (9 : Int32)), (.ref a9)])) rfl rfl (hb hby at_142)
  have N181 := Fr.snoc X177 N171 q11
  have F182 : n0 ≤ h176.size := Nat.le_trans F165 (Keep.of_wr W179).1
  have V183 : own_Arl Z h176 a9 .char [(.int (nar .char z17)), (.int (nar .char z34)), (.int (nar .char z51)), (.int (nar .char z68)), (.int (nar .char z85)), (.int (nar .char z102)), (.int (nar .char z119)), (.int (nar .char z136)), (.int (nar .char z153)), (.int (nar .char z170)), (.int (0 : Int32))] := own_Arl.set' (j := (9 : Int32)) V166 W179 (i := 9) (by decide)
  refine own_step (T' := T175) (g' := (mkF m 143 #[.val (.int k0), .val (.int m1), .val (.long x1), .second, .val (.long x2), .second, .val (.int n), .val (.ref a9), .unset, .unset, .unset, .unset] [])) st180 ?_
  refine own_step (T' := T175) (g' := (mkF m 145 #[.val (.int k0), .val (.int m1), .val (.long x1), .second, .val (.long x2), .second, .val (.int n), .val (.ref a9), .unset, .unset, .unset, .unset] [(.ref a9)])) (fun t_ k_ => XS.aload X177.here hx rfl (hb hby at_143) rfl rfl k_) ?_
  refine own_step (T' := T175) (g' := (mkF m 147 #[.val (.int k0), .val (.int m1), .val (.long x1), .second, .val (.long x2), .second, .val (.int n), .val (.ref a9), .unset, .unset, .unset, .unset] [(.int (10 : Int32)), (.ref a9)])) (fun t_ k_ => XT.bipushV X177.here hx rfl (10 : Int32) (hb hby at_145) (by decide) k_) ?_
  refine own_step (T' := T175) (g' := (mkF m 149 #[.val (.int k0), .val (.int m1), .val (.long x1), .second, .val (.long x2), .second, .val (.int n), .val (.ref a9), .unset, .unset, .unset, .unset] [(.int (10 : Int32)), (.int (10 : Int32)), (.ref a9)])) (fun t_ k_ => XT.bipushV X177.here hx rfl (10 : Int32) (hb hby at_147) (by decide) k_) ?_
  refine own_step (T' := T175) (g' := (mkF m 150 #[.val (.int k0), .val (.int m1), .val (.long x1), .second, .val (.long x2), .second, .val (.int n), .val (.ref a9), .unset, .unset, .unset, .unset] [(.int m1), (.int (10 : Int32)), (.int (10 : Int32)), (.ref a9)])) (fun t_ k_ => XS.iloadN X177.here hx rfl (hb hby at_149) rfl k_) ?_
  refine own_step (T' := T175) (g' := (mkF m 151 #[.val (.int k0), .val (.int m1), .val (.long x1), .second, .val (.long x2), .second, .val (.int n), .val (.ref a9), .unset, .unset, .unset, .unset] [(.long x1), (.int m1), (.int (10 : Int32)), (.int (10 : Int32)), (.ref a9)])) (fun t_ k_ => XT.lloadN X177.here hx rfl (hb hby at_150) rfl k_) ?_
  refine own_step (T' := T175) (g' := (mkF m 153 #[.val (.int k0), .val (.int m1), .val (.long x1), .second, .val (.long x2), .second, .val (.int n), .val (.ref a9), .unset, .unset, .unset, .unset] [(.long x2), (.long x1), (.int m1), (.int (10 : Int32)), (.int (10 : Int32)), (.ref a9)])) (fun t_ k_ => XT.lload X177.here hx rfl (hb hby at_151) rfl k_) ?_
  obtain ⟨_, _, ⟨Tc184, Lc184, kc184, nc184⟩, -, Xc184, ⟨Lcc184, hQc184, lc184, yc184, zc184⟩, stc184⟩ := Jvm.LawKit.callS X177 hx (y := (⟨"com/example/llogari/llogari/rules/WrittenFormIsPaperPinLaw", "ch", "(IIJJ)C"⟩ : MethodName)) hown (mvT hZ (hw _ (List.mem_of_getElem? (i := 2) rfl))) (mvT hZ (hw _ (List.mem_of_getElem? (i := 3) rfl))) (mvT hZ (hw _ (List.mem_of_getElem? (i := 4) rfl))) (mvT hZ (hw _ (List.mem_of_getElem? (i := 5) rfl))) (by decide) (backOf (W := 2) (rm_ch l Z a0 hw [] (10 : Int32) m1 x1 x2 h176 n0 F182) hZ (hw _ (List.mem_of_getElem? (i := 5) rfl)) (hw _ (List.mem_of_getElem? (i := 4) rfl)) (by decide) (by decide)) (g := (mkF m 153 #[.val (.int k0), .val (.int m1), .val (.long x1), .second, .val (.long x2), .second, .val (.int n), .val (.ref a9), .unset, .unset, .unset, .unset] [(.long x2), (.long x1), (.int m1), (.int (10 : Int32)), (.int (10 : Int32)), (.ref a9)])) rfl (by rw [hml]; rfl) (argsL := [(.int (10 : Int32)), (.int m1), (.long x1), (.long x2)]) (rest := [(.int (10 : Int32)), (.ref a9)]) (lenOf pd_1 rfl) rfl (by show 2 * 0 + _ ≤ _; exact Nat.le_of_eq rfl) (hb hby at_153) (fun _ _ => ⟨rfl, e178, (by decide : 1 + 0 ≤ _), (by decide : 11 + 0 ≤ _)⟩)
  dsimp only [Pt.U, Pt.locs, Pt.cells, Pt.slots] at Xc184 lc184 yc184 zc184 stc184 hQc184
  subst lc184 yc184 zc184
  obtain ⟨⟨z187, rfl⟩, N185, e186⟩ := hQc184
  have N188 := Fr.app N181 N185
  refine own_step (T' := Tc184) (g' := (mkF m 156 #[.val (.int k0), .val (.int m1), .val (.long x1), .second, .val (.long x2), .second, .val (.int n), .val (.ref a9), .unset, .unset, .unset, .unset] [(.int z187), (.int (10 : Int32)), (.ref a9)])) stc184 ?_
  obtain ⟨cl189, Ar190, Lx191⟩ := id V183
  obtain ⟨T192, h193, X194, e195, W196, st197⟩ := stC Xc184 hx hZ e186 Ar190 (j := (10 : Int32)) (own_inb' Lx191 (n := 11) rfl (by decide) (by decide)) (g := (mkF m 156 #[.val (.int k0), .val (.int m1), .val (.long x1), .second, .val (.long x2), .second, .val (.int n), .val (.ref a9), .unset, .unset, .unset, .unset] [(.int z187), (.int (10 : Int32)), (.ref a9)])) rfl rfl (hb hby at_156)
  have N198 := Fr.snoc X194 N188 q11
  have F199 : n0 ≤ h193.size := Nat.le_trans F182 (Keep.of_wr W196).1
  have V200 : own_Arl Z h193 a9 .char [(.int (nar .char z17)), (.int (nar .char z34)), (.int (nar .char z51)), (.int (nar .char z68)), (.int (nar .char z85)), (.int (nar .char z102)), (.int (nar .char z119)), (.int (nar .char z136)), (.int (nar .char z153)), (.int (nar .char z170)), (.int (nar .char z187))] := own_Arl.set' (j := (10 : Int32)) V183 W196 (i := 10) (by decide)
  refine own_step (T' := T192) (g' := (mkF m 157 #[.val (.int k0), .val (.int m1), .val (.long x1), .second, .val (.long x2), .second, .val (.int n), .val (.ref a9), .unset, .unset, .unset, .unset] [])) st197 ?_
  obtain ⟨c0, hc0⟩ : ∃ z : Int32, z = (nar .char z17) := ⟨_, rfl⟩
  obtain ⟨c1, hc1⟩ : ∃ z : Int32, z = (nar .char z34) := ⟨_, rfl⟩
  obtain ⟨c2, hc2⟩ : ∃ z : Int32, z = (nar .char z51) := ⟨_, rfl⟩
  obtain ⟨c3, hc3⟩ : ∃ z : Int32, z = (nar .char z68) := ⟨_, rfl⟩
  obtain ⟨c4, hc4⟩ : ∃ z : Int32, z = (nar .char z85) := ⟨_, rfl⟩
  obtain ⟨c5, hc5⟩ : ∃ z : Int32, z = (nar .char z102) := ⟨_, rfl⟩
  obtain ⟨c6, hc6⟩ : ∃ z : Int32, z = (nar .char z119) := ⟨_, rfl⟩
  obtain ⟨c7, hc7⟩ : ∃ z : Int32, z = (nar .char z136) := ⟨_, rfl⟩
  obtain ⟨c8, hc8⟩ : ∃ z : Int32, z = (nar .char z153) := ⟨_, rfl⟩
  obtain ⟨c9, hc9⟩ : ∃ z : Int32, z = (nar .char z170) := ⟨_, rfl⟩
  obtain ⟨c10, hc10⟩ : ∃ z : Int32, z = (nar .char z187) := ⟨_, rfl⟩
  have V201 : own_Arl Z h193 a9 .char [(.int c0), (.int c1), (.int c2), (.int c3), (.int c4), (.int c5), (.int c6), (.int c7), (.int c8), (.int c9), (.int c10)] := by rw [hc0, hc1, hc2, hc3, hc4, hc5, hc6, hc7, hc8, hc9, hc10]; exact V200
  clear hc0 hc1 hc2 hc3 hc4 hc5 hc6 hc7 hc8 hc9 hc10
  obtain ⟨T202, h203, X204, e205, E206, A207, D208, -, st209⟩ := newO X194 hx hZ hown (hw _ (List.mem_of_getElem? (i := 7) rfl)) (hw _ (List.mem_of_getElem? (i := 8) rfl)) (hw _ (List.mem_of_getElem? (i := 9) rfl)) e195 (g := (mkF m 157 #[.val (.int k0), .val (.int m1), .val (.long x1), .second, .val (.long x2), .second, .val (.int n), .val (.ref a9), .unset, .unset, .unset, .unset] [])) rfl (hb hby at_157) (by decide) (by decide)
  obtain ⟨a210, g211⟩ : ∃ z, z = h193.size := ⟨_, rfl⟩
  rw [← g211] at A207 D208 st209
  have q212 : n0 ≤ a210 := Nat.le_trans F199 (Nat.le_of_eq g211.symm)
  have ne213 : a9 ≠ a210 := Nat.ne_of_lt (Nat.lt_of_lt_of_le V201.lt (Nat.le_of_eq g211.symm))
  have F214 : n0 ≤ h203.size := Nat.le_trans F199 E206.1
  have F215 : own_Arl Z h203 a9 .char [(.int c0), (.int c1), (.int c2), (.int c3), (.int c4), (.int c5), (.int c6), (.int c7), (.int c8), (.int c9), (.int c10)] := V201.ext E206
  have F216 : Fld Z h203 a210 "com/example/llogari/llogari/rules/WrittenForm" "blanks" "J" (.long (0 : Int64)) := D208 (Or.inl (hw _ (List.mem_of_getElem? (i := 22) rfl))) (ty := .long) (by decide)
  have F217 : Fld Z h203 a210 "com/example/llogari/llogari/rules/WrittenForm" "misplaced" "Z" (.int (0 : Int32)) := D208 (Or.inl (hw _ (List.mem_of_getElem? (i := 32) rfl))) (ty := .boolean) (by decide)
  have F218 : Fld Z h203 a210 "com/example/llogari/llogari/rules/WrittenForm" "length" "J" (.long (0 : Int64)) := D208 (Or.inl (hw _ (List.mem_of_getElem? (i := 34) rfl))) (ty := .long) (by decide)
  refine own_step (T' := T202) (g' := (mkF m 160 #[.val (.int k0), .val (.int m1), .val (.long x1), .second, .val (.long x2), .second, .val (.int n), .val (.ref a9), .unset, .unset, .unset, .unset] [(.ref a210)])) st209 ?_
  refine own_step (T' := T202) (g' := (mkF m 161 #[.val (.int k0), .val (.int m1), .val (.long x1), .second, .val (.long x2), .second, .val (.int n), .val (.ref a9), .unset, .unset, .unset, .unset] [(.ref a210), (.ref a210)])) (fun t_ k_ => XS.dup X204.here hx rfl (hb hby at_160) rfl rfl k_) ?_
  obtain ⟨_, _, ⟨Tc219, Lc219, kc219, nc219⟩, -, Xc219, ⟨Lcc219, hQc219, lc219, yc219, zc219⟩, stc219⟩ := X204.specialBack hx (y := (⟨"com/example/llogari/llogari/rules/WrittenForm", "<init>", "()V"⟩ : MethodName)) rfl hown (mvT hZ (hw _ (List.mem_of_getElem? (i := 10) rfl))) (mvT hZ (hw _ (List.mem_of_getElem? (i := 11) rfl))) (mvT hZ (hw _ (List.mem_of_getElem? (i := 12) rfl))) (by decide) (backOf (W := 1) (rm_init l Z a0 hw [] a210 h203 n0 F214) hZ (hw _ (List.mem_of_getElem? (i := 12) rfl)) (hw _ (List.mem_of_getElem? (i := 9) rfl)) (by decide) (by decide)) (g := (mkF m 161 #[.val (.int k0), .val (.int m1), .val (.long x1), .second, .val (.long x2), .second, .val (.int n), .val (.ref a9), .unset, .unset, .unset, .unset] [(.ref a210), (.ref a210)])) rfl (by rw [hml]; rfl) (Steps.refl _) (a := a210) (argsL := []) (rest := [(.ref a210)]) (lenOf pd_2 rfl) rfl (by show 2 * 0 + _ ≤ _; exact Nat.le_of_eq rfl) (hb hby at_161) (fun _ _ => ⟨rfl, e205, (by decide : 2 + 0 ≤ _), (by decide : 14 + 0 ≤ _)⟩)
  dsimp only [Pt.U, Pt.locs, Pt.cells, Pt.slots] at Xc219 lc219 yc219 zc219 stc219 hQc219
  subst lc219 yc219 zc219
  obtain ⟨rfl, N220, e221⟩ := hQc219
  have N222 := Fr.app N198 N220
  refine own_step (T' := Tc219) (g' := (mkF m 164 #[.val (.int k0), .val (.int m1), .val (.long x1), .second, .val (.long x2), .second, .val (.int n), .val (.ref a9), .unset, .unset, .unset, .unset] [(.ref a210)])) (fun t_ k_ => stc219.trans k_) ?_
  refine own_step (T' := Tc219) (g' := (mkF m 166 #[.val (.int k0), .val (.int m1), .val (.long x1), .second, .val (.long x2), .second, .val (.int n), .val (.ref a9), .val (.ref a210), .unset, .unset, .unset] [])) (fun t_ k_ => XS.astore Xc219.here hx rfl (hb hby at_164) rfl rfl (l' := #[.val (.int k0), .val (.int m1), .val (.long x1), .second, .val (.long x2), .second, .val (.int n), .val (.ref a9), .val (.ref a210), .unset, .unset, .unset]) rfl k_) ?_
  refine own_step (T' := Tc219) (g' := (mkF m 168 #[.val (.int k0), .val (.int m1), .val (.long x1), .second, .val (.long x2), .second, .val (.int n), .val (.ref a9), .val (.ref a210), .unset, .unset, .unset] [(.int n)])) (fun t_ k_ => XS.iload Xc219.here hx rfl (hb hby at_166) rfl k_) ?_
  suffices k224 : ∀ (T225 : State) (h226 : Heap) (Lo227 : List Loc), ∀ v234 : Int64, v234 = (if 0 < n then (if c0 = (32 : Int32) then ((0 : Int64) + (1 : Int64)) else (0 : Int64)) else (0 : Int64)) → ∀ v236 : Int32, v236 = (if 0 < n then (if c0 = (32 : Int32) then (nar .boolean ((0 : Int32) ||| (if ((0 : Int64) - ((0 : Int64) / (5 : Int64)) * (5 : Int64)) = (4 : Int64) then (0 : Int32) else (1 : Int32)))) else (0 : Int32)) else (0 : Int32)) → ∀ v238 : Int64, v238 = (if 0 < n then ((0 : Int64) + (1 : Int64)) else (0 : Int64)) → Stand p l e room_1 s m #[(.int k0), (.int m1), (.long x1), (.long x2)] below meth c T225 Lo227 2 14 → T225.heap = h226 → Fr n0 Lo227 → n0 ≤ h226.size → own_Arl Z h226 a9 .char [(.int c0), (.int c1), (.int c2), (.int c3), (.int c4), (.int c5), (.int c6), (.int c7), (.int c8), (.int c9), (.int c10)] → Exa Z h226 a210 "com/example/llogari/llogari/rules/WrittenForm" → Fld Z h226 a210 "com/example/llogari/llogari/rules/WrittenForm" "blanks" "J" (.long v234) → Fld Z h226 a210 "com/example/llogari/llogari/rules/WrittenForm" "misplaced" "Z" (.int v236) → Fld Z h226 a210 "com/example/llogari/llogari/rules/WrittenForm" "length" "J" (.long v238) → own_Fin p e below s (Q_7 h0 n0) 2 14 T225 (mkF m 180 #[.val (.int k0), .val (.int m1), .val (.long x1), .second, .val (.long x2), .second, .val (.int n), .val (.ref a9), .val (.ref a210), .unset, .unset, .unset] []) by
    by_cases hb223 : 0 < n
    · refine own_step (T' := Tc219) (g' := (mkF m 171 #[.val (.int k0), .val (.int m1), .val (.long x1), .second, .val (.long x2), .second, .val (.int n), .val (.ref a9), .val (.ref a210), .unset, .unset, .unset] [])) (fun t_ k_ => XS.ifNo Xc219.here hx rfl (hb hby at_168) rfl (XT.i0_le_f hb223) k_) ?_
      refine own_step (T' := Tc219) (g' := (mkF m 173 #[.val (.int k0), .val (.int m1), .val (.long x1), .second, .val (.long x2), .second, .val (.int n), .val (.ref a9), .val (.ref a210), .unset, .unset, .unset] [(.ref a210)])) (fun t_ k_ => XS.aload Xc219.here hx rfl (hb hby at_171) rfl rfl k_) ?_
      refine own_step (T' := Tc219) (g' := (mkF m 175 #[.val (.int k0), .val (.int m1), .val (.long x1), .second, .val (.long x2), .second, .val (.int n), .val (.ref a9), .val (.ref a210), .unset, .unset, .unset] [(.ref a9), (.ref a210)])) (fun t_ k_ => XS.aload Xc219.here hx rfl (hb hby at_173) rfl rfl k_) ?_
      refine own_step (T' := Tc219) (g' := (mkF m 176 #[.val (.int k0), .val (.int m1), .val (.long x1), .second, .val (.long x2), .second, .val (.int n), .val (.ref a9), .val (.ref a210), .unset, .unset, .unset] [(.int (0 : Int32)), (.ref a9), (.ref a210)])) (fun t_ k_ => XT.iconstV Xc219.here hx rfl (0 : Int32) (hb hby at_175) (by decide) k_) ?_
      have st240 := own_caload (g := (mkF m 176 #[.val (.int k0), .val (.int m1), .val (.long x1), .second, .val (.long x2), .second, .val (.int n), .val (.ref a9), .val (.ref a210), .unset, .unset, .unset] [(.int (0 : Int32)), (.ref a9), (.ref a210)])) Xc219 hx hZ e221 F215 (v := (.int c0)) (by decide) (own_ix (k := 0) (by decide) rfl) rfl rfl (hb hby at_176)
      refine own_step (T' := Tc219) (g' := (mkF m 177 #[.val (.int k0), .val (.int m1), .val (.long x1), .second, .val (.long x2), .second, .val (.int n), .val (.ref a9), .val (.ref a210), .unset, .unset, .unset] [(.int c0), (.ref a210)])) st240 ?_
      obtain ⟨cqc241, kqc241, qac241, qbc241, qcc241⟩ := isOf hZ e221 A207
      obtain ⟨_, _, ⟨Tc241, Lc241, kc241, nc241⟩, -, Xc241, ⟨Lcc241, hQc241, lc241, yc241, zc241⟩, stc241⟩ := Xc219.virtualBack hx (y := (⟨"com/example/llogari/llogari/rules/WrittenForm", "append", "(C)V"⟩ : MethodName)) (z := (⟨"com/example/llogari/llogari/rules/WrittenForm", "append", "(C)V"⟩ : MethodName)) hown (mvT hZ (hw _ (List.mem_of_getElem? (i := 23) rfl))) (mvT hZ (hw _ (List.mem_of_getElem? (i := 24) rfl))) (notFace_of_selects (args := #[]) (mvT hZ (hw _ (List.mem_of_getElem? (i := 26) rfl)))) (mvT hZ (hw _ (List.mem_of_getElem? (i := 26) rfl))) (mvT hZ (hw _ (List.mem_of_getElem? (i := 25) rfl))) (by decide) (backOf (W := 0) (rm_app l Z a0 hw [] a210 c0 (0 : Int64) (0 : Int32) (0 : Int64) h203 n0 F214 A207 F216 F217 F218 q212) hZ (hw _ (List.mem_of_getElem? (i := 27) rfl)) (hw _ (List.mem_of_getElem? (i := 9) rfl)) (by decide) (by decide)) qac241 qcc241 (g := (mkF m 177 #[.val (.int k0), .val (.int m1), .val (.long x1), .second, .val (.long x2), .second, .val (.int n), .val (.ref a9), .val (.ref a210), .unset, .unset, .unset] [(.int c0), (.ref a210)])) rfl (by rw [hml]; rfl) (Steps.refl _) (argsL := [(.int c0)]) (rest := []) (lenOf pd_3 rfl) rfl (by show 2 * 0 + _ ≤ _; exact Nat.le_of_eq rfl) (hb hby at_177) (fun _ _ => ⟨rfl, e221, (by decide : 2 + 0 ≤ _), (by decide : 14 + 0 ≤ _)⟩)
      dsimp only [Pt.U, Pt.locs, Pt.cells, Pt.slots] at Xc241 lc241 yc241 zc241 stc241 hQc241
      subst lc241 yc241 zc241
      obtain ⟨rfl, N242, K243, F244, F245, F246⟩ := hQc241
      have N247 := Fr.app N222 N242
      have F248 : n0 ≤ Tc241.heap.size := Nat.le_trans F214 K243.1
      have F249 : own_Arl Z Tc241.heap a9 .char [(.int c0), (.int c1), (.int c2), (.int c3), (.int c4), (.int c5), (.int c6), (.int c7), (.int c8), (.int c9), (.int c10)] := F215.keep K243 (ninS ne213 nin0)
      have F250 : Exa Z Tc241.heap a210 "com/example/llogari/llogari/rules/WrittenForm" := A207.keep K243
      refine own_step (T' := Tc241) (g' := (mkF m 180 #[.val (.int k0), .val (.int m1), .val (.long x1), .second, .val (.long x2), .second, .val (.int n), .val (.ref a9), .val (.ref a210), .unset, .unset, .unset] [])) (fun t_ k_ => stc241.trans k_) ?_
      exact k224 _ _ _ _ (if_pos hb223).symm _ (if_pos hb223).symm _ (if_pos hb223).symm Xc241 rfl N247 F248 F249 F250 F244 F245 F246
    · refine own_step (T' := Tc219) (g' := (mkF m 180 #[.val (.int k0), .val (.int m1), .val (.long x1), .second, .val (.long x2), .second, .val (.int n), .val (.ref a9), .val (.ref a210), .unset, .unset, .unset] [])) (fun t_ k_ => XS.ifYes Xc219.here hx rfl (pc0 := 168) (pc' := 180) rfl (hb hby at_168) rfl (XT.i0_le_t hb223) (by decide) (by decide) k_) ?_
      exact k224 _ _ _ _ (if_neg hb223).symm _ (if_neg hb223).symm _ (if_neg hb223).symm Xc219 e221 N222 F214 F215 A207 F216 F217 F218
  intro T225 h226 Lo227 v234 hv234 v236 hv236 v238 hv238 X228 e229 N230 F231 F232 F233 F235 F237 F239
  refine own_step (T' := T225) (g' := (mkF m 182 #[.val (.int k0), .val (.int m1), .val (.long x1), .second, .val (.long x2), .second, .val (.int n), .val (.ref a9), .val (.ref a210), .unset, .unset, .unset] [(.int n)])) (fun t_ k_ => XS.iload X228.here hx rfl (hb hby at_180) rfl k_) ?_
  refine own_step (T' := T225) (g' := (mkF m 183 #[.val (.int k0), .val (.int m1), .val (.long x1), .second, .val (.long x2), .second, .val (.int n), .val (.ref a9), .val (.ref a210), .unset, .unset, .unset] [(.int (1 : Int32)), (.int n)])) (fun t_ k_ => XT.iconstV X228.here hx rfl (1 : Int32) (hb hby at_182) (by decide) k_) ?_
  suffices k252 : ∀ (T253 : State) (h254 : Heap) (Lo255 : List Loc), ∀ v262 : Int64, v262 = (if (1 : Int32) < n then (if c1 = (32 : Int32) then (v234 + (1 : Int64)) else v234) else v234) → ∀ v264 : Int32, v264 = (if (1 : Int32) < n then (if c1 = (32 : Int32) then (nar .boolean (v236 ||| (if (v238 - (v238 / (5 : Int64)) * (5 : Int64)) = (4 : Int64) then (0 : Int32) else (1 : Int32)))) else v236) else v236) → ∀ v266 : Int64, v266 = (if (1 : Int32) < n then (v238 + (1 : Int64)) else v238) → Stand p l e room_1 s m #[(.int k0), (.int m1), (.long x1), (.long x2)] below meth c T253 Lo255 2 14 → T253.heap = h254 → Fr n0 Lo255 → n0 ≤ h254.size → own_Arl Z h254 a9 .char [(.int c0), (.int c1), (.int c2), (.int c3), (.int c4), (.int c5), (.int c6), (.int c7), (.int c8), (.int c9), (.int c10)] → Exa Z h254 a210 "com/example/llogari/llogari/rules/WrittenForm" → Fld Z h254 a210 "com/example/llogari/llogari/rules/WrittenForm" "blanks" "J" (.long v262) → Fld Z h254 a210 "com/example/llogari/llogari/rules/WrittenForm" "misplaced" "Z" (.int v264) → Fld Z h254 a210 "com/example/llogari/llogari/rules/WrittenForm" "length" "J" (.long v266) → own_Fin p e below s (Q_7 h0 n0) 2 14 T253 (mkF m 195 #[.val (.int k0), .val (.int m1), .val (.long x1), .second, .val (.long x2), .second, .val (.int n), .val (.ref a9), .val (.ref a210), .unset, .unset, .unset] []) by
    by_cases hb251 : (1 : Int32) < n
    · refine own_step (T' := T225) (g' := (mkF m 186 #[.val (.int k0), .val (.int m1), .val (.long x1), .second, .val (.long x2), .second, .val (.int n), .val (.ref a9), .val (.ref a210), .unset, .unset, .unset] [])) (fun t_ k_ => XS.icmpNo X228.here hx rfl (hb hby at_183) rfl (XT.ii_le_f hb251) k_) ?_
      refine own_step (T' := T225) (g' := (mkF m 188 #[.val (.int k0), .val (.int m1), .val (.long x1), .second, .val (.long x2), .second, .val (.int n), .val (.ref a9), .val (.ref a210), .unset, .unset, .unset] [(.ref a210)])) (fun t_ k_ => XS.aload X228.here hx rfl (hb hby at_186) rfl rfl k_) ?_
      refine own_step (T' := T225) (g' := (mkF m 190 #[.val (.int k0), .val (.int m1), .val (.long x1), .second, .val (.long x2), .second, .val (.int n), .val (.ref a9), .val (.ref a210), .unset, .unset, .unset] [(.ref a9), (.ref a210)])) (fun t_ k_ => XS.aload X228.here hx rfl (hb hby at_188) rfl rfl k_) ?_
      refine own_step (T' := T225) (g' := (mkF m 191 #[.val (.int k0), .val (.int m1), .val (.long x1), .second, .val (.long x2), .second, .val (.int n), .val (.ref a9), .val (.ref a210), .unset, .unset, .unset] [(.int (1 : Int32)), (.ref a9), (.ref a210)])) (fun t_ k_ => XT.iconstV X228.here hx rfl (1 : Int32) (hb hby at_190) (by decide) k_) ?_
      have st268 := own_caload (g := (mkF m 191 #[.val (.int k0), .val (.int m1), .val (.long x1), .second, .val (.long x2), .second, .val (.int n), .val (.ref a9), .val (.ref a210), .unset, .unset, .unset] [(.int (1 : Int32)), (.ref a9), (.ref a210)])) X228 hx hZ e229 F232 (v := (.int c1)) (by decide) (own_ix (k := 1) (by decide) rfl) rfl rfl (hb hby at_191)
      refine own_step (T' := T225) (g' := (mkF m 192 #[.val (.int k0), .val (.int m1), .val (.long x1), .second, .val (.long x2), .second, .val (.int n), .val (.ref a9), .val (.ref a210), .unset, .unset, .unset] [(.int c1), (.ref a210)])) st268 ?_
      obtain ⟨cqc269, kqc269, qac269, qbc269, qcc269⟩ := isOf hZ e229 F233
      obtain ⟨_, _, ⟨Tc269, Lc269, kc269, nc269⟩, -, Xc269, ⟨Lcc269, hQc269, lc269, yc269, zc269⟩, stc269⟩ := X228.virtualBack hx (y := (⟨"com/example/llogari/llogari/rules/WrittenForm", "append", "(C)V"⟩ : MethodName)) (z := (⟨"com/example/llogari/llogari/rules/WrittenForm", "append", "(C)V"⟩ : MethodName)) hown (mvT hZ (hw _ (List.mem_of_getElem? (i := 23) rfl))) (mvT hZ (hw _ (List.mem_of_getElem? (i := 24) rfl))) (notFace_of_selects (args := #[]) (mvT hZ (hw _ (List.mem_of_getElem? (i := 26) rfl)))) (mvT hZ (hw _ (List.mem_of_getElem? (i := 26) rfl))) (mvT hZ (hw _ (List.mem_of_getElem? (i := 25) rfl))) (by decide) (backOf (W := 0) (rm_app l Z a0 hw [] a210 c1 v234 v236 v238 h226 n0 F231 F233 F235 F237 F239 q212) hZ (hw _ (List.mem_of_getElem? (i := 27) rfl)) (hw _ (List.mem_of_getElem? (i := 9) rfl)) (by decide) (by decide)) qac269 qcc269 (g := (mkF m 192 #[.val (.int k0), .val (.int m1), .val (.long x1), .second, .val (.long x2), .second, .val (.int n), .val (.ref a9), .val (.ref a210), .unset, .unset, .unset] [(.int c1), (.ref a210)])) rfl (by rw [hml]; rfl) (Steps.refl _) (argsL := [(.int c1)]) (rest := []) (lenOf pd_3 rfl) rfl (by show 2 * 0 + _ ≤ _; exact Nat.le_of_eq rfl) (hb hby at_192) (fun _ _ => ⟨rfl, e229, (by decide : 2 + 0 ≤ _), (by decide : 14 + 0 ≤ _)⟩)
      dsimp only [Pt.U, Pt.locs, Pt.cells, Pt.slots] at Xc269 lc269 yc269 zc269 stc269 hQc269
      subst lc269 yc269 zc269
      obtain ⟨rfl, N270, K271, F272, F273, F274⟩ := hQc269
      have N275 := Fr.app N230 N270
      have F276 : n0 ≤ Tc269.heap.size := Nat.le_trans F231 K271.1
      have F277 : own_Arl Z Tc269.heap a9 .char [(.int c0), (.int c1), (.int c2), (.int c3), (.int c4), (.int c5), (.int c6), (.int c7), (.int c8), (.int c9), (.int c10)] := F232.keep K271 (ninS ne213 nin0)
      have F278 : Exa Z Tc269.heap a210 "com/example/llogari/llogari/rules/WrittenForm" := F233.keep K271
      refine own_step (T' := Tc269) (g' := (mkF m 195 #[.val (.int k0), .val (.int m1), .val (.long x1), .second, .val (.long x2), .second, .val (.int n), .val (.ref a9), .val (.ref a210), .unset, .unset, .unset] [])) (fun t_ k_ => stc269.trans k_) ?_
      exact k252 _ _ _ _ (if_pos hb251).symm _ (if_pos hb251).symm _ (if_pos hb251).symm Xc269 rfl N275 F276 F277 F278 F272 F273 F274
    · refine own_step (T' := T225) (g' := (mkF m 195 #[.val (.int k0), .val (.int m1), .val (.long x1), .second, .val (.long x2), .second, .val (.int n), .val (.ref a9), .val (.ref a210), .unset, .unset, .unset] [])) (fun t_ k_ => XS.icmpYes X228.here hx rfl (pc0 := 183) (pc' := 195) rfl (hb hby at_183) rfl (XT.ii_le_t hb251) (by decide) (by decide) k_) ?_
      exact k252 _ _ _ _ (if_neg hb251).symm _ (if_neg hb251).symm _ (if_neg hb251).symm X228 e229 N230 F231 F232 F233 F235 F237 F239
  intro T253 h254 Lo255 v262 hv262 v264 hv264 v266 hv266 X256 e257 N258 F259 F260 F261 F263 F265 F267
  refine own_step (T' := T253) (g' := (mkF m 197 #[.val (.int k0), .val (.int m1), .val (.long x1), .second, .val (.long x2), .second, .val (.int n), .val (.ref a9), .val (.ref a210), .unset, .unset, .unset] [(.int n)])) (fun t_ k_ => XS.iload X256.here hx rfl (hb hby at_195) rfl k_) ?_
  refine own_step (T' := T253) (g' := (mkF m 198 #[.val (.int k0), .val (.int m1), .val (.long x1), .second, .val (.long x2), .second, .val (.int n), .val (.ref a9), .val (.ref a210), .unset, .unset, .unset] [(.int (2 : Int32)), (.int n)])) (fun t_ k_ => XT.iconstV X256.here hx rfl (2 : Int32) (hb hby at_197) (by decide) k_) ?_
  suffices k280 : ∀ (T281 : State) (h282 : Heap) (Lo283 : List Loc), ∀ v290 : Int64, v290 = (if (2 : Int32) < n then (if c2 = (32 : Int32) then (v262 + (1 : Int64)) else v262) else v262) → ∀ v292 : Int32, v292 = (if (2 : Int32) < n then (if c2 = (32 : Int32) then (nar .boolean (v264 ||| (if (v266 - (v266 / (5 : Int64)) * (5 : Int64)) = (4 : Int64) then (0 : Int32) else (1 : Int32)))) else v264) else v264) → ∀ v294 : Int64, v294 = (if (2 : Int32) < n then (v266 + (1 : Int64)) else v266) → Stand p l e room_1 s m #[(.int k0), (.int m1), (.long x1), (.long x2)] below meth c T281 Lo283 2 14 → T281.heap = h282 → Fr n0 Lo283 → n0 ≤ h282.size → own_Arl Z h282 a9 .char [(.int c0), (.int c1), (.int c2), (.int c3), (.int c4), (.int c5), (.int c6), (.int c7), (.int c8), (.int c9), (.int c10)] → Exa Z h282 a210 "com/example/llogari/llogari/rules/WrittenForm" → Fld Z h282 a210 "com/example/llogari/llogari/rules/WrittenForm" "blanks" "J" (.long v290) → Fld Z h282 a210 "com/example/llogari/llogari/rules/WrittenForm" "misplaced" "Z" (.int v292) → Fld Z h282 a210 "com/example/llogari/llogari/rules/WrittenForm" "length" "J" (.long v294) → own_Fin p e below s (Q_7 h0 n0) 2 14 T281 (mkF m 210 #[.val (.int k0), .val (.int m1), .val (.long x1), .second, .val (.long x2), .second, .val (.int n), .val (.ref a9), .val (.ref a210), .unset, .unset, .unset] []) by
    by_cases hb279 : (2 : Int32) < n
    · refine own_step (T' := T253) (g' := (mkF m 201 #[.val (.int k0), .val (.int m1), .val (.long x1), .second, .val (.long x2), .second, .val (.int n), .val (.ref a9), .val (.ref a210), .unset, .unset, .unset] [])) (fun t_ k_ => XS.icmpNo X256.here hx rfl (hb hby at_198) rfl (XT.ii_le_f hb279) k_) ?_
      refine own_step (T' := T253) (g' := (mkF m 203 #[.val (.int k0), .val (.int m1), .val (.long x1), .second, .val (.long x2), .second, .val (.int n), .val (.ref a9), .val (.ref a210), .unset, .unset, .unset] [(.ref a210)])) (fun t_ k_ => XS.aload X256.here hx rfl (hb hby at_201) rfl rfl k_) ?_
      refine own_step (T' := T253) (g' := (mkF m 205 #[.val (.int k0), .val (.int m1), .val (.long x1), .second, .val (.long x2), .second, .val (.int n), .val (.ref a9), .val (.ref a210), .unset, .unset, .unset] [(.ref a9), (.ref a210)])) (fun t_ k_ => XS.aload X256.here hx rfl (hb hby at_203) rfl rfl k_) ?_
      refine own_step (T' := T253) (g' := (mkF m 206 #[.val (.int k0), .val (.int m1), .val (.long x1), .second, .val (.long x2), .second, .val (.int n), .val (.ref a9), .val (.ref a210), .unset, .unset, .unset] [(.int (2 : Int32)), (.ref a9), (.ref a210)])) (fun t_ k_ => XT.iconstV X256.here hx rfl (2 : Int32) (hb hby at_205) (by decide) k_) ?_
      have st296 := own_caload (g := (mkF m 206 #[.val (.int k0), .val (.int m1), .val (.long x1), .second, .val (.long x2), .second, .val (.int n), .val (.ref a9), .val (.ref a210), .unset, .unset, .unset] [(.int (2 : Int32)), (.ref a9), (.ref a210)])) X256 hx hZ e257 F260 (v := (.int c2)) (by decide) (own_ix (k := 2) (by decide) rfl) rfl rfl (hb hby at_206)
      refine own_step (T' := T253) (g' := (mkF m 207 #[.val (.int k0), .val (.int m1), .val (.long x1), .second, .val (.long x2), .second, .val (.int n), .val (.ref a9), .val (.ref a210), .unset, .unset, .unset] [(.int c2), (.ref a210)])) st296 ?_
      obtain ⟨cqc297, kqc297, qac297, qbc297, qcc297⟩ := isOf hZ e257 F261
      obtain ⟨_, _, ⟨Tc297, Lc297, kc297, nc297⟩, -, Xc297, ⟨Lcc297, hQc297, lc297, yc297, zc297⟩, stc297⟩ := X256.virtualBack hx (y := (⟨"com/example/llogari/llogari/rules/WrittenForm", "append", "(C)V"⟩ : MethodName)) (z := (⟨"com/example/llogari/llogari/rules/WrittenForm", "append", "(C)V"⟩ : MethodName)) hown (mvT hZ (hw _ (List.mem_of_getElem? (i := 23) rfl))) (mvT hZ (hw _ (List.mem_of_getElem? (i := 24) rfl))) (notFace_of_selects (args := #[]) (mvT hZ (hw _ (List.mem_of_getElem? (i := 26) rfl)))) (mvT hZ (hw _ (List.mem_of_getElem? (i := 26) rfl))) (mvT hZ (hw _ (List.mem_of_getElem? (i := 25) rfl))) (by decide) (backOf (W := 0) (rm_app l Z a0 hw [] a210 c2 v262 v264 v266 h254 n0 F259 F261 F263 F265 F267 q212) hZ (hw _ (List.mem_of_getElem? (i := 27) rfl)) (hw _ (List.mem_of_getElem? (i := 9) rfl)) (by decide) (by decide)) qac297 qcc297 (g := (mkF m 207 #[.val (.int k0), .val (.int m1), .val (.long x1), .second, .val (.long x2), .second, .val (.int n), .val (.ref a9), .val (.ref a210), .unset, .unset, .unset] [(.int c2), (.ref a210)])) rfl (by rw [hml]; rfl) (Steps.refl _) (argsL := [(.int c2)]) (rest := []) (lenOf pd_3 rfl) rfl (by show 2 * 0 + _ ≤ _; exact Nat.le_of_eq rfl) (hb hby at_207) (fun _ _ => ⟨rfl, e257, (by decide : 2 + 0 ≤ _), (by decide : 14 + 0 ≤ _)⟩)
      dsimp only [Pt.U, Pt.locs, Pt.cells, Pt.slots] at Xc297 lc297 yc297 zc297 stc297 hQc297
      subst lc297 yc297 zc297
      obtain ⟨rfl, N298, K299, F300, F301, F302⟩ := hQc297
      have N303 := Fr.app N258 N298
      have F304 : n0 ≤ Tc297.heap.size := Nat.le_trans F259 K299.1
      have F305 : own_Arl Z Tc297.heap a9 .char [(.int c0), (.int c1), (.int c2), (.int c3), (.int c4), (.int c5), (.int c6), (.int c7), (.int c8), (.int c9), (.int c10)] := F260.keep K299 (ninS ne213 nin0)
      have F306 : Exa Z Tc297.heap a210 "com/example/llogari/llogari/rules/WrittenForm" := F261.keep K299
      refine own_step (T' := Tc297) (g' := (mkF m 210 #[.val (.int k0), .val (.int m1), .val (.long x1), .second, .val (.long x2), .second, .val (.int n), .val (.ref a9), .val (.ref a210), .unset, .unset, .unset] [])) (fun t_ k_ => stc297.trans k_) ?_
      exact k280 _ _ _ _ (if_pos hb279).symm _ (if_pos hb279).symm _ (if_pos hb279).symm Xc297 rfl N303 F304 F305 F306 F300 F301 F302
    · refine own_step (T' := T253) (g' := (mkF m 210 #[.val (.int k0), .val (.int m1), .val (.long x1), .second, .val (.long x2), .second, .val (.int n), .val (.ref a9), .val (.ref a210), .unset, .unset, .unset] [])) (fun t_ k_ => XS.icmpYes X256.here hx rfl (pc0 := 198) (pc' := 210) rfl (hb hby at_198) rfl (XT.ii_le_t hb279) (by decide) (by decide) k_) ?_
      exact k280 _ _ _ _ (if_neg hb279).symm _ (if_neg hb279).symm _ (if_neg hb279).symm X256 e257 N258 F259 F260 F261 F263 F265 F267
  intro T281 h282 Lo283 v290 hv290 v292 hv292 v294 hv294 X284 e285 N286 F287 F288 F289 F291 F293 F295
  refine own_step (T' := T281) (g' := (mkF m 212 #[.val (.int k0), .val (.int m1), .val (.long x1), .second, .val (.long x2), .second, .val (.int n), .val (.ref a9), .val (.ref a210), .unset, .unset, .unset] [(.int n)])) (fun t_ k_ => XS.iload X284.here hx rfl (hb hby at_210) rfl k_) ?_
  refine own_step (T' := T281) (g' := (mkF m 213 #[.val (.int k0), .val (.int m1), .val (.long x1), .second, .val (.long x2), .second, .val (.int n), .val (.ref a9), .val (.ref a210), .unset, .unset, .unset] [(.int (3 : Int32)), (.int n)])) (fun t_ k_ => XT.iconstV X284.here hx rfl (3 : Int32) (hb hby at_212) (by decide) k_) ?_
  suffices k308 : ∀ (T309 : State) (h310 : Heap) (Lo311 : List Loc), ∀ v318 : Int64, v318 = (if (3 : Int32) < n then (if c3 = (32 : Int32) then (v290 + (1 : Int64)) else v290) else v290) → ∀ v320 : Int32, v320 = (if (3 : Int32) < n then (if c3 = (32 : Int32) then (nar .boolean (v292 ||| (if (v294 - (v294 / (5 : Int64)) * (5 : Int64)) = (4 : Int64) then (0 : Int32) else (1 : Int32)))) else v292) else v292) → ∀ v322 : Int64, v322 = (if (3 : Int32) < n then (v294 + (1 : Int64)) else v294) → Stand p l e room_1 s m #[(.int k0), (.int m1), (.long x1), (.long x2)] below meth c T309 Lo311 2 14 → T309.heap = h310 → Fr n0 Lo311 → n0 ≤ h310.size → own_Arl Z h310 a9 .char [(.int c0), (.int c1), (.int c2), (.int c3), (.int c4), (.int c5), (.int c6), (.int c7), (.int c8), (.int c9), (.int c10)] → Exa Z h310 a210 "com/example/llogari/llogari/rules/WrittenForm" → Fld Z h310 a210 "com/example/llogari/llogari/rules/WrittenForm" "blanks" "J" (.long v318) → Fld Z h310 a210 "com/example/llogari/llogari/rules/WrittenForm" "misplaced" "Z" (.int v320) → Fld Z h310 a210 "com/example/llogari/llogari/rules/WrittenForm" "length" "J" (.long v322) → own_Fin p e below s (Q_7 h0 n0) 2 14 T309 (mkF m 225 #[.val (.int k0), .val (.int m1), .val (.long x1), .second, .val (.long x2), .second, .val (.int n), .val (.ref a9), .val (.ref a210), .unset, .unset, .unset] []) by
    by_cases hb307 : (3 : Int32) < n
    · refine own_step (T' := T281) (g' := (mkF m 216 #[.val (.int k0), .val (.int m1), .val (.long x1), .second, .val (.long x2), .second, .val (.int n), .val (.ref a9), .val (.ref a210), .unset, .unset, .unset] [])) (fun t_ k_ => XS.icmpNo X284.here hx rfl (hb hby at_213) rfl (XT.ii_le_f hb307) k_) ?_
      refine own_step (T' := T281) (g' := (mkF m 218 #[.val (.int k0), .val (.int m1), .val (.long x1), .second, .val (.long x2), .second, .val (.int n), .val (.ref a9), .val (.ref a210), .unset, .unset, .unset] [(.ref a210)])) (fun t_ k_ => XS.aload X284.here hx rfl (hb hby at_216) rfl rfl k_) ?_
      refine own_step (T' := T281) (g' := (mkF m 220 #[.val (.int k0), .val (.int m1), .val (.long x1), .second, .val (.long x2), .second, .val (.int n), .val (.ref a9), .val (.ref a210), .unset, .unset, .unset] [(.ref a9), (.ref a210)])) (fun t_ k_ => XS.aload X284.here hx rfl (hb hby at_218) rfl rfl k_) ?_
      refine own_step (T' := T281) (g' := (mkF m 221 #[.val (.int k0), .val (.int m1), .val (.long x1), .second, .val (.long x2), .second, .val (.int n), .val (.ref a9), .val (.ref a210), .unset, .unset, .unset] [(.int (3 : Int32)), (.ref a9), (.ref a210)])) (fun t_ k_ => XT.iconstV X284.here hx rfl (3 : Int32) (hb hby at_220) (by decide) k_) ?_
      have st324 := own_caload (g := (mkF m 221 #[.val (.int k0), .val (.int m1), .val (.long x1), .second, .val (.long x2), .second, .val (.int n), .val (.ref a9), .val (.ref a210), .unset, .unset, .unset] [(.int (3 : Int32)), (.ref a9), (.ref a210)])) X284 hx hZ e285 F288 (v := (.int c3)) (by decide) (own_ix (k := 3) (by decide) rfl) rfl rfl (hb hby at_221)
      refine own_step (T' := T281) (g' := (mkF m 222 #[.val (.int k0), .val (.int m1), .val (.long x1), .second, .val (.long x2), .second, .val (.int n), .val (.ref a9), .val (.ref a210), .unset, .unset, .unset] [(.int c3), (.ref a210)])) st324 ?_
      obtain ⟨cqc325, kqc325, qac325, qbc325, qcc325⟩ := isOf hZ e285 F289
      obtain ⟨_, _, ⟨Tc325, Lc325, kc325, nc325⟩, -, Xc325, ⟨Lcc325, hQc325, lc325, yc325, zc325⟩, stc325⟩ := X284.virtualBack hx (y := (⟨"com/example/llogari/llogari/rules/WrittenForm", "append", "(C)V"⟩ : MethodName)) (z := (⟨"com/example/llogari/llogari/rules/WrittenForm", "append", "(C)V"⟩ : MethodName)) hown (mvT hZ (hw _ (List.mem_of_getElem? (i := 23) rfl))) (mvT hZ (hw _ (List.mem_of_getElem? (i := 24) rfl))) (notFace_of_selects (args := #[]) (mvT hZ (hw _ (List.mem_of_getElem? (i := 26) rfl)))) (mvT hZ (hw _ (List.mem_of_getElem? (i := 26) rfl))) (mvT hZ (hw _ (List.mem_of_getElem? (i := 25) rfl))) (by decide) (backOf (W := 0) (rm_app l Z a0 hw [] a210 c3 v290 v292 v294 h282 n0 F287 F289 F291 F293 F295 q212) hZ (hw _ (List.mem_of_getElem? (i := 27) rfl)) (hw _ (List.mem_of_getElem? (i := 9) rfl)) (by decide) (by decide)) qac325 qcc325 (g := (mkF m 222 #[.val (.int k0), .val (.int m1), .val (.long x1), .second, .val (.long x2), .second, .val (.int n), .val (.ref a9), .val (.ref a210), .unset, .unset, .unset] [(.int c3), (.ref a210)])) rfl (by rw [hml]; rfl) (Steps.refl _) (argsL := [(.int c3)]) (rest := []) (lenOf pd_3 rfl) rfl (by show 2 * 0 + _ ≤ _; exact Nat.le_of_eq rfl) (hb hby at_222) (fun _ _ => ⟨rfl, e285, (by decide : 2 + 0 ≤ _), (by decide : 14 + 0 ≤ _)⟩)
      dsimp only [Pt.U, Pt.locs, Pt.cells, Pt.slots] at Xc325 lc325 yc325 zc325 stc325 hQc325
      subst lc325 yc325 zc325
      obtain ⟨rfl, N326, K327, F328, F329, F330⟩ := hQc325
      have N331 := Fr.app N286 N326
      have F332 : n0 ≤ Tc325.heap.size := Nat.le_trans F287 K327.1
      have F333 : own_Arl Z Tc325.heap a9 .char [(.int c0), (.int c1), (.int c2), (.int c3), (.int c4), (.int c5), (.int c6), (.int c7), (.int c8), (.int c9), (.int c10)] := F288.keep K327 (ninS ne213 nin0)
      have F334 : Exa Z Tc325.heap a210 "com/example/llogari/llogari/rules/WrittenForm" := F289.keep K327
      refine own_step (T' := Tc325) (g' := (mkF m 225 #[.val (.int k0), .val (.int m1), .val (.long x1), .second, .val (.long x2), .second, .val (.int n), .val (.ref a9), .val (.ref a210), .unset, .unset, .unset] [])) (fun t_ k_ => stc325.trans k_) ?_
      exact k308 _ _ _ _ (if_pos hb307).symm _ (if_pos hb307).symm _ (if_pos hb307).symm Xc325 rfl N331 F332 F333 F334 F328 F329 F330
    · refine own_step (T' := T281) (g' := (mkF m 225 #[.val (.int k0), .val (.int m1), .val (.long x1), .second, .val (.long x2), .second, .val (.int n), .val (.ref a9), .val (.ref a210), .unset, .unset, .unset] [])) (fun t_ k_ => XS.icmpYes X284.here hx rfl (pc0 := 213) (pc' := 225) rfl (hb hby at_213) rfl (XT.ii_le_t hb307) (by decide) (by decide) k_) ?_
      exact k308 _ _ _ _ (if_neg hb307).symm _ (if_neg hb307).symm _ (if_neg hb307).symm X284 e285 N286 F287 F288 F289 F291 F293 F295
  intro T309 h310 Lo311 v318 hv318 v320 hv320 v322 hv322 X312 e313 N314 F315 F316 F317 F319 F321 F323
  refine own_step (T' := T309) (g' := (mkF m 227 #[.val (.int k0), .val (.int m1), .val (.long x1), .second, .val (.long x2), .second, .val (.int n), .val (.ref a9), .val (.ref a210), .unset, .unset, .unset] [(.int n)])) (fun t_ k_ => XS.iload X312.here hx rfl (hb hby at_225) rfl k_) ?_
  refine own_step (T' := T309) (g' := (mkF m 228 #[.val (.int k0), .val (.int m1), .val (.long x1), .second, .val (.long x2), .second, .val (.int n), .val (.ref a9), .val (.ref a210), .unset, .unset, .unset] [(.int (4 : Int32)), (.int n)])) (fun t_ k_ => XT.iconstV X312.here hx rfl (4 : Int32) (hb hby at_227) (by decide) k_) ?_
  suffices k336 : ∀ (T337 : State) (h338 : Heap) (Lo339 : List Loc), ∀ v346 : Int64, v346 = (if (4 : Int32) < n then (if c4 = (32 : Int32) then (v318 + (1 : Int64)) else v318) else v318) → ∀ v348 : Int32, v348 = (if (4 : Int32) < n then (if c4 = (32 : Int32) then (nar .boolean (v320 ||| (if (v322 - (v322 / (5 : Int64)) * (5 : Int64)) = (4 : Int64) then (0 : Int32) else (1 : Int32)))) else v320) else v320) → ∀ v350 : Int64, v350 = (if (4 : Int32) < n then (v322 + (1 : Int64)) else v322) → Stand p l e room_1 s m #[(.int k0), (.int m1), (.long x1), (.long x2)] below meth c T337 Lo339 2 14 → T337.heap = h338 → Fr n0 Lo339 → n0 ≤ h338.size → own_Arl Z h338 a9 .char [(.int c0), (.int c1), (.int c2), (.int c3), (.int c4), (.int c5), (.int c6), (.int c7), (.int c8), (.int c9), (.int c10)] → Exa Z h338 a210 "com/example/llogari/llogari/rules/WrittenForm" → Fld Z h338 a210 "com/example/llogari/llogari/rules/WrittenForm" "blanks" "J" (.long v346) → Fld Z h338 a210 "com/example/llogari/llogari/rules/WrittenForm" "misplaced" "Z" (.int v348) → Fld Z h338 a210 "com/example/llogari/llogari/rules/WrittenForm" "length" "J" (.long v350) → own_Fin p e below s (Q_7 h0 n0) 2 14 T337 (mkF m 240 #[.val (.int k0), .val (.int m1), .val (.long x1), .second, .val (.long x2), .second, .val (.int n), .val (.ref a9), .val (.ref a210), .unset, .unset, .unset] []) by
    by_cases hb335 : (4 : Int32) < n
    · refine own_step (T' := T309) (g' := (mkF m 231 #[.val (.int k0), .val (.int m1), .val (.long x1), .second, .val (.long x2), .second, .val (.int n), .val (.ref a9), .val (.ref a210), .unset, .unset, .unset] [])) (fun t_ k_ => XS.icmpNo X312.here hx rfl (hb hby at_228) rfl (XT.ii_le_f hb335) k_) ?_
      refine own_step (T' := T309) (g' := (mkF m 233 #[.val (.int k0), .val (.int m1), .val (.long x1), .second, .val (.long x2), .second, .val (.int n), .val (.ref a9), .val (.ref a210), .unset, .unset, .unset] [(.ref a210)])) (fun t_ k_ => XS.aload X312.here hx rfl (hb hby at_231) rfl rfl k_) ?_
      refine own_step (T' := T309) (g' := (mkF m 235 #[.val (.int k0), .val (.int m1), .val (.long x1), .second, .val (.long x2), .second, .val (.int n), .val (.ref a9), .val (.ref a210), .unset, .unset, .unset] [(.ref a9), (.ref a210)])) (fun t_ k_ => XS.aload X312.here hx rfl (hb hby at_233) rfl rfl k_) ?_
      refine own_step (T' := T309) (g' := (mkF m 236 #[.val (.int k0), .val (.int m1), .val (.long x1), .second, .val (.long x2), .second, .val (.int n), .val (.ref a9), .val (.ref a210), .unset, .unset, .unset] [(.int (4 : Int32)), (.ref a9), (.ref a210)])) (fun t_ k_ => XT.iconstV X312.here hx rfl (4 : Int32) (hb hby at_235) (by decide) k_) ?_
      have st352 := own_caload (g := (mkF m 236 #[.val (.int k0), .val (.int m1), .val (.long x1), .second, .val (.long x2), .second, .val (.int n), .val (.ref a9), .val (.ref a210), .unset, .unset, .unset] [(.int (4 : Int32)), (.ref a9), (.ref a210)])) X312 hx hZ e313 F316 (v := (.int c4)) (by decide) (own_ix (k := 4) (by decide) rfl) rfl rfl (hb hby at_236)
      refine own_step (T' := T309) (g' := (mkF m 237 #[.val (.int k0), .val (.int m1), .val (.long x1), .second, .val (.long x2), .second, .val (.int n), .val (.ref a9), .val (.ref a210), .unset, .unset, .unset] [(.int c4), (.ref a210)])) st352 ?_
      obtain ⟨cqc353, kqc353, qac353, qbc353, qcc353⟩ := isOf hZ e313 F317
      obtain ⟨_, _, ⟨Tc353, Lc353, kc353, nc353⟩, -, Xc353, ⟨Lcc353, hQc353, lc353, yc353, zc353⟩, stc353⟩ := X312.virtualBack hx (y := (⟨"com/example/llogari/llogari/rules/WrittenForm", "append", "(C)V"⟩ : MethodName)) (z := (⟨"com/example/llogari/llogari/rules/WrittenForm", "append", "(C)V"⟩ : MethodName)) hown (mvT hZ (hw _ (List.mem_of_getElem? (i := 23) rfl))) (mvT hZ (hw _ (List.mem_of_getElem? (i := 24) rfl))) (notFace_of_selects (args := #[]) (mvT hZ (hw _ (List.mem_of_getElem? (i := 26) rfl)))) (mvT hZ (hw _ (List.mem_of_getElem? (i := 26) rfl))) (mvT hZ (hw _ (List.mem_of_getElem? (i := 25) rfl))) (by decide) (backOf (W := 0) (rm_app l Z a0 hw [] a210 c4 v318 v320 v322 h310 n0 F315 F317 F319 F321 F323 q212) hZ (hw _ (List.mem_of_getElem? (i := 27) rfl)) (hw _ (List.mem_of_getElem? (i := 9) rfl)) (by decide) (by decide)) qac353 qcc353 (g := (mkF m 237 #[.val (.int k0), .val (.int m1), .val (.long x1), .second, .val (.long x2), .second, .val (.int n), .val (.ref a9), .val (.ref a210), .unset, .unset, .unset] [(.int c4), (.ref a210)])) rfl (by rw [hml]; rfl) (Steps.refl _) (argsL := [(.int c4)]) (rest := []) (lenOf pd_3 rfl) rfl (by show 2 * 0 + _ ≤ _; exact Nat.le_of_eq rfl) (hb hby at_237) (fun _ _ => ⟨rfl, e313, (by decide : 2 + 0 ≤ _), (by decide : 14 + 0 ≤ _)⟩)
      dsimp only [Pt.U, Pt.locs, Pt.cells, Pt.slots] at Xc353 lc353 yc353 zc353 stc353 hQc353
      subst lc353 yc353 zc353
      obtain ⟨rfl, N354, K355, F356, F357, F358⟩ := hQc353
      have N359 := Fr.app N314 N354
      have F360 : n0 ≤ Tc353.heap.size := Nat.le_trans F315 K355.1
      have F361 : own_Arl Z Tc353.heap a9 .char [(.int c0), (.int c1), (.int c2), (.int c3), (.int c4), (.int c5), (.int c6), (.int c7), (.int c8), (.int c9), (.int c10)] := F316.keep K355 (ninS ne213 nin0)
      have F362 : Exa Z Tc353.heap a210 "com/example/llogari/llogari/rules/WrittenForm" := F317.keep K355
      refine own_step (T' := Tc353) (g' := (mkF m 240 #[.val (.int k0), .val (.int m1), .val (.long x1), .second, .val (.long x2), .second, .val (.int n), .val (.ref a9), .val (.ref a210), .unset, .unset, .unset] [])) (fun t_ k_ => stc353.trans k_) ?_
      exact k336 _ _ _ _ (if_pos hb335).symm _ (if_pos hb335).symm _ (if_pos hb335).symm Xc353 rfl N359 F360 F361 F362 F356 F357 F358
    · refine own_step (T' := T309) (g' := (mkF m 240 #[.val (.int k0), .val (.int m1), .val (.long x1), .second, .val (.long x2), .second, .val (.int n), .val (.ref a9), .val (.ref a210), .unset, .unset, .unset] [])) (fun t_ k_ => XS.icmpYes X312.here hx rfl (pc0 := 228) (pc' := 240) rfl (hb hby at_228) rfl (XT.ii_le_t hb335) (by decide) (by decide) k_) ?_
      exact k336 _ _ _ _ (if_neg hb335).symm _ (if_neg hb335).symm _ (if_neg hb335).symm X312 e313 N314 F315 F316 F317 F319 F321 F323
  intro T337 h338 Lo339 v346 hv346 v348 hv348 v350 hv350 X340 e341 N342 F343 F344 F345 F347 F349 F351
  refine own_step (T' := T337) (g' := (mkF m 242 #[.val (.int k0), .val (.int m1), .val (.long x1), .second, .val (.long x2), .second, .val (.int n), .val (.ref a9), .val (.ref a210), .unset, .unset, .unset] [(.int n)])) (fun t_ k_ => XS.iload X340.here hx rfl (hb hby at_240) rfl k_) ?_
  refine own_step (T' := T337) (g' := (mkF m 243 #[.val (.int k0), .val (.int m1), .val (.long x1), .second, .val (.long x2), .second, .val (.int n), .val (.ref a9), .val (.ref a210), .unset, .unset, .unset] [(.int (5 : Int32)), (.int n)])) (fun t_ k_ => XT.iconstV X340.here hx rfl (5 : Int32) (hb hby at_242) (by decide) k_) ?_
  suffices k364 : ∀ (T365 : State) (h366 : Heap) (Lo367 : List Loc), ∀ v374 : Int64, v374 = (if (5 : Int32) < n then (if c5 = (32 : Int32) then (v346 + (1 : Int64)) else v346) else v346) → ∀ v376 : Int32, v376 = (if (5 : Int32) < n then (if c5 = (32 : Int32) then (nar .boolean (v348 ||| (if (v350 - (v350 / (5 : Int64)) * (5 : Int64)) = (4 : Int64) then (0 : Int32) else (1 : Int32)))) else v348) else v348) → ∀ v378 : Int64, v378 = (if (5 : Int32) < n then (v350 + (1 : Int64)) else v350) → Stand p l e room_1 s m #[(.int k0), (.int m1), (.long x1), (.long x2)] below meth c T365 Lo367 2 14 → T365.heap = h366 → Fr n0 Lo367 → n0 ≤ h366.size → own_Arl Z h366 a9 .char [(.int c0), (.int c1), (.int c2), (.int c3), (.int c4), (.int c5), (.int c6), (.int c7), (.int c8), (.int c9), (.int c10)] → Exa Z h366 a210 "com/example/llogari/llogari/rules/WrittenForm" → Fld Z h366 a210 "com/example/llogari/llogari/rules/WrittenForm" "blanks" "J" (.long v374) → Fld Z h366 a210 "com/example/llogari/llogari/rules/WrittenForm" "misplaced" "Z" (.int v376) → Fld Z h366 a210 "com/example/llogari/llogari/rules/WrittenForm" "length" "J" (.long v378) → own_Fin p e below s (Q_7 h0 n0) 2 14 T365 (mkF m 255 #[.val (.int k0), .val (.int m1), .val (.long x1), .second, .val (.long x2), .second, .val (.int n), .val (.ref a9), .val (.ref a210), .unset, .unset, .unset] []) by
    by_cases hb363 : (5 : Int32) < n
    · refine own_step (T' := T337) (g' := (mkF m 246 #[.val (.int k0), .val (.int m1), .val (.long x1), .second, .val (.long x2), .second, .val (.int n), .val (.ref a9), .val (.ref a210), .unset, .unset, .unset] [])) (fun t_ k_ => XS.icmpNo X340.here hx rfl (hb hby at_243) rfl (XT.ii_le_f hb363) k_) ?_
      refine own_step (T' := T337) (g' := (mkF m 248 #[.val (.int k0), .val (.int m1), .val (.long x1), .second, .val (.long x2), .second, .val (.int n), .val (.ref a9), .val (.ref a210), .unset, .unset, .unset] [(.ref a210)])) (fun t_ k_ => XS.aload X340.here hx rfl (hb hby at_246) rfl rfl k_) ?_
      refine own_step (T' := T337) (g' := (mkF m 250 #[.val (.int k0), .val (.int m1), .val (.long x1), .second, .val (.long x2), .second, .val (.int n), .val (.ref a9), .val (.ref a210), .unset, .unset, .unset] [(.ref a9), (.ref a210)])) (fun t_ k_ => XS.aload X340.here hx rfl (hb hby at_248) rfl rfl k_) ?_
      refine own_step (T' := T337) (g' := (mkF m 251 #[.val (.int k0), .val (.int m1), .val (.long x1), .second, .val (.long x2), .second, .val (.int n), .val (.ref a9), .val (.ref a210), .unset, .unset, .unset] [(.int (5 : Int32)), (.ref a9), (.ref a210)])) (fun t_ k_ => XT.iconstV X340.here hx rfl (5 : Int32) (hb hby at_250) (by decide) k_) ?_
      have st380 := own_caload (g := (mkF m 251 #[.val (.int k0), .val (.int m1), .val (.long x1), .second, .val (.long x2), .second, .val (.int n), .val (.ref a9), .val (.ref a210), .unset, .unset, .unset] [(.int (5 : Int32)), (.ref a9), (.ref a210)])) X340 hx hZ e341 F344 (v := (.int c5)) (by decide) (own_ix (k := 5) (by decide) rfl) rfl rfl (hb hby at_251)
      refine own_step (T' := T337) (g' := (mkF m 252 #[.val (.int k0), .val (.int m1), .val (.long x1), .second, .val (.long x2), .second, .val (.int n), .val (.ref a9), .val (.ref a210), .unset, .unset, .unset] [(.int c5), (.ref a210)])) st380 ?_
      obtain ⟨cqc381, kqc381, qac381, qbc381, qcc381⟩ := isOf hZ e341 F345
      obtain ⟨_, _, ⟨Tc381, Lc381, kc381, nc381⟩, -, Xc381, ⟨Lcc381, hQc381, lc381, yc381, zc381⟩, stc381⟩ := X340.virtualBack hx (y := (⟨"com/example/llogari/llogari/rules/WrittenForm", "append", "(C)V"⟩ : MethodName)) (z := (⟨"com/example/llogari/llogari/rules/WrittenForm", "append", "(C)V"⟩ : MethodName)) hown (mvT hZ (hw _ (List.mem_of_getElem? (i := 23) rfl))) (mvT hZ (hw _ (List.mem_of_getElem? (i := 24) rfl))) (notFace_of_selects (args := #[]) (mvT hZ (hw _ (List.mem_of_getElem? (i := 26) rfl)))) (mvT hZ (hw _ (List.mem_of_getElem? (i := 26) rfl))) (mvT hZ (hw _ (List.mem_of_getElem? (i := 25) rfl))) (by decide) (backOf (W := 0) (rm_app l Z a0 hw [] a210 c5 v346 v348 v350 h338 n0 F343 F345 F347 F349 F351 q212) hZ (hw _ (List.mem_of_getElem? (i := 27) rfl)) (hw _ (List.mem_of_getElem? (i := 9) rfl)) (by decide) (by decide)) qac381 qcc381 (g := (mkF m 252 #[.val (.int k0), .val (.int m1), .val (.long x1), .second, .val (.long x2), .second, .val (.int n), .val (.ref a9), .val (.ref a210), .unset, .unset, .unset] [(.int c5), (.ref a210)])) rfl (by rw [hml]; rfl) (Steps.refl _) (argsL := [(.int c5)]) (rest := []) (lenOf pd_3 rfl) rfl (by show 2 * 0 + _ ≤ _; exact Nat.le_of_eq rfl) (hb hby at_252) (fun _ _ => ⟨rfl, e341, (by decide : 2 + 0 ≤ _), (by decide : 14 + 0 ≤ _)⟩)
      dsimp only [Pt.U, Pt.locs, Pt.cells, Pt.slots] at Xc381 lc381 yc381 zc381 stc381 hQc381
      subst lc381 yc381 zc381
      obtain ⟨rfl, N382, K383, F384, F385, F386⟩ := hQc381
      have N387 := Fr.app N342 N382
      have F388 : n0 ≤ Tc381.heap.size := Nat.le_trans F343 K383.1
      have F389 : own_Arl Z Tc381.heap a9 .char [(.int c0), (.int c1), (.int c2), (.int c3), (.int c4), (.int c5), (.int c6), (.int c7), (.int c8), (.int c9), (.int c10)] := F344.keep K383 (ninS ne213 nin0)
      have F390 : Exa Z Tc381.heap a210 "com/example/llogari/llogari/rules/WrittenForm" := F345.keep K383
      refine own_step (T' := Tc381) (g' := (mkF m 255 #[.val (.int k0), .val (.int m1), .val (.long x1), .second, .val (.long x2), .second, .val (.int n), .val (.ref a9), .val (.ref a210), .unset, .unset, .unset] [])) (fun t_ k_ => stc381.trans k_) ?_
      exact k364 _ _ _ _ (if_pos hb363).symm _ (if_pos hb363).symm _ (if_pos hb363).symm Xc381 rfl N387 F388 F389 F390 F384 F385 F386
    · refine own_step (T' := T337) (g' := (mkF m 255 #[.val (.int k0), .val (.int m1), .val (.long x1), .second, .val (.long x2), .second, .val (.int n), .val (.ref a9), .val (.ref a210), .unset, .unset, .unset] [])) (fun t_ k_ => XS.icmpYes X340.here hx rfl (pc0 := 243) (pc' := 255) rfl (hb hby at_243) rfl (XT.ii_le_t hb363) (by decide) (by decide) k_) ?_
      exact k364 _ _ _ _ (if_neg hb363).symm _ (if_neg hb363).symm _ (if_neg hb363).symm X340 e341 N342 F343 F344 F345 F347 F349 F351
  intro T365 h366 Lo367 v374 hv374 v376 hv376 v378 hv378 X368 e369 N370 F371 F372 F373 F375 F377 F379
  refine own_step (T' := T365) (g' := (mkF m 257 #[.val (.int k0), .val (.int m1), .val (.long x1), .second, .val (.long x2), .second, .val (.int n), .val (.ref a9), .val (.ref a210), .unset, .unset, .unset] [(.int n)])) (fun t_ k_ => XS.iload X368.here hx rfl (hb hby at_255) rfl k_) ?_
  refine own_step (T' := T365) (g' := (mkF m 259 #[.val (.int k0), .val (.int m1), .val (.long x1), .second, .val (.long x2), .second, .val (.int n), .val (.ref a9), .val (.ref a210), .unset, .unset, .unset] [(.int (6 : Int32)), (.int n)])) (fun t_ k_ => XT.bipushV X368.here hx rfl (6 : Int32) (hb hby at_257) (by decide) k_) ?_
  suffices k392 : ∀ (T393 : State) (h394 : Heap) (Lo395 : List Loc), ∀ v402 : Int64, v402 = (if (6 : Int32) < n then (if c6 = (32 : Int32) then (v374 + (1 : Int64)) else v374) else v374) → ∀ v404 : Int32, v404 = (if (6 : Int32) < n then (if c6 = (32 : Int32) then (nar .boolean (v376 ||| (if (v378 - (v378 / (5 : Int64)) * (5 : Int64)) = (4 : Int64) then (0 : Int32) else (1 : Int32)))) else v376) else v376) → ∀ v406 : Int64, v406 = (if (6 : Int32) < n then (v378 + (1 : Int64)) else v378) → Stand p l e room_1 s m #[(.int k0), (.int m1), (.long x1), (.long x2)] below meth c T393 Lo395 2 14 → T393.heap = h394 → Fr n0 Lo395 → n0 ≤ h394.size → own_Arl Z h394 a9 .char [(.int c0), (.int c1), (.int c2), (.int c3), (.int c4), (.int c5), (.int c6), (.int c7), (.int c8), (.int c9), (.int c10)] → Exa Z h394 a210 "com/example/llogari/llogari/rules/WrittenForm" → Fld Z h394 a210 "com/example/llogari/llogari/rules/WrittenForm" "blanks" "J" (.long v402) → Fld Z h394 a210 "com/example/llogari/llogari/rules/WrittenForm" "misplaced" "Z" (.int v404) → Fld Z h394 a210 "com/example/llogari/llogari/rules/WrittenForm" "length" "J" (.long v406) → own_Fin p e below s (Q_7 h0 n0) 2 14 T393 (mkF m 272 #[.val (.int k0), .val (.int m1), .val (.long x1), .second, .val (.long x2), .second, .val (.int n), .val (.ref a9), .val (.ref a210), .unset, .unset, .unset] []) by
    by_cases hb391 : (6 : Int32) < n
    · refine own_step (T' := T365) (g' := (mkF m 262 #[.val (.int k0), .val (.int m1), .val (.long x1), .second, .val (.long x2), .second, .val (.int n), .val (.ref a9), .val (.ref a210), .unset, .unset, .unset] [])) (fun t_ k_ => XS.icmpNo X368.here hx rfl (hb hby at_259) rfl (XT.ii_le_f hb391) k_) ?_
      refine own_step (T' := T365) (g' := (mkF m 264 #[.val (.int k0), .val (.int m1), .val (.long x1), .second, .val (.long x2), .second, .val (.int n), .val (.ref a9), .val (.ref a210), .unset, .unset, .unset] [(.ref a210)])) (fun t_ k_ => XS.aload X368.here hx rfl (hb hby at_262) rfl rfl k_) ?_
      refine own_step (T' := T365) (g' := (mkF m 266 #[.val (.int k0), .val (.int m1), .val (.long x1), .second, .val (.long x2), .second, .val (.int n), .val (.ref a9), .val (.ref a210), .unset, .unset, .unset] [(.ref a9), (.ref a210)])) (fun t_ k_ => XS.aload X368.here hx rfl (hb hby at_264) rfl rfl k_) ?_
      refine own_step (T' := T365) (g' := (mkF m 268 #[.val (.int k0), .val (.int m1), .val (.long x1), .second, .val (.long x2), .second, .val (.int n), .val (.ref a9), .val (.ref a210), .unset, .unset, .unset] [(.int (6 : Int32)), (.ref a9), (.ref a210)])) (fun t_ k_ => XT.bipushV X368.here hx rfl (6 : Int32) (hb hby at_266) (by decide) k_) ?_
      have st408 := own_caload (g := (mkF m 268 #[.val (.int k0), .val (.int m1), .val (.long x1), .second, .val (.long x2), .second, .val (.int n), .val (.ref a9), .val (.ref a210), .unset, .unset, .unset] [(.int (6 : Int32)), (.ref a9), (.ref a210)])) X368 hx hZ e369 F372 (v := (.int c6)) (by decide) (own_ix (k := 6) (by decide) rfl) rfl rfl (hb hby at_268)
      refine own_step (T' := T365) (g' := (mkF m 269 #[.val (.int k0), .val (.int m1), .val (.long x1), .second, .val (.long x2), .second, .val (.int n), .val (.ref a9), .val (.ref a210), .unset, .unset, .unset] [(.int c6), (.ref a210)])) st408 ?_
      obtain ⟨cqc409, kqc409, qac409, qbc409, qcc409⟩ := isOf hZ e369 F373
      obtain ⟨_, _, ⟨Tc409, Lc409, kc409, nc409⟩, -, Xc409, ⟨Lcc409, hQc409, lc409, yc409, zc409⟩, stc409⟩ := X368.virtualBack hx (y := (⟨"com/example/llogari/llogari/rules/WrittenForm", "append", "(C)V"⟩ : MethodName)) (z := (⟨"com/example/llogari/llogari/rules/WrittenForm", "append", "(C)V"⟩ : MethodName)) hown (mvT hZ (hw _ (List.mem_of_getElem? (i := 23) rfl))) (mvT hZ (hw _ (List.mem_of_getElem? (i := 24) rfl))) (notFace_of_selects (args := #[]) (mvT hZ (hw _ (List.mem_of_getElem? (i := 26) rfl)))) (mvT hZ (hw _ (List.mem_of_getElem? (i := 26) rfl))) (mvT hZ (hw _ (List.mem_of_getElem? (i := 25) rfl))) (by decide) (backOf (W := 0) (rm_app l Z a0 hw [] a210 c6 v374 v376 v378 h366 n0 F371 F373 F375 F377 F379 q212) hZ (hw _ (List.mem_of_getElem? (i := 27) rfl)) (hw _ (List.mem_of_getElem? (i := 9) rfl)) (by decide) (by decide)) qac409 qcc409 (g := (mkF m 269 #[.val (.int k0), .val (.int m1), .val (.long x1), .second, .val (.long x2), .second, .val (.int n), .val (.ref a9), .val (.ref a210), .unset, .unset, .unset] [(.int c6), (.ref a210)])) rfl (by rw [hml]; rfl) (Steps.refl _) (argsL := [(.int c6)]) (rest := []) (lenOf pd_3 rfl) rfl (by show 2 * 0 + _ ≤ _; exact Nat.le_of_eq rfl) (hb hby at_269) (fun _ _ => ⟨rfl, e369, (by decide : 2 + 0 ≤ _), (by decide : 14 + 0 ≤ _)⟩)
      dsimp only [Pt.U, Pt.locs, Pt.cells, Pt.slots] at Xc409 lc409 yc409 zc409 stc409 hQc409
      subst lc409 yc409 zc409
      obtain ⟨rfl, N410, K411, F412, F413, F414⟩ := hQc409
      have N415 := Fr.app N370 N410
      have F416 : n0 ≤ Tc409.heap.size := Nat.le_trans F371 K411.1
      have F417 : own_Arl Z Tc409.heap a9 .char [(.int c0), (.int c1), (.int c2), (.int c3), (.int c4), (.int c5), (.int c6), (.int c7), (.int c8), (.int c9), (.int c10)] := F372.keep K411 (ninS ne213 nin0)
      have F418 : Exa Z Tc409.heap a210 "com/example/llogari/llogari/rules/WrittenForm" := F373.keep K411
      refine own_step (T' := Tc409) (g' := (mkF m 272 #[.val (.int k0), .val (.int m1), .val (.long x1), .second, .val (.long x2), .second, .val (.int n), .val (.ref a9), .val (.ref a210), .unset, .unset, .unset] [])) (fun t_ k_ => stc409.trans k_) ?_
      exact k392 _ _ _ _ (if_pos hb391).symm _ (if_pos hb391).symm _ (if_pos hb391).symm Xc409 rfl N415 F416 F417 F418 F412 F413 F414
    · refine own_step (T' := T365) (g' := (mkF m 272 #[.val (.int k0), .val (.int m1), .val (.long x1), .second, .val (.long x2), .second, .val (.int n), .val (.ref a9), .val (.ref a210), .unset, .unset, .unset] [])) (fun t_ k_ => XS.icmpYes X368.here hx rfl (pc0 := 259) (pc' := 272) rfl (hb hby at_259) rfl (XT.ii_le_t hb391) (by decide) (by decide) k_) ?_
      exact k392 _ _ _ _ (if_neg hb391).symm _ (if_neg hb391).symm _ (if_neg hb391).symm X368 e369 N370 F371 F372 F373 F375 F377 F379
  intro T393 h394 Lo395 v402 hv402 v404 hv404 v406 hv406 X396 e397 N398 F399 F400 F401 F403 F405 F407
  refine own_step (T' := T393) (g' := (mkF m 274 #[.val (.int k0), .val (.int m1), .val (.long x1), .second, .val (.long x2), .second, .val (.int n), .val (.ref a9), .val (.ref a210), .unset, .unset, .unset] [(.int n)])) (fun t_ k_ => XS.iload X396.here hx rfl (hb hby at_272) rfl k_) ?_
  refine own_step (T' := T393) (g' := (mkF m 276 #[.val (.int k0), .val (.int m1), .val (.long x1), .second, .val (.long x2), .second, .val (.int n), .val (.ref a9), .val (.ref a210), .unset, .unset, .unset] [(.int (7 : Int32)), (.int n)])) (fun t_ k_ => XT.bipushV X396.here hx rfl (7 : Int32) (hb hby at_274) (by decide) k_) ?_
  suffices k420 : ∀ (T421 : State) (h422 : Heap) (Lo423 : List Loc), ∀ v430 : Int64, v430 = (if (7 : Int32) < n then (if c7 = (32 : Int32) then (v402 + (1 : Int64)) else v402) else v402) → ∀ v432 : Int32, v432 = (if (7 : Int32) < n then (if c7 = (32 : Int32) then (nar .boolean (v404 ||| (if (v406 - (v406 / (5 : Int64)) * (5 : Int64)) = (4 : Int64) then (0 : Int32) else (1 : Int32)))) else v404) else v404) → ∀ v434 : Int64, v434 = (if (7 : Int32) < n then (v406 + (1 : Int64)) else v406) → Stand p l e room_1 s m #[(.int k0), (.int m1), (.long x1), (.long x2)] below meth c T421 Lo423 2 14 → T421.heap = h422 → Fr n0 Lo423 → n0 ≤ h422.size → own_Arl Z h422 a9 .char [(.int c0), (.int c1), (.int c2), (.int c3), (.int c4), (.int c5), (.int c6), (.int c7), (.int c8), (.int c9), (.int c10)] → Exa Z h422 a210 "com/example/llogari/llogari/rules/WrittenForm" → Fld Z h422 a210 "com/example/llogari/llogari/rules/WrittenForm" "blanks" "J" (.long v430) → Fld Z h422 a210 "com/example/llogari/llogari/rules/WrittenForm" "misplaced" "Z" (.int v432) → Fld Z h422 a210 "com/example/llogari/llogari/rules/WrittenForm" "length" "J" (.long v434) → own_Fin p e below s (Q_7 h0 n0) 2 14 T421 (mkF m 289 #[.val (.int k0), .val (.int m1), .val (.long x1), .second, .val (.long x2), .second, .val (.int n), .val (.ref a9), .val (.ref a210), .unset, .unset, .unset] []) by
    by_cases hb419 : (7 : Int32) < n
    · refine own_step (T' := T393) (g' := (mkF m 279 #[.val (.int k0), .val (.int m1), .val (.long x1), .second, .val (.long x2), .second, .val (.int n), .val (.ref a9), .val (.ref a210), .unset, .unset, .unset] [])) (fun t_ k_ => XS.icmpNo X396.here hx rfl (hb hby at_276) rfl (XT.ii_le_f hb419) k_) ?_
      refine own_step (T' := T393) (g' := (mkF m 281 #[.val (.int k0), .val (.int m1), .val (.long x1), .second, .val (.long x2), .second, .val (.int n), .val (.ref a9), .val (.ref a210), .unset, .unset, .unset] [(.ref a210)])) (fun t_ k_ => XS.aload X396.here hx rfl (hb hby at_279) rfl rfl k_) ?_
      refine own_step (T' := T393) (g' := (mkF m 283 #[.val (.int k0), .val (.int m1), .val (.long x1), .second, .val (.long x2), .second, .val (.int n), .val (.ref a9), .val (.ref a210), .unset, .unset, .unset] [(.ref a9), (.ref a210)])) (fun t_ k_ => XS.aload X396.here hx rfl (hb hby at_281) rfl rfl k_) ?_
      refine own_step (T' := T393) (g' := (mkF m 285 #[.val (.int k0), .val (.int m1), .val (.long x1), .second, .val (.long x2), .second, .val (.int n), .val (.ref a9), .val (.ref a210), .unset, .unset, .unset] [(.int (7 : Int32)), (.ref a9), (.ref a210)])) (fun t_ k_ => XT.bipushV X396.here hx rfl (7 : Int32) (hb hby at_283) (by decide) k_) ?_
      have st436 := own_caload (g := (mkF m 285 #[.val (.int k0), .val (.int m1), .val (.long x1), .second, .val (.long x2), .second, .val (.int n), .val (.ref a9), .val (.ref a210), .unset, .unset, .unset] [(.int (7 : Int32)), (.ref a9), (.ref a210)])) X396 hx hZ e397 F400 (v := (.int c7)) (by decide) (own_ix (k := 7) (by decide) rfl) rfl rfl (hb hby at_285)
      refine own_step (T' := T393) (g' := (mkF m 286 #[.val (.int k0), .val (.int m1), .val (.long x1), .second, .val (.long x2), .second, .val (.int n), .val (.ref a9), .val (.ref a210), .unset, .unset, .unset] [(.int c7), (.ref a210)])) st436 ?_
      obtain ⟨cqc437, kqc437, qac437, qbc437, qcc437⟩ := isOf hZ e397 F401
      obtain ⟨_, _, ⟨Tc437, Lc437, kc437, nc437⟩, -, Xc437, ⟨Lcc437, hQc437, lc437, yc437, zc437⟩, stc437⟩ := X396.virtualBack hx (y := (⟨"com/example/llogari/llogari/rules/WrittenForm", "append", "(C)V"⟩ : MethodName)) (z := (⟨"com/example/llogari/llogari/rules/WrittenForm", "append", "(C)V"⟩ : MethodName)) hown (mvT hZ (hw _ (List.mem_of_getElem? (i := 23) rfl))) (mvT hZ (hw _ (List.mem_of_getElem? (i := 24) rfl))) (notFace_of_selects (args := #[]) (mvT hZ (hw _ (List.mem_of_getElem? (i := 26) rfl)))) (mvT hZ (hw _ (List.mem_of_getElem? (i := 26) rfl))) (mvT hZ (hw _ (List.mem_of_getElem? (i := 25) rfl))) (by decide) (backOf (W := 0) (rm_app l Z a0 hw [] a210 c7 v402 v404 v406 h394 n0 F399 F401 F403 F405 F407 q212) hZ (hw _ (List.mem_of_getElem? (i := 27) rfl)) (hw _ (List.mem_of_getElem? (i := 9) rfl)) (by decide) (by decide)) qac437 qcc437 (g := (mkF m 286 #[.val (.int k0), .val (.int m1), .val (.long x1), .second, .val (.long x2), .second, .val (.int n), .val (.ref a9), .val (.ref a210), .unset, .unset, .unset] [(.int c7), (.ref a210)])) rfl (by rw [hml]; rfl) (Steps.refl _) (argsL := [(.int c7)]) (rest := []) (lenOf pd_3 rfl) rfl (by show 2 * 0 + _ ≤ _; exact Nat.le_of_eq rfl) (hb hby at_286) (fun _ _ => ⟨rfl, e397, (by decide : 2 + 0 ≤ _), (by decide : 14 + 0 ≤ _)⟩)
      dsimp only [Pt.U, Pt.locs, Pt.cells, Pt.slots] at Xc437 lc437 yc437 zc437 stc437 hQc437
      subst lc437 yc437 zc437
      obtain ⟨rfl, N438, K439, F440, F441, F442⟩ := hQc437
      have N443 := Fr.app N398 N438
      have F444 : n0 ≤ Tc437.heap.size := Nat.le_trans F399 K439.1
      have F445 : own_Arl Z Tc437.heap a9 .char [(.int c0), (.int c1), (.int c2), (.int c3), (.int c4), (.int c5), (.int c6), (.int c7), (.int c8), (.int c9), (.int c10)] := F400.keep K439 (ninS ne213 nin0)
      have F446 : Exa Z Tc437.heap a210 "com/example/llogari/llogari/rules/WrittenForm" := F401.keep K439
      refine own_step (T' := Tc437) (g' := (mkF m 289 #[.val (.int k0), .val (.int m1), .val (.long x1), .second, .val (.long x2), .second, .val (.int n), .val (.ref a9), .val (.ref a210), .unset, .unset, .unset] [])) (fun t_ k_ => stc437.trans k_) ?_
      exact k420 _ _ _ _ (if_pos hb419).symm _ (if_pos hb419).symm _ (if_pos hb419).symm Xc437 rfl N443 F444 F445 F446 F440 F441 F442
    · refine own_step (T' := T393) (g' := (mkF m 289 #[.val (.int k0), .val (.int m1), .val (.long x1), .second, .val (.long x2), .second, .val (.int n), .val (.ref a9), .val (.ref a210), .unset, .unset, .unset] [])) (fun t_ k_ => XS.icmpYes X396.here hx rfl (pc0 := 276) (pc' := 289) rfl (hb hby at_276) rfl (XT.ii_le_t hb419) (by decide) (by decide) k_) ?_
      exact k420 _ _ _ _ (if_neg hb419).symm _ (if_neg hb419).symm _ (if_neg hb419).symm X396 e397 N398 F399 F400 F401 F403 F405 F407
  intro T421 h422 Lo423 v430 hv430 v432 hv432 v434 hv434 X424 e425 N426 F427 F428 F429 F431 F433 F435
  refine own_step (T' := T421) (g' := (mkF m 291 #[.val (.int k0), .val (.int m1), .val (.long x1), .second, .val (.long x2), .second, .val (.int n), .val (.ref a9), .val (.ref a210), .unset, .unset, .unset] [(.int n)])) (fun t_ k_ => XS.iload X424.here hx rfl (hb hby at_289) rfl k_) ?_
  refine own_step (T' := T421) (g' := (mkF m 293 #[.val (.int k0), .val (.int m1), .val (.long x1), .second, .val (.long x2), .second, .val (.int n), .val (.ref a9), .val (.ref a210), .unset, .unset, .unset] [(.int (8 : Int32)), (.int n)])) (fun t_ k_ => XT.bipushV X424.here hx rfl (8 : Int32) (hb hby at_291) (by decide) k_) ?_
  suffices k448 : ∀ (T449 : State) (h450 : Heap) (Lo451 : List Loc), ∀ v458 : Int64, v458 = (if (8 : Int32) < n then (if c8 = (32 : Int32) then (v430 + (1 : Int64)) else v430) else v430) → ∀ v460 : Int32, v460 = (if (8 : Int32) < n then (if c8 = (32 : Int32) then (nar .boolean (v432 ||| (if (v434 - (v434 / (5 : Int64)) * (5 : Int64)) = (4 : Int64) then (0 : Int32) else (1 : Int32)))) else v432) else v432) → ∀ v462 : Int64, v462 = (if (8 : Int32) < n then (v434 + (1 : Int64)) else v434) → Stand p l e room_1 s m #[(.int k0), (.int m1), (.long x1), (.long x2)] below meth c T449 Lo451 2 14 → T449.heap = h450 → Fr n0 Lo451 → n0 ≤ h450.size → own_Arl Z h450 a9 .char [(.int c0), (.int c1), (.int c2), (.int c3), (.int c4), (.int c5), (.int c6), (.int c7), (.int c8), (.int c9), (.int c10)] → Exa Z h450 a210 "com/example/llogari/llogari/rules/WrittenForm" → Fld Z h450 a210 "com/example/llogari/llogari/rules/WrittenForm" "blanks" "J" (.long v458) → Fld Z h450 a210 "com/example/llogari/llogari/rules/WrittenForm" "misplaced" "Z" (.int v460) → Fld Z h450 a210 "com/example/llogari/llogari/rules/WrittenForm" "length" "J" (.long v462) → own_Fin p e below s (Q_7 h0 n0) 2 14 T449 (mkF m 306 #[.val (.int k0), .val (.int m1), .val (.long x1), .second, .val (.long x2), .second, .val (.int n), .val (.ref a9), .val (.ref a210), .unset, .unset, .unset] []) by
    by_cases hb447 : (8 : Int32) < n
    · refine own_step (T' := T421) (g' := (mkF m 296 #[.val (.int k0), .val (.int m1), .val (.long x1), .second, .val (.long x2), .second, .val (.int n), .val (.ref a9), .val (.ref a210), .unset, .unset, .unset] [])) (fun t_ k_ => XS.icmpNo X424.here hx rfl (hb hby at_293) rfl (XT.ii_le_f hb447) k_) ?_
      refine own_step (T' := T421) (g' := (mkF m 298 #[.val (.int k0), .val (.int m1), .val (.long x1), .second, .val (.long x2), .second, .val (.int n), .val (.ref a9), .val (.ref a210), .unset, .unset, .unset] [(.ref a210)])) (fun t_ k_ => XS.aload X424.here hx rfl (hb hby at_296) rfl rfl k_) ?_
      refine own_step (T' := T421) (g' := (mkF m 300 #[.val (.int k0), .val (.int m1), .val (.long x1), .second, .val (.long x2), .second, .val (.int n), .val (.ref a9), .val (.ref a210), .unset, .unset, .unset] [(.ref a9), (.ref a210)])) (fun t_ k_ => XS.aload X424.here hx rfl (hb hby at_298) rfl rfl k_) ?_
      refine own_step (T' := T421) (g' := (mkF m 302 #[.val (.int k0), .val (.int m1), .val (.long x1), .second, .val (.long x2), .second, .val (.int n), .val (.ref a9), .val (.ref a210), .unset, .unset, .unset] [(.int (8 : Int32)), (.ref a9), (.ref a210)])) (fun t_ k_ => XT.bipushV X424.here hx rfl (8 : Int32) (hb hby at_300) (by decide) k_) ?_
      have st464 := own_caload (g := (mkF m 302 #[.val (.int k0), .val (.int m1), .val (.long x1), .second, .val (.long x2), .second, .val (.int n), .val (.ref a9), .val (.ref a210), .unset, .unset, .unset] [(.int (8 : Int32)), (.ref a9), (.ref a210)])) X424 hx hZ e425 F428 (v := (.int c8)) (by decide) (own_ix (k := 8) (by decide) rfl) rfl rfl (hb hby at_302)
      refine own_step (T' := T421) (g' := (mkF m 303 #[.val (.int k0), .val (.int m1), .val (.long x1), .second, .val (.long x2), .second, .val (.int n), .val (.ref a9), .val (.ref a210), .unset, .unset, .unset] [(.int c8), (.ref a210)])) st464 ?_
      obtain ⟨cqc465, kqc465, qac465, qbc465, qcc465⟩ := isOf hZ e425 F429
      obtain ⟨_, _, ⟨Tc465, Lc465, kc465, nc465⟩, -, Xc465, ⟨Lcc465, hQc465, lc465, yc465, zc465⟩, stc465⟩ := X424.virtualBack hx (y := (⟨"com/example/llogari/llogari/rules/WrittenForm", "append", "(C)V"⟩ : MethodName)) (z := (⟨"com/example/llogari/llogari/rules/WrittenForm", "append", "(C)V"⟩ : MethodName)) hown (mvT hZ (hw _ (List.mem_of_getElem? (i := 23) rfl))) (mvT hZ (hw _ (List.mem_of_getElem? (i := 24) rfl))) (notFace_of_selects (args := #[]) (mvT hZ (hw _ (List.mem_of_getElem? (i := 26) rfl)))) (mvT hZ (hw _ (List.mem_of_getElem? (i := 26) rfl))) (mvT hZ (hw _ (List.mem_of_getElem? (i := 25) rfl))) (by decide) (backOf (W := 0) (rm_app l Z a0 hw [] a210 c8 v430 v432 v434 h422 n0 F427 F429 F431 F433 F435 q212) hZ (hw _ (List.mem_of_getElem? (i := 27) rfl)) (hw _ (List.mem_of_getElem? (i := 9) rfl)) (by decide) (by decide)) qac465 qcc465 (g := (mkF m 303 #[.val (.int k0), .val (.int m1), .val (.long x1), .second, .val (.long x2), .second, .val (.int n), .val (.ref a9), .val (.ref a210), .unset, .unset, .unset] [(.int c8), (.ref a210)])) rfl (by rw [hml]; rfl) (Steps.refl _) (argsL := [(.int c8)]) (rest := []) (lenOf pd_3 rfl) rfl (by show 2 * 0 + _ ≤ _; exact Nat.le_of_eq rfl) (hb hby at_303) (fun _ _ => ⟨rfl, e425, (by decide : 2 + 0 ≤ _), (by decide : 14 + 0 ≤ _)⟩)
      dsimp only [Pt.U, Pt.locs, Pt.cells, Pt.slots] at Xc465 lc465 yc465 zc465 stc465 hQc465
      subst lc465 yc465 zc465
      obtain ⟨rfl, N466, K467, F468, F469, F470⟩ := hQc465
      have N471 := Fr.app N426 N466
      have F472 : n0 ≤ Tc465.heap.size := Nat.le_trans F427 K467.1
      have F473 : own_Arl Z Tc465.heap a9 .char [(.int c0), (.int c1), (.int c2), (.int c3), (.int c4), (.int c5), (.int c6), (.int c7), (.int c8), (.int c9), (.int c10)] := F428.keep K467 (ninS ne213 nin0)
      have F474 : Exa Z Tc465.heap a210 "com/example/llogari/llogari/rules/WrittenForm" := F429.keep K467
      refine own_step (T' := Tc465) (g' := (mkF m 306 #[.val (.int k0), .val (.int m1), .val (.long x1), .second, .val (.long x2), .second, .val (.int n), .val (.ref a9), .val (.ref a210), .unset, .unset, .unset] [])) (fun t_ k_ => stc465.trans k_) ?_
      exact k448 _ _ _ _ (if_pos hb447).symm _ (if_pos hb447).symm _ (if_pos hb447).symm Xc465 rfl N471 F472 F473 F474 F468 F469 F470
    · refine own_step (T' := T421) (g' := (mkF m 306 #[.val (.int k0), .val (.int m1), .val (.long x1), .second, .val (.long x2), .second, .val (.int n), .val (.ref a9), .val (.ref a210), .unset, .unset, .unset] [])) (fun t_ k_ => XS.icmpYes X424.here hx rfl (pc0 := 293) (pc' := 306) rfl (hb hby at_293) rfl (XT.ii_le_t hb447) (by decide) (by decide) k_) ?_
      exact k448 _ _ _ _ (if_neg hb447).symm _ (if_neg hb447).symm _ (if_neg hb447).symm X424 e425 N426 F427 F428 F429 F431 F433 F435
  intro T449 h450 Lo451 v458 hv458 v460 hv460 v462 hv462 X452 e453 N454 F455 F456 F457 F459 F461 F463
  refine own_step (T' := T449) (g' := (mkF m 308 #[.val (.int k0), .val (.int m1), .val (.long x1), .second, .val (.long x2), .second, .val (.int n), .val (.ref a9), .val (.ref a210), .unset, .unset, .unset] [(.int n)])) (fun t_ k_ => XS.iload X452.here hx rfl (hb hby at_306) rfl k_) ?_
  refine own_step (T' := T449) (g' := (mkF m 310 #[.val (.int k0), .val (.int m1), .val (.long x1), .second, .val (.long x2), .second, .val (.int n), .val (.ref a9), .val (.ref a210), .unset, .unset, .unset] [(.int (9 : Int32)), (.int n)])) (fun t_ k_ => XT.bipushV X452.here hx rfl (9 : Int32) (hb hby at_308) (by decide) k_) ?_
  suffices k476 : ∀ (T477 : State) (h478 : Heap) (Lo479 : List Loc), ∀ v486 : Int64, v486 = (if (9 : Int32) < n then (if c9 = (32 : Int32) then (v458 + (1 : Int64)) else v458) else v458) → ∀ v488 : Int32, v488 = (if (9 : Int32) < n then (if c9 = (32 : Int32) then (nar .boolean (v460 ||| (if (v462 - (v462 / (5 : Int64)) * (5 : Int64)) = (4 : Int64) then (0 : Int32) else (1 : Int32)))) else v460) else v460) → ∀ v490 : Int64, v490 = (if (9 : Int32) < n then (v462 + (1 : Int64)) else v462) → Stand p l e room_1 s m #[(.int k0), (.int m1), (.long x1), (.long x2)] below meth c T477 Lo479 2 14 → T477.heap = h478 → Fr n0 Lo479 → n0 ≤ h478.size → own_Arl Z h478 a9 .char [(.int c0), (.int c1), (.int c2), (.int c3), (.int c4), (.int c5), (.int c6), (.int c7), (.int c8), (.int c9), (.int c10)] → Exa Z h478 a210 "com/example/llogari/llogari/rules/WrittenForm" → Fld Z h478 a210 "com/example/llogari/llogari/rules/WrittenForm" "blanks" "J" (.long v486) → Fld Z h478 a210 "com/example/llogari/llogari/rules/WrittenForm" "misplaced" "Z" (.int v488) → Fld Z h478 a210 "com/example/llogari/llogari/rules/WrittenForm" "length" "J" (.long v490) → own_Fin p e below s (Q_7 h0 n0) 2 14 T477 (mkF m 323 #[.val (.int k0), .val (.int m1), .val (.long x1), .second, .val (.long x2), .second, .val (.int n), .val (.ref a9), .val (.ref a210), .unset, .unset, .unset] []) by
    by_cases hb475 : (9 : Int32) < n
    · refine own_step (T' := T449) (g' := (mkF m 313 #[.val (.int k0), .val (.int m1), .val (.long x1), .second, .val (.long x2), .second, .val (.int n), .val (.ref a9), .val (.ref a210), .unset, .unset, .unset] [])) (fun t_ k_ => XS.icmpNo X452.here hx rfl (hb hby at_310) rfl (XT.ii_le_f hb475) k_) ?_
      refine own_step (T' := T449) (g' := (mkF m 315 #[.val (.int k0), .val (.int m1), .val (.long x1), .second, .val (.long x2), .second, .val (.int n), .val (.ref a9), .val (.ref a210), .unset, .unset, .unset] [(.ref a210)])) (fun t_ k_ => XS.aload X452.here hx rfl (hb hby at_313) rfl rfl k_) ?_
      refine own_step (T' := T449) (g' := (mkF m 317 #[.val (.int k0), .val (.int m1), .val (.long x1), .second, .val (.long x2), .second, .val (.int n), .val (.ref a9), .val (.ref a210), .unset, .unset, .unset] [(.ref a9), (.ref a210)])) (fun t_ k_ => XS.aload X452.here hx rfl (hb hby at_315) rfl rfl k_) ?_
      refine own_step (T' := T449) (g' := (mkF m 319 #[.val (.int k0), .val (.int m1), .val (.long x1), .second, .val (.long x2), .second, .val (.int n), .val (.ref a9), .val (.ref a210), .unset, .unset, .unset] [(.int (9 : Int32)), (.ref a9), (.ref a210)])) (fun t_ k_ => XT.bipushV X452.here hx rfl (9 : Int32) (hb hby at_317) (by decide) k_) ?_
      have st492 := own_caload (g := (mkF m 319 #[.val (.int k0), .val (.int m1), .val (.long x1), .second, .val (.long x2), .second, .val (.int n), .val (.ref a9), .val (.ref a210), .unset, .unset, .unset] [(.int (9 : Int32)), (.ref a9), (.ref a210)])) X452 hx hZ e453 F456 (v := (.int c9)) (by decide) (own_ix (k := 9) (by decide) rfl) rfl rfl (hb hby at_319)
      refine own_step (T' := T449) (g' := (mkF m 320 #[.val (.int k0), .val (.int m1), .val (.long x1), .second, .val (.long x2), .second, .val (.int n), .val (.ref a9), .val (.ref a210), .unset, .unset, .unset] [(.int c9), (.ref a210)])) st492 ?_
      obtain ⟨cqc493, kqc493, qac493, qbc493, qcc493⟩ := isOf hZ e453 F457
      obtain ⟨_, _, ⟨Tc493, Lc493, kc493, nc493⟩, -, Xc493, ⟨Lcc493, hQc493, lc493, yc493, zc493⟩, stc493⟩ := X452.virtualBack hx (y := (⟨"com/example/llogari/llogari/rules/WrittenForm", "append", "(C)V"⟩ : MethodName)) (z := (⟨"com/example/llogari/llogari/rules/WrittenForm", "append", "(C)V"⟩ : MethodName)) hown (mvT hZ (hw _ (List.mem_of_getElem? (i := 23) rfl))) (mvT hZ (hw _ (List.mem_of_getElem? (i := 24) rfl))) (notFace_of_selects (args := #[]) (mvT hZ (hw _ (List.mem_of_getElem? (i := 26) rfl)))) (mvT hZ (hw _ (List.mem_of_getElem? (i := 26) rfl))) (mvT hZ (hw _ (List.mem_of_getElem? (i := 25) rfl))) (by decide) (backOf (W := 0) (rm_app l Z a0 hw [] a210 c9 v458 v460 v462 h450 n0 F455 F457 F459 F461 F463 q212) hZ (hw _ (List.mem_of_getElem? (i := 27) rfl)) (hw _ (List.mem_of_getElem? (i := 9) rfl)) (by decide) (by decide)) qac493 qcc493 (g := (mkF m 320 #[.val (.int k0), .val (.int m1), .val (.long x1), .second, .val (.long x2), .second, .val (.int n), .val (.ref a9), .val (.ref a210), .unset, .unset, .unset] [(.int c9), (.ref a210)])) rfl (by rw [hml]; rfl) (Steps.refl _) (argsL := [(.int c9)]) (rest := []) (lenOf pd_3 rfl) rfl (by show 2 * 0 + _ ≤ _; exact Nat.le_of_eq rfl) (hb hby at_320) (fun _ _ => ⟨rfl, e453, (by decide : 2 + 0 ≤ _), (by decide : 14 + 0 ≤ _)⟩)
      dsimp only [Pt.U, Pt.locs, Pt.cells, Pt.slots] at Xc493 lc493 yc493 zc493 stc493 hQc493
      subst lc493 yc493 zc493
      obtain ⟨rfl, N494, K495, F496, F497, F498⟩ := hQc493
      have N499 := Fr.app N454 N494
      have F500 : n0 ≤ Tc493.heap.size := Nat.le_trans F455 K495.1
      have F501 : own_Arl Z Tc493.heap a9 .char [(.int c0), (.int c1), (.int c2), (.int c3), (.int c4), (.int c5), (.int c6), (.int c7), (.int c8), (.int c9), (.int c10)] := F456.keep K495 (ninS ne213 nin0)
      have F502 : Exa Z Tc493.heap a210 "com/example/llogari/llogari/rules/WrittenForm" := F457.keep K495
      refine own_step (T' := Tc493) (g' := (mkF m 323 #[.val (.int k0), .val (.int m1), .val (.long x1), .second, .val (.long x2), .second, .val (.int n), .val (.ref a9), .val (.ref a210), .unset, .unset, .unset] [])) (fun t_ k_ => stc493.trans k_) ?_
      exact k476 _ _ _ _ (if_pos hb475).symm _ (if_pos hb475).symm _ (if_pos hb475).symm Xc493 rfl N499 F500 F501 F502 F496 F497 F498
    · refine own_step (T' := T449) (g' := (mkF m 323 #[.val (.int k0), .val (.int m1), .val (.long x1), .second, .val (.long x2), .second, .val (.int n), .val (.ref a9), .val (.ref a210), .unset, .unset, .unset] [])) (fun t_ k_ => XS.icmpYes X452.here hx rfl (pc0 := 310) (pc' := 323) rfl (hb hby at_310) rfl (XT.ii_le_t hb475) (by decide) (by decide) k_) ?_
      exact k476 _ _ _ _ (if_neg hb475).symm _ (if_neg hb475).symm _ (if_neg hb475).symm X452 e453 N454 F455 F456 F457 F459 F461 F463
  intro T477 h478 Lo479 v486 hv486 v488 hv488 v490 hv490 X480 e481 N482 F483 F484 F485 F487 F489 F491
  refine own_step (T' := T477) (g' := (mkF m 325 #[.val (.int k0), .val (.int m1), .val (.long x1), .second, .val (.long x2), .second, .val (.int n), .val (.ref a9), .val (.ref a210), .unset, .unset, .unset] [(.int n)])) (fun t_ k_ => XS.iload X480.here hx rfl (hb hby at_323) rfl k_) ?_
  refine own_step (T' := T477) (g' := (mkF m 327 #[.val (.int k0), .val (.int m1), .val (.long x1), .second, .val (.long x2), .second, .val (.int n), .val (.ref a9), .val (.ref a210), .unset, .unset, .unset] [(.int (10 : Int32)), (.int n)])) (fun t_ k_ => XT.bipushV X480.here hx rfl (10 : Int32) (hb hby at_325) (by decide) k_) ?_
  suffices k504 : ∀ (T505 : State) (h506 : Heap) (Lo507 : List Loc), ∀ v514 : Int64, v514 = (if (10 : Int32) < n then (if c10 = (32 : Int32) then (v486 + (1 : Int64)) else v486) else v486) → ∀ v516 : Int32, v516 = (if (10 : Int32) < n then (if c10 = (32 : Int32) then (nar .boolean (v488 ||| (if (v490 - (v490 / (5 : Int64)) * (5 : Int64)) = (4 : Int64) then (0 : Int32) else (1 : Int32)))) else v488) else v488) → ∀ v518 : Int64, v518 = (if (10 : Int32) < n then (v490 + (1 : Int64)) else v490) → Stand p l e room_1 s m #[(.int k0), (.int m1), (.long x1), (.long x2)] below meth c T505 Lo507 2 14 → T505.heap = h506 → Fr n0 Lo507 → n0 ≤ h506.size → own_Arl Z h506 a9 .char [(.int c0), (.int c1), (.int c2), (.int c3), (.int c4), (.int c5), (.int c6), (.int c7), (.int c8), (.int c9), (.int c10)] → Exa Z h506 a210 "com/example/llogari/llogari/rules/WrittenForm" → Fld Z h506 a210 "com/example/llogari/llogari/rules/WrittenForm" "blanks" "J" (.long v514) → Fld Z h506 a210 "com/example/llogari/llogari/rules/WrittenForm" "misplaced" "Z" (.int v516) → Fld Z h506 a210 "com/example/llogari/llogari/rules/WrittenForm" "length" "J" (.long v518) → own_Fin p e below s (Q_7 h0 n0) 2 14 T505 (mkF m 340 #[.val (.int k0), .val (.int m1), .val (.long x1), .second, .val (.long x2), .second, .val (.int n), .val (.ref a9), .val (.ref a210), .unset, .unset, .unset] []) by
    by_cases hb503 : (10 : Int32) < n
    · refine own_step (T' := T477) (g' := (mkF m 330 #[.val (.int k0), .val (.int m1), .val (.long x1), .second, .val (.long x2), .second, .val (.int n), .val (.ref a9), .val (.ref a210), .unset, .unset, .unset] [])) (fun t_ k_ => XS.icmpNo X480.here hx rfl (hb hby at_327) rfl (XT.ii_le_f hb503) k_) ?_
      refine own_step (T' := T477) (g' := (mkF m 332 #[.val (.int k0), .val (.int m1), .val (.long x1), .second, .val (.long x2), .second, .val (.int n), .val (.ref a9), .val (.ref a210), .unset, .unset, .unset] [(.ref a210)])) (fun t_ k_ => XS.aload X480.here hx rfl (hb hby at_330) rfl rfl k_) ?_
      refine own_step (T' := T477) (g' := (mkF m 334 #[.val (.int k0), .val (.int m1), .val (.long x1), .second, .val (.long x2), .second, .val (.int n), .val (.ref a9), .val (.ref a210), .unset, .unset, .unset] [(.ref a9), (.ref a210)])) (fun t_ k_ => XS.aload X480.here hx rfl (hb hby at_332) rfl rfl k_) ?_
      refine own_step (T' := T477) (g' := (mkF m 336 #[.val (.int k0), .val (.int m1), .val (.long x1), .second, .val (.long x2), .second, .val (.int n), .val (.ref a9), .val (.ref a210), .unset, .unset, .unset] [(.int (10 : Int32)), (.ref a9), (.ref a210)])) (fun t_ k_ => XT.bipushV X480.here hx rfl (10 : Int32) (hb hby at_334) (by decide) k_) ?_
      have st520 := own_caload (g := (mkF m 336 #[.val (.int k0), .val (.int m1), .val (.long x1), .second, .val (.long x2), .second, .val (.int n), .val (.ref a9), .val (.ref a210), .unset, .unset, .unset] [(.int (10 : Int32)), (.ref a9), (.ref a210)])) X480 hx hZ e481 F484 (v := (.int c10)) (by decide) (own_ix (k := 10) (by decide) rfl) rfl rfl (hb hby at_336)
      refine own_step (T' := T477) (g' := (mkF m 337 #[.val (.int k0), .val (.int m1), .val (.long x1), .second, .val (.long x2), .second, .val (.int n), .val (.ref a9), .val (.ref a210), .unset, .unset, .unset] [(.int c10), (.ref a210)])) st520 ?_
      obtain ⟨cqc521, kqc521, qac521, qbc521, qcc521⟩ := isOf hZ e481 F485
      obtain ⟨_, _, ⟨Tc521, Lc521, kc521, nc521⟩, -, Xc521, ⟨Lcc521, hQc521, lc521, yc521, zc521⟩, stc521⟩ := X480.virtualBack hx (y := (⟨"com/example/llogari/llogari/rules/WrittenForm", "append", "(C)V"⟩ : MethodName)) (z := (⟨"com/example/llogari/llogari/rules/WrittenForm", "append", "(C)V"⟩ : MethodName)) hown (mvT hZ (hw _ (List.mem_of_getElem? (i := 23) rfl))) (mvT hZ (hw _ (List.mem_of_getElem? (i := 24) rfl))) (notFace_of_selects (args := #[]) (mvT hZ (hw _ (List.mem_of_getElem? (i := 26) rfl)))) (mvT hZ (hw _ (List.mem_of_getElem? (i := 26) rfl))) (mvT hZ (hw _ (List.mem_of_getElem? (i := 25) rfl))) (by decide) (backOf (W := 0) (rm_app l Z a0 hw [] a210 c10 v486 v488 v490 h478 n0 F483 F485 F487 F489 F491 q212) hZ (hw _ (List.mem_of_getElem? (i := 27) rfl)) (hw _ (List.mem_of_getElem? (i := 9) rfl)) (by decide) (by decide)) qac521 qcc521 (g := (mkF m 337 #[.val (.int k0), .val (.int m1), .val (.long x1), .second, .val (.long x2), .second, .val (.int n), .val (.ref a9), .val (.ref a210), .unset, .unset, .unset] [(.int c10), (.ref a210)])) rfl (by rw [hml]; rfl) (Steps.refl _) (argsL := [(.int c10)]) (rest := []) (lenOf pd_3 rfl) rfl (by show 2 * 0 + _ ≤ _; exact Nat.le_of_eq rfl) (hb hby at_337) (fun _ _ => ⟨rfl, e481, (by decide : 2 + 0 ≤ _), (by decide : 14 + 0 ≤ _)⟩)
      dsimp only [Pt.U, Pt.locs, Pt.cells, Pt.slots] at Xc521 lc521 yc521 zc521 stc521 hQc521
      subst lc521 yc521 zc521
      obtain ⟨rfl, N522, K523, F524, F525, F526⟩ := hQc521
      have N527 := Fr.app N482 N522
      have F528 : n0 ≤ Tc521.heap.size := Nat.le_trans F483 K523.1
      have F529 : own_Arl Z Tc521.heap a9 .char [(.int c0), (.int c1), (.int c2), (.int c3), (.int c4), (.int c5), (.int c6), (.int c7), (.int c8), (.int c9), (.int c10)] := F484.keep K523 (ninS ne213 nin0)
      have F530 : Exa Z Tc521.heap a210 "com/example/llogari/llogari/rules/WrittenForm" := F485.keep K523
      refine own_step (T' := Tc521) (g' := (mkF m 340 #[.val (.int k0), .val (.int m1), .val (.long x1), .second, .val (.long x2), .second, .val (.int n), .val (.ref a9), .val (.ref a210), .unset, .unset, .unset] [])) (fun t_ k_ => stc521.trans k_) ?_
      exact k504 _ _ _ _ (if_pos hb503).symm _ (if_pos hb503).symm _ (if_pos hb503).symm Xc521 rfl N527 F528 F529 F530 F524 F525 F526
    · refine own_step (T' := T477) (g' := (mkF m 340 #[.val (.int k0), .val (.int m1), .val (.long x1), .second, .val (.long x2), .second, .val (.int n), .val (.ref a9), .val (.ref a210), .unset, .unset, .unset] [])) (fun t_ k_ => XS.icmpYes X480.here hx rfl (pc0 := 327) (pc' := 340) rfl (hb hby at_327) rfl (XT.ii_le_t hb503) (by decide) (by decide) k_) ?_
      exact k504 _ _ _ _ (if_neg hb503).symm _ (if_neg hb503).symm _ (if_neg hb503).symm X480 e481 N482 F483 F484 F485 F487 F489 F491
  intro T505 h506 Lo507 v514 hv514 v516 hv516 v518 hv518 X508 e509 N510 F511 F512 F513 F515 F517 F519
  refine own_step (T' := T505) (g' := (mkF m 342 #[.val (.int k0), .val (.int m1), .val (.long x1), .second, .val (.long x2), .second, .val (.int n), .val (.ref a9), .val (.ref a210), .unset, .unset, .unset] [(.ref a210)])) (fun t_ k_ => XS.aload X508.here hx rfl (hb hby at_340) rfl rfl k_) ?_
  obtain ⟨cqc531, kqc531, qac531, qbc531, qcc531⟩ := isOf hZ e509 F513
  obtain ⟨_, _, ⟨Tc531, Lc531, kc531, nc531⟩, -, Xc531, ⟨Lcc531, hQc531, lc531, yc531, zc531⟩, stc531⟩ := X508.virtualBack hx (y := (⟨"com/example/llogari/llogari/rules/WrittenForm", "isPaper", "()Z"⟩ : MethodName)) (z := (⟨"com/example/llogari/llogari/rules/WrittenForm", "isPaper", "()Z"⟩ : MethodName)) hown (mvT hZ (hw _ (List.mem_of_getElem? (i := 16) rfl))) (mvT hZ (hw _ (List.mem_of_getElem? (i := 17) rfl))) (notFace_of_selects (args := #[]) (mvT hZ (hw _ (List.mem_of_getElem? (i := 19) rfl)))) (mvT hZ (hw _ (List.mem_of_getElem? (i := 19) rfl))) (mvT hZ (hw _ (List.mem_of_getElem? (i := 18) rfl))) (by decide) (backOf (W := 0) (rm_paper l Z a0 hw [] a210 v514 v516 v518 h506 n0 F511 F513 F515 F517 F519) hZ (hw _ (List.mem_of_getElem? (i := 20) rfl)) (hw _ (List.mem_of_getElem? (i := 9) rfl)) (by decide) (by decide)) qac531 qcc531 (g := (mkF m 342 #[.val (.int k0), .val (.int m1), .val (.long x1), .second, .val (.long x2), .second, .val (.int n), .val (.ref a9), .val (.ref a210), .unset, .unset, .unset] [(.ref a210)])) rfl (by rw [hml]; rfl) (Steps.refl _) (argsL := []) (rest := []) (lenOf pd_4 rfl) rfl (by show 2 * 0 + _ ≤ _; exact Nat.le_of_eq rfl) (hb hby at_342) (fun _ _ => ⟨rfl, e509, (by decide : 2 + 0 ≤ _), (by decide : 14 + 0 ≤ _)⟩)
  dsimp only [Pt.U, Pt.locs, Pt.cells, Pt.slots] at Xc531 lc531 yc531 zc531 stc531 hQc531
  subst lc531 yc531 zc531
  obtain ⟨rfl, N532, e533⟩ := hQc531
  have N534 := Fr.app N510 N532
  refine own_step (T' := Tc531) (g' := (mkF m 345 #[.val (.int k0), .val (.int m1), .val (.long x1), .second, .val (.long x2), .second, .val (.int n), .val (.ref a9), .val (.ref a210), .unset, .unset, .unset] [(.int (own_paper v514 v516 v518))])) (fun t_ k_ => stc531.trans k_) ?_
  refine own_step (T' := Tc531) (g' := (mkF m 347 #[.val (.int k0), .val (.int m1), .val (.long x1), .second, .val (.long x2), .second, .val (.int n), .val (.ref a9), .val (.ref a210), .val (.int (own_paper v514 v516 v518)), .unset, .unset] [])) (fun t_ k_ => XS.istore Xc531.here hx rfl (hb hby at_345) rfl (l' := #[.val (.int k0), .val (.int m1), .val (.long x1), .second, .val (.long x2), .second, .val (.int n), .val (.ref a9), .val (.ref a210), .val (.int (own_paper v514 v516 v518)), .unset, .unset]) rfl k_) ?_
  refine own_step (T' := Tc531) (g' := (mkF m 349 #[.val (.int k0), .val (.int m1), .val (.long x1), .second, .val (.long x2), .second, .val (.int n), .val (.ref a9), .val (.ref a210), .val (.int (own_paper v514 v516 v518)), .unset, .unset] [(.int n)])) (fun t_ k_ => XS.iload Xc531.here hx rfl (hb hby at_347) rfl k_) ?_
  refine own_step (T' := Tc531) (g' := (mkF m 351 #[.val (.int k0), .val (.int m1), .val (.long x1), .second, .val (.long x2), .second, .val (.int n), .val (.ref a9), .val (.ref a210), .val (.int (own_paper v514 v516 v518)), .unset, .unset] [(.int (6 : Int32)), (.int n)])) (fun t_ k_ => XT.bipushV Xc531.here hx rfl (6 : Int32) (hb hby at_349) (by decide) k_) ?_
  suffices k536 : ∀ v537 : Int32, v537 = (if n < (6 : Int32) then (0 : Int32) else (if n = (10 : Int32) then (0 : Int32) else (1 : Int32))) → own_Fin p e below s (Q_7 h0 n0) 2 14 Tc531 (mkF m 366 #[.val (.int k0), .val (.int m1), .val (.long x1), .second, .val (.long x2), .second, .val (.int n), .val (.ref a9), .val (.ref a210), .val (.int (own_paper v514 v516 v518)), .unset, .unset] [(.int v537)]) by
    by_cases hb535 : n < (6 : Int32)
    · refine own_step (T' := Tc531) (g' := (mkF m 365 #[.val (.int k0), .val (.int m1), .val (.long x1), .second, .val (.long x2), .second, .val (.int n), .val (.ref a9), .val (.ref a210), .val (.int (own_paper v514 v516 v518)), .unset, .unset] [])) (fun t_ k_ => XS.icmpYes Xc531.here hx rfl (pc0 := 351) (pc' := 365) rfl (hb hby at_351) rfl (XT.ii_lt_t hb535) (by decide) (by decide) k_) ?_
      refine own_step (T' := Tc531) (g' := (mkF m 366 #[.val (.int k0), .val (.int m1), .val (.long x1), .second, .val (.long x2), .second, .val (.int n), .val (.ref a9), .val (.ref a210), .val (.int (own_paper v514 v516 v518)), .unset, .unset] [(.int (0 : Int32))])) (fun t_ k_ => XT.iconstV Xc531.here hx rfl (0 : Int32) (hb hby at_365) (by decide) k_) ?_
      exact k536 _ (if_pos hb535).symm
    · refine own_step (T' := Tc531) (g' := (mkF m 354 #[.val (.int k0), .val (.int m1), .val (.long x1), .second, .val (.long x2), .second, .val (.int n), .val (.ref a9), .val (.ref a210), .val (.int (own_paper v514 v516 v518)), .unset, .unset] [])) (fun t_ k_ => XS.icmpNo Xc531.here hx rfl (hb hby at_351) rfl (XT.ii_lt_f hb535) k_) ?_
      refine own_step (T' := Tc531) (g' := (mkF m 356 #[.val (.int k0), .val (.int m1), .val (.long x1), .second, .val (.long x2), .second, .val (.int n), .val (.ref a9), .val (.ref a210), .val (.int (own_paper v514 v516 v518)), .unset, .unset] [(.int n)])) (fun t_ k_ => XS.iload Xc531.here hx rfl (hb hby at_354) rfl k_) ?_
      refine own_step (T' := Tc531) (g' := (mkF m 358 #[.val (.int k0), .val (.int m1), .val (.long x1), .second, .val (.long x2), .second, .val (.int n), .val (.ref a9), .val (.ref a210), .val (.int (own_paper v514 v516 v518)), .unset, .unset] [(.int (10 : Int32)), (.int n)])) (fun t_ k_ => XT.bipushV Xc531.here hx rfl (10 : Int32) (hb hby at_356) (by decide) k_) ?_
      suffices k539 : ∀ v540 : Int32, v540 = (if n = (10 : Int32) then (0 : Int32) else (1 : Int32)) → own_Fin p e below s (Q_7 h0 n0) 2 14 Tc531 (mkF m 366 #[.val (.int k0), .val (.int m1), .val (.long x1), .second, .val (.long x2), .second, .val (.int n), .val (.ref a9), .val (.ref a210), .val (.int (own_paper v514 v516 v518)), .unset, .unset] [(.int v540)]) by
        by_cases hb538 : n = (10 : Int32)
        · refine own_step (T' := Tc531) (g' := (mkF m 365 #[.val (.int k0), .val (.int m1), .val (.long x1), .second, .val (.long x2), .second, .val (.int n), .val (.ref a9), .val (.ref a210), .val (.int (own_paper v514 v516 v518)), .unset, .unset] [])) (fun t_ k_ => XS.icmpYes Xc531.here hx rfl (pc0 := 358) (pc' := 365) rfl (hb hby at_358) rfl (XT.ii_eq_t hb538) (by decide) (by decide) k_) ?_
          refine own_step (T' := Tc531) (g' := (mkF m 366 #[.val (.int k0), .val (.int m1), .val (.long x1), .second, .val (.long x2), .second, .val (.int n), .val (.ref a9), .val (.ref a210), .val (.int (own_paper v514 v516 v518)), .unset, .unset] [(.int (0 : Int32))])) (fun t_ k_ => XT.iconstV Xc531.here hx rfl (0 : Int32) (hb hby at_365) (by decide) k_) ?_
          exact k539 _ (if_pos hb538).symm
        · refine own_step (T' := Tc531) (g' := (mkF m 361 #[.val (.int k0), .val (.int m1), .val (.long x1), .second, .val (.long x2), .second, .val (.int n), .val (.ref a9), .val (.ref a210), .val (.int (own_paper v514 v516 v518)), .unset, .unset] [])) (fun t_ k_ => XS.icmpNo Xc531.here hx rfl (hb hby at_358) rfl (XT.ii_eq_f hb538) k_) ?_
          refine own_step (T' := Tc531) (g' := (mkF m 362 #[.val (.int k0), .val (.int m1), .val (.long x1), .second, .val (.long x2), .second, .val (.int n), .val (.ref a9), .val (.ref a210), .val (.int (own_paper v514 v516 v518)), .unset, .unset] [(.int (1 : Int32))])) (fun t_ k_ => XT.iconstV Xc531.here hx rfl (1 : Int32) (hb hby at_361) (by decide) k_) ?_
          refine own_step (T' := Tc531) (g' := (mkF m 366 #[.val (.int k0), .val (.int m1), .val (.long x1), .second, .val (.long x2), .second, .val (.int n), .val (.ref a9), .val (.ref a210), .val (.int (own_paper v514 v516 v518)), .unset, .unset] [(.int (1 : Int32))])) (fun t_ k_ => XS.goto Xc531.here hx rfl (pc0 := 362) (pc' := 366) rfl (hb hby at_362) (by decide) (by decide) k_) ?_
          exact k539 _ (if_neg hb538).symm
      rintro _ rfl
      exact k536 _ (if_neg hb535).symm
  intro v537 hv537
  refine own_step (T' := Tc531) (g' := (mkF m 368 #[.val (.int k0), .val (.int m1), .val (.long x1), .second, .val (.long x2), .second, .val (.int n), .val (.ref a9), .val (.ref a210), .val (.int (own_paper v514 v516 v518)), .val (.int v537), .unset] [])) (fun t_ k_ => XS.istore Xc531.here hx rfl (hb hby at_366) rfl (l' := #[.val (.int k0), .val (.int m1), .val (.long x1), .second, .val (.long x2), .second, .val (.int n), .val (.ref a9), .val (.ref a210), .val (.int (own_paper v514 v516 v518)), .val (.int v537), .unset]) rfl k_) ?_
  have hE := own_law (c0 := c0) (c1 := c1) (c2 := c2) (c3 := c3) (c4 := c4) (c5 := c5) (c6 := c6) (c7 := c7) (c8 := c8) (c9 := c9) (c10 := c10) eN hN hv234 hv236 hv238 hv262 hv264 hv266 hv290 hv292 hv294 hv318 hv320 hv322 hv346 hv348 hv350 hv374 hv376 hv378 hv402 hv404 hv406 hv430 hv432 hv434 hv458 hv460 hv462 hv486 hv488 hv490 hv514 hv516 hv518
  rw [← hv537] at hE
  refine own_step (T' := Tc531) (g' := (mkF m 370 #[.val (.int k0), .val (.int m1), .val (.long x1), .second, .val (.long x2), .second, .val (.int n), .val (.ref a9), .val (.ref a210), .val (.int (own_paper v514 v516 v518)), .val (.int v537), .unset] [(.int v537)])) (fun t_ k_ => XS.iload Xc531.here hx rfl (hb hby at_368) rfl k_) ?_
  by_cases hb541 : v537 = 0
  · refine own_step (T' := Tc531) (g' := (mkF m 530 #[.val (.int k0), .val (.int m1), .val (.long x1), .second, .val (.long x2), .second, .val (.int n), .val (.ref a9), .val (.ref a210), .val (.int (own_paper v514 v516 v518)), .val (.int v537), .unset] [])) (fun t_ k_ => XS.ifYes Xc531.here hx rfl (pc0 := 370) (pc' := 530) rfl (hb hby at_370) rfl (XT.i0_eq_t hb541) (by decide) (by decide) k_) ?_
    refine own_step (T' := Tc531) (g' := (mkF m 531 #[.val (.int k0), .val (.int m1), .val (.long x1), .second, .val (.long x2), .second, .val (.int n), .val (.ref a9), .val (.ref a210), .val (.int (own_paper v514 v516 v518)), .val (.int v537), .unset] [(.int (0 : Int32))])) (fun t_ k_ => XT.iconstV Xc531.here hx rfl (0 : Int32) (hb hby at_530) (by decide) k_) ?_
    refine own_step (T' := Tc531) (g' := (mkF m 533 #[.val (.int k0), .val (.int m1), .val (.long x1), .second, .val (.long x2), .second, .val (.int n), .val (.ref a9), .val (.ref a210), .val (.int (own_paper v514 v516 v518)), .val (.int v537), .val (.int (0 : Int32))] [])) (fun t_ k_ => XS.istore Xc531.here hx rfl (hb hby at_531) rfl (l' := #[.val (.int k0), .val (.int m1), .val (.long x1), .second, .val (.long x2), .second, .val (.int n), .val (.ref a9), .val (.ref a210), .val (.int (own_paper v514 v516 v518)), .val (.int v537), .val (.int (0 : Int32))]) rfl k_) ?_
    refine own_step (T' := Tc531) (g' := (mkF m 535 #[.val (.int k0), .val (.int m1), .val (.long x1), .second, .val (.long x2), .second, .val (.int n), .val (.ref a9), .val (.ref a210), .val (.int (own_paper v514 v516 v518)), .val (.int v537), .val (.int (0 : Int32))] [(.int (own_paper v514 v516 v518))])) (fun t_ k_ => XS.iload Xc531.here hx rfl (hb hby at_533) rfl k_) ?_
    refine own_step (T' := Tc531) (g' := (mkF m 537 #[.val (.int k0), .val (.int m1), .val (.long x1), .second, .val (.long x2), .second, .val (.int n), .val (.ref a9), .val (.ref a210), .val (.int (own_paper v514 v516 v518)), .val (.int v537), .val (.int (0 : Int32))] [(.int (0 : Int32)), (.int (own_paper v514 v516 v518))])) (fun t_ k_ => XS.iload Xc531.here hx rfl (hb hby at_535) rfl k_) ?_
    have hk542 : (own_paper v514 v516 v518) = (0 : Int32) := hE.trans (by rw [if_pos hb541])
    refine own_step (T' := Tc531) (g' := (mkF m 540 #[.val (.int k0), .val (.int m1), .val (.long x1), .second, .val (.long x2), .second, .val (.int n), .val (.ref a9), .val (.ref a210), .val (.int (own_paper v514 v516 v518)), .val (.int v537), .val (.int (0 : Int32))] [])) (fun t_ k_ => XS.icmpNo Xc531.here hx rfl (hb hby at_537) rfl (XT.ii_ne_f hk542) k_) ?_
    refine own_step (T' := Tc531) (g' := (mkF m 541 #[.val (.int k0), .val (.int m1), .val (.long x1), .second, .val (.long x2), .second, .val (.int n), .val (.ref a9), .val (.ref a210), .val (.int (own_paper v514 v516 v518)), .val (.int v537), .val (.int (0 : Int32))] [(.int (1 : Int32))])) (fun t_ k_ => XT.iconstV Xc531.here hx rfl (1 : Int32) (hb hby at_540) (by decide) k_) ?_
    refine own_step (T' := Tc531) (g' := (mkF m 545 #[.val (.int k0), .val (.int m1), .val (.long x1), .second, .val (.long x2), .second, .val (.int n), .val (.ref a9), .val (.ref a210), .val (.int (own_paper v514 v516 v518)), .val (.int v537), .val (.int (0 : Int32))] [(.int (1 : Int32))])) (fun t_ k_ => XS.goto Xc531.here hx rfl (pc0 := 541) (pc' := 545) rfl (hb hby at_541) (by decide) (by decide) k_) ?_
    exact own_retN Xc531 hx hlk (t := .boolean) Bd.returns (by simp) (hb hby at_545) (by rw [e533]; exact ⟨rfl, N534⟩) (by decide) (by decide)
  · refine own_step (T' := Tc531) (g' := (mkF m 373 #[.val (.int k0), .val (.int m1), .val (.long x1), .second, .val (.long x2), .second, .val (.int n), .val (.ref a9), .val (.ref a210), .val (.int (own_paper v514 v516 v518)), .val (.int v537), .unset] [])) (fun t_ k_ => XS.ifNo Xc531.here hx rfl (hb hby at_370) rfl (XT.i0_eq_f hb541) k_) ?_
    refine own_step (T' := Tc531) (g' := (mkF m 374 #[.val (.int k0), .val (.int m1), .val (.long x1), .second, .val (.long x2), .second, .val (.int n), .val (.ref a9), .val (.ref a210), .val (.int (own_paper v514 v516 v518)), .val (.int v537), .unset] [(.int (0 : Int32))])) (fun t_ k_ => XT.iconstV Xc531.here hx rfl (0 : Int32) (hb hby at_373) (by decide) k_) ?_
    refine own_step (T' := Tc531) (g' := (mkF m 376 #[.val (.int k0), .val (.int m1), .val (.long x1), .second, .val (.long x2), .second, .val (.int n), .val (.ref a9), .val (.ref a210), .val (.int (own_paper v514 v516 v518)), .val (.int v537), .unset] [(.ref a9), (.int (0 : Int32))])) (fun t_ k_ => XS.aload Xc531.here hx rfl (hb hby at_374) rfl rfl k_) ?_
    refine own_step (T' := Tc531) (g' := (mkF m 377 #[.val (.int k0), .val (.int m1), .val (.long x1), .second, .val (.long x2), .second, .val (.int n), .val (.ref a9), .val (.ref a210), .val (.int (own_paper v514 v516 v518)), .val (.int v537), .unset] [(.int (0 : Int32)), (.ref a9), (.int (0 : Int32))])) (fun t_ k_ => XT.iconstV Xc531.here hx rfl (0 : Int32) (hb hby at_376) (by decide) k_) ?_
    have st543 := own_caload (g := (mkF m 377 #[.val (.int k0), .val (.int m1), .val (.long x1), .second, .val (.long x2), .second, .val (.int n), .val (.ref a9), .val (.ref a210), .val (.int (own_paper v514 v516 v518)), .val (.int v537), .unset] [(.int (0 : Int32)), (.ref a9), (.int (0 : Int32))])) Xc531 hx hZ e533 F512 (v := (.int c0)) (by decide) (own_ix (k := 0) (by decide) rfl) rfl rfl (hb hby at_377)
    refine own_step (T' := Tc531) (g' := (mkF m 378 #[.val (.int k0), .val (.int m1), .val (.long x1), .second, .val (.long x2), .second, .val (.int n), .val (.ref a9), .val (.ref a210), .val (.int (own_paper v514 v516 v518)), .val (.int v537), .unset] [(.int c0), (.int (0 : Int32))])) st543 ?_
    refine own_step (T' := Tc531) (g' := (mkF m 380 #[.val (.int k0), .val (.int m1), .val (.long x1), .second, .val (.long x2), .second, .val (.int n), .val (.ref a9), .val (.ref a210), .val (.int (own_paper v514 v516 v518)), .val (.int v537), .unset] [(.int n), (.int c0), (.int (0 : Int32))])) (fun t_ k_ => XS.iload Xc531.here hx rfl (hb hby at_378) rfl k_) ?_
    obtain ⟨_, _, ⟨Tc544, Lc544, kc544, nc544⟩, -, Xc544, ⟨Lcc544, hQc544, lc544, yc544, zc544⟩, stc544⟩ := Jvm.LawKit.callS Xc531 hx (y := (⟨"com/example/llogari/llogari/rules/WrittenFormIsPaperPinLaw", "fits", "(ICI)Z"⟩ : MethodName)) hown (mvT hZ (hw _ (List.mem_of_getElem? (i := 37) rfl))) (mvT hZ (hw _ (List.mem_of_getElem? (i := 38) rfl))) (mvT hZ (hw _ (List.mem_of_getElem? (i := 4) rfl))) (mvT hZ (hw _ (List.mem_of_getElem? (i := 39) rfl))) (by decide) (backOf (W := 0) (rm_fits l Z a0 hw [] (0 : Int32) c0 n h506 n0 F511) hZ (hw _ (List.mem_of_getElem? (i := 39) rfl)) (hw _ (List.mem_of_getElem? (i := 4) rfl)) (by decide) (by decide)) (g := (mkF m 380 #[.val (.int k0), .val (.int m1), .val (.long x1), .second, .val (.long x2), .second, .val (.int n), .val (.ref a9), .val (.ref a210), .val (.int (own_paper v514 v516 v518)), .val (.int v537), .unset] [(.int n), (.int c0), (.int (0 : Int32))])) rfl (by rw [hml]; rfl) (argsL := [(.int (0 : Int32)), (.int c0), (.int n)]) (rest := []) (lenOf pd_5 rfl) rfl (by show 2 * 0 + _ ≤ _; exact Nat.le_of_eq rfl) (hb hby at_380) (fun _ _ => ⟨rfl, e533, (by decide : 2 + 0 ≤ _), (by decide : 14 + 0 ≤ _)⟩)
    dsimp only [Pt.U, Pt.locs, Pt.cells, Pt.slots] at Xc544 lc544 yc544 zc544 stc544 hQc544
    subst lc544 yc544 zc544
    obtain ⟨rfl, N545, e546⟩ := hQc544
    have N547 := Fr.app N534 N545
    refine own_step (T' := Tc544) (g' := (mkF m 383 #[.val (.int k0), .val (.int m1), .val (.long x1), .second, .val (.long x2), .second, .val (.int n), .val (.ref a9), .val (.ref a210), .val (.int (own_paper v514 v516 v518)), .val (.int v537), .unset] [(.int (own_fits (0 : Int32) c0 n))])) stc544 ?_
    by_cases hb548 : (own_fits (0 : Int32) c0 n) = 0
    · refine own_step (T' := Tc544) (g' := (mkF m 530 #[.val (.int k0), .val (.int m1), .val (.long x1), .second, .val (.long x2), .second, .val (.int n), .val (.ref a9), .val (.ref a210), .val (.int (own_paper v514 v516 v518)), .val (.int v537), .unset] [])) (fun t_ k_ => XS.ifYes Xc544.here hx rfl (pc0 := 383) (pc' := 530) rfl (hb hby at_383) rfl (XT.i0_eq_t hb548) (by decide) (by decide) k_) ?_
      refine own_step (T' := Tc544) (g' := (mkF m 531 #[.val (.int k0), .val (.int m1), .val (.long x1), .second, .val (.long x2), .second, .val (.int n), .val (.ref a9), .val (.ref a210), .val (.int (own_paper v514 v516 v518)), .val (.int v537), .unset] [(.int (0 : Int32))])) (fun t_ k_ => XT.iconstV Xc544.here hx rfl (0 : Int32) (hb hby at_530) (by decide) k_) ?_
      refine own_step (T' := Tc544) (g' := (mkF m 533 #[.val (.int k0), .val (.int m1), .val (.long x1), .second, .val (.long x2), .second, .val (.int n), .val (.ref a9), .val (.ref a210), .val (.int (own_paper v514 v516 v518)), .val (.int v537), .val (.int (0 : Int32))] [])) (fun t_ k_ => XS.istore Xc544.here hx rfl (hb hby at_531) rfl (l' := #[.val (.int k0), .val (.int m1), .val (.long x1), .second, .val (.long x2), .second, .val (.int n), .val (.ref a9), .val (.ref a210), .val (.int (own_paper v514 v516 v518)), .val (.int v537), .val (.int (0 : Int32))]) rfl k_) ?_
      refine own_step (T' := Tc544) (g' := (mkF m 535 #[.val (.int k0), .val (.int m1), .val (.long x1), .second, .val (.long x2), .second, .val (.int n), .val (.ref a9), .val (.ref a210), .val (.int (own_paper v514 v516 v518)), .val (.int v537), .val (.int (0 : Int32))] [(.int (own_paper v514 v516 v518))])) (fun t_ k_ => XS.iload Xc544.here hx rfl (hb hby at_533) rfl k_) ?_
      refine own_step (T' := Tc544) (g' := (mkF m 537 #[.val (.int k0), .val (.int m1), .val (.long x1), .second, .val (.long x2), .second, .val (.int n), .val (.ref a9), .val (.ref a210), .val (.int (own_paper v514 v516 v518)), .val (.int v537), .val (.int (0 : Int32))] [(.int (0 : Int32)), (.int (own_paper v514 v516 v518))])) (fun t_ k_ => XS.iload Xc544.here hx rfl (hb hby at_535) rfl k_) ?_
      have hk549 : (own_paper v514 v516 v518) = (0 : Int32) := hE.trans (by rw [if_neg hb541, if_pos hb548])
      refine own_step (T' := Tc544) (g' := (mkF m 540 #[.val (.int k0), .val (.int m1), .val (.long x1), .second, .val (.long x2), .second, .val (.int n), .val (.ref a9), .val (.ref a210), .val (.int (own_paper v514 v516 v518)), .val (.int v537), .val (.int (0 : Int32))] [])) (fun t_ k_ => XS.icmpNo Xc544.here hx rfl (hb hby at_537) rfl (XT.ii_ne_f hk549) k_) ?_
      refine own_step (T' := Tc544) (g' := (mkF m 541 #[.val (.int k0), .val (.int m1), .val (.long x1), .second, .val (.long x2), .second, .val (.int n), .val (.ref a9), .val (.ref a210), .val (.int (own_paper v514 v516 v518)), .val (.int v537), .val (.int (0 : Int32))] [(.int (1 : Int32))])) (fun t_ k_ => XT.iconstV Xc544.here hx rfl (1 : Int32) (hb hby at_540) (by decide) k_) ?_
      refine own_step (T' := Tc544) (g' := (mkF m 545 #[.val (.int k0), .val (.int m1), .val (.long x1), .second, .val (.long x2), .second, .val (.int n), .val (.ref a9), .val (.ref a210), .val (.int (own_paper v514 v516 v518)), .val (.int v537), .val (.int (0 : Int32))] [(.int (1 : Int32))])) (fun t_ k_ => XS.goto Xc544.here hx rfl (pc0 := 541) (pc' := 545) rfl (hb hby at_541) (by decide) (by decide) k_) ?_
      exact own_retN Xc544 hx hlk (t := .boolean) Bd.returns (by simp) (hb hby at_545) (by rw [e546]; exact ⟨rfl, N547⟩) (by decide) (by decide)
    · refine own_step (T' := Tc544) (g' := (mkF m 386 #[.val (.int k0), .val (.int m1), .val (.long x1), .second, .val (.long x2), .second, .val (.int n), .val (.ref a9), .val (.ref a210), .val (.int (own_paper v514 v516 v518)), .val (.int v537), .unset] [])) (fun t_ k_ => XS.ifNo Xc544.here hx rfl (hb hby at_383) rfl (XT.i0_eq_f hb548) k_) ?_
      refine own_step (T' := Tc544) (g' := (mkF m 387 #[.val (.int k0), .val (.int m1), .val (.long x1), .second, .val (.long x2), .second, .val (.int n), .val (.ref a9), .val (.ref a210), .val (.int (own_paper v514 v516 v518)), .val (.int v537), .unset] [(.int (1 : Int32))])) (fun t_ k_ => XT.iconstV Xc544.here hx rfl (1 : Int32) (hb hby at_386) (by decide) k_) ?_
      refine own_step (T' := Tc544) (g' := (mkF m 389 #[.val (.int k0), .val (.int m1), .val (.long x1), .second, .val (.long x2), .second, .val (.int n), .val (.ref a9), .val (.ref a210), .val (.int (own_paper v514 v516 v518)), .val (.int v537), .unset] [(.ref a9), (.int (1 : Int32))])) (fun t_ k_ => XS.aload Xc544.here hx rfl (hb hby at_387) rfl rfl k_) ?_
      refine own_step (T' := Tc544) (g' := (mkF m 390 #[.val (.int k0), .val (.int m1), .val (.long x1), .second, .val (.long x2), .second, .val (.int n), .val (.ref a9), .val (.ref a210), .val (.int (own_paper v514 v516 v518)), .val (.int v537), .unset] [(.int (1 : Int32)), (.ref a9), (.int (1 : Int32))])) (fun t_ k_ => XT.iconstV Xc544.here hx rfl (1 : Int32) (hb hby at_389) (by decide) k_) ?_
      have st550 := own_caload (g := (mkF m 390 #[.val (.int k0), .val (.int m1), .val (.long x1), .second, .val (.long x2), .second, .val (.int n), .val (.ref a9), .val (.ref a210), .val (.int (own_paper v514 v516 v518)), .val (.int v537), .unset] [(.int (1 : Int32)), (.ref a9), (.int (1 : Int32))])) Xc544 hx hZ e546 F512 (v := (.int c1)) (by decide) (own_ix (k := 1) (by decide) rfl) rfl rfl (hb hby at_390)
      refine own_step (T' := Tc544) (g' := (mkF m 391 #[.val (.int k0), .val (.int m1), .val (.long x1), .second, .val (.long x2), .second, .val (.int n), .val (.ref a9), .val (.ref a210), .val (.int (own_paper v514 v516 v518)), .val (.int v537), .unset] [(.int c1), (.int (1 : Int32))])) st550 ?_
      refine own_step (T' := Tc544) (g' := (mkF m 393 #[.val (.int k0), .val (.int m1), .val (.long x1), .second, .val (.long x2), .second, .val (.int n), .val (.ref a9), .val (.ref a210), .val (.int (own_paper v514 v516 v518)), .val (.int v537), .unset] [(.int n), (.int c1), (.int (1 : Int32))])) (fun t_ k_ => XS.iload Xc544.here hx rfl (hb hby at_391) rfl k_) ?_
      obtain ⟨_, _, ⟨Tc551, Lc551, kc551, nc551⟩, -, Xc551, ⟨Lcc551, hQc551, lc551, yc551, zc551⟩, stc551⟩ := Jvm.LawKit.callS Xc544 hx (y := (⟨"com/example/llogari/llogari/rules/WrittenFormIsPaperPinLaw", "fits", "(ICI)Z"⟩ : MethodName)) hown (mvT hZ (hw _ (List.mem_of_getElem? (i := 37) rfl))) (mvT hZ (hw _ (List.mem_of_getElem? (i := 38) rfl))) (mvT hZ (hw _ (List.mem_of_getElem? (i := 4) rfl))) (mvT hZ (hw _ (List.mem_of_getElem? (i := 39) rfl))) (by decide) (backOf (W := 0) (rm_fits l Z a0 hw [] (1 : Int32) c1 n h506 n0 F511) hZ (hw _ (List.mem_of_getElem? (i := 39) rfl)) (hw _ (List.mem_of_getElem? (i := 4) rfl)) (by decide) (by decide)) (g := (mkF m 393 #[.val (.int k0), .val (.int m1), .val (.long x1), .second, .val (.long x2), .second, .val (.int n), .val (.ref a9), .val (.ref a210), .val (.int (own_paper v514 v516 v518)), .val (.int v537), .unset] [(.int n), (.int c1), (.int (1 : Int32))])) rfl (by rw [hml]; rfl) (argsL := [(.int (1 : Int32)), (.int c1), (.int n)]) (rest := []) (lenOf pd_5 rfl) rfl (by show 2 * 0 + _ ≤ _; exact Nat.le_of_eq rfl) (hb hby at_393) (fun _ _ => ⟨rfl, e546, (by decide : 2 + 0 ≤ _), (by decide : 14 + 0 ≤ _)⟩)
      dsimp only [Pt.U, Pt.locs, Pt.cells, Pt.slots] at Xc551 lc551 yc551 zc551 stc551 hQc551
      subst lc551 yc551 zc551
      obtain ⟨rfl, N552, e553⟩ := hQc551
      have N554 := Fr.app N547 N552
      refine own_step (T' := Tc551) (g' := (mkF m 396 #[.val (.int k0), .val (.int m1), .val (.long x1), .second, .val (.long x2), .second, .val (.int n), .val (.ref a9), .val (.ref a210), .val (.int (own_paper v514 v516 v518)), .val (.int v537), .unset] [(.int (own_fits (1 : Int32) c1 n))])) stc551 ?_
      by_cases hb555 : (own_fits (1 : Int32) c1 n) = 0
      · refine own_step (T' := Tc551) (g' := (mkF m 530 #[.val (.int k0), .val (.int m1), .val (.long x1), .second, .val (.long x2), .second, .val (.int n), .val (.ref a9), .val (.ref a210), .val (.int (own_paper v514 v516 v518)), .val (.int v537), .unset] [])) (fun t_ k_ => XS.ifYes Xc551.here hx rfl (pc0 := 396) (pc' := 530) rfl (hb hby at_396) rfl (XT.i0_eq_t hb555) (by decide) (by decide) k_) ?_
        refine own_step (T' := Tc551) (g' := (mkF m 531 #[.val (.int k0), .val (.int m1), .val (.long x1), .second, .val (.long x2), .second, .val (.int n), .val (.ref a9), .val (.ref a210), .val (.int (own_paper v514 v516 v518)), .val (.int v537), .unset] [(.int (0 : Int32))])) (fun t_ k_ => XT.iconstV Xc551.here hx rfl (0 : Int32) (hb hby at_530) (by decide) k_) ?_
        refine own_step (T' := Tc551) (g' := (mkF m 533 #[.val (.int k0), .val (.int m1), .val (.long x1), .second, .val (.long x2), .second, .val (.int n), .val (.ref a9), .val (.ref a210), .val (.int (own_paper v514 v516 v518)), .val (.int v537), .val (.int (0 : Int32))] [])) (fun t_ k_ => XS.istore Xc551.here hx rfl (hb hby at_531) rfl (l' := #[.val (.int k0), .val (.int m1), .val (.long x1), .second, .val (.long x2), .second, .val (.int n), .val (.ref a9), .val (.ref a210), .val (.int (own_paper v514 v516 v518)), .val (.int v537), .val (.int (0 : Int32))]) rfl k_) ?_
        refine own_step (T' := Tc551) (g' := (mkF m 535 #[.val (.int k0), .val (.int m1), .val (.long x1), .second, .val (.long x2), .second, .val (.int n), .val (.ref a9), .val (.ref a210), .val (.int (own_paper v514 v516 v518)), .val (.int v537), .val (.int (0 : Int32))] [(.int (own_paper v514 v516 v518))])) (fun t_ k_ => XS.iload Xc551.here hx rfl (hb hby at_533) rfl k_) ?_
        refine own_step (T' := Tc551) (g' := (mkF m 537 #[.val (.int k0), .val (.int m1), .val (.long x1), .second, .val (.long x2), .second, .val (.int n), .val (.ref a9), .val (.ref a210), .val (.int (own_paper v514 v516 v518)), .val (.int v537), .val (.int (0 : Int32))] [(.int (0 : Int32)), (.int (own_paper v514 v516 v518))])) (fun t_ k_ => XS.iload Xc551.here hx rfl (hb hby at_535) rfl k_) ?_
        have hk556 : (own_paper v514 v516 v518) = (0 : Int32) := hE.trans (by rw [if_neg hb541, if_neg hb548, if_pos hb555])
        refine own_step (T' := Tc551) (g' := (mkF m 540 #[.val (.int k0), .val (.int m1), .val (.long x1), .second, .val (.long x2), .second, .val (.int n), .val (.ref a9), .val (.ref a210), .val (.int (own_paper v514 v516 v518)), .val (.int v537), .val (.int (0 : Int32))] [])) (fun t_ k_ => XS.icmpNo Xc551.here hx rfl (hb hby at_537) rfl (XT.ii_ne_f hk556) k_) ?_
        refine own_step (T' := Tc551) (g' := (mkF m 541 #[.val (.int k0), .val (.int m1), .val (.long x1), .second, .val (.long x2), .second, .val (.int n), .val (.ref a9), .val (.ref a210), .val (.int (own_paper v514 v516 v518)), .val (.int v537), .val (.int (0 : Int32))] [(.int (1 : Int32))])) (fun t_ k_ => XT.iconstV Xc551.here hx rfl (1 : Int32) (hb hby at_540) (by decide) k_) ?_
        refine own_step (T' := Tc551) (g' := (mkF m 545 #[.val (.int k0), .val (.int m1), .val (.long x1), .second, .val (.long x2), .second, .val (.int n), .val (.ref a9), .val (.ref a210), .val (.int (own_paper v514 v516 v518)), .val (.int v537), .val (.int (0 : Int32))] [(.int (1 : Int32))])) (fun t_ k_ => XS.goto Xc551.here hx rfl (pc0 := 541) (pc' := 545) rfl (hb hby at_541) (by decide) (by decide) k_) ?_
        exact own_retN Xc551 hx hlk (t := .boolean) Bd.returns (by simp) (hb hby at_545) (by rw [e553]; exact ⟨rfl, N554⟩) (by decide) (by decide)
      · refine own_step (T' := Tc551) (g' := (mkF m 399 #[.val (.int k0), .val (.int m1), .val (.long x1), .second, .val (.long x2), .second, .val (.int n), .val (.ref a9), .val (.ref a210), .val (.int (own_paper v514 v516 v518)), .val (.int v537), .unset] [])) (fun t_ k_ => XS.ifNo Xc551.here hx rfl (hb hby at_396) rfl (XT.i0_eq_f hb555) k_) ?_
        refine own_step (T' := Tc551) (g' := (mkF m 400 #[.val (.int k0), .val (.int m1), .val (.long x1), .second, .val (.long x2), .second, .val (.int n), .val (.ref a9), .val (.ref a210), .val (.int (own_paper v514 v516 v518)), .val (.int v537), .unset] [(.int (2 : Int32))])) (fun t_ k_ => XT.iconstV Xc551.here hx rfl (2 : Int32) (hb hby at_399) (by decide) k_) ?_
        refine own_step (T' := Tc551) (g' := (mkF m 402 #[.val (.int k0), .val (.int m1), .val (.long x1), .second, .val (.long x2), .second, .val (.int n), .val (.ref a9), .val (.ref a210), .val (.int (own_paper v514 v516 v518)), .val (.int v537), .unset] [(.ref a9), (.int (2 : Int32))])) (fun t_ k_ => XS.aload Xc551.here hx rfl (hb hby at_400) rfl rfl k_) ?_
        refine own_step (T' := Tc551) (g' := (mkF m 403 #[.val (.int k0), .val (.int m1), .val (.long x1), .second, .val (.long x2), .second, .val (.int n), .val (.ref a9), .val (.ref a210), .val (.int (own_paper v514 v516 v518)), .val (.int v537), .unset] [(.int (2 : Int32)), (.ref a9), (.int (2 : Int32))])) (fun t_ k_ => XT.iconstV Xc551.here hx rfl (2 : Int32) (hb hby at_402) (by decide) k_) ?_
        have st557 := own_caload (g := (mkF m 403 #[.val (.int k0), .val (.int m1), .val (.long x1), .second, .val (.long x2), .second, .val (.int n), .val (.ref a9), .val (.ref a210), .val (.int (own_paper v514 v516 v518)), .val (.int v537), .unset] [(.int (2 : Int32)), (.ref a9), (.int (2 : Int32))])) Xc551 hx hZ e553 F512 (v := (.int c2)) (by decide) (own_ix (k := 2) (by decide) rfl) rfl rfl (hb hby at_403)
        refine own_step (T' := Tc551) (g' := (mkF m 404 #[.val (.int k0), .val (.int m1), .val (.long x1), .second, .val (.long x2), .second, .val (.int n), .val (.ref a9), .val (.ref a210), .val (.int (own_paper v514 v516 v518)), .val (.int v537), .unset] [(.int c2), (.int (2 : Int32))])) st557 ?_
        refine own_step (T' := Tc551) (g' := (mkF m 406 #[.val (.int k0), .val (.int m1), .val (.long x1), .second, .val (.long x2), .second, .val (.int n), .val (.ref a9), .val (.ref a210), .val (.int (own_paper v514 v516 v518)), .val (.int v537), .unset] [(.int n), (.int c2), (.int (2 : Int32))])) (fun t_ k_ => XS.iload Xc551.here hx rfl (hb hby at_404) rfl k_) ?_
        obtain ⟨_, _, ⟨Tc558, Lc558, kc558, nc558⟩, -, Xc558, ⟨Lcc558, hQc558, lc558, yc558, zc558⟩, stc558⟩ := Jvm.LawKit.callS Xc551 hx (y := (⟨"com/example/llogari/llogari/rules/WrittenFormIsPaperPinLaw", "fits", "(ICI)Z"⟩ : MethodName)) hown (mvT hZ (hw _ (List.mem_of_getElem? (i := 37) rfl))) (mvT hZ (hw _ (List.mem_of_getElem? (i := 38) rfl))) (mvT hZ (hw _ (List.mem_of_getElem? (i := 4) rfl))) (mvT hZ (hw _ (List.mem_of_getElem? (i := 39) rfl))) (by decide) (backOf (W := 0) (rm_fits l Z a0 hw [] (2 : Int32) c2 n h506 n0 F511) hZ (hw _ (List.mem_of_getElem? (i := 39) rfl)) (hw _ (List.mem_of_getElem? (i := 4) rfl)) (by decide) (by decide)) (g := (mkF m 406 #[.val (.int k0), .val (.int m1), .val (.long x1), .second, .val (.long x2), .second, .val (.int n), .val (.ref a9), .val (.ref a210), .val (.int (own_paper v514 v516 v518)), .val (.int v537), .unset] [(.int n), (.int c2), (.int (2 : Int32))])) rfl (by rw [hml]; rfl) (argsL := [(.int (2 : Int32)), (.int c2), (.int n)]) (rest := []) (lenOf pd_5 rfl) rfl (by show 2 * 0 + _ ≤ _; exact Nat.le_of_eq rfl) (hb hby at_406) (fun _ _ => ⟨rfl, e553, (by decide : 2 + 0 ≤ _), (by decide : 14 + 0 ≤ _)⟩)
        dsimp only [Pt.U, Pt.locs, Pt.cells, Pt.slots] at Xc558 lc558 yc558 zc558 stc558 hQc558
        subst lc558 yc558 zc558
        obtain ⟨rfl, N559, e560⟩ := hQc558
        have N561 := Fr.app N554 N559
        refine own_step (T' := Tc558) (g' := (mkF m 409 #[.val (.int k0), .val (.int m1), .val (.long x1), .second, .val (.long x2), .second, .val (.int n), .val (.ref a9), .val (.ref a210), .val (.int (own_paper v514 v516 v518)), .val (.int v537), .unset] [(.int (own_fits (2 : Int32) c2 n))])) stc558 ?_
        by_cases hb562 : (own_fits (2 : Int32) c2 n) = 0
        · refine own_step (T' := Tc558) (g' := (mkF m 530 #[.val (.int k0), .val (.int m1), .val (.long x1), .second, .val (.long x2), .second, .val (.int n), .val (.ref a9), .val (.ref a210), .val (.int (own_paper v514 v516 v518)), .val (.int v537), .unset] [])) (fun t_ k_ => XS.ifYes Xc558.here hx rfl (pc0 := 409) (pc' := 530) rfl (hb hby at_409) rfl (XT.i0_eq_t hb562) (by decide) (by decide) k_) ?_
          refine own_step (T' := Tc558) (g' := (mkF m 531 #[.val (.int k0), .val (.int m1), .val (.long x1), .second, .val (.long x2), .second, .val (.int n), .val (.ref a9), .val (.ref a210), .val (.int (own_paper v514 v516 v518)), .val (.int v537), .unset] [(.int (0 : Int32))])) (fun t_ k_ => XT.iconstV Xc558.here hx rfl (0 : Int32) (hb hby at_530) (by decide) k_) ?_
          refine own_step (T' := Tc558) (g' := (mkF m 533 #[.val (.int k0), .val (.int m1), .val (.long x1), .second, .val (.long x2), .second, .val (.int n), .val (.ref a9), .val (.ref a210), .val (.int (own_paper v514 v516 v518)), .val (.int v537), .val (.int (0 : Int32))] [])) (fun t_ k_ => XS.istore Xc558.here hx rfl (hb hby at_531) rfl (l' := #[.val (.int k0), .val (.int m1), .val (.long x1), .second, .val (.long x2), .second, .val (.int n), .val (.ref a9), .val (.ref a210), .val (.int (own_paper v514 v516 v518)), .val (.int v537), .val (.int (0 : Int32))]) rfl k_) ?_
          refine own_step (T' := Tc558) (g' := (mkF m 535 #[.val (.int k0), .val (.int m1), .val (.long x1), .second, .val (.long x2), .second, .val (.int n), .val (.ref a9), .val (.ref a210), .val (.int (own_paper v514 v516 v518)), .val (.int v537), .val (.int (0 : Int32))] [(.int (own_paper v514 v516 v518))])) (fun t_ k_ => XS.iload Xc558.here hx rfl (hb hby at_533) rfl k_) ?_
          refine own_step (T' := Tc558) (g' := (mkF m 537 #[.val (.int k0), .val (.int m1), .val (.long x1), .second, .val (.long x2), .second, .val (.int n), .val (.ref a9), .val (.ref a210), .val (.int (own_paper v514 v516 v518)), .val (.int v537), .val (.int (0 : Int32))] [(.int (0 : Int32)), (.int (own_paper v514 v516 v518))])) (fun t_ k_ => XS.iload Xc558.here hx rfl (hb hby at_535) rfl k_) ?_
          have hk563 : (own_paper v514 v516 v518) = (0 : Int32) := hE.trans (by rw [if_neg hb541, if_neg hb548, if_neg hb555, if_pos hb562])
          refine own_step (T' := Tc558) (g' := (mkF m 540 #[.val (.int k0), .val (.int m1), .val (.long x1), .second, .val (.long x2), .second, .val (.int n), .val (.ref a9), .val (.ref a210), .val (.int (own_paper v514 v516 v518)), .val (.int v537), .val (.int (0 : Int32))] [])) (fun t_ k_ => XS.icmpNo Xc558.here hx rfl (hb hby at_537) rfl (XT.ii_ne_f hk563) k_) ?_
          refine own_step (T' := Tc558) (g' := (mkF m 541 #[.val (.int k0), .val (.int m1), .val (.long x1), .second, .val (.long x2), .second, .val (.int n), .val (.ref a9), .val (.ref a210), .val (.int (own_paper v514 v516 v518)), .val (.int v537), .val (.int (0 : Int32))] [(.int (1 : Int32))])) (fun t_ k_ => XT.iconstV Xc558.here hx rfl (1 : Int32) (hb hby at_540) (by decide) k_) ?_
          refine own_step (T' := Tc558) (g' := (mkF m 545 #[.val (.int k0), .val (.int m1), .val (.long x1), .second, .val (.long x2), .second, .val (.int n), .val (.ref a9), .val (.ref a210), .val (.int (own_paper v514 v516 v518)), .val (.int v537), .val (.int (0 : Int32))] [(.int (1 : Int32))])) (fun t_ k_ => XS.goto Xc558.here hx rfl (pc0 := 541) (pc' := 545) rfl (hb hby at_541) (by decide) (by decide) k_) ?_
          exact own_retN Xc558 hx hlk (t := .boolean) Bd.returns (by simp) (hb hby at_545) (by rw [e560]; exact ⟨rfl, N561⟩) (by decide) (by decide)
        · refine own_step (T' := Tc558) (g' := (mkF m 412 #[.val (.int k0), .val (.int m1), .val (.long x1), .second, .val (.long x2), .second, .val (.int n), .val (.ref a9), .val (.ref a210), .val (.int (own_paper v514 v516 v518)), .val (.int v537), .unset] [])) (fun t_ k_ => XS.ifNo Xc558.here hx rfl (hb hby at_409) rfl (XT.i0_eq_f hb562) k_) ?_
          refine own_step (T' := Tc558) (g' := (mkF m 413 #[.val (.int k0), .val (.int m1), .val (.long x1), .second, .val (.long x2), .second, .val (.int n), .val (.ref a9), .val (.ref a210), .val (.int (own_paper v514 v516 v518)), .val (.int v537), .unset] [(.int (3 : Int32))])) (fun t_ k_ => XT.iconstV Xc558.here hx rfl (3 : Int32) (hb hby at_412) (by decide) k_) ?_
          refine own_step (T' := Tc558) (g' := (mkF m 415 #[.val (.int k0), .val (.int m1), .val (.long x1), .second, .val (.long x2), .second, .val (.int n), .val (.ref a9), .val (.ref a210), .val (.int (own_paper v514 v516 v518)), .val (.int v537), .unset] [(.ref a9), (.int (3 : Int32))])) (fun t_ k_ => XS.aload Xc558.here hx rfl (hb hby at_413) rfl rfl k_) ?_
          refine own_step (T' := Tc558) (g' := (mkF m 416 #[.val (.int k0), .val (.int m1), .val (.long x1), .second, .val (.long x2), .second, .val (.int n), .val (.ref a9), .val (.ref a210), .val (.int (own_paper v514 v516 v518)), .val (.int v537), .unset] [(.int (3 : Int32)), (.ref a9), (.int (3 : Int32))])) (fun t_ k_ => XT.iconstV Xc558.here hx rfl (3 : Int32) (hb hby at_415) (by decide) k_) ?_
          have st564 := own_caload (g := (mkF m 416 #[.val (.int k0), .val (.int m1), .val (.long x1), .second, .val (.long x2), .second, .val (.int n), .val (.ref a9), .val (.ref a210), .val (.int (own_paper v514 v516 v518)), .val (.int v537), .unset] [(.int (3 : Int32)), (.ref a9), (.int (3 : Int32))])) Xc558 hx hZ e560 F512 (v := (.int c3)) (by decide) (own_ix (k := 3) (by decide) rfl) rfl rfl (hb hby at_416)
          refine own_step (T' := Tc558) (g' := (mkF m 417 #[.val (.int k0), .val (.int m1), .val (.long x1), .second, .val (.long x2), .second, .val (.int n), .val (.ref a9), .val (.ref a210), .val (.int (own_paper v514 v516 v518)), .val (.int v537), .unset] [(.int c3), (.int (3 : Int32))])) st564 ?_
          refine own_step (T' := Tc558) (g' := (mkF m 419 #[.val (.int k0), .val (.int m1), .val (.long x1), .second, .val (.long x2), .second, .val (.int n), .val (.ref a9), .val (.ref a210), .val (.int (own_paper v514 v516 v518)), .val (.int v537), .unset] [(.int n), (.int c3), (.int (3 : Int32))])) (fun t_ k_ => XS.iload Xc558.here hx rfl (hb hby at_417) rfl k_) ?_
          obtain ⟨_, _, ⟨Tc565, Lc565, kc565, nc565⟩, -, Xc565, ⟨Lcc565, hQc565, lc565, yc565, zc565⟩, stc565⟩ := Jvm.LawKit.callS Xc558 hx (y := (⟨"com/example/llogari/llogari/rules/WrittenFormIsPaperPinLaw", "fits", "(ICI)Z"⟩ : MethodName)) hown (mvT hZ (hw _ (List.mem_of_getElem? (i := 37) rfl))) (mvT hZ (hw _ (List.mem_of_getElem? (i := 38) rfl))) (mvT hZ (hw _ (List.mem_of_getElem? (i := 4) rfl))) (mvT hZ (hw _ (List.mem_of_getElem? (i := 39) rfl))) (by decide) (backOf (W := 0) (rm_fits l Z a0 hw [] (3 : Int32) c3 n h506 n0 F511) hZ (hw _ (List.mem_of_getElem? (i := 39) rfl)) (hw _ (List.mem_of_getElem? (i := 4) rfl)) (by decide) (by decide)) (g := (mkF m 419 #[.val (.int k0), .val (.int m1), .val (.long x1), .second, .val (.long x2), .second, .val (.int n), .val (.ref a9), .val (.ref a210), .val (.int (own_paper v514 v516 v518)), .val (.int v537), .unset] [(.int n), (.int c3), (.int (3 : Int32))])) rfl (by rw [hml]; rfl) (argsL := [(.int (3 : Int32)), (.int c3), (.int n)]) (rest := []) (lenOf pd_5 rfl) rfl (by show 2 * 0 + _ ≤ _; exact Nat.le_of_eq rfl) (hb hby at_419) (fun _ _ => ⟨rfl, e560, (by decide : 2 + 0 ≤ _), (by decide : 14 + 0 ≤ _)⟩)
          dsimp only [Pt.U, Pt.locs, Pt.cells, Pt.slots] at Xc565 lc565 yc565 zc565 stc565 hQc565
          subst lc565 yc565 zc565
          obtain ⟨rfl, N566, e567⟩ := hQc565
          have N568 := Fr.app N561 N566
          refine own_step (T' := Tc565) (g' := (mkF m 422 #[.val (.int k0), .val (.int m1), .val (.long x1), .second, .val (.long x2), .second, .val (.int n), .val (.ref a9), .val (.ref a210), .val (.int (own_paper v514 v516 v518)), .val (.int v537), .unset] [(.int (own_fits (3 : Int32) c3 n))])) stc565 ?_
          by_cases hb569 : (own_fits (3 : Int32) c3 n) = 0
          · refine own_step (T' := Tc565) (g' := (mkF m 530 #[.val (.int k0), .val (.int m1), .val (.long x1), .second, .val (.long x2), .second, .val (.int n), .val (.ref a9), .val (.ref a210), .val (.int (own_paper v514 v516 v518)), .val (.int v537), .unset] [])) (fun t_ k_ => XS.ifYes Xc565.here hx rfl (pc0 := 422) (pc' := 530) rfl (hb hby at_422) rfl (XT.i0_eq_t hb569) (by decide) (by decide) k_) ?_
            refine own_step (T' := Tc565) (g' := (mkF m 531 #[.val (.int k0), .val (.int m1), .val (.long x1), .second, .val (.long x2), .second, .val (.int n), .val (.ref a9), .val (.ref a210), .val (.int (own_paper v514 v516 v518)), .val (.int v537), .unset] [(.int (0 : Int32))])) (fun t_ k_ => XT.iconstV Xc565.here hx rfl (0 : Int32) (hb hby at_530) (by decide) k_) ?_
            refine own_step (T' := Tc565) (g' := (mkF m 533 #[.val (.int k0), .val (.int m1), .val (.long x1), .second, .val (.long x2), .second, .val (.int n), .val (.ref a9), .val (.ref a210), .val (.int (own_paper v514 v516 v518)), .val (.int v537), .val (.int (0 : Int32))] [])) (fun t_ k_ => XS.istore Xc565.here hx rfl (hb hby at_531) rfl (l' := #[.val (.int k0), .val (.int m1), .val (.long x1), .second, .val (.long x2), .second, .val (.int n), .val (.ref a9), .val (.ref a210), .val (.int (own_paper v514 v516 v518)), .val (.int v537), .val (.int (0 : Int32))]) rfl k_) ?_
            refine own_step (T' := Tc565) (g' := (mkF m 535 #[.val (.int k0), .val (.int m1), .val (.long x1), .second, .val (.long x2), .second, .val (.int n), .val (.ref a9), .val (.ref a210), .val (.int (own_paper v514 v516 v518)), .val (.int v537), .val (.int (0 : Int32))] [(.int (own_paper v514 v516 v518))])) (fun t_ k_ => XS.iload Xc565.here hx rfl (hb hby at_533) rfl k_) ?_
            refine own_step (T' := Tc565) (g' := (mkF m 537 #[.val (.int k0), .val (.int m1), .val (.long x1), .second, .val (.long x2), .second, .val (.int n), .val (.ref a9), .val (.ref a210), .val (.int (own_paper v514 v516 v518)), .val (.int v537), .val (.int (0 : Int32))] [(.int (0 : Int32)), (.int (own_paper v514 v516 v518))])) (fun t_ k_ => XS.iload Xc565.here hx rfl (hb hby at_535) rfl k_) ?_
            have hk570 : (own_paper v514 v516 v518) = (0 : Int32) := hE.trans (by rw [if_neg hb541, if_neg hb548, if_neg hb555, if_neg hb562, if_pos hb569])
            refine own_step (T' := Tc565) (g' := (mkF m 540 #[.val (.int k0), .val (.int m1), .val (.long x1), .second, .val (.long x2), .second, .val (.int n), .val (.ref a9), .val (.ref a210), .val (.int (own_paper v514 v516 v518)), .val (.int v537), .val (.int (0 : Int32))] [])) (fun t_ k_ => XS.icmpNo Xc565.here hx rfl (hb hby at_537) rfl (XT.ii_ne_f hk570) k_) ?_
            refine own_step (T' := Tc565) (g' := (mkF m 541 #[.val (.int k0), .val (.int m1), .val (.long x1), .second, .val (.long x2), .second, .val (.int n), .val (.ref a9), .val (.ref a210), .val (.int (own_paper v514 v516 v518)), .val (.int v537), .val (.int (0 : Int32))] [(.int (1 : Int32))])) (fun t_ k_ => XT.iconstV Xc565.here hx rfl (1 : Int32) (hb hby at_540) (by decide) k_) ?_
            refine own_step (T' := Tc565) (g' := (mkF m 545 #[.val (.int k0), .val (.int m1), .val (.long x1), .second, .val (.long x2), .second, .val (.int n), .val (.ref a9), .val (.ref a210), .val (.int (own_paper v514 v516 v518)), .val (.int v537), .val (.int (0 : Int32))] [(.int (1 : Int32))])) (fun t_ k_ => XS.goto Xc565.here hx rfl (pc0 := 541) (pc' := 545) rfl (hb hby at_541) (by decide) (by decide) k_) ?_
            exact own_retN Xc565 hx hlk (t := .boolean) Bd.returns (by simp) (hb hby at_545) (by rw [e567]; exact ⟨rfl, N568⟩) (by decide) (by decide)
          · refine own_step (T' := Tc565) (g' := (mkF m 425 #[.val (.int k0), .val (.int m1), .val (.long x1), .second, .val (.long x2), .second, .val (.int n), .val (.ref a9), .val (.ref a210), .val (.int (own_paper v514 v516 v518)), .val (.int v537), .unset] [])) (fun t_ k_ => XS.ifNo Xc565.here hx rfl (hb hby at_422) rfl (XT.i0_eq_f hb569) k_) ?_
            refine own_step (T' := Tc565) (g' := (mkF m 426 #[.val (.int k0), .val (.int m1), .val (.long x1), .second, .val (.long x2), .second, .val (.int n), .val (.ref a9), .val (.ref a210), .val (.int (own_paper v514 v516 v518)), .val (.int v537), .unset] [(.int (4 : Int32))])) (fun t_ k_ => XT.iconstV Xc565.here hx rfl (4 : Int32) (hb hby at_425) (by decide) k_) ?_
            refine own_step (T' := Tc565) (g' := (mkF m 428 #[.val (.int k0), .val (.int m1), .val (.long x1), .second, .val (.long x2), .second, .val (.int n), .val (.ref a9), .val (.ref a210), .val (.int (own_paper v514 v516 v518)), .val (.int v537), .unset] [(.ref a9), (.int (4 : Int32))])) (fun t_ k_ => XS.aload Xc565.here hx rfl (hb hby at_426) rfl rfl k_) ?_
            refine own_step (T' := Tc565) (g' := (mkF m 429 #[.val (.int k0), .val (.int m1), .val (.long x1), .second, .val (.long x2), .second, .val (.int n), .val (.ref a9), .val (.ref a210), .val (.int (own_paper v514 v516 v518)), .val (.int v537), .unset] [(.int (4 : Int32)), (.ref a9), (.int (4 : Int32))])) (fun t_ k_ => XT.iconstV Xc565.here hx rfl (4 : Int32) (hb hby at_428) (by decide) k_) ?_
            have st571 := own_caload (g := (mkF m 429 #[.val (.int k0), .val (.int m1), .val (.long x1), .second, .val (.long x2), .second, .val (.int n), .val (.ref a9), .val (.ref a210), .val (.int (own_paper v514 v516 v518)), .val (.int v537), .unset] [(.int (4 : Int32)), (.ref a9), (.int (4 : Int32))])) Xc565 hx hZ e567 F512 (v := (.int c4)) (by decide) (own_ix (k := 4) (by decide) rfl) rfl rfl (hb hby at_429)
            refine own_step (T' := Tc565) (g' := (mkF m 430 #[.val (.int k0), .val (.int m1), .val (.long x1), .second, .val (.long x2), .second, .val (.int n), .val (.ref a9), .val (.ref a210), .val (.int (own_paper v514 v516 v518)), .val (.int v537), .unset] [(.int c4), (.int (4 : Int32))])) st571 ?_
            refine own_step (T' := Tc565) (g' := (mkF m 432 #[.val (.int k0), .val (.int m1), .val (.long x1), .second, .val (.long x2), .second, .val (.int n), .val (.ref a9), .val (.ref a210), .val (.int (own_paper v514 v516 v518)), .val (.int v537), .unset] [(.int n), (.int c4), (.int (4 : Int32))])) (fun t_ k_ => XS.iload Xc565.here hx rfl (hb hby at_430) rfl k_) ?_
            obtain ⟨_, _, ⟨Tc572, Lc572, kc572, nc572⟩, -, Xc572, ⟨Lcc572, hQc572, lc572, yc572, zc572⟩, stc572⟩ := Jvm.LawKit.callS Xc565 hx (y := (⟨"com/example/llogari/llogari/rules/WrittenFormIsPaperPinLaw", "fits", "(ICI)Z"⟩ : MethodName)) hown (mvT hZ (hw _ (List.mem_of_getElem? (i := 37) rfl))) (mvT hZ (hw _ (List.mem_of_getElem? (i := 38) rfl))) (mvT hZ (hw _ (List.mem_of_getElem? (i := 4) rfl))) (mvT hZ (hw _ (List.mem_of_getElem? (i := 39) rfl))) (by decide) (backOf (W := 0) (rm_fits l Z a0 hw [] (4 : Int32) c4 n h506 n0 F511) hZ (hw _ (List.mem_of_getElem? (i := 39) rfl)) (hw _ (List.mem_of_getElem? (i := 4) rfl)) (by decide) (by decide)) (g := (mkF m 432 #[.val (.int k0), .val (.int m1), .val (.long x1), .second, .val (.long x2), .second, .val (.int n), .val (.ref a9), .val (.ref a210), .val (.int (own_paper v514 v516 v518)), .val (.int v537), .unset] [(.int n), (.int c4), (.int (4 : Int32))])) rfl (by rw [hml]; rfl) (argsL := [(.int (4 : Int32)), (.int c4), (.int n)]) (rest := []) (lenOf pd_5 rfl) rfl (by show 2 * 0 + _ ≤ _; exact Nat.le_of_eq rfl) (hb hby at_432) (fun _ _ => ⟨rfl, e567, (by decide : 2 + 0 ≤ _), (by decide : 14 + 0 ≤ _)⟩)
            dsimp only [Pt.U, Pt.locs, Pt.cells, Pt.slots] at Xc572 lc572 yc572 zc572 stc572 hQc572
            subst lc572 yc572 zc572
            obtain ⟨rfl, N573, e574⟩ := hQc572
            have N575 := Fr.app N568 N573
            refine own_step (T' := Tc572) (g' := (mkF m 435 #[.val (.int k0), .val (.int m1), .val (.long x1), .second, .val (.long x2), .second, .val (.int n), .val (.ref a9), .val (.ref a210), .val (.int (own_paper v514 v516 v518)), .val (.int v537), .unset] [(.int (own_fits (4 : Int32) c4 n))])) stc572 ?_
            by_cases hb576 : (own_fits (4 : Int32) c4 n) = 0
            · refine own_step (T' := Tc572) (g' := (mkF m 530 #[.val (.int k0), .val (.int m1), .val (.long x1), .second, .val (.long x2), .second, .val (.int n), .val (.ref a9), .val (.ref a210), .val (.int (own_paper v514 v516 v518)), .val (.int v537), .unset] [])) (fun t_ k_ => XS.ifYes Xc572.here hx rfl (pc0 := 435) (pc' := 530) rfl (hb hby at_435) rfl (XT.i0_eq_t hb576) (by decide) (by decide) k_) ?_
              refine own_step (T' := Tc572) (g' := (mkF m 531 #[.val (.int k0), .val (.int m1), .val (.long x1), .second, .val (.long x2), .second, .val (.int n), .val (.ref a9), .val (.ref a210), .val (.int (own_paper v514 v516 v518)), .val (.int v537), .unset] [(.int (0 : Int32))])) (fun t_ k_ => XT.iconstV Xc572.here hx rfl (0 : Int32) (hb hby at_530) (by decide) k_) ?_
              refine own_step (T' := Tc572) (g' := (mkF m 533 #[.val (.int k0), .val (.int m1), .val (.long x1), .second, .val (.long x2), .second, .val (.int n), .val (.ref a9), .val (.ref a210), .val (.int (own_paper v514 v516 v518)), .val (.int v537), .val (.int (0 : Int32))] [])) (fun t_ k_ => XS.istore Xc572.here hx rfl (hb hby at_531) rfl (l' := #[.val (.int k0), .val (.int m1), .val (.long x1), .second, .val (.long x2), .second, .val (.int n), .val (.ref a9), .val (.ref a210), .val (.int (own_paper v514 v516 v518)), .val (.int v537), .val (.int (0 : Int32))]) rfl k_) ?_
              refine own_step (T' := Tc572) (g' := (mkF m 535 #[.val (.int k0), .val (.int m1), .val (.long x1), .second, .val (.long x2), .second, .val (.int n), .val (.ref a9), .val (.ref a210), .val (.int (own_paper v514 v516 v518)), .val (.int v537), .val (.int (0 : Int32))] [(.int (own_paper v514 v516 v518))])) (fun t_ k_ => XS.iload Xc572.here hx rfl (hb hby at_533) rfl k_) ?_
              refine own_step (T' := Tc572) (g' := (mkF m 537 #[.val (.int k0), .val (.int m1), .val (.long x1), .second, .val (.long x2), .second, .val (.int n), .val (.ref a9), .val (.ref a210), .val (.int (own_paper v514 v516 v518)), .val (.int v537), .val (.int (0 : Int32))] [(.int (0 : Int32)), (.int (own_paper v514 v516 v518))])) (fun t_ k_ => XS.iload Xc572.here hx rfl (hb hby at_535) rfl k_) ?_
              have hk577 : (own_paper v514 v516 v518) = (0 : Int32) := hE.trans (by rw [if_neg hb541, if_neg hb548, if_neg hb555, if_neg hb562, if_neg hb569, if_pos hb576])
              refine own_step (T' := Tc572) (g' := (mkF m 540 #[.val (.int k0), .val (.int m1), .val (.long x1), .second, .val (.long x2), .second, .val (.int n), .val (.ref a9), .val (.ref a210), .val (.int (own_paper v514 v516 v518)), .val (.int v537), .val (.int (0 : Int32))] [])) (fun t_ k_ => XS.icmpNo Xc572.here hx rfl (hb hby at_537) rfl (XT.ii_ne_f hk577) k_) ?_
              refine own_step (T' := Tc572) (g' := (mkF m 541 #[.val (.int k0), .val (.int m1), .val (.long x1), .second, .val (.long x2), .second, .val (.int n), .val (.ref a9), .val (.ref a210), .val (.int (own_paper v514 v516 v518)), .val (.int v537), .val (.int (0 : Int32))] [(.int (1 : Int32))])) (fun t_ k_ => XT.iconstV Xc572.here hx rfl (1 : Int32) (hb hby at_540) (by decide) k_) ?_
              refine own_step (T' := Tc572) (g' := (mkF m 545 #[.val (.int k0), .val (.int m1), .val (.long x1), .second, .val (.long x2), .second, .val (.int n), .val (.ref a9), .val (.ref a210), .val (.int (own_paper v514 v516 v518)), .val (.int v537), .val (.int (0 : Int32))] [(.int (1 : Int32))])) (fun t_ k_ => XS.goto Xc572.here hx rfl (pc0 := 541) (pc' := 545) rfl (hb hby at_541) (by decide) (by decide) k_) ?_
              exact own_retN Xc572 hx hlk (t := .boolean) Bd.returns (by simp) (hb hby at_545) (by rw [e574]; exact ⟨rfl, N575⟩) (by decide) (by decide)
            · refine own_step (T' := Tc572) (g' := (mkF m 438 #[.val (.int k0), .val (.int m1), .val (.long x1), .second, .val (.long x2), .second, .val (.int n), .val (.ref a9), .val (.ref a210), .val (.int (own_paper v514 v516 v518)), .val (.int v537), .unset] [])) (fun t_ k_ => XS.ifNo Xc572.here hx rfl (hb hby at_435) rfl (XT.i0_eq_f hb576) k_) ?_
              refine own_step (T' := Tc572) (g' := (mkF m 439 #[.val (.int k0), .val (.int m1), .val (.long x1), .second, .val (.long x2), .second, .val (.int n), .val (.ref a9), .val (.ref a210), .val (.int (own_paper v514 v516 v518)), .val (.int v537), .unset] [(.int (5 : Int32))])) (fun t_ k_ => XT.iconstV Xc572.here hx rfl (5 : Int32) (hb hby at_438) (by decide) k_) ?_
              refine own_step (T' := Tc572) (g' := (mkF m 441 #[.val (.int k0), .val (.int m1), .val (.long x1), .second, .val (.long x2), .second, .val (.int n), .val (.ref a9), .val (.ref a210), .val (.int (own_paper v514 v516 v518)), .val (.int v537), .unset] [(.ref a9), (.int (5 : Int32))])) (fun t_ k_ => XS.aload Xc572.here hx rfl (hb hby at_439) rfl rfl k_) ?_
              refine own_step (T' := Tc572) (g' := (mkF m 442 #[.val (.int k0), .val (.int m1), .val (.long x1), .second, .val (.long x2), .second, .val (.int n), .val (.ref a9), .val (.ref a210), .val (.int (own_paper v514 v516 v518)), .val (.int v537), .unset] [(.int (5 : Int32)), (.ref a9), (.int (5 : Int32))])) (fun t_ k_ => XT.iconstV Xc572.here hx rfl (5 : Int32) (hb hby at_441) (by decide) k_) ?_
              have st578 := own_caload (g := (mkF m 442 #[.val (.int k0), .val (.int m1), .val (.long x1), .second, .val (.long x2), .second, .val (.int n), .val (.ref a9), .val (.ref a210), .val (.int (own_paper v514 v516 v518)), .val (.int v537), .unset] [(.int (5 : Int32)), (.ref a9), (.int (5 : Int32))])) Xc572 hx hZ e574 F512 (v := (.int c5)) (by decide) (own_ix (k := 5) (by decide) rfl) rfl rfl (hb hby at_442)
              refine own_step (T' := Tc572) (g' := (mkF m 443 #[.val (.int k0), .val (.int m1), .val (.long x1), .second, .val (.long x2), .second, .val (.int n), .val (.ref a9), .val (.ref a210), .val (.int (own_paper v514 v516 v518)), .val (.int v537), .unset] [(.int c5), (.int (5 : Int32))])) st578 ?_
              refine own_step (T' := Tc572) (g' := (mkF m 445 #[.val (.int k0), .val (.int m1), .val (.long x1), .second, .val (.long x2), .second, .val (.int n), .val (.ref a9), .val (.ref a210), .val (.int (own_paper v514 v516 v518)), .val (.int v537), .unset] [(.int n), (.int c5), (.int (5 : Int32))])) (fun t_ k_ => XS.iload Xc572.here hx rfl (hb hby at_443) rfl k_) ?_
              obtain ⟨_, _, ⟨Tc579, Lc579, kc579, nc579⟩, -, Xc579, ⟨Lcc579, hQc579, lc579, yc579, zc579⟩, stc579⟩ := Jvm.LawKit.callS Xc572 hx (y := (⟨"com/example/llogari/llogari/rules/WrittenFormIsPaperPinLaw", "fits", "(ICI)Z"⟩ : MethodName)) hown (mvT hZ (hw _ (List.mem_of_getElem? (i := 37) rfl))) (mvT hZ (hw _ (List.mem_of_getElem? (i := 38) rfl))) (mvT hZ (hw _ (List.mem_of_getElem? (i := 4) rfl))) (mvT hZ (hw _ (List.mem_of_getElem? (i := 39) rfl))) (by decide) (backOf (W := 0) (rm_fits l Z a0 hw [] (5 : Int32) c5 n h506 n0 F511) hZ (hw _ (List.mem_of_getElem? (i := 39) rfl)) (hw _ (List.mem_of_getElem? (i := 4) rfl)) (by decide) (by decide)) (g := (mkF m 445 #[.val (.int k0), .val (.int m1), .val (.long x1), .second, .val (.long x2), .second, .val (.int n), .val (.ref a9), .val (.ref a210), .val (.int (own_paper v514 v516 v518)), .val (.int v537), .unset] [(.int n), (.int c5), (.int (5 : Int32))])) rfl (by rw [hml]; rfl) (argsL := [(.int (5 : Int32)), (.int c5), (.int n)]) (rest := []) (lenOf pd_5 rfl) rfl (by show 2 * 0 + _ ≤ _; exact Nat.le_of_eq rfl) (hb hby at_445) (fun _ _ => ⟨rfl, e574, (by decide : 2 + 0 ≤ _), (by decide : 14 + 0 ≤ _)⟩)
              dsimp only [Pt.U, Pt.locs, Pt.cells, Pt.slots] at Xc579 lc579 yc579 zc579 stc579 hQc579
              subst lc579 yc579 zc579
              obtain ⟨rfl, N580, e581⟩ := hQc579
              have N582 := Fr.app N575 N580
              refine own_step (T' := Tc579) (g' := (mkF m 448 #[.val (.int k0), .val (.int m1), .val (.long x1), .second, .val (.long x2), .second, .val (.int n), .val (.ref a9), .val (.ref a210), .val (.int (own_paper v514 v516 v518)), .val (.int v537), .unset] [(.int (own_fits (5 : Int32) c5 n))])) stc579 ?_
              by_cases hb583 : (own_fits (5 : Int32) c5 n) = 0
              · refine own_step (T' := Tc579) (g' := (mkF m 530 #[.val (.int k0), .val (.int m1), .val (.long x1), .second, .val (.long x2), .second, .val (.int n), .val (.ref a9), .val (.ref a210), .val (.int (own_paper v514 v516 v518)), .val (.int v537), .unset] [])) (fun t_ k_ => XS.ifYes Xc579.here hx rfl (pc0 := 448) (pc' := 530) rfl (hb hby at_448) rfl (XT.i0_eq_t hb583) (by decide) (by decide) k_) ?_
                refine own_step (T' := Tc579) (g' := (mkF m 531 #[.val (.int k0), .val (.int m1), .val (.long x1), .second, .val (.long x2), .second, .val (.int n), .val (.ref a9), .val (.ref a210), .val (.int (own_paper v514 v516 v518)), .val (.int v537), .unset] [(.int (0 : Int32))])) (fun t_ k_ => XT.iconstV Xc579.here hx rfl (0 : Int32) (hb hby at_530) (by decide) k_) ?_
                refine own_step (T' := Tc579) (g' := (mkF m 533 #[.val (.int k0), .val (.int m1), .val (.long x1), .second, .val (.long x2), .second, .val (.int n), .val (.ref a9), .val (.ref a210), .val (.int (own_paper v514 v516 v518)), .val (.int v537), .val (.int (0 : Int32))] [])) (fun t_ k_ => XS.istore Xc579.here hx rfl (hb hby at_531) rfl (l' := #[.val (.int k0), .val (.int m1), .val (.long x1), .second, .val (.long x2), .second, .val (.int n), .val (.ref a9), .val (.ref a210), .val (.int (own_paper v514 v516 v518)), .val (.int v537), .val (.int (0 : Int32))]) rfl k_) ?_
                refine own_step (T' := Tc579) (g' := (mkF m 535 #[.val (.int k0), .val (.int m1), .val (.long x1), .second, .val (.long x2), .second, .val (.int n), .val (.ref a9), .val (.ref a210), .val (.int (own_paper v514 v516 v518)), .val (.int v537), .val (.int (0 : Int32))] [(.int (own_paper v514 v516 v518))])) (fun t_ k_ => XS.iload Xc579.here hx rfl (hb hby at_533) rfl k_) ?_
                refine own_step (T' := Tc579) (g' := (mkF m 537 #[.val (.int k0), .val (.int m1), .val (.long x1), .second, .val (.long x2), .second, .val (.int n), .val (.ref a9), .val (.ref a210), .val (.int (own_paper v514 v516 v518)), .val (.int v537), .val (.int (0 : Int32))] [(.int (0 : Int32)), (.int (own_paper v514 v516 v518))])) (fun t_ k_ => XS.iload Xc579.here hx rfl (hb hby at_535) rfl k_) ?_
                have hk584 : (own_paper v514 v516 v518) = (0 : Int32) := hE.trans (by rw [if_neg hb541, if_neg hb548, if_neg hb555, if_neg hb562, if_neg hb569, if_neg hb576, if_pos hb583])
                refine own_step (T' := Tc579) (g' := (mkF m 540 #[.val (.int k0), .val (.int m1), .val (.long x1), .second, .val (.long x2), .second, .val (.int n), .val (.ref a9), .val (.ref a210), .val (.int (own_paper v514 v516 v518)), .val (.int v537), .val (.int (0 : Int32))] [])) (fun t_ k_ => XS.icmpNo Xc579.here hx rfl (hb hby at_537) rfl (XT.ii_ne_f hk584) k_) ?_
                refine own_step (T' := Tc579) (g' := (mkF m 541 #[.val (.int k0), .val (.int m1), .val (.long x1), .second, .val (.long x2), .second, .val (.int n), .val (.ref a9), .val (.ref a210), .val (.int (own_paper v514 v516 v518)), .val (.int v537), .val (.int (0 : Int32))] [(.int (1 : Int32))])) (fun t_ k_ => XT.iconstV Xc579.here hx rfl (1 : Int32) (hb hby at_540) (by decide) k_) ?_
                refine own_step (T' := Tc579) (g' := (mkF m 545 #[.val (.int k0), .val (.int m1), .val (.long x1), .second, .val (.long x2), .second, .val (.int n), .val (.ref a9), .val (.ref a210), .val (.int (own_paper v514 v516 v518)), .val (.int v537), .val (.int (0 : Int32))] [(.int (1 : Int32))])) (fun t_ k_ => XS.goto Xc579.here hx rfl (pc0 := 541) (pc' := 545) rfl (hb hby at_541) (by decide) (by decide) k_) ?_
                exact own_retN Xc579 hx hlk (t := .boolean) Bd.returns (by simp) (hb hby at_545) (by rw [e581]; exact ⟨rfl, N582⟩) (by decide) (by decide)
              · refine own_step (T' := Tc579) (g' := (mkF m 451 #[.val (.int k0), .val (.int m1), .val (.long x1), .second, .val (.long x2), .second, .val (.int n), .val (.ref a9), .val (.ref a210), .val (.int (own_paper v514 v516 v518)), .val (.int v537), .unset] [])) (fun t_ k_ => XS.ifNo Xc579.here hx rfl (hb hby at_448) rfl (XT.i0_eq_f hb583) k_) ?_
                refine own_step (T' := Tc579) (g' := (mkF m 453 #[.val (.int k0), .val (.int m1), .val (.long x1), .second, .val (.long x2), .second, .val (.int n), .val (.ref a9), .val (.ref a210), .val (.int (own_paper v514 v516 v518)), .val (.int v537), .unset] [(.int (6 : Int32))])) (fun t_ k_ => XT.bipushV Xc579.here hx rfl (6 : Int32) (hb hby at_451) (by decide) k_) ?_
                refine own_step (T' := Tc579) (g' := (mkF m 455 #[.val (.int k0), .val (.int m1), .val (.long x1), .second, .val (.long x2), .second, .val (.int n), .val (.ref a9), .val (.ref a210), .val (.int (own_paper v514 v516 v518)), .val (.int v537), .unset] [(.ref a9), (.int (6 : Int32))])) (fun t_ k_ => XS.aload Xc579.here hx rfl (hb hby at_453) rfl rfl k_) ?_
                refine own_step (T' := Tc579) (g' := (mkF m 457 #[.val (.int k0), .val (.int m1), .val (.long x1), .second, .val (.long x2), .second, .val (.int n), .val (.ref a9), .val (.ref a210), .val (.int (own_paper v514 v516 v518)), .val (.int v537), .unset] [(.int (6 : Int32)), (.ref a9), (.int (6 : Int32))])) (fun t_ k_ => XT.bipushV Xc579.here hx rfl (6 : Int32) (hb hby at_455) (by decide) k_) ?_
                have st585 := own_caload (g := (mkF m 457 #[.val (.int k0), .val (.int m1), .val (.long x1), .second, .val (.long x2), .second, .val (.int n), .val (.ref a9), .val (.ref a210), .val (.int (own_paper v514 v516 v518)), .val (.int v537), .unset] [(.int (6 : Int32)), (.ref a9), (.int (6 : Int32))])) Xc579 hx hZ e581 F512 (v := (.int c6)) (by decide) (own_ix (k := 6) (by decide) rfl) rfl rfl (hb hby at_457)
                refine own_step (T' := Tc579) (g' := (mkF m 458 #[.val (.int k0), .val (.int m1), .val (.long x1), .second, .val (.long x2), .second, .val (.int n), .val (.ref a9), .val (.ref a210), .val (.int (own_paper v514 v516 v518)), .val (.int v537), .unset] [(.int c6), (.int (6 : Int32))])) st585 ?_
                refine own_step (T' := Tc579) (g' := (mkF m 460 #[.val (.int k0), .val (.int m1), .val (.long x1), .second, .val (.long x2), .second, .val (.int n), .val (.ref a9), .val (.ref a210), .val (.int (own_paper v514 v516 v518)), .val (.int v537), .unset] [(.int n), (.int c6), (.int (6 : Int32))])) (fun t_ k_ => XS.iload Xc579.here hx rfl (hb hby at_458) rfl k_) ?_
                obtain ⟨_, _, ⟨Tc586, Lc586, kc586, nc586⟩, -, Xc586, ⟨Lcc586, hQc586, lc586, yc586, zc586⟩, stc586⟩ := Jvm.LawKit.callS Xc579 hx (y := (⟨"com/example/llogari/llogari/rules/WrittenFormIsPaperPinLaw", "fits", "(ICI)Z"⟩ : MethodName)) hown (mvT hZ (hw _ (List.mem_of_getElem? (i := 37) rfl))) (mvT hZ (hw _ (List.mem_of_getElem? (i := 38) rfl))) (mvT hZ (hw _ (List.mem_of_getElem? (i := 4) rfl))) (mvT hZ (hw _ (List.mem_of_getElem? (i := 39) rfl))) (by decide) (backOf (W := 0) (rm_fits l Z a0 hw [] (6 : Int32) c6 n h506 n0 F511) hZ (hw _ (List.mem_of_getElem? (i := 39) rfl)) (hw _ (List.mem_of_getElem? (i := 4) rfl)) (by decide) (by decide)) (g := (mkF m 460 #[.val (.int k0), .val (.int m1), .val (.long x1), .second, .val (.long x2), .second, .val (.int n), .val (.ref a9), .val (.ref a210), .val (.int (own_paper v514 v516 v518)), .val (.int v537), .unset] [(.int n), (.int c6), (.int (6 : Int32))])) rfl (by rw [hml]; rfl) (argsL := [(.int (6 : Int32)), (.int c6), (.int n)]) (rest := []) (lenOf pd_5 rfl) rfl (by show 2 * 0 + _ ≤ _; exact Nat.le_of_eq rfl) (hb hby at_460) (fun _ _ => ⟨rfl, e581, (by decide : 2 + 0 ≤ _), (by decide : 14 + 0 ≤ _)⟩)
                dsimp only [Pt.U, Pt.locs, Pt.cells, Pt.slots] at Xc586 lc586 yc586 zc586 stc586 hQc586
                subst lc586 yc586 zc586
                obtain ⟨rfl, N587, e588⟩ := hQc586
                have N589 := Fr.app N582 N587
                refine own_step (T' := Tc586) (g' := (mkF m 463 #[.val (.int k0), .val (.int m1), .val (.long x1), .second, .val (.long x2), .second, .val (.int n), .val (.ref a9), .val (.ref a210), .val (.int (own_paper v514 v516 v518)), .val (.int v537), .unset] [(.int (own_fits (6 : Int32) c6 n))])) stc586 ?_
                by_cases hb590 : (own_fits (6 : Int32) c6 n) = 0
                · refine own_step (T' := Tc586) (g' := (mkF m 530 #[.val (.int k0), .val (.int m1), .val (.long x1), .second, .val (.long x2), .second, .val (.int n), .val (.ref a9), .val (.ref a210), .val (.int (own_paper v514 v516 v518)), .val (.int v537), .unset] [])) (fun t_ k_ => XS.ifYes Xc586.here hx rfl (pc0 := 463) (pc' := 530) rfl (hb hby at_463) rfl (XT.i0_eq_t hb590) (by decide) (by decide) k_) ?_
                  refine own_step (T' := Tc586) (g' := (mkF m 531 #[.val (.int k0), .val (.int m1), .val (.long x1), .second, .val (.long x2), .second, .val (.int n), .val (.ref a9), .val (.ref a210), .val (.int (own_paper v514 v516 v518)), .val (.int v537), .unset] [(.int (0 : Int32))])) (fun t_ k_ => XT.iconstV Xc586.here hx rfl (0 : Int32) (hb hby at_530) (by decide) k_) ?_
                  refine own_step (T' := Tc586) (g' := (mkF m 533 #[.val (.int k0), .val (.int m1), .val (.long x1), .second, .val (.long x2), .second, .val (.int n), .val (.ref a9), .val (.ref a210), .val (.int (own_paper v514 v516 v518)), .val (.int v537), .val (.int (0 : Int32))] [])) (fun t_ k_ => XS.istore Xc586.here hx rfl (hb hby at_531) rfl (l' := #[.val (.int k0), .val (.int m1), .val (.long x1), .second, .val (.long x2), .second, .val (.int n), .val (.ref a9), .val (.ref a210), .val (.int (own_paper v514 v516 v518)), .val (.int v537), .val (.int (0 : Int32))]) rfl k_) ?_
                  refine own_step (T' := Tc586) (g' := (mkF m 535 #[.val (.int k0), .val (.int m1), .val (.long x1), .second, .val (.long x2), .second, .val (.int n), .val (.ref a9), .val (.ref a210), .val (.int (own_paper v514 v516 v518)), .val (.int v537), .val (.int (0 : Int32))] [(.int (own_paper v514 v516 v518))])) (fun t_ k_ => XS.iload Xc586.here hx rfl (hb hby at_533) rfl k_) ?_
                  refine own_step (T' := Tc586) (g' := (mkF m 537 #[.val (.int k0), .val (.int m1), .val (.long x1), .second, .val (.long x2), .second, .val (.int n), .val (.ref a9), .val (.ref a210), .val (.int (own_paper v514 v516 v518)), .val (.int v537), .val (.int (0 : Int32))] [(.int (0 : Int32)), (.int (own_paper v514 v516 v518))])) (fun t_ k_ => XS.iload Xc586.here hx rfl (hb hby at_535) rfl k_) ?_
                  have hk591 : (own_paper v514 v516 v518) = (0 : Int32) := hE.trans (by rw [if_neg hb541, if_neg hb548, if_neg hb555, if_neg hb562, if_neg hb569, if_neg hb576, if_neg hb583, if_pos hb590])
                  refine own_step (T' := Tc586) (g' := (mkF m 540 #[.val (.int k0), .val (.int m1), .val (.long x1), .second, .val (.long x2), .second, .val (.int n), .val (.ref a9), .val (.ref a210), .val (.int (own_paper v514 v516 v518)), .val (.int v537), .val (.int (0 : Int32))] [])) (fun t_ k_ => XS.icmpNo Xc586.here hx rfl (hb hby at_537) rfl (XT.ii_ne_f hk591) k_) ?_
                  refine own_step (T' := Tc586) (g' := (mkF m 541 #[.val (.int k0), .val (.int m1), .val (.long x1), .second, .val (.long x2), .second, .val (.int n), .val (.ref a9), .val (.ref a210), .val (.int (own_paper v514 v516 v518)), .val (.int v537), .val (.int (0 : Int32))] [(.int (1 : Int32))])) (fun t_ k_ => XT.iconstV Xc586.here hx rfl (1 : Int32) (hb hby at_540) (by decide) k_) ?_
                  refine own_step (T' := Tc586) (g' := (mkF m 545 #[.val (.int k0), .val (.int m1), .val (.long x1), .second, .val (.long x2), .second, .val (.int n), .val (.ref a9), .val (.ref a210), .val (.int (own_paper v514 v516 v518)), .val (.int v537), .val (.int (0 : Int32))] [(.int (1 : Int32))])) (fun t_ k_ => XS.goto Xc586.here hx rfl (pc0 := 541) (pc' := 545) rfl (hb hby at_541) (by decide) (by decide) k_) ?_
                  exact own_retN Xc586 hx hlk (t := .boolean) Bd.returns (by simp) (hb hby at_545) (by rw [e588]; exact ⟨rfl, N589⟩) (by decide) (by decide)
                · refine own_step (T' := Tc586) (g' := (mkF m 466 #[.val (.int k0), .val (.int m1), .val (.long x1), .second, .val (.long x2), .second, .val (.int n), .val (.ref a9), .val (.ref a210), .val (.int (own_paper v514 v516 v518)), .val (.int v537), .unset] [])) (fun t_ k_ => XS.ifNo Xc586.here hx rfl (hb hby at_463) rfl (XT.i0_eq_f hb590) k_) ?_
                  refine own_step (T' := Tc586) (g' := (mkF m 468 #[.val (.int k0), .val (.int m1), .val (.long x1), .second, .val (.long x2), .second, .val (.int n), .val (.ref a9), .val (.ref a210), .val (.int (own_paper v514 v516 v518)), .val (.int v537), .unset] [(.int (7 : Int32))])) (fun t_ k_ => XT.bipushV Xc586.here hx rfl (7 : Int32) (hb hby at_466) (by decide) k_) ?_
                  refine own_step (T' := Tc586) (g' := (mkF m 470 #[.val (.int k0), .val (.int m1), .val (.long x1), .second, .val (.long x2), .second, .val (.int n), .val (.ref a9), .val (.ref a210), .val (.int (own_paper v514 v516 v518)), .val (.int v537), .unset] [(.ref a9), (.int (7 : Int32))])) (fun t_ k_ => XS.aload Xc586.here hx rfl (hb hby at_468) rfl rfl k_) ?_
                  refine own_step (T' := Tc586) (g' := (mkF m 472 #[.val (.int k0), .val (.int m1), .val (.long x1), .second, .val (.long x2), .second, .val (.int n), .val (.ref a9), .val (.ref a210), .val (.int (own_paper v514 v516 v518)), .val (.int v537), .unset] [(.int (7 : Int32)), (.ref a9), (.int (7 : Int32))])) (fun t_ k_ => XT.bipushV Xc586.here hx rfl (7 : Int32) (hb hby at_470) (by decide) k_) ?_
                  have st592 := own_caload (g := (mkF m 472 #[.val (.int k0), .val (.int m1), .val (.long x1), .second, .val (.long x2), .second, .val (.int n), .val (.ref a9), .val (.ref a210), .val (.int (own_paper v514 v516 v518)), .val (.int v537), .unset] [(.int (7 : Int32)), (.ref a9), (.int (7 : Int32))])) Xc586 hx hZ e588 F512 (v := (.int c7)) (by decide) (own_ix (k := 7) (by decide) rfl) rfl rfl (hb hby at_472)
                  refine own_step (T' := Tc586) (g' := (mkF m 473 #[.val (.int k0), .val (.int m1), .val (.long x1), .second, .val (.long x2), .second, .val (.int n), .val (.ref a9), .val (.ref a210), .val (.int (own_paper v514 v516 v518)), .val (.int v537), .unset] [(.int c7), (.int (7 : Int32))])) st592 ?_
                  refine own_step (T' := Tc586) (g' := (mkF m 475 #[.val (.int k0), .val (.int m1), .val (.long x1), .second, .val (.long x2), .second, .val (.int n), .val (.ref a9), .val (.ref a210), .val (.int (own_paper v514 v516 v518)), .val (.int v537), .unset] [(.int n), (.int c7), (.int (7 : Int32))])) (fun t_ k_ => XS.iload Xc586.here hx rfl (hb hby at_473) rfl k_) ?_
                  obtain ⟨_, _, ⟨Tc593, Lc593, kc593, nc593⟩, -, Xc593, ⟨Lcc593, hQc593, lc593, yc593, zc593⟩, stc593⟩ := Jvm.LawKit.callS Xc586 hx (y := (⟨"com/example/llogari/llogari/rules/WrittenFormIsPaperPinLaw", "fits", "(ICI)Z"⟩ : MethodName)) hown (mvT hZ (hw _ (List.mem_of_getElem? (i := 37) rfl))) (mvT hZ (hw _ (List.mem_of_getElem? (i := 38) rfl))) (mvT hZ (hw _ (List.mem_of_getElem? (i := 4) rfl))) (mvT hZ (hw _ (List.mem_of_getElem? (i := 39) rfl))) (by decide) (backOf (W := 0) (rm_fits l Z a0 hw [] (7 : Int32) c7 n h506 n0 F511) hZ (hw _ (List.mem_of_getElem? (i := 39) rfl)) (hw _ (List.mem_of_getElem? (i := 4) rfl)) (by decide) (by decide)) (g := (mkF m 475 #[.val (.int k0), .val (.int m1), .val (.long x1), .second, .val (.long x2), .second, .val (.int n), .val (.ref a9), .val (.ref a210), .val (.int (own_paper v514 v516 v518)), .val (.int v537), .unset] [(.int n), (.int c7), (.int (7 : Int32))])) rfl (by rw [hml]; rfl) (argsL := [(.int (7 : Int32)), (.int c7), (.int n)]) (rest := []) (lenOf pd_5 rfl) rfl (by show 2 * 0 + _ ≤ _; exact Nat.le_of_eq rfl) (hb hby at_475) (fun _ _ => ⟨rfl, e588, (by decide : 2 + 0 ≤ _), (by decide : 14 + 0 ≤ _)⟩)
                  dsimp only [Pt.U, Pt.locs, Pt.cells, Pt.slots] at Xc593 lc593 yc593 zc593 stc593 hQc593
                  subst lc593 yc593 zc593
                  obtain ⟨rfl, N594, e595⟩ := hQc593
                  have N596 := Fr.app N589 N594
                  refine own_step (T' := Tc593) (g' := (mkF m 478 #[.val (.int k0), .val (.int m1), .val (.long x1), .second, .val (.long x2), .second, .val (.int n), .val (.ref a9), .val (.ref a210), .val (.int (own_paper v514 v516 v518)), .val (.int v537), .unset] [(.int (own_fits (7 : Int32) c7 n))])) stc593 ?_
                  by_cases hb597 : (own_fits (7 : Int32) c7 n) = 0
                  · refine own_step (T' := Tc593) (g' := (mkF m 530 #[.val (.int k0), .val (.int m1), .val (.long x1), .second, .val (.long x2), .second, .val (.int n), .val (.ref a9), .val (.ref a210), .val (.int (own_paper v514 v516 v518)), .val (.int v537), .unset] [])) (fun t_ k_ => XS.ifYes Xc593.here hx rfl (pc0 := 478) (pc' := 530) rfl (hb hby at_478) rfl (XT.i0_eq_t hb597) (by decide) (by decide) k_) ?_
                    refine own_step (T' := Tc593) (g' := (mkF m 531 #[.val (.int k0), .val (.int m1), .val (.long x1), .second, .val (.long x2), .second, .val (.int n), .val (.ref a9), .val (.ref a210), .val (.int (own_paper v514 v516 v518)), .val (.int v537), .unset] [(.int (0 : Int32))])) (fun t_ k_ => XT.iconstV Xc593.here hx rfl (0 : Int32) (hb hby at_530) (by decide) k_) ?_
                    refine own_step (T' := Tc593) (g' := (mkF m 533 #[.val (.int k0), .val (.int m1), .val (.long x1), .second, .val (.long x2), .second, .val (.int n), .val (.ref a9), .val (.ref a210), .val (.int (own_paper v514 v516 v518)), .val (.int v537), .val (.int (0 : Int32))] [])) (fun t_ k_ => XS.istore Xc593.here hx rfl (hb hby at_531) rfl (l' := #[.val (.int k0), .val (.int m1), .val (.long x1), .second, .val (.long x2), .second, .val (.int n), .val (.ref a9), .val (.ref a210), .val (.int (own_paper v514 v516 v518)), .val (.int v537), .val (.int (0 : Int32))]) rfl k_) ?_
                    refine own_step (T' := Tc593) (g' := (mkF m 535 #[.val (.int k0), .val (.int m1), .val (.long x1), .second, .val (.long x2), .second, .val (.int n), .val (.ref a9), .val (.ref a210), .val (.int (own_paper v514 v516 v518)), .val (.int v537), .val (.int (0 : Int32))] [(.int (own_paper v514 v516 v518))])) (fun t_ k_ => XS.iload Xc593.here hx rfl (hb hby at_533) rfl k_) ?_
                    refine own_step (T' := Tc593) (g' := (mkF m 537 #[.val (.int k0), .val (.int m1), .val (.long x1), .second, .val (.long x2), .second, .val (.int n), .val (.ref a9), .val (.ref a210), .val (.int (own_paper v514 v516 v518)), .val (.int v537), .val (.int (0 : Int32))] [(.int (0 : Int32)), (.int (own_paper v514 v516 v518))])) (fun t_ k_ => XS.iload Xc593.here hx rfl (hb hby at_535) rfl k_) ?_
                    have hk598 : (own_paper v514 v516 v518) = (0 : Int32) := hE.trans (by rw [if_neg hb541, if_neg hb548, if_neg hb555, if_neg hb562, if_neg hb569, if_neg hb576, if_neg hb583, if_neg hb590, if_pos hb597])
                    refine own_step (T' := Tc593) (g' := (mkF m 540 #[.val (.int k0), .val (.int m1), .val (.long x1), .second, .val (.long x2), .second, .val (.int n), .val (.ref a9), .val (.ref a210), .val (.int (own_paper v514 v516 v518)), .val (.int v537), .val (.int (0 : Int32))] [])) (fun t_ k_ => XS.icmpNo Xc593.here hx rfl (hb hby at_537) rfl (XT.ii_ne_f hk598) k_) ?_
                    refine own_step (T' := Tc593) (g' := (mkF m 541 #[.val (.int k0), .val (.int m1), .val (.long x1), .second, .val (.long x2), .second, .val (.int n), .val (.ref a9), .val (.ref a210), .val (.int (own_paper v514 v516 v518)), .val (.int v537), .val (.int (0 : Int32))] [(.int (1 : Int32))])) (fun t_ k_ => XT.iconstV Xc593.here hx rfl (1 : Int32) (hb hby at_540) (by decide) k_) ?_
                    refine own_step (T' := Tc593) (g' := (mkF m 545 #[.val (.int k0), .val (.int m1), .val (.long x1), .second, .val (.long x2), .second, .val (.int n), .val (.ref a9), .val (.ref a210), .val (.int (own_paper v514 v516 v518)), .val (.int v537), .val (.int (0 : Int32))] [(.int (1 : Int32))])) (fun t_ k_ => XS.goto Xc593.here hx rfl (pc0 := 541) (pc' := 545) rfl (hb hby at_541) (by decide) (by decide) k_) ?_
                    exact own_retN Xc593 hx hlk (t := .boolean) Bd.returns (by simp) (hb hby at_545) (by rw [e595]; exact ⟨rfl, N596⟩) (by decide) (by decide)
                  · refine own_step (T' := Tc593) (g' := (mkF m 481 #[.val (.int k0), .val (.int m1), .val (.long x1), .second, .val (.long x2), .second, .val (.int n), .val (.ref a9), .val (.ref a210), .val (.int (own_paper v514 v516 v518)), .val (.int v537), .unset] [])) (fun t_ k_ => XS.ifNo Xc593.here hx rfl (hb hby at_478) rfl (XT.i0_eq_f hb597) k_) ?_
                    refine own_step (T' := Tc593) (g' := (mkF m 483 #[.val (.int k0), .val (.int m1), .val (.long x1), .second, .val (.long x2), .second, .val (.int n), .val (.ref a9), .val (.ref a210), .val (.int (own_paper v514 v516 v518)), .val (.int v537), .unset] [(.int (8 : Int32))])) (fun t_ k_ => XT.bipushV Xc593.here hx rfl (8 : Int32) (hb hby at_481) (by decide) k_) ?_
                    refine own_step (T' := Tc593) (g' := (mkF m 485 #[.val (.int k0), .val (.int m1), .val (.long x1), .second, .val (.long x2), .second, .val (.int n), .val (.ref a9), .val (.ref a210), .val (.int (own_paper v514 v516 v518)), .val (.int v537), .unset] [(.ref a9), (.int (8 : Int32))])) (fun t_ k_ => XS.aload Xc593.here hx rfl (hb hby at_483) rfl rfl k_) ?_
                    refine own_step (T' := Tc593) (g' := (mkF m 487 #[.val (.int k0), .val (.int m1), .val (.long x1), .second, .val (.long x2), .second, .val (.int n), .val (.ref a9), .val (.ref a210), .val (.int (own_paper v514 v516 v518)), .val (.int v537), .unset] [(.int (8 : Int32)), (.ref a9), (.int (8 : Int32))])) (fun t_ k_ => XT.bipushV Xc593.here hx rfl (8 : Int32) (hb hby at_485) (by decide) k_) ?_
                    have st599 := own_caload (g := (mkF m 487 #[.val (.int k0), .val (.int m1), .val (.long x1), .second, .val (.long x2), .second, .val (.int n), .val (.ref a9), .val (.ref a210), .val (.int (own_paper v514 v516 v518)), .val (.int v537), .unset] [(.int (8 : Int32)), (.ref a9), (.int (8 : Int32))])) Xc593 hx hZ e595 F512 (v := (.int c8)) (by decide) (own_ix (k := 8) (by decide) rfl) rfl rfl (hb hby at_487)
                    refine own_step (T' := Tc593) (g' := (mkF m 488 #[.val (.int k0), .val (.int m1), .val (.long x1), .second, .val (.long x2), .second, .val (.int n), .val (.ref a9), .val (.ref a210), .val (.int (own_paper v514 v516 v518)), .val (.int v537), .unset] [(.int c8), (.int (8 : Int32))])) st599 ?_
                    refine own_step (T' := Tc593) (g' := (mkF m 490 #[.val (.int k0), .val (.int m1), .val (.long x1), .second, .val (.long x2), .second, .val (.int n), .val (.ref a9), .val (.ref a210), .val (.int (own_paper v514 v516 v518)), .val (.int v537), .unset] [(.int n), (.int c8), (.int (8 : Int32))])) (fun t_ k_ => XS.iload Xc593.here hx rfl (hb hby at_488) rfl k_) ?_
                    obtain ⟨_, _, ⟨Tc600, Lc600, kc600, nc600⟩, -, Xc600, ⟨Lcc600, hQc600, lc600, yc600, zc600⟩, stc600⟩ := Jvm.LawKit.callS Xc593 hx (y := (⟨"com/example/llogari/llogari/rules/WrittenFormIsPaperPinLaw", "fits", "(ICI)Z"⟩ : MethodName)) hown (mvT hZ (hw _ (List.mem_of_getElem? (i := 37) rfl))) (mvT hZ (hw _ (List.mem_of_getElem? (i := 38) rfl))) (mvT hZ (hw _ (List.mem_of_getElem? (i := 4) rfl))) (mvT hZ (hw _ (List.mem_of_getElem? (i := 39) rfl))) (by decide) (backOf (W := 0) (rm_fits l Z a0 hw [] (8 : Int32) c8 n h506 n0 F511) hZ (hw _ (List.mem_of_getElem? (i := 39) rfl)) (hw _ (List.mem_of_getElem? (i := 4) rfl)) (by decide) (by decide)) (g := (mkF m 490 #[.val (.int k0), .val (.int m1), .val (.long x1), .second, .val (.long x2), .second, .val (.int n), .val (.ref a9), .val (.ref a210), .val (.int (own_paper v514 v516 v518)), .val (.int v537), .unset] [(.int n), (.int c8), (.int (8 : Int32))])) rfl (by rw [hml]; rfl) (argsL := [(.int (8 : Int32)), (.int c8), (.int n)]) (rest := []) (lenOf pd_5 rfl) rfl (by show 2 * 0 + _ ≤ _; exact Nat.le_of_eq rfl) (hb hby at_490) (fun _ _ => ⟨rfl, e595, (by decide : 2 + 0 ≤ _), (by decide : 14 + 0 ≤ _)⟩)
                    dsimp only [Pt.U, Pt.locs, Pt.cells, Pt.slots] at Xc600 lc600 yc600 zc600 stc600 hQc600
                    subst lc600 yc600 zc600
                    obtain ⟨rfl, N601, e602⟩ := hQc600
                    have N603 := Fr.app N596 N601
                    refine own_step (T' := Tc600) (g' := (mkF m 493 #[.val (.int k0), .val (.int m1), .val (.long x1), .second, .val (.long x2), .second, .val (.int n), .val (.ref a9), .val (.ref a210), .val (.int (own_paper v514 v516 v518)), .val (.int v537), .unset] [(.int (own_fits (8 : Int32) c8 n))])) stc600 ?_
                    by_cases hb604 : (own_fits (8 : Int32) c8 n) = 0
                    · refine own_step (T' := Tc600) (g' := (mkF m 530 #[.val (.int k0), .val (.int m1), .val (.long x1), .second, .val (.long x2), .second, .val (.int n), .val (.ref a9), .val (.ref a210), .val (.int (own_paper v514 v516 v518)), .val (.int v537), .unset] [])) (fun t_ k_ => XS.ifYes Xc600.here hx rfl (pc0 := 493) (pc' := 530) rfl (hb hby at_493) rfl (XT.i0_eq_t hb604) (by decide) (by decide) k_) ?_
                      refine own_step (T' := Tc600) (g' := (mkF m 531 #[.val (.int k0), .val (.int m1), .val (.long x1), .second, .val (.long x2), .second, .val (.int n), .val (.ref a9), .val (.ref a210), .val (.int (own_paper v514 v516 v518)), .val (.int v537), .unset] [(.int (0 : Int32))])) (fun t_ k_ => XT.iconstV Xc600.here hx rfl (0 : Int32) (hb hby at_530) (by decide) k_) ?_
                      refine own_step (T' := Tc600) (g' := (mkF m 533 #[.val (.int k0), .val (.int m1), .val (.long x1), .second, .val (.long x2), .second, .val (.int n), .val (.ref a9), .val (.ref a210), .val (.int (own_paper v514 v516 v518)), .val (.int v537), .val (.int (0 : Int32))] [])) (fun t_ k_ => XS.istore Xc600.here hx rfl (hb hby at_531) rfl (l' := #[.val (.int k0), .val (.int m1), .val (.long x1), .second, .val (.long x2), .second, .val (.int n), .val (.ref a9), .val (.ref a210), .val (.int (own_paper v514 v516 v518)), .val (.int v537), .val (.int (0 : Int32))]) rfl k_) ?_
                      refine own_step (T' := Tc600) (g' := (mkF m 535 #[.val (.int k0), .val (.int m1), .val (.long x1), .second, .val (.long x2), .second, .val (.int n), .val (.ref a9), .val (.ref a210), .val (.int (own_paper v514 v516 v518)), .val (.int v537), .val (.int (0 : Int32))] [(.int (own_paper v514 v516 v518))])) (fun t_ k_ => XS.iload Xc600.here hx rfl (hb hby at_533) rfl k_) ?_
                      refine own_step (T' := Tc600) (g' := (mkF m 537 #[.val (.int k0), .val (.int m1), .val (.long x1), .second, .val (.long x2), .second, .val (.int n), .val (.ref a9), .val (.ref a210), .val (.int (own_paper v514 v516 v518)), .val (.int v537), .val (.int (0 : Int32))] [(.int (0 : Int32)), (.int (own_paper v514 v516 v518))])) (fun t_ k_ => XS.iload Xc600.here hx rfl (hb hby at_535) rfl k_) ?_
                      have hk605 : (own_paper v514 v516 v518) = (0 : Int32) := hE.trans (by rw [if_neg hb541, if_neg hb548, if_neg hb555, if_neg hb562, if_neg hb569, if_neg hb576, if_neg hb583, if_neg hb590, if_neg hb597, if_pos hb604])
                      refine own_step (T' := Tc600) (g' := (mkF m 540 #[.val (.int k0), .val (.int m1), .val (.long x1), .second, .val (.long x2), .second, .val (.int n), .val (.ref a9), .val (.ref a210), .val (.int (own_paper v514 v516 v518)), .val (.int v537), .val (.int (0 : Int32))] [])) (fun t_ k_ => XS.icmpNo Xc600.here hx rfl (hb hby at_537) rfl (XT.ii_ne_f hk605) k_) ?_
                      refine own_step (T' := Tc600) (g' := (mkF m 541 #[.val (.int k0), .val (.int m1), .val (.long x1), .second, .val (.long x2), .second, .val (.int n), .val (.ref a9), .val (.ref a210), .val (.int (own_paper v514 v516 v518)), .val (.int v537), .val (.int (0 : Int32))] [(.int (1 : Int32))])) (fun t_ k_ => XT.iconstV Xc600.here hx rfl (1 : Int32) (hb hby at_540) (by decide) k_) ?_
                      refine own_step (T' := Tc600) (g' := (mkF m 545 #[.val (.int k0), .val (.int m1), .val (.long x1), .second, .val (.long x2), .second, .val (.int n), .val (.ref a9), .val (.ref a210), .val (.int (own_paper v514 v516 v518)), .val (.int v537), .val (.int (0 : Int32))] [(.int (1 : Int32))])) (fun t_ k_ => XS.goto Xc600.here hx rfl (pc0 := 541) (pc' := 545) rfl (hb hby at_541) (by decide) (by decide) k_) ?_
                      exact own_retN Xc600 hx hlk (t := .boolean) Bd.returns (by simp) (hb hby at_545) (by rw [e602]; exact ⟨rfl, N603⟩) (by decide) (by decide)
                    · refine own_step (T' := Tc600) (g' := (mkF m 496 #[.val (.int k0), .val (.int m1), .val (.long x1), .second, .val (.long x2), .second, .val (.int n), .val (.ref a9), .val (.ref a210), .val (.int (own_paper v514 v516 v518)), .val (.int v537), .unset] [])) (fun t_ k_ => XS.ifNo Xc600.here hx rfl (hb hby at_493) rfl (XT.i0_eq_f hb604) k_) ?_
                      refine own_step (T' := Tc600) (g' := (mkF m 498 #[.val (.int k0), .val (.int m1), .val (.long x1), .second, .val (.long x2), .second, .val (.int n), .val (.ref a9), .val (.ref a210), .val (.int (own_paper v514 v516 v518)), .val (.int v537), .unset] [(.int (9 : Int32))])) (fun t_ k_ => XT.bipushV Xc600.here hx rfl (9 : Int32) (hb hby at_496) (by decide) k_) ?_
                      refine own_step (T' := Tc600) (g' := (mkF m 500 #[.val (.int k0), .val (.int m1), .val (.long x1), .second, .val (.long x2), .second, .val (.int n), .val (.ref a9), .val (.ref a210), .val (.int (own_paper v514 v516 v518)), .val (.int v537), .unset] [(.ref a9), (.int (9 : Int32))])) (fun t_ k_ => XS.aload Xc600.here hx rfl (hb hby at_498) rfl rfl k_) ?_
                      refine own_step (T' := Tc600) (g' := (mkF m 502 #[.val (.int k0), .val (.int m1), .val (.long x1), .second, .val (.long x2), .second, .val (.int n), .val (.ref a9), .val (.ref a210), .val (.int (own_paper v514 v516 v518)), .val (.int v537), .unset] [(.int (9 : Int32)), (.ref a9), (.int (9 : Int32))])) (fun t_ k_ => XT.bipushV Xc600.here hx rfl (9 : Int32) (hb hby at_500) (by decide) k_) ?_
                      have st606 := own_caload (g := (mkF m 502 #[.val (.int k0), .val (.int m1), .val (.long x1), .second, .val (.long x2), .second, .val (.int n), .val (.ref a9), .val (.ref a210), .val (.int (own_paper v514 v516 v518)), .val (.int v537), .unset] [(.int (9 : Int32)), (.ref a9), (.int (9 : Int32))])) Xc600 hx hZ e602 F512 (v := (.int c9)) (by decide) (own_ix (k := 9) (by decide) rfl) rfl rfl (hb hby at_502)
                      refine own_step (T' := Tc600) (g' := (mkF m 503 #[.val (.int k0), .val (.int m1), .val (.long x1), .second, .val (.long x2), .second, .val (.int n), .val (.ref a9), .val (.ref a210), .val (.int (own_paper v514 v516 v518)), .val (.int v537), .unset] [(.int c9), (.int (9 : Int32))])) st606 ?_
                      refine own_step (T' := Tc600) (g' := (mkF m 505 #[.val (.int k0), .val (.int m1), .val (.long x1), .second, .val (.long x2), .second, .val (.int n), .val (.ref a9), .val (.ref a210), .val (.int (own_paper v514 v516 v518)), .val (.int v537), .unset] [(.int n), (.int c9), (.int (9 : Int32))])) (fun t_ k_ => XS.iload Xc600.here hx rfl (hb hby at_503) rfl k_) ?_
                      obtain ⟨_, _, ⟨Tc607, Lc607, kc607, nc607⟩, -, Xc607, ⟨Lcc607, hQc607, lc607, yc607, zc607⟩, stc607⟩ := Jvm.LawKit.callS Xc600 hx (y := (⟨"com/example/llogari/llogari/rules/WrittenFormIsPaperPinLaw", "fits", "(ICI)Z"⟩ : MethodName)) hown (mvT hZ (hw _ (List.mem_of_getElem? (i := 37) rfl))) (mvT hZ (hw _ (List.mem_of_getElem? (i := 38) rfl))) (mvT hZ (hw _ (List.mem_of_getElem? (i := 4) rfl))) (mvT hZ (hw _ (List.mem_of_getElem? (i := 39) rfl))) (by decide) (backOf (W := 0) (rm_fits l Z a0 hw [] (9 : Int32) c9 n h506 n0 F511) hZ (hw _ (List.mem_of_getElem? (i := 39) rfl)) (hw _ (List.mem_of_getElem? (i := 4) rfl)) (by decide) (by decide)) (g := (mkF m 505 #[.val (.int k0), .val (.int m1), .val (.long x1), .second, .val (.long x2), .second, .val (.int n), .val (.ref a9), .val (.ref a210), .val (.int (own_paper v514 v516 v518)), .val (.int v537), .unset] [(.int n), (.int c9), (.int (9 : Int32))])) rfl (by rw [hml]; rfl) (argsL := [(.int (9 : Int32)), (.int c9), (.int n)]) (rest := []) (lenOf pd_5 rfl) rfl (by show 2 * 0 + _ ≤ _; exact Nat.le_of_eq rfl) (hb hby at_505) (fun _ _ => ⟨rfl, e602, (by decide : 2 + 0 ≤ _), (by decide : 14 + 0 ≤ _)⟩)
                      dsimp only [Pt.U, Pt.locs, Pt.cells, Pt.slots] at Xc607 lc607 yc607 zc607 stc607 hQc607
                      subst lc607 yc607 zc607
                      obtain ⟨rfl, N608, e609⟩ := hQc607
                      have N610 := Fr.app N603 N608
                      refine own_step (T' := Tc607) (g' := (mkF m 508 #[.val (.int k0), .val (.int m1), .val (.long x1), .second, .val (.long x2), .second, .val (.int n), .val (.ref a9), .val (.ref a210), .val (.int (own_paper v514 v516 v518)), .val (.int v537), .unset] [(.int (own_fits (9 : Int32) c9 n))])) stc607 ?_
                      by_cases hb611 : (own_fits (9 : Int32) c9 n) = 0
                      · refine own_step (T' := Tc607) (g' := (mkF m 530 #[.val (.int k0), .val (.int m1), .val (.long x1), .second, .val (.long x2), .second, .val (.int n), .val (.ref a9), .val (.ref a210), .val (.int (own_paper v514 v516 v518)), .val (.int v537), .unset] [])) (fun t_ k_ => XS.ifYes Xc607.here hx rfl (pc0 := 508) (pc' := 530) rfl (hb hby at_508) rfl (XT.i0_eq_t hb611) (by decide) (by decide) k_) ?_
                        refine own_step (T' := Tc607) (g' := (mkF m 531 #[.val (.int k0), .val (.int m1), .val (.long x1), .second, .val (.long x2), .second, .val (.int n), .val (.ref a9), .val (.ref a210), .val (.int (own_paper v514 v516 v518)), .val (.int v537), .unset] [(.int (0 : Int32))])) (fun t_ k_ => XT.iconstV Xc607.here hx rfl (0 : Int32) (hb hby at_530) (by decide) k_) ?_
                        refine own_step (T' := Tc607) (g' := (mkF m 533 #[.val (.int k0), .val (.int m1), .val (.long x1), .second, .val (.long x2), .second, .val (.int n), .val (.ref a9), .val (.ref a210), .val (.int (own_paper v514 v516 v518)), .val (.int v537), .val (.int (0 : Int32))] [])) (fun t_ k_ => XS.istore Xc607.here hx rfl (hb hby at_531) rfl (l' := #[.val (.int k0), .val (.int m1), .val (.long x1), .second, .val (.long x2), .second, .val (.int n), .val (.ref a9), .val (.ref a210), .val (.int (own_paper v514 v516 v518)), .val (.int v537), .val (.int (0 : Int32))]) rfl k_) ?_
                        refine own_step (T' := Tc607) (g' := (mkF m 535 #[.val (.int k0), .val (.int m1), .val (.long x1), .second, .val (.long x2), .second, .val (.int n), .val (.ref a9), .val (.ref a210), .val (.int (own_paper v514 v516 v518)), .val (.int v537), .val (.int (0 : Int32))] [(.int (own_paper v514 v516 v518))])) (fun t_ k_ => XS.iload Xc607.here hx rfl (hb hby at_533) rfl k_) ?_
                        refine own_step (T' := Tc607) (g' := (mkF m 537 #[.val (.int k0), .val (.int m1), .val (.long x1), .second, .val (.long x2), .second, .val (.int n), .val (.ref a9), .val (.ref a210), .val (.int (own_paper v514 v516 v518)), .val (.int v537), .val (.int (0 : Int32))] [(.int (0 : Int32)), (.int (own_paper v514 v516 v518))])) (fun t_ k_ => XS.iload Xc607.here hx rfl (hb hby at_535) rfl k_) ?_
                        have hk612 : (own_paper v514 v516 v518) = (0 : Int32) := hE.trans (by rw [if_neg hb541, if_neg hb548, if_neg hb555, if_neg hb562, if_neg hb569, if_neg hb576, if_neg hb583, if_neg hb590, if_neg hb597, if_neg hb604, if_pos hb611])
                        refine own_step (T' := Tc607) (g' := (mkF m 540 #[.val (.int k0), .val (.int m1), .val (.long x1), .second, .val (.long x2), .second, .val (.int n), .val (.ref a9), .val (.ref a210), .val (.int (own_paper v514 v516 v518)), .val (.int v537), .val (.int (0 : Int32))] [])) (fun t_ k_ => XS.icmpNo Xc607.here hx rfl (hb hby at_537) rfl (XT.ii_ne_f hk612) k_) ?_
                        refine own_step (T' := Tc607) (g' := (mkF m 541 #[.val (.int k0), .val (.int m1), .val (.long x1), .second, .val (.long x2), .second, .val (.int n), .val (.ref a9), .val (.ref a210), .val (.int (own_paper v514 v516 v518)), .val (.int v537), .val (.int (0 : Int32))] [(.int (1 : Int32))])) (fun t_ k_ => XT.iconstV Xc607.here hx rfl (1 : Int32) (hb hby at_540) (by decide) k_) ?_
                        refine own_step (T' := Tc607) (g' := (mkF m 545 #[.val (.int k0), .val (.int m1), .val (.long x1), .second, .val (.long x2), .second, .val (.int n), .val (.ref a9), .val (.ref a210), .val (.int (own_paper v514 v516 v518)), .val (.int v537), .val (.int (0 : Int32))] [(.int (1 : Int32))])) (fun t_ k_ => XS.goto Xc607.here hx rfl (pc0 := 541) (pc' := 545) rfl (hb hby at_541) (by decide) (by decide) k_) ?_
                        exact own_retN Xc607 hx hlk (t := .boolean) Bd.returns (by simp) (hb hby at_545) (by rw [e609]; exact ⟨rfl, N610⟩) (by decide) (by decide)
                      · refine own_step (T' := Tc607) (g' := (mkF m 511 #[.val (.int k0), .val (.int m1), .val (.long x1), .second, .val (.long x2), .second, .val (.int n), .val (.ref a9), .val (.ref a210), .val (.int (own_paper v514 v516 v518)), .val (.int v537), .unset] [])) (fun t_ k_ => XS.ifNo Xc607.here hx rfl (hb hby at_508) rfl (XT.i0_eq_f hb611) k_) ?_
                        refine own_step (T' := Tc607) (g' := (mkF m 513 #[.val (.int k0), .val (.int m1), .val (.long x1), .second, .val (.long x2), .second, .val (.int n), .val (.ref a9), .val (.ref a210), .val (.int (own_paper v514 v516 v518)), .val (.int v537), .unset] [(.int (10 : Int32))])) (fun t_ k_ => XT.bipushV Xc607.here hx rfl (10 : Int32) (hb hby at_511) (by decide) k_) ?_
                        refine own_step (T' := Tc607) (g' := (mkF m 515 #[.val (.int k0), .val (.int m1), .val (.long x1), .second, .val (.long x2), .second, .val (.int n), .val (.ref a9), .val (.ref a210), .val (.int (own_paper v514 v516 v518)), .val (.int v537), .unset] [(.ref a9), (.int (10 : Int32))])) (fun t_ k_ => XS.aload Xc607.here hx rfl (hb hby at_513) rfl rfl k_) ?_
                        refine own_step (T' := Tc607) (g' := (mkF m 517 #[.val (.int k0), .val (.int m1), .val (.long x1), .second, .val (.long x2), .second, .val (.int n), .val (.ref a9), .val (.ref a210), .val (.int (own_paper v514 v516 v518)), .val (.int v537), .unset] [(.int (10 : Int32)), (.ref a9), (.int (10 : Int32))])) (fun t_ k_ => XT.bipushV Xc607.here hx rfl (10 : Int32) (hb hby at_515) (by decide) k_) ?_
                        have st613 := own_caload (g := (mkF m 517 #[.val (.int k0), .val (.int m1), .val (.long x1), .second, .val (.long x2), .second, .val (.int n), .val (.ref a9), .val (.ref a210), .val (.int (own_paper v514 v516 v518)), .val (.int v537), .unset] [(.int (10 : Int32)), (.ref a9), (.int (10 : Int32))])) Xc607 hx hZ e609 F512 (v := (.int c10)) (by decide) (own_ix (k := 10) (by decide) rfl) rfl rfl (hb hby at_517)
                        refine own_step (T' := Tc607) (g' := (mkF m 518 #[.val (.int k0), .val (.int m1), .val (.long x1), .second, .val (.long x2), .second, .val (.int n), .val (.ref a9), .val (.ref a210), .val (.int (own_paper v514 v516 v518)), .val (.int v537), .unset] [(.int c10), (.int (10 : Int32))])) st613 ?_
                        refine own_step (T' := Tc607) (g' := (mkF m 520 #[.val (.int k0), .val (.int m1), .val (.long x1), .second, .val (.long x2), .second, .val (.int n), .val (.ref a9), .val (.ref a210), .val (.int (own_paper v514 v516 v518)), .val (.int v537), .unset] [(.int n), (.int c10), (.int (10 : Int32))])) (fun t_ k_ => XS.iload Xc607.here hx rfl (hb hby at_518) rfl k_) ?_
                        obtain ⟨_, _, ⟨Tc614, Lc614, kc614, nc614⟩, -, Xc614, ⟨Lcc614, hQc614, lc614, yc614, zc614⟩, stc614⟩ := Jvm.LawKit.callS Xc607 hx (y := (⟨"com/example/llogari/llogari/rules/WrittenFormIsPaperPinLaw", "fits", "(ICI)Z"⟩ : MethodName)) hown (mvT hZ (hw _ (List.mem_of_getElem? (i := 37) rfl))) (mvT hZ (hw _ (List.mem_of_getElem? (i := 38) rfl))) (mvT hZ (hw _ (List.mem_of_getElem? (i := 4) rfl))) (mvT hZ (hw _ (List.mem_of_getElem? (i := 39) rfl))) (by decide) (backOf (W := 0) (rm_fits l Z a0 hw [] (10 : Int32) c10 n h506 n0 F511) hZ (hw _ (List.mem_of_getElem? (i := 39) rfl)) (hw _ (List.mem_of_getElem? (i := 4) rfl)) (by decide) (by decide)) (g := (mkF m 520 #[.val (.int k0), .val (.int m1), .val (.long x1), .second, .val (.long x2), .second, .val (.int n), .val (.ref a9), .val (.ref a210), .val (.int (own_paper v514 v516 v518)), .val (.int v537), .unset] [(.int n), (.int c10), (.int (10 : Int32))])) rfl (by rw [hml]; rfl) (argsL := [(.int (10 : Int32)), (.int c10), (.int n)]) (rest := []) (lenOf pd_5 rfl) rfl (by show 2 * 0 + _ ≤ _; exact Nat.le_of_eq rfl) (hb hby at_520) (fun _ _ => ⟨rfl, e609, (by decide : 2 + 0 ≤ _), (by decide : 14 + 0 ≤ _)⟩)
                        dsimp only [Pt.U, Pt.locs, Pt.cells, Pt.slots] at Xc614 lc614 yc614 zc614 stc614 hQc614
                        subst lc614 yc614 zc614
                        obtain ⟨rfl, N615, e616⟩ := hQc614
                        have N617 := Fr.app N610 N615
                        refine own_step (T' := Tc614) (g' := (mkF m 523 #[.val (.int k0), .val (.int m1), .val (.long x1), .second, .val (.long x2), .second, .val (.int n), .val (.ref a9), .val (.ref a210), .val (.int (own_paper v514 v516 v518)), .val (.int v537), .unset] [(.int (own_fits (10 : Int32) c10 n))])) stc614 ?_
                        by_cases hb618 : (own_fits (10 : Int32) c10 n) = 0
                        · refine own_step (T' := Tc614) (g' := (mkF m 530 #[.val (.int k0), .val (.int m1), .val (.long x1), .second, .val (.long x2), .second, .val (.int n), .val (.ref a9), .val (.ref a210), .val (.int (own_paper v514 v516 v518)), .val (.int v537), .unset] [])) (fun t_ k_ => XS.ifYes Xc614.here hx rfl (pc0 := 523) (pc' := 530) rfl (hb hby at_523) rfl (XT.i0_eq_t hb618) (by decide) (by decide) k_) ?_
                          refine own_step (T' := Tc614) (g' := (mkF m 531 #[.val (.int k0), .val (.int m1), .val (.long x1), .second, .val (.long x2), .second, .val (.int n), .val (.ref a9), .val (.ref a210), .val (.int (own_paper v514 v516 v518)), .val (.int v537), .unset] [(.int (0 : Int32))])) (fun t_ k_ => XT.iconstV Xc614.here hx rfl (0 : Int32) (hb hby at_530) (by decide) k_) ?_
                          refine own_step (T' := Tc614) (g' := (mkF m 533 #[.val (.int k0), .val (.int m1), .val (.long x1), .second, .val (.long x2), .second, .val (.int n), .val (.ref a9), .val (.ref a210), .val (.int (own_paper v514 v516 v518)), .val (.int v537), .val (.int (0 : Int32))] [])) (fun t_ k_ => XS.istore Xc614.here hx rfl (hb hby at_531) rfl (l' := #[.val (.int k0), .val (.int m1), .val (.long x1), .second, .val (.long x2), .second, .val (.int n), .val (.ref a9), .val (.ref a210), .val (.int (own_paper v514 v516 v518)), .val (.int v537), .val (.int (0 : Int32))]) rfl k_) ?_
                          refine own_step (T' := Tc614) (g' := (mkF m 535 #[.val (.int k0), .val (.int m1), .val (.long x1), .second, .val (.long x2), .second, .val (.int n), .val (.ref a9), .val (.ref a210), .val (.int (own_paper v514 v516 v518)), .val (.int v537), .val (.int (0 : Int32))] [(.int (own_paper v514 v516 v518))])) (fun t_ k_ => XS.iload Xc614.here hx rfl (hb hby at_533) rfl k_) ?_
                          refine own_step (T' := Tc614) (g' := (mkF m 537 #[.val (.int k0), .val (.int m1), .val (.long x1), .second, .val (.long x2), .second, .val (.int n), .val (.ref a9), .val (.ref a210), .val (.int (own_paper v514 v516 v518)), .val (.int v537), .val (.int (0 : Int32))] [(.int (0 : Int32)), (.int (own_paper v514 v516 v518))])) (fun t_ k_ => XS.iload Xc614.here hx rfl (hb hby at_535) rfl k_) ?_
                          have hk619 : (own_paper v514 v516 v518) = (0 : Int32) := hE.trans (by rw [if_neg hb541, if_neg hb548, if_neg hb555, if_neg hb562, if_neg hb569, if_neg hb576, if_neg hb583, if_neg hb590, if_neg hb597, if_neg hb604, if_neg hb611, if_pos hb618])
                          refine own_step (T' := Tc614) (g' := (mkF m 540 #[.val (.int k0), .val (.int m1), .val (.long x1), .second, .val (.long x2), .second, .val (.int n), .val (.ref a9), .val (.ref a210), .val (.int (own_paper v514 v516 v518)), .val (.int v537), .val (.int (0 : Int32))] [])) (fun t_ k_ => XS.icmpNo Xc614.here hx rfl (hb hby at_537) rfl (XT.ii_ne_f hk619) k_) ?_
                          refine own_step (T' := Tc614) (g' := (mkF m 541 #[.val (.int k0), .val (.int m1), .val (.long x1), .second, .val (.long x2), .second, .val (.int n), .val (.ref a9), .val (.ref a210), .val (.int (own_paper v514 v516 v518)), .val (.int v537), .val (.int (0 : Int32))] [(.int (1 : Int32))])) (fun t_ k_ => XT.iconstV Xc614.here hx rfl (1 : Int32) (hb hby at_540) (by decide) k_) ?_
                          refine own_step (T' := Tc614) (g' := (mkF m 545 #[.val (.int k0), .val (.int m1), .val (.long x1), .second, .val (.long x2), .second, .val (.int n), .val (.ref a9), .val (.ref a210), .val (.int (own_paper v514 v516 v518)), .val (.int v537), .val (.int (0 : Int32))] [(.int (1 : Int32))])) (fun t_ k_ => XS.goto Xc614.here hx rfl (pc0 := 541) (pc' := 545) rfl (hb hby at_541) (by decide) (by decide) k_) ?_
                          exact own_retN Xc614 hx hlk (t := .boolean) Bd.returns (by simp) (hb hby at_545) (by rw [e616]; exact ⟨rfl, N617⟩) (by decide) (by decide)
                        · refine own_step (T' := Tc614) (g' := (mkF m 526 #[.val (.int k0), .val (.int m1), .val (.long x1), .second, .val (.long x2), .second, .val (.int n), .val (.ref a9), .val (.ref a210), .val (.int (own_paper v514 v516 v518)), .val (.int v537), .unset] [])) (fun t_ k_ => XS.ifNo Xc614.here hx rfl (hb hby at_523) rfl (XT.i0_eq_f hb618) k_) ?_
                          refine own_step (T' := Tc614) (g' := (mkF m 527 #[.val (.int k0), .val (.int m1), .val (.long x1), .second, .val (.long x2), .second, .val (.int n), .val (.ref a9), .val (.ref a210), .val (.int (own_paper v514 v516 v518)), .val (.int v537), .unset] [(.int (1 : Int32))])) (fun t_ k_ => XT.iconstV Xc614.here hx rfl (1 : Int32) (hb hby at_526) (by decide) k_) ?_
                          refine own_step (T' := Tc614) (g' := (mkF m 531 #[.val (.int k0), .val (.int m1), .val (.long x1), .second, .val (.long x2), .second, .val (.int n), .val (.ref a9), .val (.ref a210), .val (.int (own_paper v514 v516 v518)), .val (.int v537), .unset] [(.int (1 : Int32))])) (fun t_ k_ => XS.goto Xc614.here hx rfl (pc0 := 527) (pc' := 531) rfl (hb hby at_527) (by decide) (by decide) k_) ?_
                          refine own_step (T' := Tc614) (g' := (mkF m 533 #[.val (.int k0), .val (.int m1), .val (.long x1), .second, .val (.long x2), .second, .val (.int n), .val (.ref a9), .val (.ref a210), .val (.int (own_paper v514 v516 v518)), .val (.int v537), .val (.int (1 : Int32))] [])) (fun t_ k_ => XS.istore Xc614.here hx rfl (hb hby at_531) rfl (l' := #[.val (.int k0), .val (.int m1), .val (.long x1), .second, .val (.long x2), .second, .val (.int n), .val (.ref a9), .val (.ref a210), .val (.int (own_paper v514 v516 v518)), .val (.int v537), .val (.int (1 : Int32))]) rfl k_) ?_
                          refine own_step (T' := Tc614) (g' := (mkF m 535 #[.val (.int k0), .val (.int m1), .val (.long x1), .second, .val (.long x2), .second, .val (.int n), .val (.ref a9), .val (.ref a210), .val (.int (own_paper v514 v516 v518)), .val (.int v537), .val (.int (1 : Int32))] [(.int (own_paper v514 v516 v518))])) (fun t_ k_ => XS.iload Xc614.here hx rfl (hb hby at_533) rfl k_) ?_
                          refine own_step (T' := Tc614) (g' := (mkF m 537 #[.val (.int k0), .val (.int m1), .val (.long x1), .second, .val (.long x2), .second, .val (.int n), .val (.ref a9), .val (.ref a210), .val (.int (own_paper v514 v516 v518)), .val (.int v537), .val (.int (1 : Int32))] [(.int (1 : Int32)), (.int (own_paper v514 v516 v518))])) (fun t_ k_ => XS.iload Xc614.here hx rfl (hb hby at_535) rfl k_) ?_
                          have hk620 : (own_paper v514 v516 v518) = (1 : Int32) := hE.trans (by rw [if_neg hb541, if_neg hb548, if_neg hb555, if_neg hb562, if_neg hb569, if_neg hb576, if_neg hb583, if_neg hb590, if_neg hb597, if_neg hb604, if_neg hb611, if_neg hb618])
                          refine own_step (T' := Tc614) (g' := (mkF m 540 #[.val (.int k0), .val (.int m1), .val (.long x1), .second, .val (.long x2), .second, .val (.int n), .val (.ref a9), .val (.ref a210), .val (.int (own_paper v514 v516 v518)), .val (.int v537), .val (.int (1 : Int32))] [])) (fun t_ k_ => XS.icmpNo Xc614.here hx rfl (hb hby at_537) rfl (XT.ii_ne_f hk620) k_) ?_
                          refine own_step (T' := Tc614) (g' := (mkF m 541 #[.val (.int k0), .val (.int m1), .val (.long x1), .second, .val (.long x2), .second, .val (.int n), .val (.ref a9), .val (.ref a210), .val (.int (own_paper v514 v516 v518)), .val (.int v537), .val (.int (1 : Int32))] [(.int (1 : Int32))])) (fun t_ k_ => XT.iconstV Xc614.here hx rfl (1 : Int32) (hb hby at_540) (by decide) k_) ?_
                          refine own_step (T' := Tc614) (g' := (mkF m 545 #[.val (.int k0), .val (.int m1), .val (.long x1), .second, .val (.long x2), .second, .val (.int n), .val (.ref a9), .val (.ref a210), .val (.int (own_paper v514 v516 v518)), .val (.int v537), .val (.int (1 : Int32))] [(.int (1 : Int32))])) (fun t_ k_ => XS.goto Xc614.here hx rfl (pc0 := 541) (pc' := 545) rfl (hb hby at_541) (by decide) (by decide) k_) ?_
                          exact own_retN Xc614 hx hlk (t := .boolean) Bd.returns (by simp) (hb hby at_545) (by rw [e616]; exact ⟨rfl, N617⟩) (by decide) (by decide)
set_option maxRecDepth 65536 in
set_option maxHeartbeats 40000000 in
theorem comes_1 {Post : Tables → Env → Array Value → State → Outcome → State → Prop} (hpost : ∀ tb e args s v u, (limb_1_1.after args s (.returned v) u = true ∧ limb_1_2.after args s (.returned v) u = true ∧ True) → FrameEnd s (.returned v) u (Jvm.fieldLocs frame_1_writes args s ++ Jvm.arrayLocs frame_1_arrays args s ++ Jvm.staticLocs frame_1_statics s) 16 128 → Post tb e args s (.returned v) u) :
    ArmFor flags0 classFile x code maxLocals ret World_1 tables_1 room_1 Calls_1 rest_1 Pre_1 Post := by
  intro l hfl _ _ p e ha hc hk s m args below hf hA hF happ hP
  obtain ⟨hcalls, hrest, hpre⟩ := hP
  obtain ⟨-, -, -, hnamed, -, -, -, hat⟩ := (Spec.applies_iff hf).mp happ
  obtain ⟨hg, hn⟩ := and_e (Cond.before_iff.mp (show (Jvm.Cond.and given_1 narrow_1).before args s = true from hpre))
  obtain ⟨hcount, hg0⟩ := and_e hg
  obtain ⟨ha0, hg1⟩ := and_e hg0
  obtain ⟨ha1, hg2⟩ := and_e hg1
  obtain ⟨ha2, hg3⟩ := and_e hg2
  obtain ⟨w0, w1, w2, w3, rfl⟩ : ∃ w0 w1 w2 w3 : Value, args = #[w0, w1, w2, w3] := by
    have hs : args.size = 4 := by simpa [Cond.value, given_1] using hcount
    obtain ⟨L⟩ := args
    match L, hs with
    | [w0, w1, w2, w3], _ => exact ⟨w0, w1, w2, w3, rfl⟩
  have hw := fun d (hd : d ∈ tables_1) => atoms_spec (ws := Jvm.Cond.code x code maxLocals ret :: tables_1) hat d (List.mem_cons_of_mem _ hd)
  obtain ⟨i0, ei0⟩ := is_v ha0
  obtain rfl : w0 = (.int i0) := Option.some.inj ei0
  obtain ⟨i1, ei1⟩ := is_v ha1
  obtain rfl : w1 = (.int i1) := Option.some.inj ei1
  obtain ⟨i2, ei2⟩ := isL_v ha2
  obtain rfl : w2 = (.long i2) := Option.some.inj ei2
  obtain ⟨i3, ei3⟩ := isL_v hg3
  obtain rfl : w3 = (.long i3) := Option.some.inj ei3
  obtain ⟨n, o, h1, h2, h3, _, L, rfl, ⟨rfl, N⟩, hq⟩ := rm_law l s _ hw tables_1 i0 i1 i2 i3 s.heap s.heap.size (Nat.le_refl _)  p e ha hc hk s m _ below hf ((Spec.applies_iff_loose hf).mp happ).1 ⟨rfl, State.Warmed39.refl s, rfl⟩ trivial
  refine ⟨n, _, h1, h2, h3, hpost _ _ _ _ _ _ ⟨Cond.after_iff.mpr rfl, Cond.after_iff.mpr (eq_i res_at (Term.int_eval (1)) rfl), trivial⟩ ⟨hq.1, hq.2.1, (hq.2.2.sift fun y hy => Or.inr (N y hy)).mono (by decide) (by decide)⟩⟩
theorem main_1_1 : Claimed_1_1 := comes_1 fun _ _ _ _ _ _ h hF => ⟨h.1, hF⟩
theorem main_1_2 : Claimed_1_2 := comes_1 fun _ _ _ _ _ _ h hF => ⟨h.2.1, hF⟩
end Jvm.Pilot.@@N@@
namespace Jvm.Pilot.@@N@@
open Jvm Jvm.ClassFile Sem Op Lib Jvm.Free Jvm.Stand Jvm.Pilot.@@N@@.Jvm.D
/-! MADE BY PROGRAM (witnessworld.py) out of the Statement's table words and the real class files: 11 classes; the members and pool entries that the words name. The judged class is class 1, her method 3. -/
namespace start1
open Jvm.ClassFile
def u (s : String) : CpInfo := .utf8 (stringToUtf16 s)
/-- a pool by its gaps: so many unusable entries, then the entry; so many at the end -/
def gap : Nat → List CpInfo → List CpInfo
  | 0, r => r
  | n + 1, r => .unusable :: gap n r
def poolList (es : List (Nat × CpInfo)) (last : Nat) : List CpInfo := es.foldr (fun e r => gap e.1 (e.2 :: r)) (gap last [])
def pool (es : List (Nat × CpInfo)) (last : Nat) : Array CpInfo := ⟨poolList es last⟩
def fileOf (pool : Array CpInfo) (this : Nat) (attrs : Array Attribute := #[]) (ms : Array MethodInfo := #[]) (fl : Nat := 33) (sup : Nat := 0) (ifs : Array Nat := #[]) (fds : Array FieldInfo := #[]) : ClassFile where
  minorVersion := 0
  majorVersion := 65
  constantPool := pool
  accessFlags := fl
  thisClass := this
  superClass := sup
  interfaces := ifs
  fields := fds
  methods := ms
  attributes := attrs
def plain (name : String) (sup : Option ClassId) : Class where
  name := name
  kind := .ordinary
  loader := none
  accessFlags := 33
  super := sup
  interfaces := #[]
  cf := none
  fields := #[]
  methods := #[]
  instanceTypes := #[]
  staticTypes := #[]
  resolved := #[]
  callSites := []
  init := .initialized
  statics := none
  mirror := none

def pool0 : Array CpInfo := pool [(5, u "<init>"), (0, u "()V"), (1, .class_ 10), (1, u "java/lang/Object")] 113

def k0c0 : Code := { maxStack := 0, maxLocals := 1, code := object_method_1_code, exceptionTable := #[], attributes := #[] }
def k0m0 : Method := { name := "<init>", desc := "()V", sig := { parameters := [], returnType := none }, accessFlags := 1, code := some k0c0 }
/-- java/lang/Object -/
def k0 : Class := { plain "java/lang/Object" none with
  accessFlags := 33
  interfaces := #[]
  cf := some (fileOf pool0 8 #[] #[{ accessFlags := 1, nameIndex := 5, descriptorIndex := 6, attributes := #[] }] 33 0 #[] #[])
  fields := #[]
  methods := #[k0m0]
  instanceTypes := #[]
  staticTypes := #[]
  resolved := Array.replicate 124 none
  statics := none }

def pool1 : Array CpInfo := pool [(2, .class_ 4), (0, .nameAndType 5 6), (0, u "java/lang/Object"), (0, u "<init>"), (0, u "()V"), (0, .long 255), (1, .integer 2147483647), (0, .methodref 11 12), (0, .class_ 13), (0, .nameAndType 14 15), (0, u "com/example/llogari/llogari/rules/WrittenFormIsPaperPinLaw"), (0, u "ch"), (0, u "(IIJJ)C"), (0, .class_ 17), (0, u "com/example/llogari/llogari/rules/WrittenForm"), (0, .methodref 16 3), (0, .methodref 16 20), (0, .nameAndType 21 22), (0, u "append"), (0, u "(C)V"), (0, .methodref 16 24), (0, .nameAndType 25 26), (0, u "isPaper"), (0, u "()Z"), (0, .methodref 11 28), (0, .nameAndType 29 30), (0, u "fits"), (0, u "(ICI)Z"), (3, u "law"), (0, u "(IIJJ)Z")] 4

def k1m0 : Method := { name := "<init>", desc := "()V", sig := { parameters := [], returnType := none }, accessFlags := 2, code := none }
def k1c1 : Code := { maxStack := 5, maxLocals := 9, code := method_2_code, exceptionTable := #[], attributes := #[] }
def k1m1 : Method := { name := "ch", desc := "(IIJJ)C", sig := { parameters := [.int, .int, .long, .long], returnType := some .char }, accessFlags := 10, code := some k1c1 }
def k1c2 : Code := { maxStack := 2, maxLocals := 4, code := method_3_code, exceptionTable := #[], attributes := #[] }
def k1m2 : Method := { name := "fits", desc := "(ICI)Z", sig := { parameters := [.int, .char, .int], returnType := some .boolean }, accessFlags := 10, code := some k1c2 }
def k1c3 : Code := { maxStack := 8, maxLocals := 12, code := code, exceptionTable := #[], attributes := #[] }
def k1m3 : Method := { name := "law", desc := "(IIJJ)Z", sig := { parameters := [.int, .int, .long, .long], returnType := some .boolean }, accessFlags := 9, code := some k1c3 }
/-- com/example/llogari/llogari/rules/WrittenFormIsPaperPinLaw -/
def k1 : Class := { plain "com/example/llogari/llogari/rules/WrittenFormIsPaperPinLaw" (some 0) with
  accessFlags := 49
  interfaces := #[]
  cf := some (fileOf pool1 11 #[] #[{ accessFlags := 2, nameIndex := 5, descriptorIndex := 6, attributes := #[] }, { accessFlags := 10, nameIndex := 14, descriptorIndex := 15, attributes := #[] }, { accessFlags := 10, nameIndex := 29, descriptorIndex := 30, attributes := #[] }, { accessFlags := 9, nameIndex := 34, descriptorIndex := 35, attributes := #[] }] 49 2 #[] #[])
  fields := #[]
  methods := #[k1m0, k1m1, k1m2, k1m3]
  instanceTypes := #[]
  staticTypes := #[]
  resolved := Array.replicate 40 none
  statics := none }

def pool2 : Array CpInfo := pool [(1, .class_ 2), (0, u "com/example/llogari/llogari/rules/WrittenForm"), (0, .methodref 4 5), (0, .class_ 6), (0, .nameAndType 7 8), (0, u "java/lang/Object"), (0, u "<init>"), (0, u "()V"), (0, .methodref 1 10), (0, .nameAndType 11 12), (0, u "isBlank"), (0, u "(C)Z"), (0, .fieldref 1 14), (0, .nameAndType 15 16), (0, u "blanks"), (0, u "J"), (0, .fieldref 1 18), (0, .nameAndType 19 20), (0, u "misplaced"), (0, u "Z"), (0, .fieldref 1 22), (0, .nameAndType 23 16), (0, u "length"), (0, .long 5), (1, .long 4), (23, u "append"), (14, u "BLANK"), (0, u "C"), (2, u "GROUP"), (0, u "I"), (1, u "STRIDE"), (4, u "(C)V"), (2, u "()Z"), (0, u "isPaper")] 5

def k2c0 : Code := { maxStack := 1, maxLocals := 1, code := prog_28_method_1_code, exceptionTable := #[], attributes := #[] }
def k2m0 : Method := { name := "<init>", desc := "()V", sig := { parameters := [], returnType := none }, accessFlags := 0, code := some k2c0 }
def k2c1 : Code := { maxStack := 2, maxLocals := 1, code := prog_28_method_2_code, exceptionTable := #[], attributes := #[] }
def k2m1 : Method := { name := "isBlank", desc := "(C)Z", sig := { parameters := [.char], returnType := some .boolean }, accessFlags := 8, code := some k2c1 }
def k2c2 : Code := { maxStack := 6, maxLocals := 2, code := prog_28_method_3_code, exceptionTable := #[], attributes := #[] }
def k2m2 : Method := { name := "append", desc := "(C)V", sig := { parameters := [.char], returnType := none }, accessFlags := 0, code := some k2c2 }
def k2c3 : Code := { maxStack := 6, maxLocals := 1, code := prog_28_method_6_code, exceptionTable := #[], attributes := #[] }
def k2m3 : Method := { name := "isPaper", desc := "()Z", sig := { parameters := [], returnType := some .boolean }, accessFlags := 0, code := some k2c3 }
/-- com/example/llogari/llogari/rules/WrittenForm -/
def k2 : Class := { plain "com/example/llogari/llogari/rules/WrittenForm" (some 0) with
  accessFlags := 48
  interfaces := #[]
  cf := some (fileOf pool2 1 #[] #[{ accessFlags := 0, nameIndex := 7, descriptorIndex := 8, attributes := #[] }, { accessFlags := 8, nameIndex := 11, descriptorIndex := 12, attributes := #[] }, { accessFlags := 0, nameIndex := 50, descriptorIndex := 77, attributes := #[] }, { accessFlags := 0, nameIndex := 81, descriptorIndex := 80, attributes := #[] }] 48 4 #[] #[{ accessFlags := 26, nameIndex := 65, descriptorIndex := 66, attributes := #[] }, { accessFlags := 26, nameIndex := 69, descriptorIndex := 70, attributes := #[] }, { accessFlags := 26, nameIndex := 72, descriptorIndex := 70, attributes := #[] }, { accessFlags := 2, nameIndex := 23, descriptorIndex := 16, attributes := #[] }, { accessFlags := 2, nameIndex := 15, descriptorIndex := 16, attributes := #[] }, { accessFlags := 2, nameIndex := 19, descriptorIndex := 20, attributes := #[] }])
  fields := #[{ name := "BLANK", type := .char, accessFlags := 26, slot := 0, constantValue := 0 }, { name := "GROUP", type := .int, accessFlags := 26, slot := 1, constantValue := 0 }, { name := "STRIDE", type := .int, accessFlags := 26, slot := 2, constantValue := 0 }, { name := "length", type := .long, accessFlags := 2, slot := 0, constantValue := 0 }, { name := "blanks", type := .long, accessFlags := 2, slot := 1, constantValue := 0 }, { name := "misplaced", type := .boolean, accessFlags := 2, slot := 2, constantValue := 0 }]
  methods := #[k2m0, k2m1, k2m2, k2m3]
  instanceTypes := #[.long, .long, .boolean]
  staticTypes := #[.char, .int, .int]
  resolved := Array.replicate 87 none
  statics := none }

def pool3 : Array CpInfo := pool [(1, u "java/lang/Cloneable"), (0, .class_ 1), (0, u "java/lang/Object"), (0, .class_ 3)] 3

/-- java/lang/Cloneable -/
def k3 : Class := { plain "java/lang/Cloneable" (some 0) with
  accessFlags := 1537
  interfaces := #[]
  cf := some (fileOf pool3 2 #[] #[] 1537 4 #[] #[])
  fields := #[]
  methods := #[]
  instanceTypes := #[]
  staticTypes := #[]
  resolved := Array.replicate 8 none
  statics := none }

def pool4 : Array CpInfo := pool [(1, u "java/io/Serializable"), (0, .class_ 1), (0, u "java/lang/Object"), (0, .class_ 3)] 3

/-- java/io/Serializable -/
def k4 : Class := { plain "java/io/Serializable" (some 0) with
  accessFlags := 1537
  interfaces := #[]
  cf := some (fileOf pool4 2 #[] #[] 1537 4 #[] #[])
  fields := #[]
  methods := #[]
  instanceTypes := #[]
  staticTypes := #[]
  resolved := Array.replicate 8 none
  statics := none }

/-- the primitive byte -/
def k5 : Class := { plain "byte" none with kind := .primitive 'B', accessFlags := 0x411 }
/-- [B -/
def k6 : Class := { plain "[B" (some 0) with kind := .array 5 .byte, interfaces := #[3, 4], accessFlags := 1041 }

/-- the primitive char -/
def k7 : Class := { plain "char" none with kind := .primitive 'C', accessFlags := 0x411 }
/-- [C -/
def k8 : Class := { plain "[C" (some 0) with kind := .array 7 .char, interfaces := #[3, 4], accessFlags := 1041 }

/-- the primitive int -/
def k9 : Class := { plain "int" none with kind := .primitive 'I', accessFlags := 0x411 }
/-- [I -/
def k10 : Class := { plain "[I" (some 0) with kind := .array 9 .int, interfaces := #[3, 4], accessFlags := 1041 }

def heap : Heap := #[]
def classes : Array Class := #[k0, k1, k2, k3, k4, k5, k6, k7, k8, k9, k10]
def interned : List (Array UInt16 × Addr) := []
def slotsUsed : Nat := 0
def theMethod : MethodId := ⟨1, 3⟩
def args0 : Array Value := #[.int 7, .int 2, .long 3, .long 4]
def aboutOver (below : List Frame) : State where
  vm := { classes := classes, interned := interned.toArray }
  heap := heap
  slotsUsed := slotsUsed
  threads := #[{ frames := .invoking theMethod args0 :: below }]
def below0 : List Frame := [.native { method := ⟨0, 0⟩, args := #[] }]
def about1 : State := aboutOver below0
def p0 : Program := .bare "" "" ""
def e0 : Env := launch0.env 0 0 0
theorem w_frames : about1.frames = Frame.invoking theMethod args0 :: below0 := rfl
set_option maxRecDepth 65536 in
theorem w_args : argsFit about1.vm theMethod args0 = true := by decide +kernel
set_option maxRecDepth 65536 in
theorem w_heap : heapFits about1 = true := by decide +kernel
set_option maxRecDepth 65536 in
theorem w_runnable : about1.curStatus? = some .runnable := by decide +kernel
set_option maxRecDepth 65536 in
theorem w_alone : about1.alone = true := by decide +kernel
set_option maxRecDepth 65536 in
theorem w_named : about1.methodNamed? x = some theMethod := by decide +kernel
set_option maxRecDepth 65536 in
theorem w_hears : about1.hears theMethod below0 = true := by decide +kernel
set_option maxRecDepth 65536 in
theorem w_ripe : about1.ripe theMethod args0 below0 = true := by decide +kernel
theorem w_running : about1.status = .running := rfl
set_option maxRecDepth 65536 in
theorem w_room : about1.hasRoom e0.platform room_1 = true :=
  launch0.hasRoom_least _ room_1 (by decide +kernel) (by decide +kernel) (by decide +kernel) (by decide +kernel) (by decide +kernel) (by decide +kernel)
theorem allAtoms_all (ts : List Jvm.Cond) (a : Array Jvm.Value) (st : Jvm.State) : (allAtoms ts).before a st = ts.all (fun c => c.before a st) := by
  induction ts with
  | nil => rfl
  | cons c t ih =>
    show (Jvm.Cond.and c (allAtoms t)).before a st = _
    rw [Jvm.Cond.before_and, ih, List.all_cons]
def words1 : List Jvm.Cond := Jvm.Cond.code x code maxLocals ret :: tables_1
/-- a 'code' word, met by the world's own term for the bytes: nothing is compared byte by byte -/
theorem code_word {y : MethodName} {bytes : ByteArray} {mx : Nat} {rt : Option FieldType} {a : Array Value} {s : State} {m : MethodId} {meth : Method} {c : Code} (h1 : s.methodNamed? y = some m) (h2 : s.vm.method? m = some meth) (h3 : meth.code = some c) (h4 : c.code = bytes)
    (h5 : (c.maxLocals == mx && c.exceptionTable.isEmpty && decide (c.maxStack ≤ mostOperands) && decide (meth.sig.returnType = rt) && !meth.locks && decide (parseMethodDescriptor y.desc = some meth.sig)) = true) : (Jvm.Cond.code y bytes mx rt).before a s = true := by
  simp only [Bool.and_eq_true, beq_iff_eq, Bool.not_eq_true', decide_eq_true_eq] at h5
  obtain ⟨⟨⟨⟨⟨g1, g2⟩, g3⟩, g4⟩, g5⟩, g6⟩ := h5
  simp [Cond.before, Cond.holds, Cond.value, h1, h2, h3, h4, g1, g2, g3, g4, g5, g6]
def isCode : Jvm.Cond → Bool
  | .code _ _ _ _ => true
  | _ => false
theorem all_split {L : List Jvm.Cond} {P : Jvm.Cond → Bool} (h1 : L.all (fun c => isCode c || P c) = true) (h2 : ∀ c ∈ L.filter isCode, P c = true) : L.all P = true := by
  refine List.all_eq_true.mpr fun c hc => ?_
  have h := List.all_eq_true.mp h1 c hc
  rcases Bool.eq_false_or_eq_true (isCode c) with hi | hi
  · exact h2 c (List.mem_filter.mpr ⟨hc, hi⟩)
  · simpa [hi] using h
set_option maxRecDepth 65536 in
theorem w_c0 : (Jvm.Cond.code x code maxLocals ret).before args0 about1 = true := code_word (m := ⟨1, 3⟩) (meth := k1m3) (c := k1c3) (by decide +kernel) rfl rfl rfl (by decide +kernel)
set_option maxRecDepth 65536 in
theorem w_c1 : (Jvm.Cond.code ({ cls := "com/example/llogari/llogari/rules/WrittenFormIsPaperPinLaw", name := "ch", desc := "(IIJJ)C" } : Jvm.MethodName) method_2_code (9 : Nat) (Option.some Jvm.ClassFile.FieldType.char)).before args0 about1 = true := code_word (m := ⟨1, 1⟩) (meth := k1m1) (c := k1c1) (by decide +kernel) rfl rfl rfl (by decide +kernel)
set_option maxRecDepth 65536 in
theorem w_c2 : (Jvm.Cond.code ({ cls := "com/example/llogari/llogari/rules/WrittenForm", name := "<init>", desc := "()V" } : Jvm.MethodName) prog_28_method_1_code (1 : Nat) (Option.none : Option Jvm.ClassFile.FieldType)).before args0 about1 = true := code_word (m := ⟨2, 0⟩) (meth := k2m0) (c := k2c0) (by decide +kernel) rfl rfl rfl (by decide +kernel)
set_option maxRecDepth 65536 in
theorem w_c3 : (Jvm.Cond.code ({ cls := "java/lang/Object", name := "<init>", desc := "()V" } : Jvm.MethodName) object_method_1_code (1 : Nat) (Option.none : Option Jvm.ClassFile.FieldType)).before args0 about1 = true := code_word (m := ⟨0, 0⟩) (meth := k0m0) (c := k0c0) (by decide +kernel) rfl rfl rfl (by decide +kernel)
set_option maxRecDepth 65536 in
theorem w_c4 : (Jvm.Cond.code ({ cls := "com/example/llogari/llogari/rules/WrittenForm", name := "isPaper", desc := "()Z" } : Jvm.MethodName) prog_28_method_6_code (1 : Nat) (Option.some Jvm.ClassFile.FieldType.boolean)).before args0 about1 = true := code_word (m := ⟨2, 3⟩) (meth := k2m3) (c := k2c3) (by decide +kernel) rfl rfl rfl (by decide +kernel)
set_option maxRecDepth 65536 in
theorem w_c5 : (Jvm.Cond.code ({ cls := "com/example/llogari/llogari/rules/WrittenForm", name := "append", desc := "(C)V" } : Jvm.MethodName) prog_28_method_3_code (2 : Nat) (Option.none : Option Jvm.ClassFile.FieldType)).before args0 about1 = true := code_word (m := ⟨2, 2⟩) (meth := k2m2) (c := k2c2) (by decide +kernel) rfl rfl rfl (by decide +kernel)
set_option maxRecDepth 65536 in
theorem w_c6 : (Jvm.Cond.code ({ cls := "com/example/llogari/llogari/rules/WrittenForm", name := "isBlank", desc := "(C)Z" } : Jvm.MethodName) prog_28_method_2_code (1 : Nat) (Option.some Jvm.ClassFile.FieldType.boolean)).before args0 about1 = true := code_word (m := ⟨2, 1⟩) (meth := k2m1) (c := k2c1) (by decide +kernel) rfl rfl rfl (by decide +kernel)
set_option maxRecDepth 65536 in
theorem w_c7 : (Jvm.Cond.code ({ cls := "com/example/llogari/llogari/rules/WrittenFormIsPaperPinLaw", name := "fits", desc := "(ICI)Z" } : Jvm.MethodName) method_3_code (4 : Nat) (Option.some Jvm.ClassFile.FieldType.boolean)).before args0 about1 = true := code_word (m := ⟨1, 2⟩) (meth := k1m2) (c := k1c2) (by decide +kernel) rfl rfl rfl (by decide +kernel)
def codes1 : List Jvm.Cond := [Jvm.Cond.code x code maxLocals ret, Jvm.Cond.code ({ cls := "com/example/llogari/llogari/rules/WrittenFormIsPaperPinLaw", name := "ch", desc := "(IIJJ)C" } : Jvm.MethodName) method_2_code (9 : Nat) (Option.some Jvm.ClassFile.FieldType.char), Jvm.Cond.code ({ cls := "com/example/llogari/llogari/rules/WrittenForm", name := "<init>", desc := "()V" } : Jvm.MethodName) prog_28_method_1_code (1 : Nat) (Option.none : Option Jvm.ClassFile.FieldType), Jvm.Cond.code ({ cls := "java/lang/Object", name := "<init>", desc := "()V" } : Jvm.MethodName) object_method_1_code (1 : Nat) (Option.none : Option Jvm.ClassFile.FieldType), Jvm.Cond.code ({ cls := "com/example/llogari/llogari/rules/WrittenForm", name := "isPaper", desc := "()Z" } : Jvm.MethodName) prog_28_method_6_code (1 : Nat) (Option.some Jvm.ClassFile.FieldType.boolean), Jvm.Cond.code ({ cls := "com/example/llogari/llogari/rules/WrittenForm", name := "append", desc := "(C)V" } : Jvm.MethodName) prog_28_method_3_code (2 : Nat) (Option.none : Option Jvm.ClassFile.FieldType), Jvm.Cond.code ({ cls := "com/example/llogari/llogari/rules/WrittenForm", name := "isBlank", desc := "(C)Z" } : Jvm.MethodName) prog_28_method_2_code (1 : Nat) (Option.some Jvm.ClassFile.FieldType.boolean), Jvm.Cond.code ({ cls := "com/example/llogari/llogari/rules/WrittenFormIsPaperPinLaw", name := "fits", desc := "(ICI)Z" } : Jvm.MethodName) method_3_code (4 : Nat) (Option.some Jvm.ClassFile.FieldType.boolean)]
set_option maxRecDepth 65536 in
theorem codes_eq : words1.filter isCode = codes1 := rfl
theorem w_codes : ∀ c ∈ words1.filter isCode, c.before args0 about1 = true := by
  rw [codes_eq]
  intro c hc
  simp only [codes1, List.mem_cons, List.not_mem_nil, or_false] at hc
  rcases hc with rfl | rfl | rfl | rfl | rfl | rfl | rfl | rfl
  · exact w_c0
  · exact w_c1
  · exact w_c2
  · exact w_c3
  · exact w_c4
  · exact w_c5
  · exact w_c6
  · exact w_c7
set_option maxRecDepth 65536 in
theorem w_t1 : (words1.take 24).all (fun c => isCode c || c.before args0 about1) = true := by decide +kernel
set_option maxRecDepth 65536 in
theorem w_t2 : (words1.drop 24).all (fun c => isCode c || c.before args0 about1) = true := by decide +kernel
theorem w_tables : (allAtoms (Jvm.Cond.code x code maxLocals ret :: tables_1)).before args0 about1 = true := by
  rw [allAtoms_all]
  show words1.all (fun c => c.before args0 about1) = true
  refine all_split ?_ w_codes
  rw [← List.take_append_drop 24 words1, List.all_append, w_t1, w_t2]
  rfl
set_option maxRecDepth 65536 in
theorem w_case : (Jvm.Cond.and given_1 narrow_1).before args0 about1 = true := by decide +kernel
theorem w_applies : (headSpec (Jvm.Cond.code x code maxLocals ret :: tables_1) room_1).applies x e0.platform about1 = true :=
  (Spec.applies_iff w_frames).mpr ⟨w_running, w_runnable, w_alone, w_named, w_hears, w_ripe, w_room, w_tables⟩
theorem atStart : AtStart classFile x code maxLocals ret World_1 tables_1 room_1 Calls_1 rest_1 Pre_1 launch0 p0 e0 about1 theMethod args0 below0 :=
  ⟨lists_1, trivial, launch0.admits_env _ _ _, launch0.least_env, fairChoices_fair.cas, fairChoices_fair.clock, w_frames, w_args, w_heap, w_applies, trivial, trivial, w_case⟩
end start1
theorem witness_1 : WitnessClaimed_1 := ⟨start1.p0, start1.e0, start1.about1, start1.theMethod, start1.args0, start1.below0, start1.atStart⟩
end Jvm.Pilot.@@N@@
