import JvmDerived
import JvmDerived.Pilot.@@N@@Statement
import JvmDerived.Pilot.@@N@@Code
set_option linter.unusedVariables false
set_option linter.unusedSimpArgs false
@@BLOCK:NumsL.lean.txt@@
namespace Jvm.Pilot.@@N@@
open Jvm Jvm.ClassFile Sem Op Lib Jvm.Free Jvm.Stand Jvm.LawKit Jvm.RoadKit Bundle Jvm.Pilot.@@N@@.Jvm.D
def vi (x : Int32) : Slot := .val (.int x)
def vj (x : Int64) : Slot := .val (.long x)
def va (x : Addr) : Slot := .val (.ref x)
def un : Slot := .unset
section OwnKit
variable {p : Program} {l : Launch} {e : Env} {R : Room} {s : State} {m : MethodId} {args : Array Value} {below : List Frame} {meth : Method} {c : Code} {T T' : State} {locs : List Loc} {cells slots : Nat}
/-- from this configuration the body comes to its end, and then Q holds -/
def own_Fin (p : Program) (e : Env) (below : List Frame) (s : State) (Q : Option Value → Heap → List Loc → Prop) (kc ks : Nat) (T : State) (g : JFrame) : Prop :=
  ∃ s₂ o, Steps p.tables e below (T.setTop g) s₂ ∧ s₂.status = .running ∧ Ended s₂ below o ∧ ∃ v L, o = .returned v ∧ Q v s₂.heap L ∧ FrameEnd s o s₂ L kc ks
variable {Q : Option Value → Heap → List Loc → Prop} {kc ks : Nat} {g g' : JFrame}
theorem own_step (st : ∀ t, Steps p.tables e below (T'.setTop g') t → Steps p.tables e below (T.setTop g) t) (k : own_Fin p e below s Q kc ks T' g') : own_Fin p e below s Q kc ks T g := by
  obtain ⟨s₂, o, h1, r⟩ := k
  exact ⟨s₂, o, st _ h1, r⟩
theorem own_in {as : Array Value} {n : Nat} (ef : entryFrame m as n = g) (k : own_Fin p e below s Q kc ks T g) :
    ∃ s₂ o, Steps p.tables e below (T.setTop (entryFrame m as n)) s₂ ∧ s₂.status = .running ∧ Ended s₂ below o ∧ ∃ v L, o = .returned v ∧ Q v s₂.heap L ∧ FrameEnd s o s₂ L kc ks := by
  obtain ⟨s₂, o, h1, r⟩ := k
  exact ⟨s₂, o, castTop ef h1, r⟩
theorem own_retV (X : Stand p l e R s m args below meth c T locs cells slots) (hx : p.tables.exec = Jvm.exec) (hlk : meth.locks = false) {pc : Nat} {Ls : Array Slot} {w : Value} {t : FieldType} {i : Instr} {rest : List Value} (hret : meth.sig.returnType = some t) (hn : narrow t w = w)
    (hi : (i = .ireturn ∧ (t = .int ∨ t = .boolean ∨ t = .byte ∨ t = .char ∨ t = .short) ∧ ∃ z, w = .int z) ∨ (i = .lreturn ∧ t = .long ∧ ∃ z, w = .long z) ∨ (i = .dreturn ∧ t = .double ∧ ∃ z, w = .double z) ∨ (i = .freturn ∧ t = .float ∧ ∃ z, w = .float z) ∨ (i = .areturn ∧ t.isReference = true ∧ w.isRef = true))
    (hd : decode c.code pc = .ok (i, 1)) (hq : Q (some w) T.heap locs) (h1 : cells ≤ kc) (h2 : slots ≤ ks) : own_Fin p e below s Q kc ks T (mkF m pc Ls (w :: rest)) := by
  obtain ⟨fs, hr, hrun, hended, hW, hsame⟩ := X.leave (v := some w) (fun h => by rw [hret] at h; cases h) hlk
  exact ⟨_, _, retOut X hx hret hn hi hd hr, hrun, hended, _, _, rfl, hq, ⟨_, rfl⟩, hW, hsame.mono h1 h2⟩
theorem own_retI (X : Stand p l e R s m args below meth c T locs cells slots) (hx : p.tables.exec = Jvm.exec) (hlk : meth.locks = false) {pc : Nat} {Ls : Array Slot} {z : Int32} {rest : List Value} (hret : meth.sig.returnType = some .int)
    (hd : decode c.code pc = .ok (.ireturn, 1)) (hq : Q (some (.int z)) T.heap locs) (h1 : cells ≤ kc) (h2 : slots ≤ ks) : own_Fin p e below s Q kc ks T (mkF m pc Ls (.int z :: rest)) :=
  own_retV X hx hlk hret rfl (Or.inl ⟨rfl, Or.inl rfl, z, rfl⟩) hd hq h1 h2
theorem own_retJ (X : Stand p l e R s m args below meth c T locs cells slots) (hx : p.tables.exec = Jvm.exec) (hlk : meth.locks = false) {pc : Nat} {Ls : Array Slot} {z : Int64} {rest : List Value} (hret : meth.sig.returnType = some .long)
    (hd : decode c.code pc = .ok (.lreturn, 1)) (hq : Q (some (.long z)) T.heap locs) (h1 : cells ≤ kc) (h2 : slots ≤ ks) : own_Fin p e below s Q kc ks T (mkF m pc Ls (.long z :: rest)) :=
  own_retV X hx hlk hret rfl (Or.inr (Or.inl ⟨rfl, rfl, z, rfl⟩)) hd hq h1 h2
theorem own_retA (X : Stand p l e R s m args below meth c T locs cells slots) (hx : p.tables.exec = Jvm.exec) (hlk : meth.locks = false) {pc : Nat} {Ls : Array Slot} {w : Value} {t : FieldType} {rest : List Value} (hret : meth.sig.returnType = some t) (ht : t.isReference = true) (hw : w.isRef = true)
    (hd : decode c.code pc = .ok (.areturn, 1)) (hq : Q (some w) T.heap locs) (h1 : cells ≤ kc) (h2 : slots ≤ ks) : own_Fin p e below s Q kc ks T (mkF m pc Ls (w :: rest)) :=
  own_retV X hx hlk hret (by cases t <;> first | (cases ht; done) | rfl) (Or.inr (Or.inr (Or.inr (Or.inr ⟨rfl, ht, hw⟩)))) hd hq h1 h2
theorem own_retN (X : Stand p l e R s m args below meth c T locs cells slots) (hx : p.tables.exec = Jvm.exec) (hlk : meth.locks = false) {pc : Nat} {Ls : Array Slot} {z : Int32} {t : FieldType} {rest : List Value} (hret : meth.sig.returnType = some t) (ht : t = .boolean ∨ t = .byte ∨ t = .char ∨ t = .short)
    (hd : decode c.code pc = .ok (.ireturn, 1)) (hq : Q (some (.int (nar t z))) T.heap locs) (h1 : cells ≤ kc) (h2 : slots ≤ ks) : own_Fin p e below s Q kc ks T (mkF m pc Ls (.int z :: rest)) := by
  obtain ⟨fs, hr, hrun, hended, hW, hsame⟩ := X.leave (v := some (.int (nar t z))) (fun h => by rw [hret] at h; cases h) hlk
  exact ⟨_, _, retN X hx hret ht hd hr, hrun, hended, _, _, rfl, hq, ⟨_, rfl⟩, hW, hsame.mono h1 h2⟩
theorem own_ret (X : Stand p l e R s m args below meth c T locs cells slots) (hx : p.tables.exec = Jvm.exec) (hlk : meth.locks = false) {pc : Nat} {Ls : Array Slot} (hret : meth.sig.returnType = none)
    (hd : decode c.code pc = .ok (.return_, 1)) (hq : Q none T.heap locs) (h1 : cells ≤ kc) (h2 : slots ≤ ks) : own_Fin p e below s Q kc ks T (mkF m pc Ls []) := by
  obtain ⟨fs, hr, hrun, hended, hW, hsame⟩ := X.leave (v := none) (fun _ => rfl) hlk
  exact ⟨_, _, X.returnOut hx hret hd hr, hrun, hended, _, _, rfl, hq, ⟨_, rfl⟩, hW, hsame.mono h1 h2⟩
end OwnKit
theorem own_nar_ite {P : Prop} [Decidable P] {a b : Int32} (ha : nar .boolean a = a) (hb : nar .boolean b = b) : nar .boolean (if P then a else b) = (if P then a else b) := by
  by_cases h : P
  · rw [if_pos h]; exact ha
  · rw [if_neg h]; exact hb
theorem own_noface {k : Class} (h : (k.isInterface || hasFlag k.accessFlags Acc.abstract) = false) : k.isInterface = false := by
  cases q : k.isInterface with
  | false => rfl
  | true => rw [q] at h; simp at h
theorem own_nar_bool (P : Prop) [Decidable P] : nar .boolean (if P then (1 : Int32) else 0) = (if P then (1 : Int32) else 0) := own_nar_ite (by decide) (by decide)
/-- the array at a holds just these values -/
def own_Arl (Z : State) (h : Heap) (a : Addr) (ty : FieldType) (vs : List Value) : Prop := ∃ c : Cell, Arr Z h a c ty ∧ c.slots.toList = vs
section OwnArr
variable {p : Program} {l : Launch} {e : Env} {R : Room} {s : State} {m : MethodId} {args : Array Value} {below : List Frame} {meth : Method} {c : Code} {T : State} {locs : List Loc} {cells slots : Nat}
variable {Z : State} {h h' : Heap} {a b : Addr} {ty : FieldType} {vs : List Value} {v w : Value} {sl : Nat} {ws : List Addr}
theorem own_Arl.lt (F : own_Arl Z h a ty vs) : a < h.size := by obtain ⟨c, A, -⟩ := F; exact A.lt
theorem own_Arl.ext (F : own_Arl Z h a ty vs) (E : Ext h h') : own_Arl Z h' a ty vs := by obtain ⟨c, A, r⟩ := F; exact ⟨c, A.ext E, r⟩
theorem own_Arl.other (F : own_Arl Z h b ty vs) (W : Wr h h' a sl v) (q : b ≠ a) : own_Arl Z h' b ty vs := by obtain ⟨c, A, r⟩ := F; exact ⟨c, A.other W q, r⟩
theorem own_Arl.keep (F : own_Arl Z h a ty vs) (K : Keep h h' ws) (q : a ∉ ws) : own_Arl Z h' a ty vs := by obtain ⟨c, A, r⟩ := F; exact ⟨c, ⟨K.2.1 a c A.1 q, A.2⟩, r⟩
theorem own_Arl.set (F : own_Arl Z h a ty vs) (W : Wr h h' a sl v) : own_Arl Z h' a ty (vs.set sl v) := by
  obtain ⟨c, A, rfl⟩ := F
  exact ⟨_, A.same W, by simp [Cell.setSlot]⟩
theorem own_Arl.set' {j : Int32} (F : own_Arl Z h a ty vs) (W : Wr h h' a j.toNatClampNeg v) {i : Nat} (hi : j.toNatClampNeg = i) : own_Arl Z h' a ty (vs.set i v) := hi ▸ F.set W
theorem own_Arl.of_new {k : ClassId} {n : Int32} (A : Arr Z h a (newA k ty n) ty) {i : Nat} (hi : n.toNatClampNeg = i) : own_Arl Z h a ty (List.replicate i (defaultValue ty)) := ⟨_, A, by subst hi; simp [newA]⟩
theorem own_inb {c : Cell} {j : Int32} (L : c.slots.toList = vs) (h1 : ¬ j < 0) (h2 : j.toNatClampNeg < vs.length) : ¬ (j < 0 ∨ c.slots.size ≤ j.toNatClampNeg) := by
  subst L
  intro q
  rcases q with q | q
  · exact h1 q
  · rw [Array.length_toList] at h2; exact absurd q (Nat.not_le.mpr h2)
theorem own_inb' {c : Cell} {j : Int32} {n : Nat} (L : c.slots.toList = vs) (hl : vs.length = n) (h1 : ¬ j < 0) (h2 : j.toNatClampNeg < n) : ¬ (j < 0 ∨ c.slots.size ≤ j.toNatClampNeg) := own_inb L h1 (hl ▸ h2)
theorem own_ix {j : Int32} {k : Nat} (hk : j.toNatClampNeg = k) (h : vs[k]? = some v) : vs[j.toNatClampNeg]? = some v := hk ▸ h
theorem own_get {c : Cell} {j : Nat} (L : c.slots.toList = vs) (h2 : vs[j]? = some v) : c.slots[j]? = some v := by
  subst L
  rw [Array.getElem?_toList] at h2; exact h2
theorem own_lt_of {j : Nat} (h2 : vs[j]? = some v) : j < vs.length := (List.getElem?_eq_some_iff.mp h2).1
variable {g : JFrame} {j : Int32} {rest : List Value}
theorem own_baload (X : Stand p l e R s m args below meth c T locs cells slots) (hx : p.tables.exec = Jvm.exec) (hZ : Z.Warmed39 s.vm) (eT : T.heap = h) (F : own_Arl Z h a .byte vs) (h1 : ¬ j < 0) (h2 : vs[j.toNatClampNeg]? = some v) (hg : g.method = m) (hs : g.stack = .int j :: .ref a :: rest) (hd : decode c.code g.pc = .ok (.baload, 1)) (target : State)
    (k : Steps p.tables e below (T.setTop { g with pc := g.pc + 1, stack := v :: rest }) target) : Steps p.tables e below (T.setTop g) target := by
  obtain ⟨cl, A, L⟩ := F
  exact X.baloadBytes hx (by rw [eT]; exact A.1) (State.isArrayOf_alike hZ.alike A.2.1) A.2.2 (own_inb L h1 (own_lt_of h2)) (own_get L h2) hg hs hd _ k
theorem own_caload (X : Stand p l e R s m args below meth c T locs cells slots) (hx : p.tables.exec = Jvm.exec) (hZ : Z.Warmed39 s.vm) (eT : T.heap = h) (F : own_Arl Z h a .char vs) (h1 : ¬ j < 0) (h2 : vs[j.toNatClampNeg]? = some v) (hg : g.method = m) (hs : g.stack = .int j :: .ref a :: rest) (hd : decode c.code g.pc = .ok (.caload, 1)) (target : State)
    (k : Steps p.tables e below (T.setTop { g with pc := g.pc + 1, stack := v :: rest }) target) : Steps p.tables e below (T.setTop g) target := by
  obtain ⟨cl, A, L⟩ := F
  exact X.caload hx (by rw [eT]; exact A.1) (State.isArrayOf_alike hZ.alike A.2.1) A.2.2 (own_inb L h1 (own_lt_of h2)) (own_get L h2) hg hs hd _ k
theorem own_iaload (X : Stand p l e R s m args below meth c T locs cells slots) (hx : p.tables.exec = Jvm.exec) (hZ : Z.Warmed39 s.vm) (eT : T.heap = h) (F : own_Arl Z h a .int vs) (h1 : ¬ j < 0) (h2 : vs[j.toNatClampNeg]? = some v) (hg : g.method = m) (hs : g.stack = .int j :: .ref a :: rest) (hd : decode c.code g.pc = .ok (.iaload, 1)) (target : State)
    (k : Steps p.tables e below (T.setTop { g with pc := g.pc + 1, stack := v :: rest }) target) : Steps p.tables e below (T.setTop g) target := by
  obtain ⟨cl, A, L⟩ := F
  exact X.iaload hx (by rw [eT]; exact A.1) (State.isArrayOf_alike hZ.alike A.2.1) A.2.2 (own_inb L h1 (own_lt_of h2)) (own_get L h2) hg hs hd _ k
theorem own_laload (X : Stand p l e R s m args below meth c T locs cells slots) (hx : p.tables.exec = Jvm.exec) (hZ : Z.Warmed39 s.vm) (eT : T.heap = h) (F : own_Arl Z h a .long vs) (h1 : ¬ j < 0) (h2 : vs[j.toNatClampNeg]? = some v) (hg : g.method = m) (hs : g.stack = .int j :: .ref a :: rest) (hd : decode c.code g.pc = .ok (.laload, 1)) (target : State)
    (k : Steps p.tables e below (T.setTop { g with pc := g.pc + 1, stack := v :: rest }) target) : Steps p.tables e below (T.setTop g) target := by
  obtain ⟨cl, A, L⟩ := F
  exact X.laload hx (by rw [eT]; exact A.1) (State.isArrayOf_alike hZ.alike A.2.1) A.2.2 (own_inb L h1 (own_lt_of h2)) (own_get L h2) hg hs hd _ k
theorem own_alen (X : Stand p l e R s m args below meth c T locs cells slots) (hx : p.tables.exec = Jvm.exec) (hZ : Z.Warmed39 s.vm) (eT : T.heap = h) (F : own_Arl Z h a ty vs) {n : Int32} {i : Nat} (hi : vs.length = i) (hn : i.toInt32 = n) (hg : g.method = m) (hs : g.stack = .ref a :: rest) (hd : decode c.code g.pc = .ok (.arraylength, 1)) (target : State)
    (k : Steps p.tables e below (T.setTop { g with pc := g.pc + 1, stack := .int n :: rest }) target) : Steps p.tables e below (T.setTop g) target := by
  obtain ⟨cl, A, rfl⟩ := F
  subst hi
  subst hn
  exact X.arraylength hx (by rw [eT]; exact A.1) (State.isArrayOf_alike hZ.alike A.2.1) hg hs hd _ (by rw [Array.length_toList] at k; exact k)
end OwnArr

/-! the plain law: numbers of several bytes -/
theorem own_tnc (x : Int32) : x.toNatClampNeg = x.toInt.toNat := rfl
theorem own_i32 {x y : Int32} (h : x.toInt = y.toInt) : x = y := Int32.toInt_inj.mp h
theorem own_lt32 {x y : Int32} : x < y ↔ x.toInt < y.toInt := Int32.lt_iff_toInt_lt
theorem own_lt64 {x y : Int64} : x < y ↔ x.toInt < y.toInt := Int64.lt_iff_toInt_lt
theorem own_1 : (1 : Int32).toInt = 1 := rfl
theorem own_0 : (0 : Int32).toInt = 0 := rfl
theorem own_128 : (128 : Int64).toInt = 128 := rfl
/-- the bytes from i on are the number v, n bytes of them -/
def own_EncR (vs : List Value) : Nat → Nat → Int → Prop
  | 0, _, _ => False
  | n + 1, i, v => (n = 0 ∧ 0 ≤ v ∧ v < 128 ∧ ∃ b : Int32, vs[i]? = some (.int b) ∧ ¬ b < 0 ∧ (b &&& (127 : Int32)).toInt = v) ∨ (128 ≤ v ∧ ∃ b : Int32, vs[i]? = some (.int b) ∧ b < 0 ∧ (b &&& (127 : Int32)).toInt = v % 128 ∧ own_EncR vs n (i + 1) (v / 128))
def own_Enc (vs : List Value) (i : Nat) (v : Int) (n : Nat) : Prop := own_EncR vs n i v
theorem own_Enc.last {vs : List Value} {i : Nat} {v : Int} {b : Int32} (h0 : 0 ≤ v) (h1 : v < 128) (h2 : vs[i]? = some (.int b)) (h3 : ¬ b < 0) (h4 : (b &&& (127 : Int32)).toInt = v) : own_Enc vs i v 1 := Or.inl ⟨rfl, h0, h1, b, h2, h3, h4⟩
theorem own_Enc.more {vs : List Value} {i n : Nat} {v : Int} {b : Int32} (h0 : 128 ≤ v) (h1 : vs[i]? = some (.int b)) (h2 : b < 0) (h3 : (b &&& (127 : Int32)).toInt = v % 128) (h4 : own_Enc vs (i + 1) (v / 128) n) : own_Enc vs i v (n + 1) := Or.inr ⟨h0, b, h1, h2, h3, h4⟩
theorem own_Enc.dec {vs : List Value} {i n : Nat} {v : Int} (E : own_Enc vs i v n) : (n = 1 ∧ 0 ≤ v ∧ v < 128 ∧ ∃ b : Int32, vs[i]? = some (.int b) ∧ ¬ b < 0 ∧ (b &&& (127 : Int32)).toInt = v) ∨ (∃ n', n = n' + 1 ∧ 128 ≤ v ∧ ∃ b : Int32, vs[i]? = some (.int b) ∧ b < 0 ∧ (b &&& (127 : Int32)).toInt = v % 128 ∧ own_Enc vs (i + 1) (v / 128) n') := by
  cases n with
  | zero => exact absurd E id
  | succ n =>
    rcases (show _ ∨ _ from E) with h | h
    · exact Or.inl ⟨by rw [h.1], h.2⟩
    · exact Or.inr ⟨n, rfl, h⟩
theorem own_Enc.congr {vs vs' : List Value} {n : Nat} : ∀ {i : Nat} {v : Int}, own_Enc vs i v n → (∀ j, j < i + n → vs'[j]? = vs[j]?) → own_Enc vs' i v n := by
  induction n with
  | zero => intro i v E h; exact absurd E id
  | succ n ih =>
    intro i v E h
    rcases E.dec with ⟨e, a, b, w, d, f, g⟩ | ⟨n', e, a, b, c, d, f, g⟩
    · obtain rfl : n = 0 := by omega
      exact .last a b ((h _ (by omega)).trans d) f g
    · obtain rfl : n = n' := by omega
      exact .more a ((h _ (by omega)).trans c) d f (ih g (fun j hj => h j (by omega)))
theorem own_Enc.pos {vs : List Value} {i n : Nat} {v : Int} (E : own_Enc vs i v n) : 1 ≤ n ∧ 0 ≤ v := by
  rcases E.dec with ⟨e, a, -⟩ | ⟨n', e, a, -⟩
  · exact ⟨by omega, a⟩
  · exact ⟨by omega, by omega⟩
theorem own_Enc.inv {vs : List Value} {i n : Nat} {v : Int} (E : own_Enc vs i v n) : (v < 128 ∧ n = 1) ∨ (128 ≤ v ∧ ∃ n', n = n' + 1 ∧ own_Enc vs (i + 1) (v / 128) n') := by
  rcases E.dec with ⟨e, a, b, -⟩ | ⟨n', e, a, b, c, d, f, g⟩
  · exact Or.inl ⟨b, e⟩
  · exact Or.inr ⟨a, n', e, g⟩
theorem own_bm (x : Int) (m : Nat) : x.bmod m = if x % m < (m + 1) / 2 then x % m else x % m - m := rfl
def own_vl (v : Int) : Nat := if v < 128 then 1 else if v < 16384 then 2 else if v < 2097152 then 3 else if v < 268435456 then 4 else 5
theorem own_Enc.len {vs : List Value} {i n : Nat} {v : Int} (E : own_Enc vs i v n) (h : v < 34359738368) : n = own_vl v := by
  unfold own_vl
  rcases E.inv with ⟨a, b⟩ | ⟨a, n1, b, E1⟩
  · rw [if_pos a, b]
  rw [if_neg (by omega : ¬ v < 128)]
  rcases E1.inv with ⟨a1, b1⟩ | ⟨a1, n2, b1, E2⟩
  · rw [if_pos (by omega : v < 16384), b, b1]
  rw [if_neg (by omega : ¬ v < 16384)]
  rcases E2.inv with ⟨a2, b2⟩ | ⟨a2, n3, b2, E3⟩
  · rw [if_pos (by omega : v < 2097152), b, b1, b2]
  rw [if_neg (by omega : ¬ v < 2097152)]
  rcases E3.inv with ⟨a3, b3⟩ | ⟨a3, n4, b3, E4⟩
  · rw [if_pos (by omega : v < 268435456), b, b1, b2, b3]
  rw [if_neg (by omega : ¬ v < 268435456)]
  rcases E4.inv with ⟨a4, b4⟩ | ⟨a4, n5, b4, E5⟩
  · rw [b, b1, b2, b3, b4]
  · omega
theorem own_vl_le (v : Int) : own_vl v ≤ 5 := by
  unfold own_vl
  repeat (first | omega | split)
/-- a byte as it is stored -/
theorem own_byte (z : Int32) : (nar .byte (z.toInt8.toInt32)).toInt = z.toInt.bmod 256 := by
  show (z.toInt8.toInt32).toInt8.toInt32.toInt = _
  simp only [Int8.toInt_toInt32, Int32.toInt_toInt8]
  exact Int.bmod_bmod
theorem own_mask (b : Int32) : (b &&& (127 : Int32)).toInt = b.toInt % 128 := Jvm.Kit.i32_mask b 127 (k := 7) (by decide) (by decide)
theorem own_byte_last {z : Int64} (h0 : 0 ≤ z.toInt) (h1 : z.toInt < 128) : (nar .byte (z.toInt32.toInt8.toInt32)).toInt = z.toInt := by
  rw [own_byte, Int64.toInt_toInt32]
  have e : z.toInt.bmod (2 ^ 32) = z.toInt := Jvm.Kit.bmod32 (by omega) (by omega)
  rw [e]
  rw [own_bm]
  omega
theorem own_or128 (n : Nat) : (n ||| 128) % 256 = 128 + n % 128 := by
  have h : (n ||| 128) % 2 ^ 8 = n % 2 ^ 8 ||| 128 % 2 ^ 8 := Nat.or_mod_two_pow
  have k : ∀ i : Fin 256, (i.1 ||| 128) = 128 + i.1 % 128 := by decide +kernel
  have q := k ⟨n % 256, Nat.mod_lt _ (by decide)⟩
  have h' : (n ||| 128) % 256 = n % 256 ||| 128 := h
  rw [h', q]
  show 128 + n % 256 % 128 = _
  omega
theorem own_byte_more {z : Int64} (h0 : 0 ≤ z.toInt) : (nar .byte ((z ||| (128 : Int64)).toInt32.toInt8.toInt32)).toInt = z.toInt % 128 - 128 := by
  rw [own_byte, Int64.toInt_toInt32]
  have e1 : (z ||| (128 : Int64)).toInt % 256 = 128 + z.toInt % 128 := by
    have a : ∀ y : Int64, y.toInt % 256 = ((y.toBitVec.toNat % 256 : Nat) : Int) := by
      intro y
      have : y.toInt = y.toBitVec.toInt := rfl
      rw [this, BitVec.toInt_eq_toNat_bmod]
      rw [own_bm]
      omega
    have b : (z ||| (128 : Int64)).toBitVec.toNat = z.toBitVec.toNat ||| 128 := by
      rw [Int64.toBitVec_or, BitVec.toNat_or]; rfl
    rw [a, b, own_or128]
    have c := a z
    omega
  rw [own_bm, own_bm]
  omega
theorem own_ushr7 {z : Int64} (h0 : 0 ≤ z.toInt) : (XT.ushrL z (7 : Int32)).toInt = z.toInt / 128 := by
  have := Jvm.Kit.i64_lushr (x := z) (Jvm.Kit.i64_nonneg.mpr h0) (n := (7 : Int32).toInt64.toUInt64 &&& Int64.toUInt64 63) (k := 7) (by decide) (by decide)
  exact this
theorem own_ushr1 {z : Int64} (h0 : 0 ≤ z.toInt) : (XT.ushrL z (1 : Int32)).toInt = z.toInt / 2 := by
  have := Jvm.Kit.i64_lushr (x := z) (Jvm.Kit.i64_nonneg.mpr h0) (n := (1 : Int32).toInt64.toUInt64 &&& Int64.toUInt64 63) (k := 1) (by decide) (by decide)
  exact this
theorem own_succ {x : Int32} (h0 : 0 ≤ x.toInt) (h1 : x.toInt < 1000) : (x + (1 : Int32)).toInt = x.toInt + 1 := Jvm.Kit.i32_add (by rw [own_1]; omega) (by rw [own_1]; omega)
/-- what putting the number v from i on leaves: r is behind it -/
def own_Put (vs vs' : List Value) (i : Int32) (v : Int64) (r : Int32) : Prop := vs'.length = vs.length ∧ (∀ j, j < i.toNatClampNeg → vs'[j]? = vs[j]?) ∧ ∃ n, own_Enc vs' i.toNatClampNeg v.toInt n ∧ r.toInt = i.toInt + n
def own_LP (n : Nat) (cu : Int32) (lf : Int64) (us : List Value) : Prop := us.length = 64 ∧ 0 ≤ cu.toInt ∧ cu.toInt + n < 64 ∧ 0 ≤ lf.toInt ∧ lf.toInt < 128 * 128 ^ n
theorem own_put_last {us : List Value} {cu : Int32} {lf : Int64} (hl : us.length = 64) (h0 : 0 ≤ cu.toInt) (h1 : cu.toInt < 64) (h2 : 0 ≤ lf.toInt) (h3 : lf.toInt < 128) : own_Put us (us.set cu.toNatClampNeg (.int (nar .byte (lf.toInt32.toInt8.toInt32)))) cu lf (cu + (1 : Int32)) := by
  have eb := own_byte_last h2 h3
  refine ⟨List.length_set, fun j hj => List.getElem?_set_ne (by omega), 1, .last h2 h3 (List.getElem?_set_self (by rw [own_tnc, hl]; omega)) (fun q => ?_) ?_, own_succ h0 (by omega)⟩
  · rw [own_lt32, eb, own_0] at q; omega
  · rw [own_mask, eb]; omega
theorem own_put_step {n : Nat} {us us' : List Value} {cu r : Int32} {lf : Int64} (hP : own_LP (n + 1) cu lf us) (h : ¬ lf < (128 : Int64)) (q : own_Put (us.set cu.toNatClampNeg (.int (nar .byte ((lf ||| (128 : Int64)).toInt32.toInt8.toInt32)))) us' (cu + (1 : Int32)) (XT.ushrL lf (7 : Int32)) r) : own_Put us us' cu lf r := by
  obtain ⟨hl, h0, h1, h2, -⟩ := hP
  obtain ⟨q1, q2, k, q3, q4⟩ := q
  rw [own_lt64, own_128] at h
  have es := own_succ h0 (by omega)
  have eb := own_byte_more h2
  have et : (cu + (1 : Int32)).toNatClampNeg = cu.toNatClampNeg + 1 := by rw [own_tnc, own_tnc, es]; omega
  rw [et] at q2 q3
  rw [own_ushr7 h2] at q3
  refine ⟨q1.trans List.length_set, fun j hj => (q2 j (by omega)).trans (List.getElem?_set_ne (by omega)), k + 1, .more (by omega) ((q2 _ (by omega)).trans (List.getElem?_set_self (by rw [own_tnc, hl]; omega))) ?_ ?_ q3, by rw [q4, es]; omega⟩
  · rw [own_lt32, eb, own_0]; omega
  · rw [own_mask, eb]; omega
theorem own_LP_step {n : Nat} {us : List Value} {cu : Int32} {lf : Int64} {w : Value} (hP : own_LP (n + 1) cu lf us) : own_LP n (cu + (1 : Int32)) (XT.ushrL lf (7 : Int32)) (us.set cu.toNatClampNeg w) := by
  obtain ⟨hl, h0, h1, h2, h3⟩ := hP
  have es := own_succ h0 (by omega)
  refine ⟨List.length_set.trans hl, by omega, by rw [es]; omega, by rw [own_ushr7 h2]; omega, ?_⟩
  rw [own_ushr7 h2]
  rw [Int.pow_succ] at h3
  generalize (128 : Int) ^ n = P at *
  omega
theorem own_lp_in {n : Nat} {us : List Value} {cu : Int32} {lf : Int64} (hP : own_LP n cu lf us) : cu.toNatClampNeg < us.length := by
  obtain ⟨hl, h0, h1, -⟩ := hP
  rw [own_tnc, hl]; omega
theorem own_nn {x : Int32} (h : 0 ≤ x.toInt) : ¬ x < 0 := by rw [own_lt32, own_0]; omega
theorem own_lp_done {n : Nat} {us : List Value} {cu : Int32} {lf : Int64} (hP : own_LP n cu lf us) (h : lf < (128 : Int64)) : own_Put us (us.set cu.toNatClampNeg (.int (nar .byte (lf.toInt32.toInt8.toInt32)))) cu lf (cu + (1 : Int32)) := by
  obtain ⟨hl, h0, h1, h2, -⟩ := hP
  rw [own_lt64, own_128] at h
  exact own_put_last hl h0 (by omega) h2 h
theorem own_lp_zero {us : List Value} {cu : Int32} {lf : Int64} (hP : own_LP 0 cu lf us) : lf < (128 : Int64) := by
  obtain ⟨-, -, -, -, h⟩ := hP
  rw [own_lt64, own_128]
  exact h
/-- what one put asks -/
def own_PP (vs : List Value) (i : Int32) (z : Int64) : Prop := vs.length = 64 ∧ 0 ≤ i.toInt ∧ i.toInt ≤ 59 ∧ 0 ≤ z.toInt ∧ z.toInt < 34359738368
theorem own_pp_lp {vs : List Value} {i : Int32} {z : Int64} (h : own_PP vs i z) : own_LP 4 i z vs := by
  obtain ⟨a, b, c, d, f⟩ := h
  exact ⟨a, b, by omega, d, f⟩
theorem own_pp_nn {vs : List Value} {i : Int32} {z : Int64} (h : own_PP vs i z) : ¬ z < (0 : Int64) := by
  rw [own_lt64]; have := h.2.2.2.1; show ¬ z.toInt < 0; omega
theorem own_pp_one {vs : List Value} {i : Int32} {z : Int64} (h : own_PP vs i z) (q : XT.ushrL z (7 : Int32) = (0 : Int64)) : own_Put vs (vs.set i.toNatClampNeg (.int (nar .byte (z.toInt32.toInt8.toInt32)))) i z (i + (1 : Int32)) := by
  obtain ⟨a, b, c, d, f⟩ := h
  have e := own_ushr7 d
  rw [q] at e
  have e' : (0 : Int) = z.toInt / 128 := e
  exact own_put_last a b (by omega) d (by omega)
def own_code (gp fq : Int32) : Int64 := ((gp.toInt64) <<< (((1 : Int32)).toInt64 &&& 63)) ||| ((if fq = (1 : Int32) then (1 : Int32) else (0 : Int32)).toInt64)
theorem own_shl1 {gp : Int32} (h : 0 ≤ gp.toInt) : (gp.toInt64 <<< (((1 : Int32)).toInt64 &&& 63)).toInt = gp.toInt * 2 := by
  have hh := Int32.toInt_lt gp
  have := Jvm.Kit.i64_shl gp.toInt64 (((1 : Int32)).toInt64 &&& 63) (k := 1) (by decide) (by rw [Jvm.Kit.i64_of_i32]; omega) (by rw [Jvm.Kit.i64_of_i32]; omega)
  rw [this, Jvm.Kit.i64_of_i32]; omega
theorem own_code_val {gp fq : Int32} (h : 0 ≤ gp.toInt) : (own_code gp fq).toInt = 2 * gp.toInt + (if fq = (1 : Int32) then 1 else 0) := by
  have hh := Int32.toInt_lt gp
  have e := own_shl1 h
  unfold own_code
  generalize gp.toInt64 <<< (((1 : Int32)).toInt64 &&& 63) = A at *
  by_cases q : fq = (1 : Int32)
  · rw [if_pos q, if_pos q]
    have k : ((1 : Int32).toInt64).toInt = 1 := by decide
    have r := c_orL A ((1 : Int32).toInt64) 1 (by decide) 2 (by decide) (by omega) (by omega) (by omega)
    have t := (c_orSL A ((1 : Int32).toInt64)).1 (by omega) (by omega)
    have u := Int64.toInt_lt (A ||| (1 : Int32).toInt64)
    omega
  · rw [if_neg q, if_neg q]
    have k : ((0 : Int32).toInt64).toInt = 0 := by decide
    have r := c_orL A ((0 : Int32).toInt64) 1 (by decide) 2 (by decide) (by omega) (by omega) (by omega)
    have t := (c_orSL A ((0 : Int32).toInt64)).1 (by omega) (by omega)
    have u := Int64.toInt_lt (A ||| (0 : Int32).toInt64)
    omega
/-- the entry of a gap and a frequency stands from i on, up to r -/
def own_Ent (vs : List Value) (i gp fq r : Int32) : Prop := vs.length = 64 ∧ ∃ n1 n2 : Nat, own_Enc vs i.toNatClampNeg (2 * gp.toInt + (if fq = (1 : Int32) then 1 else 0)) n1 ∧ ((fq = (1 : Int32) ∧ n2 = 0) ∨ (fq ≠ (1 : Int32) ∧ own_Enc vs (i.toNatClampNeg + n1) fq.toInt n2)) ∧ r.toInt = i.toInt + n1 + n2
/-- what one entry asks -/
def own_EP (vs : List Value) (i gp fq : Int32) : Prop := vs.length = 64 ∧ 0 ≤ i.toInt ∧ i.toInt ≤ 54 ∧ 0 ≤ gp.toInt ∧ 1 ≤ fq.toInt
theorem own_code_rng {gp fq : Int32} (h : 0 ≤ gp.toInt) : 0 ≤ (own_code gp fq).toInt ∧ (own_code gp fq).toInt < 34359738368 := by
  have hh := Int32.toInt_lt gp
  rw [own_code_val h]
  split <;> omega
theorem own_ep_1 {vs : List Value} {i gp fq : Int32} (h : own_EP vs i gp fq) : own_PP vs i (own_code gp fq) := by
  obtain ⟨a, b, c, d, f⟩ := h
  exact ⟨a, b, by omega, (own_code_rng d).1, (own_code_rng d).2⟩
theorem own_put_r {vs vs' : List Value} {i r : Int32} {z : Int64} (h : own_PP vs i z) (q : own_Put vs vs' i z r) : vs'.length = 64 ∧ i.toInt + 1 ≤ r.toInt ∧ r.toInt ≤ i.toInt + 5 := by
  obtain ⟨a, b, c, d, f⟩ := h
  obtain ⟨q1, q2, n, q3, q4⟩ := q
  have l := q3.len f
  have l5 := own_vl_le z.toInt
  have l1 := q3.pos.1
  exact ⟨q1.trans a, by omega, by omega⟩
theorem own_ep_2 {vs vs' : List Value} {i gp fq r : Int32} (h : own_EP vs i gp fq) (q : own_Put vs vs' i (own_code gp fq) r) : own_PP vs' r (fq.toInt64) := by
  obtain ⟨a, b, c⟩ := own_put_r (own_ep_1 h) q
  obtain ⟨-, h1, h2, h3, h4⟩ := h
  have hh := Int32.toInt_lt fq
  exact ⟨a, by omega, by omega, by rw [Jvm.Kit.i64_of_i32]; omega, by rw [Jvm.Kit.i64_of_i32]; omega⟩
theorem own_ent_1 {vs vs' : List Value} {i gp fq r : Int32} (h : own_EP vs i gp fq) (q : own_Put vs vs' i (own_code gp fq) r) (hf : fq = (1 : Int32)) : own_Ent vs' i gp fq r := by
  have a := own_put_r (own_ep_1 h) q
  obtain ⟨q1, q2, n, q3, q4⟩ := q
  rw [own_code_val h.2.2.2.1] at q3
  exact ⟨a.1, n, 0, q3, Or.inl ⟨hf, rfl⟩, by rw [q4]; omega⟩
theorem own_ent_2 {vs vs' vs2 : List Value} {i gp fq r r2 : Int32} (h : own_EP vs i gp fq) (q : own_Put vs vs' i (own_code gp fq) r) (hf : ¬ fq = (1 : Int32)) (g : own_Put vs' vs2 r (fq.toInt64) r2) : own_Ent vs2 i gp fq r2 := by
  have a := own_put_r (own_ep_1 h) q
  have b := own_put_r (own_ep_2 h q) g
  have h0 := h.2.1
  obtain ⟨q1, q2, n, q3, q4⟩ := q
  obtain ⟨g1, g2, n2, g3, g4⟩ := g
  rw [own_code_val h.2.2.2.1] at q3
  rw [Jvm.Kit.i64_of_i32] at g3
  have er : r.toNatClampNeg = i.toNatClampNeg + n := by rw [own_tnc, own_tnc, q4]; omega
  rw [er] at g2 g3
  exact ⟨b.1, n, n2, q3.congr g2, Or.inr ⟨hf, g3⟩, by rw [g4, q4]⟩
/-- how long an entry is -/
def own_el (gp fq : Int32) : Int := (own_vl (2 * gp.toInt + (if fq = (1 : Int32) then 1 else 0)) : Int) + (if fq = (1 : Int32) then 0 else (own_vl fq.toInt : Int))
theorem own_ent_len {vs : List Value} {i gp fq r : Int32} (h : own_Ent vs i gp fq r) : r.toInt = i.toInt + own_el gp fq := by
  obtain ⟨-, n1, n2, h1, h2, h3⟩ := h
  have hh := Int32.toInt_lt gp
  have hq := Int32.toInt_lt fq
  have l1 := h1.len (by split <;> omega)
  unfold own_el
  rcases h2 with ⟨a, b⟩ | ⟨a, b⟩
  · rw [if_pos a] at *
    rw [if_pos a]
    omega
  · have l2 := b.len (by omega)
    rw [if_neg a] at *
    rw [if_neg a]
    omega
theorem own_el_rng (gp fq : Int32) : 0 ≤ own_el gp fq ∧ own_el gp fq ≤ 10 := by
  unfold own_el
  have a := own_vl_le (2 * gp.toInt + (if fq = (1 : Int32) then 1 else 0))
  have b := own_vl_le fq.toInt
  generalize own_vl (2 * gp.toInt + (if fq = (1 : Int32) then 1 else 0)) = u at *
  generalize own_vl fq.toInt = w at *
  split <;> omega
/-! reading it again -/
def own_sh (sh : Int32) (P : Int) : Prop := (sh = 0 ∧ P = 1) ∨ (sh = 7 ∧ P = 128) ∨ (sh = 14 ∧ P = 16384) ∨ (sh = 21 ∧ P = 2097152) ∨ (sh = 28 ∧ P = 268435456)
theorem own_rd64 {sh : Int32} {P : Int} (hs : own_sh sh P) {ac : Int64} {b : Int32} {y : Int} (hy : (b &&& (127 : Int32)).toInt = y) (h0 : 0 ≤ y) (h1 : y < 128) (h2 : 0 ≤ ac.toInt) (h3 : ac.toInt < P) :
    (ac ||| (((b &&& (127 : Int32)).toInt64) <<< (sh.toInt64 &&& 63))).toInt = ac.toInt + y * P := by
  generalize b &&& (127 : Int32) = B at *
  have key : ∀ (k : Nat) (n : Int64), k ≤ 28 → (n.toBitVec.smod 64).toNat = k → ac.toInt < ((2 ^ k : Nat) : Int) → (ac ||| (B.toInt64 <<< n)).toInt = ac.toInt + y * ((2 ^ k : Nat) : Int) := by
    intro k n hk hn hac
    have pk : ((2 ^ k : Nat) : Int) ≤ 268435456 := by
      have : 2 ^ k ≤ 2 ^ 28 := Nat.pow_le_pow_right (by decide) hk
      have e : (2 : Nat) ^ 28 = 268435456 := by decide
      omega
    have pp : 0 < ((2 ^ k : Nat) : Int) := by have := Nat.two_pow_pos k; omega
    have ep : (2 : Int) ^ k = ((2 ^ k : Nat) : Int) := by norm_cast
    have b1 : 0 ≤ y * ((2 ^ k : Nat) : Int) := Int.mul_nonneg h0 (by omega)
    have b2 : y * ((2 ^ k : Nat) : Int) ≤ 127 * 268435456 := Int.mul_le_mul (by omega) pk (by omega) (by omega)
    have sl := Jvm.Kit.i64_shl B.toInt64 n (k := k) hn (by rw [Jvm.Kit.i64_of_i32, hy, ep]; omega) (by rw [Jvm.Kit.i64_of_i32, hy, ep]; omega)
    rw [Jvm.Kit.i64_of_i32, hy, ep] at sl
    generalize B.toInt64 <<< n = A at *
    have r := c_orL' ac A k (by omega) ((2 ^ k : Nat) : Int) rfl (by rw [sl]; exact Int.mul_emod_left _ _) h2 hac
    have t := (c_orSL ac A).1 h2 (by omega)
    have u := Int64.toInt_lt (ac ||| A)
    omega
  rcases hs with ⟨rfl, rfl⟩ | ⟨rfl, rfl⟩ | ⟨rfl, rfl⟩ | ⟨rfl, rfl⟩ | ⟨rfl, rfl⟩
  · exact key 0 _ (by decide) (by decide) h3
  · exact key 7 _ (by decide) (by decide) h3
  · exact key 14 _ (by decide) (by decide) h3
  · exact key 21 _ (by decide) (by decide) h3
  · exact key 28 _ (by decide) (by decide) h3
theorem own_rd32 {sh : Int32} {P : Int} (hs : own_sh sh P) {ac : Int32} {b : Int32} {y : Int} (hy : (b &&& (127 : Int32)).toInt = y) (h0 : 0 ≤ y) (hv : ac.toInt + y * P < 2147483648) (h2 : 0 ≤ ac.toInt) (h3 : ac.toInt < P) :
    (ac ||| ((b &&& (127 : Int32)) <<< (sh &&& 31))).toInt = ac.toInt + y * P := by
  generalize b &&& (127 : Int32) = B at *
  have key : ∀ (k : Nat) (n : Int32), k ≤ 28 → (n.toBitVec.smod 32).toNat = k → ac.toInt < ((2 ^ k : Nat) : Int) → ac.toInt + y * ((2 ^ k : Nat) : Int) < 2147483648 → (ac ||| (B <<< n)).toInt = ac.toInt + y * ((2 ^ k : Nat) : Int) := by
    intro k n hk hn hac hv
    have pp : 0 < ((2 ^ k : Nat) : Int) := by have := Nat.two_pow_pos k; omega
    have ep : (2 : Int) ^ k = ((2 ^ k : Nat) : Int) := by norm_cast
    have b1 : 0 ≤ y * ((2 ^ k : Nat) : Int) := Int.mul_nonneg h0 (by omega)
    have sl := Jvm.Kit.i32_shl B n (k := k) hn (by rw [hy, ep]; omega) (by rw [hy, ep]; omega)
    rw [hy, ep] at sl
    generalize B <<< n = A at *
    have r := c_or' ac A k (by omega) ((2 ^ k : Nat) : Int) rfl (by rw [sl]; exact Int.mul_emod_left _ _) h2 hac
    have t := (c_orS ac A).1 h2 (by omega)
    have u := Int32.toInt_lt (ac ||| A)
    omega
  rcases hs with ⟨rfl, rfl⟩ | ⟨rfl, rfl⟩ | ⟨rfl, rfl⟩ | ⟨rfl, rfl⟩ | ⟨rfl, rfl⟩
  · exact key 0 _ (by decide) (by decide) h3 hv
  · exact key 7 _ (by decide) (by decide) h3 hv
  · exact key 14 _ (by decide) (by decide) h3 hv
  · exact key 21 _ (by decide) (by decide) h3 hv
  · exact key 28 _ (by decide) (by decide) h3 hv
def own_Pre (vs : List Value) (n : Nat) (ak : Int32) (ac : Int64) (sh : Int32) (V E : Int) : Prop := ∃ P v, own_sh sh P ∧ own_Enc vs ak.toNatClampNeg v n ∧ 0 ≤ ak.toInt ∧ ak.toInt + n = E ∧ E ≤ 64 ∧ 0 ≤ ac.toInt ∧ ac.toInt < P ∧ ac.toInt + v * P = V ∧ V < 34359738368
def own_RD (vs : List Value) (n : Nat) (ak : Int32) (ac : Int64) (sh bq : Int32) (V E : Int) : Prop := (n = 0 ∧ ¬ bq < 0 ∧ ac.toInt = V ∧ ak.toInt = E) ∨ (n ≠ 0 ∧ bq < 0 ∧ own_Pre vs n ak ac sh V E)
theorem own_sh_next {sh : Int32} {P : Int} (hs : own_sh sh P) (h : P < 268435456) : own_sh (sh + (7 : Int32)) (P * 128) := by
  rcases hs with ⟨rfl, rfl⟩ | ⟨rfl, rfl⟩ | ⟨rfl, rfl⟩ | ⟨rfl, rfl⟩ | ⟨rfl, rfl⟩
  · exact Or.inr (Or.inl ⟨by decide, by decide⟩)
  · exact Or.inr (Or.inr (Or.inl ⟨by decide, by decide⟩))
  · exact Or.inr (Or.inr (Or.inr (Or.inl ⟨by decide, by decide⟩)))
  · exact Or.inr (Or.inr (Or.inr (Or.inr ⟨by decide, by decide⟩)))
  · omega
theorem own_shP {sh : Int32} {P : Int} (hs : own_sh sh P) : P = 1 ∨ P = 128 ∨ P = 16384 ∨ P = 2097152 ∨ P = 268435456 := by
  rcases hs with ⟨_, h⟩ | ⟨_, h⟩ | ⟨_, h⟩ | ⟨_, h⟩ | ⟨_, h⟩ <;> omega
theorem own_rd_step {vs : List Value} {n : Nat} {ak sh : Int32} {ac : Int64} {V E : Int} (h : own_Pre vs (n + 1) ak ac sh V E) :
    ∃ b : Int32, ¬ ak < 0 ∧ vs[ak.toNatClampNeg]? = some (.int b) ∧ own_RD vs n (ak + (1 : Int32)) (ac ||| (((b &&& (127 : Int32)).toInt64) <<< (sh.toInt64 &&& 63))) (sh + (7 : Int32)) b V E := by
  obtain ⟨P, v, hs, hE, h1, h2, h3, h4, h5, h6, h7⟩ := h
  have es := own_succ h1 (by omega)
  have pc := own_shP hs
  rcases hE.dec with ⟨z0, a1, a2, b, a3, a4, a5⟩ | ⟨n', z0, a1, b, a2, a3, a4, a5⟩
  · obtain rfl : n = 0 := by omega
    refine ⟨b, own_nn h1, a3, Or.inl ⟨rfl, a4, ?_, by rw [es]; omega⟩⟩
    rw [own_rd64 hs a5 a1 a2 h4 h5, h6]
  · obtain rfl : n = n' := by omega
    have r := own_rd64 hs a4 (by omega) (by omega) h4 h5
    have p1 := a5.pos
    refine ⟨b, own_nn h1, a2, Or.inr ⟨by omega, a3, P * 128, v / 128, own_sh_next hs (by rcases pc with rfl | rfl | rfl | rfl | rfl <;> omega), ?_, by rw [es]; omega, by rw [es]; omega, h3, ?_, ?_, ?_, h7⟩⟩
    · have et : (ak + (1 : Int32)).toNatClampNeg = ak.toNatClampNeg + 1 := by rw [own_tnc, own_tnc, es]; omega
      rw [et]; exact a5
    · rw [r]; rcases pc with rfl | rfl | rfl | rfl | rfl <;> omega
    · rw [r]; rcases pc with rfl | rfl | rfl | rfl | rfl <;> omega
    · rw [r]; rcases pc with rfl | rfl | rfl | rfl | rfl <;> omega
theorem own_rd_zero {vs : List Value} {ak sh bq : Int32} {ac : Int64} {V E : Int} (h : own_RD vs 0 ak ac sh bq V E) : ¬ bq < 0 ∧ ac.toInt = V ∧ ak.toInt = E := by
  rcases h with h | h
  · exact h.2
  · exact absurd rfl h.1
theorem own_rd_succ {vs : List Value} {n : Nat} {ak sh bq : Int32} {ac : Int64} {V E : Int} (h : own_RD vs (n + 1) ak ac sh bq V E) : bq < 0 ∧ own_Pre vs (n + 1) ak ac sh V E := by
  rcases h with h | h
  · exact absurd h.1 (by omega)
  · exact h.2
def own_Pre32 (vs : List Value) (n : Nat) (ak : Int32) (ac : Int32) (sh : Int32) (V E : Int) : Prop := ∃ P v, own_sh sh P ∧ own_Enc vs ak.toNatClampNeg v n ∧ 0 ≤ ak.toInt ∧ ak.toInt + n = E ∧ E ≤ 64 ∧ 0 ≤ ac.toInt ∧ ac.toInt < P ∧ ac.toInt + v * P = V ∧ V < 2147483648
def own_RD32 (vs : List Value) (n : Nat) (ak : Int32) (ac : Int32) (sh bq : Int32) (V E : Int) : Prop := (n = 0 ∧ ¬ bq < 0 ∧ ac.toInt = V ∧ ak.toInt = E) ∨ (n ≠ 0 ∧ bq < 0 ∧ own_Pre32 vs n ak ac sh V E)
theorem own_rd_step32 {vs : List Value} {n : Nat} {ak sh : Int32} {ac : Int32} {V E : Int} (h : own_Pre32 vs (n + 1) ak ac sh V E) :
    ∃ b : Int32, ¬ ak < 0 ∧ vs[ak.toNatClampNeg]? = some (.int b) ∧ own_RD32 vs n (ak + (1 : Int32)) (ac ||| ((b &&& (127 : Int32)) <<< (sh &&& 31))) (sh + (7 : Int32)) b V E := by
  obtain ⟨P, v, hs, hE, h1, h2, h3, h4, h5, h6, h7⟩ := h
  have es := own_succ h1 (by omega)
  have pc := own_shP hs
  rcases hE.dec with ⟨z0, a1, a2, b, a3, a4, a5⟩ | ⟨n', z0, a1, b, a2, a3, a4, a5⟩
  · obtain rfl : n = 0 := by omega
    refine ⟨b, own_nn h1, a3, Or.inl ⟨rfl, a4, ?_, by rw [es]; omega⟩⟩
    rw [own_rd32 hs a5 a1 (by omega) h4 h5, h6]
  · obtain rfl : n = n' := by omega
    have r := own_rd32 hs a4 (by omega) (by rcases pc with rfl | rfl | rfl | rfl | rfl <;> omega) h4 h5
    have p1 := a5.pos
    refine ⟨b, own_nn h1, a2, Or.inr ⟨by omega, a3, P * 128, v / 128, own_sh_next hs (by rcases pc with rfl | rfl | rfl | rfl | rfl <;> omega), ?_, by rw [es]; omega, by rw [es]; omega, h3, ?_, ?_, ?_, h7⟩⟩
    · have et : (ak + (1 : Int32)).toNatClampNeg = ak.toNatClampNeg + 1 := by rw [own_tnc, own_tnc, es]; omega
      rw [et]; exact a5
    · rw [r]; rcases pc with rfl | rfl | rfl | rfl | rfl <;> omega
    · rw [r]; rcases pc with rfl | rfl | rfl | rfl | rfl <;> omega
    · rw [r]; rcases pc with rfl | rfl | rfl | rfl | rfl <;> omega
theorem own_rd_zero32 {vs : List Value} {ak sh bq : Int32} {ac : Int32} {V E : Int} (h : own_RD32 vs 0 ak ac sh bq V E) : ¬ bq < 0 ∧ ac.toInt = V ∧ ak.toInt = E := by
  rcases h with h | h
  · exact h.2
  · exact absurd rfl h.1
theorem own_rd_succ32 {vs : List Value} {n : Nat} {ak sh bq : Int32} {ac : Int32} {V E : Int} (h : own_RD32 vs (n + 1) ak ac sh bq V E) : bq < 0 ∧ own_Pre32 vs (n + 1) ak ac sh V E := by
  rcases h with h | h
  · exact absurd h.1 (by omega)
  · exact h.2
/-! the law's own numbers -/
def own_Base (hF hS d0 d1 f0 f1 : Int32) : Prop := 0 ≤ d0.toInt ∧ 1 ≤ f0.toInt ∧ 1 ≤ f1.toInt ∧ (¬ hS = 0 → ¬ hF = 0 ∧ d0.toInt < d1.toInt)
theorem own_M : (2147483647 : Int32).toInt = 2147483647 := rfl
theorem own_d0 (y : Int32) : 0 ≤ (y &&& (2147483647 : Int32)).toInt := by
  have e : (y &&& (2147483647 : Int32)).toInt = y.toInt % 2 ^ 31 := Jvm.Kit.i32_mask y 2147483647 (k := 31) (by decide) (by decide)
  omega
theorem own_max1 (y : Int32) : 1 ≤ (if (1 : Int32) < y then y else (1 : Int32)).toInt := by
  by_cases h : (1 : Int32) < y
  · rw [if_pos h]; rw [own_lt32, own_1] at h; omega
  · rw [if_neg h, own_1]; omega
theorem own_hs {hF hS u1 d0 : Int32} (h : hS = (if hF = 0 then (0 : Int32) else (if (u1 &&& (2 : Int32)) = 0 then (0 : Int32) else (if d0 < (2147483647 : Int32) then (1 : Int32) else (0 : Int32))))) (hn : ¬ hS = 0) : ¬ hF = 0 ∧ d0.toInt < 2147483647 := by
  by_cases q : hF = 0
  · rw [if_pos q] at h; exact absurd h hn
  · rw [if_neg q] at h
    by_cases r : (u1 &&& (2 : Int32)) = 0
    · rw [if_pos r] at h; exact absurd h hn
    · rw [if_neg r] at h
      by_cases t : d0 < (2147483647 : Int32)
      · rw [own_lt32, own_M] at t; exact ⟨q, t⟩
      · rw [if_neg t] at h; exact absurd h hn
theorem own_dif {d0 : Int32} (h0 : 0 ≤ d0.toInt) : ((2147483647 : Int32) - d0).toInt = 2147483647 - d0.toInt := Jvm.Kit.i32_sub (by rw [own_M]; have := Int32.toInt_lt d0; omega) (by rw [own_M]; omega)
theorem own_nz {d0 : Int32} (h0 : 0 ≤ d0.toInt) (h : d0.toInt < 2147483647) : (2147483647 : Int32) - d0 ≠ 0 := by
  intro q
  have e := own_dif h0
  rw [q] at e
  have e' : (0 : Int) = 2147483647 - d0.toInt := e
  omega
theorem own_base {hF hS u1 u2 u3 d1 f0 f1 y0 y1 : Int32} (h8 : hS = (if hF = 0 then (0 : Int32) else (if (u1 &&& (2 : Int32)) = 0 then (0 : Int32) else (if (u2 &&& (2147483647 : Int32)) < (2147483647 : Int32) then (1 : Int32) else (0 : Int32)))))
    (h9 : d1 = (if hS = 0 then (0 : Int32) else (((u2 &&& (2147483647 : Int32)) + (1 : Int32)) + ((u3 &&& (2147483647 : Int32)) % ((2147483647 : Int32) - (u2 &&& (2147483647 : Int32))))))) (hf0 : f0 = (if (1 : Int32) < y0 then y0 else (1 : Int32))) (hf1 : f1 = (if (1 : Int32) < y1 then y1 else (1 : Int32))) :
    own_Base hF hS (u2 &&& (2147483647 : Int32)) d1 f0 f1 := by
  have b0 := own_d0 u2
  have b3 := own_d0 u3
  generalize u2 &&& (2147483647 : Int32) = d0 at *
  generalize u3 &&& (2147483647 : Int32) = w at *
  refine ⟨b0, hf0 ▸ own_max1 y0, hf1 ▸ own_max1 y1, fun hn => ?_⟩
  obtain ⟨hf, hlt⟩ := own_hs h8 hn
  refine ⟨hf, ?_⟩
  rw [if_neg hn] at h9
  have e1 := own_dif b0
  have e2 : (w % ((2147483647 : Int32) - d0)).toInt = w.toInt % (2147483647 - d0.toInt) := by rw [Jvm.Kit.i32_rem_nonneg b3, e1]
  have e3 : 0 ≤ w.toInt % (2147483647 - d0.toInt) := Int.emod_nonneg _ (by omega)
  have e4 : w.toInt % (2147483647 - d0.toInt) < 2147483647 - d0.toInt := Int.emod_lt_of_pos _ (by omega)
  have e5 : (d0 + (1 : Int32)).toInt = d0.toInt + 1 := Jvm.Kit.i32_add (by rw [own_1]; omega) (by rw [own_1]; omega)
  have e6 : ((d0 + (1 : Int32)) + (w % ((2147483647 : Int32) - d0))).toInt = d0.toInt + 1 + w.toInt % (2147483647 - d0.toInt) := by
    rw [Jvm.Kit.i32_add (by rw [e5, e2]; omega) (by rw [e5, e2]; omega), e5, e2]
  rw [h9, e6]
  omega
def own_Inv (hF hS d0 d1 f0 f1 : Int32) (vs : List Value) (len cnt fst ff fl lst : Int32) : Prop := vs.length = 64 ∧
  ((hF = 0 ∧ hS = 0 ∧ len = 0 ∧ cnt = 0 ∧ fst = 0 ∧ ff = 0 ∧ fl = 0 ∧ lst = -1) ∨
   (¬ hF = 0 ∧ hS = 0 ∧ cnt = 1 ∧ fst = d0 ∧ ff = f0 ∧ fl = len ∧ 0 ≤ len.toInt ∧ len.toInt ≤ 10 ∧ lst = d0) ∨
   (¬ hF = 0 ∧ ¬ hS = 0 ∧ cnt = 2 ∧ fst = d0 ∧ ff = f0 ∧ lst = d1 ∧ 0 ≤ fl.toInt ∧ fl.toInt ≤ 10 ∧ own_Ent vs fl (d1 - d0) f1 len))
def own_Z64 : List Value := List.replicate 64 (.int (0 : Int32))
theorem own_inv0 {hF d0 d1 f0 f1 : Int32} (h : hF = 0) : own_Inv hF 0 d0 d1 f0 f1 own_Z64 (0 : Int32) (0 : Int32) (0 : Int32) (0 : Int32) (0 : Int32) (-1 : Int32) := ⟨by decide +kernel, Or.inl ⟨h, rfl, rfl, rfl, rfl, rfl, rfl, rfl⟩⟩
theorem own_inv1 {hF d0 d1 f0 f1 r : Int32} {vs : List Value} (h : ¬ hF = 0) (hE : own_Ent vs (0 : Int32) d0 f0 r) : own_Inv hF 0 d0 d1 f0 f1 vs r ((0 : Int32) + (1 : Int32)) d0 f0 (r - (0 : Int32)) d0 := by
  have l := own_ent_len hE
  have b := own_el_rng d0 f0
  rw [own_0] at l
  refine ⟨hE.1, Or.inr (Or.inl ⟨h, rfl, by decide, rfl, rfl, ?_, by omega, by omega, rfl⟩)⟩
  exact Int32.sub_zero r
theorem own_inv2 {hF hS d0 d1 f0 f1 len cnt fst ff fl lst : Int32} {vs : List Value} (h : hS = 0) (hI : own_Inv hF 0 d0 d1 f0 f1 vs len cnt fst ff fl lst) : own_Inv hF hS d0 d1 f0 f1 vs len cnt fst ff fl lst := by
  subst h; exact hI
theorem own_inv_one {hF d0 d1 f0 f1 len cnt fst ff fl lst : Int32} {vs : List Value} (h : ¬ hF = 0) (hI : own_Inv hF 0 d0 d1 f0 f1 vs len cnt fst ff fl lst) : vs.length = 64 ∧ cnt = 1 ∧ fst = d0 ∧ ff = f0 ∧ fl = len ∧ 0 ≤ len.toInt ∧ len.toInt ≤ 10 ∧ lst = d0 := by
  obtain ⟨hl, hI | hI | hI⟩ := hI
  · exact absurd hI.1 h
  · exact ⟨hl, hI.2.2⟩
  · exact absurd rfl hI.2.1
theorem own_inv3 {hF hS d0 d1 f0 f1 len cnt fst ff fl lst r : Int32} {vs vs' : List Value} (hB : own_Base hF hS d0 d1 f0 f1) (h : ¬ hS = 0) (hI : own_Inv hF 0 d0 d1 f0 f1 vs len cnt fst ff fl lst) (hE : own_Ent vs' len (d1 - lst) f1 r) : own_Inv hF hS d0 d1 f0 f1 vs' r (cnt + (1 : Int32)) fst ff fl d1 := by
  obtain ⟨hf, -⟩ := hB.2.2.2 h
  obtain ⟨-, rfl, rfl, rfl, rfl, h5, h6, rfl⟩ := own_inv_one hf hI
  exact ⟨hE.1, Or.inr (Or.inr ⟨hf, h, by decide, rfl, rfl, rfl, h5, h6, hE⟩)⟩
/-- what an add asks -/
def own_AP (vs : List Value) (dc fq len lst gp : Int32) : Prop := ¬ dc < 0 ∧ lst < dc ∧ ¬ fq < (1 : Int32) ∧ own_EP vs len gp fq
theorem own_ap_of {vs : List Value} {dc fq len lst gp : Int32} (hl : vs.length = 64) (h1 : 0 ≤ dc.toInt) (h2 : lst.toInt < dc.toInt) (h3 : 1 ≤ fq.toInt) (h4 : 0 ≤ len.toInt) (h5 : len.toInt ≤ 54) (h6 : 0 ≤ gp.toInt) : own_AP vs dc fq len lst gp :=
  ⟨own_nn h1, own_lt32.mpr h2, fun q => by rw [own_lt32, own_1] at q; omega, hl, h4, h5, h6, h3⟩
theorem own_ap0 {hF hS d0 d1 f0 f1 : Int32} (hB : own_Base hF hS d0 d1 f0 f1) : own_AP own_Z64 d0 f0 (0 : Int32) (-1 : Int32) d0 :=
  own_ap_of (by decide +kernel) hB.1 (by have := hB.1; show (-1 : Int) < _; omega) hB.2.1 (by decide) (by decide) hB.1
theorem own_u8 (y : Int32) : 0 ≤ (XT.ushr y (8 : Int32)).toInt := by
  have e : (XT.ushr y (8 : Int32)).toBitVec = y.toBitVec >>> 8 := rfl
  have e2 : (XT.ushr y (8 : Int32)).toInt = (y.toBitVec >>> 8).toInt := congrArg BitVec.toInt e
  rw [e2, BitVec.toInt_eq_toNat_bmod, BitVec.toNat_ushiftRight, Nat.shiftRight_eq_div_pow]
  have := y.toBitVec.isLt
  rw [own_bm]
  omega
theorem own_ap0r (y : Int32) : own_AP own_Z64 (XT.ushr y (8 : Int32)) (2 : Int32) (0 : Int32) (-1 : Int32) (XT.ushr y (8 : Int32)) :=
  own_ap_of (by decide +kernel) (own_u8 y) (by have := own_u8 y; show (-1 : Int) < _; omega) (by decide) (by decide) (by decide) (own_u8 y)
theorem own_ap1 {hF hS d0 d1 f0 f1 len cnt fst ff fl lst : Int32} {vs : List Value} (hB : own_Base hF hS d0 d1 f0 f1) (h : ¬ hS = 0) (hI : own_Inv hF 0 d0 d1 f0 f1 vs len cnt fst ff fl lst) : own_AP vs d1 f1 len lst (d1 - lst) ∧ ¬ cnt = 0 := by
  obtain ⟨hf, hd⟩ := hB.2.2.2 h
  obtain ⟨hl, rfl, rfl, rfl, rfl, h5, h6, rfl⟩ := own_inv_one hf hI
  have b := hB.1
  have t := Int32.toInt_lt d1
  have e : (d1 - lst).toInt = d1.toInt - lst.toInt := Jvm.Kit.i32_sub (by omega) (by omega)
  exact ⟨own_ap_of hl (by omega) hd hB.2.2.1 h5 (by omega) (by rw [e]; omega), by decide⟩
theorem own_room {len : Int32} (h0 : 0 ≤ len.toInt) (h1 : len.toInt ≤ 54) : ¬ ((64 : Int32) - len) < (10 : Int32) := by
  have e : ((64 : Int32) - len).toInt = 64 - len.toInt := Jvm.Kit.i32_sub (by show _ ≤ (64 : Int) - _; omega) (by show (64 : Int) - _ < _; omega)
  rw [own_lt32, e]; show ¬ 64 - len.toInt < 10; omega
/-! positions -/
theorem own_k7 (y : Int32) : 0 ≤ (y &&& (7 : Int32)).toInt ∧ (y &&& (7 : Int32)).toInt ≤ 7 := by
  have e : (y &&& (7 : Int32)).toInt = y.toInt % 2 ^ 3 := Jvm.Kit.i32_mask y 7 (k := 3) (by decide) (by decide)
  omega
def own_Pos (oP nP pos pl : Int32) : Prop := (oP = 0 ∧ pos = 0 ∧ pl = 0) ∨ (¬ oP = 0 ∧ pos = nar .boolean (1 : Int32) ∧ pl = (0 : Int32) + nP)
theorem own_kz {kn : Int32} (h : 0 ≤ kn.toInt ∧ kn.toInt ≤ 7) (q : ¬ (0 : Int32) < kn) : kn = 0 := own_i32 (by rw [own_lt32, own_0] at q; rw [own_0]; omega)
theorem own_sub0 (kn : Int32) : kn - (0 : Int32) = kn := Int32.sub_zero kn
theorem own_zadd (kn : Int32) : (0 : Int32) + kn = kn := Int32.zero_add kn
theorem own_gl {kn : Int32} (h : 0 ≤ kn.toInt ∧ kn.toInt ≤ 7) : ¬ (2147483639 : Int64) < (((0 : Int32).toInt64) + (kn.toInt64)) := by
  have e : (((0 : Int32).toInt64) + (kn.toInt64)).toInt = kn.toInt := by
    have e0 : ((0 : Int32).toInt64).toInt = 0 := by decide
    rw [Jvm.Kit.i64_add (by rw [e0, Jvm.Kit.i64_of_i32]; omega) (by rw [e0, Jvm.Kit.i64_of_i32]; omega), e0, Jvm.Kit.i64_of_i32]; omega
  rw [own_lt64, e]; show ¬ (2147483639 : Int) < kn.toInt; omega
def own_mxL (x y : Int64) : Int64 := if x < y then y else x
def own_mnL (x y : Int64) : Int64 := if y < x then y else x
theorem own_grown {kn : Int32} (h : 0 ≤ kn.toInt ∧ kn.toInt ≤ 7) : (own_mnL (2147483639 : Int64) (own_mxL ((2 : Int64) * ((0 : Int32).toInt64)) (((0 : Int32).toInt64) + (kn.toInt64)))).toInt32 = kn := by
  have e : (((0 : Int32).toInt64) + (kn.toInt64)).toInt = kn.toInt := by
    have e0 : ((0 : Int32).toInt64).toInt = 0 := by decide
    rw [Jvm.Kit.i64_add (by rw [e0, Jvm.Kit.i64_of_i32]; omega) (by rw [e0, Jvm.Kit.i64_of_i32]; omega), e0, Jvm.Kit.i64_of_i32]; omega
  have z : ((2 : Int64) * ((0 : Int32).toInt64)) = 0 := by decide
  rw [z]
  generalize ((0 : Int32).toInt64) + (kn.toInt64) = y at *
  have m : (own_mxL 0 y).toInt = kn.toInt := by
    unfold own_mxL
    split
    · exact e
    · rename_i q; rw [own_lt64, e] at q; have q' : ¬ (0 : Int) < kn.toInt := q; show (0 : Int) = _; omega
  generalize own_mxL 0 y = w at *
  have n : own_mnL (2147483639 : Int64) w = w := by
    unfold own_mnL
    rw [if_pos]
    rw [own_lt64, m]; show kn.toInt < 2147483639; omega
  rw [n]
  exact own_i32 (by rw [Jvm.Kit.i32_of_i64 (by omega) (by omega), m])
theorem own_min0 {kn : Int32} (q : (0 : Int32) < kn) : (if kn < (0 : Int32) then kn else (0 : Int32)) = (0 : Int32) := if_neg (fun r => by rw [own_lt32, own_0] at q r; omega)
theorem own_kne {kn : Int32} (q : (0 : Int32) < kn) : ¬ kn = (0 : Int32) := fun r => by subst r; exact absurd q (by decide)
theorem own_tn7 {kn : Int32} (h : 0 ≤ kn.toInt ∧ kn.toInt ≤ 7) : kn.toNatClampNeg ≤ 7 := by rw [own_tnc]; omega
/-! sizes -/
def own_vs (z : Int64) : Int32 := if z < (128 : Int64) then (1 : Int32) else if z < (16384 : Int64) then (2 : Int32) else if z < (2097152 : Int64) then (3 : Int32) else if z < (268435456 : Int64) then (4 : Int32) else (5 : Int32)
theorem own_vs_vl (z : Int64) : (own_vs z).toInt = own_vl z.toInt := by
  unfold own_vs own_vl
  simp only [own_lt64]
  show (if z.toInt < 128 then (1 : Int32) else if z.toInt < 16384 then (2 : Int32) else if z.toInt < 2097152 then (3 : Int32) else if z.toInt < 268435456 then (4 : Int32) else (5 : Int32)).toInt = _
  by_cases h1 : z.toInt < 128
  · rw [if_pos h1, if_pos h1]; rfl
  rw [if_neg h1, if_neg h1]
  by_cases h2 : z.toInt < 16384
  · rw [if_pos h2, if_pos h2]; rfl
  rw [if_neg h2, if_neg h2]
  by_cases h3 : z.toInt < 2097152
  · rw [if_pos h3, if_pos h3]; rfl
  rw [if_neg h3, if_neg h3]
  by_cases h4 : z.toInt < 268435456
  · rw [if_pos h4, if_pos h4]; rfl
  rw [if_neg h4, if_neg h4]; rfl
def own_codeE (gp fq : Int32) : Int64 := ((gp.toInt64) <<< (((1 : Int32)).toInt64 &&& 63)) ||| (if fq = (1 : Int32) then (1 : Int64) else (0 : Int64))
theorem own_codeE_eq (gp fq : Int32) : own_codeE gp fq = own_code gp fq := by
  unfold own_codeE own_code
  by_cases h : fq = (1 : Int32)
  · rw [if_pos h, if_pos h]; rfl
  · rw [if_neg h, if_neg h]; rfl
def own_es (gp fq : Int32) : Int32 := if fq = (1 : Int32) then own_vs (own_codeE gp fq) else own_vs (own_codeE gp fq) + own_vs (fq.toInt64)
theorem own_es_1 {gp fq : Int32} (h : fq = (1 : Int32)) : own_vs (((gp.toInt64) <<< (((1 : Int32)).toInt64 &&& 63)) ||| (if fq = (1 : Int32) then (1 : Int64) else (0 : Int64))) = own_es gp fq := (if_pos h).symm
theorem own_es_2 {gp fq : Int32} (h : ¬ fq = (1 : Int32)) : own_vs (((gp.toInt64) <<< (((1 : Int32)).toInt64 &&& 63)) ||| (if fq = (1 : Int32) then (1 : Int64) else (0 : Int64))) + own_vs (fq.toInt64) = own_es gp fq := (if_neg h).symm
theorem own_es_el {gp fq : Int32} (h : 0 ≤ gp.toInt) : (own_es gp fq).toInt = own_el gp fq := by
  unfold own_es own_el
  rw [own_codeE_eq]
  have a := own_vs_vl (own_code gp fq)
  have b := own_vs_vl fq.toInt64
  rw [own_code_val h] at a
  rw [Jvm.Kit.i64_of_i32] at b
  have c := own_vl_le (2 * gp.toInt + (if fq = (1 : Int32) then 1 else 0))
  have d := own_vl_le fq.toInt
  by_cases q : fq = (1 : Int32)
  · simp only [if_pos q] at *
    rw [a]; omega
  · simp only [if_neg q] at *
    rw [Jvm.Kit.i32_add (by omega) (by omega), a, b]
/-! the checks -/
theorem own_cnt {hF hS d0 d1 f0 f1 len cnt fst ff fl lst : Int32} {vs : List Value} (hI : own_Inv hF hS d0 d1 f0 f1 vs len cnt fst ff fl lst) : ¬ (128 : Int32) < cnt := by
  obtain ⟨-, hI | hI | hI⟩ := hI
  · rw [hI.2.2.2.1]; decide
  · rw [hI.2.2.1]; decide
  · rw [hI.2.2.1]; decide
theorem own_fin1 {hF hS d0 d1 f0 f1 len cnt fst ff fl lst w : Int32} {vs : List Value} (hI : own_Inv hF hS d0 d1 f0 f1 vs len cnt fst ff fl lst) (h : w = (if hF = 0 then (0 : Int32) else d0)) : fst = w := by
  obtain ⟨-, hI | hI | hI⟩ := hI
  · rw [if_pos hI.1] at h; rw [h]; exact hI.2.2.2.2.1
  · rw [if_neg hI.1] at h; rw [h]; exact hI.2.2.2.1
  · rw [if_neg hI.1] at h; rw [h]; exact hI.2.2.2.1
theorem own_fin2 {hF hS d0 d1 f0 f1 len cnt fst ff fl lst w : Int32} {vs : List Value} (hI : own_Inv hF hS d0 d1 f0 f1 vs len cnt fst ff fl lst) (h : w = (if hS = 0 then (if hF = 0 then (-1 : Int32) else d0) else d1)) : lst = w := by
  obtain ⟨-, hI | hI | hI⟩ := hI
  · rw [if_pos hI.2.1, if_pos hI.1] at h; rw [h]; exact hI.2.2.2.2.2.2.2
  · rw [if_pos hI.2.1, if_neg hI.1] at h; rw [h]; exact hI.2.2.2.2.2.2.2.2
  · rw [if_neg hI.2.1] at h; rw [h]; exact hI.2.2.2.2.2.1
theorem own_fin3 {oP nP pos pl u : Int32} (hP : own_Pos oP nP pos pl) (h : oP = (if u = 0 then (0 : Int32) else (1 : Int32))) : nar .boolean (nar .boolean pos) = oP := by
  rcases hP with ⟨a, b, -⟩ | ⟨a, b, -⟩
  · rw [a, b]; decide
  · by_cases q : u = 0
    · rw [if_pos q] at h; exact absurd h a
    · rw [if_neg q] at h; rw [h, b]; decide
theorem own_gap {d0 d1 : Int32} (h0 : 0 ≤ d0.toInt) (h : d0.toInt < d1.toInt) : (d1 - d0).toInt = d1.toInt - d0.toInt := by
  have := Int32.toInt_lt d1
  exact Jvm.Kit.i32_sub (by omega) (by omega)
theorem own_20 : (20 : Int32).toInt = 20 := rfl
theorem own_fin4 {hF hS d0 d1 f0 f1 len cnt fst ff fl lst oP nP pos pl rest vp : Int32} {vs : List Value} (hB : own_Base hF hS d0 d1 f0 f1) (hI : own_Inv hF hS d0 d1 f0 f1 vs len cnt fst ff fl lst) (hP : own_Pos oP nP pos pl)
    (h1 : rest = (if hS = 0 then (0 : Int32) else own_es (d1 - d0) f1)) (h2 : vp = (if oP = 0 then (0 : Int32) else nP)) : ((((20 : Int32) + len) - fl) + pl) = (((20 : Int32) + rest) + vp) := by
  have e1 : ((20 : Int32) + len) - fl = (20 : Int32) + rest := by
    obtain ⟨-, hI | hI | hI⟩ := hI
    · obtain ⟨-, a, b, -, -, -, d, -⟩ := hI
      rw [if_pos a] at h1; rw [h1, b, d]; decide
    · obtain ⟨-, a, -, -, -, b, d, f, -⟩ := hI
      rw [if_pos a] at h1
      rw [h1, b]
      apply own_i32
      have x1 : ((20 : Int32) + len).toInt = 20 + len.toInt := Jvm.Kit.i32_add (by rw [own_20]; omega) (by rw [own_20]; omega)
      rw [Jvm.Kit.i32_sub (by rw [x1]; omega) (by rw [x1]; omega), x1]
      show _ = (20 : Int)
      omega
    · obtain ⟨-, a, -, -, -, -, b, d, f⟩ := hI
      rw [if_neg a] at h1
      have l := own_ent_len f
      have r := own_el_rng (d1 - d0) f1
      have g := own_gap hB.1 (hB.2.2.2 a).2
      have q : 0 ≤ (d1 - d0).toInt := by have := (hB.2.2.2 a).2; omega
      have t := own_es_el (fq := f1) q
      rw [← h1] at t
      apply own_i32
      have x1 : ((20 : Int32) + len).toInt = 20 + len.toInt := Jvm.Kit.i32_add (by rw [own_20]; omega) (by rw [own_20]; omega)
      have x2 : ((20 : Int32) + rest).toInt = 20 + rest.toInt := Jvm.Kit.i32_add (by rw [own_20]; omega) (by rw [own_20]; omega)
      rw [Jvm.Kit.i32_sub (by rw [x1]; omega) (by rw [x1]; omega), x1, x2]
      omega
  rw [e1]
  rcases hP with ⟨a, -, b⟩ | ⟨a, -, b⟩
  · rw [if_pos a] at h2; rw [h2, b]
  · rw [if_neg a] at h2; rw [h2, b, own_zadd]
/-- what decode asks, and what it leaves -/
def own_Dec (vs : List Value) (cnt fst fl d1 f1 : Int32) : Prop := cnt = 0 ∨ (cnt = 1 ∧ ¬ fst < 0) ∨ (cnt = 2 ∧ ¬ fst < 0 ∧ ¬ d1 < 0 ∧ 0 ≤ fl.toInt ∧ fl.toInt ≤ 10 ∧ 1 ≤ f1.toInt ∧ 0 ≤ (d1 - fst).toInt ∧ ∃ r, own_Ent vs fl (d1 - fst) f1 r)
def own_Res (cnt fst ff d1 f1 x0 x1 y0 y1 : Int32) : Prop := (cnt = 0 ∧ x0 = 0 ∧ x1 = 0 ∧ y0 = 0 ∧ y1 = 0) ∨ (cnt = 1 ∧ x0 = fst ∧ x1 = 0 ∧ y0 = ff ∧ y1 = 0) ∨ (cnt = 2 ∧ x0 = fst ∧ x1 = d1 ∧ y0 = ff ∧ y1 = f1)
theorem own_dec_of {hF hS d0 d1 f0 f1 len cnt fst ff fl lst : Int32} {vs : List Value} (hB : own_Base hF hS d0 d1 f0 f1) (hI : own_Inv hF hS d0 d1 f0 f1 vs len cnt fst ff fl lst) : own_Dec vs cnt fst fl d1 f1 := by
  obtain ⟨-, hI | hI | hI⟩ := hI
  · exact Or.inl hI.2.2.2.1
  · exact Or.inr (Or.inl ⟨hI.2.2.1, by rw [hI.2.2.2.1]; exact own_nn hB.1⟩)
  · obtain ⟨-, a, b, rfl, -, -, d, f, g⟩ := hI
    have h := (hB.2.2.2 a).2
    have k := own_gap hB.1 h
    have h0 := hB.1
    exact Or.inr (Or.inr ⟨b, own_nn hB.1, own_nn (by omega), d, f, hB.2.2.1, by omega, len, g⟩)
theorem own_fin5 {hF hS d0 d1 f0 f1 len cnt fst ff fl lst w : Int32} {vs : List Value} (hI : own_Inv hF hS d0 d1 f0 f1 vs len cnt fst ff fl lst) (h : w = (if hS = 0 then (if hF = 0 then (0 : Int32) else (1 : Int32)) else (2 : Int32))) : cnt = w := by
  obtain ⟨-, hI | hI | hI⟩ := hI
  · rw [if_pos hI.2.1, if_pos hI.1] at h; rw [h]; exact hI.2.2.2.1
  · rw [if_pos hI.2.1, if_neg hI.1] at h; rw [h]; exact hI.2.2.1
  · rw [if_neg hI.2.1] at h; rw [h]; exact hI.2.2.1
theorem own_fin6 {hF hS d0 d1 f0 f1 len cnt fst ff fl lst x0 x1 y0 y1 : Int32} {vs : List Value} (hI : own_Inv hF hS d0 d1 f0 f1 vs len cnt fst ff fl lst) (hR : own_Res cnt fst ff d1 f1 x0 x1 y0 y1) :
    x0 = (if hF = 0 then (0 : Int32) else d0) ∧ x1 = (if hS = 0 then (0 : Int32) else d1) ∧ y0 = (if hF = 0 then (0 : Int32) else f0) ∧ y1 = (if hS = 0 then (0 : Int32) else f1) := by
  obtain ⟨-, hI | hI | hI⟩ := hI
  · obtain ⟨a, b, -, e, -⟩ := hI
    rcases hR with hR | hR | hR
    · rw [if_pos a, if_pos b, if_pos a, if_pos b]; exact hR.2
    · exact absurd (e.symm.trans hR.1) (by decide)
    · exact absurd (e.symm.trans hR.1) (by decide)
  · obtain ⟨a, b, e, f, g, -⟩ := hI
    rcases hR with hR | hR | hR
    · exact absurd (e.symm.trans hR.1) (by decide)
    · rw [if_neg a, if_pos b, if_neg a, if_pos b, ← f, ← g]; exact hR.2
    · exact absurd (e.symm.trans hR.1) (by decide)
  · obtain ⟨a, b, e, f, g, -⟩ := hI
    rcases hR with hR | hR | hR
    · exact absurd (e.symm.trans hR.1) (by decide)
    · exact absurd (e.symm.trans hR.1) (by decide)
    · rw [if_neg a, if_neg b, if_neg a, if_neg b, ← f, ← g]; exact hR.2
/-! decoding the second entry -/
theorem own_ent_pre {vs : List Value} {fl gp fq r : Int32} (h : own_Ent vs fl gp fq r) (h0 : 0 ≤ fl.toInt) (h1 : fl.toInt ≤ 10) : ∃ (n : Nat) (V E : Int), own_Pre vs (n + 1) fl (0 : Int64) (0 : Int32) V E ∧ V = 2 * gp.toInt + (if fq = (1 : Int32) then 1 else 0) ∧ E = fl.toInt + (n + 1 : Nat) ∧ ((fq = (1 : Int32)) ∨ (¬ fq = (1 : Int32) ∧ ∃ k : Nat, own_Enc vs (fl.toNatClampNeg + (n + 1)) fq.toInt (k + 1))) ∧ n + 1 ≤ 5 := by
  obtain ⟨hl, n1, n2, e1, e2, e3⟩ := h
  have g := Int32.toInt_lt gp
  have b : 2 * gp.toInt + (if fq = (1 : Int32) then 1 else 0) < 34359738368 := by split <;> omega
  have l := e1.len b
  have l5 := own_vl_le (2 * gp.toInt + (if fq = (1 : Int32) then 1 else 0))
  have p := e1.pos
  obtain ⟨n, rfl⟩ : ∃ n, n1 = n + 1 := ⟨n1 - 1, by omega⟩
  have z64 : (0 : Int64).toInt = 0 := rfl
  refine ⟨n, _, _, ⟨1, _, Or.inl ⟨rfl, rfl⟩, e1, h0, rfl, by omega, by rw [z64]; omega, by rw [z64]; omega, by rw [z64]; omega, b⟩, rfl, rfl, ?_, by omega⟩
  rcases e2 with e2 | e2
  · exact Or.inl e2.1
  · have p2 := e2.2.pos
    obtain ⟨k, rfl⟩ : ∃ k, n2 = k + 1 := ⟨n2 - 1, by omega⟩
    exact Or.inr ⟨e2.1, k, e2.2⟩
theorem own_doc {fst d1 fq : Int32} {cd : Int64} (h0 : 0 ≤ (d1 - fst).toInt) (h : cd.toInt = 2 * (d1 - fst).toInt + (if fq = (1 : Int32) then 1 else 0)) : fst + ((XT.ushrL cd (1 : Int32)).toInt32) = d1 := by
  have t := Int32.toInt_lt (d1 - fst)
  have e : cd.toInt / 2 = (d1 - fst).toInt := by rw [h]; split <;> omega
  have c0 : 0 ≤ cd.toInt := by rw [h]; split <;> omega
  have u := own_ushr1 c0
  have w : (XT.ushrL cd (1 : Int32)).toInt32 = d1 - fst := own_i32 (by rw [Jvm.Kit.i32_of_i64 (by rw [u, e]; omega) (by rw [u, e]; omega), u, e])
  rw [w, Int32.add_comm, Int32.sub_add_cancel]
theorem own_bit {gp : Int} {fq : Int32} {cd : Int64} (h : cd.toInt = 2 * gp + (if fq = (1 : Int32) then 1 else 0)) : ((cd &&& (1 : Int64)) = (0 : Int64)) ↔ ¬ fq = (1 : Int32) := by
  have e : (cd &&& (1 : Int64)).toInt = cd.toInt % 2 ^ 1 := Jvm.Kit.i64_mask cd 1 (k := 1) (by decide) (by decide)
  have z64 : (0 : Int64).toInt = 0 := rfl
  rw [← Int64.toInt_inj, e, h, z64]
  by_cases q : fq = (1 : Int32)
  · rw [if_pos q]; exact ⟨fun r => by omega, fun r => absurd q r⟩
  · rw [if_neg q]; exact ⟨fun _ => q, fun _ => by omega⟩
theorem own_pre32 {vs : List Value} {fl ak fq : Int32} {n k : Nat} (h0 : 0 ≤ fl.toInt) (h1 : fl.toInt ≤ 10) (hn : n + 1 ≤ 5) (ha : ak.toInt = fl.toInt + (n + 1 : Nat)) (h : own_Enc vs (fl.toNatClampNeg + (n + 1)) fq.toInt (k + 1)) : own_Pre32 vs (k + 1) ak (0 : Int32) (0 : Int32) fq.toInt (ak.toInt + (k + 1 : Nat)) := by
  have t := Int32.toInt_lt fq
  have l := h.len (by omega)
  have l5 := own_vl_le fq.toInt
  have p := h.pos
  have et : ak.toNatClampNeg = fl.toNatClampNeg + (n + 1) := by rw [own_tnc, own_tnc, ha]; omega
  exact ⟨1, _, Or.inl ⟨rfl, rfl⟩, by rw [et]; exact h, by omega, rfl, by omega, by rw [own_0]; omega, by rw [own_0]; omega, by rw [own_0]; omega, by omega⟩
theorem own_wi {ii : Int32} (h : ¬ ii < 0) : ¬ (ii >>> ((6 : Int32) &&& 31)) < (0 : Int32) := by
  have e := Jvm.Kit.i32_shr ii ((6 : Int32) &&& 31) (k := 6) (by decide)
  rw [own_lt32, own_0] at h
  rw [own_lt32, e, own_0]
  omega
theorem own_res0 {cnt fst ff d1 f1 : Int32} (h : cnt = 0) : own_Res cnt fst ff d1 f1 (0 : Int32) (0 : Int32) (0 : Int32) (0 : Int32) := Or.inl ⟨h, rfl, rfl, rfl, rfl⟩
theorem own_res1 {cnt fst ff d1 f1 : Int32} (h : cnt = 1) : own_Res cnt fst ff d1 f1 fst (0 : Int32) ff (0 : Int32) := Or.inr (Or.inl ⟨h, rfl, rfl, rfl, rfl⟩)
theorem own_res2 {cnt fst ff d1 f1 y : Int32} (h : cnt = 2) (e : y = f1) : own_Res cnt fst ff d1 f1 fst d1 ff y := Or.inr (Or.inr ⟨h, rfl, rfl, rfl, e⟩)

theorem own_arl {Z : State} {h : Heap} {a : Addr} {k : ClassId} {ty : FieldType} {z : Int32} {vs : List Value} {dv : Value} (F : Arv Z h a k ty z vs dv) (hz : z.toNatClampNeg = vs.length) : own_Arl Z h a ty vs := by
  obtain ⟨c, A, -, S, -, H, -⟩ := F
  refine ⟨c, A, ?_⟩
  have hl : c.slots.toList.length = vs.length := by rw [Array.length_toList, S, hz]
  apply List.ext_getElem?
  intro i
  by_cases hi : i < vs.length
  · have e1 : c.slots[i]? = some (vs.getD i dv) := H i (by rw [S, hz]; exact hi)
    rw [Array.getElem?_toList, e1, List.getD_eq_getElem?_getD, List.getElem?_eq_getElem hi]; rfl
  · rw [List.getElem?_eq_none (by rw [hl]; omega), List.getElem?_eq_none (by omega)]
theorem own_arv0 {Z : State} {h : Heap} {a : Addr} {k : ClassId} {ty : FieldType} {z : Int32} {dv : Value} {i j : Nat} (F : Arv Z h a k ty z (([] : List Value).take i ++ ([] : List Value) ++ ([] : List Value).drop j) dv) : Arv Z h a k ty z [] dv := by
  have e : (([] : List Value).take i ++ ([] : List Value) ++ ([] : List Value).drop j) = [] := by simp
  rw [e] at F; exact F
theorem own_arvz {Z : State} {h : Heap} {a : Addr} {k : ClassId} {ty : FieldType} {z z' : Int32} {vs : List Value} {dv : Value} (F : Arv Z h a k ty z vs dv) (q : z' = z) : Arv Z h a k ty z' vs dv := q ▸ F
theorem own_pad {Z : State} {h : Heap} {a : Addr} {k : ClassId} {ty : FieldType} {z : Int32} {dv : Value} (F : Arv Z h a k ty z [] dv) (n : Nat) : Arv Z h a k ty z (List.replicate n dv) dv := F.pad (fun q => pad_rep [] dv n q)
theorem own_eqv {t : Term} {k : Int32} {args : Array Value} {s : State} (h : (Jvm.Cond.eq t (.int k)).value args s none s [] = some true) : t.eval args s none [] s = some (.int k) := by
  obtain ⟨x, y, hx, hy, k1, k2⟩ := cmp_v (Or.inl h)
  have hy' : y = .int k := (Option.some.inj (hy.symm.trans (Term.int_eval k)))
  subst hy'
  obtain ⟨z, rfl⟩ := k2
  have q : z = k := gotT (Cond.eq_ints hx (Term.int_eval k)) h
  rw [hx, q]
theorem own_ord {t : Term} {C n d : String} {k : Int32} {args : Array Value} {s : State} {r : Addr} (h : (Jvm.Cond.eq (.field t C n d) (.int k)).value args s none s [] = some true) (ev : t.eval args s none [] s = some (.ref r)) : s.fieldOf? r C n d = some (.int k) := by
  rw [← fld_at ev]; exact own_eqv h
theorem own_w {Z : State} {a0 : Array Value} {i : Nat} {d : Jvm.Cond} (h : tables_1[i]? = some d) (hw : ∀ d ∈ tables_1, d.before a0 Z = true) : d.before a0 Z = true := hw _ (List.mem_of_getElem? h)
theorem own_so {Z : State} {a0 : Array Value} {C O n d O' n' d' : String} {t t' : FieldType} (L : Laid Z a0 C O n d ∧ parseFieldDescriptor d = some t) (L' : Laid Z a0 C O' n' d' ∧ parseFieldDescriptor d' = some t') (hn : n ≠ n') : Jvm.RoadKit.slotOf Z O n d ≠ Jvm.RoadKit.slotOf Z O' n' d' := slot_ne L.1 L'.1 hn L.2 L'.2
theorem lf16 {Z : State} {a0 : Array Value} (hw : ∀ d ∈ tables_1, d.before a0 Z = true) : Laid Z a0 "com/example/sedimenta/sedimenta/Postings" "com/example/sedimenta/sedimenta/Postings" "own" "[B" ∧ parseFieldDescriptor "[B" = some (.array .byte) := ⟨Or.inl (own_w (i := 16) rfl hw), by decide⟩
theorem lf18 {Z : State} {a0 : Array Value} (hw : ∀ d ∈ tables_1, d.before a0 Z = true) : Laid Z a0 "com/example/sedimenta/sedimenta/Postings" "com/example/sedimenta/sedimenta/Postings" "bytes" "[B" ∧ parseFieldDescriptor "[B" = some (.array .byte) := ⟨Or.inl (own_w (i := 18) rfl hw), by decide⟩
theorem lf20 {Z : State} {a0 : Array Value} (hw : ∀ d ∈ tables_1, d.before a0 Z = true) : Laid Z a0 "com/example/sedimenta/sedimenta/Postings" "com/example/sedimenta/sedimenta/Postings" "last" "I" ∧ parseFieldDescriptor "I" = some .int := ⟨Or.inl (own_w (i := 20) rfl hw), by decide⟩
theorem lf22 {Z : State} {a0 : Array Value} (hw : ∀ d ∈ tables_1, d.before a0 Z = true) : Laid Z a0 "com/example/sedimenta/sedimenta/Postings" "com/example/sedimenta/sedimenta/Postings" "ownPositions" "[B" ∧ parseFieldDescriptor "[B" = some (.array .byte) := ⟨Or.inl (own_w (i := 22) rfl hw), by decide⟩
theorem lf24 {Z : State} {a0 : Array Value} (hw : ∀ d ∈ tables_1, d.before a0 Z = true) : Laid Z a0 "com/example/sedimenta/sedimenta/Postings" "com/example/sedimenta/sedimenta/Postings" "positionBytes" "[B" ∧ parseFieldDescriptor "[B" = some (.array .byte) := ⟨Or.inl (own_w (i := 24) rfl hw), by decide⟩
theorem lf27 {Z : State} {a0 : Array Value} (hw : ∀ d ∈ tables_1, d.before a0 Z = true) : Laid Z a0 "com/example/sedimenta/sedimenta/Postings" "com/example/sedimenta/sedimenta/Postings" "frequencies" "[I" ∧ parseFieldDescriptor "[I" = some (.array .int) := ⟨Or.inl (own_w (i := 27) rfl hw), by decide⟩
theorem lf29 {Z : State} {a0 : Array Value} (hw : ∀ d ∈ tables_1, d.before a0 Z = true) : Laid Z a0 "com/example/sedimenta/sedimenta/Postings" "com/example/sedimenta/sedimenta/Postings" "entriesChecked" "Z" ∧ parseFieldDescriptor "Z" = some .boolean := ⟨Or.inl (own_w (i := 29) rfl hw), by decide⟩
theorem lf32 {Z : State} {a0 : Array Value} (hw : ∀ d ∈ tables_1, d.before a0 Z = true) : Laid Z a0 "com/example/sedimenta/sedimenta/Postings" "com/example/sedimenta/sedimenta/Postings" "documentCount" "I" ∧ parseFieldDescriptor "I" = some .int := ⟨Or.inl (own_w (i := 32) rfl hw), by decide⟩
theorem lf43 {Z : State} {a0 : Array Value} (hw : ∀ d ∈ tables_1, d.before a0 Z = true) : Laid Z a0 "com/example/sedimenta/sedimenta/Postings" "com/example/sedimenta/sedimenta/Postings" "length" "I" ∧ parseFieldDescriptor "I" = some .int := ⟨Or.inl (own_w (i := 43) rfl hw), by decide⟩
theorem lf45 {Z : State} {a0 : Array Value} (hw : ∀ d ∈ tables_1, d.before a0 Z = true) : Laid Z a0 "com/example/sedimenta/sedimenta/Postings" "com/example/sedimenta/sedimenta/Postings" "count" "I" ∧ parseFieldDescriptor "I" = some .int := ⟨Or.inl (own_w (i := 45) rfl hw), by decide⟩
theorem lf57 {Z : State} {a0 : Array Value} (hw : ∀ d ∈ tables_1, d.before a0 Z = true) : Laid Z a0 "com/example/sedimenta/sedimenta/Postings" "com/example/sedimenta/sedimenta/Postings" "first" "I" ∧ parseFieldDescriptor "I" = some .int := ⟨Or.inl (own_w (i := 57) rfl hw), by decide⟩
theorem lf59 {Z : State} {a0 : Array Value} (hw : ∀ d ∈ tables_1, d.before a0 Z = true) : Laid Z a0 "com/example/sedimenta/sedimenta/Postings" "com/example/sedimenta/sedimenta/Postings" "firstFrequency" "I" ∧ parseFieldDescriptor "I" = some .int := ⟨Or.inl (own_w (i := 59) rfl hw), by decide⟩
theorem lf61 {Z : State} {a0 : Array Value} (hw : ∀ d ∈ tables_1, d.before a0 Z = true) : Laid Z a0 "com/example/sedimenta/sedimenta/Postings" "com/example/sedimenta/sedimenta/Postings" "firstLength" "I" ∧ parseFieldDescriptor "I" = some .int := ⟨Or.inl (own_w (i := 61) rfl hw), by decide⟩
theorem lf72 {Z : State} {a0 : Array Value} (hw : ∀ d ∈ tables_1, d.before a0 Z = true) : Laid Z a0 "com/example/sedimenta/sedimenta/Postings" "com/example/sedimenta/sedimenta/Postings" "positionsLength" "I" ∧ parseFieldDescriptor "I" = some .int := ⟨Or.inl (own_w (i := 72) rfl hw), by decide⟩
theorem lf78 {Z : State} {a0 : Array Value} (hw : ∀ d ∈ tables_1, d.before a0 Z = true) : Laid Z a0 "com/example/sedimenta/sedimenta/Postings" "com/example/sedimenta/sedimenta/Postings" "positioned" "Z" ∧ parseFieldDescriptor "Z" = some .boolean := ⟨Or.inl (own_w (i := 78) rfl hw), by decide⟩
theorem lf85 {Z : State} {a0 : Array Value} (hw : ∀ d ∈ tables_1, d.before a0 Z = true) : Laid Z a0 "com/example/sedimenta/sedimenta/Postings" "com/example/sedimenta/sedimenta/Postings" "offset" "I" ∧ parseFieldDescriptor "I" = some .int := ⟨Or.inl (own_w (i := 85) rfl hw), by decide⟩
theorem lf87 {Z : State} {a0 : Array Value} (hw : ∀ d ∈ tables_1, d.before a0 Z = true) : Laid Z a0 "com/example/sedimenta/sedimenta/Postings" "com/example/sedimenta/sedimenta/Postings" "positionsOffset" "I" ∧ parseFieldDescriptor "I" = some .int := ⟨Or.inl (own_w (i := 87) rfl hw), by decide⟩
theorem lf89 {Z : State} {a0 : Array Value} (hw : ∀ d ∈ tables_1, d.before a0 Z = true) : Laid Z a0 "com/example/sedimenta/sedimenta/Postings" "com/example/sedimenta/sedimenta/Postings" "blocks" "Lcom/example/sedimenta/sedimenta/TermBlocks;" ∧ parseFieldDescriptor "Lcom/example/sedimenta/sedimenta/TermBlocks;" = some (.object "com/example/sedimenta/sedimenta/TermBlocks") := ⟨Or.inl (own_w (i := 89) rfl hw), by decide⟩
theorem lf91 {Z : State} {a0 : Array Value} (hw : ∀ d ∈ tables_1, d.before a0 Z = true) : Laid Z a0 "com/example/sedimenta/sedimenta/Postings" "com/example/sedimenta/sedimenta/Postings" "source" "Lcom/example/sedimenta/sedimenta/store/StoreInput;" ∧ parseFieldDescriptor "Lcom/example/sedimenta/sedimenta/store/StoreInput;" = some (.object "com/example/sedimenta/sedimenta/store/StoreInput") := ⟨Or.inl (own_w (i := 91) rfl hw), by decide⟩
theorem lf93 {Z : State} {a0 : Array Value} (hw : ∀ d ∈ tables_1, d.before a0 Z = true) : Laid Z a0 "com/example/sedimenta/sedimenta/Postings" "com/example/sedimenta/sedimenta/Postings" "sourceEntry" "J" ∧ parseFieldDescriptor "J" = some .long := ⟨Or.inl (own_w (i := 93) rfl hw), by decide⟩
theorem pd_0 : parseMethodDescriptor "(J)V" = some ⟨[.long], none⟩ := by decide +kernel
theorem pd_1 : parseMethodDescriptor "([BIJ)I" = some ⟨[(.array .byte), .int, .long], some .int⟩ := by decide +kernel
theorem pd_2 : parseMethodDescriptor "(II)J" = some ⟨[.int, .int], some .long⟩ := by decide +kernel
theorem pd_3 : parseMethodDescriptor "(I)V" = some ⟨[.int], none⟩ := by decide +kernel
theorem pd_4 : parseMethodDescriptor "([BIII)I" = some ⟨[(.array .byte), .int, .int, .int], some .int⟩ := by decide +kernel
theorem pd_5 : parseMethodDescriptor "(JJ)J" = some ⟨[.long, .long], some .long⟩ := by decide +kernel
theorem pd_6 : parseMethodDescriptor "(II)I" = some ⟨[.int, .int], some .int⟩ := by decide +kernel
theorem pd_7 : parseMethodDescriptor "(IJ)I" = some ⟨[.int, .long], some .int⟩ := by decide +kernel
theorem pd_8 : parseMethodDescriptor "([BI)[B" = some ⟨[(.array .byte), .int], some (.array .byte)⟩ := by decide +kernel
theorem pd_9 : parseMethodDescriptor "()Z" = some ⟨[], some .boolean⟩ := by decide +kernel
theorem pd_10 : parseMethodDescriptor "()I" = some ⟨[], some .int⟩ := by decide +kernel
theorem pd_11 : parseMethodDescriptor "()V" = some ⟨[], none⟩ := by decide +kernel
theorem pd_12 : parseMethodDescriptor "(I)I" = some ⟨[.int], some .int⟩ := by decide +kernel
theorem pd_13 : parseMethodDescriptor "(I)Z" = some ⟨[.int], some .boolean⟩ := by decide +kernel
theorem pd_14 : parseMethodDescriptor "(Ljava/util/BitSet;[I[I)I" = some ⟨[(.object "java/util/BitSet"), (.array .int), (.array .int)], some .int⟩ := by decide +kernel
theorem pd_15 : parseMethodDescriptor "(J)I" = some ⟨[.long], some .int⟩ := by decide +kernel
theorem pd_16 : parseMethodDescriptor "(II)V" = some ⟨[.int, .int], none⟩ := by decide +kernel
theorem pd_17 : parseMethodDescriptor "([BII)V" = some ⟨[(.array .byte), .int, .int], none⟩ := by decide +kernel
theorem pd_18 : parseMethodDescriptor "(Lcom/example/sedimenta/sedimenta/Postings;)V" = some ⟨[(.object "com/example/sedimenta/sedimenta/Postings")], none⟩ := by decide +kernel
theorem d0_0 : decode jdk_29_method_65_code 0 = .ok (.iload_n 0, 1) := by decide +kernel
theorem d0_1 : decode jdk_29_method_65_code 1 = .ok (.iload_n 1, 1) := by decide +kernel
theorem d0_2 : decode jdk_29_method_65_code 2 = .ok (.if_icmp .lt 7, 3) := by decide +kernel
theorem d0_5 : decode jdk_29_method_65_code 5 = .ok (.iload_n 0, 1) := by decide +kernel
theorem d0_6 : decode jdk_29_method_65_code 6 = .ok (.goto 4, 3) := by decide +kernel
theorem d0_9 : decode jdk_29_method_65_code 9 = .ok (.iload_n 1, 1) := by decide +kernel
theorem d0_10 : decode jdk_29_method_65_code 10 = .ok (.ireturn, 1) := by decide +kernel
theorem pn_0 : plainFor (⟨"java/lang/Math", "max", "(II)I"⟩ : MethodName) = true := by first | exact plainFor_of_name (by first | (simp [plainName, overriddenIn]; done) | decide +kernel) | decide +kernel
theorem ef_0 (m : MethodId) (x0 : Int32) (x1 : Int32) : entryFrame m #[(.int x0), (.int x1)] 2 = mkF m 0 #[.val (.int x0), .val (.int x1)] [] := by first | (simp [entryFrame, mkF, argsToLocals, Value.category]; done) | rfl
def Q_0 (y0 y1 : Int32) (h0 : Heap) (n0 : Nat) (v : Option Value) (h : Heap) (L : List Loc) : Prop := v = some (.int (if y0 < y1 then y1 else y0)) ∧ Fr n0 L ∧ h = h0
set_option maxRecDepth 65536 in
set_option maxHeartbeats 40000000 in
theorem rm_maxI (l : Launch) (Z : State) (a0 : Array Value) (hw : ∀ d ∈ tables_1, d.before a0 Z = true) (ws : List Jvm.Cond) (y0 y1 : Int32) (h0 : Heap) (n0 : Nat) (Z0 : n0 ≤ h0.size)  :
    MetFree l (⟨"java/lang/Math", "max", "(II)I"⟩ : MethodName) (head1 (Jvm.Cond.code (⟨"java/lang/Math", "max", "(II)I"⟩ : MethodName) jdk_29_method_65_code 2 (some .int) :: ws) ({ frames := 0, cells := 0, slots := 0, locals := 0 } : Room)) (fun as_ U => as_ = #[(.int y0), (.int y1)] ∧ Z.Warmed39 U.vm ∧ U.heap = h0) (fun _ _ _ _ _ => True) (fun _ U o U' => ∃ v L, o = .returned v ∧ Q_0 y0 y1 h0 n0 v U'.heap L ∧ FrameEnd U o U' L ({ frames := 0, cells := 0, slots := 0, locals := 0 } : Room).cells ({ frames := 0, cells := 0, slots := 0, locals := 0 } : Room).slots) := by
  refine MetFree.of_bodySF pn_0 hisR ?_
  intro p e s m args below meth c s₁ Bd hml0 hP hK
  obtain ⟨rfl, hZ, hh⟩ := hP
  have hx := Bd.exec
  have hby := Bd.bytes
  have hlk := BodyLoose.notSynchronized Bd
  have hml : c.maxLocals = 2 := hml0
  have hown : s.vm.findClass "java/lang/Math" = some m.cls := findClass_of_methodNamed Bd.named
  have hnm := (name_of_methodNamed Bd.named Bd.method).1
  have X0 : Stand p l e ({ frames := 0, cells := 0, slots := 0, locals := 0 } : Room) s m #[(.int y0), (.int y1)] below meth c s₁ [] 0 0 := Stand.of_body Bd
  have e0 : s₁.heap = h0 := by rw [← hh, Bd.state]; rfl
  have N0 := Fr.nil n0
  refine own_in (ef_0 m y0 y1) ?_
  show own_Fin p e below s (Q_0 y0 y1 h0 n0) 0 0 s₁ (mkF m 0 #[vi y0, vi y1] [])
  refine own_step (T' := s₁) (g' := (mkF m 1 #[vi y0, vi y1] [(.int y0)])) (fun t_ k_ => XS.iloadN X0.here hx rfl (hb hby d0_0) rfl k_) ?_
  refine own_step (T' := s₁) (g' := (mkF m 2 #[vi y0, vi y1] [(.int y1), (.int y0)])) (fun t_ k_ => XS.iloadN X0.here hx rfl (hb hby d0_1) rfl k_) ?_
  suffices k2 : ∀ v3 : Int32, v3 = (if y0 < y1 then y1 else y0) → own_Fin p e below s (Q_0 y0 y1 h0 n0) 0 0 s₁ (mkF m 10 #[vi y0, vi y1] [(.int v3)]) by
    by_cases hb1 : y0 < y1
    · refine own_step (T' := s₁) (g' := (mkF m 9 #[vi y0, vi y1] [])) (fun t_ k_ => XS.icmpYes X0.here hx rfl (pc0 := 2) (pc' := 9) rfl (hb hby d0_2) rfl (XT.ii_lt_t hb1) (by decide) (by decide) k_) ?_
      refine own_step (T' := s₁) (g' := (mkF m 10 #[vi y0, vi y1] [(.int y1)])) (fun t_ k_ => XS.iloadN X0.here hx rfl (hb hby d0_9) rfl k_) ?_
      exact k2 _ (if_pos hb1).symm
    · refine own_step (T' := s₁) (g' := (mkF m 5 #[vi y0, vi y1] [])) (fun t_ k_ => XS.icmpNo X0.here hx rfl (hb hby d0_2) rfl (XT.ii_lt_f hb1) k_) ?_
      refine own_step (T' := s₁) (g' := (mkF m 6 #[vi y0, vi y1] [(.int y0)])) (fun t_ k_ => XS.iloadN X0.here hx rfl (hb hby d0_5) rfl k_) ?_
      refine own_step (T' := s₁) (g' := (mkF m 10 #[vi y0, vi y1] [(.int y0)])) (fun t_ k_ => XS.goto X0.here hx rfl (pc0 := 6) (pc' := 10) rfl (hb hby d0_6) (by decide) (by decide) k_) ?_
      exact k2 _ (if_neg hb1).symm
  intro v3 hv3
  exact own_retI X0 hx hlk Bd.returns (hb hby d0_10) (by rw [e0]; exact ⟨by rw [hv3], N0, rfl⟩) (by decide) (by decide)
theorem d26_0 : decode jdk_29_method_69_code 0 = .ok (.iload_n 0, 1) := by decide +kernel
theorem d26_1 : decode jdk_29_method_69_code 1 = .ok (.iload_n 1, 1) := by decide +kernel
theorem d26_2 : decode jdk_29_method_69_code 2 = .ok (.if_icmp .gt 7, 3) := by decide +kernel
theorem d26_5 : decode jdk_29_method_69_code 5 = .ok (.iload_n 0, 1) := by decide +kernel
theorem d26_6 : decode jdk_29_method_69_code 6 = .ok (.goto 4, 3) := by decide +kernel
theorem d26_9 : decode jdk_29_method_69_code 9 = .ok (.iload_n 1, 1) := by decide +kernel
theorem d26_10 : decode jdk_29_method_69_code 10 = .ok (.ireturn, 1) := by decide +kernel
theorem pn_26 : plainFor (⟨"java/lang/Math", "min", "(II)I"⟩ : MethodName) = true := by first | exact plainFor_of_name (by first | (simp [plainName, overriddenIn]; done) | decide +kernel) | decide +kernel
theorem ef_26 (m : MethodId) (x0 : Int32) (x1 : Int32) : entryFrame m #[(.int x0), (.int x1)] 2 = mkF m 0 #[.val (.int x0), .val (.int x1)] [] := by first | (simp [entryFrame, mkF, argsToLocals, Value.category]; done) | rfl
def Q_26 (y0 y1 : Int32) (h0 : Heap) (n0 : Nat) (v : Option Value) (h : Heap) (L : List Loc) : Prop := v = some (.int (if y1 < y0 then y1 else y0)) ∧ Fr n0 L ∧ h = h0
set_option maxRecDepth 65536 in
set_option maxHeartbeats 40000000 in
theorem rm_minI (l : Launch) (Z : State) (a0 : Array Value) (hw : ∀ d ∈ tables_1, d.before a0 Z = true) (ws : List Jvm.Cond) (y0 y1 : Int32) (h0 : Heap) (n0 : Nat) (Z0 : n0 ≤ h0.size)  :
    MetFree l (⟨"java/lang/Math", "min", "(II)I"⟩ : MethodName) (head1 (Jvm.Cond.code (⟨"java/lang/Math", "min", "(II)I"⟩ : MethodName) jdk_29_method_69_code 2 (some .int) :: ws) ({ frames := 0, cells := 0, slots := 0, locals := 0 } : Room)) (fun as_ U => as_ = #[(.int y0), (.int y1)] ∧ Z.Warmed39 U.vm ∧ U.heap = h0) (fun _ _ _ _ _ => True) (fun _ U o U' => ∃ v L, o = .returned v ∧ Q_26 y0 y1 h0 n0 v U'.heap L ∧ FrameEnd U o U' L ({ frames := 0, cells := 0, slots := 0, locals := 0 } : Room).cells ({ frames := 0, cells := 0, slots := 0, locals := 0 } : Room).slots) := by
  refine MetFree.of_bodySF pn_26 hisR ?_
  intro p e s m args below meth c s₁ Bd hml0 hP hK
  obtain ⟨rfl, hZ, hh⟩ := hP
  have hx := Bd.exec
  have hby := Bd.bytes
  have hlk := BodyLoose.notSynchronized Bd
  have hml : c.maxLocals = 2 := hml0
  have hown : s.vm.findClass "java/lang/Math" = some m.cls := findClass_of_methodNamed Bd.named
  have hnm := (name_of_methodNamed Bd.named Bd.method).1
  have X0 : Stand p l e ({ frames := 0, cells := 0, slots := 0, locals := 0 } : Room) s m #[(.int y0), (.int y1)] below meth c s₁ [] 0 0 := Stand.of_body Bd
  have e0 : s₁.heap = h0 := by rw [← hh, Bd.state]; rfl
  have N0 := Fr.nil n0
  refine own_in (ef_26 m y0 y1) ?_
  show own_Fin p e below s (Q_26 y0 y1 h0 n0) 0 0 s₁ (mkF m 0 #[vi y0, vi y1] [])
  refine own_step (T' := s₁) (g' := (mkF m 1 #[vi y0, vi y1] [(.int y0)])) (fun t_ k_ => XS.iloadN X0.here hx rfl (hb hby d26_0) rfl k_) ?_
  refine own_step (T' := s₁) (g' := (mkF m 2 #[vi y0, vi y1] [(.int y1), (.int y0)])) (fun t_ k_ => XS.iloadN X0.here hx rfl (hb hby d26_1) rfl k_) ?_
  suffices k2 : ∀ v3 : Int32, v3 = (if y1 < y0 then y1 else y0) → own_Fin p e below s (Q_26 y0 y1 h0 n0) 0 0 s₁ (mkF m 10 #[vi y0, vi y1] [(.int v3)]) by
    by_cases hb1 : y1 < y0
    · refine own_step (T' := s₁) (g' := (mkF m 9 #[vi y0, vi y1] [])) (fun t_ k_ => XS.icmpYes X0.here hx rfl (pc0 := 2) (pc' := 9) rfl (hb hby d26_2) rfl (XT.ii_gt_t hb1) (by decide) (by decide) k_) ?_
      refine own_step (T' := s₁) (g' := (mkF m 10 #[vi y0, vi y1] [(.int y1)])) (fun t_ k_ => XS.iloadN X0.here hx rfl (hb hby d26_9) rfl k_) ?_
      exact k2 _ (if_pos hb1).symm
    · refine own_step (T' := s₁) (g' := (mkF m 5 #[vi y0, vi y1] [])) (fun t_ k_ => XS.icmpNo X0.here hx rfl (hb hby d26_2) rfl (XT.ii_gt_f hb1) k_) ?_
      refine own_step (T' := s₁) (g' := (mkF m 6 #[vi y0, vi y1] [(.int y0)])) (fun t_ k_ => XS.iloadN X0.here hx rfl (hb hby d26_5) rfl k_) ?_
      refine own_step (T' := s₁) (g' := (mkF m 10 #[vi y0, vi y1] [(.int y0)])) (fun t_ k_ => XS.goto X0.here hx rfl (pc0 := 6) (pc' := 10) rfl (hb hby d26_6) (by decide) (by decide) k_) ?_
      exact k2 _ (if_neg hb1).symm
  intro v3 hv3
  exact own_retI X0 hx hlk Bd.returns (hb hby d26_10) (by rw [e0]; exact ⟨by rw [hv3], N0, rfl⟩) (by decide) (by decide)
theorem d23_0 : decode jdk_29_method_66_code 0 = .ok (.lload_n 0, 1) := by decide +kernel
theorem d23_1 : decode jdk_29_method_66_code 1 = .ok (.lload_n 2, 1) := by decide +kernel
theorem d23_2 : decode jdk_29_method_66_code 2 = .ok (.lcmp, 1) := by decide +kernel
theorem d23_3 : decode jdk_29_method_66_code 3 = .ok (.ifCond .lt 7, 3) := by decide +kernel
theorem d23_6 : decode jdk_29_method_66_code 6 = .ok (.lload_n 0, 1) := by decide +kernel
theorem d23_7 : decode jdk_29_method_66_code 7 = .ok (.goto 4, 3) := by decide +kernel
theorem d23_10 : decode jdk_29_method_66_code 10 = .ok (.lload_n 2, 1) := by decide +kernel
theorem d23_11 : decode jdk_29_method_66_code 11 = .ok (.lreturn, 1) := by decide +kernel
theorem pn_23 : plainFor (⟨"java/lang/Math", "max", "(JJ)J"⟩ : MethodName) = true := by first | exact plainFor_of_name (by first | (simp [plainName, overriddenIn]; done) | decide +kernel) | decide +kernel
theorem ef_23 (m : MethodId) (x0 : Int64) (x1 : Int64) : entryFrame m #[(.long x0), (.long x1)] 4 = mkF m 0 #[.val (.long x0), .second, .val (.long x1), .second] [] := by first | (simp [entryFrame, mkF, argsToLocals, Value.category]; done) | rfl
def Q_23 (y0 y1 : Int64) (h0 : Heap) (n0 : Nat) (v : Option Value) (h : Heap) (L : List Loc) : Prop := v = some (.long (own_mxL y0 y1)) ∧ Fr n0 L ∧ h = h0
set_option maxRecDepth 65536 in
set_option maxHeartbeats 40000000 in
theorem rm_maxJ (l : Launch) (Z : State) (a0 : Array Value) (hw : ∀ d ∈ tables_1, d.before a0 Z = true) (ws : List Jvm.Cond) (y0 y1 : Int64) (h0 : Heap) (n0 : Nat) (Z0 : n0 ≤ h0.size)  :
    MetFree l (⟨"java/lang/Math", "max", "(JJ)J"⟩ : MethodName) (head1 (Jvm.Cond.code (⟨"java/lang/Math", "max", "(JJ)J"⟩ : MethodName) jdk_29_method_66_code 4 (some .long) :: ws) ({ frames := 0, cells := 0, slots := 0, locals := 0 } : Room)) (fun as_ U => as_ = #[(.long y0), (.long y1)] ∧ Z.Warmed39 U.vm ∧ U.heap = h0) (fun _ _ _ _ _ => True) (fun _ U o U' => ∃ v L, o = .returned v ∧ Q_23 y0 y1 h0 n0 v U'.heap L ∧ FrameEnd U o U' L ({ frames := 0, cells := 0, slots := 0, locals := 0 } : Room).cells ({ frames := 0, cells := 0, slots := 0, locals := 0 } : Room).slots) := by
  refine MetFree.of_bodySF pn_23 hisR ?_
  intro p e s m args below meth c s₁ Bd hml0 hP hK
  obtain ⟨rfl, hZ, hh⟩ := hP
  have hx := Bd.exec
  have hby := Bd.bytes
  have hlk := BodyLoose.notSynchronized Bd
  have hml : c.maxLocals = 4 := hml0
  have hown : s.vm.findClass "java/lang/Math" = some m.cls := findClass_of_methodNamed Bd.named
  have hnm := (name_of_methodNamed Bd.named Bd.method).1
  have X0 : Stand p l e ({ frames := 0, cells := 0, slots := 0, locals := 0 } : Room) s m #[(.long y0), (.long y1)] below meth c s₁ [] 0 0 := Stand.of_body Bd
  have e0 : s₁.heap = h0 := by rw [← hh, Bd.state]; rfl
  have N0 := Fr.nil n0
  refine own_in (ef_23 m y0 y1) ?_
  show own_Fin p e below s (Q_23 y0 y1 h0 n0) 0 0 s₁ (mkF m 0 #[vj y0, .second, vj y1, .second] [])
  refine own_step (T' := s₁) (g' := (mkF m 1 #[vj y0, .second, vj y1, .second] [(.long y0)])) (fun t_ k_ => XT.lloadN X0.here hx rfl (hb hby d23_0) rfl k_) ?_
  refine own_step (T' := s₁) (g' := (mkF m 2 #[vj y0, .second, vj y1, .second] [(.long y1), (.long y0)])) (fun t_ k_ => XT.lloadN X0.here hx rfl (hb hby d23_1) rfl k_) ?_
  refine own_step (T' := s₁) (g' := (mkF m 3 #[vj y0, .second, vj y1, .second] [(.int (XT.cmpL y0 y1))])) (fun t_ k_ => XT.lcmp X0.here hx rfl (hb hby d23_2) rfl k_) ?_
  suffices k2 : ∀ v3 : Int64, v3 = (if y0 < y1 then y1 else y0) → own_Fin p e below s (Q_23 y0 y1 h0 n0) 0 0 s₁ (mkF m 11 #[vj y0, .second, vj y1, .second] [(.long v3)]) by
    by_cases hb1 : y0 < y1
    · refine own_step (T' := s₁) (g' := (mkF m 10 #[vj y0, .second, vj y1, .second] [])) (fun t_ k_ => XS.ifYes X0.here hx rfl (pc0 := 3) (pc' := 10) rfl (hb hby d23_3) rfl (XT.ll_lt_t hb1) (by decide) (by decide) k_) ?_
      refine own_step (T' := s₁) (g' := (mkF m 11 #[vj y0, .second, vj y1, .second] [(.long y1)])) (fun t_ k_ => XT.lloadN X0.here hx rfl (hb hby d23_10) rfl k_) ?_
      exact k2 _ (if_pos hb1).symm
    · refine own_step (T' := s₁) (g' := (mkF m 6 #[vj y0, .second, vj y1, .second] [])) (fun t_ k_ => XS.ifNo X0.here hx rfl (hb hby d23_3) rfl (XT.ll_lt_f hb1) k_) ?_
      refine own_step (T' := s₁) (g' := (mkF m 7 #[vj y0, .second, vj y1, .second] [(.long y0)])) (fun t_ k_ => XT.lloadN X0.here hx rfl (hb hby d23_6) rfl k_) ?_
      refine own_step (T' := s₁) (g' := (mkF m 11 #[vj y0, .second, vj y1, .second] [(.long y0)])) (fun t_ k_ => XS.goto X0.here hx rfl (pc0 := 7) (pc' := 11) rfl (hb hby d23_7) (by decide) (by decide) k_) ?_
      exact k2 _ (if_neg hb1).symm
  intro v3 hv3
  exact own_retJ X0 hx hlk Bd.returns (hb hby d23_11) (by rw [e0]; exact ⟨by rw [hv3] <;> rfl, N0, rfl⟩) (by decide) (by decide)
theorem d24_0 : decode jdk_29_method_70_code 0 = .ok (.lload_n 0, 1) := by decide +kernel
theorem d24_1 : decode jdk_29_method_70_code 1 = .ok (.lload_n 2, 1) := by decide +kernel
theorem d24_2 : decode jdk_29_method_70_code 2 = .ok (.lcmp, 1) := by decide +kernel
theorem d24_3 : decode jdk_29_method_70_code 3 = .ok (.ifCond .gt 7, 3) := by decide +kernel
theorem d24_6 : decode jdk_29_method_70_code 6 = .ok (.lload_n 0, 1) := by decide +kernel
theorem d24_7 : decode jdk_29_method_70_code 7 = .ok (.goto 4, 3) := by decide +kernel
theorem d24_10 : decode jdk_29_method_70_code 10 = .ok (.lload_n 2, 1) := by decide +kernel
theorem d24_11 : decode jdk_29_method_70_code 11 = .ok (.lreturn, 1) := by decide +kernel
theorem pn_24 : plainFor (⟨"java/lang/Math", "min", "(JJ)J"⟩ : MethodName) = true := by first | exact plainFor_of_name (by first | (simp [plainName, overriddenIn]; done) | decide +kernel) | decide +kernel
theorem ef_24 (m : MethodId) (x0 : Int64) (x1 : Int64) : entryFrame m #[(.long x0), (.long x1)] 4 = mkF m 0 #[.val (.long x0), .second, .val (.long x1), .second] [] := by first | (simp [entryFrame, mkF, argsToLocals, Value.category]; done) | rfl
def Q_24 (y0 y1 : Int64) (h0 : Heap) (n0 : Nat) (v : Option Value) (h : Heap) (L : List Loc) : Prop := v = some (.long (own_mnL y0 y1)) ∧ Fr n0 L ∧ h = h0
set_option maxRecDepth 65536 in
set_option maxHeartbeats 40000000 in
theorem rm_minJ (l : Launch) (Z : State) (a0 : Array Value) (hw : ∀ d ∈ tables_1, d.before a0 Z = true) (ws : List Jvm.Cond) (y0 y1 : Int64) (h0 : Heap) (n0 : Nat) (Z0 : n0 ≤ h0.size)  :
    MetFree l (⟨"java/lang/Math", "min", "(JJ)J"⟩ : MethodName) (head1 (Jvm.Cond.code (⟨"java/lang/Math", "min", "(JJ)J"⟩ : MethodName) jdk_29_method_70_code 4 (some .long) :: ws) ({ frames := 0, cells := 0, slots := 0, locals := 0 } : Room)) (fun as_ U => as_ = #[(.long y0), (.long y1)] ∧ Z.Warmed39 U.vm ∧ U.heap = h0) (fun _ _ _ _ _ => True) (fun _ U o U' => ∃ v L, o = .returned v ∧ Q_24 y0 y1 h0 n0 v U'.heap L ∧ FrameEnd U o U' L ({ frames := 0, cells := 0, slots := 0, locals := 0 } : Room).cells ({ frames := 0, cells := 0, slots := 0, locals := 0 } : Room).slots) := by
  refine MetFree.of_bodySF pn_24 hisR ?_
  intro p e s m args below meth c s₁ Bd hml0 hP hK
  obtain ⟨rfl, hZ, hh⟩ := hP
  have hx := Bd.exec
  have hby := Bd.bytes
  have hlk := BodyLoose.notSynchronized Bd
  have hml : c.maxLocals = 4 := hml0
  have hown : s.vm.findClass "java/lang/Math" = some m.cls := findClass_of_methodNamed Bd.named
  have hnm := (name_of_methodNamed Bd.named Bd.method).1
  have X0 : Stand p l e ({ frames := 0, cells := 0, slots := 0, locals := 0 } : Room) s m #[(.long y0), (.long y1)] below meth c s₁ [] 0 0 := Stand.of_body Bd
  have e0 : s₁.heap = h0 := by rw [← hh, Bd.state]; rfl
  have N0 := Fr.nil n0
  refine own_in (ef_24 m y0 y1) ?_
  show own_Fin p e below s (Q_24 y0 y1 h0 n0) 0 0 s₁ (mkF m 0 #[vj y0, .second, vj y1, .second] [])
  refine own_step (T' := s₁) (g' := (mkF m 1 #[vj y0, .second, vj y1, .second] [(.long y0)])) (fun t_ k_ => XT.lloadN X0.here hx rfl (hb hby d24_0) rfl k_) ?_
  refine own_step (T' := s₁) (g' := (mkF m 2 #[vj y0, .second, vj y1, .second] [(.long y1), (.long y0)])) (fun t_ k_ => XT.lloadN X0.here hx rfl (hb hby d24_1) rfl k_) ?_
  refine own_step (T' := s₁) (g' := (mkF m 3 #[vj y0, .second, vj y1, .second] [(.int (XT.cmpL y0 y1))])) (fun t_ k_ => XT.lcmp X0.here hx rfl (hb hby d24_2) rfl k_) ?_
  suffices k2 : ∀ v3 : Int64, v3 = (if y1 < y0 then y1 else y0) → own_Fin p e below s (Q_24 y0 y1 h0 n0) 0 0 s₁ (mkF m 11 #[vj y0, .second, vj y1, .second] [(.long v3)]) by
    by_cases hb1 : y1 < y0
    · refine own_step (T' := s₁) (g' := (mkF m 10 #[vj y0, .second, vj y1, .second] [])) (fun t_ k_ => XS.ifYes X0.here hx rfl (pc0 := 3) (pc' := 10) rfl (hb hby d24_3) rfl (XT.ll_gt_t hb1) (by decide) (by decide) k_) ?_
      refine own_step (T' := s₁) (g' := (mkF m 11 #[vj y0, .second, vj y1, .second] [(.long y1)])) (fun t_ k_ => XT.lloadN X0.here hx rfl (hb hby d24_10) rfl k_) ?_
      exact k2 _ (if_pos hb1).symm
    · refine own_step (T' := s₁) (g' := (mkF m 6 #[vj y0, .second, vj y1, .second] [])) (fun t_ k_ => XS.ifNo X0.here hx rfl (hb hby d24_3) rfl (XT.ll_gt_f hb1) k_) ?_
      refine own_step (T' := s₁) (g' := (mkF m 7 #[vj y0, .second, vj y1, .second] [(.long y0)])) (fun t_ k_ => XT.lloadN X0.here hx rfl (hb hby d24_6) rfl k_) ?_
      refine own_step (T' := s₁) (g' := (mkF m 11 #[vj y0, .second, vj y1, .second] [(.long y0)])) (fun t_ k_ => XS.goto X0.here hx rfl (pc0 := 7) (pc' := 11) rfl (hb hby d24_7) (by decide) (by decide) k_) ?_
      exact k2 _ (if_neg hb1).symm
  intro v3 hv3
  exact own_retJ X0 hx hlk Bd.returns (hb hby d24_11) (by rw [e0]; exact ⟨by rw [hv3] <;> rfl, N0, rfl⟩) (by decide) (by decide)
theorem d28_0 : decode prog_202_method_15_code 0 = .ok (.lload_n 0, 1) := by decide +kernel
theorem d28_1 : decode prog_202_method_15_code 1 = .ok (.lconst 0, 1) := by decide +kernel
theorem d28_2 : decode prog_202_method_15_code 2 = .ok (.lcmp, 1) := by decide +kernel
theorem d28_3 : decode prog_202_method_15_code 3 = .ok (.ifCond .ge 17, 3) := by decide +kernel
theorem d28_6 : decode prog_202_method_15_code 6 = .ok (.new 66, 3) := by decide +kernel
theorem d28_9 : decode prog_202_method_15_code 9 = .ok (.dup, 1) := by decide +kernel
theorem d28_10 : decode prog_202_method_15_code 10 = .ok (.lload_n 0, 1) := by decide +kernel
theorem d28_11 : decode prog_202_method_15_code 11 = .ok (.invokedynamic 68, 5) := by decide +kernel
theorem d28_16 : decode prog_202_method_15_code 16 = .ok (.invokespecial 69, 3) := by decide +kernel
theorem d28_19 : decode prog_202_method_15_code 19 = .ok (.athrow, 1) := by decide +kernel
theorem d28_20 : decode prog_202_method_15_code 20 = .ok (.return_, 1) := by decide +kernel
theorem pn_28 : plainFor (⟨"com/example/sedimenta/sedimenta/store/VarInts", "requireNonNegative", "(J)V"⟩ : MethodName) = true := by first | exact plainFor_of_name (by first | (simp [plainName, overriddenIn]; done) | decide +kernel) | decide +kernel
theorem ef_28 (m : MethodId) (x0 : Int64) : entryFrame m #[(.long x0)] 2 = mkF m 0 #[.val (.long x0), .second] [] := by first | (simp [entryFrame, mkF, argsToLocals, Value.category]; done) | rfl
def Q_28  (h0 : Heap) (n0 : Nat) (v : Option Value) (h : Heap) (L : List Loc) : Prop := v = none ∧ Fr n0 L ∧ h = h0
set_option maxRecDepth 65536 in
set_option maxHeartbeats 40000000 in
theorem rm_rnn (l : Launch) (Z : State) (a0 : Array Value) (hw : ∀ d ∈ tables_1, d.before a0 Z = true) (ws : List Jvm.Cond) (zz : Int64) (h0 : Heap) (n0 : Nat) (Z0 : n0 ≤ h0.size) (hz : ¬ zz < (0 : Int64)) :
    MetFree l (⟨"com/example/sedimenta/sedimenta/store/VarInts", "requireNonNegative", "(J)V"⟩ : MethodName) (head1 (Jvm.Cond.code (⟨"com/example/sedimenta/sedimenta/store/VarInts", "requireNonNegative", "(J)V"⟩ : MethodName) prog_202_method_15_code 2 none :: ws) ({ frames := 0, cells := 0, slots := 0, locals := 0 } : Room)) (fun as_ U => as_ = #[(.long zz)] ∧ Z.Warmed39 U.vm ∧ U.heap = h0) (fun _ _ _ _ _ => True) (fun _ U o U' => ∃ v L, o = .returned v ∧ Q_28 h0 n0 v U'.heap L ∧ FrameEnd U o U' L ({ frames := 0, cells := 0, slots := 0, locals := 0 } : Room).cells ({ frames := 0, cells := 0, slots := 0, locals := 0 } : Room).slots) := by
  refine MetFree.of_bodySF pn_28 hisR ?_
  intro p e s m args below meth c s₁ Bd hml0 hP hK
  obtain ⟨rfl, hZ, hh⟩ := hP
  have hx := Bd.exec
  have hby := Bd.bytes
  have hlk := BodyLoose.notSynchronized Bd
  have hml : c.maxLocals = 2 := hml0
  have hown : s.vm.findClass "com/example/sedimenta/sedimenta/store/VarInts" = some m.cls := findClass_of_methodNamed Bd.named
  have hnm := (name_of_methodNamed Bd.named Bd.method).1
  have X0 : Stand p l e ({ frames := 0, cells := 0, slots := 0, locals := 0 } : Room) s m #[(.long zz)] below meth c s₁ [] 0 0 := Stand.of_body Bd
  have e0 : s₁.heap = h0 := by rw [← hh, Bd.state]; rfl
  have N0 := Fr.nil n0
  refine own_in (ef_28 m zz) ?_
  show own_Fin p e below s (Q_28 h0 n0) 0 0 s₁ (mkF m 0 #[vj zz, .second] [])
  refine own_step (T' := s₁) (g' := (mkF m 1 #[vj zz, .second] [(.long zz)])) (fun t_ k_ => XT.lloadN X0.here hx rfl (hb hby d28_0) rfl k_) ?_
  refine own_step (T' := s₁) (g' := (mkF m 2 #[vj zz, .second] [(.long (0 : Int64)), (.long zz)])) (fun t_ k_ => XT.lconstV X0.here hx rfl (0 : Int64) (hb hby d28_1) (by decide) k_) ?_
  refine own_step (T' := s₁) (g' := (mkF m 3 #[vj zz, .second] [(.int (XT.cmpL zz (0 : Int64)))])) (fun t_ k_ => XT.lcmp X0.here hx rfl (hb hby d28_2) rfl k_) ?_
  have hk1 : ¬ (zz < (0 : Int64)) := hz
  refine own_step (T' := s₁) (g' := (mkF m 20 #[vj zz, .second] [])) (fun t_ k_ => XS.ifYes X0.here hx rfl (pc0 := 3) (pc' := 20) rfl (hb hby d28_3) rfl (XT.ll_ge_t hk1) (by decide) (by decide) k_) ?_
  exact own_ret X0 hx hlk Bd.returns (hb hby d28_20) (by rw [e0]; exact ⟨rfl, N0, rfl⟩) (by decide) (by decide)
theorem d27_0 : decode prog_202_method_4_code 0 = .ok (.lload_n 2, 1) := by decide +kernel
theorem d27_1 : decode prog_202_method_4_code 1 = .ok (.invokestatic 21, 3) := by decide +kernel
theorem d27_4 : decode prog_202_method_4_code 4 = .ok (.iload_n 1, 1) := by decide +kernel
theorem d27_5 : decode prog_202_method_4_code 5 = .ok (.istore 4, 2) := by decide +kernel
theorem d27_7 : decode prog_202_method_4_code 7 = .ok (.lload_n 2, 1) := by decide +kernel
theorem d27_8 : decode prog_202_method_4_code 8 = .ok (.lstore 5, 2) := by decide +kernel
theorem d27_10 : decode prog_202_method_4_code 10 = .ok (.lload 5, 2) := by decide +kernel
theorem d27_12 : decode prog_202_method_4_code 12 = .ok (.ldc2_w 25, 3) := by decide +kernel
theorem d27_15 : decode prog_202_method_4_code 15 = .ok (.lcmp, 1) := by decide +kernel
theorem d27_16 : decode prog_202_method_4_code 16 = .ok (.ifCond .lt 28, 3) := by decide +kernel
theorem d27_19 : decode prog_202_method_4_code 19 = .ok (.aload_n 0, 1) := by decide +kernel
theorem d27_20 : decode prog_202_method_4_code 20 = .ok (.iload 4, 2) := by decide +kernel
theorem d27_22 : decode prog_202_method_4_code 22 = .ok (.iinc 4 1, 3) := by decide +kernel
theorem d27_25 : decode prog_202_method_4_code 25 = .ok (.lload 5, 2) := by decide +kernel
theorem d27_27 : decode prog_202_method_4_code 27 = .ok (.ldc2_w 25, 3) := by decide +kernel
theorem d27_30 : decode prog_202_method_4_code 30 = .ok (.lor, 1) := by decide +kernel
theorem d27_31 : decode prog_202_method_4_code 31 = .ok (.l2i, 1) := by decide +kernel
theorem d27_32 : decode prog_202_method_4_code 32 = .ok (.i2b, 1) := by decide +kernel
theorem d27_33 : decode prog_202_method_4_code 33 = .ok (.bastore, 1) := by decide +kernel
theorem d27_34 : decode prog_202_method_4_code 34 = .ok (.lload 5, 2) := by decide +kernel
theorem d27_36 : decode prog_202_method_4_code 36 = .ok (.bipush 7, 2) := by decide +kernel
theorem d27_38 : decode prog_202_method_4_code 38 = .ok (.lushr, 1) := by decide +kernel
theorem d27_39 : decode prog_202_method_4_code 39 = .ok (.lstore 5, 2) := by decide +kernel
theorem d27_41 : decode prog_202_method_4_code 41 = .ok (.goto (-31), 3) := by decide +kernel
theorem d27_44 : decode prog_202_method_4_code 44 = .ok (.aload_n 0, 1) := by decide +kernel
theorem d27_45 : decode prog_202_method_4_code 45 = .ok (.iload 4, 2) := by decide +kernel
theorem d27_47 : decode prog_202_method_4_code 47 = .ok (.iinc 4 1, 3) := by decide +kernel
theorem d27_50 : decode prog_202_method_4_code 50 = .ok (.lload 5, 2) := by decide +kernel
theorem d27_52 : decode prog_202_method_4_code 52 = .ok (.l2i, 1) := by decide +kernel
theorem d27_53 : decode prog_202_method_4_code 53 = .ok (.i2b, 1) := by decide +kernel
theorem d27_54 : decode prog_202_method_4_code 54 = .ok (.bastore, 1) := by decide +kernel
theorem d27_55 : decode prog_202_method_4_code 55 = .ok (.iload 4, 2) := by decide +kernel
theorem d27_57 : decode prog_202_method_4_code 57 = .ok (.ireturn, 1) := by decide +kernel
theorem pn_27 : plainFor (⟨"com/example/sedimenta/sedimenta/store/VarInts", "putLonger", "([BIJ)I"⟩ : MethodName) = true := by first | exact plainFor_of_name (by first | (simp [plainName, overriddenIn]; done) | decide +kernel) | decide +kernel
theorem ef_27 (m : MethodId) (x0 : Addr) (x1 : Int32) (x2 : Int64) : entryFrame m #[(.ref x0), (.int x1), (.long x2)] 7 = mkF m 0 #[.val (.ref x0), .val (.int x1), .val (.long x2), .second, .unset, .unset, .unset] [] := by first | (simp [entryFrame, mkF, argsToLocals, Value.category]; done) | rfl
def Q_27 (Z : State) (oo : Addr) (ai : Int32) (zz : Int64) (vs : List Value) (h0 : Heap) (n0 : Nat) (v : Option Value) (h : Heap) (L : List Loc) : Prop := ∃ (us : List Value) (r : Int32), v = some (.int r) ∧ Fr n0 L ∧ Keep h0 h [oo] ∧ own_Arl Z h oo .byte us ∧ own_Put vs us ai zz r
set_option maxRecDepth 65536 in
set_option maxHeartbeats 40000000 in
theorem rm_pl (l : Launch) (Z : State) (a0 : Array Value) (hw : ∀ d ∈ tables_1, d.before a0 Z = true) (ws : List Jvm.Cond) (oo : Addr) (ai : Int32) (zz : Int64) (vs : List Value) (h0 : Heap) (n0 : Nat) (Z0 : n0 ≤ h0.size) (V0 : own_Arl Z h0 oo .byte vs) (go : n0 ≤ oo) (hPq : own_PP vs ai zz) :
    MetFree l (⟨"com/example/sedimenta/sedimenta/store/VarInts", "putLonger", "([BIJ)I"⟩ : MethodName) (head1 (Jvm.Cond.code (⟨"com/example/sedimenta/sedimenta/store/VarInts", "putLonger", "([BIJ)I"⟩ : MethodName) prog_202_method_4_code 7 (some .int) :: ws) ({ frames := 1, cells := 0, slots := 0, locals := 13 } : Room)) (fun as_ U => as_ = #[(.ref oo), (.int ai), (.long zz)] ∧ Z.Warmed39 U.vm ∧ U.heap = h0) (fun _ _ _ _ _ => True) (fun _ U o U' => ∃ v L, o = .returned v ∧ Q_27 Z oo ai zz vs h0 n0 v U'.heap L ∧ FrameEnd U o U' L ({ frames := 1, cells := 0, slots := 0, locals := 13 } : Room).cells ({ frames := 1, cells := 0, slots := 0, locals := 13 } : Room).slots) := by
  refine MetFree.of_bodySF pn_27 hisR ?_
  intro p e s m args below meth c s₁ Bd hml0 hP hK
  obtain ⟨rfl, hZ, hh⟩ := hP
  have hx := Bd.exec
  have hby := Bd.bytes
  have hlk := BodyLoose.notSynchronized Bd
  have hml : c.maxLocals = 7 := hml0
  have hown : s.vm.findClass "com/example/sedimenta/sedimenta/store/VarInts" = some m.cls := findClass_of_methodNamed Bd.named
  have hnm := (name_of_methodNamed Bd.named Bd.method).1
  have X0 : Stand p l e ({ frames := 1, cells := 0, slots := 0, locals := 13 } : Room) s m #[(.ref oo), (.int ai), (.long zz)] below meth c s₁ [] 0 0 := Stand.of_body Bd
  have e0 : s₁.heap = h0 := by rw [← hh, Bd.state]; rfl
  have N0 := Fr.nil n0
  refine own_in (ef_27 m oo ai zz) ?_
  show own_Fin p e below s (Q_27 Z oo ai zz vs h0 n0) 0 0 s₁ (mkF m 0 #[va oo, vi ai, vj zz, .second, un, un, un] [])
  refine own_step (T' := s₁) (g' := (mkF m 1 #[va oo, vi ai, vj zz, .second, un, un, un] [(.long zz)])) (fun t_ k_ => XT.lloadN X0.here hx rfl (hb hby d27_0) rfl k_) ?_
  obtain ⟨_, _, ⟨Tc1, Lc1, kc1, nc1⟩, -, Xc1, ⟨Lcc1, hQc1, lc1, yc1, zc1⟩, stc1⟩ := Jvm.LawKit.callS X0 hx (y := (⟨"com/example/sedimenta/sedimenta/store/VarInts", "requireNonNegative", "(J)V"⟩ : MethodName)) hown (mvT hZ (own_w (i := 174) rfl hw)) (mvT hZ (own_w (i := 175) rfl hw)) (mvT hZ (own_w (i := 54) rfl hw)) (mvT hZ (own_w (i := 176) rfl hw)) (by decide) (backOf (W := 0) (rm_rnn l Z a0 hw [] zz h0 n0 Z0 (own_pp_nn hPq)) hZ (own_w (i := 176) rfl hw) (own_w (i := 54) rfl hw) (by decide) (by decide)) (g := (mkF m 1 #[va oo, vi ai, vj zz, .second, un, un, un] [(.long zz)])) rfl (by rw [hml]; rfl) (argsL := [(.long zz)]) (rest := []) (lenOf pd_0 rfl) rfl (by show 2 * 0 + _ ≤ _; exact Nat.le_of_eq rfl) (hb hby d27_1) (fun _ _ => ⟨rfl, e0, (by decide : 0 + 0 ≤ _), (by decide : 0 + 0 ≤ _)⟩)
  dsimp only [Pt.U, Pt.locs, Pt.cells, Pt.slots] at Xc1 lc1 yc1 zc1 stc1 hQc1
  subst lc1 yc1 zc1
  have X2 := Xc1.more (cells' := 0) (slots' := 0) (by decide) (by decide)
  obtain ⟨rfl, N3, e4⟩ := hQc1
  have N5 := Fr.app N0 N3
  obtain ⟨Lo6, X7, N8⟩ : ∃ Lo_, Stand p l e ({ frames := 1, cells := 0, slots := 0, locals := 13 } : Room) s m #[(.ref oo), (.int ai), (.long zz)] below meth c Tc1 Lo_ 0 0 ∧ Fr n0 Lo_ := ⟨_, X2, N5⟩
  refine own_step (T' := Tc1) (g' := (mkF m 4 #[va oo, vi ai, vj zz, .second, un, un, un] [])) stc1 ?_
  refine own_step (T' := Tc1) (g' := (mkF m 5 #[va oo, vi ai, vj zz, .second, un, un, un] [(.int ai)])) (fun t_ k_ => XS.iloadN X7.here hx rfl (hb hby d27_4) rfl k_) ?_
  refine own_step (T' := Tc1) (g' := (mkF m 7 #[va oo, vi ai, vj zz, .second, vi ai, un, un] [])) (fun t_ k_ => XS.istore X7.here hx rfl (hb hby d27_5) rfl (l' := #[va oo, vi ai, vj zz, .second, vi ai, un, un]) rfl k_) ?_
  refine own_step (T' := Tc1) (g' := (mkF m 8 #[va oo, vi ai, vj zz, .second, vi ai, un, un] [(.long zz)])) (fun t_ k_ => XT.lloadN X7.here hx rfl (hb hby d27_7) rfl k_) ?_
  refine own_step (T' := Tc1) (g' := (mkF m 10 #[va oo, vi ai, vj zz, .second, vi ai, vj zz, .second] [])) (fun t_ k_ => XT.lstore X7.here hx rfl (hb hby d27_8) rfl (l' := #[va oo, vi ai, vj zz, .second, vi ai, vj zz, .second]) rfl k_) ?_
  have loop : ∀ (n : Nat) (T : State) (h : Heap) (Lo : List Loc) (cu : Int32) (lf : Int64) (us : List Value), own_LP n cu lf us → (∀ us2 r2, own_Put us us2 cu lf r2 → own_Put vs us2 ai zz r2) → Stand p l e ({ frames := 1, cells := 0, slots := 0, locals := 13 } : Room) s m #[(.ref oo), (.int ai), (.long zz)] below meth c T Lo 0 0 → T.heap = h → Fr n0 Lo → n0 ≤ h.size → Keep h0 h [oo] → own_Arl Z h oo .byte us → own_Fin p e below s (Q_27 Z oo ai zz vs h0 n0) 0 0 T (mkF m 10 #[va oo, vi ai, vj zz, .second, vi cu, vj lf, .second] []) := by
    intro n
    induction n with
    | zero =>
      intro T h Lo cu lf us hPq hG Xl el Nl zl Kl Vl
      have hlt := own_lp_zero hPq
      refine own_step (T' := T) (g' := (mkF m 12 #[va oo, vi ai, vj zz, .second, vi cu, vj lf, .second] [(.long lf)])) (fun t_ k_ => XT.lload Xl.here hx rfl (hb hby d27_10) rfl k_) ?_
      refine own_step (T' := T) (g' := (mkF m 15 #[va oo, vi ai, vj zz, .second, vi cu, vj lf, .second] [(.long (128 : Int64)), (.long lf)])) (fun t_ k_ => Xl.ldc2J hx hown (mvT hZ (own_w (i := 177) rfl hw)) rfl (hb hby d27_12) k_) ?_
      refine own_step (T' := T) (g' := (mkF m 16 #[va oo, vi ai, vj zz, .second, vi cu, vj lf, .second] [(.int (XT.cmpL lf (128 : Int64)))])) (fun t_ k_ => XT.lcmp Xl.here hx rfl (hb hby d27_15) rfl k_) ?_
      have hk9 : lf < (128 : Int64) := hlt
      refine own_step (T' := T) (g' := (mkF m 44 #[va oo, vi ai, vj zz, .second, vi cu, vj lf, .second] [])) (fun t_ k_ => XS.ifYes Xl.here hx rfl (pc0 := 16) (pc' := 44) rfl (hb hby d27_16) rfl (XT.ll_lt_t hk9) (by decide) (by decide) k_) ?_
      refine own_step (T' := T) (g' := (mkF m 45 #[va oo, vi ai, vj zz, .second, vi cu, vj lf, .second] [(.ref oo)])) (fun t_ k_ => XS.aloadN Xl.here hx rfl (hb hby d27_44) rfl rfl k_) ?_
      refine own_step (T' := T) (g' := (mkF m 47 #[va oo, vi ai, vj zz, .second, vi cu, vj lf, .second] [(.int cu), (.ref oo)])) (fun t_ k_ => XS.iload Xl.here hx rfl (hb hby d27_45) rfl k_) ?_
      refine own_step (T' := T) (g' := (mkF m 50 #[va oo, vi ai, vj zz, .second, vi (cu + (1 : Int32)), vj lf, .second] [(.int cu), (.ref oo)])) (fun t_ k_ => XT.iincV Xl.here hx rfl (1 : Int32) (hb hby d27_47) (by decide) rfl (l' := #[va oo, vi ai, vj zz, .second, vi (cu + (1 : Int32)), vj lf, .second]) rfl k_) ?_
      refine own_step (T' := T) (g' := (mkF m 52 #[va oo, vi ai, vj zz, .second, vi (cu + (1 : Int32)), vj lf, .second] [(.long lf), (.int cu), (.ref oo)])) (fun t_ k_ => XT.lload Xl.here hx rfl (hb hby d27_50) rfl k_) ?_
      refine own_step (T' := T) (g' := (mkF m 53 #[va oo, vi ai, vj zz, .second, vi (cu + (1 : Int32)), vj lf, .second] [(.int ((lf).toInt32)), (.int cu), (.ref oo)])) (fun t_ k_ => XT.l2i Xl.here hx rfl (hb hby d27_52) rfl k_) ?_
      refine own_step (T' := T) (g' := (mkF m 54 #[va oo, vi ai, vj zz, .second, vi (cu + (1 : Int32)), vj lf, .second] [(.int ((((lf).toInt32)).toInt8.toInt32)), (.int cu), (.ref oo)])) (fun t_ k_ => XT.i2b Xl.here hx rfl (hb hby d27_53) rfl k_) ?_
      obtain ⟨cl10, Ar11, Lx12⟩ := id Vl
      obtain ⟨T13, h14, X15, e16, W17, st18⟩ := stB Xl hx hZ el Ar11 (j := cu) (own_inb Lx12 (own_nn hPq.2.1) (own_lp_in hPq)) (g := (mkF m 54 #[va oo, vi ai, vj zz, .second, vi (cu + (1 : Int32)), vj lf, .second] [(.int ((((lf).toInt32)).toInt8.toInt32)), (.int cu), (.ref oo)])) rfl rfl (hb hby d27_54)
      have N19 := Fr.snoc X15 Nl go
      have F20 := Nat.le_trans zl (Keep.of_wr W17).1
      have F21 := Kl.wr W17 (Or.inl (List.mem_of_getElem? (i := 0) rfl))
      have V22 : own_Arl Z h14 oo .byte (us.set (cu).toNatClampNeg (.int (nar .byte ((((lf).toInt32)).toInt8.toInt32)))) := own_Arl.set Vl W17
      obtain ⟨Lo23, X24, N25⟩ : ∃ Lo_, Stand p l e ({ frames := 1, cells := 0, slots := 0, locals := 13 } : Room) s m #[(.ref oo), (.int ai), (.long zz)] below meth c T13 Lo_ 0 0 ∧ Fr n0 Lo_ := ⟨_, X15, N19⟩
      refine own_step (T' := T13) (g' := (mkF m 55 #[va oo, vi ai, vj zz, .second, vi (cu + (1 : Int32)), vj lf, .second] [])) st18 ?_
      refine own_step (T' := T13) (g' := (mkF m 57 #[va oo, vi ai, vj zz, .second, vi (cu + (1 : Int32)), vj lf, .second] [(.int (cu + (1 : Int32)))])) (fun t_ k_ => XS.iload X24.here hx rfl (hb hby d27_55) rfl k_) ?_
      exact own_retI X24 hx hlk Bd.returns (hb hby d27_57) (by rw [e16]; exact ⟨_, _, rfl, N25, F21, V22, hG _ _ (own_lp_done hPq hlt)⟩) (by decide) (by decide)
    | succ n ih =>
      intro T h Lo cu lf us hPq hG Xl el Nl zl Kl Vl
      by_cases hlt : lf < (128 : Int64)
      · refine own_step (T' := T) (g' := (mkF m 12 #[va oo, vi ai, vj zz, .second, vi cu, vj lf, .second] [(.long lf)])) (fun t_ k_ => XT.lload Xl.here hx rfl (hb hby d27_10) rfl k_) ?_
        refine own_step (T' := T) (g' := (mkF m 15 #[va oo, vi ai, vj zz, .second, vi cu, vj lf, .second] [(.long (128 : Int64)), (.long lf)])) (fun t_ k_ => Xl.ldc2J hx hown (mvT hZ (own_w (i := 177) rfl hw)) rfl (hb hby d27_12) k_) ?_
        refine own_step (T' := T) (g' := (mkF m 16 #[va oo, vi ai, vj zz, .second, vi cu, vj lf, .second] [(.int (XT.cmpL lf (128 : Int64)))])) (fun t_ k_ => XT.lcmp Xl.here hx rfl (hb hby d27_15) rfl k_) ?_
        have hk26 : lf < (128 : Int64) := hlt
        refine own_step (T' := T) (g' := (mkF m 44 #[va oo, vi ai, vj zz, .second, vi cu, vj lf, .second] [])) (fun t_ k_ => XS.ifYes Xl.here hx rfl (pc0 := 16) (pc' := 44) rfl (hb hby d27_16) rfl (XT.ll_lt_t hk26) (by decide) (by decide) k_) ?_
        refine own_step (T' := T) (g' := (mkF m 45 #[va oo, vi ai, vj zz, .second, vi cu, vj lf, .second] [(.ref oo)])) (fun t_ k_ => XS.aloadN Xl.here hx rfl (hb hby d27_44) rfl rfl k_) ?_
        refine own_step (T' := T) (g' := (mkF m 47 #[va oo, vi ai, vj zz, .second, vi cu, vj lf, .second] [(.int cu), (.ref oo)])) (fun t_ k_ => XS.iload Xl.here hx rfl (hb hby d27_45) rfl k_) ?_
        refine own_step (T' := T) (g' := (mkF m 50 #[va oo, vi ai, vj zz, .second, vi (cu + (1 : Int32)), vj lf, .second] [(.int cu), (.ref oo)])) (fun t_ k_ => XT.iincV Xl.here hx rfl (1 : Int32) (hb hby d27_47) (by decide) rfl (l' := #[va oo, vi ai, vj zz, .second, vi (cu + (1 : Int32)), vj lf, .second]) rfl k_) ?_
        refine own_step (T' := T) (g' := (mkF m 52 #[va oo, vi ai, vj zz, .second, vi (cu + (1 : Int32)), vj lf, .second] [(.long lf), (.int cu), (.ref oo)])) (fun t_ k_ => XT.lload Xl.here hx rfl (hb hby d27_50) rfl k_) ?_
        refine own_step (T' := T) (g' := (mkF m 53 #[va oo, vi ai, vj zz, .second, vi (cu + (1 : Int32)), vj lf, .second] [(.int ((lf).toInt32)), (.int cu), (.ref oo)])) (fun t_ k_ => XT.l2i Xl.here hx rfl (hb hby d27_52) rfl k_) ?_
        refine own_step (T' := T) (g' := (mkF m 54 #[va oo, vi ai, vj zz, .second, vi (cu + (1 : Int32)), vj lf, .second] [(.int ((((lf).toInt32)).toInt8.toInt32)), (.int cu), (.ref oo)])) (fun t_ k_ => XT.i2b Xl.here hx rfl (hb hby d27_53) rfl k_) ?_
        obtain ⟨cl27, Ar28, Lx29⟩ := id Vl
        obtain ⟨T30, h31, X32, e33, W34, st35⟩ := stB Xl hx hZ el Ar28 (j := cu) (own_inb Lx29 (own_nn hPq.2.1) (own_lp_in hPq)) (g := (mkF m 54 #[va oo, vi ai, vj zz, .second, vi (cu + (1 : Int32)), vj lf, .second] [(.int ((((lf).toInt32)).toInt8.toInt32)), (.int cu), (.ref oo)])) rfl rfl (hb hby d27_54)
        have N36 := Fr.snoc X32 Nl go
        have F37 := Nat.le_trans zl (Keep.of_wr W34).1
        have F38 := Kl.wr W34 (Or.inl (List.mem_of_getElem? (i := 0) rfl))
        have V39 : own_Arl Z h31 oo .byte (us.set (cu).toNatClampNeg (.int (nar .byte ((((lf).toInt32)).toInt8.toInt32)))) := own_Arl.set Vl W34
        obtain ⟨Lo40, X41, N42⟩ : ∃ Lo_, Stand p l e ({ frames := 1, cells := 0, slots := 0, locals := 13 } : Room) s m #[(.ref oo), (.int ai), (.long zz)] below meth c T30 Lo_ 0 0 ∧ Fr n0 Lo_ := ⟨_, X32, N36⟩
        refine own_step (T' := T30) (g' := (mkF m 55 #[va oo, vi ai, vj zz, .second, vi (cu + (1 : Int32)), vj lf, .second] [])) st35 ?_
        refine own_step (T' := T30) (g' := (mkF m 57 #[va oo, vi ai, vj zz, .second, vi (cu + (1 : Int32)), vj lf, .second] [(.int (cu + (1 : Int32)))])) (fun t_ k_ => XS.iload X41.here hx rfl (hb hby d27_55) rfl k_) ?_
        exact own_retI X41 hx hlk Bd.returns (hb hby d27_57) (by rw [e33]; exact ⟨_, _, rfl, N42, F38, V39, hG _ _ (own_lp_done hPq hlt)⟩) (by decide) (by decide)
      · refine own_step (T' := T) (g' := (mkF m 12 #[va oo, vi ai, vj zz, .second, vi cu, vj lf, .second] [(.long lf)])) (fun t_ k_ => XT.lload Xl.here hx rfl (hb hby d27_10) rfl k_) ?_
        refine own_step (T' := T) (g' := (mkF m 15 #[va oo, vi ai, vj zz, .second, vi cu, vj lf, .second] [(.long (128 : Int64)), (.long lf)])) (fun t_ k_ => Xl.ldc2J hx hown (mvT hZ (own_w (i := 177) rfl hw)) rfl (hb hby d27_12) k_) ?_
        refine own_step (T' := T) (g' := (mkF m 16 #[va oo, vi ai, vj zz, .second, vi cu, vj lf, .second] [(.int (XT.cmpL lf (128 : Int64)))])) (fun t_ k_ => XT.lcmp Xl.here hx rfl (hb hby d27_15) rfl k_) ?_
        have hk43 : ¬ (lf < (128 : Int64)) := hlt
        refine own_step (T' := T) (g' := (mkF m 19 #[va oo, vi ai, vj zz, .second, vi cu, vj lf, .second] [])) (fun t_ k_ => XS.ifNo Xl.here hx rfl (hb hby d27_16) rfl (XT.ll_lt_f hk43) k_) ?_
        refine own_step (T' := T) (g' := (mkF m 20 #[va oo, vi ai, vj zz, .second, vi cu, vj lf, .second] [(.ref oo)])) (fun t_ k_ => XS.aloadN Xl.here hx rfl (hb hby d27_19) rfl rfl k_) ?_
        refine own_step (T' := T) (g' := (mkF m 22 #[va oo, vi ai, vj zz, .second, vi cu, vj lf, .second] [(.int cu), (.ref oo)])) (fun t_ k_ => XS.iload Xl.here hx rfl (hb hby d27_20) rfl k_) ?_
        refine own_step (T' := T) (g' := (mkF m 25 #[va oo, vi ai, vj zz, .second, vi (cu + (1 : Int32)), vj lf, .second] [(.int cu), (.ref oo)])) (fun t_ k_ => XT.iincV Xl.here hx rfl (1 : Int32) (hb hby d27_22) (by decide) rfl (l' := #[va oo, vi ai, vj zz, .second, vi (cu + (1 : Int32)), vj lf, .second]) rfl k_) ?_
        refine own_step (T' := T) (g' := (mkF m 27 #[va oo, vi ai, vj zz, .second, vi (cu + (1 : Int32)), vj lf, .second] [(.long lf), (.int cu), (.ref oo)])) (fun t_ k_ => XT.lload Xl.here hx rfl (hb hby d27_25) rfl k_) ?_
        refine own_step (T' := T) (g' := (mkF m 30 #[va oo, vi ai, vj zz, .second, vi (cu + (1 : Int32)), vj lf, .second] [(.long (128 : Int64)), (.long lf), (.int cu), (.ref oo)])) (fun t_ k_ => Xl.ldc2J hx hown (mvT hZ (own_w (i := 177) rfl hw)) rfl (hb hby d27_27) k_) ?_
        refine own_step (T' := T) (g' := (mkF m 31 #[va oo, vi ai, vj zz, .second, vi (cu + (1 : Int32)), vj lf, .second] [(.long (lf ||| (128 : Int64))), (.int cu), (.ref oo)])) (fun t_ k_ => XT.lor Xl.here hx rfl (hb hby d27_30) rfl k_) ?_
        refine own_step (T' := T) (g' := (mkF m 32 #[va oo, vi ai, vj zz, .second, vi (cu + (1 : Int32)), vj lf, .second] [(.int (((lf ||| (128 : Int64))).toInt32)), (.int cu), (.ref oo)])) (fun t_ k_ => XT.l2i Xl.here hx rfl (hb hby d27_31) rfl k_) ?_
        refine own_step (T' := T) (g' := (mkF m 33 #[va oo, vi ai, vj zz, .second, vi (cu + (1 : Int32)), vj lf, .second] [(.int (((((lf ||| (128 : Int64))).toInt32)).toInt8.toInt32)), (.int cu), (.ref oo)])) (fun t_ k_ => XT.i2b Xl.here hx rfl (hb hby d27_32) rfl k_) ?_
        obtain ⟨cl44, Ar45, Lx46⟩ := id Vl
        obtain ⟨T47, h48, X49, e50, W51, st52⟩ := stB Xl hx hZ el Ar45 (j := cu) (own_inb Lx46 (own_nn hPq.2.1) (own_lp_in hPq)) (g := (mkF m 33 #[va oo, vi ai, vj zz, .second, vi (cu + (1 : Int32)), vj lf, .second] [(.int (((((lf ||| (128 : Int64))).toInt32)).toInt8.toInt32)), (.int cu), (.ref oo)])) rfl rfl (hb hby d27_33)
        have N53 := Fr.snoc X49 Nl go
        have F54 := Nat.le_trans zl (Keep.of_wr W51).1
        have F55 := Kl.wr W51 (Or.inl (List.mem_of_getElem? (i := 0) rfl))
        have V56 : own_Arl Z h48 oo .byte (us.set (cu).toNatClampNeg (.int (nar .byte (((((lf ||| (128 : Int64))).toInt32)).toInt8.toInt32)))) := own_Arl.set Vl W51
        obtain ⟨Lo57, X58, N59⟩ : ∃ Lo_, Stand p l e ({ frames := 1, cells := 0, slots := 0, locals := 13 } : Room) s m #[(.ref oo), (.int ai), (.long zz)] below meth c T47 Lo_ 0 0 ∧ Fr n0 Lo_ := ⟨_, X49, N53⟩
        refine own_step (T' := T47) (g' := (mkF m 34 #[va oo, vi ai, vj zz, .second, vi (cu + (1 : Int32)), vj lf, .second] [])) st52 ?_
        refine own_step (T' := T47) (g' := (mkF m 36 #[va oo, vi ai, vj zz, .second, vi (cu + (1 : Int32)), vj lf, .second] [(.long lf)])) (fun t_ k_ => XT.lload X58.here hx rfl (hb hby d27_34) rfl k_) ?_
        refine own_step (T' := T47) (g' := (mkF m 38 #[va oo, vi ai, vj zz, .second, vi (cu + (1 : Int32)), vj lf, .second] [(.int (7 : Int32)), (.long lf)])) (fun t_ k_ => XT.bipushV X58.here hx rfl (7 : Int32) (hb hby d27_36) (by decide) k_) ?_
        refine own_step (T' := T47) (g' := (mkF m 39 #[va oo, vi ai, vj zz, .second, vi (cu + (1 : Int32)), vj lf, .second] [(.long (XT.ushrL lf (7 : Int32)))])) (fun t_ k_ => XT.lushr X58.here hx rfl (hb hby d27_38) rfl k_) ?_
        refine own_step (T' := T47) (g' := (mkF m 41 #[va oo, vi ai, vj zz, .second, vi (cu + (1 : Int32)), vj (XT.ushrL lf (7 : Int32)), .second] [])) (fun t_ k_ => XT.lstore X58.here hx rfl (hb hby d27_39) rfl (l' := #[va oo, vi ai, vj zz, .second, vi (cu + (1 : Int32)), vj (XT.ushrL lf (7 : Int32)), .second]) rfl k_) ?_
        refine own_step (T' := T47) (g' := (mkF m 10 #[va oo, vi ai, vj zz, .second, vi (cu + (1 : Int32)), vj (XT.ushrL lf (7 : Int32)), .second] [])) (fun t_ k_ => XS.goto X58.here hx rfl (pc0 := 41) (pc' := 10) rfl (hb hby d27_41) (by decide) (by decide) k_) ?_
        exact ih _ _ _ _ _ _ (own_LP_step hPq) (fun us2 r2 q2 => hG us2 r2 (own_put_step hPq hlt q2)) X58 e50 N59 F54 F55 V56
  exact loop 4 _ _ _ _ _ _ (own_pp_lp hPq) (fun _ _ q => q) X7 e4 N8 Z0 (Keep.refl h0 [oo]) V0
theorem d7_0 : decode prog_202_method_3_code 0 = .ok (.lload_n 2, 1) := by decide +kernel
theorem d7_1 : decode prog_202_method_3_code 1 = .ok (.bipush 7, 2) := by decide +kernel
theorem d7_3 : decode prog_202_method_3_code 3 = .ok (.lushr, 1) := by decide +kernel
theorem d7_4 : decode prog_202_method_3_code 4 = .ok (.lconst 0, 1) := by decide +kernel
theorem d7_5 : decode prog_202_method_3_code 5 = .ok (.lcmp, 1) := by decide +kernel
theorem d7_6 : decode prog_202_method_3_code 6 = .ok (.ifCond .ne 17, 3) := by decide +kernel
theorem d7_9 : decode prog_202_method_3_code 9 = .ok (.aload_n 0, 1) := by decide +kernel
theorem d7_10 : decode prog_202_method_3_code 10 = .ok (.iload_n 1, 1) := by decide +kernel
theorem d7_11 : decode prog_202_method_3_code 11 = .ok (.lload_n 2, 1) := by decide +kernel
theorem d7_12 : decode prog_202_method_3_code 12 = .ok (.l2i, 1) := by decide +kernel
theorem d7_13 : decode prog_202_method_3_code 13 = .ok (.i2b, 1) := by decide +kernel
theorem d7_14 : decode prog_202_method_3_code 14 = .ok (.bastore, 1) := by decide +kernel
theorem d7_15 : decode prog_202_method_3_code 15 = .ok (.iload_n 1, 1) := by decide +kernel
theorem d7_16 : decode prog_202_method_3_code 16 = .ok (.iconst 1, 1) := by decide +kernel
theorem d7_17 : decode prog_202_method_3_code 17 = .ok (.iadd, 1) := by decide +kernel
theorem d7_18 : decode prog_202_method_3_code 18 = .ok (.istore 4, 2) := by decide +kernel
theorem d7_20 : decode prog_202_method_3_code 20 = .ok (.goto 11, 3) := by decide +kernel
theorem d7_23 : decode prog_202_method_3_code 23 = .ok (.aload_n 0, 1) := by decide +kernel
theorem d7_24 : decode prog_202_method_3_code 24 = .ok (.iload_n 1, 1) := by decide +kernel
theorem d7_25 : decode prog_202_method_3_code 25 = .ok (.lload_n 2, 1) := by decide +kernel
theorem d7_26 : decode prog_202_method_3_code 26 = .ok (.invokestatic 17, 3) := by decide +kernel
theorem d7_29 : decode prog_202_method_3_code 29 = .ok (.istore 4, 2) := by decide +kernel
theorem d7_31 : decode prog_202_method_3_code 31 = .ok (.iload 4, 2) := by decide +kernel
theorem d7_33 : decode prog_202_method_3_code 33 = .ok (.ireturn, 1) := by decide +kernel
theorem pn_7 : plainFor (⟨"com/example/sedimenta/sedimenta/store/VarInts", "put", "([BIJ)I"⟩ : MethodName) = true := by first | exact plainFor_of_name (by first | (simp [plainName, overriddenIn]; done) | decide +kernel) | decide +kernel
theorem ef_7 (m : MethodId) (x0 : Addr) (x1 : Int32) (x2 : Int64) : entryFrame m #[(.ref x0), (.int x1), (.long x2)] 5 = mkF m 0 #[.val (.ref x0), .val (.int x1), .val (.long x2), .second, .unset] [] := by first | (simp [entryFrame, mkF, argsToLocals, Value.category]; done) | rfl
def Q_7 (Z : State) (oo : Addr) (ai : Int32) (zz : Int64) (vs : List Value) (h0 : Heap) (n0 : Nat) (v : Option Value) (h : Heap) (L : List Loc) : Prop := ∃ (us : List Value) (r : Int32), v = some (.int r) ∧ Fr n0 L ∧ Keep h0 h [oo] ∧ own_Arl Z h oo .byte us ∧ own_Put vs us ai zz r
set_option maxRecDepth 65536 in
set_option maxHeartbeats 40000000 in
theorem rm_put (l : Launch) (Z : State) (a0 : Array Value) (hw : ∀ d ∈ tables_1, d.before a0 Z = true) (ws : List Jvm.Cond) (oo : Addr) (ai : Int32) (zz : Int64) (vs : List Value) (h0 : Heap) (n0 : Nat) (Z0 : n0 ≤ h0.size) (V0 : own_Arl Z h0 oo .byte vs) (go : n0 ≤ oo) (hPq : own_PP vs ai zz) :
    MetFree l (⟨"com/example/sedimenta/sedimenta/store/VarInts", "put", "([BIJ)I"⟩ : MethodName) (head1 (Jvm.Cond.code (⟨"com/example/sedimenta/sedimenta/store/VarInts", "put", "([BIJ)I"⟩ : MethodName) prog_202_method_3_code 5 (some .int) :: ws) ({ frames := 2, cells := 0, slots := 0, locals := 31 } : Room)) (fun as_ U => as_ = #[(.ref oo), (.int ai), (.long zz)] ∧ Z.Warmed39 U.vm ∧ U.heap = h0) (fun _ _ _ _ _ => True) (fun _ U o U' => ∃ v L, o = .returned v ∧ Q_7 Z oo ai zz vs h0 n0 v U'.heap L ∧ FrameEnd U o U' L ({ frames := 2, cells := 0, slots := 0, locals := 31 } : Room).cells ({ frames := 2, cells := 0, slots := 0, locals := 31 } : Room).slots) := by
  refine MetFree.of_bodySF pn_7 hisR ?_
  intro p e s m args below meth c s₁ Bd hml0 hP hK
  obtain ⟨rfl, hZ, hh⟩ := hP
  have hx := Bd.exec
  have hby := Bd.bytes
  have hlk := BodyLoose.notSynchronized Bd
  have hml : c.maxLocals = 5 := hml0
  have hown : s.vm.findClass "com/example/sedimenta/sedimenta/store/VarInts" = some m.cls := findClass_of_methodNamed Bd.named
  have hnm := (name_of_methodNamed Bd.named Bd.method).1
  have X0 : Stand p l e ({ frames := 2, cells := 0, slots := 0, locals := 31 } : Room) s m #[(.ref oo), (.int ai), (.long zz)] below meth c s₁ [] 0 0 := Stand.of_body Bd
  have e0 : s₁.heap = h0 := by rw [← hh, Bd.state]; rfl
  have N0 := Fr.nil n0
  refine own_in (ef_7 m oo ai zz) ?_
  show own_Fin p e below s (Q_7 Z oo ai zz vs h0 n0) 0 0 s₁ (mkF m 0 #[va oo, vi ai, vj zz, .second, un] [])
  refine own_step (T' := s₁) (g' := (mkF m 1 #[va oo, vi ai, vj zz, .second, un] [(.long zz)])) (fun t_ k_ => XT.lloadN X0.here hx rfl (hb hby d7_0) rfl k_) ?_
  refine own_step (T' := s₁) (g' := (mkF m 3 #[va oo, vi ai, vj zz, .second, un] [(.int (7 : Int32)), (.long zz)])) (fun t_ k_ => XT.bipushV X0.here hx rfl (7 : Int32) (hb hby d7_1) (by decide) k_) ?_
  refine own_step (T' := s₁) (g' := (mkF m 4 #[va oo, vi ai, vj zz, .second, un] [(.long (XT.ushrL zz (7 : Int32)))])) (fun t_ k_ => XT.lushr X0.here hx rfl (hb hby d7_3) rfl k_) ?_
  refine own_step (T' := s₁) (g' := (mkF m 5 #[va oo, vi ai, vj zz, .second, un] [(.long (0 : Int64)), (.long (XT.ushrL zz (7 : Int32)))])) (fun t_ k_ => XT.lconstV X0.here hx rfl (0 : Int64) (hb hby d7_4) (by decide) k_) ?_
  refine own_step (T' := s₁) (g' := (mkF m 6 #[va oo, vi ai, vj zz, .second, un] [(.int (XT.cmpL (XT.ushrL zz (7 : Int32)) (0 : Int64)))])) (fun t_ k_ => XT.lcmp X0.here hx rfl (hb hby d7_5) rfl k_) ?_
  by_cases hb1 : (XT.ushrL zz (7 : Int32)) = (0 : Int64)
  · refine own_step (T' := s₁) (g' := (mkF m 9 #[va oo, vi ai, vj zz, .second, un] [])) (fun t_ k_ => XS.ifNo X0.here hx rfl (hb hby d7_6) rfl (XT.ll_ne_f hb1) k_) ?_
    refine own_step (T' := s₁) (g' := (mkF m 10 #[va oo, vi ai, vj zz, .second, un] [(.ref oo)])) (fun t_ k_ => XS.aloadN X0.here hx rfl (hb hby d7_9) rfl rfl k_) ?_
    refine own_step (T' := s₁) (g' := (mkF m 11 #[va oo, vi ai, vj zz, .second, un] [(.int ai), (.ref oo)])) (fun t_ k_ => XS.iloadN X0.here hx rfl (hb hby d7_10) rfl k_) ?_
    refine own_step (T' := s₁) (g' := (mkF m 12 #[va oo, vi ai, vj zz, .second, un] [(.long zz), (.int ai), (.ref oo)])) (fun t_ k_ => XT.lloadN X0.here hx rfl (hb hby d7_11) rfl k_) ?_
    refine own_step (T' := s₁) (g' := (mkF m 13 #[va oo, vi ai, vj zz, .second, un] [(.int ((zz).toInt32)), (.int ai), (.ref oo)])) (fun t_ k_ => XT.l2i X0.here hx rfl (hb hby d7_12) rfl k_) ?_
    refine own_step (T' := s₁) (g' := (mkF m 14 #[va oo, vi ai, vj zz, .second, un] [(.int ((((zz).toInt32)).toInt8.toInt32)), (.int ai), (.ref oo)])) (fun t_ k_ => XT.i2b X0.here hx rfl (hb hby d7_13) rfl k_) ?_
    obtain ⟨cl2, Ar3, Lx4⟩ := id V0
    obtain ⟨T5, h6, X7, e8, W9, st10⟩ := stB X0 hx hZ e0 Ar3 (j := ai) (own_inb Lx4 (own_nn hPq.2.1) (own_lp_in (own_pp_lp hPq))) (g := (mkF m 14 #[va oo, vi ai, vj zz, .second, un] [(.int ((((zz).toInt32)).toInt8.toInt32)), (.int ai), (.ref oo)])) rfl rfl (hb hby d7_14)
    have N11 := Fr.snoc X7 N0 go
    have F12 := Nat.le_trans Z0 (Keep.of_wr W9).1
    have V13 : own_Arl Z h6 oo .byte (vs.set (ai).toNatClampNeg (.int (nar .byte ((((zz).toInt32)).toInt8.toInt32)))) := own_Arl.set V0 W9
    have F14 := (Keep.refl h0 [oo]).wr W9 (Or.inl (List.mem_of_getElem? (i := 0) rfl))
    obtain ⟨Lo15, X16, N17⟩ : ∃ Lo_, Stand p l e ({ frames := 2, cells := 0, slots := 0, locals := 31 } : Room) s m #[(.ref oo), (.int ai), (.long zz)] below meth c T5 Lo_ 0 0 ∧ Fr n0 Lo_ := ⟨_, X7, N11⟩
    refine own_step (T' := T5) (g' := (mkF m 15 #[va oo, vi ai, vj zz, .second, un] [])) st10 ?_
    refine own_step (T' := T5) (g' := (mkF m 16 #[va oo, vi ai, vj zz, .second, un] [(.int ai)])) (fun t_ k_ => XS.iloadN X16.here hx rfl (hb hby d7_15) rfl k_) ?_
    refine own_step (T' := T5) (g' := (mkF m 17 #[va oo, vi ai, vj zz, .second, un] [(.int (1 : Int32)), (.int ai)])) (fun t_ k_ => XT.iconstV X16.here hx rfl (1 : Int32) (hb hby d7_16) (by decide) k_) ?_
    refine own_step (T' := T5) (g' := (mkF m 18 #[va oo, vi ai, vj zz, .second, un] [(.int (ai + (1 : Int32)))])) (fun t_ k_ => XS.iadd X16.here hx rfl (hb hby d7_17) rfl k_) ?_
    refine own_step (T' := T5) (g' := (mkF m 20 #[va oo, vi ai, vj zz, .second, vi (ai + (1 : Int32))] [])) (fun t_ k_ => XS.istore X16.here hx rfl (hb hby d7_18) rfl (l' := #[va oo, vi ai, vj zz, .second, vi (ai + (1 : Int32))]) rfl k_) ?_
    refine own_step (T' := T5) (g' := (mkF m 31 #[va oo, vi ai, vj zz, .second, vi (ai + (1 : Int32))] [])) (fun t_ k_ => XS.goto X16.here hx rfl (pc0 := 20) (pc' := 31) rfl (hb hby d7_20) (by decide) (by decide) k_) ?_
    refine own_step (T' := T5) (g' := (mkF m 33 #[va oo, vi ai, vj zz, .second, vi (ai + (1 : Int32))] [(.int (ai + (1 : Int32)))])) (fun t_ k_ => XS.iload X16.here hx rfl (hb hby d7_31) rfl k_) ?_
    exact own_retI X16 hx hlk Bd.returns (hb hby d7_33) (by rw [e8]; exact ⟨_, _, rfl, N17, F14, V13, own_pp_one hPq hb1⟩) (by decide) (by decide)
  · refine own_step (T' := s₁) (g' := (mkF m 23 #[va oo, vi ai, vj zz, .second, un] [])) (fun t_ k_ => XS.ifYes X0.here hx rfl (pc0 := 6) (pc' := 23) rfl (hb hby d7_6) rfl (XT.ll_ne_t hb1) (by decide) (by decide) k_) ?_
    refine own_step (T' := s₁) (g' := (mkF m 24 #[va oo, vi ai, vj zz, .second, un] [(.ref oo)])) (fun t_ k_ => XS.aloadN X0.here hx rfl (hb hby d7_23) rfl rfl k_) ?_
    refine own_step (T' := s₁) (g' := (mkF m 25 #[va oo, vi ai, vj zz, .second, un] [(.int ai), (.ref oo)])) (fun t_ k_ => XS.iloadN X0.here hx rfl (hb hby d7_24) rfl k_) ?_
    refine own_step (T' := s₁) (g' := (mkF m 26 #[va oo, vi ai, vj zz, .second, un] [(.long zz), (.int ai), (.ref oo)])) (fun t_ k_ => XT.lloadN X0.here hx rfl (hb hby d7_25) rfl k_) ?_
    obtain ⟨_, _, ⟨Tc18, Lc18, kc18, nc18⟩, -, Xc18, ⟨Lcc18, hQc18, lc18, yc18, zc18⟩, stc18⟩ := Jvm.LawKit.callS X0 hx (y := (⟨"com/example/sedimenta/sedimenta/store/VarInts", "putLonger", "([BIJ)I"⟩ : MethodName)) hown (mvT hZ (own_w (i := 171) rfl hw)) (mvT hZ (own_w (i := 172) rfl hw)) (mvT hZ (own_w (i := 54) rfl hw)) (mvT hZ (own_w (i := 173) rfl hw)) (by decide) (backOf (W := 0) (rm_pl l Z a0 hw [] oo ai zz vs h0 n0 Z0 V0 go hPq) hZ (own_w (i := 173) rfl hw) (own_w (i := 54) rfl hw) (by decide) (by decide)) (g := (mkF m 26 #[va oo, vi ai, vj zz, .second, un] [(.long zz), (.int ai), (.ref oo)])) rfl (by rw [hml]; rfl) (argsL := [(.ref oo), (.int ai), (.long zz)]) (rest := []) (lenOf pd_1 rfl) rfl (by show 2 * 0 + _ ≤ _; exact Nat.le_of_eq rfl) (hb hby d7_26) (fun _ _ => ⟨rfl, e0, (by decide : 0 + 0 ≤ _), (by decide : 0 + 0 ≤ _)⟩)
    dsimp only [Pt.U, Pt.locs, Pt.cells, Pt.slots] at Xc18 lc18 yc18 zc18 stc18 hQc18
    subst lc18 yc18 zc18
    have X19 := Xc18.more (cells' := 0) (slots' := 0) (by decide) (by decide)
    obtain ⟨us20, r21, rfl, N22, K23, V24, H25⟩ := hQc18
    have N26 := Fr.app N0 N22
    have F27 := Nat.le_trans Z0 K23.1
    have F28 := (Keep.refl h0 [oo]).trans K23 (allS (Or.inl (List.mem_of_getElem? (i := 0) rfl)) all0)
    obtain ⟨Lo29, X30, N31⟩ : ∃ Lo_, Stand p l e ({ frames := 2, cells := 0, slots := 0, locals := 31 } : Room) s m #[(.ref oo), (.int ai), (.long zz)] below meth c Tc18 Lo_ 0 0 ∧ Fr n0 Lo_ := ⟨_, X19, N26⟩
    refine own_step (T' := Tc18) (g' := (mkF m 29 #[va oo, vi ai, vj zz, .second, un] [(.int r21)])) stc18 ?_
    refine own_step (T' := Tc18) (g' := (mkF m 31 #[va oo, vi ai, vj zz, .second, vi r21] [])) (fun t_ k_ => XS.istore X30.here hx rfl (hb hby d7_29) rfl (l' := #[va oo, vi ai, vj zz, .second, vi r21]) rfl k_) ?_
    refine own_step (T' := Tc18) (g' := (mkF m 33 #[va oo, vi ai, vj zz, .second, vi r21] [(.int r21)])) (fun t_ k_ => XS.iload X30.here hx rfl (hb hby d7_31) rfl k_) ?_
    exact own_retI X30 hx hlk Bd.returns (hb hby d7_33) (by exact ⟨_, _, rfl, N31, F28, V24, H25⟩) (by decide) (by decide)
theorem d6_0 : decode prog_81_method_60_code 0 = .ok (.iload_n 0, 1) := by decide +kernel
theorem d6_1 : decode prog_81_method_60_code 1 = .ok (.i2l, 1) := by decide +kernel
theorem d6_2 : decode prog_81_method_60_code 2 = .ok (.iconst 1, 1) := by decide +kernel
theorem d6_3 : decode prog_81_method_60_code 3 = .ok (.lshl, 1) := by decide +kernel
theorem d6_4 : decode prog_81_method_60_code 4 = .ok (.iload_n 1, 1) := by decide +kernel
theorem d6_5 : decode prog_81_method_60_code 5 = .ok (.iconst 1, 1) := by decide +kernel
theorem d6_6 : decode prog_81_method_60_code 6 = .ok (.if_icmp .ne 7, 3) := by decide +kernel
theorem d6_9 : decode prog_81_method_60_code 9 = .ok (.iconst 1, 1) := by decide +kernel
theorem d6_10 : decode prog_81_method_60_code 10 = .ok (.goto 4, 3) := by decide +kernel
theorem d6_13 : decode prog_81_method_60_code 13 = .ok (.iconst 0, 1) := by decide +kernel
theorem d6_14 : decode prog_81_method_60_code 14 = .ok (.i2l, 1) := by decide +kernel
theorem d6_15 : decode prog_81_method_60_code 15 = .ok (.lor, 1) := by decide +kernel
theorem d6_16 : decode prog_81_method_60_code 16 = .ok (.lreturn, 1) := by decide +kernel
theorem pn_6 : plainFor (⟨"com/example/sedimenta/sedimenta/Postings", "code", "(II)J"⟩ : MethodName) = true := by first | exact plainFor_of_name (by first | (simp [plainName, overriddenIn]; done) | decide +kernel) | decide +kernel
theorem ef_6 (m : MethodId) (x0 : Int32) (x1 : Int32) : entryFrame m #[(.int x0), (.int x1)] 2 = mkF m 0 #[.val (.int x0), .val (.int x1)] [] := by first | (simp [entryFrame, mkF, argsToLocals, Value.category]; done) | rfl
def Q_6 (gp fq : Int32) (h0 : Heap) (n0 : Nat) (v : Option Value) (h : Heap) (L : List Loc) : Prop := v = some (.long (own_code gp fq)) ∧ Fr n0 L ∧ h = h0
set_option maxRecDepth 65536 in
set_option maxHeartbeats 40000000 in
theorem rm_code (l : Launch) (Z : State) (a0 : Array Value) (hw : ∀ d ∈ tables_1, d.before a0 Z = true) (ws : List Jvm.Cond) (gp fq : Int32) (h0 : Heap) (n0 : Nat) (Z0 : n0 ≤ h0.size)  :
    MetFree l (⟨"com/example/sedimenta/sedimenta/Postings", "code", "(II)J"⟩ : MethodName) (head1 (Jvm.Cond.code (⟨"com/example/sedimenta/sedimenta/Postings", "code", "(II)J"⟩ : MethodName) prog_81_method_60_code 2 (some .long) :: ws) ({ frames := 0, cells := 0, slots := 0, locals := 0 } : Room)) (fun as_ U => as_ = #[(.int gp), (.int fq)] ∧ Z.Warmed39 U.vm ∧ U.heap = h0) (fun _ _ _ _ _ => True) (fun _ U o U' => ∃ v L, o = .returned v ∧ Q_6 gp fq h0 n0 v U'.heap L ∧ FrameEnd U o U' L ({ frames := 0, cells := 0, slots := 0, locals := 0 } : Room).cells ({ frames := 0, cells := 0, slots := 0, locals := 0 } : Room).slots) := by
  refine MetFree.of_bodySF pn_6 hisR ?_
  intro p e s m args below meth c s₁ Bd hml0 hP hK
  obtain ⟨rfl, hZ, hh⟩ := hP
  have hx := Bd.exec
  have hby := Bd.bytes
  have hlk := BodyLoose.notSynchronized Bd
  have hml : c.maxLocals = 2 := hml0
  have hown : s.vm.findClass "com/example/sedimenta/sedimenta/Postings" = some m.cls := findClass_of_methodNamed Bd.named
  have hnm := (name_of_methodNamed Bd.named Bd.method).1
  have X0 : Stand p l e ({ frames := 0, cells := 0, slots := 0, locals := 0 } : Room) s m #[(.int gp), (.int fq)] below meth c s₁ [] 0 0 := Stand.of_body Bd
  have e0 : s₁.heap = h0 := by rw [← hh, Bd.state]; rfl
  have N0 := Fr.nil n0
  refine own_in (ef_6 m gp fq) ?_
  show own_Fin p e below s (Q_6 gp fq h0 n0) 0 0 s₁ (mkF m 0 #[vi gp, vi fq] [])
  refine own_step (T' := s₁) (g' := (mkF m 1 #[vi gp, vi fq] [(.int gp)])) (fun t_ k_ => XS.iloadN X0.here hx rfl (hb hby d6_0) rfl k_) ?_
  refine own_step (T' := s₁) (g' := (mkF m 2 #[vi gp, vi fq] [(.long ((gp).toInt64))])) (fun t_ k_ => XT.i2l X0.here hx rfl (hb hby d6_1) rfl k_) ?_
  refine own_step (T' := s₁) (g' := (mkF m 3 #[vi gp, vi fq] [(.int (1 : Int32)), (.long ((gp).toInt64))])) (fun t_ k_ => XT.iconstV X0.here hx rfl (1 : Int32) (hb hby d6_2) (by decide) k_) ?_
  refine own_step (T' := s₁) (g' := (mkF m 4 #[vi gp, vi fq] [(.long (((gp).toInt64) <<< (((1 : Int32)).toInt64 &&& 63)))])) (fun t_ k_ => XT.lshl X0.here hx rfl (hb hby d6_3) rfl k_) ?_
  refine own_step (T' := s₁) (g' := (mkF m 5 #[vi gp, vi fq] [(.int fq), (.long (((gp).toInt64) <<< (((1 : Int32)).toInt64 &&& 63)))])) (fun t_ k_ => XS.iloadN X0.here hx rfl (hb hby d6_4) rfl k_) ?_
  refine own_step (T' := s₁) (g' := (mkF m 6 #[vi gp, vi fq] [(.int (1 : Int32)), (.int fq), (.long (((gp).toInt64) <<< (((1 : Int32)).toInt64 &&& 63)))])) (fun t_ k_ => XT.iconstV X0.here hx rfl (1 : Int32) (hb hby d6_5) (by decide) k_) ?_
  suffices k2 : ∀ v3 : Int32, v3 = (if fq = (1 : Int32) then (1 : Int32) else (0 : Int32)) → own_Fin p e below s (Q_6 gp fq h0 n0) 0 0 s₁ (mkF m 14 #[vi gp, vi fq] [(.int v3), (.long (((gp).toInt64) <<< (((1 : Int32)).toInt64 &&& 63)))]) by
    by_cases hb1 : fq = (1 : Int32)
    · refine own_step (T' := s₁) (g' := (mkF m 9 #[vi gp, vi fq] [(.long (((gp).toInt64) <<< (((1 : Int32)).toInt64 &&& 63)))])) (fun t_ k_ => XS.icmpNo X0.here hx rfl (hb hby d6_6) rfl (XT.ii_ne_f hb1) k_) ?_
      refine own_step (T' := s₁) (g' := (mkF m 10 #[vi gp, vi fq] [(.int (1 : Int32)), (.long (((gp).toInt64) <<< (((1 : Int32)).toInt64 &&& 63)))])) (fun t_ k_ => XT.iconstV X0.here hx rfl (1 : Int32) (hb hby d6_9) (by decide) k_) ?_
      refine own_step (T' := s₁) (g' := (mkF m 14 #[vi gp, vi fq] [(.int (1 : Int32)), (.long (((gp).toInt64) <<< (((1 : Int32)).toInt64 &&& 63)))])) (fun t_ k_ => XS.goto X0.here hx rfl (pc0 := 10) (pc' := 14) rfl (hb hby d6_10) (by decide) (by decide) k_) ?_
      exact k2 _ (if_pos hb1).symm
    · refine own_step (T' := s₁) (g' := (mkF m 13 #[vi gp, vi fq] [(.long (((gp).toInt64) <<< (((1 : Int32)).toInt64 &&& 63)))])) (fun t_ k_ => XS.icmpYes X0.here hx rfl (pc0 := 6) (pc' := 13) rfl (hb hby d6_6) rfl (XT.ii_ne_t hb1) (by decide) (by decide) k_) ?_
      refine own_step (T' := s₁) (g' := (mkF m 14 #[vi gp, vi fq] [(.int (0 : Int32)), (.long (((gp).toInt64) <<< (((1 : Int32)).toInt64 &&& 63)))])) (fun t_ k_ => XT.iconstV X0.here hx rfl (0 : Int32) (hb hby d6_13) (by decide) k_) ?_
      exact k2 _ (if_neg hb1).symm
  intro v3 hv3
  refine own_step (T' := s₁) (g' := (mkF m 15 #[vi gp, vi fq] [(.long ((v3).toInt64)), (.long (((gp).toInt64) <<< (((1 : Int32)).toInt64 &&& 63)))])) (fun t_ k_ => XT.i2l X0.here hx rfl (hb hby d6_14) rfl k_) ?_
  refine own_step (T' := s₁) (g' := (mkF m 16 #[vi gp, vi fq] [(.long ((((gp).toInt64) <<< (((1 : Int32)).toInt64 &&& 63)) ||| ((v3).toInt64)))])) (fun t_ k_ => XT.lor X0.here hx rfl (hb hby d6_15) rfl k_) ?_
  exact own_retJ X0 hx hlk Bd.returns (hb hby d6_16) (by rw [e0]; exact ⟨by rw [hv3] <;> rfl, N0, rfl⟩) (by decide) (by decide)
theorem d5_0 : decode prog_81_method_58_code 0 = .ok (.aload_n 0, 1) := by decide +kernel
theorem d5_1 : decode prog_81_method_58_code 1 = .ok (.iload_n 1, 1) := by decide +kernel
theorem d5_2 : decode prog_81_method_58_code 2 = .ok (.iload_n 2, 1) := by decide +kernel
theorem d5_3 : decode prog_81_method_58_code 3 = .ok (.iload_n 3, 1) := by decide +kernel
theorem d5_4 : decode prog_81_method_58_code 4 = .ok (.invokestatic 436, 3) := by decide +kernel
theorem d5_7 : decode prog_81_method_58_code 7 = .ok (.invokestatic 179, 3) := by decide +kernel
theorem d5_10 : decode prog_81_method_58_code 10 = .ok (.istore 4, 2) := by decide +kernel
theorem d5_12 : decode prog_81_method_58_code 12 = .ok (.iload_n 3, 1) := by decide +kernel
theorem d5_13 : decode prog_81_method_58_code 13 = .ok (.iconst 1, 1) := by decide +kernel
theorem d5_14 : decode prog_81_method_58_code 14 = .ok (.if_icmp .ne 8, 3) := by decide +kernel
theorem d5_17 : decode prog_81_method_58_code 17 = .ok (.iload 4, 2) := by decide +kernel
theorem d5_19 : decode prog_81_method_58_code 19 = .ok (.goto 11, 3) := by decide +kernel
theorem d5_22 : decode prog_81_method_58_code 22 = .ok (.aload_n 0, 1) := by decide +kernel
theorem d5_23 : decode prog_81_method_58_code 23 = .ok (.iload 4, 2) := by decide +kernel
theorem d5_25 : decode prog_81_method_58_code 25 = .ok (.iload_n 3, 1) := by decide +kernel
theorem d5_26 : decode prog_81_method_58_code 26 = .ok (.i2l, 1) := by decide +kernel
theorem d5_27 : decode prog_81_method_58_code 27 = .ok (.invokestatic 179, 3) := by decide +kernel
theorem d5_30 : decode prog_81_method_58_code 30 = .ok (.ireturn, 1) := by decide +kernel
theorem pn_5 : plainFor (⟨"com/example/sedimenta/sedimenta/Postings", "putEntry", "([BIII)I"⟩ : MethodName) = true := by first | exact plainFor_of_name (by first | (simp [plainName, overriddenIn]; done) | decide +kernel) | decide +kernel
theorem ef_5 (m : MethodId) (x0 : Addr) (x1 : Int32) (x2 : Int32) (x3 : Int32) : entryFrame m #[(.ref x0), (.int x1), (.int x2), (.int x3)] 5 = mkF m 0 #[.val (.ref x0), .val (.int x1), .val (.int x2), .val (.int x3), .unset] [] := by first | (simp [entryFrame, mkF, argsToLocals, Value.category]; done) | rfl
def Q_5 (Z : State) (oo : Addr) (ai gp fq : Int32) (h0 : Heap) (n0 : Nat) (v : Option Value) (h : Heap) (L : List Loc) : Prop := ∃ (us : List Value) (r : Int32), v = some (.int r) ∧ Fr n0 L ∧ Keep h0 h [oo] ∧ own_Arl Z h oo .byte us ∧ own_Ent us ai gp fq r
set_option maxRecDepth 65536 in
set_option maxHeartbeats 40000000 in
theorem rm_pe (l : Launch) (Z : State) (a0 : Array Value) (hw : ∀ d ∈ tables_1, d.before a0 Z = true) (ws : List Jvm.Cond) (oo : Addr) (ai gp fq : Int32) (vs : List Value) (h0 : Heap) (n0 : Nat) (Z0 : n0 ≤ h0.size) (V0 : own_Arl Z h0 oo .byte vs) (go : n0 ≤ oo) (hE : own_EP vs ai gp fq) :
    MetFree l (⟨"com/example/sedimenta/sedimenta/Postings", "putEntry", "([BIII)I"⟩ : MethodName) (head1 (Jvm.Cond.code (⟨"com/example/sedimenta/sedimenta/Postings", "putEntry", "([BIII)I"⟩ : MethodName) prog_81_method_58_code 5 (some .int) :: ws) ({ frames := 3, cells := 0, slots := 0, locals := 47 } : Room)) (fun as_ U => as_ = #[(.ref oo), (.int ai), (.int gp), (.int fq)] ∧ Z.Warmed39 U.vm ∧ U.heap = h0) (fun _ _ _ _ _ => True) (fun _ U o U' => ∃ v L, o = .returned v ∧ Q_5 Z oo ai gp fq h0 n0 v U'.heap L ∧ FrameEnd U o U' L ({ frames := 3, cells := 0, slots := 0, locals := 47 } : Room).cells ({ frames := 3, cells := 0, slots := 0, locals := 47 } : Room).slots) := by
  refine MetFree.of_bodySF pn_5 hisR ?_
  intro p e s m args below meth c s₁ Bd hml0 hP hK
  obtain ⟨rfl, hZ, hh⟩ := hP
  have hx := Bd.exec
  have hby := Bd.bytes
  have hlk := BodyLoose.notSynchronized Bd
  have hml : c.maxLocals = 5 := hml0
  have hown : s.vm.findClass "com/example/sedimenta/sedimenta/Postings" = some m.cls := findClass_of_methodNamed Bd.named
  have hnm := (name_of_methodNamed Bd.named Bd.method).1
  have X0 : Stand p l e ({ frames := 3, cells := 0, slots := 0, locals := 47 } : Room) s m #[(.ref oo), (.int ai), (.int gp), (.int fq)] below meth c s₁ [] 0 0 := Stand.of_body Bd
  have e0 : s₁.heap = h0 := by rw [← hh, Bd.state]; rfl
  have N0 := Fr.nil n0
  refine own_in (ef_5 m oo ai gp fq) ?_
  show own_Fin p e below s (Q_5 Z oo ai gp fq h0 n0) 0 0 s₁ (mkF m 0 #[va oo, vi ai, vi gp, vi fq, un] [])
  refine own_step (T' := s₁) (g' := (mkF m 1 #[va oo, vi ai, vi gp, vi fq, un] [(.ref oo)])) (fun t_ k_ => XS.aloadN X0.here hx rfl (hb hby d5_0) rfl rfl k_) ?_
  refine own_step (T' := s₁) (g' := (mkF m 2 #[va oo, vi ai, vi gp, vi fq, un] [(.int ai), (.ref oo)])) (fun t_ k_ => XS.iloadN X0.here hx rfl (hb hby d5_1) rfl k_) ?_
  refine own_step (T' := s₁) (g' := (mkF m 3 #[va oo, vi ai, vi gp, vi fq, un] [(.int gp), (.int ai), (.ref oo)])) (fun t_ k_ => XS.iloadN X0.here hx rfl (hb hby d5_2) rfl k_) ?_
  refine own_step (T' := s₁) (g' := (mkF m 4 #[va oo, vi ai, vi gp, vi fq, un] [(.int fq), (.int gp), (.int ai), (.ref oo)])) (fun t_ k_ => XS.iloadN X0.here hx rfl (hb hby d5_3) rfl k_) ?_
  obtain ⟨_, _, ⟨Tc1, Lc1, kc1, nc1⟩, -, Xc1, ⟨Lcc1, hQc1, lc1, yc1, zc1⟩, stc1⟩ := Jvm.LawKit.callS X0 hx (y := (⟨"com/example/sedimenta/sedimenta/Postings", "code", "(II)J"⟩ : MethodName)) hown (mvT hZ (own_w (i := 49) rfl hw)) (mvT hZ (own_w (i := 50) rfl hw)) (mvT hZ (own_w (i := 7) rfl hw)) (mvT hZ (own_w (i := 51) rfl hw)) (by decide) (backOf (W := 2) (rm_code l Z a0 hw [] (gp) (fq) h0 n0 Z0) hZ (own_w (i := 51) rfl hw) (own_w (i := 7) rfl hw) (by decide) (by decide)) (g := (mkF m 4 #[va oo, vi ai, vi gp, vi fq, un] [(.int fq), (.int gp), (.int ai), (.ref oo)])) rfl (by rw [hml]; rfl) (argsL := [(.int gp), (.int fq)]) (rest := [(.int ai), (.ref oo)]) (lenOf pd_2 rfl) rfl (by show 2 * 0 + _ ≤ _; exact Nat.le_of_eq rfl) (hb hby d5_4) (fun _ _ => ⟨rfl, e0, (by decide : 0 + 0 ≤ _), (by decide : 0 + 0 ≤ _)⟩)
  dsimp only [Pt.U, Pt.locs, Pt.cells, Pt.slots] at Xc1 lc1 yc1 zc1 stc1 hQc1
  subst lc1 yc1 zc1
  have X2 := Xc1.more (cells' := 0) (slots' := 0) (by decide) (by decide)
  obtain ⟨rfl, N3, e4⟩ := hQc1
  have N5 := Fr.app N0 N3
  obtain ⟨Lo6, X7, N8⟩ : ∃ Lo_, Stand p l e ({ frames := 3, cells := 0, slots := 0, locals := 47 } : Room) s m #[(.ref oo), (.int ai), (.int gp), (.int fq)] below meth c Tc1 Lo_ 0 0 ∧ Fr n0 Lo_ := ⟨_, X2, N5⟩
  refine own_step (T' := Tc1) (g' := (mkF m 7 #[va oo, vi ai, vi gp, vi fq, un] [(.long (own_code gp fq)), (.int ai), (.ref oo)])) stc1 ?_
  obtain ⟨_, _, ⟨Tc9, Lc9, kc9, nc9⟩, -, Xc9, ⟨Lcc9, hQc9, lc9, yc9, zc9⟩, stc9⟩ := Jvm.LawKit.callS X7 hx (y := (⟨"com/example/sedimenta/sedimenta/store/VarInts", "put", "([BIJ)I"⟩ : MethodName)) hown (mvT hZ (own_w (i := 52) rfl hw)) (mvT hZ (own_w (i := 53) rfl hw)) (mvT hZ (own_w (i := 54) rfl hw)) (mvT hZ (own_w (i := 55) rfl hw)) (by decide) (backOf (W := 0) (rm_put l Z a0 hw [] oo ai (own_code gp fq) vs h0 n0 Z0 V0 go (own_ep_1 hE)) hZ (own_w (i := 55) rfl hw) (own_w (i := 54) rfl hw) (by decide) (by decide)) (g := (mkF m 7 #[va oo, vi ai, vi gp, vi fq, un] [(.long (own_code gp fq)), (.int ai), (.ref oo)])) rfl (by rw [hml]; rfl) (argsL := [(.ref oo), (.int ai), (.long (own_code gp fq))]) (rest := []) (lenOf pd_1 rfl) rfl (by show 2 * 0 + _ ≤ _; exact Nat.le_of_eq rfl) (hb hby d5_7) (fun _ _ => ⟨rfl, e4, (by decide : 0 + 0 ≤ _), (by decide : 0 + 0 ≤ _)⟩)
  dsimp only [Pt.U, Pt.locs, Pt.cells, Pt.slots] at Xc9 lc9 yc9 zc9 stc9 hQc9
  subst lc9 yc9 zc9
  have X10 := Xc9.more (cells' := 0) (slots' := 0) (by decide) (by decide)
  obtain ⟨us11, r12, rfl, N13, K14, V15, H16⟩ := hQc9
  have N17 := Fr.app N8 N13
  have F18 := Nat.le_trans Z0 K14.1
  have F19 := (Keep.refl h0 [oo]).trans K14 (allS (Or.inl (List.mem_of_getElem? (i := 0) rfl)) all0)
  obtain ⟨Lo20, X21, N22⟩ : ∃ Lo_, Stand p l e ({ frames := 3, cells := 0, slots := 0, locals := 47 } : Room) s m #[(.ref oo), (.int ai), (.int gp), (.int fq)] below meth c Tc9 Lo_ 0 0 ∧ Fr n0 Lo_ := ⟨_, X10, N17⟩
  refine own_step (T' := Tc9) (g' := (mkF m 10 #[va oo, vi ai, vi gp, vi fq, un] [(.int r12)])) stc9 ?_
  refine own_step (T' := Tc9) (g' := (mkF m 12 #[va oo, vi ai, vi gp, vi fq, vi r12] [])) (fun t_ k_ => XS.istore X21.here hx rfl (hb hby d5_10) rfl (l' := #[va oo, vi ai, vi gp, vi fq, vi r12]) rfl k_) ?_
  refine own_step (T' := Tc9) (g' := (mkF m 13 #[va oo, vi ai, vi gp, vi fq, vi r12] [(.int fq)])) (fun t_ k_ => XS.iloadN X21.here hx rfl (hb hby d5_12) rfl k_) ?_
  refine own_step (T' := Tc9) (g' := (mkF m 14 #[va oo, vi ai, vi gp, vi fq, vi r12] [(.int (1 : Int32)), (.int fq)])) (fun t_ k_ => XT.iconstV X21.here hx rfl (1 : Int32) (hb hby d5_13) (by decide) k_) ?_
  by_cases hb23 : fq = (1 : Int32)
  · refine own_step (T' := Tc9) (g' := (mkF m 17 #[va oo, vi ai, vi gp, vi fq, vi r12] [])) (fun t_ k_ => XS.icmpNo X21.here hx rfl (hb hby d5_14) rfl (XT.ii_ne_f hb23) k_) ?_
    refine own_step (T' := Tc9) (g' := (mkF m 19 #[va oo, vi ai, vi gp, vi fq, vi r12] [(.int r12)])) (fun t_ k_ => XS.iload X21.here hx rfl (hb hby d5_17) rfl k_) ?_
    refine own_step (T' := Tc9) (g' := (mkF m 30 #[va oo, vi ai, vi gp, vi fq, vi r12] [(.int r12)])) (fun t_ k_ => XS.goto X21.here hx rfl (pc0 := 19) (pc' := 30) rfl (hb hby d5_19) (by decide) (by decide) k_) ?_
    exact own_retI X21 hx hlk Bd.returns (hb hby d5_30) (by exact ⟨_, _, rfl, N22, F19, V15, own_ent_1 hE H16 hb23⟩) (by decide) (by decide)
  · refine own_step (T' := Tc9) (g' := (mkF m 22 #[va oo, vi ai, vi gp, vi fq, vi r12] [])) (fun t_ k_ => XS.icmpYes X21.here hx rfl (pc0 := 14) (pc' := 22) rfl (hb hby d5_14) rfl (XT.ii_ne_t hb23) (by decide) (by decide) k_) ?_
    refine own_step (T' := Tc9) (g' := (mkF m 23 #[va oo, vi ai, vi gp, vi fq, vi r12] [(.ref oo)])) (fun t_ k_ => XS.aloadN X21.here hx rfl (hb hby d5_22) rfl rfl k_) ?_
    refine own_step (T' := Tc9) (g' := (mkF m 25 #[va oo, vi ai, vi gp, vi fq, vi r12] [(.int r12), (.ref oo)])) (fun t_ k_ => XS.iload X21.here hx rfl (hb hby d5_23) rfl k_) ?_
    refine own_step (T' := Tc9) (g' := (mkF m 26 #[va oo, vi ai, vi gp, vi fq, vi r12] [(.int fq), (.int r12), (.ref oo)])) (fun t_ k_ => XS.iloadN X21.here hx rfl (hb hby d5_25) rfl k_) ?_
    refine own_step (T' := Tc9) (g' := (mkF m 27 #[va oo, vi ai, vi gp, vi fq, vi r12] [(.long ((fq).toInt64)), (.int r12), (.ref oo)])) (fun t_ k_ => XT.i2l X21.here hx rfl (hb hby d5_26) rfl k_) ?_
    obtain ⟨_, _, ⟨Tc24, Lc24, kc24, nc24⟩, -, Xc24, ⟨Lcc24, hQc24, lc24, yc24, zc24⟩, stc24⟩ := Jvm.LawKit.callS X21 hx (y := (⟨"com/example/sedimenta/sedimenta/store/VarInts", "put", "([BIJ)I"⟩ : MethodName)) hown (mvT hZ (own_w (i := 52) rfl hw)) (mvT hZ (own_w (i := 53) rfl hw)) (mvT hZ (own_w (i := 54) rfl hw)) (mvT hZ (own_w (i := 55) rfl hw)) (by decide) (backOf (W := 0) (rm_put l Z a0 hw [] oo r12 ((fq).toInt64) us11 Tc9.heap n0 F18 V15 go (own_ep_2 hE H16)) hZ (own_w (i := 55) rfl hw) (own_w (i := 54) rfl hw) (by decide) (by decide)) (g := (mkF m 27 #[va oo, vi ai, vi gp, vi fq, vi r12] [(.long ((fq).toInt64)), (.int r12), (.ref oo)])) rfl (by rw [hml]; rfl) (argsL := [(.ref oo), (.int r12), (.long ((fq).toInt64))]) (rest := []) (lenOf pd_1 rfl) rfl (by show 2 * 0 + _ ≤ _; exact Nat.le_of_eq rfl) (hb hby d5_27) (fun _ _ => ⟨rfl, rfl, (by decide : 0 + 0 ≤ _), (by decide : 0 + 0 ≤ _)⟩)
    dsimp only [Pt.U, Pt.locs, Pt.cells, Pt.slots] at Xc24 lc24 yc24 zc24 stc24 hQc24
    subst lc24 yc24 zc24
    have X25 := Xc24.more (cells' := 0) (slots' := 0) (by decide) (by decide)
    obtain ⟨us26, r27, rfl, N28, K29, V30, H31⟩ := hQc24
    have N32 := Fr.app N22 N28
    have F33 := Nat.le_trans F18 K29.1
    have F34 := F19.trans K29 (allS (Or.inl (List.mem_of_getElem? (i := 0) rfl)) all0)
    obtain ⟨Lo35, X36, N37⟩ : ∃ Lo_, Stand p l e ({ frames := 3, cells := 0, slots := 0, locals := 47 } : Room) s m #[(.ref oo), (.int ai), (.int gp), (.int fq)] below meth c Tc24 Lo_ 0 0 ∧ Fr n0 Lo_ := ⟨_, X25, N32⟩
    refine own_step (T' := Tc24) (g' := (mkF m 30 #[va oo, vi ai, vi gp, vi fq, vi r12] [(.int r27)])) stc24 ?_
    exact own_retI X36 hx hlk Bd.returns (hb hby d5_30) (by exact ⟨_, _, rfl, N37, F34, V30, own_ent_2 hE H16 hb23 H31⟩) (by decide) (by decide)
theorem d4_0 : decode prog_81_method_54_code 0 = .ok (.aload_n 0, 1) := by decide +kernel
theorem d4_1 : decode prog_81_method_54_code 1 = .ok (.getfield 13, 3) := by decide +kernel
theorem d4_4 : decode prog_81_method_54_code 4 = .ok (.arraylength, 1) := by decide +kernel
theorem d4_5 : decode prog_81_method_54_code 5 = .ok (.aload_n 0, 1) := by decide +kernel
theorem d4_6 : decode prog_81_method_54_code 6 = .ok (.getfield 45, 3) := by decide +kernel
theorem d4_9 : decode prog_81_method_54_code 9 = .ok (.isub, 1) := by decide +kernel
theorem d4_10 : decode prog_81_method_54_code 10 = .ok (.iload_n 1, 1) := by decide +kernel
theorem d4_11 : decode prog_81_method_54_code 11 = .ok (.if_icmp .ge 38, 3) := by decide +kernel
theorem d4_14 : decode prog_81_method_54_code 14 = .ok (.aload_n 0, 1) := by decide +kernel
theorem d4_15 : decode prog_81_method_54_code 15 = .ok (.aload_n 0, 1) := by decide +kernel
theorem d4_16 : decode prog_81_method_54_code 16 = .ok (.getfield 13, 3) := by decide +kernel
theorem d4_19 : decode prog_81_method_54_code 19 = .ok (.aload_n 0, 1) := by decide +kernel
theorem d4_20 : decode prog_81_method_54_code 20 = .ok (.getfield 13, 3) := by decide +kernel
theorem d4_23 : decode prog_81_method_54_code 23 = .ok (.arraylength, 1) := by decide +kernel
theorem d4_24 : decode prog_81_method_54_code 24 = .ok (.aload_n 0, 1) := by decide +kernel
theorem d4_25 : decode prog_81_method_54_code 25 = .ok (.getfield 45, 3) := by decide +kernel
theorem d4_28 : decode prog_81_method_54_code 28 = .ok (.i2l, 1) := by decide +kernel
theorem d4_29 : decode prog_81_method_54_code 29 = .ok (.iload_n 1, 1) := by decide +kernel
theorem d4_30 : decode prog_81_method_54_code 30 = .ok (.i2l, 1) := by decide +kernel
theorem d4_31 : decode prog_81_method_54_code 31 = .ok (.ladd, 1) := by decide +kernel
theorem d4_32 : decode prog_81_method_54_code 32 = .ok (.invokestatic 415, 3) := by decide +kernel
theorem d4_35 : decode prog_81_method_54_code 35 = .ok (.invokestatic 419, 3) := by decide +kernel
theorem d4_38 : decode prog_81_method_54_code 38 = .ok (.putfield 13, 3) := by decide +kernel
theorem d4_41 : decode prog_81_method_54_code 41 = .ok (.aload_n 0, 1) := by decide +kernel
theorem d4_42 : decode prog_81_method_54_code 42 = .ok (.aload_n 0, 1) := by decide +kernel
theorem d4_43 : decode prog_81_method_54_code 43 = .ok (.getfield 13, 3) := by decide +kernel
theorem d4_46 : decode prog_81_method_54_code 46 = .ok (.putfield 17, 3) := by decide +kernel
theorem d4_49 : decode prog_81_method_54_code 49 = .ok (.return_, 1) := by decide +kernel
theorem pn_4 : plainFor (⟨"com/example/sedimenta/sedimenta/Postings", "room", "(I)V"⟩ : MethodName) = true := by first | exact plainFor_of_name (by first | (simp [plainName, overriddenIn]; done) | decide +kernel) | decide +kernel
theorem ef_4 (m : MethodId) (x0 : Addr) (x1 : Int32) : entryFrame m #[(.ref x0), (.int x1)] 2 = mkF m 0 #[.val (.ref x0), .val (.int x1)] [] := by first | (simp [entryFrame, mkF, argsToLocals, Value.category]; done) | rfl
def Q_4  (h0 : Heap) (n0 : Nat) (v : Option Value) (h : Heap) (L : List Loc) : Prop := v = none ∧ Fr n0 L ∧ h = h0
set_option maxRecDepth 65536 in
set_option maxHeartbeats 40000000 in
theorem rm_room (l : Launch) (Z : State) (a0 : Array Value) (hw : ∀ d ∈ tables_1, d.before a0 Z = true) (ws : List Jvm.Cond) (a : Addr) (f_own : Addr) (f_length : Int32) (vs : List Value) (h0 : Heap) (n0 : Nat) (Z0 : n0 ≤ h0.size) (Ff_own : Fld Z h0 a "com/example/sedimenta/sedimenta/Postings" "own" "[B" (.ref f_own)) (Ff_length : Fld Z h0 a "com/example/sedimenta/sedimenta/Postings" "length" "I" (.int f_length)) (V0 : own_Arl Z h0 f_own .byte vs) (g1 : vs.length = 64) (g2 : 0 ≤ f_length.toInt) (g3 : f_length.toInt ≤ 54) :
    MetFree l (⟨"com/example/sedimenta/sedimenta/Postings", "room", "(I)V"⟩ : MethodName) (head1 (Jvm.Cond.code (⟨"com/example/sedimenta/sedimenta/Postings", "room", "(I)V"⟩ : MethodName) prog_81_method_54_code 2 none :: ws) ({ frames := 0, cells := 0, slots := 0, locals := 0 } : Room)) (fun as_ U => as_ = #[(.ref a), (.int (10 : Int32))] ∧ Z.Warmed39 U.vm ∧ U.heap = h0) (fun _ _ _ _ _ => True) (fun _ U o U' => ∃ v L, o = .returned v ∧ Q_4 h0 n0 v U'.heap L ∧ FrameEnd U o U' L ({ frames := 0, cells := 0, slots := 0, locals := 0 } : Room).cells ({ frames := 0, cells := 0, slots := 0, locals := 0 } : Room).slots) := by
  refine MetFree.of_bodySF pn_4 hisR ?_
  intro p e s m args below meth c s₁ Bd hml0 hP hK
  obtain ⟨rfl, hZ, hh⟩ := hP
  have hx := Bd.exec
  have hby := Bd.bytes
  have hlk := BodyLoose.notSynchronized Bd
  have hml : c.maxLocals = 2 := hml0
  have hown : s.vm.findClass "com/example/sedimenta/sedimenta/Postings" = some m.cls := findClass_of_methodNamed Bd.named
  have hnm := (name_of_methodNamed Bd.named Bd.method).1
  have X0 : Stand p l e ({ frames := 0, cells := 0, slots := 0, locals := 0 } : Room) s m #[(.ref a), (.int (10 : Int32))] below meth c s₁ [] 0 0 := Stand.of_body Bd
  have e0 : s₁.heap = h0 := by rw [← hh, Bd.state]; rfl
  have N0 := Fr.nil n0
  refine own_in (ef_4 m a (10 : Int32)) ?_
  show own_Fin p e below s (Q_4 h0 n0) 0 0 s₁ (mkF m 0 #[va a, vi (10 : Int32)] [])
  refine own_step (T' := s₁) (g' := (mkF m 1 #[va a, vi (10 : Int32)] [(.ref a)])) (fun t_ k_ => XS.aloadN X0.here hx rfl (hb hby d4_0) rfl rfl k_) ?_
  obtain ⟨T1, X2, e3, st4⟩ := getF X0 hx hZ hown (host := "") (Or.inl (own_w (i := 15) rfl hw)) Via.refl e0 Ff_own (g := (mkF m 1 #[va a, vi (10 : Int32)] [(.ref a)])) rfl rfl (hb hby d4_1)
  refine own_step (T' := T1) (g' := (mkF m 4 #[va a, vi (10 : Int32)] [(.ref f_own)])) st4 ?_
  have st5 := own_alen (g := (mkF m 4 #[va a, vi (10 : Int32)] [(.ref f_own)])) X2 hx hZ e3 V0 (n := (64 : Int32)) (i := 64) g1 (by decide) rfl rfl (hb hby d4_4)
  refine own_step (T' := T1) (g' := (mkF m 5 #[va a, vi (10 : Int32)] [(.int (64 : Int32))])) st5 ?_
  refine own_step (T' := T1) (g' := (mkF m 6 #[va a, vi (10 : Int32)] [(.ref a), (.int (64 : Int32))])) (fun t_ k_ => XS.aloadN X2.here hx rfl (hb hby d4_5) rfl rfl k_) ?_
  obtain ⟨T6, X7, e8, st9⟩ := getF X2 hx hZ hown (host := "") (Or.inl (own_w (i := 42) rfl hw)) Via.refl e3 Ff_length (g := (mkF m 6 #[va a, vi (10 : Int32)] [(.ref a), (.int (64 : Int32))])) rfl rfl (hb hby d4_6)
  refine own_step (T' := T6) (g' := (mkF m 9 #[va a, vi (10 : Int32)] [(.int f_length), (.int (64 : Int32))])) st9 ?_
  refine own_step (T' := T6) (g' := (mkF m 10 #[va a, vi (10 : Int32)] [(.int ((64 : Int32) - f_length))])) (fun t_ k_ => XS.isub X7.here hx rfl (hb hby d4_9) rfl k_) ?_
  refine own_step (T' := T6) (g' := (mkF m 11 #[va a, vi (10 : Int32)] [(.int (10 : Int32)), (.int ((64 : Int32) - f_length))])) (fun t_ k_ => XS.iloadN X7.here hx rfl (hb hby d4_10) rfl k_) ?_
  have hk10 : ¬ (((64 : Int32) - f_length) < (10 : Int32)) := (own_room g2 g3)
  refine own_step (T' := T6) (g' := (mkF m 49 #[va a, vi (10 : Int32)] [])) (fun t_ k_ => XS.icmpYes X7.here hx rfl (pc0 := 11) (pc' := 49) rfl (hb hby d4_11) rfl (XT.ii_ge_t hk10) (by decide) (by decide) k_) ?_
  exact own_ret X7 hx hlk Bd.returns (hb hby d4_49) (by rw [e8]; exact ⟨rfl, N0, rfl⟩) (by decide) (by decide)
theorem d3_0 : decode prog_81_method_13_code 0 = .ok (.iload_n 1, 1) := by decide +kernel
theorem d3_1 : decode prog_81_method_13_code 1 = .ok (.ifCond .lt 16, 3) := by decide +kernel
theorem d3_4 : decode prog_81_method_13_code 4 = .ok (.iload_n 1, 1) := by decide +kernel
theorem d3_5 : decode prog_81_method_13_code 5 = .ok (.aload_n 0, 1) := by decide +kernel
theorem d3_6 : decode prog_81_method_13_code 6 = .ok (.getfield 20, 3) := by decide +kernel
theorem d3_9 : decode prog_81_method_13_code 9 = .ok (.if_icmp .le 8, 3) := by decide +kernel
theorem d3_12 : decode prog_81_method_13_code 12 = .ok (.iload_n 2, 1) := by decide +kernel
theorem d3_13 : decode prog_81_method_13_code 13 = .ok (.iconst 1, 1) := by decide +kernel
theorem d3_14 : decode prog_81_method_13_code 14 = .ok (.if_icmp .ge 10, 3) := by decide +kernel
theorem d3_17 : decode prog_81_method_13_code 17 = .ok (.aload_n 0, 1) := by decide +kernel
theorem d3_18 : decode prog_81_method_13_code 18 = .ok (.iload_n 1, 1) := by decide +kernel
theorem d3_19 : decode prog_81_method_13_code 19 = .ok (.iload_n 2, 1) := by decide +kernel
theorem d3_20 : decode prog_81_method_13_code 20 = .ok (.invokevirtual 147, 3) := by decide +kernel
theorem d3_23 : decode prog_81_method_13_code 23 = .ok (.athrow, 1) := by decide +kernel
theorem d3_24 : decode prog_81_method_13_code 24 = .ok (.aload_n 0, 1) := by decide +kernel
theorem d3_25 : decode prog_81_method_13_code 25 = .ok (.bipush 10, 2) := by decide +kernel
theorem d3_27 : decode prog_81_method_13_code 27 = .ok (.invokevirtual 151, 3) := by decide +kernel
theorem d3_30 : decode prog_81_method_13_code 30 = .ok (.aload_n 0, 1) := by decide +kernel
theorem d3_31 : decode prog_81_method_13_code 31 = .ok (.getfield 45, 3) := by decide +kernel
theorem d3_34 : decode prog_81_method_13_code 34 = .ok (.istore_n 3, 1) := by decide +kernel
theorem d3_35 : decode prog_81_method_13_code 35 = .ok (.aload_n 0, 1) := by decide +kernel
theorem d3_36 : decode prog_81_method_13_code 36 = .ok (.aload_n 0, 1) := by decide +kernel
theorem d3_37 : decode prog_81_method_13_code 37 = .ok (.getfield 13, 3) := by decide +kernel
theorem d3_40 : decode prog_81_method_13_code 40 = .ok (.aload_n 0, 1) := by decide +kernel
theorem d3_41 : decode prog_81_method_13_code 41 = .ok (.getfield 45, 3) := by decide +kernel
theorem d3_44 : decode prog_81_method_13_code 44 = .ok (.aload_n 0, 1) := by decide +kernel
theorem d3_45 : decode prog_81_method_13_code 45 = .ok (.getfield 48, 3) := by decide +kernel
theorem d3_48 : decode prog_81_method_13_code 48 = .ok (.ifCond .ne 7, 3) := by decide +kernel
theorem d3_51 : decode prog_81_method_13_code 51 = .ok (.iload_n 1, 1) := by decide +kernel
theorem d3_52 : decode prog_81_method_13_code 52 = .ok (.goto 9, 3) := by decide +kernel
theorem d3_55 : decode prog_81_method_13_code 55 = .ok (.iload_n 1, 1) := by decide +kernel
theorem d3_56 : decode prog_81_method_13_code 56 = .ok (.aload_n 0, 1) := by decide +kernel
theorem d3_57 : decode prog_81_method_13_code 57 = .ok (.getfield 20, 3) := by decide +kernel
theorem d3_60 : decode prog_81_method_13_code 60 = .ok (.isub, 1) := by decide +kernel
theorem d3_61 : decode prog_81_method_13_code 61 = .ok (.iload_n 2, 1) := by decide +kernel
theorem d3_62 : decode prog_81_method_13_code 62 = .ok (.invokestatic 155, 3) := by decide +kernel
theorem d3_65 : decode prog_81_method_13_code 65 = .ok (.putfield 45, 3) := by decide +kernel
theorem d3_68 : decode prog_81_method_13_code 68 = .ok (.aload_n 0, 1) := by decide +kernel
theorem d3_69 : decode prog_81_method_13_code 69 = .ok (.getfield 48, 3) := by decide +kernel
theorem d3_72 : decode prog_81_method_13_code 72 = .ok (.ifCond .ne 23, 3) := by decide +kernel
theorem d3_75 : decode prog_81_method_13_code 75 = .ok (.aload_n 0, 1) := by decide +kernel
theorem d3_76 : decode prog_81_method_13_code 76 = .ok (.iload_n 1, 1) := by decide +kernel
theorem d3_77 : decode prog_81_method_13_code 77 = .ok (.putfield 51, 3) := by decide +kernel
theorem d3_80 : decode prog_81_method_13_code 80 = .ok (.aload_n 0, 1) := by decide +kernel
theorem d3_81 : decode prog_81_method_13_code 81 = .ok (.iload_n 2, 1) := by decide +kernel
theorem d3_82 : decode prog_81_method_13_code 82 = .ok (.putfield 54, 3) := by decide +kernel
theorem d3_85 : decode prog_81_method_13_code 85 = .ok (.aload_n 0, 1) := by decide +kernel
theorem d3_86 : decode prog_81_method_13_code 86 = .ok (.aload_n 0, 1) := by decide +kernel
theorem d3_87 : decode prog_81_method_13_code 87 = .ok (.getfield 45, 3) := by decide +kernel
theorem d3_90 : decode prog_81_method_13_code 90 = .ok (.iload_n 3, 1) := by decide +kernel
theorem d3_91 : decode prog_81_method_13_code 91 = .ok (.isub, 1) := by decide +kernel
theorem d3_92 : decode prog_81_method_13_code 92 = .ok (.putfield 57, 3) := by decide +kernel
theorem d3_95 : decode prog_81_method_13_code 95 = .ok (.aload_n 0, 1) := by decide +kernel
theorem d3_96 : decode prog_81_method_13_code 96 = .ok (.dup, 1) := by decide +kernel
theorem d3_97 : decode prog_81_method_13_code 97 = .ok (.getfield 48, 3) := by decide +kernel
theorem d3_100 : decode prog_81_method_13_code 100 = .ok (.iconst 1, 1) := by decide +kernel
theorem d3_101 : decode prog_81_method_13_code 101 = .ok (.iadd, 1) := by decide +kernel
theorem d3_102 : decode prog_81_method_13_code 102 = .ok (.putfield 48, 3) := by decide +kernel
theorem d3_105 : decode prog_81_method_13_code 105 = .ok (.aload_n 0, 1) := by decide +kernel
theorem d3_106 : decode prog_81_method_13_code 106 = .ok (.iload_n 1, 1) := by decide +kernel
theorem d3_107 : decode prog_81_method_13_code 107 = .ok (.putfield 20, 3) := by decide +kernel
theorem d3_110 : decode prog_81_method_13_code 110 = .ok (.return_, 1) := by decide +kernel
theorem pn_a0 : plainFor (⟨"com/example/sedimenta/sedimenta/Postings", "add", "(II)V"⟩ : MethodName) = true := by first | exact plainFor_of_name (by first | (simp [plainName, overriddenIn]; done) | decide +kernel) | decide +kernel
theorem ef_a0 (m : MethodId) (x0 : Addr) (x1 : Int32) (x2 : Int32) : entryFrame m #[(.ref x0), (.int x1), (.int x2)] 4 = mkF m 0 #[.val (.ref x0), .val (.int x1), .val (.int x2), .unset] [] := by first | (simp [entryFrame, mkF, argsToLocals, Value.category]; done) | rfl
def Q_a0 (Z : State) (a : Addr) (dc fq : Int32) (f_own : Addr) (f_bytes : Value) (f_last : Int32) (f_ownPositions : Value) (f_positionBytes : Value) (f_frequencies : Value) (f_entriesChecked : Int32) (f_documentCount : Int32) (f_length : Int32) (f_count : Int32) (f_first : Int32) (f_firstFrequency : Int32) (f_firstLength : Int32) (f_positionsLength : Int32) (f_positioned : Int32) (f_offset : Int32) (f_positionsOffset : Int32) (f_blocks : Value) (f_source : Value) (f_sourceEntry : Int64) (h0 : Heap) (n0 : Nat) (v : Option Value) (h : Heap) (L : List Loc) : Prop := ∃ (us : List Value) (r : Int32), v = none ∧ Fr n0 L ∧ Keep h0 h [a, f_own] ∧ own_Arl Z h f_own .byte us ∧ own_Ent us f_length dc fq r ∧ Fld Z h a "com/example/sedimenta/sedimenta/Postings" "own" "[B" (.ref f_own) ∧ Fld Z h a "com/example/sedimenta/sedimenta/Postings" "bytes" "[B" f_bytes ∧ Fld Z h a "com/example/sedimenta/sedimenta/Postings" "last" "I" (.int dc) ∧ Fld Z h a "com/example/sedimenta/sedimenta/Postings" "ownPositions" "[B" f_ownPositions ∧ Fld Z h a "com/example/sedimenta/sedimenta/Postings" "positionBytes" "[B" f_positionBytes ∧ Fld Z h a "com/example/sedimenta/sedimenta/Postings" "frequencies" "[I" f_frequencies ∧ Fld Z h a "com/example/sedimenta/sedimenta/Postings" "entriesChecked" "Z" (.int f_entriesChecked) ∧ Fld Z h a "com/example/sedimenta/sedimenta/Postings" "documentCount" "I" (.int f_documentCount) ∧ Fld Z h a "com/example/sedimenta/sedimenta/Postings" "length" "I" (.int r) ∧ Fld Z h a "com/example/sedimenta/sedimenta/Postings" "count" "I" (.int (f_count + (1 : Int32))) ∧ Fld Z h a "com/example/sedimenta/sedimenta/Postings" "first" "I" (.int dc) ∧ Fld Z h a "com/example/sedimenta/sedimenta/Postings" "firstFrequency" "I" (.int fq) ∧ Fld Z h a "com/example/sedimenta/sedimenta/Postings" "firstLength" "I" (.int (r - f_length)) ∧ Fld Z h a "com/example/sedimenta/sedimenta/Postings" "positionsLength" "I" (.int f_positionsLength) ∧ Fld Z h a "com/example/sedimenta/sedimenta/Postings" "positioned" "Z" (.int f_positioned) ∧ Fld Z h a "com/example/sedimenta/sedimenta/Postings" "offset" "I" (.int f_offset) ∧ Fld Z h a "com/example/sedimenta/sedimenta/Postings" "positionsOffset" "I" (.int f_positionsOffset) ∧ Fld Z h a "com/example/sedimenta/sedimenta/Postings" "blocks" "Lcom/example/sedimenta/sedimenta/TermBlocks;" f_blocks ∧ Fld Z h a "com/example/sedimenta/sedimenta/Postings" "source" "Lcom/example/sedimenta/sedimenta/store/StoreInput;" f_source ∧ Fld Z h a "com/example/sedimenta/sedimenta/Postings" "sourceEntry" "J" (.long f_sourceEntry)
set_option maxRecDepth 65536 in
set_option maxHeartbeats 40000000 in
theorem rm_add0 (l : Launch) (Z : State) (a0 : Array Value) (hw : ∀ d ∈ tables_1, d.before a0 Z = true) (ws : List Jvm.Cond) (a : Addr) (dc fq : Int32) (f_own : Addr) (f_bytes : Value) (f_last : Int32) (f_ownPositions : Value) (f_positionBytes : Value) (f_frequencies : Value) (f_entriesChecked : Int32) (f_documentCount : Int32) (f_length : Int32) (f_count : Int32) (f_first : Int32) (f_firstFrequency : Int32) (f_firstLength : Int32) (f_positionsLength : Int32) (f_positioned : Int32) (f_offset : Int32) (f_positionsOffset : Int32) (f_blocks : Value) (f_source : Value) (f_sourceEntry : Int64) (vs : List Value) (h0 : Heap) (n0 : Nat) (Z0 : n0 ≤ h0.size) (E_a : Exa Z h0 a "com/example/sedimenta/sedimenta/Postings") (Ff_own : Fld Z h0 a "com/example/sedimenta/sedimenta/Postings" "own" "[B" (.ref f_own)) (Ff_bytes : Fld Z h0 a "com/example/sedimenta/sedimenta/Postings" "bytes" "[B" f_bytes) (Ff_last : Fld Z h0 a "com/example/sedimenta/sedimenta/Postings" "last" "I" (.int f_last)) (Ff_ownPositions : Fld Z h0 a "com/example/sedimenta/sedimenta/Postings" "ownPositions" "[B" f_ownPositions) (Ff_positionBytes : Fld Z h0 a "com/example/sedimenta/sedimenta/Postings" "positionBytes" "[B" f_positionBytes) (Ff_frequencies : Fld Z h0 a "com/example/sedimenta/sedimenta/Postings" "frequencies" "[I" f_frequencies) (Ff_entriesChecked : Fld Z h0 a "com/example/sedimenta/sedimenta/Postings" "entriesChecked" "Z" (.int f_entriesChecked)) (Ff_documentCount : Fld Z h0 a "com/example/sedimenta/sedimenta/Postings" "documentCount" "I" (.int f_documentCount)) (Ff_length : Fld Z h0 a "com/example/sedimenta/sedimenta/Postings" "length" "I" (.int f_length)) (Ff_count : Fld Z h0 a "com/example/sedimenta/sedimenta/Postings" "count" "I" (.int f_count)) (Ff_first : Fld Z h0 a "com/example/sedimenta/sedimenta/Postings" "first" "I" (.int f_first)) (Ff_firstFrequency : Fld Z h0 a "com/example/sedimenta/sedimenta/Postings" "firstFrequency" "I" (.int f_firstFrequency)) (Ff_firstLength : Fld Z h0 a "com/example/sedimenta/sedimenta/Postings" "firstLength" "I" (.int f_firstLength)) (Ff_positionsLength : Fld Z h0 a "com/example/sedimenta/sedimenta/Postings" "positionsLength" "I" (.int f_positionsLength)) (Ff_positioned : Fld Z h0 a "com/example/sedimenta/sedimenta/Postings" "positioned" "Z" (.int f_positioned)) (Ff_offset : Fld Z h0 a "com/example/sedimenta/sedimenta/Postings" "offset" "I" (.int f_offset)) (Ff_positionsOffset : Fld Z h0 a "com/example/sedimenta/sedimenta/Postings" "positionsOffset" "I" (.int f_positionsOffset)) (Ff_blocks : Fld Z h0 a "com/example/sedimenta/sedimenta/Postings" "blocks" "Lcom/example/sedimenta/sedimenta/TermBlocks;" f_blocks) (Ff_source : Fld Z h0 a "com/example/sedimenta/sedimenta/Postings" "source" "Lcom/example/sedimenta/sedimenta/store/StoreInput;" f_source) (Ff_sourceEntry : Fld Z h0 a "com/example/sedimenta/sedimenta/Postings" "sourceEntry" "J" (.long f_sourceEntry)) (V0 : own_Arl Z h0 f_own .byte vs) (ga : n0 ≤ a) (go : n0 ≤ f_own) (nao : a ≠ f_own) (Hp : own_AP vs dc fq f_length f_last dc) (hc : f_count = 0) :
    MetFree l (⟨"com/example/sedimenta/sedimenta/Postings", "add", "(II)V"⟩ : MethodName) (head1 (Jvm.Cond.code (⟨"com/example/sedimenta/sedimenta/Postings", "add", "(II)V"⟩ : MethodName) prog_81_method_13_code 4 none :: ws) ({ frames := 4, cells := 0, slots := 0, locals := 64 } : Room)) (fun as_ U => as_ = #[(.ref a), (.int dc), (.int fq)] ∧ Z.Warmed39 U.vm ∧ U.heap = h0) (fun _ _ _ _ _ => True) (fun _ U o U' => ∃ v L, o = .returned v ∧ Q_a0 Z a dc fq f_own f_bytes f_last f_ownPositions f_positionBytes f_frequencies f_entriesChecked f_documentCount f_length f_count f_first f_firstFrequency f_firstLength f_positionsLength f_positioned f_offset f_positionsOffset f_blocks f_source f_sourceEntry h0 n0 v U'.heap L ∧ FrameEnd U o U' L ({ frames := 4, cells := 0, slots := 0, locals := 64 } : Room).cells ({ frames := 4, cells := 0, slots := 0, locals := 64 } : Room).slots) := by
  refine MetFree.of_bodySF pn_a0 hisR ?_
  intro p e s m args below meth c s₁ Bd hml0 hP hK
  obtain ⟨rfl, hZ, hh⟩ := hP
  have hx := Bd.exec
  have hby := Bd.bytes
  have hlk := BodyLoose.notSynchronized Bd
  have hml : c.maxLocals = 4 := hml0
  have hown : s.vm.findClass "com/example/sedimenta/sedimenta/Postings" = some m.cls := findClass_of_methodNamed Bd.named
  have hnm := (name_of_methodNamed Bd.named Bd.method).1
  have X0 : Stand p l e ({ frames := 4, cells := 0, slots := 0, locals := 64 } : Room) s m #[(.ref a), (.int dc), (.int fq)] below meth c s₁ [] 0 0 := Stand.of_body Bd
  have e0 : s₁.heap = h0 := by rw [← hh, Bd.state]; rfl
  have N0 := Fr.nil n0
  refine own_in (ef_a0 m a dc fq) ?_
  show own_Fin p e below s (Q_a0 Z a dc fq f_own f_bytes f_last f_ownPositions f_positionBytes f_frequencies f_entriesChecked f_documentCount f_length f_count f_first f_firstFrequency f_firstLength f_positionsLength f_positioned f_offset f_positionsOffset f_blocks f_source f_sourceEntry h0 n0) 0 0 s₁ (mkF m 0 #[va a, vi dc, vi fq, un] [])
  refine own_step (T' := s₁) (g' := (mkF m 1 #[va a, vi dc, vi fq, un] [(.int dc)])) (fun t_ k_ => XS.iloadN X0.here hx rfl (hb hby d3_0) rfl k_) ?_
  have hk1 : ¬ (dc < 0) := Hp.1
  refine own_step (T' := s₁) (g' := (mkF m 4 #[va a, vi dc, vi fq, un] [])) (fun t_ k_ => XS.ifNo X0.here hx rfl (hb hby d3_1) rfl (XT.i0_lt_f hk1) k_) ?_
  refine own_step (T' := s₁) (g' := (mkF m 5 #[va a, vi dc, vi fq, un] [(.int dc)])) (fun t_ k_ => XS.iloadN X0.here hx rfl (hb hby d3_4) rfl k_) ?_
  refine own_step (T' := s₁) (g' := (mkF m 6 #[va a, vi dc, vi fq, un] [(.ref a), (.int dc)])) (fun t_ k_ => XS.aloadN X0.here hx rfl (hb hby d3_5) rfl rfl k_) ?_
  obtain ⟨T2, X3, e4, st5⟩ := getF X0 hx hZ hown (host := "") (Or.inl (own_w (i := 19) rfl hw)) Via.refl e0 Ff_last (g := (mkF m 6 #[va a, vi dc, vi fq, un] [(.ref a), (.int dc)])) rfl rfl (hb hby d3_6)
  refine own_step (T' := T2) (g' := (mkF m 9 #[va a, vi dc, vi fq, un] [(.int f_last), (.int dc)])) st5 ?_
  have hk6 : f_last < dc := Hp.2.1
  refine own_step (T' := T2) (g' := (mkF m 12 #[va a, vi dc, vi fq, un] [])) (fun t_ k_ => XS.icmpNo X3.here hx rfl (hb hby d3_9) rfl (XT.ii_le_f hk6) k_) ?_
  refine own_step (T' := T2) (g' := (mkF m 13 #[va a, vi dc, vi fq, un] [(.int fq)])) (fun t_ k_ => XS.iloadN X3.here hx rfl (hb hby d3_12) rfl k_) ?_
  refine own_step (T' := T2) (g' := (mkF m 14 #[va a, vi dc, vi fq, un] [(.int (1 : Int32)), (.int fq)])) (fun t_ k_ => XT.iconstV X3.here hx rfl (1 : Int32) (hb hby d3_13) (by decide) k_) ?_
  have hk7 : ¬ (fq < (1 : Int32)) := Hp.2.2.1
  refine own_step (T' := T2) (g' := (mkF m 24 #[va a, vi dc, vi fq, un] [])) (fun t_ k_ => XS.icmpYes X3.here hx rfl (pc0 := 14) (pc' := 24) rfl (hb hby d3_14) rfl (XT.ii_ge_t hk7) (by decide) (by decide) k_) ?_
  refine own_step (T' := T2) (g' := (mkF m 25 #[va a, vi dc, vi fq, un] [(.ref a)])) (fun t_ k_ => XS.aloadN X3.here hx rfl (hb hby d3_24) rfl rfl k_) ?_
  refine own_step (T' := T2) (g' := (mkF m 27 #[va a, vi dc, vi fq, un] [(.int (10 : Int32)), (.ref a)])) (fun t_ k_ => XT.bipushV X3.here hx rfl (10 : Int32) (hb hby d3_25) (by decide) k_) ?_
  obtain ⟨cqc8, qac8, qbc8⟩ := E_a.cell
  obtain ⟨cic8, kic8, iac8, ibc8, -, icc8, -⟩ := Cond.instantiable_spec (mvT (args := #[(.ref a), (.int dc), (.int fq)]) hZ (own_w (i := 6) rfl hw))
  have hpc8 := Cond.privateMethod_at (mvP (args := #[(.ref a), (.int dc), (.int fq)]) hZ (own_w (i := 40) rfl hw))
  obtain ⟨_, _, ⟨Tc8, Lc8, kc8, nc8⟩, -, Xc8, ⟨Lcc8, hQc8, lc8, yc8, zc8⟩, stc8⟩ := X3.privateBack hx (y := (⟨"com/example/sedimenta/sedimenta/Postings", "room", "(I)V"⟩ : MethodName)) hown (mvT hZ (own_w (i := 38) rfl hw)) (mvT hZ (own_w (i := 39) rfl hw)) (selects_self_of_private iac8 ibc8 (own_noface icc8) hpc8 (mvT hZ (own_w (i := 39) rfl hw)) (by decide)) hpc8 (mvT hZ (own_w (i := 41) rfl hw)) (by decide) (backOf (W := 0) (rm_room l Z a0 hw [] a f_own f_length vs h0 n0 Z0 Ff_own Ff_length V0 Hp.2.2.2.1 Hp.2.2.2.2.1 Hp.2.2.2.2.2.1) hZ (own_w (i := 41) rfl hw) (own_w (i := 7) rfl hw) (by decide) (by decide)) (g := (mkF m 27 #[va a, vi dc, vi fq, un] [(.int (10 : Int32)), (.ref a)])) rfl (by rw [hml]; rfl) (Steps.refl _) (a := a) (by rw [e4]; exact qac8) qbc8 (argsL := [(.int (10 : Int32))]) (rest := []) (lenOf pd_3 rfl) rfl (by show 2 * 0 + _ ≤ _; exact Nat.le_of_eq rfl) (hb hby d3_27) (fun _ _ => ⟨rfl, e4, (by decide : 0 + 0 ≤ _), (by decide : 0 + 0 ≤ _)⟩)
  dsimp only [Pt.U, Pt.locs, Pt.cells, Pt.slots] at Xc8 lc8 yc8 zc8 stc8 hQc8
  subst lc8 yc8 zc8
  have X9 := Xc8.more (cells' := 0) (slots' := 0) (by decide) (by decide)
  obtain ⟨rfl, N10, e11⟩ := hQc8
  have N12 := Fr.app N0 N10
  obtain ⟨Lo13, X14, N15⟩ : ∃ Lo_, Stand p l e ({ frames := 4, cells := 0, slots := 0, locals := 64 } : Room) s m #[(.ref a), (.int dc), (.int fq)] below meth c Tc8 Lo_ 0 0 ∧ Fr n0 Lo_ := ⟨_, X9, N12⟩
  refine own_step (T' := Tc8) (g' := (mkF m 30 #[va a, vi dc, vi fq, un] [])) (fun t_ k_ => stc8.trans k_) ?_
  refine own_step (T' := Tc8) (g' := (mkF m 31 #[va a, vi dc, vi fq, un] [(.ref a)])) (fun t_ k_ => XS.aloadN X14.here hx rfl (hb hby d3_30) rfl rfl k_) ?_
  obtain ⟨T16, X17, e18, st19⟩ := getF X14 hx hZ hown (host := "") (Or.inl (own_w (i := 42) rfl hw)) Via.refl e11 Ff_length (g := (mkF m 31 #[va a, vi dc, vi fq, un] [(.ref a)])) rfl rfl (hb hby d3_31)
  refine own_step (T' := T16) (g' := (mkF m 34 #[va a, vi dc, vi fq, un] [(.int f_length)])) st19 ?_
  refine own_step (T' := T16) (g' := (mkF m 35 #[va a, vi dc, vi fq, vi f_length] [])) (fun t_ k_ => XS.istoreN X17.here hx rfl (hb hby d3_34) rfl (l' := #[va a, vi dc, vi fq, vi f_length]) rfl k_) ?_
  refine own_step (T' := T16) (g' := (mkF m 36 #[va a, vi dc, vi fq, vi f_length] [(.ref a)])) (fun t_ k_ => XS.aloadN X17.here hx rfl (hb hby d3_35) rfl rfl k_) ?_
  refine own_step (T' := T16) (g' := (mkF m 37 #[va a, vi dc, vi fq, vi f_length] [(.ref a), (.ref a)])) (fun t_ k_ => XS.aloadN X17.here hx rfl (hb hby d3_36) rfl rfl k_) ?_
  obtain ⟨T20, X21, e22, st23⟩ := getF X17 hx hZ hown (host := "") (Or.inl (own_w (i := 15) rfl hw)) Via.refl e18 Ff_own (g := (mkF m 37 #[va a, vi dc, vi fq, vi f_length] [(.ref a), (.ref a)])) rfl rfl (hb hby d3_37)
  refine own_step (T' := T20) (g' := (mkF m 40 #[va a, vi dc, vi fq, vi f_length] [(.ref f_own), (.ref a)])) st23 ?_
  refine own_step (T' := T20) (g' := (mkF m 41 #[va a, vi dc, vi fq, vi f_length] [(.ref a), (.ref f_own), (.ref a)])) (fun t_ k_ => XS.aloadN X21.here hx rfl (hb hby d3_40) rfl rfl k_) ?_
  obtain ⟨T24, X25, e26, st27⟩ := getF X21 hx hZ hown (host := "") (Or.inl (own_w (i := 42) rfl hw)) Via.refl e22 Ff_length (g := (mkF m 41 #[va a, vi dc, vi fq, vi f_length] [(.ref a), (.ref f_own), (.ref a)])) rfl rfl (hb hby d3_41)
  refine own_step (T' := T24) (g' := (mkF m 44 #[va a, vi dc, vi fq, vi f_length] [(.int f_length), (.ref f_own), (.ref a)])) st27 ?_
  refine own_step (T' := T24) (g' := (mkF m 45 #[va a, vi dc, vi fq, vi f_length] [(.ref a), (.int f_length), (.ref f_own), (.ref a)])) (fun t_ k_ => XS.aloadN X25.here hx rfl (hb hby d3_44) rfl rfl k_) ?_
  obtain ⟨T28, X29, e30, st31⟩ := getF X25 hx hZ hown (host := "") (Or.inl (own_w (i := 44) rfl hw)) Via.refl e26 Ff_count (g := (mkF m 45 #[va a, vi dc, vi fq, vi f_length] [(.ref a), (.int f_length), (.ref f_own), (.ref a)])) rfl rfl (hb hby d3_45)
  refine own_step (T' := T28) (g' := (mkF m 48 #[va a, vi dc, vi fq, vi f_length] [(.int f_count), (.int f_length), (.ref f_own), (.ref a)])) st31 ?_
  have hk32 : f_count = 0 := hc
  refine own_step (T' := T28) (g' := (mkF m 51 #[va a, vi dc, vi fq, vi f_length] [(.int f_length), (.ref f_own), (.ref a)])) (fun t_ k_ => XS.ifNo X29.here hx rfl (hb hby d3_48) rfl (XT.i0_ne_f hk32) k_) ?_
  refine own_step (T' := T28) (g' := (mkF m 52 #[va a, vi dc, vi fq, vi f_length] [(.int dc), (.int f_length), (.ref f_own), (.ref a)])) (fun t_ k_ => XS.iloadN X29.here hx rfl (hb hby d3_51) rfl k_) ?_
  refine own_step (T' := T28) (g' := (mkF m 61 #[va a, vi dc, vi fq, vi f_length] [(.int dc), (.int f_length), (.ref f_own), (.ref a)])) (fun t_ k_ => XS.goto X29.here hx rfl (pc0 := 52) (pc' := 61) rfl (hb hby d3_52) (by decide) (by decide) k_) ?_
  refine own_step (T' := T28) (g' := (mkF m 62 #[va a, vi dc, vi fq, vi f_length] [(.int fq), (.int dc), (.int f_length), (.ref f_own), (.ref a)])) (fun t_ k_ => XS.iloadN X29.here hx rfl (hb hby d3_61) rfl k_) ?_
  obtain ⟨_, _, ⟨Tc33, Lc33, kc33, nc33⟩, -, Xc33, ⟨Lcc33, hQc33, lc33, yc33, zc33⟩, stc33⟩ := Jvm.LawKit.callS X29 hx (y := (⟨"com/example/sedimenta/sedimenta/Postings", "putEntry", "([BIII)I"⟩ : MethodName)) hown (mvT hZ (own_w (i := 46) rfl hw)) (mvT hZ (own_w (i := 47) rfl hw)) (mvT hZ (own_w (i := 7) rfl hw)) (mvT hZ (own_w (i := 48) rfl hw)) (by decide) (backOf (W := 1) (rm_pe l Z a0 hw [] f_own f_length dc fq vs h0 n0 Z0 V0 go Hp.2.2.2) hZ (own_w (i := 48) rfl hw) (own_w (i := 7) rfl hw) (by decide) (by decide)) (g := (mkF m 62 #[va a, vi dc, vi fq, vi f_length] [(.int fq), (.int dc), (.int f_length), (.ref f_own), (.ref a)])) rfl (by rw [hml]; rfl) (argsL := [(.ref f_own), (.int f_length), (.int dc), (.int fq)]) (rest := [(.ref a)]) (lenOf pd_4 rfl) rfl (by show 2 * 0 + _ ≤ _; exact Nat.le_of_eq rfl) (hb hby d3_62) (fun _ _ => ⟨rfl, e30, (by decide : 0 + 0 ≤ _), (by decide : 0 + 0 ≤ _)⟩)
  dsimp only [Pt.U, Pt.locs, Pt.cells, Pt.slots] at Xc33 lc33 yc33 zc33 stc33 hQc33
  subst lc33 yc33 zc33
  have X34 := Xc33.more (cells' := 0) (slots' := 0) (by decide) (by decide)
  obtain ⟨us35, r36, rfl, N37, K38, V39, H40⟩ := hQc33
  have N41 := Fr.app N15 N37
  have F42 := Nat.le_trans Z0 K38.1
  have F43 := E_a.keep K38
  have F44 := Ff_own.keep K38 (ninS nao nin0)
  have F45 := Ff_bytes.keep K38 (ninS nao nin0)
  have F46 := Ff_last.keep K38 (ninS nao nin0)
  have F47 := Ff_ownPositions.keep K38 (ninS nao nin0)
  have F48 := Ff_positionBytes.keep K38 (ninS nao nin0)
  have F49 := Ff_frequencies.keep K38 (ninS nao nin0)
  have F50 := Ff_entriesChecked.keep K38 (ninS nao nin0)
  have F51 := Ff_documentCount.keep K38 (ninS nao nin0)
  have F52 := Ff_length.keep K38 (ninS nao nin0)
  have F53 := Ff_count.keep K38 (ninS nao nin0)
  have F54 := Ff_first.keep K38 (ninS nao nin0)
  have F55 := Ff_firstFrequency.keep K38 (ninS nao nin0)
  have F56 := Ff_firstLength.keep K38 (ninS nao nin0)
  have F57 := Ff_positionsLength.keep K38 (ninS nao nin0)
  have F58 := Ff_positioned.keep K38 (ninS nao nin0)
  have F59 := Ff_offset.keep K38 (ninS nao nin0)
  have F60 := Ff_positionsOffset.keep K38 (ninS nao nin0)
  have F61 := Ff_blocks.keep K38 (ninS nao nin0)
  have F62 := Ff_source.keep K38 (ninS nao nin0)
  have F63 := Ff_sourceEntry.keep K38 (ninS nao nin0)
  have F64 := (Keep.refl h0 [a, f_own]).trans K38 (allS (Or.inl (List.mem_of_getElem? (i := 1) rfl)) all0)
  obtain ⟨Lo65, X66, N67⟩ : ∃ Lo_, Stand p l e ({ frames := 4, cells := 0, slots := 0, locals := 64 } : Room) s m #[(.ref a), (.int dc), (.int fq)] below meth c Tc33 Lo_ 0 0 ∧ Fr n0 Lo_ := ⟨_, X34, N41⟩
  refine own_step (T' := Tc33) (g' := (mkF m 65 #[va a, vi dc, vi fq, vi f_length] [(.int r36), (.ref a)])) stc33 ?_
  obtain ⟨T68, h69, X70, e71, W72, st73⟩ := putF X66 hx hZ hown (host := "") (Or.inl (own_w (i := 42) rfl hw)) Via.refl rfl F52 F43 (Or.inl (own_w (i := 43) rfl hw)) (own_w (i := 6) rfl hw) (ty := .int) (by decide) rfl rfl (g := (mkF m 65 #[va a, vi dc, vi fq, vi f_length] [(.int r36), (.ref a)])) rfl rfl (hb hby d3_65)
  have N74 := Fr.snoc X70 N67 ga
  have F75 := Nat.le_trans F42 (Keep.of_wr W72).1
  have F76 := F43.wr W72
  have F77 := F44.other W72 (Or.inr (own_so (lf16 hw) (lf43 hw) (by decide)))
  have F78 := F45.other W72 (Or.inr (own_so (lf18 hw) (lf43 hw) (by decide)))
  have F79 := F46.other W72 (Or.inr (own_so (lf20 hw) (lf43 hw) (by decide)))
  have F80 := F47.other W72 (Or.inr (own_so (lf22 hw) (lf43 hw) (by decide)))
  have F81 := F48.other W72 (Or.inr (own_so (lf24 hw) (lf43 hw) (by decide)))
  have F82 := F49.other W72 (Or.inr (own_so (lf27 hw) (lf43 hw) (by decide)))
  have F83 := F50.other W72 (Or.inr (own_so (lf29 hw) (lf43 hw) (by decide)))
  have F84 := F51.other W72 (Or.inr (own_so (lf32 hw) (lf43 hw) (by decide)))
  have F85 : Fld Z h69 a "com/example/sedimenta/sedimenta/Postings" "length" "I" (.int r36) := F52.same W72
  have F86 := F53.other W72 (Or.inr (own_so (lf45 hw) (lf43 hw) (by decide)))
  have F87 := F54.other W72 (Or.inr (own_so (lf57 hw) (lf43 hw) (by decide)))
  have F88 := F55.other W72 (Or.inr (own_so (lf59 hw) (lf43 hw) (by decide)))
  have F89 := F56.other W72 (Or.inr (own_so (lf61 hw) (lf43 hw) (by decide)))
  have F90 := F57.other W72 (Or.inr (own_so (lf72 hw) (lf43 hw) (by decide)))
  have F91 := F58.other W72 (Or.inr (own_so (lf78 hw) (lf43 hw) (by decide)))
  have F92 := F59.other W72 (Or.inr (own_so (lf85 hw) (lf43 hw) (by decide)))
  have F93 := F60.other W72 (Or.inr (own_so (lf87 hw) (lf43 hw) (by decide)))
  have F94 := F61.other W72 (Or.inr (own_so (lf89 hw) (lf43 hw) (by decide)))
  have F95 := F62.other W72 (Or.inr (own_so (lf91 hw) (lf43 hw) (by decide)))
  have F96 := F63.other W72 (Or.inr (own_so (lf93 hw) (lf43 hw) (by decide)))
  have F97 := F64.wr W72 (Or.inl (List.mem_of_getElem? (i := 0) rfl))
  have F98 := V39.other W72 (Ne.symm nao)
  obtain ⟨Lo99, X100, N101⟩ : ∃ Lo_, Stand p l e ({ frames := 4, cells := 0, slots := 0, locals := 64 } : Room) s m #[(.ref a), (.int dc), (.int fq)] below meth c T68 Lo_ 0 0 ∧ Fr n0 Lo_ := ⟨_, X70, N74⟩
  refine own_step (T' := T68) (g' := (mkF m 68 #[va a, vi dc, vi fq, vi f_length] [])) st73 ?_
  refine own_step (T' := T68) (g' := (mkF m 69 #[va a, vi dc, vi fq, vi f_length] [(.ref a)])) (fun t_ k_ => XS.aloadN X100.here hx rfl (hb hby d3_68) rfl rfl k_) ?_
  obtain ⟨T102, X103, e104, st105⟩ := getF X100 hx hZ hown (host := "") (Or.inl (own_w (i := 44) rfl hw)) Via.refl e71 F86 (g := (mkF m 69 #[va a, vi dc, vi fq, vi f_length] [(.ref a)])) rfl rfl (hb hby d3_69)
  refine own_step (T' := T102) (g' := (mkF m 72 #[va a, vi dc, vi fq, vi f_length] [(.int f_count)])) st105 ?_
  have hk106 : f_count = 0 := hc
  refine own_step (T' := T102) (g' := (mkF m 75 #[va a, vi dc, vi fq, vi f_length] [])) (fun t_ k_ => XS.ifNo X103.here hx rfl (hb hby d3_72) rfl (XT.i0_ne_f hk106) k_) ?_
  refine own_step (T' := T102) (g' := (mkF m 76 #[va a, vi dc, vi fq, vi f_length] [(.ref a)])) (fun t_ k_ => XS.aloadN X103.here hx rfl (hb hby d3_75) rfl rfl k_) ?_
  refine own_step (T' := T102) (g' := (mkF m 77 #[va a, vi dc, vi fq, vi f_length] [(.int dc), (.ref a)])) (fun t_ k_ => XS.iloadN X103.here hx rfl (hb hby d3_76) rfl k_) ?_
  obtain ⟨T107, h108, X109, e110, W111, st112⟩ := putF X103 hx hZ hown (host := "") (Or.inl (own_w (i := 56) rfl hw)) Via.refl e104 F87 F76 (Or.inl (own_w (i := 57) rfl hw)) (own_w (i := 6) rfl hw) (ty := .int) (by decide) rfl rfl (g := (mkF m 77 #[va a, vi dc, vi fq, vi f_length] [(.int dc), (.ref a)])) rfl rfl (hb hby d3_77)
  have N113 := Fr.snoc X109 N101 ga
  have F114 := Nat.le_trans F75 (Keep.of_wr W111).1
  have F115 := F76.wr W111
  have F116 := F77.other W111 (Or.inr (own_so (lf16 hw) (lf57 hw) (by decide)))
  have F117 := F78.other W111 (Or.inr (own_so (lf18 hw) (lf57 hw) (by decide)))
  have F118 := F79.other W111 (Or.inr (own_so (lf20 hw) (lf57 hw) (by decide)))
  have F119 := F80.other W111 (Or.inr (own_so (lf22 hw) (lf57 hw) (by decide)))
  have F120 := F81.other W111 (Or.inr (own_so (lf24 hw) (lf57 hw) (by decide)))
  have F121 := F82.other W111 (Or.inr (own_so (lf27 hw) (lf57 hw) (by decide)))
  have F122 := F83.other W111 (Or.inr (own_so (lf29 hw) (lf57 hw) (by decide)))
  have F123 := F84.other W111 (Or.inr (own_so (lf32 hw) (lf57 hw) (by decide)))
  have F124 := F85.other W111 (Or.inr (own_so (lf43 hw) (lf57 hw) (by decide)))
  have F125 := F86.other W111 (Or.inr (own_so (lf45 hw) (lf57 hw) (by decide)))
  have F126 : Fld Z h108 a "com/example/sedimenta/sedimenta/Postings" "first" "I" (.int dc) := F87.same W111
  have F127 := F88.other W111 (Or.inr (own_so (lf59 hw) (lf57 hw) (by decide)))
  have F128 := F89.other W111 (Or.inr (own_so (lf61 hw) (lf57 hw) (by decide)))
  have F129 := F90.other W111 (Or.inr (own_so (lf72 hw) (lf57 hw) (by decide)))
  have F130 := F91.other W111 (Or.inr (own_so (lf78 hw) (lf57 hw) (by decide)))
  have F131 := F92.other W111 (Or.inr (own_so (lf85 hw) (lf57 hw) (by decide)))
  have F132 := F93.other W111 (Or.inr (own_so (lf87 hw) (lf57 hw) (by decide)))
  have F133 := F94.other W111 (Or.inr (own_so (lf89 hw) (lf57 hw) (by decide)))
  have F134 := F95.other W111 (Or.inr (own_so (lf91 hw) (lf57 hw) (by decide)))
  have F135 := F96.other W111 (Or.inr (own_so (lf93 hw) (lf57 hw) (by decide)))
  have F136 := F97.wr W111 (Or.inl (List.mem_of_getElem? (i := 0) rfl))
  have F137 := F98.other W111 (Ne.symm nao)
  obtain ⟨Lo138, X139, N140⟩ : ∃ Lo_, Stand p l e ({ frames := 4, cells := 0, slots := 0, locals := 64 } : Room) s m #[(.ref a), (.int dc), (.int fq)] below meth c T107 Lo_ 0 0 ∧ Fr n0 Lo_ := ⟨_, X109, N113⟩
  refine own_step (T' := T107) (g' := (mkF m 80 #[va a, vi dc, vi fq, vi f_length] [])) st112 ?_
  refine own_step (T' := T107) (g' := (mkF m 81 #[va a, vi dc, vi fq, vi f_length] [(.ref a)])) (fun t_ k_ => XS.aloadN X139.here hx rfl (hb hby d3_80) rfl rfl k_) ?_
  refine own_step (T' := T107) (g' := (mkF m 82 #[va a, vi dc, vi fq, vi f_length] [(.int fq), (.ref a)])) (fun t_ k_ => XS.iloadN X139.here hx rfl (hb hby d3_81) rfl k_) ?_
  obtain ⟨T141, h142, X143, e144, W145, st146⟩ := putF X139 hx hZ hown (host := "") (Or.inl (own_w (i := 58) rfl hw)) Via.refl e110 F127 F115 (Or.inl (own_w (i := 59) rfl hw)) (own_w (i := 6) rfl hw) (ty := .int) (by decide) rfl rfl (g := (mkF m 82 #[va a, vi dc, vi fq, vi f_length] [(.int fq), (.ref a)])) rfl rfl (hb hby d3_82)
  have N147 := Fr.snoc X143 N140 ga
  have F148 := Nat.le_trans F114 (Keep.of_wr W145).1
  have F149 := F115.wr W145
  have F150 := F116.other W145 (Or.inr (own_so (lf16 hw) (lf59 hw) (by decide)))
  have F151 := F117.other W145 (Or.inr (own_so (lf18 hw) (lf59 hw) (by decide)))
  have F152 := F118.other W145 (Or.inr (own_so (lf20 hw) (lf59 hw) (by decide)))
  have F153 := F119.other W145 (Or.inr (own_so (lf22 hw) (lf59 hw) (by decide)))
  have F154 := F120.other W145 (Or.inr (own_so (lf24 hw) (lf59 hw) (by decide)))
  have F155 := F121.other W145 (Or.inr (own_so (lf27 hw) (lf59 hw) (by decide)))
  have F156 := F122.other W145 (Or.inr (own_so (lf29 hw) (lf59 hw) (by decide)))
  have F157 := F123.other W145 (Or.inr (own_so (lf32 hw) (lf59 hw) (by decide)))
  have F158 := F124.other W145 (Or.inr (own_so (lf43 hw) (lf59 hw) (by decide)))
  have F159 := F125.other W145 (Or.inr (own_so (lf45 hw) (lf59 hw) (by decide)))
  have F160 := F126.other W145 (Or.inr (own_so (lf57 hw) (lf59 hw) (by decide)))
  have F161 : Fld Z h142 a "com/example/sedimenta/sedimenta/Postings" "firstFrequency" "I" (.int fq) := F127.same W145
  have F162 := F128.other W145 (Or.inr (own_so (lf61 hw) (lf59 hw) (by decide)))
  have F163 := F129.other W145 (Or.inr (own_so (lf72 hw) (lf59 hw) (by decide)))
  have F164 := F130.other W145 (Or.inr (own_so (lf78 hw) (lf59 hw) (by decide)))
  have F165 := F131.other W145 (Or.inr (own_so (lf85 hw) (lf59 hw) (by decide)))
  have F166 := F132.other W145 (Or.inr (own_so (lf87 hw) (lf59 hw) (by decide)))
  have F167 := F133.other W145 (Or.inr (own_so (lf89 hw) (lf59 hw) (by decide)))
  have F168 := F134.other W145 (Or.inr (own_so (lf91 hw) (lf59 hw) (by decide)))
  have F169 := F135.other W145 (Or.inr (own_so (lf93 hw) (lf59 hw) (by decide)))
  have F170 := F136.wr W145 (Or.inl (List.mem_of_getElem? (i := 0) rfl))
  have F171 := F137.other W145 (Ne.symm nao)
  obtain ⟨Lo172, X173, N174⟩ : ∃ Lo_, Stand p l e ({ frames := 4, cells := 0, slots := 0, locals := 64 } : Room) s m #[(.ref a), (.int dc), (.int fq)] below meth c T141 Lo_ 0 0 ∧ Fr n0 Lo_ := ⟨_, X143, N147⟩
  refine own_step (T' := T141) (g' := (mkF m 85 #[va a, vi dc, vi fq, vi f_length] [])) st146 ?_
  refine own_step (T' := T141) (g' := (mkF m 86 #[va a, vi dc, vi fq, vi f_length] [(.ref a)])) (fun t_ k_ => XS.aloadN X173.here hx rfl (hb hby d3_85) rfl rfl k_) ?_
  refine own_step (T' := T141) (g' := (mkF m 87 #[va a, vi dc, vi fq, vi f_length] [(.ref a), (.ref a)])) (fun t_ k_ => XS.aloadN X173.here hx rfl (hb hby d3_86) rfl rfl k_) ?_
  obtain ⟨T175, X176, e177, st178⟩ := getF X173 hx hZ hown (host := "") (Or.inl (own_w (i := 42) rfl hw)) Via.refl e144 F158 (g := (mkF m 87 #[va a, vi dc, vi fq, vi f_length] [(.ref a), (.ref a)])) rfl rfl (hb hby d3_87)
  refine own_step (T' := T175) (g' := (mkF m 90 #[va a, vi dc, vi fq, vi f_length] [(.int r36), (.ref a)])) st178 ?_
  refine own_step (T' := T175) (g' := (mkF m 91 #[va a, vi dc, vi fq, vi f_length] [(.int f_length), (.int r36), (.ref a)])) (fun t_ k_ => XS.iloadN X176.here hx rfl (hb hby d3_90) rfl k_) ?_
  refine own_step (T' := T175) (g' := (mkF m 92 #[va a, vi dc, vi fq, vi f_length] [(.int (r36 - f_length)), (.ref a)])) (fun t_ k_ => XS.isub X176.here hx rfl (hb hby d3_91) rfl k_) ?_
  obtain ⟨T179, h180, X181, e182, W183, st184⟩ := putF X176 hx hZ hown (host := "") (Or.inl (own_w (i := 60) rfl hw)) Via.refl e177 F162 F149 (Or.inl (own_w (i := 61) rfl hw)) (own_w (i := 6) rfl hw) (ty := .int) (by decide) rfl rfl (g := (mkF m 92 #[va a, vi dc, vi fq, vi f_length] [(.int (r36 - f_length)), (.ref a)])) rfl rfl (hb hby d3_92)
  have N185 := Fr.snoc X181 N174 ga
  have F186 := Nat.le_trans F148 (Keep.of_wr W183).1
  have F187 := F149.wr W183
  have F188 := F150.other W183 (Or.inr (own_so (lf16 hw) (lf61 hw) (by decide)))
  have F189 := F151.other W183 (Or.inr (own_so (lf18 hw) (lf61 hw) (by decide)))
  have F190 := F152.other W183 (Or.inr (own_so (lf20 hw) (lf61 hw) (by decide)))
  have F191 := F153.other W183 (Or.inr (own_so (lf22 hw) (lf61 hw) (by decide)))
  have F192 := F154.other W183 (Or.inr (own_so (lf24 hw) (lf61 hw) (by decide)))
  have F193 := F155.other W183 (Or.inr (own_so (lf27 hw) (lf61 hw) (by decide)))
  have F194 := F156.other W183 (Or.inr (own_so (lf29 hw) (lf61 hw) (by decide)))
  have F195 := F157.other W183 (Or.inr (own_so (lf32 hw) (lf61 hw) (by decide)))
  have F196 := F158.other W183 (Or.inr (own_so (lf43 hw) (lf61 hw) (by decide)))
  have F197 := F159.other W183 (Or.inr (own_so (lf45 hw) (lf61 hw) (by decide)))
  have F198 := F160.other W183 (Or.inr (own_so (lf57 hw) (lf61 hw) (by decide)))
  have F199 := F161.other W183 (Or.inr (own_so (lf59 hw) (lf61 hw) (by decide)))
  have F200 : Fld Z h180 a "com/example/sedimenta/sedimenta/Postings" "firstLength" "I" (.int (r36 - f_length)) := F162.same W183
  have F201 := F163.other W183 (Or.inr (own_so (lf72 hw) (lf61 hw) (by decide)))
  have F202 := F164.other W183 (Or.inr (own_so (lf78 hw) (lf61 hw) (by decide)))
  have F203 := F165.other W183 (Or.inr (own_so (lf85 hw) (lf61 hw) (by decide)))
  have F204 := F166.other W183 (Or.inr (own_so (lf87 hw) (lf61 hw) (by decide)))
  have F205 := F167.other W183 (Or.inr (own_so (lf89 hw) (lf61 hw) (by decide)))
  have F206 := F168.other W183 (Or.inr (own_so (lf91 hw) (lf61 hw) (by decide)))
  have F207 := F169.other W183 (Or.inr (own_so (lf93 hw) (lf61 hw) (by decide)))
  have F208 := F170.wr W183 (Or.inl (List.mem_of_getElem? (i := 0) rfl))
  have F209 := F171.other W183 (Ne.symm nao)
  obtain ⟨Lo210, X211, N212⟩ : ∃ Lo_, Stand p l e ({ frames := 4, cells := 0, slots := 0, locals := 64 } : Room) s m #[(.ref a), (.int dc), (.int fq)] below meth c T179 Lo_ 0 0 ∧ Fr n0 Lo_ := ⟨_, X181, N185⟩
  refine own_step (T' := T179) (g' := (mkF m 95 #[va a, vi dc, vi fq, vi f_length] [])) st184 ?_
  refine own_step (T' := T179) (g' := (mkF m 96 #[va a, vi dc, vi fq, vi f_length] [(.ref a)])) (fun t_ k_ => XS.aloadN X211.here hx rfl (hb hby d3_95) rfl rfl k_) ?_
  refine own_step (T' := T179) (g' := (mkF m 97 #[va a, vi dc, vi fq, vi f_length] [(.ref a), (.ref a)])) (fun t_ k_ => XS.dup X211.here hx rfl (hb hby d3_96) rfl rfl k_) ?_
  obtain ⟨T213, X214, e215, st216⟩ := getF X211 hx hZ hown (host := "") (Or.inl (own_w (i := 44) rfl hw)) Via.refl e182 F197 (g := (mkF m 97 #[va a, vi dc, vi fq, vi f_length] [(.ref a), (.ref a)])) rfl rfl (hb hby d3_97)
  refine own_step (T' := T213) (g' := (mkF m 100 #[va a, vi dc, vi fq, vi f_length] [(.int f_count), (.ref a)])) st216 ?_
  refine own_step (T' := T213) (g' := (mkF m 101 #[va a, vi dc, vi fq, vi f_length] [(.int (1 : Int32)), (.int f_count), (.ref a)])) (fun t_ k_ => XT.iconstV X214.here hx rfl (1 : Int32) (hb hby d3_100) (by decide) k_) ?_
  refine own_step (T' := T213) (g' := (mkF m 102 #[va a, vi dc, vi fq, vi f_length] [(.int (f_count + (1 : Int32))), (.ref a)])) (fun t_ k_ => XS.iadd X214.here hx rfl (hb hby d3_101) rfl k_) ?_
  obtain ⟨T217, h218, X219, e220, W221, st222⟩ := putF X214 hx hZ hown (host := "") (Or.inl (own_w (i := 44) rfl hw)) Via.refl e215 F197 F187 (Or.inl (own_w (i := 45) rfl hw)) (own_w (i := 6) rfl hw) (ty := .int) (by decide) rfl rfl (g := (mkF m 102 #[va a, vi dc, vi fq, vi f_length] [(.int (f_count + (1 : Int32))), (.ref a)])) rfl rfl (hb hby d3_102)
  have N223 := Fr.snoc X219 N212 ga
  have F224 := Nat.le_trans F186 (Keep.of_wr W221).1
  have F225 := F187.wr W221
  have F226 := F188.other W221 (Or.inr (own_so (lf16 hw) (lf45 hw) (by decide)))
  have F227 := F189.other W221 (Or.inr (own_so (lf18 hw) (lf45 hw) (by decide)))
  have F228 := F190.other W221 (Or.inr (own_so (lf20 hw) (lf45 hw) (by decide)))
  have F229 := F191.other W221 (Or.inr (own_so (lf22 hw) (lf45 hw) (by decide)))
  have F230 := F192.other W221 (Or.inr (own_so (lf24 hw) (lf45 hw) (by decide)))
  have F231 := F193.other W221 (Or.inr (own_so (lf27 hw) (lf45 hw) (by decide)))
  have F232 := F194.other W221 (Or.inr (own_so (lf29 hw) (lf45 hw) (by decide)))
  have F233 := F195.other W221 (Or.inr (own_so (lf32 hw) (lf45 hw) (by decide)))
  have F234 := F196.other W221 (Or.inr (own_so (lf43 hw) (lf45 hw) (by decide)))
  have F235 : Fld Z h218 a "com/example/sedimenta/sedimenta/Postings" "count" "I" (.int (f_count + (1 : Int32))) := F197.same W221
  have F236 := F198.other W221 (Or.inr (own_so (lf57 hw) (lf45 hw) (by decide)))
  have F237 := F199.other W221 (Or.inr (own_so (lf59 hw) (lf45 hw) (by decide)))
  have F238 := F200.other W221 (Or.inr (own_so (lf61 hw) (lf45 hw) (by decide)))
  have F239 := F201.other W221 (Or.inr (own_so (lf72 hw) (lf45 hw) (by decide)))
  have F240 := F202.other W221 (Or.inr (own_so (lf78 hw) (lf45 hw) (by decide)))
  have F241 := F203.other W221 (Or.inr (own_so (lf85 hw) (lf45 hw) (by decide)))
  have F242 := F204.other W221 (Or.inr (own_so (lf87 hw) (lf45 hw) (by decide)))
  have F243 := F205.other W221 (Or.inr (own_so (lf89 hw) (lf45 hw) (by decide)))
  have F244 := F206.other W221 (Or.inr (own_so (lf91 hw) (lf45 hw) (by decide)))
  have F245 := F207.other W221 (Or.inr (own_so (lf93 hw) (lf45 hw) (by decide)))
  have F246 := F208.wr W221 (Or.inl (List.mem_of_getElem? (i := 0) rfl))
  have F247 := F209.other W221 (Ne.symm nao)
  obtain ⟨Lo248, X249, N250⟩ : ∃ Lo_, Stand p l e ({ frames := 4, cells := 0, slots := 0, locals := 64 } : Room) s m #[(.ref a), (.int dc), (.int fq)] below meth c T217 Lo_ 0 0 ∧ Fr n0 Lo_ := ⟨_, X219, N223⟩
  refine own_step (T' := T217) (g' := (mkF m 105 #[va a, vi dc, vi fq, vi f_length] [])) st222 ?_
  refine own_step (T' := T217) (g' := (mkF m 106 #[va a, vi dc, vi fq, vi f_length] [(.ref a)])) (fun t_ k_ => XS.aloadN X249.here hx rfl (hb hby d3_105) rfl rfl k_) ?_
  refine own_step (T' := T217) (g' := (mkF m 107 #[va a, vi dc, vi fq, vi f_length] [(.int dc), (.ref a)])) (fun t_ k_ => XS.iloadN X249.here hx rfl (hb hby d3_106) rfl k_) ?_
  obtain ⟨T251, h252, X253, e254, W255, st256⟩ := putF X249 hx hZ hown (host := "") (Or.inl (own_w (i := 19) rfl hw)) Via.refl e220 F228 F225 (Or.inl (own_w (i := 20) rfl hw)) (own_w (i := 6) rfl hw) (ty := .int) (by decide) rfl rfl (g := (mkF m 107 #[va a, vi dc, vi fq, vi f_length] [(.int dc), (.ref a)])) rfl rfl (hb hby d3_107)
  have N257 := Fr.snoc X253 N250 ga
  have F258 := Nat.le_trans F224 (Keep.of_wr W255).1
  have F259 := F225.wr W255
  have F260 := F226.other W255 (Or.inr (own_so (lf16 hw) (lf20 hw) (by decide)))
  have F261 := F227.other W255 (Or.inr (own_so (lf18 hw) (lf20 hw) (by decide)))
  have F262 : Fld Z h252 a "com/example/sedimenta/sedimenta/Postings" "last" "I" (.int dc) := F228.same W255
  have F263 := F229.other W255 (Or.inr (own_so (lf22 hw) (lf20 hw) (by decide)))
  have F264 := F230.other W255 (Or.inr (own_so (lf24 hw) (lf20 hw) (by decide)))
  have F265 := F231.other W255 (Or.inr (own_so (lf27 hw) (lf20 hw) (by decide)))
  have F266 := F232.other W255 (Or.inr (own_so (lf29 hw) (lf20 hw) (by decide)))
  have F267 := F233.other W255 (Or.inr (own_so (lf32 hw) (lf20 hw) (by decide)))
  have F268 := F234.other W255 (Or.inr (own_so (lf43 hw) (lf20 hw) (by decide)))
  have F269 := F235.other W255 (Or.inr (own_so (lf45 hw) (lf20 hw) (by decide)))
  have F270 := F236.other W255 (Or.inr (own_so (lf57 hw) (lf20 hw) (by decide)))
  have F271 := F237.other W255 (Or.inr (own_so (lf59 hw) (lf20 hw) (by decide)))
  have F272 := F238.other W255 (Or.inr (own_so (lf61 hw) (lf20 hw) (by decide)))
  have F273 := F239.other W255 (Or.inr (own_so (lf72 hw) (lf20 hw) (by decide)))
  have F274 := F240.other W255 (Or.inr (own_so (lf78 hw) (lf20 hw) (by decide)))
  have F275 := F241.other W255 (Or.inr (own_so (lf85 hw) (lf20 hw) (by decide)))
  have F276 := F242.other W255 (Or.inr (own_so (lf87 hw) (lf20 hw) (by decide)))
  have F277 := F243.other W255 (Or.inr (own_so (lf89 hw) (lf20 hw) (by decide)))
  have F278 := F244.other W255 (Or.inr (own_so (lf91 hw) (lf20 hw) (by decide)))
  have F279 := F245.other W255 (Or.inr (own_so (lf93 hw) (lf20 hw) (by decide)))
  have F280 := F246.wr W255 (Or.inl (List.mem_of_getElem? (i := 0) rfl))
  have F281 := F247.other W255 (Ne.symm nao)
  obtain ⟨Lo282, X283, N284⟩ : ∃ Lo_, Stand p l e ({ frames := 4, cells := 0, slots := 0, locals := 64 } : Room) s m #[(.ref a), (.int dc), (.int fq)] below meth c T251 Lo_ 0 0 ∧ Fr n0 Lo_ := ⟨_, X253, N257⟩
  refine own_step (T' := T251) (g' := (mkF m 110 #[va a, vi dc, vi fq, vi f_length] [])) st256 ?_
  exact own_ret X283 hx hlk Bd.returns (hb hby d3_110) (by rw [e254]; exact ⟨_, _, rfl, N284, F280, F281, H40, F260, F261, F262, F263, F264, F265, F266, F267, F268, F269, F270, F271, F272, F273, F274, F275, F276, F277, F278, F279⟩) (by decide) (by decide)
theorem pn_a1 : plainFor (⟨"com/example/sedimenta/sedimenta/Postings", "add", "(II)V"⟩ : MethodName) = true := by first | exact plainFor_of_name (by first | (simp [plainName, overriddenIn]; done) | decide +kernel) | decide +kernel
theorem ef_a1 (m : MethodId) (x0 : Addr) (x1 : Int32) (x2 : Int32) : entryFrame m #[(.ref x0), (.int x1), (.int x2)] 4 = mkF m 0 #[.val (.ref x0), .val (.int x1), .val (.int x2), .unset] [] := by first | (simp [entryFrame, mkF, argsToLocals, Value.category]; done) | rfl
def Q_a1 (Z : State) (a : Addr) (dc fq : Int32) (f_own : Addr) (f_bytes : Value) (f_last : Int32) (f_ownPositions : Value) (f_positionBytes : Value) (f_frequencies : Value) (f_entriesChecked : Int32) (f_documentCount : Int32) (f_length : Int32) (f_count : Int32) (f_first : Int32) (f_firstFrequency : Int32) (f_firstLength : Int32) (f_positionsLength : Int32) (f_positioned : Int32) (f_offset : Int32) (f_positionsOffset : Int32) (f_blocks : Value) (f_source : Value) (f_sourceEntry : Int64) (h0 : Heap) (n0 : Nat) (v : Option Value) (h : Heap) (L : List Loc) : Prop := ∃ (us : List Value) (r : Int32), v = none ∧ Fr n0 L ∧ Keep h0 h [a, f_own] ∧ own_Arl Z h f_own .byte us ∧ own_Ent us f_length (dc - f_last) fq r ∧ Fld Z h a "com/example/sedimenta/sedimenta/Postings" "own" "[B" (.ref f_own) ∧ Fld Z h a "com/example/sedimenta/sedimenta/Postings" "bytes" "[B" f_bytes ∧ Fld Z h a "com/example/sedimenta/sedimenta/Postings" "last" "I" (.int dc) ∧ Fld Z h a "com/example/sedimenta/sedimenta/Postings" "ownPositions" "[B" f_ownPositions ∧ Fld Z h a "com/example/sedimenta/sedimenta/Postings" "positionBytes" "[B" f_positionBytes ∧ Fld Z h a "com/example/sedimenta/sedimenta/Postings" "frequencies" "[I" f_frequencies ∧ Fld Z h a "com/example/sedimenta/sedimenta/Postings" "entriesChecked" "Z" (.int f_entriesChecked) ∧ Fld Z h a "com/example/sedimenta/sedimenta/Postings" "documentCount" "I" (.int f_documentCount) ∧ Fld Z h a "com/example/sedimenta/sedimenta/Postings" "length" "I" (.int r) ∧ Fld Z h a "com/example/sedimenta/sedimenta/Postings" "count" "I" (.int (f_count + (1 : Int32))) ∧ Fld Z h a "com/example/sedimenta/sedimenta/Postings" "first" "I" (.int f_first) ∧ Fld Z h a "com/example/sedimenta/sedimenta/Postings" "firstFrequency" "I" (.int f_firstFrequency) ∧ Fld Z h a "com/example/sedimenta/sedimenta/Postings" "firstLength" "I" (.int f_firstLength) ∧ Fld Z h a "com/example/sedimenta/sedimenta/Postings" "positionsLength" "I" (.int f_positionsLength) ∧ Fld Z h a "com/example/sedimenta/sedimenta/Postings" "positioned" "Z" (.int f_positioned) ∧ Fld Z h a "com/example/sedimenta/sedimenta/Postings" "offset" "I" (.int f_offset) ∧ Fld Z h a "com/example/sedimenta/sedimenta/Postings" "positionsOffset" "I" (.int f_positionsOffset) ∧ Fld Z h a "com/example/sedimenta/sedimenta/Postings" "blocks" "Lcom/example/sedimenta/sedimenta/TermBlocks;" f_blocks ∧ Fld Z h a "com/example/sedimenta/sedimenta/Postings" "source" "Lcom/example/sedimenta/sedimenta/store/StoreInput;" f_source ∧ Fld Z h a "com/example/sedimenta/sedimenta/Postings" "sourceEntry" "J" (.long f_sourceEntry)
set_option maxRecDepth 65536 in
set_option maxHeartbeats 40000000 in
theorem rm_add1 (l : Launch) (Z : State) (a0 : Array Value) (hw : ∀ d ∈ tables_1, d.before a0 Z = true) (ws : List Jvm.Cond) (a : Addr) (dc fq : Int32) (f_own : Addr) (f_bytes : Value) (f_last : Int32) (f_ownPositions : Value) (f_positionBytes : Value) (f_frequencies : Value) (f_entriesChecked : Int32) (f_documentCount : Int32) (f_length : Int32) (f_count : Int32) (f_first : Int32) (f_firstFrequency : Int32) (f_firstLength : Int32) (f_positionsLength : Int32) (f_positioned : Int32) (f_offset : Int32) (f_positionsOffset : Int32) (f_blocks : Value) (f_source : Value) (f_sourceEntry : Int64) (vs : List Value) (h0 : Heap) (n0 : Nat) (Z0 : n0 ≤ h0.size) (E_a : Exa Z h0 a "com/example/sedimenta/sedimenta/Postings") (Ff_own : Fld Z h0 a "com/example/sedimenta/sedimenta/Postings" "own" "[B" (.ref f_own)) (Ff_bytes : Fld Z h0 a "com/example/sedimenta/sedimenta/Postings" "bytes" "[B" f_bytes) (Ff_last : Fld Z h0 a "com/example/sedimenta/sedimenta/Postings" "last" "I" (.int f_last)) (Ff_ownPositions : Fld Z h0 a "com/example/sedimenta/sedimenta/Postings" "ownPositions" "[B" f_ownPositions) (Ff_positionBytes : Fld Z h0 a "com/example/sedimenta/sedimenta/Postings" "positionBytes" "[B" f_positionBytes) (Ff_frequencies : Fld Z h0 a "com/example/sedimenta/sedimenta/Postings" "frequencies" "[I" f_frequencies) (Ff_entriesChecked : Fld Z h0 a "com/example/sedimenta/sedimenta/Postings" "entriesChecked" "Z" (.int f_entriesChecked)) (Ff_documentCount : Fld Z h0 a "com/example/sedimenta/sedimenta/Postings" "documentCount" "I" (.int f_documentCount)) (Ff_length : Fld Z h0 a "com/example/sedimenta/sedimenta/Postings" "length" "I" (.int f_length)) (Ff_count : Fld Z h0 a "com/example/sedimenta/sedimenta/Postings" "count" "I" (.int f_count)) (Ff_first : Fld Z h0 a "com/example/sedimenta/sedimenta/Postings" "first" "I" (.int f_first)) (Ff_firstFrequency : Fld Z h0 a "com/example/sedimenta/sedimenta/Postings" "firstFrequency" "I" (.int f_firstFrequency)) (Ff_firstLength : Fld Z h0 a "com/example/sedimenta/sedimenta/Postings" "firstLength" "I" (.int f_firstLength)) (Ff_positionsLength : Fld Z h0 a "com/example/sedimenta/sedimenta/Postings" "positionsLength" "I" (.int f_positionsLength)) (Ff_positioned : Fld Z h0 a "com/example/sedimenta/sedimenta/Postings" "positioned" "Z" (.int f_positioned)) (Ff_offset : Fld Z h0 a "com/example/sedimenta/sedimenta/Postings" "offset" "I" (.int f_offset)) (Ff_positionsOffset : Fld Z h0 a "com/example/sedimenta/sedimenta/Postings" "positionsOffset" "I" (.int f_positionsOffset)) (Ff_blocks : Fld Z h0 a "com/example/sedimenta/sedimenta/Postings" "blocks" "Lcom/example/sedimenta/sedimenta/TermBlocks;" f_blocks) (Ff_source : Fld Z h0 a "com/example/sedimenta/sedimenta/Postings" "source" "Lcom/example/sedimenta/sedimenta/store/StoreInput;" f_source) (Ff_sourceEntry : Fld Z h0 a "com/example/sedimenta/sedimenta/Postings" "sourceEntry" "J" (.long f_sourceEntry)) (V0 : own_Arl Z h0 f_own .byte vs) (ga : n0 ≤ a) (go : n0 ≤ f_own) (nao : a ≠ f_own) (Hp : own_AP vs dc fq f_length f_last (dc - f_last)) (hc : ¬ f_count = 0) :
    MetFree l (⟨"com/example/sedimenta/sedimenta/Postings", "add", "(II)V"⟩ : MethodName) (head1 (Jvm.Cond.code (⟨"com/example/sedimenta/sedimenta/Postings", "add", "(II)V"⟩ : MethodName) prog_81_method_13_code 4 none :: ws) ({ frames := 4, cells := 0, slots := 0, locals := 64 } : Room)) (fun as_ U => as_ = #[(.ref a), (.int dc), (.int fq)] ∧ Z.Warmed39 U.vm ∧ U.heap = h0) (fun _ _ _ _ _ => True) (fun _ U o U' => ∃ v L, o = .returned v ∧ Q_a1 Z a dc fq f_own f_bytes f_last f_ownPositions f_positionBytes f_frequencies f_entriesChecked f_documentCount f_length f_count f_first f_firstFrequency f_firstLength f_positionsLength f_positioned f_offset f_positionsOffset f_blocks f_source f_sourceEntry h0 n0 v U'.heap L ∧ FrameEnd U o U' L ({ frames := 4, cells := 0, slots := 0, locals := 64 } : Room).cells ({ frames := 4, cells := 0, slots := 0, locals := 64 } : Room).slots) := by
  refine MetFree.of_bodySF pn_a1 hisR ?_
  intro p e s m args below meth c s₁ Bd hml0 hP hK
  obtain ⟨rfl, hZ, hh⟩ := hP
  have hx := Bd.exec
  have hby := Bd.bytes
  have hlk := BodyLoose.notSynchronized Bd
  have hml : c.maxLocals = 4 := hml0
  have hown : s.vm.findClass "com/example/sedimenta/sedimenta/Postings" = some m.cls := findClass_of_methodNamed Bd.named
  have hnm := (name_of_methodNamed Bd.named Bd.method).1
  have X0 : Stand p l e ({ frames := 4, cells := 0, slots := 0, locals := 64 } : Room) s m #[(.ref a), (.int dc), (.int fq)] below meth c s₁ [] 0 0 := Stand.of_body Bd
  have e0 : s₁.heap = h0 := by rw [← hh, Bd.state]; rfl
  have N0 := Fr.nil n0
  refine own_in (ef_a1 m a dc fq) ?_
  show own_Fin p e below s (Q_a1 Z a dc fq f_own f_bytes f_last f_ownPositions f_positionBytes f_frequencies f_entriesChecked f_documentCount f_length f_count f_first f_firstFrequency f_firstLength f_positionsLength f_positioned f_offset f_positionsOffset f_blocks f_source f_sourceEntry h0 n0) 0 0 s₁ (mkF m 0 #[va a, vi dc, vi fq, un] [])
  refine own_step (T' := s₁) (g' := (mkF m 1 #[va a, vi dc, vi fq, un] [(.int dc)])) (fun t_ k_ => XS.iloadN X0.here hx rfl (hb hby d3_0) rfl k_) ?_
  have hk1 : ¬ (dc < 0) := Hp.1
  refine own_step (T' := s₁) (g' := (mkF m 4 #[va a, vi dc, vi fq, un] [])) (fun t_ k_ => XS.ifNo X0.here hx rfl (hb hby d3_1) rfl (XT.i0_lt_f hk1) k_) ?_
  refine own_step (T' := s₁) (g' := (mkF m 5 #[va a, vi dc, vi fq, un] [(.int dc)])) (fun t_ k_ => XS.iloadN X0.here hx rfl (hb hby d3_4) rfl k_) ?_
  refine own_step (T' := s₁) (g' := (mkF m 6 #[va a, vi dc, vi fq, un] [(.ref a), (.int dc)])) (fun t_ k_ => XS.aloadN X0.here hx rfl (hb hby d3_5) rfl rfl k_) ?_
  obtain ⟨T2, X3, e4, st5⟩ := getF X0 hx hZ hown (host := "") (Or.inl (own_w (i := 19) rfl hw)) Via.refl e0 Ff_last (g := (mkF m 6 #[va a, vi dc, vi fq, un] [(.ref a), (.int dc)])) rfl rfl (hb hby d3_6)
  refine own_step (T' := T2) (g' := (mkF m 9 #[va a, vi dc, vi fq, un] [(.int f_last), (.int dc)])) st5 ?_
  have hk6 : f_last < dc := Hp.2.1
  refine own_step (T' := T2) (g' := (mkF m 12 #[va a, vi dc, vi fq, un] [])) (fun t_ k_ => XS.icmpNo X3.here hx rfl (hb hby d3_9) rfl (XT.ii_le_f hk6) k_) ?_
  refine own_step (T' := T2) (g' := (mkF m 13 #[va a, vi dc, vi fq, un] [(.int fq)])) (fun t_ k_ => XS.iloadN X3.here hx rfl (hb hby d3_12) rfl k_) ?_
  refine own_step (T' := T2) (g' := (mkF m 14 #[va a, vi dc, vi fq, un] [(.int (1 : Int32)), (.int fq)])) (fun t_ k_ => XT.iconstV X3.here hx rfl (1 : Int32) (hb hby d3_13) (by decide) k_) ?_
  have hk7 : ¬ (fq < (1 : Int32)) := Hp.2.2.1
  refine own_step (T' := T2) (g' := (mkF m 24 #[va a, vi dc, vi fq, un] [])) (fun t_ k_ => XS.icmpYes X3.here hx rfl (pc0 := 14) (pc' := 24) rfl (hb hby d3_14) rfl (XT.ii_ge_t hk7) (by decide) (by decide) k_) ?_
  refine own_step (T' := T2) (g' := (mkF m 25 #[va a, vi dc, vi fq, un] [(.ref a)])) (fun t_ k_ => XS.aloadN X3.here hx rfl (hb hby d3_24) rfl rfl k_) ?_
  refine own_step (T' := T2) (g' := (mkF m 27 #[va a, vi dc, vi fq, un] [(.int (10 : Int32)), (.ref a)])) (fun t_ k_ => XT.bipushV X3.here hx rfl (10 : Int32) (hb hby d3_25) (by decide) k_) ?_
  obtain ⟨cqc8, qac8, qbc8⟩ := E_a.cell
  obtain ⟨cic8, kic8, iac8, ibc8, -, icc8, -⟩ := Cond.instantiable_spec (mvT (args := #[(.ref a), (.int dc), (.int fq)]) hZ (own_w (i := 6) rfl hw))
  have hpc8 := Cond.privateMethod_at (mvP (args := #[(.ref a), (.int dc), (.int fq)]) hZ (own_w (i := 40) rfl hw))
  obtain ⟨_, _, ⟨Tc8, Lc8, kc8, nc8⟩, -, Xc8, ⟨Lcc8, hQc8, lc8, yc8, zc8⟩, stc8⟩ := X3.privateBack hx (y := (⟨"com/example/sedimenta/sedimenta/Postings", "room", "(I)V"⟩ : MethodName)) hown (mvT hZ (own_w (i := 38) rfl hw)) (mvT hZ (own_w (i := 39) rfl hw)) (selects_self_of_private iac8 ibc8 (own_noface icc8) hpc8 (mvT hZ (own_w (i := 39) rfl hw)) (by decide)) hpc8 (mvT hZ (own_w (i := 41) rfl hw)) (by decide) (backOf (W := 0) (rm_room l Z a0 hw [] a f_own f_length vs h0 n0 Z0 Ff_own Ff_length V0 Hp.2.2.2.1 Hp.2.2.2.2.1 Hp.2.2.2.2.2.1) hZ (own_w (i := 41) rfl hw) (own_w (i := 7) rfl hw) (by decide) (by decide)) (g := (mkF m 27 #[va a, vi dc, vi fq, un] [(.int (10 : Int32)), (.ref a)])) rfl (by rw [hml]; rfl) (Steps.refl _) (a := a) (by rw [e4]; exact qac8) qbc8 (argsL := [(.int (10 : Int32))]) (rest := []) (lenOf pd_3 rfl) rfl (by show 2 * 0 + _ ≤ _; exact Nat.le_of_eq rfl) (hb hby d3_27) (fun _ _ => ⟨rfl, e4, (by decide : 0 + 0 ≤ _), (by decide : 0 + 0 ≤ _)⟩)
  dsimp only [Pt.U, Pt.locs, Pt.cells, Pt.slots] at Xc8 lc8 yc8 zc8 stc8 hQc8
  subst lc8 yc8 zc8
  have X9 := Xc8.more (cells' := 0) (slots' := 0) (by decide) (by decide)
  obtain ⟨rfl, N10, e11⟩ := hQc8
  have N12 := Fr.app N0 N10
  obtain ⟨Lo13, X14, N15⟩ : ∃ Lo_, Stand p l e ({ frames := 4, cells := 0, slots := 0, locals := 64 } : Room) s m #[(.ref a), (.int dc), (.int fq)] below meth c Tc8 Lo_ 0 0 ∧ Fr n0 Lo_ := ⟨_, X9, N12⟩
  refine own_step (T' := Tc8) (g' := (mkF m 30 #[va a, vi dc, vi fq, un] [])) (fun t_ k_ => stc8.trans k_) ?_
  refine own_step (T' := Tc8) (g' := (mkF m 31 #[va a, vi dc, vi fq, un] [(.ref a)])) (fun t_ k_ => XS.aloadN X14.here hx rfl (hb hby d3_30) rfl rfl k_) ?_
  obtain ⟨T16, X17, e18, st19⟩ := getF X14 hx hZ hown (host := "") (Or.inl (own_w (i := 42) rfl hw)) Via.refl e11 Ff_length (g := (mkF m 31 #[va a, vi dc, vi fq, un] [(.ref a)])) rfl rfl (hb hby d3_31)
  refine own_step (T' := T16) (g' := (mkF m 34 #[va a, vi dc, vi fq, un] [(.int f_length)])) st19 ?_
  refine own_step (T' := T16) (g' := (mkF m 35 #[va a, vi dc, vi fq, vi f_length] [])) (fun t_ k_ => XS.istoreN X17.here hx rfl (hb hby d3_34) rfl (l' := #[va a, vi dc, vi fq, vi f_length]) rfl k_) ?_
  refine own_step (T' := T16) (g' := (mkF m 36 #[va a, vi dc, vi fq, vi f_length] [(.ref a)])) (fun t_ k_ => XS.aloadN X17.here hx rfl (hb hby d3_35) rfl rfl k_) ?_
  refine own_step (T' := T16) (g' := (mkF m 37 #[va a, vi dc, vi fq, vi f_length] [(.ref a), (.ref a)])) (fun t_ k_ => XS.aloadN X17.here hx rfl (hb hby d3_36) rfl rfl k_) ?_
  obtain ⟨T20, X21, e22, st23⟩ := getF X17 hx hZ hown (host := "") (Or.inl (own_w (i := 15) rfl hw)) Via.refl e18 Ff_own (g := (mkF m 37 #[va a, vi dc, vi fq, vi f_length] [(.ref a), (.ref a)])) rfl rfl (hb hby d3_37)
  refine own_step (T' := T20) (g' := (mkF m 40 #[va a, vi dc, vi fq, vi f_length] [(.ref f_own), (.ref a)])) st23 ?_
  refine own_step (T' := T20) (g' := (mkF m 41 #[va a, vi dc, vi fq, vi f_length] [(.ref a), (.ref f_own), (.ref a)])) (fun t_ k_ => XS.aloadN X21.here hx rfl (hb hby d3_40) rfl rfl k_) ?_
  obtain ⟨T24, X25, e26, st27⟩ := getF X21 hx hZ hown (host := "") (Or.inl (own_w (i := 42) rfl hw)) Via.refl e22 Ff_length (g := (mkF m 41 #[va a, vi dc, vi fq, vi f_length] [(.ref a), (.ref f_own), (.ref a)])) rfl rfl (hb hby d3_41)
  refine own_step (T' := T24) (g' := (mkF m 44 #[va a, vi dc, vi fq, vi f_length] [(.int f_length), (.ref f_own), (.ref a)])) st27 ?_
  refine own_step (T' := T24) (g' := (mkF m 45 #[va a, vi dc, vi fq, vi f_length] [(.ref a), (.int f_length), (.ref f_own), (.ref a)])) (fun t_ k_ => XS.aloadN X25.here hx rfl (hb hby d3_44) rfl rfl k_) ?_
  obtain ⟨T28, X29, e30, st31⟩ := getF X25 hx hZ hown (host := "") (Or.inl (own_w (i := 44) rfl hw)) Via.refl e26 Ff_count (g := (mkF m 45 #[va a, vi dc, vi fq, vi f_length] [(.ref a), (.int f_length), (.ref f_own), (.ref a)])) rfl rfl (hb hby d3_45)
  refine own_step (T' := T28) (g' := (mkF m 48 #[va a, vi dc, vi fq, vi f_length] [(.int f_count), (.int f_length), (.ref f_own), (.ref a)])) st31 ?_
  have hk32 : ¬ (f_count = 0) := hc
  refine own_step (T' := T28) (g' := (mkF m 55 #[va a, vi dc, vi fq, vi f_length] [(.int f_length), (.ref f_own), (.ref a)])) (fun t_ k_ => XS.ifYes X29.here hx rfl (pc0 := 48) (pc' := 55) rfl (hb hby d3_48) rfl (XT.i0_ne_t hk32) (by decide) (by decide) k_) ?_
  refine own_step (T' := T28) (g' := (mkF m 56 #[va a, vi dc, vi fq, vi f_length] [(.int dc), (.int f_length), (.ref f_own), (.ref a)])) (fun t_ k_ => XS.iloadN X29.here hx rfl (hb hby d3_55) rfl k_) ?_
  refine own_step (T' := T28) (g' := (mkF m 57 #[va a, vi dc, vi fq, vi f_length] [(.ref a), (.int dc), (.int f_length), (.ref f_own), (.ref a)])) (fun t_ k_ => XS.aloadN X29.here hx rfl (hb hby d3_56) rfl rfl k_) ?_
  obtain ⟨T33, X34, e35, st36⟩ := getF X29 hx hZ hown (host := "") (Or.inl (own_w (i := 19) rfl hw)) Via.refl e30 Ff_last (g := (mkF m 57 #[va a, vi dc, vi fq, vi f_length] [(.ref a), (.int dc), (.int f_length), (.ref f_own), (.ref a)])) rfl rfl (hb hby d3_57)
  refine own_step (T' := T33) (g' := (mkF m 60 #[va a, vi dc, vi fq, vi f_length] [(.int f_last), (.int dc), (.int f_length), (.ref f_own), (.ref a)])) st36 ?_
  refine own_step (T' := T33) (g' := (mkF m 61 #[va a, vi dc, vi fq, vi f_length] [(.int (dc - f_last)), (.int f_length), (.ref f_own), (.ref a)])) (fun t_ k_ => XS.isub X34.here hx rfl (hb hby d3_60) rfl k_) ?_
  refine own_step (T' := T33) (g' := (mkF m 62 #[va a, vi dc, vi fq, vi f_length] [(.int fq), (.int (dc - f_last)), (.int f_length), (.ref f_own), (.ref a)])) (fun t_ k_ => XS.iloadN X34.here hx rfl (hb hby d3_61) rfl k_) ?_
  obtain ⟨_, _, ⟨Tc37, Lc37, kc37, nc37⟩, -, Xc37, ⟨Lcc37, hQc37, lc37, yc37, zc37⟩, stc37⟩ := Jvm.LawKit.callS X34 hx (y := (⟨"com/example/sedimenta/sedimenta/Postings", "putEntry", "([BIII)I"⟩ : MethodName)) hown (mvT hZ (own_w (i := 46) rfl hw)) (mvT hZ (own_w (i := 47) rfl hw)) (mvT hZ (own_w (i := 7) rfl hw)) (mvT hZ (own_w (i := 48) rfl hw)) (by decide) (backOf (W := 1) (rm_pe l Z a0 hw [] f_own f_length (dc - f_last) fq vs h0 n0 Z0 V0 go Hp.2.2.2) hZ (own_w (i := 48) rfl hw) (own_w (i := 7) rfl hw) (by decide) (by decide)) (g := (mkF m 62 #[va a, vi dc, vi fq, vi f_length] [(.int fq), (.int (dc - f_last)), (.int f_length), (.ref f_own), (.ref a)])) rfl (by rw [hml]; rfl) (argsL := [(.ref f_own), (.int f_length), (.int (dc - f_last)), (.int fq)]) (rest := [(.ref a)]) (lenOf pd_4 rfl) rfl (by show 2 * 0 + _ ≤ _; exact Nat.le_of_eq rfl) (hb hby d3_62) (fun _ _ => ⟨rfl, e35, (by decide : 0 + 0 ≤ _), (by decide : 0 + 0 ≤ _)⟩)
  dsimp only [Pt.U, Pt.locs, Pt.cells, Pt.slots] at Xc37 lc37 yc37 zc37 stc37 hQc37
  subst lc37 yc37 zc37
  have X38 := Xc37.more (cells' := 0) (slots' := 0) (by decide) (by decide)
  obtain ⟨us39, r40, rfl, N41, K42, V43, H44⟩ := hQc37
  have N45 := Fr.app N15 N41
  have F46 := Nat.le_trans Z0 K42.1
  have F47 := E_a.keep K42
  have F48 := Ff_own.keep K42 (ninS nao nin0)
  have F49 := Ff_bytes.keep K42 (ninS nao nin0)
  have F50 := Ff_last.keep K42 (ninS nao nin0)
  have F51 := Ff_ownPositions.keep K42 (ninS nao nin0)
  have F52 := Ff_positionBytes.keep K42 (ninS nao nin0)
  have F53 := Ff_frequencies.keep K42 (ninS nao nin0)
  have F54 := Ff_entriesChecked.keep K42 (ninS nao nin0)
  have F55 := Ff_documentCount.keep K42 (ninS nao nin0)
  have F56 := Ff_length.keep K42 (ninS nao nin0)
  have F57 := Ff_count.keep K42 (ninS nao nin0)
  have F58 := Ff_first.keep K42 (ninS nao nin0)
  have F59 := Ff_firstFrequency.keep K42 (ninS nao nin0)
  have F60 := Ff_firstLength.keep K42 (ninS nao nin0)
  have F61 := Ff_positionsLength.keep K42 (ninS nao nin0)
  have F62 := Ff_positioned.keep K42 (ninS nao nin0)
  have F63 := Ff_offset.keep K42 (ninS nao nin0)
  have F64 := Ff_positionsOffset.keep K42 (ninS nao nin0)
  have F65 := Ff_blocks.keep K42 (ninS nao nin0)
  have F66 := Ff_source.keep K42 (ninS nao nin0)
  have F67 := Ff_sourceEntry.keep K42 (ninS nao nin0)
  have F68 := (Keep.refl h0 [a, f_own]).trans K42 (allS (Or.inl (List.mem_of_getElem? (i := 1) rfl)) all0)
  obtain ⟨Lo69, X70, N71⟩ : ∃ Lo_, Stand p l e ({ frames := 4, cells := 0, slots := 0, locals := 64 } : Room) s m #[(.ref a), (.int dc), (.int fq)] below meth c Tc37 Lo_ 0 0 ∧ Fr n0 Lo_ := ⟨_, X38, N45⟩
  refine own_step (T' := Tc37) (g' := (mkF m 65 #[va a, vi dc, vi fq, vi f_length] [(.int r40), (.ref a)])) stc37 ?_
  obtain ⟨T72, h73, X74, e75, W76, st77⟩ := putF X70 hx hZ hown (host := "") (Or.inl (own_w (i := 42) rfl hw)) Via.refl rfl F56 F47 (Or.inl (own_w (i := 43) rfl hw)) (own_w (i := 6) rfl hw) (ty := .int) (by decide) rfl rfl (g := (mkF m 65 #[va a, vi dc, vi fq, vi f_length] [(.int r40), (.ref a)])) rfl rfl (hb hby d3_65)
  have N78 := Fr.snoc X74 N71 ga
  have F79 := Nat.le_trans F46 (Keep.of_wr W76).1
  have F80 := F47.wr W76
  have F81 := F48.other W76 (Or.inr (own_so (lf16 hw) (lf43 hw) (by decide)))
  have F82 := F49.other W76 (Or.inr (own_so (lf18 hw) (lf43 hw) (by decide)))
  have F83 := F50.other W76 (Or.inr (own_so (lf20 hw) (lf43 hw) (by decide)))
  have F84 := F51.other W76 (Or.inr (own_so (lf22 hw) (lf43 hw) (by decide)))
  have F85 := F52.other W76 (Or.inr (own_so (lf24 hw) (lf43 hw) (by decide)))
  have F86 := F53.other W76 (Or.inr (own_so (lf27 hw) (lf43 hw) (by decide)))
  have F87 := F54.other W76 (Or.inr (own_so (lf29 hw) (lf43 hw) (by decide)))
  have F88 := F55.other W76 (Or.inr (own_so (lf32 hw) (lf43 hw) (by decide)))
  have F89 : Fld Z h73 a "com/example/sedimenta/sedimenta/Postings" "length" "I" (.int r40) := F56.same W76
  have F90 := F57.other W76 (Or.inr (own_so (lf45 hw) (lf43 hw) (by decide)))
  have F91 := F58.other W76 (Or.inr (own_so (lf57 hw) (lf43 hw) (by decide)))
  have F92 := F59.other W76 (Or.inr (own_so (lf59 hw) (lf43 hw) (by decide)))
  have F93 := F60.other W76 (Or.inr (own_so (lf61 hw) (lf43 hw) (by decide)))
  have F94 := F61.other W76 (Or.inr (own_so (lf72 hw) (lf43 hw) (by decide)))
  have F95 := F62.other W76 (Or.inr (own_so (lf78 hw) (lf43 hw) (by decide)))
  have F96 := F63.other W76 (Or.inr (own_so (lf85 hw) (lf43 hw) (by decide)))
  have F97 := F64.other W76 (Or.inr (own_so (lf87 hw) (lf43 hw) (by decide)))
  have F98 := F65.other W76 (Or.inr (own_so (lf89 hw) (lf43 hw) (by decide)))
  have F99 := F66.other W76 (Or.inr (own_so (lf91 hw) (lf43 hw) (by decide)))
  have F100 := F67.other W76 (Or.inr (own_so (lf93 hw) (lf43 hw) (by decide)))
  have F101 := F68.wr W76 (Or.inl (List.mem_of_getElem? (i := 0) rfl))
  have F102 := V43.other W76 (Ne.symm nao)
  obtain ⟨Lo103, X104, N105⟩ : ∃ Lo_, Stand p l e ({ frames := 4, cells := 0, slots := 0, locals := 64 } : Room) s m #[(.ref a), (.int dc), (.int fq)] below meth c T72 Lo_ 0 0 ∧ Fr n0 Lo_ := ⟨_, X74, N78⟩
  refine own_step (T' := T72) (g' := (mkF m 68 #[va a, vi dc, vi fq, vi f_length] [])) st77 ?_
  refine own_step (T' := T72) (g' := (mkF m 69 #[va a, vi dc, vi fq, vi f_length] [(.ref a)])) (fun t_ k_ => XS.aloadN X104.here hx rfl (hb hby d3_68) rfl rfl k_) ?_
  obtain ⟨T106, X107, e108, st109⟩ := getF X104 hx hZ hown (host := "") (Or.inl (own_w (i := 44) rfl hw)) Via.refl e75 F90 (g := (mkF m 69 #[va a, vi dc, vi fq, vi f_length] [(.ref a)])) rfl rfl (hb hby d3_69)
  refine own_step (T' := T106) (g' := (mkF m 72 #[va a, vi dc, vi fq, vi f_length] [(.int f_count)])) st109 ?_
  have hk110 : ¬ (f_count = 0) := hc
  refine own_step (T' := T106) (g' := (mkF m 95 #[va a, vi dc, vi fq, vi f_length] [])) (fun t_ k_ => XS.ifYes X107.here hx rfl (pc0 := 72) (pc' := 95) rfl (hb hby d3_72) rfl (XT.i0_ne_t hk110) (by decide) (by decide) k_) ?_
  refine own_step (T' := T106) (g' := (mkF m 96 #[va a, vi dc, vi fq, vi f_length] [(.ref a)])) (fun t_ k_ => XS.aloadN X107.here hx rfl (hb hby d3_95) rfl rfl k_) ?_
  refine own_step (T' := T106) (g' := (mkF m 97 #[va a, vi dc, vi fq, vi f_length] [(.ref a), (.ref a)])) (fun t_ k_ => XS.dup X107.here hx rfl (hb hby d3_96) rfl rfl k_) ?_
  obtain ⟨T111, X112, e113, st114⟩ := getF X107 hx hZ hown (host := "") (Or.inl (own_w (i := 44) rfl hw)) Via.refl e108 F90 (g := (mkF m 97 #[va a, vi dc, vi fq, vi f_length] [(.ref a), (.ref a)])) rfl rfl (hb hby d3_97)
  refine own_step (T' := T111) (g' := (mkF m 100 #[va a, vi dc, vi fq, vi f_length] [(.int f_count), (.ref a)])) st114 ?_
  refine own_step (T' := T111) (g' := (mkF m 101 #[va a, vi dc, vi fq, vi f_length] [(.int (1 : Int32)), (.int f_count), (.ref a)])) (fun t_ k_ => XT.iconstV X112.here hx rfl (1 : Int32) (hb hby d3_100) (by decide) k_) ?_
  refine own_step (T' := T111) (g' := (mkF m 102 #[va a, vi dc, vi fq, vi f_length] [(.int (f_count + (1 : Int32))), (.ref a)])) (fun t_ k_ => XS.iadd X112.here hx rfl (hb hby d3_101) rfl k_) ?_
  obtain ⟨T115, h116, X117, e118, W119, st120⟩ := putF X112 hx hZ hown (host := "") (Or.inl (own_w (i := 44) rfl hw)) Via.refl e113 F90 F80 (Or.inl (own_w (i := 45) rfl hw)) (own_w (i := 6) rfl hw) (ty := .int) (by decide) rfl rfl (g := (mkF m 102 #[va a, vi dc, vi fq, vi f_length] [(.int (f_count + (1 : Int32))), (.ref a)])) rfl rfl (hb hby d3_102)
  have N121 := Fr.snoc X117 N105 ga
  have F122 := Nat.le_trans F79 (Keep.of_wr W119).1
  have F123 := F80.wr W119
  have F124 := F81.other W119 (Or.inr (own_so (lf16 hw) (lf45 hw) (by decide)))
  have F125 := F82.other W119 (Or.inr (own_so (lf18 hw) (lf45 hw) (by decide)))
  have F126 := F83.other W119 (Or.inr (own_so (lf20 hw) (lf45 hw) (by decide)))
  have F127 := F84.other W119 (Or.inr (own_so (lf22 hw) (lf45 hw) (by decide)))
  have F128 := F85.other W119 (Or.inr (own_so (lf24 hw) (lf45 hw) (by decide)))
  have F129 := F86.other W119 (Or.inr (own_so (lf27 hw) (lf45 hw) (by decide)))
  have F130 := F87.other W119 (Or.inr (own_so (lf29 hw) (lf45 hw) (by decide)))
  have F131 := F88.other W119 (Or.inr (own_so (lf32 hw) (lf45 hw) (by decide)))
  have F132 := F89.other W119 (Or.inr (own_so (lf43 hw) (lf45 hw) (by decide)))
  have F133 : Fld Z h116 a "com/example/sedimenta/sedimenta/Postings" "count" "I" (.int (f_count + (1 : Int32))) := F90.same W119
  have F134 := F91.other W119 (Or.inr (own_so (lf57 hw) (lf45 hw) (by decide)))
  have F135 := F92.other W119 (Or.inr (own_so (lf59 hw) (lf45 hw) (by decide)))
  have F136 := F93.other W119 (Or.inr (own_so (lf61 hw) (lf45 hw) (by decide)))
  have F137 := F94.other W119 (Or.inr (own_so (lf72 hw) (lf45 hw) (by decide)))
  have F138 := F95.other W119 (Or.inr (own_so (lf78 hw) (lf45 hw) (by decide)))
  have F139 := F96.other W119 (Or.inr (own_so (lf85 hw) (lf45 hw) (by decide)))
  have F140 := F97.other W119 (Or.inr (own_so (lf87 hw) (lf45 hw) (by decide)))
  have F141 := F98.other W119 (Or.inr (own_so (lf89 hw) (lf45 hw) (by decide)))
  have F142 := F99.other W119 (Or.inr (own_so (lf91 hw) (lf45 hw) (by decide)))
  have F143 := F100.other W119 (Or.inr (own_so (lf93 hw) (lf45 hw) (by decide)))
  have F144 := F101.wr W119 (Or.inl (List.mem_of_getElem? (i := 0) rfl))
  have F145 := F102.other W119 (Ne.symm nao)
  obtain ⟨Lo146, X147, N148⟩ : ∃ Lo_, Stand p l e ({ frames := 4, cells := 0, slots := 0, locals := 64 } : Room) s m #[(.ref a), (.int dc), (.int fq)] below meth c T115 Lo_ 0 0 ∧ Fr n0 Lo_ := ⟨_, X117, N121⟩
  refine own_step (T' := T115) (g' := (mkF m 105 #[va a, vi dc, vi fq, vi f_length] [])) st120 ?_
  refine own_step (T' := T115) (g' := (mkF m 106 #[va a, vi dc, vi fq, vi f_length] [(.ref a)])) (fun t_ k_ => XS.aloadN X147.here hx rfl (hb hby d3_105) rfl rfl k_) ?_
  refine own_step (T' := T115) (g' := (mkF m 107 #[va a, vi dc, vi fq, vi f_length] [(.int dc), (.ref a)])) (fun t_ k_ => XS.iloadN X147.here hx rfl (hb hby d3_106) rfl k_) ?_
  obtain ⟨T149, h150, X151, e152, W153, st154⟩ := putF X147 hx hZ hown (host := "") (Or.inl (own_w (i := 19) rfl hw)) Via.refl e118 F126 F123 (Or.inl (own_w (i := 20) rfl hw)) (own_w (i := 6) rfl hw) (ty := .int) (by decide) rfl rfl (g := (mkF m 107 #[va a, vi dc, vi fq, vi f_length] [(.int dc), (.ref a)])) rfl rfl (hb hby d3_107)
  have N155 := Fr.snoc X151 N148 ga
  have F156 := Nat.le_trans F122 (Keep.of_wr W153).1
  have F157 := F123.wr W153
  have F158 := F124.other W153 (Or.inr (own_so (lf16 hw) (lf20 hw) (by decide)))
  have F159 := F125.other W153 (Or.inr (own_so (lf18 hw) (lf20 hw) (by decide)))
  have F160 : Fld Z h150 a "com/example/sedimenta/sedimenta/Postings" "last" "I" (.int dc) := F126.same W153
  have F161 := F127.other W153 (Or.inr (own_so (lf22 hw) (lf20 hw) (by decide)))
  have F162 := F128.other W153 (Or.inr (own_so (lf24 hw) (lf20 hw) (by decide)))
  have F163 := F129.other W153 (Or.inr (own_so (lf27 hw) (lf20 hw) (by decide)))
  have F164 := F130.other W153 (Or.inr (own_so (lf29 hw) (lf20 hw) (by decide)))
  have F165 := F131.other W153 (Or.inr (own_so (lf32 hw) (lf20 hw) (by decide)))
  have F166 := F132.other W153 (Or.inr (own_so (lf43 hw) (lf20 hw) (by decide)))
  have F167 := F133.other W153 (Or.inr (own_so (lf45 hw) (lf20 hw) (by decide)))
  have F168 := F134.other W153 (Or.inr (own_so (lf57 hw) (lf20 hw) (by decide)))
  have F169 := F135.other W153 (Or.inr (own_so (lf59 hw) (lf20 hw) (by decide)))
  have F170 := F136.other W153 (Or.inr (own_so (lf61 hw) (lf20 hw) (by decide)))
  have F171 := F137.other W153 (Or.inr (own_so (lf72 hw) (lf20 hw) (by decide)))
  have F172 := F138.other W153 (Or.inr (own_so (lf78 hw) (lf20 hw) (by decide)))
  have F173 := F139.other W153 (Or.inr (own_so (lf85 hw) (lf20 hw) (by decide)))
  have F174 := F140.other W153 (Or.inr (own_so (lf87 hw) (lf20 hw) (by decide)))
  have F175 := F141.other W153 (Or.inr (own_so (lf89 hw) (lf20 hw) (by decide)))
  have F176 := F142.other W153 (Or.inr (own_so (lf91 hw) (lf20 hw) (by decide)))
  have F177 := F143.other W153 (Or.inr (own_so (lf93 hw) (lf20 hw) (by decide)))
  have F178 := F144.wr W153 (Or.inl (List.mem_of_getElem? (i := 0) rfl))
  have F179 := F145.other W153 (Ne.symm nao)
  obtain ⟨Lo180, X181, N182⟩ : ∃ Lo_, Stand p l e ({ frames := 4, cells := 0, slots := 0, locals := 64 } : Room) s m #[(.ref a), (.int dc), (.int fq)] below meth c T149 Lo_ 0 0 ∧ Fr n0 Lo_ := ⟨_, X151, N155⟩
  refine own_step (T' := T149) (g' := (mkF m 110 #[va a, vi dc, vi fq, vi f_length] [])) st154 ?_
  exact own_ret X181 hx hlk Bd.returns (hb hby d3_110) (by rw [e152]; exact ⟨_, _, rfl, N182, F178, F179, H44, F158, F159, F160, F161, F162, F163, F164, F165, F166, F167, F168, F169, F170, F171, F172, F173, F174, F175, F176, F177⟩) (by decide) (by decide)
theorem d1_0 : decode prog_81_method_1_code 0 = .ok (.aload_n 0, 1) := by decide +kernel
theorem d1_1 : decode prog_81_method_1_code 1 = .ok (.invokespecial 7, 3) := by decide +kernel
theorem d1_4 : decode prog_81_method_1_code 4 = .ok (.aload_n 0, 1) := by decide +kernel
theorem d1_5 : decode prog_81_method_1_code 5 = .ok (.bipush 64, 2) := by decide +kernel
theorem d1_7 : decode prog_81_method_1_code 7 = .ok (.newarray .byte, 2) := by decide +kernel
theorem d1_9 : decode prog_81_method_1_code 9 = .ok (.putfield 13, 3) := by decide +kernel
theorem d1_12 : decode prog_81_method_1_code 12 = .ok (.aload_n 0, 1) := by decide +kernel
theorem d1_13 : decode prog_81_method_1_code 13 = .ok (.aload_n 0, 1) := by decide +kernel
theorem d1_14 : decode prog_81_method_1_code 14 = .ok (.getfield 13, 3) := by decide +kernel
theorem d1_17 : decode prog_81_method_1_code 17 = .ok (.putfield 17, 3) := by decide +kernel
theorem d1_20 : decode prog_81_method_1_code 20 = .ok (.aload_n 0, 1) := by decide +kernel
theorem d1_21 : decode prog_81_method_1_code 21 = .ok (.iconst (-1), 1) := by decide +kernel
theorem d1_22 : decode prog_81_method_1_code 22 = .ok (.putfield 20, 3) := by decide +kernel
theorem d1_25 : decode prog_81_method_1_code 25 = .ok (.aload_n 0, 1) := by decide +kernel
theorem d1_26 : decode prog_81_method_1_code 26 = .ok (.iconst 0, 1) := by decide +kernel
theorem d1_27 : decode prog_81_method_1_code 27 = .ok (.newarray .byte, 2) := by decide +kernel
theorem d1_29 : decode prog_81_method_1_code 29 = .ok (.putfield 24, 3) := by decide +kernel
theorem d1_32 : decode prog_81_method_1_code 32 = .ok (.aload_n 0, 1) := by decide +kernel
theorem d1_33 : decode prog_81_method_1_code 33 = .ok (.aload_n 0, 1) := by decide +kernel
theorem d1_34 : decode prog_81_method_1_code 34 = .ok (.getfield 24, 3) := by decide +kernel
theorem d1_37 : decode prog_81_method_1_code 37 = .ok (.putfield 27, 3) := by decide +kernel
theorem d1_40 : decode prog_81_method_1_code 40 = .ok (.aload_n 0, 1) := by decide +kernel
theorem d1_41 : decode prog_81_method_1_code 41 = .ok (.iconst 0, 1) := by decide +kernel
theorem d1_42 : decode prog_81_method_1_code 42 = .ok (.newarray .int, 2) := by decide +kernel
theorem d1_44 : decode prog_81_method_1_code 44 = .ok (.putfield 30, 3) := by decide +kernel
theorem d1_47 : decode prog_81_method_1_code 47 = .ok (.aload_n 0, 1) := by decide +kernel
theorem d1_48 : decode prog_81_method_1_code 48 = .ok (.iconst 1, 1) := by decide +kernel
theorem d1_49 : decode prog_81_method_1_code 49 = .ok (.putfield 34, 3) := by decide +kernel
theorem d1_52 : decode prog_81_method_1_code 52 = .ok (.aload_n 0, 1) := by decide +kernel
theorem d1_53 : decode prog_81_method_1_code 53 = .ok (.ldc 38, 2) := by decide +kernel
theorem d1_55 : decode prog_81_method_1_code 55 = .ok (.putfield 39, 3) := by decide +kernel
theorem d1_58 : decode prog_81_method_1_code 58 = .ok (.return_, 1) := by decide +kernel
theorem pn_1 : plainFor (⟨"com/example/sedimenta/sedimenta/Postings", "<init>", "()V"⟩ : MethodName) = true := by first | exact plainFor_of_name (by first | (simp [plainName, overriddenIn]; done) | decide +kernel) | decide +kernel
theorem ef_1 (m : MethodId) (x0 : Addr) : entryFrame m #[(.ref x0)] 1 = mkF m 0 #[.val (.ref x0)] [] := by first | (simp [entryFrame, mkF, argsToLocals, Value.category]; done) | rfl
def Q_1 (Z : State) (a : Addr) (h0 : Heap) (n0 : Nat) (v : Option Value) (h : Heap) (L : List Loc) : Prop := ∃ (o q fr : Addr) (kq : ClassId), v = none ∧ Fr n0 L ∧ Keep h0 h [a] ∧ h0.size ≤ o ∧ h0.size ≤ q ∧ o ≠ q ∧ own_Arl Z h o .byte own_Z64 ∧ Arv Z h q kq .byte (0 : Int32) [] (.int (0 : Int32)) ∧ Fld Z h a "com/example/sedimenta/sedimenta/Postings" "own" "[B" (.ref o) ∧ Fld Z h a "com/example/sedimenta/sedimenta/Postings" "bytes" "[B" (.ref o) ∧ Fld Z h a "com/example/sedimenta/sedimenta/Postings" "last" "I" (.int (-1 : Int32)) ∧ Fld Z h a "com/example/sedimenta/sedimenta/Postings" "ownPositions" "[B" (.ref q) ∧ Fld Z h a "com/example/sedimenta/sedimenta/Postings" "positionBytes" "[B" (.ref q) ∧ Fld Z h a "com/example/sedimenta/sedimenta/Postings" "frequencies" "[I" (.ref fr) ∧ Fld Z h a "com/example/sedimenta/sedimenta/Postings" "entriesChecked" "Z" (.int (nar .boolean (1 : Int32))) ∧ Fld Z h a "com/example/sedimenta/sedimenta/Postings" "documentCount" "I" (.int (2147483647 : Int32)) ∧ Fld Z h a "com/example/sedimenta/sedimenta/Postings" "length" "I" (.int (0 : Int32)) ∧ Fld Z h a "com/example/sedimenta/sedimenta/Postings" "count" "I" (.int (0 : Int32)) ∧ Fld Z h a "com/example/sedimenta/sedimenta/Postings" "first" "I" (.int (0 : Int32)) ∧ Fld Z h a "com/example/sedimenta/sedimenta/Postings" "firstFrequency" "I" (.int (0 : Int32)) ∧ Fld Z h a "com/example/sedimenta/sedimenta/Postings" "firstLength" "I" (.int (0 : Int32)) ∧ Fld Z h a "com/example/sedimenta/sedimenta/Postings" "positionsLength" "I" (.int (0 : Int32)) ∧ Fld Z h a "com/example/sedimenta/sedimenta/Postings" "positioned" "Z" (.int (0 : Int32)) ∧ Fld Z h a "com/example/sedimenta/sedimenta/Postings" "offset" "I" (.int (0 : Int32)) ∧ Fld Z h a "com/example/sedimenta/sedimenta/Postings" "positionsOffset" "I" (.int (0 : Int32)) ∧ Fld Z h a "com/example/sedimenta/sedimenta/Postings" "blocks" "Lcom/example/sedimenta/sedimenta/TermBlocks;" .null ∧ Fld Z h a "com/example/sedimenta/sedimenta/Postings" "source" "Lcom/example/sedimenta/sedimenta/store/StoreInput;" .null ∧ Fld Z h a "com/example/sedimenta/sedimenta/Postings" "sourceEntry" "J" (.long (0 : Int64))
set_option maxRecDepth 65536 in
set_option maxHeartbeats 40000000 in
theorem rm_init (l : Launch) (Z : State) (a0 : Array Value) (hw : ∀ d ∈ tables_1, d.before a0 Z = true) (ws : List Jvm.Cond) (a : Addr) (h0 : Heap) (n0 : Nat) (Z0 : n0 ≤ h0.size) (E_a : Exa Z h0 a "com/example/sedimenta/sedimenta/Postings") (Ff_own : Fld Z h0 a "com/example/sedimenta/sedimenta/Postings" "own" "[B" .null) (Ff_bytes : Fld Z h0 a "com/example/sedimenta/sedimenta/Postings" "bytes" "[B" .null) (Ff_last : Fld Z h0 a "com/example/sedimenta/sedimenta/Postings" "last" "I" (.int (0 : Int32))) (Ff_ownPositions : Fld Z h0 a "com/example/sedimenta/sedimenta/Postings" "ownPositions" "[B" .null) (Ff_positionBytes : Fld Z h0 a "com/example/sedimenta/sedimenta/Postings" "positionBytes" "[B" .null) (Ff_frequencies : Fld Z h0 a "com/example/sedimenta/sedimenta/Postings" "frequencies" "[I" .null) (Ff_entriesChecked : Fld Z h0 a "com/example/sedimenta/sedimenta/Postings" "entriesChecked" "Z" (.int (0 : Int32))) (Ff_documentCount : Fld Z h0 a "com/example/sedimenta/sedimenta/Postings" "documentCount" "I" (.int (0 : Int32))) (Ff_length : Fld Z h0 a "com/example/sedimenta/sedimenta/Postings" "length" "I" (.int (0 : Int32))) (Ff_count : Fld Z h0 a "com/example/sedimenta/sedimenta/Postings" "count" "I" (.int (0 : Int32))) (Ff_first : Fld Z h0 a "com/example/sedimenta/sedimenta/Postings" "first" "I" (.int (0 : Int32))) (Ff_firstFrequency : Fld Z h0 a "com/example/sedimenta/sedimenta/Postings" "firstFrequency" "I" (.int (0 : Int32))) (Ff_firstLength : Fld Z h0 a "com/example/sedimenta/sedimenta/Postings" "firstLength" "I" (.int (0 : Int32))) (Ff_positionsLength : Fld Z h0 a "com/example/sedimenta/sedimenta/Postings" "positionsLength" "I" (.int (0 : Int32))) (Ff_positioned : Fld Z h0 a "com/example/sedimenta/sedimenta/Postings" "positioned" "Z" (.int (0 : Int32))) (Ff_offset : Fld Z h0 a "com/example/sedimenta/sedimenta/Postings" "offset" "I" (.int (0 : Int32))) (Ff_positionsOffset : Fld Z h0 a "com/example/sedimenta/sedimenta/Postings" "positionsOffset" "I" (.int (0 : Int32))) (Ff_blocks : Fld Z h0 a "com/example/sedimenta/sedimenta/Postings" "blocks" "Lcom/example/sedimenta/sedimenta/TermBlocks;" .null) (Ff_source : Fld Z h0 a "com/example/sedimenta/sedimenta/Postings" "source" "Lcom/example/sedimenta/sedimenta/store/StoreInput;" .null) (Ff_sourceEntry : Fld Z h0 a "com/example/sedimenta/sedimenta/Postings" "sourceEntry" "J" (.long (0 : Int64))) (ga : n0 ≤ a) :
    MetFree l (⟨"com/example/sedimenta/sedimenta/Postings", "<init>", "()V"⟩ : MethodName) (head1 (Jvm.Cond.code (⟨"com/example/sedimenta/sedimenta/Postings", "<init>", "()V"⟩ : MethodName) prog_81_method_1_code 1 none :: ws) ({ frames := 1, cells := 3, slots := 64, locals := 12 } : Room)) (fun as_ U => as_ = #[(.ref a)] ∧ Z.Warmed39 U.vm ∧ U.heap = h0) (fun _ _ _ _ _ => True) (fun _ U o U' => ∃ v L, o = .returned v ∧ Q_1 Z a h0 n0 v U'.heap L ∧ FrameEnd U o U' L ({ frames := 1, cells := 3, slots := 64, locals := 12 } : Room).cells ({ frames := 1, cells := 3, slots := 64, locals := 12 } : Room).slots) := by
  refine MetFree.of_bodySF pn_1 hisR ?_
  intro p e s m args below meth c s₁ Bd hml0 hP hK
  obtain ⟨rfl, hZ, hh⟩ := hP
  have hx := Bd.exec
  have hby := Bd.bytes
  have hlk := BodyLoose.notSynchronized Bd
  have hml : c.maxLocals = 1 := hml0
  have hown : s.vm.findClass "com/example/sedimenta/sedimenta/Postings" = some m.cls := findClass_of_methodNamed Bd.named
  have hnm := (name_of_methodNamed Bd.named Bd.method).1
  have X0 : Stand p l e ({ frames := 1, cells := 3, slots := 64, locals := 12 } : Room) s m #[(.ref a)] below meth c s₁ [] 0 0 := Stand.of_body Bd
  have e0 : s₁.heap = h0 := by rw [← hh, Bd.state]; rfl
  have N0 := Fr.nil n0
  refine own_in (ef_1 m a) ?_
  show own_Fin p e below s (Q_1 Z a h0 n0) 3 64 s₁ (mkF m 0 #[va a] [])
  refine own_step (T' := s₁) (g' := (mkF m 1 #[va a] [(.ref a)])) (fun t_ k_ => XS.aloadN X0.here hx rfl (hb hby d1_0) rfl rfl k_) ?_
  obtain ⟨T1, X2, e3, st4⟩ := initO X0 hx hZ hown (own_w (i := 11) rfl hw) (own_w (i := 12) rfl hw) (own_w (i := 13) rfl hw) e0 (g := (mkF m 1 #[va a] [(.ref a)])) rfl (by rw [hml]; rfl) rfl (hb hby d1_1) (by decide) (W := 0) (by show 2 * 0 + _ ≤ _; exact Nat.le_of_eq rfl) (by decide)
  refine own_step (T' := T1) (g' := (mkF m 4 #[va a] [])) st4 ?_
  refine own_step (T' := T1) (g' := (mkF m 5 #[va a] [(.ref a)])) (fun t_ k_ => XS.aloadN X2.here hx rfl (hb hby d1_4) rfl rfl k_) ?_
  refine own_step (T' := T1) (g' := (mkF m 7 #[va a] [(.int (64 : Int32)), (.ref a)])) (fun t_ k_ => XT.bipushV X2.here hx rfl (64 : Int32) (hb hby d1_5) (by decide) k_) ?_
  obtain ⟨T5, h6, cA7, X8, e9, E10, A11, st12⟩ := newP X2 hx hZ (own_w (i := 14) rfl hw) e3 (g := (mkF m 7 #[va a] [(.int (64 : Int32)), (.ref a)])) rfl (hb hby d1_7) rfl (by decide) (cap := 64) (by decide) (by decide) (by decide) (by decide)
  obtain ⟨a13, g14⟩ : ∃ z, z = h0.size := ⟨_, rfl⟩
  rw [← g14] at A11 st12
  have q15 : n0 ≤ a13 := Nat.le_trans Z0 (Nat.le_of_eq g14.symm)
  have ne16 : a ≠ a13 := Nat.ne_of_lt (Nat.lt_of_lt_of_le E_a.lt (Nat.le_of_eq g14.symm))
  have F17 := Nat.le_trans Z0 E10.1
  have F18 := E_a.ext E10
  have F19 := Ff_own.ext E10
  have F20 := Ff_bytes.ext E10
  have F21 := Ff_last.ext E10
  have F22 := Ff_ownPositions.ext E10
  have F23 := Ff_positionBytes.ext E10
  have F24 := Ff_frequencies.ext E10
  have F25 := Ff_entriesChecked.ext E10
  have F26 := Ff_documentCount.ext E10
  have F27 := Ff_length.ext E10
  have F28 := Ff_count.ext E10
  have F29 := Ff_first.ext E10
  have F30 := Ff_firstFrequency.ext E10
  have F31 := Ff_firstLength.ext E10
  have F32 := Ff_positionsLength.ext E10
  have F33 := Ff_positioned.ext E10
  have F34 := Ff_offset.ext E10
  have F35 := Ff_positionsOffset.ext E10
  have F36 := Ff_blocks.ext E10
  have F37 := Ff_source.ext E10
  have F38 := Ff_sourceEntry.ext E10
  have F39 := (Keep.refl h0 [a]).ext E10
  have V40 : own_Arl Z h6 a13 .byte (List.replicate 64 (.int (0 : Int32))) := own_Arl.of_new A11 (i := 64) (by decide)
  have V41 : Arv Z h6 a13 cA7 .byte (64 : Int32) [] (.int (0 : Int32)) := Arv.new A11 (by decide)
  refine own_step (T' := T5) (g' := (mkF m 9 #[va a] [(.ref a13), (.ref a)])) st12 ?_
  obtain ⟨T42, h43, X44, e45, W46, st47⟩ := putF X8 hx hZ hown (host := "") (Or.inl (own_w (i := 15) rfl hw)) Via.refl e9 F19 F18 (Or.inl (own_w (i := 16) rfl hw)) (own_w (i := 6) rfl hw) (ty := (.array .byte)) (by decide) rfl rfl (g := (mkF m 9 #[va a] [(.ref a13), (.ref a)])) rfl rfl (hb hby d1_9)
  have N48 := Fr.snoc X44 N0 ga
  have F49 := Nat.le_trans F17 (Keep.of_wr W46).1
  have F50 := F18.wr W46
  have F51 : Fld Z h43 a "com/example/sedimenta/sedimenta/Postings" "own" "[B" (.ref a13) := F19.same W46
  have F52 := F20.other W46 (Or.inr (own_so (lf18 hw) (lf16 hw) (by decide)))
  have F53 := F21.other W46 (Or.inr (own_so (lf20 hw) (lf16 hw) (by decide)))
  have F54 := F22.other W46 (Or.inr (own_so (lf22 hw) (lf16 hw) (by decide)))
  have F55 := F23.other W46 (Or.inr (own_so (lf24 hw) (lf16 hw) (by decide)))
  have F56 := F24.other W46 (Or.inr (own_so (lf27 hw) (lf16 hw) (by decide)))
  have F57 := F25.other W46 (Or.inr (own_so (lf29 hw) (lf16 hw) (by decide)))
  have F58 := F26.other W46 (Or.inr (own_so (lf32 hw) (lf16 hw) (by decide)))
  have F59 := F27.other W46 (Or.inr (own_so (lf43 hw) (lf16 hw) (by decide)))
  have F60 := F28.other W46 (Or.inr (own_so (lf45 hw) (lf16 hw) (by decide)))
  have F61 := F29.other W46 (Or.inr (own_so (lf57 hw) (lf16 hw) (by decide)))
  have F62 := F30.other W46 (Or.inr (own_so (lf59 hw) (lf16 hw) (by decide)))
  have F63 := F31.other W46 (Or.inr (own_so (lf61 hw) (lf16 hw) (by decide)))
  have F64 := F32.other W46 (Or.inr (own_so (lf72 hw) (lf16 hw) (by decide)))
  have F65 := F33.other W46 (Or.inr (own_so (lf78 hw) (lf16 hw) (by decide)))
  have F66 := F34.other W46 (Or.inr (own_so (lf85 hw) (lf16 hw) (by decide)))
  have F67 := F35.other W46 (Or.inr (own_so (lf87 hw) (lf16 hw) (by decide)))
  have F68 := F36.other W46 (Or.inr (own_so (lf89 hw) (lf16 hw) (by decide)))
  have F69 := F37.other W46 (Or.inr (own_so (lf91 hw) (lf16 hw) (by decide)))
  have F70 := F38.other W46 (Or.inr (own_so (lf93 hw) (lf16 hw) (by decide)))
  have F71 := F39.wr W46 (Or.inl (List.mem_of_getElem? (i := 0) rfl))
  have F72 := V40.other W46 (Ne.symm ne16)
  have F73 := V41.other W46 (Ne.symm ne16)
  obtain ⟨Lo74, X75, N76⟩ : ∃ Lo_, Stand p l e ({ frames := 1, cells := 3, slots := 64, locals := 12 } : Room) s m #[(.ref a)] below meth c T42 Lo_ 1 64 ∧ Fr n0 Lo_ := ⟨_, X44, N48⟩
  refine own_step (T' := T42) (g' := (mkF m 12 #[va a] [])) st47 ?_
  refine own_step (T' := T42) (g' := (mkF m 13 #[va a] [(.ref a)])) (fun t_ k_ => XS.aloadN X75.here hx rfl (hb hby d1_12) rfl rfl k_) ?_
  refine own_step (T' := T42) (g' := (mkF m 14 #[va a] [(.ref a), (.ref a)])) (fun t_ k_ => XS.aloadN X75.here hx rfl (hb hby d1_13) rfl rfl k_) ?_
  obtain ⟨T77, X78, e79, st80⟩ := getF X75 hx hZ hown (host := "") (Or.inl (own_w (i := 15) rfl hw)) Via.refl e45 F51 (g := (mkF m 14 #[va a] [(.ref a), (.ref a)])) rfl rfl (hb hby d1_14)
  refine own_step (T' := T77) (g' := (mkF m 17 #[va a] [(.ref a13), (.ref a)])) st80 ?_
  obtain ⟨T81, h82, X83, e84, W85, st86⟩ := putF X78 hx hZ hown (host := "") (Or.inl (own_w (i := 17) rfl hw)) Via.refl e79 F52 F50 (Or.inl (own_w (i := 18) rfl hw)) (own_w (i := 6) rfl hw) (ty := (.array .byte)) (by decide) rfl rfl (g := (mkF m 17 #[va a] [(.ref a13), (.ref a)])) rfl rfl (hb hby d1_17)
  have N87 := Fr.snoc X83 N76 ga
  have F88 := Nat.le_trans F49 (Keep.of_wr W85).1
  have F89 := F50.wr W85
  have F90 := F51.other W85 (Or.inr (own_so (lf16 hw) (lf18 hw) (by decide)))
  have F91 : Fld Z h82 a "com/example/sedimenta/sedimenta/Postings" "bytes" "[B" (.ref a13) := F52.same W85
  have F92 := F53.other W85 (Or.inr (own_so (lf20 hw) (lf18 hw) (by decide)))
  have F93 := F54.other W85 (Or.inr (own_so (lf22 hw) (lf18 hw) (by decide)))
  have F94 := F55.other W85 (Or.inr (own_so (lf24 hw) (lf18 hw) (by decide)))
  have F95 := F56.other W85 (Or.inr (own_so (lf27 hw) (lf18 hw) (by decide)))
  have F96 := F57.other W85 (Or.inr (own_so (lf29 hw) (lf18 hw) (by decide)))
  have F97 := F58.other W85 (Or.inr (own_so (lf32 hw) (lf18 hw) (by decide)))
  have F98 := F59.other W85 (Or.inr (own_so (lf43 hw) (lf18 hw) (by decide)))
  have F99 := F60.other W85 (Or.inr (own_so (lf45 hw) (lf18 hw) (by decide)))
  have F100 := F61.other W85 (Or.inr (own_so (lf57 hw) (lf18 hw) (by decide)))
  have F101 := F62.other W85 (Or.inr (own_so (lf59 hw) (lf18 hw) (by decide)))
  have F102 := F63.other W85 (Or.inr (own_so (lf61 hw) (lf18 hw) (by decide)))
  have F103 := F64.other W85 (Or.inr (own_so (lf72 hw) (lf18 hw) (by decide)))
  have F104 := F65.other W85 (Or.inr (own_so (lf78 hw) (lf18 hw) (by decide)))
  have F105 := F66.other W85 (Or.inr (own_so (lf85 hw) (lf18 hw) (by decide)))
  have F106 := F67.other W85 (Or.inr (own_so (lf87 hw) (lf18 hw) (by decide)))
  have F107 := F68.other W85 (Or.inr (own_so (lf89 hw) (lf18 hw) (by decide)))
  have F108 := F69.other W85 (Or.inr (own_so (lf91 hw) (lf18 hw) (by decide)))
  have F109 := F70.other W85 (Or.inr (own_so (lf93 hw) (lf18 hw) (by decide)))
  have F110 := F71.wr W85 (Or.inl (List.mem_of_getElem? (i := 0) rfl))
  have F111 := F72.other W85 (Ne.symm ne16)
  have F112 := F73.other W85 (Ne.symm ne16)
  obtain ⟨Lo113, X114, N115⟩ : ∃ Lo_, Stand p l e ({ frames := 1, cells := 3, slots := 64, locals := 12 } : Room) s m #[(.ref a)] below meth c T81 Lo_ 1 64 ∧ Fr n0 Lo_ := ⟨_, X83, N87⟩
  refine own_step (T' := T81) (g' := (mkF m 20 #[va a] [])) st86 ?_
  refine own_step (T' := T81) (g' := (mkF m 21 #[va a] [(.ref a)])) (fun t_ k_ => XS.aloadN X114.here hx rfl (hb hby d1_20) rfl rfl k_) ?_
  refine own_step (T' := T81) (g' := (mkF m 22 #[va a] [(.int (-1 : Int32)), (.ref a)])) (fun t_ k_ => XT.iconstV X114.here hx rfl (-1 : Int32) (hb hby d1_21) (by decide) k_) ?_
  obtain ⟨T116, h117, X118, e119, W120, st121⟩ := putF X114 hx hZ hown (host := "") (Or.inl (own_w (i := 19) rfl hw)) Via.refl e84 F92 F89 (Or.inl (own_w (i := 20) rfl hw)) (own_w (i := 6) rfl hw) (ty := .int) (by decide) rfl rfl (g := (mkF m 22 #[va a] [(.int (-1 : Int32)), (.ref a)])) rfl rfl (hb hby d1_22)
  have N122 := Fr.snoc X118 N115 ga
  have F123 := Nat.le_trans F88 (Keep.of_wr W120).1
  have F124 := F89.wr W120
  have F125 := F90.other W120 (Or.inr (own_so (lf16 hw) (lf20 hw) (by decide)))
  have F126 := F91.other W120 (Or.inr (own_so (lf18 hw) (lf20 hw) (by decide)))
  have F127 : Fld Z h117 a "com/example/sedimenta/sedimenta/Postings" "last" "I" (.int (-1 : Int32)) := F92.same W120
  have F128 := F93.other W120 (Or.inr (own_so (lf22 hw) (lf20 hw) (by decide)))
  have F129 := F94.other W120 (Or.inr (own_so (lf24 hw) (lf20 hw) (by decide)))
  have F130 := F95.other W120 (Or.inr (own_so (lf27 hw) (lf20 hw) (by decide)))
  have F131 := F96.other W120 (Or.inr (own_so (lf29 hw) (lf20 hw) (by decide)))
  have F132 := F97.other W120 (Or.inr (own_so (lf32 hw) (lf20 hw) (by decide)))
  have F133 := F98.other W120 (Or.inr (own_so (lf43 hw) (lf20 hw) (by decide)))
  have F134 := F99.other W120 (Or.inr (own_so (lf45 hw) (lf20 hw) (by decide)))
  have F135 := F100.other W120 (Or.inr (own_so (lf57 hw) (lf20 hw) (by decide)))
  have F136 := F101.other W120 (Or.inr (own_so (lf59 hw) (lf20 hw) (by decide)))
  have F137 := F102.other W120 (Or.inr (own_so (lf61 hw) (lf20 hw) (by decide)))
  have F138 := F103.other W120 (Or.inr (own_so (lf72 hw) (lf20 hw) (by decide)))
  have F139 := F104.other W120 (Or.inr (own_so (lf78 hw) (lf20 hw) (by decide)))
  have F140 := F105.other W120 (Or.inr (own_so (lf85 hw) (lf20 hw) (by decide)))
  have F141 := F106.other W120 (Or.inr (own_so (lf87 hw) (lf20 hw) (by decide)))
  have F142 := F107.other W120 (Or.inr (own_so (lf89 hw) (lf20 hw) (by decide)))
  have F143 := F108.other W120 (Or.inr (own_so (lf91 hw) (lf20 hw) (by decide)))
  have F144 := F109.other W120 (Or.inr (own_so (lf93 hw) (lf20 hw) (by decide)))
  have F145 := F110.wr W120 (Or.inl (List.mem_of_getElem? (i := 0) rfl))
  have F146 := F111.other W120 (Ne.symm ne16)
  have F147 := F112.other W120 (Ne.symm ne16)
  obtain ⟨Lo148, X149, N150⟩ : ∃ Lo_, Stand p l e ({ frames := 1, cells := 3, slots := 64, locals := 12 } : Room) s m #[(.ref a)] below meth c T116 Lo_ 1 64 ∧ Fr n0 Lo_ := ⟨_, X118, N122⟩
  refine own_step (T' := T116) (g' := (mkF m 25 #[va a] [])) st121 ?_
  refine own_step (T' := T116) (g' := (mkF m 26 #[va a] [(.ref a)])) (fun t_ k_ => XS.aloadN X149.here hx rfl (hb hby d1_25) rfl rfl k_) ?_
  refine own_step (T' := T116) (g' := (mkF m 27 #[va a] [(.int (0 : Int32)), (.ref a)])) (fun t_ k_ => XT.iconstV X149.here hx rfl (0 : Int32) (hb hby d1_26) (by decide) k_) ?_
  obtain ⟨T151, h152, cA153, X154, e155, E156, A157, st158⟩ := newP X149 hx hZ (own_w (i := 14) rfl hw) e119 (g := (mkF m 27 #[va a] [(.int (0 : Int32)), (.ref a)])) rfl (hb hby d1_27) rfl (by decide) (cap := 0) (by decide) (by decide) (by decide) (by decide)
  obtain ⟨a159, g160⟩ : ∃ z, z = h117.size := ⟨_, rfl⟩
  rw [← g160] at A157 st158
  have q161 : n0 ≤ a159 := Nat.le_trans F123 (Nat.le_of_eq g160.symm)
  have ne162 : a ≠ a159 := Nat.ne_of_lt (Nat.lt_of_lt_of_le F124.lt (Nat.le_of_eq g160.symm))
  have ne163 : a13 ≠ a159 := Nat.ne_of_lt (Nat.lt_of_lt_of_le F146.lt (Nat.le_of_eq g160.symm))
  have F164 := Nat.le_trans F123 E156.1
  have F165 := F124.ext E156
  have F166 := F125.ext E156
  have F167 := F126.ext E156
  have F168 := F127.ext E156
  have F169 := F128.ext E156
  have F170 := F129.ext E156
  have F171 := F130.ext E156
  have F172 := F131.ext E156
  have F173 := F132.ext E156
  have F174 := F133.ext E156
  have F175 := F134.ext E156
  have F176 := F135.ext E156
  have F177 := F136.ext E156
  have F178 := F137.ext E156
  have F179 := F138.ext E156
  have F180 := F139.ext E156
  have F181 := F140.ext E156
  have F182 := F141.ext E156
  have F183 := F142.ext E156
  have F184 := F143.ext E156
  have F185 := F144.ext E156
  have F186 := F145.ext E156
  have F187 := F146.ext E156
  have F188 := F147.ext E156
  have V189 : own_Arl Z h152 a159 .byte [] := own_Arl.of_new A157 (i := 0) (by decide)
  have V190 : Arv Z h152 a159 cA153 .byte (0 : Int32) [] (.int (0 : Int32)) := Arv.new A157 (by decide)
  refine own_step (T' := T151) (g' := (mkF m 29 #[va a] [(.ref a159), (.ref a)])) st158 ?_
  obtain ⟨T191, h192, X193, e194, W195, st196⟩ := putF X154 hx hZ hown (host := "") (Or.inl (own_w (i := 21) rfl hw)) Via.refl e155 F169 F165 (Or.inl (own_w (i := 22) rfl hw)) (own_w (i := 6) rfl hw) (ty := (.array .byte)) (by decide) rfl rfl (g := (mkF m 29 #[va a] [(.ref a159), (.ref a)])) rfl rfl (hb hby d1_29)
  have N197 := Fr.snoc X193 N150 ga
  have F198 := Nat.le_trans F164 (Keep.of_wr W195).1
  have F199 := F165.wr W195
  have F200 := F166.other W195 (Or.inr (own_so (lf16 hw) (lf22 hw) (by decide)))
  have F201 := F167.other W195 (Or.inr (own_so (lf18 hw) (lf22 hw) (by decide)))
  have F202 := F168.other W195 (Or.inr (own_so (lf20 hw) (lf22 hw) (by decide)))
  have F203 : Fld Z h192 a "com/example/sedimenta/sedimenta/Postings" "ownPositions" "[B" (.ref a159) := F169.same W195
  have F204 := F170.other W195 (Or.inr (own_so (lf24 hw) (lf22 hw) (by decide)))
  have F205 := F171.other W195 (Or.inr (own_so (lf27 hw) (lf22 hw) (by decide)))
  have F206 := F172.other W195 (Or.inr (own_so (lf29 hw) (lf22 hw) (by decide)))
  have F207 := F173.other W195 (Or.inr (own_so (lf32 hw) (lf22 hw) (by decide)))
  have F208 := F174.other W195 (Or.inr (own_so (lf43 hw) (lf22 hw) (by decide)))
  have F209 := F175.other W195 (Or.inr (own_so (lf45 hw) (lf22 hw) (by decide)))
  have F210 := F176.other W195 (Or.inr (own_so (lf57 hw) (lf22 hw) (by decide)))
  have F211 := F177.other W195 (Or.inr (own_so (lf59 hw) (lf22 hw) (by decide)))
  have F212 := F178.other W195 (Or.inr (own_so (lf61 hw) (lf22 hw) (by decide)))
  have F213 := F179.other W195 (Or.inr (own_so (lf72 hw) (lf22 hw) (by decide)))
  have F214 := F180.other W195 (Or.inr (own_so (lf78 hw) (lf22 hw) (by decide)))
  have F215 := F181.other W195 (Or.inr (own_so (lf85 hw) (lf22 hw) (by decide)))
  have F216 := F182.other W195 (Or.inr (own_so (lf87 hw) (lf22 hw) (by decide)))
  have F217 := F183.other W195 (Or.inr (own_so (lf89 hw) (lf22 hw) (by decide)))
  have F218 := F184.other W195 (Or.inr (own_so (lf91 hw) (lf22 hw) (by decide)))
  have F219 := F185.other W195 (Or.inr (own_so (lf93 hw) (lf22 hw) (by decide)))
  have F220 := F186.wr W195 (Or.inl (List.mem_of_getElem? (i := 0) rfl))
  have F221 := F187.other W195 (Ne.symm ne16)
  have F222 := F188.other W195 (Ne.symm ne16)
  have F223 := V189.other W195 (Ne.symm ne162)
  have F224 := V190.other W195 (Ne.symm ne162)
  obtain ⟨Lo225, X226, N227⟩ : ∃ Lo_, Stand p l e ({ frames := 1, cells := 3, slots := 64, locals := 12 } : Room) s m #[(.ref a)] below meth c T191 Lo_ 2 64 ∧ Fr n0 Lo_ := ⟨_, X193, N197⟩
  refine own_step (T' := T191) (g' := (mkF m 32 #[va a] [])) st196 ?_
  refine own_step (T' := T191) (g' := (mkF m 33 #[va a] [(.ref a)])) (fun t_ k_ => XS.aloadN X226.here hx rfl (hb hby d1_32) rfl rfl k_) ?_
  refine own_step (T' := T191) (g' := (mkF m 34 #[va a] [(.ref a), (.ref a)])) (fun t_ k_ => XS.aloadN X226.here hx rfl (hb hby d1_33) rfl rfl k_) ?_
  obtain ⟨T228, X229, e230, st231⟩ := getF X226 hx hZ hown (host := "") (Or.inl (own_w (i := 21) rfl hw)) Via.refl e194 F203 (g := (mkF m 34 #[va a] [(.ref a), (.ref a)])) rfl rfl (hb hby d1_34)
  refine own_step (T' := T228) (g' := (mkF m 37 #[va a] [(.ref a159), (.ref a)])) st231 ?_
  obtain ⟨T232, h233, X234, e235, W236, st237⟩ := putF X229 hx hZ hown (host := "") (Or.inl (own_w (i := 23) rfl hw)) Via.refl e230 F204 F199 (Or.inl (own_w (i := 24) rfl hw)) (own_w (i := 6) rfl hw) (ty := (.array .byte)) (by decide) rfl rfl (g := (mkF m 37 #[va a] [(.ref a159), (.ref a)])) rfl rfl (hb hby d1_37)
  have N238 := Fr.snoc X234 N227 ga
  have F239 := Nat.le_trans F198 (Keep.of_wr W236).1
  have F240 := F199.wr W236
  have F241 := F200.other W236 (Or.inr (own_so (lf16 hw) (lf24 hw) (by decide)))
  have F242 := F201.other W236 (Or.inr (own_so (lf18 hw) (lf24 hw) (by decide)))
  have F243 := F202.other W236 (Or.inr (own_so (lf20 hw) (lf24 hw) (by decide)))
  have F244 := F203.other W236 (Or.inr (own_so (lf22 hw) (lf24 hw) (by decide)))
  have F245 : Fld Z h233 a "com/example/sedimenta/sedimenta/Postings" "positionBytes" "[B" (.ref a159) := F204.same W236
  have F246 := F205.other W236 (Or.inr (own_so (lf27 hw) (lf24 hw) (by decide)))
  have F247 := F206.other W236 (Or.inr (own_so (lf29 hw) (lf24 hw) (by decide)))
  have F248 := F207.other W236 (Or.inr (own_so (lf32 hw) (lf24 hw) (by decide)))
  have F249 := F208.other W236 (Or.inr (own_so (lf43 hw) (lf24 hw) (by decide)))
  have F250 := F209.other W236 (Or.inr (own_so (lf45 hw) (lf24 hw) (by decide)))
  have F251 := F210.other W236 (Or.inr (own_so (lf57 hw) (lf24 hw) (by decide)))
  have F252 := F211.other W236 (Or.inr (own_so (lf59 hw) (lf24 hw) (by decide)))
  have F253 := F212.other W236 (Or.inr (own_so (lf61 hw) (lf24 hw) (by decide)))
  have F254 := F213.other W236 (Or.inr (own_so (lf72 hw) (lf24 hw) (by decide)))
  have F255 := F214.other W236 (Or.inr (own_so (lf78 hw) (lf24 hw) (by decide)))
  have F256 := F215.other W236 (Or.inr (own_so (lf85 hw) (lf24 hw) (by decide)))
  have F257 := F216.other W236 (Or.inr (own_so (lf87 hw) (lf24 hw) (by decide)))
  have F258 := F217.other W236 (Or.inr (own_so (lf89 hw) (lf24 hw) (by decide)))
  have F259 := F218.other W236 (Or.inr (own_so (lf91 hw) (lf24 hw) (by decide)))
  have F260 := F219.other W236 (Or.inr (own_so (lf93 hw) (lf24 hw) (by decide)))
  have F261 := F220.wr W236 (Or.inl (List.mem_of_getElem? (i := 0) rfl))
  have F262 := F221.other W236 (Ne.symm ne16)
  have F263 := F222.other W236 (Ne.symm ne16)
  have F264 := F223.other W236 (Ne.symm ne162)
  have F265 := F224.other W236 (Ne.symm ne162)
  obtain ⟨Lo266, X267, N268⟩ : ∃ Lo_, Stand p l e ({ frames := 1, cells := 3, slots := 64, locals := 12 } : Room) s m #[(.ref a)] below meth c T232 Lo_ 2 64 ∧ Fr n0 Lo_ := ⟨_, X234, N238⟩
  refine own_step (T' := T232) (g' := (mkF m 40 #[va a] [])) st237 ?_
  refine own_step (T' := T232) (g' := (mkF m 41 #[va a] [(.ref a)])) (fun t_ k_ => XS.aloadN X267.here hx rfl (hb hby d1_40) rfl rfl k_) ?_
  refine own_step (T' := T232) (g' := (mkF m 42 #[va a] [(.int (0 : Int32)), (.ref a)])) (fun t_ k_ => XT.iconstV X267.here hx rfl (0 : Int32) (hb hby d1_41) (by decide) k_) ?_
  obtain ⟨T269, h270, cA271, X272, e273, E274, A275, st276⟩ := newP X267 hx hZ (own_w (i := 25) rfl hw) e235 (g := (mkF m 42 #[va a] [(.int (0 : Int32)), (.ref a)])) rfl (hb hby d1_42) rfl (by decide) (cap := 0) (by decide) (by decide) (by decide) (by decide)
  obtain ⟨a277, g278⟩ : ∃ z, z = h233.size := ⟨_, rfl⟩
  rw [← g278] at A275 st276
  have q279 : n0 ≤ a277 := Nat.le_trans F239 (Nat.le_of_eq g278.symm)
  have ne280 : a ≠ a277 := Nat.ne_of_lt (Nat.lt_of_lt_of_le F240.lt (Nat.le_of_eq g278.symm))
  have ne281 : a13 ≠ a277 := Nat.ne_of_lt (Nat.lt_of_lt_of_le F262.lt (Nat.le_of_eq g278.symm))
  have ne282 : a159 ≠ a277 := Nat.ne_of_lt (Nat.lt_of_lt_of_le F264.lt (Nat.le_of_eq g278.symm))
  have F283 := Nat.le_trans F239 E274.1
  have F284 := F240.ext E274
  have F285 := F241.ext E274
  have F286 := F242.ext E274
  have F287 := F243.ext E274
  have F288 := F244.ext E274
  have F289 := F245.ext E274
  have F290 := F246.ext E274
  have F291 := F247.ext E274
  have F292 := F248.ext E274
  have F293 := F249.ext E274
  have F294 := F250.ext E274
  have F295 := F251.ext E274
  have F296 := F252.ext E274
  have F297 := F253.ext E274
  have F298 := F254.ext E274
  have F299 := F255.ext E274
  have F300 := F256.ext E274
  have F301 := F257.ext E274
  have F302 := F258.ext E274
  have F303 := F259.ext E274
  have F304 := F260.ext E274
  have F305 := F261.ext E274
  have F306 := F262.ext E274
  have F307 := F263.ext E274
  have F308 := F264.ext E274
  have F309 := F265.ext E274
  have V310 : own_Arl Z h270 a277 .int [] := own_Arl.of_new A275 (i := 0) (by decide)
  have V311 : Arv Z h270 a277 cA271 .int (0 : Int32) [] (.int (0 : Int32)) := Arv.new A275 (by decide)
  refine own_step (T' := T269) (g' := (mkF m 44 #[va a] [(.ref a277), (.ref a)])) st276 ?_
  obtain ⟨T312, h313, X314, e315, W316, st317⟩ := putF X272 hx hZ hown (host := "") (Or.inl (own_w (i := 26) rfl hw)) Via.refl e273 F290 F284 (Or.inl (own_w (i := 27) rfl hw)) (own_w (i := 6) rfl hw) (ty := (.array .int)) (by decide) rfl rfl (g := (mkF m 44 #[va a] [(.ref a277), (.ref a)])) rfl rfl (hb hby d1_44)
  have N318 := Fr.snoc X314 N268 ga
  have F319 := Nat.le_trans F283 (Keep.of_wr W316).1
  have F320 := F284.wr W316
  have F321 := F285.other W316 (Or.inr (own_so (lf16 hw) (lf27 hw) (by decide)))
  have F322 := F286.other W316 (Or.inr (own_so (lf18 hw) (lf27 hw) (by decide)))
  have F323 := F287.other W316 (Or.inr (own_so (lf20 hw) (lf27 hw) (by decide)))
  have F324 := F288.other W316 (Or.inr (own_so (lf22 hw) (lf27 hw) (by decide)))
  have F325 := F289.other W316 (Or.inr (own_so (lf24 hw) (lf27 hw) (by decide)))
  have F326 : Fld Z h313 a "com/example/sedimenta/sedimenta/Postings" "frequencies" "[I" (.ref a277) := F290.same W316
  have F327 := F291.other W316 (Or.inr (own_so (lf29 hw) (lf27 hw) (by decide)))
  have F328 := F292.other W316 (Or.inr (own_so (lf32 hw) (lf27 hw) (by decide)))
  have F329 := F293.other W316 (Or.inr (own_so (lf43 hw) (lf27 hw) (by decide)))
  have F330 := F294.other W316 (Or.inr (own_so (lf45 hw) (lf27 hw) (by decide)))
  have F331 := F295.other W316 (Or.inr (own_so (lf57 hw) (lf27 hw) (by decide)))
  have F332 := F296.other W316 (Or.inr (own_so (lf59 hw) (lf27 hw) (by decide)))
  have F333 := F297.other W316 (Or.inr (own_so (lf61 hw) (lf27 hw) (by decide)))
  have F334 := F298.other W316 (Or.inr (own_so (lf72 hw) (lf27 hw) (by decide)))
  have F335 := F299.other W316 (Or.inr (own_so (lf78 hw) (lf27 hw) (by decide)))
  have F336 := F300.other W316 (Or.inr (own_so (lf85 hw) (lf27 hw) (by decide)))
  have F337 := F301.other W316 (Or.inr (own_so (lf87 hw) (lf27 hw) (by decide)))
  have F338 := F302.other W316 (Or.inr (own_so (lf89 hw) (lf27 hw) (by decide)))
  have F339 := F303.other W316 (Or.inr (own_so (lf91 hw) (lf27 hw) (by decide)))
  have F340 := F304.other W316 (Or.inr (own_so (lf93 hw) (lf27 hw) (by decide)))
  have F341 := F305.wr W316 (Or.inl (List.mem_of_getElem? (i := 0) rfl))
  have F342 := F306.other W316 (Ne.symm ne16)
  have F343 := F307.other W316 (Ne.symm ne16)
  have F344 := F308.other W316 (Ne.symm ne162)
  have F345 := F309.other W316 (Ne.symm ne162)
  have F346 := V310.other W316 (Ne.symm ne280)
  have F347 := V311.other W316 (Ne.symm ne280)
  obtain ⟨Lo348, X349, N350⟩ : ∃ Lo_, Stand p l e ({ frames := 1, cells := 3, slots := 64, locals := 12 } : Room) s m #[(.ref a)] below meth c T312 Lo_ 3 64 ∧ Fr n0 Lo_ := ⟨_, X314, N318⟩
  refine own_step (T' := T312) (g' := (mkF m 47 #[va a] [])) st317 ?_
  refine own_step (T' := T312) (g' := (mkF m 48 #[va a] [(.ref a)])) (fun t_ k_ => XS.aloadN X349.here hx rfl (hb hby d1_47) rfl rfl k_) ?_
  refine own_step (T' := T312) (g' := (mkF m 49 #[va a] [(.int (1 : Int32)), (.ref a)])) (fun t_ k_ => XT.iconstV X349.here hx rfl (1 : Int32) (hb hby d1_48) (by decide) k_) ?_
  obtain ⟨T351, h352, X353, e354, W355, st356⟩ := putFN X349 hx hZ hown (own_w (i := 28) rfl hw) Via.refl e315 F327 F320 (Or.inl (own_w (i := 29) rfl hw)) (own_w (i := 6) rfl hw) (ty := .boolean) (by decide) (v' := .int (nar .boolean (1 : Int32))) rfl (fits_nar_bool _) (g := (mkF m 49 #[va a] [(.int (1 : Int32)), (.ref a)])) rfl rfl (hb hby d1_49)
  have N357 := Fr.snoc X353 N350 ga
  have F358 := Nat.le_trans F319 (Keep.of_wr W355).1
  have F359 := F320.wr W355
  have F360 := F321.other W355 (Or.inr (own_so (lf16 hw) (lf29 hw) (by decide)))
  have F361 := F322.other W355 (Or.inr (own_so (lf18 hw) (lf29 hw) (by decide)))
  have F362 := F323.other W355 (Or.inr (own_so (lf20 hw) (lf29 hw) (by decide)))
  have F363 := F324.other W355 (Or.inr (own_so (lf22 hw) (lf29 hw) (by decide)))
  have F364 := F325.other W355 (Or.inr (own_so (lf24 hw) (lf29 hw) (by decide)))
  have F365 := F326.other W355 (Or.inr (own_so (lf27 hw) (lf29 hw) (by decide)))
  have F366 : Fld Z h352 a "com/example/sedimenta/sedimenta/Postings" "entriesChecked" "Z" (.int (nar .boolean (1 : Int32))) := F327.same W355
  have F367 := F328.other W355 (Or.inr (own_so (lf32 hw) (lf29 hw) (by decide)))
  have F368 := F329.other W355 (Or.inr (own_so (lf43 hw) (lf29 hw) (by decide)))
  have F369 := F330.other W355 (Or.inr (own_so (lf45 hw) (lf29 hw) (by decide)))
  have F370 := F331.other W355 (Or.inr (own_so (lf57 hw) (lf29 hw) (by decide)))
  have F371 := F332.other W355 (Or.inr (own_so (lf59 hw) (lf29 hw) (by decide)))
  have F372 := F333.other W355 (Or.inr (own_so (lf61 hw) (lf29 hw) (by decide)))
  have F373 := F334.other W355 (Or.inr (own_so (lf72 hw) (lf29 hw) (by decide)))
  have F374 := F335.other W355 (Or.inr (own_so (lf78 hw) (lf29 hw) (by decide)))
  have F375 := F336.other W355 (Or.inr (own_so (lf85 hw) (lf29 hw) (by decide)))
  have F376 := F337.other W355 (Or.inr (own_so (lf87 hw) (lf29 hw) (by decide)))
  have F377 := F338.other W355 (Or.inr (own_so (lf89 hw) (lf29 hw) (by decide)))
  have F378 := F339.other W355 (Or.inr (own_so (lf91 hw) (lf29 hw) (by decide)))
  have F379 := F340.other W355 (Or.inr (own_so (lf93 hw) (lf29 hw) (by decide)))
  have F380 := F341.wr W355 (Or.inl (List.mem_of_getElem? (i := 0) rfl))
  have F381 := F342.other W355 (Ne.symm ne16)
  have F382 := F343.other W355 (Ne.symm ne16)
  have F383 := F344.other W355 (Ne.symm ne162)
  have F384 := F345.other W355 (Ne.symm ne162)
  have F385 := F346.other W355 (Ne.symm ne280)
  have F386 := F347.other W355 (Ne.symm ne280)
  obtain ⟨Lo387, X388, N389⟩ : ∃ Lo_, Stand p l e ({ frames := 1, cells := 3, slots := 64, locals := 12 } : Room) s m #[(.ref a)] below meth c T351 Lo_ 3 64 ∧ Fr n0 Lo_ := ⟨_, X353, N357⟩
  refine own_step (T' := T351) (g' := (mkF m 52 #[va a] [])) st356 ?_
  refine own_step (T' := T351) (g' := (mkF m 53 #[va a] [(.ref a)])) (fun t_ k_ => XS.aloadN X388.here hx rfl (hb hby d1_52) rfl rfl k_) ?_
  refine own_step (T' := T351) (g' := (mkF m 55 #[va a] [(.int (2147483647 : Int32)), (.ref a)])) (fun t_ k_ => X388.ldcI hx hown (mvT hZ (own_w (i := 30) rfl hw)) rfl (hb hby d1_53) k_) ?_
  obtain ⟨T390, h391, X392, e393, W394, st395⟩ := putF X388 hx hZ hown (host := "") (Or.inl (own_w (i := 31) rfl hw)) Via.refl e354 F367 F359 (Or.inl (own_w (i := 32) rfl hw)) (own_w (i := 6) rfl hw) (ty := .int) (by decide) rfl rfl (g := (mkF m 55 #[va a] [(.int (2147483647 : Int32)), (.ref a)])) rfl rfl (hb hby d1_55)
  have N396 := Fr.snoc X392 N389 ga
  have F397 := Nat.le_trans F358 (Keep.of_wr W394).1
  have F398 := F359.wr W394
  have F399 := F360.other W394 (Or.inr (own_so (lf16 hw) (lf32 hw) (by decide)))
  have F400 := F361.other W394 (Or.inr (own_so (lf18 hw) (lf32 hw) (by decide)))
  have F401 := F362.other W394 (Or.inr (own_so (lf20 hw) (lf32 hw) (by decide)))
  have F402 := F363.other W394 (Or.inr (own_so (lf22 hw) (lf32 hw) (by decide)))
  have F403 := F364.other W394 (Or.inr (own_so (lf24 hw) (lf32 hw) (by decide)))
  have F404 := F365.other W394 (Or.inr (own_so (lf27 hw) (lf32 hw) (by decide)))
  have F405 := F366.other W394 (Or.inr (own_so (lf29 hw) (lf32 hw) (by decide)))
  have F406 : Fld Z h391 a "com/example/sedimenta/sedimenta/Postings" "documentCount" "I" (.int (2147483647 : Int32)) := F367.same W394
  have F407 := F368.other W394 (Or.inr (own_so (lf43 hw) (lf32 hw) (by decide)))
  have F408 := F369.other W394 (Or.inr (own_so (lf45 hw) (lf32 hw) (by decide)))
  have F409 := F370.other W394 (Or.inr (own_so (lf57 hw) (lf32 hw) (by decide)))
  have F410 := F371.other W394 (Or.inr (own_so (lf59 hw) (lf32 hw) (by decide)))
  have F411 := F372.other W394 (Or.inr (own_so (lf61 hw) (lf32 hw) (by decide)))
  have F412 := F373.other W394 (Or.inr (own_so (lf72 hw) (lf32 hw) (by decide)))
  have F413 := F374.other W394 (Or.inr (own_so (lf78 hw) (lf32 hw) (by decide)))
  have F414 := F375.other W394 (Or.inr (own_so (lf85 hw) (lf32 hw) (by decide)))
  have F415 := F376.other W394 (Or.inr (own_so (lf87 hw) (lf32 hw) (by decide)))
  have F416 := F377.other W394 (Or.inr (own_so (lf89 hw) (lf32 hw) (by decide)))
  have F417 := F378.other W394 (Or.inr (own_so (lf91 hw) (lf32 hw) (by decide)))
  have F418 := F379.other W394 (Or.inr (own_so (lf93 hw) (lf32 hw) (by decide)))
  have F419 := F380.wr W394 (Or.inl (List.mem_of_getElem? (i := 0) rfl))
  have F420 := F381.other W394 (Ne.symm ne16)
  have F421 := F382.other W394 (Ne.symm ne16)
  have F422 := F383.other W394 (Ne.symm ne162)
  have F423 := F384.other W394 (Ne.symm ne162)
  have F424 := F385.other W394 (Ne.symm ne280)
  have F425 := F386.other W394 (Ne.symm ne280)
  obtain ⟨Lo426, X427, N428⟩ : ∃ Lo_, Stand p l e ({ frames := 1, cells := 3, slots := 64, locals := 12 } : Room) s m #[(.ref a)] below meth c T390 Lo_ 3 64 ∧ Fr n0 Lo_ := ⟨_, X392, N396⟩
  refine own_step (T' := T390) (g' := (mkF m 58 #[va a] [])) st395 ?_
  exact own_ret X427 hx hlk Bd.returns (hb hby d1_58) (by rw [e393]; exact ⟨_, _, _, _, rfl, N428, F419, (Nat.le_trans (Keep.refl h0 [a]).1 (Nat.le_of_eq g14.symm)), (Nat.le_trans F145.1 (Nat.le_of_eq g160.symm)), ne163, F420, F423, F399, F400, F401, F402, F403, F404, F405, F406, F407, F408, F409, F410, F411, F412, F413, F414, F415, F416, F417, F418⟩) (by decide) (by decide)
theorem d22_0 : decode prog_81_method_56_code 0 = .ok (.lload_n 1, 1) := by decide +kernel
theorem d22_1 : decode prog_81_method_56_code 1 = .ok (.ldc2_w 422, 3) := by decide +kernel
theorem d22_4 : decode prog_81_method_56_code 4 = .ok (.lcmp, 1) := by decide +kernel
theorem d22_5 : decode prog_81_method_56_code 5 = .ok (.ifCond .le 14, 3) := by decide +kernel
theorem d22_8 : decode prog_81_method_56_code 8 = .ok (.new 87, 3) := by decide +kernel
theorem d22_11 : decode prog_81_method_56_code 11 = .ok (.dup, 1) := by decide +kernel
theorem d22_12 : decode prog_81_method_56_code 12 = .ok (.ldc_w 424, 3) := by decide +kernel
theorem d22_15 : decode prog_81_method_56_code 15 = .ok (.invokespecial 93, 3) := by decide +kernel
theorem d22_18 : decode prog_81_method_56_code 18 = .ok (.athrow, 1) := by decide +kernel
theorem d22_19 : decode prog_81_method_56_code 19 = .ok (.ldc2_w 422, 3) := by decide +kernel
theorem d22_22 : decode prog_81_method_56_code 22 = .ok (.ldc2_w 296, 3) := by decide +kernel
theorem d22_25 : decode prog_81_method_56_code 25 = .ok (.iload_n 0, 1) := by decide +kernel
theorem d22_26 : decode prog_81_method_56_code 26 = .ok (.i2l, 1) := by decide +kernel
theorem d22_27 : decode prog_81_method_56_code 27 = .ok (.lmul, 1) := by decide +kernel
theorem d22_28 : decode prog_81_method_56_code 28 = .ok (.lload_n 1, 1) := by decide +kernel
theorem d22_29 : decode prog_81_method_56_code 29 = .ok (.invokestatic 426, 3) := by decide +kernel
theorem d22_32 : decode prog_81_method_56_code 32 = .ok (.invokestatic 429, 3) := by decide +kernel
theorem d22_35 : decode prog_81_method_56_code 35 = .ok (.l2i, 1) := by decide +kernel
theorem d22_36 : decode prog_81_method_56_code 36 = .ok (.ireturn, 1) := by decide +kernel
theorem pn_22 : plainFor (⟨"com/example/sedimenta/sedimenta/Postings", "grownLength", "(IJ)I"⟩ : MethodName) = true := by first | exact plainFor_of_name (by first | (simp [plainName, overriddenIn]; done) | decide +kernel) | decide +kernel
theorem ef_22 (m : MethodId) (x0 : Int32) (x1 : Int64) : entryFrame m #[(.int x0), (.long x1)] 3 = mkF m 0 #[.val (.int x0), .val (.long x1), .second] [] := by first | (simp [entryFrame, mkF, argsToLocals, Value.category]; done) | rfl
def Q_22 (kn : Int32) (h0 : Heap) (n0 : Nat) (v : Option Value) (h : Heap) (L : List Loc) : Prop := v = some (.int kn) ∧ Fr n0 L ∧ h = h0
set_option maxRecDepth 65536 in
set_option maxHeartbeats 40000000 in
theorem rm_gl (l : Launch) (Z : State) (a0 : Array Value) (hw : ∀ d ∈ tables_1, d.before a0 Z = true) (ws : List Jvm.Cond) (kn : Int32) (h0 : Heap) (n0 : Nat) (Z0 : n0 ≤ h0.size) (hk : 0 ≤ kn.toInt ∧ kn.toInt ≤ 7) :
    MetFree l (⟨"com/example/sedimenta/sedimenta/Postings", "grownLength", "(IJ)I"⟩ : MethodName) (head1 (Jvm.Cond.code (⟨"com/example/sedimenta/sedimenta/Postings", "grownLength", "(IJ)I"⟩ : MethodName) prog_81_method_56_code 3 (some .int) :: ws) ({ frames := 1, cells := 0, slots := 0, locals := 17 } : Room)) (fun as_ U => as_ = #[(.int (0 : Int32)), (.long ((((0 : Int32)).toInt64) + ((kn).toInt64)))] ∧ Z.Warmed39 U.vm ∧ U.heap = h0) (fun _ _ _ _ _ => True) (fun _ U o U' => ∃ v L, o = .returned v ∧ Q_22 kn h0 n0 v U'.heap L ∧ FrameEnd U o U' L ({ frames := 1, cells := 0, slots := 0, locals := 17 } : Room).cells ({ frames := 1, cells := 0, slots := 0, locals := 17 } : Room).slots) := by
  refine MetFree.of_bodySF pn_22 hisR ?_
  intro p e s m args below meth c s₁ Bd hml0 hP hK
  obtain ⟨rfl, hZ, hh⟩ := hP
  have hx := Bd.exec
  have hby := Bd.bytes
  have hlk := BodyLoose.notSynchronized Bd
  have hml : c.maxLocals = 3 := hml0
  have hown : s.vm.findClass "com/example/sedimenta/sedimenta/Postings" = some m.cls := findClass_of_methodNamed Bd.named
  have hnm := (name_of_methodNamed Bd.named Bd.method).1
  have X0 : Stand p l e ({ frames := 1, cells := 0, slots := 0, locals := 17 } : Room) s m #[(.int (0 : Int32)), (.long ((((0 : Int32)).toInt64) + ((kn).toInt64)))] below meth c s₁ [] 0 0 := Stand.of_body Bd
  have e0 : s₁.heap = h0 := by rw [← hh, Bd.state]; rfl
  have N0 := Fr.nil n0
  refine own_in (ef_22 m (0 : Int32) ((((0 : Int32)).toInt64) + ((kn).toInt64))) ?_
  show own_Fin p e below s (Q_22 kn h0 n0) 0 0 s₁ (mkF m 0 #[vi (0 : Int32), vj ((((0 : Int32)).toInt64) + ((kn).toInt64)), .second] [])
  refine own_step (T' := s₁) (g' := (mkF m 1 #[vi (0 : Int32), vj ((((0 : Int32)).toInt64) + ((kn).toInt64)), .second] [(.long ((((0 : Int32)).toInt64) + ((kn).toInt64)))])) (fun t_ k_ => XT.lloadN X0.here hx rfl (hb hby d22_0) rfl k_) ?_
  refine own_step (T' := s₁) (g' := (mkF m 4 #[vi (0 : Int32), vj ((((0 : Int32)).toInt64) + ((kn).toInt64)), .second] [(.long (2147483639 : Int64)), (.long ((((0 : Int32)).toInt64) + ((kn).toInt64)))])) (fun t_ k_ => X0.ldc2J hx hown (mvT hZ (own_w (i := 155) rfl hw)) rfl (hb hby d22_1) k_) ?_
  refine own_step (T' := s₁) (g' := (mkF m 5 #[vi (0 : Int32), vj ((((0 : Int32)).toInt64) + ((kn).toInt64)), .second] [(.int (XT.cmpL ((((0 : Int32)).toInt64) + ((kn).toInt64)) (2147483639 : Int64)))])) (fun t_ k_ => XT.lcmp X0.here hx rfl (hb hby d22_4) rfl k_) ?_
  have hk1 : ¬ ((2147483639 : Int64) < ((((0 : Int32)).toInt64) + ((kn).toInt64))) := (own_gl hk)
  refine own_step (T' := s₁) (g' := (mkF m 19 #[vi (0 : Int32), vj ((((0 : Int32)).toInt64) + ((kn).toInt64)), .second] [])) (fun t_ k_ => XS.ifYes X0.here hx rfl (pc0 := 5) (pc' := 19) rfl (hb hby d22_5) rfl (XT.ll_le_t hk1) (by decide) (by decide) k_) ?_
  refine own_step (T' := s₁) (g' := (mkF m 22 #[vi (0 : Int32), vj ((((0 : Int32)).toInt64) + ((kn).toInt64)), .second] [(.long (2147483639 : Int64))])) (fun t_ k_ => X0.ldc2J hx hown (mvT hZ (own_w (i := 155) rfl hw)) rfl (hb hby d22_19) k_) ?_
  refine own_step (T' := s₁) (g' := (mkF m 25 #[vi (0 : Int32), vj ((((0 : Int32)).toInt64) + ((kn).toInt64)), .second] [(.long (2 : Int64)), (.long (2147483639 : Int64))])) (fun t_ k_ => X0.ldc2J hx hown (mvT hZ (own_w (i := 156) rfl hw)) rfl (hb hby d22_22) k_) ?_
  refine own_step (T' := s₁) (g' := (mkF m 26 #[vi (0 : Int32), vj ((((0 : Int32)).toInt64) + ((kn).toInt64)), .second] [(.int (0 : Int32)), (.long (2 : Int64)), (.long (2147483639 : Int64))])) (fun t_ k_ => XS.iloadN X0.here hx rfl (hb hby d22_25) rfl k_) ?_
  refine own_step (T' := s₁) (g' := (mkF m 27 #[vi (0 : Int32), vj ((((0 : Int32)).toInt64) + ((kn).toInt64)), .second] [(.long (((0 : Int32)).toInt64)), (.long (2 : Int64)), (.long (2147483639 : Int64))])) (fun t_ k_ => XT.i2l X0.here hx rfl (hb hby d22_26) rfl k_) ?_
  refine own_step (T' := s₁) (g' := (mkF m 28 #[vi (0 : Int32), vj ((((0 : Int32)).toInt64) + ((kn).toInt64)), .second] [(.long ((2 : Int64) * (((0 : Int32)).toInt64))), (.long (2147483639 : Int64))])) (fun t_ k_ => XT.lmul X0.here hx rfl (hb hby d22_27) rfl k_) ?_
  refine own_step (T' := s₁) (g' := (mkF m 29 #[vi (0 : Int32), vj ((((0 : Int32)).toInt64) + ((kn).toInt64)), .second] [(.long ((((0 : Int32)).toInt64) + ((kn).toInt64))), (.long ((2 : Int64) * (((0 : Int32)).toInt64))), (.long (2147483639 : Int64))])) (fun t_ k_ => XT.lloadN X0.here hx rfl (hb hby d22_28) rfl k_) ?_
  obtain ⟨_, _, ⟨Tc2, Lc2, kc2, nc2⟩, -, Xc2, ⟨Lcc2, hQc2, lc2, yc2, zc2⟩, stc2⟩ := Jvm.LawKit.callS X0 hx (y := (⟨"java/lang/Math", "max", "(JJ)J"⟩ : MethodName)) hown (mvT hZ (own_w (i := 157) rfl hw)) (mvT hZ (own_w (i := 158) rfl hw)) (mvT hZ (own_w (i := 3) rfl hw)) (mvT hZ (own_w (i := 159) rfl hw)) (by decide) (backOf (W := 2) (rm_maxJ l Z a0 hw [] (((2 : Int64) * (((0 : Int32)).toInt64))) (((((0 : Int32)).toInt64) + ((kn).toInt64))) h0 n0 Z0) hZ (own_w (i := 159) rfl hw) (own_w (i := 3) rfl hw) (by decide) (by decide)) (g := (mkF m 29 #[vi (0 : Int32), vj ((((0 : Int32)).toInt64) + ((kn).toInt64)), .second] [(.long ((((0 : Int32)).toInt64) + ((kn).toInt64))), (.long ((2 : Int64) * (((0 : Int32)).toInt64))), (.long (2147483639 : Int64))])) rfl (by rw [hml]; rfl) (argsL := [(.long ((2 : Int64) * (((0 : Int32)).toInt64))), (.long ((((0 : Int32)).toInt64) + ((kn).toInt64)))]) (rest := [(.long (2147483639 : Int64))]) (lenOf pd_5 rfl) rfl (by show 2 * 0 + _ ≤ _; exact Nat.le_of_eq rfl) (hb hby d22_29) (fun _ _ => ⟨rfl, e0, (by decide : 0 + 0 ≤ _), (by decide : 0 + 0 ≤ _)⟩)
  dsimp only [Pt.U, Pt.locs, Pt.cells, Pt.slots] at Xc2 lc2 yc2 zc2 stc2 hQc2
  subst lc2 yc2 zc2
  have X3 := Xc2.more (cells' := 0) (slots' := 0) (by decide) (by decide)
  obtain ⟨rfl, N4, e5⟩ := hQc2
  have N6 := Fr.app N0 N4
  obtain ⟨Lo7, X8, N9⟩ : ∃ Lo_, Stand p l e ({ frames := 1, cells := 0, slots := 0, locals := 17 } : Room) s m #[(.int (0 : Int32)), (.long ((((0 : Int32)).toInt64) + ((kn).toInt64)))] below meth c Tc2 Lo_ 0 0 ∧ Fr n0 Lo_ := ⟨_, X3, N6⟩
  refine own_step (T' := Tc2) (g' := (mkF m 32 #[vi (0 : Int32), vj ((((0 : Int32)).toInt64) + ((kn).toInt64)), .second] [(.long (own_mxL ((2 : Int64) * (((0 : Int32)).toInt64)) ((((0 : Int32)).toInt64) + ((kn).toInt64)))), (.long (2147483639 : Int64))])) stc2 ?_
  obtain ⟨_, _, ⟨Tc10, Lc10, kc10, nc10⟩, -, Xc10, ⟨Lcc10, hQc10, lc10, yc10, zc10⟩, stc10⟩ := Jvm.LawKit.callS X8 hx (y := (⟨"java/lang/Math", "min", "(JJ)J"⟩ : MethodName)) hown (mvT hZ (own_w (i := 160) rfl hw)) (mvT hZ (own_w (i := 161) rfl hw)) (mvT hZ (own_w (i := 3) rfl hw)) (mvT hZ (own_w (i := 162) rfl hw)) (by decide) (backOf (W := 0) (rm_minJ l Z a0 hw [] ((2147483639 : Int64)) ((own_mxL ((2 : Int64) * (((0 : Int32)).toInt64)) ((((0 : Int32)).toInt64) + ((kn).toInt64)))) h0 n0 Z0) hZ (own_w (i := 162) rfl hw) (own_w (i := 3) rfl hw) (by decide) (by decide)) (g := (mkF m 32 #[vi (0 : Int32), vj ((((0 : Int32)).toInt64) + ((kn).toInt64)), .second] [(.long (own_mxL ((2 : Int64) * (((0 : Int32)).toInt64)) ((((0 : Int32)).toInt64) + ((kn).toInt64)))), (.long (2147483639 : Int64))])) rfl (by rw [hml]; rfl) (argsL := [(.long (2147483639 : Int64)), (.long (own_mxL ((2 : Int64) * (((0 : Int32)).toInt64)) ((((0 : Int32)).toInt64) + ((kn).toInt64))))]) (rest := []) (lenOf pd_5 rfl) rfl (by show 2 * 0 + _ ≤ _; exact Nat.le_of_eq rfl) (hb hby d22_32) (fun _ _ => ⟨rfl, e5, (by decide : 0 + 0 ≤ _), (by decide : 0 + 0 ≤ _)⟩)
  dsimp only [Pt.U, Pt.locs, Pt.cells, Pt.slots] at Xc10 lc10 yc10 zc10 stc10 hQc10
  subst lc10 yc10 zc10
  have X11 := Xc10.more (cells' := 0) (slots' := 0) (by decide) (by decide)
  obtain ⟨rfl, N12, e13⟩ := hQc10
  have N14 := Fr.app N9 N12
  obtain ⟨Lo15, X16, N17⟩ : ∃ Lo_, Stand p l e ({ frames := 1, cells := 0, slots := 0, locals := 17 } : Room) s m #[(.int (0 : Int32)), (.long ((((0 : Int32)).toInt64) + ((kn).toInt64)))] below meth c Tc10 Lo_ 0 0 ∧ Fr n0 Lo_ := ⟨_, X11, N14⟩
  refine own_step (T' := Tc10) (g' := (mkF m 35 #[vi (0 : Int32), vj ((((0 : Int32)).toInt64) + ((kn).toInt64)), .second] [(.long (own_mnL (2147483639 : Int64) (own_mxL ((2 : Int64) * (((0 : Int32)).toInt64)) ((((0 : Int32)).toInt64) + ((kn).toInt64)))))])) stc10 ?_
  refine own_step (T' := Tc10) (g' := (mkF m 36 #[vi (0 : Int32), vj ((((0 : Int32)).toInt64) + ((kn).toInt64)), .second] [(.int (((own_mnL (2147483639 : Int64) (own_mxL ((2 : Int64) * (((0 : Int32)).toInt64)) ((((0 : Int32)).toInt64) + ((kn).toInt64))))).toInt32))])) (fun t_ k_ => XT.l2i X16.here hx rfl (hb hby d22_35) rfl k_) ?_
  exact own_retI X16 hx hlk Bd.returns (hb hby d22_36) (by rw [e13]; exact ⟨by rw [own_grown hk], N17, rfl⟩) (by decide) (by decide)
theorem d25_0 : decode jdk_65_method_121_code 0 = .ok (.iload_n 1, 1) := by decide +kernel
theorem d25_1 : decode jdk_65_method_121_code 1 = .ok (.aload_n 0, 1) := by decide +kernel
theorem d25_2 : decode jdk_65_method_121_code 2 = .ok (.arraylength, 1) := by decide +kernel
theorem d25_3 : decode jdk_65_method_121_code 3 = .ok (.if_icmp .ne 11, 3) := by decide +kernel
theorem d25_6 : decode jdk_65_method_121_code 6 = .ok (.aload_n 0, 1) := by decide +kernel
theorem d25_7 : decode jdk_65_method_121_code 7 = .ok (.invokevirtual 310, 3) := by decide +kernel
theorem d25_10 : decode jdk_65_method_121_code 10 = .ok (.checkcast 311, 3) := by decide +kernel
theorem d25_13 : decode jdk_65_method_121_code 13 = .ok (.areturn, 1) := by decide +kernel
theorem d25_14 : decode jdk_65_method_121_code 14 = .ok (.iload_n 1, 1) := by decide +kernel
theorem d25_15 : decode jdk_65_method_121_code 15 = .ok (.newarray .byte, 2) := by decide +kernel
theorem d25_17 : decode jdk_65_method_121_code 17 = .ok (.astore_n 2, 1) := by decide +kernel
theorem d25_18 : decode jdk_65_method_121_code 18 = .ok (.aload_n 0, 1) := by decide +kernel
theorem d25_19 : decode jdk_65_method_121_code 19 = .ok (.iconst 0, 1) := by decide +kernel
theorem d25_20 : decode jdk_65_method_121_code 20 = .ok (.aload_n 2, 1) := by decide +kernel
theorem d25_21 : decode jdk_65_method_121_code 21 = .ok (.iconst 0, 1) := by decide +kernel
theorem d25_22 : decode jdk_65_method_121_code 22 = .ok (.aload_n 0, 1) := by decide +kernel
theorem d25_23 : decode jdk_65_method_121_code 23 = .ok (.arraylength, 1) := by decide +kernel
theorem d25_24 : decode jdk_65_method_121_code 24 = .ok (.iload_n 1, 1) := by decide +kernel
theorem d25_25 : decode jdk_65_method_121_code 25 = .ok (.invokestatic 304, 3) := by decide +kernel
theorem d25_28 : decode jdk_65_method_121_code 28 = .ok (.invokestatic 150, 3) := by decide +kernel
theorem d25_31 : decode jdk_65_method_121_code 31 = .ok (.aload_n 2, 1) := by decide +kernel
theorem d25_32 : decode jdk_65_method_121_code 32 = .ok (.areturn, 1) := by decide +kernel
theorem pn_25 : plainFor (⟨"java/util/Arrays", "copyOf", "([BI)[B"⟩ : MethodName) = true := by first | exact plainFor_of_name (by first | (simp [plainName, overriddenIn]; done) | decide +kernel) | decide +kernel
theorem ef_25 (m : MethodId) (x0 : Addr) (x1 : Int32) : entryFrame m #[(.ref x0), (.int x1)] 3 = mkF m 0 #[.val (.ref x0), .val (.int x1), .unset] [] := by first | (simp [entryFrame, mkF, argsToLocals, Value.category]; done) | rfl
def Q_25 (Z : State) (kn : Int32) (h0 : Heap) (n0 : Nat) (v : Option Value) (h : Heap) (L : List Loc) : Prop := ∃ (r : Addr) (kr : ClassId), v = some (.ref r) ∧ Fr n0 L ∧ Keep h0 h [] ∧ h0.size ≤ r ∧ Arv Z h r kr .byte kn [] (.int (0 : Int32))
set_option maxRecDepth 65536 in
set_option maxHeartbeats 40000000 in
theorem rm_cp (l : Launch) (Z : State) (a0 : Array Value) (hw : ∀ d ∈ tables_1, d.before a0 Z = true) (ws : List Jvm.Cond) (q : Addr) (kn : Int32) (kq : ClassId) (h0 : Heap) (n0 : Nat) (Z0 : n0 ≤ h0.size) (V0 : Arv Z h0 q kq .byte (0 : Int32) [] (.int (0 : Int32))) (hk : 0 ≤ kn.toInt ∧ kn.toInt ≤ 7) (hpos : (0 : Int32) < kn) :
    MetFree l (⟨"java/util/Arrays", "copyOf", "([BI)[B"⟩ : MethodName) (head1 (Jvm.Cond.code (⟨"java/util/Arrays", "copyOf", "([BI)[B"⟩ : MethodName) jdk_65_method_121_code 3 (some (.array .byte)) :: ws) ({ frames := 1, cells := 1, slots := 7, locals := 40 } : Room)) (fun as_ U => as_ = #[(.ref q), (.int kn)] ∧ Z.Warmed39 U.vm ∧ U.heap = h0) (fun _ _ _ _ _ => True) (fun _ U o U' => ∃ v L, o = .returned v ∧ Q_25 Z kn h0 n0 v U'.heap L ∧ FrameEnd U o U' L ({ frames := 1, cells := 1, slots := 7, locals := 40 } : Room).cells ({ frames := 1, cells := 1, slots := 7, locals := 40 } : Room).slots) := by
  refine MetFree.of_bodySF pn_25 hisR ?_
  intro p e s m args below meth c s₁ Bd hml0 hP hK
  obtain ⟨rfl, hZ, hh⟩ := hP
  have hx := Bd.exec
  have hby := Bd.bytes
  have hlk := BodyLoose.notSynchronized Bd
  have hml : c.maxLocals = 3 := hml0
  have hown : s.vm.findClass "java/util/Arrays" = some m.cls := findClass_of_methodNamed Bd.named
  have hnm := (name_of_methodNamed Bd.named Bd.method).1
  have X0 : Stand p l e ({ frames := 1, cells := 1, slots := 7, locals := 40 } : Room) s m #[(.ref q), (.int kn)] below meth c s₁ [] 0 0 := Stand.of_body Bd
  have e0 : s₁.heap = h0 := by rw [← hh, Bd.state]; rfl
  have N0 := Fr.nil n0
  refine own_in (ef_25 m q kn) ?_
  show own_Fin p e below s (Q_25 Z kn h0 n0) 1 7 s₁ (mkF m 0 #[va q, vi kn, un] [])
  refine own_step (T' := s₁) (g' := (mkF m 1 #[va q, vi kn, un] [(.int kn)])) (fun t_ k_ => XS.iloadN X0.here hx rfl (hb hby d25_0) rfl k_) ?_
  refine own_step (T' := s₁) (g' := (mkF m 2 #[va q, vi kn, un] [(.ref q), (.int kn)])) (fun t_ k_ => XS.aloadN X0.here hx rfl (hb hby d25_1) rfl rfl k_) ?_
  have st1 := own_alen (g := (mkF m 2 #[va q, vi kn, un] [(.ref q), (.int kn)])) X0 hx hZ e0 (own_arl V0 (by decide)) (n := (0 : Int32)) (i := 0) rfl (by decide) rfl rfl (hb hby d25_2)
  refine own_step (T' := s₁) (g' := (mkF m 3 #[va q, vi kn, un] [(.int (0 : Int32)), (.int kn)])) st1 ?_
  have hk2 : ¬ (kn = (0 : Int32)) := (own_kne hpos)
  refine own_step (T' := s₁) (g' := (mkF m 14 #[va q, vi kn, un] [])) (fun t_ k_ => XS.icmpYes X0.here hx rfl (pc0 := 3) (pc' := 14) rfl (hb hby d25_3) rfl (XT.ii_ne_t hk2) (by decide) (by decide) k_) ?_
  refine own_step (T' := s₁) (g' := (mkF m 15 #[va q, vi kn, un] [(.int kn)])) (fun t_ k_ => XS.iloadN X0.here hx rfl (hb hby d25_14) rfl k_) ?_
  obtain ⟨T3, h4, cA5, X6, e7, E8, A9, st10⟩ := newP X0 hx hZ (own_w (i := 14) rfl hw) e0 (g := (mkF m 15 #[va q, vi kn, un] [(.int kn)])) rfl (hb hby d25_15) rfl (own_nn hk.1) (cap := 7) (own_tn7 hk) (by decide) (by decide) (by decide)
  obtain ⟨a11, g12⟩ : ∃ z, z = h0.size := ⟨_, rfl⟩
  rw [← g12] at A9 st10
  have q13 : n0 ≤ a11 := Nat.le_trans Z0 (Nat.le_of_eq g12.symm)
  have ne14 : q ≠ a11 := Nat.ne_of_lt (Nat.lt_of_lt_of_le V0.lt (Nat.le_of_eq g12.symm))
  have F15 := Nat.le_trans Z0 E8.1
  have F16 := V0.ext E8
  have F17 := (own_arl V0 (by decide)).ext E8
  have F18 := (Keep.refl h0 []).ext E8
  have V19 : Arv Z h4 a11 cA5 .byte kn [] (.int (0 : Int32)) := Arv.new A9 (own_nn hk.1)
  refine own_step (T' := T3) (g' := (mkF m 17 #[va q, vi kn, un] [(.ref a11)])) st10 ?_
  refine own_step (T' := T3) (g' := (mkF m 18 #[va q, vi kn, va a11] [])) (fun t_ k_ => XS.astoreN X6.here hx rfl (hb hby d25_17) rfl rfl (l' := #[va q, vi kn, va a11]) rfl k_) ?_
  refine own_step (T' := T3) (g' := (mkF m 19 #[va q, vi kn, va a11] [(.ref q)])) (fun t_ k_ => XS.aloadN X6.here hx rfl (hb hby d25_18) rfl rfl k_) ?_
  refine own_step (T' := T3) (g' := (mkF m 20 #[va q, vi kn, va a11] [(.int (0 : Int32)), (.ref q)])) (fun t_ k_ => XT.iconstV X6.here hx rfl (0 : Int32) (hb hby d25_19) (by decide) k_) ?_
  refine own_step (T' := T3) (g' := (mkF m 21 #[va q, vi kn, va a11] [(.ref a11), (.int (0 : Int32)), (.ref q)])) (fun t_ k_ => XS.aloadN X6.here hx rfl (hb hby d25_20) rfl rfl k_) ?_
  refine own_step (T' := T3) (g' := (mkF m 22 #[va q, vi kn, va a11] [(.int (0 : Int32)), (.ref a11), (.int (0 : Int32)), (.ref q)])) (fun t_ k_ => XT.iconstV X6.here hx rfl (0 : Int32) (hb hby d25_21) (by decide) k_) ?_
  refine own_step (T' := T3) (g' := (mkF m 23 #[va q, vi kn, va a11] [(.ref q), (.int (0 : Int32)), (.ref a11), (.int (0 : Int32)), (.ref q)])) (fun t_ k_ => XS.aloadN X6.here hx rfl (hb hby d25_22) rfl rfl k_) ?_
  have st20 := own_alen (g := (mkF m 23 #[va q, vi kn, va a11] [(.ref q), (.int (0 : Int32)), (.ref a11), (.int (0 : Int32)), (.ref q)])) X6 hx hZ e7 F17 (n := (0 : Int32)) (i := 0) rfl (by decide) rfl rfl (hb hby d25_23)
  refine own_step (T' := T3) (g' := (mkF m 24 #[va q, vi kn, va a11] [(.int (0 : Int32)), (.int (0 : Int32)), (.ref a11), (.int (0 : Int32)), (.ref q)])) st20 ?_
  refine own_step (T' := T3) (g' := (mkF m 25 #[va q, vi kn, va a11] [(.int kn), (.int (0 : Int32)), (.int (0 : Int32)), (.ref a11), (.int (0 : Int32)), (.ref q)])) (fun t_ k_ => XS.iloadN X6.here hx rfl (hb hby d25_24) rfl k_) ?_
  obtain ⟨_, _, ⟨Tc21, Lc21, kc21, nc21⟩, -, Xc21, ⟨Lcc21, hQc21, lc21, yc21, zc21⟩, stc21⟩ := Jvm.LawKit.callS X6 hx (y := (⟨"java/lang/Math", "min", "(II)I"⟩ : MethodName)) hown (mvT hZ (own_w (i := 167) rfl hw)) (mvT hZ (own_w (i := 168) rfl hw)) (mvT hZ (own_w (i := 3) rfl hw)) (mvT hZ (own_w (i := 169) rfl hw)) (by decide) (backOf (W := 4) (rm_minI l Z a0 hw [] ((0 : Int32)) (kn) h4 n0 F15) hZ (own_w (i := 169) rfl hw) (own_w (i := 3) rfl hw) (by decide) (by decide)) (g := (mkF m 25 #[va q, vi kn, va a11] [(.int kn), (.int (0 : Int32)), (.int (0 : Int32)), (.ref a11), (.int (0 : Int32)), (.ref q)])) rfl (by rw [hml]; rfl) (argsL := [(.int (0 : Int32)), (.int kn)]) (rest := [(.int (0 : Int32)), (.ref a11), (.int (0 : Int32)), (.ref q)]) (lenOf pd_6 rfl) rfl (by show 2 * 0 + _ ≤ _; exact Nat.le_of_eq rfl) (hb hby d25_25) (fun _ _ => ⟨rfl, e7, (by decide : 1 + 0 ≤ _), (by decide : 7 + 0 ≤ _)⟩)
  dsimp only [Pt.U, Pt.locs, Pt.cells, Pt.slots] at Xc21 lc21 yc21 zc21 stc21 hQc21
  subst lc21 yc21 zc21
  have X22 := Xc21.more (cells' := 1) (slots' := 7) (by decide) (by decide)
  obtain ⟨rfl, N23, e24⟩ := hQc21
  have N25 := Fr.app N0 N23
  obtain ⟨Lo26, X27, N28⟩ : ∃ Lo_, Stand p l e ({ frames := 1, cells := 1, slots := 7, locals := 40 } : Room) s m #[(.ref q), (.int kn)] below meth c Tc21 Lo_ 1 7 ∧ Fr n0 Lo_ := ⟨_, X22, N25⟩
  refine own_step (T' := Tc21) (g' := (mkF m 28 #[va q, vi kn, va a11] [(.int (if kn < (0 : Int32) then kn else (0 : Int32))), (.int (0 : Int32)), (.ref a11), (.int (0 : Int32)), (.ref q)])) stc21 ?_
  rw [(own_min0 hpos : (if kn < (0 : Int32) then kn else (0 : Int32)) = (0 : Int32))]
  obtain ⟨T29, h30, Lo31, X32, e33, N34, K35, V36, st37⟩ := cpA X27 hx hZ hown (own_w (i := 170) rfl hw) (own_w (i := 76) rfl hw) (own_w (i := 74) rfl hw) (own_w (i := 75) rfl hw) e24 F16 V19 (us := []) (Or.inl ⟨rfl, rfl⟩) (by decide) (by decide) (by decide) (by decide) (by rw [(by decide : (0 : Int32).toNatClampNeg = 0)]; exact Nat.zero_le _) (by rw [(by decide : (0 : Int32).toNatClampNeg = 0)]; rfl) (by decide) N28 q13 (g := (mkF m 28 #[va q, vi kn, va a11] [(.int (0 : Int32)), (.int (0 : Int32)), (.ref a11), (.int (0 : Int32)), (.ref q)])) rfl (by rw [hml]; rfl) rfl (hb hby d25_28) (by decide) (W := 0) (by show 2 * 0 + _ ≤ _; exact Nat.le_of_eq rfl) (by decide)
  have F38 := Nat.le_trans F15 K35.1
  have F39 := F16.keep K35 (ninS ne14 nin0)
  have F40 := F17.keep K35 (ninS ne14 nin0)
  have F41 := F18.trans K35 (allS (Or.inr (Nat.le_trans (Keep.refl h0 []).1 (Nat.le_of_eq g12.symm))) all0)
  refine own_step (T' := T29) (g' := (mkF m 31 #[va q, vi kn, va a11] [])) st37 ?_
  refine own_step (T' := T29) (g' := (mkF m 32 #[va q, vi kn, va a11] [(.ref a11)])) (fun t_ k_ => XS.aloadN X32.here hx rfl (hb hby d25_31) rfl rfl k_) ?_
  exact own_retA X32 hx hlk Bd.returns rfl rfl (hb hby d25_32) (by rw [e33]; exact ⟨_, _, rfl, N34, F41, (Nat.le_trans (Keep.refl h0 []).1 (Nat.le_of_eq g12.symm)), (own_arv0 V36)⟩) (by decide) (by decide)
theorem d9_0 : decode prog_81_method_55_code 0 = .ok (.aload_n 0, 1) := by decide +kernel
theorem d9_1 : decode prog_81_method_55_code 1 = .ok (.getfield 24, 3) := by decide +kernel
theorem d9_4 : decode prog_81_method_55_code 4 = .ok (.arraylength, 1) := by decide +kernel
theorem d9_5 : decode prog_81_method_55_code 5 = .ok (.aload_n 0, 1) := by decide +kernel
theorem d9_6 : decode prog_81_method_55_code 6 = .ok (.getfield 66, 3) := by decide +kernel
theorem d9_9 : decode prog_81_method_55_code 9 = .ok (.isub, 1) := by decide +kernel
theorem d9_10 : decode prog_81_method_55_code 10 = .ok (.iload_n 1, 1) := by decide +kernel
theorem d9_11 : decode prog_81_method_55_code 11 = .ok (.if_icmp .ge 30, 3) := by decide +kernel
theorem d9_14 : decode prog_81_method_55_code 14 = .ok (.aload_n 0, 1) := by decide +kernel
theorem d9_15 : decode prog_81_method_55_code 15 = .ok (.aload_n 0, 1) := by decide +kernel
theorem d9_16 : decode prog_81_method_55_code 16 = .ok (.getfield 24, 3) := by decide +kernel
theorem d9_19 : decode prog_81_method_55_code 19 = .ok (.aload_n 0, 1) := by decide +kernel
theorem d9_20 : decode prog_81_method_55_code 20 = .ok (.getfield 24, 3) := by decide +kernel
theorem d9_23 : decode prog_81_method_55_code 23 = .ok (.arraylength, 1) := by decide +kernel
theorem d9_24 : decode prog_81_method_55_code 24 = .ok (.aload_n 0, 1) := by decide +kernel
theorem d9_25 : decode prog_81_method_55_code 25 = .ok (.getfield 66, 3) := by decide +kernel
theorem d9_28 : decode prog_81_method_55_code 28 = .ok (.i2l, 1) := by decide +kernel
theorem d9_29 : decode prog_81_method_55_code 29 = .ok (.iload_n 1, 1) := by decide +kernel
theorem d9_30 : decode prog_81_method_55_code 30 = .ok (.i2l, 1) := by decide +kernel
theorem d9_31 : decode prog_81_method_55_code 31 = .ok (.ladd, 1) := by decide +kernel
theorem d9_32 : decode prog_81_method_55_code 32 = .ok (.invokestatic 415, 3) := by decide +kernel
theorem d9_35 : decode prog_81_method_55_code 35 = .ok (.invokestatic 419, 3) := by decide +kernel
theorem d9_38 : decode prog_81_method_55_code 38 = .ok (.putfield 24, 3) := by decide +kernel
theorem d9_41 : decode prog_81_method_55_code 41 = .ok (.aload_n 0, 1) := by decide +kernel
theorem d9_42 : decode prog_81_method_55_code 42 = .ok (.aload_n 0, 1) := by decide +kernel
theorem d9_43 : decode prog_81_method_55_code 43 = .ok (.getfield 24, 3) := by decide +kernel
theorem d9_46 : decode prog_81_method_55_code 46 = .ok (.putfield 27, 3) := by decide +kernel
theorem d9_49 : decode prog_81_method_55_code 49 = .ok (.return_, 1) := by decide +kernel
theorem pn_9 : plainFor (⟨"com/example/sedimenta/sedimenta/Postings", "positionsRoom", "(I)V"⟩ : MethodName) = true := by first | exact plainFor_of_name (by first | (simp [plainName, overriddenIn]; done) | decide +kernel) | decide +kernel
theorem ef_9 (m : MethodId) (x0 : Addr) (x1 : Int32) : entryFrame m #[(.ref x0), (.int x1)] 2 = mkF m 0 #[.val (.ref x0), .val (.int x1)] [] := by first | (simp [entryFrame, mkF, argsToLocals, Value.category]; done) | rfl
def Q_9 (Z : State) (a : Addr) (kn : Int32) (f_own : Value) (f_bytes : Value) (f_last : Int32) (f_ownPositions : Addr) (f_positionBytes : Value) (f_frequencies : Value) (f_entriesChecked : Int32) (f_documentCount : Int32) (f_length : Int32) (f_count : Int32) (f_first : Int32) (f_firstFrequency : Int32) (f_firstLength : Int32) (f_positioned : Int32) (f_offset : Int32) (f_positionsOffset : Int32) (f_blocks : Value) (f_source : Value) (f_sourceEntry : Int64) (h0 : Heap) (n0 : Nat) (v : Option Value) (h : Heap) (L : List Loc) : Prop := ∃ (r : Addr) (kr : ClassId), v = none ∧ Fr n0 L ∧ Keep h0 h [a] ∧ Arv Z h r kr .byte kn [] (.int (0 : Int32)) ∧ n0 ≤ r ∧ a ≠ r ∧ (r = f_ownPositions ∨ h0.size ≤ r) ∧ Fld Z h a "com/example/sedimenta/sedimenta/Postings" "own" "[B" f_own ∧ Fld Z h a "com/example/sedimenta/sedimenta/Postings" "bytes" "[B" f_bytes ∧ Fld Z h a "com/example/sedimenta/sedimenta/Postings" "last" "I" (.int f_last) ∧ Fld Z h a "com/example/sedimenta/sedimenta/Postings" "ownPositions" "[B" (.ref r) ∧ Fld Z h a "com/example/sedimenta/sedimenta/Postings" "positionBytes" "[B" (.ref r) ∧ Fld Z h a "com/example/sedimenta/sedimenta/Postings" "frequencies" "[I" f_frequencies ∧ Fld Z h a "com/example/sedimenta/sedimenta/Postings" "entriesChecked" "Z" (.int f_entriesChecked) ∧ Fld Z h a "com/example/sedimenta/sedimenta/Postings" "documentCount" "I" (.int f_documentCount) ∧ Fld Z h a "com/example/sedimenta/sedimenta/Postings" "length" "I" (.int f_length) ∧ Fld Z h a "com/example/sedimenta/sedimenta/Postings" "count" "I" (.int f_count) ∧ Fld Z h a "com/example/sedimenta/sedimenta/Postings" "first" "I" (.int f_first) ∧ Fld Z h a "com/example/sedimenta/sedimenta/Postings" "firstFrequency" "I" (.int f_firstFrequency) ∧ Fld Z h a "com/example/sedimenta/sedimenta/Postings" "firstLength" "I" (.int f_firstLength) ∧ Fld Z h a "com/example/sedimenta/sedimenta/Postings" "positionsLength" "I" (.int (0 : Int32)) ∧ Fld Z h a "com/example/sedimenta/sedimenta/Postings" "positioned" "Z" (.int f_positioned) ∧ Fld Z h a "com/example/sedimenta/sedimenta/Postings" "offset" "I" (.int f_offset) ∧ Fld Z h a "com/example/sedimenta/sedimenta/Postings" "positionsOffset" "I" (.int f_positionsOffset) ∧ Fld Z h a "com/example/sedimenta/sedimenta/Postings" "blocks" "Lcom/example/sedimenta/sedimenta/TermBlocks;" f_blocks ∧ Fld Z h a "com/example/sedimenta/sedimenta/Postings" "source" "Lcom/example/sedimenta/sedimenta/store/StoreInput;" f_source ∧ Fld Z h a "com/example/sedimenta/sedimenta/Postings" "sourceEntry" "J" (.long f_sourceEntry)
set_option maxRecDepth 65536 in
set_option maxHeartbeats 40000000 in
theorem rm_pr (l : Launch) (Z : State) (a0 : Array Value) (hw : ∀ d ∈ tables_1, d.before a0 Z = true) (ws : List Jvm.Cond) (a : Addr) (kn : Int32) (f_own : Value) (f_bytes : Value) (f_last : Int32) (f_ownPositions : Addr) (f_positionBytes : Value) (f_frequencies : Value) (f_entriesChecked : Int32) (f_documentCount : Int32) (f_length : Int32) (f_count : Int32) (f_first : Int32) (f_firstFrequency : Int32) (f_firstLength : Int32) (f_positioned : Int32) (f_offset : Int32) (f_positionsOffset : Int32) (f_blocks : Value) (f_source : Value) (f_sourceEntry : Int64) (kq : ClassId) (h0 : Heap) (n0 : Nat) (Z0 : n0 ≤ h0.size) (E_a : Exa Z h0 a "com/example/sedimenta/sedimenta/Postings") (Ff_own : Fld Z h0 a "com/example/sedimenta/sedimenta/Postings" "own" "[B" f_own) (Ff_bytes : Fld Z h0 a "com/example/sedimenta/sedimenta/Postings" "bytes" "[B" f_bytes) (Ff_last : Fld Z h0 a "com/example/sedimenta/sedimenta/Postings" "last" "I" (.int f_last)) (Ff_ownPositions : Fld Z h0 a "com/example/sedimenta/sedimenta/Postings" "ownPositions" "[B" (.ref f_ownPositions)) (Ff_positionBytes : Fld Z h0 a "com/example/sedimenta/sedimenta/Postings" "positionBytes" "[B" f_positionBytes) (Ff_frequencies : Fld Z h0 a "com/example/sedimenta/sedimenta/Postings" "frequencies" "[I" f_frequencies) (Ff_entriesChecked : Fld Z h0 a "com/example/sedimenta/sedimenta/Postings" "entriesChecked" "Z" (.int f_entriesChecked)) (Ff_documentCount : Fld Z h0 a "com/example/sedimenta/sedimenta/Postings" "documentCount" "I" (.int f_documentCount)) (Ff_length : Fld Z h0 a "com/example/sedimenta/sedimenta/Postings" "length" "I" (.int f_length)) (Ff_count : Fld Z h0 a "com/example/sedimenta/sedimenta/Postings" "count" "I" (.int f_count)) (Ff_first : Fld Z h0 a "com/example/sedimenta/sedimenta/Postings" "first" "I" (.int f_first)) (Ff_firstFrequency : Fld Z h0 a "com/example/sedimenta/sedimenta/Postings" "firstFrequency" "I" (.int f_firstFrequency)) (Ff_firstLength : Fld Z h0 a "com/example/sedimenta/sedimenta/Postings" "firstLength" "I" (.int f_firstLength)) (Ff_positionsLength : Fld Z h0 a "com/example/sedimenta/sedimenta/Postings" "positionsLength" "I" (.int (0 : Int32))) (Ff_positioned : Fld Z h0 a "com/example/sedimenta/sedimenta/Postings" "positioned" "Z" (.int f_positioned)) (Ff_offset : Fld Z h0 a "com/example/sedimenta/sedimenta/Postings" "offset" "I" (.int f_offset)) (Ff_positionsOffset : Fld Z h0 a "com/example/sedimenta/sedimenta/Postings" "positionsOffset" "I" (.int f_positionsOffset)) (Ff_blocks : Fld Z h0 a "com/example/sedimenta/sedimenta/Postings" "blocks" "Lcom/example/sedimenta/sedimenta/TermBlocks;" f_blocks) (Ff_source : Fld Z h0 a "com/example/sedimenta/sedimenta/Postings" "source" "Lcom/example/sedimenta/sedimenta/store/StoreInput;" f_source) (Ff_sourceEntry : Fld Z h0 a "com/example/sedimenta/sedimenta/Postings" "sourceEntry" "J" (.long f_sourceEntry)) (VQ : Arv Z h0 f_ownPositions kq .byte (0 : Int32) [] (.int (0 : Int32))) (ga : n0 ≤ a) (gq : n0 ≤ f_ownPositions) (naq : a ≠ f_ownPositions) (hk : 0 ≤ kn.toInt ∧ kn.toInt ≤ 7) :
    MetFree l (⟨"com/example/sedimenta/sedimenta/Postings", "positionsRoom", "(I)V"⟩ : MethodName) (head1 (Jvm.Cond.code (⟨"com/example/sedimenta/sedimenta/Postings", "positionsRoom", "(I)V"⟩ : MethodName) prog_81_method_55_code 2 none :: ws) ({ frames := 2, cells := 1, slots := 7, locals := 55 } : Room)) (fun as_ U => as_ = #[(.ref a), (.int kn)] ∧ Z.Warmed39 U.vm ∧ U.heap = h0) (fun _ _ _ _ _ => True) (fun _ U o U' => ∃ v L, o = .returned v ∧ Q_9 Z a kn f_own f_bytes f_last f_ownPositions f_positionBytes f_frequencies f_entriesChecked f_documentCount f_length f_count f_first f_firstFrequency f_firstLength f_positioned f_offset f_positionsOffset f_blocks f_source f_sourceEntry h0 n0 v U'.heap L ∧ FrameEnd U o U' L ({ frames := 2, cells := 1, slots := 7, locals := 55 } : Room).cells ({ frames := 2, cells := 1, slots := 7, locals := 55 } : Room).slots) := by
  refine MetFree.of_bodySF pn_9 hisR ?_
  intro p e s m args below meth c s₁ Bd hml0 hP hK
  obtain ⟨rfl, hZ, hh⟩ := hP
  have hx := Bd.exec
  have hby := Bd.bytes
  have hlk := BodyLoose.notSynchronized Bd
  have hml : c.maxLocals = 2 := hml0
  have hown : s.vm.findClass "com/example/sedimenta/sedimenta/Postings" = some m.cls := findClass_of_methodNamed Bd.named
  have hnm := (name_of_methodNamed Bd.named Bd.method).1
  have X0 : Stand p l e ({ frames := 2, cells := 1, slots := 7, locals := 55 } : Room) s m #[(.ref a), (.int kn)] below meth c s₁ [] 0 0 := Stand.of_body Bd
  have e0 : s₁.heap = h0 := by rw [← hh, Bd.state]; rfl
  have N0 := Fr.nil n0
  refine own_in (ef_9 m a kn) ?_
  show own_Fin p e below s (Q_9 Z a kn f_own f_bytes f_last f_ownPositions f_positionBytes f_frequencies f_entriesChecked f_documentCount f_length f_count f_first f_firstFrequency f_firstLength f_positioned f_offset f_positionsOffset f_blocks f_source f_sourceEntry h0 n0) 1 7 s₁ (mkF m 0 #[va a, vi kn] [])
  refine own_step (T' := s₁) (g' := (mkF m 1 #[va a, vi kn] [(.ref a)])) (fun t_ k_ => XS.aloadN X0.here hx rfl (hb hby d9_0) rfl rfl k_) ?_
  obtain ⟨T1, X2, e3, st4⟩ := getF X0 hx hZ hown (host := "") (Or.inl (own_w (i := 21) rfl hw)) Via.refl e0 Ff_ownPositions (g := (mkF m 1 #[va a, vi kn] [(.ref a)])) rfl rfl (hb hby d9_1)
  refine own_step (T' := T1) (g' := (mkF m 4 #[va a, vi kn] [(.ref f_ownPositions)])) st4 ?_
  have st5 := own_alen (g := (mkF m 4 #[va a, vi kn] [(.ref f_ownPositions)])) X2 hx hZ e3 (own_arl VQ (by decide)) (n := (0 : Int32)) (i := 0) rfl (by decide) rfl rfl (hb hby d9_4)
  refine own_step (T' := T1) (g' := (mkF m 5 #[va a, vi kn] [(.int (0 : Int32))])) st5 ?_
  refine own_step (T' := T1) (g' := (mkF m 6 #[va a, vi kn] [(.ref a), (.int (0 : Int32))])) (fun t_ k_ => XS.aloadN X2.here hx rfl (hb hby d9_5) rfl rfl k_) ?_
  obtain ⟨T6, X7, e8, st9⟩ := getF X2 hx hZ hown (host := "") (Or.inl (own_w (i := 71) rfl hw)) Via.refl e3 Ff_positionsLength (g := (mkF m 6 #[va a, vi kn] [(.ref a), (.int (0 : Int32))])) rfl rfl (hb hby d9_6)
  refine own_step (T' := T6) (g' := (mkF m 9 #[va a, vi kn] [(.int (0 : Int32)), (.int (0 : Int32))])) st9 ?_
  refine own_step (T' := T6) (g' := (mkF m 10 #[va a, vi kn] [(.int ((0 : Int32) - (0 : Int32)))])) (fun t_ k_ => XS.isub X7.here hx rfl (hb hby d9_9) rfl k_) ?_
  rw [(by decide : ((0 : Int32) - (0 : Int32)) = (0 : Int32))]
  refine own_step (T' := T6) (g' := (mkF m 11 #[va a, vi kn] [(.int kn), (.int (0 : Int32))])) (fun t_ k_ => XS.iloadN X7.here hx rfl (hb hby d9_10) rfl k_) ?_
  by_cases hb10 : (0 : Int32) < kn
  · refine own_step (T' := T6) (g' := (mkF m 14 #[va a, vi kn] [])) (fun t_ k_ => XS.icmpNo X7.here hx rfl (hb hby d9_11) rfl (XT.ii_ge_f hb10) k_) ?_
    refine own_step (T' := T6) (g' := (mkF m 15 #[va a, vi kn] [(.ref a)])) (fun t_ k_ => XS.aloadN X7.here hx rfl (hb hby d9_14) rfl rfl k_) ?_
    refine own_step (T' := T6) (g' := (mkF m 16 #[va a, vi kn] [(.ref a), (.ref a)])) (fun t_ k_ => XS.aloadN X7.here hx rfl (hb hby d9_15) rfl rfl k_) ?_
    obtain ⟨T11, X12, e13, st14⟩ := getF X7 hx hZ hown (host := "") (Or.inl (own_w (i := 21) rfl hw)) Via.refl e8 Ff_ownPositions (g := (mkF m 16 #[va a, vi kn] [(.ref a), (.ref a)])) rfl rfl (hb hby d9_16)
    refine own_step (T' := T11) (g' := (mkF m 19 #[va a, vi kn] [(.ref f_ownPositions), (.ref a)])) st14 ?_
    refine own_step (T' := T11) (g' := (mkF m 20 #[va a, vi kn] [(.ref a), (.ref f_ownPositions), (.ref a)])) (fun t_ k_ => XS.aloadN X12.here hx rfl (hb hby d9_19) rfl rfl k_) ?_
    obtain ⟨T15, X16, e17, st18⟩ := getF X12 hx hZ hown (host := "") (Or.inl (own_w (i := 21) rfl hw)) Via.refl e13 Ff_ownPositions (g := (mkF m 20 #[va a, vi kn] [(.ref a), (.ref f_ownPositions), (.ref a)])) rfl rfl (hb hby d9_20)
    refine own_step (T' := T15) (g' := (mkF m 23 #[va a, vi kn] [(.ref f_ownPositions), (.ref f_ownPositions), (.ref a)])) st18 ?_
    have st19 := own_alen (g := (mkF m 23 #[va a, vi kn] [(.ref f_ownPositions), (.ref f_ownPositions), (.ref a)])) X16 hx hZ e17 (own_arl VQ (by decide)) (n := (0 : Int32)) (i := 0) rfl (by decide) rfl rfl (hb hby d9_23)
    refine own_step (T' := T15) (g' := (mkF m 24 #[va a, vi kn] [(.int (0 : Int32)), (.ref f_ownPositions), (.ref a)])) st19 ?_
    refine own_step (T' := T15) (g' := (mkF m 25 #[va a, vi kn] [(.ref a), (.int (0 : Int32)), (.ref f_ownPositions), (.ref a)])) (fun t_ k_ => XS.aloadN X16.here hx rfl (hb hby d9_24) rfl rfl k_) ?_
    obtain ⟨T20, X21, e22, st23⟩ := getF X16 hx hZ hown (host := "") (Or.inl (own_w (i := 71) rfl hw)) Via.refl e17 Ff_positionsLength (g := (mkF m 25 #[va a, vi kn] [(.ref a), (.int (0 : Int32)), (.ref f_ownPositions), (.ref a)])) rfl rfl (hb hby d9_25)
    refine own_step (T' := T20) (g' := (mkF m 28 #[va a, vi kn] [(.int (0 : Int32)), (.int (0 : Int32)), (.ref f_ownPositions), (.ref a)])) st23 ?_
    refine own_step (T' := T20) (g' := (mkF m 29 #[va a, vi kn] [(.long (((0 : Int32)).toInt64)), (.int (0 : Int32)), (.ref f_ownPositions), (.ref a)])) (fun t_ k_ => XT.i2l X21.here hx rfl (hb hby d9_28) rfl k_) ?_
    refine own_step (T' := T20) (g' := (mkF m 30 #[va a, vi kn] [(.int kn), (.long (((0 : Int32)).toInt64)), (.int (0 : Int32)), (.ref f_ownPositions), (.ref a)])) (fun t_ k_ => XS.iloadN X21.here hx rfl (hb hby d9_29) rfl k_) ?_
    refine own_step (T' := T20) (g' := (mkF m 31 #[va a, vi kn] [(.long ((kn).toInt64)), (.long (((0 : Int32)).toInt64)), (.int (0 : Int32)), (.ref f_ownPositions), (.ref a)])) (fun t_ k_ => XT.i2l X21.here hx rfl (hb hby d9_30) rfl k_) ?_
    refine own_step (T' := T20) (g' := (mkF m 32 #[va a, vi kn] [(.long ((((0 : Int32)).toInt64) + ((kn).toInt64))), (.int (0 : Int32)), (.ref f_ownPositions), (.ref a)])) (fun t_ k_ => XT.ladd X21.here hx rfl (hb hby d9_31) rfl k_) ?_
    obtain ⟨_, _, ⟨Tc24, Lc24, kc24, nc24⟩, -, Xc24, ⟨Lcc24, hQc24, lc24, yc24, zc24⟩, stc24⟩ := Jvm.LawKit.callS X21 hx (y := (⟨"com/example/sedimenta/sedimenta/Postings", "grownLength", "(IJ)I"⟩ : MethodName)) hown (mvT hZ (own_w (i := 152) rfl hw)) (mvT hZ (own_w (i := 153) rfl hw)) (mvT hZ (own_w (i := 7) rfl hw)) (mvT hZ (own_w (i := 154) rfl hw)) (by decide) (backOf (W := 2) (rm_gl l Z a0 hw [] kn h0 n0 Z0 hk) hZ (own_w (i := 154) rfl hw) (own_w (i := 7) rfl hw) (by decide) (by decide)) (g := (mkF m 32 #[va a, vi kn] [(.long ((((0 : Int32)).toInt64) + ((kn).toInt64))), (.int (0 : Int32)), (.ref f_ownPositions), (.ref a)])) rfl (by rw [hml]; rfl) (argsL := [(.int (0 : Int32)), (.long ((((0 : Int32)).toInt64) + ((kn).toInt64)))]) (rest := [(.ref f_ownPositions), (.ref a)]) (lenOf pd_7 rfl) rfl (by show 2 * 0 + _ ≤ _; exact Nat.le_of_eq rfl) (hb hby d9_32) (fun _ _ => ⟨rfl, e22, (by decide : 0 + 0 ≤ _), (by decide : 0 + 0 ≤ _)⟩)
    dsimp only [Pt.U, Pt.locs, Pt.cells, Pt.slots] at Xc24 lc24 yc24 zc24 stc24 hQc24
    subst lc24 yc24 zc24
    have X25 := Xc24.more (cells' := 0) (slots' := 0) (by decide) (by decide)
    obtain ⟨rfl, N26, e27⟩ := hQc24
    have N28 := Fr.app N0 N26
    obtain ⟨Lo29, X30, N31⟩ : ∃ Lo_, Stand p l e ({ frames := 2, cells := 1, slots := 7, locals := 55 } : Room) s m #[(.ref a), (.int kn)] below meth c Tc24 Lo_ 0 0 ∧ Fr n0 Lo_ := ⟨_, X25, N28⟩
    refine own_step (T' := Tc24) (g' := (mkF m 35 #[va a, vi kn] [(.int kn), (.ref f_ownPositions), (.ref a)])) stc24 ?_
    obtain ⟨_, _, ⟨Tc32, Lc32, kc32, nc32⟩, -, Xc32, ⟨Lcc32, hQc32, lc32, yc32, zc32⟩, stc32⟩ := Jvm.LawKit.callS X30 hx (y := (⟨"java/util/Arrays", "copyOf", "([BI)[B"⟩ : MethodName)) hown (mvT hZ (own_w (i := 163) rfl hw)) (mvT hZ (own_w (i := 164) rfl hw)) (mvT hZ (own_w (i := 165) rfl hw)) (mvT hZ (own_w (i := 166) rfl hw)) (by decide) (backOf (W := 1) (rm_cp l Z a0 hw [] f_ownPositions kn kq h0 n0 Z0 VQ hk hb10) hZ (own_w (i := 166) rfl hw) (own_w (i := 165) rfl hw) (by decide) (by decide)) (g := (mkF m 35 #[va a, vi kn] [(.int kn), (.ref f_ownPositions), (.ref a)])) rfl (by rw [hml]; rfl) (argsL := [(.ref f_ownPositions), (.int kn)]) (rest := [(.ref a)]) (lenOf pd_8 rfl) rfl (by show 2 * 0 + _ ≤ _; exact Nat.le_of_eq rfl) (hb hby d9_35) (fun _ _ => ⟨rfl, e27, (by decide : 0 + 1 ≤ _), (by decide : 0 + 7 ≤ _)⟩)
    dsimp only [Pt.U, Pt.locs, Pt.cells, Pt.slots] at Xc32 lc32 yc32 zc32 stc32 hQc32
    subst lc32 yc32 zc32
    have X33 := Xc32.more (cells' := 1) (slots' := 7) (by decide) (by decide)
    obtain ⟨r34, kr35, rfl, N36, K37, hr38, V39⟩ := hQc32
    have N40 := Fr.app N31 N36
    have ne41 : a ≠ r34 := Nat.ne_of_lt (Nat.lt_of_lt_of_le E_a.lt hr38)
    have ne42 : f_ownPositions ≠ r34 := Nat.ne_of_lt (Nat.lt_of_lt_of_le VQ.lt hr38)
    have q43 : n0 ≤ r34 := Nat.le_trans Z0 hr38
    have F44 := Nat.le_trans Z0 K37.1
    have F45 := E_a.keep K37
    have F46 := Ff_own.keep K37 nin0
    have F47 := Ff_bytes.keep K37 nin0
    have F48 := Ff_last.keep K37 nin0
    have F49 := Ff_ownPositions.keep K37 nin0
    have F50 := Ff_positionBytes.keep K37 nin0
    have F51 := Ff_frequencies.keep K37 nin0
    have F52 := Ff_entriesChecked.keep K37 nin0
    have F53 := Ff_documentCount.keep K37 nin0
    have F54 := Ff_length.keep K37 nin0
    have F55 := Ff_count.keep K37 nin0
    have F56 := Ff_first.keep K37 nin0
    have F57 := Ff_firstFrequency.keep K37 nin0
    have F58 := Ff_firstLength.keep K37 nin0
    have F59 := Ff_positionsLength.keep K37 nin0
    have F60 := Ff_positioned.keep K37 nin0
    have F61 := Ff_offset.keep K37 nin0
    have F62 := Ff_positionsOffset.keep K37 nin0
    have F63 := Ff_blocks.keep K37 nin0
    have F64 := Ff_source.keep K37 nin0
    have F65 := Ff_sourceEntry.keep K37 nin0
    have F66 := (Keep.refl h0 [a]).trans K37 all0
    have F67 := VQ.keep K37 nin0
    have F68 := (own_arl VQ (by decide)).keep K37 nin0
    obtain ⟨Lo69, X70, N71⟩ : ∃ Lo_, Stand p l e ({ frames := 2, cells := 1, slots := 7, locals := 55 } : Room) s m #[(.ref a), (.int kn)] below meth c Tc32 Lo_ 1 7 ∧ Fr n0 Lo_ := ⟨_, X33, N40⟩
    refine own_step (T' := Tc32) (g' := (mkF m 38 #[va a, vi kn] [(.ref r34), (.ref a)])) stc32 ?_
    obtain ⟨T72, h73, X74, e75, W76, st77⟩ := putF X70 hx hZ hown (host := "") (Or.inl (own_w (i := 21) rfl hw)) Via.refl rfl F49 F45 (Or.inl (own_w (i := 22) rfl hw)) (own_w (i := 6) rfl hw) (ty := (.array .byte)) (by decide) rfl rfl (g := (mkF m 38 #[va a, vi kn] [(.ref r34), (.ref a)])) rfl rfl (hb hby d9_38)
    have N78 := Fr.snoc X74 N71 ga
    have F79 := Nat.le_trans F44 (Keep.of_wr W76).1
    have F80 := F45.wr W76
    have F81 := F46.other W76 (Or.inr (own_so (lf16 hw) (lf22 hw) (by decide)))
    have F82 := F47.other W76 (Or.inr (own_so (lf18 hw) (lf22 hw) (by decide)))
    have F83 := F48.other W76 (Or.inr (own_so (lf20 hw) (lf22 hw) (by decide)))
    have F84 : Fld Z h73 a "com/example/sedimenta/sedimenta/Postings" "ownPositions" "[B" (.ref r34) := F49.same W76
    have F85 := F50.other W76 (Or.inr (own_so (lf24 hw) (lf22 hw) (by decide)))
    have F86 := F51.other W76 (Or.inr (own_so (lf27 hw) (lf22 hw) (by decide)))
    have F87 := F52.other W76 (Or.inr (own_so (lf29 hw) (lf22 hw) (by decide)))
    have F88 := F53.other W76 (Or.inr (own_so (lf32 hw) (lf22 hw) (by decide)))
    have F89 := F54.other W76 (Or.inr (own_so (lf43 hw) (lf22 hw) (by decide)))
    have F90 := F55.other W76 (Or.inr (own_so (lf45 hw) (lf22 hw) (by decide)))
    have F91 := F56.other W76 (Or.inr (own_so (lf57 hw) (lf22 hw) (by decide)))
    have F92 := F57.other W76 (Or.inr (own_so (lf59 hw) (lf22 hw) (by decide)))
    have F93 := F58.other W76 (Or.inr (own_so (lf61 hw) (lf22 hw) (by decide)))
    have F94 := F59.other W76 (Or.inr (own_so (lf72 hw) (lf22 hw) (by decide)))
    have F95 := F60.other W76 (Or.inr (own_so (lf78 hw) (lf22 hw) (by decide)))
    have F96 := F61.other W76 (Or.inr (own_so (lf85 hw) (lf22 hw) (by decide)))
    have F97 := F62.other W76 (Or.inr (own_so (lf87 hw) (lf22 hw) (by decide)))
    have F98 := F63.other W76 (Or.inr (own_so (lf89 hw) (lf22 hw) (by decide)))
    have F99 := F64.other W76 (Or.inr (own_so (lf91 hw) (lf22 hw) (by decide)))
    have F100 := F65.other W76 (Or.inr (own_so (lf93 hw) (lf22 hw) (by decide)))
    have F101 := F66.wr W76 (Or.inl (List.mem_of_getElem? (i := 0) rfl))
    have F102 := F67.other W76 (Ne.symm naq)
    have F103 := F68.other W76 (Ne.symm naq)
    have F104 := V39.other W76 (Ne.symm ne41)
    obtain ⟨Lo105, X106, N107⟩ : ∃ Lo_, Stand p l e ({ frames := 2, cells := 1, slots := 7, locals := 55 } : Room) s m #[(.ref a), (.int kn)] below meth c T72 Lo_ 1 7 ∧ Fr n0 Lo_ := ⟨_, X74, N78⟩
    refine own_step (T' := T72) (g' := (mkF m 41 #[va a, vi kn] [])) st77 ?_
    refine own_step (T' := T72) (g' := (mkF m 42 #[va a, vi kn] [(.ref a)])) (fun t_ k_ => XS.aloadN X106.here hx rfl (hb hby d9_41) rfl rfl k_) ?_
    refine own_step (T' := T72) (g' := (mkF m 43 #[va a, vi kn] [(.ref a), (.ref a)])) (fun t_ k_ => XS.aloadN X106.here hx rfl (hb hby d9_42) rfl rfl k_) ?_
    obtain ⟨T108, X109, e110, st111⟩ := getF X106 hx hZ hown (host := "") (Or.inl (own_w (i := 21) rfl hw)) Via.refl e75 F84 (g := (mkF m 43 #[va a, vi kn] [(.ref a), (.ref a)])) rfl rfl (hb hby d9_43)
    refine own_step (T' := T108) (g' := (mkF m 46 #[va a, vi kn] [(.ref r34), (.ref a)])) st111 ?_
    obtain ⟨T112, h113, X114, e115, W116, st117⟩ := putF X109 hx hZ hown (host := "") (Or.inl (own_w (i := 23) rfl hw)) Via.refl e110 F85 F80 (Or.inl (own_w (i := 24) rfl hw)) (own_w (i := 6) rfl hw) (ty := (.array .byte)) (by decide) rfl rfl (g := (mkF m 46 #[va a, vi kn] [(.ref r34), (.ref a)])) rfl rfl (hb hby d9_46)
    have N118 := Fr.snoc X114 N107 ga
    have F119 := Nat.le_trans F79 (Keep.of_wr W116).1
    have F120 := F80.wr W116
    have F121 := F81.other W116 (Or.inr (own_so (lf16 hw) (lf24 hw) (by decide)))
    have F122 := F82.other W116 (Or.inr (own_so (lf18 hw) (lf24 hw) (by decide)))
    have F123 := F83.other W116 (Or.inr (own_so (lf20 hw) (lf24 hw) (by decide)))
    have F124 := F84.other W116 (Or.inr (own_so (lf22 hw) (lf24 hw) (by decide)))
    have F125 : Fld Z h113 a "com/example/sedimenta/sedimenta/Postings" "positionBytes" "[B" (.ref r34) := F85.same W116
    have F126 := F86.other W116 (Or.inr (own_so (lf27 hw) (lf24 hw) (by decide)))
    have F127 := F87.other W116 (Or.inr (own_so (lf29 hw) (lf24 hw) (by decide)))
    have F128 := F88.other W116 (Or.inr (own_so (lf32 hw) (lf24 hw) (by decide)))
    have F129 := F89.other W116 (Or.inr (own_so (lf43 hw) (lf24 hw) (by decide)))
    have F130 := F90.other W116 (Or.inr (own_so (lf45 hw) (lf24 hw) (by decide)))
    have F131 := F91.other W116 (Or.inr (own_so (lf57 hw) (lf24 hw) (by decide)))
    have F132 := F92.other W116 (Or.inr (own_so (lf59 hw) (lf24 hw) (by decide)))
    have F133 := F93.other W116 (Or.inr (own_so (lf61 hw) (lf24 hw) (by decide)))
    have F134 := F94.other W116 (Or.inr (own_so (lf72 hw) (lf24 hw) (by decide)))
    have F135 := F95.other W116 (Or.inr (own_so (lf78 hw) (lf24 hw) (by decide)))
    have F136 := F96.other W116 (Or.inr (own_so (lf85 hw) (lf24 hw) (by decide)))
    have F137 := F97.other W116 (Or.inr (own_so (lf87 hw) (lf24 hw) (by decide)))
    have F138 := F98.other W116 (Or.inr (own_so (lf89 hw) (lf24 hw) (by decide)))
    have F139 := F99.other W116 (Or.inr (own_so (lf91 hw) (lf24 hw) (by decide)))
    have F140 := F100.other W116 (Or.inr (own_so (lf93 hw) (lf24 hw) (by decide)))
    have F141 := F101.wr W116 (Or.inl (List.mem_of_getElem? (i := 0) rfl))
    have F142 := F102.other W116 (Ne.symm naq)
    have F143 := F103.other W116 (Ne.symm naq)
    have F144 := F104.other W116 (Ne.symm ne41)
    obtain ⟨Lo145, X146, N147⟩ : ∃ Lo_, Stand p l e ({ frames := 2, cells := 1, slots := 7, locals := 55 } : Room) s m #[(.ref a), (.int kn)] below meth c T112 Lo_ 1 7 ∧ Fr n0 Lo_ := ⟨_, X114, N118⟩
    refine own_step (T' := T112) (g' := (mkF m 49 #[va a, vi kn] [])) st117 ?_
    exact own_ret X146 hx hlk Bd.returns (hb hby d9_49) (by rw [e115]; exact ⟨_, _, rfl, N147, F141, F144, q43, ne41, Or.inr (Nat.le_trans (Keep.refl h0 [a]).1 hr38), F121, F122, F123, F124, F125, F126, F127, F128, F129, F130, F131, F132, F133, F134, F135, F136, F137, F138, F139, F140⟩) (by decide) (by decide)
  · refine own_step (T' := T6) (g' := (mkF m 41 #[va a, vi kn] [])) (fun t_ k_ => XS.icmpYes X7.here hx rfl (pc0 := 11) (pc' := 41) rfl (hb hby d9_11) rfl (XT.ii_ge_t hb10) (by decide) (by decide) k_) ?_
    refine own_step (T' := T6) (g' := (mkF m 42 #[va a, vi kn] [(.ref a)])) (fun t_ k_ => XS.aloadN X7.here hx rfl (hb hby d9_41) rfl rfl k_) ?_
    refine own_step (T' := T6) (g' := (mkF m 43 #[va a, vi kn] [(.ref a), (.ref a)])) (fun t_ k_ => XS.aloadN X7.here hx rfl (hb hby d9_42) rfl rfl k_) ?_
    obtain ⟨T148, X149, e150, st151⟩ := getF X7 hx hZ hown (host := "") (Or.inl (own_w (i := 21) rfl hw)) Via.refl e8 Ff_ownPositions (g := (mkF m 43 #[va a, vi kn] [(.ref a), (.ref a)])) rfl rfl (hb hby d9_43)
    refine own_step (T' := T148) (g' := (mkF m 46 #[va a, vi kn] [(.ref f_ownPositions), (.ref a)])) st151 ?_
    obtain ⟨T152, h153, X154, e155, W156, st157⟩ := putF X149 hx hZ hown (host := "") (Or.inl (own_w (i := 23) rfl hw)) Via.refl e150 Ff_positionBytes E_a (Or.inl (own_w (i := 24) rfl hw)) (own_w (i := 6) rfl hw) (ty := (.array .byte)) (by decide) rfl rfl (g := (mkF m 46 #[va a, vi kn] [(.ref f_ownPositions), (.ref a)])) rfl rfl (hb hby d9_46)
    have N158 := Fr.snoc X154 N0 ga
    have F159 := Nat.le_trans Z0 (Keep.of_wr W156).1
    have F160 := E_a.wr W156
    have F161 := Ff_own.other W156 (Or.inr (own_so (lf16 hw) (lf24 hw) (by decide)))
    have F162 := Ff_bytes.other W156 (Or.inr (own_so (lf18 hw) (lf24 hw) (by decide)))
    have F163 := Ff_last.other W156 (Or.inr (own_so (lf20 hw) (lf24 hw) (by decide)))
    have F164 := Ff_ownPositions.other W156 (Or.inr (own_so (lf22 hw) (lf24 hw) (by decide)))
    have F165 : Fld Z h153 a "com/example/sedimenta/sedimenta/Postings" "positionBytes" "[B" (.ref f_ownPositions) := Ff_positionBytes.same W156
    have F166 := Ff_frequencies.other W156 (Or.inr (own_so (lf27 hw) (lf24 hw) (by decide)))
    have F167 := Ff_entriesChecked.other W156 (Or.inr (own_so (lf29 hw) (lf24 hw) (by decide)))
    have F168 := Ff_documentCount.other W156 (Or.inr (own_so (lf32 hw) (lf24 hw) (by decide)))
    have F169 := Ff_length.other W156 (Or.inr (own_so (lf43 hw) (lf24 hw) (by decide)))
    have F170 := Ff_count.other W156 (Or.inr (own_so (lf45 hw) (lf24 hw) (by decide)))
    have F171 := Ff_first.other W156 (Or.inr (own_so (lf57 hw) (lf24 hw) (by decide)))
    have F172 := Ff_firstFrequency.other W156 (Or.inr (own_so (lf59 hw) (lf24 hw) (by decide)))
    have F173 := Ff_firstLength.other W156 (Or.inr (own_so (lf61 hw) (lf24 hw) (by decide)))
    have F174 := Ff_positionsLength.other W156 (Or.inr (own_so (lf72 hw) (lf24 hw) (by decide)))
    have F175 := Ff_positioned.other W156 (Or.inr (own_so (lf78 hw) (lf24 hw) (by decide)))
    have F176 := Ff_offset.other W156 (Or.inr (own_so (lf85 hw) (lf24 hw) (by decide)))
    have F177 := Ff_positionsOffset.other W156 (Or.inr (own_so (lf87 hw) (lf24 hw) (by decide)))
    have F178 := Ff_blocks.other W156 (Or.inr (own_so (lf89 hw) (lf24 hw) (by decide)))
    have F179 := Ff_source.other W156 (Or.inr (own_so (lf91 hw) (lf24 hw) (by decide)))
    have F180 := Ff_sourceEntry.other W156 (Or.inr (own_so (lf93 hw) (lf24 hw) (by decide)))
    have F181 := (Keep.refl h0 [a]).wr W156 (Or.inl (List.mem_of_getElem? (i := 0) rfl))
    have F182 := VQ.other W156 (Ne.symm naq)
    have F183 := (own_arl VQ (by decide)).other W156 (Ne.symm naq)
    obtain ⟨Lo184, X185, N186⟩ : ∃ Lo_, Stand p l e ({ frames := 2, cells := 1, slots := 7, locals := 55 } : Room) s m #[(.ref a), (.int kn)] below meth c T152 Lo_ 0 0 ∧ Fr n0 Lo_ := ⟨_, X154, N158⟩
    refine own_step (T' := T152) (g' := (mkF m 49 #[va a, vi kn] [])) st157 ?_
    exact own_ret X185 hx hlk Bd.returns (hb hby d9_49) (by rw [e155]; exact ⟨_, _, rfl, N186, F181, (own_arvz F182 (own_kz hk hb10)), gq, naq, Or.inl rfl, F161, F162, F163, F164, F165, F166, F167, F168, F169, F170, F171, F172, F173, F174, F175, F176, F177, F178, F179, F180⟩) (by decide) (by decide)
theorem d8_0 : decode prog_81_method_16_code 0 = .ok (.iload_n 3, 1) := by decide +kernel
theorem d8_1 : decode prog_81_method_16_code 1 = .ok (.iload_n 2, 1) := by decide +kernel
theorem d8_2 : decode prog_81_method_16_code 2 = .ok (.isub, 1) := by decide +kernel
theorem d8_3 : decode prog_81_method_16_code 3 = .ok (.istore 4, 2) := by decide +kernel
theorem d8_5 : decode prog_81_method_16_code 5 = .ok (.aload_n 0, 1) := by decide +kernel
theorem d8_6 : decode prog_81_method_16_code 6 = .ok (.iload 4, 2) := by decide +kernel
theorem d8_8 : decode prog_81_method_16_code 8 = .ok (.invokevirtual 172, 3) := by decide +kernel
theorem d8_11 : decode prog_81_method_16_code 11 = .ok (.aload_n 1, 1) := by decide +kernel
theorem d8_12 : decode prog_81_method_16_code 12 = .ok (.iload_n 2, 1) := by decide +kernel
theorem d8_13 : decode prog_81_method_16_code 13 = .ok (.aload_n 0, 1) := by decide +kernel
theorem d8_14 : decode prog_81_method_16_code 14 = .ok (.getfield 24, 3) := by decide +kernel
theorem d8_17 : decode prog_81_method_16_code 17 = .ok (.aload_n 0, 1) := by decide +kernel
theorem d8_18 : decode prog_81_method_16_code 18 = .ok (.getfield 66, 3) := by decide +kernel
theorem d8_21 : decode prog_81_method_16_code 21 = .ok (.iload 4, 2) := by decide +kernel
theorem d8_23 : decode prog_81_method_16_code 23 = .ok (.invokestatic 159, 3) := by decide +kernel
theorem d8_26 : decode prog_81_method_16_code 26 = .ok (.aload_n 0, 1) := by decide +kernel
theorem d8_27 : decode prog_81_method_16_code 27 = .ok (.dup, 1) := by decide +kernel
theorem d8_28 : decode prog_81_method_16_code 28 = .ok (.getfield 66, 3) := by decide +kernel
theorem d8_31 : decode prog_81_method_16_code 31 = .ok (.iload 4, 2) := by decide +kernel
theorem d8_33 : decode prog_81_method_16_code 33 = .ok (.iadd, 1) := by decide +kernel
theorem d8_34 : decode prog_81_method_16_code 34 = .ok (.putfield 66, 3) := by decide +kernel
theorem d8_37 : decode prog_81_method_16_code 37 = .ok (.aload_n 0, 1) := by decide +kernel
theorem d8_38 : decode prog_81_method_16_code 38 = .ok (.iconst 1, 1) := by decide +kernel
theorem d8_39 : decode prog_81_method_16_code 39 = .ok (.putfield 60, 3) := by decide +kernel
theorem d8_42 : decode prog_81_method_16_code 42 = .ok (.return_, 1) := by decide +kernel
theorem pn_8 : plainFor (⟨"com/example/sedimenta/sedimenta/Postings", "addPositions", "([BII)V"⟩ : MethodName) = true := by first | exact plainFor_of_name (by first | (simp [plainName, overriddenIn]; done) | decide +kernel) | decide +kernel
theorem ef_8 (m : MethodId) (x0 : Addr) (x1 : Addr) (x2 : Int32) (x3 : Int32) : entryFrame m #[(.ref x0), (.ref x1), (.int x2), (.int x3)] 5 = mkF m 0 #[.val (.ref x0), .val (.ref x1), .val (.int x2), .val (.int x3), .unset] [] := by first | (simp [entryFrame, mkF, argsToLocals, Value.category]; done) | rfl
def Q_8 (Z : State) (a : Addr) (kn : Int32) (f_own : Value) (f_bytes : Value) (f_last : Int32) (f_ownPositions : Addr) (f_positionBytes : Value) (f_frequencies : Value) (f_entriesChecked : Int32) (f_documentCount : Int32) (f_length : Int32) (f_count : Int32) (f_first : Int32) (f_firstFrequency : Int32) (f_firstLength : Int32) (f_positioned : Int32) (f_offset : Int32) (f_positionsOffset : Int32) (f_blocks : Value) (f_source : Value) (f_sourceEntry : Int64) (h0 : Heap) (n0 : Nat) (v : Option Value) (h : Heap) (L : List Loc) : Prop := ∃ (r : Addr), v = none ∧ Fr n0 L ∧ Keep h0 h [a, f_ownPositions] ∧ Fld Z h a "com/example/sedimenta/sedimenta/Postings" "own" "[B" f_own ∧ Fld Z h a "com/example/sedimenta/sedimenta/Postings" "bytes" "[B" f_bytes ∧ Fld Z h a "com/example/sedimenta/sedimenta/Postings" "last" "I" (.int f_last) ∧ Fld Z h a "com/example/sedimenta/sedimenta/Postings" "ownPositions" "[B" (.ref r) ∧ Fld Z h a "com/example/sedimenta/sedimenta/Postings" "positionBytes" "[B" (.ref r) ∧ Fld Z h a "com/example/sedimenta/sedimenta/Postings" "frequencies" "[I" f_frequencies ∧ Fld Z h a "com/example/sedimenta/sedimenta/Postings" "entriesChecked" "Z" (.int f_entriesChecked) ∧ Fld Z h a "com/example/sedimenta/sedimenta/Postings" "documentCount" "I" (.int f_documentCount) ∧ Fld Z h a "com/example/sedimenta/sedimenta/Postings" "length" "I" (.int f_length) ∧ Fld Z h a "com/example/sedimenta/sedimenta/Postings" "count" "I" (.int f_count) ∧ Fld Z h a "com/example/sedimenta/sedimenta/Postings" "first" "I" (.int f_first) ∧ Fld Z h a "com/example/sedimenta/sedimenta/Postings" "firstFrequency" "I" (.int f_firstFrequency) ∧ Fld Z h a "com/example/sedimenta/sedimenta/Postings" "firstLength" "I" (.int f_firstLength) ∧ Fld Z h a "com/example/sedimenta/sedimenta/Postings" "positionsLength" "I" (.int ((0 : Int32) + kn)) ∧ Fld Z h a "com/example/sedimenta/sedimenta/Postings" "positioned" "Z" (.int (nar .boolean (1 : Int32))) ∧ Fld Z h a "com/example/sedimenta/sedimenta/Postings" "offset" "I" (.int f_offset) ∧ Fld Z h a "com/example/sedimenta/sedimenta/Postings" "positionsOffset" "I" (.int f_positionsOffset) ∧ Fld Z h a "com/example/sedimenta/sedimenta/Postings" "blocks" "Lcom/example/sedimenta/sedimenta/TermBlocks;" f_blocks ∧ Fld Z h a "com/example/sedimenta/sedimenta/Postings" "source" "Lcom/example/sedimenta/sedimenta/store/StoreInput;" f_source ∧ Fld Z h a "com/example/sedimenta/sedimenta/Postings" "sourceEntry" "J" (.long f_sourceEntry)
set_option maxRecDepth 65536 in
set_option maxHeartbeats 40000000 in
theorem rm_ap (l : Launch) (Z : State) (a0 : Array Value) (hw : ∀ d ∈ tables_1, d.before a0 Z = true) (ws : List Jvm.Cond) (a sr : Addr) (kn : Int32) (f_own : Value) (f_bytes : Value) (f_last : Int32) (f_ownPositions : Addr) (f_positionBytes : Value) (f_frequencies : Value) (f_entriesChecked : Int32) (f_documentCount : Int32) (f_length : Int32) (f_count : Int32) (f_first : Int32) (f_firstFrequency : Int32) (f_firstLength : Int32) (f_positioned : Int32) (f_offset : Int32) (f_positionsOffset : Int32) (f_blocks : Value) (f_source : Value) (f_sourceEntry : Int64) (kq ks : ClassId) (h0 : Heap) (n0 : Nat) (Z0 : n0 ≤ h0.size) (E_a : Exa Z h0 a "com/example/sedimenta/sedimenta/Postings") (Ff_own : Fld Z h0 a "com/example/sedimenta/sedimenta/Postings" "own" "[B" f_own) (Ff_bytes : Fld Z h0 a "com/example/sedimenta/sedimenta/Postings" "bytes" "[B" f_bytes) (Ff_last : Fld Z h0 a "com/example/sedimenta/sedimenta/Postings" "last" "I" (.int f_last)) (Ff_ownPositions : Fld Z h0 a "com/example/sedimenta/sedimenta/Postings" "ownPositions" "[B" (.ref f_ownPositions)) (Ff_positionBytes : Fld Z h0 a "com/example/sedimenta/sedimenta/Postings" "positionBytes" "[B" f_positionBytes) (Ff_frequencies : Fld Z h0 a "com/example/sedimenta/sedimenta/Postings" "frequencies" "[I" f_frequencies) (Ff_entriesChecked : Fld Z h0 a "com/example/sedimenta/sedimenta/Postings" "entriesChecked" "Z" (.int f_entriesChecked)) (Ff_documentCount : Fld Z h0 a "com/example/sedimenta/sedimenta/Postings" "documentCount" "I" (.int f_documentCount)) (Ff_length : Fld Z h0 a "com/example/sedimenta/sedimenta/Postings" "length" "I" (.int f_length)) (Ff_count : Fld Z h0 a "com/example/sedimenta/sedimenta/Postings" "count" "I" (.int f_count)) (Ff_first : Fld Z h0 a "com/example/sedimenta/sedimenta/Postings" "first" "I" (.int f_first)) (Ff_firstFrequency : Fld Z h0 a "com/example/sedimenta/sedimenta/Postings" "firstFrequency" "I" (.int f_firstFrequency)) (Ff_firstLength : Fld Z h0 a "com/example/sedimenta/sedimenta/Postings" "firstLength" "I" (.int f_firstLength)) (Ff_positionsLength : Fld Z h0 a "com/example/sedimenta/sedimenta/Postings" "positionsLength" "I" (.int (0 : Int32))) (Ff_positioned : Fld Z h0 a "com/example/sedimenta/sedimenta/Postings" "positioned" "Z" (.int f_positioned)) (Ff_offset : Fld Z h0 a "com/example/sedimenta/sedimenta/Postings" "offset" "I" (.int f_offset)) (Ff_positionsOffset : Fld Z h0 a "com/example/sedimenta/sedimenta/Postings" "positionsOffset" "I" (.int f_positionsOffset)) (Ff_blocks : Fld Z h0 a "com/example/sedimenta/sedimenta/Postings" "blocks" "Lcom/example/sedimenta/sedimenta/TermBlocks;" f_blocks) (Ff_source : Fld Z h0 a "com/example/sedimenta/sedimenta/Postings" "source" "Lcom/example/sedimenta/sedimenta/store/StoreInput;" f_source) (Ff_sourceEntry : Fld Z h0 a "com/example/sedimenta/sedimenta/Postings" "sourceEntry" "J" (.long f_sourceEntry)) (VQ : Arv Z h0 f_ownPositions kq .byte (0 : Int32) [] (.int (0 : Int32))) (ga : n0 ≤ a) (gq : n0 ≤ f_ownPositions) (naq : a ≠ f_ownPositions) (hk : 0 ≤ kn.toInt ∧ kn.toInt ≤ 7) (VS : Arv Z h0 sr ks .byte (8 : Int32) [] (.int (0 : Int32))) (nsa : sr ≠ a) (nsq : sr ≠ f_ownPositions) :
    MetFree l (⟨"com/example/sedimenta/sedimenta/Postings", "addPositions", "([BII)V"⟩ : MethodName) (head1 (Jvm.Cond.code (⟨"com/example/sedimenta/sedimenta/Postings", "addPositions", "([BII)V"⟩ : MethodName) prog_81_method_16_code 5 none :: ws) ({ frames := 3, cells := 1, slots := 7, locals := 68 } : Room)) (fun as_ U => as_ = #[(.ref a), (.ref sr), (.int (0 : Int32)), (.int kn)] ∧ Z.Warmed39 U.vm ∧ U.heap = h0) (fun _ _ _ _ _ => True) (fun _ U o U' => ∃ v L, o = .returned v ∧ Q_8 Z a kn f_own f_bytes f_last f_ownPositions f_positionBytes f_frequencies f_entriesChecked f_documentCount f_length f_count f_first f_firstFrequency f_firstLength f_positioned f_offset f_positionsOffset f_blocks f_source f_sourceEntry h0 n0 v U'.heap L ∧ FrameEnd U o U' L ({ frames := 3, cells := 1, slots := 7, locals := 68 } : Room).cells ({ frames := 3, cells := 1, slots := 7, locals := 68 } : Room).slots) := by
  refine MetFree.of_bodySF pn_8 hisR ?_
  intro p e s m args below meth c s₁ Bd hml0 hP hK
  obtain ⟨rfl, hZ, hh⟩ := hP
  have hx := Bd.exec
  have hby := Bd.bytes
  have hlk := BodyLoose.notSynchronized Bd
  have hml : c.maxLocals = 5 := hml0
  have hown : s.vm.findClass "com/example/sedimenta/sedimenta/Postings" = some m.cls := findClass_of_methodNamed Bd.named
  have hnm := (name_of_methodNamed Bd.named Bd.method).1
  have X0 : Stand p l e ({ frames := 3, cells := 1, slots := 7, locals := 68 } : Room) s m #[(.ref a), (.ref sr), (.int (0 : Int32)), (.int kn)] below meth c s₁ [] 0 0 := Stand.of_body Bd
  have e0 : s₁.heap = h0 := by rw [← hh, Bd.state]; rfl
  have N0 := Fr.nil n0
  refine own_in (ef_8 m a sr (0 : Int32) kn) ?_
  show own_Fin p e below s (Q_8 Z a kn f_own f_bytes f_last f_ownPositions f_positionBytes f_frequencies f_entriesChecked f_documentCount f_length f_count f_first f_firstFrequency f_firstLength f_positioned f_offset f_positionsOffset f_blocks f_source f_sourceEntry h0 n0) 1 7 s₁ (mkF m 0 #[va a, va sr, vi (0 : Int32), vi kn, un] [])
  refine own_step (T' := s₁) (g' := (mkF m 1 #[va a, va sr, vi (0 : Int32), vi kn, un] [(.int kn)])) (fun t_ k_ => XS.iloadN X0.here hx rfl (hb hby d8_0) rfl k_) ?_
  refine own_step (T' := s₁) (g' := (mkF m 2 #[va a, va sr, vi (0 : Int32), vi kn, un] [(.int (0 : Int32)), (.int kn)])) (fun t_ k_ => XS.iloadN X0.here hx rfl (hb hby d8_1) rfl k_) ?_
  refine own_step (T' := s₁) (g' := (mkF m 3 #[va a, va sr, vi (0 : Int32), vi kn, un] [(.int (kn - (0 : Int32)))])) (fun t_ k_ => XS.isub X0.here hx rfl (hb hby d8_2) rfl k_) ?_
  rw [own_sub0 kn]
  refine own_step (T' := s₁) (g' := (mkF m 5 #[va a, va sr, vi (0 : Int32), vi kn, vi kn] [])) (fun t_ k_ => XS.istore X0.here hx rfl (hb hby d8_3) rfl (l' := #[va a, va sr, vi (0 : Int32), vi kn, vi kn]) rfl k_) ?_
  refine own_step (T' := s₁) (g' := (mkF m 6 #[va a, va sr, vi (0 : Int32), vi kn, vi kn] [(.ref a)])) (fun t_ k_ => XS.aloadN X0.here hx rfl (hb hby d8_5) rfl rfl k_) ?_
  refine own_step (T' := s₁) (g' := (mkF m 8 #[va a, va sr, vi (0 : Int32), vi kn, vi kn] [(.int kn), (.ref a)])) (fun t_ k_ => XS.iload X0.here hx rfl (hb hby d8_6) rfl k_) ?_
  obtain ⟨cqc1, qac1, qbc1⟩ := E_a.cell
  obtain ⟨cic1, kic1, iac1, ibc1, -, icc1, -⟩ := Cond.instantiable_spec (mvT (args := #[(.ref a), (.ref sr), (.int (0 : Int32)), (.int kn)]) hZ (own_w (i := 6) rfl hw))
  have hpc1 := Cond.privateMethod_at (mvP (args := #[(.ref a), (.ref sr), (.int (0 : Int32)), (.int kn)]) hZ (own_w (i := 69) rfl hw))
  obtain ⟨_, _, ⟨Tc1, Lc1, kc1, nc1⟩, -, Xc1, ⟨Lcc1, hQc1, lc1, yc1, zc1⟩, stc1⟩ := X0.privateBack hx (y := (⟨"com/example/sedimenta/sedimenta/Postings", "positionsRoom", "(I)V"⟩ : MethodName)) hown (mvT hZ (own_w (i := 67) rfl hw)) (mvT hZ (own_w (i := 68) rfl hw)) (selects_self_of_private iac1 ibc1 (own_noface icc1) hpc1 (mvT hZ (own_w (i := 68) rfl hw)) (by decide)) hpc1 (mvT hZ (own_w (i := 70) rfl hw)) (by decide) (backOf (W := 0) (rm_pr l Z a0 hw [] a kn f_own f_bytes f_last f_ownPositions f_positionBytes f_frequencies f_entriesChecked f_documentCount f_length f_count f_first f_firstFrequency f_firstLength f_positioned f_offset f_positionsOffset f_blocks f_source f_sourceEntry kq h0 n0 Z0 E_a Ff_own Ff_bytes Ff_last Ff_ownPositions Ff_positionBytes Ff_frequencies Ff_entriesChecked Ff_documentCount Ff_length Ff_count Ff_first Ff_firstFrequency Ff_firstLength Ff_positionsLength Ff_positioned Ff_offset Ff_positionsOffset Ff_blocks Ff_source Ff_sourceEntry VQ ga gq naq hk) hZ (own_w (i := 70) rfl hw) (own_w (i := 7) rfl hw) (by decide) (by decide)) (g := (mkF m 8 #[va a, va sr, vi (0 : Int32), vi kn, vi kn] [(.int kn), (.ref a)])) rfl (by rw [hml]; rfl) (Steps.refl _) (a := a) (by rw [e0]; exact qac1) qbc1 (argsL := [(.int kn)]) (rest := []) (lenOf pd_3 rfl) rfl (by show 2 * 0 + _ ≤ _; exact Nat.le_of_eq rfl) (hb hby d8_8) (fun _ _ => ⟨rfl, e0, (by decide : 0 + 1 ≤ _), (by decide : 0 + 7 ≤ _)⟩)
  dsimp only [Pt.U, Pt.locs, Pt.cells, Pt.slots] at Xc1 lc1 yc1 zc1 stc1 hQc1
  subst lc1 yc1 zc1
  have X2 := Xc1.more (cells' := 1) (slots' := 7) (by decide) (by decide)
  obtain ⟨r3, kr4, rfl, N5, K6, V7, gr8, ne9, hr10, F11, F12, F13, F14, F15, F16, F17, F18, F19, F20, F21, F22, F23, F24, F25, F26, F27, F28, F29, F30⟩ := hQc1
  have N31 := Fr.app N0 N5
  have F32 := Nat.le_trans Z0 K6.1
  have F33 := E_a.keep K6
  have F34 := (Keep.refl h0 [a, f_ownPositions]).trans K6 (allS (Or.inl (List.mem_of_getElem? (i := 0) rfl)) all0)
  have F35 := VS.keep K6 (ninS nsa nin0)
  obtain ⟨Lo36, X37, N38⟩ : ∃ Lo_, Stand p l e ({ frames := 3, cells := 1, slots := 7, locals := 68 } : Room) s m #[(.ref a), (.ref sr), (.int (0 : Int32)), (.int kn)] below meth c Tc1 Lo_ 1 7 ∧ Fr n0 Lo_ := ⟨_, X2, N31⟩
  refine own_step (T' := Tc1) (g' := (mkF m 11 #[va a, va sr, vi (0 : Int32), vi kn, vi kn] [])) (fun t_ k_ => stc1.trans k_) ?_
  refine own_step (T' := Tc1) (g' := (mkF m 12 #[va a, va sr, vi (0 : Int32), vi kn, vi kn] [(.ref sr)])) (fun t_ k_ => XS.aloadN X37.here hx rfl (hb hby d8_11) rfl rfl k_) ?_
  refine own_step (T' := Tc1) (g' := (mkF m 13 #[va a, va sr, vi (0 : Int32), vi kn, vi kn] [(.int (0 : Int32)), (.ref sr)])) (fun t_ k_ => XS.iloadN X37.here hx rfl (hb hby d8_12) rfl k_) ?_
  refine own_step (T' := Tc1) (g' := (mkF m 14 #[va a, va sr, vi (0 : Int32), vi kn, vi kn] [(.ref a), (.int (0 : Int32)), (.ref sr)])) (fun t_ k_ => XS.aloadN X37.here hx rfl (hb hby d8_13) rfl rfl k_) ?_
  obtain ⟨T39, X40, e41, st42⟩ := getF X37 hx hZ hown (host := "") (Or.inl (own_w (i := 21) rfl hw)) Via.refl rfl F14 (g := (mkF m 14 #[va a, va sr, vi (0 : Int32), vi kn, vi kn] [(.ref a), (.int (0 : Int32)), (.ref sr)])) rfl rfl (hb hby d8_14)
  refine own_step (T' := T39) (g' := (mkF m 17 #[va a, va sr, vi (0 : Int32), vi kn, vi kn] [(.ref r3), (.int (0 : Int32)), (.ref sr)])) st42 ?_
  refine own_step (T' := T39) (g' := (mkF m 18 #[va a, va sr, vi (0 : Int32), vi kn, vi kn] [(.ref a), (.ref r3), (.int (0 : Int32)), (.ref sr)])) (fun t_ k_ => XS.aloadN X40.here hx rfl (hb hby d8_17) rfl rfl k_) ?_
  obtain ⟨T43, X44, e45, st46⟩ := getF X40 hx hZ hown (host := "") (Or.inl (own_w (i := 71) rfl hw)) Via.refl e41 F24 (g := (mkF m 18 #[va a, va sr, vi (0 : Int32), vi kn, vi kn] [(.ref a), (.ref r3), (.int (0 : Int32)), (.ref sr)])) rfl rfl (hb hby d8_18)
  refine own_step (T' := T43) (g' := (mkF m 21 #[va a, va sr, vi (0 : Int32), vi kn, vi kn] [(.int (0 : Int32)), (.ref r3), (.int (0 : Int32)), (.ref sr)])) st46 ?_
  refine own_step (T' := T43) (g' := (mkF m 23 #[va a, va sr, vi (0 : Int32), vi kn, vi kn] [(.int kn), (.int (0 : Int32)), (.ref r3), (.int (0 : Int32)), (.ref sr)])) (fun t_ k_ => XS.iload X44.here hx rfl (hb hby d8_21) rfl k_) ?_
  obtain ⟨T47, h48, Lo49, X50, e51, N52, K53, V54, st55⟩ := cpA X44 hx hZ hown (own_w (i := 73) rfl hw) (own_w (i := 76) rfl hw) (own_w (i := 74) rfl hw) (own_w (i := 75) rfl hw) e45 F35 (own_pad V7 kn.toNatClampNeg) (Or.inl ⟨rfl, rfl⟩) (by decide) (by decide) (own_nn hk.1) (by rw [(by decide : (0 : Int32).toNatClampNeg = 0), (by decide : (8 : Int32).toNatClampNeg = 8)]; have := own_tn7 hk; omega) (by rw [(by decide : (0 : Int32).toNatClampNeg = 0)]; omega) rfl (by rw [(by decide : (0 : Int32).toNatClampNeg = 0), List.length_replicate]; omega) N38 gr8 (g := (mkF m 23 #[va a, va sr, vi (0 : Int32), vi kn, vi kn] [(.int kn), (.int (0 : Int32)), (.ref r3), (.int (0 : Int32)), (.ref sr)])) rfl (by rw [hml]; rfl) rfl (hb hby d8_23) (by decide) (W := 0) (by show 2 * 0 + _ ≤ _; exact Nat.le_of_eq rfl) (by decide)
  have F56 := Nat.le_trans F32 K53.1
  have F57 := F33.keep K53
  have F58 := F34.trans K53 (allS (hr10.elim (fun z_ => Or.inl (by rw [z_]; exact List.mem_of_getElem? (i := 1) rfl)) (fun z_ => Or.inr (Nat.le_trans (Keep.refl h0 [a, f_ownPositions]).1 z_))) all0)
  have F59 := F11.keep K53 (ninS ne9 nin0)
  have F60 := F12.keep K53 (ninS ne9 nin0)
  have F61 := F13.keep K53 (ninS ne9 nin0)
  have F62 := F14.keep K53 (ninS ne9 nin0)
  have F63 := F15.keep K53 (ninS ne9 nin0)
  have F64 := F16.keep K53 (ninS ne9 nin0)
  have F65 := F17.keep K53 (ninS ne9 nin0)
  have F66 := F18.keep K53 (ninS ne9 nin0)
  have F67 := F19.keep K53 (ninS ne9 nin0)
  have F68 := F20.keep K53 (ninS ne9 nin0)
  have F69 := F21.keep K53 (ninS ne9 nin0)
  have F70 := F22.keep K53 (ninS ne9 nin0)
  have F71 := F23.keep K53 (ninS ne9 nin0)
  have F72 := F24.keep K53 (ninS ne9 nin0)
  have F73 := F25.keep K53 (ninS ne9 nin0)
  have F74 := F26.keep K53 (ninS ne9 nin0)
  have F75 := F27.keep K53 (ninS ne9 nin0)
  have F76 := F28.keep K53 (ninS ne9 nin0)
  have F77 := F29.keep K53 (ninS ne9 nin0)
  have F78 := F30.keep K53 (ninS ne9 nin0)
  refine own_step (T' := T47) (g' := (mkF m 26 #[va a, va sr, vi (0 : Int32), vi kn, vi kn] [])) st55 ?_
  refine own_step (T' := T47) (g' := (mkF m 27 #[va a, va sr, vi (0 : Int32), vi kn, vi kn] [(.ref a)])) (fun t_ k_ => XS.aloadN X50.here hx rfl (hb hby d8_26) rfl rfl k_) ?_
  refine own_step (T' := T47) (g' := (mkF m 28 #[va a, va sr, vi (0 : Int32), vi kn, vi kn] [(.ref a), (.ref a)])) (fun t_ k_ => XS.dup X50.here hx rfl (hb hby d8_27) rfl rfl k_) ?_
  obtain ⟨T79, X80, e81, st82⟩ := getF X50 hx hZ hown (host := "") (Or.inl (own_w (i := 71) rfl hw)) Via.refl e51 F72 (g := (mkF m 28 #[va a, va sr, vi (0 : Int32), vi kn, vi kn] [(.ref a), (.ref a)])) rfl rfl (hb hby d8_28)
  refine own_step (T' := T79) (g' := (mkF m 31 #[va a, va sr, vi (0 : Int32), vi kn, vi kn] [(.int (0 : Int32)), (.ref a)])) st82 ?_
  refine own_step (T' := T79) (g' := (mkF m 33 #[va a, va sr, vi (0 : Int32), vi kn, vi kn] [(.int kn), (.int (0 : Int32)), (.ref a)])) (fun t_ k_ => XS.iload X80.here hx rfl (hb hby d8_31) rfl k_) ?_
  refine own_step (T' := T79) (g' := (mkF m 34 #[va a, va sr, vi (0 : Int32), vi kn, vi kn] [(.int ((0 : Int32) + kn)), (.ref a)])) (fun t_ k_ => XS.iadd X80.here hx rfl (hb hby d8_33) rfl k_) ?_
  obtain ⟨T83, h84, X85, e86, W87, st88⟩ := putF X80 hx hZ hown (host := "") (Or.inl (own_w (i := 71) rfl hw)) Via.refl e81 F72 F57 (Or.inl (own_w (i := 72) rfl hw)) (own_w (i := 6) rfl hw) (ty := .int) (by decide) rfl rfl (g := (mkF m 34 #[va a, va sr, vi (0 : Int32), vi kn, vi kn] [(.int ((0 : Int32) + kn)), (.ref a)])) rfl rfl (hb hby d8_34)
  have N89 := Fr.snoc X85 N52 ga
  have F90 := Nat.le_trans F56 (Keep.of_wr W87).1
  have F91 := F57.wr W87
  have F92 := F58.wr W87 (Or.inl (List.mem_of_getElem? (i := 0) rfl))
  have F93 := F59.other W87 (Or.inr (own_so (lf16 hw) (lf72 hw) (by decide)))
  have F94 := F60.other W87 (Or.inr (own_so (lf18 hw) (lf72 hw) (by decide)))
  have F95 := F61.other W87 (Or.inr (own_so (lf20 hw) (lf72 hw) (by decide)))
  have F96 := F62.other W87 (Or.inr (own_so (lf22 hw) (lf72 hw) (by decide)))
  have F97 := F63.other W87 (Or.inr (own_so (lf24 hw) (lf72 hw) (by decide)))
  have F98 := F64.other W87 (Or.inr (own_so (lf27 hw) (lf72 hw) (by decide)))
  have F99 := F65.other W87 (Or.inr (own_so (lf29 hw) (lf72 hw) (by decide)))
  have F100 := F66.other W87 (Or.inr (own_so (lf32 hw) (lf72 hw) (by decide)))
  have F101 := F67.other W87 (Or.inr (own_so (lf43 hw) (lf72 hw) (by decide)))
  have F102 := F68.other W87 (Or.inr (own_so (lf45 hw) (lf72 hw) (by decide)))
  have F103 := F69.other W87 (Or.inr (own_so (lf57 hw) (lf72 hw) (by decide)))
  have F104 := F70.other W87 (Or.inr (own_so (lf59 hw) (lf72 hw) (by decide)))
  have F105 := F71.other W87 (Or.inr (own_so (lf61 hw) (lf72 hw) (by decide)))
  have F106 : Fld Z h84 a "com/example/sedimenta/sedimenta/Postings" "positionsLength" "I" (.int ((0 : Int32) + kn)) := F72.same W87
  have F107 := F73.other W87 (Or.inr (own_so (lf78 hw) (lf72 hw) (by decide)))
  have F108 := F74.other W87 (Or.inr (own_so (lf85 hw) (lf72 hw) (by decide)))
  have F109 := F75.other W87 (Or.inr (own_so (lf87 hw) (lf72 hw) (by decide)))
  have F110 := F76.other W87 (Or.inr (own_so (lf89 hw) (lf72 hw) (by decide)))
  have F111 := F77.other W87 (Or.inr (own_so (lf91 hw) (lf72 hw) (by decide)))
  have F112 := F78.other W87 (Or.inr (own_so (lf93 hw) (lf72 hw) (by decide)))
  obtain ⟨Lo113, X114, N115⟩ : ∃ Lo_, Stand p l e ({ frames := 3, cells := 1, slots := 7, locals := 68 } : Room) s m #[(.ref a), (.ref sr), (.int (0 : Int32)), (.int kn)] below meth c T83 Lo_ 1 7 ∧ Fr n0 Lo_ := ⟨_, X85, N89⟩
  refine own_step (T' := T83) (g' := (mkF m 37 #[va a, va sr, vi (0 : Int32), vi kn, vi kn] [])) st88 ?_
  refine own_step (T' := T83) (g' := (mkF m 38 #[va a, va sr, vi (0 : Int32), vi kn, vi kn] [(.ref a)])) (fun t_ k_ => XS.aloadN X114.here hx rfl (hb hby d8_37) rfl rfl k_) ?_
  refine own_step (T' := T83) (g' := (mkF m 39 #[va a, va sr, vi (0 : Int32), vi kn, vi kn] [(.int (1 : Int32)), (.ref a)])) (fun t_ k_ => XT.iconstV X114.here hx rfl (1 : Int32) (hb hby d8_38) (by decide) k_) ?_
  obtain ⟨T116, h117, X118, e119, W120, st121⟩ := putFN X114 hx hZ hown (own_w (i := 77) rfl hw) Via.refl e86 F107 F91 (Or.inl (own_w (i := 78) rfl hw)) (own_w (i := 6) rfl hw) (ty := .boolean) (by decide) (v' := .int (nar .boolean (1 : Int32))) rfl (fits_nar_bool _) (g := (mkF m 39 #[va a, va sr, vi (0 : Int32), vi kn, vi kn] [(.int (1 : Int32)), (.ref a)])) rfl rfl (hb hby d8_39)
  have N122 := Fr.snoc X118 N115 ga
  have F123 := Nat.le_trans F90 (Keep.of_wr W120).1
  have F124 := F91.wr W120
  have F125 := F92.wr W120 (Or.inl (List.mem_of_getElem? (i := 0) rfl))
  have F126 := F93.other W120 (Or.inr (own_so (lf16 hw) (lf78 hw) (by decide)))
  have F127 := F94.other W120 (Or.inr (own_so (lf18 hw) (lf78 hw) (by decide)))
  have F128 := F95.other W120 (Or.inr (own_so (lf20 hw) (lf78 hw) (by decide)))
  have F129 := F96.other W120 (Or.inr (own_so (lf22 hw) (lf78 hw) (by decide)))
  have F130 := F97.other W120 (Or.inr (own_so (lf24 hw) (lf78 hw) (by decide)))
  have F131 := F98.other W120 (Or.inr (own_so (lf27 hw) (lf78 hw) (by decide)))
  have F132 := F99.other W120 (Or.inr (own_so (lf29 hw) (lf78 hw) (by decide)))
  have F133 := F100.other W120 (Or.inr (own_so (lf32 hw) (lf78 hw) (by decide)))
  have F134 := F101.other W120 (Or.inr (own_so (lf43 hw) (lf78 hw) (by decide)))
  have F135 := F102.other W120 (Or.inr (own_so (lf45 hw) (lf78 hw) (by decide)))
  have F136 := F103.other W120 (Or.inr (own_so (lf57 hw) (lf78 hw) (by decide)))
  have F137 := F104.other W120 (Or.inr (own_so (lf59 hw) (lf78 hw) (by decide)))
  have F138 := F105.other W120 (Or.inr (own_so (lf61 hw) (lf78 hw) (by decide)))
  have F139 := F106.other W120 (Or.inr (own_so (lf72 hw) (lf78 hw) (by decide)))
  have F140 : Fld Z h117 a "com/example/sedimenta/sedimenta/Postings" "positioned" "Z" (.int (nar .boolean (1 : Int32))) := F107.same W120
  have F141 := F108.other W120 (Or.inr (own_so (lf85 hw) (lf78 hw) (by decide)))
  have F142 := F109.other W120 (Or.inr (own_so (lf87 hw) (lf78 hw) (by decide)))
  have F143 := F110.other W120 (Or.inr (own_so (lf89 hw) (lf78 hw) (by decide)))
  have F144 := F111.other W120 (Or.inr (own_so (lf91 hw) (lf78 hw) (by decide)))
  have F145 := F112.other W120 (Or.inr (own_so (lf93 hw) (lf78 hw) (by decide)))
  obtain ⟨Lo146, X147, N148⟩ : ∃ Lo_, Stand p l e ({ frames := 3, cells := 1, slots := 7, locals := 68 } : Room) s m #[(.ref a), (.ref sr), (.int (0 : Int32)), (.int kn)] below meth c T116 Lo_ 1 7 ∧ Fr n0 Lo_ := ⟨_, X118, N122⟩
  refine own_step (T' := T116) (g' := (mkF m 42 #[va a, va sr, vi (0 : Int32), vi kn, vi kn] [])) st121 ?_
  exact own_ret X147 hx hlk Bd.returns (hb hby d8_42) (by rw [e119]; exact ⟨_, rfl, N148, F125, F126, F127, F128, F129, F130, F131, F132, F133, F134, F135, F136, F137, F138, F139, F140, F141, F142, F143, F144, F145⟩) (by decide) (by decide)
theorem d10_0 : decode prog_81_method_3_code 0 = .ok (.aload_n 0, 1) := by decide +kernel
theorem d10_1 : decode prog_81_method_3_code 1 = .ok (.aload_n 1, 1) := by decide +kernel
theorem d10_2 : decode prog_81_method_3_code 2 = .ok (.getfield 17, 3) := by decide +kernel
theorem d10_5 : decode prog_81_method_3_code 5 = .ok (.putfield 17, 3) := by decide +kernel
theorem d10_8 : decode prog_81_method_3_code 8 = .ok (.aload_n 0, 1) := by decide +kernel
theorem d10_9 : decode prog_81_method_3_code 9 = .ok (.aload_n 1, 1) := by decide +kernel
theorem d10_10 : decode prog_81_method_3_code 10 = .ok (.getfield 42, 3) := by decide +kernel
theorem d10_13 : decode prog_81_method_3_code 13 = .ok (.putfield 42, 3) := by decide +kernel
theorem d10_16 : decode prog_81_method_3_code 16 = .ok (.aload_n 0, 1) := by decide +kernel
theorem d10_17 : decode prog_81_method_3_code 17 = .ok (.aload_n 1, 1) := by decide +kernel
theorem d10_18 : decode prog_81_method_3_code 18 = .ok (.getfield 45, 3) := by decide +kernel
theorem d10_21 : decode prog_81_method_3_code 21 = .ok (.putfield 45, 3) := by decide +kernel
theorem d10_24 : decode prog_81_method_3_code 24 = .ok (.aload_n 0, 1) := by decide +kernel
theorem d10_25 : decode prog_81_method_3_code 25 = .ok (.aload_n 1, 1) := by decide +kernel
theorem d10_26 : decode prog_81_method_3_code 26 = .ok (.getfield 48, 3) := by decide +kernel
theorem d10_29 : decode prog_81_method_3_code 29 = .ok (.putfield 48, 3) := by decide +kernel
theorem d10_32 : decode prog_81_method_3_code 32 = .ok (.aload_n 0, 1) := by decide +kernel
theorem d10_33 : decode prog_81_method_3_code 33 = .ok (.aload_n 1, 1) := by decide +kernel
theorem d10_34 : decode prog_81_method_3_code 34 = .ok (.getfield 51, 3) := by decide +kernel
theorem d10_37 : decode prog_81_method_3_code 37 = .ok (.putfield 51, 3) := by decide +kernel
theorem d10_40 : decode prog_81_method_3_code 40 = .ok (.aload_n 0, 1) := by decide +kernel
theorem d10_41 : decode prog_81_method_3_code 41 = .ok (.aload_n 1, 1) := by decide +kernel
theorem d10_42 : decode prog_81_method_3_code 42 = .ok (.getfield 54, 3) := by decide +kernel
theorem d10_45 : decode prog_81_method_3_code 45 = .ok (.putfield 54, 3) := by decide +kernel
theorem d10_48 : decode prog_81_method_3_code 48 = .ok (.aload_n 0, 1) := by decide +kernel
theorem d10_49 : decode prog_81_method_3_code 49 = .ok (.aload_n 1, 1) := by decide +kernel
theorem d10_50 : decode prog_81_method_3_code 50 = .ok (.getfield 57, 3) := by decide +kernel
theorem d10_53 : decode prog_81_method_3_code 53 = .ok (.putfield 57, 3) := by decide +kernel
theorem d10_56 : decode prog_81_method_3_code 56 = .ok (.aload_n 0, 1) := by decide +kernel
theorem d10_57 : decode prog_81_method_3_code 57 = .ok (.aload_n 1, 1) := by decide +kernel
theorem d10_58 : decode prog_81_method_3_code 58 = .ok (.getfield 20, 3) := by decide +kernel
theorem d10_61 : decode prog_81_method_3_code 61 = .ok (.putfield 20, 3) := by decide +kernel
theorem d10_64 : decode prog_81_method_3_code 64 = .ok (.aload_n 0, 1) := by decide +kernel
theorem d10_65 : decode prog_81_method_3_code 65 = .ok (.aload_n 1, 1) := by decide +kernel
theorem d10_66 : decode prog_81_method_3_code 66 = .ok (.getfield 60, 3) := by decide +kernel
theorem d10_69 : decode prog_81_method_3_code 69 = .ok (.putfield 60, 3) := by decide +kernel
theorem d10_72 : decode prog_81_method_3_code 72 = .ok (.aload_n 0, 1) := by decide +kernel
theorem d10_73 : decode prog_81_method_3_code 73 = .ok (.aload_n 1, 1) := by decide +kernel
theorem d10_74 : decode prog_81_method_3_code 74 = .ok (.getfield 27, 3) := by decide +kernel
theorem d10_77 : decode prog_81_method_3_code 77 = .ok (.putfield 27, 3) := by decide +kernel
theorem d10_80 : decode prog_81_method_3_code 80 = .ok (.aload_n 0, 1) := by decide +kernel
theorem d10_81 : decode prog_81_method_3_code 81 = .ok (.aload_n 1, 1) := by decide +kernel
theorem d10_82 : decode prog_81_method_3_code 82 = .ok (.getfield 63, 3) := by decide +kernel
theorem d10_85 : decode prog_81_method_3_code 85 = .ok (.putfield 63, 3) := by decide +kernel
theorem d10_88 : decode prog_81_method_3_code 88 = .ok (.aload_n 0, 1) := by decide +kernel
theorem d10_89 : decode prog_81_method_3_code 89 = .ok (.aload_n 1, 1) := by decide +kernel
theorem d10_90 : decode prog_81_method_3_code 90 = .ok (.getfield 66, 3) := by decide +kernel
theorem d10_93 : decode prog_81_method_3_code 93 = .ok (.putfield 66, 3) := by decide +kernel
theorem d10_96 : decode prog_81_method_3_code 96 = .ok (.aload_n 0, 1) := by decide +kernel
theorem d10_97 : decode prog_81_method_3_code 97 = .ok (.aload_n 1, 1) := by decide +kernel
theorem d10_98 : decode prog_81_method_3_code 98 = .ok (.getfield 69, 3) := by decide +kernel
theorem d10_101 : decode prog_81_method_3_code 101 = .ok (.putfield 69, 3) := by decide +kernel
theorem d10_104 : decode prog_81_method_3_code 104 = .ok (.aload_n 0, 1) := by decide +kernel
theorem d10_105 : decode prog_81_method_3_code 105 = .ok (.aload_n 1, 1) := by decide +kernel
theorem d10_106 : decode prog_81_method_3_code 106 = .ok (.getfield 34, 3) := by decide +kernel
theorem d10_109 : decode prog_81_method_3_code 109 = .ok (.putfield 34, 3) := by decide +kernel
theorem d10_112 : decode prog_81_method_3_code 112 = .ok (.aload_n 0, 1) := by decide +kernel
theorem d10_113 : decode prog_81_method_3_code 113 = .ok (.aload_n 1, 1) := by decide +kernel
theorem d10_114 : decode prog_81_method_3_code 114 = .ok (.getfield 39, 3) := by decide +kernel
theorem d10_117 : decode prog_81_method_3_code 117 = .ok (.putfield 39, 3) := by decide +kernel
theorem d10_120 : decode prog_81_method_3_code 120 = .ok (.aload_n 0, 1) := by decide +kernel
theorem d10_121 : decode prog_81_method_3_code 121 = .ok (.aload_n 1, 1) := by decide +kernel
theorem d10_122 : decode prog_81_method_3_code 122 = .ok (.getfield 73, 3) := by decide +kernel
theorem d10_125 : decode prog_81_method_3_code 125 = .ok (.putfield 73, 3) := by decide +kernel
theorem d10_128 : decode prog_81_method_3_code 128 = .ok (.aload_n 0, 1) := by decide +kernel
theorem d10_129 : decode prog_81_method_3_code 129 = .ok (.aload_n 1, 1) := by decide +kernel
theorem d10_130 : decode prog_81_method_3_code 130 = .ok (.getfield 77, 3) := by decide +kernel
theorem d10_133 : decode prog_81_method_3_code 133 = .ok (.putfield 77, 3) := by decide +kernel
theorem d10_136 : decode prog_81_method_3_code 136 = .ok (.return_, 1) := by decide +kernel
theorem pn_10 : plainFor (⟨"com/example/sedimenta/sedimenta/Postings", "take", "(Lcom/example/sedimenta/sedimenta/Postings;)V"⟩ : MethodName) = true := by first | exact plainFor_of_name (by first | (simp [plainName, overriddenIn]; done) | decide +kernel) | decide +kernel
theorem ef_10 (m : MethodId) (x0 : Addr) (x1 : Addr) : entryFrame m #[(.ref x0), (.ref x1)] 2 = mkF m 0 #[.val (.ref x0), .val (.ref x1)] [] := by first | (simp [entryFrame, mkF, argsToLocals, Value.category]; done) | rfl
def Q_10 (Z : State) (a : Addr) (g_bytes : Addr) (g_last : Int32) (g_positionBytes : Addr) (g_entriesChecked : Int32) (g_documentCount : Int32) (g_length : Int32) (g_count : Int32) (g_first : Int32) (g_firstFrequency : Int32) (g_firstLength : Int32) (g_positionsLength : Int32) (g_positioned : Int32) (g_offset : Int32) (g_positionsOffset : Int32) (g_sourceEntry : Int64) (h0 : Heap) (n0 : Nat) (v : Option Value) (h : Heap) (L : List Loc) : Prop := v = none ∧ Fr n0 L ∧ Keep h0 h [a] ∧ Fld Z h a "com/example/sedimenta/sedimenta/Postings" "bytes" "[B" (.ref g_bytes) ∧ Fld Z h a "com/example/sedimenta/sedimenta/Postings" "last" "I" (.int g_last) ∧ Fld Z h a "com/example/sedimenta/sedimenta/Postings" "entriesChecked" "Z" (.int (nar .boolean g_entriesChecked)) ∧ Fld Z h a "com/example/sedimenta/sedimenta/Postings" "length" "I" (.int g_length) ∧ Fld Z h a "com/example/sedimenta/sedimenta/Postings" "count" "I" (.int g_count) ∧ Fld Z h a "com/example/sedimenta/sedimenta/Postings" "first" "I" (.int g_first) ∧ Fld Z h a "com/example/sedimenta/sedimenta/Postings" "firstFrequency" "I" (.int g_firstFrequency) ∧ Fld Z h a "com/example/sedimenta/sedimenta/Postings" "firstLength" "I" (.int g_firstLength) ∧ Fld Z h a "com/example/sedimenta/sedimenta/Postings" "positionsLength" "I" (.int g_positionsLength) ∧ Fld Z h a "com/example/sedimenta/sedimenta/Postings" "positioned" "Z" (.int (nar .boolean g_positioned)) ∧ Fld Z h a "com/example/sedimenta/sedimenta/Postings" "offset" "I" (.int g_offset) ∧ Fld Z h a "com/example/sedimenta/sedimenta/Postings" "blocks" "Lcom/example/sedimenta/sedimenta/TermBlocks;" .null
set_option maxRecDepth 65536 in
set_option maxHeartbeats 40000000 in
theorem rm_take (l : Launch) (Z : State) (a0 : Array Value) (hw : ∀ d ∈ tables_1, d.before a0 Z = true) (ws : List Jvm.Cond) (a b : Addr) (f_bytes : Value) (f_last : Int32) (f_positionBytes : Value) (f_entriesChecked : Int32) (f_documentCount : Int32) (f_length : Int32) (f_count : Int32) (f_first : Int32) (f_firstFrequency : Int32) (f_firstLength : Int32) (f_positionsLength : Int32) (f_positioned : Int32) (f_offset : Int32) (f_positionsOffset : Int32) (f_blocks : Value) (f_source : Value) (f_sourceEntry : Int64) (g_bytes : Addr) (g_last : Int32) (g_positionBytes : Addr) (g_entriesChecked : Int32) (g_documentCount : Int32) (g_length : Int32) (g_count : Int32) (g_first : Int32) (g_firstFrequency : Int32) (g_firstLength : Int32) (g_positionsLength : Int32) (g_positioned : Int32) (g_offset : Int32) (g_positionsOffset : Int32) (g_sourceEntry : Int64) (h0 : Heap) (n0 : Nat) (Z0 : n0 ≤ h0.size) (E_a : Exa Z h0 a "com/example/sedimenta/sedimenta/Postings") (Ff_bytes : Fld Z h0 a "com/example/sedimenta/sedimenta/Postings" "bytes" "[B" f_bytes) (Ff_last : Fld Z h0 a "com/example/sedimenta/sedimenta/Postings" "last" "I" (.int f_last)) (Ff_positionBytes : Fld Z h0 a "com/example/sedimenta/sedimenta/Postings" "positionBytes" "[B" f_positionBytes) (Ff_entriesChecked : Fld Z h0 a "com/example/sedimenta/sedimenta/Postings" "entriesChecked" "Z" (.int f_entriesChecked)) (Ff_documentCount : Fld Z h0 a "com/example/sedimenta/sedimenta/Postings" "documentCount" "I" (.int f_documentCount)) (Ff_length : Fld Z h0 a "com/example/sedimenta/sedimenta/Postings" "length" "I" (.int f_length)) (Ff_count : Fld Z h0 a "com/example/sedimenta/sedimenta/Postings" "count" "I" (.int f_count)) (Ff_first : Fld Z h0 a "com/example/sedimenta/sedimenta/Postings" "first" "I" (.int f_first)) (Ff_firstFrequency : Fld Z h0 a "com/example/sedimenta/sedimenta/Postings" "firstFrequency" "I" (.int f_firstFrequency)) (Ff_firstLength : Fld Z h0 a "com/example/sedimenta/sedimenta/Postings" "firstLength" "I" (.int f_firstLength)) (Ff_positionsLength : Fld Z h0 a "com/example/sedimenta/sedimenta/Postings" "positionsLength" "I" (.int f_positionsLength)) (Ff_positioned : Fld Z h0 a "com/example/sedimenta/sedimenta/Postings" "positioned" "Z" (.int f_positioned)) (Ff_offset : Fld Z h0 a "com/example/sedimenta/sedimenta/Postings" "offset" "I" (.int f_offset)) (Ff_positionsOffset : Fld Z h0 a "com/example/sedimenta/sedimenta/Postings" "positionsOffset" "I" (.int f_positionsOffset)) (Ff_blocks : Fld Z h0 a "com/example/sedimenta/sedimenta/Postings" "blocks" "Lcom/example/sedimenta/sedimenta/TermBlocks;" f_blocks) (Ff_source : Fld Z h0 a "com/example/sedimenta/sedimenta/Postings" "source" "Lcom/example/sedimenta/sedimenta/store/StoreInput;" f_source) (Ff_sourceEntry : Fld Z h0 a "com/example/sedimenta/sedimenta/Postings" "sourceEntry" "J" (.long f_sourceEntry)) (Fg_bytes : Fld Z h0 b "com/example/sedimenta/sedimenta/Postings" "bytes" "[B" (.ref g_bytes)) (Fg_last : Fld Z h0 b "com/example/sedimenta/sedimenta/Postings" "last" "I" (.int g_last)) (Fg_positionBytes : Fld Z h0 b "com/example/sedimenta/sedimenta/Postings" "positionBytes" "[B" (.ref g_positionBytes)) (Fg_entriesChecked : Fld Z h0 b "com/example/sedimenta/sedimenta/Postings" "entriesChecked" "Z" (.int g_entriesChecked)) (Fg_documentCount : Fld Z h0 b "com/example/sedimenta/sedimenta/Postings" "documentCount" "I" (.int g_documentCount)) (Fg_length : Fld Z h0 b "com/example/sedimenta/sedimenta/Postings" "length" "I" (.int g_length)) (Fg_count : Fld Z h0 b "com/example/sedimenta/sedimenta/Postings" "count" "I" (.int g_count)) (Fg_first : Fld Z h0 b "com/example/sedimenta/sedimenta/Postings" "first" "I" (.int g_first)) (Fg_firstFrequency : Fld Z h0 b "com/example/sedimenta/sedimenta/Postings" "firstFrequency" "I" (.int g_firstFrequency)) (Fg_firstLength : Fld Z h0 b "com/example/sedimenta/sedimenta/Postings" "firstLength" "I" (.int g_firstLength)) (Fg_positionsLength : Fld Z h0 b "com/example/sedimenta/sedimenta/Postings" "positionsLength" "I" (.int g_positionsLength)) (Fg_positioned : Fld Z h0 b "com/example/sedimenta/sedimenta/Postings" "positioned" "Z" (.int g_positioned)) (Fg_offset : Fld Z h0 b "com/example/sedimenta/sedimenta/Postings" "offset" "I" (.int g_offset)) (Fg_positionsOffset : Fld Z h0 b "com/example/sedimenta/sedimenta/Postings" "positionsOffset" "I" (.int g_positionsOffset)) (Fg_blocks : Fld Z h0 b "com/example/sedimenta/sedimenta/Postings" "blocks" "Lcom/example/sedimenta/sedimenta/TermBlocks;" .null) (Fg_source : Fld Z h0 b "com/example/sedimenta/sedimenta/Postings" "source" "Lcom/example/sedimenta/sedimenta/store/StoreInput;" .null) (Fg_sourceEntry : Fld Z h0 b "com/example/sedimenta/sedimenta/Postings" "sourceEntry" "J" (.long g_sourceEntry)) (ga : n0 ≤ a) (nba : b ≠ a) :
    MetFree l (⟨"com/example/sedimenta/sedimenta/Postings", "take", "(Lcom/example/sedimenta/sedimenta/Postings;)V"⟩ : MethodName) (head1 (Jvm.Cond.code (⟨"com/example/sedimenta/sedimenta/Postings", "take", "(Lcom/example/sedimenta/sedimenta/Postings;)V"⟩ : MethodName) prog_81_method_3_code 2 none :: ws) ({ frames := 0, cells := 0, slots := 0, locals := 0 } : Room)) (fun as_ U => as_ = #[(.ref a), (.ref b)] ∧ Z.Warmed39 U.vm ∧ U.heap = h0) (fun _ _ _ _ _ => True) (fun _ U o U' => ∃ v L, o = .returned v ∧ Q_10 Z a g_bytes g_last g_positionBytes g_entriesChecked g_documentCount g_length g_count g_first g_firstFrequency g_firstLength g_positionsLength g_positioned g_offset g_positionsOffset g_sourceEntry h0 n0 v U'.heap L ∧ FrameEnd U o U' L ({ frames := 0, cells := 0, slots := 0, locals := 0 } : Room).cells ({ frames := 0, cells := 0, slots := 0, locals := 0 } : Room).slots) := by
  refine MetFree.of_bodySF pn_10 hisR ?_
  intro p e s m args below meth c s₁ Bd hml0 hP hK
  obtain ⟨rfl, hZ, hh⟩ := hP
  have hx := Bd.exec
  have hby := Bd.bytes
  have hlk := BodyLoose.notSynchronized Bd
  have hml : c.maxLocals = 2 := hml0
  have hown : s.vm.findClass "com/example/sedimenta/sedimenta/Postings" = some m.cls := findClass_of_methodNamed Bd.named
  have hnm := (name_of_methodNamed Bd.named Bd.method).1
  have X0 : Stand p l e ({ frames := 0, cells := 0, slots := 0, locals := 0 } : Room) s m #[(.ref a), (.ref b)] below meth c s₁ [] 0 0 := Stand.of_body Bd
  have e0 : s₁.heap = h0 := by rw [← hh, Bd.state]; rfl
  have N0 := Fr.nil n0
  refine own_in (ef_10 m a b) ?_
  show own_Fin p e below s (Q_10 Z a g_bytes g_last g_positionBytes g_entriesChecked g_documentCount g_length g_count g_first g_firstFrequency g_firstLength g_positionsLength g_positioned g_offset g_positionsOffset g_sourceEntry h0 n0) 0 0 s₁ (mkF m 0 #[va a, va b] [])
  refine own_step (T' := s₁) (g' := (mkF m 1 #[va a, va b] [(.ref a)])) (fun t_ k_ => XS.aloadN X0.here hx rfl (hb hby d10_0) rfl rfl k_) ?_
  refine own_step (T' := s₁) (g' := (mkF m 2 #[va a, va b] [(.ref b), (.ref a)])) (fun t_ k_ => XS.aloadN X0.here hx rfl (hb hby d10_1) rfl rfl k_) ?_
  obtain ⟨T1, X2, e3, st4⟩ := getF X0 hx hZ hown (host := "") (Or.inl (own_w (i := 17) rfl hw)) Via.refl e0 Fg_bytes (g := (mkF m 2 #[va a, va b] [(.ref b), (.ref a)])) rfl rfl (hb hby d10_2)
  refine own_step (T' := T1) (g' := (mkF m 5 #[va a, va b] [(.ref g_bytes), (.ref a)])) st4 ?_
  obtain ⟨T5, h6, X7, e8, W9, st10⟩ := putF X2 hx hZ hown (host := "") (Or.inl (own_w (i := 17) rfl hw)) Via.refl e3 Ff_bytes E_a (Or.inl (own_w (i := 18) rfl hw)) (own_w (i := 6) rfl hw) (ty := (.array .byte)) (by decide) rfl rfl (g := (mkF m 5 #[va a, va b] [(.ref g_bytes), (.ref a)])) rfl rfl (hb hby d10_5)
  have N11 := Fr.snoc X7 N0 ga
  have F12 := Nat.le_trans Z0 (Keep.of_wr W9).1
  have F13 := E_a.wr W9
  have F14 : Fld Z h6 a "com/example/sedimenta/sedimenta/Postings" "bytes" "[B" (.ref g_bytes) := Ff_bytes.same W9
  have F15 := Ff_last.other W9 (Or.inr (own_so (lf20 hw) (lf18 hw) (by decide)))
  have F16 := Ff_positionBytes.other W9 (Or.inr (own_so (lf24 hw) (lf18 hw) (by decide)))
  have F17 := Ff_entriesChecked.other W9 (Or.inr (own_so (lf29 hw) (lf18 hw) (by decide)))
  have F18 := Ff_documentCount.other W9 (Or.inr (own_so (lf32 hw) (lf18 hw) (by decide)))
  have F19 := Ff_length.other W9 (Or.inr (own_so (lf43 hw) (lf18 hw) (by decide)))
  have F20 := Ff_count.other W9 (Or.inr (own_so (lf45 hw) (lf18 hw) (by decide)))
  have F21 := Ff_first.other W9 (Or.inr (own_so (lf57 hw) (lf18 hw) (by decide)))
  have F22 := Ff_firstFrequency.other W9 (Or.inr (own_so (lf59 hw) (lf18 hw) (by decide)))
  have F23 := Ff_firstLength.other W9 (Or.inr (own_so (lf61 hw) (lf18 hw) (by decide)))
  have F24 := Ff_positionsLength.other W9 (Or.inr (own_so (lf72 hw) (lf18 hw) (by decide)))
  have F25 := Ff_positioned.other W9 (Or.inr (own_so (lf78 hw) (lf18 hw) (by decide)))
  have F26 := Ff_offset.other W9 (Or.inr (own_so (lf85 hw) (lf18 hw) (by decide)))
  have F27 := Ff_positionsOffset.other W9 (Or.inr (own_so (lf87 hw) (lf18 hw) (by decide)))
  have F28 := Ff_blocks.other W9 (Or.inr (own_so (lf89 hw) (lf18 hw) (by decide)))
  have F29 := Ff_source.other W9 (Or.inr (own_so (lf91 hw) (lf18 hw) (by decide)))
  have F30 := Ff_sourceEntry.other W9 (Or.inr (own_so (lf93 hw) (lf18 hw) (by decide)))
  have F31 := Fg_last.other W9 (Or.inl nba)
  have F32 := Fg_positionBytes.other W9 (Or.inl nba)
  have F33 := Fg_entriesChecked.other W9 (Or.inl nba)
  have F34 := Fg_documentCount.other W9 (Or.inl nba)
  have F35 := Fg_length.other W9 (Or.inl nba)
  have F36 := Fg_count.other W9 (Or.inl nba)
  have F37 := Fg_first.other W9 (Or.inl nba)
  have F38 := Fg_firstFrequency.other W9 (Or.inl nba)
  have F39 := Fg_firstLength.other W9 (Or.inl nba)
  have F40 := Fg_positionsLength.other W9 (Or.inl nba)
  have F41 := Fg_positioned.other W9 (Or.inl nba)
  have F42 := Fg_offset.other W9 (Or.inl nba)
  have F43 := Fg_positionsOffset.other W9 (Or.inl nba)
  have F44 := Fg_blocks.other W9 (Or.inl nba)
  have F45 := Fg_source.other W9 (Or.inl nba)
  have F46 := Fg_sourceEntry.other W9 (Or.inl nba)
  have F47 := (Keep.refl h0 [a]).wr W9 (Or.inl (List.mem_of_getElem? (i := 0) rfl))
  obtain ⟨Lo48, X49, N50⟩ : ∃ Lo_, Stand p l e ({ frames := 0, cells := 0, slots := 0, locals := 0 } : Room) s m #[(.ref a), (.ref b)] below meth c T5 Lo_ 0 0 ∧ Fr n0 Lo_ := ⟨_, X7, N11⟩
  refine own_step (T' := T5) (g' := (mkF m 8 #[va a, va b] [])) st10 ?_
  refine own_step (T' := T5) (g' := (mkF m 9 #[va a, va b] [(.ref a)])) (fun t_ k_ => XS.aloadN X49.here hx rfl (hb hby d10_8) rfl rfl k_) ?_
  refine own_step (T' := T5) (g' := (mkF m 10 #[va a, va b] [(.ref b), (.ref a)])) (fun t_ k_ => XS.aloadN X49.here hx rfl (hb hby d10_9) rfl rfl k_) ?_
  obtain ⟨T51, X52, e53, st54⟩ := getF X49 hx hZ hown (host := "") (Or.inl (own_w (i := 84) rfl hw)) Via.refl e8 F42 (g := (mkF m 10 #[va a, va b] [(.ref b), (.ref a)])) rfl rfl (hb hby d10_10)
  refine own_step (T' := T51) (g' := (mkF m 13 #[va a, va b] [(.int g_offset), (.ref a)])) st54 ?_
  obtain ⟨T55, h56, X57, e58, W59, st60⟩ := putF X52 hx hZ hown (host := "") (Or.inl (own_w (i := 84) rfl hw)) Via.refl e53 F26 F13 (Or.inl (own_w (i := 85) rfl hw)) (own_w (i := 6) rfl hw) (ty := .int) (by decide) rfl rfl (g := (mkF m 13 #[va a, va b] [(.int g_offset), (.ref a)])) rfl rfl (hb hby d10_13)
  have N61 := Fr.snoc X57 N50 ga
  have F62 := Nat.le_trans F12 (Keep.of_wr W59).1
  have F63 := F13.wr W59
  have F64 := F14.other W59 (Or.inr (own_so (lf18 hw) (lf85 hw) (by decide)))
  have F65 := F15.other W59 (Or.inr (own_so (lf20 hw) (lf85 hw) (by decide)))
  have F66 := F16.other W59 (Or.inr (own_so (lf24 hw) (lf85 hw) (by decide)))
  have F67 := F17.other W59 (Or.inr (own_so (lf29 hw) (lf85 hw) (by decide)))
  have F68 := F18.other W59 (Or.inr (own_so (lf32 hw) (lf85 hw) (by decide)))
  have F69 := F19.other W59 (Or.inr (own_so (lf43 hw) (lf85 hw) (by decide)))
  have F70 := F20.other W59 (Or.inr (own_so (lf45 hw) (lf85 hw) (by decide)))
  have F71 := F21.other W59 (Or.inr (own_so (lf57 hw) (lf85 hw) (by decide)))
  have F72 := F22.other W59 (Or.inr (own_so (lf59 hw) (lf85 hw) (by decide)))
  have F73 := F23.other W59 (Or.inr (own_so (lf61 hw) (lf85 hw) (by decide)))
  have F74 := F24.other W59 (Or.inr (own_so (lf72 hw) (lf85 hw) (by decide)))
  have F75 := F25.other W59 (Or.inr (own_so (lf78 hw) (lf85 hw) (by decide)))
  have F76 : Fld Z h56 a "com/example/sedimenta/sedimenta/Postings" "offset" "I" (.int g_offset) := F26.same W59
  have F77 := F27.other W59 (Or.inr (own_so (lf87 hw) (lf85 hw) (by decide)))
  have F78 := F28.other W59 (Or.inr (own_so (lf89 hw) (lf85 hw) (by decide)))
  have F79 := F29.other W59 (Or.inr (own_so (lf91 hw) (lf85 hw) (by decide)))
  have F80 := F30.other W59 (Or.inr (own_so (lf93 hw) (lf85 hw) (by decide)))
  have F81 := F31.other W59 (Or.inl nba)
  have F82 := F32.other W59 (Or.inl nba)
  have F83 := F33.other W59 (Or.inl nba)
  have F84 := F34.other W59 (Or.inl nba)
  have F85 := F35.other W59 (Or.inl nba)
  have F86 := F36.other W59 (Or.inl nba)
  have F87 := F37.other W59 (Or.inl nba)
  have F88 := F38.other W59 (Or.inl nba)
  have F89 := F39.other W59 (Or.inl nba)
  have F90 := F40.other W59 (Or.inl nba)
  have F91 := F41.other W59 (Or.inl nba)
  have F92 := F43.other W59 (Or.inl nba)
  have F93 := F44.other W59 (Or.inl nba)
  have F94 := F45.other W59 (Or.inl nba)
  have F95 := F46.other W59 (Or.inl nba)
  have F96 := F47.wr W59 (Or.inl (List.mem_of_getElem? (i := 0) rfl))
  obtain ⟨Lo97, X98, N99⟩ : ∃ Lo_, Stand p l e ({ frames := 0, cells := 0, slots := 0, locals := 0 } : Room) s m #[(.ref a), (.ref b)] below meth c T55 Lo_ 0 0 ∧ Fr n0 Lo_ := ⟨_, X57, N61⟩
  refine own_step (T' := T55) (g' := (mkF m 16 #[va a, va b] [])) st60 ?_
  refine own_step (T' := T55) (g' := (mkF m 17 #[va a, va b] [(.ref a)])) (fun t_ k_ => XS.aloadN X98.here hx rfl (hb hby d10_16) rfl rfl k_) ?_
  refine own_step (T' := T55) (g' := (mkF m 18 #[va a, va b] [(.ref b), (.ref a)])) (fun t_ k_ => XS.aloadN X98.here hx rfl (hb hby d10_17) rfl rfl k_) ?_
  obtain ⟨T100, X101, e102, st103⟩ := getF X98 hx hZ hown (host := "") (Or.inl (own_w (i := 42) rfl hw)) Via.refl e58 F85 (g := (mkF m 18 #[va a, va b] [(.ref b), (.ref a)])) rfl rfl (hb hby d10_18)
  refine own_step (T' := T100) (g' := (mkF m 21 #[va a, va b] [(.int g_length), (.ref a)])) st103 ?_
  obtain ⟨T104, h105, X106, e107, W108, st109⟩ := putF X101 hx hZ hown (host := "") (Or.inl (own_w (i := 42) rfl hw)) Via.refl e102 F69 F63 (Or.inl (own_w (i := 43) rfl hw)) (own_w (i := 6) rfl hw) (ty := .int) (by decide) rfl rfl (g := (mkF m 21 #[va a, va b] [(.int g_length), (.ref a)])) rfl rfl (hb hby d10_21)
  have N110 := Fr.snoc X106 N99 ga
  have F111 := Nat.le_trans F62 (Keep.of_wr W108).1
  have F112 := F63.wr W108
  have F113 := F64.other W108 (Or.inr (own_so (lf18 hw) (lf43 hw) (by decide)))
  have F114 := F65.other W108 (Or.inr (own_so (lf20 hw) (lf43 hw) (by decide)))
  have F115 := F66.other W108 (Or.inr (own_so (lf24 hw) (lf43 hw) (by decide)))
  have F116 := F67.other W108 (Or.inr (own_so (lf29 hw) (lf43 hw) (by decide)))
  have F117 := F68.other W108 (Or.inr (own_so (lf32 hw) (lf43 hw) (by decide)))
  have F118 : Fld Z h105 a "com/example/sedimenta/sedimenta/Postings" "length" "I" (.int g_length) := F69.same W108
  have F119 := F70.other W108 (Or.inr (own_so (lf45 hw) (lf43 hw) (by decide)))
  have F120 := F71.other W108 (Or.inr (own_so (lf57 hw) (lf43 hw) (by decide)))
  have F121 := F72.other W108 (Or.inr (own_so (lf59 hw) (lf43 hw) (by decide)))
  have F122 := F73.other W108 (Or.inr (own_so (lf61 hw) (lf43 hw) (by decide)))
  have F123 := F74.other W108 (Or.inr (own_so (lf72 hw) (lf43 hw) (by decide)))
  have F124 := F75.other W108 (Or.inr (own_so (lf78 hw) (lf43 hw) (by decide)))
  have F125 := F76.other W108 (Or.inr (own_so (lf85 hw) (lf43 hw) (by decide)))
  have F126 := F77.other W108 (Or.inr (own_so (lf87 hw) (lf43 hw) (by decide)))
  have F127 := F78.other W108 (Or.inr (own_so (lf89 hw) (lf43 hw) (by decide)))
  have F128 := F79.other W108 (Or.inr (own_so (lf91 hw) (lf43 hw) (by decide)))
  have F129 := F80.other W108 (Or.inr (own_so (lf93 hw) (lf43 hw) (by decide)))
  have F130 := F81.other W108 (Or.inl nba)
  have F131 := F82.other W108 (Or.inl nba)
  have F132 := F83.other W108 (Or.inl nba)
  have F133 := F84.other W108 (Or.inl nba)
  have F134 := F86.other W108 (Or.inl nba)
  have F135 := F87.other W108 (Or.inl nba)
  have F136 := F88.other W108 (Or.inl nba)
  have F137 := F89.other W108 (Or.inl nba)
  have F138 := F90.other W108 (Or.inl nba)
  have F139 := F91.other W108 (Or.inl nba)
  have F140 := F92.other W108 (Or.inl nba)
  have F141 := F93.other W108 (Or.inl nba)
  have F142 := F94.other W108 (Or.inl nba)
  have F143 := F95.other W108 (Or.inl nba)
  have F144 := F96.wr W108 (Or.inl (List.mem_of_getElem? (i := 0) rfl))
  obtain ⟨Lo145, X146, N147⟩ : ∃ Lo_, Stand p l e ({ frames := 0, cells := 0, slots := 0, locals := 0 } : Room) s m #[(.ref a), (.ref b)] below meth c T104 Lo_ 0 0 ∧ Fr n0 Lo_ := ⟨_, X106, N110⟩
  refine own_step (T' := T104) (g' := (mkF m 24 #[va a, va b] [])) st109 ?_
  refine own_step (T' := T104) (g' := (mkF m 25 #[va a, va b] [(.ref a)])) (fun t_ k_ => XS.aloadN X146.here hx rfl (hb hby d10_24) rfl rfl k_) ?_
  refine own_step (T' := T104) (g' := (mkF m 26 #[va a, va b] [(.ref b), (.ref a)])) (fun t_ k_ => XS.aloadN X146.here hx rfl (hb hby d10_25) rfl rfl k_) ?_
  obtain ⟨T148, X149, e150, st151⟩ := getF X146 hx hZ hown (host := "") (Or.inl (own_w (i := 44) rfl hw)) Via.refl e107 F134 (g := (mkF m 26 #[va a, va b] [(.ref b), (.ref a)])) rfl rfl (hb hby d10_26)
  refine own_step (T' := T148) (g' := (mkF m 29 #[va a, va b] [(.int g_count), (.ref a)])) st151 ?_
  obtain ⟨T152, h153, X154, e155, W156, st157⟩ := putF X149 hx hZ hown (host := "") (Or.inl (own_w (i := 44) rfl hw)) Via.refl e150 F119 F112 (Or.inl (own_w (i := 45) rfl hw)) (own_w (i := 6) rfl hw) (ty := .int) (by decide) rfl rfl (g := (mkF m 29 #[va a, va b] [(.int g_count), (.ref a)])) rfl rfl (hb hby d10_29)
  have N158 := Fr.snoc X154 N147 ga
  have F159 := Nat.le_trans F111 (Keep.of_wr W156).1
  have F160 := F112.wr W156
  have F161 := F113.other W156 (Or.inr (own_so (lf18 hw) (lf45 hw) (by decide)))
  have F162 := F114.other W156 (Or.inr (own_so (lf20 hw) (lf45 hw) (by decide)))
  have F163 := F115.other W156 (Or.inr (own_so (lf24 hw) (lf45 hw) (by decide)))
  have F164 := F116.other W156 (Or.inr (own_so (lf29 hw) (lf45 hw) (by decide)))
  have F165 := F117.other W156 (Or.inr (own_so (lf32 hw) (lf45 hw) (by decide)))
  have F166 := F118.other W156 (Or.inr (own_so (lf43 hw) (lf45 hw) (by decide)))
  have F167 : Fld Z h153 a "com/example/sedimenta/sedimenta/Postings" "count" "I" (.int g_count) := F119.same W156
  have F168 := F120.other W156 (Or.inr (own_so (lf57 hw) (lf45 hw) (by decide)))
  have F169 := F121.other W156 (Or.inr (own_so (lf59 hw) (lf45 hw) (by decide)))
  have F170 := F122.other W156 (Or.inr (own_so (lf61 hw) (lf45 hw) (by decide)))
  have F171 := F123.other W156 (Or.inr (own_so (lf72 hw) (lf45 hw) (by decide)))
  have F172 := F124.other W156 (Or.inr (own_so (lf78 hw) (lf45 hw) (by decide)))
  have F173 := F125.other W156 (Or.inr (own_so (lf85 hw) (lf45 hw) (by decide)))
  have F174 := F126.other W156 (Or.inr (own_so (lf87 hw) (lf45 hw) (by decide)))
  have F175 := F127.other W156 (Or.inr (own_so (lf89 hw) (lf45 hw) (by decide)))
  have F176 := F128.other W156 (Or.inr (own_so (lf91 hw) (lf45 hw) (by decide)))
  have F177 := F129.other W156 (Or.inr (own_so (lf93 hw) (lf45 hw) (by decide)))
  have F178 := F130.other W156 (Or.inl nba)
  have F179 := F131.other W156 (Or.inl nba)
  have F180 := F132.other W156 (Or.inl nba)
  have F181 := F133.other W156 (Or.inl nba)
  have F182 := F135.other W156 (Or.inl nba)
  have F183 := F136.other W156 (Or.inl nba)
  have F184 := F137.other W156 (Or.inl nba)
  have F185 := F138.other W156 (Or.inl nba)
  have F186 := F139.other W156 (Or.inl nba)
  have F187 := F140.other W156 (Or.inl nba)
  have F188 := F141.other W156 (Or.inl nba)
  have F189 := F142.other W156 (Or.inl nba)
  have F190 := F143.other W156 (Or.inl nba)
  have F191 := F144.wr W156 (Or.inl (List.mem_of_getElem? (i := 0) rfl))
  obtain ⟨Lo192, X193, N194⟩ : ∃ Lo_, Stand p l e ({ frames := 0, cells := 0, slots := 0, locals := 0 } : Room) s m #[(.ref a), (.ref b)] below meth c T152 Lo_ 0 0 ∧ Fr n0 Lo_ := ⟨_, X154, N158⟩
  refine own_step (T' := T152) (g' := (mkF m 32 #[va a, va b] [])) st157 ?_
  refine own_step (T' := T152) (g' := (mkF m 33 #[va a, va b] [(.ref a)])) (fun t_ k_ => XS.aloadN X193.here hx rfl (hb hby d10_32) rfl rfl k_) ?_
  refine own_step (T' := T152) (g' := (mkF m 34 #[va a, va b] [(.ref b), (.ref a)])) (fun t_ k_ => XS.aloadN X193.here hx rfl (hb hby d10_33) rfl rfl k_) ?_
  obtain ⟨T195, X196, e197, st198⟩ := getF X193 hx hZ hown (host := "") (Or.inl (own_w (i := 56) rfl hw)) Via.refl e155 F182 (g := (mkF m 34 #[va a, va b] [(.ref b), (.ref a)])) rfl rfl (hb hby d10_34)
  refine own_step (T' := T195) (g' := (mkF m 37 #[va a, va b] [(.int g_first), (.ref a)])) st198 ?_
  obtain ⟨T199, h200, X201, e202, W203, st204⟩ := putF X196 hx hZ hown (host := "") (Or.inl (own_w (i := 56) rfl hw)) Via.refl e197 F168 F160 (Or.inl (own_w (i := 57) rfl hw)) (own_w (i := 6) rfl hw) (ty := .int) (by decide) rfl rfl (g := (mkF m 37 #[va a, va b] [(.int g_first), (.ref a)])) rfl rfl (hb hby d10_37)
  have N205 := Fr.snoc X201 N194 ga
  have F206 := Nat.le_trans F159 (Keep.of_wr W203).1
  have F207 := F160.wr W203
  have F208 := F161.other W203 (Or.inr (own_so (lf18 hw) (lf57 hw) (by decide)))
  have F209 := F162.other W203 (Or.inr (own_so (lf20 hw) (lf57 hw) (by decide)))
  have F210 := F163.other W203 (Or.inr (own_so (lf24 hw) (lf57 hw) (by decide)))
  have F211 := F164.other W203 (Or.inr (own_so (lf29 hw) (lf57 hw) (by decide)))
  have F212 := F165.other W203 (Or.inr (own_so (lf32 hw) (lf57 hw) (by decide)))
  have F213 := F166.other W203 (Or.inr (own_so (lf43 hw) (lf57 hw) (by decide)))
  have F214 := F167.other W203 (Or.inr (own_so (lf45 hw) (lf57 hw) (by decide)))
  have F215 : Fld Z h200 a "com/example/sedimenta/sedimenta/Postings" "first" "I" (.int g_first) := F168.same W203
  have F216 := F169.other W203 (Or.inr (own_so (lf59 hw) (lf57 hw) (by decide)))
  have F217 := F170.other W203 (Or.inr (own_so (lf61 hw) (lf57 hw) (by decide)))
  have F218 := F171.other W203 (Or.inr (own_so (lf72 hw) (lf57 hw) (by decide)))
  have F219 := F172.other W203 (Or.inr (own_so (lf78 hw) (lf57 hw) (by decide)))
  have F220 := F173.other W203 (Or.inr (own_so (lf85 hw) (lf57 hw) (by decide)))
  have F221 := F174.other W203 (Or.inr (own_so (lf87 hw) (lf57 hw) (by decide)))
  have F222 := F175.other W203 (Or.inr (own_so (lf89 hw) (lf57 hw) (by decide)))
  have F223 := F176.other W203 (Or.inr (own_so (lf91 hw) (lf57 hw) (by decide)))
  have F224 := F177.other W203 (Or.inr (own_so (lf93 hw) (lf57 hw) (by decide)))
  have F225 := F178.other W203 (Or.inl nba)
  have F226 := F179.other W203 (Or.inl nba)
  have F227 := F180.other W203 (Or.inl nba)
  have F228 := F181.other W203 (Or.inl nba)
  have F229 := F183.other W203 (Or.inl nba)
  have F230 := F184.other W203 (Or.inl nba)
  have F231 := F185.other W203 (Or.inl nba)
  have F232 := F186.other W203 (Or.inl nba)
  have F233 := F187.other W203 (Or.inl nba)
  have F234 := F188.other W203 (Or.inl nba)
  have F235 := F189.other W203 (Or.inl nba)
  have F236 := F190.other W203 (Or.inl nba)
  have F237 := F191.wr W203 (Or.inl (List.mem_of_getElem? (i := 0) rfl))
  obtain ⟨Lo238, X239, N240⟩ : ∃ Lo_, Stand p l e ({ frames := 0, cells := 0, slots := 0, locals := 0 } : Room) s m #[(.ref a), (.ref b)] below meth c T199 Lo_ 0 0 ∧ Fr n0 Lo_ := ⟨_, X201, N205⟩
  refine own_step (T' := T199) (g' := (mkF m 40 #[va a, va b] [])) st204 ?_
  refine own_step (T' := T199) (g' := (mkF m 41 #[va a, va b] [(.ref a)])) (fun t_ k_ => XS.aloadN X239.here hx rfl (hb hby d10_40) rfl rfl k_) ?_
  refine own_step (T' := T199) (g' := (mkF m 42 #[va a, va b] [(.ref b), (.ref a)])) (fun t_ k_ => XS.aloadN X239.here hx rfl (hb hby d10_41) rfl rfl k_) ?_
  obtain ⟨T241, X242, e243, st244⟩ := getF X239 hx hZ hown (host := "") (Or.inl (own_w (i := 58) rfl hw)) Via.refl e202 F229 (g := (mkF m 42 #[va a, va b] [(.ref b), (.ref a)])) rfl rfl (hb hby d10_42)
  refine own_step (T' := T241) (g' := (mkF m 45 #[va a, va b] [(.int g_firstFrequency), (.ref a)])) st244 ?_
  obtain ⟨T245, h246, X247, e248, W249, st250⟩ := putF X242 hx hZ hown (host := "") (Or.inl (own_w (i := 58) rfl hw)) Via.refl e243 F216 F207 (Or.inl (own_w (i := 59) rfl hw)) (own_w (i := 6) rfl hw) (ty := .int) (by decide) rfl rfl (g := (mkF m 45 #[va a, va b] [(.int g_firstFrequency), (.ref a)])) rfl rfl (hb hby d10_45)
  have N251 := Fr.snoc X247 N240 ga
  have F252 := Nat.le_trans F206 (Keep.of_wr W249).1
  have F253 := F207.wr W249
  have F254 := F208.other W249 (Or.inr (own_so (lf18 hw) (lf59 hw) (by decide)))
  have F255 := F209.other W249 (Or.inr (own_so (lf20 hw) (lf59 hw) (by decide)))
  have F256 := F210.other W249 (Or.inr (own_so (lf24 hw) (lf59 hw) (by decide)))
  have F257 := F211.other W249 (Or.inr (own_so (lf29 hw) (lf59 hw) (by decide)))
  have F258 := F212.other W249 (Or.inr (own_so (lf32 hw) (lf59 hw) (by decide)))
  have F259 := F213.other W249 (Or.inr (own_so (lf43 hw) (lf59 hw) (by decide)))
  have F260 := F214.other W249 (Or.inr (own_so (lf45 hw) (lf59 hw) (by decide)))
  have F261 := F215.other W249 (Or.inr (own_so (lf57 hw) (lf59 hw) (by decide)))
  have F262 : Fld Z h246 a "com/example/sedimenta/sedimenta/Postings" "firstFrequency" "I" (.int g_firstFrequency) := F216.same W249
  have F263 := F217.other W249 (Or.inr (own_so (lf61 hw) (lf59 hw) (by decide)))
  have F264 := F218.other W249 (Or.inr (own_so (lf72 hw) (lf59 hw) (by decide)))
  have F265 := F219.other W249 (Or.inr (own_so (lf78 hw) (lf59 hw) (by decide)))
  have F266 := F220.other W249 (Or.inr (own_so (lf85 hw) (lf59 hw) (by decide)))
  have F267 := F221.other W249 (Or.inr (own_so (lf87 hw) (lf59 hw) (by decide)))
  have F268 := F222.other W249 (Or.inr (own_so (lf89 hw) (lf59 hw) (by decide)))
  have F269 := F223.other W249 (Or.inr (own_so (lf91 hw) (lf59 hw) (by decide)))
  have F270 := F224.other W249 (Or.inr (own_so (lf93 hw) (lf59 hw) (by decide)))
  have F271 := F225.other W249 (Or.inl nba)
  have F272 := F226.other W249 (Or.inl nba)
  have F273 := F227.other W249 (Or.inl nba)
  have F274 := F228.other W249 (Or.inl nba)
  have F275 := F230.other W249 (Or.inl nba)
  have F276 := F231.other W249 (Or.inl nba)
  have F277 := F232.other W249 (Or.inl nba)
  have F278 := F233.other W249 (Or.inl nba)
  have F279 := F234.other W249 (Or.inl nba)
  have F280 := F235.other W249 (Or.inl nba)
  have F281 := F236.other W249 (Or.inl nba)
  have F282 := F237.wr W249 (Or.inl (List.mem_of_getElem? (i := 0) rfl))
  obtain ⟨Lo283, X284, N285⟩ : ∃ Lo_, Stand p l e ({ frames := 0, cells := 0, slots := 0, locals := 0 } : Room) s m #[(.ref a), (.ref b)] below meth c T245 Lo_ 0 0 ∧ Fr n0 Lo_ := ⟨_, X247, N251⟩
  refine own_step (T' := T245) (g' := (mkF m 48 #[va a, va b] [])) st250 ?_
  refine own_step (T' := T245) (g' := (mkF m 49 #[va a, va b] [(.ref a)])) (fun t_ k_ => XS.aloadN X284.here hx rfl (hb hby d10_48) rfl rfl k_) ?_
  refine own_step (T' := T245) (g' := (mkF m 50 #[va a, va b] [(.ref b), (.ref a)])) (fun t_ k_ => XS.aloadN X284.here hx rfl (hb hby d10_49) rfl rfl k_) ?_
  obtain ⟨T286, X287, e288, st289⟩ := getF X284 hx hZ hown (host := "") (Or.inl (own_w (i := 60) rfl hw)) Via.refl e248 F275 (g := (mkF m 50 #[va a, va b] [(.ref b), (.ref a)])) rfl rfl (hb hby d10_50)
  refine own_step (T' := T286) (g' := (mkF m 53 #[va a, va b] [(.int g_firstLength), (.ref a)])) st289 ?_
  obtain ⟨T290, h291, X292, e293, W294, st295⟩ := putF X287 hx hZ hown (host := "") (Or.inl (own_w (i := 60) rfl hw)) Via.refl e288 F263 F253 (Or.inl (own_w (i := 61) rfl hw)) (own_w (i := 6) rfl hw) (ty := .int) (by decide) rfl rfl (g := (mkF m 53 #[va a, va b] [(.int g_firstLength), (.ref a)])) rfl rfl (hb hby d10_53)
  have N296 := Fr.snoc X292 N285 ga
  have F297 := Nat.le_trans F252 (Keep.of_wr W294).1
  have F298 := F253.wr W294
  have F299 := F254.other W294 (Or.inr (own_so (lf18 hw) (lf61 hw) (by decide)))
  have F300 := F255.other W294 (Or.inr (own_so (lf20 hw) (lf61 hw) (by decide)))
  have F301 := F256.other W294 (Or.inr (own_so (lf24 hw) (lf61 hw) (by decide)))
  have F302 := F257.other W294 (Or.inr (own_so (lf29 hw) (lf61 hw) (by decide)))
  have F303 := F258.other W294 (Or.inr (own_so (lf32 hw) (lf61 hw) (by decide)))
  have F304 := F259.other W294 (Or.inr (own_so (lf43 hw) (lf61 hw) (by decide)))
  have F305 := F260.other W294 (Or.inr (own_so (lf45 hw) (lf61 hw) (by decide)))
  have F306 := F261.other W294 (Or.inr (own_so (lf57 hw) (lf61 hw) (by decide)))
  have F307 := F262.other W294 (Or.inr (own_so (lf59 hw) (lf61 hw) (by decide)))
  have F308 : Fld Z h291 a "com/example/sedimenta/sedimenta/Postings" "firstLength" "I" (.int g_firstLength) := F263.same W294
  have F309 := F264.other W294 (Or.inr (own_so (lf72 hw) (lf61 hw) (by decide)))
  have F310 := F265.other W294 (Or.inr (own_so (lf78 hw) (lf61 hw) (by decide)))
  have F311 := F266.other W294 (Or.inr (own_so (lf85 hw) (lf61 hw) (by decide)))
  have F312 := F267.other W294 (Or.inr (own_so (lf87 hw) (lf61 hw) (by decide)))
  have F313 := F268.other W294 (Or.inr (own_so (lf89 hw) (lf61 hw) (by decide)))
  have F314 := F269.other W294 (Or.inr (own_so (lf91 hw) (lf61 hw) (by decide)))
  have F315 := F270.other W294 (Or.inr (own_so (lf93 hw) (lf61 hw) (by decide)))
  have F316 := F271.other W294 (Or.inl nba)
  have F317 := F272.other W294 (Or.inl nba)
  have F318 := F273.other W294 (Or.inl nba)
  have F319 := F274.other W294 (Or.inl nba)
  have F320 := F276.other W294 (Or.inl nba)
  have F321 := F277.other W294 (Or.inl nba)
  have F322 := F278.other W294 (Or.inl nba)
  have F323 := F279.other W294 (Or.inl nba)
  have F324 := F280.other W294 (Or.inl nba)
  have F325 := F281.other W294 (Or.inl nba)
  have F326 := F282.wr W294 (Or.inl (List.mem_of_getElem? (i := 0) rfl))
  obtain ⟨Lo327, X328, N329⟩ : ∃ Lo_, Stand p l e ({ frames := 0, cells := 0, slots := 0, locals := 0 } : Room) s m #[(.ref a), (.ref b)] below meth c T290 Lo_ 0 0 ∧ Fr n0 Lo_ := ⟨_, X292, N296⟩
  refine own_step (T' := T290) (g' := (mkF m 56 #[va a, va b] [])) st295 ?_
  refine own_step (T' := T290) (g' := (mkF m 57 #[va a, va b] [(.ref a)])) (fun t_ k_ => XS.aloadN X328.here hx rfl (hb hby d10_56) rfl rfl k_) ?_
  refine own_step (T' := T290) (g' := (mkF m 58 #[va a, va b] [(.ref b), (.ref a)])) (fun t_ k_ => XS.aloadN X328.here hx rfl (hb hby d10_57) rfl rfl k_) ?_
  obtain ⟨T330, X331, e332, st333⟩ := getF X328 hx hZ hown (host := "") (Or.inl (own_w (i := 19) rfl hw)) Via.refl e293 F316 (g := (mkF m 58 #[va a, va b] [(.ref b), (.ref a)])) rfl rfl (hb hby d10_58)
  refine own_step (T' := T330) (g' := (mkF m 61 #[va a, va b] [(.int g_last), (.ref a)])) st333 ?_
  obtain ⟨T334, h335, X336, e337, W338, st339⟩ := putF X331 hx hZ hown (host := "") (Or.inl (own_w (i := 19) rfl hw)) Via.refl e332 F300 F298 (Or.inl (own_w (i := 20) rfl hw)) (own_w (i := 6) rfl hw) (ty := .int) (by decide) rfl rfl (g := (mkF m 61 #[va a, va b] [(.int g_last), (.ref a)])) rfl rfl (hb hby d10_61)
  have N340 := Fr.snoc X336 N329 ga
  have F341 := Nat.le_trans F297 (Keep.of_wr W338).1
  have F342 := F298.wr W338
  have F343 := F299.other W338 (Or.inr (own_so (lf18 hw) (lf20 hw) (by decide)))
  have F344 : Fld Z h335 a "com/example/sedimenta/sedimenta/Postings" "last" "I" (.int g_last) := F300.same W338
  have F345 := F301.other W338 (Or.inr (own_so (lf24 hw) (lf20 hw) (by decide)))
  have F346 := F302.other W338 (Or.inr (own_so (lf29 hw) (lf20 hw) (by decide)))
  have F347 := F303.other W338 (Or.inr (own_so (lf32 hw) (lf20 hw) (by decide)))
  have F348 := F304.other W338 (Or.inr (own_so (lf43 hw) (lf20 hw) (by decide)))
  have F349 := F305.other W338 (Or.inr (own_so (lf45 hw) (lf20 hw) (by decide)))
  have F350 := F306.other W338 (Or.inr (own_so (lf57 hw) (lf20 hw) (by decide)))
  have F351 := F307.other W338 (Or.inr (own_so (lf59 hw) (lf20 hw) (by decide)))
  have F352 := F308.other W338 (Or.inr (own_so (lf61 hw) (lf20 hw) (by decide)))
  have F353 := F309.other W338 (Or.inr (own_so (lf72 hw) (lf20 hw) (by decide)))
  have F354 := F310.other W338 (Or.inr (own_so (lf78 hw) (lf20 hw) (by decide)))
  have F355 := F311.other W338 (Or.inr (own_so (lf85 hw) (lf20 hw) (by decide)))
  have F356 := F312.other W338 (Or.inr (own_so (lf87 hw) (lf20 hw) (by decide)))
  have F357 := F313.other W338 (Or.inr (own_so (lf89 hw) (lf20 hw) (by decide)))
  have F358 := F314.other W338 (Or.inr (own_so (lf91 hw) (lf20 hw) (by decide)))
  have F359 := F315.other W338 (Or.inr (own_so (lf93 hw) (lf20 hw) (by decide)))
  have F360 := F317.other W338 (Or.inl nba)
  have F361 := F318.other W338 (Or.inl nba)
  have F362 := F319.other W338 (Or.inl nba)
  have F363 := F320.other W338 (Or.inl nba)
  have F364 := F321.other W338 (Or.inl nba)
  have F365 := F322.other W338 (Or.inl nba)
  have F366 := F323.other W338 (Or.inl nba)
  have F367 := F324.other W338 (Or.inl nba)
  have F368 := F325.other W338 (Or.inl nba)
  have F369 := F326.wr W338 (Or.inl (List.mem_of_getElem? (i := 0) rfl))
  obtain ⟨Lo370, X371, N372⟩ : ∃ Lo_, Stand p l e ({ frames := 0, cells := 0, slots := 0, locals := 0 } : Room) s m #[(.ref a), (.ref b)] below meth c T334 Lo_ 0 0 ∧ Fr n0 Lo_ := ⟨_, X336, N340⟩
  refine own_step (T' := T334) (g' := (mkF m 64 #[va a, va b] [])) st339 ?_
  refine own_step (T' := T334) (g' := (mkF m 65 #[va a, va b] [(.ref a)])) (fun t_ k_ => XS.aloadN X371.here hx rfl (hb hby d10_64) rfl rfl k_) ?_
  refine own_step (T' := T334) (g' := (mkF m 66 #[va a, va b] [(.ref b), (.ref a)])) (fun t_ k_ => XS.aloadN X371.here hx rfl (hb hby d10_65) rfl rfl k_) ?_
  obtain ⟨T373, X374, e375, st376⟩ := getF X371 hx hZ hown (host := "") (Or.inl (own_w (i := 77) rfl hw)) Via.refl e337 F364 (g := (mkF m 66 #[va a, va b] [(.ref b), (.ref a)])) rfl rfl (hb hby d10_66)
  refine own_step (T' := T373) (g' := (mkF m 69 #[va a, va b] [(.int g_positioned), (.ref a)])) st376 ?_
  obtain ⟨T377, h378, X379, e380, W381, st382⟩ := putFN X374 hx hZ hown (own_w (i := 77) rfl hw) Via.refl e375 F354 F342 (Or.inl (own_w (i := 78) rfl hw)) (own_w (i := 6) rfl hw) (ty := .boolean) (by decide) (v' := .int (nar .boolean g_positioned)) rfl (fits_nar_bool _) (g := (mkF m 69 #[va a, va b] [(.int g_positioned), (.ref a)])) rfl rfl (hb hby d10_69)
  have N383 := Fr.snoc X379 N372 ga
  have F384 := Nat.le_trans F341 (Keep.of_wr W381).1
  have F385 := F342.wr W381
  have F386 := F343.other W381 (Or.inr (own_so (lf18 hw) (lf78 hw) (by decide)))
  have F387 := F344.other W381 (Or.inr (own_so (lf20 hw) (lf78 hw) (by decide)))
  have F388 := F345.other W381 (Or.inr (own_so (lf24 hw) (lf78 hw) (by decide)))
  have F389 := F346.other W381 (Or.inr (own_so (lf29 hw) (lf78 hw) (by decide)))
  have F390 := F347.other W381 (Or.inr (own_so (lf32 hw) (lf78 hw) (by decide)))
  have F391 := F348.other W381 (Or.inr (own_so (lf43 hw) (lf78 hw) (by decide)))
  have F392 := F349.other W381 (Or.inr (own_so (lf45 hw) (lf78 hw) (by decide)))
  have F393 := F350.other W381 (Or.inr (own_so (lf57 hw) (lf78 hw) (by decide)))
  have F394 := F351.other W381 (Or.inr (own_so (lf59 hw) (lf78 hw) (by decide)))
  have F395 := F352.other W381 (Or.inr (own_so (lf61 hw) (lf78 hw) (by decide)))
  have F396 := F353.other W381 (Or.inr (own_so (lf72 hw) (lf78 hw) (by decide)))
  have F397 : Fld Z h378 a "com/example/sedimenta/sedimenta/Postings" "positioned" "Z" (.int (nar .boolean g_positioned)) := F354.same W381
  have F398 := F355.other W381 (Or.inr (own_so (lf85 hw) (lf78 hw) (by decide)))
  have F399 := F356.other W381 (Or.inr (own_so (lf87 hw) (lf78 hw) (by decide)))
  have F400 := F357.other W381 (Or.inr (own_so (lf89 hw) (lf78 hw) (by decide)))
  have F401 := F358.other W381 (Or.inr (own_so (lf91 hw) (lf78 hw) (by decide)))
  have F402 := F359.other W381 (Or.inr (own_so (lf93 hw) (lf78 hw) (by decide)))
  have F403 := F360.other W381 (Or.inl nba)
  have F404 := F361.other W381 (Or.inl nba)
  have F405 := F362.other W381 (Or.inl nba)
  have F406 := F363.other W381 (Or.inl nba)
  have F407 := F365.other W381 (Or.inl nba)
  have F408 := F366.other W381 (Or.inl nba)
  have F409 := F367.other W381 (Or.inl nba)
  have F410 := F368.other W381 (Or.inl nba)
  have F411 := F369.wr W381 (Or.inl (List.mem_of_getElem? (i := 0) rfl))
  obtain ⟨Lo412, X413, N414⟩ : ∃ Lo_, Stand p l e ({ frames := 0, cells := 0, slots := 0, locals := 0 } : Room) s m #[(.ref a), (.ref b)] below meth c T377 Lo_ 0 0 ∧ Fr n0 Lo_ := ⟨_, X379, N383⟩
  refine own_step (T' := T377) (g' := (mkF m 72 #[va a, va b] [])) st382 ?_
  refine own_step (T' := T377) (g' := (mkF m 73 #[va a, va b] [(.ref a)])) (fun t_ k_ => XS.aloadN X413.here hx rfl (hb hby d10_72) rfl rfl k_) ?_
  refine own_step (T' := T377) (g' := (mkF m 74 #[va a, va b] [(.ref b), (.ref a)])) (fun t_ k_ => XS.aloadN X413.here hx rfl (hb hby d10_73) rfl rfl k_) ?_
  obtain ⟨T415, X416, e417, st418⟩ := getF X413 hx hZ hown (host := "") (Or.inl (own_w (i := 23) rfl hw)) Via.refl e380 F403 (g := (mkF m 74 #[va a, va b] [(.ref b), (.ref a)])) rfl rfl (hb hby d10_74)
  refine own_step (T' := T415) (g' := (mkF m 77 #[va a, va b] [(.ref g_positionBytes), (.ref a)])) st418 ?_
  obtain ⟨T419, h420, X421, e422, W423, st424⟩ := putF X416 hx hZ hown (host := "") (Or.inl (own_w (i := 23) rfl hw)) Via.refl e417 F388 F385 (Or.inl (own_w (i := 24) rfl hw)) (own_w (i := 6) rfl hw) (ty := (.array .byte)) (by decide) rfl rfl (g := (mkF m 77 #[va a, va b] [(.ref g_positionBytes), (.ref a)])) rfl rfl (hb hby d10_77)
  have N425 := Fr.snoc X421 N414 ga
  have F426 := Nat.le_trans F384 (Keep.of_wr W423).1
  have F427 := F385.wr W423
  have F428 := F386.other W423 (Or.inr (own_so (lf18 hw) (lf24 hw) (by decide)))
  have F429 := F387.other W423 (Or.inr (own_so (lf20 hw) (lf24 hw) (by decide)))
  have F430 : Fld Z h420 a "com/example/sedimenta/sedimenta/Postings" "positionBytes" "[B" (.ref g_positionBytes) := F388.same W423
  have F431 := F389.other W423 (Or.inr (own_so (lf29 hw) (lf24 hw) (by decide)))
  have F432 := F390.other W423 (Or.inr (own_so (lf32 hw) (lf24 hw) (by decide)))
  have F433 := F391.other W423 (Or.inr (own_so (lf43 hw) (lf24 hw) (by decide)))
  have F434 := F392.other W423 (Or.inr (own_so (lf45 hw) (lf24 hw) (by decide)))
  have F435 := F393.other W423 (Or.inr (own_so (lf57 hw) (lf24 hw) (by decide)))
  have F436 := F394.other W423 (Or.inr (own_so (lf59 hw) (lf24 hw) (by decide)))
  have F437 := F395.other W423 (Or.inr (own_so (lf61 hw) (lf24 hw) (by decide)))
  have F438 := F396.other W423 (Or.inr (own_so (lf72 hw) (lf24 hw) (by decide)))
  have F439 := F397.other W423 (Or.inr (own_so (lf78 hw) (lf24 hw) (by decide)))
  have F440 := F398.other W423 (Or.inr (own_so (lf85 hw) (lf24 hw) (by decide)))
  have F441 := F399.other W423 (Or.inr (own_so (lf87 hw) (lf24 hw) (by decide)))
  have F442 := F400.other W423 (Or.inr (own_so (lf89 hw) (lf24 hw) (by decide)))
  have F443 := F401.other W423 (Or.inr (own_so (lf91 hw) (lf24 hw) (by decide)))
  have F444 := F402.other W423 (Or.inr (own_so (lf93 hw) (lf24 hw) (by decide)))
  have F445 := F404.other W423 (Or.inl nba)
  have F446 := F405.other W423 (Or.inl nba)
  have F447 := F406.other W423 (Or.inl nba)
  have F448 := F407.other W423 (Or.inl nba)
  have F449 := F408.other W423 (Or.inl nba)
  have F450 := F409.other W423 (Or.inl nba)
  have F451 := F410.other W423 (Or.inl nba)
  have F452 := F411.wr W423 (Or.inl (List.mem_of_getElem? (i := 0) rfl))
  obtain ⟨Lo453, X454, N455⟩ : ∃ Lo_, Stand p l e ({ frames := 0, cells := 0, slots := 0, locals := 0 } : Room) s m #[(.ref a), (.ref b)] below meth c T419 Lo_ 0 0 ∧ Fr n0 Lo_ := ⟨_, X421, N425⟩
  refine own_step (T' := T419) (g' := (mkF m 80 #[va a, va b] [])) st424 ?_
  refine own_step (T' := T419) (g' := (mkF m 81 #[va a, va b] [(.ref a)])) (fun t_ k_ => XS.aloadN X454.here hx rfl (hb hby d10_80) rfl rfl k_) ?_
  refine own_step (T' := T419) (g' := (mkF m 82 #[va a, va b] [(.ref b), (.ref a)])) (fun t_ k_ => XS.aloadN X454.here hx rfl (hb hby d10_81) rfl rfl k_) ?_
  obtain ⟨T456, X457, e458, st459⟩ := getF X454 hx hZ hown (host := "") (Or.inl (own_w (i := 86) rfl hw)) Via.refl e422 F448 (g := (mkF m 82 #[va a, va b] [(.ref b), (.ref a)])) rfl rfl (hb hby d10_82)
  refine own_step (T' := T456) (g' := (mkF m 85 #[va a, va b] [(.int g_positionsOffset), (.ref a)])) st459 ?_
  obtain ⟨T460, h461, X462, e463, W464, st465⟩ := putF X457 hx hZ hown (host := "") (Or.inl (own_w (i := 86) rfl hw)) Via.refl e458 F441 F427 (Or.inl (own_w (i := 87) rfl hw)) (own_w (i := 6) rfl hw) (ty := .int) (by decide) rfl rfl (g := (mkF m 85 #[va a, va b] [(.int g_positionsOffset), (.ref a)])) rfl rfl (hb hby d10_85)
  have N466 := Fr.snoc X462 N455 ga
  have F467 := Nat.le_trans F426 (Keep.of_wr W464).1
  have F468 := F427.wr W464
  have F469 := F428.other W464 (Or.inr (own_so (lf18 hw) (lf87 hw) (by decide)))
  have F470 := F429.other W464 (Or.inr (own_so (lf20 hw) (lf87 hw) (by decide)))
  have F471 := F431.other W464 (Or.inr (own_so (lf29 hw) (lf87 hw) (by decide)))
  have F472 := F432.other W464 (Or.inr (own_so (lf32 hw) (lf87 hw) (by decide)))
  have F473 := F433.other W464 (Or.inr (own_so (lf43 hw) (lf87 hw) (by decide)))
  have F474 := F434.other W464 (Or.inr (own_so (lf45 hw) (lf87 hw) (by decide)))
  have F475 := F435.other W464 (Or.inr (own_so (lf57 hw) (lf87 hw) (by decide)))
  have F476 := F436.other W464 (Or.inr (own_so (lf59 hw) (lf87 hw) (by decide)))
  have F477 := F437.other W464 (Or.inr (own_so (lf61 hw) (lf87 hw) (by decide)))
  have F478 := F438.other W464 (Or.inr (own_so (lf72 hw) (lf87 hw) (by decide)))
  have F479 := F439.other W464 (Or.inr (own_so (lf78 hw) (lf87 hw) (by decide)))
  have F480 := F440.other W464 (Or.inr (own_so (lf85 hw) (lf87 hw) (by decide)))
  have F481 : Fld Z h461 a "com/example/sedimenta/sedimenta/Postings" "positionsOffset" "I" (.int g_positionsOffset) := F441.same W464
  have F482 := F442.other W464 (Or.inr (own_so (lf89 hw) (lf87 hw) (by decide)))
  have F483 := F443.other W464 (Or.inr (own_so (lf91 hw) (lf87 hw) (by decide)))
  have F484 := F444.other W464 (Or.inr (own_so (lf93 hw) (lf87 hw) (by decide)))
  have F485 := F445.other W464 (Or.inl nba)
  have F486 := F446.other W464 (Or.inl nba)
  have F487 := F447.other W464 (Or.inl nba)
  have F488 := F449.other W464 (Or.inl nba)
  have F489 := F450.other W464 (Or.inl nba)
  have F490 := F451.other W464 (Or.inl nba)
  have F491 := F452.wr W464 (Or.inl (List.mem_of_getElem? (i := 0) rfl))
  obtain ⟨Lo492, X493, N494⟩ : ∃ Lo_, Stand p l e ({ frames := 0, cells := 0, slots := 0, locals := 0 } : Room) s m #[(.ref a), (.ref b)] below meth c T460 Lo_ 0 0 ∧ Fr n0 Lo_ := ⟨_, X462, N466⟩
  refine own_step (T' := T460) (g' := (mkF m 88 #[va a, va b] [])) st465 ?_
  refine own_step (T' := T460) (g' := (mkF m 89 #[va a, va b] [(.ref a)])) (fun t_ k_ => XS.aloadN X493.here hx rfl (hb hby d10_88) rfl rfl k_) ?_
  refine own_step (T' := T460) (g' := (mkF m 90 #[va a, va b] [(.ref b), (.ref a)])) (fun t_ k_ => XS.aloadN X493.here hx rfl (hb hby d10_89) rfl rfl k_) ?_
  obtain ⟨T495, X496, e497, st498⟩ := getF X493 hx hZ hown (host := "") (Or.inl (own_w (i := 71) rfl hw)) Via.refl e463 F487 (g := (mkF m 90 #[va a, va b] [(.ref b), (.ref a)])) rfl rfl (hb hby d10_90)
  refine own_step (T' := T495) (g' := (mkF m 93 #[va a, va b] [(.int g_positionsLength), (.ref a)])) st498 ?_
  obtain ⟨T499, h500, X501, e502, W503, st504⟩ := putF X496 hx hZ hown (host := "") (Or.inl (own_w (i := 71) rfl hw)) Via.refl e497 F478 F468 (Or.inl (own_w (i := 72) rfl hw)) (own_w (i := 6) rfl hw) (ty := .int) (by decide) rfl rfl (g := (mkF m 93 #[va a, va b] [(.int g_positionsLength), (.ref a)])) rfl rfl (hb hby d10_93)
  have N505 := Fr.snoc X501 N494 ga
  have F506 := Nat.le_trans F467 (Keep.of_wr W503).1
  have F507 := F468.wr W503
  have F508 := F469.other W503 (Or.inr (own_so (lf18 hw) (lf72 hw) (by decide)))
  have F509 := F470.other W503 (Or.inr (own_so (lf20 hw) (lf72 hw) (by decide)))
  have F510 := F471.other W503 (Or.inr (own_so (lf29 hw) (lf72 hw) (by decide)))
  have F511 := F472.other W503 (Or.inr (own_so (lf32 hw) (lf72 hw) (by decide)))
  have F512 := F473.other W503 (Or.inr (own_so (lf43 hw) (lf72 hw) (by decide)))
  have F513 := F474.other W503 (Or.inr (own_so (lf45 hw) (lf72 hw) (by decide)))
  have F514 := F475.other W503 (Or.inr (own_so (lf57 hw) (lf72 hw) (by decide)))
  have F515 := F476.other W503 (Or.inr (own_so (lf59 hw) (lf72 hw) (by decide)))
  have F516 := F477.other W503 (Or.inr (own_so (lf61 hw) (lf72 hw) (by decide)))
  have F517 : Fld Z h500 a "com/example/sedimenta/sedimenta/Postings" "positionsLength" "I" (.int g_positionsLength) := F478.same W503
  have F518 := F479.other W503 (Or.inr (own_so (lf78 hw) (lf72 hw) (by decide)))
  have F519 := F480.other W503 (Or.inr (own_so (lf85 hw) (lf72 hw) (by decide)))
  have F520 := F482.other W503 (Or.inr (own_so (lf89 hw) (lf72 hw) (by decide)))
  have F521 := F483.other W503 (Or.inr (own_so (lf91 hw) (lf72 hw) (by decide)))
  have F522 := F484.other W503 (Or.inr (own_so (lf93 hw) (lf72 hw) (by decide)))
  have F523 := F485.other W503 (Or.inl nba)
  have F524 := F486.other W503 (Or.inl nba)
  have F525 := F488.other W503 (Or.inl nba)
  have F526 := F489.other W503 (Or.inl nba)
  have F527 := F490.other W503 (Or.inl nba)
  have F528 := F491.wr W503 (Or.inl (List.mem_of_getElem? (i := 0) rfl))
  obtain ⟨Lo529, X530, N531⟩ : ∃ Lo_, Stand p l e ({ frames := 0, cells := 0, slots := 0, locals := 0 } : Room) s m #[(.ref a), (.ref b)] below meth c T499 Lo_ 0 0 ∧ Fr n0 Lo_ := ⟨_, X501, N505⟩
  refine own_step (T' := T499) (g' := (mkF m 96 #[va a, va b] [])) st504 ?_
  refine own_step (T' := T499) (g' := (mkF m 97 #[va a, va b] [(.ref a)])) (fun t_ k_ => XS.aloadN X530.here hx rfl (hb hby d10_96) rfl rfl k_) ?_
  refine own_step (T' := T499) (g' := (mkF m 98 #[va a, va b] [(.ref b), (.ref a)])) (fun t_ k_ => XS.aloadN X530.here hx rfl (hb hby d10_97) rfl rfl k_) ?_
  obtain ⟨T532, X533, e534, st535⟩ := getF X530 hx hZ hown (host := "") (Or.inl (own_w (i := 88) rfl hw)) Via.refl e502 F525 (g := (mkF m 98 #[va a, va b] [(.ref b), (.ref a)])) rfl rfl (hb hby d10_98)
  refine own_step (T' := T532) (g' := (mkF m 101 #[va a, va b] [.null, (.ref a)])) st535 ?_
  obtain ⟨T536, h537, X538, e539, W540, st541⟩ := putF X533 hx hZ hown (host := "") (Or.inl (own_w (i := 88) rfl hw)) Via.refl e534 F520 F507 (Or.inl (own_w (i := 89) rfl hw)) (own_w (i := 6) rfl hw) (ty := (.object "com/example/sedimenta/sedimenta/TermBlocks")) (by decide) rfl rfl (g := (mkF m 101 #[va a, va b] [.null, (.ref a)])) rfl rfl (hb hby d10_101)
  have N542 := Fr.snoc X538 N531 ga
  have F543 := Nat.le_trans F506 (Keep.of_wr W540).1
  have F544 := F507.wr W540
  have F545 := F508.other W540 (Or.inr (own_so (lf18 hw) (lf89 hw) (by decide)))
  have F546 := F509.other W540 (Or.inr (own_so (lf20 hw) (lf89 hw) (by decide)))
  have F547 := F510.other W540 (Or.inr (own_so (lf29 hw) (lf89 hw) (by decide)))
  have F548 := F511.other W540 (Or.inr (own_so (lf32 hw) (lf89 hw) (by decide)))
  have F549 := F512.other W540 (Or.inr (own_so (lf43 hw) (lf89 hw) (by decide)))
  have F550 := F513.other W540 (Or.inr (own_so (lf45 hw) (lf89 hw) (by decide)))
  have F551 := F514.other W540 (Or.inr (own_so (lf57 hw) (lf89 hw) (by decide)))
  have F552 := F515.other W540 (Or.inr (own_so (lf59 hw) (lf89 hw) (by decide)))
  have F553 := F516.other W540 (Or.inr (own_so (lf61 hw) (lf89 hw) (by decide)))
  have F554 := F517.other W540 (Or.inr (own_so (lf72 hw) (lf89 hw) (by decide)))
  have F555 := F518.other W540 (Or.inr (own_so (lf78 hw) (lf89 hw) (by decide)))
  have F556 := F519.other W540 (Or.inr (own_so (lf85 hw) (lf89 hw) (by decide)))
  have F557 : Fld Z h537 a "com/example/sedimenta/sedimenta/Postings" "blocks" "Lcom/example/sedimenta/sedimenta/TermBlocks;" .null := F520.same W540
  have F558 := F521.other W540 (Or.inr (own_so (lf91 hw) (lf89 hw) (by decide)))
  have F559 := F522.other W540 (Or.inr (own_so (lf93 hw) (lf89 hw) (by decide)))
  have F560 := F523.other W540 (Or.inl nba)
  have F561 := F524.other W540 (Or.inl nba)
  have F562 := F526.other W540 (Or.inl nba)
  have F563 := F527.other W540 (Or.inl nba)
  have F564 := F528.wr W540 (Or.inl (List.mem_of_getElem? (i := 0) rfl))
  obtain ⟨Lo565, X566, N567⟩ : ∃ Lo_, Stand p l e ({ frames := 0, cells := 0, slots := 0, locals := 0 } : Room) s m #[(.ref a), (.ref b)] below meth c T536 Lo_ 0 0 ∧ Fr n0 Lo_ := ⟨_, X538, N542⟩
  refine own_step (T' := T536) (g' := (mkF m 104 #[va a, va b] [])) st541 ?_
  refine own_step (T' := T536) (g' := (mkF m 105 #[va a, va b] [(.ref a)])) (fun t_ k_ => XS.aloadN X566.here hx rfl (hb hby d10_104) rfl rfl k_) ?_
  refine own_step (T' := T536) (g' := (mkF m 106 #[va a, va b] [(.ref b), (.ref a)])) (fun t_ k_ => XS.aloadN X566.here hx rfl (hb hby d10_105) rfl rfl k_) ?_
  obtain ⟨T568, X569, e570, st571⟩ := getF X566 hx hZ hown (host := "") (Or.inl (own_w (i := 28) rfl hw)) Via.refl e539 F560 (g := (mkF m 106 #[va a, va b] [(.ref b), (.ref a)])) rfl rfl (hb hby d10_106)
  refine own_step (T' := T568) (g' := (mkF m 109 #[va a, va b] [(.int g_entriesChecked), (.ref a)])) st571 ?_
  obtain ⟨T572, h573, X574, e575, W576, st577⟩ := putFN X569 hx hZ hown (own_w (i := 28) rfl hw) Via.refl e570 F547 F544 (Or.inl (own_w (i := 29) rfl hw)) (own_w (i := 6) rfl hw) (ty := .boolean) (by decide) (v' := .int (nar .boolean g_entriesChecked)) rfl (fits_nar_bool _) (g := (mkF m 109 #[va a, va b] [(.int g_entriesChecked), (.ref a)])) rfl rfl (hb hby d10_109)
  have N578 := Fr.snoc X574 N567 ga
  have F579 := Nat.le_trans F543 (Keep.of_wr W576).1
  have F580 := F544.wr W576
  have F581 := F545.other W576 (Or.inr (own_so (lf18 hw) (lf29 hw) (by decide)))
  have F582 := F546.other W576 (Or.inr (own_so (lf20 hw) (lf29 hw) (by decide)))
  have F583 : Fld Z h573 a "com/example/sedimenta/sedimenta/Postings" "entriesChecked" "Z" (.int (nar .boolean g_entriesChecked)) := F547.same W576
  have F584 := F548.other W576 (Or.inr (own_so (lf32 hw) (lf29 hw) (by decide)))
  have F585 := F549.other W576 (Or.inr (own_so (lf43 hw) (lf29 hw) (by decide)))
  have F586 := F550.other W576 (Or.inr (own_so (lf45 hw) (lf29 hw) (by decide)))
  have F587 := F551.other W576 (Or.inr (own_so (lf57 hw) (lf29 hw) (by decide)))
  have F588 := F552.other W576 (Or.inr (own_so (lf59 hw) (lf29 hw) (by decide)))
  have F589 := F553.other W576 (Or.inr (own_so (lf61 hw) (lf29 hw) (by decide)))
  have F590 := F554.other W576 (Or.inr (own_so (lf72 hw) (lf29 hw) (by decide)))
  have F591 := F555.other W576 (Or.inr (own_so (lf78 hw) (lf29 hw) (by decide)))
  have F592 := F556.other W576 (Or.inr (own_so (lf85 hw) (lf29 hw) (by decide)))
  have F593 := F557.other W576 (Or.inr (own_so (lf89 hw) (lf29 hw) (by decide)))
  have F594 := F558.other W576 (Or.inr (own_so (lf91 hw) (lf29 hw) (by decide)))
  have F595 := F559.other W576 (Or.inr (own_so (lf93 hw) (lf29 hw) (by decide)))
  have F596 := F561.other W576 (Or.inl nba)
  have F597 := F562.other W576 (Or.inl nba)
  have F598 := F563.other W576 (Or.inl nba)
  have F599 := F564.wr W576 (Or.inl (List.mem_of_getElem? (i := 0) rfl))
  obtain ⟨Lo600, X601, N602⟩ : ∃ Lo_, Stand p l e ({ frames := 0, cells := 0, slots := 0, locals := 0 } : Room) s m #[(.ref a), (.ref b)] below meth c T572 Lo_ 0 0 ∧ Fr n0 Lo_ := ⟨_, X574, N578⟩
  refine own_step (T' := T572) (g' := (mkF m 112 #[va a, va b] [])) st577 ?_
  refine own_step (T' := T572) (g' := (mkF m 113 #[va a, va b] [(.ref a)])) (fun t_ k_ => XS.aloadN X601.here hx rfl (hb hby d10_112) rfl rfl k_) ?_
  refine own_step (T' := T572) (g' := (mkF m 114 #[va a, va b] [(.ref b), (.ref a)])) (fun t_ k_ => XS.aloadN X601.here hx rfl (hb hby d10_113) rfl rfl k_) ?_
  obtain ⟨T603, X604, e605, st606⟩ := getF X601 hx hZ hown (host := "") (Or.inl (own_w (i := 31) rfl hw)) Via.refl e575 F596 (g := (mkF m 114 #[va a, va b] [(.ref b), (.ref a)])) rfl rfl (hb hby d10_114)
  refine own_step (T' := T603) (g' := (mkF m 117 #[va a, va b] [(.int g_documentCount), (.ref a)])) st606 ?_
  obtain ⟨T607, h608, X609, e610, W611, st612⟩ := putF X604 hx hZ hown (host := "") (Or.inl (own_w (i := 31) rfl hw)) Via.refl e605 F584 F580 (Or.inl (own_w (i := 32) rfl hw)) (own_w (i := 6) rfl hw) (ty := .int) (by decide) rfl rfl (g := (mkF m 117 #[va a, va b] [(.int g_documentCount), (.ref a)])) rfl rfl (hb hby d10_117)
  have N613 := Fr.snoc X609 N602 ga
  have F614 := Nat.le_trans F579 (Keep.of_wr W611).1
  have F615 := F580.wr W611
  have F616 := F581.other W611 (Or.inr (own_so (lf18 hw) (lf32 hw) (by decide)))
  have F617 := F582.other W611 (Or.inr (own_so (lf20 hw) (lf32 hw) (by decide)))
  have F618 := F583.other W611 (Or.inr (own_so (lf29 hw) (lf32 hw) (by decide)))
  have F619 : Fld Z h608 a "com/example/sedimenta/sedimenta/Postings" "documentCount" "I" (.int g_documentCount) := F584.same W611
  have F620 := F585.other W611 (Or.inr (own_so (lf43 hw) (lf32 hw) (by decide)))
  have F621 := F586.other W611 (Or.inr (own_so (lf45 hw) (lf32 hw) (by decide)))
  have F622 := F587.other W611 (Or.inr (own_so (lf57 hw) (lf32 hw) (by decide)))
  have F623 := F588.other W611 (Or.inr (own_so (lf59 hw) (lf32 hw) (by decide)))
  have F624 := F589.other W611 (Or.inr (own_so (lf61 hw) (lf32 hw) (by decide)))
  have F625 := F590.other W611 (Or.inr (own_so (lf72 hw) (lf32 hw) (by decide)))
  have F626 := F591.other W611 (Or.inr (own_so (lf78 hw) (lf32 hw) (by decide)))
  have F627 := F592.other W611 (Or.inr (own_so (lf85 hw) (lf32 hw) (by decide)))
  have F628 := F593.other W611 (Or.inr (own_so (lf89 hw) (lf32 hw) (by decide)))
  have F629 := F594.other W611 (Or.inr (own_so (lf91 hw) (lf32 hw) (by decide)))
  have F630 := F595.other W611 (Or.inr (own_so (lf93 hw) (lf32 hw) (by decide)))
  have F631 := F597.other W611 (Or.inl nba)
  have F632 := F598.other W611 (Or.inl nba)
  have F633 := F599.wr W611 (Or.inl (List.mem_of_getElem? (i := 0) rfl))
  obtain ⟨Lo634, X635, N636⟩ : ∃ Lo_, Stand p l e ({ frames := 0, cells := 0, slots := 0, locals := 0 } : Room) s m #[(.ref a), (.ref b)] below meth c T607 Lo_ 0 0 ∧ Fr n0 Lo_ := ⟨_, X609, N613⟩
  refine own_step (T' := T607) (g' := (mkF m 120 #[va a, va b] [])) st612 ?_
  refine own_step (T' := T607) (g' := (mkF m 121 #[va a, va b] [(.ref a)])) (fun t_ k_ => XS.aloadN X635.here hx rfl (hb hby d10_120) rfl rfl k_) ?_
  refine own_step (T' := T607) (g' := (mkF m 122 #[va a, va b] [(.ref b), (.ref a)])) (fun t_ k_ => XS.aloadN X635.here hx rfl (hb hby d10_121) rfl rfl k_) ?_
  obtain ⟨T637, X638, e639, st640⟩ := getF X635 hx hZ hown (host := "") (Or.inl (own_w (i := 90) rfl hw)) Via.refl e610 F631 (g := (mkF m 122 #[va a, va b] [(.ref b), (.ref a)])) rfl rfl (hb hby d10_122)
  refine own_step (T' := T637) (g' := (mkF m 125 #[va a, va b] [.null, (.ref a)])) st640 ?_
  obtain ⟨T641, h642, X643, e644, W645, st646⟩ := putF X638 hx hZ hown (host := "") (Or.inl (own_w (i := 90) rfl hw)) Via.refl e639 F629 F615 (Or.inl (own_w (i := 91) rfl hw)) (own_w (i := 6) rfl hw) (ty := (.object "com/example/sedimenta/sedimenta/store/StoreInput")) (by decide) rfl rfl (g := (mkF m 125 #[va a, va b] [.null, (.ref a)])) rfl rfl (hb hby d10_125)
  have N647 := Fr.snoc X643 N636 ga
  have F648 := Nat.le_trans F614 (Keep.of_wr W645).1
  have F649 := F615.wr W645
  have F650 := F616.other W645 (Or.inr (own_so (lf18 hw) (lf91 hw) (by decide)))
  have F651 := F617.other W645 (Or.inr (own_so (lf20 hw) (lf91 hw) (by decide)))
  have F652 := F618.other W645 (Or.inr (own_so (lf29 hw) (lf91 hw) (by decide)))
  have F653 := F620.other W645 (Or.inr (own_so (lf43 hw) (lf91 hw) (by decide)))
  have F654 := F621.other W645 (Or.inr (own_so (lf45 hw) (lf91 hw) (by decide)))
  have F655 := F622.other W645 (Or.inr (own_so (lf57 hw) (lf91 hw) (by decide)))
  have F656 := F623.other W645 (Or.inr (own_so (lf59 hw) (lf91 hw) (by decide)))
  have F657 := F624.other W645 (Or.inr (own_so (lf61 hw) (lf91 hw) (by decide)))
  have F658 := F625.other W645 (Or.inr (own_so (lf72 hw) (lf91 hw) (by decide)))
  have F659 := F626.other W645 (Or.inr (own_so (lf78 hw) (lf91 hw) (by decide)))
  have F660 := F627.other W645 (Or.inr (own_so (lf85 hw) (lf91 hw) (by decide)))
  have F661 := F628.other W645 (Or.inr (own_so (lf89 hw) (lf91 hw) (by decide)))
  have F662 : Fld Z h642 a "com/example/sedimenta/sedimenta/Postings" "source" "Lcom/example/sedimenta/sedimenta/store/StoreInput;" .null := F629.same W645
  have F663 := F630.other W645 (Or.inr (own_so (lf93 hw) (lf91 hw) (by decide)))
  have F664 := F632.other W645 (Or.inl nba)
  have F665 := F633.wr W645 (Or.inl (List.mem_of_getElem? (i := 0) rfl))
  obtain ⟨Lo666, X667, N668⟩ : ∃ Lo_, Stand p l e ({ frames := 0, cells := 0, slots := 0, locals := 0 } : Room) s m #[(.ref a), (.ref b)] below meth c T641 Lo_ 0 0 ∧ Fr n0 Lo_ := ⟨_, X643, N647⟩
  refine own_step (T' := T641) (g' := (mkF m 128 #[va a, va b] [])) st646 ?_
  refine own_step (T' := T641) (g' := (mkF m 129 #[va a, va b] [(.ref a)])) (fun t_ k_ => XS.aloadN X667.here hx rfl (hb hby d10_128) rfl rfl k_) ?_
  refine own_step (T' := T641) (g' := (mkF m 130 #[va a, va b] [(.ref b), (.ref a)])) (fun t_ k_ => XS.aloadN X667.here hx rfl (hb hby d10_129) rfl rfl k_) ?_
  obtain ⟨T669, X670, e671, st672⟩ := getF X667 hx hZ hown (host := "") (Or.inl (own_w (i := 92) rfl hw)) Via.refl e644 F664 (g := (mkF m 130 #[va a, va b] [(.ref b), (.ref a)])) rfl rfl (hb hby d10_130)
  refine own_step (T' := T669) (g' := (mkF m 133 #[va a, va b] [(.long g_sourceEntry), (.ref a)])) st672 ?_
  obtain ⟨T673, h674, X675, e676, W677, st678⟩ := putF X670 hx hZ hown (host := "") (Or.inl (own_w (i := 92) rfl hw)) Via.refl e671 F663 F649 (Or.inl (own_w (i := 93) rfl hw)) (own_w (i := 6) rfl hw) (ty := .long) (by decide) rfl rfl (g := (mkF m 133 #[va a, va b] [(.long g_sourceEntry), (.ref a)])) rfl rfl (hb hby d10_133)
  have N679 := Fr.snoc X675 N668 ga
  have F680 := Nat.le_trans F648 (Keep.of_wr W677).1
  have F681 := F649.wr W677
  have F682 := F650.other W677 (Or.inr (own_so (lf18 hw) (lf93 hw) (by decide)))
  have F683 := F651.other W677 (Or.inr (own_so (lf20 hw) (lf93 hw) (by decide)))
  have F684 := F652.other W677 (Or.inr (own_so (lf29 hw) (lf93 hw) (by decide)))
  have F685 := F653.other W677 (Or.inr (own_so (lf43 hw) (lf93 hw) (by decide)))
  have F686 := F654.other W677 (Or.inr (own_so (lf45 hw) (lf93 hw) (by decide)))
  have F687 := F655.other W677 (Or.inr (own_so (lf57 hw) (lf93 hw) (by decide)))
  have F688 := F656.other W677 (Or.inr (own_so (lf59 hw) (lf93 hw) (by decide)))
  have F689 := F657.other W677 (Or.inr (own_so (lf61 hw) (lf93 hw) (by decide)))
  have F690 := F658.other W677 (Or.inr (own_so (lf72 hw) (lf93 hw) (by decide)))
  have F691 := F659.other W677 (Or.inr (own_so (lf78 hw) (lf93 hw) (by decide)))
  have F692 := F660.other W677 (Or.inr (own_so (lf85 hw) (lf93 hw) (by decide)))
  have F693 := F661.other W677 (Or.inr (own_so (lf89 hw) (lf93 hw) (by decide)))
  have F694 : Fld Z h674 a "com/example/sedimenta/sedimenta/Postings" "sourceEntry" "J" (.long g_sourceEntry) := F663.same W677
  have F695 := F665.wr W677 (Or.inl (List.mem_of_getElem? (i := 0) rfl))
  obtain ⟨Lo696, X697, N698⟩ : ∃ Lo_, Stand p l e ({ frames := 0, cells := 0, slots := 0, locals := 0 } : Room) s m #[(.ref a), (.ref b)] below meth c T673 Lo_ 0 0 ∧ Fr n0 Lo_ := ⟨_, X675, N679⟩
  refine own_step (T' := T673) (g' := (mkF m 136 #[va a, va b] [])) st678 ?_
  exact own_ret X697 hx hlk Bd.returns (hb hby d10_136) (by rw [e676]; exact ⟨rfl, N698, F695, F682, F683, F684, F685, F686, F687, F688, F689, F690, F691, F692, F693⟩) (by decide) (by decide)
theorem d11_0 : decode prog_81_method_10_code 0 = .ok (.aload_n 0, 1) := by decide +kernel
theorem d11_1 : decode prog_81_method_10_code 1 = .ok (.getfield 51, 3) := by decide +kernel
theorem d11_4 : decode prog_81_method_10_code 4 = .ok (.ireturn, 1) := by decide +kernel
theorem pn_11 : plainFor (⟨"com/example/sedimenta/sedimenta/Postings", "first", "()I"⟩ : MethodName) = true := by first | exact plainFor_of_name (by first | (simp [plainName, overriddenIn]; done) | decide +kernel) | decide +kernel
theorem ef_11 (m : MethodId) (x0 : Addr) : entryFrame m #[(.ref x0)] 1 = mkF m 0 #[.val (.ref x0)] [] := by first | (simp [entryFrame, mkF, argsToLocals, Value.category]; done) | rfl
def Q_11 (f0 : Int32) (h0 : Heap) (n0 : Nat) (v : Option Value) (h : Heap) (L : List Loc) : Prop := v = some (.int f0) ∧ Fr n0 L ∧ h = h0
set_option maxRecDepth 65536 in
set_option maxHeartbeats 40000000 in
theorem rm_first (l : Launch) (Z : State) (a0 : Array Value) (hw : ∀ d ∈ tables_1, d.before a0 Z = true) (ws : List Jvm.Cond) (a : Addr) (f0 : Int32) (h0 : Heap) (n0 : Nat) (Z0 : n0 ≤ h0.size) (F0 : Fld Z h0 a "com/example/sedimenta/sedimenta/Postings" "first" "I" (.int f0)) :
    MetFree l (⟨"com/example/sedimenta/sedimenta/Postings", "first", "()I"⟩ : MethodName) (head1 (Jvm.Cond.code (⟨"com/example/sedimenta/sedimenta/Postings", "first", "()I"⟩ : MethodName) prog_81_method_10_code 1 (some .int) :: ws) ({ frames := 0, cells := 0, slots := 0, locals := 0 } : Room)) (fun as_ U => as_ = #[(.ref a)] ∧ Z.Warmed39 U.vm ∧ U.heap = h0) (fun _ _ _ _ _ => True) (fun _ U o U' => ∃ v L, o = .returned v ∧ Q_11 f0 h0 n0 v U'.heap L ∧ FrameEnd U o U' L ({ frames := 0, cells := 0, slots := 0, locals := 0 } : Room).cells ({ frames := 0, cells := 0, slots := 0, locals := 0 } : Room).slots) := by
  refine MetFree.of_bodySF pn_11 hisR ?_
  intro p e s m args below meth c s₁ Bd hml0 hP hK
  obtain ⟨rfl, hZ, hh⟩ := hP
  have hx := Bd.exec
  have hby := Bd.bytes
  have hlk := BodyLoose.notSynchronized Bd
  have hml : c.maxLocals = 1 := hml0
  have hown : s.vm.findClass "com/example/sedimenta/sedimenta/Postings" = some m.cls := findClass_of_methodNamed Bd.named
  have hnm := (name_of_methodNamed Bd.named Bd.method).1
  have X0 : Stand p l e ({ frames := 0, cells := 0, slots := 0, locals := 0 } : Room) s m #[(.ref a)] below meth c s₁ [] 0 0 := Stand.of_body Bd
  have e0 : s₁.heap = h0 := by rw [← hh, Bd.state]; rfl
  have N0 := Fr.nil n0
  refine own_in (ef_11 m a) ?_
  show own_Fin p e below s (Q_11 f0 h0 n0) 0 0 s₁ (mkF m 0 #[va a] [])
  refine own_step (T' := s₁) (g' := (mkF m 1 #[va a] [(.ref a)])) (fun t_ k_ => XS.aloadN X0.here hx rfl (hb hby d11_0) rfl rfl k_) ?_
  obtain ⟨T1, X2, e3, st4⟩ := getF X0 hx hZ hown (host := "") (Or.inl (own_w (i := 56) rfl hw)) Via.refl e0 F0 (g := (mkF m 1 #[va a] [(.ref a)])) rfl rfl (hb hby d11_1)
  refine own_step (T' := T1) (g' := (mkF m 4 #[va a] [(.int f0)])) st4 ?_
  exact own_retI X2 hx hlk Bd.returns (hb hby d11_4) (by rw [e3]; exact ⟨rfl, N0, rfl⟩) (by decide) (by decide)
theorem d12_0 : decode prog_81_method_11_code 0 = .ok (.aload_n 0, 1) := by decide +kernel
theorem d12_1 : decode prog_81_method_11_code 1 = .ok (.getfield 20, 3) := by decide +kernel
theorem d12_4 : decode prog_81_method_11_code 4 = .ok (.ireturn, 1) := by decide +kernel
theorem pn_12 : plainFor (⟨"com/example/sedimenta/sedimenta/Postings", "last", "()I"⟩ : MethodName) = true := by first | exact plainFor_of_name (by first | (simp [plainName, overriddenIn]; done) | decide +kernel) | decide +kernel
theorem ef_12 (m : MethodId) (x0 : Addr) : entryFrame m #[(.ref x0)] 1 = mkF m 0 #[.val (.ref x0)] [] := by first | (simp [entryFrame, mkF, argsToLocals, Value.category]; done) | rfl
def Q_12 (f0 : Int32) (h0 : Heap) (n0 : Nat) (v : Option Value) (h : Heap) (L : List Loc) : Prop := v = some (.int f0) ∧ Fr n0 L ∧ h = h0
set_option maxRecDepth 65536 in
set_option maxHeartbeats 40000000 in
theorem rm_last (l : Launch) (Z : State) (a0 : Array Value) (hw : ∀ d ∈ tables_1, d.before a0 Z = true) (ws : List Jvm.Cond) (a : Addr) (f0 : Int32) (h0 : Heap) (n0 : Nat) (Z0 : n0 ≤ h0.size) (F0 : Fld Z h0 a "com/example/sedimenta/sedimenta/Postings" "last" "I" (.int f0)) :
    MetFree l (⟨"com/example/sedimenta/sedimenta/Postings", "last", "()I"⟩ : MethodName) (head1 (Jvm.Cond.code (⟨"com/example/sedimenta/sedimenta/Postings", "last", "()I"⟩ : MethodName) prog_81_method_11_code 1 (some .int) :: ws) ({ frames := 0, cells := 0, slots := 0, locals := 0 } : Room)) (fun as_ U => as_ = #[(.ref a)] ∧ Z.Warmed39 U.vm ∧ U.heap = h0) (fun _ _ _ _ _ => True) (fun _ U o U' => ∃ v L, o = .returned v ∧ Q_12 f0 h0 n0 v U'.heap L ∧ FrameEnd U o U' L ({ frames := 0, cells := 0, slots := 0, locals := 0 } : Room).cells ({ frames := 0, cells := 0, slots := 0, locals := 0 } : Room).slots) := by
  refine MetFree.of_bodySF pn_12 hisR ?_
  intro p e s m args below meth c s₁ Bd hml0 hP hK
  obtain ⟨rfl, hZ, hh⟩ := hP
  have hx := Bd.exec
  have hby := Bd.bytes
  have hlk := BodyLoose.notSynchronized Bd
  have hml : c.maxLocals = 1 := hml0
  have hown : s.vm.findClass "com/example/sedimenta/sedimenta/Postings" = some m.cls := findClass_of_methodNamed Bd.named
  have hnm := (name_of_methodNamed Bd.named Bd.method).1
  have X0 : Stand p l e ({ frames := 0, cells := 0, slots := 0, locals := 0 } : Room) s m #[(.ref a)] below meth c s₁ [] 0 0 := Stand.of_body Bd
  have e0 : s₁.heap = h0 := by rw [← hh, Bd.state]; rfl
  have N0 := Fr.nil n0
  refine own_in (ef_12 m a) ?_
  show own_Fin p e below s (Q_12 f0 h0 n0) 0 0 s₁ (mkF m 0 #[va a] [])
  refine own_step (T' := s₁) (g' := (mkF m 1 #[va a] [(.ref a)])) (fun t_ k_ => XS.aloadN X0.here hx rfl (hb hby d12_0) rfl rfl k_) ?_
  obtain ⟨T1, X2, e3, st4⟩ := getF X0 hx hZ hown (host := "") (Or.inl (own_w (i := 19) rfl hw)) Via.refl e0 F0 (g := (mkF m 1 #[va a] [(.ref a)])) rfl rfl (hb hby d12_1)
  refine own_step (T' := T1) (g' := (mkF m 4 #[va a] [(.int f0)])) st4 ?_
  exact own_retI X2 hx hlk Bd.returns (hb hby d12_4) (by rw [e3]; exact ⟨rfl, N0, rfl⟩) (by decide) (by decide)
theorem d13_0 : decode prog_81_method_12_code 0 = .ok (.aload_n 0, 1) := by decide +kernel
theorem d13_1 : decode prog_81_method_12_code 1 = .ok (.getfield 60, 3) := by decide +kernel
theorem d13_4 : decode prog_81_method_12_code 4 = .ok (.ireturn, 1) := by decide +kernel
theorem pn_13 : plainFor (⟨"com/example/sedimenta/sedimenta/Postings", "positioned", "()Z"⟩ : MethodName) = true := by first | exact plainFor_of_name (by first | (simp [plainName, overriddenIn]; done) | decide +kernel) | decide +kernel
theorem ef_13 (m : MethodId) (x0 : Addr) : entryFrame m #[(.ref x0)] 1 = mkF m 0 #[.val (.ref x0)] [] := by first | (simp [entryFrame, mkF, argsToLocals, Value.category]; done) | rfl
def Q_13 (f0 : Int32) (h0 : Heap) (n0 : Nat) (v : Option Value) (h : Heap) (L : List Loc) : Prop := v = some (.int (nar .boolean f0)) ∧ Fr n0 L ∧ h = h0
set_option maxRecDepth 65536 in
set_option maxHeartbeats 40000000 in
theorem rm_posd (l : Launch) (Z : State) (a0 : Array Value) (hw : ∀ d ∈ tables_1, d.before a0 Z = true) (ws : List Jvm.Cond) (a : Addr) (f0 : Int32) (h0 : Heap) (n0 : Nat) (Z0 : n0 ≤ h0.size) (F0 : Fld Z h0 a "com/example/sedimenta/sedimenta/Postings" "positioned" "Z" (.int f0)) :
    MetFree l (⟨"com/example/sedimenta/sedimenta/Postings", "positioned", "()Z"⟩ : MethodName) (head1 (Jvm.Cond.code (⟨"com/example/sedimenta/sedimenta/Postings", "positioned", "()Z"⟩ : MethodName) prog_81_method_12_code 1 (some .boolean) :: ws) ({ frames := 0, cells := 0, slots := 0, locals := 0 } : Room)) (fun as_ U => as_ = #[(.ref a)] ∧ Z.Warmed39 U.vm ∧ U.heap = h0) (fun _ _ _ _ _ => True) (fun _ U o U' => ∃ v L, o = .returned v ∧ Q_13 f0 h0 n0 v U'.heap L ∧ FrameEnd U o U' L ({ frames := 0, cells := 0, slots := 0, locals := 0 } : Room).cells ({ frames := 0, cells := 0, slots := 0, locals := 0 } : Room).slots) := by
  refine MetFree.of_bodySF pn_13 hisR ?_
  intro p e s m args below meth c s₁ Bd hml0 hP hK
  obtain ⟨rfl, hZ, hh⟩ := hP
  have hx := Bd.exec
  have hby := Bd.bytes
  have hlk := BodyLoose.notSynchronized Bd
  have hml : c.maxLocals = 1 := hml0
  have hown : s.vm.findClass "com/example/sedimenta/sedimenta/Postings" = some m.cls := findClass_of_methodNamed Bd.named
  have hnm := (name_of_methodNamed Bd.named Bd.method).1
  have X0 : Stand p l e ({ frames := 0, cells := 0, slots := 0, locals := 0 } : Room) s m #[(.ref a)] below meth c s₁ [] 0 0 := Stand.of_body Bd
  have e0 : s₁.heap = h0 := by rw [← hh, Bd.state]; rfl
  have N0 := Fr.nil n0
  refine own_in (ef_13 m a) ?_
  show own_Fin p e below s (Q_13 f0 h0 n0) 0 0 s₁ (mkF m 0 #[va a] [])
  refine own_step (T' := s₁) (g' := (mkF m 1 #[va a] [(.ref a)])) (fun t_ k_ => XS.aloadN X0.here hx rfl (hb hby d13_0) rfl rfl k_) ?_
  obtain ⟨T1, X2, e3, st4⟩ := getF X0 hx hZ hown (host := "") (Or.inl (own_w (i := 77) rfl hw)) Via.refl e0 F0 (g := (mkF m 1 #[va a] [(.ref a)])) rfl rfl (hb hby d13_1)
  refine own_step (T' := T1) (g' := (mkF m 4 #[va a] [(.int f0)])) st4 ?_
  exact own_retN X2 hx hlk (t := .boolean) Bd.returns (by simp) (hb hby d13_4) (by rw [e3]; exact ⟨rfl, N0, rfl⟩) (by decide) (by decide)
theorem d16_0 : decode prog_81_method_36_code 0 = .ok (.aload_n 0, 1) := by decide +kernel
theorem d16_1 : decode prog_81_method_36_code 1 = .ok (.getfield 48, 3) := by decide +kernel
theorem d16_4 : decode prog_81_method_36_code 4 = .ok (.sipush 128, 3) := by decide +kernel
theorem d16_7 : decode prog_81_method_36_code 7 = .ok (.if_icmp .le 7, 3) := by decide +kernel
theorem d16_10 : decode prog_81_method_36_code 10 = .ok (.iconst 1, 1) := by decide +kernel
theorem d16_11 : decode prog_81_method_36_code 11 = .ok (.goto 4, 3) := by decide +kernel
theorem d16_14 : decode prog_81_method_36_code 14 = .ok (.iconst 0, 1) := by decide +kernel
theorem d16_15 : decode prog_81_method_36_code 15 = .ok (.ireturn, 1) := by decide +kernel
theorem pn_16 : plainFor (⟨"com/example/sedimenta/sedimenta/Postings", "keptInBlocks", "()Z"⟩ : MethodName) = true := by first | exact plainFor_of_name (by first | (simp [plainName, overriddenIn]; done) | decide +kernel) | decide +kernel
theorem ef_16 (m : MethodId) (x0 : Addr) : entryFrame m #[(.ref x0)] 1 = mkF m 0 #[.val (.ref x0)] [] := by first | (simp [entryFrame, mkF, argsToLocals, Value.category]; done) | rfl
def Q_16  (h0 : Heap) (n0 : Nat) (v : Option Value) (h : Heap) (L : List Loc) : Prop := v = some (.int (nar .boolean (0 : Int32))) ∧ Fr n0 L ∧ h = h0
set_option maxRecDepth 65536 in
set_option maxHeartbeats 40000000 in
theorem rm_kept (l : Launch) (Z : State) (a0 : Array Value) (hw : ∀ d ∈ tables_1, d.before a0 Z = true) (ws : List Jvm.Cond) (a : Addr) (f_count : Int32) (h0 : Heap) (n0 : Nat) (Z0 : n0 ≤ h0.size) (E_a : Exa Z h0 a "com/example/sedimenta/sedimenta/Postings") (Ff_count : Fld Z h0 a "com/example/sedimenta/sedimenta/Postings" "count" "I" (.int f_count)) (hc : ¬ (128 : Int32) < f_count) :
    MetFree l (⟨"com/example/sedimenta/sedimenta/Postings", "keptInBlocks", "()Z"⟩ : MethodName) (head1 (Jvm.Cond.code (⟨"com/example/sedimenta/sedimenta/Postings", "keptInBlocks", "()Z"⟩ : MethodName) prog_81_method_36_code 1 (some .boolean) :: ws) ({ frames := 0, cells := 0, slots := 0, locals := 0 } : Room)) (fun as_ U => as_ = #[(.ref a)] ∧ Z.Warmed39 U.vm ∧ U.heap = h0) (fun _ _ _ _ _ => True) (fun _ U o U' => ∃ v L, o = .returned v ∧ Q_16 h0 n0 v U'.heap L ∧ FrameEnd U o U' L ({ frames := 0, cells := 0, slots := 0, locals := 0 } : Room).cells ({ frames := 0, cells := 0, slots := 0, locals := 0 } : Room).slots) := by
  refine MetFree.of_bodySF pn_16 hisR ?_
  intro p e s m args below meth c s₁ Bd hml0 hP hK
  obtain ⟨rfl, hZ, hh⟩ := hP
  have hx := Bd.exec
  have hby := Bd.bytes
  have hlk := BodyLoose.notSynchronized Bd
  have hml : c.maxLocals = 1 := hml0
  have hown : s.vm.findClass "com/example/sedimenta/sedimenta/Postings" = some m.cls := findClass_of_methodNamed Bd.named
  have hnm := (name_of_methodNamed Bd.named Bd.method).1
  have X0 : Stand p l e ({ frames := 0, cells := 0, slots := 0, locals := 0 } : Room) s m #[(.ref a)] below meth c s₁ [] 0 0 := Stand.of_body Bd
  have e0 : s₁.heap = h0 := by rw [← hh, Bd.state]; rfl
  have N0 := Fr.nil n0
  refine own_in (ef_16 m a) ?_
  show own_Fin p e below s (Q_16 h0 n0) 0 0 s₁ (mkF m 0 #[va a] [])
  refine own_step (T' := s₁) (g' := (mkF m 1 #[va a] [(.ref a)])) (fun t_ k_ => XS.aloadN X0.here hx rfl (hb hby d16_0) rfl rfl k_) ?_
  obtain ⟨T1, X2, e3, st4⟩ := getF X0 hx hZ hown (host := "") (Or.inl (own_w (i := 44) rfl hw)) Via.refl e0 Ff_count (g := (mkF m 1 #[va a] [(.ref a)])) rfl rfl (hb hby d16_1)
  refine own_step (T' := T1) (g' := (mkF m 4 #[va a] [(.int f_count)])) st4 ?_
  refine own_step (T' := T1) (g' := (mkF m 7 #[va a] [(.int (128 : Int32)), (.int f_count)])) (fun t_ k_ => XT.sipushV X2.here hx rfl (128 : Int32) (hb hby d16_4) (by decide) k_) ?_
  have hk5 : ¬ ((128 : Int32) < f_count) := hc
  refine own_step (T' := T1) (g' := (mkF m 14 #[va a] [])) (fun t_ k_ => XS.icmpYes X2.here hx rfl (pc0 := 7) (pc' := 14) rfl (hb hby d16_7) rfl (XT.ii_le_t hk5) (by decide) (by decide) k_) ?_
  refine own_step (T' := T1) (g' := (mkF m 15 #[va a] [(.int (0 : Int32))])) (fun t_ k_ => XT.iconstV X2.here hx rfl (0 : Int32) (hb hby d16_14) (by decide) k_) ?_
  exact own_retN X2 hx hlk (t := .boolean) Bd.returns (by simp) (hb hby d16_15) (by rw [e3]; exact ⟨rfl, N0, rfl⟩) (by decide) (by decide)
theorem d15_0 : decode prog_81_method_35_code 0 = .ok (.bipush 20, 2) := by decide +kernel
theorem d15_2 : decode prog_81_method_35_code 2 = .ok (.aload_n 0, 1) := by decide +kernel
theorem d15_3 : decode prog_81_method_35_code 3 = .ok (.invokevirtual 306, 3) := by decide +kernel
theorem d15_6 : decode prog_81_method_35_code 6 = .ok (.ifCond .eq 20, 3) := by decide +kernel
theorem d15_9 : decode prog_81_method_35_code 9 = .ok (.aload_n 0, 1) := by decide +kernel
theorem d15_10 : decode prog_81_method_35_code 10 = .ok (.getfield 69, 3) := by decide +kernel
theorem d15_13 : decode prog_81_method_35_code 13 = .ok (.ifnull 13, 3) := by decide +kernel
theorem d15_16 : decode prog_81_method_35_code 16 = .ok (.aload_n 0, 1) := by decide +kernel
theorem d15_17 : decode prog_81_method_35_code 17 = .ok (.getfield 69, 3) := by decide +kernel
theorem d15_20 : decode prog_81_method_35_code 20 = .ok (.invokevirtual 310, 3) := by decide +kernel
theorem d15_23 : decode prog_81_method_35_code 23 = .ok (.goto 4, 3) := by decide +kernel
theorem d15_26 : decode prog_81_method_35_code 26 = .ok (.iconst 0, 1) := by decide +kernel
theorem d15_27 : decode prog_81_method_35_code 27 = .ok (.iadd, 1) := by decide +kernel
theorem d15_28 : decode prog_81_method_35_code 28 = .ok (.ireturn, 1) := by decide +kernel
theorem pn_15 : plainFor (⟨"com/example/sedimenta/sedimenta/Postings", "mostHeadBytes", "()I"⟩ : MethodName) = true := by first | exact plainFor_of_name (by first | (simp [plainName, overriddenIn]; done) | decide +kernel) | decide +kernel
theorem ef_15 (m : MethodId) (x0 : Addr) : entryFrame m #[(.ref x0)] 1 = mkF m 0 #[.val (.ref x0)] [] := by first | (simp [entryFrame, mkF, argsToLocals, Value.category]; done) | rfl
def Q_15  (h0 : Heap) (n0 : Nat) (v : Option Value) (h : Heap) (L : List Loc) : Prop := v = some (.int (20 : Int32)) ∧ Fr n0 L ∧ h = h0
set_option maxRecDepth 65536 in
set_option maxHeartbeats 40000000 in
theorem rm_head (l : Launch) (Z : State) (a0 : Array Value) (hw : ∀ d ∈ tables_1, d.before a0 Z = true) (ws : List Jvm.Cond) (a : Addr) (f_count : Int32) (h0 : Heap) (n0 : Nat) (Z0 : n0 ≤ h0.size) (E_a : Exa Z h0 a "com/example/sedimenta/sedimenta/Postings") (Ff_count : Fld Z h0 a "com/example/sedimenta/sedimenta/Postings" "count" "I" (.int f_count)) (hc : ¬ (128 : Int32) < f_count) :
    MetFree l (⟨"com/example/sedimenta/sedimenta/Postings", "mostHeadBytes", "()I"⟩ : MethodName) (head1 (Jvm.Cond.code (⟨"com/example/sedimenta/sedimenta/Postings", "mostHeadBytes", "()I"⟩ : MethodName) prog_81_method_35_code 1 (some .int) :: ws) ({ frames := 1, cells := 0, slots := 0, locals := 13 } : Room)) (fun as_ U => as_ = #[(.ref a)] ∧ Z.Warmed39 U.vm ∧ U.heap = h0) (fun _ _ _ _ _ => True) (fun _ U o U' => ∃ v L, o = .returned v ∧ Q_15 h0 n0 v U'.heap L ∧ FrameEnd U o U' L ({ frames := 1, cells := 0, slots := 0, locals := 13 } : Room).cells ({ frames := 1, cells := 0, slots := 0, locals := 13 } : Room).slots) := by
  refine MetFree.of_bodySF pn_15 hisR ?_
  intro p e s m args below meth c s₁ Bd hml0 hP hK
  obtain ⟨rfl, hZ, hh⟩ := hP
  have hx := Bd.exec
  have hby := Bd.bytes
  have hlk := BodyLoose.notSynchronized Bd
  have hml : c.maxLocals = 1 := hml0
  have hown : s.vm.findClass "com/example/sedimenta/sedimenta/Postings" = some m.cls := findClass_of_methodNamed Bd.named
  have hnm := (name_of_methodNamed Bd.named Bd.method).1
  have X0 : Stand p l e ({ frames := 1, cells := 0, slots := 0, locals := 13 } : Room) s m #[(.ref a)] below meth c s₁ [] 0 0 := Stand.of_body Bd
  have e0 : s₁.heap = h0 := by rw [← hh, Bd.state]; rfl
  have N0 := Fr.nil n0
  refine own_in (ef_15 m a) ?_
  show own_Fin p e below s (Q_15 h0 n0) 0 0 s₁ (mkF m 0 #[va a] [])
  refine own_step (T' := s₁) (g' := (mkF m 2 #[va a] [(.int (20 : Int32))])) (fun t_ k_ => XT.bipushV X0.here hx rfl (20 : Int32) (hb hby d15_0) (by decide) k_) ?_
  refine own_step (T' := s₁) (g' := (mkF m 3 #[va a] [(.ref a), (.int (20 : Int32))])) (fun t_ k_ => XS.aloadN X0.here hx rfl (hb hby d15_2) rfl rfl k_) ?_
  obtain ⟨cqc1, kqc1, qac1, qbc1, qcc1⟩ := isOf hZ e0 E_a
  obtain ⟨_, _, ⟨Tc1, Lc1, kc1, nc1⟩, -, Xc1, ⟨Lcc1, hQc1, lc1, yc1, zc1⟩, stc1⟩ := X0.virtualBack hx (y := (⟨"com/example/sedimenta/sedimenta/Postings", "keptInBlocks", "()Z"⟩ : MethodName)) (z := (⟨"com/example/sedimenta/sedimenta/Postings", "keptInBlocks", "()Z"⟩ : MethodName)) hown (mvT hZ (own_w (i := 119) rfl hw)) (mvT hZ (own_w (i := 120) rfl hw)) (notFace_of_selects (args := #[]) (mvT hZ (own_w (i := 122) rfl hw))) (mvT hZ (own_w (i := 122) rfl hw)) (mvT hZ (own_w (i := 121) rfl hw)) (by decide) (backOf (W := 1) (rm_kept l Z a0 hw [] a f_count h0 n0 Z0 E_a Ff_count hc) hZ (own_w (i := 123) rfl hw) (own_w (i := 7) rfl hw) (by decide) (by decide)) qac1 qcc1 (g := (mkF m 3 #[va a] [(.ref a), (.int (20 : Int32))])) rfl (by rw [hml]; rfl) (Steps.refl _) (argsL := []) (rest := [(.int (20 : Int32))]) (lenOf pd_9 rfl) rfl (by show 2 * 0 + _ ≤ _; exact Nat.le_of_eq rfl) (hb hby d15_3) (fun _ _ => ⟨rfl, e0, (by decide : 0 + 0 ≤ _), (by decide : 0 + 0 ≤ _)⟩)
  dsimp only [Pt.U, Pt.locs, Pt.cells, Pt.slots] at Xc1 lc1 yc1 zc1 stc1 hQc1
  subst lc1 yc1 zc1
  have X2 := Xc1.more (cells' := 0) (slots' := 0) (by decide) (by decide)
  obtain ⟨rfl, N3, e4⟩ := hQc1
  have N5 := Fr.app N0 N3
  obtain ⟨Lo6, X7, N8⟩ : ∃ Lo_, Stand p l e ({ frames := 1, cells := 0, slots := 0, locals := 13 } : Room) s m #[(.ref a)] below meth c Tc1 Lo_ 0 0 ∧ Fr n0 Lo_ := ⟨_, X2, N5⟩
  refine own_step (T' := Tc1) (g' := (mkF m 6 #[va a] [(.int (nar .boolean (0 : Int32))), (.int (20 : Int32))])) (fun t_ k_ => stc1.trans k_) ?_
  have hk9 : (nar .boolean (0 : Int32)) = 0 := (by decide)
  refine own_step (T' := Tc1) (g' := (mkF m 26 #[va a] [(.int (20 : Int32))])) (fun t_ k_ => XS.ifYes X7.here hx rfl (pc0 := 6) (pc' := 26) rfl (hb hby d15_6) rfl (XT.i0_eq_t hk9) (by decide) (by decide) k_) ?_
  refine own_step (T' := Tc1) (g' := (mkF m 27 #[va a] [(.int (0 : Int32)), (.int (20 : Int32))])) (fun t_ k_ => XT.iconstV X7.here hx rfl (0 : Int32) (hb hby d15_26) (by decide) k_) ?_
  refine own_step (T' := Tc1) (g' := (mkF m 28 #[va a] [(.int ((20 : Int32) + (0 : Int32)))])) (fun t_ k_ => XS.iadd X7.here hx rfl (hb hby d15_27) rfl k_) ?_
  rw [(by decide : ((20 : Int32) + (0 : Int32)) = (20 : Int32))]
  exact own_retI X7 hx hlk Bd.returns (hb hby d15_28) (by rw [e4]; exact ⟨rfl, N8, rfl⟩) (by decide) (by decide)
theorem d14_0 : decode prog_81_method_34_code 0 = .ok (.aload_n 0, 1) := by decide +kernel
theorem d14_1 : decode prog_81_method_34_code 1 = .ok (.invokevirtual 303, 3) := by decide +kernel
theorem d14_4 : decode prog_81_method_34_code 4 = .ok (.aload_n 0, 1) := by decide +kernel
theorem d14_5 : decode prog_81_method_34_code 5 = .ok (.getfield 45, 3) := by decide +kernel
theorem d14_8 : decode prog_81_method_34_code 8 = .ok (.iadd, 1) := by decide +kernel
theorem d14_9 : decode prog_81_method_34_code 9 = .ok (.aload_n 0, 1) := by decide +kernel
theorem d14_10 : decode prog_81_method_34_code 10 = .ok (.getfield 57, 3) := by decide +kernel
theorem d14_13 : decode prog_81_method_34_code 13 = .ok (.isub, 1) := by decide +kernel
theorem d14_14 : decode prog_81_method_34_code 14 = .ok (.aload_n 0, 1) := by decide +kernel
theorem d14_15 : decode prog_81_method_34_code 15 = .ok (.getfield 66, 3) := by decide +kernel
theorem d14_18 : decode prog_81_method_34_code 18 = .ok (.iadd, 1) := by decide +kernel
theorem d14_19 : decode prog_81_method_34_code 19 = .ok (.ireturn, 1) := by decide +kernel
theorem pn_14 : plainFor (⟨"com/example/sedimenta/sedimenta/Postings", "mostBytes", "()I"⟩ : MethodName) = true := by first | exact plainFor_of_name (by first | (simp [plainName, overriddenIn]; done) | decide +kernel) | decide +kernel
theorem ef_14 (m : MethodId) (x0 : Addr) : entryFrame m #[(.ref x0)] 1 = mkF m 0 #[.val (.ref x0)] [] := by first | (simp [entryFrame, mkF, argsToLocals, Value.category]; done) | rfl
def Q_14 (f_length : Int32) (f_count : Int32) (f_firstLength : Int32) (f_positionsLength : Int32) (h0 : Heap) (n0 : Nat) (v : Option Value) (h : Heap) (L : List Loc) : Prop := v = some (.int ((((20 : Int32) + f_length) - f_firstLength) + f_positionsLength)) ∧ Fr n0 L ∧ h = h0
set_option maxRecDepth 65536 in
set_option maxHeartbeats 40000000 in
theorem rm_most (l : Launch) (Z : State) (a0 : Array Value) (hw : ∀ d ∈ tables_1, d.before a0 Z = true) (ws : List Jvm.Cond) (a : Addr) (f_length : Int32) (f_count : Int32) (f_firstLength : Int32) (f_positionsLength : Int32) (h0 : Heap) (n0 : Nat) (Z0 : n0 ≤ h0.size) (E_a : Exa Z h0 a "com/example/sedimenta/sedimenta/Postings") (Ff_length : Fld Z h0 a "com/example/sedimenta/sedimenta/Postings" "length" "I" (.int f_length)) (Ff_count : Fld Z h0 a "com/example/sedimenta/sedimenta/Postings" "count" "I" (.int f_count)) (Ff_firstLength : Fld Z h0 a "com/example/sedimenta/sedimenta/Postings" "firstLength" "I" (.int f_firstLength)) (Ff_positionsLength : Fld Z h0 a "com/example/sedimenta/sedimenta/Postings" "positionsLength" "I" (.int f_positionsLength)) (hc : ¬ (128 : Int32) < f_count) :
    MetFree l (⟨"com/example/sedimenta/sedimenta/Postings", "mostBytes", "()I"⟩ : MethodName) (head1 (Jvm.Cond.code (⟨"com/example/sedimenta/sedimenta/Postings", "mostBytes", "()I"⟩ : MethodName) prog_81_method_34_code 1 (some .int) :: ws) ({ frames := 2, cells := 0, slots := 0, locals := 25 } : Room)) (fun as_ U => as_ = #[(.ref a)] ∧ Z.Warmed39 U.vm ∧ U.heap = h0) (fun _ _ _ _ _ => True) (fun _ U o U' => ∃ v L, o = .returned v ∧ Q_14 f_length f_count f_firstLength f_positionsLength h0 n0 v U'.heap L ∧ FrameEnd U o U' L ({ frames := 2, cells := 0, slots := 0, locals := 25 } : Room).cells ({ frames := 2, cells := 0, slots := 0, locals := 25 } : Room).slots) := by
  refine MetFree.of_bodySF pn_14 hisR ?_
  intro p e s m args below meth c s₁ Bd hml0 hP hK
  obtain ⟨rfl, hZ, hh⟩ := hP
  have hx := Bd.exec
  have hby := Bd.bytes
  have hlk := BodyLoose.notSynchronized Bd
  have hml : c.maxLocals = 1 := hml0
  have hown : s.vm.findClass "com/example/sedimenta/sedimenta/Postings" = some m.cls := findClass_of_methodNamed Bd.named
  have hnm := (name_of_methodNamed Bd.named Bd.method).1
  have X0 : Stand p l e ({ frames := 2, cells := 0, slots := 0, locals := 25 } : Room) s m #[(.ref a)] below meth c s₁ [] 0 0 := Stand.of_body Bd
  have e0 : s₁.heap = h0 := by rw [← hh, Bd.state]; rfl
  have N0 := Fr.nil n0
  refine own_in (ef_14 m a) ?_
  show own_Fin p e below s (Q_14 f_length f_count f_firstLength f_positionsLength h0 n0) 0 0 s₁ (mkF m 0 #[va a] [])
  refine own_step (T' := s₁) (g' := (mkF m 1 #[va a] [(.ref a)])) (fun t_ k_ => XS.aloadN X0.here hx rfl (hb hby d14_0) rfl rfl k_) ?_
  obtain ⟨cqc1, kqc1, qac1, qbc1, qcc1⟩ := isOf hZ e0 E_a
  obtain ⟨_, _, ⟨Tc1, Lc1, kc1, nc1⟩, -, Xc1, ⟨Lcc1, hQc1, lc1, yc1, zc1⟩, stc1⟩ := X0.virtualBack hx (y := (⟨"com/example/sedimenta/sedimenta/Postings", "mostHeadBytes", "()I"⟩ : MethodName)) (z := (⟨"com/example/sedimenta/sedimenta/Postings", "mostHeadBytes", "()I"⟩ : MethodName)) hown (mvT hZ (own_w (i := 114) rfl hw)) (mvT hZ (own_w (i := 115) rfl hw)) (notFace_of_selects (args := #[]) (mvT hZ (own_w (i := 117) rfl hw))) (mvT hZ (own_w (i := 117) rfl hw)) (mvT hZ (own_w (i := 116) rfl hw)) (by decide) (backOf (W := 0) (rm_head l Z a0 hw [] a f_count h0 n0 Z0 E_a Ff_count hc) hZ (own_w (i := 118) rfl hw) (own_w (i := 7) rfl hw) (by decide) (by decide)) qac1 qcc1 (g := (mkF m 1 #[va a] [(.ref a)])) rfl (by rw [hml]; rfl) (Steps.refl _) (argsL := []) (rest := []) (lenOf pd_10 rfl) rfl (by show 2 * 0 + _ ≤ _; exact Nat.le_of_eq rfl) (hb hby d14_1) (fun _ _ => ⟨rfl, e0, (by decide : 0 + 0 ≤ _), (by decide : 0 + 0 ≤ _)⟩)
  dsimp only [Pt.U, Pt.locs, Pt.cells, Pt.slots] at Xc1 lc1 yc1 zc1 stc1 hQc1
  subst lc1 yc1 zc1
  have X2 := Xc1.more (cells' := 0) (slots' := 0) (by decide) (by decide)
  obtain ⟨rfl, N3, e4⟩ := hQc1
  have N5 := Fr.app N0 N3
  obtain ⟨Lo6, X7, N8⟩ : ∃ Lo_, Stand p l e ({ frames := 2, cells := 0, slots := 0, locals := 25 } : Room) s m #[(.ref a)] below meth c Tc1 Lo_ 0 0 ∧ Fr n0 Lo_ := ⟨_, X2, N5⟩
  refine own_step (T' := Tc1) (g' := (mkF m 4 #[va a] [(.int (20 : Int32))])) (fun t_ k_ => stc1.trans k_) ?_
  refine own_step (T' := Tc1) (g' := (mkF m 5 #[va a] [(.ref a), (.int (20 : Int32))])) (fun t_ k_ => XS.aloadN X7.here hx rfl (hb hby d14_4) rfl rfl k_) ?_
  obtain ⟨T9, X10, e11, st12⟩ := getF X7 hx hZ hown (host := "") (Or.inl (own_w (i := 42) rfl hw)) Via.refl e4 Ff_length (g := (mkF m 5 #[va a] [(.ref a), (.int (20 : Int32))])) rfl rfl (hb hby d14_5)
  refine own_step (T' := T9) (g' := (mkF m 8 #[va a] [(.int f_length), (.int (20 : Int32))])) st12 ?_
  refine own_step (T' := T9) (g' := (mkF m 9 #[va a] [(.int ((20 : Int32) + f_length))])) (fun t_ k_ => XS.iadd X10.here hx rfl (hb hby d14_8) rfl k_) ?_
  refine own_step (T' := T9) (g' := (mkF m 10 #[va a] [(.ref a), (.int ((20 : Int32) + f_length))])) (fun t_ k_ => XS.aloadN X10.here hx rfl (hb hby d14_9) rfl rfl k_) ?_
  obtain ⟨T13, X14, e15, st16⟩ := getF X10 hx hZ hown (host := "") (Or.inl (own_w (i := 60) rfl hw)) Via.refl e11 Ff_firstLength (g := (mkF m 10 #[va a] [(.ref a), (.int ((20 : Int32) + f_length))])) rfl rfl (hb hby d14_10)
  refine own_step (T' := T13) (g' := (mkF m 13 #[va a] [(.int f_firstLength), (.int ((20 : Int32) + f_length))])) st16 ?_
  refine own_step (T' := T13) (g' := (mkF m 14 #[va a] [(.int (((20 : Int32) + f_length) - f_firstLength))])) (fun t_ k_ => XS.isub X14.here hx rfl (hb hby d14_13) rfl k_) ?_
  refine own_step (T' := T13) (g' := (mkF m 15 #[va a] [(.ref a), (.int (((20 : Int32) + f_length) - f_firstLength))])) (fun t_ k_ => XS.aloadN X14.here hx rfl (hb hby d14_14) rfl rfl k_) ?_
  obtain ⟨T17, X18, e19, st20⟩ := getF X14 hx hZ hown (host := "") (Or.inl (own_w (i := 71) rfl hw)) Via.refl e15 Ff_positionsLength (g := (mkF m 15 #[va a] [(.ref a), (.int (((20 : Int32) + f_length) - f_firstLength))])) rfl rfl (hb hby d14_15)
  refine own_step (T' := T17) (g' := (mkF m 18 #[va a] [(.int f_positionsLength), (.int (((20 : Int32) + f_length) - f_firstLength))])) st20 ?_
  refine own_step (T' := T17) (g' := (mkF m 19 #[va a] [(.int ((((20 : Int32) + f_length) - f_firstLength) + f_positionsLength))])) (fun t_ k_ => XS.iadd X18.here hx rfl (hb hby d14_18) rfl k_) ?_
  exact own_retI X18 hx hlk Bd.returns (hb hby d14_19) (by rw [e19]; exact ⟨rfl, N8, rfl⟩) (by decide) (by decide)
theorem d21_0 : decode jdk_92_method_1_code 0 = .ok (.iload_n 0, 1) := by decide +kernel
theorem d21_1 : decode jdk_92_method_1_code 1 = .ok (.bipush 6, 2) := by decide +kernel
theorem d21_3 : decode jdk_92_method_1_code 3 = .ok (.ishr, 1) := by decide +kernel
theorem d21_4 : decode jdk_92_method_1_code 4 = .ok (.ireturn, 1) := by decide +kernel
theorem pn_21 : plainFor (⟨"java/util/BitSet", "wordIndex", "(I)I"⟩ : MethodName) = true := by first | exact plainFor_of_name (by first | (simp [plainName, overriddenIn]; done) | decide +kernel) | decide +kernel
theorem ef_21 (m : MethodId) (x0 : Int32) : entryFrame m #[(.int x0)] 1 = mkF m 0 #[.val (.int x0)] [] := by first | (simp [entryFrame, mkF, argsToLocals, Value.category]; done) | rfl
def Q_21 (ii : Int32) (h0 : Heap) (n0 : Nat) (v : Option Value) (h : Heap) (L : List Loc) : Prop := v = some (.int (ii >>> ((6 : Int32) &&& 31))) ∧ Fr n0 L ∧ h = h0
set_option maxRecDepth 65536 in
set_option maxHeartbeats 40000000 in
theorem rm_wi (l : Launch) (Z : State) (a0 : Array Value) (hw : ∀ d ∈ tables_1, d.before a0 Z = true) (ws : List Jvm.Cond) (ii : Int32) (h0 : Heap) (n0 : Nat) (Z0 : n0 ≤ h0.size)  :
    MetFree l (⟨"java/util/BitSet", "wordIndex", "(I)I"⟩ : MethodName) (head1 (Jvm.Cond.code (⟨"java/util/BitSet", "wordIndex", "(I)I"⟩ : MethodName) jdk_92_method_1_code 1 (some .int) :: ws) ({ frames := 0, cells := 0, slots := 0, locals := 0 } : Room)) (fun as_ U => as_ = #[(.int ii)] ∧ Z.Warmed39 U.vm ∧ U.heap = h0) (fun _ _ _ _ _ => True) (fun _ U o U' => ∃ v L, o = .returned v ∧ Q_21 ii h0 n0 v U'.heap L ∧ FrameEnd U o U' L ({ frames := 0, cells := 0, slots := 0, locals := 0 } : Room).cells ({ frames := 0, cells := 0, slots := 0, locals := 0 } : Room).slots) := by
  refine MetFree.of_bodySF pn_21 hisR ?_
  intro p e s m args below meth c s₁ Bd hml0 hP hK
  obtain ⟨rfl, hZ, hh⟩ := hP
  have hx := Bd.exec
  have hby := Bd.bytes
  have hlk := BodyLoose.notSynchronized Bd
  have hml : c.maxLocals = 1 := hml0
  have hown : s.vm.findClass "java/util/BitSet" = some m.cls := findClass_of_methodNamed Bd.named
  have hnm := (name_of_methodNamed Bd.named Bd.method).1
  have X0 : Stand p l e ({ frames := 0, cells := 0, slots := 0, locals := 0 } : Room) s m #[(.int ii)] below meth c s₁ [] 0 0 := Stand.of_body Bd
  have e0 : s₁.heap = h0 := by rw [← hh, Bd.state]; rfl
  have N0 := Fr.nil n0
  refine own_in (ef_21 m ii) ?_
  show own_Fin p e below s (Q_21 ii h0 n0) 0 0 s₁ (mkF m 0 #[vi ii] [])
  refine own_step (T' := s₁) (g' := (mkF m 1 #[vi ii] [(.int ii)])) (fun t_ k_ => XS.iloadN X0.here hx rfl (hb hby d21_0) rfl k_) ?_
  refine own_step (T' := s₁) (g' := (mkF m 3 #[vi ii] [(.int (6 : Int32)), (.int ii)])) (fun t_ k_ => XT.bipushV X0.here hx rfl (6 : Int32) (hb hby d21_1) (by decide) k_) ?_
  refine own_step (T' := s₁) (g' := (mkF m 4 #[vi ii] [(.int (ii >>> ((6 : Int32) &&& 31)))])) (fun t_ k_ => XT.ishr X0.here hx rfl (hb hby d21_3) rfl k_) ?_
  exact own_retI X0 hx hlk Bd.returns (hb hby d21_4) (by rw [e0]; exact ⟨rfl, N0, rfl⟩) (by decide) (by decide)
theorem d20_0 : decode jdk_92_method_2_code 0 = .ok (.getstatic 3, 3) := by decide +kernel
theorem d20_3 : decode jdk_92_method_2_code 3 = .ok (.ifCond .ne 34, 3) := by decide +kernel
theorem d20_6 : decode jdk_92_method_2_code 6 = .ok (.aload_n 0, 1) := by decide +kernel
theorem d20_7 : decode jdk_92_method_2_code 7 = .ok (.getfield 7, 3) := by decide +kernel
theorem d20_10 : decode jdk_92_method_2_code 10 = .ok (.ifCond .eq 27, 3) := by decide +kernel
theorem d20_13 : decode jdk_92_method_2_code 13 = .ok (.aload_n 0, 1) := by decide +kernel
theorem d20_14 : decode jdk_92_method_2_code 14 = .ok (.getfield 11, 3) := by decide +kernel
theorem d20_17 : decode jdk_92_method_2_code 17 = .ok (.aload_n 0, 1) := by decide +kernel
theorem d20_18 : decode jdk_92_method_2_code 18 = .ok (.getfield 7, 3) := by decide +kernel
theorem d20_21 : decode jdk_92_method_2_code 21 = .ok (.iconst 1, 1) := by decide +kernel
theorem d20_22 : decode jdk_92_method_2_code 22 = .ok (.isub, 1) := by decide +kernel
theorem d20_23 : decode jdk_92_method_2_code 23 = .ok (.laload, 1) := by decide +kernel
theorem d20_24 : decode jdk_92_method_2_code 24 = .ok (.lconst 0, 1) := by decide +kernel
theorem d20_25 : decode jdk_92_method_2_code 25 = .ok (.lcmp, 1) := by decide +kernel
theorem d20_26 : decode jdk_92_method_2_code 26 = .ok (.ifCond .ne 11, 3) := by decide +kernel
theorem d20_29 : decode jdk_92_method_2_code 29 = .ok (.new 15, 3) := by decide +kernel
theorem d20_32 : decode jdk_92_method_2_code 32 = .ok (.dup, 1) := by decide +kernel
theorem d20_33 : decode jdk_92_method_2_code 33 = .ok (.invokespecial 17, 3) := by decide +kernel
theorem d20_36 : decode jdk_92_method_2_code 36 = .ok (.athrow, 1) := by decide +kernel
theorem d20_37 : decode jdk_92_method_2_code 37 = .ok (.getstatic 3, 3) := by decide +kernel
theorem d20_40 : decode jdk_92_method_2_code 40 = .ok (.ifCond .ne 30, 3) := by decide +kernel
theorem d20_43 : decode jdk_92_method_2_code 43 = .ok (.aload_n 0, 1) := by decide +kernel
theorem d20_44 : decode jdk_92_method_2_code 44 = .ok (.getfield 7, 3) := by decide +kernel
theorem d20_47 : decode jdk_92_method_2_code 47 = .ok (.ifCond .lt 15, 3) := by decide +kernel
theorem d20_50 : decode jdk_92_method_2_code 50 = .ok (.aload_n 0, 1) := by decide +kernel
theorem d20_51 : decode jdk_92_method_2_code 51 = .ok (.getfield 7, 3) := by decide +kernel
theorem d20_54 : decode jdk_92_method_2_code 54 = .ok (.aload_n 0, 1) := by decide +kernel
theorem d20_55 : decode jdk_92_method_2_code 55 = .ok (.getfield 11, 3) := by decide +kernel
theorem d20_58 : decode jdk_92_method_2_code 58 = .ok (.arraylength, 1) := by decide +kernel
theorem d20_59 : decode jdk_92_method_2_code 59 = .ok (.if_icmp .le 11, 3) := by decide +kernel
theorem d20_62 : decode jdk_92_method_2_code 62 = .ok (.new 15, 3) := by decide +kernel
theorem d20_65 : decode jdk_92_method_2_code 65 = .ok (.dup, 1) := by decide +kernel
theorem d20_66 : decode jdk_92_method_2_code 66 = .ok (.invokespecial 17, 3) := by decide +kernel
theorem d20_69 : decode jdk_92_method_2_code 69 = .ok (.athrow, 1) := by decide +kernel
theorem d20_70 : decode jdk_92_method_2_code 70 = .ok (.getstatic 3, 3) := by decide +kernel
theorem d20_73 : decode jdk_92_method_2_code 73 = .ok (.ifCond .ne 37, 3) := by decide +kernel
theorem d20_76 : decode jdk_92_method_2_code 76 = .ok (.aload_n 0, 1) := by decide +kernel
theorem d20_77 : decode jdk_92_method_2_code 77 = .ok (.getfield 7, 3) := by decide +kernel
theorem d20_80 : decode jdk_92_method_2_code 80 = .ok (.aload_n 0, 1) := by decide +kernel
theorem d20_81 : decode jdk_92_method_2_code 81 = .ok (.getfield 11, 3) := by decide +kernel
theorem d20_84 : decode jdk_92_method_2_code 84 = .ok (.arraylength, 1) := by decide +kernel
theorem d20_85 : decode jdk_92_method_2_code 85 = .ok (.if_icmp .eq 25, 3) := by decide +kernel
theorem d20_88 : decode jdk_92_method_2_code 88 = .ok (.aload_n 0, 1) := by decide +kernel
theorem d20_89 : decode jdk_92_method_2_code 89 = .ok (.getfield 11, 3) := by decide +kernel
theorem d20_92 : decode jdk_92_method_2_code 92 = .ok (.aload_n 0, 1) := by decide +kernel
theorem d20_93 : decode jdk_92_method_2_code 93 = .ok (.getfield 7, 3) := by decide +kernel
theorem d20_96 : decode jdk_92_method_2_code 96 = .ok (.laload, 1) := by decide +kernel
theorem d20_97 : decode jdk_92_method_2_code 97 = .ok (.lconst 0, 1) := by decide +kernel
theorem d20_98 : decode jdk_92_method_2_code 98 = .ok (.lcmp, 1) := by decide +kernel
theorem d20_99 : decode jdk_92_method_2_code 99 = .ok (.ifCond .eq 11, 3) := by decide +kernel
theorem d20_102 : decode jdk_92_method_2_code 102 = .ok (.new 15, 3) := by decide +kernel
theorem d20_105 : decode jdk_92_method_2_code 105 = .ok (.dup, 1) := by decide +kernel
theorem d20_106 : decode jdk_92_method_2_code 106 = .ok (.invokespecial 17, 3) := by decide +kernel
theorem d20_109 : decode jdk_92_method_2_code 109 = .ok (.athrow, 1) := by decide +kernel
theorem d20_110 : decode jdk_92_method_2_code 110 = .ok (.return_, 1) := by decide +kernel
theorem pn_20 : plainFor (⟨"java/util/BitSet", "checkInvariants", "()V"⟩ : MethodName) = true := by first | exact plainFor_of_name (by first | (simp [plainName, overriddenIn]; done) | decide +kernel) | decide +kernel
theorem ef_20 (m : MethodId) (x0 : Addr) : entryFrame m #[(.ref x0)] 1 = mkF m 0 #[.val (.ref x0)] [] := by first | (simp [entryFrame, mkF, argsToLocals, Value.category]; done) | rfl
def Q_20  (h0 : Heap) (n0 : Nat) (v : Option Value) (h : Heap) (L : List Loc) : Prop := v = none ∧ Fr n0 L ∧ h = h0
set_option maxRecDepth 65536 in
set_option maxHeartbeats 40000000 in
theorem rm_ci (l : Launch) (Z : State) (a0 : Array Value) (hw : ∀ d ∈ tables_1, d.before a0 Z = true) (ws : List Jvm.Cond) (bs : Addr) (h0 : Heap) (n0 : Nat) (Z0 : n0 ≤ h0.size) (SA0 : Sta Z h0 "java/util/BitSet" "$assertionsDisabled" "Z" (.int (1 : Int32))) :
    MetFree l (⟨"java/util/BitSet", "checkInvariants", "()V"⟩ : MethodName) (head1 (Jvm.Cond.code (⟨"java/util/BitSet", "checkInvariants", "()V"⟩ : MethodName) jdk_92_method_2_code 1 none :: ws) ({ frames := 0, cells := 0, slots := 0, locals := 0 } : Room)) (fun as_ U => as_ = #[(.ref bs)] ∧ Z.Warmed39 U.vm ∧ U.heap = h0) (fun _ _ _ _ _ => True) (fun _ U o U' => ∃ v L, o = .returned v ∧ Q_20 h0 n0 v U'.heap L ∧ FrameEnd U o U' L ({ frames := 0, cells := 0, slots := 0, locals := 0 } : Room).cells ({ frames := 0, cells := 0, slots := 0, locals := 0 } : Room).slots) := by
  refine MetFree.of_bodySF pn_20 hisR ?_
  intro p e s m args below meth c s₁ Bd hml0 hP hK
  obtain ⟨rfl, hZ, hh⟩ := hP
  have hx := Bd.exec
  have hby := Bd.bytes
  have hlk := BodyLoose.notSynchronized Bd
  have hml : c.maxLocals = 1 := hml0
  have hown : s.vm.findClass "java/util/BitSet" = some m.cls := findClass_of_methodNamed Bd.named
  have hnm := (name_of_methodNamed Bd.named Bd.method).1
  have X0 : Stand p l e ({ frames := 0, cells := 0, slots := 0, locals := 0 } : Room) s m #[(.ref bs)] below meth c s₁ [] 0 0 := Stand.of_body Bd
  have e0 : s₁.heap = h0 := by rw [← hh, Bd.state]; rfl
  have N0 := Fr.nil n0
  refine own_in (ef_20 m bs) ?_
  show own_Fin p e below s (Q_20 h0 n0) 0 0 s₁ (mkF m 0 #[va bs] [])
  obtain ⟨T1, X2, e3, st4⟩ := getS2 (host := "") X0 hx hZ hown (Or.inl (own_w (i := 146) rfl hw)) Via.refl e0 SA0 (g := (mkF m 0 #[va bs] [])) rfl (hb hby d20_0)
  refine own_step (T' := T1) (g' := (mkF m 3 #[va bs] [(.int (1 : Int32))])) st4 ?_
  have hk5 : ¬ ((1 : Int32) = 0) := (by decide)
  refine own_step (T' := T1) (g' := (mkF m 37 #[va bs] [])) (fun t_ k_ => XS.ifYes X2.here hx rfl (pc0 := 3) (pc' := 37) rfl (hb hby d20_3) rfl (XT.i0_ne_t hk5) (by decide) (by decide) k_) ?_
  obtain ⟨T6, X7, e8, st9⟩ := getS2 (host := "") X2 hx hZ hown (Or.inl (own_w (i := 146) rfl hw)) Via.refl e3 SA0 (g := (mkF m 37 #[va bs] [])) rfl (hb hby d20_37)
  refine own_step (T' := T6) (g' := (mkF m 40 #[va bs] [(.int (1 : Int32))])) st9 ?_
  have hk10 : ¬ ((1 : Int32) = 0) := (by decide)
  refine own_step (T' := T6) (g' := (mkF m 70 #[va bs] [])) (fun t_ k_ => XS.ifYes X7.here hx rfl (pc0 := 40) (pc' := 70) rfl (hb hby d20_40) rfl (XT.i0_ne_t hk10) (by decide) (by decide) k_) ?_
  obtain ⟨T11, X12, e13, st14⟩ := getS2 (host := "") X7 hx hZ hown (Or.inl (own_w (i := 146) rfl hw)) Via.refl e8 SA0 (g := (mkF m 70 #[va bs] [])) rfl (hb hby d20_70)
  refine own_step (T' := T11) (g' := (mkF m 73 #[va bs] [(.int (1 : Int32))])) st14 ?_
  have hk15 : ¬ ((1 : Int32) = 0) := (by decide)
  refine own_step (T' := T11) (g' := (mkF m 110 #[va bs] [])) (fun t_ k_ => XS.ifYes X12.here hx rfl (pc0 := 73) (pc' := 110) rfl (hb hby d20_73) rfl (XT.i0_ne_t hk15) (by decide) (by decide) k_) ?_
  exact own_ret X12 hx hlk Bd.returns (hb hby d20_110) (by rw [e13]; exact ⟨rfl, N0, rfl⟩) (by decide) (by decide)
theorem d19_0 : decode jdk_92_method_26_code 0 = .ok (.iload_n 1, 1) := by decide +kernel
theorem d19_1 : decode jdk_92_method_26_code 1 = .ok (.ifCond .ge 30, 3) := by decide +kernel
theorem d19_4 : decode jdk_92_method_26_code 4 = .ok (.new 142, 3) := by decide +kernel
theorem d19_7 : decode jdk_92_method_26_code 7 = .ok (.dup, 1) := by decide +kernel
theorem d19_8 : decode jdk_92_method_26_code 8 = .ok (.new 33, 3) := by decide +kernel
theorem d19_11 : decode jdk_92_method_26_code 11 = .ok (.dup, 1) := by decide +kernel
theorem d19_12 : decode jdk_92_method_26_code 12 = .ok (.invokespecial 35, 3) := by decide +kernel
theorem d19_15 : decode jdk_92_method_26_code 15 = .ok (.ldc 153, 2) := by decide +kernel
theorem d19_17 : decode jdk_92_method_26_code 17 = .ok (.invokevirtual 38, 3) := by decide +kernel
theorem d19_20 : decode jdk_92_method_26_code 20 = .ok (.iload_n 1, 1) := by decide +kernel
theorem d19_21 : decode jdk_92_method_26_code 21 = .ok (.invokevirtual 42, 3) := by decide +kernel
theorem d19_24 : decode jdk_92_method_26_code 24 = .ok (.invokevirtual 45, 3) := by decide +kernel
theorem d19_27 : decode jdk_92_method_26_code 27 = .ok (.invokespecial 146, 3) := by decide +kernel
theorem d19_30 : decode jdk_92_method_26_code 30 = .ok (.athrow, 1) := by decide +kernel
theorem d19_31 : decode jdk_92_method_26_code 31 = .ok (.aload_n 0, 1) := by decide +kernel
theorem d19_32 : decode jdk_92_method_26_code 32 = .ok (.invokevirtual 56, 3) := by decide +kernel
theorem d19_35 : decode jdk_92_method_26_code 35 = .ok (.iload_n 1, 1) := by decide +kernel
theorem d19_36 : decode jdk_92_method_26_code 36 = .ok (.invokestatic 52, 3) := by decide +kernel
theorem d19_39 : decode jdk_92_method_26_code 39 = .ok (.istore_n 2, 1) := by decide +kernel
theorem d19_40 : decode jdk_92_method_26_code 40 = .ok (.iload_n 2, 1) := by decide +kernel
theorem d19_41 : decode jdk_92_method_26_code 41 = .ok (.aload_n 0, 1) := by decide +kernel
theorem d19_42 : decode jdk_92_method_26_code 42 = .ok (.getfield 7, 3) := by decide +kernel
theorem d19_45 : decode jdk_92_method_26_code 45 = .ok (.if_icmp .ge 22, 3) := by decide +kernel
theorem d19_48 : decode jdk_92_method_26_code 48 = .ok (.aload_n 0, 1) := by decide +kernel
theorem d19_49 : decode jdk_92_method_26_code 49 = .ok (.getfield 11, 3) := by decide +kernel
theorem d19_52 : decode jdk_92_method_26_code 52 = .ok (.iload_n 2, 1) := by decide +kernel
theorem d19_53 : decode jdk_92_method_26_code 53 = .ok (.laload, 1) := by decide +kernel
theorem d19_54 : decode jdk_92_method_26_code 54 = .ok (.lconst 1, 1) := by decide +kernel
theorem d19_55 : decode jdk_92_method_26_code 55 = .ok (.iload_n 1, 1) := by decide +kernel
theorem d19_56 : decode jdk_92_method_26_code 56 = .ok (.lshl, 1) := by decide +kernel
theorem d19_57 : decode jdk_92_method_26_code 57 = .ok (.land, 1) := by decide +kernel
theorem d19_58 : decode jdk_92_method_26_code 58 = .ok (.lconst 0, 1) := by decide +kernel
theorem d19_59 : decode jdk_92_method_26_code 59 = .ok (.lcmp, 1) := by decide +kernel
theorem d19_60 : decode jdk_92_method_26_code 60 = .ok (.ifCond .eq 7, 3) := by decide +kernel
theorem d19_63 : decode jdk_92_method_26_code 63 = .ok (.iconst 1, 1) := by decide +kernel
theorem d19_64 : decode jdk_92_method_26_code 64 = .ok (.goto 4, 3) := by decide +kernel
theorem d19_67 : decode jdk_92_method_26_code 67 = .ok (.iconst 0, 1) := by decide +kernel
theorem d19_68 : decode jdk_92_method_26_code 68 = .ok (.ireturn, 1) := by decide +kernel
theorem pn_19 : plainFor (⟨"java/util/BitSet", "get", "(I)Z"⟩ : MethodName) = true := by first | exact plainFor_of_name (by first | (simp [plainName, overriddenIn]; done) | decide +kernel) | decide +kernel
theorem ef_19 (m : MethodId) (x0 : Addr) (x1 : Int32) : entryFrame m #[(.ref x0), (.int x1)] 3 = mkF m 0 #[.val (.ref x0), .val (.int x1), .unset] [] := by first | (simp [entryFrame, mkF, argsToLocals, Value.category]; done) | rfl
def Q_19  (h0 : Heap) (n0 : Nat) (v : Option Value) (h : Heap) (L : List Loc) : Prop := v = some (.int (nar .boolean (0 : Int32))) ∧ Fr n0 L ∧ h = h0
set_option maxRecDepth 65536 in
set_option maxHeartbeats 40000000 in
theorem rm_get (l : Launch) (Z : State) (a0 : Array Value) (hw : ∀ d ∈ tables_1, d.before a0 Z = true) (ws : List Jvm.Cond) (bs : Addr) (ii : Int32) (h0 : Heap) (n0 : Nat) (Z0 : n0 ≤ h0.size) (EB : Exa Z h0 bs "java/util/BitSet") (FB0 : Fld Z h0 bs "java/util/BitSet" "wordsInUse" "I" (.int (0 : Int32))) (SA0 : Sta Z h0 "java/util/BitSet" "$assertionsDisabled" "Z" (.int (1 : Int32))) (hi : ¬ ii < 0) :
    MetFree l (⟨"java/util/BitSet", "get", "(I)Z"⟩ : MethodName) (head1 (Jvm.Cond.code (⟨"java/util/BitSet", "get", "(I)Z"⟩ : MethodName) jdk_92_method_26_code 3 (some .boolean) :: ws) ({ frames := 1, cells := 0, slots := 0, locals := 12 } : Room)) (fun as_ U => as_ = #[(.ref bs), (.int ii)] ∧ Z.Warmed39 U.vm ∧ U.heap = h0) (fun _ _ _ _ _ => True) (fun _ U o U' => ∃ v L, o = .returned v ∧ Q_19 h0 n0 v U'.heap L ∧ FrameEnd U o U' L ({ frames := 1, cells := 0, slots := 0, locals := 12 } : Room).cells ({ frames := 1, cells := 0, slots := 0, locals := 12 } : Room).slots) := by
  refine MetFree.of_bodySF pn_19 hisR ?_
  intro p e s m args below meth c s₁ Bd hml0 hP hK
  obtain ⟨rfl, hZ, hh⟩ := hP
  have hx := Bd.exec
  have hby := Bd.bytes
  have hlk := BodyLoose.notSynchronized Bd
  have hml : c.maxLocals = 3 := hml0
  have hown : s.vm.findClass "java/util/BitSet" = some m.cls := findClass_of_methodNamed Bd.named
  have hnm := (name_of_methodNamed Bd.named Bd.method).1
  have X0 : Stand p l e ({ frames := 1, cells := 0, slots := 0, locals := 12 } : Room) s m #[(.ref bs), (.int ii)] below meth c s₁ [] 0 0 := Stand.of_body Bd
  have e0 : s₁.heap = h0 := by rw [← hh, Bd.state]; rfl
  have N0 := Fr.nil n0
  refine own_in (ef_19 m bs ii) ?_
  show own_Fin p e below s (Q_19 h0 n0) 0 0 s₁ (mkF m 0 #[va bs, vi ii, un] [])
  refine own_step (T' := s₁) (g' := (mkF m 1 #[va bs, vi ii, un] [(.int ii)])) (fun t_ k_ => XS.iloadN X0.here hx rfl (hb hby d19_0) rfl k_) ?_
  have hk1 : ¬ (ii < 0) := hi
  refine own_step (T' := s₁) (g' := (mkF m 31 #[va bs, vi ii, un] [])) (fun t_ k_ => XS.ifYes X0.here hx rfl (pc0 := 1) (pc' := 31) rfl (hb hby d19_1) rfl (XT.i0_ge_t hk1) (by decide) (by decide) k_) ?_
  refine own_step (T' := s₁) (g' := (mkF m 32 #[va bs, vi ii, un] [(.ref bs)])) (fun t_ k_ => XS.aloadN X0.here hx rfl (hb hby d19_31) rfl rfl k_) ?_
  obtain ⟨cqc2, qac2, qbc2⟩ := EB.cell
  have hpc2 := Cond.privateMethod_at (mvP (args := #[(.ref bs), (.int ii)]) hZ (own_w (i := 143) rfl hw))
  obtain ⟨_, _, ⟨Tc2, Lc2, kc2, nc2⟩, -, Xc2, ⟨Lcc2, hQc2, lc2, yc2, zc2⟩, stc2⟩ := X0.privateBack hx (y := (⟨"java/util/BitSet", "checkInvariants", "()V"⟩ : MethodName)) hown (mvT hZ (own_w (i := 141) rfl hw)) (mvT hZ (own_w (i := 142) rfl hw)) (mvT hZ (own_w (i := 144) rfl hw)) hpc2 (mvT hZ (own_w (i := 145) rfl hw)) (by decide) (backOf (W := 0) (rm_ci l Z a0 hw [] bs h0 n0 Z0 SA0) hZ (own_w (i := 145) rfl hw) (own_w (i := 139) rfl hw) (by decide) (by decide)) (g := (mkF m 32 #[va bs, vi ii, un] [(.ref bs)])) rfl (by rw [hml]; rfl) (Steps.refl _) (a := bs) (by rw [e0]; exact qac2) qbc2 (argsL := []) (rest := []) (lenOf pd_11 rfl) rfl (by show 2 * 0 + _ ≤ _; exact Nat.le_of_eq rfl) (hb hby d19_32) (fun _ _ => ⟨rfl, e0, (by decide : 0 + 0 ≤ _), (by decide : 0 + 0 ≤ _)⟩)
  dsimp only [Pt.U, Pt.locs, Pt.cells, Pt.slots] at Xc2 lc2 yc2 zc2 stc2 hQc2
  subst lc2 yc2 zc2
  have X3 := Xc2.more (cells' := 0) (slots' := 0) (by decide) (by decide)
  obtain ⟨rfl, N4, e5⟩ := hQc2
  have N6 := Fr.app N0 N4
  obtain ⟨Lo7, X8, N9⟩ : ∃ Lo_, Stand p l e ({ frames := 1, cells := 0, slots := 0, locals := 12 } : Room) s m #[(.ref bs), (.int ii)] below meth c Tc2 Lo_ 0 0 ∧ Fr n0 Lo_ := ⟨_, X3, N6⟩
  refine own_step (T' := Tc2) (g' := (mkF m 35 #[va bs, vi ii, un] [])) (fun t_ k_ => stc2.trans k_) ?_
  refine own_step (T' := Tc2) (g' := (mkF m 36 #[va bs, vi ii, un] [(.int ii)])) (fun t_ k_ => XS.iloadN X8.here hx rfl (hb hby d19_35) rfl k_) ?_
  obtain ⟨_, _, ⟨Tc10, Lc10, kc10, nc10⟩, -, Xc10, ⟨Lcc10, hQc10, lc10, yc10, zc10⟩, stc10⟩ := Jvm.LawKit.callS X8 hx (y := (⟨"java/util/BitSet", "wordIndex", "(I)I"⟩ : MethodName)) hown (mvT hZ (own_w (i := 147) rfl hw)) (mvT hZ (own_w (i := 148) rfl hw)) (mvT hZ (own_w (i := 139) rfl hw)) (mvT hZ (own_w (i := 149) rfl hw)) (by decide) (backOf (W := 0) (rm_wi l Z a0 hw [] (ii) h0 n0 Z0) hZ (own_w (i := 149) rfl hw) (own_w (i := 139) rfl hw) (by decide) (by decide)) (g := (mkF m 36 #[va bs, vi ii, un] [(.int ii)])) rfl (by rw [hml]; rfl) (argsL := [(.int ii)]) (rest := []) (lenOf pd_12 rfl) rfl (by show 2 * 0 + _ ≤ _; exact Nat.le_of_eq rfl) (hb hby d19_36) (fun _ _ => ⟨rfl, e5, (by decide : 0 + 0 ≤ _), (by decide : 0 + 0 ≤ _)⟩)
  dsimp only [Pt.U, Pt.locs, Pt.cells, Pt.slots] at Xc10 lc10 yc10 zc10 stc10 hQc10
  subst lc10 yc10 zc10
  have X11 := Xc10.more (cells' := 0) (slots' := 0) (by decide) (by decide)
  obtain ⟨rfl, N12, e13⟩ := hQc10
  have N14 := Fr.app N9 N12
  obtain ⟨Lo15, X16, N17⟩ : ∃ Lo_, Stand p l e ({ frames := 1, cells := 0, slots := 0, locals := 12 } : Room) s m #[(.ref bs), (.int ii)] below meth c Tc10 Lo_ 0 0 ∧ Fr n0 Lo_ := ⟨_, X11, N14⟩
  refine own_step (T' := Tc10) (g' := (mkF m 39 #[va bs, vi ii, un] [(.int (ii >>> ((6 : Int32) &&& 31)))])) stc10 ?_
  refine own_step (T' := Tc10) (g' := (mkF m 40 #[va bs, vi ii, vi (ii >>> ((6 : Int32) &&& 31))] [])) (fun t_ k_ => XS.istoreN X16.here hx rfl (hb hby d19_39) rfl (l' := #[va bs, vi ii, vi (ii >>> ((6 : Int32) &&& 31))]) rfl k_) ?_
  refine own_step (T' := Tc10) (g' := (mkF m 41 #[va bs, vi ii, vi (ii >>> ((6 : Int32) &&& 31))] [(.int (ii >>> ((6 : Int32) &&& 31)))])) (fun t_ k_ => XS.iloadN X16.here hx rfl (hb hby d19_40) rfl k_) ?_
  refine own_step (T' := Tc10) (g' := (mkF m 42 #[va bs, vi ii, vi (ii >>> ((6 : Int32) &&& 31))] [(.ref bs), (.int (ii >>> ((6 : Int32) &&& 31)))])) (fun t_ k_ => XS.aloadN X16.here hx rfl (hb hby d19_41) rfl rfl k_) ?_
  obtain ⟨T18, X19, e20, st21⟩ := getF X16 hx hZ hown (host := "") (Or.inl (own_w (i := 150) rfl hw)) Via.refl e13 FB0 (g := (mkF m 42 #[va bs, vi ii, vi (ii >>> ((6 : Int32) &&& 31))] [(.ref bs), (.int (ii >>> ((6 : Int32) &&& 31)))])) rfl rfl (hb hby d19_42)
  refine own_step (T' := T18) (g' := (mkF m 45 #[va bs, vi ii, vi (ii >>> ((6 : Int32) &&& 31))] [(.int (0 : Int32)), (.int (ii >>> ((6 : Int32) &&& 31)))])) st21 ?_
  have hk22 : ¬ ((ii >>> ((6 : Int32) &&& 31)) < (0 : Int32)) := (own_wi hi)
  refine own_step (T' := T18) (g' := (mkF m 67 #[va bs, vi ii, vi (ii >>> ((6 : Int32) &&& 31))] [])) (fun t_ k_ => XS.icmpYes X19.here hx rfl (pc0 := 45) (pc' := 67) rfl (hb hby d19_45) rfl (XT.ii_ge_t hk22) (by decide) (by decide) k_) ?_
  refine own_step (T' := T18) (g' := (mkF m 68 #[va bs, vi ii, vi (ii >>> ((6 : Int32) &&& 31))] [(.int (0 : Int32))])) (fun t_ k_ => XT.iconstV X19.here hx rfl (0 : Int32) (hb hby d19_67) (by decide) k_) ?_
  exact own_retN X19 hx hlk (t := .boolean) Bd.returns (by simp) (hb hby d19_68) (by rw [e20]; exact ⟨rfl, N17, rfl⟩) (by decide) (by decide)
theorem d18_0 : decode prog_81_method_49_code 0 = .ok (.iconst 0, 1) := by decide +kernel
theorem d18_1 : decode prog_81_method_49_code 1 = .ok (.istore 4, 2) := by decide +kernel
theorem d18_3 : decode prog_81_method_49_code 3 = .ok (.aload_n 0, 1) := by decide +kernel
theorem d18_4 : decode prog_81_method_49_code 4 = .ok (.getfield 51, 3) := by decide +kernel
theorem d18_7 : decode prog_81_method_49_code 7 = .ok (.istore 5, 2) := by decide +kernel
theorem d18_9 : decode prog_81_method_49_code 9 = .ok (.aload_n 0, 1) := by decide +kernel
theorem d18_10 : decode prog_81_method_49_code 10 = .ok (.getfield 54, 3) := by decide +kernel
theorem d18_13 : decode prog_81_method_49_code 13 = .ok (.istore 6, 2) := by decide +kernel
theorem d18_15 : decode prog_81_method_49_code 15 = .ok (.aload_n 0, 1) := by decide +kernel
theorem d18_16 : decode prog_81_method_49_code 16 = .ok (.getfield 42, 3) := by decide +kernel
theorem d18_19 : decode prog_81_method_49_code 19 = .ok (.aload_n 0, 1) := by decide +kernel
theorem d18_20 : decode prog_81_method_49_code 20 = .ok (.getfield 57, 3) := by decide +kernel
theorem d18_23 : decode prog_81_method_49_code 23 = .ok (.iadd, 1) := by decide +kernel
theorem d18_24 : decode prog_81_method_49_code 24 = .ok (.istore 7, 2) := by decide +kernel
theorem d18_26 : decode prog_81_method_49_code 26 = .ok (.iconst 0, 1) := by decide +kernel
theorem d18_27 : decode prog_81_method_49_code 27 = .ok (.istore 8, 2) := by decide +kernel
theorem d18_29 : decode prog_81_method_49_code 29 = .ok (.iload 8, 2) := by decide +kernel
theorem d18_31 : decode prog_81_method_49_code 31 = .ok (.aload_n 0, 1) := by decide +kernel
theorem d18_32 : decode prog_81_method_49_code 32 = .ok (.getfield 48, 3) := by decide +kernel
theorem d18_35 : decode prog_81_method_49_code 35 = .ok (.if_icmp .ge 143, 3) := by decide +kernel
theorem d18_38 : decode prog_81_method_49_code 38 = .ok (.iload 8, 2) := by decide +kernel
theorem d18_40 : decode prog_81_method_49_code 40 = .ok (.ifCond .le 104, 3) := by decide +kernel
theorem d18_43 : decode prog_81_method_49_code 43 = .ok (.lconst 0, 1) := by decide +kernel
theorem d18_44 : decode prog_81_method_49_code 44 = .ok (.lstore 9, 2) := by decide +kernel
theorem d18_46 : decode prog_81_method_49_code 46 = .ok (.iconst 0, 1) := by decide +kernel
theorem d18_47 : decode prog_81_method_49_code 47 = .ok (.istore 11, 2) := by decide +kernel
theorem d18_49 : decode prog_81_method_49_code 49 = .ok (.aload_n 0, 1) := by decide +kernel
theorem d18_50 : decode prog_81_method_49_code 50 = .ok (.getfield 17, 3) := by decide +kernel
theorem d18_53 : decode prog_81_method_49_code 53 = .ok (.iload 7, 2) := by decide +kernel
theorem d18_55 : decode prog_81_method_49_code 55 = .ok (.iinc 7 1, 3) := by decide +kernel
theorem d18_58 : decode prog_81_method_49_code 58 = .ok (.baload, 1) := by decide +kernel
theorem d18_59 : decode prog_81_method_49_code 59 = .ok (.istore 12, 2) := by decide +kernel
theorem d18_61 : decode prog_81_method_49_code 61 = .ok (.lload 9, 2) := by decide +kernel
theorem d18_63 : decode prog_81_method_49_code 63 = .ok (.iload 12, 2) := by decide +kernel
theorem d18_65 : decode prog_81_method_49_code 65 = .ok (.bipush 127, 2) := by decide +kernel
theorem d18_67 : decode prog_81_method_49_code 67 = .ok (.iand, 1) := by decide +kernel
theorem d18_68 : decode prog_81_method_49_code 68 = .ok (.i2l, 1) := by decide +kernel
theorem d18_69 : decode prog_81_method_49_code 69 = .ok (.iload 11, 2) := by decide +kernel
theorem d18_71 : decode prog_81_method_49_code 71 = .ok (.lshl, 1) := by decide +kernel
theorem d18_72 : decode prog_81_method_49_code 72 = .ok (.lor, 1) := by decide +kernel
theorem d18_73 : decode prog_81_method_49_code 73 = .ok (.lstore 9, 2) := by decide +kernel
theorem d18_75 : decode prog_81_method_49_code 75 = .ok (.iinc 11 7, 3) := by decide +kernel
theorem d18_78 : decode prog_81_method_49_code 78 = .ok (.iload 12, 2) := by decide +kernel
theorem d18_80 : decode prog_81_method_49_code 80 = .ok (.ifCond .lt (-31), 3) := by decide +kernel
theorem d18_83 : decode prog_81_method_49_code 83 = .ok (.iload 5, 2) := by decide +kernel
theorem d18_85 : decode prog_81_method_49_code 85 = .ok (.lload 9, 2) := by decide +kernel
theorem d18_87 : decode prog_81_method_49_code 87 = .ok (.iconst 1, 1) := by decide +kernel
theorem d18_88 : decode prog_81_method_49_code 88 = .ok (.lushr, 1) := by decide +kernel
theorem d18_89 : decode prog_81_method_49_code 89 = .ok (.l2i, 1) := by decide +kernel
theorem d18_90 : decode prog_81_method_49_code 90 = .ok (.iadd, 1) := by decide +kernel
theorem d18_91 : decode prog_81_method_49_code 91 = .ok (.istore 5, 2) := by decide +kernel
theorem d18_93 : decode prog_81_method_49_code 93 = .ok (.iconst 1, 1) := by decide +kernel
theorem d18_94 : decode prog_81_method_49_code 94 = .ok (.istore 6, 2) := by decide +kernel
theorem d18_96 : decode prog_81_method_49_code 96 = .ok (.lload 9, 2) := by decide +kernel
theorem d18_98 : decode prog_81_method_49_code 98 = .ok (.lconst 1, 1) := by decide +kernel
theorem d18_99 : decode prog_81_method_49_code 99 = .ok (.land, 1) := by decide +kernel
theorem d18_100 : decode prog_81_method_49_code 100 = .ok (.lconst 0, 1) := by decide +kernel
theorem d18_101 : decode prog_81_method_49_code 101 = .ok (.lcmp, 1) := by decide +kernel
theorem d18_102 : decode prog_81_method_49_code 102 = .ok (.ifCond .ne 42, 3) := by decide +kernel
theorem d18_105 : decode prog_81_method_49_code 105 = .ok (.iconst 0, 1) := by decide +kernel
theorem d18_106 : decode prog_81_method_49_code 106 = .ok (.istore 6, 2) := by decide +kernel
theorem d18_108 : decode prog_81_method_49_code 108 = .ok (.iconst 0, 1) := by decide +kernel
theorem d18_109 : decode prog_81_method_49_code 109 = .ok (.istore 11, 2) := by decide +kernel
theorem d18_111 : decode prog_81_method_49_code 111 = .ok (.aload_n 0, 1) := by decide +kernel
theorem d18_112 : decode prog_81_method_49_code 112 = .ok (.getfield 17, 3) := by decide +kernel
theorem d18_115 : decode prog_81_method_49_code 115 = .ok (.iload 7, 2) := by decide +kernel
theorem d18_117 : decode prog_81_method_49_code 117 = .ok (.iinc 7 1, 3) := by decide +kernel
theorem d18_120 : decode prog_81_method_49_code 120 = .ok (.baload, 1) := by decide +kernel
theorem d18_121 : decode prog_81_method_49_code 121 = .ok (.istore 12, 2) := by decide +kernel
theorem d18_123 : decode prog_81_method_49_code 123 = .ok (.iload 6, 2) := by decide +kernel
theorem d18_125 : decode prog_81_method_49_code 125 = .ok (.iload 12, 2) := by decide +kernel
theorem d18_127 : decode prog_81_method_49_code 127 = .ok (.bipush 127, 2) := by decide +kernel
theorem d18_129 : decode prog_81_method_49_code 129 = .ok (.iand, 1) := by decide +kernel
theorem d18_130 : decode prog_81_method_49_code 130 = .ok (.iload 11, 2) := by decide +kernel
theorem d18_132 : decode prog_81_method_49_code 132 = .ok (.ishl, 1) := by decide +kernel
theorem d18_133 : decode prog_81_method_49_code 133 = .ok (.ior, 1) := by decide +kernel
theorem d18_134 : decode prog_81_method_49_code 134 = .ok (.istore 6, 2) := by decide +kernel
theorem d18_136 : decode prog_81_method_49_code 136 = .ok (.iinc 11 7, 3) := by decide +kernel
theorem d18_139 : decode prog_81_method_49_code 139 = .ok (.iload 12, 2) := by decide +kernel
theorem d18_141 : decode prog_81_method_49_code 141 = .ok (.ifCond .lt (-30), 3) := by decide +kernel
theorem d18_144 : decode prog_81_method_49_code 144 = .ok (.aload_n 1, 1) := by decide +kernel
theorem d18_145 : decode prog_81_method_49_code 145 = .ok (.iload 5, 2) := by decide +kernel
theorem d18_147 : decode prog_81_method_49_code 147 = .ok (.invokevirtual 397, 3) := by decide +kernel
theorem d18_150 : decode prog_81_method_49_code 150 = .ok (.ifCond .ne 22, 3) := by decide +kernel
theorem d18_153 : decode prog_81_method_49_code 153 = .ok (.aload_n 2, 1) := by decide +kernel
theorem d18_154 : decode prog_81_method_49_code 154 = .ok (.iload 4, 2) := by decide +kernel
theorem d18_156 : decode prog_81_method_49_code 156 = .ok (.iload 5, 2) := by decide +kernel
theorem d18_158 : decode prog_81_method_49_code 158 = .ok (.iastore, 1) := by decide +kernel
theorem d18_159 : decode prog_81_method_49_code 159 = .ok (.aload_n 3, 1) := by decide +kernel
theorem d18_160 : decode prog_81_method_49_code 160 = .ok (.ifnull 9, 3) := by decide +kernel
theorem d18_163 : decode prog_81_method_49_code 163 = .ok (.aload_n 3, 1) := by decide +kernel
theorem d18_164 : decode prog_81_method_49_code 164 = .ok (.iload 4, 2) := by decide +kernel
theorem d18_166 : decode prog_81_method_49_code 166 = .ok (.iload 6, 2) := by decide +kernel
theorem d18_168 : decode prog_81_method_49_code 168 = .ok (.iastore, 1) := by decide +kernel
theorem d18_169 : decode prog_81_method_49_code 169 = .ok (.iinc 4 1, 3) := by decide +kernel
theorem d18_172 : decode prog_81_method_49_code 172 = .ok (.iinc 8 1, 3) := by decide +kernel
theorem d18_175 : decode prog_81_method_49_code 175 = .ok (.goto (-146), 3) := by decide +kernel
theorem d18_178 : decode prog_81_method_49_code 178 = .ok (.iload 4, 2) := by decide +kernel
theorem d18_180 : decode prog_81_method_49_code 180 = .ok (.ireturn, 1) := by decide +kernel
theorem pn_18 : plainFor (⟨"com/example/sedimenta/sedimenta/Postings", "decodeChecked", "(Ljava/util/BitSet;[I[I)I"⟩ : MethodName) = true := by first | exact plainFor_of_name (by first | (simp [plainName, overriddenIn]; done) | decide +kernel) | decide +kernel
theorem ef_18 (m : MethodId) (x0 : Addr) (x1 : Addr) (x2 : Addr) (x3 : Addr) : entryFrame m #[(.ref x0), (.ref x1), (.ref x2), (.ref x3)] 13 = mkF m 0 #[.val (.ref x0), .val (.ref x1), .val (.ref x2), .val (.ref x3), .unset, .unset, .unset, .unset, .unset, .unset, .unset, .unset, .unset] [] := by first | (simp [entryFrame, mkF, argsToLocals, Value.category]; done) | rfl
def Q_18 (Z : State) (dA fA : Addr) (f_first f_firstFrequency f_count d1 f1 : Int32) (h0 : Heap) (n0 : Nat) (v : Option Value) (h : Heap) (L : List Loc) : Prop := ∃ (x0 x1 y0 y1 : Int32), v = some (.int f_count) ∧ Fr n0 L ∧ Keep h0 h [dA, fA] ∧ own_Arl Z h dA .int [(.int x0), (.int x1)] ∧ own_Arl Z h fA .int [(.int y0), (.int y1)] ∧ own_Res f_count f_first f_firstFrequency d1 f1 x0 x1 y0 y1
set_option maxRecDepth 65536 in
set_option maxHeartbeats 40000000 in
theorem rm_dc (l : Launch) (Z : State) (a0 : Array Value) (hw : ∀ d ∈ tables_1, d.before a0 Z = true) (ws : List Jvm.Cond) (a bs dA fA : Addr) (f_bytes : Addr) (f_count : Int32) (f_first : Int32) (f_firstFrequency : Int32) (f_firstLength : Int32) (vs : List Value) (d1 f1 : Int32) (h0 : Heap) (n0 : Nat) (Z0 : n0 ≤ h0.size) (Ff_bytes : Fld Z h0 a "com/example/sedimenta/sedimenta/Postings" "bytes" "[B" (.ref f_bytes)) (Ff_count : Fld Z h0 a "com/example/sedimenta/sedimenta/Postings" "count" "I" (.int f_count)) (Ff_first : Fld Z h0 a "com/example/sedimenta/sedimenta/Postings" "first" "I" (.int f_first)) (Ff_firstFrequency : Fld Z h0 a "com/example/sedimenta/sedimenta/Postings" "firstFrequency" "I" (.int f_firstFrequency)) (Ff_firstLength : Fld Z h0 a "com/example/sedimenta/sedimenta/Postings" "firstLength" "I" (.int f_firstLength)) (Ff_offset : Fld Z h0 a "com/example/sedimenta/sedimenta/Postings" "offset" "I" (.int (0 : Int32))) (VB : own_Arl Z h0 f_bytes .byte vs) (VD : own_Arl Z h0 dA .int [(.int (0 : Int32)), (.int (0 : Int32))]) (VF : own_Arl Z h0 fA .int [(.int (0 : Int32)), (.int (0 : Int32))]) (EB : Exa Z h0 bs "java/util/BitSet") (FB0 : Fld Z h0 bs "java/util/BitSet" "wordsInUse" "I" (.int (0 : Int32))) (SA0 : Sta Z h0 "java/util/BitSet" "$assertionsDisabled" "Z" (.int (1 : Int32))) (gd : n0 ≤ dA) (gf : n0 ≤ fA) (ne0 : a ≠ dA) (ne1 : a ≠ fA) (ne2 : f_bytes ≠ dA) (ne3 : f_bytes ≠ fA) (ne4 : bs ≠ dA) (ne5 : bs ≠ fA) (ne6 : dA ≠ fA) (Hd : own_Dec vs f_count f_first f_firstLength d1 f1) :
    MetFree l (⟨"com/example/sedimenta/sedimenta/Postings", "decodeChecked", "(Ljava/util/BitSet;[I[I)I"⟩ : MethodName) (head1 (Jvm.Cond.code (⟨"com/example/sedimenta/sedimenta/Postings", "decodeChecked", "(Ljava/util/BitSet;[I[I)I"⟩ : MethodName) prog_81_method_49_code 13 (some .int) :: ws) ({ frames := 2, cells := 0, slots := 0, locals := 26 } : Room)) (fun as_ U => as_ = #[(.ref a), (.ref bs), (.ref dA), (.ref fA)] ∧ Z.Warmed39 U.vm ∧ U.heap = h0) (fun _ _ _ _ _ => True) (fun _ U o U' => ∃ v L, o = .returned v ∧ Q_18 Z dA fA f_first f_firstFrequency f_count d1 f1 h0 n0 v U'.heap L ∧ FrameEnd U o U' L ({ frames := 2, cells := 0, slots := 0, locals := 26 } : Room).cells ({ frames := 2, cells := 0, slots := 0, locals := 26 } : Room).slots) := by
  refine MetFree.of_bodySF pn_18 hisR ?_
  intro p e s m args below meth c s₁ Bd hml0 hP hK
  obtain ⟨rfl, hZ, hh⟩ := hP
  have hx := Bd.exec
  have hby := Bd.bytes
  have hlk := BodyLoose.notSynchronized Bd
  have hml : c.maxLocals = 13 := hml0
  have hown : s.vm.findClass "com/example/sedimenta/sedimenta/Postings" = some m.cls := findClass_of_methodNamed Bd.named
  have hnm := (name_of_methodNamed Bd.named Bd.method).1
  have X0 : Stand p l e ({ frames := 2, cells := 0, slots := 0, locals := 26 } : Room) s m #[(.ref a), (.ref bs), (.ref dA), (.ref fA)] below meth c s₁ [] 0 0 := Stand.of_body Bd
  have e0 : s₁.heap = h0 := by rw [← hh, Bd.state]; rfl
  have N0 := Fr.nil n0
  refine own_in (ef_18 m a bs dA fA) ?_
  show own_Fin p e below s (Q_18 Z dA fA f_first f_firstFrequency f_count d1 f1 h0 n0) 0 0 s₁ (mkF m 0 #[va a, va bs, va dA, va fA, un, un, un, un, un, un, un, un, un] [])
  rcases Hd with hc | ⟨hc, Da⟩ | ⟨hc, Da, Db, Dc, Dd, D0, De, rr, Df⟩
  · refine own_step (T' := s₁) (g' := (mkF m 1 #[va a, va bs, va dA, va fA, un, un, un, un, un, un, un, un, un] [(.int (0 : Int32))])) (fun t_ k_ => XT.iconstV X0.here hx rfl (0 : Int32) (hb hby d18_0) (by decide) k_) ?_
    refine own_step (T' := s₁) (g' := (mkF m 3 #[va a, va bs, va dA, va fA, vi (0 : Int32), un, un, un, un, un, un, un, un] [])) (fun t_ k_ => XS.istore X0.here hx rfl (hb hby d18_1) rfl (l' := #[va a, va bs, va dA, va fA, vi (0 : Int32), un, un, un, un, un, un, un, un]) rfl k_) ?_
    refine own_step (T' := s₁) (g' := (mkF m 4 #[va a, va bs, va dA, va fA, vi (0 : Int32), un, un, un, un, un, un, un, un] [(.ref a)])) (fun t_ k_ => XS.aloadN X0.here hx rfl (hb hby d18_3) rfl rfl k_) ?_
    obtain ⟨T1, X2, e3, st4⟩ := getF X0 hx hZ hown (host := "") (Or.inl (own_w (i := 56) rfl hw)) Via.refl e0 Ff_first (g := (mkF m 4 #[va a, va bs, va dA, va fA, vi (0 : Int32), un, un, un, un, un, un, un, un] [(.ref a)])) rfl rfl (hb hby d18_4)
    refine own_step (T' := T1) (g' := (mkF m 7 #[va a, va bs, va dA, va fA, vi (0 : Int32), un, un, un, un, un, un, un, un] [(.int f_first)])) st4 ?_
    refine own_step (T' := T1) (g' := (mkF m 9 #[va a, va bs, va dA, va fA, vi (0 : Int32), vi f_first, un, un, un, un, un, un, un] [])) (fun t_ k_ => XS.istore X2.here hx rfl (hb hby d18_7) rfl (l' := #[va a, va bs, va dA, va fA, vi (0 : Int32), vi f_first, un, un, un, un, un, un, un]) rfl k_) ?_
    refine own_step (T' := T1) (g' := (mkF m 10 #[va a, va bs, va dA, va fA, vi (0 : Int32), vi f_first, un, un, un, un, un, un, un] [(.ref a)])) (fun t_ k_ => XS.aloadN X2.here hx rfl (hb hby d18_9) rfl rfl k_) ?_
    obtain ⟨T5, X6, e7, st8⟩ := getF X2 hx hZ hown (host := "") (Or.inl (own_w (i := 58) rfl hw)) Via.refl e3 Ff_firstFrequency (g := (mkF m 10 #[va a, va bs, va dA, va fA, vi (0 : Int32), vi f_first, un, un, un, un, un, un, un] [(.ref a)])) rfl rfl (hb hby d18_10)
    refine own_step (T' := T5) (g' := (mkF m 13 #[va a, va bs, va dA, va fA, vi (0 : Int32), vi f_first, un, un, un, un, un, un, un] [(.int f_firstFrequency)])) st8 ?_
    refine own_step (T' := T5) (g' := (mkF m 15 #[va a, va bs, va dA, va fA, vi (0 : Int32), vi f_first, vi f_firstFrequency, un, un, un, un, un, un] [])) (fun t_ k_ => XS.istore X6.here hx rfl (hb hby d18_13) rfl (l' := #[va a, va bs, va dA, va fA, vi (0 : Int32), vi f_first, vi f_firstFrequency, un, un, un, un, un, un]) rfl k_) ?_
    refine own_step (T' := T5) (g' := (mkF m 16 #[va a, va bs, va dA, va fA, vi (0 : Int32), vi f_first, vi f_firstFrequency, un, un, un, un, un, un] [(.ref a)])) (fun t_ k_ => XS.aloadN X6.here hx rfl (hb hby d18_15) rfl rfl k_) ?_
    obtain ⟨T9, X10, e11, st12⟩ := getF X6 hx hZ hown (host := "") (Or.inl (own_w (i := 84) rfl hw)) Via.refl e7 Ff_offset (g := (mkF m 16 #[va a, va bs, va dA, va fA, vi (0 : Int32), vi f_first, vi f_firstFrequency, un, un, un, un, un, un] [(.ref a)])) rfl rfl (hb hby d18_16)
    refine own_step (T' := T9) (g' := (mkF m 19 #[va a, va bs, va dA, va fA, vi (0 : Int32), vi f_first, vi f_firstFrequency, un, un, un, un, un, un] [(.int (0 : Int32))])) st12 ?_
    refine own_step (T' := T9) (g' := (mkF m 20 #[va a, va bs, va dA, va fA, vi (0 : Int32), vi f_first, vi f_firstFrequency, un, un, un, un, un, un] [(.ref a), (.int (0 : Int32))])) (fun t_ k_ => XS.aloadN X10.here hx rfl (hb hby d18_19) rfl rfl k_) ?_
    obtain ⟨T13, X14, e15, st16⟩ := getF X10 hx hZ hown (host := "") (Or.inl (own_w (i := 60) rfl hw)) Via.refl e11 Ff_firstLength (g := (mkF m 20 #[va a, va bs, va dA, va fA, vi (0 : Int32), vi f_first, vi f_firstFrequency, un, un, un, un, un, un] [(.ref a), (.int (0 : Int32))])) rfl rfl (hb hby d18_20)
    refine own_step (T' := T13) (g' := (mkF m 23 #[va a, va bs, va dA, va fA, vi (0 : Int32), vi f_first, vi f_firstFrequency, un, un, un, un, un, un] [(.int f_firstLength), (.int (0 : Int32))])) st16 ?_
    refine own_step (T' := T13) (g' := (mkF m 24 #[va a, va bs, va dA, va fA, vi (0 : Int32), vi f_first, vi f_firstFrequency, un, un, un, un, un, un] [(.int ((0 : Int32) + f_firstLength))])) (fun t_ k_ => XS.iadd X14.here hx rfl (hb hby d18_23) rfl k_) ?_
    rw [own_zadd f_firstLength]
    refine own_step (T' := T13) (g' := (mkF m 26 #[va a, va bs, va dA, va fA, vi (0 : Int32), vi f_first, vi f_firstFrequency, vi f_firstLength, un, un, un, un, un] [])) (fun t_ k_ => XS.istore X14.here hx rfl (hb hby d18_24) rfl (l' := #[va a, va bs, va dA, va fA, vi (0 : Int32), vi f_first, vi f_firstFrequency, vi f_firstLength, un, un, un, un, un]) rfl k_) ?_
    refine own_step (T' := T13) (g' := (mkF m 27 #[va a, va bs, va dA, va fA, vi (0 : Int32), vi f_first, vi f_firstFrequency, vi f_firstLength, un, un, un, un, un] [(.int (0 : Int32))])) (fun t_ k_ => XT.iconstV X14.here hx rfl (0 : Int32) (hb hby d18_26) (by decide) k_) ?_
    refine own_step (T' := T13) (g' := (mkF m 29 #[va a, va bs, va dA, va fA, vi (0 : Int32), vi f_first, vi f_firstFrequency, vi f_firstLength, vi (0 : Int32), un, un, un, un] [])) (fun t_ k_ => XS.istore X14.here hx rfl (hb hby d18_27) rfl (l' := #[va a, va bs, va dA, va fA, vi (0 : Int32), vi f_first, vi f_firstFrequency, vi f_firstLength, vi (0 : Int32), un, un, un, un]) rfl k_) ?_
    refine own_step (T' := T13) (g' := (mkF m 31 #[va a, va bs, va dA, va fA, vi (0 : Int32), vi f_first, vi f_firstFrequency, vi f_firstLength, vi (0 : Int32), un, un, un, un] [(.int (0 : Int32))])) (fun t_ k_ => XS.iload X14.here hx rfl (hb hby d18_29) rfl k_) ?_
    refine own_step (T' := T13) (g' := (mkF m 32 #[va a, va bs, va dA, va fA, vi (0 : Int32), vi f_first, vi f_firstFrequency, vi f_firstLength, vi (0 : Int32), un, un, un, un] [(.ref a), (.int (0 : Int32))])) (fun t_ k_ => XS.aloadN X14.here hx rfl (hb hby d18_31) rfl rfl k_) ?_
    obtain ⟨T17, X18, e19, st20⟩ := getF X14 hx hZ hown (host := "") (Or.inl (own_w (i := 44) rfl hw)) Via.refl e15 Ff_count (g := (mkF m 32 #[va a, va bs, va dA, va fA, vi (0 : Int32), vi f_first, vi f_firstFrequency, vi f_firstLength, vi (0 : Int32), un, un, un, un] [(.ref a), (.int (0 : Int32))])) rfl rfl (hb hby d18_32)
    refine own_step (T' := T17) (g' := (mkF m 35 #[va a, va bs, va dA, va fA, vi (0 : Int32), vi f_first, vi f_firstFrequency, vi f_firstLength, vi (0 : Int32), un, un, un, un] [(.int f_count), (.int (0 : Int32))])) st20 ?_
    have hk21 : ¬ ((0 : Int32) < f_count) := (by rw [hc]; decide)
    refine own_step (T' := T17) (g' := (mkF m 178 #[va a, va bs, va dA, va fA, vi (0 : Int32), vi f_first, vi f_firstFrequency, vi f_firstLength, vi (0 : Int32), un, un, un, un] [])) (fun t_ k_ => XS.icmpYes X18.here hx rfl (pc0 := 35) (pc' := 178) rfl (hb hby d18_35) rfl (XT.ii_ge_t hk21) (by decide) (by decide) k_) ?_
    refine own_step (T' := T17) (g' := (mkF m 180 #[va a, va bs, va dA, va fA, vi (0 : Int32), vi f_first, vi f_firstFrequency, vi f_firstLength, vi (0 : Int32), un, un, un, un] [(.int (0 : Int32))])) (fun t_ k_ => XS.iload X18.here hx rfl (hb hby d18_178) rfl k_) ?_
    exact own_retI X18 hx hlk Bd.returns (hb hby d18_180) (by rw [e19]; exact ⟨_, _, _, _, by rw [hc], N0, (Keep.refl h0 [dA, fA]), VD, VF, own_res0 hc⟩) (by decide) (by decide)
  · refine own_step (T' := s₁) (g' := (mkF m 1 #[va a, va bs, va dA, va fA, un, un, un, un, un, un, un, un, un] [(.int (0 : Int32))])) (fun t_ k_ => XT.iconstV X0.here hx rfl (0 : Int32) (hb hby d18_0) (by decide) k_) ?_
    refine own_step (T' := s₁) (g' := (mkF m 3 #[va a, va bs, va dA, va fA, vi (0 : Int32), un, un, un, un, un, un, un, un] [])) (fun t_ k_ => XS.istore X0.here hx rfl (hb hby d18_1) rfl (l' := #[va a, va bs, va dA, va fA, vi (0 : Int32), un, un, un, un, un, un, un, un]) rfl k_) ?_
    refine own_step (T' := s₁) (g' := (mkF m 4 #[va a, va bs, va dA, va fA, vi (0 : Int32), un, un, un, un, un, un, un, un] [(.ref a)])) (fun t_ k_ => XS.aloadN X0.here hx rfl (hb hby d18_3) rfl rfl k_) ?_
    obtain ⟨T22, X23, e24, st25⟩ := getF X0 hx hZ hown (host := "") (Or.inl (own_w (i := 56) rfl hw)) Via.refl e0 Ff_first (g := (mkF m 4 #[va a, va bs, va dA, va fA, vi (0 : Int32), un, un, un, un, un, un, un, un] [(.ref a)])) rfl rfl (hb hby d18_4)
    refine own_step (T' := T22) (g' := (mkF m 7 #[va a, va bs, va dA, va fA, vi (0 : Int32), un, un, un, un, un, un, un, un] [(.int f_first)])) st25 ?_
    refine own_step (T' := T22) (g' := (mkF m 9 #[va a, va bs, va dA, va fA, vi (0 : Int32), vi f_first, un, un, un, un, un, un, un] [])) (fun t_ k_ => XS.istore X23.here hx rfl (hb hby d18_7) rfl (l' := #[va a, va bs, va dA, va fA, vi (0 : Int32), vi f_first, un, un, un, un, un, un, un]) rfl k_) ?_
    refine own_step (T' := T22) (g' := (mkF m 10 #[va a, va bs, va dA, va fA, vi (0 : Int32), vi f_first, un, un, un, un, un, un, un] [(.ref a)])) (fun t_ k_ => XS.aloadN X23.here hx rfl (hb hby d18_9) rfl rfl k_) ?_
    obtain ⟨T26, X27, e28, st29⟩ := getF X23 hx hZ hown (host := "") (Or.inl (own_w (i := 58) rfl hw)) Via.refl e24 Ff_firstFrequency (g := (mkF m 10 #[va a, va bs, va dA, va fA, vi (0 : Int32), vi f_first, un, un, un, un, un, un, un] [(.ref a)])) rfl rfl (hb hby d18_10)
    refine own_step (T' := T26) (g' := (mkF m 13 #[va a, va bs, va dA, va fA, vi (0 : Int32), vi f_first, un, un, un, un, un, un, un] [(.int f_firstFrequency)])) st29 ?_
    refine own_step (T' := T26) (g' := (mkF m 15 #[va a, va bs, va dA, va fA, vi (0 : Int32), vi f_first, vi f_firstFrequency, un, un, un, un, un, un] [])) (fun t_ k_ => XS.istore X27.here hx rfl (hb hby d18_13) rfl (l' := #[va a, va bs, va dA, va fA, vi (0 : Int32), vi f_first, vi f_firstFrequency, un, un, un, un, un, un]) rfl k_) ?_
    refine own_step (T' := T26) (g' := (mkF m 16 #[va a, va bs, va dA, va fA, vi (0 : Int32), vi f_first, vi f_firstFrequency, un, un, un, un, un, un] [(.ref a)])) (fun t_ k_ => XS.aloadN X27.here hx rfl (hb hby d18_15) rfl rfl k_) ?_
    obtain ⟨T30, X31, e32, st33⟩ := getF X27 hx hZ hown (host := "") (Or.inl (own_w (i := 84) rfl hw)) Via.refl e28 Ff_offset (g := (mkF m 16 #[va a, va bs, va dA, va fA, vi (0 : Int32), vi f_first, vi f_firstFrequency, un, un, un, un, un, un] [(.ref a)])) rfl rfl (hb hby d18_16)
    refine own_step (T' := T30) (g' := (mkF m 19 #[va a, va bs, va dA, va fA, vi (0 : Int32), vi f_first, vi f_firstFrequency, un, un, un, un, un, un] [(.int (0 : Int32))])) st33 ?_
    refine own_step (T' := T30) (g' := (mkF m 20 #[va a, va bs, va dA, va fA, vi (0 : Int32), vi f_first, vi f_firstFrequency, un, un, un, un, un, un] [(.ref a), (.int (0 : Int32))])) (fun t_ k_ => XS.aloadN X31.here hx rfl (hb hby d18_19) rfl rfl k_) ?_
    obtain ⟨T34, X35, e36, st37⟩ := getF X31 hx hZ hown (host := "") (Or.inl (own_w (i := 60) rfl hw)) Via.refl e32 Ff_firstLength (g := (mkF m 20 #[va a, va bs, va dA, va fA, vi (0 : Int32), vi f_first, vi f_firstFrequency, un, un, un, un, un, un] [(.ref a), (.int (0 : Int32))])) rfl rfl (hb hby d18_20)
    refine own_step (T' := T34) (g' := (mkF m 23 #[va a, va bs, va dA, va fA, vi (0 : Int32), vi f_first, vi f_firstFrequency, un, un, un, un, un, un] [(.int f_firstLength), (.int (0 : Int32))])) st37 ?_
    refine own_step (T' := T34) (g' := (mkF m 24 #[va a, va bs, va dA, va fA, vi (0 : Int32), vi f_first, vi f_firstFrequency, un, un, un, un, un, un] [(.int ((0 : Int32) + f_firstLength))])) (fun t_ k_ => XS.iadd X35.here hx rfl (hb hby d18_23) rfl k_) ?_
    rw [own_zadd f_firstLength]
    refine own_step (T' := T34) (g' := (mkF m 26 #[va a, va bs, va dA, va fA, vi (0 : Int32), vi f_first, vi f_firstFrequency, vi f_firstLength, un, un, un, un, un] [])) (fun t_ k_ => XS.istore X35.here hx rfl (hb hby d18_24) rfl (l' := #[va a, va bs, va dA, va fA, vi (0 : Int32), vi f_first, vi f_firstFrequency, vi f_firstLength, un, un, un, un, un]) rfl k_) ?_
    refine own_step (T' := T34) (g' := (mkF m 27 #[va a, va bs, va dA, va fA, vi (0 : Int32), vi f_first, vi f_firstFrequency, vi f_firstLength, un, un, un, un, un] [(.int (0 : Int32))])) (fun t_ k_ => XT.iconstV X35.here hx rfl (0 : Int32) (hb hby d18_26) (by decide) k_) ?_
    refine own_step (T' := T34) (g' := (mkF m 29 #[va a, va bs, va dA, va fA, vi (0 : Int32), vi f_first, vi f_firstFrequency, vi f_firstLength, vi (0 : Int32), un, un, un, un] [])) (fun t_ k_ => XS.istore X35.here hx rfl (hb hby d18_27) rfl (l' := #[va a, va bs, va dA, va fA, vi (0 : Int32), vi f_first, vi f_firstFrequency, vi f_firstLength, vi (0 : Int32), un, un, un, un]) rfl k_) ?_
    refine own_step (T' := T34) (g' := (mkF m 31 #[va a, va bs, va dA, va fA, vi (0 : Int32), vi f_first, vi f_firstFrequency, vi f_firstLength, vi (0 : Int32), un, un, un, un] [(.int (0 : Int32))])) (fun t_ k_ => XS.iload X35.here hx rfl (hb hby d18_29) rfl k_) ?_
    refine own_step (T' := T34) (g' := (mkF m 32 #[va a, va bs, va dA, va fA, vi (0 : Int32), vi f_first, vi f_firstFrequency, vi f_firstLength, vi (0 : Int32), un, un, un, un] [(.ref a), (.int (0 : Int32))])) (fun t_ k_ => XS.aloadN X35.here hx rfl (hb hby d18_31) rfl rfl k_) ?_
    obtain ⟨T38, X39, e40, st41⟩ := getF X35 hx hZ hown (host := "") (Or.inl (own_w (i := 44) rfl hw)) Via.refl e36 Ff_count (g := (mkF m 32 #[va a, va bs, va dA, va fA, vi (0 : Int32), vi f_first, vi f_firstFrequency, vi f_firstLength, vi (0 : Int32), un, un, un, un] [(.ref a), (.int (0 : Int32))])) rfl rfl (hb hby d18_32)
    refine own_step (T' := T38) (g' := (mkF m 35 #[va a, va bs, va dA, va fA, vi (0 : Int32), vi f_first, vi f_firstFrequency, vi f_firstLength, vi (0 : Int32), un, un, un, un] [(.int f_count), (.int (0 : Int32))])) st41 ?_
    have hk42 : (0 : Int32) < f_count := (by rw [hc]; decide)
    refine own_step (T' := T38) (g' := (mkF m 38 #[va a, va bs, va dA, va fA, vi (0 : Int32), vi f_first, vi f_firstFrequency, vi f_firstLength, vi (0 : Int32), un, un, un, un] [])) (fun t_ k_ => XS.icmpNo X39.here hx rfl (hb hby d18_35) rfl (XT.ii_ge_f hk42) k_) ?_
    refine own_step (T' := T38) (g' := (mkF m 40 #[va a, va bs, va dA, va fA, vi (0 : Int32), vi f_first, vi f_firstFrequency, vi f_firstLength, vi (0 : Int32), un, un, un, un] [(.int (0 : Int32))])) (fun t_ k_ => XS.iload X39.here hx rfl (hb hby d18_38) rfl k_) ?_
    have hk43 : ¬ (0 < (0 : Int32)) := (by decide)
    refine own_step (T' := T38) (g' := (mkF m 144 #[va a, va bs, va dA, va fA, vi (0 : Int32), vi f_first, vi f_firstFrequency, vi f_firstLength, vi (0 : Int32), un, un, un, un] [])) (fun t_ k_ => XS.ifYes X39.here hx rfl (pc0 := 40) (pc' := 144) rfl (hb hby d18_40) rfl (XT.i0_le_t hk43) (by decide) (by decide) k_) ?_
    refine own_step (T' := T38) (g' := (mkF m 145 #[va a, va bs, va dA, va fA, vi (0 : Int32), vi f_first, vi f_firstFrequency, vi f_firstLength, vi (0 : Int32), un, un, un, un] [(.ref bs)])) (fun t_ k_ => XS.aloadN X39.here hx rfl (hb hby d18_144) rfl rfl k_) ?_
    refine own_step (T' := T38) (g' := (mkF m 147 #[va a, va bs, va dA, va fA, vi (0 : Int32), vi f_first, vi f_firstFrequency, vi f_firstLength, vi (0 : Int32), un, un, un, un] [(.int f_first), (.ref bs)])) (fun t_ k_ => XS.iload X39.here hx rfl (hb hby d18_145) rfl k_) ?_
    obtain ⟨cqc44, kqc44, qac44, qbc44, qcc44⟩ := isOf hZ e40 EB
    obtain ⟨_, _, ⟨Tc44, Lc44, kc44, nc44⟩, -, Xc44, ⟨Lcc44, hQc44, lc44, yc44, zc44⟩, stc44⟩ := X39.virtualBack hx (y := (⟨"java/util/BitSet", "get", "(I)Z"⟩ : MethodName)) (z := (⟨"java/util/BitSet", "get", "(I)Z"⟩ : MethodName)) hown (mvT hZ (own_w (i := 135) rfl hw)) (mvT hZ (own_w (i := 136) rfl hw)) (notFace_of_selects (args := #[]) (mvT hZ (own_w (i := 138) rfl hw))) (mvT hZ (own_w (i := 138) rfl hw)) (mvT hZ (own_w (i := 137) rfl hw)) (by decide) (backOf (W := 0) (rm_get l Z a0 hw [] bs f_first h0 n0 Z0 EB FB0 SA0 Da) hZ (own_w (i := 140) rfl hw) (own_w (i := 139) rfl hw) (by decide) (by decide)) qac44 qcc44 (g := (mkF m 147 #[va a, va bs, va dA, va fA, vi (0 : Int32), vi f_first, vi f_firstFrequency, vi f_firstLength, vi (0 : Int32), un, un, un, un] [(.int f_first), (.ref bs)])) rfl (by rw [hml]; rfl) (Steps.refl _) (argsL := [(.int f_first)]) (rest := []) (lenOf pd_13 rfl) rfl (by show 2 * 0 + _ ≤ _; exact Nat.le_of_eq rfl) (hb hby d18_147) (fun _ _ => ⟨rfl, e40, (by decide : 0 + 0 ≤ _), (by decide : 0 + 0 ≤ _)⟩)
    dsimp only [Pt.U, Pt.locs, Pt.cells, Pt.slots] at Xc44 lc44 yc44 zc44 stc44 hQc44
    subst lc44 yc44 zc44
    have X45 := Xc44.more (cells' := 0) (slots' := 0) (by decide) (by decide)
    obtain ⟨rfl, N46, e47⟩ := hQc44
    have N48 := Fr.app N0 N46
    obtain ⟨Lo49, X50, N51⟩ : ∃ Lo_, Stand p l e ({ frames := 2, cells := 0, slots := 0, locals := 26 } : Room) s m #[(.ref a), (.ref bs), (.ref dA), (.ref fA)] below meth c Tc44 Lo_ 0 0 ∧ Fr n0 Lo_ := ⟨_, X45, N48⟩
    refine own_step (T' := Tc44) (g' := (mkF m 150 #[va a, va bs, va dA, va fA, vi (0 : Int32), vi f_first, vi f_firstFrequency, vi f_firstLength, vi (0 : Int32), un, un, un, un] [(.int (nar .boolean (0 : Int32)))])) (fun t_ k_ => stc44.trans k_) ?_
    have hk52 : (nar .boolean (0 : Int32)) = 0 := (by decide)
    refine own_step (T' := Tc44) (g' := (mkF m 153 #[va a, va bs, va dA, va fA, vi (0 : Int32), vi f_first, vi f_firstFrequency, vi f_firstLength, vi (0 : Int32), un, un, un, un] [])) (fun t_ k_ => XS.ifNo X50.here hx rfl (hb hby d18_150) rfl (XT.i0_ne_f hk52) k_) ?_
    refine own_step (T' := Tc44) (g' := (mkF m 154 #[va a, va bs, va dA, va fA, vi (0 : Int32), vi f_first, vi f_firstFrequency, vi f_firstLength, vi (0 : Int32), un, un, un, un] [(.ref dA)])) (fun t_ k_ => XS.aloadN X50.here hx rfl (hb hby d18_153) rfl rfl k_) ?_
    refine own_step (T' := Tc44) (g' := (mkF m 156 #[va a, va bs, va dA, va fA, vi (0 : Int32), vi f_first, vi f_firstFrequency, vi f_firstLength, vi (0 : Int32), un, un, un, un] [(.int (0 : Int32)), (.ref dA)])) (fun t_ k_ => XS.iload X50.here hx rfl (hb hby d18_154) rfl k_) ?_
    refine own_step (T' := Tc44) (g' := (mkF m 158 #[va a, va bs, va dA, va fA, vi (0 : Int32), vi f_first, vi f_firstFrequency, vi f_firstLength, vi (0 : Int32), un, un, un, un] [(.int f_first), (.int (0 : Int32)), (.ref dA)])) (fun t_ k_ => XS.iload X50.here hx rfl (hb hby d18_156) rfl k_) ?_
    obtain ⟨cl53, Ar54, Lx55⟩ := id VD
    obtain ⟨T56, h57, X58, e59, W60, st61⟩ := stI X50 hx hZ e47 Ar54 (j := (0 : Int32)) (own_inb' Lx55 (n := 2) rfl (by decide) (by decide)) (g := (mkF m 158 #[va a, va bs, va dA, va fA, vi (0 : Int32), vi f_first, vi f_firstFrequency, vi f_firstLength, vi (0 : Int32), un, un, un, un] [(.int f_first), (.int (0 : Int32)), (.ref dA)])) rfl rfl (hb hby d18_158)
    have N62 := Fr.snoc X58 N51 gd
    have F63 := Nat.le_trans Z0 (Keep.of_wr W60).1
    have F64 := Ff_bytes.other W60 (Or.inl ne0)
    have F65 := Ff_count.other W60 (Or.inl ne0)
    have F66 := Ff_first.other W60 (Or.inl ne0)
    have F67 := Ff_firstFrequency.other W60 (Or.inl ne0)
    have F68 := Ff_firstLength.other W60 (Or.inl ne0)
    have F69 := Ff_offset.other W60 (Or.inl ne0)
    have F70 := VB.other W60 ne2
    have V71 : own_Arl Z h57 dA .int [(.int f_first), (.int (0 : Int32))] := own_Arl.set' (j := (0 : Int32)) VD W60 (i := 0) (by decide)
    have F72 := VF.other W60 (Ne.symm ne6)
    have F73 := EB.wr W60
    have F74 := FB0.other W60 (Or.inl ne4)
    have F75 := SA0.wr W60
    have F76 := (Keep.refl h0 [dA, fA]).wr W60 (Or.inl (List.mem_of_getElem? (i := 0) rfl))
    obtain ⟨Lo77, X78, N79⟩ : ∃ Lo_, Stand p l e ({ frames := 2, cells := 0, slots := 0, locals := 26 } : Room) s m #[(.ref a), (.ref bs), (.ref dA), (.ref fA)] below meth c T56 Lo_ 0 0 ∧ Fr n0 Lo_ := ⟨_, X58, N62⟩
    refine own_step (T' := T56) (g' := (mkF m 159 #[va a, va bs, va dA, va fA, vi (0 : Int32), vi f_first, vi f_firstFrequency, vi f_firstLength, vi (0 : Int32), un, un, un, un] [])) st61 ?_
    refine own_step (T' := T56) (g' := (mkF m 160 #[va a, va bs, va dA, va fA, vi (0 : Int32), vi f_first, vi f_firstFrequency, vi f_firstLength, vi (0 : Int32), un, un, un, un] [(.ref fA)])) (fun t_ k_ => XS.aloadN X78.here hx rfl (hb hby d18_159) rfl rfl k_) ?_
    refine own_step (T' := T56) (g' := (mkF m 163 #[va a, va bs, va dA, va fA, vi (0 : Int32), vi f_first, vi f_firstFrequency, vi f_firstLength, vi (0 : Int32), un, un, un, un] [])) (fun t_ k_ => XS.ifnullNo X78.here hx rfl (hb hby d18_160) rfl k_) ?_
    refine own_step (T' := T56) (g' := (mkF m 164 #[va a, va bs, va dA, va fA, vi (0 : Int32), vi f_first, vi f_firstFrequency, vi f_firstLength, vi (0 : Int32), un, un, un, un] [(.ref fA)])) (fun t_ k_ => XS.aloadN X78.here hx rfl (hb hby d18_163) rfl rfl k_) ?_
    refine own_step (T' := T56) (g' := (mkF m 166 #[va a, va bs, va dA, va fA, vi (0 : Int32), vi f_first, vi f_firstFrequency, vi f_firstLength, vi (0 : Int32), un, un, un, un] [(.int (0 : Int32)), (.ref fA)])) (fun t_ k_ => XS.iload X78.here hx rfl (hb hby d18_164) rfl k_) ?_
    refine own_step (T' := T56) (g' := (mkF m 168 #[va a, va bs, va dA, va fA, vi (0 : Int32), vi f_first, vi f_firstFrequency, vi f_firstLength, vi (0 : Int32), un, un, un, un] [(.int f_firstFrequency), (.int (0 : Int32)), (.ref fA)])) (fun t_ k_ => XS.iload X78.here hx rfl (hb hby d18_166) rfl k_) ?_
    obtain ⟨cl80, Ar81, Lx82⟩ := id F72
    obtain ⟨T83, h84, X85, e86, W87, st88⟩ := stI X78 hx hZ e59 Ar81 (j := (0 : Int32)) (own_inb' Lx82 (n := 2) rfl (by decide) (by decide)) (g := (mkF m 168 #[va a, va bs, va dA, va fA, vi (0 : Int32), vi f_first, vi f_firstFrequency, vi f_firstLength, vi (0 : Int32), un, un, un, un] [(.int f_firstFrequency), (.int (0 : Int32)), (.ref fA)])) rfl rfl (hb hby d18_168)
    have N89 := Fr.snoc X85 N79 gf
    have F90 := Nat.le_trans F63 (Keep.of_wr W87).1
    have F91 := F64.other W87 (Or.inl ne1)
    have F92 := F65.other W87 (Or.inl ne1)
    have F93 := F66.other W87 (Or.inl ne1)
    have F94 := F67.other W87 (Or.inl ne1)
    have F95 := F68.other W87 (Or.inl ne1)
    have F96 := F69.other W87 (Or.inl ne1)
    have F97 := F70.other W87 ne3
    have F98 := V71.other W87 ne6
    have V99 : own_Arl Z h84 fA .int [(.int f_firstFrequency), (.int (0 : Int32))] := own_Arl.set' (j := (0 : Int32)) F72 W87 (i := 0) (by decide)
    have F100 := F73.wr W87
    have F101 := F74.other W87 (Or.inl ne5)
    have F102 := F75.wr W87
    have F103 := F76.wr W87 (Or.inl (List.mem_of_getElem? (i := 1) rfl))
    obtain ⟨Lo104, X105, N106⟩ : ∃ Lo_, Stand p l e ({ frames := 2, cells := 0, slots := 0, locals := 26 } : Room) s m #[(.ref a), (.ref bs), (.ref dA), (.ref fA)] below meth c T83 Lo_ 0 0 ∧ Fr n0 Lo_ := ⟨_, X85, N89⟩
    refine own_step (T' := T83) (g' := (mkF m 169 #[va a, va bs, va dA, va fA, vi (0 : Int32), vi f_first, vi f_firstFrequency, vi f_firstLength, vi (0 : Int32), un, un, un, un] [])) st88 ?_
    refine own_step (T' := T83) (g' := (mkF m 172 #[va a, va bs, va dA, va fA, vi ((0 : Int32) + (1 : Int32)), vi f_first, vi f_firstFrequency, vi f_firstLength, vi (0 : Int32), un, un, un, un] [])) (fun t_ k_ => XT.iincV X105.here hx rfl (1 : Int32) (hb hby d18_169) (by decide) rfl (l' := #[va a, va bs, va dA, va fA, vi ((0 : Int32) + (1 : Int32)), vi f_first, vi f_firstFrequency, vi f_firstLength, vi (0 : Int32), un, un, un, un]) rfl k_) ?_
    rw [(by decide : ((0 : Int32) + (1 : Int32)) = (1 : Int32))]
    refine own_step (T' := T83) (g' := (mkF m 175 #[va a, va bs, va dA, va fA, vi (1 : Int32), vi f_first, vi f_firstFrequency, vi f_firstLength, vi ((0 : Int32) + (1 : Int32)), un, un, un, un] [])) (fun t_ k_ => XT.iincV X105.here hx rfl (1 : Int32) (hb hby d18_172) (by decide) rfl (l' := #[va a, va bs, va dA, va fA, vi (1 : Int32), vi f_first, vi f_firstFrequency, vi f_firstLength, vi ((0 : Int32) + (1 : Int32)), un, un, un, un]) rfl k_) ?_
    rw [(by decide : ((0 : Int32) + (1 : Int32)) = (1 : Int32))]
    refine own_step (T' := T83) (g' := (mkF m 29 #[va a, va bs, va dA, va fA, vi (1 : Int32), vi f_first, vi f_firstFrequency, vi f_firstLength, vi (1 : Int32), un, un, un, un] [])) (fun t_ k_ => XS.goto X105.here hx rfl (pc0 := 175) (pc' := 29) rfl (hb hby d18_175) (by decide) (by decide) k_) ?_
    refine own_step (T' := T83) (g' := (mkF m 31 #[va a, va bs, va dA, va fA, vi (1 : Int32), vi f_first, vi f_firstFrequency, vi f_firstLength, vi (1 : Int32), un, un, un, un] [(.int (1 : Int32))])) (fun t_ k_ => XS.iload X105.here hx rfl (hb hby d18_29) rfl k_) ?_
    refine own_step (T' := T83) (g' := (mkF m 32 #[va a, va bs, va dA, va fA, vi (1 : Int32), vi f_first, vi f_firstFrequency, vi f_firstLength, vi (1 : Int32), un, un, un, un] [(.ref a), (.int (1 : Int32))])) (fun t_ k_ => XS.aloadN X105.here hx rfl (hb hby d18_31) rfl rfl k_) ?_
    obtain ⟨T107, X108, e109, st110⟩ := getF X105 hx hZ hown (host := "") (Or.inl (own_w (i := 44) rfl hw)) Via.refl e86 F92 (g := (mkF m 32 #[va a, va bs, va dA, va fA, vi (1 : Int32), vi f_first, vi f_firstFrequency, vi f_firstLength, vi (1 : Int32), un, un, un, un] [(.ref a), (.int (1 : Int32))])) rfl rfl (hb hby d18_32)
    refine own_step (T' := T107) (g' := (mkF m 35 #[va a, va bs, va dA, va fA, vi (1 : Int32), vi f_first, vi f_firstFrequency, vi f_firstLength, vi (1 : Int32), un, un, un, un] [(.int f_count), (.int (1 : Int32))])) st110 ?_
    have hk111 : ¬ ((1 : Int32) < f_count) := (by rw [hc]; decide)
    refine own_step (T' := T107) (g' := (mkF m 178 #[va a, va bs, va dA, va fA, vi (1 : Int32), vi f_first, vi f_firstFrequency, vi f_firstLength, vi (1 : Int32), un, un, un, un] [])) (fun t_ k_ => XS.icmpYes X108.here hx rfl (pc0 := 35) (pc' := 178) rfl (hb hby d18_35) rfl (XT.ii_ge_t hk111) (by decide) (by decide) k_) ?_
    refine own_step (T' := T107) (g' := (mkF m 180 #[va a, va bs, va dA, va fA, vi (1 : Int32), vi f_first, vi f_firstFrequency, vi f_firstLength, vi (1 : Int32), un, un, un, un] [(.int (1 : Int32))])) (fun t_ k_ => XS.iload X108.here hx rfl (hb hby d18_178) rfl k_) ?_
    exact own_retI X108 hx hlk Bd.returns (hb hby d18_180) (by rw [e109]; exact ⟨_, _, _, _, by rw [hc], N106, F103, F98, V99, own_res1 hc⟩) (by decide) (by decide)
  · refine own_step (T' := s₁) (g' := (mkF m 1 #[va a, va bs, va dA, va fA, un, un, un, un, un, un, un, un, un] [(.int (0 : Int32))])) (fun t_ k_ => XT.iconstV X0.here hx rfl (0 : Int32) (hb hby d18_0) (by decide) k_) ?_
    refine own_step (T' := s₁) (g' := (mkF m 3 #[va a, va bs, va dA, va fA, vi (0 : Int32), un, un, un, un, un, un, un, un] [])) (fun t_ k_ => XS.istore X0.here hx rfl (hb hby d18_1) rfl (l' := #[va a, va bs, va dA, va fA, vi (0 : Int32), un, un, un, un, un, un, un, un]) rfl k_) ?_
    refine own_step (T' := s₁) (g' := (mkF m 4 #[va a, va bs, va dA, va fA, vi (0 : Int32), un, un, un, un, un, un, un, un] [(.ref a)])) (fun t_ k_ => XS.aloadN X0.here hx rfl (hb hby d18_3) rfl rfl k_) ?_
    obtain ⟨T112, X113, e114, st115⟩ := getF X0 hx hZ hown (host := "") (Or.inl (own_w (i := 56) rfl hw)) Via.refl e0 Ff_first (g := (mkF m 4 #[va a, va bs, va dA, va fA, vi (0 : Int32), un, un, un, un, un, un, un, un] [(.ref a)])) rfl rfl (hb hby d18_4)
    refine own_step (T' := T112) (g' := (mkF m 7 #[va a, va bs, va dA, va fA, vi (0 : Int32), un, un, un, un, un, un, un, un] [(.int f_first)])) st115 ?_
    refine own_step (T' := T112) (g' := (mkF m 9 #[va a, va bs, va dA, va fA, vi (0 : Int32), vi f_first, un, un, un, un, un, un, un] [])) (fun t_ k_ => XS.istore X113.here hx rfl (hb hby d18_7) rfl (l' := #[va a, va bs, va dA, va fA, vi (0 : Int32), vi f_first, un, un, un, un, un, un, un]) rfl k_) ?_
    refine own_step (T' := T112) (g' := (mkF m 10 #[va a, va bs, va dA, va fA, vi (0 : Int32), vi f_first, un, un, un, un, un, un, un] [(.ref a)])) (fun t_ k_ => XS.aloadN X113.here hx rfl (hb hby d18_9) rfl rfl k_) ?_
    obtain ⟨T116, X117, e118, st119⟩ := getF X113 hx hZ hown (host := "") (Or.inl (own_w (i := 58) rfl hw)) Via.refl e114 Ff_firstFrequency (g := (mkF m 10 #[va a, va bs, va dA, va fA, vi (0 : Int32), vi f_first, un, un, un, un, un, un, un] [(.ref a)])) rfl rfl (hb hby d18_10)
    refine own_step (T' := T116) (g' := (mkF m 13 #[va a, va bs, va dA, va fA, vi (0 : Int32), vi f_first, un, un, un, un, un, un, un] [(.int f_firstFrequency)])) st119 ?_
    refine own_step (T' := T116) (g' := (mkF m 15 #[va a, va bs, va dA, va fA, vi (0 : Int32), vi f_first, vi f_firstFrequency, un, un, un, un, un, un] [])) (fun t_ k_ => XS.istore X117.here hx rfl (hb hby d18_13) rfl (l' := #[va a, va bs, va dA, va fA, vi (0 : Int32), vi f_first, vi f_firstFrequency, un, un, un, un, un, un]) rfl k_) ?_
    refine own_step (T' := T116) (g' := (mkF m 16 #[va a, va bs, va dA, va fA, vi (0 : Int32), vi f_first, vi f_firstFrequency, un, un, un, un, un, un] [(.ref a)])) (fun t_ k_ => XS.aloadN X117.here hx rfl (hb hby d18_15) rfl rfl k_) ?_
    obtain ⟨T120, X121, e122, st123⟩ := getF X117 hx hZ hown (host := "") (Or.inl (own_w (i := 84) rfl hw)) Via.refl e118 Ff_offset (g := (mkF m 16 #[va a, va bs, va dA, va fA, vi (0 : Int32), vi f_first, vi f_firstFrequency, un, un, un, un, un, un] [(.ref a)])) rfl rfl (hb hby d18_16)
    refine own_step (T' := T120) (g' := (mkF m 19 #[va a, va bs, va dA, va fA, vi (0 : Int32), vi f_first, vi f_firstFrequency, un, un, un, un, un, un] [(.int (0 : Int32))])) st123 ?_
    refine own_step (T' := T120) (g' := (mkF m 20 #[va a, va bs, va dA, va fA, vi (0 : Int32), vi f_first, vi f_firstFrequency, un, un, un, un, un, un] [(.ref a), (.int (0 : Int32))])) (fun t_ k_ => XS.aloadN X121.here hx rfl (hb hby d18_19) rfl rfl k_) ?_
    obtain ⟨T124, X125, e126, st127⟩ := getF X121 hx hZ hown (host := "") (Or.inl (own_w (i := 60) rfl hw)) Via.refl e122 Ff_firstLength (g := (mkF m 20 #[va a, va bs, va dA, va fA, vi (0 : Int32), vi f_first, vi f_firstFrequency, un, un, un, un, un, un] [(.ref a), (.int (0 : Int32))])) rfl rfl (hb hby d18_20)
    refine own_step (T' := T124) (g' := (mkF m 23 #[va a, va bs, va dA, va fA, vi (0 : Int32), vi f_first, vi f_firstFrequency, un, un, un, un, un, un] [(.int f_firstLength), (.int (0 : Int32))])) st127 ?_
    refine own_step (T' := T124) (g' := (mkF m 24 #[va a, va bs, va dA, va fA, vi (0 : Int32), vi f_first, vi f_firstFrequency, un, un, un, un, un, un] [(.int ((0 : Int32) + f_firstLength))])) (fun t_ k_ => XS.iadd X125.here hx rfl (hb hby d18_23) rfl k_) ?_
    rw [own_zadd f_firstLength]
    refine own_step (T' := T124) (g' := (mkF m 26 #[va a, va bs, va dA, va fA, vi (0 : Int32), vi f_first, vi f_firstFrequency, vi f_firstLength, un, un, un, un, un] [])) (fun t_ k_ => XS.istore X125.here hx rfl (hb hby d18_24) rfl (l' := #[va a, va bs, va dA, va fA, vi (0 : Int32), vi f_first, vi f_firstFrequency, vi f_firstLength, un, un, un, un, un]) rfl k_) ?_
    refine own_step (T' := T124) (g' := (mkF m 27 #[va a, va bs, va dA, va fA, vi (0 : Int32), vi f_first, vi f_firstFrequency, vi f_firstLength, un, un, un, un, un] [(.int (0 : Int32))])) (fun t_ k_ => XT.iconstV X125.here hx rfl (0 : Int32) (hb hby d18_26) (by decide) k_) ?_
    refine own_step (T' := T124) (g' := (mkF m 29 #[va a, va bs, va dA, va fA, vi (0 : Int32), vi f_first, vi f_firstFrequency, vi f_firstLength, vi (0 : Int32), un, un, un, un] [])) (fun t_ k_ => XS.istore X125.here hx rfl (hb hby d18_27) rfl (l' := #[va a, va bs, va dA, va fA, vi (0 : Int32), vi f_first, vi f_firstFrequency, vi f_firstLength, vi (0 : Int32), un, un, un, un]) rfl k_) ?_
    refine own_step (T' := T124) (g' := (mkF m 31 #[va a, va bs, va dA, va fA, vi (0 : Int32), vi f_first, vi f_firstFrequency, vi f_firstLength, vi (0 : Int32), un, un, un, un] [(.int (0 : Int32))])) (fun t_ k_ => XS.iload X125.here hx rfl (hb hby d18_29) rfl k_) ?_
    refine own_step (T' := T124) (g' := (mkF m 32 #[va a, va bs, va dA, va fA, vi (0 : Int32), vi f_first, vi f_firstFrequency, vi f_firstLength, vi (0 : Int32), un, un, un, un] [(.ref a), (.int (0 : Int32))])) (fun t_ k_ => XS.aloadN X125.here hx rfl (hb hby d18_31) rfl rfl k_) ?_
    obtain ⟨T128, X129, e130, st131⟩ := getF X125 hx hZ hown (host := "") (Or.inl (own_w (i := 44) rfl hw)) Via.refl e126 Ff_count (g := (mkF m 32 #[va a, va bs, va dA, va fA, vi (0 : Int32), vi f_first, vi f_firstFrequency, vi f_firstLength, vi (0 : Int32), un, un, un, un] [(.ref a), (.int (0 : Int32))])) rfl rfl (hb hby d18_32)
    refine own_step (T' := T128) (g' := (mkF m 35 #[va a, va bs, va dA, va fA, vi (0 : Int32), vi f_first, vi f_firstFrequency, vi f_firstLength, vi (0 : Int32), un, un, un, un] [(.int f_count), (.int (0 : Int32))])) st131 ?_
    have hk132 : (0 : Int32) < f_count := (by rw [hc]; decide)
    refine own_step (T' := T128) (g' := (mkF m 38 #[va a, va bs, va dA, va fA, vi (0 : Int32), vi f_first, vi f_firstFrequency, vi f_firstLength, vi (0 : Int32), un, un, un, un] [])) (fun t_ k_ => XS.icmpNo X129.here hx rfl (hb hby d18_35) rfl (XT.ii_ge_f hk132) k_) ?_
    refine own_step (T' := T128) (g' := (mkF m 40 #[va a, va bs, va dA, va fA, vi (0 : Int32), vi f_first, vi f_firstFrequency, vi f_firstLength, vi (0 : Int32), un, un, un, un] [(.int (0 : Int32))])) (fun t_ k_ => XS.iload X129.here hx rfl (hb hby d18_38) rfl k_) ?_
    have hk133 : ¬ (0 < (0 : Int32)) := (by decide)
    refine own_step (T' := T128) (g' := (mkF m 144 #[va a, va bs, va dA, va fA, vi (0 : Int32), vi f_first, vi f_firstFrequency, vi f_firstLength, vi (0 : Int32), un, un, un, un] [])) (fun t_ k_ => XS.ifYes X129.here hx rfl (pc0 := 40) (pc' := 144) rfl (hb hby d18_40) rfl (XT.i0_le_t hk133) (by decide) (by decide) k_) ?_
    refine own_step (T' := T128) (g' := (mkF m 145 #[va a, va bs, va dA, va fA, vi (0 : Int32), vi f_first, vi f_firstFrequency, vi f_firstLength, vi (0 : Int32), un, un, un, un] [(.ref bs)])) (fun t_ k_ => XS.aloadN X129.here hx rfl (hb hby d18_144) rfl rfl k_) ?_
    refine own_step (T' := T128) (g' := (mkF m 147 #[va a, va bs, va dA, va fA, vi (0 : Int32), vi f_first, vi f_firstFrequency, vi f_firstLength, vi (0 : Int32), un, un, un, un] [(.int f_first), (.ref bs)])) (fun t_ k_ => XS.iload X129.here hx rfl (hb hby d18_145) rfl k_) ?_
    obtain ⟨cqc134, kqc134, qac134, qbc134, qcc134⟩ := isOf hZ e130 EB
    obtain ⟨_, _, ⟨Tc134, Lc134, kc134, nc134⟩, -, Xc134, ⟨Lcc134, hQc134, lc134, yc134, zc134⟩, stc134⟩ := X129.virtualBack hx (y := (⟨"java/util/BitSet", "get", "(I)Z"⟩ : MethodName)) (z := (⟨"java/util/BitSet", "get", "(I)Z"⟩ : MethodName)) hown (mvT hZ (own_w (i := 135) rfl hw)) (mvT hZ (own_w (i := 136) rfl hw)) (notFace_of_selects (args := #[]) (mvT hZ (own_w (i := 138) rfl hw))) (mvT hZ (own_w (i := 138) rfl hw)) (mvT hZ (own_w (i := 137) rfl hw)) (by decide) (backOf (W := 0) (rm_get l Z a0 hw [] bs f_first h0 n0 Z0 EB FB0 SA0 Da) hZ (own_w (i := 140) rfl hw) (own_w (i := 139) rfl hw) (by decide) (by decide)) qac134 qcc134 (g := (mkF m 147 #[va a, va bs, va dA, va fA, vi (0 : Int32), vi f_first, vi f_firstFrequency, vi f_firstLength, vi (0 : Int32), un, un, un, un] [(.int f_first), (.ref bs)])) rfl (by rw [hml]; rfl) (Steps.refl _) (argsL := [(.int f_first)]) (rest := []) (lenOf pd_13 rfl) rfl (by show 2 * 0 + _ ≤ _; exact Nat.le_of_eq rfl) (hb hby d18_147) (fun _ _ => ⟨rfl, e130, (by decide : 0 + 0 ≤ _), (by decide : 0 + 0 ≤ _)⟩)
    dsimp only [Pt.U, Pt.locs, Pt.cells, Pt.slots] at Xc134 lc134 yc134 zc134 stc134 hQc134
    subst lc134 yc134 zc134
    have X135 := Xc134.more (cells' := 0) (slots' := 0) (by decide) (by decide)
    obtain ⟨rfl, N136, e137⟩ := hQc134
    have N138 := Fr.app N0 N136
    obtain ⟨Lo139, X140, N141⟩ : ∃ Lo_, Stand p l e ({ frames := 2, cells := 0, slots := 0, locals := 26 } : Room) s m #[(.ref a), (.ref bs), (.ref dA), (.ref fA)] below meth c Tc134 Lo_ 0 0 ∧ Fr n0 Lo_ := ⟨_, X135, N138⟩
    refine own_step (T' := Tc134) (g' := (mkF m 150 #[va a, va bs, va dA, va fA, vi (0 : Int32), vi f_first, vi f_firstFrequency, vi f_firstLength, vi (0 : Int32), un, un, un, un] [(.int (nar .boolean (0 : Int32)))])) (fun t_ k_ => stc134.trans k_) ?_
    have hk142 : (nar .boolean (0 : Int32)) = 0 := (by decide)
    refine own_step (T' := Tc134) (g' := (mkF m 153 #[va a, va bs, va dA, va fA, vi (0 : Int32), vi f_first, vi f_firstFrequency, vi f_firstLength, vi (0 : Int32), un, un, un, un] [])) (fun t_ k_ => XS.ifNo X140.here hx rfl (hb hby d18_150) rfl (XT.i0_ne_f hk142) k_) ?_
    refine own_step (T' := Tc134) (g' := (mkF m 154 #[va a, va bs, va dA, va fA, vi (0 : Int32), vi f_first, vi f_firstFrequency, vi f_firstLength, vi (0 : Int32), un, un, un, un] [(.ref dA)])) (fun t_ k_ => XS.aloadN X140.here hx rfl (hb hby d18_153) rfl rfl k_) ?_
    refine own_step (T' := Tc134) (g' := (mkF m 156 #[va a, va bs, va dA, va fA, vi (0 : Int32), vi f_first, vi f_firstFrequency, vi f_firstLength, vi (0 : Int32), un, un, un, un] [(.int (0 : Int32)), (.ref dA)])) (fun t_ k_ => XS.iload X140.here hx rfl (hb hby d18_154) rfl k_) ?_
    refine own_step (T' := Tc134) (g' := (mkF m 158 #[va a, va bs, va dA, va fA, vi (0 : Int32), vi f_first, vi f_firstFrequency, vi f_firstLength, vi (0 : Int32), un, un, un, un] [(.int f_first), (.int (0 : Int32)), (.ref dA)])) (fun t_ k_ => XS.iload X140.here hx rfl (hb hby d18_156) rfl k_) ?_
    obtain ⟨cl143, Ar144, Lx145⟩ := id VD
    obtain ⟨T146, h147, X148, e149, W150, st151⟩ := stI X140 hx hZ e137 Ar144 (j := (0 : Int32)) (own_inb' Lx145 (n := 2) rfl (by decide) (by decide)) (g := (mkF m 158 #[va a, va bs, va dA, va fA, vi (0 : Int32), vi f_first, vi f_firstFrequency, vi f_firstLength, vi (0 : Int32), un, un, un, un] [(.int f_first), (.int (0 : Int32)), (.ref dA)])) rfl rfl (hb hby d18_158)
    have N152 := Fr.snoc X148 N141 gd
    have F153 := Nat.le_trans Z0 (Keep.of_wr W150).1
    have F154 := Ff_bytes.other W150 (Or.inl ne0)
    have F155 := Ff_count.other W150 (Or.inl ne0)
    have F156 := Ff_first.other W150 (Or.inl ne0)
    have F157 := Ff_firstFrequency.other W150 (Or.inl ne0)
    have F158 := Ff_firstLength.other W150 (Or.inl ne0)
    have F159 := Ff_offset.other W150 (Or.inl ne0)
    have F160 := VB.other W150 ne2
    have V161 : own_Arl Z h147 dA .int [(.int f_first), (.int (0 : Int32))] := own_Arl.set' (j := (0 : Int32)) VD W150 (i := 0) (by decide)
    have F162 := VF.other W150 (Ne.symm ne6)
    have F163 := EB.wr W150
    have F164 := FB0.other W150 (Or.inl ne4)
    have F165 := SA0.wr W150
    have F166 := (Keep.refl h0 [dA, fA]).wr W150 (Or.inl (List.mem_of_getElem? (i := 0) rfl))
    obtain ⟨Lo167, X168, N169⟩ : ∃ Lo_, Stand p l e ({ frames := 2, cells := 0, slots := 0, locals := 26 } : Room) s m #[(.ref a), (.ref bs), (.ref dA), (.ref fA)] below meth c T146 Lo_ 0 0 ∧ Fr n0 Lo_ := ⟨_, X148, N152⟩
    refine own_step (T' := T146) (g' := (mkF m 159 #[va a, va bs, va dA, va fA, vi (0 : Int32), vi f_first, vi f_firstFrequency, vi f_firstLength, vi (0 : Int32), un, un, un, un] [])) st151 ?_
    refine own_step (T' := T146) (g' := (mkF m 160 #[va a, va bs, va dA, va fA, vi (0 : Int32), vi f_first, vi f_firstFrequency, vi f_firstLength, vi (0 : Int32), un, un, un, un] [(.ref fA)])) (fun t_ k_ => XS.aloadN X168.here hx rfl (hb hby d18_159) rfl rfl k_) ?_
    refine own_step (T' := T146) (g' := (mkF m 163 #[va a, va bs, va dA, va fA, vi (0 : Int32), vi f_first, vi f_firstFrequency, vi f_firstLength, vi (0 : Int32), un, un, un, un] [])) (fun t_ k_ => XS.ifnullNo X168.here hx rfl (hb hby d18_160) rfl k_) ?_
    refine own_step (T' := T146) (g' := (mkF m 164 #[va a, va bs, va dA, va fA, vi (0 : Int32), vi f_first, vi f_firstFrequency, vi f_firstLength, vi (0 : Int32), un, un, un, un] [(.ref fA)])) (fun t_ k_ => XS.aloadN X168.here hx rfl (hb hby d18_163) rfl rfl k_) ?_
    refine own_step (T' := T146) (g' := (mkF m 166 #[va a, va bs, va dA, va fA, vi (0 : Int32), vi f_first, vi f_firstFrequency, vi f_firstLength, vi (0 : Int32), un, un, un, un] [(.int (0 : Int32)), (.ref fA)])) (fun t_ k_ => XS.iload X168.here hx rfl (hb hby d18_164) rfl k_) ?_
    refine own_step (T' := T146) (g' := (mkF m 168 #[va a, va bs, va dA, va fA, vi (0 : Int32), vi f_first, vi f_firstFrequency, vi f_firstLength, vi (0 : Int32), un, un, un, un] [(.int f_firstFrequency), (.int (0 : Int32)), (.ref fA)])) (fun t_ k_ => XS.iload X168.here hx rfl (hb hby d18_166) rfl k_) ?_
    obtain ⟨cl170, Ar171, Lx172⟩ := id F162
    obtain ⟨T173, h174, X175, e176, W177, st178⟩ := stI X168 hx hZ e149 Ar171 (j := (0 : Int32)) (own_inb' Lx172 (n := 2) rfl (by decide) (by decide)) (g := (mkF m 168 #[va a, va bs, va dA, va fA, vi (0 : Int32), vi f_first, vi f_firstFrequency, vi f_firstLength, vi (0 : Int32), un, un, un, un] [(.int f_firstFrequency), (.int (0 : Int32)), (.ref fA)])) rfl rfl (hb hby d18_168)
    have N179 := Fr.snoc X175 N169 gf
    have F180 := Nat.le_trans F153 (Keep.of_wr W177).1
    have F181 := F154.other W177 (Or.inl ne1)
    have F182 := F155.other W177 (Or.inl ne1)
    have F183 := F156.other W177 (Or.inl ne1)
    have F184 := F157.other W177 (Or.inl ne1)
    have F185 := F158.other W177 (Or.inl ne1)
    have F186 := F159.other W177 (Or.inl ne1)
    have F187 := F160.other W177 ne3
    have F188 := V161.other W177 ne6
    have V189 : own_Arl Z h174 fA .int [(.int f_firstFrequency), (.int (0 : Int32))] := own_Arl.set' (j := (0 : Int32)) F162 W177 (i := 0) (by decide)
    have F190 := F163.wr W177
    have F191 := F164.other W177 (Or.inl ne5)
    have F192 := F165.wr W177
    have F193 := F166.wr W177 (Or.inl (List.mem_of_getElem? (i := 1) rfl))
    obtain ⟨Lo194, X195, N196⟩ : ∃ Lo_, Stand p l e ({ frames := 2, cells := 0, slots := 0, locals := 26 } : Room) s m #[(.ref a), (.ref bs), (.ref dA), (.ref fA)] below meth c T173 Lo_ 0 0 ∧ Fr n0 Lo_ := ⟨_, X175, N179⟩
    refine own_step (T' := T173) (g' := (mkF m 169 #[va a, va bs, va dA, va fA, vi (0 : Int32), vi f_first, vi f_firstFrequency, vi f_firstLength, vi (0 : Int32), un, un, un, un] [])) st178 ?_
    refine own_step (T' := T173) (g' := (mkF m 172 #[va a, va bs, va dA, va fA, vi ((0 : Int32) + (1 : Int32)), vi f_first, vi f_firstFrequency, vi f_firstLength, vi (0 : Int32), un, un, un, un] [])) (fun t_ k_ => XT.iincV X195.here hx rfl (1 : Int32) (hb hby d18_169) (by decide) rfl (l' := #[va a, va bs, va dA, va fA, vi ((0 : Int32) + (1 : Int32)), vi f_first, vi f_firstFrequency, vi f_firstLength, vi (0 : Int32), un, un, un, un]) rfl k_) ?_
    rw [(by decide : ((0 : Int32) + (1 : Int32)) = (1 : Int32))]
    refine own_step (T' := T173) (g' := (mkF m 175 #[va a, va bs, va dA, va fA, vi (1 : Int32), vi f_first, vi f_firstFrequency, vi f_firstLength, vi ((0 : Int32) + (1 : Int32)), un, un, un, un] [])) (fun t_ k_ => XT.iincV X195.here hx rfl (1 : Int32) (hb hby d18_172) (by decide) rfl (l' := #[va a, va bs, va dA, va fA, vi (1 : Int32), vi f_first, vi f_firstFrequency, vi f_firstLength, vi ((0 : Int32) + (1 : Int32)), un, un, un, un]) rfl k_) ?_
    rw [(by decide : ((0 : Int32) + (1 : Int32)) = (1 : Int32))]
    refine own_step (T' := T173) (g' := (mkF m 29 #[va a, va bs, va dA, va fA, vi (1 : Int32), vi f_first, vi f_firstFrequency, vi f_firstLength, vi (1 : Int32), un, un, un, un] [])) (fun t_ k_ => XS.goto X195.here hx rfl (pc0 := 175) (pc' := 29) rfl (hb hby d18_175) (by decide) (by decide) k_) ?_
    refine own_step (T' := T173) (g' := (mkF m 31 #[va a, va bs, va dA, va fA, vi (1 : Int32), vi f_first, vi f_firstFrequency, vi f_firstLength, vi (1 : Int32), un, un, un, un] [(.int (1 : Int32))])) (fun t_ k_ => XS.iload X195.here hx rfl (hb hby d18_29) rfl k_) ?_
    refine own_step (T' := T173) (g' := (mkF m 32 #[va a, va bs, va dA, va fA, vi (1 : Int32), vi f_first, vi f_firstFrequency, vi f_firstLength, vi (1 : Int32), un, un, un, un] [(.ref a), (.int (1 : Int32))])) (fun t_ k_ => XS.aloadN X195.here hx rfl (hb hby d18_31) rfl rfl k_) ?_
    obtain ⟨T197, X198, e199, st200⟩ := getF X195 hx hZ hown (host := "") (Or.inl (own_w (i := 44) rfl hw)) Via.refl e176 F182 (g := (mkF m 32 #[va a, va bs, va dA, va fA, vi (1 : Int32), vi f_first, vi f_firstFrequency, vi f_firstLength, vi (1 : Int32), un, un, un, un] [(.ref a), (.int (1 : Int32))])) rfl rfl (hb hby d18_32)
    refine own_step (T' := T197) (g' := (mkF m 35 #[va a, va bs, va dA, va fA, vi (1 : Int32), vi f_first, vi f_firstFrequency, vi f_firstLength, vi (1 : Int32), un, un, un, un] [(.int f_count), (.int (1 : Int32))])) st200 ?_
    have hk201 : (1 : Int32) < f_count := (by rw [hc]; decide)
    refine own_step (T' := T197) (g' := (mkF m 38 #[va a, va bs, va dA, va fA, vi (1 : Int32), vi f_first, vi f_firstFrequency, vi f_firstLength, vi (1 : Int32), un, un, un, un] [])) (fun t_ k_ => XS.icmpNo X198.here hx rfl (hb hby d18_35) rfl (XT.ii_ge_f hk201) k_) ?_
    refine own_step (T' := T197) (g' := (mkF m 40 #[va a, va bs, va dA, va fA, vi (1 : Int32), vi f_first, vi f_firstFrequency, vi f_firstLength, vi (1 : Int32), un, un, un, un] [(.int (1 : Int32))])) (fun t_ k_ => XS.iload X198.here hx rfl (hb hby d18_38) rfl k_) ?_
    have hk202 : 0 < (1 : Int32) := (by decide)
    refine own_step (T' := T197) (g' := (mkF m 43 #[va a, va bs, va dA, va fA, vi (1 : Int32), vi f_first, vi f_firstFrequency, vi f_firstLength, vi (1 : Int32), un, un, un, un] [])) (fun t_ k_ => XS.ifNo X198.here hx rfl (hb hby d18_40) rfl (XT.i0_le_f hk202) k_) ?_
    refine own_step (T' := T197) (g' := (mkF m 44 #[va a, va bs, va dA, va fA, vi (1 : Int32), vi f_first, vi f_firstFrequency, vi f_firstLength, vi (1 : Int32), un, un, un, un] [(.long (0 : Int64))])) (fun t_ k_ => XT.lconstV X198.here hx rfl (0 : Int64) (hb hby d18_43) (by decide) k_) ?_
    refine own_step (T' := T197) (g' := (mkF m 46 #[va a, va bs, va dA, va fA, vi (1 : Int32), vi f_first, vi f_firstFrequency, vi f_firstLength, vi (1 : Int32), vj (0 : Int64), .second, un, un] [])) (fun t_ k_ => XT.lstore X198.here hx rfl (hb hby d18_44) rfl (l' := #[va a, va bs, va dA, va fA, vi (1 : Int32), vi f_first, vi f_firstFrequency, vi f_firstLength, vi (1 : Int32), vj (0 : Int64), .second, un, un]) rfl k_) ?_
    refine own_step (T' := T197) (g' := (mkF m 47 #[va a, va bs, va dA, va fA, vi (1 : Int32), vi f_first, vi f_firstFrequency, vi f_firstLength, vi (1 : Int32), vj (0 : Int64), .second, un, un] [(.int (0 : Int32))])) (fun t_ k_ => XT.iconstV X198.here hx rfl (0 : Int32) (hb hby d18_46) (by decide) k_) ?_
    refine own_step (T' := T197) (g' := (mkF m 49 #[va a, va bs, va dA, va fA, vi (1 : Int32), vi f_first, vi f_firstFrequency, vi f_firstLength, vi (1 : Int32), vj (0 : Int64), .second, vi (0 : Int32), un] [])) (fun t_ k_ => XS.istore X198.here hx rfl (hb hby d18_47) rfl (l' := #[va a, va bs, va dA, va fA, vi (1 : Int32), vi f_first, vi f_firstFrequency, vi f_firstLength, vi (1 : Int32), vj (0 : Int64), .second, vi (0 : Int32), un]) rfl k_) ?_
    obtain ⟨nn49, Vv, Ee, Pr49, hVd, hEd, hE2, hn5⟩ := own_ent_pre Df Dc Dd
    obtain ⟨b49, hj49, hg49, hR49⟩ := own_rd_step Pr49
    refine own_step (T' := T197) (g' := (mkF m 50 #[va a, va bs, va dA, va fA, vi (1 : Int32), vi f_first, vi f_firstFrequency, vi f_firstLength, vi (1 : Int32), vj (0 : Int64), .second, vi (0 : Int32), un] [(.ref a)])) (fun t_ k_ => XS.aloadN X198.here hx rfl (hb hby d18_49) rfl rfl k_) ?_
    obtain ⟨T203, X204, e205, st206⟩ := getF X198 hx hZ hown (host := "") (Or.inl (own_w (i := 17) rfl hw)) Via.refl e199 F181 (g := (mkF m 50 #[va a, va bs, va dA, va fA, vi (1 : Int32), vi f_first, vi f_firstFrequency, vi f_firstLength, vi (1 : Int32), vj (0 : Int64), .second, vi (0 : Int32), un] [(.ref a)])) rfl rfl (hb hby d18_50)
    refine own_step (T' := T203) (g' := (mkF m 53 #[va a, va bs, va dA, va fA, vi (1 : Int32), vi f_first, vi f_firstFrequency, vi f_firstLength, vi (1 : Int32), vj (0 : Int64), .second, vi (0 : Int32), un] [(.ref f_bytes)])) st206 ?_
    refine own_step (T' := T203) (g' := (mkF m 55 #[va a, va bs, va dA, va fA, vi (1 : Int32), vi f_first, vi f_firstFrequency, vi f_firstLength, vi (1 : Int32), vj (0 : Int64), .second, vi (0 : Int32), un] [(.int f_firstLength), (.ref f_bytes)])) (fun t_ k_ => XS.iload X204.here hx rfl (hb hby d18_53) rfl k_) ?_
    refine own_step (T' := T203) (g' := (mkF m 58 #[va a, va bs, va dA, va fA, vi (1 : Int32), vi f_first, vi f_firstFrequency, vi (f_firstLength + (1 : Int32)), vi (1 : Int32), vj (0 : Int64), .second, vi (0 : Int32), un] [(.int f_firstLength), (.ref f_bytes)])) (fun t_ k_ => XT.iincV X204.here hx rfl (1 : Int32) (hb hby d18_55) (by decide) rfl (l' := #[va a, va bs, va dA, va fA, vi (1 : Int32), vi f_first, vi f_firstFrequency, vi (f_firstLength + (1 : Int32)), vi (1 : Int32), vj (0 : Int64), .second, vi (0 : Int32), un]) rfl k_) ?_
    have st207 := own_baload (g := (mkF m 58 #[va a, va bs, va dA, va fA, vi (1 : Int32), vi f_first, vi f_firstFrequency, vi (f_firstLength + (1 : Int32)), vi (1 : Int32), vj (0 : Int64), .second, vi (0 : Int32), un] [(.int f_firstLength), (.ref f_bytes)])) X204 hx hZ e205 F187 (v := (.int b49)) hj49 hg49 rfl rfl (hb hby d18_58)
    refine own_step (T' := T203) (g' := (mkF m 59 #[va a, va bs, va dA, va fA, vi (1 : Int32), vi f_first, vi f_firstFrequency, vi (f_firstLength + (1 : Int32)), vi (1 : Int32), vj (0 : Int64), .second, vi (0 : Int32), un] [(.int b49)])) st207 ?_
    refine own_step (T' := T203) (g' := (mkF m 61 #[va a, va bs, va dA, va fA, vi (1 : Int32), vi f_first, vi f_firstFrequency, vi (f_firstLength + (1 : Int32)), vi (1 : Int32), vj (0 : Int64), .second, vi (0 : Int32), vi b49] [])) (fun t_ k_ => XS.istore X204.here hx rfl (hb hby d18_59) rfl (l' := #[va a, va bs, va dA, va fA, vi (1 : Int32), vi f_first, vi f_firstFrequency, vi (f_firstLength + (1 : Int32)), vi (1 : Int32), vj (0 : Int64), .second, vi (0 : Int32), vi b49]) rfl k_) ?_
    refine own_step (T' := T203) (g' := (mkF m 63 #[va a, va bs, va dA, va fA, vi (1 : Int32), vi f_first, vi f_firstFrequency, vi (f_firstLength + (1 : Int32)), vi (1 : Int32), vj (0 : Int64), .second, vi (0 : Int32), vi b49] [(.long (0 : Int64))])) (fun t_ k_ => XT.lload X204.here hx rfl (hb hby d18_61) rfl k_) ?_
    refine own_step (T' := T203) (g' := (mkF m 65 #[va a, va bs, va dA, va fA, vi (1 : Int32), vi f_first, vi f_firstFrequency, vi (f_firstLength + (1 : Int32)), vi (1 : Int32), vj (0 : Int64), .second, vi (0 : Int32), vi b49] [(.int b49), (.long (0 : Int64))])) (fun t_ k_ => XS.iload X204.here hx rfl (hb hby d18_63) rfl k_) ?_
    refine own_step (T' := T203) (g' := (mkF m 67 #[va a, va bs, va dA, va fA, vi (1 : Int32), vi f_first, vi f_firstFrequency, vi (f_firstLength + (1 : Int32)), vi (1 : Int32), vj (0 : Int64), .second, vi (0 : Int32), vi b49] [(.int (127 : Int32)), (.int b49), (.long (0 : Int64))])) (fun t_ k_ => XT.bipushV X204.here hx rfl (127 : Int32) (hb hby d18_65) (by decide) k_) ?_
    refine own_step (T' := T203) (g' := (mkF m 68 #[va a, va bs, va dA, va fA, vi (1 : Int32), vi f_first, vi f_firstFrequency, vi (f_firstLength + (1 : Int32)), vi (1 : Int32), vj (0 : Int64), .second, vi (0 : Int32), vi b49] [(.int (b49 &&& (127 : Int32))), (.long (0 : Int64))])) (fun t_ k_ => XS.iand X204.here hx rfl (hb hby d18_67) rfl k_) ?_
    refine own_step (T' := T203) (g' := (mkF m 69 #[va a, va bs, va dA, va fA, vi (1 : Int32), vi f_first, vi f_firstFrequency, vi (f_firstLength + (1 : Int32)), vi (1 : Int32), vj (0 : Int64), .second, vi (0 : Int32), vi b49] [(.long (((b49 &&& (127 : Int32))).toInt64)), (.long (0 : Int64))])) (fun t_ k_ => XT.i2l X204.here hx rfl (hb hby d18_68) rfl k_) ?_
    refine own_step (T' := T203) (g' := (mkF m 71 #[va a, va bs, va dA, va fA, vi (1 : Int32), vi f_first, vi f_firstFrequency, vi (f_firstLength + (1 : Int32)), vi (1 : Int32), vj (0 : Int64), .second, vi (0 : Int32), vi b49] [(.int (0 : Int32)), (.long (((b49 &&& (127 : Int32))).toInt64)), (.long (0 : Int64))])) (fun t_ k_ => XS.iload X204.here hx rfl (hb hby d18_69) rfl k_) ?_
    refine own_step (T' := T203) (g' := (mkF m 72 #[va a, va bs, va dA, va fA, vi (1 : Int32), vi f_first, vi f_firstFrequency, vi (f_firstLength + (1 : Int32)), vi (1 : Int32), vj (0 : Int64), .second, vi (0 : Int32), vi b49] [(.long ((((b49 &&& (127 : Int32))).toInt64) <<< (((0 : Int32)).toInt64 &&& 63))), (.long (0 : Int64))])) (fun t_ k_ => XT.lshl X204.here hx rfl (hb hby d18_71) rfl k_) ?_
    refine own_step (T' := T203) (g' := (mkF m 73 #[va a, va bs, va dA, va fA, vi (1 : Int32), vi f_first, vi f_firstFrequency, vi (f_firstLength + (1 : Int32)), vi (1 : Int32), vj (0 : Int64), .second, vi (0 : Int32), vi b49] [(.long ((0 : Int64) ||| ((((b49 &&& (127 : Int32))).toInt64) <<< (((0 : Int32)).toInt64 &&& 63))))])) (fun t_ k_ => XT.lor X204.here hx rfl (hb hby d18_72) rfl k_) ?_
    refine own_step (T' := T203) (g' := (mkF m 75 #[va a, va bs, va dA, va fA, vi (1 : Int32), vi f_first, vi f_firstFrequency, vi (f_firstLength + (1 : Int32)), vi (1 : Int32), vj ((0 : Int64) ||| ((((b49 &&& (127 : Int32))).toInt64) <<< (((0 : Int32)).toInt64 &&& 63))), .second, vi (0 : Int32), vi b49] [])) (fun t_ k_ => XT.lstore X204.here hx rfl (hb hby d18_73) rfl (l' := #[va a, va bs, va dA, va fA, vi (1 : Int32), vi f_first, vi f_firstFrequency, vi (f_firstLength + (1 : Int32)), vi (1 : Int32), vj ((0 : Int64) ||| ((((b49 &&& (127 : Int32))).toInt64) <<< (((0 : Int32)).toInt64 &&& 63))), .second, vi (0 : Int32), vi b49]) rfl k_) ?_
    refine own_step (T' := T203) (g' := (mkF m 78 #[va a, va bs, va dA, va fA, vi (1 : Int32), vi f_first, vi f_firstFrequency, vi (f_firstLength + (1 : Int32)), vi (1 : Int32), vj ((0 : Int64) ||| ((((b49 &&& (127 : Int32))).toInt64) <<< (((0 : Int32)).toInt64 &&& 63))), .second, vi ((0 : Int32) + (7 : Int32)), vi b49] [])) (fun t_ k_ => XT.iincV X204.here hx rfl (7 : Int32) (hb hby d18_75) (by decide) rfl (l' := #[va a, va bs, va dA, va fA, vi (1 : Int32), vi f_first, vi f_firstFrequency, vi (f_firstLength + (1 : Int32)), vi (1 : Int32), vj ((0 : Int64) ||| ((((b49 &&& (127 : Int32))).toInt64) <<< (((0 : Int32)).toInt64 &&& 63))), .second, vi ((0 : Int32) + (7 : Int32)), vi b49]) rfl k_) ?_
    suffices K49 : ∀ (T49 : State) (ak49 : Int32) (ac49 : Int64) (sh49 bq49 : Int32), Stand p l e ({ frames := 2, cells := 0, slots := 0, locals := 26 } : Room) s m #[(.ref a), (.ref bs), (.ref dA), (.ref fA)] below meth c T49 Lo194 0 0 → T49.heap = h174 → ac49.toInt = Vv → ak49.toInt = Ee → own_Fin p e below s (Q_18 Z dA fA f_first f_firstFrequency f_count d1 f1 h0 n0) 0 0 T49 (mkF m 83 #[va a, va bs, va dA, va fA, vi (1 : Int32), vi f_first, vi f_firstFrequency, vi ak49, vi (1 : Int32), vj ac49, .second, vi sh49, vi bq49] []) by
      have lp49 : ∀ (n : Nat) (T49 : State) (ak49 : Int32) (ac49 : Int64) (sh49 bq49 : Int32), own_RD vs n ak49 ac49 sh49 bq49 Vv Ee → Stand p l e ({ frames := 2, cells := 0, slots := 0, locals := 26 } : Room) s m #[(.ref a), (.ref bs), (.ref dA), (.ref fA)] below meth c T49 Lo194 0 0 → T49.heap = h174 → own_Fin p e below s (Q_18 Z dA fA f_first f_firstFrequency f_count d1 f1 h0 n0) 0 0 T49 (mkF m 78 #[va a, va bs, va dA, va fA, vi (1 : Int32), vi f_first, vi f_firstFrequency, vi ak49, vi (1 : Int32), vj ac49, .second, vi sh49, vi bq49] []) := by
        intro n
        induction n with
        | zero =>
          intro T49 ak49 ac49 sh49 bq49 hRl X49_ e49_
          obtain ⟨hz1, hz2, hz3⟩ := own_rd_zero hRl
          refine own_step (T' := T49) (g' := (mkF m 80 #[va a, va bs, va dA, va fA, vi (1 : Int32), vi f_first, vi f_firstFrequency, vi ak49, vi (1 : Int32), vj ac49, .second, vi sh49, vi bq49] [(.int bq49)])) (fun t_ k_ => XS.iload X49_.here hx rfl (hb hby d18_78) rfl k_) ?_
          have hk208 : ¬ (bq49 < 0) := hz1
          refine own_step (T' := T49) (g' := (mkF m 83 #[va a, va bs, va dA, va fA, vi (1 : Int32), vi f_first, vi f_firstFrequency, vi ak49, vi (1 : Int32), vj ac49, .second, vi sh49, vi bq49] [])) (fun t_ k_ => XS.ifNo X49_.here hx rfl (hb hby d18_80) rfl (XT.i0_lt_f hk208) k_) ?_
          exact K49 _ _ _ _ _ X49_ e49_ hz2 hz3
        | succ n ih =>
          intro T49 ak49 ac49 sh49 bq49 hRl X49_ e49_
          obtain ⟨hz1, hz2⟩ := own_rd_succ hRl
          obtain ⟨bn, hjn, hgn, hRn⟩ := own_rd_step hz2
          refine own_step (T' := T49) (g' := (mkF m 80 #[va a, va bs, va dA, va fA, vi (1 : Int32), vi f_first, vi f_firstFrequency, vi ak49, vi (1 : Int32), vj ac49, .second, vi sh49, vi bq49] [(.int bq49)])) (fun t_ k_ => XS.iload X49_.here hx rfl (hb hby d18_78) rfl k_) ?_
          have hk209 : bq49 < 0 := hz1
          refine own_step (T' := T49) (g' := (mkF m 49 #[va a, va bs, va dA, va fA, vi (1 : Int32), vi f_first, vi f_firstFrequency, vi ak49, vi (1 : Int32), vj ac49, .second, vi sh49, vi bq49] [])) (fun t_ k_ => XS.ifYes X49_.here hx rfl (pc0 := 80) (pc' := 49) rfl (hb hby d18_80) rfl (XT.i0_lt_t hk209) (by decide) (by decide) k_) ?_
          refine own_step (T' := T49) (g' := (mkF m 50 #[va a, va bs, va dA, va fA, vi (1 : Int32), vi f_first, vi f_firstFrequency, vi ak49, vi (1 : Int32), vj ac49, .second, vi sh49, vi bq49] [(.ref a)])) (fun t_ k_ => XS.aloadN X49_.here hx rfl (hb hby d18_49) rfl rfl k_) ?_
          obtain ⟨T210, X211, e212, st213⟩ := getF X49_ hx hZ hown (host := "") (Or.inl (own_w (i := 17) rfl hw)) Via.refl e49_ F181 (g := (mkF m 50 #[va a, va bs, va dA, va fA, vi (1 : Int32), vi f_first, vi f_firstFrequency, vi ak49, vi (1 : Int32), vj ac49, .second, vi sh49, vi bq49] [(.ref a)])) rfl rfl (hb hby d18_50)
          refine own_step (T' := T210) (g' := (mkF m 53 #[va a, va bs, va dA, va fA, vi (1 : Int32), vi f_first, vi f_firstFrequency, vi ak49, vi (1 : Int32), vj ac49, .second, vi sh49, vi bq49] [(.ref f_bytes)])) st213 ?_
          refine own_step (T' := T210) (g' := (mkF m 55 #[va a, va bs, va dA, va fA, vi (1 : Int32), vi f_first, vi f_firstFrequency, vi ak49, vi (1 : Int32), vj ac49, .second, vi sh49, vi bq49] [(.int ak49), (.ref f_bytes)])) (fun t_ k_ => XS.iload X211.here hx rfl (hb hby d18_53) rfl k_) ?_
          refine own_step (T' := T210) (g' := (mkF m 58 #[va a, va bs, va dA, va fA, vi (1 : Int32), vi f_first, vi f_firstFrequency, vi (ak49 + (1 : Int32)), vi (1 : Int32), vj ac49, .second, vi sh49, vi bq49] [(.int ak49), (.ref f_bytes)])) (fun t_ k_ => XT.iincV X211.here hx rfl (1 : Int32) (hb hby d18_55) (by decide) rfl (l' := #[va a, va bs, va dA, va fA, vi (1 : Int32), vi f_first, vi f_firstFrequency, vi (ak49 + (1 : Int32)), vi (1 : Int32), vj ac49, .second, vi sh49, vi bq49]) rfl k_) ?_
          have st214 := own_baload (g := (mkF m 58 #[va a, va bs, va dA, va fA, vi (1 : Int32), vi f_first, vi f_firstFrequency, vi (ak49 + (1 : Int32)), vi (1 : Int32), vj ac49, .second, vi sh49, vi bq49] [(.int ak49), (.ref f_bytes)])) X211 hx hZ e212 F187 (v := (.int bn)) hjn hgn rfl rfl (hb hby d18_58)
          refine own_step (T' := T210) (g' := (mkF m 59 #[va a, va bs, va dA, va fA, vi (1 : Int32), vi f_first, vi f_firstFrequency, vi (ak49 + (1 : Int32)), vi (1 : Int32), vj ac49, .second, vi sh49, vi bq49] [(.int bn)])) st214 ?_
          refine own_step (T' := T210) (g' := (mkF m 61 #[va a, va bs, va dA, va fA, vi (1 : Int32), vi f_first, vi f_firstFrequency, vi (ak49 + (1 : Int32)), vi (1 : Int32), vj ac49, .second, vi sh49, vi bn] [])) (fun t_ k_ => XS.istore X211.here hx rfl (hb hby d18_59) rfl (l' := #[va a, va bs, va dA, va fA, vi (1 : Int32), vi f_first, vi f_firstFrequency, vi (ak49 + (1 : Int32)), vi (1 : Int32), vj ac49, .second, vi sh49, vi bn]) rfl k_) ?_
          refine own_step (T' := T210) (g' := (mkF m 63 #[va a, va bs, va dA, va fA, vi (1 : Int32), vi f_first, vi f_firstFrequency, vi (ak49 + (1 : Int32)), vi (1 : Int32), vj ac49, .second, vi sh49, vi bn] [(.long ac49)])) (fun t_ k_ => XT.lload X211.here hx rfl (hb hby d18_61) rfl k_) ?_
          refine own_step (T' := T210) (g' := (mkF m 65 #[va a, va bs, va dA, va fA, vi (1 : Int32), vi f_first, vi f_firstFrequency, vi (ak49 + (1 : Int32)), vi (1 : Int32), vj ac49, .second, vi sh49, vi bn] [(.int bn), (.long ac49)])) (fun t_ k_ => XS.iload X211.here hx rfl (hb hby d18_63) rfl k_) ?_
          refine own_step (T' := T210) (g' := (mkF m 67 #[va a, va bs, va dA, va fA, vi (1 : Int32), vi f_first, vi f_firstFrequency, vi (ak49 + (1 : Int32)), vi (1 : Int32), vj ac49, .second, vi sh49, vi bn] [(.int (127 : Int32)), (.int bn), (.long ac49)])) (fun t_ k_ => XT.bipushV X211.here hx rfl (127 : Int32) (hb hby d18_65) (by decide) k_) ?_
          refine own_step (T' := T210) (g' := (mkF m 68 #[va a, va bs, va dA, va fA, vi (1 : Int32), vi f_first, vi f_firstFrequency, vi (ak49 + (1 : Int32)), vi (1 : Int32), vj ac49, .second, vi sh49, vi bn] [(.int (bn &&& (127 : Int32))), (.long ac49)])) (fun t_ k_ => XS.iand X211.here hx rfl (hb hby d18_67) rfl k_) ?_
          refine own_step (T' := T210) (g' := (mkF m 69 #[va a, va bs, va dA, va fA, vi (1 : Int32), vi f_first, vi f_firstFrequency, vi (ak49 + (1 : Int32)), vi (1 : Int32), vj ac49, .second, vi sh49, vi bn] [(.long (((bn &&& (127 : Int32))).toInt64)), (.long ac49)])) (fun t_ k_ => XT.i2l X211.here hx rfl (hb hby d18_68) rfl k_) ?_
          refine own_step (T' := T210) (g' := (mkF m 71 #[va a, va bs, va dA, va fA, vi (1 : Int32), vi f_first, vi f_firstFrequency, vi (ak49 + (1 : Int32)), vi (1 : Int32), vj ac49, .second, vi sh49, vi bn] [(.int sh49), (.long (((bn &&& (127 : Int32))).toInt64)), (.long ac49)])) (fun t_ k_ => XS.iload X211.here hx rfl (hb hby d18_69) rfl k_) ?_
          refine own_step (T' := T210) (g' := (mkF m 72 #[va a, va bs, va dA, va fA, vi (1 : Int32), vi f_first, vi f_firstFrequency, vi (ak49 + (1 : Int32)), vi (1 : Int32), vj ac49, .second, vi sh49, vi bn] [(.long ((((bn &&& (127 : Int32))).toInt64) <<< ((sh49).toInt64 &&& 63))), (.long ac49)])) (fun t_ k_ => XT.lshl X211.here hx rfl (hb hby d18_71) rfl k_) ?_
          refine own_step (T' := T210) (g' := (mkF m 73 #[va a, va bs, va dA, va fA, vi (1 : Int32), vi f_first, vi f_firstFrequency, vi (ak49 + (1 : Int32)), vi (1 : Int32), vj ac49, .second, vi sh49, vi bn] [(.long (ac49 ||| ((((bn &&& (127 : Int32))).toInt64) <<< ((sh49).toInt64 &&& 63))))])) (fun t_ k_ => XT.lor X211.here hx rfl (hb hby d18_72) rfl k_) ?_
          refine own_step (T' := T210) (g' := (mkF m 75 #[va a, va bs, va dA, va fA, vi (1 : Int32), vi f_first, vi f_firstFrequency, vi (ak49 + (1 : Int32)), vi (1 : Int32), vj (ac49 ||| ((((bn &&& (127 : Int32))).toInt64) <<< ((sh49).toInt64 &&& 63))), .second, vi sh49, vi bn] [])) (fun t_ k_ => XT.lstore X211.here hx rfl (hb hby d18_73) rfl (l' := #[va a, va bs, va dA, va fA, vi (1 : Int32), vi f_first, vi f_firstFrequency, vi (ak49 + (1 : Int32)), vi (1 : Int32), vj (ac49 ||| ((((bn &&& (127 : Int32))).toInt64) <<< ((sh49).toInt64 &&& 63))), .second, vi sh49, vi bn]) rfl k_) ?_
          refine own_step (T' := T210) (g' := (mkF m 78 #[va a, va bs, va dA, va fA, vi (1 : Int32), vi f_first, vi f_firstFrequency, vi (ak49 + (1 : Int32)), vi (1 : Int32), vj (ac49 ||| ((((bn &&& (127 : Int32))).toInt64) <<< ((sh49).toInt64 &&& 63))), .second, vi (sh49 + (7 : Int32)), vi bn] [])) (fun t_ k_ => XT.iincV X211.here hx rfl (7 : Int32) (hb hby d18_75) (by decide) rfl (l' := #[va a, va bs, va dA, va fA, vi (1 : Int32), vi f_first, vi f_firstFrequency, vi (ak49 + (1 : Int32)), vi (1 : Int32), vj (ac49 ||| ((((bn &&& (127 : Int32))).toInt64) <<< ((sh49).toInt64 &&& 63))), .second, vi (sh49 + (7 : Int32)), vi bn]) rfl k_) ?_
          exact ih _ _ _ _ _ hRn X211 e212
      exact lp49 nn49 _ _ _ _ _ hR49 X204 e205
    intro T49 ak49 ac49 sh49 bq49 X49_ e49_ hV49 hE49
    refine own_step (T' := T49) (g' := (mkF m 85 #[va a, va bs, va dA, va fA, vi (1 : Int32), vi f_first, vi f_firstFrequency, vi ak49, vi (1 : Int32), vj ac49, .second, vi sh49, vi bq49] [(.int f_first)])) (fun t_ k_ => XS.iload X49_.here hx rfl (hb hby d18_83) rfl k_) ?_
    refine own_step (T' := T49) (g' := (mkF m 87 #[va a, va bs, va dA, va fA, vi (1 : Int32), vi f_first, vi f_firstFrequency, vi ak49, vi (1 : Int32), vj ac49, .second, vi sh49, vi bq49] [(.long ac49), (.int f_first)])) (fun t_ k_ => XT.lload X49_.here hx rfl (hb hby d18_85) rfl k_) ?_
    refine own_step (T' := T49) (g' := (mkF m 88 #[va a, va bs, va dA, va fA, vi (1 : Int32), vi f_first, vi f_firstFrequency, vi ak49, vi (1 : Int32), vj ac49, .second, vi sh49, vi bq49] [(.int (1 : Int32)), (.long ac49), (.int f_first)])) (fun t_ k_ => XT.iconstV X49_.here hx rfl (1 : Int32) (hb hby d18_87) (by decide) k_) ?_
    refine own_step (T' := T49) (g' := (mkF m 89 #[va a, va bs, va dA, va fA, vi (1 : Int32), vi f_first, vi f_firstFrequency, vi ak49, vi (1 : Int32), vj ac49, .second, vi sh49, vi bq49] [(.long (XT.ushrL ac49 (1 : Int32))), (.int f_first)])) (fun t_ k_ => XT.lushr X49_.here hx rfl (hb hby d18_88) rfl k_) ?_
    refine own_step (T' := T49) (g' := (mkF m 90 #[va a, va bs, va dA, va fA, vi (1 : Int32), vi f_first, vi f_firstFrequency, vi ak49, vi (1 : Int32), vj ac49, .second, vi sh49, vi bq49] [(.int (((XT.ushrL ac49 (1 : Int32))).toInt32)), (.int f_first)])) (fun t_ k_ => XT.l2i X49_.here hx rfl (hb hby d18_89) rfl k_) ?_
    refine own_step (T' := T49) (g' := (mkF m 91 #[va a, va bs, va dA, va fA, vi (1 : Int32), vi f_first, vi f_firstFrequency, vi ak49, vi (1 : Int32), vj ac49, .second, vi sh49, vi bq49] [(.int (f_first + (((XT.ushrL ac49 (1 : Int32))).toInt32)))])) (fun t_ k_ => XS.iadd X49_.here hx rfl (hb hby d18_90) rfl k_) ?_
    rw [own_doc De (hV49.trans hVd)]
    refine own_step (T' := T49) (g' := (mkF m 93 #[va a, va bs, va dA, va fA, vi (1 : Int32), vi d1, vi f_firstFrequency, vi ak49, vi (1 : Int32), vj ac49, .second, vi sh49, vi bq49] [])) (fun t_ k_ => XS.istore X49_.here hx rfl (hb hby d18_91) rfl (l' := #[va a, va bs, va dA, va fA, vi (1 : Int32), vi d1, vi f_firstFrequency, vi ak49, vi (1 : Int32), vj ac49, .second, vi sh49, vi bq49]) rfl k_) ?_
    refine own_step (T' := T49) (g' := (mkF m 94 #[va a, va bs, va dA, va fA, vi (1 : Int32), vi d1, vi f_firstFrequency, vi ak49, vi (1 : Int32), vj ac49, .second, vi sh49, vi bq49] [(.int (1 : Int32))])) (fun t_ k_ => XT.iconstV X49_.here hx rfl (1 : Int32) (hb hby d18_93) (by decide) k_) ?_
    refine own_step (T' := T49) (g' := (mkF m 96 #[va a, va bs, va dA, va fA, vi (1 : Int32), vi d1, vi (1 : Int32), vi ak49, vi (1 : Int32), vj ac49, .second, vi sh49, vi bq49] [])) (fun t_ k_ => XS.istore X49_.here hx rfl (hb hby d18_94) rfl (l' := #[va a, va bs, va dA, va fA, vi (1 : Int32), vi d1, vi (1 : Int32), vi ak49, vi (1 : Int32), vj ac49, .second, vi sh49, vi bq49]) rfl k_) ?_
    rcases hE2 with hf1 | ⟨hf1, nn111, hE3⟩
    · refine own_step (T' := T49) (g' := (mkF m 98 #[va a, va bs, va dA, va fA, vi (1 : Int32), vi d1, vi (1 : Int32), vi ak49, vi (1 : Int32), vj ac49, .second, vi sh49, vi bq49] [(.long ac49)])) (fun t_ k_ => XT.lload X49_.here hx rfl (hb hby d18_96) rfl k_) ?_
      refine own_step (T' := T49) (g' := (mkF m 99 #[va a, va bs, va dA, va fA, vi (1 : Int32), vi d1, vi (1 : Int32), vi ak49, vi (1 : Int32), vj ac49, .second, vi sh49, vi bq49] [(.long (1 : Int64)), (.long ac49)])) (fun t_ k_ => XT.lconstV X49_.here hx rfl (1 : Int64) (hb hby d18_98) (by decide) k_) ?_
      refine own_step (T' := T49) (g' := (mkF m 100 #[va a, va bs, va dA, va fA, vi (1 : Int32), vi d1, vi (1 : Int32), vi ak49, vi (1 : Int32), vj ac49, .second, vi sh49, vi bq49] [(.long (ac49 &&& (1 : Int64)))])) (fun t_ k_ => XT.land X49_.here hx rfl (hb hby d18_99) rfl k_) ?_
      refine own_step (T' := T49) (g' := (mkF m 101 #[va a, va bs, va dA, va fA, vi (1 : Int32), vi d1, vi (1 : Int32), vi ak49, vi (1 : Int32), vj ac49, .second, vi sh49, vi bq49] [(.long (0 : Int64)), (.long (ac49 &&& (1 : Int64)))])) (fun t_ k_ => XT.lconstV X49_.here hx rfl (0 : Int64) (hb hby d18_100) (by decide) k_) ?_
      refine own_step (T' := T49) (g' := (mkF m 102 #[va a, va bs, va dA, va fA, vi (1 : Int32), vi d1, vi (1 : Int32), vi ak49, vi (1 : Int32), vj ac49, .second, vi sh49, vi bq49] [(.int (XT.cmpL (ac49 &&& (1 : Int64)) (0 : Int64)))])) (fun t_ k_ => XT.lcmp X49_.here hx rfl (hb hby d18_101) rfl k_) ?_
      have hk215 : ¬ ((ac49 &&& (1 : Int64)) = (0 : Int64)) := (fun z_ => (own_bit (hV49.trans hVd)).mp z_ hf1)
      refine own_step (T' := T49) (g' := (mkF m 144 #[va a, va bs, va dA, va fA, vi (1 : Int32), vi d1, vi (1 : Int32), vi ak49, vi (1 : Int32), vj ac49, .second, vi sh49, vi bq49] [])) (fun t_ k_ => XS.ifYes X49_.here hx rfl (pc0 := 102) (pc' := 144) rfl (hb hby d18_102) rfl (XT.ll_ne_t hk215) (by decide) (by decide) k_) ?_
      refine own_step (T' := T49) (g' := (mkF m 145 #[va a, va bs, va dA, va fA, vi (1 : Int32), vi d1, vi (1 : Int32), vi ak49, vi (1 : Int32), vj ac49, .second, vi sh49, vi bq49] [(.ref bs)])) (fun t_ k_ => XS.aloadN X49_.here hx rfl (hb hby d18_144) rfl rfl k_) ?_
      refine own_step (T' := T49) (g' := (mkF m 147 #[va a, va bs, va dA, va fA, vi (1 : Int32), vi d1, vi (1 : Int32), vi ak49, vi (1 : Int32), vj ac49, .second, vi sh49, vi bq49] [(.int d1), (.ref bs)])) (fun t_ k_ => XS.iload X49_.here hx rfl (hb hby d18_145) rfl k_) ?_
      obtain ⟨cqc216, kqc216, qac216, qbc216, qcc216⟩ := isOf hZ e49_ F190
      obtain ⟨_, _, ⟨Tc216, Lc216, kc216, nc216⟩, -, Xc216, ⟨Lcc216, hQc216, lc216, yc216, zc216⟩, stc216⟩ := X49_.virtualBack hx (y := (⟨"java/util/BitSet", "get", "(I)Z"⟩ : MethodName)) (z := (⟨"java/util/BitSet", "get", "(I)Z"⟩ : MethodName)) hown (mvT hZ (own_w (i := 135) rfl hw)) (mvT hZ (own_w (i := 136) rfl hw)) (notFace_of_selects (args := #[]) (mvT hZ (own_w (i := 138) rfl hw))) (mvT hZ (own_w (i := 138) rfl hw)) (mvT hZ (own_w (i := 137) rfl hw)) (by decide) (backOf (W := 0) (rm_get l Z a0 hw [] bs d1 h174 n0 F180 F190 F191 F192 Db) hZ (own_w (i := 140) rfl hw) (own_w (i := 139) rfl hw) (by decide) (by decide)) qac216 qcc216 (g := (mkF m 147 #[va a, va bs, va dA, va fA, vi (1 : Int32), vi d1, vi (1 : Int32), vi ak49, vi (1 : Int32), vj ac49, .second, vi sh49, vi bq49] [(.int d1), (.ref bs)])) rfl (by rw [hml]; rfl) (Steps.refl _) (argsL := [(.int d1)]) (rest := []) (lenOf pd_13 rfl) rfl (by show 2 * 0 + _ ≤ _; exact Nat.le_of_eq rfl) (hb hby d18_147) (fun _ _ => ⟨rfl, e49_, (by decide : 0 + 0 ≤ _), (by decide : 0 + 0 ≤ _)⟩)
      dsimp only [Pt.U, Pt.locs, Pt.cells, Pt.slots] at Xc216 lc216 yc216 zc216 stc216 hQc216
      subst lc216 yc216 zc216
      have X217 := Xc216.more (cells' := 0) (slots' := 0) (by decide) (by decide)
      obtain ⟨rfl, N218, e219⟩ := hQc216
      have N220 := Fr.app N196 N218
      obtain ⟨Lo221, X222, N223⟩ : ∃ Lo_, Stand p l e ({ frames := 2, cells := 0, slots := 0, locals := 26 } : Room) s m #[(.ref a), (.ref bs), (.ref dA), (.ref fA)] below meth c Tc216 Lo_ 0 0 ∧ Fr n0 Lo_ := ⟨_, X217, N220⟩
      refine own_step (T' := Tc216) (g' := (mkF m 150 #[va a, va bs, va dA, va fA, vi (1 : Int32), vi d1, vi (1 : Int32), vi ak49, vi (1 : Int32), vj ac49, .second, vi sh49, vi bq49] [(.int (nar .boolean (0 : Int32)))])) (fun t_ k_ => stc216.trans k_) ?_
      have hk224 : (nar .boolean (0 : Int32)) = 0 := (by decide)
      refine own_step (T' := Tc216) (g' := (mkF m 153 #[va a, va bs, va dA, va fA, vi (1 : Int32), vi d1, vi (1 : Int32), vi ak49, vi (1 : Int32), vj ac49, .second, vi sh49, vi bq49] [])) (fun t_ k_ => XS.ifNo X222.here hx rfl (hb hby d18_150) rfl (XT.i0_ne_f hk224) k_) ?_
      refine own_step (T' := Tc216) (g' := (mkF m 154 #[va a, va bs, va dA, va fA, vi (1 : Int32), vi d1, vi (1 : Int32), vi ak49, vi (1 : Int32), vj ac49, .second, vi sh49, vi bq49] [(.ref dA)])) (fun t_ k_ => XS.aloadN X222.here hx rfl (hb hby d18_153) rfl rfl k_) ?_
      refine own_step (T' := Tc216) (g' := (mkF m 156 #[va a, va bs, va dA, va fA, vi (1 : Int32), vi d1, vi (1 : Int32), vi ak49, vi (1 : Int32), vj ac49, .second, vi sh49, vi bq49] [(.int (1 : Int32)), (.ref dA)])) (fun t_ k_ => XS.iload X222.here hx rfl (hb hby d18_154) rfl k_) ?_
      refine own_step (T' := Tc216) (g' := (mkF m 158 #[va a, va bs, va dA, va fA, vi (1 : Int32), vi d1, vi (1 : Int32), vi ak49, vi (1 : Int32), vj ac49, .second, vi sh49, vi bq49] [(.int d1), (.int (1 : Int32)), (.ref dA)])) (fun t_ k_ => XS.iload X222.here hx rfl (hb hby d18_156) rfl k_) ?_
      obtain ⟨cl225, Ar226, Lx227⟩ := id F188
      obtain ⟨T228, h229, X230, e231, W232, st233⟩ := stI X222 hx hZ e219 Ar226 (j := (1 : Int32)) (own_inb' Lx227 (n := 2) rfl (by decide) (by decide)) (g := (mkF m 158 #[va a, va bs, va dA, va fA, vi (1 : Int32), vi d1, vi (1 : Int32), vi ak49, vi (1 : Int32), vj ac49, .second, vi sh49, vi bq49] [(.int d1), (.int (1 : Int32)), (.ref dA)])) rfl rfl (hb hby d18_158)
      have N234 := Fr.snoc X230 N223 gd
      have F235 := Nat.le_trans F180 (Keep.of_wr W232).1
      have F236 := F181.other W232 (Or.inl ne0)
      have F237 := F182.other W232 (Or.inl ne0)
      have F238 := F183.other W232 (Or.inl ne0)
      have F239 := F184.other W232 (Or.inl ne0)
      have F240 := F185.other W232 (Or.inl ne0)
      have F241 := F186.other W232 (Or.inl ne0)
      have F242 := F187.other W232 ne2
      have V243 : own_Arl Z h229 dA .int [(.int f_first), (.int d1)] := own_Arl.set' (j := (1 : Int32)) F188 W232 (i := 1) (by decide)
      have F244 := V189.other W232 (Ne.symm ne6)
      have F245 := F190.wr W232
      have F246 := F191.other W232 (Or.inl ne4)
      have F247 := F192.wr W232
      have F248 := F193.wr W232 (Or.inl (List.mem_of_getElem? (i := 0) rfl))
      obtain ⟨Lo249, X250, N251⟩ : ∃ Lo_, Stand p l e ({ frames := 2, cells := 0, slots := 0, locals := 26 } : Room) s m #[(.ref a), (.ref bs), (.ref dA), (.ref fA)] below meth c T228 Lo_ 0 0 ∧ Fr n0 Lo_ := ⟨_, X230, N234⟩
      refine own_step (T' := T228) (g' := (mkF m 159 #[va a, va bs, va dA, va fA, vi (1 : Int32), vi d1, vi (1 : Int32), vi ak49, vi (1 : Int32), vj ac49, .second, vi sh49, vi bq49] [])) st233 ?_
      refine own_step (T' := T228) (g' := (mkF m 160 #[va a, va bs, va dA, va fA, vi (1 : Int32), vi d1, vi (1 : Int32), vi ak49, vi (1 : Int32), vj ac49, .second, vi sh49, vi bq49] [(.ref fA)])) (fun t_ k_ => XS.aloadN X250.here hx rfl (hb hby d18_159) rfl rfl k_) ?_
      refine own_step (T' := T228) (g' := (mkF m 163 #[va a, va bs, va dA, va fA, vi (1 : Int32), vi d1, vi (1 : Int32), vi ak49, vi (1 : Int32), vj ac49, .second, vi sh49, vi bq49] [])) (fun t_ k_ => XS.ifnullNo X250.here hx rfl (hb hby d18_160) rfl k_) ?_
      refine own_step (T' := T228) (g' := (mkF m 164 #[va a, va bs, va dA, va fA, vi (1 : Int32), vi d1, vi (1 : Int32), vi ak49, vi (1 : Int32), vj ac49, .second, vi sh49, vi bq49] [(.ref fA)])) (fun t_ k_ => XS.aloadN X250.here hx rfl (hb hby d18_163) rfl rfl k_) ?_
      refine own_step (T' := T228) (g' := (mkF m 166 #[va a, va bs, va dA, va fA, vi (1 : Int32), vi d1, vi (1 : Int32), vi ak49, vi (1 : Int32), vj ac49, .second, vi sh49, vi bq49] [(.int (1 : Int32)), (.ref fA)])) (fun t_ k_ => XS.iload X250.here hx rfl (hb hby d18_164) rfl k_) ?_
      refine own_step (T' := T228) (g' := (mkF m 168 #[va a, va bs, va dA, va fA, vi (1 : Int32), vi d1, vi (1 : Int32), vi ak49, vi (1 : Int32), vj ac49, .second, vi sh49, vi bq49] [(.int (1 : Int32)), (.int (1 : Int32)), (.ref fA)])) (fun t_ k_ => XS.iload X250.here hx rfl (hb hby d18_166) rfl k_) ?_
      obtain ⟨cl252, Ar253, Lx254⟩ := id F244
      obtain ⟨T255, h256, X257, e258, W259, st260⟩ := stI X250 hx hZ e231 Ar253 (j := (1 : Int32)) (own_inb' Lx254 (n := 2) rfl (by decide) (by decide)) (g := (mkF m 168 #[va a, va bs, va dA, va fA, vi (1 : Int32), vi d1, vi (1 : Int32), vi ak49, vi (1 : Int32), vj ac49, .second, vi sh49, vi bq49] [(.int (1 : Int32)), (.int (1 : Int32)), (.ref fA)])) rfl rfl (hb hby d18_168)
      have N261 := Fr.snoc X257 N251 gf
      have F262 := Nat.le_trans F235 (Keep.of_wr W259).1
      have F263 := F236.other W259 (Or.inl ne1)
      have F264 := F237.other W259 (Or.inl ne1)
      have F265 := F238.other W259 (Or.inl ne1)
      have F266 := F239.other W259 (Or.inl ne1)
      have F267 := F240.other W259 (Or.inl ne1)
      have F268 := F241.other W259 (Or.inl ne1)
      have F269 := F242.other W259 ne3
      have F270 := V243.other W259 ne6
      have V271 : own_Arl Z h256 fA .int [(.int f_firstFrequency), (.int (1 : Int32))] := own_Arl.set' (j := (1 : Int32)) F244 W259 (i := 1) (by decide)
      have F272 := F245.wr W259
      have F273 := F246.other W259 (Or.inl ne5)
      have F274 := F247.wr W259
      have F275 := F248.wr W259 (Or.inl (List.mem_of_getElem? (i := 1) rfl))
      obtain ⟨Lo276, X277, N278⟩ : ∃ Lo_, Stand p l e ({ frames := 2, cells := 0, slots := 0, locals := 26 } : Room) s m #[(.ref a), (.ref bs), (.ref dA), (.ref fA)] below meth c T255 Lo_ 0 0 ∧ Fr n0 Lo_ := ⟨_, X257, N261⟩
      refine own_step (T' := T255) (g' := (mkF m 169 #[va a, va bs, va dA, va fA, vi (1 : Int32), vi d1, vi (1 : Int32), vi ak49, vi (1 : Int32), vj ac49, .second, vi sh49, vi bq49] [])) st260 ?_
      refine own_step (T' := T255) (g' := (mkF m 172 #[va a, va bs, va dA, va fA, vi ((1 : Int32) + (1 : Int32)), vi d1, vi (1 : Int32), vi ak49, vi (1 : Int32), vj ac49, .second, vi sh49, vi bq49] [])) (fun t_ k_ => XT.iincV X277.here hx rfl (1 : Int32) (hb hby d18_169) (by decide) rfl (l' := #[va a, va bs, va dA, va fA, vi ((1 : Int32) + (1 : Int32)), vi d1, vi (1 : Int32), vi ak49, vi (1 : Int32), vj ac49, .second, vi sh49, vi bq49]) rfl k_) ?_
      rw [(by decide : ((1 : Int32) + (1 : Int32)) = (2 : Int32))]
      refine own_step (T' := T255) (g' := (mkF m 175 #[va a, va bs, va dA, va fA, vi (2 : Int32), vi d1, vi (1 : Int32), vi ak49, vi ((1 : Int32) + (1 : Int32)), vj ac49, .second, vi sh49, vi bq49] [])) (fun t_ k_ => XT.iincV X277.here hx rfl (1 : Int32) (hb hby d18_172) (by decide) rfl (l' := #[va a, va bs, va dA, va fA, vi (2 : Int32), vi d1, vi (1 : Int32), vi ak49, vi ((1 : Int32) + (1 : Int32)), vj ac49, .second, vi sh49, vi bq49]) rfl k_) ?_
      rw [(by decide : ((1 : Int32) + (1 : Int32)) = (2 : Int32))]
      refine own_step (T' := T255) (g' := (mkF m 29 #[va a, va bs, va dA, va fA, vi (2 : Int32), vi d1, vi (1 : Int32), vi ak49, vi (2 : Int32), vj ac49, .second, vi sh49, vi bq49] [])) (fun t_ k_ => XS.goto X277.here hx rfl (pc0 := 175) (pc' := 29) rfl (hb hby d18_175) (by decide) (by decide) k_) ?_
      refine own_step (T' := T255) (g' := (mkF m 31 #[va a, va bs, va dA, va fA, vi (2 : Int32), vi d1, vi (1 : Int32), vi ak49, vi (2 : Int32), vj ac49, .second, vi sh49, vi bq49] [(.int (2 : Int32))])) (fun t_ k_ => XS.iload X277.here hx rfl (hb hby d18_29) rfl k_) ?_
      refine own_step (T' := T255) (g' := (mkF m 32 #[va a, va bs, va dA, va fA, vi (2 : Int32), vi d1, vi (1 : Int32), vi ak49, vi (2 : Int32), vj ac49, .second, vi sh49, vi bq49] [(.ref a), (.int (2 : Int32))])) (fun t_ k_ => XS.aloadN X277.here hx rfl (hb hby d18_31) rfl rfl k_) ?_
      obtain ⟨T279, X280, e281, st282⟩ := getF X277 hx hZ hown (host := "") (Or.inl (own_w (i := 44) rfl hw)) Via.refl e258 F264 (g := (mkF m 32 #[va a, va bs, va dA, va fA, vi (2 : Int32), vi d1, vi (1 : Int32), vi ak49, vi (2 : Int32), vj ac49, .second, vi sh49, vi bq49] [(.ref a), (.int (2 : Int32))])) rfl rfl (hb hby d18_32)
      refine own_step (T' := T279) (g' := (mkF m 35 #[va a, va bs, va dA, va fA, vi (2 : Int32), vi d1, vi (1 : Int32), vi ak49, vi (2 : Int32), vj ac49, .second, vi sh49, vi bq49] [(.int f_count), (.int (2 : Int32))])) st282 ?_
      have hk283 : ¬ ((2 : Int32) < f_count) := (by rw [hc]; decide)
      refine own_step (T' := T279) (g' := (mkF m 178 #[va a, va bs, va dA, va fA, vi (2 : Int32), vi d1, vi (1 : Int32), vi ak49, vi (2 : Int32), vj ac49, .second, vi sh49, vi bq49] [])) (fun t_ k_ => XS.icmpYes X280.here hx rfl (pc0 := 35) (pc' := 178) rfl (hb hby d18_35) rfl (XT.ii_ge_t hk283) (by decide) (by decide) k_) ?_
      refine own_step (T' := T279) (g' := (mkF m 180 #[va a, va bs, va dA, va fA, vi (2 : Int32), vi d1, vi (1 : Int32), vi ak49, vi (2 : Int32), vj ac49, .second, vi sh49, vi bq49] [(.int (2 : Int32))])) (fun t_ k_ => XS.iload X280.here hx rfl (hb hby d18_178) rfl k_) ?_
      exact own_retI X280 hx hlk Bd.returns (hb hby d18_180) (by rw [e281]; exact ⟨_, _, _, _, by rw [hc], N278, F275, F270, V271, own_res2 hc hf1.symm⟩) (by decide) (by decide)
    · refine own_step (T' := T49) (g' := (mkF m 98 #[va a, va bs, va dA, va fA, vi (1 : Int32), vi d1, vi (1 : Int32), vi ak49, vi (1 : Int32), vj ac49, .second, vi sh49, vi bq49] [(.long ac49)])) (fun t_ k_ => XT.lload X49_.here hx rfl (hb hby d18_96) rfl k_) ?_
      refine own_step (T' := T49) (g' := (mkF m 99 #[va a, va bs, va dA, va fA, vi (1 : Int32), vi d1, vi (1 : Int32), vi ak49, vi (1 : Int32), vj ac49, .second, vi sh49, vi bq49] [(.long (1 : Int64)), (.long ac49)])) (fun t_ k_ => XT.lconstV X49_.here hx rfl (1 : Int64) (hb hby d18_98) (by decide) k_) ?_
      refine own_step (T' := T49) (g' := (mkF m 100 #[va a, va bs, va dA, va fA, vi (1 : Int32), vi d1, vi (1 : Int32), vi ak49, vi (1 : Int32), vj ac49, .second, vi sh49, vi bq49] [(.long (ac49 &&& (1 : Int64)))])) (fun t_ k_ => XT.land X49_.here hx rfl (hb hby d18_99) rfl k_) ?_
      refine own_step (T' := T49) (g' := (mkF m 101 #[va a, va bs, va dA, va fA, vi (1 : Int32), vi d1, vi (1 : Int32), vi ak49, vi (1 : Int32), vj ac49, .second, vi sh49, vi bq49] [(.long (0 : Int64)), (.long (ac49 &&& (1 : Int64)))])) (fun t_ k_ => XT.lconstV X49_.here hx rfl (0 : Int64) (hb hby d18_100) (by decide) k_) ?_
      refine own_step (T' := T49) (g' := (mkF m 102 #[va a, va bs, va dA, va fA, vi (1 : Int32), vi d1, vi (1 : Int32), vi ak49, vi (1 : Int32), vj ac49, .second, vi sh49, vi bq49] [(.int (XT.cmpL (ac49 &&& (1 : Int64)) (0 : Int64)))])) (fun t_ k_ => XT.lcmp X49_.here hx rfl (hb hby d18_101) rfl k_) ?_
      have hk284 : (ac49 &&& (1 : Int64)) = (0 : Int64) := ((own_bit (hV49.trans hVd)).mpr hf1)
      refine own_step (T' := T49) (g' := (mkF m 105 #[va a, va bs, va dA, va fA, vi (1 : Int32), vi d1, vi (1 : Int32), vi ak49, vi (1 : Int32), vj ac49, .second, vi sh49, vi bq49] [])) (fun t_ k_ => XS.ifNo X49_.here hx rfl (hb hby d18_102) rfl (XT.ll_ne_f hk284) k_) ?_
      refine own_step (T' := T49) (g' := (mkF m 106 #[va a, va bs, va dA, va fA, vi (1 : Int32), vi d1, vi (1 : Int32), vi ak49, vi (1 : Int32), vj ac49, .second, vi sh49, vi bq49] [(.int (0 : Int32))])) (fun t_ k_ => XT.iconstV X49_.here hx rfl (0 : Int32) (hb hby d18_105) (by decide) k_) ?_
      refine own_step (T' := T49) (g' := (mkF m 108 #[va a, va bs, va dA, va fA, vi (1 : Int32), vi d1, vi (0 : Int32), vi ak49, vi (1 : Int32), vj ac49, .second, vi sh49, vi bq49] [])) (fun t_ k_ => XS.istore X49_.here hx rfl (hb hby d18_106) rfl (l' := #[va a, va bs, va dA, va fA, vi (1 : Int32), vi d1, vi (0 : Int32), vi ak49, vi (1 : Int32), vj ac49, .second, vi sh49, vi bq49]) rfl k_) ?_
      refine own_step (T' := T49) (g' := (mkF m 109 #[va a, va bs, va dA, va fA, vi (1 : Int32), vi d1, vi (0 : Int32), vi ak49, vi (1 : Int32), vj ac49, .second, vi sh49, vi bq49] [(.int (0 : Int32))])) (fun t_ k_ => XT.iconstV X49_.here hx rfl (0 : Int32) (hb hby d18_108) (by decide) k_) ?_
      refine own_step (T' := T49) (g' := (mkF m 111 #[va a, va bs, va dA, va fA, vi (1 : Int32), vi d1, vi (0 : Int32), vi ak49, vi (1 : Int32), vj ac49, .second, vi (0 : Int32), vi bq49] [])) (fun t_ k_ => XS.istore X49_.here hx rfl (hb hby d18_109) rfl (l' := #[va a, va bs, va dA, va fA, vi (1 : Int32), vi d1, vi (0 : Int32), vi ak49, vi (1 : Int32), vj ac49, .second, vi (0 : Int32), vi bq49]) rfl k_) ?_
      obtain ⟨Ef, hEf⟩ : ∃ z : Int, z = ak49.toInt + (nn111 + 1 : Nat) := ⟨_, rfl⟩
      have Pr111 := own_pre32 Dc Dd hn5 (hE49.trans hEd) hE3
      rw [← hEf] at Pr111
      obtain ⟨b111, hj111, hg111, hR111⟩ := own_rd_step32 Pr111
      refine own_step (T' := T49) (g' := (mkF m 112 #[va a, va bs, va dA, va fA, vi (1 : Int32), vi d1, vi (0 : Int32), vi ak49, vi (1 : Int32), vj ac49, .second, vi (0 : Int32), vi bq49] [(.ref a)])) (fun t_ k_ => XS.aloadN X49_.here hx rfl (hb hby d18_111) rfl rfl k_) ?_
      obtain ⟨T285, X286, e287, st288⟩ := getF X49_ hx hZ hown (host := "") (Or.inl (own_w (i := 17) rfl hw)) Via.refl e49_ F181 (g := (mkF m 112 #[va a, va bs, va dA, va fA, vi (1 : Int32), vi d1, vi (0 : Int32), vi ak49, vi (1 : Int32), vj ac49, .second, vi (0 : Int32), vi bq49] [(.ref a)])) rfl rfl (hb hby d18_112)
      refine own_step (T' := T285) (g' := (mkF m 115 #[va a, va bs, va dA, va fA, vi (1 : Int32), vi d1, vi (0 : Int32), vi ak49, vi (1 : Int32), vj ac49, .second, vi (0 : Int32), vi bq49] [(.ref f_bytes)])) st288 ?_
      refine own_step (T' := T285) (g' := (mkF m 117 #[va a, va bs, va dA, va fA, vi (1 : Int32), vi d1, vi (0 : Int32), vi ak49, vi (1 : Int32), vj ac49, .second, vi (0 : Int32), vi bq49] [(.int ak49), (.ref f_bytes)])) (fun t_ k_ => XS.iload X286.here hx rfl (hb hby d18_115) rfl k_) ?_
      refine own_step (T' := T285) (g' := (mkF m 120 #[va a, va bs, va dA, va fA, vi (1 : Int32), vi d1, vi (0 : Int32), vi (ak49 + (1 : Int32)), vi (1 : Int32), vj ac49, .second, vi (0 : Int32), vi bq49] [(.int ak49), (.ref f_bytes)])) (fun t_ k_ => XT.iincV X286.here hx rfl (1 : Int32) (hb hby d18_117) (by decide) rfl (l' := #[va a, va bs, va dA, va fA, vi (1 : Int32), vi d1, vi (0 : Int32), vi (ak49 + (1 : Int32)), vi (1 : Int32), vj ac49, .second, vi (0 : Int32), vi bq49]) rfl k_) ?_
      have st289 := own_baload (g := (mkF m 120 #[va a, va bs, va dA, va fA, vi (1 : Int32), vi d1, vi (0 : Int32), vi (ak49 + (1 : Int32)), vi (1 : Int32), vj ac49, .second, vi (0 : Int32), vi bq49] [(.int ak49), (.ref f_bytes)])) X286 hx hZ e287 F187 (v := (.int b111)) hj111 hg111 rfl rfl (hb hby d18_120)
      refine own_step (T' := T285) (g' := (mkF m 121 #[va a, va bs, va dA, va fA, vi (1 : Int32), vi d1, vi (0 : Int32), vi (ak49 + (1 : Int32)), vi (1 : Int32), vj ac49, .second, vi (0 : Int32), vi bq49] [(.int b111)])) st289 ?_
      refine own_step (T' := T285) (g' := (mkF m 123 #[va a, va bs, va dA, va fA, vi (1 : Int32), vi d1, vi (0 : Int32), vi (ak49 + (1 : Int32)), vi (1 : Int32), vj ac49, .second, vi (0 : Int32), vi b111] [])) (fun t_ k_ => XS.istore X286.here hx rfl (hb hby d18_121) rfl (l' := #[va a, va bs, va dA, va fA, vi (1 : Int32), vi d1, vi (0 : Int32), vi (ak49 + (1 : Int32)), vi (1 : Int32), vj ac49, .second, vi (0 : Int32), vi b111]) rfl k_) ?_
      refine own_step (T' := T285) (g' := (mkF m 125 #[va a, va bs, va dA, va fA, vi (1 : Int32), vi d1, vi (0 : Int32), vi (ak49 + (1 : Int32)), vi (1 : Int32), vj ac49, .second, vi (0 : Int32), vi b111] [(.int (0 : Int32))])) (fun t_ k_ => XS.iload X286.here hx rfl (hb hby d18_123) rfl k_) ?_
      refine own_step (T' := T285) (g' := (mkF m 127 #[va a, va bs, va dA, va fA, vi (1 : Int32), vi d1, vi (0 : Int32), vi (ak49 + (1 : Int32)), vi (1 : Int32), vj ac49, .second, vi (0 : Int32), vi b111] [(.int b111), (.int (0 : Int32))])) (fun t_ k_ => XS.iload X286.here hx rfl (hb hby d18_125) rfl k_) ?_
      refine own_step (T' := T285) (g' := (mkF m 129 #[va a, va bs, va dA, va fA, vi (1 : Int32), vi d1, vi (0 : Int32), vi (ak49 + (1 : Int32)), vi (1 : Int32), vj ac49, .second, vi (0 : Int32), vi b111] [(.int (127 : Int32)), (.int b111), (.int (0 : Int32))])) (fun t_ k_ => XT.bipushV X286.here hx rfl (127 : Int32) (hb hby d18_127) (by decide) k_) ?_
      refine own_step (T' := T285) (g' := (mkF m 130 #[va a, va bs, va dA, va fA, vi (1 : Int32), vi d1, vi (0 : Int32), vi (ak49 + (1 : Int32)), vi (1 : Int32), vj ac49, .second, vi (0 : Int32), vi b111] [(.int (b111 &&& (127 : Int32))), (.int (0 : Int32))])) (fun t_ k_ => XS.iand X286.here hx rfl (hb hby d18_129) rfl k_) ?_
      refine own_step (T' := T285) (g' := (mkF m 132 #[va a, va bs, va dA, va fA, vi (1 : Int32), vi d1, vi (0 : Int32), vi (ak49 + (1 : Int32)), vi (1 : Int32), vj ac49, .second, vi (0 : Int32), vi b111] [(.int (0 : Int32)), (.int (b111 &&& (127 : Int32))), (.int (0 : Int32))])) (fun t_ k_ => XS.iload X286.here hx rfl (hb hby d18_130) rfl k_) ?_
      refine own_step (T' := T285) (g' := (mkF m 133 #[va a, va bs, va dA, va fA, vi (1 : Int32), vi d1, vi (0 : Int32), vi (ak49 + (1 : Int32)), vi (1 : Int32), vj ac49, .second, vi (0 : Int32), vi b111] [(.int ((b111 &&& (127 : Int32)) <<< ((0 : Int32) &&& 31))), (.int (0 : Int32))])) (fun t_ k_ => XT.ishl X286.here hx rfl (hb hby d18_132) rfl k_) ?_
      refine own_step (T' := T285) (g' := (mkF m 134 #[va a, va bs, va dA, va fA, vi (1 : Int32), vi d1, vi (0 : Int32), vi (ak49 + (1 : Int32)), vi (1 : Int32), vj ac49, .second, vi (0 : Int32), vi b111] [(.int ((0 : Int32) ||| ((b111 &&& (127 : Int32)) <<< ((0 : Int32) &&& 31))))])) (fun t_ k_ => XT.ior X286.here hx rfl (hb hby d18_133) rfl k_) ?_
      refine own_step (T' := T285) (g' := (mkF m 136 #[va a, va bs, va dA, va fA, vi (1 : Int32), vi d1, vi ((0 : Int32) ||| ((b111 &&& (127 : Int32)) <<< ((0 : Int32) &&& 31))), vi (ak49 + (1 : Int32)), vi (1 : Int32), vj ac49, .second, vi (0 : Int32), vi b111] [])) (fun t_ k_ => XS.istore X286.here hx rfl (hb hby d18_134) rfl (l' := #[va a, va bs, va dA, va fA, vi (1 : Int32), vi d1, vi ((0 : Int32) ||| ((b111 &&& (127 : Int32)) <<< ((0 : Int32) &&& 31))), vi (ak49 + (1 : Int32)), vi (1 : Int32), vj ac49, .second, vi (0 : Int32), vi b111]) rfl k_) ?_
      refine own_step (T' := T285) (g' := (mkF m 139 #[va a, va bs, va dA, va fA, vi (1 : Int32), vi d1, vi ((0 : Int32) ||| ((b111 &&& (127 : Int32)) <<< ((0 : Int32) &&& 31))), vi (ak49 + (1 : Int32)), vi (1 : Int32), vj ac49, .second, vi ((0 : Int32) + (7 : Int32)), vi b111] [])) (fun t_ k_ => XT.iincV X286.here hx rfl (7 : Int32) (hb hby d18_136) (by decide) rfl (l' := #[va a, va bs, va dA, va fA, vi (1 : Int32), vi d1, vi ((0 : Int32) ||| ((b111 &&& (127 : Int32)) <<< ((0 : Int32) &&& 31))), vi (ak49 + (1 : Int32)), vi (1 : Int32), vj ac49, .second, vi ((0 : Int32) + (7 : Int32)), vi b111]) rfl k_) ?_
      suffices K111 : ∀ (T111 : State) (ak111 : Int32) (ac111 : Int32) (sh111 bq111 : Int32), Stand p l e ({ frames := 2, cells := 0, slots := 0, locals := 26 } : Room) s m #[(.ref a), (.ref bs), (.ref dA), (.ref fA)] below meth c T111 Lo194 0 0 → T111.heap = h174 → ac111.toInt = f1.toInt → ak111.toInt = Ef → own_Fin p e below s (Q_18 Z dA fA f_first f_firstFrequency f_count d1 f1 h0 n0) 0 0 T111 (mkF m 144 #[va a, va bs, va dA, va fA, vi (1 : Int32), vi d1, vi ac111, vi ak111, vi (1 : Int32), vj ac49, .second, vi sh111, vi bq111] []) by
        have lp111 : ∀ (n : Nat) (T111 : State) (ak111 : Int32) (ac111 : Int32) (sh111 bq111 : Int32), own_RD32 vs n ak111 ac111 sh111 bq111 f1.toInt Ef → Stand p l e ({ frames := 2, cells := 0, slots := 0, locals := 26 } : Room) s m #[(.ref a), (.ref bs), (.ref dA), (.ref fA)] below meth c T111 Lo194 0 0 → T111.heap = h174 → own_Fin p e below s (Q_18 Z dA fA f_first f_firstFrequency f_count d1 f1 h0 n0) 0 0 T111 (mkF m 139 #[va a, va bs, va dA, va fA, vi (1 : Int32), vi d1, vi ac111, vi ak111, vi (1 : Int32), vj ac49, .second, vi sh111, vi bq111] []) := by
          intro n
          induction n with
          | zero =>
            intro T111 ak111 ac111 sh111 bq111 hRl X111_ e111_
            obtain ⟨hz1, hz2, hz3⟩ := own_rd_zero32 hRl
            refine own_step (T' := T111) (g' := (mkF m 141 #[va a, va bs, va dA, va fA, vi (1 : Int32), vi d1, vi ac111, vi ak111, vi (1 : Int32), vj ac49, .second, vi sh111, vi bq111] [(.int bq111)])) (fun t_ k_ => XS.iload X111_.here hx rfl (hb hby d18_139) rfl k_) ?_
            have hk290 : ¬ (bq111 < 0) := hz1
            refine own_step (T' := T111) (g' := (mkF m 144 #[va a, va bs, va dA, va fA, vi (1 : Int32), vi d1, vi ac111, vi ak111, vi (1 : Int32), vj ac49, .second, vi sh111, vi bq111] [])) (fun t_ k_ => XS.ifNo X111_.here hx rfl (hb hby d18_141) rfl (XT.i0_lt_f hk290) k_) ?_
            exact K111 _ _ _ _ _ X111_ e111_ hz2 hz3
          | succ n ih =>
            intro T111 ak111 ac111 sh111 bq111 hRl X111_ e111_
            obtain ⟨hz1, hz2⟩ := own_rd_succ32 hRl
            obtain ⟨bn, hjn, hgn, hRn⟩ := own_rd_step32 hz2
            refine own_step (T' := T111) (g' := (mkF m 141 #[va a, va bs, va dA, va fA, vi (1 : Int32), vi d1, vi ac111, vi ak111, vi (1 : Int32), vj ac49, .second, vi sh111, vi bq111] [(.int bq111)])) (fun t_ k_ => XS.iload X111_.here hx rfl (hb hby d18_139) rfl k_) ?_
            have hk291 : bq111 < 0 := hz1
            refine own_step (T' := T111) (g' := (mkF m 111 #[va a, va bs, va dA, va fA, vi (1 : Int32), vi d1, vi ac111, vi ak111, vi (1 : Int32), vj ac49, .second, vi sh111, vi bq111] [])) (fun t_ k_ => XS.ifYes X111_.here hx rfl (pc0 := 141) (pc' := 111) rfl (hb hby d18_141) rfl (XT.i0_lt_t hk291) (by decide) (by decide) k_) ?_
            refine own_step (T' := T111) (g' := (mkF m 112 #[va a, va bs, va dA, va fA, vi (1 : Int32), vi d1, vi ac111, vi ak111, vi (1 : Int32), vj ac49, .second, vi sh111, vi bq111] [(.ref a)])) (fun t_ k_ => XS.aloadN X111_.here hx rfl (hb hby d18_111) rfl rfl k_) ?_
            obtain ⟨T292, X293, e294, st295⟩ := getF X111_ hx hZ hown (host := "") (Or.inl (own_w (i := 17) rfl hw)) Via.refl e111_ F181 (g := (mkF m 112 #[va a, va bs, va dA, va fA, vi (1 : Int32), vi d1, vi ac111, vi ak111, vi (1 : Int32), vj ac49, .second, vi sh111, vi bq111] [(.ref a)])) rfl rfl (hb hby d18_112)
            refine own_step (T' := T292) (g' := (mkF m 115 #[va a, va bs, va dA, va fA, vi (1 : Int32), vi d1, vi ac111, vi ak111, vi (1 : Int32), vj ac49, .second, vi sh111, vi bq111] [(.ref f_bytes)])) st295 ?_
            refine own_step (T' := T292) (g' := (mkF m 117 #[va a, va bs, va dA, va fA, vi (1 : Int32), vi d1, vi ac111, vi ak111, vi (1 : Int32), vj ac49, .second, vi sh111, vi bq111] [(.int ak111), (.ref f_bytes)])) (fun t_ k_ => XS.iload X293.here hx rfl (hb hby d18_115) rfl k_) ?_
            refine own_step (T' := T292) (g' := (mkF m 120 #[va a, va bs, va dA, va fA, vi (1 : Int32), vi d1, vi ac111, vi (ak111 + (1 : Int32)), vi (1 : Int32), vj ac49, .second, vi sh111, vi bq111] [(.int ak111), (.ref f_bytes)])) (fun t_ k_ => XT.iincV X293.here hx rfl (1 : Int32) (hb hby d18_117) (by decide) rfl (l' := #[va a, va bs, va dA, va fA, vi (1 : Int32), vi d1, vi ac111, vi (ak111 + (1 : Int32)), vi (1 : Int32), vj ac49, .second, vi sh111, vi bq111]) rfl k_) ?_
            have st296 := own_baload (g := (mkF m 120 #[va a, va bs, va dA, va fA, vi (1 : Int32), vi d1, vi ac111, vi (ak111 + (1 : Int32)), vi (1 : Int32), vj ac49, .second, vi sh111, vi bq111] [(.int ak111), (.ref f_bytes)])) X293 hx hZ e294 F187 (v := (.int bn)) hjn hgn rfl rfl (hb hby d18_120)
            refine own_step (T' := T292) (g' := (mkF m 121 #[va a, va bs, va dA, va fA, vi (1 : Int32), vi d1, vi ac111, vi (ak111 + (1 : Int32)), vi (1 : Int32), vj ac49, .second, vi sh111, vi bq111] [(.int bn)])) st296 ?_
            refine own_step (T' := T292) (g' := (mkF m 123 #[va a, va bs, va dA, va fA, vi (1 : Int32), vi d1, vi ac111, vi (ak111 + (1 : Int32)), vi (1 : Int32), vj ac49, .second, vi sh111, vi bn] [])) (fun t_ k_ => XS.istore X293.here hx rfl (hb hby d18_121) rfl (l' := #[va a, va bs, va dA, va fA, vi (1 : Int32), vi d1, vi ac111, vi (ak111 + (1 : Int32)), vi (1 : Int32), vj ac49, .second, vi sh111, vi bn]) rfl k_) ?_
            refine own_step (T' := T292) (g' := (mkF m 125 #[va a, va bs, va dA, va fA, vi (1 : Int32), vi d1, vi ac111, vi (ak111 + (1 : Int32)), vi (1 : Int32), vj ac49, .second, vi sh111, vi bn] [(.int ac111)])) (fun t_ k_ => XS.iload X293.here hx rfl (hb hby d18_123) rfl k_) ?_
            refine own_step (T' := T292) (g' := (mkF m 127 #[va a, va bs, va dA, va fA, vi (1 : Int32), vi d1, vi ac111, vi (ak111 + (1 : Int32)), vi (1 : Int32), vj ac49, .second, vi sh111, vi bn] [(.int bn), (.int ac111)])) (fun t_ k_ => XS.iload X293.here hx rfl (hb hby d18_125) rfl k_) ?_
            refine own_step (T' := T292) (g' := (mkF m 129 #[va a, va bs, va dA, va fA, vi (1 : Int32), vi d1, vi ac111, vi (ak111 + (1 : Int32)), vi (1 : Int32), vj ac49, .second, vi sh111, vi bn] [(.int (127 : Int32)), (.int bn), (.int ac111)])) (fun t_ k_ => XT.bipushV X293.here hx rfl (127 : Int32) (hb hby d18_127) (by decide) k_) ?_
            refine own_step (T' := T292) (g' := (mkF m 130 #[va a, va bs, va dA, va fA, vi (1 : Int32), vi d1, vi ac111, vi (ak111 + (1 : Int32)), vi (1 : Int32), vj ac49, .second, vi sh111, vi bn] [(.int (bn &&& (127 : Int32))), (.int ac111)])) (fun t_ k_ => XS.iand X293.here hx rfl (hb hby d18_129) rfl k_) ?_
            refine own_step (T' := T292) (g' := (mkF m 132 #[va a, va bs, va dA, va fA, vi (1 : Int32), vi d1, vi ac111, vi (ak111 + (1 : Int32)), vi (1 : Int32), vj ac49, .second, vi sh111, vi bn] [(.int sh111), (.int (bn &&& (127 : Int32))), (.int ac111)])) (fun t_ k_ => XS.iload X293.here hx rfl (hb hby d18_130) rfl k_) ?_
            refine own_step (T' := T292) (g' := (mkF m 133 #[va a, va bs, va dA, va fA, vi (1 : Int32), vi d1, vi ac111, vi (ak111 + (1 : Int32)), vi (1 : Int32), vj ac49, .second, vi sh111, vi bn] [(.int ((bn &&& (127 : Int32)) <<< (sh111 &&& 31))), (.int ac111)])) (fun t_ k_ => XT.ishl X293.here hx rfl (hb hby d18_132) rfl k_) ?_
            refine own_step (T' := T292) (g' := (mkF m 134 #[va a, va bs, va dA, va fA, vi (1 : Int32), vi d1, vi ac111, vi (ak111 + (1 : Int32)), vi (1 : Int32), vj ac49, .second, vi sh111, vi bn] [(.int (ac111 ||| ((bn &&& (127 : Int32)) <<< (sh111 &&& 31))))])) (fun t_ k_ => XT.ior X293.here hx rfl (hb hby d18_133) rfl k_) ?_
            refine own_step (T' := T292) (g' := (mkF m 136 #[va a, va bs, va dA, va fA, vi (1 : Int32), vi d1, vi (ac111 ||| ((bn &&& (127 : Int32)) <<< (sh111 &&& 31))), vi (ak111 + (1 : Int32)), vi (1 : Int32), vj ac49, .second, vi sh111, vi bn] [])) (fun t_ k_ => XS.istore X293.here hx rfl (hb hby d18_134) rfl (l' := #[va a, va bs, va dA, va fA, vi (1 : Int32), vi d1, vi (ac111 ||| ((bn &&& (127 : Int32)) <<< (sh111 &&& 31))), vi (ak111 + (1 : Int32)), vi (1 : Int32), vj ac49, .second, vi sh111, vi bn]) rfl k_) ?_
            refine own_step (T' := T292) (g' := (mkF m 139 #[va a, va bs, va dA, va fA, vi (1 : Int32), vi d1, vi (ac111 ||| ((bn &&& (127 : Int32)) <<< (sh111 &&& 31))), vi (ak111 + (1 : Int32)), vi (1 : Int32), vj ac49, .second, vi (sh111 + (7 : Int32)), vi bn] [])) (fun t_ k_ => XT.iincV X293.here hx rfl (7 : Int32) (hb hby d18_136) (by decide) rfl (l' := #[va a, va bs, va dA, va fA, vi (1 : Int32), vi d1, vi (ac111 ||| ((bn &&& (127 : Int32)) <<< (sh111 &&& 31))), vi (ak111 + (1 : Int32)), vi (1 : Int32), vj ac49, .second, vi (sh111 + (7 : Int32)), vi bn]) rfl k_) ?_
            exact ih _ _ _ _ _ hRn X293 e294
        exact lp111 nn111 _ _ _ _ _ hR111 X286 e287
      intro T111 ak111 ac111 sh111 bq111 X111_ e111_ hV111 hE111
      refine own_step (T' := T111) (g' := (mkF m 145 #[va a, va bs, va dA, va fA, vi (1 : Int32), vi d1, vi ac111, vi ak111, vi (1 : Int32), vj ac49, .second, vi sh111, vi bq111] [(.ref bs)])) (fun t_ k_ => XS.aloadN X111_.here hx rfl (hb hby d18_144) rfl rfl k_) ?_
      refine own_step (T' := T111) (g' := (mkF m 147 #[va a, va bs, va dA, va fA, vi (1 : Int32), vi d1, vi ac111, vi ak111, vi (1 : Int32), vj ac49, .second, vi sh111, vi bq111] [(.int d1), (.ref bs)])) (fun t_ k_ => XS.iload X111_.here hx rfl (hb hby d18_145) rfl k_) ?_
      obtain ⟨cqc297, kqc297, qac297, qbc297, qcc297⟩ := isOf hZ e111_ F190
      obtain ⟨_, _, ⟨Tc297, Lc297, kc297, nc297⟩, -, Xc297, ⟨Lcc297, hQc297, lc297, yc297, zc297⟩, stc297⟩ := X111_.virtualBack hx (y := (⟨"java/util/BitSet", "get", "(I)Z"⟩ : MethodName)) (z := (⟨"java/util/BitSet", "get", "(I)Z"⟩ : MethodName)) hown (mvT hZ (own_w (i := 135) rfl hw)) (mvT hZ (own_w (i := 136) rfl hw)) (notFace_of_selects (args := #[]) (mvT hZ (own_w (i := 138) rfl hw))) (mvT hZ (own_w (i := 138) rfl hw)) (mvT hZ (own_w (i := 137) rfl hw)) (by decide) (backOf (W := 0) (rm_get l Z a0 hw [] bs d1 h174 n0 F180 F190 F191 F192 Db) hZ (own_w (i := 140) rfl hw) (own_w (i := 139) rfl hw) (by decide) (by decide)) qac297 qcc297 (g := (mkF m 147 #[va a, va bs, va dA, va fA, vi (1 : Int32), vi d1, vi ac111, vi ak111, vi (1 : Int32), vj ac49, .second, vi sh111, vi bq111] [(.int d1), (.ref bs)])) rfl (by rw [hml]; rfl) (Steps.refl _) (argsL := [(.int d1)]) (rest := []) (lenOf pd_13 rfl) rfl (by show 2 * 0 + _ ≤ _; exact Nat.le_of_eq rfl) (hb hby d18_147) (fun _ _ => ⟨rfl, e111_, (by decide : 0 + 0 ≤ _), (by decide : 0 + 0 ≤ _)⟩)
      dsimp only [Pt.U, Pt.locs, Pt.cells, Pt.slots] at Xc297 lc297 yc297 zc297 stc297 hQc297
      subst lc297 yc297 zc297
      have X298 := Xc297.more (cells' := 0) (slots' := 0) (by decide) (by decide)
      obtain ⟨rfl, N299, e300⟩ := hQc297
      have N301 := Fr.app N196 N299
      obtain ⟨Lo302, X303, N304⟩ : ∃ Lo_, Stand p l e ({ frames := 2, cells := 0, slots := 0, locals := 26 } : Room) s m #[(.ref a), (.ref bs), (.ref dA), (.ref fA)] below meth c Tc297 Lo_ 0 0 ∧ Fr n0 Lo_ := ⟨_, X298, N301⟩
      refine own_step (T' := Tc297) (g' := (mkF m 150 #[va a, va bs, va dA, va fA, vi (1 : Int32), vi d1, vi ac111, vi ak111, vi (1 : Int32), vj ac49, .second, vi sh111, vi bq111] [(.int (nar .boolean (0 : Int32)))])) (fun t_ k_ => stc297.trans k_) ?_
      have hk305 : (nar .boolean (0 : Int32)) = 0 := (by decide)
      refine own_step (T' := Tc297) (g' := (mkF m 153 #[va a, va bs, va dA, va fA, vi (1 : Int32), vi d1, vi ac111, vi ak111, vi (1 : Int32), vj ac49, .second, vi sh111, vi bq111] [])) (fun t_ k_ => XS.ifNo X303.here hx rfl (hb hby d18_150) rfl (XT.i0_ne_f hk305) k_) ?_
      refine own_step (T' := Tc297) (g' := (mkF m 154 #[va a, va bs, va dA, va fA, vi (1 : Int32), vi d1, vi ac111, vi ak111, vi (1 : Int32), vj ac49, .second, vi sh111, vi bq111] [(.ref dA)])) (fun t_ k_ => XS.aloadN X303.here hx rfl (hb hby d18_153) rfl rfl k_) ?_
      refine own_step (T' := Tc297) (g' := (mkF m 156 #[va a, va bs, va dA, va fA, vi (1 : Int32), vi d1, vi ac111, vi ak111, vi (1 : Int32), vj ac49, .second, vi sh111, vi bq111] [(.int (1 : Int32)), (.ref dA)])) (fun t_ k_ => XS.iload X303.here hx rfl (hb hby d18_154) rfl k_) ?_
      refine own_step (T' := Tc297) (g' := (mkF m 158 #[va a, va bs, va dA, va fA, vi (1 : Int32), vi d1, vi ac111, vi ak111, vi (1 : Int32), vj ac49, .second, vi sh111, vi bq111] [(.int d1), (.int (1 : Int32)), (.ref dA)])) (fun t_ k_ => XS.iload X303.here hx rfl (hb hby d18_156) rfl k_) ?_
      obtain ⟨cl306, Ar307, Lx308⟩ := id F188
      obtain ⟨T309, h310, X311, e312, W313, st314⟩ := stI X303 hx hZ e300 Ar307 (j := (1 : Int32)) (own_inb' Lx308 (n := 2) rfl (by decide) (by decide)) (g := (mkF m 158 #[va a, va bs, va dA, va fA, vi (1 : Int32), vi d1, vi ac111, vi ak111, vi (1 : Int32), vj ac49, .second, vi sh111, vi bq111] [(.int d1), (.int (1 : Int32)), (.ref dA)])) rfl rfl (hb hby d18_158)
      have N315 := Fr.snoc X311 N304 gd
      have F316 := Nat.le_trans F180 (Keep.of_wr W313).1
      have F317 := F181.other W313 (Or.inl ne0)
      have F318 := F182.other W313 (Or.inl ne0)
      have F319 := F183.other W313 (Or.inl ne0)
      have F320 := F184.other W313 (Or.inl ne0)
      have F321 := F185.other W313 (Or.inl ne0)
      have F322 := F186.other W313 (Or.inl ne0)
      have F323 := F187.other W313 ne2
      have V324 : own_Arl Z h310 dA .int [(.int f_first), (.int d1)] := own_Arl.set' (j := (1 : Int32)) F188 W313 (i := 1) (by decide)
      have F325 := V189.other W313 (Ne.symm ne6)
      have F326 := F190.wr W313
      have F327 := F191.other W313 (Or.inl ne4)
      have F328 := F192.wr W313
      have F329 := F193.wr W313 (Or.inl (List.mem_of_getElem? (i := 0) rfl))
      obtain ⟨Lo330, X331, N332⟩ : ∃ Lo_, Stand p l e ({ frames := 2, cells := 0, slots := 0, locals := 26 } : Room) s m #[(.ref a), (.ref bs), (.ref dA), (.ref fA)] below meth c T309 Lo_ 0 0 ∧ Fr n0 Lo_ := ⟨_, X311, N315⟩
      refine own_step (T' := T309) (g' := (mkF m 159 #[va a, va bs, va dA, va fA, vi (1 : Int32), vi d1, vi ac111, vi ak111, vi (1 : Int32), vj ac49, .second, vi sh111, vi bq111] [])) st314 ?_
      refine own_step (T' := T309) (g' := (mkF m 160 #[va a, va bs, va dA, va fA, vi (1 : Int32), vi d1, vi ac111, vi ak111, vi (1 : Int32), vj ac49, .second, vi sh111, vi bq111] [(.ref fA)])) (fun t_ k_ => XS.aloadN X331.here hx rfl (hb hby d18_159) rfl rfl k_) ?_
      refine own_step (T' := T309) (g' := (mkF m 163 #[va a, va bs, va dA, va fA, vi (1 : Int32), vi d1, vi ac111, vi ak111, vi (1 : Int32), vj ac49, .second, vi sh111, vi bq111] [])) (fun t_ k_ => XS.ifnullNo X331.here hx rfl (hb hby d18_160) rfl k_) ?_
      refine own_step (T' := T309) (g' := (mkF m 164 #[va a, va bs, va dA, va fA, vi (1 : Int32), vi d1, vi ac111, vi ak111, vi (1 : Int32), vj ac49, .second, vi sh111, vi bq111] [(.ref fA)])) (fun t_ k_ => XS.aloadN X331.here hx rfl (hb hby d18_163) rfl rfl k_) ?_
      refine own_step (T' := T309) (g' := (mkF m 166 #[va a, va bs, va dA, va fA, vi (1 : Int32), vi d1, vi ac111, vi ak111, vi (1 : Int32), vj ac49, .second, vi sh111, vi bq111] [(.int (1 : Int32)), (.ref fA)])) (fun t_ k_ => XS.iload X331.here hx rfl (hb hby d18_164) rfl k_) ?_
      refine own_step (T' := T309) (g' := (mkF m 168 #[va a, va bs, va dA, va fA, vi (1 : Int32), vi d1, vi ac111, vi ak111, vi (1 : Int32), vj ac49, .second, vi sh111, vi bq111] [(.int ac111), (.int (1 : Int32)), (.ref fA)])) (fun t_ k_ => XS.iload X331.here hx rfl (hb hby d18_166) rfl k_) ?_
      obtain ⟨cl333, Ar334, Lx335⟩ := id F325
      obtain ⟨T336, h337, X338, e339, W340, st341⟩ := stI X331 hx hZ e312 Ar334 (j := (1 : Int32)) (own_inb' Lx335 (n := 2) rfl (by decide) (by decide)) (g := (mkF m 168 #[va a, va bs, va dA, va fA, vi (1 : Int32), vi d1, vi ac111, vi ak111, vi (1 : Int32), vj ac49, .second, vi sh111, vi bq111] [(.int ac111), (.int (1 : Int32)), (.ref fA)])) rfl rfl (hb hby d18_168)
      have N342 := Fr.snoc X338 N332 gf
      have F343 := Nat.le_trans F316 (Keep.of_wr W340).1
      have F344 := F317.other W340 (Or.inl ne1)
      have F345 := F318.other W340 (Or.inl ne1)
      have F346 := F319.other W340 (Or.inl ne1)
      have F347 := F320.other W340 (Or.inl ne1)
      have F348 := F321.other W340 (Or.inl ne1)
      have F349 := F322.other W340 (Or.inl ne1)
      have F350 := F323.other W340 ne3
      have F351 := V324.other W340 ne6
      have V352 : own_Arl Z h337 fA .int [(.int f_firstFrequency), (.int ac111)] := own_Arl.set' (j := (1 : Int32)) F325 W340 (i := 1) (by decide)
      have F353 := F326.wr W340
      have F354 := F327.other W340 (Or.inl ne5)
      have F355 := F328.wr W340
      have F356 := F329.wr W340 (Or.inl (List.mem_of_getElem? (i := 1) rfl))
      obtain ⟨Lo357, X358, N359⟩ : ∃ Lo_, Stand p l e ({ frames := 2, cells := 0, slots := 0, locals := 26 } : Room) s m #[(.ref a), (.ref bs), (.ref dA), (.ref fA)] below meth c T336 Lo_ 0 0 ∧ Fr n0 Lo_ := ⟨_, X338, N342⟩
      refine own_step (T' := T336) (g' := (mkF m 169 #[va a, va bs, va dA, va fA, vi (1 : Int32), vi d1, vi ac111, vi ak111, vi (1 : Int32), vj ac49, .second, vi sh111, vi bq111] [])) st341 ?_
      refine own_step (T' := T336) (g' := (mkF m 172 #[va a, va bs, va dA, va fA, vi ((1 : Int32) + (1 : Int32)), vi d1, vi ac111, vi ak111, vi (1 : Int32), vj ac49, .second, vi sh111, vi bq111] [])) (fun t_ k_ => XT.iincV X358.here hx rfl (1 : Int32) (hb hby d18_169) (by decide) rfl (l' := #[va a, va bs, va dA, va fA, vi ((1 : Int32) + (1 : Int32)), vi d1, vi ac111, vi ak111, vi (1 : Int32), vj ac49, .second, vi sh111, vi bq111]) rfl k_) ?_
      rw [(by decide : ((1 : Int32) + (1 : Int32)) = (2 : Int32))]
      refine own_step (T' := T336) (g' := (mkF m 175 #[va a, va bs, va dA, va fA, vi (2 : Int32), vi d1, vi ac111, vi ak111, vi ((1 : Int32) + (1 : Int32)), vj ac49, .second, vi sh111, vi bq111] [])) (fun t_ k_ => XT.iincV X358.here hx rfl (1 : Int32) (hb hby d18_172) (by decide) rfl (l' := #[va a, va bs, va dA, va fA, vi (2 : Int32), vi d1, vi ac111, vi ak111, vi ((1 : Int32) + (1 : Int32)), vj ac49, .second, vi sh111, vi bq111]) rfl k_) ?_
      rw [(by decide : ((1 : Int32) + (1 : Int32)) = (2 : Int32))]
      refine own_step (T' := T336) (g' := (mkF m 29 #[va a, va bs, va dA, va fA, vi (2 : Int32), vi d1, vi ac111, vi ak111, vi (2 : Int32), vj ac49, .second, vi sh111, vi bq111] [])) (fun t_ k_ => XS.goto X358.here hx rfl (pc0 := 175) (pc' := 29) rfl (hb hby d18_175) (by decide) (by decide) k_) ?_
      refine own_step (T' := T336) (g' := (mkF m 31 #[va a, va bs, va dA, va fA, vi (2 : Int32), vi d1, vi ac111, vi ak111, vi (2 : Int32), vj ac49, .second, vi sh111, vi bq111] [(.int (2 : Int32))])) (fun t_ k_ => XS.iload X358.here hx rfl (hb hby d18_29) rfl k_) ?_
      refine own_step (T' := T336) (g' := (mkF m 32 #[va a, va bs, va dA, va fA, vi (2 : Int32), vi d1, vi ac111, vi ak111, vi (2 : Int32), vj ac49, .second, vi sh111, vi bq111] [(.ref a), (.int (2 : Int32))])) (fun t_ k_ => XS.aloadN X358.here hx rfl (hb hby d18_31) rfl rfl k_) ?_
      obtain ⟨T360, X361, e362, st363⟩ := getF X358 hx hZ hown (host := "") (Or.inl (own_w (i := 44) rfl hw)) Via.refl e339 F345 (g := (mkF m 32 #[va a, va bs, va dA, va fA, vi (2 : Int32), vi d1, vi ac111, vi ak111, vi (2 : Int32), vj ac49, .second, vi sh111, vi bq111] [(.ref a), (.int (2 : Int32))])) rfl rfl (hb hby d18_32)
      refine own_step (T' := T360) (g' := (mkF m 35 #[va a, va bs, va dA, va fA, vi (2 : Int32), vi d1, vi ac111, vi ak111, vi (2 : Int32), vj ac49, .second, vi sh111, vi bq111] [(.int f_count), (.int (2 : Int32))])) st363 ?_
      have hk364 : ¬ ((2 : Int32) < f_count) := (by rw [hc]; decide)
      refine own_step (T' := T360) (g' := (mkF m 178 #[va a, va bs, va dA, va fA, vi (2 : Int32), vi d1, vi ac111, vi ak111, vi (2 : Int32), vj ac49, .second, vi sh111, vi bq111] [])) (fun t_ k_ => XS.icmpYes X361.here hx rfl (pc0 := 35) (pc' := 178) rfl (hb hby d18_35) rfl (XT.ii_ge_t hk364) (by decide) (by decide) k_) ?_
      refine own_step (T' := T360) (g' := (mkF m 180 #[va a, va bs, va dA, va fA, vi (2 : Int32), vi d1, vi ac111, vi ak111, vi (2 : Int32), vj ac49, .second, vi sh111, vi bq111] [(.int (2 : Int32))])) (fun t_ k_ => XS.iload X361.here hx rfl (hb hby d18_178) rfl k_) ?_
      exact own_retI X361 hx hlk Bd.returns (hb hby d18_180) (by rw [e362]; exact ⟨_, _, _, _, by rw [hc], N359, F356, F351, V352, own_res2 hc (own_i32 hV111)⟩) (by decide) (by decide)
theorem d17_0 : decode prog_81_method_48_code 0 = .ok (.aload_n 0, 1) := by decide +kernel
theorem d17_1 : decode prog_81_method_48_code 1 = .ok (.getfield 34, 3) := by decide +kernel
theorem d17_4 : decode prog_81_method_48_code 4 = .ok (.ifCond .eq 13, 3) := by decide +kernel
theorem d17_7 : decode prog_81_method_48_code 7 = .ok (.aload_n 0, 1) := by decide +kernel
theorem d17_8 : decode prog_81_method_48_code 8 = .ok (.aload_n 1, 1) := by decide +kernel
theorem d17_9 : decode prog_81_method_48_code 9 = .ok (.aload_n 2, 1) := by decide +kernel
theorem d17_10 : decode prog_81_method_48_code 10 = .ok (.aload_n 3, 1) := by decide +kernel
theorem d17_11 : decode prog_81_method_48_code 11 = .ok (.invokevirtual 391, 3) := by decide +kernel
theorem d17_14 : decode prog_81_method_48_code 14 = .ok (.goto 10, 3) := by decide +kernel
theorem d17_17 : decode prog_81_method_48_code 17 = .ok (.aload_n 0, 1) := by decide +kernel
theorem d17_18 : decode prog_81_method_48_code 18 = .ok (.aload_n 1, 1) := by decide +kernel
theorem d17_19 : decode prog_81_method_48_code 19 = .ok (.aload_n 2, 1) := by decide +kernel
theorem d17_20 : decode prog_81_method_48_code 20 = .ok (.aload_n 3, 1) := by decide +kernel
theorem d17_21 : decode prog_81_method_48_code 21 = .ok (.invokevirtual 394, 3) := by decide +kernel
theorem d17_24 : decode prog_81_method_48_code 24 = .ok (.ireturn, 1) := by decide +kernel
theorem pn_17 : plainFor (⟨"com/example/sedimenta/sedimenta/Postings", "decode", "(Ljava/util/BitSet;[I[I)I"⟩ : MethodName) = true := by first | exact plainFor_of_name (by first | (simp [plainName, overriddenIn]; done) | decide +kernel) | decide +kernel
theorem ef_17 (m : MethodId) (x0 : Addr) (x1 : Addr) (x2 : Addr) (x3 : Addr) : entryFrame m #[(.ref x0), (.ref x1), (.ref x2), (.ref x3)] 4 = mkF m 0 #[.val (.ref x0), .val (.ref x1), .val (.ref x2), .val (.ref x3)] [] := by first | (simp [entryFrame, mkF, argsToLocals, Value.category]; done) | rfl
def Q_17 (Z : State) (dA fA : Addr) (f_first f_firstFrequency f_count d1 f1 : Int32) (h0 : Heap) (n0 : Nat) (v : Option Value) (h : Heap) (L : List Loc) : Prop := ∃ (x0 x1 y0 y1 : Int32), v = some (.int f_count) ∧ Fr n0 L ∧ Keep h0 h [dA, fA] ∧ own_Arl Z h dA .int [(.int x0), (.int x1)] ∧ own_Arl Z h fA .int [(.int y0), (.int y1)] ∧ own_Res f_count f_first f_firstFrequency d1 f1 x0 x1 y0 y1
set_option maxRecDepth 65536 in
set_option maxHeartbeats 40000000 in
theorem rm_dec (l : Launch) (Z : State) (a0 : Array Value) (hw : ∀ d ∈ tables_1, d.before a0 Z = true) (ws : List Jvm.Cond) (a bs dA fA : Addr) (f_bytes : Addr) (f_entriesChecked : Int32) (f_count : Int32) (f_first : Int32) (f_firstFrequency : Int32) (f_firstLength : Int32) (vs : List Value) (d1 f1 : Int32) (h0 : Heap) (n0 : Nat) (Z0 : n0 ≤ h0.size) (Ff_bytes : Fld Z h0 a "com/example/sedimenta/sedimenta/Postings" "bytes" "[B" (.ref f_bytes)) (Ff_entriesChecked : Fld Z h0 a "com/example/sedimenta/sedimenta/Postings" "entriesChecked" "Z" (.int f_entriesChecked)) (Ff_count : Fld Z h0 a "com/example/sedimenta/sedimenta/Postings" "count" "I" (.int f_count)) (Ff_first : Fld Z h0 a "com/example/sedimenta/sedimenta/Postings" "first" "I" (.int f_first)) (Ff_firstFrequency : Fld Z h0 a "com/example/sedimenta/sedimenta/Postings" "firstFrequency" "I" (.int f_firstFrequency)) (Ff_firstLength : Fld Z h0 a "com/example/sedimenta/sedimenta/Postings" "firstLength" "I" (.int f_firstLength)) (Ff_offset : Fld Z h0 a "com/example/sedimenta/sedimenta/Postings" "offset" "I" (.int (0 : Int32))) (VB : own_Arl Z h0 f_bytes .byte vs) (VD : own_Arl Z h0 dA .int [(.int (0 : Int32)), (.int (0 : Int32))]) (VF : own_Arl Z h0 fA .int [(.int (0 : Int32)), (.int (0 : Int32))]) (EB : Exa Z h0 bs "java/util/BitSet") (FB0 : Fld Z h0 bs "java/util/BitSet" "wordsInUse" "I" (.int (0 : Int32))) (SA0 : Sta Z h0 "java/util/BitSet" "$assertionsDisabled" "Z" (.int (1 : Int32))) (gd : n0 ≤ dA) (gf : n0 ≤ fA) (ne0 : a ≠ dA) (ne1 : a ≠ fA) (ne2 : f_bytes ≠ dA) (ne3 : f_bytes ≠ fA) (ne4 : bs ≠ dA) (ne5 : bs ≠ fA) (ne6 : dA ≠ fA) (Hd : own_Dec vs f_count f_first f_firstLength d1 f1) (E_a : Exa Z h0 a "com/example/sedimenta/sedimenta/Postings") (hec : ¬ f_entriesChecked = 0) :
    MetFree l (⟨"com/example/sedimenta/sedimenta/Postings", "decode", "(Ljava/util/BitSet;[I[I)I"⟩ : MethodName) (head1 (Jvm.Cond.code (⟨"com/example/sedimenta/sedimenta/Postings", "decode", "(Ljava/util/BitSet;[I[I)I"⟩ : MethodName) prog_81_method_48_code 4 (some .int) :: ws) ({ frames := 3, cells := 0, slots := 0, locals := 50 } : Room)) (fun as_ U => as_ = #[(.ref a), (.ref bs), (.ref dA), (.ref fA)] ∧ Z.Warmed39 U.vm ∧ U.heap = h0) (fun _ _ _ _ _ => True) (fun _ U o U' => ∃ v L, o = .returned v ∧ Q_17 Z dA fA f_first f_firstFrequency f_count d1 f1 h0 n0 v U'.heap L ∧ FrameEnd U o U' L ({ frames := 3, cells := 0, slots := 0, locals := 50 } : Room).cells ({ frames := 3, cells := 0, slots := 0, locals := 50 } : Room).slots) := by
  refine MetFree.of_bodySF pn_17 hisR ?_
  intro p e s m args below meth c s₁ Bd hml0 hP hK
  obtain ⟨rfl, hZ, hh⟩ := hP
  have hx := Bd.exec
  have hby := Bd.bytes
  have hlk := BodyLoose.notSynchronized Bd
  have hml : c.maxLocals = 4 := hml0
  have hown : s.vm.findClass "com/example/sedimenta/sedimenta/Postings" = some m.cls := findClass_of_methodNamed Bd.named
  have hnm := (name_of_methodNamed Bd.named Bd.method).1
  have X0 : Stand p l e ({ frames := 3, cells := 0, slots := 0, locals := 50 } : Room) s m #[(.ref a), (.ref bs), (.ref dA), (.ref fA)] below meth c s₁ [] 0 0 := Stand.of_body Bd
  have e0 : s₁.heap = h0 := by rw [← hh, Bd.state]; rfl
  have N0 := Fr.nil n0
  refine own_in (ef_17 m a bs dA fA) ?_
  show own_Fin p e below s (Q_17 Z dA fA f_first f_firstFrequency f_count d1 f1 h0 n0) 0 0 s₁ (mkF m 0 #[va a, va bs, va dA, va fA] [])
  refine own_step (T' := s₁) (g' := (mkF m 1 #[va a, va bs, va dA, va fA] [(.ref a)])) (fun t_ k_ => XS.aloadN X0.here hx rfl (hb hby d17_0) rfl rfl k_) ?_
  obtain ⟨T1, X2, e3, st4⟩ := getF X0 hx hZ hown (host := "") (Or.inl (own_w (i := 28) rfl hw)) Via.refl e0 Ff_entriesChecked (g := (mkF m 1 #[va a, va bs, va dA, va fA] [(.ref a)])) rfl rfl (hb hby d17_1)
  refine own_step (T' := T1) (g' := (mkF m 4 #[va a, va bs, va dA, va fA] [(.int f_entriesChecked)])) st4 ?_
  have hk5 : ¬ (f_entriesChecked = 0) := hec
  refine own_step (T' := T1) (g' := (mkF m 7 #[va a, va bs, va dA, va fA] [])) (fun t_ k_ => XS.ifNo X2.here hx rfl (hb hby d17_4) rfl (XT.i0_eq_f hk5) k_) ?_
  refine own_step (T' := T1) (g' := (mkF m 8 #[va a, va bs, va dA, va fA] [(.ref a)])) (fun t_ k_ => XS.aloadN X2.here hx rfl (hb hby d17_7) rfl rfl k_) ?_
  refine own_step (T' := T1) (g' := (mkF m 9 #[va a, va bs, va dA, va fA] [(.ref bs), (.ref a)])) (fun t_ k_ => XS.aloadN X2.here hx rfl (hb hby d17_8) rfl rfl k_) ?_
  refine own_step (T' := T1) (g' := (mkF m 10 #[va a, va bs, va dA, va fA] [(.ref dA), (.ref bs), (.ref a)])) (fun t_ k_ => XS.aloadN X2.here hx rfl (hb hby d17_9) rfl rfl k_) ?_
  refine own_step (T' := T1) (g' := (mkF m 11 #[va a, va bs, va dA, va fA] [(.ref fA), (.ref dA), (.ref bs), (.ref a)])) (fun t_ k_ => XS.aloadN X2.here hx rfl (hb hby d17_10) rfl rfl k_) ?_
  obtain ⟨cqc6, qac6, qbc6⟩ := E_a.cell
  obtain ⟨cic6, kic6, iac6, ibc6, -, icc6, -⟩ := Cond.instantiable_spec (mvT (args := #[(.ref a), (.ref bs), (.ref dA), (.ref fA)]) hZ (own_w (i := 6) rfl hw))
  have hpc6 := Cond.privateMethod_at (mvP (args := #[(.ref a), (.ref bs), (.ref dA), (.ref fA)]) hZ (own_w (i := 133) rfl hw))
  obtain ⟨_, _, ⟨Tc6, Lc6, kc6, nc6⟩, -, Xc6, ⟨Lcc6, hQc6, lc6, yc6, zc6⟩, stc6⟩ := X2.privateBack hx (y := (⟨"com/example/sedimenta/sedimenta/Postings", "decodeChecked", "(Ljava/util/BitSet;[I[I)I"⟩ : MethodName)) hown (mvT hZ (own_w (i := 131) rfl hw)) (mvT hZ (own_w (i := 132) rfl hw)) (selects_self_of_private iac6 ibc6 (own_noface icc6) hpc6 (mvT hZ (own_w (i := 132) rfl hw)) (by decide)) hpc6 (mvT hZ (own_w (i := 134) rfl hw)) (by decide) (backOf (W := 0) (rm_dc l Z a0 hw [] a bs dA fA f_bytes f_count f_first f_firstFrequency f_firstLength vs d1 f1 h0 n0 Z0 Ff_bytes Ff_count Ff_first Ff_firstFrequency Ff_firstLength Ff_offset VB VD VF EB FB0 SA0 gd gf ne0 ne1 ne2 ne3 ne4 ne5 ne6 Hd ) hZ (own_w (i := 134) rfl hw) (own_w (i := 7) rfl hw) (by decide) (by decide)) (g := (mkF m 11 #[va a, va bs, va dA, va fA] [(.ref fA), (.ref dA), (.ref bs), (.ref a)])) rfl (by rw [hml]; rfl) (Steps.refl _) (a := a) (by rw [e3]; exact qac6) qbc6 (argsL := [(.ref bs), (.ref dA), (.ref fA)]) (rest := []) (lenOf pd_14 rfl) rfl (by show 2 * 0 + _ ≤ _; exact Nat.le_of_eq rfl) (hb hby d17_11) (fun _ _ => ⟨rfl, e3, (by decide : 0 + 0 ≤ _), (by decide : 0 + 0 ≤ _)⟩)
  dsimp only [Pt.U, Pt.locs, Pt.cells, Pt.slots] at Xc6 lc6 yc6 zc6 stc6 hQc6
  subst lc6 yc6 zc6
  have X7 := Xc6.more (cells' := 0) (slots' := 0) (by decide) (by decide)
  obtain ⟨x8, x9, y10, y11, rfl, N12, K13, V14, V15, H16⟩ := hQc6
  have N17 := Fr.app N0 N12
  have F18 := Nat.le_trans Z0 K13.1
  have F19 := (Keep.refl h0 [dA, fA]).trans K13 (allS (Or.inl (List.mem_of_getElem? (i := 0) rfl)) (allS (Or.inl (List.mem_of_getElem? (i := 1) rfl)) all0))
  obtain ⟨Lo20, X21, N22⟩ : ∃ Lo_, Stand p l e ({ frames := 3, cells := 0, slots := 0, locals := 50 } : Room) s m #[(.ref a), (.ref bs), (.ref dA), (.ref fA)] below meth c Tc6 Lo_ 0 0 ∧ Fr n0 Lo_ := ⟨_, X7, N17⟩
  refine own_step (T' := Tc6) (g' := (mkF m 14 #[va a, va bs, va dA, va fA] [(.int f_count)])) (fun t_ k_ => stc6.trans k_) ?_
  refine own_step (T' := Tc6) (g' := (mkF m 24 #[va a, va bs, va dA, va fA] [(.int f_count)])) (fun t_ k_ => XS.goto X21.here hx rfl (pc0 := 14) (pc' := 24) rfl (hb hby d17_14) (by decide) (by decide) k_) ?_
  exact own_retI X21 hx hlk Bd.returns (hb hby d17_24) (by exact ⟨_, _, _, _, rfl, N22, F19, V14, V15, H16⟩) (by decide) (by decide)
theorem d30_0 : decode method_2_code 0 = .ok (.lload_n 0, 1) := by decide +kernel
theorem d30_1 : decode method_2_code 1 = .ok (.ldc2_w 7, 3) := by decide +kernel
theorem d30_4 : decode method_2_code 4 = .ok (.lcmp, 1) := by decide +kernel
theorem d30_5 : decode method_2_code 5 = .ok (.ifCond .ge 7, 3) := by decide +kernel
theorem d30_8 : decode method_2_code 8 = .ok (.iconst 1, 1) := by decide +kernel
theorem d30_9 : decode method_2_code 9 = .ok (.goto 40, 3) := by decide +kernel
theorem d30_12 : decode method_2_code 12 = .ok (.lload_n 0, 1) := by decide +kernel
theorem d30_13 : decode method_2_code 13 = .ok (.ldc2_w 9, 3) := by decide +kernel
theorem d30_16 : decode method_2_code 16 = .ok (.lcmp, 1) := by decide +kernel
theorem d30_17 : decode method_2_code 17 = .ok (.ifCond .ge 7, 3) := by decide +kernel
theorem d30_20 : decode method_2_code 20 = .ok (.iconst 2, 1) := by decide +kernel
theorem d30_21 : decode method_2_code 21 = .ok (.goto 28, 3) := by decide +kernel
theorem d30_24 : decode method_2_code 24 = .ok (.lload_n 0, 1) := by decide +kernel
theorem d30_25 : decode method_2_code 25 = .ok (.ldc2_w 11, 3) := by decide +kernel
theorem d30_28 : decode method_2_code 28 = .ok (.lcmp, 1) := by decide +kernel
theorem d30_29 : decode method_2_code 29 = .ok (.ifCond .ge 7, 3) := by decide +kernel
theorem d30_32 : decode method_2_code 32 = .ok (.iconst 3, 1) := by decide +kernel
theorem d30_33 : decode method_2_code 33 = .ok (.goto 16, 3) := by decide +kernel
theorem d30_36 : decode method_2_code 36 = .ok (.lload_n 0, 1) := by decide +kernel
theorem d30_37 : decode method_2_code 37 = .ok (.ldc2_w 13, 3) := by decide +kernel
theorem d30_40 : decode method_2_code 40 = .ok (.lcmp, 1) := by decide +kernel
theorem d30_41 : decode method_2_code 41 = .ok (.ifCond .ge 7, 3) := by decide +kernel
theorem d30_44 : decode method_2_code 44 = .ok (.iconst 4, 1) := by decide +kernel
theorem d30_45 : decode method_2_code 45 = .ok (.goto 4, 3) := by decide +kernel
theorem d30_48 : decode method_2_code 48 = .ok (.iconst 5, 1) := by decide +kernel
theorem d30_49 : decode method_2_code 49 = .ok (.ireturn, 1) := by decide +kernel
theorem pn_30 : plainFor (⟨"com/example/sedimenta/sedimenta/PostingsTakePinLaw", "vsize", "(J)I"⟩ : MethodName) = true := by first | exact plainFor_of_name (by first | (simp [plainName, overriddenIn]; done) | decide +kernel) | decide +kernel
theorem ef_30 (m : MethodId) (x0 : Int64) : entryFrame m #[(.long x0)] 2 = mkF m 0 #[.val (.long x0), .second] [] := by first | (simp [entryFrame, mkF, argsToLocals, Value.category]; done) | rfl
def Q_30 (zz : Int64) (h0 : Heap) (n0 : Nat) (v : Option Value) (h : Heap) (L : List Loc) : Prop := v = some (.int (own_vs zz)) ∧ Fr n0 L ∧ h = h0
set_option maxRecDepth 65536 in
set_option maxHeartbeats 40000000 in
theorem rm_vs (l : Launch) (Z : State) (a0 : Array Value) (hw : ∀ d ∈ tables_1, d.before a0 Z = true) (ws : List Jvm.Cond) (zz : Int64) (h0 : Heap) (n0 : Nat) (Z0 : n0 ≤ h0.size)  :
    MetFree l (⟨"com/example/sedimenta/sedimenta/PostingsTakePinLaw", "vsize", "(J)I"⟩ : MethodName) (head1 (Jvm.Cond.code (⟨"com/example/sedimenta/sedimenta/PostingsTakePinLaw", "vsize", "(J)I"⟩ : MethodName) method_2_code 2 (some .int) :: ws) ({ frames := 0, cells := 0, slots := 0, locals := 0 } : Room)) (fun as_ U => as_ = #[(.long zz)] ∧ Z.Warmed39 U.vm ∧ U.heap = h0) (fun _ _ _ _ _ => True) (fun _ U o U' => ∃ v L, o = .returned v ∧ Q_30 zz h0 n0 v U'.heap L ∧ FrameEnd U o U' L ({ frames := 0, cells := 0, slots := 0, locals := 0 } : Room).cells ({ frames := 0, cells := 0, slots := 0, locals := 0 } : Room).slots) := by
  refine MetFree.of_bodySF pn_30 hisR ?_
  intro p e s m args below meth c s₁ Bd hml0 hP hK
  obtain ⟨rfl, hZ, hh⟩ := hP
  have hx := Bd.exec
  have hby := Bd.bytes
  have hlk := BodyLoose.notSynchronized Bd
  have hml : c.maxLocals = 2 := hml0
  have hown : s.vm.findClass "com/example/sedimenta/sedimenta/PostingsTakePinLaw" = some m.cls := findClass_of_methodNamed Bd.named
  have hnm := (name_of_methodNamed Bd.named Bd.method).1
  have X0 : Stand p l e ({ frames := 0, cells := 0, slots := 0, locals := 0 } : Room) s m #[(.long zz)] below meth c s₁ [] 0 0 := Stand.of_body Bd
  have e0 : s₁.heap = h0 := by rw [← hh, Bd.state]; rfl
  have N0 := Fr.nil n0
  refine own_in (ef_30 m zz) ?_
  show own_Fin p e below s (Q_30 zz h0 n0) 0 0 s₁ (mkF m 0 #[vj zz, .second] [])
  refine own_step (T' := s₁) (g' := (mkF m 1 #[vj zz, .second] [(.long zz)])) (fun t_ k_ => XT.lloadN X0.here hx rfl (hb hby d30_0) rfl k_) ?_
  refine own_step (T' := s₁) (g' := (mkF m 4 #[vj zz, .second] [(.long (128 : Int64)), (.long zz)])) (fun t_ k_ => X0.ldc2J hx hown (mvT hZ (own_w (i := 185) rfl hw)) rfl (hb hby d30_1) k_) ?_
  refine own_step (T' := s₁) (g' := (mkF m 5 #[vj zz, .second] [(.int (XT.cmpL zz (128 : Int64)))])) (fun t_ k_ => XT.lcmp X0.here hx rfl (hb hby d30_4) rfl k_) ?_
  suffices k2 : ∀ v3 : Int32, v3 = (if zz < (128 : Int64) then (1 : Int32) else (if zz < (16384 : Int64) then (2 : Int32) else (if zz < (2097152 : Int64) then (3 : Int32) else (if zz < (268435456 : Int64) then (4 : Int32) else (5 : Int32))))) → own_Fin p e below s (Q_30 zz h0 n0) 0 0 s₁ (mkF m 49 #[vj zz, .second] [(.int v3)]) by
    by_cases hb1 : zz < (128 : Int64)
    · refine own_step (T' := s₁) (g' := (mkF m 8 #[vj zz, .second] [])) (fun t_ k_ => XS.ifNo X0.here hx rfl (hb hby d30_5) rfl (XT.ll_ge_f hb1) k_) ?_
      refine own_step (T' := s₁) (g' := (mkF m 9 #[vj zz, .second] [(.int (1 : Int32))])) (fun t_ k_ => XT.iconstV X0.here hx rfl (1 : Int32) (hb hby d30_8) (by decide) k_) ?_
      refine own_step (T' := s₁) (g' := (mkF m 49 #[vj zz, .second] [(.int (1 : Int32))])) (fun t_ k_ => XS.goto X0.here hx rfl (pc0 := 9) (pc' := 49) rfl (hb hby d30_9) (by decide) (by decide) k_) ?_
      exact k2 _ (if_pos hb1).symm
    · refine own_step (T' := s₁) (g' := (mkF m 12 #[vj zz, .second] [])) (fun t_ k_ => XS.ifYes X0.here hx rfl (pc0 := 5) (pc' := 12) rfl (hb hby d30_5) rfl (XT.ll_ge_t hb1) (by decide) (by decide) k_) ?_
      refine own_step (T' := s₁) (g' := (mkF m 13 #[vj zz, .second] [(.long zz)])) (fun t_ k_ => XT.lloadN X0.here hx rfl (hb hby d30_12) rfl k_) ?_
      refine own_step (T' := s₁) (g' := (mkF m 16 #[vj zz, .second] [(.long (16384 : Int64)), (.long zz)])) (fun t_ k_ => X0.ldc2J hx hown (mvT hZ (own_w (i := 186) rfl hw)) rfl (hb hby d30_13) k_) ?_
      refine own_step (T' := s₁) (g' := (mkF m 17 #[vj zz, .second] [(.int (XT.cmpL zz (16384 : Int64)))])) (fun t_ k_ => XT.lcmp X0.here hx rfl (hb hby d30_16) rfl k_) ?_
      suffices k5 : ∀ v6 : Int32, v6 = (if zz < (16384 : Int64) then (2 : Int32) else (if zz < (2097152 : Int64) then (3 : Int32) else (if zz < (268435456 : Int64) then (4 : Int32) else (5 : Int32)))) → own_Fin p e below s (Q_30 zz h0 n0) 0 0 s₁ (mkF m 49 #[vj zz, .second] [(.int v6)]) by
        by_cases hb4 : zz < (16384 : Int64)
        · refine own_step (T' := s₁) (g' := (mkF m 20 #[vj zz, .second] [])) (fun t_ k_ => XS.ifNo X0.here hx rfl (hb hby d30_17) rfl (XT.ll_ge_f hb4) k_) ?_
          refine own_step (T' := s₁) (g' := (mkF m 21 #[vj zz, .second] [(.int (2 : Int32))])) (fun t_ k_ => XT.iconstV X0.here hx rfl (2 : Int32) (hb hby d30_20) (by decide) k_) ?_
          refine own_step (T' := s₁) (g' := (mkF m 49 #[vj zz, .second] [(.int (2 : Int32))])) (fun t_ k_ => XS.goto X0.here hx rfl (pc0 := 21) (pc' := 49) rfl (hb hby d30_21) (by decide) (by decide) k_) ?_
          exact k5 _ (if_pos hb4).symm
        · refine own_step (T' := s₁) (g' := (mkF m 24 #[vj zz, .second] [])) (fun t_ k_ => XS.ifYes X0.here hx rfl (pc0 := 17) (pc' := 24) rfl (hb hby d30_17) rfl (XT.ll_ge_t hb4) (by decide) (by decide) k_) ?_
          refine own_step (T' := s₁) (g' := (mkF m 25 #[vj zz, .second] [(.long zz)])) (fun t_ k_ => XT.lloadN X0.here hx rfl (hb hby d30_24) rfl k_) ?_
          refine own_step (T' := s₁) (g' := (mkF m 28 #[vj zz, .second] [(.long (2097152 : Int64)), (.long zz)])) (fun t_ k_ => X0.ldc2J hx hown (mvT hZ (own_w (i := 187) rfl hw)) rfl (hb hby d30_25) k_) ?_
          refine own_step (T' := s₁) (g' := (mkF m 29 #[vj zz, .second] [(.int (XT.cmpL zz (2097152 : Int64)))])) (fun t_ k_ => XT.lcmp X0.here hx rfl (hb hby d30_28) rfl k_) ?_
          suffices k8 : ∀ v9 : Int32, v9 = (if zz < (2097152 : Int64) then (3 : Int32) else (if zz < (268435456 : Int64) then (4 : Int32) else (5 : Int32))) → own_Fin p e below s (Q_30 zz h0 n0) 0 0 s₁ (mkF m 49 #[vj zz, .second] [(.int v9)]) by
            by_cases hb7 : zz < (2097152 : Int64)
            · refine own_step (T' := s₁) (g' := (mkF m 32 #[vj zz, .second] [])) (fun t_ k_ => XS.ifNo X0.here hx rfl (hb hby d30_29) rfl (XT.ll_ge_f hb7) k_) ?_
              refine own_step (T' := s₁) (g' := (mkF m 33 #[vj zz, .second] [(.int (3 : Int32))])) (fun t_ k_ => XT.iconstV X0.here hx rfl (3 : Int32) (hb hby d30_32) (by decide) k_) ?_
              refine own_step (T' := s₁) (g' := (mkF m 49 #[vj zz, .second] [(.int (3 : Int32))])) (fun t_ k_ => XS.goto X0.here hx rfl (pc0 := 33) (pc' := 49) rfl (hb hby d30_33) (by decide) (by decide) k_) ?_
              exact k8 _ (if_pos hb7).symm
            · refine own_step (T' := s₁) (g' := (mkF m 36 #[vj zz, .second] [])) (fun t_ k_ => XS.ifYes X0.here hx rfl (pc0 := 29) (pc' := 36) rfl (hb hby d30_29) rfl (XT.ll_ge_t hb7) (by decide) (by decide) k_) ?_
              refine own_step (T' := s₁) (g' := (mkF m 37 #[vj zz, .second] [(.long zz)])) (fun t_ k_ => XT.lloadN X0.here hx rfl (hb hby d30_36) rfl k_) ?_
              refine own_step (T' := s₁) (g' := (mkF m 40 #[vj zz, .second] [(.long (268435456 : Int64)), (.long zz)])) (fun t_ k_ => X0.ldc2J hx hown (mvT hZ (own_w (i := 188) rfl hw)) rfl (hb hby d30_37) k_) ?_
              refine own_step (T' := s₁) (g' := (mkF m 41 #[vj zz, .second] [(.int (XT.cmpL zz (268435456 : Int64)))])) (fun t_ k_ => XT.lcmp X0.here hx rfl (hb hby d30_40) rfl k_) ?_
              suffices k11 : ∀ v12 : Int32, v12 = (if zz < (268435456 : Int64) then (4 : Int32) else (5 : Int32)) → own_Fin p e below s (Q_30 zz h0 n0) 0 0 s₁ (mkF m 49 #[vj zz, .second] [(.int v12)]) by
                by_cases hb10 : zz < (268435456 : Int64)
                · refine own_step (T' := s₁) (g' := (mkF m 44 #[vj zz, .second] [])) (fun t_ k_ => XS.ifNo X0.here hx rfl (hb hby d30_41) rfl (XT.ll_ge_f hb10) k_) ?_
                  refine own_step (T' := s₁) (g' := (mkF m 45 #[vj zz, .second] [(.int (4 : Int32))])) (fun t_ k_ => XT.iconstV X0.here hx rfl (4 : Int32) (hb hby d30_44) (by decide) k_) ?_
                  refine own_step (T' := s₁) (g' := (mkF m 49 #[vj zz, .second] [(.int (4 : Int32))])) (fun t_ k_ => XS.goto X0.here hx rfl (pc0 := 45) (pc' := 49) rfl (hb hby d30_45) (by decide) (by decide) k_) ?_
                  exact k11 _ (if_pos hb10).symm
                · refine own_step (T' := s₁) (g' := (mkF m 48 #[vj zz, .second] [])) (fun t_ k_ => XS.ifYes X0.here hx rfl (pc0 := 41) (pc' := 48) rfl (hb hby d30_41) rfl (XT.ll_ge_t hb10) (by decide) (by decide) k_) ?_
                  refine own_step (T' := s₁) (g' := (mkF m 49 #[vj zz, .second] [(.int (5 : Int32))])) (fun t_ k_ => XT.iconstV X0.here hx rfl (5 : Int32) (hb hby d30_48) (by decide) k_) ?_
                  exact k11 _ (if_neg hb10).symm
              rintro _ rfl
              exact k8 _ (if_neg hb7).symm
          rintro _ rfl
          exact k5 _ (if_neg hb4).symm
      rintro _ rfl
      exact k2 _ (if_neg hb1).symm
  intro v3 hv3
  exact own_retI X0 hx hlk Bd.returns (hb hby d30_49) (by rw [e0]; exact ⟨by rw [hv3] <;> rfl, N0, rfl⟩) (by decide) (by decide)
theorem d29_0 : decode method_3_code 0 = .ok (.iload_n 0, 1) := by decide +kernel
theorem d29_1 : decode method_3_code 1 = .ok (.i2l, 1) := by decide +kernel
theorem d29_2 : decode method_3_code 2 = .ok (.iconst 1, 1) := by decide +kernel
theorem d29_3 : decode method_3_code 3 = .ok (.lshl, 1) := by decide +kernel
theorem d29_4 : decode method_3_code 4 = .ok (.iload_n 1, 1) := by decide +kernel
theorem d29_5 : decode method_3_code 5 = .ok (.iconst 1, 1) := by decide +kernel
theorem d29_6 : decode method_3_code 6 = .ok (.if_icmp .ne 7, 3) := by decide +kernel
theorem d29_9 : decode method_3_code 9 = .ok (.lconst 1, 1) := by decide +kernel
theorem d29_10 : decode method_3_code 10 = .ok (.goto 4, 3) := by decide +kernel
theorem d29_13 : decode method_3_code 13 = .ok (.lconst 0, 1) := by decide +kernel
theorem d29_14 : decode method_3_code 14 = .ok (.lor, 1) := by decide +kernel
theorem d29_15 : decode method_3_code 15 = .ok (.invokestatic 15, 3) := by decide +kernel
theorem d29_18 : decode method_3_code 18 = .ok (.istore_n 2, 1) := by decide +kernel
theorem d29_19 : decode method_3_code 19 = .ok (.iload_n 1, 1) := by decide +kernel
theorem d29_20 : decode method_3_code 20 = .ok (.iconst 1, 1) := by decide +kernel
theorem d29_21 : decode method_3_code 21 = .ok (.if_icmp .ne 7, 3) := by decide +kernel
theorem d29_24 : decode method_3_code 24 = .ok (.iload_n 2, 1) := by decide +kernel
theorem d29_25 : decode method_3_code 25 = .ok (.goto 10, 3) := by decide +kernel
theorem d29_28 : decode method_3_code 28 = .ok (.iload_n 2, 1) := by decide +kernel
theorem d29_29 : decode method_3_code 29 = .ok (.iload_n 1, 1) := by decide +kernel
theorem d29_30 : decode method_3_code 30 = .ok (.i2l, 1) := by decide +kernel
theorem d29_31 : decode method_3_code 31 = .ok (.invokestatic 15, 3) := by decide +kernel
theorem d29_34 : decode method_3_code 34 = .ok (.iadd, 1) := by decide +kernel
theorem d29_35 : decode method_3_code 35 = .ok (.ireturn, 1) := by decide +kernel
theorem pn_29 : plainFor (⟨"com/example/sedimenta/sedimenta/PostingsTakePinLaw", "entrySize", "(II)I"⟩ : MethodName) = true := by first | exact plainFor_of_name (by first | (simp [plainName, overriddenIn]; done) | decide +kernel) | decide +kernel
theorem ef_29 (m : MethodId) (x0 : Int32) (x1 : Int32) : entryFrame m #[(.int x0), (.int x1)] 3 = mkF m 0 #[.val (.int x0), .val (.int x1), .unset] [] := by first | (simp [entryFrame, mkF, argsToLocals, Value.category]; done) | rfl
def Q_29 (gp fq : Int32) (h0 : Heap) (n0 : Nat) (v : Option Value) (h : Heap) (L : List Loc) : Prop := v = some (.int (own_es gp fq)) ∧ Fr n0 L ∧ h = h0
set_option maxRecDepth 65536 in
set_option maxHeartbeats 40000000 in
theorem rm_es (l : Launch) (Z : State) (a0 : Array Value) (hw : ∀ d ∈ tables_1, d.before a0 Z = true) (ws : List Jvm.Cond) (gp fq : Int32) (h0 : Heap) (n0 : Nat) (Z0 : n0 ≤ h0.size)  :
    MetFree l (⟨"com/example/sedimenta/sedimenta/PostingsTakePinLaw", "entrySize", "(II)I"⟩ : MethodName) (head1 (Jvm.Cond.code (⟨"com/example/sedimenta/sedimenta/PostingsTakePinLaw", "entrySize", "(II)I"⟩ : MethodName) method_3_code 3 (some .int) :: ws) ({ frames := 1, cells := 0, slots := 0, locals := 14 } : Room)) (fun as_ U => as_ = #[(.int gp), (.int fq)] ∧ Z.Warmed39 U.vm ∧ U.heap = h0) (fun _ _ _ _ _ => True) (fun _ U o U' => ∃ v L, o = .returned v ∧ Q_29 gp fq h0 n0 v U'.heap L ∧ FrameEnd U o U' L ({ frames := 1, cells := 0, slots := 0, locals := 14 } : Room).cells ({ frames := 1, cells := 0, slots := 0, locals := 14 } : Room).slots) := by
  refine MetFree.of_bodySF pn_29 hisR ?_
  intro p e s m args below meth c s₁ Bd hml0 hP hK
  obtain ⟨rfl, hZ, hh⟩ := hP
  have hx := Bd.exec
  have hby := Bd.bytes
  have hlk := BodyLoose.notSynchronized Bd
  have hml : c.maxLocals = 3 := hml0
  have hown : s.vm.findClass "com/example/sedimenta/sedimenta/PostingsTakePinLaw" = some m.cls := findClass_of_methodNamed Bd.named
  have hnm := (name_of_methodNamed Bd.named Bd.method).1
  have X0 : Stand p l e ({ frames := 1, cells := 0, slots := 0, locals := 14 } : Room) s m #[(.int gp), (.int fq)] below meth c s₁ [] 0 0 := Stand.of_body Bd
  have e0 : s₁.heap = h0 := by rw [← hh, Bd.state]; rfl
  have N0 := Fr.nil n0
  refine own_in (ef_29 m gp fq) ?_
  show own_Fin p e below s (Q_29 gp fq h0 n0) 0 0 s₁ (mkF m 0 #[vi gp, vi fq, un] [])
  refine own_step (T' := s₁) (g' := (mkF m 1 #[vi gp, vi fq, un] [(.int gp)])) (fun t_ k_ => XS.iloadN X0.here hx rfl (hb hby d29_0) rfl k_) ?_
  refine own_step (T' := s₁) (g' := (mkF m 2 #[vi gp, vi fq, un] [(.long ((gp).toInt64))])) (fun t_ k_ => XT.i2l X0.here hx rfl (hb hby d29_1) rfl k_) ?_
  refine own_step (T' := s₁) (g' := (mkF m 3 #[vi gp, vi fq, un] [(.int (1 : Int32)), (.long ((gp).toInt64))])) (fun t_ k_ => XT.iconstV X0.here hx rfl (1 : Int32) (hb hby d29_2) (by decide) k_) ?_
  refine own_step (T' := s₁) (g' := (mkF m 4 #[vi gp, vi fq, un] [(.long (((gp).toInt64) <<< (((1 : Int32)).toInt64 &&& 63)))])) (fun t_ k_ => XT.lshl X0.here hx rfl (hb hby d29_3) rfl k_) ?_
  refine own_step (T' := s₁) (g' := (mkF m 5 #[vi gp, vi fq, un] [(.int fq), (.long (((gp).toInt64) <<< (((1 : Int32)).toInt64 &&& 63)))])) (fun t_ k_ => XS.iloadN X0.here hx rfl (hb hby d29_4) rfl k_) ?_
  refine own_step (T' := s₁) (g' := (mkF m 6 #[vi gp, vi fq, un] [(.int (1 : Int32)), (.int fq), (.long (((gp).toInt64) <<< (((1 : Int32)).toInt64 &&& 63)))])) (fun t_ k_ => XT.iconstV X0.here hx rfl (1 : Int32) (hb hby d29_5) (by decide) k_) ?_
  suffices k2 : ∀ v3 : Int64, v3 = (if fq = (1 : Int32) then (1 : Int64) else (0 : Int64)) → own_Fin p e below s (Q_29 gp fq h0 n0) 0 0 s₁ (mkF m 14 #[vi gp, vi fq, un] [(.long v3), (.long (((gp).toInt64) <<< (((1 : Int32)).toInt64 &&& 63)))]) by
    by_cases hb1 : fq = (1 : Int32)
    · refine own_step (T' := s₁) (g' := (mkF m 9 #[vi gp, vi fq, un] [(.long (((gp).toInt64) <<< (((1 : Int32)).toInt64 &&& 63)))])) (fun t_ k_ => XS.icmpNo X0.here hx rfl (hb hby d29_6) rfl (XT.ii_ne_f hb1) k_) ?_
      refine own_step (T' := s₁) (g' := (mkF m 10 #[vi gp, vi fq, un] [(.long (1 : Int64)), (.long (((gp).toInt64) <<< (((1 : Int32)).toInt64 &&& 63)))])) (fun t_ k_ => XT.lconstV X0.here hx rfl (1 : Int64) (hb hby d29_9) (by decide) k_) ?_
      refine own_step (T' := s₁) (g' := (mkF m 14 #[vi gp, vi fq, un] [(.long (1 : Int64)), (.long (((gp).toInt64) <<< (((1 : Int32)).toInt64 &&& 63)))])) (fun t_ k_ => XS.goto X0.here hx rfl (pc0 := 10) (pc' := 14) rfl (hb hby d29_10) (by decide) (by decide) k_) ?_
      exact k2 _ (if_pos hb1).symm
    · refine own_step (T' := s₁) (g' := (mkF m 13 #[vi gp, vi fq, un] [(.long (((gp).toInt64) <<< (((1 : Int32)).toInt64 &&& 63)))])) (fun t_ k_ => XS.icmpYes X0.here hx rfl (pc0 := 6) (pc' := 13) rfl (hb hby d29_6) rfl (XT.ii_ne_t hb1) (by decide) (by decide) k_) ?_
      refine own_step (T' := s₁) (g' := (mkF m 14 #[vi gp, vi fq, un] [(.long (0 : Int64)), (.long (((gp).toInt64) <<< (((1 : Int32)).toInt64 &&& 63)))])) (fun t_ k_ => XT.lconstV X0.here hx rfl (0 : Int64) (hb hby d29_13) (by decide) k_) ?_
      exact k2 _ (if_neg hb1).symm
  intro v3 hv3
  refine own_step (T' := s₁) (g' := (mkF m 15 #[vi gp, vi fq, un] [(.long ((((gp).toInt64) <<< (((1 : Int32)).toInt64 &&& 63)) ||| v3))])) (fun t_ k_ => XT.lor X0.here hx rfl (hb hby d29_14) rfl k_) ?_
  obtain ⟨_, _, ⟨Tc4, Lc4, kc4, nc4⟩, -, Xc4, ⟨Lcc4, hQc4, lc4, yc4, zc4⟩, stc4⟩ := Jvm.LawKit.callS X0 hx (y := (⟨"com/example/sedimenta/sedimenta/PostingsTakePinLaw", "vsize", "(J)I"⟩ : MethodName)) hown (mvT hZ (own_w (i := 182) rfl hw)) (mvT hZ (own_w (i := 183) rfl hw)) (mvT hZ (own_w (i := 180) rfl hw)) (mvT hZ (own_w (i := 184) rfl hw)) (by decide) (backOf (W := 0) (rm_vs l Z a0 hw [] (((((gp).toInt64) <<< (((1 : Int32)).toInt64 &&& 63)) ||| v3)) h0 n0 Z0) hZ (own_w (i := 184) rfl hw) (own_w (i := 180) rfl hw) (by decide) (by decide)) (g := (mkF m 15 #[vi gp, vi fq, un] [(.long ((((gp).toInt64) <<< (((1 : Int32)).toInt64 &&& 63)) ||| v3))])) rfl (by rw [hml]; rfl) (argsL := [(.long ((((gp).toInt64) <<< (((1 : Int32)).toInt64 &&& 63)) ||| v3))]) (rest := []) (lenOf pd_15 rfl) rfl (by show 2 * 0 + _ ≤ _; exact Nat.le_of_eq rfl) (hb hby d29_15) (fun _ _ => ⟨rfl, e0, (by decide : 0 + 0 ≤ _), (by decide : 0 + 0 ≤ _)⟩)
  dsimp only [Pt.U, Pt.locs, Pt.cells, Pt.slots] at Xc4 lc4 yc4 zc4 stc4 hQc4
  subst lc4 yc4 zc4
  have X5 := Xc4.more (cells' := 0) (slots' := 0) (by decide) (by decide)
  obtain ⟨rfl, N6, e7⟩ := hQc4
  have N8 := Fr.app N0 N6
  obtain ⟨Lo9, X10, N11⟩ : ∃ Lo_, Stand p l e ({ frames := 1, cells := 0, slots := 0, locals := 14 } : Room) s m #[(.int gp), (.int fq)] below meth c Tc4 Lo_ 0 0 ∧ Fr n0 Lo_ := ⟨_, X5, N8⟩
  refine own_step (T' := Tc4) (g' := (mkF m 18 #[vi gp, vi fq, un] [(.int (own_vs ((((gp).toInt64) <<< (((1 : Int32)).toInt64 &&& 63)) ||| v3)))])) stc4 ?_
  refine own_step (T' := Tc4) (g' := (mkF m 19 #[vi gp, vi fq, vi (own_vs ((((gp).toInt64) <<< (((1 : Int32)).toInt64 &&& 63)) ||| v3))] [])) (fun t_ k_ => XS.istoreN X10.here hx rfl (hb hby d29_18) rfl (l' := #[vi gp, vi fq, vi (own_vs ((((gp).toInt64) <<< (((1 : Int32)).toInt64 &&& 63)) ||| v3))]) rfl k_) ?_
  refine own_step (T' := Tc4) (g' := (mkF m 20 #[vi gp, vi fq, vi (own_vs ((((gp).toInt64) <<< (((1 : Int32)).toInt64 &&& 63)) ||| v3))] [(.int fq)])) (fun t_ k_ => XS.iloadN X10.here hx rfl (hb hby d29_19) rfl k_) ?_
  refine own_step (T' := Tc4) (g' := (mkF m 21 #[vi gp, vi fq, vi (own_vs ((((gp).toInt64) <<< (((1 : Int32)).toInt64 &&& 63)) ||| v3))] [(.int (1 : Int32)), (.int fq)])) (fun t_ k_ => XT.iconstV X10.here hx rfl (1 : Int32) (hb hby d29_20) (by decide) k_) ?_
  by_cases hb12 : fq = (1 : Int32)
  · refine own_step (T' := Tc4) (g' := (mkF m 24 #[vi gp, vi fq, vi (own_vs ((((gp).toInt64) <<< (((1 : Int32)).toInt64 &&& 63)) ||| v3))] [])) (fun t_ k_ => XS.icmpNo X10.here hx rfl (hb hby d29_21) rfl (XT.ii_ne_f hb12) k_) ?_
    refine own_step (T' := Tc4) (g' := (mkF m 25 #[vi gp, vi fq, vi (own_vs ((((gp).toInt64) <<< (((1 : Int32)).toInt64 &&& 63)) ||| v3))] [(.int (own_vs ((((gp).toInt64) <<< (((1 : Int32)).toInt64 &&& 63)) ||| v3)))])) (fun t_ k_ => XS.iloadN X10.here hx rfl (hb hby d29_24) rfl k_) ?_
    refine own_step (T' := Tc4) (g' := (mkF m 35 #[vi gp, vi fq, vi (own_vs ((((gp).toInt64) <<< (((1 : Int32)).toInt64 &&& 63)) ||| v3))] [(.int (own_vs ((((gp).toInt64) <<< (((1 : Int32)).toInt64 &&& 63)) ||| v3)))])) (fun t_ k_ => XS.goto X10.here hx rfl (pc0 := 25) (pc' := 35) rfl (hb hby d29_25) (by decide) (by decide) k_) ?_
    exact own_retI X10 hx hlk Bd.returns (hb hby d29_35) (by rw [e7]; exact ⟨by rw [hv3, own_es_1 hb12], N11, rfl⟩) (by decide) (by decide)
  · refine own_step (T' := Tc4) (g' := (mkF m 28 #[vi gp, vi fq, vi (own_vs ((((gp).toInt64) <<< (((1 : Int32)).toInt64 &&& 63)) ||| v3))] [])) (fun t_ k_ => XS.icmpYes X10.here hx rfl (pc0 := 21) (pc' := 28) rfl (hb hby d29_21) rfl (XT.ii_ne_t hb12) (by decide) (by decide) k_) ?_
    refine own_step (T' := Tc4) (g' := (mkF m 29 #[vi gp, vi fq, vi (own_vs ((((gp).toInt64) <<< (((1 : Int32)).toInt64 &&& 63)) ||| v3))] [(.int (own_vs ((((gp).toInt64) <<< (((1 : Int32)).toInt64 &&& 63)) ||| v3)))])) (fun t_ k_ => XS.iloadN X10.here hx rfl (hb hby d29_28) rfl k_) ?_
    refine own_step (T' := Tc4) (g' := (mkF m 30 #[vi gp, vi fq, vi (own_vs ((((gp).toInt64) <<< (((1 : Int32)).toInt64 &&& 63)) ||| v3))] [(.int fq), (.int (own_vs ((((gp).toInt64) <<< (((1 : Int32)).toInt64 &&& 63)) ||| v3)))])) (fun t_ k_ => XS.iloadN X10.here hx rfl (hb hby d29_29) rfl k_) ?_
    refine own_step (T' := Tc4) (g' := (mkF m 31 #[vi gp, vi fq, vi (own_vs ((((gp).toInt64) <<< (((1 : Int32)).toInt64 &&& 63)) ||| v3))] [(.long ((fq).toInt64)), (.int (own_vs ((((gp).toInt64) <<< (((1 : Int32)).toInt64 &&& 63)) ||| v3)))])) (fun t_ k_ => XT.i2l X10.here hx rfl (hb hby d29_30) rfl k_) ?_
    obtain ⟨_, _, ⟨Tc13, Lc13, kc13, nc13⟩, -, Xc13, ⟨Lcc13, hQc13, lc13, yc13, zc13⟩, stc13⟩ := Jvm.LawKit.callS X10 hx (y := (⟨"com/example/sedimenta/sedimenta/PostingsTakePinLaw", "vsize", "(J)I"⟩ : MethodName)) hown (mvT hZ (own_w (i := 182) rfl hw)) (mvT hZ (own_w (i := 183) rfl hw)) (mvT hZ (own_w (i := 180) rfl hw)) (mvT hZ (own_w (i := 184) rfl hw)) (by decide) (backOf (W := 1) (rm_vs l Z a0 hw [] (((fq).toInt64)) h0 n0 Z0) hZ (own_w (i := 184) rfl hw) (own_w (i := 180) rfl hw) (by decide) (by decide)) (g := (mkF m 31 #[vi gp, vi fq, vi (own_vs ((((gp).toInt64) <<< (((1 : Int32)).toInt64 &&& 63)) ||| v3))] [(.long ((fq).toInt64)), (.int (own_vs ((((gp).toInt64) <<< (((1 : Int32)).toInt64 &&& 63)) ||| v3)))])) rfl (by rw [hml]; rfl) (argsL := [(.long ((fq).toInt64))]) (rest := [(.int (own_vs ((((gp).toInt64) <<< (((1 : Int32)).toInt64 &&& 63)) ||| v3)))]) (lenOf pd_15 rfl) rfl (by show 2 * 0 + _ ≤ _; exact Nat.le_of_eq rfl) (hb hby d29_31) (fun _ _ => ⟨rfl, e7, (by decide : 0 + 0 ≤ _), (by decide : 0 + 0 ≤ _)⟩)
    dsimp only [Pt.U, Pt.locs, Pt.cells, Pt.slots] at Xc13 lc13 yc13 zc13 stc13 hQc13
    subst lc13 yc13 zc13
    have X14 := Xc13.more (cells' := 0) (slots' := 0) (by decide) (by decide)
    obtain ⟨rfl, N15, e16⟩ := hQc13
    have N17 := Fr.app N11 N15
    obtain ⟨Lo18, X19, N20⟩ : ∃ Lo_, Stand p l e ({ frames := 1, cells := 0, slots := 0, locals := 14 } : Room) s m #[(.int gp), (.int fq)] below meth c Tc13 Lo_ 0 0 ∧ Fr n0 Lo_ := ⟨_, X14, N17⟩
    refine own_step (T' := Tc13) (g' := (mkF m 34 #[vi gp, vi fq, vi (own_vs ((((gp).toInt64) <<< (((1 : Int32)).toInt64 &&& 63)) ||| v3))] [(.int (own_vs ((fq).toInt64))), (.int (own_vs ((((gp).toInt64) <<< (((1 : Int32)).toInt64 &&& 63)) ||| v3)))])) stc13 ?_
    refine own_step (T' := Tc13) (g' := (mkF m 35 #[vi gp, vi fq, vi (own_vs ((((gp).toInt64) <<< (((1 : Int32)).toInt64 &&& 63)) ||| v3))] [(.int ((own_vs ((((gp).toInt64) <<< (((1 : Int32)).toInt64 &&& 63)) ||| v3)) + (own_vs ((fq).toInt64))))])) (fun t_ k_ => XS.iadd X19.here hx rfl (hb hby d29_34) rfl k_) ?_
    exact own_retI X19 hx hlk Bd.returns (hb hby d29_35) (by rw [e16]; exact ⟨by rw [hv3, own_es_2 hb12], N20, rfl⟩) (by decide) (by decide)
theorem pn_31 : plainFor x = true := by first | exact plainFor_of_name (by first | (simp [plainName, overriddenIn]; done) | decide +kernel) | decide +kernel
theorem ef_31 (m : MethodId) (x0 : Int32) (x1 : Int32) (x2 : Int32) (x3 : Int32) (x4 : Int32) (x5 : Int32) : entryFrame m #[(.int x0), (.int x1), (.int x2), (.int x3), (.int x4), (.int x5)] maxLocals = mkF m 0 #[.val (.int x0), .val (.int x1), .val (.int x2), .val (.int x3), .val (.int x4), .val (.int x5), .unset, .unset, .unset, .unset, .unset, .unset, .unset, .unset, .unset, .unset, .unset, .unset, .unset, .unset, .unset, .unset, .unset, .unset, .unset, .unset] [] := by first | (simp [entryFrame, mkF, argsToLocals, Value.category, maxLocals]; done) | rfl
def Q_31 (h0 : Heap) (n0 : Nat) (v : Option Value) (h : Heap) (L : List Loc) : Prop := v = some (.int 1) ∧ Fr n0 L
set_option maxRecDepth 65536 in
set_option maxHeartbeats 40000000 in
theorem rm_law (l : Launch) (Z : State) (a0 : Array Value) (hw : ∀ d ∈ tables_1, d.before a0 Z = true) (ws : List Jvm.Cond) (u1 u2 u3 u4 u5 u6 : Int32) (bs : Addr) (h0 : Heap) (n0 : Nat) (Z0 : n0 ≤ h0.size) (O0 : Old Z n0 h0) (S0 : Sta Z Z.heap "com/example/sedimenta/sedimenta/Postings" "NONE_DELETED" "Ljava/util/BitSet;" (.ref bs)) (EB0 : Exa Z Z.heap bs "java/util/BitSet") (FB0 : Fld Z Z.heap bs "java/util/BitSet" "wordsInUse" "I" (.int (0 : Int32))) (SA0 : Sta Z Z.heap "java/util/BitSet" "$assertionsDisabled" "Z" (.int (1 : Int32))) :
    MetFree l x (head1 (Jvm.Cond.code x code maxLocals ret :: ws) room_1) (fun as_ U => as_ = #[(.int u1), (.int u2), (.int u3), (.int u4), (.int u5), (.int u6)] ∧ Z.Warmed39 U.vm ∧ U.heap = h0) (fun _ _ _ _ _ => True) (fun _ U o U' => ∃ v L, o = .returned v ∧ Q_31 h0 n0 v U'.heap L ∧ FrameEnd U o U' L 14 220) := by
  refine MetFree.of_bodySF pn_31 hisR ?_
  intro p e s m args below meth c s₁ Bd hml0 hP hK
  obtain ⟨rfl, hZ, hh⟩ := hP
  have hx := Bd.exec
  have hby := Bd.bytes
  have hlk := BodyLoose.notSynchronized Bd
  have hml : c.maxLocals = 26 := hml0
  have hown : s.vm.findClass "com/example/sedimenta/sedimenta/PostingsTakePinLaw" = some m.cls := findClass_of_methodNamed Bd.named
  have hnm := (name_of_methodNamed Bd.named Bd.method).1
  have X0 : Stand p l e room_1 s m #[(.int u1), (.int u2), (.int u3), (.int u4), (.int u5), (.int u6)] below meth c s₁ [] 0 0 := Stand.of_body Bd
  have e0 : s₁.heap = h0 := by rw [← hh, Bd.state]; rfl
  have N0 := Fr.nil n0
  refine own_in (ef_31 m u1 u2 u3 u4 u5 u6) ?_
  show own_Fin p e below s (Q_31 h0 n0) 14 220 s₁ (mkF m 0 #[vi u1, vi u2, vi u3, vi u4, vi u5, vi u6, un, un, un, un, un, un, un, un, un, un, un, un, un, un, un, un, un, un, un, un] [])
  refine own_step (T' := s₁) (g' := (mkF m 1 #[vi u1, vi u2, vi u3, vi u4, vi u5, vi u6, un, un, un, un, un, un, un, un, un, un, un, un, un, un, un, un, un, un, un, un] [(.int u1)])) (fun t_ k_ => XS.iloadN X0.here hx rfl (hb hby at_0) rfl k_) ?_
  refine own_step (T' := s₁) (g' := (mkF m 2 #[vi u1, vi u2, vi u3, vi u4, vi u5, vi u6, un, un, un, un, un, un, un, un, un, un, un, un, un, un, un, un, un, un, un, un] [(.int (1 : Int32)), (.int u1)])) (fun t_ k_ => XT.iconstV X0.here hx rfl (1 : Int32) (hb hby at_1) (by decide) k_) ?_
  refine own_step (T' := s₁) (g' := (mkF m 3 #[vi u1, vi u2, vi u3, vi u4, vi u5, vi u6, un, un, un, un, un, un, un, un, un, un, un, un, un, un, un, un, un, un, un, un] [(.int (u1 &&& (1 : Int32)))])) (fun t_ k_ => XS.iand X0.here hx rfl (hb hby at_2) rfl k_) ?_
  suffices k2 : ∀ v3 : Int32, v3 = (if (u1 &&& (1 : Int32)) = 0 then (0 : Int32) else (1 : Int32)) → own_Fin p e below s (Q_31 h0 n0) 14 220 s₁ (mkF m 11 #[vi u1, vi u2, vi u3, vi u4, vi u5, vi u6, un, un, un, un, un, un, un, un, un, un, un, un, un, un, un, un, un, un, un, un] [(.int v3)]) by
    by_cases hb1 : (u1 &&& (1 : Int32)) = 0
    · refine own_step (T' := s₁) (g' := (mkF m 10 #[vi u1, vi u2, vi u3, vi u4, vi u5, vi u6, un, un, un, un, un, un, un, un, un, un, un, un, un, un, un, un, un, un, un, un] [])) (fun t_ k_ => XS.ifYes X0.here hx rfl (pc0 := 3) (pc' := 10) rfl (hb hby at_3) rfl (XT.i0_eq_t hb1) (by decide) (by decide) k_) ?_
      refine own_step (T' := s₁) (g' := (mkF m 11 #[vi u1, vi u2, vi u3, vi u4, vi u5, vi u6, un, un, un, un, un, un, un, un, un, un, un, un, un, un, un, un, un, un, un, un] [(.int (0 : Int32))])) (fun t_ k_ => XT.iconstV X0.here hx rfl (0 : Int32) (hb hby at_10) (by decide) k_) ?_
      exact k2 _ (if_pos hb1).symm
    · refine own_step (T' := s₁) (g' := (mkF m 6 #[vi u1, vi u2, vi u3, vi u4, vi u5, vi u6, un, un, un, un, un, un, un, un, un, un, un, un, un, un, un, un, un, un, un, un] [])) (fun t_ k_ => XS.ifNo X0.here hx rfl (hb hby at_3) rfl (XT.i0_eq_f hb1) k_) ?_
      refine own_step (T' := s₁) (g' := (mkF m 7 #[vi u1, vi u2, vi u3, vi u4, vi u5, vi u6, un, un, un, un, un, un, un, un, un, un, un, un, un, un, un, un, un, un, un, un] [(.int (1 : Int32))])) (fun t_ k_ => XT.iconstV X0.here hx rfl (1 : Int32) (hb hby at_6) (by decide) k_) ?_
      refine own_step (T' := s₁) (g' := (mkF m 11 #[vi u1, vi u2, vi u3, vi u4, vi u5, vi u6, un, un, un, un, un, un, un, un, un, un, un, un, un, un, un, un, un, un, un, un] [(.int (1 : Int32))])) (fun t_ k_ => XS.goto X0.here hx rfl (pc0 := 7) (pc' := 11) rfl (hb hby at_7) (by decide) (by decide) k_) ?_
      exact k2 _ (if_neg hb1).symm
  intro v3 hv3
  refine own_step (T' := s₁) (g' := (mkF m 13 #[vi u1, vi u2, vi u3, vi u4, vi u5, vi u6, vi v3, un, un, un, un, un, un, un, un, un, un, un, un, un, un, un, un, un, un, un] [])) (fun t_ k_ => XS.istore X0.here hx rfl (hb hby at_11) rfl (l' := #[vi u1, vi u2, vi u3, vi u4, vi u5, vi u6, vi v3, un, un, un, un, un, un, un, un, un, un, un, un, un, un, un, un, un, un, un]) rfl k_) ?_
  refine own_step (T' := s₁) (g' := (mkF m 14 #[vi u1, vi u2, vi u3, vi u4, vi u5, vi u6, vi v3, un, un, un, un, un, un, un, un, un, un, un, un, un, un, un, un, un, un, un] [(.int u2)])) (fun t_ k_ => XS.iloadN X0.here hx rfl (hb hby at_13) rfl k_) ?_
  refine own_step (T' := s₁) (g' := (mkF m 16 #[vi u1, vi u2, vi u3, vi u4, vi u5, vi u6, vi v3, un, un, un, un, un, un, un, un, un, un, un, un, un, un, un, un, un, un, un] [(.int (2147483647 : Int32)), (.int u2)])) (fun t_ k_ => X0.ldcI hx hown (mvT hZ (own_w (i := 0) rfl hw)) rfl (hb hby at_14) k_) ?_
  refine own_step (T' := s₁) (g' := (mkF m 17 #[vi u1, vi u2, vi u3, vi u4, vi u5, vi u6, vi v3, un, un, un, un, un, un, un, un, un, un, un, un, un, un, un, un, un, un, un] [(.int (u2 &&& (2147483647 : Int32)))])) (fun t_ k_ => XS.iand X0.here hx rfl (hb hby at_16) rfl k_) ?_
  refine own_step (T' := s₁) (g' := (mkF m 19 #[vi u1, vi u2, vi u3, vi u4, vi u5, vi u6, vi v3, vi (u2 &&& (2147483647 : Int32)), un, un, un, un, un, un, un, un, un, un, un, un, un, un, un, un, un, un] [])) (fun t_ k_ => XS.istore X0.here hx rfl (hb hby at_17) rfl (l' := #[vi u1, vi u2, vi u3, vi u4, vi u5, vi u6, vi v3, vi (u2 &&& (2147483647 : Int32)), un, un, un, un, un, un, un, un, un, un, un, un, un, un, un, un, un, un]) rfl k_) ?_
  refine own_step (T' := s₁) (g' := (mkF m 21 #[vi u1, vi u2, vi u3, vi u4, vi u5, vi u6, vi v3, vi (u2 &&& (2147483647 : Int32)), un, un, un, un, un, un, un, un, un, un, un, un, un, un, un, un, un, un] [(.int v3)])) (fun t_ k_ => XS.iload X0.here hx rfl (hb hby at_19) rfl k_) ?_
  suffices k5 : ∀ v6 : Int32, v6 = (if v3 = 0 then (0 : Int32) else (if (u1 &&& (2 : Int32)) = 0 then (0 : Int32) else (if (u2 &&& (2147483647 : Int32)) < (2147483647 : Int32) then (1 : Int32) else (0 : Int32)))) → own_Fin p e below s (Q_31 h0 n0) 14 220 s₁ (mkF m 42 #[vi u1, vi u2, vi u3, vi u4, vi u5, vi u6, vi v3, vi (u2 &&& (2147483647 : Int32)), un, un, un, un, un, un, un, un, un, un, un, un, un, un, un, un, un, un] [(.int v6)]) by
    by_cases hb4 : v3 = 0
    · refine own_step (T' := s₁) (g' := (mkF m 41 #[vi u1, vi u2, vi u3, vi u4, vi u5, vi u6, vi v3, vi (u2 &&& (2147483647 : Int32)), un, un, un, un, un, un, un, un, un, un, un, un, un, un, un, un, un, un] [])) (fun t_ k_ => XS.ifYes X0.here hx rfl (pc0 := 21) (pc' := 41) rfl (hb hby at_21) rfl (XT.i0_eq_t hb4) (by decide) (by decide) k_) ?_
      refine own_step (T' := s₁) (g' := (mkF m 42 #[vi u1, vi u2, vi u3, vi u4, vi u5, vi u6, vi v3, vi (u2 &&& (2147483647 : Int32)), un, un, un, un, un, un, un, un, un, un, un, un, un, un, un, un, un, un] [(.int (0 : Int32))])) (fun t_ k_ => XT.iconstV X0.here hx rfl (0 : Int32) (hb hby at_41) (by decide) k_) ?_
      exact k5 _ (if_pos hb4).symm
    · refine own_step (T' := s₁) (g' := (mkF m 24 #[vi u1, vi u2, vi u3, vi u4, vi u5, vi u6, vi v3, vi (u2 &&& (2147483647 : Int32)), un, un, un, un, un, un, un, un, un, un, un, un, un, un, un, un, un, un] [])) (fun t_ k_ => XS.ifNo X0.here hx rfl (hb hby at_21) rfl (XT.i0_eq_f hb4) k_) ?_
      refine own_step (T' := s₁) (g' := (mkF m 25 #[vi u1, vi u2, vi u3, vi u4, vi u5, vi u6, vi v3, vi (u2 &&& (2147483647 : Int32)), un, un, un, un, un, un, un, un, un, un, un, un, un, un, un, un, un, un] [(.int u1)])) (fun t_ k_ => XS.iloadN X0.here hx rfl (hb hby at_24) rfl k_) ?_
      refine own_step (T' := s₁) (g' := (mkF m 26 #[vi u1, vi u2, vi u3, vi u4, vi u5, vi u6, vi v3, vi (u2 &&& (2147483647 : Int32)), un, un, un, un, un, un, un, un, un, un, un, un, un, un, un, un, un, un] [(.int (2 : Int32)), (.int u1)])) (fun t_ k_ => XT.iconstV X0.here hx rfl (2 : Int32) (hb hby at_25) (by decide) k_) ?_
      refine own_step (T' := s₁) (g' := (mkF m 27 #[vi u1, vi u2, vi u3, vi u4, vi u5, vi u6, vi v3, vi (u2 &&& (2147483647 : Int32)), un, un, un, un, un, un, un, un, un, un, un, un, un, un, un, un, un, un] [(.int (u1 &&& (2 : Int32)))])) (fun t_ k_ => XS.iand X0.here hx rfl (hb hby at_26) rfl k_) ?_
      suffices k8 : ∀ v9 : Int32, v9 = (if (u1 &&& (2 : Int32)) = 0 then (0 : Int32) else (if (u2 &&& (2147483647 : Int32)) < (2147483647 : Int32) then (1 : Int32) else (0 : Int32))) → own_Fin p e below s (Q_31 h0 n0) 14 220 s₁ (mkF m 42 #[vi u1, vi u2, vi u3, vi u4, vi u5, vi u6, vi v3, vi (u2 &&& (2147483647 : Int32)), un, un, un, un, un, un, un, un, un, un, un, un, un, un, un, un, un, un] [(.int v9)]) by
        by_cases hb7 : (u1 &&& (2 : Int32)) = 0
        · refine own_step (T' := s₁) (g' := (mkF m 41 #[vi u1, vi u2, vi u3, vi u4, vi u5, vi u6, vi v3, vi (u2 &&& (2147483647 : Int32)), un, un, un, un, un, un, un, un, un, un, un, un, un, un, un, un, un, un] [])) (fun t_ k_ => XS.ifYes X0.here hx rfl (pc0 := 27) (pc' := 41) rfl (hb hby at_27) rfl (XT.i0_eq_t hb7) (by decide) (by decide) k_) ?_
          refine own_step (T' := s₁) (g' := (mkF m 42 #[vi u1, vi u2, vi u3, vi u4, vi u5, vi u6, vi v3, vi (u2 &&& (2147483647 : Int32)), un, un, un, un, un, un, un, un, un, un, un, un, un, un, un, un, un, un] [(.int (0 : Int32))])) (fun t_ k_ => XT.iconstV X0.here hx rfl (0 : Int32) (hb hby at_41) (by decide) k_) ?_
          exact k8 _ (if_pos hb7).symm
        · refine own_step (T' := s₁) (g' := (mkF m 30 #[vi u1, vi u2, vi u3, vi u4, vi u5, vi u6, vi v3, vi (u2 &&& (2147483647 : Int32)), un, un, un, un, un, un, un, un, un, un, un, un, un, un, un, un, un, un] [])) (fun t_ k_ => XS.ifNo X0.here hx rfl (hb hby at_27) rfl (XT.i0_eq_f hb7) k_) ?_
          refine own_step (T' := s₁) (g' := (mkF m 32 #[vi u1, vi u2, vi u3, vi u4, vi u5, vi u6, vi v3, vi (u2 &&& (2147483647 : Int32)), un, un, un, un, un, un, un, un, un, un, un, un, un, un, un, un, un, un] [(.int (u2 &&& (2147483647 : Int32)))])) (fun t_ k_ => XS.iload X0.here hx rfl (hb hby at_30) rfl k_) ?_
          refine own_step (T' := s₁) (g' := (mkF m 34 #[vi u1, vi u2, vi u3, vi u4, vi u5, vi u6, vi v3, vi (u2 &&& (2147483647 : Int32)), un, un, un, un, un, un, un, un, un, un, un, un, un, un, un, un, un, un] [(.int (2147483647 : Int32)), (.int (u2 &&& (2147483647 : Int32)))])) (fun t_ k_ => X0.ldcI hx hown (mvT hZ (own_w (i := 0) rfl hw)) rfl (hb hby at_32) k_) ?_
          suffices k11 : ∀ v12 : Int32, v12 = (if (u2 &&& (2147483647 : Int32)) < (2147483647 : Int32) then (1 : Int32) else (0 : Int32)) → own_Fin p e below s (Q_31 h0 n0) 14 220 s₁ (mkF m 42 #[vi u1, vi u2, vi u3, vi u4, vi u5, vi u6, vi v3, vi (u2 &&& (2147483647 : Int32)), un, un, un, un, un, un, un, un, un, un, un, un, un, un, un, un, un, un] [(.int v12)]) by
            by_cases hb10 : (u2 &&& (2147483647 : Int32)) < (2147483647 : Int32)
            · refine own_step (T' := s₁) (g' := (mkF m 37 #[vi u1, vi u2, vi u3, vi u4, vi u5, vi u6, vi v3, vi (u2 &&& (2147483647 : Int32)), un, un, un, un, un, un, un, un, un, un, un, un, un, un, un, un, un, un] [])) (fun t_ k_ => XS.icmpNo X0.here hx rfl (hb hby at_34) rfl (XT.ii_ge_f hb10) k_) ?_
              refine own_step (T' := s₁) (g' := (mkF m 38 #[vi u1, vi u2, vi u3, vi u4, vi u5, vi u6, vi v3, vi (u2 &&& (2147483647 : Int32)), un, un, un, un, un, un, un, un, un, un, un, un, un, un, un, un, un, un] [(.int (1 : Int32))])) (fun t_ k_ => XT.iconstV X0.here hx rfl (1 : Int32) (hb hby at_37) (by decide) k_) ?_
              refine own_step (T' := s₁) (g' := (mkF m 42 #[vi u1, vi u2, vi u3, vi u4, vi u5, vi u6, vi v3, vi (u2 &&& (2147483647 : Int32)), un, un, un, un, un, un, un, un, un, un, un, un, un, un, un, un, un, un] [(.int (1 : Int32))])) (fun t_ k_ => XS.goto X0.here hx rfl (pc0 := 38) (pc' := 42) rfl (hb hby at_38) (by decide) (by decide) k_) ?_
              exact k11 _ (if_pos hb10).symm
            · refine own_step (T' := s₁) (g' := (mkF m 41 #[vi u1, vi u2, vi u3, vi u4, vi u5, vi u6, vi v3, vi (u2 &&& (2147483647 : Int32)), un, un, un, un, un, un, un, un, un, un, un, un, un, un, un, un, un, un] [])) (fun t_ k_ => XS.icmpYes X0.here hx rfl (pc0 := 34) (pc' := 41) rfl (hb hby at_34) rfl (XT.ii_ge_t hb10) (by decide) (by decide) k_) ?_
              refine own_step (T' := s₁) (g' := (mkF m 42 #[vi u1, vi u2, vi u3, vi u4, vi u5, vi u6, vi v3, vi (u2 &&& (2147483647 : Int32)), un, un, un, un, un, un, un, un, un, un, un, un, un, un, un, un, un, un] [(.int (0 : Int32))])) (fun t_ k_ => XT.iconstV X0.here hx rfl (0 : Int32) (hb hby at_41) (by decide) k_) ?_
              exact k11 _ (if_neg hb10).symm
          rintro _ rfl
          exact k8 _ (if_neg hb7).symm
      rintro _ rfl
      exact k5 _ (if_neg hb4).symm
  intro v6 hv6
  refine own_step (T' := s₁) (g' := (mkF m 44 #[vi u1, vi u2, vi u3, vi u4, vi u5, vi u6, vi v3, vi (u2 &&& (2147483647 : Int32)), vi v6, un, un, un, un, un, un, un, un, un, un, un, un, un, un, un, un, un] [])) (fun t_ k_ => XS.istore X0.here hx rfl (hb hby at_42) rfl (l' := #[vi u1, vi u2, vi u3, vi u4, vi u5, vi u6, vi v3, vi (u2 &&& (2147483647 : Int32)), vi v6, un, un, un, un, un, un, un, un, un, un, un, un, un, un, un, un, un]) rfl k_) ?_
  refine own_step (T' := s₁) (g' := (mkF m 46 #[vi u1, vi u2, vi u3, vi u4, vi u5, vi u6, vi v3, vi (u2 &&& (2147483647 : Int32)), vi v6, un, un, un, un, un, un, un, un, un, un, un, un, un, un, un, un, un] [(.int v6)])) (fun t_ k_ => XS.iload X0.here hx rfl (hb hby at_44) rfl k_) ?_
  suffices k14 : ∀ v15 : Int32, v15 = (if v6 = 0 then (0 : Int32) else (((u2 &&& (2147483647 : Int32)) + (1 : Int32)) + ((u3 &&& (2147483647 : Int32)) % ((2147483647 : Int32) - (u2 &&& (2147483647 : Int32)))))) → own_Fin p e below s (Q_31 h0 n0) 14 220 s₁ (mkF m 68 #[vi u1, vi u2, vi u3, vi u4, vi u5, vi u6, vi v3, vi (u2 &&& (2147483647 : Int32)), vi v6, un, un, un, un, un, un, un, un, un, un, un, un, un, un, un, un, un] [(.int v15)]) by
    by_cases hb13 : v6 = 0
    · refine own_step (T' := s₁) (g' := (mkF m 67 #[vi u1, vi u2, vi u3, vi u4, vi u5, vi u6, vi v3, vi (u2 &&& (2147483647 : Int32)), vi v6, un, un, un, un, un, un, un, un, un, un, un, un, un, un, un, un, un] [])) (fun t_ k_ => XS.ifYes X0.here hx rfl (pc0 := 46) (pc' := 67) rfl (hb hby at_46) rfl (XT.i0_eq_t hb13) (by decide) (by decide) k_) ?_
      refine own_step (T' := s₁) (g' := (mkF m 68 #[vi u1, vi u2, vi u3, vi u4, vi u5, vi u6, vi v3, vi (u2 &&& (2147483647 : Int32)), vi v6, un, un, un, un, un, un, un, un, un, un, un, un, un, un, un, un, un] [(.int (0 : Int32))])) (fun t_ k_ => XT.iconstV X0.here hx rfl (0 : Int32) (hb hby at_67) (by decide) k_) ?_
      exact k14 _ (if_pos hb13).symm
    · refine own_step (T' := s₁) (g' := (mkF m 49 #[vi u1, vi u2, vi u3, vi u4, vi u5, vi u6, vi v3, vi (u2 &&& (2147483647 : Int32)), vi v6, un, un, un, un, un, un, un, un, un, un, un, un, un, un, un, un, un] [])) (fun t_ k_ => XS.ifNo X0.here hx rfl (hb hby at_46) rfl (XT.i0_eq_f hb13) k_) ?_
      refine own_step (T' := s₁) (g' := (mkF m 51 #[vi u1, vi u2, vi u3, vi u4, vi u5, vi u6, vi v3, vi (u2 &&& (2147483647 : Int32)), vi v6, un, un, un, un, un, un, un, un, un, un, un, un, un, un, un, un, un] [(.int (u2 &&& (2147483647 : Int32)))])) (fun t_ k_ => XS.iload X0.here hx rfl (hb hby at_49) rfl k_) ?_
      refine own_step (T' := s₁) (g' := (mkF m 52 #[vi u1, vi u2, vi u3, vi u4, vi u5, vi u6, vi v3, vi (u2 &&& (2147483647 : Int32)), vi v6, un, un, un, un, un, un, un, un, un, un, un, un, un, un, un, un, un] [(.int (1 : Int32)), (.int (u2 &&& (2147483647 : Int32)))])) (fun t_ k_ => XT.iconstV X0.here hx rfl (1 : Int32) (hb hby at_51) (by decide) k_) ?_
      refine own_step (T' := s₁) (g' := (mkF m 53 #[vi u1, vi u2, vi u3, vi u4, vi u5, vi u6, vi v3, vi (u2 &&& (2147483647 : Int32)), vi v6, un, un, un, un, un, un, un, un, un, un, un, un, un, un, un, un, un] [(.int ((u2 &&& (2147483647 : Int32)) + (1 : Int32)))])) (fun t_ k_ => XS.iadd X0.here hx rfl (hb hby at_52) rfl k_) ?_
      refine own_step (T' := s₁) (g' := (mkF m 54 #[vi u1, vi u2, vi u3, vi u4, vi u5, vi u6, vi v3, vi (u2 &&& (2147483647 : Int32)), vi v6, un, un, un, un, un, un, un, un, un, un, un, un, un, un, un, un, un] [(.int u3), (.int ((u2 &&& (2147483647 : Int32)) + (1 : Int32)))])) (fun t_ k_ => XS.iloadN X0.here hx rfl (hb hby at_53) rfl k_) ?_
      refine own_step (T' := s₁) (g' := (mkF m 56 #[vi u1, vi u2, vi u3, vi u4, vi u5, vi u6, vi v3, vi (u2 &&& (2147483647 : Int32)), vi v6, un, un, un, un, un, un, un, un, un, un, un, un, un, un, un, un, un] [(.int (2147483647 : Int32)), (.int u3), (.int ((u2 &&& (2147483647 : Int32)) + (1 : Int32)))])) (fun t_ k_ => X0.ldcI hx hown (mvT hZ (own_w (i := 0) rfl hw)) rfl (hb hby at_54) k_) ?_
      refine own_step (T' := s₁) (g' := (mkF m 57 #[vi u1, vi u2, vi u3, vi u4, vi u5, vi u6, vi v3, vi (u2 &&& (2147483647 : Int32)), vi v6, un, un, un, un, un, un, un, un, un, un, un, un, un, un, un, un, un] [(.int (u3 &&& (2147483647 : Int32))), (.int ((u2 &&& (2147483647 : Int32)) + (1 : Int32)))])) (fun t_ k_ => XS.iand X0.here hx rfl (hb hby at_56) rfl k_) ?_
      refine own_step (T' := s₁) (g' := (mkF m 59 #[vi u1, vi u2, vi u3, vi u4, vi u5, vi u6, vi v3, vi (u2 &&& (2147483647 : Int32)), vi v6, un, un, un, un, un, un, un, un, un, un, un, un, un, un, un, un, un] [(.int (2147483647 : Int32)), (.int (u3 &&& (2147483647 : Int32))), (.int ((u2 &&& (2147483647 : Int32)) + (1 : Int32)))])) (fun t_ k_ => X0.ldcI hx hown (mvT hZ (own_w (i := 0) rfl hw)) rfl (hb hby at_57) k_) ?_
      refine own_step (T' := s₁) (g' := (mkF m 61 #[vi u1, vi u2, vi u3, vi u4, vi u5, vi u6, vi v3, vi (u2 &&& (2147483647 : Int32)), vi v6, un, un, un, un, un, un, un, un, un, un, un, un, un, un, un, un, un] [(.int (u2 &&& (2147483647 : Int32))), (.int (2147483647 : Int32)), (.int (u3 &&& (2147483647 : Int32))), (.int ((u2 &&& (2147483647 : Int32)) + (1 : Int32)))])) (fun t_ k_ => XS.iload X0.here hx rfl (hb hby at_59) rfl k_) ?_
      refine own_step (T' := s₁) (g' := (mkF m 62 #[vi u1, vi u2, vi u3, vi u4, vi u5, vi u6, vi v3, vi (u2 &&& (2147483647 : Int32)), vi v6, un, un, un, un, un, un, un, un, un, un, un, un, un, un, un, un, un] [(.int ((2147483647 : Int32) - (u2 &&& (2147483647 : Int32)))), (.int (u3 &&& (2147483647 : Int32))), (.int ((u2 &&& (2147483647 : Int32)) + (1 : Int32)))])) (fun t_ k_ => XS.isub X0.here hx rfl (hb hby at_61) rfl k_) ?_
      refine own_step (T' := s₁) (g' := (mkF m 63 #[vi u1, vi u2, vi u3, vi u4, vi u5, vi u6, vi v3, vi (u2 &&& (2147483647 : Int32)), vi v6, un, un, un, un, un, un, un, un, un, un, un, un, un, un, un, un, un] [(.int ((u3 &&& (2147483647 : Int32)) % ((2147483647 : Int32) - (u2 &&& (2147483647 : Int32))))), (.int ((u2 &&& (2147483647 : Int32)) + (1 : Int32)))])) (fun t_ k_ => iremM X0 hx rfl (hb hby at_62) rfl (own_nz (own_d0 _) (own_hs hv6 (by assumption)).2) k_) ?_
      refine own_step (T' := s₁) (g' := (mkF m 64 #[vi u1, vi u2, vi u3, vi u4, vi u5, vi u6, vi v3, vi (u2 &&& (2147483647 : Int32)), vi v6, un, un, un, un, un, un, un, un, un, un, un, un, un, un, un, un, un] [(.int (((u2 &&& (2147483647 : Int32)) + (1 : Int32)) + ((u3 &&& (2147483647 : Int32)) % ((2147483647 : Int32) - (u2 &&& (2147483647 : Int32))))))])) (fun t_ k_ => XS.iadd X0.here hx rfl (hb hby at_63) rfl k_) ?_
      refine own_step (T' := s₁) (g' := (mkF m 68 #[vi u1, vi u2, vi u3, vi u4, vi u5, vi u6, vi v3, vi (u2 &&& (2147483647 : Int32)), vi v6, un, un, un, un, un, un, un, un, un, un, un, un, un, un, un, un, un] [(.int (((u2 &&& (2147483647 : Int32)) + (1 : Int32)) + ((u3 &&& (2147483647 : Int32)) % ((2147483647 : Int32) - (u2 &&& (2147483647 : Int32))))))])) (fun t_ k_ => XS.goto X0.here hx rfl (pc0 := 64) (pc' := 68) rfl (hb hby at_64) (by decide) (by decide) k_) ?_
      exact k14 _ (if_neg hb13).symm
  intro v15 hv15
  refine own_step (T' := s₁) (g' := (mkF m 70 #[vi u1, vi u2, vi u3, vi u4, vi u5, vi u6, vi v3, vi (u2 &&& (2147483647 : Int32)), vi v6, vi v15, un, un, un, un, un, un, un, un, un, un, un, un, un, un, un, un] [])) (fun t_ k_ => XS.istore X0.here hx rfl (hb hby at_68) rfl (l' := #[vi u1, vi u2, vi u3, vi u4, vi u5, vi u6, vi v3, vi (u2 &&& (2147483647 : Int32)), vi v6, vi v15, un, un, un, un, un, un, un, un, un, un, un, un, un, un, un, un]) rfl k_) ?_
  refine own_step (T' := s₁) (g' := (mkF m 71 #[vi u1, vi u2, vi u3, vi u4, vi u5, vi u6, vi v3, vi (u2 &&& (2147483647 : Int32)), vi v6, vi v15, un, un, un, un, un, un, un, un, un, un, un, un, un, un, un, un] [(.int (1 : Int32))])) (fun t_ k_ => XT.iconstV X0.here hx rfl (1 : Int32) (hb hby at_70) (by decide) k_) ?_
  refine own_step (T' := s₁) (g' := (mkF m 73 #[vi u1, vi u2, vi u3, vi u4, vi u5, vi u6, vi v3, vi (u2 &&& (2147483647 : Int32)), vi v6, vi v15, un, un, un, un, un, un, un, un, un, un, un, un, un, un, un, un] [(.int u5), (.int (1 : Int32))])) (fun t_ k_ => XS.iload X0.here hx rfl (hb hby at_71) rfl k_) ?_
  refine own_step (T' := s₁) (g' := (mkF m 75 #[vi u1, vi u2, vi u3, vi u4, vi u5, vi u6, vi v3, vi (u2 &&& (2147483647 : Int32)), vi v6, vi v15, un, un, un, un, un, un, un, un, un, un, un, un, un, un, un, un] [(.int (2147483647 : Int32)), (.int u5), (.int (1 : Int32))])) (fun t_ k_ => X0.ldcI hx hown (mvT hZ (own_w (i := 0) rfl hw)) rfl (hb hby at_73) k_) ?_
  refine own_step (T' := s₁) (g' := (mkF m 76 #[vi u1, vi u2, vi u3, vi u4, vi u5, vi u6, vi v3, vi (u2 &&& (2147483647 : Int32)), vi v6, vi v15, un, un, un, un, un, un, un, un, un, un, un, un, un, un, un, un] [(.int (u5 &&& (2147483647 : Int32))), (.int (1 : Int32))])) (fun t_ k_ => XS.iand X0.here hx rfl (hb hby at_75) rfl k_) ?_
  obtain ⟨_, _, ⟨Tc16, Lc16, kc16, nc16⟩, -, Xc16, ⟨Lcc16, hQc16, lc16, yc16, zc16⟩, stc16⟩ := Jvm.LawKit.callS X0 hx (y := (⟨"java/lang/Math", "max", "(II)I"⟩ : MethodName)) hown (mvT hZ (own_w (i := 1) rfl hw)) (mvT hZ (own_w (i := 2) rfl hw)) (mvT hZ (own_w (i := 3) rfl hw)) (mvT hZ (own_w (i := 4) rfl hw)) (by decide) (backOf (W := 0) (rm_maxI l Z a0 hw [] ((1 : Int32)) ((u5 &&& (2147483647 : Int32))) h0 n0 Z0) hZ (own_w (i := 4) rfl hw) (own_w (i := 3) rfl hw) (by decide) (by decide)) (g := (mkF m 76 #[vi u1, vi u2, vi u3, vi u4, vi u5, vi u6, vi v3, vi (u2 &&& (2147483647 : Int32)), vi v6, vi v15, un, un, un, un, un, un, un, un, un, un, un, un, un, un, un, un] [(.int (u5 &&& (2147483647 : Int32))), (.int (1 : Int32))])) rfl (by rw [hml]; rfl) (argsL := [(.int (1 : Int32)), (.int (u5 &&& (2147483647 : Int32)))]) (rest := []) (lenOf pd_6 rfl) rfl (by show 2 * 0 + _ ≤ _; exact Nat.le_of_eq rfl) (hb hby at_76) (fun _ _ => ⟨rfl, e0, (by decide : 0 + 0 ≤ _), (by decide : 0 + 0 ≤ _)⟩)
  dsimp only [Pt.U, Pt.locs, Pt.cells, Pt.slots] at Xc16 lc16 yc16 zc16 stc16 hQc16
  subst lc16 yc16 zc16
  have X17 := Xc16.more (cells' := 0) (slots' := 0) (by decide) (by decide)
  obtain ⟨hv21, N18, e19⟩ := hQc16
  obtain ⟨z20, hz20⟩ : ∃ z : Int32, z = (if (1 : Int32) < (u5 &&& (2147483647 : Int32)) then (u5 &&& (2147483647 : Int32)) else (1 : Int32)) := ⟨_, rfl⟩
  rw [← hz20] at hv21
  subst hv21
  have N22 := Fr.app N0 N18
  obtain ⟨Lo23, X24, N25⟩ : ∃ Lo_, Stand p l e room_1 s m #[(.int u1), (.int u2), (.int u3), (.int u4), (.int u5), (.int u6)] below meth c Tc16 Lo_ 0 0 ∧ Fr n0 Lo_ := ⟨_, X17, N22⟩
  refine own_step (T' := Tc16) (g' := (mkF m 79 #[vi u1, vi u2, vi u3, vi u4, vi u5, vi u6, vi v3, vi (u2 &&& (2147483647 : Int32)), vi v6, vi v15, un, un, un, un, un, un, un, un, un, un, un, un, un, un, un, un] [(.int z20)])) stc16 ?_
  refine own_step (T' := Tc16) (g' := (mkF m 81 #[vi u1, vi u2, vi u3, vi u4, vi u5, vi u6, vi v3, vi (u2 &&& (2147483647 : Int32)), vi v6, vi v15, vi z20, un, un, un, un, un, un, un, un, un, un, un, un, un, un, un] [])) (fun t_ k_ => XS.istore X24.here hx rfl (hb hby at_79) rfl (l' := #[vi u1, vi u2, vi u3, vi u4, vi u5, vi u6, vi v3, vi (u2 &&& (2147483647 : Int32)), vi v6, vi v15, vi z20, un, un, un, un, un, un, un, un, un, un, un, un, un, un, un]) rfl k_) ?_
  refine own_step (T' := Tc16) (g' := (mkF m 82 #[vi u1, vi u2, vi u3, vi u4, vi u5, vi u6, vi v3, vi (u2 &&& (2147483647 : Int32)), vi v6, vi v15, vi z20, un, un, un, un, un, un, un, un, un, un, un, un, un, un, un] [(.int (1 : Int32))])) (fun t_ k_ => XT.iconstV X24.here hx rfl (1 : Int32) (hb hby at_81) (by decide) k_) ?_
  refine own_step (T' := Tc16) (g' := (mkF m 83 #[vi u1, vi u2, vi u3, vi u4, vi u5, vi u6, vi v3, vi (u2 &&& (2147483647 : Int32)), vi v6, vi v15, vi z20, un, un, un, un, un, un, un, un, un, un, un, un, un, un, un] [(.int u1), (.int (1 : Int32))])) (fun t_ k_ => XS.iloadN X24.here hx rfl (hb hby at_82) rfl k_) ?_
  refine own_step (T' := Tc16) (g' := (mkF m 84 #[vi u1, vi u2, vi u3, vi u4, vi u5, vi u6, vi v3, vi (u2 &&& (2147483647 : Int32)), vi v6, vi v15, vi z20, un, un, un, un, un, un, un, un, un, un, un, un, un, un, un] [(.int (2 : Int32)), (.int u1), (.int (1 : Int32))])) (fun t_ k_ => XT.iconstV X24.here hx rfl (2 : Int32) (hb hby at_83) (by decide) k_) ?_
  refine own_step (T' := Tc16) (g' := (mkF m 85 #[vi u1, vi u2, vi u3, vi u4, vi u5, vi u6, vi v3, vi (u2 &&& (2147483647 : Int32)), vi v6, vi v15, vi z20, un, un, un, un, un, un, un, un, un, un, un, un, un, un, un] [(.int (XT.ushr u1 (2 : Int32))), (.int (1 : Int32))])) (fun t_ k_ => XT.iushr X24.here hx rfl (hb hby at_84) rfl k_) ?_
  obtain ⟨_, _, ⟨Tc26, Lc26, kc26, nc26⟩, -, Xc26, ⟨Lcc26, hQc26, lc26, yc26, zc26⟩, stc26⟩ := Jvm.LawKit.callS X24 hx (y := (⟨"java/lang/Math", "max", "(II)I"⟩ : MethodName)) hown (mvT hZ (own_w (i := 1) rfl hw)) (mvT hZ (own_w (i := 2) rfl hw)) (mvT hZ (own_w (i := 3) rfl hw)) (mvT hZ (own_w (i := 4) rfl hw)) (by decide) (backOf (W := 0) (rm_maxI l Z a0 hw [] ((1 : Int32)) ((XT.ushr u1 (2 : Int32))) h0 n0 Z0) hZ (own_w (i := 4) rfl hw) (own_w (i := 3) rfl hw) (by decide) (by decide)) (g := (mkF m 85 #[vi u1, vi u2, vi u3, vi u4, vi u5, vi u6, vi v3, vi (u2 &&& (2147483647 : Int32)), vi v6, vi v15, vi z20, un, un, un, un, un, un, un, un, un, un, un, un, un, un, un] [(.int (XT.ushr u1 (2 : Int32))), (.int (1 : Int32))])) rfl (by rw [hml]; rfl) (argsL := [(.int (1 : Int32)), (.int (XT.ushr u1 (2 : Int32)))]) (rest := []) (lenOf pd_6 rfl) rfl (by show 2 * 0 + _ ≤ _; exact Nat.le_of_eq rfl) (hb hby at_85) (fun _ _ => ⟨rfl, e19, (by decide : 0 + 0 ≤ _), (by decide : 0 + 0 ≤ _)⟩)
  dsimp only [Pt.U, Pt.locs, Pt.cells, Pt.slots] at Xc26 lc26 yc26 zc26 stc26 hQc26
  subst lc26 yc26 zc26
  have X27 := Xc26.more (cells' := 0) (slots' := 0) (by decide) (by decide)
  obtain ⟨hv31, N28, e29⟩ := hQc26
  obtain ⟨z30, hz30⟩ : ∃ z : Int32, z = (if (1 : Int32) < (XT.ushr u1 (2 : Int32)) then (XT.ushr u1 (2 : Int32)) else (1 : Int32)) := ⟨_, rfl⟩
  rw [← hz30] at hv31
  subst hv31
  have N32 := Fr.app N25 N28
  obtain ⟨Lo33, X34, N35⟩ : ∃ Lo_, Stand p l e room_1 s m #[(.int u1), (.int u2), (.int u3), (.int u4), (.int u5), (.int u6)] below meth c Tc26 Lo_ 0 0 ∧ Fr n0 Lo_ := ⟨_, X27, N32⟩
  refine own_step (T' := Tc26) (g' := (mkF m 88 #[vi u1, vi u2, vi u3, vi u4, vi u5, vi u6, vi v3, vi (u2 &&& (2147483647 : Int32)), vi v6, vi v15, vi z20, un, un, un, un, un, un, un, un, un, un, un, un, un, un, un] [(.int z30)])) stc26 ?_
  refine own_step (T' := Tc26) (g' := (mkF m 90 #[vi u1, vi u2, vi u3, vi u4, vi u5, vi u6, vi v3, vi (u2 &&& (2147483647 : Int32)), vi v6, vi v15, vi z20, vi z30, un, un, un, un, un, un, un, un, un, un, un, un, un, un] [])) (fun t_ k_ => XS.istore X34.here hx rfl (hb hby at_88) rfl (l' := #[vi u1, vi u2, vi u3, vi u4, vi u5, vi u6, vi v3, vi (u2 &&& (2147483647 : Int32)), vi v6, vi v15, vi z20, vi z30, un, un, un, un, un, un, un, un, un, un, un, un, un, un]) rfl k_) ?_
  refine own_step (T' := Tc26) (g' := (mkF m 91 #[vi u1, vi u2, vi u3, vi u4, vi u5, vi u6, vi v3, vi (u2 &&& (2147483647 : Int32)), vi v6, vi v15, vi z20, vi z30, un, un, un, un, un, un, un, un, un, un, un, un, un, un] [(.int u4)])) (fun t_ k_ => XS.iloadN X34.here hx rfl (hb hby at_90) rfl k_) ?_
  refine own_step (T' := Tc26) (g' := (mkF m 93 #[vi u1, vi u2, vi u3, vi u4, vi u5, vi u6, vi v3, vi (u2 &&& (2147483647 : Int32)), vi v6, vi v15, vi z20, vi z30, un, un, un, un, un, un, un, un, un, un, un, un, un, un] [(.int (8 : Int32)), (.int u4)])) (fun t_ k_ => XT.bipushV X34.here hx rfl (8 : Int32) (hb hby at_91) (by decide) k_) ?_
  refine own_step (T' := Tc26) (g' := (mkF m 94 #[vi u1, vi u2, vi u3, vi u4, vi u5, vi u6, vi v3, vi (u2 &&& (2147483647 : Int32)), vi v6, vi v15, vi z20, vi z30, un, un, un, un, un, un, un, un, un, un, un, un, un, un] [(.int (u4 &&& (8 : Int32)))])) (fun t_ k_ => XS.iand X34.here hx rfl (hb hby at_93) rfl k_) ?_
  suffices k37 : ∀ v38 : Int32, v38 = (if (u4 &&& (8 : Int32)) = 0 then (0 : Int32) else (1 : Int32)) → own_Fin p e below s (Q_31 h0 n0) 14 220 Tc26 (mkF m 102 #[vi u1, vi u2, vi u3, vi u4, vi u5, vi u6, vi v3, vi (u2 &&& (2147483647 : Int32)), vi v6, vi v15, vi z20, vi z30, un, un, un, un, un, un, un, un, un, un, un, un, un, un] [(.int v38)]) by
    by_cases hb36 : (u4 &&& (8 : Int32)) = 0
    · refine own_step (T' := Tc26) (g' := (mkF m 101 #[vi u1, vi u2, vi u3, vi u4, vi u5, vi u6, vi v3, vi (u2 &&& (2147483647 : Int32)), vi v6, vi v15, vi z20, vi z30, un, un, un, un, un, un, un, un, un, un, un, un, un, un] [])) (fun t_ k_ => XS.ifYes X34.here hx rfl (pc0 := 94) (pc' := 101) rfl (hb hby at_94) rfl (XT.i0_eq_t hb36) (by decide) (by decide) k_) ?_
      refine own_step (T' := Tc26) (g' := (mkF m 102 #[vi u1, vi u2, vi u3, vi u4, vi u5, vi u6, vi v3, vi (u2 &&& (2147483647 : Int32)), vi v6, vi v15, vi z20, vi z30, un, un, un, un, un, un, un, un, un, un, un, un, un, un] [(.int (0 : Int32))])) (fun t_ k_ => XT.iconstV X34.here hx rfl (0 : Int32) (hb hby at_101) (by decide) k_) ?_
      exact k37 _ (if_pos hb36).symm
    · refine own_step (T' := Tc26) (g' := (mkF m 97 #[vi u1, vi u2, vi u3, vi u4, vi u5, vi u6, vi v3, vi (u2 &&& (2147483647 : Int32)), vi v6, vi v15, vi z20, vi z30, un, un, un, un, un, un, un, un, un, un, un, un, un, un] [])) (fun t_ k_ => XS.ifNo X34.here hx rfl (hb hby at_94) rfl (XT.i0_eq_f hb36) k_) ?_
      refine own_step (T' := Tc26) (g' := (mkF m 98 #[vi u1, vi u2, vi u3, vi u4, vi u5, vi u6, vi v3, vi (u2 &&& (2147483647 : Int32)), vi v6, vi v15, vi z20, vi z30, un, un, un, un, un, un, un, un, un, un, un, un, un, un] [(.int (1 : Int32))])) (fun t_ k_ => XT.iconstV X34.here hx rfl (1 : Int32) (hb hby at_97) (by decide) k_) ?_
      refine own_step (T' := Tc26) (g' := (mkF m 102 #[vi u1, vi u2, vi u3, vi u4, vi u5, vi u6, vi v3, vi (u2 &&& (2147483647 : Int32)), vi v6, vi v15, vi z20, vi z30, un, un, un, un, un, un, un, un, un, un, un, un, un, un] [(.int (1 : Int32))])) (fun t_ k_ => XS.goto X34.here hx rfl (pc0 := 98) (pc' := 102) rfl (hb hby at_98) (by decide) (by decide) k_) ?_
      exact k37 _ (if_neg hb36).symm
  intro v38 hv38
  refine own_step (T' := Tc26) (g' := (mkF m 104 #[vi u1, vi u2, vi u3, vi u4, vi u5, vi u6, vi v3, vi (u2 &&& (2147483647 : Int32)), vi v6, vi v15, vi z20, vi z30, vi v38, un, un, un, un, un, un, un, un, un, un, un, un, un] [])) (fun t_ k_ => XS.istore X34.here hx rfl (hb hby at_102) rfl (l' := #[vi u1, vi u2, vi u3, vi u4, vi u5, vi u6, vi v3, vi (u2 &&& (2147483647 : Int32)), vi v6, vi v15, vi z20, vi z30, vi v38, un, un, un, un, un, un, un, un, un, un, un, un, un]) rfl k_) ?_
  refine own_step (T' := Tc26) (g' := (mkF m 105 #[vi u1, vi u2, vi u3, vi u4, vi u5, vi u6, vi v3, vi (u2 &&& (2147483647 : Int32)), vi v6, vi v15, vi z20, vi z30, vi v38, un, un, un, un, un, un, un, un, un, un, un, un, un] [(.int u4)])) (fun t_ k_ => XS.iloadN X34.here hx rfl (hb hby at_104) rfl k_) ?_
  refine own_step (T' := Tc26) (g' := (mkF m 107 #[vi u1, vi u2, vi u3, vi u4, vi u5, vi u6, vi v3, vi (u2 &&& (2147483647 : Int32)), vi v6, vi v15, vi z20, vi z30, vi v38, un, un, un, un, un, un, un, un, un, un, un, un, un] [(.int (7 : Int32)), (.int u4)])) (fun t_ k_ => XT.bipushV X34.here hx rfl (7 : Int32) (hb hby at_105) (by decide) k_) ?_
  refine own_step (T' := Tc26) (g' := (mkF m 108 #[vi u1, vi u2, vi u3, vi u4, vi u5, vi u6, vi v3, vi (u2 &&& (2147483647 : Int32)), vi v6, vi v15, vi z20, vi z30, vi v38, un, un, un, un, un, un, un, un, un, un, un, un, un] [(.int (u4 &&& (7 : Int32)))])) (fun t_ k_ => XS.iand X34.here hx rfl (hb hby at_107) rfl k_) ?_
  refine own_step (T' := Tc26) (g' := (mkF m 110 #[vi u1, vi u2, vi u3, vi u4, vi u5, vi u6, vi v3, vi (u2 &&& (2147483647 : Int32)), vi v6, vi v15, vi z20, vi z30, vi v38, vi (u4 &&& (7 : Int32)), un, un, un, un, un, un, un, un, un, un, un, un] [])) (fun t_ k_ => XS.istore X34.here hx rfl (hb hby at_108) rfl (l' := #[vi u1, vi u2, vi u3, vi u4, vi u5, vi u6, vi v3, vi (u2 &&& (2147483647 : Int32)), vi v6, vi v15, vi z20, vi z30, vi v38, vi (u4 &&& (7 : Int32)), un, un, un, un, un, un, un, un, un, un, un, un]) rfl k_) ?_
  have hB0 : own_Base v3 v6 (u2 &&& (2147483647 : Int32)) v15 z20 z30 := own_base hv6 hv15 hz20 hz30
  obtain ⟨T39, h40, X41, e42, E43, A44, D45, -, st46⟩ := newO X34 hx hZ hown (own_w (i := 5) rfl hw) (own_w (i := 6) rfl hw) (own_w (i := 7) rfl hw) e29 (g := (mkF m 110 #[vi u1, vi u2, vi u3, vi u4, vi u5, vi u6, vi v3, vi (u2 &&& (2147483647 : Int32)), vi v6, vi v15, vi z20, vi z30, vi v38, vi (u4 &&& (7 : Int32)), un, un, un, un, un, un, un, un, un, un, un, un] [])) rfl (hb hby at_110) (by decide) (by decide)
  obtain ⟨a47, g48⟩ : ∃ z, z = h0.size := ⟨_, rfl⟩
  rw [← g48] at A44 D45 st46
  have q49 : n0 ≤ a47 := Nat.le_trans Z0 (Nat.le_of_eq g48.symm)
  have F50 := Nat.le_trans Z0 E43.1
  have F51 := O0.ext E43
  have F52 : Fld Z h40 a47 "com/example/sedimenta/sedimenta/Postings" "own" "[B" .null := D45 (Or.inl (own_w (i := 16) rfl hw)) (ty := (.array .byte)) (by decide)
  have F53 : Fld Z h40 a47 "com/example/sedimenta/sedimenta/Postings" "bytes" "[B" .null := D45 (Or.inl (own_w (i := 18) rfl hw)) (ty := (.array .byte)) (by decide)
  have F54 : Fld Z h40 a47 "com/example/sedimenta/sedimenta/Postings" "last" "I" (.int (0 : Int32)) := D45 (Or.inl (own_w (i := 20) rfl hw)) (ty := .int) (by decide)
  have F55 : Fld Z h40 a47 "com/example/sedimenta/sedimenta/Postings" "ownPositions" "[B" .null := D45 (Or.inl (own_w (i := 22) rfl hw)) (ty := (.array .byte)) (by decide)
  have F56 : Fld Z h40 a47 "com/example/sedimenta/sedimenta/Postings" "positionBytes" "[B" .null := D45 (Or.inl (own_w (i := 24) rfl hw)) (ty := (.array .byte)) (by decide)
  have F57 : Fld Z h40 a47 "com/example/sedimenta/sedimenta/Postings" "frequencies" "[I" .null := D45 (Or.inl (own_w (i := 27) rfl hw)) (ty := (.array .int)) (by decide)
  have F58 : Fld Z h40 a47 "com/example/sedimenta/sedimenta/Postings" "entriesChecked" "Z" (.int (0 : Int32)) := D45 (Or.inl (own_w (i := 29) rfl hw)) (ty := .boolean) (by decide)
  have F59 : Fld Z h40 a47 "com/example/sedimenta/sedimenta/Postings" "documentCount" "I" (.int (0 : Int32)) := D45 (Or.inl (own_w (i := 32) rfl hw)) (ty := .int) (by decide)
  have F60 : Fld Z h40 a47 "com/example/sedimenta/sedimenta/Postings" "length" "I" (.int (0 : Int32)) := D45 (Or.inl (own_w (i := 43) rfl hw)) (ty := .int) (by decide)
  have F61 : Fld Z h40 a47 "com/example/sedimenta/sedimenta/Postings" "count" "I" (.int (0 : Int32)) := D45 (Or.inl (own_w (i := 45) rfl hw)) (ty := .int) (by decide)
  have F62 : Fld Z h40 a47 "com/example/sedimenta/sedimenta/Postings" "first" "I" (.int (0 : Int32)) := D45 (Or.inl (own_w (i := 57) rfl hw)) (ty := .int) (by decide)
  have F63 : Fld Z h40 a47 "com/example/sedimenta/sedimenta/Postings" "firstFrequency" "I" (.int (0 : Int32)) := D45 (Or.inl (own_w (i := 59) rfl hw)) (ty := .int) (by decide)
  have F64 : Fld Z h40 a47 "com/example/sedimenta/sedimenta/Postings" "firstLength" "I" (.int (0 : Int32)) := D45 (Or.inl (own_w (i := 61) rfl hw)) (ty := .int) (by decide)
  have F65 : Fld Z h40 a47 "com/example/sedimenta/sedimenta/Postings" "positionsLength" "I" (.int (0 : Int32)) := D45 (Or.inl (own_w (i := 72) rfl hw)) (ty := .int) (by decide)
  have F66 : Fld Z h40 a47 "com/example/sedimenta/sedimenta/Postings" "positioned" "Z" (.int (0 : Int32)) := D45 (Or.inl (own_w (i := 78) rfl hw)) (ty := .boolean) (by decide)
  have F67 : Fld Z h40 a47 "com/example/sedimenta/sedimenta/Postings" "offset" "I" (.int (0 : Int32)) := D45 (Or.inl (own_w (i := 85) rfl hw)) (ty := .int) (by decide)
  have F68 : Fld Z h40 a47 "com/example/sedimenta/sedimenta/Postings" "positionsOffset" "I" (.int (0 : Int32)) := D45 (Or.inl (own_w (i := 87) rfl hw)) (ty := .int) (by decide)
  have F69 : Fld Z h40 a47 "com/example/sedimenta/sedimenta/Postings" "blocks" "Lcom/example/sedimenta/sedimenta/TermBlocks;" .null := D45 (Or.inl (own_w (i := 89) rfl hw)) (ty := (.object "com/example/sedimenta/sedimenta/TermBlocks")) (by decide)
  have F70 : Fld Z h40 a47 "com/example/sedimenta/sedimenta/Postings" "source" "Lcom/example/sedimenta/sedimenta/store/StoreInput;" .null := D45 (Or.inl (own_w (i := 91) rfl hw)) (ty := (.object "com/example/sedimenta/sedimenta/store/StoreInput")) (by decide)
  have F71 : Fld Z h40 a47 "com/example/sedimenta/sedimenta/Postings" "sourceEntry" "J" (.long (0 : Int64)) := D45 (Or.inl (own_w (i := 93) rfl hw)) (ty := .long) (by decide)
  refine own_step (T' := T39) (g' := (mkF m 113 #[vi u1, vi u2, vi u3, vi u4, vi u5, vi u6, vi v3, vi (u2 &&& (2147483647 : Int32)), vi v6, vi v15, vi z20, vi z30, vi v38, vi (u4 &&& (7 : Int32)), un, un, un, un, un, un, un, un, un, un, un, un] [(.ref a47)])) st46 ?_
  refine own_step (T' := T39) (g' := (mkF m 114 #[vi u1, vi u2, vi u3, vi u4, vi u5, vi u6, vi v3, vi (u2 &&& (2147483647 : Int32)), vi v6, vi v15, vi z20, vi z30, vi v38, vi (u4 &&& (7 : Int32)), un, un, un, un, un, un, un, un, un, un, un, un] [(.ref a47), (.ref a47)])) (fun t_ k_ => XS.dup X41.here hx rfl (hb hby at_113) rfl rfl k_) ?_
  obtain ⟨_, _, ⟨Tc72, Lc72, kc72, nc72⟩, -, Xc72, ⟨Lcc72, hQc72, lc72, yc72, zc72⟩, stc72⟩ := X41.specialBack hx (y := (⟨"com/example/sedimenta/sedimenta/Postings", "<init>", "()V"⟩ : MethodName)) rfl hown (mvT hZ (own_w (i := 8) rfl hw)) (mvT hZ (own_w (i := 9) rfl hw)) (mvT hZ (own_w (i := 10) rfl hw)) (by decide) (backOf (W := 1) (rm_init l Z a0 hw [] a47 h40 n0 F50 A44 F52 F53 F54 F55 F56 F57 F58 F59 F60 F61 F62 F63 F64 F65 F66 F67 F68 F69 F70 F71 q49) hZ (own_w (i := 10) rfl hw) (own_w (i := 7) rfl hw) (by decide) (by decide)) (g := (mkF m 114 #[vi u1, vi u2, vi u3, vi u4, vi u5, vi u6, vi v3, vi (u2 &&& (2147483647 : Int32)), vi v6, vi v15, vi z20, vi z30, vi v38, vi (u4 &&& (7 : Int32)), un, un, un, un, un, un, un, un, un, un, un, un] [(.ref a47), (.ref a47)])) rfl (by rw [hml]; rfl) (Steps.refl _) (a := a47) (argsL := []) (rest := [(.ref a47)]) (lenOf pd_11 rfl) rfl (by show 2 * 0 + _ ≤ _; exact Nat.le_of_eq rfl) (hb hby at_114) (fun _ _ => ⟨rfl, e42, (by decide : 1 + 3 ≤ _), (by decide : 29 + 64 ≤ _)⟩)
  dsimp only [Pt.U, Pt.locs, Pt.cells, Pt.slots] at Xc72 lc72 yc72 zc72 stc72 hQc72
  subst lc72 yc72 zc72
  have X73 := Xc72.more (cells' := 4) (slots' := 93) (by decide) (by decide)
  obtain ⟨o74, q75, fr76, kq77, rfl, N78, K79, ho80, hq81, ne82, V83, V84, F85, F86, F87, F88, F89, F90, F91, F92, F93, F94, F95, F96, F97, F98, F99, F100, F101, F102, F103, F104⟩ := hQc72
  have N105 := Fr.app N35 N78
  have ne106 : a47 ≠ o74 := Nat.ne_of_lt (Nat.lt_of_lt_of_le A44.lt ho80)
  have q107 : n0 ≤ o74 := Nat.le_trans F50 ho80
  have ne108 : a47 ≠ q75 := Nat.ne_of_lt (Nat.lt_of_lt_of_le A44.lt hq81)
  have q109 : n0 ≤ q75 := Nat.le_trans F50 hq81
  have F110 := Nat.le_trans F50 K79.1
  have F111 := F51.keep K79 (allS q49 all0)
  have F112 := A44.keep K79
  obtain ⟨Lo113, X114, N115⟩ : ∃ Lo_, Stand p l e room_1 s m #[(.int u1), (.int u2), (.int u3), (.int u4), (.int u5), (.int u6)] below meth c Tc72 Lo_ 4 93 ∧ Fr n0 Lo_ := ⟨_, X73, N105⟩
  refine own_step (T' := Tc72) (g' := (mkF m 117 #[vi u1, vi u2, vi u3, vi u4, vi u5, vi u6, vi v3, vi (u2 &&& (2147483647 : Int32)), vi v6, vi v15, vi z20, vi z30, vi v38, vi (u4 &&& (7 : Int32)), un, un, un, un, un, un, un, un, un, un, un, un] [(.ref a47)])) (fun t_ k_ => stc72.trans k_) ?_
  refine own_step (T' := Tc72) (g' := (mkF m 119 #[vi u1, vi u2, vi u3, vi u4, vi u5, vi u6, vi v3, vi (u2 &&& (2147483647 : Int32)), vi v6, vi v15, vi z20, vi z30, vi v38, vi (u4 &&& (7 : Int32)), va a47, un, un, un, un, un, un, un, un, un, un, un] [])) (fun t_ k_ => XS.astore X114.here hx rfl (hb hby at_117) rfl rfl (l' := #[vi u1, vi u2, vi u3, vi u4, vi u5, vi u6, vi v3, vi (u2 &&& (2147483647 : Int32)), vi v6, vi v15, vi z20, vi z30, vi v38, vi (u4 &&& (7 : Int32)), va a47, un, un, un, un, un, un, un, un, un, un, un]) rfl k_) ?_
  refine own_step (T' := Tc72) (g' := (mkF m 121 #[vi u1, vi u2, vi u3, vi u4, vi u5, vi u6, vi v3, vi (u2 &&& (2147483647 : Int32)), vi v6, vi v15, vi z20, vi z30, vi v38, vi (u4 &&& (7 : Int32)), va a47, un, un, un, un, un, un, un, un, un, un, un] [(.int v3)])) (fun t_ k_ => XS.iload X114.here hx rfl (hb hby at_119) rfl k_) ?_
  suffices k117 : ∀ (T118 : State) (h119 : Heap) (Lo120 : List Loc), ∀ v129 : List Value, ∀ v134 : Int32, ∀ v141 : Int32, ∀ v143 : Int32, ∀ v145 : Int32, ∀ v147 : Int32, ∀ v149 : Int32, own_Inv v3 0 (u2 &&& (2147483647 : Int32)) v15 z20 z30 v129 v141 v143 v145 v147 v149 v134 → Stand p l e room_1 s m #[(.int u1), (.int u2), (.int u3), (.int u4), (.int u5), (.int u6)] below meth c T118 Lo120 4 93 → T118.heap = h119 → Fr n0 Lo120 → n0 ≤ h119.size → Old Z n0 h119 → Exa Z h119 a47 "com/example/sedimenta/sedimenta/Postings" → own_Arl Z h119 o74 .byte v129 → Arv Z h119 q75 kq77 .byte (0 : Int32) [] (.int (0 : Int32)) → Fld Z h119 a47 "com/example/sedimenta/sedimenta/Postings" "own" "[B" (.ref o74) → Fld Z h119 a47 "com/example/sedimenta/sedimenta/Postings" "bytes" "[B" (.ref o74) → Fld Z h119 a47 "com/example/sedimenta/sedimenta/Postings" "last" "I" (.int v134) → Fld Z h119 a47 "com/example/sedimenta/sedimenta/Postings" "ownPositions" "[B" (.ref q75) → Fld Z h119 a47 "com/example/sedimenta/sedimenta/Postings" "positionBytes" "[B" (.ref q75) → Fld Z h119 a47 "com/example/sedimenta/sedimenta/Postings" "frequencies" "[I" (.ref fr76) → Fld Z h119 a47 "com/example/sedimenta/sedimenta/Postings" "entriesChecked" "Z" (.int (nar .boolean (1 : Int32))) → Fld Z h119 a47 "com/example/sedimenta/sedimenta/Postings" "documentCount" "I" (.int (2147483647 : Int32)) → Fld Z h119 a47 "com/example/sedimenta/sedimenta/Postings" "length" "I" (.int v141) → Fld Z h119 a47 "com/example/sedimenta/sedimenta/Postings" "count" "I" (.int v143) → Fld Z h119 a47 "com/example/sedimenta/sedimenta/Postings" "first" "I" (.int v145) → Fld Z h119 a47 "com/example/sedimenta/sedimenta/Postings" "firstFrequency" "I" (.int v147) → Fld Z h119 a47 "com/example/sedimenta/sedimenta/Postings" "firstLength" "I" (.int v149) → Fld Z h119 a47 "com/example/sedimenta/sedimenta/Postings" "positionsLength" "I" (.int (0 : Int32)) → Fld Z h119 a47 "com/example/sedimenta/sedimenta/Postings" "positioned" "Z" (.int (0 : Int32)) → Fld Z h119 a47 "com/example/sedimenta/sedimenta/Postings" "offset" "I" (.int (0 : Int32)) → Fld Z h119 a47 "com/example/sedimenta/sedimenta/Postings" "positionsOffset" "I" (.int (0 : Int32)) → Fld Z h119 a47 "com/example/sedimenta/sedimenta/Postings" "blocks" "Lcom/example/sedimenta/sedimenta/TermBlocks;" .null → Fld Z h119 a47 "com/example/sedimenta/sedimenta/Postings" "source" "Lcom/example/sedimenta/sedimenta/store/StoreInput;" .null → Fld Z h119 a47 "com/example/sedimenta/sedimenta/Postings" "sourceEntry" "J" (.long (0 : Int64)) → own_Fin p e below s (Q_31 h0 n0) 14 220 T118 (mkF m 133 #[vi u1, vi u2, vi u3, vi u4, vi u5, vi u6, vi v3, vi (u2 &&& (2147483647 : Int32)), vi v6, vi v15, vi z20, vi z30, vi v38, vi (u4 &&& (7 : Int32)), va a47, un, un, un, un, un, un, un, un, un, un, un] []) by
    by_cases hb116 : v3 = 0
    · refine own_step (T' := Tc72) (g' := (mkF m 133 #[vi u1, vi u2, vi u3, vi u4, vi u5, vi u6, vi v3, vi (u2 &&& (2147483647 : Int32)), vi v6, vi v15, vi z20, vi z30, vi v38, vi (u4 &&& (7 : Int32)), va a47, un, un, un, un, un, un, un, un, un, un, un] [])) (fun t_ k_ => XS.ifYes X114.here hx rfl (pc0 := 121) (pc' := 133) rfl (hb hby at_121) rfl (XT.i0_eq_t hb116) (by decide) (by decide) k_) ?_
      exact k117 _ _ _ own_Z64 (-1 : Int32) (0 : Int32) (0 : Int32) (0 : Int32) (0 : Int32) (0 : Int32) (own_inv0 hb116) X114 rfl N115 F110 F111 F112 V83 V84 F85 F86 F87 F88 F89 F90 F91 F92 F93 F94 F95 F96 F97 F98 F99 F100 F101 F102 F103 F104
    · refine own_step (T' := Tc72) (g' := (mkF m 124 #[vi u1, vi u2, vi u3, vi u4, vi u5, vi u6, vi v3, vi (u2 &&& (2147483647 : Int32)), vi v6, vi v15, vi z20, vi z30, vi v38, vi (u4 &&& (7 : Int32)), va a47, un, un, un, un, un, un, un, un, un, un, un] [])) (fun t_ k_ => XS.ifNo X114.here hx rfl (hb hby at_121) rfl (XT.i0_eq_f hb116) k_) ?_
      refine own_step (T' := Tc72) (g' := (mkF m 126 #[vi u1, vi u2, vi u3, vi u4, vi u5, vi u6, vi v3, vi (u2 &&& (2147483647 : Int32)), vi v6, vi v15, vi z20, vi z30, vi v38, vi (u4 &&& (7 : Int32)), va a47, un, un, un, un, un, un, un, un, un, un, un] [(.ref a47)])) (fun t_ k_ => XS.aload X114.here hx rfl (hb hby at_124) rfl rfl k_) ?_
      refine own_step (T' := Tc72) (g' := (mkF m 128 #[vi u1, vi u2, vi u3, vi u4, vi u5, vi u6, vi v3, vi (u2 &&& (2147483647 : Int32)), vi v6, vi v15, vi z20, vi z30, vi v38, vi (u4 &&& (7 : Int32)), va a47, un, un, un, un, un, un, un, un, un, un, un] [(.int (u2 &&& (2147483647 : Int32))), (.ref a47)])) (fun t_ k_ => XS.iload X114.here hx rfl (hb hby at_126) rfl k_) ?_
      refine own_step (T' := Tc72) (g' := (mkF m 130 #[vi u1, vi u2, vi u3, vi u4, vi u5, vi u6, vi v3, vi (u2 &&& (2147483647 : Int32)), vi v6, vi v15, vi z20, vi z30, vi v38, vi (u4 &&& (7 : Int32)), va a47, un, un, un, un, un, un, un, un, un, un, un] [(.int z20), (.int (u2 &&& (2147483647 : Int32))), (.ref a47)])) (fun t_ k_ => XS.iload X114.here hx rfl (hb hby at_128) rfl k_) ?_
      obtain ⟨cqc157, kqc157, qac157, qbc157, qcc157⟩ := isOf hZ rfl F112
      obtain ⟨_, _, ⟨Tc157, Lc157, kc157, nc157⟩, -, Xc157, ⟨Lcc157, hQc157, lc157, yc157, zc157⟩, stc157⟩ := X114.virtualBack hx (y := (⟨"com/example/sedimenta/sedimenta/Postings", "add", "(II)V"⟩ : MethodName)) (z := (⟨"com/example/sedimenta/sedimenta/Postings", "add", "(II)V"⟩ : MethodName)) hown (mvT hZ (own_w (i := 33) rfl hw)) (mvT hZ (own_w (i := 34) rfl hw)) (notFace_of_selects (args := #[]) (mvT hZ (own_w (i := 36) rfl hw))) (mvT hZ (own_w (i := 36) rfl hw)) (mvT hZ (own_w (i := 35) rfl hw)) (by decide) (backOf (W := 0) (rm_add0 l Z a0 hw [] a47 (u2 &&& (2147483647 : Int32)) z20 o74 (.ref o74) (-1 : Int32) (.ref q75) (.ref q75) (.ref fr76) (nar .boolean (1 : Int32)) (2147483647 : Int32) (0 : Int32) (0 : Int32) (0 : Int32) (0 : Int32) (0 : Int32) (0 : Int32) (0 : Int32) (0 : Int32) (0 : Int32) .null .null (0 : Int64) own_Z64 Tc72.heap n0 F110 F112 F85 F86 F87 F88 F89 F90 F91 F92 F93 F94 F95 F96 F97 F98 F99 F100 F101 F102 F103 F104 V83 q49 q107 ne106 (own_ap0 hB0) rfl) hZ (own_w (i := 37) rfl hw) (own_w (i := 7) rfl hw) (by decide) (by decide)) qac157 qcc157 (g := (mkF m 130 #[vi u1, vi u2, vi u3, vi u4, vi u5, vi u6, vi v3, vi (u2 &&& (2147483647 : Int32)), vi v6, vi v15, vi z20, vi z30, vi v38, vi (u4 &&& (7 : Int32)), va a47, un, un, un, un, un, un, un, un, un, un, un] [(.int z20), (.int (u2 &&& (2147483647 : Int32))), (.ref a47)])) rfl (by rw [hml]; rfl) (Steps.refl _) (argsL := [(.int (u2 &&& (2147483647 : Int32))), (.int z20)]) (rest := []) (lenOf pd_16 rfl) rfl (by show 2 * 0 + _ ≤ _; exact Nat.le_of_eq rfl) (hb hby at_130) (fun _ _ => ⟨rfl, rfl, (by decide : 4 + 0 ≤ _), (by decide : 93 + 0 ≤ _)⟩)
      dsimp only [Pt.U, Pt.locs, Pt.cells, Pt.slots] at Xc157 lc157 yc157 zc157 stc157 hQc157
      subst lc157 yc157 zc157
      have X158 := Xc157.more (cells' := 4) (slots' := 93) (by decide) (by decide)
      obtain ⟨us159, r160, rfl, N161, K162, V163, H164, F165, F166, F167, F168, F169, F170, F171, F172, F173, F174, F175, F176, F177, F178, F179, F180, F181, F182, F183, F184⟩ := hQc157
      have N185 := Fr.app N115 N161
      have F186 := Nat.le_trans F110 K162.1
      have F187 := F111.keep K162 (allS q49 (allS q107 all0))
      have F188 := F112.keep K162
      have F189 := V84.keep K162 (ninS (Ne.symm ne108) (ninS (Ne.symm ne82) nin0))
      obtain ⟨Lo190, X191, N192⟩ : ∃ Lo_, Stand p l e room_1 s m #[(.int u1), (.int u2), (.int u3), (.int u4), (.int u5), (.int u6)] below meth c Tc157 Lo_ 4 93 ∧ Fr n0 Lo_ := ⟨_, X158, N185⟩
      refine own_step (T' := Tc157) (g' := (mkF m 133 #[vi u1, vi u2, vi u3, vi u4, vi u5, vi u6, vi v3, vi (u2 &&& (2147483647 : Int32)), vi v6, vi v15, vi z20, vi z30, vi v38, vi (u4 &&& (7 : Int32)), va a47, un, un, un, un, un, un, un, un, un, un, un] [])) (fun t_ k_ => stc157.trans k_) ?_
      exact k117 _ _ _ us159 (u2 &&& (2147483647 : Int32)) r160 ((0 : Int32) + (1 : Int32)) (u2 &&& (2147483647 : Int32)) z20 (r160 - (0 : Int32)) (own_inv1 hb116 H164) X191 rfl N192 F186 F187 F188 V163 F189 F165 F166 F167 F168 F169 F170 F171 F172 F173 F174 F175 F176 F177 F178 F179 F180 F181 F182 F183 F184
  intro T118 h119 Lo120 v129 v134 v141 v143 v145 v147 v149 I124 X121 e122 N123 F125 F126 F127 F128 F130 F131 F132 F133 F135 F136 F137 F138 F139 F140 F142 F144 F146 F148 F150 F151 F152 F153 F154 F155 F156
  refine own_step (T' := T118) (g' := (mkF m 135 #[vi u1, vi u2, vi u3, vi u4, vi u5, vi u6, vi v3, vi (u2 &&& (2147483647 : Int32)), vi v6, vi v15, vi z20, vi z30, vi v38, vi (u4 &&& (7 : Int32)), va a47, un, un, un, un, un, un, un, un, un, un, un] [(.int v6)])) (fun t_ k_ => XS.iload X121.here hx rfl (hb hby at_133) rfl k_) ?_
  suffices k194 : ∀ (T195 : State) (h196 : Heap) (Lo197 : List Loc), ∀ v206 : List Value, ∀ v211 : Int32, ∀ v218 : Int32, ∀ v220 : Int32, own_Inv v3 v6 (u2 &&& (2147483647 : Int32)) v15 z20 z30 v206 v218 v220 v145 v147 v149 v211 → Stand p l e room_1 s m #[(.int u1), (.int u2), (.int u3), (.int u4), (.int u5), (.int u6)] below meth c T195 Lo197 4 93 → T195.heap = h196 → Fr n0 Lo197 → n0 ≤ h196.size → Old Z n0 h196 → Exa Z h196 a47 "com/example/sedimenta/sedimenta/Postings" → own_Arl Z h196 o74 .byte v206 → Arv Z h196 q75 kq77 .byte (0 : Int32) [] (.int (0 : Int32)) → Fld Z h196 a47 "com/example/sedimenta/sedimenta/Postings" "own" "[B" (.ref o74) → Fld Z h196 a47 "com/example/sedimenta/sedimenta/Postings" "bytes" "[B" (.ref o74) → Fld Z h196 a47 "com/example/sedimenta/sedimenta/Postings" "last" "I" (.int v211) → Fld Z h196 a47 "com/example/sedimenta/sedimenta/Postings" "ownPositions" "[B" (.ref q75) → Fld Z h196 a47 "com/example/sedimenta/sedimenta/Postings" "positionBytes" "[B" (.ref q75) → Fld Z h196 a47 "com/example/sedimenta/sedimenta/Postings" "frequencies" "[I" (.ref fr76) → Fld Z h196 a47 "com/example/sedimenta/sedimenta/Postings" "entriesChecked" "Z" (.int (nar .boolean (1 : Int32))) → Fld Z h196 a47 "com/example/sedimenta/sedimenta/Postings" "documentCount" "I" (.int (2147483647 : Int32)) → Fld Z h196 a47 "com/example/sedimenta/sedimenta/Postings" "length" "I" (.int v218) → Fld Z h196 a47 "com/example/sedimenta/sedimenta/Postings" "count" "I" (.int v220) → Fld Z h196 a47 "com/example/sedimenta/sedimenta/Postings" "first" "I" (.int v145) → Fld Z h196 a47 "com/example/sedimenta/sedimenta/Postings" "firstFrequency" "I" (.int v147) → Fld Z h196 a47 "com/example/sedimenta/sedimenta/Postings" "firstLength" "I" (.int v149) → Fld Z h196 a47 "com/example/sedimenta/sedimenta/Postings" "positionsLength" "I" (.int (0 : Int32)) → Fld Z h196 a47 "com/example/sedimenta/sedimenta/Postings" "positioned" "Z" (.int (0 : Int32)) → Fld Z h196 a47 "com/example/sedimenta/sedimenta/Postings" "offset" "I" (.int (0 : Int32)) → Fld Z h196 a47 "com/example/sedimenta/sedimenta/Postings" "positionsOffset" "I" (.int (0 : Int32)) → Fld Z h196 a47 "com/example/sedimenta/sedimenta/Postings" "blocks" "Lcom/example/sedimenta/sedimenta/TermBlocks;" .null → Fld Z h196 a47 "com/example/sedimenta/sedimenta/Postings" "source" "Lcom/example/sedimenta/sedimenta/store/StoreInput;" .null → Fld Z h196 a47 "com/example/sedimenta/sedimenta/Postings" "sourceEntry" "J" (.long (0 : Int64)) → own_Fin p e below s (Q_31 h0 n0) 14 220 T195 (mkF m 147 #[vi u1, vi u2, vi u3, vi u4, vi u5, vi u6, vi v3, vi (u2 &&& (2147483647 : Int32)), vi v6, vi v15, vi z20, vi z30, vi v38, vi (u4 &&& (7 : Int32)), va a47, un, un, un, un, un, un, un, un, un, un, un] []) by
    by_cases hb193 : v6 = 0
    · refine own_step (T' := T118) (g' := (mkF m 147 #[vi u1, vi u2, vi u3, vi u4, vi u5, vi u6, vi v3, vi (u2 &&& (2147483647 : Int32)), vi v6, vi v15, vi z20, vi z30, vi v38, vi (u4 &&& (7 : Int32)), va a47, un, un, un, un, un, un, un, un, un, un, un] [])) (fun t_ k_ => XS.ifYes X121.here hx rfl (pc0 := 135) (pc' := 147) rfl (hb hby at_135) rfl (XT.i0_eq_t hb193) (by decide) (by decide) k_) ?_
      exact k194 _ _ _ v129 v134 v141 v143 (own_inv2 hb193 I124) X121 e122 N123 F125 F126 F127 F128 F130 F131 F132 F133 F135 F136 F137 F138 F139 F140 F142 F144 F146 F148 F150 F151 F152 F153 F154 F155 F156
    · refine own_step (T' := T118) (g' := (mkF m 138 #[vi u1, vi u2, vi u3, vi u4, vi u5, vi u6, vi v3, vi (u2 &&& (2147483647 : Int32)), vi v6, vi v15, vi z20, vi z30, vi v38, vi (u4 &&& (7 : Int32)), va a47, un, un, un, un, un, un, un, un, un, un, un] [])) (fun t_ k_ => XS.ifNo X121.here hx rfl (hb hby at_135) rfl (XT.i0_eq_f hb193) k_) ?_
      refine own_step (T' := T118) (g' := (mkF m 140 #[vi u1, vi u2, vi u3, vi u4, vi u5, vi u6, vi v3, vi (u2 &&& (2147483647 : Int32)), vi v6, vi v15, vi z20, vi z30, vi v38, vi (u4 &&& (7 : Int32)), va a47, un, un, un, un, un, un, un, un, un, un, un] [(.ref a47)])) (fun t_ k_ => XS.aload X121.here hx rfl (hb hby at_138) rfl rfl k_) ?_
      refine own_step (T' := T118) (g' := (mkF m 142 #[vi u1, vi u2, vi u3, vi u4, vi u5, vi u6, vi v3, vi (u2 &&& (2147483647 : Int32)), vi v6, vi v15, vi z20, vi z30, vi v38, vi (u4 &&& (7 : Int32)), va a47, un, un, un, un, un, un, un, un, un, un, un] [(.int v15), (.ref a47)])) (fun t_ k_ => XS.iload X121.here hx rfl (hb hby at_140) rfl k_) ?_
      refine own_step (T' := T118) (g' := (mkF m 144 #[vi u1, vi u2, vi u3, vi u4, vi u5, vi u6, vi v3, vi (u2 &&& (2147483647 : Int32)), vi v6, vi v15, vi z20, vi z30, vi v38, vi (u4 &&& (7 : Int32)), va a47, un, un, un, un, un, un, un, un, un, un, un] [(.int z30), (.int v15), (.ref a47)])) (fun t_ k_ => XS.iload X121.here hx rfl (hb hby at_142) rfl k_) ?_
      obtain ⟨cqc231, kqc231, qac231, qbc231, qcc231⟩ := isOf hZ e122 F127
      obtain ⟨_, _, ⟨Tc231, Lc231, kc231, nc231⟩, -, Xc231, ⟨Lcc231, hQc231, lc231, yc231, zc231⟩, stc231⟩ := X121.virtualBack hx (y := (⟨"com/example/sedimenta/sedimenta/Postings", "add", "(II)V"⟩ : MethodName)) (z := (⟨"com/example/sedimenta/sedimenta/Postings", "add", "(II)V"⟩ : MethodName)) hown (mvT hZ (own_w (i := 33) rfl hw)) (mvT hZ (own_w (i := 34) rfl hw)) (notFace_of_selects (args := #[]) (mvT hZ (own_w (i := 36) rfl hw))) (mvT hZ (own_w (i := 36) rfl hw)) (mvT hZ (own_w (i := 35) rfl hw)) (by decide) (backOf (W := 0) (rm_add1 l Z a0 hw [] a47 v15 z30 o74 (.ref o74) v134 (.ref q75) (.ref q75) (.ref fr76) (nar .boolean (1 : Int32)) (2147483647 : Int32) v141 v143 v145 v147 v149 (0 : Int32) (0 : Int32) (0 : Int32) (0 : Int32) .null .null (0 : Int64) v129 h119 n0 F125 F127 F131 F132 F133 F135 F136 F137 F138 F139 F140 F142 F144 F146 F148 F150 F151 F152 F153 F154 F155 F156 F128 q49 q107 ne106 (own_ap1 hB0 hb193 I124).1 (own_ap1 hB0 hb193 I124).2) hZ (own_w (i := 37) rfl hw) (own_w (i := 7) rfl hw) (by decide) (by decide)) qac231 qcc231 (g := (mkF m 144 #[vi u1, vi u2, vi u3, vi u4, vi u5, vi u6, vi v3, vi (u2 &&& (2147483647 : Int32)), vi v6, vi v15, vi z20, vi z30, vi v38, vi (u4 &&& (7 : Int32)), va a47, un, un, un, un, un, un, un, un, un, un, un] [(.int z30), (.int v15), (.ref a47)])) rfl (by rw [hml]; rfl) (Steps.refl _) (argsL := [(.int v15), (.int z30)]) (rest := []) (lenOf pd_16 rfl) rfl (by show 2 * 0 + _ ≤ _; exact Nat.le_of_eq rfl) (hb hby at_144) (fun _ _ => ⟨rfl, e122, (by decide : 4 + 0 ≤ _), (by decide : 93 + 0 ≤ _)⟩)
      dsimp only [Pt.U, Pt.locs, Pt.cells, Pt.slots] at Xc231 lc231 yc231 zc231 stc231 hQc231
      subst lc231 yc231 zc231
      have X232 := Xc231.more (cells' := 4) (slots' := 93) (by decide) (by decide)
      obtain ⟨us233, r234, rfl, N235, K236, V237, H238, F239, F240, F241, F242, F243, F244, F245, F246, F247, F248, F249, F250, F251, F252, F253, F254, F255, F256, F257, F258⟩ := hQc231
      have N259 := Fr.app N123 N235
      have F260 := Nat.le_trans F125 K236.1
      have F261 := F126.keep K236 (allS q49 (allS q107 all0))
      have F262 := F127.keep K236
      have F263 := F130.keep K236 (ninS (Ne.symm ne108) (ninS (Ne.symm ne82) nin0))
      obtain ⟨Lo264, X265, N266⟩ : ∃ Lo_, Stand p l e room_1 s m #[(.int u1), (.int u2), (.int u3), (.int u4), (.int u5), (.int u6)] below meth c Tc231 Lo_ 4 93 ∧ Fr n0 Lo_ := ⟨_, X232, N259⟩
      refine own_step (T' := Tc231) (g' := (mkF m 147 #[vi u1, vi u2, vi u3, vi u4, vi u5, vi u6, vi v3, vi (u2 &&& (2147483647 : Int32)), vi v6, vi v15, vi z20, vi z30, vi v38, vi (u4 &&& (7 : Int32)), va a47, un, un, un, un, un, un, un, un, un, un, un] [])) (fun t_ k_ => stc231.trans k_) ?_
      exact k194 _ _ _ us233 v15 r234 (v143 + (1 : Int32)) (own_inv3 hB0 hb193 I124 H238) X265 rfl N266 F260 F261 F262 V237 F263 F239 F240 F241 F242 F243 F244 F245 F246 F247 F248 F249 F250 F251 F252 F253 F254 F255 F256 F257 F258
  intro T195 h196 Lo197 v206 v211 v218 v220 I201 X198 e199 N200 F202 F203 F204 F205 F207 F208 F209 F210 F212 F213 F214 F215 F216 F217 F219 F221 F222 F223 F224 F225 F226 F227 F228 F229 F230
  refine own_step (T' := T195) (g' := (mkF m 149 #[vi u1, vi u2, vi u3, vi u4, vi u5, vi u6, vi v3, vi (u2 &&& (2147483647 : Int32)), vi v6, vi v15, vi z20, vi z30, vi v38, vi (u4 &&& (7 : Int32)), va a47, un, un, un, un, un, un, un, un, un, un, un] [(.int v38)])) (fun t_ k_ => XS.iload X198.here hx rfl (hb hby at_147) rfl k_) ?_
  suffices k268 : ∀ (T269 : State) (h270 : Heap) (Lo271 : List Loc), ∀ v284 : Addr, ∀ v286 : Addr, ∀ v296 : Int32, ∀ v298 : Int32, own_Pos v38 (u4 &&& (7 : Int32)) v298 v296 → Stand p l e room_1 s m #[(.int u1), (.int u2), (.int u3), (.int u4), (.int u5), (.int u6)] below meth c T269 Lo271 6 108 → T269.heap = h270 → Fr n0 Lo271 → n0 ≤ h270.size → Old Z n0 h270 → Exa Z h270 a47 "com/example/sedimenta/sedimenta/Postings" → own_Arl Z h270 o74 .byte v206 → Fld Z h270 a47 "com/example/sedimenta/sedimenta/Postings" "own" "[B" (.ref o74) → Fld Z h270 a47 "com/example/sedimenta/sedimenta/Postings" "bytes" "[B" (.ref o74) → Fld Z h270 a47 "com/example/sedimenta/sedimenta/Postings" "last" "I" (.int v211) → Fld Z h270 a47 "com/example/sedimenta/sedimenta/Postings" "ownPositions" "[B" (.ref v284) → Fld Z h270 a47 "com/example/sedimenta/sedimenta/Postings" "positionBytes" "[B" (.ref v286) → Fld Z h270 a47 "com/example/sedimenta/sedimenta/Postings" "frequencies" "[I" (.ref fr76) → Fld Z h270 a47 "com/example/sedimenta/sedimenta/Postings" "entriesChecked" "Z" (.int (nar .boolean (1 : Int32))) → Fld Z h270 a47 "com/example/sedimenta/sedimenta/Postings" "documentCount" "I" (.int (2147483647 : Int32)) → Fld Z h270 a47 "com/example/sedimenta/sedimenta/Postings" "length" "I" (.int v218) → Fld Z h270 a47 "com/example/sedimenta/sedimenta/Postings" "count" "I" (.int v220) → Fld Z h270 a47 "com/example/sedimenta/sedimenta/Postings" "first" "I" (.int v145) → Fld Z h270 a47 "com/example/sedimenta/sedimenta/Postings" "firstFrequency" "I" (.int v147) → Fld Z h270 a47 "com/example/sedimenta/sedimenta/Postings" "firstLength" "I" (.int v149) → Fld Z h270 a47 "com/example/sedimenta/sedimenta/Postings" "positionsLength" "I" (.int v296) → Fld Z h270 a47 "com/example/sedimenta/sedimenta/Postings" "positioned" "Z" (.int v298) → Fld Z h270 a47 "com/example/sedimenta/sedimenta/Postings" "offset" "I" (.int (0 : Int32)) → Fld Z h270 a47 "com/example/sedimenta/sedimenta/Postings" "positionsOffset" "I" (.int (0 : Int32)) → Fld Z h270 a47 "com/example/sedimenta/sedimenta/Postings" "blocks" "Lcom/example/sedimenta/sedimenta/TermBlocks;" .null → Fld Z h270 a47 "com/example/sedimenta/sedimenta/Postings" "source" "Lcom/example/sedimenta/sedimenta/store/StoreInput;" .null → Fld Z h270 a47 "com/example/sedimenta/sedimenta/Postings" "sourceEntry" "J" (.long (0 : Int64)) → own_Fin p e below s (Q_31 h0 n0) 14 220 T269 (mkF m 164 #[vi u1, vi u2, vi u3, vi u4, vi u5, vi u6, vi v3, vi (u2 &&& (2147483647 : Int32)), vi v6, vi v15, vi z20, vi z30, vi v38, vi (u4 &&& (7 : Int32)), va a47, un, un, un, un, un, un, un, un, un, un, un] []) by
    by_cases hb267 : v38 = 0
    · refine own_step (T' := T195) (g' := (mkF m 164 #[vi u1, vi u2, vi u3, vi u4, vi u5, vi u6, vi v3, vi (u2 &&& (2147483647 : Int32)), vi v6, vi v15, vi z20, vi z30, vi v38, vi (u4 &&& (7 : Int32)), va a47, un, un, un, un, un, un, un, un, un, un, un] [])) (fun t_ k_ => XS.ifYes X198.here hx rfl (pc0 := 149) (pc' := 164) rfl (hb hby at_149) rfl (XT.i0_eq_t hb267) (by decide) (by decide) k_) ?_
      exact k268 _ _ _ q75 q75 (0 : Int32) (0 : Int32) (Or.inl ⟨hb267, rfl, rfl⟩) (X198.more (by decide) (by decide)) e199 N200 F202 F203 F204 F205 F208 F209 F210 F212 F213 F214 F215 F216 F217 F219 F221 F222 F223 F224 F225 F226 F227 F228 F229 F230
    · refine own_step (T' := T195) (g' := (mkF m 152 #[vi u1, vi u2, vi u3, vi u4, vi u5, vi u6, vi v3, vi (u2 &&& (2147483647 : Int32)), vi v6, vi v15, vi z20, vi z30, vi v38, vi (u4 &&& (7 : Int32)), va a47, un, un, un, un, un, un, un, un, un, un, un] [])) (fun t_ k_ => XS.ifNo X198.here hx rfl (hb hby at_149) rfl (XT.i0_eq_f hb267) k_) ?_
      refine own_step (T' := T195) (g' := (mkF m 154 #[vi u1, vi u2, vi u3, vi u4, vi u5, vi u6, vi v3, vi (u2 &&& (2147483647 : Int32)), vi v6, vi v15, vi z20, vi z30, vi v38, vi (u4 &&& (7 : Int32)), va a47, un, un, un, un, un, un, un, un, un, un, un] [(.ref a47)])) (fun t_ k_ => XS.aload X198.here hx rfl (hb hby at_152) rfl rfl k_) ?_
      refine own_step (T' := T195) (g' := (mkF m 156 #[vi u1, vi u2, vi u3, vi u4, vi u5, vi u6, vi v3, vi (u2 &&& (2147483647 : Int32)), vi v6, vi v15, vi z20, vi z30, vi v38, vi (u4 &&& (7 : Int32)), va a47, un, un, un, un, un, un, un, un, un, un, un] [(.int (8 : Int32)), (.ref a47)])) (fun t_ k_ => XT.bipushV X198.here hx rfl (8 : Int32) (hb hby at_154) (by decide) k_) ?_
      obtain ⟨T304, h305, cA306, X307, e308, E309, A310, st311⟩ := newP X198 hx hZ (own_w (i := 14) rfl hw) e199 (g := (mkF m 156 #[vi u1, vi u2, vi u3, vi u4, vi u5, vi u6, vi v3, vi (u2 &&& (2147483647 : Int32)), vi v6, vi v15, vi z20, vi z30, vi v38, vi (u4 &&& (7 : Int32)), va a47, un, un, un, un, un, un, un, un, un, un, un] [(.int (8 : Int32)), (.ref a47)])) rfl (hb hby at_156) rfl (by decide) (cap := 8) (by decide) (by decide) (by decide) (by decide)
      obtain ⟨a312, g313⟩ : ∃ z, z = h196.size := ⟨_, rfl⟩
      rw [← g313] at A310 st311
      have q314 : n0 ≤ a312 := Nat.le_trans F202 (Nat.le_of_eq g313.symm)
      have ne315 : a47 ≠ a312 := Nat.ne_of_lt (Nat.lt_of_lt_of_le F204.lt (Nat.le_of_eq g313.symm))
      have ne316 : o74 ≠ a312 := Nat.ne_of_lt (Nat.lt_of_lt_of_le F205.lt (Nat.le_of_eq g313.symm))
      have ne317 : q75 ≠ a312 := Nat.ne_of_lt (Nat.lt_of_lt_of_le F207.lt (Nat.le_of_eq g313.symm))
      have F318 := Nat.le_trans F202 E309.1
      have F319 := F203.ext E309
      have F320 := F204.ext E309
      have F321 := F205.ext E309
      have F322 := F207.ext E309
      have F323 := F208.ext E309
      have F324 := F209.ext E309
      have F325 := F210.ext E309
      have F326 := F212.ext E309
      have F327 := F213.ext E309
      have F328 := F214.ext E309
      have F329 := F215.ext E309
      have F330 := F216.ext E309
      have F331 := F217.ext E309
      have F332 := F219.ext E309
      have F333 := F221.ext E309
      have F334 := F222.ext E309
      have F335 := F223.ext E309
      have F336 := F224.ext E309
      have F337 := F225.ext E309
      have F338 := F226.ext E309
      have F339 := F227.ext E309
      have F340 := F228.ext E309
      have F341 := F229.ext E309
      have F342 := F230.ext E309
      have V343 : own_Arl Z h305 a312 .byte [(.int (0 : Int32)), (.int (0 : Int32)), (.int (0 : Int32)), (.int (0 : Int32)), (.int (0 : Int32)), (.int (0 : Int32)), (.int (0 : Int32)), (.int (0 : Int32))] := own_Arl.of_new A310 (i := 8) (by decide)
      have V344 : Arv Z h305 a312 cA306 .byte (8 : Int32) [] (.int (0 : Int32)) := Arv.new A310 (by decide)
      refine own_step (T' := T304) (g' := (mkF m 158 #[vi u1, vi u2, vi u3, vi u4, vi u5, vi u6, vi v3, vi (u2 &&& (2147483647 : Int32)), vi v6, vi v15, vi z20, vi z30, vi v38, vi (u4 &&& (7 : Int32)), va a47, un, un, un, un, un, un, un, un, un, un, un] [(.ref a312), (.ref a47)])) st311 ?_
      refine own_step (T' := T304) (g' := (mkF m 159 #[vi u1, vi u2, vi u3, vi u4, vi u5, vi u6, vi v3, vi (u2 &&& (2147483647 : Int32)), vi v6, vi v15, vi z20, vi z30, vi v38, vi (u4 &&& (7 : Int32)), va a47, un, un, un, un, un, un, un, un, un, un, un] [(.int (0 : Int32)), (.ref a312), (.ref a47)])) (fun t_ k_ => XT.iconstV X307.here hx rfl (0 : Int32) (hb hby at_158) (by decide) k_) ?_
      refine own_step (T' := T304) (g' := (mkF m 161 #[vi u1, vi u2, vi u3, vi u4, vi u5, vi u6, vi v3, vi (u2 &&& (2147483647 : Int32)), vi v6, vi v15, vi z20, vi z30, vi v38, vi (u4 &&& (7 : Int32)), va a47, un, un, un, un, un, un, un, un, un, un, un] [(.int (u4 &&& (7 : Int32))), (.int (0 : Int32)), (.ref a312), (.ref a47)])) (fun t_ k_ => XS.iload X307.here hx rfl (hb hby at_159) rfl k_) ?_
      obtain ⟨cqc345, kqc345, qac345, qbc345, qcc345⟩ := isOf hZ e308 F320
      obtain ⟨_, _, ⟨Tc345, Lc345, kc345, nc345⟩, -, Xc345, ⟨Lcc345, hQc345, lc345, yc345, zc345⟩, stc345⟩ := X307.virtualBack hx (y := (⟨"com/example/sedimenta/sedimenta/Postings", "addPositions", "([BII)V"⟩ : MethodName)) (z := (⟨"com/example/sedimenta/sedimenta/Postings", "addPositions", "([BII)V"⟩ : MethodName)) hown (mvT hZ (own_w (i := 62) rfl hw)) (mvT hZ (own_w (i := 63) rfl hw)) (notFace_of_selects (args := #[]) (mvT hZ (own_w (i := 65) rfl hw))) (mvT hZ (own_w (i := 65) rfl hw)) (mvT hZ (own_w (i := 64) rfl hw)) (by decide) (backOf (W := 0) (rm_ap l Z a0 hw [] a47 a312 (u4 &&& (7 : Int32)) (.ref o74) (.ref o74) v211 q75 (.ref q75) (.ref fr76) (nar .boolean (1 : Int32)) (2147483647 : Int32) v218 v220 v145 v147 v149 (0 : Int32) (0 : Int32) (0 : Int32) .null .null (0 : Int64) kq77 cA306 h305 n0 F318 F320 F323 F324 F325 F326 F327 F328 F329 F330 F331 F332 F333 F334 F335 F336 F337 F338 F339 F340 F341 F342 F322 q49 q109 ne108 (own_k7 _) V344 (Ne.symm ne315) (Ne.symm ne317)) hZ (own_w (i := 66) rfl hw) (own_w (i := 7) rfl hw) (by decide) (by decide)) qac345 qcc345 (g := (mkF m 161 #[vi u1, vi u2, vi u3, vi u4, vi u5, vi u6, vi v3, vi (u2 &&& (2147483647 : Int32)), vi v6, vi v15, vi z20, vi z30, vi v38, vi (u4 &&& (7 : Int32)), va a47, un, un, un, un, un, un, un, un, un, un, un] [(.int (u4 &&& (7 : Int32))), (.int (0 : Int32)), (.ref a312), (.ref a47)])) rfl (by rw [hml]; rfl) (Steps.refl _) (argsL := [(.ref a312), (.int (0 : Int32)), (.int (u4 &&& (7 : Int32)))]) (rest := []) (lenOf pd_17 rfl) rfl (by show 2 * 0 + _ ≤ _; exact Nat.le_of_eq rfl) (hb hby at_161) (fun _ _ => ⟨rfl, e308, (by decide : 5 + 1 ≤ _), (by decide : 101 + 7 ≤ _)⟩)
      dsimp only [Pt.U, Pt.locs, Pt.cells, Pt.slots] at Xc345 lc345 yc345 zc345 stc345 hQc345
      subst lc345 yc345 zc345
      have X346 := Xc345.more (cells' := 6) (slots' := 108) (by decide) (by decide)
      obtain ⟨r347, rfl, N348, K349, F350, F351, F352, F353, F354, F355, F356, F357, F358, F359, F360, F361, F362, F363, F364, F365, F366, F367, F368, F369⟩ := hQc345
      have N370 := Fr.app N200 N348
      have F371 := Nat.le_trans F318 K349.1
      have F372 := F319.keep K349 (allS q49 (allS q109 all0))
      have F373 := F320.keep K349
      have F374 := F321.keep K349 (ninS (Ne.symm ne106) (ninS ne82 nin0))
      obtain ⟨Lo375, X376, N377⟩ : ∃ Lo_, Stand p l e room_1 s m #[(.int u1), (.int u2), (.int u3), (.int u4), (.int u5), (.int u6)] below meth c Tc345 Lo_ 6 108 ∧ Fr n0 Lo_ := ⟨_, X346, N370⟩
      refine own_step (T' := Tc345) (g' := (mkF m 164 #[vi u1, vi u2, vi u3, vi u4, vi u5, vi u6, vi v3, vi (u2 &&& (2147483647 : Int32)), vi v6, vi v15, vi z20, vi z30, vi v38, vi (u4 &&& (7 : Int32)), va a47, un, un, un, un, un, un, un, un, un, un, un] [])) (fun t_ k_ => stc345.trans k_) ?_
      exact k268 _ _ _ r347 r347 ((0 : Int32) + (u4 &&& (7 : Int32))) (nar .boolean (1 : Int32)) (Or.inr ⟨hb267, rfl, rfl⟩) X376 rfl N377 F371 F372 F373 F374 F350 F351 F352 F353 F354 F355 F356 F357 F358 F359 F360 F361 F362 F363 F364 F365 F366 F367 F368 F369
  intro T269 h270 Lo271 v284 v286 v296 v298 I275 X272 e273 N274 F276 F277 F278 F279 F280 F281 F282 F283 F285 F287 F288 F289 F290 F291 F292 F293 F294 F295 F297 F299 F300 F301 F302 F303
  obtain ⟨T378, h379, X380, e381, E382, A383, D384, -, st385⟩ := newO X272 hx hZ hown (own_w (i := 5) rfl hw) (own_w (i := 6) rfl hw) (own_w (i := 7) rfl hw) e273 (g := (mkF m 164 #[vi u1, vi u2, vi u3, vi u4, vi u5, vi u6, vi v3, vi (u2 &&& (2147483647 : Int32)), vi v6, vi v15, vi z20, vi z30, vi v38, vi (u4 &&& (7 : Int32)), va a47, un, un, un, un, un, un, un, un, un, un, un] [])) rfl (hb hby at_164) (by decide) (by decide)
  obtain ⟨a386, g387⟩ : ∃ z, z = h270.size := ⟨_, rfl⟩
  rw [← g387] at A383 D384 st385
  have q388 : n0 ≤ a386 := Nat.le_trans F276 (Nat.le_of_eq g387.symm)
  have ne389 : a47 ≠ a386 := Nat.ne_of_lt (Nat.lt_of_lt_of_le F278.lt (Nat.le_of_eq g387.symm))
  have ne390 : o74 ≠ a386 := Nat.ne_of_lt (Nat.lt_of_lt_of_le F279.lt (Nat.le_of_eq g387.symm))
  have F391 := Nat.le_trans F276 E382.1
  have F392 := F277.ext E382
  have F393 := F278.ext E382
  have F394 := F279.ext E382
  have F395 := F280.ext E382
  have F396 := F281.ext E382
  have F397 := F282.ext E382
  have F398 := F283.ext E382
  have F399 := F285.ext E382
  have F400 := F287.ext E382
  have F401 := F288.ext E382
  have F402 := F289.ext E382
  have F403 := F290.ext E382
  have F404 := F291.ext E382
  have F405 := F292.ext E382
  have F406 := F293.ext E382
  have F407 := F294.ext E382
  have F408 := F295.ext E382
  have F409 := F297.ext E382
  have F410 := F299.ext E382
  have F411 := F300.ext E382
  have F412 := F301.ext E382
  have F413 := F302.ext E382
  have F414 := F303.ext E382
  have F415 : Fld Z h379 a386 "com/example/sedimenta/sedimenta/Postings" "own" "[B" .null := D384 (Or.inl (own_w (i := 16) rfl hw)) (ty := (.array .byte)) (by decide)
  have F416 : Fld Z h379 a386 "com/example/sedimenta/sedimenta/Postings" "bytes" "[B" .null := D384 (Or.inl (own_w (i := 18) rfl hw)) (ty := (.array .byte)) (by decide)
  have F417 : Fld Z h379 a386 "com/example/sedimenta/sedimenta/Postings" "last" "I" (.int (0 : Int32)) := D384 (Or.inl (own_w (i := 20) rfl hw)) (ty := .int) (by decide)
  have F418 : Fld Z h379 a386 "com/example/sedimenta/sedimenta/Postings" "ownPositions" "[B" .null := D384 (Or.inl (own_w (i := 22) rfl hw)) (ty := (.array .byte)) (by decide)
  have F419 : Fld Z h379 a386 "com/example/sedimenta/sedimenta/Postings" "positionBytes" "[B" .null := D384 (Or.inl (own_w (i := 24) rfl hw)) (ty := (.array .byte)) (by decide)
  have F420 : Fld Z h379 a386 "com/example/sedimenta/sedimenta/Postings" "frequencies" "[I" .null := D384 (Or.inl (own_w (i := 27) rfl hw)) (ty := (.array .int)) (by decide)
  have F421 : Fld Z h379 a386 "com/example/sedimenta/sedimenta/Postings" "entriesChecked" "Z" (.int (0 : Int32)) := D384 (Or.inl (own_w (i := 29) rfl hw)) (ty := .boolean) (by decide)
  have F422 : Fld Z h379 a386 "com/example/sedimenta/sedimenta/Postings" "documentCount" "I" (.int (0 : Int32)) := D384 (Or.inl (own_w (i := 32) rfl hw)) (ty := .int) (by decide)
  have F423 : Fld Z h379 a386 "com/example/sedimenta/sedimenta/Postings" "length" "I" (.int (0 : Int32)) := D384 (Or.inl (own_w (i := 43) rfl hw)) (ty := .int) (by decide)
  have F424 : Fld Z h379 a386 "com/example/sedimenta/sedimenta/Postings" "count" "I" (.int (0 : Int32)) := D384 (Or.inl (own_w (i := 45) rfl hw)) (ty := .int) (by decide)
  have F425 : Fld Z h379 a386 "com/example/sedimenta/sedimenta/Postings" "first" "I" (.int (0 : Int32)) := D384 (Or.inl (own_w (i := 57) rfl hw)) (ty := .int) (by decide)
  have F426 : Fld Z h379 a386 "com/example/sedimenta/sedimenta/Postings" "firstFrequency" "I" (.int (0 : Int32)) := D384 (Or.inl (own_w (i := 59) rfl hw)) (ty := .int) (by decide)
  have F427 : Fld Z h379 a386 "com/example/sedimenta/sedimenta/Postings" "firstLength" "I" (.int (0 : Int32)) := D384 (Or.inl (own_w (i := 61) rfl hw)) (ty := .int) (by decide)
  have F428 : Fld Z h379 a386 "com/example/sedimenta/sedimenta/Postings" "positionsLength" "I" (.int (0 : Int32)) := D384 (Or.inl (own_w (i := 72) rfl hw)) (ty := .int) (by decide)
  have F429 : Fld Z h379 a386 "com/example/sedimenta/sedimenta/Postings" "positioned" "Z" (.int (0 : Int32)) := D384 (Or.inl (own_w (i := 78) rfl hw)) (ty := .boolean) (by decide)
  have F430 : Fld Z h379 a386 "com/example/sedimenta/sedimenta/Postings" "offset" "I" (.int (0 : Int32)) := D384 (Or.inl (own_w (i := 85) rfl hw)) (ty := .int) (by decide)
  have F431 : Fld Z h379 a386 "com/example/sedimenta/sedimenta/Postings" "positionsOffset" "I" (.int (0 : Int32)) := D384 (Or.inl (own_w (i := 87) rfl hw)) (ty := .int) (by decide)
  have F432 : Fld Z h379 a386 "com/example/sedimenta/sedimenta/Postings" "blocks" "Lcom/example/sedimenta/sedimenta/TermBlocks;" .null := D384 (Or.inl (own_w (i := 89) rfl hw)) (ty := (.object "com/example/sedimenta/sedimenta/TermBlocks")) (by decide)
  have F433 : Fld Z h379 a386 "com/example/sedimenta/sedimenta/Postings" "source" "Lcom/example/sedimenta/sedimenta/store/StoreInput;" .null := D384 (Or.inl (own_w (i := 91) rfl hw)) (ty := (.object "com/example/sedimenta/sedimenta/store/StoreInput")) (by decide)
  have F434 : Fld Z h379 a386 "com/example/sedimenta/sedimenta/Postings" "sourceEntry" "J" (.long (0 : Int64)) := D384 (Or.inl (own_w (i := 93) rfl hw)) (ty := .long) (by decide)
  refine own_step (T' := T378) (g' := (mkF m 167 #[vi u1, vi u2, vi u3, vi u4, vi u5, vi u6, vi v3, vi (u2 &&& (2147483647 : Int32)), vi v6, vi v15, vi z20, vi z30, vi v38, vi (u4 &&& (7 : Int32)), va a47, un, un, un, un, un, un, un, un, un, un, un] [(.ref a386)])) st385 ?_
  refine own_step (T' := T378) (g' := (mkF m 168 #[vi u1, vi u2, vi u3, vi u4, vi u5, vi u6, vi v3, vi (u2 &&& (2147483647 : Int32)), vi v6, vi v15, vi z20, vi z30, vi v38, vi (u4 &&& (7 : Int32)), va a47, un, un, un, un, un, un, un, un, un, un, un] [(.ref a386), (.ref a386)])) (fun t_ k_ => XS.dup X380.here hx rfl (hb hby at_167) rfl rfl k_) ?_
  obtain ⟨_, _, ⟨Tc435, Lc435, kc435, nc435⟩, -, Xc435, ⟨Lcc435, hQc435, lc435, yc435, zc435⟩, stc435⟩ := X380.specialBack hx (y := (⟨"com/example/sedimenta/sedimenta/Postings", "<init>", "()V"⟩ : MethodName)) rfl hown (mvT hZ (own_w (i := 8) rfl hw)) (mvT hZ (own_w (i := 9) rfl hw)) (mvT hZ (own_w (i := 10) rfl hw)) (by decide) (backOf (W := 1) (rm_init l Z a0 hw [] a386 h379 n0 F391 A383 F415 F416 F417 F418 F419 F420 F421 F422 F423 F424 F425 F426 F427 F428 F429 F430 F431 F432 F433 F434 q388) hZ (own_w (i := 10) rfl hw) (own_w (i := 7) rfl hw) (by decide) (by decide)) (g := (mkF m 168 #[vi u1, vi u2, vi u3, vi u4, vi u5, vi u6, vi v3, vi (u2 &&& (2147483647 : Int32)), vi v6, vi v15, vi z20, vi z30, vi v38, vi (u4 &&& (7 : Int32)), va a47, un, un, un, un, un, un, un, un, un, un, un] [(.ref a386), (.ref a386)])) rfl (by rw [hml]; rfl) (Steps.refl _) (a := a386) (argsL := []) (rest := [(.ref a386)]) (lenOf pd_11 rfl) rfl (by show 2 * 0 + _ ≤ _; exact Nat.le_of_eq rfl) (hb hby at_168) (fun _ _ => ⟨rfl, e381, (by decide : 7 + 3 ≤ _), (by decide : 137 + 64 ≤ _)⟩)
  dsimp only [Pt.U, Pt.locs, Pt.cells, Pt.slots] at Xc435 lc435 yc435 zc435 stc435 hQc435
  subst lc435 yc435 zc435
  have X436 := Xc435.more (cells' := 10) (slots' := 201) (by decide) (by decide)
  obtain ⟨o437, q438, fr439, kq440, rfl, N441, K442, ho443, hq444, ne445, V446, V447, F448, F449, F450, F451, F452, F453, F454, F455, F456, F457, F458, F459, F460, F461, F462, F463, F464, F465, F466, F467⟩ := hQc435
  have N468 := Fr.app N274 N441
  have ne469 : a47 ≠ o437 := Nat.ne_of_lt (Nat.lt_of_lt_of_le F393.lt ho443)
  have ne470 : o74 ≠ o437 := Nat.ne_of_lt (Nat.lt_of_lt_of_le F394.lt ho443)
  have ne471 : a386 ≠ o437 := Nat.ne_of_lt (Nat.lt_of_lt_of_le A383.lt ho443)
  have q472 : n0 ≤ o437 := Nat.le_trans F391 ho443
  have ne473 : a47 ≠ q438 := Nat.ne_of_lt (Nat.lt_of_lt_of_le F393.lt hq444)
  have ne474 : o74 ≠ q438 := Nat.ne_of_lt (Nat.lt_of_lt_of_le F394.lt hq444)
  have ne475 : a386 ≠ q438 := Nat.ne_of_lt (Nat.lt_of_lt_of_le A383.lt hq444)
  have q476 : n0 ≤ q438 := Nat.le_trans F391 hq444
  have F477 := Nat.le_trans F391 K442.1
  have F478 := F392.keep K442 (allS q388 all0)
  have F479 := F393.keep K442
  have F480 := F394.keep K442 (ninS ne390 nin0)
  have F481 := F395.keep K442 (ninS ne389 nin0)
  have F482 := F396.keep K442 (ninS ne389 nin0)
  have F483 := F397.keep K442 (ninS ne389 nin0)
  have F484 := F398.keep K442 (ninS ne389 nin0)
  have F485 := F399.keep K442 (ninS ne389 nin0)
  have F486 := F400.keep K442 (ninS ne389 nin0)
  have F487 := F401.keep K442 (ninS ne389 nin0)
  have F488 := F402.keep K442 (ninS ne389 nin0)
  have F489 := F403.keep K442 (ninS ne389 nin0)
  have F490 := F404.keep K442 (ninS ne389 nin0)
  have F491 := F405.keep K442 (ninS ne389 nin0)
  have F492 := F406.keep K442 (ninS ne389 nin0)
  have F493 := F407.keep K442 (ninS ne389 nin0)
  have F494 := F408.keep K442 (ninS ne389 nin0)
  have F495 := F409.keep K442 (ninS ne389 nin0)
  have F496 := F410.keep K442 (ninS ne389 nin0)
  have F497 := F411.keep K442 (ninS ne389 nin0)
  have F498 := F412.keep K442 (ninS ne389 nin0)
  have F499 := F413.keep K442 (ninS ne389 nin0)
  have F500 := F414.keep K442 (ninS ne389 nin0)
  have F501 := A383.keep K442
  obtain ⟨Lo502, X503, N504⟩ : ∃ Lo_, Stand p l e room_1 s m #[(.int u1), (.int u2), (.int u3), (.int u4), (.int u5), (.int u6)] below meth c Tc435 Lo_ 10 201 ∧ Fr n0 Lo_ := ⟨_, X436, N468⟩
  refine own_step (T' := Tc435) (g' := (mkF m 171 #[vi u1, vi u2, vi u3, vi u4, vi u5, vi u6, vi v3, vi (u2 &&& (2147483647 : Int32)), vi v6, vi v15, vi z20, vi z30, vi v38, vi (u4 &&& (7 : Int32)), va a47, un, un, un, un, un, un, un, un, un, un, un] [(.ref a386)])) (fun t_ k_ => stc435.trans k_) ?_
  refine own_step (T' := Tc435) (g' := (mkF m 173 #[vi u1, vi u2, vi u3, vi u4, vi u5, vi u6, vi v3, vi (u2 &&& (2147483647 : Int32)), vi v6, vi v15, vi z20, vi z30, vi v38, vi (u4 &&& (7 : Int32)), va a47, va a386, un, un, un, un, un, un, un, un, un, un] [])) (fun t_ k_ => XS.astore X503.here hx rfl (hb hby at_171) rfl rfl (l' := #[vi u1, vi u2, vi u3, vi u4, vi u5, vi u6, vi v3, vi (u2 &&& (2147483647 : Int32)), vi v6, vi v15, vi z20, vi z30, vi v38, vi (u4 &&& (7 : Int32)), va a47, va a386, un, un, un, un, un, un, un, un, un, un]) rfl k_) ?_
  refine own_step (T' := Tc435) (g' := (mkF m 175 #[vi u1, vi u2, vi u3, vi u4, vi u5, vi u6, vi v3, vi (u2 &&& (2147483647 : Int32)), vi v6, vi v15, vi z20, vi z30, vi v38, vi (u4 &&& (7 : Int32)), va a47, va a386, un, un, un, un, un, un, un, un, un, un] [(.int u6)])) (fun t_ k_ => XS.iload X503.here hx rfl (hb hby at_173) rfl k_) ?_
  refine own_step (T' := Tc435) (g' := (mkF m 176 #[vi u1, vi u2, vi u3, vi u4, vi u5, vi u6, vi v3, vi (u2 &&& (2147483647 : Int32)), vi v6, vi v15, vi z20, vi z30, vi v38, vi (u4 &&& (7 : Int32)), va a47, va a386, un, un, un, un, un, un, un, un, un, un] [(.int (1 : Int32)), (.int u6)])) (fun t_ k_ => XT.iconstV X503.here hx rfl (1 : Int32) (hb hby at_175) (by decide) k_) ?_
  refine own_step (T' := Tc435) (g' := (mkF m 177 #[vi u1, vi u2, vi u3, vi u4, vi u5, vi u6, vi v3, vi (u2 &&& (2147483647 : Int32)), vi v6, vi v15, vi z20, vi z30, vi v38, vi (u4 &&& (7 : Int32)), va a47, va a386, un, un, un, un, un, un, un, un, un, un] [(.int (u6 &&& (1 : Int32)))])) (fun t_ k_ => XS.iand X503.here hx rfl (hb hby at_176) rfl k_) ?_
  suffices k506 : ∀ (T507 : State) (h508 : Heap) (Lo509 : List Loc), ∀ v540 : List Value, ∀ v545 : Int32, ∀ v552 : Int32, ∀ v554 : Int32, ∀ v556 : Int32, ∀ v558 : Int32, ∀ v560 : Int32, True → Stand p l e room_1 s m #[(.int u1), (.int u2), (.int u3), (.int u4), (.int u5), (.int u6)] below meth c T507 Lo509 10 201 → T507.heap = h508 → Fr n0 Lo509 → n0 ≤ h508.size → Old Z n0 h508 → Exa Z h508 a47 "com/example/sedimenta/sedimenta/Postings" → own_Arl Z h508 o74 .byte v206 → Fld Z h508 a47 "com/example/sedimenta/sedimenta/Postings" "own" "[B" (.ref o74) → Fld Z h508 a47 "com/example/sedimenta/sedimenta/Postings" "bytes" "[B" (.ref o74) → Fld Z h508 a47 "com/example/sedimenta/sedimenta/Postings" "last" "I" (.int v211) → Fld Z h508 a47 "com/example/sedimenta/sedimenta/Postings" "ownPositions" "[B" (.ref v284) → Fld Z h508 a47 "com/example/sedimenta/sedimenta/Postings" "positionBytes" "[B" (.ref v286) → Fld Z h508 a47 "com/example/sedimenta/sedimenta/Postings" "frequencies" "[I" (.ref fr76) → Fld Z h508 a47 "com/example/sedimenta/sedimenta/Postings" "entriesChecked" "Z" (.int (nar .boolean (1 : Int32))) → Fld Z h508 a47 "com/example/sedimenta/sedimenta/Postings" "documentCount" "I" (.int (2147483647 : Int32)) → Fld Z h508 a47 "com/example/sedimenta/sedimenta/Postings" "length" "I" (.int v218) → Fld Z h508 a47 "com/example/sedimenta/sedimenta/Postings" "count" "I" (.int v220) → Fld Z h508 a47 "com/example/sedimenta/sedimenta/Postings" "first" "I" (.int v145) → Fld Z h508 a47 "com/example/sedimenta/sedimenta/Postings" "firstFrequency" "I" (.int v147) → Fld Z h508 a47 "com/example/sedimenta/sedimenta/Postings" "firstLength" "I" (.int v149) → Fld Z h508 a47 "com/example/sedimenta/sedimenta/Postings" "positionsLength" "I" (.int v296) → Fld Z h508 a47 "com/example/sedimenta/sedimenta/Postings" "positioned" "Z" (.int v298) → Fld Z h508 a47 "com/example/sedimenta/sedimenta/Postings" "offset" "I" (.int (0 : Int32)) → Fld Z h508 a47 "com/example/sedimenta/sedimenta/Postings" "positionsOffset" "I" (.int (0 : Int32)) → Fld Z h508 a47 "com/example/sedimenta/sedimenta/Postings" "blocks" "Lcom/example/sedimenta/sedimenta/TermBlocks;" .null → Fld Z h508 a47 "com/example/sedimenta/sedimenta/Postings" "source" "Lcom/example/sedimenta/sedimenta/store/StoreInput;" .null → Fld Z h508 a47 "com/example/sedimenta/sedimenta/Postings" "sourceEntry" "J" (.long (0 : Int64)) → Exa Z h508 a386 "com/example/sedimenta/sedimenta/Postings" → own_Arl Z h508 o437 .byte v540 → Arv Z h508 q438 kq440 .byte (0 : Int32) [] (.int (0 : Int32)) → Fld Z h508 a386 "com/example/sedimenta/sedimenta/Postings" "own" "[B" (.ref o437) → Fld Z h508 a386 "com/example/sedimenta/sedimenta/Postings" "bytes" "[B" (.ref o437) → Fld Z h508 a386 "com/example/sedimenta/sedimenta/Postings" "last" "I" (.int v545) → Fld Z h508 a386 "com/example/sedimenta/sedimenta/Postings" "ownPositions" "[B" (.ref q438) → Fld Z h508 a386 "com/example/sedimenta/sedimenta/Postings" "positionBytes" "[B" (.ref q438) → Fld Z h508 a386 "com/example/sedimenta/sedimenta/Postings" "frequencies" "[I" (.ref fr439) → Fld Z h508 a386 "com/example/sedimenta/sedimenta/Postings" "entriesChecked" "Z" (.int (nar .boolean (1 : Int32))) → Fld Z h508 a386 "com/example/sedimenta/sedimenta/Postings" "documentCount" "I" (.int (2147483647 : Int32)) → Fld Z h508 a386 "com/example/sedimenta/sedimenta/Postings" "length" "I" (.int v552) → Fld Z h508 a386 "com/example/sedimenta/sedimenta/Postings" "count" "I" (.int v554) → Fld Z h508 a386 "com/example/sedimenta/sedimenta/Postings" "first" "I" (.int v556) → Fld Z h508 a386 "com/example/sedimenta/sedimenta/Postings" "firstFrequency" "I" (.int v558) → Fld Z h508 a386 "com/example/sedimenta/sedimenta/Postings" "firstLength" "I" (.int v560) → Fld Z h508 a386 "com/example/sedimenta/sedimenta/Postings" "positionsLength" "I" (.int (0 : Int32)) → Fld Z h508 a386 "com/example/sedimenta/sedimenta/Postings" "positioned" "Z" (.int (0 : Int32)) → Fld Z h508 a386 "com/example/sedimenta/sedimenta/Postings" "offset" "I" (.int (0 : Int32)) → Fld Z h508 a386 "com/example/sedimenta/sedimenta/Postings" "positionsOffset" "I" (.int (0 : Int32)) → Fld Z h508 a386 "com/example/sedimenta/sedimenta/Postings" "blocks" "Lcom/example/sedimenta/sedimenta/TermBlocks;" .null → Fld Z h508 a386 "com/example/sedimenta/sedimenta/Postings" "source" "Lcom/example/sedimenta/sedimenta/store/StoreInput;" .null → Fld Z h508 a386 "com/example/sedimenta/sedimenta/Postings" "sourceEntry" "J" (.long (0 : Int64)) → own_Fin p e below s (Q_31 h0 n0) 14 220 T507 (mkF m 191 #[vi u1, vi u2, vi u3, vi u4, vi u5, vi u6, vi v3, vi (u2 &&& (2147483647 : Int32)), vi v6, vi v15, vi z20, vi z30, vi v38, vi (u4 &&& (7 : Int32)), va a47, va a386, un, un, un, un, un, un, un, un, un, un] []) by
    by_cases hb505 : (u6 &&& (1 : Int32)) = 0
    · refine own_step (T' := Tc435) (g' := (mkF m 191 #[vi u1, vi u2, vi u3, vi u4, vi u5, vi u6, vi v3, vi (u2 &&& (2147483647 : Int32)), vi v6, vi v15, vi z20, vi z30, vi v38, vi (u4 &&& (7 : Int32)), va a47, va a386, un, un, un, un, un, un, un, un, un, un] [])) (fun t_ k_ => XS.ifYes X503.here hx rfl (pc0 := 177) (pc' := 191) rfl (hb hby at_177) rfl (XT.i0_eq_t hb505) (by decide) (by decide) k_) ?_
      exact k506 _ _ _ own_Z64 (-1 : Int32) (0 : Int32) (0 : Int32) (0 : Int32) (0 : Int32) (0 : Int32) (trivial) X503 rfl N504 F477 F478 F479 F480 F481 F482 F483 F484 F485 F486 F487 F488 F489 F490 F491 F492 F493 F494 F495 F496 F497 F498 F499 F500 F501 V446 V447 F448 F449 F450 F451 F452 F453 F454 F455 F456 F457 F458 F459 F460 F461 F462 F463 F464 F465 F466 F467
    · refine own_step (T' := Tc435) (g' := (mkF m 180 #[vi u1, vi u2, vi u3, vi u4, vi u5, vi u6, vi v3, vi (u2 &&& (2147483647 : Int32)), vi v6, vi v15, vi z20, vi z30, vi v38, vi (u4 &&& (7 : Int32)), va a47, va a386, un, un, un, un, un, un, un, un, un, un] [])) (fun t_ k_ => XS.ifNo X503.here hx rfl (hb hby at_177) rfl (XT.i0_eq_f hb505) k_) ?_
      refine own_step (T' := Tc435) (g' := (mkF m 182 #[vi u1, vi u2, vi u3, vi u4, vi u5, vi u6, vi v3, vi (u2 &&& (2147483647 : Int32)), vi v6, vi v15, vi z20, vi z30, vi v38, vi (u4 &&& (7 : Int32)), va a47, va a386, un, un, un, un, un, un, un, un, un, un] [(.ref a386)])) (fun t_ k_ => XS.aload X503.here hx rfl (hb hby at_180) rfl rfl k_) ?_
      refine own_step (T' := Tc435) (g' := (mkF m 184 #[vi u1, vi u2, vi u3, vi u4, vi u5, vi u6, vi v3, vi (u2 &&& (2147483647 : Int32)), vi v6, vi v15, vi z20, vi z30, vi v38, vi (u4 &&& (7 : Int32)), va a47, va a386, un, un, un, un, un, un, un, un, un, un] [(.int u6), (.ref a386)])) (fun t_ k_ => XS.iload X503.here hx rfl (hb hby at_182) rfl k_) ?_
      refine own_step (T' := Tc435) (g' := (mkF m 186 #[vi u1, vi u2, vi u3, vi u4, vi u5, vi u6, vi v3, vi (u2 &&& (2147483647 : Int32)), vi v6, vi v15, vi z20, vi z30, vi v38, vi (u4 &&& (7 : Int32)), va a47, va a386, un, un, un, un, un, un, un, un, un, un] [(.int (8 : Int32)), (.int u6), (.ref a386)])) (fun t_ k_ => XT.bipushV X503.here hx rfl (8 : Int32) (hb hby at_184) (by decide) k_) ?_
      refine own_step (T' := Tc435) (g' := (mkF m 187 #[vi u1, vi u2, vi u3, vi u4, vi u5, vi u6, vi v3, vi (u2 &&& (2147483647 : Int32)), vi v6, vi v15, vi z20, vi z30, vi v38, vi (u4 &&& (7 : Int32)), va a47, va a386, un, un, un, un, un, un, un, un, un, un] [(.int (XT.ushr u6 (8 : Int32))), (.ref a386)])) (fun t_ k_ => XT.iushr X503.here hx rfl (hb hby at_186) rfl k_) ?_
      refine own_step (T' := Tc435) (g' := (mkF m 188 #[vi u1, vi u2, vi u3, vi u4, vi u5, vi u6, vi v3, vi (u2 &&& (2147483647 : Int32)), vi v6, vi v15, vi z20, vi z30, vi v38, vi (u4 &&& (7 : Int32)), va a47, va a386, un, un, un, un, un, un, un, un, un, un] [(.int (2 : Int32)), (.int (XT.ushr u6 (8 : Int32))), (.ref a386)])) (fun t_ k_ => XT.iconstV X503.here hx rfl (2 : Int32) (hb hby at_187) (by decide) k_) ?_
      obtain ⟨cqc568, kqc568, qac568, qbc568, qcc568⟩ := isOf hZ rfl F501
      obtain ⟨_, _, ⟨Tc568, Lc568, kc568, nc568⟩, -, Xc568, ⟨Lcc568, hQc568, lc568, yc568, zc568⟩, stc568⟩ := X503.virtualBack hx (y := (⟨"com/example/sedimenta/sedimenta/Postings", "add", "(II)V"⟩ : MethodName)) (z := (⟨"com/example/sedimenta/sedimenta/Postings", "add", "(II)V"⟩ : MethodName)) hown (mvT hZ (own_w (i := 33) rfl hw)) (mvT hZ (own_w (i := 34) rfl hw)) (notFace_of_selects (args := #[]) (mvT hZ (own_w (i := 36) rfl hw))) (mvT hZ (own_w (i := 36) rfl hw)) (mvT hZ (own_w (i := 35) rfl hw)) (by decide) (backOf (W := 0) (rm_add0 l Z a0 hw [] a386 (XT.ushr u6 (8 : Int32)) (2 : Int32) o437 (.ref o437) (-1 : Int32) (.ref q438) (.ref q438) (.ref fr439) (nar .boolean (1 : Int32)) (2147483647 : Int32) (0 : Int32) (0 : Int32) (0 : Int32) (0 : Int32) (0 : Int32) (0 : Int32) (0 : Int32) (0 : Int32) (0 : Int32) .null .null (0 : Int64) own_Z64 Tc435.heap n0 F477 F501 F448 F449 F450 F451 F452 F453 F454 F455 F456 F457 F458 F459 F460 F461 F462 F463 F464 F465 F466 F467 V446 q388 q472 ne471 (own_ap0r _) rfl) hZ (own_w (i := 37) rfl hw) (own_w (i := 7) rfl hw) (by decide) (by decide)) qac568 qcc568 (g := (mkF m 188 #[vi u1, vi u2, vi u3, vi u4, vi u5, vi u6, vi v3, vi (u2 &&& (2147483647 : Int32)), vi v6, vi v15, vi z20, vi z30, vi v38, vi (u4 &&& (7 : Int32)), va a47, va a386, un, un, un, un, un, un, un, un, un, un] [(.int (2 : Int32)), (.int (XT.ushr u6 (8 : Int32))), (.ref a386)])) rfl (by rw [hml]; rfl) (Steps.refl _) (argsL := [(.int (XT.ushr u6 (8 : Int32))), (.int (2 : Int32))]) (rest := []) (lenOf pd_16 rfl) rfl (by show 2 * 0 + _ ≤ _; exact Nat.le_of_eq rfl) (hb hby at_188) (fun _ _ => ⟨rfl, rfl, (by decide : 10 + 0 ≤ _), (by decide : 201 + 0 ≤ _)⟩)
      dsimp only [Pt.U, Pt.locs, Pt.cells, Pt.slots] at Xc568 lc568 yc568 zc568 stc568 hQc568
      subst lc568 yc568 zc568
      have X569 := Xc568.more (cells' := 10) (slots' := 201) (by decide) (by decide)
      obtain ⟨us570, r571, rfl, N572, K573, V574, H575, F576, F577, F578, F579, F580, F581, F582, F583, F584, F585, F586, F587, F588, F589, F590, F591, F592, F593, F594, F595⟩ := hQc568
      have N596 := Fr.app N504 N572
      have F597 := Nat.le_trans F477 K573.1
      have F598 := F478.keep K573 (allS q388 (allS q472 all0))
      have F599 := F479.keep K573
      have F600 := F480.keep K573 (ninS ne390 (ninS ne470 nin0))
      have F601 := F481.keep K573 (ninS ne389 (ninS ne469 nin0))
      have F602 := F482.keep K573 (ninS ne389 (ninS ne469 nin0))
      have F603 := F483.keep K573 (ninS ne389 (ninS ne469 nin0))
      have F604 := F484.keep K573 (ninS ne389 (ninS ne469 nin0))
      have F605 := F485.keep K573 (ninS ne389 (ninS ne469 nin0))
      have F606 := F486.keep K573 (ninS ne389 (ninS ne469 nin0))
      have F607 := F487.keep K573 (ninS ne389 (ninS ne469 nin0))
      have F608 := F488.keep K573 (ninS ne389 (ninS ne469 nin0))
      have F609 := F489.keep K573 (ninS ne389 (ninS ne469 nin0))
      have F610 := F490.keep K573 (ninS ne389 (ninS ne469 nin0))
      have F611 := F491.keep K573 (ninS ne389 (ninS ne469 nin0))
      have F612 := F492.keep K573 (ninS ne389 (ninS ne469 nin0))
      have F613 := F493.keep K573 (ninS ne389 (ninS ne469 nin0))
      have F614 := F494.keep K573 (ninS ne389 (ninS ne469 nin0))
      have F615 := F495.keep K573 (ninS ne389 (ninS ne469 nin0))
      have F616 := F496.keep K573 (ninS ne389 (ninS ne469 nin0))
      have F617 := F497.keep K573 (ninS ne389 (ninS ne469 nin0))
      have F618 := F498.keep K573 (ninS ne389 (ninS ne469 nin0))
      have F619 := F499.keep K573 (ninS ne389 (ninS ne469 nin0))
      have F620 := F500.keep K573 (ninS ne389 (ninS ne469 nin0))
      have F621 := F501.keep K573
      have F622 := V447.keep K573 (ninS (Ne.symm ne475) (ninS (Ne.symm ne445) nin0))
      obtain ⟨Lo623, X624, N625⟩ : ∃ Lo_, Stand p l e room_1 s m #[(.int u1), (.int u2), (.int u3), (.int u4), (.int u5), (.int u6)] below meth c Tc568 Lo_ 10 201 ∧ Fr n0 Lo_ := ⟨_, X569, N596⟩
      refine own_step (T' := Tc568) (g' := (mkF m 191 #[vi u1, vi u2, vi u3, vi u4, vi u5, vi u6, vi v3, vi (u2 &&& (2147483647 : Int32)), vi v6, vi v15, vi z20, vi z30, vi v38, vi (u4 &&& (7 : Int32)), va a47, va a386, un, un, un, un, un, un, un, un, un, un] [])) (fun t_ k_ => stc568.trans k_) ?_
      exact k506 _ _ _ us570 (XT.ushr u6 (8 : Int32)) r571 ((0 : Int32) + (1 : Int32)) (XT.ushr u6 (8 : Int32)) (2 : Int32) (r571 - (0 : Int32)) (trivial) X624 rfl N625 F597 F598 F599 F600 F601 F602 F603 F604 F605 F606 F607 F608 F609 F610 F611 F612 F613 F614 F615 F616 F617 F618 F619 F620 F621 V574 F622 F576 F577 F578 F579 F580 F581 F582 F583 F584 F585 F586 F587 F588 F589 F590 F591 F592 F593 F594 F595
  intro T507 h508 Lo509 v540 v545 v552 v554 v556 v558 v560 I513 X510 e511 N512 F514 F515 F516 F517 F518 F519 F520 F521 F522 F523 F524 F525 F526 F527 F528 F529 F530 F531 F532 F533 F534 F535 F536 F537 F538 F539 F541 F542 F543 F544 F546 F547 F548 F549 F550 F551 F553 F555 F557 F559 F561 F562 F563 F564 F565 F566 F567
  refine own_step (T' := T507) (g' := (mkF m 193 #[vi u1, vi u2, vi u3, vi u4, vi u5, vi u6, vi v3, vi (u2 &&& (2147483647 : Int32)), vi v6, vi v15, vi z20, vi z30, vi v38, vi (u4 &&& (7 : Int32)), va a47, va a386, un, un, un, un, un, un, un, un, un, un] [(.int u6)])) (fun t_ k_ => XS.iload X510.here hx rfl (hb hby at_191) rfl k_) ?_
  refine own_step (T' := T507) (g' := (mkF m 194 #[vi u1, vi u2, vi u3, vi u4, vi u5, vi u6, vi v3, vi (u2 &&& (2147483647 : Int32)), vi v6, vi v15, vi z20, vi z30, vi v38, vi (u4 &&& (7 : Int32)), va a47, va a386, un, un, un, un, un, un, un, un, un, un] [(.int (2 : Int32)), (.int u6)])) (fun t_ k_ => XT.iconstV X510.here hx rfl (2 : Int32) (hb hby at_193) (by decide) k_) ?_
  refine own_step (T' := T507) (g' := (mkF m 195 #[vi u1, vi u2, vi u3, vi u4, vi u5, vi u6, vi v3, vi (u2 &&& (2147483647 : Int32)), vi v6, vi v15, vi z20, vi z30, vi v38, vi (u4 &&& (7 : Int32)), va a47, va a386, un, un, un, un, un, un, un, un, un, un] [(.int (u6 &&& (2 : Int32)))])) (fun t_ k_ => XS.iand X510.here hx rfl (hb hby at_194) rfl k_) ?_
  suffices k627 : ∀ (T628 : State) (h629 : Heap) (Lo630 : List Loc), ∀ v665 : Addr, ∀ v667 : Addr, ∀ v677 : Int32, ∀ v679 : Int32, True → Stand p l e room_1 s m #[(.int u1), (.int u2), (.int u3), (.int u4), (.int u5), (.int u6)] below meth c T628 Lo630 12 216 → T628.heap = h629 → Fr n0 Lo630 → n0 ≤ h629.size → Old Z n0 h629 → Exa Z h629 a47 "com/example/sedimenta/sedimenta/Postings" → own_Arl Z h629 o74 .byte v206 → Fld Z h629 a47 "com/example/sedimenta/sedimenta/Postings" "own" "[B" (.ref o74) → Fld Z h629 a47 "com/example/sedimenta/sedimenta/Postings" "bytes" "[B" (.ref o74) → Fld Z h629 a47 "com/example/sedimenta/sedimenta/Postings" "last" "I" (.int v211) → Fld Z h629 a47 "com/example/sedimenta/sedimenta/Postings" "ownPositions" "[B" (.ref v284) → Fld Z h629 a47 "com/example/sedimenta/sedimenta/Postings" "positionBytes" "[B" (.ref v286) → Fld Z h629 a47 "com/example/sedimenta/sedimenta/Postings" "frequencies" "[I" (.ref fr76) → Fld Z h629 a47 "com/example/sedimenta/sedimenta/Postings" "entriesChecked" "Z" (.int (nar .boolean (1 : Int32))) → Fld Z h629 a47 "com/example/sedimenta/sedimenta/Postings" "documentCount" "I" (.int (2147483647 : Int32)) → Fld Z h629 a47 "com/example/sedimenta/sedimenta/Postings" "length" "I" (.int v218) → Fld Z h629 a47 "com/example/sedimenta/sedimenta/Postings" "count" "I" (.int v220) → Fld Z h629 a47 "com/example/sedimenta/sedimenta/Postings" "first" "I" (.int v145) → Fld Z h629 a47 "com/example/sedimenta/sedimenta/Postings" "firstFrequency" "I" (.int v147) → Fld Z h629 a47 "com/example/sedimenta/sedimenta/Postings" "firstLength" "I" (.int v149) → Fld Z h629 a47 "com/example/sedimenta/sedimenta/Postings" "positionsLength" "I" (.int v296) → Fld Z h629 a47 "com/example/sedimenta/sedimenta/Postings" "positioned" "Z" (.int v298) → Fld Z h629 a47 "com/example/sedimenta/sedimenta/Postings" "offset" "I" (.int (0 : Int32)) → Fld Z h629 a47 "com/example/sedimenta/sedimenta/Postings" "positionsOffset" "I" (.int (0 : Int32)) → Fld Z h629 a47 "com/example/sedimenta/sedimenta/Postings" "blocks" "Lcom/example/sedimenta/sedimenta/TermBlocks;" .null → Fld Z h629 a47 "com/example/sedimenta/sedimenta/Postings" "source" "Lcom/example/sedimenta/sedimenta/store/StoreInput;" .null → Fld Z h629 a47 "com/example/sedimenta/sedimenta/Postings" "sourceEntry" "J" (.long (0 : Int64)) → Exa Z h629 a386 "com/example/sedimenta/sedimenta/Postings" → own_Arl Z h629 o437 .byte v540 → Fld Z h629 a386 "com/example/sedimenta/sedimenta/Postings" "own" "[B" (.ref o437) → Fld Z h629 a386 "com/example/sedimenta/sedimenta/Postings" "bytes" "[B" (.ref o437) → Fld Z h629 a386 "com/example/sedimenta/sedimenta/Postings" "last" "I" (.int v545) → Fld Z h629 a386 "com/example/sedimenta/sedimenta/Postings" "ownPositions" "[B" (.ref v665) → Fld Z h629 a386 "com/example/sedimenta/sedimenta/Postings" "positionBytes" "[B" (.ref v667) → Fld Z h629 a386 "com/example/sedimenta/sedimenta/Postings" "frequencies" "[I" (.ref fr439) → Fld Z h629 a386 "com/example/sedimenta/sedimenta/Postings" "entriesChecked" "Z" (.int (nar .boolean (1 : Int32))) → Fld Z h629 a386 "com/example/sedimenta/sedimenta/Postings" "documentCount" "I" (.int (2147483647 : Int32)) → Fld Z h629 a386 "com/example/sedimenta/sedimenta/Postings" "length" "I" (.int v552) → Fld Z h629 a386 "com/example/sedimenta/sedimenta/Postings" "count" "I" (.int v554) → Fld Z h629 a386 "com/example/sedimenta/sedimenta/Postings" "first" "I" (.int v556) → Fld Z h629 a386 "com/example/sedimenta/sedimenta/Postings" "firstFrequency" "I" (.int v558) → Fld Z h629 a386 "com/example/sedimenta/sedimenta/Postings" "firstLength" "I" (.int v560) → Fld Z h629 a386 "com/example/sedimenta/sedimenta/Postings" "positionsLength" "I" (.int v677) → Fld Z h629 a386 "com/example/sedimenta/sedimenta/Postings" "positioned" "Z" (.int v679) → Fld Z h629 a386 "com/example/sedimenta/sedimenta/Postings" "offset" "I" (.int (0 : Int32)) → Fld Z h629 a386 "com/example/sedimenta/sedimenta/Postings" "positionsOffset" "I" (.int (0 : Int32)) → Fld Z h629 a386 "com/example/sedimenta/sedimenta/Postings" "blocks" "Lcom/example/sedimenta/sedimenta/TermBlocks;" .null → Fld Z h629 a386 "com/example/sedimenta/sedimenta/Postings" "source" "Lcom/example/sedimenta/sedimenta/store/StoreInput;" .null → Fld Z h629 a386 "com/example/sedimenta/sedimenta/Postings" "sourceEntry" "J" (.long (0 : Int64)) → own_Fin p e below s (Q_31 h0 n0) 14 220 T628 (mkF m 215 #[vi u1, vi u2, vi u3, vi u4, vi u5, vi u6, vi v3, vi (u2 &&& (2147483647 : Int32)), vi v6, vi v15, vi z20, vi z30, vi v38, vi (u4 &&& (7 : Int32)), va a47, va a386, un, un, un, un, un, un, un, un, un, un] []) by
    by_cases hb626 : (u6 &&& (2 : Int32)) = 0
    · refine own_step (T' := T507) (g' := (mkF m 215 #[vi u1, vi u2, vi u3, vi u4, vi u5, vi u6, vi v3, vi (u2 &&& (2147483647 : Int32)), vi v6, vi v15, vi z20, vi z30, vi v38, vi (u4 &&& (7 : Int32)), va a47, va a386, un, un, un, un, un, un, un, un, un, un] [])) (fun t_ k_ => XS.ifYes X510.here hx rfl (pc0 := 195) (pc' := 215) rfl (hb hby at_195) rfl (XT.i0_eq_t hb626) (by decide) (by decide) k_) ?_
      exact k627 _ _ _ q438 q438 (0 : Int32) (0 : Int32) (trivial) (X510.more (by decide) (by decide)) e511 N512 F514 F515 F516 F517 F518 F519 F520 F521 F522 F523 F524 F525 F526 F527 F528 F529 F530 F531 F532 F533 F534 F535 F536 F537 F538 F539 F542 F543 F544 F546 F547 F548 F549 F550 F551 F553 F555 F557 F559 F561 F562 F563 F564 F565 F566 F567
    · refine own_step (T' := T507) (g' := (mkF m 198 #[vi u1, vi u2, vi u3, vi u4, vi u5, vi u6, vi v3, vi (u2 &&& (2147483647 : Int32)), vi v6, vi v15, vi z20, vi z30, vi v38, vi (u4 &&& (7 : Int32)), va a47, va a386, un, un, un, un, un, un, un, un, un, un] [])) (fun t_ k_ => XS.ifNo X510.here hx rfl (hb hby at_195) rfl (XT.i0_eq_f hb626) k_) ?_
      refine own_step (T' := T507) (g' := (mkF m 200 #[vi u1, vi u2, vi u3, vi u4, vi u5, vi u6, vi v3, vi (u2 &&& (2147483647 : Int32)), vi v6, vi v15, vi z20, vi z30, vi v38, vi (u4 &&& (7 : Int32)), va a47, va a386, un, un, un, un, un, un, un, un, un, un] [(.ref a386)])) (fun t_ k_ => XS.aload X510.here hx rfl (hb hby at_198) rfl rfl k_) ?_
      refine own_step (T' := T507) (g' := (mkF m 202 #[vi u1, vi u2, vi u3, vi u4, vi u5, vi u6, vi v3, vi (u2 &&& (2147483647 : Int32)), vi v6, vi v15, vi z20, vi z30, vi v38, vi (u4 &&& (7 : Int32)), va a47, va a386, un, un, un, un, un, un, un, un, un, un] [(.int (8 : Int32)), (.ref a386)])) (fun t_ k_ => XT.bipushV X510.here hx rfl (8 : Int32) (hb hby at_200) (by decide) k_) ?_
      obtain ⟨T685, h686, cA687, X688, e689, E690, A691, st692⟩ := newP X510 hx hZ (own_w (i := 14) rfl hw) e511 (g := (mkF m 202 #[vi u1, vi u2, vi u3, vi u4, vi u5, vi u6, vi v3, vi (u2 &&& (2147483647 : Int32)), vi v6, vi v15, vi z20, vi z30, vi v38, vi (u4 &&& (7 : Int32)), va a47, va a386, un, un, un, un, un, un, un, un, un, un] [(.int (8 : Int32)), (.ref a386)])) rfl (hb hby at_202) rfl (by decide) (cap := 8) (by decide) (by decide) (by decide) (by decide)
      obtain ⟨a693, g694⟩ : ∃ z, z = h508.size := ⟨_, rfl⟩
      rw [← g694] at A691 st692
      have q695 : n0 ≤ a693 := Nat.le_trans F514 (Nat.le_of_eq g694.symm)
      have ne696 : a47 ≠ a693 := Nat.ne_of_lt (Nat.lt_of_lt_of_le F516.lt (Nat.le_of_eq g694.symm))
      have ne697 : o74 ≠ a693 := Nat.ne_of_lt (Nat.lt_of_lt_of_le F517.lt (Nat.le_of_eq g694.symm))
      have ne698 : a386 ≠ a693 := Nat.ne_of_lt (Nat.lt_of_lt_of_le F538.lt (Nat.le_of_eq g694.symm))
      have ne699 : o437 ≠ a693 := Nat.ne_of_lt (Nat.lt_of_lt_of_le F539.lt (Nat.le_of_eq g694.symm))
      have ne700 : q438 ≠ a693 := Nat.ne_of_lt (Nat.lt_of_lt_of_le F541.lt (Nat.le_of_eq g694.symm))
      have F701 := Nat.le_trans F514 E690.1
      have F702 := F515.ext E690
      have F703 := F516.ext E690
      have F704 := F517.ext E690
      have F705 := F518.ext E690
      have F706 := F519.ext E690
      have F707 := F520.ext E690
      have F708 := F521.ext E690
      have F709 := F522.ext E690
      have F710 := F523.ext E690
      have F711 := F524.ext E690
      have F712 := F525.ext E690
      have F713 := F526.ext E690
      have F714 := F527.ext E690
      have F715 := F528.ext E690
      have F716 := F529.ext E690
      have F717 := F530.ext E690
      have F718 := F531.ext E690
      have F719 := F532.ext E690
      have F720 := F533.ext E690
      have F721 := F534.ext E690
      have F722 := F535.ext E690
      have F723 := F536.ext E690
      have F724 := F537.ext E690
      have F725 := F538.ext E690
      have F726 := F539.ext E690
      have F727 := F541.ext E690
      have F728 := F542.ext E690
      have F729 := F543.ext E690
      have F730 := F544.ext E690
      have F731 := F546.ext E690
      have F732 := F547.ext E690
      have F733 := F548.ext E690
      have F734 := F549.ext E690
      have F735 := F550.ext E690
      have F736 := F551.ext E690
      have F737 := F553.ext E690
      have F738 := F555.ext E690
      have F739 := F557.ext E690
      have F740 := F559.ext E690
      have F741 := F561.ext E690
      have F742 := F562.ext E690
      have F743 := F563.ext E690
      have F744 := F564.ext E690
      have F745 := F565.ext E690
      have F746 := F566.ext E690
      have F747 := F567.ext E690
      have V748 : own_Arl Z h686 a693 .byte [(.int (0 : Int32)), (.int (0 : Int32)), (.int (0 : Int32)), (.int (0 : Int32)), (.int (0 : Int32)), (.int (0 : Int32)), (.int (0 : Int32)), (.int (0 : Int32))] := own_Arl.of_new A691 (i := 8) (by decide)
      have V749 : Arv Z h686 a693 cA687 .byte (8 : Int32) [] (.int (0 : Int32)) := Arv.new A691 (by decide)
      refine own_step (T' := T685) (g' := (mkF m 204 #[vi u1, vi u2, vi u3, vi u4, vi u5, vi u6, vi v3, vi (u2 &&& (2147483647 : Int32)), vi v6, vi v15, vi z20, vi z30, vi v38, vi (u4 &&& (7 : Int32)), va a47, va a386, un, un, un, un, un, un, un, un, un, un] [(.ref a693), (.ref a386)])) st692 ?_
      refine own_step (T' := T685) (g' := (mkF m 205 #[vi u1, vi u2, vi u3, vi u4, vi u5, vi u6, vi v3, vi (u2 &&& (2147483647 : Int32)), vi v6, vi v15, vi z20, vi z30, vi v38, vi (u4 &&& (7 : Int32)), va a47, va a386, un, un, un, un, un, un, un, un, un, un] [(.int (0 : Int32)), (.ref a693), (.ref a386)])) (fun t_ k_ => XT.iconstV X688.here hx rfl (0 : Int32) (hb hby at_204) (by decide) k_) ?_
      refine own_step (T' := T685) (g' := (mkF m 207 #[vi u1, vi u2, vi u3, vi u4, vi u5, vi u6, vi v3, vi (u2 &&& (2147483647 : Int32)), vi v6, vi v15, vi z20, vi z30, vi v38, vi (u4 &&& (7 : Int32)), va a47, va a386, un, un, un, un, un, un, un, un, un, un] [(.int u6), (.int (0 : Int32)), (.ref a693), (.ref a386)])) (fun t_ k_ => XS.iload X688.here hx rfl (hb hby at_205) rfl k_) ?_
      refine own_step (T' := T685) (g' := (mkF m 208 #[vi u1, vi u2, vi u3, vi u4, vi u5, vi u6, vi v3, vi (u2 &&& (2147483647 : Int32)), vi v6, vi v15, vi z20, vi z30, vi v38, vi (u4 &&& (7 : Int32)), va a47, va a386, un, un, un, un, un, un, un, un, un, un] [(.int (2 : Int32)), (.int u6), (.int (0 : Int32)), (.ref a693), (.ref a386)])) (fun t_ k_ => XT.iconstV X688.here hx rfl (2 : Int32) (hb hby at_207) (by decide) k_) ?_
      refine own_step (T' := T685) (g' := (mkF m 209 #[vi u1, vi u2, vi u3, vi u4, vi u5, vi u6, vi v3, vi (u2 &&& (2147483647 : Int32)), vi v6, vi v15, vi z20, vi z30, vi v38, vi (u4 &&& (7 : Int32)), va a47, va a386, un, un, un, un, un, un, un, un, un, un] [(.int (XT.ushr u6 (2 : Int32))), (.int (0 : Int32)), (.ref a693), (.ref a386)])) (fun t_ k_ => XT.iushr X688.here hx rfl (hb hby at_208) rfl k_) ?_
      refine own_step (T' := T685) (g' := (mkF m 211 #[vi u1, vi u2, vi u3, vi u4, vi u5, vi u6, vi v3, vi (u2 &&& (2147483647 : Int32)), vi v6, vi v15, vi z20, vi z30, vi v38, vi (u4 &&& (7 : Int32)), va a47, va a386, un, un, un, un, un, un, un, un, un, un] [(.int (7 : Int32)), (.int (XT.ushr u6 (2 : Int32))), (.int (0 : Int32)), (.ref a693), (.ref a386)])) (fun t_ k_ => XT.bipushV X688.here hx rfl (7 : Int32) (hb hby at_209) (by decide) k_) ?_
      refine own_step (T' := T685) (g' := (mkF m 212 #[vi u1, vi u2, vi u3, vi u4, vi u5, vi u6, vi v3, vi (u2 &&& (2147483647 : Int32)), vi v6, vi v15, vi z20, vi z30, vi v38, vi (u4 &&& (7 : Int32)), va a47, va a386, un, un, un, un, un, un, un, un, un, un] [(.int ((XT.ushr u6 (2 : Int32)) &&& (7 : Int32))), (.int (0 : Int32)), (.ref a693), (.ref a386)])) (fun t_ k_ => XS.iand X688.here hx rfl (hb hby at_211) rfl k_) ?_
      obtain ⟨cqc750, kqc750, qac750, qbc750, qcc750⟩ := isOf hZ e689 F725
      obtain ⟨_, _, ⟨Tc750, Lc750, kc750, nc750⟩, -, Xc750, ⟨Lcc750, hQc750, lc750, yc750, zc750⟩, stc750⟩ := X688.virtualBack hx (y := (⟨"com/example/sedimenta/sedimenta/Postings", "addPositions", "([BII)V"⟩ : MethodName)) (z := (⟨"com/example/sedimenta/sedimenta/Postings", "addPositions", "([BII)V"⟩ : MethodName)) hown (mvT hZ (own_w (i := 62) rfl hw)) (mvT hZ (own_w (i := 63) rfl hw)) (notFace_of_selects (args := #[]) (mvT hZ (own_w (i := 65) rfl hw))) (mvT hZ (own_w (i := 65) rfl hw)) (mvT hZ (own_w (i := 64) rfl hw)) (by decide) (backOf (W := 0) (rm_ap l Z a0 hw [] a386 a693 ((XT.ushr u6 (2 : Int32)) &&& (7 : Int32)) (.ref o437) (.ref o437) v545 q438 (.ref q438) (.ref fr439) (nar .boolean (1 : Int32)) (2147483647 : Int32) v552 v554 v556 v558 v560 (0 : Int32) (0 : Int32) (0 : Int32) .null .null (0 : Int64) kq440 cA687 h686 n0 F701 F725 F728 F729 F730 F731 F732 F733 F734 F735 F736 F737 F738 F739 F740 F741 F742 F743 F744 F745 F746 F747 F727 q388 q476 ne475 (own_k7 _) V749 (Ne.symm ne698) (Ne.symm ne700)) hZ (own_w (i := 66) rfl hw) (own_w (i := 7) rfl hw) (by decide) (by decide)) qac750 qcc750 (g := (mkF m 212 #[vi u1, vi u2, vi u3, vi u4, vi u5, vi u6, vi v3, vi (u2 &&& (2147483647 : Int32)), vi v6, vi v15, vi z20, vi z30, vi v38, vi (u4 &&& (7 : Int32)), va a47, va a386, un, un, un, un, un, un, un, un, un, un] [(.int ((XT.ushr u6 (2 : Int32)) &&& (7 : Int32))), (.int (0 : Int32)), (.ref a693), (.ref a386)])) rfl (by rw [hml]; rfl) (Steps.refl _) (argsL := [(.ref a693), (.int (0 : Int32)), (.int ((XT.ushr u6 (2 : Int32)) &&& (7 : Int32)))]) (rest := []) (lenOf pd_17 rfl) rfl (by show 2 * 0 + _ ≤ _; exact Nat.le_of_eq rfl) (hb hby at_212) (fun _ _ => ⟨rfl, e689, (by decide : 11 + 1 ≤ _), (by decide : 209 + 7 ≤ _)⟩)
      dsimp only [Pt.U, Pt.locs, Pt.cells, Pt.slots] at Xc750 lc750 yc750 zc750 stc750 hQc750
      subst lc750 yc750 zc750
      have X751 := Xc750.more (cells' := 12) (slots' := 216) (by decide) (by decide)
      obtain ⟨r752, rfl, N753, K754, F755, F756, F757, F758, F759, F760, F761, F762, F763, F764, F765, F766, F767, F768, F769, F770, F771, F772, F773, F774⟩ := hQc750
      have N775 := Fr.app N512 N753
      have F776 := Nat.le_trans F701 K754.1
      have F777 := F702.keep K754 (allS q388 (allS q476 all0))
      have F778 := F703.keep K754
      have F779 := F704.keep K754 (ninS ne390 (ninS ne474 nin0))
      have F780 := F705.keep K754 (ninS ne389 (ninS ne473 nin0))
      have F781 := F706.keep K754 (ninS ne389 (ninS ne473 nin0))
      have F782 := F707.keep K754 (ninS ne389 (ninS ne473 nin0))
      have F783 := F708.keep K754 (ninS ne389 (ninS ne473 nin0))
      have F784 := F709.keep K754 (ninS ne389 (ninS ne473 nin0))
      have F785 := F710.keep K754 (ninS ne389 (ninS ne473 nin0))
      have F786 := F711.keep K754 (ninS ne389 (ninS ne473 nin0))
      have F787 := F712.keep K754 (ninS ne389 (ninS ne473 nin0))
      have F788 := F713.keep K754 (ninS ne389 (ninS ne473 nin0))
      have F789 := F714.keep K754 (ninS ne389 (ninS ne473 nin0))
      have F790 := F715.keep K754 (ninS ne389 (ninS ne473 nin0))
      have F791 := F716.keep K754 (ninS ne389 (ninS ne473 nin0))
      have F792 := F717.keep K754 (ninS ne389 (ninS ne473 nin0))
      have F793 := F718.keep K754 (ninS ne389 (ninS ne473 nin0))
      have F794 := F719.keep K754 (ninS ne389 (ninS ne473 nin0))
      have F795 := F720.keep K754 (ninS ne389 (ninS ne473 nin0))
      have F796 := F721.keep K754 (ninS ne389 (ninS ne473 nin0))
      have F797 := F722.keep K754 (ninS ne389 (ninS ne473 nin0))
      have F798 := F723.keep K754 (ninS ne389 (ninS ne473 nin0))
      have F799 := F724.keep K754 (ninS ne389 (ninS ne473 nin0))
      have F800 := F725.keep K754
      have F801 := F726.keep K754 (ninS (Ne.symm ne471) (ninS ne445 nin0))
      obtain ⟨Lo802, X803, N804⟩ : ∃ Lo_, Stand p l e room_1 s m #[(.int u1), (.int u2), (.int u3), (.int u4), (.int u5), (.int u6)] below meth c Tc750 Lo_ 12 216 ∧ Fr n0 Lo_ := ⟨_, X751, N775⟩
      refine own_step (T' := Tc750) (g' := (mkF m 215 #[vi u1, vi u2, vi u3, vi u4, vi u5, vi u6, vi v3, vi (u2 &&& (2147483647 : Int32)), vi v6, vi v15, vi z20, vi z30, vi v38, vi (u4 &&& (7 : Int32)), va a47, va a386, un, un, un, un, un, un, un, un, un, un] [])) (fun t_ k_ => stc750.trans k_) ?_
      exact k627 _ _ _ r752 r752 ((0 : Int32) + ((XT.ushr u6 (2 : Int32)) &&& (7 : Int32))) (nar .boolean (1 : Int32)) (trivial) X803 rfl N804 F776 F777 F778 F779 F780 F781 F782 F783 F784 F785 F786 F787 F788 F789 F790 F791 F792 F793 F794 F795 F796 F797 F798 F799 F800 F801 F755 F756 F757 F758 F759 F760 F761 F762 F763 F764 F765 F766 F767 F768 F769 F770 F771 F772 F773 F774
  intro T628 h629 Lo630 v665 v667 v677 v679 I634 X631 e632 N633 F635 F636 F637 F638 F639 F640 F641 F642 F643 F644 F645 F646 F647 F648 F649 F650 F651 F652 F653 F654 F655 F656 F657 F658 F659 F660 F661 F662 F663 F664 F666 F668 F669 F670 F671 F672 F673 F674 F675 F676 F678 F680 F681 F682 F683 F684
  refine own_step (T' := T628) (g' := (mkF m 217 #[vi u1, vi u2, vi u3, vi u4, vi u5, vi u6, vi v3, vi (u2 &&& (2147483647 : Int32)), vi v6, vi v15, vi z20, vi z30, vi v38, vi (u4 &&& (7 : Int32)), va a47, va a386, un, un, un, un, un, un, un, un, un, un] [(.ref a386)])) (fun t_ k_ => XS.aload X631.here hx rfl (hb hby at_215) rfl rfl k_) ?_
  refine own_step (T' := T628) (g' := (mkF m 219 #[vi u1, vi u2, vi u3, vi u4, vi u5, vi u6, vi v3, vi (u2 &&& (2147483647 : Int32)), vi v6, vi v15, vi z20, vi z30, vi v38, vi (u4 &&& (7 : Int32)), va a47, va a386, un, un, un, un, un, un, un, un, un, un] [(.ref a47), (.ref a386)])) (fun t_ k_ => XS.aload X631.here hx rfl (hb hby at_217) rfl rfl k_) ?_
  obtain ⟨cqc805, kqc805, qac805, qbc805, qcc805⟩ := isOf hZ e632 F659
  obtain ⟨_, _, ⟨Tc805, Lc805, kc805, nc805⟩, -, Xc805, ⟨Lcc805, hQc805, lc805, yc805, zc805⟩, stc805⟩ := X631.virtualBack hx (y := (⟨"com/example/sedimenta/sedimenta/Postings", "take", "(Lcom/example/sedimenta/sedimenta/Postings;)V"⟩ : MethodName)) (z := (⟨"com/example/sedimenta/sedimenta/Postings", "take", "(Lcom/example/sedimenta/sedimenta/Postings;)V"⟩ : MethodName)) hown (mvT hZ (own_w (i := 79) rfl hw)) (mvT hZ (own_w (i := 80) rfl hw)) (notFace_of_selects (args := #[]) (mvT hZ (own_w (i := 82) rfl hw))) (mvT hZ (own_w (i := 82) rfl hw)) (mvT hZ (own_w (i := 81) rfl hw)) (by decide) (backOf (W := 0) (rm_take l Z a0 hw [] a386 a47 (.ref o437) v545 (.ref v667) (nar .boolean (1 : Int32)) (2147483647 : Int32) v552 v554 v556 v558 v560 v677 v679 (0 : Int32) (0 : Int32) .null .null (0 : Int64) o74 v211 v286 (nar .boolean (1 : Int32)) (2147483647 : Int32) v218 v220 v145 v147 v149 v296 v298 (0 : Int32) (0 : Int32) (0 : Int64) h629 n0 F635 F659 F662 F663 F666 F669 F670 F671 F672 F673 F674 F675 F676 F678 F680 F681 F682 F683 F684 F640 F641 F643 F645 F646 F647 F648 F649 F650 F651 F652 F653 F654 F655 F656 F657 F658 q388 ne389) hZ (own_w (i := 83) rfl hw) (own_w (i := 7) rfl hw) (by decide) (by decide)) qac805 qcc805 (g := (mkF m 219 #[vi u1, vi u2, vi u3, vi u4, vi u5, vi u6, vi v3, vi (u2 &&& (2147483647 : Int32)), vi v6, vi v15, vi z20, vi z30, vi v38, vi (u4 &&& (7 : Int32)), va a47, va a386, un, un, un, un, un, un, un, un, un, un] [(.ref a47), (.ref a386)])) rfl (by rw [hml]; rfl) (Steps.refl _) (argsL := [(.ref a47)]) (rest := []) (lenOf pd_18 rfl) rfl (by show 2 * 0 + _ ≤ _; exact Nat.le_of_eq rfl) (hb hby at_219) (fun _ _ => ⟨rfl, e632, (by decide : 12 + 0 ≤ _), (by decide : 216 + 0 ≤ _)⟩)
  dsimp only [Pt.U, Pt.locs, Pt.cells, Pt.slots] at Xc805 lc805 yc805 zc805 stc805 hQc805
  subst lc805 yc805 zc805
  have X806 := Xc805.more (cells' := 12) (slots' := 216) (by decide) (by decide)
  obtain ⟨rfl, N807, K808, F809, F810, F811, F812, F813, F814, F815, F816, F817, F818, F819, F820⟩ := hQc805
  have N821 := Fr.app N633 N807
  have F822 := Nat.le_trans F635 K808.1
  have F823 := F636.keep K808 (allS q388 all0)
  have F824 := F638.keep K808 (ninS ne390 nin0)
  have F825 := F659.keep K808
  obtain ⟨Lo826, X827, N828⟩ : ∃ Lo_, Stand p l e room_1 s m #[(.int u1), (.int u2), (.int u3), (.int u4), (.int u5), (.int u6)] below meth c Tc805 Lo_ 12 216 ∧ Fr n0 Lo_ := ⟨_, X806, N821⟩
  refine own_step (T' := Tc805) (g' := (mkF m 222 #[vi u1, vi u2, vi u3, vi u4, vi u5, vi u6, vi v3, vi (u2 &&& (2147483647 : Int32)), vi v6, vi v15, vi z20, vi z30, vi v38, vi (u4 &&& (7 : Int32)), va a47, va a386, un, un, un, un, un, un, un, un, un, un] [])) (fun t_ k_ => stc805.trans k_) ?_
  refine own_step (T' := Tc805) (g' := (mkF m 224 #[vi u1, vi u2, vi u3, vi u4, vi u5, vi u6, vi v3, vi (u2 &&& (2147483647 : Int32)), vi v6, vi v15, vi z20, vi z30, vi v38, vi (u4 &&& (7 : Int32)), va a47, va a386, un, un, un, un, un, un, un, un, un, un] [(.int v6)])) (fun t_ k_ => XS.iload X827.here hx rfl (hb hby at_222) rfl k_) ?_
  suffices k830 : ∀ v831 : Int32, v831 = (if v6 = 0 then (if v3 = 0 then (0 : Int32) else (1 : Int32)) else (2 : Int32)) → own_Fin p e below s (Q_31 h0 n0) 14 220 Tc805 (mkF m 241 #[vi u1, vi u2, vi u3, vi u4, vi u5, vi u6, vi v3, vi (u2 &&& (2147483647 : Int32)), vi v6, vi v15, vi z20, vi z30, vi v38, vi (u4 &&& (7 : Int32)), va a47, va a386, un, un, un, un, un, un, un, un, un, un] [(.int v831)]) by
    by_cases hb829 : v6 = 0
    · refine own_step (T' := Tc805) (g' := (mkF m 231 #[vi u1, vi u2, vi u3, vi u4, vi u5, vi u6, vi v3, vi (u2 &&& (2147483647 : Int32)), vi v6, vi v15, vi z20, vi z30, vi v38, vi (u4 &&& (7 : Int32)), va a47, va a386, un, un, un, un, un, un, un, un, un, un] [])) (fun t_ k_ => XS.ifYes X827.here hx rfl (pc0 := 224) (pc' := 231) rfl (hb hby at_224) rfl (XT.i0_eq_t hb829) (by decide) (by decide) k_) ?_
      refine own_step (T' := Tc805) (g' := (mkF m 233 #[vi u1, vi u2, vi u3, vi u4, vi u5, vi u6, vi v3, vi (u2 &&& (2147483647 : Int32)), vi v6, vi v15, vi z20, vi z30, vi v38, vi (u4 &&& (7 : Int32)), va a47, va a386, un, un, un, un, un, un, un, un, un, un] [(.int v3)])) (fun t_ k_ => XS.iload X827.here hx rfl (hb hby at_231) rfl k_) ?_
      suffices k833 : ∀ v834 : Int32, v834 = (if v3 = 0 then (0 : Int32) else (1 : Int32)) → own_Fin p e below s (Q_31 h0 n0) 14 220 Tc805 (mkF m 241 #[vi u1, vi u2, vi u3, vi u4, vi u5, vi u6, vi v3, vi (u2 &&& (2147483647 : Int32)), vi v6, vi v15, vi z20, vi z30, vi v38, vi (u4 &&& (7 : Int32)), va a47, va a386, un, un, un, un, un, un, un, un, un, un] [(.int v834)]) by
        by_cases hb832 : v3 = 0
        · refine own_step (T' := Tc805) (g' := (mkF m 240 #[vi u1, vi u2, vi u3, vi u4, vi u5, vi u6, vi v3, vi (u2 &&& (2147483647 : Int32)), vi v6, vi v15, vi z20, vi z30, vi v38, vi (u4 &&& (7 : Int32)), va a47, va a386, un, un, un, un, un, un, un, un, un, un] [])) (fun t_ k_ => XS.ifYes X827.here hx rfl (pc0 := 233) (pc' := 240) rfl (hb hby at_233) rfl (XT.i0_eq_t hb832) (by decide) (by decide) k_) ?_
          refine own_step (T' := Tc805) (g' := (mkF m 241 #[vi u1, vi u2, vi u3, vi u4, vi u5, vi u6, vi v3, vi (u2 &&& (2147483647 : Int32)), vi v6, vi v15, vi z20, vi z30, vi v38, vi (u4 &&& (7 : Int32)), va a47, va a386, un, un, un, un, un, un, un, un, un, un] [(.int (0 : Int32))])) (fun t_ k_ => XT.iconstV X827.here hx rfl (0 : Int32) (hb hby at_240) (by decide) k_) ?_
          exact k833 _ (if_pos hb832).symm
        · refine own_step (T' := Tc805) (g' := (mkF m 236 #[vi u1, vi u2, vi u3, vi u4, vi u5, vi u6, vi v3, vi (u2 &&& (2147483647 : Int32)), vi v6, vi v15, vi z20, vi z30, vi v38, vi (u4 &&& (7 : Int32)), va a47, va a386, un, un, un, un, un, un, un, un, un, un] [])) (fun t_ k_ => XS.ifNo X827.here hx rfl (hb hby at_233) rfl (XT.i0_eq_f hb832) k_) ?_
          refine own_step (T' := Tc805) (g' := (mkF m 237 #[vi u1, vi u2, vi u3, vi u4, vi u5, vi u6, vi v3, vi (u2 &&& (2147483647 : Int32)), vi v6, vi v15, vi z20, vi z30, vi v38, vi (u4 &&& (7 : Int32)), va a47, va a386, un, un, un, un, un, un, un, un, un, un] [(.int (1 : Int32))])) (fun t_ k_ => XT.iconstV X827.here hx rfl (1 : Int32) (hb hby at_236) (by decide) k_) ?_
          refine own_step (T' := Tc805) (g' := (mkF m 241 #[vi u1, vi u2, vi u3, vi u4, vi u5, vi u6, vi v3, vi (u2 &&& (2147483647 : Int32)), vi v6, vi v15, vi z20, vi z30, vi v38, vi (u4 &&& (7 : Int32)), va a47, va a386, un, un, un, un, un, un, un, un, un, un] [(.int (1 : Int32))])) (fun t_ k_ => XS.goto X827.here hx rfl (pc0 := 237) (pc' := 241) rfl (hb hby at_237) (by decide) (by decide) k_) ?_
          exact k833 _ (if_neg hb832).symm
      rintro _ rfl
      exact k830 _ (if_pos hb829).symm
    · refine own_step (T' := Tc805) (g' := (mkF m 227 #[vi u1, vi u2, vi u3, vi u4, vi u5, vi u6, vi v3, vi (u2 &&& (2147483647 : Int32)), vi v6, vi v15, vi z20, vi z30, vi v38, vi (u4 &&& (7 : Int32)), va a47, va a386, un, un, un, un, un, un, un, un, un, un] [])) (fun t_ k_ => XS.ifNo X827.here hx rfl (hb hby at_224) rfl (XT.i0_eq_f hb829) k_) ?_
      refine own_step (T' := Tc805) (g' := (mkF m 228 #[vi u1, vi u2, vi u3, vi u4, vi u5, vi u6, vi v3, vi (u2 &&& (2147483647 : Int32)), vi v6, vi v15, vi z20, vi z30, vi v38, vi (u4 &&& (7 : Int32)), va a47, va a386, un, un, un, un, un, un, un, un, un, un] [(.int (2 : Int32))])) (fun t_ k_ => XT.iconstV X827.here hx rfl (2 : Int32) (hb hby at_227) (by decide) k_) ?_
      refine own_step (T' := Tc805) (g' := (mkF m 241 #[vi u1, vi u2, vi u3, vi u4, vi u5, vi u6, vi v3, vi (u2 &&& (2147483647 : Int32)), vi v6, vi v15, vi z20, vi z30, vi v38, vi (u4 &&& (7 : Int32)), va a47, va a386, un, un, un, un, un, un, un, un, un, un] [(.int (2 : Int32))])) (fun t_ k_ => XS.goto X827.here hx rfl (pc0 := 228) (pc' := 241) rfl (hb hby at_228) (by decide) (by decide) k_) ?_
      exact k830 _ (if_neg hb829).symm
  intro v831 hv831
  refine own_step (T' := Tc805) (g' := (mkF m 243 #[vi u1, vi u2, vi u3, vi u4, vi u5, vi u6, vi v3, vi (u2 &&& (2147483647 : Int32)), vi v6, vi v15, vi z20, vi z30, vi v38, vi (u4 &&& (7 : Int32)), va a47, va a386, vi v831, un, un, un, un, un, un, un, un, un] [])) (fun t_ k_ => XS.istore X827.here hx rfl (hb hby at_241) rfl (l' := #[vi u1, vi u2, vi u3, vi u4, vi u5, vi u6, vi v3, vi (u2 &&& (2147483647 : Int32)), vi v6, vi v15, vi z20, vi z30, vi v38, vi (u4 &&& (7 : Int32)), va a47, va a386, vi v831, un, un, un, un, un, un, un, un, un]) rfl k_) ?_
  refine own_step (T' := Tc805) (g' := (mkF m 245 #[vi u1, vi u2, vi u3, vi u4, vi u5, vi u6, vi v3, vi (u2 &&& (2147483647 : Int32)), vi v6, vi v15, vi z20, vi z30, vi v38, vi (u4 &&& (7 : Int32)), va a47, va a386, vi v831, un, un, un, un, un, un, un, un, un] [(.ref a386)])) (fun t_ k_ => XS.aload X827.here hx rfl (hb hby at_243) rfl rfl k_) ?_
  obtain ⟨cqc835, kqc835, qac835, qbc835, qcc835⟩ := isOf hZ rfl F825
  obtain ⟨_, _, ⟨Tc835, Lc835, kc835, nc835⟩, -, Xc835, ⟨Lcc835, hQc835, lc835, yc835, zc835⟩, stc835⟩ := X827.virtualBack hx (y := (⟨"com/example/sedimenta/sedimenta/Postings", "first", "()I"⟩ : MethodName)) (z := (⟨"com/example/sedimenta/sedimenta/Postings", "first", "()I"⟩ : MethodName)) hown (mvT hZ (own_w (i := 94) rfl hw)) (mvT hZ (own_w (i := 95) rfl hw)) (notFace_of_selects (args := #[]) (mvT hZ (own_w (i := 97) rfl hw))) (mvT hZ (own_w (i := 97) rfl hw)) (mvT hZ (own_w (i := 96) rfl hw)) (by decide) (backOf (W := 0) (rm_first l Z a0 hw [] a386 v145 Tc805.heap n0 F822 F814) hZ (own_w (i := 98) rfl hw) (own_w (i := 7) rfl hw) (by decide) (by decide)) qac835 qcc835 (g := (mkF m 245 #[vi u1, vi u2, vi u3, vi u4, vi u5, vi u6, vi v3, vi (u2 &&& (2147483647 : Int32)), vi v6, vi v15, vi z20, vi z30, vi v38, vi (u4 &&& (7 : Int32)), va a47, va a386, vi v831, un, un, un, un, un, un, un, un, un] [(.ref a386)])) rfl (by rw [hml]; rfl) (Steps.refl _) (argsL := []) (rest := []) (lenOf pd_10 rfl) rfl (by show 2 * 0 + _ ≤ _; exact Nat.le_of_eq rfl) (hb hby at_245) (fun _ _ => ⟨rfl, rfl, (by decide : 12 + 0 ≤ _), (by decide : 216 + 0 ≤ _)⟩)
  dsimp only [Pt.U, Pt.locs, Pt.cells, Pt.slots] at Xc835 lc835 yc835 zc835 stc835 hQc835
  subst lc835 yc835 zc835
  have X836 := Xc835.more (cells' := 12) (slots' := 216) (by decide) (by decide)
  obtain ⟨rfl, N837, e838⟩ := hQc835
  have N839 := Fr.app N828 N837
  obtain ⟨Lo840, X841, N842⟩ : ∃ Lo_, Stand p l e room_1 s m #[(.int u1), (.int u2), (.int u3), (.int u4), (.int u5), (.int u6)] below meth c Tc835 Lo_ 12 216 ∧ Fr n0 Lo_ := ⟨_, X836, N839⟩
  refine own_step (T' := Tc835) (g' := (mkF m 248 #[vi u1, vi u2, vi u3, vi u4, vi u5, vi u6, vi v3, vi (u2 &&& (2147483647 : Int32)), vi v6, vi v15, vi z20, vi z30, vi v38, vi (u4 &&& (7 : Int32)), va a47, va a386, vi v831, un, un, un, un, un, un, un, un, un] [(.int v145)])) (fun t_ k_ => stc835.trans k_) ?_
  refine own_step (T' := Tc835) (g' := (mkF m 250 #[vi u1, vi u2, vi u3, vi u4, vi u5, vi u6, vi v3, vi (u2 &&& (2147483647 : Int32)), vi v6, vi v15, vi z20, vi z30, vi v38, vi (u4 &&& (7 : Int32)), va a47, va a386, vi v831, un, un, un, un, un, un, un, un, un] [(.int v3), (.int v145)])) (fun t_ k_ => XS.iload X841.here hx rfl (hb hby at_248) rfl k_) ?_
  suffices k844 : ∀ v845 : Int32, v845 = (if v3 = 0 then (0 : Int32) else (u2 &&& (2147483647 : Int32))) → own_Fin p e below s (Q_31 h0 n0) 14 220 Tc835 (mkF m 259 #[vi u1, vi u2, vi u3, vi u4, vi u5, vi u6, vi v3, vi (u2 &&& (2147483647 : Int32)), vi v6, vi v15, vi z20, vi z30, vi v38, vi (u4 &&& (7 : Int32)), va a47, va a386, vi v831, un, un, un, un, un, un, un, un, un] [(.int v845), (.int v145)]) by
    by_cases hb843 : v3 = 0
    · refine own_step (T' := Tc835) (g' := (mkF m 258 #[vi u1, vi u2, vi u3, vi u4, vi u5, vi u6, vi v3, vi (u2 &&& (2147483647 : Int32)), vi v6, vi v15, vi z20, vi z30, vi v38, vi (u4 &&& (7 : Int32)), va a47, va a386, vi v831, un, un, un, un, un, un, un, un, un] [(.int v145)])) (fun t_ k_ => XS.ifYes X841.here hx rfl (pc0 := 250) (pc' := 258) rfl (hb hby at_250) rfl (XT.i0_eq_t hb843) (by decide) (by decide) k_) ?_
      refine own_step (T' := Tc835) (g' := (mkF m 259 #[vi u1, vi u2, vi u3, vi u4, vi u5, vi u6, vi v3, vi (u2 &&& (2147483647 : Int32)), vi v6, vi v15, vi z20, vi z30, vi v38, vi (u4 &&& (7 : Int32)), va a47, va a386, vi v831, un, un, un, un, un, un, un, un, un] [(.int (0 : Int32)), (.int v145)])) (fun t_ k_ => XT.iconstV X841.here hx rfl (0 : Int32) (hb hby at_258) (by decide) k_) ?_
      exact k844 _ (if_pos hb843).symm
    · refine own_step (T' := Tc835) (g' := (mkF m 253 #[vi u1, vi u2, vi u3, vi u4, vi u5, vi u6, vi v3, vi (u2 &&& (2147483647 : Int32)), vi v6, vi v15, vi z20, vi z30, vi v38, vi (u4 &&& (7 : Int32)), va a47, va a386, vi v831, un, un, un, un, un, un, un, un, un] [(.int v145)])) (fun t_ k_ => XS.ifNo X841.here hx rfl (hb hby at_250) rfl (XT.i0_eq_f hb843) k_) ?_
      refine own_step (T' := Tc835) (g' := (mkF m 255 #[vi u1, vi u2, vi u3, vi u4, vi u5, vi u6, vi v3, vi (u2 &&& (2147483647 : Int32)), vi v6, vi v15, vi z20, vi z30, vi v38, vi (u4 &&& (7 : Int32)), va a47, va a386, vi v831, un, un, un, un, un, un, un, un, un] [(.int (u2 &&& (2147483647 : Int32))), (.int v145)])) (fun t_ k_ => XS.iload X841.here hx rfl (hb hby at_253) rfl k_) ?_
      refine own_step (T' := Tc835) (g' := (mkF m 259 #[vi u1, vi u2, vi u3, vi u4, vi u5, vi u6, vi v3, vi (u2 &&& (2147483647 : Int32)), vi v6, vi v15, vi z20, vi z30, vi v38, vi (u4 &&& (7 : Int32)), va a47, va a386, vi v831, un, un, un, un, un, un, un, un, un] [(.int (u2 &&& (2147483647 : Int32))), (.int v145)])) (fun t_ k_ => XS.goto X841.here hx rfl (pc0 := 255) (pc' := 259) rfl (hb hby at_255) (by decide) (by decide) k_) ?_
      exact k844 _ (if_neg hb843).symm
  intro v845 hv845
  have hk846 : v145 = v845 := (own_fin1 I201 hv845)
  refine own_step (T' := Tc835) (g' := (mkF m 262 #[vi u1, vi u2, vi u3, vi u4, vi u5, vi u6, vi v3, vi (u2 &&& (2147483647 : Int32)), vi v6, vi v15, vi z20, vi z30, vi v38, vi (u4 &&& (7 : Int32)), va a47, va a386, vi v831, un, un, un, un, un, un, un, un, un] [])) (fun t_ k_ => XS.icmpNo X841.here hx rfl (hb hby at_259) rfl (XT.ii_ne_f hk846) k_) ?_
  refine own_step (T' := Tc835) (g' := (mkF m 263 #[vi u1, vi u2, vi u3, vi u4, vi u5, vi u6, vi v3, vi (u2 &&& (2147483647 : Int32)), vi v6, vi v15, vi z20, vi z30, vi v38, vi (u4 &&& (7 : Int32)), va a47, va a386, vi v831, un, un, un, un, un, un, un, un, un] [(.int (1 : Int32))])) (fun t_ k_ => XT.iconstV X841.here hx rfl (1 : Int32) (hb hby at_262) (by decide) k_) ?_
  refine own_step (T' := Tc835) (g' := (mkF m 267 #[vi u1, vi u2, vi u3, vi u4, vi u5, vi u6, vi v3, vi (u2 &&& (2147483647 : Int32)), vi v6, vi v15, vi z20, vi z30, vi v38, vi (u4 &&& (7 : Int32)), va a47, va a386, vi v831, un, un, un, un, un, un, un, un, un] [(.int (1 : Int32))])) (fun t_ k_ => XS.goto X841.here hx rfl (pc0 := 263) (pc' := 267) rfl (hb hby at_263) (by decide) (by decide) k_) ?_
  refine own_step (T' := Tc835) (g' := (mkF m 269 #[vi u1, vi u2, vi u3, vi u4, vi u5, vi u6, vi v3, vi (u2 &&& (2147483647 : Int32)), vi v6, vi v15, vi z20, vi z30, vi v38, vi (u4 &&& (7 : Int32)), va a47, va a386, vi v831, vi (1 : Int32), un, un, un, un, un, un, un, un] [])) (fun t_ k_ => XS.istore X841.here hx rfl (hb hby at_267) rfl (l' := #[vi u1, vi u2, vi u3, vi u4, vi u5, vi u6, vi v3, vi (u2 &&& (2147483647 : Int32)), vi v6, vi v15, vi z20, vi z30, vi v38, vi (u4 &&& (7 : Int32)), va a47, va a386, vi v831, vi (1 : Int32), un, un, un, un, un, un, un, un]) rfl k_) ?_
  refine own_step (T' := Tc835) (g' := (mkF m 271 #[vi u1, vi u2, vi u3, vi u4, vi u5, vi u6, vi v3, vi (u2 &&& (2147483647 : Int32)), vi v6, vi v15, vi z20, vi z30, vi v38, vi (u4 &&& (7 : Int32)), va a47, va a386, vi v831, vi (1 : Int32), un, un, un, un, un, un, un, un] [(.ref a386)])) (fun t_ k_ => XS.aload X841.here hx rfl (hb hby at_269) rfl rfl k_) ?_
  obtain ⟨cqc847, kqc847, qac847, qbc847, qcc847⟩ := isOf hZ e838 F825
  obtain ⟨_, _, ⟨Tc847, Lc847, kc847, nc847⟩, -, Xc847, ⟨Lcc847, hQc847, lc847, yc847, zc847⟩, stc847⟩ := X841.virtualBack hx (y := (⟨"com/example/sedimenta/sedimenta/Postings", "last", "()I"⟩ : MethodName)) (z := (⟨"com/example/sedimenta/sedimenta/Postings", "last", "()I"⟩ : MethodName)) hown (mvT hZ (own_w (i := 99) rfl hw)) (mvT hZ (own_w (i := 100) rfl hw)) (notFace_of_selects (args := #[]) (mvT hZ (own_w (i := 102) rfl hw))) (mvT hZ (own_w (i := 102) rfl hw)) (mvT hZ (own_w (i := 101) rfl hw)) (by decide) (backOf (W := 0) (rm_last l Z a0 hw [] a386 v211 Tc805.heap n0 F822 F810) hZ (own_w (i := 103) rfl hw) (own_w (i := 7) rfl hw) (by decide) (by decide)) qac847 qcc847 (g := (mkF m 271 #[vi u1, vi u2, vi u3, vi u4, vi u5, vi u6, vi v3, vi (u2 &&& (2147483647 : Int32)), vi v6, vi v15, vi z20, vi z30, vi v38, vi (u4 &&& (7 : Int32)), va a47, va a386, vi v831, vi (1 : Int32), un, un, un, un, un, un, un, un] [(.ref a386)])) rfl (by rw [hml]; rfl) (Steps.refl _) (argsL := []) (rest := []) (lenOf pd_10 rfl) rfl (by show 2 * 0 + _ ≤ _; exact Nat.le_of_eq rfl) (hb hby at_271) (fun _ _ => ⟨rfl, e838, (by decide : 12 + 0 ≤ _), (by decide : 216 + 0 ≤ _)⟩)
  dsimp only [Pt.U, Pt.locs, Pt.cells, Pt.slots] at Xc847 lc847 yc847 zc847 stc847 hQc847
  subst lc847 yc847 zc847
  have X848 := Xc847.more (cells' := 12) (slots' := 216) (by decide) (by decide)
  obtain ⟨rfl, N849, e850⟩ := hQc847
  have N851 := Fr.app N842 N849
  obtain ⟨Lo852, X853, N854⟩ : ∃ Lo_, Stand p l e room_1 s m #[(.int u1), (.int u2), (.int u3), (.int u4), (.int u5), (.int u6)] below meth c Tc847 Lo_ 12 216 ∧ Fr n0 Lo_ := ⟨_, X848, N851⟩
  refine own_step (T' := Tc847) (g' := (mkF m 274 #[vi u1, vi u2, vi u3, vi u4, vi u5, vi u6, vi v3, vi (u2 &&& (2147483647 : Int32)), vi v6, vi v15, vi z20, vi z30, vi v38, vi (u4 &&& (7 : Int32)), va a47, va a386, vi v831, vi (1 : Int32), un, un, un, un, un, un, un, un] [(.int v211)])) (fun t_ k_ => stc847.trans k_) ?_
  refine own_step (T' := Tc847) (g' := (mkF m 276 #[vi u1, vi u2, vi u3, vi u4, vi u5, vi u6, vi v3, vi (u2 &&& (2147483647 : Int32)), vi v6, vi v15, vi z20, vi z30, vi v38, vi (u4 &&& (7 : Int32)), va a47, va a386, vi v831, vi (1 : Int32), un, un, un, un, un, un, un, un] [(.int v6), (.int v211)])) (fun t_ k_ => XS.iload X853.here hx rfl (hb hby at_274) rfl k_) ?_
  suffices k856 : ∀ v857 : Int32, v857 = (if v6 = 0 then (if v3 = 0 then (-1 : Int32) else (u2 &&& (2147483647 : Int32))) else v15) → own_Fin p e below s (Q_31 h0 n0) 14 220 Tc847 (mkF m 295 #[vi u1, vi u2, vi u3, vi u4, vi u5, vi u6, vi v3, vi (u2 &&& (2147483647 : Int32)), vi v6, vi v15, vi z20, vi z30, vi v38, vi (u4 &&& (7 : Int32)), va a47, va a386, vi v831, vi (1 : Int32), un, un, un, un, un, un, un, un] [(.int v857), (.int v211)]) by
    by_cases hb855 : v6 = 0
    · refine own_step (T' := Tc847) (g' := (mkF m 284 #[vi u1, vi u2, vi u3, vi u4, vi u5, vi u6, vi v3, vi (u2 &&& (2147483647 : Int32)), vi v6, vi v15, vi z20, vi z30, vi v38, vi (u4 &&& (7 : Int32)), va a47, va a386, vi v831, vi (1 : Int32), un, un, un, un, un, un, un, un] [(.int v211)])) (fun t_ k_ => XS.ifYes X853.here hx rfl (pc0 := 276) (pc' := 284) rfl (hb hby at_276) rfl (XT.i0_eq_t hb855) (by decide) (by decide) k_) ?_
      refine own_step (T' := Tc847) (g' := (mkF m 286 #[vi u1, vi u2, vi u3, vi u4, vi u5, vi u6, vi v3, vi (u2 &&& (2147483647 : Int32)), vi v6, vi v15, vi z20, vi z30, vi v38, vi (u4 &&& (7 : Int32)), va a47, va a386, vi v831, vi (1 : Int32), un, un, un, un, un, un, un, un] [(.int v3), (.int v211)])) (fun t_ k_ => XS.iload X853.here hx rfl (hb hby at_284) rfl k_) ?_
      suffices k859 : ∀ v860 : Int32, v860 = (if v3 = 0 then (-1 : Int32) else (u2 &&& (2147483647 : Int32))) → own_Fin p e below s (Q_31 h0 n0) 14 220 Tc847 (mkF m 295 #[vi u1, vi u2, vi u3, vi u4, vi u5, vi u6, vi v3, vi (u2 &&& (2147483647 : Int32)), vi v6, vi v15, vi z20, vi z30, vi v38, vi (u4 &&& (7 : Int32)), va a47, va a386, vi v831, vi (1 : Int32), un, un, un, un, un, un, un, un] [(.int v860), (.int v211)]) by
        by_cases hb858 : v3 = 0
        · refine own_step (T' := Tc847) (g' := (mkF m 294 #[vi u1, vi u2, vi u3, vi u4, vi u5, vi u6, vi v3, vi (u2 &&& (2147483647 : Int32)), vi v6, vi v15, vi z20, vi z30, vi v38, vi (u4 &&& (7 : Int32)), va a47, va a386, vi v831, vi (1 : Int32), un, un, un, un, un, un, un, un] [(.int v211)])) (fun t_ k_ => XS.ifYes X853.here hx rfl (pc0 := 286) (pc' := 294) rfl (hb hby at_286) rfl (XT.i0_eq_t hb858) (by decide) (by decide) k_) ?_
          refine own_step (T' := Tc847) (g' := (mkF m 295 #[vi u1, vi u2, vi u3, vi u4, vi u5, vi u6, vi v3, vi (u2 &&& (2147483647 : Int32)), vi v6, vi v15, vi z20, vi z30, vi v38, vi (u4 &&& (7 : Int32)), va a47, va a386, vi v831, vi (1 : Int32), un, un, un, un, un, un, un, un] [(.int (-1 : Int32)), (.int v211)])) (fun t_ k_ => XT.iconstV X853.here hx rfl (-1 : Int32) (hb hby at_294) (by decide) k_) ?_
          exact k859 _ (if_pos hb858).symm
        · refine own_step (T' := Tc847) (g' := (mkF m 289 #[vi u1, vi u2, vi u3, vi u4, vi u5, vi u6, vi v3, vi (u2 &&& (2147483647 : Int32)), vi v6, vi v15, vi z20, vi z30, vi v38, vi (u4 &&& (7 : Int32)), va a47, va a386, vi v831, vi (1 : Int32), un, un, un, un, un, un, un, un] [(.int v211)])) (fun t_ k_ => XS.ifNo X853.here hx rfl (hb hby at_286) rfl (XT.i0_eq_f hb858) k_) ?_
          refine own_step (T' := Tc847) (g' := (mkF m 291 #[vi u1, vi u2, vi u3, vi u4, vi u5, vi u6, vi v3, vi (u2 &&& (2147483647 : Int32)), vi v6, vi v15, vi z20, vi z30, vi v38, vi (u4 &&& (7 : Int32)), va a47, va a386, vi v831, vi (1 : Int32), un, un, un, un, un, un, un, un] [(.int (u2 &&& (2147483647 : Int32))), (.int v211)])) (fun t_ k_ => XS.iload X853.here hx rfl (hb hby at_289) rfl k_) ?_
          refine own_step (T' := Tc847) (g' := (mkF m 295 #[vi u1, vi u2, vi u3, vi u4, vi u5, vi u6, vi v3, vi (u2 &&& (2147483647 : Int32)), vi v6, vi v15, vi z20, vi z30, vi v38, vi (u4 &&& (7 : Int32)), va a47, va a386, vi v831, vi (1 : Int32), un, un, un, un, un, un, un, un] [(.int (u2 &&& (2147483647 : Int32))), (.int v211)])) (fun t_ k_ => XS.goto X853.here hx rfl (pc0 := 291) (pc' := 295) rfl (hb hby at_291) (by decide) (by decide) k_) ?_
          exact k859 _ (if_neg hb858).symm
      rintro _ rfl
      exact k856 _ (if_pos hb855).symm
    · refine own_step (T' := Tc847) (g' := (mkF m 279 #[vi u1, vi u2, vi u3, vi u4, vi u5, vi u6, vi v3, vi (u2 &&& (2147483647 : Int32)), vi v6, vi v15, vi z20, vi z30, vi v38, vi (u4 &&& (7 : Int32)), va a47, va a386, vi v831, vi (1 : Int32), un, un, un, un, un, un, un, un] [(.int v211)])) (fun t_ k_ => XS.ifNo X853.here hx rfl (hb hby at_276) rfl (XT.i0_eq_f hb855) k_) ?_
      refine own_step (T' := Tc847) (g' := (mkF m 281 #[vi u1, vi u2, vi u3, vi u4, vi u5, vi u6, vi v3, vi (u2 &&& (2147483647 : Int32)), vi v6, vi v15, vi z20, vi z30, vi v38, vi (u4 &&& (7 : Int32)), va a47, va a386, vi v831, vi (1 : Int32), un, un, un, un, un, un, un, un] [(.int v15), (.int v211)])) (fun t_ k_ => XS.iload X853.here hx rfl (hb hby at_279) rfl k_) ?_
      refine own_step (T' := Tc847) (g' := (mkF m 295 #[vi u1, vi u2, vi u3, vi u4, vi u5, vi u6, vi v3, vi (u2 &&& (2147483647 : Int32)), vi v6, vi v15, vi z20, vi z30, vi v38, vi (u4 &&& (7 : Int32)), va a47, va a386, vi v831, vi (1 : Int32), un, un, un, un, un, un, un, un] [(.int v15), (.int v211)])) (fun t_ k_ => XS.goto X853.here hx rfl (pc0 := 281) (pc' := 295) rfl (hb hby at_281) (by decide) (by decide) k_) ?_
      exact k856 _ (if_neg hb855).symm
  intro v857 hv857
  have hk861 : v211 = v857 := (own_fin2 I201 hv857)
  refine own_step (T' := Tc847) (g' := (mkF m 298 #[vi u1, vi u2, vi u3, vi u4, vi u5, vi u6, vi v3, vi (u2 &&& (2147483647 : Int32)), vi v6, vi v15, vi z20, vi z30, vi v38, vi (u4 &&& (7 : Int32)), va a47, va a386, vi v831, vi (1 : Int32), un, un, un, un, un, un, un, un] [])) (fun t_ k_ => XS.icmpNo X853.here hx rfl (hb hby at_295) rfl (XT.ii_ne_f hk861) k_) ?_
  refine own_step (T' := Tc847) (g' := (mkF m 299 #[vi u1, vi u2, vi u3, vi u4, vi u5, vi u6, vi v3, vi (u2 &&& (2147483647 : Int32)), vi v6, vi v15, vi z20, vi z30, vi v38, vi (u4 &&& (7 : Int32)), va a47, va a386, vi v831, vi (1 : Int32), un, un, un, un, un, un, un, un] [(.int (1 : Int32))])) (fun t_ k_ => XT.iconstV X853.here hx rfl (1 : Int32) (hb hby at_298) (by decide) k_) ?_
  refine own_step (T' := Tc847) (g' := (mkF m 303 #[vi u1, vi u2, vi u3, vi u4, vi u5, vi u6, vi v3, vi (u2 &&& (2147483647 : Int32)), vi v6, vi v15, vi z20, vi z30, vi v38, vi (u4 &&& (7 : Int32)), va a47, va a386, vi v831, vi (1 : Int32), un, un, un, un, un, un, un, un] [(.int (1 : Int32))])) (fun t_ k_ => XS.goto X853.here hx rfl (pc0 := 299) (pc' := 303) rfl (hb hby at_299) (by decide) (by decide) k_) ?_
  refine own_step (T' := Tc847) (g' := (mkF m 305 #[vi u1, vi u2, vi u3, vi u4, vi u5, vi u6, vi v3, vi (u2 &&& (2147483647 : Int32)), vi v6, vi v15, vi z20, vi z30, vi v38, vi (u4 &&& (7 : Int32)), va a47, va a386, vi v831, vi (1 : Int32), vi (1 : Int32), un, un, un, un, un, un, un] [])) (fun t_ k_ => XS.istore X853.here hx rfl (hb hby at_303) rfl (l' := #[vi u1, vi u2, vi u3, vi u4, vi u5, vi u6, vi v3, vi (u2 &&& (2147483647 : Int32)), vi v6, vi v15, vi z20, vi z30, vi v38, vi (u4 &&& (7 : Int32)), va a47, va a386, vi v831, vi (1 : Int32), vi (1 : Int32), un, un, un, un, un, un, un]) rfl k_) ?_
  refine own_step (T' := Tc847) (g' := (mkF m 307 #[vi u1, vi u2, vi u3, vi u4, vi u5, vi u6, vi v3, vi (u2 &&& (2147483647 : Int32)), vi v6, vi v15, vi z20, vi z30, vi v38, vi (u4 &&& (7 : Int32)), va a47, va a386, vi v831, vi (1 : Int32), vi (1 : Int32), un, un, un, un, un, un, un] [(.ref a386)])) (fun t_ k_ => XS.aload X853.here hx rfl (hb hby at_305) rfl rfl k_) ?_
  obtain ⟨cqc862, kqc862, qac862, qbc862, qcc862⟩ := isOf hZ e850 F825
  obtain ⟨_, _, ⟨Tc862, Lc862, kc862, nc862⟩, -, Xc862, ⟨Lcc862, hQc862, lc862, yc862, zc862⟩, stc862⟩ := X853.virtualBack hx (y := (⟨"com/example/sedimenta/sedimenta/Postings", "positioned", "()Z"⟩ : MethodName)) (z := (⟨"com/example/sedimenta/sedimenta/Postings", "positioned", "()Z"⟩ : MethodName)) hown (mvT hZ (own_w (i := 104) rfl hw)) (mvT hZ (own_w (i := 105) rfl hw)) (notFace_of_selects (args := #[]) (mvT hZ (own_w (i := 107) rfl hw))) (mvT hZ (own_w (i := 107) rfl hw)) (mvT hZ (own_w (i := 106) rfl hw)) (by decide) (backOf (W := 0) (rm_posd l Z a0 hw [] a386 (nar .boolean v298) Tc805.heap n0 F822 F818) hZ (own_w (i := 108) rfl hw) (own_w (i := 7) rfl hw) (by decide) (by decide)) qac862 qcc862 (g := (mkF m 307 #[vi u1, vi u2, vi u3, vi u4, vi u5, vi u6, vi v3, vi (u2 &&& (2147483647 : Int32)), vi v6, vi v15, vi z20, vi z30, vi v38, vi (u4 &&& (7 : Int32)), va a47, va a386, vi v831, vi (1 : Int32), vi (1 : Int32), un, un, un, un, un, un, un] [(.ref a386)])) rfl (by rw [hml]; rfl) (Steps.refl _) (argsL := []) (rest := []) (lenOf pd_9 rfl) rfl (by show 2 * 0 + _ ≤ _; exact Nat.le_of_eq rfl) (hb hby at_307) (fun _ _ => ⟨rfl, e850, (by decide : 12 + 0 ≤ _), (by decide : 216 + 0 ≤ _)⟩)
  dsimp only [Pt.U, Pt.locs, Pt.cells, Pt.slots] at Xc862 lc862 yc862 zc862 stc862 hQc862
  subst lc862 yc862 zc862
  have X863 := Xc862.more (cells' := 12) (slots' := 216) (by decide) (by decide)
  obtain ⟨rfl, N864, e865⟩ := hQc862
  have N866 := Fr.app N854 N864
  obtain ⟨Lo867, X868, N869⟩ : ∃ Lo_, Stand p l e room_1 s m #[(.int u1), (.int u2), (.int u3), (.int u4), (.int u5), (.int u6)] below meth c Tc862 Lo_ 12 216 ∧ Fr n0 Lo_ := ⟨_, X863, N866⟩
  refine own_step (T' := Tc862) (g' := (mkF m 310 #[vi u1, vi u2, vi u3, vi u4, vi u5, vi u6, vi v3, vi (u2 &&& (2147483647 : Int32)), vi v6, vi v15, vi z20, vi z30, vi v38, vi (u4 &&& (7 : Int32)), va a47, va a386, vi v831, vi (1 : Int32), vi (1 : Int32), un, un, un, un, un, un, un] [(.int (nar .boolean (nar .boolean v298)))])) (fun t_ k_ => stc862.trans k_) ?_
  refine own_step (T' := Tc862) (g' := (mkF m 312 #[vi u1, vi u2, vi u3, vi u4, vi u5, vi u6, vi v3, vi (u2 &&& (2147483647 : Int32)), vi v6, vi v15, vi z20, vi z30, vi v38, vi (u4 &&& (7 : Int32)), va a47, va a386, vi v831, vi (1 : Int32), vi (1 : Int32), un, un, un, un, un, un, un] [(.int v38), (.int (nar .boolean (nar .boolean v298)))])) (fun t_ k_ => XS.iload X868.here hx rfl (hb hby at_310) rfl k_) ?_
  have hk870 : (nar .boolean (nar .boolean v298)) = v38 := (own_fin3 I275 hv38)
  refine own_step (T' := Tc862) (g' := (mkF m 315 #[vi u1, vi u2, vi u3, vi u4, vi u5, vi u6, vi v3, vi (u2 &&& (2147483647 : Int32)), vi v6, vi v15, vi z20, vi z30, vi v38, vi (u4 &&& (7 : Int32)), va a47, va a386, vi v831, vi (1 : Int32), vi (1 : Int32), un, un, un, un, un, un, un] [])) (fun t_ k_ => XS.icmpNo X868.here hx rfl (hb hby at_312) rfl (XT.ii_ne_f hk870) k_) ?_
  refine own_step (T' := Tc862) (g' := (mkF m 316 #[vi u1, vi u2, vi u3, vi u4, vi u5, vi u6, vi v3, vi (u2 &&& (2147483647 : Int32)), vi v6, vi v15, vi z20, vi z30, vi v38, vi (u4 &&& (7 : Int32)), va a47, va a386, vi v831, vi (1 : Int32), vi (1 : Int32), un, un, un, un, un, un, un] [(.int (1 : Int32))])) (fun t_ k_ => XT.iconstV X868.here hx rfl (1 : Int32) (hb hby at_315) (by decide) k_) ?_
  refine own_step (T' := Tc862) (g' := (mkF m 320 #[vi u1, vi u2, vi u3, vi u4, vi u5, vi u6, vi v3, vi (u2 &&& (2147483647 : Int32)), vi v6, vi v15, vi z20, vi z30, vi v38, vi (u4 &&& (7 : Int32)), va a47, va a386, vi v831, vi (1 : Int32), vi (1 : Int32), un, un, un, un, un, un, un] [(.int (1 : Int32))])) (fun t_ k_ => XS.goto X868.here hx rfl (pc0 := 316) (pc' := 320) rfl (hb hby at_316) (by decide) (by decide) k_) ?_
  refine own_step (T' := Tc862) (g' := (mkF m 322 #[vi u1, vi u2, vi u3, vi u4, vi u5, vi u6, vi v3, vi (u2 &&& (2147483647 : Int32)), vi v6, vi v15, vi z20, vi z30, vi v38, vi (u4 &&& (7 : Int32)), va a47, va a386, vi v831, vi (1 : Int32), vi (1 : Int32), vi (1 : Int32), un, un, un, un, un, un] [])) (fun t_ k_ => XS.istore X868.here hx rfl (hb hby at_320) rfl (l' := #[vi u1, vi u2, vi u3, vi u4, vi u5, vi u6, vi v3, vi (u2 &&& (2147483647 : Int32)), vi v6, vi v15, vi z20, vi z30, vi v38, vi (u4 &&& (7 : Int32)), va a47, va a386, vi v831, vi (1 : Int32), vi (1 : Int32), vi (1 : Int32), un, un, un, un, un, un]) rfl k_) ?_
  refine own_step (T' := Tc862) (g' := (mkF m 324 #[vi u1, vi u2, vi u3, vi u4, vi u5, vi u6, vi v3, vi (u2 &&& (2147483647 : Int32)), vi v6, vi v15, vi z20, vi z30, vi v38, vi (u4 &&& (7 : Int32)), va a47, va a386, vi v831, vi (1 : Int32), vi (1 : Int32), vi (1 : Int32), un, un, un, un, un, un] [(.int v6)])) (fun t_ k_ => XS.iload X868.here hx rfl (hb hby at_322) rfl k_) ?_
  suffices k872 : ∀ (T874 : State) (h875 : Heap) (Lo876 : List Loc), ∀ v873 : Int32, v873 = (if v6 = 0 then (0 : Int32) else (own_es (v15 - (u2 &&& (2147483647 : Int32))) z30)) → Stand p l e room_1 s m #[(.int u1), (.int u2), (.int u3), (.int u4), (.int u5), (.int u6)] below meth c T874 Lo876 12 216 → T874.heap = h875 → Fr n0 Lo876 → n0 ≤ h875.size → Old Z n0 h875 → own_Arl Z h875 o74 .byte v206 → Exa Z h875 a386 "com/example/sedimenta/sedimenta/Postings" → Fld Z h875 a386 "com/example/sedimenta/sedimenta/Postings" "bytes" "[B" (.ref o74) → Fld Z h875 a386 "com/example/sedimenta/sedimenta/Postings" "last" "I" (.int v211) → Fld Z h875 a386 "com/example/sedimenta/sedimenta/Postings" "entriesChecked" "Z" (.int (nar .boolean (nar .boolean (1 : Int32)))) → Fld Z h875 a386 "com/example/sedimenta/sedimenta/Postings" "length" "I" (.int v218) → Fld Z h875 a386 "com/example/sedimenta/sedimenta/Postings" "count" "I" (.int v220) → Fld Z h875 a386 "com/example/sedimenta/sedimenta/Postings" "first" "I" (.int v145) → Fld Z h875 a386 "com/example/sedimenta/sedimenta/Postings" "firstFrequency" "I" (.int v147) → Fld Z h875 a386 "com/example/sedimenta/sedimenta/Postings" "firstLength" "I" (.int v149) → Fld Z h875 a386 "com/example/sedimenta/sedimenta/Postings" "positionsLength" "I" (.int v296) → Fld Z h875 a386 "com/example/sedimenta/sedimenta/Postings" "positioned" "Z" (.int (nar .boolean v298)) → Fld Z h875 a386 "com/example/sedimenta/sedimenta/Postings" "offset" "I" (.int (0 : Int32)) → Fld Z h875 a386 "com/example/sedimenta/sedimenta/Postings" "blocks" "Lcom/example/sedimenta/sedimenta/TermBlocks;" .null → own_Fin p e below s (Q_31 h0 n0) 14 220 T874 (mkF m 341 #[vi u1, vi u2, vi u3, vi u4, vi u5, vi u6, vi v3, vi (u2 &&& (2147483647 : Int32)), vi v6, vi v15, vi z20, vi z30, vi v38, vi (u4 &&& (7 : Int32)), va a47, va a386, vi v831, vi (1 : Int32), vi (1 : Int32), vi (1 : Int32), un, un, un, un, un, un] [(.int v873)]) by
    by_cases hb871 : v6 = 0
    · refine own_step (T' := Tc862) (g' := (mkF m 340 #[vi u1, vi u2, vi u3, vi u4, vi u5, vi u6, vi v3, vi (u2 &&& (2147483647 : Int32)), vi v6, vi v15, vi z20, vi z30, vi v38, vi (u4 &&& (7 : Int32)), va a47, va a386, vi v831, vi (1 : Int32), vi (1 : Int32), vi (1 : Int32), un, un, un, un, un, un] [])) (fun t_ k_ => XS.ifYes X868.here hx rfl (pc0 := 324) (pc' := 340) rfl (hb hby at_324) rfl (XT.i0_eq_t hb871) (by decide) (by decide) k_) ?_
      refine own_step (T' := Tc862) (g' := (mkF m 341 #[vi u1, vi u2, vi u3, vi u4, vi u5, vi u6, vi v3, vi (u2 &&& (2147483647 : Int32)), vi v6, vi v15, vi z20, vi z30, vi v38, vi (u4 &&& (7 : Int32)), va a47, va a386, vi v831, vi (1 : Int32), vi (1 : Int32), vi (1 : Int32), un, un, un, un, un, un] [(.int (0 : Int32))])) (fun t_ k_ => XT.iconstV X868.here hx rfl (0 : Int32) (hb hby at_340) (by decide) k_) ?_
      exact k872 _ _ _ _ (if_pos hb871).symm X868 e865 N869 F822 F823 F824 F825 F809 F810 F811 F812 F813 F814 F815 F816 F817 F818 F819 F820
    · refine own_step (T' := Tc862) (g' := (mkF m 327 #[vi u1, vi u2, vi u3, vi u4, vi u5, vi u6, vi v3, vi (u2 &&& (2147483647 : Int32)), vi v6, vi v15, vi z20, vi z30, vi v38, vi (u4 &&& (7 : Int32)), va a47, va a386, vi v831, vi (1 : Int32), vi (1 : Int32), vi (1 : Int32), un, un, un, un, un, un] [])) (fun t_ k_ => XS.ifNo X868.here hx rfl (hb hby at_324) rfl (XT.i0_eq_f hb871) k_) ?_
      refine own_step (T' := Tc862) (g' := (mkF m 329 #[vi u1, vi u2, vi u3, vi u4, vi u5, vi u6, vi v3, vi (u2 &&& (2147483647 : Int32)), vi v6, vi v15, vi z20, vi z30, vi v38, vi (u4 &&& (7 : Int32)), va a47, va a386, vi v831, vi (1 : Int32), vi (1 : Int32), vi (1 : Int32), un, un, un, un, un, un] [(.int v15)])) (fun t_ k_ => XS.iload X868.here hx rfl (hb hby at_327) rfl k_) ?_
      refine own_step (T' := Tc862) (g' := (mkF m 331 #[vi u1, vi u2, vi u3, vi u4, vi u5, vi u6, vi v3, vi (u2 &&& (2147483647 : Int32)), vi v6, vi v15, vi z20, vi z30, vi v38, vi (u4 &&& (7 : Int32)), va a47, va a386, vi v831, vi (1 : Int32), vi (1 : Int32), vi (1 : Int32), un, un, un, un, un, un] [(.int (u2 &&& (2147483647 : Int32))), (.int v15)])) (fun t_ k_ => XS.iload X868.here hx rfl (hb hby at_329) rfl k_) ?_
      refine own_step (T' := Tc862) (g' := (mkF m 332 #[vi u1, vi u2, vi u3, vi u4, vi u5, vi u6, vi v3, vi (u2 &&& (2147483647 : Int32)), vi v6, vi v15, vi z20, vi z30, vi v38, vi (u4 &&& (7 : Int32)), va a47, va a386, vi v831, vi (1 : Int32), vi (1 : Int32), vi (1 : Int32), un, un, un, un, un, un] [(.int (v15 - (u2 &&& (2147483647 : Int32))))])) (fun t_ k_ => XS.isub X868.here hx rfl (hb hby at_331) rfl k_) ?_
      refine own_step (T' := Tc862) (g' := (mkF m 334 #[vi u1, vi u2, vi u3, vi u4, vi u5, vi u6, vi v3, vi (u2 &&& (2147483647 : Int32)), vi v6, vi v15, vi z20, vi z30, vi v38, vi (u4 &&& (7 : Int32)), va a47, va a386, vi v831, vi (1 : Int32), vi (1 : Int32), vi (1 : Int32), un, un, un, un, un, un] [(.int z30), (.int (v15 - (u2 &&& (2147483647 : Int32))))])) (fun t_ k_ => XS.iload X868.here hx rfl (hb hby at_332) rfl k_) ?_
      obtain ⟨_, _, ⟨Tc896, Lc896, kc896, nc896⟩, -, Xc896, ⟨Lcc896, hQc896, lc896, yc896, zc896⟩, stc896⟩ := Jvm.LawKit.callS X868 hx (y := (⟨"com/example/sedimenta/sedimenta/PostingsTakePinLaw", "entrySize", "(II)I"⟩ : MethodName)) hown (mvT hZ (own_w (i := 178) rfl hw)) (mvT hZ (own_w (i := 179) rfl hw)) (mvT hZ (own_w (i := 180) rfl hw)) (mvT hZ (own_w (i := 181) rfl hw)) (by decide) (backOf (W := 0) (rm_es l Z a0 hw [] ((v15 - (u2 &&& (2147483647 : Int32)))) (z30) Tc805.heap n0 F822) hZ (own_w (i := 181) rfl hw) (own_w (i := 180) rfl hw) (by decide) (by decide)) (g := (mkF m 334 #[vi u1, vi u2, vi u3, vi u4, vi u5, vi u6, vi v3, vi (u2 &&& (2147483647 : Int32)), vi v6, vi v15, vi z20, vi z30, vi v38, vi (u4 &&& (7 : Int32)), va a47, va a386, vi v831, vi (1 : Int32), vi (1 : Int32), vi (1 : Int32), un, un, un, un, un, un] [(.int z30), (.int (v15 - (u2 &&& (2147483647 : Int32))))])) rfl (by rw [hml]; rfl) (argsL := [(.int (v15 - (u2 &&& (2147483647 : Int32)))), (.int z30)]) (rest := []) (lenOf pd_6 rfl) rfl (by show 2 * 0 + _ ≤ _; exact Nat.le_of_eq rfl) (hb hby at_334) (fun _ _ => ⟨rfl, e865, (by decide : 12 + 0 ≤ _), (by decide : 216 + 0 ≤ _)⟩)
      dsimp only [Pt.U, Pt.locs, Pt.cells, Pt.slots] at Xc896 lc896 yc896 zc896 stc896 hQc896
      subst lc896 yc896 zc896
      have X897 := Xc896.more (cells' := 12) (slots' := 216) (by decide) (by decide)
      obtain ⟨rfl, N898, e899⟩ := hQc896
      have N900 := Fr.app N869 N898
      obtain ⟨Lo901, X902, N903⟩ : ∃ Lo_, Stand p l e room_1 s m #[(.int u1), (.int u2), (.int u3), (.int u4), (.int u5), (.int u6)] below meth c Tc896 Lo_ 12 216 ∧ Fr n0 Lo_ := ⟨_, X897, N900⟩
      refine own_step (T' := Tc896) (g' := (mkF m 337 #[vi u1, vi u2, vi u3, vi u4, vi u5, vi u6, vi v3, vi (u2 &&& (2147483647 : Int32)), vi v6, vi v15, vi z20, vi z30, vi v38, vi (u4 &&& (7 : Int32)), va a47, va a386, vi v831, vi (1 : Int32), vi (1 : Int32), vi (1 : Int32), un, un, un, un, un, un] [(.int (own_es (v15 - (u2 &&& (2147483647 : Int32))) z30))])) stc896 ?_
      refine own_step (T' := Tc896) (g' := (mkF m 341 #[vi u1, vi u2, vi u3, vi u4, vi u5, vi u6, vi v3, vi (u2 &&& (2147483647 : Int32)), vi v6, vi v15, vi z20, vi z30, vi v38, vi (u4 &&& (7 : Int32)), va a47, va a386, vi v831, vi (1 : Int32), vi (1 : Int32), vi (1 : Int32), un, un, un, un, un, un] [(.int (own_es (v15 - (u2 &&& (2147483647 : Int32))) z30))])) (fun t_ k_ => XS.goto X902.here hx rfl (pc0 := 337) (pc' := 341) rfl (hb hby at_337) (by decide) (by decide) k_) ?_
      exact k872 _ _ _ _ (if_neg hb871).symm X902 e899 N903 F822 F823 F824 F825 F809 F810 F811 F812 F813 F814 F815 F816 F817 F818 F819 F820
  intro T874 h875 Lo876 v873 hv873 X877 e878 N879 F880 F881 F882 F883 F884 F885 F886 F887 F888 F889 F890 F891 F892 F893 F894 F895
  refine own_step (T' := T874) (g' := (mkF m 343 #[vi u1, vi u2, vi u3, vi u4, vi u5, vi u6, vi v3, vi (u2 &&& (2147483647 : Int32)), vi v6, vi v15, vi z20, vi z30, vi v38, vi (u4 &&& (7 : Int32)), va a47, va a386, vi v831, vi (1 : Int32), vi (1 : Int32), vi (1 : Int32), vi v873, un, un, un, un, un] [])) (fun t_ k_ => XS.istore X877.here hx rfl (hb hby at_341) rfl (l' := #[vi u1, vi u2, vi u3, vi u4, vi u5, vi u6, vi v3, vi (u2 &&& (2147483647 : Int32)), vi v6, vi v15, vi z20, vi z30, vi v38, vi (u4 &&& (7 : Int32)), va a47, va a386, vi v831, vi (1 : Int32), vi (1 : Int32), vi (1 : Int32), vi v873, un, un, un, un, un]) rfl k_) ?_
  refine own_step (T' := T874) (g' := (mkF m 345 #[vi u1, vi u2, vi u3, vi u4, vi u5, vi u6, vi v3, vi (u2 &&& (2147483647 : Int32)), vi v6, vi v15, vi z20, vi z30, vi v38, vi (u4 &&& (7 : Int32)), va a47, va a386, vi v831, vi (1 : Int32), vi (1 : Int32), vi (1 : Int32), vi v873, un, un, un, un, un] [(.ref a386)])) (fun t_ k_ => XS.aload X877.here hx rfl (hb hby at_343) rfl rfl k_) ?_
  obtain ⟨cqc904, kqc904, qac904, qbc904, qcc904⟩ := isOf hZ e878 F883
  obtain ⟨_, _, ⟨Tc904, Lc904, kc904, nc904⟩, -, Xc904, ⟨Lcc904, hQc904, lc904, yc904, zc904⟩, stc904⟩ := X877.virtualBack hx (y := (⟨"com/example/sedimenta/sedimenta/Postings", "mostBytes", "()I"⟩ : MethodName)) (z := (⟨"com/example/sedimenta/sedimenta/Postings", "mostBytes", "()I"⟩ : MethodName)) hown (mvT hZ (own_w (i := 109) rfl hw)) (mvT hZ (own_w (i := 110) rfl hw)) (notFace_of_selects (args := #[]) (mvT hZ (own_w (i := 112) rfl hw))) (mvT hZ (own_w (i := 112) rfl hw)) (mvT hZ (own_w (i := 111) rfl hw)) (by decide) (backOf (W := 0) (rm_most l Z a0 hw [] a386 v218 v220 v149 v296 h875 n0 F880 F883 F887 F888 F891 F892 (own_cnt I201)) hZ (own_w (i := 113) rfl hw) (own_w (i := 7) rfl hw) (by decide) (by decide)) qac904 qcc904 (g := (mkF m 345 #[vi u1, vi u2, vi u3, vi u4, vi u5, vi u6, vi v3, vi (u2 &&& (2147483647 : Int32)), vi v6, vi v15, vi z20, vi z30, vi v38, vi (u4 &&& (7 : Int32)), va a47, va a386, vi v831, vi (1 : Int32), vi (1 : Int32), vi (1 : Int32), vi v873, un, un, un, un, un] [(.ref a386)])) rfl (by rw [hml]; rfl) (Steps.refl _) (argsL := []) (rest := []) (lenOf pd_10 rfl) rfl (by show 2 * 0 + _ ≤ _; exact Nat.le_of_eq rfl) (hb hby at_345) (fun _ _ => ⟨rfl, e878, (by decide : 12 + 0 ≤ _), (by decide : 216 + 0 ≤ _)⟩)
  dsimp only [Pt.U, Pt.locs, Pt.cells, Pt.slots] at Xc904 lc904 yc904 zc904 stc904 hQc904
  subst lc904 yc904 zc904
  have X905 := Xc904.more (cells' := 12) (slots' := 216) (by decide) (by decide)
  obtain ⟨rfl, N906, e907⟩ := hQc904
  have N908 := Fr.app N879 N906
  obtain ⟨Lo909, X910, N911⟩ : ∃ Lo_, Stand p l e room_1 s m #[(.int u1), (.int u2), (.int u3), (.int u4), (.int u5), (.int u6)] below meth c Tc904 Lo_ 12 216 ∧ Fr n0 Lo_ := ⟨_, X905, N908⟩
  refine own_step (T' := Tc904) (g' := (mkF m 348 #[vi u1, vi u2, vi u3, vi u4, vi u5, vi u6, vi v3, vi (u2 &&& (2147483647 : Int32)), vi v6, vi v15, vi z20, vi z30, vi v38, vi (u4 &&& (7 : Int32)), va a47, va a386, vi v831, vi (1 : Int32), vi (1 : Int32), vi (1 : Int32), vi v873, un, un, un, un, un] [(.int ((((20 : Int32) + v218) - v149) + v296))])) (fun t_ k_ => stc904.trans k_) ?_
  refine own_step (T' := Tc904) (g' := (mkF m 350 #[vi u1, vi u2, vi u3, vi u4, vi u5, vi u6, vi v3, vi (u2 &&& (2147483647 : Int32)), vi v6, vi v15, vi z20, vi z30, vi v38, vi (u4 &&& (7 : Int32)), va a47, va a386, vi v831, vi (1 : Int32), vi (1 : Int32), vi (1 : Int32), vi v873, un, un, un, un, un] [(.int (20 : Int32)), (.int ((((20 : Int32) + v218) - v149) + v296))])) (fun t_ k_ => XT.bipushV X910.here hx rfl (20 : Int32) (hb hby at_348) (by decide) k_) ?_
  refine own_step (T' := Tc904) (g' := (mkF m 352 #[vi u1, vi u2, vi u3, vi u4, vi u5, vi u6, vi v3, vi (u2 &&& (2147483647 : Int32)), vi v6, vi v15, vi z20, vi z30, vi v38, vi (u4 &&& (7 : Int32)), va a47, va a386, vi v831, vi (1 : Int32), vi (1 : Int32), vi (1 : Int32), vi v873, un, un, un, un, un] [(.int v873), (.int (20 : Int32)), (.int ((((20 : Int32) + v218) - v149) + v296))])) (fun t_ k_ => XS.iload X910.here hx rfl (hb hby at_350) rfl k_) ?_
  refine own_step (T' := Tc904) (g' := (mkF m 353 #[vi u1, vi u2, vi u3, vi u4, vi u5, vi u6, vi v3, vi (u2 &&& (2147483647 : Int32)), vi v6, vi v15, vi z20, vi z30, vi v38, vi (u4 &&& (7 : Int32)), va a47, va a386, vi v831, vi (1 : Int32), vi (1 : Int32), vi (1 : Int32), vi v873, un, un, un, un, un] [(.int ((20 : Int32) + v873)), (.int ((((20 : Int32) + v218) - v149) + v296))])) (fun t_ k_ => XS.iadd X910.here hx rfl (hb hby at_352) rfl k_) ?_
  refine own_step (T' := Tc904) (g' := (mkF m 355 #[vi u1, vi u2, vi u3, vi u4, vi u5, vi u6, vi v3, vi (u2 &&& (2147483647 : Int32)), vi v6, vi v15, vi z20, vi z30, vi v38, vi (u4 &&& (7 : Int32)), va a47, va a386, vi v831, vi (1 : Int32), vi (1 : Int32), vi (1 : Int32), vi v873, un, un, un, un, un] [(.int v38), (.int ((20 : Int32) + v873)), (.int ((((20 : Int32) + v218) - v149) + v296))])) (fun t_ k_ => XS.iload X910.here hx rfl (hb hby at_353) rfl k_) ?_
  suffices k913 : ∀ v914 : Int32, v914 = (if v38 = 0 then (0 : Int32) else (u4 &&& (7 : Int32))) → own_Fin p e below s (Q_31 h0 n0) 14 220 Tc904 (mkF m 364 #[vi u1, vi u2, vi u3, vi u4, vi u5, vi u6, vi v3, vi (u2 &&& (2147483647 : Int32)), vi v6, vi v15, vi z20, vi z30, vi v38, vi (u4 &&& (7 : Int32)), va a47, va a386, vi v831, vi (1 : Int32), vi (1 : Int32), vi (1 : Int32), vi v873, un, un, un, un, un] [(.int v914), (.int ((20 : Int32) + v873)), (.int ((((20 : Int32) + v218) - v149) + v296))]) by
    by_cases hb912 : v38 = 0
    · refine own_step (T' := Tc904) (g' := (mkF m 363 #[vi u1, vi u2, vi u3, vi u4, vi u5, vi u6, vi v3, vi (u2 &&& (2147483647 : Int32)), vi v6, vi v15, vi z20, vi z30, vi v38, vi (u4 &&& (7 : Int32)), va a47, va a386, vi v831, vi (1 : Int32), vi (1 : Int32), vi (1 : Int32), vi v873, un, un, un, un, un] [(.int ((20 : Int32) + v873)), (.int ((((20 : Int32) + v218) - v149) + v296))])) (fun t_ k_ => XS.ifYes X910.here hx rfl (pc0 := 355) (pc' := 363) rfl (hb hby at_355) rfl (XT.i0_eq_t hb912) (by decide) (by decide) k_) ?_
      refine own_step (T' := Tc904) (g' := (mkF m 364 #[vi u1, vi u2, vi u3, vi u4, vi u5, vi u6, vi v3, vi (u2 &&& (2147483647 : Int32)), vi v6, vi v15, vi z20, vi z30, vi v38, vi (u4 &&& (7 : Int32)), va a47, va a386, vi v831, vi (1 : Int32), vi (1 : Int32), vi (1 : Int32), vi v873, un, un, un, un, un] [(.int (0 : Int32)), (.int ((20 : Int32) + v873)), (.int ((((20 : Int32) + v218) - v149) + v296))])) (fun t_ k_ => XT.iconstV X910.here hx rfl (0 : Int32) (hb hby at_363) (by decide) k_) ?_
      exact k913 _ (if_pos hb912).symm
    · refine own_step (T' := Tc904) (g' := (mkF m 358 #[vi u1, vi u2, vi u3, vi u4, vi u5, vi u6, vi v3, vi (u2 &&& (2147483647 : Int32)), vi v6, vi v15, vi z20, vi z30, vi v38, vi (u4 &&& (7 : Int32)), va a47, va a386, vi v831, vi (1 : Int32), vi (1 : Int32), vi (1 : Int32), vi v873, un, un, un, un, un] [(.int ((20 : Int32) + v873)), (.int ((((20 : Int32) + v218) - v149) + v296))])) (fun t_ k_ => XS.ifNo X910.here hx rfl (hb hby at_355) rfl (XT.i0_eq_f hb912) k_) ?_
      refine own_step (T' := Tc904) (g' := (mkF m 360 #[vi u1, vi u2, vi u3, vi u4, vi u5, vi u6, vi v3, vi (u2 &&& (2147483647 : Int32)), vi v6, vi v15, vi z20, vi z30, vi v38, vi (u4 &&& (7 : Int32)), va a47, va a386, vi v831, vi (1 : Int32), vi (1 : Int32), vi (1 : Int32), vi v873, un, un, un, un, un] [(.int (u4 &&& (7 : Int32))), (.int ((20 : Int32) + v873)), (.int ((((20 : Int32) + v218) - v149) + v296))])) (fun t_ k_ => XS.iload X910.here hx rfl (hb hby at_358) rfl k_) ?_
      refine own_step (T' := Tc904) (g' := (mkF m 364 #[vi u1, vi u2, vi u3, vi u4, vi u5, vi u6, vi v3, vi (u2 &&& (2147483647 : Int32)), vi v6, vi v15, vi z20, vi z30, vi v38, vi (u4 &&& (7 : Int32)), va a47, va a386, vi v831, vi (1 : Int32), vi (1 : Int32), vi (1 : Int32), vi v873, un, un, un, un, un] [(.int (u4 &&& (7 : Int32))), (.int ((20 : Int32) + v873)), (.int ((((20 : Int32) + v218) - v149) + v296))])) (fun t_ k_ => XS.goto X910.here hx rfl (pc0 := 360) (pc' := 364) rfl (hb hby at_360) (by decide) (by decide) k_) ?_
      exact k913 _ (if_neg hb912).symm
  intro v914 hv914
  refine own_step (T' := Tc904) (g' := (mkF m 365 #[vi u1, vi u2, vi u3, vi u4, vi u5, vi u6, vi v3, vi (u2 &&& (2147483647 : Int32)), vi v6, vi v15, vi z20, vi z30, vi v38, vi (u4 &&& (7 : Int32)), va a47, va a386, vi v831, vi (1 : Int32), vi (1 : Int32), vi (1 : Int32), vi v873, un, un, un, un, un] [(.int (((20 : Int32) + v873) + v914)), (.int ((((20 : Int32) + v218) - v149) + v296))])) (fun t_ k_ => XS.iadd X910.here hx rfl (hb hby at_364) rfl k_) ?_
  have hk915 : ((((20 : Int32) + v218) - v149) + v296) = (((20 : Int32) + v873) + v914) := (own_fin4 hB0 I201 I275 hv873 hv914)
  refine own_step (T' := Tc904) (g' := (mkF m 368 #[vi u1, vi u2, vi u3, vi u4, vi u5, vi u6, vi v3, vi (u2 &&& (2147483647 : Int32)), vi v6, vi v15, vi z20, vi z30, vi v38, vi (u4 &&& (7 : Int32)), va a47, va a386, vi v831, vi (1 : Int32), vi (1 : Int32), vi (1 : Int32), vi v873, un, un, un, un, un] [])) (fun t_ k_ => XS.icmpNo X910.here hx rfl (hb hby at_365) rfl (XT.ii_ne_f hk915) k_) ?_
  refine own_step (T' := Tc904) (g' := (mkF m 369 #[vi u1, vi u2, vi u3, vi u4, vi u5, vi u6, vi v3, vi (u2 &&& (2147483647 : Int32)), vi v6, vi v15, vi z20, vi z30, vi v38, vi (u4 &&& (7 : Int32)), va a47, va a386, vi v831, vi (1 : Int32), vi (1 : Int32), vi (1 : Int32), vi v873, un, un, un, un, un] [(.int (1 : Int32))])) (fun t_ k_ => XT.iconstV X910.here hx rfl (1 : Int32) (hb hby at_368) (by decide) k_) ?_
  refine own_step (T' := Tc904) (g' := (mkF m 373 #[vi u1, vi u2, vi u3, vi u4, vi u5, vi u6, vi v3, vi (u2 &&& (2147483647 : Int32)), vi v6, vi v15, vi z20, vi z30, vi v38, vi (u4 &&& (7 : Int32)), va a47, va a386, vi v831, vi (1 : Int32), vi (1 : Int32), vi (1 : Int32), vi v873, un, un, un, un, un] [(.int (1 : Int32))])) (fun t_ k_ => XS.goto X910.here hx rfl (pc0 := 369) (pc' := 373) rfl (hb hby at_369) (by decide) (by decide) k_) ?_
  refine own_step (T' := Tc904) (g' := (mkF m 375 #[vi u1, vi u2, vi u3, vi u4, vi u5, vi u6, vi v3, vi (u2 &&& (2147483647 : Int32)), vi v6, vi v15, vi z20, vi z30, vi v38, vi (u4 &&& (7 : Int32)), va a47, va a386, vi v831, vi (1 : Int32), vi (1 : Int32), vi (1 : Int32), vi v873, vi (1 : Int32), un, un, un, un] [])) (fun t_ k_ => XS.istore X910.here hx rfl (hb hby at_373) rfl (l' := #[vi u1, vi u2, vi u3, vi u4, vi u5, vi u6, vi v3, vi (u2 &&& (2147483647 : Int32)), vi v6, vi v15, vi z20, vi z30, vi v38, vi (u4 &&& (7 : Int32)), va a47, va a386, vi v831, vi (1 : Int32), vi (1 : Int32), vi (1 : Int32), vi v873, vi (1 : Int32), un, un, un, un]) rfl k_) ?_
  refine own_step (T' := Tc904) (g' := (mkF m 376 #[vi u1, vi u2, vi u3, vi u4, vi u5, vi u6, vi v3, vi (u2 &&& (2147483647 : Int32)), vi v6, vi v15, vi z20, vi z30, vi v38, vi (u4 &&& (7 : Int32)), va a47, va a386, vi v831, vi (1 : Int32), vi (1 : Int32), vi (1 : Int32), vi v873, vi (1 : Int32), un, un, un, un] [(.int (2 : Int32))])) (fun t_ k_ => XT.iconstV X910.here hx rfl (2 : Int32) (hb hby at_375) (by decide) k_) ?_
  obtain ⟨T916, h917, cA918, X919, e920, E921, A922, st923⟩ := newP X910 hx hZ (own_w (i := 25) rfl hw) e907 (g := (mkF m 376 #[vi u1, vi u2, vi u3, vi u4, vi u5, vi u6, vi v3, vi (u2 &&& (2147483647 : Int32)), vi v6, vi v15, vi z20, vi z30, vi v38, vi (u4 &&& (7 : Int32)), va a47, va a386, vi v831, vi (1 : Int32), vi (1 : Int32), vi (1 : Int32), vi v873, vi (1 : Int32), un, un, un, un] [(.int (2 : Int32))])) rfl (hb hby at_376) rfl (by decide) (cap := 2) (by decide) (by decide) (by decide) (by decide)
  obtain ⟨a924, g925⟩ : ∃ z, z = h875.size := ⟨_, rfl⟩
  rw [← g925] at A922 st923
  have q926 : n0 ≤ a924 := Nat.le_trans F880 (Nat.le_of_eq g925.symm)
  have ne927 : o74 ≠ a924 := Nat.ne_of_lt (Nat.lt_of_lt_of_le F882.lt (Nat.le_of_eq g925.symm))
  have ne928 : a386 ≠ a924 := Nat.ne_of_lt (Nat.lt_of_lt_of_le F883.lt (Nat.le_of_eq g925.symm))
  have F929 := Nat.le_trans F880 E921.1
  have F930 := F881.ext E921
  have F931 := F882.ext E921
  have F932 := F883.ext E921
  have F933 := F884.ext E921
  have F934 := F885.ext E921
  have F935 := F886.ext E921
  have F936 := F887.ext E921
  have F937 := F888.ext E921
  have F938 := F889.ext E921
  have F939 := F890.ext E921
  have F940 := F891.ext E921
  have F941 := F892.ext E921
  have F942 := F893.ext E921
  have F943 := F894.ext E921
  have F944 := F895.ext E921
  have V945 : own_Arl Z h917 a924 .int [(.int (0 : Int32)), (.int (0 : Int32))] := own_Arl.of_new A922 (i := 2) (by decide)
  have V946 : Arv Z h917 a924 cA918 .int (2 : Int32) [] (.int (0 : Int32)) := Arv.new A922 (by decide)
  refine own_step (T' := T916) (g' := (mkF m 378 #[vi u1, vi u2, vi u3, vi u4, vi u5, vi u6, vi v3, vi (u2 &&& (2147483647 : Int32)), vi v6, vi v15, vi z20, vi z30, vi v38, vi (u4 &&& (7 : Int32)), va a47, va a386, vi v831, vi (1 : Int32), vi (1 : Int32), vi (1 : Int32), vi v873, vi (1 : Int32), un, un, un, un] [(.ref a924)])) st923 ?_
  refine own_step (T' := T916) (g' := (mkF m 380 #[vi u1, vi u2, vi u3, vi u4, vi u5, vi u6, vi v3, vi (u2 &&& (2147483647 : Int32)), vi v6, vi v15, vi z20, vi z30, vi v38, vi (u4 &&& (7 : Int32)), va a47, va a386, vi v831, vi (1 : Int32), vi (1 : Int32), vi (1 : Int32), vi v873, vi (1 : Int32), va a924, un, un, un] [])) (fun t_ k_ => XS.astore X919.here hx rfl (hb hby at_378) rfl rfl (l' := #[vi u1, vi u2, vi u3, vi u4, vi u5, vi u6, vi v3, vi (u2 &&& (2147483647 : Int32)), vi v6, vi v15, vi z20, vi z30, vi v38, vi (u4 &&& (7 : Int32)), va a47, va a386, vi v831, vi (1 : Int32), vi (1 : Int32), vi (1 : Int32), vi v873, vi (1 : Int32), va a924, un, un, un]) rfl k_) ?_
  refine own_step (T' := T916) (g' := (mkF m 381 #[vi u1, vi u2, vi u3, vi u4, vi u5, vi u6, vi v3, vi (u2 &&& (2147483647 : Int32)), vi v6, vi v15, vi z20, vi z30, vi v38, vi (u4 &&& (7 : Int32)), va a47, va a386, vi v831, vi (1 : Int32), vi (1 : Int32), vi (1 : Int32), vi v873, vi (1 : Int32), va a924, un, un, un] [(.int (2 : Int32))])) (fun t_ k_ => XT.iconstV X919.here hx rfl (2 : Int32) (hb hby at_380) (by decide) k_) ?_
  obtain ⟨T947, h948, cA949, X950, e951, E952, A953, st954⟩ := newP X919 hx hZ (own_w (i := 25) rfl hw) e920 (g := (mkF m 381 #[vi u1, vi u2, vi u3, vi u4, vi u5, vi u6, vi v3, vi (u2 &&& (2147483647 : Int32)), vi v6, vi v15, vi z20, vi z30, vi v38, vi (u4 &&& (7 : Int32)), va a47, va a386, vi v831, vi (1 : Int32), vi (1 : Int32), vi (1 : Int32), vi v873, vi (1 : Int32), va a924, un, un, un] [(.int (2 : Int32))])) rfl (hb hby at_381) rfl (by decide) (cap := 2) (by decide) (by decide) (by decide) (by decide)
  obtain ⟨a955, g956⟩ : ∃ z, z = h917.size := ⟨_, rfl⟩
  rw [← g956] at A953 st954
  have q957 : n0 ≤ a955 := Nat.le_trans F929 (Nat.le_of_eq g956.symm)
  have ne958 : o74 ≠ a955 := Nat.ne_of_lt (Nat.lt_of_lt_of_le F931.lt (Nat.le_of_eq g956.symm))
  have ne959 : a386 ≠ a955 := Nat.ne_of_lt (Nat.lt_of_lt_of_le F932.lt (Nat.le_of_eq g956.symm))
  have ne960 : a924 ≠ a955 := Nat.ne_of_lt (Nat.lt_of_lt_of_le V945.lt (Nat.le_of_eq g956.symm))
  have F961 := Nat.le_trans F929 E952.1
  have F962 := F930.ext E952
  have F963 := F931.ext E952
  have F964 := F932.ext E952
  have F965 := F933.ext E952
  have F966 := F934.ext E952
  have F967 := F935.ext E952
  have F968 := F936.ext E952
  have F969 := F937.ext E952
  have F970 := F938.ext E952
  have F971 := F939.ext E952
  have F972 := F940.ext E952
  have F973 := F941.ext E952
  have F974 := F942.ext E952
  have F975 := F943.ext E952
  have F976 := F944.ext E952
  have F977 := V945.ext E952
  have F978 := V946.ext E952
  have V979 : own_Arl Z h948 a955 .int [(.int (0 : Int32)), (.int (0 : Int32))] := own_Arl.of_new A953 (i := 2) (by decide)
  have V980 : Arv Z h948 a955 cA949 .int (2 : Int32) [] (.int (0 : Int32)) := Arv.new A953 (by decide)
  refine own_step (T' := T947) (g' := (mkF m 383 #[vi u1, vi u2, vi u3, vi u4, vi u5, vi u6, vi v3, vi (u2 &&& (2147483647 : Int32)), vi v6, vi v15, vi z20, vi z30, vi v38, vi (u4 &&& (7 : Int32)), va a47, va a386, vi v831, vi (1 : Int32), vi (1 : Int32), vi (1 : Int32), vi v873, vi (1 : Int32), va a924, un, un, un] [(.ref a955)])) st954 ?_
  refine own_step (T' := T947) (g' := (mkF m 385 #[vi u1, vi u2, vi u3, vi u4, vi u5, vi u6, vi v3, vi (u2 &&& (2147483647 : Int32)), vi v6, vi v15, vi z20, vi z30, vi v38, vi (u4 &&& (7 : Int32)), va a47, va a386, vi v831, vi (1 : Int32), vi (1 : Int32), vi (1 : Int32), vi v873, vi (1 : Int32), va a924, va a955, un, un] [])) (fun t_ k_ => XS.astore X950.here hx rfl (hb hby at_383) rfl rfl (l' := #[vi u1, vi u2, vi u3, vi u4, vi u5, vi u6, vi v3, vi (u2 &&& (2147483647 : Int32)), vi v6, vi v15, vi z20, vi z30, vi v38, vi (u4 &&& (7 : Int32)), va a47, va a386, vi v831, vi (1 : Int32), vi (1 : Int32), vi (1 : Int32), vi v873, vi (1 : Int32), va a924, va a955, un, un]) rfl k_) ?_
  have Sz981 : Sta Z h948 "com/example/sedimenta/sedimenta/Postings" "NONE_DELETED" "Ljava/util/BitSet;" (.ref bs) := S0.ext F962.2
  have Ez982 : Exa Z h948 bs "java/util/BitSet" := EB0.ext F962.2
  have Fz983 : Fld Z h948 bs "java/util/BitSet" "wordsInUse" "I" (.int (0 : Int32)) := FB0.ext F962.2
  have Sz984 : Sta Z h948 "java/util/BitSet" "$assertionsDisabled" "Z" (.int (1 : Int32)) := SA0.ext F962.2
  have ne985 : bs ≠ a924 := Old.ne F962 EB0.lt q926
  have ne986 : bs ≠ a955 := Old.ne F962 EB0.lt q957
  refine own_step (T' := T947) (g' := (mkF m 387 #[vi u1, vi u2, vi u3, vi u4, vi u5, vi u6, vi v3, vi (u2 &&& (2147483647 : Int32)), vi v6, vi v15, vi z20, vi z30, vi v38, vi (u4 &&& (7 : Int32)), va a47, va a386, vi v831, vi (1 : Int32), vi (1 : Int32), vi (1 : Int32), vi v873, vi (1 : Int32), va a924, va a955, un, un] [(.ref a386)])) (fun t_ k_ => XS.aload X950.here hx rfl (hb hby at_385) rfl rfl k_) ?_
  obtain ⟨T987, X988, e989, st990⟩ := getS2 (host := "") X950 hx hZ hown (Or.inl (own_w (i := 124) rfl hw)) Via.refl e951 Sz981 (g := (mkF m 387 #[vi u1, vi u2, vi u3, vi u4, vi u5, vi u6, vi v3, vi (u2 &&& (2147483647 : Int32)), vi v6, vi v15, vi z20, vi z30, vi v38, vi (u4 &&& (7 : Int32)), va a47, va a386, vi v831, vi (1 : Int32), vi (1 : Int32), vi (1 : Int32), vi v873, vi (1 : Int32), va a924, va a955, un, un] [(.ref a386)])) rfl (hb hby at_387)
  refine own_step (T' := T987) (g' := (mkF m 390 #[vi u1, vi u2, vi u3, vi u4, vi u5, vi u6, vi v3, vi (u2 &&& (2147483647 : Int32)), vi v6, vi v15, vi z20, vi z30, vi v38, vi (u4 &&& (7 : Int32)), va a47, va a386, vi v831, vi (1 : Int32), vi (1 : Int32), vi (1 : Int32), vi v873, vi (1 : Int32), va a924, va a955, un, un] [(.ref bs), (.ref a386)])) st990 ?_
  refine own_step (T' := T987) (g' := (mkF m 392 #[vi u1, vi u2, vi u3, vi u4, vi u5, vi u6, vi v3, vi (u2 &&& (2147483647 : Int32)), vi v6, vi v15, vi z20, vi z30, vi v38, vi (u4 &&& (7 : Int32)), va a47, va a386, vi v831, vi (1 : Int32), vi (1 : Int32), vi (1 : Int32), vi v873, vi (1 : Int32), va a924, va a955, un, un] [(.ref a924), (.ref bs), (.ref a386)])) (fun t_ k_ => XS.aload X988.here hx rfl (hb hby at_390) rfl rfl k_) ?_
  refine own_step (T' := T987) (g' := (mkF m 394 #[vi u1, vi u2, vi u3, vi u4, vi u5, vi u6, vi v3, vi (u2 &&& (2147483647 : Int32)), vi v6, vi v15, vi z20, vi z30, vi v38, vi (u4 &&& (7 : Int32)), va a47, va a386, vi v831, vi (1 : Int32), vi (1 : Int32), vi (1 : Int32), vi v873, vi (1 : Int32), va a924, va a955, un, un] [(.ref a955), (.ref a924), (.ref bs), (.ref a386)])) (fun t_ k_ => XS.aload X988.here hx rfl (hb hby at_392) rfl rfl k_) ?_
  obtain ⟨cqc991, kqc991, qac991, qbc991, qcc991⟩ := isOf hZ e989 F964
  obtain ⟨_, _, ⟨Tc991, Lc991, kc991, nc991⟩, -, Xc991, ⟨Lcc991, hQc991, lc991, yc991, zc991⟩, stc991⟩ := X988.virtualBack hx (y := (⟨"com/example/sedimenta/sedimenta/Postings", "decode", "(Ljava/util/BitSet;[I[I)I"⟩ : MethodName)) (z := (⟨"com/example/sedimenta/sedimenta/Postings", "decode", "(Ljava/util/BitSet;[I[I)I"⟩ : MethodName)) hown (mvT hZ (own_w (i := 126) rfl hw)) (mvT hZ (own_w (i := 127) rfl hw)) (notFace_of_selects (args := #[]) (mvT hZ (own_w (i := 129) rfl hw))) (mvT hZ (own_w (i := 129) rfl hw)) (mvT hZ (own_w (i := 128) rfl hw)) (by decide) (backOf (W := 0) (rm_dec l Z a0 hw [] a386 bs a924 a955 o74 (nar .boolean (nar .boolean (1 : Int32))) v220 v145 v147 v149 v206 v15 z30 h948 n0 F961 F965 F967 F969 F970 F971 F972 F975 F963 F977 V979 Ez982 Fz983 Sz984 q926 q957 ne928 ne959 ne927 ne958 ne985 ne986 ne960 (own_dec_of hB0 I201) F964 (by decide)) hZ (own_w (i := 130) rfl hw) (own_w (i := 7) rfl hw) (by decide) (by decide)) qac991 qcc991 (g := (mkF m 394 #[vi u1, vi u2, vi u3, vi u4, vi u5, vi u6, vi v3, vi (u2 &&& (2147483647 : Int32)), vi v6, vi v15, vi z20, vi z30, vi v38, vi (u4 &&& (7 : Int32)), va a47, va a386, vi v831, vi (1 : Int32), vi (1 : Int32), vi (1 : Int32), vi v873, vi (1 : Int32), va a924, va a955, un, un] [(.ref a955), (.ref a924), (.ref bs), (.ref a386)])) rfl (by rw [hml]; rfl) (Steps.refl _) (argsL := [(.ref bs), (.ref a924), (.ref a955)]) (rest := []) (lenOf pd_14 rfl) rfl (by show 2 * 0 + _ ≤ _; exact Nat.le_of_eq rfl) (hb hby at_394) (fun _ _ => ⟨rfl, e989, (by decide : 14 + 0 ≤ _), (by decide : 220 + 0 ≤ _)⟩)
  dsimp only [Pt.U, Pt.locs, Pt.cells, Pt.slots] at Xc991 lc991 yc991 zc991 stc991 hQc991
  subst lc991 yc991 zc991
  have X992 := Xc991.more (cells' := 14) (slots' := 220) (by decide) (by decide)
  obtain ⟨x993, x994, y995, y996, rfl, N997, K998, V999, V1000, H1001⟩ := hQc991
  have N1002 := Fr.app N911 N997
  have F1003 := Nat.le_trans F961 K998.1
  obtain ⟨Lo1004, X1005, N1006⟩ : ∃ Lo_, Stand p l e room_1 s m #[(.int u1), (.int u2), (.int u3), (.int u4), (.int u5), (.int u6)] below meth c Tc991 Lo_ 14 220 ∧ Fr n0 Lo_ := ⟨_, X992, N1002⟩
  refine own_step (T' := Tc991) (g' := (mkF m 397 #[vi u1, vi u2, vi u3, vi u4, vi u5, vi u6, vi v3, vi (u2 &&& (2147483647 : Int32)), vi v6, vi v15, vi z20, vi z30, vi v38, vi (u4 &&& (7 : Int32)), va a47, va a386, vi v831, vi (1 : Int32), vi (1 : Int32), vi (1 : Int32), vi v873, vi (1 : Int32), va a924, va a955, un, un] [(.int v220)])) (fun t_ k_ => stc991.trans k_) ?_
  refine own_step (T' := Tc991) (g' := (mkF m 399 #[vi u1, vi u2, vi u3, vi u4, vi u5, vi u6, vi v3, vi (u2 &&& (2147483647 : Int32)), vi v6, vi v15, vi z20, vi z30, vi v38, vi (u4 &&& (7 : Int32)), va a47, va a386, vi v831, vi (1 : Int32), vi (1 : Int32), vi (1 : Int32), vi v873, vi (1 : Int32), va a924, va a955, vi v220, un] [])) (fun t_ k_ => XS.istore X1005.here hx rfl (hb hby at_397) rfl (l' := #[vi u1, vi u2, vi u3, vi u4, vi u5, vi u6, vi v3, vi (u2 &&& (2147483647 : Int32)), vi v6, vi v15, vi z20, vi z30, vi v38, vi (u4 &&& (7 : Int32)), va a47, va a386, vi v831, vi (1 : Int32), vi (1 : Int32), vi (1 : Int32), vi v873, vi (1 : Int32), va a924, va a955, vi v220, un]) rfl k_) ?_
  refine own_step (T' := Tc991) (g' := (mkF m 401 #[vi u1, vi u2, vi u3, vi u4, vi u5, vi u6, vi v3, vi (u2 &&& (2147483647 : Int32)), vi v6, vi v15, vi z20, vi z30, vi v38, vi (u4 &&& (7 : Int32)), va a47, va a386, vi v831, vi (1 : Int32), vi (1 : Int32), vi (1 : Int32), vi v873, vi (1 : Int32), va a924, va a955, vi v220, un] [(.int v220)])) (fun t_ k_ => XS.iload X1005.here hx rfl (hb hby at_399) rfl k_) ?_
  refine own_step (T' := Tc991) (g' := (mkF m 403 #[vi u1, vi u2, vi u3, vi u4, vi u5, vi u6, vi v3, vi (u2 &&& (2147483647 : Int32)), vi v6, vi v15, vi z20, vi z30, vi v38, vi (u4 &&& (7 : Int32)), va a47, va a386, vi v831, vi (1 : Int32), vi (1 : Int32), vi (1 : Int32), vi v873, vi (1 : Int32), va a924, va a955, vi v220, un] [(.int v831), (.int v220)])) (fun t_ k_ => XS.iload X1005.here hx rfl (hb hby at_401) rfl k_) ?_
  have hk1007 : v220 = v831 := (own_fin5 I201 hv831)
  refine own_step (T' := Tc991) (g' := (mkF m 406 #[vi u1, vi u2, vi u3, vi u4, vi u5, vi u6, vi v3, vi (u2 &&& (2147483647 : Int32)), vi v6, vi v15, vi z20, vi z30, vi v38, vi (u4 &&& (7 : Int32)), va a47, va a386, vi v831, vi (1 : Int32), vi (1 : Int32), vi (1 : Int32), vi v873, vi (1 : Int32), va a924, va a955, vi v220, un] [])) (fun t_ k_ => XS.icmpNo X1005.here hx rfl (hb hby at_403) rfl (XT.ii_ne_f hk1007) k_) ?_
  refine own_step (T' := Tc991) (g' := (mkF m 408 #[vi u1, vi u2, vi u3, vi u4, vi u5, vi u6, vi v3, vi (u2 &&& (2147483647 : Int32)), vi v6, vi v15, vi z20, vi z30, vi v38, vi (u4 &&& (7 : Int32)), va a47, va a386, vi v831, vi (1 : Int32), vi (1 : Int32), vi (1 : Int32), vi v873, vi (1 : Int32), va a924, va a955, vi v220, un] [(.ref a924)])) (fun t_ k_ => XS.aload X1005.here hx rfl (hb hby at_406) rfl rfl k_) ?_
  refine own_step (T' := Tc991) (g' := (mkF m 409 #[vi u1, vi u2, vi u3, vi u4, vi u5, vi u6, vi v3, vi (u2 &&& (2147483647 : Int32)), vi v6, vi v15, vi z20, vi z30, vi v38, vi (u4 &&& (7 : Int32)), va a47, va a386, vi v831, vi (1 : Int32), vi (1 : Int32), vi (1 : Int32), vi v873, vi (1 : Int32), va a924, va a955, vi v220, un] [(.int (0 : Int32)), (.ref a924)])) (fun t_ k_ => XT.iconstV X1005.here hx rfl (0 : Int32) (hb hby at_408) (by decide) k_) ?_
  have st1008 := own_iaload (g := (mkF m 409 #[vi u1, vi u2, vi u3, vi u4, vi u5, vi u6, vi v3, vi (u2 &&& (2147483647 : Int32)), vi v6, vi v15, vi z20, vi z30, vi v38, vi (u4 &&& (7 : Int32)), va a47, va a386, vi v831, vi (1 : Int32), vi (1 : Int32), vi (1 : Int32), vi v873, vi (1 : Int32), va a924, va a955, vi v220, un] [(.int (0 : Int32)), (.ref a924)])) X1005 hx hZ rfl V999 (v := (.int x993)) (by decide) (own_ix (k := 0) (by decide) rfl) rfl rfl (hb hby at_409)
  refine own_step (T' := Tc991) (g' := (mkF m 410 #[vi u1, vi u2, vi u3, vi u4, vi u5, vi u6, vi v3, vi (u2 &&& (2147483647 : Int32)), vi v6, vi v15, vi z20, vi z30, vi v38, vi (u4 &&& (7 : Int32)), va a47, va a386, vi v831, vi (1 : Int32), vi (1 : Int32), vi (1 : Int32), vi v873, vi (1 : Int32), va a924, va a955, vi v220, un] [(.int x993)])) st1008 ?_
  refine own_step (T' := Tc991) (g' := (mkF m 412 #[vi u1, vi u2, vi u3, vi u4, vi u5, vi u6, vi v3, vi (u2 &&& (2147483647 : Int32)), vi v6, vi v15, vi z20, vi z30, vi v38, vi (u4 &&& (7 : Int32)), va a47, va a386, vi v831, vi (1 : Int32), vi (1 : Int32), vi (1 : Int32), vi v873, vi (1 : Int32), va a924, va a955, vi v220, un] [(.int v3), (.int x993)])) (fun t_ k_ => XS.iload X1005.here hx rfl (hb hby at_410) rfl k_) ?_
  suffices k1010 : ∀ v1011 : Int32, v1011 = (if v3 = 0 then (0 : Int32) else (u2 &&& (2147483647 : Int32))) → own_Fin p e below s (Q_31 h0 n0) 14 220 Tc991 (mkF m 421 #[vi u1, vi u2, vi u3, vi u4, vi u5, vi u6, vi v3, vi (u2 &&& (2147483647 : Int32)), vi v6, vi v15, vi z20, vi z30, vi v38, vi (u4 &&& (7 : Int32)), va a47, va a386, vi v831, vi (1 : Int32), vi (1 : Int32), vi (1 : Int32), vi v873, vi (1 : Int32), va a924, va a955, vi v220, un] [(.int v1011), (.int x993)]) by
    by_cases hb1009 : v3 = 0
    · refine own_step (T' := Tc991) (g' := (mkF m 420 #[vi u1, vi u2, vi u3, vi u4, vi u5, vi u6, vi v3, vi (u2 &&& (2147483647 : Int32)), vi v6, vi v15, vi z20, vi z30, vi v38, vi (u4 &&& (7 : Int32)), va a47, va a386, vi v831, vi (1 : Int32), vi (1 : Int32), vi (1 : Int32), vi v873, vi (1 : Int32), va a924, va a955, vi v220, un] [(.int x993)])) (fun t_ k_ => XS.ifYes X1005.here hx rfl (pc0 := 412) (pc' := 420) rfl (hb hby at_412) rfl (XT.i0_eq_t hb1009) (by decide) (by decide) k_) ?_
      refine own_step (T' := Tc991) (g' := (mkF m 421 #[vi u1, vi u2, vi u3, vi u4, vi u5, vi u6, vi v3, vi (u2 &&& (2147483647 : Int32)), vi v6, vi v15, vi z20, vi z30, vi v38, vi (u4 &&& (7 : Int32)), va a47, va a386, vi v831, vi (1 : Int32), vi (1 : Int32), vi (1 : Int32), vi v873, vi (1 : Int32), va a924, va a955, vi v220, un] [(.int (0 : Int32)), (.int x993)])) (fun t_ k_ => XT.iconstV X1005.here hx rfl (0 : Int32) (hb hby at_420) (by decide) k_) ?_
      exact k1010 _ (if_pos hb1009).symm
    · refine own_step (T' := Tc991) (g' := (mkF m 415 #[vi u1, vi u2, vi u3, vi u4, vi u5, vi u6, vi v3, vi (u2 &&& (2147483647 : Int32)), vi v6, vi v15, vi z20, vi z30, vi v38, vi (u4 &&& (7 : Int32)), va a47, va a386, vi v831, vi (1 : Int32), vi (1 : Int32), vi (1 : Int32), vi v873, vi (1 : Int32), va a924, va a955, vi v220, un] [(.int x993)])) (fun t_ k_ => XS.ifNo X1005.here hx rfl (hb hby at_412) rfl (XT.i0_eq_f hb1009) k_) ?_
      refine own_step (T' := Tc991) (g' := (mkF m 417 #[vi u1, vi u2, vi u3, vi u4, vi u5, vi u6, vi v3, vi (u2 &&& (2147483647 : Int32)), vi v6, vi v15, vi z20, vi z30, vi v38, vi (u4 &&& (7 : Int32)), va a47, va a386, vi v831, vi (1 : Int32), vi (1 : Int32), vi (1 : Int32), vi v873, vi (1 : Int32), va a924, va a955, vi v220, un] [(.int (u2 &&& (2147483647 : Int32))), (.int x993)])) (fun t_ k_ => XS.iload X1005.here hx rfl (hb hby at_415) rfl k_) ?_
      refine own_step (T' := Tc991) (g' := (mkF m 421 #[vi u1, vi u2, vi u3, vi u4, vi u5, vi u6, vi v3, vi (u2 &&& (2147483647 : Int32)), vi v6, vi v15, vi z20, vi z30, vi v38, vi (u4 &&& (7 : Int32)), va a47, va a386, vi v831, vi (1 : Int32), vi (1 : Int32), vi (1 : Int32), vi v873, vi (1 : Int32), va a924, va a955, vi v220, un] [(.int (u2 &&& (2147483647 : Int32))), (.int x993)])) (fun t_ k_ => XS.goto X1005.here hx rfl (pc0 := 417) (pc' := 421) rfl (hb hby at_417) (by decide) (by decide) k_) ?_
      exact k1010 _ (if_neg hb1009).symm
  intro v1011 hv1011
  have hk1012 : x993 = v1011 := ((own_fin6 I201 H1001).1.trans hv1011.symm)
  refine own_step (T' := Tc991) (g' := (mkF m 424 #[vi u1, vi u2, vi u3, vi u4, vi u5, vi u6, vi v3, vi (u2 &&& (2147483647 : Int32)), vi v6, vi v15, vi z20, vi z30, vi v38, vi (u4 &&& (7 : Int32)), va a47, va a386, vi v831, vi (1 : Int32), vi (1 : Int32), vi (1 : Int32), vi v873, vi (1 : Int32), va a924, va a955, vi v220, un] [])) (fun t_ k_ => XS.icmpNo X1005.here hx rfl (hb hby at_421) rfl (XT.ii_ne_f hk1012) k_) ?_
  refine own_step (T' := Tc991) (g' := (mkF m 426 #[vi u1, vi u2, vi u3, vi u4, vi u5, vi u6, vi v3, vi (u2 &&& (2147483647 : Int32)), vi v6, vi v15, vi z20, vi z30, vi v38, vi (u4 &&& (7 : Int32)), va a47, va a386, vi v831, vi (1 : Int32), vi (1 : Int32), vi (1 : Int32), vi v873, vi (1 : Int32), va a924, va a955, vi v220, un] [(.ref a924)])) (fun t_ k_ => XS.aload X1005.here hx rfl (hb hby at_424) rfl rfl k_) ?_
  refine own_step (T' := Tc991) (g' := (mkF m 427 #[vi u1, vi u2, vi u3, vi u4, vi u5, vi u6, vi v3, vi (u2 &&& (2147483647 : Int32)), vi v6, vi v15, vi z20, vi z30, vi v38, vi (u4 &&& (7 : Int32)), va a47, va a386, vi v831, vi (1 : Int32), vi (1 : Int32), vi (1 : Int32), vi v873, vi (1 : Int32), va a924, va a955, vi v220, un] [(.int (1 : Int32)), (.ref a924)])) (fun t_ k_ => XT.iconstV X1005.here hx rfl (1 : Int32) (hb hby at_426) (by decide) k_) ?_
  have st1013 := own_iaload (g := (mkF m 427 #[vi u1, vi u2, vi u3, vi u4, vi u5, vi u6, vi v3, vi (u2 &&& (2147483647 : Int32)), vi v6, vi v15, vi z20, vi z30, vi v38, vi (u4 &&& (7 : Int32)), va a47, va a386, vi v831, vi (1 : Int32), vi (1 : Int32), vi (1 : Int32), vi v873, vi (1 : Int32), va a924, va a955, vi v220, un] [(.int (1 : Int32)), (.ref a924)])) X1005 hx hZ rfl V999 (v := (.int x994)) (by decide) (own_ix (k := 1) (by decide) rfl) rfl rfl (hb hby at_427)
  refine own_step (T' := Tc991) (g' := (mkF m 428 #[vi u1, vi u2, vi u3, vi u4, vi u5, vi u6, vi v3, vi (u2 &&& (2147483647 : Int32)), vi v6, vi v15, vi z20, vi z30, vi v38, vi (u4 &&& (7 : Int32)), va a47, va a386, vi v831, vi (1 : Int32), vi (1 : Int32), vi (1 : Int32), vi v873, vi (1 : Int32), va a924, va a955, vi v220, un] [(.int x994)])) st1013 ?_
  refine own_step (T' := Tc991) (g' := (mkF m 430 #[vi u1, vi u2, vi u3, vi u4, vi u5, vi u6, vi v3, vi (u2 &&& (2147483647 : Int32)), vi v6, vi v15, vi z20, vi z30, vi v38, vi (u4 &&& (7 : Int32)), va a47, va a386, vi v831, vi (1 : Int32), vi (1 : Int32), vi (1 : Int32), vi v873, vi (1 : Int32), va a924, va a955, vi v220, un] [(.int v6), (.int x994)])) (fun t_ k_ => XS.iload X1005.here hx rfl (hb hby at_428) rfl k_) ?_
  suffices k1015 : ∀ v1016 : Int32, v1016 = (if v6 = 0 then (0 : Int32) else v15) → own_Fin p e below s (Q_31 h0 n0) 14 220 Tc991 (mkF m 439 #[vi u1, vi u2, vi u3, vi u4, vi u5, vi u6, vi v3, vi (u2 &&& (2147483647 : Int32)), vi v6, vi v15, vi z20, vi z30, vi v38, vi (u4 &&& (7 : Int32)), va a47, va a386, vi v831, vi (1 : Int32), vi (1 : Int32), vi (1 : Int32), vi v873, vi (1 : Int32), va a924, va a955, vi v220, un] [(.int v1016), (.int x994)]) by
    by_cases hb1014 : v6 = 0
    · refine own_step (T' := Tc991) (g' := (mkF m 438 #[vi u1, vi u2, vi u3, vi u4, vi u5, vi u6, vi v3, vi (u2 &&& (2147483647 : Int32)), vi v6, vi v15, vi z20, vi z30, vi v38, vi (u4 &&& (7 : Int32)), va a47, va a386, vi v831, vi (1 : Int32), vi (1 : Int32), vi (1 : Int32), vi v873, vi (1 : Int32), va a924, va a955, vi v220, un] [(.int x994)])) (fun t_ k_ => XS.ifYes X1005.here hx rfl (pc0 := 430) (pc' := 438) rfl (hb hby at_430) rfl (XT.i0_eq_t hb1014) (by decide) (by decide) k_) ?_
      refine own_step (T' := Tc991) (g' := (mkF m 439 #[vi u1, vi u2, vi u3, vi u4, vi u5, vi u6, vi v3, vi (u2 &&& (2147483647 : Int32)), vi v6, vi v15, vi z20, vi z30, vi v38, vi (u4 &&& (7 : Int32)), va a47, va a386, vi v831, vi (1 : Int32), vi (1 : Int32), vi (1 : Int32), vi v873, vi (1 : Int32), va a924, va a955, vi v220, un] [(.int (0 : Int32)), (.int x994)])) (fun t_ k_ => XT.iconstV X1005.here hx rfl (0 : Int32) (hb hby at_438) (by decide) k_) ?_
      exact k1015 _ (if_pos hb1014).symm
    · refine own_step (T' := Tc991) (g' := (mkF m 433 #[vi u1, vi u2, vi u3, vi u4, vi u5, vi u6, vi v3, vi (u2 &&& (2147483647 : Int32)), vi v6, vi v15, vi z20, vi z30, vi v38, vi (u4 &&& (7 : Int32)), va a47, va a386, vi v831, vi (1 : Int32), vi (1 : Int32), vi (1 : Int32), vi v873, vi (1 : Int32), va a924, va a955, vi v220, un] [(.int x994)])) (fun t_ k_ => XS.ifNo X1005.here hx rfl (hb hby at_430) rfl (XT.i0_eq_f hb1014) k_) ?_
      refine own_step (T' := Tc991) (g' := (mkF m 435 #[vi u1, vi u2, vi u3, vi u4, vi u5, vi u6, vi v3, vi (u2 &&& (2147483647 : Int32)), vi v6, vi v15, vi z20, vi z30, vi v38, vi (u4 &&& (7 : Int32)), va a47, va a386, vi v831, vi (1 : Int32), vi (1 : Int32), vi (1 : Int32), vi v873, vi (1 : Int32), va a924, va a955, vi v220, un] [(.int v15), (.int x994)])) (fun t_ k_ => XS.iload X1005.here hx rfl (hb hby at_433) rfl k_) ?_
      refine own_step (T' := Tc991) (g' := (mkF m 439 #[vi u1, vi u2, vi u3, vi u4, vi u5, vi u6, vi v3, vi (u2 &&& (2147483647 : Int32)), vi v6, vi v15, vi z20, vi z30, vi v38, vi (u4 &&& (7 : Int32)), va a47, va a386, vi v831, vi (1 : Int32), vi (1 : Int32), vi (1 : Int32), vi v873, vi (1 : Int32), va a924, va a955, vi v220, un] [(.int v15), (.int x994)])) (fun t_ k_ => XS.goto X1005.here hx rfl (pc0 := 435) (pc' := 439) rfl (hb hby at_435) (by decide) (by decide) k_) ?_
      exact k1015 _ (if_neg hb1014).symm
  intro v1016 hv1016
  have hk1017 : x994 = v1016 := ((own_fin6 I201 H1001).2.1.trans hv1016.symm)
  refine own_step (T' := Tc991) (g' := (mkF m 442 #[vi u1, vi u2, vi u3, vi u4, vi u5, vi u6, vi v3, vi (u2 &&& (2147483647 : Int32)), vi v6, vi v15, vi z20, vi z30, vi v38, vi (u4 &&& (7 : Int32)), va a47, va a386, vi v831, vi (1 : Int32), vi (1 : Int32), vi (1 : Int32), vi v873, vi (1 : Int32), va a924, va a955, vi v220, un] [])) (fun t_ k_ => XS.icmpNo X1005.here hx rfl (hb hby at_439) rfl (XT.ii_ne_f hk1017) k_) ?_
  refine own_step (T' := Tc991) (g' := (mkF m 444 #[vi u1, vi u2, vi u3, vi u4, vi u5, vi u6, vi v3, vi (u2 &&& (2147483647 : Int32)), vi v6, vi v15, vi z20, vi z30, vi v38, vi (u4 &&& (7 : Int32)), va a47, va a386, vi v831, vi (1 : Int32), vi (1 : Int32), vi (1 : Int32), vi v873, vi (1 : Int32), va a924, va a955, vi v220, un] [(.ref a955)])) (fun t_ k_ => XS.aload X1005.here hx rfl (hb hby at_442) rfl rfl k_) ?_
  refine own_step (T' := Tc991) (g' := (mkF m 445 #[vi u1, vi u2, vi u3, vi u4, vi u5, vi u6, vi v3, vi (u2 &&& (2147483647 : Int32)), vi v6, vi v15, vi z20, vi z30, vi v38, vi (u4 &&& (7 : Int32)), va a47, va a386, vi v831, vi (1 : Int32), vi (1 : Int32), vi (1 : Int32), vi v873, vi (1 : Int32), va a924, va a955, vi v220, un] [(.int (0 : Int32)), (.ref a955)])) (fun t_ k_ => XT.iconstV X1005.here hx rfl (0 : Int32) (hb hby at_444) (by decide) k_) ?_
  have st1018 := own_iaload (g := (mkF m 445 #[vi u1, vi u2, vi u3, vi u4, vi u5, vi u6, vi v3, vi (u2 &&& (2147483647 : Int32)), vi v6, vi v15, vi z20, vi z30, vi v38, vi (u4 &&& (7 : Int32)), va a47, va a386, vi v831, vi (1 : Int32), vi (1 : Int32), vi (1 : Int32), vi v873, vi (1 : Int32), va a924, va a955, vi v220, un] [(.int (0 : Int32)), (.ref a955)])) X1005 hx hZ rfl V1000 (v := (.int y995)) (by decide) (own_ix (k := 0) (by decide) rfl) rfl rfl (hb hby at_445)
  refine own_step (T' := Tc991) (g' := (mkF m 446 #[vi u1, vi u2, vi u3, vi u4, vi u5, vi u6, vi v3, vi (u2 &&& (2147483647 : Int32)), vi v6, vi v15, vi z20, vi z30, vi v38, vi (u4 &&& (7 : Int32)), va a47, va a386, vi v831, vi (1 : Int32), vi (1 : Int32), vi (1 : Int32), vi v873, vi (1 : Int32), va a924, va a955, vi v220, un] [(.int y995)])) st1018 ?_
  refine own_step (T' := Tc991) (g' := (mkF m 448 #[vi u1, vi u2, vi u3, vi u4, vi u5, vi u6, vi v3, vi (u2 &&& (2147483647 : Int32)), vi v6, vi v15, vi z20, vi z30, vi v38, vi (u4 &&& (7 : Int32)), va a47, va a386, vi v831, vi (1 : Int32), vi (1 : Int32), vi (1 : Int32), vi v873, vi (1 : Int32), va a924, va a955, vi v220, un] [(.int v3), (.int y995)])) (fun t_ k_ => XS.iload X1005.here hx rfl (hb hby at_446) rfl k_) ?_
  suffices k1020 : ∀ v1021 : Int32, v1021 = (if v3 = 0 then (0 : Int32) else z20) → own_Fin p e below s (Q_31 h0 n0) 14 220 Tc991 (mkF m 457 #[vi u1, vi u2, vi u3, vi u4, vi u5, vi u6, vi v3, vi (u2 &&& (2147483647 : Int32)), vi v6, vi v15, vi z20, vi z30, vi v38, vi (u4 &&& (7 : Int32)), va a47, va a386, vi v831, vi (1 : Int32), vi (1 : Int32), vi (1 : Int32), vi v873, vi (1 : Int32), va a924, va a955, vi v220, un] [(.int v1021), (.int y995)]) by
    by_cases hb1019 : v3 = 0
    · refine own_step (T' := Tc991) (g' := (mkF m 456 #[vi u1, vi u2, vi u3, vi u4, vi u5, vi u6, vi v3, vi (u2 &&& (2147483647 : Int32)), vi v6, vi v15, vi z20, vi z30, vi v38, vi (u4 &&& (7 : Int32)), va a47, va a386, vi v831, vi (1 : Int32), vi (1 : Int32), vi (1 : Int32), vi v873, vi (1 : Int32), va a924, va a955, vi v220, un] [(.int y995)])) (fun t_ k_ => XS.ifYes X1005.here hx rfl (pc0 := 448) (pc' := 456) rfl (hb hby at_448) rfl (XT.i0_eq_t hb1019) (by decide) (by decide) k_) ?_
      refine own_step (T' := Tc991) (g' := (mkF m 457 #[vi u1, vi u2, vi u3, vi u4, vi u5, vi u6, vi v3, vi (u2 &&& (2147483647 : Int32)), vi v6, vi v15, vi z20, vi z30, vi v38, vi (u4 &&& (7 : Int32)), va a47, va a386, vi v831, vi (1 : Int32), vi (1 : Int32), vi (1 : Int32), vi v873, vi (1 : Int32), va a924, va a955, vi v220, un] [(.int (0 : Int32)), (.int y995)])) (fun t_ k_ => XT.iconstV X1005.here hx rfl (0 : Int32) (hb hby at_456) (by decide) k_) ?_
      exact k1020 _ (if_pos hb1019).symm
    · refine own_step (T' := Tc991) (g' := (mkF m 451 #[vi u1, vi u2, vi u3, vi u4, vi u5, vi u6, vi v3, vi (u2 &&& (2147483647 : Int32)), vi v6, vi v15, vi z20, vi z30, vi v38, vi (u4 &&& (7 : Int32)), va a47, va a386, vi v831, vi (1 : Int32), vi (1 : Int32), vi (1 : Int32), vi v873, vi (1 : Int32), va a924, va a955, vi v220, un] [(.int y995)])) (fun t_ k_ => XS.ifNo X1005.here hx rfl (hb hby at_448) rfl (XT.i0_eq_f hb1019) k_) ?_
      refine own_step (T' := Tc991) (g' := (mkF m 453 #[vi u1, vi u2, vi u3, vi u4, vi u5, vi u6, vi v3, vi (u2 &&& (2147483647 : Int32)), vi v6, vi v15, vi z20, vi z30, vi v38, vi (u4 &&& (7 : Int32)), va a47, va a386, vi v831, vi (1 : Int32), vi (1 : Int32), vi (1 : Int32), vi v873, vi (1 : Int32), va a924, va a955, vi v220, un] [(.int z20), (.int y995)])) (fun t_ k_ => XS.iload X1005.here hx rfl (hb hby at_451) rfl k_) ?_
      refine own_step (T' := Tc991) (g' := (mkF m 457 #[vi u1, vi u2, vi u3, vi u4, vi u5, vi u6, vi v3, vi (u2 &&& (2147483647 : Int32)), vi v6, vi v15, vi z20, vi z30, vi v38, vi (u4 &&& (7 : Int32)), va a47, va a386, vi v831, vi (1 : Int32), vi (1 : Int32), vi (1 : Int32), vi v873, vi (1 : Int32), va a924, va a955, vi v220, un] [(.int z20), (.int y995)])) (fun t_ k_ => XS.goto X1005.here hx rfl (pc0 := 453) (pc' := 457) rfl (hb hby at_453) (by decide) (by decide) k_) ?_
      exact k1020 _ (if_neg hb1019).symm
  intro v1021 hv1021
  have hk1022 : y995 = v1021 := ((own_fin6 I201 H1001).2.2.1.trans hv1021.symm)
  refine own_step (T' := Tc991) (g' := (mkF m 460 #[vi u1, vi u2, vi u3, vi u4, vi u5, vi u6, vi v3, vi (u2 &&& (2147483647 : Int32)), vi v6, vi v15, vi z20, vi z30, vi v38, vi (u4 &&& (7 : Int32)), va a47, va a386, vi v831, vi (1 : Int32), vi (1 : Int32), vi (1 : Int32), vi v873, vi (1 : Int32), va a924, va a955, vi v220, un] [])) (fun t_ k_ => XS.icmpNo X1005.here hx rfl (hb hby at_457) rfl (XT.ii_ne_f hk1022) k_) ?_
  refine own_step (T' := Tc991) (g' := (mkF m 462 #[vi u1, vi u2, vi u3, vi u4, vi u5, vi u6, vi v3, vi (u2 &&& (2147483647 : Int32)), vi v6, vi v15, vi z20, vi z30, vi v38, vi (u4 &&& (7 : Int32)), va a47, va a386, vi v831, vi (1 : Int32), vi (1 : Int32), vi (1 : Int32), vi v873, vi (1 : Int32), va a924, va a955, vi v220, un] [(.ref a955)])) (fun t_ k_ => XS.aload X1005.here hx rfl (hb hby at_460) rfl rfl k_) ?_
  refine own_step (T' := Tc991) (g' := (mkF m 463 #[vi u1, vi u2, vi u3, vi u4, vi u5, vi u6, vi v3, vi (u2 &&& (2147483647 : Int32)), vi v6, vi v15, vi z20, vi z30, vi v38, vi (u4 &&& (7 : Int32)), va a47, va a386, vi v831, vi (1 : Int32), vi (1 : Int32), vi (1 : Int32), vi v873, vi (1 : Int32), va a924, va a955, vi v220, un] [(.int (1 : Int32)), (.ref a955)])) (fun t_ k_ => XT.iconstV X1005.here hx rfl (1 : Int32) (hb hby at_462) (by decide) k_) ?_
  have st1023 := own_iaload (g := (mkF m 463 #[vi u1, vi u2, vi u3, vi u4, vi u5, vi u6, vi v3, vi (u2 &&& (2147483647 : Int32)), vi v6, vi v15, vi z20, vi z30, vi v38, vi (u4 &&& (7 : Int32)), va a47, va a386, vi v831, vi (1 : Int32), vi (1 : Int32), vi (1 : Int32), vi v873, vi (1 : Int32), va a924, va a955, vi v220, un] [(.int (1 : Int32)), (.ref a955)])) X1005 hx hZ rfl V1000 (v := (.int y996)) (by decide) (own_ix (k := 1) (by decide) rfl) rfl rfl (hb hby at_463)
  refine own_step (T' := Tc991) (g' := (mkF m 464 #[vi u1, vi u2, vi u3, vi u4, vi u5, vi u6, vi v3, vi (u2 &&& (2147483647 : Int32)), vi v6, vi v15, vi z20, vi z30, vi v38, vi (u4 &&& (7 : Int32)), va a47, va a386, vi v831, vi (1 : Int32), vi (1 : Int32), vi (1 : Int32), vi v873, vi (1 : Int32), va a924, va a955, vi v220, un] [(.int y996)])) st1023 ?_
  refine own_step (T' := Tc991) (g' := (mkF m 466 #[vi u1, vi u2, vi u3, vi u4, vi u5, vi u6, vi v3, vi (u2 &&& (2147483647 : Int32)), vi v6, vi v15, vi z20, vi z30, vi v38, vi (u4 &&& (7 : Int32)), va a47, va a386, vi v831, vi (1 : Int32), vi (1 : Int32), vi (1 : Int32), vi v873, vi (1 : Int32), va a924, va a955, vi v220, un] [(.int v6), (.int y996)])) (fun t_ k_ => XS.iload X1005.here hx rfl (hb hby at_464) rfl k_) ?_
  suffices k1025 : ∀ v1026 : Int32, v1026 = (if v6 = 0 then (0 : Int32) else z30) → own_Fin p e below s (Q_31 h0 n0) 14 220 Tc991 (mkF m 475 #[vi u1, vi u2, vi u3, vi u4, vi u5, vi u6, vi v3, vi (u2 &&& (2147483647 : Int32)), vi v6, vi v15, vi z20, vi z30, vi v38, vi (u4 &&& (7 : Int32)), va a47, va a386, vi v831, vi (1 : Int32), vi (1 : Int32), vi (1 : Int32), vi v873, vi (1 : Int32), va a924, va a955, vi v220, un] [(.int v1026), (.int y996)]) by
    by_cases hb1024 : v6 = 0
    · refine own_step (T' := Tc991) (g' := (mkF m 474 #[vi u1, vi u2, vi u3, vi u4, vi u5, vi u6, vi v3, vi (u2 &&& (2147483647 : Int32)), vi v6, vi v15, vi z20, vi z30, vi v38, vi (u4 &&& (7 : Int32)), va a47, va a386, vi v831, vi (1 : Int32), vi (1 : Int32), vi (1 : Int32), vi v873, vi (1 : Int32), va a924, va a955, vi v220, un] [(.int y996)])) (fun t_ k_ => XS.ifYes X1005.here hx rfl (pc0 := 466) (pc' := 474) rfl (hb hby at_466) rfl (XT.i0_eq_t hb1024) (by decide) (by decide) k_) ?_
      refine own_step (T' := Tc991) (g' := (mkF m 475 #[vi u1, vi u2, vi u3, vi u4, vi u5, vi u6, vi v3, vi (u2 &&& (2147483647 : Int32)), vi v6, vi v15, vi z20, vi z30, vi v38, vi (u4 &&& (7 : Int32)), va a47, va a386, vi v831, vi (1 : Int32), vi (1 : Int32), vi (1 : Int32), vi v873, vi (1 : Int32), va a924, va a955, vi v220, un] [(.int (0 : Int32)), (.int y996)])) (fun t_ k_ => XT.iconstV X1005.here hx rfl (0 : Int32) (hb hby at_474) (by decide) k_) ?_
      exact k1025 _ (if_pos hb1024).symm
    · refine own_step (T' := Tc991) (g' := (mkF m 469 #[vi u1, vi u2, vi u3, vi u4, vi u5, vi u6, vi v3, vi (u2 &&& (2147483647 : Int32)), vi v6, vi v15, vi z20, vi z30, vi v38, vi (u4 &&& (7 : Int32)), va a47, va a386, vi v831, vi (1 : Int32), vi (1 : Int32), vi (1 : Int32), vi v873, vi (1 : Int32), va a924, va a955, vi v220, un] [(.int y996)])) (fun t_ k_ => XS.ifNo X1005.here hx rfl (hb hby at_466) rfl (XT.i0_eq_f hb1024) k_) ?_
      refine own_step (T' := Tc991) (g' := (mkF m 471 #[vi u1, vi u2, vi u3, vi u4, vi u5, vi u6, vi v3, vi (u2 &&& (2147483647 : Int32)), vi v6, vi v15, vi z20, vi z30, vi v38, vi (u4 &&& (7 : Int32)), va a47, va a386, vi v831, vi (1 : Int32), vi (1 : Int32), vi (1 : Int32), vi v873, vi (1 : Int32), va a924, va a955, vi v220, un] [(.int z30), (.int y996)])) (fun t_ k_ => XS.iload X1005.here hx rfl (hb hby at_469) rfl k_) ?_
      refine own_step (T' := Tc991) (g' := (mkF m 475 #[vi u1, vi u2, vi u3, vi u4, vi u5, vi u6, vi v3, vi (u2 &&& (2147483647 : Int32)), vi v6, vi v15, vi z20, vi z30, vi v38, vi (u4 &&& (7 : Int32)), va a47, va a386, vi v831, vi (1 : Int32), vi (1 : Int32), vi (1 : Int32), vi v873, vi (1 : Int32), va a924, va a955, vi v220, un] [(.int z30), (.int y996)])) (fun t_ k_ => XS.goto X1005.here hx rfl (pc0 := 471) (pc' := 475) rfl (hb hby at_471) (by decide) (by decide) k_) ?_
      exact k1025 _ (if_neg hb1024).symm
  intro v1026 hv1026
  have hk1027 : y996 = v1026 := ((own_fin6 I201 H1001).2.2.2.trans hv1026.symm)
  refine own_step (T' := Tc991) (g' := (mkF m 478 #[vi u1, vi u2, vi u3, vi u4, vi u5, vi u6, vi v3, vi (u2 &&& (2147483647 : Int32)), vi v6, vi v15, vi z20, vi z30, vi v38, vi (u4 &&& (7 : Int32)), va a47, va a386, vi v831, vi (1 : Int32), vi (1 : Int32), vi (1 : Int32), vi v873, vi (1 : Int32), va a924, va a955, vi v220, un] [])) (fun t_ k_ => XS.icmpNo X1005.here hx rfl (hb hby at_475) rfl (XT.ii_ne_f hk1027) k_) ?_
  refine own_step (T' := Tc991) (g' := (mkF m 479 #[vi u1, vi u2, vi u3, vi u4, vi u5, vi u6, vi v3, vi (u2 &&& (2147483647 : Int32)), vi v6, vi v15, vi z20, vi z30, vi v38, vi (u4 &&& (7 : Int32)), va a47, va a386, vi v831, vi (1 : Int32), vi (1 : Int32), vi (1 : Int32), vi v873, vi (1 : Int32), va a924, va a955, vi v220, un] [(.int (1 : Int32))])) (fun t_ k_ => XT.iconstV X1005.here hx rfl (1 : Int32) (hb hby at_478) (by decide) k_) ?_
  refine own_step (T' := Tc991) (g' := (mkF m 483 #[vi u1, vi u2, vi u3, vi u4, vi u5, vi u6, vi v3, vi (u2 &&& (2147483647 : Int32)), vi v6, vi v15, vi z20, vi z30, vi v38, vi (u4 &&& (7 : Int32)), va a47, va a386, vi v831, vi (1 : Int32), vi (1 : Int32), vi (1 : Int32), vi v873, vi (1 : Int32), va a924, va a955, vi v220, un] [(.int (1 : Int32))])) (fun t_ k_ => XS.goto X1005.here hx rfl (pc0 := 479) (pc' := 483) rfl (hb hby at_479) (by decide) (by decide) k_) ?_
  refine own_step (T' := Tc991) (g' := (mkF m 485 #[vi u1, vi u2, vi u3, vi u4, vi u5, vi u6, vi v3, vi (u2 &&& (2147483647 : Int32)), vi v6, vi v15, vi z20, vi z30, vi v38, vi (u4 &&& (7 : Int32)), va a47, va a386, vi v831, vi (1 : Int32), vi (1 : Int32), vi (1 : Int32), vi v873, vi (1 : Int32), va a924, va a955, vi v220, vi (1 : Int32)] [])) (fun t_ k_ => XS.istore X1005.here hx rfl (hb hby at_483) rfl (l' := #[vi u1, vi u2, vi u3, vi u4, vi u5, vi u6, vi v3, vi (u2 &&& (2147483647 : Int32)), vi v6, vi v15, vi z20, vi z30, vi v38, vi (u4 &&& (7 : Int32)), va a47, va a386, vi v831, vi (1 : Int32), vi (1 : Int32), vi (1 : Int32), vi v873, vi (1 : Int32), va a924, va a955, vi v220, vi (1 : Int32)]) rfl k_) ?_
  refine own_step (T' := Tc991) (g' := (mkF m 487 #[vi u1, vi u2, vi u3, vi u4, vi u5, vi u6, vi v3, vi (u2 &&& (2147483647 : Int32)), vi v6, vi v15, vi z20, vi z30, vi v38, vi (u4 &&& (7 : Int32)), va a47, va a386, vi v831, vi (1 : Int32), vi (1 : Int32), vi (1 : Int32), vi v873, vi (1 : Int32), va a924, va a955, vi v220, vi (1 : Int32)] [(.int (1 : Int32))])) (fun t_ k_ => XS.iload X1005.here hx rfl (hb hby at_485) rfl k_) ?_
  have hk1028 : ¬ ((1 : Int32) = 0) := (by decide)
  refine own_step (T' := Tc991) (g' := (mkF m 490 #[vi u1, vi u2, vi u3, vi u4, vi u5, vi u6, vi v3, vi (u2 &&& (2147483647 : Int32)), vi v6, vi v15, vi z20, vi z30, vi v38, vi (u4 &&& (7 : Int32)), va a47, va a386, vi v831, vi (1 : Int32), vi (1 : Int32), vi (1 : Int32), vi v873, vi (1 : Int32), va a924, va a955, vi v220, vi (1 : Int32)] [])) (fun t_ k_ => XS.ifNo X1005.here hx rfl (hb hby at_487) rfl (XT.i0_eq_f hk1028) k_) ?_
  refine own_step (T' := Tc991) (g' := (mkF m 492 #[vi u1, vi u2, vi u3, vi u4, vi u5, vi u6, vi v3, vi (u2 &&& (2147483647 : Int32)), vi v6, vi v15, vi z20, vi z30, vi v38, vi (u4 &&& (7 : Int32)), va a47, va a386, vi v831, vi (1 : Int32), vi (1 : Int32), vi (1 : Int32), vi v873, vi (1 : Int32), va a924, va a955, vi v220, vi (1 : Int32)] [(.int (1 : Int32))])) (fun t_ k_ => XS.iload X1005.here hx rfl (hb hby at_490) rfl k_) ?_
  have hk1029 : ¬ ((1 : Int32) = 0) := (by decide)
  refine own_step (T' := Tc991) (g' := (mkF m 495 #[vi u1, vi u2, vi u3, vi u4, vi u5, vi u6, vi v3, vi (u2 &&& (2147483647 : Int32)), vi v6, vi v15, vi z20, vi z30, vi v38, vi (u4 &&& (7 : Int32)), va a47, va a386, vi v831, vi (1 : Int32), vi (1 : Int32), vi (1 : Int32), vi v873, vi (1 : Int32), va a924, va a955, vi v220, vi (1 : Int32)] [])) (fun t_ k_ => XS.ifNo X1005.here hx rfl (hb hby at_492) rfl (XT.i0_eq_f hk1029) k_) ?_
  refine own_step (T' := Tc991) (g' := (mkF m 497 #[vi u1, vi u2, vi u3, vi u4, vi u5, vi u6, vi v3, vi (u2 &&& (2147483647 : Int32)), vi v6, vi v15, vi z20, vi z30, vi v38, vi (u4 &&& (7 : Int32)), va a47, va a386, vi v831, vi (1 : Int32), vi (1 : Int32), vi (1 : Int32), vi v873, vi (1 : Int32), va a924, va a955, vi v220, vi (1 : Int32)] [(.int (1 : Int32))])) (fun t_ k_ => XS.iload X1005.here hx rfl (hb hby at_495) rfl k_) ?_
  have hk1030 : ¬ ((1 : Int32) = 0) := (by decide)
  refine own_step (T' := Tc991) (g' := (mkF m 500 #[vi u1, vi u2, vi u3, vi u4, vi u5, vi u6, vi v3, vi (u2 &&& (2147483647 : Int32)), vi v6, vi v15, vi z20, vi z30, vi v38, vi (u4 &&& (7 : Int32)), va a47, va a386, vi v831, vi (1 : Int32), vi (1 : Int32), vi (1 : Int32), vi v873, vi (1 : Int32), va a924, va a955, vi v220, vi (1 : Int32)] [])) (fun t_ k_ => XS.ifNo X1005.here hx rfl (hb hby at_497) rfl (XT.i0_eq_f hk1030) k_) ?_
  refine own_step (T' := Tc991) (g' := (mkF m 502 #[vi u1, vi u2, vi u3, vi u4, vi u5, vi u6, vi v3, vi (u2 &&& (2147483647 : Int32)), vi v6, vi v15, vi z20, vi z30, vi v38, vi (u4 &&& (7 : Int32)), va a47, va a386, vi v831, vi (1 : Int32), vi (1 : Int32), vi (1 : Int32), vi v873, vi (1 : Int32), va a924, va a955, vi v220, vi (1 : Int32)] [(.int (1 : Int32))])) (fun t_ k_ => XS.iload X1005.here hx rfl (hb hby at_500) rfl k_) ?_
  have hk1031 : ¬ ((1 : Int32) = 0) := (by decide)
  refine own_step (T' := Tc991) (g' := (mkF m 505 #[vi u1, vi u2, vi u3, vi u4, vi u5, vi u6, vi v3, vi (u2 &&& (2147483647 : Int32)), vi v6, vi v15, vi z20, vi z30, vi v38, vi (u4 &&& (7 : Int32)), va a47, va a386, vi v831, vi (1 : Int32), vi (1 : Int32), vi (1 : Int32), vi v873, vi (1 : Int32), va a924, va a955, vi v220, vi (1 : Int32)] [])) (fun t_ k_ => XS.ifNo X1005.here hx rfl (hb hby at_502) rfl (XT.i0_eq_f hk1031) k_) ?_
  refine own_step (T' := Tc991) (g' := (mkF m 507 #[vi u1, vi u2, vi u3, vi u4, vi u5, vi u6, vi v3, vi (u2 &&& (2147483647 : Int32)), vi v6, vi v15, vi z20, vi z30, vi v38, vi (u4 &&& (7 : Int32)), va a47, va a386, vi v831, vi (1 : Int32), vi (1 : Int32), vi (1 : Int32), vi v873, vi (1 : Int32), va a924, va a955, vi v220, vi (1 : Int32)] [(.int (1 : Int32))])) (fun t_ k_ => XS.iload X1005.here hx rfl (hb hby at_505) rfl k_) ?_
  have hk1032 : ¬ ((1 : Int32) = 0) := (by decide)
  refine own_step (T' := Tc991) (g' := (mkF m 510 #[vi u1, vi u2, vi u3, vi u4, vi u5, vi u6, vi v3, vi (u2 &&& (2147483647 : Int32)), vi v6, vi v15, vi z20, vi z30, vi v38, vi (u4 &&& (7 : Int32)), va a47, va a386, vi v831, vi (1 : Int32), vi (1 : Int32), vi (1 : Int32), vi v873, vi (1 : Int32), va a924, va a955, vi v220, vi (1 : Int32)] [])) (fun t_ k_ => XS.ifNo X1005.here hx rfl (hb hby at_507) rfl (XT.i0_eq_f hk1032) k_) ?_
  refine own_step (T' := Tc991) (g' := (mkF m 511 #[vi u1, vi u2, vi u3, vi u4, vi u5, vi u6, vi v3, vi (u2 &&& (2147483647 : Int32)), vi v6, vi v15, vi z20, vi z30, vi v38, vi (u4 &&& (7 : Int32)), va a47, va a386, vi v831, vi (1 : Int32), vi (1 : Int32), vi (1 : Int32), vi v873, vi (1 : Int32), va a924, va a955, vi v220, vi (1 : Int32)] [(.int (1 : Int32))])) (fun t_ k_ => XT.iconstV X1005.here hx rfl (1 : Int32) (hb hby at_510) (by decide) k_) ?_
  refine own_step (T' := Tc991) (g' := (mkF m 515 #[vi u1, vi u2, vi u3, vi u4, vi u5, vi u6, vi v3, vi (u2 &&& (2147483647 : Int32)), vi v6, vi v15, vi z20, vi z30, vi v38, vi (u4 &&& (7 : Int32)), va a47, va a386, vi v831, vi (1 : Int32), vi (1 : Int32), vi (1 : Int32), vi v873, vi (1 : Int32), va a924, va a955, vi v220, vi (1 : Int32)] [(.int (1 : Int32))])) (fun t_ k_ => XS.goto X1005.here hx rfl (pc0 := 511) (pc' := 515) rfl (hb hby at_511) (by decide) (by decide) k_) ?_
  exact own_retN X1005 hx hlk (t := .boolean) Bd.returns (by simp) (hb hby at_515) (by exact ⟨rfl, N1006⟩) (by decide) (by decide)
set_option maxRecDepth 65536 in
set_option maxHeartbeats 40000000 in
theorem comes_1 {Post : Tables → Env → Array Value → State → Outcome → State → Prop} (hpost : ∀ tb e args s v u, (limb_1_1.after args s (.returned v) u = true ∧ limb_1_2.after args s (.returned v) u = true ∧ True) → FrameEnd s (.returned v) u (Jvm.fieldLocs frame_1_writes args s ++ Jvm.arrayLocs frame_1_arrays args s ++ Jvm.staticLocs frame_1_statics s) 40 512 → Post tb e args s (.returned v) u) :
    ArmFor flags0 classFile x code maxLocals ret World_1 tables_1 room_1 Calls_1 rest_1 Pre_1 Post := by
  intro l hfl _ _ p e ha hc hk s m args below hf hA hF happ hP
  obtain ⟨hcalls, hrest, hpre⟩ := hP
  obtain ⟨-, -, -, hnamed, -, -, -, hat⟩ := (Spec.applies_iff hf).mp happ
  obtain ⟨hg, hn⟩ := and_e (Cond.before_iff.mp (show (Jvm.Cond.and given_1 narrow_1).before args s = true from hpre))
  obtain ⟨hcount, hg0⟩ := and_e hg
  obtain ⟨ha0, hg1⟩ := and_e hg0
  obtain ⟨ha1, hg2⟩ := and_e hg1
  obtain ⟨ha2, hg3⟩ := and_e hg2
  obtain ⟨ha3, hg4⟩ := and_e hg3
  obtain ⟨ha4, hg5⟩ := and_e hg4
  obtain ⟨w0, w1, w2, w3, w4, w5, rfl⟩ : ∃ w0 w1 w2 w3 w4 w5 : Value, args = #[w0, w1, w2, w3, w4, w5] := by
    have hs : args.size = 6 := by simpa [Cond.value, given_1] using hcount
    obtain ⟨L⟩ := args
    match L, hs with
    | [w0, w1, w2, w3, w4, w5], _ => exact ⟨w0, w1, w2, w3, w4, w5, rfl⟩
  have hw := fun d (hd : d ∈ tables_1) => atoms_spec (ws := Jvm.Cond.code x code maxLocals ret :: tables_1) hat d (List.mem_cons_of_mem _ hd)
  obtain ⟨i0, ei0⟩ := is_v ha0
  obtain rfl : w0 = (.int i0) := Option.some.inj ei0
  obtain ⟨i1, ei1⟩ := is_v ha1
  obtain rfl : w1 = (.int i1) := Option.some.inj ei1
  obtain ⟨i2, ei2⟩ := is_v ha2
  obtain rfl : w2 = (.int i2) := Option.some.inj ei2
  obtain ⟨i3, ei3⟩ := is_v ha3
  obtain rfl : w3 = (.int i3) := Option.some.inj ei3
  obtain ⟨i4, ei4⟩ := is_v ha4
  obtain rfl : w4 = (.int i4) := Option.some.inj ei4
  obtain ⟨i5, ei5⟩ := is_v hg5
  obtain rfl : w5 = (.int i5) := Option.some.inj ei5
  obtain ⟨hsets, hown0⟩ := atoms_of _ (rest_1_c_eq ▸ (show rest_1_c.before _ s = true from hrest))
  have g2 := Cond.before_iff.mp (hsets _ (List.mem_of_getElem? (i := 2) rfl))
  have SA0 : Sta s s.heap "java/util/BitSet" "$assertionsDisabled" "Z" (.int (1 : Int32)) := Sta.start (own_eqv g2) (Or.inl (hsets _ (List.mem_of_getElem? (i := 1) rfl)))
  obtain ⟨me, mo⟩ := and_e hn
  obtain ⟨bs, ev⟩ := exa_v me
  have S0 : Sta s s.heap "com/example/sedimenta/sedimenta/Postings" "NONE_DELETED" "Ljava/util/BitSet;" (.ref bs) := Sta.start ev (Or.inr ⟨(own_w (i := 7) rfl hw), (own_w (i := 125) rfl hw)⟩)
  have EB0 : Exa s s.heap bs "java/util/BitSet" := Exa.start ev me
  have FB0 := Fld.start (own_ord mo ev)
  obtain ⟨n, o, h1, h2, h3, _, L, rfl, ⟨rfl, N⟩, hq⟩ := rm_law l s _ hw tables_1 i0 i1 i2 i3 i4 i5 bs s.heap s.heap.size (Nat.le_refl _) (Old.start s) S0 EB0 FB0 SA0 p e ha hc hk s m _ below hf ((Spec.applies_iff_loose hf).mp happ).1 ⟨rfl, State.Warmed39.refl s, rfl⟩ trivial
  refine ⟨n, _, h1, h2, h3, hpost _ _ _ _ _ _ ⟨Cond.after_iff.mpr rfl, Cond.after_iff.mpr (eq_i res_at (Term.int_eval (1)) rfl), trivial⟩ ⟨hq.1, hq.2.1, (hq.2.2.sift fun y hy => Or.inr (N y hy)).mono (by decide) (by decide)⟩⟩
theorem main_1_1 : Claimed_1_1 := comes_1 fun _ _ _ _ _ _ h hF => ⟨h.1, hF⟩
theorem main_1_2 : Claimed_1_2 := comes_1 fun _ _ _ _ _ _ h hF => ⟨h.2.1, hF⟩
end Jvm.Pilot.@@N@@
namespace Jvm.Pilot.@@N@@
open Jvm Jvm.ClassFile Sem Op Lib Jvm.Free Jvm.Stand Jvm.Pilot.@@N@@.Jvm.D
/-! MADE BY PROGRAM (witnessworld.py) out of the Statement's table words and the real class files: 14 classes; the members and pool entries that the words name. The judged class is class 1, her method 3. -/
namespace start1
open Jvm.ClassFile
def u (s : String) : CpInfo := .utf8 (stringToUtf16 s)
/-- a pool by its gaps: so many unusable entries, then the entry; so many at the end -/
def gap : Nat → List CpInfo → List CpInfo
  | 0, r => r
  | n + 1, r => .unusable :: gap n r
def poolList (es : List (Nat × CpInfo)) (last : Nat) : List CpInfo := es.foldr (fun e r => gap e.1 (e.2 :: r)) (gap last [])
def pool (es : List (Nat × CpInfo)) (last : Nat) : Array CpInfo := ⟨poolList es last⟩
def fileOf (pool : Array CpInfo) (this : Nat) (attrs : Array Attribute := #[]) (ms : Array MethodInfo := #[]) (fl : Nat := 33) (sup : Nat := 0) (ifs : Array Nat := #[]) (fds : Array FieldInfo := #[]) : ClassFile where
  minorVersion := 0
  majorVersion := 65
  constantPool := pool
  accessFlags := fl
  thisClass := this
  superClass := sup
  interfaces := ifs
  fields := fds
  methods := ms
  attributes := attrs
def plain (name : String) (sup : Option ClassId) : Class where
  name := name
  kind := .ordinary
  loader := none
  accessFlags := 33
  super := sup
  interfaces := #[]
  cf := none
  fields := #[]
  methods := #[]
  instanceTypes := #[]
  staticTypes := #[]
  resolved := #[]
  callSites := []
  init := .initialized
  statics := none
  mirror := none

def pool0 : Array CpInfo := pool [(5, u "<init>"), (0, u "()V"), (1, .class_ 10), (1, u "java/lang/Object")] 113

def k0c0 : Code := { maxStack := 0, maxLocals := 1, code := object_method_1_code, exceptionTable := #[], attributes := #[] }
def k0m0 : Method := { name := "<init>", desc := "()V", sig := { parameters := [], returnType := none }, accessFlags := 1, code := some k0c0 }
/-- java/lang/Object -/
def k0 : Class := { plain "java/lang/Object" none with
  accessFlags := 33
  interfaces := #[]
  cf := some (fileOf pool0 8 #[] #[{ accessFlags := 1, nameIndex := 5, descriptorIndex := 6, attributes := #[] }] 33 0 #[] #[])
  fields := #[]
  methods := #[k0m0]
  instanceTypes := #[]
  staticTypes := #[]
  resolved := Array.replicate 124 none
  statics := none }

def pool1 : Array CpInfo := pool [(2, .class_ 4), (0, .nameAndType 5 6), (0, u "java/lang/Object"), (0, u "<init>"), (0, u "()V"), (0, .long 128), (1, .long 16384), (1, .long 2097152), (1, .long 268435456), (1, .methodref 16 17), (0, .class_ 18), (0, .nameAndType 19 20), (0, u "com/example/sedimenta/sedimenta/PostingsTakePinLaw"), (0, u "vsize"), (0, u "(J)I"), (0, .integer 2147483647), (2, .methodref 25 26), (0, .class_ 27), (0, .nameAndType 28 29), (0, u "java/lang/Math"), (0, u "max"), (0, u "(II)I"), (0, .class_ 31), (0, u "com/example/sedimenta/sedimenta/Postings"), (0, .methodref 30 3), (0, .methodref 30 34), (0, .nameAndType 35 36), (0, u "add"), (0, u "(II)V"), (0, .methodref 30 38), (0, .nameAndType 39 40), (0, u "addPositions"), (0, u "([BII)V"), (0, .methodref 30 42), (0, .nameAndType 43 44), (0, u "take"), (0, u "(Lcom/example/sedimenta/sedimenta/Postings;)V"), (0, .methodref 30 46), (0, .nameAndType 47 48), (0, u "first"), (0, u "()I"), (0, .methodref 30 50), (0, .nameAndType 51 48), (0, u "last"), (0, .methodref 30 53), (0, .nameAndType 54 55), (0, u "positioned"), (0, u "()Z"), (0, .methodref 16 57), (0, .nameAndType 58 29), (0, u "entrySize"), (0, .methodref 30 60), (0, .nameAndType 61 48), (0, u "mostBytes"), (0, .fieldref 30 63), (0, .nameAndType 64 65), (0, u "NONE_DELETED"), (0, u "Ljava/util/BitSet;"), (0, .methodref 30 67), (0, .nameAndType 68 69), (0, u "decode"), (0, u "(Ljava/util/BitSet;[I[I)I"), (3, u "law"), (0, u "(IIIIII)Z")] 4

def k1m0 : Method := { name := "<init>", desc := "()V", sig := { parameters := [], returnType := none }, accessFlags := 1, code := none }
def k1c1 : Code := { maxStack := 4, maxLocals := 2, code := method_2_code, exceptionTable := #[], attributes := #[] }
def k1m1 : Method := { name := "vsize", desc := "(J)I", sig := { parameters := [.long], returnType := some .int }, accessFlags := 10, code := some k1c1 }
def k1c2 : Code := { maxStack := 4, maxLocals := 3, code := method_3_code, exceptionTable := #[], attributes := #[] }
def k1m2 : Method := { name := "entrySize", desc := "(II)I", sig := { parameters := [.int, .int], returnType := some .int }, accessFlags := 10, code := some k1c2 }
def k1c3 : Code := { maxStack := 5, maxLocals := 26, code := code, exceptionTable := #[], attributes := #[] }
def k1m3 : Method := { name := "law", desc := "(IIIIII)Z", sig := { parameters := [.int, .int, .int, .int, .int, .int], returnType := some .boolean }, accessFlags := 9, code := some k1c3 }
/-- com/example/sedimenta/sedimenta/PostingsTakePinLaw -/
def k1 : Class := { plain "com/example/sedimenta/sedimenta/PostingsTakePinLaw" (some 0) with
  accessFlags := 49
  interfaces := #[]
  cf := some (fileOf pool1 16 #[] #[{ accessFlags := 1, nameIndex := 5, descriptorIndex := 6, attributes := #[] }, { accessFlags := 10, nameIndex := 19, descriptorIndex := 20, attributes := #[] }, { accessFlags := 10, nameIndex := 58, descriptorIndex := 29, attributes := #[] }, { accessFlags := 9, nameIndex := 73, descriptorIndex := 74, attributes := #[] }] 49 2 #[] #[])
  fields := #[]
  methods := #[k1m0, k1m1, k1m2, k1m3]
  instanceTypes := #[]
  staticTypes := #[]
  resolved := Array.replicate 79 none
  statics := none }

def pool2 : Array CpInfo := pool [(1, .class_ 2), (0, u "java/lang/Math"), (1, .class_ 6), (1, u "java/lang/Object"), (0, u "<init>"), (0, u "()V"), (89, .class_ 100), (1, u "java/lang/Math$RandomNumberGeneratorHolder"), (20, u "(JJ)J"), (50, u "negativeZeroFloatBits"), (0, u "J"), (2, u "negativeZeroDoubleBits"), (21, u "max"), (2, u "min"), (43, u "$assertionsDisabled"), (0, u "Z"), (88, u "(II)I"), (2, u "twoToTheDoubleScaleDown"), (0, u "D"), (4, u "twoToTheDoubleScaleUp"), (9, u "E"), (3, u "PI"), (2, u "TAU"), (2, u "DEGREES_TO_RADIANS"), (0, u "RADIANS_TO_DEGREES")] 94

def k2m0 : Method := { name := "<init>", desc := "()V", sig := { parameters := [], returnType := none }, accessFlags := 2, code := none }
def k2c1 : Code := { maxStack := 2, maxLocals := 2, code := jdk_29_method_65_code, exceptionTable := #[], attributes := #[] }
def k2m1 : Method := { name := "max", desc := "(II)I", sig := { parameters := [.int, .int], returnType := some .int }, accessFlags := 9, code := some k2c1 }
def k2c2 : Code := { maxStack := 4, maxLocals := 4, code := jdk_29_method_66_code, exceptionTable := #[], attributes := #[] }
def k2m2 : Method := { name := "max", desc := "(JJ)J", sig := { parameters := [.long, .long], returnType := some .long }, accessFlags := 9, code := some k2c2 }
def k2c3 : Code := { maxStack := 2, maxLocals := 2, code := jdk_29_method_69_code, exceptionTable := #[], attributes := #[] }
def k2m3 : Method := { name := "min", desc := "(II)I", sig := { parameters := [.int, .int], returnType := some .int }, accessFlags := 9, code := some k2c3 }
def k2c4 : Code := { maxStack := 4, maxLocals := 4, code := jdk_29_method_70_code, exceptionTable := #[], attributes := #[] }
def k2m4 : Method := { name := "min", desc := "(JJ)J", sig := { parameters := [.long, .long], returnType := some .long }, accessFlags := 9, code := some k2c4 }
/-- java/lang/Math -/
def k2 : Class := { plain "java/lang/Math" (some 0) with
  accessFlags := 49
  interfaces := #[]
  cf := some (fileOf pool2 1 #[.nestMembers #[98]] #[{ accessFlags := 2, nameIndex := 7, descriptorIndex := 8, attributes := #[] }, { accessFlags := 9, nameIndex := 198, descriptorIndex := 335, attributes := #[] }, { accessFlags := 9, nameIndex := 198, descriptorIndex := 121, attributes := #[] }, { accessFlags := 9, nameIndex := 201, descriptorIndex := 335, attributes := #[] }, { accessFlags := 9, nameIndex := 201, descriptorIndex := 121, attributes := #[] }] 49 4 #[] #[{ accessFlags := 25, nameIndex := 354, descriptorIndex := 339, attributes := #[] }, { accessFlags := 25, nameIndex := 358, descriptorIndex := 339, attributes := #[] }, { accessFlags := 25, nameIndex := 361, descriptorIndex := 339, attributes := #[] }, { accessFlags := 26, nameIndex := 364, descriptorIndex := 339, attributes := #[] }, { accessFlags := 26, nameIndex := 365, descriptorIndex := 339, attributes := #[] }, { accessFlags := 26, nameIndex := 172, descriptorIndex := 173, attributes := #[] }, { accessFlags := 26, nameIndex := 176, descriptorIndex := 173, attributes := #[] }, { accessFlags := 8, nameIndex := 344, descriptorIndex := 339, attributes := #[] }, { accessFlags := 8, nameIndex := 338, descriptorIndex := 339, attributes := #[] }, { accessFlags := 4120, nameIndex := 245, descriptorIndex := 246, attributes := #[] }])
  fields := #[{ name := "E", type := .double, accessFlags := 25, slot := 0, constantValue := 0 }, { name := "PI", type := .double, accessFlags := 25, slot := 1, constantValue := 0 }, { name := "TAU", type := .double, accessFlags := 25, slot := 2, constantValue := 0 }, { name := "DEGREES_TO_RADIANS", type := .double, accessFlags := 26, slot := 3, constantValue := 0 }, { name := "RADIANS_TO_DEGREES", type := .double, accessFlags := 26, slot := 4, constantValue := 0 }, { name := "negativeZeroFloatBits", type := .long, accessFlags := 26, slot := 5, constantValue := 0 }, { name := "negativeZeroDoubleBits", type := .long, accessFlags := 26, slot := 6, constantValue := 0 }, { name := "twoToTheDoubleScaleUp", type := .double, accessFlags := 8, slot := 7, constantValue := 0 }, { name := "twoToTheDoubleScaleDown", type := .double, accessFlags := 8, slot := 8, constantValue := 0 }, { name := "$assertionsDisabled", type := .boolean, accessFlags := 4120, slot := 9, constantValue := 0 }]
  methods := #[k2m0, k2m1, k2m2, k2m3, k2m4]
  instanceTypes := #[]
  staticTypes := #[.double, .double, .double, .double, .double, .long, .long, .double, .double, .boolean]
  resolved := Array.replicate 460 none
  statics := none }

def pool3 : Array CpInfo := pool [(1, .class_ 2), (0, u "com/example/sedimenta/sedimenta/store/VarInts"), (2, .class_ 6), (0, u "com/example/sedimenta/sedimenta/Postings"), (0, .methodref 8 9), (0, .class_ 10), (0, .nameAndType 11 12), (0, u "java/lang/Object"), (0, u "<init>"), (0, u "()V"), (0, .fieldref 5 14), (0, .nameAndType 15 16), (0, u "own"), (0, u "[B"), (0, .fieldref 5 18), (0, .nameAndType 19 16), (0, u "bytes"), (0, .fieldref 5 21), (0, .nameAndType 22 23), (0, u "last"), (0, u "I"), (0, .fieldref 5 25), (0, .nameAndType 26 16), (0, u "ownPositions"), (0, .fieldref 5 28), (0, .nameAndType 29 16), (0, u "positionBytes"), (0, .fieldref 5 31), (0, .nameAndType 32 33), (0, u "frequencies"), (0, u "[I"), (0, .fieldref 5 35), (0, .nameAndType 36 37), (0, u "entriesChecked"), (0, u "Z"), (0, .integer 2147483647), (0, .fieldref 5 40), (0, .nameAndType 41 23), (0, u "documentCount"), (0, .fieldref 5 43), (0, .nameAndType 44 23), (0, u "offset"), (0, .fieldref 5 46), (0, .nameAndType 47 23), (0, u "length"), (0, .fieldref 5 49), (0, .nameAndType 50 23), (0, u "count"), (0, .fieldref 5 52), (0, .nameAndType 53 23), (0, u "first"), (0, .fieldref 5 55), (0, .nameAndType 56 23), (0, u "firstFrequency"), (0, .fieldref 5 58), (0, .nameAndType 59 23), (0, u "firstLength"), (0, .fieldref 5 61), (0, .nameAndType 62 37), (0, u "positioned"), (0, .fieldref 5 64), (0, .nameAndType 65 23), (0, u "positionsOffset"), (0, .fieldref 5 67), (0, .nameAndType 68 23), (0, u "positionsLength"), (0, .fieldref 5 70), (0, .nameAndType 71 72), (0, u "blocks"), (0, u "Lcom/example/sedimenta/sedimenta/TermBlocks;"), (0, .fieldref 5 74), (0, .nameAndType 75 76), (0, u "source"), (0, u "Lcom/example/sedimenta/sedimenta/store/StoreInput;"), (0, .fieldref 5 78), (0, .nameAndType 79 80), (0, u "sourceEntry"), (0, u "J"), (32, u "()I"), (2, u "NONE_DELETED"), (0, u "Ljava/util/BitSet;"), (33, .methodref 5 152), (0, .nameAndType 153 154), (0, u "room"), (0, u "(I)V"), (0, .methodref 5 156), (0, .nameAndType 157 158), (0, u "putEntry"), (0, u "([BIII)I"), (0, .methodref 160 161), (0, .class_ 162), (0, .nameAndType 163 164), (0, u "java/lang/System"), (0, u "arraycopy"), (0, u "(Ljava/lang/Object;ILjava/lang/Object;II)V"), (5, u "decode"), (1, .methodref 5 173), (0, .nameAndType 174 154), (0, u "positionsRoom"), (2, u "add"), (0, u "(II)V"), (0, .methodref 1 180), (0, .nameAndType 181 182), (0, u "put"), (0, u "([BIJ)I"), (1, .class_ 186), (1, u "com/example/sedimenta/sedimenta/Postings$Positions"), (7, u "addPositions"), (0, u "([BII)V"), (31, .class_ 229), (1, u "com/example/sedimenta/sedimenta/Postings$PositionsRead"), (4, u "readEntries"), (7, u "ownBlocks"), (12, .class_ 257), (1, u "java/lang/Math"), (0, u "min"), (9, u "readDocument"), (5, u "max"), (2, u "readOccurrences"), (2, u "readMalformed"), (15, .long 2), (6, .methodref 5 304), (0, .nameAndType 305 113), (0, u "mostHeadBytes"), (0, .methodref 5 307), (0, .nameAndType 308 309), (0, u "keptInBlocks"), (0, u "()Z"), (2, u "mostBytes"), (37, u "foundBlocks"), (20, u "decodedLast"), (2, u "decodedEnd"), (9, u "(Ljava/util/BitSet;[I[I)I"), (1, .class_ 388), (1, u "java/util/Arrays"), (0, u "copyOf"), (1, .methodref 5 392), (0, .nameAndType 393 384), (0, u "decodeChecked"), (3, .methodref 398 399), (0, .class_ 400), (0, .nameAndType 401 402), (0, u "java/util/BitSet"), (0, u "get"), (0, u "(I)Z"), (6, u "(II)J"), (2, u "readEnd"), (2, .methodref 5 416), (0, .nameAndType 417 418), (0, u "grownLength"), (0, u "(IJ)I"), (0, .methodref 386 420), (0, .nameAndType 389 421), (0, u "([BI)[B"), (0, .long 2147483639), (3, .methodref 255 427), (0, .nameAndType 274 428), (0, u "(JJ)J"), (0, .methodref 255 430), (0, .nameAndType 258 428), (5, .methodref 5 437), (0, .nameAndType 438 409), (0, u "code"), (1, u "MAX_ENTRY_BYTES"), (2, u "MAX_BYTES"), (1, u "MAX_HEAD_BYTES"), (1, u "NUMBER_BITS"), (1, u "CUT_SHORT"), (1, u "MALFORMED"), (1, u "NOT_AS_BLOCKS"), (0, u "Ljava/lang/String;"), (2, u "take"), (0, u "(Lcom/example/sedimenta/sedimenta/Postings;)V")] 63

def k3c0 : Code := { maxStack := 2, maxLocals := 1, code := prog_81_method_1_code, exceptionTable := #[], attributes := #[] }
def k3m0 : Method := { name := "<init>", desc := "()V", sig := { parameters := [], returnType := none }, accessFlags := 0, code := some k3c0 }
def k3c1 : Code := { maxStack := 3, maxLocals := 2, code := prog_81_method_3_code, exceptionTable := #[], attributes := #[] }
def k3m1 : Method := { name := "take", desc := "(Lcom/example/sedimenta/sedimenta/Postings;)V", sig := { parameters := [(.object "com/example/sedimenta/sedimenta/Postings")], returnType := none }, accessFlags := 0, code := some k3c1 }
def k3c2 : Code := { maxStack := 1, maxLocals := 1, code := prog_81_method_10_code, exceptionTable := #[], attributes := #[] }
def k3m2 : Method := { name := "first", desc := "()I", sig := { parameters := [], returnType := some .int }, accessFlags := 0, code := some k3c2 }
def k3c3 : Code := { maxStack := 1, maxLocals := 1, code := prog_81_method_11_code, exceptionTable := #[], attributes := #[] }
def k3m3 : Method := { name := "last", desc := "()I", sig := { parameters := [], returnType := some .int }, accessFlags := 0, code := some k3c3 }
def k3c4 : Code := { maxStack := 1, maxLocals := 1, code := prog_81_method_12_code, exceptionTable := #[], attributes := #[] }
def k3m4 : Method := { name := "positioned", desc := "()Z", sig := { parameters := [], returnType := some .boolean }, accessFlags := 0, code := some k3c4 }
def k3c5 : Code := { maxStack := 5, maxLocals := 4, code := prog_81_method_13_code, exceptionTable := #[], attributes := #[] }
def k3m5 : Method := { name := "add", desc := "(II)V", sig := { parameters := [.int, .int], returnType := none }, accessFlags := 0, code := some k3c5 }
def k3c6 : Code := { maxStack := 5, maxLocals := 5, code := prog_81_method_16_code, exceptionTable := #[], attributes := #[] }
def k3m6 : Method := { name := "addPositions", desc := "([BII)V", sig := { parameters := [(.array .byte), .int, .int], returnType := none }, accessFlags := 0, code := some k3c6 }
def k3c7 : Code := { maxStack := 2, maxLocals := 1, code := prog_81_method_34_code, exceptionTable := #[], attributes := #[] }
def k3m7 : Method := { name := "mostBytes", desc := "()I", sig := { parameters := [], returnType := some .int }, accessFlags := 0, code := some k3c7 }
def k3c8 : Code := { maxStack := 2, maxLocals := 1, code := prog_81_method_35_code, exceptionTable := #[], attributes := #[] }
def k3m8 : Method := { name := "mostHeadBytes", desc := "()I", sig := { parameters := [], returnType := some .int }, accessFlags := 0, code := some k3c8 }
def k3c9 : Code := { maxStack := 2, maxLocals := 1, code := prog_81_method_36_code, exceptionTable := #[], attributes := #[] }
def k3m9 : Method := { name := "keptInBlocks", desc := "()Z", sig := { parameters := [], returnType := some .boolean }, accessFlags := 0, code := some k3c9 }
def k3c10 : Code := { maxStack := 4, maxLocals := 4, code := prog_81_method_48_code, exceptionTable := #[], attributes := #[] }
def k3m10 : Method := { name := "decode", desc := "(Ljava/util/BitSet;[I[I)I", sig := { parameters := [(.object "java/util/BitSet"), (.array .int), (.array .int)], returnType := some .int }, accessFlags := 0, code := some k3c10 }
def k3c11 : Code := { maxStack := 5, maxLocals := 13, code := prog_81_method_49_code, exceptionTable := #[], attributes := #[] }
def k3m11 : Method := { name := "decodeChecked", desc := "(Ljava/util/BitSet;[I[I)I", sig := { parameters := [(.object "java/util/BitSet"), (.array .int), (.array .int)], returnType := some .int }, accessFlags := 2, code := some k3c11 }
def k3c12 : Code := { maxStack := 7, maxLocals := 2, code := prog_81_method_54_code, exceptionTable := #[], attributes := #[] }
def k3m12 : Method := { name := "room", desc := "(I)V", sig := { parameters := [.int], returnType := none }, accessFlags := 2, code := some k3c12 }
def k3c13 : Code := { maxStack := 7, maxLocals := 2, code := prog_81_method_55_code, exceptionTable := #[], attributes := #[] }
def k3m13 : Method := { name := "positionsRoom", desc := "(I)V", sig := { parameters := [.int], returnType := none }, accessFlags := 2, code := some k3c13 }
def k3c14 : Code := { maxStack := 6, maxLocals := 3, code := prog_81_method_56_code, exceptionTable := #[], attributes := #[] }
def k3m14 : Method := { name := "grownLength", desc := "(IJ)I", sig := { parameters := [.int, .long], returnType := some .int }, accessFlags := 8, code := some k3c14 }
def k3c15 : Code := { maxStack := 4, maxLocals := 5, code := prog_81_method_58_code, exceptionTable := #[], attributes := #[] }
def k3m15 : Method := { name := "putEntry", desc := "([BIII)I", sig := { parameters := [(.array .byte), .int, .int, .int], returnType := some .int }, accessFlags := 10, code := some k3c15 }
def k3c16 : Code := { maxStack := 4, maxLocals := 2, code := prog_81_method_60_code, exceptionTable := #[], attributes := #[] }
def k3m16 : Method := { name := "code", desc := "(II)J", sig := { parameters := [.int, .int], returnType := some .long }, accessFlags := 10, code := some k3c16 }
/-- com/example/sedimenta/sedimenta/Postings -/
def k3 : Class := { plain "com/example/sedimenta/sedimenta/Postings" (some 0) with
  accessFlags := 48
  interfaces := #[]
  cf := some (fileOf pool3 5 #[.nestMembers #[184, 227]] #[{ accessFlags := 0, nameIndex := 11, descriptorIndex := 12, attributes := #[] }, { accessFlags := 0, nameIndex := 457, descriptorIndex := 458, attributes := #[] }, { accessFlags := 0, nameIndex := 53, descriptorIndex := 113, attributes := #[] }, { accessFlags := 0, nameIndex := 22, descriptorIndex := 113, attributes := #[] }, { accessFlags := 0, nameIndex := 62, descriptorIndex := 309, attributes := #[] }, { accessFlags := 0, nameIndex := 177, descriptorIndex := 178, attributes := #[] }, { accessFlags := 0, nameIndex := 194, descriptorIndex := 195, attributes := #[] }, { accessFlags := 0, nameIndex := 312, descriptorIndex := 113, attributes := #[] }, { accessFlags := 0, nameIndex := 305, descriptorIndex := 113, attributes := #[] }, { accessFlags := 0, nameIndex := 308, descriptorIndex := 309, attributes := #[] }, { accessFlags := 0, nameIndex := 170, descriptorIndex := 384, attributes := #[] }, { accessFlags := 2, nameIndex := 393, descriptorIndex := 384, attributes := #[] }, { accessFlags := 2, nameIndex := 153, descriptorIndex := 154, attributes := #[] }, { accessFlags := 2, nameIndex := 174, descriptorIndex := 154, attributes := #[] }, { accessFlags := 8, nameIndex := 417, descriptorIndex := 418, attributes := #[] }, { accessFlags := 10, nameIndex := 157, descriptorIndex := 158, attributes := #[] }, { accessFlags := 10, nameIndex := 438, descriptorIndex := 409, attributes := #[] }] 48 8 #[] #[{ accessFlags := 24, nameIndex := 440, descriptorIndex := 23, attributes := #[] }, { accessFlags := 24, nameIndex := 443, descriptorIndex := 23, attributes := #[] }, { accessFlags := 24, nameIndex := 445, descriptorIndex := 23, attributes := #[] }, { accessFlags := 26, nameIndex := 447, descriptorIndex := 23, attributes := #[] }, { accessFlags := 24, nameIndex := 449, descriptorIndex := 23, attributes := #[] }, { accessFlags := 24, nameIndex := 451, descriptorIndex := 23, attributes := #[] }, { accessFlags := 24, nameIndex := 116, descriptorIndex := 117, attributes := #[] }, { accessFlags := 2, nameIndex := 15, descriptorIndex := 16, attributes := #[] }, { accessFlags := 2, nameIndex := 19, descriptorIndex := 16, attributes := #[] }, { accessFlags := 2, nameIndex := 44, descriptorIndex := 23, attributes := #[] }, { accessFlags := 2, nameIndex := 47, descriptorIndex := 23, attributes := #[] }, { accessFlags := 2, nameIndex := 50, descriptorIndex := 23, attributes := #[] }, { accessFlags := 2, nameIndex := 53, descriptorIndex := 23, attributes := #[] }, { accessFlags := 2, nameIndex := 56, descriptorIndex := 23, attributes := #[] }, { accessFlags := 2, nameIndex := 59, descriptorIndex := 23, attributes := #[] }, { accessFlags := 2, nameIndex := 22, descriptorIndex := 23, attributes := #[] }, { accessFlags := 2, nameIndex := 62, descriptorIndex := 37, attributes := #[] }, { accessFlags := 2, nameIndex := 26, descriptorIndex := 16, attributes := #[] }, { accessFlags := 2, nameIndex := 29, descriptorIndex := 16, attributes := #[] }, { accessFlags := 2, nameIndex := 65, descriptorIndex := 23, attributes := #[] }, { accessFlags := 2, nameIndex := 68, descriptorIndex := 23, attributes := #[] }, { accessFlags := 2, nameIndex := 32, descriptorIndex := 33, attributes := #[] }, { accessFlags := 2, nameIndex := 268, descriptorIndex := 80, attributes := #[] }, { accessFlags := 2, nameIndex := 277, descriptorIndex := 80, attributes := #[] }, { accessFlags := 2, nameIndex := 280, descriptorIndex := 23, attributes := #[] }, { accessFlags := 2, nameIndex := 234, descriptorIndex := 23, attributes := #[] }, { accessFlags := 2, nameIndex := 71, descriptorIndex := 72, attributes := #[] }, { accessFlags := 2, nameIndex := 242, descriptorIndex := 72, attributes := #[] }, { accessFlags := 2, nameIndex := 350, descriptorIndex := 72, attributes := #[] }, { accessFlags := 2, nameIndex := 36, descriptorIndex := 37, attributes := #[] }, { accessFlags := 2, nameIndex := 41, descriptorIndex := 23, attributes := #[] }, { accessFlags := 2, nameIndex := 75, descriptorIndex := 76, attributes := #[] }, { accessFlags := 2, nameIndex := 79, descriptorIndex := 80, attributes := #[] }, { accessFlags := 2, nameIndex := 374, descriptorIndex := 23, attributes := #[] }, { accessFlags := 2, nameIndex := 371, descriptorIndex := 80, attributes := #[] }, { accessFlags := 2, nameIndex := 412, descriptorIndex := 23, attributes := #[] }, { accessFlags := 24, nameIndex := 453, descriptorIndex := 454, attributes := #[] }])
  fields := #[{ name := "MAX_ENTRY_BYTES", type := .int, accessFlags := 24, slot := 0, constantValue := 0 }, { name := "MAX_BYTES", type := .int, accessFlags := 24, slot := 1, constantValue := 0 }, { name := "MAX_HEAD_BYTES", type := .int, accessFlags := 24, slot := 2, constantValue := 0 }, { name := "NUMBER_BITS", type := .int, accessFlags := 26, slot := 3, constantValue := 0 }, { name := "CUT_SHORT", type := .int, accessFlags := 24, slot := 4, constantValue := 0 }, { name := "MALFORMED", type := .int, accessFlags := 24, slot := 5, constantValue := 0 }, { name := "NONE_DELETED", type := (.object "java/util/BitSet"), accessFlags := 24, slot := 6, constantValue := 0 }, { name := "own", type := (.array .byte), accessFlags := 2, slot := 0, constantValue := 0 }, { name := "bytes", type := (.array .byte), accessFlags := 2, slot := 1, constantValue := 0 }, { name := "offset", type := .int, accessFlags := 2, slot := 2, constantValue := 0 }, { name := "length", type := .int, accessFlags := 2, slot := 3, constantValue := 0 }, { name := "count", type := .int, accessFlags := 2, slot := 4, constantValue := 0 }, { name := "first", type := .int, accessFlags := 2, slot := 5, constantValue := 0 }, { name := "firstFrequency", type := .int, accessFlags := 2, slot := 6, constantValue := 0 }, { name := "firstLength", type := .int, accessFlags := 2, slot := 7, constantValue := 0 }, { name := "last", type := .int, accessFlags := 2, slot := 8, constantValue := 0 }, { name := "positioned", type := .boolean, accessFlags := 2, slot := 9, constantValue := 0 }, { name := "ownPositions", type := (.array .byte), accessFlags := 2, slot := 10, constantValue := 0 }, { name := "positionBytes", type := (.array .byte), accessFlags := 2, slot := 11, constantValue := 0 }, { name := "positionsOffset", type := .int, accessFlags := 2, slot := 12, constantValue := 0 }, { name := "positionsLength", type := .int, accessFlags := 2, slot := 13, constantValue := 0 }, { name := "frequencies", type := (.array .int), accessFlags := 2, slot := 14, constantValue := 0 }, { name := "readDocument", type := .long, accessFlags := 2, slot := 15, constantValue := 0 }, { name := "readOccurrences", type := .long, accessFlags := 2, slot := 16, constantValue := 0 }, { name := "readMalformed", type := .int, accessFlags := 2, slot := 17, constantValue := 0 }, { name := "readEntries", type := .int, accessFlags := 2, slot := 18, constantValue := 0 }, { name := "blocks", type := (.object "com/example/sedimenta/sedimenta/TermBlocks"), accessFlags := 2, slot := 19, constantValue := 0 }, { name := "ownBlocks", type := (.object "com/example/sedimenta/sedimenta/TermBlocks"), accessFlags := 2, slot := 20, constantValue := 0 }, { name := "foundBlocks", type := (.object "com/example/sedimenta/sedimenta/TermBlocks"), accessFlags := 2, slot := 21, constantValue := 0 }, { name := "entriesChecked", type := .boolean, accessFlags := 2, slot := 22, constantValue := 0 }, { name := "documentCount", type := .int, accessFlags := 2, slot := 23, constantValue := 0 }, { name := "source", type := (.object "com/example/sedimenta/sedimenta/store/StoreInput"), accessFlags := 2, slot := 24, constantValue := 0 }, { name := "sourceEntry", type := .long, accessFlags := 2, slot := 25, constantValue := 0 }, { name := "decodedEnd", type := .int, accessFlags := 2, slot := 26, constantValue := 0 }, { name := "decodedLast", type := .long, accessFlags := 2, slot := 27, constantValue := 0 }, { name := "readEnd", type := .int, accessFlags := 2, slot := 28, constantValue := 0 }, { name := "NOT_AS_BLOCKS", type := (.object "java/lang/String"), accessFlags := 24, slot := 7, constantValue := 0 }]
  methods := #[k3m0, k3m1, k3m2, k3m3, k3m4, k3m5, k3m6, k3m7, k3m8, k3m9, k3m10, k3m11, k3m12, k3m13, k3m14, k3m15, k3m16]
  instanceTypes := #[(.array .byte), (.array .byte), .int, .int, .int, .int, .int, .int, .int, .boolean, (.array .byte), (.array .byte), .int, .int, (.array .int), .long, .long, .int, .int, (.object "com/example/sedimenta/sedimenta/TermBlocks"), (.object "com/example/sedimenta/sedimenta/TermBlocks"), (.object "com/example/sedimenta/sedimenta/TermBlocks"), .boolean, .int, (.object "com/example/sedimenta/sedimenta/store/StoreInput"), .long, .int, .long, .int]
  staticTypes := #[.int, .int, .int, .int, .int, .int, (.object "java/util/BitSet"), (.object "java/lang/String")]
  resolved := Array.replicate 522 none
  statics := some 0 }

def pool4 : Array CpInfo := pool [(1, .class_ 2), (0, u "com/example/sedimenta/sedimenta/store/VarInts"), (3, .class_ 8), (1, u "java/lang/Object"), (0, u "<init>"), (0, u "()V"), (6, .methodref 1 18), (0, .nameAndType 19 20), (0, u "putLonger"), (0, u "([BIJ)I"), (0, .methodref 1 22), (0, .nameAndType 23 24), (0, u "requireNonNegative"), (0, u "(J)V"), (0, .long 128), (46, u "MAX_VINT_BYTES"), (0, u "I"), (2, u "MAX_VLONG_BYTES"), (1, u "CUT_SHORT"), (1, u "TOO_LONG"), (1, u "PAST_INT"), (1, u "NOT_ASCENDING"), (1, u "VINT_BITS"), (1, u "INT_LAST_BYTE"), (4, u "put")] 35

def k4m0 : Method := { name := "<init>", desc := "()V", sig := { parameters := [], returnType := none }, accessFlags := 2, code := none }
def k4c1 : Code := { maxStack := 4, maxLocals := 5, code := prog_202_method_3_code, exceptionTable := #[], attributes := #[] }
def k4m1 : Method := { name := "put", desc := "([BIJ)I", sig := { parameters := [(.array .byte), .int, .long], returnType := some .int }, accessFlags := 9, code := some k4c1 }
def k4c2 : Code := { maxStack := 6, maxLocals := 7, code := prog_202_method_4_code, exceptionTable := #[], attributes := #[] }
def k4m2 : Method := { name := "putLonger", desc := "([BIJ)I", sig := { parameters := [(.array .byte), .int, .long], returnType := some .int }, accessFlags := 10, code := some k4c2 }
def k4c3 : Code := { maxStack := 4, maxLocals := 2, code := prog_202_method_15_code, exceptionTable := #[], attributes := #[] }
def k4m3 : Method := { name := "requireNonNegative", desc := "(J)V", sig := { parameters := [.long], returnType := none }, accessFlags := 10, code := some k4c3 }
/-- com/example/sedimenta/sedimenta/store/VarInts -/
def k4 : Class := { plain "com/example/sedimenta/sedimenta/store/VarInts" (some 0) with
  accessFlags := 49
  interfaces := #[]
  cf := some (fileOf pool4 1 #[] #[{ accessFlags := 2, nameIndex := 9, descriptorIndex := 10, attributes := #[] }, { accessFlags := 9, nameIndex := 93, descriptorIndex := 20, attributes := #[] }, { accessFlags := 10, nameIndex := 19, descriptorIndex := 20, attributes := #[] }, { accessFlags := 10, nameIndex := 23, descriptorIndex := 24, attributes := #[] }] 49 6 #[] #[{ accessFlags := 25, nameIndex := 72, descriptorIndex := 73, attributes := #[] }, { accessFlags := 25, nameIndex := 76, descriptorIndex := 73, attributes := #[] }, { accessFlags := 25, nameIndex := 78, descriptorIndex := 73, attributes := #[] }, { accessFlags := 25, nameIndex := 80, descriptorIndex := 73, attributes := #[] }, { accessFlags := 25, nameIndex := 82, descriptorIndex := 73, attributes := #[] }, { accessFlags := 25, nameIndex := 84, descriptorIndex := 73, attributes := #[] }, { accessFlags := 26, nameIndex := 86, descriptorIndex := 73, attributes := #[] }, { accessFlags := 26, nameIndex := 88, descriptorIndex := 73, attributes := #[] }])
  fields := #[{ name := "MAX_VINT_BYTES", type := .int, accessFlags := 25, slot := 0, constantValue := 0 }, { name := "MAX_VLONG_BYTES", type := .int, accessFlags := 25, slot := 1, constantValue := 0 }, { name := "CUT_SHORT", type := .int, accessFlags := 25, slot := 2, constantValue := 0 }, { name := "TOO_LONG", type := .int, accessFlags := 25, slot := 3, constantValue := 0 }, { name := "PAST_INT", type := .int, accessFlags := 25, slot := 4, constantValue := 0 }, { name := "NOT_ASCENDING", type := .int, accessFlags := 25, slot := 5, constantValue := 0 }, { name := "VINT_BITS", type := .int, accessFlags := 26, slot := 6, constantValue := 0 }, { name := "INT_LAST_BYTE", type := .int, accessFlags := 26, slot := 7, constantValue := 0 }]
  methods := #[k4m0, k4m1, k4m2, k4m3]
  instanceTypes := #[]
  staticTypes := #[.int, .int, .int, .int, .int, .int, .int, .int]
  resolved := Array.replicate 129 none
  statics := none }

def pool5 : Array CpInfo := pool [(2, .class_ 4), (1, u "java/lang/Object"), (0, u "<init>"), (0, u "()V"), (1, .class_ 10), (1, u "java/lang/System"), (0, u "allowSecurityManager"), (0, u "I"), (16, u "cons"), (0, u "Ljava/io/Console;"), (77, .class_ 110), (1, u "java/lang/System$CallersHolder"), (43, u "initialErrStream"), (0, u "Ljava/io/PrintStream;"), (19, u "security"), (0, u "Ljava/lang/SecurityManager;"), (31, .class_ 209), (0, u "java/lang/System$1"), (7, u "props"), (0, u "Ljava/util/Properties;"), (2, u "lineSeparator"), (0, u "Ljava/lang/String;"), (96, .class_ 321), (1, u "java/lang/System$LoggerFinder"), (5, .class_ 328), (0, u "java/lang/System$Logger"), (67, u "err"), (2, u "out"), (91, u "notSupportedJnuEncoding"), (15, u "in"), (17, u "initialIn"), (0, u "Ljava/io/InputStream;"), (35, u "bootLayer"), (0, u "Ljava/lang/ModuleLayer;"), (99, .class_ 664), (0, u "java/lang/System$2"), (9, u "NEVER"), (2, u "MAYBE"), (49, u "arraycopy"), (0, u "(Ljava/lang/Object;ILjava/lang/Object;II)V"), (72, .class_ 802), (0, u "java/lang/System$Logger$Level")] 31

def k5m0 : Method := { name := "<init>", desc := "()V", sig := { parameters := [], returnType := none }, accessFlags := 2, code := none }
def k5m1 : Method := { name := "arraycopy", desc := "(Ljava/lang/Object;ILjava/lang/Object;II)V", sig := { parameters := [(.object "java/lang/Object"), .int, (.object "java/lang/Object"), .int, .int], returnType := none }, accessFlags := 265, code := none }
/-- java/lang/System -/
def k5 : Class := { plain "java/lang/System" (some 0) with
  accessFlags := 49
  interfaces := #[]
  cf := some (fileOf pool5 8 #[.nestMembers #[319, 327, 801, 108, 663, 208]] #[{ accessFlags := 2, nameIndex := 5, descriptorIndex := 6, attributes := #[] }, { accessFlags := 265, nameIndex := 727, descriptorIndex := 728, attributes := #[] }] 49 2 #[] #[{ accessFlags := 25, nameIndex := 507, descriptorIndex := 526, attributes := #[] }, { accessFlags := 25, nameIndex := 399, descriptorIndex := 155, attributes := #[] }, { accessFlags := 25, nameIndex := 396, descriptorIndex := 155, attributes := #[] }, { accessFlags := 10, nameIndex := 525, descriptorIndex := 526, attributes := #[] }, { accessFlags := 26, nameIndex := 674, descriptorIndex := 12, attributes := #[] }, { accessFlags := 26, nameIndex := 677, descriptorIndex := 12, attributes := #[] }, { accessFlags := 10, nameIndex := 11, descriptorIndex := 12, attributes := #[] }, { accessFlags := 74, nameIndex := 175, descriptorIndex := 176, attributes := #[] }, { accessFlags := 10, nameIndex := 491, descriptorIndex := 222, attributes := #[] }, { accessFlags := 74, nameIndex := 29, descriptorIndex := 30, attributes := #[] }, { accessFlags := 74, nameIndex := 154, descriptorIndex := 155, attributes := #[] }, { accessFlags := 10, nameIndex := 217, descriptorIndex := 218, attributes := #[] }, { accessFlags := 10, nameIndex := 221, descriptorIndex := 222, attributes := #[] }, { accessFlags := 8, nameIndex := 562, descriptorIndex := 563, attributes := #[] }])
  fields := #[{ name := "in", type := (.object "java/io/InputStream"), accessFlags := 25, slot := 0, constantValue := 0 }, { name := "out", type := (.object "java/io/PrintStream"), accessFlags := 25, slot := 1, constantValue := 0 }, { name := "err", type := (.object "java/io/PrintStream"), accessFlags := 25, slot := 2, constantValue := 0 }, { name := "initialIn", type := (.object "java/io/InputStream"), accessFlags := 10, slot := 3, constantValue := 0 }, { name := "NEVER", type := .int, accessFlags := 26, slot := 4, constantValue := 0 }, { name := "MAYBE", type := .int, accessFlags := 26, slot := 5, constantValue := 0 }, { name := "allowSecurityManager", type := .int, accessFlags := 10, slot := 6, constantValue := 0 }, { name := "security", type := (.object "java/lang/SecurityManager"), accessFlags := 74, slot := 7, constantValue := 0 }, { name := "notSupportedJnuEncoding", type := (.object "java/lang/String"), accessFlags := 10, slot := 8, constantValue := 0 }, { name := "cons", type := (.object "java/io/Console"), accessFlags := 74, slot := 9, constantValue := 0 }, { name := "initialErrStream", type := (.object "java/io/PrintStream"), accessFlags := 74, slot := 10, constantValue := 0 }, { name := "props", type := (.object "java/util/Properties"), accessFlags := 10, slot := 11, constantValue := 0 }, { name := "lineSeparator", type := (.object "java/lang/String"), accessFlags := 10, slot := 12, constantValue := 0 }, { name := "bootLayer", type := (.object "java/lang/ModuleLayer"), accessFlags := 8, slot := 13, constantValue := 0 }]
  methods := #[k5m0, k5m1]
  instanceTypes := #[]
  staticTypes := #[(.object "java/io/InputStream"), (.object "java/io/PrintStream"), (.object "java/io/PrintStream"), (.object "java/io/InputStream"), .int, .int, .int, (.object "java/lang/SecurityManager"), (.object "java/lang/String"), (.object "java/io/Console"), (.object "java/io/PrintStream"), (.object "java/util/Properties"), (.object "java/lang/String"), (.object "java/lang/ModuleLayer")]
  resolved := Array.replicate 834 none
  statics := none }

def pool6 : Array CpInfo := pool [(1, .class_ 2), (0, u "java/lang/Cloneable"), (0, .class_ 4), (0, u "java/lang/Object")] 2

/-- java/lang/Cloneable -/
def k6 : Class := { plain "java/lang/Cloneable" (some 0) with
  accessFlags := 1537
  interfaces := #[]
  cf := some (fileOf pool6 1 #[] #[] 1537 3 #[] #[])
  fields := #[]
  methods := #[]
  instanceTypes := #[]
  staticTypes := #[]
  resolved := Array.replicate 7 none
  statics := none }

def pool7 : Array CpInfo := pool [(1, .class_ 2), (0, u "java/io/Serializable"), (0, .class_ 4), (0, u "java/lang/Object")] 2

/-- java/io/Serializable -/
def k7 : Class := { plain "java/io/Serializable" (some 0) with
  accessFlags := 1537
  interfaces := #[]
  cf := some (fileOf pool7 1 #[] #[] 1537 3 #[] #[])
  fields := #[]
  methods := #[]
  instanceTypes := #[]
  staticTypes := #[]
  resolved := Array.replicate 7 none
  statics := none }

def pool8 : Array CpInfo := pool [(1, .class_ 2), (0, u "java/util/BitSet"), (0, .fieldref 1 4), (0, .nameAndType 5 6), (0, u "$assertionsDisabled"), (0, u "Z"), (0, .fieldref 1 8), (0, .nameAndType 9 10), (0, u "wordsInUse"), (0, u "I"), (2, u "words"), (0, u "[J"), (4, u "<init>"), (0, u "()V"), (1, .class_ 23), (0, u "java/lang/Object"), (2, u "sizeIsSticky"), (25, .methodref 1 53), (0, .nameAndType 54 55), (0, u "wordIndex"), (0, u "(I)I"), (0, .methodref 1 57), (0, .nameAndType 58 20), (0, u "checkInvariants"), (21, u "get"), (188, .class_ 270), (0, u "java/util/BitSet$1BitSetSpliterator"), (22, u "serialPersistentFields"), (0, u "[Ljava/io/ObjectStreamField;"), (0, .class_ 296), (0, u "java/lang/Cloneable"), (0, .class_ 298), (0, u "java/io/Serializable"), (0, u "ADDRESS_BITS_PER_WORD"), (2, u "BITS_PER_WORD"), (1, u "BIT_INDEX_MASK"), (1, u "WORD_MASK"), (0, u "J"), (0, u "serialVersionUID"), (42, u "(I)Z")] 65

def k8c0 : Code := { maxStack := 2, maxLocals := 1, code := jdk_92_method_1_code, exceptionTable := #[], attributes := #[] }
def k8m0 : Method := { name := "wordIndex", desc := "(I)I", sig := { parameters := [.int], returnType := some .int }, accessFlags := 10, code := some k8c0 }
def k8c1 : Code := { maxStack := 4, maxLocals := 1, code := jdk_92_method_2_code, exceptionTable := #[], attributes := #[] }
def k8m1 : Method := { name := "checkInvariants", desc := "()V", sig := { parameters := [], returnType := none }, accessFlags := 2, code := some k8c1 }
def k8m2 : Method := { name := "<init>", desc := "()V", sig := { parameters := [], returnType := none }, accessFlags := 1, code := none }
def k8c3 : Code := { maxStack := 5, maxLocals := 3, code := jdk_92_method_26_code, exceptionTable := #[], attributes := #[] }
def k8m3 : Method := { name := "get", desc := "(I)Z", sig := { parameters := [.int], returnType := some .boolean }, accessFlags := 1, code := some k8c3 }
/-- java/util/BitSet -/
def k8 : Class := { plain "java/util/BitSet" (some 0) with
  accessFlags := 33
  interfaces := #[6, 7]
  cf := some (fileOf pool8 1 #[.nestMembers #[269]] #[{ accessFlags := 10, nameIndex := 54, descriptorIndex := 55, attributes := #[] }, { accessFlags := 2, nameIndex := 58, descriptorIndex := 20, attributes := #[] }, { accessFlags := 1, nameIndex := 19, descriptorIndex := 20, attributes := #[] }, { accessFlags := 1, nameIndex := 80, descriptorIndex := 351, attributes := #[] }] 33 22 #[295, 297] #[{ accessFlags := 26, nameIndex := 299, descriptorIndex := 10, attributes := #[] }, { accessFlags := 26, nameIndex := 302, descriptorIndex := 10, attributes := #[] }, { accessFlags := 26, nameIndex := 304, descriptorIndex := 10, attributes := #[] }, { accessFlags := 26, nameIndex := 306, descriptorIndex := 307, attributes := #[] }, { accessFlags := 26, nameIndex := 293, descriptorIndex := 294, attributes := #[] }, { accessFlags := 2, nameIndex := 13, descriptorIndex := 14, attributes := #[] }, { accessFlags := 130, nameIndex := 9, descriptorIndex := 10, attributes := #[] }, { accessFlags := 130, nameIndex := 26, descriptorIndex := 6, attributes := #[] }, { accessFlags := 26, nameIndex := 308, descriptorIndex := 307, attributes := #[] }, { accessFlags := 4120, nameIndex := 5, descriptorIndex := 6, attributes := #[] }])
  fields := #[{ name := "ADDRESS_BITS_PER_WORD", type := .int, accessFlags := 26, slot := 0, constantValue := 0 }, { name := "BITS_PER_WORD", type := .int, accessFlags := 26, slot := 1, constantValue := 0 }, { name := "BIT_INDEX_MASK", type := .int, accessFlags := 26, slot := 2, constantValue := 0 }, { name := "WORD_MASK", type := .long, accessFlags := 26, slot := 3, constantValue := 0 }, { name := "serialPersistentFields", type := (.array (.object "java/io/ObjectStreamField")), accessFlags := 26, slot := 4, constantValue := 0 }, { name := "words", type := (.array .long), accessFlags := 2, slot := 0, constantValue := 0 }, { name := "wordsInUse", type := .int, accessFlags := 130, slot := 1, constantValue := 0 }, { name := "sizeIsSticky", type := .boolean, accessFlags := 130, slot := 2, constantValue := 0 }, { name := "serialVersionUID", type := .long, accessFlags := 26, slot := 5, constantValue := 0 }, { name := "$assertionsDisabled", type := .boolean, accessFlags := 4120, slot := 6, constantValue := 0 }]
  methods := #[k8m0, k8m1, k8m2, k8m3]
  instanceTypes := #[(.array .long), .int, .boolean]
  staticTypes := #[.int, .int, .int, .long, (.array (.object "java/io/ObjectStreamField")), .long, .boolean]
  resolved := Array.replicate 417 none
  statics := some 1 }

def pool9 : Array CpInfo := pool [(2, .class_ 4), (1, u "java/lang/Object"), (0, u "<init>"), (0, u "()V"), (7, .class_ 16), (1, u "java/util/Arrays"), (57, .class_ 76), (1, u "java/util/Arrays$NaturalOrder"), (36, .class_ 115), (1, u "java/util/Arrays$LegacyMergeSort"), (1, u "Z"), (32, .methodref 151 152), (0, .class_ 153), (0, .nameAndType 154 155), (0, u "java/lang/System"), (0, u "arraycopy"), (0, u "(Ljava/lang/Object;ILjava/lang/Object;II)V"), (146, u "copyOf"), (1, .methodref 305 306), (0, .class_ 307), (0, .nameAndType 308 309), (0, u "java/lang/Math"), (0, u "min"), (0, u "(II)I"), (65, .class_ 376), (0, u "java/util/Arrays$ArrayList"), (68, u "$assertionsDisabled"), (269, u "MIN_ARRAY_SORT_GRAN"), (0, u "I"), (2, u "INSERTIONSORT_THRESHOLD"), (149, u "([BI)[B"), (105, .class_ 976), (0, u "java/util/Arrays$ArrayItr")] 52

def k9m0 : Method := { name := "<init>", desc := "()V", sig := { parameters := [], returnType := none }, accessFlags := 2, code := none }
def k9c1 : Code := { maxStack := 6, maxLocals := 3, code := jdk_65_method_121_code, exceptionTable := #[], attributes := #[] }
def k9m1 : Method := { name := "copyOf", desc := "([BI)[B", sig := { parameters := [(.array .byte), .int], returnType := some (.array .byte) }, accessFlags := 9, code := some k9c1 }
/-- java/util/Arrays -/
def k9 : Class := { plain "java/util/Arrays" (some 0) with
  accessFlags := 49
  interfaces := #[]
  cf := some (fileOf pool9 14 #[.nestMembers #[975, 375, 113, 74]] #[{ accessFlags := 2, nameIndex := 5, descriptorIndex := 6, attributes := #[] }, { accessFlags := 9, nameIndex := 302, descriptorIndex := 869, attributes := #[] }] 49 2 #[] #[{ accessFlags := 26, nameIndex := 715, descriptorIndex := 716, attributes := #[] }, { accessFlags := 26, nameIndex := 719, descriptorIndex := 716, attributes := #[] }, { accessFlags := 4120, nameIndex := 445, descriptorIndex := 117, attributes := #[] }])
  fields := #[{ name := "MIN_ARRAY_SORT_GRAN", type := .int, accessFlags := 26, slot := 0, constantValue := 0 }, { name := "INSERTIONSORT_THRESHOLD", type := .int, accessFlags := 26, slot := 1, constantValue := 0 }, { name := "$assertionsDisabled", type := .boolean, accessFlags := 4120, slot := 2, constantValue := 0 }]
  methods := #[k9m0, k9m1]
  instanceTypes := #[]
  staticTypes := #[.int, .int, .boolean]
  resolved := Array.replicate 1029 none
  statics := none }

/-- the primitive byte -/
def k10 : Class := { plain "byte" none with kind := .primitive 'B', accessFlags := 0x411 }
/-- [B -/
def k11 : Class := { plain "[B" (some 0) with kind := .array 10 .byte, interfaces := #[6, 7], accessFlags := 1041 }

/-- the primitive int -/
def k12 : Class := { plain "int" none with kind := .primitive 'I', accessFlags := 0x411 }
/-- [I -/
def k13 : Class := { plain "[I" (some 0) with kind := .array 12 .int, interfaces := #[6, 7], accessFlags := 1041 }

def heap : Heap := #[{ cls := 3, slots := #[.int 0, .int 0, .int 0, .int 0, .int 0, .int 0, .ref 2, .null], vm := .statics 3 },
  { cls := 8, slots := #[.int 0, .int 0, .int 0, .long 0, .null, .long 0, .int 1], vm := .statics 8 },
  { cls := 8, slots := #[.null, .int 0, .int 0], vm := .none }]
def classes : Array Class := #[k0, k1, k2, k3, k4, k5, k6, k7, k8, k9, k10, k11, k12, k13]
def interned : List (Array UInt16 × Addr) := []
def slotsUsed : Nat := 18
def theMethod : MethodId := ⟨1, 3⟩
def args0 : Array Value := #[.int 5, .int 3, .int 4, .int 13, .int 3, .int 4]
def aboutOver (below : List Frame) : State where
  vm := { classes := classes, interned := interned.toArray }
  heap := heap
  slotsUsed := slotsUsed
  threads := #[{ frames := .invoking theMethod args0 :: below }]
def below0 : List Frame := [.native { method := ⟨0, 0⟩, args := #[] }]
def about1 : State := aboutOver below0
def p0 : Program := .bare "" "" ""
def e0 : Env := launch0.env 0 0 0
theorem w_frames : about1.frames = Frame.invoking theMethod args0 :: below0 := rfl
set_option maxRecDepth 65536 in
theorem w_args : argsFit about1.vm theMethod args0 = true := by decide +kernel
set_option maxRecDepth 65536 in
theorem w_heap : heapFits about1 = true := by decide +kernel
set_option maxRecDepth 65536 in
theorem w_runnable : about1.curStatus? = some .runnable := by decide +kernel
set_option maxRecDepth 65536 in
theorem w_alone : about1.alone = true := by decide +kernel
set_option maxRecDepth 65536 in
theorem w_named : about1.methodNamed? x = some theMethod := by decide +kernel
set_option maxRecDepth 65536 in
theorem w_hears : about1.hears theMethod below0 = true := by decide +kernel
set_option maxRecDepth 65536 in
theorem w_ripe : about1.ripe theMethod args0 below0 = true := by decide +kernel
theorem w_running : about1.status = .running := rfl
set_option maxRecDepth 65536 in
theorem w_room : about1.hasRoom e0.platform room_1 = true :=
  launch0.hasRoom_least _ room_1 (by decide +kernel) (by decide +kernel) (by decide +kernel) (by decide +kernel) (by decide +kernel) (by decide +kernel)
theorem allAtoms_all (ts : List Jvm.Cond) (a : Array Jvm.Value) (st : Jvm.State) : (allAtoms ts).before a st = ts.all (fun c => c.before a st) := by
  induction ts with
  | nil => rfl
  | cons c t ih =>
    show (Jvm.Cond.and c (allAtoms t)).before a st = _
    rw [Jvm.Cond.before_and, ih, List.all_cons]
def words1 : List Jvm.Cond := Jvm.Cond.code x code maxLocals ret :: tables_1
/-- a 'code' word, met by the world's own term for the bytes: nothing is compared byte by byte -/
theorem code_word {y : MethodName} {bytes : ByteArray} {mx : Nat} {rt : Option FieldType} {a : Array Value} {s : State} {m : MethodId} {meth : Method} {c : Code} (h1 : s.methodNamed? y = some m) (h2 : s.vm.method? m = some meth) (h3 : meth.code = some c) (h4 : c.code = bytes)
    (h5 : (c.maxLocals == mx && c.exceptionTable.isEmpty && decide (c.maxStack ≤ mostOperands) && decide (meth.sig.returnType = rt) && !meth.locks && decide (parseMethodDescriptor y.desc = some meth.sig)) = true) : (Jvm.Cond.code y bytes mx rt).before a s = true := by
  simp only [Bool.and_eq_true, beq_iff_eq, Bool.not_eq_true', decide_eq_true_eq] at h5
  obtain ⟨⟨⟨⟨⟨g1, g2⟩, g3⟩, g4⟩, g5⟩, g6⟩ := h5
  simp [Cond.before, Cond.holds, Cond.value, h1, h2, h3, h4, g1, g2, g3, g4, g5, g6]
def isCode : Jvm.Cond → Bool
  | .code _ _ _ _ => true
  | _ => false
theorem all_split {L : List Jvm.Cond} {P : Jvm.Cond → Bool} (h1 : L.all (fun c => isCode c || P c) = true) (h2 : ∀ c ∈ L.filter isCode, P c = true) : L.all P = true := by
  refine List.all_eq_true.mpr fun c hc => ?_
  have h := List.all_eq_true.mp h1 c hc
  rcases Bool.eq_false_or_eq_true (isCode c) with hi | hi
  · exact h2 c (List.mem_filter.mpr ⟨hc, hi⟩)
  · simpa [hi] using h
set_option maxRecDepth 65536 in
theorem w_c0 : (Jvm.Cond.code x code maxLocals ret).before args0 about1 = true := code_word (m := ⟨1, 3⟩) (meth := k1m3) (c := k1c3) (by decide +kernel) rfl rfl rfl (by decide +kernel)
set_option maxRecDepth 65536 in
theorem w_c1 : (Jvm.Cond.code ({ cls := "java/lang/Math", name := "max", desc := "(II)I" } : Jvm.MethodName) jdk_29_method_65_code (2 : Nat) (Option.some Jvm.ClassFile.FieldType.int)).before args0 about1 = true := code_word (m := ⟨2, 1⟩) (meth := k2m1) (c := k2c1) (by decide +kernel) rfl rfl rfl (by decide +kernel)
set_option maxRecDepth 65536 in
theorem w_c2 : (Jvm.Cond.code ({ cls := "com/example/sedimenta/sedimenta/Postings", name := "<init>", desc := "()V" } : Jvm.MethodName) prog_81_method_1_code (1 : Nat) (Option.none : Option Jvm.ClassFile.FieldType)).before args0 about1 = true := code_word (m := ⟨3, 0⟩) (meth := k3m0) (c := k3c0) (by decide +kernel) rfl rfl rfl (by decide +kernel)
set_option maxRecDepth 65536 in
theorem w_c3 : (Jvm.Cond.code ({ cls := "java/lang/Object", name := "<init>", desc := "()V" } : Jvm.MethodName) object_method_1_code (1 : Nat) (Option.none : Option Jvm.ClassFile.FieldType)).before args0 about1 = true := code_word (m := ⟨0, 0⟩) (meth := k0m0) (c := k0c0) (by decide +kernel) rfl rfl rfl (by decide +kernel)
set_option maxRecDepth 65536 in
theorem w_c4 : (Jvm.Cond.code ({ cls := "com/example/sedimenta/sedimenta/Postings", name := "add", desc := "(II)V" } : Jvm.MethodName) prog_81_method_13_code (4 : Nat) (Option.none : Option Jvm.ClassFile.FieldType)).before args0 about1 = true := code_word (m := ⟨3, 5⟩) (meth := k3m5) (c := k3c5) (by decide +kernel) rfl rfl rfl (by decide +kernel)
set_option maxRecDepth 65536 in
theorem w_c5 : (Jvm.Cond.code ({ cls := "com/example/sedimenta/sedimenta/Postings", name := "room", desc := "(I)V" } : Jvm.MethodName) prog_81_method_54_code (2 : Nat) (Option.none : Option Jvm.ClassFile.FieldType)).before args0 about1 = true := code_word (m := ⟨3, 12⟩) (meth := k3m12) (c := k3c12) (by decide +kernel) rfl rfl rfl (by decide +kernel)
set_option maxRecDepth 65536 in
theorem w_c6 : (Jvm.Cond.code ({ cls := "com/example/sedimenta/sedimenta/Postings", name := "putEntry", desc := "([BIII)I" } : Jvm.MethodName) prog_81_method_58_code (5 : Nat) (Option.some Jvm.ClassFile.FieldType.int)).before args0 about1 = true := code_word (m := ⟨3, 15⟩) (meth := k3m15) (c := k3c15) (by decide +kernel) rfl rfl rfl (by decide +kernel)
set_option maxRecDepth 65536 in
theorem w_c7 : (Jvm.Cond.code ({ cls := "com/example/sedimenta/sedimenta/Postings", name := "code", desc := "(II)J" } : Jvm.MethodName) prog_81_method_60_code (2 : Nat) (Option.some Jvm.ClassFile.FieldType.long)).before args0 about1 = true := code_word (m := ⟨3, 16⟩) (meth := k3m16) (c := k3c16) (by decide +kernel) rfl rfl rfl (by decide +kernel)
set_option maxRecDepth 65536 in
theorem w_c8 : (Jvm.Cond.code ({ cls := "com/example/sedimenta/sedimenta/store/VarInts", name := "put", desc := "([BIJ)I" } : Jvm.MethodName) prog_202_method_3_code (5 : Nat) (Option.some Jvm.ClassFile.FieldType.int)).before args0 about1 = true := code_word (m := ⟨4, 1⟩) (meth := k4m1) (c := k4c1) (by decide +kernel) rfl rfl rfl (by decide +kernel)
set_option maxRecDepth 65536 in
theorem w_c9 : (Jvm.Cond.code ({ cls := "com/example/sedimenta/sedimenta/Postings", name := "addPositions", desc := "([BII)V" } : Jvm.MethodName) prog_81_method_16_code (5 : Nat) (Option.none : Option Jvm.ClassFile.FieldType)).before args0 about1 = true := code_word (m := ⟨3, 6⟩) (meth := k3m6) (c := k3c6) (by decide +kernel) rfl rfl rfl (by decide +kernel)
set_option maxRecDepth 65536 in
theorem w_c10 : (Jvm.Cond.code ({ cls := "com/example/sedimenta/sedimenta/Postings", name := "positionsRoom", desc := "(I)V" } : Jvm.MethodName) prog_81_method_55_code (2 : Nat) (Option.none : Option Jvm.ClassFile.FieldType)).before args0 about1 = true := code_word (m := ⟨3, 13⟩) (meth := k3m13) (c := k3c13) (by decide +kernel) rfl rfl rfl (by decide +kernel)
set_option maxRecDepth 65536 in
theorem w_c11 : (Jvm.Cond.code ({ cls := "com/example/sedimenta/sedimenta/Postings", name := "take", desc := "(Lcom/example/sedimenta/sedimenta/Postings;)V" } : Jvm.MethodName) prog_81_method_3_code (2 : Nat) (Option.none : Option Jvm.ClassFile.FieldType)).before args0 about1 = true := code_word (m := ⟨3, 1⟩) (meth := k3m1) (c := k3c1) (by decide +kernel) rfl rfl rfl (by decide +kernel)
set_option maxRecDepth 65536 in
theorem w_c12 : (Jvm.Cond.code ({ cls := "com/example/sedimenta/sedimenta/Postings", name := "first", desc := "()I" } : Jvm.MethodName) prog_81_method_10_code (1 : Nat) (Option.some Jvm.ClassFile.FieldType.int)).before args0 about1 = true := code_word (m := ⟨3, 2⟩) (meth := k3m2) (c := k3c2) (by decide +kernel) rfl rfl rfl (by decide +kernel)
set_option maxRecDepth 65536 in
theorem w_c13 : (Jvm.Cond.code ({ cls := "com/example/sedimenta/sedimenta/Postings", name := "last", desc := "()I" } : Jvm.MethodName) prog_81_method_11_code (1 : Nat) (Option.some Jvm.ClassFile.FieldType.int)).before args0 about1 = true := code_word (m := ⟨3, 3⟩) (meth := k3m3) (c := k3c3) (by decide +kernel) rfl rfl rfl (by decide +kernel)
set_option maxRecDepth 65536 in
theorem w_c14 : (Jvm.Cond.code ({ cls := "com/example/sedimenta/sedimenta/Postings", name := "positioned", desc := "()Z" } : Jvm.MethodName) prog_81_method_12_code (1 : Nat) (Option.some Jvm.ClassFile.FieldType.boolean)).before args0 about1 = true := code_word (m := ⟨3, 4⟩) (meth := k3m4) (c := k3c4) (by decide +kernel) rfl rfl rfl (by decide +kernel)
set_option maxRecDepth 65536 in
theorem w_c15 : (Jvm.Cond.code ({ cls := "com/example/sedimenta/sedimenta/Postings", name := "mostBytes", desc := "()I" } : Jvm.MethodName) prog_81_method_34_code (1 : Nat) (Option.some Jvm.ClassFile.FieldType.int)).before args0 about1 = true := code_word (m := ⟨3, 7⟩) (meth := k3m7) (c := k3c7) (by decide +kernel) rfl rfl rfl (by decide +kernel)
set_option maxRecDepth 65536 in
theorem w_c16 : (Jvm.Cond.code ({ cls := "com/example/sedimenta/sedimenta/Postings", name := "mostHeadBytes", desc := "()I" } : Jvm.MethodName) prog_81_method_35_code (1 : Nat) (Option.some Jvm.ClassFile.FieldType.int)).before args0 about1 = true := code_word (m := ⟨3, 8⟩) (meth := k3m8) (c := k3c8) (by decide +kernel) rfl rfl rfl (by decide +kernel)
set_option maxRecDepth 65536 in
theorem w_c17 : (Jvm.Cond.code ({ cls := "com/example/sedimenta/sedimenta/Postings", name := "keptInBlocks", desc := "()Z" } : Jvm.MethodName) prog_81_method_36_code (1 : Nat) (Option.some Jvm.ClassFile.FieldType.boolean)).before args0 about1 = true := code_word (m := ⟨3, 9⟩) (meth := k3m9) (c := k3c9) (by decide +kernel) rfl rfl rfl (by decide +kernel)
set_option maxRecDepth 65536 in
theorem w_c18 : (Jvm.Cond.code ({ cls := "com/example/sedimenta/sedimenta/Postings", name := "decode", desc := "(Ljava/util/BitSet;[I[I)I" } : Jvm.MethodName) prog_81_method_48_code (4 : Nat) (Option.some Jvm.ClassFile.FieldType.int)).before args0 about1 = true := code_word (m := ⟨3, 10⟩) (meth := k3m10) (c := k3c10) (by decide +kernel) rfl rfl rfl (by decide +kernel)
set_option maxRecDepth 65536 in
theorem w_c19 : (Jvm.Cond.code ({ cls := "com/example/sedimenta/sedimenta/Postings", name := "decodeChecked", desc := "(Ljava/util/BitSet;[I[I)I" } : Jvm.MethodName) prog_81_method_49_code (13 : Nat) (Option.some Jvm.ClassFile.FieldType.int)).before args0 about1 = true := code_word (m := ⟨3, 11⟩) (meth := k3m11) (c := k3c11) (by decide +kernel) rfl rfl rfl (by decide +kernel)
set_option maxRecDepth 65536 in
theorem w_c20 : (Jvm.Cond.code ({ cls := "java/util/BitSet", name := "get", desc := "(I)Z" } : Jvm.MethodName) jdk_92_method_26_code (3 : Nat) (Option.some Jvm.ClassFile.FieldType.boolean)).before args0 about1 = true := code_word (m := ⟨8, 3⟩) (meth := k8m3) (c := k8c3) (by decide +kernel) rfl rfl rfl (by decide +kernel)
set_option maxRecDepth 65536 in
theorem w_c21 : (Jvm.Cond.code ({ cls := "java/util/BitSet", name := "checkInvariants", desc := "()V" } : Jvm.MethodName) jdk_92_method_2_code (1 : Nat) (Option.none : Option Jvm.ClassFile.FieldType)).before args0 about1 = true := code_word (m := ⟨8, 1⟩) (meth := k8m1) (c := k8c1) (by decide +kernel) rfl rfl rfl (by decide +kernel)
set_option maxRecDepth 65536 in
theorem w_c22 : (Jvm.Cond.code ({ cls := "java/util/BitSet", name := "wordIndex", desc := "(I)I" } : Jvm.MethodName) jdk_92_method_1_code (1 : Nat) (Option.some Jvm.ClassFile.FieldType.int)).before args0 about1 = true := code_word (m := ⟨8, 0⟩) (meth := k8m0) (c := k8c0) (by decide +kernel) rfl rfl rfl (by decide +kernel)
set_option maxRecDepth 65536 in
theorem w_c23 : (Jvm.Cond.code ({ cls := "com/example/sedimenta/sedimenta/Postings", name := "grownLength", desc := "(IJ)I" } : Jvm.MethodName) prog_81_method_56_code (3 : Nat) (Option.some Jvm.ClassFile.FieldType.int)).before args0 about1 = true := code_word (m := ⟨3, 14⟩) (meth := k3m14) (c := k3c14) (by decide +kernel) rfl rfl rfl (by decide +kernel)
set_option maxRecDepth 65536 in
theorem w_c24 : (Jvm.Cond.code ({ cls := "java/lang/Math", name := "max", desc := "(JJ)J" } : Jvm.MethodName) jdk_29_method_66_code (4 : Nat) (Option.some Jvm.ClassFile.FieldType.long)).before args0 about1 = true := code_word (m := ⟨2, 2⟩) (meth := k2m2) (c := k2c2) (by decide +kernel) rfl rfl rfl (by decide +kernel)
set_option maxRecDepth 65536 in
theorem w_c25 : (Jvm.Cond.code ({ cls := "java/lang/Math", name := "min", desc := "(JJ)J" } : Jvm.MethodName) jdk_29_method_70_code (4 : Nat) (Option.some Jvm.ClassFile.FieldType.long)).before args0 about1 = true := code_word (m := ⟨2, 4⟩) (meth := k2m4) (c := k2c4) (by decide +kernel) rfl rfl rfl (by decide +kernel)
set_option maxRecDepth 65536 in
theorem w_c26 : (Jvm.Cond.code ({ cls := "java/util/Arrays", name := "copyOf", desc := "([BI)[B" } : Jvm.MethodName) jdk_65_method_121_code (3 : Nat) (Option.some (Jvm.ClassFile.FieldType.array Jvm.ClassFile.FieldType.byte))).before args0 about1 = true := code_word (m := ⟨9, 1⟩) (meth := k9m1) (c := k9c1) (by decide +kernel) rfl rfl rfl (by decide +kernel)
set_option maxRecDepth 65536 in
theorem w_c27 : (Jvm.Cond.code ({ cls := "java/lang/Math", name := "min", desc := "(II)I" } : Jvm.MethodName) jdk_29_method_69_code (2 : Nat) (Option.some Jvm.ClassFile.FieldType.int)).before args0 about1 = true := code_word (m := ⟨2, 3⟩) (meth := k2m3) (c := k2c3) (by decide +kernel) rfl rfl rfl (by decide +kernel)
set_option maxRecDepth 65536 in
theorem w_c28 : (Jvm.Cond.code ({ cls := "com/example/sedimenta/sedimenta/store/VarInts", name := "putLonger", desc := "([BIJ)I" } : Jvm.MethodName) prog_202_method_4_code (7 : Nat) (Option.some Jvm.ClassFile.FieldType.int)).before args0 about1 = true := code_word (m := ⟨4, 2⟩) (meth := k4m2) (c := k4c2) (by decide +kernel) rfl rfl rfl (by decide +kernel)
set_option maxRecDepth 65536 in
theorem w_c29 : (Jvm.Cond.code ({ cls := "com/example/sedimenta/sedimenta/store/VarInts", name := "requireNonNegative", desc := "(J)V" } : Jvm.MethodName) prog_202_method_15_code (2 : Nat) (Option.none : Option Jvm.ClassFile.FieldType)).before args0 about1 = true := code_word (m := ⟨4, 3⟩) (meth := k4m3) (c := k4c3) (by decide +kernel) rfl rfl rfl (by decide +kernel)
set_option maxRecDepth 65536 in
theorem w_c30 : (Jvm.Cond.code ({ cls := "com/example/sedimenta/sedimenta/PostingsTakePinLaw", name := "entrySize", desc := "(II)I" } : Jvm.MethodName) method_3_code (3 : Nat) (Option.some Jvm.ClassFile.FieldType.int)).before args0 about1 = true := code_word (m := ⟨1, 2⟩) (meth := k1m2) (c := k1c2) (by decide +kernel) rfl rfl rfl (by decide +kernel)
set_option maxRecDepth 65536 in
theorem w_c31 : (Jvm.Cond.code ({ cls := "com/example/sedimenta/sedimenta/PostingsTakePinLaw", name := "vsize", desc := "(J)I" } : Jvm.MethodName) method_2_code (2 : Nat) (Option.some Jvm.ClassFile.FieldType.int)).before args0 about1 = true := code_word (m := ⟨1, 1⟩) (meth := k1m1) (c := k1c1) (by decide +kernel) rfl rfl rfl (by decide +kernel)
def codes1 : List Jvm.Cond := [Jvm.Cond.code x code maxLocals ret, Jvm.Cond.code ({ cls := "java/lang/Math", name := "max", desc := "(II)I" } : Jvm.MethodName) jdk_29_method_65_code (2 : Nat) (Option.some Jvm.ClassFile.FieldType.int), Jvm.Cond.code ({ cls := "com/example/sedimenta/sedimenta/Postings", name := "<init>", desc := "()V" } : Jvm.MethodName) prog_81_method_1_code (1 : Nat) (Option.none : Option Jvm.ClassFile.FieldType), Jvm.Cond.code ({ cls := "java/lang/Object", name := "<init>", desc := "()V" } : Jvm.MethodName) object_method_1_code (1 : Nat) (Option.none : Option Jvm.ClassFile.FieldType), Jvm.Cond.code ({ cls := "com/example/sedimenta/sedimenta/Postings", name := "add", desc := "(II)V" } : Jvm.MethodName) prog_81_method_13_code (4 : Nat) (Option.none : Option Jvm.ClassFile.FieldType), Jvm.Cond.code ({ cls := "com/example/sedimenta/sedimenta/Postings", name := "room", desc := "(I)V" } : Jvm.MethodName) prog_81_method_54_code (2 : Nat) (Option.none : Option Jvm.ClassFile.FieldType), Jvm.Cond.code ({ cls := "com/example/sedimenta/sedimenta/Postings", name := "putEntry", desc := "([BIII)I" } : Jvm.MethodName) prog_81_method_58_code (5 : Nat) (Option.some Jvm.ClassFile.FieldType.int), Jvm.Cond.code ({ cls := "com/example/sedimenta/sedimenta/Postings", name := "code", desc := "(II)J" } : Jvm.MethodName) prog_81_method_60_code (2 : Nat) (Option.some Jvm.ClassFile.FieldType.long), Jvm.Cond.code ({ cls := "com/example/sedimenta/sedimenta/store/VarInts", name := "put", desc := "([BIJ)I" } : Jvm.MethodName) prog_202_method_3_code (5 : Nat) (Option.some Jvm.ClassFile.FieldType.int), Jvm.Cond.code ({ cls := "com/example/sedimenta/sedimenta/Postings", name := "addPositions", desc := "([BII)V" } : Jvm.MethodName) prog_81_method_16_code (5 : Nat) (Option.none : Option Jvm.ClassFile.FieldType), Jvm.Cond.code ({ cls := "com/example/sedimenta/sedimenta/Postings", name := "positionsRoom", desc := "(I)V" } : Jvm.MethodName) prog_81_method_55_code (2 : Nat) (Option.none : Option Jvm.ClassFile.FieldType), Jvm.Cond.code ({ cls := "com/example/sedimenta/sedimenta/Postings", name := "take", desc := "(Lcom/example/sedimenta/sedimenta/Postings;)V" } : Jvm.MethodName) prog_81_method_3_code (2 : Nat) (Option.none : Option Jvm.ClassFile.FieldType), Jvm.Cond.code ({ cls := "com/example/sedimenta/sedimenta/Postings", name := "first", desc := "()I" } : Jvm.MethodName) prog_81_method_10_code (1 : Nat) (Option.some Jvm.ClassFile.FieldType.int), Jvm.Cond.code ({ cls := "com/example/sedimenta/sedimenta/Postings", name := "last", desc := "()I" } : Jvm.MethodName) prog_81_method_11_code (1 : Nat) (Option.some Jvm.ClassFile.FieldType.int), Jvm.Cond.code ({ cls := "com/example/sedimenta/sedimenta/Postings", name := "positioned", desc := "()Z" } : Jvm.MethodName) prog_81_method_12_code (1 : Nat) (Option.some Jvm.ClassFile.FieldType.boolean), Jvm.Cond.code ({ cls := "com/example/sedimenta/sedimenta/Postings", name := "mostBytes", desc := "()I" } : Jvm.MethodName) prog_81_method_34_code (1 : Nat) (Option.some Jvm.ClassFile.FieldType.int), Jvm.Cond.code ({ cls := "com/example/sedimenta/sedimenta/Postings", name := "mostHeadBytes", desc := "()I" } : Jvm.MethodName) prog_81_method_35_code (1 : Nat) (Option.some Jvm.ClassFile.FieldType.int), Jvm.Cond.code ({ cls := "com/example/sedimenta/sedimenta/Postings", name := "keptInBlocks", desc := "()Z" } : Jvm.MethodName) prog_81_method_36_code (1 : Nat) (Option.some Jvm.ClassFile.FieldType.boolean), Jvm.Cond.code ({ cls := "com/example/sedimenta/sedimenta/Postings", name := "decode", desc := "(Ljava/util/BitSet;[I[I)I" } : Jvm.MethodName) prog_81_method_48_code (4 : Nat) (Option.some Jvm.ClassFile.FieldType.int), Jvm.Cond.code ({ cls := "com/example/sedimenta/sedimenta/Postings", name := "decodeChecked", desc := "(Ljava/util/BitSet;[I[I)I" } : Jvm.MethodName) prog_81_method_49_code (13 : Nat) (Option.some Jvm.ClassFile.FieldType.int), Jvm.Cond.code ({ cls := "java/util/BitSet", name := "get", desc := "(I)Z" } : Jvm.MethodName) jdk_92_method_26_code (3 : Nat) (Option.some Jvm.ClassFile.FieldType.boolean), Jvm.Cond.code ({ cls := "java/util/BitSet", name := "checkInvariants", desc := "()V" } : Jvm.MethodName) jdk_92_method_2_code (1 : Nat) (Option.none : Option Jvm.ClassFile.FieldType), Jvm.Cond.code ({ cls := "java/util/BitSet", name := "wordIndex", desc := "(I)I" } : Jvm.MethodName) jdk_92_method_1_code (1 : Nat) (Option.some Jvm.ClassFile.FieldType.int), Jvm.Cond.code ({ cls := "com/example/sedimenta/sedimenta/Postings", name := "grownLength", desc := "(IJ)I" } : Jvm.MethodName) prog_81_method_56_code (3 : Nat) (Option.some Jvm.ClassFile.FieldType.int), Jvm.Cond.code ({ cls := "java/lang/Math", name := "max", desc := "(JJ)J" } : Jvm.MethodName) jdk_29_method_66_code (4 : Nat) (Option.some Jvm.ClassFile.FieldType.long), Jvm.Cond.code ({ cls := "java/lang/Math", name := "min", desc := "(JJ)J" } : Jvm.MethodName) jdk_29_method_70_code (4 : Nat) (Option.some Jvm.ClassFile.FieldType.long), Jvm.Cond.code ({ cls := "java/util/Arrays", name := "copyOf", desc := "([BI)[B" } : Jvm.MethodName) jdk_65_method_121_code (3 : Nat) (Option.some (Jvm.ClassFile.FieldType.array Jvm.ClassFile.FieldType.byte)), Jvm.Cond.code ({ cls := "java/lang/Math", name := "min", desc := "(II)I" } : Jvm.MethodName) jdk_29_method_69_code (2 : Nat) (Option.some Jvm.ClassFile.FieldType.int), Jvm.Cond.code ({ cls := "com/example/sedimenta/sedimenta/store/VarInts", name := "putLonger", desc := "([BIJ)I" } : Jvm.MethodName) prog_202_method_4_code (7 : Nat) (Option.some Jvm.ClassFile.FieldType.int), Jvm.Cond.code ({ cls := "com/example/sedimenta/sedimenta/store/VarInts", name := "requireNonNegative", desc := "(J)V" } : Jvm.MethodName) prog_202_method_15_code (2 : Nat) (Option.none : Option Jvm.ClassFile.FieldType), Jvm.Cond.code ({ cls := "com/example/sedimenta/sedimenta/PostingsTakePinLaw", name := "entrySize", desc := "(II)I" } : Jvm.MethodName) method_3_code (3 : Nat) (Option.some Jvm.ClassFile.FieldType.int), Jvm.Cond.code ({ cls := "com/example/sedimenta/sedimenta/PostingsTakePinLaw", name := "vsize", desc := "(J)I" } : Jvm.MethodName) method_2_code (2 : Nat) (Option.some Jvm.ClassFile.FieldType.int)]
set_option maxRecDepth 65536 in
theorem codes_eq : words1.filter isCode = codes1 := rfl
theorem w_codes : ∀ c ∈ words1.filter isCode, c.before args0 about1 = true := by
  rw [codes_eq]
  intro c hc
  simp only [codes1, List.mem_cons, List.not_mem_nil, or_false] at hc
  rcases hc with rfl | rfl | rfl | rfl | rfl | rfl | rfl | rfl | rfl | rfl | rfl | rfl | rfl | rfl | rfl | rfl | rfl | rfl | rfl | rfl | rfl | rfl | rfl | rfl | rfl | rfl | rfl | rfl | rfl | rfl | rfl | rfl
  · exact w_c0
  · exact w_c1
  · exact w_c2
  · exact w_c3
  · exact w_c4
  · exact w_c5
  · exact w_c6
  · exact w_c7
  · exact w_c8
  · exact w_c9
  · exact w_c10
  · exact w_c11
  · exact w_c12
  · exact w_c13
  · exact w_c14
  · exact w_c15
  · exact w_c16
  · exact w_c17
  · exact w_c18
  · exact w_c19
  · exact w_c20
  · exact w_c21
  · exact w_c22
  · exact w_c23
  · exact w_c24
  · exact w_c25
  · exact w_c26
  · exact w_c27
  · exact w_c28
  · exact w_c29
  · exact w_c30
  · exact w_c31
set_option maxRecDepth 65536 in
theorem w_t1 : (words1.take 24).all (fun c => isCode c || c.before args0 about1) = true := by decide +kernel
set_option maxRecDepth 65536 in
theorem w_t2 : ((words1.drop 24).take 24).all (fun c => isCode c || c.before args0 about1) = true := by decide +kernel
set_option maxRecDepth 65536 in
theorem w_t3 : (((words1.drop 24).drop 24).take 24).all (fun c => isCode c || c.before args0 about1) = true := by decide +kernel
set_option maxRecDepth 65536 in
theorem w_t4 : ((((words1.drop 24).drop 24).drop 24).take 24).all (fun c => isCode c || c.before args0 about1) = true := by decide +kernel
set_option maxRecDepth 65536 in
theorem w_t5 : (((((words1.drop 24).drop 24).drop 24).drop 24).take 24).all (fun c => isCode c || c.before args0 about1) = true := by decide +kernel
set_option maxRecDepth 65536 in
theorem w_t6 : ((((((words1.drop 24).drop 24).drop 24).drop 24).drop 24).take 24).all (fun c => isCode c || c.before args0 about1) = true := by decide +kernel
set_option maxRecDepth 65536 in
theorem w_t7 : (((((((words1.drop 24).drop 24).drop 24).drop 24).drop 24).drop 24).take 24).all (fun c => isCode c || c.before args0 about1) = true := by decide +kernel
set_option maxRecDepth 65536 in
theorem w_t8 : (((((((words1.drop 24).drop 24).drop 24).drop 24).drop 24).drop 24).drop 24).all (fun c => isCode c || c.before args0 about1) = true := by decide +kernel
theorem w_tables : (allAtoms (Jvm.Cond.code x code maxLocals ret :: tables_1)).before args0 about1 = true := by
  rw [allAtoms_all]
  show words1.all (fun c => c.before args0 about1) = true
  refine all_split ?_ w_codes
  rw [← List.take_append_drop 24 words1, List.all_append, w_t1, ← List.take_append_drop 24 (words1.drop 24), List.all_append, w_t2, ← List.take_append_drop 24 ((words1.drop 24).drop 24), List.all_append, w_t3, ← List.take_append_drop 24 (((words1.drop 24).drop 24).drop 24), List.all_append, w_t4, ← List.take_append_drop 24 ((((words1.drop 24).drop 24).drop 24).drop 24), List.all_append, w_t5, ← List.take_append_drop 24 (((((words1.drop 24).drop 24).drop 24).drop 24).drop 24), List.all_append, w_t6, ← List.take_append_drop 24 ((((((words1.drop 24).drop 24).drop 24).drop 24).drop 24).drop 24), List.all_append, w_t7, w_t8]
  rfl
set_option maxRecDepth 65536 in
theorem w_rest : rest_1_c.before args0 about1 = true := by decide +kernel
set_option maxRecDepth 65536 in
theorem w_case : (Jvm.Cond.and given_1 narrow_1).before args0 about1 = true := by decide +kernel
theorem w_applies : (headSpec (Jvm.Cond.code x code maxLocals ret :: tables_1) room_1).applies x e0.platform about1 = true :=
  (Spec.applies_iff w_frames).mpr ⟨w_running, w_runnable, w_alone, w_named, w_hears, w_ripe, w_room, w_tables⟩
theorem atStart : AtStart classFile x code maxLocals ret World_1 tables_1 room_1 Calls_1 rest_1 Pre_1 launch0 p0 e0 about1 theMethod args0 below0 :=
  ⟨lists_1, trivial, launch0.admits_env _ _ _, launch0.least_env, fairChoices_fair.cas, fairChoices_fair.clock, w_frames, w_args, w_heap, w_applies, trivial, w_rest, w_case⟩
end start1
theorem witness_1 : WitnessClaimed_1 := ⟨start1.p0, start1.e0, start1.about1, start1.theMethod, start1.args0, start1.below0, start1.atStart⟩
end Jvm.Pilot.@@N@@
