import JvmDerived
import JvmDerived.Pilot.@@N@@Statement
import JvmDerived.Pilot.@@N@@Code
set_option linter.unusedVariables false
set_option linter.unusedSimpArgs false
@@BLOCK:NumsL.lean.txt@@
namespace Jvm.Pilot.@@N@@
open Jvm Jvm.ClassFile Sem Op Lib Jvm.Free Jvm.Stand Jvm.LawKit Jvm.RoadKit Bundle Jvm.Pilot.@@N@@.Jvm.D
section OwnKit
variable {p : Program} {l : Launch} {e : Env} {R : Room} {s : State} {m : MethodId} {args : Array Value} {below : List Frame} {meth : Method} {c : Code} {T T' : State} {locs : List Loc} {cells slots : Nat}
/-- from this configuration the body comes to its end, and then Q holds -/
def own_Fin (p : Program) (e : Env) (below : List Frame) (s : State) (Q : Option Value → Heap → List Loc → Prop) (kc ks : Nat) (T : State) (g : JFrame) : Prop :=
  ∃ s₂ o, Steps p.tables e below (T.setTop g) s₂ ∧ s₂.status = .running ∧ Ended s₂ below o ∧ ∃ v L, o = .returned v ∧ Q v s₂.heap L ∧ FrameEnd s o s₂ L kc ks
variable {Q : Option Value → Heap → List Loc → Prop} {kc ks : Nat} {g g' : JFrame}
theorem own_step (st : ∀ t, Steps p.tables e below (T'.setTop g') t → Steps p.tables e below (T.setTop g) t) (k : own_Fin p e below s Q kc ks T' g') : own_Fin p e below s Q kc ks T g := by
  obtain ⟨s₂, o, h1, r⟩ := k
  exact ⟨s₂, o, st _ h1, r⟩
theorem own_in {as : Array Value} {n : Nat} (ef : entryFrame m as n = g) (k : own_Fin p e below s Q kc ks T g) :
    ∃ s₂ o, Steps p.tables e below (T.setTop (entryFrame m as n)) s₂ ∧ s₂.status = .running ∧ Ended s₂ below o ∧ ∃ v L, o = .returned v ∧ Q v s₂.heap L ∧ FrameEnd s o s₂ L kc ks := by
  obtain ⟨s₂, o, h1, r⟩ := k
  exact ⟨s₂, o, castTop ef h1, r⟩
theorem own_retV (X : Stand p l e R s m args below meth c T locs cells slots) (hx : p.tables.exec = Jvm.exec) (hlk : meth.locks = false) {pc : Nat} {Ls : Array Slot} {w : Value} {t : FieldType} {i : Instr} {rest : List Value} (hret : meth.sig.returnType = some t) (hn : narrow t w = w)
    (hi : (i = .ireturn ∧ (t = .int ∨ t = .boolean ∨ t = .byte ∨ t = .char ∨ t = .short) ∧ ∃ z, w = .int z) ∨ (i = .lreturn ∧ t = .long ∧ ∃ z, w = .long z) ∨ (i = .dreturn ∧ t = .double ∧ ∃ z, w = .double z) ∨ (i = .freturn ∧ t = .float ∧ ∃ z, w = .float z) ∨ (i = .areturn ∧ t.isReference = true ∧ w.isRef = true))
    (hd : decode c.code pc = .ok (i, 1)) (hq : Q (some w) T.heap locs) (h1 : cells ≤ kc) (h2 : slots ≤ ks) : own_Fin p e below s Q kc ks T (mkF m pc Ls (w :: rest)) := by
  obtain ⟨fs, hr, hrun, hended, hW, hsame⟩ := X.leave (v := some w) (fun h => by rw [hret] at h; cases h) hlk
  exact ⟨_, _, retOut X hx hret hn hi hd hr, hrun, hended, _, _, rfl, hq, ⟨_, rfl⟩, hW, hsame.mono h1 h2⟩
theorem own_retI (X : Stand p l e R s m args below meth c T locs cells slots) (hx : p.tables.exec = Jvm.exec) (hlk : meth.locks = false) {pc : Nat} {Ls : Array Slot} {z : Int32} {rest : List Value} (hret : meth.sig.returnType = some .int)
    (hd : decode c.code pc = .ok (.ireturn, 1)) (hq : Q (some (.int z)) T.heap locs) (h1 : cells ≤ kc) (h2 : slots ≤ ks) : own_Fin p e below s Q kc ks T (mkF m pc Ls (.int z :: rest)) :=
  own_retV X hx hlk hret rfl (Or.inl ⟨rfl, Or.inl rfl, z, rfl⟩) hd hq h1 h2
theorem own_retJ (X : Stand p l e R s m args below meth c T locs cells slots) (hx : p.tables.exec = Jvm.exec) (hlk : meth.locks = false) {pc : Nat} {Ls : Array Slot} {z : Int64} {rest : List Value} (hret : meth.sig.returnType = some .long)
    (hd : decode c.code pc = .ok (.lreturn, 1)) (hq : Q (some (.long z)) T.heap locs) (h1 : cells ≤ kc) (h2 : slots ≤ ks) : own_Fin p e below s Q kc ks T (mkF m pc Ls (.long z :: rest)) :=
  own_retV X hx hlk hret rfl (Or.inr (Or.inl ⟨rfl, rfl, z, rfl⟩)) hd hq h1 h2
theorem own_retA (X : Stand p l e R s m args below meth c T locs cells slots) (hx : p.tables.exec = Jvm.exec) (hlk : meth.locks = false) {pc : Nat} {Ls : Array Slot} {w : Value} {t : FieldType} {rest : List Value} (hret : meth.sig.returnType = some t) (ht : t.isReference = true) (hw : w.isRef = true)
    (hd : decode c.code pc = .ok (.areturn, 1)) (hq : Q (some w) T.heap locs) (h1 : cells ≤ kc) (h2 : slots ≤ ks) : own_Fin p e below s Q kc ks T (mkF m pc Ls (w :: rest)) :=
  own_retV X hx hlk hret (by cases t <;> first | (cases ht; done) | rfl) (Or.inr (Or.inr (Or.inr (Or.inr ⟨rfl, ht, hw⟩)))) hd hq h1 h2
theorem own_retN (X : Stand p l e R s m args below meth c T locs cells slots) (hx : p.tables.exec = Jvm.exec) (hlk : meth.locks = false) {pc : Nat} {Ls : Array Slot} {z : Int32} {t : FieldType} {rest : List Value} (hret : meth.sig.returnType = some t) (ht : t = .boolean ∨ t = .byte ∨ t = .char ∨ t = .short)
    (hd : decode c.code pc = .ok (.ireturn, 1)) (hq : Q (some (.int (nar t z))) T.heap locs) (h1 : cells ≤ kc) (h2 : slots ≤ ks) : own_Fin p e below s Q kc ks T (mkF m pc Ls (.int z :: rest)) := by
  obtain ⟨fs, hr, hrun, hended, hW, hsame⟩ := X.leave (v := some (.int (nar t z))) (fun h => by rw [hret] at h; cases h) hlk
  exact ⟨_, _, retN X hx hret ht hd hr, hrun, hended, _, _, rfl, hq, ⟨_, rfl⟩, hW, hsame.mono h1 h2⟩
theorem own_ret (X : Stand p l e R s m args below meth c T locs cells slots) (hx : p.tables.exec = Jvm.exec) (hlk : meth.locks = false) {pc : Nat} {Ls : Array Slot} (hret : meth.sig.returnType = none)
    (hd : decode c.code pc = .ok (.return_, 1)) (hq : Q none T.heap locs) (h1 : cells ≤ kc) (h2 : slots ≤ ks) : own_Fin p e below s Q kc ks T (mkF m pc Ls []) := by
  obtain ⟨fs, hr, hrun, hended, hW, hsame⟩ := X.leave (v := none) (fun _ => rfl) hlk
  exact ⟨_, _, X.returnOut hx hret hd hr, hrun, hended, _, _, rfl, hq, ⟨_, rfl⟩, hW, hsame.mono h1 h2⟩
end OwnKit
theorem own_nar_ite {P : Prop} [Decidable P] {a b : Int32} (ha : nar .boolean a = a) (hb : nar .boolean b = b) : nar .boolean (if P then a else b) = (if P then a else b) := by
  by_cases h : P
  · rw [if_pos h]; exact ha
  · rw [if_neg h]; exact hb
theorem own_nar_bool (P : Prop) [Decidable P] : nar .boolean (if P then (1 : Int32) else 0) = (if P then (1 : Int32) else 0) := own_nar_ite (by decide) (by decide)
/-- the array at a holds just these values -/
def own_Arl (Z : State) (h : Heap) (a : Addr) (ty : FieldType) (vs : List Value) : Prop := ∃ c : Cell, Arr Z h a c ty ∧ c.slots.toList = vs
section OwnArr
variable {p : Program} {l : Launch} {e : Env} {R : Room} {s : State} {m : MethodId} {args : Array Value} {below : List Frame} {meth : Method} {c : Code} {T : State} {locs : List Loc} {cells slots : Nat}
variable {Z : State} {h h' : Heap} {a b : Addr} {ty : FieldType} {vs : List Value} {v w : Value} {sl : Nat} {ws : List Addr}
theorem own_Arl.lt (F : own_Arl Z h a ty vs) : a < h.size := by obtain ⟨c, A, -⟩ := F; exact A.lt
theorem own_Arl.ext (F : own_Arl Z h a ty vs) (E : Ext h h') : own_Arl Z h' a ty vs := by obtain ⟨c, A, r⟩ := F; exact ⟨c, A.ext E, r⟩
theorem own_Arl.other (F : own_Arl Z h b ty vs) (W : Wr h h' a sl v) (q : b ≠ a) : own_Arl Z h' b ty vs := by obtain ⟨c, A, r⟩ := F; exact ⟨c, A.other W q, r⟩
theorem own_Arl.keep (F : own_Arl Z h a ty vs) (K : Keep h h' ws) (q : a ∉ ws) : own_Arl Z h' a ty vs := by obtain ⟨c, A, r⟩ := F; exact ⟨c, ⟨K.2.1 a c A.1 q, A.2⟩, r⟩
theorem own_Arl.set (F : own_Arl Z h a ty vs) (W : Wr h h' a sl v) : own_Arl Z h' a ty (vs.set sl v) := by
  obtain ⟨c, A, rfl⟩ := F
  exact ⟨_, A.same W, by simp [Cell.setSlot]⟩
theorem own_Arl.set' {j : Int32} (F : own_Arl Z h a ty vs) (W : Wr h h' a j.toNatClampNeg v) {i : Nat} (hi : j.toNatClampNeg = i) : own_Arl Z h' a ty (vs.set i v) := hi ▸ F.set W
theorem own_Arl.of_new {k : ClassId} {n : Int32} (A : Arr Z h a (newA k ty n) ty) {i : Nat} (hi : n.toNatClampNeg = i) : own_Arl Z h a ty (List.replicate i (defaultValue ty)) := ⟨_, A, by subst hi; simp [newA]⟩
theorem own_inb {c : Cell} {j : Int32} (L : c.slots.toList = vs) (h1 : ¬ j < 0) (h2 : j.toNatClampNeg < vs.length) : ¬ (j < 0 ∨ c.slots.size ≤ j.toNatClampNeg) := by
  subst L
  intro q
  rcases q with q | q
  · exact h1 q
  · rw [Array.length_toList] at h2; exact absurd q (Nat.not_le.mpr h2)
theorem own_inb' {c : Cell} {j : Int32} {n : Nat} (L : c.slots.toList = vs) (hl : vs.length = n) (h1 : ¬ j < 0) (h2 : j.toNatClampNeg < n) : ¬ (j < 0 ∨ c.slots.size ≤ j.toNatClampNeg) := own_inb L h1 (hl ▸ h2)
theorem own_ix {j : Int32} {k : Nat} (hk : j.toNatClampNeg = k) (h : vs[k]? = some v) : vs[j.toNatClampNeg]? = some v := hk ▸ h
theorem own_get {c : Cell} {j : Nat} (L : c.slots.toList = vs) (h2 : vs[j]? = some v) : c.slots[j]? = some v := by
  subst L
  rw [Array.getElem?_toList] at h2; exact h2
theorem own_lt_of {j : Nat} (h2 : vs[j]? = some v) : j < vs.length := (List.getElem?_eq_some_iff.mp h2).1
variable {g : JFrame} {j : Int32} {rest : List Value}
theorem own_baload (X : Stand p l e R s m args below meth c T locs cells slots) (hx : p.tables.exec = Jvm.exec) (hZ : Z.Warmed39 s.vm) (eT : T.heap = h) (F : own_Arl Z h a .byte vs) (h1 : ¬ j < 0) (h2 : vs[j.toNatClampNeg]? = some v) (hg : g.method = m) (hs : g.stack = .int j :: .ref a :: rest) (hd : decode c.code g.pc = .ok (.baload, 1)) (target : State)
    (k : Steps p.tables e below (T.setTop { g with pc := g.pc + 1, stack := v :: rest }) target) : Steps p.tables e below (T.setTop g) target := by
  obtain ⟨cl, A, L⟩ := F
  exact X.baloadBytes hx (by rw [eT]; exact A.1) (State.isArrayOf_alike hZ.alike A.2.1) A.2.2 (own_inb L h1 (own_lt_of h2)) (own_get L h2) hg hs hd _ k
theorem own_caload (X : Stand p l e R s m args below meth c T locs cells slots) (hx : p.tables.exec = Jvm.exec) (hZ : Z.Warmed39 s.vm) (eT : T.heap = h) (F : own_Arl Z h a .char vs) (h1 : ¬ j < 0) (h2 : vs[j.toNatClampNeg]? = some v) (hg : g.method = m) (hs : g.stack = .int j :: .ref a :: rest) (hd : decode c.code g.pc = .ok (.caload, 1)) (target : State)
    (k : Steps p.tables e below (T.setTop { g with pc := g.pc + 1, stack := v :: rest }) target) : Steps p.tables e below (T.setTop g) target := by
  obtain ⟨cl, A, L⟩ := F
  exact X.caload hx (by rw [eT]; exact A.1) (State.isArrayOf_alike hZ.alike A.2.1) A.2.2 (own_inb L h1 (own_lt_of h2)) (own_get L h2) hg hs hd _ k
theorem own_iaload (X : Stand p l e R s m args below meth c T locs cells slots) (hx : p.tables.exec = Jvm.exec) (hZ : Z.Warmed39 s.vm) (eT : T.heap = h) (F : own_Arl Z h a .int vs) (h1 : ¬ j < 0) (h2 : vs[j.toNatClampNeg]? = some v) (hg : g.method = m) (hs : g.stack = .int j :: .ref a :: rest) (hd : decode c.code g.pc = .ok (.iaload, 1)) (target : State)
    (k : Steps p.tables e below (T.setTop { g with pc := g.pc + 1, stack := v :: rest }) target) : Steps p.tables e below (T.setTop g) target := by
  obtain ⟨cl, A, L⟩ := F
  exact X.iaload hx (by rw [eT]; exact A.1) (State.isArrayOf_alike hZ.alike A.2.1) A.2.2 (own_inb L h1 (own_lt_of h2)) (own_get L h2) hg hs hd _ k
theorem own_laload (X : Stand p l e R s m args below meth c T locs cells slots) (hx : p.tables.exec = Jvm.exec) (hZ : Z.Warmed39 s.vm) (eT : T.heap = h) (F : own_Arl Z h a .long vs) (h1 : ¬ j < 0) (h2 : vs[j.toNatClampNeg]? = some v) (hg : g.method = m) (hs : g.stack = .int j :: .ref a :: rest) (hd : decode c.code g.pc = .ok (.laload, 1)) (target : State)
    (k : Steps p.tables e below (T.setTop { g with pc := g.pc + 1, stack := v :: rest }) target) : Steps p.tables e below (T.setTop g) target := by
  obtain ⟨cl, A, L⟩ := F
  exact X.laload hx (by rw [eT]; exact A.1) (State.isArrayOf_alike hZ.alike A.2.1) A.2.2 (own_inb L h1 (own_lt_of h2)) (own_get L h2) hg hs hd _ k
theorem own_alen (X : Stand p l e R s m args below meth c T locs cells slots) (hx : p.tables.exec = Jvm.exec) (hZ : Z.Warmed39 s.vm) (eT : T.heap = h) (F : own_Arl Z h a ty vs) {n : Int32} {i : Nat} (hi : vs.length = i) (hn : i.toInt32 = n) (hg : g.method = m) (hs : g.stack = .ref a :: rest) (hd : decode c.code g.pc = .ok (.arraylength, 1)) (target : State)
    (k : Steps p.tables e below (T.setTop { g with pc := g.pc + 1, stack := .int n :: rest }) target) : Steps p.tables e below (T.setTop g) target := by
  obtain ⟨cl, A, rfl⟩ := F
  subst hi
  subst hn
  exact X.arraylength hx (by rw [eT]; exact A.1) (State.isArrayOf_alike hZ.alike A.2.1) hg hs hd _ (by rw [Array.length_toList] at k; exact k)
end OwnArr

def own_bom (b0 b1 b2 n : Int32) : Int32 := if (0 : Int32) = n then (-1 : Int32) else if b0 = (-17 : Int32) then (if (1 : Int32) = n then (-1 : Int32) else if b1 = (-69 : Int32) then (if (2 : Int32) = n then (-1 : Int32) else if b2 = (-65 : Int32) then (3 : Int32) else (0 : Int32)) else (0 : Int32)) else (0 : Int32)
theorem own_nb {v a k : Int32} {P : Prop} [Decidable P] (h : v = if P then (a.toInt8.toInt32) else k) (hk : nar .byte k = k) : nar .byte v = v := by
  have e : nar .byte (a.toInt8.toInt32) = a.toInt8.toInt32 := Value.int.inj (XT.narrow_b a)
  by_cases q : P
  · rw [if_pos q] at h; rw [h]; exact e
  · rw [if_neg q] at h; rw [h]; exact hk
theorem own_len (n : Int32) : ((n &&& (2147483647 : Int32)) % (5 : Int32)) = 0 ∨ ((n &&& (2147483647 : Int32)) % (5 : Int32)) = 1 ∨ ((n &&& (2147483647 : Int32)) % (5 : Int32)) = 2 ∨ ((n &&& (2147483647 : Int32)) % (5 : Int32)) = 3 ∨ ((n &&& (2147483647 : Int32)) % (5 : Int32)) = 4 := by
  have e1 : (n &&& (2147483647 : Int32)).toInt = n.toInt % 2 ^ 31 := Jvm.Kit.i32_mask n _ (k := 31) (by decide) (by decide)
  have c5 : (5 : Int32).toInt = 5 := rfl
  have e2 : ((n &&& (2147483647 : Int32)) % (5 : Int32)).toInt = (n.toInt % 2 ^ 31) % 5 := by rw [Jvm.Kit.i32_rem_nonneg (by rw [e1]; omega), e1, c5]
  generalize ((n &&& (2147483647 : Int32)) % (5 : Int32)) = z at *
  have : z.toInt = (0 : Int32).toInt ∨ z.toInt = (1 : Int32).toInt ∨ z.toInt = (2 : Int32).toInt ∨ z.toInt = (3 : Int32).toInt ∨ z.toInt = (4 : Int32).toInt := by
    show z.toInt = 0 ∨ z.toInt = 1 ∨ z.toInt = 2 ∨ z.toInt = 3 ∨ z.toInt = 4
    omega
  simpa only [Int32.toInt_inj] using this
theorem own_fin {n b0 b1 b2 k p r : Int32} (hn : n = 0 ∨ n = 1 ∨ n = 2 ∨ n = 3 ∨ n = 4)
    (hk : k = if b0 = (-17 : Int32) then (if b1 = (-69 : Int32) then (if b2 = (-65 : Int32) then (3 : Int32) else (2 : Int32)) else (1 : Int32)) else (0 : Int32))
    (hp : p = if (3 : Int32) < n then (3 : Int32) else n)
    (hr : r = if k < p then (0 : Int32) else (if p = (3 : Int32) then (3 : Int32) else (-1 : Int32))) : own_bom b0 b1 b2 n = r := by
  unfold own_bom
  by_cases h0 : b0 = (-17 : Int32)
  · by_cases h1 : b1 = (-69 : Int32)
    · by_cases h2 : b2 = (-65 : Int32)
      · rw [if_pos h0, if_pos h1, if_pos h2] at hk
        rw [if_pos h0, if_pos h1, if_pos h2]
        subst hk
        rcases hn with rfl | rfl | rfl | rfl | rfl <;> subst hp <;> subst hr <;> decide
      · rw [if_pos h0, if_pos h1, if_neg h2] at hk
        rw [if_pos h0, if_pos h1, if_neg h2]
        subst hk
        rcases hn with rfl | rfl | rfl | rfl | rfl <;> subst hp <;> subst hr <;> decide
    · rw [if_pos h0, if_neg h1] at hk
      rw [if_pos h0, if_neg h1]
      subst hk
      rcases hn with rfl | rfl | rfl | rfl | rfl <;> subst hp <;> subst hr <;> decide
  · rw [if_neg h0] at hk
    rw [if_neg h0]
    subst hk
    rcases hn with rfl | rfl | rfl | rfl | rfl <;> subst hp <;> subst hr <;> decide
theorem own_eqv {t : Term} {k : Int32} {args : Array Value} {s : State} (h : (Jvm.Cond.eq t (.int k)).value args s none s [] = some true) : t.eval args s none [] s = some (.int k) := by
  obtain ⟨x, y, hx, hy, k1, k2⟩ := cmp_v (Or.inl h)
  have hy' : y = .int k := (Option.some.inj (hy.symm.trans (Term.int_eval k)))
  subst hy'
  obtain ⟨z, rfl⟩ := k2
  have q : z = k := gotT (Cond.eq_ints hx (Term.int_eval k)) h
  rw [hx, q]
theorem own_three {c : Cell} {x y z : Value} (hs : c.slots.size = 3) (h0 : c.slots[0]? = some x) (h1 : c.slots[1]? = some y) (h2 : c.slots[2]? = some z) : c.slots.toList = [x, y, z] := by
  obtain ⟨l⟩ : ∃ l, l = c.slots.toList := ⟨_, rfl⟩
  have e0 : c.slots.toList[0]? = some x := by rw [Array.getElem?_toList]; exact h0
  have e1 : c.slots.toList[1]? = some y := by rw [Array.getElem?_toList]; exact h1
  have e2 : c.slots.toList[2]? = some z := by rw [Array.getElem?_toList]; exact h2
  have es : c.slots.toList.length = 3 := by rw [Array.length_toList]; exact hs
  generalize c.slots.toList = l at *
  match l, es with
  | [a, b, d], _ =>
    simp only [List.getElem?_cons_zero, List.getElem?_cons_succ, Option.some.injEq] at e0 e1 e2
    rw [e0, e1, e2]

theorem own_size {t : Term} {args : Array Value} {s : State} {r : Addr} {c : Cell} {ty : FieldType} (ev : t.eval args s none [] s = some (.ref r)) (A : Arr s s.heap r c ty) (h : (Term.length t).eval args s none [] s = some (.int 3)) : c.slots.size = 3 := by
  have ha : s.arrayAt? r = some c := A.fin (Vm.Alike.refl _)
  by_cases hl : c.slots.size < 2 ^ 31
  · have := len_f (o := none) (first := s) (idx := []) ev ha hl
    rw [h] at this
    have q : (3 : Int32) = c.slots.size.toInt32 := Value.int.inj (Option.some.inj this)
    have q2 := congrArg Int32.toInt q
    rw [len_toInt hl] at q2
    have c3 : (3 : Int32).toInt = 3 := rfl
    omega
  · simp [Term.eval, ev, ha, hl] at h
theorem pd_0 : parseMethodDescriptor "(II)I" = some ⟨[.int, .int], some .int⟩ := by decide +kernel
theorem pd_1 : parseMethodDescriptor "([BI)I" = some ⟨[(.array .byte), .int], some .int⟩ := by decide +kernel
theorem d0_0 : decode jdk_29_method_69_code 0 = .ok (.iload_n 0, 1) := by decide +kernel
theorem d0_1 : decode jdk_29_method_69_code 1 = .ok (.iload_n 1, 1) := by decide +kernel
theorem d0_2 : decode jdk_29_method_69_code 2 = .ok (.if_icmp .gt 7, 3) := by decide +kernel
theorem d0_5 : decode jdk_29_method_69_code 5 = .ok (.iload_n 0, 1) := by decide +kernel
theorem d0_6 : decode jdk_29_method_69_code 6 = .ok (.goto 4, 3) := by decide +kernel
theorem d0_9 : decode jdk_29_method_69_code 9 = .ok (.iload_n 1, 1) := by decide +kernel
theorem d0_10 : decode jdk_29_method_69_code 10 = .ok (.ireturn, 1) := by decide +kernel
theorem pn_0 : plainFor (⟨"java/lang/Math", "min", "(II)I"⟩ : MethodName) = true := by first | exact plainFor_of_name (by first | (simp [plainName, overriddenIn]; done) | decide +kernel) | decide +kernel
theorem ef_0 (m : MethodId) (x0 : Int32) (x1 : Int32) : entryFrame m #[(.int x0), (.int x1)] 2 = mkF m 0 #[.val (.int x0), .val (.int x1)] [] := by first | (simp [entryFrame, mkF, argsToLocals, Value.category]; done) | rfl
def Q_0 (x y : Int32) (h0 : Heap) (n0 : Nat) (v : Option Value) (h : Heap) (L : List Loc) : Prop := v = some (.int (if y < x then y else x)) ∧ Fr n0 L ∧ h = h0
set_option maxRecDepth 65536 in
set_option maxHeartbeats 40000000 in
theorem rm_min (l : Launch) (Z : State) (a0 : Array Value) (hw : ∀ d ∈ tables_1, d.before a0 Z = true) (ws : List Jvm.Cond) (x y : Int32) (h0 : Heap) (n0 : Nat) (Z0 : n0 ≤ h0.size)  :
    MetFree l (⟨"java/lang/Math", "min", "(II)I"⟩ : MethodName) (head1 (Jvm.Cond.code (⟨"java/lang/Math", "min", "(II)I"⟩ : MethodName) jdk_29_method_69_code 2 (some .int) :: ws) ({ frames := 0, cells := 0, slots := 0, locals := 0 } : Room)) (fun as_ U => as_ = #[(.int x), (.int y)] ∧ Z.Warmed39 U.vm ∧ U.heap = h0) (fun _ _ _ _ _ => True) (fun _ U o U' => ∃ v L, o = .returned v ∧ Q_0 x y h0 n0 v U'.heap L ∧ FrameEnd U o U' L ({ frames := 0, cells := 0, slots := 0, locals := 0 } : Room).cells ({ frames := 0, cells := 0, slots := 0, locals := 0 } : Room).slots) := by
  refine MetFree.of_bodySF pn_0 hisR ?_
  intro p e s m args below meth c s₁ Bd hml0 hP hK
  obtain ⟨rfl, hZ, hh⟩ := hP
  have hx := Bd.exec
  have hby := Bd.bytes
  have hlk := BodyLoose.notSynchronized Bd
  have hml : c.maxLocals = 2 := hml0
  have hown : s.vm.findClass "java/lang/Math" = some m.cls := findClass_of_methodNamed Bd.named
  have hnm := (name_of_methodNamed Bd.named Bd.method).1
  have X0 : Stand p l e ({ frames := 0, cells := 0, slots := 0, locals := 0 } : Room) s m #[(.int x), (.int y)] below meth c s₁ [] 0 0 := Stand.of_body Bd
  have e0 : s₁.heap = h0 := by rw [← hh, Bd.state]; rfl
  have N0 := Fr.nil n0
  refine own_in (ef_0 m x y) ?_
  show own_Fin p e below s (Q_0 x y h0 n0) 0 0 s₁ (mkF m 0 #[.val (.int x), .val (.int y)] [])
  refine own_step (T' := s₁) (g' := (mkF m 1 #[.val (.int x), .val (.int y)] [(.int x)])) (fun t_ k_ => XS.iloadN X0.here hx rfl (hb hby d0_0) rfl k_) ?_
  refine own_step (T' := s₁) (g' := (mkF m 2 #[.val (.int x), .val (.int y)] [(.int y), (.int x)])) (fun t_ k_ => XS.iloadN X0.here hx rfl (hb hby d0_1) rfl k_) ?_
  suffices k2 : ∀ v3 : Int32, v3 = (if y < x then y else x) → own_Fin p e below s (Q_0 x y h0 n0) 0 0 s₁ (mkF m 10 #[.val (.int x), .val (.int y)] [(.int v3)]) by
    by_cases hb1 : y < x
    · refine own_step (T' := s₁) (g' := (mkF m 9 #[.val (.int x), .val (.int y)] [])) (fun t_ k_ => XS.icmpYes X0.here hx rfl (pc0 := 2) (pc' := 9) rfl (hb hby d0_2) rfl (XT.ii_gt_t hb1) (by decide) (by decide) k_) ?_
      refine own_step (T' := s₁) (g' := (mkF m 10 #[.val (.int x), .val (.int y)] [(.int y)])) (fun t_ k_ => XS.iloadN X0.here hx rfl (hb hby d0_9) rfl k_) ?_
      exact k2 _ (if_pos hb1).symm
    · refine own_step (T' := s₁) (g' := (mkF m 5 #[.val (.int x), .val (.int y)] [])) (fun t_ k_ => XS.icmpNo X0.here hx rfl (hb hby d0_2) rfl (XT.ii_gt_f hb1) k_) ?_
      refine own_step (T' := s₁) (g' := (mkF m 6 #[.val (.int x), .val (.int y)] [(.int x)])) (fun t_ k_ => XS.iloadN X0.here hx rfl (hb hby d0_5) rfl k_) ?_
      refine own_step (T' := s₁) (g' := (mkF m 10 #[.val (.int x), .val (.int y)] [(.int x)])) (fun t_ k_ => XS.goto X0.here hx rfl (pc0 := 6) (pc' := 10) rfl (hb hby d0_6) (by decide) (by decide) k_) ?_
      exact k2 _ (if_neg hb1).symm
  intro v3 hv3
  exact own_retI X0 hx hlk Bd.returns (hb hby d0_10) (by rw [e0]; exact ⟨by rw [hv3], N0, rfl⟩) (by decide) (by decide)
theorem d1_0 : decode prog_44_method_4_code 0 = .ok (.iconst 0, 1) := by decide +kernel
theorem d1_1 : decode prog_44_method_4_code 1 = .ok (.istore_n 2, 1) := by decide +kernel
theorem d1_2 : decode prog_44_method_4_code 2 = .ok (.iload_n 2, 1) := by decide +kernel
theorem d1_3 : decode prog_44_method_4_code 3 = .ok (.getstatic 13, 3) := by decide +kernel
theorem d1_6 : decode prog_44_method_4_code 6 = .ok (.arraylength, 1) := by decide +kernel
theorem d1_7 : decode prog_44_method_4_code 7 = .ok (.if_icmp .ge 29, 3) := by decide +kernel
theorem d1_10 : decode prog_44_method_4_code 10 = .ok (.iload_n 2, 1) := by decide +kernel
theorem d1_11 : decode prog_44_method_4_code 11 = .ok (.iload_n 1, 1) := by decide +kernel
theorem d1_12 : decode prog_44_method_4_code 12 = .ok (.if_icmp .ne 5, 3) := by decide +kernel
theorem d1_15 : decode prog_44_method_4_code 15 = .ok (.iconst (-1), 1) := by decide +kernel
theorem d1_16 : decode prog_44_method_4_code 16 = .ok (.ireturn, 1) := by decide +kernel
theorem d1_17 : decode prog_44_method_4_code 17 = .ok (.aload_n 0, 1) := by decide +kernel
theorem d1_18 : decode prog_44_method_4_code 18 = .ok (.iload_n 2, 1) := by decide +kernel
theorem d1_19 : decode prog_44_method_4_code 19 = .ok (.baload, 1) := by decide +kernel
theorem d1_20 : decode prog_44_method_4_code 20 = .ok (.getstatic 13, 3) := by decide +kernel
theorem d1_23 : decode prog_44_method_4_code 23 = .ok (.iload_n 2, 1) := by decide +kernel
theorem d1_24 : decode prog_44_method_4_code 24 = .ok (.baload, 1) := by decide +kernel
theorem d1_25 : decode prog_44_method_4_code 25 = .ok (.if_icmp .eq 5, 3) := by decide +kernel
theorem d1_28 : decode prog_44_method_4_code 28 = .ok (.iconst 0, 1) := by decide +kernel
theorem d1_29 : decode prog_44_method_4_code 29 = .ok (.ireturn, 1) := by decide +kernel
theorem d1_30 : decode prog_44_method_4_code 30 = .ok (.iinc 2 1, 3) := by decide +kernel
theorem d1_33 : decode prog_44_method_4_code 33 = .ok (.goto (-31), 3) := by decide +kernel
theorem d1_36 : decode prog_44_method_4_code 36 = .ok (.getstatic 13, 3) := by decide +kernel
theorem d1_39 : decode prog_44_method_4_code 39 = .ok (.arraylength, 1) := by decide +kernel
theorem d1_40 : decode prog_44_method_4_code 40 = .ok (.ireturn, 1) := by decide +kernel
theorem pn_1 : plainFor (⟨"com/example/llogari/llogari/text/TextForm", "byteOrderMarkLength", "([BI)I"⟩ : MethodName) = true := by first | exact plainFor_of_name (by first | (simp [plainName, overriddenIn]; done) | decide +kernel) | decide +kernel
theorem ef_1 (m : MethodId) (x0 : Addr) (x1 : Int32) : entryFrame m #[(.ref x0), (.int x1)] 3 = mkF m 0 #[.val (.ref x0), .val (.int x1), .unset] [] := by first | (simp [entryFrame, mkF, argsToLocals, Value.category]; done) | rfl
def Q_1 (b0 b1 b2 n : Int32) (h0 : Heap) (n0 : Nat) (v : Option Value) (h : Heap) (L : List Loc) : Prop := v = some (.int (own_bom b0 b1 b2 n)) ∧ Fr n0 L ∧ h = h0
set_option maxRecDepth 65536 in
set_option maxHeartbeats 40000000 in
theorem rm_bom (l : Launch) (Z : State) (a0 : Array Value) (hw : ∀ d ∈ tables_1, d.before a0 Z = true) (ws : List Jvm.Cond) (a r : Addr) (b0 b1 b2 b3 n : Int32) (h0 : Heap) (n0 : Nat) (Z0 : n0 ≤ h0.size) (V0 : own_Arl Z h0 a .byte [(.int b0), (.int b1), (.int b2), (.int b3)]) (U0 : own_Arl Z h0 r .byte [(.int (-17 : Int32)), (.int (-69 : Int32)), (.int (-65 : Int32))]) (S0 : Sta Z h0 "com/example/llogari/llogari/text/TextForm" "BYTE_ORDER_MARK_BYTES" "[B" (.ref r)) :
    MetFree l (⟨"com/example/llogari/llogari/text/TextForm", "byteOrderMarkLength", "([BI)I"⟩ : MethodName) (head1 (Jvm.Cond.code (⟨"com/example/llogari/llogari/text/TextForm", "byteOrderMarkLength", "([BI)I"⟩ : MethodName) prog_44_method_4_code 3 (some .int) :: ws) ({ frames := 0, cells := 0, slots := 0, locals := 0 } : Room)) (fun as_ U => as_ = #[(.ref a), (.int n)] ∧ Z.Warmed39 U.vm ∧ U.heap = h0) (fun _ _ _ _ _ => True) (fun _ U o U' => ∃ v L, o = .returned v ∧ Q_1 b0 b1 b2 n h0 n0 v U'.heap L ∧ FrameEnd U o U' L ({ frames := 0, cells := 0, slots := 0, locals := 0 } : Room).cells ({ frames := 0, cells := 0, slots := 0, locals := 0 } : Room).slots) := by
  refine MetFree.of_bodySF pn_1 hisR ?_
  intro p e s m args below meth c s₁ Bd hml0 hP hK
  obtain ⟨rfl, hZ, hh⟩ := hP
  have hx := Bd.exec
  have hby := Bd.bytes
  have hlk := BodyLoose.notSynchronized Bd
  have hml : c.maxLocals = 3 := hml0
  have hown : s.vm.findClass "com/example/llogari/llogari/text/TextForm" = some m.cls := findClass_of_methodNamed Bd.named
  have hnm := (name_of_methodNamed Bd.named Bd.method).1
  have X0 : Stand p l e ({ frames := 0, cells := 0, slots := 0, locals := 0 } : Room) s m #[(.ref a), (.int n)] below meth c s₁ [] 0 0 := Stand.of_body Bd
  have e0 : s₁.heap = h0 := by rw [← hh, Bd.state]; rfl
  have N0 := Fr.nil n0
  refine own_in (ef_1 m a n) ?_
  show own_Fin p e below s (Q_1 b0 b1 b2 n h0 n0) 0 0 s₁ (mkF m 0 #[.val (.ref a), .val (.int n), .unset] [])
  refine own_step (T' := s₁) (g' := (mkF m 1 #[.val (.ref a), .val (.int n), .unset] [(.int (0 : Int32))])) (fun t_ k_ => XT.iconstV X0.here hx rfl (0 : Int32) (hb hby d1_0) (by decide) k_) ?_
  refine own_step (T' := s₁) (g' := (mkF m 2 #[.val (.ref a), .val (.int n), .val (.int (0 : Int32))] [])) (fun t_ k_ => XS.istoreN X0.here hx rfl (hb hby d1_1) rfl (l' := #[.val (.ref a), .val (.int n), .val (.int (0 : Int32))]) rfl k_) ?_
  refine own_step (T' := s₁) (g' := (mkF m 3 #[.val (.ref a), .val (.int n), .val (.int (0 : Int32))] [(.int (0 : Int32))])) (fun t_ k_ => XS.iloadN X0.here hx rfl (hb hby d1_2) rfl k_) ?_
  obtain ⟨T1, X2, e3, st4⟩ := getS2 (host := "") X0 hx hZ hown (Or.inl (hw _ (List.mem_of_getElem? (i := 10) rfl))) Via.refl e0 S0 (g := (mkF m 3 #[.val (.ref a), .val (.int n), .val (.int (0 : Int32))] [(.int (0 : Int32))])) rfl (hb hby d1_3)
  refine own_step (T' := T1) (g' := (mkF m 6 #[.val (.ref a), .val (.int n), .val (.int (0 : Int32))] [(.ref r), (.int (0 : Int32))])) st4 ?_
  have st5 := own_alen (g := (mkF m 6 #[.val (.ref a), .val (.int n), .val (.int (0 : Int32))] [(.ref r), (.int (0 : Int32))])) X2 hx hZ e3 U0 (n := (3 : Int32)) (i := 3) rfl (by decide) rfl rfl (hb hby d1_6)
  refine own_step (T' := T1) (g' := (mkF m 7 #[.val (.ref a), .val (.int n), .val (.int (0 : Int32))] [(.int (3 : Int32)), (.int (0 : Int32))])) st5 ?_
  have hk6 : (0 : Int32) < (3 : Int32) := (by decide)
  refine own_step (T' := T1) (g' := (mkF m 10 #[.val (.ref a), .val (.int n), .val (.int (0 : Int32))] [])) (fun t_ k_ => XS.icmpNo X2.here hx rfl (hb hby d1_7) rfl (XT.ii_ge_f hk6) k_) ?_
  refine own_step (T' := T1) (g' := (mkF m 11 #[.val (.ref a), .val (.int n), .val (.int (0 : Int32))] [(.int (0 : Int32))])) (fun t_ k_ => XS.iloadN X2.here hx rfl (hb hby d1_10) rfl k_) ?_
  refine own_step (T' := T1) (g' := (mkF m 12 #[.val (.ref a), .val (.int n), .val (.int (0 : Int32))] [(.int n), (.int (0 : Int32))])) (fun t_ k_ => XS.iloadN X2.here hx rfl (hb hby d1_11) rfl k_) ?_
  by_cases hb7 : (0 : Int32) = n
  · refine own_step (T' := T1) (g' := (mkF m 15 #[.val (.ref a), .val (.int n), .val (.int (0 : Int32))] [])) (fun t_ k_ => XS.icmpNo X2.here hx rfl (hb hby d1_12) rfl (XT.ii_ne_f hb7) k_) ?_
    refine own_step (T' := T1) (g' := (mkF m 16 #[.val (.ref a), .val (.int n), .val (.int (0 : Int32))] [(.int (-1 : Int32))])) (fun t_ k_ => XT.iconstV X2.here hx rfl (-1 : Int32) (hb hby d1_15) (by decide) k_) ?_
    exact own_retI X2 hx hlk Bd.returns (hb hby d1_16) (by rw [e3]; exact ⟨by unfold own_bom; rw [if_pos hb7], N0, rfl⟩) (by decide) (by decide)
  · refine own_step (T' := T1) (g' := (mkF m 17 #[.val (.ref a), .val (.int n), .val (.int (0 : Int32))] [])) (fun t_ k_ => XS.icmpYes X2.here hx rfl (pc0 := 12) (pc' := 17) rfl (hb hby d1_12) rfl (XT.ii_ne_t hb7) (by decide) (by decide) k_) ?_
    refine own_step (T' := T1) (g' := (mkF m 18 #[.val (.ref a), .val (.int n), .val (.int (0 : Int32))] [(.ref a)])) (fun t_ k_ => XS.aloadN X2.here hx rfl (hb hby d1_17) rfl rfl k_) ?_
    refine own_step (T' := T1) (g' := (mkF m 19 #[.val (.ref a), .val (.int n), .val (.int (0 : Int32))] [(.int (0 : Int32)), (.ref a)])) (fun t_ k_ => XS.iloadN X2.here hx rfl (hb hby d1_18) rfl k_) ?_
    have st8 := own_baload (g := (mkF m 19 #[.val (.ref a), .val (.int n), .val (.int (0 : Int32))] [(.int (0 : Int32)), (.ref a)])) X2 hx hZ e3 V0 (v := (.int b0)) (by decide) (own_ix (k := 0) (by decide) rfl) rfl rfl (hb hby d1_19)
    refine own_step (T' := T1) (g' := (mkF m 20 #[.val (.ref a), .val (.int n), .val (.int (0 : Int32))] [(.int b0)])) st8 ?_
    obtain ⟨T9, X10, e11, st12⟩ := getS2 (host := "") X2 hx hZ hown (Or.inl (hw _ (List.mem_of_getElem? (i := 10) rfl))) Via.refl e3 S0 (g := (mkF m 20 #[.val (.ref a), .val (.int n), .val (.int (0 : Int32))] [(.int b0)])) rfl (hb hby d1_20)
    refine own_step (T' := T9) (g' := (mkF m 23 #[.val (.ref a), .val (.int n), .val (.int (0 : Int32))] [(.ref r), (.int b0)])) st12 ?_
    refine own_step (T' := T9) (g' := (mkF m 24 #[.val (.ref a), .val (.int n), .val (.int (0 : Int32))] [(.int (0 : Int32)), (.ref r), (.int b0)])) (fun t_ k_ => XS.iloadN X10.here hx rfl (hb hby d1_23) rfl k_) ?_
    have st13 := own_baload (g := (mkF m 24 #[.val (.ref a), .val (.int n), .val (.int (0 : Int32))] [(.int (0 : Int32)), (.ref r), (.int b0)])) X10 hx hZ e11 U0 (v := (.int (-17 : Int32))) (by decide) (own_ix (k := 0) (by decide) rfl) rfl rfl (hb hby d1_24)
    refine own_step (T' := T9) (g' := (mkF m 25 #[.val (.ref a), .val (.int n), .val (.int (0 : Int32))] [(.int (-17 : Int32)), (.int b0)])) st13 ?_
    by_cases hb14 : b0 = (-17 : Int32)
    · refine own_step (T' := T9) (g' := (mkF m 30 #[.val (.ref a), .val (.int n), .val (.int (0 : Int32))] [])) (fun t_ k_ => XS.icmpYes X10.here hx rfl (pc0 := 25) (pc' := 30) rfl (hb hby d1_25) rfl (XT.ii_eq_t hb14) (by decide) (by decide) k_) ?_
      refine own_step (T' := T9) (g' := (mkF m 33 #[.val (.ref a), .val (.int n), .val (.int ((0 : Int32) + (1 : Int32)))] [])) (fun t_ k_ => XT.iincV X10.here hx rfl (1 : Int32) (hb hby d1_30) (by decide) rfl (l' := #[.val (.ref a), .val (.int n), .val (.int ((0 : Int32) + (1 : Int32)))]) rfl k_) ?_
      rw [(by decide : ((0 : Int32) + (1 : Int32)) = (1 : Int32))]
      refine own_step (T' := T9) (g' := (mkF m 2 #[.val (.ref a), .val (.int n), .val (.int (1 : Int32))] [])) (fun t_ k_ => XS.goto X10.here hx rfl (pc0 := 33) (pc' := 2) rfl (hb hby d1_33) (by decide) (by decide) k_) ?_
      refine own_step (T' := T9) (g' := (mkF m 3 #[.val (.ref a), .val (.int n), .val (.int (1 : Int32))] [(.int (1 : Int32))])) (fun t_ k_ => XS.iloadN X10.here hx rfl (hb hby d1_2) rfl k_) ?_
      obtain ⟨T15, X16, e17, st18⟩ := getS2 (host := "") X10 hx hZ hown (Or.inl (hw _ (List.mem_of_getElem? (i := 10) rfl))) Via.refl e11 S0 (g := (mkF m 3 #[.val (.ref a), .val (.int n), .val (.int (1 : Int32))] [(.int (1 : Int32))])) rfl (hb hby d1_3)
      refine own_step (T' := T15) (g' := (mkF m 6 #[.val (.ref a), .val (.int n), .val (.int (1 : Int32))] [(.ref r), (.int (1 : Int32))])) st18 ?_
      have st19 := own_alen (g := (mkF m 6 #[.val (.ref a), .val (.int n), .val (.int (1 : Int32))] [(.ref r), (.int (1 : Int32))])) X16 hx hZ e17 U0 (n := (3 : Int32)) (i := 3) rfl (by decide) rfl rfl (hb hby d1_6)
      refine own_step (T' := T15) (g' := (mkF m 7 #[.val (.ref a), .val (.int n), .val (.int (1 : Int32))] [(.int (3 : Int32)), (.int (1 : Int32))])) st19 ?_
      have hk20 : (1 : Int32) < (3 : Int32) := (by decide)
      refine own_step (T' := T15) (g' := (mkF m 10 #[.val (.ref a), .val (.int n), .val (.int (1 : Int32))] [])) (fun t_ k_ => XS.icmpNo X16.here hx rfl (hb hby d1_7) rfl (XT.ii_ge_f hk20) k_) ?_
      refine own_step (T' := T15) (g' := (mkF m 11 #[.val (.ref a), .val (.int n), .val (.int (1 : Int32))] [(.int (1 : Int32))])) (fun t_ k_ => XS.iloadN X16.here hx rfl (hb hby d1_10) rfl k_) ?_
      refine own_step (T' := T15) (g' := (mkF m 12 #[.val (.ref a), .val (.int n), .val (.int (1 : Int32))] [(.int n), (.int (1 : Int32))])) (fun t_ k_ => XS.iloadN X16.here hx rfl (hb hby d1_11) rfl k_) ?_
      by_cases hb21 : (1 : Int32) = n
      · refine own_step (T' := T15) (g' := (mkF m 15 #[.val (.ref a), .val (.int n), .val (.int (1 : Int32))] [])) (fun t_ k_ => XS.icmpNo X16.here hx rfl (hb hby d1_12) rfl (XT.ii_ne_f hb21) k_) ?_
        refine own_step (T' := T15) (g' := (mkF m 16 #[.val (.ref a), .val (.int n), .val (.int (1 : Int32))] [(.int (-1 : Int32))])) (fun t_ k_ => XT.iconstV X16.here hx rfl (-1 : Int32) (hb hby d1_15) (by decide) k_) ?_
        exact own_retI X16 hx hlk Bd.returns (hb hby d1_16) (by rw [e17]; exact ⟨by unfold own_bom; rw [if_neg hb7, if_pos hb14, if_pos hb21], N0, rfl⟩) (by decide) (by decide)
      · refine own_step (T' := T15) (g' := (mkF m 17 #[.val (.ref a), .val (.int n), .val (.int (1 : Int32))] [])) (fun t_ k_ => XS.icmpYes X16.here hx rfl (pc0 := 12) (pc' := 17) rfl (hb hby d1_12) rfl (XT.ii_ne_t hb21) (by decide) (by decide) k_) ?_
        refine own_step (T' := T15) (g' := (mkF m 18 #[.val (.ref a), .val (.int n), .val (.int (1 : Int32))] [(.ref a)])) (fun t_ k_ => XS.aloadN X16.here hx rfl (hb hby d1_17) rfl rfl k_) ?_
        refine own_step (T' := T15) (g' := (mkF m 19 #[.val (.ref a), .val (.int n), .val (.int (1 : Int32))] [(.int (1 : Int32)), (.ref a)])) (fun t_ k_ => XS.iloadN X16.here hx rfl (hb hby d1_18) rfl k_) ?_
        have st22 := own_baload (g := (mkF m 19 #[.val (.ref a), .val (.int n), .val (.int (1 : Int32))] [(.int (1 : Int32)), (.ref a)])) X16 hx hZ e17 V0 (v := (.int b1)) (by decide) (own_ix (k := 1) (by decide) rfl) rfl rfl (hb hby d1_19)
        refine own_step (T' := T15) (g' := (mkF m 20 #[.val (.ref a), .val (.int n), .val (.int (1 : Int32))] [(.int b1)])) st22 ?_
        obtain ⟨T23, X24, e25, st26⟩ := getS2 (host := "") X16 hx hZ hown (Or.inl (hw _ (List.mem_of_getElem? (i := 10) rfl))) Via.refl e17 S0 (g := (mkF m 20 #[.val (.ref a), .val (.int n), .val (.int (1 : Int32))] [(.int b1)])) rfl (hb hby d1_20)
        refine own_step (T' := T23) (g' := (mkF m 23 #[.val (.ref a), .val (.int n), .val (.int (1 : Int32))] [(.ref r), (.int b1)])) st26 ?_
        refine own_step (T' := T23) (g' := (mkF m 24 #[.val (.ref a), .val (.int n), .val (.int (1 : Int32))] [(.int (1 : Int32)), (.ref r), (.int b1)])) (fun t_ k_ => XS.iloadN X24.here hx rfl (hb hby d1_23) rfl k_) ?_
        have st27 := own_baload (g := (mkF m 24 #[.val (.ref a), .val (.int n), .val (.int (1 : Int32))] [(.int (1 : Int32)), (.ref r), (.int b1)])) X24 hx hZ e25 U0 (v := (.int (-69 : Int32))) (by decide) (own_ix (k := 1) (by decide) rfl) rfl rfl (hb hby d1_24)
        refine own_step (T' := T23) (g' := (mkF m 25 #[.val (.ref a), .val (.int n), .val (.int (1 : Int32))] [(.int (-69 : Int32)), (.int b1)])) st27 ?_
        by_cases hb28 : b1 = (-69 : Int32)
        · refine own_step (T' := T23) (g' := (mkF m 30 #[.val (.ref a), .val (.int n), .val (.int (1 : Int32))] [])) (fun t_ k_ => XS.icmpYes X24.here hx rfl (pc0 := 25) (pc' := 30) rfl (hb hby d1_25) rfl (XT.ii_eq_t hb28) (by decide) (by decide) k_) ?_
          refine own_step (T' := T23) (g' := (mkF m 33 #[.val (.ref a), .val (.int n), .val (.int ((1 : Int32) + (1 : Int32)))] [])) (fun t_ k_ => XT.iincV X24.here hx rfl (1 : Int32) (hb hby d1_30) (by decide) rfl (l' := #[.val (.ref a), .val (.int n), .val (.int ((1 : Int32) + (1 : Int32)))]) rfl k_) ?_
          rw [(by decide : ((1 : Int32) + (1 : Int32)) = (2 : Int32))]
          refine own_step (T' := T23) (g' := (mkF m 2 #[.val (.ref a), .val (.int n), .val (.int (2 : Int32))] [])) (fun t_ k_ => XS.goto X24.here hx rfl (pc0 := 33) (pc' := 2) rfl (hb hby d1_33) (by decide) (by decide) k_) ?_
          refine own_step (T' := T23) (g' := (mkF m 3 #[.val (.ref a), .val (.int n), .val (.int (2 : Int32))] [(.int (2 : Int32))])) (fun t_ k_ => XS.iloadN X24.here hx rfl (hb hby d1_2) rfl k_) ?_
          obtain ⟨T29, X30, e31, st32⟩ := getS2 (host := "") X24 hx hZ hown (Or.inl (hw _ (List.mem_of_getElem? (i := 10) rfl))) Via.refl e25 S0 (g := (mkF m 3 #[.val (.ref a), .val (.int n), .val (.int (2 : Int32))] [(.int (2 : Int32))])) rfl (hb hby d1_3)
          refine own_step (T' := T29) (g' := (mkF m 6 #[.val (.ref a), .val (.int n), .val (.int (2 : Int32))] [(.ref r), (.int (2 : Int32))])) st32 ?_
          have st33 := own_alen (g := (mkF m 6 #[.val (.ref a), .val (.int n), .val (.int (2 : Int32))] [(.ref r), (.int (2 : Int32))])) X30 hx hZ e31 U0 (n := (3 : Int32)) (i := 3) rfl (by decide) rfl rfl (hb hby d1_6)
          refine own_step (T' := T29) (g' := (mkF m 7 #[.val (.ref a), .val (.int n), .val (.int (2 : Int32))] [(.int (3 : Int32)), (.int (2 : Int32))])) st33 ?_
          have hk34 : (2 : Int32) < (3 : Int32) := (by decide)
          refine own_step (T' := T29) (g' := (mkF m 10 #[.val (.ref a), .val (.int n), .val (.int (2 : Int32))] [])) (fun t_ k_ => XS.icmpNo X30.here hx rfl (hb hby d1_7) rfl (XT.ii_ge_f hk34) k_) ?_
          refine own_step (T' := T29) (g' := (mkF m 11 #[.val (.ref a), .val (.int n), .val (.int (2 : Int32))] [(.int (2 : Int32))])) (fun t_ k_ => XS.iloadN X30.here hx rfl (hb hby d1_10) rfl k_) ?_
          refine own_step (T' := T29) (g' := (mkF m 12 #[.val (.ref a), .val (.int n), .val (.int (2 : Int32))] [(.int n), (.int (2 : Int32))])) (fun t_ k_ => XS.iloadN X30.here hx rfl (hb hby d1_11) rfl k_) ?_
          by_cases hb35 : (2 : Int32) = n
          · refine own_step (T' := T29) (g' := (mkF m 15 #[.val (.ref a), .val (.int n), .val (.int (2 : Int32))] [])) (fun t_ k_ => XS.icmpNo X30.here hx rfl (hb hby d1_12) rfl (XT.ii_ne_f hb35) k_) ?_
            refine own_step (T' := T29) (g' := (mkF m 16 #[.val (.ref a), .val (.int n), .val (.int (2 : Int32))] [(.int (-1 : Int32))])) (fun t_ k_ => XT.iconstV X30.here hx rfl (-1 : Int32) (hb hby d1_15) (by decide) k_) ?_
            exact own_retI X30 hx hlk Bd.returns (hb hby d1_16) (by rw [e31]; exact ⟨by unfold own_bom; rw [if_neg hb7, if_pos hb14, if_neg hb21, if_pos hb28, if_pos hb35], N0, rfl⟩) (by decide) (by decide)
          · refine own_step (T' := T29) (g' := (mkF m 17 #[.val (.ref a), .val (.int n), .val (.int (2 : Int32))] [])) (fun t_ k_ => XS.icmpYes X30.here hx rfl (pc0 := 12) (pc' := 17) rfl (hb hby d1_12) rfl (XT.ii_ne_t hb35) (by decide) (by decide) k_) ?_
            refine own_step (T' := T29) (g' := (mkF m 18 #[.val (.ref a), .val (.int n), .val (.int (2 : Int32))] [(.ref a)])) (fun t_ k_ => XS.aloadN X30.here hx rfl (hb hby d1_17) rfl rfl k_) ?_
            refine own_step (T' := T29) (g' := (mkF m 19 #[.val (.ref a), .val (.int n), .val (.int (2 : Int32))] [(.int (2 : Int32)), (.ref a)])) (fun t_ k_ => XS.iloadN X30.here hx rfl (hb hby d1_18) rfl k_) ?_
            have st36 := own_baload (g := (mkF m 19 #[.val (.ref a), .val (.int n), .val (.int (2 : Int32))] [(.int (2 : Int32)), (.ref a)])) X30 hx hZ e31 V0 (v := (.int b2)) (by decide) (own_ix (k := 2) (by decide) rfl) rfl rfl (hb hby d1_19)
            refine own_step (T' := T29) (g' := (mkF m 20 #[.val (.ref a), .val (.int n), .val (.int (2 : Int32))] [(.int b2)])) st36 ?_
            obtain ⟨T37, X38, e39, st40⟩ := getS2 (host := "") X30 hx hZ hown (Or.inl (hw _ (List.mem_of_getElem? (i := 10) rfl))) Via.refl e31 S0 (g := (mkF m 20 #[.val (.ref a), .val (.int n), .val (.int (2 : Int32))] [(.int b2)])) rfl (hb hby d1_20)
            refine own_step (T' := T37) (g' := (mkF m 23 #[.val (.ref a), .val (.int n), .val (.int (2 : Int32))] [(.ref r), (.int b2)])) st40 ?_
            refine own_step (T' := T37) (g' := (mkF m 24 #[.val (.ref a), .val (.int n), .val (.int (2 : Int32))] [(.int (2 : Int32)), (.ref r), (.int b2)])) (fun t_ k_ => XS.iloadN X38.here hx rfl (hb hby d1_23) rfl k_) ?_
            have st41 := own_baload (g := (mkF m 24 #[.val (.ref a), .val (.int n), .val (.int (2 : Int32))] [(.int (2 : Int32)), (.ref r), (.int b2)])) X38 hx hZ e39 U0 (v := (.int (-65 : Int32))) (by decide) (own_ix (k := 2) (by decide) rfl) rfl rfl (hb hby d1_24)
            refine own_step (T' := T37) (g' := (mkF m 25 #[.val (.ref a), .val (.int n), .val (.int (2 : Int32))] [(.int (-65 : Int32)), (.int b2)])) st41 ?_
            by_cases hb42 : b2 = (-65 : Int32)
            · refine own_step (T' := T37) (g' := (mkF m 30 #[.val (.ref a), .val (.int n), .val (.int (2 : Int32))] [])) (fun t_ k_ => XS.icmpYes X38.here hx rfl (pc0 := 25) (pc' := 30) rfl (hb hby d1_25) rfl (XT.ii_eq_t hb42) (by decide) (by decide) k_) ?_
              refine own_step (T' := T37) (g' := (mkF m 33 #[.val (.ref a), .val (.int n), .val (.int ((2 : Int32) + (1 : Int32)))] [])) (fun t_ k_ => XT.iincV X38.here hx rfl (1 : Int32) (hb hby d1_30) (by decide) rfl (l' := #[.val (.ref a), .val (.int n), .val (.int ((2 : Int32) + (1 : Int32)))]) rfl k_) ?_
              rw [(by decide : ((2 : Int32) + (1 : Int32)) = (3 : Int32))]
              refine own_step (T' := T37) (g' := (mkF m 2 #[.val (.ref a), .val (.int n), .val (.int (3 : Int32))] [])) (fun t_ k_ => XS.goto X38.here hx rfl (pc0 := 33) (pc' := 2) rfl (hb hby d1_33) (by decide) (by decide) k_) ?_
              refine own_step (T' := T37) (g' := (mkF m 3 #[.val (.ref a), .val (.int n), .val (.int (3 : Int32))] [(.int (3 : Int32))])) (fun t_ k_ => XS.iloadN X38.here hx rfl (hb hby d1_2) rfl k_) ?_
              obtain ⟨T43, X44, e45, st46⟩ := getS2 (host := "") X38 hx hZ hown (Or.inl (hw _ (List.mem_of_getElem? (i := 10) rfl))) Via.refl e39 S0 (g := (mkF m 3 #[.val (.ref a), .val (.int n), .val (.int (3 : Int32))] [(.int (3 : Int32))])) rfl (hb hby d1_3)
              refine own_step (T' := T43) (g' := (mkF m 6 #[.val (.ref a), .val (.int n), .val (.int (3 : Int32))] [(.ref r), (.int (3 : Int32))])) st46 ?_
              have st47 := own_alen (g := (mkF m 6 #[.val (.ref a), .val (.int n), .val (.int (3 : Int32))] [(.ref r), (.int (3 : Int32))])) X44 hx hZ e45 U0 (n := (3 : Int32)) (i := 3) rfl (by decide) rfl rfl (hb hby d1_6)
              refine own_step (T' := T43) (g' := (mkF m 7 #[.val (.ref a), .val (.int n), .val (.int (3 : Int32))] [(.int (3 : Int32)), (.int (3 : Int32))])) st47 ?_
              have hk48 : ¬ ((3 : Int32) < (3 : Int32)) := (by decide)
              refine own_step (T' := T43) (g' := (mkF m 36 #[.val (.ref a), .val (.int n), .val (.int (3 : Int32))] [])) (fun t_ k_ => XS.icmpYes X44.here hx rfl (pc0 := 7) (pc' := 36) rfl (hb hby d1_7) rfl (XT.ii_ge_t hk48) (by decide) (by decide) k_) ?_
              obtain ⟨T49, X50, e51, st52⟩ := getS2 (host := "") X44 hx hZ hown (Or.inl (hw _ (List.mem_of_getElem? (i := 10) rfl))) Via.refl e45 S0 (g := (mkF m 36 #[.val (.ref a), .val (.int n), .val (.int (3 : Int32))] [])) rfl (hb hby d1_36)
              refine own_step (T' := T49) (g' := (mkF m 39 #[.val (.ref a), .val (.int n), .val (.int (3 : Int32))] [(.ref r)])) st52 ?_
              have st53 := own_alen (g := (mkF m 39 #[.val (.ref a), .val (.int n), .val (.int (3 : Int32))] [(.ref r)])) X50 hx hZ e51 U0 (n := (3 : Int32)) (i := 3) rfl (by decide) rfl rfl (hb hby d1_39)
              refine own_step (T' := T49) (g' := (mkF m 40 #[.val (.ref a), .val (.int n), .val (.int (3 : Int32))] [(.int (3 : Int32))])) st53 ?_
              exact own_retI X50 hx hlk Bd.returns (hb hby d1_40) (by rw [e51]; exact ⟨by unfold own_bom; rw [if_neg hb7, if_pos hb14, if_neg hb21, if_pos hb28, if_neg hb35, if_pos hb42], N0, rfl⟩) (by decide) (by decide)
            · refine own_step (T' := T37) (g' := (mkF m 28 #[.val (.ref a), .val (.int n), .val (.int (2 : Int32))] [])) (fun t_ k_ => XS.icmpNo X38.here hx rfl (hb hby d1_25) rfl (XT.ii_eq_f hb42) k_) ?_
              refine own_step (T' := T37) (g' := (mkF m 29 #[.val (.ref a), .val (.int n), .val (.int (2 : Int32))] [(.int (0 : Int32))])) (fun t_ k_ => XT.iconstV X38.here hx rfl (0 : Int32) (hb hby d1_28) (by decide) k_) ?_
              exact own_retI X38 hx hlk Bd.returns (hb hby d1_29) (by rw [e39]; exact ⟨by unfold own_bom; rw [if_neg hb7, if_pos hb14, if_neg hb21, if_pos hb28, if_neg hb35, if_neg hb42], N0, rfl⟩) (by decide) (by decide)
        · refine own_step (T' := T23) (g' := (mkF m 28 #[.val (.ref a), .val (.int n), .val (.int (1 : Int32))] [])) (fun t_ k_ => XS.icmpNo X24.here hx rfl (hb hby d1_25) rfl (XT.ii_eq_f hb28) k_) ?_
          refine own_step (T' := T23) (g' := (mkF m 29 #[.val (.ref a), .val (.int n), .val (.int (1 : Int32))] [(.int (0 : Int32))])) (fun t_ k_ => XT.iconstV X24.here hx rfl (0 : Int32) (hb hby d1_28) (by decide) k_) ?_
          exact own_retI X24 hx hlk Bd.returns (hb hby d1_29) (by rw [e25]; exact ⟨by unfold own_bom; rw [if_neg hb7, if_pos hb14, if_neg hb21, if_neg hb28], N0, rfl⟩) (by decide) (by decide)
    · refine own_step (T' := T9) (g' := (mkF m 28 #[.val (.ref a), .val (.int n), .val (.int (0 : Int32))] [])) (fun t_ k_ => XS.icmpNo X10.here hx rfl (hb hby d1_25) rfl (XT.ii_eq_f hb14) k_) ?_
      refine own_step (T' := T9) (g' := (mkF m 29 #[.val (.ref a), .val (.int n), .val (.int (0 : Int32))] [(.int (0 : Int32))])) (fun t_ k_ => XT.iconstV X10.here hx rfl (0 : Int32) (hb hby d1_28) (by decide) k_) ?_
      exact own_retI X10 hx hlk Bd.returns (hb hby d1_29) (by rw [e11]; exact ⟨by unfold own_bom; rw [if_neg hb7, if_neg hb14], N0, rfl⟩) (by decide) (by decide)
theorem pn_2 : plainFor x = true := by first | exact plainFor_of_name (by first | (simp [plainName, overriddenIn]; done) | decide +kernel) | decide +kernel
theorem ef_2 (m : MethodId) (x0 : Int32) (x1 : Int32) (x2 : Int32) (x3 : Int32) (x4 : Int32) (x5 : Int32) : entryFrame m #[(.int x0), (.int x1), (.int x2), (.int x3), (.int x4), (.int x5)] maxLocals = mkF m 0 #[.val (.int x0), .val (.int x1), .val (.int x2), .val (.int x3), .val (.int x4), .val (.int x5), .unset, .unset, .unset, .unset, .unset, .unset, .unset, .unset, .unset] [] := by first | (simp [entryFrame, mkF, argsToLocals, Value.category, maxLocals]; done) | rfl
def Q_2 (h0 : Heap) (n0 : Nat) (v : Option Value) (h : Heap) (L : List Loc) : Prop := v = some (.int 1) ∧ Fr n0 L
set_option maxRecDepth 65536 in
set_option maxHeartbeats 40000000 in
theorem rm_law (l : Launch) (Z : State) (a0 : Array Value) (hw : ∀ d ∈ tables_1, d.before a0 Z = true) (ws : List Jvm.Cond) (a1 b1 c1 d1 n1 sel : Int32) (r : Addr) (h0 : Heap) (n0 : Nat) (Z0 : n0 ≤ h0.size) (U0 : own_Arl Z h0 r .byte [(.int (-17 : Int32)), (.int (-69 : Int32)), (.int (-65 : Int32))]) (S0 : Sta Z h0 "com/example/llogari/llogari/text/TextForm" "BYTE_ORDER_MARK_BYTES" "[B" (.ref r)) :
    MetFree l x (head1 (Jvm.Cond.code x code maxLocals ret :: ws) room_1) (fun as_ U => as_ = #[(.int a1), (.int b1), (.int c1), (.int d1), (.int n1), (.int sel)] ∧ Z.Warmed39 U.vm ∧ U.heap = h0) (fun _ _ _ _ _ => True) (fun _ U o U' => ∃ v L, o = .returned v ∧ Q_2 h0 n0 v U'.heap L ∧ FrameEnd U o U' L 1 4) := by
  refine MetFree.of_bodySF pn_2 hisR ?_
  intro p e s m args below meth c s₁ Bd hml0 hP hK
  obtain ⟨rfl, hZ, hh⟩ := hP
  have hx := Bd.exec
  have hby := Bd.bytes
  have hlk := BodyLoose.notSynchronized Bd
  have hml : c.maxLocals = 15 := hml0
  have hown : s.vm.findClass "com/example/llogari/llogari/text/TextFormByteOrderMarkLengthPinLaw" = some m.cls := findClass_of_methodNamed Bd.named
  have hnm := (name_of_methodNamed Bd.named Bd.method).1
  have X0 : Stand p l e room_1 s m #[(.int a1), (.int b1), (.int c1), (.int d1), (.int n1), (.int sel)] below meth c s₁ [] 0 0 := Stand.of_body Bd
  have e0 : s₁.heap = h0 := by rw [← hh, Bd.state]; rfl
  have N0 := Fr.nil n0
  refine own_in (ef_2 m a1 b1 c1 d1 n1 sel) ?_
  show own_Fin p e below s (Q_2 h0 n0) 1 4 s₁ (mkF m 0 #[.val (.int a1), .val (.int b1), .val (.int c1), .val (.int d1), .val (.int n1), .val (.int sel), .unset, .unset, .unset, .unset, .unset, .unset, .unset, .unset, .unset] [])
  refine own_step (T' := s₁) (g' := (mkF m 2 #[.val (.int a1), .val (.int b1), .val (.int c1), .val (.int d1), .val (.int n1), .val (.int sel), .unset, .unset, .unset, .unset, .unset, .unset, .unset, .unset, .unset] [(.int sel)])) (fun t_ k_ => XS.iload X0.here hx rfl (hb hby at_0) rfl k_) ?_
  refine own_step (T' := s₁) (g' := (mkF m 3 #[.val (.int a1), .val (.int b1), .val (.int c1), .val (.int d1), .val (.int n1), .val (.int sel), .unset, .unset, .unset, .unset, .unset, .unset, .unset, .unset, .unset] [(.int (1 : Int32)), (.int sel)])) (fun t_ k_ => XT.iconstV X0.here hx rfl (1 : Int32) (hb hby at_2) (by decide) k_) ?_
  refine own_step (T' := s₁) (g' := (mkF m 4 #[.val (.int a1), .val (.int b1), .val (.int c1), .val (.int d1), .val (.int n1), .val (.int sel), .unset, .unset, .unset, .unset, .unset, .unset, .unset, .unset, .unset] [(.int (sel &&& (1 : Int32)))])) (fun t_ k_ => XS.iand X0.here hx rfl (hb hby at_3) rfl k_) ?_
  suffices k2 : ∀ v3 : Int32, v3 = (if (sel &&& (1 : Int32)) = 0 then ((a1).toInt8.toInt32) else (-17 : Int32)) → own_Fin p e below s (Q_2 h0 n0) 1 4 s₁ (mkF m 14 #[.val (.int a1), .val (.int b1), .val (.int c1), .val (.int d1), .val (.int n1), .val (.int sel), .unset, .unset, .unset, .unset, .unset, .unset, .unset, .unset, .unset] [(.int v3)]) by
    by_cases hb1 : (sel &&& (1 : Int32)) = 0
    · refine own_step (T' := s₁) (g' := (mkF m 12 #[.val (.int a1), .val (.int b1), .val (.int c1), .val (.int d1), .val (.int n1), .val (.int sel), .unset, .unset, .unset, .unset, .unset, .unset, .unset, .unset, .unset] [])) (fun t_ k_ => XS.ifYes X0.here hx rfl (pc0 := 4) (pc' := 12) rfl (hb hby at_4) rfl (XT.i0_eq_t hb1) (by decide) (by decide) k_) ?_
      refine own_step (T' := s₁) (g' := (mkF m 13 #[.val (.int a1), .val (.int b1), .val (.int c1), .val (.int d1), .val (.int n1), .val (.int sel), .unset, .unset, .unset, .unset, .unset, .unset, .unset, .unset, .unset] [(.int a1)])) (fun t_ k_ => XS.iloadN X0.here hx rfl (hb hby at_12) rfl k_) ?_
      refine own_step (T' := s₁) (g' := (mkF m 14 #[.val (.int a1), .val (.int b1), .val (.int c1), .val (.int d1), .val (.int n1), .val (.int sel), .unset, .unset, .unset, .unset, .unset, .unset, .unset, .unset, .unset] [(.int ((a1).toInt8.toInt32))])) (fun t_ k_ => XT.i2b X0.here hx rfl (hb hby at_13) rfl k_) ?_
      exact k2 _ (if_pos hb1).symm
    · refine own_step (T' := s₁) (g' := (mkF m 7 #[.val (.int a1), .val (.int b1), .val (.int c1), .val (.int d1), .val (.int n1), .val (.int sel), .unset, .unset, .unset, .unset, .unset, .unset, .unset, .unset, .unset] [])) (fun t_ k_ => XS.ifNo X0.here hx rfl (hb hby at_4) rfl (XT.i0_eq_f hb1) k_) ?_
      refine own_step (T' := s₁) (g' := (mkF m 9 #[.val (.int a1), .val (.int b1), .val (.int c1), .val (.int d1), .val (.int n1), .val (.int sel), .unset, .unset, .unset, .unset, .unset, .unset, .unset, .unset, .unset] [(.int (-17 : Int32))])) (fun t_ k_ => XT.bipushV X0.here hx rfl (-17 : Int32) (hb hby at_7) (by decide) k_) ?_
      refine own_step (T' := s₁) (g' := (mkF m 14 #[.val (.int a1), .val (.int b1), .val (.int c1), .val (.int d1), .val (.int n1), .val (.int sel), .unset, .unset, .unset, .unset, .unset, .unset, .unset, .unset, .unset] [(.int (-17 : Int32))])) (fun t_ k_ => XS.goto X0.here hx rfl (pc0 := 9) (pc' := 14) rfl (hb hby at_9) (by decide) (by decide) k_) ?_
      exact k2 _ (if_neg hb1).symm
  intro v3 hv3
  refine own_step (T' := s₁) (g' := (mkF m 16 #[.val (.int a1), .val (.int b1), .val (.int c1), .val (.int d1), .val (.int n1), .val (.int sel), .val (.int v3), .unset, .unset, .unset, .unset, .unset, .unset, .unset, .unset] [])) (fun t_ k_ => XS.istore X0.here hx rfl (hb hby at_14) rfl (l' := #[.val (.int a1), .val (.int b1), .val (.int c1), .val (.int d1), .val (.int n1), .val (.int sel), .val (.int v3), .unset, .unset, .unset, .unset, .unset, .unset, .unset, .unset]) rfl k_) ?_
  refine own_step (T' := s₁) (g' := (mkF m 18 #[.val (.int a1), .val (.int b1), .val (.int c1), .val (.int d1), .val (.int n1), .val (.int sel), .val (.int v3), .unset, .unset, .unset, .unset, .unset, .unset, .unset, .unset] [(.int sel)])) (fun t_ k_ => XS.iload X0.here hx rfl (hb hby at_16) rfl k_) ?_
  refine own_step (T' := s₁) (g' := (mkF m 19 #[.val (.int a1), .val (.int b1), .val (.int c1), .val (.int d1), .val (.int n1), .val (.int sel), .val (.int v3), .unset, .unset, .unset, .unset, .unset, .unset, .unset, .unset] [(.int (2 : Int32)), (.int sel)])) (fun t_ k_ => XT.iconstV X0.here hx rfl (2 : Int32) (hb hby at_18) (by decide) k_) ?_
  refine own_step (T' := s₁) (g' := (mkF m 20 #[.val (.int a1), .val (.int b1), .val (.int c1), .val (.int d1), .val (.int n1), .val (.int sel), .val (.int v3), .unset, .unset, .unset, .unset, .unset, .unset, .unset, .unset] [(.int (sel &&& (2 : Int32)))])) (fun t_ k_ => XS.iand X0.here hx rfl (hb hby at_19) rfl k_) ?_
  suffices k5 : ∀ v6 : Int32, v6 = (if (sel &&& (2 : Int32)) = 0 then ((b1).toInt8.toInt32) else (-69 : Int32)) → own_Fin p e below s (Q_2 h0 n0) 1 4 s₁ (mkF m 30 #[.val (.int a1), .val (.int b1), .val (.int c1), .val (.int d1), .val (.int n1), .val (.int sel), .val (.int v3), .unset, .unset, .unset, .unset, .unset, .unset, .unset, .unset] [(.int v6)]) by
    by_cases hb4 : (sel &&& (2 : Int32)) = 0
    · refine own_step (T' := s₁) (g' := (mkF m 28 #[.val (.int a1), .val (.int b1), .val (.int c1), .val (.int d1), .val (.int n1), .val (.int sel), .val (.int v3), .unset, .unset, .unset, .unset, .unset, .unset, .unset, .unset] [])) (fun t_ k_ => XS.ifYes X0.here hx rfl (pc0 := 20) (pc' := 28) rfl (hb hby at_20) rfl (XT.i0_eq_t hb4) (by decide) (by decide) k_) ?_
      refine own_step (T' := s₁) (g' := (mkF m 29 #[.val (.int a1), .val (.int b1), .val (.int c1), .val (.int d1), .val (.int n1), .val (.int sel), .val (.int v3), .unset, .unset, .unset, .unset, .unset, .unset, .unset, .unset] [(.int b1)])) (fun t_ k_ => XS.iloadN X0.here hx rfl (hb hby at_28) rfl k_) ?_
      refine own_step (T' := s₁) (g' := (mkF m 30 #[.val (.int a1), .val (.int b1), .val (.int c1), .val (.int d1), .val (.int n1), .val (.int sel), .val (.int v3), .unset, .unset, .unset, .unset, .unset, .unset, .unset, .unset] [(.int ((b1).toInt8.toInt32))])) (fun t_ k_ => XT.i2b X0.here hx rfl (hb hby at_29) rfl k_) ?_
      exact k5 _ (if_pos hb4).symm
    · refine own_step (T' := s₁) (g' := (mkF m 23 #[.val (.int a1), .val (.int b1), .val (.int c1), .val (.int d1), .val (.int n1), .val (.int sel), .val (.int v3), .unset, .unset, .unset, .unset, .unset, .unset, .unset, .unset] [])) (fun t_ k_ => XS.ifNo X0.here hx rfl (hb hby at_20) rfl (XT.i0_eq_f hb4) k_) ?_
      refine own_step (T' := s₁) (g' := (mkF m 25 #[.val (.int a1), .val (.int b1), .val (.int c1), .val (.int d1), .val (.int n1), .val (.int sel), .val (.int v3), .unset, .unset, .unset, .unset, .unset, .unset, .unset, .unset] [(.int (-69 : Int32))])) (fun t_ k_ => XT.bipushV X0.here hx rfl (-69 : Int32) (hb hby at_23) (by decide) k_) ?_
      refine own_step (T' := s₁) (g' := (mkF m 30 #[.val (.int a1), .val (.int b1), .val (.int c1), .val (.int d1), .val (.int n1), .val (.int sel), .val (.int v3), .unset, .unset, .unset, .unset, .unset, .unset, .unset, .unset] [(.int (-69 : Int32))])) (fun t_ k_ => XS.goto X0.here hx rfl (pc0 := 25) (pc' := 30) rfl (hb hby at_25) (by decide) (by decide) k_) ?_
      exact k5 _ (if_neg hb4).symm
  intro v6 hv6
  refine own_step (T' := s₁) (g' := (mkF m 32 #[.val (.int a1), .val (.int b1), .val (.int c1), .val (.int d1), .val (.int n1), .val (.int sel), .val (.int v3), .val (.int v6), .unset, .unset, .unset, .unset, .unset, .unset, .unset] [])) (fun t_ k_ => XS.istore X0.here hx rfl (hb hby at_30) rfl (l' := #[.val (.int a1), .val (.int b1), .val (.int c1), .val (.int d1), .val (.int n1), .val (.int sel), .val (.int v3), .val (.int v6), .unset, .unset, .unset, .unset, .unset, .unset, .unset]) rfl k_) ?_
  refine own_step (T' := s₁) (g' := (mkF m 34 #[.val (.int a1), .val (.int b1), .val (.int c1), .val (.int d1), .val (.int n1), .val (.int sel), .val (.int v3), .val (.int v6), .unset, .unset, .unset, .unset, .unset, .unset, .unset] [(.int sel)])) (fun t_ k_ => XS.iload X0.here hx rfl (hb hby at_32) rfl k_) ?_
  refine own_step (T' := s₁) (g' := (mkF m 35 #[.val (.int a1), .val (.int b1), .val (.int c1), .val (.int d1), .val (.int n1), .val (.int sel), .val (.int v3), .val (.int v6), .unset, .unset, .unset, .unset, .unset, .unset, .unset] [(.int (4 : Int32)), (.int sel)])) (fun t_ k_ => XT.iconstV X0.here hx rfl (4 : Int32) (hb hby at_34) (by decide) k_) ?_
  refine own_step (T' := s₁) (g' := (mkF m 36 #[.val (.int a1), .val (.int b1), .val (.int c1), .val (.int d1), .val (.int n1), .val (.int sel), .val (.int v3), .val (.int v6), .unset, .unset, .unset, .unset, .unset, .unset, .unset] [(.int (sel &&& (4 : Int32)))])) (fun t_ k_ => XS.iand X0.here hx rfl (hb hby at_35) rfl k_) ?_
  suffices k8 : ∀ v9 : Int32, v9 = (if (sel &&& (4 : Int32)) = 0 then ((c1).toInt8.toInt32) else (-65 : Int32)) → own_Fin p e below s (Q_2 h0 n0) 1 4 s₁ (mkF m 46 #[.val (.int a1), .val (.int b1), .val (.int c1), .val (.int d1), .val (.int n1), .val (.int sel), .val (.int v3), .val (.int v6), .unset, .unset, .unset, .unset, .unset, .unset, .unset] [(.int v9)]) by
    by_cases hb7 : (sel &&& (4 : Int32)) = 0
    · refine own_step (T' := s₁) (g' := (mkF m 44 #[.val (.int a1), .val (.int b1), .val (.int c1), .val (.int d1), .val (.int n1), .val (.int sel), .val (.int v3), .val (.int v6), .unset, .unset, .unset, .unset, .unset, .unset, .unset] [])) (fun t_ k_ => XS.ifYes X0.here hx rfl (pc0 := 36) (pc' := 44) rfl (hb hby at_36) rfl (XT.i0_eq_t hb7) (by decide) (by decide) k_) ?_
      refine own_step (T' := s₁) (g' := (mkF m 45 #[.val (.int a1), .val (.int b1), .val (.int c1), .val (.int d1), .val (.int n1), .val (.int sel), .val (.int v3), .val (.int v6), .unset, .unset, .unset, .unset, .unset, .unset, .unset] [(.int c1)])) (fun t_ k_ => XS.iloadN X0.here hx rfl (hb hby at_44) rfl k_) ?_
      refine own_step (T' := s₁) (g' := (mkF m 46 #[.val (.int a1), .val (.int b1), .val (.int c1), .val (.int d1), .val (.int n1), .val (.int sel), .val (.int v3), .val (.int v6), .unset, .unset, .unset, .unset, .unset, .unset, .unset] [(.int ((c1).toInt8.toInt32))])) (fun t_ k_ => XT.i2b X0.here hx rfl (hb hby at_45) rfl k_) ?_
      exact k8 _ (if_pos hb7).symm
    · refine own_step (T' := s₁) (g' := (mkF m 39 #[.val (.int a1), .val (.int b1), .val (.int c1), .val (.int d1), .val (.int n1), .val (.int sel), .val (.int v3), .val (.int v6), .unset, .unset, .unset, .unset, .unset, .unset, .unset] [])) (fun t_ k_ => XS.ifNo X0.here hx rfl (hb hby at_36) rfl (XT.i0_eq_f hb7) k_) ?_
      refine own_step (T' := s₁) (g' := (mkF m 41 #[.val (.int a1), .val (.int b1), .val (.int c1), .val (.int d1), .val (.int n1), .val (.int sel), .val (.int v3), .val (.int v6), .unset, .unset, .unset, .unset, .unset, .unset, .unset] [(.int (-65 : Int32))])) (fun t_ k_ => XT.bipushV X0.here hx rfl (-65 : Int32) (hb hby at_39) (by decide) k_) ?_
      refine own_step (T' := s₁) (g' := (mkF m 46 #[.val (.int a1), .val (.int b1), .val (.int c1), .val (.int d1), .val (.int n1), .val (.int sel), .val (.int v3), .val (.int v6), .unset, .unset, .unset, .unset, .unset, .unset, .unset] [(.int (-65 : Int32))])) (fun t_ k_ => XS.goto X0.here hx rfl (pc0 := 41) (pc' := 46) rfl (hb hby at_41) (by decide) (by decide) k_) ?_
      exact k8 _ (if_neg hb7).symm
  intro v9 hv9
  refine own_step (T' := s₁) (g' := (mkF m 48 #[.val (.int a1), .val (.int b1), .val (.int c1), .val (.int d1), .val (.int n1), .val (.int sel), .val (.int v3), .val (.int v6), .val (.int v9), .unset, .unset, .unset, .unset, .unset, .unset] [])) (fun t_ k_ => XS.istore X0.here hx rfl (hb hby at_46) rfl (l' := #[.val (.int a1), .val (.int b1), .val (.int c1), .val (.int d1), .val (.int n1), .val (.int sel), .val (.int v3), .val (.int v6), .val (.int v9), .unset, .unset, .unset, .unset, .unset, .unset]) rfl k_) ?_
  refine own_step (T' := s₁) (g' := (mkF m 49 #[.val (.int a1), .val (.int b1), .val (.int c1), .val (.int d1), .val (.int n1), .val (.int sel), .val (.int v3), .val (.int v6), .val (.int v9), .unset, .unset, .unset, .unset, .unset, .unset] [(.int (4 : Int32))])) (fun t_ k_ => XT.iconstV X0.here hx rfl (4 : Int32) (hb hby at_48) (by decide) k_) ?_
  obtain ⟨T10, h11, cA12, X13, e14, E15, A16, st17⟩ := newP X0 hx hZ (hw _ (List.mem_of_getElem? (i := 0) rfl)) e0 (g := (mkF m 49 #[.val (.int a1), .val (.int b1), .val (.int c1), .val (.int d1), .val (.int n1), .val (.int sel), .val (.int v3), .val (.int v6), .val (.int v9), .unset, .unset, .unset, .unset, .unset, .unset] [(.int (4 : Int32))])) rfl (hb hby at_49) rfl (by decide) (cap := 4) (by decide) (by decide) (by decide) (by decide)
  obtain ⟨a18, g19⟩ : ∃ z, z = h0.size := ⟨_, rfl⟩
  rw [← g19] at A16 st17
  have q20 : n0 ≤ a18 := Nat.le_trans Z0 (Nat.le_of_eq g19.symm)
  have ne21 : r ≠ a18 := Nat.ne_of_lt (Nat.lt_of_lt_of_le U0.lt (Nat.le_of_eq g19.symm))
  have F22 : n0 ≤ h11.size := Nat.le_trans Z0 E15.1
  have F23 : own_Arl Z h11 r .byte [(.int (-17 : Int32)), (.int (-69 : Int32)), (.int (-65 : Int32))] := U0.ext E15
  have F24 : Sta Z h11 "com/example/llogari/llogari/text/TextForm" "BYTE_ORDER_MARK_BYTES" "[B" (.ref r) := S0.ext E15
  have V25 : own_Arl Z h11 a18 .byte [(.int (0 : Int32)), (.int (0 : Int32)), (.int (0 : Int32)), (.int (0 : Int32))] := own_Arl.of_new A16 (i := 4) (by decide)
  refine own_step (T' := T10) (g' := (mkF m 51 #[.val (.int a1), .val (.int b1), .val (.int c1), .val (.int d1), .val (.int n1), .val (.int sel), .val (.int v3), .val (.int v6), .val (.int v9), .unset, .unset, .unset, .unset, .unset, .unset] [(.ref a18)])) st17 ?_
  refine own_step (T' := T10) (g' := (mkF m 52 #[.val (.int a1), .val (.int b1), .val (.int c1), .val (.int d1), .val (.int n1), .val (.int sel), .val (.int v3), .val (.int v6), .val (.int v9), .unset, .unset, .unset, .unset, .unset, .unset] [(.ref a18), (.ref a18)])) (fun t_ k_ => XS.dup X13.here hx rfl (hb hby at_51) rfl rfl k_) ?_
  refine own_step (T' := T10) (g' := (mkF m 53 #[.val (.int a1), .val (.int b1), .val (.int c1), .val (.int d1), .val (.int n1), .val (.int sel), .val (.int v3), .val (.int v6), .val (.int v9), .unset, .unset, .unset, .unset, .unset, .unset] [(.int (0 : Int32)), (.ref a18), (.ref a18)])) (fun t_ k_ => XT.iconstV X13.here hx rfl (0 : Int32) (hb hby at_52) (by decide) k_) ?_
  refine own_step (T' := T10) (g' := (mkF m 55 #[.val (.int a1), .val (.int b1), .val (.int c1), .val (.int d1), .val (.int n1), .val (.int sel), .val (.int v3), .val (.int v6), .val (.int v9), .unset, .unset, .unset, .unset, .unset, .unset] [(.int v3), (.int (0 : Int32)), (.ref a18), (.ref a18)])) (fun t_ k_ => XS.iload X13.here hx rfl (hb hby at_53) rfl k_) ?_
  obtain ⟨cl26, Ar27, Lx28⟩ := id V25
  obtain ⟨T29, h30, X31, e32, W33, st34⟩ := stB X13 hx hZ e14 Ar27 (j := (0 : Int32)) (own_inb' Lx28 (n := 4) rfl (by decide) (by decide)) (g := (mkF m 55 #[.val (.int a1), .val (.int b1), .val (.int c1), .val (.int d1), .val (.int n1), .val (.int sel), .val (.int v3), .val (.int v6), .val (.int v9), .unset, .unset, .unset, .unset, .unset, .unset] [(.int v3), (.int (0 : Int32)), (.ref a18), (.ref a18)])) rfl rfl (hb hby at_55)
  have N35 := Fr.snoc X31 N0 q20
  have F36 : n0 ≤ h30.size := Nat.le_trans F22 (Keep.of_wr W33).1
  have F37 : own_Arl Z h30 r .byte [(.int (-17 : Int32)), (.int (-69 : Int32)), (.int (-65 : Int32))] := F23.other W33 ne21
  have F38 : Sta Z h30 "com/example/llogari/llogari/text/TextForm" "BYTE_ORDER_MARK_BYTES" "[B" (.ref r) := F24.wr W33
  have V39 : own_Arl Z h30 a18 .byte [(.int (nar .byte v3)), (.int (0 : Int32)), (.int (0 : Int32)), (.int (0 : Int32))] := own_Arl.set' (j := (0 : Int32)) V25 W33 (i := 0) (by decide)
  refine own_step (T' := T29) (g' := (mkF m 56 #[.val (.int a1), .val (.int b1), .val (.int c1), .val (.int d1), .val (.int n1), .val (.int sel), .val (.int v3), .val (.int v6), .val (.int v9), .unset, .unset, .unset, .unset, .unset, .unset] [(.ref a18)])) st34 ?_
  refine own_step (T' := T29) (g' := (mkF m 57 #[.val (.int a1), .val (.int b1), .val (.int c1), .val (.int d1), .val (.int n1), .val (.int sel), .val (.int v3), .val (.int v6), .val (.int v9), .unset, .unset, .unset, .unset, .unset, .unset] [(.ref a18), (.ref a18)])) (fun t_ k_ => XS.dup X31.here hx rfl (hb hby at_56) rfl rfl k_) ?_
  refine own_step (T' := T29) (g' := (mkF m 58 #[.val (.int a1), .val (.int b1), .val (.int c1), .val (.int d1), .val (.int n1), .val (.int sel), .val (.int v3), .val (.int v6), .val (.int v9), .unset, .unset, .unset, .unset, .unset, .unset] [(.int (1 : Int32)), (.ref a18), (.ref a18)])) (fun t_ k_ => XT.iconstV X31.here hx rfl (1 : Int32) (hb hby at_57) (by decide) k_) ?_
  refine own_step (T' := T29) (g' := (mkF m 60 #[.val (.int a1), .val (.int b1), .val (.int c1), .val (.int d1), .val (.int n1), .val (.int sel), .val (.int v3), .val (.int v6), .val (.int v9), .unset, .unset, .unset, .unset, .unset, .unset] [(.int v6), (.int (1 : Int32)), (.ref a18), (.ref a18)])) (fun t_ k_ => XS.iload X31.here hx rfl (hb hby at_58) rfl k_) ?_
  obtain ⟨cl40, Ar41, Lx42⟩ := id V39
  obtain ⟨T43, h44, X45, e46, W47, st48⟩ := stB X31 hx hZ e32 Ar41 (j := (1 : Int32)) (own_inb' Lx42 (n := 4) rfl (by decide) (by decide)) (g := (mkF m 60 #[.val (.int a1), .val (.int b1), .val (.int c1), .val (.int d1), .val (.int n1), .val (.int sel), .val (.int v3), .val (.int v6), .val (.int v9), .unset, .unset, .unset, .unset, .unset, .unset] [(.int v6), (.int (1 : Int32)), (.ref a18), (.ref a18)])) rfl rfl (hb hby at_60)
  have N49 := Fr.snoc X45 N35 q20
  have F50 : n0 ≤ h44.size := Nat.le_trans F36 (Keep.of_wr W47).1
  have F51 : own_Arl Z h44 r .byte [(.int (-17 : Int32)), (.int (-69 : Int32)), (.int (-65 : Int32))] := F37.other W47 ne21
  have F52 : Sta Z h44 "com/example/llogari/llogari/text/TextForm" "BYTE_ORDER_MARK_BYTES" "[B" (.ref r) := F38.wr W47
  have V53 : own_Arl Z h44 a18 .byte [(.int (nar .byte v3)), (.int (nar .byte v6)), (.int (0 : Int32)), (.int (0 : Int32))] := own_Arl.set' (j := (1 : Int32)) V39 W47 (i := 1) (by decide)
  refine own_step (T' := T43) (g' := (mkF m 61 #[.val (.int a1), .val (.int b1), .val (.int c1), .val (.int d1), .val (.int n1), .val (.int sel), .val (.int v3), .val (.int v6), .val (.int v9), .unset, .unset, .unset, .unset, .unset, .unset] [(.ref a18)])) st48 ?_
  refine own_step (T' := T43) (g' := (mkF m 62 #[.val (.int a1), .val (.int b1), .val (.int c1), .val (.int d1), .val (.int n1), .val (.int sel), .val (.int v3), .val (.int v6), .val (.int v9), .unset, .unset, .unset, .unset, .unset, .unset] [(.ref a18), (.ref a18)])) (fun t_ k_ => XS.dup X45.here hx rfl (hb hby at_61) rfl rfl k_) ?_
  refine own_step (T' := T43) (g' := (mkF m 63 #[.val (.int a1), .val (.int b1), .val (.int c1), .val (.int d1), .val (.int n1), .val (.int sel), .val (.int v3), .val (.int v6), .val (.int v9), .unset, .unset, .unset, .unset, .unset, .unset] [(.int (2 : Int32)), (.ref a18), (.ref a18)])) (fun t_ k_ => XT.iconstV X45.here hx rfl (2 : Int32) (hb hby at_62) (by decide) k_) ?_
  refine own_step (T' := T43) (g' := (mkF m 65 #[.val (.int a1), .val (.int b1), .val (.int c1), .val (.int d1), .val (.int n1), .val (.int sel), .val (.int v3), .val (.int v6), .val (.int v9), .unset, .unset, .unset, .unset, .unset, .unset] [(.int v9), (.int (2 : Int32)), (.ref a18), (.ref a18)])) (fun t_ k_ => XS.iload X45.here hx rfl (hb hby at_63) rfl k_) ?_
  obtain ⟨cl54, Ar55, Lx56⟩ := id V53
  obtain ⟨T57, h58, X59, e60, W61, st62⟩ := stB X45 hx hZ e46 Ar55 (j := (2 : Int32)) (own_inb' Lx56 (n := 4) rfl (by decide) (by decide)) (g := (mkF m 65 #[.val (.int a1), .val (.int b1), .val (.int c1), .val (.int d1), .val (.int n1), .val (.int sel), .val (.int v3), .val (.int v6), .val (.int v9), .unset, .unset, .unset, .unset, .unset, .unset] [(.int v9), (.int (2 : Int32)), (.ref a18), (.ref a18)])) rfl rfl (hb hby at_65)
  have N63 := Fr.snoc X59 N49 q20
  have F64 : n0 ≤ h58.size := Nat.le_trans F50 (Keep.of_wr W61).1
  have F65 : own_Arl Z h58 r .byte [(.int (-17 : Int32)), (.int (-69 : Int32)), (.int (-65 : Int32))] := F51.other W61 ne21
  have F66 : Sta Z h58 "com/example/llogari/llogari/text/TextForm" "BYTE_ORDER_MARK_BYTES" "[B" (.ref r) := F52.wr W61
  have V67 : own_Arl Z h58 a18 .byte [(.int (nar .byte v3)), (.int (nar .byte v6)), (.int (nar .byte v9)), (.int (0 : Int32))] := own_Arl.set' (j := (2 : Int32)) V53 W61 (i := 2) (by decide)
  refine own_step (T' := T57) (g' := (mkF m 66 #[.val (.int a1), .val (.int b1), .val (.int c1), .val (.int d1), .val (.int n1), .val (.int sel), .val (.int v3), .val (.int v6), .val (.int v9), .unset, .unset, .unset, .unset, .unset, .unset] [(.ref a18)])) st62 ?_
  refine own_step (T' := T57) (g' := (mkF m 67 #[.val (.int a1), .val (.int b1), .val (.int c1), .val (.int d1), .val (.int n1), .val (.int sel), .val (.int v3), .val (.int v6), .val (.int v9), .unset, .unset, .unset, .unset, .unset, .unset] [(.ref a18), (.ref a18)])) (fun t_ k_ => XS.dup X59.here hx rfl (hb hby at_66) rfl rfl k_) ?_
  refine own_step (T' := T57) (g' := (mkF m 68 #[.val (.int a1), .val (.int b1), .val (.int c1), .val (.int d1), .val (.int n1), .val (.int sel), .val (.int v3), .val (.int v6), .val (.int v9), .unset, .unset, .unset, .unset, .unset, .unset] [(.int (3 : Int32)), (.ref a18), (.ref a18)])) (fun t_ k_ => XT.iconstV X59.here hx rfl (3 : Int32) (hb hby at_67) (by decide) k_) ?_
  refine own_step (T' := T57) (g' := (mkF m 69 #[.val (.int a1), .val (.int b1), .val (.int c1), .val (.int d1), .val (.int n1), .val (.int sel), .val (.int v3), .val (.int v6), .val (.int v9), .unset, .unset, .unset, .unset, .unset, .unset] [(.int d1), (.int (3 : Int32)), (.ref a18), (.ref a18)])) (fun t_ k_ => XS.iloadN X59.here hx rfl (hb hby at_68) rfl k_) ?_
  refine own_step (T' := T57) (g' := (mkF m 70 #[.val (.int a1), .val (.int b1), .val (.int c1), .val (.int d1), .val (.int n1), .val (.int sel), .val (.int v3), .val (.int v6), .val (.int v9), .unset, .unset, .unset, .unset, .unset, .unset] [(.int ((d1).toInt8.toInt32)), (.int (3 : Int32)), (.ref a18), (.ref a18)])) (fun t_ k_ => XT.i2b X59.here hx rfl (hb hby at_69) rfl k_) ?_
  obtain ⟨cl68, Ar69, Lx70⟩ := id V67
  obtain ⟨T71, h72, X73, e74, W75, st76⟩ := stB X59 hx hZ e60 Ar69 (j := (3 : Int32)) (own_inb' Lx70 (n := 4) rfl (by decide) (by decide)) (g := (mkF m 70 #[.val (.int a1), .val (.int b1), .val (.int c1), .val (.int d1), .val (.int n1), .val (.int sel), .val (.int v3), .val (.int v6), .val (.int v9), .unset, .unset, .unset, .unset, .unset, .unset] [(.int ((d1).toInt8.toInt32)), (.int (3 : Int32)), (.ref a18), (.ref a18)])) rfl rfl (hb hby at_70)
  have N77 := Fr.snoc X73 N63 q20
  have F78 : n0 ≤ h72.size := Nat.le_trans F64 (Keep.of_wr W75).1
  have F79 : own_Arl Z h72 r .byte [(.int (-17 : Int32)), (.int (-69 : Int32)), (.int (-65 : Int32))] := F65.other W75 ne21
  have F80 : Sta Z h72 "com/example/llogari/llogari/text/TextForm" "BYTE_ORDER_MARK_BYTES" "[B" (.ref r) := F66.wr W75
  have V81 : own_Arl Z h72 a18 .byte [(.int (nar .byte v3)), (.int (nar .byte v6)), (.int (nar .byte v9)), (.int (nar .byte ((d1).toInt8.toInt32)))] := own_Arl.set' (j := (3 : Int32)) V67 W75 (i := 3) (by decide)
  refine own_step (T' := T71) (g' := (mkF m 71 #[.val (.int a1), .val (.int b1), .val (.int c1), .val (.int d1), .val (.int n1), .val (.int sel), .val (.int v3), .val (.int v6), .val (.int v9), .unset, .unset, .unset, .unset, .unset, .unset] [(.ref a18)])) st76 ?_
  refine own_step (T' := T71) (g' := (mkF m 73 #[.val (.int a1), .val (.int b1), .val (.int c1), .val (.int d1), .val (.int n1), .val (.int sel), .val (.int v3), .val (.int v6), .val (.int v9), .val (.ref a18), .unset, .unset, .unset, .unset, .unset] [])) (fun t_ k_ => XS.astore X73.here hx rfl (hb hby at_71) rfl rfl (l' := #[.val (.int a1), .val (.int b1), .val (.int c1), .val (.int d1), .val (.int n1), .val (.int sel), .val (.int v3), .val (.int v6), .val (.int v9), .val (.ref a18), .unset, .unset, .unset, .unset, .unset]) rfl k_) ?_
  refine own_step (T' := T71) (g' := (mkF m 75 #[.val (.int a1), .val (.int b1), .val (.int c1), .val (.int d1), .val (.int n1), .val (.int sel), .val (.int v3), .val (.int v6), .val (.int v9), .val (.ref a18), .unset, .unset, .unset, .unset, .unset] [(.int n1)])) (fun t_ k_ => XS.iload X73.here hx rfl (hb hby at_73) rfl k_) ?_
  refine own_step (T' := T71) (g' := (mkF m 77 #[.val (.int a1), .val (.int b1), .val (.int c1), .val (.int d1), .val (.int n1), .val (.int sel), .val (.int v3), .val (.int v6), .val (.int v9), .val (.ref a18), .unset, .unset, .unset, .unset, .unset] [(.int (2147483647 : Int32)), (.int n1)])) (fun t_ k_ => X73.ldcI hx hown (mvT hZ (hw _ (List.mem_of_getElem? (i := 1) rfl))) rfl (hb hby at_75) k_) ?_
  refine own_step (T' := T71) (g' := (mkF m 78 #[.val (.int a1), .val (.int b1), .val (.int c1), .val (.int d1), .val (.int n1), .val (.int sel), .val (.int v3), .val (.int v6), .val (.int v9), .val (.ref a18), .unset, .unset, .unset, .unset, .unset] [(.int (n1 &&& (2147483647 : Int32)))])) (fun t_ k_ => XS.iand X73.here hx rfl (hb hby at_77) rfl k_) ?_
  refine own_step (T' := T71) (g' := (mkF m 79 #[.val (.int a1), .val (.int b1), .val (.int c1), .val (.int d1), .val (.int n1), .val (.int sel), .val (.int v3), .val (.int v6), .val (.int v9), .val (.ref a18), .unset, .unset, .unset, .unset, .unset] [(.int (5 : Int32)), (.int (n1 &&& (2147483647 : Int32)))])) (fun t_ k_ => XT.iconstV X73.here hx rfl (5 : Int32) (hb hby at_78) (by decide) k_) ?_
  refine own_step (T' := T71) (g' := (mkF m 80 #[.val (.int a1), .val (.int b1), .val (.int c1), .val (.int d1), .val (.int n1), .val (.int sel), .val (.int v3), .val (.int v6), .val (.int v9), .val (.ref a18), .unset, .unset, .unset, .unset, .unset] [(.int ((n1 &&& (2147483647 : Int32)) % (5 : Int32)))])) (fun t_ k_ => iremM X73 hx rfl (hb hby at_79) rfl (by decide) k_) ?_
  refine own_step (T' := T71) (g' := (mkF m 82 #[.val (.int a1), .val (.int b1), .val (.int c1), .val (.int d1), .val (.int n1), .val (.int sel), .val (.int v3), .val (.int v6), .val (.int v9), .val (.ref a18), .val (.int ((n1 &&& (2147483647 : Int32)) % (5 : Int32))), .unset, .unset, .unset, .unset] [])) (fun t_ k_ => XS.istore X73.here hx rfl (hb hby at_80) rfl (l' := #[.val (.int a1), .val (.int b1), .val (.int c1), .val (.int d1), .val (.int n1), .val (.int sel), .val (.int v3), .val (.int v6), .val (.int v9), .val (.ref a18), .val (.int ((n1 &&& (2147483647 : Int32)) % (5 : Int32))), .unset, .unset, .unset, .unset]) rfl k_) ?_
  refine own_step (T' := T71) (g' := (mkF m 84 #[.val (.int a1), .val (.int b1), .val (.int c1), .val (.int d1), .val (.int n1), .val (.int sel), .val (.int v3), .val (.int v6), .val (.int v9), .val (.ref a18), .val (.int ((n1 &&& (2147483647 : Int32)) % (5 : Int32))), .unset, .unset, .unset, .unset] [(.int v3)])) (fun t_ k_ => XS.iload X73.here hx rfl (hb hby at_82) rfl k_) ?_
  refine own_step (T' := T71) (g' := (mkF m 86 #[.val (.int a1), .val (.int b1), .val (.int c1), .val (.int d1), .val (.int n1), .val (.int sel), .val (.int v3), .val (.int v6), .val (.int v9), .val (.ref a18), .val (.int ((n1 &&& (2147483647 : Int32)) % (5 : Int32))), .unset, .unset, .unset, .unset] [(.int (-17 : Int32)), (.int v3)])) (fun t_ k_ => XT.bipushV X73.here hx rfl (-17 : Int32) (hb hby at_84) (by decide) k_) ?_
  suffices k83 : ∀ v84 : Int32, v84 = (if v3 = (-17 : Int32) then (if v6 = (-69 : Int32) then (if v9 = (-65 : Int32) then (3 : Int32) else (2 : Int32)) else (1 : Int32)) else (0 : Int32)) → own_Fin p e below s (Q_2 h0 n0) 1 4 T71 (mkF m 116 #[.val (.int a1), .val (.int b1), .val (.int c1), .val (.int d1), .val (.int n1), .val (.int sel), .val (.int v3), .val (.int v6), .val (.int v9), .val (.ref a18), .val (.int ((n1 &&& (2147483647 : Int32)) % (5 : Int32))), .unset, .unset, .unset, .unset] [(.int v84)]) by
    by_cases hb82 : v3 = (-17 : Int32)
    · refine own_step (T' := T71) (g' := (mkF m 89 #[.val (.int a1), .val (.int b1), .val (.int c1), .val (.int d1), .val (.int n1), .val (.int sel), .val (.int v3), .val (.int v6), .val (.int v9), .val (.ref a18), .val (.int ((n1 &&& (2147483647 : Int32)) % (5 : Int32))), .unset, .unset, .unset, .unset] [])) (fun t_ k_ => XS.icmpNo X73.here hx rfl (hb hby at_86) rfl (XT.ii_ne_f hb82) k_) ?_
      refine own_step (T' := T71) (g' := (mkF m 91 #[.val (.int a1), .val (.int b1), .val (.int c1), .val (.int d1), .val (.int n1), .val (.int sel), .val (.int v3), .val (.int v6), .val (.int v9), .val (.ref a18), .val (.int ((n1 &&& (2147483647 : Int32)) % (5 : Int32))), .unset, .unset, .unset, .unset] [(.int v6)])) (fun t_ k_ => XS.iload X73.here hx rfl (hb hby at_89) rfl k_) ?_
      refine own_step (T' := T71) (g' := (mkF m 93 #[.val (.int a1), .val (.int b1), .val (.int c1), .val (.int d1), .val (.int n1), .val (.int sel), .val (.int v3), .val (.int v6), .val (.int v9), .val (.ref a18), .val (.int ((n1 &&& (2147483647 : Int32)) % (5 : Int32))), .unset, .unset, .unset, .unset] [(.int (-69 : Int32)), (.int v6)])) (fun t_ k_ => XT.bipushV X73.here hx rfl (-69 : Int32) (hb hby at_91) (by decide) k_) ?_
      suffices k86 : ∀ v87 : Int32, v87 = (if v6 = (-69 : Int32) then (if v9 = (-65 : Int32) then (3 : Int32) else (2 : Int32)) else (1 : Int32)) → own_Fin p e below s (Q_2 h0 n0) 1 4 T71 (mkF m 116 #[.val (.int a1), .val (.int b1), .val (.int c1), .val (.int d1), .val (.int n1), .val (.int sel), .val (.int v3), .val (.int v6), .val (.int v9), .val (.ref a18), .val (.int ((n1 &&& (2147483647 : Int32)) % (5 : Int32))), .unset, .unset, .unset, .unset] [(.int v87)]) by
        by_cases hb85 : v6 = (-69 : Int32)
        · refine own_step (T' := T71) (g' := (mkF m 96 #[.val (.int a1), .val (.int b1), .val (.int c1), .val (.int d1), .val (.int n1), .val (.int sel), .val (.int v3), .val (.int v6), .val (.int v9), .val (.ref a18), .val (.int ((n1 &&& (2147483647 : Int32)) % (5 : Int32))), .unset, .unset, .unset, .unset] [])) (fun t_ k_ => XS.icmpNo X73.here hx rfl (hb hby at_93) rfl (XT.ii_ne_f hb85) k_) ?_
          refine own_step (T' := T71) (g' := (mkF m 98 #[.val (.int a1), .val (.int b1), .val (.int c1), .val (.int d1), .val (.int n1), .val (.int sel), .val (.int v3), .val (.int v6), .val (.int v9), .val (.ref a18), .val (.int ((n1 &&& (2147483647 : Int32)) % (5 : Int32))), .unset, .unset, .unset, .unset] [(.int v9)])) (fun t_ k_ => XS.iload X73.here hx rfl (hb hby at_96) rfl k_) ?_
          refine own_step (T' := T71) (g' := (mkF m 100 #[.val (.int a1), .val (.int b1), .val (.int c1), .val (.int d1), .val (.int n1), .val (.int sel), .val (.int v3), .val (.int v6), .val (.int v9), .val (.ref a18), .val (.int ((n1 &&& (2147483647 : Int32)) % (5 : Int32))), .unset, .unset, .unset, .unset] [(.int (-65 : Int32)), (.int v9)])) (fun t_ k_ => XT.bipushV X73.here hx rfl (-65 : Int32) (hb hby at_98) (by decide) k_) ?_
          suffices k89 : ∀ v90 : Int32, v90 = (if v9 = (-65 : Int32) then (3 : Int32) else (2 : Int32)) → own_Fin p e below s (Q_2 h0 n0) 1 4 T71 (mkF m 116 #[.val (.int a1), .val (.int b1), .val (.int c1), .val (.int d1), .val (.int n1), .val (.int sel), .val (.int v3), .val (.int v6), .val (.int v9), .val (.ref a18), .val (.int ((n1 &&& (2147483647 : Int32)) % (5 : Int32))), .unset, .unset, .unset, .unset] [(.int v90)]) by
            by_cases hb88 : v9 = (-65 : Int32)
            · refine own_step (T' := T71) (g' := (mkF m 103 #[.val (.int a1), .val (.int b1), .val (.int c1), .val (.int d1), .val (.int n1), .val (.int sel), .val (.int v3), .val (.int v6), .val (.int v9), .val (.ref a18), .val (.int ((n1 &&& (2147483647 : Int32)) % (5 : Int32))), .unset, .unset, .unset, .unset] [])) (fun t_ k_ => XS.icmpNo X73.here hx rfl (hb hby at_100) rfl (XT.ii_ne_f hb88) k_) ?_
              refine own_step (T' := T71) (g' := (mkF m 104 #[.val (.int a1), .val (.int b1), .val (.int c1), .val (.int d1), .val (.int n1), .val (.int sel), .val (.int v3), .val (.int v6), .val (.int v9), .val (.ref a18), .val (.int ((n1 &&& (2147483647 : Int32)) % (5 : Int32))), .unset, .unset, .unset, .unset] [(.int (3 : Int32))])) (fun t_ k_ => XT.iconstV X73.here hx rfl (3 : Int32) (hb hby at_103) (by decide) k_) ?_
              refine own_step (T' := T71) (g' := (mkF m 116 #[.val (.int a1), .val (.int b1), .val (.int c1), .val (.int d1), .val (.int n1), .val (.int sel), .val (.int v3), .val (.int v6), .val (.int v9), .val (.ref a18), .val (.int ((n1 &&& (2147483647 : Int32)) % (5 : Int32))), .unset, .unset, .unset, .unset] [(.int (3 : Int32))])) (fun t_ k_ => XS.goto X73.here hx rfl (pc0 := 104) (pc' := 116) rfl (hb hby at_104) (by decide) (by decide) k_) ?_
              exact k89 _ (if_pos hb88).symm
            · refine own_step (T' := T71) (g' := (mkF m 107 #[.val (.int a1), .val (.int b1), .val (.int c1), .val (.int d1), .val (.int n1), .val (.int sel), .val (.int v3), .val (.int v6), .val (.int v9), .val (.ref a18), .val (.int ((n1 &&& (2147483647 : Int32)) % (5 : Int32))), .unset, .unset, .unset, .unset] [])) (fun t_ k_ => XS.icmpYes X73.here hx rfl (pc0 := 100) (pc' := 107) rfl (hb hby at_100) rfl (XT.ii_ne_t hb88) (by decide) (by decide) k_) ?_
              refine own_step (T' := T71) (g' := (mkF m 108 #[.val (.int a1), .val (.int b1), .val (.int c1), .val (.int d1), .val (.int n1), .val (.int sel), .val (.int v3), .val (.int v6), .val (.int v9), .val (.ref a18), .val (.int ((n1 &&& (2147483647 : Int32)) % (5 : Int32))), .unset, .unset, .unset, .unset] [(.int (2 : Int32))])) (fun t_ k_ => XT.iconstV X73.here hx rfl (2 : Int32) (hb hby at_107) (by decide) k_) ?_
              refine own_step (T' := T71) (g' := (mkF m 116 #[.val (.int a1), .val (.int b1), .val (.int c1), .val (.int d1), .val (.int n1), .val (.int sel), .val (.int v3), .val (.int v6), .val (.int v9), .val (.ref a18), .val (.int ((n1 &&& (2147483647 : Int32)) % (5 : Int32))), .unset, .unset, .unset, .unset] [(.int (2 : Int32))])) (fun t_ k_ => XS.goto X73.here hx rfl (pc0 := 108) (pc' := 116) rfl (hb hby at_108) (by decide) (by decide) k_) ?_
              exact k89 _ (if_neg hb88).symm
          rintro _ rfl
          exact k86 _ (if_pos hb85).symm
        · refine own_step (T' := T71) (g' := (mkF m 111 #[.val (.int a1), .val (.int b1), .val (.int c1), .val (.int d1), .val (.int n1), .val (.int sel), .val (.int v3), .val (.int v6), .val (.int v9), .val (.ref a18), .val (.int ((n1 &&& (2147483647 : Int32)) % (5 : Int32))), .unset, .unset, .unset, .unset] [])) (fun t_ k_ => XS.icmpYes X73.here hx rfl (pc0 := 93) (pc' := 111) rfl (hb hby at_93) rfl (XT.ii_ne_t hb85) (by decide) (by decide) k_) ?_
          refine own_step (T' := T71) (g' := (mkF m 112 #[.val (.int a1), .val (.int b1), .val (.int c1), .val (.int d1), .val (.int n1), .val (.int sel), .val (.int v3), .val (.int v6), .val (.int v9), .val (.ref a18), .val (.int ((n1 &&& (2147483647 : Int32)) % (5 : Int32))), .unset, .unset, .unset, .unset] [(.int (1 : Int32))])) (fun t_ k_ => XT.iconstV X73.here hx rfl (1 : Int32) (hb hby at_111) (by decide) k_) ?_
          refine own_step (T' := T71) (g' := (mkF m 116 #[.val (.int a1), .val (.int b1), .val (.int c1), .val (.int d1), .val (.int n1), .val (.int sel), .val (.int v3), .val (.int v6), .val (.int v9), .val (.ref a18), .val (.int ((n1 &&& (2147483647 : Int32)) % (5 : Int32))), .unset, .unset, .unset, .unset] [(.int (1 : Int32))])) (fun t_ k_ => XS.goto X73.here hx rfl (pc0 := 112) (pc' := 116) rfl (hb hby at_112) (by decide) (by decide) k_) ?_
          exact k86 _ (if_neg hb85).symm
      rintro _ rfl
      exact k83 _ (if_pos hb82).symm
    · refine own_step (T' := T71) (g' := (mkF m 115 #[.val (.int a1), .val (.int b1), .val (.int c1), .val (.int d1), .val (.int n1), .val (.int sel), .val (.int v3), .val (.int v6), .val (.int v9), .val (.ref a18), .val (.int ((n1 &&& (2147483647 : Int32)) % (5 : Int32))), .unset, .unset, .unset, .unset] [])) (fun t_ k_ => XS.icmpYes X73.here hx rfl (pc0 := 86) (pc' := 115) rfl (hb hby at_86) rfl (XT.ii_ne_t hb82) (by decide) (by decide) k_) ?_
      refine own_step (T' := T71) (g' := (mkF m 116 #[.val (.int a1), .val (.int b1), .val (.int c1), .val (.int d1), .val (.int n1), .val (.int sel), .val (.int v3), .val (.int v6), .val (.int v9), .val (.ref a18), .val (.int ((n1 &&& (2147483647 : Int32)) % (5 : Int32))), .unset, .unset, .unset, .unset] [(.int (0 : Int32))])) (fun t_ k_ => XT.iconstV X73.here hx rfl (0 : Int32) (hb hby at_115) (by decide) k_) ?_
      exact k83 _ (if_neg hb82).symm
  intro v84 hv84
  refine own_step (T' := T71) (g' := (mkF m 118 #[.val (.int a1), .val (.int b1), .val (.int c1), .val (.int d1), .val (.int n1), .val (.int sel), .val (.int v3), .val (.int v6), .val (.int v9), .val (.ref a18), .val (.int ((n1 &&& (2147483647 : Int32)) % (5 : Int32))), .val (.int v84), .unset, .unset, .unset] [])) (fun t_ k_ => XS.istore X73.here hx rfl (hb hby at_116) rfl (l' := #[.val (.int a1), .val (.int b1), .val (.int c1), .val (.int d1), .val (.int n1), .val (.int sel), .val (.int v3), .val (.int v6), .val (.int v9), .val (.ref a18), .val (.int ((n1 &&& (2147483647 : Int32)) % (5 : Int32))), .val (.int v84), .unset, .unset, .unset]) rfl k_) ?_
  refine own_step (T' := T71) (g' := (mkF m 120 #[.val (.int a1), .val (.int b1), .val (.int c1), .val (.int d1), .val (.int n1), .val (.int sel), .val (.int v3), .val (.int v6), .val (.int v9), .val (.ref a18), .val (.int ((n1 &&& (2147483647 : Int32)) % (5 : Int32))), .val (.int v84), .unset, .unset, .unset] [(.int ((n1 &&& (2147483647 : Int32)) % (5 : Int32)))])) (fun t_ k_ => XS.iload X73.here hx rfl (hb hby at_118) rfl k_) ?_
  refine own_step (T' := T71) (g' := (mkF m 121 #[.val (.int a1), .val (.int b1), .val (.int c1), .val (.int d1), .val (.int n1), .val (.int sel), .val (.int v3), .val (.int v6), .val (.int v9), .val (.ref a18), .val (.int ((n1 &&& (2147483647 : Int32)) % (5 : Int32))), .val (.int v84), .unset, .unset, .unset] [(.int (3 : Int32)), (.int ((n1 &&& (2147483647 : Int32)) % (5 : Int32)))])) (fun t_ k_ => XT.iconstV X73.here hx rfl (3 : Int32) (hb hby at_120) (by decide) k_) ?_
  obtain ⟨_, _, ⟨Tc91, Lc91, kc91, nc91⟩, -, Xc91, ⟨Lcc91, hQc91, lc91, yc91, zc91⟩, stc91⟩ := Jvm.LawKit.callS X73 hx (y := (⟨"java/lang/Math", "min", "(II)I"⟩ : MethodName)) hown (mvT hZ (hw _ (List.mem_of_getElem? (i := 2) rfl))) (mvT hZ (hw _ (List.mem_of_getElem? (i := 3) rfl))) (mvT hZ (hw _ (List.mem_of_getElem? (i := 4) rfl))) (mvT hZ (hw _ (List.mem_of_getElem? (i := 5) rfl))) (by decide) (backOf (W := 0) (rm_min l Z a0 hw [] ((n1 &&& (2147483647 : Int32)) % (5 : Int32)) (3 : Int32) h72 n0 F78) hZ (hw _ (List.mem_of_getElem? (i := 5) rfl)) (hw _ (List.mem_of_getElem? (i := 4) rfl)) (by decide) (by decide)) (g := (mkF m 121 #[.val (.int a1), .val (.int b1), .val (.int c1), .val (.int d1), .val (.int n1), .val (.int sel), .val (.int v3), .val (.int v6), .val (.int v9), .val (.ref a18), .val (.int ((n1 &&& (2147483647 : Int32)) % (5 : Int32))), .val (.int v84), .unset, .unset, .unset] [(.int (3 : Int32)), (.int ((n1 &&& (2147483647 : Int32)) % (5 : Int32)))])) rfl (by rw [hml]; rfl) (argsL := [(.int ((n1 &&& (2147483647 : Int32)) % (5 : Int32))), (.int (3 : Int32))]) (rest := []) (lenOf pd_0 rfl) rfl (by show 2 * 0 + _ ≤ _; exact Nat.le_of_eq rfl) (hb hby at_121) (fun _ _ => ⟨rfl, e74, (by decide : 1 + 0 ≤ _), (by decide : 4 + 0 ≤ _)⟩)
  dsimp only [Pt.U, Pt.locs, Pt.cells, Pt.slots] at Xc91 lc91 yc91 zc91 stc91 hQc91
  subst lc91 yc91 zc91
  obtain ⟨hv95, N92, e93⟩ := hQc91
  obtain ⟨z94, hz94⟩ : ∃ z : Int32, z = (if (3 : Int32) < ((n1 &&& (2147483647 : Int32)) % (5 : Int32)) then (3 : Int32) else ((n1 &&& (2147483647 : Int32)) % (5 : Int32))) := ⟨_, rfl⟩
  rw [← hz94] at hv95
  subst hv95
  have N96 := Fr.app N77 N92
  refine own_step (T' := Tc91) (g' := (mkF m 124 #[.val (.int a1), .val (.int b1), .val (.int c1), .val (.int d1), .val (.int n1), .val (.int sel), .val (.int v3), .val (.int v6), .val (.int v9), .val (.ref a18), .val (.int ((n1 &&& (2147483647 : Int32)) % (5 : Int32))), .val (.int v84), .unset, .unset, .unset] [(.int z94)])) stc91 ?_
  refine own_step (T' := Tc91) (g' := (mkF m 126 #[.val (.int a1), .val (.int b1), .val (.int c1), .val (.int d1), .val (.int n1), .val (.int sel), .val (.int v3), .val (.int v6), .val (.int v9), .val (.ref a18), .val (.int ((n1 &&& (2147483647 : Int32)) % (5 : Int32))), .val (.int v84), .val (.int z94), .unset, .unset] [])) (fun t_ k_ => XS.istore Xc91.here hx rfl (hb hby at_124) rfl (l' := #[.val (.int a1), .val (.int b1), .val (.int c1), .val (.int d1), .val (.int n1), .val (.int sel), .val (.int v3), .val (.int v6), .val (.int v9), .val (.ref a18), .val (.int ((n1 &&& (2147483647 : Int32)) % (5 : Int32))), .val (.int v84), .val (.int z94), .unset, .unset]) rfl k_) ?_
  refine own_step (T' := Tc91) (g' := (mkF m 128 #[.val (.int a1), .val (.int b1), .val (.int c1), .val (.int d1), .val (.int n1), .val (.int sel), .val (.int v3), .val (.int v6), .val (.int v9), .val (.ref a18), .val (.int ((n1 &&& (2147483647 : Int32)) % (5 : Int32))), .val (.int v84), .val (.int z94), .unset, .unset] [(.int v84)])) (fun t_ k_ => XS.iload Xc91.here hx rfl (hb hby at_126) rfl k_) ?_
  refine own_step (T' := Tc91) (g' := (mkF m 130 #[.val (.int a1), .val (.int b1), .val (.int c1), .val (.int d1), .val (.int n1), .val (.int sel), .val (.int v3), .val (.int v6), .val (.int v9), .val (.ref a18), .val (.int ((n1 &&& (2147483647 : Int32)) % (5 : Int32))), .val (.int v84), .val (.int z94), .unset, .unset] [(.int z94), (.int v84)])) (fun t_ k_ => XS.iload Xc91.here hx rfl (hb hby at_128) rfl k_) ?_
  suffices k98 : ∀ v99 : Int32, v99 = (if v84 < z94 then (0 : Int32) else (if z94 = (3 : Int32) then (3 : Int32) else (-1 : Int32))) → own_Fin p e below s (Q_2 h0 n0) 1 4 Tc91 (mkF m 148 #[.val (.int a1), .val (.int b1), .val (.int c1), .val (.int d1), .val (.int n1), .val (.int sel), .val (.int v3), .val (.int v6), .val (.int v9), .val (.ref a18), .val (.int ((n1 &&& (2147483647 : Int32)) % (5 : Int32))), .val (.int v84), .val (.int z94), .unset, .unset] [(.int v99)]) by
    by_cases hb97 : v84 < z94
    · refine own_step (T' := Tc91) (g' := (mkF m 147 #[.val (.int a1), .val (.int b1), .val (.int c1), .val (.int d1), .val (.int n1), .val (.int sel), .val (.int v3), .val (.int v6), .val (.int v9), .val (.ref a18), .val (.int ((n1 &&& (2147483647 : Int32)) % (5 : Int32))), .val (.int v84), .val (.int z94), .unset, .unset] [])) (fun t_ k_ => XS.icmpYes Xc91.here hx rfl (pc0 := 130) (pc' := 147) rfl (hb hby at_130) rfl (XT.ii_lt_t hb97) (by decide) (by decide) k_) ?_
      refine own_step (T' := Tc91) (g' := (mkF m 148 #[.val (.int a1), .val (.int b1), .val (.int c1), .val (.int d1), .val (.int n1), .val (.int sel), .val (.int v3), .val (.int v6), .val (.int v9), .val (.ref a18), .val (.int ((n1 &&& (2147483647 : Int32)) % (5 : Int32))), .val (.int v84), .val (.int z94), .unset, .unset] [(.int (0 : Int32))])) (fun t_ k_ => XT.iconstV Xc91.here hx rfl (0 : Int32) (hb hby at_147) (by decide) k_) ?_
      exact k98 _ (if_pos hb97).symm
    · refine own_step (T' := Tc91) (g' := (mkF m 133 #[.val (.int a1), .val (.int b1), .val (.int c1), .val (.int d1), .val (.int n1), .val (.int sel), .val (.int v3), .val (.int v6), .val (.int v9), .val (.ref a18), .val (.int ((n1 &&& (2147483647 : Int32)) % (5 : Int32))), .val (.int v84), .val (.int z94), .unset, .unset] [])) (fun t_ k_ => XS.icmpNo Xc91.here hx rfl (hb hby at_130) rfl (XT.ii_lt_f hb97) k_) ?_
      refine own_step (T' := Tc91) (g' := (mkF m 135 #[.val (.int a1), .val (.int b1), .val (.int c1), .val (.int d1), .val (.int n1), .val (.int sel), .val (.int v3), .val (.int v6), .val (.int v9), .val (.ref a18), .val (.int ((n1 &&& (2147483647 : Int32)) % (5 : Int32))), .val (.int v84), .val (.int z94), .unset, .unset] [(.int z94)])) (fun t_ k_ => XS.iload Xc91.here hx rfl (hb hby at_133) rfl k_) ?_
      refine own_step (T' := Tc91) (g' := (mkF m 136 #[.val (.int a1), .val (.int b1), .val (.int c1), .val (.int d1), .val (.int n1), .val (.int sel), .val (.int v3), .val (.int v6), .val (.int v9), .val (.ref a18), .val (.int ((n1 &&& (2147483647 : Int32)) % (5 : Int32))), .val (.int v84), .val (.int z94), .unset, .unset] [(.int (3 : Int32)), (.int z94)])) (fun t_ k_ => XT.iconstV Xc91.here hx rfl (3 : Int32) (hb hby at_135) (by decide) k_) ?_
      suffices k101 : ∀ v102 : Int32, v102 = (if z94 = (3 : Int32) then (3 : Int32) else (-1 : Int32)) → own_Fin p e below s (Q_2 h0 n0) 1 4 Tc91 (mkF m 148 #[.val (.int a1), .val (.int b1), .val (.int c1), .val (.int d1), .val (.int n1), .val (.int sel), .val (.int v3), .val (.int v6), .val (.int v9), .val (.ref a18), .val (.int ((n1 &&& (2147483647 : Int32)) % (5 : Int32))), .val (.int v84), .val (.int z94), .unset, .unset] [(.int v102)]) by
        by_cases hb100 : z94 = (3 : Int32)
        · refine own_step (T' := Tc91) (g' := (mkF m 139 #[.val (.int a1), .val (.int b1), .val (.int c1), .val (.int d1), .val (.int n1), .val (.int sel), .val (.int v3), .val (.int v6), .val (.int v9), .val (.ref a18), .val (.int ((n1 &&& (2147483647 : Int32)) % (5 : Int32))), .val (.int v84), .val (.int z94), .unset, .unset] [])) (fun t_ k_ => XS.icmpNo Xc91.here hx rfl (hb hby at_136) rfl (XT.ii_ne_f hb100) k_) ?_
          refine own_step (T' := Tc91) (g' := (mkF m 140 #[.val (.int a1), .val (.int b1), .val (.int c1), .val (.int d1), .val (.int n1), .val (.int sel), .val (.int v3), .val (.int v6), .val (.int v9), .val (.ref a18), .val (.int ((n1 &&& (2147483647 : Int32)) % (5 : Int32))), .val (.int v84), .val (.int z94), .unset, .unset] [(.int (3 : Int32))])) (fun t_ k_ => XT.iconstV Xc91.here hx rfl (3 : Int32) (hb hby at_139) (by decide) k_) ?_
          refine own_step (T' := Tc91) (g' := (mkF m 148 #[.val (.int a1), .val (.int b1), .val (.int c1), .val (.int d1), .val (.int n1), .val (.int sel), .val (.int v3), .val (.int v6), .val (.int v9), .val (.ref a18), .val (.int ((n1 &&& (2147483647 : Int32)) % (5 : Int32))), .val (.int v84), .val (.int z94), .unset, .unset] [(.int (3 : Int32))])) (fun t_ k_ => XS.goto Xc91.here hx rfl (pc0 := 140) (pc' := 148) rfl (hb hby at_140) (by decide) (by decide) k_) ?_
          exact k101 _ (if_pos hb100).symm
        · refine own_step (T' := Tc91) (g' := (mkF m 143 #[.val (.int a1), .val (.int b1), .val (.int c1), .val (.int d1), .val (.int n1), .val (.int sel), .val (.int v3), .val (.int v6), .val (.int v9), .val (.ref a18), .val (.int ((n1 &&& (2147483647 : Int32)) % (5 : Int32))), .val (.int v84), .val (.int z94), .unset, .unset] [])) (fun t_ k_ => XS.icmpYes Xc91.here hx rfl (pc0 := 136) (pc' := 143) rfl (hb hby at_136) rfl (XT.ii_ne_t hb100) (by decide) (by decide) k_) ?_
          refine own_step (T' := Tc91) (g' := (mkF m 144 #[.val (.int a1), .val (.int b1), .val (.int c1), .val (.int d1), .val (.int n1), .val (.int sel), .val (.int v3), .val (.int v6), .val (.int v9), .val (.ref a18), .val (.int ((n1 &&& (2147483647 : Int32)) % (5 : Int32))), .val (.int v84), .val (.int z94), .unset, .unset] [(.int (-1 : Int32))])) (fun t_ k_ => XT.iconstV Xc91.here hx rfl (-1 : Int32) (hb hby at_143) (by decide) k_) ?_
          refine own_step (T' := Tc91) (g' := (mkF m 148 #[.val (.int a1), .val (.int b1), .val (.int c1), .val (.int d1), .val (.int n1), .val (.int sel), .val (.int v3), .val (.int v6), .val (.int v9), .val (.ref a18), .val (.int ((n1 &&& (2147483647 : Int32)) % (5 : Int32))), .val (.int v84), .val (.int z94), .unset, .unset] [(.int (-1 : Int32))])) (fun t_ k_ => XS.goto Xc91.here hx rfl (pc0 := 144) (pc' := 148) rfl (hb hby at_144) (by decide) (by decide) k_) ?_
          exact k101 _ (if_neg hb100).symm
      rintro _ rfl
      exact k98 _ (if_neg hb97).symm
  intro v99 hv99
  refine own_step (T' := Tc91) (g' := (mkF m 150 #[.val (.int a1), .val (.int b1), .val (.int c1), .val (.int d1), .val (.int n1), .val (.int sel), .val (.int v3), .val (.int v6), .val (.int v9), .val (.ref a18), .val (.int ((n1 &&& (2147483647 : Int32)) % (5 : Int32))), .val (.int v84), .val (.int z94), .val (.int v99), .unset] [])) (fun t_ k_ => XS.istore Xc91.here hx rfl (hb hby at_148) rfl (l' := #[.val (.int a1), .val (.int b1), .val (.int c1), .val (.int d1), .val (.int n1), .val (.int sel), .val (.int v3), .val (.int v6), .val (.int v9), .val (.ref a18), .val (.int ((n1 &&& (2147483647 : Int32)) % (5 : Int32))), .val (.int v84), .val (.int z94), .val (.int v99), .unset]) rfl k_) ?_
  refine own_step (T' := Tc91) (g' := (mkF m 152 #[.val (.int a1), .val (.int b1), .val (.int c1), .val (.int d1), .val (.int n1), .val (.int sel), .val (.int v3), .val (.int v6), .val (.int v9), .val (.ref a18), .val (.int ((n1 &&& (2147483647 : Int32)) % (5 : Int32))), .val (.int v84), .val (.int z94), .val (.int v99), .unset] [(.ref a18)])) (fun t_ k_ => XS.aload Xc91.here hx rfl (hb hby at_150) rfl rfl k_) ?_
  refine own_step (T' := Tc91) (g' := (mkF m 154 #[.val (.int a1), .val (.int b1), .val (.int c1), .val (.int d1), .val (.int n1), .val (.int sel), .val (.int v3), .val (.int v6), .val (.int v9), .val (.ref a18), .val (.int ((n1 &&& (2147483647 : Int32)) % (5 : Int32))), .val (.int v84), .val (.int z94), .val (.int v99), .unset] [(.int ((n1 &&& (2147483647 : Int32)) % (5 : Int32))), (.ref a18)])) (fun t_ k_ => XS.iload Xc91.here hx rfl (hb hby at_152) rfl k_) ?_
  obtain ⟨_, _, ⟨Tc103, Lc103, kc103, nc103⟩, -, Xc103, ⟨Lcc103, hQc103, lc103, yc103, zc103⟩, stc103⟩ := Jvm.LawKit.callS Xc91 hx (y := (⟨"com/example/llogari/llogari/text/TextForm", "byteOrderMarkLength", "([BI)I"⟩ : MethodName)) hown (mvT hZ (hw _ (List.mem_of_getElem? (i := 6) rfl))) (mvT hZ (hw _ (List.mem_of_getElem? (i := 7) rfl))) (mvT hZ (hw _ (List.mem_of_getElem? (i := 8) rfl))) (mvT hZ (hw _ (List.mem_of_getElem? (i := 9) rfl))) (by decide) (backOf (W := 0) (rm_bom l Z a0 hw [] a18 r (nar .byte v3) (nar .byte v6) (nar .byte v9) (nar .byte ((d1).toInt8.toInt32)) ((n1 &&& (2147483647 : Int32)) % (5 : Int32)) h72 n0 F78 V81 F79 F80) hZ (hw _ (List.mem_of_getElem? (i := 9) rfl)) (hw _ (List.mem_of_getElem? (i := 8) rfl)) (by decide) (by decide)) (g := (mkF m 154 #[.val (.int a1), .val (.int b1), .val (.int c1), .val (.int d1), .val (.int n1), .val (.int sel), .val (.int v3), .val (.int v6), .val (.int v9), .val (.ref a18), .val (.int ((n1 &&& (2147483647 : Int32)) % (5 : Int32))), .val (.int v84), .val (.int z94), .val (.int v99), .unset] [(.int ((n1 &&& (2147483647 : Int32)) % (5 : Int32))), (.ref a18)])) rfl (by rw [hml]; rfl) (argsL := [(.ref a18), (.int ((n1 &&& (2147483647 : Int32)) % (5 : Int32)))]) (rest := []) (lenOf pd_1 rfl) rfl (by show 2 * 0 + _ ≤ _; exact Nat.le_of_eq rfl) (hb hby at_154) (fun _ _ => ⟨rfl, e93, (by decide : 1 + 0 ≤ _), (by decide : 4 + 0 ≤ _)⟩)
  dsimp only [Pt.U, Pt.locs, Pt.cells, Pt.slots] at Xc103 lc103 yc103 zc103 stc103 hQc103
  subst lc103 yc103 zc103
  obtain ⟨rfl, N104, e105⟩ := hQc103
  have N106 := Fr.app N96 N104
  refine own_step (T' := Tc103) (g' := (mkF m 157 #[.val (.int a1), .val (.int b1), .val (.int c1), .val (.int d1), .val (.int n1), .val (.int sel), .val (.int v3), .val (.int v6), .val (.int v9), .val (.ref a18), .val (.int ((n1 &&& (2147483647 : Int32)) % (5 : Int32))), .val (.int v84), .val (.int z94), .val (.int v99), .unset] [(.int (own_bom (nar .byte v3) (nar .byte v6) (nar .byte v9) ((n1 &&& (2147483647 : Int32)) % (5 : Int32))))])) stc103 ?_
  refine own_step (T' := Tc103) (g' := (mkF m 159 #[.val (.int a1), .val (.int b1), .val (.int c1), .val (.int d1), .val (.int n1), .val (.int sel), .val (.int v3), .val (.int v6), .val (.int v9), .val (.ref a18), .val (.int ((n1 &&& (2147483647 : Int32)) % (5 : Int32))), .val (.int v84), .val (.int z94), .val (.int v99), .val (.int (own_bom (nar .byte v3) (nar .byte v6) (nar .byte v9) ((n1 &&& (2147483647 : Int32)) % (5 : Int32))))] [])) (fun t_ k_ => XS.istore Xc103.here hx rfl (hb hby at_157) rfl (l' := #[.val (.int a1), .val (.int b1), .val (.int c1), .val (.int d1), .val (.int n1), .val (.int sel), .val (.int v3), .val (.int v6), .val (.int v9), .val (.ref a18), .val (.int ((n1 &&& (2147483647 : Int32)) % (5 : Int32))), .val (.int v84), .val (.int z94), .val (.int v99), .val (.int (own_bom (nar .byte v3) (nar .byte v6) (nar .byte v9) ((n1 &&& (2147483647 : Int32)) % (5 : Int32))))]) rfl k_) ?_
  rw [own_nb hv3 (by decide), own_nb hv6 (by decide), own_nb hv9 (by decide)]
  refine own_step (T' := Tc103) (g' := (mkF m 161 #[.val (.int a1), .val (.int b1), .val (.int c1), .val (.int d1), .val (.int n1), .val (.int sel), .val (.int v3), .val (.int v6), .val (.int v9), .val (.ref a18), .val (.int ((n1 &&& (2147483647 : Int32)) % (5 : Int32))), .val (.int v84), .val (.int z94), .val (.int v99), .val (.int (own_bom v3 v6 v9 ((n1 &&& (2147483647 : Int32)) % (5 : Int32))))] [(.int (own_bom v3 v6 v9 ((n1 &&& (2147483647 : Int32)) % (5 : Int32))))])) (fun t_ k_ => XS.iload Xc103.here hx rfl (hb hby at_159) rfl k_) ?_
  refine own_step (T' := Tc103) (g' := (mkF m 163 #[.val (.int a1), .val (.int b1), .val (.int c1), .val (.int d1), .val (.int n1), .val (.int sel), .val (.int v3), .val (.int v6), .val (.int v9), .val (.ref a18), .val (.int ((n1 &&& (2147483647 : Int32)) % (5 : Int32))), .val (.int v84), .val (.int z94), .val (.int v99), .val (.int (own_bom v3 v6 v9 ((n1 &&& (2147483647 : Int32)) % (5 : Int32))))] [(.int v99), (.int (own_bom v3 v6 v9 ((n1 &&& (2147483647 : Int32)) % (5 : Int32))))])) (fun t_ k_ => XS.iload Xc103.here hx rfl (hb hby at_161) rfl k_) ?_
  have hk107 : (own_bom v3 v6 v9 ((n1 &&& (2147483647 : Int32)) % (5 : Int32))) = v99 := own_fin (own_len n1) hv84 hz94 hv99
  refine own_step (T' := Tc103) (g' := (mkF m 166 #[.val (.int a1), .val (.int b1), .val (.int c1), .val (.int d1), .val (.int n1), .val (.int sel), .val (.int v3), .val (.int v6), .val (.int v9), .val (.ref a18), .val (.int ((n1 &&& (2147483647 : Int32)) % (5 : Int32))), .val (.int v84), .val (.int z94), .val (.int v99), .val (.int (own_bom v3 v6 v9 ((n1 &&& (2147483647 : Int32)) % (5 : Int32))))] [])) (fun t_ k_ => XS.icmpNo Xc103.here hx rfl (hb hby at_163) rfl (XT.ii_ne_f hk107) k_) ?_
  refine own_step (T' := Tc103) (g' := (mkF m 167 #[.val (.int a1), .val (.int b1), .val (.int c1), .val (.int d1), .val (.int n1), .val (.int sel), .val (.int v3), .val (.int v6), .val (.int v9), .val (.ref a18), .val (.int ((n1 &&& (2147483647 : Int32)) % (5 : Int32))), .val (.int v84), .val (.int z94), .val (.int v99), .val (.int (own_bom v3 v6 v9 ((n1 &&& (2147483647 : Int32)) % (5 : Int32))))] [(.int (1 : Int32))])) (fun t_ k_ => XT.iconstV Xc103.here hx rfl (1 : Int32) (hb hby at_166) (by decide) k_) ?_
  refine own_step (T' := Tc103) (g' := (mkF m 171 #[.val (.int a1), .val (.int b1), .val (.int c1), .val (.int d1), .val (.int n1), .val (.int sel), .val (.int v3), .val (.int v6), .val (.int v9), .val (.ref a18), .val (.int ((n1 &&& (2147483647 : Int32)) % (5 : Int32))), .val (.int v84), .val (.int z94), .val (.int v99), .val (.int (own_bom v3 v6 v9 ((n1 &&& (2147483647 : Int32)) % (5 : Int32))))] [(.int (1 : Int32))])) (fun t_ k_ => XS.goto Xc103.here hx rfl (pc0 := 167) (pc' := 171) rfl (hb hby at_167) (by decide) (by decide) k_) ?_
  exact own_retN Xc103 hx hlk (t := .boolean) Bd.returns (by simp) (hb hby at_171) (by rw [e105]; exact ⟨rfl, N106⟩) (by decide) (by decide)
set_option maxRecDepth 65536 in
set_option maxHeartbeats 40000000 in
theorem comes_1 {Post : Tables → Env → Array Value → State → Outcome → State → Prop} (hpost : ∀ tb e args s v u, (limb_1_1.after args s (.returned v) u = true ∧ limb_1_2.after args s (.returned v) u = true ∧ True) → FrameEnd s (.returned v) u (Jvm.fieldLocs frame_1_writes args s ++ Jvm.arrayLocs frame_1_arrays args s ++ Jvm.staticLocs frame_1_statics s) 16 128 → Post tb e args s (.returned v) u) :
    ArmFor flags0 classFile x code maxLocals ret World_1 tables_1 room_1 Calls_1 rest_1 Pre_1 Post := by
  intro l hfl _ _ p e ha hc hk s m args below hf hA hF happ hP
  obtain ⟨hcalls, hrest, hpre⟩ := hP
  obtain ⟨-, -, -, hnamed, -, -, -, hat⟩ := (Spec.applies_iff hf).mp happ
  obtain ⟨hg, hn⟩ := and_e (Cond.before_iff.mp (show (Jvm.Cond.and given_1 narrow_1).before args s = true from hpre))
  obtain ⟨hcount, hg0⟩ := and_e hg
  obtain ⟨ha0, hg1⟩ := and_e hg0
  obtain ⟨ha1, hg2⟩ := and_e hg1
  obtain ⟨ha2, hg3⟩ := and_e hg2
  obtain ⟨ha3, hg4⟩ := and_e hg3
  obtain ⟨ha4, hg5⟩ := and_e hg4
  obtain ⟨w0, w1, w2, w3, w4, w5, rfl⟩ : ∃ w0 w1 w2 w3 w4 w5 : Value, args = #[w0, w1, w2, w3, w4, w5] := by
    have hs : args.size = 6 := by simpa [Cond.value, given_1] using hcount
    obtain ⟨L⟩ := args
    match L, hs with
    | [w0, w1, w2, w3, w4, w5], _ => exact ⟨w0, w1, w2, w3, w4, w5, rfl⟩
  have hw := fun d (hd : d ∈ tables_1) => atoms_spec (ws := Jvm.Cond.code x code maxLocals ret :: tables_1) hat d (List.mem_cons_of_mem _ hd)
  obtain ⟨i0, ei0⟩ := is_v ha0
  obtain rfl : w0 = (.int i0) := Option.some.inj ei0
  obtain ⟨i1, ei1⟩ := is_v ha1
  obtain rfl : w1 = (.int i1) := Option.some.inj ei1
  obtain ⟨i2, ei2⟩ := is_v ha2
  obtain rfl : w2 = (.int i2) := Option.some.inj ei2
  obtain ⟨i3, ei3⟩ := is_v ha3
  obtain rfl : w3 = (.int i3) := Option.some.inj ei3
  obtain ⟨i4, ei4⟩ := is_v ha4
  obtain rfl : w4 = (.int i4) := Option.some.inj ei4
  obtain ⟨i5, ei5⟩ := is_v hg5
  obtain rfl : w5 = (.int i5) := Option.some.inj ei5
  obtain ⟨n1, q1⟩ := and_e hn
  obtain ⟨n2, q2⟩ := and_e q1
  obtain ⟨n3, q3⟩ := and_e q2
  obtain ⟨n4, n5⟩ := and_e q3
  obtain ⟨r, ev⟩ := arr_v n1
  obtain ⟨cl, Ar⟩ := Arr.start ev n1
  have S0 : Sta s s.heap "com/example/llogari/llogari/text/TextForm" "BYTE_ORDER_MARK_BYTES" "[B" (.ref r) := Sta.start ev (Or.inr ⟨(hw _ (List.mem_of_getElem? (i := 8) rfl)), (hw _ (List.mem_of_getElem? (i := 11) rfl))⟩)
  have p0 := (elem_in (own_eqv n3) ev (Term.int_eval 0) Ar.1).2
  have p1 := (elem_in (own_eqv n4) ev (Term.int_eval 1) Ar.1).2
  have p2 := (elem_in (own_eqv n5) ev (Term.int_eval 2) Ar.1).2
  have U0 : own_Arl s s.heap r .byte [(.int (-17 : Int32)), (.int (-69 : Int32)), (.int (-65 : Int32))] := ⟨cl, Ar, own_three (own_size ev Ar (own_eqv n2)) p0 p1 p2⟩
  obtain ⟨n, o, h1, h2, h3, _, L, rfl, ⟨rfl, N⟩, hq⟩ := rm_law l s _ hw tables_1 i0 i1 i2 i3 i4 i5 r s.heap s.heap.size (Nat.le_refl _) U0 S0 p e ha hc hk s m _ below hf ((Spec.applies_iff_loose hf).mp happ).1 ⟨rfl, State.Warmed39.refl s, rfl⟩ trivial
  refine ⟨n, _, h1, h2, h3, hpost _ _ _ _ _ _ ⟨Cond.after_iff.mpr rfl, Cond.after_iff.mpr (eq_i res_at (Term.int_eval (1)) rfl), trivial⟩ ⟨hq.1, hq.2.1, (hq.2.2.sift fun y hy => Or.inr (N y hy)).mono (by decide) (by decide)⟩⟩
theorem main_1_1 : Claimed_1_1 := comes_1 fun _ _ _ _ _ _ h hF => ⟨h.1, hF⟩
theorem main_1_2 : Claimed_1_2 := comes_1 fun _ _ _ _ _ _ h hF => ⟨h.2.1, hF⟩
end Jvm.Pilot.@@N@@
namespace Jvm.Pilot.@@N@@
open Jvm Jvm.ClassFile Sem Op Lib Jvm.Free Jvm.Stand Jvm.Pilot.@@N@@.Jvm.D
/-! MADE BY PROGRAM (witnessworld.py) out of the Statement's table words and the real class files: 10 classes; the members and pool entries that the words name. The judged class is class 1, her method 1. -/
namespace start1
open Jvm.ClassFile
def u (s : String) : CpInfo := .utf8 (stringToUtf16 s)
/-- a pool by its gaps: so many unusable entries, then the entry; so many at the end -/
def gap : Nat → List CpInfo → List CpInfo
  | 0, r => r
  | n + 1, r => .unusable :: gap n r
def poolList (es : List (Nat × CpInfo)) (last : Nat) : List CpInfo := es.foldr (fun e r => gap e.1 (e.2 :: r)) (gap last [])
def pool (es : List (Nat × CpInfo)) (last : Nat) : Array CpInfo := ⟨poolList es last⟩
def fileOf (pool : Array CpInfo) (this : Nat) (attrs : Array Attribute := #[]) (ms : Array MethodInfo := #[]) (fl : Nat := 33) (sup : Nat := 0) (ifs : Array Nat := #[]) (fds : Array FieldInfo := #[]) : ClassFile where
  minorVersion := 0
  majorVersion := 65
  constantPool := pool
  accessFlags := fl
  thisClass := this
  superClass := sup
  interfaces := ifs
  fields := fds
  methods := ms
  attributes := attrs
def plain (name : String) (sup : Option ClassId) : Class where
  name := name
  kind := .ordinary
  loader := none
  accessFlags := 33
  super := sup
  interfaces := #[]
  cf := none
  fields := #[]
  methods := #[]
  instanceTypes := #[]
  staticTypes := #[]
  resolved := #[]
  callSites := []
  init := .initialized
  statics := none
  mirror := none

def pool0 : Array CpInfo := pool [(5, u "<init>"), (0, u "()V"), (1, .class_ 10), (1, u "java/lang/Object")] 113

def k0m0 : Method := { name := "<init>", desc := "()V", sig := { parameters := [], returnType := none }, accessFlags := 1, code := none }
/-- java/lang/Object -/
def k0 : Class := { plain "java/lang/Object" none with
  accessFlags := 33
  interfaces := #[]
  cf := some (fileOf pool0 8 #[] #[{ accessFlags := 1, nameIndex := 5, descriptorIndex := 6, attributes := #[] }] 33 0 #[] #[])
  fields := #[]
  methods := #[k0m0]
  instanceTypes := #[]
  staticTypes := #[]
  resolved := Array.replicate 124 none
  statics := none }

def pool1 : Array CpInfo := pool [(2, .class_ 4), (1, u "java/lang/Object"), (0, u "<init>"), (0, u "()V"), (0, .integer 2147483647), (0, .methodref 9 10), (0, .class_ 11), (0, .nameAndType 12 13), (0, u "java/lang/Math"), (0, u "min"), (0, u "(II)I"), (0, .methodref 15 16), (0, .class_ 17), (0, .nameAndType 18 19), (0, u "com/example/llogari/llogari/text/TextForm"), (0, u "byteOrderMarkLength"), (0, u "([BI)I"), (0, .class_ 21), (0, u "com/example/llogari/llogari/text/TextFormByteOrderMarkLengthPinLaw"), (2, u "law"), (0, u "(IIIIII)Z")] 5

def k1m0 : Method := { name := "<init>", desc := "()V", sig := { parameters := [], returnType := none }, accessFlags := 1, code := none }
def k1c1 : Code := { maxStack := 4, maxLocals := 15, code := code, exceptionTable := #[], attributes := #[] }
def k1m1 : Method := { name := "law", desc := "(IIIIII)Z", sig := { parameters := [.int, .int, .int, .int, .int, .int], returnType := some .boolean }, accessFlags := 9, code := some k1c1 }
/-- com/example/llogari/llogari/text/TextFormByteOrderMarkLengthPinLaw -/
def k1 : Class := { plain "com/example/llogari/llogari/text/TextFormByteOrderMarkLengthPinLaw" (some 0) with
  accessFlags := 49
  interfaces := #[]
  cf := some (fileOf pool1 20 #[] #[{ accessFlags := 1, nameIndex := 5, descriptorIndex := 6, attributes := #[] }, { accessFlags := 9, nameIndex := 24, descriptorIndex := 25, attributes := #[] }] 49 2 #[] #[])
  fields := #[]
  methods := #[k1m0, k1m1]
  instanceTypes := #[]
  staticTypes := #[]
  resolved := Array.replicate 31 none
  statics := none }

def pool2 : Array CpInfo := pool [(1, .class_ 2), (0, u "java/lang/Math"), (1, .class_ 6), (1, u "java/lang/Object"), (0, u "<init>"), (0, u "()V"), (89, .class_ 100), (1, u "java/lang/Math$RandomNumberGeneratorHolder"), (71, u "negativeZeroFloatBits"), (0, u "J"), (2, u "negativeZeroDoubleBits"), (24, u "min"), (43, u "$assertionsDisabled"), (0, u "Z"), (88, u "(II)I"), (2, u "twoToTheDoubleScaleDown"), (0, u "D"), (4, u "twoToTheDoubleScaleUp"), (9, u "E"), (3, u "PI"), (2, u "TAU"), (2, u "DEGREES_TO_RADIANS"), (0, u "RADIANS_TO_DEGREES")] 94

def k2m0 : Method := { name := "<init>", desc := "()V", sig := { parameters := [], returnType := none }, accessFlags := 2, code := none }
def k2c1 : Code := { maxStack := 2, maxLocals := 2, code := jdk_29_method_69_code, exceptionTable := #[], attributes := #[] }
def k2m1 : Method := { name := "min", desc := "(II)I", sig := { parameters := [.int, .int], returnType := some .int }, accessFlags := 9, code := some k2c1 }
/-- java/lang/Math -/
def k2 : Class := { plain "java/lang/Math" (some 0) with
  accessFlags := 49
  interfaces := #[]
  cf := some (fileOf pool2 1 #[.nestMembers #[98]] #[{ accessFlags := 2, nameIndex := 7, descriptorIndex := 8, attributes := #[] }, { accessFlags := 9, nameIndex := 201, descriptorIndex := 335, attributes := #[] }] 49 4 #[] #[{ accessFlags := 25, nameIndex := 354, descriptorIndex := 339, attributes := #[] }, { accessFlags := 25, nameIndex := 358, descriptorIndex := 339, attributes := #[] }, { accessFlags := 25, nameIndex := 361, descriptorIndex := 339, attributes := #[] }, { accessFlags := 26, nameIndex := 364, descriptorIndex := 339, attributes := #[] }, { accessFlags := 26, nameIndex := 365, descriptorIndex := 339, attributes := #[] }, { accessFlags := 26, nameIndex := 172, descriptorIndex := 173, attributes := #[] }, { accessFlags := 26, nameIndex := 176, descriptorIndex := 173, attributes := #[] }, { accessFlags := 8, nameIndex := 344, descriptorIndex := 339, attributes := #[] }, { accessFlags := 8, nameIndex := 338, descriptorIndex := 339, attributes := #[] }, { accessFlags := 4120, nameIndex := 245, descriptorIndex := 246, attributes := #[] }])
  fields := #[{ name := "E", type := .double, accessFlags := 25, slot := 0, constantValue := 0 }, { name := "PI", type := .double, accessFlags := 25, slot := 1, constantValue := 0 }, { name := "TAU", type := .double, accessFlags := 25, slot := 2, constantValue := 0 }, { name := "DEGREES_TO_RADIANS", type := .double, accessFlags := 26, slot := 3, constantValue := 0 }, { name := "RADIANS_TO_DEGREES", type := .double, accessFlags := 26, slot := 4, constantValue := 0 }, { name := "negativeZeroFloatBits", type := .long, accessFlags := 26, slot := 5, constantValue := 0 }, { name := "negativeZeroDoubleBits", type := .long, accessFlags := 26, slot := 6, constantValue := 0 }, { name := "twoToTheDoubleScaleUp", type := .double, accessFlags := 8, slot := 7, constantValue := 0 }, { name := "twoToTheDoubleScaleDown", type := .double, accessFlags := 8, slot := 8, constantValue := 0 }, { name := "$assertionsDisabled", type := .boolean, accessFlags := 4120, slot := 9, constantValue := 0 }]
  methods := #[k2m0, k2m1]
  instanceTypes := #[]
  staticTypes := #[.double, .double, .double, .double, .double, .long, .long, .double, .double, .boolean]
  resolved := Array.replicate 460 none
  statics := none }

def pool3 : Array CpInfo := pool [(2, .class_ 4), (1, u "java/lang/Object"), (0, u "<init>"), (0, u "()V"), (0, .class_ 8), (0, u "com/example/llogari/llogari/text/TextForm"), (4, .fieldref 7 14), (0, .nameAndType 15 16), (0, u "BYTE_ORDER_MARK_BYTES"), (0, u "[B"), (17, u "LINE_FEED"), (0, u "B"), (2, u "BYTE_ORDER_MARK"), (0, u "C"), (0, u "CARRIAGE_RETURN"), (6, u "byteOrderMarkLength"), (0, u "([BI)I")] 3

def k3m0 : Method := { name := "<init>", desc := "()V", sig := { parameters := [], returnType := none }, accessFlags := 2, code := none }
def k3c1 : Code := { maxStack := 3, maxLocals := 3, code := prog_44_method_4_code, exceptionTable := #[], attributes := #[] }
def k3m1 : Method := { name := "byteOrderMarkLength", desc := "([BI)I", sig := { parameters := [(.array .byte), .int], returnType := some .int }, accessFlags := 8, code := some k3c1 }
/-- com/example/llogari/llogari/text/TextForm -/
def k3 : Class := { plain "com/example/llogari/llogari/text/TextForm" (some 0) with
  accessFlags := 48
  interfaces := #[]
  cf := some (fileOf pool3 7 #[] #[{ accessFlags := 2, nameIndex := 5, descriptorIndex := 6, attributes := #[] }, { accessFlags := 8, nameIndex := 47, descriptorIndex := 48, attributes := #[] }] 48 2 #[] #[{ accessFlags := 24, nameIndex := 34, descriptorIndex := 35, attributes := #[] }, { accessFlags := 24, nameIndex := 38, descriptorIndex := 39, attributes := #[] }, { accessFlags := 26, nameIndex := 40, descriptorIndex := 35, attributes := #[] }, { accessFlags := 26, nameIndex := 15, descriptorIndex := 16, attributes := #[] }])
  fields := #[{ name := "LINE_FEED", type := .byte, accessFlags := 24, slot := 0, constantValue := 0 }, { name := "BYTE_ORDER_MARK", type := .char, accessFlags := 24, slot := 1, constantValue := 0 }, { name := "CARRIAGE_RETURN", type := .byte, accessFlags := 26, slot := 2, constantValue := 0 }, { name := "BYTE_ORDER_MARK_BYTES", type := (.array .byte), accessFlags := 26, slot := 3, constantValue := 0 }]
  methods := #[k3m0, k3m1]
  instanceTypes := #[]
  staticTypes := #[.byte, .char, .byte, (.array .byte)]
  resolved := Array.replicate 52 none
  statics := some 0 }

def pool4 : Array CpInfo := pool [(1, u "java/lang/Cloneable"), (0, .class_ 1), (0, u "java/lang/Object"), (0, .class_ 3)] 3

/-- java/lang/Cloneable -/
def k4 : Class := { plain "java/lang/Cloneable" (some 0) with
  accessFlags := 1537
  interfaces := #[]
  cf := some (fileOf pool4 2 #[] #[] 1537 4 #[] #[])
  fields := #[]
  methods := #[]
  instanceTypes := #[]
  staticTypes := #[]
  resolved := Array.replicate 8 none
  statics := none }

def pool5 : Array CpInfo := pool [(1, u "java/io/Serializable"), (0, .class_ 1), (0, u "java/lang/Object"), (0, .class_ 3)] 3

/-- java/io/Serializable -/
def k5 : Class := { plain "java/io/Serializable" (some 0) with
  accessFlags := 1537
  interfaces := #[]
  cf := some (fileOf pool5 2 #[] #[] 1537 4 #[] #[])
  fields := #[]
  methods := #[]
  instanceTypes := #[]
  staticTypes := #[]
  resolved := Array.replicate 8 none
  statics := none }

/-- the primitive byte -/
def k6 : Class := { plain "byte" none with kind := .primitive 'B', accessFlags := 0x411 }
/-- [B -/
def k7 : Class := { plain "[B" (some 0) with kind := .array 6 .byte, interfaces := #[4, 5], accessFlags := 1041 }

/-- the primitive int -/
def k8 : Class := { plain "int" none with kind := .primitive 'I', accessFlags := 0x411 }
/-- [I -/
def k9 : Class := { plain "[I" (some 0) with kind := .array 8 .int, interfaces := #[4, 5], accessFlags := 1041 }

def heap : Heap := #[{ cls := 3, slots := #[.int 0, .int 0, .int 0, .ref 1], vm := .statics 3 },
  { cls := 7, slots := #[.int (-17), .int (-69), .int (-65)], vm := .none }]
def classes : Array Class := #[k0, k1, k2, k3, k4, k5, k6, k7, k8, k9]
def interned : List (Array UInt16 × Addr) := []
def slotsUsed : Nat := 7
def theMethod : MethodId := ⟨1, 1⟩
def args0 : Array Value := #[.int 1, .int 2, .int 3, .int 4, .int 5, .int 6]
def aboutOver (below : List Frame) : State where
  vm := { classes := classes, interned := interned.toArray }
  heap := heap
  slotsUsed := slotsUsed
  threads := #[{ frames := .invoking theMethod args0 :: below }]
def below0 : List Frame := [.native { method := ⟨0, 0⟩, args := #[] }]
def about1 : State := aboutOver below0
def p0 : Program := .bare "" "" ""
def e0 : Env := launch0.env 0 0 0
theorem w_frames : about1.frames = Frame.invoking theMethod args0 :: below0 := rfl
set_option maxRecDepth 65536 in
theorem w_args : argsFit about1.vm theMethod args0 = true := by decide +kernel
set_option maxRecDepth 65536 in
theorem w_heap : heapFits about1 = true := by decide +kernel
set_option maxRecDepth 65536 in
theorem w_runnable : about1.curStatus? = some .runnable := by decide +kernel
set_option maxRecDepth 65536 in
theorem w_alone : about1.alone = true := by decide +kernel
set_option maxRecDepth 65536 in
theorem w_named : about1.methodNamed? x = some theMethod := by decide +kernel
set_option maxRecDepth 65536 in
theorem w_hears : about1.hears theMethod below0 = true := by decide +kernel
set_option maxRecDepth 65536 in
theorem w_ripe : about1.ripe theMethod args0 below0 = true := by decide +kernel
theorem w_running : about1.status = .running := rfl
set_option maxRecDepth 65536 in
theorem w_room : about1.hasRoom e0.platform room_1 = true :=
  launch0.hasRoom_least _ room_1 (by decide +kernel) (by decide +kernel) (by decide +kernel) (by decide +kernel) (by decide +kernel) (by decide +kernel)
theorem allAtoms_all (ts : List Jvm.Cond) (a : Array Jvm.Value) (st : Jvm.State) : (allAtoms ts).before a st = ts.all (fun c => c.before a st) := by
  induction ts with
  | nil => rfl
  | cons c t ih =>
    show (Jvm.Cond.and c (allAtoms t)).before a st = _
    rw [Jvm.Cond.before_and, ih, List.all_cons]
def words1 : List Jvm.Cond := Jvm.Cond.code x code maxLocals ret :: tables_1
/-- a 'code' word, met by the world's own term for the bytes: nothing is compared byte by byte -/
theorem code_word {y : MethodName} {bytes : ByteArray} {mx : Nat} {rt : Option FieldType} {a : Array Value} {s : State} {m : MethodId} {meth : Method} {c : Code} (h1 : s.methodNamed? y = some m) (h2 : s.vm.method? m = some meth) (h3 : meth.code = some c) (h4 : c.code = bytes)
    (h5 : (c.maxLocals == mx && c.exceptionTable.isEmpty && decide (c.maxStack ≤ mostOperands) && decide (meth.sig.returnType = rt) && !meth.locks && decide (parseMethodDescriptor y.desc = some meth.sig)) = true) : (Jvm.Cond.code y bytes mx rt).before a s = true := by
  simp only [Bool.and_eq_true, beq_iff_eq, Bool.not_eq_true', decide_eq_true_eq] at h5
  obtain ⟨⟨⟨⟨⟨g1, g2⟩, g3⟩, g4⟩, g5⟩, g6⟩ := h5
  simp [Cond.before, Cond.holds, Cond.value, h1, h2, h3, h4, g1, g2, g3, g4, g5, g6]
def isCode : Jvm.Cond → Bool
  | .code _ _ _ _ => true
  | _ => false
theorem all_split {L : List Jvm.Cond} {P : Jvm.Cond → Bool} (h1 : L.all (fun c => isCode c || P c) = true) (h2 : ∀ c ∈ L.filter isCode, P c = true) : L.all P = true := by
  refine List.all_eq_true.mpr fun c hc => ?_
  have h := List.all_eq_true.mp h1 c hc
  rcases Bool.eq_false_or_eq_true (isCode c) with hi | hi
  · exact h2 c (List.mem_filter.mpr ⟨hc, hi⟩)
  · simpa [hi] using h
set_option maxRecDepth 65536 in
theorem w_c0 : (Jvm.Cond.code x code maxLocals ret).before args0 about1 = true := code_word (m := ⟨1, 1⟩) (meth := k1m1) (c := k1c1) (by decide +kernel) rfl rfl rfl (by decide +kernel)
set_option maxRecDepth 65536 in
theorem w_c1 : (Jvm.Cond.code ({ cls := "java/lang/Math", name := "min", desc := "(II)I" } : Jvm.MethodName) jdk_29_method_69_code (2 : Nat) (Option.some Jvm.ClassFile.FieldType.int)).before args0 about1 = true := code_word (m := ⟨2, 1⟩) (meth := k2m1) (c := k2c1) (by decide +kernel) rfl rfl rfl (by decide +kernel)
set_option maxRecDepth 65536 in
theorem w_c2 : (Jvm.Cond.code ({ cls := "com/example/llogari/llogari/text/TextForm", name := "byteOrderMarkLength", desc := "([BI)I" } : Jvm.MethodName) prog_44_method_4_code (3 : Nat) (Option.some Jvm.ClassFile.FieldType.int)).before args0 about1 = true := code_word (m := ⟨3, 1⟩) (meth := k3m1) (c := k3c1) (by decide +kernel) rfl rfl rfl (by decide +kernel)
def codes1 : List Jvm.Cond := [Jvm.Cond.code x code maxLocals ret, Jvm.Cond.code ({ cls := "java/lang/Math", name := "min", desc := "(II)I" } : Jvm.MethodName) jdk_29_method_69_code (2 : Nat) (Option.some Jvm.ClassFile.FieldType.int), Jvm.Cond.code ({ cls := "com/example/llogari/llogari/text/TextForm", name := "byteOrderMarkLength", desc := "([BI)I" } : Jvm.MethodName) prog_44_method_4_code (3 : Nat) (Option.some Jvm.ClassFile.FieldType.int)]
set_option maxRecDepth 65536 in
theorem codes_eq : words1.filter isCode = codes1 := rfl
theorem w_codes : ∀ c ∈ words1.filter isCode, c.before args0 about1 = true := by
  rw [codes_eq]
  intro c hc
  simp only [codes1, List.mem_cons, List.not_mem_nil, or_false] at hc
  rcases hc with rfl | rfl | rfl
  · exact w_c0
  · exact w_c1
  · exact w_c2
set_option maxRecDepth 65536 in
theorem w_t1 : words1.all (fun c => isCode c || c.before args0 about1) = true := by decide +kernel
theorem w_tables : (allAtoms (Jvm.Cond.code x code maxLocals ret :: tables_1)).before args0 about1 = true := by
  rw [allAtoms_all]
  show words1.all (fun c => c.before args0 about1) = true
  refine all_split ?_ w_codes
  rw [w_t1]
set_option maxRecDepth 65536 in
theorem w_case : (Jvm.Cond.and given_1 narrow_1).before args0 about1 = true := by decide +kernel
theorem w_applies : (headSpec (Jvm.Cond.code x code maxLocals ret :: tables_1) room_1).applies x e0.platform about1 = true :=
  (Spec.applies_iff w_frames).mpr ⟨w_running, w_runnable, w_alone, w_named, w_hears, w_ripe, w_room, w_tables⟩
theorem atStart : AtStart classFile x code maxLocals ret World_1 tables_1 room_1 Calls_1 rest_1 Pre_1 launch0 p0 e0 about1 theMethod args0 below0 :=
  ⟨lists_1, trivial, launch0.admits_env _ _ _, launch0.least_env, fairChoices_fair.cas, fairChoices_fair.clock, w_frames, w_args, w_heap, w_applies, trivial, trivial, w_case⟩
end start1
theorem witness_1 : WitnessClaimed_1 := ⟨start1.p0, start1.e0, start1.about1, start1.theMethod, start1.args0, start1.below0, start1.atStart⟩
end Jvm.Pilot.@@N@@
