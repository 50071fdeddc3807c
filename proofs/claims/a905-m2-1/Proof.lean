import JvmDerived
import JvmDerived.Pilot.@@N@@Statement
import JvmDerived.Pilot.@@N@@Code
set_option linter.unusedVariables false
set_option linter.unusedSimpArgs false
@@BLOCK:NumsL.lean.txt@@
namespace Jvm.Pilot.@@N@@
open Jvm Jvm.ClassFile Sem Op Lib Jvm.Free Jvm.Stand Jvm.LawKit Jvm.RoadKit Bundle Jvm.Pilot.@@N@@.Jvm.D
section OwnKit
variable {p : Program} {l : Launch} {e : Env} {R : Room} {s : State} {m : MethodId} {args : Array Value} {below : List Frame} {meth : Method} {c : Code} {T T' : State} {locs : List Loc} {cells slots : Nat}
/-- from this configuration the body comes to its end, and then Q holds -/
def own_Fin (p : Program) (e : Env) (below : List Frame) (s : State) (Q : Option Value → Heap → List Loc → Prop) (kc ks : Nat) (T : State) (g : JFrame) : Prop :=
  ∃ s₂ o, Steps p.tables e below (T.setTop g) s₂ ∧ s₂.status = .running ∧ Ended s₂ below o ∧ ∃ v L, o = .returned v ∧ Q v s₂.heap L ∧ FrameEnd s o s₂ L kc ks
variable {Q : Option Value → Heap → List Loc → Prop} {kc ks : Nat} {g g' : JFrame}
theorem own_step (st : ∀ t, Steps p.tables e below (T'.setTop g') t → Steps p.tables e below (T.setTop g) t) (k : own_Fin p e below s Q kc ks T' g') : own_Fin p e below s Q kc ks T g := by
  obtain ⟨s₂, o, h1, r⟩ := k
  exact ⟨s₂, o, st _ h1, r⟩
theorem own_in {as : Array Value} {n : Nat} (ef : entryFrame m as n = g) (k : own_Fin p e below s Q kc ks T g) :
    ∃ s₂ o, Steps p.tables e below (T.setTop (entryFrame m as n)) s₂ ∧ s₂.status = .running ∧ Ended s₂ below o ∧ ∃ v L, o = .returned v ∧ Q v s₂.heap L ∧ FrameEnd s o s₂ L kc ks := by
  obtain ⟨s₂, o, h1, r⟩ := k
  exact ⟨s₂, o, castTop ef h1, r⟩
theorem own_retV (X : Stand p l e R s m args below meth c T locs cells slots) (hx : p.tables.exec = Jvm.exec) (hlk : meth.locks = false) {pc : Nat} {Ls : Array Slot} {w : Value} {t : FieldType} {i : Instr} {rest : List Value} (hret : meth.sig.returnType = some t) (hn : narrow t w = w)
    (hi : (i = .ireturn ∧ (t = .int ∨ t = .boolean ∨ t = .byte ∨ t = .char ∨ t = .short) ∧ ∃ z, w = .int z) ∨ (i = .lreturn ∧ t = .long ∧ ∃ z, w = .long z) ∨ (i = .dreturn ∧ t = .double ∧ ∃ z, w = .double z) ∨ (i = .freturn ∧ t = .float ∧ ∃ z, w = .float z) ∨ (i = .areturn ∧ t.isReference = true ∧ w.isRef = true))
    (hd : decode c.code pc = .ok (i, 1)) (hq : Q (some w) T.heap locs) (h1 : cells ≤ kc) (h2 : slots ≤ ks) : own_Fin p e below s Q kc ks T (mkF m pc Ls (w :: rest)) := by
  obtain ⟨fs, hr, hrun, hended, hW, hsame⟩ := X.leave (v := some w) (fun h => by rw [hret] at h; cases h) hlk
  exact ⟨_, _, retOut X hx hret hn hi hd hr, hrun, hended, _, _, rfl, hq, ⟨_, rfl⟩, hW, hsame.mono h1 h2⟩
theorem own_retI (X : Stand p l e R s m args below meth c T locs cells slots) (hx : p.tables.exec = Jvm.exec) (hlk : meth.locks = false) {pc : Nat} {Ls : Array Slot} {z : Int32} {rest : List Value} (hret : meth.sig.returnType = some .int)
    (hd : decode c.code pc = .ok (.ireturn, 1)) (hq : Q (some (.int z)) T.heap locs) (h1 : cells ≤ kc) (h2 : slots ≤ ks) : own_Fin p e below s Q kc ks T (mkF m pc Ls (.int z :: rest)) :=
  own_retV X hx hlk hret rfl (Or.inl ⟨rfl, Or.inl rfl, z, rfl⟩) hd hq h1 h2
theorem own_retJ (X : Stand p l e R s m args below meth c T locs cells slots) (hx : p.tables.exec = Jvm.exec) (hlk : meth.locks = false) {pc : Nat} {Ls : Array Slot} {z : Int64} {rest : List Value} (hret : meth.sig.returnType = some .long)
    (hd : decode c.code pc = .ok (.lreturn, 1)) (hq : Q (some (.long z)) T.heap locs) (h1 : cells ≤ kc) (h2 : slots ≤ ks) : own_Fin p e below s Q kc ks T (mkF m pc Ls (.long z :: rest)) :=
  own_retV X hx hlk hret rfl (Or.inr (Or.inl ⟨rfl, rfl, z, rfl⟩)) hd hq h1 h2
theorem own_retA (X : Stand p l e R s m args below meth c T locs cells slots) (hx : p.tables.exec = Jvm.exec) (hlk : meth.locks = false) {pc : Nat} {Ls : Array Slot} {w : Value} {t : FieldType} {rest : List Value} (hret : meth.sig.returnType = some t) (ht : t.isReference = true) (hw : w.isRef = true)
    (hd : decode c.code pc = .ok (.areturn, 1)) (hq : Q (some w) T.heap locs) (h1 : cells ≤ kc) (h2 : slots ≤ ks) : own_Fin p e below s Q kc ks T (mkF m pc Ls (w :: rest)) :=
  own_retV X hx hlk hret (by cases t <;> first | (cases ht; done) | rfl) (Or.inr (Or.inr (Or.inr (Or.inr ⟨rfl, ht, hw⟩)))) hd hq h1 h2
theorem own_retN (X : Stand p l e R s m args below meth c T locs cells slots) (hx : p.tables.exec = Jvm.exec) (hlk : meth.locks = false) {pc : Nat} {Ls : Array Slot} {z : Int32} {t : FieldType} {rest : List Value} (hret : meth.sig.returnType = some t) (ht : t = .boolean ∨ t = .byte ∨ t = .char ∨ t = .short)
    (hd : decode c.code pc = .ok (.ireturn, 1)) (hq : Q (some (.int (nar t z))) T.heap locs) (h1 : cells ≤ kc) (h2 : slots ≤ ks) : own_Fin p e below s Q kc ks T (mkF m pc Ls (.int z :: rest)) := by
  obtain ⟨fs, hr, hrun, hended, hW, hsame⟩ := X.leave (v := some (.int (nar t z))) (fun h => by rw [hret] at h; cases h) hlk
  exact ⟨_, _, retN X hx hret ht hd hr, hrun, hended, _, _, rfl, hq, ⟨_, rfl⟩, hW, hsame.mono h1 h2⟩
theorem own_ret (X : Stand p l e R s m args below meth c T locs cells slots) (hx : p.tables.exec = Jvm.exec) (hlk : meth.locks = false) {pc : Nat} {Ls : Array Slot} (hret : meth.sig.returnType = none)
    (hd : decode c.code pc = .ok (.return_, 1)) (hq : Q none T.heap locs) (h1 : cells ≤ kc) (h2 : slots ≤ ks) : own_Fin p e below s Q kc ks T (mkF m pc Ls []) := by
  obtain ⟨fs, hr, hrun, hended, hW, hsame⟩ := X.leave (v := none) (fun _ => rfl) hlk
  exact ⟨_, _, X.returnOut hx hret hd hr, hrun, hended, _, _, rfl, hq, ⟨_, rfl⟩, hW, hsame.mono h1 h2⟩
end OwnKit
theorem own_nar_ite {P : Prop} [Decidable P] {a b : Int32} (ha : nar .boolean a = a) (hb : nar .boolean b = b) : nar .boolean (if P then a else b) = (if P then a else b) := by
  by_cases h : P
  · rw [if_pos h]; exact ha
  · rw [if_neg h]; exact hb
theorem own_noface {k : Class} (h : (k.isInterface || hasFlag k.accessFlags Acc.abstract) = false) : k.isInterface = false := by
  cases q : k.isInterface with
  | false => rfl
  | true => rw [q] at h; simp at h
theorem own_nar_bool (P : Prop) [Decidable P] : nar .boolean (if P then (1 : Int32) else 0) = (if P then (1 : Int32) else 0) := own_nar_ite (by decide) (by decide)
/-- the array at a holds just these values -/
def own_Arl (Z : State) (h : Heap) (a : Addr) (ty : FieldType) (vs : List Value) : Prop := ∃ c : Cell, Arr Z h a c ty ∧ c.slots.toList = vs
section OwnArr
variable {p : Program} {l : Launch} {e : Env} {R : Room} {s : State} {m : MethodId} {args : Array Value} {below : List Frame} {meth : Method} {c : Code} {T : State} {locs : List Loc} {cells slots : Nat}
variable {Z : State} {h h' : Heap} {a b : Addr} {ty : FieldType} {vs : List Value} {v w : Value} {sl : Nat} {ws : List Addr}
theorem own_Arl.lt (F : own_Arl Z h a ty vs) : a < h.size := by obtain ⟨c, A, -⟩ := F; exact A.lt
theorem own_Arl.ext (F : own_Arl Z h a ty vs) (E : Ext h h') : own_Arl Z h' a ty vs := by obtain ⟨c, A, r⟩ := F; exact ⟨c, A.ext E, r⟩
theorem own_Arl.other (F : own_Arl Z h b ty vs) (W : Wr h h' a sl v) (q : b ≠ a) : own_Arl Z h' b ty vs := by obtain ⟨c, A, r⟩ := F; exact ⟨c, A.other W q, r⟩
theorem own_Arl.keep (F : own_Arl Z h a ty vs) (K : Keep h h' ws) (q : a ∉ ws) : own_Arl Z h' a ty vs := by obtain ⟨c, A, r⟩ := F; exact ⟨c, ⟨K.2.1 a c A.1 q, A.2⟩, r⟩
theorem own_Arl.set (F : own_Arl Z h a ty vs) (W : Wr h h' a sl v) : own_Arl Z h' a ty (vs.set sl v) := by
  obtain ⟨c, A, rfl⟩ := F
  exact ⟨_, A.same W, by simp [Cell.setSlot]⟩
theorem own_Arl.set' {j : Int32} (F : own_Arl Z h a ty vs) (W : Wr h h' a j.toNatClampNeg v) {i : Nat} (hi : j.toNatClampNeg = i) : own_Arl Z h' a ty (vs.set i v) := hi ▸ F.set W
theorem own_Arl.of_new {k : ClassId} {n : Int32} (A : Arr Z h a (newA k ty n) ty) {i : Nat} (hi : n.toNatClampNeg = i) : own_Arl Z h a ty (List.replicate i (defaultValue ty)) := ⟨_, A, by subst hi; simp [newA]⟩
theorem own_inb {c : Cell} {j : Int32} (L : c.slots.toList = vs) (h1 : ¬ j < 0) (h2 : j.toNatClampNeg < vs.length) : ¬ (j < 0 ∨ c.slots.size ≤ j.toNatClampNeg) := by
  subst L
  intro q
  rcases q with q | q
  · exact h1 q
  · rw [Array.length_toList] at h2; exact absurd q (Nat.not_le.mpr h2)
theorem own_inb' {c : Cell} {j : Int32} {n : Nat} (L : c.slots.toList = vs) (hl : vs.length = n) (h1 : ¬ j < 0) (h2 : j.toNatClampNeg < n) : ¬ (j < 0 ∨ c.slots.size ≤ j.toNatClampNeg) := own_inb L h1 (hl ▸ h2)
theorem own_ix {j : Int32} {k : Nat} (hk : j.toNatClampNeg = k) (h : vs[k]? = some v) : vs[j.toNatClampNeg]? = some v := hk ▸ h
theorem own_get {c : Cell} {j : Nat} (L : c.slots.toList = vs) (h2 : vs[j]? = some v) : c.slots[j]? = some v := by
  subst L
  rw [Array.getElem?_toList] at h2; exact h2
theorem own_lt_of {j : Nat} (h2 : vs[j]? = some v) : j < vs.length := (List.getElem?_eq_some_iff.mp h2).1
variable {g : JFrame} {j : Int32} {rest : List Value}
theorem own_baload (X : Stand p l e R s m args below meth c T locs cells slots) (hx : p.tables.exec = Jvm.exec) (hZ : Z.Warmed39 s.vm) (eT : T.heap = h) (F : own_Arl Z h a .byte vs) (h1 : ¬ j < 0) (h2 : vs[j.toNatClampNeg]? = some v) (hg : g.method = m) (hs : g.stack = .int j :: .ref a :: rest) (hd : decode c.code g.pc = .ok (.baload, 1)) (target : State)
    (k : Steps p.tables e below (T.setTop { g with pc := g.pc + 1, stack := v :: rest }) target) : Steps p.tables e below (T.setTop g) target := by
  obtain ⟨cl, A, L⟩ := F
  exact X.baloadBytes hx (by rw [eT]; exact A.1) (State.isArrayOf_alike hZ.alike A.2.1) A.2.2 (own_inb L h1 (own_lt_of h2)) (own_get L h2) hg hs hd _ k
theorem own_caload (X : Stand p l e R s m args below meth c T locs cells slots) (hx : p.tables.exec = Jvm.exec) (hZ : Z.Warmed39 s.vm) (eT : T.heap = h) (F : own_Arl Z h a .char vs) (h1 : ¬ j < 0) (h2 : vs[j.toNatClampNeg]? = some v) (hg : g.method = m) (hs : g.stack = .int j :: .ref a :: rest) (hd : decode c.code g.pc = .ok (.caload, 1)) (target : State)
    (k : Steps p.tables e below (T.setTop { g with pc := g.pc + 1, stack := v :: rest }) target) : Steps p.tables e below (T.setTop g) target := by
  obtain ⟨cl, A, L⟩ := F
  exact X.caload hx (by rw [eT]; exact A.1) (State.isArrayOf_alike hZ.alike A.2.1) A.2.2 (own_inb L h1 (own_lt_of h2)) (own_get L h2) hg hs hd _ k
theorem own_iaload (X : Stand p l e R s m args below meth c T locs cells slots) (hx : p.tables.exec = Jvm.exec) (hZ : Z.Warmed39 s.vm) (eT : T.heap = h) (F : own_Arl Z h a .int vs) (h1 : ¬ j < 0) (h2 : vs[j.toNatClampNeg]? = some v) (hg : g.method = m) (hs : g.stack = .int j :: .ref a :: rest) (hd : decode c.code g.pc = .ok (.iaload, 1)) (target : State)
    (k : Steps p.tables e below (T.setTop { g with pc := g.pc + 1, stack := v :: rest }) target) : Steps p.tables e below (T.setTop g) target := by
  obtain ⟨cl, A, L⟩ := F
  exact X.iaload hx (by rw [eT]; exact A.1) (State.isArrayOf_alike hZ.alike A.2.1) A.2.2 (own_inb L h1 (own_lt_of h2)) (own_get L h2) hg hs hd _ k
theorem own_laload (X : Stand p l e R s m args below meth c T locs cells slots) (hx : p.tables.exec = Jvm.exec) (hZ : Z.Warmed39 s.vm) (eT : T.heap = h) (F : own_Arl Z h a .long vs) (h1 : ¬ j < 0) (h2 : vs[j.toNatClampNeg]? = some v) (hg : g.method = m) (hs : g.stack = .int j :: .ref a :: rest) (hd : decode c.code g.pc = .ok (.laload, 1)) (target : State)
    (k : Steps p.tables e below (T.setTop { g with pc := g.pc + 1, stack := v :: rest }) target) : Steps p.tables e below (T.setTop g) target := by
  obtain ⟨cl, A, L⟩ := F
  exact X.laload hx (by rw [eT]; exact A.1) (State.isArrayOf_alike hZ.alike A.2.1) A.2.2 (own_inb L h1 (own_lt_of h2)) (own_get L h2) hg hs hd _ k
theorem own_alen (X : Stand p l e R s m args below meth c T locs cells slots) (hx : p.tables.exec = Jvm.exec) (hZ : Z.Warmed39 s.vm) (eT : T.heap = h) (F : own_Arl Z h a ty vs) {n : Int32} {i : Nat} (hi : vs.length = i) (hn : i.toInt32 = n) (hg : g.method = m) (hs : g.stack = .ref a :: rest) (hd : decode c.code g.pc = .ok (.arraylength, 1)) (target : State)
    (k : Steps p.tables e below (T.setTop { g with pc := g.pc + 1, stack := .int n :: rest }) target) : Steps p.tables e below (T.setTop g) target := by
  obtain ⟨cl, A, rfl⟩ := F
  subst hi
  subst hn
  exact X.arraylength hx (by rw [eT]; exact A.1) (State.isArrayOf_alike hZ.alike A.2.1) hg hs hd _ (by rw [Array.length_toList] at k; exact k)
end OwnArr
/-- the wide frame: string constants may have been interned -/
def own_FE (s : State) (o : Outcome) (t : State) (L : List Loc) (k n : Nat) : Prop :=
  (∃ v : Option Value, o = Outcome.returned v) ∧ s.Warmed39 t.vm ∧ (∀ (j : Nat) (p : Array UInt16 × Addr), s.vm.interned.size ≤ j → t.vm.interned[j]? = some p → s.heap.size ≤ p.2 ∧ p.2 < t.heap.size) ∧ s.sameButNew { t with vm := s.vm } L k n
section OwnW
variable {p : Program} {e : Env} {s : State} {m : MethodId} {below : List Frame} {T T' : State} {Q : Option Value → Heap → List Loc → Prop} {kc ks : Nat} {g g' : JFrame}
def own_FinW (p : Program) (e : Env) (below : List Frame) (s : State) (Q : Option Value → Heap → List Loc → Prop) (kc ks : Nat) (T : State) (g : JFrame) : Prop :=
  ∃ s₂ o, Steps p.tables e below (T.setTop g) s₂ ∧ s₂.status = .running ∧ Ended s₂ below o ∧ ∃ v L, o = .returned v ∧ Q v s₂.heap L ∧ own_FE s o s₂ L kc ks
theorem own_stepW (st : ∀ t, Steps p.tables e below (T'.setTop g') t → Steps p.tables e below (T.setTop g) t) (k : own_FinW p e below s Q kc ks T' g') : own_FinW p e below s Q kc ks T g := by
  obtain ⟨s₂, o, h1, r⟩ := k
  exact ⟨s₂, o, st _ h1, r⟩
theorem own_inW {as : Array Value} {n : Nat} (ef : entryFrame m as n = g) (k : own_FinW p e below s Q kc ks T g) :
    ∃ s₂ o, Steps p.tables e below (T.setTop (entryFrame m as n)) s₂ ∧ s₂.status = .running ∧ Ended s₂ below o ∧ ∃ v L, o = .returned v ∧ Q v s₂.heap L ∧ own_FE s o s₂ L kc ks := by
  obtain ⟨s₂, o, h1, r⟩ := k
  exact ⟨s₂, o, castTop ef h1, r⟩
theorem own_toW {v0 : Vm} {k1 : Nat} (hS : s.Since v0 k1) (k : own_Fin p e below (s.setVm v0) (fun v h L => Q v h L ∧ k1 ≤ h.size) kc ks T g) : own_FinW p e below s Q kc ks T g := by
  obtain ⟨s₂, o, h1, h2, h3, v, L, rfl, ⟨hQ, hk⟩, -, hW, hsame⟩ := k
  refine ⟨s₂, _, h1, h2, h3, v, L, rfl, hQ, ⟨v, rfl⟩, State.Warmed39.trans (t := s.setVm v0) hS.1 hW.wide, fun j q hj hp => ?_, ?_⟩
  · rw [hW.interned_eq] at hp
    obtain ⟨a, b⟩ := hS.2 j q hj hp
    exact ⟨a, Nat.lt_of_lt_of_le b hk⟩
  · exact hsame.setVm s.vm
end OwnW

theorem own_arl {Z : State} {h : Heap} {a : Addr} {k : ClassId} {ty : FieldType} {z : Int32} {vs : List Value} {dv : Value} (F : Arv Z h a k ty z vs dv) (hz : z.toNatClampNeg = vs.length) : own_Arl Z h a ty vs := by
  obtain ⟨c, A, -, S, -, H, -⟩ := F
  refine ⟨c, A, ?_⟩
  have hl : c.slots.toList.length = vs.length := by rw [Array.length_toList, S, hz]
  apply List.ext_getElem?
  intro i
  by_cases hi : i < vs.length
  · have q := H i (by rw [S, hz]; exact hi)
    rw [Array.getElem?_toList, q, List.getElem?_eq_getElem hi, List.getD_eq_getElem?_getD, List.getElem?_eq_getElem hi]; rfl
  · rw [List.getElem?_eq_none (by omega), List.getElem?_eq_none (by omega)]
theorem own_copy0 {Z : State} {h : Heap} {a : Addr} {k : ClassId} {i j : Nat} (F : Arv Z h a k .long (8 : Int32) (([] : List Value).take i ++ ([] : List Value) ++ ([] : List Value).drop j) (.long (0 : Int64))) :
    own_Arl Z h a .long [.long (0 : Int64), .long (0 : Int64), .long (0 : Int64), .long (0 : Int64), .long (0 : Int64), .long (0 : Int64), .long (0 : Int64), .long (0 : Int64)] := by
  have e : (([] : List Value).take i ++ ([] : List Value) ++ ([] : List Value).drop j) = [] := by simp
  rw [e] at F
  exact own_arl (vs := [.long (0 : Int64), .long (0 : Int64), .long (0 : Int64), .long (0 : Int64), .long (0 : Int64), .long (0 : Int64), .long (0 : Int64), .long (0 : Int64)]) (F.pad (fun q => pad_rep [] (.long (0 : Int64)) 8 q)) (by decide)
def own_val (p t h u : Int32) : Int64 := (((((p).toInt64) <<< (((32 : Int32)).toInt64 &&& 63)) ||| (((t).toInt64) <<< (((2 : Int32)).toInt64 &&& 63))) ||| (if h = 0 then (0 : Int64) else (1 : Int64))) ||| (if u = 0 then (0 : Int64) else (2 : Int64))

theorem own_sh0 (x z : Int64) {k : Nat} (hz : (z.toBitVec.smod 64).toNat = k) (hk : 1 < k) : (x <<< z) &&& (2 : Int64) = 0 := by
  apply Int64.toBitVec_inj.mp
  rw [Int64.toBitVec_and, Int64.toBitVec_shiftLeft, BitVec.shiftLeft_eq', hz]
  apply BitVec.eq_of_getLsbD_eq
  intro i hi
  have e2 : (2 : Int64).toBitVec = BitVec.twoPow 64 1 := by decide
  rw [e2, BitVec.getLsbD_and, BitVec.getLsbD_shiftLeft, BitVec.getLsbD_twoPow]
  by_cases q : i = 1
  · subst q; simp [hk]
  · have q' : ¬ (1 = i) := fun e => q e.symm
    simp [q, q']
theorem own_oa (x y m : Int64) : (x ||| y) &&& m = (x &&& m) ||| (y &&& m) := by
  apply Int64.toBitVec_inj.mp
  rw [Int64.toBitVec_and, Int64.toBitVec_or, Int64.toBitVec_or, Int64.toBitVec_and, Int64.toBitVec_and]
  apply BitVec.eq_of_getLsbD_eq
  intro i hi
  simp only [BitVec.getLsbD_and, BitVec.getLsbD_or]
  cases x.toBitVec.getLsbD i <;> cases y.toBitVec.getLsbD i <;> cases m.toBitVec.getLsbD i <;> rfl
theorem own_fin {p t b u : Int32} {P : Prop} [Decidable P] (hu : u = if P then (0 : Int32) else (1 : Int32)) : (if ((own_val p t b u) &&& (2 : Int64)) = (0 : Int64) then (0 : Int32) else (1 : Int32)) = u := by
  unfold own_val
  rw [own_oa, own_oa, own_oa, own_sh0 _ _ (k := 32) (by decide) (by decide), own_sh0 _ _ (k := 2) (by decide) (by decide)]
  have hc : (if b = 0 then (0 : Int64) else (1 : Int64)) &&& (2 : Int64) = 0 := by by_cases q : b = 0 <;> simp only [q, if_true, if_false] <;> decide
  rw [hc]
  by_cases q : P
  · rw [if_pos q] at hu; subst hu; decide
  · rw [if_neg q] at hu; subst hu; decide
theorem pd_0 : parseMethodDescriptor "()V" = some ⟨[], none⟩ := by decide +kernel
theorem pd_1 : parseMethodDescriptor "(J)J" = some ⟨[.long], some .long⟩ := by decide +kernel
theorem pd_2 : parseMethodDescriptor "(II)I" = some ⟨[.int, .int], some .int⟩ := by decide +kernel
theorem pd_3 : parseMethodDescriptor "(JJ)J" = some ⟨[.long, .long], some .long⟩ := by decide +kernel
theorem pd_4 : parseMethodDescriptor "(J)Z" = some ⟨[.long], some .boolean⟩ := by decide +kernel
theorem pd_5 : parseMethodDescriptor "([JI)[J" = some ⟨[(.array .long), .int], some (.array .long)⟩ := by decide +kernel
theorem pd_6 : parseMethodDescriptor "(J)V" = some ⟨[.long], none⟩ := by decide +kernel
theorem pd_7 : parseMethodDescriptor "()Z" = some ⟨[], some .boolean⟩ := by decide +kernel
theorem pd_8 : parseMethodDescriptor "(Lcom/example/dossier_into_mets/dossierintomets/CharacterBudget;Ljava/lang/String;)V" = some ⟨[(.object "com/example/dossier_into_mets/dossierintomets/CharacterBudget"), (.object "java/lang/String")], none⟩ := by decide +kernel
theorem pd_9 : parseMethodDescriptor "(IIZZ)Z" = some ⟨[.int, .int, .boolean, .boolean], some .boolean⟩ := by decide +kernel
theorem pd_10 : parseMethodDescriptor "(I)Z" = some ⟨[.int], some .boolean⟩ := by decide +kernel
theorem d5_0 : decode jdk_22_method_1_code 0 = .ok (.aload_n 0, 1) := by decide +kernel
theorem d5_1 : decode jdk_22_method_1_code 1 = .ok (.invokespecial 1, 3) := by decide +kernel
theorem d5_4 : decode jdk_22_method_1_code 4 = .ok (.return_, 1) := by decide +kernel
theorem pn_5 : plainFor (⟨"java/util/AbstractCollection", "<init>", "()V"⟩ : MethodName) = true := by first | exact plainFor_of_name (by first | (simp [plainName, overriddenIn]; done) | decide +kernel) | decide +kernel
theorem ef_5 (m : MethodId) (x0 : Addr) : entryFrame m #[(.ref x0)] 1 = mkF m 0 #[.val (.ref x0)] [] := by first | (simp [entryFrame, mkF, argsToLocals, Value.category]; done) | rfl
def Q_5 (h0 : Heap) (n0 : Nat) (v : Option Value) (h : Heap) (L : List Loc) : Prop := v = none ∧ Fr n0 L ∧ h = h0
set_option maxRecDepth 65536 in
set_option maxHeartbeats 40000000 in
theorem rm_ac (l : Launch) (Z : State) (a0 : Array Value) (hw : ∀ d ∈ tables_1, d.before a0 Z = true) (ws : List Jvm.Cond) (a : Addr) (h0 : Heap) (n0 : Nat) (Z0 : n0 ≤ h0.size)  :
    MetFree l (⟨"java/util/AbstractCollection", "<init>", "()V"⟩ : MethodName) (head1 (Jvm.Cond.code (⟨"java/util/AbstractCollection", "<init>", "()V"⟩ : MethodName) jdk_22_method_1_code 1 none :: ws) ({ frames := 1, cells := 0, slots := 0, locals := 12 } : Room)) (fun as_ U => as_ = #[(.ref a)] ∧ Z.Warmed39 U.vm ∧ U.heap = h0) (fun _ _ _ _ _ => True) (fun _ U o U' => ∃ v L, o = .returned v ∧ Q_5 h0 n0 v U'.heap L ∧ FrameEnd U o U' L ({ frames := 1, cells := 0, slots := 0, locals := 12 } : Room).cells ({ frames := 1, cells := 0, slots := 0, locals := 12 } : Room).slots) := by
  refine MetFree.of_bodySF pn_5 hisR ?_
  intro p e s m args below meth c s₁ Bd hml0 hP hK
  obtain ⟨rfl, hZ, hh⟩ := hP
  have hx := Bd.exec
  have hby := Bd.bytes
  have hlk := BodyLoose.notSynchronized Bd
  have hml : c.maxLocals = 1 := hml0
  have hown : s.vm.findClass "java/util/AbstractCollection" = some m.cls := findClass_of_methodNamed Bd.named
  have hnm := (name_of_methodNamed Bd.named Bd.method).1
  have X0 : Stand p l e ({ frames := 1, cells := 0, slots := 0, locals := 12 } : Room) s m #[(.ref a)] below meth c s₁ [] 0 0 := Stand.of_body Bd
  have e0 : s₁.heap = h0 := by rw [← hh, Bd.state]; rfl
  have N0 := Fr.nil n0
  refine own_in (ef_5 m a) ?_
  show own_Fin p e below s (Q_5 h0 n0) 0 0 s₁ (mkF m 0 #[.val (.ref a)] [])
  refine own_step (T' := s₁) (g' := (mkF m 1 #[.val (.ref a)] [(.ref a)])) (fun t_ k_ => XS.aloadN X0.here hx rfl (hb hby d5_0) rfl rfl k_) ?_
  obtain ⟨T1, X2, e3, st4⟩ := initO X0 hx hZ hown (hw _ (List.mem_of_getElem? (i := 45) rfl)) (hw _ (List.mem_of_getElem? (i := 8) rfl)) (hw _ (List.mem_of_getElem? (i := 9) rfl)) e0 (g := (mkF m 1 #[.val (.ref a)] [(.ref a)])) rfl (by rw [hml]; rfl) rfl (hb hby d5_1) (by decide) (W := 0) (by show 2 * 0 + _ ≤ _; exact Nat.le_of_eq rfl) (by decide)
  refine own_step (T' := T1) (g' := (mkF m 4 #[.val (.ref a)] [])) st4 ?_
  exact own_ret X2 hx hlk Bd.returns (hb hby d5_4) (by rw [e3]; exact ⟨rfl, N0, rfl⟩) (by decide) (by decide)
theorem d7_0 : decode jdk_71_method_1_code 0 = .ok (.aload_n 0, 1) := by decide +kernel
theorem d7_1 : decode jdk_71_method_1_code 1 = .ok (.invokespecial 1, 3) := by decide +kernel
theorem d7_4 : decode jdk_71_method_1_code 4 = .ok (.return_, 1) := by decide +kernel
theorem pn_7 : plainFor (⟨"java/util/AbstractMap", "<init>", "()V"⟩ : MethodName) = true := by first | exact plainFor_of_name (by first | (simp [plainName, overriddenIn]; done) | decide +kernel) | decide +kernel
theorem ef_7 (m : MethodId) (x0 : Addr) : entryFrame m #[(.ref x0)] 1 = mkF m 0 #[.val (.ref x0)] [] := by first | (simp [entryFrame, mkF, argsToLocals, Value.category]; done) | rfl
def Q_7 (h0 : Heap) (n0 : Nat) (v : Option Value) (h : Heap) (L : List Loc) : Prop := v = none ∧ Fr n0 L ∧ h = h0
set_option maxRecDepth 65536 in
set_option maxHeartbeats 40000000 in
theorem rm_am (l : Launch) (Z : State) (a0 : Array Value) (hw : ∀ d ∈ tables_1, d.before a0 Z = true) (ws : List Jvm.Cond) (a : Addr) (h0 : Heap) (n0 : Nat) (Z0 : n0 ≤ h0.size)  :
    MetFree l (⟨"java/util/AbstractMap", "<init>", "()V"⟩ : MethodName) (head1 (Jvm.Cond.code (⟨"java/util/AbstractMap", "<init>", "()V"⟩ : MethodName) jdk_71_method_1_code 1 none :: ws) ({ frames := 1, cells := 0, slots := 0, locals := 12 } : Room)) (fun as_ U => as_ = #[(.ref a)] ∧ Z.Warmed39 U.vm ∧ U.heap = h0) (fun _ _ _ _ _ => True) (fun _ U o U' => ∃ v L, o = .returned v ∧ Q_7 h0 n0 v U'.heap L ∧ FrameEnd U o U' L ({ frames := 1, cells := 0, slots := 0, locals := 12 } : Room).cells ({ frames := 1, cells := 0, slots := 0, locals := 12 } : Room).slots) := by
  refine MetFree.of_bodySF pn_7 hisR ?_
  intro p e s m args below meth c s₁ Bd hml0 hP hK
  obtain ⟨rfl, hZ, hh⟩ := hP
  have hx := Bd.exec
  have hby := Bd.bytes
  have hlk := BodyLoose.notSynchronized Bd
  have hml : c.maxLocals = 1 := hml0
  have hown : s.vm.findClass "java/util/AbstractMap" = some m.cls := findClass_of_methodNamed Bd.named
  have hnm := (name_of_methodNamed Bd.named Bd.method).1
  have X0 : Stand p l e ({ frames := 1, cells := 0, slots := 0, locals := 12 } : Room) s m #[(.ref a)] below meth c s₁ [] 0 0 := Stand.of_body Bd
  have e0 : s₁.heap = h0 := by rw [← hh, Bd.state]; rfl
  have N0 := Fr.nil n0
  refine own_in (ef_7 m a) ?_
  show own_Fin p e below s (Q_7 h0 n0) 0 0 s₁ (mkF m 0 #[.val (.ref a)] [])
  refine own_step (T' := s₁) (g' := (mkF m 1 #[.val (.ref a)] [(.ref a)])) (fun t_ k_ => XS.aloadN X0.here hx rfl (hb hby d7_0) rfl rfl k_) ?_
  obtain ⟨T1, X2, e3, st4⟩ := initO X0 hx hZ hown (hw _ (List.mem_of_getElem? (i := 65) rfl)) (hw _ (List.mem_of_getElem? (i := 8) rfl)) (hw _ (List.mem_of_getElem? (i := 9) rfl)) e0 (g := (mkF m 1 #[.val (.ref a)] [(.ref a)])) rfl (by rw [hml]; rfl) rfl (hb hby d7_1) (by decide) (W := 0) (by show 2 * 0 + _ ≤ _; exact Nat.le_of_eq rfl) (by decide)
  refine own_step (T' := T1) (g' := (mkF m 4 #[.val (.ref a)] [])) st4 ?_
  exact own_ret X2 hx hlk Bd.returns (hb hby d7_4) (by rw [e3]; exact ⟨rfl, N0, rfl⟩) (by decide) (by decide)
theorem d4_0 : decode jdk_39_method_1_code 0 = .ok (.aload_n 0, 1) := by decide +kernel
theorem d4_1 : decode jdk_39_method_1_code 1 = .ok (.invokespecial 1, 3) := by decide +kernel
theorem d4_4 : decode jdk_39_method_1_code 4 = .ok (.aload_n 0, 1) := by decide +kernel
theorem d4_5 : decode jdk_39_method_1_code 5 = .ok (.iconst 0, 1) := by decide +kernel
theorem d4_6 : decode jdk_39_method_1_code 6 = .ok (.putfield 7, 3) := by decide +kernel
theorem d4_9 : decode jdk_39_method_1_code 9 = .ok (.return_, 1) := by decide +kernel
theorem pn_4 : plainFor (⟨"java/util/AbstractList", "<init>", "()V"⟩ : MethodName) = true := by first | exact plainFor_of_name (by first | (simp [plainName, overriddenIn]; done) | decide +kernel) | decide +kernel
theorem ef_4 (m : MethodId) (x0 : Addr) : entryFrame m #[(.ref x0)] 1 = mkF m 0 #[.val (.ref x0)] [] := by first | (simp [entryFrame, mkF, argsToLocals, Value.category]; done) | rfl
def Q_4 (Z : State) (a : Addr) (f_modCount : Int32) (f_elementData : Value) (h0 : Heap) (n0 : Nat) (v : Option Value) (h : Heap) (L : List Loc) : Prop := v = none ∧ Fr n0 L ∧ Keep h0 h [a] ∧ Fld Z h a "java/util/AbstractList" "modCount" "I" (.int (0 : Int32)) ∧ Fld Z h a "java/util/ArrayList" "elementData" "[Ljava/lang/Object;" f_elementData
set_option maxRecDepth 65536 in
set_option maxHeartbeats 40000000 in
theorem rm_abl (l : Launch) (Z : State) (a0 : Array Value) (hw : ∀ d ∈ tables_1, d.before a0 Z = true) (ws : List Jvm.Cond) (a : Addr) (f_modCount : Int32) (f_elementData : Value) (h0 : Heap) (n0 : Nat) (Z0 : n0 ≤ h0.size) (E_a : Exa Z h0 a "java/util/ArrayList") (F_modCount : Fld Z h0 a "java/util/AbstractList" "modCount" "I" (.int f_modCount)) (F_elementData : Fld Z h0 a "java/util/ArrayList" "elementData" "[Ljava/lang/Object;" f_elementData) (ga : n0 ≤ a) :
    MetFree l (⟨"java/util/AbstractList", "<init>", "()V"⟩ : MethodName) (head1 (Jvm.Cond.code (⟨"java/util/AbstractList", "<init>", "()V"⟩ : MethodName) jdk_39_method_1_code 1 none :: ws) ({ frames := 2, cells := 0, slots := 0, locals := 24 } : Room)) (fun as_ U => as_ = #[(.ref a)] ∧ Z.Warmed39 U.vm ∧ U.heap = h0) (fun _ _ _ _ _ => True) (fun _ U o U' => ∃ v L, o = .returned v ∧ Q_4 Z a f_modCount f_elementData h0 n0 v U'.heap L ∧ FrameEnd U o U' L ({ frames := 2, cells := 0, slots := 0, locals := 24 } : Room).cells ({ frames := 2, cells := 0, slots := 0, locals := 24 } : Room).slots) := by
  refine MetFree.of_bodySF pn_4 hisR ?_
  intro p e s m args below meth c s₁ Bd hml0 hP hK
  obtain ⟨rfl, hZ, hh⟩ := hP
  have hx := Bd.exec
  have hby := Bd.bytes
  have hlk := BodyLoose.notSynchronized Bd
  have hml : c.maxLocals = 1 := hml0
  have hown : s.vm.findClass "java/util/AbstractList" = some m.cls := findClass_of_methodNamed Bd.named
  have hnm := (name_of_methodNamed Bd.named Bd.method).1
  have X0 : Stand p l e ({ frames := 2, cells := 0, slots := 0, locals := 24 } : Room) s m #[(.ref a)] below meth c s₁ [] 0 0 := Stand.of_body Bd
  have e0 : s₁.heap = h0 := by rw [← hh, Bd.state]; rfl
  have N0 := Fr.nil n0
  refine own_in (ef_4 m a) ?_
  show own_Fin p e below s (Q_4 Z a f_modCount f_elementData h0 n0) 0 0 s₁ (mkF m 0 #[.val (.ref a)] [])
  refine own_step (T' := s₁) (g' := (mkF m 1 #[.val (.ref a)] [(.ref a)])) (fun t_ k_ => XS.aloadN X0.here hx rfl (hb hby d4_0) rfl rfl k_) ?_
  obtain ⟨_, _, ⟨Tc1, Lc1, kc1, nc1⟩, -, Xc1, ⟨Lcc1, hQc1, lc1, yc1, zc1⟩, stc1⟩ := X0.specialBack hx (y := (⟨"java/util/AbstractCollection", "<init>", "()V"⟩ : MethodName)) rfl hown (mvT hZ (hw _ (List.mem_of_getElem? (i := 39) rfl))) (mvT hZ (hw _ (List.mem_of_getElem? (i := 40) rfl))) (mvT hZ (hw _ (List.mem_of_getElem? (i := 44) rfl))) (by decide) (backOf (W := 0) (rm_ac l Z a0 hw [] a h0 n0 Z0) hZ (hw _ (List.mem_of_getElem? (i := 44) rfl)) (hw _ (List.mem_of_getElem? (i := 43) rfl)) (by decide) (by decide)) (g := (mkF m 1 #[.val (.ref a)] [(.ref a)])) rfl (by rw [hml]; rfl) (Steps.refl _) (a := a) (argsL := []) (rest := []) (lenOf pd_0 rfl) rfl (by show 2 * 0 + _ ≤ _; exact Nat.le_of_eq rfl) (hb hby d4_1) (fun _ _ => ⟨rfl, e0, (by decide : 0 + 0 ≤ _), (by decide : 0 + 0 ≤ _)⟩)
  dsimp only [Pt.U, Pt.locs, Pt.cells, Pt.slots] at Xc1 lc1 yc1 zc1 stc1 hQc1
  subst lc1 yc1 zc1
  have X2 := Xc1.more (cells' := 0) (slots' := 0) (by decide) (by decide)
  obtain ⟨rfl, N3, e4⟩ := hQc1
  have N5 := Fr.app N0 N3
  obtain ⟨Lo6, X7, N8⟩ : ∃ Lo_, Stand p l e ({ frames := 2, cells := 0, slots := 0, locals := 24 } : Room) s m #[(.ref a)] below meth c Tc1 Lo_ 0 0 ∧ Fr n0 Lo_ := ⟨_, X2, N5⟩
  refine own_step (T' := Tc1) (g' := (mkF m 4 #[.val (.ref a)] [])) (fun t_ k_ => stc1.trans k_) ?_
  refine own_step (T' := Tc1) (g' := (mkF m 5 #[.val (.ref a)] [(.ref a)])) (fun t_ k_ => XS.aloadN X7.here hx rfl (hb hby d4_4) rfl rfl k_) ?_
  refine own_step (T' := Tc1) (g' := (mkF m 6 #[.val (.ref a)] [(.int (0 : Int32)), (.ref a)])) (fun t_ k_ => XT.iconstV X7.here hx rfl (0 : Int32) (hb hby d4_5) (by decide) k_) ?_
  obtain ⟨T9, h10, X11, e12, W13, st14⟩ := putF X7 hx hZ hown (host := "") (Or.inl (hw _ (List.mem_of_getElem? (i := 46) rfl))) Via.refl e4 F_modCount E_a (Or.inl (hw _ (List.mem_of_getElem? (i := 47) rfl))) (hw _ (List.mem_of_getElem? (i := 28) rfl)) (ty := .int) (by decide) rfl rfl (g := (mkF m 6 #[.val (.ref a)] [(.int (0 : Int32)), (.ref a)])) rfl rfl (hb hby d4_6)
  have N15 := Fr.snoc X11 N8 ga
  have F16 : n0 ≤ h10.size := Nat.le_trans Z0 (Keep.of_wr W13).1
  have F17 : Exa Z h10 a "java/util/ArrayList" := E_a.wr W13
  have F18 : Fld Z h10 a "java/util/AbstractList" "modCount" "I" (.int (0 : Int32)) := F_modCount.same W13
  have F19 : Fld Z h10 a "java/util/ArrayList" "elementData" "[Ljava/lang/Object;" f_elementData := F_elementData.other W13 (Or.inr (slot_ne (C := "java/util/ArrayList") (Or.inl (hw _ (List.mem_of_getElem? (i := 50) rfl))) (Or.inl (hw _ (List.mem_of_getElem? (i := 47) rfl))) (by decide) (t := (.array (.object "java/lang/Object"))) (by decide) (t' := .int) (by decide)))
  have F20 : Keep h0 h10 [a] := (Keep.refl h0 [a]).wr W13 (Or.inl (List.mem_of_getElem? (i := 0) rfl))
  obtain ⟨Lo21, X22, N23⟩ : ∃ Lo_, Stand p l e ({ frames := 2, cells := 0, slots := 0, locals := 24 } : Room) s m #[(.ref a)] below meth c T9 Lo_ 0 0 ∧ Fr n0 Lo_ := ⟨_, X11, N15⟩
  refine own_step (T' := T9) (g' := (mkF m 9 #[.val (.ref a)] [])) st14 ?_
  exact own_ret X22 hx hlk Bd.returns (hb hby d4_9) (by rw [e12]; exact ⟨rfl, N23, F20, F18, F19⟩) (by decide) (by decide)
theorem d3_0 : decode jdk_38_method_2_code 0 = .ok (.aload_n 0, 1) := by decide +kernel
theorem d3_1 : decode jdk_38_method_2_code 1 = .ok (.invokespecial 1, 3) := by decide +kernel
theorem d3_4 : decode jdk_38_method_2_code 4 = .ok (.aload_n 0, 1) := by decide +kernel
theorem d3_5 : decode jdk_38_method_2_code 5 = .ok (.getstatic 39, 3) := by decide +kernel
theorem d3_8 : decode jdk_38_method_2_code 8 = .ok (.putfield 9, 3) := by decide +kernel
theorem d3_11 : decode jdk_38_method_2_code 11 = .ok (.return_, 1) := by decide +kernel
theorem pn_3 : plainFor (⟨"java/util/ArrayList", "<init>", "()V"⟩ : MethodName) = true := by first | exact plainFor_of_name (by first | (simp [plainName, overriddenIn]; done) | decide +kernel) | decide +kernel
theorem ef_3 (m : MethodId) (x0 : Addr) : entryFrame m #[(.ref x0)] 1 = mkF m 0 #[.val (.ref x0)] [] := by first | (simp [entryFrame, mkF, argsToLocals, Value.category]; done) | rfl
def Q_3 (Z : State) (a : Addr) (dd : Addr) (f_modCount : Int32) (f_elementData : Value) (h0 : Heap) (n0 : Nat) (v : Option Value) (h : Heap) (L : List Loc) : Prop := v = none ∧ Fr n0 L ∧ Keep h0 h [a] ∧ Fld Z h a "java/util/AbstractList" "modCount" "I" (.int (0 : Int32)) ∧ Fld Z h a "java/util/ArrayList" "elementData" "[Ljava/lang/Object;" (.ref dd)
set_option maxRecDepth 65536 in
set_option maxHeartbeats 40000000 in
theorem rm_al (l : Launch) (Z : State) (a0 : Array Value) (hw : ∀ d ∈ tables_1, d.before a0 Z = true) (ws : List Jvm.Cond) (a : Addr) (dd : Addr) (f_modCount : Int32) (f_elementData : Value) (h0 : Heap) (n0 : Nat) (Z0 : n0 ≤ h0.size) (E_a : Exa Z h0 a "java/util/ArrayList") (F_modCount : Fld Z h0 a "java/util/AbstractList" "modCount" "I" (.int f_modCount)) (F_elementData : Fld Z h0 a "java/util/ArrayList" "elementData" "[Ljava/lang/Object;" f_elementData) (ga : n0 ≤ a) (O0 : Old Z n0 h0) (SD : Sta Z Z.heap "java/util/ArrayList" "DEFAULTCAPACITY_EMPTY_ELEMENTDATA" "[Ljava/lang/Object;" (.ref dd)) :
    MetFree l (⟨"java/util/ArrayList", "<init>", "()V"⟩ : MethodName) (head1 (Jvm.Cond.code (⟨"java/util/ArrayList", "<init>", "()V"⟩ : MethodName) jdk_38_method_2_code 1 none :: ws) ({ frames := 3, cells := 0, slots := 0, locals := 36 } : Room)) (fun as_ U => as_ = #[(.ref a)] ∧ Z.Warmed39 U.vm ∧ U.heap = h0) (fun _ _ _ _ _ => True) (fun _ U o U' => ∃ v L, o = .returned v ∧ Q_3 Z a dd f_modCount f_elementData h0 n0 v U'.heap L ∧ FrameEnd U o U' L ({ frames := 3, cells := 0, slots := 0, locals := 36 } : Room).cells ({ frames := 3, cells := 0, slots := 0, locals := 36 } : Room).slots) := by
  refine MetFree.of_bodySF pn_3 hisR ?_
  intro p e s m args below meth c s₁ Bd hml0 hP hK
  obtain ⟨rfl, hZ, hh⟩ := hP
  have hx := Bd.exec
  have hby := Bd.bytes
  have hlk := BodyLoose.notSynchronized Bd
  have hml : c.maxLocals = 1 := hml0
  have hown : s.vm.findClass "java/util/ArrayList" = some m.cls := findClass_of_methodNamed Bd.named
  have hnm := (name_of_methodNamed Bd.named Bd.method).1
  have X0 : Stand p l e ({ frames := 3, cells := 0, slots := 0, locals := 36 } : Room) s m #[(.ref a)] below meth c s₁ [] 0 0 := Stand.of_body Bd
  have e0 : s₁.heap = h0 := by rw [← hh, Bd.state]; rfl
  have N0 := Fr.nil n0
  refine own_in (ef_3 m a) ?_
  show own_Fin p e below s (Q_3 Z a dd f_modCount f_elementData h0 n0) 0 0 s₁ (mkF m 0 #[.val (.ref a)] [])
  refine own_step (T' := s₁) (g' := (mkF m 1 #[.val (.ref a)] [(.ref a)])) (fun t_ k_ => XS.aloadN X0.here hx rfl (hb hby d3_0) rfl rfl k_) ?_
  obtain ⟨_, _, ⟨Tc1, Lc1, kc1, nc1⟩, -, Xc1, ⟨Lcc1, hQc1, lc1, yc1, zc1⟩, stc1⟩ := X0.specialBack hx (y := (⟨"java/util/AbstractList", "<init>", "()V"⟩ : MethodName)) rfl hown (mvT hZ (hw _ (List.mem_of_getElem? (i := 33) rfl))) (mvT hZ (hw _ (List.mem_of_getElem? (i := 34) rfl))) (mvT hZ (hw _ (List.mem_of_getElem? (i := 38) rfl))) (by decide) (backOf (W := 0) (rm_abl l Z a0 hw [] a  f_modCount f_elementData h0 n0 Z0 E_a F_modCount F_elementData ga) hZ (hw _ (List.mem_of_getElem? (i := 38) rfl)) (hw _ (List.mem_of_getElem? (i := 37) rfl)) (by decide) (by decide)) (g := (mkF m 1 #[.val (.ref a)] [(.ref a)])) rfl (by rw [hml]; rfl) (Steps.refl _) (a := a) (argsL := []) (rest := []) (lenOf pd_0 rfl) rfl (by show 2 * 0 + _ ≤ _; exact Nat.le_of_eq rfl) (hb hby d3_1) (fun _ _ => ⟨rfl, e0, (by decide : 0 + 0 ≤ _), (by decide : 0 + 0 ≤ _)⟩)
  dsimp only [Pt.U, Pt.locs, Pt.cells, Pt.slots] at Xc1 lc1 yc1 zc1 stc1 hQc1
  subst lc1 yc1 zc1
  have X2 := Xc1.more (cells' := 0) (slots' := 0) (by decide) (by decide)
  obtain ⟨rfl, N3, K4, F5, F6⟩ := hQc1
  have N7 := Fr.app N0 N3
  have F8 : n0 ≤ Tc1.heap.size := Nat.le_trans Z0 K4.1
  have F9 : Exa Z Tc1.heap a "java/util/ArrayList" := E_a.keep K4
  have F10 : Keep h0 Tc1.heap [a] := (Keep.refl h0 [a]).trans K4 (allS (Or.inl (List.mem_of_getElem? (i := 0) rfl)) all0)
  have F11 : Old Z n0 Tc1.heap := O0.keep K4 (allS ga all0)
  obtain ⟨Lo12, X13, N14⟩ : ∃ Lo_, Stand p l e ({ frames := 3, cells := 0, slots := 0, locals := 36 } : Room) s m #[(.ref a)] below meth c Tc1 Lo_ 0 0 ∧ Fr n0 Lo_ := ⟨_, X2, N7⟩
  refine own_step (T' := Tc1) (g' := (mkF m 4 #[.val (.ref a)] [])) (fun t_ k_ => stc1.trans k_) ?_
  refine own_step (T' := Tc1) (g' := (mkF m 5 #[.val (.ref a)] [(.ref a)])) (fun t_ k_ => XS.aloadN X13.here hx rfl (hb hby d3_4) rfl rfl k_) ?_
  obtain ⟨T15, X16, e17, st18⟩ := getS2 (host := "") X13 hx hZ hown (Or.inl (hw _ (List.mem_of_getElem? (i := 48) rfl))) Via.refl rfl (SD.ext F11.2) (g := (mkF m 5 #[.val (.ref a)] [(.ref a)])) rfl (hb hby d3_5)
  refine own_step (T' := T15) (g' := (mkF m 8 #[.val (.ref a)] [(.ref dd), (.ref a)])) st18 ?_
  obtain ⟨T19, h20, X21, e22, W23, st24⟩ := putF X16 hx hZ hown (host := "") (Or.inl (hw _ (List.mem_of_getElem? (i := 49) rfl))) Via.refl e17 F6 F9 (Or.inl (hw _ (List.mem_of_getElem? (i := 50) rfl))) (hw _ (List.mem_of_getElem? (i := 28) rfl)) (ty := (.array (.object "java/lang/Object"))) (by decide) rfl rfl (g := (mkF m 8 #[.val (.ref a)] [(.ref dd), (.ref a)])) rfl rfl (hb hby d3_8)
  have N25 := Fr.snoc X21 N14 ga
  have F26 : n0 ≤ h20.size := Nat.le_trans F8 (Keep.of_wr W23).1
  have F27 : Exa Z h20 a "java/util/ArrayList" := F9.wr W23
  have F28 : Keep h0 h20 [a] := F10.wr W23 (Or.inl (List.mem_of_getElem? (i := 0) rfl))
  have F29 : Old Z n0 h20 := F11.wr W23 ga
  have F30 : Fld Z h20 a "java/util/AbstractList" "modCount" "I" (.int (0 : Int32)) := F5.other W23 (Or.inr (slot_ne (C := "java/util/ArrayList") (Or.inl (hw _ (List.mem_of_getElem? (i := 47) rfl))) (Or.inl (hw _ (List.mem_of_getElem? (i := 50) rfl))) (by decide) (t := .int) (by decide) (t' := (.array (.object "java/lang/Object"))) (by decide)))
  have F31 : Fld Z h20 a "java/util/ArrayList" "elementData" "[Ljava/lang/Object;" (.ref dd) := F6.same W23
  obtain ⟨Lo32, X33, N34⟩ : ∃ Lo_, Stand p l e ({ frames := 3, cells := 0, slots := 0, locals := 36 } : Room) s m #[(.ref a)] below meth c T19 Lo_ 0 0 ∧ Fr n0 Lo_ := ⟨_, X21, N25⟩
  refine own_step (T' := T19) (g' := (mkF m 11 #[.val (.ref a)] [])) st24 ?_
  exact own_ret X33 hx hlk Bd.returns (hb hby d3_11) (by rw [e22]; exact ⟨rfl, N34, F28, F30, F31⟩) (by decide) (by decide)
theorem d6_0 : decode jdk_69_method_7_code 0 = .ok (.aload_n 0, 1) := by decide +kernel
theorem d6_1 : decode jdk_69_method_7_code 1 = .ok (.invokespecial 43, 3) := by decide +kernel
theorem d6_4 : decode jdk_69_method_7_code 4 = .ok (.aload_n 0, 1) := by decide +kernel
theorem d6_5 : decode jdk_69_method_7_code 5 = .ok (.ldc 92, 2) := by decide +kernel
theorem d6_7 : decode jdk_69_method_7_code 7 = .ok (.putfield 81, 3) := by decide +kernel
theorem d6_10 : decode jdk_69_method_7_code 10 = .ok (.return_, 1) := by decide +kernel
theorem pn_6 : plainFor (⟨"java/util/HashMap", "<init>", "()V"⟩ : MethodName) = true := by first | exact plainFor_of_name (by first | (simp [plainName, overriddenIn]; done) | decide +kernel) | decide +kernel
theorem ef_6 (m : MethodId) (x0 : Addr) : entryFrame m #[(.ref x0)] 1 = mkF m 0 #[.val (.ref x0)] [] := by first | (simp [entryFrame, mkF, argsToLocals, Value.category]; done) | rfl
def Q_6 (Z : State) (a : Addr) (f_loadFactor : Value) (h0 : Heap) (n0 : Nat) (v : Option Value) (h : Heap) (L : List Loc) : Prop := v = none ∧ Fr n0 L ∧ Keep h0 h [a] ∧ Fld Z h a "java/util/HashMap" "loadFactor" "F" (.float (1061158912 : UInt32))
set_option maxRecDepth 65536 in
set_option maxHeartbeats 40000000 in
theorem rm_hm (l : Launch) (Z : State) (a0 : Array Value) (hw : ∀ d ∈ tables_1, d.before a0 Z = true) (ws : List Jvm.Cond) (a : Addr) (f_loadFactor : Value) (h0 : Heap) (n0 : Nat) (Z0 : n0 ≤ h0.size) (E_a : Exa Z h0 a "java/util/HashMap") (F_loadFactor : Fld Z h0 a "java/util/HashMap" "loadFactor" "F" f_loadFactor) (ga : n0 ≤ a) :
    MetFree l (⟨"java/util/HashMap", "<init>", "()V"⟩ : MethodName) (head1 (Jvm.Cond.code (⟨"java/util/HashMap", "<init>", "()V"⟩ : MethodName) jdk_69_method_7_code 1 none :: ws) ({ frames := 2, cells := 0, slots := 0, locals := 24 } : Room)) (fun as_ U => as_ = #[(.ref a)] ∧ Z.Warmed39 U.vm ∧ U.heap = h0) (fun _ _ _ _ _ => True) (fun _ U o U' => ∃ v L, o = .returned v ∧ Q_6 Z a f_loadFactor h0 n0 v U'.heap L ∧ FrameEnd U o U' L ({ frames := 2, cells := 0, slots := 0, locals := 24 } : Room).cells ({ frames := 2, cells := 0, slots := 0, locals := 24 } : Room).slots) := by
  refine MetFree.of_bodySF pn_6 hisR ?_
  intro p e s m args below meth c s₁ Bd hml0 hP hK
  obtain ⟨rfl, hZ, hh⟩ := hP
  have hx := Bd.exec
  have hby := Bd.bytes
  have hlk := BodyLoose.notSynchronized Bd
  have hml : c.maxLocals = 1 := hml0
  have hown : s.vm.findClass "java/util/HashMap" = some m.cls := findClass_of_methodNamed Bd.named
  have hnm := (name_of_methodNamed Bd.named Bd.method).1
  have X0 : Stand p l e ({ frames := 2, cells := 0, slots := 0, locals := 24 } : Room) s m #[(.ref a)] below meth c s₁ [] 0 0 := Stand.of_body Bd
  have e0 : s₁.heap = h0 := by rw [← hh, Bd.state]; rfl
  have N0 := Fr.nil n0
  refine own_in (ef_6 m a) ?_
  show own_Fin p e below s (Q_6 Z a f_loadFactor h0 n0) 0 0 s₁ (mkF m 0 #[.val (.ref a)] [])
  refine own_step (T' := s₁) (g' := (mkF m 1 #[.val (.ref a)] [(.ref a)])) (fun t_ k_ => XS.aloadN X0.here hx rfl (hb hby d6_0) rfl rfl k_) ?_
  obtain ⟨_, _, ⟨Tc1, Lc1, kc1, nc1⟩, -, Xc1, ⟨Lcc1, hQc1, lc1, yc1, zc1⟩, stc1⟩ := X0.specialBack hx (y := (⟨"java/util/AbstractMap", "<init>", "()V"⟩ : MethodName)) rfl hown (mvT hZ (hw _ (List.mem_of_getElem? (i := 59) rfl))) (mvT hZ (hw _ (List.mem_of_getElem? (i := 60) rfl))) (mvT hZ (hw _ (List.mem_of_getElem? (i := 64) rfl))) (by decide) (backOf (W := 0) (rm_am l Z a0 hw [] a h0 n0 Z0) hZ (hw _ (List.mem_of_getElem? (i := 64) rfl)) (hw _ (List.mem_of_getElem? (i := 63) rfl)) (by decide) (by decide)) (g := (mkF m 1 #[.val (.ref a)] [(.ref a)])) rfl (by rw [hml]; rfl) (Steps.refl _) (a := a) (argsL := []) (rest := []) (lenOf pd_0 rfl) rfl (by show 2 * 0 + _ ≤ _; exact Nat.le_of_eq rfl) (hb hby d6_1) (fun _ _ => ⟨rfl, e0, (by decide : 0 + 0 ≤ _), (by decide : 0 + 0 ≤ _)⟩)
  dsimp only [Pt.U, Pt.locs, Pt.cells, Pt.slots] at Xc1 lc1 yc1 zc1 stc1 hQc1
  subst lc1 yc1 zc1
  have X2 := Xc1.more (cells' := 0) (slots' := 0) (by decide) (by decide)
  obtain ⟨rfl, N3, e4⟩ := hQc1
  have N5 := Fr.app N0 N3
  obtain ⟨Lo6, X7, N8⟩ : ∃ Lo_, Stand p l e ({ frames := 2, cells := 0, slots := 0, locals := 24 } : Room) s m #[(.ref a)] below meth c Tc1 Lo_ 0 0 ∧ Fr n0 Lo_ := ⟨_, X2, N5⟩
  refine own_step (T' := Tc1) (g' := (mkF m 4 #[.val (.ref a)] [])) (fun t_ k_ => stc1.trans k_) ?_
  refine own_step (T' := Tc1) (g' := (mkF m 5 #[.val (.ref a)] [(.ref a)])) (fun t_ k_ => XS.aloadN X7.here hx rfl (hb hby d6_4) rfl rfl k_) ?_
  have st9 := X7.ldcFloatC (g := (mkF m 5 #[.val (.ref a)] [(.ref a)])) hx hown (mvT hZ (hw _ (List.mem_of_getElem? (i := 66) rfl))) rfl (hb hby d6_5)
  refine own_step (T' := Tc1) (g' := (mkF m 7 #[.val (.ref a)] [(.float (1061158912 : UInt32)), (.ref a)])) st9 ?_
  obtain ⟨T10, h11, X12, e13, W14, st15⟩ := putF X7 hx hZ hown (host := "") (Or.inl (hw _ (List.mem_of_getElem? (i := 67) rfl))) Via.refl e4 F_loadFactor E_a (Or.inr ⟨(hw _ (List.mem_of_getElem? (i := 68) rfl)), rfl, hnm⟩) (hw _ (List.mem_of_getElem? (i := 54) rfl)) (ty := .float) (by decide) rfl rfl (g := (mkF m 7 #[.val (.ref a)] [(.float (1061158912 : UInt32)), (.ref a)])) rfl rfl (hb hby d6_7)
  have N16 := Fr.snoc X12 N8 ga
  have F17 : n0 ≤ h11.size := Nat.le_trans Z0 (Keep.of_wr W14).1
  have F18 : Exa Z h11 a "java/util/HashMap" := E_a.wr W14
  have F19 : Fld Z h11 a "java/util/HashMap" "loadFactor" "F" (.float (1061158912 : UInt32)) := F_loadFactor.same W14
  have F20 : Keep h0 h11 [a] := (Keep.refl h0 [a]).wr W14 (Or.inl (List.mem_of_getElem? (i := 0) rfl))
  obtain ⟨Lo21, X22, N23⟩ : ∃ Lo_, Stand p l e ({ frames := 2, cells := 0, slots := 0, locals := 24 } : Room) s m #[(.ref a)] below meth c T10 Lo_ 0 0 ∧ Fr n0 Lo_ := ⟨_, X12, N16⟩
  refine own_step (T' := T10) (g' := (mkF m 10 #[.val (.ref a)] [])) st15 ?_
  exact own_ret X22 hx hlk Bd.returns (hb hby d6_10) (by rw [e13]; exact ⟨rfl, N23, F20, F19⟩) (by decide) (by decide)
theorem d0_0 : decode prog_7_method_1_code 0 = .ok (.aload_n 0, 1) := by decide +kernel
theorem d0_1 : decode prog_7_method_1_code 1 = .ok (.invokespecial 3, 3) := by decide +kernel
theorem d0_4 : decode prog_7_method_1_code 4 = .ok (.aload_n 0, 1) := by decide +kernel
theorem d0_5 : decode prog_7_method_1_code 5 = .ok (.lload_n 1, 1) := by decide +kernel
theorem d0_6 : decode prog_7_method_1_code 6 = .ok (.putfield 9, 3) := by decide +kernel
theorem d0_9 : decode prog_7_method_1_code 9 = .ok (.return_, 1) := by decide +kernel
theorem pn_0 : plainFor (⟨"com/example/dossier_into_mets/dossierintomets/CharacterBudget", "<init>", "(J)V"⟩ : MethodName) = true := by first | exact plainFor_of_name (by first | (simp [plainName, overriddenIn]; done) | decide +kernel) | decide +kernel
theorem ef_0 (m : MethodId) (x0 : Addr) (x1 : Int64) : entryFrame m #[(.ref x0), (.long x1)] 3 = mkF m 0 #[.val (.ref x0), .val (.long x1), .second] [] := by first | (simp [entryFrame, mkF, argsToLocals, Value.category]; done) | rfl
def Q_0 (Z : State) (a : Addr) (x : Int64) (f_limit : Int64) (f_spent : Int64) (h0 : Heap) (n0 : Nat) (v : Option Value) (h : Heap) (L : List Loc) : Prop := v = none ∧ Fr n0 L ∧ Keep h0 h [a] ∧ Fld Z h a "com/example/dossier_into_mets/dossierintomets/CharacterBudget" "limit" "J" (.long x) ∧ Fld Z h a "com/example/dossier_into_mets/dossierintomets/CharacterBudget" "spent" "J" (.long f_spent)
set_option maxRecDepth 65536 in
set_option maxHeartbeats 40000000 in
theorem rm_cb (l : Launch) (Z : State) (a0 : Array Value) (hw : ∀ d ∈ tables_1, d.before a0 Z = true) (ws : List Jvm.Cond) (a : Addr) (x : Int64) (f_limit : Int64) (f_spent : Int64) (h0 : Heap) (n0 : Nat) (Z0 : n0 ≤ h0.size) (E_a : Exa Z h0 a "com/example/dossier_into_mets/dossierintomets/CharacterBudget") (F_limit : Fld Z h0 a "com/example/dossier_into_mets/dossierintomets/CharacterBudget" "limit" "J" (.long f_limit)) (F_spent : Fld Z h0 a "com/example/dossier_into_mets/dossierintomets/CharacterBudget" "spent" "J" (.long f_spent)) (ga : n0 ≤ a) :
    MetFree l (⟨"com/example/dossier_into_mets/dossierintomets/CharacterBudget", "<init>", "(J)V"⟩ : MethodName) (head1 (Jvm.Cond.code (⟨"com/example/dossier_into_mets/dossierintomets/CharacterBudget", "<init>", "(J)V"⟩ : MethodName) prog_7_method_1_code 3 none :: ws) ({ frames := 1, cells := 0, slots := 0, locals := 12 } : Room)) (fun as_ U => as_ = #[(.ref a), (.long x)] ∧ Z.Warmed39 U.vm ∧ U.heap = h0) (fun _ _ _ _ _ => True) (fun _ U o U' => ∃ v L, o = .returned v ∧ Q_0 Z a x f_limit f_spent h0 n0 v U'.heap L ∧ FrameEnd U o U' L ({ frames := 1, cells := 0, slots := 0, locals := 12 } : Room).cells ({ frames := 1, cells := 0, slots := 0, locals := 12 } : Room).slots) := by
  refine MetFree.of_bodySF pn_0 hisR ?_
  intro p e s m args below meth c s₁ Bd hml0 hP hK
  obtain ⟨rfl, hZ, hh⟩ := hP
  have hx := Bd.exec
  have hby := Bd.bytes
  have hlk := BodyLoose.notSynchronized Bd
  have hml : c.maxLocals = 3 := hml0
  have hown : s.vm.findClass "com/example/dossier_into_mets/dossierintomets/CharacterBudget" = some m.cls := findClass_of_methodNamed Bd.named
  have hnm := (name_of_methodNamed Bd.named Bd.method).1
  have X0 : Stand p l e ({ frames := 1, cells := 0, slots := 0, locals := 12 } : Room) s m #[(.ref a), (.long x)] below meth c s₁ [] 0 0 := Stand.of_body Bd
  have e0 : s₁.heap = h0 := by rw [← hh, Bd.state]; rfl
  have N0 := Fr.nil n0
  refine own_in (ef_0 m a x) ?_
  show own_Fin p e below s (Q_0 Z a x f_limit f_spent h0 n0) 0 0 s₁ (mkF m 0 #[.val (.ref a), .val (.long x), .second] [])
  refine own_step (T' := s₁) (g' := (mkF m 1 #[.val (.ref a), .val (.long x), .second] [(.ref a)])) (fun t_ k_ => XS.aloadN X0.here hx rfl (hb hby d0_0) rfl rfl k_) ?_
  obtain ⟨T1, X2, e3, st4⟩ := initO X0 hx hZ hown (hw _ (List.mem_of_getElem? (i := 7) rfl)) (hw _ (List.mem_of_getElem? (i := 8) rfl)) (hw _ (List.mem_of_getElem? (i := 9) rfl)) e0 (g := (mkF m 1 #[.val (.ref a), .val (.long x), .second] [(.ref a)])) rfl (by rw [hml]; rfl) rfl (hb hby d0_1) (by decide) (W := 0) (by show 2 * 0 + _ ≤ _; exact Nat.le_of_eq rfl) (by decide)
  refine own_step (T' := T1) (g' := (mkF m 4 #[.val (.ref a), .val (.long x), .second] [])) st4 ?_
  refine own_step (T' := T1) (g' := (mkF m 5 #[.val (.ref a), .val (.long x), .second] [(.ref a)])) (fun t_ k_ => XS.aloadN X2.here hx rfl (hb hby d0_4) rfl rfl k_) ?_
  refine own_step (T' := T1) (g' := (mkF m 6 #[.val (.ref a), .val (.long x), .second] [(.long x), (.ref a)])) (fun t_ k_ => XT.lloadN X2.here hx rfl (hb hby d0_5) rfl k_) ?_
  obtain ⟨T5, h6, X7, e8, W9, st10⟩ := putF X2 hx hZ hown (host := "") (Or.inl (hw _ (List.mem_of_getElem? (i := 10) rfl))) Via.refl e3 F_limit E_a (Or.inr ⟨(hw _ (List.mem_of_getElem? (i := 11) rfl)), rfl, hnm⟩) (hw _ (List.mem_of_getElem? (i := 1) rfl)) (ty := .long) (by decide) rfl rfl (g := (mkF m 6 #[.val (.ref a), .val (.long x), .second] [(.long x), (.ref a)])) rfl rfl (hb hby d0_6)
  have N11 := Fr.snoc X7 N0 ga
  have F12 : n0 ≤ h6.size := Nat.le_trans Z0 (Keep.of_wr W9).1
  have F13 : Exa Z h6 a "com/example/dossier_into_mets/dossierintomets/CharacterBudget" := E_a.wr W9
  have F14 : Fld Z h6 a "com/example/dossier_into_mets/dossierintomets/CharacterBudget" "limit" "J" (.long x) := F_limit.same W9
  have F15 : Fld Z h6 a "com/example/dossier_into_mets/dossierintomets/CharacterBudget" "spent" "J" (.long f_spent) := F_spent.other W9 (Or.inr (slot_ne (C := "com/example/dossier_into_mets/dossierintomets/CharacterBudget") (Or.inl (hw _ (List.mem_of_getElem? (i := 116) rfl))) (Or.inr (hw _ (List.mem_of_getElem? (i := 11) rfl))) (by decide) (t := .long) (by decide) (t' := .long) (by decide)))
  have F16 : Keep h0 h6 [a] := (Keep.refl h0 [a]).wr W9 (Or.inl (List.mem_of_getElem? (i := 0) rfl))
  obtain ⟨Lo17, X18, N19⟩ : ∃ Lo_, Stand p l e ({ frames := 1, cells := 0, slots := 0, locals := 12 } : Room) s m #[(.ref a), (.long x)] below meth c T5 Lo_ 0 0 ∧ Fr n0 Lo_ := ⟨_, X7, N11⟩
  refine own_step (T' := T5) (g' := (mkF m 9 #[.val (.ref a), .val (.long x), .second] [])) st10 ?_
  exact own_ret X18 hx hlk Bd.returns (hb hby d0_9) (by rw [e8]; exact ⟨rfl, N19, F16, F14, F15⟩) (by decide) (by decide)
theorem d2_0 : decode prog_40_method_1_code 0 = .ok (.aload_n 0, 1) := by decide +kernel
theorem d2_1 : decode prog_40_method_1_code 1 = .ok (.invokespecial 5, 3) := by decide +kernel
theorem d2_4 : decode prog_40_method_1_code 4 = .ok (.aload_n 0, 1) := by decide +kernel
theorem d2_5 : decode prog_40_method_1_code 5 = .ok (.new 11, 3) := by decide +kernel
theorem d2_8 : decode prog_40_method_1_code 8 = .ok (.dup, 1) := by decide +kernel
theorem d2_9 : decode prog_40_method_1_code 9 = .ok (.invokespecial 13, 3) := by decide +kernel
theorem d2_12 : decode prog_40_method_1_code 12 = .ok (.putfield 14, 3) := by decide +kernel
theorem d2_15 : decode prog_40_method_1_code 15 = .ok (.aload_n 0, 1) := by decide +kernel
theorem d2_16 : decode prog_40_method_1_code 16 = .ok (.new 18, 3) := by decide +kernel
theorem d2_19 : decode prog_40_method_1_code 19 = .ok (.dup, 1) := by decide +kernel
theorem d2_20 : decode prog_40_method_1_code 20 = .ok (.invokespecial 20, 3) := by decide +kernel
theorem d2_23 : decode prog_40_method_1_code 23 = .ok (.putfield 21, 3) := by decide +kernel
theorem d2_26 : decode prog_40_method_1_code 26 = .ok (.aload_n 0, 1) := by decide +kernel
theorem d2_27 : decode prog_40_method_1_code 27 = .ok (.iconst 0, 1) := by decide +kernel
theorem d2_28 : decode prog_40_method_1_code 28 = .ok (.newarray .long, 2) := by decide +kernel
theorem d2_30 : decode prog_40_method_1_code 30 = .ok (.putfield 25, 3) := by decide +kernel
theorem d2_33 : decode prog_40_method_1_code 33 = .ok (.aload_n 0, 1) := by decide +kernel
theorem d2_34 : decode prog_40_method_1_code 34 = .ok (.aload_n 1, 1) := by decide +kernel
theorem d2_35 : decode prog_40_method_1_code 35 = .ok (.putfield 29, 3) := by decide +kernel
theorem d2_38 : decode prog_40_method_1_code 38 = .ok (.aload_n 0, 1) := by decide +kernel
theorem d2_39 : decode prog_40_method_1_code 39 = .ok (.aload_n 2, 1) := by decide +kernel
theorem d2_40 : decode prog_40_method_1_code 40 = .ok (.putfield 33, 3) := by decide +kernel
theorem d2_43 : decode prog_40_method_1_code 43 = .ok (.return_, 1) := by decide +kernel
theorem pn_2 : plainFor (⟨"com/example/dossier_into_mets/dossierintomets/MemberDivs", "<init>", "(Lcom/example/dossier_into_mets/dossierintomets/CharacterBudget;Ljava/lang/String;)V"⟩ : MethodName) = true := by first | exact plainFor_of_name (by first | (simp [plainName, overriddenIn]; done) | decide +kernel) | decide +kernel
theorem ef_2 (m : MethodId) (x0 : Addr) (x1 : Addr) (x2 : Addr) : entryFrame m #[(.ref x0), (.ref x1), (.ref x2)] 3 = mkF m 0 #[.val (.ref x0), .val (.ref x1), .val (.ref x2)] [] := by first | (simp [entryFrame, mkF, argsToLocals, Value.category]; done) | rfl
def Q_2 (Z : State) (a b : Addr) (f_count : Int32) (f_held : Int64) (h0 : Heap) (n0 : Nat) (v : Option Value) (h : Heap) (L : List Loc) : Prop := ∃ (dv : Addr) (kA : ClassId), v = none ∧ Fr n0 L ∧ Keep h0 h [a] ∧ h0.size ≤ dv ∧ Fld Z h a "com/example/dossier_into_mets/dossierintomets/MemberDivs" "divs" "[J" (.ref dv) ∧ Fld Z h a "com/example/dossier_into_mets/dossierintomets/MemberDivs" "budget" "Lcom/example/dossier_into_mets/dossierintomets/CharacterBudget;" (.ref b) ∧ Fld Z h a "com/example/dossier_into_mets/dossierintomets/MemberDivs" "count" "I" (.int f_count) ∧ Fld Z h a "com/example/dossier_into_mets/dossierintomets/MemberDivs" "held" "J" (.long f_held) ∧ Arv Z h dv kA .long (0 : Int32) [] (.long (0 : Int64))
set_option maxRecDepth 65536 in
set_option maxHeartbeats 40000000 in
theorem rm_md (l : Launch) (Z : State) (a0 : Array Value) (hw : ∀ d ∈ tables_1, d.before a0 Z = true) (ws : List Jvm.Cond) (a b sa dd : Addr) (f_types : Value) (f_typeNumbers : Value) (f_divs : Value) (f_budget : Value) (f_objectDiv : Value) (f_count : Int32) (f_held : Int64) (h0 : Heap) (n0 : Nat) (Z0 : n0 ≤ h0.size) (E_a : Exa Z h0 a "com/example/dossier_into_mets/dossierintomets/MemberDivs") (F_types : Fld Z h0 a "com/example/dossier_into_mets/dossierintomets/MemberDivs" "types" "Ljava/util/List;" f_types) (F_typeNumbers : Fld Z h0 a "com/example/dossier_into_mets/dossierintomets/MemberDivs" "typeNumbers" "Ljava/util/Map;" f_typeNumbers) (F_divs : Fld Z h0 a "com/example/dossier_into_mets/dossierintomets/MemberDivs" "divs" "[J" f_divs) (F_budget : Fld Z h0 a "com/example/dossier_into_mets/dossierintomets/MemberDivs" "budget" "Lcom/example/dossier_into_mets/dossierintomets/CharacterBudget;" f_budget) (F_objectDiv : Fld Z h0 a "com/example/dossier_into_mets/dossierintomets/MemberDivs" "objectDiv" "Ljava/lang/String;" f_objectDiv) (F_count : Fld Z h0 a "com/example/dossier_into_mets/dossierintomets/MemberDivs" "count" "I" (.int f_count)) (F_held : Fld Z h0 a "com/example/dossier_into_mets/dossierintomets/MemberDivs" "held" "J" (.long f_held)) (ga : n0 ≤ a) (O0 : Old Z n0 h0) (SD : Sta Z Z.heap "java/util/ArrayList" "DEFAULTCAPACITY_EMPTY_ELEMENTDATA" "[Ljava/lang/Object;" (.ref dd)) :
    MetFree l (⟨"com/example/dossier_into_mets/dossierintomets/MemberDivs", "<init>", "(Lcom/example/dossier_into_mets/dossierintomets/CharacterBudget;Ljava/lang/String;)V"⟩ : MethodName) (head1 (Jvm.Cond.code (⟨"com/example/dossier_into_mets/dossierintomets/MemberDivs", "<init>", "(Lcom/example/dossier_into_mets/dossierintomets/CharacterBudget;Ljava/lang/String;)V"⟩ : MethodName) prog_40_method_1_code 3 none :: ws) ({ frames := 4, cells := 3, slots := 11, locals := 50 } : Room)) (fun as_ U => as_ = #[(.ref a), (.ref b), (.ref sa)] ∧ Z.Warmed39 U.vm ∧ U.heap = h0) (fun _ _ _ _ _ => True) (fun _ U o U' => ∃ v L, o = .returned v ∧ Q_2 Z a b f_count f_held h0 n0 v U'.heap L ∧ FrameEnd U o U' L ({ frames := 4, cells := 3, slots := 11, locals := 50 } : Room).cells ({ frames := 4, cells := 3, slots := 11, locals := 50 } : Room).slots) := by
  refine MetFree.of_bodySF pn_2 hisR ?_
  intro p e s m args below meth c s₁ Bd hml0 hP hK
  obtain ⟨rfl, hZ, hh⟩ := hP
  have hx := Bd.exec
  have hby := Bd.bytes
  have hlk := BodyLoose.notSynchronized Bd
  have hml : c.maxLocals = 3 := hml0
  have hown : s.vm.findClass "com/example/dossier_into_mets/dossierintomets/MemberDivs" = some m.cls := findClass_of_methodNamed Bd.named
  have hnm := (name_of_methodNamed Bd.named Bd.method).1
  have X0 : Stand p l e ({ frames := 4, cells := 3, slots := 11, locals := 50 } : Room) s m #[(.ref a), (.ref b), (.ref sa)] below meth c s₁ [] 0 0 := Stand.of_body Bd
  have e0 : s₁.heap = h0 := by rw [← hh, Bd.state]; rfl
  have N0 := Fr.nil n0
  refine own_in (ef_2 m a b sa) ?_
  show own_Fin p e below s (Q_2 Z a b f_count f_held h0 n0) 3 11 s₁ (mkF m 0 #[.val (.ref a), .val (.ref b), .val (.ref sa)] [])
  refine own_step (T' := s₁) (g' := (mkF m 1 #[.val (.ref a), .val (.ref b), .val (.ref sa)] [(.ref a)])) (fun t_ k_ => XS.aloadN X0.here hx rfl (hb hby d2_0) rfl rfl k_) ?_
  obtain ⟨T1, X2, e3, st4⟩ := initO X0 hx hZ hown (hw _ (List.mem_of_getElem? (i := 26) rfl)) (hw _ (List.mem_of_getElem? (i := 8) rfl)) (hw _ (List.mem_of_getElem? (i := 9) rfl)) e0 (g := (mkF m 1 #[.val (.ref a), .val (.ref b), .val (.ref sa)] [(.ref a)])) rfl (by rw [hml]; rfl) rfl (hb hby d2_1) (by decide) (W := 0) (by show 2 * 0 + _ ≤ _; exact Nat.le_of_eq rfl) (by decide)
  refine own_step (T' := T1) (g' := (mkF m 4 #[.val (.ref a), .val (.ref b), .val (.ref sa)] [])) st4 ?_
  refine own_step (T' := T1) (g' := (mkF m 5 #[.val (.ref a), .val (.ref b), .val (.ref sa)] [(.ref a)])) (fun t_ k_ => XS.aloadN X2.here hx rfl (hb hby d2_4) rfl rfl k_) ?_
  obtain ⟨T5, h6, X7, e8, E9, A10, D11, -, st12⟩ := newO X2 hx hZ hown (hw _ (List.mem_of_getElem? (i := 27) rfl)) (hw _ (List.mem_of_getElem? (i := 28) rfl)) (hw _ (List.mem_of_getElem? (i := 29) rfl)) e3 (g := (mkF m 5 #[.val (.ref a), .val (.ref b), .val (.ref sa)] [(.ref a)])) rfl (hb hby d2_5) (by decide) (by decide)
  obtain ⟨a13, g14⟩ : ∃ z, z = h0.size := ⟨_, rfl⟩
  rw [← g14] at A10 D11 st12
  have q15 : n0 ≤ a13 := Nat.le_trans Z0 (Nat.le_of_eq g14.symm)
  have ne16 : a ≠ a13 := Nat.ne_of_lt (Nat.lt_of_lt_of_le E_a.lt (Nat.le_of_eq g14.symm))
  have F17 : n0 ≤ h6.size := Nat.le_trans Z0 E9.1
  have F18 : Exa Z h6 a "com/example/dossier_into_mets/dossierintomets/MemberDivs" := E_a.ext E9
  have F19 : Fld Z h6 a "com/example/dossier_into_mets/dossierintomets/MemberDivs" "types" "Ljava/util/List;" f_types := F_types.ext E9
  have F20 : Fld Z h6 a "com/example/dossier_into_mets/dossierintomets/MemberDivs" "typeNumbers" "Ljava/util/Map;" f_typeNumbers := F_typeNumbers.ext E9
  have F21 : Fld Z h6 a "com/example/dossier_into_mets/dossierintomets/MemberDivs" "divs" "[J" f_divs := F_divs.ext E9
  have F22 : Fld Z h6 a "com/example/dossier_into_mets/dossierintomets/MemberDivs" "budget" "Lcom/example/dossier_into_mets/dossierintomets/CharacterBudget;" f_budget := F_budget.ext E9
  have F23 : Fld Z h6 a "com/example/dossier_into_mets/dossierintomets/MemberDivs" "objectDiv" "Ljava/lang/String;" f_objectDiv := F_objectDiv.ext E9
  have F24 : Fld Z h6 a "com/example/dossier_into_mets/dossierintomets/MemberDivs" "count" "I" (.int f_count) := F_count.ext E9
  have F25 : Fld Z h6 a "com/example/dossier_into_mets/dossierintomets/MemberDivs" "held" "J" (.long f_held) := F_held.ext E9
  have F26 : Keep h0 h6 [a] := (Keep.refl h0 [a]).ext E9
  have F27 : Old Z n0 h6 := O0.ext E9
  have F28 : Fld Z h6 a13 "java/util/AbstractList" "modCount" "I" (.int (0 : Int32)) := D11 (Or.inl (hw _ (List.mem_of_getElem? (i := 47) rfl))) (ty := .int) (by decide)
  have F29 : Fld Z h6 a13 "java/util/ArrayList" "elementData" "[Ljava/lang/Object;" .null := D11 (Or.inl (hw _ (List.mem_of_getElem? (i := 50) rfl))) (ty := (.array (.object "java/lang/Object"))) (by decide)
  refine own_step (T' := T5) (g' := (mkF m 8 #[.val (.ref a), .val (.ref b), .val (.ref sa)] [(.ref a13), (.ref a)])) st12 ?_
  refine own_step (T' := T5) (g' := (mkF m 9 #[.val (.ref a), .val (.ref b), .val (.ref sa)] [(.ref a13), (.ref a13), (.ref a)])) (fun t_ k_ => XS.dup X7.here hx rfl (hb hby d2_8) rfl rfl k_) ?_
  obtain ⟨_, _, ⟨Tc30, Lc30, kc30, nc30⟩, -, Xc30, ⟨Lcc30, hQc30, lc30, yc30, zc30⟩, stc30⟩ := X7.specialBack hx (y := (⟨"java/util/ArrayList", "<init>", "()V"⟩ : MethodName)) rfl hown (mvT hZ (hw _ (List.mem_of_getElem? (i := 30) rfl))) (mvT hZ (hw _ (List.mem_of_getElem? (i := 31) rfl))) (mvT hZ (hw _ (List.mem_of_getElem? (i := 32) rfl))) (by decide) (backOf (W := 2) (rm_al l Z a0 hw [] a13 dd  (0 : Int32) .null h6 n0 F17 A10 F28 F29 q15 F27 SD) hZ (hw _ (List.mem_of_getElem? (i := 32) rfl)) (hw _ (List.mem_of_getElem? (i := 29) rfl)) (by decide) (by decide)) (g := (mkF m 9 #[.val (.ref a), .val (.ref b), .val (.ref sa)] [(.ref a13), (.ref a13), (.ref a)])) rfl (by rw [hml]; rfl) (Steps.refl _) (a := a13) (argsL := []) (rest := [(.ref a13), (.ref a)]) (lenOf pd_0 rfl) rfl (by show 2 * 0 + _ ≤ _; exact Nat.le_of_eq rfl) (hb hby d2_9) (fun _ _ => ⟨rfl, e8, (by decide : 1 + 0 ≤ _), (by decide : 3 + 0 ≤ _)⟩)
  dsimp only [Pt.U, Pt.locs, Pt.cells, Pt.slots] at Xc30 lc30 yc30 zc30 stc30 hQc30
  subst lc30 yc30 zc30
  have X31 := Xc30.more (cells' := 1) (slots' := 3) (by decide) (by decide)
  obtain ⟨rfl, N32, K33, F34, F35⟩ := hQc30
  have N36 := Fr.app N0 N32
  have F37 : n0 ≤ Tc30.heap.size := Nat.le_trans F17 K33.1
  have F38 : Exa Z Tc30.heap a "com/example/dossier_into_mets/dossierintomets/MemberDivs" := F18.keep K33
  have F39 : Fld Z Tc30.heap a "com/example/dossier_into_mets/dossierintomets/MemberDivs" "types" "Ljava/util/List;" f_types := F19.keep K33 (ninS ne16 nin0)
  have F40 : Fld Z Tc30.heap a "com/example/dossier_into_mets/dossierintomets/MemberDivs" "typeNumbers" "Ljava/util/Map;" f_typeNumbers := F20.keep K33 (ninS ne16 nin0)
  have F41 : Fld Z Tc30.heap a "com/example/dossier_into_mets/dossierintomets/MemberDivs" "divs" "[J" f_divs := F21.keep K33 (ninS ne16 nin0)
  have F42 : Fld Z Tc30.heap a "com/example/dossier_into_mets/dossierintomets/MemberDivs" "budget" "Lcom/example/dossier_into_mets/dossierintomets/CharacterBudget;" f_budget := F22.keep K33 (ninS ne16 nin0)
  have F43 : Fld Z Tc30.heap a "com/example/dossier_into_mets/dossierintomets/MemberDivs" "objectDiv" "Ljava/lang/String;" f_objectDiv := F23.keep K33 (ninS ne16 nin0)
  have F44 : Fld Z Tc30.heap a "com/example/dossier_into_mets/dossierintomets/MemberDivs" "count" "I" (.int f_count) := F24.keep K33 (ninS ne16 nin0)
  have F45 : Fld Z Tc30.heap a "com/example/dossier_into_mets/dossierintomets/MemberDivs" "held" "J" (.long f_held) := F25.keep K33 (ninS ne16 nin0)
  have F46 : Keep h0 Tc30.heap [a] := F26.trans K33 (allS (Or.inr (Nat.le_trans (Keep.refl h0 [a]).1 (Nat.le_of_eq g14.symm))) all0)
  have F47 : Old Z n0 Tc30.heap := F27.keep K33 (allS q15 all0)
  have F48 : Exa Z Tc30.heap a13 "java/util/ArrayList" := A10.keep K33
  obtain ⟨Lo49, X50, N51⟩ : ∃ Lo_, Stand p l e ({ frames := 4, cells := 3, slots := 11, locals := 50 } : Room) s m #[(.ref a), (.ref b), (.ref sa)] below meth c Tc30 Lo_ 1 3 ∧ Fr n0 Lo_ := ⟨_, X31, N36⟩
  refine own_step (T' := Tc30) (g' := (mkF m 12 #[.val (.ref a), .val (.ref b), .val (.ref sa)] [(.ref a13), (.ref a)])) (fun t_ k_ => stc30.trans k_) ?_
  obtain ⟨T52, h53, X54, e55, W56, st57⟩ := putF X50 hx hZ hown (host := "") (Or.inl (hw _ (List.mem_of_getElem? (i := 51) rfl))) Via.refl rfl F39 F38 (Or.inr ⟨(hw _ (List.mem_of_getElem? (i := 52) rfl)), rfl, hnm⟩) (hw _ (List.mem_of_getElem? (i := 13) rfl)) (ty := (.object "java/util/List")) (by decide) rfl rfl (g := (mkF m 12 #[.val (.ref a), .val (.ref b), .val (.ref sa)] [(.ref a13), (.ref a)])) rfl rfl (hb hby d2_12)
  have N58 := Fr.snoc X54 N51 ga
  have F59 : n0 ≤ h53.size := Nat.le_trans F37 (Keep.of_wr W56).1
  have F60 : Exa Z h53 a "com/example/dossier_into_mets/dossierintomets/MemberDivs" := F38.wr W56
  have F61 : Fld Z h53 a "com/example/dossier_into_mets/dossierintomets/MemberDivs" "types" "Ljava/util/List;" (.ref a13) := F39.same W56
  have F62 : Fld Z h53 a "com/example/dossier_into_mets/dossierintomets/MemberDivs" "typeNumbers" "Ljava/util/Map;" f_typeNumbers := F40.other W56 (Or.inr (slot_ne (C := "com/example/dossier_into_mets/dossierintomets/MemberDivs") (Or.inr (hw _ (List.mem_of_getElem? (i := 70) rfl))) (Or.inr (hw _ (List.mem_of_getElem? (i := 52) rfl))) (by decide) (t := (.object "java/util/Map")) (by decide) (t' := (.object "java/util/List")) (by decide)))
  have F63 : Fld Z h53 a "com/example/dossier_into_mets/dossierintomets/MemberDivs" "divs" "[J" f_divs := F41.other W56 (Or.inr (slot_ne (C := "com/example/dossier_into_mets/dossierintomets/MemberDivs") (Or.inl (hw _ (List.mem_of_getElem? (i := 73) rfl))) (Or.inr (hw _ (List.mem_of_getElem? (i := 52) rfl))) (by decide) (t := (.array .long)) (by decide) (t' := (.object "java/util/List")) (by decide)))
  have F64 : Fld Z h53 a "com/example/dossier_into_mets/dossierintomets/MemberDivs" "budget" "Lcom/example/dossier_into_mets/dossierintomets/CharacterBudget;" f_budget := F42.other W56 (Or.inr (slot_ne (C := "com/example/dossier_into_mets/dossierintomets/MemberDivs") (Or.inr (hw _ (List.mem_of_getElem? (i := 75) rfl))) (Or.inr (hw _ (List.mem_of_getElem? (i := 52) rfl))) (by decide) (t := (.object "com/example/dossier_into_mets/dossierintomets/CharacterBudget")) (by decide) (t' := (.object "java/util/List")) (by decide)))
  have F65 : Fld Z h53 a "com/example/dossier_into_mets/dossierintomets/MemberDivs" "objectDiv" "Ljava/lang/String;" f_objectDiv := F43.other W56 (Or.inr (slot_ne (C := "com/example/dossier_into_mets/dossierintomets/MemberDivs") (Or.inr (hw _ (List.mem_of_getElem? (i := 77) rfl))) (Or.inr (hw _ (List.mem_of_getElem? (i := 52) rfl))) (by decide) (t := (.object "java/lang/String")) (by decide) (t' := (.object "java/util/List")) (by decide)))
  have F66 : Fld Z h53 a "com/example/dossier_into_mets/dossierintomets/MemberDivs" "count" "I" (.int f_count) := F44.other W56 (Or.inr (slot_ne (C := "com/example/dossier_into_mets/dossierintomets/MemberDivs") (Or.inl (hw _ (List.mem_of_getElem? (i := 84) rfl))) (Or.inr (hw _ (List.mem_of_getElem? (i := 52) rfl))) (by decide) (t := .int) (by decide) (t' := (.object "java/util/List")) (by decide)))
  have F67 : Fld Z h53 a "com/example/dossier_into_mets/dossierintomets/MemberDivs" "held" "J" (.long f_held) := F45.other W56 (Or.inr (slot_ne (C := "com/example/dossier_into_mets/dossierintomets/MemberDivs") (Or.inl (hw _ (List.mem_of_getElem? (i := 129) rfl))) (Or.inr (hw _ (List.mem_of_getElem? (i := 52) rfl))) (by decide) (t := .long) (by decide) (t' := (.object "java/util/List")) (by decide)))
  have F68 : Keep h0 h53 [a] := F46.wr W56 (Or.inl (List.mem_of_getElem? (i := 0) rfl))
  have F69 : Old Z n0 h53 := F47.wr W56 ga
  have F70 : Exa Z h53 a13 "java/util/ArrayList" := F48.wr W56
  have F71 : Fld Z h53 a13 "java/util/AbstractList" "modCount" "I" (.int (0 : Int32)) := F34.other W56 (Or.inl (Ne.symm ne16))
  have F72 : Fld Z h53 a13 "java/util/ArrayList" "elementData" "[Ljava/lang/Object;" (.ref dd) := F35.other W56 (Or.inl (Ne.symm ne16))
  obtain ⟨Lo73, X74, N75⟩ : ∃ Lo_, Stand p l e ({ frames := 4, cells := 3, slots := 11, locals := 50 } : Room) s m #[(.ref a), (.ref b), (.ref sa)] below meth c T52 Lo_ 1 3 ∧ Fr n0 Lo_ := ⟨_, X54, N58⟩
  refine own_step (T' := T52) (g' := (mkF m 15 #[.val (.ref a), .val (.ref b), .val (.ref sa)] [])) st57 ?_
  refine own_step (T' := T52) (g' := (mkF m 16 #[.val (.ref a), .val (.ref b), .val (.ref sa)] [(.ref a)])) (fun t_ k_ => XS.aloadN X74.here hx rfl (hb hby d2_15) rfl rfl k_) ?_
  obtain ⟨T76, h77, X78, e79, E80, A81, D82, -, st83⟩ := newO X74 hx hZ hown (hw _ (List.mem_of_getElem? (i := 53) rfl)) (hw _ (List.mem_of_getElem? (i := 54) rfl)) (hw _ (List.mem_of_getElem? (i := 55) rfl)) e55 (g := (mkF m 16 #[.val (.ref a), .val (.ref b), .val (.ref sa)] [(.ref a)])) rfl (hb hby d2_16) (by decide) (by decide)
  obtain ⟨a84, g85⟩ : ∃ z, z = h53.size := ⟨_, rfl⟩
  rw [← g85] at A81 D82 st83
  have q86 : n0 ≤ a84 := Nat.le_trans F59 (Nat.le_of_eq g85.symm)
  have ne87 : a ≠ a84 := Nat.ne_of_lt (Nat.lt_of_lt_of_le F60.lt (Nat.le_of_eq g85.symm))
  have F88 : n0 ≤ h77.size := Nat.le_trans F59 E80.1
  have F89 : Exa Z h77 a "com/example/dossier_into_mets/dossierintomets/MemberDivs" := F60.ext E80
  have F90 : Fld Z h77 a "com/example/dossier_into_mets/dossierintomets/MemberDivs" "types" "Ljava/util/List;" (.ref a13) := F61.ext E80
  have F91 : Fld Z h77 a "com/example/dossier_into_mets/dossierintomets/MemberDivs" "typeNumbers" "Ljava/util/Map;" f_typeNumbers := F62.ext E80
  have F92 : Fld Z h77 a "com/example/dossier_into_mets/dossierintomets/MemberDivs" "divs" "[J" f_divs := F63.ext E80
  have F93 : Fld Z h77 a "com/example/dossier_into_mets/dossierintomets/MemberDivs" "budget" "Lcom/example/dossier_into_mets/dossierintomets/CharacterBudget;" f_budget := F64.ext E80
  have F94 : Fld Z h77 a "com/example/dossier_into_mets/dossierintomets/MemberDivs" "objectDiv" "Ljava/lang/String;" f_objectDiv := F65.ext E80
  have F95 : Fld Z h77 a "com/example/dossier_into_mets/dossierintomets/MemberDivs" "count" "I" (.int f_count) := F66.ext E80
  have F96 : Fld Z h77 a "com/example/dossier_into_mets/dossierintomets/MemberDivs" "held" "J" (.long f_held) := F67.ext E80
  have F97 : Keep h0 h77 [a] := F68.ext E80
  have F98 : Old Z n0 h77 := F69.ext E80
  have F99 : Fld Z h77 a84 "java/util/HashMap" "loadFactor" "F" (.float 0) := D82 (Or.inr (hw _ (List.mem_of_getElem? (i := 68) rfl))) (ty := .float) (by decide)
  refine own_step (T' := T76) (g' := (mkF m 19 #[.val (.ref a), .val (.ref b), .val (.ref sa)] [(.ref a84), (.ref a)])) st83 ?_
  refine own_step (T' := T76) (g' := (mkF m 20 #[.val (.ref a), .val (.ref b), .val (.ref sa)] [(.ref a84), (.ref a84), (.ref a)])) (fun t_ k_ => XS.dup X78.here hx rfl (hb hby d2_19) rfl rfl k_) ?_
  obtain ⟨_, _, ⟨Tc100, Lc100, kc100, nc100⟩, -, Xc100, ⟨Lcc100, hQc100, lc100, yc100, zc100⟩, stc100⟩ := X78.specialBack hx (y := (⟨"java/util/HashMap", "<init>", "()V"⟩ : MethodName)) rfl hown (mvT hZ (hw _ (List.mem_of_getElem? (i := 56) rfl))) (mvT hZ (hw _ (List.mem_of_getElem? (i := 57) rfl))) (mvT hZ (hw _ (List.mem_of_getElem? (i := 58) rfl))) (by decide) (backOf (W := 2) (rm_hm l Z a0 hw [] a84  (.float 0) h77 n0 F88 A81 F99 q86) hZ (hw _ (List.mem_of_getElem? (i := 58) rfl)) (hw _ (List.mem_of_getElem? (i := 55) rfl)) (by decide) (by decide)) (g := (mkF m 20 #[.val (.ref a), .val (.ref b), .val (.ref sa)] [(.ref a84), (.ref a84), (.ref a)])) rfl (by rw [hml]; rfl) (Steps.refl _) (a := a84) (argsL := []) (rest := [(.ref a84), (.ref a)]) (lenOf pd_0 rfl) rfl (by show 2 * 0 + _ ≤ _; exact Nat.le_of_eq rfl) (hb hby d2_20) (fun _ _ => ⟨rfl, e79, (by decide : 2 + 0 ≤ _), (by decide : 11 + 0 ≤ _)⟩)
  dsimp only [Pt.U, Pt.locs, Pt.cells, Pt.slots] at Xc100 lc100 yc100 zc100 stc100 hQc100
  subst lc100 yc100 zc100
  have X101 := Xc100.more (cells' := 2) (slots' := 11) (by decide) (by decide)
  obtain ⟨rfl, N102, K103, F104⟩ := hQc100
  have N105 := Fr.app N75 N102
  have F106 : n0 ≤ Tc100.heap.size := Nat.le_trans F88 K103.1
  have F107 : Exa Z Tc100.heap a "com/example/dossier_into_mets/dossierintomets/MemberDivs" := F89.keep K103
  have F108 : Fld Z Tc100.heap a "com/example/dossier_into_mets/dossierintomets/MemberDivs" "types" "Ljava/util/List;" (.ref a13) := F90.keep K103 (ninS ne87 nin0)
  have F109 : Fld Z Tc100.heap a "com/example/dossier_into_mets/dossierintomets/MemberDivs" "typeNumbers" "Ljava/util/Map;" f_typeNumbers := F91.keep K103 (ninS ne87 nin0)
  have F110 : Fld Z Tc100.heap a "com/example/dossier_into_mets/dossierintomets/MemberDivs" "divs" "[J" f_divs := F92.keep K103 (ninS ne87 nin0)
  have F111 : Fld Z Tc100.heap a "com/example/dossier_into_mets/dossierintomets/MemberDivs" "budget" "Lcom/example/dossier_into_mets/dossierintomets/CharacterBudget;" f_budget := F93.keep K103 (ninS ne87 nin0)
  have F112 : Fld Z Tc100.heap a "com/example/dossier_into_mets/dossierintomets/MemberDivs" "objectDiv" "Ljava/lang/String;" f_objectDiv := F94.keep K103 (ninS ne87 nin0)
  have F113 : Fld Z Tc100.heap a "com/example/dossier_into_mets/dossierintomets/MemberDivs" "count" "I" (.int f_count) := F95.keep K103 (ninS ne87 nin0)
  have F114 : Fld Z Tc100.heap a "com/example/dossier_into_mets/dossierintomets/MemberDivs" "held" "J" (.long f_held) := F96.keep K103 (ninS ne87 nin0)
  have F115 : Keep h0 Tc100.heap [a] := F97.trans K103 (allS (Or.inr (Nat.le_trans F68.1 (Nat.le_of_eq g85.symm))) all0)
  have F116 : Old Z n0 Tc100.heap := F98.keep K103 (allS q86 all0)
  have F117 : Exa Z Tc100.heap a84 "java/util/HashMap" := A81.keep K103
  obtain ⟨Lo118, X119, N120⟩ : ∃ Lo_, Stand p l e ({ frames := 4, cells := 3, slots := 11, locals := 50 } : Room) s m #[(.ref a), (.ref b), (.ref sa)] below meth c Tc100 Lo_ 2 11 ∧ Fr n0 Lo_ := ⟨_, X101, N105⟩
  refine own_step (T' := Tc100) (g' := (mkF m 23 #[.val (.ref a), .val (.ref b), .val (.ref sa)] [(.ref a84), (.ref a)])) (fun t_ k_ => stc100.trans k_) ?_
  obtain ⟨T121, h122, X123, e124, W125, st126⟩ := putF X119 hx hZ hown (host := "") (Or.inl (hw _ (List.mem_of_getElem? (i := 69) rfl))) Via.refl rfl F109 F107 (Or.inr ⟨(hw _ (List.mem_of_getElem? (i := 70) rfl)), rfl, hnm⟩) (hw _ (List.mem_of_getElem? (i := 13) rfl)) (ty := (.object "java/util/Map")) (by decide) rfl rfl (g := (mkF m 23 #[.val (.ref a), .val (.ref b), .val (.ref sa)] [(.ref a84), (.ref a)])) rfl rfl (hb hby d2_23)
  have N127 := Fr.snoc X123 N120 ga
  have F128 : n0 ≤ h122.size := Nat.le_trans F106 (Keep.of_wr W125).1
  have F129 : Exa Z h122 a "com/example/dossier_into_mets/dossierintomets/MemberDivs" := F107.wr W125
  have F130 : Fld Z h122 a "com/example/dossier_into_mets/dossierintomets/MemberDivs" "types" "Ljava/util/List;" (.ref a13) := F108.other W125 (Or.inr (slot_ne (C := "com/example/dossier_into_mets/dossierintomets/MemberDivs") (Or.inr (hw _ (List.mem_of_getElem? (i := 52) rfl))) (Or.inr (hw _ (List.mem_of_getElem? (i := 70) rfl))) (by decide) (t := (.object "java/util/List")) (by decide) (t' := (.object "java/util/Map")) (by decide)))
  have F131 : Fld Z h122 a "com/example/dossier_into_mets/dossierintomets/MemberDivs" "typeNumbers" "Ljava/util/Map;" (.ref a84) := F109.same W125
  have F132 : Fld Z h122 a "com/example/dossier_into_mets/dossierintomets/MemberDivs" "divs" "[J" f_divs := F110.other W125 (Or.inr (slot_ne (C := "com/example/dossier_into_mets/dossierintomets/MemberDivs") (Or.inl (hw _ (List.mem_of_getElem? (i := 73) rfl))) (Or.inr (hw _ (List.mem_of_getElem? (i := 70) rfl))) (by decide) (t := (.array .long)) (by decide) (t' := (.object "java/util/Map")) (by decide)))
  have F133 : Fld Z h122 a "com/example/dossier_into_mets/dossierintomets/MemberDivs" "budget" "Lcom/example/dossier_into_mets/dossierintomets/CharacterBudget;" f_budget := F111.other W125 (Or.inr (slot_ne (C := "com/example/dossier_into_mets/dossierintomets/MemberDivs") (Or.inr (hw _ (List.mem_of_getElem? (i := 75) rfl))) (Or.inr (hw _ (List.mem_of_getElem? (i := 70) rfl))) (by decide) (t := (.object "com/example/dossier_into_mets/dossierintomets/CharacterBudget")) (by decide) (t' := (.object "java/util/Map")) (by decide)))
  have F134 : Fld Z h122 a "com/example/dossier_into_mets/dossierintomets/MemberDivs" "objectDiv" "Ljava/lang/String;" f_objectDiv := F112.other W125 (Or.inr (slot_ne (C := "com/example/dossier_into_mets/dossierintomets/MemberDivs") (Or.inr (hw _ (List.mem_of_getElem? (i := 77) rfl))) (Or.inr (hw _ (List.mem_of_getElem? (i := 70) rfl))) (by decide) (t := (.object "java/lang/String")) (by decide) (t' := (.object "java/util/Map")) (by decide)))
  have F135 : Fld Z h122 a "com/example/dossier_into_mets/dossierintomets/MemberDivs" "count" "I" (.int f_count) := F113.other W125 (Or.inr (slot_ne (C := "com/example/dossier_into_mets/dossierintomets/MemberDivs") (Or.inl (hw _ (List.mem_of_getElem? (i := 84) rfl))) (Or.inr (hw _ (List.mem_of_getElem? (i := 70) rfl))) (by decide) (t := .int) (by decide) (t' := (.object "java/util/Map")) (by decide)))
  have F136 : Fld Z h122 a "com/example/dossier_into_mets/dossierintomets/MemberDivs" "held" "J" (.long f_held) := F114.other W125 (Or.inr (slot_ne (C := "com/example/dossier_into_mets/dossierintomets/MemberDivs") (Or.inl (hw _ (List.mem_of_getElem? (i := 129) rfl))) (Or.inr (hw _ (List.mem_of_getElem? (i := 70) rfl))) (by decide) (t := .long) (by decide) (t' := (.object "java/util/Map")) (by decide)))
  have F137 : Keep h0 h122 [a] := F115.wr W125 (Or.inl (List.mem_of_getElem? (i := 0) rfl))
  have F138 : Old Z n0 h122 := F116.wr W125 ga
  have F139 : Exa Z h122 a84 "java/util/HashMap" := F117.wr W125
  have F140 : Fld Z h122 a84 "java/util/HashMap" "loadFactor" "F" (.float (1061158912 : UInt32)) := F104.other W125 (Or.inl (Ne.symm ne87))
  obtain ⟨Lo141, X142, N143⟩ : ∃ Lo_, Stand p l e ({ frames := 4, cells := 3, slots := 11, locals := 50 } : Room) s m #[(.ref a), (.ref b), (.ref sa)] below meth c T121 Lo_ 2 11 ∧ Fr n0 Lo_ := ⟨_, X123, N127⟩
  refine own_step (T' := T121) (g' := (mkF m 26 #[.val (.ref a), .val (.ref b), .val (.ref sa)] [])) st126 ?_
  refine own_step (T' := T121) (g' := (mkF m 27 #[.val (.ref a), .val (.ref b), .val (.ref sa)] [(.ref a)])) (fun t_ k_ => XS.aloadN X142.here hx rfl (hb hby d2_26) rfl rfl k_) ?_
  refine own_step (T' := T121) (g' := (mkF m 28 #[.val (.ref a), .val (.ref b), .val (.ref sa)] [(.int (0 : Int32)), (.ref a)])) (fun t_ k_ => XT.iconstV X142.here hx rfl (0 : Int32) (hb hby d2_27) (by decide) k_) ?_
  obtain ⟨T144, h145, cA146, X147, e148, E149, A150, st151⟩ := newP X142 hx hZ (hw _ (List.mem_of_getElem? (i := 71) rfl)) e124 (g := (mkF m 28 #[.val (.ref a), .val (.ref b), .val (.ref sa)] [(.int (0 : Int32)), (.ref a)])) rfl (hb hby d2_28) rfl (by decide) (cap := 0) (by decide) (by decide) (by decide) (by decide)
  obtain ⟨a152, g153⟩ : ∃ z, z = h122.size := ⟨_, rfl⟩
  rw [← g153] at A150 st151
  have q154 : n0 ≤ a152 := Nat.le_trans F128 (Nat.le_of_eq g153.symm)
  have ne155 : a ≠ a152 := Nat.ne_of_lt (Nat.lt_of_lt_of_le F129.lt (Nat.le_of_eq g153.symm))
  have F156 : n0 ≤ h145.size := Nat.le_trans F128 E149.1
  have F157 : Exa Z h145 a "com/example/dossier_into_mets/dossierintomets/MemberDivs" := F129.ext E149
  have F158 : Fld Z h145 a "com/example/dossier_into_mets/dossierintomets/MemberDivs" "types" "Ljava/util/List;" (.ref a13) := F130.ext E149
  have F159 : Fld Z h145 a "com/example/dossier_into_mets/dossierintomets/MemberDivs" "typeNumbers" "Ljava/util/Map;" (.ref a84) := F131.ext E149
  have F160 : Fld Z h145 a "com/example/dossier_into_mets/dossierintomets/MemberDivs" "divs" "[J" f_divs := F132.ext E149
  have F161 : Fld Z h145 a "com/example/dossier_into_mets/dossierintomets/MemberDivs" "budget" "Lcom/example/dossier_into_mets/dossierintomets/CharacterBudget;" f_budget := F133.ext E149
  have F162 : Fld Z h145 a "com/example/dossier_into_mets/dossierintomets/MemberDivs" "objectDiv" "Ljava/lang/String;" f_objectDiv := F134.ext E149
  have F163 : Fld Z h145 a "com/example/dossier_into_mets/dossierintomets/MemberDivs" "count" "I" (.int f_count) := F135.ext E149
  have F164 : Fld Z h145 a "com/example/dossier_into_mets/dossierintomets/MemberDivs" "held" "J" (.long f_held) := F136.ext E149
  have F165 : Keep h0 h145 [a] := F137.ext E149
  have F166 : Old Z n0 h145 := F138.ext E149
  have V167 : own_Arl Z h145 a152 .long [] := own_Arl.of_new A150 (i := 0) (by decide)
  have V168 : Arv Z h145 a152 cA146 .long (0 : Int32) [] (.long (0 : Int64)) := Arv.new A150 (by decide)
  refine own_step (T' := T144) (g' := (mkF m 30 #[.val (.ref a), .val (.ref b), .val (.ref sa)] [(.ref a152), (.ref a)])) st151 ?_
  obtain ⟨T169, h170, X171, e172, W173, st174⟩ := putF X147 hx hZ hown (host := "") (Or.inl (hw _ (List.mem_of_getElem? (i := 72) rfl))) Via.refl e148 F160 F157 (Or.inl (hw _ (List.mem_of_getElem? (i := 73) rfl))) (hw _ (List.mem_of_getElem? (i := 13) rfl)) (ty := (.array .long)) (by decide) rfl rfl (g := (mkF m 30 #[.val (.ref a), .val (.ref b), .val (.ref sa)] [(.ref a152), (.ref a)])) rfl rfl (hb hby d2_30)
  have N175 := Fr.snoc X171 N143 ga
  have F176 : n0 ≤ h170.size := Nat.le_trans F156 (Keep.of_wr W173).1
  have F177 : Exa Z h170 a "com/example/dossier_into_mets/dossierintomets/MemberDivs" := F157.wr W173
  have F178 : Fld Z h170 a "com/example/dossier_into_mets/dossierintomets/MemberDivs" "types" "Ljava/util/List;" (.ref a13) := F158.other W173 (Or.inr (slot_ne (C := "com/example/dossier_into_mets/dossierintomets/MemberDivs") (Or.inr (hw _ (List.mem_of_getElem? (i := 52) rfl))) (Or.inl (hw _ (List.mem_of_getElem? (i := 73) rfl))) (by decide) (t := (.object "java/util/List")) (by decide) (t' := (.array .long)) (by decide)))
  have F179 : Fld Z h170 a "com/example/dossier_into_mets/dossierintomets/MemberDivs" "typeNumbers" "Ljava/util/Map;" (.ref a84) := F159.other W173 (Or.inr (slot_ne (C := "com/example/dossier_into_mets/dossierintomets/MemberDivs") (Or.inr (hw _ (List.mem_of_getElem? (i := 70) rfl))) (Or.inl (hw _ (List.mem_of_getElem? (i := 73) rfl))) (by decide) (t := (.object "java/util/Map")) (by decide) (t' := (.array .long)) (by decide)))
  have F180 : Fld Z h170 a "com/example/dossier_into_mets/dossierintomets/MemberDivs" "divs" "[J" (.ref a152) := F160.same W173
  have F181 : Fld Z h170 a "com/example/dossier_into_mets/dossierintomets/MemberDivs" "budget" "Lcom/example/dossier_into_mets/dossierintomets/CharacterBudget;" f_budget := F161.other W173 (Or.inr (slot_ne (C := "com/example/dossier_into_mets/dossierintomets/MemberDivs") (Or.inr (hw _ (List.mem_of_getElem? (i := 75) rfl))) (Or.inl (hw _ (List.mem_of_getElem? (i := 73) rfl))) (by decide) (t := (.object "com/example/dossier_into_mets/dossierintomets/CharacterBudget")) (by decide) (t' := (.array .long)) (by decide)))
  have F182 : Fld Z h170 a "com/example/dossier_into_mets/dossierintomets/MemberDivs" "objectDiv" "Ljava/lang/String;" f_objectDiv := F162.other W173 (Or.inr (slot_ne (C := "com/example/dossier_into_mets/dossierintomets/MemberDivs") (Or.inr (hw _ (List.mem_of_getElem? (i := 77) rfl))) (Or.inl (hw _ (List.mem_of_getElem? (i := 73) rfl))) (by decide) (t := (.object "java/lang/String")) (by decide) (t' := (.array .long)) (by decide)))
  have F183 : Fld Z h170 a "com/example/dossier_into_mets/dossierintomets/MemberDivs" "count" "I" (.int f_count) := F163.other W173 (Or.inr (slot_ne (C := "com/example/dossier_into_mets/dossierintomets/MemberDivs") (Or.inl (hw _ (List.mem_of_getElem? (i := 84) rfl))) (Or.inl (hw _ (List.mem_of_getElem? (i := 73) rfl))) (by decide) (t := .int) (by decide) (t' := (.array .long)) (by decide)))
  have F184 : Fld Z h170 a "com/example/dossier_into_mets/dossierintomets/MemberDivs" "held" "J" (.long f_held) := F164.other W173 (Or.inr (slot_ne (C := "com/example/dossier_into_mets/dossierintomets/MemberDivs") (Or.inl (hw _ (List.mem_of_getElem? (i := 129) rfl))) (Or.inl (hw _ (List.mem_of_getElem? (i := 73) rfl))) (by decide) (t := .long) (by decide) (t' := (.array .long)) (by decide)))
  have F185 : Keep h0 h170 [a] := F165.wr W173 (Or.inl (List.mem_of_getElem? (i := 0) rfl))
  have F186 : Old Z n0 h170 := F166.wr W173 ga
  have F187 : own_Arl Z h170 a152 .long [] := V167.other W173 (Ne.symm ne155)
  have F188 : Arv Z h170 a152 cA146 .long (0 : Int32) [] (.long (0 : Int64)) := V168.other W173 (Ne.symm ne155)
  obtain ⟨Lo189, X190, N191⟩ : ∃ Lo_, Stand p l e ({ frames := 4, cells := 3, slots := 11, locals := 50 } : Room) s m #[(.ref a), (.ref b), (.ref sa)] below meth c T169 Lo_ 3 11 ∧ Fr n0 Lo_ := ⟨_, X171, N175⟩
  refine own_step (T' := T169) (g' := (mkF m 33 #[.val (.ref a), .val (.ref b), .val (.ref sa)] [])) st174 ?_
  refine own_step (T' := T169) (g' := (mkF m 34 #[.val (.ref a), .val (.ref b), .val (.ref sa)] [(.ref a)])) (fun t_ k_ => XS.aloadN X190.here hx rfl (hb hby d2_33) rfl rfl k_) ?_
  refine own_step (T' := T169) (g' := (mkF m 35 #[.val (.ref a), .val (.ref b), .val (.ref sa)] [(.ref b), (.ref a)])) (fun t_ k_ => XS.aloadN X190.here hx rfl (hb hby d2_34) rfl rfl k_) ?_
  obtain ⟨T192, h193, X194, e195, W196, st197⟩ := putF X190 hx hZ hown (host := "") (Or.inl (hw _ (List.mem_of_getElem? (i := 74) rfl))) Via.refl e172 F181 F177 (Or.inr ⟨(hw _ (List.mem_of_getElem? (i := 75) rfl)), rfl, hnm⟩) (hw _ (List.mem_of_getElem? (i := 13) rfl)) (ty := (.object "com/example/dossier_into_mets/dossierintomets/CharacterBudget")) (by decide) rfl rfl (g := (mkF m 35 #[.val (.ref a), .val (.ref b), .val (.ref sa)] [(.ref b), (.ref a)])) rfl rfl (hb hby d2_35)
  have N198 := Fr.snoc X194 N191 ga
  have F199 : n0 ≤ h193.size := Nat.le_trans F176 (Keep.of_wr W196).1
  have F200 : Exa Z h193 a "com/example/dossier_into_mets/dossierintomets/MemberDivs" := F177.wr W196
  have F201 : Fld Z h193 a "com/example/dossier_into_mets/dossierintomets/MemberDivs" "types" "Ljava/util/List;" (.ref a13) := F178.other W196 (Or.inr (slot_ne (C := "com/example/dossier_into_mets/dossierintomets/MemberDivs") (Or.inr (hw _ (List.mem_of_getElem? (i := 52) rfl))) (Or.inr (hw _ (List.mem_of_getElem? (i := 75) rfl))) (by decide) (t := (.object "java/util/List")) (by decide) (t' := (.object "com/example/dossier_into_mets/dossierintomets/CharacterBudget")) (by decide)))
  have F202 : Fld Z h193 a "com/example/dossier_into_mets/dossierintomets/MemberDivs" "typeNumbers" "Ljava/util/Map;" (.ref a84) := F179.other W196 (Or.inr (slot_ne (C := "com/example/dossier_into_mets/dossierintomets/MemberDivs") (Or.inr (hw _ (List.mem_of_getElem? (i := 70) rfl))) (Or.inr (hw _ (List.mem_of_getElem? (i := 75) rfl))) (by decide) (t := (.object "java/util/Map")) (by decide) (t' := (.object "com/example/dossier_into_mets/dossierintomets/CharacterBudget")) (by decide)))
  have F203 : Fld Z h193 a "com/example/dossier_into_mets/dossierintomets/MemberDivs" "divs" "[J" (.ref a152) := F180.other W196 (Or.inr (slot_ne (C := "com/example/dossier_into_mets/dossierintomets/MemberDivs") (Or.inl (hw _ (List.mem_of_getElem? (i := 73) rfl))) (Or.inr (hw _ (List.mem_of_getElem? (i := 75) rfl))) (by decide) (t := (.array .long)) (by decide) (t' := (.object "com/example/dossier_into_mets/dossierintomets/CharacterBudget")) (by decide)))
  have F204 : Fld Z h193 a "com/example/dossier_into_mets/dossierintomets/MemberDivs" "budget" "Lcom/example/dossier_into_mets/dossierintomets/CharacterBudget;" (.ref b) := F181.same W196
  have F205 : Fld Z h193 a "com/example/dossier_into_mets/dossierintomets/MemberDivs" "objectDiv" "Ljava/lang/String;" f_objectDiv := F182.other W196 (Or.inr (slot_ne (C := "com/example/dossier_into_mets/dossierintomets/MemberDivs") (Or.inr (hw _ (List.mem_of_getElem? (i := 77) rfl))) (Or.inr (hw _ (List.mem_of_getElem? (i := 75) rfl))) (by decide) (t := (.object "java/lang/String")) (by decide) (t' := (.object "com/example/dossier_into_mets/dossierintomets/CharacterBudget")) (by decide)))
  have F206 : Fld Z h193 a "com/example/dossier_into_mets/dossierintomets/MemberDivs" "count" "I" (.int f_count) := F183.other W196 (Or.inr (slot_ne (C := "com/example/dossier_into_mets/dossierintomets/MemberDivs") (Or.inl (hw _ (List.mem_of_getElem? (i := 84) rfl))) (Or.inr (hw _ (List.mem_of_getElem? (i := 75) rfl))) (by decide) (t := .int) (by decide) (t' := (.object "com/example/dossier_into_mets/dossierintomets/CharacterBudget")) (by decide)))
  have F207 : Fld Z h193 a "com/example/dossier_into_mets/dossierintomets/MemberDivs" "held" "J" (.long f_held) := F184.other W196 (Or.inr (slot_ne (C := "com/example/dossier_into_mets/dossierintomets/MemberDivs") (Or.inl (hw _ (List.mem_of_getElem? (i := 129) rfl))) (Or.inr (hw _ (List.mem_of_getElem? (i := 75) rfl))) (by decide) (t := .long) (by decide) (t' := (.object "com/example/dossier_into_mets/dossierintomets/CharacterBudget")) (by decide)))
  have F208 : Keep h0 h193 [a] := F185.wr W196 (Or.inl (List.mem_of_getElem? (i := 0) rfl))
  have F209 : Old Z n0 h193 := F186.wr W196 ga
  have F210 : own_Arl Z h193 a152 .long [] := F187.other W196 (Ne.symm ne155)
  have F211 : Arv Z h193 a152 cA146 .long (0 : Int32) [] (.long (0 : Int64)) := F188.other W196 (Ne.symm ne155)
  obtain ⟨Lo212, X213, N214⟩ : ∃ Lo_, Stand p l e ({ frames := 4, cells := 3, slots := 11, locals := 50 } : Room) s m #[(.ref a), (.ref b), (.ref sa)] below meth c T192 Lo_ 3 11 ∧ Fr n0 Lo_ := ⟨_, X194, N198⟩
  refine own_step (T' := T192) (g' := (mkF m 38 #[.val (.ref a), .val (.ref b), .val (.ref sa)] [])) st197 ?_
  refine own_step (T' := T192) (g' := (mkF m 39 #[.val (.ref a), .val (.ref b), .val (.ref sa)] [(.ref a)])) (fun t_ k_ => XS.aloadN X213.here hx rfl (hb hby d2_38) rfl rfl k_) ?_
  refine own_step (T' := T192) (g' := (mkF m 40 #[.val (.ref a), .val (.ref b), .val (.ref sa)] [(.ref sa), (.ref a)])) (fun t_ k_ => XS.aloadN X213.here hx rfl (hb hby d2_39) rfl rfl k_) ?_
  obtain ⟨T215, h216, X217, e218, W219, st220⟩ := putF X213 hx hZ hown (host := "") (Or.inl (hw _ (List.mem_of_getElem? (i := 76) rfl))) Via.refl e195 F205 F200 (Or.inr ⟨(hw _ (List.mem_of_getElem? (i := 77) rfl)), rfl, hnm⟩) (hw _ (List.mem_of_getElem? (i := 13) rfl)) (ty := (.object "java/lang/String")) (by decide) rfl rfl (g := (mkF m 40 #[.val (.ref a), .val (.ref b), .val (.ref sa)] [(.ref sa), (.ref a)])) rfl rfl (hb hby d2_40)
  have N221 := Fr.snoc X217 N214 ga
  have F222 : n0 ≤ h216.size := Nat.le_trans F199 (Keep.of_wr W219).1
  have F223 : Exa Z h216 a "com/example/dossier_into_mets/dossierintomets/MemberDivs" := F200.wr W219
  have F224 : Fld Z h216 a "com/example/dossier_into_mets/dossierintomets/MemberDivs" "types" "Ljava/util/List;" (.ref a13) := F201.other W219 (Or.inr (slot_ne (C := "com/example/dossier_into_mets/dossierintomets/MemberDivs") (Or.inr (hw _ (List.mem_of_getElem? (i := 52) rfl))) (Or.inr (hw _ (List.mem_of_getElem? (i := 77) rfl))) (by decide) (t := (.object "java/util/List")) (by decide) (t' := (.object "java/lang/String")) (by decide)))
  have F225 : Fld Z h216 a "com/example/dossier_into_mets/dossierintomets/MemberDivs" "typeNumbers" "Ljava/util/Map;" (.ref a84) := F202.other W219 (Or.inr (slot_ne (C := "com/example/dossier_into_mets/dossierintomets/MemberDivs") (Or.inr (hw _ (List.mem_of_getElem? (i := 70) rfl))) (Or.inr (hw _ (List.mem_of_getElem? (i := 77) rfl))) (by decide) (t := (.object "java/util/Map")) (by decide) (t' := (.object "java/lang/String")) (by decide)))
  have F226 : Fld Z h216 a "com/example/dossier_into_mets/dossierintomets/MemberDivs" "divs" "[J" (.ref a152) := F203.other W219 (Or.inr (slot_ne (C := "com/example/dossier_into_mets/dossierintomets/MemberDivs") (Or.inl (hw _ (List.mem_of_getElem? (i := 73) rfl))) (Or.inr (hw _ (List.mem_of_getElem? (i := 77) rfl))) (by decide) (t := (.array .long)) (by decide) (t' := (.object "java/lang/String")) (by decide)))
  have F227 : Fld Z h216 a "com/example/dossier_into_mets/dossierintomets/MemberDivs" "budget" "Lcom/example/dossier_into_mets/dossierintomets/CharacterBudget;" (.ref b) := F204.other W219 (Or.inr (slot_ne (C := "com/example/dossier_into_mets/dossierintomets/MemberDivs") (Or.inr (hw _ (List.mem_of_getElem? (i := 75) rfl))) (Or.inr (hw _ (List.mem_of_getElem? (i := 77) rfl))) (by decide) (t := (.object "com/example/dossier_into_mets/dossierintomets/CharacterBudget")) (by decide) (t' := (.object "java/lang/String")) (by decide)))
  have F228 : Fld Z h216 a "com/example/dossier_into_mets/dossierintomets/MemberDivs" "objectDiv" "Ljava/lang/String;" (.ref sa) := F205.same W219
  have F229 : Fld Z h216 a "com/example/dossier_into_mets/dossierintomets/MemberDivs" "count" "I" (.int f_count) := F206.other W219 (Or.inr (slot_ne (C := "com/example/dossier_into_mets/dossierintomets/MemberDivs") (Or.inl (hw _ (List.mem_of_getElem? (i := 84) rfl))) (Or.inr (hw _ (List.mem_of_getElem? (i := 77) rfl))) (by decide) (t := .int) (by decide) (t' := (.object "java/lang/String")) (by decide)))
  have F230 : Fld Z h216 a "com/example/dossier_into_mets/dossierintomets/MemberDivs" "held" "J" (.long f_held) := F207.other W219 (Or.inr (slot_ne (C := "com/example/dossier_into_mets/dossierintomets/MemberDivs") (Or.inl (hw _ (List.mem_of_getElem? (i := 129) rfl))) (Or.inr (hw _ (List.mem_of_getElem? (i := 77) rfl))) (by decide) (t := .long) (by decide) (t' := (.object "java/lang/String")) (by decide)))
  have F231 : Keep h0 h216 [a] := F208.wr W219 (Or.inl (List.mem_of_getElem? (i := 0) rfl))
  have F232 : Old Z n0 h216 := F209.wr W219 ga
  have F233 : own_Arl Z h216 a152 .long [] := F210.other W219 (Ne.symm ne155)
  have F234 : Arv Z h216 a152 cA146 .long (0 : Int32) [] (.long (0 : Int64)) := F211.other W219 (Ne.symm ne155)
  obtain ⟨Lo235, X236, N237⟩ : ∃ Lo_, Stand p l e ({ frames := 4, cells := 3, slots := 11, locals := 50 } : Room) s m #[(.ref a), (.ref b), (.ref sa)] below meth c T215 Lo_ 3 11 ∧ Fr n0 Lo_ := ⟨_, X217, N221⟩
  refine own_step (T' := T215) (g' := (mkF m 43 #[.val (.ref a), .val (.ref b), .val (.ref sa)] [])) st220 ?_
  exact own_ret X236 hx hlk Bd.returns (hb hby d2_43) (by rw [e218]; exact ⟨a152, cA146, rfl, N237, F231, (Nat.le_trans F137.1 (Nat.le_of_eq g153.symm)), F226, F227, F229, F230, F234⟩) (by decide) (by decide)
theorem d10_0 : decode jdk_29_method_66_code 0 = .ok (.lload_n 0, 1) := by decide +kernel
theorem d10_1 : decode jdk_29_method_66_code 1 = .ok (.lload_n 2, 1) := by decide +kernel
theorem d10_2 : decode jdk_29_method_66_code 2 = .ok (.lcmp, 1) := by decide +kernel
theorem d10_3 : decode jdk_29_method_66_code 3 = .ok (.ifCond .lt 7, 3) := by decide +kernel
theorem d10_6 : decode jdk_29_method_66_code 6 = .ok (.lload_n 0, 1) := by decide +kernel
theorem d10_7 : decode jdk_29_method_66_code 7 = .ok (.goto 4, 3) := by decide +kernel
theorem d10_10 : decode jdk_29_method_66_code 10 = .ok (.lload_n 2, 1) := by decide +kernel
theorem d10_11 : decode jdk_29_method_66_code 11 = .ok (.lreturn, 1) := by decide +kernel
theorem pn_10 : plainFor (⟨"java/lang/Math", "max", "(JJ)J"⟩ : MethodName) = true := by first | exact plainFor_of_name (by first | (simp [plainName, overriddenIn]; done) | decide +kernel) | decide +kernel
theorem ef_10 (m : MethodId) (x0 : Int64) (x1 : Int64) : entryFrame m #[(.long x0), (.long x1)] 4 = mkF m 0 #[.val (.long x0), .second, .val (.long x1), .second] [] := by first | (simp [entryFrame, mkF, argsToLocals, Value.category]; done) | rfl
def Q_10 (x : Int64) (y : Int64) (h0 : Heap) (n0 : Nat) (v : Option Value) (h : Heap) (L : List Loc) : Prop := v = some (.long (if x < y then y else x)) ∧ Fr n0 L ∧ h = h0
set_option maxRecDepth 65536 in
set_option maxHeartbeats 40000000 in
theorem rm_max (l : Launch) (Z : State) (a0 : Array Value) (hw : ∀ d ∈ tables_1, d.before a0 Z = true) (ws : List Jvm.Cond) (x : Int64) (y : Int64) (h0 : Heap) (n0 : Nat) (Z0 : n0 ≤ h0.size)  :
    MetFree l (⟨"java/lang/Math", "max", "(JJ)J"⟩ : MethodName) (head1 (Jvm.Cond.code (⟨"java/lang/Math", "max", "(JJ)J"⟩ : MethodName) jdk_29_method_66_code 4 (some .long) :: ws) ({ frames := 0, cells := 0, slots := 0, locals := 0 } : Room)) (fun as_ U => as_ = #[(.long x), (.long y)] ∧ Z.Warmed39 U.vm ∧ U.heap = h0) (fun _ _ _ _ _ => True) (fun _ U o U' => ∃ v L, o = .returned v ∧ Q_10 x y h0 n0 v U'.heap L ∧ FrameEnd U o U' L ({ frames := 0, cells := 0, slots := 0, locals := 0 } : Room).cells ({ frames := 0, cells := 0, slots := 0, locals := 0 } : Room).slots) := by
  refine MetFree.of_bodySF pn_10 hisR ?_
  intro p e s m args below meth c s₁ Bd hml0 hP hK
  obtain ⟨rfl, hZ, hh⟩ := hP
  have hx := Bd.exec
  have hby := Bd.bytes
  have hlk := BodyLoose.notSynchronized Bd
  have hml : c.maxLocals = 4 := hml0
  have hown : s.vm.findClass "java/lang/Math" = some m.cls := findClass_of_methodNamed Bd.named
  have hnm := (name_of_methodNamed Bd.named Bd.method).1
  have X0 : Stand p l e ({ frames := 0, cells := 0, slots := 0, locals := 0 } : Room) s m #[(.long x), (.long y)] below meth c s₁ [] 0 0 := Stand.of_body Bd
  have e0 : s₁.heap = h0 := by rw [← hh, Bd.state]; rfl
  have N0 := Fr.nil n0
  refine own_in (ef_10 m x y) ?_
  show own_Fin p e below s (Q_10 x y h0 n0) 0 0 s₁ (mkF m 0 #[.val (.long x), .second, .val (.long y), .second] [])
  refine own_step (T' := s₁) (g' := (mkF m 1 #[.val (.long x), .second, .val (.long y), .second] [(.long x)])) (fun t_ k_ => XT.lloadN X0.here hx rfl (hb hby d10_0) rfl k_) ?_
  refine own_step (T' := s₁) (g' := (mkF m 2 #[.val (.long x), .second, .val (.long y), .second] [(.long y), (.long x)])) (fun t_ k_ => XT.lloadN X0.here hx rfl (hb hby d10_1) rfl k_) ?_
  refine own_step (T' := s₁) (g' := (mkF m 3 #[.val (.long x), .second, .val (.long y), .second] [(.int (XT.cmpL x y))])) (fun t_ k_ => XT.lcmp X0.here hx rfl (hb hby d10_2) rfl k_) ?_
  suffices k2 : ∀ v3 : Int64, v3 = (if x < y then y else x) → own_Fin p e below s (Q_10 x y h0 n0) 0 0 s₁ (mkF m 11 #[.val (.long x), .second, .val (.long y), .second] [(.long v3)]) by
    by_cases hb1 : x < y
    · refine own_step (T' := s₁) (g' := (mkF m 10 #[.val (.long x), .second, .val (.long y), .second] [])) (fun t_ k_ => XS.ifYes X0.here hx rfl (pc0 := 3) (pc' := 10) rfl (hb hby d10_3) rfl (XT.ll_lt_t hb1) (by decide) (by decide) k_) ?_
      refine own_step (T' := s₁) (g' := (mkF m 11 #[.val (.long x), .second, .val (.long y), .second] [(.long y)])) (fun t_ k_ => XT.lloadN X0.here hx rfl (hb hby d10_10) rfl k_) ?_
      exact k2 _ (if_pos hb1).symm
    · refine own_step (T' := s₁) (g' := (mkF m 6 #[.val (.long x), .second, .val (.long y), .second] [])) (fun t_ k_ => XS.ifNo X0.here hx rfl (hb hby d10_3) rfl (XT.ll_lt_f hb1) k_) ?_
      refine own_step (T' := s₁) (g' := (mkF m 7 #[.val (.long x), .second, .val (.long y), .second] [(.long x)])) (fun t_ k_ => XT.lloadN X0.here hx rfl (hb hby d10_6) rfl k_) ?_
      refine own_step (T' := s₁) (g' := (mkF m 11 #[.val (.long x), .second, .val (.long y), .second] [(.long x)])) (fun t_ k_ => XS.goto X0.here hx rfl (pc0 := 7) (pc' := 11) rfl (hb hby d10_7) (by decide) (by decide) k_) ?_
      exact k2 _ (if_neg hb1).symm
  intro v3 hv3
  exact own_retJ X0 hx hlk Bd.returns (hb hby d10_11) (by rw [e0]; exact ⟨by rw [hv3], N0, rfl⟩) (by decide) (by decide)
theorem d11_0 : decode jdk_29_method_70_code 0 = .ok (.lload_n 0, 1) := by decide +kernel
theorem d11_1 : decode jdk_29_method_70_code 1 = .ok (.lload_n 2, 1) := by decide +kernel
theorem d11_2 : decode jdk_29_method_70_code 2 = .ok (.lcmp, 1) := by decide +kernel
theorem d11_3 : decode jdk_29_method_70_code 3 = .ok (.ifCond .gt 7, 3) := by decide +kernel
theorem d11_6 : decode jdk_29_method_70_code 6 = .ok (.lload_n 0, 1) := by decide +kernel
theorem d11_7 : decode jdk_29_method_70_code 7 = .ok (.goto 4, 3) := by decide +kernel
theorem d11_10 : decode jdk_29_method_70_code 10 = .ok (.lload_n 2, 1) := by decide +kernel
theorem d11_11 : decode jdk_29_method_70_code 11 = .ok (.lreturn, 1) := by decide +kernel
theorem pn_11 : plainFor (⟨"java/lang/Math", "min", "(JJ)J"⟩ : MethodName) = true := by first | exact plainFor_of_name (by first | (simp [plainName, overriddenIn]; done) | decide +kernel) | decide +kernel
theorem ef_11 (m : MethodId) (x0 : Int64) (x1 : Int64) : entryFrame m #[(.long x0), (.long x1)] 4 = mkF m 0 #[.val (.long x0), .second, .val (.long x1), .second] [] := by first | (simp [entryFrame, mkF, argsToLocals, Value.category]; done) | rfl
def Q_11 (x : Int64) (y : Int64) (h0 : Heap) (n0 : Nat) (v : Option Value) (h : Heap) (L : List Loc) : Prop := v = some (.long (if y < x then y else x)) ∧ Fr n0 L ∧ h = h0
set_option maxRecDepth 65536 in
set_option maxHeartbeats 40000000 in
theorem rm_minj (l : Launch) (Z : State) (a0 : Array Value) (hw : ∀ d ∈ tables_1, d.before a0 Z = true) (ws : List Jvm.Cond) (x : Int64) (y : Int64) (h0 : Heap) (n0 : Nat) (Z0 : n0 ≤ h0.size)  :
    MetFree l (⟨"java/lang/Math", "min", "(JJ)J"⟩ : MethodName) (head1 (Jvm.Cond.code (⟨"java/lang/Math", "min", "(JJ)J"⟩ : MethodName) jdk_29_method_70_code 4 (some .long) :: ws) ({ frames := 0, cells := 0, slots := 0, locals := 0 } : Room)) (fun as_ U => as_ = #[(.long x), (.long y)] ∧ Z.Warmed39 U.vm ∧ U.heap = h0) (fun _ _ _ _ _ => True) (fun _ U o U' => ∃ v L, o = .returned v ∧ Q_11 x y h0 n0 v U'.heap L ∧ FrameEnd U o U' L ({ frames := 0, cells := 0, slots := 0, locals := 0 } : Room).cells ({ frames := 0, cells := 0, slots := 0, locals := 0 } : Room).slots) := by
  refine MetFree.of_bodySF pn_11 hisR ?_
  intro p e s m args below meth c s₁ Bd hml0 hP hK
  obtain ⟨rfl, hZ, hh⟩ := hP
  have hx := Bd.exec
  have hby := Bd.bytes
  have hlk := BodyLoose.notSynchronized Bd
  have hml : c.maxLocals = 4 := hml0
  have hown : s.vm.findClass "java/lang/Math" = some m.cls := findClass_of_methodNamed Bd.named
  have hnm := (name_of_methodNamed Bd.named Bd.method).1
  have X0 : Stand p l e ({ frames := 0, cells := 0, slots := 0, locals := 0 } : Room) s m #[(.long x), (.long y)] below meth c s₁ [] 0 0 := Stand.of_body Bd
  have e0 : s₁.heap = h0 := by rw [← hh, Bd.state]; rfl
  have N0 := Fr.nil n0
  refine own_in (ef_11 m x y) ?_
  show own_Fin p e below s (Q_11 x y h0 n0) 0 0 s₁ (mkF m 0 #[.val (.long x), .second, .val (.long y), .second] [])
  refine own_step (T' := s₁) (g' := (mkF m 1 #[.val (.long x), .second, .val (.long y), .second] [(.long x)])) (fun t_ k_ => XT.lloadN X0.here hx rfl (hb hby d11_0) rfl k_) ?_
  refine own_step (T' := s₁) (g' := (mkF m 2 #[.val (.long x), .second, .val (.long y), .second] [(.long y), (.long x)])) (fun t_ k_ => XT.lloadN X0.here hx rfl (hb hby d11_1) rfl k_) ?_
  refine own_step (T' := s₁) (g' := (mkF m 3 #[.val (.long x), .second, .val (.long y), .second] [(.int (XT.cmpL x y))])) (fun t_ k_ => XT.lcmp X0.here hx rfl (hb hby d11_2) rfl k_) ?_
  suffices k2 : ∀ v3 : Int64, v3 = (if y < x then y else x) → own_Fin p e below s (Q_11 x y h0 n0) 0 0 s₁ (mkF m 11 #[.val (.long x), .second, .val (.long y), .second] [(.long v3)]) by
    by_cases hb1 : y < x
    · refine own_step (T' := s₁) (g' := (mkF m 10 #[.val (.long x), .second, .val (.long y), .second] [])) (fun t_ k_ => XS.ifYes X0.here hx rfl (pc0 := 3) (pc' := 10) rfl (hb hby d11_3) rfl (XT.ll_gt_t hb1) (by decide) (by decide) k_) ?_
      refine own_step (T' := s₁) (g' := (mkF m 11 #[.val (.long x), .second, .val (.long y), .second] [(.long y)])) (fun t_ k_ => XT.lloadN X0.here hx rfl (hb hby d11_10) rfl k_) ?_
      exact k2 _ (if_pos hb1).symm
    · refine own_step (T' := s₁) (g' := (mkF m 6 #[.val (.long x), .second, .val (.long y), .second] [])) (fun t_ k_ => XS.ifNo X0.here hx rfl (hb hby d11_3) rfl (XT.ll_gt_f hb1) k_) ?_
      refine own_step (T' := s₁) (g' := (mkF m 7 #[.val (.long x), .second, .val (.long y), .second] [(.long x)])) (fun t_ k_ => XT.lloadN X0.here hx rfl (hb hby d11_6) rfl k_) ?_
      refine own_step (T' := s₁) (g' := (mkF m 11 #[.val (.long x), .second, .val (.long y), .second] [(.long x)])) (fun t_ k_ => XS.goto X0.here hx rfl (pc0 := 7) (pc' := 11) rfl (hb hby d11_7) (by decide) (by decide) k_) ?_
      exact k2 _ (if_neg hb1).symm
  intro v3 hv3
  exact own_retJ X0 hx hlk Bd.returns (hb hby d11_11) (by rw [e0]; exact ⟨by rw [hv3], N0, rfl⟩) (by decide) (by decide)
theorem d16_0 : decode jdk_29_method_69_code 0 = .ok (.iload_n 0, 1) := by decide +kernel
theorem d16_1 : decode jdk_29_method_69_code 1 = .ok (.iload_n 1, 1) := by decide +kernel
theorem d16_2 : decode jdk_29_method_69_code 2 = .ok (.if_icmp .gt 7, 3) := by decide +kernel
theorem d16_5 : decode jdk_29_method_69_code 5 = .ok (.iload_n 0, 1) := by decide +kernel
theorem d16_6 : decode jdk_29_method_69_code 6 = .ok (.goto 4, 3) := by decide +kernel
theorem d16_9 : decode jdk_29_method_69_code 9 = .ok (.iload_n 1, 1) := by decide +kernel
theorem d16_10 : decode jdk_29_method_69_code 10 = .ok (.ireturn, 1) := by decide +kernel
theorem pn_16 : plainFor (⟨"java/lang/Math", "min", "(II)I"⟩ : MethodName) = true := by first | exact plainFor_of_name (by first | (simp [plainName, overriddenIn]; done) | decide +kernel) | decide +kernel
theorem ef_16 (m : MethodId) (x0 : Int32) (x1 : Int32) : entryFrame m #[(.int x0), (.int x1)] 2 = mkF m 0 #[.val (.int x0), .val (.int x1)] [] := by first | (simp [entryFrame, mkF, argsToLocals, Value.category]; done) | rfl
def Q_16 (x : Int32) (y : Int32) (h0 : Heap) (n0 : Nat) (v : Option Value) (h : Heap) (L : List Loc) : Prop := v = some (.int (if y < x then y else x)) ∧ Fr n0 L ∧ h = h0
set_option maxRecDepth 65536 in
set_option maxHeartbeats 40000000 in
theorem rm_min (l : Launch) (Z : State) (a0 : Array Value) (hw : ∀ d ∈ tables_1, d.before a0 Z = true) (ws : List Jvm.Cond) (x : Int32) (y : Int32) (h0 : Heap) (n0 : Nat) (Z0 : n0 ≤ h0.size)  :
    MetFree l (⟨"java/lang/Math", "min", "(II)I"⟩ : MethodName) (head1 (Jvm.Cond.code (⟨"java/lang/Math", "min", "(II)I"⟩ : MethodName) jdk_29_method_69_code 2 (some .int) :: ws) ({ frames := 0, cells := 0, slots := 0, locals := 0 } : Room)) (fun as_ U => as_ = #[(.int x), (.int y)] ∧ Z.Warmed39 U.vm ∧ U.heap = h0) (fun _ _ _ _ _ => True) (fun _ U o U' => ∃ v L, o = .returned v ∧ Q_16 x y h0 n0 v U'.heap L ∧ FrameEnd U o U' L ({ frames := 0, cells := 0, slots := 0, locals := 0 } : Room).cells ({ frames := 0, cells := 0, slots := 0, locals := 0 } : Room).slots) := by
  refine MetFree.of_bodySF pn_16 hisR ?_
  intro p e s m args below meth c s₁ Bd hml0 hP hK
  obtain ⟨rfl, hZ, hh⟩ := hP
  have hx := Bd.exec
  have hby := Bd.bytes
  have hlk := BodyLoose.notSynchronized Bd
  have hml : c.maxLocals = 2 := hml0
  have hown : s.vm.findClass "java/lang/Math" = some m.cls := findClass_of_methodNamed Bd.named
  have hnm := (name_of_methodNamed Bd.named Bd.method).1
  have X0 : Stand p l e ({ frames := 0, cells := 0, slots := 0, locals := 0 } : Room) s m #[(.int x), (.int y)] below meth c s₁ [] 0 0 := Stand.of_body Bd
  have e0 : s₁.heap = h0 := by rw [← hh, Bd.state]; rfl
  have N0 := Fr.nil n0
  refine own_in (ef_16 m x y) ?_
  show own_Fin p e below s (Q_16 x y h0 n0) 0 0 s₁ (mkF m 0 #[.val (.int x), .val (.int y)] [])
  refine own_step (T' := s₁) (g' := (mkF m 1 #[.val (.int x), .val (.int y)] [(.int x)])) (fun t_ k_ => XS.iloadN X0.here hx rfl (hb hby d16_0) rfl k_) ?_
  refine own_step (T' := s₁) (g' := (mkF m 2 #[.val (.int x), .val (.int y)] [(.int y), (.int x)])) (fun t_ k_ => XS.iloadN X0.here hx rfl (hb hby d16_1) rfl k_) ?_
  suffices k2 : ∀ v3 : Int32, v3 = (if y < x then y else x) → own_Fin p e below s (Q_16 x y h0 n0) 0 0 s₁ (mkF m 10 #[.val (.int x), .val (.int y)] [(.int v3)]) by
    by_cases hb1 : y < x
    · refine own_step (T' := s₁) (g' := (mkF m 9 #[.val (.int x), .val (.int y)] [])) (fun t_ k_ => XS.icmpYes X0.here hx rfl (pc0 := 2) (pc' := 9) rfl (hb hby d16_2) rfl (XT.ii_gt_t hb1) (by decide) (by decide) k_) ?_
      refine own_step (T' := s₁) (g' := (mkF m 10 #[.val (.int x), .val (.int y)] [(.int y)])) (fun t_ k_ => XS.iloadN X0.here hx rfl (hb hby d16_9) rfl k_) ?_
      exact k2 _ (if_pos hb1).symm
    · refine own_step (T' := s₁) (g' := (mkF m 5 #[.val (.int x), .val (.int y)] [])) (fun t_ k_ => XS.icmpNo X0.here hx rfl (hb hby d16_2) rfl (XT.ii_gt_f hb1) k_) ?_
      refine own_step (T' := s₁) (g' := (mkF m 6 #[.val (.int x), .val (.int y)] [(.int x)])) (fun t_ k_ => XS.iloadN X0.here hx rfl (hb hby d16_5) rfl k_) ?_
      refine own_step (T' := s₁) (g' := (mkF m 10 #[.val (.int x), .val (.int y)] [(.int x)])) (fun t_ k_ => XS.goto X0.here hx rfl (pc0 := 6) (pc' := 10) rfl (hb hby d16_6) (by decide) (by decide) k_) ?_
      exact k2 _ (if_neg hb1).symm
  intro v3 hv3
  exact own_retI X0 hx hlk Bd.returns (hb hby d16_10) (by rw [e0]; exact ⟨by rw [hv3], N0, rfl⟩) (by decide) (by decide)
theorem d13_0 : decode prog_35_method_4_code 0 = .ok (.lload_n 0, 1) := by decide +kernel
theorem d13_1 : decode prog_35_method_4_code 1 = .ok (.ldc2_w 29, 3) := by decide +kernel
theorem d13_4 : decode prog_35_method_4_code 4 = .ok (.ladd, 1) := by decide +kernel
theorem d13_5 : decode prog_35_method_4_code 5 = .ok (.ldc2_w 31, 3) := by decide +kernel
theorem d13_8 : decode prog_35_method_4_code 8 = .ok (.land, 1) := by decide +kernel
theorem d13_9 : decode prog_35_method_4_code 9 = .ok (.lreturn, 1) := by decide +kernel
theorem pn_13 : plainFor (⟨"com/example/dossier_into_mets/dossierintomets/Held", "roundedUp", "(J)J"⟩ : MethodName) = true := by first | exact plainFor_of_name (by first | (simp [plainName, overriddenIn]; done) | decide +kernel) | decide +kernel
theorem ef_13 (m : MethodId) (x0 : Int64) : entryFrame m #[(.long x0)] 2 = mkF m 0 #[.val (.long x0), .second] [] := by first | (simp [entryFrame, mkF, argsToLocals, Value.category]; done) | rfl
def Q_13 (x : Int64) (h0 : Heap) (n0 : Nat) (v : Option Value) (h : Heap) (L : List Loc) : Prop := v = some (.long ((x + (7 : Int64)) &&& (-8 : Int64))) ∧ Fr n0 L ∧ h = h0
set_option maxRecDepth 65536 in
set_option maxHeartbeats 40000000 in
theorem rm_ru (l : Launch) (Z : State) (a0 : Array Value) (hw : ∀ d ∈ tables_1, d.before a0 Z = true) (ws : List Jvm.Cond) (x : Int64) (h0 : Heap) (n0 : Nat) (Z0 : n0 ≤ h0.size)  :
    MetFree l (⟨"com/example/dossier_into_mets/dossierintomets/Held", "roundedUp", "(J)J"⟩ : MethodName) (head1 (Jvm.Cond.code (⟨"com/example/dossier_into_mets/dossierintomets/Held", "roundedUp", "(J)J"⟩ : MethodName) prog_35_method_4_code 2 (some .long) :: ws) ({ frames := 0, cells := 0, slots := 0, locals := 0 } : Room)) (fun as_ U => as_ = #[(.long x)] ∧ Z.Warmed39 U.vm ∧ U.heap = h0) (fun _ _ _ _ _ => True) (fun _ U o U' => ∃ v L, o = .returned v ∧ Q_13 x h0 n0 v U'.heap L ∧ FrameEnd U o U' L ({ frames := 0, cells := 0, slots := 0, locals := 0 } : Room).cells ({ frames := 0, cells := 0, slots := 0, locals := 0 } : Room).slots) := by
  refine MetFree.of_bodySF pn_13 hisR ?_
  intro p e s m args below meth c s₁ Bd hml0 hP hK
  obtain ⟨rfl, hZ, hh⟩ := hP
  have hx := Bd.exec
  have hby := Bd.bytes
  have hlk := BodyLoose.notSynchronized Bd
  have hml : c.maxLocals = 2 := hml0
  have hown : s.vm.findClass "com/example/dossier_into_mets/dossierintomets/Held" = some m.cls := findClass_of_methodNamed Bd.named
  have hnm := (name_of_methodNamed Bd.named Bd.method).1
  have X0 : Stand p l e ({ frames := 0, cells := 0, slots := 0, locals := 0 } : Room) s m #[(.long x)] below meth c s₁ [] 0 0 := Stand.of_body Bd
  have e0 : s₁.heap = h0 := by rw [← hh, Bd.state]; rfl
  have N0 := Fr.nil n0
  refine own_in (ef_13 m x) ?_
  show own_Fin p e below s (Q_13 x h0 n0) 0 0 s₁ (mkF m 0 #[.val (.long x), .second] [])
  refine own_step (T' := s₁) (g' := (mkF m 1 #[.val (.long x), .second] [(.long x)])) (fun t_ k_ => XT.lloadN X0.here hx rfl (hb hby d13_0) rfl k_) ?_
  refine own_step (T' := s₁) (g' := (mkF m 4 #[.val (.long x), .second] [(.long (7 : Int64)), (.long x)])) (fun t_ k_ => X0.ldc2J hx hown (mvT hZ (hw _ (List.mem_of_getElem? (i := 108) rfl))) rfl (hb hby d13_1) k_) ?_
  refine own_step (T' := s₁) (g' := (mkF m 5 #[.val (.long x), .second] [(.long (x + (7 : Int64)))])) (fun t_ k_ => XT.ladd X0.here hx rfl (hb hby d13_4) rfl k_) ?_
  refine own_step (T' := s₁) (g' := (mkF m 8 #[.val (.long x), .second] [(.long (-8 : Int64)), (.long (x + (7 : Int64)))])) (fun t_ k_ => X0.ldc2J hx hown (mvT hZ (hw _ (List.mem_of_getElem? (i := 109) rfl))) rfl (hb hby d13_5) k_) ?_
  refine own_step (T' := s₁) (g' := (mkF m 9 #[.val (.long x), .second] [(.long ((x + (7 : Int64)) &&& (-8 : Int64)))])) (fun t_ k_ => XT.land X0.here hx rfl (hb hby d13_8) rfl k_) ?_
  exact own_retJ X0 hx hlk Bd.returns (hb hby d13_9) (by rw [e0]; exact ⟨rfl, N0, rfl⟩) (by decide) (by decide)
theorem d12_0 : decode prog_35_method_3_code 0 = .ok (.ldc2_w 27, 3) := by decide +kernel
theorem d12_3 : decode prog_35_method_3_code 3 = .ok (.lload_n 0, 1) := by decide +kernel
theorem d12_4 : decode prog_35_method_3_code 4 = .ok (.invokestatic 23, 3) := by decide +kernel
theorem d12_7 : decode prog_35_method_3_code 7 = .ok (.ladd, 1) := by decide +kernel
theorem d12_8 : decode prog_35_method_3_code 8 = .ok (.lreturn, 1) := by decide +kernel
theorem pn_12 : plainFor (⟨"com/example/dossier_into_mets/dossierintomets/Held", "ofBytes", "(J)J"⟩ : MethodName) = true := by first | exact plainFor_of_name (by first | (simp [plainName, overriddenIn]; done) | decide +kernel) | decide +kernel
theorem ef_12 (m : MethodId) (x0 : Int64) : entryFrame m #[(.long x0)] 2 = mkF m 0 #[.val (.long x0), .second] [] := by first | (simp [entryFrame, mkF, argsToLocals, Value.category]; done) | rfl
def Q_12 (x : Int64) (h0 : Heap) (n0 : Nat) (v : Option Value) (h : Heap) (L : List Loc) : Prop := v = some (.long ((16 : Int64) + ((x + (7 : Int64)) &&& (-8 : Int64)))) ∧ Fr n0 L ∧ h = h0
set_option maxRecDepth 65536 in
set_option maxHeartbeats 40000000 in
theorem rm_ob (l : Launch) (Z : State) (a0 : Array Value) (hw : ∀ d ∈ tables_1, d.before a0 Z = true) (ws : List Jvm.Cond) (x : Int64) (h0 : Heap) (n0 : Nat) (Z0 : n0 ≤ h0.size)  :
    MetFree l (⟨"com/example/dossier_into_mets/dossierintomets/Held", "ofBytes", "(J)J"⟩ : MethodName) (head1 (Jvm.Cond.code (⟨"com/example/dossier_into_mets/dossierintomets/Held", "ofBytes", "(J)J"⟩ : MethodName) prog_35_method_3_code 2 (some .long) :: ws) ({ frames := 1, cells := 0, slots := 0, locals := 15 } : Room)) (fun as_ U => as_ = #[(.long x)] ∧ Z.Warmed39 U.vm ∧ U.heap = h0) (fun _ _ _ _ _ => True) (fun _ U o U' => ∃ v L, o = .returned v ∧ Q_12 x h0 n0 v U'.heap L ∧ FrameEnd U o U' L ({ frames := 1, cells := 0, slots := 0, locals := 15 } : Room).cells ({ frames := 1, cells := 0, slots := 0, locals := 15 } : Room).slots) := by
  refine MetFree.of_bodySF pn_12 hisR ?_
  intro p e s m args below meth c s₁ Bd hml0 hP hK
  obtain ⟨rfl, hZ, hh⟩ := hP
  have hx := Bd.exec
  have hby := Bd.bytes
  have hlk := BodyLoose.notSynchronized Bd
  have hml : c.maxLocals = 2 := hml0
  have hown : s.vm.findClass "com/example/dossier_into_mets/dossierintomets/Held" = some m.cls := findClass_of_methodNamed Bd.named
  have hnm := (name_of_methodNamed Bd.named Bd.method).1
  have X0 : Stand p l e ({ frames := 1, cells := 0, slots := 0, locals := 15 } : Room) s m #[(.long x)] below meth c s₁ [] 0 0 := Stand.of_body Bd
  have e0 : s₁.heap = h0 := by rw [← hh, Bd.state]; rfl
  have N0 := Fr.nil n0
  refine own_in (ef_12 m x) ?_
  show own_Fin p e below s (Q_12 x h0 n0) 0 0 s₁ (mkF m 0 #[.val (.long x), .second] [])
  refine own_step (T' := s₁) (g' := (mkF m 3 #[.val (.long x), .second] [(.long (16 : Int64))])) (fun t_ k_ => X0.ldc2J hx hown (mvT hZ (hw _ (List.mem_of_getElem? (i := 104) rfl))) rfl (hb hby d12_0) k_) ?_
  refine own_step (T' := s₁) (g' := (mkF m 4 #[.val (.long x), .second] [(.long x), (.long (16 : Int64))])) (fun t_ k_ => XT.lloadN X0.here hx rfl (hb hby d12_3) rfl k_) ?_
  obtain ⟨_, _, ⟨Tc1, Lc1, kc1, nc1⟩, -, Xc1, ⟨Lcc1, hQc1, lc1, yc1, zc1⟩, stc1⟩ := Jvm.LawKit.callS X0 hx (y := (⟨"com/example/dossier_into_mets/dossierintomets/Held", "roundedUp", "(J)J"⟩ : MethodName)) hown (mvT hZ (hw _ (List.mem_of_getElem? (i := 105) rfl))) (mvT hZ (hw _ (List.mem_of_getElem? (i := 106) rfl))) (mvT hZ (hw _ (List.mem_of_getElem? (i := 102) rfl))) (mvT hZ (hw _ (List.mem_of_getElem? (i := 107) rfl))) (by decide) (backOf (W := 2) (rm_ru l Z a0 hw [] x h0 n0 Z0) hZ (hw _ (List.mem_of_getElem? (i := 107) rfl)) (hw _ (List.mem_of_getElem? (i := 102) rfl)) (by decide) (by decide)) (g := (mkF m 4 #[.val (.long x), .second] [(.long x), (.long (16 : Int64))])) rfl (by rw [hml]; rfl) (argsL := [(.long x)]) (rest := [(.long (16 : Int64))]) (lenOf pd_1 rfl) rfl (by show 2 * 0 + _ ≤ _; exact Nat.le_of_eq rfl) (hb hby d12_4) (fun _ _ => ⟨rfl, e0, (by decide : 0 + 0 ≤ _), (by decide : 0 + 0 ≤ _)⟩)
  dsimp only [Pt.U, Pt.locs, Pt.cells, Pt.slots] at Xc1 lc1 yc1 zc1 stc1 hQc1
  subst lc1 yc1 zc1
  have X2 := Xc1.more (cells' := 0) (slots' := 0) (by decide) (by decide)
  obtain ⟨rfl, N3, e4⟩ := hQc1
  have N5 := Fr.app N0 N3
  obtain ⟨Lo6, X7, N8⟩ : ∃ Lo_, Stand p l e ({ frames := 1, cells := 0, slots := 0, locals := 15 } : Room) s m #[(.long x)] below meth c Tc1 Lo_ 0 0 ∧ Fr n0 Lo_ := ⟨_, X2, N5⟩
  refine own_step (T' := Tc1) (g' := (mkF m 7 #[.val (.long x), .second] [(.long ((x + (7 : Int64)) &&& (-8 : Int64))), (.long (16 : Int64))])) stc1 ?_
  refine own_step (T' := Tc1) (g' := (mkF m 8 #[.val (.long x), .second] [(.long ((16 : Int64) + ((x + (7 : Int64)) &&& (-8 : Int64))))])) (fun t_ k_ => XT.ladd X7.here hx rfl (hb hby d12_7) rfl k_) ?_
  exact own_retJ X7 hx hlk Bd.returns (hb hby d12_8) (by rw [e4]; exact ⟨rfl, N8, rfl⟩) (by decide) (by decide)
theorem d14_0 : decode prog_7_method_4_code 0 = .ok (.lload_n 1, 1) := by decide +kernel
theorem d14_1 : decode prog_7_method_4_code 1 = .ok (.aload_n 0, 1) := by decide +kernel
theorem d14_2 : decode prog_7_method_4_code 2 = .ok (.getfield 9, 3) := by decide +kernel
theorem d14_5 : decode prog_7_method_4_code 5 = .ok (.aload_n 0, 1) := by decide +kernel
theorem d14_6 : decode prog_7_method_4_code 6 = .ok (.getfield 26, 3) := by decide +kernel
theorem d14_9 : decode prog_7_method_4_code 9 = .ok (.lsub, 1) := by decide +kernel
theorem d14_10 : decode prog_7_method_4_code 10 = .ok (.lcmp, 1) := by decide +kernel
theorem d14_11 : decode prog_7_method_4_code 11 = .ok (.ifCond .le 5, 3) := by decide +kernel
theorem d14_14 : decode prog_7_method_4_code 14 = .ok (.iconst 0, 1) := by decide +kernel
theorem d14_15 : decode prog_7_method_4_code 15 = .ok (.ireturn, 1) := by decide +kernel
theorem d14_16 : decode prog_7_method_4_code 16 = .ok (.aload_n 0, 1) := by decide +kernel
theorem d14_17 : decode prog_7_method_4_code 17 = .ok (.dup, 1) := by decide +kernel
theorem d14_18 : decode prog_7_method_4_code 18 = .ok (.getfield 26, 3) := by decide +kernel
theorem d14_21 : decode prog_7_method_4_code 21 = .ok (.lload_n 1, 1) := by decide +kernel
theorem d14_22 : decode prog_7_method_4_code 22 = .ok (.ladd, 1) := by decide +kernel
theorem d14_23 : decode prog_7_method_4_code 23 = .ok (.putfield 26, 3) := by decide +kernel
theorem d14_26 : decode prog_7_method_4_code 26 = .ok (.iconst 1, 1) := by decide +kernel
theorem d14_27 : decode prog_7_method_4_code 27 = .ok (.ireturn, 1) := by decide +kernel
theorem pn_14 : plainFor (⟨"com/example/dossier_into_mets/dossierintomets/CharacterBudget", "spendExactly", "(J)Z"⟩ : MethodName) = true := by first | exact plainFor_of_name (by first | (simp [plainName, overriddenIn]; done) | decide +kernel) | decide +kernel
theorem ef_14 (m : MethodId) (x0 : Addr) (x1 : Int64) : entryFrame m #[(.ref x0), (.long x1)] 3 = mkF m 0 #[.val (.ref x0), .val (.long x1), .second] [] := by first | (simp [entryFrame, mkF, argsToLocals, Value.category]; done) | rfl
def Q_14 (Z : State) (a : Addr) (x : Int64) (f_limit : Int64) (f_spent : Int64) (h0 : Heap) (n0 : Nat) (v : Option Value) (h : Heap) (L : List Loc) : Prop := v = some (.int (if (f_limit - f_spent) < x then (0 : Int32) else (1 : Int32))) ∧ Fr n0 L ∧ Keep h0 h [a] ∧ Fld Z h a "com/example/dossier_into_mets/dossierintomets/CharacterBudget" "limit" "J" (.long f_limit) ∧ Fld Z h a "com/example/dossier_into_mets/dossierintomets/CharacterBudget" "spent" "J" (.long (if (f_limit - f_spent) < x then f_spent else (f_spent + x)))
set_option maxRecDepth 65536 in
set_option maxHeartbeats 40000000 in
theorem rm_spend (l : Launch) (Z : State) (a0 : Array Value) (hw : ∀ d ∈ tables_1, d.before a0 Z = true) (ws : List Jvm.Cond) (a : Addr) (x : Int64) (f_limit : Int64) (f_spent : Int64) (h0 : Heap) (n0 : Nat) (Z0 : n0 ≤ h0.size) (E_a : Exa Z h0 a "com/example/dossier_into_mets/dossierintomets/CharacterBudget") (F_limit : Fld Z h0 a "com/example/dossier_into_mets/dossierintomets/CharacterBudget" "limit" "J" (.long f_limit)) (F_spent : Fld Z h0 a "com/example/dossier_into_mets/dossierintomets/CharacterBudget" "spent" "J" (.long f_spent)) (ga : n0 ≤ a) :
    MetFree l (⟨"com/example/dossier_into_mets/dossierintomets/CharacterBudget", "spendExactly", "(J)Z"⟩ : MethodName) (head1 (Jvm.Cond.code (⟨"com/example/dossier_into_mets/dossierintomets/CharacterBudget", "spendExactly", "(J)Z"⟩ : MethodName) prog_7_method_4_code 3 (some .boolean) :: ws) ({ frames := 0, cells := 0, slots := 0, locals := 0 } : Room)) (fun as_ U => as_ = #[(.ref a), (.long x)] ∧ Z.Warmed39 U.vm ∧ U.heap = h0) (fun _ _ _ _ _ => True) (fun _ U o U' => ∃ v L, o = .returned v ∧ Q_14 Z a x f_limit f_spent h0 n0 v U'.heap L ∧ FrameEnd U o U' L ({ frames := 0, cells := 0, slots := 0, locals := 0 } : Room).cells ({ frames := 0, cells := 0, slots := 0, locals := 0 } : Room).slots) := by
  refine MetFree.of_bodySF pn_14 hisR ?_
  intro p e s m args below meth c s₁ Bd hml0 hP hK
  obtain ⟨rfl, hZ, hh⟩ := hP
  have hx := Bd.exec
  have hby := Bd.bytes
  have hlk := BodyLoose.notSynchronized Bd
  have hml : c.maxLocals = 3 := hml0
  have hown : s.vm.findClass "com/example/dossier_into_mets/dossierintomets/CharacterBudget" = some m.cls := findClass_of_methodNamed Bd.named
  have hnm := (name_of_methodNamed Bd.named Bd.method).1
  have X0 : Stand p l e ({ frames := 0, cells := 0, slots := 0, locals := 0 } : Room) s m #[(.ref a), (.long x)] below meth c s₁ [] 0 0 := Stand.of_body Bd
  have e0 : s₁.heap = h0 := by rw [← hh, Bd.state]; rfl
  have N0 := Fr.nil n0
  refine own_in (ef_14 m a x) ?_
  show own_Fin p e below s (Q_14 Z a x f_limit f_spent h0 n0) 0 0 s₁ (mkF m 0 #[.val (.ref a), .val (.long x), .second] [])
  refine own_step (T' := s₁) (g' := (mkF m 1 #[.val (.ref a), .val (.long x), .second] [(.long x)])) (fun t_ k_ => XT.lloadN X0.here hx rfl (hb hby d14_0) rfl k_) ?_
  refine own_step (T' := s₁) (g' := (mkF m 2 #[.val (.ref a), .val (.long x), .second] [(.ref a), (.long x)])) (fun t_ k_ => XS.aloadN X0.here hx rfl (hb hby d14_1) rfl rfl k_) ?_
  obtain ⟨T1, X2, e3, st4⟩ := getF X0 hx hZ hown (host := "") (Or.inl (hw _ (List.mem_of_getElem? (i := 10) rfl))) Via.refl e0 F_limit (g := (mkF m 2 #[.val (.ref a), .val (.long x), .second] [(.ref a), (.long x)])) rfl rfl (hb hby d14_2)
  refine own_step (T' := T1) (g' := (mkF m 5 #[.val (.ref a), .val (.long x), .second] [(.long f_limit), (.long x)])) st4 ?_
  refine own_step (T' := T1) (g' := (mkF m 6 #[.val (.ref a), .val (.long x), .second] [(.ref a), (.long f_limit), (.long x)])) (fun t_ k_ => XS.aloadN X2.here hx rfl (hb hby d14_5) rfl rfl k_) ?_
  obtain ⟨T5, X6, e7, st8⟩ := getF X2 hx hZ hown (host := "") (Or.inl (hw _ (List.mem_of_getElem? (i := 115) rfl))) Via.refl e3 F_spent (g := (mkF m 6 #[.val (.ref a), .val (.long x), .second] [(.ref a), (.long f_limit), (.long x)])) rfl rfl (hb hby d14_6)
  refine own_step (T' := T5) (g' := (mkF m 9 #[.val (.ref a), .val (.long x), .second] [(.long f_spent), (.long f_limit), (.long x)])) st8 ?_
  refine own_step (T' := T5) (g' := (mkF m 10 #[.val (.ref a), .val (.long x), .second] [(.long (f_limit - f_spent)), (.long x)])) (fun t_ k_ => XT.lsub X6.here hx rfl (hb hby d14_9) rfl k_) ?_
  refine own_step (T' := T5) (g' := (mkF m 11 #[.val (.ref a), .val (.long x), .second] [(.int (XT.cmpL x (f_limit - f_spent)))])) (fun t_ k_ => XT.lcmp X6.here hx rfl (hb hby d14_10) rfl k_) ?_
  by_cases hb9 : (f_limit - f_spent) < x
  · refine own_step (T' := T5) (g' := (mkF m 14 #[.val (.ref a), .val (.long x), .second] [])) (fun t_ k_ => XS.ifNo X6.here hx rfl (hb hby d14_11) rfl (XT.ll_le_f hb9) k_) ?_
    refine own_step (T' := T5) (g' := (mkF m 15 #[.val (.ref a), .val (.long x), .second] [(.int (0 : Int32))])) (fun t_ k_ => XT.iconstV X6.here hx rfl (0 : Int32) (hb hby d14_14) (by decide) k_) ?_
    exact own_retN X6 hx hlk (t := .boolean) Bd.returns (by simp) (hb hby d14_15) (by rw [e7]; exact ⟨by rw [if_pos hb9] <;> rfl, N0, (Keep.refl h0 [a]), F_limit, by rw [if_pos hb9]; exact F_spent⟩) (by decide) (by decide)
  · refine own_step (T' := T5) (g' := (mkF m 16 #[.val (.ref a), .val (.long x), .second] [])) (fun t_ k_ => XS.ifYes X6.here hx rfl (pc0 := 11) (pc' := 16) rfl (hb hby d14_11) rfl (XT.ll_le_t hb9) (by decide) (by decide) k_) ?_
    refine own_step (T' := T5) (g' := (mkF m 17 #[.val (.ref a), .val (.long x), .second] [(.ref a)])) (fun t_ k_ => XS.aloadN X6.here hx rfl (hb hby d14_16) rfl rfl k_) ?_
    refine own_step (T' := T5) (g' := (mkF m 18 #[.val (.ref a), .val (.long x), .second] [(.ref a), (.ref a)])) (fun t_ k_ => XS.dup X6.here hx rfl (hb hby d14_17) rfl rfl k_) ?_
    obtain ⟨T10, X11, e12, st13⟩ := getF X6 hx hZ hown (host := "") (Or.inl (hw _ (List.mem_of_getElem? (i := 115) rfl))) Via.refl e7 F_spent (g := (mkF m 18 #[.val (.ref a), .val (.long x), .second] [(.ref a), (.ref a)])) rfl rfl (hb hby d14_18)
    refine own_step (T' := T10) (g' := (mkF m 21 #[.val (.ref a), .val (.long x), .second] [(.long f_spent), (.ref a)])) st13 ?_
    refine own_step (T' := T10) (g' := (mkF m 22 #[.val (.ref a), .val (.long x), .second] [(.long x), (.long f_spent), (.ref a)])) (fun t_ k_ => XT.lloadN X11.here hx rfl (hb hby d14_21) rfl k_) ?_
    refine own_step (T' := T10) (g' := (mkF m 23 #[.val (.ref a), .val (.long x), .second] [(.long (f_spent + x)), (.ref a)])) (fun t_ k_ => XT.ladd X11.here hx rfl (hb hby d14_22) rfl k_) ?_
    obtain ⟨T14, h15, X16, e17, W18, st19⟩ := putF X11 hx hZ hown (host := "") (Or.inl (hw _ (List.mem_of_getElem? (i := 115) rfl))) Via.refl e12 F_spent E_a (Or.inl (hw _ (List.mem_of_getElem? (i := 116) rfl))) (hw _ (List.mem_of_getElem? (i := 1) rfl)) (ty := .long) (by decide) rfl rfl (g := (mkF m 23 #[.val (.ref a), .val (.long x), .second] [(.long (f_spent + x)), (.ref a)])) rfl rfl (hb hby d14_23)
    have N20 := Fr.snoc X16 N0 ga
    have F21 : n0 ≤ h15.size := Nat.le_trans Z0 (Keep.of_wr W18).1
    have F22 : Exa Z h15 a "com/example/dossier_into_mets/dossierintomets/CharacterBudget" := E_a.wr W18
    have F23 : Fld Z h15 a "com/example/dossier_into_mets/dossierintomets/CharacterBudget" "limit" "J" (.long f_limit) := F_limit.other W18 (Or.inr (slot_ne (C := "com/example/dossier_into_mets/dossierintomets/CharacterBudget") (Or.inr (hw _ (List.mem_of_getElem? (i := 11) rfl))) (Or.inl (hw _ (List.mem_of_getElem? (i := 116) rfl))) (by decide) (t := .long) (by decide) (t' := .long) (by decide)))
    have F24 : Fld Z h15 a "com/example/dossier_into_mets/dossierintomets/CharacterBudget" "spent" "J" (.long (f_spent + x)) := F_spent.same W18
    have F25 : Keep h0 h15 [a] := (Keep.refl h0 [a]).wr W18 (Or.inl (List.mem_of_getElem? (i := 0) rfl))
    obtain ⟨Lo26, X27, N28⟩ : ∃ Lo_, Stand p l e ({ frames := 0, cells := 0, slots := 0, locals := 0 } : Room) s m #[(.ref a), (.long x)] below meth c T14 Lo_ 0 0 ∧ Fr n0 Lo_ := ⟨_, X16, N20⟩
    refine own_step (T' := T14) (g' := (mkF m 26 #[.val (.ref a), .val (.long x), .second] [])) st19 ?_
    refine own_step (T' := T14) (g' := (mkF m 27 #[.val (.ref a), .val (.long x), .second] [(.int (1 : Int32))])) (fun t_ k_ => XT.iconstV X27.here hx rfl (1 : Int32) (hb hby d14_26) (by decide) k_) ?_
    exact own_retN X27 hx hlk (t := .boolean) Bd.returns (by simp) (hb hby d14_27) (by rw [e17]; exact ⟨by rw [if_neg hb9] <;> rfl, N28, F25, F23, by rw [if_neg hb9]; exact F24⟩) (by decide) (by decide)
theorem d17_0 : decode prog_7_method_5_code 0 = .ok (.aload_n 0, 1) := by decide +kernel
theorem d17_1 : decode prog_7_method_5_code 1 = .ok (.dup, 1) := by decide +kernel
theorem d17_2 : decode prog_7_method_5_code 2 = .ok (.getfield 26, 3) := by decide +kernel
theorem d17_5 : decode prog_7_method_5_code 5 = .ok (.lload_n 1, 1) := by decide +kernel
theorem d17_6 : decode prog_7_method_5_code 6 = .ok (.lsub, 1) := by decide +kernel
theorem d17_7 : decode prog_7_method_5_code 7 = .ok (.putfield 26, 3) := by decide +kernel
theorem d17_10 : decode prog_7_method_5_code 10 = .ok (.return_, 1) := by decide +kernel
theorem pn_17 : plainFor (⟨"com/example/dossier_into_mets/dossierintomets/CharacterBudget", "releaseExactly", "(J)V"⟩ : MethodName) = true := by first | exact plainFor_of_name (by first | (simp [plainName, overriddenIn]; done) | decide +kernel) | decide +kernel
theorem ef_17 (m : MethodId) (x0 : Addr) (x1 : Int64) : entryFrame m #[(.ref x0), (.long x1)] 3 = mkF m 0 #[.val (.ref x0), .val (.long x1), .second] [] := by first | (simp [entryFrame, mkF, argsToLocals, Value.category]; done) | rfl
def Q_17 (Z : State) (a : Addr) (x : Int64) (f_limit : Int64) (f_spent : Int64) (h0 : Heap) (n0 : Nat) (v : Option Value) (h : Heap) (L : List Loc) : Prop := v = none ∧ Fr n0 L ∧ Keep h0 h [a] ∧ Fld Z h a "com/example/dossier_into_mets/dossierintomets/CharacterBudget" "limit" "J" (.long f_limit) ∧ Fld Z h a "com/example/dossier_into_mets/dossierintomets/CharacterBudget" "spent" "J" (.long (f_spent - x))
set_option maxRecDepth 65536 in
set_option maxHeartbeats 40000000 in
theorem rm_rel (l : Launch) (Z : State) (a0 : Array Value) (hw : ∀ d ∈ tables_1, d.before a0 Z = true) (ws : List Jvm.Cond) (a : Addr) (x : Int64) (f_limit : Int64) (f_spent : Int64) (h0 : Heap) (n0 : Nat) (Z0 : n0 ≤ h0.size) (E_a : Exa Z h0 a "com/example/dossier_into_mets/dossierintomets/CharacterBudget") (F_limit : Fld Z h0 a "com/example/dossier_into_mets/dossierintomets/CharacterBudget" "limit" "J" (.long f_limit)) (F_spent : Fld Z h0 a "com/example/dossier_into_mets/dossierintomets/CharacterBudget" "spent" "J" (.long f_spent)) (ga : n0 ≤ a) :
    MetFree l (⟨"com/example/dossier_into_mets/dossierintomets/CharacterBudget", "releaseExactly", "(J)V"⟩ : MethodName) (head1 (Jvm.Cond.code (⟨"com/example/dossier_into_mets/dossierintomets/CharacterBudget", "releaseExactly", "(J)V"⟩ : MethodName) prog_7_method_5_code 3 none :: ws) ({ frames := 0, cells := 0, slots := 0, locals := 0 } : Room)) (fun as_ U => as_ = #[(.ref a), (.long x)] ∧ Z.Warmed39 U.vm ∧ U.heap = h0) (fun _ _ _ _ _ => True) (fun _ U o U' => ∃ v L, o = .returned v ∧ Q_17 Z a x f_limit f_spent h0 n0 v U'.heap L ∧ FrameEnd U o U' L ({ frames := 0, cells := 0, slots := 0, locals := 0 } : Room).cells ({ frames := 0, cells := 0, slots := 0, locals := 0 } : Room).slots) := by
  refine MetFree.of_bodySF pn_17 hisR ?_
  intro p e s m args below meth c s₁ Bd hml0 hP hK
  obtain ⟨rfl, hZ, hh⟩ := hP
  have hx := Bd.exec
  have hby := Bd.bytes
  have hlk := BodyLoose.notSynchronized Bd
  have hml : c.maxLocals = 3 := hml0
  have hown : s.vm.findClass "com/example/dossier_into_mets/dossierintomets/CharacterBudget" = some m.cls := findClass_of_methodNamed Bd.named
  have hnm := (name_of_methodNamed Bd.named Bd.method).1
  have X0 : Stand p l e ({ frames := 0, cells := 0, slots := 0, locals := 0 } : Room) s m #[(.ref a), (.long x)] below meth c s₁ [] 0 0 := Stand.of_body Bd
  have e0 : s₁.heap = h0 := by rw [← hh, Bd.state]; rfl
  have N0 := Fr.nil n0
  refine own_in (ef_17 m a x) ?_
  show own_Fin p e below s (Q_17 Z a x f_limit f_spent h0 n0) 0 0 s₁ (mkF m 0 #[.val (.ref a), .val (.long x), .second] [])
  refine own_step (T' := s₁) (g' := (mkF m 1 #[.val (.ref a), .val (.long x), .second] [(.ref a)])) (fun t_ k_ => XS.aloadN X0.here hx rfl (hb hby d17_0) rfl rfl k_) ?_
  refine own_step (T' := s₁) (g' := (mkF m 2 #[.val (.ref a), .val (.long x), .second] [(.ref a), (.ref a)])) (fun t_ k_ => XS.dup X0.here hx rfl (hb hby d17_1) rfl rfl k_) ?_
  obtain ⟨T1, X2, e3, st4⟩ := getF X0 hx hZ hown (host := "") (Or.inl (hw _ (List.mem_of_getElem? (i := 115) rfl))) Via.refl e0 F_spent (g := (mkF m 2 #[.val (.ref a), .val (.long x), .second] [(.ref a), (.ref a)])) rfl rfl (hb hby d17_2)
  refine own_step (T' := T1) (g' := (mkF m 5 #[.val (.ref a), .val (.long x), .second] [(.long f_spent), (.ref a)])) st4 ?_
  refine own_step (T' := T1) (g' := (mkF m 6 #[.val (.ref a), .val (.long x), .second] [(.long x), (.long f_spent), (.ref a)])) (fun t_ k_ => XT.lloadN X2.here hx rfl (hb hby d17_5) rfl k_) ?_
  refine own_step (T' := T1) (g' := (mkF m 7 #[.val (.ref a), .val (.long x), .second] [(.long (f_spent - x)), (.ref a)])) (fun t_ k_ => XT.lsub X2.here hx rfl (hb hby d17_6) rfl k_) ?_
  obtain ⟨T5, h6, X7, e8, W9, st10⟩ := putF X2 hx hZ hown (host := "") (Or.inl (hw _ (List.mem_of_getElem? (i := 115) rfl))) Via.refl e3 F_spent E_a (Or.inl (hw _ (List.mem_of_getElem? (i := 116) rfl))) (hw _ (List.mem_of_getElem? (i := 1) rfl)) (ty := .long) (by decide) rfl rfl (g := (mkF m 7 #[.val (.ref a), .val (.long x), .second] [(.long (f_spent - x)), (.ref a)])) rfl rfl (hb hby d17_7)
  have N11 := Fr.snoc X7 N0 ga
  have F12 : n0 ≤ h6.size := Nat.le_trans Z0 (Keep.of_wr W9).1
  have F13 : Exa Z h6 a "com/example/dossier_into_mets/dossierintomets/CharacterBudget" := E_a.wr W9
  have F14 : Fld Z h6 a "com/example/dossier_into_mets/dossierintomets/CharacterBudget" "limit" "J" (.long f_limit) := F_limit.other W9 (Or.inr (slot_ne (C := "com/example/dossier_into_mets/dossierintomets/CharacterBudget") (Or.inr (hw _ (List.mem_of_getElem? (i := 11) rfl))) (Or.inl (hw _ (List.mem_of_getElem? (i := 116) rfl))) (by decide) (t := .long) (by decide) (t' := .long) (by decide)))
  have F15 : Fld Z h6 a "com/example/dossier_into_mets/dossierintomets/CharacterBudget" "spent" "J" (.long (f_spent - x)) := F_spent.same W9
  have F16 : Keep h0 h6 [a] := (Keep.refl h0 [a]).wr W9 (Or.inl (List.mem_of_getElem? (i := 0) rfl))
  obtain ⟨Lo17, X18, N19⟩ : ∃ Lo_, Stand p l e ({ frames := 0, cells := 0, slots := 0, locals := 0 } : Room) s m #[(.ref a), (.long x)] below meth c T5 Lo_ 0 0 ∧ Fr n0 Lo_ := ⟨_, X7, N11⟩
  refine own_step (T' := T5) (g' := (mkF m 10 #[.val (.ref a), .val (.long x), .second] [])) st10 ?_
  exact own_ret X18 hx hlk Bd.returns (hb hby d17_10) (by rw [e8]; exact ⟨rfl, N19, F16, F14, F15⟩) (by decide) (by decide)
theorem d15_0 : decode jdk_65_method_124_code 0 = .ok (.iload_n 1, 1) := by decide +kernel
theorem d15_1 : decode jdk_65_method_124_code 1 = .ok (.aload_n 0, 1) := by decide +kernel
theorem d15_2 : decode jdk_65_method_124_code 2 = .ok (.arraylength, 1) := by decide +kernel
theorem d15_3 : decode jdk_65_method_124_code 3 = .ok (.if_icmp .ne 11, 3) := by decide +kernel
theorem d15_6 : decode jdk_65_method_124_code 6 = .ok (.aload_n 0, 1) := by decide +kernel
theorem d15_7 : decode jdk_65_method_124_code 7 = .ok (.invokevirtual 319, 3) := by decide +kernel
theorem d15_10 : decode jdk_65_method_124_code 10 = .ok (.checkcast 320, 3) := by decide +kernel
theorem d15_13 : decode jdk_65_method_124_code 13 = .ok (.areturn, 1) := by decide +kernel
theorem d15_14 : decode jdk_65_method_124_code 14 = .ok (.iload_n 1, 1) := by decide +kernel
theorem d15_15 : decode jdk_65_method_124_code 15 = .ok (.newarray .long, 2) := by decide +kernel
theorem d15_17 : decode jdk_65_method_124_code 17 = .ok (.astore_n 2, 1) := by decide +kernel
theorem d15_18 : decode jdk_65_method_124_code 18 = .ok (.aload_n 0, 1) := by decide +kernel
theorem d15_19 : decode jdk_65_method_124_code 19 = .ok (.iconst 0, 1) := by decide +kernel
theorem d15_20 : decode jdk_65_method_124_code 20 = .ok (.aload_n 2, 1) := by decide +kernel
theorem d15_21 : decode jdk_65_method_124_code 21 = .ok (.iconst 0, 1) := by decide +kernel
theorem d15_22 : decode jdk_65_method_124_code 22 = .ok (.aload_n 0, 1) := by decide +kernel
theorem d15_23 : decode jdk_65_method_124_code 23 = .ok (.arraylength, 1) := by decide +kernel
theorem d15_24 : decode jdk_65_method_124_code 24 = .ok (.iload_n 1, 1) := by decide +kernel
theorem d15_25 : decode jdk_65_method_124_code 25 = .ok (.invokestatic 304, 3) := by decide +kernel
theorem d15_28 : decode jdk_65_method_124_code 28 = .ok (.invokestatic 150, 3) := by decide +kernel
theorem d15_31 : decode jdk_65_method_124_code 31 = .ok (.aload_n 2, 1) := by decide +kernel
theorem d15_32 : decode jdk_65_method_124_code 32 = .ok (.areturn, 1) := by decide +kernel
theorem pn_15 : plainFor (⟨"java/util/Arrays", "copyOf", "([JI)[J"⟩ : MethodName) = true := by first | exact plainFor_of_name (by first | (simp [plainName, overriddenIn]; done) | decide +kernel) | decide +kernel
theorem ef_15 (m : MethodId) (x0 : Addr) (x1 : Int32) : entryFrame m #[(.ref x0), (.int x1)] 3 = mkF m 0 #[.val (.ref x0), .val (.int x1), .unset] [] := by first | (simp [entryFrame, mkF, argsToLocals, Value.category]; done) | rfl
def Q_15 (Z : State) (h0 : Heap) (n0 : Nat) (v : Option Value) (h : Heap) (L : List Loc) : Prop := ∃ r : Addr, v = some (.ref r) ∧ Fr n0 L ∧ Keep h0 h [] ∧ h0.size ≤ r ∧ own_Arl Z h r .long [(.long (0 : Int64)), (.long (0 : Int64)), (.long (0 : Int64)), (.long (0 : Int64)), (.long (0 : Int64)), (.long (0 : Int64)), (.long (0 : Int64)), (.long (0 : Int64))]
set_option maxRecDepth 65536 in
set_option maxHeartbeats 40000000 in
theorem rm_cp (l : Launch) (Z : State) (a0 : Array Value) (hw : ∀ d ∈ tables_1, d.before a0 Z = true) (ws : List Jvm.Cond) (a : Addr) (kA : ClassId) (h0 : Heap) (n0 : Nat) (Z0 : n0 ≤ h0.size) (V0 : Arv Z h0 a kA .long (0 : Int32) [] (.long (0 : Int64))) :
    MetFree l (⟨"java/util/Arrays", "copyOf", "([JI)[J"⟩ : MethodName) (head1 (Jvm.Cond.code (⟨"java/util/Arrays", "copyOf", "([JI)[J"⟩ : MethodName) jdk_65_method_124_code 3 (some (.array .long)) :: ws) ({ frames := 1, cells := 1, slots := 8, locals := 40 } : Room)) (fun as_ U => as_ = #[(.ref a), (.int (8 : Int32))] ∧ Z.Warmed39 U.vm ∧ U.heap = h0) (fun _ _ _ _ _ => True) (fun _ U o U' => ∃ v L, o = .returned v ∧ Q_15 Z h0 n0 v U'.heap L ∧ FrameEnd U o U' L ({ frames := 1, cells := 1, slots := 8, locals := 40 } : Room).cells ({ frames := 1, cells := 1, slots := 8, locals := 40 } : Room).slots) := by
  refine MetFree.of_bodySF pn_15 hisR ?_
  intro p e s m args below meth c s₁ Bd hml0 hP hK
  obtain ⟨rfl, hZ, hh⟩ := hP
  have hx := Bd.exec
  have hby := Bd.bytes
  have hlk := BodyLoose.notSynchronized Bd
  have hml : c.maxLocals = 3 := hml0
  have hown : s.vm.findClass "java/util/Arrays" = some m.cls := findClass_of_methodNamed Bd.named
  have hnm := (name_of_methodNamed Bd.named Bd.method).1
  have X0 : Stand p l e ({ frames := 1, cells := 1, slots := 8, locals := 40 } : Room) s m #[(.ref a), (.int (8 : Int32))] below meth c s₁ [] 0 0 := Stand.of_body Bd
  have e0 : s₁.heap = h0 := by rw [← hh, Bd.state]; rfl
  have N0 := Fr.nil n0
  refine own_in (ef_15 m a (8 : Int32)) ?_
  show own_Fin p e below s (Q_15 Z h0 n0) 1 8 s₁ (mkF m 0 #[.val (.ref a), .val (.int (8 : Int32)), .unset] [])
  refine own_step (T' := s₁) (g' := (mkF m 1 #[.val (.ref a), .val (.int (8 : Int32)), .unset] [(.int (8 : Int32))])) (fun t_ k_ => XS.iloadN X0.here hx rfl (hb hby d15_0) rfl k_) ?_
  refine own_step (T' := s₁) (g' := (mkF m 2 #[.val (.ref a), .val (.int (8 : Int32)), .unset] [(.ref a), (.int (8 : Int32))])) (fun t_ k_ => XS.aloadN X0.here hx rfl (hb hby d15_1) rfl rfl k_) ?_
  have st1 := own_alen (g := (mkF m 2 #[.val (.ref a), .val (.int (8 : Int32)), .unset] [(.ref a), (.int (8 : Int32))])) X0 hx hZ e0 (own_arl V0 (by decide)) (n := (0 : Int32)) (i := 0) rfl (by decide) rfl rfl (hb hby d15_2)
  refine own_step (T' := s₁) (g' := (mkF m 3 #[.val (.ref a), .val (.int (8 : Int32)), .unset] [(.int (0 : Int32)), (.int (8 : Int32))])) st1 ?_
  have hk2 : ¬ ((8 : Int32) = (0 : Int32)) := (by decide)
  refine own_step (T' := s₁) (g' := (mkF m 14 #[.val (.ref a), .val (.int (8 : Int32)), .unset] [])) (fun t_ k_ => XS.icmpYes X0.here hx rfl (pc0 := 3) (pc' := 14) rfl (hb hby d15_3) rfl (XT.ii_ne_t hk2) (by decide) (by decide) k_) ?_
  refine own_step (T' := s₁) (g' := (mkF m 15 #[.val (.ref a), .val (.int (8 : Int32)), .unset] [(.int (8 : Int32))])) (fun t_ k_ => XS.iloadN X0.here hx rfl (hb hby d15_14) rfl k_) ?_
  obtain ⟨T3, h4, cA5, X6, e7, E8, A9, st10⟩ := newP X0 hx hZ (hw _ (List.mem_of_getElem? (i := 71) rfl)) e0 (g := (mkF m 15 #[.val (.ref a), .val (.int (8 : Int32)), .unset] [(.int (8 : Int32))])) rfl (hb hby d15_15) rfl (by decide) (cap := 8) (by decide) (by decide) (by decide) (by decide)
  obtain ⟨a11, g12⟩ : ∃ z, z = h0.size := ⟨_, rfl⟩
  rw [← g12] at A9 st10
  have q13 : n0 ≤ a11 := Nat.le_trans Z0 (Nat.le_of_eq g12.symm)
  have ne14 : a ≠ a11 := Nat.ne_of_lt (Nat.lt_of_lt_of_le V0.lt (Nat.le_of_eq g12.symm))
  have F15 : n0 ≤ h4.size := Nat.le_trans Z0 E8.1
  have F16 : Arv Z h4 a kA .long (0 : Int32) [] (.long (0 : Int64)) := V0.ext E8
  have F17 : own_Arl Z h4 a .long [] := (own_arl V0 (by decide)).ext E8
  have F18 : Keep h0 h4 [] := (Keep.refl h0 []).ext E8
  have V19 : own_Arl Z h4 a11 .long [(.long (0 : Int64)), (.long (0 : Int64)), (.long (0 : Int64)), (.long (0 : Int64)), (.long (0 : Int64)), (.long (0 : Int64)), (.long (0 : Int64)), (.long (0 : Int64))] := own_Arl.of_new A9 (i := 8) (by decide)
  have V20 : Arv Z h4 a11 cA5 .long (8 : Int32) [] (.long (0 : Int64)) := Arv.new A9 (by decide)
  refine own_step (T' := T3) (g' := (mkF m 17 #[.val (.ref a), .val (.int (8 : Int32)), .unset] [(.ref a11)])) st10 ?_
  refine own_step (T' := T3) (g' := (mkF m 18 #[.val (.ref a), .val (.int (8 : Int32)), .val (.ref a11)] [])) (fun t_ k_ => XS.astoreN X6.here hx rfl (hb hby d15_17) rfl rfl (l' := #[.val (.ref a), .val (.int (8 : Int32)), .val (.ref a11)]) rfl k_) ?_
  refine own_step (T' := T3) (g' := (mkF m 19 #[.val (.ref a), .val (.int (8 : Int32)), .val (.ref a11)] [(.ref a)])) (fun t_ k_ => XS.aloadN X6.here hx rfl (hb hby d15_18) rfl rfl k_) ?_
  refine own_step (T' := T3) (g' := (mkF m 20 #[.val (.ref a), .val (.int (8 : Int32)), .val (.ref a11)] [(.int (0 : Int32)), (.ref a)])) (fun t_ k_ => XT.iconstV X6.here hx rfl (0 : Int32) (hb hby d15_19) (by decide) k_) ?_
  refine own_step (T' := T3) (g' := (mkF m 21 #[.val (.ref a), .val (.int (8 : Int32)), .val (.ref a11)] [(.ref a11), (.int (0 : Int32)), (.ref a)])) (fun t_ k_ => XS.aloadN X6.here hx rfl (hb hby d15_20) rfl rfl k_) ?_
  refine own_step (T' := T3) (g' := (mkF m 22 #[.val (.ref a), .val (.int (8 : Int32)), .val (.ref a11)] [(.int (0 : Int32)), (.ref a11), (.int (0 : Int32)), (.ref a)])) (fun t_ k_ => XT.iconstV X6.here hx rfl (0 : Int32) (hb hby d15_21) (by decide) k_) ?_
  refine own_step (T' := T3) (g' := (mkF m 23 #[.val (.ref a), .val (.int (8 : Int32)), .val (.ref a11)] [(.ref a), (.int (0 : Int32)), (.ref a11), (.int (0 : Int32)), (.ref a)])) (fun t_ k_ => XS.aloadN X6.here hx rfl (hb hby d15_22) rfl rfl k_) ?_
  have st21 := own_alen (g := (mkF m 23 #[.val (.ref a), .val (.int (8 : Int32)), .val (.ref a11)] [(.ref a), (.int (0 : Int32)), (.ref a11), (.int (0 : Int32)), (.ref a)])) X6 hx hZ e7 F17 (n := (0 : Int32)) (i := 0) rfl (by decide) rfl rfl (hb hby d15_23)
  refine own_step (T' := T3) (g' := (mkF m 24 #[.val (.ref a), .val (.int (8 : Int32)), .val (.ref a11)] [(.int (0 : Int32)), (.int (0 : Int32)), (.ref a11), (.int (0 : Int32)), (.ref a)])) st21 ?_
  refine own_step (T' := T3) (g' := (mkF m 25 #[.val (.ref a), .val (.int (8 : Int32)), .val (.ref a11)] [(.int (8 : Int32)), (.int (0 : Int32)), (.int (0 : Int32)), (.ref a11), (.int (0 : Int32)), (.ref a)])) (fun t_ k_ => XS.iloadN X6.here hx rfl (hb hby d15_24) rfl k_) ?_
  obtain ⟨_, _, ⟨Tc22, Lc22, kc22, nc22⟩, -, Xc22, ⟨Lcc22, hQc22, lc22, yc22, zc22⟩, stc22⟩ := Jvm.LawKit.callS X6 hx (y := (⟨"java/lang/Math", "min", "(II)I"⟩ : MethodName)) hown (mvT hZ (hw _ (List.mem_of_getElem? (i := 121) rfl))) (mvT hZ (hw _ (List.mem_of_getElem? (i := 122) rfl))) (mvT hZ (hw _ (List.mem_of_getElem? (i := 95) rfl))) (mvT hZ (hw _ (List.mem_of_getElem? (i := 123) rfl))) (by decide) (backOf (W := 4) (rm_min l Z a0 hw [] (0 : Int32) (8 : Int32) h4 n0 F15) hZ (hw _ (List.mem_of_getElem? (i := 123) rfl)) (hw _ (List.mem_of_getElem? (i := 95) rfl)) (by decide) (by decide)) (g := (mkF m 25 #[.val (.ref a), .val (.int (8 : Int32)), .val (.ref a11)] [(.int (8 : Int32)), (.int (0 : Int32)), (.int (0 : Int32)), (.ref a11), (.int (0 : Int32)), (.ref a)])) rfl (by rw [hml]; rfl) (argsL := [(.int (0 : Int32)), (.int (8 : Int32))]) (rest := [(.int (0 : Int32)), (.ref a11), (.int (0 : Int32)), (.ref a)]) (lenOf pd_2 rfl) rfl (by show 2 * 0 + _ ≤ _; exact Nat.le_of_eq rfl) (hb hby d15_25) (fun _ _ => ⟨rfl, e7, (by decide : 1 + 0 ≤ _), (by decide : 8 + 0 ≤ _)⟩)
  dsimp only [Pt.U, Pt.locs, Pt.cells, Pt.slots] at Xc22 lc22 yc22 zc22 stc22 hQc22
  subst lc22 yc22 zc22
  have X23 := Xc22.more (cells' := 1) (slots' := 8) (by decide) (by decide)
  obtain ⟨rfl, N24, e25⟩ := hQc22
  have N26 := Fr.app N0 N24
  obtain ⟨Lo27, X28, N29⟩ : ∃ Lo_, Stand p l e ({ frames := 1, cells := 1, slots := 8, locals := 40 } : Room) s m #[(.ref a), (.int (8 : Int32))] below meth c Tc22 Lo_ 1 8 ∧ Fr n0 Lo_ := ⟨_, X23, N26⟩
  refine own_step (T' := Tc22) (g' := (mkF m 28 #[.val (.ref a), .val (.int (8 : Int32)), .val (.ref a11)] [(.int (if (8 : Int32) < (0 : Int32) then (8 : Int32) else (0 : Int32))), (.int (0 : Int32)), (.ref a11), (.int (0 : Int32)), (.ref a)])) stc22 ?_
  rw [(by decide : (if (8 : Int32) < (0 : Int32) then (8 : Int32) else (0 : Int32)) = (0 : Int32))]
  obtain ⟨T30, h31, Lo32, X33, e34, N35, K36, V37, st38⟩ := cpA X28 hx hZ hown (hw _ (List.mem_of_getElem? (i := 124) rfl)) (hw _ (List.mem_of_getElem? (i := 127) rfl)) (hw _ (List.mem_of_getElem? (i := 125) rfl)) (hw _ (List.mem_of_getElem? (i := 126) rfl)) e25 F16 V20 (us := []) (Or.inl ⟨rfl, rfl⟩) (by decide) (by decide) (by decide) (by decide) (by decide) (by rw [(by decide : (0 : Int32).toNatClampNeg = 0)]; rfl) (by decide) N29 q13 (g := (mkF m 28 #[.val (.ref a), .val (.int (8 : Int32)), .val (.ref a11)] [(.int (0 : Int32)), (.int (0 : Int32)), (.ref a11), (.int (0 : Int32)), (.ref a)])) rfl (by rw [hml]; rfl) rfl (hb hby d15_28) (by decide) (W := 0) (by show 2 * 0 + _ ≤ _; exact Nat.le_of_eq rfl) (by decide)
  have F39 : n0 ≤ h31.size := Nat.le_trans F15 K36.1
  have F40 : Arv Z h31 a kA .long (0 : Int32) [] (.long (0 : Int64)) := F16.keep K36 (ninS ne14 nin0)
  have F41 : own_Arl Z h31 a .long [] := F17.keep K36 (ninS ne14 nin0)
  have F42 : Keep h0 h31 [] := F18.trans K36 (allS (Or.inr (Nat.le_trans (Keep.refl h0 []).1 (Nat.le_of_eq g12.symm))) all0)
  refine own_step (T' := T30) (g' := (mkF m 31 #[.val (.ref a), .val (.int (8 : Int32)), .val (.ref a11)] [])) st38 ?_
  refine own_step (T' := T30) (g' := (mkF m 32 #[.val (.ref a), .val (.int (8 : Int32)), .val (.ref a11)] [(.ref a11)])) (fun t_ k_ => XS.aloadN X33.here hx rfl (hb hby d15_31) rfl rfl k_) ?_
  exact own_retA X33 hx hlk Bd.returns rfl rfl (hb hby d15_32) (by rw [e34]; exact ⟨_, rfl, N35, F42, (Nat.le_trans (Keep.refl h0 []).1 (Nat.le_of_eq g12.symm)), (own_copy0 V37)⟩) (by decide) (by decide)
theorem d9_0 : decode prog_40_method_10_code 0 = .ok (.ldc2_w 85, 3) := by decide +kernel
theorem d9_3 : decode prog_40_method_10_code 3 = .ok (.ldc2_w 87, 3) := by decide +kernel
theorem d9_6 : decode prog_40_method_10_code 6 = .ok (.aload_n 0, 1) := by decide +kernel
theorem d9_7 : decode prog_40_method_10_code 7 = .ok (.getfield 25, 3) := by decide +kernel
theorem d9_10 : decode prog_40_method_10_code 10 = .ok (.arraylength, 1) := by decide +kernel
theorem d9_11 : decode prog_40_method_10_code 11 = .ok (.i2l, 1) := by decide +kernel
theorem d9_12 : decode prog_40_method_10_code 12 = .ok (.ldc2_w 89, 3) := by decide +kernel
theorem d9_15 : decode prog_40_method_10_code 15 = .ok (.lmul, 1) := by decide +kernel
theorem d9_16 : decode prog_40_method_10_code 16 = .ok (.ldc2_w 72, 3) := by decide +kernel
theorem d9_19 : decode prog_40_method_10_code 19 = .ok (.ldiv, 1) := by decide +kernel
theorem d9_20 : decode prog_40_method_10_code 20 = .ok (.invokestatic 91, 3) := by decide +kernel
theorem d9_23 : decode prog_40_method_10_code 23 = .ok (.invokestatic 97, 3) := by decide +kernel
theorem d9_26 : decode prog_40_method_10_code 26 = .ok (.lstore_n 1, 1) := by decide +kernel
theorem d9_27 : decode prog_40_method_10_code 27 = .ok (.lload_n 1, 1) := by decide +kernel
theorem d9_28 : decode prog_40_method_10_code 28 = .ok (.ldc2_w 87, 3) := by decide +kernel
theorem d9_31 : decode prog_40_method_10_code 31 = .ok (.lmul, 1) := by decide +kernel
theorem d9_32 : decode prog_40_method_10_code 32 = .ok (.invokestatic 102, 3) := by decide +kernel
theorem d9_35 : decode prog_40_method_10_code 35 = .ok (.lstore_n 3, 1) := by decide +kernel
theorem d9_36 : decode prog_40_method_10_code 36 = .ok (.lload_n 1, 1) := by decide +kernel
theorem d9_37 : decode prog_40_method_10_code 37 = .ok (.aload_n 0, 1) := by decide +kernel
theorem d9_38 : decode prog_40_method_10_code 38 = .ok (.getfield 25, 3) := by decide +kernel
theorem d9_41 : decode prog_40_method_10_code 41 = .ok (.arraylength, 1) := by decide +kernel
theorem d9_42 : decode prog_40_method_10_code 42 = .ok (.i2l, 1) := by decide +kernel
theorem d9_43 : decode prog_40_method_10_code 43 = .ok (.lcmp, 1) := by decide +kernel
theorem d9_44 : decode prog_40_method_10_code 44 = .ok (.ifCond .eq 14, 3) := by decide +kernel
theorem d9_47 : decode prog_40_method_10_code 47 = .ok (.aload_n 0, 1) := by decide +kernel
theorem d9_48 : decode prog_40_method_10_code 48 = .ok (.getfield 29, 3) := by decide +kernel
theorem d9_51 : decode prog_40_method_10_code 51 = .ok (.lload_n 3, 1) := by decide +kernel
theorem d9_52 : decode prog_40_method_10_code 52 = .ok (.invokevirtual 108, 3) := by decide +kernel
theorem d9_55 : decode prog_40_method_10_code 55 = .ok (.ifCond .ne 5, 3) := by decide +kernel
theorem d9_58 : decode prog_40_method_10_code 58 = .ok (.iconst 0, 1) := by decide +kernel
theorem d9_59 : decode prog_40_method_10_code 59 = .ok (.ireturn, 1) := by decide +kernel
theorem d9_60 : decode prog_40_method_10_code 60 = .ok (.aload_n 0, 1) := by decide +kernel
theorem d9_61 : decode prog_40_method_10_code 61 = .ok (.aload_n 0, 1) := by decide +kernel
theorem d9_62 : decode prog_40_method_10_code 62 = .ok (.getfield 25, 3) := by decide +kernel
theorem d9_65 : decode prog_40_method_10_code 65 = .ok (.lload_n 1, 1) := by decide +kernel
theorem d9_66 : decode prog_40_method_10_code 66 = .ok (.l2i, 1) := by decide +kernel
theorem d9_67 : decode prog_40_method_10_code 67 = .ok (.invokestatic 114, 3) := by decide +kernel
theorem d9_70 : decode prog_40_method_10_code 70 = .ok (.putfield 25, 3) := by decide +kernel
theorem d9_73 : decode prog_40_method_10_code 73 = .ok (.aload_n 0, 1) := by decide +kernel
theorem d9_74 : decode prog_40_method_10_code 74 = .ok (.getfield 29, 3) := by decide +kernel
theorem d9_77 : decode prog_40_method_10_code 77 = .ok (.aload_n 0, 1) := by decide +kernel
theorem d9_78 : decode prog_40_method_10_code 78 = .ok (.getfield 120, 3) := by decide +kernel
theorem d9_81 : decode prog_40_method_10_code 81 = .ok (.invokevirtual 124, 3) := by decide +kernel
theorem d9_84 : decode prog_40_method_10_code 84 = .ok (.aload_n 0, 1) := by decide +kernel
theorem d9_85 : decode prog_40_method_10_code 85 = .ok (.lload_n 3, 1) := by decide +kernel
theorem d9_86 : decode prog_40_method_10_code 86 = .ok (.putfield 120, 3) := by decide +kernel
theorem d9_89 : decode prog_40_method_10_code 89 = .ok (.iconst 1, 1) := by decide +kernel
theorem d9_90 : decode prog_40_method_10_code 90 = .ok (.ireturn, 1) := by decide +kernel
theorem pn_9 : plainFor (⟨"com/example/dossier_into_mets/dossierintomets/MemberDivs", "grow", "()Z"⟩ : MethodName) = true := by first | exact plainFor_of_name (by first | (simp [plainName, overriddenIn]; done) | decide +kernel) | decide +kernel
theorem ef_9 (m : MethodId) (x0 : Addr) : entryFrame m #[(.ref x0)] 5 = mkF m 0 #[.val (.ref x0), .unset, .unset, .unset, .unset] [] := by first | (simp [entryFrame, mkF, argsToLocals, Value.category]; done) | rfl
def Q_9 (Z : State) (a b : Addr) (h0 : Heap) (n0 : Nat) (v : Option Value) (h : Heap) (L : List Loc) : Prop := ∃ r : Addr, v = some (.int (1 : Int32)) ∧ Fr n0 L ∧ Keep h0 h [a, b] ∧ h0.size ≤ r ∧ Fld Z h a "com/example/dossier_into_mets/dossierintomets/MemberDivs" "divs" "[J" (.ref r) ∧ Fld Z h a "com/example/dossier_into_mets/dossierintomets/MemberDivs" "count" "I" (.int (0 : Int32)) ∧ own_Arl Z h r .long [(.long (0 : Int64)), (.long (0 : Int64)), (.long (0 : Int64)), (.long (0 : Int64)), (.long (0 : Int64)), (.long (0 : Int64)), (.long (0 : Int64)), (.long (0 : Int64))]
set_option maxRecDepth 65536 in
set_option maxHeartbeats 40000000 in
theorem rm_grow (l : Launch) (Z : State) (a0 : Array Value) (hw : ∀ d ∈ tables_1, d.before a0 Z = true) (ws : List Jvm.Cond) (a b dv : Addr) (kA : ClassId) (h0 : Heap) (n0 : Nat) (Z0 : n0 ≤ h0.size) (E_a : Exa Z h0 a "com/example/dossier_into_mets/dossierintomets/MemberDivs") (F_divs : Fld Z h0 a "com/example/dossier_into_mets/dossierintomets/MemberDivs" "divs" "[J" (.ref dv)) (F_budget : Fld Z h0 a "com/example/dossier_into_mets/dossierintomets/MemberDivs" "budget" "Lcom/example/dossier_into_mets/dossierintomets/CharacterBudget;" (.ref b)) (F_count : Fld Z h0 a "com/example/dossier_into_mets/dossierintomets/MemberDivs" "count" "I" (.int (0 : Int32))) (F_held : Fld Z h0 a "com/example/dossier_into_mets/dossierintomets/MemberDivs" "held" "J" (.long (0 : Int64))) (E_b : Exa Z h0 b "com/example/dossier_into_mets/dossierintomets/CharacterBudget") (F_limit : Fld Z h0 b "com/example/dossier_into_mets/dossierintomets/CharacterBudget" "limit" "J" (.long (1000 : Int64))) (F_spent : Fld Z h0 b "com/example/dossier_into_mets/dossierintomets/CharacterBudget" "spent" "J" (.long (0 : Int64))) (V0 : Arv Z h0 dv kA .long (0 : Int32) [] (.long (0 : Int64))) (ga : n0 ≤ a) (gb : n0 ≤ b) (nab : a ≠ b) (nda : dv ≠ a) (ndb : dv ≠ b) :
    MetFree l (⟨"com/example/dossier_into_mets/dossierintomets/MemberDivs", "grow", "()Z"⟩ : MethodName) (head1 (Jvm.Cond.code (⟨"com/example/dossier_into_mets/dossierintomets/MemberDivs", "grow", "()Z"⟩ : MethodName) prog_40_method_10_code 5 (some .boolean) :: ws) ({ frames := 2, cells := 1, slots := 8, locals := 60 } : Room)) (fun as_ U => as_ = #[(.ref a)] ∧ Z.Warmed39 U.vm ∧ U.heap = h0) (fun _ _ _ _ _ => True) (fun _ U o U' => ∃ v L, o = .returned v ∧ Q_9 Z a b h0 n0 v U'.heap L ∧ FrameEnd U o U' L ({ frames := 2, cells := 1, slots := 8, locals := 60 } : Room).cells ({ frames := 2, cells := 1, slots := 8, locals := 60 } : Room).slots) := by
  refine MetFree.of_bodySF pn_9 hisR ?_
  intro p e s m args below meth c s₁ Bd hml0 hP hK
  obtain ⟨rfl, hZ, hh⟩ := hP
  have hx := Bd.exec
  have hby := Bd.bytes
  have hlk := BodyLoose.notSynchronized Bd
  have hml : c.maxLocals = 5 := hml0
  have hown : s.vm.findClass "com/example/dossier_into_mets/dossierintomets/MemberDivs" = some m.cls := findClass_of_methodNamed Bd.named
  have hnm := (name_of_methodNamed Bd.named Bd.method).1
  have X0 : Stand p l e ({ frames := 2, cells := 1, slots := 8, locals := 60 } : Room) s m #[(.ref a)] below meth c s₁ [] 0 0 := Stand.of_body Bd
  have e0 : s₁.heap = h0 := by rw [← hh, Bd.state]; rfl
  have N0 := Fr.nil n0
  refine own_in (ef_9 m a) ?_
  show own_Fin p e below s (Q_9 Z a b h0 n0) 1 8 s₁ (mkF m 0 #[.val (.ref a), .unset, .unset, .unset, .unset] [])
  refine own_step (T' := s₁) (g' := (mkF m 3 #[.val (.ref a), .unset, .unset, .unset, .unset] [(.long (2147483639 : Int64))])) (fun t_ k_ => X0.ldc2J hx hown (mvT hZ (hw _ (List.mem_of_getElem? (i := 89) rfl))) rfl (hb hby d9_0) k_) ?_
  refine own_step (T' := s₁) (g' := (mkF m 6 #[.val (.ref a), .unset, .unset, .unset, .unset] [(.long (8 : Int64)), (.long (2147483639 : Int64))])) (fun t_ k_ => X0.ldc2J hx hown (mvT hZ (hw _ (List.mem_of_getElem? (i := 90) rfl))) rfl (hb hby d9_3) k_) ?_
  refine own_step (T' := s₁) (g' := (mkF m 7 #[.val (.ref a), .unset, .unset, .unset, .unset] [(.ref a), (.long (8 : Int64)), (.long (2147483639 : Int64))])) (fun t_ k_ => XS.aloadN X0.here hx rfl (hb hby d9_6) rfl rfl k_) ?_
  obtain ⟨T1, X2, e3, st4⟩ := getF X0 hx hZ hown (host := "") (Or.inl (hw _ (List.mem_of_getElem? (i := 72) rfl))) Via.refl e0 F_divs (g := (mkF m 7 #[.val (.ref a), .unset, .unset, .unset, .unset] [(.ref a), (.long (8 : Int64)), (.long (2147483639 : Int64))])) rfl rfl (hb hby d9_7)
  refine own_step (T' := T1) (g' := (mkF m 10 #[.val (.ref a), .unset, .unset, .unset, .unset] [(.ref dv), (.long (8 : Int64)), (.long (2147483639 : Int64))])) st4 ?_
  have st5 := own_alen (g := (mkF m 10 #[.val (.ref a), .unset, .unset, .unset, .unset] [(.ref dv), (.long (8 : Int64)), (.long (2147483639 : Int64))])) X2 hx hZ e3 (own_arl V0 (by decide)) (n := (0 : Int32)) (i := 0) rfl (by decide) rfl rfl (hb hby d9_10)
  refine own_step (T' := T1) (g' := (mkF m 11 #[.val (.ref a), .unset, .unset, .unset, .unset] [(.int (0 : Int32)), (.long (8 : Int64)), (.long (2147483639 : Int64))])) st5 ?_
  refine own_step (T' := T1) (g' := (mkF m 12 #[.val (.ref a), .unset, .unset, .unset, .unset] [(.long (((0 : Int32)).toInt64)), (.long (8 : Int64)), (.long (2147483639 : Int64))])) (fun t_ k_ => XT.i2l X2.here hx rfl (hb hby d9_11) rfl k_) ?_
  refine own_step (T' := T1) (g' := (mkF m 15 #[.val (.ref a), .unset, .unset, .unset, .unset] [(.long (3 : Int64)), (.long (((0 : Int32)).toInt64)), (.long (8 : Int64)), (.long (2147483639 : Int64))])) (fun t_ k_ => X2.ldc2J hx hown (mvT hZ (hw _ (List.mem_of_getElem? (i := 91) rfl))) rfl (hb hby d9_12) k_) ?_
  refine own_step (T' := T1) (g' := (mkF m 16 #[.val (.ref a), .unset, .unset, .unset, .unset] [(.long ((((0 : Int32)).toInt64) * (3 : Int64))), (.long (8 : Int64)), (.long (2147483639 : Int64))])) (fun t_ k_ => XT.lmul X2.here hx rfl (hb hby d9_15) rfl k_) ?_
  refine own_step (T' := T1) (g' := (mkF m 19 #[.val (.ref a), .unset, .unset, .unset, .unset] [(.long (2 : Int64)), (.long ((((0 : Int32)).toInt64) * (3 : Int64))), (.long (8 : Int64)), (.long (2147483639 : Int64))])) (fun t_ k_ => X2.ldc2J hx hown (mvT hZ (hw _ (List.mem_of_getElem? (i := 92) rfl))) rfl (hb hby d9_16) k_) ?_
  refine own_step (T' := T1) (g' := (mkF m 20 #[.val (.ref a), .unset, .unset, .unset, .unset] [(.long (((((0 : Int32)).toInt64) * (3 : Int64)) / (2 : Int64))), (.long (8 : Int64)), (.long (2147483639 : Int64))])) (fun t_ k_ => XT.ldiv X2.here hx rfl (hb hby d9_19) rfl (by decide) k_) ?_
  obtain ⟨_, _, ⟨Tc6, Lc6, kc6, nc6⟩, -, Xc6, ⟨Lcc6, hQc6, lc6, yc6, zc6⟩, stc6⟩ := Jvm.LawKit.callS X2 hx (y := (⟨"java/lang/Math", "max", "(JJ)J"⟩ : MethodName)) hown (mvT hZ (hw _ (List.mem_of_getElem? (i := 93) rfl))) (mvT hZ (hw _ (List.mem_of_getElem? (i := 94) rfl))) (mvT hZ (hw _ (List.mem_of_getElem? (i := 95) rfl))) (mvT hZ (hw _ (List.mem_of_getElem? (i := 96) rfl))) (by decide) (backOf (W := 2) (rm_max l Z a0 hw [] (8 : Int64) (((((0 : Int32)).toInt64) * (3 : Int64)) / (2 : Int64)) h0 n0 Z0) hZ (hw _ (List.mem_of_getElem? (i := 96) rfl)) (hw _ (List.mem_of_getElem? (i := 95) rfl)) (by decide) (by decide)) (g := (mkF m 20 #[.val (.ref a), .unset, .unset, .unset, .unset] [(.long (((((0 : Int32)).toInt64) * (3 : Int64)) / (2 : Int64))), (.long (8 : Int64)), (.long (2147483639 : Int64))])) rfl (by rw [hml]; rfl) (argsL := [(.long (8 : Int64)), (.long (((((0 : Int32)).toInt64) * (3 : Int64)) / (2 : Int64)))]) (rest := [(.long (2147483639 : Int64))]) (lenOf pd_3 rfl) rfl (by show 2 * 0 + _ ≤ _; exact Nat.le_of_eq rfl) (hb hby d9_20) (fun _ _ => ⟨rfl, e3, (by decide : 0 + 0 ≤ _), (by decide : 0 + 0 ≤ _)⟩)
  dsimp only [Pt.U, Pt.locs, Pt.cells, Pt.slots] at Xc6 lc6 yc6 zc6 stc6 hQc6
  subst lc6 yc6 zc6
  have X7 := Xc6.more (cells' := 0) (slots' := 0) (by decide) (by decide)
  obtain ⟨rfl, N8, e9⟩ := hQc6
  have N10 := Fr.app N0 N8
  obtain ⟨Lo11, X12, N13⟩ : ∃ Lo_, Stand p l e ({ frames := 2, cells := 1, slots := 8, locals := 60 } : Room) s m #[(.ref a)] below meth c Tc6 Lo_ 0 0 ∧ Fr n0 Lo_ := ⟨_, X7, N10⟩
  refine own_step (T' := Tc6) (g' := (mkF m 23 #[.val (.ref a), .unset, .unset, .unset, .unset] [(.long (if (8 : Int64) < (((((0 : Int32)).toInt64) * (3 : Int64)) / (2 : Int64)) then (((((0 : Int32)).toInt64) * (3 : Int64)) / (2 : Int64)) else (8 : Int64))), (.long (2147483639 : Int64))])) stc6 ?_
  rw [(by decide : (if (8 : Int64) < (((((0 : Int32)).toInt64) * (3 : Int64)) / (2 : Int64)) then (((((0 : Int32)).toInt64) * (3 : Int64)) / (2 : Int64)) else (8 : Int64)) = (8 : Int64))]
  obtain ⟨_, _, ⟨Tc14, Lc14, kc14, nc14⟩, -, Xc14, ⟨Lcc14, hQc14, lc14, yc14, zc14⟩, stc14⟩ := Jvm.LawKit.callS X12 hx (y := (⟨"java/lang/Math", "min", "(JJ)J"⟩ : MethodName)) hown (mvT hZ (hw _ (List.mem_of_getElem? (i := 97) rfl))) (mvT hZ (hw _ (List.mem_of_getElem? (i := 98) rfl))) (mvT hZ (hw _ (List.mem_of_getElem? (i := 95) rfl))) (mvT hZ (hw _ (List.mem_of_getElem? (i := 99) rfl))) (by decide) (backOf (W := 0) (rm_minj l Z a0 hw [] (2147483639 : Int64) (8 : Int64) h0 n0 Z0) hZ (hw _ (List.mem_of_getElem? (i := 99) rfl)) (hw _ (List.mem_of_getElem? (i := 95) rfl)) (by decide) (by decide)) (g := (mkF m 23 #[.val (.ref a), .unset, .unset, .unset, .unset] [(.long (8 : Int64)), (.long (2147483639 : Int64))])) rfl (by rw [hml]; rfl) (argsL := [(.long (2147483639 : Int64)), (.long (8 : Int64))]) (rest := []) (lenOf pd_3 rfl) rfl (by show 2 * 0 + _ ≤ _; exact Nat.le_of_eq rfl) (hb hby d9_23) (fun _ _ => ⟨rfl, e9, (by decide : 0 + 0 ≤ _), (by decide : 0 + 0 ≤ _)⟩)
  dsimp only [Pt.U, Pt.locs, Pt.cells, Pt.slots] at Xc14 lc14 yc14 zc14 stc14 hQc14
  subst lc14 yc14 zc14
  have X15 := Xc14.more (cells' := 0) (slots' := 0) (by decide) (by decide)
  obtain ⟨rfl, N16, e17⟩ := hQc14
  have N18 := Fr.app N13 N16
  obtain ⟨Lo19, X20, N21⟩ : ∃ Lo_, Stand p l e ({ frames := 2, cells := 1, slots := 8, locals := 60 } : Room) s m #[(.ref a)] below meth c Tc14 Lo_ 0 0 ∧ Fr n0 Lo_ := ⟨_, X15, N18⟩
  refine own_step (T' := Tc14) (g' := (mkF m 26 #[.val (.ref a), .unset, .unset, .unset, .unset] [(.long (if (8 : Int64) < (2147483639 : Int64) then (8 : Int64) else (2147483639 : Int64)))])) stc14 ?_
  rw [(by decide : (if (8 : Int64) < (2147483639 : Int64) then (8 : Int64) else (2147483639 : Int64)) = (8 : Int64))]
  refine own_step (T' := Tc14) (g' := (mkF m 27 #[.val (.ref a), .val (.long (8 : Int64)), .second, .unset, .unset] [])) (fun t_ k_ => XT.lstoreN X20.here hx rfl (hb hby d9_26) rfl (l' := #[.val (.ref a), .val (.long (8 : Int64)), .second, .unset, .unset]) rfl k_) ?_
  refine own_step (T' := Tc14) (g' := (mkF m 28 #[.val (.ref a), .val (.long (8 : Int64)), .second, .unset, .unset] [(.long (8 : Int64))])) (fun t_ k_ => XT.lloadN X20.here hx rfl (hb hby d9_27) rfl k_) ?_
  refine own_step (T' := Tc14) (g' := (mkF m 31 #[.val (.ref a), .val (.long (8 : Int64)), .second, .unset, .unset] [(.long (8 : Int64)), (.long (8 : Int64))])) (fun t_ k_ => X20.ldc2J hx hown (mvT hZ (hw _ (List.mem_of_getElem? (i := 90) rfl))) rfl (hb hby d9_28) k_) ?_
  refine own_step (T' := Tc14) (g' := (mkF m 32 #[.val (.ref a), .val (.long (8 : Int64)), .second, .unset, .unset] [(.long ((8 : Int64) * (8 : Int64)))])) (fun t_ k_ => XT.lmul X20.here hx rfl (hb hby d9_31) rfl k_) ?_
  obtain ⟨_, _, ⟨Tc22, Lc22, kc22, nc22⟩, -, Xc22, ⟨Lcc22, hQc22, lc22, yc22, zc22⟩, stc22⟩ := Jvm.LawKit.callS X20 hx (y := (⟨"com/example/dossier_into_mets/dossierintomets/Held", "ofBytes", "(J)J"⟩ : MethodName)) hown (mvT hZ (hw _ (List.mem_of_getElem? (i := 100) rfl))) (mvT hZ (hw _ (List.mem_of_getElem? (i := 101) rfl))) (mvT hZ (hw _ (List.mem_of_getElem? (i := 102) rfl))) (mvT hZ (hw _ (List.mem_of_getElem? (i := 103) rfl))) (by decide) (backOf (W := 0) (rm_ob l Z a0 hw [] ((8 : Int64) * (8 : Int64)) h0 n0 Z0) hZ (hw _ (List.mem_of_getElem? (i := 103) rfl)) (hw _ (List.mem_of_getElem? (i := 102) rfl)) (by decide) (by decide)) (g := (mkF m 32 #[.val (.ref a), .val (.long (8 : Int64)), .second, .unset, .unset] [(.long ((8 : Int64) * (8 : Int64)))])) rfl (by rw [hml]; rfl) (argsL := [(.long ((8 : Int64) * (8 : Int64)))]) (rest := []) (lenOf pd_1 rfl) rfl (by show 2 * 0 + _ ≤ _; exact Nat.le_of_eq rfl) (hb hby d9_32) (fun _ _ => ⟨rfl, e17, (by decide : 0 + 0 ≤ _), (by decide : 0 + 0 ≤ _)⟩)
  dsimp only [Pt.U, Pt.locs, Pt.cells, Pt.slots] at Xc22 lc22 yc22 zc22 stc22 hQc22
  subst lc22 yc22 zc22
  have X23 := Xc22.more (cells' := 0) (slots' := 0) (by decide) (by decide)
  obtain ⟨rfl, N24, e25⟩ := hQc22
  have N26 := Fr.app N21 N24
  obtain ⟨Lo27, X28, N29⟩ : ∃ Lo_, Stand p l e ({ frames := 2, cells := 1, slots := 8, locals := 60 } : Room) s m #[(.ref a)] below meth c Tc22 Lo_ 0 0 ∧ Fr n0 Lo_ := ⟨_, X23, N26⟩
  refine own_step (T' := Tc22) (g' := (mkF m 35 #[.val (.ref a), .val (.long (8 : Int64)), .second, .unset, .unset] [(.long ((16 : Int64) + ((((8 : Int64) * (8 : Int64)) + (7 : Int64)) &&& (-8 : Int64))))])) stc22 ?_
  rw [(by decide : ((16 : Int64) + ((((8 : Int64) * (8 : Int64)) + (7 : Int64)) &&& (-8 : Int64))) = (80 : Int64))]
  refine own_step (T' := Tc22) (g' := (mkF m 36 #[.val (.ref a), .val (.long (8 : Int64)), .second, .val (.long (80 : Int64)), .second] [])) (fun t_ k_ => XT.lstoreN X28.here hx rfl (hb hby d9_35) rfl (l' := #[.val (.ref a), .val (.long (8 : Int64)), .second, .val (.long (80 : Int64)), .second]) rfl k_) ?_
  refine own_step (T' := Tc22) (g' := (mkF m 37 #[.val (.ref a), .val (.long (8 : Int64)), .second, .val (.long (80 : Int64)), .second] [(.long (8 : Int64))])) (fun t_ k_ => XT.lloadN X28.here hx rfl (hb hby d9_36) rfl k_) ?_
  refine own_step (T' := Tc22) (g' := (mkF m 38 #[.val (.ref a), .val (.long (8 : Int64)), .second, .val (.long (80 : Int64)), .second] [(.ref a), (.long (8 : Int64))])) (fun t_ k_ => XS.aloadN X28.here hx rfl (hb hby d9_37) rfl rfl k_) ?_
  obtain ⟨T30, X31, e32, st33⟩ := getF X28 hx hZ hown (host := "") (Or.inl (hw _ (List.mem_of_getElem? (i := 72) rfl))) Via.refl e25 F_divs (g := (mkF m 38 #[.val (.ref a), .val (.long (8 : Int64)), .second, .val (.long (80 : Int64)), .second] [(.ref a), (.long (8 : Int64))])) rfl rfl (hb hby d9_38)
  refine own_step (T' := T30) (g' := (mkF m 41 #[.val (.ref a), .val (.long (8 : Int64)), .second, .val (.long (80 : Int64)), .second] [(.ref dv), (.long (8 : Int64))])) st33 ?_
  have st34 := own_alen (g := (mkF m 41 #[.val (.ref a), .val (.long (8 : Int64)), .second, .val (.long (80 : Int64)), .second] [(.ref dv), (.long (8 : Int64))])) X31 hx hZ e32 (own_arl V0 (by decide)) (n := (0 : Int32)) (i := 0) rfl (by decide) rfl rfl (hb hby d9_41)
  refine own_step (T' := T30) (g' := (mkF m 42 #[.val (.ref a), .val (.long (8 : Int64)), .second, .val (.long (80 : Int64)), .second] [(.int (0 : Int32)), (.long (8 : Int64))])) st34 ?_
  refine own_step (T' := T30) (g' := (mkF m 43 #[.val (.ref a), .val (.long (8 : Int64)), .second, .val (.long (80 : Int64)), .second] [(.long (((0 : Int32)).toInt64)), (.long (8 : Int64))])) (fun t_ k_ => XT.i2l X31.here hx rfl (hb hby d9_42) rfl k_) ?_
  refine own_step (T' := T30) (g' := (mkF m 44 #[.val (.ref a), .val (.long (8 : Int64)), .second, .val (.long (80 : Int64)), .second] [(.int (XT.cmpL (8 : Int64) (((0 : Int32)).toInt64)))])) (fun t_ k_ => XT.lcmp X31.here hx rfl (hb hby d9_43) rfl k_) ?_
  have hk35 : ¬ ((8 : Int64) = (((0 : Int32)).toInt64)) := (by decide)
  refine own_step (T' := T30) (g' := (mkF m 47 #[.val (.ref a), .val (.long (8 : Int64)), .second, .val (.long (80 : Int64)), .second] [])) (fun t_ k_ => XS.ifNo X31.here hx rfl (hb hby d9_44) rfl (XT.ll_eq_f hk35) k_) ?_
  refine own_step (T' := T30) (g' := (mkF m 48 #[.val (.ref a), .val (.long (8 : Int64)), .second, .val (.long (80 : Int64)), .second] [(.ref a)])) (fun t_ k_ => XS.aloadN X31.here hx rfl (hb hby d9_47) rfl rfl k_) ?_
  obtain ⟨T36, X37, e38, st39⟩ := getF X31 hx hZ hown (host := "") (Or.inl (hw _ (List.mem_of_getElem? (i := 74) rfl))) Via.refl e32 F_budget (g := (mkF m 48 #[.val (.ref a), .val (.long (8 : Int64)), .second, .val (.long (80 : Int64)), .second] [(.ref a)])) rfl rfl (hb hby d9_48)
  refine own_step (T' := T36) (g' := (mkF m 51 #[.val (.ref a), .val (.long (8 : Int64)), .second, .val (.long (80 : Int64)), .second] [(.ref b)])) st39 ?_
  refine own_step (T' := T36) (g' := (mkF m 52 #[.val (.ref a), .val (.long (8 : Int64)), .second, .val (.long (80 : Int64)), .second] [(.long (80 : Int64)), (.ref b)])) (fun t_ k_ => XT.lloadN X37.here hx rfl (hb hby d9_51) rfl k_) ?_
  obtain ⟨cqc40, kqc40, qac40, qbc40, qcc40⟩ := isOf hZ e38 E_b
  obtain ⟨_, _, ⟨Tc40, Lc40, kc40, nc40⟩, -, Xc40, ⟨Lcc40, hQc40, lc40, yc40, zc40⟩, stc40⟩ := X37.virtualBack hx (y := (⟨"com/example/dossier_into_mets/dossierintomets/CharacterBudget", "spendExactly", "(J)Z"⟩ : MethodName)) (z := (⟨"com/example/dossier_into_mets/dossierintomets/CharacterBudget", "spendExactly", "(J)Z"⟩ : MethodName)) hown (mvT hZ (hw _ (List.mem_of_getElem? (i := 110) rfl))) (mvT hZ (hw _ (List.mem_of_getElem? (i := 111) rfl))) (notFace_of_selects (args := #[]) (mvT hZ (hw _ (List.mem_of_getElem? (i := 113) rfl)))) (mvT hZ (hw _ (List.mem_of_getElem? (i := 113) rfl))) (mvT hZ (hw _ (List.mem_of_getElem? (i := 112) rfl))) (by decide) (backOf (W := 0) (rm_spend l Z a0 hw [] b (80 : Int64) (1000 : Int64) (0 : Int64) h0 n0 Z0 E_b F_limit F_spent gb) hZ (hw _ (List.mem_of_getElem? (i := 114) rfl)) (hw _ (List.mem_of_getElem? (i := 2) rfl)) (by decide) (by decide)) qac40 qcc40 (g := (mkF m 52 #[.val (.ref a), .val (.long (8 : Int64)), .second, .val (.long (80 : Int64)), .second] [(.long (80 : Int64)), (.ref b)])) rfl (by rw [hml]; rfl) (Steps.refl _) (argsL := [(.long (80 : Int64))]) (rest := []) (lenOf pd_4 rfl) rfl (by show 2 * 0 + _ ≤ _; exact Nat.le_of_eq rfl) (hb hby d9_52) (fun _ _ => ⟨rfl, e38, (by decide : 0 + 0 ≤ _), (by decide : 0 + 0 ≤ _)⟩)
  dsimp only [Pt.U, Pt.locs, Pt.cells, Pt.slots] at Xc40 lc40 yc40 zc40 stc40 hQc40
  subst lc40 yc40 zc40
  have X41 := Xc40.more (cells' := 0) (slots' := 0) (by decide) (by decide)
  obtain ⟨rfl, N42, K43, F44, F45⟩ := hQc40
  have N46 := Fr.app N29 N42
  have F47 : n0 ≤ Tc40.heap.size := Nat.le_trans Z0 K43.1
  have F48 : Exa Z Tc40.heap a "com/example/dossier_into_mets/dossierintomets/MemberDivs" := E_a.keep K43
  have F49 : Fld Z Tc40.heap a "com/example/dossier_into_mets/dossierintomets/MemberDivs" "divs" "[J" (.ref dv) := F_divs.keep K43 (ninS nab nin0)
  have F50 : Fld Z Tc40.heap a "com/example/dossier_into_mets/dossierintomets/MemberDivs" "budget" "Lcom/example/dossier_into_mets/dossierintomets/CharacterBudget;" (.ref b) := F_budget.keep K43 (ninS nab nin0)
  have F51 : Fld Z Tc40.heap a "com/example/dossier_into_mets/dossierintomets/MemberDivs" "count" "I" (.int (0 : Int32)) := F_count.keep K43 (ninS nab nin0)
  have F52 : Fld Z Tc40.heap a "com/example/dossier_into_mets/dossierintomets/MemberDivs" "held" "J" (.long (0 : Int64)) := F_held.keep K43 (ninS nab nin0)
  have F53 : Exa Z Tc40.heap b "com/example/dossier_into_mets/dossierintomets/CharacterBudget" := E_b.keep K43
  have F54 : Arv Z Tc40.heap dv kA .long (0 : Int32) [] (.long (0 : Int64)) := V0.keep K43 (ninS ndb nin0)
  have F55 : own_Arl Z Tc40.heap dv .long [] := (own_arl V0 (by decide)).keep K43 (ninS ndb nin0)
  have F56 : Keep h0 Tc40.heap [a, b] := (Keep.refl h0 [a, b]).trans K43 (allS (Or.inl (List.mem_of_getElem? (i := 1) rfl)) all0)
  obtain ⟨Lo57, X58, N59⟩ : ∃ Lo_, Stand p l e ({ frames := 2, cells := 1, slots := 8, locals := 60 } : Room) s m #[(.ref a)] below meth c Tc40 Lo_ 0 0 ∧ Fr n0 Lo_ := ⟨_, X41, N46⟩
  refine own_step (T' := Tc40) (g' := (mkF m 55 #[.val (.ref a), .val (.long (8 : Int64)), .second, .val (.long (80 : Int64)), .second] [(.int (if ((1000 : Int64) - (0 : Int64)) < (80 : Int64) then (0 : Int32) else (1 : Int32)))])) (fun t_ k_ => stc40.trans k_) ?_
  have hk60 : ¬ ((if ((1000 : Int64) - (0 : Int64)) < (80 : Int64) then (0 : Int32) else (1 : Int32)) = 0) := (by decide)
  refine own_step (T' := Tc40) (g' := (mkF m 60 #[.val (.ref a), .val (.long (8 : Int64)), .second, .val (.long (80 : Int64)), .second] [])) (fun t_ k_ => XS.ifYes X58.here hx rfl (pc0 := 55) (pc' := 60) rfl (hb hby d9_55) rfl (XT.i0_ne_t hk60) (by decide) (by decide) k_) ?_
  refine own_step (T' := Tc40) (g' := (mkF m 61 #[.val (.ref a), .val (.long (8 : Int64)), .second, .val (.long (80 : Int64)), .second] [(.ref a)])) (fun t_ k_ => XS.aloadN X58.here hx rfl (hb hby d9_60) rfl rfl k_) ?_
  refine own_step (T' := Tc40) (g' := (mkF m 62 #[.val (.ref a), .val (.long (8 : Int64)), .second, .val (.long (80 : Int64)), .second] [(.ref a), (.ref a)])) (fun t_ k_ => XS.aloadN X58.here hx rfl (hb hby d9_61) rfl rfl k_) ?_
  obtain ⟨T61, X62, e63, st64⟩ := getF X58 hx hZ hown (host := "") (Or.inl (hw _ (List.mem_of_getElem? (i := 72) rfl))) Via.refl rfl F49 (g := (mkF m 62 #[.val (.ref a), .val (.long (8 : Int64)), .second, .val (.long (80 : Int64)), .second] [(.ref a), (.ref a)])) rfl rfl (hb hby d9_62)
  refine own_step (T' := T61) (g' := (mkF m 65 #[.val (.ref a), .val (.long (8 : Int64)), .second, .val (.long (80 : Int64)), .second] [(.ref dv), (.ref a)])) st64 ?_
  refine own_step (T' := T61) (g' := (mkF m 66 #[.val (.ref a), .val (.long (8 : Int64)), .second, .val (.long (80 : Int64)), .second] [(.long (8 : Int64)), (.ref dv), (.ref a)])) (fun t_ k_ => XT.lloadN X62.here hx rfl (hb hby d9_65) rfl k_) ?_
  refine own_step (T' := T61) (g' := (mkF m 67 #[.val (.ref a), .val (.long (8 : Int64)), .second, .val (.long (80 : Int64)), .second] [(.int (((8 : Int64)).toInt32)), (.ref dv), (.ref a)])) (fun t_ k_ => XT.l2i X62.here hx rfl (hb hby d9_66) rfl k_) ?_
  rw [(by decide : (((8 : Int64)).toInt32) = (8 : Int32))]
  obtain ⟨_, _, ⟨Tc65, Lc65, kc65, nc65⟩, -, Xc65, ⟨Lcc65, hQc65, lc65, yc65, zc65⟩, stc65⟩ := Jvm.LawKit.callS X62 hx (y := (⟨"java/util/Arrays", "copyOf", "([JI)[J"⟩ : MethodName)) hown (mvT hZ (hw _ (List.mem_of_getElem? (i := 117) rfl))) (mvT hZ (hw _ (List.mem_of_getElem? (i := 118) rfl))) (mvT hZ (hw _ (List.mem_of_getElem? (i := 119) rfl))) (mvT hZ (hw _ (List.mem_of_getElem? (i := 120) rfl))) (by decide) (backOf (W := 1) (rm_cp l Z a0 hw [] dv kA Tc40.heap n0 F47 F54) hZ (hw _ (List.mem_of_getElem? (i := 120) rfl)) (hw _ (List.mem_of_getElem? (i := 119) rfl)) (by decide) (by decide)) (g := (mkF m 67 #[.val (.ref a), .val (.long (8 : Int64)), .second, .val (.long (80 : Int64)), .second] [(.int (8 : Int32)), (.ref dv), (.ref a)])) rfl (by rw [hml]; rfl) (argsL := [(.ref dv), (.int (8 : Int32))]) (rest := [(.ref a)]) (lenOf pd_5 rfl) rfl (by show 2 * 0 + _ ≤ _; exact Nat.le_of_eq rfl) (hb hby d9_67) (fun _ _ => ⟨rfl, e63, (by decide : 0 + 1 ≤ _), (by decide : 0 + 8 ≤ _)⟩)
  dsimp only [Pt.U, Pt.locs, Pt.cells, Pt.slots] at Xc65 lc65 yc65 zc65 stc65 hQc65
  subst lc65 yc65 zc65
  have X66 := Xc65.more (cells' := 1) (slots' := 8) (by decide) (by decide)
  obtain ⟨r67, rfl, N68, K69, hr70, V71⟩ := hQc65
  have N72 := Fr.app N59 N68
  have ne73 : a ≠ r67 := Nat.ne_of_lt (Nat.lt_of_lt_of_le F48.lt hr70)
  have ne74 : b ≠ r67 := Nat.ne_of_lt (Nat.lt_of_lt_of_le F53.lt hr70)
  have ne75 : dv ≠ r67 := Nat.ne_of_lt (Nat.lt_of_lt_of_le F54.lt hr70)
  have q76 : n0 ≤ r67 := Nat.le_trans F47 hr70
  have F77 : n0 ≤ Tc65.heap.size := Nat.le_trans F47 K69.1
  have F78 : Exa Z Tc65.heap a "com/example/dossier_into_mets/dossierintomets/MemberDivs" := F48.keep K69
  have F79 : Fld Z Tc65.heap a "com/example/dossier_into_mets/dossierintomets/MemberDivs" "divs" "[J" (.ref dv) := F49.keep K69 nin0
  have F80 : Fld Z Tc65.heap a "com/example/dossier_into_mets/dossierintomets/MemberDivs" "budget" "Lcom/example/dossier_into_mets/dossierintomets/CharacterBudget;" (.ref b) := F50.keep K69 nin0
  have F81 : Fld Z Tc65.heap a "com/example/dossier_into_mets/dossierintomets/MemberDivs" "count" "I" (.int (0 : Int32)) := F51.keep K69 nin0
  have F82 : Fld Z Tc65.heap a "com/example/dossier_into_mets/dossierintomets/MemberDivs" "held" "J" (.long (0 : Int64)) := F52.keep K69 nin0
  have F83 : Exa Z Tc65.heap b "com/example/dossier_into_mets/dossierintomets/CharacterBudget" := F53.keep K69
  have F84 : Arv Z Tc65.heap dv kA .long (0 : Int32) [] (.long (0 : Int64)) := F54.keep K69 nin0
  have F85 : own_Arl Z Tc65.heap dv .long [] := F55.keep K69 nin0
  have F86 : Keep h0 Tc65.heap [a, b] := F56.trans K69 all0
  have F87 : Fld Z Tc65.heap b "com/example/dossier_into_mets/dossierintomets/CharacterBudget" "limit" "J" (.long (1000 : Int64)) := F44.keep K69 nin0
  have F88 : Fld Z Tc65.heap b "com/example/dossier_into_mets/dossierintomets/CharacterBudget" "spent" "J" (.long (if ((1000 : Int64) - (0 : Int64)) < (80 : Int64) then (0 : Int64) else ((0 : Int64) + (80 : Int64)))) := F45.keep K69 nin0
  obtain ⟨Lo89, X90, N91⟩ : ∃ Lo_, Stand p l e ({ frames := 2, cells := 1, slots := 8, locals := 60 } : Room) s m #[(.ref a)] below meth c Tc65 Lo_ 1 8 ∧ Fr n0 Lo_ := ⟨_, X66, N72⟩
  refine own_step (T' := Tc65) (g' := (mkF m 70 #[.val (.ref a), .val (.long (8 : Int64)), .second, .val (.long (80 : Int64)), .second] [(.ref r67), (.ref a)])) stc65 ?_
  obtain ⟨T92, h93, X94, e95, W96, st97⟩ := putF X90 hx hZ hown (host := "") (Or.inl (hw _ (List.mem_of_getElem? (i := 72) rfl))) Via.refl rfl F79 F78 (Or.inl (hw _ (List.mem_of_getElem? (i := 73) rfl))) (hw _ (List.mem_of_getElem? (i := 13) rfl)) (ty := (.array .long)) (by decide) rfl rfl (g := (mkF m 70 #[.val (.ref a), .val (.long (8 : Int64)), .second, .val (.long (80 : Int64)), .second] [(.ref r67), (.ref a)])) rfl rfl (hb hby d9_70)
  have N98 := Fr.snoc X94 N91 ga
  have F99 : n0 ≤ h93.size := Nat.le_trans F77 (Keep.of_wr W96).1
  have F100 : Exa Z h93 a "com/example/dossier_into_mets/dossierintomets/MemberDivs" := F78.wr W96
  have F101 : Fld Z h93 a "com/example/dossier_into_mets/dossierintomets/MemberDivs" "divs" "[J" (.ref r67) := F79.same W96
  have F102 : Fld Z h93 a "com/example/dossier_into_mets/dossierintomets/MemberDivs" "budget" "Lcom/example/dossier_into_mets/dossierintomets/CharacterBudget;" (.ref b) := F80.other W96 (Or.inr (slot_ne (C := "com/example/dossier_into_mets/dossierintomets/MemberDivs") (Or.inr (hw _ (List.mem_of_getElem? (i := 75) rfl))) (Or.inl (hw _ (List.mem_of_getElem? (i := 73) rfl))) (by decide) (t := (.object "com/example/dossier_into_mets/dossierintomets/CharacterBudget")) (by decide) (t' := (.array .long)) (by decide)))
  have F103 : Fld Z h93 a "com/example/dossier_into_mets/dossierintomets/MemberDivs" "count" "I" (.int (0 : Int32)) := F81.other W96 (Or.inr (slot_ne (C := "com/example/dossier_into_mets/dossierintomets/MemberDivs") (Or.inl (hw _ (List.mem_of_getElem? (i := 84) rfl))) (Or.inl (hw _ (List.mem_of_getElem? (i := 73) rfl))) (by decide) (t := .int) (by decide) (t' := (.array .long)) (by decide)))
  have F104 : Fld Z h93 a "com/example/dossier_into_mets/dossierintomets/MemberDivs" "held" "J" (.long (0 : Int64)) := F82.other W96 (Or.inr (slot_ne (C := "com/example/dossier_into_mets/dossierintomets/MemberDivs") (Or.inl (hw _ (List.mem_of_getElem? (i := 129) rfl))) (Or.inl (hw _ (List.mem_of_getElem? (i := 73) rfl))) (by decide) (t := .long) (by decide) (t' := (.array .long)) (by decide)))
  have F105 : Exa Z h93 b "com/example/dossier_into_mets/dossierintomets/CharacterBudget" := F83.wr W96
  have F106 : Arv Z h93 dv kA .long (0 : Int32) [] (.long (0 : Int64)) := F84.other W96 nda
  have F107 : own_Arl Z h93 dv .long [] := F85.other W96 nda
  have F108 : Keep h0 h93 [a, b] := F86.wr W96 (Or.inl (List.mem_of_getElem? (i := 0) rfl))
  have F109 : Fld Z h93 b "com/example/dossier_into_mets/dossierintomets/CharacterBudget" "limit" "J" (.long (1000 : Int64)) := F87.other W96 (Or.inl (Ne.symm nab))
  have F110 : Fld Z h93 b "com/example/dossier_into_mets/dossierintomets/CharacterBudget" "spent" "J" (.long (if ((1000 : Int64) - (0 : Int64)) < (80 : Int64) then (0 : Int64) else ((0 : Int64) + (80 : Int64)))) := F88.other W96 (Or.inl (Ne.symm nab))
  have F111 : own_Arl Z h93 r67 .long [(.long (0 : Int64)), (.long (0 : Int64)), (.long (0 : Int64)), (.long (0 : Int64)), (.long (0 : Int64)), (.long (0 : Int64)), (.long (0 : Int64)), (.long (0 : Int64))] := V71.other W96 (Ne.symm ne73)
  obtain ⟨Lo112, X113, N114⟩ : ∃ Lo_, Stand p l e ({ frames := 2, cells := 1, slots := 8, locals := 60 } : Room) s m #[(.ref a)] below meth c T92 Lo_ 1 8 ∧ Fr n0 Lo_ := ⟨_, X94, N98⟩
  refine own_step (T' := T92) (g' := (mkF m 73 #[.val (.ref a), .val (.long (8 : Int64)), .second, .val (.long (80 : Int64)), .second] [])) st97 ?_
  refine own_step (T' := T92) (g' := (mkF m 74 #[.val (.ref a), .val (.long (8 : Int64)), .second, .val (.long (80 : Int64)), .second] [(.ref a)])) (fun t_ k_ => XS.aloadN X113.here hx rfl (hb hby d9_73) rfl rfl k_) ?_
  obtain ⟨T115, X116, e117, st118⟩ := getF X113 hx hZ hown (host := "") (Or.inl (hw _ (List.mem_of_getElem? (i := 74) rfl))) Via.refl e95 F102 (g := (mkF m 74 #[.val (.ref a), .val (.long (8 : Int64)), .second, .val (.long (80 : Int64)), .second] [(.ref a)])) rfl rfl (hb hby d9_74)
  refine own_step (T' := T115) (g' := (mkF m 77 #[.val (.ref a), .val (.long (8 : Int64)), .second, .val (.long (80 : Int64)), .second] [(.ref b)])) st118 ?_
  refine own_step (T' := T115) (g' := (mkF m 78 #[.val (.ref a), .val (.long (8 : Int64)), .second, .val (.long (80 : Int64)), .second] [(.ref a), (.ref b)])) (fun t_ k_ => XS.aloadN X116.here hx rfl (hb hby d9_77) rfl rfl k_) ?_
  obtain ⟨T119, X120, e121, st122⟩ := getF X116 hx hZ hown (host := "") (Or.inl (hw _ (List.mem_of_getElem? (i := 128) rfl))) Via.refl e117 F104 (g := (mkF m 78 #[.val (.ref a), .val (.long (8 : Int64)), .second, .val (.long (80 : Int64)), .second] [(.ref a), (.ref b)])) rfl rfl (hb hby d9_78)
  refine own_step (T' := T119) (g' := (mkF m 81 #[.val (.ref a), .val (.long (8 : Int64)), .second, .val (.long (80 : Int64)), .second] [(.long (0 : Int64)), (.ref b)])) st122 ?_
  obtain ⟨cqc123, kqc123, qac123, qbc123, qcc123⟩ := isOf hZ e121 F105
  obtain ⟨_, _, ⟨Tc123, Lc123, kc123, nc123⟩, -, Xc123, ⟨Lcc123, hQc123, lc123, yc123, zc123⟩, stc123⟩ := X120.virtualBack hx (y := (⟨"com/example/dossier_into_mets/dossierintomets/CharacterBudget", "releaseExactly", "(J)V"⟩ : MethodName)) (z := (⟨"com/example/dossier_into_mets/dossierintomets/CharacterBudget", "releaseExactly", "(J)V"⟩ : MethodName)) hown (mvT hZ (hw _ (List.mem_of_getElem? (i := 130) rfl))) (mvT hZ (hw _ (List.mem_of_getElem? (i := 131) rfl))) (notFace_of_selects (args := #[]) (mvT hZ (hw _ (List.mem_of_getElem? (i := 133) rfl)))) (mvT hZ (hw _ (List.mem_of_getElem? (i := 133) rfl))) (mvT hZ (hw _ (List.mem_of_getElem? (i := 132) rfl))) (by decide) (backOf (W := 0) (rm_rel l Z a0 hw [] b (0 : Int64) (1000 : Int64) (if ((1000 : Int64) - (0 : Int64)) < (80 : Int64) then (0 : Int64) else ((0 : Int64) + (80 : Int64))) h93 n0 F99 F105 F109 F110 gb) hZ (hw _ (List.mem_of_getElem? (i := 134) rfl)) (hw _ (List.mem_of_getElem? (i := 2) rfl)) (by decide) (by decide)) qac123 qcc123 (g := (mkF m 81 #[.val (.ref a), .val (.long (8 : Int64)), .second, .val (.long (80 : Int64)), .second] [(.long (0 : Int64)), (.ref b)])) rfl (by rw [hml]; rfl) (Steps.refl _) (argsL := [(.long (0 : Int64))]) (rest := []) (lenOf pd_6 rfl) rfl (by show 2 * 0 + _ ≤ _; exact Nat.le_of_eq rfl) (hb hby d9_81) (fun _ _ => ⟨rfl, e121, (by decide : 1 + 0 ≤ _), (by decide : 8 + 0 ≤ _)⟩)
  dsimp only [Pt.U, Pt.locs, Pt.cells, Pt.slots] at Xc123 lc123 yc123 zc123 stc123 hQc123
  subst lc123 yc123 zc123
  have X124 := Xc123.more (cells' := 1) (slots' := 8) (by decide) (by decide)
  obtain ⟨rfl, N125, K126, F127, F128⟩ := hQc123
  have N129 := Fr.app N114 N125
  have F130 : n0 ≤ Tc123.heap.size := Nat.le_trans F99 K126.1
  have F131 : Exa Z Tc123.heap a "com/example/dossier_into_mets/dossierintomets/MemberDivs" := F100.keep K126
  have F132 : Fld Z Tc123.heap a "com/example/dossier_into_mets/dossierintomets/MemberDivs" "divs" "[J" (.ref r67) := F101.keep K126 (ninS nab nin0)
  have F133 : Fld Z Tc123.heap a "com/example/dossier_into_mets/dossierintomets/MemberDivs" "budget" "Lcom/example/dossier_into_mets/dossierintomets/CharacterBudget;" (.ref b) := F102.keep K126 (ninS nab nin0)
  have F134 : Fld Z Tc123.heap a "com/example/dossier_into_mets/dossierintomets/MemberDivs" "count" "I" (.int (0 : Int32)) := F103.keep K126 (ninS nab nin0)
  have F135 : Fld Z Tc123.heap a "com/example/dossier_into_mets/dossierintomets/MemberDivs" "held" "J" (.long (0 : Int64)) := F104.keep K126 (ninS nab nin0)
  have F136 : Exa Z Tc123.heap b "com/example/dossier_into_mets/dossierintomets/CharacterBudget" := F105.keep K126
  have F137 : Arv Z Tc123.heap dv kA .long (0 : Int32) [] (.long (0 : Int64)) := F106.keep K126 (ninS ndb nin0)
  have F138 : own_Arl Z Tc123.heap dv .long [] := F107.keep K126 (ninS ndb nin0)
  have F139 : Keep h0 Tc123.heap [a, b] := F108.trans K126 (allS (Or.inl (List.mem_of_getElem? (i := 1) rfl)) all0)
  have F140 : own_Arl Z Tc123.heap r67 .long [(.long (0 : Int64)), (.long (0 : Int64)), (.long (0 : Int64)), (.long (0 : Int64)), (.long (0 : Int64)), (.long (0 : Int64)), (.long (0 : Int64)), (.long (0 : Int64))] := F111.keep K126 (ninS (Ne.symm ne74) nin0)
  obtain ⟨Lo141, X142, N143⟩ : ∃ Lo_, Stand p l e ({ frames := 2, cells := 1, slots := 8, locals := 60 } : Room) s m #[(.ref a)] below meth c Tc123 Lo_ 1 8 ∧ Fr n0 Lo_ := ⟨_, X124, N129⟩
  refine own_step (T' := Tc123) (g' := (mkF m 84 #[.val (.ref a), .val (.long (8 : Int64)), .second, .val (.long (80 : Int64)), .second] [])) (fun t_ k_ => stc123.trans k_) ?_
  refine own_step (T' := Tc123) (g' := (mkF m 85 #[.val (.ref a), .val (.long (8 : Int64)), .second, .val (.long (80 : Int64)), .second] [(.ref a)])) (fun t_ k_ => XS.aloadN X142.here hx rfl (hb hby d9_84) rfl rfl k_) ?_
  refine own_step (T' := Tc123) (g' := (mkF m 86 #[.val (.ref a), .val (.long (8 : Int64)), .second, .val (.long (80 : Int64)), .second] [(.long (80 : Int64)), (.ref a)])) (fun t_ k_ => XT.lloadN X142.here hx rfl (hb hby d9_85) rfl k_) ?_
  obtain ⟨T144, h145, X146, e147, W148, st149⟩ := putF X142 hx hZ hown (host := "") (Or.inl (hw _ (List.mem_of_getElem? (i := 128) rfl))) Via.refl rfl F135 F131 (Or.inl (hw _ (List.mem_of_getElem? (i := 129) rfl))) (hw _ (List.mem_of_getElem? (i := 13) rfl)) (ty := .long) (by decide) rfl rfl (g := (mkF m 86 #[.val (.ref a), .val (.long (8 : Int64)), .second, .val (.long (80 : Int64)), .second] [(.long (80 : Int64)), (.ref a)])) rfl rfl (hb hby d9_86)
  have N150 := Fr.snoc X146 N143 ga
  have F151 : n0 ≤ h145.size := Nat.le_trans F130 (Keep.of_wr W148).1
  have F152 : Exa Z h145 a "com/example/dossier_into_mets/dossierintomets/MemberDivs" := F131.wr W148
  have F153 : Fld Z h145 a "com/example/dossier_into_mets/dossierintomets/MemberDivs" "divs" "[J" (.ref r67) := F132.other W148 (Or.inr (slot_ne (C := "com/example/dossier_into_mets/dossierintomets/MemberDivs") (Or.inl (hw _ (List.mem_of_getElem? (i := 73) rfl))) (Or.inl (hw _ (List.mem_of_getElem? (i := 129) rfl))) (by decide) (t := (.array .long)) (by decide) (t' := .long) (by decide)))
  have F154 : Fld Z h145 a "com/example/dossier_into_mets/dossierintomets/MemberDivs" "budget" "Lcom/example/dossier_into_mets/dossierintomets/CharacterBudget;" (.ref b) := F133.other W148 (Or.inr (slot_ne (C := "com/example/dossier_into_mets/dossierintomets/MemberDivs") (Or.inr (hw _ (List.mem_of_getElem? (i := 75) rfl))) (Or.inl (hw _ (List.mem_of_getElem? (i := 129) rfl))) (by decide) (t := (.object "com/example/dossier_into_mets/dossierintomets/CharacterBudget")) (by decide) (t' := .long) (by decide)))
  have F155 : Fld Z h145 a "com/example/dossier_into_mets/dossierintomets/MemberDivs" "count" "I" (.int (0 : Int32)) := F134.other W148 (Or.inr (slot_ne (C := "com/example/dossier_into_mets/dossierintomets/MemberDivs") (Or.inl (hw _ (List.mem_of_getElem? (i := 84) rfl))) (Or.inl (hw _ (List.mem_of_getElem? (i := 129) rfl))) (by decide) (t := .int) (by decide) (t' := .long) (by decide)))
  have F156 : Fld Z h145 a "com/example/dossier_into_mets/dossierintomets/MemberDivs" "held" "J" (.long (80 : Int64)) := F135.same W148
  have F157 : Exa Z h145 b "com/example/dossier_into_mets/dossierintomets/CharacterBudget" := F136.wr W148
  have F158 : Arv Z h145 dv kA .long (0 : Int32) [] (.long (0 : Int64)) := F137.other W148 nda
  have F159 : own_Arl Z h145 dv .long [] := F138.other W148 nda
  have F160 : Keep h0 h145 [a, b] := F139.wr W148 (Or.inl (List.mem_of_getElem? (i := 0) rfl))
  have F161 : own_Arl Z h145 r67 .long [(.long (0 : Int64)), (.long (0 : Int64)), (.long (0 : Int64)), (.long (0 : Int64)), (.long (0 : Int64)), (.long (0 : Int64)), (.long (0 : Int64)), (.long (0 : Int64))] := F140.other W148 (Ne.symm ne73)
  have F162 : Fld Z h145 b "com/example/dossier_into_mets/dossierintomets/CharacterBudget" "limit" "J" (.long (1000 : Int64)) := F127.other W148 (Or.inl (Ne.symm nab))
  have F163 : Fld Z h145 b "com/example/dossier_into_mets/dossierintomets/CharacterBudget" "spent" "J" (.long ((if ((1000 : Int64) - (0 : Int64)) < (80 : Int64) then (0 : Int64) else ((0 : Int64) + (80 : Int64))) - (0 : Int64))) := F128.other W148 (Or.inl (Ne.symm nab))
  obtain ⟨Lo164, X165, N166⟩ : ∃ Lo_, Stand p l e ({ frames := 2, cells := 1, slots := 8, locals := 60 } : Room) s m #[(.ref a)] below meth c T144 Lo_ 1 8 ∧ Fr n0 Lo_ := ⟨_, X146, N150⟩
  refine own_step (T' := T144) (g' := (mkF m 89 #[.val (.ref a), .val (.long (8 : Int64)), .second, .val (.long (80 : Int64)), .second] [])) st149 ?_
  refine own_step (T' := T144) (g' := (mkF m 90 #[.val (.ref a), .val (.long (8 : Int64)), .second, .val (.long (80 : Int64)), .second] [(.int (1 : Int32))])) (fun t_ k_ => XT.iconstV X165.here hx rfl (1 : Int32) (hb hby d9_89) (by decide) k_) ?_
  exact own_retN X165 hx hlk (t := .boolean) Bd.returns (by simp) (hb hby d9_90) (by rw [e147]; exact ⟨r67, rfl, N166, F160, (Nat.le_trans F56.1 hr70), F153, F155, F161⟩) (by decide) (by decide)
theorem dA1_0 : decode prog_40_method_4_code 0 = .ok (.aload_n 0, 1) := by decide +kernel
theorem dA1_1 : decode prog_40_method_4_code 1 = .ok (.getfield 64, 3) := by decide +kernel
theorem dA1_4 : decode prog_40_method_4_code 4 = .ok (.aload_n 0, 1) := by decide +kernel
theorem dA1_5 : decode prog_40_method_4_code 5 = .ok (.getfield 25, 3) := by decide +kernel
theorem dA1_8 : decode prog_40_method_4_code 8 = .ok (.arraylength, 1) := by decide +kernel
theorem dA1_9 : decode prog_40_method_4_code 9 = .ok (.if_icmp .ne 12, 3) := by decide +kernel
theorem dA1_12 : decode prog_40_method_4_code 12 = .ok (.aload_n 0, 1) := by decide +kernel
theorem dA1_13 : decode prog_40_method_4_code 13 = .ok (.invokevirtual 68, 3) := by decide +kernel
theorem dA1_16 : decode prog_40_method_4_code 16 = .ok (.ifCond .ne 5, 3) := by decide +kernel
theorem dA1_19 : decode prog_40_method_4_code 19 = .ok (.iconst 0, 1) := by decide +kernel
theorem dA1_20 : decode prog_40_method_4_code 20 = .ok (.ireturn, 1) := by decide +kernel
theorem dA1_21 : decode prog_40_method_4_code 21 = .ok (.aload_n 0, 1) := by decide +kernel
theorem dA1_22 : decode prog_40_method_4_code 22 = .ok (.getfield 25, 3) := by decide +kernel
theorem dA1_25 : decode prog_40_method_4_code 25 = .ok (.aload_n 0, 1) := by decide +kernel
theorem dA1_26 : decode prog_40_method_4_code 26 = .ok (.dup, 1) := by decide +kernel
theorem dA1_27 : decode prog_40_method_4_code 27 = .ok (.getfield 64, 3) := by decide +kernel
theorem dA1_30 : decode prog_40_method_4_code 30 = .ok (.dup_x1, 1) := by decide +kernel
theorem dA1_31 : decode prog_40_method_4_code 31 = .ok (.iconst 1, 1) := by decide +kernel
theorem dA1_32 : decode prog_40_method_4_code 32 = .ok (.iadd, 1) := by decide +kernel
theorem dA1_33 : decode prog_40_method_4_code 33 = .ok (.putfield 64, 3) := by decide +kernel
theorem dA1_36 : decode prog_40_method_4_code 36 = .ok (.iload_n 1, 1) := by decide +kernel
theorem dA1_37 : decode prog_40_method_4_code 37 = .ok (.i2l, 1) := by decide +kernel
theorem dA1_38 : decode prog_40_method_4_code 38 = .ok (.bipush 32, 2) := by decide +kernel
theorem dA1_40 : decode prog_40_method_4_code 40 = .ok (.lshl, 1) := by decide +kernel
theorem dA1_41 : decode prog_40_method_4_code 41 = .ok (.iload_n 2, 1) := by decide +kernel
theorem dA1_42 : decode prog_40_method_4_code 42 = .ok (.i2l, 1) := by decide +kernel
theorem dA1_43 : decode prog_40_method_4_code 43 = .ok (.iconst 2, 1) := by decide +kernel
theorem dA1_44 : decode prog_40_method_4_code 44 = .ok (.lshl, 1) := by decide +kernel
theorem dA1_45 : decode prog_40_method_4_code 45 = .ok (.lor, 1) := by decide +kernel
theorem dA1_46 : decode prog_40_method_4_code 46 = .ok (.iload_n 3, 1) := by decide +kernel
theorem dA1_47 : decode prog_40_method_4_code 47 = .ok (.ifCond .eq 7, 3) := by decide +kernel
theorem dA1_50 : decode prog_40_method_4_code 50 = .ok (.lconst 1, 1) := by decide +kernel
theorem dA1_51 : decode prog_40_method_4_code 51 = .ok (.goto 4, 3) := by decide +kernel
theorem dA1_54 : decode prog_40_method_4_code 54 = .ok (.lconst 0, 1) := by decide +kernel
theorem dA1_55 : decode prog_40_method_4_code 55 = .ok (.lor, 1) := by decide +kernel
theorem dA1_56 : decode prog_40_method_4_code 56 = .ok (.iload 4, 2) := by decide +kernel
theorem dA1_58 : decode prog_40_method_4_code 58 = .ok (.ifCond .eq 9, 3) := by decide +kernel
theorem dA1_61 : decode prog_40_method_4_code 61 = .ok (.ldc2_w 72, 3) := by decide +kernel
theorem dA1_64 : decode prog_40_method_4_code 64 = .ok (.goto 4, 3) := by decide +kernel
theorem dA1_67 : decode prog_40_method_4_code 67 = .ok (.lconst 0, 1) := by decide +kernel
theorem dA1_68 : decode prog_40_method_4_code 68 = .ok (.lor, 1) := by decide +kernel
theorem dA1_69 : decode prog_40_method_4_code 69 = .ok (.lastore, 1) := by decide +kernel
theorem dA1_70 : decode prog_40_method_4_code 70 = .ok (.iconst 1, 1) := by decide +kernel
theorem dA1_71 : decode prog_40_method_4_code 71 = .ok (.ireturn, 1) := by decide +kernel
theorem pn_A1 : plainFor (⟨"com/example/dossier_into_mets/dossierintomets/MemberDivs", "add", "(IIZZ)Z"⟩ : MethodName) = true := by first | exact plainFor_of_name (by first | (simp [plainName, overriddenIn]; done) | decide +kernel) | decide +kernel
theorem ef_A1 (m : MethodId) (x0 : Addr) (x1 : Int32) (x2 : Int32) (x3 : Int32) (x4 : Int32) : entryFrame m #[(.ref x0), (.int x1), (.int x2), (.int x3), (.int x4)] 5 = mkF m 0 #[.val (.ref x0), .val (.int x1), .val (.int x2), .val (.int x3), .val (.int x4)] [] := by first | (simp [entryFrame, mkF, argsToLocals, Value.category]; done) | rfl
def Q_A1 (Z : State) (a b : Addr) (p9 t9 b9 u9 : Int32) (h0 : Heap) (n0 : Nat) (v : Option Value) (h : Heap) (L : List Loc) : Prop := ∃ r : Addr, v = some (.int (1 : Int32)) ∧ Fr n0 L ∧ Keep h0 h [a, b] ∧ h0.size ≤ r ∧ Fld Z h a "com/example/dossier_into_mets/dossierintomets/MemberDivs" "divs" "[J" (.ref r) ∧ Fld Z h a "com/example/dossier_into_mets/dossierintomets/MemberDivs" "count" "I" (.int (1 : Int32)) ∧ own_Arl Z h r .long [(.long (own_val p9 t9 b9 u9)), (.long (0 : Int64)), (.long (0 : Int64)), (.long (0 : Int64)), (.long (0 : Int64)), (.long (0 : Int64)), (.long (0 : Int64)), (.long (0 : Int64))]
set_option maxRecDepth 65536 in
set_option maxHeartbeats 40000000 in
theorem rm_add1 (l : Launch) (Z : State) (a0 : Array Value) (hw : ∀ d ∈ tables_1, d.before a0 Z = true) (ws : List Jvm.Cond) (a b dv : Addr) (kA : ClassId) (p9 t9 b9 u9 : Int32) (h0 : Heap) (n0 : Nat) (Z0 : n0 ≤ h0.size) (E_a : Exa Z h0 a "com/example/dossier_into_mets/dossierintomets/MemberDivs") (F_divs : Fld Z h0 a "com/example/dossier_into_mets/dossierintomets/MemberDivs" "divs" "[J" (.ref dv)) (F_budget : Fld Z h0 a "com/example/dossier_into_mets/dossierintomets/MemberDivs" "budget" "Lcom/example/dossier_into_mets/dossierintomets/CharacterBudget;" (.ref b)) (F_count : Fld Z h0 a "com/example/dossier_into_mets/dossierintomets/MemberDivs" "count" "I" (.int (0 : Int32))) (F_held : Fld Z h0 a "com/example/dossier_into_mets/dossierintomets/MemberDivs" "held" "J" (.long (0 : Int64))) (E_b : Exa Z h0 b "com/example/dossier_into_mets/dossierintomets/CharacterBudget") (F_limit : Fld Z h0 b "com/example/dossier_into_mets/dossierintomets/CharacterBudget" "limit" "J" (.long (1000 : Int64))) (F_spent : Fld Z h0 b "com/example/dossier_into_mets/dossierintomets/CharacterBudget" "spent" "J" (.long (0 : Int64))) (V0 : Arv Z h0 dv kA .long (0 : Int32) [] (.long (0 : Int64))) (ga : n0 ≤ a) (gb : n0 ≤ b) (nab : a ≠ b) (nda : dv ≠ a) (ndb : dv ≠ b) :
    MetFree l (⟨"com/example/dossier_into_mets/dossierintomets/MemberDivs", "add", "(IIZZ)Z"⟩ : MethodName) (head1 (Jvm.Cond.code (⟨"com/example/dossier_into_mets/dossierintomets/MemberDivs", "add", "(IIZZ)Z"⟩ : MethodName) prog_40_method_4_code 5 (some .boolean) :: ws) ({ frames := 3, cells := 1, slots := 8, locals := 80 } : Room)) (fun as_ U => as_ = #[(.ref a), (.int p9), (.int t9), (.int b9), (.int u9)] ∧ Z.Warmed39 U.vm ∧ U.heap = h0) (fun _ _ _ _ _ => True) (fun _ U o U' => ∃ v L, o = .returned v ∧ Q_A1 Z a b p9 t9 b9 u9 h0 n0 v U'.heap L ∧ FrameEnd U o U' L ({ frames := 3, cells := 1, slots := 8, locals := 80 } : Room).cells ({ frames := 3, cells := 1, slots := 8, locals := 80 } : Room).slots) := by
  refine MetFree.of_bodySF pn_A1 hisR ?_
  intro p e s m args below meth c s₁ Bd hml0 hP hK
  obtain ⟨rfl, hZ, hh⟩ := hP
  have hx := Bd.exec
  have hby := Bd.bytes
  have hlk := BodyLoose.notSynchronized Bd
  have hml : c.maxLocals = 5 := hml0
  have hown : s.vm.findClass "com/example/dossier_into_mets/dossierintomets/MemberDivs" = some m.cls := findClass_of_methodNamed Bd.named
  have hnm := (name_of_methodNamed Bd.named Bd.method).1
  have X0 : Stand p l e ({ frames := 3, cells := 1, slots := 8, locals := 80 } : Room) s m #[(.ref a), (.int p9), (.int t9), (.int b9), (.int u9)] below meth c s₁ [] 0 0 := Stand.of_body Bd
  have e0 : s₁.heap = h0 := by rw [← hh, Bd.state]; rfl
  have N0 := Fr.nil n0
  refine own_in (ef_A1 m a p9 t9 b9 u9) ?_
  show own_Fin p e below s (Q_A1 Z a b p9 t9 b9 u9 h0 n0) 1 8 s₁ (mkF m 0 #[.val (.ref a), .val (.int p9), .val (.int t9), .val (.int b9), .val (.int u9)] [])
  refine own_step (T' := s₁) (g' := (mkF m 1 #[.val (.ref a), .val (.int p9), .val (.int t9), .val (.int b9), .val (.int u9)] [(.ref a)])) (fun t_ k_ => XS.aloadN X0.here hx rfl (hb hby dA1_0) rfl rfl k_) ?_
  obtain ⟨T1, X2, e3, st4⟩ := getF X0 hx hZ hown (host := "") (Or.inl (hw _ (List.mem_of_getElem? (i := 83) rfl))) Via.refl e0 F_count (g := (mkF m 1 #[.val (.ref a), .val (.int p9), .val (.int t9), .val (.int b9), .val (.int u9)] [(.ref a)])) rfl rfl (hb hby dA1_1)
  refine own_step (T' := T1) (g' := (mkF m 4 #[.val (.ref a), .val (.int p9), .val (.int t9), .val (.int b9), .val (.int u9)] [(.int (0 : Int32))])) st4 ?_
  refine own_step (T' := T1) (g' := (mkF m 5 #[.val (.ref a), .val (.int p9), .val (.int t9), .val (.int b9), .val (.int u9)] [(.ref a), (.int (0 : Int32))])) (fun t_ k_ => XS.aloadN X2.here hx rfl (hb hby dA1_4) rfl rfl k_) ?_
  obtain ⟨T5, X6, e7, st8⟩ := getF X2 hx hZ hown (host := "") (Or.inl (hw _ (List.mem_of_getElem? (i := 72) rfl))) Via.refl e3 F_divs (g := (mkF m 5 #[.val (.ref a), .val (.int p9), .val (.int t9), .val (.int b9), .val (.int u9)] [(.ref a), (.int (0 : Int32))])) rfl rfl (hb hby dA1_5)
  refine own_step (T' := T5) (g' := (mkF m 8 #[.val (.ref a), .val (.int p9), .val (.int t9), .val (.int b9), .val (.int u9)] [(.ref dv), (.int (0 : Int32))])) st8 ?_
  have st9 := own_alen (g := (mkF m 8 #[.val (.ref a), .val (.int p9), .val (.int t9), .val (.int b9), .val (.int u9)] [(.ref dv), (.int (0 : Int32))])) X6 hx hZ e7 (own_arl V0 (by decide)) (n := (0 : Int32)) (i := 0) rfl (by decide) rfl rfl (hb hby dA1_8)
  refine own_step (T' := T5) (g' := (mkF m 9 #[.val (.ref a), .val (.int p9), .val (.int t9), .val (.int b9), .val (.int u9)] [(.int (0 : Int32)), (.int (0 : Int32))])) st9 ?_
  have hk10 : (0 : Int32) = (0 : Int32) := rfl
  refine own_step (T' := T5) (g' := (mkF m 12 #[.val (.ref a), .val (.int p9), .val (.int t9), .val (.int b9), .val (.int u9)] [])) (fun t_ k_ => XS.icmpNo X6.here hx rfl (hb hby dA1_9) rfl (XT.ii_ne_f hk10) k_) ?_
  refine own_step (T' := T5) (g' := (mkF m 13 #[.val (.ref a), .val (.int p9), .val (.int t9), .val (.int b9), .val (.int u9)] [(.ref a)])) (fun t_ k_ => XS.aloadN X6.here hx rfl (hb hby dA1_12) rfl rfl k_) ?_
  obtain ⟨cqc11, qac11, qbc11⟩ := E_a.cell
  obtain ⟨cic11, kic11, iac11, ibc11, -, icc11, -⟩ := Cond.instantiable_spec (mvT (args := #[(.ref a), (.int p9), (.int t9), (.int b9), (.int u9)]) hZ (hw _ (List.mem_of_getElem? (i := 13) rfl)))
  have hpc11 := Cond.privateMethod_at (mvP (args := #[(.ref a), (.int p9), (.int t9), (.int b9), (.int u9)]) hZ (hw _ (List.mem_of_getElem? (i := 87) rfl)))
  obtain ⟨_, _, ⟨Tc11, Lc11, kc11, nc11⟩, -, Xc11, ⟨Lcc11, hQc11, lc11, yc11, zc11⟩, stc11⟩ := X6.privateBack hx (y := (⟨"com/example/dossier_into_mets/dossierintomets/MemberDivs", "grow", "()Z"⟩ : MethodName)) hown (mvT hZ (hw _ (List.mem_of_getElem? (i := 85) rfl))) (mvT hZ (hw _ (List.mem_of_getElem? (i := 86) rfl))) (selects_self_of_private iac11 ibc11 (own_noface icc11) hpc11 (mvT hZ (hw _ (List.mem_of_getElem? (i := 86) rfl))) (by decide)) hpc11 (mvT hZ (hw _ (List.mem_of_getElem? (i := 88) rfl))) (by decide) (backOf (W := 0) (rm_grow l Z a0 hw [] a b dv kA h0 n0 Z0 E_a F_divs F_budget F_count F_held E_b F_limit F_spent V0 ga gb nab nda ndb) hZ (hw _ (List.mem_of_getElem? (i := 88) rfl)) (hw _ (List.mem_of_getElem? (i := 14) rfl)) (by decide) (by decide)) (g := (mkF m 13 #[.val (.ref a), .val (.int p9), .val (.int t9), .val (.int b9), .val (.int u9)] [(.ref a)])) rfl (by rw [hml]; rfl) (Steps.refl _) (a := a) (by rw [e7]; exact qac11) qbc11 (argsL := []) (rest := []) (lenOf pd_7 rfl) rfl (by show 2 * 0 + _ ≤ _; exact Nat.le_of_eq rfl) (hb hby dA1_13) (fun _ _ => ⟨rfl, e7, (by decide : 0 + 1 ≤ _), (by decide : 0 + 8 ≤ _)⟩)
  dsimp only [Pt.U, Pt.locs, Pt.cells, Pt.slots] at Xc11 lc11 yc11 zc11 stc11 hQc11
  subst lc11 yc11 zc11
  have X12 := Xc11.more (cells' := 1) (slots' := 8) (by decide) (by decide)
  obtain ⟨r13, rfl, N14, K15, hr16, F17, F18, V19⟩ := hQc11
  have N20 := Fr.app N0 N14
  have ne21 : a ≠ r13 := Nat.ne_of_lt (Nat.lt_of_lt_of_le E_a.lt hr16)
  have ne22 : b ≠ r13 := Nat.ne_of_lt (Nat.lt_of_lt_of_le E_b.lt hr16)
  have ne23 : dv ≠ r13 := Nat.ne_of_lt (Nat.lt_of_lt_of_le V0.lt hr16)
  have q24 : n0 ≤ r13 := Nat.le_trans Z0 hr16
  have F25 : n0 ≤ Tc11.heap.size := Nat.le_trans Z0 K15.1
  have F26 : Exa Z Tc11.heap a "com/example/dossier_into_mets/dossierintomets/MemberDivs" := E_a.keep K15
  have F27 : Exa Z Tc11.heap b "com/example/dossier_into_mets/dossierintomets/CharacterBudget" := E_b.keep K15
  have F28 : Keep h0 Tc11.heap [a, b] := (Keep.refl h0 [a, b]).trans K15 (allS (Or.inl (List.mem_of_getElem? (i := 0) rfl)) (allS (Or.inl (List.mem_of_getElem? (i := 1) rfl)) all0))
  obtain ⟨Lo29, X30, N31⟩ : ∃ Lo_, Stand p l e ({ frames := 3, cells := 1, slots := 8, locals := 80 } : Room) s m #[(.ref a), (.int p9), (.int t9), (.int b9), (.int u9)] below meth c Tc11 Lo_ 1 8 ∧ Fr n0 Lo_ := ⟨_, X12, N20⟩
  refine own_step (T' := Tc11) (g' := (mkF m 16 #[.val (.ref a), .val (.int p9), .val (.int t9), .val (.int b9), .val (.int u9)] [(.int (1 : Int32))])) (fun t_ k_ => stc11.trans k_) ?_
  have hk32 : ¬ ((1 : Int32) = 0) := (by decide)
  refine own_step (T' := Tc11) (g' := (mkF m 21 #[.val (.ref a), .val (.int p9), .val (.int t9), .val (.int b9), .val (.int u9)] [])) (fun t_ k_ => XS.ifYes X30.here hx rfl (pc0 := 16) (pc' := 21) rfl (hb hby dA1_16) rfl (XT.i0_ne_t hk32) (by decide) (by decide) k_) ?_
  refine own_step (T' := Tc11) (g' := (mkF m 22 #[.val (.ref a), .val (.int p9), .val (.int t9), .val (.int b9), .val (.int u9)] [(.ref a)])) (fun t_ k_ => XS.aloadN X30.here hx rfl (hb hby dA1_21) rfl rfl k_) ?_
  obtain ⟨T33, X34, e35, st36⟩ := getF X30 hx hZ hown (host := "") (Or.inl (hw _ (List.mem_of_getElem? (i := 72) rfl))) Via.refl rfl F17 (g := (mkF m 22 #[.val (.ref a), .val (.int p9), .val (.int t9), .val (.int b9), .val (.int u9)] [(.ref a)])) rfl rfl (hb hby dA1_22)
  refine own_step (T' := T33) (g' := (mkF m 25 #[.val (.ref a), .val (.int p9), .val (.int t9), .val (.int b9), .val (.int u9)] [(.ref r13)])) st36 ?_
  refine own_step (T' := T33) (g' := (mkF m 26 #[.val (.ref a), .val (.int p9), .val (.int t9), .val (.int b9), .val (.int u9)] [(.ref a), (.ref r13)])) (fun t_ k_ => XS.aloadN X34.here hx rfl (hb hby dA1_25) rfl rfl k_) ?_
  refine own_step (T' := T33) (g' := (mkF m 27 #[.val (.ref a), .val (.int p9), .val (.int t9), .val (.int b9), .val (.int u9)] [(.ref a), (.ref a), (.ref r13)])) (fun t_ k_ => XS.dup X34.here hx rfl (hb hby dA1_26) rfl rfl k_) ?_
  obtain ⟨T37, X38, e39, st40⟩ := getF X34 hx hZ hown (host := "") (Or.inl (hw _ (List.mem_of_getElem? (i := 83) rfl))) Via.refl e35 F18 (g := (mkF m 27 #[.val (.ref a), .val (.int p9), .val (.int t9), .val (.int b9), .val (.int u9)] [(.ref a), (.ref a), (.ref r13)])) rfl rfl (hb hby dA1_27)
  refine own_step (T' := T37) (g' := (mkF m 30 #[.val (.ref a), .val (.int p9), .val (.int t9), .val (.int b9), .val (.int u9)] [(.int (0 : Int32)), (.ref a), (.ref r13)])) st40 ?_
  refine own_step (T' := T37) (g' := (mkF m 31 #[.val (.ref a), .val (.int p9), .val (.int t9), .val (.int b9), .val (.int u9)] [(.int (0 : Int32)), (.ref a), (.int (0 : Int32)), (.ref r13)])) (fun t_ k_ => XT.dupX1 X38.here hx rfl (hb hby dA1_30) rfl rfl rfl k_) ?_
  refine own_step (T' := T37) (g' := (mkF m 32 #[.val (.ref a), .val (.int p9), .val (.int t9), .val (.int b9), .val (.int u9)] [(.int (1 : Int32)), (.int (0 : Int32)), (.ref a), (.int (0 : Int32)), (.ref r13)])) (fun t_ k_ => XT.iconstV X38.here hx rfl (1 : Int32) (hb hby dA1_31) (by decide) k_) ?_
  refine own_step (T' := T37) (g' := (mkF m 33 #[.val (.ref a), .val (.int p9), .val (.int t9), .val (.int b9), .val (.int u9)] [(.int ((0 : Int32) + (1 : Int32))), (.ref a), (.int (0 : Int32)), (.ref r13)])) (fun t_ k_ => XS.iadd X38.here hx rfl (hb hby dA1_32) rfl k_) ?_
  rw [(by decide : ((0 : Int32) + (1 : Int32)) = (1 : Int32))]
  obtain ⟨T41, h42, X43, e44, W45, st46⟩ := putF X38 hx hZ hown (host := "") (Or.inl (hw _ (List.mem_of_getElem? (i := 83) rfl))) Via.refl e39 F18 F26 (Or.inl (hw _ (List.mem_of_getElem? (i := 84) rfl))) (hw _ (List.mem_of_getElem? (i := 13) rfl)) (ty := .int) (by decide) rfl rfl (g := (mkF m 33 #[.val (.ref a), .val (.int p9), .val (.int t9), .val (.int b9), .val (.int u9)] [(.int (1 : Int32)), (.ref a), (.int (0 : Int32)), (.ref r13)])) rfl rfl (hb hby dA1_33)
  have N47 := Fr.snoc X43 N31 ga
  have F48 : n0 ≤ h42.size := Nat.le_trans F25 (Keep.of_wr W45).1
  have F49 : Exa Z h42 a "com/example/dossier_into_mets/dossierintomets/MemberDivs" := F26.wr W45
  have F50 : Exa Z h42 b "com/example/dossier_into_mets/dossierintomets/CharacterBudget" := F27.wr W45
  have F51 : Keep h0 h42 [a, b] := F28.wr W45 (Or.inl (List.mem_of_getElem? (i := 0) rfl))
  have F52 : Fld Z h42 a "com/example/dossier_into_mets/dossierintomets/MemberDivs" "divs" "[J" (.ref r13) := F17.other W45 (Or.inr (slot_ne (C := "com/example/dossier_into_mets/dossierintomets/MemberDivs") (Or.inl (hw _ (List.mem_of_getElem? (i := 73) rfl))) (Or.inl (hw _ (List.mem_of_getElem? (i := 84) rfl))) (by decide) (t := (.array .long)) (by decide) (t' := .int) (by decide)))
  have F53 : Fld Z h42 a "com/example/dossier_into_mets/dossierintomets/MemberDivs" "count" "I" (.int (1 : Int32)) := F18.same W45
  have F54 : own_Arl Z h42 r13 .long [(.long (0 : Int64)), (.long (0 : Int64)), (.long (0 : Int64)), (.long (0 : Int64)), (.long (0 : Int64)), (.long (0 : Int64)), (.long (0 : Int64)), (.long (0 : Int64))] := V19.other W45 (Ne.symm ne21)
  obtain ⟨Lo55, X56, N57⟩ : ∃ Lo_, Stand p l e ({ frames := 3, cells := 1, slots := 8, locals := 80 } : Room) s m #[(.ref a), (.int p9), (.int t9), (.int b9), (.int u9)] below meth c T41 Lo_ 1 8 ∧ Fr n0 Lo_ := ⟨_, X43, N47⟩
  refine own_step (T' := T41) (g' := (mkF m 36 #[.val (.ref a), .val (.int p9), .val (.int t9), .val (.int b9), .val (.int u9)] [(.int (0 : Int32)), (.ref r13)])) st46 ?_
  refine own_step (T' := T41) (g' := (mkF m 37 #[.val (.ref a), .val (.int p9), .val (.int t9), .val (.int b9), .val (.int u9)] [(.int p9), (.int (0 : Int32)), (.ref r13)])) (fun t_ k_ => XS.iloadN X56.here hx rfl (hb hby dA1_36) rfl k_) ?_
  refine own_step (T' := T41) (g' := (mkF m 38 #[.val (.ref a), .val (.int p9), .val (.int t9), .val (.int b9), .val (.int u9)] [(.long ((p9).toInt64)), (.int (0 : Int32)), (.ref r13)])) (fun t_ k_ => XT.i2l X56.here hx rfl (hb hby dA1_37) rfl k_) ?_
  refine own_step (T' := T41) (g' := (mkF m 40 #[.val (.ref a), .val (.int p9), .val (.int t9), .val (.int b9), .val (.int u9)] [(.int (32 : Int32)), (.long ((p9).toInt64)), (.int (0 : Int32)), (.ref r13)])) (fun t_ k_ => XT.bipushV X56.here hx rfl (32 : Int32) (hb hby dA1_38) (by decide) k_) ?_
  refine own_step (T' := T41) (g' := (mkF m 41 #[.val (.ref a), .val (.int p9), .val (.int t9), .val (.int b9), .val (.int u9)] [(.long (((p9).toInt64) <<< (((32 : Int32)).toInt64 &&& 63))), (.int (0 : Int32)), (.ref r13)])) (fun t_ k_ => XT.lshl X56.here hx rfl (hb hby dA1_40) rfl k_) ?_
  refine own_step (T' := T41) (g' := (mkF m 42 #[.val (.ref a), .val (.int p9), .val (.int t9), .val (.int b9), .val (.int u9)] [(.int t9), (.long (((p9).toInt64) <<< (((32 : Int32)).toInt64 &&& 63))), (.int (0 : Int32)), (.ref r13)])) (fun t_ k_ => XS.iloadN X56.here hx rfl (hb hby dA1_41) rfl k_) ?_
  refine own_step (T' := T41) (g' := (mkF m 43 #[.val (.ref a), .val (.int p9), .val (.int t9), .val (.int b9), .val (.int u9)] [(.long ((t9).toInt64)), (.long (((p9).toInt64) <<< (((32 : Int32)).toInt64 &&& 63))), (.int (0 : Int32)), (.ref r13)])) (fun t_ k_ => XT.i2l X56.here hx rfl (hb hby dA1_42) rfl k_) ?_
  refine own_step (T' := T41) (g' := (mkF m 44 #[.val (.ref a), .val (.int p9), .val (.int t9), .val (.int b9), .val (.int u9)] [(.int (2 : Int32)), (.long ((t9).toInt64)), (.long (((p9).toInt64) <<< (((32 : Int32)).toInt64 &&& 63))), (.int (0 : Int32)), (.ref r13)])) (fun t_ k_ => XT.iconstV X56.here hx rfl (2 : Int32) (hb hby dA1_43) (by decide) k_) ?_
  refine own_step (T' := T41) (g' := (mkF m 45 #[.val (.ref a), .val (.int p9), .val (.int t9), .val (.int b9), .val (.int u9)] [(.long (((t9).toInt64) <<< (((2 : Int32)).toInt64 &&& 63))), (.long (((p9).toInt64) <<< (((32 : Int32)).toInt64 &&& 63))), (.int (0 : Int32)), (.ref r13)])) (fun t_ k_ => XT.lshl X56.here hx rfl (hb hby dA1_44) rfl k_) ?_
  refine own_step (T' := T41) (g' := (mkF m 46 #[.val (.ref a), .val (.int p9), .val (.int t9), .val (.int b9), .val (.int u9)] [(.long ((((p9).toInt64) <<< (((32 : Int32)).toInt64 &&& 63)) ||| (((t9).toInt64) <<< (((2 : Int32)).toInt64 &&& 63)))), (.int (0 : Int32)), (.ref r13)])) (fun t_ k_ => XT.lor X56.here hx rfl (hb hby dA1_45) rfl k_) ?_
  refine own_step (T' := T41) (g' := (mkF m 47 #[.val (.ref a), .val (.int p9), .val (.int t9), .val (.int b9), .val (.int u9)] [(.int b9), (.long ((((p9).toInt64) <<< (((32 : Int32)).toInt64 &&& 63)) ||| (((t9).toInt64) <<< (((2 : Int32)).toInt64 &&& 63)))), (.int (0 : Int32)), (.ref r13)])) (fun t_ k_ => XS.iloadN X56.here hx rfl (hb hby dA1_46) rfl k_) ?_
  suffices k59 : ∀ v60 : Int64, v60 = (if b9 = 0 then (0 : Int64) else (1 : Int64)) → own_Fin p e below s (Q_A1 Z a b p9 t9 b9 u9 h0 n0) 1 8 T41 (mkF m 55 #[.val (.ref a), .val (.int p9), .val (.int t9), .val (.int b9), .val (.int u9)] [(.long v60), (.long ((((p9).toInt64) <<< (((32 : Int32)).toInt64 &&& 63)) ||| (((t9).toInt64) <<< (((2 : Int32)).toInt64 &&& 63)))), (.int (0 : Int32)), (.ref r13)]) by
    by_cases hb58 : b9 = 0
    · refine own_step (T' := T41) (g' := (mkF m 54 #[.val (.ref a), .val (.int p9), .val (.int t9), .val (.int b9), .val (.int u9)] [(.long ((((p9).toInt64) <<< (((32 : Int32)).toInt64 &&& 63)) ||| (((t9).toInt64) <<< (((2 : Int32)).toInt64 &&& 63)))), (.int (0 : Int32)), (.ref r13)])) (fun t_ k_ => XS.ifYes X56.here hx rfl (pc0 := 47) (pc' := 54) rfl (hb hby dA1_47) rfl (XT.i0_eq_t hb58) (by decide) (by decide) k_) ?_
      refine own_step (T' := T41) (g' := (mkF m 55 #[.val (.ref a), .val (.int p9), .val (.int t9), .val (.int b9), .val (.int u9)] [(.long (0 : Int64)), (.long ((((p9).toInt64) <<< (((32 : Int32)).toInt64 &&& 63)) ||| (((t9).toInt64) <<< (((2 : Int32)).toInt64 &&& 63)))), (.int (0 : Int32)), (.ref r13)])) (fun t_ k_ => XT.lconstV X56.here hx rfl (0 : Int64) (hb hby dA1_54) (by decide) k_) ?_
      exact k59 _ (if_pos hb58).symm
    · refine own_step (T' := T41) (g' := (mkF m 50 #[.val (.ref a), .val (.int p9), .val (.int t9), .val (.int b9), .val (.int u9)] [(.long ((((p9).toInt64) <<< (((32 : Int32)).toInt64 &&& 63)) ||| (((t9).toInt64) <<< (((2 : Int32)).toInt64 &&& 63)))), (.int (0 : Int32)), (.ref r13)])) (fun t_ k_ => XS.ifNo X56.here hx rfl (hb hby dA1_47) rfl (XT.i0_eq_f hb58) k_) ?_
      refine own_step (T' := T41) (g' := (mkF m 51 #[.val (.ref a), .val (.int p9), .val (.int t9), .val (.int b9), .val (.int u9)] [(.long (1 : Int64)), (.long ((((p9).toInt64) <<< (((32 : Int32)).toInt64 &&& 63)) ||| (((t9).toInt64) <<< (((2 : Int32)).toInt64 &&& 63)))), (.int (0 : Int32)), (.ref r13)])) (fun t_ k_ => XT.lconstV X56.here hx rfl (1 : Int64) (hb hby dA1_50) (by decide) k_) ?_
      refine own_step (T' := T41) (g' := (mkF m 55 #[.val (.ref a), .val (.int p9), .val (.int t9), .val (.int b9), .val (.int u9)] [(.long (1 : Int64)), (.long ((((p9).toInt64) <<< (((32 : Int32)).toInt64 &&& 63)) ||| (((t9).toInt64) <<< (((2 : Int32)).toInt64 &&& 63)))), (.int (0 : Int32)), (.ref r13)])) (fun t_ k_ => XS.goto X56.here hx rfl (pc0 := 51) (pc' := 55) rfl (hb hby dA1_51) (by decide) (by decide) k_) ?_
      exact k59 _ (if_neg hb58).symm
  intro v60 hv60
  refine own_step (T' := T41) (g' := (mkF m 56 #[.val (.ref a), .val (.int p9), .val (.int t9), .val (.int b9), .val (.int u9)] [(.long (((((p9).toInt64) <<< (((32 : Int32)).toInt64 &&& 63)) ||| (((t9).toInt64) <<< (((2 : Int32)).toInt64 &&& 63))) ||| v60)), (.int (0 : Int32)), (.ref r13)])) (fun t_ k_ => XT.lor X56.here hx rfl (hb hby dA1_55) rfl k_) ?_
  refine own_step (T' := T41) (g' := (mkF m 58 #[.val (.ref a), .val (.int p9), .val (.int t9), .val (.int b9), .val (.int u9)] [(.int u9), (.long (((((p9).toInt64) <<< (((32 : Int32)).toInt64 &&& 63)) ||| (((t9).toInt64) <<< (((2 : Int32)).toInt64 &&& 63))) ||| v60)), (.int (0 : Int32)), (.ref r13)])) (fun t_ k_ => XS.iload X56.here hx rfl (hb hby dA1_56) rfl k_) ?_
  suffices k62 : ∀ v63 : Int64, v63 = (if u9 = 0 then (0 : Int64) else (2 : Int64)) → own_Fin p e below s (Q_A1 Z a b p9 t9 b9 u9 h0 n0) 1 8 T41 (mkF m 68 #[.val (.ref a), .val (.int p9), .val (.int t9), .val (.int b9), .val (.int u9)] [(.long v63), (.long (((((p9).toInt64) <<< (((32 : Int32)).toInt64 &&& 63)) ||| (((t9).toInt64) <<< (((2 : Int32)).toInt64 &&& 63))) ||| v60)), (.int (0 : Int32)), (.ref r13)]) by
    by_cases hb61 : u9 = 0
    · refine own_step (T' := T41) (g' := (mkF m 67 #[.val (.ref a), .val (.int p9), .val (.int t9), .val (.int b9), .val (.int u9)] [(.long (((((p9).toInt64) <<< (((32 : Int32)).toInt64 &&& 63)) ||| (((t9).toInt64) <<< (((2 : Int32)).toInt64 &&& 63))) ||| v60)), (.int (0 : Int32)), (.ref r13)])) (fun t_ k_ => XS.ifYes X56.here hx rfl (pc0 := 58) (pc' := 67) rfl (hb hby dA1_58) rfl (XT.i0_eq_t hb61) (by decide) (by decide) k_) ?_
      refine own_step (T' := T41) (g' := (mkF m 68 #[.val (.ref a), .val (.int p9), .val (.int t9), .val (.int b9), .val (.int u9)] [(.long (0 : Int64)), (.long (((((p9).toInt64) <<< (((32 : Int32)).toInt64 &&& 63)) ||| (((t9).toInt64) <<< (((2 : Int32)).toInt64 &&& 63))) ||| v60)), (.int (0 : Int32)), (.ref r13)])) (fun t_ k_ => XT.lconstV X56.here hx rfl (0 : Int64) (hb hby dA1_67) (by decide) k_) ?_
      exact k62 _ (if_pos hb61).symm
    · refine own_step (T' := T41) (g' := (mkF m 61 #[.val (.ref a), .val (.int p9), .val (.int t9), .val (.int b9), .val (.int u9)] [(.long (((((p9).toInt64) <<< (((32 : Int32)).toInt64 &&& 63)) ||| (((t9).toInt64) <<< (((2 : Int32)).toInt64 &&& 63))) ||| v60)), (.int (0 : Int32)), (.ref r13)])) (fun t_ k_ => XS.ifNo X56.here hx rfl (hb hby dA1_58) rfl (XT.i0_eq_f hb61) k_) ?_
      refine own_step (T' := T41) (g' := (mkF m 64 #[.val (.ref a), .val (.int p9), .val (.int t9), .val (.int b9), .val (.int u9)] [(.long (2 : Int64)), (.long (((((p9).toInt64) <<< (((32 : Int32)).toInt64 &&& 63)) ||| (((t9).toInt64) <<< (((2 : Int32)).toInt64 &&& 63))) ||| v60)), (.int (0 : Int32)), (.ref r13)])) (fun t_ k_ => X56.ldc2J hx hown (mvT hZ (hw _ (List.mem_of_getElem? (i := 92) rfl))) rfl (hb hby dA1_61) k_) ?_
      refine own_step (T' := T41) (g' := (mkF m 68 #[.val (.ref a), .val (.int p9), .val (.int t9), .val (.int b9), .val (.int u9)] [(.long (2 : Int64)), (.long (((((p9).toInt64) <<< (((32 : Int32)).toInt64 &&& 63)) ||| (((t9).toInt64) <<< (((2 : Int32)).toInt64 &&& 63))) ||| v60)), (.int (0 : Int32)), (.ref r13)])) (fun t_ k_ => XS.goto X56.here hx rfl (pc0 := 64) (pc' := 68) rfl (hb hby dA1_64) (by decide) (by decide) k_) ?_
      exact k62 _ (if_neg hb61).symm
  intro v63 hv63
  refine own_step (T' := T41) (g' := (mkF m 69 #[.val (.ref a), .val (.int p9), .val (.int t9), .val (.int b9), .val (.int u9)] [(.long ((((((p9).toInt64) <<< (((32 : Int32)).toInt64 &&& 63)) ||| (((t9).toInt64) <<< (((2 : Int32)).toInt64 &&& 63))) ||| v60) ||| v63)), (.int (0 : Int32)), (.ref r13)])) (fun t_ k_ => XT.lor X56.here hx rfl (hb hby dA1_68) rfl k_) ?_
  obtain ⟨cl64, Ar65, Lx66⟩ := id F54
  obtain ⟨T67, h68, X69, e70, W71, st72⟩ := stJ X56 hx hZ e44 Ar65 (j := (0 : Int32)) (own_inb' Lx66 (n := 8) rfl (by decide) (by decide)) (g := (mkF m 69 #[.val (.ref a), .val (.int p9), .val (.int t9), .val (.int b9), .val (.int u9)] [(.long ((((((p9).toInt64) <<< (((32 : Int32)).toInt64 &&& 63)) ||| (((t9).toInt64) <<< (((2 : Int32)).toInt64 &&& 63))) ||| v60) ||| v63)), (.int (0 : Int32)), (.ref r13)])) rfl rfl (hb hby dA1_69)
  have N73 := Fr.snoc X69 N57 q24
  have F74 : n0 ≤ h68.size := Nat.le_trans F48 (Keep.of_wr W71).1
  have F75 : Exa Z h68 a "com/example/dossier_into_mets/dossierintomets/MemberDivs" := F49.wr W71
  have F76 : Exa Z h68 b "com/example/dossier_into_mets/dossierintomets/CharacterBudget" := F50.wr W71
  have F77 : Keep h0 h68 [a, b] := F51.wr W71 (Or.inr (Nat.le_trans (Keep.refl h0 [a, b]).1 hr16))
  have F78 : Fld Z h68 a "com/example/dossier_into_mets/dossierintomets/MemberDivs" "divs" "[J" (.ref r13) := F52.other W71 (Or.inl ne21)
  have F79 : Fld Z h68 a "com/example/dossier_into_mets/dossierintomets/MemberDivs" "count" "I" (.int (1 : Int32)) := F53.other W71 (Or.inl ne21)
  have V80 : own_Arl Z h68 r13 .long [(.long ((((((p9).toInt64) <<< (((32 : Int32)).toInt64 &&& 63)) ||| (((t9).toInt64) <<< (((2 : Int32)).toInt64 &&& 63))) ||| v60) ||| v63)), (.long (0 : Int64)), (.long (0 : Int64)), (.long (0 : Int64)), (.long (0 : Int64)), (.long (0 : Int64)), (.long (0 : Int64)), (.long (0 : Int64))] := own_Arl.set' (j := (0 : Int32)) F54 W71 (i := 0) (by decide)
  obtain ⟨Lo81, X82, N83⟩ : ∃ Lo_, Stand p l e ({ frames := 3, cells := 1, slots := 8, locals := 80 } : Room) s m #[(.ref a), (.int p9), (.int t9), (.int b9), (.int u9)] below meth c T67 Lo_ 1 8 ∧ Fr n0 Lo_ := ⟨_, X69, N73⟩
  refine own_step (T' := T67) (g' := (mkF m 70 #[.val (.ref a), .val (.int p9), .val (.int t9), .val (.int b9), .val (.int u9)] [])) st72 ?_
  refine own_step (T' := T67) (g' := (mkF m 71 #[.val (.ref a), .val (.int p9), .val (.int t9), .val (.int b9), .val (.int u9)] [(.int (1 : Int32))])) (fun t_ k_ => XT.iconstV X82.here hx rfl (1 : Int32) (hb hby dA1_70) (by decide) k_) ?_
  exact own_retN X82 hx hlk (t := .boolean) Bd.returns (by simp) (hb hby dA1_71) (by rw [e70]; exact ⟨r13, rfl, N83, F77, (Nat.le_trans (Keep.refl h0 [a, b]).1 hr16), F78, F79, by unfold own_val; rw [← hv60, ← hv63]; exact V80⟩) (by decide) (by decide)
theorem dA2_0 : decode prog_40_method_4_code 0 = .ok (.aload_n 0, 1) := by decide +kernel
theorem dA2_1 : decode prog_40_method_4_code 1 = .ok (.getfield 64, 3) := by decide +kernel
theorem dA2_4 : decode prog_40_method_4_code 4 = .ok (.aload_n 0, 1) := by decide +kernel
theorem dA2_5 : decode prog_40_method_4_code 5 = .ok (.getfield 25, 3) := by decide +kernel
theorem dA2_8 : decode prog_40_method_4_code 8 = .ok (.arraylength, 1) := by decide +kernel
theorem dA2_9 : decode prog_40_method_4_code 9 = .ok (.if_icmp .ne 12, 3) := by decide +kernel
theorem dA2_12 : decode prog_40_method_4_code 12 = .ok (.aload_n 0, 1) := by decide +kernel
theorem dA2_13 : decode prog_40_method_4_code 13 = .ok (.invokevirtual 68, 3) := by decide +kernel
theorem dA2_16 : decode prog_40_method_4_code 16 = .ok (.ifCond .ne 5, 3) := by decide +kernel
theorem dA2_19 : decode prog_40_method_4_code 19 = .ok (.iconst 0, 1) := by decide +kernel
theorem dA2_20 : decode prog_40_method_4_code 20 = .ok (.ireturn, 1) := by decide +kernel
theorem dA2_21 : decode prog_40_method_4_code 21 = .ok (.aload_n 0, 1) := by decide +kernel
theorem dA2_22 : decode prog_40_method_4_code 22 = .ok (.getfield 25, 3) := by decide +kernel
theorem dA2_25 : decode prog_40_method_4_code 25 = .ok (.aload_n 0, 1) := by decide +kernel
theorem dA2_26 : decode prog_40_method_4_code 26 = .ok (.dup, 1) := by decide +kernel
theorem dA2_27 : decode prog_40_method_4_code 27 = .ok (.getfield 64, 3) := by decide +kernel
theorem dA2_30 : decode prog_40_method_4_code 30 = .ok (.dup_x1, 1) := by decide +kernel
theorem dA2_31 : decode prog_40_method_4_code 31 = .ok (.iconst 1, 1) := by decide +kernel
theorem dA2_32 : decode prog_40_method_4_code 32 = .ok (.iadd, 1) := by decide +kernel
theorem dA2_33 : decode prog_40_method_4_code 33 = .ok (.putfield 64, 3) := by decide +kernel
theorem dA2_36 : decode prog_40_method_4_code 36 = .ok (.iload_n 1, 1) := by decide +kernel
theorem dA2_37 : decode prog_40_method_4_code 37 = .ok (.i2l, 1) := by decide +kernel
theorem dA2_38 : decode prog_40_method_4_code 38 = .ok (.bipush 32, 2) := by decide +kernel
theorem dA2_40 : decode prog_40_method_4_code 40 = .ok (.lshl, 1) := by decide +kernel
theorem dA2_41 : decode prog_40_method_4_code 41 = .ok (.iload_n 2, 1) := by decide +kernel
theorem dA2_42 : decode prog_40_method_4_code 42 = .ok (.i2l, 1) := by decide +kernel
theorem dA2_43 : decode prog_40_method_4_code 43 = .ok (.iconst 2, 1) := by decide +kernel
theorem dA2_44 : decode prog_40_method_4_code 44 = .ok (.lshl, 1) := by decide +kernel
theorem dA2_45 : decode prog_40_method_4_code 45 = .ok (.lor, 1) := by decide +kernel
theorem dA2_46 : decode prog_40_method_4_code 46 = .ok (.iload_n 3, 1) := by decide +kernel
theorem dA2_47 : decode prog_40_method_4_code 47 = .ok (.ifCond .eq 7, 3) := by decide +kernel
theorem dA2_50 : decode prog_40_method_4_code 50 = .ok (.lconst 1, 1) := by decide +kernel
theorem dA2_51 : decode prog_40_method_4_code 51 = .ok (.goto 4, 3) := by decide +kernel
theorem dA2_54 : decode prog_40_method_4_code 54 = .ok (.lconst 0, 1) := by decide +kernel
theorem dA2_55 : decode prog_40_method_4_code 55 = .ok (.lor, 1) := by decide +kernel
theorem dA2_56 : decode prog_40_method_4_code 56 = .ok (.iload 4, 2) := by decide +kernel
theorem dA2_58 : decode prog_40_method_4_code 58 = .ok (.ifCond .eq 9, 3) := by decide +kernel
theorem dA2_61 : decode prog_40_method_4_code 61 = .ok (.ldc2_w 72, 3) := by decide +kernel
theorem dA2_64 : decode prog_40_method_4_code 64 = .ok (.goto 4, 3) := by decide +kernel
theorem dA2_67 : decode prog_40_method_4_code 67 = .ok (.lconst 0, 1) := by decide +kernel
theorem dA2_68 : decode prog_40_method_4_code 68 = .ok (.lor, 1) := by decide +kernel
theorem dA2_69 : decode prog_40_method_4_code 69 = .ok (.lastore, 1) := by decide +kernel
theorem dA2_70 : decode prog_40_method_4_code 70 = .ok (.iconst 1, 1) := by decide +kernel
theorem dA2_71 : decode prog_40_method_4_code 71 = .ok (.ireturn, 1) := by decide +kernel
theorem pn_A2 : plainFor (⟨"com/example/dossier_into_mets/dossierintomets/MemberDivs", "add", "(IIZZ)Z"⟩ : MethodName) = true := by first | exact plainFor_of_name (by first | (simp [plainName, overriddenIn]; done) | decide +kernel) | decide +kernel
theorem ef_A2 (m : MethodId) (x0 : Addr) (x1 : Int32) (x2 : Int32) (x3 : Int32) (x4 : Int32) : entryFrame m #[(.ref x0), (.int x1), (.int x2), (.int x3), (.int x4)] 5 = mkF m 0 #[.val (.ref x0), .val (.int x1), .val (.int x2), .val (.int x3), .val (.int x4)] [] := by first | (simp [entryFrame, mkF, argsToLocals, Value.category]; done) | rfl
def Q_A2 (Z : State) (a r : Addr) (w1 : Int64) (p9 t9 b9 u9 : Int32) (h0 : Heap) (n0 : Nat) (v : Option Value) (h : Heap) (L : List Loc) : Prop := v = some (.int (1 : Int32)) ∧ Fr n0 L ∧ Keep h0 h [a, r] ∧ Fld Z h a "com/example/dossier_into_mets/dossierintomets/MemberDivs" "divs" "[J" (.ref r) ∧ own_Arl Z h r .long [(.long w1), (.long (own_val p9 t9 b9 u9)), (.long (0 : Int64)), (.long (0 : Int64)), (.long (0 : Int64)), (.long (0 : Int64)), (.long (0 : Int64)), (.long (0 : Int64))]
set_option maxRecDepth 65536 in
set_option maxHeartbeats 40000000 in
theorem rm_add2 (l : Launch) (Z : State) (a0 : Array Value) (hw : ∀ d ∈ tables_1, d.before a0 Z = true) (ws : List Jvm.Cond) (a r : Addr) (w1 : Int64) (p9 t9 b9 u9 : Int32) (h0 : Heap) (n0 : Nat) (Z0 : n0 ≤ h0.size) (E_a : Exa Z h0 a "com/example/dossier_into_mets/dossierintomets/MemberDivs") (F_divs : Fld Z h0 a "com/example/dossier_into_mets/dossierintomets/MemberDivs" "divs" "[J" (.ref r)) (F_count : Fld Z h0 a "com/example/dossier_into_mets/dossierintomets/MemberDivs" "count" "I" (.int (1 : Int32))) (V0 : own_Arl Z h0 r .long [(.long w1), (.long (0 : Int64)), (.long (0 : Int64)), (.long (0 : Int64)), (.long (0 : Int64)), (.long (0 : Int64)), (.long (0 : Int64)), (.long (0 : Int64))]) (ga : n0 ≤ a) (gr : n0 ≤ r) (nra : r ≠ a) :
    MetFree l (⟨"com/example/dossier_into_mets/dossierintomets/MemberDivs", "add", "(IIZZ)Z"⟩ : MethodName) (head1 (Jvm.Cond.code (⟨"com/example/dossier_into_mets/dossierintomets/MemberDivs", "add", "(IIZZ)Z"⟩ : MethodName) prog_40_method_4_code 5 (some .boolean) :: ws) ({ frames := 0, cells := 0, slots := 0, locals := 0 } : Room)) (fun as_ U => as_ = #[(.ref a), (.int p9), (.int t9), (.int b9), (.int u9)] ∧ Z.Warmed39 U.vm ∧ U.heap = h0) (fun _ _ _ _ _ => True) (fun _ U o U' => ∃ v L, o = .returned v ∧ Q_A2 Z a r w1 p9 t9 b9 u9 h0 n0 v U'.heap L ∧ FrameEnd U o U' L ({ frames := 0, cells := 0, slots := 0, locals := 0 } : Room).cells ({ frames := 0, cells := 0, slots := 0, locals := 0 } : Room).slots) := by
  refine MetFree.of_bodySF pn_A2 hisR ?_
  intro p e s m args below meth c s₁ Bd hml0 hP hK
  obtain ⟨rfl, hZ, hh⟩ := hP
  have hx := Bd.exec
  have hby := Bd.bytes
  have hlk := BodyLoose.notSynchronized Bd
  have hml : c.maxLocals = 5 := hml0
  have hown : s.vm.findClass "com/example/dossier_into_mets/dossierintomets/MemberDivs" = some m.cls := findClass_of_methodNamed Bd.named
  have hnm := (name_of_methodNamed Bd.named Bd.method).1
  have X0 : Stand p l e ({ frames := 0, cells := 0, slots := 0, locals := 0 } : Room) s m #[(.ref a), (.int p9), (.int t9), (.int b9), (.int u9)] below meth c s₁ [] 0 0 := Stand.of_body Bd
  have e0 : s₁.heap = h0 := by rw [← hh, Bd.state]; rfl
  have N0 := Fr.nil n0
  refine own_in (ef_A2 m a p9 t9 b9 u9) ?_
  show own_Fin p e below s (Q_A2 Z a r w1 p9 t9 b9 u9 h0 n0) 0 0 s₁ (mkF m 0 #[.val (.ref a), .val (.int p9), .val (.int t9), .val (.int b9), .val (.int u9)] [])
  refine own_step (T' := s₁) (g' := (mkF m 1 #[.val (.ref a), .val (.int p9), .val (.int t9), .val (.int b9), .val (.int u9)] [(.ref a)])) (fun t_ k_ => XS.aloadN X0.here hx rfl (hb hby dA2_0) rfl rfl k_) ?_
  obtain ⟨T1, X2, e3, st4⟩ := getF X0 hx hZ hown (host := "") (Or.inl (hw _ (List.mem_of_getElem? (i := 83) rfl))) Via.refl e0 F_count (g := (mkF m 1 #[.val (.ref a), .val (.int p9), .val (.int t9), .val (.int b9), .val (.int u9)] [(.ref a)])) rfl rfl (hb hby dA2_1)
  refine own_step (T' := T1) (g' := (mkF m 4 #[.val (.ref a), .val (.int p9), .val (.int t9), .val (.int b9), .val (.int u9)] [(.int (1 : Int32))])) st4 ?_
  refine own_step (T' := T1) (g' := (mkF m 5 #[.val (.ref a), .val (.int p9), .val (.int t9), .val (.int b9), .val (.int u9)] [(.ref a), (.int (1 : Int32))])) (fun t_ k_ => XS.aloadN X2.here hx rfl (hb hby dA2_4) rfl rfl k_) ?_
  obtain ⟨T5, X6, e7, st8⟩ := getF X2 hx hZ hown (host := "") (Or.inl (hw _ (List.mem_of_getElem? (i := 72) rfl))) Via.refl e3 F_divs (g := (mkF m 5 #[.val (.ref a), .val (.int p9), .val (.int t9), .val (.int b9), .val (.int u9)] [(.ref a), (.int (1 : Int32))])) rfl rfl (hb hby dA2_5)
  refine own_step (T' := T5) (g' := (mkF m 8 #[.val (.ref a), .val (.int p9), .val (.int t9), .val (.int b9), .val (.int u9)] [(.ref r), (.int (1 : Int32))])) st8 ?_
  have st9 := own_alen (g := (mkF m 8 #[.val (.ref a), .val (.int p9), .val (.int t9), .val (.int b9), .val (.int u9)] [(.ref r), (.int (1 : Int32))])) X6 hx hZ e7 V0 (n := (8 : Int32)) (i := 8) rfl (by decide) rfl rfl (hb hby dA2_8)
  refine own_step (T' := T5) (g' := (mkF m 9 #[.val (.ref a), .val (.int p9), .val (.int t9), .val (.int b9), .val (.int u9)] [(.int (8 : Int32)), (.int (1 : Int32))])) st9 ?_
  have hk10 : ¬ ((1 : Int32) = (8 : Int32)) := (by decide)
  refine own_step (T' := T5) (g' := (mkF m 21 #[.val (.ref a), .val (.int p9), .val (.int t9), .val (.int b9), .val (.int u9)] [])) (fun t_ k_ => XS.icmpYes X6.here hx rfl (pc0 := 9) (pc' := 21) rfl (hb hby dA2_9) rfl (XT.ii_ne_t hk10) (by decide) (by decide) k_) ?_
  refine own_step (T' := T5) (g' := (mkF m 22 #[.val (.ref a), .val (.int p9), .val (.int t9), .val (.int b9), .val (.int u9)] [(.ref a)])) (fun t_ k_ => XS.aloadN X6.here hx rfl (hb hby dA2_21) rfl rfl k_) ?_
  obtain ⟨T11, X12, e13, st14⟩ := getF X6 hx hZ hown (host := "") (Or.inl (hw _ (List.mem_of_getElem? (i := 72) rfl))) Via.refl e7 F_divs (g := (mkF m 22 #[.val (.ref a), .val (.int p9), .val (.int t9), .val (.int b9), .val (.int u9)] [(.ref a)])) rfl rfl (hb hby dA2_22)
  refine own_step (T' := T11) (g' := (mkF m 25 #[.val (.ref a), .val (.int p9), .val (.int t9), .val (.int b9), .val (.int u9)] [(.ref r)])) st14 ?_
  refine own_step (T' := T11) (g' := (mkF m 26 #[.val (.ref a), .val (.int p9), .val (.int t9), .val (.int b9), .val (.int u9)] [(.ref a), (.ref r)])) (fun t_ k_ => XS.aloadN X12.here hx rfl (hb hby dA2_25) rfl rfl k_) ?_
  refine own_step (T' := T11) (g' := (mkF m 27 #[.val (.ref a), .val (.int p9), .val (.int t9), .val (.int b9), .val (.int u9)] [(.ref a), (.ref a), (.ref r)])) (fun t_ k_ => XS.dup X12.here hx rfl (hb hby dA2_26) rfl rfl k_) ?_
  obtain ⟨T15, X16, e17, st18⟩ := getF X12 hx hZ hown (host := "") (Or.inl (hw _ (List.mem_of_getElem? (i := 83) rfl))) Via.refl e13 F_count (g := (mkF m 27 #[.val (.ref a), .val (.int p9), .val (.int t9), .val (.int b9), .val (.int u9)] [(.ref a), (.ref a), (.ref r)])) rfl rfl (hb hby dA2_27)
  refine own_step (T' := T15) (g' := (mkF m 30 #[.val (.ref a), .val (.int p9), .val (.int t9), .val (.int b9), .val (.int u9)] [(.int (1 : Int32)), (.ref a), (.ref r)])) st18 ?_
  refine own_step (T' := T15) (g' := (mkF m 31 #[.val (.ref a), .val (.int p9), .val (.int t9), .val (.int b9), .val (.int u9)] [(.int (1 : Int32)), (.ref a), (.int (1 : Int32)), (.ref r)])) (fun t_ k_ => XT.dupX1 X16.here hx rfl (hb hby dA2_30) rfl rfl rfl k_) ?_
  refine own_step (T' := T15) (g' := (mkF m 32 #[.val (.ref a), .val (.int p9), .val (.int t9), .val (.int b9), .val (.int u9)] [(.int (1 : Int32)), (.int (1 : Int32)), (.ref a), (.int (1 : Int32)), (.ref r)])) (fun t_ k_ => XT.iconstV X16.here hx rfl (1 : Int32) (hb hby dA2_31) (by decide) k_) ?_
  refine own_step (T' := T15) (g' := (mkF m 33 #[.val (.ref a), .val (.int p9), .val (.int t9), .val (.int b9), .val (.int u9)] [(.int ((1 : Int32) + (1 : Int32))), (.ref a), (.int (1 : Int32)), (.ref r)])) (fun t_ k_ => XS.iadd X16.here hx rfl (hb hby dA2_32) rfl k_) ?_
  rw [(by decide : ((1 : Int32) + (1 : Int32)) = (2 : Int32))]
  obtain ⟨T19, h20, X21, e22, W23, st24⟩ := putF X16 hx hZ hown (host := "") (Or.inl (hw _ (List.mem_of_getElem? (i := 83) rfl))) Via.refl e17 F_count E_a (Or.inl (hw _ (List.mem_of_getElem? (i := 84) rfl))) (hw _ (List.mem_of_getElem? (i := 13) rfl)) (ty := .int) (by decide) rfl rfl (g := (mkF m 33 #[.val (.ref a), .val (.int p9), .val (.int t9), .val (.int b9), .val (.int u9)] [(.int (2 : Int32)), (.ref a), (.int (1 : Int32)), (.ref r)])) rfl rfl (hb hby dA2_33)
  have N25 := Fr.snoc X21 N0 ga
  have F26 : n0 ≤ h20.size := Nat.le_trans Z0 (Keep.of_wr W23).1
  have F27 : Exa Z h20 a "com/example/dossier_into_mets/dossierintomets/MemberDivs" := E_a.wr W23
  have F28 : Fld Z h20 a "com/example/dossier_into_mets/dossierintomets/MemberDivs" "divs" "[J" (.ref r) := F_divs.other W23 (Or.inr (slot_ne (C := "com/example/dossier_into_mets/dossierintomets/MemberDivs") (Or.inl (hw _ (List.mem_of_getElem? (i := 73) rfl))) (Or.inl (hw _ (List.mem_of_getElem? (i := 84) rfl))) (by decide) (t := (.array .long)) (by decide) (t' := .int) (by decide)))
  have F29 : Fld Z h20 a "com/example/dossier_into_mets/dossierintomets/MemberDivs" "count" "I" (.int (2 : Int32)) := F_count.same W23
  have F30 : own_Arl Z h20 r .long [(.long w1), (.long (0 : Int64)), (.long (0 : Int64)), (.long (0 : Int64)), (.long (0 : Int64)), (.long (0 : Int64)), (.long (0 : Int64)), (.long (0 : Int64))] := V0.other W23 nra
  have F31 : Keep h0 h20 [a, r] := (Keep.refl h0 [a, r]).wr W23 (Or.inl (List.mem_of_getElem? (i := 0) rfl))
  obtain ⟨Lo32, X33, N34⟩ : ∃ Lo_, Stand p l e ({ frames := 0, cells := 0, slots := 0, locals := 0 } : Room) s m #[(.ref a), (.int p9), (.int t9), (.int b9), (.int u9)] below meth c T19 Lo_ 0 0 ∧ Fr n0 Lo_ := ⟨_, X21, N25⟩
  refine own_step (T' := T19) (g' := (mkF m 36 #[.val (.ref a), .val (.int p9), .val (.int t9), .val (.int b9), .val (.int u9)] [(.int (1 : Int32)), (.ref r)])) st24 ?_
  refine own_step (T' := T19) (g' := (mkF m 37 #[.val (.ref a), .val (.int p9), .val (.int t9), .val (.int b9), .val (.int u9)] [(.int p9), (.int (1 : Int32)), (.ref r)])) (fun t_ k_ => XS.iloadN X33.here hx rfl (hb hby dA2_36) rfl k_) ?_
  refine own_step (T' := T19) (g' := (mkF m 38 #[.val (.ref a), .val (.int p9), .val (.int t9), .val (.int b9), .val (.int u9)] [(.long ((p9).toInt64)), (.int (1 : Int32)), (.ref r)])) (fun t_ k_ => XT.i2l X33.here hx rfl (hb hby dA2_37) rfl k_) ?_
  refine own_step (T' := T19) (g' := (mkF m 40 #[.val (.ref a), .val (.int p9), .val (.int t9), .val (.int b9), .val (.int u9)] [(.int (32 : Int32)), (.long ((p9).toInt64)), (.int (1 : Int32)), (.ref r)])) (fun t_ k_ => XT.bipushV X33.here hx rfl (32 : Int32) (hb hby dA2_38) (by decide) k_) ?_
  refine own_step (T' := T19) (g' := (mkF m 41 #[.val (.ref a), .val (.int p9), .val (.int t9), .val (.int b9), .val (.int u9)] [(.long (((p9).toInt64) <<< (((32 : Int32)).toInt64 &&& 63))), (.int (1 : Int32)), (.ref r)])) (fun t_ k_ => XT.lshl X33.here hx rfl (hb hby dA2_40) rfl k_) ?_
  refine own_step (T' := T19) (g' := (mkF m 42 #[.val (.ref a), .val (.int p9), .val (.int t9), .val (.int b9), .val (.int u9)] [(.int t9), (.long (((p9).toInt64) <<< (((32 : Int32)).toInt64 &&& 63))), (.int (1 : Int32)), (.ref r)])) (fun t_ k_ => XS.iloadN X33.here hx rfl (hb hby dA2_41) rfl k_) ?_
  refine own_step (T' := T19) (g' := (mkF m 43 #[.val (.ref a), .val (.int p9), .val (.int t9), .val (.int b9), .val (.int u9)] [(.long ((t9).toInt64)), (.long (((p9).toInt64) <<< (((32 : Int32)).toInt64 &&& 63))), (.int (1 : Int32)), (.ref r)])) (fun t_ k_ => XT.i2l X33.here hx rfl (hb hby dA2_42) rfl k_) ?_
  refine own_step (T' := T19) (g' := (mkF m 44 #[.val (.ref a), .val (.int p9), .val (.int t9), .val (.int b9), .val (.int u9)] [(.int (2 : Int32)), (.long ((t9).toInt64)), (.long (((p9).toInt64) <<< (((32 : Int32)).toInt64 &&& 63))), (.int (1 : Int32)), (.ref r)])) (fun t_ k_ => XT.iconstV X33.here hx rfl (2 : Int32) (hb hby dA2_43) (by decide) k_) ?_
  refine own_step (T' := T19) (g' := (mkF m 45 #[.val (.ref a), .val (.int p9), .val (.int t9), .val (.int b9), .val (.int u9)] [(.long (((t9).toInt64) <<< (((2 : Int32)).toInt64 &&& 63))), (.long (((p9).toInt64) <<< (((32 : Int32)).toInt64 &&& 63))), (.int (1 : Int32)), (.ref r)])) (fun t_ k_ => XT.lshl X33.here hx rfl (hb hby dA2_44) rfl k_) ?_
  refine own_step (T' := T19) (g' := (mkF m 46 #[.val (.ref a), .val (.int p9), .val (.int t9), .val (.int b9), .val (.int u9)] [(.long ((((p9).toInt64) <<< (((32 : Int32)).toInt64 &&& 63)) ||| (((t9).toInt64) <<< (((2 : Int32)).toInt64 &&& 63)))), (.int (1 : Int32)), (.ref r)])) (fun t_ k_ => XT.lor X33.here hx rfl (hb hby dA2_45) rfl k_) ?_
  refine own_step (T' := T19) (g' := (mkF m 47 #[.val (.ref a), .val (.int p9), .val (.int t9), .val (.int b9), .val (.int u9)] [(.int b9), (.long ((((p9).toInt64) <<< (((32 : Int32)).toInt64 &&& 63)) ||| (((t9).toInt64) <<< (((2 : Int32)).toInt64 &&& 63)))), (.int (1 : Int32)), (.ref r)])) (fun t_ k_ => XS.iloadN X33.here hx rfl (hb hby dA2_46) rfl k_) ?_
  suffices k36 : ∀ v37 : Int64, v37 = (if b9 = 0 then (0 : Int64) else (1 : Int64)) → own_Fin p e below s (Q_A2 Z a r w1 p9 t9 b9 u9 h0 n0) 0 0 T19 (mkF m 55 #[.val (.ref a), .val (.int p9), .val (.int t9), .val (.int b9), .val (.int u9)] [(.long v37), (.long ((((p9).toInt64) <<< (((32 : Int32)).toInt64 &&& 63)) ||| (((t9).toInt64) <<< (((2 : Int32)).toInt64 &&& 63)))), (.int (1 : Int32)), (.ref r)]) by
    by_cases hb35 : b9 = 0
    · refine own_step (T' := T19) (g' := (mkF m 54 #[.val (.ref a), .val (.int p9), .val (.int t9), .val (.int b9), .val (.int u9)] [(.long ((((p9).toInt64) <<< (((32 : Int32)).toInt64 &&& 63)) ||| (((t9).toInt64) <<< (((2 : Int32)).toInt64 &&& 63)))), (.int (1 : Int32)), (.ref r)])) (fun t_ k_ => XS.ifYes X33.here hx rfl (pc0 := 47) (pc' := 54) rfl (hb hby dA2_47) rfl (XT.i0_eq_t hb35) (by decide) (by decide) k_) ?_
      refine own_step (T' := T19) (g' := (mkF m 55 #[.val (.ref a), .val (.int p9), .val (.int t9), .val (.int b9), .val (.int u9)] [(.long (0 : Int64)), (.long ((((p9).toInt64) <<< (((32 : Int32)).toInt64 &&& 63)) ||| (((t9).toInt64) <<< (((2 : Int32)).toInt64 &&& 63)))), (.int (1 : Int32)), (.ref r)])) (fun t_ k_ => XT.lconstV X33.here hx rfl (0 : Int64) (hb hby dA2_54) (by decide) k_) ?_
      exact k36 _ (if_pos hb35).symm
    · refine own_step (T' := T19) (g' := (mkF m 50 #[.val (.ref a), .val (.int p9), .val (.int t9), .val (.int b9), .val (.int u9)] [(.long ((((p9).toInt64) <<< (((32 : Int32)).toInt64 &&& 63)) ||| (((t9).toInt64) <<< (((2 : Int32)).toInt64 &&& 63)))), (.int (1 : Int32)), (.ref r)])) (fun t_ k_ => XS.ifNo X33.here hx rfl (hb hby dA2_47) rfl (XT.i0_eq_f hb35) k_) ?_
      refine own_step (T' := T19) (g' := (mkF m 51 #[.val (.ref a), .val (.int p9), .val (.int t9), .val (.int b9), .val (.int u9)] [(.long (1 : Int64)), (.long ((((p9).toInt64) <<< (((32 : Int32)).toInt64 &&& 63)) ||| (((t9).toInt64) <<< (((2 : Int32)).toInt64 &&& 63)))), (.int (1 : Int32)), (.ref r)])) (fun t_ k_ => XT.lconstV X33.here hx rfl (1 : Int64) (hb hby dA2_50) (by decide) k_) ?_
      refine own_step (T' := T19) (g' := (mkF m 55 #[.val (.ref a), .val (.int p9), .val (.int t9), .val (.int b9), .val (.int u9)] [(.long (1 : Int64)), (.long ((((p9).toInt64) <<< (((32 : Int32)).toInt64 &&& 63)) ||| (((t9).toInt64) <<< (((2 : Int32)).toInt64 &&& 63)))), (.int (1 : Int32)), (.ref r)])) (fun t_ k_ => XS.goto X33.here hx rfl (pc0 := 51) (pc' := 55) rfl (hb hby dA2_51) (by decide) (by decide) k_) ?_
      exact k36 _ (if_neg hb35).symm
  intro v37 hv37
  refine own_step (T' := T19) (g' := (mkF m 56 #[.val (.ref a), .val (.int p9), .val (.int t9), .val (.int b9), .val (.int u9)] [(.long (((((p9).toInt64) <<< (((32 : Int32)).toInt64 &&& 63)) ||| (((t9).toInt64) <<< (((2 : Int32)).toInt64 &&& 63))) ||| v37)), (.int (1 : Int32)), (.ref r)])) (fun t_ k_ => XT.lor X33.here hx rfl (hb hby dA2_55) rfl k_) ?_
  refine own_step (T' := T19) (g' := (mkF m 58 #[.val (.ref a), .val (.int p9), .val (.int t9), .val (.int b9), .val (.int u9)] [(.int u9), (.long (((((p9).toInt64) <<< (((32 : Int32)).toInt64 &&& 63)) ||| (((t9).toInt64) <<< (((2 : Int32)).toInt64 &&& 63))) ||| v37)), (.int (1 : Int32)), (.ref r)])) (fun t_ k_ => XS.iload X33.here hx rfl (hb hby dA2_56) rfl k_) ?_
  suffices k39 : ∀ v40 : Int64, v40 = (if u9 = 0 then (0 : Int64) else (2 : Int64)) → own_Fin p e below s (Q_A2 Z a r w1 p9 t9 b9 u9 h0 n0) 0 0 T19 (mkF m 68 #[.val (.ref a), .val (.int p9), .val (.int t9), .val (.int b9), .val (.int u9)] [(.long v40), (.long (((((p9).toInt64) <<< (((32 : Int32)).toInt64 &&& 63)) ||| (((t9).toInt64) <<< (((2 : Int32)).toInt64 &&& 63))) ||| v37)), (.int (1 : Int32)), (.ref r)]) by
    by_cases hb38 : u9 = 0
    · refine own_step (T' := T19) (g' := (mkF m 67 #[.val (.ref a), .val (.int p9), .val (.int t9), .val (.int b9), .val (.int u9)] [(.long (((((p9).toInt64) <<< (((32 : Int32)).toInt64 &&& 63)) ||| (((t9).toInt64) <<< (((2 : Int32)).toInt64 &&& 63))) ||| v37)), (.int (1 : Int32)), (.ref r)])) (fun t_ k_ => XS.ifYes X33.here hx rfl (pc0 := 58) (pc' := 67) rfl (hb hby dA2_58) rfl (XT.i0_eq_t hb38) (by decide) (by decide) k_) ?_
      refine own_step (T' := T19) (g' := (mkF m 68 #[.val (.ref a), .val (.int p9), .val (.int t9), .val (.int b9), .val (.int u9)] [(.long (0 : Int64)), (.long (((((p9).toInt64) <<< (((32 : Int32)).toInt64 &&& 63)) ||| (((t9).toInt64) <<< (((2 : Int32)).toInt64 &&& 63))) ||| v37)), (.int (1 : Int32)), (.ref r)])) (fun t_ k_ => XT.lconstV X33.here hx rfl (0 : Int64) (hb hby dA2_67) (by decide) k_) ?_
      exact k39 _ (if_pos hb38).symm
    · refine own_step (T' := T19) (g' := (mkF m 61 #[.val (.ref a), .val (.int p9), .val (.int t9), .val (.int b9), .val (.int u9)] [(.long (((((p9).toInt64) <<< (((32 : Int32)).toInt64 &&& 63)) ||| (((t9).toInt64) <<< (((2 : Int32)).toInt64 &&& 63))) ||| v37)), (.int (1 : Int32)), (.ref r)])) (fun t_ k_ => XS.ifNo X33.here hx rfl (hb hby dA2_58) rfl (XT.i0_eq_f hb38) k_) ?_
      refine own_step (T' := T19) (g' := (mkF m 64 #[.val (.ref a), .val (.int p9), .val (.int t9), .val (.int b9), .val (.int u9)] [(.long (2 : Int64)), (.long (((((p9).toInt64) <<< (((32 : Int32)).toInt64 &&& 63)) ||| (((t9).toInt64) <<< (((2 : Int32)).toInt64 &&& 63))) ||| v37)), (.int (1 : Int32)), (.ref r)])) (fun t_ k_ => X33.ldc2J hx hown (mvT hZ (hw _ (List.mem_of_getElem? (i := 92) rfl))) rfl (hb hby dA2_61) k_) ?_
      refine own_step (T' := T19) (g' := (mkF m 68 #[.val (.ref a), .val (.int p9), .val (.int t9), .val (.int b9), .val (.int u9)] [(.long (2 : Int64)), (.long (((((p9).toInt64) <<< (((32 : Int32)).toInt64 &&& 63)) ||| (((t9).toInt64) <<< (((2 : Int32)).toInt64 &&& 63))) ||| v37)), (.int (1 : Int32)), (.ref r)])) (fun t_ k_ => XS.goto X33.here hx rfl (pc0 := 64) (pc' := 68) rfl (hb hby dA2_64) (by decide) (by decide) k_) ?_
      exact k39 _ (if_neg hb38).symm
  intro v40 hv40
  refine own_step (T' := T19) (g' := (mkF m 69 #[.val (.ref a), .val (.int p9), .val (.int t9), .val (.int b9), .val (.int u9)] [(.long ((((((p9).toInt64) <<< (((32 : Int32)).toInt64 &&& 63)) ||| (((t9).toInt64) <<< (((2 : Int32)).toInt64 &&& 63))) ||| v37) ||| v40)), (.int (1 : Int32)), (.ref r)])) (fun t_ k_ => XT.lor X33.here hx rfl (hb hby dA2_68) rfl k_) ?_
  obtain ⟨cl41, Ar42, Lx43⟩ := id F30
  obtain ⟨T44, h45, X46, e47, W48, st49⟩ := stJ X33 hx hZ e22 Ar42 (j := (1 : Int32)) (own_inb' Lx43 (n := 8) rfl (by decide) (by decide)) (g := (mkF m 69 #[.val (.ref a), .val (.int p9), .val (.int t9), .val (.int b9), .val (.int u9)] [(.long ((((((p9).toInt64) <<< (((32 : Int32)).toInt64 &&& 63)) ||| (((t9).toInt64) <<< (((2 : Int32)).toInt64 &&& 63))) ||| v37) ||| v40)), (.int (1 : Int32)), (.ref r)])) rfl rfl (hb hby dA2_69)
  have N50 := Fr.snoc X46 N34 gr
  have F51 : n0 ≤ h45.size := Nat.le_trans F26 (Keep.of_wr W48).1
  have F52 : Exa Z h45 a "com/example/dossier_into_mets/dossierintomets/MemberDivs" := F27.wr W48
  have F53 : Fld Z h45 a "com/example/dossier_into_mets/dossierintomets/MemberDivs" "divs" "[J" (.ref r) := F28.other W48 (Or.inl (Ne.symm nra))
  have F54 : Fld Z h45 a "com/example/dossier_into_mets/dossierintomets/MemberDivs" "count" "I" (.int (2 : Int32)) := F29.other W48 (Or.inl (Ne.symm nra))
  have V55 : own_Arl Z h45 r .long [(.long w1), (.long ((((((p9).toInt64) <<< (((32 : Int32)).toInt64 &&& 63)) ||| (((t9).toInt64) <<< (((2 : Int32)).toInt64 &&& 63))) ||| v37) ||| v40)), (.long (0 : Int64)), (.long (0 : Int64)), (.long (0 : Int64)), (.long (0 : Int64)), (.long (0 : Int64)), (.long (0 : Int64))] := own_Arl.set' (j := (1 : Int32)) F30 W48 (i := 1) (by decide)
  have F56 : Keep h0 h45 [a, r] := F31.wr W48 (Or.inl (List.mem_of_getElem? (i := 1) rfl))
  obtain ⟨Lo57, X58, N59⟩ : ∃ Lo_, Stand p l e ({ frames := 0, cells := 0, slots := 0, locals := 0 } : Room) s m #[(.ref a), (.int p9), (.int t9), (.int b9), (.int u9)] below meth c T44 Lo_ 0 0 ∧ Fr n0 Lo_ := ⟨_, X46, N50⟩
  refine own_step (T' := T44) (g' := (mkF m 70 #[.val (.ref a), .val (.int p9), .val (.int t9), .val (.int b9), .val (.int u9)] [])) st49 ?_
  refine own_step (T' := T44) (g' := (mkF m 71 #[.val (.ref a), .val (.int p9), .val (.int t9), .val (.int b9), .val (.int u9)] [(.int (1 : Int32))])) (fun t_ k_ => XT.iconstV X58.here hx rfl (1 : Int32) (hb hby dA2_70) (by decide) k_) ?_
  exact own_retN X58 hx hlk (t := .boolean) Bd.returns (by simp) (hb hby dA2_71) (by rw [e47]; exact ⟨rfl, N59, F56, F53, by unfold own_val; rw [← hv37, ← hv40]; exact V55⟩) (by decide) (by decide)
theorem dU0_0 : decode prog_40_method_9_code 0 = .ok (.aload_n 0, 1) := by decide +kernel
theorem dU0_1 : decode prog_40_method_9_code 1 = .ok (.getfield 25, 3) := by decide +kernel
theorem dU0_4 : decode prog_40_method_9_code 4 = .ok (.iload_n 1, 1) := by decide +kernel
theorem dU0_5 : decode prog_40_method_9_code 5 = .ok (.laload, 1) := by decide +kernel
theorem dU0_6 : decode prog_40_method_9_code 6 = .ok (.ldc2_w 72, 3) := by decide +kernel
theorem dU0_9 : decode prog_40_method_9_code 9 = .ok (.land, 1) := by decide +kernel
theorem dU0_10 : decode prog_40_method_9_code 10 = .ok (.lconst 0, 1) := by decide +kernel
theorem dU0_11 : decode prog_40_method_9_code 11 = .ok (.lcmp, 1) := by decide +kernel
theorem dU0_12 : decode prog_40_method_9_code 12 = .ok (.ifCond .eq 7, 3) := by decide +kernel
theorem dU0_15 : decode prog_40_method_9_code 15 = .ok (.iconst 1, 1) := by decide +kernel
theorem dU0_16 : decode prog_40_method_9_code 16 = .ok (.goto 4, 3) := by decide +kernel
theorem dU0_19 : decode prog_40_method_9_code 19 = .ok (.iconst 0, 1) := by decide +kernel
theorem dU0_20 : decode prog_40_method_9_code 20 = .ok (.ireturn, 1) := by decide +kernel
theorem pn_U0 : plainFor (⟨"com/example/dossier_into_mets/dossierintomets/MemberDivs", "byUrl", "(I)Z"⟩ : MethodName) = true := by first | exact plainFor_of_name (by first | (simp [plainName, overriddenIn]; done) | decide +kernel) | decide +kernel
theorem ef_U0 (m : MethodId) (x0 : Addr) (x1 : Int32) : entryFrame m #[(.ref x0), (.int x1)] 2 = mkF m 0 #[.val (.ref x0), .val (.int x1)] [] := by first | (simp [entryFrame, mkF, argsToLocals, Value.category]; done) | rfl
def Q_U0 (w1 w2 : Int64) (h0 : Heap) (n0 : Nat) (v : Option Value) (h : Heap) (L : List Loc) : Prop := v = some (.int (if (w1 &&& (2 : Int64)) = (0 : Int64) then (0 : Int32) else (1 : Int32))) ∧ Fr n0 L ∧ h = h0
set_option maxRecDepth 65536 in
set_option maxHeartbeats 40000000 in
theorem rm_url0 (l : Launch) (Z : State) (a0 : Array Value) (hw : ∀ d ∈ tables_1, d.before a0 Z = true) (ws : List Jvm.Cond) (a r : Addr) (w1 w2 : Int64) (h0 : Heap) (n0 : Nat) (Z0 : n0 ≤ h0.size) (F_divs : Fld Z h0 a "com/example/dossier_into_mets/dossierintomets/MemberDivs" "divs" "[J" (.ref r)) (V0 : own_Arl Z h0 r .long [(.long w1), (.long w2), (.long (0 : Int64)), (.long (0 : Int64)), (.long (0 : Int64)), (.long (0 : Int64)), (.long (0 : Int64)), (.long (0 : Int64))]) :
    MetFree l (⟨"com/example/dossier_into_mets/dossierintomets/MemberDivs", "byUrl", "(I)Z"⟩ : MethodName) (head1 (Jvm.Cond.code (⟨"com/example/dossier_into_mets/dossierintomets/MemberDivs", "byUrl", "(I)Z"⟩ : MethodName) prog_40_method_9_code 2 (some .boolean) :: ws) ({ frames := 0, cells := 0, slots := 0, locals := 0 } : Room)) (fun as_ U => as_ = #[(.ref a), (.int (0 : Int32))] ∧ Z.Warmed39 U.vm ∧ U.heap = h0) (fun _ _ _ _ _ => True) (fun _ U o U' => ∃ v L, o = .returned v ∧ Q_U0 w1 w2 h0 n0 v U'.heap L ∧ FrameEnd U o U' L ({ frames := 0, cells := 0, slots := 0, locals := 0 } : Room).cells ({ frames := 0, cells := 0, slots := 0, locals := 0 } : Room).slots) := by
  refine MetFree.of_bodySF pn_U0 hisR ?_
  intro p e s m args below meth c s₁ Bd hml0 hP hK
  obtain ⟨rfl, hZ, hh⟩ := hP
  have hx := Bd.exec
  have hby := Bd.bytes
  have hlk := BodyLoose.notSynchronized Bd
  have hml : c.maxLocals = 2 := hml0
  have hown : s.vm.findClass "com/example/dossier_into_mets/dossierintomets/MemberDivs" = some m.cls := findClass_of_methodNamed Bd.named
  have hnm := (name_of_methodNamed Bd.named Bd.method).1
  have X0 : Stand p l e ({ frames := 0, cells := 0, slots := 0, locals := 0 } : Room) s m #[(.ref a), (.int (0 : Int32))] below meth c s₁ [] 0 0 := Stand.of_body Bd
  have e0 : s₁.heap = h0 := by rw [← hh, Bd.state]; rfl
  have N0 := Fr.nil n0
  refine own_in (ef_U0 m a (0 : Int32)) ?_
  show own_Fin p e below s (Q_U0 w1 w2 h0 n0) 0 0 s₁ (mkF m 0 #[.val (.ref a), .val (.int (0 : Int32))] [])
  refine own_step (T' := s₁) (g' := (mkF m 1 #[.val (.ref a), .val (.int (0 : Int32))] [(.ref a)])) (fun t_ k_ => XS.aloadN X0.here hx rfl (hb hby dU0_0) rfl rfl k_) ?_
  obtain ⟨T1, X2, e3, st4⟩ := getF X0 hx hZ hown (host := "") (Or.inl (hw _ (List.mem_of_getElem? (i := 72) rfl))) Via.refl e0 F_divs (g := (mkF m 1 #[.val (.ref a), .val (.int (0 : Int32))] [(.ref a)])) rfl rfl (hb hby dU0_1)
  refine own_step (T' := T1) (g' := (mkF m 4 #[.val (.ref a), .val (.int (0 : Int32))] [(.ref r)])) st4 ?_
  refine own_step (T' := T1) (g' := (mkF m 5 #[.val (.ref a), .val (.int (0 : Int32))] [(.int (0 : Int32)), (.ref r)])) (fun t_ k_ => XS.iloadN X2.here hx rfl (hb hby dU0_4) rfl k_) ?_
  have st5 := own_laload (g := (mkF m 5 #[.val (.ref a), .val (.int (0 : Int32))] [(.int (0 : Int32)), (.ref r)])) X2 hx hZ e3 V0 (v := (.long w1)) (by decide) (own_ix (k := 0) (by decide) rfl) rfl rfl (hb hby dU0_5)
  refine own_step (T' := T1) (g' := (mkF m 6 #[.val (.ref a), .val (.int (0 : Int32))] [(.long w1)])) st5 ?_
  refine own_step (T' := T1) (g' := (mkF m 9 #[.val (.ref a), .val (.int (0 : Int32))] [(.long (2 : Int64)), (.long w1)])) (fun t_ k_ => X2.ldc2J hx hown (mvT hZ (hw _ (List.mem_of_getElem? (i := 92) rfl))) rfl (hb hby dU0_6) k_) ?_
  refine own_step (T' := T1) (g' := (mkF m 10 #[.val (.ref a), .val (.int (0 : Int32))] [(.long (w1 &&& (2 : Int64)))])) (fun t_ k_ => XT.land X2.here hx rfl (hb hby dU0_9) rfl k_) ?_
  refine own_step (T' := T1) (g' := (mkF m 11 #[.val (.ref a), .val (.int (0 : Int32))] [(.long (0 : Int64)), (.long (w1 &&& (2 : Int64)))])) (fun t_ k_ => XT.lconstV X2.here hx rfl (0 : Int64) (hb hby dU0_10) (by decide) k_) ?_
  refine own_step (T' := T1) (g' := (mkF m 12 #[.val (.ref a), .val (.int (0 : Int32))] [(.int (XT.cmpL (w1 &&& (2 : Int64)) (0 : Int64)))])) (fun t_ k_ => XT.lcmp X2.here hx rfl (hb hby dU0_11) rfl k_) ?_
  suffices k7 : ∀ v8 : Int32, v8 = (if (w1 &&& (2 : Int64)) = (0 : Int64) then (0 : Int32) else (1 : Int32)) → own_Fin p e below s (Q_U0 w1 w2 h0 n0) 0 0 T1 (mkF m 20 #[.val (.ref a), .val (.int (0 : Int32))] [(.int v8)]) by
    by_cases hb6 : (w1 &&& (2 : Int64)) = (0 : Int64)
    · refine own_step (T' := T1) (g' := (mkF m 19 #[.val (.ref a), .val (.int (0 : Int32))] [])) (fun t_ k_ => XS.ifYes X2.here hx rfl (pc0 := 12) (pc' := 19) rfl (hb hby dU0_12) rfl (XT.ll_eq_t hb6) (by decide) (by decide) k_) ?_
      refine own_step (T' := T1) (g' := (mkF m 20 #[.val (.ref a), .val (.int (0 : Int32))] [(.int (0 : Int32))])) (fun t_ k_ => XT.iconstV X2.here hx rfl (0 : Int32) (hb hby dU0_19) (by decide) k_) ?_
      exact k7 _ (if_pos hb6).symm
    · refine own_step (T' := T1) (g' := (mkF m 15 #[.val (.ref a), .val (.int (0 : Int32))] [])) (fun t_ k_ => XS.ifNo X2.here hx rfl (hb hby dU0_12) rfl (XT.ll_eq_f hb6) k_) ?_
      refine own_step (T' := T1) (g' := (mkF m 16 #[.val (.ref a), .val (.int (0 : Int32))] [(.int (1 : Int32))])) (fun t_ k_ => XT.iconstV X2.here hx rfl (1 : Int32) (hb hby dU0_15) (by decide) k_) ?_
      refine own_step (T' := T1) (g' := (mkF m 20 #[.val (.ref a), .val (.int (0 : Int32))] [(.int (1 : Int32))])) (fun t_ k_ => XS.goto X2.here hx rfl (pc0 := 16) (pc' := 20) rfl (hb hby dU0_16) (by decide) (by decide) k_) ?_
      exact k7 _ (if_neg hb6).symm
  intro v8 hv8
  exact own_retN X2 hx hlk (t := .boolean) Bd.returns (by simp) (hb hby dU0_20) (by rw [e3]; exact ⟨by rw [hv8, own_nar_ite (by decide) (by decide)], N0, rfl⟩) (by decide) (by decide)
theorem dU1_0 : decode prog_40_method_9_code 0 = .ok (.aload_n 0, 1) := by decide +kernel
theorem dU1_1 : decode prog_40_method_9_code 1 = .ok (.getfield 25, 3) := by decide +kernel
theorem dU1_4 : decode prog_40_method_9_code 4 = .ok (.iload_n 1, 1) := by decide +kernel
theorem dU1_5 : decode prog_40_method_9_code 5 = .ok (.laload, 1) := by decide +kernel
theorem dU1_6 : decode prog_40_method_9_code 6 = .ok (.ldc2_w 72, 3) := by decide +kernel
theorem dU1_9 : decode prog_40_method_9_code 9 = .ok (.land, 1) := by decide +kernel
theorem dU1_10 : decode prog_40_method_9_code 10 = .ok (.lconst 0, 1) := by decide +kernel
theorem dU1_11 : decode prog_40_method_9_code 11 = .ok (.lcmp, 1) := by decide +kernel
theorem dU1_12 : decode prog_40_method_9_code 12 = .ok (.ifCond .eq 7, 3) := by decide +kernel
theorem dU1_15 : decode prog_40_method_9_code 15 = .ok (.iconst 1, 1) := by decide +kernel
theorem dU1_16 : decode prog_40_method_9_code 16 = .ok (.goto 4, 3) := by decide +kernel
theorem dU1_19 : decode prog_40_method_9_code 19 = .ok (.iconst 0, 1) := by decide +kernel
theorem dU1_20 : decode prog_40_method_9_code 20 = .ok (.ireturn, 1) := by decide +kernel
theorem pn_U1 : plainFor (⟨"com/example/dossier_into_mets/dossierintomets/MemberDivs", "byUrl", "(I)Z"⟩ : MethodName) = true := by first | exact plainFor_of_name (by first | (simp [plainName, overriddenIn]; done) | decide +kernel) | decide +kernel
theorem ef_U1 (m : MethodId) (x0 : Addr) (x1 : Int32) : entryFrame m #[(.ref x0), (.int x1)] 2 = mkF m 0 #[.val (.ref x0), .val (.int x1)] [] := by first | (simp [entryFrame, mkF, argsToLocals, Value.category]; done) | rfl
def Q_U1 (w1 w2 : Int64) (h0 : Heap) (n0 : Nat) (v : Option Value) (h : Heap) (L : List Loc) : Prop := v = some (.int (if (w2 &&& (2 : Int64)) = (0 : Int64) then (0 : Int32) else (1 : Int32))) ∧ Fr n0 L ∧ h = h0
set_option maxRecDepth 65536 in
set_option maxHeartbeats 40000000 in
theorem rm_url1 (l : Launch) (Z : State) (a0 : Array Value) (hw : ∀ d ∈ tables_1, d.before a0 Z = true) (ws : List Jvm.Cond) (a r : Addr) (w1 w2 : Int64) (h0 : Heap) (n0 : Nat) (Z0 : n0 ≤ h0.size) (F_divs : Fld Z h0 a "com/example/dossier_into_mets/dossierintomets/MemberDivs" "divs" "[J" (.ref r)) (V0 : own_Arl Z h0 r .long [(.long w1), (.long w2), (.long (0 : Int64)), (.long (0 : Int64)), (.long (0 : Int64)), (.long (0 : Int64)), (.long (0 : Int64)), (.long (0 : Int64))]) :
    MetFree l (⟨"com/example/dossier_into_mets/dossierintomets/MemberDivs", "byUrl", "(I)Z"⟩ : MethodName) (head1 (Jvm.Cond.code (⟨"com/example/dossier_into_mets/dossierintomets/MemberDivs", "byUrl", "(I)Z"⟩ : MethodName) prog_40_method_9_code 2 (some .boolean) :: ws) ({ frames := 0, cells := 0, slots := 0, locals := 0 } : Room)) (fun as_ U => as_ = #[(.ref a), (.int (1 : Int32))] ∧ Z.Warmed39 U.vm ∧ U.heap = h0) (fun _ _ _ _ _ => True) (fun _ U o U' => ∃ v L, o = .returned v ∧ Q_U1 w1 w2 h0 n0 v U'.heap L ∧ FrameEnd U o U' L ({ frames := 0, cells := 0, slots := 0, locals := 0 } : Room).cells ({ frames := 0, cells := 0, slots := 0, locals := 0 } : Room).slots) := by
  refine MetFree.of_bodySF pn_U1 hisR ?_
  intro p e s m args below meth c s₁ Bd hml0 hP hK
  obtain ⟨rfl, hZ, hh⟩ := hP
  have hx := Bd.exec
  have hby := Bd.bytes
  have hlk := BodyLoose.notSynchronized Bd
  have hml : c.maxLocals = 2 := hml0
  have hown : s.vm.findClass "com/example/dossier_into_mets/dossierintomets/MemberDivs" = some m.cls := findClass_of_methodNamed Bd.named
  have hnm := (name_of_methodNamed Bd.named Bd.method).1
  have X0 : Stand p l e ({ frames := 0, cells := 0, slots := 0, locals := 0 } : Room) s m #[(.ref a), (.int (1 : Int32))] below meth c s₁ [] 0 0 := Stand.of_body Bd
  have e0 : s₁.heap = h0 := by rw [← hh, Bd.state]; rfl
  have N0 := Fr.nil n0
  refine own_in (ef_U1 m a (1 : Int32)) ?_
  show own_Fin p e below s (Q_U1 w1 w2 h0 n0) 0 0 s₁ (mkF m 0 #[.val (.ref a), .val (.int (1 : Int32))] [])
  refine own_step (T' := s₁) (g' := (mkF m 1 #[.val (.ref a), .val (.int (1 : Int32))] [(.ref a)])) (fun t_ k_ => XS.aloadN X0.here hx rfl (hb hby dU1_0) rfl rfl k_) ?_
  obtain ⟨T1, X2, e3, st4⟩ := getF X0 hx hZ hown (host := "") (Or.inl (hw _ (List.mem_of_getElem? (i := 72) rfl))) Via.refl e0 F_divs (g := (mkF m 1 #[.val (.ref a), .val (.int (1 : Int32))] [(.ref a)])) rfl rfl (hb hby dU1_1)
  refine own_step (T' := T1) (g' := (mkF m 4 #[.val (.ref a), .val (.int (1 : Int32))] [(.ref r)])) st4 ?_
  refine own_step (T' := T1) (g' := (mkF m 5 #[.val (.ref a), .val (.int (1 : Int32))] [(.int (1 : Int32)), (.ref r)])) (fun t_ k_ => XS.iloadN X2.here hx rfl (hb hby dU1_4) rfl k_) ?_
  have st5 := own_laload (g := (mkF m 5 #[.val (.ref a), .val (.int (1 : Int32))] [(.int (1 : Int32)), (.ref r)])) X2 hx hZ e3 V0 (v := (.long w2)) (by decide) (own_ix (k := 1) (by decide) rfl) rfl rfl (hb hby dU1_5)
  refine own_step (T' := T1) (g' := (mkF m 6 #[.val (.ref a), .val (.int (1 : Int32))] [(.long w2)])) st5 ?_
  refine own_step (T' := T1) (g' := (mkF m 9 #[.val (.ref a), .val (.int (1 : Int32))] [(.long (2 : Int64)), (.long w2)])) (fun t_ k_ => X2.ldc2J hx hown (mvT hZ (hw _ (List.mem_of_getElem? (i := 92) rfl))) rfl (hb hby dU1_6) k_) ?_
  refine own_step (T' := T1) (g' := (mkF m 10 #[.val (.ref a), .val (.int (1 : Int32))] [(.long (w2 &&& (2 : Int64)))])) (fun t_ k_ => XT.land X2.here hx rfl (hb hby dU1_9) rfl k_) ?_
  refine own_step (T' := T1) (g' := (mkF m 11 #[.val (.ref a), .val (.int (1 : Int32))] [(.long (0 : Int64)), (.long (w2 &&& (2 : Int64)))])) (fun t_ k_ => XT.lconstV X2.here hx rfl (0 : Int64) (hb hby dU1_10) (by decide) k_) ?_
  refine own_step (T' := T1) (g' := (mkF m 12 #[.val (.ref a), .val (.int (1 : Int32))] [(.int (XT.cmpL (w2 &&& (2 : Int64)) (0 : Int64)))])) (fun t_ k_ => XT.lcmp X2.here hx rfl (hb hby dU1_11) rfl k_) ?_
  suffices k7 : ∀ v8 : Int32, v8 = (if (w2 &&& (2 : Int64)) = (0 : Int64) then (0 : Int32) else (1 : Int32)) → own_Fin p e below s (Q_U1 w1 w2 h0 n0) 0 0 T1 (mkF m 20 #[.val (.ref a), .val (.int (1 : Int32))] [(.int v8)]) by
    by_cases hb6 : (w2 &&& (2 : Int64)) = (0 : Int64)
    · refine own_step (T' := T1) (g' := (mkF m 19 #[.val (.ref a), .val (.int (1 : Int32))] [])) (fun t_ k_ => XS.ifYes X2.here hx rfl (pc0 := 12) (pc' := 19) rfl (hb hby dU1_12) rfl (XT.ll_eq_t hb6) (by decide) (by decide) k_) ?_
      refine own_step (T' := T1) (g' := (mkF m 20 #[.val (.ref a), .val (.int (1 : Int32))] [(.int (0 : Int32))])) (fun t_ k_ => XT.iconstV X2.here hx rfl (0 : Int32) (hb hby dU1_19) (by decide) k_) ?_
      exact k7 _ (if_pos hb6).symm
    · refine own_step (T' := T1) (g' := (mkF m 15 #[.val (.ref a), .val (.int (1 : Int32))] [])) (fun t_ k_ => XS.ifNo X2.here hx rfl (hb hby dU1_12) rfl (XT.ll_eq_f hb6) k_) ?_
      refine own_step (T' := T1) (g' := (mkF m 16 #[.val (.ref a), .val (.int (1 : Int32))] [(.int (1 : Int32))])) (fun t_ k_ => XT.iconstV X2.here hx rfl (1 : Int32) (hb hby dU1_15) (by decide) k_) ?_
      refine own_step (T' := T1) (g' := (mkF m 20 #[.val (.ref a), .val (.int (1 : Int32))] [(.int (1 : Int32))])) (fun t_ k_ => XS.goto X2.here hx rfl (pc0 := 16) (pc' := 20) rfl (hb hby dU1_16) (by decide) (by decide) k_) ?_
      exact k7 _ (if_neg hb6).symm
  intro v8 hv8
  exact own_retN X2 hx hlk (t := .boolean) Bd.returns (by simp) (hb hby dU1_20) (by rw [e3]; exact ⟨by rw [hv8, own_nar_ite (by decide) (by decide)], N0, rfl⟩) (by decide) (by decide)
theorem pn_19 : plainFor x = true := by first | exact plainFor_of_name (by first | (simp [plainName, overriddenIn]; done) | decide +kernel) | decide +kernel
theorem ef_19 (m : MethodId) (x0 : Int32) (x1 : Int32) (x2 : Int32) (x3 : Int32) (x4 : Int32) (x5 : Int32) : entryFrame m #[(.int x0), (.int x1), (.int x2), (.int x3), (.int x4), (.int x5)] maxLocals = mkF m 0 #[.val (.int x0), .val (.int x1), .val (.int x2), .val (.int x3), .val (.int x4), .val (.int x5), .unset, .unset, .unset, .unset, .unset, .unset, .unset, .unset, .unset, .unset] [] := by first | (simp [entryFrame, mkF, argsToLocals, Value.category, maxLocals]; done) | rfl
def Q_19 (h0 : Heap) (n0 : Nat) (v : Option Value) (h : Heap) (L : List Loc) : Prop := v = some (.int 1) ∧ Fr n0 L
set_option maxRecDepth 65536 in
set_option maxHeartbeats 40000000 in
theorem rm_law (l : Launch) (Z : State) (a0 : Array Value) (hw : ∀ d ∈ tables_1, d.before a0 Z = true) (ws : List Jvm.Cond) (p1 t1 f1 p2 t2 f2 : Int32) (dd : Addr) (h0 : Heap) (n0 : Nat) (Z0 : n0 ≤ h0.size)  (O0 : Old Z n0 h0) (SD : Sta Z Z.heap "java/util/ArrayList" "DEFAULTCAPACITY_EMPTY_ELEMENTDATA" "[Ljava/lang/Object;" (.ref dd)) :
    MetFree l x (head1 (Jvm.Cond.code x code maxLocals ret :: ws) room_1) (fun as_ U => as_ = #[(.int p1), (.int t1), (.int f1), (.int p2), (.int t2), (.int f2)] ∧ Z.Warmed39 U.vm ∧ U.heap = h0) (fun _ _ _ _ _ => True) (fun _ U o U' => ∃ v L, o = .returned v ∧ Q_19 h0 n0 v U'.heap L ∧ own_FE U o U' L 8 52) := by
  refine MetFree.of_bodySF pn_19 hisR ?_
  intro p e s m args below meth c s₁ Bd hml0 hP hK
  obtain ⟨rfl, hZ, hh⟩ := hP
  have hx := Bd.exec
  have hby := Bd.bytes
  have hlk := BodyLoose.notSynchronized Bd
  have hml : c.maxLocals = 16 := hml0
  have hown : s.vm.findClass "com/example/dossier_into_mets/dossierintomets/MemberDivsByUrlPinLaw" = some m.cls := findClass_of_methodNamed Bd.named
  have hnm := (name_of_methodNamed Bd.named Bd.method).1
  have X0 : Stand p l e room_1 s m #[(.int p1), (.int t1), (.int f1), (.int p2), (.int t2), (.int f2)] below meth c s₁ [] 0 0 := Stand.of_body Bd
  have e0 : s₁.heap = h0 := by rw [← hh, Bd.state]; rfl
  have N0 := Fr.nil n0
  refine own_inW (ef_19 m p1 t1 f1 p2 t2 f2) ?_
  show own_FinW p e below s (Q_19 h0 n0) 8 52 s₁ (mkF m 0 #[.val (.int p1), .val (.int t1), .val (.int f1), .val (.int p2), .val (.int t2), .val (.int f2), .unset, .unset, .unset, .unset, .unset, .unset, .unset, .unset, .unset, .unset] [])
  refine own_stepW (T' := s₁) (g' := (mkF m 1 #[.val (.int p1), .val (.int t1), .val (.int f1), .val (.int p2), .val (.int t2), .val (.int f2), .unset, .unset, .unset, .unset, .unset, .unset, .unset, .unset, .unset, .unset] [(.int f1)])) (fun t_ k_ => XS.iloadN X0.here hx rfl (hb hby at_0) rfl k_) ?_
  refine own_stepW (T' := s₁) (g' := (mkF m 2 #[.val (.int p1), .val (.int t1), .val (.int f1), .val (.int p2), .val (.int t2), .val (.int f2), .unset, .unset, .unset, .unset, .unset, .unset, .unset, .unset, .unset, .unset] [(.int (1 : Int32)), (.int f1)])) (fun t_ k_ => XT.iconstV X0.here hx rfl (1 : Int32) (hb hby at_1) (by decide) k_) ?_
  refine own_stepW (T' := s₁) (g' := (mkF m 3 #[.val (.int p1), .val (.int t1), .val (.int f1), .val (.int p2), .val (.int t2), .val (.int f2), .unset, .unset, .unset, .unset, .unset, .unset, .unset, .unset, .unset, .unset] [(.int (f1 &&& (1 : Int32)))])) (fun t_ k_ => XS.iand X0.here hx rfl (hb hby at_2) rfl k_) ?_
  suffices k2 : ∀ v3 : Int32, v3 = (if (f1 &&& (1 : Int32)) = 0 then (0 : Int32) else (1 : Int32)) → own_FinW p e below s (Q_19 h0 n0) 8 52 s₁ (mkF m 11 #[.val (.int p1), .val (.int t1), .val (.int f1), .val (.int p2), .val (.int t2), .val (.int f2), .unset, .unset, .unset, .unset, .unset, .unset, .unset, .unset, .unset, .unset] [(.int v3)]) by
    by_cases hb1 : (f1 &&& (1 : Int32)) = 0
    · refine own_stepW (T' := s₁) (g' := (mkF m 10 #[.val (.int p1), .val (.int t1), .val (.int f1), .val (.int p2), .val (.int t2), .val (.int f2), .unset, .unset, .unset, .unset, .unset, .unset, .unset, .unset, .unset, .unset] [])) (fun t_ k_ => XS.ifYes X0.here hx rfl (pc0 := 3) (pc' := 10) rfl (hb hby at_3) rfl (XT.i0_eq_t hb1) (by decide) (by decide) k_) ?_
      refine own_stepW (T' := s₁) (g' := (mkF m 11 #[.val (.int p1), .val (.int t1), .val (.int f1), .val (.int p2), .val (.int t2), .val (.int f2), .unset, .unset, .unset, .unset, .unset, .unset, .unset, .unset, .unset, .unset] [(.int (0 : Int32))])) (fun t_ k_ => XT.iconstV X0.here hx rfl (0 : Int32) (hb hby at_10) (by decide) k_) ?_
      exact k2 _ (if_pos hb1).symm
    · refine own_stepW (T' := s₁) (g' := (mkF m 6 #[.val (.int p1), .val (.int t1), .val (.int f1), .val (.int p2), .val (.int t2), .val (.int f2), .unset, .unset, .unset, .unset, .unset, .unset, .unset, .unset, .unset, .unset] [])) (fun t_ k_ => XS.ifNo X0.here hx rfl (hb hby at_3) rfl (XT.i0_eq_f hb1) k_) ?_
      refine own_stepW (T' := s₁) (g' := (mkF m 7 #[.val (.int p1), .val (.int t1), .val (.int f1), .val (.int p2), .val (.int t2), .val (.int f2), .unset, .unset, .unset, .unset, .unset, .unset, .unset, .unset, .unset, .unset] [(.int (1 : Int32))])) (fun t_ k_ => XT.iconstV X0.here hx rfl (1 : Int32) (hb hby at_6) (by decide) k_) ?_
      refine own_stepW (T' := s₁) (g' := (mkF m 11 #[.val (.int p1), .val (.int t1), .val (.int f1), .val (.int p2), .val (.int t2), .val (.int f2), .unset, .unset, .unset, .unset, .unset, .unset, .unset, .unset, .unset, .unset] [(.int (1 : Int32))])) (fun t_ k_ => XS.goto X0.here hx rfl (pc0 := 7) (pc' := 11) rfl (hb hby at_7) (by decide) (by decide) k_) ?_
      exact k2 _ (if_neg hb1).symm
  intro v3 hv3
  refine own_stepW (T' := s₁) (g' := (mkF m 13 #[.val (.int p1), .val (.int t1), .val (.int f1), .val (.int p2), .val (.int t2), .val (.int f2), .val (.int v3), .unset, .unset, .unset, .unset, .unset, .unset, .unset, .unset, .unset] [])) (fun t_ k_ => XS.istore X0.here hx rfl (hb hby at_11) rfl (l' := #[.val (.int p1), .val (.int t1), .val (.int f1), .val (.int p2), .val (.int t2), .val (.int f2), .val (.int v3), .unset, .unset, .unset, .unset, .unset, .unset, .unset, .unset, .unset]) rfl k_) ?_
  refine own_stepW (T' := s₁) (g' := (mkF m 14 #[.val (.int p1), .val (.int t1), .val (.int f1), .val (.int p2), .val (.int t2), .val (.int f2), .val (.int v3), .unset, .unset, .unset, .unset, .unset, .unset, .unset, .unset, .unset] [(.int f1)])) (fun t_ k_ => XS.iloadN X0.here hx rfl (hb hby at_13) rfl k_) ?_
  refine own_stepW (T' := s₁) (g' := (mkF m 15 #[.val (.int p1), .val (.int t1), .val (.int f1), .val (.int p2), .val (.int t2), .val (.int f2), .val (.int v3), .unset, .unset, .unset, .unset, .unset, .unset, .unset, .unset, .unset] [(.int (2 : Int32)), (.int f1)])) (fun t_ k_ => XT.iconstV X0.here hx rfl (2 : Int32) (hb hby at_14) (by decide) k_) ?_
  refine own_stepW (T' := s₁) (g' := (mkF m 16 #[.val (.int p1), .val (.int t1), .val (.int f1), .val (.int p2), .val (.int t2), .val (.int f2), .val (.int v3), .unset, .unset, .unset, .unset, .unset, .unset, .unset, .unset, .unset] [(.int (f1 &&& (2 : Int32)))])) (fun t_ k_ => XS.iand X0.here hx rfl (hb hby at_15) rfl k_) ?_
  suffices k5 : ∀ v6 : Int32, v6 = (if (f1 &&& (2 : Int32)) = 0 then (0 : Int32) else (1 : Int32)) → own_FinW p e below s (Q_19 h0 n0) 8 52 s₁ (mkF m 24 #[.val (.int p1), .val (.int t1), .val (.int f1), .val (.int p2), .val (.int t2), .val (.int f2), .val (.int v3), .unset, .unset, .unset, .unset, .unset, .unset, .unset, .unset, .unset] [(.int v6)]) by
    by_cases hb4 : (f1 &&& (2 : Int32)) = 0
    · refine own_stepW (T' := s₁) (g' := (mkF m 23 #[.val (.int p1), .val (.int t1), .val (.int f1), .val (.int p2), .val (.int t2), .val (.int f2), .val (.int v3), .unset, .unset, .unset, .unset, .unset, .unset, .unset, .unset, .unset] [])) (fun t_ k_ => XS.ifYes X0.here hx rfl (pc0 := 16) (pc' := 23) rfl (hb hby at_16) rfl (XT.i0_eq_t hb4) (by decide) (by decide) k_) ?_
      refine own_stepW (T' := s₁) (g' := (mkF m 24 #[.val (.int p1), .val (.int t1), .val (.int f1), .val (.int p2), .val (.int t2), .val (.int f2), .val (.int v3), .unset, .unset, .unset, .unset, .unset, .unset, .unset, .unset, .unset] [(.int (0 : Int32))])) (fun t_ k_ => XT.iconstV X0.here hx rfl (0 : Int32) (hb hby at_23) (by decide) k_) ?_
      exact k5 _ (if_pos hb4).symm
    · refine own_stepW (T' := s₁) (g' := (mkF m 19 #[.val (.int p1), .val (.int t1), .val (.int f1), .val (.int p2), .val (.int t2), .val (.int f2), .val (.int v3), .unset, .unset, .unset, .unset, .unset, .unset, .unset, .unset, .unset] [])) (fun t_ k_ => XS.ifNo X0.here hx rfl (hb hby at_16) rfl (XT.i0_eq_f hb4) k_) ?_
      refine own_stepW (T' := s₁) (g' := (mkF m 20 #[.val (.int p1), .val (.int t1), .val (.int f1), .val (.int p2), .val (.int t2), .val (.int f2), .val (.int v3), .unset, .unset, .unset, .unset, .unset, .unset, .unset, .unset, .unset] [(.int (1 : Int32))])) (fun t_ k_ => XT.iconstV X0.here hx rfl (1 : Int32) (hb hby at_19) (by decide) k_) ?_
      refine own_stepW (T' := s₁) (g' := (mkF m 24 #[.val (.int p1), .val (.int t1), .val (.int f1), .val (.int p2), .val (.int t2), .val (.int f2), .val (.int v3), .unset, .unset, .unset, .unset, .unset, .unset, .unset, .unset, .unset] [(.int (1 : Int32))])) (fun t_ k_ => XS.goto X0.here hx rfl (pc0 := 20) (pc' := 24) rfl (hb hby at_20) (by decide) (by decide) k_) ?_
      exact k5 _ (if_neg hb4).symm
  intro v6 hv6
  refine own_stepW (T' := s₁) (g' := (mkF m 26 #[.val (.int p1), .val (.int t1), .val (.int f1), .val (.int p2), .val (.int t2), .val (.int f2), .val (.int v3), .val (.int v6), .unset, .unset, .unset, .unset, .unset, .unset, .unset, .unset] [])) (fun t_ k_ => XS.istore X0.here hx rfl (hb hby at_24) rfl (l' := #[.val (.int p1), .val (.int t1), .val (.int f1), .val (.int p2), .val (.int t2), .val (.int f2), .val (.int v3), .val (.int v6), .unset, .unset, .unset, .unset, .unset, .unset, .unset, .unset]) rfl k_) ?_
  refine own_stepW (T' := s₁) (g' := (mkF m 28 #[.val (.int p1), .val (.int t1), .val (.int f1), .val (.int p2), .val (.int t2), .val (.int f2), .val (.int v3), .val (.int v6), .unset, .unset, .unset, .unset, .unset, .unset, .unset, .unset] [(.int f2)])) (fun t_ k_ => XS.iload X0.here hx rfl (hb hby at_26) rfl k_) ?_
  refine own_stepW (T' := s₁) (g' := (mkF m 29 #[.val (.int p1), .val (.int t1), .val (.int f1), .val (.int p2), .val (.int t2), .val (.int f2), .val (.int v3), .val (.int v6), .unset, .unset, .unset, .unset, .unset, .unset, .unset, .unset] [(.int (1 : Int32)), (.int f2)])) (fun t_ k_ => XT.iconstV X0.here hx rfl (1 : Int32) (hb hby at_28) (by decide) k_) ?_
  refine own_stepW (T' := s₁) (g' := (mkF m 30 #[.val (.int p1), .val (.int t1), .val (.int f1), .val (.int p2), .val (.int t2), .val (.int f2), .val (.int v3), .val (.int v6), .unset, .unset, .unset, .unset, .unset, .unset, .unset, .unset] [(.int (f2 &&& (1 : Int32)))])) (fun t_ k_ => XS.iand X0.here hx rfl (hb hby at_29) rfl k_) ?_
  suffices k8 : ∀ v9 : Int32, v9 = (if (f2 &&& (1 : Int32)) = 0 then (0 : Int32) else (1 : Int32)) → own_FinW p e below s (Q_19 h0 n0) 8 52 s₁ (mkF m 38 #[.val (.int p1), .val (.int t1), .val (.int f1), .val (.int p2), .val (.int t2), .val (.int f2), .val (.int v3), .val (.int v6), .unset, .unset, .unset, .unset, .unset, .unset, .unset, .unset] [(.int v9)]) by
    by_cases hb7 : (f2 &&& (1 : Int32)) = 0
    · refine own_stepW (T' := s₁) (g' := (mkF m 37 #[.val (.int p1), .val (.int t1), .val (.int f1), .val (.int p2), .val (.int t2), .val (.int f2), .val (.int v3), .val (.int v6), .unset, .unset, .unset, .unset, .unset, .unset, .unset, .unset] [])) (fun t_ k_ => XS.ifYes X0.here hx rfl (pc0 := 30) (pc' := 37) rfl (hb hby at_30) rfl (XT.i0_eq_t hb7) (by decide) (by decide) k_) ?_
      refine own_stepW (T' := s₁) (g' := (mkF m 38 #[.val (.int p1), .val (.int t1), .val (.int f1), .val (.int p2), .val (.int t2), .val (.int f2), .val (.int v3), .val (.int v6), .unset, .unset, .unset, .unset, .unset, .unset, .unset, .unset] [(.int (0 : Int32))])) (fun t_ k_ => XT.iconstV X0.here hx rfl (0 : Int32) (hb hby at_37) (by decide) k_) ?_
      exact k8 _ (if_pos hb7).symm
    · refine own_stepW (T' := s₁) (g' := (mkF m 33 #[.val (.int p1), .val (.int t1), .val (.int f1), .val (.int p2), .val (.int t2), .val (.int f2), .val (.int v3), .val (.int v6), .unset, .unset, .unset, .unset, .unset, .unset, .unset, .unset] [])) (fun t_ k_ => XS.ifNo X0.here hx rfl (hb hby at_30) rfl (XT.i0_eq_f hb7) k_) ?_
      refine own_stepW (T' := s₁) (g' := (mkF m 34 #[.val (.int p1), .val (.int t1), .val (.int f1), .val (.int p2), .val (.int t2), .val (.int f2), .val (.int v3), .val (.int v6), .unset, .unset, .unset, .unset, .unset, .unset, .unset, .unset] [(.int (1 : Int32))])) (fun t_ k_ => XT.iconstV X0.here hx rfl (1 : Int32) (hb hby at_33) (by decide) k_) ?_
      refine own_stepW (T' := s₁) (g' := (mkF m 38 #[.val (.int p1), .val (.int t1), .val (.int f1), .val (.int p2), .val (.int t2), .val (.int f2), .val (.int v3), .val (.int v6), .unset, .unset, .unset, .unset, .unset, .unset, .unset, .unset] [(.int (1 : Int32))])) (fun t_ k_ => XS.goto X0.here hx rfl (pc0 := 34) (pc' := 38) rfl (hb hby at_34) (by decide) (by decide) k_) ?_
      exact k8 _ (if_neg hb7).symm
  intro v9 hv9
  refine own_stepW (T' := s₁) (g' := (mkF m 40 #[.val (.int p1), .val (.int t1), .val (.int f1), .val (.int p2), .val (.int t2), .val (.int f2), .val (.int v3), .val (.int v6), .val (.int v9), .unset, .unset, .unset, .unset, .unset, .unset, .unset] [])) (fun t_ k_ => XS.istore X0.here hx rfl (hb hby at_38) rfl (l' := #[.val (.int p1), .val (.int t1), .val (.int f1), .val (.int p2), .val (.int t2), .val (.int f2), .val (.int v3), .val (.int v6), .val (.int v9), .unset, .unset, .unset, .unset, .unset, .unset, .unset]) rfl k_) ?_
  refine own_stepW (T' := s₁) (g' := (mkF m 42 #[.val (.int p1), .val (.int t1), .val (.int f1), .val (.int p2), .val (.int t2), .val (.int f2), .val (.int v3), .val (.int v6), .val (.int v9), .unset, .unset, .unset, .unset, .unset, .unset, .unset] [(.int f2)])) (fun t_ k_ => XS.iload X0.here hx rfl (hb hby at_40) rfl k_) ?_
  refine own_stepW (T' := s₁) (g' := (mkF m 43 #[.val (.int p1), .val (.int t1), .val (.int f1), .val (.int p2), .val (.int t2), .val (.int f2), .val (.int v3), .val (.int v6), .val (.int v9), .unset, .unset, .unset, .unset, .unset, .unset, .unset] [(.int (2 : Int32)), (.int f2)])) (fun t_ k_ => XT.iconstV X0.here hx rfl (2 : Int32) (hb hby at_42) (by decide) k_) ?_
  refine own_stepW (T' := s₁) (g' := (mkF m 44 #[.val (.int p1), .val (.int t1), .val (.int f1), .val (.int p2), .val (.int t2), .val (.int f2), .val (.int v3), .val (.int v6), .val (.int v9), .unset, .unset, .unset, .unset, .unset, .unset, .unset] [(.int (f2 &&& (2 : Int32)))])) (fun t_ k_ => XS.iand X0.here hx rfl (hb hby at_43) rfl k_) ?_
  suffices k11 : ∀ v12 : Int32, v12 = (if (f2 &&& (2 : Int32)) = 0 then (0 : Int32) else (1 : Int32)) → own_FinW p e below s (Q_19 h0 n0) 8 52 s₁ (mkF m 52 #[.val (.int p1), .val (.int t1), .val (.int f1), .val (.int p2), .val (.int t2), .val (.int f2), .val (.int v3), .val (.int v6), .val (.int v9), .unset, .unset, .unset, .unset, .unset, .unset, .unset] [(.int v12)]) by
    by_cases hb10 : (f2 &&& (2 : Int32)) = 0
    · refine own_stepW (T' := s₁) (g' := (mkF m 51 #[.val (.int p1), .val (.int t1), .val (.int f1), .val (.int p2), .val (.int t2), .val (.int f2), .val (.int v3), .val (.int v6), .val (.int v9), .unset, .unset, .unset, .unset, .unset, .unset, .unset] [])) (fun t_ k_ => XS.ifYes X0.here hx rfl (pc0 := 44) (pc' := 51) rfl (hb hby at_44) rfl (XT.i0_eq_t hb10) (by decide) (by decide) k_) ?_
      refine own_stepW (T' := s₁) (g' := (mkF m 52 #[.val (.int p1), .val (.int t1), .val (.int f1), .val (.int p2), .val (.int t2), .val (.int f2), .val (.int v3), .val (.int v6), .val (.int v9), .unset, .unset, .unset, .unset, .unset, .unset, .unset] [(.int (0 : Int32))])) (fun t_ k_ => XT.iconstV X0.here hx rfl (0 : Int32) (hb hby at_51) (by decide) k_) ?_
      exact k11 _ (if_pos hb10).symm
    · refine own_stepW (T' := s₁) (g' := (mkF m 47 #[.val (.int p1), .val (.int t1), .val (.int f1), .val (.int p2), .val (.int t2), .val (.int f2), .val (.int v3), .val (.int v6), .val (.int v9), .unset, .unset, .unset, .unset, .unset, .unset, .unset] [])) (fun t_ k_ => XS.ifNo X0.here hx rfl (hb hby at_44) rfl (XT.i0_eq_f hb10) k_) ?_
      refine own_stepW (T' := s₁) (g' := (mkF m 48 #[.val (.int p1), .val (.int t1), .val (.int f1), .val (.int p2), .val (.int t2), .val (.int f2), .val (.int v3), .val (.int v6), .val (.int v9), .unset, .unset, .unset, .unset, .unset, .unset, .unset] [(.int (1 : Int32))])) (fun t_ k_ => XT.iconstV X0.here hx rfl (1 : Int32) (hb hby at_47) (by decide) k_) ?_
      refine own_stepW (T' := s₁) (g' := (mkF m 52 #[.val (.int p1), .val (.int t1), .val (.int f1), .val (.int p2), .val (.int t2), .val (.int f2), .val (.int v3), .val (.int v6), .val (.int v9), .unset, .unset, .unset, .unset, .unset, .unset, .unset] [(.int (1 : Int32))])) (fun t_ k_ => XS.goto X0.here hx rfl (pc0 := 48) (pc' := 52) rfl (hb hby at_48) (by decide) (by decide) k_) ?_
      exact k11 _ (if_neg hb10).symm
  intro v12 hv12
  refine own_stepW (T' := s₁) (g' := (mkF m 54 #[.val (.int p1), .val (.int t1), .val (.int f1), .val (.int p2), .val (.int t2), .val (.int f2), .val (.int v3), .val (.int v6), .val (.int v9), .val (.int v12), .unset, .unset, .unset, .unset, .unset, .unset] [])) (fun t_ k_ => XS.istore X0.here hx rfl (hb hby at_52) rfl (l' := #[.val (.int p1), .val (.int t1), .val (.int f1), .val (.int p2), .val (.int t2), .val (.int f2), .val (.int v3), .val (.int v6), .val (.int v9), .val (.int v12), .unset, .unset, .unset, .unset, .unset, .unset]) rfl k_) ?_
  obtain ⟨T13, h14, X15, e16, E17, A18, D19, -, st20⟩ := newO X0 hx hZ hown (hw _ (List.mem_of_getElem? (i := 0) rfl)) (hw _ (List.mem_of_getElem? (i := 1) rfl)) (hw _ (List.mem_of_getElem? (i := 2) rfl)) e0 (g := (mkF m 54 #[.val (.int p1), .val (.int t1), .val (.int f1), .val (.int p2), .val (.int t2), .val (.int f2), .val (.int v3), .val (.int v6), .val (.int v9), .val (.int v12), .unset, .unset, .unset, .unset, .unset, .unset] [])) rfl (hb hby at_54) (by decide) (by decide)
  obtain ⟨a21, g22⟩ : ∃ z, z = h0.size := ⟨_, rfl⟩
  rw [← g22] at A18 D19 st20
  have q23 : n0 ≤ a21 := Nat.le_trans Z0 (Nat.le_of_eq g22.symm)
  have F24 : n0 ≤ h14.size := Nat.le_trans Z0 E17.1
  have F25 : Old Z n0 h14 := O0.ext E17
  have F26 : Fld Z h14 a21 "com/example/dossier_into_mets/dossierintomets/CharacterBudget" "limit" "J" (.long (0 : Int64)) := D19 (Or.inr (hw _ (List.mem_of_getElem? (i := 11) rfl))) (ty := .long) (by decide)
  have F27 : Fld Z h14 a21 "com/example/dossier_into_mets/dossierintomets/CharacterBudget" "spent" "J" (.long (0 : Int64)) := D19 (Or.inl (hw _ (List.mem_of_getElem? (i := 116) rfl))) (ty := .long) (by decide)
  refine own_stepW (T' := T13) (g' := (mkF m 57 #[.val (.int p1), .val (.int t1), .val (.int f1), .val (.int p2), .val (.int t2), .val (.int f2), .val (.int v3), .val (.int v6), .val (.int v9), .val (.int v12), .unset, .unset, .unset, .unset, .unset, .unset] [(.ref a21)])) st20 ?_
  refine own_stepW (T' := T13) (g' := (mkF m 58 #[.val (.int p1), .val (.int t1), .val (.int f1), .val (.int p2), .val (.int t2), .val (.int f2), .val (.int v3), .val (.int v6), .val (.int v9), .val (.int v12), .unset, .unset, .unset, .unset, .unset, .unset] [(.ref a21), (.ref a21)])) (fun t_ k_ => XS.dup X15.here hx rfl (hb hby at_57) rfl rfl k_) ?_
  refine own_stepW (T' := T13) (g' := (mkF m 61 #[.val (.int p1), .val (.int t1), .val (.int f1), .val (.int p2), .val (.int t2), .val (.int f2), .val (.int v3), .val (.int v6), .val (.int v9), .val (.int v12), .unset, .unset, .unset, .unset, .unset, .unset] [(.long (1000 : Int64)), (.ref a21), (.ref a21)])) (fun t_ k_ => X15.ldc2J hx hown (mvT hZ (hw _ (List.mem_of_getElem? (i := 3) rfl))) rfl (hb hby at_58) k_) ?_
  obtain ⟨_, _, ⟨Tc28, Lc28, kc28, nc28⟩, -, Xc28, ⟨Lcc28, hQc28, lc28, yc28, zc28⟩, stc28⟩ := X15.specialBack hx (y := (⟨"com/example/dossier_into_mets/dossierintomets/CharacterBudget", "<init>", "(J)V"⟩ : MethodName)) rfl hown (mvT hZ (hw _ (List.mem_of_getElem? (i := 4) rfl))) (mvT hZ (hw _ (List.mem_of_getElem? (i := 5) rfl))) (mvT hZ (hw _ (List.mem_of_getElem? (i := 6) rfl))) (by decide) (backOf (W := 1) (rm_cb l Z a0 hw [] a21 (1000 : Int64) (0 : Int64) (0 : Int64) h14 n0 F24 A18 F26 F27 q23) hZ (hw _ (List.mem_of_getElem? (i := 6) rfl)) (hw _ (List.mem_of_getElem? (i := 2) rfl)) (by decide) (by decide)) (g := (mkF m 61 #[.val (.int p1), .val (.int t1), .val (.int f1), .val (.int p2), .val (.int t2), .val (.int f2), .val (.int v3), .val (.int v6), .val (.int v9), .val (.int v12), .unset, .unset, .unset, .unset, .unset, .unset] [(.long (1000 : Int64)), (.ref a21), (.ref a21)])) rfl (by rw [hml]; rfl) (Steps.refl _) (a := a21) (argsL := [(.long (1000 : Int64))]) (rest := [(.ref a21)]) (lenOf pd_6 rfl) rfl (by show 2 * 0 + _ ≤ _; exact Nat.le_of_eq rfl) (hb hby at_61) (fun _ _ => ⟨rfl, e16, (by decide : 1 + 0 ≤ _), (by decide : 2 + 0 ≤ _)⟩)
  dsimp only [Pt.U, Pt.locs, Pt.cells, Pt.slots] at Xc28 lc28 yc28 zc28 stc28 hQc28
  subst lc28 yc28 zc28
  have X29 := Xc28.more (cells' := 1) (slots' := 2) (by decide) (by decide)
  obtain ⟨rfl, N30, K31, F32, F33⟩ := hQc28
  have N34 := Fr.app N0 N30
  have F35 : n0 ≤ Tc28.heap.size := Nat.le_trans F24 K31.1
  have F36 : Old Z n0 Tc28.heap := F25.keep K31 (allS q23 all0)
  have F37 : Exa Z Tc28.heap a21 "com/example/dossier_into_mets/dossierintomets/CharacterBudget" := A18.keep K31
  obtain ⟨Lo38, X39, N40⟩ : ∃ Lo_, Stand p l e room_1 s m #[(.int p1), (.int t1), (.int f1), (.int p2), (.int t2), (.int f2)] below meth c Tc28 Lo_ 1 2 ∧ Fr n0 Lo_ := ⟨_, X29, N34⟩
  refine own_stepW (T' := Tc28) (g' := (mkF m 64 #[.val (.int p1), .val (.int t1), .val (.int f1), .val (.int p2), .val (.int t2), .val (.int f2), .val (.int v3), .val (.int v6), .val (.int v9), .val (.int v12), .unset, .unset, .unset, .unset, .unset, .unset] [(.ref a21)])) (fun t_ k_ => stc28.trans k_) ?_
  refine own_stepW (T' := Tc28) (g' := (mkF m 66 #[.val (.int p1), .val (.int t1), .val (.int f1), .val (.int p2), .val (.int t2), .val (.int f2), .val (.int v3), .val (.int v6), .val (.int v9), .val (.int v12), .val (.ref a21), .unset, .unset, .unset, .unset, .unset] [])) (fun t_ k_ => XS.astore X39.here hx rfl (hb hby at_64) rfl rfl (l' := #[.val (.int p1), .val (.int t1), .val (.int f1), .val (.int p2), .val (.int t2), .val (.int f2), .val (.int v3), .val (.int v6), .val (.int v9), .val (.int v12), .val (.ref a21), .unset, .unset, .unset, .unset, .unset]) rfl k_) ?_
  obtain ⟨T41, h42, X43, e44, E45, A46, D47, -, st48⟩ := newO X39 hx hZ hown (hw _ (List.mem_of_getElem? (i := 12) rfl)) (hw _ (List.mem_of_getElem? (i := 13) rfl)) (hw _ (List.mem_of_getElem? (i := 14) rfl)) rfl (g := (mkF m 66 #[.val (.int p1), .val (.int t1), .val (.int f1), .val (.int p2), .val (.int t2), .val (.int f2), .val (.int v3), .val (.int v6), .val (.int v9), .val (.int v12), .val (.ref a21), .unset, .unset, .unset, .unset, .unset] [])) rfl (hb hby at_66) (by decide) (by decide)
  obtain ⟨a49, g50⟩ : ∃ z, z = Tc28.heap.size := ⟨_, rfl⟩
  rw [← g50] at A46 D47 st48
  have q51 : n0 ≤ a49 := Nat.le_trans F35 (Nat.le_of_eq g50.symm)
  have ne52 : a21 ≠ a49 := Nat.ne_of_lt (Nat.lt_of_lt_of_le F37.lt (Nat.le_of_eq g50.symm))
  have F53 : n0 ≤ h42.size := Nat.le_trans F35 E45.1
  have F54 : Old Z n0 h42 := F36.ext E45
  have F55 : Exa Z h42 a21 "com/example/dossier_into_mets/dossierintomets/CharacterBudget" := F37.ext E45
  have F56 : Fld Z h42 a21 "com/example/dossier_into_mets/dossierintomets/CharacterBudget" "limit" "J" (.long (1000 : Int64)) := F32.ext E45
  have F57 : Fld Z h42 a21 "com/example/dossier_into_mets/dossierintomets/CharacterBudget" "spent" "J" (.long (0 : Int64)) := F33.ext E45
  have F58 : Fld Z h42 a49 "com/example/dossier_into_mets/dossierintomets/MemberDivs" "types" "Ljava/util/List;" .null := D47 (Or.inr (hw _ (List.mem_of_getElem? (i := 52) rfl))) (ty := (.object "java/util/List")) (by decide)
  have F59 : Fld Z h42 a49 "com/example/dossier_into_mets/dossierintomets/MemberDivs" "typeNumbers" "Ljava/util/Map;" .null := D47 (Or.inr (hw _ (List.mem_of_getElem? (i := 70) rfl))) (ty := (.object "java/util/Map")) (by decide)
  have F60 : Fld Z h42 a49 "com/example/dossier_into_mets/dossierintomets/MemberDivs" "divs" "[J" .null := D47 (Or.inl (hw _ (List.mem_of_getElem? (i := 73) rfl))) (ty := (.array .long)) (by decide)
  have F61 : Fld Z h42 a49 "com/example/dossier_into_mets/dossierintomets/MemberDivs" "budget" "Lcom/example/dossier_into_mets/dossierintomets/CharacterBudget;" .null := D47 (Or.inr (hw _ (List.mem_of_getElem? (i := 75) rfl))) (ty := (.object "com/example/dossier_into_mets/dossierintomets/CharacterBudget")) (by decide)
  have F62 : Fld Z h42 a49 "com/example/dossier_into_mets/dossierintomets/MemberDivs" "objectDiv" "Ljava/lang/String;" .null := D47 (Or.inr (hw _ (List.mem_of_getElem? (i := 77) rfl))) (ty := (.object "java/lang/String")) (by decide)
  have F63 : Fld Z h42 a49 "com/example/dossier_into_mets/dossierintomets/MemberDivs" "count" "I" (.int (0 : Int32)) := D47 (Or.inl (hw _ (List.mem_of_getElem? (i := 84) rfl))) (ty := .int) (by decide)
  have F64 : Fld Z h42 a49 "com/example/dossier_into_mets/dossierintomets/MemberDivs" "held" "J" (.long (0 : Int64)) := D47 (Or.inl (hw _ (List.mem_of_getElem? (i := 129) rfl))) (ty := .long) (by decide)
  refine own_stepW (T' := T41) (g' := (mkF m 69 #[.val (.int p1), .val (.int t1), .val (.int f1), .val (.int p2), .val (.int t2), .val (.int f2), .val (.int v3), .val (.int v6), .val (.int v9), .val (.int v12), .val (.ref a21), .unset, .unset, .unset, .unset, .unset] [(.ref a49)])) st48 ?_
  refine own_stepW (T' := T41) (g' := (mkF m 70 #[.val (.int p1), .val (.int t1), .val (.int f1), .val (.int p2), .val (.int t2), .val (.int f2), .val (.int v3), .val (.int v6), .val (.int v9), .val (.int v12), .val (.ref a21), .unset, .unset, .unset, .unset, .unset] [(.ref a49), (.ref a49)])) (fun t_ k_ => XS.dup X43.here hx rfl (hb hby at_69) rfl rfl k_) ?_
  refine own_stepW (T' := T41) (g' := (mkF m 72 #[.val (.int p1), .val (.int t1), .val (.int f1), .val (.int p2), .val (.int t2), .val (.int f2), .val (.int v3), .val (.int v6), .val (.int v9), .val (.int v12), .val (.ref a21), .unset, .unset, .unset, .unset, .unset] [(.ref a21), (.ref a49), (.ref a49)])) (fun t_ k_ => XS.aload X43.here hx rfl (hb hby at_70) rfl rfl k_) ?_
  have wS : ∀ d ∈ Bundle.stringAtoms, d.before a0 Z = true := fun d hd => hw d ((by decide +kernel : ∀ d ∈ Bundle.stringAtoms, d ∈ tables_1) d hd)
  obtain ⟨sa65, T66, h67, kk68, X69, e70, E71, hS72, hk73, hZ, hown, st74⟩ := ldcS (s := s) (vm0 := s.vm) X43 hx hZ hown (hw _ (List.mem_of_getElem? (i := 15) rfl)) wS e44 ((State.WarmedH.refl s).since 0) (Nat.zero_le _) (g := (mkF m 72 #[.val (.int p1), .val (.int t1), .val (.int f1), .val (.int p2), .val (.int t2), .val (.int f2), .val (.int v3), .val (.int v6), .val (.int v9), .val (.int v12), .val (.ref a21), .unset, .unset, .unset, .unset, .unset] [(.ref a21), (.ref a49), (.ref a49)])) rfl (hb hby at_72) (n := 20) (by decide) (by decide) (by decide) (by decide)
  have F75 : n0 ≤ h67.size := Nat.le_trans F53 E71.1
  have F76 : Old Z n0 h67 := F54.ext E71
  have F77 : Exa Z h67 a21 "com/example/dossier_into_mets/dossierintomets/CharacterBudget" := F55.ext E71
  have F78 : Fld Z h67 a21 "com/example/dossier_into_mets/dossierintomets/CharacterBudget" "limit" "J" (.long (1000 : Int64)) := F56.ext E71
  have F79 : Fld Z h67 a21 "com/example/dossier_into_mets/dossierintomets/CharacterBudget" "spent" "J" (.long (0 : Int64)) := F57.ext E71
  have F80 : Exa Z h67 a49 "com/example/dossier_into_mets/dossierintomets/MemberDivs" := A46.ext E71
  have F81 : Fld Z h67 a49 "com/example/dossier_into_mets/dossierintomets/MemberDivs" "types" "Ljava/util/List;" .null := F58.ext E71
  have F82 : Fld Z h67 a49 "com/example/dossier_into_mets/dossierintomets/MemberDivs" "typeNumbers" "Ljava/util/Map;" .null := F59.ext E71
  have F83 : Fld Z h67 a49 "com/example/dossier_into_mets/dossierintomets/MemberDivs" "divs" "[J" .null := F60.ext E71
  have F84 : Fld Z h67 a49 "com/example/dossier_into_mets/dossierintomets/MemberDivs" "budget" "Lcom/example/dossier_into_mets/dossierintomets/CharacterBudget;" .null := F61.ext E71
  have F85 : Fld Z h67 a49 "com/example/dossier_into_mets/dossierintomets/MemberDivs" "objectDiv" "Ljava/lang/String;" .null := F62.ext E71
  have F86 : Fld Z h67 a49 "com/example/dossier_into_mets/dossierintomets/MemberDivs" "count" "I" (.int (0 : Int32)) := F63.ext E71
  have F87 : Fld Z h67 a49 "com/example/dossier_into_mets/dossierintomets/MemberDivs" "held" "J" (.long (0 : Int64)) := F64.ext E71
  refine own_stepW (T' := T66) (g' := (mkF m 74 #[.val (.int p1), .val (.int t1), .val (.int f1), .val (.int p2), .val (.int t2), .val (.int f2), .val (.int v3), .val (.int v6), .val (.int v9), .val (.int v12), .val (.ref a21), .unset, .unset, .unset, .unset, .unset] [(.ref sa65), (.ref a21), (.ref a49), (.ref a49)])) st74 ?_
  refine own_toW hS72 ?_
  obtain ⟨_, _, ⟨Tc88, Lc88, kc88, nc88⟩, -, Xc88, ⟨Lcc88, hQc88, lc88, yc88, zc88⟩, stc88⟩ := X69.specialBack hx (y := (⟨"com/example/dossier_into_mets/dossierintomets/MemberDivs", "<init>", "(Lcom/example/dossier_into_mets/dossierintomets/CharacterBudget;Ljava/lang/String;)V"⟩ : MethodName)) rfl hown (mvT hZ (hw _ (List.mem_of_getElem? (i := 23) rfl))) (mvT hZ (hw _ (List.mem_of_getElem? (i := 24) rfl))) (mvT hZ (hw _ (List.mem_of_getElem? (i := 25) rfl))) (by decide) (backOf (W := 1) (rm_md l Z a0 hw [] a49 a21 sa65 dd .null .null .null .null .null (0 : Int32) (0 : Int64) h67 n0 F75 F80 F81 F82 F83 F84 F85 F86 F87 q51 F76 SD) hZ (hw _ (List.mem_of_getElem? (i := 25) rfl)) (hw _ (List.mem_of_getElem? (i := 14) rfl)) (by decide) (by decide)) (g := (mkF m 74 #[.val (.int p1), .val (.int t1), .val (.int f1), .val (.int p2), .val (.int t2), .val (.int f2), .val (.int v3), .val (.int v6), .val (.int v9), .val (.int v12), .val (.ref a21), .unset, .unset, .unset, .unset, .unset] [(.ref sa65), (.ref a21), (.ref a49), (.ref a49)])) rfl (by rw [hml]; rfl) (Steps.refl _) (a := a49) (argsL := [(.ref a21), (.ref sa65)]) (rest := [(.ref a49)]) (lenOf pd_8 rfl) rfl (by show 2 * 0 + _ ≤ _; exact Nat.le_of_eq rfl) (hb hby at_74) (fun _ _ => ⟨rfl, e70, (by decide : 4 + 3 ≤ _), (by decide : 33 + 11 ≤ _)⟩)
  dsimp only [Pt.U, Pt.locs, Pt.cells, Pt.slots] at Xc88 lc88 yc88 zc88 stc88 hQc88
  subst lc88 yc88 zc88
  have X89 := Xc88.more (cells' := 7) (slots' := 44) (by decide) (by decide)
  obtain ⟨dv90, kA91, rfl, N92, K93, hr94, F95, F96, F97, F98, V99⟩ := hQc88
  have N100 := Fr.app N40 N92
  have ne101 : a21 ≠ dv90 := Nat.ne_of_lt (Nat.lt_of_lt_of_le F77.lt hr94)
  have ne102 : a49 ≠ dv90 := Nat.ne_of_lt (Nat.lt_of_lt_of_le F80.lt hr94)
  have q103 : n0 ≤ dv90 := Nat.le_trans F75 hr94
  have F104 : n0 ≤ Tc88.heap.size := Nat.le_trans F75 K93.1
  have F105 : Old Z n0 Tc88.heap := F76.keep K93 (allS q51 all0)
  have F106 : Exa Z Tc88.heap a21 "com/example/dossier_into_mets/dossierintomets/CharacterBudget" := F77.keep K93
  have F107 : Fld Z Tc88.heap a21 "com/example/dossier_into_mets/dossierintomets/CharacterBudget" "limit" "J" (.long (1000 : Int64)) := F78.keep K93 (ninS ne52 nin0)
  have F108 : Fld Z Tc88.heap a21 "com/example/dossier_into_mets/dossierintomets/CharacterBudget" "spent" "J" (.long (0 : Int64)) := F79.keep K93 (ninS ne52 nin0)
  have F109 : Exa Z Tc88.heap a49 "com/example/dossier_into_mets/dossierintomets/MemberDivs" := F80.keep K93
  have F110 : kk68 ≤ Tc88.heap.size := Nat.le_trans hk73 K93.1
  obtain ⟨Lo111, X112, N113⟩ : ∃ Lo_, Stand p l e room_1 (s.setVm T66.vm) m #[(.int p1), (.int t1), (.int f1), (.int p2), (.int t2), (.int f2)] below meth c Tc88 Lo_ 7 44 ∧ Fr n0 Lo_ := ⟨_, X89, N100⟩
  refine own_step (T' := Tc88) (g' := (mkF m 77 #[.val (.int p1), .val (.int t1), .val (.int f1), .val (.int p2), .val (.int t2), .val (.int f2), .val (.int v3), .val (.int v6), .val (.int v9), .val (.int v12), .val (.ref a21), .unset, .unset, .unset, .unset, .unset] [(.ref a49)])) (fun t_ k_ => stc88.trans k_) ?_
  refine own_step (T' := Tc88) (g' := (mkF m 79 #[.val (.int p1), .val (.int t1), .val (.int f1), .val (.int p2), .val (.int t2), .val (.int f2), .val (.int v3), .val (.int v6), .val (.int v9), .val (.int v12), .val (.ref a21), .val (.ref a49), .unset, .unset, .unset, .unset] [])) (fun t_ k_ => XS.astore X112.here hx rfl (hb hby at_77) rfl rfl (l' := #[.val (.int p1), .val (.int t1), .val (.int f1), .val (.int p2), .val (.int t2), .val (.int f2), .val (.int v3), .val (.int v6), .val (.int v9), .val (.int v12), .val (.ref a21), .val (.ref a49), .unset, .unset, .unset, .unset]) rfl k_) ?_
  refine own_step (T' := Tc88) (g' := (mkF m 81 #[.val (.int p1), .val (.int t1), .val (.int f1), .val (.int p2), .val (.int t2), .val (.int f2), .val (.int v3), .val (.int v6), .val (.int v9), .val (.int v12), .val (.ref a21), .val (.ref a49), .unset, .unset, .unset, .unset] [(.ref a49)])) (fun t_ k_ => XS.aload X112.here hx rfl (hb hby at_79) rfl rfl k_) ?_
  refine own_step (T' := Tc88) (g' := (mkF m 82 #[.val (.int p1), .val (.int t1), .val (.int f1), .val (.int p2), .val (.int t2), .val (.int f2), .val (.int v3), .val (.int v6), .val (.int v9), .val (.int v12), .val (.ref a21), .val (.ref a49), .unset, .unset, .unset, .unset] [(.int p1), (.ref a49)])) (fun t_ k_ => XS.iloadN X112.here hx rfl (hb hby at_81) rfl k_) ?_
  refine own_step (T' := Tc88) (g' := (mkF m 83 #[.val (.int p1), .val (.int t1), .val (.int f1), .val (.int p2), .val (.int t2), .val (.int f2), .val (.int v3), .val (.int v6), .val (.int v9), .val (.int v12), .val (.ref a21), .val (.ref a49), .unset, .unset, .unset, .unset] [(.int t1), (.int p1), (.ref a49)])) (fun t_ k_ => XS.iloadN X112.here hx rfl (hb hby at_82) rfl k_) ?_
  refine own_step (T' := Tc88) (g' := (mkF m 85 #[.val (.int p1), .val (.int t1), .val (.int f1), .val (.int p2), .val (.int t2), .val (.int f2), .val (.int v3), .val (.int v6), .val (.int v9), .val (.int v12), .val (.ref a21), .val (.ref a49), .unset, .unset, .unset, .unset] [(.int v3), (.int t1), (.int p1), (.ref a49)])) (fun t_ k_ => XS.iload X112.here hx rfl (hb hby at_83) rfl k_) ?_
  refine own_step (T' := Tc88) (g' := (mkF m 87 #[.val (.int p1), .val (.int t1), .val (.int f1), .val (.int p2), .val (.int t2), .val (.int f2), .val (.int v3), .val (.int v6), .val (.int v9), .val (.int v12), .val (.ref a21), .val (.ref a49), .unset, .unset, .unset, .unset] [(.int v6), (.int v3), (.int t1), (.int p1), (.ref a49)])) (fun t_ k_ => XS.iload X112.here hx rfl (hb hby at_85) rfl k_) ?_
  obtain ⟨cqc114, kqc114, qac114, qbc114, qcc114⟩ := isOf hZ rfl F109
  obtain ⟨_, _, ⟨Tc114, Lc114, kc114, nc114⟩, -, Xc114, ⟨Lcc114, hQc114, lc114, yc114, zc114⟩, stc114⟩ := X112.virtualBack hx (y := (⟨"com/example/dossier_into_mets/dossierintomets/MemberDivs", "add", "(IIZZ)Z"⟩ : MethodName)) (z := (⟨"com/example/dossier_into_mets/dossierintomets/MemberDivs", "add", "(IIZZ)Z"⟩ : MethodName)) hown (mvT hZ (hw _ (List.mem_of_getElem? (i := 78) rfl))) (mvT hZ (hw _ (List.mem_of_getElem? (i := 79) rfl))) (notFace_of_selects (args := #[]) (mvT hZ (hw _ (List.mem_of_getElem? (i := 81) rfl)))) (mvT hZ (hw _ (List.mem_of_getElem? (i := 81) rfl))) (mvT hZ (hw _ (List.mem_of_getElem? (i := 80) rfl))) (by decide) (backOf (W := 0) (rm_add1 l Z a0 hw [] a49 a21 dv90 kA91 p1 t1 v3 v6 Tc88.heap n0 F104 F109 F95 F96 F97 F98 F106 F107 F108 V99 q51 q23 (Ne.symm ne52) (Ne.symm ne102) (Ne.symm ne101)) hZ (hw _ (List.mem_of_getElem? (i := 82) rfl)) (hw _ (List.mem_of_getElem? (i := 14) rfl)) (by decide) (by decide)) qac114 qcc114 (g := (mkF m 87 #[.val (.int p1), .val (.int t1), .val (.int f1), .val (.int p2), .val (.int t2), .val (.int f2), .val (.int v3), .val (.int v6), .val (.int v9), .val (.int v12), .val (.ref a21), .val (.ref a49), .unset, .unset, .unset, .unset] [(.int v6), (.int v3), (.int t1), (.int p1), (.ref a49)])) rfl (by rw [hml]; rfl) (Steps.refl _) (argsL := [(.int p1), (.int t1), (.int v3), (.int v6)]) (rest := []) (lenOf pd_9 rfl) rfl (by show 2 * 0 + _ ≤ _; exact Nat.le_of_eq rfl) (hb hby at_87) (fun _ _ => ⟨rfl, rfl, (by decide : 7 + 1 ≤ _), (by decide : 44 + 8 ≤ _)⟩)
  dsimp only [Pt.U, Pt.locs, Pt.cells, Pt.slots] at Xc114 lc114 yc114 zc114 stc114 hQc114
  subst lc114 yc114 zc114
  have X115 := Xc114.more (cells' := 8) (slots' := 52) (by decide) (by decide)
  obtain ⟨r116, rfl, N117, K118, hr119, F120, F121, V122⟩ := hQc114
  have N123 := Fr.app N113 N117
  have ne124 : a21 ≠ r116 := Nat.ne_of_lt (Nat.lt_of_lt_of_le F106.lt hr119)
  have ne125 : a49 ≠ r116 := Nat.ne_of_lt (Nat.lt_of_lt_of_le F109.lt hr119)
  have ne126 : dv90 ≠ r116 := Nat.ne_of_lt (Nat.lt_of_lt_of_le V99.lt hr119)
  have q127 : n0 ≤ r116 := Nat.le_trans F104 hr119
  have F128 : n0 ≤ Tc114.heap.size := Nat.le_trans F104 K118.1
  have F129 : Old Z n0 Tc114.heap := F105.keep K118 (allS q51 (allS q23 all0))
  have F130 : Exa Z Tc114.heap a21 "com/example/dossier_into_mets/dossierintomets/CharacterBudget" := F106.keep K118
  have F131 : Exa Z Tc114.heap a49 "com/example/dossier_into_mets/dossierintomets/MemberDivs" := F109.keep K118
  have F132 : kk68 ≤ Tc114.heap.size := Nat.le_trans F110 K118.1
  obtain ⟨Lo133, X134, N135⟩ : ∃ Lo_, Stand p l e room_1 (s.setVm T66.vm) m #[(.int p1), (.int t1), (.int f1), (.int p2), (.int t2), (.int f2)] below meth c Tc114 Lo_ 8 52 ∧ Fr n0 Lo_ := ⟨_, X115, N123⟩
  refine own_step (T' := Tc114) (g' := (mkF m 90 #[.val (.int p1), .val (.int t1), .val (.int f1), .val (.int p2), .val (.int t2), .val (.int f2), .val (.int v3), .val (.int v6), .val (.int v9), .val (.int v12), .val (.ref a21), .val (.ref a49), .unset, .unset, .unset, .unset] [(.int (1 : Int32))])) (fun t_ k_ => stc114.trans k_) ?_
  refine own_step (T' := Tc114) (g' := (mkF m 92 #[.val (.int p1), .val (.int t1), .val (.int f1), .val (.int p2), .val (.int t2), .val (.int f2), .val (.int v3), .val (.int v6), .val (.int v9), .val (.int v12), .val (.ref a21), .val (.ref a49), .val (.int (1 : Int32)), .unset, .unset, .unset] [])) (fun t_ k_ => XS.istore X134.here hx rfl (hb hby at_90) rfl (l' := #[.val (.int p1), .val (.int t1), .val (.int f1), .val (.int p2), .val (.int t2), .val (.int f2), .val (.int v3), .val (.int v6), .val (.int v9), .val (.int v12), .val (.ref a21), .val (.ref a49), .val (.int (1 : Int32)), .unset, .unset, .unset]) rfl k_) ?_
  refine own_step (T' := Tc114) (g' := (mkF m 94 #[.val (.int p1), .val (.int t1), .val (.int f1), .val (.int p2), .val (.int t2), .val (.int f2), .val (.int v3), .val (.int v6), .val (.int v9), .val (.int v12), .val (.ref a21), .val (.ref a49), .val (.int (1 : Int32)), .unset, .unset, .unset] [(.ref a49)])) (fun t_ k_ => XS.aload X134.here hx rfl (hb hby at_92) rfl rfl k_) ?_
  refine own_step (T' := Tc114) (g' := (mkF m 95 #[.val (.int p1), .val (.int t1), .val (.int f1), .val (.int p2), .val (.int t2), .val (.int f2), .val (.int v3), .val (.int v6), .val (.int v9), .val (.int v12), .val (.ref a21), .val (.ref a49), .val (.int (1 : Int32)), .unset, .unset, .unset] [(.int p2), (.ref a49)])) (fun t_ k_ => XS.iloadN X134.here hx rfl (hb hby at_94) rfl k_) ?_
  refine own_step (T' := Tc114) (g' := (mkF m 97 #[.val (.int p1), .val (.int t1), .val (.int f1), .val (.int p2), .val (.int t2), .val (.int f2), .val (.int v3), .val (.int v6), .val (.int v9), .val (.int v12), .val (.ref a21), .val (.ref a49), .val (.int (1 : Int32)), .unset, .unset, .unset] [(.int t2), (.int p2), (.ref a49)])) (fun t_ k_ => XS.iload X134.here hx rfl (hb hby at_95) rfl k_) ?_
  refine own_step (T' := Tc114) (g' := (mkF m 99 #[.val (.int p1), .val (.int t1), .val (.int f1), .val (.int p2), .val (.int t2), .val (.int f2), .val (.int v3), .val (.int v6), .val (.int v9), .val (.int v12), .val (.ref a21), .val (.ref a49), .val (.int (1 : Int32)), .unset, .unset, .unset] [(.int v9), (.int t2), (.int p2), (.ref a49)])) (fun t_ k_ => XS.iload X134.here hx rfl (hb hby at_97) rfl k_) ?_
  refine own_step (T' := Tc114) (g' := (mkF m 101 #[.val (.int p1), .val (.int t1), .val (.int f1), .val (.int p2), .val (.int t2), .val (.int f2), .val (.int v3), .val (.int v6), .val (.int v9), .val (.int v12), .val (.ref a21), .val (.ref a49), .val (.int (1 : Int32)), .unset, .unset, .unset] [(.int v12), (.int v9), (.int t2), (.int p2), (.ref a49)])) (fun t_ k_ => XS.iload X134.here hx rfl (hb hby at_99) rfl k_) ?_
  obtain ⟨cqc136, kqc136, qac136, qbc136, qcc136⟩ := isOf hZ rfl F131
  obtain ⟨_, _, ⟨Tc136, Lc136, kc136, nc136⟩, -, Xc136, ⟨Lcc136, hQc136, lc136, yc136, zc136⟩, stc136⟩ := X134.virtualBack hx (y := (⟨"com/example/dossier_into_mets/dossierintomets/MemberDivs", "add", "(IIZZ)Z"⟩ : MethodName)) (z := (⟨"com/example/dossier_into_mets/dossierintomets/MemberDivs", "add", "(IIZZ)Z"⟩ : MethodName)) hown (mvT hZ (hw _ (List.mem_of_getElem? (i := 78) rfl))) (mvT hZ (hw _ (List.mem_of_getElem? (i := 79) rfl))) (notFace_of_selects (args := #[]) (mvT hZ (hw _ (List.mem_of_getElem? (i := 81) rfl)))) (mvT hZ (hw _ (List.mem_of_getElem? (i := 81) rfl))) (mvT hZ (hw _ (List.mem_of_getElem? (i := 80) rfl))) (by decide) (backOf (W := 0) (rm_add2 l Z a0 hw [] a49 r116 (own_val p1 t1 v3 v6) p2 t2 v9 v12 Tc114.heap n0 F128 F131 F120 F121 V122 q51 q127 (Ne.symm ne125)) hZ (hw _ (List.mem_of_getElem? (i := 82) rfl)) (hw _ (List.mem_of_getElem? (i := 14) rfl)) (by decide) (by decide)) qac136 qcc136 (g := (mkF m 101 #[.val (.int p1), .val (.int t1), .val (.int f1), .val (.int p2), .val (.int t2), .val (.int f2), .val (.int v3), .val (.int v6), .val (.int v9), .val (.int v12), .val (.ref a21), .val (.ref a49), .val (.int (1 : Int32)), .unset, .unset, .unset] [(.int v12), (.int v9), (.int t2), (.int p2), (.ref a49)])) rfl (by rw [hml]; rfl) (Steps.refl _) (argsL := [(.int p2), (.int t2), (.int v9), (.int v12)]) (rest := []) (lenOf pd_9 rfl) rfl (by show 2 * 0 + _ ≤ _; exact Nat.le_of_eq rfl) (hb hby at_101) (fun _ _ => ⟨rfl, rfl, (by decide : 8 + 0 ≤ _), (by decide : 52 + 0 ≤ _)⟩)
  dsimp only [Pt.U, Pt.locs, Pt.cells, Pt.slots] at Xc136 lc136 yc136 zc136 stc136 hQc136
  subst lc136 yc136 zc136
  have X137 := Xc136.more (cells' := 8) (slots' := 52) (by decide) (by decide)
  obtain ⟨rfl, N138, K139, F140, V141⟩ := hQc136
  have N142 := Fr.app N135 N138
  have F143 : n0 ≤ Tc136.heap.size := Nat.le_trans F128 K139.1
  have F144 : Old Z n0 Tc136.heap := F129.keep K139 (allS q51 (allS q127 all0))
  have F145 : Exa Z Tc136.heap a21 "com/example/dossier_into_mets/dossierintomets/CharacterBudget" := F130.keep K139
  have F146 : Exa Z Tc136.heap a49 "com/example/dossier_into_mets/dossierintomets/MemberDivs" := F131.keep K139
  have F147 : kk68 ≤ Tc136.heap.size := Nat.le_trans F132 K139.1
  obtain ⟨Lo148, X149, N150⟩ : ∃ Lo_, Stand p l e room_1 (s.setVm T66.vm) m #[(.int p1), (.int t1), (.int f1), (.int p2), (.int t2), (.int f2)] below meth c Tc136 Lo_ 8 52 ∧ Fr n0 Lo_ := ⟨_, X137, N142⟩
  refine own_step (T' := Tc136) (g' := (mkF m 104 #[.val (.int p1), .val (.int t1), .val (.int f1), .val (.int p2), .val (.int t2), .val (.int f2), .val (.int v3), .val (.int v6), .val (.int v9), .val (.int v12), .val (.ref a21), .val (.ref a49), .val (.int (1 : Int32)), .unset, .unset, .unset] [(.int (1 : Int32))])) (fun t_ k_ => stc136.trans k_) ?_
  refine own_step (T' := Tc136) (g' := (mkF m 106 #[.val (.int p1), .val (.int t1), .val (.int f1), .val (.int p2), .val (.int t2), .val (.int f2), .val (.int v3), .val (.int v6), .val (.int v9), .val (.int v12), .val (.ref a21), .val (.ref a49), .val (.int (1 : Int32)), .val (.int (1 : Int32)), .unset, .unset] [])) (fun t_ k_ => XS.istore X149.here hx rfl (hb hby at_104) rfl (l' := #[.val (.int p1), .val (.int t1), .val (.int f1), .val (.int p2), .val (.int t2), .val (.int f2), .val (.int v3), .val (.int v6), .val (.int v9), .val (.int v12), .val (.ref a21), .val (.ref a49), .val (.int (1 : Int32)), .val (.int (1 : Int32)), .unset, .unset]) rfl k_) ?_
  refine own_step (T' := Tc136) (g' := (mkF m 108 #[.val (.int p1), .val (.int t1), .val (.int f1), .val (.int p2), .val (.int t2), .val (.int f2), .val (.int v3), .val (.int v6), .val (.int v9), .val (.int v12), .val (.ref a21), .val (.ref a49), .val (.int (1 : Int32)), .val (.int (1 : Int32)), .unset, .unset] [(.int (1 : Int32))])) (fun t_ k_ => XS.iload X149.here hx rfl (hb hby at_106) rfl k_) ?_
  have hk151 : ¬ ((1 : Int32) = 0) := (by decide)
  refine own_step (T' := Tc136) (g' := (mkF m 111 #[.val (.int p1), .val (.int t1), .val (.int f1), .val (.int p2), .val (.int t2), .val (.int f2), .val (.int v3), .val (.int v6), .val (.int v9), .val (.int v12), .val (.ref a21), .val (.ref a49), .val (.int (1 : Int32)), .val (.int (1 : Int32)), .unset, .unset] [])) (fun t_ k_ => XS.ifNo X149.here hx rfl (hb hby at_108) rfl (XT.i0_eq_f hk151) k_) ?_
  refine own_step (T' := Tc136) (g' := (mkF m 113 #[.val (.int p1), .val (.int t1), .val (.int f1), .val (.int p2), .val (.int t2), .val (.int f2), .val (.int v3), .val (.int v6), .val (.int v9), .val (.int v12), .val (.ref a21), .val (.ref a49), .val (.int (1 : Int32)), .val (.int (1 : Int32)), .unset, .unset] [(.int (1 : Int32))])) (fun t_ k_ => XS.iload X149.here hx rfl (hb hby at_111) rfl k_) ?_
  have hk152 : ¬ ((1 : Int32) = 0) := (by decide)
  refine own_step (T' := Tc136) (g' := (mkF m 118 #[.val (.int p1), .val (.int t1), .val (.int f1), .val (.int p2), .val (.int t2), .val (.int f2), .val (.int v3), .val (.int v6), .val (.int v9), .val (.int v12), .val (.ref a21), .val (.ref a49), .val (.int (1 : Int32)), .val (.int (1 : Int32)), .unset, .unset] [])) (fun t_ k_ => XS.ifYes X149.here hx rfl (pc0 := 113) (pc' := 118) rfl (hb hby at_113) rfl (XT.i0_ne_t hk152) (by decide) (by decide) k_) ?_
  refine own_step (T' := Tc136) (g' := (mkF m 120 #[.val (.int p1), .val (.int t1), .val (.int f1), .val (.int p2), .val (.int t2), .val (.int f2), .val (.int v3), .val (.int v6), .val (.int v9), .val (.int v12), .val (.ref a21), .val (.ref a49), .val (.int (1 : Int32)), .val (.int (1 : Int32)), .unset, .unset] [(.ref a49)])) (fun t_ k_ => XS.aload X149.here hx rfl (hb hby at_118) rfl rfl k_) ?_
  refine own_step (T' := Tc136) (g' := (mkF m 121 #[.val (.int p1), .val (.int t1), .val (.int f1), .val (.int p2), .val (.int t2), .val (.int f2), .val (.int v3), .val (.int v6), .val (.int v9), .val (.int v12), .val (.ref a21), .val (.ref a49), .val (.int (1 : Int32)), .val (.int (1 : Int32)), .unset, .unset] [(.int (0 : Int32)), (.ref a49)])) (fun t_ k_ => XT.iconstV X149.here hx rfl (0 : Int32) (hb hby at_120) (by decide) k_) ?_
  obtain ⟨cqc153, kqc153, qac153, qbc153, qcc153⟩ := isOf hZ rfl F146
  obtain ⟨_, _, ⟨Tc153, Lc153, kc153, nc153⟩, -, Xc153, ⟨Lcc153, hQc153, lc153, yc153, zc153⟩, stc153⟩ := X149.virtualBack hx (y := (⟨"com/example/dossier_into_mets/dossierintomets/MemberDivs", "byUrl", "(I)Z"⟩ : MethodName)) (z := (⟨"com/example/dossier_into_mets/dossierintomets/MemberDivs", "byUrl", "(I)Z"⟩ : MethodName)) hown (mvT hZ (hw _ (List.mem_of_getElem? (i := 135) rfl))) (mvT hZ (hw _ (List.mem_of_getElem? (i := 136) rfl))) (notFace_of_selects (args := #[]) (mvT hZ (hw _ (List.mem_of_getElem? (i := 138) rfl)))) (mvT hZ (hw _ (List.mem_of_getElem? (i := 138) rfl))) (mvT hZ (hw _ (List.mem_of_getElem? (i := 137) rfl))) (by decide) (backOf (W := 0) (rm_url0 l Z a0 hw [] a49 r116 (own_val p1 t1 v3 v6) (own_val p2 t2 v9 v12) Tc136.heap n0 F143 F140 V141) hZ (hw _ (List.mem_of_getElem? (i := 139) rfl)) (hw _ (List.mem_of_getElem? (i := 14) rfl)) (by decide) (by decide)) qac153 qcc153 (g := (mkF m 121 #[.val (.int p1), .val (.int t1), .val (.int f1), .val (.int p2), .val (.int t2), .val (.int f2), .val (.int v3), .val (.int v6), .val (.int v9), .val (.int v12), .val (.ref a21), .val (.ref a49), .val (.int (1 : Int32)), .val (.int (1 : Int32)), .unset, .unset] [(.int (0 : Int32)), (.ref a49)])) rfl (by rw [hml]; rfl) (Steps.refl _) (argsL := [(.int (0 : Int32))]) (rest := []) (lenOf pd_10 rfl) rfl (by show 2 * 0 + _ ≤ _; exact Nat.le_of_eq rfl) (hb hby at_121) (fun _ _ => ⟨rfl, rfl, (by decide : 8 + 0 ≤ _), (by decide : 52 + 0 ≤ _)⟩)
  dsimp only [Pt.U, Pt.locs, Pt.cells, Pt.slots] at Xc153 lc153 yc153 zc153 stc153 hQc153
  subst lc153 yc153 zc153
  have X154 := Xc153.more (cells' := 8) (slots' := 52) (by decide) (by decide)
  obtain ⟨rfl, N155, e156⟩ := hQc153
  have N157 := Fr.app N150 N155
  obtain ⟨Lo158, X159, N160⟩ : ∃ Lo_, Stand p l e room_1 (s.setVm T66.vm) m #[(.int p1), (.int t1), (.int f1), (.int p2), (.int t2), (.int f2)] below meth c Tc153 Lo_ 8 52 ∧ Fr n0 Lo_ := ⟨_, X154, N157⟩
  refine own_step (T' := Tc153) (g' := (mkF m 124 #[.val (.int p1), .val (.int t1), .val (.int f1), .val (.int p2), .val (.int t2), .val (.int f2), .val (.int v3), .val (.int v6), .val (.int v9), .val (.int v12), .val (.ref a21), .val (.ref a49), .val (.int (1 : Int32)), .val (.int (1 : Int32)), .unset, .unset] [(.int (if ((own_val p1 t1 v3 v6) &&& (2 : Int64)) = (0 : Int64) then (0 : Int32) else (1 : Int32)))])) (fun t_ k_ => stc153.trans k_) ?_
  refine own_step (T' := Tc153) (g' := (mkF m 126 #[.val (.int p1), .val (.int t1), .val (.int f1), .val (.int p2), .val (.int t2), .val (.int f2), .val (.int v3), .val (.int v6), .val (.int v9), .val (.int v12), .val (.ref a21), .val (.ref a49), .val (.int (1 : Int32)), .val (.int (1 : Int32)), .val (.int (if ((own_val p1 t1 v3 v6) &&& (2 : Int64)) = (0 : Int64) then (0 : Int32) else (1 : Int32))), .unset] [])) (fun t_ k_ => XS.istore X159.here hx rfl (hb hby at_124) rfl (l' := #[.val (.int p1), .val (.int t1), .val (.int f1), .val (.int p2), .val (.int t2), .val (.int f2), .val (.int v3), .val (.int v6), .val (.int v9), .val (.int v12), .val (.ref a21), .val (.ref a49), .val (.int (1 : Int32)), .val (.int (1 : Int32)), .val (.int (if ((own_val p1 t1 v3 v6) &&& (2 : Int64)) = (0 : Int64) then (0 : Int32) else (1 : Int32))), .unset]) rfl k_) ?_
  refine own_step (T' := Tc153) (g' := (mkF m 128 #[.val (.int p1), .val (.int t1), .val (.int f1), .val (.int p2), .val (.int t2), .val (.int f2), .val (.int v3), .val (.int v6), .val (.int v9), .val (.int v12), .val (.ref a21), .val (.ref a49), .val (.int (1 : Int32)), .val (.int (1 : Int32)), .val (.int (if ((own_val p1 t1 v3 v6) &&& (2 : Int64)) = (0 : Int64) then (0 : Int32) else (1 : Int32))), .unset] [(.ref a49)])) (fun t_ k_ => XS.aload X159.here hx rfl (hb hby at_126) rfl rfl k_) ?_
  refine own_step (T' := Tc153) (g' := (mkF m 129 #[.val (.int p1), .val (.int t1), .val (.int f1), .val (.int p2), .val (.int t2), .val (.int f2), .val (.int v3), .val (.int v6), .val (.int v9), .val (.int v12), .val (.ref a21), .val (.ref a49), .val (.int (1 : Int32)), .val (.int (1 : Int32)), .val (.int (if ((own_val p1 t1 v3 v6) &&& (2 : Int64)) = (0 : Int64) then (0 : Int32) else (1 : Int32))), .unset] [(.int (1 : Int32)), (.ref a49)])) (fun t_ k_ => XT.iconstV X159.here hx rfl (1 : Int32) (hb hby at_128) (by decide) k_) ?_
  obtain ⟨cqc161, kqc161, qac161, qbc161, qcc161⟩ := isOf hZ e156 F146
  obtain ⟨_, _, ⟨Tc161, Lc161, kc161, nc161⟩, -, Xc161, ⟨Lcc161, hQc161, lc161, yc161, zc161⟩, stc161⟩ := X159.virtualBack hx (y := (⟨"com/example/dossier_into_mets/dossierintomets/MemberDivs", "byUrl", "(I)Z"⟩ : MethodName)) (z := (⟨"com/example/dossier_into_mets/dossierintomets/MemberDivs", "byUrl", "(I)Z"⟩ : MethodName)) hown (mvT hZ (hw _ (List.mem_of_getElem? (i := 135) rfl))) (mvT hZ (hw _ (List.mem_of_getElem? (i := 136) rfl))) (notFace_of_selects (args := #[]) (mvT hZ (hw _ (List.mem_of_getElem? (i := 138) rfl)))) (mvT hZ (hw _ (List.mem_of_getElem? (i := 138) rfl))) (mvT hZ (hw _ (List.mem_of_getElem? (i := 137) rfl))) (by decide) (backOf (W := 0) (rm_url1 l Z a0 hw [] a49 r116 (own_val p1 t1 v3 v6) (own_val p2 t2 v9 v12) Tc136.heap n0 F143 F140 V141) hZ (hw _ (List.mem_of_getElem? (i := 139) rfl)) (hw _ (List.mem_of_getElem? (i := 14) rfl)) (by decide) (by decide)) qac161 qcc161 (g := (mkF m 129 #[.val (.int p1), .val (.int t1), .val (.int f1), .val (.int p2), .val (.int t2), .val (.int f2), .val (.int v3), .val (.int v6), .val (.int v9), .val (.int v12), .val (.ref a21), .val (.ref a49), .val (.int (1 : Int32)), .val (.int (1 : Int32)), .val (.int (if ((own_val p1 t1 v3 v6) &&& (2 : Int64)) = (0 : Int64) then (0 : Int32) else (1 : Int32))), .unset] [(.int (1 : Int32)), (.ref a49)])) rfl (by rw [hml]; rfl) (Steps.refl _) (argsL := [(.int (1 : Int32))]) (rest := []) (lenOf pd_10 rfl) rfl (by show 2 * 0 + _ ≤ _; exact Nat.le_of_eq rfl) (hb hby at_129) (fun _ _ => ⟨rfl, e156, (by decide : 8 + 0 ≤ _), (by decide : 52 + 0 ≤ _)⟩)
  dsimp only [Pt.U, Pt.locs, Pt.cells, Pt.slots] at Xc161 lc161 yc161 zc161 stc161 hQc161
  subst lc161 yc161 zc161
  have X162 := Xc161.more (cells' := 8) (slots' := 52) (by decide) (by decide)
  obtain ⟨rfl, N163, e164⟩ := hQc161
  have N165 := Fr.app N160 N163
  obtain ⟨Lo166, X167, N168⟩ : ∃ Lo_, Stand p l e room_1 (s.setVm T66.vm) m #[(.int p1), (.int t1), (.int f1), (.int p2), (.int t2), (.int f2)] below meth c Tc161 Lo_ 8 52 ∧ Fr n0 Lo_ := ⟨_, X162, N165⟩
  refine own_step (T' := Tc161) (g' := (mkF m 132 #[.val (.int p1), .val (.int t1), .val (.int f1), .val (.int p2), .val (.int t2), .val (.int f2), .val (.int v3), .val (.int v6), .val (.int v9), .val (.int v12), .val (.ref a21), .val (.ref a49), .val (.int (1 : Int32)), .val (.int (1 : Int32)), .val (.int (if ((own_val p1 t1 v3 v6) &&& (2 : Int64)) = (0 : Int64) then (0 : Int32) else (1 : Int32))), .unset] [(.int (if ((own_val p2 t2 v9 v12) &&& (2 : Int64)) = (0 : Int64) then (0 : Int32) else (1 : Int32)))])) (fun t_ k_ => stc161.trans k_) ?_
  refine own_step (T' := Tc161) (g' := (mkF m 134 #[.val (.int p1), .val (.int t1), .val (.int f1), .val (.int p2), .val (.int t2), .val (.int f2), .val (.int v3), .val (.int v6), .val (.int v9), .val (.int v12), .val (.ref a21), .val (.ref a49), .val (.int (1 : Int32)), .val (.int (1 : Int32)), .val (.int (if ((own_val p1 t1 v3 v6) &&& (2 : Int64)) = (0 : Int64) then (0 : Int32) else (1 : Int32))), .val (.int (if ((own_val p2 t2 v9 v12) &&& (2 : Int64)) = (0 : Int64) then (0 : Int32) else (1 : Int32)))] [])) (fun t_ k_ => XS.istore X167.here hx rfl (hb hby at_132) rfl (l' := #[.val (.int p1), .val (.int t1), .val (.int f1), .val (.int p2), .val (.int t2), .val (.int f2), .val (.int v3), .val (.int v6), .val (.int v9), .val (.int v12), .val (.ref a21), .val (.ref a49), .val (.int (1 : Int32)), .val (.int (1 : Int32)), .val (.int (if ((own_val p1 t1 v3 v6) &&& (2 : Int64)) = (0 : Int64) then (0 : Int32) else (1 : Int32))), .val (.int (if ((own_val p2 t2 v9 v12) &&& (2 : Int64)) = (0 : Int64) then (0 : Int32) else (1 : Int32)))]) rfl k_) ?_
  refine own_step (T' := Tc161) (g' := (mkF m 136 #[.val (.int p1), .val (.int t1), .val (.int f1), .val (.int p2), .val (.int t2), .val (.int f2), .val (.int v3), .val (.int v6), .val (.int v9), .val (.int v12), .val (.ref a21), .val (.ref a49), .val (.int (1 : Int32)), .val (.int (1 : Int32)), .val (.int (if ((own_val p1 t1 v3 v6) &&& (2 : Int64)) = (0 : Int64) then (0 : Int32) else (1 : Int32))), .val (.int (if ((own_val p2 t2 v9 v12) &&& (2 : Int64)) = (0 : Int64) then (0 : Int32) else (1 : Int32)))] [(.int (if ((own_val p1 t1 v3 v6) &&& (2 : Int64)) = (0 : Int64) then (0 : Int32) else (1 : Int32)))])) (fun t_ k_ => XS.iload X167.here hx rfl (hb hby at_134) rfl k_) ?_
  refine own_step (T' := Tc161) (g' := (mkF m 138 #[.val (.int p1), .val (.int t1), .val (.int f1), .val (.int p2), .val (.int t2), .val (.int f2), .val (.int v3), .val (.int v6), .val (.int v9), .val (.int v12), .val (.ref a21), .val (.ref a49), .val (.int (1 : Int32)), .val (.int (1 : Int32)), .val (.int (if ((own_val p1 t1 v3 v6) &&& (2 : Int64)) = (0 : Int64) then (0 : Int32) else (1 : Int32))), .val (.int (if ((own_val p2 t2 v9 v12) &&& (2 : Int64)) = (0 : Int64) then (0 : Int32) else (1 : Int32)))] [(.int v6), (.int (if ((own_val p1 t1 v3 v6) &&& (2 : Int64)) = (0 : Int64) then (0 : Int32) else (1 : Int32)))])) (fun t_ k_ => XS.iload X167.here hx rfl (hb hby at_136) rfl k_) ?_
  have hk169 : (if ((own_val p1 t1 v3 v6) &&& (2 : Int64)) = (0 : Int64) then (0 : Int32) else (1 : Int32)) = v6 := own_fin hv6
  refine own_step (T' := Tc161) (g' := (mkF m 141 #[.val (.int p1), .val (.int t1), .val (.int f1), .val (.int p2), .val (.int t2), .val (.int f2), .val (.int v3), .val (.int v6), .val (.int v9), .val (.int v12), .val (.ref a21), .val (.ref a49), .val (.int (1 : Int32)), .val (.int (1 : Int32)), .val (.int (if ((own_val p1 t1 v3 v6) &&& (2 : Int64)) = (0 : Int64) then (0 : Int32) else (1 : Int32))), .val (.int (if ((own_val p2 t2 v9 v12) &&& (2 : Int64)) = (0 : Int64) then (0 : Int32) else (1 : Int32)))] [])) (fun t_ k_ => XS.icmpNo X167.here hx rfl (hb hby at_138) rfl (XT.ii_ne_f hk169) k_) ?_
  refine own_step (T' := Tc161) (g' := (mkF m 143 #[.val (.int p1), .val (.int t1), .val (.int f1), .val (.int p2), .val (.int t2), .val (.int f2), .val (.int v3), .val (.int v6), .val (.int v9), .val (.int v12), .val (.ref a21), .val (.ref a49), .val (.int (1 : Int32)), .val (.int (1 : Int32)), .val (.int (if ((own_val p1 t1 v3 v6) &&& (2 : Int64)) = (0 : Int64) then (0 : Int32) else (1 : Int32))), .val (.int (if ((own_val p2 t2 v9 v12) &&& (2 : Int64)) = (0 : Int64) then (0 : Int32) else (1 : Int32)))] [(.int (if ((own_val p2 t2 v9 v12) &&& (2 : Int64)) = (0 : Int64) then (0 : Int32) else (1 : Int32)))])) (fun t_ k_ => XS.iload X167.here hx rfl (hb hby at_141) rfl k_) ?_
  refine own_step (T' := Tc161) (g' := (mkF m 145 #[.val (.int p1), .val (.int t1), .val (.int f1), .val (.int p2), .val (.int t2), .val (.int f2), .val (.int v3), .val (.int v6), .val (.int v9), .val (.int v12), .val (.ref a21), .val (.ref a49), .val (.int (1 : Int32)), .val (.int (1 : Int32)), .val (.int (if ((own_val p1 t1 v3 v6) &&& (2 : Int64)) = (0 : Int64) then (0 : Int32) else (1 : Int32))), .val (.int (if ((own_val p2 t2 v9 v12) &&& (2 : Int64)) = (0 : Int64) then (0 : Int32) else (1 : Int32)))] [(.int v12), (.int (if ((own_val p2 t2 v9 v12) &&& (2 : Int64)) = (0 : Int64) then (0 : Int32) else (1 : Int32)))])) (fun t_ k_ => XS.iload X167.here hx rfl (hb hby at_143) rfl k_) ?_
  have hk170 : (if ((own_val p2 t2 v9 v12) &&& (2 : Int64)) = (0 : Int64) then (0 : Int32) else (1 : Int32)) = v12 := own_fin hv12
  refine own_step (T' := Tc161) (g' := (mkF m 148 #[.val (.int p1), .val (.int t1), .val (.int f1), .val (.int p2), .val (.int t2), .val (.int f2), .val (.int v3), .val (.int v6), .val (.int v9), .val (.int v12), .val (.ref a21), .val (.ref a49), .val (.int (1 : Int32)), .val (.int (1 : Int32)), .val (.int (if ((own_val p1 t1 v3 v6) &&& (2 : Int64)) = (0 : Int64) then (0 : Int32) else (1 : Int32))), .val (.int (if ((own_val p2 t2 v9 v12) &&& (2 : Int64)) = (0 : Int64) then (0 : Int32) else (1 : Int32)))] [])) (fun t_ k_ => XS.icmpNo X167.here hx rfl (hb hby at_145) rfl (XT.ii_ne_f hk170) k_) ?_
  refine own_step (T' := Tc161) (g' := (mkF m 149 #[.val (.int p1), .val (.int t1), .val (.int f1), .val (.int p2), .val (.int t2), .val (.int f2), .val (.int v3), .val (.int v6), .val (.int v9), .val (.int v12), .val (.ref a21), .val (.ref a49), .val (.int (1 : Int32)), .val (.int (1 : Int32)), .val (.int (if ((own_val p1 t1 v3 v6) &&& (2 : Int64)) = (0 : Int64) then (0 : Int32) else (1 : Int32))), .val (.int (if ((own_val p2 t2 v9 v12) &&& (2 : Int64)) = (0 : Int64) then (0 : Int32) else (1 : Int32)))] [(.int (1 : Int32))])) (fun t_ k_ => XT.iconstV X167.here hx rfl (1 : Int32) (hb hby at_148) (by decide) k_) ?_
  refine own_step (T' := Tc161) (g' := (mkF m 153 #[.val (.int p1), .val (.int t1), .val (.int f1), .val (.int p2), .val (.int t2), .val (.int f2), .val (.int v3), .val (.int v6), .val (.int v9), .val (.int v12), .val (.ref a21), .val (.ref a49), .val (.int (1 : Int32)), .val (.int (1 : Int32)), .val (.int (if ((own_val p1 t1 v3 v6) &&& (2 : Int64)) = (0 : Int64) then (0 : Int32) else (1 : Int32))), .val (.int (if ((own_val p2 t2 v9 v12) &&& (2 : Int64)) = (0 : Int64) then (0 : Int32) else (1 : Int32)))] [(.int (1 : Int32))])) (fun t_ k_ => XS.goto X167.here hx rfl (pc0 := 149) (pc' := 153) rfl (hb hby at_149) (by decide) (by decide) k_) ?_
  exact own_retN X167 hx hlk (t := .boolean) Bd.returns (by simp) (hb hby at_153) (by rw [e164]; exact ⟨⟨rfl, N168⟩, F147⟩) (by decide) (by decide)
set_option maxRecDepth 65536 in
set_option maxHeartbeats 40000000 in
theorem comes_1 {Post : Tables → Env → Array Value → State → Outcome → State → Prop} (hpost : ∀ tb e args s v u, (limb_1_1.after args s (.returned v) u = true ∧ limb_1_2.after args s (.returned v) u = true ∧ True) → FramedW s (.returned v) u (Jvm.fieldLocs frame_1_writes args s ++ Jvm.arrayLocs frame_1_arrays args s ++ Jvm.staticLocs frame_1_statics s) 24 1152 → Post tb e args s (.returned v) u) :
    ArmFor flags0 classFile x code maxLocals ret World_1 tables_1 room_1 Calls_1 rest_1 Pre_1 Post := by
  intro l hfl _ _ p e ha hc hk s m args below hf hA hF happ hP
  obtain ⟨hcalls, hrest, hpre⟩ := hP
  obtain ⟨-, -, -, hnamed, -, -, -, hat⟩ := (Spec.applies_iff hf).mp happ
  obtain ⟨hg, hn⟩ := and_e (Cond.before_iff.mp (show (Jvm.Cond.and given_1 narrow_1).before args s = true from hpre))
  obtain ⟨hcount, hg0⟩ := and_e hg
  obtain ⟨ha0, hg1⟩ := and_e hg0
  obtain ⟨ha1, hg2⟩ := and_e hg1
  obtain ⟨ha2, hg3⟩ := and_e hg2
  obtain ⟨ha3, hg4⟩ := and_e hg3
  obtain ⟨ha4, hg5⟩ := and_e hg4
  obtain ⟨w0, w1, w2, w3, w4, w5, rfl⟩ : ∃ w0 w1 w2 w3 w4 w5 : Value, args = #[w0, w1, w2, w3, w4, w5] := by
    have hs : args.size = 6 := by simpa [Cond.value, given_1] using hcount
    obtain ⟨L⟩ := args
    match L, hs with
    | [w0, w1, w2, w3, w4, w5], _ => exact ⟨w0, w1, w2, w3, w4, w5, rfl⟩
  have hw := fun d (hd : d ∈ tables_1) => atoms_spec (ws := Jvm.Cond.code x code maxLocals ret :: tables_1) hat d (List.mem_cons_of_mem _ hd)
  obtain ⟨i0, ei0⟩ := is_v ha0
  obtain rfl : w0 = (.int i0) := Option.some.inj ei0
  obtain ⟨i1, ei1⟩ := is_v ha1
  obtain rfl : w1 = (.int i1) := Option.some.inj ei1
  obtain ⟨i2, ei2⟩ := is_v ha2
  obtain rfl : w2 = (.int i2) := Option.some.inj ei2
  obtain ⟨i3, ei3⟩ := is_v ha3
  obtain rfl : w3 = (.int i3) := Option.some.inj ei3
  obtain ⟨i4, ei4⟩ := is_v ha4
  obtain rfl : w4 = (.int i4) := Option.some.inj ei4
  obtain ⟨i5, ei5⟩ := is_v hg5
  obtain rfl : w5 = (.int i5) := Option.some.inj ei5
  obtain ⟨hsets, hown0⟩ := atoms_of _ (rest_1_c_eq ▸ (show rest_1_c.before _ s = true from hrest))
  have g6 := Cond.before_iff.mp (hsets _ (List.mem_of_getElem? (i := 6) rfl))
  obtain ⟨dd, ev⟩ := arr_v g6
  have SD : Sta s s.heap "java/util/ArrayList" "DEFAULTCAPACITY_EMPTY_ELEMENTDATA" "[Ljava/lang/Object;" (.ref dd) := Sta.start ev (Or.inr ⟨(hw _ (List.mem_of_getElem? (i := 29) rfl)), hsets _ (List.mem_of_getElem? (i := 2) rfl)⟩)
  obtain ⟨n, o, h1, h2, h3, _, L, rfl, ⟨rfl, N⟩, hq⟩ := rm_law l s _ hw tables_1 i0 i1 i2 i3 i4 i5 dd s.heap s.heap.size (Nat.le_refl _) (Old.start s) SD p e ha hc hk s m _ below hf ((Spec.applies_iff_loose hf).mp happ).1 ⟨rfl, State.Warmed39.refl s, rfl⟩ trivial
  refine ⟨n, _, h1, h2, h3, hpost _ _ _ _ _ _ ⟨Cond.after_iff.mpr rfl, Cond.after_iff.mpr (eq_i res_at (Term.int_eval (1)) rfl), trivial⟩ ⟨hq.1, hq.2.1, hq.2.2.1, (hq.2.2.2.sift fun y hy => Or.inr (N y hy)).mono (by decide) (by decide)⟩⟩
theorem main_1_1 : Claimed_1_1 := comes_1 fun _ _ _ _ _ _ h hF => ⟨h.1, hF⟩
theorem main_1_2 : Claimed_1_2 := comes_1 fun _ _ _ _ _ _ h hF => ⟨h.2.1, hF⟩
end Jvm.Pilot.@@N@@
namespace Jvm.Pilot.@@N@@
open Jvm Jvm.ClassFile Sem Op Lib Jvm.Free Jvm.Stand Jvm.Pilot.@@N@@.Jvm.D
/-! MADE BY PROGRAM (witnessworld.py) out of the Statement's table words and the real class files: 33 classes; the members and pool entries that the words name. The judged class is class 1, her method 1. -/
namespace start1
open Jvm.ClassFile
def u (s : String) : CpInfo := .utf8 (stringToUtf16 s)
/-- a pool by its gaps: so many unusable entries, then the entry; so many at the end -/
def gap : Nat → List CpInfo → List CpInfo
  | 0, r => r
  | n + 1, r => .unusable :: gap n r
def poolList (es : List (Nat × CpInfo)) (last : Nat) : List CpInfo := es.foldr (fun e r => gap e.1 (e.2 :: r)) (gap last [])
def pool (es : List (Nat × CpInfo)) (last : Nat) : Array CpInfo := ⟨poolList es last⟩
def fileOf (pool : Array CpInfo) (this : Nat) (attrs : Array Attribute := #[]) (ms : Array MethodInfo := #[]) (fl : Nat := 33) (sup : Nat := 0) (ifs : Array Nat := #[]) (fds : Array FieldInfo := #[]) : ClassFile where
  minorVersion := 0
  majorVersion := 65
  constantPool := pool
  accessFlags := fl
  thisClass := this
  superClass := sup
  interfaces := ifs
  fields := fds
  methods := ms
  attributes := attrs
def plain (name : String) (sup : Option ClassId) : Class where
  name := name
  kind := .ordinary
  loader := none
  accessFlags := 33
  super := sup
  interfaces := #[]
  cf := none
  fields := #[]
  methods := #[]
  instanceTypes := #[]
  staticTypes := #[]
  resolved := #[]
  callSites := []
  init := .initialized
  statics := none
  mirror := none

def pool0 : Array CpInfo := pool [(5, u "<init>"), (0, u "()V"), (1, .class_ 10), (1, u "java/lang/Object")] 113

def k0c0 : Code := { maxStack := 0, maxLocals := 1, code := object_method_1_code, exceptionTable := #[], attributes := #[] }
def k0m0 : Method := { name := "<init>", desc := "()V", sig := { parameters := [], returnType := none }, accessFlags := 1, code := some k0c0 }
/-- java/lang/Object -/
def k0 : Class := { plain "java/lang/Object" none with
  accessFlags := 33
  interfaces := #[]
  cf := some (fileOf pool0 8 #[] #[{ accessFlags := 1, nameIndex := 5, descriptorIndex := 6, attributes := #[] }] 33 0 #[] #[])
  fields := #[]
  methods := #[k0m0]
  instanceTypes := #[]
  staticTypes := #[]
  resolved := Array.replicate 124 none
  statics := none }

def pool1 : Array CpInfo := pool [(2, .class_ 4), (1, u "java/lang/Object"), (0, u "<init>"), (0, u "()V"), (0, .class_ 8), (0, u "com/example/dossier_into_mets/dossierintomets/CharacterBudget"), (0, .long 1000), (1, .methodref 7 12), (0, .nameAndType 5 13), (0, u "(J)V"), (0, .class_ 15), (0, u "com/example/dossier_into_mets/dossierintomets/MemberDivs"), (0, .string 17), (0, u "/mets"), (0, .methodref 14 19), (0, .nameAndType 5 20), (0, u "(Lcom/example/dossier_into_mets/dossierintomets/CharacterBudget;Ljava/lang/String;)V"), (0, .methodref 14 22), (0, .nameAndType 23 24), (0, u "add"), (0, u "(IIZZ)Z"), (0, .methodref 14 26), (0, .nameAndType 27 28), (0, u "byUrl"), (0, u "(I)Z"), (0, .class_ 30), (0, u "com/example/dossier_into_mets/dossierintomets/MemberDivsByUrlPinLaw"), (2, u "law"), (0, u "(IIIIII)Z")] 3

def k1m0 : Method := { name := "<init>", desc := "()V", sig := { parameters := [], returnType := none }, accessFlags := 2, code := none }
def k1c1 : Code := { maxStack := 5, maxLocals := 16, code := code, exceptionTable := #[], attributes := #[] }
def k1m1 : Method := { name := "law", desc := "(IIIIII)Z", sig := { parameters := [.int, .int, .int, .int, .int, .int], returnType := some .boolean }, accessFlags := 9, code := some k1c1 }
/-- com/example/dossier_into_mets/dossierintomets/MemberDivsByUrlPinLaw -/
def k1 : Class := { plain "com/example/dossier_into_mets/dossierintomets/MemberDivsByUrlPinLaw" (some 0) with
  accessFlags := 49
  interfaces := #[]
  cf := some (fileOf pool1 29 #[] #[{ accessFlags := 2, nameIndex := 5, descriptorIndex := 6, attributes := #[] }, { accessFlags := 9, nameIndex := 33, descriptorIndex := 34, attributes := #[] }] 49 2 #[] #[])
  fields := #[]
  methods := #[k1m0, k1m1]
  instanceTypes := #[]
  staticTypes := #[]
  resolved := Array.replicate 38 none
  statics := none }

def pool2 : Array CpInfo := pool [(1, .class_ 2), (0, u "com/example/dossier_into_mets/dossierintomets/CharacterBudget"), (0, .methodref 4 5), (0, .class_ 6), (0, .nameAndType 7 8), (0, u "java/lang/Object"), (0, u "<init>"), (0, u "()V"), (0, .fieldref 1 10), (0, .nameAndType 11 12), (0, u "limit"), (0, u "J"), (3, u "(J)Z"), (4, u "spendExactly"), (2, u "releaseExactly"), (0, u "(J)V"), (0, .fieldref 1 27), (0, .nameAndType 28 12), (0, u "spent"), (9, u "OVERHEAD"), (0, u "I"), (2, u "LINES_COUNTED"), (0, u "Ljava/lang/String;"), (2, u "BUFFER_SIZE")] 14

def k2c0 : Code := { maxStack := 3, maxLocals := 3, code := prog_7_method_1_code, exceptionTable := #[], attributes := #[] }
def k2m0 : Method := { name := "<init>", desc := "(J)V", sig := { parameters := [.long], returnType := none }, accessFlags := 0, code := some k2c0 }
def k2c1 : Code := { maxStack := 6, maxLocals := 3, code := prog_7_method_4_code, exceptionTable := #[], attributes := #[] }
def k2m1 : Method := { name := "spendExactly", desc := "(J)Z", sig := { parameters := [.long], returnType := some .boolean }, accessFlags := 0, code := some k2c1 }
def k2c2 : Code := { maxStack := 5, maxLocals := 3, code := prog_7_method_5_code, exceptionTable := #[], attributes := #[] }
def k2m2 : Method := { name := "releaseExactly", desc := "(J)V", sig := { parameters := [.long], returnType := none }, accessFlags := 0, code := some k2c2 }
/-- com/example/dossier_into_mets/dossierintomets/CharacterBudget -/
def k2 : Class := { plain "com/example/dossier_into_mets/dossierintomets/CharacterBudget" (some 0) with
  accessFlags := 48
  interfaces := #[]
  cf := some (fileOf pool2 1 #[] #[{ accessFlags := 0, nameIndex := 7, descriptorIndex := 25, attributes := #[] }, { accessFlags := 0, nameIndex := 21, descriptorIndex := 16, attributes := #[] }, { accessFlags := 0, nameIndex := 24, descriptorIndex := 25, attributes := #[] }] 48 4 #[] #[{ accessFlags := 24, nameIndex := 38, descriptorIndex := 39, attributes := #[] }, { accessFlags := 24, nameIndex := 42, descriptorIndex := 43, attributes := #[] }, { accessFlags := 26, nameIndex := 46, descriptorIndex := 39, attributes := #[] }, { accessFlags := 18, nameIndex := 11, descriptorIndex := 12, attributes := #[] }, { accessFlags := 2, nameIndex := 28, descriptorIndex := 12, attributes := #[] }])
  fields := #[{ name := "OVERHEAD", type := .int, accessFlags := 24, slot := 0, constantValue := 0 }, { name := "LINES_COUNTED", type := (.object "java/lang/String"), accessFlags := 24, slot := 1, constantValue := 0 }, { name := "BUFFER_SIZE", type := .int, accessFlags := 26, slot := 2, constantValue := 0 }, { name := "limit", type := .long, accessFlags := 18, slot := 0, constantValue := 0 }, { name := "spent", type := .long, accessFlags := 2, slot := 1, constantValue := 0 }]
  methods := #[k2m0, k2m1, k2m2]
  instanceTypes := #[.long, .long]
  staticTypes := #[.int, (.object "java/lang/String"), .int]
  resolved := Array.replicate 61 none
  statics := none }

def pool3 : Array CpInfo := pool [(3, .class_ 4), (0, u "com/example/dossier_into_mets/dossierintomets/MemberDivs"), (0, .methodref 6 7), (0, .class_ 8), (0, .nameAndType 9 10), (0, u "java/lang/Object"), (0, u "<init>"), (0, u "()V"), (0, .class_ 12), (0, u "java/util/ArrayList"), (0, .methodref 11 7), (0, .fieldref 3 15), (0, .nameAndType 16 17), (0, u "types"), (0, u "Ljava/util/List;"), (0, .class_ 19), (0, u "java/util/HashMap"), (0, .methodref 18 7), (0, .fieldref 3 22), (0, .nameAndType 23 24), (0, u "typeNumbers"), (0, u "Ljava/util/Map;"), (0, .fieldref 3 26), (0, .nameAndType 27 28), (0, u "divs"), (0, u "[J"), (0, .fieldref 3 30), (0, .nameAndType 31 32), (0, u "budget"), (0, u "Lcom/example/dossier_into_mets/dossierintomets/CharacterBudget;"), (0, .fieldref 3 34), (0, .nameAndType 35 36), (0, u "objectDiv"), (0, u "Ljava/lang/String;"), (14, u "add"), (12, .fieldref 3 65), (0, .nameAndType 66 67), (0, u "count"), (0, u "I"), (0, .methodref 3 69), (0, .nameAndType 70 71), (0, u "grow"), (0, u "()Z"), (0, .long 2), (12, .long 2147483639), (1, .long 8), (1, .long 3), (1, .methodref 92 93), (0, .class_ 94), (0, .nameAndType 95 96), (0, u "java/lang/Math"), (0, u "max"), (0, u "(JJ)J"), (0, .methodref 92 98), (0, .nameAndType 99 96), (0, u "min"), (2, .methodref 103 104), (0, .class_ 105), (0, .nameAndType 106 107), (0, u "com/example/dossier_into_mets/dossierintomets/Held"), (0, u "ofBytes"), (0, u "(J)J"), (0, .methodref 109 110), (0, .class_ 111), (0, .nameAndType 112 113), (0, u "com/example/dossier_into_mets/dossierintomets/CharacterBudget"), (0, u "spendExactly"), (0, u "(J)Z"), (0, .methodref 115 116), (0, .class_ 117), (0, .nameAndType 118 119), (0, u "java/util/Arrays"), (0, u "copyOf"), (0, u "([JI)[J"), (0, .fieldref 3 121), (0, .nameAndType 122 123), (0, u "held"), (0, u "J"), (0, .methodref 109 125), (0, .nameAndType 126 127), (0, u "releaseExactly"), (0, u "(J)V"), (0, u "BY_HANDLE"), (3, u "BY_URL"), (0, u "FLAG_BITS"), (1, u "TYPE_MASK"), (0, u "FIRST_CAPACITY"), (1, u "MAX_CAPACITY"), (4, u "(Lcom/example/dossier_into_mets/dossierintomets/CharacterBudget;Ljava/lang/String;)V"), (6, u "(IIZZ)Z"), (5, u "(I)Z"), (0, u "byUrl")] 17

def k3c0 : Code := { maxStack := 3, maxLocals := 3, code := prog_40_method_1_code, exceptionTable := #[], attributes := #[] }
def k3m0 : Method := { name := "<init>", desc := "(Lcom/example/dossier_into_mets/dossierintomets/CharacterBudget;Ljava/lang/String;)V", sig := { parameters := [(.object "com/example/dossier_into_mets/dossierintomets/CharacterBudget"), (.object "java/lang/String")], returnType := none }, accessFlags := 0, code := some k3c0 }
def k3c1 : Code := { maxStack := 7, maxLocals := 5, code := prog_40_method_4_code, exceptionTable := #[], attributes := #[] }
def k3m1 : Method := { name := "add", desc := "(IIZZ)Z", sig := { parameters := [.int, .int, .boolean, .boolean], returnType := some .boolean }, accessFlags := 0, code := some k3c1 }
def k3c2 : Code := { maxStack := 4, maxLocals := 2, code := prog_40_method_9_code, exceptionTable := #[], attributes := #[] }
def k3m2 : Method := { name := "byUrl", desc := "(I)Z", sig := { parameters := [.int], returnType := some .boolean }, accessFlags := 0, code := some k3c2 }
def k3c3 : Code := { maxStack := 8, maxLocals := 5, code := prog_40_method_10_code, exceptionTable := #[], attributes := #[] }
def k3m3 : Method := { name := "grow", desc := "()Z", sig := { parameters := [], returnType := some .boolean }, accessFlags := 2, code := some k3c3 }
/-- com/example/dossier_into_mets/dossierintomets/MemberDivs -/
def k3 : Class := { plain "com/example/dossier_into_mets/dossierintomets/MemberDivs" (some 0) with
  accessFlags := 48
  interfaces := #[]
  cf := some (fileOf pool3 3 #[] #[{ accessFlags := 0, nameIndex := 9, descriptorIndex := 143, attributes := #[] }, { accessFlags := 0, nameIndex := 51, descriptorIndex := 150, attributes := #[] }, { accessFlags := 0, nameIndex := 157, descriptorIndex := 156, attributes := #[] }, { accessFlags := 2, nameIndex := 70, descriptorIndex := 71, attributes := #[] }] 48 6 #[] #[{ accessFlags := 26, nameIndex := 128, descriptorIndex := 123, attributes := #[] }, { accessFlags := 26, nameIndex := 132, descriptorIndex := 123, attributes := #[] }, { accessFlags := 26, nameIndex := 133, descriptorIndex := 67, attributes := #[] }, { accessFlags := 26, nameIndex := 135, descriptorIndex := 123, attributes := #[] }, { accessFlags := 26, nameIndex := 136, descriptorIndex := 67, attributes := #[] }, { accessFlags := 26, nameIndex := 138, descriptorIndex := 67, attributes := #[] }, { accessFlags := 18, nameIndex := 31, descriptorIndex := 32, attributes := #[] }, { accessFlags := 18, nameIndex := 35, descriptorIndex := 36, attributes := #[] }, { accessFlags := 18, nameIndex := 16, descriptorIndex := 17, attributes := #[] }, { accessFlags := 18, nameIndex := 23, descriptorIndex := 24, attributes := #[] }, { accessFlags := 2, nameIndex := 27, descriptorIndex := 28, attributes := #[] }, { accessFlags := 2, nameIndex := 66, descriptorIndex := 67, attributes := #[] }, { accessFlags := 2, nameIndex := 122, descriptorIndex := 123, attributes := #[] }])
  fields := #[{ name := "BY_HANDLE", type := .long, accessFlags := 26, slot := 0, constantValue := 0 }, { name := "BY_URL", type := .long, accessFlags := 26, slot := 1, constantValue := 0 }, { name := "FLAG_BITS", type := .int, accessFlags := 26, slot := 2, constantValue := 0 }, { name := "TYPE_MASK", type := .long, accessFlags := 26, slot := 3, constantValue := 0 }, { name := "FIRST_CAPACITY", type := .int, accessFlags := 26, slot := 4, constantValue := 0 }, { name := "MAX_CAPACITY", type := .int, accessFlags := 26, slot := 5, constantValue := 0 }, { name := "budget", type := (.object "com/example/dossier_into_mets/dossierintomets/CharacterBudget"), accessFlags := 18, slot := 0, constantValue := 0 }, { name := "objectDiv", type := (.object "java/lang/String"), accessFlags := 18, slot := 1, constantValue := 0 }, { name := "types", type := (.object "java/util/List"), accessFlags := 18, slot := 2, constantValue := 0 }, { name := "typeNumbers", type := (.object "java/util/Map"), accessFlags := 18, slot := 3, constantValue := 0 }, { name := "divs", type := (.array .long), accessFlags := 2, slot := 4, constantValue := 0 }, { name := "count", type := .int, accessFlags := 2, slot := 5, constantValue := 0 }, { name := "held", type := .long, accessFlags := 2, slot := 6, constantValue := 0 }]
  methods := #[k3m0, k3m1, k3m2, k3m3]
  instanceTypes := #[(.object "com/example/dossier_into_mets/dossierintomets/CharacterBudget"), (.object "java/lang/String"), (.object "java/util/List"), (.object "java/util/Map"), (.array .long), .int, .long]
  staticTypes := #[.long, .long, .int, .long, .int, .int]
  resolved := Array.replicate 175 none
  statics := none }

def pool4 : Array CpInfo := pool [(1, .class_ 2), (0, u "java/io/Serializable"), (0, .class_ 4), (0, u "java/lang/Object")] 2

/-- java/io/Serializable -/
def k4 : Class := { plain "java/io/Serializable" (some 0) with
  accessFlags := 1537
  interfaces := #[]
  cf := some (fileOf pool4 1 #[] #[] 1537 3 #[] #[])
  fields := #[]
  methods := #[]
  instanceTypes := #[]
  staticTypes := #[]
  resolved := Array.replicate 7 none
  statics := none }

def pool5 : Array CpInfo := pool [(1, .class_ 2), (0, u "java/lang/Comparable"), (0, .class_ 4), (0, u "java/lang/Object")] 7

/-- java/lang/Comparable -/
def k5 : Class := { plain "java/lang/Comparable" (some 0) with
  accessFlags := 1537
  interfaces := #[]
  cf := some (fileOf pool5 1 #[] #[] 1537 3 #[] #[])
  fields := #[]
  methods := #[]
  instanceTypes := #[]
  staticTypes := #[]
  resolved := Array.replicate 12 none
  statics := none }

def pool6 : Array CpInfo := pool [(2, .class_ 4), (1, u "java/lang/CharSequence"), (42, .class_ 48), (0, u "java/lang/CharSequence$1CodePointIterator"), (10, .class_ 60), (0, u "java/lang/CharSequence$1CharIterator"), (5, .class_ 67), (0, u "java/lang/Object")] 63

/-- java/lang/CharSequence -/
def k6 : Class := { plain "java/lang/CharSequence" (some 0) with
  accessFlags := 1537
  interfaces := #[]
  cf := some (fileOf pool6 2 #[.nestMembers #[47, 59]] #[] 1537 66 #[] #[])
  fields := #[]
  methods := #[]
  instanceTypes := #[]
  staticTypes := #[]
  resolved := Array.replicate 131 none
  statics := none }

def pool7 : Array CpInfo := pool [(1, .class_ 2), (0, u "java/lang/constant/Constable"), (0, .class_ 4), (0, u "java/lang/Object")] 6

/-- java/lang/constant/Constable -/
def k7 : Class := { plain "java/lang/constant/Constable" (some 0) with
  accessFlags := 1537
  interfaces := #[]
  cf := some (fileOf pool7 1 #[] #[] 1537 3 #[] #[])
  fields := #[]
  methods := #[]
  instanceTypes := #[]
  staticTypes := #[]
  resolved := Array.replicate 11 none
  statics := none }

def pool8 : Array CpInfo := pool [(1, .class_ 2), (0, u "java/lang/constant/ConstantDesc"), (0, .class_ 4), (0, u "java/lang/Object")] 32

/-- java/lang/constant/ConstantDesc -/
def k8 : Class := { plain "java/lang/constant/ConstantDesc" (some 0) with
  accessFlags := 1537
  interfaces := #[]
  cf := some (fileOf pool8 1 #[] #[] 1537 3 #[] #[])
  fields := #[]
  methods := #[]
  instanceTypes := #[]
  staticTypes := #[]
  resolved := Array.replicate 37 none
  statics := none }

def pool9 : Array CpInfo := pool [(2, .class_ 4), (1, u "java/lang/Object"), (0, u "<init>"), (0, u "()V"), (3, .class_ 12), (1, u "java/lang/String"), (0, u "value"), (0, u "[B"), (2, u "coder"), (0, u "B"), (2, u "hash"), (0, u "I"), (2, u "hashIsZero"), (0, u "Z"), (13, u "COMPACT_STRINGS"), (534, .class_ 576), (0, u "java/lang/CharSequence"), (22, u "CASE_INSENSITIVE_ORDER"), (0, u "Ljava/util/Comparator;"), (500, u "serialPersistentFields"), (0, u "[Ljava/io/ObjectStreamField;"), (0, .class_ 1104), (0, u "java/lang/String$CaseInsensitiveComparator"), (1, .class_ 1107), (0, u "java/io/Serializable"), (0, .class_ 1109), (0, u "java/lang/Comparable"), (0, .class_ 1111), (0, u "java/lang/constant/Constable"), (0, .class_ 1113), (0, u "java/lang/constant/ConstantDesc"), (2, u "serialVersionUID"), (0, u "J"), (3, u "REPL"), (0, u "C"), (2, u "LATIN1"), (1, u "UTF16")] 323

def k9m0 : Method := { name := "<init>", desc := "()V", sig := { parameters := [], returnType := none }, accessFlags := 1, code := none }
/-- java/lang/String -/
def k9 : Class := { plain "java/lang/String" (some 0) with
  accessFlags := 49
  interfaces := #[4, 5, 6, 7, 8]
  cf := some (fileOf pool9 10 #[.nestMembers #[1103]] #[{ accessFlags := 1, nameIndex := 5, descriptorIndex := 6, attributes := #[] }] 49 2 #[1106, 1108, 575, 1110, 1112] #[{ accessFlags := 18, nameIndex := 13, descriptorIndex := 14, attributes := #[] }, { accessFlags := 18, nameIndex := 17, descriptorIndex := 18, attributes := #[] }, { accessFlags := 2, nameIndex := 21, descriptorIndex := 22, attributes := #[] }, { accessFlags := 2, nameIndex := 25, descriptorIndex := 26, attributes := #[] }, { accessFlags := 26, nameIndex := 1116, descriptorIndex := 1117, attributes := #[] }, { accessFlags := 24, nameIndex := 40, descriptorIndex := 26, attributes := #[] }, { accessFlags := 26, nameIndex := 1101, descriptorIndex := 1102, attributes := #[] }, { accessFlags := 26, nameIndex := 1121, descriptorIndex := 1122, attributes := #[] }, { accessFlags := 25, nameIndex := 599, descriptorIndex := 600, attributes := #[] }, { accessFlags := 24, nameIndex := 1125, descriptorIndex := 18, attributes := #[] }, { accessFlags := 24, nameIndex := 1127, descriptorIndex := 18, attributes := #[] }])
  fields := #[{ name := "value", type := (.array .byte), accessFlags := 18, slot := 0, constantValue := 0 }, { name := "coder", type := .byte, accessFlags := 18, slot := 1, constantValue := 0 }, { name := "hash", type := .int, accessFlags := 2, slot := 2, constantValue := 0 }, { name := "hashIsZero", type := .boolean, accessFlags := 2, slot := 3, constantValue := 0 }, { name := "serialVersionUID", type := .long, accessFlags := 26, slot := 0, constantValue := 0 }, { name := "COMPACT_STRINGS", type := .boolean, accessFlags := 24, slot := 1, constantValue := 0 }, { name := "serialPersistentFields", type := (.array (.object "java/io/ObjectStreamField")), accessFlags := 26, slot := 2, constantValue := 0 }, { name := "REPL", type := .char, accessFlags := 26, slot := 3, constantValue := 0 }, { name := "CASE_INSENSITIVE_ORDER", type := (.object "java/util/Comparator"), accessFlags := 25, slot := 4, constantValue := 0 }, { name := "LATIN1", type := .byte, accessFlags := 24, slot := 5, constantValue := 0 }, { name := "UTF16", type := .byte, accessFlags := 24, slot := 6, constantValue := 0 }]
  methods := #[k9m0]
  instanceTypes := #[(.array .byte), .byte, .int, .boolean]
  staticTypes := #[.long, .boolean, (.array (.object "java/io/ObjectStreamField")), .char, (.object "java/util/Comparator"), .byte, .byte]
  resolved := Array.replicate 1451 none
  statics := none }

def pool10 : Array CpInfo := pool [(8, .class_ 10), (1, u "java/lang/Iterable"), (24, .class_ 36), (0, u "java/lang/Object")] 25

/-- java/lang/Iterable -/
def k10 : Class := { plain "java/lang/Iterable" (some 0) with
  accessFlags := 1537
  interfaces := #[]
  cf := some (fileOf pool10 8 #[] #[] 1537 35 #[] #[])
  fields := #[]
  methods := #[]
  instanceTypes := #[]
  staticTypes := #[]
  resolved := Array.replicate 62 none
  statics := none }

def pool11 : Array CpInfo := pool [(10, .class_ 12), (1, u "java/util/Collection"), (47, .class_ 61), (0, u "java/lang/Object"), (0, .class_ 63), (0, u "java/lang/Iterable")] 51

/-- java/util/Collection -/
def k11 : Class := { plain "java/util/Collection" (some 0) with
  accessFlags := 1537
  interfaces := #[10]
  cf := some (fileOf pool11 10 #[] #[] 1537 60 #[62] #[])
  fields := #[]
  methods := #[]
  instanceTypes := #[]
  staticTypes := #[]
  resolved := Array.replicate 115 none
  statics := none }

def pool12 : Array CpInfo := pool [(1, .methodref 2 3), (0, .class_ 4), (0, .nameAndType 5 6), (0, u "java/lang/Object"), (0, u "<init>"), (0, u "()V"), (1, .class_ 10), (1, u "java/util/AbstractCollection"), (66, .class_ 78), (0, u "java/util/Collection")] 81

def k12c0 : Code := { maxStack := 1, maxLocals := 1, code := jdk_22_method_1_code, exceptionTable := #[], attributes := #[] }
def k12m0 : Method := { name := "<init>", desc := "()V", sig := { parameters := [], returnType := none }, accessFlags := 4, code := some k12c0 }
/-- java/util/AbstractCollection -/
def k12 : Class := { plain "java/util/AbstractCollection" (some 0) with
  accessFlags := 1057
  interfaces := #[11]
  cf := some (fileOf pool12 8 #[] #[{ accessFlags := 4, nameIndex := 5, descriptorIndex := 6, attributes := #[] }] 1057 2 #[77] #[])
  fields := #[]
  methods := #[k12m0]
  instanceTypes := #[]
  staticTypes := #[]
  resolved := Array.replicate 160 none
  statics := none }

def pool13 : Array CpInfo := pool [(8, .class_ 10), (1, u "java/util/SequencedCollection"), (15, .class_ 27), (0, u "java/lang/Object"), (0, .class_ 29), (0, u "java/util/Collection")] 27

/-- java/util/SequencedCollection -/
def k13 : Class := { plain "java/util/SequencedCollection" (some 0) with
  accessFlags := 1537
  interfaces := #[11]
  cf := some (fileOf pool13 8 #[] #[] 1537 26 #[28] #[])
  fields := #[]
  methods := #[]
  instanceTypes := #[]
  staticTypes := #[]
  resolved := Array.replicate 57 none
  statics := none }

def pool14 : Array CpInfo := pool [(8, .class_ 10), (1, u "java/util/List"), (92, .class_ 104), (0, u "java/lang/Object"), (15, .class_ 121), (0, u "java/util/SequencedCollection")] 129

/-- java/util/List -/
def k14 : Class := { plain "java/util/List" (some 0) with
  accessFlags := 1537
  interfaces := #[13]
  cf := some (fileOf pool14 8 #[] #[] 1537 103 #[120] #[])
  fields := #[]
  methods := #[]
  instanceTypes := #[]
  staticTypes := #[]
  resolved := Array.replicate 251 none
  statics := none }

def pool15 : Array CpInfo := pool [(1, .methodref 2 3), (0, .class_ 4), (0, .nameAndType 5 6), (0, u "java/util/AbstractCollection"), (0, u "<init>"), (0, u "()V"), (0, .fieldref 8 9), (0, .class_ 10), (0, .nameAndType 11 12), (0, u "java/util/AbstractList"), (0, u "modCount"), (0, u "I"), (64, .class_ 78), (0, u "java/util/AbstractList$Itr"), (3, .class_ 83), (0, u "java/util/AbstractList$ListItr"), (9, .class_ 94), (0, u "java/util/AbstractList$RandomAccessSubList"), (3, .class_ 99), (0, u "java/util/AbstractList$SubList"), (33, .class_ 134), (0, u "java/util/List"), (73, .class_ 209), (0, u "java/util/AbstractList$SubList$1"), (0, .class_ 211), (0, u "java/util/AbstractList$RandomAccessSpliterator")] 6

def k15c0 : Code := { maxStack := 2, maxLocals := 1, code := jdk_39_method_1_code, exceptionTable := #[], attributes := #[] }
def k15m0 : Method := { name := "<init>", desc := "()V", sig := { parameters := [], returnType := none }, accessFlags := 4, code := some k15c0 }
/-- java/util/AbstractList -/
def k15 : Class := { plain "java/util/AbstractList" (some 12) with
  accessFlags := 1057
  interfaces := #[14]
  cf := some (fileOf pool15 8 #[.nestMembers #[93, 98, 208, 210, 82, 77]] #[{ accessFlags := 4, nameIndex := 5, descriptorIndex := 6, attributes := #[] }] 1057 2 #[133] #[{ accessFlags := 132, nameIndex := 11, descriptorIndex := 12, attributes := #[] }])
  fields := #[{ name := "modCount", type := .int, accessFlags := 132, slot := 0, constantValue := 0 }]
  methods := #[k15m0]
  instanceTypes := #[.int]
  staticTypes := #[]
  resolved := Array.replicate 218 none
  statics := none }

def pool16 : Array CpInfo := pool [(1, .class_ 2), (0, u "java/util/RandomAccess"), (0, .class_ 4), (0, u "java/lang/Object")] 2

/-- java/util/RandomAccess -/
def k16 : Class := { plain "java/util/RandomAccess" (some 0) with
  accessFlags := 1537
  interfaces := #[]
  cf := some (fileOf pool16 1 #[] #[] 1537 3 #[] #[])
  fields := #[]
  methods := #[]
  instanceTypes := #[]
  staticTypes := #[]
  resolved := Array.replicate 7 none
  statics := none }

def pool17 : Array CpInfo := pool [(1, .class_ 2), (0, u "java/lang/Cloneable"), (0, .class_ 4), (0, u "java/lang/Object")] 2

/-- java/lang/Cloneable -/
def k17 : Class := { plain "java/lang/Cloneable" (some 0) with
  accessFlags := 1537
  interfaces := #[]
  cf := some (fileOf pool17 1 #[] #[] 1537 3 #[] #[])
  fields := #[]
  methods := #[]
  instanceTypes := #[]
  staticTypes := #[]
  resolved := Array.replicate 7 none
  statics := none }

def pool18 : Array CpInfo := pool [(1, .methodref 2 3), (0, .class_ 4), (0, .nameAndType 5 6), (0, u "java/util/AbstractList"), (0, u "<init>"), (0, u "()V"), (2, .fieldref 10 11), (0, .class_ 12), (0, .nameAndType 13 14), (0, u "java/util/ArrayList"), (0, u "elementData"), (0, u "[Ljava/lang/Object;"), (2, u "EMPTY_ELEMENTDATA"), (21, .fieldref 10 40), (0, .nameAndType 41 14), (0, u "DEFAULTCAPACITY_EMPTY_ELEMENTDATA"), (8, u "size"), (0, u "I"), (96, .class_ 149), (0, u "java/util/List"), (112, .class_ 263), (0, u "java/util/ArrayList$ListItr"), (3, .class_ 268), (0, u "java/util/ArrayList$Itr"), (7, .class_ 277), (0, u "java/util/ArrayList$SubList"), (12, .class_ 291), (0, u "java/util/ArrayList$ArrayListSpliterator"), (37, .class_ 330), (0, u "java/util/RandomAccess"), (0, .class_ 332), (0, u "java/lang/Cloneable"), (0, .class_ 334), (0, u "java/io/Serializable"), (0, u "serialVersionUID"), (0, u "J"), (3, u "DEFAULT_CAPACITY"), (159, .class_ 501), (0, u "java/util/ArrayList$SubList$2"), (0, .class_ 503), (0, u "java/util/ArrayList$SubList$1")] 5

def k18c0 : Code := { maxStack := 2, maxLocals := 1, code := jdk_38_method_2_code, exceptionTable := #[], attributes := #[] }
def k18m0 : Method := { name := "<init>", desc := "()V", sig := { parameters := [], returnType := none }, accessFlags := 1, code := some k18c0 }
/-- java/util/ArrayList -/
def k18 : Class := { plain "java/util/ArrayList" (some 15) with
  accessFlags := 33
  interfaces := #[14, 16, 17, 4]
  cf := some (fileOf pool18 10 #[.nestMembers #[290, 276, 500, 502, 262, 267]] #[{ accessFlags := 1, nameIndex := 5, descriptorIndex := 6, attributes := #[] }] 33 2 #[148, 329, 331, 333] #[{ accessFlags := 26, nameIndex := 335, descriptorIndex := 336, attributes := #[] }, { accessFlags := 26, nameIndex := 340, descriptorIndex := 51, attributes := #[] }, { accessFlags := 26, nameIndex := 17, descriptorIndex := 14, attributes := #[] }, { accessFlags := 26, nameIndex := 41, descriptorIndex := 14, attributes := #[] }, { accessFlags := 128, nameIndex := 13, descriptorIndex := 14, attributes := #[] }, { accessFlags := 2, nameIndex := 50, descriptorIndex := 51, attributes := #[] }])
  fields := #[{ name := "serialVersionUID", type := .long, accessFlags := 26, slot := 0, constantValue := 0 }, { name := "DEFAULT_CAPACITY", type := .int, accessFlags := 26, slot := 1, constantValue := 0 }, { name := "EMPTY_ELEMENTDATA", type := (.array (.object "java/lang/Object")), accessFlags := 26, slot := 2, constantValue := 0 }, { name := "DEFAULTCAPACITY_EMPTY_ELEMENTDATA", type := (.array (.object "java/lang/Object")), accessFlags := 26, slot := 3, constantValue := 0 }, { name := "elementData", type := (.array (.object "java/lang/Object")), accessFlags := 128, slot := 1, constantValue := 0 }, { name := "size", type := .int, accessFlags := 2, slot := 2, constantValue := 0 }]
  methods := #[k18m0]
  instanceTypes := #[.int, (.array (.object "java/lang/Object")), .int]
  staticTypes := #[.long, .int, (.array (.object "java/lang/Object")), (.array (.object "java/lang/Object"))]
  resolved := Array.replicate 509 none
  statics := some 0 }

def pool19 : Array CpInfo := pool [(2, .class_ 4), (1, u "java/util/Map"), (31, .class_ 37), (0, u "java/util/Map$Entry"), (55, .class_ 94), (0, u "java/lang/Object")] 168

/-- java/util/Map -/
def k19 : Class := { plain "java/util/Map" (some 0) with
  accessFlags := 1537
  interfaces := #[]
  cf := some (fileOf pool19 2 #[.nestMembers #[36]] #[] 1537 93 #[] #[])
  fields := #[]
  methods := #[]
  instanceTypes := #[]
  staticTypes := #[]
  resolved := Array.replicate 263 none
  statics := none }

def pool20 : Array CpInfo := pool [(1, .methodref 2 3), (0, .class_ 4), (0, .nameAndType 5 6), (0, u "java/lang/Object"), (0, u "<init>"), (0, u "()V"), (1, .class_ 10), (1, u "java/util/AbstractMap"), (42, .class_ 54), (0, u "java/util/Map"), (9, u "keySet"), (0, u "Ljava/util/Set;"), (0, .class_ 67), (0, u "java/util/AbstractMap$1"), (5, u "values"), (0, u "Ljava/util/Collection;"), (0, .class_ 76), (0, u "java/util/AbstractMap$2"), (104, .class_ 182), (0, u "java/util/AbstractMap$ViewCollection"), (0, .class_ 184), (0, u "java/util/AbstractMap$SimpleImmutableEntry"), (0, .class_ 186), (0, u "java/util/AbstractMap$SimpleEntry"), (0, .class_ 188), (0, u "java/util/AbstractMap$2$1"), (0, .class_ 190), (0, u "java/util/AbstractMap$1$1")] 5

def k20c0 : Code := { maxStack := 1, maxLocals := 1, code := jdk_71_method_1_code, exceptionTable := #[], attributes := #[] }
def k20m0 : Method := { name := "<init>", desc := "()V", sig := { parameters := [], returnType := none }, accessFlags := 4, code := some k20c0 }
/-- java/util/AbstractMap -/
def k20 : Class := { plain "java/util/AbstractMap" (some 0) with
  accessFlags := 1057
  interfaces := #[19]
  cf := some (fileOf pool20 8 #[.nestMembers #[181, 183, 185, 75, 187, 66, 189]] #[{ accessFlags := 4, nameIndex := 5, descriptorIndex := 6, attributes := #[] }] 1057 2 #[53] #[{ accessFlags := 128, nameIndex := 64, descriptorIndex := 65, attributes := #[] }, { accessFlags := 128, nameIndex := 73, descriptorIndex := 74, attributes := #[] }])
  fields := #[{ name := "keySet", type := (.object "java/util/Set"), accessFlags := 128, slot := 0, constantValue := 0 }, { name := "values", type := (.object "java/util/Collection"), accessFlags := 128, slot := 1, constantValue := 0 }]
  methods := #[k20m0]
  instanceTypes := #[(.object "java/util/Set"), (.object "java/util/Collection")]
  staticTypes := #[]
  resolved := Array.replicate 196 none
  statics := none }

def pool21 : Array CpInfo := pool [(40, .class_ 41), (0, u "java/util/HashMap"), (1, .methodref 44 45), (0, .class_ 46), (0, .nameAndType 47 48), (0, u "java/util/AbstractMap"), (0, u "<init>"), (0, u "()V"), (32, .fieldref 40 82), (0, .nameAndType 83 84), (0, u "loadFactor"), (0, u "F"), (5, u "threshold"), (0, u "I"), (0, .float 1061158912), (8, .class_ 103), (1, u "java/util/Map"), (0, u "size"), (2, u "table"), (0, u "[Ljava/util/HashMap$Node;"), (14, u "entrySet"), (39, .class_ 165), (1, u "java/util/HashMap$Node"), (14, .class_ 181), (0, u "java/util/HashMap$TreeNode"), (22, u "modCount"), (37, u "Ljava/util/Set;"), (0, .class_ 244), (0, u "java/util/HashMap$KeySet"), (18, .class_ 264), (0, u "java/util/HashMap$Values"), (3, .class_ 269), (0, u "java/util/HashMap$EntrySet"), (76, .class_ 348), (1, u "java/util/HashMap$UnsafeHolder"), (43, .class_ 393), (0, u "java/lang/Cloneable"), (0, .class_ 395), (0, u "java/io/Serializable"), (0, u "serialVersionUID"), (0, u "J"), (3, u "DEFAULT_INITIAL_CAPACITY"), (1, u "MAXIMUM_CAPACITY"), (0, u "DEFAULT_LOAD_FACTOR"), (0, u "TREEIFY_THRESHOLD"), (1, u "UNTREEIFY_THRESHOLD"), (1, u "MIN_TREEIFY_CAPACITY"), (186, .class_ 597), (0, u "java/util/HashMap$EntrySpliterator"), (0, .class_ 599), (0, u "java/util/HashMap$ValueSpliterator"), (0, .class_ 601), (0, u "java/util/HashMap$KeySpliterator"), (0, .class_ 603), (0, u "java/util/HashMap$HashMapSpliterator"), (0, .class_ 605), (0, u "java/util/HashMap$EntryIterator"), (0, .class_ 607), (0, u "java/util/HashMap$ValueIterator"), (0, .class_ 609), (0, u "java/util/HashMap$KeyIterator"), (0, .class_ 611), (0, u "java/util/HashMap$HashIterator")] 17

def k21c0 : Code := { maxStack := 2, maxLocals := 1, code := jdk_69_method_7_code, exceptionTable := #[], attributes := #[] }
def k21m0 : Method := { name := "<init>", desc := "()V", sig := { parameters := [], returnType := none }, accessFlags := 1, code := some k21c0 }
/-- java/util/HashMap -/
def k21 : Class := { plain "java/util/HashMap" (some 20) with
  accessFlags := 33
  interfaces := #[19, 17, 4]
  cf := some (fileOf pool21 40 #[.nestMembers #[180, 596, 598, 600, 602, 604, 606, 608, 610, 346, 268, 263, 243, 163]] #[{ accessFlags := 1, nameIndex := 47, descriptorIndex := 48, attributes := #[] }] 33 44 #[101, 392, 394] #[{ accessFlags := 26, nameIndex := 396, descriptorIndex := 397, attributes := #[] }, { accessFlags := 24, nameIndex := 401, descriptorIndex := 91, attributes := #[] }, { accessFlags := 24, nameIndex := 403, descriptorIndex := 91, attributes := #[] }, { accessFlags := 24, nameIndex := 404, descriptorIndex := 84, attributes := #[] }, { accessFlags := 24, nameIndex := 405, descriptorIndex := 91, attributes := #[] }, { accessFlags := 24, nameIndex := 407, descriptorIndex := 91, attributes := #[] }, { accessFlags := 24, nameIndex := 409, descriptorIndex := 91, attributes := #[] }, { accessFlags := 128, nameIndex := 107, descriptorIndex := 108, attributes := #[] }, { accessFlags := 128, nameIndex := 123, descriptorIndex := 242, attributes := #[] }, { accessFlags := 128, nameIndex := 104, descriptorIndex := 91, attributes := #[] }, { accessFlags := 128, nameIndex := 204, descriptorIndex := 91, attributes := #[] }, { accessFlags := 0, nameIndex := 90, descriptorIndex := 91, attributes := #[] }, { accessFlags := 16, nameIndex := 83, descriptorIndex := 84, attributes := #[] }])
  fields := #[{ name := "serialVersionUID", type := .long, accessFlags := 26, slot := 0, constantValue := 0 }, { name := "DEFAULT_INITIAL_CAPACITY", type := .int, accessFlags := 24, slot := 1, constantValue := 0 }, { name := "MAXIMUM_CAPACITY", type := .int, accessFlags := 24, slot := 2, constantValue := 0 }, { name := "DEFAULT_LOAD_FACTOR", type := .float, accessFlags := 24, slot := 3, constantValue := 0 }, { name := "TREEIFY_THRESHOLD", type := .int, accessFlags := 24, slot := 4, constantValue := 0 }, { name := "UNTREEIFY_THRESHOLD", type := .int, accessFlags := 24, slot := 5, constantValue := 0 }, { name := "MIN_TREEIFY_CAPACITY", type := .int, accessFlags := 24, slot := 6, constantValue := 0 }, { name := "table", type := (.array (.object "java/util/HashMap$Node")), accessFlags := 128, slot := 2, constantValue := 0 }, { name := "entrySet", type := (.object "java/util/Set"), accessFlags := 128, slot := 3, constantValue := 0 }, { name := "size", type := .int, accessFlags := 128, slot := 4, constantValue := 0 }, { name := "modCount", type := .int, accessFlags := 128, slot := 5, constantValue := 0 }, { name := "threshold", type := .int, accessFlags := 0, slot := 6, constantValue := 0 }, { name := "loadFactor", type := .float, accessFlags := 16, slot := 7, constantValue := 0 }]
  methods := #[k21m0]
  instanceTypes := #[(.object "java/util/Set"), (.object "java/util/Collection"), (.array (.object "java/util/HashMap$Node")), (.object "java/util/Set"), .int, .int, .int, .float]
  staticTypes := #[.long, .int, .int, .float, .int, .int, .int]
  resolved := Array.replicate 629 none
  statics := none }

def pool22 : Array CpInfo := pool [(1, .class_ 2), (0, u "java/lang/Math"), (1, .class_ 6), (1, u "java/lang/Object"), (0, u "<init>"), (0, u "()V"), (89, .class_ 100), (1, u "java/lang/Math$RandomNumberGeneratorHolder"), (20, u "(JJ)J"), (50, u "negativeZeroFloatBits"), (0, u "J"), (2, u "negativeZeroDoubleBits"), (21, u "max"), (2, u "min"), (43, u "$assertionsDisabled"), (0, u "Z"), (88, u "(II)I"), (2, u "twoToTheDoubleScaleDown"), (0, u "D"), (4, u "twoToTheDoubleScaleUp"), (9, u "E"), (3, u "PI"), (2, u "TAU"), (2, u "DEGREES_TO_RADIANS"), (0, u "RADIANS_TO_DEGREES")] 94

def k22m0 : Method := { name := "<init>", desc := "()V", sig := { parameters := [], returnType := none }, accessFlags := 2, code := none }
def k22c1 : Code := { maxStack := 4, maxLocals := 4, code := jdk_29_method_66_code, exceptionTable := #[], attributes := #[] }
def k22m1 : Method := { name := "max", desc := "(JJ)J", sig := { parameters := [.long, .long], returnType := some .long }, accessFlags := 9, code := some k22c1 }
def k22c2 : Code := { maxStack := 2, maxLocals := 2, code := jdk_29_method_69_code, exceptionTable := #[], attributes := #[] }
def k22m2 : Method := { name := "min", desc := "(II)I", sig := { parameters := [.int, .int], returnType := some .int }, accessFlags := 9, code := some k22c2 }
def k22c3 : Code := { maxStack := 4, maxLocals := 4, code := jdk_29_method_70_code, exceptionTable := #[], attributes := #[] }
def k22m3 : Method := { name := "min", desc := "(JJ)J", sig := { parameters := [.long, .long], returnType := some .long }, accessFlags := 9, code := some k22c3 }
/-- java/lang/Math -/
def k22 : Class := { plain "java/lang/Math" (some 0) with
  accessFlags := 49
  interfaces := #[]
  cf := some (fileOf pool22 1 #[.nestMembers #[98]] #[{ accessFlags := 2, nameIndex := 7, descriptorIndex := 8, attributes := #[] }, { accessFlags := 9, nameIndex := 198, descriptorIndex := 121, attributes := #[] }, { accessFlags := 9, nameIndex := 201, descriptorIndex := 335, attributes := #[] }, { accessFlags := 9, nameIndex := 201, descriptorIndex := 121, attributes := #[] }] 49 4 #[] #[{ accessFlags := 25, nameIndex := 354, descriptorIndex := 339, attributes := #[] }, { accessFlags := 25, nameIndex := 358, descriptorIndex := 339, attributes := #[] }, { accessFlags := 25, nameIndex := 361, descriptorIndex := 339, attributes := #[] }, { accessFlags := 26, nameIndex := 364, descriptorIndex := 339, attributes := #[] }, { accessFlags := 26, nameIndex := 365, descriptorIndex := 339, attributes := #[] }, { accessFlags := 26, nameIndex := 172, descriptorIndex := 173, attributes := #[] }, { accessFlags := 26, nameIndex := 176, descriptorIndex := 173, attributes := #[] }, { accessFlags := 8, nameIndex := 344, descriptorIndex := 339, attributes := #[] }, { accessFlags := 8, nameIndex := 338, descriptorIndex := 339, attributes := #[] }, { accessFlags := 4120, nameIndex := 245, descriptorIndex := 246, attributes := #[] }])
  fields := #[{ name := "E", type := .double, accessFlags := 25, slot := 0, constantValue := 0 }, { name := "PI", type := .double, accessFlags := 25, slot := 1, constantValue := 0 }, { name := "TAU", type := .double, accessFlags := 25, slot := 2, constantValue := 0 }, { name := "DEGREES_TO_RADIANS", type := .double, accessFlags := 26, slot := 3, constantValue := 0 }, { name := "RADIANS_TO_DEGREES", type := .double, accessFlags := 26, slot := 4, constantValue := 0 }, { name := "negativeZeroFloatBits", type := .long, accessFlags := 26, slot := 5, constantValue := 0 }, { name := "negativeZeroDoubleBits", type := .long, accessFlags := 26, slot := 6, constantValue := 0 }, { name := "twoToTheDoubleScaleUp", type := .double, accessFlags := 8, slot := 7, constantValue := 0 }, { name := "twoToTheDoubleScaleDown", type := .double, accessFlags := 8, slot := 8, constantValue := 0 }, { name := "$assertionsDisabled", type := .boolean, accessFlags := 4120, slot := 9, constantValue := 0 }]
  methods := #[k22m0, k22m1, k22m2, k22m3]
  instanceTypes := #[]
  staticTypes := #[.double, .double, .double, .double, .double, .long, .long, .double, .double, .boolean]
  resolved := Array.replicate 460 none
  statics := none }

def pool23 : Array CpInfo := pool [(1, .class_ 2), (0, u "com/example/dossier_into_mets/dossierintomets/Held"), (1, .class_ 6), (1, u "java/lang/Object"), (0, u "<init>"), (0, u "()V"), (14, .methodref 1 24), (0, .nameAndType 25 26), (0, u "roundedUp"), (0, u "(J)J"), (0, .long 16), (1, .long 7), (1, .long 18446744073709551608), (1, u "ARRAY"), (0, u "I"), (2, u "STRING"), (1, u "PLACE"), (1, u "ENTRY"), (1, u "FILE"), (1, u "LOCATED"), (1, u "OPEN_ELEMENT"), (1, u "COUNT"), (1, u "FINDING"), (0, u "READ"), (6, u "ofBytes")] 2

def k23m0 : Method := { name := "<init>", desc := "()V", sig := { parameters := [], returnType := none }, accessFlags := 2, code := none }
def k23c1 : Code := { maxStack := 4, maxLocals := 2, code := prog_35_method_3_code, exceptionTable := #[], attributes := #[] }
def k23m1 : Method := { name := "ofBytes", desc := "(J)J", sig := { parameters := [.long], returnType := some .long }, accessFlags := 8, code := some k23c1 }
def k23c2 : Code := { maxStack := 4, maxLocals := 2, code := prog_35_method_4_code, exceptionTable := #[], attributes := #[] }
def k23m2 : Method := { name := "roundedUp", desc := "(J)J", sig := { parameters := [.long], returnType := some .long }, accessFlags := 10, code := some k23c2 }
/-- com/example/dossier_into_mets/dossierintomets/Held -/
def k23 : Class := { plain "com/example/dossier_into_mets/dossierintomets/Held" (some 0) with
  accessFlags := 48
  interfaces := #[]
  cf := some (fileOf pool23 1 #[] #[{ accessFlags := 2, nameIndex := 7, descriptorIndex := 8, attributes := #[] }, { accessFlags := 8, nameIndex := 59, descriptorIndex := 26, attributes := #[] }, { accessFlags := 10, nameIndex := 25, descriptorIndex := 26, attributes := #[] }] 48 4 #[] #[{ accessFlags := 24, nameIndex := 33, descriptorIndex := 34, attributes := #[] }, { accessFlags := 24, nameIndex := 37, descriptorIndex := 34, attributes := #[] }, { accessFlags := 24, nameIndex := 39, descriptorIndex := 34, attributes := #[] }, { accessFlags := 24, nameIndex := 41, descriptorIndex := 34, attributes := #[] }, { accessFlags := 24, nameIndex := 43, descriptorIndex := 34, attributes := #[] }, { accessFlags := 24, nameIndex := 45, descriptorIndex := 34, attributes := #[] }, { accessFlags := 24, nameIndex := 47, descriptorIndex := 34, attributes := #[] }, { accessFlags := 24, nameIndex := 49, descriptorIndex := 34, attributes := #[] }, { accessFlags := 24, nameIndex := 51, descriptorIndex := 34, attributes := #[] }, { accessFlags := 24, nameIndex := 52, descriptorIndex := 34, attributes := #[] }])
  fields := #[{ name := "ARRAY", type := .int, accessFlags := 24, slot := 0, constantValue := 0 }, { name := "STRING", type := .int, accessFlags := 24, slot := 1, constantValue := 0 }, { name := "PLACE", type := .int, accessFlags := 24, slot := 2, constantValue := 0 }, { name := "ENTRY", type := .int, accessFlags := 24, slot := 3, constantValue := 0 }, { name := "FILE", type := .int, accessFlags := 24, slot := 4, constantValue := 0 }, { name := "LOCATED", type := .int, accessFlags := 24, slot := 5, constantValue := 0 }, { name := "OPEN_ELEMENT", type := .int, accessFlags := 24, slot := 6, constantValue := 0 }, { name := "COUNT", type := .int, accessFlags := 24, slot := 7, constantValue := 0 }, { name := "FINDING", type := .int, accessFlags := 24, slot := 8, constantValue := 0 }, { name := "READ", type := .int, accessFlags := 24, slot := 9, constantValue := 0 }]
  methods := #[k23m0, k23m1, k23m2]
  instanceTypes := #[]
  staticTypes := #[.int, .int, .int, .int, .int, .int, .int, .int, .int, .int]
  resolved := Array.replicate 62 none
  statics := none }

def pool24 : Array CpInfo := pool [(2, .class_ 4), (1, u "java/lang/Object"), (0, u "<init>"), (0, u "()V"), (7, .class_ 16), (1, u "java/util/Arrays"), (57, .class_ 76), (1, u "java/util/Arrays$NaturalOrder"), (36, .class_ 115), (1, u "java/util/Arrays$LegacyMergeSort"), (1, u "Z"), (32, .methodref 151 152), (0, .class_ 153), (0, .nameAndType 154 155), (0, u "java/lang/System"), (0, u "arraycopy"), (0, u "(Ljava/lang/Object;ILjava/lang/Object;II)V"), (146, u "copyOf"), (1, .methodref 305 306), (0, .class_ 307), (0, .nameAndType 308 309), (0, u "java/lang/Math"), (0, u "min"), (0, u "(II)I"), (65, .class_ 376), (0, u "java/util/Arrays$ArrayList"), (68, u "$assertionsDisabled"), (269, u "MIN_ARRAY_SORT_GRAN"), (0, u "I"), (2, u "INSERTIONSORT_THRESHOLD"), (152, u "([JI)[J"), (102, .class_ 976), (0, u "java/util/Arrays$ArrayItr")] 52

def k24m0 : Method := { name := "<init>", desc := "()V", sig := { parameters := [], returnType := none }, accessFlags := 2, code := none }
def k24c1 : Code := { maxStack := 6, maxLocals := 3, code := jdk_65_method_124_code, exceptionTable := #[], attributes := #[] }
def k24m1 : Method := { name := "copyOf", desc := "([JI)[J", sig := { parameters := [(.array .long), .int], returnType := some (.array .long) }, accessFlags := 9, code := some k24c1 }
/-- java/util/Arrays -/
def k24 : Class := { plain "java/util/Arrays" (some 0) with
  accessFlags := 49
  interfaces := #[]
  cf := some (fileOf pool24 14 #[.nestMembers #[975, 375, 113, 74]] #[{ accessFlags := 2, nameIndex := 5, descriptorIndex := 6, attributes := #[] }, { accessFlags := 9, nameIndex := 302, descriptorIndex := 872, attributes := #[] }] 49 2 #[] #[{ accessFlags := 26, nameIndex := 715, descriptorIndex := 716, attributes := #[] }, { accessFlags := 26, nameIndex := 719, descriptorIndex := 716, attributes := #[] }, { accessFlags := 4120, nameIndex := 445, descriptorIndex := 117, attributes := #[] }])
  fields := #[{ name := "MIN_ARRAY_SORT_GRAN", type := .int, accessFlags := 26, slot := 0, constantValue := 0 }, { name := "INSERTIONSORT_THRESHOLD", type := .int, accessFlags := 26, slot := 1, constantValue := 0 }, { name := "$assertionsDisabled", type := .boolean, accessFlags := 4120, slot := 2, constantValue := 0 }]
  methods := #[k24m0, k24m1]
  instanceTypes := #[]
  staticTypes := #[.int, .int, .boolean]
  resolved := Array.replicate 1029 none
  statics := none }

def pool25 : Array CpInfo := pool [(2, .class_ 4), (1, u "java/lang/Object"), (0, u "<init>"), (0, u "()V"), (1, .class_ 10), (1, u "java/lang/System"), (0, u "allowSecurityManager"), (0, u "I"), (16, u "cons"), (0, u "Ljava/io/Console;"), (77, .class_ 110), (1, u "java/lang/System$CallersHolder"), (43, u "initialErrStream"), (0, u "Ljava/io/PrintStream;"), (19, u "security"), (0, u "Ljava/lang/SecurityManager;"), (31, .class_ 209), (0, u "java/lang/System$1"), (7, u "props"), (0, u "Ljava/util/Properties;"), (2, u "lineSeparator"), (0, u "Ljava/lang/String;"), (96, .class_ 321), (1, u "java/lang/System$LoggerFinder"), (5, .class_ 328), (0, u "java/lang/System$Logger"), (67, u "err"), (2, u "out"), (91, u "notSupportedJnuEncoding"), (15, u "in"), (17, u "initialIn"), (0, u "Ljava/io/InputStream;"), (35, u "bootLayer"), (0, u "Ljava/lang/ModuleLayer;"), (99, .class_ 664), (0, u "java/lang/System$2"), (9, u "NEVER"), (2, u "MAYBE"), (49, u "arraycopy"), (0, u "(Ljava/lang/Object;ILjava/lang/Object;II)V"), (72, .class_ 802), (0, u "java/lang/System$Logger$Level")] 31

def k25m0 : Method := { name := "<init>", desc := "()V", sig := { parameters := [], returnType := none }, accessFlags := 2, code := none }
def k25m1 : Method := { name := "arraycopy", desc := "(Ljava/lang/Object;ILjava/lang/Object;II)V", sig := { parameters := [(.object "java/lang/Object"), .int, (.object "java/lang/Object"), .int, .int], returnType := none }, accessFlags := 265, code := none }
/-- java/lang/System -/
def k25 : Class := { plain "java/lang/System" (some 0) with
  accessFlags := 49
  interfaces := #[]
  cf := some (fileOf pool25 8 #[.nestMembers #[319, 327, 801, 108, 663, 208]] #[{ accessFlags := 2, nameIndex := 5, descriptorIndex := 6, attributes := #[] }, { accessFlags := 265, nameIndex := 727, descriptorIndex := 728, attributes := #[] }] 49 2 #[] #[{ accessFlags := 25, nameIndex := 507, descriptorIndex := 526, attributes := #[] }, { accessFlags := 25, nameIndex := 399, descriptorIndex := 155, attributes := #[] }, { accessFlags := 25, nameIndex := 396, descriptorIndex := 155, attributes := #[] }, { accessFlags := 10, nameIndex := 525, descriptorIndex := 526, attributes := #[] }, { accessFlags := 26, nameIndex := 674, descriptorIndex := 12, attributes := #[] }, { accessFlags := 26, nameIndex := 677, descriptorIndex := 12, attributes := #[] }, { accessFlags := 10, nameIndex := 11, descriptorIndex := 12, attributes := #[] }, { accessFlags := 74, nameIndex := 175, descriptorIndex := 176, attributes := #[] }, { accessFlags := 10, nameIndex := 491, descriptorIndex := 222, attributes := #[] }, { accessFlags := 74, nameIndex := 29, descriptorIndex := 30, attributes := #[] }, { accessFlags := 74, nameIndex := 154, descriptorIndex := 155, attributes := #[] }, { accessFlags := 10, nameIndex := 217, descriptorIndex := 218, attributes := #[] }, { accessFlags := 10, nameIndex := 221, descriptorIndex := 222, attributes := #[] }, { accessFlags := 8, nameIndex := 562, descriptorIndex := 563, attributes := #[] }])
  fields := #[{ name := "in", type := (.object "java/io/InputStream"), accessFlags := 25, slot := 0, constantValue := 0 }, { name := "out", type := (.object "java/io/PrintStream"), accessFlags := 25, slot := 1, constantValue := 0 }, { name := "err", type := (.object "java/io/PrintStream"), accessFlags := 25, slot := 2, constantValue := 0 }, { name := "initialIn", type := (.object "java/io/InputStream"), accessFlags := 10, slot := 3, constantValue := 0 }, { name := "NEVER", type := .int, accessFlags := 26, slot := 4, constantValue := 0 }, { name := "MAYBE", type := .int, accessFlags := 26, slot := 5, constantValue := 0 }, { name := "allowSecurityManager", type := .int, accessFlags := 10, slot := 6, constantValue := 0 }, { name := "security", type := (.object "java/lang/SecurityManager"), accessFlags := 74, slot := 7, constantValue := 0 }, { name := "notSupportedJnuEncoding", type := (.object "java/lang/String"), accessFlags := 10, slot := 8, constantValue := 0 }, { name := "cons", type := (.object "java/io/Console"), accessFlags := 74, slot := 9, constantValue := 0 }, { name := "initialErrStream", type := (.object "java/io/PrintStream"), accessFlags := 74, slot := 10, constantValue := 0 }, { name := "props", type := (.object "java/util/Properties"), accessFlags := 10, slot := 11, constantValue := 0 }, { name := "lineSeparator", type := (.object "java/lang/String"), accessFlags := 10, slot := 12, constantValue := 0 }, { name := "bootLayer", type := (.object "java/lang/ModuleLayer"), accessFlags := 8, slot := 13, constantValue := 0 }]
  methods := #[k25m0, k25m1]
  instanceTypes := #[]
  staticTypes := #[(.object "java/io/InputStream"), (.object "java/io/PrintStream"), (.object "java/io/PrintStream"), (.object "java/io/InputStream"), .int, .int, .int, (.object "java/lang/SecurityManager"), (.object "java/lang/String"), (.object "java/io/Console"), (.object "java/io/PrintStream"), (.object "java/util/Properties"), (.object "java/lang/String"), (.object "java/lang/ModuleLayer")]
  resolved := Array.replicate 834 none
  statics := none }

/-- the primitive byte -/
def k26 : Class := { plain "byte" none with kind := .primitive 'B', accessFlags := 0x411 }
/-- [B -/
def k27 : Class := { plain "[B" (some 0) with kind := .array 26 .byte, interfaces := #[17, 4], accessFlags := 1041 }

/-- the primitive int -/
def k28 : Class := { plain "int" none with kind := .primitive 'I', accessFlags := 0x411 }
/-- [I -/
def k29 : Class := { plain "[I" (some 0) with kind := .array 28 .int, interfaces := #[17, 4], accessFlags := 1041 }

/-- the primitive long -/
def k30 : Class := { plain "long" none with kind := .primitive 'J', accessFlags := 0x411 }
/-- [J -/
def k31 : Class := { plain "[J" (some 0) with kind := .array 30 .long, interfaces := #[17, 4], accessFlags := 1041 }

/-- [Ljava/lang/Object; -/
def k32 : Class := { plain "[Ljava/lang/Object;" (some 0) with kind := .array 0 (.object "java/lang/Object"), interfaces := #[17, 4], accessFlags := 1041 }

def heap : Heap := #[{ cls := 18, slots := #[.long 0, .int 0, .ref 1, .ref 2], vm := .statics 18 },
  { cls := 32, slots := #[], vm := .none },
  { cls := 32, slots := #[], vm := .none }]
def classes : Array Class := #[k0, k1, k2, k3, k4, k5, k6, k7, k8, k9, k10, k11, k12, k13, k14, k15, k16, k17, k18, k19, k20, k21, k22, k23, k24, k25, k26, k27, k28, k29, k30, k31, k32]
def interned : List (Array UInt16 × Addr) := []
def slotsUsed : Nat := 4
def theMethod : MethodId := ⟨1, 1⟩
def args0 : Array Value := #[.int 5, .int 3, .int 4, .int 5, .int 3, .int 4]
def aboutOver (below : List Frame) : State where
  vm := { classes := classes, interned := interned.toArray }
  heap := heap
  slotsUsed := slotsUsed
  threads := #[{ frames := .invoking theMethod args0 :: below }]
def below0 : List Frame := [.native { method := ⟨0, 0⟩, args := #[] }]
def about1 : State := aboutOver below0
def p0 : Program := .bare "" "" ""
def e0 : Env := launch0.env 0 0 0
theorem w_frames : about1.frames = Frame.invoking theMethod args0 :: below0 := rfl
set_option maxRecDepth 65536 in
theorem w_args : argsFit about1.vm theMethod args0 = true := by decide +kernel
set_option maxRecDepth 65536 in
theorem w_heap : heapFits about1 = true := by decide +kernel
set_option maxRecDepth 65536 in
theorem w_runnable : about1.curStatus? = some .runnable := by decide +kernel
set_option maxRecDepth 65536 in
theorem w_alone : about1.alone = true := by decide +kernel
set_option maxRecDepth 65536 in
theorem w_named : about1.methodNamed? x = some theMethod := by decide +kernel
set_option maxRecDepth 65536 in
theorem w_hears : about1.hears theMethod below0 = true := by decide +kernel
set_option maxRecDepth 65536 in
theorem w_ripe : about1.ripe theMethod args0 below0 = true := by decide +kernel
theorem w_running : about1.status = .running := rfl
set_option maxRecDepth 65536 in
theorem w_room : about1.hasRoom e0.platform room_1 = true :=
  launch0.hasRoom_least _ room_1 (by decide +kernel) (by decide +kernel) (by decide +kernel) (by decide +kernel) (by decide +kernel) (by decide +kernel)
theorem allAtoms_all (ts : List Jvm.Cond) (a : Array Jvm.Value) (st : Jvm.State) : (allAtoms ts).before a st = ts.all (fun c => c.before a st) := by
  induction ts with
  | nil => rfl
  | cons c t ih =>
    show (Jvm.Cond.and c (allAtoms t)).before a st = _
    rw [Jvm.Cond.before_and, ih, List.all_cons]
def words1 : List Jvm.Cond := Jvm.Cond.code x code maxLocals ret :: tables_1
/-- a 'code' word, met by the world's own term for the bytes: nothing is compared byte by byte -/
theorem code_word {y : MethodName} {bytes : ByteArray} {mx : Nat} {rt : Option FieldType} {a : Array Value} {s : State} {m : MethodId} {meth : Method} {c : Code} (h1 : s.methodNamed? y = some m) (h2 : s.vm.method? m = some meth) (h3 : meth.code = some c) (h4 : c.code = bytes)
    (h5 : (c.maxLocals == mx && c.exceptionTable.isEmpty && decide (c.maxStack ≤ mostOperands) && decide (meth.sig.returnType = rt) && !meth.locks && decide (parseMethodDescriptor y.desc = some meth.sig)) = true) : (Jvm.Cond.code y bytes mx rt).before a s = true := by
  simp only [Bool.and_eq_true, beq_iff_eq, Bool.not_eq_true', decide_eq_true_eq] at h5
  obtain ⟨⟨⟨⟨⟨g1, g2⟩, g3⟩, g4⟩, g5⟩, g6⟩ := h5
  simp [Cond.before, Cond.holds, Cond.value, h1, h2, h3, h4, g1, g2, g3, g4, g5, g6]
def isCode : Jvm.Cond → Bool
  | .code _ _ _ _ => true
  | _ => false
theorem all_split {L : List Jvm.Cond} {P : Jvm.Cond → Bool} (h1 : L.all (fun c => isCode c || P c) = true) (h2 : ∀ c ∈ L.filter isCode, P c = true) : L.all P = true := by
  refine List.all_eq_true.mpr fun c hc => ?_
  have h := List.all_eq_true.mp h1 c hc
  rcases Bool.eq_false_or_eq_true (isCode c) with hi | hi
  · exact h2 c (List.mem_filter.mpr ⟨hc, hi⟩)
  · simpa [hi] using h
set_option maxRecDepth 65536 in
theorem w_c0 : (Jvm.Cond.code x code maxLocals ret).before args0 about1 = true := code_word (m := ⟨1, 1⟩) (meth := k1m1) (c := k1c1) (by decide +kernel) rfl rfl rfl (by decide +kernel)
set_option maxRecDepth 65536 in
theorem w_c1 : (Jvm.Cond.code ({ cls := "com/example/dossier_into_mets/dossierintomets/CharacterBudget", name := "<init>", desc := "(J)V" } : Jvm.MethodName) prog_7_method_1_code (3 : Nat) (Option.none : Option Jvm.ClassFile.FieldType)).before args0 about1 = true := code_word (m := ⟨2, 0⟩) (meth := k2m0) (c := k2c0) (by decide +kernel) rfl rfl rfl (by decide +kernel)
set_option maxRecDepth 65536 in
theorem w_c2 : (Jvm.Cond.code ({ cls := "java/lang/Object", name := "<init>", desc := "()V" } : Jvm.MethodName) object_method_1_code (1 : Nat) (Option.none : Option Jvm.ClassFile.FieldType)).before args0 about1 = true := code_word (m := ⟨0, 0⟩) (meth := k0m0) (c := k0c0) (by decide +kernel) rfl rfl rfl (by decide +kernel)
set_option maxRecDepth 65536 in
theorem w_c3 : (Jvm.Cond.code ({ cls := "com/example/dossier_into_mets/dossierintomets/MemberDivs", name := "<init>", desc := "(Lcom/example/dossier_into_mets/dossierintomets/CharacterBudget;Ljava/lang/String;)V" } : Jvm.MethodName) prog_40_method_1_code (3 : Nat) (Option.none : Option Jvm.ClassFile.FieldType)).before args0 about1 = true := code_word (m := ⟨3, 0⟩) (meth := k3m0) (c := k3c0) (by decide +kernel) rfl rfl rfl (by decide +kernel)
set_option maxRecDepth 65536 in
theorem w_c4 : (Jvm.Cond.code ({ cls := "java/util/ArrayList", name := "<init>", desc := "()V" } : Jvm.MethodName) jdk_38_method_2_code (1 : Nat) (Option.none : Option Jvm.ClassFile.FieldType)).before args0 about1 = true := code_word (m := ⟨18, 0⟩) (meth := k18m0) (c := k18c0) (by decide +kernel) rfl rfl rfl (by decide +kernel)
set_option maxRecDepth 65536 in
theorem w_c5 : (Jvm.Cond.code ({ cls := "java/util/AbstractList", name := "<init>", desc := "()V" } : Jvm.MethodName) jdk_39_method_1_code (1 : Nat) (Option.none : Option Jvm.ClassFile.FieldType)).before args0 about1 = true := code_word (m := ⟨15, 0⟩) (meth := k15m0) (c := k15c0) (by decide +kernel) rfl rfl rfl (by decide +kernel)
set_option maxRecDepth 65536 in
theorem w_c6 : (Jvm.Cond.code ({ cls := "java/util/AbstractCollection", name := "<init>", desc := "()V" } : Jvm.MethodName) jdk_22_method_1_code (1 : Nat) (Option.none : Option Jvm.ClassFile.FieldType)).before args0 about1 = true := code_word (m := ⟨12, 0⟩) (meth := k12m0) (c := k12c0) (by decide +kernel) rfl rfl rfl (by decide +kernel)
set_option maxRecDepth 65536 in
theorem w_c7 : (Jvm.Cond.code ({ cls := "java/util/HashMap", name := "<init>", desc := "()V" } : Jvm.MethodName) jdk_69_method_7_code (1 : Nat) (Option.none : Option Jvm.ClassFile.FieldType)).before args0 about1 = true := code_word (m := ⟨21, 0⟩) (meth := k21m0) (c := k21c0) (by decide +kernel) rfl rfl rfl (by decide +kernel)
set_option maxRecDepth 65536 in
theorem w_c8 : (Jvm.Cond.code ({ cls := "java/util/AbstractMap", name := "<init>", desc := "()V" } : Jvm.MethodName) jdk_71_method_1_code (1 : Nat) (Option.none : Option Jvm.ClassFile.FieldType)).before args0 about1 = true := code_word (m := ⟨20, 0⟩) (meth := k20m0) (c := k20c0) (by decide +kernel) rfl rfl rfl (by decide +kernel)
set_option maxRecDepth 65536 in
theorem w_c9 : (Jvm.Cond.code ({ cls := "com/example/dossier_into_mets/dossierintomets/MemberDivs", name := "add", desc := "(IIZZ)Z" } : Jvm.MethodName) prog_40_method_4_code (5 : Nat) (Option.some Jvm.ClassFile.FieldType.boolean)).before args0 about1 = true := code_word (m := ⟨3, 1⟩) (meth := k3m1) (c := k3c1) (by decide +kernel) rfl rfl rfl (by decide +kernel)
set_option maxRecDepth 65536 in
theorem w_c10 : (Jvm.Cond.code ({ cls := "com/example/dossier_into_mets/dossierintomets/MemberDivs", name := "grow", desc := "()Z" } : Jvm.MethodName) prog_40_method_10_code (5 : Nat) (Option.some Jvm.ClassFile.FieldType.boolean)).before args0 about1 = true := code_word (m := ⟨3, 3⟩) (meth := k3m3) (c := k3c3) (by decide +kernel) rfl rfl rfl (by decide +kernel)
set_option maxRecDepth 65536 in
theorem w_c11 : (Jvm.Cond.code ({ cls := "java/lang/Math", name := "max", desc := "(JJ)J" } : Jvm.MethodName) jdk_29_method_66_code (4 : Nat) (Option.some Jvm.ClassFile.FieldType.long)).before args0 about1 = true := code_word (m := ⟨22, 1⟩) (meth := k22m1) (c := k22c1) (by decide +kernel) rfl rfl rfl (by decide +kernel)
set_option maxRecDepth 65536 in
theorem w_c12 : (Jvm.Cond.code ({ cls := "java/lang/Math", name := "min", desc := "(JJ)J" } : Jvm.MethodName) jdk_29_method_70_code (4 : Nat) (Option.some Jvm.ClassFile.FieldType.long)).before args0 about1 = true := code_word (m := ⟨22, 3⟩) (meth := k22m3) (c := k22c3) (by decide +kernel) rfl rfl rfl (by decide +kernel)
set_option maxRecDepth 65536 in
theorem w_c13 : (Jvm.Cond.code ({ cls := "com/example/dossier_into_mets/dossierintomets/Held", name := "ofBytes", desc := "(J)J" } : Jvm.MethodName) prog_35_method_3_code (2 : Nat) (Option.some Jvm.ClassFile.FieldType.long)).before args0 about1 = true := code_word (m := ⟨23, 1⟩) (meth := k23m1) (c := k23c1) (by decide +kernel) rfl rfl rfl (by decide +kernel)
set_option maxRecDepth 65536 in
theorem w_c14 : (Jvm.Cond.code ({ cls := "com/example/dossier_into_mets/dossierintomets/Held", name := "roundedUp", desc := "(J)J" } : Jvm.MethodName) prog_35_method_4_code (2 : Nat) (Option.some Jvm.ClassFile.FieldType.long)).before args0 about1 = true := code_word (m := ⟨23, 2⟩) (meth := k23m2) (c := k23c2) (by decide +kernel) rfl rfl rfl (by decide +kernel)
set_option maxRecDepth 65536 in
theorem w_c15 : (Jvm.Cond.code ({ cls := "com/example/dossier_into_mets/dossierintomets/CharacterBudget", name := "spendExactly", desc := "(J)Z" } : Jvm.MethodName) prog_7_method_4_code (3 : Nat) (Option.some Jvm.ClassFile.FieldType.boolean)).before args0 about1 = true := code_word (m := ⟨2, 1⟩) (meth := k2m1) (c := k2c1) (by decide +kernel) rfl rfl rfl (by decide +kernel)
set_option maxRecDepth 65536 in
theorem w_c16 : (Jvm.Cond.code ({ cls := "java/util/Arrays", name := "copyOf", desc := "([JI)[J" } : Jvm.MethodName) jdk_65_method_124_code (3 : Nat) (Option.some (Jvm.ClassFile.FieldType.array Jvm.ClassFile.FieldType.long))).before args0 about1 = true := code_word (m := ⟨24, 1⟩) (meth := k24m1) (c := k24c1) (by decide +kernel) rfl rfl rfl (by decide +kernel)
set_option maxRecDepth 65536 in
theorem w_c17 : (Jvm.Cond.code ({ cls := "java/lang/Math", name := "min", desc := "(II)I" } : Jvm.MethodName) jdk_29_method_69_code (2 : Nat) (Option.some Jvm.ClassFile.FieldType.int)).before args0 about1 = true := code_word (m := ⟨22, 2⟩) (meth := k22m2) (c := k22c2) (by decide +kernel) rfl rfl rfl (by decide +kernel)
set_option maxRecDepth 65536 in
theorem w_c18 : (Jvm.Cond.code ({ cls := "com/example/dossier_into_mets/dossierintomets/CharacterBudget", name := "releaseExactly", desc := "(J)V" } : Jvm.MethodName) prog_7_method_5_code (3 : Nat) (Option.none : Option Jvm.ClassFile.FieldType)).before args0 about1 = true := code_word (m := ⟨2, 2⟩) (meth := k2m2) (c := k2c2) (by decide +kernel) rfl rfl rfl (by decide +kernel)
set_option maxRecDepth 65536 in
theorem w_c19 : (Jvm.Cond.code ({ cls := "com/example/dossier_into_mets/dossierintomets/MemberDivs", name := "byUrl", desc := "(I)Z" } : Jvm.MethodName) prog_40_method_9_code (2 : Nat) (Option.some Jvm.ClassFile.FieldType.boolean)).before args0 about1 = true := code_word (m := ⟨3, 2⟩) (meth := k3m2) (c := k3c2) (by decide +kernel) rfl rfl rfl (by decide +kernel)
def codes1 : List Jvm.Cond := [Jvm.Cond.code x code maxLocals ret, Jvm.Cond.code ({ cls := "com/example/dossier_into_mets/dossierintomets/CharacterBudget", name := "<init>", desc := "(J)V" } : Jvm.MethodName) prog_7_method_1_code (3 : Nat) (Option.none : Option Jvm.ClassFile.FieldType), Jvm.Cond.code ({ cls := "java/lang/Object", name := "<init>", desc := "()V" } : Jvm.MethodName) object_method_1_code (1 : Nat) (Option.none : Option Jvm.ClassFile.FieldType), Jvm.Cond.code ({ cls := "com/example/dossier_into_mets/dossierintomets/MemberDivs", name := "<init>", desc := "(Lcom/example/dossier_into_mets/dossierintomets/CharacterBudget;Ljava/lang/String;)V" } : Jvm.MethodName) prog_40_method_1_code (3 : Nat) (Option.none : Option Jvm.ClassFile.FieldType), Jvm.Cond.code ({ cls := "java/util/ArrayList", name := "<init>", desc := "()V" } : Jvm.MethodName) jdk_38_method_2_code (1 : Nat) (Option.none : Option Jvm.ClassFile.FieldType), Jvm.Cond.code ({ cls := "java/util/AbstractList", name := "<init>", desc := "()V" } : Jvm.MethodName) jdk_39_method_1_code (1 : Nat) (Option.none : Option Jvm.ClassFile.FieldType), Jvm.Cond.code ({ cls := "java/util/AbstractCollection", name := "<init>", desc := "()V" } : Jvm.MethodName) jdk_22_method_1_code (1 : Nat) (Option.none : Option Jvm.ClassFile.FieldType), Jvm.Cond.code ({ cls := "java/util/HashMap", name := "<init>", desc := "()V" } : Jvm.MethodName) jdk_69_method_7_code (1 : Nat) (Option.none : Option Jvm.ClassFile.FieldType), Jvm.Cond.code ({ cls := "java/util/AbstractMap", name := "<init>", desc := "()V" } : Jvm.MethodName) jdk_71_method_1_code (1 : Nat) (Option.none : Option Jvm.ClassFile.FieldType), Jvm.Cond.code ({ cls := "com/example/dossier_into_mets/dossierintomets/MemberDivs", name := "add", desc := "(IIZZ)Z" } : Jvm.MethodName) prog_40_method_4_code (5 : Nat) (Option.some Jvm.ClassFile.FieldType.boolean), Jvm.Cond.code ({ cls := "com/example/dossier_into_mets/dossierintomets/MemberDivs", name := "grow", desc := "()Z" } : Jvm.MethodName) prog_40_method_10_code (5 : Nat) (Option.some Jvm.ClassFile.FieldType.boolean), Jvm.Cond.code ({ cls := "java/lang/Math", name := "max", desc := "(JJ)J" } : Jvm.MethodName) jdk_29_method_66_code (4 : Nat) (Option.some Jvm.ClassFile.FieldType.long), Jvm.Cond.code ({ cls := "java/lang/Math", name := "min", desc := "(JJ)J" } : Jvm.MethodName) jdk_29_method_70_code (4 : Nat) (Option.some Jvm.ClassFile.FieldType.long), Jvm.Cond.code ({ cls := "com/example/dossier_into_mets/dossierintomets/Held", name := "ofBytes", desc := "(J)J" } : Jvm.MethodName) prog_35_method_3_code (2 : Nat) (Option.some Jvm.ClassFile.FieldType.long), Jvm.Cond.code ({ cls := "com/example/dossier_into_mets/dossierintomets/Held", name := "roundedUp", desc := "(J)J" } : Jvm.MethodName) prog_35_method_4_code (2 : Nat) (Option.some Jvm.ClassFile.FieldType.long), Jvm.Cond.code ({ cls := "com/example/dossier_into_mets/dossierintomets/CharacterBudget", name := "spendExactly", desc := "(J)Z" } : Jvm.MethodName) prog_7_method_4_code (3 : Nat) (Option.some Jvm.ClassFile.FieldType.boolean), Jvm.Cond.code ({ cls := "java/util/Arrays", name := "copyOf", desc := "([JI)[J" } : Jvm.MethodName) jdk_65_method_124_code (3 : Nat) (Option.some (Jvm.ClassFile.FieldType.array Jvm.ClassFile.FieldType.long)), Jvm.Cond.code ({ cls := "java/lang/Math", name := "min", desc := "(II)I" } : Jvm.MethodName) jdk_29_method_69_code (2 : Nat) (Option.some Jvm.ClassFile.FieldType.int), Jvm.Cond.code ({ cls := "com/example/dossier_into_mets/dossierintomets/CharacterBudget", name := "releaseExactly", desc := "(J)V" } : Jvm.MethodName) prog_7_method_5_code (3 : Nat) (Option.none : Option Jvm.ClassFile.FieldType), Jvm.Cond.code ({ cls := "com/example/dossier_into_mets/dossierintomets/MemberDivs", name := "byUrl", desc := "(I)Z" } : Jvm.MethodName) prog_40_method_9_code (2 : Nat) (Option.some Jvm.ClassFile.FieldType.boolean)]
set_option maxRecDepth 65536 in
theorem codes_eq : words1.filter isCode = codes1 := rfl
theorem w_codes : ∀ c ∈ words1.filter isCode, c.before args0 about1 = true := by
  rw [codes_eq]
  intro c hc
  simp only [codes1, List.mem_cons, List.not_mem_nil, or_false] at hc
  rcases hc with rfl | rfl | rfl | rfl | rfl | rfl | rfl | rfl | rfl | rfl | rfl | rfl | rfl | rfl | rfl | rfl | rfl | rfl | rfl | rfl
  · exact w_c0
  · exact w_c1
  · exact w_c2
  · exact w_c3
  · exact w_c4
  · exact w_c5
  · exact w_c6
  · exact w_c7
  · exact w_c8
  · exact w_c9
  · exact w_c10
  · exact w_c11
  · exact w_c12
  · exact w_c13
  · exact w_c14
  · exact w_c15
  · exact w_c16
  · exact w_c17
  · exact w_c18
  · exact w_c19
set_option maxRecDepth 65536 in
theorem w_t1 : (words1.take 24).all (fun c => isCode c || c.before args0 about1) = true := by decide +kernel
set_option maxRecDepth 65536 in
theorem w_t2 : ((words1.drop 24).take 24).all (fun c => isCode c || c.before args0 about1) = true := by decide +kernel
set_option maxRecDepth 65536 in
theorem w_t3 : (((words1.drop 24).drop 24).take 24).all (fun c => isCode c || c.before args0 about1) = true := by decide +kernel
set_option maxRecDepth 65536 in
theorem w_t4 : ((((words1.drop 24).drop 24).drop 24).take 24).all (fun c => isCode c || c.before args0 about1) = true := by decide +kernel
set_option maxRecDepth 65536 in
theorem w_t5 : (((((words1.drop 24).drop 24).drop 24).drop 24).take 24).all (fun c => isCode c || c.before args0 about1) = true := by decide +kernel
set_option maxRecDepth 65536 in
theorem w_t6 : (((((words1.drop 24).drop 24).drop 24).drop 24).drop 24).all (fun c => isCode c || c.before args0 about1) = true := by decide +kernel
theorem w_tables : (allAtoms (Jvm.Cond.code x code maxLocals ret :: tables_1)).before args0 about1 = true := by
  rw [allAtoms_all]
  show words1.all (fun c => c.before args0 about1) = true
  refine all_split ?_ w_codes
  rw [← List.take_append_drop 24 words1, List.all_append, w_t1, ← List.take_append_drop 24 (words1.drop 24), List.all_append, w_t2, ← List.take_append_drop 24 ((words1.drop 24).drop 24), List.all_append, w_t3, ← List.take_append_drop 24 (((words1.drop 24).drop 24).drop 24), List.all_append, w_t4, ← List.take_append_drop 24 ((((words1.drop 24).drop 24).drop 24).drop 24), List.all_append, w_t5, w_t6]
  rfl
set_option maxRecDepth 65536 in
theorem w_rest : rest_1_c.before args0 about1 = true := by decide +kernel
set_option maxRecDepth 65536 in
theorem w_case : (Jvm.Cond.and given_1 narrow_1).before args0 about1 = true := by decide +kernel
theorem w_applies : (headSpec (Jvm.Cond.code x code maxLocals ret :: tables_1) room_1).applies x e0.platform about1 = true :=
  (Spec.applies_iff w_frames).mpr ⟨w_running, w_runnable, w_alone, w_named, w_hears, w_ripe, w_room, w_tables⟩
theorem atStart : AtStart classFile x code maxLocals ret World_1 tables_1 room_1 Calls_1 rest_1 Pre_1 launch0 p0 e0 about1 theMethod args0 below0 :=
  ⟨lists_1, trivial, launch0.admits_env _ _ _, launch0.least_env, fairChoices_fair.cas, fairChoices_fair.clock, w_frames, w_args, w_heap, w_applies, trivial, w_rest, w_case⟩
end start1
theorem witness_1 : WitnessClaimed_1 := ⟨start1.p0, start1.e0, start1.about1, start1.theMethod, start1.args0, start1.below0, start1.atStart⟩
end Jvm.Pilot.@@N@@
