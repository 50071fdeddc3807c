import JvmDerived
import JvmDerived.Pilot.@@N@@Statement
import JvmDerived.Pilot.@@N@@Code
set_option linter.unusedVariables false
set_option linter.unusedSimpArgs false
@@BLOCK:NumsL.lean.txt@@
namespace Jvm.Pilot.@@N@@
open Jvm Jvm.ClassFile Sem Op Lib Jvm.Free Jvm.Stand Jvm.LawKit Jvm.RoadKit Bundle Jvm.Pilot.@@N@@.Jvm.D
section OwnKit
variable {p : Program} {l : Launch} {e : Env} {R : Room} {s : State} {m : MethodId} {args : Array Value} {below : List Frame} {meth : Method} {c : Code} {T T' : State} {locs : List Loc} {cells slots : Nat}
/-- from this configuration the body comes to its end, and then Q holds -/
def own_Fin (p : Program) (e : Env) (below : List Frame) (s : State) (Q : Option Value → Heap → List Loc → Prop) (kc ks : Nat) (T : State) (g : JFrame) : Prop :=
  ∃ s₂ o, Steps p.tables e below (T.setTop g) s₂ ∧ s₂.status = .running ∧ Ended s₂ below o ∧ ∃ v L, o = .returned v ∧ Q v s₂.heap L ∧ FrameEnd s o s₂ L kc ks
variable {Q : Option Value → Heap → List Loc → Prop} {kc ks : Nat} {g g' : JFrame}
theorem own_step (st : ∀ t, Steps p.tables e below (T'.setTop g') t → Steps p.tables e below (T.setTop g) t) (k : own_Fin p e below s Q kc ks T' g') : own_Fin p e below s Q kc ks T g := by
  obtain ⟨s₂, o, h1, r⟩ := k
  exact ⟨s₂, o, st _ h1, r⟩
theorem own_in {as : Array Value} {n : Nat} (ef : entryFrame m as n = g) (k : own_Fin p e below s Q kc ks T g) :
    ∃ s₂ o, Steps p.tables e below (T.setTop (entryFrame m as n)) s₂ ∧ s₂.status = .running ∧ Ended s₂ below o ∧ ∃ v L, o = .returned v ∧ Q v s₂.heap L ∧ FrameEnd s o s₂ L kc ks := by
  obtain ⟨s₂, o, h1, r⟩ := k
  exact ⟨s₂, o, castTop ef h1, r⟩
theorem own_retV (X : Stand p l e R s m args below meth c T locs cells slots) (hx : p.tables.exec = Jvm.exec) (hlk : meth.locks = false) {pc : Nat} {Ls : Array Slot} {w : Value} {t : FieldType} {i : Instr} {rest : List Value} (hret : meth.sig.returnType = some t) (hn : narrow t w = w)
    (hi : (i = .ireturn ∧ (t = .int ∨ t = .boolean ∨ t = .byte ∨ t = .char ∨ t = .short) ∧ ∃ z, w = .int z) ∨ (i = .lreturn ∧ t = .long ∧ ∃ z, w = .long z) ∨ (i = .dreturn ∧ t = .double ∧ ∃ z, w = .double z) ∨ (i = .freturn ∧ t = .float ∧ ∃ z, w = .float z) ∨ (i = .areturn ∧ t.isReference = true ∧ w.isRef = true))
    (hd : decode c.code pc = .ok (i, 1)) (hq : Q (some w) T.heap locs) (h1 : cells ≤ kc) (h2 : slots ≤ ks) : own_Fin p e below s Q kc ks T (mkF m pc Ls (w :: rest)) := by
  obtain ⟨fs, hr, hrun, hended, hW, hsame⟩ := X.leave (v := some w) (fun h => by rw [hret] at h; cases h) hlk
  exact ⟨_, _, retOut X hx hret hn hi hd hr, hrun, hended, _, _, rfl, hq, ⟨_, rfl⟩, hW, hsame.mono h1 h2⟩
theorem own_retI (X : Stand p l e R s m args below meth c T locs cells slots) (hx : p.tables.exec = Jvm.exec) (hlk : meth.locks = false) {pc : Nat} {Ls : Array Slot} {z : Int32} {rest : List Value} (hret : meth.sig.returnType = some .int)
    (hd : decode c.code pc = .ok (.ireturn, 1)) (hq : Q (some (.int z)) T.heap locs) (h1 : cells ≤ kc) (h2 : slots ≤ ks) : own_Fin p e below s Q kc ks T (mkF m pc Ls (.int z :: rest)) :=
  own_retV X hx hlk hret rfl (Or.inl ⟨rfl, Or.inl rfl, z, rfl⟩) hd hq h1 h2
theorem own_retJ (X : Stand p l e R s m args below meth c T locs cells slots) (hx : p.tables.exec = Jvm.exec) (hlk : meth.locks = false) {pc : Nat} {Ls : Array Slot} {z : Int64} {rest : List Value} (hret : meth.sig.returnType = some .long)
    (hd : decode c.code pc = .ok (.lreturn, 1)) (hq : Q (some (.long z)) T.heap locs) (h1 : cells ≤ kc) (h2 : slots ≤ ks) : own_Fin p e below s Q kc ks T (mkF m pc Ls (.long z :: rest)) :=
  own_retV X hx hlk hret rfl (Or.inr (Or.inl ⟨rfl, rfl, z, rfl⟩)) hd hq h1 h2
theorem own_retA (X : Stand p l e R s m args below meth c T locs cells slots) (hx : p.tables.exec = Jvm.exec) (hlk : meth.locks = false) {pc : Nat} {Ls : Array Slot} {w : Value} {t : FieldType} {rest : List Value} (hret : meth.sig.returnType = some t) (ht : t.isReference = true) (hw : w.isRef = true)
    (hd : decode c.code pc = .ok (.areturn, 1)) (hq : Q (some w) T.heap locs) (h1 : cells ≤ kc) (h2 : slots ≤ ks) : own_Fin p e below s Q kc ks T (mkF m pc Ls (w :: rest)) :=
  own_retV X hx hlk hret (by cases t <;> first | (cases ht; done) | rfl) (Or.inr (Or.inr (Or.inr (Or.inr ⟨rfl, ht, hw⟩)))) hd hq h1 h2
theorem own_retN (X : Stand p l e R s m args below meth c T locs cells slots) (hx : p.tables.exec = Jvm.exec) (hlk : meth.locks = false) {pc : Nat} {Ls : Array Slot} {z : Int32} {t : FieldType} {rest : List Value} (hret : meth.sig.returnType = some t) (ht : t = .boolean ∨ t = .byte ∨ t = .char ∨ t = .short)
    (hd : decode c.code pc = .ok (.ireturn, 1)) (hq : Q (some (.int (nar t z))) T.heap locs) (h1 : cells ≤ kc) (h2 : slots ≤ ks) : own_Fin p e below s Q kc ks T (mkF m pc Ls (.int z :: rest)) := by
  obtain ⟨fs, hr, hrun, hended, hW, hsame⟩ := X.leave (v := some (.int (nar t z))) (fun h => by rw [hret] at h; cases h) hlk
  exact ⟨_, _, retN X hx hret ht hd hr, hrun, hended, _, _, rfl, hq, ⟨_, rfl⟩, hW, hsame.mono h1 h2⟩
theorem own_ret (X : Stand p l e R s m args below meth c T locs cells slots) (hx : p.tables.exec = Jvm.exec) (hlk : meth.locks = false) {pc : Nat} {Ls : Array Slot} (hret : meth.sig.returnType = none)
    (hd : decode c.code pc = .ok (.return_, 1)) (hq : Q none T.heap locs) (h1 : cells ≤ kc) (h2 : slots ≤ ks) : own_Fin p e below s Q kc ks T (mkF m pc Ls []) := by
  obtain ⟨fs, hr, hrun, hended, hW, hsame⟩ := X.leave (v := none) (fun _ => rfl) hlk
  exact ⟨_, _, X.returnOut hx hret hd hr, hrun, hended, _, _, rfl, hq, ⟨_, rfl⟩, hW, hsame.mono h1 h2⟩
end OwnKit
theorem own_nar_ite {P : Prop} [Decidable P] {a b : Int32} (ha : nar .boolean a = a) (hb : nar .boolean b = b) : nar .boolean (if P then a else b) = (if P then a else b) := by
  by_cases h : P
  · rw [if_pos h]; exact ha
  · rw [if_neg h]; exact hb
theorem own_nar_bool (P : Prop) [Decidable P] : nar .boolean (if P then (1 : Int32) else 0) = (if P then (1 : Int32) else 0) := own_nar_ite (by decide) (by decide)
/-- the array at a holds just these values -/
def own_Arl (Z : State) (h : Heap) (a : Addr) (ty : FieldType) (vs : List Value) : Prop := ∃ c : Cell, Arr Z h a c ty ∧ c.slots.toList = vs
section OwnArr
variable {p : Program} {l : Launch} {e : Env} {R : Room} {s : State} {m : MethodId} {args : Array Value} {below : List Frame} {meth : Method} {c : Code} {T : State} {locs : List Loc} {cells slots : Nat}
variable {Z : State} {h h' : Heap} {a b : Addr} {ty : FieldType} {vs : List Value} {v w : Value} {sl : Nat} {ws : List Addr}
theorem own_Arl.lt (F : own_Arl Z h a ty vs) : a < h.size := by obtain ⟨c, A, -⟩ := F; exact A.lt
theorem own_Arl.ext (F : own_Arl Z h a ty vs) (E : Ext h h') : own_Arl Z h' a ty vs := by obtain ⟨c, A, r⟩ := F; exact ⟨c, A.ext E, r⟩
theorem own_Arl.other (F : own_Arl Z h b ty vs) (W : Wr h h' a sl v) (q : b ≠ a) : own_Arl Z h' b ty vs := by obtain ⟨c, A, r⟩ := F; exact ⟨c, A.other W q, r⟩
theorem own_Arl.keep (F : own_Arl Z h a ty vs) (K : Keep h h' ws) (q : a ∉ ws) : own_Arl Z h' a ty vs := by obtain ⟨c, A, r⟩ := F; exact ⟨c, ⟨K.2.1 a c A.1 q, A.2⟩, r⟩
theorem own_Arl.set (F : own_Arl Z h a ty vs) (W : Wr h h' a sl v) : own_Arl Z h' a ty (vs.set sl v) := by
  obtain ⟨c, A, rfl⟩ := F
  exact ⟨_, A.same W, by simp [Cell.setSlot]⟩
theorem own_Arl.set' {j : Int32} (F : own_Arl Z h a ty vs) (W : Wr h h' a j.toNatClampNeg v) {i : Nat} (hi : j.toNatClampNeg = i) : own_Arl Z h' a ty (vs.set i v) := hi ▸ F.set W
theorem own_Arl.of_new {k : ClassId} {n : Int32} (A : Arr Z h a (newA k ty n) ty) {i : Nat} (hi : n.toNatClampNeg = i) : own_Arl Z h a ty (List.replicate i (defaultValue ty)) := ⟨_, A, by subst hi; simp [newA]⟩
theorem own_inb {c : Cell} {j : Int32} (L : c.slots.toList = vs) (h1 : ¬ j < 0) (h2 : j.toNatClampNeg < vs.length) : ¬ (j < 0 ∨ c.slots.size ≤ j.toNatClampNeg) := by
  subst L
  intro q
  rcases q with q | q
  · exact h1 q
  · rw [Array.length_toList] at h2; exact absurd q (Nat.not_le.mpr h2)
theorem own_inb' {c : Cell} {j : Int32} {n : Nat} (L : c.slots.toList = vs) (hl : vs.length = n) (h1 : ¬ j < 0) (h2 : j.toNatClampNeg < n) : ¬ (j < 0 ∨ c.slots.size ≤ j.toNatClampNeg) := own_inb L h1 (hl ▸ h2)
theorem own_ix {j : Int32} {k : Nat} (hk : j.toNatClampNeg = k) (h : vs[k]? = some v) : vs[j.toNatClampNeg]? = some v := hk ▸ h
theorem own_get {c : Cell} {j : Nat} (L : c.slots.toList = vs) (h2 : vs[j]? = some v) : c.slots[j]? = some v := by
  subst L
  rw [Array.getElem?_toList] at h2; exact h2
theorem own_lt_of {j : Nat} (h2 : vs[j]? = some v) : j < vs.length := (List.getElem?_eq_some_iff.mp h2).1
variable {g : JFrame} {j : Int32} {rest : List Value}
theorem own_baload (X : Stand p l e R s m args below meth c T locs cells slots) (hx : p.tables.exec = Jvm.exec) (hZ : Z.Warmed39 s.vm) (eT : T.heap = h) (F : own_Arl Z h a .byte vs) (h1 : ¬ j < 0) (h2 : vs[j.toNatClampNeg]? = some v) (hg : g.method = m) (hs : g.stack = .int j :: .ref a :: rest) (hd : decode c.code g.pc = .ok (.baload, 1)) (target : State)
    (k : Steps p.tables e below (T.setTop { g with pc := g.pc + 1, stack := v :: rest }) target) : Steps p.tables e below (T.setTop g) target := by
  obtain ⟨cl, A, L⟩ := F
  exact X.baloadBytes hx (by rw [eT]; exact A.1) (State.isArrayOf_alike hZ.alike A.2.1) A.2.2 (own_inb L h1 (own_lt_of h2)) (own_get L h2) hg hs hd _ k
theorem own_caload (X : Stand p l e R s m args below meth c T locs cells slots) (hx : p.tables.exec = Jvm.exec) (hZ : Z.Warmed39 s.vm) (eT : T.heap = h) (F : own_Arl Z h a .char vs) (h1 : ¬ j < 0) (h2 : vs[j.toNatClampNeg]? = some v) (hg : g.method = m) (hs : g.stack = .int j :: .ref a :: rest) (hd : decode c.code g.pc = .ok (.caload, 1)) (target : State)
    (k : Steps p.tables e below (T.setTop { g with pc := g.pc + 1, stack := v :: rest }) target) : Steps p.tables e below (T.setTop g) target := by
  obtain ⟨cl, A, L⟩ := F
  exact X.caload hx (by rw [eT]; exact A.1) (State.isArrayOf_alike hZ.alike A.2.1) A.2.2 (own_inb L h1 (own_lt_of h2)) (own_get L h2) hg hs hd _ k
theorem own_iaload (X : Stand p l e R s m args below meth c T locs cells slots) (hx : p.tables.exec = Jvm.exec) (hZ : Z.Warmed39 s.vm) (eT : T.heap = h) (F : own_Arl Z h a .int vs) (h1 : ¬ j < 0) (h2 : vs[j.toNatClampNeg]? = some v) (hg : g.method = m) (hs : g.stack = .int j :: .ref a :: rest) (hd : decode c.code g.pc = .ok (.iaload, 1)) (target : State)
    (k : Steps p.tables e below (T.setTop { g with pc := g.pc + 1, stack := v :: rest }) target) : Steps p.tables e below (T.setTop g) target := by
  obtain ⟨cl, A, L⟩ := F
  exact X.iaload hx (by rw [eT]; exact A.1) (State.isArrayOf_alike hZ.alike A.2.1) A.2.2 (own_inb L h1 (own_lt_of h2)) (own_get L h2) hg hs hd _ k
theorem own_laload (X : Stand p l e R s m args below meth c T locs cells slots) (hx : p.tables.exec = Jvm.exec) (hZ : Z.Warmed39 s.vm) (eT : T.heap = h) (F : own_Arl Z h a .long vs) (h1 : ¬ j < 0) (h2 : vs[j.toNatClampNeg]? = some v) (hg : g.method = m) (hs : g.stack = .int j :: .ref a :: rest) (hd : decode c.code g.pc = .ok (.laload, 1)) (target : State)
    (k : Steps p.tables e below (T.setTop { g with pc := g.pc + 1, stack := v :: rest }) target) : Steps p.tables e below (T.setTop g) target := by
  obtain ⟨cl, A, L⟩ := F
  exact X.laload hx (by rw [eT]; exact A.1) (State.isArrayOf_alike hZ.alike A.2.1) A.2.2 (own_inb L h1 (own_lt_of h2)) (own_get L h2) hg hs hd _ k
theorem own_alen (X : Stand p l e R s m args below meth c T locs cells slots) (hx : p.tables.exec = Jvm.exec) (hZ : Z.Warmed39 s.vm) (eT : T.heap = h) (F : own_Arl Z h a ty vs) {n : Int32} {i : Nat} (hi : vs.length = i) (hn : i.toInt32 = n) (hg : g.method = m) (hs : g.stack = .ref a :: rest) (hd : decode c.code g.pc = .ok (.arraylength, 1)) (target : State)
    (k : Steps p.tables e below (T.setTop { g with pc := g.pc + 1, stack := .int n :: rest }) target) : Steps p.tables e below (T.setTop g) target := by
  obtain ⟨cl, A, rfl⟩ := F
  subst hi
  subst hn
  exact X.arraylength hx (by rw [eT]; exact A.1) (State.isArrayOf_alike hZ.alike A.2.1) hg hs hd _ (by rw [Array.length_toList] at k; exact k)
end OwnArr
theorem own_idx {x : Int32} (h1 : ¬ x < (-128 : Int32)) (h2 : ¬ (127 : Int32) < x) : ¬ (x + (128 : Int32)) < 0 ∧ (x + (128 : Int32)).toNatClampNeg < 256 := by
  rw [Int32.lt_iff_toInt_lt] at h1 h2
  have c1 : (-128 : Int32).toInt = -128 := rfl
  have c2 : (127 : Int32).toInt = 127 := rfl
  have c3 : (128 : Int32).toInt = 128 := rfl
  have e : (x + (128 : Int32)).toInt = x.toInt + 128 := by rw [Jvm.Kit.i32_add (by omega) (by omega), c3]
  refine ⟨?_, ?_⟩
  · rw [Int32.lt_iff_toInt_lt, e]
    show ¬ (_ < (0 : Int))
    omega
  · show (x + (128 : Int32)).toInt.toNat < 256
    rw [e]; omega
theorem own_eqv {t : Term} {k : Int32} {args : Array Value} {s : State} (h : (Jvm.Cond.eq t (.int k)).value args s none s [] = some true) : t.eval args s none [] s = some (.int k) := by
  obtain ⟨x, y, hx, hy, k1, k2⟩ := cmp_v (Or.inl h)
  have hy' : y = .int k := (Option.some.inj (hy.symm.trans (Term.int_eval k)))
  subst hy'
  obtain ⟨z, rfl⟩ := k2
  have q : z = k := gotT (Cond.eq_ints hx (Term.int_eval k)) h
  rw [hx, q]
theorem own_size {t : Term} {args : Array Value} {s : State} {r : Addr} {c : Cell} {ty : FieldType} (ev : t.eval args s none [] s = some (.ref r)) (A : Arr s s.heap r c ty) (h : (Term.length t).eval args s none [] s = some (.int 256)) : c.slots.size = 256 := by
  have ha : s.arrayAt? r = some c := A.fin (Vm.Alike.refl _)
  by_cases hl : c.slots.size < 2 ^ 31
  · have := len_f (o := none) (first := s) (idx := []) ev ha hl
    rw [h] at this
    have q : (256 : Int32) = c.slots.size.toInt32 := Value.int.inj (Option.some.inj this)
    have q2 := congrArg Int32.toInt q
    rw [len_toInt hl] at q2
    have c3 : (256 : Int32).toInt = 256 := rfl
    omega
  · simp [Term.eval, ev, ha, hl] at h
theorem own_no {Z : State} {a0 : Array Value} {C S O K : String} {n : Nat} (w1 : (Jvm.Cond.superclass C S).before a0 Z = true) (w2 : (Jvm.Cond.superclass S O).before a0 Z = true) (w3 : (Jvm.Cond.noSuperclass O).before a0 Z = true) (w4 : (Jvm.Cond.instantiable K n).before a0 Z = true) (h1 : C ≠ K) (h2 : S ≠ K) (h3 : O ≠ K) :
    ∃ c t, Z.vm.findClass C = some c ∧ Z.vm.findClass K = some t ∧ Z.vm.assignable c t = false := by
  obtain ⟨tK, kK, g1, g2, g3, g4, -⟩ := Cond.instantiable_spec w4
  have g5 : kK.isInterface = false := by
    cases q : kK.isInterface with
    | false => rfl
    | true => rw [q] at g4; simp at g4
  have n0 : NS Z O K := by
    obtain ⟨c, k, e1, e2, e3, -, -⟩ := Cond.noSuperclass_spec w3
    have ne := ids_ne e1 g1 h3
    refine ⟨c, tK, e1, g1, fun fuel => ?_⟩
    cases fuel with
    | zero => rfl
    | succ f => simp [Vm.isSubclassAux, ne, e2, e3]
  obtain ⟨c, t, c1, c2, c3⟩ := NS.step w1 (NS.step w2 n0 h2) h1
  cases g1.symm.trans c2
  obtain ⟨p, k, kp, d1, d2, d3, d4, d5, -, d7⟩ := Cond.superclass_spec c1 w1
  have ne := ids_ne c1 c2 h1
  refine ⟨c, tK, c1, c2, ?_⟩
  show Z.vm.assignableAux (255 + 1) c tK = false
  simp [Vm.assignableAux, ne, d2, g2, d5, g3, g5, Vm.isSubclass, c3]
theorem own_all {s : State} {args : Array Value} {cc : Addr} {cl : Cell} {t : Term} {D : Jvm.Cond} (ev : t.eval args s none [] s = some (.ref cc)) (hi : ∀ idx, t.eval args s none idx s = t.eval args s none [] s) (A : Arr s s.heap cc cl (.object "java/lang/Integer")) (hsz : cl.slots.size = 256) (h : (Jvm.Cond.all t (.and (.exactly (.elem t (.index 0)) "java/lang/Integer") D)).value args s none s [] = some true) :
    ∀ j, j < 256 → ∃ r, cl.slots[j]? = some (.ref r) ∧ Exa s s.heap r "java/lang/Integer" := by
  intro j hj
  have ha : s.arrayAt? cc = some cl := A.fin (Vm.Alike.refl _)
  obtain ⟨h1, -⟩ := and_e (Cond.all_elim ev ha h j (by rw [hsz]; exact hj))
  obtain ⟨r, er⟩ := exa_v h1
  have ej : (Int32.ofNat j).toNatClampNeg = j := clamp_of rfl (by omega)
  have nj : ¬ Int32.ofNat j < 0 := by
    rw [Int32.lt_iff_toInt_lt, toInt_of rfl (by omega)]
    show ¬ ((j : Int) < 0)
    omega
  have ix : (Term.index 0).eval args s none [j] s = some (.int (Int32.ofNat j)) := by
    have q := idx_at (args := args) (s := s) (first := s) (o := none) nj
    rw [ej] at q; exact q
  have q := (elem_in er ((hi [j]).trans ev) ix A.1).2
  rw [ej] at q
  exact ⟨r, q, exa_at er h1⟩
theorem pd_0 : parseMethodDescriptor "()V" = some ⟨[], none⟩ := by decide +kernel
theorem pd_1 : parseMethodDescriptor "(I)V" = some ⟨[.int], none⟩ := by decide +kernel
theorem pd_2 : parseMethodDescriptor "(Lcom/example/mandatum/mandatum/FactBase;I)V" = some ⟨[(.object "com/example/mandatum/mandatum/FactBase"), .int], none⟩ := by decide +kernel
theorem pd_3 : parseMethodDescriptor "(Ljava/lang/Object;)Z" = some ⟨[(.object "java/lang/Object")], some .boolean⟩ := by decide +kernel
theorem pd_4 : parseMethodDescriptor "(I)Ljava/lang/Integer;" = some ⟨[.int], some (.object "java/lang/Integer")⟩ := by decide +kernel
theorem d3_0 : decode jdk_71_method_1_code 0 = .ok (.aload_n 0, 1) := by decide +kernel
theorem d3_1 : decode jdk_71_method_1_code 1 = .ok (.invokespecial 1, 3) := by decide +kernel
theorem d3_4 : decode jdk_71_method_1_code 4 = .ok (.return_, 1) := by decide +kernel
theorem pn_3 : plainFor (⟨"java/util/AbstractMap", "<init>", "()V"⟩ : MethodName) = true := by first | exact plainFor_of_name (by first | (simp [plainName, overriddenIn]; done) | decide +kernel) | decide +kernel
theorem ef_3 (m : MethodId) (x0 : Addr) : entryFrame m #[(.ref x0)] 1 = mkF m 0 #[.val (.ref x0)] [] := by first | (simp [entryFrame, mkF, argsToLocals, Value.category]; done) | rfl
def Q_3 (h0 : Heap) (n0 : Nat) (v : Option Value) (h : Heap) (L : List Loc) : Prop := v = none ∧ Fr n0 L ∧ h = h0
set_option maxRecDepth 65536 in
set_option maxHeartbeats 40000000 in
theorem rm_am (l : Launch) (Z : State) (a0 : Array Value) (hw : ∀ d ∈ tables_1, d.before a0 Z = true) (ws : List Jvm.Cond) (a : Addr) (h0 : Heap) (n0 : Nat) (Z0 : n0 ≤ h0.size)  :
    MetFree l (⟨"java/util/AbstractMap", "<init>", "()V"⟩ : MethodName) (head1 (Jvm.Cond.code (⟨"java/util/AbstractMap", "<init>", "()V"⟩ : MethodName) jdk_71_method_1_code 1 none :: ws) ({ frames := 1, cells := 0, slots := 0, locals := 12 } : Room)) (fun as_ U => as_ = #[(.ref a)] ∧ Z.Warmed39 U.vm ∧ U.heap = h0) (fun _ _ _ _ _ => True) (fun _ U o U' => ∃ v L, o = .returned v ∧ Q_3 h0 n0 v U'.heap L ∧ FrameEnd U o U' L ({ frames := 1, cells := 0, slots := 0, locals := 12 } : Room).cells ({ frames := 1, cells := 0, slots := 0, locals := 12 } : Room).slots) := by
  refine MetFree.of_bodySF pn_3 hisR ?_
  intro p e s m args below meth c s₁ Bd hml0 hP hK
  obtain ⟨rfl, hZ, hh⟩ := hP
  have hx := Bd.exec
  have hby := Bd.bytes
  have hlk := BodyLoose.notSynchronized Bd
  have hml : c.maxLocals = 1 := hml0
  have hown : s.vm.findClass "java/util/AbstractMap" = some m.cls := findClass_of_methodNamed Bd.named
  have hnm := (name_of_methodNamed Bd.named Bd.method).1
  have X0 : Stand p l e ({ frames := 1, cells := 0, slots := 0, locals := 12 } : Room) s m #[(.ref a)] below meth c s₁ [] 0 0 := Stand.of_body Bd
  have e0 : s₁.heap = h0 := by rw [← hh, Bd.state]; rfl
  have N0 := Fr.nil n0
  refine own_in (ef_3 m a) ?_
  show own_Fin p e below s (Q_3 h0 n0) 0 0 s₁ (mkF m 0 #[.val (.ref a)] [])
  refine own_step (T' := s₁) (g' := (mkF m 1 #[.val (.ref a)] [(.ref a)])) (fun t_ k_ => XS.aloadN X0.here hx rfl (hb hby d3_0) rfl rfl k_) ?_
  obtain ⟨T1, X2, e3, st4⟩ := initO X0 hx hZ hown (hw _ (List.mem_of_getElem? (i := 21) rfl)) (hw _ (List.mem_of_getElem? (i := 7) rfl)) (hw _ (List.mem_of_getElem? (i := 8) rfl)) e0 (g := (mkF m 1 #[.val (.ref a)] [(.ref a)])) rfl (by rw [hml]; rfl) rfl (hb hby d3_1) (by decide) (W := 0) (by show 2 * 0 + _ ≤ _; exact Nat.le_of_eq rfl) (by decide)
  refine own_step (T' := T1) (g' := (mkF m 4 #[.val (.ref a)] [])) st4 ?_
  exact own_ret X2 hx hlk Bd.returns (hb hby d3_4) (by rw [e3]; exact ⟨rfl, N0, rfl⟩) (by decide) (by decide)
theorem d5_0 : decode jdk_30_method_1_code 0 = .ok (.aload_n 0, 1) := by decide +kernel
theorem d5_1 : decode jdk_30_method_1_code 1 = .ok (.invokespecial 1, 3) := by decide +kernel
theorem d5_4 : decode jdk_30_method_1_code 4 = .ok (.return_, 1) := by decide +kernel
theorem pn_5 : plainFor (⟨"java/lang/Record", "<init>", "()V"⟩ : MethodName) = true := by first | exact plainFor_of_name (by first | (simp [plainName, overriddenIn]; done) | decide +kernel) | decide +kernel
theorem ef_5 (m : MethodId) (x0 : Addr) : entryFrame m #[(.ref x0)] 1 = mkF m 0 #[.val (.ref x0)] [] := by first | (simp [entryFrame, mkF, argsToLocals, Value.category]; done) | rfl
def Q_5 (h0 : Heap) (n0 : Nat) (v : Option Value) (h : Heap) (L : List Loc) : Prop := v = none ∧ Fr n0 L ∧ h = h0
set_option maxRecDepth 65536 in
set_option maxHeartbeats 40000000 in
theorem rm_rec (l : Launch) (Z : State) (a0 : Array Value) (hw : ∀ d ∈ tables_1, d.before a0 Z = true) (ws : List Jvm.Cond) (a : Addr) (h0 : Heap) (n0 : Nat) (Z0 : n0 ≤ h0.size)  :
    MetFree l (⟨"java/lang/Record", "<init>", "()V"⟩ : MethodName) (head1 (Jvm.Cond.code (⟨"java/lang/Record", "<init>", "()V"⟩ : MethodName) jdk_30_method_1_code 1 none :: ws) ({ frames := 1, cells := 0, slots := 0, locals := 12 } : Room)) (fun as_ U => as_ = #[(.ref a)] ∧ Z.Warmed39 U.vm ∧ U.heap = h0) (fun _ _ _ _ _ => True) (fun _ U o U' => ∃ v L, o = .returned v ∧ Q_5 h0 n0 v U'.heap L ∧ FrameEnd U o U' L ({ frames := 1, cells := 0, slots := 0, locals := 12 } : Room).cells ({ frames := 1, cells := 0, slots := 0, locals := 12 } : Room).slots) := by
  refine MetFree.of_bodySF pn_5 hisR ?_
  intro p e s m args below meth c s₁ Bd hml0 hP hK
  obtain ⟨rfl, hZ, hh⟩ := hP
  have hx := Bd.exec
  have hby := Bd.bytes
  have hlk := BodyLoose.notSynchronized Bd
  have hml : c.maxLocals = 1 := hml0
  have hown : s.vm.findClass "java/lang/Record" = some m.cls := findClass_of_methodNamed Bd.named
  have hnm := (name_of_methodNamed Bd.named Bd.method).1
  have X0 : Stand p l e ({ frames := 1, cells := 0, slots := 0, locals := 12 } : Room) s m #[(.ref a)] below meth c s₁ [] 0 0 := Stand.of_body Bd
  have e0 : s₁.heap = h0 := by rw [← hh, Bd.state]; rfl
  have N0 := Fr.nil n0
  refine own_in (ef_5 m a) ?_
  show own_Fin p e below s (Q_5 h0 n0) 0 0 s₁ (mkF m 0 #[.val (.ref a)] [])
  refine own_step (T' := s₁) (g' := (mkF m 1 #[.val (.ref a)] [(.ref a)])) (fun t_ k_ => XS.aloadN X0.here hx rfl (hb hby d5_0) rfl rfl k_) ?_
  obtain ⟨T1, X2, e3, st4⟩ := initO X0 hx hZ hown (hw _ (List.mem_of_getElem? (i := 38) rfl)) (hw _ (List.mem_of_getElem? (i := 7) rfl)) (hw _ (List.mem_of_getElem? (i := 8) rfl)) e0 (g := (mkF m 1 #[.val (.ref a)] [(.ref a)])) rfl (by rw [hml]; rfl) rfl (hb hby d5_1) (by decide) (W := 0) (by show 2 * 0 + _ ≤ _; exact Nat.le_of_eq rfl) (by decide)
  refine own_step (T' := T1) (g' := (mkF m 4 #[.val (.ref a)] [])) st4 ?_
  exact own_ret X2 hx hlk Bd.returns (hb hby d5_4) (by rw [e3]; exact ⟨rfl, N0, rfl⟩) (by decide) (by decide)
theorem d9_0 : decode jdk_18_method_1_code 0 = .ok (.aload_n 0, 1) := by decide +kernel
theorem d9_1 : decode jdk_18_method_1_code 1 = .ok (.invokespecial 1, 3) := by decide +kernel
theorem d9_4 : decode jdk_18_method_1_code 4 = .ok (.return_, 1) := by decide +kernel
theorem pn_9 : plainFor (⟨"java/lang/Number", "<init>", "()V"⟩ : MethodName) = true := by first | exact plainFor_of_name (by first | (simp [plainName, overriddenIn]; done) | decide +kernel) | decide +kernel
theorem ef_9 (m : MethodId) (x0 : Addr) : entryFrame m #[(.ref x0)] 1 = mkF m 0 #[.val (.ref x0)] [] := by first | (simp [entryFrame, mkF, argsToLocals, Value.category]; done) | rfl
def Q_9 (h0 : Heap) (n0 : Nat) (v : Option Value) (h : Heap) (L : List Loc) : Prop := v = none ∧ Fr n0 L ∧ h = h0
set_option maxRecDepth 65536 in
set_option maxHeartbeats 40000000 in
theorem rm_num (l : Launch) (Z : State) (a0 : Array Value) (hw : ∀ d ∈ tables_1, d.before a0 Z = true) (ws : List Jvm.Cond) (a : Addr) (h0 : Heap) (n0 : Nat) (Z0 : n0 ≤ h0.size)  :
    MetFree l (⟨"java/lang/Number", "<init>", "()V"⟩ : MethodName) (head1 (Jvm.Cond.code (⟨"java/lang/Number", "<init>", "()V"⟩ : MethodName) jdk_18_method_1_code 1 none :: ws) ({ frames := 1, cells := 0, slots := 0, locals := 12 } : Room)) (fun as_ U => as_ = #[(.ref a)] ∧ Z.Warmed39 U.vm ∧ U.heap = h0) (fun _ _ _ _ _ => True) (fun _ U o U' => ∃ v L, o = .returned v ∧ Q_9 h0 n0 v U'.heap L ∧ FrameEnd U o U' L ({ frames := 1, cells := 0, slots := 0, locals := 12 } : Room).cells ({ frames := 1, cells := 0, slots := 0, locals := 12 } : Room).slots) := by
  refine MetFree.of_bodySF pn_9 hisR ?_
  intro p e s m args below meth c s₁ Bd hml0 hP hK
  obtain ⟨rfl, hZ, hh⟩ := hP
  have hx := Bd.exec
  have hby := Bd.bytes
  have hlk := BodyLoose.notSynchronized Bd
  have hml : c.maxLocals = 1 := hml0
  have hown : s.vm.findClass "java/lang/Number" = some m.cls := findClass_of_methodNamed Bd.named
  have hnm := (name_of_methodNamed Bd.named Bd.method).1
  have X0 : Stand p l e ({ frames := 1, cells := 0, slots := 0, locals := 12 } : Room) s m #[(.ref a)] below meth c s₁ [] 0 0 := Stand.of_body Bd
  have e0 : s₁.heap = h0 := by rw [← hh, Bd.state]; rfl
  have N0 := Fr.nil n0
  refine own_in (ef_9 m a) ?_
  show own_Fin p e below s (Q_9 h0 n0) 0 0 s₁ (mkF m 0 #[.val (.ref a)] [])
  refine own_step (T' := s₁) (g' := (mkF m 1 #[.val (.ref a)] [(.ref a)])) (fun t_ k_ => XS.aloadN X0.here hx rfl (hb hby d9_0) rfl rfl k_) ?_
  obtain ⟨T1, X2, e3, st4⟩ := initO X0 hx hZ hown (hw _ (List.mem_of_getElem? (i := 72) rfl)) (hw _ (List.mem_of_getElem? (i := 7) rfl)) (hw _ (List.mem_of_getElem? (i := 8) rfl)) e0 (g := (mkF m 1 #[.val (.ref a)] [(.ref a)])) rfl (by rw [hml]; rfl) rfl (hb hby d9_1) (by decide) (W := 0) (by show 2 * 0 + _ ≤ _; exact Nat.le_of_eq rfl) (by decide)
  refine own_step (T' := T1) (g' := (mkF m 4 #[.val (.ref a)] [])) st4 ?_
  exact own_ret X2 hx hlk Bd.returns (hb hby d9_4) (by rw [e3]; exact ⟨rfl, N0, rfl⟩) (by decide) (by decide)
theorem d2_0 : decode jdk_69_method_7_code 0 = .ok (.aload_n 0, 1) := by decide +kernel
theorem d2_1 : decode jdk_69_method_7_code 1 = .ok (.invokespecial 43, 3) := by decide +kernel
theorem d2_4 : decode jdk_69_method_7_code 4 = .ok (.aload_n 0, 1) := by decide +kernel
theorem d2_5 : decode jdk_69_method_7_code 5 = .ok (.ldc 92, 2) := by decide +kernel
theorem d2_7 : decode jdk_69_method_7_code 7 = .ok (.putfield 81, 3) := by decide +kernel
theorem d2_10 : decode jdk_69_method_7_code 10 = .ok (.return_, 1) := by decide +kernel
theorem pn_2 : plainFor (⟨"java/util/HashMap", "<init>", "()V"⟩ : MethodName) = true := by first | exact plainFor_of_name (by first | (simp [plainName, overriddenIn]; done) | decide +kernel) | decide +kernel
theorem ef_2 (m : MethodId) (x0 : Addr) : entryFrame m #[(.ref x0)] 1 = mkF m 0 #[.val (.ref x0)] [] := by first | (simp [entryFrame, mkF, argsToLocals, Value.category]; done) | rfl
def Q_2 (a : Addr) (h0 : Heap) (n0 : Nat) (v : Option Value) (h : Heap) (L : List Loc) : Prop := v = none ∧ Fr n0 L ∧ Keep h0 h [a]
set_option maxRecDepth 65536 in
set_option maxHeartbeats 40000000 in
theorem rm_hm (l : Launch) (Z : State) (a0 : Array Value) (hw : ∀ d ∈ tables_1, d.before a0 Z = true) (ws : List Jvm.Cond) (a : Addr) (f_loadFactor : Value) (h0 : Heap) (n0 : Nat) (Z0 : n0 ≤ h0.size) (E_a : Exa Z h0 a "java/util/HashMap") (F_loadFactor : Fld Z h0 a "java/util/HashMap" "loadFactor" "F" f_loadFactor) (ga : n0 ≤ a) :
    MetFree l (⟨"java/util/HashMap", "<init>", "()V"⟩ : MethodName) (head1 (Jvm.Cond.code (⟨"java/util/HashMap", "<init>", "()V"⟩ : MethodName) jdk_69_method_7_code 1 none :: ws) ({ frames := 2, cells := 0, slots := 0, locals := 24 } : Room)) (fun as_ U => as_ = #[(.ref a)] ∧ Z.Warmed39 U.vm ∧ U.heap = h0) (fun _ _ _ _ _ => True) (fun _ U o U' => ∃ v L, o = .returned v ∧ Q_2 a h0 n0 v U'.heap L ∧ FrameEnd U o U' L ({ frames := 2, cells := 0, slots := 0, locals := 24 } : Room).cells ({ frames := 2, cells := 0, slots := 0, locals := 24 } : Room).slots) := by
  refine MetFree.of_bodySF pn_2 hisR ?_
  intro p e s m args below meth c s₁ Bd hml0 hP hK
  obtain ⟨rfl, hZ, hh⟩ := hP
  have hx := Bd.exec
  have hby := Bd.bytes
  have hlk := BodyLoose.notSynchronized Bd
  have hml : c.maxLocals = 1 := hml0
  have hown : s.vm.findClass "java/util/HashMap" = some m.cls := findClass_of_methodNamed Bd.named
  have hnm := (name_of_methodNamed Bd.named Bd.method).1
  have X0 : Stand p l e ({ frames := 2, cells := 0, slots := 0, locals := 24 } : Room) s m #[(.ref a)] below meth c s₁ [] 0 0 := Stand.of_body Bd
  have e0 : s₁.heap = h0 := by rw [← hh, Bd.state]; rfl
  have N0 := Fr.nil n0
  refine own_in (ef_2 m a) ?_
  show own_Fin p e below s (Q_2 a h0 n0) 0 0 s₁ (mkF m 0 #[.val (.ref a)] [])
  refine own_step (T' := s₁) (g' := (mkF m 1 #[.val (.ref a)] [(.ref a)])) (fun t_ k_ => XS.aloadN X0.here hx rfl (hb hby d2_0) rfl rfl k_) ?_
  obtain ⟨_, _, ⟨Tc1, Lc1, kc1, nc1⟩, -, Xc1, ⟨Lcc1, hQc1, lc1, yc1, zc1⟩, stc1⟩ := X0.specialBack hx (y := (⟨"java/util/AbstractMap", "<init>", "()V"⟩ : MethodName)) rfl hown (mvT hZ (hw _ (List.mem_of_getElem? (i := 15) rfl))) (mvT hZ (hw _ (List.mem_of_getElem? (i := 16) rfl))) (mvT hZ (hw _ (List.mem_of_getElem? (i := 20) rfl))) (by decide) (backOf (W := 0) (rm_am l Z a0 hw [] a h0 n0 Z0) hZ (hw _ (List.mem_of_getElem? (i := 20) rfl)) (hw _ (List.mem_of_getElem? (i := 19) rfl)) (by decide) (by decide)) (g := (mkF m 1 #[.val (.ref a)] [(.ref a)])) rfl (by rw [hml]; rfl) (Steps.refl _) (a := a) (argsL := []) (rest := []) (lenOf pd_0 rfl) rfl (by show 2 * 0 + _ ≤ _; exact Nat.le_of_eq rfl) (hb hby d2_1) (fun _ _ => ⟨rfl, e0, (by decide : 0 + 0 ≤ _), (by decide : 0 + 0 ≤ _)⟩)
  dsimp only [Pt.U, Pt.locs, Pt.cells, Pt.slots] at Xc1 lc1 yc1 zc1 stc1 hQc1
  subst lc1 yc1 zc1
  have X2 := Xc1.more (cells' := 0) (slots' := 0) (by decide) (by decide)
  obtain ⟨rfl, N3, e4⟩ := hQc1
  have N5 := Fr.app N0 N3
  obtain ⟨Lo6, X7, N8⟩ : ∃ Lo_, Stand p l e ({ frames := 2, cells := 0, slots := 0, locals := 24 } : Room) s m #[(.ref a)] below meth c Tc1 Lo_ 0 0 ∧ Fr n0 Lo_ := ⟨_, X2, N5⟩
  refine own_step (T' := Tc1) (g' := (mkF m 4 #[.val (.ref a)] [])) (fun t_ k_ => stc1.trans k_) ?_
  refine own_step (T' := Tc1) (g' := (mkF m 5 #[.val (.ref a)] [(.ref a)])) (fun t_ k_ => XS.aloadN X7.here hx rfl (hb hby d2_4) rfl rfl k_) ?_
  have st9 := X7.ldcFloatC (g := (mkF m 5 #[.val (.ref a)] [(.ref a)])) hx hown (mvT hZ (hw _ (List.mem_of_getElem? (i := 22) rfl))) rfl (hb hby d2_5)
  refine own_step (T' := Tc1) (g' := (mkF m 7 #[.val (.ref a)] [(.float (1061158912 : UInt32)), (.ref a)])) st9 ?_
  obtain ⟨T10, h11, X12, e13, W14, st15⟩ := putF X7 hx hZ hown (host := "") (Or.inl (hw _ (List.mem_of_getElem? (i := 23) rfl))) Via.refl e4 F_loadFactor E_a (Or.inr ⟨(hw _ (List.mem_of_getElem? (i := 24) rfl)), rfl, hnm⟩) (hw _ (List.mem_of_getElem? (i := 10) rfl)) (ty := .float) (by decide) rfl rfl (g := (mkF m 7 #[.val (.ref a)] [(.float (1061158912 : UInt32)), (.ref a)])) rfl rfl (hb hby d2_7)
  have N16 := Fr.snoc X12 N8 ga
  have F17 : n0 ≤ h11.size := Nat.le_trans Z0 (Keep.of_wr W14).1
  have F18 : Exa Z h11 a "java/util/HashMap" := E_a.wr W14
  have F19 : Fld Z h11 a "java/util/HashMap" "loadFactor" "F" (.float (1061158912 : UInt32)) := F_loadFactor.same W14
  have F20 : Keep h0 h11 [a] := (Keep.refl h0 [a]).wr W14 (Or.inl (List.mem_of_getElem? (i := 0) rfl))
  obtain ⟨Lo21, X22, N23⟩ : ∃ Lo_, Stand p l e ({ frames := 2, cells := 0, slots := 0, locals := 24 } : Room) s m #[(.ref a)] below meth c T10 Lo_ 0 0 ∧ Fr n0 Lo_ := ⟨_, X12, N16⟩
  refine own_step (T' := T10) (g' := (mkF m 10 #[.val (.ref a)] [])) st15 ?_
  exact own_ret X22 hx hlk Bd.returns (hb hby d2_10) (by rw [e13]; exact ⟨rfl, N23, F20⟩) (by decide) (by decide)
theorem d8_0 : decode jdk_33_method_23_code 0 = .ok (.aload_n 0, 1) := by decide +kernel
theorem d8_1 : decode jdk_33_method_23_code 1 = .ok (.invokespecial 202, 3) := by decide +kernel
theorem d8_4 : decode jdk_33_method_23_code 4 = .ok (.aload_n 0, 1) := by decide +kernel
theorem d8_5 : decode jdk_33_method_23_code 5 = .ok (.iload_n 1, 1) := by decide +kernel
theorem d8_6 : decode jdk_33_method_23_code 6 = .ok (.putfield 205, 3) := by decide +kernel
theorem d8_9 : decode jdk_33_method_23_code 9 = .ok (.return_, 1) := by decide +kernel
theorem pn_8 : plainFor (⟨"java/lang/Integer", "<init>", "(I)V"⟩ : MethodName) = true := by first | exact plainFor_of_name (by first | (simp [plainName, overriddenIn]; done) | decide +kernel) | decide +kernel
theorem ef_8 (m : MethodId) (x0 : Addr) (x1 : Int32) : entryFrame m #[(.ref x0), (.int x1)] 2 = mkF m 0 #[.val (.ref x0), .val (.int x1)] [] := by first | (simp [entryFrame, mkF, argsToLocals, Value.category]; done) | rfl
def Q_8 (a : Addr) (h0 : Heap) (n0 : Nat) (v : Option Value) (h : Heap) (L : List Loc) : Prop := v = none ∧ Fr n0 L ∧ Keep h0 h [a]
set_option maxRecDepth 65536 in
set_option maxHeartbeats 40000000 in
theorem rm_int (l : Launch) (Z : State) (a0 : Array Value) (hw : ∀ d ∈ tables_1, d.before a0 Z = true) (ws : List Jvm.Cond) (a : Addr) (x : Int32) (f_value : Int32) (h0 : Heap) (n0 : Nat) (Z0 : n0 ≤ h0.size) (E_a : Exa Z h0 a "java/lang/Integer") (F_value : Fld Z h0 a "java/lang/Integer" "value" "I" (.int f_value)) (ga : n0 ≤ a) :
    MetFree l (⟨"java/lang/Integer", "<init>", "(I)V"⟩ : MethodName) (head1 (Jvm.Cond.code (⟨"java/lang/Integer", "<init>", "(I)V"⟩ : MethodName) jdk_33_method_23_code 2 none :: ws) ({ frames := 2, cells := 0, slots := 0, locals := 24 } : Room)) (fun as_ U => as_ = #[(.ref a), (.int x)] ∧ Z.Warmed39 U.vm ∧ U.heap = h0) (fun _ _ _ _ _ => True) (fun _ U o U' => ∃ v L, o = .returned v ∧ Q_8 a h0 n0 v U'.heap L ∧ FrameEnd U o U' L ({ frames := 2, cells := 0, slots := 0, locals := 24 } : Room).cells ({ frames := 2, cells := 0, slots := 0, locals := 24 } : Room).slots) := by
  refine MetFree.of_bodySF pn_8 hisR ?_
  intro p e s m args below meth c s₁ Bd hml0 hP hK
  obtain ⟨rfl, hZ, hh⟩ := hP
  have hx := Bd.exec
  have hby := Bd.bytes
  have hlk := BodyLoose.notSynchronized Bd
  have hml : c.maxLocals = 2 := hml0
  have hown : s.vm.findClass "java/lang/Integer" = some m.cls := findClass_of_methodNamed Bd.named
  have hnm := (name_of_methodNamed Bd.named Bd.method).1
  have X0 : Stand p l e ({ frames := 2, cells := 0, slots := 0, locals := 24 } : Room) s m #[(.ref a), (.int x)] below meth c s₁ [] 0 0 := Stand.of_body Bd
  have e0 : s₁.heap = h0 := by rw [← hh, Bd.state]; rfl
  have N0 := Fr.nil n0
  refine own_in (ef_8 m a x) ?_
  show own_Fin p e below s (Q_8 a h0 n0) 0 0 s₁ (mkF m 0 #[.val (.ref a), .val (.int x)] [])
  refine own_step (T' := s₁) (g' := (mkF m 1 #[.val (.ref a), .val (.int x)] [(.ref a)])) (fun t_ k_ => XS.aloadN X0.here hx rfl (hb hby d8_0) rfl rfl k_) ?_
  obtain ⟨_, _, ⟨Tc1, Lc1, kc1, nc1⟩, -, Xc1, ⟨Lcc1, hQc1, lc1, yc1, zc1⟩, stc1⟩ := X0.specialBack hx (y := (⟨"java/lang/Number", "<init>", "()V"⟩ : MethodName)) rfl hown (mvT hZ (hw _ (List.mem_of_getElem? (i := 66) rfl))) (mvT hZ (hw _ (List.mem_of_getElem? (i := 67) rfl))) (mvT hZ (hw _ (List.mem_of_getElem? (i := 71) rfl))) (by decide) (backOf (W := 0) (rm_num l Z a0 hw [] a h0 n0 Z0) hZ (hw _ (List.mem_of_getElem? (i := 71) rfl)) (hw _ (List.mem_of_getElem? (i := 70) rfl)) (by decide) (by decide)) (g := (mkF m 1 #[.val (.ref a), .val (.int x)] [(.ref a)])) rfl (by rw [hml]; rfl) (Steps.refl _) (a := a) (argsL := []) (rest := []) (lenOf pd_0 rfl) rfl (by show 2 * 0 + _ ≤ _; exact Nat.le_of_eq rfl) (hb hby d8_1) (fun _ _ => ⟨rfl, e0, (by decide : 0 + 0 ≤ _), (by decide : 0 + 0 ≤ _)⟩)
  dsimp only [Pt.U, Pt.locs, Pt.cells, Pt.slots] at Xc1 lc1 yc1 zc1 stc1 hQc1
  subst lc1 yc1 zc1
  have X2 := Xc1.more (cells' := 0) (slots' := 0) (by decide) (by decide)
  obtain ⟨rfl, N3, e4⟩ := hQc1
  have N5 := Fr.app N0 N3
  obtain ⟨Lo6, X7, N8⟩ : ∃ Lo_, Stand p l e ({ frames := 2, cells := 0, slots := 0, locals := 24 } : Room) s m #[(.ref a), (.int x)] below meth c Tc1 Lo_ 0 0 ∧ Fr n0 Lo_ := ⟨_, X2, N5⟩
  refine own_step (T' := Tc1) (g' := (mkF m 4 #[.val (.ref a), .val (.int x)] [])) (fun t_ k_ => stc1.trans k_) ?_
  refine own_step (T' := Tc1) (g' := (mkF m 5 #[.val (.ref a), .val (.int x)] [(.ref a)])) (fun t_ k_ => XS.aloadN X7.here hx rfl (hb hby d8_4) rfl rfl k_) ?_
  refine own_step (T' := Tc1) (g' := (mkF m 6 #[.val (.ref a), .val (.int x)] [(.int x), (.ref a)])) (fun t_ k_ => XS.iloadN X7.here hx rfl (hb hby d8_5) rfl k_) ?_
  obtain ⟨T9, h10, X11, e12, W13, st14⟩ := putF X7 hx hZ hown (host := "") (Or.inl (hw _ (List.mem_of_getElem? (i := 73) rfl))) Via.refl e4 F_value E_a (Or.inr ⟨(hw _ (List.mem_of_getElem? (i := 74) rfl)), rfl, hnm⟩) (hw _ (List.mem_of_getElem? (i := 61) rfl)) (ty := .int) (by decide) rfl rfl (g := (mkF m 6 #[.val (.ref a), .val (.int x)] [(.int x), (.ref a)])) rfl rfl (hb hby d8_6)
  have N15 := Fr.snoc X11 N8 ga
  have F16 : n0 ≤ h10.size := Nat.le_trans Z0 (Keep.of_wr W13).1
  have F17 : Exa Z h10 a "java/lang/Integer" := E_a.wr W13
  have F18 : Fld Z h10 a "java/lang/Integer" "value" "I" (.int x) := F_value.same W13
  have F19 : Keep h0 h10 [a] := (Keep.refl h0 [a]).wr W13 (Or.inl (List.mem_of_getElem? (i := 0) rfl))
  obtain ⟨Lo20, X21, N22⟩ : ∃ Lo_, Stand p l e ({ frames := 2, cells := 0, slots := 0, locals := 24 } : Room) s m #[(.ref a), (.int x)] below meth c T9 Lo_ 0 0 ∧ Fr n0 Lo_ := ⟨_, X11, N15⟩
  refine own_step (T' := T9) (g' := (mkF m 9 #[.val (.ref a), .val (.int x)] [])) st14 ?_
  exact own_ret X21 hx hlk Bd.returns (hb hby d8_9) (by rw [e12]; exact ⟨rfl, N22, F19⟩) (by decide) (by decide)
theorem d0_0 : decode prog_45_method_1_code 0 = .ok (.aload_n 0, 1) := by decide +kernel
theorem d0_1 : decode prog_45_method_1_code 1 = .ok (.invokespecial 3, 3) := by decide +kernel
theorem d0_4 : decode prog_45_method_1_code 4 = .ok (.aload_n 0, 1) := by decide +kernel
theorem d0_5 : decode prog_45_method_1_code 5 = .ok (.new 9, 3) := by decide +kernel
theorem d0_8 : decode prog_45_method_1_code 8 = .ok (.dup, 1) := by decide +kernel
theorem d0_9 : decode prog_45_method_1_code 9 = .ok (.invokespecial 11, 3) := by decide +kernel
theorem d0_12 : decode prog_45_method_1_code 12 = .ok (.putfield 12, 3) := by decide +kernel
theorem d0_15 : decode prog_45_method_1_code 15 = .ok (.return_, 1) := by decide +kernel
theorem pn_0 : plainFor (⟨"com/example/mandatum/mandatum/FactBase", "<init>", "()V"⟩ : MethodName) = true := by first | exact plainFor_of_name (by first | (simp [plainName, overriddenIn]; done) | decide +kernel) | decide +kernel
theorem ef_0 (m : MethodId) (x0 : Addr) : entryFrame m #[(.ref x0)] 1 = mkF m 0 #[.val (.ref x0)] [] := by first | (simp [entryFrame, mkF, argsToLocals, Value.category]; done) | rfl
def Q_0 (a : Addr) (h0 : Heap) (n0 : Nat) (v : Option Value) (h : Heap) (L : List Loc) : Prop := v = none ∧ Fr n0 L ∧ Keep h0 h [a]
set_option maxRecDepth 65536 in
set_option maxHeartbeats 40000000 in
theorem rm_fb (l : Launch) (Z : State) (a0 : Array Value) (hw : ∀ d ∈ tables_1, d.before a0 Z = true) (ws : List Jvm.Cond) (a : Addr) (f_facts : Value) (h0 : Heap) (n0 : Nat) (Z0 : n0 ≤ h0.size) (E_a : Exa Z h0 a "com/example/mandatum/mandatum/FactBase") (F_facts : Fld Z h0 a "com/example/mandatum/mandatum/FactBase" "facts" "Ljava/util/Map;" f_facts) (ga : n0 ≤ a) :
    MetFree l (⟨"com/example/mandatum/mandatum/FactBase", "<init>", "()V"⟩ : MethodName) (head1 (Jvm.Cond.code (⟨"com/example/mandatum/mandatum/FactBase", "<init>", "()V"⟩ : MethodName) prog_45_method_1_code 1 none :: ws) ({ frames := 3, cells := 1, slots := 8, locals := 38 } : Room)) (fun as_ U => as_ = #[(.ref a)] ∧ Z.Warmed39 U.vm ∧ U.heap = h0) (fun _ _ _ _ _ => True) (fun _ U o U' => ∃ v L, o = .returned v ∧ Q_0 a h0 n0 v U'.heap L ∧ FrameEnd U o U' L ({ frames := 3, cells := 1, slots := 8, locals := 38 } : Room).cells ({ frames := 3, cells := 1, slots := 8, locals := 38 } : Room).slots) := by
  refine MetFree.of_bodySF pn_0 hisR ?_
  intro p e s m args below meth c s₁ Bd hml0 hP hK
  obtain ⟨rfl, hZ, hh⟩ := hP
  have hx := Bd.exec
  have hby := Bd.bytes
  have hlk := BodyLoose.notSynchronized Bd
  have hml : c.maxLocals = 1 := hml0
  have hown : s.vm.findClass "com/example/mandatum/mandatum/FactBase" = some m.cls := findClass_of_methodNamed Bd.named
  have hnm := (name_of_methodNamed Bd.named Bd.method).1
  have X0 : Stand p l e ({ frames := 3, cells := 1, slots := 8, locals := 38 } : Room) s m #[(.ref a)] below meth c s₁ [] 0 0 := Stand.of_body Bd
  have e0 : s₁.heap = h0 := by rw [← hh, Bd.state]; rfl
  have N0 := Fr.nil n0
  refine own_in (ef_0 m a) ?_
  show own_Fin p e below s (Q_0 a h0 n0) 1 8 s₁ (mkF m 0 #[.val (.ref a)] [])
  refine own_step (T' := s₁) (g' := (mkF m 1 #[.val (.ref a)] [(.ref a)])) (fun t_ k_ => XS.aloadN X0.here hx rfl (hb hby d0_0) rfl rfl k_) ?_
  obtain ⟨T1, X2, e3, st4⟩ := initO X0 hx hZ hown (hw _ (List.mem_of_getElem? (i := 6) rfl)) (hw _ (List.mem_of_getElem? (i := 7) rfl)) (hw _ (List.mem_of_getElem? (i := 8) rfl)) e0 (g := (mkF m 1 #[.val (.ref a)] [(.ref a)])) rfl (by rw [hml]; rfl) rfl (hb hby d0_1) (by decide) (W := 0) (by show 2 * 0 + _ ≤ _; exact Nat.le_of_eq rfl) (by decide)
  refine own_step (T' := T1) (g' := (mkF m 4 #[.val (.ref a)] [])) st4 ?_
  refine own_step (T' := T1) (g' := (mkF m 5 #[.val (.ref a)] [(.ref a)])) (fun t_ k_ => XS.aloadN X2.here hx rfl (hb hby d0_4) rfl rfl k_) ?_
  obtain ⟨T5, h6, X7, e8, E9, A10, D11, -, st12⟩ := newO X2 hx hZ hown (hw _ (List.mem_of_getElem? (i := 9) rfl)) (hw _ (List.mem_of_getElem? (i := 10) rfl)) (hw _ (List.mem_of_getElem? (i := 11) rfl)) e3 (g := (mkF m 5 #[.val (.ref a)] [(.ref a)])) rfl (hb hby d0_5) (by decide) (by decide)
  obtain ⟨a13, g14⟩ : ∃ z, z = h0.size := ⟨_, rfl⟩
  rw [← g14] at A10 D11 st12
  have q15 : n0 ≤ a13 := Nat.le_trans Z0 (Nat.le_of_eq g14.symm)
  have ne16 : a ≠ a13 := Nat.ne_of_lt (Nat.lt_of_lt_of_le E_a.lt (Nat.le_of_eq g14.symm))
  have F17 : n0 ≤ h6.size := Nat.le_trans Z0 E9.1
  have F18 : Exa Z h6 a "com/example/mandatum/mandatum/FactBase" := E_a.ext E9
  have F19 : Fld Z h6 a "com/example/mandatum/mandatum/FactBase" "facts" "Ljava/util/Map;" f_facts := F_facts.ext E9
  have F20 : Keep h0 h6 [a] := (Keep.refl h0 [a]).ext E9
  have F21 : Fld Z h6 a13 "java/util/HashMap" "loadFactor" "F" (.float 0) := D11 (Or.inr (hw _ (List.mem_of_getElem? (i := 24) rfl))) (ty := .float) (by decide)
  refine own_step (T' := T5) (g' := (mkF m 8 #[.val (.ref a)] [(.ref a13), (.ref a)])) st12 ?_
  refine own_step (T' := T5) (g' := (mkF m 9 #[.val (.ref a)] [(.ref a13), (.ref a13), (.ref a)])) (fun t_ k_ => XS.dup X7.here hx rfl (hb hby d0_8) rfl rfl k_) ?_
  obtain ⟨_, _, ⟨Tc22, Lc22, kc22, nc22⟩, -, Xc22, ⟨Lcc22, hQc22, lc22, yc22, zc22⟩, stc22⟩ := X7.specialBack hx (y := (⟨"java/util/HashMap", "<init>", "()V"⟩ : MethodName)) rfl hown (mvT hZ (hw _ (List.mem_of_getElem? (i := 12) rfl))) (mvT hZ (hw _ (List.mem_of_getElem? (i := 13) rfl))) (mvT hZ (hw _ (List.mem_of_getElem? (i := 14) rfl))) (by decide) (backOf (W := 2) (rm_hm l Z a0 hw [] a13  (.float 0) h6 n0 F17 A10 F21 q15) hZ (hw _ (List.mem_of_getElem? (i := 14) rfl)) (hw _ (List.mem_of_getElem? (i := 11) rfl)) (by decide) (by decide)) (g := (mkF m 9 #[.val (.ref a)] [(.ref a13), (.ref a13), (.ref a)])) rfl (by rw [hml]; rfl) (Steps.refl _) (a := a13) (argsL := []) (rest := [(.ref a13), (.ref a)]) (lenOf pd_0 rfl) rfl (by show 2 * 0 + _ ≤ _; exact Nat.le_of_eq rfl) (hb hby d0_9) (fun _ _ => ⟨rfl, e8, (by decide : 1 + 0 ≤ _), (by decide : 8 + 0 ≤ _)⟩)
  dsimp only [Pt.U, Pt.locs, Pt.cells, Pt.slots] at Xc22 lc22 yc22 zc22 stc22 hQc22
  subst lc22 yc22 zc22
  have X23 := Xc22.more (cells' := 1) (slots' := 8) (by decide) (by decide)
  obtain ⟨rfl, N24, K25⟩ := hQc22
  have N26 := Fr.app N0 N24
  have F27 : n0 ≤ Tc22.heap.size := Nat.le_trans F17 K25.1
  have F28 : Exa Z Tc22.heap a "com/example/mandatum/mandatum/FactBase" := F18.keep K25
  have F29 : Fld Z Tc22.heap a "com/example/mandatum/mandatum/FactBase" "facts" "Ljava/util/Map;" f_facts := F19.keep K25 (ninS ne16 nin0)
  have F30 : Keep h0 Tc22.heap [a] := F20.trans K25 (allS (Or.inr (Nat.le_trans (Keep.refl h0 [a]).1 (Nat.le_of_eq g14.symm))) all0)
  have F31 : Exa Z Tc22.heap a13 "java/util/HashMap" := A10.keep K25
  obtain ⟨Lo32, X33, N34⟩ : ∃ Lo_, Stand p l e ({ frames := 3, cells := 1, slots := 8, locals := 38 } : Room) s m #[(.ref a)] below meth c Tc22 Lo_ 1 8 ∧ Fr n0 Lo_ := ⟨_, X23, N26⟩
  refine own_step (T' := Tc22) (g' := (mkF m 12 #[.val (.ref a)] [(.ref a13), (.ref a)])) (fun t_ k_ => stc22.trans k_) ?_
  obtain ⟨T35, h36, X37, e38, W39, st40⟩ := putF X33 hx hZ hown (host := "") (Or.inl (hw _ (List.mem_of_getElem? (i := 25) rfl))) Via.refl rfl F29 F28 (Or.inr ⟨(hw _ (List.mem_of_getElem? (i := 26) rfl)), rfl, hnm⟩) (hw _ (List.mem_of_getElem? (i := 1) rfl)) (ty := (.object "java/util/Map")) (by decide) rfl rfl (g := (mkF m 12 #[.val (.ref a)] [(.ref a13), (.ref a)])) rfl rfl (hb hby d0_12)
  have N41 := Fr.snoc X37 N34 ga
  have F42 : n0 ≤ h36.size := Nat.le_trans F27 (Keep.of_wr W39).1
  have F43 : Exa Z h36 a "com/example/mandatum/mandatum/FactBase" := F28.wr W39
  have F44 : Fld Z h36 a "com/example/mandatum/mandatum/FactBase" "facts" "Ljava/util/Map;" (.ref a13) := F29.same W39
  have F45 : Keep h0 h36 [a] := F30.wr W39 (Or.inl (List.mem_of_getElem? (i := 0) rfl))
  have F46 : Exa Z h36 a13 "java/util/HashMap" := F31.wr W39
  obtain ⟨Lo47, X48, N49⟩ : ∃ Lo_, Stand p l e ({ frames := 3, cells := 1, slots := 8, locals := 38 } : Room) s m #[(.ref a)] below meth c T35 Lo_ 1 8 ∧ Fr n0 Lo_ := ⟨_, X37, N41⟩
  refine own_step (T' := T35) (g' := (mkF m 15 #[.val (.ref a)] [])) st40 ?_
  exact own_ret X48 hx hlk Bd.returns (hb hby d0_15) (by rw [e38]; exact ⟨rfl, N49, F45⟩) (by decide) (by decide)
theorem dm_0 : decode prog_49_method_1_code 0 = .ok (.aload_n 0, 1) := by decide +kernel
theorem dm_1 : decode prog_49_method_1_code 1 = .ok (.invokespecial 3, 3) := by decide +kernel
theorem dm_4 : decode prog_49_method_1_code 4 = .ok (.aload_n 0, 1) := by decide +kernel
theorem dm_5 : decode prog_49_method_1_code 5 = .ok (.aload_n 1, 1) := by decide +kernel
theorem dm_6 : decode prog_49_method_1_code 6 = .ok (.putfield 9, 3) := by decide +kernel
theorem dm_9 : decode prog_49_method_1_code 9 = .ok (.aload_n 0, 1) := by decide +kernel
theorem dm_10 : decode prog_49_method_1_code 10 = .ok (.iload_n 2, 1) := by decide +kernel
theorem dm_11 : decode prog_49_method_1_code 11 = .ok (.putfield 15, 3) := by decide +kernel
theorem dm_14 : decode prog_49_method_1_code 14 = .ok (.return_, 1) := by decide +kernel
theorem pn_m : plainFor (⟨"com/example/mandatum/mandatum/FactBase$Moment", "<init>", "(Lcom/example/mandatum/mandatum/FactBase;I)V"⟩ : MethodName) = true := by first | exact plainFor_of_name (by first | (simp [plainName, overriddenIn]; done) | decide +kernel) | decide +kernel
theorem ef_m (m : MethodId) (x0 : Addr) (x1 : Addr) (x2 : Int32) : entryFrame m #[(.ref x0), (.ref x1), (.int x2)] 3 = mkF m 0 #[.val (.ref x0), .val (.ref x1), .val (.int x2)] [] := by first | (simp [entryFrame, mkF, argsToLocals, Value.category]; done) | rfl
def Q_m (Z : State) (a : Addr) (b : Addr) (x : Int32) (h0 : Heap) (n0 : Nat) (v : Option Value) (h : Heap) (L : List Loc) : Prop := v = none ∧ Fr n0 L ∧ Keep h0 h [a] ∧ Fld Z h a "com/example/mandatum/mandatum/FactBase$Moment" "base" "Lcom/example/mandatum/mandatum/FactBase;" (.ref b) ∧ Fld Z h a "com/example/mandatum/mandatum/FactBase$Moment" "changes" "I" (.int x)
set_option maxRecDepth 65536 in
set_option maxHeartbeats 40000000 in
theorem rm_mom (l : Launch) (Z : State) (a0 : Array Value) (hw : ∀ d ∈ tables_1, d.before a0 Z = true) (ws : List Jvm.Cond) (a : Addr) (b : Addr) (x : Int32) (f_base : Value) (f_changes : Int32) (h0 : Heap) (n0 : Nat) (Z0 : n0 ≤ h0.size) (E_a : Exa Z h0 a "com/example/mandatum/mandatum/FactBase$Moment") (F_base : Fld Z h0 a "com/example/mandatum/mandatum/FactBase$Moment" "base" "Lcom/example/mandatum/mandatum/FactBase;" f_base) (F_changes : Fld Z h0 a "com/example/mandatum/mandatum/FactBase$Moment" "changes" "I" (.int f_changes)) (ga : n0 ≤ a) :
    MetFree l (⟨"com/example/mandatum/mandatum/FactBase$Moment", "<init>", "(Lcom/example/mandatum/mandatum/FactBase;I)V"⟩ : MethodName) (head1 (Jvm.Cond.code (⟨"com/example/mandatum/mandatum/FactBase$Moment", "<init>", "(Lcom/example/mandatum/mandatum/FactBase;I)V"⟩ : MethodName) prog_49_method_1_code 3 none :: ws) ({ frames := 2, cells := 0, slots := 0, locals := 24 } : Room)) (fun as_ U => as_ = #[(.ref a), (.ref b), (.int x)] ∧ Z.Warmed39 U.vm ∧ U.heap = h0) (fun _ _ _ _ _ => True) (fun _ U o U' => ∃ v L, o = .returned v ∧ Q_m Z a b x h0 n0 v U'.heap L ∧ FrameEnd U o U' L ({ frames := 2, cells := 0, slots := 0, locals := 24 } : Room).cells ({ frames := 2, cells := 0, slots := 0, locals := 24 } : Room).slots) := by
  refine MetFree.of_bodySF pn_m hisR ?_
  intro p e s m args below meth c s₁ Bd hml0 hP hK
  obtain ⟨rfl, hZ, hh⟩ := hP
  have hx := Bd.exec
  have hby := Bd.bytes
  have hlk := BodyLoose.notSynchronized Bd
  have hml : c.maxLocals = 3 := hml0
  have hown : s.vm.findClass "com/example/mandatum/mandatum/FactBase$Moment" = some m.cls := findClass_of_methodNamed Bd.named
  have hnm := (name_of_methodNamed Bd.named Bd.method).1
  have X0 : Stand p l e ({ frames := 2, cells := 0, slots := 0, locals := 24 } : Room) s m #[(.ref a), (.ref b), (.int x)] below meth c s₁ [] 0 0 := Stand.of_body Bd
  have e0 : s₁.heap = h0 := by rw [← hh, Bd.state]; rfl
  have N0 := Fr.nil n0
  refine own_in (ef_m m a b x) ?_
  show own_Fin p e below s (Q_m Z a b x h0 n0) 0 0 s₁ (mkF m 0 #[.val (.ref a), .val (.ref b), .val (.int x)] [])
  refine own_step (T' := s₁) (g' := (mkF m 1 #[.val (.ref a), .val (.ref b), .val (.int x)] [(.ref a)])) (fun t_ k_ => XS.aloadN X0.here hx rfl (hb hby dm_0) rfl rfl k_) ?_
  obtain ⟨_, _, ⟨Tc1, Lc1, kc1, nc1⟩, -, Xc1, ⟨Lcc1, hQc1, lc1, yc1, zc1⟩, stc1⟩ := X0.specialBack hx (y := (⟨"java/lang/Record", "<init>", "()V"⟩ : MethodName)) rfl hown (mvT hZ (hw _ (List.mem_of_getElem? (i := 33) rfl))) (mvT hZ (hw _ (List.mem_of_getElem? (i := 34) rfl))) (mvT hZ (hw _ (List.mem_of_getElem? (i := 37) rfl))) (by decide) (backOf (W := 0) (rm_rec l Z a0 hw [] a h0 n0 Z0) hZ (hw _ (List.mem_of_getElem? (i := 37) rfl)) (hw _ (List.mem_of_getElem? (i := 36) rfl)) (by decide) (by decide)) (g := (mkF m 1 #[.val (.ref a), .val (.ref b), .val (.int x)] [(.ref a)])) rfl (by rw [hml]; rfl) (Steps.refl _) (a := a) (argsL := []) (rest := []) (lenOf pd_0 rfl) rfl (by show 2 * 0 + _ ≤ _; exact Nat.le_of_eq rfl) (hb hby dm_1) (fun _ _ => ⟨rfl, e0, (by decide : 0 + 0 ≤ _), (by decide : 0 + 0 ≤ _)⟩)
  dsimp only [Pt.U, Pt.locs, Pt.cells, Pt.slots] at Xc1 lc1 yc1 zc1 stc1 hQc1
  subst lc1 yc1 zc1
  have X2 := Xc1.more (cells' := 0) (slots' := 0) (by decide) (by decide)
  obtain ⟨rfl, N3, e4⟩ := hQc1
  have N5 := Fr.app N0 N3
  obtain ⟨Lo6, X7, N8⟩ : ∃ Lo_, Stand p l e ({ frames := 2, cells := 0, slots := 0, locals := 24 } : Room) s m #[(.ref a), (.ref b), (.int x)] below meth c Tc1 Lo_ 0 0 ∧ Fr n0 Lo_ := ⟨_, X2, N5⟩
  refine own_step (T' := Tc1) (g' := (mkF m 4 #[.val (.ref a), .val (.ref b), .val (.int x)] [])) (fun t_ k_ => stc1.trans k_) ?_
  refine own_step (T' := Tc1) (g' := (mkF m 5 #[.val (.ref a), .val (.ref b), .val (.int x)] [(.ref a)])) (fun t_ k_ => XS.aloadN X7.here hx rfl (hb hby dm_4) rfl rfl k_) ?_
  refine own_step (T' := Tc1) (g' := (mkF m 6 #[.val (.ref a), .val (.ref b), .val (.int x)] [(.ref b), (.ref a)])) (fun t_ k_ => XS.aloadN X7.here hx rfl (hb hby dm_5) rfl rfl k_) ?_
  obtain ⟨T9, h10, X11, e12, W13, st14⟩ := putF X7 hx hZ hown (host := "") (Or.inl (hw _ (List.mem_of_getElem? (i := 39) rfl))) Via.refl e4 F_base E_a (Or.inr ⟨(hw _ (List.mem_of_getElem? (i := 40) rfl)), rfl, hnm⟩) (hw _ (List.mem_of_getElem? (i := 28) rfl)) (ty := (.object "com/example/mandatum/mandatum/FactBase")) (by decide) rfl rfl (g := (mkF m 6 #[.val (.ref a), .val (.ref b), .val (.int x)] [(.ref b), (.ref a)])) rfl rfl (hb hby dm_6)
  have N15 := Fr.snoc X11 N8 ga
  have F16 : n0 ≤ h10.size := Nat.le_trans Z0 (Keep.of_wr W13).1
  have F17 : Exa Z h10 a "com/example/mandatum/mandatum/FactBase$Moment" := E_a.wr W13
  have F18 : Fld Z h10 a "com/example/mandatum/mandatum/FactBase$Moment" "base" "Lcom/example/mandatum/mandatum/FactBase;" (.ref b) := F_base.same W13
  have F19 : Fld Z h10 a "com/example/mandatum/mandatum/FactBase$Moment" "changes" "I" (.int f_changes) := F_changes.other W13 (Or.inr (slot_ne (C := "com/example/mandatum/mandatum/FactBase$Moment") (Or.inr (hw _ (List.mem_of_getElem? (i := 42) rfl))) (Or.inr (hw _ (List.mem_of_getElem? (i := 40) rfl))) (by decide) (t := .int) (by decide) (t' := (.object "com/example/mandatum/mandatum/FactBase")) (by decide)))
  have F20 : Keep h0 h10 [a] := (Keep.refl h0 [a]).wr W13 (Or.inl (List.mem_of_getElem? (i := 0) rfl))
  obtain ⟨Lo21, X22, N23⟩ : ∃ Lo_, Stand p l e ({ frames := 2, cells := 0, slots := 0, locals := 24 } : Room) s m #[(.ref a), (.ref b), (.int x)] below meth c T9 Lo_ 0 0 ∧ Fr n0 Lo_ := ⟨_, X11, N15⟩
  refine own_step (T' := T9) (g' := (mkF m 9 #[.val (.ref a), .val (.ref b), .val (.int x)] [])) st14 ?_
  refine own_step (T' := T9) (g' := (mkF m 10 #[.val (.ref a), .val (.ref b), .val (.int x)] [(.ref a)])) (fun t_ k_ => XS.aloadN X22.here hx rfl (hb hby dm_9) rfl rfl k_) ?_
  refine own_step (T' := T9) (g' := (mkF m 11 #[.val (.ref a), .val (.ref b), .val (.int x)] [(.int x), (.ref a)])) (fun t_ k_ => XS.iloadN X22.here hx rfl (hb hby dm_10) rfl k_) ?_
  obtain ⟨T24, h25, X26, e27, W28, st29⟩ := putF X22 hx hZ hown (host := "") (Or.inl (hw _ (List.mem_of_getElem? (i := 41) rfl))) Via.refl e12 F19 F17 (Or.inr ⟨(hw _ (List.mem_of_getElem? (i := 42) rfl)), rfl, hnm⟩) (hw _ (List.mem_of_getElem? (i := 28) rfl)) (ty := .int) (by decide) rfl rfl (g := (mkF m 11 #[.val (.ref a), .val (.ref b), .val (.int x)] [(.int x), (.ref a)])) rfl rfl (hb hby dm_11)
  have N30 := Fr.snoc X26 N23 ga
  have F31 : n0 ≤ h25.size := Nat.le_trans F16 (Keep.of_wr W28).1
  have F32 : Exa Z h25 a "com/example/mandatum/mandatum/FactBase$Moment" := F17.wr W28
  have F33 : Fld Z h25 a "com/example/mandatum/mandatum/FactBase$Moment" "base" "Lcom/example/mandatum/mandatum/FactBase;" (.ref b) := F18.other W28 (Or.inr (slot_ne (C := "com/example/mandatum/mandatum/FactBase$Moment") (Or.inr (hw _ (List.mem_of_getElem? (i := 40) rfl))) (Or.inr (hw _ (List.mem_of_getElem? (i := 42) rfl))) (by decide) (t := (.object "com/example/mandatum/mandatum/FactBase")) (by decide) (t' := .int) (by decide)))
  have F34 : Fld Z h25 a "com/example/mandatum/mandatum/FactBase$Moment" "changes" "I" (.int x) := F19.same W28
  have F35 : Keep h0 h25 [a] := F20.wr W28 (Or.inl (List.mem_of_getElem? (i := 0) rfl))
  obtain ⟨Lo36, X37, N38⟩ : ∃ Lo_, Stand p l e ({ frames := 2, cells := 0, slots := 0, locals := 24 } : Room) s m #[(.ref a), (.ref b), (.int x)] below meth c T24 Lo_ 0 0 ∧ Fr n0 Lo_ := ⟨_, X26, N30⟩
  refine own_step (T' := T24) (g' := (mkF m 14 #[.val (.ref a), .val (.ref b), .val (.int x)] [])) st29 ?_
  exact own_ret X37 hx hlk Bd.returns (hb hby dm_14) (by rw [e27]; exact ⟨rfl, N38, F35, F33, F34⟩) (by decide) (by decide)
theorem dmn_0 : decode prog_49_method_1_code 0 = .ok (.aload_n 0, 1) := by decide +kernel
theorem dmn_1 : decode prog_49_method_1_code 1 = .ok (.invokespecial 3, 3) := by decide +kernel
theorem dmn_4 : decode prog_49_method_1_code 4 = .ok (.aload_n 0, 1) := by decide +kernel
theorem dmn_5 : decode prog_49_method_1_code 5 = .ok (.aload_n 1, 1) := by decide +kernel
theorem dmn_6 : decode prog_49_method_1_code 6 = .ok (.putfield 9, 3) := by decide +kernel
theorem dmn_9 : decode prog_49_method_1_code 9 = .ok (.aload_n 0, 1) := by decide +kernel
theorem dmn_10 : decode prog_49_method_1_code 10 = .ok (.iload_n 2, 1) := by decide +kernel
theorem dmn_11 : decode prog_49_method_1_code 11 = .ok (.putfield 15, 3) := by decide +kernel
theorem dmn_14 : decode prog_49_method_1_code 14 = .ok (.return_, 1) := by decide +kernel
theorem pn_mn : plainFor (⟨"com/example/mandatum/mandatum/FactBase$Moment", "<init>", "(Lcom/example/mandatum/mandatum/FactBase;I)V"⟩ : MethodName) = true := by first | exact plainFor_of_name (by first | (simp [plainName, overriddenIn]; done) | decide +kernel) | decide +kernel
theorem ef_mn (m : MethodId) (x0 : Addr) (x2 : Int32) : entryFrame m #[(.ref x0), .null, (.int x2)] 3 = mkF m 0 #[.val (.ref x0), .val .null, .val (.int x2)] [] := by first | (simp [entryFrame, mkF, argsToLocals, Value.category]; done) | rfl
def Q_mn (Z : State) (a : Addr) (x : Int32) (h0 : Heap) (n0 : Nat) (v : Option Value) (h : Heap) (L : List Loc) : Prop := v = none ∧ Fr n0 L ∧ Keep h0 h [a] ∧ Fld Z h a "com/example/mandatum/mandatum/FactBase$Moment" "base" "Lcom/example/mandatum/mandatum/FactBase;" .null ∧ Fld Z h a "com/example/mandatum/mandatum/FactBase$Moment" "changes" "I" (.int x)
set_option maxRecDepth 65536 in
set_option maxHeartbeats 40000000 in
theorem rm_momn (l : Launch) (Z : State) (a0 : Array Value) (hw : ∀ d ∈ tables_1, d.before a0 Z = true) (ws : List Jvm.Cond) (a : Addr) (x : Int32) (f_base : Value) (f_changes : Int32) (h0 : Heap) (n0 : Nat) (Z0 : n0 ≤ h0.size) (E_a : Exa Z h0 a "com/example/mandatum/mandatum/FactBase$Moment") (F_base : Fld Z h0 a "com/example/mandatum/mandatum/FactBase$Moment" "base" "Lcom/example/mandatum/mandatum/FactBase;" f_base) (F_changes : Fld Z h0 a "com/example/mandatum/mandatum/FactBase$Moment" "changes" "I" (.int f_changes)) (ga : n0 ≤ a) :
    MetFree l (⟨"com/example/mandatum/mandatum/FactBase$Moment", "<init>", "(Lcom/example/mandatum/mandatum/FactBase;I)V"⟩ : MethodName) (head1 (Jvm.Cond.code (⟨"com/example/mandatum/mandatum/FactBase$Moment", "<init>", "(Lcom/example/mandatum/mandatum/FactBase;I)V"⟩ : MethodName) prog_49_method_1_code 3 none :: ws) ({ frames := 2, cells := 0, slots := 0, locals := 24 } : Room)) (fun as_ U => as_ = #[(.ref a), .null, (.int x)] ∧ Z.Warmed39 U.vm ∧ U.heap = h0) (fun _ _ _ _ _ => True) (fun _ U o U' => ∃ v L, o = .returned v ∧ Q_mn Z a x h0 n0 v U'.heap L ∧ FrameEnd U o U' L ({ frames := 2, cells := 0, slots := 0, locals := 24 } : Room).cells ({ frames := 2, cells := 0, slots := 0, locals := 24 } : Room).slots) := by
  refine MetFree.of_bodySF pn_mn hisR ?_
  intro p e s m args below meth c s₁ Bd hml0 hP hK
  obtain ⟨rfl, hZ, hh⟩ := hP
  have hx := Bd.exec
  have hby := Bd.bytes
  have hlk := BodyLoose.notSynchronized Bd
  have hml : c.maxLocals = 3 := hml0
  have hown : s.vm.findClass "com/example/mandatum/mandatum/FactBase$Moment" = some m.cls := findClass_of_methodNamed Bd.named
  have hnm := (name_of_methodNamed Bd.named Bd.method).1
  have X0 : Stand p l e ({ frames := 2, cells := 0, slots := 0, locals := 24 } : Room) s m #[(.ref a), .null, (.int x)] below meth c s₁ [] 0 0 := Stand.of_body Bd
  have e0 : s₁.heap = h0 := by rw [← hh, Bd.state]; rfl
  have N0 := Fr.nil n0
  refine own_in (ef_mn m a x) ?_
  show own_Fin p e below s (Q_mn Z a x h0 n0) 0 0 s₁ (mkF m 0 #[.val (.ref a), .val .null, .val (.int x)] [])
  refine own_step (T' := s₁) (g' := (mkF m 1 #[.val (.ref a), .val .null, .val (.int x)] [(.ref a)])) (fun t_ k_ => XS.aloadN X0.here hx rfl (hb hby dmn_0) rfl rfl k_) ?_
  obtain ⟨_, _, ⟨Tc1, Lc1, kc1, nc1⟩, -, Xc1, ⟨Lcc1, hQc1, lc1, yc1, zc1⟩, stc1⟩ := X0.specialBack hx (y := (⟨"java/lang/Record", "<init>", "()V"⟩ : MethodName)) rfl hown (mvT hZ (hw _ (List.mem_of_getElem? (i := 33) rfl))) (mvT hZ (hw _ (List.mem_of_getElem? (i := 34) rfl))) (mvT hZ (hw _ (List.mem_of_getElem? (i := 37) rfl))) (by decide) (backOf (W := 0) (rm_rec l Z a0 hw [] a h0 n0 Z0) hZ (hw _ (List.mem_of_getElem? (i := 37) rfl)) (hw _ (List.mem_of_getElem? (i := 36) rfl)) (by decide) (by decide)) (g := (mkF m 1 #[.val (.ref a), .val .null, .val (.int x)] [(.ref a)])) rfl (by rw [hml]; rfl) (Steps.refl _) (a := a) (argsL := []) (rest := []) (lenOf pd_0 rfl) rfl (by show 2 * 0 + _ ≤ _; exact Nat.le_of_eq rfl) (hb hby dmn_1) (fun _ _ => ⟨rfl, e0, (by decide : 0 + 0 ≤ _), (by decide : 0 + 0 ≤ _)⟩)
  dsimp only [Pt.U, Pt.locs, Pt.cells, Pt.slots] at Xc1 lc1 yc1 zc1 stc1 hQc1
  subst lc1 yc1 zc1
  have X2 := Xc1.more (cells' := 0) (slots' := 0) (by decide) (by decide)
  obtain ⟨rfl, N3, e4⟩ := hQc1
  have N5 := Fr.app N0 N3
  obtain ⟨Lo6, X7, N8⟩ : ∃ Lo_, Stand p l e ({ frames := 2, cells := 0, slots := 0, locals := 24 } : Room) s m #[(.ref a), .null, (.int x)] below meth c Tc1 Lo_ 0 0 ∧ Fr n0 Lo_ := ⟨_, X2, N5⟩
  refine own_step (T' := Tc1) (g' := (mkF m 4 #[.val (.ref a), .val .null, .val (.int x)] [])) (fun t_ k_ => stc1.trans k_) ?_
  refine own_step (T' := Tc1) (g' := (mkF m 5 #[.val (.ref a), .val .null, .val (.int x)] [(.ref a)])) (fun t_ k_ => XS.aloadN X7.here hx rfl (hb hby dmn_4) rfl rfl k_) ?_
  refine own_step (T' := Tc1) (g' := (mkF m 6 #[.val (.ref a), .val .null, .val (.int x)] [.null, (.ref a)])) (fun t_ k_ => XS.aloadN X7.here hx rfl (hb hby dmn_5) rfl rfl k_) ?_
  obtain ⟨T9, h10, X11, e12, W13, st14⟩ := putF X7 hx hZ hown (host := "") (Or.inl (hw _ (List.mem_of_getElem? (i := 39) rfl))) Via.refl e4 F_base E_a (Or.inr ⟨(hw _ (List.mem_of_getElem? (i := 40) rfl)), rfl, hnm⟩) (hw _ (List.mem_of_getElem? (i := 28) rfl)) (ty := (.object "com/example/mandatum/mandatum/FactBase")) (by decide) rfl rfl (g := (mkF m 6 #[.val (.ref a), .val .null, .val (.int x)] [.null, (.ref a)])) rfl rfl (hb hby dmn_6)
  have N15 := Fr.snoc X11 N8 ga
  have F16 : n0 ≤ h10.size := Nat.le_trans Z0 (Keep.of_wr W13).1
  have F17 : Exa Z h10 a "com/example/mandatum/mandatum/FactBase$Moment" := E_a.wr W13
  have F18 : Fld Z h10 a "com/example/mandatum/mandatum/FactBase$Moment" "base" "Lcom/example/mandatum/mandatum/FactBase;" .null := F_base.same W13
  have F19 : Fld Z h10 a "com/example/mandatum/mandatum/FactBase$Moment" "changes" "I" (.int f_changes) := F_changes.other W13 (Or.inr (slot_ne (C := "com/example/mandatum/mandatum/FactBase$Moment") (Or.inr (hw _ (List.mem_of_getElem? (i := 42) rfl))) (Or.inr (hw _ (List.mem_of_getElem? (i := 40) rfl))) (by decide) (t := .int) (by decide) (t' := (.object "com/example/mandatum/mandatum/FactBase")) (by decide)))
  have F20 : Keep h0 h10 [a] := (Keep.refl h0 [a]).wr W13 (Or.inl (List.mem_of_getElem? (i := 0) rfl))
  obtain ⟨Lo21, X22, N23⟩ : ∃ Lo_, Stand p l e ({ frames := 2, cells := 0, slots := 0, locals := 24 } : Room) s m #[(.ref a), .null, (.int x)] below meth c T9 Lo_ 0 0 ∧ Fr n0 Lo_ := ⟨_, X11, N15⟩
  refine own_step (T' := T9) (g' := (mkF m 9 #[.val (.ref a), .val .null, .val (.int x)] [])) st14 ?_
  refine own_step (T' := T9) (g' := (mkF m 10 #[.val (.ref a), .val .null, .val (.int x)] [(.ref a)])) (fun t_ k_ => XS.aloadN X22.here hx rfl (hb hby dmn_9) rfl rfl k_) ?_
  refine own_step (T' := T9) (g' := (mkF m 11 #[.val (.ref a), .val .null, .val (.int x)] [(.int x), (.ref a)])) (fun t_ k_ => XS.iloadN X22.here hx rfl (hb hby dmn_10) rfl k_) ?_
  obtain ⟨T24, h25, X26, e27, W28, st29⟩ := putF X22 hx hZ hown (host := "") (Or.inl (hw _ (List.mem_of_getElem? (i := 41) rfl))) Via.refl e12 F19 F17 (Or.inr ⟨(hw _ (List.mem_of_getElem? (i := 42) rfl)), rfl, hnm⟩) (hw _ (List.mem_of_getElem? (i := 28) rfl)) (ty := .int) (by decide) rfl rfl (g := (mkF m 11 #[.val (.ref a), .val .null, .val (.int x)] [(.int x), (.ref a)])) rfl rfl (hb hby dmn_11)
  have N30 := Fr.snoc X26 N23 ga
  have F31 : n0 ≤ h25.size := Nat.le_trans F16 (Keep.of_wr W28).1
  have F32 : Exa Z h25 a "com/example/mandatum/mandatum/FactBase$Moment" := F17.wr W28
  have F33 : Fld Z h25 a "com/example/mandatum/mandatum/FactBase$Moment" "base" "Lcom/example/mandatum/mandatum/FactBase;" .null := F18.other W28 (Or.inr (slot_ne (C := "com/example/mandatum/mandatum/FactBase$Moment") (Or.inr (hw _ (List.mem_of_getElem? (i := 40) rfl))) (Or.inr (hw _ (List.mem_of_getElem? (i := 42) rfl))) (by decide) (t := (.object "com/example/mandatum/mandatum/FactBase")) (by decide) (t' := .int) (by decide)))
  have F34 : Fld Z h25 a "com/example/mandatum/mandatum/FactBase$Moment" "changes" "I" (.int x) := F19.same W28
  have F35 : Keep h0 h25 [a] := F20.wr W28 (Or.inl (List.mem_of_getElem? (i := 0) rfl))
  obtain ⟨Lo36, X37, N38⟩ : ∃ Lo_, Stand p l e ({ frames := 2, cells := 0, slots := 0, locals := 24 } : Room) s m #[(.ref a), .null, (.int x)] below meth c T24 Lo_ 0 0 ∧ Fr n0 Lo_ := ⟨_, X26, N30⟩
  refine own_step (T' := T24) (g' := (mkF m 14 #[.val (.ref a), .val .null, .val (.int x)] [])) st29 ?_
  exact own_ret X37 hx hlk Bd.returns (hb hby dmn_14) (by rw [e27]; exact ⟨rfl, N38, F35, F33, F34⟩) (by decide) (by decide)
theorem d7_0 : decode jdk_33_method_22_code 0 = .ok (.iload_n 0, 1) := by decide +kernel
theorem d7_1 : decode jdk_33_method_22_code 1 = .ok (.bipush (-128), 2) := by decide +kernel
theorem d7_3 : decode jdk_33_method_22_code 3 = .ok (.if_icmp .lt 20, 3) := by decide +kernel
theorem d7_6 : decode jdk_33_method_22_code 6 = .ok (.iload_n 0, 1) := by decide +kernel
theorem d7_7 : decode jdk_33_method_22_code 7 = .ok (.getstatic 191, 3) := by decide +kernel
theorem d7_10 : decode jdk_33_method_22_code 10 = .ok (.if_icmp .gt 13, 3) := by decide +kernel
theorem d7_13 : decode jdk_33_method_22_code 13 = .ok (.getstatic 195, 3) := by decide +kernel
theorem d7_16 : decode jdk_33_method_22_code 16 = .ok (.iload_n 0, 1) := by decide +kernel
theorem d7_17 : decode jdk_33_method_22_code 17 = .ok (.sipush 128, 3) := by decide +kernel
theorem d7_20 : decode jdk_33_method_22_code 20 = .ok (.iadd, 1) := by decide +kernel
theorem d7_21 : decode jdk_33_method_22_code 21 = .ok (.aaload, 1) := by decide +kernel
theorem d7_22 : decode jdk_33_method_22_code 22 = .ok (.areturn, 1) := by decide +kernel
theorem d7_23 : decode jdk_33_method_22_code 23 = .ok (.new 1, 3) := by decide +kernel
theorem d7_26 : decode jdk_33_method_22_code 26 = .ok (.dup, 1) := by decide +kernel
theorem d7_27 : decode jdk_33_method_22_code 27 = .ok (.iload_n 0, 1) := by decide +kernel
theorem d7_28 : decode jdk_33_method_22_code 28 = .ok (.invokespecial 199, 3) := by decide +kernel
theorem d7_31 : decode jdk_33_method_22_code 31 = .ok (.areturn, 1) := by decide +kernel
theorem pn_7 : plainFor (⟨"java/lang/Integer", "valueOf", "(I)Ljava/lang/Integer;"⟩ : MethodName) = true := by first | exact plainFor_of_name (by first | (simp [plainName, overriddenIn]; done) | decide +kernel) | decide +kernel
theorem ef_7 (m : MethodId) (x0 : Int32) : entryFrame m #[(.int x0)] 1 = mkF m 0 #[.val (.int x0)] [] := by first | (simp [entryFrame, mkF, argsToLocals, Value.category]; done) | rfl
def Q_7 (Z : State) (h0 : Heap) (n0 : Nat) (v : Option Value) (h : Heap) (L : List Loc) : Prop := ∃ r : Addr, v = some (.ref r) ∧ Fr n0 L ∧ Keep h0 h [] ∧ Exa Z h r "java/lang/Integer"
set_option maxRecDepth 65536 in
set_option maxHeartbeats 40000000 in
theorem rm_val (l : Launch) (Z : State) (a0 : Array Value) (hw : ∀ d ∈ tables_1, d.before a0 Z = true) (ws : List Jvm.Cond) (x : Int32) (cc : Addr) (cl : Cell) (h0 : Heap) (n0 : Nat) (Z0 : n0 ≤ h0.size) (O0 : Old Z n0 h0) (SH : Sta Z Z.heap "java/lang/Integer$IntegerCache" "high" "I" (.int (127 : Int32))) (SC : Sta Z Z.heap "java/lang/Integer$IntegerCache" "cache" "[Ljava/lang/Integer;" (.ref cc)) (AC : Arr Z Z.heap cc cl (.object "java/lang/Integer")) (hsz : cl.slots.size = 256) (hel : ∀ j, j < 256 → ∃ r, cl.slots[j]? = some (.ref r) ∧ Exa Z Z.heap r "java/lang/Integer") :
    MetFree l (⟨"java/lang/Integer", "valueOf", "(I)Ljava/lang/Integer;"⟩ : MethodName) (head1 (Jvm.Cond.code (⟨"java/lang/Integer", "valueOf", "(I)Ljava/lang/Integer;"⟩ : MethodName) jdk_33_method_22_code 1 (some (.object "java/lang/Integer")) :: ws) ({ frames := 3, cells := 1, slots := 1, locals := 40 } : Room)) (fun as_ U => as_ = #[(.int x)] ∧ Z.Warmed39 U.vm ∧ U.heap = h0) (fun _ _ _ _ _ => True) (fun _ U o U' => ∃ v L, o = .returned v ∧ Q_7 Z h0 n0 v U'.heap L ∧ FrameEnd U o U' L ({ frames := 3, cells := 1, slots := 1, locals := 40 } : Room).cells ({ frames := 3, cells := 1, slots := 1, locals := 40 } : Room).slots) := by
  refine MetFree.of_bodySF pn_7 hisR ?_
  intro p e s m args below meth c s₁ Bd hml0 hP hK
  obtain ⟨rfl, hZ, hh⟩ := hP
  have hx := Bd.exec
  have hby := Bd.bytes
  have hlk := BodyLoose.notSynchronized Bd
  have hml : c.maxLocals = 1 := hml0
  have hown : s.vm.findClass "java/lang/Integer" = some m.cls := findClass_of_methodNamed Bd.named
  have hnm := (name_of_methodNamed Bd.named Bd.method).1
  have X0 : Stand p l e ({ frames := 3, cells := 1, slots := 1, locals := 40 } : Room) s m #[(.int x)] below meth c s₁ [] 0 0 := Stand.of_body Bd
  have e0 : s₁.heap = h0 := by rw [← hh, Bd.state]; rfl
  have N0 := Fr.nil n0
  refine own_in (ef_7 m x) ?_
  show own_Fin p e below s (Q_7 Z h0 n0) 1 1 s₁ (mkF m 0 #[.val (.int x)] [])
  refine own_step (T' := s₁) (g' := (mkF m 1 #[.val (.int x)] [(.int x)])) (fun t_ k_ => XS.iloadN X0.here hx rfl (hb hby d7_0) rfl k_) ?_
  refine own_step (T' := s₁) (g' := (mkF m 3 #[.val (.int x)] [(.int (-128 : Int32)), (.int x)])) (fun t_ k_ => XT.bipushV X0.here hx rfl (-128 : Int32) (hb hby d7_1) (by decide) k_) ?_
  by_cases hb1 : x < (-128 : Int32)
  · refine own_step (T' := s₁) (g' := (mkF m 23 #[.val (.int x)] [])) (fun t_ k_ => XS.icmpYes X0.here hx rfl (pc0 := 3) (pc' := 23) rfl (hb hby d7_3) rfl (XT.ii_lt_t hb1) (by decide) (by decide) k_) ?_
    obtain ⟨T2, h3, X4, e5, E6, A7, D8, -, st9⟩ := newO X0 hx hZ hown (hw _ (List.mem_of_getElem? (i := 60) rfl)) (hw _ (List.mem_of_getElem? (i := 61) rfl)) (hw _ (List.mem_of_getElem? (i := 52) rfl)) e0 (g := (mkF m 23 #[.val (.int x)] [])) rfl (hb hby d7_23) (by decide) (by decide)
    obtain ⟨a10, g11⟩ : ∃ z, z = h0.size := ⟨_, rfl⟩
    rw [← g11] at A7 D8 st9
    have q12 : n0 ≤ a10 := Nat.le_trans Z0 (Nat.le_of_eq g11.symm)
    have F13 : n0 ≤ h3.size := Nat.le_trans Z0 E6.1
    have F14 : Old Z n0 h3 := O0.ext E6
    have F15 : Keep h0 h3 [] := (Keep.refl h0 []).ext E6
    have F16 : Fld Z h3 a10 "java/lang/Integer" "value" "I" (.int (0 : Int32)) := D8 (Or.inr (hw _ (List.mem_of_getElem? (i := 74) rfl))) (ty := .int) (by decide)
    refine own_step (T' := T2) (g' := (mkF m 26 #[.val (.int x)] [(.ref a10)])) st9 ?_
    refine own_step (T' := T2) (g' := (mkF m 27 #[.val (.int x)] [(.ref a10), (.ref a10)])) (fun t_ k_ => XS.dup X4.here hx rfl (hb hby d7_26) rfl rfl k_) ?_
    refine own_step (T' := T2) (g' := (mkF m 28 #[.val (.int x)] [(.int x), (.ref a10), (.ref a10)])) (fun t_ k_ => XS.iloadN X4.here hx rfl (hb hby d7_27) rfl k_) ?_
    obtain ⟨_, _, ⟨Tc17, Lc17, kc17, nc17⟩, -, Xc17, ⟨Lcc17, hQc17, lc17, yc17, zc17⟩, stc17⟩ := X4.specialBack hx (y := (⟨"java/lang/Integer", "<init>", "(I)V"⟩ : MethodName)) rfl hown (mvT hZ (hw _ (List.mem_of_getElem? (i := 62) rfl))) (mvT hZ (hw _ (List.mem_of_getElem? (i := 63) rfl))) (mvT hZ (hw _ (List.mem_of_getElem? (i := 65) rfl))) (by decide) (backOf (W := 1) (rm_int l Z a0 hw [] a10 x (0 : Int32) h3 n0 F13 A7 F16 q12) hZ (hw _ (List.mem_of_getElem? (i := 65) rfl)) (hw _ (List.mem_of_getElem? (i := 52) rfl)) (by decide) (by decide)) (g := (mkF m 28 #[.val (.int x)] [(.int x), (.ref a10), (.ref a10)])) rfl (by rw [hml]; rfl) (Steps.refl _) (a := a10) (argsL := [(.int x)]) (rest := [(.ref a10)]) (lenOf pd_1 rfl) rfl (by show 2 * 0 + _ ≤ _; exact Nat.le_of_eq rfl) (hb hby d7_28) (fun _ _ => ⟨rfl, e5, (by decide : 1 + 0 ≤ _), (by decide : 1 + 0 ≤ _)⟩)
    dsimp only [Pt.U, Pt.locs, Pt.cells, Pt.slots] at Xc17 lc17 yc17 zc17 stc17 hQc17
    subst lc17 yc17 zc17
    have X18 := Xc17.more (cells' := 1) (slots' := 1) (by decide) (by decide)
    obtain ⟨rfl, N19, K20⟩ := hQc17
    have N21 := Fr.app N0 N19
    have F22 : n0 ≤ Tc17.heap.size := Nat.le_trans F13 K20.1
    have F23 : Old Z n0 Tc17.heap := F14.keep K20 (allS q12 all0)
    have F24 : Keep h0 Tc17.heap [] := F15.trans K20 (allS (Or.inr (Nat.le_trans (Keep.refl h0 []).1 (Nat.le_of_eq g11.symm))) all0)
    have F25 : Exa Z Tc17.heap a10 "java/lang/Integer" := A7.keep K20
    obtain ⟨Lo26, X27, N28⟩ : ∃ Lo_, Stand p l e ({ frames := 3, cells := 1, slots := 1, locals := 40 } : Room) s m #[(.int x)] below meth c Tc17 Lo_ 1 1 ∧ Fr n0 Lo_ := ⟨_, X18, N21⟩
    refine own_step (T' := Tc17) (g' := (mkF m 31 #[.val (.int x)] [(.ref a10)])) (fun t_ k_ => stc17.trans k_) ?_
    exact own_retA X27 hx hlk Bd.returns rfl rfl (hb hby d7_31) (by exact ⟨_, rfl, N28, F24, F25⟩) (by decide) (by decide)
  · refine own_step (T' := s₁) (g' := (mkF m 6 #[.val (.int x)] [])) (fun t_ k_ => XS.icmpNo X0.here hx rfl (hb hby d7_3) rfl (XT.ii_lt_f hb1) k_) ?_
    refine own_step (T' := s₁) (g' := (mkF m 7 #[.val (.int x)] [(.int x)])) (fun t_ k_ => XS.iloadN X0.here hx rfl (hb hby d7_6) rfl k_) ?_
    obtain ⟨T29, X30, e31, st32⟩ := getS2 (host := "") X0 hx hZ hown (Or.inl (hw _ (List.mem_of_getElem? (i := 54) rfl))) Via.refl e0 (SH.ext O0.2) (g := (mkF m 7 #[.val (.int x)] [(.int x)])) rfl (hb hby d7_7)
    refine own_step (T' := T29) (g' := (mkF m 10 #[.val (.int x)] [(.int (127 : Int32)), (.int x)])) st32 ?_
    by_cases hb33 : (127 : Int32) < x
    · refine own_step (T' := T29) (g' := (mkF m 23 #[.val (.int x)] [])) (fun t_ k_ => XS.icmpYes X30.here hx rfl (pc0 := 10) (pc' := 23) rfl (hb hby d7_10) rfl (XT.ii_gt_t hb33) (by decide) (by decide) k_) ?_
      obtain ⟨T34, h35, X36, e37, E38, A39, D40, -, st41⟩ := newO X30 hx hZ hown (hw _ (List.mem_of_getElem? (i := 60) rfl)) (hw _ (List.mem_of_getElem? (i := 61) rfl)) (hw _ (List.mem_of_getElem? (i := 52) rfl)) e31 (g := (mkF m 23 #[.val (.int x)] [])) rfl (hb hby d7_23) (by decide) (by decide)
      obtain ⟨a42, g43⟩ : ∃ z, z = h0.size := ⟨_, rfl⟩
      rw [← g43] at A39 D40 st41
      have q44 : n0 ≤ a42 := Nat.le_trans Z0 (Nat.le_of_eq g43.symm)
      have F45 : n0 ≤ h35.size := Nat.le_trans Z0 E38.1
      have F46 : Old Z n0 h35 := O0.ext E38
      have F47 : Keep h0 h35 [] := (Keep.refl h0 []).ext E38
      have F48 : Fld Z h35 a42 "java/lang/Integer" "value" "I" (.int (0 : Int32)) := D40 (Or.inr (hw _ (List.mem_of_getElem? (i := 74) rfl))) (ty := .int) (by decide)
      refine own_step (T' := T34) (g' := (mkF m 26 #[.val (.int x)] [(.ref a42)])) st41 ?_
      refine own_step (T' := T34) (g' := (mkF m 27 #[.val (.int x)] [(.ref a42), (.ref a42)])) (fun t_ k_ => XS.dup X36.here hx rfl (hb hby d7_26) rfl rfl k_) ?_
      refine own_step (T' := T34) (g' := (mkF m 28 #[.val (.int x)] [(.int x), (.ref a42), (.ref a42)])) (fun t_ k_ => XS.iloadN X36.here hx rfl (hb hby d7_27) rfl k_) ?_
      obtain ⟨_, _, ⟨Tc49, Lc49, kc49, nc49⟩, -, Xc49, ⟨Lcc49, hQc49, lc49, yc49, zc49⟩, stc49⟩ := X36.specialBack hx (y := (⟨"java/lang/Integer", "<init>", "(I)V"⟩ : MethodName)) rfl hown (mvT hZ (hw _ (List.mem_of_getElem? (i := 62) rfl))) (mvT hZ (hw _ (List.mem_of_getElem? (i := 63) rfl))) (mvT hZ (hw _ (List.mem_of_getElem? (i := 65) rfl))) (by decide) (backOf (W := 1) (rm_int l Z a0 hw [] a42 x (0 : Int32) h35 n0 F45 A39 F48 q44) hZ (hw _ (List.mem_of_getElem? (i := 65) rfl)) (hw _ (List.mem_of_getElem? (i := 52) rfl)) (by decide) (by decide)) (g := (mkF m 28 #[.val (.int x)] [(.int x), (.ref a42), (.ref a42)])) rfl (by rw [hml]; rfl) (Steps.refl _) (a := a42) (argsL := [(.int x)]) (rest := [(.ref a42)]) (lenOf pd_1 rfl) rfl (by show 2 * 0 + _ ≤ _; exact Nat.le_of_eq rfl) (hb hby d7_28) (fun _ _ => ⟨rfl, e37, (by decide : 1 + 0 ≤ _), (by decide : 1 + 0 ≤ _)⟩)
      dsimp only [Pt.U, Pt.locs, Pt.cells, Pt.slots] at Xc49 lc49 yc49 zc49 stc49 hQc49
      subst lc49 yc49 zc49
      have X50 := Xc49.more (cells' := 1) (slots' := 1) (by decide) (by decide)
      obtain ⟨rfl, N51, K52⟩ := hQc49
      have N53 := Fr.app N0 N51
      have F54 : n0 ≤ Tc49.heap.size := Nat.le_trans F45 K52.1
      have F55 : Old Z n0 Tc49.heap := F46.keep K52 (allS q44 all0)
      have F56 : Keep h0 Tc49.heap [] := F47.trans K52 (allS (Or.inr (Nat.le_trans (Keep.refl h0 []).1 (Nat.le_of_eq g43.symm))) all0)
      have F57 : Exa Z Tc49.heap a42 "java/lang/Integer" := A39.keep K52
      obtain ⟨Lo58, X59, N60⟩ : ∃ Lo_, Stand p l e ({ frames := 3, cells := 1, slots := 1, locals := 40 } : Room) s m #[(.int x)] below meth c Tc49 Lo_ 1 1 ∧ Fr n0 Lo_ := ⟨_, X50, N53⟩
      refine own_step (T' := Tc49) (g' := (mkF m 31 #[.val (.int x)] [(.ref a42)])) (fun t_ k_ => stc49.trans k_) ?_
      exact own_retA X59 hx hlk Bd.returns rfl rfl (hb hby d7_31) (by exact ⟨_, rfl, N60, F56, F57⟩) (by decide) (by decide)
    · refine own_step (T' := T29) (g' := (mkF m 13 #[.val (.int x)] [])) (fun t_ k_ => XS.icmpNo X30.here hx rfl (hb hby d7_10) rfl (XT.ii_gt_f hb33) k_) ?_
      obtain ⟨T61, X62, e63, st64⟩ := getS2 (host := "") X30 hx hZ hown (Or.inl (hw _ (List.mem_of_getElem? (i := 56) rfl))) Via.refl e31 (SC.ext O0.2) (g := (mkF m 13 #[.val (.int x)] [])) rfl (hb hby d7_13)
      refine own_step (T' := T61) (g' := (mkF m 16 #[.val (.int x)] [(.ref cc)])) st64 ?_
      refine own_step (T' := T61) (g' := (mkF m 17 #[.val (.int x)] [(.int x), (.ref cc)])) (fun t_ k_ => XS.iloadN X62.here hx rfl (hb hby d7_16) rfl k_) ?_
      refine own_step (T' := T61) (g' := (mkF m 20 #[.val (.int x)] [(.int (128 : Int32)), (.int x), (.ref cc)])) (fun t_ k_ => XT.sipushV X62.here hx rfl (128 : Int32) (hb hby d7_17) (by decide) k_) ?_
      refine own_step (T' := T61) (g' := (mkF m 21 #[.val (.int x)] [(.int (x + (128 : Int32))), (.ref cc)])) (fun t_ k_ => XS.iadd X62.here hx rfl (hb hby d7_20) rfl k_) ?_
      have hi := own_idx hb1 hb33
      obtain ⟨r65, hr66, Er67⟩ := hel _ hi.2
      have st68 := X62.aaload (g := (mkF m 21 #[.val (.int x)] [(.int (x + (128 : Int32))), (.ref cc)])) hx (by rw [e63]; exact (AC.ext O0.2).1) (State.isArrayOf_alike hZ.alike AC.2.1) rfl AC.2.2 (by rw [hsz]; exact fun q => q.elim hi.1 (Nat.not_le.mpr hi.2)) hr66 rfl rfl (hb hby d7_21)
      refine own_step (T' := T61) (g' := (mkF m 22 #[.val (.int x)] [(.ref r65)])) st68 ?_
      exact own_retA X62 hx hlk Bd.returns rfl rfl (hb hby d7_22) (by rw [e63]; exact ⟨_, rfl, N0, (Keep.refl h0 []), (Er67.ext O0.2)⟩) (by decide) (by decide)
theorem den_0 : decode prog_49_method_3_code 0 = .ok (.aload_n 1, 1) := by decide +kernel
theorem den_1 : decode prog_49_method_3_code 1 = .ok (.instanceof 10, 3) := by decide +kernel
theorem den_4 : decode prog_49_method_3_code 4 = .ok (.ifCond .eq 34, 3) := by decide +kernel
theorem den_7 : decode prog_49_method_3_code 7 = .ok (.aload_n 1, 1) := by decide +kernel
theorem den_8 : decode prog_49_method_3_code 8 = .ok (.checkcast 10, 3) := by decide +kernel
theorem den_11 : decode prog_49_method_3_code 11 = .ok (.astore_n 2, 1) := by decide +kernel
theorem den_12 : decode prog_49_method_3_code 12 = .ok (.aload_n 0, 1) := by decide +kernel
theorem den_13 : decode prog_49_method_3_code 13 = .ok (.getfield 9, 3) := by decide +kernel
theorem den_16 : decode prog_49_method_3_code 16 = .ok (.aload_n 2, 1) := by decide +kernel
theorem den_17 : decode prog_49_method_3_code 17 = .ok (.getfield 9, 3) := by decide +kernel
theorem den_20 : decode prog_49_method_3_code 20 = .ok (.if_acmp .ne 18, 3) := by decide +kernel
theorem den_23 : decode prog_49_method_3_code 23 = .ok (.aload_n 0, 1) := by decide +kernel
theorem den_24 : decode prog_49_method_3_code 24 = .ok (.getfield 15, 3) := by decide +kernel
theorem den_27 : decode prog_49_method_3_code 27 = .ok (.aload_n 2, 1) := by decide +kernel
theorem den_28 : decode prog_49_method_3_code 28 = .ok (.getfield 15, 3) := by decide +kernel
theorem den_31 : decode prog_49_method_3_code 31 = .ok (.if_icmp .ne 7, 3) := by decide +kernel
theorem den_34 : decode prog_49_method_3_code 34 = .ok (.iconst 1, 1) := by decide +kernel
theorem den_35 : decode prog_49_method_3_code 35 = .ok (.goto 4, 3) := by decide +kernel
theorem den_38 : decode prog_49_method_3_code 38 = .ok (.iconst 0, 1) := by decide +kernel
theorem den_39 : decode prog_49_method_3_code 39 = .ok (.ireturn, 1) := by decide +kernel
theorem pn_en : plainFor (⟨"com/example/mandatum/mandatum/FactBase$Moment", "equals", "(Ljava/lang/Object;)Z"⟩ : MethodName) = true := by first | exact plainFor_of_name (by first | (simp [plainName, overriddenIn]; done) | decide +kernel) | decide +kernel
theorem ef_en (m : MethodId) (x0 : Addr) : entryFrame m #[(.ref x0), .null] 3 = mkF m 0 #[.val (.ref x0), .val .null, .unset] [] := by first | (simp [entryFrame, mkF, argsToLocals, Value.category]; done) | rfl
def Q_en (h0 : Heap) (n0 : Nat) (v : Option Value) (h : Heap) (L : List Loc) : Prop := v = some (.int (0 : Int32)) ∧ Fr n0 L ∧ h = h0
set_option maxRecDepth 65536 in
set_option maxHeartbeats 40000000 in
theorem rm_eqn (l : Launch) (Z : State) (a0 : Array Value) (hw : ∀ d ∈ tables_1, d.before a0 Z = true) (ws : List Jvm.Cond) (a : Addr) (h0 : Heap) (n0 : Nat) (Z0 : n0 ≤ h0.size)  :
    MetFree l (⟨"com/example/mandatum/mandatum/FactBase$Moment", "equals", "(Ljava/lang/Object;)Z"⟩ : MethodName) (head1 (Jvm.Cond.code (⟨"com/example/mandatum/mandatum/FactBase$Moment", "equals", "(Ljava/lang/Object;)Z"⟩ : MethodName) prog_49_method_3_code 3 (some .boolean) :: ws) ({ frames := 0, cells := 0, slots := 0, locals := 0 } : Room)) (fun as_ U => as_ = #[(.ref a), .null] ∧ Z.Warmed39 U.vm ∧ U.heap = h0) (fun _ _ _ _ _ => True) (fun _ U o U' => ∃ v L, o = .returned v ∧ Q_en h0 n0 v U'.heap L ∧ FrameEnd U o U' L ({ frames := 0, cells := 0, slots := 0, locals := 0 } : Room).cells ({ frames := 0, cells := 0, slots := 0, locals := 0 } : Room).slots) := by
  refine MetFree.of_bodySF pn_en hisR ?_
  intro p e s m args below meth c s₁ Bd hml0 hP hK
  obtain ⟨rfl, hZ, hh⟩ := hP
  have hx := Bd.exec
  have hby := Bd.bytes
  have hlk := BodyLoose.notSynchronized Bd
  have hml : c.maxLocals = 3 := hml0
  have hown : s.vm.findClass "com/example/mandatum/mandatum/FactBase$Moment" = some m.cls := findClass_of_methodNamed Bd.named
  have hnm := (name_of_methodNamed Bd.named Bd.method).1
  have X0 : Stand p l e ({ frames := 0, cells := 0, slots := 0, locals := 0 } : Room) s m #[(.ref a), .null] below meth c s₁ [] 0 0 := Stand.of_body Bd
  have e0 : s₁.heap = h0 := by rw [← hh, Bd.state]; rfl
  have N0 := Fr.nil n0
  refine own_in (ef_en m a) ?_
  show own_Fin p e below s (Q_en h0 n0) 0 0 s₁ (mkF m 0 #[.val (.ref a), .val .null, .unset] [])
  refine own_step (T' := s₁) (g' := (mkF m 1 #[.val (.ref a), .val .null, .unset] [.null])) (fun t_ k_ => XS.aloadN X0.here hx rfl (hb hby den_0) rfl rfl k_) ?_
  have st1 := Stand.instanceofNull (g := (mkF m 1 #[.val (.ref a), .val .null, .unset] [.null])) X0 hx rfl rfl (hb hby den_1)
  refine own_step (T' := s₁) (g' := (mkF m 4 #[.val (.ref a), .val .null, .unset] [(.int (0 : Int32))])) st1 ?_
  have hk2 : (0 : Int32) = 0 := rfl
  refine own_step (T' := s₁) (g' := (mkF m 38 #[.val (.ref a), .val .null, .unset] [])) (fun t_ k_ => XS.ifYes X0.here hx rfl (pc0 := 4) (pc' := 38) rfl (hb hby den_4) rfl (XT.i0_eq_t hk2) (by decide) (by decide) k_) ?_
  refine own_step (T' := s₁) (g' := (mkF m 39 #[.val (.ref a), .val .null, .unset] [(.int (0 : Int32))])) (fun t_ k_ => XT.iconstV X0.here hx rfl (0 : Int32) (hb hby den_38) (by decide) k_) ?_
  exact own_retN X0 hx hlk (t := .boolean) Bd.returns (by simp) (hb hby den_39) (by rw [e0]; exact ⟨rfl, N0, rfl⟩) (by decide) (by decide)
theorem dei_0 : decode prog_49_method_3_code 0 = .ok (.aload_n 1, 1) := by decide +kernel
theorem dei_1 : decode prog_49_method_3_code 1 = .ok (.instanceof 10, 3) := by decide +kernel
theorem dei_4 : decode prog_49_method_3_code 4 = .ok (.ifCond .eq 34, 3) := by decide +kernel
theorem dei_7 : decode prog_49_method_3_code 7 = .ok (.aload_n 1, 1) := by decide +kernel
theorem dei_8 : decode prog_49_method_3_code 8 = .ok (.checkcast 10, 3) := by decide +kernel
theorem dei_11 : decode prog_49_method_3_code 11 = .ok (.astore_n 2, 1) := by decide +kernel
theorem dei_12 : decode prog_49_method_3_code 12 = .ok (.aload_n 0, 1) := by decide +kernel
theorem dei_13 : decode prog_49_method_3_code 13 = .ok (.getfield 9, 3) := by decide +kernel
theorem dei_16 : decode prog_49_method_3_code 16 = .ok (.aload_n 2, 1) := by decide +kernel
theorem dei_17 : decode prog_49_method_3_code 17 = .ok (.getfield 9, 3) := by decide +kernel
theorem dei_20 : decode prog_49_method_3_code 20 = .ok (.if_acmp .ne 18, 3) := by decide +kernel
theorem dei_23 : decode prog_49_method_3_code 23 = .ok (.aload_n 0, 1) := by decide +kernel
theorem dei_24 : decode prog_49_method_3_code 24 = .ok (.getfield 15, 3) := by decide +kernel
theorem dei_27 : decode prog_49_method_3_code 27 = .ok (.aload_n 2, 1) := by decide +kernel
theorem dei_28 : decode prog_49_method_3_code 28 = .ok (.getfield 15, 3) := by decide +kernel
theorem dei_31 : decode prog_49_method_3_code 31 = .ok (.if_icmp .ne 7, 3) := by decide +kernel
theorem dei_34 : decode prog_49_method_3_code 34 = .ok (.iconst 1, 1) := by decide +kernel
theorem dei_35 : decode prog_49_method_3_code 35 = .ok (.goto 4, 3) := by decide +kernel
theorem dei_38 : decode prog_49_method_3_code 38 = .ok (.iconst 0, 1) := by decide +kernel
theorem dei_39 : decode prog_49_method_3_code 39 = .ok (.ireturn, 1) := by decide +kernel
theorem pn_ei : plainFor (⟨"com/example/mandatum/mandatum/FactBase$Moment", "equals", "(Ljava/lang/Object;)Z"⟩ : MethodName) = true := by first | exact plainFor_of_name (by first | (simp [plainName, overriddenIn]; done) | decide +kernel) | decide +kernel
theorem ef_ei (m : MethodId) (x0 : Addr) (x1 : Addr) : entryFrame m #[(.ref x0), (.ref x1)] 3 = mkF m 0 #[.val (.ref x0), .val (.ref x1), .unset] [] := by first | (simp [entryFrame, mkF, argsToLocals, Value.category]; done) | rfl
def Q_ei (h0 : Heap) (n0 : Nat) (v : Option Value) (h : Heap) (L : List Loc) : Prop := v = some (.int (0 : Int32)) ∧ Fr n0 L ∧ h = h0
set_option maxRecDepth 65536 in
set_option maxHeartbeats 40000000 in
theorem rm_eqi (l : Launch) (Z : State) (a0 : Array Value) (hw : ∀ d ∈ tables_1, d.before a0 Z = true) (ws : List Jvm.Cond) (a b : Addr) (h0 : Heap) (n0 : Nat) (Z0 : n0 ≤ h0.size) (E_b : Exa Z h0 b "java/lang/Integer") :
    MetFree l (⟨"com/example/mandatum/mandatum/FactBase$Moment", "equals", "(Ljava/lang/Object;)Z"⟩ : MethodName) (head1 (Jvm.Cond.code (⟨"com/example/mandatum/mandatum/FactBase$Moment", "equals", "(Ljava/lang/Object;)Z"⟩ : MethodName) prog_49_method_3_code 3 (some .boolean) :: ws) ({ frames := 0, cells := 0, slots := 0, locals := 0 } : Room)) (fun as_ U => as_ = #[(.ref a), (.ref b)] ∧ Z.Warmed39 U.vm ∧ U.heap = h0) (fun _ _ _ _ _ => True) (fun _ U o U' => ∃ v L, o = .returned v ∧ Q_ei h0 n0 v U'.heap L ∧ FrameEnd U o U' L ({ frames := 0, cells := 0, slots := 0, locals := 0 } : Room).cells ({ frames := 0, cells := 0, slots := 0, locals := 0 } : Room).slots) := by
  refine MetFree.of_bodySF pn_ei hisR ?_
  intro p e s m args below meth c s₁ Bd hml0 hP hK
  obtain ⟨rfl, hZ, hh⟩ := hP
  have hx := Bd.exec
  have hby := Bd.bytes
  have hlk := BodyLoose.notSynchronized Bd
  have hml : c.maxLocals = 3 := hml0
  have hown : s.vm.findClass "com/example/mandatum/mandatum/FactBase$Moment" = some m.cls := findClass_of_methodNamed Bd.named
  have hnm := (name_of_methodNamed Bd.named Bd.method).1
  have X0 : Stand p l e ({ frames := 0, cells := 0, slots := 0, locals := 0 } : Room) s m #[(.ref a), (.ref b)] below meth c s₁ [] 0 0 := Stand.of_body Bd
  have e0 : s₁.heap = h0 := by rw [← hh, Bd.state]; rfl
  have N0 := Fr.nil n0
  refine own_in (ef_ei m a b) ?_
  show own_Fin p e below s (Q_ei h0 n0) 0 0 s₁ (mkF m 0 #[.val (.ref a), .val (.ref b), .unset] [])
  refine own_step (T' := s₁) (g' := (mkF m 1 #[.val (.ref a), .val (.ref b), .unset] [(.ref b)])) (fun t_ k_ => XS.aloadN X0.here hx rfl (hb hby dei_0) rfl rfl k_) ?_
  obtain ⟨T1, X2, e3, st4⟩ := instNo X0 hx hZ hown (hw _ (List.mem_of_getElem? (i := 48) rfl)) e0 E_b (own_no (hw _ (List.mem_of_getElem? (i := 57) rfl)) (hw _ (List.mem_of_getElem? (i := 58) rfl)) (hw _ (List.mem_of_getElem? (i := 59) rfl)) (hw _ (List.mem_of_getElem? (i := 28) rfl)) (by decide) (by decide) (by decide)) (g := (mkF m 1 #[.val (.ref a), .val (.ref b), .unset] [(.ref b)])) rfl rfl (hb hby dei_1)
  refine own_step (T' := T1) (g' := (mkF m 4 #[.val (.ref a), .val (.ref b), .unset] [(.int (0 : Int32))])) st4 ?_
  have hk5 : (0 : Int32) = 0 := rfl
  refine own_step (T' := T1) (g' := (mkF m 38 #[.val (.ref a), .val (.ref b), .unset] [])) (fun t_ k_ => XS.ifYes X2.here hx rfl (pc0 := 4) (pc' := 38) rfl (hb hby dei_4) rfl (XT.i0_eq_t hk5) (by decide) (by decide) k_) ?_
  refine own_step (T' := T1) (g' := (mkF m 39 #[.val (.ref a), .val (.ref b), .unset] [(.int (0 : Int32))])) (fun t_ k_ => XT.iconstV X2.here hx rfl (0 : Int32) (hb hby dei_38) (by decide) k_) ?_
  exact own_retN X2 hx hlk (t := .boolean) Bd.returns (by simp) (hb hby dei_39) (by rw [e3]; exact ⟨rfl, N0, rfl⟩) (by decide) (by decide)
theorem dem_0 : decode prog_49_method_3_code 0 = .ok (.aload_n 1, 1) := by decide +kernel
theorem dem_1 : decode prog_49_method_3_code 1 = .ok (.instanceof 10, 3) := by decide +kernel
theorem dem_4 : decode prog_49_method_3_code 4 = .ok (.ifCond .eq 34, 3) := by decide +kernel
theorem dem_7 : decode prog_49_method_3_code 7 = .ok (.aload_n 1, 1) := by decide +kernel
theorem dem_8 : decode prog_49_method_3_code 8 = .ok (.checkcast 10, 3) := by decide +kernel
theorem dem_11 : decode prog_49_method_3_code 11 = .ok (.astore_n 2, 1) := by decide +kernel
theorem dem_12 : decode prog_49_method_3_code 12 = .ok (.aload_n 0, 1) := by decide +kernel
theorem dem_13 : decode prog_49_method_3_code 13 = .ok (.getfield 9, 3) := by decide +kernel
theorem dem_16 : decode prog_49_method_3_code 16 = .ok (.aload_n 2, 1) := by decide +kernel
theorem dem_17 : decode prog_49_method_3_code 17 = .ok (.getfield 9, 3) := by decide +kernel
theorem dem_20 : decode prog_49_method_3_code 20 = .ok (.if_acmp .ne 18, 3) := by decide +kernel
theorem dem_23 : decode prog_49_method_3_code 23 = .ok (.aload_n 0, 1) := by decide +kernel
theorem dem_24 : decode prog_49_method_3_code 24 = .ok (.getfield 15, 3) := by decide +kernel
theorem dem_27 : decode prog_49_method_3_code 27 = .ok (.aload_n 2, 1) := by decide +kernel
theorem dem_28 : decode prog_49_method_3_code 28 = .ok (.getfield 15, 3) := by decide +kernel
theorem dem_31 : decode prog_49_method_3_code 31 = .ok (.if_icmp .ne 7, 3) := by decide +kernel
theorem dem_34 : decode prog_49_method_3_code 34 = .ok (.iconst 1, 1) := by decide +kernel
theorem dem_35 : decode prog_49_method_3_code 35 = .ok (.goto 4, 3) := by decide +kernel
theorem dem_38 : decode prog_49_method_3_code 38 = .ok (.iconst 0, 1) := by decide +kernel
theorem dem_39 : decode prog_49_method_3_code 39 = .ok (.ireturn, 1) := by decide +kernel
theorem pn_em : plainFor (⟨"com/example/mandatum/mandatum/FactBase$Moment", "equals", "(Ljava/lang/Object;)Z"⟩ : MethodName) = true := by first | exact plainFor_of_name (by first | (simp [plainName, overriddenIn]; done) | decide +kernel) | decide +kernel
theorem ef_em (m : MethodId) (x0 : Addr) (x1 : Addr) : entryFrame m #[(.ref x0), (.ref x1)] 3 = mkF m 0 #[.val (.ref x0), .val (.ref x1), .unset] [] := by first | (simp [entryFrame, mkF, argsToLocals, Value.category]; done) | rfl
def Q_em (b1 : Addr) (b2 : Addr) (x1 x2 : Int32) (h0 : Heap) (n0 : Nat) (v : Option Value) (h : Heap) (L : List Loc) : Prop := v = some (.int (if b1 = b2 then (if x1 = x2 then (1 : Int32) else (0 : Int32)) else (0 : Int32))) ∧ Fr n0 L ∧ h = h0
set_option maxRecDepth 65536 in
set_option maxHeartbeats 40000000 in
theorem rm_eqm (l : Launch) (Z : State) (a0 : Array Value) (hw : ∀ d ∈ tables_1, d.before a0 Z = true) (ws : List Jvm.Cond) (a b b1 : Addr) (b2 : Addr) (x1 x2 : Int32) (h0 : Heap) (n0 : Nat) (Z0 : n0 ≤ h0.size) (E_b : Exa Z h0 b "com/example/mandatum/mandatum/FactBase$Moment") (Fab : Fld Z h0 a "com/example/mandatum/mandatum/FactBase$Moment" "base" "Lcom/example/mandatum/mandatum/FactBase;" (.ref b1)) (Fac : Fld Z h0 a "com/example/mandatum/mandatum/FactBase$Moment" "changes" "I" (.int x1)) (Fbb : Fld Z h0 b "com/example/mandatum/mandatum/FactBase$Moment" "base" "Lcom/example/mandatum/mandatum/FactBase;" (.ref b2)) (Fbc : Fld Z h0 b "com/example/mandatum/mandatum/FactBase$Moment" "changes" "I" (.int x2)) :
    MetFree l (⟨"com/example/mandatum/mandatum/FactBase$Moment", "equals", "(Ljava/lang/Object;)Z"⟩ : MethodName) (head1 (Jvm.Cond.code (⟨"com/example/mandatum/mandatum/FactBase$Moment", "equals", "(Ljava/lang/Object;)Z"⟩ : MethodName) prog_49_method_3_code 3 (some .boolean) :: ws) ({ frames := 0, cells := 0, slots := 0, locals := 0 } : Room)) (fun as_ U => as_ = #[(.ref a), (.ref b)] ∧ Z.Warmed39 U.vm ∧ U.heap = h0) (fun _ _ _ _ _ => True) (fun _ U o U' => ∃ v L, o = .returned v ∧ Q_em b1 b2 x1 x2 h0 n0 v U'.heap L ∧ FrameEnd U o U' L ({ frames := 0, cells := 0, slots := 0, locals := 0 } : Room).cells ({ frames := 0, cells := 0, slots := 0, locals := 0 } : Room).slots) := by
  refine MetFree.of_bodySF pn_em hisR ?_
  intro p e s m args below meth c s₁ Bd hml0 hP hK
  obtain ⟨rfl, hZ, hh⟩ := hP
  have hx := Bd.exec
  have hby := Bd.bytes
  have hlk := BodyLoose.notSynchronized Bd
  have hml : c.maxLocals = 3 := hml0
  have hown : s.vm.findClass "com/example/mandatum/mandatum/FactBase$Moment" = some m.cls := findClass_of_methodNamed Bd.named
  have hnm := (name_of_methodNamed Bd.named Bd.method).1
  have X0 : Stand p l e ({ frames := 0, cells := 0, slots := 0, locals := 0 } : Room) s m #[(.ref a), (.ref b)] below meth c s₁ [] 0 0 := Stand.of_body Bd
  have e0 : s₁.heap = h0 := by rw [← hh, Bd.state]; rfl
  have N0 := Fr.nil n0
  refine own_in (ef_em m a b) ?_
  show own_Fin p e below s (Q_em b1 b2 x1 x2 h0 n0) 0 0 s₁ (mkF m 0 #[.val (.ref a), .val (.ref b), .unset] [])
  refine own_step (T' := s₁) (g' := (mkF m 1 #[.val (.ref a), .val (.ref b), .unset] [(.ref b)])) (fun t_ k_ => XS.aloadN X0.here hx rfl (hb hby dem_0) rfl rfl k_) ?_
  obtain ⟨T1, X2, e3, st4⟩ := instY X0 hx hZ hown (hw _ (List.mem_of_getElem? (i := 48) rfl)) e0 (Ins.self E_b) (g := (mkF m 1 #[.val (.ref a), .val (.ref b), .unset] [(.ref b)])) rfl rfl (hb hby dem_1)
  refine own_step (T' := T1) (g' := (mkF m 4 #[.val (.ref a), .val (.ref b), .unset] [(.int (1 : Int32))])) st4 ?_
  have hk5 : ¬ ((1 : Int32) = 0) := (by decide)
  refine own_step (T' := T1) (g' := (mkF m 7 #[.val (.ref a), .val (.ref b), .unset] [])) (fun t_ k_ => XS.ifNo X2.here hx rfl (hb hby dem_4) rfl (XT.i0_eq_f hk5) k_) ?_
  refine own_step (T' := T1) (g' := (mkF m 8 #[.val (.ref a), .val (.ref b), .unset] [(.ref b)])) (fun t_ k_ => XS.aloadN X2.here hx rfl (hb hby dem_7) rfl rfl k_) ?_
  obtain ⟨T6, X7, e8, st9⟩ := castY X2 hx hZ hown (hw _ (List.mem_of_getElem? (i := 48) rfl)) e3 (Ins.self E_b) (g := (mkF m 8 #[.val (.ref a), .val (.ref b), .unset] [(.ref b)])) rfl rfl (hb hby dem_8)
  refine own_step (T' := T6) (g' := (mkF m 11 #[.val (.ref a), .val (.ref b), .unset] [(.ref b)])) st9 ?_
  refine own_step (T' := T6) (g' := (mkF m 12 #[.val (.ref a), .val (.ref b), .val (.ref b)] [])) (fun t_ k_ => XS.astoreN X7.here hx rfl (hb hby dem_11) rfl rfl (l' := #[.val (.ref a), .val (.ref b), .val (.ref b)]) rfl k_) ?_
  refine own_step (T' := T6) (g' := (mkF m 13 #[.val (.ref a), .val (.ref b), .val (.ref b)] [(.ref a)])) (fun t_ k_ => XS.aloadN X7.here hx rfl (hb hby dem_12) rfl rfl k_) ?_
  obtain ⟨T10, X11, e12, st13⟩ := getF X7 hx hZ hown (host := "") (Or.inl (hw _ (List.mem_of_getElem? (i := 39) rfl))) Via.refl e8 Fab (g := (mkF m 13 #[.val (.ref a), .val (.ref b), .val (.ref b)] [(.ref a)])) rfl rfl (hb hby dem_13)
  refine own_step (T' := T10) (g' := (mkF m 16 #[.val (.ref a), .val (.ref b), .val (.ref b)] [(.ref b1)])) st13 ?_
  refine own_step (T' := T10) (g' := (mkF m 17 #[.val (.ref a), .val (.ref b), .val (.ref b)] [(.ref b), (.ref b1)])) (fun t_ k_ => XS.aloadN X11.here hx rfl (hb hby dem_16) rfl rfl k_) ?_
  obtain ⟨T14, X15, e16, st17⟩ := getF X11 hx hZ hown (host := "") (Or.inl (hw _ (List.mem_of_getElem? (i := 39) rfl))) Via.refl e12 Fbb (g := (mkF m 17 #[.val (.ref a), .val (.ref b), .val (.ref b)] [(.ref b), (.ref b1)])) rfl rfl (hb hby dem_17)
  refine own_step (T' := T14) (g' := (mkF m 20 #[.val (.ref a), .val (.ref b), .val (.ref b)] [(.ref b2), (.ref b1)])) st17 ?_
  by_cases hb18 : ((.ref b1) : Value) = (.ref b2)
  · refine own_step (T' := T14) (g' := (mkF m 23 #[.val (.ref a), .val (.ref b), .val (.ref b)] [])) (fun t_ k_ => XT.acmpNo X15.here hx rfl (hb hby dem_20) rfl rfl rfl (XT.aa_ne_f hb18) k_) ?_
    refine own_step (T' := T14) (g' := (mkF m 24 #[.val (.ref a), .val (.ref b), .val (.ref b)] [(.ref a)])) (fun t_ k_ => XS.aloadN X15.here hx rfl (hb hby dem_23) rfl rfl k_) ?_
    obtain ⟨T19, X20, e21, st22⟩ := getF X15 hx hZ hown (host := "") (Or.inl (hw _ (List.mem_of_getElem? (i := 41) rfl))) Via.refl e16 Fac (g := (mkF m 24 #[.val (.ref a), .val (.ref b), .val (.ref b)] [(.ref a)])) rfl rfl (hb hby dem_24)
    refine own_step (T' := T19) (g' := (mkF m 27 #[.val (.ref a), .val (.ref b), .val (.ref b)] [(.int x1)])) st22 ?_
    refine own_step (T' := T19) (g' := (mkF m 28 #[.val (.ref a), .val (.ref b), .val (.ref b)] [(.ref b), (.int x1)])) (fun t_ k_ => XS.aloadN X20.here hx rfl (hb hby dem_27) rfl rfl k_) ?_
    obtain ⟨T23, X24, e25, st26⟩ := getF X20 hx hZ hown (host := "") (Or.inl (hw _ (List.mem_of_getElem? (i := 41) rfl))) Via.refl e21 Fbc (g := (mkF m 28 #[.val (.ref a), .val (.ref b), .val (.ref b)] [(.ref b), (.int x1)])) rfl rfl (hb hby dem_28)
    refine own_step (T' := T23) (g' := (mkF m 31 #[.val (.ref a), .val (.ref b), .val (.ref b)] [(.int x2), (.int x1)])) st26 ?_
    by_cases hb27 : x1 = x2
    · refine own_step (T' := T23) (g' := (mkF m 34 #[.val (.ref a), .val (.ref b), .val (.ref b)] [])) (fun t_ k_ => XS.icmpNo X24.here hx rfl (hb hby dem_31) rfl (XT.ii_ne_f hb27) k_) ?_
      refine own_step (T' := T23) (g' := (mkF m 35 #[.val (.ref a), .val (.ref b), .val (.ref b)] [(.int (1 : Int32))])) (fun t_ k_ => XT.iconstV X24.here hx rfl (1 : Int32) (hb hby dem_34) (by decide) k_) ?_
      refine own_step (T' := T23) (g' := (mkF m 39 #[.val (.ref a), .val (.ref b), .val (.ref b)] [(.int (1 : Int32))])) (fun t_ k_ => XS.goto X24.here hx rfl (pc0 := 35) (pc' := 39) rfl (hb hby dem_35) (by decide) (by decide) k_) ?_
      exact own_retN X24 hx hlk (t := .boolean) Bd.returns (by simp) (hb hby dem_39) (by rw [e25]; exact ⟨by rw [if_pos (Value.ref.inj hb18), if_pos hb27] <;> rfl, N0, rfl⟩) (by decide) (by decide)
    · refine own_step (T' := T23) (g' := (mkF m 38 #[.val (.ref a), .val (.ref b), .val (.ref b)] [])) (fun t_ k_ => XS.icmpYes X24.here hx rfl (pc0 := 31) (pc' := 38) rfl (hb hby dem_31) rfl (XT.ii_ne_t hb27) (by decide) (by decide) k_) ?_
      refine own_step (T' := T23) (g' := (mkF m 39 #[.val (.ref a), .val (.ref b), .val (.ref b)] [(.int (0 : Int32))])) (fun t_ k_ => XT.iconstV X24.here hx rfl (0 : Int32) (hb hby dem_38) (by decide) k_) ?_
      exact own_retN X24 hx hlk (t := .boolean) Bd.returns (by simp) (hb hby dem_39) (by rw [e25]; exact ⟨by rw [if_pos (Value.ref.inj hb18), if_neg hb27] <;> rfl, N0, rfl⟩) (by decide) (by decide)
  · refine own_step (T' := T14) (g' := (mkF m 38 #[.val (.ref a), .val (.ref b), .val (.ref b)] [])) (fun t_ k_ => XT.acmpYes X15.here hx rfl (pc0 := 20) (pc' := 38) rfl (hb hby dem_20) rfl rfl rfl (XT.aa_ne_t hb18) (by decide) (by decide) k_) ?_
    refine own_step (T' := T14) (g' := (mkF m 39 #[.val (.ref a), .val (.ref b), .val (.ref b)] [(.int (0 : Int32))])) (fun t_ k_ => XT.iconstV X15.here hx rfl (0 : Int32) (hb hby dem_38) (by decide) k_) ?_
    exact own_retN X15 hx hlk (t := .boolean) Bd.returns (by simp) (hb hby dem_39) (by rw [e16]; exact ⟨by rw [if_neg (fun q => hb18 (congrArg Value.ref q))] <;> rfl, N0, rfl⟩) (by decide) (by decide)
theorem deo_0 : decode prog_49_method_3_code 0 = .ok (.aload_n 1, 1) := by decide +kernel
theorem deo_1 : decode prog_49_method_3_code 1 = .ok (.instanceof 10, 3) := by decide +kernel
theorem deo_4 : decode prog_49_method_3_code 4 = .ok (.ifCond .eq 34, 3) := by decide +kernel
theorem deo_7 : decode prog_49_method_3_code 7 = .ok (.aload_n 1, 1) := by decide +kernel
theorem deo_8 : decode prog_49_method_3_code 8 = .ok (.checkcast 10, 3) := by decide +kernel
theorem deo_11 : decode prog_49_method_3_code 11 = .ok (.astore_n 2, 1) := by decide +kernel
theorem deo_12 : decode prog_49_method_3_code 12 = .ok (.aload_n 0, 1) := by decide +kernel
theorem deo_13 : decode prog_49_method_3_code 13 = .ok (.getfield 9, 3) := by decide +kernel
theorem deo_16 : decode prog_49_method_3_code 16 = .ok (.aload_n 2, 1) := by decide +kernel
theorem deo_17 : decode prog_49_method_3_code 17 = .ok (.getfield 9, 3) := by decide +kernel
theorem deo_20 : decode prog_49_method_3_code 20 = .ok (.if_acmp .ne 18, 3) := by decide +kernel
theorem deo_23 : decode prog_49_method_3_code 23 = .ok (.aload_n 0, 1) := by decide +kernel
theorem deo_24 : decode prog_49_method_3_code 24 = .ok (.getfield 15, 3) := by decide +kernel
theorem deo_27 : decode prog_49_method_3_code 27 = .ok (.aload_n 2, 1) := by decide +kernel
theorem deo_28 : decode prog_49_method_3_code 28 = .ok (.getfield 15, 3) := by decide +kernel
theorem deo_31 : decode prog_49_method_3_code 31 = .ok (.if_icmp .ne 7, 3) := by decide +kernel
theorem deo_34 : decode prog_49_method_3_code 34 = .ok (.iconst 1, 1) := by decide +kernel
theorem deo_35 : decode prog_49_method_3_code 35 = .ok (.goto 4, 3) := by decide +kernel
theorem deo_38 : decode prog_49_method_3_code 38 = .ok (.iconst 0, 1) := by decide +kernel
theorem deo_39 : decode prog_49_method_3_code 39 = .ok (.ireturn, 1) := by decide +kernel
theorem pn_eo : plainFor (⟨"com/example/mandatum/mandatum/FactBase$Moment", "equals", "(Ljava/lang/Object;)Z"⟩ : MethodName) = true := by first | exact plainFor_of_name (by first | (simp [plainName, overriddenIn]; done) | decide +kernel) | decide +kernel
theorem ef_eo (m : MethodId) (x0 : Addr) (x1 : Addr) : entryFrame m #[(.ref x0), (.ref x1)] 3 = mkF m 0 #[.val (.ref x0), .val (.ref x1), .unset] [] := by first | (simp [entryFrame, mkF, argsToLocals, Value.category]; done) | rfl
def Q_eo (b1 : Addr) (x1 x2 : Int32) (h0 : Heap) (n0 : Nat) (v : Option Value) (h : Heap) (L : List Loc) : Prop := v = some (.int (0 : Int32)) ∧ Fr n0 L ∧ h = h0
set_option maxRecDepth 65536 in
set_option maxHeartbeats 40000000 in
theorem rm_eqo (l : Launch) (Z : State) (a0 : Array Value) (hw : ∀ d ∈ tables_1, d.before a0 Z = true) (ws : List Jvm.Cond) (a b b1 : Addr) (x1 x2 : Int32) (h0 : Heap) (n0 : Nat) (Z0 : n0 ≤ h0.size) (E_b : Exa Z h0 b "com/example/mandatum/mandatum/FactBase$Moment") (Fab : Fld Z h0 a "com/example/mandatum/mandatum/FactBase$Moment" "base" "Lcom/example/mandatum/mandatum/FactBase;" (.ref b1)) (Fac : Fld Z h0 a "com/example/mandatum/mandatum/FactBase$Moment" "changes" "I" (.int x1)) (Fbb : Fld Z h0 b "com/example/mandatum/mandatum/FactBase$Moment" "base" "Lcom/example/mandatum/mandatum/FactBase;" .null) (Fbc : Fld Z h0 b "com/example/mandatum/mandatum/FactBase$Moment" "changes" "I" (.int x2)) :
    MetFree l (⟨"com/example/mandatum/mandatum/FactBase$Moment", "equals", "(Ljava/lang/Object;)Z"⟩ : MethodName) (head1 (Jvm.Cond.code (⟨"com/example/mandatum/mandatum/FactBase$Moment", "equals", "(Ljava/lang/Object;)Z"⟩ : MethodName) prog_49_method_3_code 3 (some .boolean) :: ws) ({ frames := 0, cells := 0, slots := 0, locals := 0 } : Room)) (fun as_ U => as_ = #[(.ref a), (.ref b)] ∧ Z.Warmed39 U.vm ∧ U.heap = h0) (fun _ _ _ _ _ => True) (fun _ U o U' => ∃ v L, o = .returned v ∧ Q_eo b1 x1 x2 h0 n0 v U'.heap L ∧ FrameEnd U o U' L ({ frames := 0, cells := 0, slots := 0, locals := 0 } : Room).cells ({ frames := 0, cells := 0, slots := 0, locals := 0 } : Room).slots) := by
  refine MetFree.of_bodySF pn_eo hisR ?_
  intro p e s m args below meth c s₁ Bd hml0 hP hK
  obtain ⟨rfl, hZ, hh⟩ := hP
  have hx := Bd.exec
  have hby := Bd.bytes
  have hlk := BodyLoose.notSynchronized Bd
  have hml : c.maxLocals = 3 := hml0
  have hown : s.vm.findClass "com/example/mandatum/mandatum/FactBase$Moment" = some m.cls := findClass_of_methodNamed Bd.named
  have hnm := (name_of_methodNamed Bd.named Bd.method).1
  have X0 : Stand p l e ({ frames := 0, cells := 0, slots := 0, locals := 0 } : Room) s m #[(.ref a), (.ref b)] below meth c s₁ [] 0 0 := Stand.of_body Bd
  have e0 : s₁.heap = h0 := by rw [← hh, Bd.state]; rfl
  have N0 := Fr.nil n0
  refine own_in (ef_eo m a b) ?_
  show own_Fin p e below s (Q_eo b1 x1 x2 h0 n0) 0 0 s₁ (mkF m 0 #[.val (.ref a), .val (.ref b), .unset] [])
  refine own_step (T' := s₁) (g' := (mkF m 1 #[.val (.ref a), .val (.ref b), .unset] [(.ref b)])) (fun t_ k_ => XS.aloadN X0.here hx rfl (hb hby deo_0) rfl rfl k_) ?_
  obtain ⟨T1, X2, e3, st4⟩ := instY X0 hx hZ hown (hw _ (List.mem_of_getElem? (i := 48) rfl)) e0 (Ins.self E_b) (g := (mkF m 1 #[.val (.ref a), .val (.ref b), .unset] [(.ref b)])) rfl rfl (hb hby deo_1)
  refine own_step (T' := T1) (g' := (mkF m 4 #[.val (.ref a), .val (.ref b), .unset] [(.int (1 : Int32))])) st4 ?_
  have hk5 : ¬ ((1 : Int32) = 0) := (by decide)
  refine own_step (T' := T1) (g' := (mkF m 7 #[.val (.ref a), .val (.ref b), .unset] [])) (fun t_ k_ => XS.ifNo X2.here hx rfl (hb hby deo_4) rfl (XT.i0_eq_f hk5) k_) ?_
  refine own_step (T' := T1) (g' := (mkF m 8 #[.val (.ref a), .val (.ref b), .unset] [(.ref b)])) (fun t_ k_ => XS.aloadN X2.here hx rfl (hb hby deo_7) rfl rfl k_) ?_
  obtain ⟨T6, X7, e8, st9⟩ := castY X2 hx hZ hown (hw _ (List.mem_of_getElem? (i := 48) rfl)) e3 (Ins.self E_b) (g := (mkF m 8 #[.val (.ref a), .val (.ref b), .unset] [(.ref b)])) rfl rfl (hb hby deo_8)
  refine own_step (T' := T6) (g' := (mkF m 11 #[.val (.ref a), .val (.ref b), .unset] [(.ref b)])) st9 ?_
  refine own_step (T' := T6) (g' := (mkF m 12 #[.val (.ref a), .val (.ref b), .val (.ref b)] [])) (fun t_ k_ => XS.astoreN X7.here hx rfl (hb hby deo_11) rfl rfl (l' := #[.val (.ref a), .val (.ref b), .val (.ref b)]) rfl k_) ?_
  refine own_step (T' := T6) (g' := (mkF m 13 #[.val (.ref a), .val (.ref b), .val (.ref b)] [(.ref a)])) (fun t_ k_ => XS.aloadN X7.here hx rfl (hb hby deo_12) rfl rfl k_) ?_
  obtain ⟨T10, X11, e12, st13⟩ := getF X7 hx hZ hown (host := "") (Or.inl (hw _ (List.mem_of_getElem? (i := 39) rfl))) Via.refl e8 Fab (g := (mkF m 13 #[.val (.ref a), .val (.ref b), .val (.ref b)] [(.ref a)])) rfl rfl (hb hby deo_13)
  refine own_step (T' := T10) (g' := (mkF m 16 #[.val (.ref a), .val (.ref b), .val (.ref b)] [(.ref b1)])) st13 ?_
  refine own_step (T' := T10) (g' := (mkF m 17 #[.val (.ref a), .val (.ref b), .val (.ref b)] [(.ref b), (.ref b1)])) (fun t_ k_ => XS.aloadN X11.here hx rfl (hb hby deo_16) rfl rfl k_) ?_
  obtain ⟨T14, X15, e16, st17⟩ := getF X11 hx hZ hown (host := "") (Or.inl (hw _ (List.mem_of_getElem? (i := 39) rfl))) Via.refl e12 Fbb (g := (mkF m 17 #[.val (.ref a), .val (.ref b), .val (.ref b)] [(.ref b), (.ref b1)])) rfl rfl (hb hby deo_17)
  refine own_step (T' := T14) (g' := (mkF m 20 #[.val (.ref a), .val (.ref b), .val (.ref b)] [.null, (.ref b1)])) st17 ?_
  have hk18 : ¬ (((.ref b1) : Value) = .null) := (fun q => by cases q)
  refine own_step (T' := T14) (g' := (mkF m 38 #[.val (.ref a), .val (.ref b), .val (.ref b)] [])) (fun t_ k_ => XT.acmpYes X15.here hx rfl (pc0 := 20) (pc' := 38) rfl (hb hby deo_20) rfl rfl rfl (XT.aa_ne_t hk18) (by decide) (by decide) k_) ?_
  refine own_step (T' := T14) (g' := (mkF m 39 #[.val (.ref a), .val (.ref b), .val (.ref b)] [(.int (0 : Int32))])) (fun t_ k_ => XT.iconstV X15.here hx rfl (0 : Int32) (hb hby deo_38) (by decide) k_) ?_
  exact own_retN X15 hx hlk (t := .boolean) Bd.returns (by simp) (hb hby deo_39) (by rw [e16]; exact ⟨rfl, N0, rfl⟩) (by decide) (by decide)
theorem pn_10 : plainFor x = true := by first | exact plainFor_of_name (by first | (simp [plainName, overriddenIn]; done) | decide +kernel) | decide +kernel
theorem ef_10 (m : MethodId) (x0 : Int32) (x1 : Int32) (x2 : Int32) : entryFrame m #[(.int x0), (.int x1), (.int x2)] maxLocals = mkF m 0 #[.val (.int x0), .val (.int x1), .val (.int x2), .unset, .unset, .unset, .unset, .unset, .unset] [] := by first | (simp [entryFrame, mkF, argsToLocals, Value.category, maxLocals]; done) | rfl
def Q_10 (h0 : Heap) (n0 : Nat) (v : Option Value) (h : Heap) (L : List Loc) : Prop := v = some (.int 1) ∧ Fr n0 L
set_option maxRecDepth 65536 in
set_option maxHeartbeats 40000000 in
theorem rm_law (l : Launch) (Z : State) (a0 : Array Value) (hw : ∀ d ∈ tables_1, d.before a0 Z = true) (ws : List Jvm.Cond) (x1 y1 sel : Int32) (cc : Addr) (cl : Cell) (h0 : Heap) (n0 : Nat) (Z0 : n0 ≤ h0.size) (O0 : Old Z n0 h0) (SH : Sta Z Z.heap "java/lang/Integer$IntegerCache" "high" "I" (.int (127 : Int32))) (SC : Sta Z Z.heap "java/lang/Integer$IntegerCache" "cache" "[Ljava/lang/Integer;" (.ref cc)) (AC : Arr Z Z.heap cc cl (.object "java/lang/Integer")) (hsz : cl.slots.size = 256) (hel : ∀ j, j < 256 → ∃ r, cl.slots[j]? = some (.ref r) ∧ Exa Z Z.heap r "java/lang/Integer") :
    MetFree l x (head1 (Jvm.Cond.code x code maxLocals ret :: ws) room_1) (fun as_ U => as_ = #[(.int x1), (.int y1), (.int sel)] ∧ Z.Warmed39 U.vm ∧ U.heap = h0) (fun _ _ _ _ _ => True) (fun _ U o U' => ∃ v L, o = .returned v ∧ Q_10 h0 n0 v U'.heap L ∧ FrameEnd U o U' L 6 28) := by
  refine MetFree.of_bodySF pn_10 hisR ?_
  intro p e s m args below meth c s₁ Bd hml0 hP hK
  obtain ⟨rfl, hZ, hh⟩ := hP
  have hx := Bd.exec
  have hby := Bd.bytes
  have hlk := BodyLoose.notSynchronized Bd
  have hml : c.maxLocals = 9 := hml0
  have hown : s.vm.findClass "com/example/mandatum/mandatum/MomentEqualsPinLaw" = some m.cls := findClass_of_methodNamed Bd.named
  have hnm := (name_of_methodNamed Bd.named Bd.method).1
  have X0 : Stand p l e room_1 s m #[(.int x1), (.int y1), (.int sel)] below meth c s₁ [] 0 0 := Stand.of_body Bd
  have e0 : s₁.heap = h0 := by rw [← hh, Bd.state]; rfl
  have N0 := Fr.nil n0
  refine own_in (ef_10 m x1 y1 sel) ?_
  show own_Fin p e below s (Q_10 h0 n0) 6 28 s₁ (mkF m 0 #[.val (.int x1), .val (.int y1), .val (.int sel), .unset, .unset, .unset, .unset, .unset, .unset] [])
  obtain ⟨T1, h2, X3, e4, E5, A6, D7, -, st8⟩ := newO X0 hx hZ hown (hw _ (List.mem_of_getElem? (i := 0) rfl)) (hw _ (List.mem_of_getElem? (i := 1) rfl)) (hw _ (List.mem_of_getElem? (i := 2) rfl)) e0 (g := (mkF m 0 #[.val (.int x1), .val (.int y1), .val (.int sel), .unset, .unset, .unset, .unset, .unset, .unset] [])) rfl (hb hby at_0) (by decide) (by decide)
  obtain ⟨a9, g10⟩ : ∃ z, z = h0.size := ⟨_, rfl⟩
  rw [← g10] at A6 D7 st8
  have q11 : n0 ≤ a9 := Nat.le_trans Z0 (Nat.le_of_eq g10.symm)
  have F12 : n0 ≤ h2.size := Nat.le_trans Z0 E5.1
  have F13 : Old Z n0 h2 := O0.ext E5
  have F14 : Fld Z h2 a9 "com/example/mandatum/mandatum/FactBase" "facts" "Ljava/util/Map;" .null := D7 (Or.inr (hw _ (List.mem_of_getElem? (i := 26) rfl))) (ty := (.object "java/util/Map")) (by decide)
  refine own_step (T' := T1) (g' := (mkF m 3 #[.val (.int x1), .val (.int y1), .val (.int sel), .unset, .unset, .unset, .unset, .unset, .unset] [(.ref a9)])) st8 ?_
  refine own_step (T' := T1) (g' := (mkF m 4 #[.val (.int x1), .val (.int y1), .val (.int sel), .unset, .unset, .unset, .unset, .unset, .unset] [(.ref a9), (.ref a9)])) (fun t_ k_ => XS.dup X3.here hx rfl (hb hby at_3) rfl rfl k_) ?_
  obtain ⟨_, _, ⟨Tc15, Lc15, kc15, nc15⟩, -, Xc15, ⟨Lcc15, hQc15, lc15, yc15, zc15⟩, stc15⟩ := X3.specialBack hx (y := (⟨"com/example/mandatum/mandatum/FactBase", "<init>", "()V"⟩ : MethodName)) rfl hown (mvT hZ (hw _ (List.mem_of_getElem? (i := 3) rfl))) (mvT hZ (hw _ (List.mem_of_getElem? (i := 4) rfl))) (mvT hZ (hw _ (List.mem_of_getElem? (i := 5) rfl))) (by decide) (backOf (W := 1) (rm_fb l Z a0 hw [] a9  .null h2 n0 F12 A6 F14 q11) hZ (hw _ (List.mem_of_getElem? (i := 5) rfl)) (hw _ (List.mem_of_getElem? (i := 2) rfl)) (by decide) (by decide)) (g := (mkF m 4 #[.val (.int x1), .val (.int y1), .val (.int sel), .unset, .unset, .unset, .unset, .unset, .unset] [(.ref a9), (.ref a9)])) rfl (by rw [hml]; rfl) (Steps.refl _) (a := a9) (argsL := []) (rest := [(.ref a9)]) (lenOf pd_0 rfl) rfl (by show 2 * 0 + _ ≤ _; exact Nat.le_of_eq rfl) (hb hby at_4) (fun _ _ => ⟨rfl, e4, (by decide : 1 + 1 ≤ _), (by decide : 3 + 8 ≤ _)⟩)
  dsimp only [Pt.U, Pt.locs, Pt.cells, Pt.slots] at Xc15 lc15 yc15 zc15 stc15 hQc15
  subst lc15 yc15 zc15
  have X16 := Xc15.more (cells' := 2) (slots' := 11) (by decide) (by decide)
  obtain ⟨rfl, N17, K18⟩ := hQc15
  have N19 := Fr.app N0 N17
  have F20 : n0 ≤ Tc15.heap.size := Nat.le_trans F12 K18.1
  have F21 : Old Z n0 Tc15.heap := F13.keep K18 (allS q11 all0)
  have F22 : Exa Z Tc15.heap a9 "com/example/mandatum/mandatum/FactBase" := A6.keep K18
  obtain ⟨Lo23, X24, N25⟩ : ∃ Lo_, Stand p l e room_1 s m #[(.int x1), (.int y1), (.int sel)] below meth c Tc15 Lo_ 2 11 ∧ Fr n0 Lo_ := ⟨_, X16, N19⟩
  refine own_step (T' := Tc15) (g' := (mkF m 7 #[.val (.int x1), .val (.int y1), .val (.int sel), .unset, .unset, .unset, .unset, .unset, .unset] [(.ref a9)])) (fun t_ k_ => stc15.trans k_) ?_
  refine own_step (T' := Tc15) (g' := (mkF m 8 #[.val (.int x1), .val (.int y1), .val (.int sel), .val (.ref a9), .unset, .unset, .unset, .unset, .unset] [])) (fun t_ k_ => XS.astoreN X24.here hx rfl (hb hby at_7) rfl rfl (l' := #[.val (.int x1), .val (.int y1), .val (.int sel), .val (.ref a9), .unset, .unset, .unset, .unset, .unset]) rfl k_) ?_
  obtain ⟨T26, h27, X28, e29, E30, A31, D32, -, st33⟩ := newO X24 hx hZ hown (hw _ (List.mem_of_getElem? (i := 0) rfl)) (hw _ (List.mem_of_getElem? (i := 1) rfl)) (hw _ (List.mem_of_getElem? (i := 2) rfl)) rfl (g := (mkF m 8 #[.val (.int x1), .val (.int y1), .val (.int sel), .val (.ref a9), .unset, .unset, .unset, .unset, .unset] [])) rfl (hb hby at_8) (by decide) (by decide)
  obtain ⟨a34, g35⟩ : ∃ z, z = Tc15.heap.size := ⟨_, rfl⟩
  rw [← g35] at A31 D32 st33
  have q36 : n0 ≤ a34 := Nat.le_trans F20 (Nat.le_of_eq g35.symm)
  have ne37 : a9 ≠ a34 := Nat.ne_of_lt (Nat.lt_of_lt_of_le F22.lt (Nat.le_of_eq g35.symm))
  have F38 : n0 ≤ h27.size := Nat.le_trans F20 E30.1
  have F39 : Old Z n0 h27 := F21.ext E30
  have F40 : Exa Z h27 a9 "com/example/mandatum/mandatum/FactBase" := F22.ext E30
  have F41 : Fld Z h27 a34 "com/example/mandatum/mandatum/FactBase" "facts" "Ljava/util/Map;" .null := D32 (Or.inr (hw _ (List.mem_of_getElem? (i := 26) rfl))) (ty := (.object "java/util/Map")) (by decide)
  refine own_step (T' := T26) (g' := (mkF m 11 #[.val (.int x1), .val (.int y1), .val (.int sel), .val (.ref a9), .unset, .unset, .unset, .unset, .unset] [(.ref a34)])) st33 ?_
  refine own_step (T' := T26) (g' := (mkF m 12 #[.val (.int x1), .val (.int y1), .val (.int sel), .val (.ref a9), .unset, .unset, .unset, .unset, .unset] [(.ref a34), (.ref a34)])) (fun t_ k_ => XS.dup X28.here hx rfl (hb hby at_11) rfl rfl k_) ?_
  obtain ⟨_, _, ⟨Tc42, Lc42, kc42, nc42⟩, -, Xc42, ⟨Lcc42, hQc42, lc42, yc42, zc42⟩, stc42⟩ := X28.specialBack hx (y := (⟨"com/example/mandatum/mandatum/FactBase", "<init>", "()V"⟩ : MethodName)) rfl hown (mvT hZ (hw _ (List.mem_of_getElem? (i := 3) rfl))) (mvT hZ (hw _ (List.mem_of_getElem? (i := 4) rfl))) (mvT hZ (hw _ (List.mem_of_getElem? (i := 5) rfl))) (by decide) (backOf (W := 1) (rm_fb l Z a0 hw [] a34  .null h27 n0 F38 A31 F41 q36) hZ (hw _ (List.mem_of_getElem? (i := 5) rfl)) (hw _ (List.mem_of_getElem? (i := 2) rfl)) (by decide) (by decide)) (g := (mkF m 12 #[.val (.int x1), .val (.int y1), .val (.int sel), .val (.ref a9), .unset, .unset, .unset, .unset, .unset] [(.ref a34), (.ref a34)])) rfl (by rw [hml]; rfl) (Steps.refl _) (a := a34) (argsL := []) (rest := [(.ref a34)]) (lenOf pd_0 rfl) rfl (by show 2 * 0 + _ ≤ _; exact Nat.le_of_eq rfl) (hb hby at_12) (fun _ _ => ⟨rfl, e29, (by decide : 3 + 1 ≤ _), (by decide : 14 + 8 ≤ _)⟩)
  dsimp only [Pt.U, Pt.locs, Pt.cells, Pt.slots] at Xc42 lc42 yc42 zc42 stc42 hQc42
  subst lc42 yc42 zc42
  have X43 := Xc42.more (cells' := 4) (slots' := 22) (by decide) (by decide)
  obtain ⟨rfl, N44, K45⟩ := hQc42
  have N46 := Fr.app N25 N44
  have F47 : n0 ≤ Tc42.heap.size := Nat.le_trans F38 K45.1
  have F48 : Old Z n0 Tc42.heap := F39.keep K45 (allS q36 all0)
  have F49 : Exa Z Tc42.heap a9 "com/example/mandatum/mandatum/FactBase" := F40.keep K45
  have F50 : Exa Z Tc42.heap a34 "com/example/mandatum/mandatum/FactBase" := A31.keep K45
  obtain ⟨Lo51, X52, N53⟩ : ∃ Lo_, Stand p l e room_1 s m #[(.int x1), (.int y1), (.int sel)] below meth c Tc42 Lo_ 4 22 ∧ Fr n0 Lo_ := ⟨_, X43, N46⟩
  refine own_step (T' := Tc42) (g' := (mkF m 15 #[.val (.int x1), .val (.int y1), .val (.int sel), .val (.ref a9), .unset, .unset, .unset, .unset, .unset] [(.ref a34)])) (fun t_ k_ => stc42.trans k_) ?_
  refine own_step (T' := Tc42) (g' := (mkF m 17 #[.val (.int x1), .val (.int y1), .val (.int sel), .val (.ref a9), .val (.ref a34), .unset, .unset, .unset, .unset] [])) (fun t_ k_ => XS.astore X52.here hx rfl (hb hby at_15) rfl rfl (l' := #[.val (.int x1), .val (.int y1), .val (.int sel), .val (.ref a9), .val (.ref a34), .unset, .unset, .unset, .unset]) rfl k_) ?_
  obtain ⟨T54, h55, X56, e57, E58, A59, D60, -, st61⟩ := newO X52 hx hZ hown (hw _ (List.mem_of_getElem? (i := 27) rfl)) (hw _ (List.mem_of_getElem? (i := 28) rfl)) (hw _ (List.mem_of_getElem? (i := 29) rfl)) rfl (g := (mkF m 17 #[.val (.int x1), .val (.int y1), .val (.int sel), .val (.ref a9), .val (.ref a34), .unset, .unset, .unset, .unset] [])) rfl (hb hby at_17) (by decide) (by decide)
  obtain ⟨a62, g63⟩ : ∃ z, z = Tc42.heap.size := ⟨_, rfl⟩
  rw [← g63] at A59 D60 st61
  have q64 : n0 ≤ a62 := Nat.le_trans F47 (Nat.le_of_eq g63.symm)
  have ne65 : a9 ≠ a62 := Nat.ne_of_lt (Nat.lt_of_lt_of_le F49.lt (Nat.le_of_eq g63.symm))
  have ne66 : a34 ≠ a62 := Nat.ne_of_lt (Nat.lt_of_lt_of_le F50.lt (Nat.le_of_eq g63.symm))
  have F67 : n0 ≤ h55.size := Nat.le_trans F47 E58.1
  have F68 : Old Z n0 h55 := F48.ext E58
  have F69 : Exa Z h55 a9 "com/example/mandatum/mandatum/FactBase" := F49.ext E58
  have F70 : Exa Z h55 a34 "com/example/mandatum/mandatum/FactBase" := F50.ext E58
  have F71 : Fld Z h55 a62 "com/example/mandatum/mandatum/FactBase$Moment" "base" "Lcom/example/mandatum/mandatum/FactBase;" .null := D60 (Or.inr (hw _ (List.mem_of_getElem? (i := 40) rfl))) (ty := (.object "com/example/mandatum/mandatum/FactBase")) (by decide)
  have F72 : Fld Z h55 a62 "com/example/mandatum/mandatum/FactBase$Moment" "changes" "I" (.int (0 : Int32)) := D60 (Or.inr (hw _ (List.mem_of_getElem? (i := 42) rfl))) (ty := .int) (by decide)
  refine own_step (T' := T54) (g' := (mkF m 20 #[.val (.int x1), .val (.int y1), .val (.int sel), .val (.ref a9), .val (.ref a34), .unset, .unset, .unset, .unset] [(.ref a62)])) st61 ?_
  refine own_step (T' := T54) (g' := (mkF m 21 #[.val (.int x1), .val (.int y1), .val (.int sel), .val (.ref a9), .val (.ref a34), .unset, .unset, .unset, .unset] [(.ref a62), (.ref a62)])) (fun t_ k_ => XS.dup X56.here hx rfl (hb hby at_20) rfl rfl k_) ?_
  refine own_step (T' := T54) (g' := (mkF m 22 #[.val (.int x1), .val (.int y1), .val (.int sel), .val (.ref a9), .val (.ref a34), .unset, .unset, .unset, .unset] [(.ref a9), (.ref a62), (.ref a62)])) (fun t_ k_ => XS.aloadN X56.here hx rfl (hb hby at_21) rfl rfl k_) ?_
  refine own_step (T' := T54) (g' := (mkF m 23 #[.val (.int x1), .val (.int y1), .val (.int sel), .val (.ref a9), .val (.ref a34), .unset, .unset, .unset, .unset] [(.int x1), (.ref a9), (.ref a62), (.ref a62)])) (fun t_ k_ => XS.iloadN X56.here hx rfl (hb hby at_22) rfl k_) ?_
  obtain ⟨_, _, ⟨Tc73, Lc73, kc73, nc73⟩, -, Xc73, ⟨Lcc73, hQc73, lc73, yc73, zc73⟩, stc73⟩ := X56.specialBack hx (y := (⟨"com/example/mandatum/mandatum/FactBase$Moment", "<init>", "(Lcom/example/mandatum/mandatum/FactBase;I)V"⟩ : MethodName)) rfl hown (mvT hZ (hw _ (List.mem_of_getElem? (i := 30) rfl))) (mvT hZ (hw _ (List.mem_of_getElem? (i := 31) rfl))) (mvT hZ (hw _ (List.mem_of_getElem? (i := 32) rfl))) (by decide) (backOf (W := 1) (rm_mom l Z a0 hw [] a62 a9 x1 .null (0 : Int32) h55 n0 F67 A59 F71 F72 q64) hZ (hw _ (List.mem_of_getElem? (i := 32) rfl)) (hw _ (List.mem_of_getElem? (i := 29) rfl)) (by decide) (by decide)) (g := (mkF m 23 #[.val (.int x1), .val (.int y1), .val (.int sel), .val (.ref a9), .val (.ref a34), .unset, .unset, .unset, .unset] [(.int x1), (.ref a9), (.ref a62), (.ref a62)])) rfl (by rw [hml]; rfl) (Steps.refl _) (a := a62) (argsL := [(.ref a9), (.int x1)]) (rest := [(.ref a62)]) (lenOf pd_2 rfl) rfl (by show 2 * 0 + _ ≤ _; exact Nat.le_of_eq rfl) (hb hby at_23) (fun _ _ => ⟨rfl, e57, (by decide : 5 + 0 ≤ _), (by decide : 24 + 0 ≤ _)⟩)
  dsimp only [Pt.U, Pt.locs, Pt.cells, Pt.slots] at Xc73 lc73 yc73 zc73 stc73 hQc73
  subst lc73 yc73 zc73
  have X74 := Xc73.more (cells' := 5) (slots' := 24) (by decide) (by decide)
  obtain ⟨rfl, N75, K76, F77, F78⟩ := hQc73
  have N79 := Fr.app N53 N75
  have F80 : n0 ≤ Tc73.heap.size := Nat.le_trans F67 K76.1
  have F81 : Old Z n0 Tc73.heap := F68.keep K76 (allS q64 all0)
  have F82 : Exa Z Tc73.heap a9 "com/example/mandatum/mandatum/FactBase" := F69.keep K76
  have F83 : Exa Z Tc73.heap a34 "com/example/mandatum/mandatum/FactBase" := F70.keep K76
  have F84 : Exa Z Tc73.heap a62 "com/example/mandatum/mandatum/FactBase$Moment" := A59.keep K76
  obtain ⟨Lo85, X86, N87⟩ : ∃ Lo_, Stand p l e room_1 s m #[(.int x1), (.int y1), (.int sel)] below meth c Tc73 Lo_ 5 24 ∧ Fr n0 Lo_ := ⟨_, X74, N79⟩
  refine own_step (T' := Tc73) (g' := (mkF m 26 #[.val (.int x1), .val (.int y1), .val (.int sel), .val (.ref a9), .val (.ref a34), .unset, .unset, .unset, .unset] [(.ref a62)])) (fun t_ k_ => stc73.trans k_) ?_
  refine own_step (T' := Tc73) (g' := (mkF m 28 #[.val (.int x1), .val (.int y1), .val (.int sel), .val (.ref a9), .val (.ref a34), .val (.ref a62), .unset, .unset, .unset] [])) (fun t_ k_ => XS.astore X86.here hx rfl (hb hby at_26) rfl rfl (l' := #[.val (.int x1), .val (.int y1), .val (.int sel), .val (.ref a9), .val (.ref a34), .val (.ref a62), .unset, .unset, .unset]) rfl k_) ?_
  refine own_step (T' := Tc73) (g' := (mkF m 29 #[.val (.int x1), .val (.int y1), .val (.int sel), .val (.ref a9), .val (.ref a34), .val (.ref a62), .unset, .unset, .unset] [(.int sel)])) (fun t_ k_ => XS.iloadN X86.here hx rfl (hb hby at_28) rfl k_) ?_
  refine own_step (T' := Tc73) (g' := (mkF m 31 #[.val (.int x1), .val (.int y1), .val (.int sel), .val (.ref a9), .val (.ref a34), .val (.ref a62), .unset, .unset, .unset] [(.int (7 : Int32)), (.int sel)])) (fun t_ k_ => XT.bipushV X86.here hx rfl (7 : Int32) (hb hby at_29) (by decide) k_) ?_
  refine own_step (T' := Tc73) (g' := (mkF m 32 #[.val (.int x1), .val (.int y1), .val (.int sel), .val (.ref a9), .val (.ref a34), .val (.ref a62), .unset, .unset, .unset] [(.int (sel &&& (7 : Int32)))])) (fun t_ k_ => XS.iand X86.here hx rfl (hb hby at_31) rfl k_) ?_
  refine own_step (T' := Tc73) (g' := (mkF m 34 #[.val (.int x1), .val (.int y1), .val (.int sel), .val (.ref a9), .val (.ref a34), .val (.ref a62), .val (.int (sel &&& (7 : Int32))), .unset, .unset] [])) (fun t_ k_ => XS.istore X86.here hx rfl (hb hby at_32) rfl (l' := #[.val (.int x1), .val (.int y1), .val (.int sel), .val (.ref a9), .val (.ref a34), .val (.ref a62), .val (.int (sel &&& (7 : Int32))), .unset, .unset]) rfl k_) ?_
  refine own_step (T' := Tc73) (g' := (mkF m 36 #[.val (.int x1), .val (.int y1), .val (.int sel), .val (.ref a9), .val (.ref a34), .val (.ref a62), .val (.int (sel &&& (7 : Int32))), .unset, .unset] [(.int (sel &&& (7 : Int32)))])) (fun t_ k_ => XS.iload X86.here hx rfl (hb hby at_34) rfl k_) ?_
  by_cases hb88 : (sel &&& (7 : Int32)) = 0
  · refine own_step (T' := Tc73) (g' := (mkF m 39 #[.val (.int x1), .val (.int y1), .val (.int sel), .val (.ref a9), .val (.ref a34), .val (.ref a62), .val (.int (sel &&& (7 : Int32))), .unset, .unset] [])) (fun t_ k_ => XS.ifNo X86.here hx rfl (hb hby at_36) rfl (XT.i0_ne_f hb88) k_) ?_
    refine own_step (T' := Tc73) (g' := (mkF m 40 #[.val (.int x1), .val (.int y1), .val (.int sel), .val (.ref a9), .val (.ref a34), .val (.ref a62), .val (.int (sel &&& (7 : Int32))), .unset, .unset] [.null])) (fun t_ k_ => XS.aconstNull X86.here hx rfl (hb hby at_39) k_) ?_
    refine own_step (T' := Tc73) (g' := (mkF m 42 #[.val (.int x1), .val (.int y1), .val (.int sel), .val (.ref a9), .val (.ref a34), .val (.ref a62), .val (.int (sel &&& (7 : Int32))), .val .null, .unset] [])) (fun t_ k_ => XS.astore X86.here hx rfl (hb hby at_40) rfl rfl (l' := #[.val (.int x1), .val (.int y1), .val (.int sel), .val (.ref a9), .val (.ref a34), .val (.ref a62), .val (.int (sel &&& (7 : Int32))), .val .null, .unset]) rfl k_) ?_
    refine own_step (T' := Tc73) (g' := (mkF m 43 #[.val (.int x1), .val (.int y1), .val (.int sel), .val (.ref a9), .val (.ref a34), .val (.ref a62), .val (.int (sel &&& (7 : Int32))), .val .null, .unset] [(.int (0 : Int32))])) (fun t_ k_ => XT.iconstV X86.here hx rfl (0 : Int32) (hb hby at_42) (by decide) k_) ?_
    refine own_step (T' := Tc73) (g' := (mkF m 45 #[.val (.int x1), .val (.int y1), .val (.int sel), .val (.ref a9), .val (.ref a34), .val (.ref a62), .val (.int (sel &&& (7 : Int32))), .val .null, .val (.int (0 : Int32))] [])) (fun t_ k_ => XS.istore X86.here hx rfl (hb hby at_43) rfl (l' := #[.val (.int x1), .val (.int y1), .val (.int sel), .val (.ref a9), .val (.ref a34), .val (.ref a62), .val (.int (sel &&& (7 : Int32))), .val .null, .val (.int (0 : Int32))]) rfl k_) ?_
    refine own_step (T' := Tc73) (g' := (mkF m 200 #[.val (.int x1), .val (.int y1), .val (.int sel), .val (.ref a9), .val (.ref a34), .val (.ref a62), .val (.int (sel &&& (7 : Int32))), .val .null, .val (.int (0 : Int32))] [])) (fun t_ k_ => XS.goto X86.here hx rfl (pc0 := 45) (pc' := 200) rfl (hb hby at_45) (by decide) (by decide) k_) ?_
    refine own_step (T' := Tc73) (g' := (mkF m 202 #[.val (.int x1), .val (.int y1), .val (.int sel), .val (.ref a9), .val (.ref a34), .val (.ref a62), .val (.int (sel &&& (7 : Int32))), .val .null, .val (.int (0 : Int32))] [(.ref a62)])) (fun t_ k_ => XS.aload X86.here hx rfl (hb hby at_200) rfl rfl k_) ?_
    refine own_step (T' := Tc73) (g' := (mkF m 204 #[.val (.int x1), .val (.int y1), .val (.int sel), .val (.ref a9), .val (.ref a34), .val (.ref a62), .val (.int (sel &&& (7 : Int32))), .val .null, .val (.int (0 : Int32))] [.null, (.ref a62)])) (fun t_ k_ => XS.aload X86.here hx rfl (hb hby at_202) rfl rfl k_) ?_
    obtain ⟨cqc89, kqc89, qac89, qbc89, qcc89⟩ := isOf hZ rfl F84
    obtain ⟨_, _, ⟨Tc89, Lc89, kc89, nc89⟩, -, Xc89, ⟨Lcc89, hQc89, lc89, yc89, zc89⟩, stc89⟩ := X86.virtualBack hx (y := (⟨"com/example/mandatum/mandatum/FactBase$Moment", "equals", "(Ljava/lang/Object;)Z"⟩ : MethodName)) (z := (⟨"com/example/mandatum/mandatum/FactBase$Moment", "equals", "(Ljava/lang/Object;)Z"⟩ : MethodName)) hown (mvT hZ (hw _ (List.mem_of_getElem? (i := 43) rfl))) (mvT hZ (hw _ (List.mem_of_getElem? (i := 44) rfl))) (notFace_of_selects (args := #[]) (mvT hZ (hw _ (List.mem_of_getElem? (i := 46) rfl)))) (mvT hZ (hw _ (List.mem_of_getElem? (i := 46) rfl))) (mvT hZ (hw _ (List.mem_of_getElem? (i := 45) rfl))) (by decide) (backOf (W := 0) (rm_eqn l Z a0 hw [] a62 Tc73.heap n0 F80) hZ (hw _ (List.mem_of_getElem? (i := 47) rfl)) (hw _ (List.mem_of_getElem? (i := 29) rfl)) (by decide) (by decide)) qac89 qcc89 (g := (mkF m 204 #[.val (.int x1), .val (.int y1), .val (.int sel), .val (.ref a9), .val (.ref a34), .val (.ref a62), .val (.int (sel &&& (7 : Int32))), .val .null, .val (.int (0 : Int32))] [.null, (.ref a62)])) rfl (by rw [hml]; rfl) (Steps.refl _) (argsL := [.null]) (rest := []) (lenOf pd_3 rfl) rfl (by show 2 * 0 + _ ≤ _; exact Nat.le_of_eq rfl) (hb hby at_204) (fun _ _ => ⟨rfl, rfl, (by decide : 5 + 0 ≤ _), (by decide : 24 + 0 ≤ _)⟩)
    dsimp only [Pt.U, Pt.locs, Pt.cells, Pt.slots] at Xc89 lc89 yc89 zc89 stc89 hQc89
    subst lc89 yc89 zc89
    have X90 := Xc89.more (cells' := 5) (slots' := 24) (by decide) (by decide)
    obtain ⟨rfl, N91, e92⟩ := hQc89
    have N93 := Fr.app N87 N91
    obtain ⟨Lo94, X95, N96⟩ : ∃ Lo_, Stand p l e room_1 s m #[(.int x1), (.int y1), (.int sel)] below meth c Tc89 Lo_ 5 24 ∧ Fr n0 Lo_ := ⟨_, X90, N93⟩
    refine own_step (T' := Tc89) (g' := (mkF m 207 #[.val (.int x1), .val (.int y1), .val (.int sel), .val (.ref a9), .val (.ref a34), .val (.ref a62), .val (.int (sel &&& (7 : Int32))), .val .null, .val (.int (0 : Int32))] [(.int (0 : Int32))])) (fun t_ k_ => stc89.trans k_) ?_
    refine own_step (T' := Tc89) (g' := (mkF m 209 #[.val (.int x1), .val (.int y1), .val (.int sel), .val (.ref a9), .val (.ref a34), .val (.ref a62), .val (.int (sel &&& (7 : Int32))), .val .null, .val (.int (0 : Int32))] [(.int (0 : Int32)), (.int (0 : Int32))])) (fun t_ k_ => XS.iload X95.here hx rfl (hb hby at_207) rfl k_) ?_
    have hk97 : (0 : Int32) = (0 : Int32) := rfl
    refine own_step (T' := Tc89) (g' := (mkF m 212 #[.val (.int x1), .val (.int y1), .val (.int sel), .val (.ref a9), .val (.ref a34), .val (.ref a62), .val (.int (sel &&& (7 : Int32))), .val .null, .val (.int (0 : Int32))] [])) (fun t_ k_ => XS.icmpNo X95.here hx rfl (hb hby at_209) rfl (XT.ii_ne_f hk97) k_) ?_
    refine own_step (T' := Tc89) (g' := (mkF m 213 #[.val (.int x1), .val (.int y1), .val (.int sel), .val (.ref a9), .val (.ref a34), .val (.ref a62), .val (.int (sel &&& (7 : Int32))), .val .null, .val (.int (0 : Int32))] [(.int (1 : Int32))])) (fun t_ k_ => XT.iconstV X95.here hx rfl (1 : Int32) (hb hby at_212) (by decide) k_) ?_
    refine own_step (T' := Tc89) (g' := (mkF m 217 #[.val (.int x1), .val (.int y1), .val (.int sel), .val (.ref a9), .val (.ref a34), .val (.ref a62), .val (.int (sel &&& (7 : Int32))), .val .null, .val (.int (0 : Int32))] [(.int (1 : Int32))])) (fun t_ k_ => XS.goto X95.here hx rfl (pc0 := 213) (pc' := 217) rfl (hb hby at_213) (by decide) (by decide) k_) ?_
    exact own_retN X95 hx hlk (t := .boolean) Bd.returns (by simp) (hb hby at_217) (by rw [e92]; exact ⟨rfl, N96⟩) (by decide) (by decide)
  · refine own_step (T' := Tc73) (g' := (mkF m 48 #[.val (.int x1), .val (.int y1), .val (.int sel), .val (.ref a9), .val (.ref a34), .val (.ref a62), .val (.int (sel &&& (7 : Int32))), .unset, .unset] [])) (fun t_ k_ => XS.ifYes X86.here hx rfl (pc0 := 36) (pc' := 48) rfl (hb hby at_36) rfl (XT.i0_ne_t hb88) (by decide) (by decide) k_) ?_
    refine own_step (T' := Tc73) (g' := (mkF m 50 #[.val (.int x1), .val (.int y1), .val (.int sel), .val (.ref a9), .val (.ref a34), .val (.ref a62), .val (.int (sel &&& (7 : Int32))), .unset, .unset] [(.int (sel &&& (7 : Int32)))])) (fun t_ k_ => XS.iload X86.here hx rfl (hb hby at_48) rfl k_) ?_
    refine own_step (T' := Tc73) (g' := (mkF m 51 #[.val (.int x1), .val (.int y1), .val (.int sel), .val (.ref a9), .val (.ref a34), .val (.ref a62), .val (.int (sel &&& (7 : Int32))), .unset, .unset] [(.int (1 : Int32)), (.int (sel &&& (7 : Int32)))])) (fun t_ k_ => XT.iconstV X86.here hx rfl (1 : Int32) (hb hby at_50) (by decide) k_) ?_
    by_cases hb98 : (sel &&& (7 : Int32)) = (1 : Int32)
    · refine own_step (T' := Tc73) (g' := (mkF m 54 #[.val (.int x1), .val (.int y1), .val (.int sel), .val (.ref a9), .val (.ref a34), .val (.ref a62), .val (.int (sel &&& (7 : Int32))), .unset, .unset] [])) (fun t_ k_ => XS.icmpNo X86.here hx rfl (hb hby at_51) rfl (XT.ii_ne_f hb98) k_) ?_
      refine own_step (T' := Tc73) (g' := (mkF m 55 #[.val (.int x1), .val (.int y1), .val (.int sel), .val (.ref a9), .val (.ref a34), .val (.ref a62), .val (.int (sel &&& (7 : Int32))), .unset, .unset] [(.int x1)])) (fun t_ k_ => XS.iloadN X86.here hx rfl (hb hby at_54) rfl k_) ?_
      obtain ⟨_, _, ⟨Tc99, Lc99, kc99, nc99⟩, -, Xc99, ⟨Lcc99, hQc99, lc99, yc99, zc99⟩, stc99⟩ := Jvm.LawKit.callS X86 hx (y := (⟨"java/lang/Integer", "valueOf", "(I)Ljava/lang/Integer;"⟩ : MethodName)) hown (mvT hZ (hw _ (List.mem_of_getElem? (i := 50) rfl))) (mvT hZ (hw _ (List.mem_of_getElem? (i := 51) rfl))) (mvT hZ (hw _ (List.mem_of_getElem? (i := 52) rfl))) (mvT hZ (hw _ (List.mem_of_getElem? (i := 53) rfl))) (by decide) (backOf (W := 0) (rm_val l Z a0 hw [] x1 cc cl Tc73.heap n0 F80 F81 SH SC AC hsz hel) hZ (hw _ (List.mem_of_getElem? (i := 53) rfl)) (hw _ (List.mem_of_getElem? (i := 52) rfl)) (by decide) (by decide)) (g := (mkF m 55 #[.val (.int x1), .val (.int y1), .val (.int sel), .val (.ref a9), .val (.ref a34), .val (.ref a62), .val (.int (sel &&& (7 : Int32))), .unset, .unset] [(.int x1)])) rfl (by rw [hml]; rfl) (argsL := [(.int x1)]) (rest := []) (lenOf pd_4 rfl) rfl (by show 2 * 0 + _ ≤ _; exact Nat.le_of_eq rfl) (hb hby at_55) (fun _ _ => ⟨rfl, rfl, (by decide : 5 + 1 ≤ _), (by decide : 24 + 1 ≤ _)⟩)
      dsimp only [Pt.U, Pt.locs, Pt.cells, Pt.slots] at Xc99 lc99 yc99 zc99 stc99 hQc99
      subst lc99 yc99 zc99
      have X100 := Xc99.more (cells' := 6) (slots' := 25) (by decide) (by decide)
      obtain ⟨r101, rfl, N102, K103, E104⟩ := hQc99
      have N105 := Fr.app N87 N102
      have F106 : n0 ≤ Tc99.heap.size := Nat.le_trans F80 K103.1
      have F107 : Old Z n0 Tc99.heap := F81.keep K103 all0
      have F108 : Exa Z Tc99.heap a9 "com/example/mandatum/mandatum/FactBase" := F82.keep K103
      have F109 : Exa Z Tc99.heap a34 "com/example/mandatum/mandatum/FactBase" := F83.keep K103
      have F110 : Exa Z Tc99.heap a62 "com/example/mandatum/mandatum/FactBase$Moment" := F84.keep K103
      have F111 : Fld Z Tc99.heap a62 "com/example/mandatum/mandatum/FactBase$Moment" "base" "Lcom/example/mandatum/mandatum/FactBase;" (.ref a9) := F77.keep K103 nin0
      have F112 : Fld Z Tc99.heap a62 "com/example/mandatum/mandatum/FactBase$Moment" "changes" "I" (.int x1) := F78.keep K103 nin0
      obtain ⟨Lo113, X114, N115⟩ : ∃ Lo_, Stand p l e room_1 s m #[(.int x1), (.int y1), (.int sel)] below meth c Tc99 Lo_ 6 25 ∧ Fr n0 Lo_ := ⟨_, X100, N105⟩
      refine own_step (T' := Tc99) (g' := (mkF m 58 #[.val (.int x1), .val (.int y1), .val (.int sel), .val (.ref a9), .val (.ref a34), .val (.ref a62), .val (.int (sel &&& (7 : Int32))), .unset, .unset] [(.ref r101)])) stc99 ?_
      refine own_step (T' := Tc99) (g' := (mkF m 60 #[.val (.int x1), .val (.int y1), .val (.int sel), .val (.ref a9), .val (.ref a34), .val (.ref a62), .val (.int (sel &&& (7 : Int32))), .val (.ref r101), .unset] [])) (fun t_ k_ => XS.astore X114.here hx rfl (hb hby at_58) rfl rfl (l' := #[.val (.int x1), .val (.int y1), .val (.int sel), .val (.ref a9), .val (.ref a34), .val (.ref a62), .val (.int (sel &&& (7 : Int32))), .val (.ref r101), .unset]) rfl k_) ?_
      refine own_step (T' := Tc99) (g' := (mkF m 61 #[.val (.int x1), .val (.int y1), .val (.int sel), .val (.ref a9), .val (.ref a34), .val (.ref a62), .val (.int (sel &&& (7 : Int32))), .val (.ref r101), .unset] [(.int (0 : Int32))])) (fun t_ k_ => XT.iconstV X114.here hx rfl (0 : Int32) (hb hby at_60) (by decide) k_) ?_
      refine own_step (T' := Tc99) (g' := (mkF m 63 #[.val (.int x1), .val (.int y1), .val (.int sel), .val (.ref a9), .val (.ref a34), .val (.ref a62), .val (.int (sel &&& (7 : Int32))), .val (.ref r101), .val (.int (0 : Int32))] [])) (fun t_ k_ => XS.istore X114.here hx rfl (hb hby at_61) rfl (l' := #[.val (.int x1), .val (.int y1), .val (.int sel), .val (.ref a9), .val (.ref a34), .val (.ref a62), .val (.int (sel &&& (7 : Int32))), .val (.ref r101), .val (.int (0 : Int32))]) rfl k_) ?_
      refine own_step (T' := Tc99) (g' := (mkF m 200 #[.val (.int x1), .val (.int y1), .val (.int sel), .val (.ref a9), .val (.ref a34), .val (.ref a62), .val (.int (sel &&& (7 : Int32))), .val (.ref r101), .val (.int (0 : Int32))] [])) (fun t_ k_ => XS.goto X114.here hx rfl (pc0 := 63) (pc' := 200) rfl (hb hby at_63) (by decide) (by decide) k_) ?_
      refine own_step (T' := Tc99) (g' := (mkF m 202 #[.val (.int x1), .val (.int y1), .val (.int sel), .val (.ref a9), .val (.ref a34), .val (.ref a62), .val (.int (sel &&& (7 : Int32))), .val (.ref r101), .val (.int (0 : Int32))] [(.ref a62)])) (fun t_ k_ => XS.aload X114.here hx rfl (hb hby at_200) rfl rfl k_) ?_
      refine own_step (T' := Tc99) (g' := (mkF m 204 #[.val (.int x1), .val (.int y1), .val (.int sel), .val (.ref a9), .val (.ref a34), .val (.ref a62), .val (.int (sel &&& (7 : Int32))), .val (.ref r101), .val (.int (0 : Int32))] [(.ref r101), (.ref a62)])) (fun t_ k_ => XS.aload X114.here hx rfl (hb hby at_202) rfl rfl k_) ?_
      obtain ⟨cqc116, kqc116, qac116, qbc116, qcc116⟩ := isOf hZ rfl F110
      obtain ⟨_, _, ⟨Tc116, Lc116, kc116, nc116⟩, -, Xc116, ⟨Lcc116, hQc116, lc116, yc116, zc116⟩, stc116⟩ := X114.virtualBack hx (y := (⟨"com/example/mandatum/mandatum/FactBase$Moment", "equals", "(Ljava/lang/Object;)Z"⟩ : MethodName)) (z := (⟨"com/example/mandatum/mandatum/FactBase$Moment", "equals", "(Ljava/lang/Object;)Z"⟩ : MethodName)) hown (mvT hZ (hw _ (List.mem_of_getElem? (i := 43) rfl))) (mvT hZ (hw _ (List.mem_of_getElem? (i := 44) rfl))) (notFace_of_selects (args := #[]) (mvT hZ (hw _ (List.mem_of_getElem? (i := 46) rfl)))) (mvT hZ (hw _ (List.mem_of_getElem? (i := 46) rfl))) (mvT hZ (hw _ (List.mem_of_getElem? (i := 45) rfl))) (by decide) (backOf (W := 0) (rm_eqi l Z a0 hw [] a62 r101 Tc99.heap n0 F106 E104) hZ (hw _ (List.mem_of_getElem? (i := 47) rfl)) (hw _ (List.mem_of_getElem? (i := 29) rfl)) (by decide) (by decide)) qac116 qcc116 (g := (mkF m 204 #[.val (.int x1), .val (.int y1), .val (.int sel), .val (.ref a9), .val (.ref a34), .val (.ref a62), .val (.int (sel &&& (7 : Int32))), .val (.ref r101), .val (.int (0 : Int32))] [(.ref r101), (.ref a62)])) rfl (by rw [hml]; rfl) (Steps.refl _) (argsL := [(.ref r101)]) (rest := []) (lenOf pd_3 rfl) rfl (by show 2 * 0 + _ ≤ _; exact Nat.le_of_eq rfl) (hb hby at_204) (fun _ _ => ⟨rfl, rfl, (by decide : 6 + 0 ≤ _), (by decide : 25 + 0 ≤ _)⟩)
      dsimp only [Pt.U, Pt.locs, Pt.cells, Pt.slots] at Xc116 lc116 yc116 zc116 stc116 hQc116
      subst lc116 yc116 zc116
      have X117 := Xc116.more (cells' := 6) (slots' := 25) (by decide) (by decide)
      obtain ⟨rfl, N118, e119⟩ := hQc116
      have N120 := Fr.app N115 N118
      obtain ⟨Lo121, X122, N123⟩ : ∃ Lo_, Stand p l e room_1 s m #[(.int x1), (.int y1), (.int sel)] below meth c Tc116 Lo_ 6 25 ∧ Fr n0 Lo_ := ⟨_, X117, N120⟩
      refine own_step (T' := Tc116) (g' := (mkF m 207 #[.val (.int x1), .val (.int y1), .val (.int sel), .val (.ref a9), .val (.ref a34), .val (.ref a62), .val (.int (sel &&& (7 : Int32))), .val (.ref r101), .val (.int (0 : Int32))] [(.int (0 : Int32))])) (fun t_ k_ => stc116.trans k_) ?_
      refine own_step (T' := Tc116) (g' := (mkF m 209 #[.val (.int x1), .val (.int y1), .val (.int sel), .val (.ref a9), .val (.ref a34), .val (.ref a62), .val (.int (sel &&& (7 : Int32))), .val (.ref r101), .val (.int (0 : Int32))] [(.int (0 : Int32)), (.int (0 : Int32))])) (fun t_ k_ => XS.iload X122.here hx rfl (hb hby at_207) rfl k_) ?_
      have hk124 : (0 : Int32) = (0 : Int32) := rfl
      refine own_step (T' := Tc116) (g' := (mkF m 212 #[.val (.int x1), .val (.int y1), .val (.int sel), .val (.ref a9), .val (.ref a34), .val (.ref a62), .val (.int (sel &&& (7 : Int32))), .val (.ref r101), .val (.int (0 : Int32))] [])) (fun t_ k_ => XS.icmpNo X122.here hx rfl (hb hby at_209) rfl (XT.ii_ne_f hk124) k_) ?_
      refine own_step (T' := Tc116) (g' := (mkF m 213 #[.val (.int x1), .val (.int y1), .val (.int sel), .val (.ref a9), .val (.ref a34), .val (.ref a62), .val (.int (sel &&& (7 : Int32))), .val (.ref r101), .val (.int (0 : Int32))] [(.int (1 : Int32))])) (fun t_ k_ => XT.iconstV X122.here hx rfl (1 : Int32) (hb hby at_212) (by decide) k_) ?_
      refine own_step (T' := Tc116) (g' := (mkF m 217 #[.val (.int x1), .val (.int y1), .val (.int sel), .val (.ref a9), .val (.ref a34), .val (.ref a62), .val (.int (sel &&& (7 : Int32))), .val (.ref r101), .val (.int (0 : Int32))] [(.int (1 : Int32))])) (fun t_ k_ => XS.goto X122.here hx rfl (pc0 := 213) (pc' := 217) rfl (hb hby at_213) (by decide) (by decide) k_) ?_
      exact own_retN X122 hx hlk (t := .boolean) Bd.returns (by simp) (hb hby at_217) (by rw [e119]; exact ⟨rfl, N123⟩) (by decide) (by decide)
    · refine own_step (T' := Tc73) (g' := (mkF m 66 #[.val (.int x1), .val (.int y1), .val (.int sel), .val (.ref a9), .val (.ref a34), .val (.ref a62), .val (.int (sel &&& (7 : Int32))), .unset, .unset] [])) (fun t_ k_ => XS.icmpYes X86.here hx rfl (pc0 := 51) (pc' := 66) rfl (hb hby at_51) rfl (XT.ii_ne_t hb98) (by decide) (by decide) k_) ?_
      refine own_step (T' := Tc73) (g' := (mkF m 68 #[.val (.int x1), .val (.int y1), .val (.int sel), .val (.ref a9), .val (.ref a34), .val (.ref a62), .val (.int (sel &&& (7 : Int32))), .unset, .unset] [(.int (sel &&& (7 : Int32)))])) (fun t_ k_ => XS.iload X86.here hx rfl (hb hby at_66) rfl k_) ?_
      refine own_step (T' := Tc73) (g' := (mkF m 69 #[.val (.int x1), .val (.int y1), .val (.int sel), .val (.ref a9), .val (.ref a34), .val (.ref a62), .val (.int (sel &&& (7 : Int32))), .unset, .unset] [(.int (2 : Int32)), (.int (sel &&& (7 : Int32)))])) (fun t_ k_ => XT.iconstV X86.here hx rfl (2 : Int32) (hb hby at_68) (by decide) k_) ?_
      by_cases hb125 : (sel &&& (7 : Int32)) = (2 : Int32)
      · refine own_step (T' := Tc73) (g' := (mkF m 72 #[.val (.int x1), .val (.int y1), .val (.int sel), .val (.ref a9), .val (.ref a34), .val (.ref a62), .val (.int (sel &&& (7 : Int32))), .unset, .unset] [])) (fun t_ k_ => XS.icmpNo X86.here hx rfl (hb hby at_69) rfl (XT.ii_ne_f hb125) k_) ?_
        obtain ⟨T126, h127, X128, e129, E130, A131, D132, -, st133⟩ := newO X86 hx hZ hown (hw _ (List.mem_of_getElem? (i := 27) rfl)) (hw _ (List.mem_of_getElem? (i := 28) rfl)) (hw _ (List.mem_of_getElem? (i := 29) rfl)) rfl (g := (mkF m 72 #[.val (.int x1), .val (.int y1), .val (.int sel), .val (.ref a9), .val (.ref a34), .val (.ref a62), .val (.int (sel &&& (7 : Int32))), .unset, .unset] [])) rfl (hb hby at_72) (by decide) (by decide)
        obtain ⟨a134, g135⟩ : ∃ z, z = Tc73.heap.size := ⟨_, rfl⟩
        rw [← g135] at A131 D132 st133
        have q136 : n0 ≤ a134 := Nat.le_trans F80 (Nat.le_of_eq g135.symm)
        have ne137 : a9 ≠ a134 := Nat.ne_of_lt (Nat.lt_of_lt_of_le F82.lt (Nat.le_of_eq g135.symm))
        have ne138 : a34 ≠ a134 := Nat.ne_of_lt (Nat.lt_of_lt_of_le F83.lt (Nat.le_of_eq g135.symm))
        have ne139 : a62 ≠ a134 := Nat.ne_of_lt (Nat.lt_of_lt_of_le F84.lt (Nat.le_of_eq g135.symm))
        have F140 : n0 ≤ h127.size := Nat.le_trans F80 E130.1
        have F141 : Old Z n0 h127 := F81.ext E130
        have F142 : Exa Z h127 a9 "com/example/mandatum/mandatum/FactBase" := F82.ext E130
        have F143 : Exa Z h127 a34 "com/example/mandatum/mandatum/FactBase" := F83.ext E130
        have F144 : Exa Z h127 a62 "com/example/mandatum/mandatum/FactBase$Moment" := F84.ext E130
        have F145 : Fld Z h127 a62 "com/example/mandatum/mandatum/FactBase$Moment" "base" "Lcom/example/mandatum/mandatum/FactBase;" (.ref a9) := F77.ext E130
        have F146 : Fld Z h127 a62 "com/example/mandatum/mandatum/FactBase$Moment" "changes" "I" (.int x1) := F78.ext E130
        have F147 : Fld Z h127 a134 "com/example/mandatum/mandatum/FactBase$Moment" "base" "Lcom/example/mandatum/mandatum/FactBase;" .null := D132 (Or.inr (hw _ (List.mem_of_getElem? (i := 40) rfl))) (ty := (.object "com/example/mandatum/mandatum/FactBase")) (by decide)
        have F148 : Fld Z h127 a134 "com/example/mandatum/mandatum/FactBase$Moment" "changes" "I" (.int (0 : Int32)) := D132 (Or.inr (hw _ (List.mem_of_getElem? (i := 42) rfl))) (ty := .int) (by decide)
        refine own_step (T' := T126) (g' := (mkF m 75 #[.val (.int x1), .val (.int y1), .val (.int sel), .val (.ref a9), .val (.ref a34), .val (.ref a62), .val (.int (sel &&& (7 : Int32))), .unset, .unset] [(.ref a134)])) st133 ?_
        refine own_step (T' := T126) (g' := (mkF m 76 #[.val (.int x1), .val (.int y1), .val (.int sel), .val (.ref a9), .val (.ref a34), .val (.ref a62), .val (.int (sel &&& (7 : Int32))), .unset, .unset] [(.ref a134), (.ref a134)])) (fun t_ k_ => XS.dup X128.here hx rfl (hb hby at_75) rfl rfl k_) ?_
        refine own_step (T' := T126) (g' := (mkF m 77 #[.val (.int x1), .val (.int y1), .val (.int sel), .val (.ref a9), .val (.ref a34), .val (.ref a62), .val (.int (sel &&& (7 : Int32))), .unset, .unset] [(.ref a9), (.ref a134), (.ref a134)])) (fun t_ k_ => XS.aloadN X128.here hx rfl (hb hby at_76) rfl rfl k_) ?_
        refine own_step (T' := T126) (g' := (mkF m 78 #[.val (.int x1), .val (.int y1), .val (.int sel), .val (.ref a9), .val (.ref a34), .val (.ref a62), .val (.int (sel &&& (7 : Int32))), .unset, .unset] [(.int y1), (.ref a9), (.ref a134), (.ref a134)])) (fun t_ k_ => XS.iloadN X128.here hx rfl (hb hby at_77) rfl k_) ?_
        obtain ⟨_, _, ⟨Tc149, Lc149, kc149, nc149⟩, -, Xc149, ⟨Lcc149, hQc149, lc149, yc149, zc149⟩, stc149⟩ := X128.specialBack hx (y := (⟨"com/example/mandatum/mandatum/FactBase$Moment", "<init>", "(Lcom/example/mandatum/mandatum/FactBase;I)V"⟩ : MethodName)) rfl hown (mvT hZ (hw _ (List.mem_of_getElem? (i := 30) rfl))) (mvT hZ (hw _ (List.mem_of_getElem? (i := 31) rfl))) (mvT hZ (hw _ (List.mem_of_getElem? (i := 32) rfl))) (by decide) (backOf (W := 1) (rm_mom l Z a0 hw [] a134 a9 y1 .null (0 : Int32) h127 n0 F140 A131 F147 F148 q136) hZ (hw _ (List.mem_of_getElem? (i := 32) rfl)) (hw _ (List.mem_of_getElem? (i := 29) rfl)) (by decide) (by decide)) (g := (mkF m 78 #[.val (.int x1), .val (.int y1), .val (.int sel), .val (.ref a9), .val (.ref a34), .val (.ref a62), .val (.int (sel &&& (7 : Int32))), .unset, .unset] [(.int y1), (.ref a9), (.ref a134), (.ref a134)])) rfl (by rw [hml]; rfl) (Steps.refl _) (a := a134) (argsL := [(.ref a9), (.int y1)]) (rest := [(.ref a134)]) (lenOf pd_2 rfl) rfl (by show 2 * 0 + _ ≤ _; exact Nat.le_of_eq rfl) (hb hby at_78) (fun _ _ => ⟨rfl, e129, (by decide : 6 + 0 ≤ _), (by decide : 26 + 0 ≤ _)⟩)
        dsimp only [Pt.U, Pt.locs, Pt.cells, Pt.slots] at Xc149 lc149 yc149 zc149 stc149 hQc149
        subst lc149 yc149 zc149
        have X150 := Xc149.more (cells' := 6) (slots' := 26) (by decide) (by decide)
        obtain ⟨rfl, N151, K152, F153, F154⟩ := hQc149
        have N155 := Fr.app N87 N151
        have F156 : n0 ≤ Tc149.heap.size := Nat.le_trans F140 K152.1
        have F157 : Old Z n0 Tc149.heap := F141.keep K152 (allS q136 all0)
        have F158 : Exa Z Tc149.heap a9 "com/example/mandatum/mandatum/FactBase" := F142.keep K152
        have F159 : Exa Z Tc149.heap a34 "com/example/mandatum/mandatum/FactBase" := F143.keep K152
        have F160 : Exa Z Tc149.heap a62 "com/example/mandatum/mandatum/FactBase$Moment" := F144.keep K152
        have F161 : Fld Z Tc149.heap a62 "com/example/mandatum/mandatum/FactBase$Moment" "base" "Lcom/example/mandatum/mandatum/FactBase;" (.ref a9) := F145.keep K152 (ninS ne139 nin0)
        have F162 : Fld Z Tc149.heap a62 "com/example/mandatum/mandatum/FactBase$Moment" "changes" "I" (.int x1) := F146.keep K152 (ninS ne139 nin0)
        have F163 : Exa Z Tc149.heap a134 "com/example/mandatum/mandatum/FactBase$Moment" := A131.keep K152
        obtain ⟨Lo164, X165, N166⟩ : ∃ Lo_, Stand p l e room_1 s m #[(.int x1), (.int y1), (.int sel)] below meth c Tc149 Lo_ 6 26 ∧ Fr n0 Lo_ := ⟨_, X150, N155⟩
        refine own_step (T' := Tc149) (g' := (mkF m 81 #[.val (.int x1), .val (.int y1), .val (.int sel), .val (.ref a9), .val (.ref a34), .val (.ref a62), .val (.int (sel &&& (7 : Int32))), .unset, .unset] [(.ref a134)])) (fun t_ k_ => stc149.trans k_) ?_
        refine own_step (T' := Tc149) (g' := (mkF m 83 #[.val (.int x1), .val (.int y1), .val (.int sel), .val (.ref a9), .val (.ref a34), .val (.ref a62), .val (.int (sel &&& (7 : Int32))), .val (.ref a134), .unset] [])) (fun t_ k_ => XS.astore X165.here hx rfl (hb hby at_81) rfl rfl (l' := #[.val (.int x1), .val (.int y1), .val (.int sel), .val (.ref a9), .val (.ref a34), .val (.ref a62), .val (.int (sel &&& (7 : Int32))), .val (.ref a134), .unset]) rfl k_) ?_
        refine own_step (T' := Tc149) (g' := (mkF m 84 #[.val (.int x1), .val (.int y1), .val (.int sel), .val (.ref a9), .val (.ref a34), .val (.ref a62), .val (.int (sel &&& (7 : Int32))), .val (.ref a134), .unset] [(.int x1)])) (fun t_ k_ => XS.iloadN X165.here hx rfl (hb hby at_83) rfl k_) ?_
        refine own_step (T' := Tc149) (g' := (mkF m 85 #[.val (.int x1), .val (.int y1), .val (.int sel), .val (.ref a9), .val (.ref a34), .val (.ref a62), .val (.int (sel &&& (7 : Int32))), .val (.ref a134), .unset] [(.int y1), (.int x1)])) (fun t_ k_ => XS.iloadN X165.here hx rfl (hb hby at_84) rfl k_) ?_
        suffices k168 : ∀ v169 : Int32, v169 = (if x1 = y1 then (1 : Int32) else (0 : Int32)) → own_Fin p e below s (Q_10 h0 n0) 6 28 Tc149 (mkF m 93 #[.val (.int x1), .val (.int y1), .val (.int sel), .val (.ref a9), .val (.ref a34), .val (.ref a62), .val (.int (sel &&& (7 : Int32))), .val (.ref a134), .unset] [(.int v169)]) by
          by_cases hb167 : x1 = y1
          · refine own_step (T' := Tc149) (g' := (mkF m 88 #[.val (.int x1), .val (.int y1), .val (.int sel), .val (.ref a9), .val (.ref a34), .val (.ref a62), .val (.int (sel &&& (7 : Int32))), .val (.ref a134), .unset] [])) (fun t_ k_ => XS.icmpNo X165.here hx rfl (hb hby at_85) rfl (XT.ii_ne_f hb167) k_) ?_
            refine own_step (T' := Tc149) (g' := (mkF m 89 #[.val (.int x1), .val (.int y1), .val (.int sel), .val (.ref a9), .val (.ref a34), .val (.ref a62), .val (.int (sel &&& (7 : Int32))), .val (.ref a134), .unset] [(.int (1 : Int32))])) (fun t_ k_ => XT.iconstV X165.here hx rfl (1 : Int32) (hb hby at_88) (by decide) k_) ?_
            refine own_step (T' := Tc149) (g' := (mkF m 93 #[.val (.int x1), .val (.int y1), .val (.int sel), .val (.ref a9), .val (.ref a34), .val (.ref a62), .val (.int (sel &&& (7 : Int32))), .val (.ref a134), .unset] [(.int (1 : Int32))])) (fun t_ k_ => XS.goto X165.here hx rfl (pc0 := 89) (pc' := 93) rfl (hb hby at_89) (by decide) (by decide) k_) ?_
            exact k168 _ (if_pos hb167).symm
          · refine own_step (T' := Tc149) (g' := (mkF m 92 #[.val (.int x1), .val (.int y1), .val (.int sel), .val (.ref a9), .val (.ref a34), .val (.ref a62), .val (.int (sel &&& (7 : Int32))), .val (.ref a134), .unset] [])) (fun t_ k_ => XS.icmpYes X165.here hx rfl (pc0 := 85) (pc' := 92) rfl (hb hby at_85) rfl (XT.ii_ne_t hb167) (by decide) (by decide) k_) ?_
            refine own_step (T' := Tc149) (g' := (mkF m 93 #[.val (.int x1), .val (.int y1), .val (.int sel), .val (.ref a9), .val (.ref a34), .val (.ref a62), .val (.int (sel &&& (7 : Int32))), .val (.ref a134), .unset] [(.int (0 : Int32))])) (fun t_ k_ => XT.iconstV X165.here hx rfl (0 : Int32) (hb hby at_92) (by decide) k_) ?_
            exact k168 _ (if_neg hb167).symm
        intro v169 hv169
        refine own_step (T' := Tc149) (g' := (mkF m 95 #[.val (.int x1), .val (.int y1), .val (.int sel), .val (.ref a9), .val (.ref a34), .val (.ref a62), .val (.int (sel &&& (7 : Int32))), .val (.ref a134), .val (.int v169)] [])) (fun t_ k_ => XS.istore X165.here hx rfl (hb hby at_93) rfl (l' := #[.val (.int x1), .val (.int y1), .val (.int sel), .val (.ref a9), .val (.ref a34), .val (.ref a62), .val (.int (sel &&& (7 : Int32))), .val (.ref a134), .val (.int v169)]) rfl k_) ?_
        refine own_step (T' := Tc149) (g' := (mkF m 200 #[.val (.int x1), .val (.int y1), .val (.int sel), .val (.ref a9), .val (.ref a34), .val (.ref a62), .val (.int (sel &&& (7 : Int32))), .val (.ref a134), .val (.int v169)] [])) (fun t_ k_ => XS.goto X165.here hx rfl (pc0 := 95) (pc' := 200) rfl (hb hby at_95) (by decide) (by decide) k_) ?_
        refine own_step (T' := Tc149) (g' := (mkF m 202 #[.val (.int x1), .val (.int y1), .val (.int sel), .val (.ref a9), .val (.ref a34), .val (.ref a62), .val (.int (sel &&& (7 : Int32))), .val (.ref a134), .val (.int v169)] [(.ref a62)])) (fun t_ k_ => XS.aload X165.here hx rfl (hb hby at_200) rfl rfl k_) ?_
        refine own_step (T' := Tc149) (g' := (mkF m 204 #[.val (.int x1), .val (.int y1), .val (.int sel), .val (.ref a9), .val (.ref a34), .val (.ref a62), .val (.int (sel &&& (7 : Int32))), .val (.ref a134), .val (.int v169)] [(.ref a134), (.ref a62)])) (fun t_ k_ => XS.aload X165.here hx rfl (hb hby at_202) rfl rfl k_) ?_
        obtain ⟨cqc170, kqc170, qac170, qbc170, qcc170⟩ := isOf hZ rfl F160
        obtain ⟨_, _, ⟨Tc170, Lc170, kc170, nc170⟩, -, Xc170, ⟨Lcc170, hQc170, lc170, yc170, zc170⟩, stc170⟩ := X165.virtualBack hx (y := (⟨"com/example/mandatum/mandatum/FactBase$Moment", "equals", "(Ljava/lang/Object;)Z"⟩ : MethodName)) (z := (⟨"com/example/mandatum/mandatum/FactBase$Moment", "equals", "(Ljava/lang/Object;)Z"⟩ : MethodName)) hown (mvT hZ (hw _ (List.mem_of_getElem? (i := 43) rfl))) (mvT hZ (hw _ (List.mem_of_getElem? (i := 44) rfl))) (notFace_of_selects (args := #[]) (mvT hZ (hw _ (List.mem_of_getElem? (i := 46) rfl)))) (mvT hZ (hw _ (List.mem_of_getElem? (i := 46) rfl))) (mvT hZ (hw _ (List.mem_of_getElem? (i := 45) rfl))) (by decide) (backOf (W := 0) (rm_eqm l Z a0 hw [] a62 a134 a9 a9 x1 y1 Tc149.heap n0 F156 F163 F161 F162 F153 F154) hZ (hw _ (List.mem_of_getElem? (i := 47) rfl)) (hw _ (List.mem_of_getElem? (i := 29) rfl)) (by decide) (by decide)) qac170 qcc170 (g := (mkF m 204 #[.val (.int x1), .val (.int y1), .val (.int sel), .val (.ref a9), .val (.ref a34), .val (.ref a62), .val (.int (sel &&& (7 : Int32))), .val (.ref a134), .val (.int v169)] [(.ref a134), (.ref a62)])) rfl (by rw [hml]; rfl) (Steps.refl _) (argsL := [(.ref a134)]) (rest := []) (lenOf pd_3 rfl) rfl (by show 2 * 0 + _ ≤ _; exact Nat.le_of_eq rfl) (hb hby at_204) (fun _ _ => ⟨rfl, rfl, (by decide : 6 + 0 ≤ _), (by decide : 26 + 0 ≤ _)⟩)
        dsimp only [Pt.U, Pt.locs, Pt.cells, Pt.slots] at Xc170 lc170 yc170 zc170 stc170 hQc170
        subst lc170 yc170 zc170
        have X171 := Xc170.more (cells' := 6) (slots' := 26) (by decide) (by decide)
        obtain ⟨rfl, N172, e173⟩ := hQc170
        have N174 := Fr.app N166 N172
        obtain ⟨Lo175, X176, N177⟩ : ∃ Lo_, Stand p l e room_1 s m #[(.int x1), (.int y1), (.int sel)] below meth c Tc170 Lo_ 6 26 ∧ Fr n0 Lo_ := ⟨_, X171, N174⟩
        refine own_step (T' := Tc170) (g' := (mkF m 207 #[.val (.int x1), .val (.int y1), .val (.int sel), .val (.ref a9), .val (.ref a34), .val (.ref a62), .val (.int (sel &&& (7 : Int32))), .val (.ref a134), .val (.int v169)] [(.int (if a9 = a9 then (if x1 = y1 then (1 : Int32) else (0 : Int32)) else (0 : Int32)))])) (fun t_ k_ => stc170.trans k_) ?_
        refine own_step (T' := Tc170) (g' := (mkF m 209 #[.val (.int x1), .val (.int y1), .val (.int sel), .val (.ref a9), .val (.ref a34), .val (.ref a62), .val (.int (sel &&& (7 : Int32))), .val (.ref a134), .val (.int v169)] [(.int v169), (.int (if a9 = a9 then (if x1 = y1 then (1 : Int32) else (0 : Int32)) else (0 : Int32)))])) (fun t_ k_ => XS.iload X176.here hx rfl (hb hby at_207) rfl k_) ?_
        have hk178 : (if a9 = a9 then (if x1 = y1 then (1 : Int32) else (0 : Int32)) else (0 : Int32)) = v169 := (if_pos rfl).trans hv169.symm
        refine own_step (T' := Tc170) (g' := (mkF m 212 #[.val (.int x1), .val (.int y1), .val (.int sel), .val (.ref a9), .val (.ref a34), .val (.ref a62), .val (.int (sel &&& (7 : Int32))), .val (.ref a134), .val (.int v169)] [])) (fun t_ k_ => XS.icmpNo X176.here hx rfl (hb hby at_209) rfl (XT.ii_ne_f hk178) k_) ?_
        refine own_step (T' := Tc170) (g' := (mkF m 213 #[.val (.int x1), .val (.int y1), .val (.int sel), .val (.ref a9), .val (.ref a34), .val (.ref a62), .val (.int (sel &&& (7 : Int32))), .val (.ref a134), .val (.int v169)] [(.int (1 : Int32))])) (fun t_ k_ => XT.iconstV X176.here hx rfl (1 : Int32) (hb hby at_212) (by decide) k_) ?_
        refine own_step (T' := Tc170) (g' := (mkF m 217 #[.val (.int x1), .val (.int y1), .val (.int sel), .val (.ref a9), .val (.ref a34), .val (.ref a62), .val (.int (sel &&& (7 : Int32))), .val (.ref a134), .val (.int v169)] [(.int (1 : Int32))])) (fun t_ k_ => XS.goto X176.here hx rfl (pc0 := 213) (pc' := 217) rfl (hb hby at_213) (by decide) (by decide) k_) ?_
        exact own_retN X176 hx hlk (t := .boolean) Bd.returns (by simp) (hb hby at_217) (by rw [e173]; exact ⟨rfl, N177⟩) (by decide) (by decide)
      · refine own_step (T' := Tc73) (g' := (mkF m 98 #[.val (.int x1), .val (.int y1), .val (.int sel), .val (.ref a9), .val (.ref a34), .val (.ref a62), .val (.int (sel &&& (7 : Int32))), .unset, .unset] [])) (fun t_ k_ => XS.icmpYes X86.here hx rfl (pc0 := 69) (pc' := 98) rfl (hb hby at_69) rfl (XT.ii_ne_t hb125) (by decide) (by decide) k_) ?_
        refine own_step (T' := Tc73) (g' := (mkF m 100 #[.val (.int x1), .val (.int y1), .val (.int sel), .val (.ref a9), .val (.ref a34), .val (.ref a62), .val (.int (sel &&& (7 : Int32))), .unset, .unset] [(.int (sel &&& (7 : Int32)))])) (fun t_ k_ => XS.iload X86.here hx rfl (hb hby at_98) rfl k_) ?_
        refine own_step (T' := Tc73) (g' := (mkF m 101 #[.val (.int x1), .val (.int y1), .val (.int sel), .val (.ref a9), .val (.ref a34), .val (.ref a62), .val (.int (sel &&& (7 : Int32))), .unset, .unset] [(.int (3 : Int32)), (.int (sel &&& (7 : Int32)))])) (fun t_ k_ => XT.iconstV X86.here hx rfl (3 : Int32) (hb hby at_100) (by decide) k_) ?_
        by_cases hb179 : (sel &&& (7 : Int32)) = (3 : Int32)
        · refine own_step (T' := Tc73) (g' := (mkF m 104 #[.val (.int x1), .val (.int y1), .val (.int sel), .val (.ref a9), .val (.ref a34), .val (.ref a62), .val (.int (sel &&& (7 : Int32))), .unset, .unset] [])) (fun t_ k_ => XS.icmpNo X86.here hx rfl (hb hby at_101) rfl (XT.ii_ne_f hb179) k_) ?_
          obtain ⟨T180, h181, X182, e183, E184, A185, D186, -, st187⟩ := newO X86 hx hZ hown (hw _ (List.mem_of_getElem? (i := 27) rfl)) (hw _ (List.mem_of_getElem? (i := 28) rfl)) (hw _ (List.mem_of_getElem? (i := 29) rfl)) rfl (g := (mkF m 104 #[.val (.int x1), .val (.int y1), .val (.int sel), .val (.ref a9), .val (.ref a34), .val (.ref a62), .val (.int (sel &&& (7 : Int32))), .unset, .unset] [])) rfl (hb hby at_104) (by decide) (by decide)
          obtain ⟨a188, g189⟩ : ∃ z, z = Tc73.heap.size := ⟨_, rfl⟩
          rw [← g189] at A185 D186 st187
          have q190 : n0 ≤ a188 := Nat.le_trans F80 (Nat.le_of_eq g189.symm)
          have ne191 : a9 ≠ a188 := Nat.ne_of_lt (Nat.lt_of_lt_of_le F82.lt (Nat.le_of_eq g189.symm))
          have ne192 : a34 ≠ a188 := Nat.ne_of_lt (Nat.lt_of_lt_of_le F83.lt (Nat.le_of_eq g189.symm))
          have ne193 : a62 ≠ a188 := Nat.ne_of_lt (Nat.lt_of_lt_of_le F84.lt (Nat.le_of_eq g189.symm))
          have F194 : n0 ≤ h181.size := Nat.le_trans F80 E184.1
          have F195 : Old Z n0 h181 := F81.ext E184
          have F196 : Exa Z h181 a9 "com/example/mandatum/mandatum/FactBase" := F82.ext E184
          have F197 : Exa Z h181 a34 "com/example/mandatum/mandatum/FactBase" := F83.ext E184
          have F198 : Exa Z h181 a62 "com/example/mandatum/mandatum/FactBase$Moment" := F84.ext E184
          have F199 : Fld Z h181 a62 "com/example/mandatum/mandatum/FactBase$Moment" "base" "Lcom/example/mandatum/mandatum/FactBase;" (.ref a9) := F77.ext E184
          have F200 : Fld Z h181 a62 "com/example/mandatum/mandatum/FactBase$Moment" "changes" "I" (.int x1) := F78.ext E184
          have F201 : Fld Z h181 a188 "com/example/mandatum/mandatum/FactBase$Moment" "base" "Lcom/example/mandatum/mandatum/FactBase;" .null := D186 (Or.inr (hw _ (List.mem_of_getElem? (i := 40) rfl))) (ty := (.object "com/example/mandatum/mandatum/FactBase")) (by decide)
          have F202 : Fld Z h181 a188 "com/example/mandatum/mandatum/FactBase$Moment" "changes" "I" (.int (0 : Int32)) := D186 (Or.inr (hw _ (List.mem_of_getElem? (i := 42) rfl))) (ty := .int) (by decide)
          refine own_step (T' := T180) (g' := (mkF m 107 #[.val (.int x1), .val (.int y1), .val (.int sel), .val (.ref a9), .val (.ref a34), .val (.ref a62), .val (.int (sel &&& (7 : Int32))), .unset, .unset] [(.ref a188)])) st187 ?_
          refine own_step (T' := T180) (g' := (mkF m 108 #[.val (.int x1), .val (.int y1), .val (.int sel), .val (.ref a9), .val (.ref a34), .val (.ref a62), .val (.int (sel &&& (7 : Int32))), .unset, .unset] [(.ref a188), (.ref a188)])) (fun t_ k_ => XS.dup X182.here hx rfl (hb hby at_107) rfl rfl k_) ?_
          refine own_step (T' := T180) (g' := (mkF m 110 #[.val (.int x1), .val (.int y1), .val (.int sel), .val (.ref a9), .val (.ref a34), .val (.ref a62), .val (.int (sel &&& (7 : Int32))), .unset, .unset] [(.ref a34), (.ref a188), (.ref a188)])) (fun t_ k_ => XS.aload X182.here hx rfl (hb hby at_108) rfl rfl k_) ?_
          refine own_step (T' := T180) (g' := (mkF m 111 #[.val (.int x1), .val (.int y1), .val (.int sel), .val (.ref a9), .val (.ref a34), .val (.ref a62), .val (.int (sel &&& (7 : Int32))), .unset, .unset] [(.int y1), (.ref a34), (.ref a188), (.ref a188)])) (fun t_ k_ => XS.iloadN X182.here hx rfl (hb hby at_110) rfl k_) ?_
          obtain ⟨_, _, ⟨Tc203, Lc203, kc203, nc203⟩, -, Xc203, ⟨Lcc203, hQc203, lc203, yc203, zc203⟩, stc203⟩ := X182.specialBack hx (y := (⟨"com/example/mandatum/mandatum/FactBase$Moment", "<init>", "(Lcom/example/mandatum/mandatum/FactBase;I)V"⟩ : MethodName)) rfl hown (mvT hZ (hw _ (List.mem_of_getElem? (i := 30) rfl))) (mvT hZ (hw _ (List.mem_of_getElem? (i := 31) rfl))) (mvT hZ (hw _ (List.mem_of_getElem? (i := 32) rfl))) (by decide) (backOf (W := 1) (rm_mom l Z a0 hw [] a188 a34 y1 .null (0 : Int32) h181 n0 F194 A185 F201 F202 q190) hZ (hw _ (List.mem_of_getElem? (i := 32) rfl)) (hw _ (List.mem_of_getElem? (i := 29) rfl)) (by decide) (by decide)) (g := (mkF m 111 #[.val (.int x1), .val (.int y1), .val (.int sel), .val (.ref a9), .val (.ref a34), .val (.ref a62), .val (.int (sel &&& (7 : Int32))), .unset, .unset] [(.int y1), (.ref a34), (.ref a188), (.ref a188)])) rfl (by rw [hml]; rfl) (Steps.refl _) (a := a188) (argsL := [(.ref a34), (.int y1)]) (rest := [(.ref a188)]) (lenOf pd_2 rfl) rfl (by show 2 * 0 + _ ≤ _; exact Nat.le_of_eq rfl) (hb hby at_111) (fun _ _ => ⟨rfl, e183, (by decide : 6 + 0 ≤ _), (by decide : 26 + 0 ≤ _)⟩)
          dsimp only [Pt.U, Pt.locs, Pt.cells, Pt.slots] at Xc203 lc203 yc203 zc203 stc203 hQc203
          subst lc203 yc203 zc203
          have X204 := Xc203.more (cells' := 6) (slots' := 26) (by decide) (by decide)
          obtain ⟨rfl, N205, K206, F207, F208⟩ := hQc203
          have N209 := Fr.app N87 N205
          have F210 : n0 ≤ Tc203.heap.size := Nat.le_trans F194 K206.1
          have F211 : Old Z n0 Tc203.heap := F195.keep K206 (allS q190 all0)
          have F212 : Exa Z Tc203.heap a9 "com/example/mandatum/mandatum/FactBase" := F196.keep K206
          have F213 : Exa Z Tc203.heap a34 "com/example/mandatum/mandatum/FactBase" := F197.keep K206
          have F214 : Exa Z Tc203.heap a62 "com/example/mandatum/mandatum/FactBase$Moment" := F198.keep K206
          have F215 : Fld Z Tc203.heap a62 "com/example/mandatum/mandatum/FactBase$Moment" "base" "Lcom/example/mandatum/mandatum/FactBase;" (.ref a9) := F199.keep K206 (ninS ne193 nin0)
          have F216 : Fld Z Tc203.heap a62 "com/example/mandatum/mandatum/FactBase$Moment" "changes" "I" (.int x1) := F200.keep K206 (ninS ne193 nin0)
          have F217 : Exa Z Tc203.heap a188 "com/example/mandatum/mandatum/FactBase$Moment" := A185.keep K206
          obtain ⟨Lo218, X219, N220⟩ : ∃ Lo_, Stand p l e room_1 s m #[(.int x1), (.int y1), (.int sel)] below meth c Tc203 Lo_ 6 26 ∧ Fr n0 Lo_ := ⟨_, X204, N209⟩
          refine own_step (T' := Tc203) (g' := (mkF m 114 #[.val (.int x1), .val (.int y1), .val (.int sel), .val (.ref a9), .val (.ref a34), .val (.ref a62), .val (.int (sel &&& (7 : Int32))), .unset, .unset] [(.ref a188)])) (fun t_ k_ => stc203.trans k_) ?_
          refine own_step (T' := Tc203) (g' := (mkF m 116 #[.val (.int x1), .val (.int y1), .val (.int sel), .val (.ref a9), .val (.ref a34), .val (.ref a62), .val (.int (sel &&& (7 : Int32))), .val (.ref a188), .unset] [])) (fun t_ k_ => XS.astore X219.here hx rfl (hb hby at_114) rfl rfl (l' := #[.val (.int x1), .val (.int y1), .val (.int sel), .val (.ref a9), .val (.ref a34), .val (.ref a62), .val (.int (sel &&& (7 : Int32))), .val (.ref a188), .unset]) rfl k_) ?_
          refine own_step (T' := Tc203) (g' := (mkF m 117 #[.val (.int x1), .val (.int y1), .val (.int sel), .val (.ref a9), .val (.ref a34), .val (.ref a62), .val (.int (sel &&& (7 : Int32))), .val (.ref a188), .unset] [(.int (0 : Int32))])) (fun t_ k_ => XT.iconstV X219.here hx rfl (0 : Int32) (hb hby at_116) (by decide) k_) ?_
          refine own_step (T' := Tc203) (g' := (mkF m 119 #[.val (.int x1), .val (.int y1), .val (.int sel), .val (.ref a9), .val (.ref a34), .val (.ref a62), .val (.int (sel &&& (7 : Int32))), .val (.ref a188), .val (.int (0 : Int32))] [])) (fun t_ k_ => XS.istore X219.here hx rfl (hb hby at_117) rfl (l' := #[.val (.int x1), .val (.int y1), .val (.int sel), .val (.ref a9), .val (.ref a34), .val (.ref a62), .val (.int (sel &&& (7 : Int32))), .val (.ref a188), .val (.int (0 : Int32))]) rfl k_) ?_
          refine own_step (T' := Tc203) (g' := (mkF m 200 #[.val (.int x1), .val (.int y1), .val (.int sel), .val (.ref a9), .val (.ref a34), .val (.ref a62), .val (.int (sel &&& (7 : Int32))), .val (.ref a188), .val (.int (0 : Int32))] [])) (fun t_ k_ => XS.goto X219.here hx rfl (pc0 := 119) (pc' := 200) rfl (hb hby at_119) (by decide) (by decide) k_) ?_
          refine own_step (T' := Tc203) (g' := (mkF m 202 #[.val (.int x1), .val (.int y1), .val (.int sel), .val (.ref a9), .val (.ref a34), .val (.ref a62), .val (.int (sel &&& (7 : Int32))), .val (.ref a188), .val (.int (0 : Int32))] [(.ref a62)])) (fun t_ k_ => XS.aload X219.here hx rfl (hb hby at_200) rfl rfl k_) ?_
          refine own_step (T' := Tc203) (g' := (mkF m 204 #[.val (.int x1), .val (.int y1), .val (.int sel), .val (.ref a9), .val (.ref a34), .val (.ref a62), .val (.int (sel &&& (7 : Int32))), .val (.ref a188), .val (.int (0 : Int32))] [(.ref a188), (.ref a62)])) (fun t_ k_ => XS.aload X219.here hx rfl (hb hby at_202) rfl rfl k_) ?_
          obtain ⟨cqc221, kqc221, qac221, qbc221, qcc221⟩ := isOf hZ rfl F214
          obtain ⟨_, _, ⟨Tc221, Lc221, kc221, nc221⟩, -, Xc221, ⟨Lcc221, hQc221, lc221, yc221, zc221⟩, stc221⟩ := X219.virtualBack hx (y := (⟨"com/example/mandatum/mandatum/FactBase$Moment", "equals", "(Ljava/lang/Object;)Z"⟩ : MethodName)) (z := (⟨"com/example/mandatum/mandatum/FactBase$Moment", "equals", "(Ljava/lang/Object;)Z"⟩ : MethodName)) hown (mvT hZ (hw _ (List.mem_of_getElem? (i := 43) rfl))) (mvT hZ (hw _ (List.mem_of_getElem? (i := 44) rfl))) (notFace_of_selects (args := #[]) (mvT hZ (hw _ (List.mem_of_getElem? (i := 46) rfl)))) (mvT hZ (hw _ (List.mem_of_getElem? (i := 46) rfl))) (mvT hZ (hw _ (List.mem_of_getElem? (i := 45) rfl))) (by decide) (backOf (W := 0) (rm_eqm l Z a0 hw [] a62 a188 a9 a34 x1 y1 Tc203.heap n0 F210 F217 F215 F216 F207 F208) hZ (hw _ (List.mem_of_getElem? (i := 47) rfl)) (hw _ (List.mem_of_getElem? (i := 29) rfl)) (by decide) (by decide)) qac221 qcc221 (g := (mkF m 204 #[.val (.int x1), .val (.int y1), .val (.int sel), .val (.ref a9), .val (.ref a34), .val (.ref a62), .val (.int (sel &&& (7 : Int32))), .val (.ref a188), .val (.int (0 : Int32))] [(.ref a188), (.ref a62)])) rfl (by rw [hml]; rfl) (Steps.refl _) (argsL := [(.ref a188)]) (rest := []) (lenOf pd_3 rfl) rfl (by show 2 * 0 + _ ≤ _; exact Nat.le_of_eq rfl) (hb hby at_204) (fun _ _ => ⟨rfl, rfl, (by decide : 6 + 0 ≤ _), (by decide : 26 + 0 ≤ _)⟩)
          dsimp only [Pt.U, Pt.locs, Pt.cells, Pt.slots] at Xc221 lc221 yc221 zc221 stc221 hQc221
          subst lc221 yc221 zc221
          have X222 := Xc221.more (cells' := 6) (slots' := 26) (by decide) (by decide)
          obtain ⟨rfl, N223, e224⟩ := hQc221
          have N225 := Fr.app N220 N223
          obtain ⟨Lo226, X227, N228⟩ : ∃ Lo_, Stand p l e room_1 s m #[(.int x1), (.int y1), (.int sel)] below meth c Tc221 Lo_ 6 26 ∧ Fr n0 Lo_ := ⟨_, X222, N225⟩
          refine own_step (T' := Tc221) (g' := (mkF m 207 #[.val (.int x1), .val (.int y1), .val (.int sel), .val (.ref a9), .val (.ref a34), .val (.ref a62), .val (.int (sel &&& (7 : Int32))), .val (.ref a188), .val (.int (0 : Int32))] [(.int (if a9 = a34 then (if x1 = y1 then (1 : Int32) else (0 : Int32)) else (0 : Int32)))])) (fun t_ k_ => stc221.trans k_) ?_
          refine own_step (T' := Tc221) (g' := (mkF m 209 #[.val (.int x1), .val (.int y1), .val (.int sel), .val (.ref a9), .val (.ref a34), .val (.ref a62), .val (.int (sel &&& (7 : Int32))), .val (.ref a188), .val (.int (0 : Int32))] [(.int (0 : Int32)), (.int (if a9 = a34 then (if x1 = y1 then (1 : Int32) else (0 : Int32)) else (0 : Int32)))])) (fun t_ k_ => XS.iload X227.here hx rfl (hb hby at_207) rfl k_) ?_
          have hk229 : (if a9 = a34 then (if x1 = y1 then (1 : Int32) else (0 : Int32)) else (0 : Int32)) = (0 : Int32) := if_neg ne37
          refine own_step (T' := Tc221) (g' := (mkF m 212 #[.val (.int x1), .val (.int y1), .val (.int sel), .val (.ref a9), .val (.ref a34), .val (.ref a62), .val (.int (sel &&& (7 : Int32))), .val (.ref a188), .val (.int (0 : Int32))] [])) (fun t_ k_ => XS.icmpNo X227.here hx rfl (hb hby at_209) rfl (XT.ii_ne_f hk229) k_) ?_
          refine own_step (T' := Tc221) (g' := (mkF m 213 #[.val (.int x1), .val (.int y1), .val (.int sel), .val (.ref a9), .val (.ref a34), .val (.ref a62), .val (.int (sel &&& (7 : Int32))), .val (.ref a188), .val (.int (0 : Int32))] [(.int (1 : Int32))])) (fun t_ k_ => XT.iconstV X227.here hx rfl (1 : Int32) (hb hby at_212) (by decide) k_) ?_
          refine own_step (T' := Tc221) (g' := (mkF m 217 #[.val (.int x1), .val (.int y1), .val (.int sel), .val (.ref a9), .val (.ref a34), .val (.ref a62), .val (.int (sel &&& (7 : Int32))), .val (.ref a188), .val (.int (0 : Int32))] [(.int (1 : Int32))])) (fun t_ k_ => XS.goto X227.here hx rfl (pc0 := 213) (pc' := 217) rfl (hb hby at_213) (by decide) (by decide) k_) ?_
          exact own_retN X227 hx hlk (t := .boolean) Bd.returns (by simp) (hb hby at_217) (by rw [e224]; exact ⟨rfl, N228⟩) (by decide) (by decide)
        · refine own_step (T' := Tc73) (g' := (mkF m 122 #[.val (.int x1), .val (.int y1), .val (.int sel), .val (.ref a9), .val (.ref a34), .val (.ref a62), .val (.int (sel &&& (7 : Int32))), .unset, .unset] [])) (fun t_ k_ => XS.icmpYes X86.here hx rfl (pc0 := 101) (pc' := 122) rfl (hb hby at_101) rfl (XT.ii_ne_t hb179) (by decide) (by decide) k_) ?_
          refine own_step (T' := Tc73) (g' := (mkF m 124 #[.val (.int x1), .val (.int y1), .val (.int sel), .val (.ref a9), .val (.ref a34), .val (.ref a62), .val (.int (sel &&& (7 : Int32))), .unset, .unset] [(.int (sel &&& (7 : Int32)))])) (fun t_ k_ => XS.iload X86.here hx rfl (hb hby at_122) rfl k_) ?_
          refine own_step (T' := Tc73) (g' := (mkF m 125 #[.val (.int x1), .val (.int y1), .val (.int sel), .val (.ref a9), .val (.ref a34), .val (.ref a62), .val (.int (sel &&& (7 : Int32))), .unset, .unset] [(.int (4 : Int32)), (.int (sel &&& (7 : Int32)))])) (fun t_ k_ => XT.iconstV X86.here hx rfl (4 : Int32) (hb hby at_124) (by decide) k_) ?_
          by_cases hb230 : (sel &&& (7 : Int32)) = (4 : Int32)
          · refine own_step (T' := Tc73) (g' := (mkF m 128 #[.val (.int x1), .val (.int y1), .val (.int sel), .val (.ref a9), .val (.ref a34), .val (.ref a62), .val (.int (sel &&& (7 : Int32))), .unset, .unset] [])) (fun t_ k_ => XS.icmpNo X86.here hx rfl (hb hby at_125) rfl (XT.ii_ne_f hb230) k_) ?_
            obtain ⟨T231, h232, X233, e234, E235, A236, D237, -, st238⟩ := newO X86 hx hZ hown (hw _ (List.mem_of_getElem? (i := 27) rfl)) (hw _ (List.mem_of_getElem? (i := 28) rfl)) (hw _ (List.mem_of_getElem? (i := 29) rfl)) rfl (g := (mkF m 128 #[.val (.int x1), .val (.int y1), .val (.int sel), .val (.ref a9), .val (.ref a34), .val (.ref a62), .val (.int (sel &&& (7 : Int32))), .unset, .unset] [])) rfl (hb hby at_128) (by decide) (by decide)
            obtain ⟨a239, g240⟩ : ∃ z, z = Tc73.heap.size := ⟨_, rfl⟩
            rw [← g240] at A236 D237 st238
            have q241 : n0 ≤ a239 := Nat.le_trans F80 (Nat.le_of_eq g240.symm)
            have ne242 : a9 ≠ a239 := Nat.ne_of_lt (Nat.lt_of_lt_of_le F82.lt (Nat.le_of_eq g240.symm))
            have ne243 : a34 ≠ a239 := Nat.ne_of_lt (Nat.lt_of_lt_of_le F83.lt (Nat.le_of_eq g240.symm))
            have ne244 : a62 ≠ a239 := Nat.ne_of_lt (Nat.lt_of_lt_of_le F84.lt (Nat.le_of_eq g240.symm))
            have F245 : n0 ≤ h232.size := Nat.le_trans F80 E235.1
            have F246 : Old Z n0 h232 := F81.ext E235
            have F247 : Exa Z h232 a9 "com/example/mandatum/mandatum/FactBase" := F82.ext E235
            have F248 : Exa Z h232 a34 "com/example/mandatum/mandatum/FactBase" := F83.ext E235
            have F249 : Exa Z h232 a62 "com/example/mandatum/mandatum/FactBase$Moment" := F84.ext E235
            have F250 : Fld Z h232 a62 "com/example/mandatum/mandatum/FactBase$Moment" "base" "Lcom/example/mandatum/mandatum/FactBase;" (.ref a9) := F77.ext E235
            have F251 : Fld Z h232 a62 "com/example/mandatum/mandatum/FactBase$Moment" "changes" "I" (.int x1) := F78.ext E235
            have F252 : Fld Z h232 a239 "com/example/mandatum/mandatum/FactBase$Moment" "base" "Lcom/example/mandatum/mandatum/FactBase;" .null := D237 (Or.inr (hw _ (List.mem_of_getElem? (i := 40) rfl))) (ty := (.object "com/example/mandatum/mandatum/FactBase")) (by decide)
            have F253 : Fld Z h232 a239 "com/example/mandatum/mandatum/FactBase$Moment" "changes" "I" (.int (0 : Int32)) := D237 (Or.inr (hw _ (List.mem_of_getElem? (i := 42) rfl))) (ty := .int) (by decide)
            refine own_step (T' := T231) (g' := (mkF m 131 #[.val (.int x1), .val (.int y1), .val (.int sel), .val (.ref a9), .val (.ref a34), .val (.ref a62), .val (.int (sel &&& (7 : Int32))), .unset, .unset] [(.ref a239)])) st238 ?_
            refine own_step (T' := T231) (g' := (mkF m 132 #[.val (.int x1), .val (.int y1), .val (.int sel), .val (.ref a9), .val (.ref a34), .val (.ref a62), .val (.int (sel &&& (7 : Int32))), .unset, .unset] [(.ref a239), (.ref a239)])) (fun t_ k_ => XS.dup X233.here hx rfl (hb hby at_131) rfl rfl k_) ?_
            refine own_step (T' := T231) (g' := (mkF m 133 #[.val (.int x1), .val (.int y1), .val (.int sel), .val (.ref a9), .val (.ref a34), .val (.ref a62), .val (.int (sel &&& (7 : Int32))), .unset, .unset] [(.ref a9), (.ref a239), (.ref a239)])) (fun t_ k_ => XS.aloadN X233.here hx rfl (hb hby at_132) rfl rfl k_) ?_
            refine own_step (T' := T231) (g' := (mkF m 134 #[.val (.int x1), .val (.int y1), .val (.int sel), .val (.ref a9), .val (.ref a34), .val (.ref a62), .val (.int (sel &&& (7 : Int32))), .unset, .unset] [(.int x1), (.ref a9), (.ref a239), (.ref a239)])) (fun t_ k_ => XS.iloadN X233.here hx rfl (hb hby at_133) rfl k_) ?_
            obtain ⟨_, _, ⟨Tc254, Lc254, kc254, nc254⟩, -, Xc254, ⟨Lcc254, hQc254, lc254, yc254, zc254⟩, stc254⟩ := X233.specialBack hx (y := (⟨"com/example/mandatum/mandatum/FactBase$Moment", "<init>", "(Lcom/example/mandatum/mandatum/FactBase;I)V"⟩ : MethodName)) rfl hown (mvT hZ (hw _ (List.mem_of_getElem? (i := 30) rfl))) (mvT hZ (hw _ (List.mem_of_getElem? (i := 31) rfl))) (mvT hZ (hw _ (List.mem_of_getElem? (i := 32) rfl))) (by decide) (backOf (W := 1) (rm_mom l Z a0 hw [] a239 a9 x1 .null (0 : Int32) h232 n0 F245 A236 F252 F253 q241) hZ (hw _ (List.mem_of_getElem? (i := 32) rfl)) (hw _ (List.mem_of_getElem? (i := 29) rfl)) (by decide) (by decide)) (g := (mkF m 134 #[.val (.int x1), .val (.int y1), .val (.int sel), .val (.ref a9), .val (.ref a34), .val (.ref a62), .val (.int (sel &&& (7 : Int32))), .unset, .unset] [(.int x1), (.ref a9), (.ref a239), (.ref a239)])) rfl (by rw [hml]; rfl) (Steps.refl _) (a := a239) (argsL := [(.ref a9), (.int x1)]) (rest := [(.ref a239)]) (lenOf pd_2 rfl) rfl (by show 2 * 0 + _ ≤ _; exact Nat.le_of_eq rfl) (hb hby at_134) (fun _ _ => ⟨rfl, e234, (by decide : 6 + 0 ≤ _), (by decide : 26 + 0 ≤ _)⟩)
            dsimp only [Pt.U, Pt.locs, Pt.cells, Pt.slots] at Xc254 lc254 yc254 zc254 stc254 hQc254
            subst lc254 yc254 zc254
            have X255 := Xc254.more (cells' := 6) (slots' := 26) (by decide) (by decide)
            obtain ⟨rfl, N256, K257, F258, F259⟩ := hQc254
            have N260 := Fr.app N87 N256
            have F261 : n0 ≤ Tc254.heap.size := Nat.le_trans F245 K257.1
            have F262 : Old Z n0 Tc254.heap := F246.keep K257 (allS q241 all0)
            have F263 : Exa Z Tc254.heap a9 "com/example/mandatum/mandatum/FactBase" := F247.keep K257
            have F264 : Exa Z Tc254.heap a34 "com/example/mandatum/mandatum/FactBase" := F248.keep K257
            have F265 : Exa Z Tc254.heap a62 "com/example/mandatum/mandatum/FactBase$Moment" := F249.keep K257
            have F266 : Fld Z Tc254.heap a62 "com/example/mandatum/mandatum/FactBase$Moment" "base" "Lcom/example/mandatum/mandatum/FactBase;" (.ref a9) := F250.keep K257 (ninS ne244 nin0)
            have F267 : Fld Z Tc254.heap a62 "com/example/mandatum/mandatum/FactBase$Moment" "changes" "I" (.int x1) := F251.keep K257 (ninS ne244 nin0)
            have F268 : Exa Z Tc254.heap a239 "com/example/mandatum/mandatum/FactBase$Moment" := A236.keep K257
            obtain ⟨Lo269, X270, N271⟩ : ∃ Lo_, Stand p l e room_1 s m #[(.int x1), (.int y1), (.int sel)] below meth c Tc254 Lo_ 6 26 ∧ Fr n0 Lo_ := ⟨_, X255, N260⟩
            refine own_step (T' := Tc254) (g' := (mkF m 137 #[.val (.int x1), .val (.int y1), .val (.int sel), .val (.ref a9), .val (.ref a34), .val (.ref a62), .val (.int (sel &&& (7 : Int32))), .unset, .unset] [(.ref a239)])) (fun t_ k_ => stc254.trans k_) ?_
            refine own_step (T' := Tc254) (g' := (mkF m 139 #[.val (.int x1), .val (.int y1), .val (.int sel), .val (.ref a9), .val (.ref a34), .val (.ref a62), .val (.int (sel &&& (7 : Int32))), .val (.ref a239), .unset] [])) (fun t_ k_ => XS.astore X270.here hx rfl (hb hby at_137) rfl rfl (l' := #[.val (.int x1), .val (.int y1), .val (.int sel), .val (.ref a9), .val (.ref a34), .val (.ref a62), .val (.int (sel &&& (7 : Int32))), .val (.ref a239), .unset]) rfl k_) ?_
            refine own_step (T' := Tc254) (g' := (mkF m 140 #[.val (.int x1), .val (.int y1), .val (.int sel), .val (.ref a9), .val (.ref a34), .val (.ref a62), .val (.int (sel &&& (7 : Int32))), .val (.ref a239), .unset] [(.int (1 : Int32))])) (fun t_ k_ => XT.iconstV X270.here hx rfl (1 : Int32) (hb hby at_139) (by decide) k_) ?_
            refine own_step (T' := Tc254) (g' := (mkF m 142 #[.val (.int x1), .val (.int y1), .val (.int sel), .val (.ref a9), .val (.ref a34), .val (.ref a62), .val (.int (sel &&& (7 : Int32))), .val (.ref a239), .val (.int (1 : Int32))] [])) (fun t_ k_ => XS.istore X270.here hx rfl (hb hby at_140) rfl (l' := #[.val (.int x1), .val (.int y1), .val (.int sel), .val (.ref a9), .val (.ref a34), .val (.ref a62), .val (.int (sel &&& (7 : Int32))), .val (.ref a239), .val (.int (1 : Int32))]) rfl k_) ?_
            refine own_step (T' := Tc254) (g' := (mkF m 200 #[.val (.int x1), .val (.int y1), .val (.int sel), .val (.ref a9), .val (.ref a34), .val (.ref a62), .val (.int (sel &&& (7 : Int32))), .val (.ref a239), .val (.int (1 : Int32))] [])) (fun t_ k_ => XS.goto X270.here hx rfl (pc0 := 142) (pc' := 200) rfl (hb hby at_142) (by decide) (by decide) k_) ?_
            refine own_step (T' := Tc254) (g' := (mkF m 202 #[.val (.int x1), .val (.int y1), .val (.int sel), .val (.ref a9), .val (.ref a34), .val (.ref a62), .val (.int (sel &&& (7 : Int32))), .val (.ref a239), .val (.int (1 : Int32))] [(.ref a62)])) (fun t_ k_ => XS.aload X270.here hx rfl (hb hby at_200) rfl rfl k_) ?_
            refine own_step (T' := Tc254) (g' := (mkF m 204 #[.val (.int x1), .val (.int y1), .val (.int sel), .val (.ref a9), .val (.ref a34), .val (.ref a62), .val (.int (sel &&& (7 : Int32))), .val (.ref a239), .val (.int (1 : Int32))] [(.ref a239), (.ref a62)])) (fun t_ k_ => XS.aload X270.here hx rfl (hb hby at_202) rfl rfl k_) ?_
            obtain ⟨cqc272, kqc272, qac272, qbc272, qcc272⟩ := isOf hZ rfl F265
            obtain ⟨_, _, ⟨Tc272, Lc272, kc272, nc272⟩, -, Xc272, ⟨Lcc272, hQc272, lc272, yc272, zc272⟩, stc272⟩ := X270.virtualBack hx (y := (⟨"com/example/mandatum/mandatum/FactBase$Moment", "equals", "(Ljava/lang/Object;)Z"⟩ : MethodName)) (z := (⟨"com/example/mandatum/mandatum/FactBase$Moment", "equals", "(Ljava/lang/Object;)Z"⟩ : MethodName)) hown (mvT hZ (hw _ (List.mem_of_getElem? (i := 43) rfl))) (mvT hZ (hw _ (List.mem_of_getElem? (i := 44) rfl))) (notFace_of_selects (args := #[]) (mvT hZ (hw _ (List.mem_of_getElem? (i := 46) rfl)))) (mvT hZ (hw _ (List.mem_of_getElem? (i := 46) rfl))) (mvT hZ (hw _ (List.mem_of_getElem? (i := 45) rfl))) (by decide) (backOf (W := 0) (rm_eqm l Z a0 hw [] a62 a239 a9 a9 x1 x1 Tc254.heap n0 F261 F268 F266 F267 F258 F259) hZ (hw _ (List.mem_of_getElem? (i := 47) rfl)) (hw _ (List.mem_of_getElem? (i := 29) rfl)) (by decide) (by decide)) qac272 qcc272 (g := (mkF m 204 #[.val (.int x1), .val (.int y1), .val (.int sel), .val (.ref a9), .val (.ref a34), .val (.ref a62), .val (.int (sel &&& (7 : Int32))), .val (.ref a239), .val (.int (1 : Int32))] [(.ref a239), (.ref a62)])) rfl (by rw [hml]; rfl) (Steps.refl _) (argsL := [(.ref a239)]) (rest := []) (lenOf pd_3 rfl) rfl (by show 2 * 0 + _ ≤ _; exact Nat.le_of_eq rfl) (hb hby at_204) (fun _ _ => ⟨rfl, rfl, (by decide : 6 + 0 ≤ _), (by decide : 26 + 0 ≤ _)⟩)
            dsimp only [Pt.U, Pt.locs, Pt.cells, Pt.slots] at Xc272 lc272 yc272 zc272 stc272 hQc272
            subst lc272 yc272 zc272
            have X273 := Xc272.more (cells' := 6) (slots' := 26) (by decide) (by decide)
            obtain ⟨rfl, N274, e275⟩ := hQc272
            have N276 := Fr.app N271 N274
            obtain ⟨Lo277, X278, N279⟩ : ∃ Lo_, Stand p l e room_1 s m #[(.int x1), (.int y1), (.int sel)] below meth c Tc272 Lo_ 6 26 ∧ Fr n0 Lo_ := ⟨_, X273, N276⟩
            refine own_step (T' := Tc272) (g' := (mkF m 207 #[.val (.int x1), .val (.int y1), .val (.int sel), .val (.ref a9), .val (.ref a34), .val (.ref a62), .val (.int (sel &&& (7 : Int32))), .val (.ref a239), .val (.int (1 : Int32))] [(.int (if a9 = a9 then (if x1 = x1 then (1 : Int32) else (0 : Int32)) else (0 : Int32)))])) (fun t_ k_ => stc272.trans k_) ?_
            refine own_step (T' := Tc272) (g' := (mkF m 209 #[.val (.int x1), .val (.int y1), .val (.int sel), .val (.ref a9), .val (.ref a34), .val (.ref a62), .val (.int (sel &&& (7 : Int32))), .val (.ref a239), .val (.int (1 : Int32))] [(.int (1 : Int32)), (.int (if a9 = a9 then (if x1 = x1 then (1 : Int32) else (0 : Int32)) else (0 : Int32)))])) (fun t_ k_ => XS.iload X278.here hx rfl (hb hby at_207) rfl k_) ?_
            have hk280 : (if a9 = a9 then (if x1 = x1 then (1 : Int32) else (0 : Int32)) else (0 : Int32)) = (1 : Int32) := (if_pos rfl).trans (if_pos rfl)
            refine own_step (T' := Tc272) (g' := (mkF m 212 #[.val (.int x1), .val (.int y1), .val (.int sel), .val (.ref a9), .val (.ref a34), .val (.ref a62), .val (.int (sel &&& (7 : Int32))), .val (.ref a239), .val (.int (1 : Int32))] [])) (fun t_ k_ => XS.icmpNo X278.here hx rfl (hb hby at_209) rfl (XT.ii_ne_f hk280) k_) ?_
            refine own_step (T' := Tc272) (g' := (mkF m 213 #[.val (.int x1), .val (.int y1), .val (.int sel), .val (.ref a9), .val (.ref a34), .val (.ref a62), .val (.int (sel &&& (7 : Int32))), .val (.ref a239), .val (.int (1 : Int32))] [(.int (1 : Int32))])) (fun t_ k_ => XT.iconstV X278.here hx rfl (1 : Int32) (hb hby at_212) (by decide) k_) ?_
            refine own_step (T' := Tc272) (g' := (mkF m 217 #[.val (.int x1), .val (.int y1), .val (.int sel), .val (.ref a9), .val (.ref a34), .val (.ref a62), .val (.int (sel &&& (7 : Int32))), .val (.ref a239), .val (.int (1 : Int32))] [(.int (1 : Int32))])) (fun t_ k_ => XS.goto X278.here hx rfl (pc0 := 213) (pc' := 217) rfl (hb hby at_213) (by decide) (by decide) k_) ?_
            exact own_retN X278 hx hlk (t := .boolean) Bd.returns (by simp) (hb hby at_217) (by rw [e275]; exact ⟨rfl, N279⟩) (by decide) (by decide)
          · refine own_step (T' := Tc73) (g' := (mkF m 145 #[.val (.int x1), .val (.int y1), .val (.int sel), .val (.ref a9), .val (.ref a34), .val (.ref a62), .val (.int (sel &&& (7 : Int32))), .unset, .unset] [])) (fun t_ k_ => XS.icmpYes X86.here hx rfl (pc0 := 125) (pc' := 145) rfl (hb hby at_125) rfl (XT.ii_ne_t hb230) (by decide) (by decide) k_) ?_
            refine own_step (T' := Tc73) (g' := (mkF m 147 #[.val (.int x1), .val (.int y1), .val (.int sel), .val (.ref a9), .val (.ref a34), .val (.ref a62), .val (.int (sel &&& (7 : Int32))), .unset, .unset] [(.int (sel &&& (7 : Int32)))])) (fun t_ k_ => XS.iload X86.here hx rfl (hb hby at_145) rfl k_) ?_
            refine own_step (T' := Tc73) (g' := (mkF m 148 #[.val (.int x1), .val (.int y1), .val (.int sel), .val (.ref a9), .val (.ref a34), .val (.ref a62), .val (.int (sel &&& (7 : Int32))), .unset, .unset] [(.int (5 : Int32)), (.int (sel &&& (7 : Int32)))])) (fun t_ k_ => XT.iconstV X86.here hx rfl (5 : Int32) (hb hby at_147) (by decide) k_) ?_
            by_cases hb281 : (sel &&& (7 : Int32)) = (5 : Int32)
            · refine own_step (T' := Tc73) (g' := (mkF m 151 #[.val (.int x1), .val (.int y1), .val (.int sel), .val (.ref a9), .val (.ref a34), .val (.ref a62), .val (.int (sel &&& (7 : Int32))), .unset, .unset] [])) (fun t_ k_ => XS.icmpNo X86.here hx rfl (hb hby at_148) rfl (XT.ii_ne_f hb281) k_) ?_
              refine own_step (T' := Tc73) (g' := (mkF m 153 #[.val (.int x1), .val (.int y1), .val (.int sel), .val (.ref a9), .val (.ref a34), .val (.ref a62), .val (.int (sel &&& (7 : Int32))), .unset, .unset] [(.ref a62)])) (fun t_ k_ => XS.aload X86.here hx rfl (hb hby at_151) rfl rfl k_) ?_
              refine own_step (T' := Tc73) (g' := (mkF m 155 #[.val (.int x1), .val (.int y1), .val (.int sel), .val (.ref a9), .val (.ref a34), .val (.ref a62), .val (.int (sel &&& (7 : Int32))), .val (.ref a62), .unset] [])) (fun t_ k_ => XS.astore X86.here hx rfl (hb hby at_153) rfl rfl (l' := #[.val (.int x1), .val (.int y1), .val (.int sel), .val (.ref a9), .val (.ref a34), .val (.ref a62), .val (.int (sel &&& (7 : Int32))), .val (.ref a62), .unset]) rfl k_) ?_
              refine own_step (T' := Tc73) (g' := (mkF m 156 #[.val (.int x1), .val (.int y1), .val (.int sel), .val (.ref a9), .val (.ref a34), .val (.ref a62), .val (.int (sel &&& (7 : Int32))), .val (.ref a62), .unset] [(.int (1 : Int32))])) (fun t_ k_ => XT.iconstV X86.here hx rfl (1 : Int32) (hb hby at_155) (by decide) k_) ?_
              refine own_step (T' := Tc73) (g' := (mkF m 158 #[.val (.int x1), .val (.int y1), .val (.int sel), .val (.ref a9), .val (.ref a34), .val (.ref a62), .val (.int (sel &&& (7 : Int32))), .val (.ref a62), .val (.int (1 : Int32))] [])) (fun t_ k_ => XS.istore X86.here hx rfl (hb hby at_156) rfl (l' := #[.val (.int x1), .val (.int y1), .val (.int sel), .val (.ref a9), .val (.ref a34), .val (.ref a62), .val (.int (sel &&& (7 : Int32))), .val (.ref a62), .val (.int (1 : Int32))]) rfl k_) ?_
              refine own_step (T' := Tc73) (g' := (mkF m 200 #[.val (.int x1), .val (.int y1), .val (.int sel), .val (.ref a9), .val (.ref a34), .val (.ref a62), .val (.int (sel &&& (7 : Int32))), .val (.ref a62), .val (.int (1 : Int32))] [])) (fun t_ k_ => XS.goto X86.here hx rfl (pc0 := 158) (pc' := 200) rfl (hb hby at_158) (by decide) (by decide) k_) ?_
              refine own_step (T' := Tc73) (g' := (mkF m 202 #[.val (.int x1), .val (.int y1), .val (.int sel), .val (.ref a9), .val (.ref a34), .val (.ref a62), .val (.int (sel &&& (7 : Int32))), .val (.ref a62), .val (.int (1 : Int32))] [(.ref a62)])) (fun t_ k_ => XS.aload X86.here hx rfl (hb hby at_200) rfl rfl k_) ?_
              refine own_step (T' := Tc73) (g' := (mkF m 204 #[.val (.int x1), .val (.int y1), .val (.int sel), .val (.ref a9), .val (.ref a34), .val (.ref a62), .val (.int (sel &&& (7 : Int32))), .val (.ref a62), .val (.int (1 : Int32))] [(.ref a62), (.ref a62)])) (fun t_ k_ => XS.aload X86.here hx rfl (hb hby at_202) rfl rfl k_) ?_
              obtain ⟨cqc282, kqc282, qac282, qbc282, qcc282⟩ := isOf hZ rfl F84
              obtain ⟨_, _, ⟨Tc282, Lc282, kc282, nc282⟩, -, Xc282, ⟨Lcc282, hQc282, lc282, yc282, zc282⟩, stc282⟩ := X86.virtualBack hx (y := (⟨"com/example/mandatum/mandatum/FactBase$Moment", "equals", "(Ljava/lang/Object;)Z"⟩ : MethodName)) (z := (⟨"com/example/mandatum/mandatum/FactBase$Moment", "equals", "(Ljava/lang/Object;)Z"⟩ : MethodName)) hown (mvT hZ (hw _ (List.mem_of_getElem? (i := 43) rfl))) (mvT hZ (hw _ (List.mem_of_getElem? (i := 44) rfl))) (notFace_of_selects (args := #[]) (mvT hZ (hw _ (List.mem_of_getElem? (i := 46) rfl)))) (mvT hZ (hw _ (List.mem_of_getElem? (i := 46) rfl))) (mvT hZ (hw _ (List.mem_of_getElem? (i := 45) rfl))) (by decide) (backOf (W := 0) (rm_eqm l Z a0 hw [] a62 a62 a9 a9 x1 x1 Tc73.heap n0 F80 F84 F77 F78 F77 F78) hZ (hw _ (List.mem_of_getElem? (i := 47) rfl)) (hw _ (List.mem_of_getElem? (i := 29) rfl)) (by decide) (by decide)) qac282 qcc282 (g := (mkF m 204 #[.val (.int x1), .val (.int y1), .val (.int sel), .val (.ref a9), .val (.ref a34), .val (.ref a62), .val (.int (sel &&& (7 : Int32))), .val (.ref a62), .val (.int (1 : Int32))] [(.ref a62), (.ref a62)])) rfl (by rw [hml]; rfl) (Steps.refl _) (argsL := [(.ref a62)]) (rest := []) (lenOf pd_3 rfl) rfl (by show 2 * 0 + _ ≤ _; exact Nat.le_of_eq rfl) (hb hby at_204) (fun _ _ => ⟨rfl, rfl, (by decide : 5 + 0 ≤ _), (by decide : 24 + 0 ≤ _)⟩)
              dsimp only [Pt.U, Pt.locs, Pt.cells, Pt.slots] at Xc282 lc282 yc282 zc282 stc282 hQc282
              subst lc282 yc282 zc282
              have X283 := Xc282.more (cells' := 5) (slots' := 24) (by decide) (by decide)
              obtain ⟨rfl, N284, e285⟩ := hQc282
              have N286 := Fr.app N87 N284
              obtain ⟨Lo287, X288, N289⟩ : ∃ Lo_, Stand p l e room_1 s m #[(.int x1), (.int y1), (.int sel)] below meth c Tc282 Lo_ 5 24 ∧ Fr n0 Lo_ := ⟨_, X283, N286⟩
              refine own_step (T' := Tc282) (g' := (mkF m 207 #[.val (.int x1), .val (.int y1), .val (.int sel), .val (.ref a9), .val (.ref a34), .val (.ref a62), .val (.int (sel &&& (7 : Int32))), .val (.ref a62), .val (.int (1 : Int32))] [(.int (if a9 = a9 then (if x1 = x1 then (1 : Int32) else (0 : Int32)) else (0 : Int32)))])) (fun t_ k_ => stc282.trans k_) ?_
              refine own_step (T' := Tc282) (g' := (mkF m 209 #[.val (.int x1), .val (.int y1), .val (.int sel), .val (.ref a9), .val (.ref a34), .val (.ref a62), .val (.int (sel &&& (7 : Int32))), .val (.ref a62), .val (.int (1 : Int32))] [(.int (1 : Int32)), (.int (if a9 = a9 then (if x1 = x1 then (1 : Int32) else (0 : Int32)) else (0 : Int32)))])) (fun t_ k_ => XS.iload X288.here hx rfl (hb hby at_207) rfl k_) ?_
              have hk290 : (if a9 = a9 then (if x1 = x1 then (1 : Int32) else (0 : Int32)) else (0 : Int32)) = (1 : Int32) := (if_pos rfl).trans (if_pos rfl)
              refine own_step (T' := Tc282) (g' := (mkF m 212 #[.val (.int x1), .val (.int y1), .val (.int sel), .val (.ref a9), .val (.ref a34), .val (.ref a62), .val (.int (sel &&& (7 : Int32))), .val (.ref a62), .val (.int (1 : Int32))] [])) (fun t_ k_ => XS.icmpNo X288.here hx rfl (hb hby at_209) rfl (XT.ii_ne_f hk290) k_) ?_
              refine own_step (T' := Tc282) (g' := (mkF m 213 #[.val (.int x1), .val (.int y1), .val (.int sel), .val (.ref a9), .val (.ref a34), .val (.ref a62), .val (.int (sel &&& (7 : Int32))), .val (.ref a62), .val (.int (1 : Int32))] [(.int (1 : Int32))])) (fun t_ k_ => XT.iconstV X288.here hx rfl (1 : Int32) (hb hby at_212) (by decide) k_) ?_
              refine own_step (T' := Tc282) (g' := (mkF m 217 #[.val (.int x1), .val (.int y1), .val (.int sel), .val (.ref a9), .val (.ref a34), .val (.ref a62), .val (.int (sel &&& (7 : Int32))), .val (.ref a62), .val (.int (1 : Int32))] [(.int (1 : Int32))])) (fun t_ k_ => XS.goto X288.here hx rfl (pc0 := 213) (pc' := 217) rfl (hb hby at_213) (by decide) (by decide) k_) ?_
              exact own_retN X288 hx hlk (t := .boolean) Bd.returns (by simp) (hb hby at_217) (by rw [e285]; exact ⟨rfl, N289⟩) (by decide) (by decide)
            · refine own_step (T' := Tc73) (g' := (mkF m 161 #[.val (.int x1), .val (.int y1), .val (.int sel), .val (.ref a9), .val (.ref a34), .val (.ref a62), .val (.int (sel &&& (7 : Int32))), .unset, .unset] [])) (fun t_ k_ => XS.icmpYes X86.here hx rfl (pc0 := 148) (pc' := 161) rfl (hb hby at_148) rfl (XT.ii_ne_t hb281) (by decide) (by decide) k_) ?_
              refine own_step (T' := Tc73) (g' := (mkF m 163 #[.val (.int x1), .val (.int y1), .val (.int sel), .val (.ref a9), .val (.ref a34), .val (.ref a62), .val (.int (sel &&& (7 : Int32))), .unset, .unset] [(.int (sel &&& (7 : Int32)))])) (fun t_ k_ => XS.iload X86.here hx rfl (hb hby at_161) rfl k_) ?_
              refine own_step (T' := Tc73) (g' := (mkF m 165 #[.val (.int x1), .val (.int y1), .val (.int sel), .val (.ref a9), .val (.ref a34), .val (.ref a62), .val (.int (sel &&& (7 : Int32))), .unset, .unset] [(.int (6 : Int32)), (.int (sel &&& (7 : Int32)))])) (fun t_ k_ => XT.bipushV X86.here hx rfl (6 : Int32) (hb hby at_163) (by decide) k_) ?_
              by_cases hb291 : (sel &&& (7 : Int32)) = (6 : Int32)
              · refine own_step (T' := Tc73) (g' := (mkF m 168 #[.val (.int x1), .val (.int y1), .val (.int sel), .val (.ref a9), .val (.ref a34), .val (.ref a62), .val (.int (sel &&& (7 : Int32))), .unset, .unset] [])) (fun t_ k_ => XS.icmpNo X86.here hx rfl (hb hby at_165) rfl (XT.ii_ne_f hb291) k_) ?_
                obtain ⟨T292, h293, X294, e295, E296, A297, D298, -, st299⟩ := newO X86 hx hZ hown (hw _ (List.mem_of_getElem? (i := 27) rfl)) (hw _ (List.mem_of_getElem? (i := 28) rfl)) (hw _ (List.mem_of_getElem? (i := 29) rfl)) rfl (g := (mkF m 168 #[.val (.int x1), .val (.int y1), .val (.int sel), .val (.ref a9), .val (.ref a34), .val (.ref a62), .val (.int (sel &&& (7 : Int32))), .unset, .unset] [])) rfl (hb hby at_168) (by decide) (by decide)
                obtain ⟨a300, g301⟩ : ∃ z, z = Tc73.heap.size := ⟨_, rfl⟩
                rw [← g301] at A297 D298 st299
                have q302 : n0 ≤ a300 := Nat.le_trans F80 (Nat.le_of_eq g301.symm)
                have ne303 : a9 ≠ a300 := Nat.ne_of_lt (Nat.lt_of_lt_of_le F82.lt (Nat.le_of_eq g301.symm))
                have ne304 : a34 ≠ a300 := Nat.ne_of_lt (Nat.lt_of_lt_of_le F83.lt (Nat.le_of_eq g301.symm))
                have ne305 : a62 ≠ a300 := Nat.ne_of_lt (Nat.lt_of_lt_of_le F84.lt (Nat.le_of_eq g301.symm))
                have F306 : n0 ≤ h293.size := Nat.le_trans F80 E296.1
                have F307 : Old Z n0 h293 := F81.ext E296
                have F308 : Exa Z h293 a9 "com/example/mandatum/mandatum/FactBase" := F82.ext E296
                have F309 : Exa Z h293 a34 "com/example/mandatum/mandatum/FactBase" := F83.ext E296
                have F310 : Exa Z h293 a62 "com/example/mandatum/mandatum/FactBase$Moment" := F84.ext E296
                have F311 : Fld Z h293 a62 "com/example/mandatum/mandatum/FactBase$Moment" "base" "Lcom/example/mandatum/mandatum/FactBase;" (.ref a9) := F77.ext E296
                have F312 : Fld Z h293 a62 "com/example/mandatum/mandatum/FactBase$Moment" "changes" "I" (.int x1) := F78.ext E296
                have F313 : Fld Z h293 a300 "com/example/mandatum/mandatum/FactBase$Moment" "base" "Lcom/example/mandatum/mandatum/FactBase;" .null := D298 (Or.inr (hw _ (List.mem_of_getElem? (i := 40) rfl))) (ty := (.object "com/example/mandatum/mandatum/FactBase")) (by decide)
                have F314 : Fld Z h293 a300 "com/example/mandatum/mandatum/FactBase$Moment" "changes" "I" (.int (0 : Int32)) := D298 (Or.inr (hw _ (List.mem_of_getElem? (i := 42) rfl))) (ty := .int) (by decide)
                refine own_step (T' := T292) (g' := (mkF m 171 #[.val (.int x1), .val (.int y1), .val (.int sel), .val (.ref a9), .val (.ref a34), .val (.ref a62), .val (.int (sel &&& (7 : Int32))), .unset, .unset] [(.ref a300)])) st299 ?_
                refine own_step (T' := T292) (g' := (mkF m 172 #[.val (.int x1), .val (.int y1), .val (.int sel), .val (.ref a9), .val (.ref a34), .val (.ref a62), .val (.int (sel &&& (7 : Int32))), .unset, .unset] [(.ref a300), (.ref a300)])) (fun t_ k_ => XS.dup X294.here hx rfl (hb hby at_171) rfl rfl k_) ?_
                refine own_step (T' := T292) (g' := (mkF m 174 #[.val (.int x1), .val (.int y1), .val (.int sel), .val (.ref a9), .val (.ref a34), .val (.ref a62), .val (.int (sel &&& (7 : Int32))), .unset, .unset] [(.ref a34), (.ref a300), (.ref a300)])) (fun t_ k_ => XS.aload X294.here hx rfl (hb hby at_172) rfl rfl k_) ?_
                refine own_step (T' := T292) (g' := (mkF m 175 #[.val (.int x1), .val (.int y1), .val (.int sel), .val (.ref a9), .val (.ref a34), .val (.ref a62), .val (.int (sel &&& (7 : Int32))), .unset, .unset] [(.int x1), (.ref a34), (.ref a300), (.ref a300)])) (fun t_ k_ => XS.iloadN X294.here hx rfl (hb hby at_174) rfl k_) ?_
                obtain ⟨_, _, ⟨Tc315, Lc315, kc315, nc315⟩, -, Xc315, ⟨Lcc315, hQc315, lc315, yc315, zc315⟩, stc315⟩ := X294.specialBack hx (y := (⟨"com/example/mandatum/mandatum/FactBase$Moment", "<init>", "(Lcom/example/mandatum/mandatum/FactBase;I)V"⟩ : MethodName)) rfl hown (mvT hZ (hw _ (List.mem_of_getElem? (i := 30) rfl))) (mvT hZ (hw _ (List.mem_of_getElem? (i := 31) rfl))) (mvT hZ (hw _ (List.mem_of_getElem? (i := 32) rfl))) (by decide) (backOf (W := 1) (rm_mom l Z a0 hw [] a300 a34 x1 .null (0 : Int32) h293 n0 F306 A297 F313 F314 q302) hZ (hw _ (List.mem_of_getElem? (i := 32) rfl)) (hw _ (List.mem_of_getElem? (i := 29) rfl)) (by decide) (by decide)) (g := (mkF m 175 #[.val (.int x1), .val (.int y1), .val (.int sel), .val (.ref a9), .val (.ref a34), .val (.ref a62), .val (.int (sel &&& (7 : Int32))), .unset, .unset] [(.int x1), (.ref a34), (.ref a300), (.ref a300)])) rfl (by rw [hml]; rfl) (Steps.refl _) (a := a300) (argsL := [(.ref a34), (.int x1)]) (rest := [(.ref a300)]) (lenOf pd_2 rfl) rfl (by show 2 * 0 + _ ≤ _; exact Nat.le_of_eq rfl) (hb hby at_175) (fun _ _ => ⟨rfl, e295, (by decide : 6 + 0 ≤ _), (by decide : 26 + 0 ≤ _)⟩)
                dsimp only [Pt.U, Pt.locs, Pt.cells, Pt.slots] at Xc315 lc315 yc315 zc315 stc315 hQc315
                subst lc315 yc315 zc315
                have X316 := Xc315.more (cells' := 6) (slots' := 26) (by decide) (by decide)
                obtain ⟨rfl, N317, K318, F319, F320⟩ := hQc315
                have N321 := Fr.app N87 N317
                have F322 : n0 ≤ Tc315.heap.size := Nat.le_trans F306 K318.1
                have F323 : Old Z n0 Tc315.heap := F307.keep K318 (allS q302 all0)
                have F324 : Exa Z Tc315.heap a9 "com/example/mandatum/mandatum/FactBase" := F308.keep K318
                have F325 : Exa Z Tc315.heap a34 "com/example/mandatum/mandatum/FactBase" := F309.keep K318
                have F326 : Exa Z Tc315.heap a62 "com/example/mandatum/mandatum/FactBase$Moment" := F310.keep K318
                have F327 : Fld Z Tc315.heap a62 "com/example/mandatum/mandatum/FactBase$Moment" "base" "Lcom/example/mandatum/mandatum/FactBase;" (.ref a9) := F311.keep K318 (ninS ne305 nin0)
                have F328 : Fld Z Tc315.heap a62 "com/example/mandatum/mandatum/FactBase$Moment" "changes" "I" (.int x1) := F312.keep K318 (ninS ne305 nin0)
                have F329 : Exa Z Tc315.heap a300 "com/example/mandatum/mandatum/FactBase$Moment" := A297.keep K318
                obtain ⟨Lo330, X331, N332⟩ : ∃ Lo_, Stand p l e room_1 s m #[(.int x1), (.int y1), (.int sel)] below meth c Tc315 Lo_ 6 26 ∧ Fr n0 Lo_ := ⟨_, X316, N321⟩
                refine own_step (T' := Tc315) (g' := (mkF m 178 #[.val (.int x1), .val (.int y1), .val (.int sel), .val (.ref a9), .val (.ref a34), .val (.ref a62), .val (.int (sel &&& (7 : Int32))), .unset, .unset] [(.ref a300)])) (fun t_ k_ => stc315.trans k_) ?_
                refine own_step (T' := Tc315) (g' := (mkF m 180 #[.val (.int x1), .val (.int y1), .val (.int sel), .val (.ref a9), .val (.ref a34), .val (.ref a62), .val (.int (sel &&& (7 : Int32))), .val (.ref a300), .unset] [])) (fun t_ k_ => XS.astore X331.here hx rfl (hb hby at_178) rfl rfl (l' := #[.val (.int x1), .val (.int y1), .val (.int sel), .val (.ref a9), .val (.ref a34), .val (.ref a62), .val (.int (sel &&& (7 : Int32))), .val (.ref a300), .unset]) rfl k_) ?_
                refine own_step (T' := Tc315) (g' := (mkF m 181 #[.val (.int x1), .val (.int y1), .val (.int sel), .val (.ref a9), .val (.ref a34), .val (.ref a62), .val (.int (sel &&& (7 : Int32))), .val (.ref a300), .unset] [(.int (0 : Int32))])) (fun t_ k_ => XT.iconstV X331.here hx rfl (0 : Int32) (hb hby at_180) (by decide) k_) ?_
                refine own_step (T' := Tc315) (g' := (mkF m 183 #[.val (.int x1), .val (.int y1), .val (.int sel), .val (.ref a9), .val (.ref a34), .val (.ref a62), .val (.int (sel &&& (7 : Int32))), .val (.ref a300), .val (.int (0 : Int32))] [])) (fun t_ k_ => XS.istore X331.here hx rfl (hb hby at_181) rfl (l' := #[.val (.int x1), .val (.int y1), .val (.int sel), .val (.ref a9), .val (.ref a34), .val (.ref a62), .val (.int (sel &&& (7 : Int32))), .val (.ref a300), .val (.int (0 : Int32))]) rfl k_) ?_
                refine own_step (T' := Tc315) (g' := (mkF m 200 #[.val (.int x1), .val (.int y1), .val (.int sel), .val (.ref a9), .val (.ref a34), .val (.ref a62), .val (.int (sel &&& (7 : Int32))), .val (.ref a300), .val (.int (0 : Int32))] [])) (fun t_ k_ => XS.goto X331.here hx rfl (pc0 := 183) (pc' := 200) rfl (hb hby at_183) (by decide) (by decide) k_) ?_
                refine own_step (T' := Tc315) (g' := (mkF m 202 #[.val (.int x1), .val (.int y1), .val (.int sel), .val (.ref a9), .val (.ref a34), .val (.ref a62), .val (.int (sel &&& (7 : Int32))), .val (.ref a300), .val (.int (0 : Int32))] [(.ref a62)])) (fun t_ k_ => XS.aload X331.here hx rfl (hb hby at_200) rfl rfl k_) ?_
                refine own_step (T' := Tc315) (g' := (mkF m 204 #[.val (.int x1), .val (.int y1), .val (.int sel), .val (.ref a9), .val (.ref a34), .val (.ref a62), .val (.int (sel &&& (7 : Int32))), .val (.ref a300), .val (.int (0 : Int32))] [(.ref a300), (.ref a62)])) (fun t_ k_ => XS.aload X331.here hx rfl (hb hby at_202) rfl rfl k_) ?_
                obtain ⟨cqc333, kqc333, qac333, qbc333, qcc333⟩ := isOf hZ rfl F326
                obtain ⟨_, _, ⟨Tc333, Lc333, kc333, nc333⟩, -, Xc333, ⟨Lcc333, hQc333, lc333, yc333, zc333⟩, stc333⟩ := X331.virtualBack hx (y := (⟨"com/example/mandatum/mandatum/FactBase$Moment", "equals", "(Ljava/lang/Object;)Z"⟩ : MethodName)) (z := (⟨"com/example/mandatum/mandatum/FactBase$Moment", "equals", "(Ljava/lang/Object;)Z"⟩ : MethodName)) hown (mvT hZ (hw _ (List.mem_of_getElem? (i := 43) rfl))) (mvT hZ (hw _ (List.mem_of_getElem? (i := 44) rfl))) (notFace_of_selects (args := #[]) (mvT hZ (hw _ (List.mem_of_getElem? (i := 46) rfl)))) (mvT hZ (hw _ (List.mem_of_getElem? (i := 46) rfl))) (mvT hZ (hw _ (List.mem_of_getElem? (i := 45) rfl))) (by decide) (backOf (W := 0) (rm_eqm l Z a0 hw [] a62 a300 a9 a34 x1 x1 Tc315.heap n0 F322 F329 F327 F328 F319 F320) hZ (hw _ (List.mem_of_getElem? (i := 47) rfl)) (hw _ (List.mem_of_getElem? (i := 29) rfl)) (by decide) (by decide)) qac333 qcc333 (g := (mkF m 204 #[.val (.int x1), .val (.int y1), .val (.int sel), .val (.ref a9), .val (.ref a34), .val (.ref a62), .val (.int (sel &&& (7 : Int32))), .val (.ref a300), .val (.int (0 : Int32))] [(.ref a300), (.ref a62)])) rfl (by rw [hml]; rfl) (Steps.refl _) (argsL := [(.ref a300)]) (rest := []) (lenOf pd_3 rfl) rfl (by show 2 * 0 + _ ≤ _; exact Nat.le_of_eq rfl) (hb hby at_204) (fun _ _ => ⟨rfl, rfl, (by decide : 6 + 0 ≤ _), (by decide : 26 + 0 ≤ _)⟩)
                dsimp only [Pt.U, Pt.locs, Pt.cells, Pt.slots] at Xc333 lc333 yc333 zc333 stc333 hQc333
                subst lc333 yc333 zc333
                have X334 := Xc333.more (cells' := 6) (slots' := 26) (by decide) (by decide)
                obtain ⟨rfl, N335, e336⟩ := hQc333
                have N337 := Fr.app N332 N335
                obtain ⟨Lo338, X339, N340⟩ : ∃ Lo_, Stand p l e room_1 s m #[(.int x1), (.int y1), (.int sel)] below meth c Tc333 Lo_ 6 26 ∧ Fr n0 Lo_ := ⟨_, X334, N337⟩
                refine own_step (T' := Tc333) (g' := (mkF m 207 #[.val (.int x1), .val (.int y1), .val (.int sel), .val (.ref a9), .val (.ref a34), .val (.ref a62), .val (.int (sel &&& (7 : Int32))), .val (.ref a300), .val (.int (0 : Int32))] [(.int (if a9 = a34 then (if x1 = x1 then (1 : Int32) else (0 : Int32)) else (0 : Int32)))])) (fun t_ k_ => stc333.trans k_) ?_
                refine own_step (T' := Tc333) (g' := (mkF m 209 #[.val (.int x1), .val (.int y1), .val (.int sel), .val (.ref a9), .val (.ref a34), .val (.ref a62), .val (.int (sel &&& (7 : Int32))), .val (.ref a300), .val (.int (0 : Int32))] [(.int (0 : Int32)), (.int (if a9 = a34 then (if x1 = x1 then (1 : Int32) else (0 : Int32)) else (0 : Int32)))])) (fun t_ k_ => XS.iload X339.here hx rfl (hb hby at_207) rfl k_) ?_
                have hk341 : (if a9 = a34 then (if x1 = x1 then (1 : Int32) else (0 : Int32)) else (0 : Int32)) = (0 : Int32) := if_neg ne37
                refine own_step (T' := Tc333) (g' := (mkF m 212 #[.val (.int x1), .val (.int y1), .val (.int sel), .val (.ref a9), .val (.ref a34), .val (.ref a62), .val (.int (sel &&& (7 : Int32))), .val (.ref a300), .val (.int (0 : Int32))] [])) (fun t_ k_ => XS.icmpNo X339.here hx rfl (hb hby at_209) rfl (XT.ii_ne_f hk341) k_) ?_
                refine own_step (T' := Tc333) (g' := (mkF m 213 #[.val (.int x1), .val (.int y1), .val (.int sel), .val (.ref a9), .val (.ref a34), .val (.ref a62), .val (.int (sel &&& (7 : Int32))), .val (.ref a300), .val (.int (0 : Int32))] [(.int (1 : Int32))])) (fun t_ k_ => XT.iconstV X339.here hx rfl (1 : Int32) (hb hby at_212) (by decide) k_) ?_
                refine own_step (T' := Tc333) (g' := (mkF m 217 #[.val (.int x1), .val (.int y1), .val (.int sel), .val (.ref a9), .val (.ref a34), .val (.ref a62), .val (.int (sel &&& (7 : Int32))), .val (.ref a300), .val (.int (0 : Int32))] [(.int (1 : Int32))])) (fun t_ k_ => XS.goto X339.here hx rfl (pc0 := 213) (pc' := 217) rfl (hb hby at_213) (by decide) (by decide) k_) ?_
                exact own_retN X339 hx hlk (t := .boolean) Bd.returns (by simp) (hb hby at_217) (by rw [e336]; exact ⟨rfl, N340⟩) (by decide) (by decide)
              · refine own_step (T' := Tc73) (g' := (mkF m 186 #[.val (.int x1), .val (.int y1), .val (.int sel), .val (.ref a9), .val (.ref a34), .val (.ref a62), .val (.int (sel &&& (7 : Int32))), .unset, .unset] [])) (fun t_ k_ => XS.icmpYes X86.here hx rfl (pc0 := 165) (pc' := 186) rfl (hb hby at_165) rfl (XT.ii_ne_t hb291) (by decide) (by decide) k_) ?_
                obtain ⟨T342, h343, X344, e345, E346, A347, D348, -, st349⟩ := newO X86 hx hZ hown (hw _ (List.mem_of_getElem? (i := 27) rfl)) (hw _ (List.mem_of_getElem? (i := 28) rfl)) (hw _ (List.mem_of_getElem? (i := 29) rfl)) rfl (g := (mkF m 186 #[.val (.int x1), .val (.int y1), .val (.int sel), .val (.ref a9), .val (.ref a34), .val (.ref a62), .val (.int (sel &&& (7 : Int32))), .unset, .unset] [])) rfl (hb hby at_186) (by decide) (by decide)
                obtain ⟨a350, g351⟩ : ∃ z, z = Tc73.heap.size := ⟨_, rfl⟩
                rw [← g351] at A347 D348 st349
                have q352 : n0 ≤ a350 := Nat.le_trans F80 (Nat.le_of_eq g351.symm)
                have ne353 : a9 ≠ a350 := Nat.ne_of_lt (Nat.lt_of_lt_of_le F82.lt (Nat.le_of_eq g351.symm))
                have ne354 : a34 ≠ a350 := Nat.ne_of_lt (Nat.lt_of_lt_of_le F83.lt (Nat.le_of_eq g351.symm))
                have ne355 : a62 ≠ a350 := Nat.ne_of_lt (Nat.lt_of_lt_of_le F84.lt (Nat.le_of_eq g351.symm))
                have F356 : n0 ≤ h343.size := Nat.le_trans F80 E346.1
                have F357 : Old Z n0 h343 := F81.ext E346
                have F358 : Exa Z h343 a9 "com/example/mandatum/mandatum/FactBase" := F82.ext E346
                have F359 : Exa Z h343 a34 "com/example/mandatum/mandatum/FactBase" := F83.ext E346
                have F360 : Exa Z h343 a62 "com/example/mandatum/mandatum/FactBase$Moment" := F84.ext E346
                have F361 : Fld Z h343 a62 "com/example/mandatum/mandatum/FactBase$Moment" "base" "Lcom/example/mandatum/mandatum/FactBase;" (.ref a9) := F77.ext E346
                have F362 : Fld Z h343 a62 "com/example/mandatum/mandatum/FactBase$Moment" "changes" "I" (.int x1) := F78.ext E346
                have F363 : Fld Z h343 a350 "com/example/mandatum/mandatum/FactBase$Moment" "base" "Lcom/example/mandatum/mandatum/FactBase;" .null := D348 (Or.inr (hw _ (List.mem_of_getElem? (i := 40) rfl))) (ty := (.object "com/example/mandatum/mandatum/FactBase")) (by decide)
                have F364 : Fld Z h343 a350 "com/example/mandatum/mandatum/FactBase$Moment" "changes" "I" (.int (0 : Int32)) := D348 (Or.inr (hw _ (List.mem_of_getElem? (i := 42) rfl))) (ty := .int) (by decide)
                refine own_step (T' := T342) (g' := (mkF m 189 #[.val (.int x1), .val (.int y1), .val (.int sel), .val (.ref a9), .val (.ref a34), .val (.ref a62), .val (.int (sel &&& (7 : Int32))), .unset, .unset] [(.ref a350)])) st349 ?_
                refine own_step (T' := T342) (g' := (mkF m 190 #[.val (.int x1), .val (.int y1), .val (.int sel), .val (.ref a9), .val (.ref a34), .val (.ref a62), .val (.int (sel &&& (7 : Int32))), .unset, .unset] [(.ref a350), (.ref a350)])) (fun t_ k_ => XS.dup X344.here hx rfl (hb hby at_189) rfl rfl k_) ?_
                refine own_step (T' := T342) (g' := (mkF m 191 #[.val (.int x1), .val (.int y1), .val (.int sel), .val (.ref a9), .val (.ref a34), .val (.ref a62), .val (.int (sel &&& (7 : Int32))), .unset, .unset] [.null, (.ref a350), (.ref a350)])) (fun t_ k_ => XS.aconstNull X344.here hx rfl (hb hby at_190) k_) ?_
                refine own_step (T' := T342) (g' := (mkF m 192 #[.val (.int x1), .val (.int y1), .val (.int sel), .val (.ref a9), .val (.ref a34), .val (.ref a62), .val (.int (sel &&& (7 : Int32))), .unset, .unset] [(.int x1), .null, (.ref a350), (.ref a350)])) (fun t_ k_ => XS.iloadN X344.here hx rfl (hb hby at_191) rfl k_) ?_
                obtain ⟨_, _, ⟨Tc365, Lc365, kc365, nc365⟩, -, Xc365, ⟨Lcc365, hQc365, lc365, yc365, zc365⟩, stc365⟩ := X344.specialBack hx (y := (⟨"com/example/mandatum/mandatum/FactBase$Moment", "<init>", "(Lcom/example/mandatum/mandatum/FactBase;I)V"⟩ : MethodName)) rfl hown (mvT hZ (hw _ (List.mem_of_getElem? (i := 30) rfl))) (mvT hZ (hw _ (List.mem_of_getElem? (i := 31) rfl))) (mvT hZ (hw _ (List.mem_of_getElem? (i := 32) rfl))) (by decide) (backOf (W := 1) (rm_momn l Z a0 hw [] a350 x1 .null (0 : Int32) h343 n0 F356 A347 F363 F364 q352) hZ (hw _ (List.mem_of_getElem? (i := 32) rfl)) (hw _ (List.mem_of_getElem? (i := 29) rfl)) (by decide) (by decide)) (g := (mkF m 192 #[.val (.int x1), .val (.int y1), .val (.int sel), .val (.ref a9), .val (.ref a34), .val (.ref a62), .val (.int (sel &&& (7 : Int32))), .unset, .unset] [(.int x1), .null, (.ref a350), (.ref a350)])) rfl (by rw [hml]; rfl) (Steps.refl _) (a := a350) (argsL := [.null, (.int x1)]) (rest := [(.ref a350)]) (lenOf pd_2 rfl) rfl (by show 2 * 0 + _ ≤ _; exact Nat.le_of_eq rfl) (hb hby at_192) (fun _ _ => ⟨rfl, e345, (by decide : 6 + 0 ≤ _), (by decide : 26 + 0 ≤ _)⟩)
                dsimp only [Pt.U, Pt.locs, Pt.cells, Pt.slots] at Xc365 lc365 yc365 zc365 stc365 hQc365
                subst lc365 yc365 zc365
                have X366 := Xc365.more (cells' := 6) (slots' := 26) (by decide) (by decide)
                obtain ⟨rfl, N367, K368, F369, F370⟩ := hQc365
                have N371 := Fr.app N87 N367
                have F372 : n0 ≤ Tc365.heap.size := Nat.le_trans F356 K368.1
                have F373 : Old Z n0 Tc365.heap := F357.keep K368 (allS q352 all0)
                have F374 : Exa Z Tc365.heap a9 "com/example/mandatum/mandatum/FactBase" := F358.keep K368
                have F375 : Exa Z Tc365.heap a34 "com/example/mandatum/mandatum/FactBase" := F359.keep K368
                have F376 : Exa Z Tc365.heap a62 "com/example/mandatum/mandatum/FactBase$Moment" := F360.keep K368
                have F377 : Fld Z Tc365.heap a62 "com/example/mandatum/mandatum/FactBase$Moment" "base" "Lcom/example/mandatum/mandatum/FactBase;" (.ref a9) := F361.keep K368 (ninS ne355 nin0)
                have F378 : Fld Z Tc365.heap a62 "com/example/mandatum/mandatum/FactBase$Moment" "changes" "I" (.int x1) := F362.keep K368 (ninS ne355 nin0)
                have F379 : Exa Z Tc365.heap a350 "com/example/mandatum/mandatum/FactBase$Moment" := A347.keep K368
                obtain ⟨Lo380, X381, N382⟩ : ∃ Lo_, Stand p l e room_1 s m #[(.int x1), (.int y1), (.int sel)] below meth c Tc365 Lo_ 6 26 ∧ Fr n0 Lo_ := ⟨_, X366, N371⟩
                refine own_step (T' := Tc365) (g' := (mkF m 195 #[.val (.int x1), .val (.int y1), .val (.int sel), .val (.ref a9), .val (.ref a34), .val (.ref a62), .val (.int (sel &&& (7 : Int32))), .unset, .unset] [(.ref a350)])) (fun t_ k_ => stc365.trans k_) ?_
                refine own_step (T' := Tc365) (g' := (mkF m 197 #[.val (.int x1), .val (.int y1), .val (.int sel), .val (.ref a9), .val (.ref a34), .val (.ref a62), .val (.int (sel &&& (7 : Int32))), .val (.ref a350), .unset] [])) (fun t_ k_ => XS.astore X381.here hx rfl (hb hby at_195) rfl rfl (l' := #[.val (.int x1), .val (.int y1), .val (.int sel), .val (.ref a9), .val (.ref a34), .val (.ref a62), .val (.int (sel &&& (7 : Int32))), .val (.ref a350), .unset]) rfl k_) ?_
                refine own_step (T' := Tc365) (g' := (mkF m 198 #[.val (.int x1), .val (.int y1), .val (.int sel), .val (.ref a9), .val (.ref a34), .val (.ref a62), .val (.int (sel &&& (7 : Int32))), .val (.ref a350), .unset] [(.int (0 : Int32))])) (fun t_ k_ => XT.iconstV X381.here hx rfl (0 : Int32) (hb hby at_197) (by decide) k_) ?_
                refine own_step (T' := Tc365) (g' := (mkF m 200 #[.val (.int x1), .val (.int y1), .val (.int sel), .val (.ref a9), .val (.ref a34), .val (.ref a62), .val (.int (sel &&& (7 : Int32))), .val (.ref a350), .val (.int (0 : Int32))] [])) (fun t_ k_ => XS.istore X381.here hx rfl (hb hby at_198) rfl (l' := #[.val (.int x1), .val (.int y1), .val (.int sel), .val (.ref a9), .val (.ref a34), .val (.ref a62), .val (.int (sel &&& (7 : Int32))), .val (.ref a350), .val (.int (0 : Int32))]) rfl k_) ?_
                refine own_step (T' := Tc365) (g' := (mkF m 202 #[.val (.int x1), .val (.int y1), .val (.int sel), .val (.ref a9), .val (.ref a34), .val (.ref a62), .val (.int (sel &&& (7 : Int32))), .val (.ref a350), .val (.int (0 : Int32))] [(.ref a62)])) (fun t_ k_ => XS.aload X381.here hx rfl (hb hby at_200) rfl rfl k_) ?_
                refine own_step (T' := Tc365) (g' := (mkF m 204 #[.val (.int x1), .val (.int y1), .val (.int sel), .val (.ref a9), .val (.ref a34), .val (.ref a62), .val (.int (sel &&& (7 : Int32))), .val (.ref a350), .val (.int (0 : Int32))] [(.ref a350), (.ref a62)])) (fun t_ k_ => XS.aload X381.here hx rfl (hb hby at_202) rfl rfl k_) ?_
                obtain ⟨cqc383, kqc383, qac383, qbc383, qcc383⟩ := isOf hZ rfl F376
                obtain ⟨_, _, ⟨Tc383, Lc383, kc383, nc383⟩, -, Xc383, ⟨Lcc383, hQc383, lc383, yc383, zc383⟩, stc383⟩ := X381.virtualBack hx (y := (⟨"com/example/mandatum/mandatum/FactBase$Moment", "equals", "(Ljava/lang/Object;)Z"⟩ : MethodName)) (z := (⟨"com/example/mandatum/mandatum/FactBase$Moment", "equals", "(Ljava/lang/Object;)Z"⟩ : MethodName)) hown (mvT hZ (hw _ (List.mem_of_getElem? (i := 43) rfl))) (mvT hZ (hw _ (List.mem_of_getElem? (i := 44) rfl))) (notFace_of_selects (args := #[]) (mvT hZ (hw _ (List.mem_of_getElem? (i := 46) rfl)))) (mvT hZ (hw _ (List.mem_of_getElem? (i := 46) rfl))) (mvT hZ (hw _ (List.mem_of_getElem? (i := 45) rfl))) (by decide) (backOf (W := 0) (rm_eqo l Z a0 hw [] a62 a350 a9 x1 x1 Tc365.heap n0 F372 F379 F377 F378 F369 F370) hZ (hw _ (List.mem_of_getElem? (i := 47) rfl)) (hw _ (List.mem_of_getElem? (i := 29) rfl)) (by decide) (by decide)) qac383 qcc383 (g := (mkF m 204 #[.val (.int x1), .val (.int y1), .val (.int sel), .val (.ref a9), .val (.ref a34), .val (.ref a62), .val (.int (sel &&& (7 : Int32))), .val (.ref a350), .val (.int (0 : Int32))] [(.ref a350), (.ref a62)])) rfl (by rw [hml]; rfl) (Steps.refl _) (argsL := [(.ref a350)]) (rest := []) (lenOf pd_3 rfl) rfl (by show 2 * 0 + _ ≤ _; exact Nat.le_of_eq rfl) (hb hby at_204) (fun _ _ => ⟨rfl, rfl, (by decide : 6 + 0 ≤ _), (by decide : 26 + 0 ≤ _)⟩)
                dsimp only [Pt.U, Pt.locs, Pt.cells, Pt.slots] at Xc383 lc383 yc383 zc383 stc383 hQc383
                subst lc383 yc383 zc383
                have X384 := Xc383.more (cells' := 6) (slots' := 26) (by decide) (by decide)
                obtain ⟨rfl, N385, e386⟩ := hQc383
                have N387 := Fr.app N382 N385
                obtain ⟨Lo388, X389, N390⟩ : ∃ Lo_, Stand p l e room_1 s m #[(.int x1), (.int y1), (.int sel)] below meth c Tc383 Lo_ 6 26 ∧ Fr n0 Lo_ := ⟨_, X384, N387⟩
                refine own_step (T' := Tc383) (g' := (mkF m 207 #[.val (.int x1), .val (.int y1), .val (.int sel), .val (.ref a9), .val (.ref a34), .val (.ref a62), .val (.int (sel &&& (7 : Int32))), .val (.ref a350), .val (.int (0 : Int32))] [(.int (0 : Int32))])) (fun t_ k_ => stc383.trans k_) ?_
                refine own_step (T' := Tc383) (g' := (mkF m 209 #[.val (.int x1), .val (.int y1), .val (.int sel), .val (.ref a9), .val (.ref a34), .val (.ref a62), .val (.int (sel &&& (7 : Int32))), .val (.ref a350), .val (.int (0 : Int32))] [(.int (0 : Int32)), (.int (0 : Int32))])) (fun t_ k_ => XS.iload X389.here hx rfl (hb hby at_207) rfl k_) ?_
                have hk391 : (0 : Int32) = (0 : Int32) := rfl
                refine own_step (T' := Tc383) (g' := (mkF m 212 #[.val (.int x1), .val (.int y1), .val (.int sel), .val (.ref a9), .val (.ref a34), .val (.ref a62), .val (.int (sel &&& (7 : Int32))), .val (.ref a350), .val (.int (0 : Int32))] [])) (fun t_ k_ => XS.icmpNo X389.here hx rfl (hb hby at_209) rfl (XT.ii_ne_f hk391) k_) ?_
                refine own_step (T' := Tc383) (g' := (mkF m 213 #[.val (.int x1), .val (.int y1), .val (.int sel), .val (.ref a9), .val (.ref a34), .val (.ref a62), .val (.int (sel &&& (7 : Int32))), .val (.ref a350), .val (.int (0 : Int32))] [(.int (1 : Int32))])) (fun t_ k_ => XT.iconstV X389.here hx rfl (1 : Int32) (hb hby at_212) (by decide) k_) ?_
                refine own_step (T' := Tc383) (g' := (mkF m 217 #[.val (.int x1), .val (.int y1), .val (.int sel), .val (.ref a9), .val (.ref a34), .val (.ref a62), .val (.int (sel &&& (7 : Int32))), .val (.ref a350), .val (.int (0 : Int32))] [(.int (1 : Int32))])) (fun t_ k_ => XS.goto X389.here hx rfl (pc0 := 213) (pc' := 217) rfl (hb hby at_213) (by decide) (by decide) k_) ?_
                exact own_retN X389 hx hlk (t := .boolean) Bd.returns (by simp) (hb hby at_217) (by rw [e386]; exact ⟨rfl, N390⟩) (by decide) (by decide)
set_option maxRecDepth 65536 in
set_option maxHeartbeats 40000000 in
theorem comes_1 {Post : Tables → Env → Array Value → State → Outcome → State → Prop} (hpost : ∀ tb e args s v u, (limb_1_1.after args s (.returned v) u = true ∧ limb_1_2.after args s (.returned v) u = true ∧ True) → FrameEnd s (.returned v) u (Jvm.fieldLocs frame_1_writes args s ++ Jvm.arrayLocs frame_1_arrays args s ++ Jvm.staticLocs frame_1_statics s) 24 128 → Post tb e args s (.returned v) u) :
    ArmFor flags0 classFile x code maxLocals ret World_1 tables_1 room_1 Calls_1 rest_1 Pre_1 Post := by
  intro l hfl _ _ p e ha hc hk s m args below hf hA hF happ hP
  obtain ⟨hcalls, hrest, hpre⟩ := hP
  obtain ⟨-, -, -, hnamed, -, -, -, hat⟩ := (Spec.applies_iff hf).mp happ
  obtain ⟨hg, hn⟩ := and_e (Cond.before_iff.mp (show (Jvm.Cond.and given_1 narrow_1).before args s = true from hpre))
  obtain ⟨hcount, hg0⟩ := and_e hg
  obtain ⟨ha0, hg1⟩ := and_e hg0
  obtain ⟨ha1, hg2⟩ := and_e hg1
  obtain ⟨w0, w1, w2, rfl⟩ : ∃ w0 w1 w2 : Value, args = #[w0, w1, w2] := by
    have hs : args.size = 3 := by simpa [Cond.value, given_1] using hcount
    obtain ⟨L⟩ := args
    match L, hs with
    | [w0, w1, w2], _ => exact ⟨w0, w1, w2, rfl⟩
  have hw := fun d (hd : d ∈ tables_1) => atoms_spec (ws := Jvm.Cond.code x code maxLocals ret :: tables_1) hat d (List.mem_cons_of_mem _ hd)
  obtain ⟨i0, ei0⟩ := is_v ha0
  obtain rfl : w0 = (.int i0) := Option.some.inj ei0
  obtain ⟨i1, ei1⟩ := is_v ha1
  obtain rfl : w1 = (.int i1) := Option.some.inj ei1
  obtain ⟨i2, ei2⟩ := is_v hg2
  obtain rfl : w2 = (.int i2) := Option.some.inj ei2
  obtain ⟨hsets, hown0⟩ := atoms_of _ (rest_1_c_eq ▸ (show rest_1_c.before _ s = true from hrest))
  have g3 := Cond.before_iff.mp (hsets _ (List.mem_of_getElem? (i := 3) rfl))
  have g4 := Cond.before_iff.mp (hsets _ (List.mem_of_getElem? (i := 4) rfl))
  have g6 := Cond.before_iff.mp (hsets _ (List.mem_of_getElem? (i := 6) rfl))
  have g7 := Cond.before_iff.mp (hsets _ (List.mem_of_getElem? (i := 7) rfl))
  have SH : Sta s s.heap "java/lang/Integer$IntegerCache" "high" "I" (.int (127 : Int32)) := Sta.start (own_eqv g3) (Or.inl (hsets _ (List.mem_of_getElem? (i := 1) rfl)))
  obtain ⟨cc, ev⟩ := arr_v g4
  obtain ⟨cl, AC⟩ := Arr.start ev g4
  have SC : Sta s s.heap "java/lang/Integer$IntegerCache" "cache" "[Ljava/lang/Integer;" (.ref cc) := Sta.start ev (Or.inr ⟨(hw _ (List.mem_of_getElem? (i := 55) rfl)), hsets _ (List.mem_of_getElem? (i := 2) rfl)⟩)
  have hsz := own_size ev AC (own_eqv g6)
  have hel := own_all ev (fun _ => rfl) AC hsz g7
  obtain ⟨n, o, h1, h2, h3, _, L, rfl, ⟨rfl, N⟩, hq⟩ := rm_law l s _ hw tables_1 i0 i1 i2 cc cl s.heap s.heap.size (Nat.le_refl _) (Old.start s) SH SC AC hsz hel p e ha hc hk s m _ below hf ((Spec.applies_iff_loose hf).mp happ).1 ⟨rfl, State.Warmed39.refl s, rfl⟩ trivial
  refine ⟨n, _, h1, h2, h3, hpost _ _ _ _ _ _ ⟨Cond.after_iff.mpr rfl, Cond.after_iff.mpr (eq_i res_at (Term.int_eval (1)) rfl), trivial⟩ ⟨hq.1, hq.2.1, (hq.2.2.sift fun y hy => Or.inr (N y hy)).mono (by decide) (by decide)⟩⟩
theorem main_1_1 : Claimed_1_1 := comes_1 fun _ _ _ _ _ _ h hF => ⟨h.1, hF⟩
theorem main_1_2 : Claimed_1_2 := comes_1 fun _ _ _ _ _ _ h hF => ⟨h.2.1, hF⟩
end Jvm.Pilot.@@N@@
namespace Jvm.Pilot.@@N@@
open Jvm Jvm.ClassFile Sem Op Lib Jvm.Free Jvm.Stand Jvm.Pilot.@@N@@.Jvm.D
/-! MADE BY PROGRAM (witnessworld.py) out of the Statement's table words and the real class files: 21 classes; the members and pool entries that the words name. The judged class is class 1, her method 1. -/
namespace start1
open Jvm.ClassFile
def u (s : String) : CpInfo := .utf8 (stringToUtf16 s)
/-- a pool by its gaps: so many unusable entries, then the entry; so many at the end -/
def gap : Nat → List CpInfo → List CpInfo
  | 0, r => r
  | n + 1, r => .unusable :: gap n r
def poolList (es : List (Nat × CpInfo)) (last : Nat) : List CpInfo := es.foldr (fun e r => gap e.1 (e.2 :: r)) (gap last [])
def pool (es : List (Nat × CpInfo)) (last : Nat) : Array CpInfo := ⟨poolList es last⟩
def fileOf (pool : Array CpInfo) (this : Nat) (attrs : Array Attribute := #[]) (ms : Array MethodInfo := #[]) (fl : Nat := 33) (sup : Nat := 0) (ifs : Array Nat := #[]) (fds : Array FieldInfo := #[]) : ClassFile where
  minorVersion := 0
  majorVersion := 65
  constantPool := pool
  accessFlags := fl
  thisClass := this
  superClass := sup
  interfaces := ifs
  fields := fds
  methods := ms
  attributes := attrs
def plain (name : String) (sup : Option ClassId) : Class where
  name := name
  kind := .ordinary
  loader := none
  accessFlags := 33
  super := sup
  interfaces := #[]
  cf := none
  fields := #[]
  methods := #[]
  instanceTypes := #[]
  staticTypes := #[]
  resolved := #[]
  callSites := []
  init := .initialized
  statics := none
  mirror := none

def pool0 : Array CpInfo := pool [(5, u "<init>"), (0, u "()V"), (1, .class_ 10), (1, u "java/lang/Object")] 113

def k0c0 : Code := { maxStack := 0, maxLocals := 1, code := object_method_1_code, exceptionTable := #[], attributes := #[] }
def k0m0 : Method := { name := "<init>", desc := "()V", sig := { parameters := [], returnType := none }, accessFlags := 1, code := some k0c0 }
/-- java/lang/Object -/
def k0 : Class := { plain "java/lang/Object" none with
  accessFlags := 33
  interfaces := #[]
  cf := some (fileOf pool0 8 #[] #[{ accessFlags := 1, nameIndex := 5, descriptorIndex := 6, attributes := #[] }] 33 0 #[] #[])
  fields := #[]
  methods := #[k0m0]
  instanceTypes := #[]
  staticTypes := #[]
  resolved := Array.replicate 124 none
  statics := none }

def pool1 : Array CpInfo := pool [(2, .class_ 4), (0, .nameAndType 5 6), (0, u "java/lang/Object"), (0, u "<init>"), (0, u "()V"), (0, .class_ 8), (0, u "com/example/mandatum/mandatum/FactBase"), (0, .methodref 7 3), (0, .class_ 11), (0, u "com/example/mandatum/mandatum/FactBase$Moment"), (0, .methodref 10 13), (0, .nameAndType 5 14), (0, u "(Lcom/example/mandatum/mandatum/FactBase;I)V"), (0, .methodref 16 17), (0, .class_ 18), (0, .nameAndType 19 20), (0, u "java/lang/Integer"), (0, u "valueOf"), (0, u "(I)Ljava/lang/Integer;"), (0, .methodref 10 22), (0, .nameAndType 23 24), (0, u "equals"), (0, u "(Ljava/lang/Object;)Z"), (0, .class_ 26), (0, u "com/example/mandatum/mandatum/MomentEqualsPinLaw"), (2, u "law"), (0, u "(III)Z")] 5

def k1m0 : Method := { name := "<init>", desc := "()V", sig := { parameters := [], returnType := none }, accessFlags := 1, code := none }
def k1c1 : Code := { maxStack := 4, maxLocals := 9, code := code, exceptionTable := #[], attributes := #[] }
def k1m1 : Method := { name := "law", desc := "(III)Z", sig := { parameters := [.int, .int, .int], returnType := some .boolean }, accessFlags := 9, code := some k1c1 }
/-- com/example/mandatum/mandatum/MomentEqualsPinLaw -/
def k1 : Class := { plain "com/example/mandatum/mandatum/MomentEqualsPinLaw" (some 0) with
  accessFlags := 49
  interfaces := #[]
  cf := some (fileOf pool1 25 #[] #[{ accessFlags := 1, nameIndex := 5, descriptorIndex := 6, attributes := #[] }, { accessFlags := 9, nameIndex := 29, descriptorIndex := 30, attributes := #[] }] 49 2 #[] #[])
  fields := #[]
  methods := #[k1m0, k1m1]
  instanceTypes := #[]
  staticTypes := #[]
  resolved := Array.replicate 36 none
  statics := none }

def pool2 : Array CpInfo := pool [(3, .methodref 4 5), (0, .class_ 6), (0, .nameAndType 7 8), (0, u "java/lang/Object"), (0, u "<init>"), (0, u "()V"), (0, .class_ 10), (0, u "java/util/HashMap"), (0, .methodref 9 5), (0, .fieldref 13 14), (0, .class_ 15), (0, .nameAndType 16 17), (0, u "com/example/mandatum/mandatum/FactBase"), (0, u "facts"), (0, u "Ljava/util/Map;"), (16, .class_ 35), (0, u "com/example/mandatum/mandatum/FactBase$SameIndicator"), (6, .class_ 44), (1, u "com/example/mandatum/mandatum/FactBase$History"), (4, u "changes"), (0, u "I"), (30, u "reading"), (0, u "Lcom/example/mandatum/mandatum/Touched;"), (7, .class_ 91), (0, u "com/example/mandatum/mandatum/FactBase$Moment"), (11, u "LATEST"), (23, .class_ 128), (0, u "com/example/mandatum/mandatum/FactBase$Joined"), (0, .class_ 130), (0, u "com/example/mandatum/mandatum/FactBase$Holding")] 27

def k2c0 : Code := { maxStack := 3, maxLocals := 1, code := prog_45_method_1_code, exceptionTable := #[], attributes := #[] }
def k2m0 : Method := { name := "<init>", desc := "()V", sig := { parameters := [], returnType := none }, accessFlags := 0, code := some k2c0 }
/-- com/example/mandatum/mandatum/FactBase -/
def k2 : Class := { plain "com/example/mandatum/mandatum/FactBase" (some 0) with
  accessFlags := 48
  interfaces := #[]
  cf := some (fileOf pool2 13 #[.nestMembers #[127, 129, 34, 42, 90]] #[{ accessFlags := 0, nameIndex := 7, descriptorIndex := 8, attributes := #[] }] 48 4 #[] #[{ accessFlags := 26, nameIndex := 103, descriptorIndex := 50, attributes := #[] }, { accessFlags := 18, nameIndex := 16, descriptorIndex := 17, attributes := #[] }, { accessFlags := 2, nameIndex := 49, descriptorIndex := 50, attributes := #[] }, { accessFlags := 2, nameIndex := 81, descriptorIndex := 82, attributes := #[] }])
  fields := #[{ name := "LATEST", type := .int, accessFlags := 26, slot := 0, constantValue := 0 }, { name := "facts", type := (.object "java/util/Map"), accessFlags := 18, slot := 0, constantValue := 0 }, { name := "changes", type := .int, accessFlags := 2, slot := 1, constantValue := 0 }, { name := "reading", type := (.object "com/example/mandatum/mandatum/Touched"), accessFlags := 2, slot := 2, constantValue := 0 }]
  methods := #[k2m0]
  instanceTypes := #[(.object "java/util/Map"), .int, (.object "com/example/mandatum/mandatum/Touched")]
  staticTypes := #[.int]
  resolved := Array.replicate 158 none
  statics := none }

def pool3 : Array CpInfo := pool [(2, .class_ 4), (1, u "java/util/Map"), (31, .class_ 37), (0, u "java/util/Map$Entry"), (55, .class_ 94), (0, u "java/lang/Object")] 168

/-- java/util/Map -/
def k3 : Class := { plain "java/util/Map" (some 0) with
  accessFlags := 1537
  interfaces := #[]
  cf := some (fileOf pool3 2 #[.nestMembers #[36]] #[] 1537 93 #[] #[])
  fields := #[]
  methods := #[]
  instanceTypes := #[]
  staticTypes := #[]
  resolved := Array.replicate 263 none
  statics := none }

def pool4 : Array CpInfo := pool [(1, .methodref 2 3), (0, .class_ 4), (0, .nameAndType 5 6), (0, u "java/lang/Object"), (0, u "<init>"), (0, u "()V"), (1, .class_ 10), (1, u "java/util/AbstractMap"), (42, .class_ 54), (0, u "java/util/Map"), (9, u "keySet"), (0, u "Ljava/util/Set;"), (0, .class_ 67), (0, u "java/util/AbstractMap$1"), (5, u "values"), (0, u "Ljava/util/Collection;"), (0, .class_ 76), (0, u "java/util/AbstractMap$2"), (104, .class_ 182), (0, u "java/util/AbstractMap$ViewCollection"), (0, .class_ 184), (0, u "java/util/AbstractMap$SimpleImmutableEntry"), (0, .class_ 186), (0, u "java/util/AbstractMap$SimpleEntry"), (0, .class_ 188), (0, u "java/util/AbstractMap$2$1"), (0, .class_ 190), (0, u "java/util/AbstractMap$1$1")] 5

def k4c0 : Code := { maxStack := 1, maxLocals := 1, code := jdk_71_method_1_code, exceptionTable := #[], attributes := #[] }
def k4m0 : Method := { name := "<init>", desc := "()V", sig := { parameters := [], returnType := none }, accessFlags := 4, code := some k4c0 }
/-- java/util/AbstractMap -/
def k4 : Class := { plain "java/util/AbstractMap" (some 0) with
  accessFlags := 1057
  interfaces := #[3]
  cf := some (fileOf pool4 8 #[.nestMembers #[181, 183, 185, 75, 187, 66, 189]] #[{ accessFlags := 4, nameIndex := 5, descriptorIndex := 6, attributes := #[] }] 1057 2 #[53] #[{ accessFlags := 128, nameIndex := 64, descriptorIndex := 65, attributes := #[] }, { accessFlags := 128, nameIndex := 73, descriptorIndex := 74, attributes := #[] }])
  fields := #[{ name := "keySet", type := (.object "java/util/Set"), accessFlags := 128, slot := 0, constantValue := 0 }, { name := "values", type := (.object "java/util/Collection"), accessFlags := 128, slot := 1, constantValue := 0 }]
  methods := #[k4m0]
  instanceTypes := #[(.object "java/util/Set"), (.object "java/util/Collection")]
  staticTypes := #[]
  resolved := Array.replicate 196 none
  statics := none }

def pool5 : Array CpInfo := pool [(1, .class_ 2), (0, u "java/lang/Cloneable"), (0, .class_ 4), (0, u "java/lang/Object")] 2

/-- java/lang/Cloneable -/
def k5 : Class := { plain "java/lang/Cloneable" (some 0) with
  accessFlags := 1537
  interfaces := #[]
  cf := some (fileOf pool5 1 #[] #[] 1537 3 #[] #[])
  fields := #[]
  methods := #[]
  instanceTypes := #[]
  staticTypes := #[]
  resolved := Array.replicate 7 none
  statics := none }

def pool6 : Array CpInfo := pool [(1, .class_ 2), (0, u "java/io/Serializable"), (0, .class_ 4), (0, u "java/lang/Object")] 2

/-- java/io/Serializable -/
def k6 : Class := { plain "java/io/Serializable" (some 0) with
  accessFlags := 1537
  interfaces := #[]
  cf := some (fileOf pool6 1 #[] #[] 1537 3 #[] #[])
  fields := #[]
  methods := #[]
  instanceTypes := #[]
  staticTypes := #[]
  resolved := Array.replicate 7 none
  statics := none }

def pool7 : Array CpInfo := pool [(40, .class_ 41), (0, u "java/util/HashMap"), (1, .methodref 44 45), (0, .class_ 46), (0, .nameAndType 47 48), (0, u "java/util/AbstractMap"), (0, u "<init>"), (0, u "()V"), (32, .fieldref 40 82), (0, .nameAndType 83 84), (0, u "loadFactor"), (0, u "F"), (5, u "threshold"), (0, u "I"), (0, .float 1061158912), (8, .class_ 103), (1, u "java/util/Map"), (0, u "size"), (2, u "table"), (0, u "[Ljava/util/HashMap$Node;"), (14, u "entrySet"), (39, .class_ 165), (1, u "java/util/HashMap$Node"), (14, .class_ 181), (0, u "java/util/HashMap$TreeNode"), (22, u "modCount"), (37, u "Ljava/util/Set;"), (0, .class_ 244), (0, u "java/util/HashMap$KeySet"), (18, .class_ 264), (0, u "java/util/HashMap$Values"), (3, .class_ 269), (0, u "java/util/HashMap$EntrySet"), (76, .class_ 348), (1, u "java/util/HashMap$UnsafeHolder"), (43, .class_ 393), (0, u "java/lang/Cloneable"), (0, .class_ 395), (0, u "java/io/Serializable"), (0, u "serialVersionUID"), (0, u "J"), (3, u "DEFAULT_INITIAL_CAPACITY"), (1, u "MAXIMUM_CAPACITY"), (0, u "DEFAULT_LOAD_FACTOR"), (0, u "TREEIFY_THRESHOLD"), (1, u "UNTREEIFY_THRESHOLD"), (1, u "MIN_TREEIFY_CAPACITY"), (186, .class_ 597), (0, u "java/util/HashMap$EntrySpliterator"), (0, .class_ 599), (0, u "java/util/HashMap$ValueSpliterator"), (0, .class_ 601), (0, u "java/util/HashMap$KeySpliterator"), (0, .class_ 603), (0, u "java/util/HashMap$HashMapSpliterator"), (0, .class_ 605), (0, u "java/util/HashMap$EntryIterator"), (0, .class_ 607), (0, u "java/util/HashMap$ValueIterator"), (0, .class_ 609), (0, u "java/util/HashMap$KeyIterator"), (0, .class_ 611), (0, u "java/util/HashMap$HashIterator")] 17

def k7c0 : Code := { maxStack := 2, maxLocals := 1, code := jdk_69_method_7_code, exceptionTable := #[], attributes := #[] }
def k7m0 : Method := { name := "<init>", desc := "()V", sig := { parameters := [], returnType := none }, accessFlags := 1, code := some k7c0 }
/-- java/util/HashMap -/
def k7 : Class := { plain "java/util/HashMap" (some 4) with
  accessFlags := 33
  interfaces := #[3, 5, 6]
  cf := some (fileOf pool7 40 #[.nestMembers #[180, 596, 598, 600, 602, 604, 606, 608, 610, 346, 268, 263, 243, 163]] #[{ accessFlags := 1, nameIndex := 47, descriptorIndex := 48, attributes := #[] }] 33 44 #[101, 392, 394] #[{ accessFlags := 26, nameIndex := 396, descriptorIndex := 397, attributes := #[] }, { accessFlags := 24, nameIndex := 401, descriptorIndex := 91, attributes := #[] }, { accessFlags := 24, nameIndex := 403, descriptorIndex := 91, attributes := #[] }, { accessFlags := 24, nameIndex := 404, descriptorIndex := 84, attributes := #[] }, { accessFlags := 24, nameIndex := 405, descriptorIndex := 91, attributes := #[] }, { accessFlags := 24, nameIndex := 407, descriptorIndex := 91, attributes := #[] }, { accessFlags := 24, nameIndex := 409, descriptorIndex := 91, attributes := #[] }, { accessFlags := 128, nameIndex := 107, descriptorIndex := 108, attributes := #[] }, { accessFlags := 128, nameIndex := 123, descriptorIndex := 242, attributes := #[] }, { accessFlags := 128, nameIndex := 104, descriptorIndex := 91, attributes := #[] }, { accessFlags := 128, nameIndex := 204, descriptorIndex := 91, attributes := #[] }, { accessFlags := 0, nameIndex := 90, descriptorIndex := 91, attributes := #[] }, { accessFlags := 16, nameIndex := 83, descriptorIndex := 84, attributes := #[] }])
  fields := #[{ name := "serialVersionUID", type := .long, accessFlags := 26, slot := 0, constantValue := 0 }, { name := "DEFAULT_INITIAL_CAPACITY", type := .int, accessFlags := 24, slot := 1, constantValue := 0 }, { name := "MAXIMUM_CAPACITY", type := .int, accessFlags := 24, slot := 2, constantValue := 0 }, { name := "DEFAULT_LOAD_FACTOR", type := .float, accessFlags := 24, slot := 3, constantValue := 0 }, { name := "TREEIFY_THRESHOLD", type := .int, accessFlags := 24, slot := 4, constantValue := 0 }, { name := "UNTREEIFY_THRESHOLD", type := .int, accessFlags := 24, slot := 5, constantValue := 0 }, { name := "MIN_TREEIFY_CAPACITY", type := .int, accessFlags := 24, slot := 6, constantValue := 0 }, { name := "table", type := (.array (.object "java/util/HashMap$Node")), accessFlags := 128, slot := 2, constantValue := 0 }, { name := "entrySet", type := (.object "java/util/Set"), accessFlags := 128, slot := 3, constantValue := 0 }, { name := "size", type := .int, accessFlags := 128, slot := 4, constantValue := 0 }, { name := "modCount", type := .int, accessFlags := 128, slot := 5, constantValue := 0 }, { name := "threshold", type := .int, accessFlags := 0, slot := 6, constantValue := 0 }, { name := "loadFactor", type := .float, accessFlags := 16, slot := 7, constantValue := 0 }]
  methods := #[k7m0]
  instanceTypes := #[(.object "java/util/Set"), (.object "java/util/Collection"), (.array (.object "java/util/HashMap$Node")), (.object "java/util/Set"), .int, .int, .int, .float]
  staticTypes := #[.long, .int, .int, .float, .int, .int, .int]
  resolved := Array.replicate 629 none
  statics := none }

def pool8 : Array CpInfo := pool [(1, .methodref 2 3), (0, .class_ 4), (0, .nameAndType 5 6), (0, u "java/lang/Object"), (0, u "<init>"), (0, u "()V"), (0, .class_ 8), (0, u "java/lang/Record")] 13

def k8c0 : Code := { maxStack := 1, maxLocals := 1, code := jdk_30_method_1_code, exceptionTable := #[], attributes := #[] }
def k8m0 : Method := { name := "<init>", desc := "()V", sig := { parameters := [], returnType := none }, accessFlags := 4, code := some k8c0 }
/-- java/lang/Record -/
def k8 : Class := { plain "java/lang/Record" (some 0) with
  accessFlags := 1057
  interfaces := #[]
  cf := some (fileOf pool8 7 #[] #[{ accessFlags := 4, nameIndex := 5, descriptorIndex := 6, attributes := #[] }] 1057 2 #[] #[])
  fields := #[]
  methods := #[k8m0]
  instanceTypes := #[]
  staticTypes := #[]
  resolved := Array.replicate 22 none
  statics := none }

def pool9 : Array CpInfo := pool [(1, .class_ 2), (0, u "com/example/mandatum/mandatum/FactBase"), (0, .methodref 4 5), (0, .class_ 6), (0, .nameAndType 7 8), (0, u "java/lang/Record"), (0, u "<init>"), (0, u "()V"), (0, .fieldref 10 11), (0, .class_ 12), (0, .nameAndType 13 14), (0, u "com/example/mandatum/mandatum/FactBase$Moment"), (0, u "base"), (0, u "Lcom/example/mandatum/mandatum/FactBase;"), (0, .fieldref 10 16), (0, .nameAndType 17 18), (0, u "changes"), (0, u "I"), (47, u "(Lcom/example/mandatum/mandatum/FactBase;I)V"), (10, u "equals"), (0, u "(Ljava/lang/Object;)Z")] 27

def k9c0 : Code := { maxStack := 2, maxLocals := 3, code := prog_49_method_1_code, exceptionTable := #[], attributes := #[] }
def k9m0 : Method := { name := "<init>", desc := "(Lcom/example/mandatum/mandatum/FactBase;I)V", sig := { parameters := [(.object "com/example/mandatum/mandatum/FactBase"), .int], returnType := none }, accessFlags := 0, code := some k9c0 }
def k9c1 : Code := { maxStack := 2, maxLocals := 3, code := prog_49_method_3_code, exceptionTable := #[], attributes := #[] }
def k9m1 : Method := { name := "equals", desc := "(Ljava/lang/Object;)Z", sig := { parameters := [(.object "java/lang/Object")], returnType := some .boolean }, accessFlags := 1, code := some k9c1 }
/-- com/example/mandatum/mandatum/FactBase$Moment -/
def k9 : Class := { plain "com/example/mandatum/mandatum/FactBase$Moment" (some 8) with
  accessFlags := 48
  interfaces := #[]
  cf := some (fileOf pool9 10 #[.nestHost 1] #[{ accessFlags := 0, nameIndex := 7, descriptorIndex := 66, attributes := #[] }, { accessFlags := 1, nameIndex := 77, descriptorIndex := 78, attributes := #[] }] 48 4 #[] #[{ accessFlags := 18, nameIndex := 13, descriptorIndex := 14, attributes := #[] }, { accessFlags := 18, nameIndex := 17, descriptorIndex := 18, attributes := #[] }])
  fields := #[{ name := "base", type := (.object "com/example/mandatum/mandatum/FactBase"), accessFlags := 18, slot := 0, constantValue := 0 }, { name := "changes", type := .int, accessFlags := 18, slot := 1, constantValue := 0 }]
  methods := #[k9m0, k9m1]
  instanceTypes := #[(.object "com/example/mandatum/mandatum/FactBase"), .int]
  staticTypes := #[]
  resolved := Array.replicate 106 none
  statics := none }

def pool10 : Array CpInfo := pool [(1, .methodref 2 3), (0, .class_ 4), (0, .nameAndType 5 6), (0, u "java/lang/Object"), (0, u "<init>"), (0, u "()V"), (1, .class_ 10), (1, u "java/lang/Number"), (2, .class_ 14), (0, u "java/io/Serializable"), (0, u "serialVersionUID"), (0, u "J")] 20

def k10c0 : Code := { maxStack := 1, maxLocals := 1, code := jdk_18_method_1_code, exceptionTable := #[], attributes := #[] }
def k10m0 : Method := { name := "<init>", desc := "()V", sig := { parameters := [], returnType := none }, accessFlags := 1, code := some k10c0 }
/-- java/lang/Number -/
def k10 : Class := { plain "java/lang/Number" (some 0) with
  accessFlags := 1057
  interfaces := #[6]
  cf := some (fileOf pool10 8 #[] #[{ accessFlags := 1, nameIndex := 5, descriptorIndex := 6, attributes := #[] }] 1057 2 #[13] #[{ accessFlags := 26, nameIndex := 15, descriptorIndex := 16, attributes := #[] }])
  fields := #[{ name := "serialVersionUID", type := .long, accessFlags := 26, slot := 0, constantValue := 0 }]
  methods := #[k10m0]
  instanceTypes := #[]
  staticTypes := #[.long]
  resolved := Array.replicate 37 none
  statics := none }

def pool11 : Array CpInfo := pool [(1, .class_ 2), (0, u "java/lang/Comparable"), (0, .class_ 4), (0, u "java/lang/Object")] 7

/-- java/lang/Comparable -/
def k11 : Class := { plain "java/lang/Comparable" (some 0) with
  accessFlags := 1537
  interfaces := #[]
  cf := some (fileOf pool11 1 #[] #[] 1537 3 #[] #[])
  fields := #[]
  methods := #[]
  instanceTypes := #[]
  staticTypes := #[]
  resolved := Array.replicate 12 none
  statics := none }

def pool12 : Array CpInfo := pool [(1, .class_ 2), (0, u "java/lang/constant/Constable"), (0, .class_ 4), (0, u "java/lang/Object")] 6

/-- java/lang/constant/Constable -/
def k12 : Class := { plain "java/lang/constant/Constable" (some 0) with
  accessFlags := 1537
  interfaces := #[]
  cf := some (fileOf pool12 1 #[] #[] 1537 3 #[] #[])
  fields := #[]
  methods := #[]
  instanceTypes := #[]
  staticTypes := #[]
  resolved := Array.replicate 11 none
  statics := none }

def pool13 : Array CpInfo := pool [(1, .class_ 2), (0, u "java/lang/constant/ConstantDesc"), (0, .class_ 4), (0, u "java/lang/Object")] 32

/-- java/lang/constant/ConstantDesc -/
def k13 : Class := { plain "java/lang/constant/ConstantDesc" (some 0) with
  accessFlags := 1537
  interfaces := #[]
  cf := some (fileOf pool13 1 #[] #[] 1537 3 #[] #[])
  fields := #[]
  methods := #[]
  instanceTypes := #[]
  staticTypes := #[]
  resolved := Array.replicate 37 none
  statics := none }

def pool14 : Array CpInfo := pool [(1, .class_ 2), (0, u "java/lang/Integer"), (16, u "digits"), (0, u "[C"), (46, u "<init>"), (17, u "DigitOnes"), (0, u "[B"), (2, u "DigitTens"), (10, .nameAndType 67 101), (0, u "()V"), (85, u "valueOf"), (0, u "(I)Ljava/lang/Integer;"), (0, .class_ 190), (0, u "java/lang/Integer$IntegerCache"), (0, .fieldref 189 192), (0, .nameAndType 193 194), (0, u "high"), (0, u "I"), (0, .fieldref 189 196), (0, .nameAndType 197 198), (0, u "cache"), (0, u "[Ljava/lang/Integer;"), (0, .methodref 1 200), (0, .nameAndType 67 201), (0, u "(I)V"), (0, .methodref 203 100), (0, .class_ 204), (0, u "java/lang/Number"), (0, .fieldref 1 206), (0, .nameAndType 207 194), (0, u "value"), (94, u "TYPE"), (0, u "Ljava/lang/Class;"), (0, .class_ 305), (0, u "java/lang/Comparable"), (0, .class_ 307), (0, u "java/lang/constant/Constable"), (0, .class_ 309), (0, u "java/lang/constant/ConstantDesc"), (0, u "MIN_VALUE"), (1, u "MAX_VALUE"), (3, u "SIZE"), (1, u "BYTES"), (1, u "serialVersionUID"), (0, u "J")] 131

def k14c0 : Code := { maxStack := 3, maxLocals := 1, code := jdk_33_method_22_code, exceptionTable := #[], attributes := #[] }
def k14m0 : Method := { name := "valueOf", desc := "(I)Ljava/lang/Integer;", sig := { parameters := [.int], returnType := some (.object "java/lang/Integer") }, accessFlags := 9, code := some k14c0 }
def k14c1 : Code := { maxStack := 2, maxLocals := 2, code := jdk_33_method_23_code, exceptionTable := #[], attributes := #[] }
def k14m1 : Method := { name := "<init>", desc := "(I)V", sig := { parameters := [.int], returnType := none }, accessFlags := 1, code := some k14c1 }
/-- java/lang/Integer -/
def k14 : Class := { plain "java/lang/Integer" (some 10) with
  accessFlags := 49
  interfaces := #[11, 12, 13]
  cf := some (fileOf pool14 1 #[.nestMembers #[189]] #[{ accessFlags := 9, nameIndex := 187, descriptorIndex := 188, attributes := #[] }, { accessFlags := 1, nameIndex := 67, descriptorIndex := 201, attributes := #[] }] 49 203 #[304, 306, 308] #[{ accessFlags := 25, nameIndex := 310, descriptorIndex := 194, attributes := #[] }, { accessFlags := 25, nameIndex := 312, descriptorIndex := 194, attributes := #[] }, { accessFlags := 25, nameIndex := 302, descriptorIndex := 303, attributes := #[] }, { accessFlags := 24, nameIndex := 19, descriptorIndex := 20, attributes := #[] }, { accessFlags := 24, nameIndex := 89, descriptorIndex := 86, attributes := #[] }, { accessFlags := 24, nameIndex := 85, descriptorIndex := 86, attributes := #[] }, { accessFlags := 18, nameIndex := 207, descriptorIndex := 194, attributes := #[] }, { accessFlags := 25, nameIndex := 316, descriptorIndex := 194, attributes := #[] }, { accessFlags := 25, nameIndex := 318, descriptorIndex := 194, attributes := #[] }, { accessFlags := 26, nameIndex := 320, descriptorIndex := 321, attributes := #[] }])
  fields := #[{ name := "MIN_VALUE", type := .int, accessFlags := 25, slot := 0, constantValue := 0 }, { name := "MAX_VALUE", type := .int, accessFlags := 25, slot := 1, constantValue := 0 }, { name := "TYPE", type := (.object "java/lang/Class"), accessFlags := 25, slot := 2, constantValue := 0 }, { name := "digits", type := (.array .char), accessFlags := 24, slot := 3, constantValue := 0 }, { name := "DigitTens", type := (.array .byte), accessFlags := 24, slot := 4, constantValue := 0 }, { name := "DigitOnes", type := (.array .byte), accessFlags := 24, slot := 5, constantValue := 0 }, { name := "value", type := .int, accessFlags := 18, slot := 0, constantValue := 0 }, { name := "SIZE", type := .int, accessFlags := 25, slot := 6, constantValue := 0 }, { name := "BYTES", type := .int, accessFlags := 25, slot := 7, constantValue := 0 }, { name := "serialVersionUID", type := .long, accessFlags := 26, slot := 8, constantValue := 0 }]
  methods := #[k14m0, k14m1]
  instanceTypes := #[.int]
  staticTypes := #[.int, .int, (.object "java/lang/Class"), (.array .char), (.array .byte), (.array .byte), .int, .int, .long]
  resolved := Array.replicate 453 none
  statics := none }

def pool15 : Array CpInfo := pool [(2, .class_ 4), (1, u "java/lang/Object"), (0, u "<init>"), (0, u "()V"), (0, .class_ 8), (0, u "java/lang/Integer"), (7, .class_ 18), (1, u "java/lang/Integer$IntegerCache"), (0, u "$assertionsDisabled"), (0, u "Z"), (26, u "high"), (0, u "I"), (8, u "archivedCache"), (0, u "[Ljava/lang/Integer;"), (12, u "cache"), (0, u "low")] 27

def k15m0 : Method := { name := "<init>", desc := "()V", sig := { parameters := [], returnType := none }, accessFlags := 2, code := none }
/-- java/lang/Integer$IntegerCache -/
def k15 : Class := { plain "java/lang/Integer$IntegerCache" (some 0) with
  accessFlags := 48
  interfaces := #[]
  cf := some (fileOf pool15 16 #[.nestHost 7] #[{ accessFlags := 2, nameIndex := 5, descriptorIndex := 6, attributes := #[] }] 48 2 #[] #[{ accessFlags := 24, nameIndex := 72, descriptorIndex := 48, attributes := #[] }, { accessFlags := 24, nameIndex := 47, descriptorIndex := 48, attributes := #[] }, { accessFlags := 24, nameIndex := 71, descriptorIndex := 58, attributes := #[] }, { accessFlags := 8, nameIndex := 57, descriptorIndex := 58, attributes := #[] }, { accessFlags := 4120, nameIndex := 19, descriptorIndex := 20, attributes := #[] }])
  fields := #[{ name := "low", type := .int, accessFlags := 24, slot := 0, constantValue := 0 }, { name := "high", type := .int, accessFlags := 24, slot := 1, constantValue := 0 }, { name := "cache", type := (.array (.object "java/lang/Integer")), accessFlags := 24, slot := 2, constantValue := 0 }, { name := "archivedCache", type := (.array (.object "java/lang/Integer")), accessFlags := 8, slot := 3, constantValue := 0 }, { name := "$assertionsDisabled", type := .boolean, accessFlags := 4120, slot := 4, constantValue := 0 }]
  methods := #[k15m0]
  instanceTypes := #[]
  staticTypes := #[.int, .int, (.array (.object "java/lang/Integer")), (.array (.object "java/lang/Integer")), .boolean]
  resolved := Array.replicate 100 none
  statics := some 0 }

/-- the primitive byte -/
def k16 : Class := { plain "byte" none with kind := .primitive 'B', accessFlags := 0x411 }
/-- [B -/
def k17 : Class := { plain "[B" (some 0) with kind := .array 16 .byte, interfaces := #[5, 6], accessFlags := 1041 }

/-- the primitive int -/
def k18 : Class := { plain "int" none with kind := .primitive 'I', accessFlags := 0x411 }
/-- [I -/
def k19 : Class := { plain "[I" (some 0) with kind := .array 18 .int, interfaces := #[5, 6], accessFlags := 1041 }

/-- [Ljava/lang/Integer; -/
def k20 : Class := { plain "[Ljava/lang/Integer;" (some 0) with kind := .array 14 (.object "java/lang/Integer"), interfaces := #[5, 6], accessFlags := 1041 }

def heap : Heap := #[{ cls := 15, slots := #[.int 0, .int 127, .ref 1, .null, .int 0], vm := .statics 15 },
  { cls := 20, slots := #[.ref 2, .ref 3, .ref 4, .ref 5, .ref 6, .ref 7, .ref 8, .ref 9, .ref 10, .ref 11, .ref 12, .ref 13, .ref 14, .ref 15, .ref 16, .ref 17, .ref 18, .ref 19, .ref 20, .ref 21, .ref 22, .ref 23, .ref 24, .ref 25, .ref 26, .ref 27, .ref 28, .ref 29, .ref 30, .ref 31, .ref 32, .ref 33, .ref 34, .ref 35, .ref 36, .ref 37, .ref 38, .ref 39, .ref 40, .ref 41, .ref 42, .ref 43, .ref 44, .ref 45, .ref 46, .ref 47, .ref 48, .ref 49, .ref 50, .ref 51, .ref 52, .ref 53, .ref 54, .ref 55, .ref 56, .ref 57, .ref 58, .ref 59, .ref 60, .ref 61, .ref 62, .ref 63, .ref 64, .ref 65, .ref 66, .ref 67, .ref 68, .ref 69, .ref 70, .ref 71, .ref 72, .ref 73, .ref 74, .ref 75, .ref 76, .ref 77, .ref 78, .ref 79, .ref 80, .ref 81, .ref 82, .ref 83, .ref 84, .ref 85, .ref 86, .ref 87, .ref 88, .ref 89, .ref 90, .ref 91, .ref 92, .ref 93, .ref 94, .ref 95, .ref 96, .ref 97, .ref 98, .ref 99, .ref 100, .ref 101, .ref 102, .ref 103, .ref 104, .ref 105, .ref 106, .ref 107, .ref 108, .ref 109, .ref 110, .ref 111, .ref 112, .ref 113, .ref 114, .ref 115, .ref 116, .ref 117, .ref 118, .ref 119, .ref 120, .ref 121, .ref 122, .ref 123, .ref 124, .ref 125, .ref 126, .ref 127, .ref 128, .ref 129, .ref 130, .ref 131, .ref 132, .ref 133, .ref 134, .ref 135, .ref 136, .ref 137, .ref 138, .ref 139, .ref 140, .ref 141, .ref 142, .ref 143, .ref 144, .ref 145, .ref 146, .ref 147, .ref 148, .ref 149, .ref 150, .ref 151, .ref 152, .ref 153, .ref 154, .ref 155, .ref 156, .ref 157, .ref 158, .ref 159, .ref 160, .ref 161, .ref 162, .ref 163, .ref 164, .ref 165, .ref 166, .ref 167, .ref 168, .ref 169, .ref 170, .ref 171, .ref 172, .ref 173, .ref 174, .ref 175, .ref 176, .ref 177, .ref 178, .ref 179, .ref 180, .ref 181, .ref 182, .ref 183, .ref 184, .ref 185, .ref 186, .ref 187, .ref 188, .ref 189, .ref 190, .ref 191, .ref 192, .ref 193, .ref 194, .ref 195, .ref 196, .ref 197, .ref 198, .ref 199, .ref 200, .ref 201, .ref 202, .ref 203, .ref 204, .ref 205, .ref 206, .ref 207, .ref 208, .ref 209, .ref 210, .ref 211, .ref 212, .ref 213, .ref 214, .ref 215, .ref 216, .ref 217, .ref 218, .ref 219, .ref 220, .ref 221, .ref 222, .ref 223, .ref 224, .ref 225, .ref 226, .ref 227, .ref 228, .ref 229, .ref 230, .ref 231, .ref 232, .ref 233, .ref 234, .ref 235, .ref 236, .ref 237, .ref 238, .ref 239, .ref 240, .ref 241, .ref 242, .ref 243, .ref 244, .ref 245, .ref 246, .ref 247, .ref 248, .ref 249, .ref 250, .ref 251, .ref 252, .ref 253, .ref 254, .ref 255, .ref 256, .ref 257], vm := .none },
  { cls := 14, slots := #[.int (-128)], vm := .none },
  { cls := 14, slots := #[.int (-127)], vm := .none },
  { cls := 14, slots := #[.int (-126)], vm := .none },
  { cls := 14, slots := #[.int (-125)], vm := .none },
  { cls := 14, slots := #[.int (-124)], vm := .none },
  { cls := 14, slots := #[.int (-123)], vm := .none },
  { cls := 14, slots := #[.int (-122)], vm := .none },
  { cls := 14, slots := #[.int (-121)], vm := .none },
  { cls := 14, slots := #[.int (-120)], vm := .none },
  { cls := 14, slots := #[.int (-119)], vm := .none },
  { cls := 14, slots := #[.int (-118)], vm := .none },
  { cls := 14, slots := #[.int (-117)], vm := .none },
  { cls := 14, slots := #[.int (-116)], vm := .none },
  { cls := 14, slots := #[.int (-115)], vm := .none },
  { cls := 14, slots := #[.int (-114)], vm := .none },
  { cls := 14, slots := #[.int (-113)], vm := .none },
  { cls := 14, slots := #[.int (-112)], vm := .none },
  { cls := 14, slots := #[.int (-111)], vm := .none },
  { cls := 14, slots := #[.int (-110)], vm := .none },
  { cls := 14, slots := #[.int (-109)], vm := .none },
  { cls := 14, slots := #[.int (-108)], vm := .none },
  { cls := 14, slots := #[.int (-107)], vm := .none },
  { cls := 14, slots := #[.int (-106)], vm := .none },
  { cls := 14, slots := #[.int (-105)], vm := .none },
  { cls := 14, slots := #[.int (-104)], vm := .none },
  { cls := 14, slots := #[.int (-103)], vm := .none },
  { cls := 14, slots := #[.int (-102)], vm := .none },
  { cls := 14, slots := #[.int (-101)], vm := .none },
  { cls := 14, slots := #[.int (-100)], vm := .none },
  { cls := 14, slots := #[.int (-99)], vm := .none },
  { cls := 14, slots := #[.int (-98)], vm := .none },
  { cls := 14, slots := #[.int (-97)], vm := .none },
  { cls := 14, slots := #[.int (-96)], vm := .none },
  { cls := 14, slots := #[.int (-95)], vm := .none },
  { cls := 14, slots := #[.int (-94)], vm := .none },
  { cls := 14, slots := #[.int (-93)], vm := .none },
  { cls := 14, slots := #[.int (-92)], vm := .none },
  { cls := 14, slots := #[.int (-91)], vm := .none },
  { cls := 14, slots := #[.int (-90)], vm := .none },
  { cls := 14, slots := #[.int (-89)], vm := .none },
  { cls := 14, slots := #[.int (-88)], vm := .none },
  { cls := 14, slots := #[.int (-87)], vm := .none },
  { cls := 14, slots := #[.int (-86)], vm := .none },
  { cls := 14, slots := #[.int (-85)], vm := .none },
  { cls := 14, slots := #[.int (-84)], vm := .none },
  { cls := 14, slots := #[.int (-83)], vm := .none },
  { cls := 14, slots := #[.int (-82)], vm := .none },
  { cls := 14, slots := #[.int (-81)], vm := .none },
  { cls := 14, slots := #[.int (-80)], vm := .none },
  { cls := 14, slots := #[.int (-79)], vm := .none },
  { cls := 14, slots := #[.int (-78)], vm := .none },
  { cls := 14, slots := #[.int (-77)], vm := .none },
  { cls := 14, slots := #[.int (-76)], vm := .none },
  { cls := 14, slots := #[.int (-75)], vm := .none },
  { cls := 14, slots := #[.int (-74)], vm := .none },
  { cls := 14, slots := #[.int (-73)], vm := .none },
  { cls := 14, slots := #[.int (-72)], vm := .none },
  { cls := 14, slots := #[.int (-71)], vm := .none },
  { cls := 14, slots := #[.int (-70)], vm := .none },
  { cls := 14, slots := #[.int (-69)], vm := .none },
  { cls := 14, slots := #[.int (-68)], vm := .none },
  { cls := 14, slots := #[.int (-67)], vm := .none },
  { cls := 14, slots := #[.int (-66)], vm := .none },
  { cls := 14, slots := #[.int (-65)], vm := .none },
  { cls := 14, slots := #[.int (-64)], vm := .none },
  { cls := 14, slots := #[.int (-63)], vm := .none },
  { cls := 14, slots := #[.int (-62)], vm := .none },
  { cls := 14, slots := #[.int (-61)], vm := .none },
  { cls := 14, slots := #[.int (-60)], vm := .none },
  { cls := 14, slots := #[.int (-59)], vm := .none },
  { cls := 14, slots := #[.int (-58)], vm := .none },
  { cls := 14, slots := #[.int (-57)], vm := .none },
  { cls := 14, slots := #[.int (-56)], vm := .none },
  { cls := 14, slots := #[.int (-55)], vm := .none },
  { cls := 14, slots := #[.int (-54)], vm := .none },
  { cls := 14, slots := #[.int (-53)], vm := .none },
  { cls := 14, slots := #[.int (-52)], vm := .none },
  { cls := 14, slots := #[.int (-51)], vm := .none },
  { cls := 14, slots := #[.int (-50)], vm := .none },
  { cls := 14, slots := #[.int (-49)], vm := .none },
  { cls := 14, slots := #[.int (-48)], vm := .none },
  { cls := 14, slots := #[.int (-47)], vm := .none },
  { cls := 14, slots := #[.int (-46)], vm := .none },
  { cls := 14, slots := #[.int (-45)], vm := .none },
  { cls := 14, slots := #[.int (-44)], vm := .none },
  { cls := 14, slots := #[.int (-43)], vm := .none },
  { cls := 14, slots := #[.int (-42)], vm := .none },
  { cls := 14, slots := #[.int (-41)], vm := .none },
  { cls := 14, slots := #[.int (-40)], vm := .none },
  { cls := 14, slots := #[.int (-39)], vm := .none },
  { cls := 14, slots := #[.int (-38)], vm := .none },
  { cls := 14, slots := #[.int (-37)], vm := .none },
  { cls := 14, slots := #[.int (-36)], vm := .none },
  { cls := 14, slots := #[.int (-35)], vm := .none },
  { cls := 14, slots := #[.int (-34)], vm := .none },
  { cls := 14, slots := #[.int (-33)], vm := .none },
  { cls := 14, slots := #[.int (-32)], vm := .none },
  { cls := 14, slots := #[.int (-31)], vm := .none },
  { cls := 14, slots := #[.int (-30)], vm := .none },
  { cls := 14, slots := #[.int (-29)], vm := .none },
  { cls := 14, slots := #[.int (-28)], vm := .none },
  { cls := 14, slots := #[.int (-27)], vm := .none },
  { cls := 14, slots := #[.int (-26)], vm := .none },
  { cls := 14, slots := #[.int (-25)], vm := .none },
  { cls := 14, slots := #[.int (-24)], vm := .none },
  { cls := 14, slots := #[.int (-23)], vm := .none },
  { cls := 14, slots := #[.int (-22)], vm := .none },
  { cls := 14, slots := #[.int (-21)], vm := .none },
  { cls := 14, slots := #[.int (-20)], vm := .none },
  { cls := 14, slots := #[.int (-19)], vm := .none },
  { cls := 14, slots := #[.int (-18)], vm := .none },
  { cls := 14, slots := #[.int (-17)], vm := .none },
  { cls := 14, slots := #[.int (-16)], vm := .none },
  { cls := 14, slots := #[.int (-15)], vm := .none },
  { cls := 14, slots := #[.int (-14)], vm := .none },
  { cls := 14, slots := #[.int (-13)], vm := .none },
  { cls := 14, slots := #[.int (-12)], vm := .none },
  { cls := 14, slots := #[.int (-11)], vm := .none },
  { cls := 14, slots := #[.int (-10)], vm := .none },
  { cls := 14, slots := #[.int (-9)], vm := .none },
  { cls := 14, slots := #[.int (-8)], vm := .none },
  { cls := 14, slots := #[.int (-7)], vm := .none },
  { cls := 14, slots := #[.int (-6)], vm := .none },
  { cls := 14, slots := #[.int (-5)], vm := .none },
  { cls := 14, slots := #[.int (-4)], vm := .none },
  { cls := 14, slots := #[.int (-3)], vm := .none },
  { cls := 14, slots := #[.int (-2)], vm := .none },
  { cls := 14, slots := #[.int (-1)], vm := .none },
  { cls := 14, slots := #[.int (0)], vm := .none },
  { cls := 14, slots := #[.int (1)], vm := .none },
  { cls := 14, slots := #[.int (2)], vm := .none },
  { cls := 14, slots := #[.int (3)], vm := .none },
  { cls := 14, slots := #[.int (4)], vm := .none },
  { cls := 14, slots := #[.int (5)], vm := .none },
  { cls := 14, slots := #[.int (6)], vm := .none },
  { cls := 14, slots := #[.int (7)], vm := .none },
  { cls := 14, slots := #[.int (8)], vm := .none },
  { cls := 14, slots := #[.int (9)], vm := .none },
  { cls := 14, slots := #[.int (10)], vm := .none },
  { cls := 14, slots := #[.int (11)], vm := .none },
  { cls := 14, slots := #[.int (12)], vm := .none },
  { cls := 14, slots := #[.int (13)], vm := .none },
  { cls := 14, slots := #[.int (14)], vm := .none },
  { cls := 14, slots := #[.int (15)], vm := .none },
  { cls := 14, slots := #[.int (16)], vm := .none },
  { cls := 14, slots := #[.int (17)], vm := .none },
  { cls := 14, slots := #[.int (18)], vm := .none },
  { cls := 14, slots := #[.int (19)], vm := .none },
  { cls := 14, slots := #[.int (20)], vm := .none },
  { cls := 14, slots := #[.int (21)], vm := .none },
  { cls := 14, slots := #[.int (22)], vm := .none },
  { cls := 14, slots := #[.int (23)], vm := .none },
  { cls := 14, slots := #[.int (24)], vm := .none },
  { cls := 14, slots := #[.int (25)], vm := .none },
  { cls := 14, slots := #[.int (26)], vm := .none },
  { cls := 14, slots := #[.int (27)], vm := .none },
  { cls := 14, slots := #[.int (28)], vm := .none },
  { cls := 14, slots := #[.int (29)], vm := .none },
  { cls := 14, slots := #[.int (30)], vm := .none },
  { cls := 14, slots := #[.int (31)], vm := .none },
  { cls := 14, slots := #[.int (32)], vm := .none },
  { cls := 14, slots := #[.int (33)], vm := .none },
  { cls := 14, slots := #[.int (34)], vm := .none },
  { cls := 14, slots := #[.int (35)], vm := .none },
  { cls := 14, slots := #[.int (36)], vm := .none },
  { cls := 14, slots := #[.int (37)], vm := .none },
  { cls := 14, slots := #[.int (38)], vm := .none },
  { cls := 14, slots := #[.int (39)], vm := .none },
  { cls := 14, slots := #[.int (40)], vm := .none },
  { cls := 14, slots := #[.int (41)], vm := .none },
  { cls := 14, slots := #[.int (42)], vm := .none },
  { cls := 14, slots := #[.int (43)], vm := .none },
  { cls := 14, slots := #[.int (44)], vm := .none },
  { cls := 14, slots := #[.int (45)], vm := .none },
  { cls := 14, slots := #[.int (46)], vm := .none },
  { cls := 14, slots := #[.int (47)], vm := .none },
  { cls := 14, slots := #[.int (48)], vm := .none },
  { cls := 14, slots := #[.int (49)], vm := .none },
  { cls := 14, slots := #[.int (50)], vm := .none },
  { cls := 14, slots := #[.int (51)], vm := .none },
  { cls := 14, slots := #[.int (52)], vm := .none },
  { cls := 14, slots := #[.int (53)], vm := .none },
  { cls := 14, slots := #[.int (54)], vm := .none },
  { cls := 14, slots := #[.int (55)], vm := .none },
  { cls := 14, slots := #[.int (56)], vm := .none },
  { cls := 14, slots := #[.int (57)], vm := .none },
  { cls := 14, slots := #[.int (58)], vm := .none },
  { cls := 14, slots := #[.int (59)], vm := .none },
  { cls := 14, slots := #[.int (60)], vm := .none },
  { cls := 14, slots := #[.int (61)], vm := .none },
  { cls := 14, slots := #[.int (62)], vm := .none },
  { cls := 14, slots := #[.int (63)], vm := .none },
  { cls := 14, slots := #[.int (64)], vm := .none },
  { cls := 14, slots := #[.int (65)], vm := .none },
  { cls := 14, slots := #[.int (66)], vm := .none },
  { cls := 14, slots := #[.int (67)], vm := .none },
  { cls := 14, slots := #[.int (68)], vm := .none },
  { cls := 14, slots := #[.int (69)], vm := .none },
  { cls := 14, slots := #[.int (70)], vm := .none },
  { cls := 14, slots := #[.int (71)], vm := .none },
  { cls := 14, slots := #[.int (72)], vm := .none },
  { cls := 14, slots := #[.int (73)], vm := .none },
  { cls := 14, slots := #[.int (74)], vm := .none },
  { cls := 14, slots := #[.int (75)], vm := .none },
  { cls := 14, slots := #[.int (76)], vm := .none },
  { cls := 14, slots := #[.int (77)], vm := .none },
  { cls := 14, slots := #[.int (78)], vm := .none },
  { cls := 14, slots := #[.int (79)], vm := .none },
  { cls := 14, slots := #[.int (80)], vm := .none },
  { cls := 14, slots := #[.int (81)], vm := .none },
  { cls := 14, slots := #[.int (82)], vm := .none },
  { cls := 14, slots := #[.int (83)], vm := .none },
  { cls := 14, slots := #[.int (84)], vm := .none },
  { cls := 14, slots := #[.int (85)], vm := .none },
  { cls := 14, slots := #[.int (86)], vm := .none },
  { cls := 14, slots := #[.int (87)], vm := .none },
  { cls := 14, slots := #[.int (88)], vm := .none },
  { cls := 14, slots := #[.int (89)], vm := .none },
  { cls := 14, slots := #[.int (90)], vm := .none },
  { cls := 14, slots := #[.int (91)], vm := .none },
  { cls := 14, slots := #[.int (92)], vm := .none },
  { cls := 14, slots := #[.int (93)], vm := .none },
  { cls := 14, slots := #[.int (94)], vm := .none },
  { cls := 14, slots := #[.int (95)], vm := .none },
  { cls := 14, slots := #[.int (96)], vm := .none },
  { cls := 14, slots := #[.int (97)], vm := .none },
  { cls := 14, slots := #[.int (98)], vm := .none },
  { cls := 14, slots := #[.int (99)], vm := .none },
  { cls := 14, slots := #[.int (100)], vm := .none },
  { cls := 14, slots := #[.int (101)], vm := .none },
  { cls := 14, slots := #[.int (102)], vm := .none },
  { cls := 14, slots := #[.int (103)], vm := .none },
  { cls := 14, slots := #[.int (104)], vm := .none },
  { cls := 14, slots := #[.int (105)], vm := .none },
  { cls := 14, slots := #[.int (106)], vm := .none },
  { cls := 14, slots := #[.int (107)], vm := .none },
  { cls := 14, slots := #[.int (108)], vm := .none },
  { cls := 14, slots := #[.int (109)], vm := .none },
  { cls := 14, slots := #[.int (110)], vm := .none },
  { cls := 14, slots := #[.int (111)], vm := .none },
  { cls := 14, slots := #[.int (112)], vm := .none },
  { cls := 14, slots := #[.int (113)], vm := .none },
  { cls := 14, slots := #[.int (114)], vm := .none },
  { cls := 14, slots := #[.int (115)], vm := .none },
  { cls := 14, slots := #[.int (116)], vm := .none },
  { cls := 14, slots := #[.int (117)], vm := .none },
  { cls := 14, slots := #[.int (118)], vm := .none },
  { cls := 14, slots := #[.int (119)], vm := .none },
  { cls := 14, slots := #[.int (120)], vm := .none },
  { cls := 14, slots := #[.int (121)], vm := .none },
  { cls := 14, slots := #[.int (122)], vm := .none },
  { cls := 14, slots := #[.int (123)], vm := .none },
  { cls := 14, slots := #[.int (124)], vm := .none },
  { cls := 14, slots := #[.int (125)], vm := .none },
  { cls := 14, slots := #[.int (126)], vm := .none },
  { cls := 14, slots := #[.int (127)], vm := .none }]
def classes : Array Class := #[k0, k1, k2, k3, k4, k5, k6, k7, k8, k9, k10, k11, k12, k13, k14, k15, k16, k17, k18, k19, k20]
def interned : List (Array UInt16 × Addr) := []
def slotsUsed : Nat := 517
def theMethod : MethodId := ⟨1, 1⟩
def args0 : Array Value := #[.int 5, .int 3, .int 4]
def aboutOver (below : List Frame) : State where
  vm := { classes := classes, interned := interned.toArray }
  heap := heap
  slotsUsed := slotsUsed
  threads := #[{ frames := .invoking theMethod args0 :: below }]
def below0 : List Frame := [.native { method := ⟨0, 0⟩, args := #[] }]
def about1 : State := aboutOver below0
def p0 : Program := .bare "" "" ""
def e0 : Env := launch0.env 0 0 0
theorem w_frames : about1.frames = Frame.invoking theMethod args0 :: below0 := rfl
set_option maxRecDepth 65536 in
theorem w_args : argsFit about1.vm theMethod args0 = true := by decide +kernel
set_option maxRecDepth 65536 in
theorem w_heap : heapFits about1 = true := by decide +kernel
set_option maxRecDepth 65536 in
theorem w_runnable : about1.curStatus? = some .runnable := by decide +kernel
set_option maxRecDepth 65536 in
theorem w_alone : about1.alone = true := by decide +kernel
set_option maxRecDepth 65536 in
theorem w_named : about1.methodNamed? x = some theMethod := by decide +kernel
set_option maxRecDepth 65536 in
theorem w_hears : about1.hears theMethod below0 = true := by decide +kernel
set_option maxRecDepth 65536 in
theorem w_ripe : about1.ripe theMethod args0 below0 = true := by decide +kernel
theorem w_running : about1.status = .running := rfl
set_option maxRecDepth 65536 in
theorem w_room : about1.hasRoom e0.platform room_1 = true :=
  launch0.hasRoom_least _ room_1 (by decide +kernel) (by decide +kernel) (by decide +kernel) (by decide +kernel) (by decide +kernel) (by decide +kernel)
theorem allAtoms_all (ts : List Jvm.Cond) (a : Array Jvm.Value) (st : Jvm.State) : (allAtoms ts).before a st = ts.all (fun c => c.before a st) := by
  induction ts with
  | nil => rfl
  | cons c t ih =>
    show (Jvm.Cond.and c (allAtoms t)).before a st = _
    rw [Jvm.Cond.before_and, ih, List.all_cons]
def words1 : List Jvm.Cond := Jvm.Cond.code x code maxLocals ret :: tables_1
/-- a 'code' word, met by the world's own term for the bytes: nothing is compared byte by byte -/
theorem code_word {y : MethodName} {bytes : ByteArray} {mx : Nat} {rt : Option FieldType} {a : Array Value} {s : State} {m : MethodId} {meth : Method} {c : Code} (h1 : s.methodNamed? y = some m) (h2 : s.vm.method? m = some meth) (h3 : meth.code = some c) (h4 : c.code = bytes)
    (h5 : (c.maxLocals == mx && c.exceptionTable.isEmpty && decide (c.maxStack ≤ mostOperands) && decide (meth.sig.returnType = rt) && !meth.locks && decide (parseMethodDescriptor y.desc = some meth.sig)) = true) : (Jvm.Cond.code y bytes mx rt).before a s = true := by
  simp only [Bool.and_eq_true, beq_iff_eq, Bool.not_eq_true', decide_eq_true_eq] at h5
  obtain ⟨⟨⟨⟨⟨g1, g2⟩, g3⟩, g4⟩, g5⟩, g6⟩ := h5
  simp [Cond.before, Cond.holds, Cond.value, h1, h2, h3, h4, g1, g2, g3, g4, g5, g6]
def isCode : Jvm.Cond → Bool
  | .code _ _ _ _ => true
  | _ => false
theorem all_split {L : List Jvm.Cond} {P : Jvm.Cond → Bool} (h1 : L.all (fun c => isCode c || P c) = true) (h2 : ∀ c ∈ L.filter isCode, P c = true) : L.all P = true := by
  refine List.all_eq_true.mpr fun c hc => ?_
  have h := List.all_eq_true.mp h1 c hc
  rcases Bool.eq_false_or_eq_true (isCode c) with hi | hi
  · exact h2 c (List.mem_filter.mpr ⟨hc, hi⟩)
  · simpa [hi] using h
set_option maxRecDepth 65536 in
theorem w_c0 : (Jvm.Cond.code x code maxLocals ret).before args0 about1 = true := code_word (m := ⟨1, 1⟩) (meth := k1m1) (c := k1c1) (by decide +kernel) rfl rfl rfl (by decide +kernel)
set_option maxRecDepth 65536 in
theorem w_c1 : (Jvm.Cond.code ({ cls := "com/example/mandatum/mandatum/FactBase", name := "<init>", desc := "()V" } : Jvm.MethodName) prog_45_method_1_code (1 : Nat) (Option.none : Option Jvm.ClassFile.FieldType)).before args0 about1 = true := code_word (m := ⟨2, 0⟩) (meth := k2m0) (c := k2c0) (by decide +kernel) rfl rfl rfl (by decide +kernel)
set_option maxRecDepth 65536 in
theorem w_c2 : (Jvm.Cond.code ({ cls := "java/lang/Object", name := "<init>", desc := "()V" } : Jvm.MethodName) object_method_1_code (1 : Nat) (Option.none : Option Jvm.ClassFile.FieldType)).before args0 about1 = true := code_word (m := ⟨0, 0⟩) (meth := k0m0) (c := k0c0) (by decide +kernel) rfl rfl rfl (by decide +kernel)
set_option maxRecDepth 65536 in
theorem w_c3 : (Jvm.Cond.code ({ cls := "java/util/HashMap", name := "<init>", desc := "()V" } : Jvm.MethodName) jdk_69_method_7_code (1 : Nat) (Option.none : Option Jvm.ClassFile.FieldType)).before args0 about1 = true := code_word (m := ⟨7, 0⟩) (meth := k7m0) (c := k7c0) (by decide +kernel) rfl rfl rfl (by decide +kernel)
set_option maxRecDepth 65536 in
theorem w_c4 : (Jvm.Cond.code ({ cls := "java/util/AbstractMap", name := "<init>", desc := "()V" } : Jvm.MethodName) jdk_71_method_1_code (1 : Nat) (Option.none : Option Jvm.ClassFile.FieldType)).before args0 about1 = true := code_word (m := ⟨4, 0⟩) (meth := k4m0) (c := k4c0) (by decide +kernel) rfl rfl rfl (by decide +kernel)
set_option maxRecDepth 65536 in
theorem w_c5 : (Jvm.Cond.code ({ cls := "com/example/mandatum/mandatum/FactBase$Moment", name := "<init>", desc := "(Lcom/example/mandatum/mandatum/FactBase;I)V" } : Jvm.MethodName) prog_49_method_1_code (3 : Nat) (Option.none : Option Jvm.ClassFile.FieldType)).before args0 about1 = true := code_word (m := ⟨9, 0⟩) (meth := k9m0) (c := k9c0) (by decide +kernel) rfl rfl rfl (by decide +kernel)
set_option maxRecDepth 65536 in
theorem w_c6 : (Jvm.Cond.code ({ cls := "java/lang/Record", name := "<init>", desc := "()V" } : Jvm.MethodName) jdk_30_method_1_code (1 : Nat) (Option.none : Option Jvm.ClassFile.FieldType)).before args0 about1 = true := code_word (m := ⟨8, 0⟩) (meth := k8m0) (c := k8c0) (by decide +kernel) rfl rfl rfl (by decide +kernel)
set_option maxRecDepth 65536 in
theorem w_c7 : (Jvm.Cond.code ({ cls := "com/example/mandatum/mandatum/FactBase$Moment", name := "equals", desc := "(Ljava/lang/Object;)Z" } : Jvm.MethodName) prog_49_method_3_code (3 : Nat) (Option.some Jvm.ClassFile.FieldType.boolean)).before args0 about1 = true := code_word (m := ⟨9, 1⟩) (meth := k9m1) (c := k9c1) (by decide +kernel) rfl rfl rfl (by decide +kernel)
set_option maxRecDepth 65536 in
theorem w_c8 : (Jvm.Cond.code ({ cls := "java/lang/Integer", name := "valueOf", desc := "(I)Ljava/lang/Integer;" } : Jvm.MethodName) jdk_33_method_22_code (1 : Nat) (Option.some (Jvm.ClassFile.FieldType.object "java/lang/Integer"))).before args0 about1 = true := code_word (m := ⟨14, 0⟩) (meth := k14m0) (c := k14c0) (by decide +kernel) rfl rfl rfl (by decide +kernel)
set_option maxRecDepth 65536 in
theorem w_c9 : (Jvm.Cond.code ({ cls := "java/lang/Integer", name := "<init>", desc := "(I)V" } : Jvm.MethodName) jdk_33_method_23_code (2 : Nat) (Option.none : Option Jvm.ClassFile.FieldType)).before args0 about1 = true := code_word (m := ⟨14, 1⟩) (meth := k14m1) (c := k14c1) (by decide +kernel) rfl rfl rfl (by decide +kernel)
set_option maxRecDepth 65536 in
theorem w_c10 : (Jvm.Cond.code ({ cls := "java/lang/Number", name := "<init>", desc := "()V" } : Jvm.MethodName) jdk_18_method_1_code (1 : Nat) (Option.none : Option Jvm.ClassFile.FieldType)).before args0 about1 = true := code_word (m := ⟨10, 0⟩) (meth := k10m0) (c := k10c0) (by decide +kernel) rfl rfl rfl (by decide +kernel)
def codes1 : List Jvm.Cond := [Jvm.Cond.code x code maxLocals ret, Jvm.Cond.code ({ cls := "com/example/mandatum/mandatum/FactBase", name := "<init>", desc := "()V" } : Jvm.MethodName) prog_45_method_1_code (1 : Nat) (Option.none : Option Jvm.ClassFile.FieldType), Jvm.Cond.code ({ cls := "java/lang/Object", name := "<init>", desc := "()V" } : Jvm.MethodName) object_method_1_code (1 : Nat) (Option.none : Option Jvm.ClassFile.FieldType), Jvm.Cond.code ({ cls := "java/util/HashMap", name := "<init>", desc := "()V" } : Jvm.MethodName) jdk_69_method_7_code (1 : Nat) (Option.none : Option Jvm.ClassFile.FieldType), Jvm.Cond.code ({ cls := "java/util/AbstractMap", name := "<init>", desc := "()V" } : Jvm.MethodName) jdk_71_method_1_code (1 : Nat) (Option.none : Option Jvm.ClassFile.FieldType), Jvm.Cond.code ({ cls := "com/example/mandatum/mandatum/FactBase$Moment", name := "<init>", desc := "(Lcom/example/mandatum/mandatum/FactBase;I)V" } : Jvm.MethodName) prog_49_method_1_code (3 : Nat) (Option.none : Option Jvm.ClassFile.FieldType), Jvm.Cond.code ({ cls := "java/lang/Record", name := "<init>", desc := "()V" } : Jvm.MethodName) jdk_30_method_1_code (1 : Nat) (Option.none : Option Jvm.ClassFile.FieldType), Jvm.Cond.code ({ cls := "com/example/mandatum/mandatum/FactBase$Moment", name := "equals", desc := "(Ljava/lang/Object;)Z" } : Jvm.MethodName) prog_49_method_3_code (3 : Nat) (Option.some Jvm.ClassFile.FieldType.boolean), Jvm.Cond.code ({ cls := "java/lang/Integer", name := "valueOf", desc := "(I)Ljava/lang/Integer;" } : Jvm.MethodName) jdk_33_method_22_code (1 : Nat) (Option.some (Jvm.ClassFile.FieldType.object "java/lang/Integer")), Jvm.Cond.code ({ cls := "java/lang/Integer", name := "<init>", desc := "(I)V" } : Jvm.MethodName) jdk_33_method_23_code (2 : Nat) (Option.none : Option Jvm.ClassFile.FieldType), Jvm.Cond.code ({ cls := "java/lang/Number", name := "<init>", desc := "()V" } : Jvm.MethodName) jdk_18_method_1_code (1 : Nat) (Option.none : Option Jvm.ClassFile.FieldType)]
set_option maxRecDepth 65536 in
theorem codes_eq : words1.filter isCode = codes1 := rfl
theorem w_codes : ∀ c ∈ words1.filter isCode, c.before args0 about1 = true := by
  rw [codes_eq]
  intro c hc
  simp only [codes1, List.mem_cons, List.not_mem_nil, or_false] at hc
  rcases hc with rfl | rfl | rfl | rfl | rfl | rfl | rfl | rfl | rfl | rfl | rfl
  · exact w_c0
  · exact w_c1
  · exact w_c2
  · exact w_c3
  · exact w_c4
  · exact w_c5
  · exact w_c6
  · exact w_c7
  · exact w_c8
  · exact w_c9
  · exact w_c10
set_option maxRecDepth 65536 in
theorem w_t1 : (words1.take 24).all (fun c => isCode c || c.before args0 about1) = true := by decide +kernel
set_option maxRecDepth 65536 in
theorem w_t2 : ((words1.drop 24).take 24).all (fun c => isCode c || c.before args0 about1) = true := by decide +kernel
set_option maxRecDepth 65536 in
theorem w_t3 : (((words1.drop 24).drop 24).take 24).all (fun c => isCode c || c.before args0 about1) = true := by decide +kernel
set_option maxRecDepth 65536 in
theorem w_t4 : (((words1.drop 24).drop 24).drop 24).all (fun c => isCode c || c.before args0 about1) = true := by decide +kernel
theorem w_tables : (allAtoms (Jvm.Cond.code x code maxLocals ret :: tables_1)).before args0 about1 = true := by
  rw [allAtoms_all]
  show words1.all (fun c => c.before args0 about1) = true
  refine all_split ?_ w_codes
  rw [← List.take_append_drop 24 words1, List.all_append, w_t1, ← List.take_append_drop 24 (words1.drop 24), List.all_append, w_t2, ← List.take_append_drop 24 ((words1.drop 24).drop 24), List.all_append, w_t3, w_t4]
  rfl
set_option maxRecDepth 65536 in
theorem w_rest : rest_1_c.before args0 about1 = true := by decide +kernel
set_option maxRecDepth 65536 in
theorem w_case : (Jvm.Cond.and given_1 narrow_1).before args0 about1 = true := by decide +kernel
theorem w_applies : (headSpec (Jvm.Cond.code x code maxLocals ret :: tables_1) room_1).applies x e0.platform about1 = true :=
  (Spec.applies_iff w_frames).mpr ⟨w_running, w_runnable, w_alone, w_named, w_hears, w_ripe, w_room, w_tables⟩
theorem atStart : AtStart classFile x code maxLocals ret World_1 tables_1 room_1 Calls_1 rest_1 Pre_1 launch0 p0 e0 about1 theMethod args0 below0 :=
  ⟨lists_1, trivial, launch0.admits_env _ _ _, launch0.least_env, fairChoices_fair.cas, fairChoices_fair.clock, w_frames, w_args, w_heap, w_applies, trivial, w_rest, w_case⟩
end start1
theorem witness_1 : WitnessClaimed_1 := ⟨start1.p0, start1.e0, start1.about1, start1.theMethod, start1.args0, start1.below0, start1.atStart⟩
end Jvm.Pilot.@@N@@
