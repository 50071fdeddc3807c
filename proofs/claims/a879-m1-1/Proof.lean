import JvmDerived
import JvmDerived.Pilot.@@N@@Statement
import JvmDerived.Pilot.@@N@@Code
set_option linter.unusedVariables false
set_option linter.unusedSimpArgs false
@@BLOCK:NumsL.lean.txt@@
namespace Jvm.Pilot.@@N@@
open Jvm Jvm.ClassFile Sem Op Lib Jvm.Free Jvm.Stand Jvm.LawKit Jvm.RoadKit Bundle Jvm.Pilot.@@N@@.Jvm.D
section OwnKit
variable {p : Program} {l : Launch} {e : Env} {R : Room} {s : State} {m : MethodId} {args : Array Value} {below : List Frame} {meth : Method} {c : Code} {T T' : State} {locs : List Loc} {cells slots : Nat}
/-- from this configuration the body comes to its end, and then Q holds -/
def own_Fin (p : Program) (e : Env) (below : List Frame) (s : State) (Q : Option Value → Heap → List Loc → Prop) (kc ks : Nat) (T : State) (g : JFrame) : Prop :=
  ∃ s₂ o, Steps p.tables e below (T.setTop g) s₂ ∧ s₂.status = .running ∧ Ended s₂ below o ∧ ∃ v L, o = .returned v ∧ Q v s₂.heap L ∧ FrameEnd s o s₂ L kc ks
variable {Q : Option Value → Heap → List Loc → Prop} {kc ks : Nat} {g g' : JFrame}
theorem own_step (st : ∀ t, Steps p.tables e below (T'.setTop g') t → Steps p.tables e below (T.setTop g) t) (k : own_Fin p e below s Q kc ks T' g') : own_Fin p e below s Q kc ks T g := by
  obtain ⟨s₂, o, h1, r⟩ := k
  exact ⟨s₂, o, st _ h1, r⟩
theorem own_in {as : Array Value} {n : Nat} (ef : entryFrame m as n = g) (k : own_Fin p e below s Q kc ks T g) :
    ∃ s₂ o, Steps p.tables e below (T.setTop (entryFrame m as n)) s₂ ∧ s₂.status = .running ∧ Ended s₂ below o ∧ ∃ v L, o = .returned v ∧ Q v s₂.heap L ∧ FrameEnd s o s₂ L kc ks := by
  obtain ⟨s₂, o, h1, r⟩ := k
  exact ⟨s₂, o, castTop ef h1, r⟩
theorem own_retV (X : Stand p l e R s m args below meth c T locs cells slots) (hx : p.tables.exec = Jvm.exec) (hlk : meth.locks = false) {pc : Nat} {Ls : Array Slot} {w : Value} {t : FieldType} {i : Instr} {rest : List Value} (hret : meth.sig.returnType = some t) (hn : narrow t w = w)
    (hi : (i = .ireturn ∧ (t = .int ∨ t = .boolean ∨ t = .byte ∨ t = .char ∨ t = .short) ∧ ∃ z, w = .int z) ∨ (i = .lreturn ∧ t = .long ∧ ∃ z, w = .long z) ∨ (i = .dreturn ∧ t = .double ∧ ∃ z, w = .double z) ∨ (i = .freturn ∧ t = .float ∧ ∃ z, w = .float z) ∨ (i = .areturn ∧ t.isReference = true ∧ w.isRef = true))
    (hd : decode c.code pc = .ok (i, 1)) (hq : Q (some w) T.heap locs) (h1 : cells ≤ kc) (h2 : slots ≤ ks) : own_Fin p e below s Q kc ks T (mkF m pc Ls (w :: rest)) := by
  obtain ⟨fs, hr, hrun, hended, hW, hsame⟩ := X.leave (v := some w) (fun h => by rw [hret] at h; cases h) hlk
  exact ⟨_, _, retOut X hx hret hn hi hd hr, hrun, hended, _, _, rfl, hq, ⟨_, rfl⟩, hW, hsame.mono h1 h2⟩
theorem own_retI (X : Stand p l e R s m args below meth c T locs cells slots) (hx : p.tables.exec = Jvm.exec) (hlk : meth.locks = false) {pc : Nat} {Ls : Array Slot} {z : Int32} {rest : List Value} (hret : meth.sig.returnType = some .int)
    (hd : decode c.code pc = .ok (.ireturn, 1)) (hq : Q (some (.int z)) T.heap locs) (h1 : cells ≤ kc) (h2 : slots ≤ ks) : own_Fin p e below s Q kc ks T (mkF m pc Ls (.int z :: rest)) :=
  own_retV X hx hlk hret rfl (Or.inl ⟨rfl, Or.inl rfl, z, rfl⟩) hd hq h1 h2
theorem own_retJ (X : Stand p l e R s m args below meth c T locs cells slots) (hx : p.tables.exec = Jvm.exec) (hlk : meth.locks = false) {pc : Nat} {Ls : Array Slot} {z : Int64} {rest : List Value} (hret : meth.sig.returnType = some .long)
    (hd : decode c.code pc = .ok (.lreturn, 1)) (hq : Q (some (.long z)) T.heap locs) (h1 : cells ≤ kc) (h2 : slots ≤ ks) : own_Fin p e below s Q kc ks T (mkF m pc Ls (.long z :: rest)) :=
  own_retV X hx hlk hret rfl (Or.inr (Or.inl ⟨rfl, rfl, z, rfl⟩)) hd hq h1 h2
theorem own_retA (X : Stand p l e R s m args below meth c T locs cells slots) (hx : p.tables.exec = Jvm.exec) (hlk : meth.locks = false) {pc : Nat} {Ls : Array Slot} {w : Value} {t : FieldType} {rest : List Value} (hret : meth.sig.returnType = some t) (ht : t.isReference = true) (hw : w.isRef = true)
    (hd : decode c.code pc = .ok (.areturn, 1)) (hq : Q (some w) T.heap locs) (h1 : cells ≤ kc) (h2 : slots ≤ ks) : own_Fin p e below s Q kc ks T (mkF m pc Ls (w :: rest)) :=
  own_retV X hx hlk hret (by cases t <;> first | (cases ht; done) | rfl) (Or.inr (Or.inr (Or.inr (Or.inr ⟨rfl, ht, hw⟩)))) hd hq h1 h2
theorem own_retN (X : Stand p l e R s m args below meth c T locs cells slots) (hx : p.tables.exec = Jvm.exec) (hlk : meth.locks = false) {pc : Nat} {Ls : Array Slot} {z : Int32} {t : FieldType} {rest : List Value} (hret : meth.sig.returnType = some t) (ht : t = .boolean ∨ t = .byte ∨ t = .char ∨ t = .short)
    (hd : decode c.code pc = .ok (.ireturn, 1)) (hq : Q (some (.int (nar t z))) T.heap locs) (h1 : cells ≤ kc) (h2 : slots ≤ ks) : own_Fin p e below s Q kc ks T (mkF m pc Ls (.int z :: rest)) := by
  obtain ⟨fs, hr, hrun, hended, hW, hsame⟩ := X.leave (v := some (.int (nar t z))) (fun h => by rw [hret] at h; cases h) hlk
  exact ⟨_, _, retN X hx hret ht hd hr, hrun, hended, _, _, rfl, hq, ⟨_, rfl⟩, hW, hsame.mono h1 h2⟩
theorem own_ret (X : Stand p l e R s m args below meth c T locs cells slots) (hx : p.tables.exec = Jvm.exec) (hlk : meth.locks = false) {pc : Nat} {Ls : Array Slot} (hret : meth.sig.returnType = none)
    (hd : decode c.code pc = .ok (.return_, 1)) (hq : Q none T.heap locs) (h1 : cells ≤ kc) (h2 : slots ≤ ks) : own_Fin p e below s Q kc ks T (mkF m pc Ls []) := by
  obtain ⟨fs, hr, hrun, hended, hW, hsame⟩ := X.leave (v := none) (fun _ => rfl) hlk
  exact ⟨_, _, X.returnOut hx hret hd hr, hrun, hended, _, _, rfl, hq, ⟨_, rfl⟩, hW, hsame.mono h1 h2⟩
end OwnKit
theorem own_nar_ite {P : Prop} [Decidable P] {a b : Int32} (ha : nar .boolean a = a) (hb : nar .boolean b = b) : nar .boolean (if P then a else b) = (if P then a else b) := by
  by_cases h : P
  · rw [if_pos h]; exact ha
  · rw [if_neg h]; exact hb
theorem own_nar_bool (P : Prop) [Decidable P] : nar .boolean (if P then (1 : Int32) else 0) = (if P then (1 : Int32) else 0) := own_nar_ite (by decide) (by decide)
/-- the array at a holds just these values -/
def own_Arl (Z : State) (h : Heap) (a : Addr) (ty : FieldType) (vs : List Value) : Prop := ∃ c : Cell, Arr Z h a c ty ∧ c.slots.toList = vs
section OwnArr
variable {p : Program} {l : Launch} {e : Env} {R : Room} {s : State} {m : MethodId} {args : Array Value} {below : List Frame} {meth : Method} {c : Code} {T : State} {locs : List Loc} {cells slots : Nat}
variable {Z : State} {h h' : Heap} {a b : Addr} {ty : FieldType} {vs : List Value} {v w : Value} {sl : Nat} {ws : List Addr}
theorem own_Arl.lt (F : own_Arl Z h a ty vs) : a < h.size := by obtain ⟨c, A, -⟩ := F; exact A.lt
theorem own_Arl.ext (F : own_Arl Z h a ty vs) (E : Ext h h') : own_Arl Z h' a ty vs := by obtain ⟨c, A, r⟩ := F; exact ⟨c, A.ext E, r⟩
theorem own_Arl.other (F : own_Arl Z h b ty vs) (W : Wr h h' a sl v) (q : b ≠ a) : own_Arl Z h' b ty vs := by obtain ⟨c, A, r⟩ := F; exact ⟨c, A.other W q, r⟩
theorem own_Arl.keep (F : own_Arl Z h a ty vs) (K : Keep h h' ws) (q : a ∉ ws) : own_Arl Z h' a ty vs := by obtain ⟨c, A, r⟩ := F; exact ⟨c, ⟨K.2.1 a c A.1 q, A.2⟩, r⟩
theorem own_Arl.set (F : own_Arl Z h a ty vs) (W : Wr h h' a sl v) : own_Arl Z h' a ty (vs.set sl v) := by
  obtain ⟨c, A, rfl⟩ := F
  exact ⟨_, A.same W, by simp [Cell.setSlot]⟩
theorem own_Arl.set' {j : Int32} (F : own_Arl Z h a ty vs) (W : Wr h h' a j.toNatClampNeg v) {i : Nat} (hi : j.toNatClampNeg = i) : own_Arl Z h' a ty (vs.set i v) := hi ▸ F.set W
theorem own_Arl.of_new {k : ClassId} {n : Int32} (A : Arr Z h a (newA k ty n) ty) {i : Nat} (hi : n.toNatClampNeg = i) : own_Arl Z h a ty (List.replicate i (defaultValue ty)) := ⟨_, A, by subst hi; simp [newA]⟩
theorem own_inb {c : Cell} {j : Int32} (L : c.slots.toList = vs) (h1 : ¬ j < 0) (h2 : j.toNatClampNeg < vs.length) : ¬ (j < 0 ∨ c.slots.size ≤ j.toNatClampNeg) := by
  subst L
  intro q
  rcases q with q | q
  · exact h1 q
  · rw [Array.length_toList] at h2; exact absurd q (Nat.not_le.mpr h2)
theorem own_inb' {c : Cell} {j : Int32} {n : Nat} (L : c.slots.toList = vs) (hl : vs.length = n) (h1 : ¬ j < 0) (h2 : j.toNatClampNeg < n) : ¬ (j < 0 ∨ c.slots.size ≤ j.toNatClampNeg) := own_inb L h1 (hl ▸ h2)
theorem own_ix {j : Int32} {k : Nat} (hk : j.toNatClampNeg = k) (h : vs[k]? = some v) : vs[j.toNatClampNeg]? = some v := hk ▸ h
theorem own_get {c : Cell} {j : Nat} (L : c.slots.toList = vs) (h2 : vs[j]? = some v) : c.slots[j]? = some v := by
  subst L
  rw [Array.getElem?_toList] at h2; exact h2
theorem own_lt_of {j : Nat} (h2 : vs[j]? = some v) : j < vs.length := (List.getElem?_eq_some_iff.mp h2).1
variable {g : JFrame} {j : Int32} {rest : List Value}
theorem own_baload (X : Stand p l e R s m args below meth c T locs cells slots) (hx : p.tables.exec = Jvm.exec) (hZ : Z.Warmed39 s.vm) (eT : T.heap = h) (F : own_Arl Z h a .byte vs) (h1 : ¬ j < 0) (h2 : vs[j.toNatClampNeg]? = some v) (hg : g.method = m) (hs : g.stack = .int j :: .ref a :: rest) (hd : decode c.code g.pc = .ok (.baload, 1)) (target : State)
    (k : Steps p.tables e below (T.setTop { g with pc := g.pc + 1, stack := v :: rest }) target) : Steps p.tables e below (T.setTop g) target := by
  obtain ⟨cl, A, L⟩ := F
  exact X.baloadBytes hx (by rw [eT]; exact A.1) (State.isArrayOf_alike hZ.alike A.2.1) A.2.2 (own_inb L h1 (own_lt_of h2)) (own_get L h2) hg hs hd _ k
theorem own_caload (X : Stand p l e R s m args below meth c T locs cells slots) (hx : p.tables.exec = Jvm.exec) (hZ : Z.Warmed39 s.vm) (eT : T.heap = h) (F : own_Arl Z h a .char vs) (h1 : ¬ j < 0) (h2 : vs[j.toNatClampNeg]? = some v) (hg : g.method = m) (hs : g.stack = .int j :: .ref a :: rest) (hd : decode c.code g.pc = .ok (.caload, 1)) (target : State)
    (k : Steps p.tables e below (T.setTop { g with pc := g.pc + 1, stack := v :: rest }) target) : Steps p.tables e below (T.setTop g) target := by
  obtain ⟨cl, A, L⟩ := F
  exact X.caload hx (by rw [eT]; exact A.1) (State.isArrayOf_alike hZ.alike A.2.1) A.2.2 (own_inb L h1 (own_lt_of h2)) (own_get L h2) hg hs hd _ k
theorem own_iaload (X : Stand p l e R s m args below meth c T locs cells slots) (hx : p.tables.exec = Jvm.exec) (hZ : Z.Warmed39 s.vm) (eT : T.heap = h) (F : own_Arl Z h a .int vs) (h1 : ¬ j < 0) (h2 : vs[j.toNatClampNeg]? = some v) (hg : g.method = m) (hs : g.stack = .int j :: .ref a :: rest) (hd : decode c.code g.pc = .ok (.iaload, 1)) (target : State)
    (k : Steps p.tables e below (T.setTop { g with pc := g.pc + 1, stack := v :: rest }) target) : Steps p.tables e below (T.setTop g) target := by
  obtain ⟨cl, A, L⟩ := F
  exact X.iaload hx (by rw [eT]; exact A.1) (State.isArrayOf_alike hZ.alike A.2.1) A.2.2 (own_inb L h1 (own_lt_of h2)) (own_get L h2) hg hs hd _ k
theorem own_laload (X : Stand p l e R s m args below meth c T locs cells slots) (hx : p.tables.exec = Jvm.exec) (hZ : Z.Warmed39 s.vm) (eT : T.heap = h) (F : own_Arl Z h a .long vs) (h1 : ¬ j < 0) (h2 : vs[j.toNatClampNeg]? = some v) (hg : g.method = m) (hs : g.stack = .int j :: .ref a :: rest) (hd : decode c.code g.pc = .ok (.laload, 1)) (target : State)
    (k : Steps p.tables e below (T.setTop { g with pc := g.pc + 1, stack := v :: rest }) target) : Steps p.tables e below (T.setTop g) target := by
  obtain ⟨cl, A, L⟩ := F
  exact X.laload hx (by rw [eT]; exact A.1) (State.isArrayOf_alike hZ.alike A.2.1) A.2.2 (own_inb L h1 (own_lt_of h2)) (own_get L h2) hg hs hd _ k
theorem own_alen (X : Stand p l e R s m args below meth c T locs cells slots) (hx : p.tables.exec = Jvm.exec) (hZ : Z.Warmed39 s.vm) (eT : T.heap = h) (F : own_Arl Z h a ty vs) {n : Int32} {i : Nat} (hi : vs.length = i) (hn : i.toInt32 = n) (hg : g.method = m) (hs : g.stack = .ref a :: rest) (hd : decode c.code g.pc = .ok (.arraylength, 1)) (target : State)
    (k : Steps p.tables e below (T.setTop { g with pc := g.pc + 1, stack := .int n :: rest }) target) : Steps p.tables e below (T.setTop g) target := by
  obtain ⟨cl, A, rfl⟩ := F
  subst hi
  subst hn
  exact X.arraylength hx (by rw [eT]; exact A.1) (State.isArrayOf_alike hZ.alike A.2.1) hg hs hd _ (by rw [Array.length_toList] at k; exact k)
end OwnArr

def own_bit (x : Int32) : Int32 := (XT.ushr (x ^^^ (-1 : Int32)) (7 : Int32)) &&& (1 : Int32)
theorem own_bit_all : ∀ k : Fin 256, own_bit (Int8.ofNat k.val).toInt32 = if (Int8.ofNat k.val).toInt32 < 0 then (0 : Int32) else (1 : Int32) := by decide +kernel
theorem own_bit_eq (y : Int32) : own_bit (nar .byte y) = if (nar .byte y) < 0 then (0 : Int32) else (1 : Int32) := by
  have h := own_bit_all ⟨y.toInt8.toBitVec.toNat, y.toInt8.toBitVec.isLt⟩
  have e : Int8.ofNat y.toInt8.toBitVec.toNat = y.toInt8 := by
    apply Int8.toBitVec_inj.mp
    show BitVec.ofNat 8 _ = _
    simp
  simp only [e] at h
  exact h
def own_cnt (f : Nat → Int32) : Nat → Nat → Int32
  | _, 0 => 0
  | i, k + 1 => f i + own_cnt f (i + 1) k
theorem own_cnt_app (f : Nat → Int32) : ∀ (k l i : Nat), own_cnt f i (k + l) = own_cnt f i k + own_cnt f (i + k) l
  | 0, l, i => by rw [Nat.zero_add, Nat.add_zero]; simp only [own_cnt, Int32.zero_add]
  | k + 1, l, i => by
    have h := own_cnt_app f k l (i + 1)
    rw [Nat.add_right_comm k 1 l]
    simp only [own_cnt]
    rw [h, Int32.add_assoc, Nat.add_right_comm i 1 k, Nat.add_assoc i k 1]
theorem own_cnt_congr (f g : Nat → Int32) : ∀ (k i : Nat), (∀ j, i ≤ j → j < i + k → f j = g j) → own_cnt f i k = own_cnt g i k
  | 0, _, _ => rfl
  | k + 1, i, h => by
    simp only [own_cnt]
    rw [h i (Nat.le_refl _) (by omega), own_cnt_congr f g k (i + 1) (fun j h1 h2 => h j (by omega) (by omega))]
theorem own_cnt_zero (f : Nat → Int32) : ∀ (k i : Nat), (∀ j, i ≤ j → j < i + k → f j = 0) → own_cnt f i k = 0
  | 0, _, _ => rfl
  | k + 1, i, h => by
    simp only [own_cnt]
    rw [h i (Nat.le_refl _) (by omega), own_cnt_zero f k (i + 1) (fun j h1 h2 => h j (by omega) (by omega)), Int32.zero_add]
theorem own_cnt8 (f : Nat → Int32) (i q : Nat) : own_cnt f i (q + 8) = (((((((f i + f (i + 1)) + f (i + 2)) + f (i + 3)) + f (i + 4)) + f (i + 5)) + f (i + 6)) + f (i + 7)) + own_cnt f (i + 8) q := by
  simp only [own_cnt, Int32.add_assoc]
theorem own_rd {bs : List Int32} {j : Int32} {k : Nat} (hj : j = Int32.ofNat k) (hk : k < bs.length) (hl : bs.length = 16) : ¬ j < 0 ∧ (bs.map Value.int)[j.toNatClampNeg]? = some (.int (bs.getD k 0)) := by
  have hbt : k < 2 ^ 31 := by omega
  have e1 := toInt_of hj hbt
  refine ⟨?_, ?_⟩
  · rw [Int32.lt_iff_toInt_lt, e1]
    show ¬ ((k : Int) < 0)
    omega
  · rw [clamp_of hj hbt, List.getElem?_map, List.getElem?_eq_getElem hk, List.getD_eq_getElem?_getD, List.getElem?_eq_getElem hk]
    rfl
def own_one (bs : List Int32) (i : Int32) (k : Nat) (fr to : Int32) : Int32 := if i < fr then (0 : Int32) else if i < to then (if (bs.getD k 0) < 0 then (0 : Int32) else (1 : Int32)) else (0 : Int32)
theorem own_ofNat_of {x : Int32} {c : Nat} (h : x.toInt = (c : Int)) (hc : c < 2 ^ 31) : x = Int32.ofNat c := Int32.toInt_inj.mp (h.trans (toInt_of rfl hc).symm)
theorem own_from (f : Int32) : ∃ F : Nat, ((f &&& (2147483647 : Int32)) % (17 : Int32)) = Int32.ofNat F ∧ F ≤ 16 := by
  have e1 : (f &&& (2147483647 : Int32)).toInt = f.toInt % 2 ^ 31 := Jvm.Kit.i32_mask f _ (k := 31) (by decide) (by decide)
  have c : (17 : Int32).toInt = 17 := rfl
  have e2 : ((f &&& (2147483647 : Int32)) % (17 : Int32)).toInt = (f.toInt % 2 ^ 31) % 17 := by rw [Jvm.Kit.i32_rem_nonneg (by rw [e1]; omega), e1, c]
  exact ⟨((f.toInt % 2 ^ 31) % 17).toNat, own_ofNat_of (by omega) (by omega), by omega⟩
theorem own_17 {F : Nat} (hF : F ≤ 16) : ((17 : Int32) - Int32.ofNat F).toInt = 17 - (F : Int) := by
  have c : (17 : Int32).toInt = 17 := rfl
  have e := toInt_of (c := F) rfl (by omega)
  rw [Jvm.Kit.i32_sub (by omega) (by omega), e, c]
theorem own_nz {F : Nat} (hF : F ≤ 16) : ((17 : Int32) - Int32.ofNat F) ≠ 0 := fun q => by
  have := congrArg Int32.toInt q
  rw [own_17 hF] at this
  have c : (0 : Int32).toInt = 0 := rfl
  omega
theorem own_to (t : Int32) {F : Nat} (hF : F ≤ 16) : ∃ N : Nat, (Int32.ofNat F + ((t &&& (2147483647 : Int32)) % ((17 : Int32) - Int32.ofNat F))) = Int32.ofNat N ∧ F ≤ N ∧ N ≤ 16 := by
  have e1 : (t &&& (2147483647 : Int32)).toInt = t.toInt % 2 ^ 31 := Jvm.Kit.i32_mask t _ (k := 31) (by decide) (by decide)
  have e2 : ((t &&& (2147483647 : Int32)) % ((17 : Int32) - Int32.ofNat F)).toInt = (t.toInt % 2 ^ 31) % (17 - (F : Int)) := by rw [Jvm.Kit.i32_rem_nonneg (by rw [e1]; omega), e1, own_17 hF]
  have b1 := Int.emod_nonneg (t.toInt % 2 ^ 31) (b := 17 - (F : Int)) (by omega)
  have b2 := Int.emod_lt_of_pos (t.toInt % 2 ^ 31) (b := 17 - (F : Int)) (by omega)
  generalize (t.toInt % 2 ^ 31) % (17 - (F : Int)) = z at *
  have e := toInt_of (c := F) rfl (by omega)
  have e3 : (Int32.ofNat F + ((t &&& (2147483647 : Int32)) % ((17 : Int32) - Int32.ofNat F))).toInt = (F : Int) + z := by rw [Jvm.Kit.i32_add (by omega) (by omega), e, e2]
  exact ⟨F + z.toNat, own_ofNat_of (by omega) (by omega), by omega, by omega⟩
theorem own_lt {i j : Nat} (hi : i ≤ 100) (hj : j ≤ 100) : (Int32.ofNat i < Int32.ofNat j) ↔ i < j := by
  rw [Int32.lt_iff_toInt_lt, toInt_of rfl (by omega), toInt_of rfl (by omega)]; omega
theorem own_law {bs : List Int32} {F N : Nat} (hl : bs.length = 16) (hbt : ∀ b ∈ bs, ∃ y, b = nar .byte y) (hF : F ≤ 16) (h1 : F ≤ N) (h2 : N ≤ 16) :
    own_cnt (fun j => own_bit (bs.getD j 0)) F (N - F) = ((((((((((((((((own_one bs (0 : Int32) 0 (Int32.ofNat F) (Int32.ofNat N)) + (own_one bs (1 : Int32) 1 (Int32.ofNat F) (Int32.ofNat N))) + (own_one bs (2 : Int32) 2 (Int32.ofNat F) (Int32.ofNat N))) + (own_one bs (3 : Int32) 3 (Int32.ofNat F) (Int32.ofNat N))) + (own_one bs (4 : Int32) 4 (Int32.ofNat F) (Int32.ofNat N))) + (own_one bs (5 : Int32) 5 (Int32.ofNat F) (Int32.ofNat N))) + (own_one bs (6 : Int32) 6 (Int32.ofNat F) (Int32.ofNat N))) + (own_one bs (7 : Int32) 7 (Int32.ofNat F) (Int32.ofNat N))) + (own_one bs (8 : Int32) 8 (Int32.ofNat F) (Int32.ofNat N))) + (own_one bs (9 : Int32) 9 (Int32.ofNat F) (Int32.ofNat N))) + (own_one bs (10 : Int32) 10 (Int32.ofNat F) (Int32.ofNat N))) + (own_one bs (11 : Int32) 11 (Int32.ofNat F) (Int32.ofNat N))) + (own_one bs (12 : Int32) 12 (Int32.ofNat F) (Int32.ofNat N))) + (own_one bs (13 : Int32) 13 (Int32.ofNat F) (Int32.ofNat N))) + (own_one bs (14 : Int32) 14 (Int32.ofNat F) (Int32.ofNat N))) + (own_one bs (15 : Int32) 15 (Int32.ofNat F) (Int32.ofNat N))) := by
  have one : ∀ k, k < 16 → own_one bs (Int32.ofNat k) k (Int32.ofNat F) (Int32.ofNat N) = if F ≤ k ∧ k < N then own_bit (bs.getD k 0) else 0 := by
    intro k hk
    unfold own_one
    have hm : ∃ y, bs.getD k 0 = nar .byte y := by
      rw [List.getD_eq_getElem?_getD, List.getElem?_eq_getElem (by omega)]
      exact hbt _ (List.getElem_mem _)
    obtain ⟨y, hy⟩ := hm
    by_cases c1 : k < F
    · rw [if_pos ((own_lt (by omega) (by omega)).mpr c1), if_neg (by omega)]
    · rw [if_neg (fun q => c1 ((own_lt (by omega) (by omega)).mp q))]
      by_cases c2 : k < N
      · rw [if_pos ((own_lt (by omega) (by omega)).mpr c2), if_pos (show F ≤ k ∧ k < N from ⟨by omega, c2⟩), hy, own_bit_eq]
      · rw [if_neg (fun q => c2 ((own_lt (by omega) (by omega)).mp q)), if_neg (by omega)]
  have tot : own_cnt (fun j => own_one bs (Int32.ofNat j) j (Int32.ofNat F) (Int32.ofNat N)) 0 16 = ((((((((((((((((own_one bs (0 : Int32) 0 (Int32.ofNat F) (Int32.ofNat N)) + (own_one bs (1 : Int32) 1 (Int32.ofNat F) (Int32.ofNat N))) + (own_one bs (2 : Int32) 2 (Int32.ofNat F) (Int32.ofNat N))) + (own_one bs (3 : Int32) 3 (Int32.ofNat F) (Int32.ofNat N))) + (own_one bs (4 : Int32) 4 (Int32.ofNat F) (Int32.ofNat N))) + (own_one bs (5 : Int32) 5 (Int32.ofNat F) (Int32.ofNat N))) + (own_one bs (6 : Int32) 6 (Int32.ofNat F) (Int32.ofNat N))) + (own_one bs (7 : Int32) 7 (Int32.ofNat F) (Int32.ofNat N))) + (own_one bs (8 : Int32) 8 (Int32.ofNat F) (Int32.ofNat N))) + (own_one bs (9 : Int32) 9 (Int32.ofNat F) (Int32.ofNat N))) + (own_one bs (10 : Int32) 10 (Int32.ofNat F) (Int32.ofNat N))) + (own_one bs (11 : Int32) 11 (Int32.ofNat F) (Int32.ofNat N))) + (own_one bs (12 : Int32) 12 (Int32.ofNat F) (Int32.ofNat N))) + (own_one bs (13 : Int32) 13 (Int32.ofNat F) (Int32.ofNat N))) + (own_one bs (14 : Int32) 14 (Int32.ofNat F) (Int32.ofNat N))) + (own_one bs (15 : Int32) 15 (Int32.ofNat F) (Int32.ofNat N))) := by
    simp only [own_cnt, Int32.add_assoc, Int32.add_zero]
    rfl
  rw [← tot]
  have s : (16 : Nat) = F + ((N - F) + (16 - N)) := by omega
  rw [s, own_cnt_app, own_cnt_app, own_cnt_zero _ F 0 (fun j _ hj => by show own_one _ _ _ _ _ = 0; rw [one j (by omega), if_neg (by omega)]), own_cnt_zero _ (16 - N) _ (fun j hj1 hj2 => by show own_one _ _ _ _ _ = 0; rw [one j (by omega), if_neg (by omega)]), Int32.zero_add, Int32.add_zero, Nat.zero_add]
  exact own_cnt_congr _ _ _ _ (fun j hj1 hj2 => by show _ = own_one _ _ _ _ _; rw [one j (by omega), if_pos (by omega)])
theorem pd_0 : parseMethodDescriptor "([BIII)I" = some ⟨[(.array .byte), .int, .int, .int], some .int⟩ := by decide +kernel
theorem pd_1 : parseMethodDescriptor "([BII)I" = some ⟨[(.array .byte), .int, .int], some .int⟩ := by decide +kernel
theorem d0_0 : decode method_3_code 0 = .ok (.iload_n 1, 1) := by decide +kernel
theorem d0_1 : decode method_3_code 1 = .ok (.iload_n 2, 1) := by decide +kernel
theorem d0_2 : decode method_3_code 2 = .ok (.if_icmp .lt 8, 3) := by decide +kernel
theorem d0_5 : decode method_3_code 5 = .ok (.iload_n 1, 1) := by decide +kernel
theorem d0_6 : decode method_3_code 6 = .ok (.iload_n 3, 1) := by decide +kernel
theorem d0_7 : decode method_3_code 7 = .ok (.if_icmp .lt 5, 3) := by decide +kernel
theorem d0_10 : decode method_3_code 10 = .ok (.iconst 0, 1) := by decide +kernel
theorem d0_11 : decode method_3_code 11 = .ok (.ireturn, 1) := by decide +kernel
theorem d0_12 : decode method_3_code 12 = .ok (.aload_n 0, 1) := by decide +kernel
theorem d0_13 : decode method_3_code 13 = .ok (.iload_n 1, 1) := by decide +kernel
theorem d0_14 : decode method_3_code 14 = .ok (.baload, 1) := by decide +kernel
theorem d0_15 : decode method_3_code 15 = .ok (.ifCond .lt 7, 3) := by decide +kernel
theorem d0_18 : decode method_3_code 18 = .ok (.iconst 1, 1) := by decide +kernel
theorem d0_19 : decode method_3_code 19 = .ok (.goto 4, 3) := by decide +kernel
theorem d0_22 : decode method_3_code 22 = .ok (.iconst 0, 1) := by decide +kernel
theorem d0_23 : decode method_3_code 23 = .ok (.ireturn, 1) := by decide +kernel
theorem pn_0 : plainFor (⟨"com/example/sedimenta/sedimenta/store/VarIntsCountPinLaw", "one", "([BIII)I"⟩ : MethodName) = true := by first | exact plainFor_of_name (by first | (simp [plainName, overriddenIn]; done) | decide +kernel) | decide +kernel
theorem ef_0 (m : MethodId) (x0 : Addr) (x1 : Int32) (x2 : Int32) (x3 : Int32) : entryFrame m #[(.ref x0), (.int x1), (.int x2), (.int x3)] 4 = mkF m 0 #[.val (.ref x0), .val (.int x1), .val (.int x2), .val (.int x3)] [] := by first | (simp [entryFrame, mkF, argsToLocals, Value.category]; done) | rfl
def Q_0 (bs : List Int32) (i fr to : Int32) (k : Nat) (h0 : Heap) (n0 : Nat) (v : Option Value) (h : Heap) (L : List Loc) : Prop := v = some (.int (own_one bs i k fr to)) ∧ Fr n0 L ∧ h = h0
set_option maxRecDepth 65536 in
set_option maxHeartbeats 40000000 in
theorem rm_one (l : Launch) (Z : State) (a0 : Array Value) (hw : ∀ d ∈ tables_1, d.before a0 Z = true) (ws : List Jvm.Cond) (a : Addr) (bs : List Int32) (i fr to : Int32) (k : Nat) (h0 : Heap) (n0 : Nat) (Z0 : n0 ≤ h0.size) (V0 : own_Arl Z h0 a .byte (bs.map Value.int)) (hi : i = Int32.ofNat k) (hk : k < bs.length) (hl : bs.length = 16) :
    MetFree l (⟨"com/example/sedimenta/sedimenta/store/VarIntsCountPinLaw", "one", "([BIII)I"⟩ : MethodName) (head1 (Jvm.Cond.code (⟨"com/example/sedimenta/sedimenta/store/VarIntsCountPinLaw", "one", "([BIII)I"⟩ : MethodName) method_3_code 4 (some .int) :: ws) ({ frames := 0, cells := 0, slots := 0, locals := 0 } : Room)) (fun as_ U => as_ = #[(.ref a), (.int i), (.int fr), (.int to)] ∧ Z.Warmed39 U.vm ∧ U.heap = h0) (fun _ _ _ _ _ => True) (fun _ U o U' => ∃ v L, o = .returned v ∧ Q_0 bs i fr to k h0 n0 v U'.heap L ∧ FrameEnd U o U' L ({ frames := 0, cells := 0, slots := 0, locals := 0 } : Room).cells ({ frames := 0, cells := 0, slots := 0, locals := 0 } : Room).slots) := by
  refine MetFree.of_bodySF pn_0 hisR ?_
  intro p e s m args below meth c s₁ Bd hml0 hP hK
  obtain ⟨rfl, hZ, hh⟩ := hP
  have hx := Bd.exec
  have hby := Bd.bytes
  have hlk := BodyLoose.notSynchronized Bd
  have hml : c.maxLocals = 4 := hml0
  have hown : s.vm.findClass "com/example/sedimenta/sedimenta/store/VarIntsCountPinLaw" = some m.cls := findClass_of_methodNamed Bd.named
  have hnm := (name_of_methodNamed Bd.named Bd.method).1
  have X0 : Stand p l e ({ frames := 0, cells := 0, slots := 0, locals := 0 } : Room) s m #[(.ref a), (.int i), (.int fr), (.int to)] below meth c s₁ [] 0 0 := Stand.of_body Bd
  have e0 : s₁.heap = h0 := by rw [← hh, Bd.state]; rfl
  have N0 := Fr.nil n0
  refine own_in (ef_0 m a i fr to) ?_
  show own_Fin p e below s (Q_0 bs i fr to k h0 n0) 0 0 s₁ (mkF m 0 #[.val (.ref a), .val (.int i), .val (.int fr), .val (.int to)] [])
  refine own_step (T' := s₁) (g' := (mkF m 1 #[.val (.ref a), .val (.int i), .val (.int fr), .val (.int to)] [(.int i)])) (fun t_ k_ => XS.iloadN X0.here hx rfl (hb hby d0_0) rfl k_) ?_
  refine own_step (T' := s₁) (g' := (mkF m 2 #[.val (.ref a), .val (.int i), .val (.int fr), .val (.int to)] [(.int fr), (.int i)])) (fun t_ k_ => XS.iloadN X0.here hx rfl (hb hby d0_1) rfl k_) ?_
  by_cases hb1 : i < fr
  · refine own_step (T' := s₁) (g' := (mkF m 10 #[.val (.ref a), .val (.int i), .val (.int fr), .val (.int to)] [])) (fun t_ k_ => XS.icmpYes X0.here hx rfl (pc0 := 2) (pc' := 10) rfl (hb hby d0_2) rfl (XT.ii_lt_t hb1) (by decide) (by decide) k_) ?_
    refine own_step (T' := s₁) (g' := (mkF m 11 #[.val (.ref a), .val (.int i), .val (.int fr), .val (.int to)] [(.int (0 : Int32))])) (fun t_ k_ => XT.iconstV X0.here hx rfl (0 : Int32) (hb hby d0_10) (by decide) k_) ?_
    exact own_retI X0 hx hlk Bd.returns (hb hby d0_11) (by rw [e0]; exact ⟨by unfold own_one; rw [if_pos hb1], N0, rfl⟩) (by decide) (by decide)
  · refine own_step (T' := s₁) (g' := (mkF m 5 #[.val (.ref a), .val (.int i), .val (.int fr), .val (.int to)] [])) (fun t_ k_ => XS.icmpNo X0.here hx rfl (hb hby d0_2) rfl (XT.ii_lt_f hb1) k_) ?_
    refine own_step (T' := s₁) (g' := (mkF m 6 #[.val (.ref a), .val (.int i), .val (.int fr), .val (.int to)] [(.int i)])) (fun t_ k_ => XS.iloadN X0.here hx rfl (hb hby d0_5) rfl k_) ?_
    refine own_step (T' := s₁) (g' := (mkF m 7 #[.val (.ref a), .val (.int i), .val (.int fr), .val (.int to)] [(.int to), (.int i)])) (fun t_ k_ => XS.iloadN X0.here hx rfl (hb hby d0_6) rfl k_) ?_
    by_cases hb2 : i < to
    · refine own_step (T' := s₁) (g' := (mkF m 12 #[.val (.ref a), .val (.int i), .val (.int fr), .val (.int to)] [])) (fun t_ k_ => XS.icmpYes X0.here hx rfl (pc0 := 7) (pc' := 12) rfl (hb hby d0_7) rfl (XT.ii_lt_t hb2) (by decide) (by decide) k_) ?_
      refine own_step (T' := s₁) (g' := (mkF m 13 #[.val (.ref a), .val (.int i), .val (.int fr), .val (.int to)] [(.ref a)])) (fun t_ k_ => XS.aloadN X0.here hx rfl (hb hby d0_12) rfl rfl k_) ?_
      refine own_step (T' := s₁) (g' := (mkF m 14 #[.val (.ref a), .val (.int i), .val (.int fr), .val (.int to)] [(.int i), (.ref a)])) (fun t_ k_ => XS.iloadN X0.here hx rfl (hb hby d0_13) rfl k_) ?_
      have st3 := own_baload (g := (mkF m 14 #[.val (.ref a), .val (.int i), .val (.int fr), .val (.int to)] [(.int i), (.ref a)])) X0 hx hZ e0 V0 (v := (.int (bs.getD k 0))) (own_rd hi hk hl).1 (own_rd hi hk hl).2 rfl rfl (hb hby d0_14)
      refine own_step (T' := s₁) (g' := (mkF m 15 #[.val (.ref a), .val (.int i), .val (.int fr), .val (.int to)] [(.int (bs.getD k 0))])) st3 ?_
      suffices k5 : ∀ v6 : Int32, v6 = (if (bs.getD k 0) < 0 then (0 : Int32) else (1 : Int32)) → own_Fin p e below s (Q_0 bs i fr to k h0 n0) 0 0 s₁ (mkF m 23 #[.val (.ref a), .val (.int i), .val (.int fr), .val (.int to)] [(.int v6)]) by
        by_cases hb4 : (bs.getD k 0) < 0
        · refine own_step (T' := s₁) (g' := (mkF m 22 #[.val (.ref a), .val (.int i), .val (.int fr), .val (.int to)] [])) (fun t_ k_ => XS.ifYes X0.here hx rfl (pc0 := 15) (pc' := 22) rfl (hb hby d0_15) rfl (XT.i0_lt_t hb4) (by decide) (by decide) k_) ?_
          refine own_step (T' := s₁) (g' := (mkF m 23 #[.val (.ref a), .val (.int i), .val (.int fr), .val (.int to)] [(.int (0 : Int32))])) (fun t_ k_ => XT.iconstV X0.here hx rfl (0 : Int32) (hb hby d0_22) (by decide) k_) ?_
          exact k5 _ (if_pos hb4).symm
        · refine own_step (T' := s₁) (g' := (mkF m 18 #[.val (.ref a), .val (.int i), .val (.int fr), .val (.int to)] [])) (fun t_ k_ => XS.ifNo X0.here hx rfl (hb hby d0_15) rfl (XT.i0_lt_f hb4) k_) ?_
          refine own_step (T' := s₁) (g' := (mkF m 19 #[.val (.ref a), .val (.int i), .val (.int fr), .val (.int to)] [(.int (1 : Int32))])) (fun t_ k_ => XT.iconstV X0.here hx rfl (1 : Int32) (hb hby d0_18) (by decide) k_) ?_
          refine own_step (T' := s₁) (g' := (mkF m 23 #[.val (.ref a), .val (.int i), .val (.int fr), .val (.int to)] [(.int (1 : Int32))])) (fun t_ k_ => XS.goto X0.here hx rfl (pc0 := 19) (pc' := 23) rfl (hb hby d0_19) (by decide) (by decide) k_) ?_
          exact k5 _ (if_neg hb4).symm
      intro v6 hv6
      exact own_retI X0 hx hlk Bd.returns (hb hby d0_23) (by rw [e0]; exact ⟨by unfold own_one; rw [if_neg hb1, if_pos hb2, hv6], N0, rfl⟩) (by decide) (by decide)
    · refine own_step (T' := s₁) (g' := (mkF m 10 #[.val (.ref a), .val (.int i), .val (.int fr), .val (.int to)] [])) (fun t_ k_ => XS.icmpNo X0.here hx rfl (hb hby d0_7) rfl (XT.ii_lt_f hb2) k_) ?_
      refine own_step (T' := s₁) (g' := (mkF m 11 #[.val (.ref a), .val (.int i), .val (.int fr), .val (.int to)] [(.int (0 : Int32))])) (fun t_ k_ => XT.iconstV X0.here hx rfl (0 : Int32) (hb hby d0_10) (by decide) k_) ?_
      exact own_retI X0 hx hlk Bd.returns (hb hby d0_11) (by rw [e0]; exact ⟨by unfold own_one; rw [if_neg hb1, if_neg hb2], N0, rfl⟩) (by decide) (by decide)
theorem d1_0 : decode prog_201_method_13_code 0 = .ok (.iconst 0, 1) := by decide +kernel
theorem d1_1 : decode prog_201_method_13_code 1 = .ok (.istore_n 3, 1) := by decide +kernel
theorem d1_2 : decode prog_201_method_13_code 2 = .ok (.iload_n 1, 1) := by decide +kernel
theorem d1_3 : decode prog_201_method_13_code 3 = .ok (.istore 4, 2) := by decide +kernel
theorem d1_5 : decode prog_201_method_13_code 5 = .ok (.iload 4, 2) := by decide +kernel
theorem d1_7 : decode prog_201_method_13_code 7 = .ok (.bipush 8, 2) := by decide +kernel
theorem d1_9 : decode prog_201_method_13_code 9 = .ok (.iadd, 1) := by decide +kernel
theorem d1_10 : decode prog_201_method_13_code 10 = .ok (.iload_n 2, 1) := by decide +kernel
theorem d1_11 : decode prog_201_method_13_code 11 = .ok (.if_icmp .gt 123, 3) := by decide +kernel
theorem d1_14 : decode prog_201_method_13_code 14 = .ok (.iload_n 3, 1) := by decide +kernel
theorem d1_15 : decode prog_201_method_13_code 15 = .ok (.aload_n 0, 1) := by decide +kernel
theorem d1_16 : decode prog_201_method_13_code 16 = .ok (.iload 4, 2) := by decide +kernel
theorem d1_18 : decode prog_201_method_13_code 18 = .ok (.baload, 1) := by decide +kernel
theorem d1_19 : decode prog_201_method_13_code 19 = .ok (.iconst (-1), 1) := by decide +kernel
theorem d1_20 : decode prog_201_method_13_code 20 = .ok (.ixor, 1) := by decide +kernel
theorem d1_21 : decode prog_201_method_13_code 21 = .ok (.bipush 7, 2) := by decide +kernel
theorem d1_23 : decode prog_201_method_13_code 23 = .ok (.iushr, 1) := by decide +kernel
theorem d1_24 : decode prog_201_method_13_code 24 = .ok (.iconst 1, 1) := by decide +kernel
theorem d1_25 : decode prog_201_method_13_code 25 = .ok (.iand, 1) := by decide +kernel
theorem d1_26 : decode prog_201_method_13_code 26 = .ok (.aload_n 0, 1) := by decide +kernel
theorem d1_27 : decode prog_201_method_13_code 27 = .ok (.iload 4, 2) := by decide +kernel
theorem d1_29 : decode prog_201_method_13_code 29 = .ok (.iconst 1, 1) := by decide +kernel
theorem d1_30 : decode prog_201_method_13_code 30 = .ok (.iadd, 1) := by decide +kernel
theorem d1_31 : decode prog_201_method_13_code 31 = .ok (.baload, 1) := by decide +kernel
theorem d1_32 : decode prog_201_method_13_code 32 = .ok (.iconst (-1), 1) := by decide +kernel
theorem d1_33 : decode prog_201_method_13_code 33 = .ok (.ixor, 1) := by decide +kernel
theorem d1_34 : decode prog_201_method_13_code 34 = .ok (.bipush 7, 2) := by decide +kernel
theorem d1_36 : decode prog_201_method_13_code 36 = .ok (.iushr, 1) := by decide +kernel
theorem d1_37 : decode prog_201_method_13_code 37 = .ok (.iconst 1, 1) := by decide +kernel
theorem d1_38 : decode prog_201_method_13_code 38 = .ok (.iand, 1) := by decide +kernel
theorem d1_39 : decode prog_201_method_13_code 39 = .ok (.iadd, 1) := by decide +kernel
theorem d1_40 : decode prog_201_method_13_code 40 = .ok (.aload_n 0, 1) := by decide +kernel
theorem d1_41 : decode prog_201_method_13_code 41 = .ok (.iload 4, 2) := by decide +kernel
theorem d1_43 : decode prog_201_method_13_code 43 = .ok (.iconst 2, 1) := by decide +kernel
theorem d1_44 : decode prog_201_method_13_code 44 = .ok (.iadd, 1) := by decide +kernel
theorem d1_45 : decode prog_201_method_13_code 45 = .ok (.baload, 1) := by decide +kernel
theorem d1_46 : decode prog_201_method_13_code 46 = .ok (.iconst (-1), 1) := by decide +kernel
theorem d1_47 : decode prog_201_method_13_code 47 = .ok (.ixor, 1) := by decide +kernel
theorem d1_48 : decode prog_201_method_13_code 48 = .ok (.bipush 7, 2) := by decide +kernel
theorem d1_50 : decode prog_201_method_13_code 50 = .ok (.iushr, 1) := by decide +kernel
theorem d1_51 : decode prog_201_method_13_code 51 = .ok (.iconst 1, 1) := by decide +kernel
theorem d1_52 : decode prog_201_method_13_code 52 = .ok (.iand, 1) := by decide +kernel
theorem d1_53 : decode prog_201_method_13_code 53 = .ok (.iadd, 1) := by decide +kernel
theorem d1_54 : decode prog_201_method_13_code 54 = .ok (.aload_n 0, 1) := by decide +kernel
theorem d1_55 : decode prog_201_method_13_code 55 = .ok (.iload 4, 2) := by decide +kernel
theorem d1_57 : decode prog_201_method_13_code 57 = .ok (.iconst 3, 1) := by decide +kernel
theorem d1_58 : decode prog_201_method_13_code 58 = .ok (.iadd, 1) := by decide +kernel
theorem d1_59 : decode prog_201_method_13_code 59 = .ok (.baload, 1) := by decide +kernel
theorem d1_60 : decode prog_201_method_13_code 60 = .ok (.iconst (-1), 1) := by decide +kernel
theorem d1_61 : decode prog_201_method_13_code 61 = .ok (.ixor, 1) := by decide +kernel
theorem d1_62 : decode prog_201_method_13_code 62 = .ok (.bipush 7, 2) := by decide +kernel
theorem d1_64 : decode prog_201_method_13_code 64 = .ok (.iushr, 1) := by decide +kernel
theorem d1_65 : decode prog_201_method_13_code 65 = .ok (.iconst 1, 1) := by decide +kernel
theorem d1_66 : decode prog_201_method_13_code 66 = .ok (.iand, 1) := by decide +kernel
theorem d1_67 : decode prog_201_method_13_code 67 = .ok (.iadd, 1) := by decide +kernel
theorem d1_68 : decode prog_201_method_13_code 68 = .ok (.aload_n 0, 1) := by decide +kernel
theorem d1_69 : decode prog_201_method_13_code 69 = .ok (.iload 4, 2) := by decide +kernel
theorem d1_71 : decode prog_201_method_13_code 71 = .ok (.iconst 4, 1) := by decide +kernel
theorem d1_72 : decode prog_201_method_13_code 72 = .ok (.iadd, 1) := by decide +kernel
theorem d1_73 : decode prog_201_method_13_code 73 = .ok (.baload, 1) := by decide +kernel
theorem d1_74 : decode prog_201_method_13_code 74 = .ok (.iconst (-1), 1) := by decide +kernel
theorem d1_75 : decode prog_201_method_13_code 75 = .ok (.ixor, 1) := by decide +kernel
theorem d1_76 : decode prog_201_method_13_code 76 = .ok (.bipush 7, 2) := by decide +kernel
theorem d1_78 : decode prog_201_method_13_code 78 = .ok (.iushr, 1) := by decide +kernel
theorem d1_79 : decode prog_201_method_13_code 79 = .ok (.iconst 1, 1) := by decide +kernel
theorem d1_80 : decode prog_201_method_13_code 80 = .ok (.iand, 1) := by decide +kernel
theorem d1_81 : decode prog_201_method_13_code 81 = .ok (.iadd, 1) := by decide +kernel
theorem d1_82 : decode prog_201_method_13_code 82 = .ok (.aload_n 0, 1) := by decide +kernel
theorem d1_83 : decode prog_201_method_13_code 83 = .ok (.iload 4, 2) := by decide +kernel
theorem d1_85 : decode prog_201_method_13_code 85 = .ok (.iconst 5, 1) := by decide +kernel
theorem d1_86 : decode prog_201_method_13_code 86 = .ok (.iadd, 1) := by decide +kernel
theorem d1_87 : decode prog_201_method_13_code 87 = .ok (.baload, 1) := by decide +kernel
theorem d1_88 : decode prog_201_method_13_code 88 = .ok (.iconst (-1), 1) := by decide +kernel
theorem d1_89 : decode prog_201_method_13_code 89 = .ok (.ixor, 1) := by decide +kernel
theorem d1_90 : decode prog_201_method_13_code 90 = .ok (.bipush 7, 2) := by decide +kernel
theorem d1_92 : decode prog_201_method_13_code 92 = .ok (.iushr, 1) := by decide +kernel
theorem d1_93 : decode prog_201_method_13_code 93 = .ok (.iconst 1, 1) := by decide +kernel
theorem d1_94 : decode prog_201_method_13_code 94 = .ok (.iand, 1) := by decide +kernel
theorem d1_95 : decode prog_201_method_13_code 95 = .ok (.iadd, 1) := by decide +kernel
theorem d1_96 : decode prog_201_method_13_code 96 = .ok (.aload_n 0, 1) := by decide +kernel
theorem d1_97 : decode prog_201_method_13_code 97 = .ok (.iload 4, 2) := by decide +kernel
theorem d1_99 : decode prog_201_method_13_code 99 = .ok (.bipush 6, 2) := by decide +kernel
theorem d1_101 : decode prog_201_method_13_code 101 = .ok (.iadd, 1) := by decide +kernel
theorem d1_102 : decode prog_201_method_13_code 102 = .ok (.baload, 1) := by decide +kernel
theorem d1_103 : decode prog_201_method_13_code 103 = .ok (.iconst (-1), 1) := by decide +kernel
theorem d1_104 : decode prog_201_method_13_code 104 = .ok (.ixor, 1) := by decide +kernel
theorem d1_105 : decode prog_201_method_13_code 105 = .ok (.bipush 7, 2) := by decide +kernel
theorem d1_107 : decode prog_201_method_13_code 107 = .ok (.iushr, 1) := by decide +kernel
theorem d1_108 : decode prog_201_method_13_code 108 = .ok (.iconst 1, 1) := by decide +kernel
theorem d1_109 : decode prog_201_method_13_code 109 = .ok (.iand, 1) := by decide +kernel
theorem d1_110 : decode prog_201_method_13_code 110 = .ok (.iadd, 1) := by decide +kernel
theorem d1_111 : decode prog_201_method_13_code 111 = .ok (.aload_n 0, 1) := by decide +kernel
theorem d1_112 : decode prog_201_method_13_code 112 = .ok (.iload 4, 2) := by decide +kernel
theorem d1_114 : decode prog_201_method_13_code 114 = .ok (.bipush 7, 2) := by decide +kernel
theorem d1_116 : decode prog_201_method_13_code 116 = .ok (.iadd, 1) := by decide +kernel
theorem d1_117 : decode prog_201_method_13_code 117 = .ok (.baload, 1) := by decide +kernel
theorem d1_118 : decode prog_201_method_13_code 118 = .ok (.iconst (-1), 1) := by decide +kernel
theorem d1_119 : decode prog_201_method_13_code 119 = .ok (.ixor, 1) := by decide +kernel
theorem d1_120 : decode prog_201_method_13_code 120 = .ok (.bipush 7, 2) := by decide +kernel
theorem d1_122 : decode prog_201_method_13_code 122 = .ok (.iushr, 1) := by decide +kernel
theorem d1_123 : decode prog_201_method_13_code 123 = .ok (.iconst 1, 1) := by decide +kernel
theorem d1_124 : decode prog_201_method_13_code 124 = .ok (.iand, 1) := by decide +kernel
theorem d1_125 : decode prog_201_method_13_code 125 = .ok (.iadd, 1) := by decide +kernel
theorem d1_126 : decode prog_201_method_13_code 126 = .ok (.iadd, 1) := by decide +kernel
theorem d1_127 : decode prog_201_method_13_code 127 = .ok (.istore_n 3, 1) := by decide +kernel
theorem d1_128 : decode prog_201_method_13_code 128 = .ok (.iinc 4 8, 3) := by decide +kernel
theorem d1_131 : decode prog_201_method_13_code 131 = .ok (.goto (-126), 3) := by decide +kernel
theorem d1_134 : decode prog_201_method_13_code 134 = .ok (.iload 4, 2) := by decide +kernel
theorem d1_136 : decode prog_201_method_13_code 136 = .ok (.iload_n 2, 1) := by decide +kernel
theorem d1_137 : decode prog_201_method_13_code 137 = .ok (.if_icmp .ge 23, 3) := by decide +kernel
theorem d1_140 : decode prog_201_method_13_code 140 = .ok (.iload_n 3, 1) := by decide +kernel
theorem d1_141 : decode prog_201_method_13_code 141 = .ok (.aload_n 0, 1) := by decide +kernel
theorem d1_142 : decode prog_201_method_13_code 142 = .ok (.iload 4, 2) := by decide +kernel
theorem d1_144 : decode prog_201_method_13_code 144 = .ok (.baload, 1) := by decide +kernel
theorem d1_145 : decode prog_201_method_13_code 145 = .ok (.iconst (-1), 1) := by decide +kernel
theorem d1_146 : decode prog_201_method_13_code 146 = .ok (.ixor, 1) := by decide +kernel
theorem d1_147 : decode prog_201_method_13_code 147 = .ok (.bipush 7, 2) := by decide +kernel
theorem d1_149 : decode prog_201_method_13_code 149 = .ok (.iushr, 1) := by decide +kernel
theorem d1_150 : decode prog_201_method_13_code 150 = .ok (.iconst 1, 1) := by decide +kernel
theorem d1_151 : decode prog_201_method_13_code 151 = .ok (.iand, 1) := by decide +kernel
theorem d1_152 : decode prog_201_method_13_code 152 = .ok (.iadd, 1) := by decide +kernel
theorem d1_153 : decode prog_201_method_13_code 153 = .ok (.istore_n 3, 1) := by decide +kernel
theorem d1_154 : decode prog_201_method_13_code 154 = .ok (.iinc 4 1, 3) := by decide +kernel
theorem d1_157 : decode prog_201_method_13_code 157 = .ok (.goto (-23), 3) := by decide +kernel
theorem d1_160 : decode prog_201_method_13_code 160 = .ok (.iload_n 3, 1) := by decide +kernel
theorem d1_161 : decode prog_201_method_13_code 161 = .ok (.ireturn, 1) := by decide +kernel
theorem pn_1 : plainFor (⟨"com/example/sedimenta/sedimenta/store/VarInts", "count", "([BII)I"⟩ : MethodName) = true := by first | exact plainFor_of_name (by first | (simp [plainName, overriddenIn]; done) | decide +kernel) | decide +kernel
theorem ef_1 (m : MethodId) (x0 : Addr) (x1 : Int32) (x2 : Int32) : entryFrame m #[(.ref x0), (.int x1), (.int x2)] 5 = mkF m 0 #[.val (.ref x0), .val (.int x1), .val (.int x2), .unset, .unset] [] := by first | (simp [entryFrame, mkF, argsToLocals, Value.category]; done) | rfl
def Q_1 (bs : List Int32) (F N : Nat) (h0 : Heap) (n0 : Nat) (v : Option Value) (h : Heap) (L : List Loc) : Prop := v = some (.int (own_cnt (fun j => own_bit (bs.getD j 0)) F (N - F))) ∧ Fr n0 L ∧ h = h0
set_option maxRecDepth 65536 in
set_option maxHeartbeats 40000000 in
theorem rm_count (l : Launch) (Z : State) (a0 : Array Value) (hw : ∀ d ∈ tables_1, d.before a0 Z = true) (ws : List Jvm.Cond) (a : Addr) (bs : List Int32) (F N : Nat) (h0 : Heap) (n0 : Nat) (Z0 : n0 ≤ h0.size) (V0 : own_Arl Z h0 a .byte (bs.map Value.int)) (hl : bs.length = 16) (hF : F ≤ 16) (hFN : F ≤ N) (hN : N ≤ 16) :
    MetFree l (⟨"com/example/sedimenta/sedimenta/store/VarInts", "count", "([BII)I"⟩ : MethodName) (head1 (Jvm.Cond.code (⟨"com/example/sedimenta/sedimenta/store/VarInts", "count", "([BII)I"⟩ : MethodName) prog_201_method_13_code 5 (some .int) :: ws) ({ frames := 0, cells := 0, slots := 0, locals := 0 } : Room)) (fun as_ U => as_ = #[(.ref a), (.int (Int32.ofNat F)), (.int (Int32.ofNat N))] ∧ Z.Warmed39 U.vm ∧ U.heap = h0) (fun _ _ _ _ _ => True) (fun _ U o U' => ∃ v L, o = .returned v ∧ Q_1 bs F N h0 n0 v U'.heap L ∧ FrameEnd U o U' L ({ frames := 0, cells := 0, slots := 0, locals := 0 } : Room).cells ({ frames := 0, cells := 0, slots := 0, locals := 0 } : Room).slots) := by
  refine MetFree.of_bodySF pn_1 hisR ?_
  intro p e s m args below meth c s₁ Bd hml0 hP hK
  obtain ⟨rfl, hZ, hh⟩ := hP
  have hx := Bd.exec
  have hby := Bd.bytes
  have hlk := BodyLoose.notSynchronized Bd
  have hml : c.maxLocals = 5 := hml0
  have hown : s.vm.findClass "com/example/sedimenta/sedimenta/store/VarInts" = some m.cls := findClass_of_methodNamed Bd.named
  have hnm := (name_of_methodNamed Bd.named Bd.method).1
  have X0 : Stand p l e ({ frames := 0, cells := 0, slots := 0, locals := 0 } : Room) s m #[(.ref a), (.int (Int32.ofNat F)), (.int (Int32.ofNat N))] below meth c s₁ [] 0 0 := Stand.of_body Bd
  have e0 : s₁.heap = h0 := by rw [← hh, Bd.state]; rfl
  have N0 := Fr.nil n0
  refine own_in (ef_1 m a (Int32.ofNat F) (Int32.ofNat N)) ?_
  show own_Fin p e below s (Q_1 bs F N h0 n0) 0 0 s₁ (mkF m 0 #[.val (.ref a), .val (.int (Int32.ofNat F)), .val (.int (Int32.ofNat N)), .unset, .unset] [])
  have loop2 : ∀ (k i : Nat) (n : Int32), i + k = N → n + own_cnt (fun j => own_bit (bs.getD j 0)) i k = own_cnt (fun j => own_bit (bs.getD j 0)) F (N - F) → own_Fin p e below s (Q_1 bs F N h0 n0) 0 0 s₁ (mkF m 134 #[.val (.ref a), .val (.int (Int32.ofNat F)), .val (.int (Int32.ofNat N)), .val (.int n), .val (.int (Int32.ofNat i))] []) := by
    intro k
    induction k with
    | zero =>
      intro i n hi hn
      refine own_step (T' := s₁) (g' := (mkF m 136 #[.val (.ref a), .val (.int (Int32.ofNat F)), .val (.int (Int32.ofNat N)), .val (.int n), .val (.int (Int32.ofNat i))] [(.int (Int32.ofNat i))])) (fun t_ k_ => XS.iload X0.here hx rfl (hb hby d1_134) rfl k_) ?_
      refine own_step (T' := s₁) (g' := (mkF m 137 #[.val (.ref a), .val (.int (Int32.ofNat F)), .val (.int (Int32.ofNat N)), .val (.int n), .val (.int (Int32.ofNat i))] [(.int (Int32.ofNat N)), (.int (Int32.ofNat i))])) (fun t_ k_ => XS.iloadN X0.here hx rfl (hb hby d1_136) rfl k_) ?_
      have hk1 : ¬ ((Int32.ofNat i) < (Int32.ofNat N)) := (fun q => by have := (own_lt (by omega) (by omega)).mp q; omega)
      refine own_step (T' := s₁) (g' := (mkF m 160 #[.val (.ref a), .val (.int (Int32.ofNat F)), .val (.int (Int32.ofNat N)), .val (.int n), .val (.int (Int32.ofNat i))] [])) (fun t_ k_ => XS.icmpYes X0.here hx rfl (pc0 := 137) (pc' := 160) rfl (hb hby d1_137) rfl (XT.ii_ge_t hk1) (by decide) (by decide) k_) ?_
      refine own_step (T' := s₁) (g' := (mkF m 161 #[.val (.ref a), .val (.int (Int32.ofNat F)), .val (.int (Int32.ofNat N)), .val (.int n), .val (.int (Int32.ofNat i))] [(.int n)])) (fun t_ k_ => XS.iloadN X0.here hx rfl (hb hby d1_160) rfl k_) ?_
      exact own_retI X0 hx hlk Bd.returns (hb hby d1_161) (by rw [e0]; exact ⟨by rw [← hn]; simp only [own_cnt, Int32.add_zero], N0, rfl⟩) (by decide) (by decide)
    | succ k ih =>
      intro i n hi hn
      refine own_step (T' := s₁) (g' := (mkF m 136 #[.val (.ref a), .val (.int (Int32.ofNat F)), .val (.int (Int32.ofNat N)), .val (.int n), .val (.int (Int32.ofNat i))] [(.int (Int32.ofNat i))])) (fun t_ k_ => XS.iload X0.here hx rfl (hb hby d1_134) rfl k_) ?_
      refine own_step (T' := s₁) (g' := (mkF m 137 #[.val (.ref a), .val (.int (Int32.ofNat F)), .val (.int (Int32.ofNat N)), .val (.int n), .val (.int (Int32.ofNat i))] [(.int (Int32.ofNat N)), (.int (Int32.ofNat i))])) (fun t_ k_ => XS.iloadN X0.here hx rfl (hb hby d1_136) rfl k_) ?_
      have hk2 : (Int32.ofNat i) < (Int32.ofNat N) := ((own_lt (by omega) (by omega)).mpr (by omega))
      refine own_step (T' := s₁) (g' := (mkF m 140 #[.val (.ref a), .val (.int (Int32.ofNat F)), .val (.int (Int32.ofNat N)), .val (.int n), .val (.int (Int32.ofNat i))] [])) (fun t_ k_ => XS.icmpNo X0.here hx rfl (hb hby d1_137) rfl (XT.ii_ge_f hk2) k_) ?_
      refine own_step (T' := s₁) (g' := (mkF m 141 #[.val (.ref a), .val (.int (Int32.ofNat F)), .val (.int (Int32.ofNat N)), .val (.int n), .val (.int (Int32.ofNat i))] [(.int n)])) (fun t_ k_ => XS.iloadN X0.here hx rfl (hb hby d1_140) rfl k_) ?_
      refine own_step (T' := s₁) (g' := (mkF m 142 #[.val (.ref a), .val (.int (Int32.ofNat F)), .val (.int (Int32.ofNat N)), .val (.int n), .val (.int (Int32.ofNat i))] [(.ref a), (.int n)])) (fun t_ k_ => XS.aloadN X0.here hx rfl (hb hby d1_141) rfl rfl k_) ?_
      refine own_step (T' := s₁) (g' := (mkF m 144 #[.val (.ref a), .val (.int (Int32.ofNat F)), .val (.int (Int32.ofNat N)), .val (.int n), .val (.int (Int32.ofNat i))] [(.int (Int32.ofNat i)), (.ref a), (.int n)])) (fun t_ k_ => XS.iload X0.here hx rfl (hb hby d1_142) rfl k_) ?_
      have st3 := own_baload (g := (mkF m 144 #[.val (.ref a), .val (.int (Int32.ofNat F)), .val (.int (Int32.ofNat N)), .val (.int n), .val (.int (Int32.ofNat i))] [(.int (Int32.ofNat i)), (.ref a), (.int n)])) X0 hx hZ e0 V0 (v := (.int (bs.getD i 0))) (own_rd (k := i) rfl (by omega) hl).1 (own_rd (k := i) rfl (by omega) hl).2 rfl rfl (hb hby d1_144)
      refine own_step (T' := s₁) (g' := (mkF m 145 #[.val (.ref a), .val (.int (Int32.ofNat F)), .val (.int (Int32.ofNat N)), .val (.int n), .val (.int (Int32.ofNat i))] [(.int (bs.getD i 0)), (.int n)])) st3 ?_
      refine own_step (T' := s₁) (g' := (mkF m 146 #[.val (.ref a), .val (.int (Int32.ofNat F)), .val (.int (Int32.ofNat N)), .val (.int n), .val (.int (Int32.ofNat i))] [(.int (-1 : Int32)), (.int (bs.getD i 0)), (.int n)])) (fun t_ k_ => XT.iconstV X0.here hx rfl (-1 : Int32) (hb hby d1_145) (by decide) k_) ?_
      refine own_step (T' := s₁) (g' := (mkF m 147 #[.val (.ref a), .val (.int (Int32.ofNat F)), .val (.int (Int32.ofNat N)), .val (.int n), .val (.int (Int32.ofNat i))] [(.int ((bs.getD i 0) ^^^ (-1 : Int32))), (.int n)])) (fun t_ k_ => XT.ixor X0.here hx rfl (hb hby d1_146) rfl k_) ?_
      refine own_step (T' := s₁) (g' := (mkF m 149 #[.val (.ref a), .val (.int (Int32.ofNat F)), .val (.int (Int32.ofNat N)), .val (.int n), .val (.int (Int32.ofNat i))] [(.int (7 : Int32)), (.int ((bs.getD i 0) ^^^ (-1 : Int32))), (.int n)])) (fun t_ k_ => XT.bipushV X0.here hx rfl (7 : Int32) (hb hby d1_147) (by decide) k_) ?_
      refine own_step (T' := s₁) (g' := (mkF m 150 #[.val (.ref a), .val (.int (Int32.ofNat F)), .val (.int (Int32.ofNat N)), .val (.int n), .val (.int (Int32.ofNat i))] [(.int (XT.ushr ((bs.getD i 0) ^^^ (-1 : Int32)) (7 : Int32))), (.int n)])) (fun t_ k_ => XT.iushr X0.here hx rfl (hb hby d1_149) rfl k_) ?_
      refine own_step (T' := s₁) (g' := (mkF m 151 #[.val (.ref a), .val (.int (Int32.ofNat F)), .val (.int (Int32.ofNat N)), .val (.int n), .val (.int (Int32.ofNat i))] [(.int (1 : Int32)), (.int (XT.ushr ((bs.getD i 0) ^^^ (-1 : Int32)) (7 : Int32))), (.int n)])) (fun t_ k_ => XT.iconstV X0.here hx rfl (1 : Int32) (hb hby d1_150) (by decide) k_) ?_
      refine own_step (T' := s₁) (g' := (mkF m 152 #[.val (.ref a), .val (.int (Int32.ofNat F)), .val (.int (Int32.ofNat N)), .val (.int n), .val (.int (Int32.ofNat i))] [(.int ((XT.ushr ((bs.getD i 0) ^^^ (-1 : Int32)) (7 : Int32)) &&& (1 : Int32))), (.int n)])) (fun t_ k_ => XS.iand X0.here hx rfl (hb hby d1_151) rfl k_) ?_
      refine own_step (T' := s₁) (g' := (mkF m 153 #[.val (.ref a), .val (.int (Int32.ofNat F)), .val (.int (Int32.ofNat N)), .val (.int n), .val (.int (Int32.ofNat i))] [(.int (n + ((XT.ushr ((bs.getD i 0) ^^^ (-1 : Int32)) (7 : Int32)) &&& (1 : Int32))))])) (fun t_ k_ => XS.iadd X0.here hx rfl (hb hby d1_152) rfl k_) ?_
      refine own_step (T' := s₁) (g' := (mkF m 154 #[.val (.ref a), .val (.int (Int32.ofNat F)), .val (.int (Int32.ofNat N)), .val (.int (n + ((XT.ushr ((bs.getD i 0) ^^^ (-1 : Int32)) (7 : Int32)) &&& (1 : Int32)))), .val (.int (Int32.ofNat i))] [])) (fun t_ k_ => XS.istoreN X0.here hx rfl (hb hby d1_153) rfl (l' := #[.val (.ref a), .val (.int (Int32.ofNat F)), .val (.int (Int32.ofNat N)), .val (.int (n + ((XT.ushr ((bs.getD i 0) ^^^ (-1 : Int32)) (7 : Int32)) &&& (1 : Int32)))), .val (.int (Int32.ofNat i))]) rfl k_) ?_
      refine own_step (T' := s₁) (g' := (mkF m 157 #[.val (.ref a), .val (.int (Int32.ofNat F)), .val (.int (Int32.ofNat N)), .val (.int (n + ((XT.ushr ((bs.getD i 0) ^^^ (-1 : Int32)) (7 : Int32)) &&& (1 : Int32)))), .val (.int ((Int32.ofNat i) + (1 : Int32)))] [])) (fun t_ k_ => XT.iincV X0.here hx rfl (1 : Int32) (hb hby d1_154) (by decide) rfl (l' := #[.val (.ref a), .val (.int (Int32.ofNat F)), .val (.int (Int32.ofNat N)), .val (.int (n + ((XT.ushr ((bs.getD i 0) ^^^ (-1 : Int32)) (7 : Int32)) &&& (1 : Int32)))), .val (.int ((Int32.ofNat i) + (1 : Int32)))]) rfl k_) ?_
      refine own_step (T' := s₁) (g' := (mkF m 134 #[.val (.ref a), .val (.int (Int32.ofNat F)), .val (.int (Int32.ofNat N)), .val (.int (n + ((XT.ushr ((bs.getD i 0) ^^^ (-1 : Int32)) (7 : Int32)) &&& (1 : Int32)))), .val (.int ((Int32.ofNat i) + (1 : Int32)))] [])) (fun t_ k_ => XS.goto X0.here hx rfl (pc0 := 157) (pc' := 134) rfl (hb hby d1_157) (by decide) (by decide) k_) ?_
      rw [← inc_ofNat]
      refine ih (i + 1) _ (by omega) ?_
      rw [← hn]
      simp only [own_cnt]
      exact Int32.add_assoc _ _ _
  have loop1 : ∀ (fuel r i : Nat) (n : Int32), r < fuel → i + r = N → n + own_cnt (fun j => own_bit (bs.getD j 0)) i r = own_cnt (fun j => own_bit (bs.getD j 0)) F (N - F) → own_Fin p e below s (Q_1 bs F N h0 n0) 0 0 s₁ (mkF m 5 #[.val (.ref a), .val (.int (Int32.ofNat F)), .val (.int (Int32.ofNat N)), .val (.int n), .val (.int (Int32.ofNat i))] []) := by
    intro fuel
    induction fuel with
    | zero => intro r i n h; omega
    | succ fuel ih =>
      intro r i n hr hi hn
      have ei : (Int32.ofNat i + (8 : Int32)) = Int32.ofNat (i + 8) := (Int32.ofNat_add i 8).symm
      by_cases hc : 8 ≤ r
      · obtain ⟨q, rfl⟩ : ∃ q, r = q + 8 := ⟨r - 8, by omega⟩
        refine own_step (T' := s₁) (g' := (mkF m 7 #[.val (.ref a), .val (.int (Int32.ofNat F)), .val (.int (Int32.ofNat N)), .val (.int n), .val (.int (Int32.ofNat i))] [(.int (Int32.ofNat i))])) (fun t_ k_ => XS.iload X0.here hx rfl (hb hby d1_5) rfl k_) ?_
        refine own_step (T' := s₁) (g' := (mkF m 9 #[.val (.ref a), .val (.int (Int32.ofNat F)), .val (.int (Int32.ofNat N)), .val (.int n), .val (.int (Int32.ofNat i))] [(.int (8 : Int32)), (.int (Int32.ofNat i))])) (fun t_ k_ => XT.bipushV X0.here hx rfl (8 : Int32) (hb hby d1_7) (by decide) k_) ?_
        refine own_step (T' := s₁) (g' := (mkF m 10 #[.val (.ref a), .val (.int (Int32.ofNat F)), .val (.int (Int32.ofNat N)), .val (.int n), .val (.int (Int32.ofNat i))] [(.int ((Int32.ofNat i) + (8 : Int32)))])) (fun t_ k_ => XS.iadd X0.here hx rfl (hb hby d1_9) rfl k_) ?_
        refine own_step (T' := s₁) (g' := (mkF m 11 #[.val (.ref a), .val (.int (Int32.ofNat F)), .val (.int (Int32.ofNat N)), .val (.int n), .val (.int (Int32.ofNat i))] [(.int (Int32.ofNat N)), (.int ((Int32.ofNat i) + (8 : Int32)))])) (fun t_ k_ => XS.iloadN X0.here hx rfl (hb hby d1_10) rfl k_) ?_
        have hk4 : ¬ ((Int32.ofNat N) < ((Int32.ofNat i) + (8 : Int32))) := (fun q => by rw [ei] at q; have := (own_lt (by omega) (by omega)).mp q; omega)
        refine own_step (T' := s₁) (g' := (mkF m 14 #[.val (.ref a), .val (.int (Int32.ofNat F)), .val (.int (Int32.ofNat N)), .val (.int n), .val (.int (Int32.ofNat i))] [])) (fun t_ k_ => XS.icmpNo X0.here hx rfl (hb hby d1_11) rfl (XT.ii_gt_f hk4) k_) ?_
        refine own_step (T' := s₁) (g' := (mkF m 15 #[.val (.ref a), .val (.int (Int32.ofNat F)), .val (.int (Int32.ofNat N)), .val (.int n), .val (.int (Int32.ofNat i))] [(.int n)])) (fun t_ k_ => XS.iloadN X0.here hx rfl (hb hby d1_14) rfl k_) ?_
        refine own_step (T' := s₁) (g' := (mkF m 16 #[.val (.ref a), .val (.int (Int32.ofNat F)), .val (.int (Int32.ofNat N)), .val (.int n), .val (.int (Int32.ofNat i))] [(.ref a), (.int n)])) (fun t_ k_ => XS.aloadN X0.here hx rfl (hb hby d1_15) rfl rfl k_) ?_
        refine own_step (T' := s₁) (g' := (mkF m 18 #[.val (.ref a), .val (.int (Int32.ofNat F)), .val (.int (Int32.ofNat N)), .val (.int n), .val (.int (Int32.ofNat i))] [(.int (Int32.ofNat i)), (.ref a), (.int n)])) (fun t_ k_ => XS.iload X0.here hx rfl (hb hby d1_16) rfl k_) ?_
        have st5 := own_baload (g := (mkF m 18 #[.val (.ref a), .val (.int (Int32.ofNat F)), .val (.int (Int32.ofNat N)), .val (.int n), .val (.int (Int32.ofNat i))] [(.int (Int32.ofNat i)), (.ref a), (.int n)])) X0 hx hZ e0 V0 (v := (.int (bs.getD i 0))) (own_rd (k := i) rfl (by omega) hl).1 (own_rd (k := i) rfl (by omega) hl).2 rfl rfl (hb hby d1_18)
        refine own_step (T' := s₁) (g' := (mkF m 19 #[.val (.ref a), .val (.int (Int32.ofNat F)), .val (.int (Int32.ofNat N)), .val (.int n), .val (.int (Int32.ofNat i))] [(.int (bs.getD i 0)), (.int n)])) st5 ?_
        refine own_step (T' := s₁) (g' := (mkF m 20 #[.val (.ref a), .val (.int (Int32.ofNat F)), .val (.int (Int32.ofNat N)), .val (.int n), .val (.int (Int32.ofNat i))] [(.int (-1 : Int32)), (.int (bs.getD i 0)), (.int n)])) (fun t_ k_ => XT.iconstV X0.here hx rfl (-1 : Int32) (hb hby d1_19) (by decide) k_) ?_
        refine own_step (T' := s₁) (g' := (mkF m 21 #[.val (.ref a), .val (.int (Int32.ofNat F)), .val (.int (Int32.ofNat N)), .val (.int n), .val (.int (Int32.ofNat i))] [(.int ((bs.getD i 0) ^^^ (-1 : Int32))), (.int n)])) (fun t_ k_ => XT.ixor X0.here hx rfl (hb hby d1_20) rfl k_) ?_
        refine own_step (T' := s₁) (g' := (mkF m 23 #[.val (.ref a), .val (.int (Int32.ofNat F)), .val (.int (Int32.ofNat N)), .val (.int n), .val (.int (Int32.ofNat i))] [(.int (7 : Int32)), (.int ((bs.getD i 0) ^^^ (-1 : Int32))), (.int n)])) (fun t_ k_ => XT.bipushV X0.here hx rfl (7 : Int32) (hb hby d1_21) (by decide) k_) ?_
        refine own_step (T' := s₁) (g' := (mkF m 24 #[.val (.ref a), .val (.int (Int32.ofNat F)), .val (.int (Int32.ofNat N)), .val (.int n), .val (.int (Int32.ofNat i))] [(.int (XT.ushr ((bs.getD i 0) ^^^ (-1 : Int32)) (7 : Int32))), (.int n)])) (fun t_ k_ => XT.iushr X0.here hx rfl (hb hby d1_23) rfl k_) ?_
        refine own_step (T' := s₁) (g' := (mkF m 25 #[.val (.ref a), .val (.int (Int32.ofNat F)), .val (.int (Int32.ofNat N)), .val (.int n), .val (.int (Int32.ofNat i))] [(.int (1 : Int32)), (.int (XT.ushr ((bs.getD i 0) ^^^ (-1 : Int32)) (7 : Int32))), (.int n)])) (fun t_ k_ => XT.iconstV X0.here hx rfl (1 : Int32) (hb hby d1_24) (by decide) k_) ?_
        refine own_step (T' := s₁) (g' := (mkF m 26 #[.val (.ref a), .val (.int (Int32.ofNat F)), .val (.int (Int32.ofNat N)), .val (.int n), .val (.int (Int32.ofNat i))] [(.int ((XT.ushr ((bs.getD i 0) ^^^ (-1 : Int32)) (7 : Int32)) &&& (1 : Int32))), (.int n)])) (fun t_ k_ => XS.iand X0.here hx rfl (hb hby d1_25) rfl k_) ?_
        refine own_step (T' := s₁) (g' := (mkF m 27 #[.val (.ref a), .val (.int (Int32.ofNat F)), .val (.int (Int32.ofNat N)), .val (.int n), .val (.int (Int32.ofNat i))] [(.ref a), (.int ((XT.ushr ((bs.getD i 0) ^^^ (-1 : Int32)) (7 : Int32)) &&& (1 : Int32))), (.int n)])) (fun t_ k_ => XS.aloadN X0.here hx rfl (hb hby d1_26) rfl rfl k_) ?_
        refine own_step (T' := s₁) (g' := (mkF m 29 #[.val (.ref a), .val (.int (Int32.ofNat F)), .val (.int (Int32.ofNat N)), .val (.int n), .val (.int (Int32.ofNat i))] [(.int (Int32.ofNat i)), (.ref a), (.int ((XT.ushr ((bs.getD i 0) ^^^ (-1 : Int32)) (7 : Int32)) &&& (1 : Int32))), (.int n)])) (fun t_ k_ => XS.iload X0.here hx rfl (hb hby d1_27) rfl k_) ?_
        refine own_step (T' := s₁) (g' := (mkF m 30 #[.val (.ref a), .val (.int (Int32.ofNat F)), .val (.int (Int32.ofNat N)), .val (.int n), .val (.int (Int32.ofNat i))] [(.int (1 : Int32)), (.int (Int32.ofNat i)), (.ref a), (.int ((XT.ushr ((bs.getD i 0) ^^^ (-1 : Int32)) (7 : Int32)) &&& (1 : Int32))), (.int n)])) (fun t_ k_ => XT.iconstV X0.here hx rfl (1 : Int32) (hb hby d1_29) (by decide) k_) ?_
        refine own_step (T' := s₁) (g' := (mkF m 31 #[.val (.ref a), .val (.int (Int32.ofNat F)), .val (.int (Int32.ofNat N)), .val (.int n), .val (.int (Int32.ofNat i))] [(.int ((Int32.ofNat i) + (1 : Int32))), (.ref a), (.int ((XT.ushr ((bs.getD i 0) ^^^ (-1 : Int32)) (7 : Int32)) &&& (1 : Int32))), (.int n)])) (fun t_ k_ => XS.iadd X0.here hx rfl (hb hby d1_30) rfl k_) ?_
        have st6 := own_baload (g := (mkF m 31 #[.val (.ref a), .val (.int (Int32.ofNat F)), .val (.int (Int32.ofNat N)), .val (.int n), .val (.int (Int32.ofNat i))] [(.int ((Int32.ofNat i) + (1 : Int32))), (.ref a), (.int ((XT.ushr ((bs.getD i 0) ^^^ (-1 : Int32)) (7 : Int32)) &&& (1 : Int32))), (.int n)])) X0 hx hZ e0 V0 (v := (.int (bs.getD (i + 1) 0))) (own_rd (k := i + 1) (Int32.ofNat_add i 1).symm (by omega) hl).1 (own_rd (k := i + 1) (Int32.ofNat_add i 1).symm (by omega) hl).2 rfl rfl (hb hby d1_31)
        refine own_step (T' := s₁) (g' := (mkF m 32 #[.val (.ref a), .val (.int (Int32.ofNat F)), .val (.int (Int32.ofNat N)), .val (.int n), .val (.int (Int32.ofNat i))] [(.int (bs.getD (i + 1) 0)), (.int ((XT.ushr ((bs.getD i 0) ^^^ (-1 : Int32)) (7 : Int32)) &&& (1 : Int32))), (.int n)])) st6 ?_
        refine own_step (T' := s₁) (g' := (mkF m 33 #[.val (.ref a), .val (.int (Int32.ofNat F)), .val (.int (Int32.ofNat N)), .val (.int n), .val (.int (Int32.ofNat i))] [(.int (-1 : Int32)), (.int (bs.getD (i + 1) 0)), (.int ((XT.ushr ((bs.getD i 0) ^^^ (-1 : Int32)) (7 : Int32)) &&& (1 : Int32))), (.int n)])) (fun t_ k_ => XT.iconstV X0.here hx rfl (-1 : Int32) (hb hby d1_32) (by decide) k_) ?_
        refine own_step (T' := s₁) (g' := (mkF m 34 #[.val (.ref a), .val (.int (Int32.ofNat F)), .val (.int (Int32.ofNat N)), .val (.int n), .val (.int (Int32.ofNat i))] [(.int ((bs.getD (i + 1) 0) ^^^ (-1 : Int32))), (.int ((XT.ushr ((bs.getD i 0) ^^^ (-1 : Int32)) (7 : Int32)) &&& (1 : Int32))), (.int n)])) (fun t_ k_ => XT.ixor X0.here hx rfl (hb hby d1_33) rfl k_) ?_
        refine own_step (T' := s₁) (g' := (mkF m 36 #[.val (.ref a), .val (.int (Int32.ofNat F)), .val (.int (Int32.ofNat N)), .val (.int n), .val (.int (Int32.ofNat i))] [(.int (7 : Int32)), (.int ((bs.getD (i + 1) 0) ^^^ (-1 : Int32))), (.int ((XT.ushr ((bs.getD i 0) ^^^ (-1 : Int32)) (7 : Int32)) &&& (1 : Int32))), (.int n)])) (fun t_ k_ => XT.bipushV X0.here hx rfl (7 : Int32) (hb hby d1_34) (by decide) k_) ?_
        refine own_step (T' := s₁) (g' := (mkF m 37 #[.val (.ref a), .val (.int (Int32.ofNat F)), .val (.int (Int32.ofNat N)), .val (.int n), .val (.int (Int32.ofNat i))] [(.int (XT.ushr ((bs.getD (i + 1) 0) ^^^ (-1 : Int32)) (7 : Int32))), (.int ((XT.ushr ((bs.getD i 0) ^^^ (-1 : Int32)) (7 : Int32)) &&& (1 : Int32))), (.int n)])) (fun t_ k_ => XT.iushr X0.here hx rfl (hb hby d1_36) rfl k_) ?_
        refine own_step (T' := s₁) (g' := (mkF m 38 #[.val (.ref a), .val (.int (Int32.ofNat F)), .val (.int (Int32.ofNat N)), .val (.int n), .val (.int (Int32.ofNat i))] [(.int (1 : Int32)), (.int (XT.ushr ((bs.getD (i + 1) 0) ^^^ (-1 : Int32)) (7 : Int32))), (.int ((XT.ushr ((bs.getD i 0) ^^^ (-1 : Int32)) (7 : Int32)) &&& (1 : Int32))), (.int n)])) (fun t_ k_ => XT.iconstV X0.here hx rfl (1 : Int32) (hb hby d1_37) (by decide) k_) ?_
        refine own_step (T' := s₁) (g' := (mkF m 39 #[.val (.ref a), .val (.int (Int32.ofNat F)), .val (.int (Int32.ofNat N)), .val (.int n), .val (.int (Int32.ofNat i))] [(.int ((XT.ushr ((bs.getD (i + 1) 0) ^^^ (-1 : Int32)) (7 : Int32)) &&& (1 : Int32))), (.int ((XT.ushr ((bs.getD i 0) ^^^ (-1 : Int32)) (7 : Int32)) &&& (1 : Int32))), (.int n)])) (fun t_ k_ => XS.iand X0.here hx rfl (hb hby d1_38) rfl k_) ?_
        refine own_step (T' := s₁) (g' := (mkF m 40 #[.val (.ref a), .val (.int (Int32.ofNat F)), .val (.int (Int32.ofNat N)), .val (.int n), .val (.int (Int32.ofNat i))] [(.int (((XT.ushr ((bs.getD i 0) ^^^ (-1 : Int32)) (7 : Int32)) &&& (1 : Int32)) + ((XT.ushr ((bs.getD (i + 1) 0) ^^^ (-1 : Int32)) (7 : Int32)) &&& (1 : Int32)))), (.int n)])) (fun t_ k_ => XS.iadd X0.here hx rfl (hb hby d1_39) rfl k_) ?_
        refine own_step (T' := s₁) (g' := (mkF m 41 #[.val (.ref a), .val (.int (Int32.ofNat F)), .val (.int (Int32.ofNat N)), .val (.int n), .val (.int (Int32.ofNat i))] [(.ref a), (.int (((XT.ushr ((bs.getD i 0) ^^^ (-1 : Int32)) (7 : Int32)) &&& (1 : Int32)) + ((XT.ushr ((bs.getD (i + 1) 0) ^^^ (-1 : Int32)) (7 : Int32)) &&& (1 : Int32)))), (.int n)])) (fun t_ k_ => XS.aloadN X0.here hx rfl (hb hby d1_40) rfl rfl k_) ?_
        refine own_step (T' := s₁) (g' := (mkF m 43 #[.val (.ref a), .val (.int (Int32.ofNat F)), .val (.int (Int32.ofNat N)), .val (.int n), .val (.int (Int32.ofNat i))] [(.int (Int32.ofNat i)), (.ref a), (.int (((XT.ushr ((bs.getD i 0) ^^^ (-1 : Int32)) (7 : Int32)) &&& (1 : Int32)) + ((XT.ushr ((bs.getD (i + 1) 0) ^^^ (-1 : Int32)) (7 : Int32)) &&& (1 : Int32)))), (.int n)])) (fun t_ k_ => XS.iload X0.here hx rfl (hb hby d1_41) rfl k_) ?_
        refine own_step (T' := s₁) (g' := (mkF m 44 #[.val (.ref a), .val (.int (Int32.ofNat F)), .val (.int (Int32.ofNat N)), .val (.int n), .val (.int (Int32.ofNat i))] [(.int (2 : Int32)), (.int (Int32.ofNat i)), (.ref a), (.int (((XT.ushr ((bs.getD i 0) ^^^ (-1 : Int32)) (7 : Int32)) &&& (1 : Int32)) + ((XT.ushr ((bs.getD (i + 1) 0) ^^^ (-1 : Int32)) (7 : Int32)) &&& (1 : Int32)))), (.int n)])) (fun t_ k_ => XT.iconstV X0.here hx rfl (2 : Int32) (hb hby d1_43) (by decide) k_) ?_
        refine own_step (T' := s₁) (g' := (mkF m 45 #[.val (.ref a), .val (.int (Int32.ofNat F)), .val (.int (Int32.ofNat N)), .val (.int n), .val (.int (Int32.ofNat i))] [(.int ((Int32.ofNat i) + (2 : Int32))), (.ref a), (.int (((XT.ushr ((bs.getD i 0) ^^^ (-1 : Int32)) (7 : Int32)) &&& (1 : Int32)) + ((XT.ushr ((bs.getD (i + 1) 0) ^^^ (-1 : Int32)) (7 : Int32)) &&& (1 : Int32)))), (.int n)])) (fun t_ k_ => XS.iadd X0.here hx rfl (hb hby d1_44) rfl k_) ?_
        have st7 := own_baload (g := (mkF m 45 #[.val (.ref a), .val (.int (Int32.ofNat F)), .val (.int (Int32.ofNat N)), .val (.int n), .val (.int (Int32.ofNat i))] [(.int ((Int32.ofNat i) + (2 : Int32))), (.ref a), (.int (((XT.ushr ((bs.getD i 0) ^^^ (-1 : Int32)) (7 : Int32)) &&& (1 : Int32)) + ((XT.ushr ((bs.getD (i + 1) 0) ^^^ (-1 : Int32)) (7 : Int32)) &&& (1 : Int32)))), (.int n)])) X0 hx hZ e0 V0 (v := (.int (bs.getD (i + 2) 0))) (own_rd (k := i + 2) (Int32.ofNat_add i 2).symm (by omega) hl).1 (own_rd (k := i + 2) (Int32.ofNat_add i 2).symm (by omega) hl).2 rfl rfl (hb hby d1_45)
        refine own_step (T' := s₁) (g' := (mkF m 46 #[.val (.ref a), .val (.int (Int32.ofNat F)), .val (.int (Int32.ofNat N)), .val (.int n), .val (.int (Int32.ofNat i))] [(.int (bs.getD (i + 2) 0)), (.int (((XT.ushr ((bs.getD i 0) ^^^ (-1 : Int32)) (7 : Int32)) &&& (1 : Int32)) + ((XT.ushr ((bs.getD (i + 1) 0) ^^^ (-1 : Int32)) (7 : Int32)) &&& (1 : Int32)))), (.int n)])) st7 ?_
        refine own_step (T' := s₁) (g' := (mkF m 47 #[.val (.ref a), .val (.int (Int32.ofNat F)), .val (.int (Int32.ofNat N)), .val (.int n), .val (.int (Int32.ofNat i))] [(.int (-1 : Int32)), (.int (bs.getD (i + 2) 0)), (.int (((XT.ushr ((bs.getD i 0) ^^^ (-1 : Int32)) (7 : Int32)) &&& (1 : Int32)) + ((XT.ushr ((bs.getD (i + 1) 0) ^^^ (-1 : Int32)) (7 : Int32)) &&& (1 : Int32)))), (.int n)])) (fun t_ k_ => XT.iconstV X0.here hx rfl (-1 : Int32) (hb hby d1_46) (by decide) k_) ?_
        refine own_step (T' := s₁) (g' := (mkF m 48 #[.val (.ref a), .val (.int (Int32.ofNat F)), .val (.int (Int32.ofNat N)), .val (.int n), .val (.int (Int32.ofNat i))] [(.int ((bs.getD (i + 2) 0) ^^^ (-1 : Int32))), (.int (((XT.ushr ((bs.getD i 0) ^^^ (-1 : Int32)) (7 : Int32)) &&& (1 : Int32)) + ((XT.ushr ((bs.getD (i + 1) 0) ^^^ (-1 : Int32)) (7 : Int32)) &&& (1 : Int32)))), (.int n)])) (fun t_ k_ => XT.ixor X0.here hx rfl (hb hby d1_47) rfl k_) ?_
        refine own_step (T' := s₁) (g' := (mkF m 50 #[.val (.ref a), .val (.int (Int32.ofNat F)), .val (.int (Int32.ofNat N)), .val (.int n), .val (.int (Int32.ofNat i))] [(.int (7 : Int32)), (.int ((bs.getD (i + 2) 0) ^^^ (-1 : Int32))), (.int (((XT.ushr ((bs.getD i 0) ^^^ (-1 : Int32)) (7 : Int32)) &&& (1 : Int32)) + ((XT.ushr ((bs.getD (i + 1) 0) ^^^ (-1 : Int32)) (7 : Int32)) &&& (1 : Int32)))), (.int n)])) (fun t_ k_ => XT.bipushV X0.here hx rfl (7 : Int32) (hb hby d1_48) (by decide) k_) ?_
        refine own_step (T' := s₁) (g' := (mkF m 51 #[.val (.ref a), .val (.int (Int32.ofNat F)), .val (.int (Int32.ofNat N)), .val (.int n), .val (.int (Int32.ofNat i))] [(.int (XT.ushr ((bs.getD (i + 2) 0) ^^^ (-1 : Int32)) (7 : Int32))), (.int (((XT.ushr ((bs.getD i 0) ^^^ (-1 : Int32)) (7 : Int32)) &&& (1 : Int32)) + ((XT.ushr ((bs.getD (i + 1) 0) ^^^ (-1 : Int32)) (7 : Int32)) &&& (1 : Int32)))), (.int n)])) (fun t_ k_ => XT.iushr X0.here hx rfl (hb hby d1_50) rfl k_) ?_
        refine own_step (T' := s₁) (g' := (mkF m 52 #[.val (.ref a), .val (.int (Int32.ofNat F)), .val (.int (Int32.ofNat N)), .val (.int n), .val (.int (Int32.ofNat i))] [(.int (1 : Int32)), (.int (XT.ushr ((bs.getD (i + 2) 0) ^^^ (-1 : Int32)) (7 : Int32))), (.int (((XT.ushr ((bs.getD i 0) ^^^ (-1 : Int32)) (7 : Int32)) &&& (1 : Int32)) + ((XT.ushr ((bs.getD (i + 1) 0) ^^^ (-1 : Int32)) (7 : Int32)) &&& (1 : Int32)))), (.int n)])) (fun t_ k_ => XT.iconstV X0.here hx rfl (1 : Int32) (hb hby d1_51) (by decide) k_) ?_
        refine own_step (T' := s₁) (g' := (mkF m 53 #[.val (.ref a), .val (.int (Int32.ofNat F)), .val (.int (Int32.ofNat N)), .val (.int n), .val (.int (Int32.ofNat i))] [(.int ((XT.ushr ((bs.getD (i + 2) 0) ^^^ (-1 : Int32)) (7 : Int32)) &&& (1 : Int32))), (.int (((XT.ushr ((bs.getD i 0) ^^^ (-1 : Int32)) (7 : Int32)) &&& (1 : Int32)) + ((XT.ushr ((bs.getD (i + 1) 0) ^^^ (-1 : Int32)) (7 : Int32)) &&& (1 : Int32)))), (.int n)])) (fun t_ k_ => XS.iand X0.here hx rfl (hb hby d1_52) rfl k_) ?_
        refine own_step (T' := s₁) (g' := (mkF m 54 #[.val (.ref a), .val (.int (Int32.ofNat F)), .val (.int (Int32.ofNat N)), .val (.int n), .val (.int (Int32.ofNat i))] [(.int ((((XT.ushr ((bs.getD i 0) ^^^ (-1 : Int32)) (7 : Int32)) &&& (1 : Int32)) + ((XT.ushr ((bs.getD (i + 1) 0) ^^^ (-1 : Int32)) (7 : Int32)) &&& (1 : Int32))) + ((XT.ushr ((bs.getD (i + 2) 0) ^^^ (-1 : Int32)) (7 : Int32)) &&& (1 : Int32)))), (.int n)])) (fun t_ k_ => XS.iadd X0.here hx rfl (hb hby d1_53) rfl k_) ?_
        refine own_step (T' := s₁) (g' := (mkF m 55 #[.val (.ref a), .val (.int (Int32.ofNat F)), .val (.int (Int32.ofNat N)), .val (.int n), .val (.int (Int32.ofNat i))] [(.ref a), (.int ((((XT.ushr ((bs.getD i 0) ^^^ (-1 : Int32)) (7 : Int32)) &&& (1 : Int32)) + ((XT.ushr ((bs.getD (i + 1) 0) ^^^ (-1 : Int32)) (7 : Int32)) &&& (1 : Int32))) + ((XT.ushr ((bs.getD (i + 2) 0) ^^^ (-1 : Int32)) (7 : Int32)) &&& (1 : Int32)))), (.int n)])) (fun t_ k_ => XS.aloadN X0.here hx rfl (hb hby d1_54) rfl rfl k_) ?_
        refine own_step (T' := s₁) (g' := (mkF m 57 #[.val (.ref a), .val (.int (Int32.ofNat F)), .val (.int (Int32.ofNat N)), .val (.int n), .val (.int (Int32.ofNat i))] [(.int (Int32.ofNat i)), (.ref a), (.int ((((XT.ushr ((bs.getD i 0) ^^^ (-1 : Int32)) (7 : Int32)) &&& (1 : Int32)) + ((XT.ushr ((bs.getD (i + 1) 0) ^^^ (-1 : Int32)) (7 : Int32)) &&& (1 : Int32))) + ((XT.ushr ((bs.getD (i + 2) 0) ^^^ (-1 : Int32)) (7 : Int32)) &&& (1 : Int32)))), (.int n)])) (fun t_ k_ => XS.iload X0.here hx rfl (hb hby d1_55) rfl k_) ?_
        refine own_step (T' := s₁) (g' := (mkF m 58 #[.val (.ref a), .val (.int (Int32.ofNat F)), .val (.int (Int32.ofNat N)), .val (.int n), .val (.int (Int32.ofNat i))] [(.int (3 : Int32)), (.int (Int32.ofNat i)), (.ref a), (.int ((((XT.ushr ((bs.getD i 0) ^^^ (-1 : Int32)) (7 : Int32)) &&& (1 : Int32)) + ((XT.ushr ((bs.getD (i + 1) 0) ^^^ (-1 : Int32)) (7 : Int32)) &&& (1 : Int32))) + ((XT.ushr ((bs.getD (i + 2) 0) ^^^ (-1 : Int32)) (7 : Int32)) &&& (1 : Int32)))), (.int n)])) (fun t_ k_ => XT.iconstV X0.here hx rfl (3 : Int32) (hb hby d1_57) (by decide) k_) ?_
        refine own_step (T' := s₁) (g' := (mkF m 59 #[.val (.ref a), .val (.int (Int32.ofNat F)), .val (.int (Int32.ofNat N)), .val (.int n), .val (.int (Int32.ofNat i))] [(.int ((Int32.ofNat i) + (3 : Int32))), (.ref a), (.int ((((XT.ushr ((bs.getD i 0) ^^^ (-1 : Int32)) (7 : Int32)) &&& (1 : Int32)) + ((XT.ushr ((bs.getD (i + 1) 0) ^^^ (-1 : Int32)) (7 : Int32)) &&& (1 : Int32))) + ((XT.ushr ((bs.getD (i + 2) 0) ^^^ (-1 : Int32)) (7 : Int32)) &&& (1 : Int32)))), (.int n)])) (fun t_ k_ => XS.iadd X0.here hx rfl (hb hby d1_58) rfl k_) ?_
        have st8 := own_baload (g := (mkF m 59 #[.val (.ref a), .val (.int (Int32.ofNat F)), .val (.int (Int32.ofNat N)), .val (.int n), .val (.int (Int32.ofNat i))] [(.int ((Int32.ofNat i) + (3 : Int32))), (.ref a), (.int ((((XT.ushr ((bs.getD i 0) ^^^ (-1 : Int32)) (7 : Int32)) &&& (1 : Int32)) + ((XT.ushr ((bs.getD (i + 1) 0) ^^^ (-1 : Int32)) (7 : Int32)) &&& (1 : Int32))) + ((XT.ushr ((bs.getD (i + 2) 0) ^^^ (-1 : Int32)) (7 : Int32)) &&& (1 : Int32)))), (.int n)])) X0 hx hZ e0 V0 (v := (.int (bs.getD (i + 3) 0))) (own_rd (k := i + 3) (Int32.ofNat_add i 3).symm (by omega) hl).1 (own_rd (k := i + 3) (Int32.ofNat_add i 3).symm (by omega) hl).2 rfl rfl (hb hby d1_59)
        refine own_step (T' := s₁) (g' := (mkF m 60 #[.val (.ref a), .val (.int (Int32.ofNat F)), .val (.int (Int32.ofNat N)), .val (.int n), .val (.int (Int32.ofNat i))] [(.int (bs.getD (i + 3) 0)), (.int ((((XT.ushr ((bs.getD i 0) ^^^ (-1 : Int32)) (7 : Int32)) &&& (1 : Int32)) + ((XT.ushr ((bs.getD (i + 1) 0) ^^^ (-1 : Int32)) (7 : Int32)) &&& (1 : Int32))) + ((XT.ushr ((bs.getD (i + 2) 0) ^^^ (-1 : Int32)) (7 : Int32)) &&& (1 : Int32)))), (.int n)])) st8 ?_
        refine own_step (T' := s₁) (g' := (mkF m 61 #[.val (.ref a), .val (.int (Int32.ofNat F)), .val (.int (Int32.ofNat N)), .val (.int n), .val (.int (Int32.ofNat i))] [(.int (-1 : Int32)), (.int (bs.getD (i + 3) 0)), (.int ((((XT.ushr ((bs.getD i 0) ^^^ (-1 : Int32)) (7 : Int32)) &&& (1 : Int32)) + ((XT.ushr ((bs.getD (i + 1) 0) ^^^ (-1 : Int32)) (7 : Int32)) &&& (1 : Int32))) + ((XT.ushr ((bs.getD (i + 2) 0) ^^^ (-1 : Int32)) (7 : Int32)) &&& (1 : Int32)))), (.int n)])) (fun t_ k_ => XT.iconstV X0.here hx rfl (-1 : Int32) (hb hby d1_60) (by decide) k_) ?_
        refine own_step (T' := s₁) (g' := (mkF m 62 #[.val (.ref a), .val (.int (Int32.ofNat F)), .val (.int (Int32.ofNat N)), .val (.int n), .val (.int (Int32.ofNat i))] [(.int ((bs.getD (i + 3) 0) ^^^ (-1 : Int32))), (.int ((((XT.ushr ((bs.getD i 0) ^^^ (-1 : Int32)) (7 : Int32)) &&& (1 : Int32)) + ((XT.ushr ((bs.getD (i + 1) 0) ^^^ (-1 : Int32)) (7 : Int32)) &&& (1 : Int32))) + ((XT.ushr ((bs.getD (i + 2) 0) ^^^ (-1 : Int32)) (7 : Int32)) &&& (1 : Int32)))), (.int n)])) (fun t_ k_ => XT.ixor X0.here hx rfl (hb hby d1_61) rfl k_) ?_
        refine own_step (T' := s₁) (g' := (mkF m 64 #[.val (.ref a), .val (.int (Int32.ofNat F)), .val (.int (Int32.ofNat N)), .val (.int n), .val (.int (Int32.ofNat i))] [(.int (7 : Int32)), (.int ((bs.getD (i + 3) 0) ^^^ (-1 : Int32))), (.int ((((XT.ushr ((bs.getD i 0) ^^^ (-1 : Int32)) (7 : Int32)) &&& (1 : Int32)) + ((XT.ushr ((bs.getD (i + 1) 0) ^^^ (-1 : Int32)) (7 : Int32)) &&& (1 : Int32))) + ((XT.ushr ((bs.getD (i + 2) 0) ^^^ (-1 : Int32)) (7 : Int32)) &&& (1 : Int32)))), (.int n)])) (fun t_ k_ => XT.bipushV X0.here hx rfl (7 : Int32) (hb hby d1_62) (by decide) k_) ?_
        refine own_step (T' := s₁) (g' := (mkF m 65 #[.val (.ref a), .val (.int (Int32.ofNat F)), .val (.int (Int32.ofNat N)), .val (.int n), .val (.int (Int32.ofNat i))] [(.int (XT.ushr ((bs.getD (i + 3) 0) ^^^ (-1 : Int32)) (7 : Int32))), (.int ((((XT.ushr ((bs.getD i 0) ^^^ (-1 : Int32)) (7 : Int32)) &&& (1 : Int32)) + ((XT.ushr ((bs.getD (i + 1) 0) ^^^ (-1 : Int32)) (7 : Int32)) &&& (1 : Int32))) + ((XT.ushr ((bs.getD (i + 2) 0) ^^^ (-1 : Int32)) (7 : Int32)) &&& (1 : Int32)))), (.int n)])) (fun t_ k_ => XT.iushr X0.here hx rfl (hb hby d1_64) rfl k_) ?_
        refine own_step (T' := s₁) (g' := (mkF m 66 #[.val (.ref a), .val (.int (Int32.ofNat F)), .val (.int (Int32.ofNat N)), .val (.int n), .val (.int (Int32.ofNat i))] [(.int (1 : Int32)), (.int (XT.ushr ((bs.getD (i + 3) 0) ^^^ (-1 : Int32)) (7 : Int32))), (.int ((((XT.ushr ((bs.getD i 0) ^^^ (-1 : Int32)) (7 : Int32)) &&& (1 : Int32)) + ((XT.ushr ((bs.getD (i + 1) 0) ^^^ (-1 : Int32)) (7 : Int32)) &&& (1 : Int32))) + ((XT.ushr ((bs.getD (i + 2) 0) ^^^ (-1 : Int32)) (7 : Int32)) &&& (1 : Int32)))), (.int n)])) (fun t_ k_ => XT.iconstV X0.here hx rfl (1 : Int32) (hb hby d1_65) (by decide) k_) ?_
        refine own_step (T' := s₁) (g' := (mkF m 67 #[.val (.ref a), .val (.int (Int32.ofNat F)), .val (.int (Int32.ofNat N)), .val (.int n), .val (.int (Int32.ofNat i))] [(.int ((XT.ushr ((bs.getD (i + 3) 0) ^^^ (-1 : Int32)) (7 : Int32)) &&& (1 : Int32))), (.int ((((XT.ushr ((bs.getD i 0) ^^^ (-1 : Int32)) (7 : Int32)) &&& (1 : Int32)) + ((XT.ushr ((bs.getD (i + 1) 0) ^^^ (-1 : Int32)) (7 : Int32)) &&& (1 : Int32))) + ((XT.ushr ((bs.getD (i + 2) 0) ^^^ (-1 : Int32)) (7 : Int32)) &&& (1 : Int32)))), (.int n)])) (fun t_ k_ => XS.iand X0.here hx rfl (hb hby d1_66) rfl k_) ?_
        refine own_step (T' := s₁) (g' := (mkF m 68 #[.val (.ref a), .val (.int (Int32.ofNat F)), .val (.int (Int32.ofNat N)), .val (.int n), .val (.int (Int32.ofNat i))] [(.int (((((XT.ushr ((bs.getD i 0) ^^^ (-1 : Int32)) (7 : Int32)) &&& (1 : Int32)) + ((XT.ushr ((bs.getD (i + 1) 0) ^^^ (-1 : Int32)) (7 : Int32)) &&& (1 : Int32))) + ((XT.ushr ((bs.getD (i + 2) 0) ^^^ (-1 : Int32)) (7 : Int32)) &&& (1 : Int32))) + ((XT.ushr ((bs.getD (i + 3) 0) ^^^ (-1 : Int32)) (7 : Int32)) &&& (1 : Int32)))), (.int n)])) (fun t_ k_ => XS.iadd X0.here hx rfl (hb hby d1_67) rfl k_) ?_
        refine own_step (T' := s₁) (g' := (mkF m 69 #[.val (.ref a), .val (.int (Int32.ofNat F)), .val (.int (Int32.ofNat N)), .val (.int n), .val (.int (Int32.ofNat i))] [(.ref a), (.int (((((XT.ushr ((bs.getD i 0) ^^^ (-1 : Int32)) (7 : Int32)) &&& (1 : Int32)) + ((XT.ushr ((bs.getD (i + 1) 0) ^^^ (-1 : Int32)) (7 : Int32)) &&& (1 : Int32))) + ((XT.ushr ((bs.getD (i + 2) 0) ^^^ (-1 : Int32)) (7 : Int32)) &&& (1 : Int32))) + ((XT.ushr ((bs.getD (i + 3) 0) ^^^ (-1 : Int32)) (7 : Int32)) &&& (1 : Int32)))), (.int n)])) (fun t_ k_ => XS.aloadN X0.here hx rfl (hb hby d1_68) rfl rfl k_) ?_
        refine own_step (T' := s₁) (g' := (mkF m 71 #[.val (.ref a), .val (.int (Int32.ofNat F)), .val (.int (Int32.ofNat N)), .val (.int n), .val (.int (Int32.ofNat i))] [(.int (Int32.ofNat i)), (.ref a), (.int (((((XT.ushr ((bs.getD i 0) ^^^ (-1 : Int32)) (7 : Int32)) &&& (1 : Int32)) + ((XT.ushr ((bs.getD (i + 1) 0) ^^^ (-1 : Int32)) (7 : Int32)) &&& (1 : Int32))) + ((XT.ushr ((bs.getD (i + 2) 0) ^^^ (-1 : Int32)) (7 : Int32)) &&& (1 : Int32))) + ((XT.ushr ((bs.getD (i + 3) 0) ^^^ (-1 : Int32)) (7 : Int32)) &&& (1 : Int32)))), (.int n)])) (fun t_ k_ => XS.iload X0.here hx rfl (hb hby d1_69) rfl k_) ?_
        refine own_step (T' := s₁) (g' := (mkF m 72 #[.val (.ref a), .val (.int (Int32.ofNat F)), .val (.int (Int32.ofNat N)), .val (.int n), .val (.int (Int32.ofNat i))] [(.int (4 : Int32)), (.int (Int32.ofNat i)), (.ref a), (.int (((((XT.ushr ((bs.getD i 0) ^^^ (-1 : Int32)) (7 : Int32)) &&& (1 : Int32)) + ((XT.ushr ((bs.getD (i + 1) 0) ^^^ (-1 : Int32)) (7 : Int32)) &&& (1 : Int32))) + ((XT.ushr ((bs.getD (i + 2) 0) ^^^ (-1 : Int32)) (7 : Int32)) &&& (1 : Int32))) + ((XT.ushr ((bs.getD (i + 3) 0) ^^^ (-1 : Int32)) (7 : Int32)) &&& (1 : Int32)))), (.int n)])) (fun t_ k_ => XT.iconstV X0.here hx rfl (4 : Int32) (hb hby d1_71) (by decide) k_) ?_
        refine own_step (T' := s₁) (g' := (mkF m 73 #[.val (.ref a), .val (.int (Int32.ofNat F)), .val (.int (Int32.ofNat N)), .val (.int n), .val (.int (Int32.ofNat i))] [(.int ((Int32.ofNat i) + (4 : Int32))), (.ref a), (.int (((((XT.ushr ((bs.getD i 0) ^^^ (-1 : Int32)) (7 : Int32)) &&& (1 : Int32)) + ((XT.ushr ((bs.getD (i + 1) 0) ^^^ (-1 : Int32)) (7 : Int32)) &&& (1 : Int32))) + ((XT.ushr ((bs.getD (i + 2) 0) ^^^ (-1 : Int32)) (7 : Int32)) &&& (1 : Int32))) + ((XT.ushr ((bs.getD (i + 3) 0) ^^^ (-1 : Int32)) (7 : Int32)) &&& (1 : Int32)))), (.int n)])) (fun t_ k_ => XS.iadd X0.here hx rfl (hb hby d1_72) rfl k_) ?_
        have st9 := own_baload (g := (mkF m 73 #[.val (.ref a), .val (.int (Int32.ofNat F)), .val (.int (Int32.ofNat N)), .val (.int n), .val (.int (Int32.ofNat i))] [(.int ((Int32.ofNat i) + (4 : Int32))), (.ref a), (.int (((((XT.ushr ((bs.getD i 0) ^^^ (-1 : Int32)) (7 : Int32)) &&& (1 : Int32)) + ((XT.ushr ((bs.getD (i + 1) 0) ^^^ (-1 : Int32)) (7 : Int32)) &&& (1 : Int32))) + ((XT.ushr ((bs.getD (i + 2) 0) ^^^ (-1 : Int32)) (7 : Int32)) &&& (1 : Int32))) + ((XT.ushr ((bs.getD (i + 3) 0) ^^^ (-1 : Int32)) (7 : Int32)) &&& (1 : Int32)))), (.int n)])) X0 hx hZ e0 V0 (v := (.int (bs.getD (i + 4) 0))) (own_rd (k := i + 4) (Int32.ofNat_add i 4).symm (by omega) hl).1 (own_rd (k := i + 4) (Int32.ofNat_add i 4).symm (by omega) hl).2 rfl rfl (hb hby d1_73)
        refine own_step (T' := s₁) (g' := (mkF m 74 #[.val (.ref a), .val (.int (Int32.ofNat F)), .val (.int (Int32.ofNat N)), .val (.int n), .val (.int (Int32.ofNat i))] [(.int (bs.getD (i + 4) 0)), (.int (((((XT.ushr ((bs.getD i 0) ^^^ (-1 : Int32)) (7 : Int32)) &&& (1 : Int32)) + ((XT.ushr ((bs.getD (i + 1) 0) ^^^ (-1 : Int32)) (7 : Int32)) &&& (1 : Int32))) + ((XT.ushr ((bs.getD (i + 2) 0) ^^^ (-1 : Int32)) (7 : Int32)) &&& (1 : Int32))) + ((XT.ushr ((bs.getD (i + 3) 0) ^^^ (-1 : Int32)) (7 : Int32)) &&& (1 : Int32)))), (.int n)])) st9 ?_
        refine own_step (T' := s₁) (g' := (mkF m 75 #[.val (.ref a), .val (.int (Int32.ofNat F)), .val (.int (Int32.ofNat N)), .val (.int n), .val (.int (Int32.ofNat i))] [(.int (-1 : Int32)), (.int (bs.getD (i + 4) 0)), (.int (((((XT.ushr ((bs.getD i 0) ^^^ (-1 : Int32)) (7 : Int32)) &&& (1 : Int32)) + ((XT.ushr ((bs.getD (i + 1) 0) ^^^ (-1 : Int32)) (7 : Int32)) &&& (1 : Int32))) + ((XT.ushr ((bs.getD (i + 2) 0) ^^^ (-1 : Int32)) (7 : Int32)) &&& (1 : Int32))) + ((XT.ushr ((bs.getD (i + 3) 0) ^^^ (-1 : Int32)) (7 : Int32)) &&& (1 : Int32)))), (.int n)])) (fun t_ k_ => XT.iconstV X0.here hx rfl (-1 : Int32) (hb hby d1_74) (by decide) k_) ?_
        refine own_step (T' := s₁) (g' := (mkF m 76 #[.val (.ref a), .val (.int (Int32.ofNat F)), .val (.int (Int32.ofNat N)), .val (.int n), .val (.int (Int32.ofNat i))] [(.int ((bs.getD (i + 4) 0) ^^^ (-1 : Int32))), (.int (((((XT.ushr ((bs.getD i 0) ^^^ (-1 : Int32)) (7 : Int32)) &&& (1 : Int32)) + ((XT.ushr ((bs.getD (i + 1) 0) ^^^ (-1 : Int32)) (7 : Int32)) &&& (1 : Int32))) + ((XT.ushr ((bs.getD (i + 2) 0) ^^^ (-1 : Int32)) (7 : Int32)) &&& (1 : Int32))) + ((XT.ushr ((bs.getD (i + 3) 0) ^^^ (-1 : Int32)) (7 : Int32)) &&& (1 : Int32)))), (.int n)])) (fun t_ k_ => XT.ixor X0.here hx rfl (hb hby d1_75) rfl k_) ?_
        refine own_step (T' := s₁) (g' := (mkF m 78 #[.val (.ref a), .val (.int (Int32.ofNat F)), .val (.int (Int32.ofNat N)), .val (.int n), .val (.int (Int32.ofNat i))] [(.int (7 : Int32)), (.int ((bs.getD (i + 4) 0) ^^^ (-1 : Int32))), (.int (((((XT.ushr ((bs.getD i 0) ^^^ (-1 : Int32)) (7 : Int32)) &&& (1 : Int32)) + ((XT.ushr ((bs.getD (i + 1) 0) ^^^ (-1 : Int32)) (7 : Int32)) &&& (1 : Int32))) + ((XT.ushr ((bs.getD (i + 2) 0) ^^^ (-1 : Int32)) (7 : Int32)) &&& (1 : Int32))) + ((XT.ushr ((bs.getD (i + 3) 0) ^^^ (-1 : Int32)) (7 : Int32)) &&& (1 : Int32)))), (.int n)])) (fun t_ k_ => XT.bipushV X0.here hx rfl (7 : Int32) (hb hby d1_76) (by decide) k_) ?_
        refine own_step (T' := s₁) (g' := (mkF m 79 #[.val (.ref a), .val (.int (Int32.ofNat F)), .val (.int (Int32.ofNat N)), .val (.int n), .val (.int (Int32.ofNat i))] [(.int (XT.ushr ((bs.getD (i + 4) 0) ^^^ (-1 : Int32)) (7 : Int32))), (.int (((((XT.ushr ((bs.getD i 0) ^^^ (-1 : Int32)) (7 : Int32)) &&& (1 : Int32)) + ((XT.ushr ((bs.getD (i + 1) 0) ^^^ (-1 : Int32)) (7 : Int32)) &&& (1 : Int32))) + ((XT.ushr ((bs.getD (i + 2) 0) ^^^ (-1 : Int32)) (7 : Int32)) &&& (1 : Int32))) + ((XT.ushr ((bs.getD (i + 3) 0) ^^^ (-1 : Int32)) (7 : Int32)) &&& (1 : Int32)))), (.int n)])) (fun t_ k_ => XT.iushr X0.here hx rfl (hb hby d1_78) rfl k_) ?_
        refine own_step (T' := s₁) (g' := (mkF m 80 #[.val (.ref a), .val (.int (Int32.ofNat F)), .val (.int (Int32.ofNat N)), .val (.int n), .val (.int (Int32.ofNat i))] [(.int (1 : Int32)), (.int (XT.ushr ((bs.getD (i + 4) 0) ^^^ (-1 : Int32)) (7 : Int32))), (.int (((((XT.ushr ((bs.getD i 0) ^^^ (-1 : Int32)) (7 : Int32)) &&& (1 : Int32)) + ((XT.ushr ((bs.getD (i + 1) 0) ^^^ (-1 : Int32)) (7 : Int32)) &&& (1 : Int32))) + ((XT.ushr ((bs.getD (i + 2) 0) ^^^ (-1 : Int32)) (7 : Int32)) &&& (1 : Int32))) + ((XT.ushr ((bs.getD (i + 3) 0) ^^^ (-1 : Int32)) (7 : Int32)) &&& (1 : Int32)))), (.int n)])) (fun t_ k_ => XT.iconstV X0.here hx rfl (1 : Int32) (hb hby d1_79) (by decide) k_) ?_
        refine own_step (T' := s₁) (g' := (mkF m 81 #[.val (.ref a), .val (.int (Int32.ofNat F)), .val (.int (Int32.ofNat N)), .val (.int n), .val (.int (Int32.ofNat i))] [(.int ((XT.ushr ((bs.getD (i + 4) 0) ^^^ (-1 : Int32)) (7 : Int32)) &&& (1 : Int32))), (.int (((((XT.ushr ((bs.getD i 0) ^^^ (-1 : Int32)) (7 : Int32)) &&& (1 : Int32)) + ((XT.ushr ((bs.getD (i + 1) 0) ^^^ (-1 : Int32)) (7 : Int32)) &&& (1 : Int32))) + ((XT.ushr ((bs.getD (i + 2) 0) ^^^ (-1 : Int32)) (7 : Int32)) &&& (1 : Int32))) + ((XT.ushr ((bs.getD (i + 3) 0) ^^^ (-1 : Int32)) (7 : Int32)) &&& (1 : Int32)))), (.int n)])) (fun t_ k_ => XS.iand X0.here hx rfl (hb hby d1_80) rfl k_) ?_
        refine own_step (T' := s₁) (g' := (mkF m 82 #[.val (.ref a), .val (.int (Int32.ofNat F)), .val (.int (Int32.ofNat N)), .val (.int n), .val (.int (Int32.ofNat i))] [(.int ((((((XT.ushr ((bs.getD i 0) ^^^ (-1 : Int32)) (7 : Int32)) &&& (1 : Int32)) + ((XT.ushr ((bs.getD (i + 1) 0) ^^^ (-1 : Int32)) (7 : Int32)) &&& (1 : Int32))) + ((XT.ushr ((bs.getD (i + 2) 0) ^^^ (-1 : Int32)) (7 : Int32)) &&& (1 : Int32))) + ((XT.ushr ((bs.getD (i + 3) 0) ^^^ (-1 : Int32)) (7 : Int32)) &&& (1 : Int32))) + ((XT.ushr ((bs.getD (i + 4) 0) ^^^ (-1 : Int32)) (7 : Int32)) &&& (1 : Int32)))), (.int n)])) (fun t_ k_ => XS.iadd X0.here hx rfl (hb hby d1_81) rfl k_) ?_
        refine own_step (T' := s₁) (g' := (mkF m 83 #[.val (.ref a), .val (.int (Int32.ofNat F)), .val (.int (Int32.ofNat N)), .val (.int n), .val (.int (Int32.ofNat i))] [(.ref a), (.int ((((((XT.ushr ((bs.getD i 0) ^^^ (-1 : Int32)) (7 : Int32)) &&& (1 : Int32)) + ((XT.ushr ((bs.getD (i + 1) 0) ^^^ (-1 : Int32)) (7 : Int32)) &&& (1 : Int32))) + ((XT.ushr ((bs.getD (i + 2) 0) ^^^ (-1 : Int32)) (7 : Int32)) &&& (1 : Int32))) + ((XT.ushr ((bs.getD (i + 3) 0) ^^^ (-1 : Int32)) (7 : Int32)) &&& (1 : Int32))) + ((XT.ushr ((bs.getD (i + 4) 0) ^^^ (-1 : Int32)) (7 : Int32)) &&& (1 : Int32)))), (.int n)])) (fun t_ k_ => XS.aloadN X0.here hx rfl (hb hby d1_82) rfl rfl k_) ?_
        refine own_step (T' := s₁) (g' := (mkF m 85 #[.val (.ref a), .val (.int (Int32.ofNat F)), .val (.int (Int32.ofNat N)), .val (.int n), .val (.int (Int32.ofNat i))] [(.int (Int32.ofNat i)), (.ref a), (.int ((((((XT.ushr ((bs.getD i 0) ^^^ (-1 : Int32)) (7 : Int32)) &&& (1 : Int32)) + ((XT.ushr ((bs.getD (i + 1) 0) ^^^ (-1 : Int32)) (7 : Int32)) &&& (1 : Int32))) + ((XT.ushr ((bs.getD (i + 2) 0) ^^^ (-1 : Int32)) (7 : Int32)) &&& (1 : Int32))) + ((XT.ushr ((bs.getD (i + 3) 0) ^^^ (-1 : Int32)) (7 : Int32)) &&& (1 : Int32))) + ((XT.ushr ((bs.getD (i + 4) 0) ^^^ (-1 : Int32)) (7 : Int32)) &&& (1 : Int32)))), (.int n)])) (fun t_ k_ => XS.iload X0.here hx rfl (hb hby d1_83) rfl k_) ?_
        refine own_step (T' := s₁) (g' := (mkF m 86 #[.val (.ref a), .val (.int (Int32.ofNat F)), .val (.int (Int32.ofNat N)), .val (.int n), .val (.int (Int32.ofNat i))] [(.int (5 : Int32)), (.int (Int32.ofNat i)), (.ref a), (.int ((((((XT.ushr ((bs.getD i 0) ^^^ (-1 : Int32)) (7 : Int32)) &&& (1 : Int32)) + ((XT.ushr ((bs.getD (i + 1) 0) ^^^ (-1 : Int32)) (7 : Int32)) &&& (1 : Int32))) + ((XT.ushr ((bs.getD (i + 2) 0) ^^^ (-1 : Int32)) (7 : Int32)) &&& (1 : Int32))) + ((XT.ushr ((bs.getD (i + 3) 0) ^^^ (-1 : Int32)) (7 : Int32)) &&& (1 : Int32))) + ((XT.ushr ((bs.getD (i + 4) 0) ^^^ (-1 : Int32)) (7 : Int32)) &&& (1 : Int32)))), (.int n)])) (fun t_ k_ => XT.iconstV X0.here hx rfl (5 : Int32) (hb hby d1_85) (by decide) k_) ?_
        refine own_step (T' := s₁) (g' := (mkF m 87 #[.val (.ref a), .val (.int (Int32.ofNat F)), .val (.int (Int32.ofNat N)), .val (.int n), .val (.int (Int32.ofNat i))] [(.int ((Int32.ofNat i) + (5 : Int32))), (.ref a), (.int ((((((XT.ushr ((bs.getD i 0) ^^^ (-1 : Int32)) (7 : Int32)) &&& (1 : Int32)) + ((XT.ushr ((bs.getD (i + 1) 0) ^^^ (-1 : Int32)) (7 : Int32)) &&& (1 : Int32))) + ((XT.ushr ((bs.getD (i + 2) 0) ^^^ (-1 : Int32)) (7 : Int32)) &&& (1 : Int32))) + ((XT.ushr ((bs.getD (i + 3) 0) ^^^ (-1 : Int32)) (7 : Int32)) &&& (1 : Int32))) + ((XT.ushr ((bs.getD (i + 4) 0) ^^^ (-1 : Int32)) (7 : Int32)) &&& (1 : Int32)))), (.int n)])) (fun t_ k_ => XS.iadd X0.here hx rfl (hb hby d1_86) rfl k_) ?_
        have st10 := own_baload (g := (mkF m 87 #[.val (.ref a), .val (.int (Int32.ofNat F)), .val (.int (Int32.ofNat N)), .val (.int n), .val (.int (Int32.ofNat i))] [(.int ((Int32.ofNat i) + (5 : Int32))), (.ref a), (.int ((((((XT.ushr ((bs.getD i 0) ^^^ (-1 : Int32)) (7 : Int32)) &&& (1 : Int32)) + ((XT.ushr ((bs.getD (i + 1) 0) ^^^ (-1 : Int32)) (7 : Int32)) &&& (1 : Int32))) + ((XT.ushr ((bs.getD (i + 2) 0) ^^^ (-1 : Int32)) (7 : Int32)) &&& (1 : Int32))) + ((XT.ushr ((bs.getD (i + 3) 0) ^^^ (-1 : Int32)) (7 : Int32)) &&& (1 : Int32))) + ((XT.ushr ((bs.getD (i + 4) 0) ^^^ (-1 : Int32)) (7 : Int32)) &&& (1 : Int32)))), (.int n)])) X0 hx hZ e0 V0 (v := (.int (bs.getD (i + 5) 0))) (own_rd (k := i + 5) (Int32.ofNat_add i 5).symm (by omega) hl).1 (own_rd (k := i + 5) (Int32.ofNat_add i 5).symm (by omega) hl).2 rfl rfl (hb hby d1_87)
        refine own_step (T' := s₁) (g' := (mkF m 88 #[.val (.ref a), .val (.int (Int32.ofNat F)), .val (.int (Int32.ofNat N)), .val (.int n), .val (.int (Int32.ofNat i))] [(.int (bs.getD (i + 5) 0)), (.int ((((((XT.ushr ((bs.getD i 0) ^^^ (-1 : Int32)) (7 : Int32)) &&& (1 : Int32)) + ((XT.ushr ((bs.getD (i + 1) 0) ^^^ (-1 : Int32)) (7 : Int32)) &&& (1 : Int32))) + ((XT.ushr ((bs.getD (i + 2) 0) ^^^ (-1 : Int32)) (7 : Int32)) &&& (1 : Int32))) + ((XT.ushr ((bs.getD (i + 3) 0) ^^^ (-1 : Int32)) (7 : Int32)) &&& (1 : Int32))) + ((XT.ushr ((bs.getD (i + 4) 0) ^^^ (-1 : Int32)) (7 : Int32)) &&& (1 : Int32)))), (.int n)])) st10 ?_
        refine own_step (T' := s₁) (g' := (mkF m 89 #[.val (.ref a), .val (.int (Int32.ofNat F)), .val (.int (Int32.ofNat N)), .val (.int n), .val (.int (Int32.ofNat i))] [(.int (-1 : Int32)), (.int (bs.getD (i + 5) 0)), (.int ((((((XT.ushr ((bs.getD i 0) ^^^ (-1 : Int32)) (7 : Int32)) &&& (1 : Int32)) + ((XT.ushr ((bs.getD (i + 1) 0) ^^^ (-1 : Int32)) (7 : Int32)) &&& (1 : Int32))) + ((XT.ushr ((bs.getD (i + 2) 0) ^^^ (-1 : Int32)) (7 : Int32)) &&& (1 : Int32))) + ((XT.ushr ((bs.getD (i + 3) 0) ^^^ (-1 : Int32)) (7 : Int32)) &&& (1 : Int32))) + ((XT.ushr ((bs.getD (i + 4) 0) ^^^ (-1 : Int32)) (7 : Int32)) &&& (1 : Int32)))), (.int n)])) (fun t_ k_ => XT.iconstV X0.here hx rfl (-1 : Int32) (hb hby d1_88) (by decide) k_) ?_
        refine own_step (T' := s₁) (g' := (mkF m 90 #[.val (.ref a), .val (.int (Int32.ofNat F)), .val (.int (Int32.ofNat N)), .val (.int n), .val (.int (Int32.ofNat i))] [(.int ((bs.getD (i + 5) 0) ^^^ (-1 : Int32))), (.int ((((((XT.ushr ((bs.getD i 0) ^^^ (-1 : Int32)) (7 : Int32)) &&& (1 : Int32)) + ((XT.ushr ((bs.getD (i + 1) 0) ^^^ (-1 : Int32)) (7 : Int32)) &&& (1 : Int32))) + ((XT.ushr ((bs.getD (i + 2) 0) ^^^ (-1 : Int32)) (7 : Int32)) &&& (1 : Int32))) + ((XT.ushr ((bs.getD (i + 3) 0) ^^^ (-1 : Int32)) (7 : Int32)) &&& (1 : Int32))) + ((XT.ushr ((bs.getD (i + 4) 0) ^^^ (-1 : Int32)) (7 : Int32)) &&& (1 : Int32)))), (.int n)])) (fun t_ k_ => XT.ixor X0.here hx rfl (hb hby d1_89) rfl k_) ?_
        refine own_step (T' := s₁) (g' := (mkF m 92 #[.val (.ref a), .val (.int (Int32.ofNat F)), .val (.int (Int32.ofNat N)), .val (.int n), .val (.int (Int32.ofNat i))] [(.int (7 : Int32)), (.int ((bs.getD (i + 5) 0) ^^^ (-1 : Int32))), (.int ((((((XT.ushr ((bs.getD i 0) ^^^ (-1 : Int32)) (7 : Int32)) &&& (1 : Int32)) + ((XT.ushr ((bs.getD (i + 1) 0) ^^^ (-1 : Int32)) (7 : Int32)) &&& (1 : Int32))) + ((XT.ushr ((bs.getD (i + 2) 0) ^^^ (-1 : Int32)) (7 : Int32)) &&& (1 : Int32))) + ((XT.ushr ((bs.getD (i + 3) 0) ^^^ (-1 : Int32)) (7 : Int32)) &&& (1 : Int32))) + ((XT.ushr ((bs.getD (i + 4) 0) ^^^ (-1 : Int32)) (7 : Int32)) &&& (1 : Int32)))), (.int n)])) (fun t_ k_ => XT.bipushV X0.here hx rfl (7 : Int32) (hb hby d1_90) (by decide) k_) ?_
        refine own_step (T' := s₁) (g' := (mkF m 93 #[.val (.ref a), .val (.int (Int32.ofNat F)), .val (.int (Int32.ofNat N)), .val (.int n), .val (.int (Int32.ofNat i))] [(.int (XT.ushr ((bs.getD (i + 5) 0) ^^^ (-1 : Int32)) (7 : Int32))), (.int ((((((XT.ushr ((bs.getD i 0) ^^^ (-1 : Int32)) (7 : Int32)) &&& (1 : Int32)) + ((XT.ushr ((bs.getD (i + 1) 0) ^^^ (-1 : Int32)) (7 : Int32)) &&& (1 : Int32))) + ((XT.ushr ((bs.getD (i + 2) 0) ^^^ (-1 : Int32)) (7 : Int32)) &&& (1 : Int32))) + ((XT.ushr ((bs.getD (i + 3) 0) ^^^ (-1 : Int32)) (7 : Int32)) &&& (1 : Int32))) + ((XT.ushr ((bs.getD (i + 4) 0) ^^^ (-1 : Int32)) (7 : Int32)) &&& (1 : Int32)))), (.int n)])) (fun t_ k_ => XT.iushr X0.here hx rfl (hb hby d1_92) rfl k_) ?_
        refine own_step (T' := s₁) (g' := (mkF m 94 #[.val (.ref a), .val (.int (Int32.ofNat F)), .val (.int (Int32.ofNat N)), .val (.int n), .val (.int (Int32.ofNat i))] [(.int (1 : Int32)), (.int (XT.ushr ((bs.getD (i + 5) 0) ^^^ (-1 : Int32)) (7 : Int32))), (.int ((((((XT.ushr ((bs.getD i 0) ^^^ (-1 : Int32)) (7 : Int32)) &&& (1 : Int32)) + ((XT.ushr ((bs.getD (i + 1) 0) ^^^ (-1 : Int32)) (7 : Int32)) &&& (1 : Int32))) + ((XT.ushr ((bs.getD (i + 2) 0) ^^^ (-1 : Int32)) (7 : Int32)) &&& (1 : Int32))) + ((XT.ushr ((bs.getD (i + 3) 0) ^^^ (-1 : Int32)) (7 : Int32)) &&& (1 : Int32))) + ((XT.ushr ((bs.getD (i + 4) 0) ^^^ (-1 : Int32)) (7 : Int32)) &&& (1 : Int32)))), (.int n)])) (fun t_ k_ => XT.iconstV X0.here hx rfl (1 : Int32) (hb hby d1_93) (by decide) k_) ?_
        refine own_step (T' := s₁) (g' := (mkF m 95 #[.val (.ref a), .val (.int (Int32.ofNat F)), .val (.int (Int32.ofNat N)), .val (.int n), .val (.int (Int32.ofNat i))] [(.int ((XT.ushr ((bs.getD (i + 5) 0) ^^^ (-1 : Int32)) (7 : Int32)) &&& (1 : Int32))), (.int ((((((XT.ushr ((bs.getD i 0) ^^^ (-1 : Int32)) (7 : Int32)) &&& (1 : Int32)) + ((XT.ushr ((bs.getD (i + 1) 0) ^^^ (-1 : Int32)) (7 : Int32)) &&& (1 : Int32))) + ((XT.ushr ((bs.getD (i + 2) 0) ^^^ (-1 : Int32)) (7 : Int32)) &&& (1 : Int32))) + ((XT.ushr ((bs.getD (i + 3) 0) ^^^ (-1 : Int32)) (7 : Int32)) &&& (1 : Int32))) + ((XT.ushr ((bs.getD (i + 4) 0) ^^^ (-1 : Int32)) (7 : Int32)) &&& (1 : Int32)))), (.int n)])) (fun t_ k_ => XS.iand X0.here hx rfl (hb hby d1_94) rfl k_) ?_
        refine own_step (T' := s₁) (g' := (mkF m 96 #[.val (.ref a), .val (.int (Int32.ofNat F)), .val (.int (Int32.ofNat N)), .val (.int n), .val (.int (Int32.ofNat i))] [(.int (((((((XT.ushr ((bs.getD i 0) ^^^ (-1 : Int32)) (7 : Int32)) &&& (1 : Int32)) + ((XT.ushr ((bs.getD (i + 1) 0) ^^^ (-1 : Int32)) (7 : Int32)) &&& (1 : Int32))) + ((XT.ushr ((bs.getD (i + 2) 0) ^^^ (-1 : Int32)) (7 : Int32)) &&& (1 : Int32))) + ((XT.ushr ((bs.getD (i + 3) 0) ^^^ (-1 : Int32)) (7 : Int32)) &&& (1 : Int32))) + ((XT.ushr ((bs.getD (i + 4) 0) ^^^ (-1 : Int32)) (7 : Int32)) &&& (1 : Int32))) + ((XT.ushr ((bs.getD (i + 5) 0) ^^^ (-1 : Int32)) (7 : Int32)) &&& (1 : Int32)))), (.int n)])) (fun t_ k_ => XS.iadd X0.here hx rfl (hb hby d1_95) rfl k_) ?_
        refine own_step (T' := s₁) (g' := (mkF m 97 #[.val (.ref a), .val (.int (Int32.ofNat F)), .val (.int (Int32.ofNat N)), .val (.int n), .val (.int (Int32.ofNat i))] [(.ref a), (.int (((((((XT.ushr ((bs.getD i 0) ^^^ (-1 : Int32)) (7 : Int32)) &&& (1 : Int32)) + ((XT.ushr ((bs.getD (i + 1) 0) ^^^ (-1 : Int32)) (7 : Int32)) &&& (1 : Int32))) + ((XT.ushr ((bs.getD (i + 2) 0) ^^^ (-1 : Int32)) (7 : Int32)) &&& (1 : Int32))) + ((XT.ushr ((bs.getD (i + 3) 0) ^^^ (-1 : Int32)) (7 : Int32)) &&& (1 : Int32))) + ((XT.ushr ((bs.getD (i + 4) 0) ^^^ (-1 : Int32)) (7 : Int32)) &&& (1 : Int32))) + ((XT.ushr ((bs.getD (i + 5) 0) ^^^ (-1 : Int32)) (7 : Int32)) &&& (1 : Int32)))), (.int n)])) (fun t_ k_ => XS.aloadN X0.here hx rfl (hb hby d1_96) rfl rfl k_) ?_
        refine own_step (T' := s₁) (g' := (mkF m 99 #[.val (.ref a), .val (.int (Int32.ofNat F)), .val (.int (Int32.ofNat N)), .val (.int n), .val (.int (Int32.ofNat i))] [(.int (Int32.ofNat i)), (.ref a), (.int (((((((XT.ushr ((bs.getD i 0) ^^^ (-1 : Int32)) (7 : Int32)) &&& (1 : Int32)) + ((XT.ushr ((bs.getD (i + 1) 0) ^^^ (-1 : Int32)) (7 : Int32)) &&& (1 : Int32))) + ((XT.ushr ((bs.getD (i + 2) 0) ^^^ (-1 : Int32)) (7 : Int32)) &&& (1 : Int32))) + ((XT.ushr ((bs.getD (i + 3) 0) ^^^ (-1 : Int32)) (7 : Int32)) &&& (1 : Int32))) + ((XT.ushr ((bs.getD (i + 4) 0) ^^^ (-1 : Int32)) (7 : Int32)) &&& (1 : Int32))) + ((XT.ushr ((bs.getD (i + 5) 0) ^^^ (-1 : Int32)) (7 : Int32)) &&& (1 : Int32)))), (.int n)])) (fun t_ k_ => XS.iload X0.here hx rfl (hb hby d1_97) rfl k_) ?_
        refine own_step (T' := s₁) (g' := (mkF m 101 #[.val (.ref a), .val (.int (Int32.ofNat F)), .val (.int (Int32.ofNat N)), .val (.int n), .val (.int (Int32.ofNat i))] [(.int (6 : Int32)), (.int (Int32.ofNat i)), (.ref a), (.int (((((((XT.ushr ((bs.getD i 0) ^^^ (-1 : Int32)) (7 : Int32)) &&& (1 : Int32)) + ((XT.ushr ((bs.getD (i + 1) 0) ^^^ (-1 : Int32)) (7 : Int32)) &&& (1 : Int32))) + ((XT.ushr ((bs.getD (i + 2) 0) ^^^ (-1 : Int32)) (7 : Int32)) &&& (1 : Int32))) + ((XT.ushr ((bs.getD (i + 3) 0) ^^^ (-1 : Int32)) (7 : Int32)) &&& (1 : Int32))) + ((XT.ushr ((bs.getD (i + 4) 0) ^^^ (-1 : Int32)) (7 : Int32)) &&& (1 : Int32))) + ((XT.ushr ((bs.getD (i + 5) 0) ^^^ (-1 : Int32)) (7 : Int32)) &&& (1 : Int32)))), (.int n)])) (fun t_ k_ => XT.bipushV X0.here hx rfl (6 : Int32) (hb hby d1_99) (by decide) k_) ?_
        refine own_step (T' := s₁) (g' := (mkF m 102 #[.val (.ref a), .val (.int (Int32.ofNat F)), .val (.int (Int32.ofNat N)), .val (.int n), .val (.int (Int32.ofNat i))] [(.int ((Int32.ofNat i) + (6 : Int32))), (.ref a), (.int (((((((XT.ushr ((bs.getD i 0) ^^^ (-1 : Int32)) (7 : Int32)) &&& (1 : Int32)) + ((XT.ushr ((bs.getD (i + 1) 0) ^^^ (-1 : Int32)) (7 : Int32)) &&& (1 : Int32))) + ((XT.ushr ((bs.getD (i + 2) 0) ^^^ (-1 : Int32)) (7 : Int32)) &&& (1 : Int32))) + ((XT.ushr ((bs.getD (i + 3) 0) ^^^ (-1 : Int32)) (7 : Int32)) &&& (1 : Int32))) + ((XT.ushr ((bs.getD (i + 4) 0) ^^^ (-1 : Int32)) (7 : Int32)) &&& (1 : Int32))) + ((XT.ushr ((bs.getD (i + 5) 0) ^^^ (-1 : Int32)) (7 : Int32)) &&& (1 : Int32)))), (.int n)])) (fun t_ k_ => XS.iadd X0.here hx rfl (hb hby d1_101) rfl k_) ?_
        have st11 := own_baload (g := (mkF m 102 #[.val (.ref a), .val (.int (Int32.ofNat F)), .val (.int (Int32.ofNat N)), .val (.int n), .val (.int (Int32.ofNat i))] [(.int ((Int32.ofNat i) + (6 : Int32))), (.ref a), (.int (((((((XT.ushr ((bs.getD i 0) ^^^ (-1 : Int32)) (7 : Int32)) &&& (1 : Int32)) + ((XT.ushr ((bs.getD (i + 1) 0) ^^^ (-1 : Int32)) (7 : Int32)) &&& (1 : Int32))) + ((XT.ushr ((bs.getD (i + 2) 0) ^^^ (-1 : Int32)) (7 : Int32)) &&& (1 : Int32))) + ((XT.ushr ((bs.getD (i + 3) 0) ^^^ (-1 : Int32)) (7 : Int32)) &&& (1 : Int32))) + ((XT.ushr ((bs.getD (i + 4) 0) ^^^ (-1 : Int32)) (7 : Int32)) &&& (1 : Int32))) + ((XT.ushr ((bs.getD (i + 5) 0) ^^^ (-1 : Int32)) (7 : Int32)) &&& (1 : Int32)))), (.int n)])) X0 hx hZ e0 V0 (v := (.int (bs.getD (i + 6) 0))) (own_rd (k := i + 6) (Int32.ofNat_add i 6).symm (by omega) hl).1 (own_rd (k := i + 6) (Int32.ofNat_add i 6).symm (by omega) hl).2 rfl rfl (hb hby d1_102)
        refine own_step (T' := s₁) (g' := (mkF m 103 #[.val (.ref a), .val (.int (Int32.ofNat F)), .val (.int (Int32.ofNat N)), .val (.int n), .val (.int (Int32.ofNat i))] [(.int (bs.getD (i + 6) 0)), (.int (((((((XT.ushr ((bs.getD i 0) ^^^ (-1 : Int32)) (7 : Int32)) &&& (1 : Int32)) + ((XT.ushr ((bs.getD (i + 1) 0) ^^^ (-1 : Int32)) (7 : Int32)) &&& (1 : Int32))) + ((XT.ushr ((bs.getD (i + 2) 0) ^^^ (-1 : Int32)) (7 : Int32)) &&& (1 : Int32))) + ((XT.ushr ((bs.getD (i + 3) 0) ^^^ (-1 : Int32)) (7 : Int32)) &&& (1 : Int32))) + ((XT.ushr ((bs.getD (i + 4) 0) ^^^ (-1 : Int32)) (7 : Int32)) &&& (1 : Int32))) + ((XT.ushr ((bs.getD (i + 5) 0) ^^^ (-1 : Int32)) (7 : Int32)) &&& (1 : Int32)))), (.int n)])) st11 ?_
        refine own_step (T' := s₁) (g' := (mkF m 104 #[.val (.ref a), .val (.int (Int32.ofNat F)), .val (.int (Int32.ofNat N)), .val (.int n), .val (.int (Int32.ofNat i))] [(.int (-1 : Int32)), (.int (bs.getD (i + 6) 0)), (.int (((((((XT.ushr ((bs.getD i 0) ^^^ (-1 : Int32)) (7 : Int32)) &&& (1 : Int32)) + ((XT.ushr ((bs.getD (i + 1) 0) ^^^ (-1 : Int32)) (7 : Int32)) &&& (1 : Int32))) + ((XT.ushr ((bs.getD (i + 2) 0) ^^^ (-1 : Int32)) (7 : Int32)) &&& (1 : Int32))) + ((XT.ushr ((bs.getD (i + 3) 0) ^^^ (-1 : Int32)) (7 : Int32)) &&& (1 : Int32))) + ((XT.ushr ((bs.getD (i + 4) 0) ^^^ (-1 : Int32)) (7 : Int32)) &&& (1 : Int32))) + ((XT.ushr ((bs.getD (i + 5) 0) ^^^ (-1 : Int32)) (7 : Int32)) &&& (1 : Int32)))), (.int n)])) (fun t_ k_ => XT.iconstV X0.here hx rfl (-1 : Int32) (hb hby d1_103) (by decide) k_) ?_
        refine own_step (T' := s₁) (g' := (mkF m 105 #[.val (.ref a), .val (.int (Int32.ofNat F)), .val (.int (Int32.ofNat N)), .val (.int n), .val (.int (Int32.ofNat i))] [(.int ((bs.getD (i + 6) 0) ^^^ (-1 : Int32))), (.int (((((((XT.ushr ((bs.getD i 0) ^^^ (-1 : Int32)) (7 : Int32)) &&& (1 : Int32)) + ((XT.ushr ((bs.getD (i + 1) 0) ^^^ (-1 : Int32)) (7 : Int32)) &&& (1 : Int32))) + ((XT.ushr ((bs.getD (i + 2) 0) ^^^ (-1 : Int32)) (7 : Int32)) &&& (1 : Int32))) + ((XT.ushr ((bs.getD (i + 3) 0) ^^^ (-1 : Int32)) (7 : Int32)) &&& (1 : Int32))) + ((XT.ushr ((bs.getD (i + 4) 0) ^^^ (-1 : Int32)) (7 : Int32)) &&& (1 : Int32))) + ((XT.ushr ((bs.getD (i + 5) 0) ^^^ (-1 : Int32)) (7 : Int32)) &&& (1 : Int32)))), (.int n)])) (fun t_ k_ => XT.ixor X0.here hx rfl (hb hby d1_104) rfl k_) ?_
        refine own_step (T' := s₁) (g' := (mkF m 107 #[.val (.ref a), .val (.int (Int32.ofNat F)), .val (.int (Int32.ofNat N)), .val (.int n), .val (.int (Int32.ofNat i))] [(.int (7 : Int32)), (.int ((bs.getD (i + 6) 0) ^^^ (-1 : Int32))), (.int (((((((XT.ushr ((bs.getD i 0) ^^^ (-1 : Int32)) (7 : Int32)) &&& (1 : Int32)) + ((XT.ushr ((bs.getD (i + 1) 0) ^^^ (-1 : Int32)) (7 : Int32)) &&& (1 : Int32))) + ((XT.ushr ((bs.getD (i + 2) 0) ^^^ (-1 : Int32)) (7 : Int32)) &&& (1 : Int32))) + ((XT.ushr ((bs.getD (i + 3) 0) ^^^ (-1 : Int32)) (7 : Int32)) &&& (1 : Int32))) + ((XT.ushr ((bs.getD (i + 4) 0) ^^^ (-1 : Int32)) (7 : Int32)) &&& (1 : Int32))) + ((XT.ushr ((bs.getD (i + 5) 0) ^^^ (-1 : Int32)) (7 : Int32)) &&& (1 : Int32)))), (.int n)])) (fun t_ k_ => XT.bipushV X0.here hx rfl (7 : Int32) (hb hby d1_105) (by decide) k_) ?_
        refine own_step (T' := s₁) (g' := (mkF m 108 #[.val (.ref a), .val (.int (Int32.ofNat F)), .val (.int (Int32.ofNat N)), .val (.int n), .val (.int (Int32.ofNat i))] [(.int (XT.ushr ((bs.getD (i + 6) 0) ^^^ (-1 : Int32)) (7 : Int32))), (.int (((((((XT.ushr ((bs.getD i 0) ^^^ (-1 : Int32)) (7 : Int32)) &&& (1 : Int32)) + ((XT.ushr ((bs.getD (i + 1) 0) ^^^ (-1 : Int32)) (7 : Int32)) &&& (1 : Int32))) + ((XT.ushr ((bs.getD (i + 2) 0) ^^^ (-1 : Int32)) (7 : Int32)) &&& (1 : Int32))) + ((XT.ushr ((bs.getD (i + 3) 0) ^^^ (-1 : Int32)) (7 : Int32)) &&& (1 : Int32))) + ((XT.ushr ((bs.getD (i + 4) 0) ^^^ (-1 : Int32)) (7 : Int32)) &&& (1 : Int32))) + ((XT.ushr ((bs.getD (i + 5) 0) ^^^ (-1 : Int32)) (7 : Int32)) &&& (1 : Int32)))), (.int n)])) (fun t_ k_ => XT.iushr X0.here hx rfl (hb hby d1_107) rfl k_) ?_
        refine own_step (T' := s₁) (g' := (mkF m 109 #[.val (.ref a), .val (.int (Int32.ofNat F)), .val (.int (Int32.ofNat N)), .val (.int n), .val (.int (Int32.ofNat i))] [(.int (1 : Int32)), (.int (XT.ushr ((bs.getD (i + 6) 0) ^^^ (-1 : Int32)) (7 : Int32))), (.int (((((((XT.ushr ((bs.getD i 0) ^^^ (-1 : Int32)) (7 : Int32)) &&& (1 : Int32)) + ((XT.ushr ((bs.getD (i + 1) 0) ^^^ (-1 : Int32)) (7 : Int32)) &&& (1 : Int32))) + ((XT.ushr ((bs.getD (i + 2) 0) ^^^ (-1 : Int32)) (7 : Int32)) &&& (1 : Int32))) + ((XT.ushr ((bs.getD (i + 3) 0) ^^^ (-1 : Int32)) (7 : Int32)) &&& (1 : Int32))) + ((XT.ushr ((bs.getD (i + 4) 0) ^^^ (-1 : Int32)) (7 : Int32)) &&& (1 : Int32))) + ((XT.ushr ((bs.getD (i + 5) 0) ^^^ (-1 : Int32)) (7 : Int32)) &&& (1 : Int32)))), (.int n)])) (fun t_ k_ => XT.iconstV X0.here hx rfl (1 : Int32) (hb hby d1_108) (by decide) k_) ?_
        refine own_step (T' := s₁) (g' := (mkF m 110 #[.val (.ref a), .val (.int (Int32.ofNat F)), .val (.int (Int32.ofNat N)), .val (.int n), .val (.int (Int32.ofNat i))] [(.int ((XT.ushr ((bs.getD (i + 6) 0) ^^^ (-1 : Int32)) (7 : Int32)) &&& (1 : Int32))), (.int (((((((XT.ushr ((bs.getD i 0) ^^^ (-1 : Int32)) (7 : Int32)) &&& (1 : Int32)) + ((XT.ushr ((bs.getD (i + 1) 0) ^^^ (-1 : Int32)) (7 : Int32)) &&& (1 : Int32))) + ((XT.ushr ((bs.getD (i + 2) 0) ^^^ (-1 : Int32)) (7 : Int32)) &&& (1 : Int32))) + ((XT.ushr ((bs.getD (i + 3) 0) ^^^ (-1 : Int32)) (7 : Int32)) &&& (1 : Int32))) + ((XT.ushr ((bs.getD (i + 4) 0) ^^^ (-1 : Int32)) (7 : Int32)) &&& (1 : Int32))) + ((XT.ushr ((bs.getD (i + 5) 0) ^^^ (-1 : Int32)) (7 : Int32)) &&& (1 : Int32)))), (.int n)])) (fun t_ k_ => XS.iand X0.here hx rfl (hb hby d1_109) rfl k_) ?_
        refine own_step (T' := s₁) (g' := (mkF m 111 #[.val (.ref a), .val (.int (Int32.ofNat F)), .val (.int (Int32.ofNat N)), .val (.int n), .val (.int (Int32.ofNat i))] [(.int ((((((((XT.ushr ((bs.getD i 0) ^^^ (-1 : Int32)) (7 : Int32)) &&& (1 : Int32)) + ((XT.ushr ((bs.getD (i + 1) 0) ^^^ (-1 : Int32)) (7 : Int32)) &&& (1 : Int32))) + ((XT.ushr ((bs.getD (i + 2) 0) ^^^ (-1 : Int32)) (7 : Int32)) &&& (1 : Int32))) + ((XT.ushr ((bs.getD (i + 3) 0) ^^^ (-1 : Int32)) (7 : Int32)) &&& (1 : Int32))) + ((XT.ushr ((bs.getD (i + 4) 0) ^^^ (-1 : Int32)) (7 : Int32)) &&& (1 : Int32))) + ((XT.ushr ((bs.getD (i + 5) 0) ^^^ (-1 : Int32)) (7 : Int32)) &&& (1 : Int32))) + ((XT.ushr ((bs.getD (i + 6) 0) ^^^ (-1 : Int32)) (7 : Int32)) &&& (1 : Int32)))), (.int n)])) (fun t_ k_ => XS.iadd X0.here hx rfl (hb hby d1_110) rfl k_) ?_
        refine own_step (T' := s₁) (g' := (mkF m 112 #[.val (.ref a), .val (.int (Int32.ofNat F)), .val (.int (Int32.ofNat N)), .val (.int n), .val (.int (Int32.ofNat i))] [(.ref a), (.int ((((((((XT.ushr ((bs.getD i 0) ^^^ (-1 : Int32)) (7 : Int32)) &&& (1 : Int32)) + ((XT.ushr ((bs.getD (i + 1) 0) ^^^ (-1 : Int32)) (7 : Int32)) &&& (1 : Int32))) + ((XT.ushr ((bs.getD (i + 2) 0) ^^^ (-1 : Int32)) (7 : Int32)) &&& (1 : Int32))) + ((XT.ushr ((bs.getD (i + 3) 0) ^^^ (-1 : Int32)) (7 : Int32)) &&& (1 : Int32))) + ((XT.ushr ((bs.getD (i + 4) 0) ^^^ (-1 : Int32)) (7 : Int32)) &&& (1 : Int32))) + ((XT.ushr ((bs.getD (i + 5) 0) ^^^ (-1 : Int32)) (7 : Int32)) &&& (1 : Int32))) + ((XT.ushr ((bs.getD (i + 6) 0) ^^^ (-1 : Int32)) (7 : Int32)) &&& (1 : Int32)))), (.int n)])) (fun t_ k_ => XS.aloadN X0.here hx rfl (hb hby d1_111) rfl rfl k_) ?_
        refine own_step (T' := s₁) (g' := (mkF m 114 #[.val (.ref a), .val (.int (Int32.ofNat F)), .val (.int (Int32.ofNat N)), .val (.int n), .val (.int (Int32.ofNat i))] [(.int (Int32.ofNat i)), (.ref a), (.int ((((((((XT.ushr ((bs.getD i 0) ^^^ (-1 : Int32)) (7 : Int32)) &&& (1 : Int32)) + ((XT.ushr ((bs.getD (i + 1) 0) ^^^ (-1 : Int32)) (7 : Int32)) &&& (1 : Int32))) + ((XT.ushr ((bs.getD (i + 2) 0) ^^^ (-1 : Int32)) (7 : Int32)) &&& (1 : Int32))) + ((XT.ushr ((bs.getD (i + 3) 0) ^^^ (-1 : Int32)) (7 : Int32)) &&& (1 : Int32))) + ((XT.ushr ((bs.getD (i + 4) 0) ^^^ (-1 : Int32)) (7 : Int32)) &&& (1 : Int32))) + ((XT.ushr ((bs.getD (i + 5) 0) ^^^ (-1 : Int32)) (7 : Int32)) &&& (1 : Int32))) + ((XT.ushr ((bs.getD (i + 6) 0) ^^^ (-1 : Int32)) (7 : Int32)) &&& (1 : Int32)))), (.int n)])) (fun t_ k_ => XS.iload X0.here hx rfl (hb hby d1_112) rfl k_) ?_
        refine own_step (T' := s₁) (g' := (mkF m 116 #[.val (.ref a), .val (.int (Int32.ofNat F)), .val (.int (Int32.ofNat N)), .val (.int n), .val (.int (Int32.ofNat i))] [(.int (7 : Int32)), (.int (Int32.ofNat i)), (.ref a), (.int ((((((((XT.ushr ((bs.getD i 0) ^^^ (-1 : Int32)) (7 : Int32)) &&& (1 : Int32)) + ((XT.ushr ((bs.getD (i + 1) 0) ^^^ (-1 : Int32)) (7 : Int32)) &&& (1 : Int32))) + ((XT.ushr ((bs.getD (i + 2) 0) ^^^ (-1 : Int32)) (7 : Int32)) &&& (1 : Int32))) + ((XT.ushr ((bs.getD (i + 3) 0) ^^^ (-1 : Int32)) (7 : Int32)) &&& (1 : Int32))) + ((XT.ushr ((bs.getD (i + 4) 0) ^^^ (-1 : Int32)) (7 : Int32)) &&& (1 : Int32))) + ((XT.ushr ((bs.getD (i + 5) 0) ^^^ (-1 : Int32)) (7 : Int32)) &&& (1 : Int32))) + ((XT.ushr ((bs.getD (i + 6) 0) ^^^ (-1 : Int32)) (7 : Int32)) &&& (1 : Int32)))), (.int n)])) (fun t_ k_ => XT.bipushV X0.here hx rfl (7 : Int32) (hb hby d1_114) (by decide) k_) ?_
        refine own_step (T' := s₁) (g' := (mkF m 117 #[.val (.ref a), .val (.int (Int32.ofNat F)), .val (.int (Int32.ofNat N)), .val (.int n), .val (.int (Int32.ofNat i))] [(.int ((Int32.ofNat i) + (7 : Int32))), (.ref a), (.int ((((((((XT.ushr ((bs.getD i 0) ^^^ (-1 : Int32)) (7 : Int32)) &&& (1 : Int32)) + ((XT.ushr ((bs.getD (i + 1) 0) ^^^ (-1 : Int32)) (7 : Int32)) &&& (1 : Int32))) + ((XT.ushr ((bs.getD (i + 2) 0) ^^^ (-1 : Int32)) (7 : Int32)) &&& (1 : Int32))) + ((XT.ushr ((bs.getD (i + 3) 0) ^^^ (-1 : Int32)) (7 : Int32)) &&& (1 : Int32))) + ((XT.ushr ((bs.getD (i + 4) 0) ^^^ (-1 : Int32)) (7 : Int32)) &&& (1 : Int32))) + ((XT.ushr ((bs.getD (i + 5) 0) ^^^ (-1 : Int32)) (7 : Int32)) &&& (1 : Int32))) + ((XT.ushr ((bs.getD (i + 6) 0) ^^^ (-1 : Int32)) (7 : Int32)) &&& (1 : Int32)))), (.int n)])) (fun t_ k_ => XS.iadd X0.here hx rfl (hb hby d1_116) rfl k_) ?_
        have st12 := own_baload (g := (mkF m 117 #[.val (.ref a), .val (.int (Int32.ofNat F)), .val (.int (Int32.ofNat N)), .val (.int n), .val (.int (Int32.ofNat i))] [(.int ((Int32.ofNat i) + (7 : Int32))), (.ref a), (.int ((((((((XT.ushr ((bs.getD i 0) ^^^ (-1 : Int32)) (7 : Int32)) &&& (1 : Int32)) + ((XT.ushr ((bs.getD (i + 1) 0) ^^^ (-1 : Int32)) (7 : Int32)) &&& (1 : Int32))) + ((XT.ushr ((bs.getD (i + 2) 0) ^^^ (-1 : Int32)) (7 : Int32)) &&& (1 : Int32))) + ((XT.ushr ((bs.getD (i + 3) 0) ^^^ (-1 : Int32)) (7 : Int32)) &&& (1 : Int32))) + ((XT.ushr ((bs.getD (i + 4) 0) ^^^ (-1 : Int32)) (7 : Int32)) &&& (1 : Int32))) + ((XT.ushr ((bs.getD (i + 5) 0) ^^^ (-1 : Int32)) (7 : Int32)) &&& (1 : Int32))) + ((XT.ushr ((bs.getD (i + 6) 0) ^^^ (-1 : Int32)) (7 : Int32)) &&& (1 : Int32)))), (.int n)])) X0 hx hZ e0 V0 (v := (.int (bs.getD (i + 7) 0))) (own_rd (k := i + 7) (Int32.ofNat_add i 7).symm (by omega) hl).1 (own_rd (k := i + 7) (Int32.ofNat_add i 7).symm (by omega) hl).2 rfl rfl (hb hby d1_117)
        refine own_step (T' := s₁) (g' := (mkF m 118 #[.val (.ref a), .val (.int (Int32.ofNat F)), .val (.int (Int32.ofNat N)), .val (.int n), .val (.int (Int32.ofNat i))] [(.int (bs.getD (i + 7) 0)), (.int ((((((((XT.ushr ((bs.getD i 0) ^^^ (-1 : Int32)) (7 : Int32)) &&& (1 : Int32)) + ((XT.ushr ((bs.getD (i + 1) 0) ^^^ (-1 : Int32)) (7 : Int32)) &&& (1 : Int32))) + ((XT.ushr ((bs.getD (i + 2) 0) ^^^ (-1 : Int32)) (7 : Int32)) &&& (1 : Int32))) + ((XT.ushr ((bs.getD (i + 3) 0) ^^^ (-1 : Int32)) (7 : Int32)) &&& (1 : Int32))) + ((XT.ushr ((bs.getD (i + 4) 0) ^^^ (-1 : Int32)) (7 : Int32)) &&& (1 : Int32))) + ((XT.ushr ((bs.getD (i + 5) 0) ^^^ (-1 : Int32)) (7 : Int32)) &&& (1 : Int32))) + ((XT.ushr ((bs.getD (i + 6) 0) ^^^ (-1 : Int32)) (7 : Int32)) &&& (1 : Int32)))), (.int n)])) st12 ?_
        refine own_step (T' := s₁) (g' := (mkF m 119 #[.val (.ref a), .val (.int (Int32.ofNat F)), .val (.int (Int32.ofNat N)), .val (.int n), .val (.int (Int32.ofNat i))] [(.int (-1 : Int32)), (.int (bs.getD (i + 7) 0)), (.int ((((((((XT.ushr ((bs.getD i 0) ^^^ (-1 : Int32)) (7 : Int32)) &&& (1 : Int32)) + ((XT.ushr ((bs.getD (i + 1) 0) ^^^ (-1 : Int32)) (7 : Int32)) &&& (1 : Int32))) + ((XT.ushr ((bs.getD (i + 2) 0) ^^^ (-1 : Int32)) (7 : Int32)) &&& (1 : Int32))) + ((XT.ushr ((bs.getD (i + 3) 0) ^^^ (-1 : Int32)) (7 : Int32)) &&& (1 : Int32))) + ((XT.ushr ((bs.getD (i + 4) 0) ^^^ (-1 : Int32)) (7 : Int32)) &&& (1 : Int32))) + ((XT.ushr ((bs.getD (i + 5) 0) ^^^ (-1 : Int32)) (7 : Int32)) &&& (1 : Int32))) + ((XT.ushr ((bs.getD (i + 6) 0) ^^^ (-1 : Int32)) (7 : Int32)) &&& (1 : Int32)))), (.int n)])) (fun t_ k_ => XT.iconstV X0.here hx rfl (-1 : Int32) (hb hby d1_118) (by decide) k_) ?_
        refine own_step (T' := s₁) (g' := (mkF m 120 #[.val (.ref a), .val (.int (Int32.ofNat F)), .val (.int (Int32.ofNat N)), .val (.int n), .val (.int (Int32.ofNat i))] [(.int ((bs.getD (i + 7) 0) ^^^ (-1 : Int32))), (.int ((((((((XT.ushr ((bs.getD i 0) ^^^ (-1 : Int32)) (7 : Int32)) &&& (1 : Int32)) + ((XT.ushr ((bs.getD (i + 1) 0) ^^^ (-1 : Int32)) (7 : Int32)) &&& (1 : Int32))) + ((XT.ushr ((bs.getD (i + 2) 0) ^^^ (-1 : Int32)) (7 : Int32)) &&& (1 : Int32))) + ((XT.ushr ((bs.getD (i + 3) 0) ^^^ (-1 : Int32)) (7 : Int32)) &&& (1 : Int32))) + ((XT.ushr ((bs.getD (i + 4) 0) ^^^ (-1 : Int32)) (7 : Int32)) &&& (1 : Int32))) + ((XT.ushr ((bs.getD (i + 5) 0) ^^^ (-1 : Int32)) (7 : Int32)) &&& (1 : Int32))) + ((XT.ushr ((bs.getD (i + 6) 0) ^^^ (-1 : Int32)) (7 : Int32)) &&& (1 : Int32)))), (.int n)])) (fun t_ k_ => XT.ixor X0.here hx rfl (hb hby d1_119) rfl k_) ?_
        refine own_step (T' := s₁) (g' := (mkF m 122 #[.val (.ref a), .val (.int (Int32.ofNat F)), .val (.int (Int32.ofNat N)), .val (.int n), .val (.int (Int32.ofNat i))] [(.int (7 : Int32)), (.int ((bs.getD (i + 7) 0) ^^^ (-1 : Int32))), (.int ((((((((XT.ushr ((bs.getD i 0) ^^^ (-1 : Int32)) (7 : Int32)) &&& (1 : Int32)) + ((XT.ushr ((bs.getD (i + 1) 0) ^^^ (-1 : Int32)) (7 : Int32)) &&& (1 : Int32))) + ((XT.ushr ((bs.getD (i + 2) 0) ^^^ (-1 : Int32)) (7 : Int32)) &&& (1 : Int32))) + ((XT.ushr ((bs.getD (i + 3) 0) ^^^ (-1 : Int32)) (7 : Int32)) &&& (1 : Int32))) + ((XT.ushr ((bs.getD (i + 4) 0) ^^^ (-1 : Int32)) (7 : Int32)) &&& (1 : Int32))) + ((XT.ushr ((bs.getD (i + 5) 0) ^^^ (-1 : Int32)) (7 : Int32)) &&& (1 : Int32))) + ((XT.ushr ((bs.getD (i + 6) 0) ^^^ (-1 : Int32)) (7 : Int32)) &&& (1 : Int32)))), (.int n)])) (fun t_ k_ => XT.bipushV X0.here hx rfl (7 : Int32) (hb hby d1_120) (by decide) k_) ?_
        refine own_step (T' := s₁) (g' := (mkF m 123 #[.val (.ref a), .val (.int (Int32.ofNat F)), .val (.int (Int32.ofNat N)), .val (.int n), .val (.int (Int32.ofNat i))] [(.int (XT.ushr ((bs.getD (i + 7) 0) ^^^ (-1 : Int32)) (7 : Int32))), (.int ((((((((XT.ushr ((bs.getD i 0) ^^^ (-1 : Int32)) (7 : Int32)) &&& (1 : Int32)) + ((XT.ushr ((bs.getD (i + 1) 0) ^^^ (-1 : Int32)) (7 : Int32)) &&& (1 : Int32))) + ((XT.ushr ((bs.getD (i + 2) 0) ^^^ (-1 : Int32)) (7 : Int32)) &&& (1 : Int32))) + ((XT.ushr ((bs.getD (i + 3) 0) ^^^ (-1 : Int32)) (7 : Int32)) &&& (1 : Int32))) + ((XT.ushr ((bs.getD (i + 4) 0) ^^^ (-1 : Int32)) (7 : Int32)) &&& (1 : Int32))) + ((XT.ushr ((bs.getD (i + 5) 0) ^^^ (-1 : Int32)) (7 : Int32)) &&& (1 : Int32))) + ((XT.ushr ((bs.getD (i + 6) 0) ^^^ (-1 : Int32)) (7 : Int32)) &&& (1 : Int32)))), (.int n)])) (fun t_ k_ => XT.iushr X0.here hx rfl (hb hby d1_122) rfl k_) ?_
        refine own_step (T' := s₁) (g' := (mkF m 124 #[.val (.ref a), .val (.int (Int32.ofNat F)), .val (.int (Int32.ofNat N)), .val (.int n), .val (.int (Int32.ofNat i))] [(.int (1 : Int32)), (.int (XT.ushr ((bs.getD (i + 7) 0) ^^^ (-1 : Int32)) (7 : Int32))), (.int ((((((((XT.ushr ((bs.getD i 0) ^^^ (-1 : Int32)) (7 : Int32)) &&& (1 : Int32)) + ((XT.ushr ((bs.getD (i + 1) 0) ^^^ (-1 : Int32)) (7 : Int32)) &&& (1 : Int32))) + ((XT.ushr ((bs.getD (i + 2) 0) ^^^ (-1 : Int32)) (7 : Int32)) &&& (1 : Int32))) + ((XT.ushr ((bs.getD (i + 3) 0) ^^^ (-1 : Int32)) (7 : Int32)) &&& (1 : Int32))) + ((XT.ushr ((bs.getD (i + 4) 0) ^^^ (-1 : Int32)) (7 : Int32)) &&& (1 : Int32))) + ((XT.ushr ((bs.getD (i + 5) 0) ^^^ (-1 : Int32)) (7 : Int32)) &&& (1 : Int32))) + ((XT.ushr ((bs.getD (i + 6) 0) ^^^ (-1 : Int32)) (7 : Int32)) &&& (1 : Int32)))), (.int n)])) (fun t_ k_ => XT.iconstV X0.here hx rfl (1 : Int32) (hb hby d1_123) (by decide) k_) ?_
        refine own_step (T' := s₁) (g' := (mkF m 125 #[.val (.ref a), .val (.int (Int32.ofNat F)), .val (.int (Int32.ofNat N)), .val (.int n), .val (.int (Int32.ofNat i))] [(.int ((XT.ushr ((bs.getD (i + 7) 0) ^^^ (-1 : Int32)) (7 : Int32)) &&& (1 : Int32))), (.int ((((((((XT.ushr ((bs.getD i 0) ^^^ (-1 : Int32)) (7 : Int32)) &&& (1 : Int32)) + ((XT.ushr ((bs.getD (i + 1) 0) ^^^ (-1 : Int32)) (7 : Int32)) &&& (1 : Int32))) + ((XT.ushr ((bs.getD (i + 2) 0) ^^^ (-1 : Int32)) (7 : Int32)) &&& (1 : Int32))) + ((XT.ushr ((bs.getD (i + 3) 0) ^^^ (-1 : Int32)) (7 : Int32)) &&& (1 : Int32))) + ((XT.ushr ((bs.getD (i + 4) 0) ^^^ (-1 : Int32)) (7 : Int32)) &&& (1 : Int32))) + ((XT.ushr ((bs.getD (i + 5) 0) ^^^ (-1 : Int32)) (7 : Int32)) &&& (1 : Int32))) + ((XT.ushr ((bs.getD (i + 6) 0) ^^^ (-1 : Int32)) (7 : Int32)) &&& (1 : Int32)))), (.int n)])) (fun t_ k_ => XS.iand X0.here hx rfl (hb hby d1_124) rfl k_) ?_
        refine own_step (T' := s₁) (g' := (mkF m 126 #[.val (.ref a), .val (.int (Int32.ofNat F)), .val (.int (Int32.ofNat N)), .val (.int n), .val (.int (Int32.ofNat i))] [(.int (((((((((XT.ushr ((bs.getD i 0) ^^^ (-1 : Int32)) (7 : Int32)) &&& (1 : Int32)) + ((XT.ushr ((bs.getD (i + 1) 0) ^^^ (-1 : Int32)) (7 : Int32)) &&& (1 : Int32))) + ((XT.ushr ((bs.getD (i + 2) 0) ^^^ (-1 : Int32)) (7 : Int32)) &&& (1 : Int32))) + ((XT.ushr ((bs.getD (i + 3) 0) ^^^ (-1 : Int32)) (7 : Int32)) &&& (1 : Int32))) + ((XT.ushr ((bs.getD (i + 4) 0) ^^^ (-1 : Int32)) (7 : Int32)) &&& (1 : Int32))) + ((XT.ushr ((bs.getD (i + 5) 0) ^^^ (-1 : Int32)) (7 : Int32)) &&& (1 : Int32))) + ((XT.ushr ((bs.getD (i + 6) 0) ^^^ (-1 : Int32)) (7 : Int32)) &&& (1 : Int32))) + ((XT.ushr ((bs.getD (i + 7) 0) ^^^ (-1 : Int32)) (7 : Int32)) &&& (1 : Int32)))), (.int n)])) (fun t_ k_ => XS.iadd X0.here hx rfl (hb hby d1_125) rfl k_) ?_
        refine own_step (T' := s₁) (g' := (mkF m 127 #[.val (.ref a), .val (.int (Int32.ofNat F)), .val (.int (Int32.ofNat N)), .val (.int n), .val (.int (Int32.ofNat i))] [(.int (n + (((((((((XT.ushr ((bs.getD i 0) ^^^ (-1 : Int32)) (7 : Int32)) &&& (1 : Int32)) + ((XT.ushr ((bs.getD (i + 1) 0) ^^^ (-1 : Int32)) (7 : Int32)) &&& (1 : Int32))) + ((XT.ushr ((bs.getD (i + 2) 0) ^^^ (-1 : Int32)) (7 : Int32)) &&& (1 : Int32))) + ((XT.ushr ((bs.getD (i + 3) 0) ^^^ (-1 : Int32)) (7 : Int32)) &&& (1 : Int32))) + ((XT.ushr ((bs.getD (i + 4) 0) ^^^ (-1 : Int32)) (7 : Int32)) &&& (1 : Int32))) + ((XT.ushr ((bs.getD (i + 5) 0) ^^^ (-1 : Int32)) (7 : Int32)) &&& (1 : Int32))) + ((XT.ushr ((bs.getD (i + 6) 0) ^^^ (-1 : Int32)) (7 : Int32)) &&& (1 : Int32))) + ((XT.ushr ((bs.getD (i + 7) 0) ^^^ (-1 : Int32)) (7 : Int32)) &&& (1 : Int32)))))])) (fun t_ k_ => XS.iadd X0.here hx rfl (hb hby d1_126) rfl k_) ?_
        refine own_step (T' := s₁) (g' := (mkF m 128 #[.val (.ref a), .val (.int (Int32.ofNat F)), .val (.int (Int32.ofNat N)), .val (.int (n + (((((((((XT.ushr ((bs.getD i 0) ^^^ (-1 : Int32)) (7 : Int32)) &&& (1 : Int32)) + ((XT.ushr ((bs.getD (i + 1) 0) ^^^ (-1 : Int32)) (7 : Int32)) &&& (1 : Int32))) + ((XT.ushr ((bs.getD (i + 2) 0) ^^^ (-1 : Int32)) (7 : Int32)) &&& (1 : Int32))) + ((XT.ushr ((bs.getD (i + 3) 0) ^^^ (-1 : Int32)) (7 : Int32)) &&& (1 : Int32))) + ((XT.ushr ((bs.getD (i + 4) 0) ^^^ (-1 : Int32)) (7 : Int32)) &&& (1 : Int32))) + ((XT.ushr ((bs.getD (i + 5) 0) ^^^ (-1 : Int32)) (7 : Int32)) &&& (1 : Int32))) + ((XT.ushr ((bs.getD (i + 6) 0) ^^^ (-1 : Int32)) (7 : Int32)) &&& (1 : Int32))) + ((XT.ushr ((bs.getD (i + 7) 0) ^^^ (-1 : Int32)) (7 : Int32)) &&& (1 : Int32))))), .val (.int (Int32.ofNat i))] [])) (fun t_ k_ => XS.istoreN X0.here hx rfl (hb hby d1_127) rfl (l' := #[.val (.ref a), .val (.int (Int32.ofNat F)), .val (.int (Int32.ofNat N)), .val (.int (n + (((((((((XT.ushr ((bs.getD i 0) ^^^ (-1 : Int32)) (7 : Int32)) &&& (1 : Int32)) + ((XT.ushr ((bs.getD (i + 1) 0) ^^^ (-1 : Int32)) (7 : Int32)) &&& (1 : Int32))) + ((XT.ushr ((bs.getD (i + 2) 0) ^^^ (-1 : Int32)) (7 : Int32)) &&& (1 : Int32))) + ((XT.ushr ((bs.getD (i + 3) 0) ^^^ (-1 : Int32)) (7 : Int32)) &&& (1 : Int32))) + ((XT.ushr ((bs.getD (i + 4) 0) ^^^ (-1 : Int32)) (7 : Int32)) &&& (1 : Int32))) + ((XT.ushr ((bs.getD (i + 5) 0) ^^^ (-1 : Int32)) (7 : Int32)) &&& (1 : Int32))) + ((XT.ushr ((bs.getD (i + 6) 0) ^^^ (-1 : Int32)) (7 : Int32)) &&& (1 : Int32))) + ((XT.ushr ((bs.getD (i + 7) 0) ^^^ (-1 : Int32)) (7 : Int32)) &&& (1 : Int32))))), .val (.int (Int32.ofNat i))]) rfl k_) ?_
        refine own_step (T' := s₁) (g' := (mkF m 131 #[.val (.ref a), .val (.int (Int32.ofNat F)), .val (.int (Int32.ofNat N)), .val (.int (n + (((((((((XT.ushr ((bs.getD i 0) ^^^ (-1 : Int32)) (7 : Int32)) &&& (1 : Int32)) + ((XT.ushr ((bs.getD (i + 1) 0) ^^^ (-1 : Int32)) (7 : Int32)) &&& (1 : Int32))) + ((XT.ushr ((bs.getD (i + 2) 0) ^^^ (-1 : Int32)) (7 : Int32)) &&& (1 : Int32))) + ((XT.ushr ((bs.getD (i + 3) 0) ^^^ (-1 : Int32)) (7 : Int32)) &&& (1 : Int32))) + ((XT.ushr ((bs.getD (i + 4) 0) ^^^ (-1 : Int32)) (7 : Int32)) &&& (1 : Int32))) + ((XT.ushr ((bs.getD (i + 5) 0) ^^^ (-1 : Int32)) (7 : Int32)) &&& (1 : Int32))) + ((XT.ushr ((bs.getD (i + 6) 0) ^^^ (-1 : Int32)) (7 : Int32)) &&& (1 : Int32))) + ((XT.ushr ((bs.getD (i + 7) 0) ^^^ (-1 : Int32)) (7 : Int32)) &&& (1 : Int32))))), .val (.int ((Int32.ofNat i) + (8 : Int32)))] [])) (fun t_ k_ => XT.iincV X0.here hx rfl (8 : Int32) (hb hby d1_128) (by decide) rfl (l' := #[.val (.ref a), .val (.int (Int32.ofNat F)), .val (.int (Int32.ofNat N)), .val (.int (n + (((((((((XT.ushr ((bs.getD i 0) ^^^ (-1 : Int32)) (7 : Int32)) &&& (1 : Int32)) + ((XT.ushr ((bs.getD (i + 1) 0) ^^^ (-1 : Int32)) (7 : Int32)) &&& (1 : Int32))) + ((XT.ushr ((bs.getD (i + 2) 0) ^^^ (-1 : Int32)) (7 : Int32)) &&& (1 : Int32))) + ((XT.ushr ((bs.getD (i + 3) 0) ^^^ (-1 : Int32)) (7 : Int32)) &&& (1 : Int32))) + ((XT.ushr ((bs.getD (i + 4) 0) ^^^ (-1 : Int32)) (7 : Int32)) &&& (1 : Int32))) + ((XT.ushr ((bs.getD (i + 5) 0) ^^^ (-1 : Int32)) (7 : Int32)) &&& (1 : Int32))) + ((XT.ushr ((bs.getD (i + 6) 0) ^^^ (-1 : Int32)) (7 : Int32)) &&& (1 : Int32))) + ((XT.ushr ((bs.getD (i + 7) 0) ^^^ (-1 : Int32)) (7 : Int32)) &&& (1 : Int32))))), .val (.int ((Int32.ofNat i) + (8 : Int32)))]) rfl k_) ?_
        refine own_step (T' := s₁) (g' := (mkF m 5 #[.val (.ref a), .val (.int (Int32.ofNat F)), .val (.int (Int32.ofNat N)), .val (.int (n + (((((((((XT.ushr ((bs.getD i 0) ^^^ (-1 : Int32)) (7 : Int32)) &&& (1 : Int32)) + ((XT.ushr ((bs.getD (i + 1) 0) ^^^ (-1 : Int32)) (7 : Int32)) &&& (1 : Int32))) + ((XT.ushr ((bs.getD (i + 2) 0) ^^^ (-1 : Int32)) (7 : Int32)) &&& (1 : Int32))) + ((XT.ushr ((bs.getD (i + 3) 0) ^^^ (-1 : Int32)) (7 : Int32)) &&& (1 : Int32))) + ((XT.ushr ((bs.getD (i + 4) 0) ^^^ (-1 : Int32)) (7 : Int32)) &&& (1 : Int32))) + ((XT.ushr ((bs.getD (i + 5) 0) ^^^ (-1 : Int32)) (7 : Int32)) &&& (1 : Int32))) + ((XT.ushr ((bs.getD (i + 6) 0) ^^^ (-1 : Int32)) (7 : Int32)) &&& (1 : Int32))) + ((XT.ushr ((bs.getD (i + 7) 0) ^^^ (-1 : Int32)) (7 : Int32)) &&& (1 : Int32))))), .val (.int ((Int32.ofNat i) + (8 : Int32)))] [])) (fun t_ k_ => XS.goto X0.here hx rfl (pc0 := 131) (pc' := 5) rfl (hb hby d1_131) (by decide) (by decide) k_) ?_
        rw [ei]
        refine ih q (i + 8) _ (by omega) (by omega) ?_
        rw [← hn, own_cnt8]
        exact Int32.add_assoc _ _ _
      · skip
        refine own_step (T' := s₁) (g' := (mkF m 7 #[.val (.ref a), .val (.int (Int32.ofNat F)), .val (.int (Int32.ofNat N)), .val (.int n), .val (.int (Int32.ofNat i))] [(.int (Int32.ofNat i))])) (fun t_ k_ => XS.iload X0.here hx rfl (hb hby d1_5) rfl k_) ?_
        refine own_step (T' := s₁) (g' := (mkF m 9 #[.val (.ref a), .val (.int (Int32.ofNat F)), .val (.int (Int32.ofNat N)), .val (.int n), .val (.int (Int32.ofNat i))] [(.int (8 : Int32)), (.int (Int32.ofNat i))])) (fun t_ k_ => XT.bipushV X0.here hx rfl (8 : Int32) (hb hby d1_7) (by decide) k_) ?_
        refine own_step (T' := s₁) (g' := (mkF m 10 #[.val (.ref a), .val (.int (Int32.ofNat F)), .val (.int (Int32.ofNat N)), .val (.int n), .val (.int (Int32.ofNat i))] [(.int ((Int32.ofNat i) + (8 : Int32)))])) (fun t_ k_ => XS.iadd X0.here hx rfl (hb hby d1_9) rfl k_) ?_
        refine own_step (T' := s₁) (g' := (mkF m 11 #[.val (.ref a), .val (.int (Int32.ofNat F)), .val (.int (Int32.ofNat N)), .val (.int n), .val (.int (Int32.ofNat i))] [(.int (Int32.ofNat N)), (.int ((Int32.ofNat i) + (8 : Int32)))])) (fun t_ k_ => XS.iloadN X0.here hx rfl (hb hby d1_10) rfl k_) ?_
        have hk13 : (Int32.ofNat N) < ((Int32.ofNat i) + (8 : Int32)) := (by rw [ei]; exact (own_lt (by omega) (by omega)).mpr (by omega))
        refine own_step (T' := s₁) (g' := (mkF m 134 #[.val (.ref a), .val (.int (Int32.ofNat F)), .val (.int (Int32.ofNat N)), .val (.int n), .val (.int (Int32.ofNat i))] [])) (fun t_ k_ => XS.icmpYes X0.here hx rfl (pc0 := 11) (pc' := 134) rfl (hb hby d1_11) rfl (XT.ii_gt_t hk13) (by decide) (by decide) k_) ?_
        exact loop2 r i n hi hn
  refine own_step (T' := s₁) (g' := (mkF m 1 #[.val (.ref a), .val (.int (Int32.ofNat F)), .val (.int (Int32.ofNat N)), .unset, .unset] [(.int (0 : Int32))])) (fun t_ k_ => XT.iconstV X0.here hx rfl (0 : Int32) (hb hby d1_0) (by decide) k_) ?_
  refine own_step (T' := s₁) (g' := (mkF m 2 #[.val (.ref a), .val (.int (Int32.ofNat F)), .val (.int (Int32.ofNat N)), .val (.int (0 : Int32)), .unset] [])) (fun t_ k_ => XS.istoreN X0.here hx rfl (hb hby d1_1) rfl (l' := #[.val (.ref a), .val (.int (Int32.ofNat F)), .val (.int (Int32.ofNat N)), .val (.int (0 : Int32)), .unset]) rfl k_) ?_
  refine own_step (T' := s₁) (g' := (mkF m 3 #[.val (.ref a), .val (.int (Int32.ofNat F)), .val (.int (Int32.ofNat N)), .val (.int (0 : Int32)), .unset] [(.int (Int32.ofNat F))])) (fun t_ k_ => XS.iloadN X0.here hx rfl (hb hby d1_2) rfl k_) ?_
  refine own_step (T' := s₁) (g' := (mkF m 5 #[.val (.ref a), .val (.int (Int32.ofNat F)), .val (.int (Int32.ofNat N)), .val (.int (0 : Int32)), .val (.int (Int32.ofNat F))] [])) (fun t_ k_ => XS.istore X0.here hx rfl (hb hby d1_3) rfl (l' := #[.val (.ref a), .val (.int (Int32.ofNat F)), .val (.int (Int32.ofNat N)), .val (.int (0 : Int32)), .val (.int (Int32.ofNat F))]) rfl k_) ?_
  exact loop1 (N - F + 1) (N - F) F (0 : Int32) (by omega) (by omega) (Int32.zero_add _)
theorem pn_2 : plainFor x = true := by first | exact plainFor_of_name (by first | (simp [plainName, overriddenIn]; done) | decide +kernel) | decide +kernel
theorem ef_2 (m : MethodId) (x0 : Int64) (x1 : Int64) (x2 : Int32) (x3 : Int32) : entryFrame m #[(.long x0), (.long x1), (.int x2), (.int x3)] maxLocals = mkF m 0 #[.val (.long x0), .second, .val (.long x1), .second, .val (.int x2), .val (.int x3), .unset, .unset, .unset, .unset] [] := by first | (simp [entryFrame, mkF, argsToLocals, Value.category, maxLocals]; done) | rfl
def Q_2 (h0 : Heap) (n0 : Nat) (v : Option Value) (h : Heap) (L : List Loc) : Prop := v = some (.int 1) ∧ Fr n0 L
set_option maxRecDepth 65536 in
set_option maxHeartbeats 40000000 in
theorem rm_law (l : Launch) (Z : State) (a0 : Array Value) (hw : ∀ d ∈ tables_1, d.before a0 Z = true) (ws : List Jvm.Cond) (lo hi : Int64) (f t : Int32) (h0 : Heap) (n0 : Nat) (Z0 : n0 ≤ h0.size)  :
    MetFree l x (head1 (Jvm.Cond.code x code maxLocals ret :: ws) room_1) (fun as_ U => as_ = #[(.long lo), (.long hi), (.int f), (.int t)] ∧ Z.Warmed39 U.vm ∧ U.heap = h0) (fun _ _ _ _ _ => True) (fun _ U o U' => ∃ v L, o = .returned v ∧ Q_2 h0 n0 v U'.heap L ∧ FrameEnd U o U' L 1 16) := by
  refine MetFree.of_bodySF pn_2 hisR ?_
  intro p e s m args below meth c s₁ Bd hml0 hP hK
  obtain ⟨rfl, hZ, hh⟩ := hP
  have hx := Bd.exec
  have hby := Bd.bytes
  have hlk := BodyLoose.notSynchronized Bd
  have hml : c.maxLocals = 10 := hml0
  have hown : s.vm.findClass "com/example/sedimenta/sedimenta/store/VarIntsCountPinLaw" = some m.cls := findClass_of_methodNamed Bd.named
  have hnm := (name_of_methodNamed Bd.named Bd.method).1
  have X0 : Stand p l e room_1 s m #[(.long lo), (.long hi), (.int f), (.int t)] below meth c s₁ [] 0 0 := Stand.of_body Bd
  have e0 : s₁.heap = h0 := by rw [← hh, Bd.state]; rfl
  have N0 := Fr.nil n0
  refine own_in (ef_2 m lo hi f t) ?_
  show own_Fin p e below s (Q_2 h0 n0) 1 16 s₁ (mkF m 0 #[.val (.long lo), .second, .val (.long hi), .second, .val (.int f), .val (.int t), .unset, .unset, .unset, .unset] [])
  refine own_step (T' := s₁) (g' := (mkF m 2 #[.val (.long lo), .second, .val (.long hi), .second, .val (.int f), .val (.int t), .unset, .unset, .unset, .unset] [(.int (16 : Int32))])) (fun t_ k_ => XT.bipushV X0.here hx rfl (16 : Int32) (hb hby at_0) (by decide) k_) ?_
  obtain ⟨T1, h2, cA3, X4, e5, E6, A7, st8⟩ := newP X0 hx hZ (hw _ (List.mem_of_getElem? (i := 0) rfl)) e0 (g := (mkF m 2 #[.val (.long lo), .second, .val (.long hi), .second, .val (.int f), .val (.int t), .unset, .unset, .unset, .unset] [(.int (16 : Int32))])) rfl (hb hby at_2) rfl (by decide) (cap := 16) (by decide) (by decide) (by decide) (by decide)
  obtain ⟨a9, g10⟩ : ∃ z, z = h0.size := ⟨_, rfl⟩
  rw [← g10] at A7 st8
  have q11 : n0 ≤ a9 := Nat.le_trans Z0 (Nat.le_of_eq g10.symm)
  have F12 : n0 ≤ h2.size := Nat.le_trans Z0 E6.1
  have V13 : own_Arl Z h2 a9 .byte [(.int (0 : Int32)), (.int (0 : Int32)), (.int (0 : Int32)), (.int (0 : Int32)), (.int (0 : Int32)), (.int (0 : Int32)), (.int (0 : Int32)), (.int (0 : Int32)), (.int (0 : Int32)), (.int (0 : Int32)), (.int (0 : Int32)), (.int (0 : Int32)), (.int (0 : Int32)), (.int (0 : Int32)), (.int (0 : Int32)), (.int (0 : Int32))] := own_Arl.of_new A7 (i := 16) (by decide)
  refine own_step (T' := T1) (g' := (mkF m 4 #[.val (.long lo), .second, .val (.long hi), .second, .val (.int f), .val (.int t), .unset, .unset, .unset, .unset] [(.ref a9)])) st8 ?_
  refine own_step (T' := T1) (g' := (mkF m 6 #[.val (.long lo), .second, .val (.long hi), .second, .val (.int f), .val (.int t), .val (.ref a9), .unset, .unset, .unset] [])) (fun t_ k_ => XS.astore X4.here hx rfl (hb hby at_4) rfl rfl (l' := #[.val (.long lo), .second, .val (.long hi), .second, .val (.int f), .val (.int t), .val (.ref a9), .unset, .unset, .unset]) rfl k_) ?_
  refine own_step (T' := T1) (g' := (mkF m 8 #[.val (.long lo), .second, .val (.long hi), .second, .val (.int f), .val (.int t), .val (.ref a9), .unset, .unset, .unset] [(.ref a9)])) (fun t_ k_ => XS.aload X4.here hx rfl (hb hby at_6) rfl rfl k_) ?_
  refine own_step (T' := T1) (g' := (mkF m 9 #[.val (.long lo), .second, .val (.long hi), .second, .val (.int f), .val (.int t), .val (.ref a9), .unset, .unset, .unset] [(.int (0 : Int32)), (.ref a9)])) (fun t_ k_ => XT.iconstV X4.here hx rfl (0 : Int32) (hb hby at_8) (by decide) k_) ?_
  refine own_step (T' := T1) (g' := (mkF m 10 #[.val (.long lo), .second, .val (.long hi), .second, .val (.int f), .val (.int t), .val (.ref a9), .unset, .unset, .unset] [(.long lo), (.int (0 : Int32)), (.ref a9)])) (fun t_ k_ => XT.lloadN X4.here hx rfl (hb hby at_9) rfl k_) ?_
  refine own_step (T' := T1) (g' := (mkF m 11 #[.val (.long lo), .second, .val (.long hi), .second, .val (.int f), .val (.int t), .val (.ref a9), .unset, .unset, .unset] [(.int ((lo).toInt32)), (.int (0 : Int32)), (.ref a9)])) (fun t_ k_ => XT.l2i X4.here hx rfl (hb hby at_10) rfl k_) ?_
  refine own_step (T' := T1) (g' := (mkF m 12 #[.val (.long lo), .second, .val (.long hi), .second, .val (.int f), .val (.int t), .val (.ref a9), .unset, .unset, .unset] [(.int ((((lo).toInt32)).toInt8.toInt32)), (.int (0 : Int32)), (.ref a9)])) (fun t_ k_ => XT.i2b X4.here hx rfl (hb hby at_11) rfl k_) ?_
  obtain ⟨cl14, Ar15, Lx16⟩ := id V13
  obtain ⟨T17, h18, X19, e20, W21, st22⟩ := stB X4 hx hZ e5 Ar15 (j := (0 : Int32)) (own_inb' Lx16 (n := 16) rfl (by decide) (by decide)) (g := (mkF m 12 #[.val (.long lo), .second, .val (.long hi), .second, .val (.int f), .val (.int t), .val (.ref a9), .unset, .unset, .unset] [(.int ((((lo).toInt32)).toInt8.toInt32)), (.int (0 : Int32)), (.ref a9)])) rfl rfl (hb hby at_12)
  have N23 := Fr.snoc X19 N0 q11
  have F24 : n0 ≤ h18.size := Nat.le_trans F12 (Keep.of_wr W21).1
  have V25 : own_Arl Z h18 a9 .byte [(.int (nar .byte ((((lo).toInt32)).toInt8.toInt32))), (.int (0 : Int32)), (.int (0 : Int32)), (.int (0 : Int32)), (.int (0 : Int32)), (.int (0 : Int32)), (.int (0 : Int32)), (.int (0 : Int32)), (.int (0 : Int32)), (.int (0 : Int32)), (.int (0 : Int32)), (.int (0 : Int32)), (.int (0 : Int32)), (.int (0 : Int32)), (.int (0 : Int32)), (.int (0 : Int32))] := own_Arl.set' (j := (0 : Int32)) V13 W21 (i := 0) (by decide)
  obtain ⟨Lo26, X27, N28⟩ : ∃ Lo_, Stand p l e room_1 s m #[(.long lo), (.long hi), (.int f), (.int t)] below meth c T17 Lo_ 1 16 ∧ Fr n0 Lo_ := ⟨_, X19, N23⟩
  refine own_step (T' := T17) (g' := (mkF m 13 #[.val (.long lo), .second, .val (.long hi), .second, .val (.int f), .val (.int t), .val (.ref a9), .unset, .unset, .unset] [])) st22 ?_
  refine own_step (T' := T17) (g' := (mkF m 15 #[.val (.long lo), .second, .val (.long hi), .second, .val (.int f), .val (.int t), .val (.ref a9), .unset, .unset, .unset] [(.ref a9)])) (fun t_ k_ => XS.aload X27.here hx rfl (hb hby at_13) rfl rfl k_) ?_
  refine own_step (T' := T17) (g' := (mkF m 16 #[.val (.long lo), .second, .val (.long hi), .second, .val (.int f), .val (.int t), .val (.ref a9), .unset, .unset, .unset] [(.int (1 : Int32)), (.ref a9)])) (fun t_ k_ => XT.iconstV X27.here hx rfl (1 : Int32) (hb hby at_15) (by decide) k_) ?_
  refine own_step (T' := T17) (g' := (mkF m 17 #[.val (.long lo), .second, .val (.long hi), .second, .val (.int f), .val (.int t), .val (.ref a9), .unset, .unset, .unset] [(.long lo), (.int (1 : Int32)), (.ref a9)])) (fun t_ k_ => XT.lloadN X27.here hx rfl (hb hby at_16) rfl k_) ?_
  refine own_step (T' := T17) (g' := (mkF m 19 #[.val (.long lo), .second, .val (.long hi), .second, .val (.int f), .val (.int t), .val (.ref a9), .unset, .unset, .unset] [(.int (8 : Int32)), (.long lo), (.int (1 : Int32)), (.ref a9)])) (fun t_ k_ => XT.bipushV X27.here hx rfl (8 : Int32) (hb hby at_17) (by decide) k_) ?_
  refine own_step (T' := T17) (g' := (mkF m 20 #[.val (.long lo), .second, .val (.long hi), .second, .val (.int f), .val (.int t), .val (.ref a9), .unset, .unset, .unset] [(.long (XT.ushrL lo (8 : Int32))), (.int (1 : Int32)), (.ref a9)])) (fun t_ k_ => XT.lushr X27.here hx rfl (hb hby at_19) rfl k_) ?_
  refine own_step (T' := T17) (g' := (mkF m 21 #[.val (.long lo), .second, .val (.long hi), .second, .val (.int f), .val (.int t), .val (.ref a9), .unset, .unset, .unset] [(.int (((XT.ushrL lo (8 : Int32))).toInt32)), (.int (1 : Int32)), (.ref a9)])) (fun t_ k_ => XT.l2i X27.here hx rfl (hb hby at_20) rfl k_) ?_
  refine own_step (T' := T17) (g' := (mkF m 22 #[.val (.long lo), .second, .val (.long hi), .second, .val (.int f), .val (.int t), .val (.ref a9), .unset, .unset, .unset] [(.int (((((XT.ushrL lo (8 : Int32))).toInt32)).toInt8.toInt32)), (.int (1 : Int32)), (.ref a9)])) (fun t_ k_ => XT.i2b X27.here hx rfl (hb hby at_21) rfl k_) ?_
  obtain ⟨cl29, Ar30, Lx31⟩ := id V25
  obtain ⟨T32, h33, X34, e35, W36, st37⟩ := stB X27 hx hZ e20 Ar30 (j := (1 : Int32)) (own_inb' Lx31 (n := 16) rfl (by decide) (by decide)) (g := (mkF m 22 #[.val (.long lo), .second, .val (.long hi), .second, .val (.int f), .val (.int t), .val (.ref a9), .unset, .unset, .unset] [(.int (((((XT.ushrL lo (8 : Int32))).toInt32)).toInt8.toInt32)), (.int (1 : Int32)), (.ref a9)])) rfl rfl (hb hby at_22)
  have N38 := Fr.snoc X34 N28 q11
  have F39 : n0 ≤ h33.size := Nat.le_trans F24 (Keep.of_wr W36).1
  have V40 : own_Arl Z h33 a9 .byte [(.int (nar .byte ((((lo).toInt32)).toInt8.toInt32))), (.int (nar .byte (((((XT.ushrL lo (8 : Int32))).toInt32)).toInt8.toInt32))), (.int (0 : Int32)), (.int (0 : Int32)), (.int (0 : Int32)), (.int (0 : Int32)), (.int (0 : Int32)), (.int (0 : Int32)), (.int (0 : Int32)), (.int (0 : Int32)), (.int (0 : Int32)), (.int (0 : Int32)), (.int (0 : Int32)), (.int (0 : Int32)), (.int (0 : Int32)), (.int (0 : Int32))] := own_Arl.set' (j := (1 : Int32)) V25 W36 (i := 1) (by decide)
  obtain ⟨Lo41, X42, N43⟩ : ∃ Lo_, Stand p l e room_1 s m #[(.long lo), (.long hi), (.int f), (.int t)] below meth c T32 Lo_ 1 16 ∧ Fr n0 Lo_ := ⟨_, X34, N38⟩
  refine own_step (T' := T32) (g' := (mkF m 23 #[.val (.long lo), .second, .val (.long hi), .second, .val (.int f), .val (.int t), .val (.ref a9), .unset, .unset, .unset] [])) st37 ?_
  refine own_step (T' := T32) (g' := (mkF m 25 #[.val (.long lo), .second, .val (.long hi), .second, .val (.int f), .val (.int t), .val (.ref a9), .unset, .unset, .unset] [(.ref a9)])) (fun t_ k_ => XS.aload X42.here hx rfl (hb hby at_23) rfl rfl k_) ?_
  refine own_step (T' := T32) (g' := (mkF m 26 #[.val (.long lo), .second, .val (.long hi), .second, .val (.int f), .val (.int t), .val (.ref a9), .unset, .unset, .unset] [(.int (2 : Int32)), (.ref a9)])) (fun t_ k_ => XT.iconstV X42.here hx rfl (2 : Int32) (hb hby at_25) (by decide) k_) ?_
  refine own_step (T' := T32) (g' := (mkF m 27 #[.val (.long lo), .second, .val (.long hi), .second, .val (.int f), .val (.int t), .val (.ref a9), .unset, .unset, .unset] [(.long lo), (.int (2 : Int32)), (.ref a9)])) (fun t_ k_ => XT.lloadN X42.here hx rfl (hb hby at_26) rfl k_) ?_
  refine own_step (T' := T32) (g' := (mkF m 29 #[.val (.long lo), .second, .val (.long hi), .second, .val (.int f), .val (.int t), .val (.ref a9), .unset, .unset, .unset] [(.int (16 : Int32)), (.long lo), (.int (2 : Int32)), (.ref a9)])) (fun t_ k_ => XT.bipushV X42.here hx rfl (16 : Int32) (hb hby at_27) (by decide) k_) ?_
  refine own_step (T' := T32) (g' := (mkF m 30 #[.val (.long lo), .second, .val (.long hi), .second, .val (.int f), .val (.int t), .val (.ref a9), .unset, .unset, .unset] [(.long (XT.ushrL lo (16 : Int32))), (.int (2 : Int32)), (.ref a9)])) (fun t_ k_ => XT.lushr X42.here hx rfl (hb hby at_29) rfl k_) ?_
  refine own_step (T' := T32) (g' := (mkF m 31 #[.val (.long lo), .second, .val (.long hi), .second, .val (.int f), .val (.int t), .val (.ref a9), .unset, .unset, .unset] [(.int (((XT.ushrL lo (16 : Int32))).toInt32)), (.int (2 : Int32)), (.ref a9)])) (fun t_ k_ => XT.l2i X42.here hx rfl (hb hby at_30) rfl k_) ?_
  refine own_step (T' := T32) (g' := (mkF m 32 #[.val (.long lo), .second, .val (.long hi), .second, .val (.int f), .val (.int t), .val (.ref a9), .unset, .unset, .unset] [(.int (((((XT.ushrL lo (16 : Int32))).toInt32)).toInt8.toInt32)), (.int (2 : Int32)), (.ref a9)])) (fun t_ k_ => XT.i2b X42.here hx rfl (hb hby at_31) rfl k_) ?_
  obtain ⟨cl44, Ar45, Lx46⟩ := id V40
  obtain ⟨T47, h48, X49, e50, W51, st52⟩ := stB X42 hx hZ e35 Ar45 (j := (2 : Int32)) (own_inb' Lx46 (n := 16) rfl (by decide) (by decide)) (g := (mkF m 32 #[.val (.long lo), .second, .val (.long hi), .second, .val (.int f), .val (.int t), .val (.ref a9), .unset, .unset, .unset] [(.int (((((XT.ushrL lo (16 : Int32))).toInt32)).toInt8.toInt32)), (.int (2 : Int32)), (.ref a9)])) rfl rfl (hb hby at_32)
  have N53 := Fr.snoc X49 N43 q11
  have F54 : n0 ≤ h48.size := Nat.le_trans F39 (Keep.of_wr W51).1
  have V55 : own_Arl Z h48 a9 .byte [(.int (nar .byte ((((lo).toInt32)).toInt8.toInt32))), (.int (nar .byte (((((XT.ushrL lo (8 : Int32))).toInt32)).toInt8.toInt32))), (.int (nar .byte (((((XT.ushrL lo (16 : Int32))).toInt32)).toInt8.toInt32))), (.int (0 : Int32)), (.int (0 : Int32)), (.int (0 : Int32)), (.int (0 : Int32)), (.int (0 : Int32)), (.int (0 : Int32)), (.int (0 : Int32)), (.int (0 : Int32)), (.int (0 : Int32)), (.int (0 : Int32)), (.int (0 : Int32)), (.int (0 : Int32)), (.int (0 : Int32))] := own_Arl.set' (j := (2 : Int32)) V40 W51 (i := 2) (by decide)
  obtain ⟨Lo56, X57, N58⟩ : ∃ Lo_, Stand p l e room_1 s m #[(.long lo), (.long hi), (.int f), (.int t)] below meth c T47 Lo_ 1 16 ∧ Fr n0 Lo_ := ⟨_, X49, N53⟩
  refine own_step (T' := T47) (g' := (mkF m 33 #[.val (.long lo), .second, .val (.long hi), .second, .val (.int f), .val (.int t), .val (.ref a9), .unset, .unset, .unset] [])) st52 ?_
  refine own_step (T' := T47) (g' := (mkF m 35 #[.val (.long lo), .second, .val (.long hi), .second, .val (.int f), .val (.int t), .val (.ref a9), .unset, .unset, .unset] [(.ref a9)])) (fun t_ k_ => XS.aload X57.here hx rfl (hb hby at_33) rfl rfl k_) ?_
  refine own_step (T' := T47) (g' := (mkF m 36 #[.val (.long lo), .second, .val (.long hi), .second, .val (.int f), .val (.int t), .val (.ref a9), .unset, .unset, .unset] [(.int (3 : Int32)), (.ref a9)])) (fun t_ k_ => XT.iconstV X57.here hx rfl (3 : Int32) (hb hby at_35) (by decide) k_) ?_
  refine own_step (T' := T47) (g' := (mkF m 37 #[.val (.long lo), .second, .val (.long hi), .second, .val (.int f), .val (.int t), .val (.ref a9), .unset, .unset, .unset] [(.long lo), (.int (3 : Int32)), (.ref a9)])) (fun t_ k_ => XT.lloadN X57.here hx rfl (hb hby at_36) rfl k_) ?_
  refine own_step (T' := T47) (g' := (mkF m 39 #[.val (.long lo), .second, .val (.long hi), .second, .val (.int f), .val (.int t), .val (.ref a9), .unset, .unset, .unset] [(.int (24 : Int32)), (.long lo), (.int (3 : Int32)), (.ref a9)])) (fun t_ k_ => XT.bipushV X57.here hx rfl (24 : Int32) (hb hby at_37) (by decide) k_) ?_
  refine own_step (T' := T47) (g' := (mkF m 40 #[.val (.long lo), .second, .val (.long hi), .second, .val (.int f), .val (.int t), .val (.ref a9), .unset, .unset, .unset] [(.long (XT.ushrL lo (24 : Int32))), (.int (3 : Int32)), (.ref a9)])) (fun t_ k_ => XT.lushr X57.here hx rfl (hb hby at_39) rfl k_) ?_
  refine own_step (T' := T47) (g' := (mkF m 41 #[.val (.long lo), .second, .val (.long hi), .second, .val (.int f), .val (.int t), .val (.ref a9), .unset, .unset, .unset] [(.int (((XT.ushrL lo (24 : Int32))).toInt32)), (.int (3 : Int32)), (.ref a9)])) (fun t_ k_ => XT.l2i X57.here hx rfl (hb hby at_40) rfl k_) ?_
  refine own_step (T' := T47) (g' := (mkF m 42 #[.val (.long lo), .second, .val (.long hi), .second, .val (.int f), .val (.int t), .val (.ref a9), .unset, .unset, .unset] [(.int (((((XT.ushrL lo (24 : Int32))).toInt32)).toInt8.toInt32)), (.int (3 : Int32)), (.ref a9)])) (fun t_ k_ => XT.i2b X57.here hx rfl (hb hby at_41) rfl k_) ?_
  obtain ⟨cl59, Ar60, Lx61⟩ := id V55
  obtain ⟨T62, h63, X64, e65, W66, st67⟩ := stB X57 hx hZ e50 Ar60 (j := (3 : Int32)) (own_inb' Lx61 (n := 16) rfl (by decide) (by decide)) (g := (mkF m 42 #[.val (.long lo), .second, .val (.long hi), .second, .val (.int f), .val (.int t), .val (.ref a9), .unset, .unset, .unset] [(.int (((((XT.ushrL lo (24 : Int32))).toInt32)).toInt8.toInt32)), (.int (3 : Int32)), (.ref a9)])) rfl rfl (hb hby at_42)
  have N68 := Fr.snoc X64 N58 q11
  have F69 : n0 ≤ h63.size := Nat.le_trans F54 (Keep.of_wr W66).1
  have V70 : own_Arl Z h63 a9 .byte [(.int (nar .byte ((((lo).toInt32)).toInt8.toInt32))), (.int (nar .byte (((((XT.ushrL lo (8 : Int32))).toInt32)).toInt8.toInt32))), (.int (nar .byte (((((XT.ushrL lo (16 : Int32))).toInt32)).toInt8.toInt32))), (.int (nar .byte (((((XT.ushrL lo (24 : Int32))).toInt32)).toInt8.toInt32))), (.int (0 : Int32)), (.int (0 : Int32)), (.int (0 : Int32)), (.int (0 : Int32)), (.int (0 : Int32)), (.int (0 : Int32)), (.int (0 : Int32)), (.int (0 : Int32)), (.int (0 : Int32)), (.int (0 : Int32)), (.int (0 : Int32)), (.int (0 : Int32))] := own_Arl.set' (j := (3 : Int32)) V55 W66 (i := 3) (by decide)
  obtain ⟨Lo71, X72, N73⟩ : ∃ Lo_, Stand p l e room_1 s m #[(.long lo), (.long hi), (.int f), (.int t)] below meth c T62 Lo_ 1 16 ∧ Fr n0 Lo_ := ⟨_, X64, N68⟩
  refine own_step (T' := T62) (g' := (mkF m 43 #[.val (.long lo), .second, .val (.long hi), .second, .val (.int f), .val (.int t), .val (.ref a9), .unset, .unset, .unset] [])) st67 ?_
  refine own_step (T' := T62) (g' := (mkF m 45 #[.val (.long lo), .second, .val (.long hi), .second, .val (.int f), .val (.int t), .val (.ref a9), .unset, .unset, .unset] [(.ref a9)])) (fun t_ k_ => XS.aload X72.here hx rfl (hb hby at_43) rfl rfl k_) ?_
  refine own_step (T' := T62) (g' := (mkF m 46 #[.val (.long lo), .second, .val (.long hi), .second, .val (.int f), .val (.int t), .val (.ref a9), .unset, .unset, .unset] [(.int (4 : Int32)), (.ref a9)])) (fun t_ k_ => XT.iconstV X72.here hx rfl (4 : Int32) (hb hby at_45) (by decide) k_) ?_
  refine own_step (T' := T62) (g' := (mkF m 47 #[.val (.long lo), .second, .val (.long hi), .second, .val (.int f), .val (.int t), .val (.ref a9), .unset, .unset, .unset] [(.long lo), (.int (4 : Int32)), (.ref a9)])) (fun t_ k_ => XT.lloadN X72.here hx rfl (hb hby at_46) rfl k_) ?_
  refine own_step (T' := T62) (g' := (mkF m 49 #[.val (.long lo), .second, .val (.long hi), .second, .val (.int f), .val (.int t), .val (.ref a9), .unset, .unset, .unset] [(.int (32 : Int32)), (.long lo), (.int (4 : Int32)), (.ref a9)])) (fun t_ k_ => XT.bipushV X72.here hx rfl (32 : Int32) (hb hby at_47) (by decide) k_) ?_
  refine own_step (T' := T62) (g' := (mkF m 50 #[.val (.long lo), .second, .val (.long hi), .second, .val (.int f), .val (.int t), .val (.ref a9), .unset, .unset, .unset] [(.long (XT.ushrL lo (32 : Int32))), (.int (4 : Int32)), (.ref a9)])) (fun t_ k_ => XT.lushr X72.here hx rfl (hb hby at_49) rfl k_) ?_
  refine own_step (T' := T62) (g' := (mkF m 51 #[.val (.long lo), .second, .val (.long hi), .second, .val (.int f), .val (.int t), .val (.ref a9), .unset, .unset, .unset] [(.int (((XT.ushrL lo (32 : Int32))).toInt32)), (.int (4 : Int32)), (.ref a9)])) (fun t_ k_ => XT.l2i X72.here hx rfl (hb hby at_50) rfl k_) ?_
  refine own_step (T' := T62) (g' := (mkF m 52 #[.val (.long lo), .second, .val (.long hi), .second, .val (.int f), .val (.int t), .val (.ref a9), .unset, .unset, .unset] [(.int (((((XT.ushrL lo (32 : Int32))).toInt32)).toInt8.toInt32)), (.int (4 : Int32)), (.ref a9)])) (fun t_ k_ => XT.i2b X72.here hx rfl (hb hby at_51) rfl k_) ?_
  obtain ⟨cl74, Ar75, Lx76⟩ := id V70
  obtain ⟨T77, h78, X79, e80, W81, st82⟩ := stB X72 hx hZ e65 Ar75 (j := (4 : Int32)) (own_inb' Lx76 (n := 16) rfl (by decide) (by decide)) (g := (mkF m 52 #[.val (.long lo), .second, .val (.long hi), .second, .val (.int f), .val (.int t), .val (.ref a9), .unset, .unset, .unset] [(.int (((((XT.ushrL lo (32 : Int32))).toInt32)).toInt8.toInt32)), (.int (4 : Int32)), (.ref a9)])) rfl rfl (hb hby at_52)
  have N83 := Fr.snoc X79 N73 q11
  have F84 : n0 ≤ h78.size := Nat.le_trans F69 (Keep.of_wr W81).1
  have V85 : own_Arl Z h78 a9 .byte [(.int (nar .byte ((((lo).toInt32)).toInt8.toInt32))), (.int (nar .byte (((((XT.ushrL lo (8 : Int32))).toInt32)).toInt8.toInt32))), (.int (nar .byte (((((XT.ushrL lo (16 : Int32))).toInt32)).toInt8.toInt32))), (.int (nar .byte (((((XT.ushrL lo (24 : Int32))).toInt32)).toInt8.toInt32))), (.int (nar .byte (((((XT.ushrL lo (32 : Int32))).toInt32)).toInt8.toInt32))), (.int (0 : Int32)), (.int (0 : Int32)), (.int (0 : Int32)), (.int (0 : Int32)), (.int (0 : Int32)), (.int (0 : Int32)), (.int (0 : Int32)), (.int (0 : Int32)), (.int (0 : Int32)), (.int (0 : Int32)), (.int (0 : Int32))] := own_Arl.set' (j := (4 : Int32)) V70 W81 (i := 4) (by decide)
  obtain ⟨Lo86, X87, N88⟩ : ∃ Lo_, Stand p l e room_1 s m #[(.long lo), (.long hi), (.int f), (.int t)] below meth c T77 Lo_ 1 16 ∧ Fr n0 Lo_ := ⟨_, X79, N83⟩
  refine own_step (T' := T77) (g' := (mkF m 53 #[.val (.long lo), .second, .val (.long hi), .second, .val (.int f), .val (.int t), .val (.ref a9), .unset, .unset, .unset] [])) st82 ?_
  refine own_step (T' := T77) (g' := (mkF m 55 #[.val (.long lo), .second, .val (.long hi), .second, .val (.int f), .val (.int t), .val (.ref a9), .unset, .unset, .unset] [(.ref a9)])) (fun t_ k_ => XS.aload X87.here hx rfl (hb hby at_53) rfl rfl k_) ?_
  refine own_step (T' := T77) (g' := (mkF m 56 #[.val (.long lo), .second, .val (.long hi), .second, .val (.int f), .val (.int t), .val (.ref a9), .unset, .unset, .unset] [(.int (5 : Int32)), (.ref a9)])) (fun t_ k_ => XT.iconstV X87.here hx rfl (5 : Int32) (hb hby at_55) (by decide) k_) ?_
  refine own_step (T' := T77) (g' := (mkF m 57 #[.val (.long lo), .second, .val (.long hi), .second, .val (.int f), .val (.int t), .val (.ref a9), .unset, .unset, .unset] [(.long lo), (.int (5 : Int32)), (.ref a9)])) (fun t_ k_ => XT.lloadN X87.here hx rfl (hb hby at_56) rfl k_) ?_
  refine own_step (T' := T77) (g' := (mkF m 59 #[.val (.long lo), .second, .val (.long hi), .second, .val (.int f), .val (.int t), .val (.ref a9), .unset, .unset, .unset] [(.int (40 : Int32)), (.long lo), (.int (5 : Int32)), (.ref a9)])) (fun t_ k_ => XT.bipushV X87.here hx rfl (40 : Int32) (hb hby at_57) (by decide) k_) ?_
  refine own_step (T' := T77) (g' := (mkF m 60 #[.val (.long lo), .second, .val (.long hi), .second, .val (.int f), .val (.int t), .val (.ref a9), .unset, .unset, .unset] [(.long (XT.ushrL lo (40 : Int32))), (.int (5 : Int32)), (.ref a9)])) (fun t_ k_ => XT.lushr X87.here hx rfl (hb hby at_59) rfl k_) ?_
  refine own_step (T' := T77) (g' := (mkF m 61 #[.val (.long lo), .second, .val (.long hi), .second, .val (.int f), .val (.int t), .val (.ref a9), .unset, .unset, .unset] [(.int (((XT.ushrL lo (40 : Int32))).toInt32)), (.int (5 : Int32)), (.ref a9)])) (fun t_ k_ => XT.l2i X87.here hx rfl (hb hby at_60) rfl k_) ?_
  refine own_step (T' := T77) (g' := (mkF m 62 #[.val (.long lo), .second, .val (.long hi), .second, .val (.int f), .val (.int t), .val (.ref a9), .unset, .unset, .unset] [(.int (((((XT.ushrL lo (40 : Int32))).toInt32)).toInt8.toInt32)), (.int (5 : Int32)), (.ref a9)])) (fun t_ k_ => XT.i2b X87.here hx rfl (hb hby at_61) rfl k_) ?_
  obtain ⟨cl89, Ar90, Lx91⟩ := id V85
  obtain ⟨T92, h93, X94, e95, W96, st97⟩ := stB X87 hx hZ e80 Ar90 (j := (5 : Int32)) (own_inb' Lx91 (n := 16) rfl (by decide) (by decide)) (g := (mkF m 62 #[.val (.long lo), .second, .val (.long hi), .second, .val (.int f), .val (.int t), .val (.ref a9), .unset, .unset, .unset] [(.int (((((XT.ushrL lo (40 : Int32))).toInt32)).toInt8.toInt32)), (.int (5 : Int32)), (.ref a9)])) rfl rfl (hb hby at_62)
  have N98 := Fr.snoc X94 N88 q11
  have F99 : n0 ≤ h93.size := Nat.le_trans F84 (Keep.of_wr W96).1
  have V100 : own_Arl Z h93 a9 .byte [(.int (nar .byte ((((lo).toInt32)).toInt8.toInt32))), (.int (nar .byte (((((XT.ushrL lo (8 : Int32))).toInt32)).toInt8.toInt32))), (.int (nar .byte (((((XT.ushrL lo (16 : Int32))).toInt32)).toInt8.toInt32))), (.int (nar .byte (((((XT.ushrL lo (24 : Int32))).toInt32)).toInt8.toInt32))), (.int (nar .byte (((((XT.ushrL lo (32 : Int32))).toInt32)).toInt8.toInt32))), (.int (nar .byte (((((XT.ushrL lo (40 : Int32))).toInt32)).toInt8.toInt32))), (.int (0 : Int32)), (.int (0 : Int32)), (.int (0 : Int32)), (.int (0 : Int32)), (.int (0 : Int32)), (.int (0 : Int32)), (.int (0 : Int32)), (.int (0 : Int32)), (.int (0 : Int32)), (.int (0 : Int32))] := own_Arl.set' (j := (5 : Int32)) V85 W96 (i := 5) (by decide)
  obtain ⟨Lo101, X102, N103⟩ : ∃ Lo_, Stand p l e room_1 s m #[(.long lo), (.long hi), (.int f), (.int t)] below meth c T92 Lo_ 1 16 ∧ Fr n0 Lo_ := ⟨_, X94, N98⟩
  refine own_step (T' := T92) (g' := (mkF m 63 #[.val (.long lo), .second, .val (.long hi), .second, .val (.int f), .val (.int t), .val (.ref a9), .unset, .unset, .unset] [])) st97 ?_
  refine own_step (T' := T92) (g' := (mkF m 65 #[.val (.long lo), .second, .val (.long hi), .second, .val (.int f), .val (.int t), .val (.ref a9), .unset, .unset, .unset] [(.ref a9)])) (fun t_ k_ => XS.aload X102.here hx rfl (hb hby at_63) rfl rfl k_) ?_
  refine own_step (T' := T92) (g' := (mkF m 67 #[.val (.long lo), .second, .val (.long hi), .second, .val (.int f), .val (.int t), .val (.ref a9), .unset, .unset, .unset] [(.int (6 : Int32)), (.ref a9)])) (fun t_ k_ => XT.bipushV X102.here hx rfl (6 : Int32) (hb hby at_65) (by decide) k_) ?_
  refine own_step (T' := T92) (g' := (mkF m 68 #[.val (.long lo), .second, .val (.long hi), .second, .val (.int f), .val (.int t), .val (.ref a9), .unset, .unset, .unset] [(.long lo), (.int (6 : Int32)), (.ref a9)])) (fun t_ k_ => XT.lloadN X102.here hx rfl (hb hby at_67) rfl k_) ?_
  refine own_step (T' := T92) (g' := (mkF m 70 #[.val (.long lo), .second, .val (.long hi), .second, .val (.int f), .val (.int t), .val (.ref a9), .unset, .unset, .unset] [(.int (48 : Int32)), (.long lo), (.int (6 : Int32)), (.ref a9)])) (fun t_ k_ => XT.bipushV X102.here hx rfl (48 : Int32) (hb hby at_68) (by decide) k_) ?_
  refine own_step (T' := T92) (g' := (mkF m 71 #[.val (.long lo), .second, .val (.long hi), .second, .val (.int f), .val (.int t), .val (.ref a9), .unset, .unset, .unset] [(.long (XT.ushrL lo (48 : Int32))), (.int (6 : Int32)), (.ref a9)])) (fun t_ k_ => XT.lushr X102.here hx rfl (hb hby at_70) rfl k_) ?_
  refine own_step (T' := T92) (g' := (mkF m 72 #[.val (.long lo), .second, .val (.long hi), .second, .val (.int f), .val (.int t), .val (.ref a9), .unset, .unset, .unset] [(.int (((XT.ushrL lo (48 : Int32))).toInt32)), (.int (6 : Int32)), (.ref a9)])) (fun t_ k_ => XT.l2i X102.here hx rfl (hb hby at_71) rfl k_) ?_
  refine own_step (T' := T92) (g' := (mkF m 73 #[.val (.long lo), .second, .val (.long hi), .second, .val (.int f), .val (.int t), .val (.ref a9), .unset, .unset, .unset] [(.int (((((XT.ushrL lo (48 : Int32))).toInt32)).toInt8.toInt32)), (.int (6 : Int32)), (.ref a9)])) (fun t_ k_ => XT.i2b X102.here hx rfl (hb hby at_72) rfl k_) ?_
  obtain ⟨cl104, Ar105, Lx106⟩ := id V100
  obtain ⟨T107, h108, X109, e110, W111, st112⟩ := stB X102 hx hZ e95 Ar105 (j := (6 : Int32)) (own_inb' Lx106 (n := 16) rfl (by decide) (by decide)) (g := (mkF m 73 #[.val (.long lo), .second, .val (.long hi), .second, .val (.int f), .val (.int t), .val (.ref a9), .unset, .unset, .unset] [(.int (((((XT.ushrL lo (48 : Int32))).toInt32)).toInt8.toInt32)), (.int (6 : Int32)), (.ref a9)])) rfl rfl (hb hby at_73)
  have N113 := Fr.snoc X109 N103 q11
  have F114 : n0 ≤ h108.size := Nat.le_trans F99 (Keep.of_wr W111).1
  have V115 : own_Arl Z h108 a9 .byte [(.int (nar .byte ((((lo).toInt32)).toInt8.toInt32))), (.int (nar .byte (((((XT.ushrL lo (8 : Int32))).toInt32)).toInt8.toInt32))), (.int (nar .byte (((((XT.ushrL lo (16 : Int32))).toInt32)).toInt8.toInt32))), (.int (nar .byte (((((XT.ushrL lo (24 : Int32))).toInt32)).toInt8.toInt32))), (.int (nar .byte (((((XT.ushrL lo (32 : Int32))).toInt32)).toInt8.toInt32))), (.int (nar .byte (((((XT.ushrL lo (40 : Int32))).toInt32)).toInt8.toInt32))), (.int (nar .byte (((((XT.ushrL lo (48 : Int32))).toInt32)).toInt8.toInt32))), (.int (0 : Int32)), (.int (0 : Int32)), (.int (0 : Int32)), (.int (0 : Int32)), (.int (0 : Int32)), (.int (0 : Int32)), (.int (0 : Int32)), (.int (0 : Int32)), (.int (0 : Int32))] := own_Arl.set' (j := (6 : Int32)) V100 W111 (i := 6) (by decide)
  obtain ⟨Lo116, X117, N118⟩ : ∃ Lo_, Stand p l e room_1 s m #[(.long lo), (.long hi), (.int f), (.int t)] below meth c T107 Lo_ 1 16 ∧ Fr n0 Lo_ := ⟨_, X109, N113⟩
  refine own_step (T' := T107) (g' := (mkF m 74 #[.val (.long lo), .second, .val (.long hi), .second, .val (.int f), .val (.int t), .val (.ref a9), .unset, .unset, .unset] [])) st112 ?_
  refine own_step (T' := T107) (g' := (mkF m 76 #[.val (.long lo), .second, .val (.long hi), .second, .val (.int f), .val (.int t), .val (.ref a9), .unset, .unset, .unset] [(.ref a9)])) (fun t_ k_ => XS.aload X117.here hx rfl (hb hby at_74) rfl rfl k_) ?_
  refine own_step (T' := T107) (g' := (mkF m 78 #[.val (.long lo), .second, .val (.long hi), .second, .val (.int f), .val (.int t), .val (.ref a9), .unset, .unset, .unset] [(.int (7 : Int32)), (.ref a9)])) (fun t_ k_ => XT.bipushV X117.here hx rfl (7 : Int32) (hb hby at_76) (by decide) k_) ?_
  refine own_step (T' := T107) (g' := (mkF m 79 #[.val (.long lo), .second, .val (.long hi), .second, .val (.int f), .val (.int t), .val (.ref a9), .unset, .unset, .unset] [(.long lo), (.int (7 : Int32)), (.ref a9)])) (fun t_ k_ => XT.lloadN X117.here hx rfl (hb hby at_78) rfl k_) ?_
  refine own_step (T' := T107) (g' := (mkF m 81 #[.val (.long lo), .second, .val (.long hi), .second, .val (.int f), .val (.int t), .val (.ref a9), .unset, .unset, .unset] [(.int (56 : Int32)), (.long lo), (.int (7 : Int32)), (.ref a9)])) (fun t_ k_ => XT.bipushV X117.here hx rfl (56 : Int32) (hb hby at_79) (by decide) k_) ?_
  refine own_step (T' := T107) (g' := (mkF m 82 #[.val (.long lo), .second, .val (.long hi), .second, .val (.int f), .val (.int t), .val (.ref a9), .unset, .unset, .unset] [(.long (XT.ushrL lo (56 : Int32))), (.int (7 : Int32)), (.ref a9)])) (fun t_ k_ => XT.lushr X117.here hx rfl (hb hby at_81) rfl k_) ?_
  refine own_step (T' := T107) (g' := (mkF m 83 #[.val (.long lo), .second, .val (.long hi), .second, .val (.int f), .val (.int t), .val (.ref a9), .unset, .unset, .unset] [(.int (((XT.ushrL lo (56 : Int32))).toInt32)), (.int (7 : Int32)), (.ref a9)])) (fun t_ k_ => XT.l2i X117.here hx rfl (hb hby at_82) rfl k_) ?_
  refine own_step (T' := T107) (g' := (mkF m 84 #[.val (.long lo), .second, .val (.long hi), .second, .val (.int f), .val (.int t), .val (.ref a9), .unset, .unset, .unset] [(.int (((((XT.ushrL lo (56 : Int32))).toInt32)).toInt8.toInt32)), (.int (7 : Int32)), (.ref a9)])) (fun t_ k_ => XT.i2b X117.here hx rfl (hb hby at_83) rfl k_) ?_
  obtain ⟨cl119, Ar120, Lx121⟩ := id V115
  obtain ⟨T122, h123, X124, e125, W126, st127⟩ := stB X117 hx hZ e110 Ar120 (j := (7 : Int32)) (own_inb' Lx121 (n := 16) rfl (by decide) (by decide)) (g := (mkF m 84 #[.val (.long lo), .second, .val (.long hi), .second, .val (.int f), .val (.int t), .val (.ref a9), .unset, .unset, .unset] [(.int (((((XT.ushrL lo (56 : Int32))).toInt32)).toInt8.toInt32)), (.int (7 : Int32)), (.ref a9)])) rfl rfl (hb hby at_84)
  have N128 := Fr.snoc X124 N118 q11
  have F129 : n0 ≤ h123.size := Nat.le_trans F114 (Keep.of_wr W126).1
  have V130 : own_Arl Z h123 a9 .byte [(.int (nar .byte ((((lo).toInt32)).toInt8.toInt32))), (.int (nar .byte (((((XT.ushrL lo (8 : Int32))).toInt32)).toInt8.toInt32))), (.int (nar .byte (((((XT.ushrL lo (16 : Int32))).toInt32)).toInt8.toInt32))), (.int (nar .byte (((((XT.ushrL lo (24 : Int32))).toInt32)).toInt8.toInt32))), (.int (nar .byte (((((XT.ushrL lo (32 : Int32))).toInt32)).toInt8.toInt32))), (.int (nar .byte (((((XT.ushrL lo (40 : Int32))).toInt32)).toInt8.toInt32))), (.int (nar .byte (((((XT.ushrL lo (48 : Int32))).toInt32)).toInt8.toInt32))), (.int (nar .byte (((((XT.ushrL lo (56 : Int32))).toInt32)).toInt8.toInt32))), (.int (0 : Int32)), (.int (0 : Int32)), (.int (0 : Int32)), (.int (0 : Int32)), (.int (0 : Int32)), (.int (0 : Int32)), (.int (0 : Int32)), (.int (0 : Int32))] := own_Arl.set' (j := (7 : Int32)) V115 W126 (i := 7) (by decide)
  obtain ⟨Lo131, X132, N133⟩ : ∃ Lo_, Stand p l e room_1 s m #[(.long lo), (.long hi), (.int f), (.int t)] below meth c T122 Lo_ 1 16 ∧ Fr n0 Lo_ := ⟨_, X124, N128⟩
  refine own_step (T' := T122) (g' := (mkF m 85 #[.val (.long lo), .second, .val (.long hi), .second, .val (.int f), .val (.int t), .val (.ref a9), .unset, .unset, .unset] [])) st127 ?_
  refine own_step (T' := T122) (g' := (mkF m 87 #[.val (.long lo), .second, .val (.long hi), .second, .val (.int f), .val (.int t), .val (.ref a9), .unset, .unset, .unset] [(.ref a9)])) (fun t_ k_ => XS.aload X132.here hx rfl (hb hby at_85) rfl rfl k_) ?_
  refine own_step (T' := T122) (g' := (mkF m 89 #[.val (.long lo), .second, .val (.long hi), .second, .val (.int f), .val (.int t), .val (.ref a9), .unset, .unset, .unset] [(.int (8 : Int32)), (.ref a9)])) (fun t_ k_ => XT.bipushV X132.here hx rfl (8 : Int32) (hb hby at_87) (by decide) k_) ?_
  refine own_step (T' := T122) (g' := (mkF m 90 #[.val (.long lo), .second, .val (.long hi), .second, .val (.int f), .val (.int t), .val (.ref a9), .unset, .unset, .unset] [(.long hi), (.int (8 : Int32)), (.ref a9)])) (fun t_ k_ => XT.lloadN X132.here hx rfl (hb hby at_89) rfl k_) ?_
  refine own_step (T' := T122) (g' := (mkF m 91 #[.val (.long lo), .second, .val (.long hi), .second, .val (.int f), .val (.int t), .val (.ref a9), .unset, .unset, .unset] [(.int ((hi).toInt32)), (.int (8 : Int32)), (.ref a9)])) (fun t_ k_ => XT.l2i X132.here hx rfl (hb hby at_90) rfl k_) ?_
  refine own_step (T' := T122) (g' := (mkF m 92 #[.val (.long lo), .second, .val (.long hi), .second, .val (.int f), .val (.int t), .val (.ref a9), .unset, .unset, .unset] [(.int ((((hi).toInt32)).toInt8.toInt32)), (.int (8 : Int32)), (.ref a9)])) (fun t_ k_ => XT.i2b X132.here hx rfl (hb hby at_91) rfl k_) ?_
  obtain ⟨cl134, Ar135, Lx136⟩ := id V130
  obtain ⟨T137, h138, X139, e140, W141, st142⟩ := stB X132 hx hZ e125 Ar135 (j := (8 : Int32)) (own_inb' Lx136 (n := 16) rfl (by decide) (by decide)) (g := (mkF m 92 #[.val (.long lo), .second, .val (.long hi), .second, .val (.int f), .val (.int t), .val (.ref a9), .unset, .unset, .unset] [(.int ((((hi).toInt32)).toInt8.toInt32)), (.int (8 : Int32)), (.ref a9)])) rfl rfl (hb hby at_92)
  have N143 := Fr.snoc X139 N133 q11
  have F144 : n0 ≤ h138.size := Nat.le_trans F129 (Keep.of_wr W141).1
  have V145 : own_Arl Z h138 a9 .byte [(.int (nar .byte ((((lo).toInt32)).toInt8.toInt32))), (.int (nar .byte (((((XT.ushrL lo (8 : Int32))).toInt32)).toInt8.toInt32))), (.int (nar .byte (((((XT.ushrL lo (16 : Int32))).toInt32)).toInt8.toInt32))), (.int (nar .byte (((((XT.ushrL lo (24 : Int32))).toInt32)).toInt8.toInt32))), (.int (nar .byte (((((XT.ushrL lo (32 : Int32))).toInt32)).toInt8.toInt32))), (.int (nar .byte (((((XT.ushrL lo (40 : Int32))).toInt32)).toInt8.toInt32))), (.int (nar .byte (((((XT.ushrL lo (48 : Int32))).toInt32)).toInt8.toInt32))), (.int (nar .byte (((((XT.ushrL lo (56 : Int32))).toInt32)).toInt8.toInt32))), (.int (nar .byte ((((hi).toInt32)).toInt8.toInt32))), (.int (0 : Int32)), (.int (0 : Int32)), (.int (0 : Int32)), (.int (0 : Int32)), (.int (0 : Int32)), (.int (0 : Int32)), (.int (0 : Int32))] := own_Arl.set' (j := (8 : Int32)) V130 W141 (i := 8) (by decide)
  obtain ⟨Lo146, X147, N148⟩ : ∃ Lo_, Stand p l e room_1 s m #[(.long lo), (.long hi), (.int f), (.int t)] below meth c T137 Lo_ 1 16 ∧ Fr n0 Lo_ := ⟨_, X139, N143⟩
  refine own_step (T' := T137) (g' := (mkF m 93 #[.val (.long lo), .second, .val (.long hi), .second, .val (.int f), .val (.int t), .val (.ref a9), .unset, .unset, .unset] [])) st142 ?_
  refine own_step (T' := T137) (g' := (mkF m 95 #[.val (.long lo), .second, .val (.long hi), .second, .val (.int f), .val (.int t), .val (.ref a9), .unset, .unset, .unset] [(.ref a9)])) (fun t_ k_ => XS.aload X147.here hx rfl (hb hby at_93) rfl rfl k_) ?_
  refine own_step (T' := T137) (g' := (mkF m 97 #[.val (.long lo), .second, .val (.long hi), .second, .val (.int f), .val (.int t), .val (.ref a9), .unset, .unset, .unset] [(.int (9 : Int32)), (.ref a9)])) (fun t_ k_ => XT.bipushV X147.here hx rfl (9 : Int32) (hb hby at_95) (by decide) k_) ?_
  refine own_step (T' := T137) (g' := (mkF m 98 #[.val (.long lo), .second, .val (.long hi), .second, .val (.int f), .val (.int t), .val (.ref a9), .unset, .unset, .unset] [(.long hi), (.int (9 : Int32)), (.ref a9)])) (fun t_ k_ => XT.lloadN X147.here hx rfl (hb hby at_97) rfl k_) ?_
  refine own_step (T' := T137) (g' := (mkF m 100 #[.val (.long lo), .second, .val (.long hi), .second, .val (.int f), .val (.int t), .val (.ref a9), .unset, .unset, .unset] [(.int (8 : Int32)), (.long hi), (.int (9 : Int32)), (.ref a9)])) (fun t_ k_ => XT.bipushV X147.here hx rfl (8 : Int32) (hb hby at_98) (by decide) k_) ?_
  refine own_step (T' := T137) (g' := (mkF m 101 #[.val (.long lo), .second, .val (.long hi), .second, .val (.int f), .val (.int t), .val (.ref a9), .unset, .unset, .unset] [(.long (XT.ushrL hi (8 : Int32))), (.int (9 : Int32)), (.ref a9)])) (fun t_ k_ => XT.lushr X147.here hx rfl (hb hby at_100) rfl k_) ?_
  refine own_step (T' := T137) (g' := (mkF m 102 #[.val (.long lo), .second, .val (.long hi), .second, .val (.int f), .val (.int t), .val (.ref a9), .unset, .unset, .unset] [(.int (((XT.ushrL hi (8 : Int32))).toInt32)), (.int (9 : Int32)), (.ref a9)])) (fun t_ k_ => XT.l2i X147.here hx rfl (hb hby at_101) rfl k_) ?_
  refine own_step (T' := T137) (g' := (mkF m 103 #[.val (.long lo), .second, .val (.long hi), .second, .val (.int f), .val (.int t), .val (.ref a9), .unset, .unset, .unset] [(.int (((((XT.ushrL hi (8 : Int32))).toInt32)).toInt8.toInt32)), (.int (9 : Int32)), (.ref a9)])) (fun t_ k_ => XT.i2b X147.here hx rfl (hb hby at_102) rfl k_) ?_
  obtain ⟨cl149, Ar150, Lx151⟩ := id V145
  obtain ⟨T152, h153, X154, e155, W156, st157⟩ := stB X147 hx hZ e140 Ar150 (j := (9 : Int32)) (own_inb' Lx151 (n := 16) rfl (by decide) (by decide)) (g := (mkF m 103 #[.val (.long lo), .second, .val (.long hi), .second, .val (.int f), .val (.int t), .val (.ref a9), .unset, .unset, .unset] [(.int (((((XT.ushrL hi (8 : Int32))).toInt32)).toInt8.toInt32)), (.int (9 : Int32)), (.ref a9)])) rfl rfl (hb hby at_103)
  have N158 := Fr.snoc X154 N148 q11
  have F159 : n0 ≤ h153.size := Nat.le_trans F144 (Keep.of_wr W156).1
  have V160 : own_Arl Z h153 a9 .byte [(.int (nar .byte ((((lo).toInt32)).toInt8.toInt32))), (.int (nar .byte (((((XT.ushrL lo (8 : Int32))).toInt32)).toInt8.toInt32))), (.int (nar .byte (((((XT.ushrL lo (16 : Int32))).toInt32)).toInt8.toInt32))), (.int (nar .byte (((((XT.ushrL lo (24 : Int32))).toInt32)).toInt8.toInt32))), (.int (nar .byte (((((XT.ushrL lo (32 : Int32))).toInt32)).toInt8.toInt32))), (.int (nar .byte (((((XT.ushrL lo (40 : Int32))).toInt32)).toInt8.toInt32))), (.int (nar .byte (((((XT.ushrL lo (48 : Int32))).toInt32)).toInt8.toInt32))), (.int (nar .byte (((((XT.ushrL lo (56 : Int32))).toInt32)).toInt8.toInt32))), (.int (nar .byte ((((hi).toInt32)).toInt8.toInt32))), (.int (nar .byte (((((XT.ushrL hi (8 : Int32))).toInt32)).toInt8.toInt32))), (.int (0 : Int32)), (.int (0 : Int32)), (.int (0 : Int32)), (.int (0 : Int32)), (.int (0 : Int32)), (.int (0 : Int32))] := own_Arl.set' (j := (9 : Int32)) V145 W156 (i := 9) (by decide)
  obtain ⟨Lo161, X162, N163⟩ : ∃ Lo_, Stand p l e room_1 s m #[(.long lo), (.long hi), (.int f), (.int t)] below meth c T152 Lo_ 1 16 ∧ Fr n0 Lo_ := ⟨_, X154, N158⟩
  refine own_step (T' := T152) (g' := (mkF m 104 #[.val (.long lo), .second, .val (.long hi), .second, .val (.int f), .val (.int t), .val (.ref a9), .unset, .unset, .unset] [])) st157 ?_
  refine own_step (T' := T152) (g' := (mkF m 106 #[.val (.long lo), .second, .val (.long hi), .second, .val (.int f), .val (.int t), .val (.ref a9), .unset, .unset, .unset] [(.ref a9)])) (fun t_ k_ => XS.aload X162.here hx rfl (hb hby at_104) rfl rfl k_) ?_
  refine own_step (T' := T152) (g' := (mkF m 108 #[.val (.long lo), .second, .val (.long hi), .second, .val (.int f), .val (.int t), .val (.ref a9), .unset, .unset, .unset] [(.int (10 : Int32)), (.ref a9)])) (fun t_ k_ => XT.bipushV X162.here hx rfl (10 : Int32) (hb hby at_106) (by decide) k_) ?_
  refine own_step (T' := T152) (g' := (mkF m 109 #[.val (.long lo), .second, .val (.long hi), .second, .val (.int f), .val (.int t), .val (.ref a9), .unset, .unset, .unset] [(.long hi), (.int (10 : Int32)), (.ref a9)])) (fun t_ k_ => XT.lloadN X162.here hx rfl (hb hby at_108) rfl k_) ?_
  refine own_step (T' := T152) (g' := (mkF m 111 #[.val (.long lo), .second, .val (.long hi), .second, .val (.int f), .val (.int t), .val (.ref a9), .unset, .unset, .unset] [(.int (16 : Int32)), (.long hi), (.int (10 : Int32)), (.ref a9)])) (fun t_ k_ => XT.bipushV X162.here hx rfl (16 : Int32) (hb hby at_109) (by decide) k_) ?_
  refine own_step (T' := T152) (g' := (mkF m 112 #[.val (.long lo), .second, .val (.long hi), .second, .val (.int f), .val (.int t), .val (.ref a9), .unset, .unset, .unset] [(.long (XT.ushrL hi (16 : Int32))), (.int (10 : Int32)), (.ref a9)])) (fun t_ k_ => XT.lushr X162.here hx rfl (hb hby at_111) rfl k_) ?_
  refine own_step (T' := T152) (g' := (mkF m 113 #[.val (.long lo), .second, .val (.long hi), .second, .val (.int f), .val (.int t), .val (.ref a9), .unset, .unset, .unset] [(.int (((XT.ushrL hi (16 : Int32))).toInt32)), (.int (10 : Int32)), (.ref a9)])) (fun t_ k_ => XT.l2i X162.here hx rfl (hb hby at_112) rfl k_) ?_
  refine own_step (T' := T152) (g' := (mkF m 114 #[.val (.long lo), .second, .val (.long hi), .second, .val (.int f), .val (.int t), .val (.ref a9), .unset, .unset, .unset] [(.int (((((XT.ushrL hi (16 : Int32))).toInt32)).toInt8.toInt32)), (.int (10 : Int32)), (.ref a9)])) (fun t_ k_ => XT.i2b X162.here hx rfl (hb hby at_113) rfl k_) ?_
  obtain ⟨cl164, Ar165, Lx166⟩ := id V160
  obtain ⟨T167, h168, X169, e170, W171, st172⟩ := stB X162 hx hZ e155 Ar165 (j := (10 : Int32)) (own_inb' Lx166 (n := 16) rfl (by decide) (by decide)) (g := (mkF m 114 #[.val (.long lo), .second, .val (.long hi), .second, .val (.int f), .val (.int t), .val (.ref a9), .unset, .unset, .unset] [(.int (((((XT.ushrL hi (16 : Int32))).toInt32)).toInt8.toInt32)), (.int (10 : Int32)), (.ref a9)])) rfl rfl (hb hby at_114)
  have N173 := Fr.snoc X169 N163 q11
  have F174 : n0 ≤ h168.size := Nat.le_trans F159 (Keep.of_wr W171).1
  have V175 : own_Arl Z h168 a9 .byte [(.int (nar .byte ((((lo).toInt32)).toInt8.toInt32))), (.int (nar .byte (((((XT.ushrL lo (8 : Int32))).toInt32)).toInt8.toInt32))), (.int (nar .byte (((((XT.ushrL lo (16 : Int32))).toInt32)).toInt8.toInt32))), (.int (nar .byte (((((XT.ushrL lo (24 : Int32))).toInt32)).toInt8.toInt32))), (.int (nar .byte (((((XT.ushrL lo (32 : Int32))).toInt32)).toInt8.toInt32))), (.int (nar .byte (((((XT.ushrL lo (40 : Int32))).toInt32)).toInt8.toInt32))), (.int (nar .byte (((((XT.ushrL lo (48 : Int32))).toInt32)).toInt8.toInt32))), (.int (nar .byte (((((XT.ushrL lo (56 : Int32))).toInt32)).toInt8.toInt32))), (.int (nar .byte ((((hi).toInt32)).toInt8.toInt32))), (.int (nar .byte (((((XT.ushrL hi (8 : Int32))).toInt32)).toInt8.toInt32))), (.int (nar .byte (((((XT.ushrL hi (16 : Int32))).toInt32)).toInt8.toInt32))), (.int (0 : Int32)), (.int (0 : Int32)), (.int (0 : Int32)), (.int (0 : Int32)), (.int (0 : Int32))] := own_Arl.set' (j := (10 : Int32)) V160 W171 (i := 10) (by decide)
  obtain ⟨Lo176, X177, N178⟩ : ∃ Lo_, Stand p l e room_1 s m #[(.long lo), (.long hi), (.int f), (.int t)] below meth c T167 Lo_ 1 16 ∧ Fr n0 Lo_ := ⟨_, X169, N173⟩
  refine own_step (T' := T167) (g' := (mkF m 115 #[.val (.long lo), .second, .val (.long hi), .second, .val (.int f), .val (.int t), .val (.ref a9), .unset, .unset, .unset] [])) st172 ?_
  refine own_step (T' := T167) (g' := (mkF m 117 #[.val (.long lo), .second, .val (.long hi), .second, .val (.int f), .val (.int t), .val (.ref a9), .unset, .unset, .unset] [(.ref a9)])) (fun t_ k_ => XS.aload X177.here hx rfl (hb hby at_115) rfl rfl k_) ?_
  refine own_step (T' := T167) (g' := (mkF m 119 #[.val (.long lo), .second, .val (.long hi), .second, .val (.int f), .val (.int t), .val (.ref a9), .unset, .unset, .unset] [(.int (11 : Int32)), (.ref a9)])) (fun t_ k_ => XT.bipushV X177.here hx rfl (11 : Int32) (hb hby at_117) (by decide) k_) ?_
  refine own_step (T' := T167) (g' := (mkF m 120 #[.val (.long lo), .second, .val (.long hi), .second, .val (.int f), .val (.int t), .val (.ref a9), .unset, .unset, .unset] [(.long hi), (.int (11 : Int32)), (.ref a9)])) (fun t_ k_ => XT.lloadN X177.here hx rfl (hb hby at_119) rfl k_) ?_
  refine own_step (T' := T167) (g' := (mkF m 122 #[.val (.long lo), .second, .val (.long hi), .second, .val (.int f), .val (.int t), .val (.ref a9), .unset, .unset, .unset] [(.int (24 : Int32)), (.long hi), (.int (11 : Int32)), (.ref a9)])) (fun t_ k_ => XT.bipushV X177.here hx rfl (24 : Int32) (hb hby at_120) (by decide) k_) ?_
  refine own_step (T' := T167) (g' := (mkF m 123 #[.val (.long lo), .second, .val (.long hi), .second, .val (.int f), .val (.int t), .val (.ref a9), .unset, .unset, .unset] [(.long (XT.ushrL hi (24 : Int32))), (.int (11 : Int32)), (.ref a9)])) (fun t_ k_ => XT.lushr X177.here hx rfl (hb hby at_122) rfl k_) ?_
  refine own_step (T' := T167) (g' := (mkF m 124 #[.val (.long lo), .second, .val (.long hi), .second, .val (.int f), .val (.int t), .val (.ref a9), .unset, .unset, .unset] [(.int (((XT.ushrL hi (24 : Int32))).toInt32)), (.int (11 : Int32)), (.ref a9)])) (fun t_ k_ => XT.l2i X177.here hx rfl (hb hby at_123) rfl k_) ?_
  refine own_step (T' := T167) (g' := (mkF m 125 #[.val (.long lo), .second, .val (.long hi), .second, .val (.int f), .val (.int t), .val (.ref a9), .unset, .unset, .unset] [(.int (((((XT.ushrL hi (24 : Int32))).toInt32)).toInt8.toInt32)), (.int (11 : Int32)), (.ref a9)])) (fun t_ k_ => XT.i2b X177.here hx rfl (hb hby at_124) rfl k_) ?_
  obtain ⟨cl179, Ar180, Lx181⟩ := id V175
  obtain ⟨T182, h183, X184, e185, W186, st187⟩ := stB X177 hx hZ e170 Ar180 (j := (11 : Int32)) (own_inb' Lx181 (n := 16) rfl (by decide) (by decide)) (g := (mkF m 125 #[.val (.long lo), .second, .val (.long hi), .second, .val (.int f), .val (.int t), .val (.ref a9), .unset, .unset, .unset] [(.int (((((XT.ushrL hi (24 : Int32))).toInt32)).toInt8.toInt32)), (.int (11 : Int32)), (.ref a9)])) rfl rfl (hb hby at_125)
  have N188 := Fr.snoc X184 N178 q11
  have F189 : n0 ≤ h183.size := Nat.le_trans F174 (Keep.of_wr W186).1
  have V190 : own_Arl Z h183 a9 .byte [(.int (nar .byte ((((lo).toInt32)).toInt8.toInt32))), (.int (nar .byte (((((XT.ushrL lo (8 : Int32))).toInt32)).toInt8.toInt32))), (.int (nar .byte (((((XT.ushrL lo (16 : Int32))).toInt32)).toInt8.toInt32))), (.int (nar .byte (((((XT.ushrL lo (24 : Int32))).toInt32)).toInt8.toInt32))), (.int (nar .byte (((((XT.ushrL lo (32 : Int32))).toInt32)).toInt8.toInt32))), (.int (nar .byte (((((XT.ushrL lo (40 : Int32))).toInt32)).toInt8.toInt32))), (.int (nar .byte (((((XT.ushrL lo (48 : Int32))).toInt32)).toInt8.toInt32))), (.int (nar .byte (((((XT.ushrL lo (56 : Int32))).toInt32)).toInt8.toInt32))), (.int (nar .byte ((((hi).toInt32)).toInt8.toInt32))), (.int (nar .byte (((((XT.ushrL hi (8 : Int32))).toInt32)).toInt8.toInt32))), (.int (nar .byte (((((XT.ushrL hi (16 : Int32))).toInt32)).toInt8.toInt32))), (.int (nar .byte (((((XT.ushrL hi (24 : Int32))).toInt32)).toInt8.toInt32))), (.int (0 : Int32)), (.int (0 : Int32)), (.int (0 : Int32)), (.int (0 : Int32))] := own_Arl.set' (j := (11 : Int32)) V175 W186 (i := 11) (by decide)
  obtain ⟨Lo191, X192, N193⟩ : ∃ Lo_, Stand p l e room_1 s m #[(.long lo), (.long hi), (.int f), (.int t)] below meth c T182 Lo_ 1 16 ∧ Fr n0 Lo_ := ⟨_, X184, N188⟩
  refine own_step (T' := T182) (g' := (mkF m 126 #[.val (.long lo), .second, .val (.long hi), .second, .val (.int f), .val (.int t), .val (.ref a9), .unset, .unset, .unset] [])) st187 ?_
  refine own_step (T' := T182) (g' := (mkF m 128 #[.val (.long lo), .second, .val (.long hi), .second, .val (.int f), .val (.int t), .val (.ref a9), .unset, .unset, .unset] [(.ref a9)])) (fun t_ k_ => XS.aload X192.here hx rfl (hb hby at_126) rfl rfl k_) ?_
  refine own_step (T' := T182) (g' := (mkF m 130 #[.val (.long lo), .second, .val (.long hi), .second, .val (.int f), .val (.int t), .val (.ref a9), .unset, .unset, .unset] [(.int (12 : Int32)), (.ref a9)])) (fun t_ k_ => XT.bipushV X192.here hx rfl (12 : Int32) (hb hby at_128) (by decide) k_) ?_
  refine own_step (T' := T182) (g' := (mkF m 131 #[.val (.long lo), .second, .val (.long hi), .second, .val (.int f), .val (.int t), .val (.ref a9), .unset, .unset, .unset] [(.long hi), (.int (12 : Int32)), (.ref a9)])) (fun t_ k_ => XT.lloadN X192.here hx rfl (hb hby at_130) rfl k_) ?_
  refine own_step (T' := T182) (g' := (mkF m 133 #[.val (.long lo), .second, .val (.long hi), .second, .val (.int f), .val (.int t), .val (.ref a9), .unset, .unset, .unset] [(.int (32 : Int32)), (.long hi), (.int (12 : Int32)), (.ref a9)])) (fun t_ k_ => XT.bipushV X192.here hx rfl (32 : Int32) (hb hby at_131) (by decide) k_) ?_
  refine own_step (T' := T182) (g' := (mkF m 134 #[.val (.long lo), .second, .val (.long hi), .second, .val (.int f), .val (.int t), .val (.ref a9), .unset, .unset, .unset] [(.long (XT.ushrL hi (32 : Int32))), (.int (12 : Int32)), (.ref a9)])) (fun t_ k_ => XT.lushr X192.here hx rfl (hb hby at_133) rfl k_) ?_
  refine own_step (T' := T182) (g' := (mkF m 135 #[.val (.long lo), .second, .val (.long hi), .second, .val (.int f), .val (.int t), .val (.ref a9), .unset, .unset, .unset] [(.int (((XT.ushrL hi (32 : Int32))).toInt32)), (.int (12 : Int32)), (.ref a9)])) (fun t_ k_ => XT.l2i X192.here hx rfl (hb hby at_134) rfl k_) ?_
  refine own_step (T' := T182) (g' := (mkF m 136 #[.val (.long lo), .second, .val (.long hi), .second, .val (.int f), .val (.int t), .val (.ref a9), .unset, .unset, .unset] [(.int (((((XT.ushrL hi (32 : Int32))).toInt32)).toInt8.toInt32)), (.int (12 : Int32)), (.ref a9)])) (fun t_ k_ => XT.i2b X192.here hx rfl (hb hby at_135) rfl k_) ?_
  obtain ⟨cl194, Ar195, Lx196⟩ := id V190
  obtain ⟨T197, h198, X199, e200, W201, st202⟩ := stB X192 hx hZ e185 Ar195 (j := (12 : Int32)) (own_inb' Lx196 (n := 16) rfl (by decide) (by decide)) (g := (mkF m 136 #[.val (.long lo), .second, .val (.long hi), .second, .val (.int f), .val (.int t), .val (.ref a9), .unset, .unset, .unset] [(.int (((((XT.ushrL hi (32 : Int32))).toInt32)).toInt8.toInt32)), (.int (12 : Int32)), (.ref a9)])) rfl rfl (hb hby at_136)
  have N203 := Fr.snoc X199 N193 q11
  have F204 : n0 ≤ h198.size := Nat.le_trans F189 (Keep.of_wr W201).1
  have V205 : own_Arl Z h198 a9 .byte [(.int (nar .byte ((((lo).toInt32)).toInt8.toInt32))), (.int (nar .byte (((((XT.ushrL lo (8 : Int32))).toInt32)).toInt8.toInt32))), (.int (nar .byte (((((XT.ushrL lo (16 : Int32))).toInt32)).toInt8.toInt32))), (.int (nar .byte (((((XT.ushrL lo (24 : Int32))).toInt32)).toInt8.toInt32))), (.int (nar .byte (((((XT.ushrL lo (32 : Int32))).toInt32)).toInt8.toInt32))), (.int (nar .byte (((((XT.ushrL lo (40 : Int32))).toInt32)).toInt8.toInt32))), (.int (nar .byte (((((XT.ushrL lo (48 : Int32))).toInt32)).toInt8.toInt32))), (.int (nar .byte (((((XT.ushrL lo (56 : Int32))).toInt32)).toInt8.toInt32))), (.int (nar .byte ((((hi).toInt32)).toInt8.toInt32))), (.int (nar .byte (((((XT.ushrL hi (8 : Int32))).toInt32)).toInt8.toInt32))), (.int (nar .byte (((((XT.ushrL hi (16 : Int32))).toInt32)).toInt8.toInt32))), (.int (nar .byte (((((XT.ushrL hi (24 : Int32))).toInt32)).toInt8.toInt32))), (.int (nar .byte (((((XT.ushrL hi (32 : Int32))).toInt32)).toInt8.toInt32))), (.int (0 : Int32)), (.int (0 : Int32)), (.int (0 : Int32))] := own_Arl.set' (j := (12 : Int32)) V190 W201 (i := 12) (by decide)
  obtain ⟨Lo206, X207, N208⟩ : ∃ Lo_, Stand p l e room_1 s m #[(.long lo), (.long hi), (.int f), (.int t)] below meth c T197 Lo_ 1 16 ∧ Fr n0 Lo_ := ⟨_, X199, N203⟩
  refine own_step (T' := T197) (g' := (mkF m 137 #[.val (.long lo), .second, .val (.long hi), .second, .val (.int f), .val (.int t), .val (.ref a9), .unset, .unset, .unset] [])) st202 ?_
  refine own_step (T' := T197) (g' := (mkF m 139 #[.val (.long lo), .second, .val (.long hi), .second, .val (.int f), .val (.int t), .val (.ref a9), .unset, .unset, .unset] [(.ref a9)])) (fun t_ k_ => XS.aload X207.here hx rfl (hb hby at_137) rfl rfl k_) ?_
  refine own_step (T' := T197) (g' := (mkF m 141 #[.val (.long lo), .second, .val (.long hi), .second, .val (.int f), .val (.int t), .val (.ref a9), .unset, .unset, .unset] [(.int (13 : Int32)), (.ref a9)])) (fun t_ k_ => XT.bipushV X207.here hx rfl (13 : Int32) (hb hby at_139) (by decide) k_) ?_
  refine own_step (T' := T197) (g' := (mkF m 142 #[.val (.long lo), .second, .val (.long hi), .second, .val (.int f), .val (.int t), .val (.ref a9), .unset, .unset, .unset] [(.long hi), (.int (13 : Int32)), (.ref a9)])) (fun t_ k_ => XT.lloadN X207.here hx rfl (hb hby at_141) rfl k_) ?_
  refine own_step (T' := T197) (g' := (mkF m 144 #[.val (.long lo), .second, .val (.long hi), .second, .val (.int f), .val (.int t), .val (.ref a9), .unset, .unset, .unset] [(.int (40 : Int32)), (.long hi), (.int (13 : Int32)), (.ref a9)])) (fun t_ k_ => XT.bipushV X207.here hx rfl (40 : Int32) (hb hby at_142) (by decide) k_) ?_
  refine own_step (T' := T197) (g' := (mkF m 145 #[.val (.long lo), .second, .val (.long hi), .second, .val (.int f), .val (.int t), .val (.ref a9), .unset, .unset, .unset] [(.long (XT.ushrL hi (40 : Int32))), (.int (13 : Int32)), (.ref a9)])) (fun t_ k_ => XT.lushr X207.here hx rfl (hb hby at_144) rfl k_) ?_
  refine own_step (T' := T197) (g' := (mkF m 146 #[.val (.long lo), .second, .val (.long hi), .second, .val (.int f), .val (.int t), .val (.ref a9), .unset, .unset, .unset] [(.int (((XT.ushrL hi (40 : Int32))).toInt32)), (.int (13 : Int32)), (.ref a9)])) (fun t_ k_ => XT.l2i X207.here hx rfl (hb hby at_145) rfl k_) ?_
  refine own_step (T' := T197) (g' := (mkF m 147 #[.val (.long lo), .second, .val (.long hi), .second, .val (.int f), .val (.int t), .val (.ref a9), .unset, .unset, .unset] [(.int (((((XT.ushrL hi (40 : Int32))).toInt32)).toInt8.toInt32)), (.int (13 : Int32)), (.ref a9)])) (fun t_ k_ => XT.i2b X207.here hx rfl (hb hby at_146) rfl k_) ?_
  obtain ⟨cl209, Ar210, Lx211⟩ := id V205
  obtain ⟨T212, h213, X214, e215, W216, st217⟩ := stB X207 hx hZ e200 Ar210 (j := (13 : Int32)) (own_inb' Lx211 (n := 16) rfl (by decide) (by decide)) (g := (mkF m 147 #[.val (.long lo), .second, .val (.long hi), .second, .val (.int f), .val (.int t), .val (.ref a9), .unset, .unset, .unset] [(.int (((((XT.ushrL hi (40 : Int32))).toInt32)).toInt8.toInt32)), (.int (13 : Int32)), (.ref a9)])) rfl rfl (hb hby at_147)
  have N218 := Fr.snoc X214 N208 q11
  have F219 : n0 ≤ h213.size := Nat.le_trans F204 (Keep.of_wr W216).1
  have V220 : own_Arl Z h213 a9 .byte [(.int (nar .byte ((((lo).toInt32)).toInt8.toInt32))), (.int (nar .byte (((((XT.ushrL lo (8 : Int32))).toInt32)).toInt8.toInt32))), (.int (nar .byte (((((XT.ushrL lo (16 : Int32))).toInt32)).toInt8.toInt32))), (.int (nar .byte (((((XT.ushrL lo (24 : Int32))).toInt32)).toInt8.toInt32))), (.int (nar .byte (((((XT.ushrL lo (32 : Int32))).toInt32)).toInt8.toInt32))), (.int (nar .byte (((((XT.ushrL lo (40 : Int32))).toInt32)).toInt8.toInt32))), (.int (nar .byte (((((XT.ushrL lo (48 : Int32))).toInt32)).toInt8.toInt32))), (.int (nar .byte (((((XT.ushrL lo (56 : Int32))).toInt32)).toInt8.toInt32))), (.int (nar .byte ((((hi).toInt32)).toInt8.toInt32))), (.int (nar .byte (((((XT.ushrL hi (8 : Int32))).toInt32)).toInt8.toInt32))), (.int (nar .byte (((((XT.ushrL hi (16 : Int32))).toInt32)).toInt8.toInt32))), (.int (nar .byte (((((XT.ushrL hi (24 : Int32))).toInt32)).toInt8.toInt32))), (.int (nar .byte (((((XT.ushrL hi (32 : Int32))).toInt32)).toInt8.toInt32))), (.int (nar .byte (((((XT.ushrL hi (40 : Int32))).toInt32)).toInt8.toInt32))), (.int (0 : Int32)), (.int (0 : Int32))] := own_Arl.set' (j := (13 : Int32)) V205 W216 (i := 13) (by decide)
  obtain ⟨Lo221, X222, N223⟩ : ∃ Lo_, Stand p l e room_1 s m #[(.long lo), (.long hi), (.int f), (.int t)] below meth c T212 Lo_ 1 16 ∧ Fr n0 Lo_ := ⟨_, X214, N218⟩
  refine own_step (T' := T212) (g' := (mkF m 148 #[.val (.long lo), .second, .val (.long hi), .second, .val (.int f), .val (.int t), .val (.ref a9), .unset, .unset, .unset] [])) st217 ?_
  refine own_step (T' := T212) (g' := (mkF m 150 #[.val (.long lo), .second, .val (.long hi), .second, .val (.int f), .val (.int t), .val (.ref a9), .unset, .unset, .unset] [(.ref a9)])) (fun t_ k_ => XS.aload X222.here hx rfl (hb hby at_148) rfl rfl k_) ?_
  refine own_step (T' := T212) (g' := (mkF m 152 #[.val (.long lo), .second, .val (.long hi), .second, .val (.int f), .val (.int t), .val (.ref a9), .unset, .unset, .unset] [(.int (14 : Int32)), (.ref a9)])) (fun t_ k_ => XT.bipushV X222.here hx rfl (14 : Int32) (hb hby at_150) (by decide) k_) ?_
  refine own_step (T' := T212) (g' := (mkF m 153 #[.val (.long lo), .second, .val (.long hi), .second, .val (.int f), .val (.int t), .val (.ref a9), .unset, .unset, .unset] [(.long hi), (.int (14 : Int32)), (.ref a9)])) (fun t_ k_ => XT.lloadN X222.here hx rfl (hb hby at_152) rfl k_) ?_
  refine own_step (T' := T212) (g' := (mkF m 155 #[.val (.long lo), .second, .val (.long hi), .second, .val (.int f), .val (.int t), .val (.ref a9), .unset, .unset, .unset] [(.int (48 : Int32)), (.long hi), (.int (14 : Int32)), (.ref a9)])) (fun t_ k_ => XT.bipushV X222.here hx rfl (48 : Int32) (hb hby at_153) (by decide) k_) ?_
  refine own_step (T' := T212) (g' := (mkF m 156 #[.val (.long lo), .second, .val (.long hi), .second, .val (.int f), .val (.int t), .val (.ref a9), .unset, .unset, .unset] [(.long (XT.ushrL hi (48 : Int32))), (.int (14 : Int32)), (.ref a9)])) (fun t_ k_ => XT.lushr X222.here hx rfl (hb hby at_155) rfl k_) ?_
  refine own_step (T' := T212) (g' := (mkF m 157 #[.val (.long lo), .second, .val (.long hi), .second, .val (.int f), .val (.int t), .val (.ref a9), .unset, .unset, .unset] [(.int (((XT.ushrL hi (48 : Int32))).toInt32)), (.int (14 : Int32)), (.ref a9)])) (fun t_ k_ => XT.l2i X222.here hx rfl (hb hby at_156) rfl k_) ?_
  refine own_step (T' := T212) (g' := (mkF m 158 #[.val (.long lo), .second, .val (.long hi), .second, .val (.int f), .val (.int t), .val (.ref a9), .unset, .unset, .unset] [(.int (((((XT.ushrL hi (48 : Int32))).toInt32)).toInt8.toInt32)), (.int (14 : Int32)), (.ref a9)])) (fun t_ k_ => XT.i2b X222.here hx rfl (hb hby at_157) rfl k_) ?_
  obtain ⟨cl224, Ar225, Lx226⟩ := id V220
  obtain ⟨T227, h228, X229, e230, W231, st232⟩ := stB X222 hx hZ e215 Ar225 (j := (14 : Int32)) (own_inb' Lx226 (n := 16) rfl (by decide) (by decide)) (g := (mkF m 158 #[.val (.long lo), .second, .val (.long hi), .second, .val (.int f), .val (.int t), .val (.ref a9), .unset, .unset, .unset] [(.int (((((XT.ushrL hi (48 : Int32))).toInt32)).toInt8.toInt32)), (.int (14 : Int32)), (.ref a9)])) rfl rfl (hb hby at_158)
  have N233 := Fr.snoc X229 N223 q11
  have F234 : n0 ≤ h228.size := Nat.le_trans F219 (Keep.of_wr W231).1
  have V235 : own_Arl Z h228 a9 .byte [(.int (nar .byte ((((lo).toInt32)).toInt8.toInt32))), (.int (nar .byte (((((XT.ushrL lo (8 : Int32))).toInt32)).toInt8.toInt32))), (.int (nar .byte (((((XT.ushrL lo (16 : Int32))).toInt32)).toInt8.toInt32))), (.int (nar .byte (((((XT.ushrL lo (24 : Int32))).toInt32)).toInt8.toInt32))), (.int (nar .byte (((((XT.ushrL lo (32 : Int32))).toInt32)).toInt8.toInt32))), (.int (nar .byte (((((XT.ushrL lo (40 : Int32))).toInt32)).toInt8.toInt32))), (.int (nar .byte (((((XT.ushrL lo (48 : Int32))).toInt32)).toInt8.toInt32))), (.int (nar .byte (((((XT.ushrL lo (56 : Int32))).toInt32)).toInt8.toInt32))), (.int (nar .byte ((((hi).toInt32)).toInt8.toInt32))), (.int (nar .byte (((((XT.ushrL hi (8 : Int32))).toInt32)).toInt8.toInt32))), (.int (nar .byte (((((XT.ushrL hi (16 : Int32))).toInt32)).toInt8.toInt32))), (.int (nar .byte (((((XT.ushrL hi (24 : Int32))).toInt32)).toInt8.toInt32))), (.int (nar .byte (((((XT.ushrL hi (32 : Int32))).toInt32)).toInt8.toInt32))), (.int (nar .byte (((((XT.ushrL hi (40 : Int32))).toInt32)).toInt8.toInt32))), (.int (nar .byte (((((XT.ushrL hi (48 : Int32))).toInt32)).toInt8.toInt32))), (.int (0 : Int32))] := own_Arl.set' (j := (14 : Int32)) V220 W231 (i := 14) (by decide)
  obtain ⟨Lo236, X237, N238⟩ : ∃ Lo_, Stand p l e room_1 s m #[(.long lo), (.long hi), (.int f), (.int t)] below meth c T227 Lo_ 1 16 ∧ Fr n0 Lo_ := ⟨_, X229, N233⟩
  refine own_step (T' := T227) (g' := (mkF m 159 #[.val (.long lo), .second, .val (.long hi), .second, .val (.int f), .val (.int t), .val (.ref a9), .unset, .unset, .unset] [])) st232 ?_
  refine own_step (T' := T227) (g' := (mkF m 161 #[.val (.long lo), .second, .val (.long hi), .second, .val (.int f), .val (.int t), .val (.ref a9), .unset, .unset, .unset] [(.ref a9)])) (fun t_ k_ => XS.aload X237.here hx rfl (hb hby at_159) rfl rfl k_) ?_
  refine own_step (T' := T227) (g' := (mkF m 163 #[.val (.long lo), .second, .val (.long hi), .second, .val (.int f), .val (.int t), .val (.ref a9), .unset, .unset, .unset] [(.int (15 : Int32)), (.ref a9)])) (fun t_ k_ => XT.bipushV X237.here hx rfl (15 : Int32) (hb hby at_161) (by decide) k_) ?_
  refine own_step (T' := T227) (g' := (mkF m 164 #[.val (.long lo), .second, .val (.long hi), .second, .val (.int f), .val (.int t), .val (.ref a9), .unset, .unset, .unset] [(.long hi), (.int (15 : Int32)), (.ref a9)])) (fun t_ k_ => XT.lloadN X237.here hx rfl (hb hby at_163) rfl k_) ?_
  refine own_step (T' := T227) (g' := (mkF m 166 #[.val (.long lo), .second, .val (.long hi), .second, .val (.int f), .val (.int t), .val (.ref a9), .unset, .unset, .unset] [(.int (56 : Int32)), (.long hi), (.int (15 : Int32)), (.ref a9)])) (fun t_ k_ => XT.bipushV X237.here hx rfl (56 : Int32) (hb hby at_164) (by decide) k_) ?_
  refine own_step (T' := T227) (g' := (mkF m 167 #[.val (.long lo), .second, .val (.long hi), .second, .val (.int f), .val (.int t), .val (.ref a9), .unset, .unset, .unset] [(.long (XT.ushrL hi (56 : Int32))), (.int (15 : Int32)), (.ref a9)])) (fun t_ k_ => XT.lushr X237.here hx rfl (hb hby at_166) rfl k_) ?_
  refine own_step (T' := T227) (g' := (mkF m 168 #[.val (.long lo), .second, .val (.long hi), .second, .val (.int f), .val (.int t), .val (.ref a9), .unset, .unset, .unset] [(.int (((XT.ushrL hi (56 : Int32))).toInt32)), (.int (15 : Int32)), (.ref a9)])) (fun t_ k_ => XT.l2i X237.here hx rfl (hb hby at_167) rfl k_) ?_
  refine own_step (T' := T227) (g' := (mkF m 169 #[.val (.long lo), .second, .val (.long hi), .second, .val (.int f), .val (.int t), .val (.ref a9), .unset, .unset, .unset] [(.int (((((XT.ushrL hi (56 : Int32))).toInt32)).toInt8.toInt32)), (.int (15 : Int32)), (.ref a9)])) (fun t_ k_ => XT.i2b X237.here hx rfl (hb hby at_168) rfl k_) ?_
  obtain ⟨cl239, Ar240, Lx241⟩ := id V235
  obtain ⟨T242, h243, X244, e245, W246, st247⟩ := stB X237 hx hZ e230 Ar240 (j := (15 : Int32)) (own_inb' Lx241 (n := 16) rfl (by decide) (by decide)) (g := (mkF m 169 #[.val (.long lo), .second, .val (.long hi), .second, .val (.int f), .val (.int t), .val (.ref a9), .unset, .unset, .unset] [(.int (((((XT.ushrL hi (56 : Int32))).toInt32)).toInt8.toInt32)), (.int (15 : Int32)), (.ref a9)])) rfl rfl (hb hby at_169)
  have N248 := Fr.snoc X244 N238 q11
  have F249 : n0 ≤ h243.size := Nat.le_trans F234 (Keep.of_wr W246).1
  have V250 : own_Arl Z h243 a9 .byte [(.int (nar .byte ((((lo).toInt32)).toInt8.toInt32))), (.int (nar .byte (((((XT.ushrL lo (8 : Int32))).toInt32)).toInt8.toInt32))), (.int (nar .byte (((((XT.ushrL lo (16 : Int32))).toInt32)).toInt8.toInt32))), (.int (nar .byte (((((XT.ushrL lo (24 : Int32))).toInt32)).toInt8.toInt32))), (.int (nar .byte (((((XT.ushrL lo (32 : Int32))).toInt32)).toInt8.toInt32))), (.int (nar .byte (((((XT.ushrL lo (40 : Int32))).toInt32)).toInt8.toInt32))), (.int (nar .byte (((((XT.ushrL lo (48 : Int32))).toInt32)).toInt8.toInt32))), (.int (nar .byte (((((XT.ushrL lo (56 : Int32))).toInt32)).toInt8.toInt32))), (.int (nar .byte ((((hi).toInt32)).toInt8.toInt32))), (.int (nar .byte (((((XT.ushrL hi (8 : Int32))).toInt32)).toInt8.toInt32))), (.int (nar .byte (((((XT.ushrL hi (16 : Int32))).toInt32)).toInt8.toInt32))), (.int (nar .byte (((((XT.ushrL hi (24 : Int32))).toInt32)).toInt8.toInt32))), (.int (nar .byte (((((XT.ushrL hi (32 : Int32))).toInt32)).toInt8.toInt32))), (.int (nar .byte (((((XT.ushrL hi (40 : Int32))).toInt32)).toInt8.toInt32))), (.int (nar .byte (((((XT.ushrL hi (48 : Int32))).toInt32)).toInt8.toInt32))), (.int (nar .byte (((((XT.ushrL hi (56 : Int32))).toInt32)).toInt8.toInt32)))] := own_Arl.set' (j := (15 : Int32)) V235 W246 (i := 15) (by decide)
  obtain ⟨Lo251, X252, N253⟩ : ∃ Lo_, Stand p l e room_1 s m #[(.long lo), (.long hi), (.int f), (.int t)] below meth c T242 Lo_ 1 16 ∧ Fr n0 Lo_ := ⟨_, X244, N248⟩
  refine own_step (T' := T242) (g' := (mkF m 170 #[.val (.long lo), .second, .val (.long hi), .second, .val (.int f), .val (.int t), .val (.ref a9), .unset, .unset, .unset] [])) st247 ?_
  refine own_step (T' := T242) (g' := (mkF m 172 #[.val (.long lo), .second, .val (.long hi), .second, .val (.int f), .val (.int t), .val (.ref a9), .unset, .unset, .unset] [(.int f)])) (fun t_ k_ => XS.iload X252.here hx rfl (hb hby at_170) rfl k_) ?_
  refine own_step (T' := T242) (g' := (mkF m 174 #[.val (.long lo), .second, .val (.long hi), .second, .val (.int f), .val (.int t), .val (.ref a9), .unset, .unset, .unset] [(.int (2147483647 : Int32)), (.int f)])) (fun t_ k_ => X252.ldcI hx hown (mvT hZ (hw _ (List.mem_of_getElem? (i := 1) rfl))) rfl (hb hby at_172) k_) ?_
  refine own_step (T' := T242) (g' := (mkF m 175 #[.val (.long lo), .second, .val (.long hi), .second, .val (.int f), .val (.int t), .val (.ref a9), .unset, .unset, .unset] [(.int (f &&& (2147483647 : Int32)))])) (fun t_ k_ => XS.iand X252.here hx rfl (hb hby at_174) rfl k_) ?_
  refine own_step (T' := T242) (g' := (mkF m 177 #[.val (.long lo), .second, .val (.long hi), .second, .val (.int f), .val (.int t), .val (.ref a9), .unset, .unset, .unset] [(.int (17 : Int32)), (.int (f &&& (2147483647 : Int32)))])) (fun t_ k_ => XT.bipushV X252.here hx rfl (17 : Int32) (hb hby at_175) (by decide) k_) ?_
  refine own_step (T' := T242) (g' := (mkF m 178 #[.val (.long lo), .second, .val (.long hi), .second, .val (.int f), .val (.int t), .val (.ref a9), .unset, .unset, .unset] [(.int ((f &&& (2147483647 : Int32)) % (17 : Int32)))])) (fun t_ k_ => iremM X252 hx rfl (hb hby at_177) rfl (by decide) k_) ?_
  obtain ⟨F, eF, hF⟩ := own_from f
  rw [eF]
  obtain ⟨bs, hbs⟩ : ∃ bs : List Int32, bs = [(nar .byte ((((lo).toInt32)).toInt8.toInt32)), (nar .byte (((((XT.ushrL lo (8 : Int32))).toInt32)).toInt8.toInt32)), (nar .byte (((((XT.ushrL lo (16 : Int32))).toInt32)).toInt8.toInt32)), (nar .byte (((((XT.ushrL lo (24 : Int32))).toInt32)).toInt8.toInt32)), (nar .byte (((((XT.ushrL lo (32 : Int32))).toInt32)).toInt8.toInt32)), (nar .byte (((((XT.ushrL lo (40 : Int32))).toInt32)).toInt8.toInt32)), (nar .byte (((((XT.ushrL lo (48 : Int32))).toInt32)).toInt8.toInt32)), (nar .byte (((((XT.ushrL lo (56 : Int32))).toInt32)).toInt8.toInt32)), (nar .byte ((((hi).toInt32)).toInt8.toInt32)), (nar .byte (((((XT.ushrL hi (8 : Int32))).toInt32)).toInt8.toInt32)), (nar .byte (((((XT.ushrL hi (16 : Int32))).toInt32)).toInt8.toInt32)), (nar .byte (((((XT.ushrL hi (24 : Int32))).toInt32)).toInt8.toInt32)), (nar .byte (((((XT.ushrL hi (32 : Int32))).toInt32)).toInt8.toInt32)), (nar .byte (((((XT.ushrL hi (40 : Int32))).toInt32)).toInt8.toInt32)), (nar .byte (((((XT.ushrL hi (48 : Int32))).toInt32)).toInt8.toInt32)), (nar .byte (((((XT.ushrL hi (56 : Int32))).toInt32)).toInt8.toInt32))] := ⟨_, rfl⟩
  have V254 : own_Arl Z h243 a9 .byte (bs.map Value.int) := by rw [hbs]; exact V250
  have hl : bs.length = 16 := by rw [hbs]; rfl
  have hbt : ∀ b ∈ bs, ∃ y, b = nar .byte y := by
    rw [hbs]
    intro b hbt
    simp only [List.mem_cons, List.not_mem_nil, or_false] at hbt
    rcases hbt with rfl | rfl | rfl | rfl | rfl | rfl | rfl | rfl | rfl | rfl | rfl | rfl | rfl | rfl | rfl | rfl <;> exact ⟨_, rfl⟩
  clear hbs
  refine own_step (T' := T242) (g' := (mkF m 180 #[.val (.long lo), .second, .val (.long hi), .second, .val (.int f), .val (.int t), .val (.ref a9), .val (.int (Int32.ofNat F)), .unset, .unset] [])) (fun t_ k_ => XS.istore X252.here hx rfl (hb hby at_178) rfl (l' := #[.val (.long lo), .second, .val (.long hi), .second, .val (.int f), .val (.int t), .val (.ref a9), .val (.int (Int32.ofNat F)), .unset, .unset]) rfl k_) ?_
  refine own_step (T' := T242) (g' := (mkF m 182 #[.val (.long lo), .second, .val (.long hi), .second, .val (.int f), .val (.int t), .val (.ref a9), .val (.int (Int32.ofNat F)), .unset, .unset] [(.int (Int32.ofNat F))])) (fun t_ k_ => XS.iload X252.here hx rfl (hb hby at_180) rfl k_) ?_
  refine own_step (T' := T242) (g' := (mkF m 184 #[.val (.long lo), .second, .val (.long hi), .second, .val (.int f), .val (.int t), .val (.ref a9), .val (.int (Int32.ofNat F)), .unset, .unset] [(.int t), (.int (Int32.ofNat F))])) (fun t_ k_ => XS.iload X252.here hx rfl (hb hby at_182) rfl k_) ?_
  refine own_step (T' := T242) (g' := (mkF m 186 #[.val (.long lo), .second, .val (.long hi), .second, .val (.int f), .val (.int t), .val (.ref a9), .val (.int (Int32.ofNat F)), .unset, .unset] [(.int (2147483647 : Int32)), (.int t), (.int (Int32.ofNat F))])) (fun t_ k_ => X252.ldcI hx hown (mvT hZ (hw _ (List.mem_of_getElem? (i := 1) rfl))) rfl (hb hby at_184) k_) ?_
  refine own_step (T' := T242) (g' := (mkF m 187 #[.val (.long lo), .second, .val (.long hi), .second, .val (.int f), .val (.int t), .val (.ref a9), .val (.int (Int32.ofNat F)), .unset, .unset] [(.int (t &&& (2147483647 : Int32))), (.int (Int32.ofNat F))])) (fun t_ k_ => XS.iand X252.here hx rfl (hb hby at_186) rfl k_) ?_
  refine own_step (T' := T242) (g' := (mkF m 189 #[.val (.long lo), .second, .val (.long hi), .second, .val (.int f), .val (.int t), .val (.ref a9), .val (.int (Int32.ofNat F)), .unset, .unset] [(.int (17 : Int32)), (.int (t &&& (2147483647 : Int32))), (.int (Int32.ofNat F))])) (fun t_ k_ => XT.bipushV X252.here hx rfl (17 : Int32) (hb hby at_187) (by decide) k_) ?_
  refine own_step (T' := T242) (g' := (mkF m 191 #[.val (.long lo), .second, .val (.long hi), .second, .val (.int f), .val (.int t), .val (.ref a9), .val (.int (Int32.ofNat F)), .unset, .unset] [(.int (Int32.ofNat F)), (.int (17 : Int32)), (.int (t &&& (2147483647 : Int32))), (.int (Int32.ofNat F))])) (fun t_ k_ => XS.iload X252.here hx rfl (hb hby at_189) rfl k_) ?_
  refine own_step (T' := T242) (g' := (mkF m 192 #[.val (.long lo), .second, .val (.long hi), .second, .val (.int f), .val (.int t), .val (.ref a9), .val (.int (Int32.ofNat F)), .unset, .unset] [(.int ((17 : Int32) - (Int32.ofNat F))), (.int (t &&& (2147483647 : Int32))), (.int (Int32.ofNat F))])) (fun t_ k_ => XS.isub X252.here hx rfl (hb hby at_191) rfl k_) ?_
  refine own_step (T' := T242) (g' := (mkF m 193 #[.val (.long lo), .second, .val (.long hi), .second, .val (.int f), .val (.int t), .val (.ref a9), .val (.int (Int32.ofNat F)), .unset, .unset] [(.int ((t &&& (2147483647 : Int32)) % ((17 : Int32) - (Int32.ofNat F)))), (.int (Int32.ofNat F))])) (fun t_ k_ => iremM X252 hx rfl (hb hby at_192) rfl (own_nz hF) k_) ?_
  refine own_step (T' := T242) (g' := (mkF m 194 #[.val (.long lo), .second, .val (.long hi), .second, .val (.int f), .val (.int t), .val (.ref a9), .val (.int (Int32.ofNat F)), .unset, .unset] [(.int ((Int32.ofNat F) + ((t &&& (2147483647 : Int32)) % ((17 : Int32) - (Int32.ofNat F)))))])) (fun t_ k_ => XS.iadd X252.here hx rfl (hb hby at_193) rfl k_) ?_
  obtain ⟨N, eN, hFN, hN⟩ := own_to t hF
  rw [eN]
  refine own_step (T' := T242) (g' := (mkF m 196 #[.val (.long lo), .second, .val (.long hi), .second, .val (.int f), .val (.int t), .val (.ref a9), .val (.int (Int32.ofNat F)), .val (.int (Int32.ofNat N)), .unset] [])) (fun t_ k_ => XS.istore X252.here hx rfl (hb hby at_194) rfl (l' := #[.val (.long lo), .second, .val (.long hi), .second, .val (.int f), .val (.int t), .val (.ref a9), .val (.int (Int32.ofNat F)), .val (.int (Int32.ofNat N)), .unset]) rfl k_) ?_
  refine own_step (T' := T242) (g' := (mkF m 198 #[.val (.long lo), .second, .val (.long hi), .second, .val (.int f), .val (.int t), .val (.ref a9), .val (.int (Int32.ofNat F)), .val (.int (Int32.ofNat N)), .unset] [(.ref a9)])) (fun t_ k_ => XS.aload X252.here hx rfl (hb hby at_196) rfl rfl k_) ?_
  refine own_step (T' := T242) (g' := (mkF m 199 #[.val (.long lo), .second, .val (.long hi), .second, .val (.int f), .val (.int t), .val (.ref a9), .val (.int (Int32.ofNat F)), .val (.int (Int32.ofNat N)), .unset] [(.int (0 : Int32)), (.ref a9)])) (fun t_ k_ => XT.iconstV X252.here hx rfl (0 : Int32) (hb hby at_198) (by decide) k_) ?_
  refine own_step (T' := T242) (g' := (mkF m 201 #[.val (.long lo), .second, .val (.long hi), .second, .val (.int f), .val (.int t), .val (.ref a9), .val (.int (Int32.ofNat F)), .val (.int (Int32.ofNat N)), .unset] [(.int (Int32.ofNat F)), (.int (0 : Int32)), (.ref a9)])) (fun t_ k_ => XS.iload X252.here hx rfl (hb hby at_199) rfl k_) ?_
  refine own_step (T' := T242) (g' := (mkF m 203 #[.val (.long lo), .second, .val (.long hi), .second, .val (.int f), .val (.int t), .val (.ref a9), .val (.int (Int32.ofNat F)), .val (.int (Int32.ofNat N)), .unset] [(.int (Int32.ofNat N)), (.int (Int32.ofNat F)), (.int (0 : Int32)), (.ref a9)])) (fun t_ k_ => XS.iload X252.here hx rfl (hb hby at_201) rfl k_) ?_
  obtain ⟨_, _, ⟨Tc255, Lc255, kc255, nc255⟩, -, Xc255, ⟨Lcc255, hQc255, lc255, yc255, zc255⟩, stc255⟩ := Jvm.LawKit.callS X252 hx (y := (⟨"com/example/sedimenta/sedimenta/store/VarIntsCountPinLaw", "one", "([BIII)I"⟩ : MethodName)) hown (mvT hZ (hw _ (List.mem_of_getElem? (i := 2) rfl))) (mvT hZ (hw _ (List.mem_of_getElem? (i := 3) rfl))) (mvT hZ (hw _ (List.mem_of_getElem? (i := 4) rfl))) (mvT hZ (hw _ (List.mem_of_getElem? (i := 5) rfl))) (by decide) (backOf (W := 0) (rm_one l Z a0 hw [] a9 bs (0 : Int32) (Int32.ofNat F) (Int32.ofNat N) 0 h243 n0 F249 V254 rfl (by rw [hl]; decide) hl) hZ (hw _ (List.mem_of_getElem? (i := 5) rfl)) (hw _ (List.mem_of_getElem? (i := 4) rfl)) (by decide) (by decide)) (g := (mkF m 203 #[.val (.long lo), .second, .val (.long hi), .second, .val (.int f), .val (.int t), .val (.ref a9), .val (.int (Int32.ofNat F)), .val (.int (Int32.ofNat N)), .unset] [(.int (Int32.ofNat N)), (.int (Int32.ofNat F)), (.int (0 : Int32)), (.ref a9)])) rfl (by rw [hml]; rfl) (argsL := [(.ref a9), (.int (0 : Int32)), (.int (Int32.ofNat F)), (.int (Int32.ofNat N))]) (rest := []) (lenOf pd_0 rfl) rfl (by show 2 * 0 + _ ≤ _; exact Nat.le_of_eq rfl) (hb hby at_203) (fun _ _ => ⟨rfl, e245, (by decide : 1 + 0 ≤ _), (by decide : 16 + 0 ≤ _)⟩)
  dsimp only [Pt.U, Pt.locs, Pt.cells, Pt.slots] at Xc255 lc255 yc255 zc255 stc255 hQc255
  subst lc255 yc255 zc255
  have X256 := Xc255.more (cells' := 1) (slots' := 16) (by decide) (by decide)
  obtain ⟨hv260, N257, e258⟩ := hQc255
  obtain ⟨z259, hz259⟩ : ∃ z : Int32, z = (own_one bs (0 : Int32) 0 (Int32.ofNat F) (Int32.ofNat N)) := ⟨_, rfl⟩
  rw [← hz259] at hv260
  subst hv260
  have N261 := Fr.app N253 N257
  obtain ⟨Lo262, X263, N264⟩ : ∃ Lo_, Stand p l e room_1 s m #[(.long lo), (.long hi), (.int f), (.int t)] below meth c Tc255 Lo_ 1 16 ∧ Fr n0 Lo_ := ⟨_, X256, N261⟩
  refine own_step (T' := Tc255) (g' := (mkF m 206 #[.val (.long lo), .second, .val (.long hi), .second, .val (.int f), .val (.int t), .val (.ref a9), .val (.int (Int32.ofNat F)), .val (.int (Int32.ofNat N)), .unset] [(.int z259)])) stc255 ?_
  refine own_step (T' := Tc255) (g' := (mkF m 208 #[.val (.long lo), .second, .val (.long hi), .second, .val (.int f), .val (.int t), .val (.ref a9), .val (.int (Int32.ofNat F)), .val (.int (Int32.ofNat N)), .unset] [(.ref a9), (.int z259)])) (fun t_ k_ => XS.aload X263.here hx rfl (hb hby at_206) rfl rfl k_) ?_
  refine own_step (T' := Tc255) (g' := (mkF m 209 #[.val (.long lo), .second, .val (.long hi), .second, .val (.int f), .val (.int t), .val (.ref a9), .val (.int (Int32.ofNat F)), .val (.int (Int32.ofNat N)), .unset] [(.int (1 : Int32)), (.ref a9), (.int z259)])) (fun t_ k_ => XT.iconstV X263.here hx rfl (1 : Int32) (hb hby at_208) (by decide) k_) ?_
  refine own_step (T' := Tc255) (g' := (mkF m 211 #[.val (.long lo), .second, .val (.long hi), .second, .val (.int f), .val (.int t), .val (.ref a9), .val (.int (Int32.ofNat F)), .val (.int (Int32.ofNat N)), .unset] [(.int (Int32.ofNat F)), (.int (1 : Int32)), (.ref a9), (.int z259)])) (fun t_ k_ => XS.iload X263.here hx rfl (hb hby at_209) rfl k_) ?_
  refine own_step (T' := Tc255) (g' := (mkF m 213 #[.val (.long lo), .second, .val (.long hi), .second, .val (.int f), .val (.int t), .val (.ref a9), .val (.int (Int32.ofNat F)), .val (.int (Int32.ofNat N)), .unset] [(.int (Int32.ofNat N)), (.int (Int32.ofNat F)), (.int (1 : Int32)), (.ref a9), (.int z259)])) (fun t_ k_ => XS.iload X263.here hx rfl (hb hby at_211) rfl k_) ?_
  obtain ⟨_, _, ⟨Tc265, Lc265, kc265, nc265⟩, -, Xc265, ⟨Lcc265, hQc265, lc265, yc265, zc265⟩, stc265⟩ := Jvm.LawKit.callS X263 hx (y := (⟨"com/example/sedimenta/sedimenta/store/VarIntsCountPinLaw", "one", "([BIII)I"⟩ : MethodName)) hown (mvT hZ (hw _ (List.mem_of_getElem? (i := 2) rfl))) (mvT hZ (hw _ (List.mem_of_getElem? (i := 3) rfl))) (mvT hZ (hw _ (List.mem_of_getElem? (i := 4) rfl))) (mvT hZ (hw _ (List.mem_of_getElem? (i := 5) rfl))) (by decide) (backOf (W := 1) (rm_one l Z a0 hw [] a9 bs (1 : Int32) (Int32.ofNat F) (Int32.ofNat N) 1 h243 n0 F249 V254 rfl (by rw [hl]; decide) hl) hZ (hw _ (List.mem_of_getElem? (i := 5) rfl)) (hw _ (List.mem_of_getElem? (i := 4) rfl)) (by decide) (by decide)) (g := (mkF m 213 #[.val (.long lo), .second, .val (.long hi), .second, .val (.int f), .val (.int t), .val (.ref a9), .val (.int (Int32.ofNat F)), .val (.int (Int32.ofNat N)), .unset] [(.int (Int32.ofNat N)), (.int (Int32.ofNat F)), (.int (1 : Int32)), (.ref a9), (.int z259)])) rfl (by rw [hml]; rfl) (argsL := [(.ref a9), (.int (1 : Int32)), (.int (Int32.ofNat F)), (.int (Int32.ofNat N))]) (rest := [(.int z259)]) (lenOf pd_0 rfl) rfl (by show 2 * 0 + _ ≤ _; exact Nat.le_of_eq rfl) (hb hby at_213) (fun _ _ => ⟨rfl, e258, (by decide : 1 + 0 ≤ _), (by decide : 16 + 0 ≤ _)⟩)
  dsimp only [Pt.U, Pt.locs, Pt.cells, Pt.slots] at Xc265 lc265 yc265 zc265 stc265 hQc265
  subst lc265 yc265 zc265
  have X266 := Xc265.more (cells' := 1) (slots' := 16) (by decide) (by decide)
  obtain ⟨hv270, N267, e268⟩ := hQc265
  obtain ⟨z269, hz269⟩ : ∃ z : Int32, z = (own_one bs (1 : Int32) 1 (Int32.ofNat F) (Int32.ofNat N)) := ⟨_, rfl⟩
  rw [← hz269] at hv270
  subst hv270
  have N271 := Fr.app N264 N267
  obtain ⟨Lo272, X273, N274⟩ : ∃ Lo_, Stand p l e room_1 s m #[(.long lo), (.long hi), (.int f), (.int t)] below meth c Tc265 Lo_ 1 16 ∧ Fr n0 Lo_ := ⟨_, X266, N271⟩
  refine own_step (T' := Tc265) (g' := (mkF m 216 #[.val (.long lo), .second, .val (.long hi), .second, .val (.int f), .val (.int t), .val (.ref a9), .val (.int (Int32.ofNat F)), .val (.int (Int32.ofNat N)), .unset] [(.int z269), (.int z259)])) stc265 ?_
  refine own_step (T' := Tc265) (g' := (mkF m 217 #[.val (.long lo), .second, .val (.long hi), .second, .val (.int f), .val (.int t), .val (.ref a9), .val (.int (Int32.ofNat F)), .val (.int (Int32.ofNat N)), .unset] [(.int (z259 + z269))])) (fun t_ k_ => XS.iadd X273.here hx rfl (hb hby at_216) rfl k_) ?_
  obtain ⟨sm275, hsm275⟩ : ∃ z : Int32, z = (z259 + z269) := ⟨_, rfl⟩
  rw [← hsm275]
  refine own_step (T' := Tc265) (g' := (mkF m 219 #[.val (.long lo), .second, .val (.long hi), .second, .val (.int f), .val (.int t), .val (.ref a9), .val (.int (Int32.ofNat F)), .val (.int (Int32.ofNat N)), .unset] [(.ref a9), (.int sm275)])) (fun t_ k_ => XS.aload X273.here hx rfl (hb hby at_217) rfl rfl k_) ?_
  refine own_step (T' := Tc265) (g' := (mkF m 220 #[.val (.long lo), .second, .val (.long hi), .second, .val (.int f), .val (.int t), .val (.ref a9), .val (.int (Int32.ofNat F)), .val (.int (Int32.ofNat N)), .unset] [(.int (2 : Int32)), (.ref a9), (.int sm275)])) (fun t_ k_ => XT.iconstV X273.here hx rfl (2 : Int32) (hb hby at_219) (by decide) k_) ?_
  refine own_step (T' := Tc265) (g' := (mkF m 222 #[.val (.long lo), .second, .val (.long hi), .second, .val (.int f), .val (.int t), .val (.ref a9), .val (.int (Int32.ofNat F)), .val (.int (Int32.ofNat N)), .unset] [(.int (Int32.ofNat F)), (.int (2 : Int32)), (.ref a9), (.int sm275)])) (fun t_ k_ => XS.iload X273.here hx rfl (hb hby at_220) rfl k_) ?_
  refine own_step (T' := Tc265) (g' := (mkF m 224 #[.val (.long lo), .second, .val (.long hi), .second, .val (.int f), .val (.int t), .val (.ref a9), .val (.int (Int32.ofNat F)), .val (.int (Int32.ofNat N)), .unset] [(.int (Int32.ofNat N)), (.int (Int32.ofNat F)), (.int (2 : Int32)), (.ref a9), (.int sm275)])) (fun t_ k_ => XS.iload X273.here hx rfl (hb hby at_222) rfl k_) ?_
  obtain ⟨_, _, ⟨Tc276, Lc276, kc276, nc276⟩, -, Xc276, ⟨Lcc276, hQc276, lc276, yc276, zc276⟩, stc276⟩ := Jvm.LawKit.callS X273 hx (y := (⟨"com/example/sedimenta/sedimenta/store/VarIntsCountPinLaw", "one", "([BIII)I"⟩ : MethodName)) hown (mvT hZ (hw _ (List.mem_of_getElem? (i := 2) rfl))) (mvT hZ (hw _ (List.mem_of_getElem? (i := 3) rfl))) (mvT hZ (hw _ (List.mem_of_getElem? (i := 4) rfl))) (mvT hZ (hw _ (List.mem_of_getElem? (i := 5) rfl))) (by decide) (backOf (W := 1) (rm_one l Z a0 hw [] a9 bs (2 : Int32) (Int32.ofNat F) (Int32.ofNat N) 2 h243 n0 F249 V254 rfl (by rw [hl]; decide) hl) hZ (hw _ (List.mem_of_getElem? (i := 5) rfl)) (hw _ (List.mem_of_getElem? (i := 4) rfl)) (by decide) (by decide)) (g := (mkF m 224 #[.val (.long lo), .second, .val (.long hi), .second, .val (.int f), .val (.int t), .val (.ref a9), .val (.int (Int32.ofNat F)), .val (.int (Int32.ofNat N)), .unset] [(.int (Int32.ofNat N)), (.int (Int32.ofNat F)), (.int (2 : Int32)), (.ref a9), (.int sm275)])) rfl (by rw [hml]; rfl) (argsL := [(.ref a9), (.int (2 : Int32)), (.int (Int32.ofNat F)), (.int (Int32.ofNat N))]) (rest := [(.int sm275)]) (lenOf pd_0 rfl) rfl (by show 2 * 0 + _ ≤ _; exact Nat.le_of_eq rfl) (hb hby at_224) (fun _ _ => ⟨rfl, e268, (by decide : 1 + 0 ≤ _), (by decide : 16 + 0 ≤ _)⟩)
  dsimp only [Pt.U, Pt.locs, Pt.cells, Pt.slots] at Xc276 lc276 yc276 zc276 stc276 hQc276
  subst lc276 yc276 zc276
  have X277 := Xc276.more (cells' := 1) (slots' := 16) (by decide) (by decide)
  obtain ⟨hv281, N278, e279⟩ := hQc276
  obtain ⟨z280, hz280⟩ : ∃ z : Int32, z = (own_one bs (2 : Int32) 2 (Int32.ofNat F) (Int32.ofNat N)) := ⟨_, rfl⟩
  rw [← hz280] at hv281
  subst hv281
  have N282 := Fr.app N274 N278
  obtain ⟨Lo283, X284, N285⟩ : ∃ Lo_, Stand p l e room_1 s m #[(.long lo), (.long hi), (.int f), (.int t)] below meth c Tc276 Lo_ 1 16 ∧ Fr n0 Lo_ := ⟨_, X277, N282⟩
  refine own_step (T' := Tc276) (g' := (mkF m 227 #[.val (.long lo), .second, .val (.long hi), .second, .val (.int f), .val (.int t), .val (.ref a9), .val (.int (Int32.ofNat F)), .val (.int (Int32.ofNat N)), .unset] [(.int z280), (.int sm275)])) stc276 ?_
  refine own_step (T' := Tc276) (g' := (mkF m 228 #[.val (.long lo), .second, .val (.long hi), .second, .val (.int f), .val (.int t), .val (.ref a9), .val (.int (Int32.ofNat F)), .val (.int (Int32.ofNat N)), .unset] [(.int (sm275 + z280))])) (fun t_ k_ => XS.iadd X284.here hx rfl (hb hby at_227) rfl k_) ?_
  obtain ⟨sm286, hsm286⟩ : ∃ z : Int32, z = (sm275 + z280) := ⟨_, rfl⟩
  rw [← hsm286]
  refine own_step (T' := Tc276) (g' := (mkF m 230 #[.val (.long lo), .second, .val (.long hi), .second, .val (.int f), .val (.int t), .val (.ref a9), .val (.int (Int32.ofNat F)), .val (.int (Int32.ofNat N)), .unset] [(.ref a9), (.int sm286)])) (fun t_ k_ => XS.aload X284.here hx rfl (hb hby at_228) rfl rfl k_) ?_
  refine own_step (T' := Tc276) (g' := (mkF m 231 #[.val (.long lo), .second, .val (.long hi), .second, .val (.int f), .val (.int t), .val (.ref a9), .val (.int (Int32.ofNat F)), .val (.int (Int32.ofNat N)), .unset] [(.int (3 : Int32)), (.ref a9), (.int sm286)])) (fun t_ k_ => XT.iconstV X284.here hx rfl (3 : Int32) (hb hby at_230) (by decide) k_) ?_
  refine own_step (T' := Tc276) (g' := (mkF m 233 #[.val (.long lo), .second, .val (.long hi), .second, .val (.int f), .val (.int t), .val (.ref a9), .val (.int (Int32.ofNat F)), .val (.int (Int32.ofNat N)), .unset] [(.int (Int32.ofNat F)), (.int (3 : Int32)), (.ref a9), (.int sm286)])) (fun t_ k_ => XS.iload X284.here hx rfl (hb hby at_231) rfl k_) ?_
  refine own_step (T' := Tc276) (g' := (mkF m 235 #[.val (.long lo), .second, .val (.long hi), .second, .val (.int f), .val (.int t), .val (.ref a9), .val (.int (Int32.ofNat F)), .val (.int (Int32.ofNat N)), .unset] [(.int (Int32.ofNat N)), (.int (Int32.ofNat F)), (.int (3 : Int32)), (.ref a9), (.int sm286)])) (fun t_ k_ => XS.iload X284.here hx rfl (hb hby at_233) rfl k_) ?_
  obtain ⟨_, _, ⟨Tc287, Lc287, kc287, nc287⟩, -, Xc287, ⟨Lcc287, hQc287, lc287, yc287, zc287⟩, stc287⟩ := Jvm.LawKit.callS X284 hx (y := (⟨"com/example/sedimenta/sedimenta/store/VarIntsCountPinLaw", "one", "([BIII)I"⟩ : MethodName)) hown (mvT hZ (hw _ (List.mem_of_getElem? (i := 2) rfl))) (mvT hZ (hw _ (List.mem_of_getElem? (i := 3) rfl))) (mvT hZ (hw _ (List.mem_of_getElem? (i := 4) rfl))) (mvT hZ (hw _ (List.mem_of_getElem? (i := 5) rfl))) (by decide) (backOf (W := 1) (rm_one l Z a0 hw [] a9 bs (3 : Int32) (Int32.ofNat F) (Int32.ofNat N) 3 h243 n0 F249 V254 rfl (by rw [hl]; decide) hl) hZ (hw _ (List.mem_of_getElem? (i := 5) rfl)) (hw _ (List.mem_of_getElem? (i := 4) rfl)) (by decide) (by decide)) (g := (mkF m 235 #[.val (.long lo), .second, .val (.long hi), .second, .val (.int f), .val (.int t), .val (.ref a9), .val (.int (Int32.ofNat F)), .val (.int (Int32.ofNat N)), .unset] [(.int (Int32.ofNat N)), (.int (Int32.ofNat F)), (.int (3 : Int32)), (.ref a9), (.int sm286)])) rfl (by rw [hml]; rfl) (argsL := [(.ref a9), (.int (3 : Int32)), (.int (Int32.ofNat F)), (.int (Int32.ofNat N))]) (rest := [(.int sm286)]) (lenOf pd_0 rfl) rfl (by show 2 * 0 + _ ≤ _; exact Nat.le_of_eq rfl) (hb hby at_235) (fun _ _ => ⟨rfl, e279, (by decide : 1 + 0 ≤ _), (by decide : 16 + 0 ≤ _)⟩)
  dsimp only [Pt.U, Pt.locs, Pt.cells, Pt.slots] at Xc287 lc287 yc287 zc287 stc287 hQc287
  subst lc287 yc287 zc287
  have X288 := Xc287.more (cells' := 1) (slots' := 16) (by decide) (by decide)
  obtain ⟨hv292, N289, e290⟩ := hQc287
  obtain ⟨z291, hz291⟩ : ∃ z : Int32, z = (own_one bs (3 : Int32) 3 (Int32.ofNat F) (Int32.ofNat N)) := ⟨_, rfl⟩
  rw [← hz291] at hv292
  subst hv292
  have N293 := Fr.app N285 N289
  obtain ⟨Lo294, X295, N296⟩ : ∃ Lo_, Stand p l e room_1 s m #[(.long lo), (.long hi), (.int f), (.int t)] below meth c Tc287 Lo_ 1 16 ∧ Fr n0 Lo_ := ⟨_, X288, N293⟩
  refine own_step (T' := Tc287) (g' := (mkF m 238 #[.val (.long lo), .second, .val (.long hi), .second, .val (.int f), .val (.int t), .val (.ref a9), .val (.int (Int32.ofNat F)), .val (.int (Int32.ofNat N)), .unset] [(.int z291), (.int sm286)])) stc287 ?_
  refine own_step (T' := Tc287) (g' := (mkF m 239 #[.val (.long lo), .second, .val (.long hi), .second, .val (.int f), .val (.int t), .val (.ref a9), .val (.int (Int32.ofNat F)), .val (.int (Int32.ofNat N)), .unset] [(.int (sm286 + z291))])) (fun t_ k_ => XS.iadd X295.here hx rfl (hb hby at_238) rfl k_) ?_
  obtain ⟨sm297, hsm297⟩ : ∃ z : Int32, z = (sm286 + z291) := ⟨_, rfl⟩
  rw [← hsm297]
  refine own_step (T' := Tc287) (g' := (mkF m 241 #[.val (.long lo), .second, .val (.long hi), .second, .val (.int f), .val (.int t), .val (.ref a9), .val (.int (Int32.ofNat F)), .val (.int (Int32.ofNat N)), .unset] [(.ref a9), (.int sm297)])) (fun t_ k_ => XS.aload X295.here hx rfl (hb hby at_239) rfl rfl k_) ?_
  refine own_step (T' := Tc287) (g' := (mkF m 242 #[.val (.long lo), .second, .val (.long hi), .second, .val (.int f), .val (.int t), .val (.ref a9), .val (.int (Int32.ofNat F)), .val (.int (Int32.ofNat N)), .unset] [(.int (4 : Int32)), (.ref a9), (.int sm297)])) (fun t_ k_ => XT.iconstV X295.here hx rfl (4 : Int32) (hb hby at_241) (by decide) k_) ?_
  refine own_step (T' := Tc287) (g' := (mkF m 244 #[.val (.long lo), .second, .val (.long hi), .second, .val (.int f), .val (.int t), .val (.ref a9), .val (.int (Int32.ofNat F)), .val (.int (Int32.ofNat N)), .unset] [(.int (Int32.ofNat F)), (.int (4 : Int32)), (.ref a9), (.int sm297)])) (fun t_ k_ => XS.iload X295.here hx rfl (hb hby at_242) rfl k_) ?_
  refine own_step (T' := Tc287) (g' := (mkF m 246 #[.val (.long lo), .second, .val (.long hi), .second, .val (.int f), .val (.int t), .val (.ref a9), .val (.int (Int32.ofNat F)), .val (.int (Int32.ofNat N)), .unset] [(.int (Int32.ofNat N)), (.int (Int32.ofNat F)), (.int (4 : Int32)), (.ref a9), (.int sm297)])) (fun t_ k_ => XS.iload X295.here hx rfl (hb hby at_244) rfl k_) ?_
  obtain ⟨_, _, ⟨Tc298, Lc298, kc298, nc298⟩, -, Xc298, ⟨Lcc298, hQc298, lc298, yc298, zc298⟩, stc298⟩ := Jvm.LawKit.callS X295 hx (y := (⟨"com/example/sedimenta/sedimenta/store/VarIntsCountPinLaw", "one", "([BIII)I"⟩ : MethodName)) hown (mvT hZ (hw _ (List.mem_of_getElem? (i := 2) rfl))) (mvT hZ (hw _ (List.mem_of_getElem? (i := 3) rfl))) (mvT hZ (hw _ (List.mem_of_getElem? (i := 4) rfl))) (mvT hZ (hw _ (List.mem_of_getElem? (i := 5) rfl))) (by decide) (backOf (W := 1) (rm_one l Z a0 hw [] a9 bs (4 : Int32) (Int32.ofNat F) (Int32.ofNat N) 4 h243 n0 F249 V254 rfl (by rw [hl]; decide) hl) hZ (hw _ (List.mem_of_getElem? (i := 5) rfl)) (hw _ (List.mem_of_getElem? (i := 4) rfl)) (by decide) (by decide)) (g := (mkF m 246 #[.val (.long lo), .second, .val (.long hi), .second, .val (.int f), .val (.int t), .val (.ref a9), .val (.int (Int32.ofNat F)), .val (.int (Int32.ofNat N)), .unset] [(.int (Int32.ofNat N)), (.int (Int32.ofNat F)), (.int (4 : Int32)), (.ref a9), (.int sm297)])) rfl (by rw [hml]; rfl) (argsL := [(.ref a9), (.int (4 : Int32)), (.int (Int32.ofNat F)), (.int (Int32.ofNat N))]) (rest := [(.int sm297)]) (lenOf pd_0 rfl) rfl (by show 2 * 0 + _ ≤ _; exact Nat.le_of_eq rfl) (hb hby at_246) (fun _ _ => ⟨rfl, e290, (by decide : 1 + 0 ≤ _), (by decide : 16 + 0 ≤ _)⟩)
  dsimp only [Pt.U, Pt.locs, Pt.cells, Pt.slots] at Xc298 lc298 yc298 zc298 stc298 hQc298
  subst lc298 yc298 zc298
  have X299 := Xc298.more (cells' := 1) (slots' := 16) (by decide) (by decide)
  obtain ⟨hv303, N300, e301⟩ := hQc298
  obtain ⟨z302, hz302⟩ : ∃ z : Int32, z = (own_one bs (4 : Int32) 4 (Int32.ofNat F) (Int32.ofNat N)) := ⟨_, rfl⟩
  rw [← hz302] at hv303
  subst hv303
  have N304 := Fr.app N296 N300
  obtain ⟨Lo305, X306, N307⟩ : ∃ Lo_, Stand p l e room_1 s m #[(.long lo), (.long hi), (.int f), (.int t)] below meth c Tc298 Lo_ 1 16 ∧ Fr n0 Lo_ := ⟨_, X299, N304⟩
  refine own_step (T' := Tc298) (g' := (mkF m 249 #[.val (.long lo), .second, .val (.long hi), .second, .val (.int f), .val (.int t), .val (.ref a9), .val (.int (Int32.ofNat F)), .val (.int (Int32.ofNat N)), .unset] [(.int z302), (.int sm297)])) stc298 ?_
  refine own_step (T' := Tc298) (g' := (mkF m 250 #[.val (.long lo), .second, .val (.long hi), .second, .val (.int f), .val (.int t), .val (.ref a9), .val (.int (Int32.ofNat F)), .val (.int (Int32.ofNat N)), .unset] [(.int (sm297 + z302))])) (fun t_ k_ => XS.iadd X306.here hx rfl (hb hby at_249) rfl k_) ?_
  obtain ⟨sm308, hsm308⟩ : ∃ z : Int32, z = (sm297 + z302) := ⟨_, rfl⟩
  rw [← hsm308]
  refine own_step (T' := Tc298) (g' := (mkF m 252 #[.val (.long lo), .second, .val (.long hi), .second, .val (.int f), .val (.int t), .val (.ref a9), .val (.int (Int32.ofNat F)), .val (.int (Int32.ofNat N)), .unset] [(.ref a9), (.int sm308)])) (fun t_ k_ => XS.aload X306.here hx rfl (hb hby at_250) rfl rfl k_) ?_
  refine own_step (T' := Tc298) (g' := (mkF m 253 #[.val (.long lo), .second, .val (.long hi), .second, .val (.int f), .val (.int t), .val (.ref a9), .val (.int (Int32.ofNat F)), .val (.int (Int32.ofNat N)), .unset] [(.int (5 : Int32)), (.ref a9), (.int sm308)])) (fun t_ k_ => XT.iconstV X306.here hx rfl (5 : Int32) (hb hby at_252) (by decide) k_) ?_
  refine own_step (T' := Tc298) (g' := (mkF m 255 #[.val (.long lo), .second, .val (.long hi), .second, .val (.int f), .val (.int t), .val (.ref a9), .val (.int (Int32.ofNat F)), .val (.int (Int32.ofNat N)), .unset] [(.int (Int32.ofNat F)), (.int (5 : Int32)), (.ref a9), (.int sm308)])) (fun t_ k_ => XS.iload X306.here hx rfl (hb hby at_253) rfl k_) ?_
  refine own_step (T' := Tc298) (g' := (mkF m 257 #[.val (.long lo), .second, .val (.long hi), .second, .val (.int f), .val (.int t), .val (.ref a9), .val (.int (Int32.ofNat F)), .val (.int (Int32.ofNat N)), .unset] [(.int (Int32.ofNat N)), (.int (Int32.ofNat F)), (.int (5 : Int32)), (.ref a9), (.int sm308)])) (fun t_ k_ => XS.iload X306.here hx rfl (hb hby at_255) rfl k_) ?_
  obtain ⟨_, _, ⟨Tc309, Lc309, kc309, nc309⟩, -, Xc309, ⟨Lcc309, hQc309, lc309, yc309, zc309⟩, stc309⟩ := Jvm.LawKit.callS X306 hx (y := (⟨"com/example/sedimenta/sedimenta/store/VarIntsCountPinLaw", "one", "([BIII)I"⟩ : MethodName)) hown (mvT hZ (hw _ (List.mem_of_getElem? (i := 2) rfl))) (mvT hZ (hw _ (List.mem_of_getElem? (i := 3) rfl))) (mvT hZ (hw _ (List.mem_of_getElem? (i := 4) rfl))) (mvT hZ (hw _ (List.mem_of_getElem? (i := 5) rfl))) (by decide) (backOf (W := 1) (rm_one l Z a0 hw [] a9 bs (5 : Int32) (Int32.ofNat F) (Int32.ofNat N) 5 h243 n0 F249 V254 rfl (by rw [hl]; decide) hl) hZ (hw _ (List.mem_of_getElem? (i := 5) rfl)) (hw _ (List.mem_of_getElem? (i := 4) rfl)) (by decide) (by decide)) (g := (mkF m 257 #[.val (.long lo), .second, .val (.long hi), .second, .val (.int f), .val (.int t), .val (.ref a9), .val (.int (Int32.ofNat F)), .val (.int (Int32.ofNat N)), .unset] [(.int (Int32.ofNat N)), (.int (Int32.ofNat F)), (.int (5 : Int32)), (.ref a9), (.int sm308)])) rfl (by rw [hml]; rfl) (argsL := [(.ref a9), (.int (5 : Int32)), (.int (Int32.ofNat F)), (.int (Int32.ofNat N))]) (rest := [(.int sm308)]) (lenOf pd_0 rfl) rfl (by show 2 * 0 + _ ≤ _; exact Nat.le_of_eq rfl) (hb hby at_257) (fun _ _ => ⟨rfl, e301, (by decide : 1 + 0 ≤ _), (by decide : 16 + 0 ≤ _)⟩)
  dsimp only [Pt.U, Pt.locs, Pt.cells, Pt.slots] at Xc309 lc309 yc309 zc309 stc309 hQc309
  subst lc309 yc309 zc309
  have X310 := Xc309.more (cells' := 1) (slots' := 16) (by decide) (by decide)
  obtain ⟨hv314, N311, e312⟩ := hQc309
  obtain ⟨z313, hz313⟩ : ∃ z : Int32, z = (own_one bs (5 : Int32) 5 (Int32.ofNat F) (Int32.ofNat N)) := ⟨_, rfl⟩
  rw [← hz313] at hv314
  subst hv314
  have N315 := Fr.app N307 N311
  obtain ⟨Lo316, X317, N318⟩ : ∃ Lo_, Stand p l e room_1 s m #[(.long lo), (.long hi), (.int f), (.int t)] below meth c Tc309 Lo_ 1 16 ∧ Fr n0 Lo_ := ⟨_, X310, N315⟩
  refine own_step (T' := Tc309) (g' := (mkF m 260 #[.val (.long lo), .second, .val (.long hi), .second, .val (.int f), .val (.int t), .val (.ref a9), .val (.int (Int32.ofNat F)), .val (.int (Int32.ofNat N)), .unset] [(.int z313), (.int sm308)])) stc309 ?_
  refine own_step (T' := Tc309) (g' := (mkF m 261 #[.val (.long lo), .second, .val (.long hi), .second, .val (.int f), .val (.int t), .val (.ref a9), .val (.int (Int32.ofNat F)), .val (.int (Int32.ofNat N)), .unset] [(.int (sm308 + z313))])) (fun t_ k_ => XS.iadd X317.here hx rfl (hb hby at_260) rfl k_) ?_
  obtain ⟨sm319, hsm319⟩ : ∃ z : Int32, z = (sm308 + z313) := ⟨_, rfl⟩
  rw [← hsm319]
  refine own_step (T' := Tc309) (g' := (mkF m 263 #[.val (.long lo), .second, .val (.long hi), .second, .val (.int f), .val (.int t), .val (.ref a9), .val (.int (Int32.ofNat F)), .val (.int (Int32.ofNat N)), .unset] [(.ref a9), (.int sm319)])) (fun t_ k_ => XS.aload X317.here hx rfl (hb hby at_261) rfl rfl k_) ?_
  refine own_step (T' := Tc309) (g' := (mkF m 265 #[.val (.long lo), .second, .val (.long hi), .second, .val (.int f), .val (.int t), .val (.ref a9), .val (.int (Int32.ofNat F)), .val (.int (Int32.ofNat N)), .unset] [(.int (6 : Int32)), (.ref a9), (.int sm319)])) (fun t_ k_ => XT.bipushV X317.here hx rfl (6 : Int32) (hb hby at_263) (by decide) k_) ?_
  refine own_step (T' := Tc309) (g' := (mkF m 267 #[.val (.long lo), .second, .val (.long hi), .second, .val (.int f), .val (.int t), .val (.ref a9), .val (.int (Int32.ofNat F)), .val (.int (Int32.ofNat N)), .unset] [(.int (Int32.ofNat F)), (.int (6 : Int32)), (.ref a9), (.int sm319)])) (fun t_ k_ => XS.iload X317.here hx rfl (hb hby at_265) rfl k_) ?_
  refine own_step (T' := Tc309) (g' := (mkF m 269 #[.val (.long lo), .second, .val (.long hi), .second, .val (.int f), .val (.int t), .val (.ref a9), .val (.int (Int32.ofNat F)), .val (.int (Int32.ofNat N)), .unset] [(.int (Int32.ofNat N)), (.int (Int32.ofNat F)), (.int (6 : Int32)), (.ref a9), (.int sm319)])) (fun t_ k_ => XS.iload X317.here hx rfl (hb hby at_267) rfl k_) ?_
  obtain ⟨_, _, ⟨Tc320, Lc320, kc320, nc320⟩, -, Xc320, ⟨Lcc320, hQc320, lc320, yc320, zc320⟩, stc320⟩ := Jvm.LawKit.callS X317 hx (y := (⟨"com/example/sedimenta/sedimenta/store/VarIntsCountPinLaw", "one", "([BIII)I"⟩ : MethodName)) hown (mvT hZ (hw _ (List.mem_of_getElem? (i := 2) rfl))) (mvT hZ (hw _ (List.mem_of_getElem? (i := 3) rfl))) (mvT hZ (hw _ (List.mem_of_getElem? (i := 4) rfl))) (mvT hZ (hw _ (List.mem_of_getElem? (i := 5) rfl))) (by decide) (backOf (W := 1) (rm_one l Z a0 hw [] a9 bs (6 : Int32) (Int32.ofNat F) (Int32.ofNat N) 6 h243 n0 F249 V254 rfl (by rw [hl]; decide) hl) hZ (hw _ (List.mem_of_getElem? (i := 5) rfl)) (hw _ (List.mem_of_getElem? (i := 4) rfl)) (by decide) (by decide)) (g := (mkF m 269 #[.val (.long lo), .second, .val (.long hi), .second, .val (.int f), .val (.int t), .val (.ref a9), .val (.int (Int32.ofNat F)), .val (.int (Int32.ofNat N)), .unset] [(.int (Int32.ofNat N)), (.int (Int32.ofNat F)), (.int (6 : Int32)), (.ref a9), (.int sm319)])) rfl (by rw [hml]; rfl) (argsL := [(.ref a9), (.int (6 : Int32)), (.int (Int32.ofNat F)), (.int (Int32.ofNat N))]) (rest := [(.int sm319)]) (lenOf pd_0 rfl) rfl (by show 2 * 0 + _ ≤ _; exact Nat.le_of_eq rfl) (hb hby at_269) (fun _ _ => ⟨rfl, e312, (by decide : 1 + 0 ≤ _), (by decide : 16 + 0 ≤ _)⟩)
  dsimp only [Pt.U, Pt.locs, Pt.cells, Pt.slots] at Xc320 lc320 yc320 zc320 stc320 hQc320
  subst lc320 yc320 zc320
  have X321 := Xc320.more (cells' := 1) (slots' := 16) (by decide) (by decide)
  obtain ⟨hv325, N322, e323⟩ := hQc320
  obtain ⟨z324, hz324⟩ : ∃ z : Int32, z = (own_one bs (6 : Int32) 6 (Int32.ofNat F) (Int32.ofNat N)) := ⟨_, rfl⟩
  rw [← hz324] at hv325
  subst hv325
  have N326 := Fr.app N318 N322
  obtain ⟨Lo327, X328, N329⟩ : ∃ Lo_, Stand p l e room_1 s m #[(.long lo), (.long hi), (.int f), (.int t)] below meth c Tc320 Lo_ 1 16 ∧ Fr n0 Lo_ := ⟨_, X321, N326⟩
  refine own_step (T' := Tc320) (g' := (mkF m 272 #[.val (.long lo), .second, .val (.long hi), .second, .val (.int f), .val (.int t), .val (.ref a9), .val (.int (Int32.ofNat F)), .val (.int (Int32.ofNat N)), .unset] [(.int z324), (.int sm319)])) stc320 ?_
  refine own_step (T' := Tc320) (g' := (mkF m 273 #[.val (.long lo), .second, .val (.long hi), .second, .val (.int f), .val (.int t), .val (.ref a9), .val (.int (Int32.ofNat F)), .val (.int (Int32.ofNat N)), .unset] [(.int (sm319 + z324))])) (fun t_ k_ => XS.iadd X328.here hx rfl (hb hby at_272) rfl k_) ?_
  obtain ⟨sm330, hsm330⟩ : ∃ z : Int32, z = (sm319 + z324) := ⟨_, rfl⟩
  rw [← hsm330]
  refine own_step (T' := Tc320) (g' := (mkF m 275 #[.val (.long lo), .second, .val (.long hi), .second, .val (.int f), .val (.int t), .val (.ref a9), .val (.int (Int32.ofNat F)), .val (.int (Int32.ofNat N)), .unset] [(.ref a9), (.int sm330)])) (fun t_ k_ => XS.aload X328.here hx rfl (hb hby at_273) rfl rfl k_) ?_
  refine own_step (T' := Tc320) (g' := (mkF m 277 #[.val (.long lo), .second, .val (.long hi), .second, .val (.int f), .val (.int t), .val (.ref a9), .val (.int (Int32.ofNat F)), .val (.int (Int32.ofNat N)), .unset] [(.int (7 : Int32)), (.ref a9), (.int sm330)])) (fun t_ k_ => XT.bipushV X328.here hx rfl (7 : Int32) (hb hby at_275) (by decide) k_) ?_
  refine own_step (T' := Tc320) (g' := (mkF m 279 #[.val (.long lo), .second, .val (.long hi), .second, .val (.int f), .val (.int t), .val (.ref a9), .val (.int (Int32.ofNat F)), .val (.int (Int32.ofNat N)), .unset] [(.int (Int32.ofNat F)), (.int (7 : Int32)), (.ref a9), (.int sm330)])) (fun t_ k_ => XS.iload X328.here hx rfl (hb hby at_277) rfl k_) ?_
  refine own_step (T' := Tc320) (g' := (mkF m 281 #[.val (.long lo), .second, .val (.long hi), .second, .val (.int f), .val (.int t), .val (.ref a9), .val (.int (Int32.ofNat F)), .val (.int (Int32.ofNat N)), .unset] [(.int (Int32.ofNat N)), (.int (Int32.ofNat F)), (.int (7 : Int32)), (.ref a9), (.int sm330)])) (fun t_ k_ => XS.iload X328.here hx rfl (hb hby at_279) rfl k_) ?_
  obtain ⟨_, _, ⟨Tc331, Lc331, kc331, nc331⟩, -, Xc331, ⟨Lcc331, hQc331, lc331, yc331, zc331⟩, stc331⟩ := Jvm.LawKit.callS X328 hx (y := (⟨"com/example/sedimenta/sedimenta/store/VarIntsCountPinLaw", "one", "([BIII)I"⟩ : MethodName)) hown (mvT hZ (hw _ (List.mem_of_getElem? (i := 2) rfl))) (mvT hZ (hw _ (List.mem_of_getElem? (i := 3) rfl))) (mvT hZ (hw _ (List.mem_of_getElem? (i := 4) rfl))) (mvT hZ (hw _ (List.mem_of_getElem? (i := 5) rfl))) (by decide) (backOf (W := 1) (rm_one l Z a0 hw [] a9 bs (7 : Int32) (Int32.ofNat F) (Int32.ofNat N) 7 h243 n0 F249 V254 rfl (by rw [hl]; decide) hl) hZ (hw _ (List.mem_of_getElem? (i := 5) rfl)) (hw _ (List.mem_of_getElem? (i := 4) rfl)) (by decide) (by decide)) (g := (mkF m 281 #[.val (.long lo), .second, .val (.long hi), .second, .val (.int f), .val (.int t), .val (.ref a9), .val (.int (Int32.ofNat F)), .val (.int (Int32.ofNat N)), .unset] [(.int (Int32.ofNat N)), (.int (Int32.ofNat F)), (.int (7 : Int32)), (.ref a9), (.int sm330)])) rfl (by rw [hml]; rfl) (argsL := [(.ref a9), (.int (7 : Int32)), (.int (Int32.ofNat F)), (.int (Int32.ofNat N))]) (rest := [(.int sm330)]) (lenOf pd_0 rfl) rfl (by show 2 * 0 + _ ≤ _; exact Nat.le_of_eq rfl) (hb hby at_281) (fun _ _ => ⟨rfl, e323, (by decide : 1 + 0 ≤ _), (by decide : 16 + 0 ≤ _)⟩)
  dsimp only [Pt.U, Pt.locs, Pt.cells, Pt.slots] at Xc331 lc331 yc331 zc331 stc331 hQc331
  subst lc331 yc331 zc331
  have X332 := Xc331.more (cells' := 1) (slots' := 16) (by decide) (by decide)
  obtain ⟨hv336, N333, e334⟩ := hQc331
  obtain ⟨z335, hz335⟩ : ∃ z : Int32, z = (own_one bs (7 : Int32) 7 (Int32.ofNat F) (Int32.ofNat N)) := ⟨_, rfl⟩
  rw [← hz335] at hv336
  subst hv336
  have N337 := Fr.app N329 N333
  obtain ⟨Lo338, X339, N340⟩ : ∃ Lo_, Stand p l e room_1 s m #[(.long lo), (.long hi), (.int f), (.int t)] below meth c Tc331 Lo_ 1 16 ∧ Fr n0 Lo_ := ⟨_, X332, N337⟩
  refine own_step (T' := Tc331) (g' := (mkF m 284 #[.val (.long lo), .second, .val (.long hi), .second, .val (.int f), .val (.int t), .val (.ref a9), .val (.int (Int32.ofNat F)), .val (.int (Int32.ofNat N)), .unset] [(.int z335), (.int sm330)])) stc331 ?_
  refine own_step (T' := Tc331) (g' := (mkF m 285 #[.val (.long lo), .second, .val (.long hi), .second, .val (.int f), .val (.int t), .val (.ref a9), .val (.int (Int32.ofNat F)), .val (.int (Int32.ofNat N)), .unset] [(.int (sm330 + z335))])) (fun t_ k_ => XS.iadd X339.here hx rfl (hb hby at_284) rfl k_) ?_
  obtain ⟨sm341, hsm341⟩ : ∃ z : Int32, z = (sm330 + z335) := ⟨_, rfl⟩
  rw [← hsm341]
  refine own_step (T' := Tc331) (g' := (mkF m 287 #[.val (.long lo), .second, .val (.long hi), .second, .val (.int f), .val (.int t), .val (.ref a9), .val (.int (Int32.ofNat F)), .val (.int (Int32.ofNat N)), .unset] [(.ref a9), (.int sm341)])) (fun t_ k_ => XS.aload X339.here hx rfl (hb hby at_285) rfl rfl k_) ?_
  refine own_step (T' := Tc331) (g' := (mkF m 289 #[.val (.long lo), .second, .val (.long hi), .second, .val (.int f), .val (.int t), .val (.ref a9), .val (.int (Int32.ofNat F)), .val (.int (Int32.ofNat N)), .unset] [(.int (8 : Int32)), (.ref a9), (.int sm341)])) (fun t_ k_ => XT.bipushV X339.here hx rfl (8 : Int32) (hb hby at_287) (by decide) k_) ?_
  refine own_step (T' := Tc331) (g' := (mkF m 291 #[.val (.long lo), .second, .val (.long hi), .second, .val (.int f), .val (.int t), .val (.ref a9), .val (.int (Int32.ofNat F)), .val (.int (Int32.ofNat N)), .unset] [(.int (Int32.ofNat F)), (.int (8 : Int32)), (.ref a9), (.int sm341)])) (fun t_ k_ => XS.iload X339.here hx rfl (hb hby at_289) rfl k_) ?_
  refine own_step (T' := Tc331) (g' := (mkF m 293 #[.val (.long lo), .second, .val (.long hi), .second, .val (.int f), .val (.int t), .val (.ref a9), .val (.int (Int32.ofNat F)), .val (.int (Int32.ofNat N)), .unset] [(.int (Int32.ofNat N)), (.int (Int32.ofNat F)), (.int (8 : Int32)), (.ref a9), (.int sm341)])) (fun t_ k_ => XS.iload X339.here hx rfl (hb hby at_291) rfl k_) ?_
  obtain ⟨_, _, ⟨Tc342, Lc342, kc342, nc342⟩, -, Xc342, ⟨Lcc342, hQc342, lc342, yc342, zc342⟩, stc342⟩ := Jvm.LawKit.callS X339 hx (y := (⟨"com/example/sedimenta/sedimenta/store/VarIntsCountPinLaw", "one", "([BIII)I"⟩ : MethodName)) hown (mvT hZ (hw _ (List.mem_of_getElem? (i := 2) rfl))) (mvT hZ (hw _ (List.mem_of_getElem? (i := 3) rfl))) (mvT hZ (hw _ (List.mem_of_getElem? (i := 4) rfl))) (mvT hZ (hw _ (List.mem_of_getElem? (i := 5) rfl))) (by decide) (backOf (W := 1) (rm_one l Z a0 hw [] a9 bs (8 : Int32) (Int32.ofNat F) (Int32.ofNat N) 8 h243 n0 F249 V254 rfl (by rw [hl]; decide) hl) hZ (hw _ (List.mem_of_getElem? (i := 5) rfl)) (hw _ (List.mem_of_getElem? (i := 4) rfl)) (by decide) (by decide)) (g := (mkF m 293 #[.val (.long lo), .second, .val (.long hi), .second, .val (.int f), .val (.int t), .val (.ref a9), .val (.int (Int32.ofNat F)), .val (.int (Int32.ofNat N)), .unset] [(.int (Int32.ofNat N)), (.int (Int32.ofNat F)), (.int (8 : Int32)), (.ref a9), (.int sm341)])) rfl (by rw [hml]; rfl) (argsL := [(.ref a9), (.int (8 : Int32)), (.int (Int32.ofNat F)), (.int (Int32.ofNat N))]) (rest := [(.int sm341)]) (lenOf pd_0 rfl) rfl (by show 2 * 0 + _ ≤ _; exact Nat.le_of_eq rfl) (hb hby at_293) (fun _ _ => ⟨rfl, e334, (by decide : 1 + 0 ≤ _), (by decide : 16 + 0 ≤ _)⟩)
  dsimp only [Pt.U, Pt.locs, Pt.cells, Pt.slots] at Xc342 lc342 yc342 zc342 stc342 hQc342
  subst lc342 yc342 zc342
  have X343 := Xc342.more (cells' := 1) (slots' := 16) (by decide) (by decide)
  obtain ⟨hv347, N344, e345⟩ := hQc342
  obtain ⟨z346, hz346⟩ : ∃ z : Int32, z = (own_one bs (8 : Int32) 8 (Int32.ofNat F) (Int32.ofNat N)) := ⟨_, rfl⟩
  rw [← hz346] at hv347
  subst hv347
  have N348 := Fr.app N340 N344
  obtain ⟨Lo349, X350, N351⟩ : ∃ Lo_, Stand p l e room_1 s m #[(.long lo), (.long hi), (.int f), (.int t)] below meth c Tc342 Lo_ 1 16 ∧ Fr n0 Lo_ := ⟨_, X343, N348⟩
  refine own_step (T' := Tc342) (g' := (mkF m 296 #[.val (.long lo), .second, .val (.long hi), .second, .val (.int f), .val (.int t), .val (.ref a9), .val (.int (Int32.ofNat F)), .val (.int (Int32.ofNat N)), .unset] [(.int z346), (.int sm341)])) stc342 ?_
  refine own_step (T' := Tc342) (g' := (mkF m 297 #[.val (.long lo), .second, .val (.long hi), .second, .val (.int f), .val (.int t), .val (.ref a9), .val (.int (Int32.ofNat F)), .val (.int (Int32.ofNat N)), .unset] [(.int (sm341 + z346))])) (fun t_ k_ => XS.iadd X350.here hx rfl (hb hby at_296) rfl k_) ?_
  obtain ⟨sm352, hsm352⟩ : ∃ z : Int32, z = (sm341 + z346) := ⟨_, rfl⟩
  rw [← hsm352]
  refine own_step (T' := Tc342) (g' := (mkF m 299 #[.val (.long lo), .second, .val (.long hi), .second, .val (.int f), .val (.int t), .val (.ref a9), .val (.int (Int32.ofNat F)), .val (.int (Int32.ofNat N)), .unset] [(.ref a9), (.int sm352)])) (fun t_ k_ => XS.aload X350.here hx rfl (hb hby at_297) rfl rfl k_) ?_
  refine own_step (T' := Tc342) (g' := (mkF m 301 #[.val (.long lo), .second, .val (.long hi), .second, .val (.int f), .val (.int t), .val (.ref a9), .val (.int (Int32.ofNat F)), .val (.int (Int32.ofNat N)), .unset] [(.int (9 : Int32)), (.ref a9), (.int sm352)])) (fun t_ k_ => XT.bipushV X350.here hx rfl (9 : Int32) (hb hby at_299) (by decide) k_) ?_
  refine own_step (T' := Tc342) (g' := (mkF m 303 #[.val (.long lo), .second, .val (.long hi), .second, .val (.int f), .val (.int t), .val (.ref a9), .val (.int (Int32.ofNat F)), .val (.int (Int32.ofNat N)), .unset] [(.int (Int32.ofNat F)), (.int (9 : Int32)), (.ref a9), (.int sm352)])) (fun t_ k_ => XS.iload X350.here hx rfl (hb hby at_301) rfl k_) ?_
  refine own_step (T' := Tc342) (g' := (mkF m 305 #[.val (.long lo), .second, .val (.long hi), .second, .val (.int f), .val (.int t), .val (.ref a9), .val (.int (Int32.ofNat F)), .val (.int (Int32.ofNat N)), .unset] [(.int (Int32.ofNat N)), (.int (Int32.ofNat F)), (.int (9 : Int32)), (.ref a9), (.int sm352)])) (fun t_ k_ => XS.iload X350.here hx rfl (hb hby at_303) rfl k_) ?_
  obtain ⟨_, _, ⟨Tc353, Lc353, kc353, nc353⟩, -, Xc353, ⟨Lcc353, hQc353, lc353, yc353, zc353⟩, stc353⟩ := Jvm.LawKit.callS X350 hx (y := (⟨"com/example/sedimenta/sedimenta/store/VarIntsCountPinLaw", "one", "([BIII)I"⟩ : MethodName)) hown (mvT hZ (hw _ (List.mem_of_getElem? (i := 2) rfl))) (mvT hZ (hw _ (List.mem_of_getElem? (i := 3) rfl))) (mvT hZ (hw _ (List.mem_of_getElem? (i := 4) rfl))) (mvT hZ (hw _ (List.mem_of_getElem? (i := 5) rfl))) (by decide) (backOf (W := 1) (rm_one l Z a0 hw [] a9 bs (9 : Int32) (Int32.ofNat F) (Int32.ofNat N) 9 h243 n0 F249 V254 rfl (by rw [hl]; decide) hl) hZ (hw _ (List.mem_of_getElem? (i := 5) rfl)) (hw _ (List.mem_of_getElem? (i := 4) rfl)) (by decide) (by decide)) (g := (mkF m 305 #[.val (.long lo), .second, .val (.long hi), .second, .val (.int f), .val (.int t), .val (.ref a9), .val (.int (Int32.ofNat F)), .val (.int (Int32.ofNat N)), .unset] [(.int (Int32.ofNat N)), (.int (Int32.ofNat F)), (.int (9 : Int32)), (.ref a9), (.int sm352)])) rfl (by rw [hml]; rfl) (argsL := [(.ref a9), (.int (9 : Int32)), (.int (Int32.ofNat F)), (.int (Int32.ofNat N))]) (rest := [(.int sm352)]) (lenOf pd_0 rfl) rfl (by show 2 * 0 + _ ≤ _; exact Nat.le_of_eq rfl) (hb hby at_305) (fun _ _ => ⟨rfl, e345, (by decide : 1 + 0 ≤ _), (by decide : 16 + 0 ≤ _)⟩)
  dsimp only [Pt.U, Pt.locs, Pt.cells, Pt.slots] at Xc353 lc353 yc353 zc353 stc353 hQc353
  subst lc353 yc353 zc353
  have X354 := Xc353.more (cells' := 1) (slots' := 16) (by decide) (by decide)
  obtain ⟨hv358, N355, e356⟩ := hQc353
  obtain ⟨z357, hz357⟩ : ∃ z : Int32, z = (own_one bs (9 : Int32) 9 (Int32.ofNat F) (Int32.ofNat N)) := ⟨_, rfl⟩
  rw [← hz357] at hv358
  subst hv358
  have N359 := Fr.app N351 N355
  obtain ⟨Lo360, X361, N362⟩ : ∃ Lo_, Stand p l e room_1 s m #[(.long lo), (.long hi), (.int f), (.int t)] below meth c Tc353 Lo_ 1 16 ∧ Fr n0 Lo_ := ⟨_, X354, N359⟩
  refine own_step (T' := Tc353) (g' := (mkF m 308 #[.val (.long lo), .second, .val (.long hi), .second, .val (.int f), .val (.int t), .val (.ref a9), .val (.int (Int32.ofNat F)), .val (.int (Int32.ofNat N)), .unset] [(.int z357), (.int sm352)])) stc353 ?_
  refine own_step (T' := Tc353) (g' := (mkF m 309 #[.val (.long lo), .second, .val (.long hi), .second, .val (.int f), .val (.int t), .val (.ref a9), .val (.int (Int32.ofNat F)), .val (.int (Int32.ofNat N)), .unset] [(.int (sm352 + z357))])) (fun t_ k_ => XS.iadd X361.here hx rfl (hb hby at_308) rfl k_) ?_
  obtain ⟨sm363, hsm363⟩ : ∃ z : Int32, z = (sm352 + z357) := ⟨_, rfl⟩
  rw [← hsm363]
  refine own_step (T' := Tc353) (g' := (mkF m 311 #[.val (.long lo), .second, .val (.long hi), .second, .val (.int f), .val (.int t), .val (.ref a9), .val (.int (Int32.ofNat F)), .val (.int (Int32.ofNat N)), .unset] [(.ref a9), (.int sm363)])) (fun t_ k_ => XS.aload X361.here hx rfl (hb hby at_309) rfl rfl k_) ?_
  refine own_step (T' := Tc353) (g' := (mkF m 313 #[.val (.long lo), .second, .val (.long hi), .second, .val (.int f), .val (.int t), .val (.ref a9), .val (.int (Int32.ofNat F)), .val (.int (Int32.ofNat N)), .unset] [(.int (10 : Int32)), (.ref a9), (.int sm363)])) (fun t_ k_ => XT.bipushV X361.here hx rfl (10 : Int32) (hb hby at_311) (by decide) k_) ?_
  refine own_step (T' := Tc353) (g' := (mkF m 315 #[.val (.long lo), .second, .val (.long hi), .second, .val (.int f), .val (.int t), .val (.ref a9), .val (.int (Int32.ofNat F)), .val (.int (Int32.ofNat N)), .unset] [(.int (Int32.ofNat F)), (.int (10 : Int32)), (.ref a9), (.int sm363)])) (fun t_ k_ => XS.iload X361.here hx rfl (hb hby at_313) rfl k_) ?_
  refine own_step (T' := Tc353) (g' := (mkF m 317 #[.val (.long lo), .second, .val (.long hi), .second, .val (.int f), .val (.int t), .val (.ref a9), .val (.int (Int32.ofNat F)), .val (.int (Int32.ofNat N)), .unset] [(.int (Int32.ofNat N)), (.int (Int32.ofNat F)), (.int (10 : Int32)), (.ref a9), (.int sm363)])) (fun t_ k_ => XS.iload X361.here hx rfl (hb hby at_315) rfl k_) ?_
  obtain ⟨_, _, ⟨Tc364, Lc364, kc364, nc364⟩, -, Xc364, ⟨Lcc364, hQc364, lc364, yc364, zc364⟩, stc364⟩ := Jvm.LawKit.callS X361 hx (y := (⟨"com/example/sedimenta/sedimenta/store/VarIntsCountPinLaw", "one", "([BIII)I"⟩ : MethodName)) hown (mvT hZ (hw _ (List.mem_of_getElem? (i := 2) rfl))) (mvT hZ (hw _ (List.mem_of_getElem? (i := 3) rfl))) (mvT hZ (hw _ (List.mem_of_getElem? (i := 4) rfl))) (mvT hZ (hw _ (List.mem_of_getElem? (i := 5) rfl))) (by decide) (backOf (W := 1) (rm_one l Z a0 hw [] a9 bs (10 : Int32) (Int32.ofNat F) (Int32.ofNat N) 10 h243 n0 F249 V254 rfl (by rw [hl]; decide) hl) hZ (hw _ (List.mem_of_getElem? (i := 5) rfl)) (hw _ (List.mem_of_getElem? (i := 4) rfl)) (by decide) (by decide)) (g := (mkF m 317 #[.val (.long lo), .second, .val (.long hi), .second, .val (.int f), .val (.int t), .val (.ref a9), .val (.int (Int32.ofNat F)), .val (.int (Int32.ofNat N)), .unset] [(.int (Int32.ofNat N)), (.int (Int32.ofNat F)), (.int (10 : Int32)), (.ref a9), (.int sm363)])) rfl (by rw [hml]; rfl) (argsL := [(.ref a9), (.int (10 : Int32)), (.int (Int32.ofNat F)), (.int (Int32.ofNat N))]) (rest := [(.int sm363)]) (lenOf pd_0 rfl) rfl (by show 2 * 0 + _ ≤ _; exact Nat.le_of_eq rfl) (hb hby at_317) (fun _ _ => ⟨rfl, e356, (by decide : 1 + 0 ≤ _), (by decide : 16 + 0 ≤ _)⟩)
  dsimp only [Pt.U, Pt.locs, Pt.cells, Pt.slots] at Xc364 lc364 yc364 zc364 stc364 hQc364
  subst lc364 yc364 zc364
  have X365 := Xc364.more (cells' := 1) (slots' := 16) (by decide) (by decide)
  obtain ⟨hv369, N366, e367⟩ := hQc364
  obtain ⟨z368, hz368⟩ : ∃ z : Int32, z = (own_one bs (10 : Int32) 10 (Int32.ofNat F) (Int32.ofNat N)) := ⟨_, rfl⟩
  rw [← hz368] at hv369
  subst hv369
  have N370 := Fr.app N362 N366
  obtain ⟨Lo371, X372, N373⟩ : ∃ Lo_, Stand p l e room_1 s m #[(.long lo), (.long hi), (.int f), (.int t)] below meth c Tc364 Lo_ 1 16 ∧ Fr n0 Lo_ := ⟨_, X365, N370⟩
  refine own_step (T' := Tc364) (g' := (mkF m 320 #[.val (.long lo), .second, .val (.long hi), .second, .val (.int f), .val (.int t), .val (.ref a9), .val (.int (Int32.ofNat F)), .val (.int (Int32.ofNat N)), .unset] [(.int z368), (.int sm363)])) stc364 ?_
  refine own_step (T' := Tc364) (g' := (mkF m 321 #[.val (.long lo), .second, .val (.long hi), .second, .val (.int f), .val (.int t), .val (.ref a9), .val (.int (Int32.ofNat F)), .val (.int (Int32.ofNat N)), .unset] [(.int (sm363 + z368))])) (fun t_ k_ => XS.iadd X372.here hx rfl (hb hby at_320) rfl k_) ?_
  obtain ⟨sm374, hsm374⟩ : ∃ z : Int32, z = (sm363 + z368) := ⟨_, rfl⟩
  rw [← hsm374]
  refine own_step (T' := Tc364) (g' := (mkF m 323 #[.val (.long lo), .second, .val (.long hi), .second, .val (.int f), .val (.int t), .val (.ref a9), .val (.int (Int32.ofNat F)), .val (.int (Int32.ofNat N)), .unset] [(.ref a9), (.int sm374)])) (fun t_ k_ => XS.aload X372.here hx rfl (hb hby at_321) rfl rfl k_) ?_
  refine own_step (T' := Tc364) (g' := (mkF m 325 #[.val (.long lo), .second, .val (.long hi), .second, .val (.int f), .val (.int t), .val (.ref a9), .val (.int (Int32.ofNat F)), .val (.int (Int32.ofNat N)), .unset] [(.int (11 : Int32)), (.ref a9), (.int sm374)])) (fun t_ k_ => XT.bipushV X372.here hx rfl (11 : Int32) (hb hby at_323) (by decide) k_) ?_
  refine own_step (T' := Tc364) (g' := (mkF m 327 #[.val (.long lo), .second, .val (.long hi), .second, .val (.int f), .val (.int t), .val (.ref a9), .val (.int (Int32.ofNat F)), .val (.int (Int32.ofNat N)), .unset] [(.int (Int32.ofNat F)), (.int (11 : Int32)), (.ref a9), (.int sm374)])) (fun t_ k_ => XS.iload X372.here hx rfl (hb hby at_325) rfl k_) ?_
  refine own_step (T' := Tc364) (g' := (mkF m 329 #[.val (.long lo), .second, .val (.long hi), .second, .val (.int f), .val (.int t), .val (.ref a9), .val (.int (Int32.ofNat F)), .val (.int (Int32.ofNat N)), .unset] [(.int (Int32.ofNat N)), (.int (Int32.ofNat F)), (.int (11 : Int32)), (.ref a9), (.int sm374)])) (fun t_ k_ => XS.iload X372.here hx rfl (hb hby at_327) rfl k_) ?_
  obtain ⟨_, _, ⟨Tc375, Lc375, kc375, nc375⟩, -, Xc375, ⟨Lcc375, hQc375, lc375, yc375, zc375⟩, stc375⟩ := Jvm.LawKit.callS X372 hx (y := (⟨"com/example/sedimenta/sedimenta/store/VarIntsCountPinLaw", "one", "([BIII)I"⟩ : MethodName)) hown (mvT hZ (hw _ (List.mem_of_getElem? (i := 2) rfl))) (mvT hZ (hw _ (List.mem_of_getElem? (i := 3) rfl))) (mvT hZ (hw _ (List.mem_of_getElem? (i := 4) rfl))) (mvT hZ (hw _ (List.mem_of_getElem? (i := 5) rfl))) (by decide) (backOf (W := 1) (rm_one l Z a0 hw [] a9 bs (11 : Int32) (Int32.ofNat F) (Int32.ofNat N) 11 h243 n0 F249 V254 rfl (by rw [hl]; decide) hl) hZ (hw _ (List.mem_of_getElem? (i := 5) rfl)) (hw _ (List.mem_of_getElem? (i := 4) rfl)) (by decide) (by decide)) (g := (mkF m 329 #[.val (.long lo), .second, .val (.long hi), .second, .val (.int f), .val (.int t), .val (.ref a9), .val (.int (Int32.ofNat F)), .val (.int (Int32.ofNat N)), .unset] [(.int (Int32.ofNat N)), (.int (Int32.ofNat F)), (.int (11 : Int32)), (.ref a9), (.int sm374)])) rfl (by rw [hml]; rfl) (argsL := [(.ref a9), (.int (11 : Int32)), (.int (Int32.ofNat F)), (.int (Int32.ofNat N))]) (rest := [(.int sm374)]) (lenOf pd_0 rfl) rfl (by show 2 * 0 + _ ≤ _; exact Nat.le_of_eq rfl) (hb hby at_329) (fun _ _ => ⟨rfl, e367, (by decide : 1 + 0 ≤ _), (by decide : 16 + 0 ≤ _)⟩)
  dsimp only [Pt.U, Pt.locs, Pt.cells, Pt.slots] at Xc375 lc375 yc375 zc375 stc375 hQc375
  subst lc375 yc375 zc375
  have X376 := Xc375.more (cells' := 1) (slots' := 16) (by decide) (by decide)
  obtain ⟨hv380, N377, e378⟩ := hQc375
  obtain ⟨z379, hz379⟩ : ∃ z : Int32, z = (own_one bs (11 : Int32) 11 (Int32.ofNat F) (Int32.ofNat N)) := ⟨_, rfl⟩
  rw [← hz379] at hv380
  subst hv380
  have N381 := Fr.app N373 N377
  obtain ⟨Lo382, X383, N384⟩ : ∃ Lo_, Stand p l e room_1 s m #[(.long lo), (.long hi), (.int f), (.int t)] below meth c Tc375 Lo_ 1 16 ∧ Fr n0 Lo_ := ⟨_, X376, N381⟩
  refine own_step (T' := Tc375) (g' := (mkF m 332 #[.val (.long lo), .second, .val (.long hi), .second, .val (.int f), .val (.int t), .val (.ref a9), .val (.int (Int32.ofNat F)), .val (.int (Int32.ofNat N)), .unset] [(.int z379), (.int sm374)])) stc375 ?_
  refine own_step (T' := Tc375) (g' := (mkF m 333 #[.val (.long lo), .second, .val (.long hi), .second, .val (.int f), .val (.int t), .val (.ref a9), .val (.int (Int32.ofNat F)), .val (.int (Int32.ofNat N)), .unset] [(.int (sm374 + z379))])) (fun t_ k_ => XS.iadd X383.here hx rfl (hb hby at_332) rfl k_) ?_
  obtain ⟨sm385, hsm385⟩ : ∃ z : Int32, z = (sm374 + z379) := ⟨_, rfl⟩
  rw [← hsm385]
  refine own_step (T' := Tc375) (g' := (mkF m 335 #[.val (.long lo), .second, .val (.long hi), .second, .val (.int f), .val (.int t), .val (.ref a9), .val (.int (Int32.ofNat F)), .val (.int (Int32.ofNat N)), .unset] [(.ref a9), (.int sm385)])) (fun t_ k_ => XS.aload X383.here hx rfl (hb hby at_333) rfl rfl k_) ?_
  refine own_step (T' := Tc375) (g' := (mkF m 337 #[.val (.long lo), .second, .val (.long hi), .second, .val (.int f), .val (.int t), .val (.ref a9), .val (.int (Int32.ofNat F)), .val (.int (Int32.ofNat N)), .unset] [(.int (12 : Int32)), (.ref a9), (.int sm385)])) (fun t_ k_ => XT.bipushV X383.here hx rfl (12 : Int32) (hb hby at_335) (by decide) k_) ?_
  refine own_step (T' := Tc375) (g' := (mkF m 339 #[.val (.long lo), .second, .val (.long hi), .second, .val (.int f), .val (.int t), .val (.ref a9), .val (.int (Int32.ofNat F)), .val (.int (Int32.ofNat N)), .unset] [(.int (Int32.ofNat F)), (.int (12 : Int32)), (.ref a9), (.int sm385)])) (fun t_ k_ => XS.iload X383.here hx rfl (hb hby at_337) rfl k_) ?_
  refine own_step (T' := Tc375) (g' := (mkF m 341 #[.val (.long lo), .second, .val (.long hi), .second, .val (.int f), .val (.int t), .val (.ref a9), .val (.int (Int32.ofNat F)), .val (.int (Int32.ofNat N)), .unset] [(.int (Int32.ofNat N)), (.int (Int32.ofNat F)), (.int (12 : Int32)), (.ref a9), (.int sm385)])) (fun t_ k_ => XS.iload X383.here hx rfl (hb hby at_339) rfl k_) ?_
  obtain ⟨_, _, ⟨Tc386, Lc386, kc386, nc386⟩, -, Xc386, ⟨Lcc386, hQc386, lc386, yc386, zc386⟩, stc386⟩ := Jvm.LawKit.callS X383 hx (y := (⟨"com/example/sedimenta/sedimenta/store/VarIntsCountPinLaw", "one", "([BIII)I"⟩ : MethodName)) hown (mvT hZ (hw _ (List.mem_of_getElem? (i := 2) rfl))) (mvT hZ (hw _ (List.mem_of_getElem? (i := 3) rfl))) (mvT hZ (hw _ (List.mem_of_getElem? (i := 4) rfl))) (mvT hZ (hw _ (List.mem_of_getElem? (i := 5) rfl))) (by decide) (backOf (W := 1) (rm_one l Z a0 hw [] a9 bs (12 : Int32) (Int32.ofNat F) (Int32.ofNat N) 12 h243 n0 F249 V254 rfl (by rw [hl]; decide) hl) hZ (hw _ (List.mem_of_getElem? (i := 5) rfl)) (hw _ (List.mem_of_getElem? (i := 4) rfl)) (by decide) (by decide)) (g := (mkF m 341 #[.val (.long lo), .second, .val (.long hi), .second, .val (.int f), .val (.int t), .val (.ref a9), .val (.int (Int32.ofNat F)), .val (.int (Int32.ofNat N)), .unset] [(.int (Int32.ofNat N)), (.int (Int32.ofNat F)), (.int (12 : Int32)), (.ref a9), (.int sm385)])) rfl (by rw [hml]; rfl) (argsL := [(.ref a9), (.int (12 : Int32)), (.int (Int32.ofNat F)), (.int (Int32.ofNat N))]) (rest := [(.int sm385)]) (lenOf pd_0 rfl) rfl (by show 2 * 0 + _ ≤ _; exact Nat.le_of_eq rfl) (hb hby at_341) (fun _ _ => ⟨rfl, e378, (by decide : 1 + 0 ≤ _), (by decide : 16 + 0 ≤ _)⟩)
  dsimp only [Pt.U, Pt.locs, Pt.cells, Pt.slots] at Xc386 lc386 yc386 zc386 stc386 hQc386
  subst lc386 yc386 zc386
  have X387 := Xc386.more (cells' := 1) (slots' := 16) (by decide) (by decide)
  obtain ⟨hv391, N388, e389⟩ := hQc386
  obtain ⟨z390, hz390⟩ : ∃ z : Int32, z = (own_one bs (12 : Int32) 12 (Int32.ofNat F) (Int32.ofNat N)) := ⟨_, rfl⟩
  rw [← hz390] at hv391
  subst hv391
  have N392 := Fr.app N384 N388
  obtain ⟨Lo393, X394, N395⟩ : ∃ Lo_, Stand p l e room_1 s m #[(.long lo), (.long hi), (.int f), (.int t)] below meth c Tc386 Lo_ 1 16 ∧ Fr n0 Lo_ := ⟨_, X387, N392⟩
  refine own_step (T' := Tc386) (g' := (mkF m 344 #[.val (.long lo), .second, .val (.long hi), .second, .val (.int f), .val (.int t), .val (.ref a9), .val (.int (Int32.ofNat F)), .val (.int (Int32.ofNat N)), .unset] [(.int z390), (.int sm385)])) stc386 ?_
  refine own_step (T' := Tc386) (g' := (mkF m 345 #[.val (.long lo), .second, .val (.long hi), .second, .val (.int f), .val (.int t), .val (.ref a9), .val (.int (Int32.ofNat F)), .val (.int (Int32.ofNat N)), .unset] [(.int (sm385 + z390))])) (fun t_ k_ => XS.iadd X394.here hx rfl (hb hby at_344) rfl k_) ?_
  obtain ⟨sm396, hsm396⟩ : ∃ z : Int32, z = (sm385 + z390) := ⟨_, rfl⟩
  rw [← hsm396]
  refine own_step (T' := Tc386) (g' := (mkF m 347 #[.val (.long lo), .second, .val (.long hi), .second, .val (.int f), .val (.int t), .val (.ref a9), .val (.int (Int32.ofNat F)), .val (.int (Int32.ofNat N)), .unset] [(.ref a9), (.int sm396)])) (fun t_ k_ => XS.aload X394.here hx rfl (hb hby at_345) rfl rfl k_) ?_
  refine own_step (T' := Tc386) (g' := (mkF m 349 #[.val (.long lo), .second, .val (.long hi), .second, .val (.int f), .val (.int t), .val (.ref a9), .val (.int (Int32.ofNat F)), .val (.int (Int32.ofNat N)), .unset] [(.int (13 : Int32)), (.ref a9), (.int sm396)])) (fun t_ k_ => XT.bipushV X394.here hx rfl (13 : Int32) (hb hby at_347) (by decide) k_) ?_
  refine own_step (T' := Tc386) (g' := (mkF m 351 #[.val (.long lo), .second, .val (.long hi), .second, .val (.int f), .val (.int t), .val (.ref a9), .val (.int (Int32.ofNat F)), .val (.int (Int32.ofNat N)), .unset] [(.int (Int32.ofNat F)), (.int (13 : Int32)), (.ref a9), (.int sm396)])) (fun t_ k_ => XS.iload X394.here hx rfl (hb hby at_349) rfl k_) ?_
  refine own_step (T' := Tc386) (g' := (mkF m 353 #[.val (.long lo), .second, .val (.long hi), .second, .val (.int f), .val (.int t), .val (.ref a9), .val (.int (Int32.ofNat F)), .val (.int (Int32.ofNat N)), .unset] [(.int (Int32.ofNat N)), (.int (Int32.ofNat F)), (.int (13 : Int32)), (.ref a9), (.int sm396)])) (fun t_ k_ => XS.iload X394.here hx rfl (hb hby at_351) rfl k_) ?_
  obtain ⟨_, _, ⟨Tc397, Lc397, kc397, nc397⟩, -, Xc397, ⟨Lcc397, hQc397, lc397, yc397, zc397⟩, stc397⟩ := Jvm.LawKit.callS X394 hx (y := (⟨"com/example/sedimenta/sedimenta/store/VarIntsCountPinLaw", "one", "([BIII)I"⟩ : MethodName)) hown (mvT hZ (hw _ (List.mem_of_getElem? (i := 2) rfl))) (mvT hZ (hw _ (List.mem_of_getElem? (i := 3) rfl))) (mvT hZ (hw _ (List.mem_of_getElem? (i := 4) rfl))) (mvT hZ (hw _ (List.mem_of_getElem? (i := 5) rfl))) (by decide) (backOf (W := 1) (rm_one l Z a0 hw [] a9 bs (13 : Int32) (Int32.ofNat F) (Int32.ofNat N) 13 h243 n0 F249 V254 rfl (by rw [hl]; decide) hl) hZ (hw _ (List.mem_of_getElem? (i := 5) rfl)) (hw _ (List.mem_of_getElem? (i := 4) rfl)) (by decide) (by decide)) (g := (mkF m 353 #[.val (.long lo), .second, .val (.long hi), .second, .val (.int f), .val (.int t), .val (.ref a9), .val (.int (Int32.ofNat F)), .val (.int (Int32.ofNat N)), .unset] [(.int (Int32.ofNat N)), (.int (Int32.ofNat F)), (.int (13 : Int32)), (.ref a9), (.int sm396)])) rfl (by rw [hml]; rfl) (argsL := [(.ref a9), (.int (13 : Int32)), (.int (Int32.ofNat F)), (.int (Int32.ofNat N))]) (rest := [(.int sm396)]) (lenOf pd_0 rfl) rfl (by show 2 * 0 + _ ≤ _; exact Nat.le_of_eq rfl) (hb hby at_353) (fun _ _ => ⟨rfl, e389, (by decide : 1 + 0 ≤ _), (by decide : 16 + 0 ≤ _)⟩)
  dsimp only [Pt.U, Pt.locs, Pt.cells, Pt.slots] at Xc397 lc397 yc397 zc397 stc397 hQc397
  subst lc397 yc397 zc397
  have X398 := Xc397.more (cells' := 1) (slots' := 16) (by decide) (by decide)
  obtain ⟨hv402, N399, e400⟩ := hQc397
  obtain ⟨z401, hz401⟩ : ∃ z : Int32, z = (own_one bs (13 : Int32) 13 (Int32.ofNat F) (Int32.ofNat N)) := ⟨_, rfl⟩
  rw [← hz401] at hv402
  subst hv402
  have N403 := Fr.app N395 N399
  obtain ⟨Lo404, X405, N406⟩ : ∃ Lo_, Stand p l e room_1 s m #[(.long lo), (.long hi), (.int f), (.int t)] below meth c Tc397 Lo_ 1 16 ∧ Fr n0 Lo_ := ⟨_, X398, N403⟩
  refine own_step (T' := Tc397) (g' := (mkF m 356 #[.val (.long lo), .second, .val (.long hi), .second, .val (.int f), .val (.int t), .val (.ref a9), .val (.int (Int32.ofNat F)), .val (.int (Int32.ofNat N)), .unset] [(.int z401), (.int sm396)])) stc397 ?_
  refine own_step (T' := Tc397) (g' := (mkF m 357 #[.val (.long lo), .second, .val (.long hi), .second, .val (.int f), .val (.int t), .val (.ref a9), .val (.int (Int32.ofNat F)), .val (.int (Int32.ofNat N)), .unset] [(.int (sm396 + z401))])) (fun t_ k_ => XS.iadd X405.here hx rfl (hb hby at_356) rfl k_) ?_
  obtain ⟨sm407, hsm407⟩ : ∃ z : Int32, z = (sm396 + z401) := ⟨_, rfl⟩
  rw [← hsm407]
  refine own_step (T' := Tc397) (g' := (mkF m 359 #[.val (.long lo), .second, .val (.long hi), .second, .val (.int f), .val (.int t), .val (.ref a9), .val (.int (Int32.ofNat F)), .val (.int (Int32.ofNat N)), .unset] [(.ref a9), (.int sm407)])) (fun t_ k_ => XS.aload X405.here hx rfl (hb hby at_357) rfl rfl k_) ?_
  refine own_step (T' := Tc397) (g' := (mkF m 361 #[.val (.long lo), .second, .val (.long hi), .second, .val (.int f), .val (.int t), .val (.ref a9), .val (.int (Int32.ofNat F)), .val (.int (Int32.ofNat N)), .unset] [(.int (14 : Int32)), (.ref a9), (.int sm407)])) (fun t_ k_ => XT.bipushV X405.here hx rfl (14 : Int32) (hb hby at_359) (by decide) k_) ?_
  refine own_step (T' := Tc397) (g' := (mkF m 363 #[.val (.long lo), .second, .val (.long hi), .second, .val (.int f), .val (.int t), .val (.ref a9), .val (.int (Int32.ofNat F)), .val (.int (Int32.ofNat N)), .unset] [(.int (Int32.ofNat F)), (.int (14 : Int32)), (.ref a9), (.int sm407)])) (fun t_ k_ => XS.iload X405.here hx rfl (hb hby at_361) rfl k_) ?_
  refine own_step (T' := Tc397) (g' := (mkF m 365 #[.val (.long lo), .second, .val (.long hi), .second, .val (.int f), .val (.int t), .val (.ref a9), .val (.int (Int32.ofNat F)), .val (.int (Int32.ofNat N)), .unset] [(.int (Int32.ofNat N)), (.int (Int32.ofNat F)), (.int (14 : Int32)), (.ref a9), (.int sm407)])) (fun t_ k_ => XS.iload X405.here hx rfl (hb hby at_363) rfl k_) ?_
  obtain ⟨_, _, ⟨Tc408, Lc408, kc408, nc408⟩, -, Xc408, ⟨Lcc408, hQc408, lc408, yc408, zc408⟩, stc408⟩ := Jvm.LawKit.callS X405 hx (y := (⟨"com/example/sedimenta/sedimenta/store/VarIntsCountPinLaw", "one", "([BIII)I"⟩ : MethodName)) hown (mvT hZ (hw _ (List.mem_of_getElem? (i := 2) rfl))) (mvT hZ (hw _ (List.mem_of_getElem? (i := 3) rfl))) (mvT hZ (hw _ (List.mem_of_getElem? (i := 4) rfl))) (mvT hZ (hw _ (List.mem_of_getElem? (i := 5) rfl))) (by decide) (backOf (W := 1) (rm_one l Z a0 hw [] a9 bs (14 : Int32) (Int32.ofNat F) (Int32.ofNat N) 14 h243 n0 F249 V254 rfl (by rw [hl]; decide) hl) hZ (hw _ (List.mem_of_getElem? (i := 5) rfl)) (hw _ (List.mem_of_getElem? (i := 4) rfl)) (by decide) (by decide)) (g := (mkF m 365 #[.val (.long lo), .second, .val (.long hi), .second, .val (.int f), .val (.int t), .val (.ref a9), .val (.int (Int32.ofNat F)), .val (.int (Int32.ofNat N)), .unset] [(.int (Int32.ofNat N)), (.int (Int32.ofNat F)), (.int (14 : Int32)), (.ref a9), (.int sm407)])) rfl (by rw [hml]; rfl) (argsL := [(.ref a9), (.int (14 : Int32)), (.int (Int32.ofNat F)), (.int (Int32.ofNat N))]) (rest := [(.int sm407)]) (lenOf pd_0 rfl) rfl (by show 2 * 0 + _ ≤ _; exact Nat.le_of_eq rfl) (hb hby at_365) (fun _ _ => ⟨rfl, e400, (by decide : 1 + 0 ≤ _), (by decide : 16 + 0 ≤ _)⟩)
  dsimp only [Pt.U, Pt.locs, Pt.cells, Pt.slots] at Xc408 lc408 yc408 zc408 stc408 hQc408
  subst lc408 yc408 zc408
  have X409 := Xc408.more (cells' := 1) (slots' := 16) (by decide) (by decide)
  obtain ⟨hv413, N410, e411⟩ := hQc408
  obtain ⟨z412, hz412⟩ : ∃ z : Int32, z = (own_one bs (14 : Int32) 14 (Int32.ofNat F) (Int32.ofNat N)) := ⟨_, rfl⟩
  rw [← hz412] at hv413
  subst hv413
  have N414 := Fr.app N406 N410
  obtain ⟨Lo415, X416, N417⟩ : ∃ Lo_, Stand p l e room_1 s m #[(.long lo), (.long hi), (.int f), (.int t)] below meth c Tc408 Lo_ 1 16 ∧ Fr n0 Lo_ := ⟨_, X409, N414⟩
  refine own_step (T' := Tc408) (g' := (mkF m 368 #[.val (.long lo), .second, .val (.long hi), .second, .val (.int f), .val (.int t), .val (.ref a9), .val (.int (Int32.ofNat F)), .val (.int (Int32.ofNat N)), .unset] [(.int z412), (.int sm407)])) stc408 ?_
  refine own_step (T' := Tc408) (g' := (mkF m 369 #[.val (.long lo), .second, .val (.long hi), .second, .val (.int f), .val (.int t), .val (.ref a9), .val (.int (Int32.ofNat F)), .val (.int (Int32.ofNat N)), .unset] [(.int (sm407 + z412))])) (fun t_ k_ => XS.iadd X416.here hx rfl (hb hby at_368) rfl k_) ?_
  obtain ⟨sm418, hsm418⟩ : ∃ z : Int32, z = (sm407 + z412) := ⟨_, rfl⟩
  rw [← hsm418]
  refine own_step (T' := Tc408) (g' := (mkF m 371 #[.val (.long lo), .second, .val (.long hi), .second, .val (.int f), .val (.int t), .val (.ref a9), .val (.int (Int32.ofNat F)), .val (.int (Int32.ofNat N)), .unset] [(.ref a9), (.int sm418)])) (fun t_ k_ => XS.aload X416.here hx rfl (hb hby at_369) rfl rfl k_) ?_
  refine own_step (T' := Tc408) (g' := (mkF m 373 #[.val (.long lo), .second, .val (.long hi), .second, .val (.int f), .val (.int t), .val (.ref a9), .val (.int (Int32.ofNat F)), .val (.int (Int32.ofNat N)), .unset] [(.int (15 : Int32)), (.ref a9), (.int sm418)])) (fun t_ k_ => XT.bipushV X416.here hx rfl (15 : Int32) (hb hby at_371) (by decide) k_) ?_
  refine own_step (T' := Tc408) (g' := (mkF m 375 #[.val (.long lo), .second, .val (.long hi), .second, .val (.int f), .val (.int t), .val (.ref a9), .val (.int (Int32.ofNat F)), .val (.int (Int32.ofNat N)), .unset] [(.int (Int32.ofNat F)), (.int (15 : Int32)), (.ref a9), (.int sm418)])) (fun t_ k_ => XS.iload X416.here hx rfl (hb hby at_373) rfl k_) ?_
  refine own_step (T' := Tc408) (g' := (mkF m 377 #[.val (.long lo), .second, .val (.long hi), .second, .val (.int f), .val (.int t), .val (.ref a9), .val (.int (Int32.ofNat F)), .val (.int (Int32.ofNat N)), .unset] [(.int (Int32.ofNat N)), (.int (Int32.ofNat F)), (.int (15 : Int32)), (.ref a9), (.int sm418)])) (fun t_ k_ => XS.iload X416.here hx rfl (hb hby at_375) rfl k_) ?_
  obtain ⟨_, _, ⟨Tc419, Lc419, kc419, nc419⟩, -, Xc419, ⟨Lcc419, hQc419, lc419, yc419, zc419⟩, stc419⟩ := Jvm.LawKit.callS X416 hx (y := (⟨"com/example/sedimenta/sedimenta/store/VarIntsCountPinLaw", "one", "([BIII)I"⟩ : MethodName)) hown (mvT hZ (hw _ (List.mem_of_getElem? (i := 2) rfl))) (mvT hZ (hw _ (List.mem_of_getElem? (i := 3) rfl))) (mvT hZ (hw _ (List.mem_of_getElem? (i := 4) rfl))) (mvT hZ (hw _ (List.mem_of_getElem? (i := 5) rfl))) (by decide) (backOf (W := 1) (rm_one l Z a0 hw [] a9 bs (15 : Int32) (Int32.ofNat F) (Int32.ofNat N) 15 h243 n0 F249 V254 rfl (by rw [hl]; decide) hl) hZ (hw _ (List.mem_of_getElem? (i := 5) rfl)) (hw _ (List.mem_of_getElem? (i := 4) rfl)) (by decide) (by decide)) (g := (mkF m 377 #[.val (.long lo), .second, .val (.long hi), .second, .val (.int f), .val (.int t), .val (.ref a9), .val (.int (Int32.ofNat F)), .val (.int (Int32.ofNat N)), .unset] [(.int (Int32.ofNat N)), (.int (Int32.ofNat F)), (.int (15 : Int32)), (.ref a9), (.int sm418)])) rfl (by rw [hml]; rfl) (argsL := [(.ref a9), (.int (15 : Int32)), (.int (Int32.ofNat F)), (.int (Int32.ofNat N))]) (rest := [(.int sm418)]) (lenOf pd_0 rfl) rfl (by show 2 * 0 + _ ≤ _; exact Nat.le_of_eq rfl) (hb hby at_377) (fun _ _ => ⟨rfl, e411, (by decide : 1 + 0 ≤ _), (by decide : 16 + 0 ≤ _)⟩)
  dsimp only [Pt.U, Pt.locs, Pt.cells, Pt.slots] at Xc419 lc419 yc419 zc419 stc419 hQc419
  subst lc419 yc419 zc419
  have X420 := Xc419.more (cells' := 1) (slots' := 16) (by decide) (by decide)
  obtain ⟨hv424, N421, e422⟩ := hQc419
  obtain ⟨z423, hz423⟩ : ∃ z : Int32, z = (own_one bs (15 : Int32) 15 (Int32.ofNat F) (Int32.ofNat N)) := ⟨_, rfl⟩
  rw [← hz423] at hv424
  subst hv424
  have N425 := Fr.app N417 N421
  obtain ⟨Lo426, X427, N428⟩ : ∃ Lo_, Stand p l e room_1 s m #[(.long lo), (.long hi), (.int f), (.int t)] below meth c Tc419 Lo_ 1 16 ∧ Fr n0 Lo_ := ⟨_, X420, N425⟩
  refine own_step (T' := Tc419) (g' := (mkF m 380 #[.val (.long lo), .second, .val (.long hi), .second, .val (.int f), .val (.int t), .val (.ref a9), .val (.int (Int32.ofNat F)), .val (.int (Int32.ofNat N)), .unset] [(.int z423), (.int sm418)])) stc419 ?_
  refine own_step (T' := Tc419) (g' := (mkF m 381 #[.val (.long lo), .second, .val (.long hi), .second, .val (.int f), .val (.int t), .val (.ref a9), .val (.int (Int32.ofNat F)), .val (.int (Int32.ofNat N)), .unset] [(.int (sm418 + z423))])) (fun t_ k_ => XS.iadd X427.here hx rfl (hb hby at_380) rfl k_) ?_
  obtain ⟨sm429, hsm429⟩ : ∃ z : Int32, z = (sm418 + z423) := ⟨_, rfl⟩
  rw [← hsm429]
  refine own_step (T' := Tc419) (g' := (mkF m 383 #[.val (.long lo), .second, .val (.long hi), .second, .val (.int f), .val (.int t), .val (.ref a9), .val (.int (Int32.ofNat F)), .val (.int (Int32.ofNat N)), .val (.int sm429)] [])) (fun t_ k_ => XS.istore X427.here hx rfl (hb hby at_381) rfl (l' := #[.val (.long lo), .second, .val (.long hi), .second, .val (.int f), .val (.int t), .val (.ref a9), .val (.int (Int32.ofNat F)), .val (.int (Int32.ofNat N)), .val (.int sm429)]) rfl k_) ?_
  refine own_step (T' := Tc419) (g' := (mkF m 385 #[.val (.long lo), .second, .val (.long hi), .second, .val (.int f), .val (.int t), .val (.ref a9), .val (.int (Int32.ofNat F)), .val (.int (Int32.ofNat N)), .val (.int sm429)] [(.ref a9)])) (fun t_ k_ => XS.aload X427.here hx rfl (hb hby at_383) rfl rfl k_) ?_
  refine own_step (T' := Tc419) (g' := (mkF m 387 #[.val (.long lo), .second, .val (.long hi), .second, .val (.int f), .val (.int t), .val (.ref a9), .val (.int (Int32.ofNat F)), .val (.int (Int32.ofNat N)), .val (.int sm429)] [(.int (Int32.ofNat F)), (.ref a9)])) (fun t_ k_ => XS.iload X427.here hx rfl (hb hby at_385) rfl k_) ?_
  refine own_step (T' := Tc419) (g' := (mkF m 389 #[.val (.long lo), .second, .val (.long hi), .second, .val (.int f), .val (.int t), .val (.ref a9), .val (.int (Int32.ofNat F)), .val (.int (Int32.ofNat N)), .val (.int sm429)] [(.int (Int32.ofNat N)), (.int (Int32.ofNat F)), (.ref a9)])) (fun t_ k_ => XS.iload X427.here hx rfl (hb hby at_387) rfl k_) ?_
  obtain ⟨_, _, ⟨Tc430, Lc430, kc430, nc430⟩, -, Xc430, ⟨Lcc430, hQc430, lc430, yc430, zc430⟩, stc430⟩ := Jvm.LawKit.callS X427 hx (y := (⟨"com/example/sedimenta/sedimenta/store/VarInts", "count", "([BII)I"⟩ : MethodName)) hown (mvT hZ (hw _ (List.mem_of_getElem? (i := 6) rfl))) (mvT hZ (hw _ (List.mem_of_getElem? (i := 7) rfl))) (mvT hZ (hw _ (List.mem_of_getElem? (i := 8) rfl))) (mvT hZ (hw _ (List.mem_of_getElem? (i := 9) rfl))) (by decide) (backOf (W := 0) (rm_count l Z a0 hw [] a9 bs F N h243 n0 F249 V254 hl hF hFN hN) hZ (hw _ (List.mem_of_getElem? (i := 9) rfl)) (hw _ (List.mem_of_getElem? (i := 8) rfl)) (by decide) (by decide)) (g := (mkF m 389 #[.val (.long lo), .second, .val (.long hi), .second, .val (.int f), .val (.int t), .val (.ref a9), .val (.int (Int32.ofNat F)), .val (.int (Int32.ofNat N)), .val (.int sm429)] [(.int (Int32.ofNat N)), (.int (Int32.ofNat F)), (.ref a9)])) rfl (by rw [hml]; rfl) (argsL := [(.ref a9), (.int (Int32.ofNat F)), (.int (Int32.ofNat N))]) (rest := []) (lenOf pd_1 rfl) rfl (by show 2 * 0 + _ ≤ _; exact Nat.le_of_eq rfl) (hb hby at_389) (fun _ _ => ⟨rfl, e422, (by decide : 1 + 0 ≤ _), (by decide : 16 + 0 ≤ _)⟩)
  dsimp only [Pt.U, Pt.locs, Pt.cells, Pt.slots] at Xc430 lc430 yc430 zc430 stc430 hQc430
  subst lc430 yc430 zc430
  have X431 := Xc430.more (cells' := 1) (slots' := 16) (by decide) (by decide)
  obtain ⟨rfl, N432, e433⟩ := hQc430
  have N434 := Fr.app N428 N432
  obtain ⟨Lo435, X436, N437⟩ : ∃ Lo_, Stand p l e room_1 s m #[(.long lo), (.long hi), (.int f), (.int t)] below meth c Tc430 Lo_ 1 16 ∧ Fr n0 Lo_ := ⟨_, X431, N434⟩
  refine own_step (T' := Tc430) (g' := (mkF m 392 #[.val (.long lo), .second, .val (.long hi), .second, .val (.int f), .val (.int t), .val (.ref a9), .val (.int (Int32.ofNat F)), .val (.int (Int32.ofNat N)), .val (.int sm429)] [(.int (own_cnt (fun j => own_bit (bs.getD j 0)) F (N - F)))])) stc430 ?_
  refine own_step (T' := Tc430) (g' := (mkF m 394 #[.val (.long lo), .second, .val (.long hi), .second, .val (.int f), .val (.int t), .val (.ref a9), .val (.int (Int32.ofNat F)), .val (.int (Int32.ofNat N)), .val (.int sm429)] [(.int sm429), (.int (own_cnt (fun j => own_bit (bs.getD j 0)) F (N - F)))])) (fun t_ k_ => XS.iload X436.here hx rfl (hb hby at_392) rfl k_) ?_
  have hk438 : (own_cnt (fun j => own_bit (bs.getD j 0)) F (N - F)) = sm429 := (own_law hl hbt hF hFN hN).trans (by rw [hsm429, hsm418, hsm407, hsm396, hsm385, hsm374, hsm363, hsm352, hsm341, hsm330, hsm319, hsm308, hsm297, hsm286, hsm275, hz259, hz269, hz280, hz291, hz302, hz313, hz324, hz335, hz346, hz357, hz368, hz379, hz390, hz401, hz412, hz423])
  refine own_step (T' := Tc430) (g' := (mkF m 397 #[.val (.long lo), .second, .val (.long hi), .second, .val (.int f), .val (.int t), .val (.ref a9), .val (.int (Int32.ofNat F)), .val (.int (Int32.ofNat N)), .val (.int sm429)] [])) (fun t_ k_ => XS.icmpNo X436.here hx rfl (hb hby at_394) rfl (XT.ii_ne_f hk438) k_) ?_
  refine own_step (T' := Tc430) (g' := (mkF m 398 #[.val (.long lo), .second, .val (.long hi), .second, .val (.int f), .val (.int t), .val (.ref a9), .val (.int (Int32.ofNat F)), .val (.int (Int32.ofNat N)), .val (.int sm429)] [(.int (1 : Int32))])) (fun t_ k_ => XT.iconstV X436.here hx rfl (1 : Int32) (hb hby at_397) (by decide) k_) ?_
  refine own_step (T' := Tc430) (g' := (mkF m 402 #[.val (.long lo), .second, .val (.long hi), .second, .val (.int f), .val (.int t), .val (.ref a9), .val (.int (Int32.ofNat F)), .val (.int (Int32.ofNat N)), .val (.int sm429)] [(.int (1 : Int32))])) (fun t_ k_ => XS.goto X436.here hx rfl (pc0 := 398) (pc' := 402) rfl (hb hby at_398) (by decide) (by decide) k_) ?_
  exact own_retN X436 hx hlk (t := .boolean) Bd.returns (by simp) (hb hby at_402) (by rw [e433]; exact ⟨rfl, N437⟩) (by decide) (by decide)
set_option maxRecDepth 65536 in
set_option maxHeartbeats 40000000 in
theorem comes_1 {Post : Tables → Env → Array Value → State → Outcome → State → Prop} (hpost : ∀ tb e args s v u, (limb_1_1.after args s (.returned v) u = true ∧ limb_1_2.after args s (.returned v) u = true ∧ True) → FrameEnd s (.returned v) u (Jvm.fieldLocs frame_1_writes args s ++ Jvm.arrayLocs frame_1_arrays args s ++ Jvm.staticLocs frame_1_statics s) 16 128 → Post tb e args s (.returned v) u) :
    ArmFor flags0 classFile x code maxLocals ret World_1 tables_1 room_1 Calls_1 rest_1 Pre_1 Post := by
  intro l hfl _ _ p e ha hc hk s m args below hf hA hF happ hP
  obtain ⟨hcalls, hrest, hpre⟩ := hP
  obtain ⟨-, -, -, hnamed, -, -, -, hat⟩ := (Spec.applies_iff hf).mp happ
  obtain ⟨hg, hn⟩ := and_e (Cond.before_iff.mp (show (Jvm.Cond.and given_1 narrow_1).before args s = true from hpre))
  obtain ⟨hcount, hg0⟩ := and_e hg
  obtain ⟨ha0, hg1⟩ := and_e hg0
  obtain ⟨ha1, hg2⟩ := and_e hg1
  obtain ⟨ha2, hg3⟩ := and_e hg2
  obtain ⟨w0, w1, w2, w3, rfl⟩ : ∃ w0 w1 w2 w3 : Value, args = #[w0, w1, w2, w3] := by
    have hs : args.size = 4 := by simpa [Cond.value, given_1] using hcount
    obtain ⟨L⟩ := args
    match L, hs with
    | [w0, w1, w2, w3], _ => exact ⟨w0, w1, w2, w3, rfl⟩
  have hw := fun d (hd : d ∈ tables_1) => atoms_spec (ws := Jvm.Cond.code x code maxLocals ret :: tables_1) hat d (List.mem_cons_of_mem _ hd)
  obtain ⟨i0, ei0⟩ := isL_v ha0
  obtain rfl : w0 = (.long i0) := Option.some.inj ei0
  obtain ⟨i1, ei1⟩ := isL_v ha1
  obtain rfl : w1 = (.long i1) := Option.some.inj ei1
  obtain ⟨i2, ei2⟩ := is_v ha2
  obtain rfl : w2 = (.int i2) := Option.some.inj ei2
  obtain ⟨i3, ei3⟩ := is_v hg3
  obtain rfl : w3 = (.int i3) := Option.some.inj ei3
  obtain ⟨n, o, h1, h2, h3, _, L, rfl, ⟨rfl, N⟩, hq⟩ := rm_law l s _ hw tables_1 i0 i1 i2 i3 s.heap s.heap.size (Nat.le_refl _)  p e ha hc hk s m _ below hf ((Spec.applies_iff_loose hf).mp happ).1 ⟨rfl, State.Warmed39.refl s, rfl⟩ trivial
  refine ⟨n, _, h1, h2, h3, hpost _ _ _ _ _ _ ⟨Cond.after_iff.mpr rfl, Cond.after_iff.mpr (eq_i res_at (Term.int_eval (1)) rfl), trivial⟩ ⟨hq.1, hq.2.1, (hq.2.2.sift fun y hy => Or.inr (N y hy)).mono (by decide) (by decide)⟩⟩
theorem main_1_1 : Claimed_1_1 := comes_1 fun _ _ _ _ _ _ h hF => ⟨h.1, hF⟩
theorem main_1_2 : Claimed_1_2 := comes_1 fun _ _ _ _ _ _ h hF => ⟨h.2.1, hF⟩
end Jvm.Pilot.@@N@@
namespace Jvm.Pilot.@@N@@
open Jvm Jvm.ClassFile Sem Op Lib Jvm.Free Jvm.Stand Jvm.Pilot.@@N@@.Jvm.D
/-! MADE BY PROGRAM (witnessworld.py) out of the Statement's table words and the real class files: 9 classes; the members and pool entries that the words name. The judged class is class 1, her method 1. -/
namespace start1
open Jvm.ClassFile
def u (s : String) : CpInfo := .utf8 (stringToUtf16 s)
/-- a pool by its gaps: so many unusable entries, then the entry; so many at the end -/
def gap : Nat → List CpInfo → List CpInfo
  | 0, r => r
  | n + 1, r => .unusable :: gap n r
def poolList (es : List (Nat × CpInfo)) (last : Nat) : List CpInfo := es.foldr (fun e r => gap e.1 (e.2 :: r)) (gap last [])
def pool (es : List (Nat × CpInfo)) (last : Nat) : Array CpInfo := ⟨poolList es last⟩
def fileOf (pool : Array CpInfo) (this : Nat) (attrs : Array Attribute := #[]) (ms : Array MethodInfo := #[]) (fl : Nat := 33) (sup : Nat := 0) (ifs : Array Nat := #[]) (fds : Array FieldInfo := #[]) : ClassFile where
  minorVersion := 0
  majorVersion := 65
  constantPool := pool
  accessFlags := fl
  thisClass := this
  superClass := sup
  interfaces := ifs
  fields := fds
  methods := ms
  attributes := attrs
def plain (name : String) (sup : Option ClassId) : Class where
  name := name
  kind := .ordinary
  loader := none
  accessFlags := 33
  super := sup
  interfaces := #[]
  cf := none
  fields := #[]
  methods := #[]
  instanceTypes := #[]
  staticTypes := #[]
  resolved := #[]
  callSites := []
  init := .initialized
  statics := none
  mirror := none

def pool0 : Array CpInfo := pool [(5, u "<init>"), (0, u "()V"), (1, .class_ 10), (1, u "java/lang/Object")] 113

def k0m0 : Method := { name := "<init>", desc := "()V", sig := { parameters := [], returnType := none }, accessFlags := 1, code := none }
/-- java/lang/Object -/
def k0 : Class := { plain "java/lang/Object" none with
  accessFlags := 33
  interfaces := #[]
  cf := some (fileOf pool0 8 #[] #[{ accessFlags := 1, nameIndex := 5, descriptorIndex := 6, attributes := #[] }] 33 0 #[] #[])
  fields := #[]
  methods := #[k0m0]
  instanceTypes := #[]
  staticTypes := #[]
  resolved := Array.replicate 124 none
  statics := none }

def pool1 : Array CpInfo := pool [(2, .class_ 4), (1, u "java/lang/Object"), (0, u "<init>"), (0, u "()V"), (0, .integer 2147483647), (0, .methodref 9 10), (0, .class_ 11), (0, .nameAndType 12 13), (0, u "com/example/sedimenta/sedimenta/store/VarIntsCountPinLaw"), (0, u "one"), (0, u "([BIII)I"), (0, .methodref 15 16), (0, .class_ 17), (0, .nameAndType 18 19), (0, u "com/example/sedimenta/sedimenta/store/VarInts"), (0, u "count"), (0, u "([BII)I"), (2, u "law"), (0, u "(JJII)Z")] 5

def k1m0 : Method := { name := "<init>", desc := "()V", sig := { parameters := [], returnType := none }, accessFlags := 1, code := none }
def k1c1 : Code := { maxStack := 5, maxLocals := 10, code := code, exceptionTable := #[], attributes := #[] }
def k1m1 : Method := { name := "law", desc := "(JJII)Z", sig := { parameters := [.long, .long, .int, .int], returnType := some .boolean }, accessFlags := 9, code := some k1c1 }
def k1c2 : Code := { maxStack := 2, maxLocals := 4, code := method_3_code, exceptionTable := #[], attributes := #[] }
def k1m2 : Method := { name := "one", desc := "([BIII)I", sig := { parameters := [(.array .byte), .int, .int, .int], returnType := some .int }, accessFlags := 10, code := some k1c2 }
/-- com/example/sedimenta/sedimenta/store/VarIntsCountPinLaw -/
def k1 : Class := { plain "com/example/sedimenta/sedimenta/store/VarIntsCountPinLaw" (some 0) with
  accessFlags := 49
  interfaces := #[]
  cf := some (fileOf pool1 9 #[] #[{ accessFlags := 1, nameIndex := 5, descriptorIndex := 6, attributes := #[] }, { accessFlags := 9, nameIndex := 22, descriptorIndex := 23, attributes := #[] }, { accessFlags := 10, nameIndex := 12, descriptorIndex := 13, attributes := #[] }] 49 2 #[] #[])
  fields := #[]
  methods := #[k1m0, k1m1, k1m2]
  instanceTypes := #[]
  staticTypes := #[]
  resolved := Array.replicate 29 none
  statics := none }

def pool2 : Array CpInfo := pool [(1, .class_ 2), (0, u "com/example/sedimenta/sedimenta/store/VarInts"), (3, .class_ 8), (1, u "java/lang/Object"), (0, u "<init>"), (0, u "()V"), (61, u "MAX_VINT_BYTES"), (0, u "I"), (2, u "MAX_VLONG_BYTES"), (1, u "CUT_SHORT"), (1, u "TOO_LONG"), (1, u "PAST_INT"), (1, u "NOT_ASCENDING"), (1, u "VINT_BITS"), (1, u "INT_LAST_BYTE"), (12, u "([BII)I"), (5, u "count")] 21

def k2m0 : Method := { name := "<init>", desc := "()V", sig := { parameters := [], returnType := none }, accessFlags := 2, code := none }
def k2c1 : Code := { maxStack := 5, maxLocals := 5, code := prog_201_method_13_code, exceptionTable := #[], attributes := #[] }
def k2m1 : Method := { name := "count", desc := "([BII)I", sig := { parameters := [(.array .byte), .int, .int], returnType := some .int }, accessFlags := 9, code := some k2c1 }
/-- com/example/sedimenta/sedimenta/store/VarInts -/
def k2 : Class := { plain "com/example/sedimenta/sedimenta/store/VarInts" (some 0) with
  accessFlags := 49
  interfaces := #[]
  cf := some (fileOf pool2 1 #[] #[{ accessFlags := 2, nameIndex := 9, descriptorIndex := 10, attributes := #[] }, { accessFlags := 9, nameIndex := 107, descriptorIndex := 101, attributes := #[] }] 49 6 #[] #[{ accessFlags := 25, nameIndex := 72, descriptorIndex := 73, attributes := #[] }, { accessFlags := 25, nameIndex := 76, descriptorIndex := 73, attributes := #[] }, { accessFlags := 25, nameIndex := 78, descriptorIndex := 73, attributes := #[] }, { accessFlags := 25, nameIndex := 80, descriptorIndex := 73, attributes := #[] }, { accessFlags := 25, nameIndex := 82, descriptorIndex := 73, attributes := #[] }, { accessFlags := 25, nameIndex := 84, descriptorIndex := 73, attributes := #[] }, { accessFlags := 26, nameIndex := 86, descriptorIndex := 73, attributes := #[] }, { accessFlags := 26, nameIndex := 88, descriptorIndex := 73, attributes := #[] }])
  fields := #[{ name := "MAX_VINT_BYTES", type := .int, accessFlags := 25, slot := 0, constantValue := 0 }, { name := "MAX_VLONG_BYTES", type := .int, accessFlags := 25, slot := 1, constantValue := 0 }, { name := "CUT_SHORT", type := .int, accessFlags := 25, slot := 2, constantValue := 0 }, { name := "TOO_LONG", type := .int, accessFlags := 25, slot := 3, constantValue := 0 }, { name := "PAST_INT", type := .int, accessFlags := 25, slot := 4, constantValue := 0 }, { name := "NOT_ASCENDING", type := .int, accessFlags := 25, slot := 5, constantValue := 0 }, { name := "VINT_BITS", type := .int, accessFlags := 26, slot := 6, constantValue := 0 }, { name := "INT_LAST_BYTE", type := .int, accessFlags := 26, slot := 7, constantValue := 0 }]
  methods := #[k2m0, k2m1]
  instanceTypes := #[]
  staticTypes := #[.int, .int, .int, .int, .int, .int, .int, .int]
  resolved := Array.replicate 129 none
  statics := none }

def pool3 : Array CpInfo := pool [(1, u "java/lang/Cloneable"), (0, .class_ 1), (0, u "java/lang/Object"), (0, .class_ 3)] 3

/-- java/lang/Cloneable -/
def k3 : Class := { plain "java/lang/Cloneable" (some 0) with
  accessFlags := 1537
  interfaces := #[]
  cf := some (fileOf pool3 2 #[] #[] 1537 4 #[] #[])
  fields := #[]
  methods := #[]
  instanceTypes := #[]
  staticTypes := #[]
  resolved := Array.replicate 8 none
  statics := none }

def pool4 : Array CpInfo := pool [(1, u "java/io/Serializable"), (0, .class_ 1), (0, u "java/lang/Object"), (0, .class_ 3)] 3

/-- java/io/Serializable -/
def k4 : Class := { plain "java/io/Serializable" (some 0) with
  accessFlags := 1537
  interfaces := #[]
  cf := some (fileOf pool4 2 #[] #[] 1537 4 #[] #[])
  fields := #[]
  methods := #[]
  instanceTypes := #[]
  staticTypes := #[]
  resolved := Array.replicate 8 none
  statics := none }

/-- the primitive byte -/
def k5 : Class := { plain "byte" none with kind := .primitive 'B', accessFlags := 0x411 }
/-- [B -/
def k6 : Class := { plain "[B" (some 0) with kind := .array 5 .byte, interfaces := #[3, 4], accessFlags := 1041 }

/-- the primitive int -/
def k7 : Class := { plain "int" none with kind := .primitive 'I', accessFlags := 0x411 }
/-- [I -/
def k8 : Class := { plain "[I" (some 0) with kind := .array 7 .int, interfaces := #[3, 4], accessFlags := 1041 }

def heap : Heap := #[]
def classes : Array Class := #[k0, k1, k2, k3, k4, k5, k6, k7, k8]
def interned : List (Array UInt16 × Addr) := []
def slotsUsed : Nat := 0
def theMethod : MethodId := ⟨1, 1⟩
def args0 : Array Value := #[.long 1, .long 2, .int 3, .int 4]
def aboutOver (below : List Frame) : State where
  vm := { classes := classes, interned := interned.toArray }
  heap := heap
  slotsUsed := slotsUsed
  threads := #[{ frames := .invoking theMethod args0 :: below }]
def below0 : List Frame := [.native { method := ⟨0, 0⟩, args := #[] }]
def about1 : State := aboutOver below0
def p0 : Program := .bare "" "" ""
def e0 : Env := launch0.env 0 0 0
theorem w_frames : about1.frames = Frame.invoking theMethod args0 :: below0 := rfl
set_option maxRecDepth 65536 in
theorem w_args : argsFit about1.vm theMethod args0 = true := by decide +kernel
set_option maxRecDepth 65536 in
theorem w_heap : heapFits about1 = true := by decide +kernel
set_option maxRecDepth 65536 in
theorem w_runnable : about1.curStatus? = some .runnable := by decide +kernel
set_option maxRecDepth 65536 in
theorem w_alone : about1.alone = true := by decide +kernel
set_option maxRecDepth 65536 in
theorem w_named : about1.methodNamed? x = some theMethod := by decide +kernel
set_option maxRecDepth 65536 in
theorem w_hears : about1.hears theMethod below0 = true := by decide +kernel
set_option maxRecDepth 65536 in
theorem w_ripe : about1.ripe theMethod args0 below0 = true := by decide +kernel
theorem w_running : about1.status = .running := rfl
set_option maxRecDepth 65536 in
theorem w_room : about1.hasRoom e0.platform room_1 = true :=
  launch0.hasRoom_least _ room_1 (by decide +kernel) (by decide +kernel) (by decide +kernel) (by decide +kernel) (by decide +kernel) (by decide +kernel)
theorem allAtoms_all (ts : List Jvm.Cond) (a : Array Jvm.Value) (st : Jvm.State) : (allAtoms ts).before a st = ts.all (fun c => c.before a st) := by
  induction ts with
  | nil => rfl
  | cons c t ih =>
    show (Jvm.Cond.and c (allAtoms t)).before a st = _
    rw [Jvm.Cond.before_and, ih, List.all_cons]
def words1 : List Jvm.Cond := Jvm.Cond.code x code maxLocals ret :: tables_1
/-- a 'code' word, met by the world's own term for the bytes: nothing is compared byte by byte -/
theorem code_word {y : MethodName} {bytes : ByteArray} {mx : Nat} {rt : Option FieldType} {a : Array Value} {s : State} {m : MethodId} {meth : Method} {c : Code} (h1 : s.methodNamed? y = some m) (h2 : s.vm.method? m = some meth) (h3 : meth.code = some c) (h4 : c.code = bytes)
    (h5 : (c.maxLocals == mx && c.exceptionTable.isEmpty && decide (c.maxStack ≤ mostOperands) && decide (meth.sig.returnType = rt) && !meth.locks && decide (parseMethodDescriptor y.desc = some meth.sig)) = true) : (Jvm.Cond.code y bytes mx rt).before a s = true := by
  simp only [Bool.and_eq_true, beq_iff_eq, Bool.not_eq_true', decide_eq_true_eq] at h5
  obtain ⟨⟨⟨⟨⟨g1, g2⟩, g3⟩, g4⟩, g5⟩, g6⟩ := h5
  simp [Cond.before, Cond.holds, Cond.value, h1, h2, h3, h4, g1, g2, g3, g4, g5, g6]
def isCode : Jvm.Cond → Bool
  | .code _ _ _ _ => true
  | _ => false
theorem all_split {L : List Jvm.Cond} {P : Jvm.Cond → Bool} (h1 : L.all (fun c => isCode c || P c) = true) (h2 : ∀ c ∈ L.filter isCode, P c = true) : L.all P = true := by
  refine List.all_eq_true.mpr fun c hc => ?_
  have h := List.all_eq_true.mp h1 c hc
  rcases Bool.eq_false_or_eq_true (isCode c) with hi | hi
  · exact h2 c (List.mem_filter.mpr ⟨hc, hi⟩)
  · simpa [hi] using h
set_option maxRecDepth 65536 in
theorem w_c0 : (Jvm.Cond.code x code maxLocals ret).before args0 about1 = true := code_word (m := ⟨1, 1⟩) (meth := k1m1) (c := k1c1) (by decide +kernel) rfl rfl rfl (by decide +kernel)
set_option maxRecDepth 65536 in
theorem w_c1 : (Jvm.Cond.code ({ cls := "com/example/sedimenta/sedimenta/store/VarIntsCountPinLaw", name := "one", desc := "([BIII)I" } : Jvm.MethodName) method_3_code (4 : Nat) (Option.some Jvm.ClassFile.FieldType.int)).before args0 about1 = true := code_word (m := ⟨1, 2⟩) (meth := k1m2) (c := k1c2) (by decide +kernel) rfl rfl rfl (by decide +kernel)
set_option maxRecDepth 65536 in
theorem w_c2 : (Jvm.Cond.code ({ cls := "com/example/sedimenta/sedimenta/store/VarInts", name := "count", desc := "([BII)I" } : Jvm.MethodName) prog_201_method_13_code (5 : Nat) (Option.some Jvm.ClassFile.FieldType.int)).before args0 about1 = true := code_word (m := ⟨2, 1⟩) (meth := k2m1) (c := k2c1) (by decide +kernel) rfl rfl rfl (by decide +kernel)
def codes1 : List Jvm.Cond := [Jvm.Cond.code x code maxLocals ret, Jvm.Cond.code ({ cls := "com/example/sedimenta/sedimenta/store/VarIntsCountPinLaw", name := "one", desc := "([BIII)I" } : Jvm.MethodName) method_3_code (4 : Nat) (Option.some Jvm.ClassFile.FieldType.int), Jvm.Cond.code ({ cls := "com/example/sedimenta/sedimenta/store/VarInts", name := "count", desc := "([BII)I" } : Jvm.MethodName) prog_201_method_13_code (5 : Nat) (Option.some Jvm.ClassFile.FieldType.int)]
set_option maxRecDepth 65536 in
theorem codes_eq : words1.filter isCode = codes1 := rfl
theorem w_codes : ∀ c ∈ words1.filter isCode, c.before args0 about1 = true := by
  rw [codes_eq]
  intro c hc
  simp only [codes1, List.mem_cons, List.not_mem_nil, or_false] at hc
  rcases hc with rfl | rfl | rfl
  · exact w_c0
  · exact w_c1
  · exact w_c2
set_option maxRecDepth 65536 in
theorem w_t1 : words1.all (fun c => isCode c || c.before args0 about1) = true := by decide +kernel
theorem w_tables : (allAtoms (Jvm.Cond.code x code maxLocals ret :: tables_1)).before args0 about1 = true := by
  rw [allAtoms_all]
  show words1.all (fun c => c.before args0 about1) = true
  refine all_split ?_ w_codes
  rw [w_t1]
set_option maxRecDepth 65536 in
theorem w_case : (Jvm.Cond.and given_1 narrow_1).before args0 about1 = true := by decide +kernel
theorem w_applies : (headSpec (Jvm.Cond.code x code maxLocals ret :: tables_1) room_1).applies x e0.platform about1 = true :=
  (Spec.applies_iff w_frames).mpr ⟨w_running, w_runnable, w_alone, w_named, w_hears, w_ripe, w_room, w_tables⟩
theorem atStart : AtStart classFile x code maxLocals ret World_1 tables_1 room_1 Calls_1 rest_1 Pre_1 launch0 p0 e0 about1 theMethod args0 below0 :=
  ⟨lists_1, trivial, launch0.admits_env _ _ _, launch0.least_env, fairChoices_fair.cas, fairChoices_fair.clock, w_frames, w_args, w_heap, w_applies, trivial, trivial, w_case⟩
end start1
theorem witness_1 : WitnessClaimed_1 := ⟨start1.p0, start1.e0, start1.about1, start1.theMethod, start1.args0, start1.below0, start1.atStart⟩
end Jvm.Pilot.@@N@@
