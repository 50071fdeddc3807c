import JvmDerived
import JvmDerived.Pilot.@@N@@Statement
import JvmDerived.Pilot.@@N@@Code
set_option linter.unusedVariables false
set_option linter.unusedSimpArgs false
@@BLOCK:NumsL.lean.txt@@
namespace Jvm.Pilot.@@N@@
open Jvm Jvm.ClassFile Sem Op Lib Jvm.Free Jvm.Stand Jvm.LawKit Jvm.RoadKit Bundle Jvm.Pilot.@@N@@.Jvm.D
section OwnKit
variable {p : Program} {l : Launch} {e : Env} {R : Room} {s : State} {m : MethodId} {args : Array Value} {below : List Frame} {meth : Method} {c : Code} {T T' : State} {locs : List Loc} {cells slots : Nat}
/-- from this configuration the body comes to its end, and then Q holds -/
def own_Fin (p : Program) (e : Env) (below : List Frame) (s : State) (Q : Option Value → Heap → List Loc → Prop) (kc ks : Nat) (T : State) (g : JFrame) : Prop :=
  ∃ s₂ o, Steps p.tables e below (T.setTop g) s₂ ∧ s₂.status = .running ∧ Ended s₂ below o ∧ ∃ v L, o = .returned v ∧ Q v s₂.heap L ∧ FrameEnd s o s₂ L kc ks
variable {Q : Option Value → Heap → List Loc → Prop} {kc ks : Nat} {g g' : JFrame}
theorem own_step (st : ∀ t, Steps p.tables e below (T'.setTop g') t → Steps p.tables e below (T.setTop g) t) (k : own_Fin p e below s Q kc ks T' g') : own_Fin p e below s Q kc ks T g := by
  obtain ⟨s₂, o, h1, r⟩ := k
  exact ⟨s₂, o, st _ h1, r⟩
theorem own_in {as : Array Value} {n : Nat} (ef : entryFrame m as n = g) (k : own_Fin p e below s Q kc ks T g) :
    ∃ s₂ o, Steps p.tables e below (T.setTop (entryFrame m as n)) s₂ ∧ s₂.status = .running ∧ Ended s₂ below o ∧ ∃ v L, o = .returned v ∧ Q v s₂.heap L ∧ FrameEnd s o s₂ L kc ks := by
  obtain ⟨s₂, o, h1, r⟩ := k
  exact ⟨s₂, o, castTop ef h1, r⟩
theorem own_retV (X : Stand p l e R s m args below meth c T locs cells slots) (hx : p.tables.exec = Jvm.exec) (hlk : meth.locks = false) {pc : Nat} {Ls : Array Slot} {w : Value} {t : FieldType} {i : Instr} {rest : List Value} (hret : meth.sig.returnType = some t) (hn : narrow t w = w)
    (hi : (i = .ireturn ∧ (t = .int ∨ t = .boolean ∨ t = .byte ∨ t = .char ∨ t = .short) ∧ ∃ z, w = .int z) ∨ (i = .lreturn ∧ t = .long ∧ ∃ z, w = .long z) ∨ (i = .dreturn ∧ t = .double ∧ ∃ z, w = .double z) ∨ (i = .freturn ∧ t = .float ∧ ∃ z, w = .float z) ∨ (i = .areturn ∧ t.isReference = true ∧ w.isRef = true))
    (hd : decode c.code pc = .ok (i, 1)) (hq : Q (some w) T.heap locs) (h1 : cells ≤ kc) (h2 : slots ≤ ks) : own_Fin p e below s Q kc ks T (mkF m pc Ls (w :: rest)) := by
  obtain ⟨fs, hr, hrun, hended, hW, hsame⟩ := X.leave (v := some w) (fun h => by rw [hret] at h; cases h) hlk
  exact ⟨_, _, retOut X hx hret hn hi hd hr, hrun, hended, _, _, rfl, hq, ⟨_, rfl⟩, hW, hsame.mono h1 h2⟩
theorem own_retI (X : Stand p l e R s m args below meth c T locs cells slots) (hx : p.tables.exec = Jvm.exec) (hlk : meth.locks = false) {pc : Nat} {Ls : Array Slot} {z : Int32} {rest : List Value} (hret : meth.sig.returnType = some .int)
    (hd : decode c.code pc = .ok (.ireturn, 1)) (hq : Q (some (.int z)) T.heap locs) (h1 : cells ≤ kc) (h2 : slots ≤ ks) : own_Fin p e below s Q kc ks T (mkF m pc Ls (.int z :: rest)) :=
  own_retV X hx hlk hret rfl (Or.inl ⟨rfl, Or.inl rfl, z, rfl⟩) hd hq h1 h2
theorem own_retJ (X : Stand p l e R s m args below meth c T locs cells slots) (hx : p.tables.exec = Jvm.exec) (hlk : meth.locks = false) {pc : Nat} {Ls : Array Slot} {z : Int64} {rest : List Value} (hret : meth.sig.returnType = some .long)
    (hd : decode c.code pc = .ok (.lreturn, 1)) (hq : Q (some (.long z)) T.heap locs) (h1 : cells ≤ kc) (h2 : slots ≤ ks) : own_Fin p e below s Q kc ks T (mkF m pc Ls (.long z :: rest)) :=
  own_retV X hx hlk hret rfl (Or.inr (Or.inl ⟨rfl, rfl, z, rfl⟩)) hd hq h1 h2
theorem own_retA (X : Stand p l e R s m args below meth c T locs cells slots) (hx : p.tables.exec = Jvm.exec) (hlk : meth.locks = false) {pc : Nat} {Ls : Array Slot} {w : Value} {t : FieldType} {rest : List Value} (hret : meth.sig.returnType = some t) (ht : t.isReference = true) (hw : w.isRef = true)
    (hd : decode c.code pc = .ok (.areturn, 1)) (hq : Q (some w) T.heap locs) (h1 : cells ≤ kc) (h2 : slots ≤ ks) : own_Fin p e below s Q kc ks T (mkF m pc Ls (w :: rest)) :=
  own_retV X hx hlk hret (by cases t <;> first | (cases ht; done) | rfl) (Or.inr (Or.inr (Or.inr (Or.inr ⟨rfl, ht, hw⟩)))) hd hq h1 h2
theorem own_retN (X : Stand p l e R s m args below meth c T locs cells slots) (hx : p.tables.exec = Jvm.exec) (hlk : meth.locks = false) {pc : Nat} {Ls : Array Slot} {z : Int32} {t : FieldType} {rest : List Value} (hret : meth.sig.returnType = some t) (ht : t = .boolean ∨ t = .byte ∨ t = .char ∨ t = .short)
    (hd : decode c.code pc = .ok (.ireturn, 1)) (hq : Q (some (.int (nar t z))) T.heap locs) (h1 : cells ≤ kc) (h2 : slots ≤ ks) : own_Fin p e below s Q kc ks T (mkF m pc Ls (.int z :: rest)) := by
  obtain ⟨fs, hr, hrun, hended, hW, hsame⟩ := X.leave (v := some (.int (nar t z))) (fun h => by rw [hret] at h; cases h) hlk
  exact ⟨_, _, retN X hx hret ht hd hr, hrun, hended, _, _, rfl, hq, ⟨_, rfl⟩, hW, hsame.mono h1 h2⟩
theorem own_ret (X : Stand p l e R s m args below meth c T locs cells slots) (hx : p.tables.exec = Jvm.exec) (hlk : meth.locks = false) {pc : Nat} {Ls : Array Slot} (hret : meth.sig.returnType = none)
    (hd : decode c.code pc = .ok (.return_, 1)) (hq : Q none T.heap locs) (h1 : cells ≤ kc) (h2 : slots ≤ ks) : own_Fin p e below s Q kc ks T (mkF m pc Ls []) := by
  obtain ⟨fs, hr, hrun, hended, hW, hsame⟩ := X.leave (v := none) (fun _ => rfl) hlk
  exact ⟨_, _, X.returnOut hx hret hd hr, hrun, hended, _, _, rfl, hq, ⟨_, rfl⟩, hW, hsame.mono h1 h2⟩
end OwnKit
theorem own_nar_ite {P : Prop} [Decidable P] {a b : Int32} (ha : nar .boolean a = a) (hb : nar .boolean b = b) : nar .boolean (if P then a else b) = (if P then a else b) := by
  by_cases h : P
  · rw [if_pos h]; exact ha
  · rw [if_neg h]; exact hb
theorem own_nar_bool (P : Prop) [Decidable P] : nar .boolean (if P then (1 : Int32) else 0) = (if P then (1 : Int32) else 0) := own_nar_ite (by decide) (by decide)

def own_pick (i : Int32) (r0 r1 r2 r3 r4 r5 r6 r7 : Addr) : Addr := if i = 0 then r0 else if i = (1 : Int32) then r1 else if i = (2 : Int32) then r2 else if i = (3 : Int32) then r3 else if i = (4 : Int32) then r4 else if i = (5 : Int32) then r5 else if i = (6 : Int32) then r6 else r7
theorem own_pick_all {P : Addr → Prop} (i : Int32) {r0 r1 r2 r3 r4 r5 r6 r7 : Addr} (h0 : P r0) (h1 : P r1) (h2 : P r2) (h3 : P r3) (h4 : P r4) (h5 : P r5) (h6 : P r6) (h7 : P r7) : P (own_pick i r0 r1 r2 r3 r4 r5 r6 r7) := by
  unfold own_pick
  repeat (first | assumption | split)
theorem own_fin {k : Int32} {b r0 r1 r2 r3 r4 r5 r6 r7 : Addr} (o : Addr → Option Value) (h0 : o r0 = some (.int 0)) (h1 : o r1 = some (.int 1)) (h2 : o r2 = some (.int 2)) (h3 : o r3 = some (.int 3)) (h4 : o r4 = some (.int 4)) (h5 : o r5 = some (.int 5)) (h6 : o r6 = some (.int 6)) (h7 : o r7 = some (.int 7))
    (hb : b = own_pick (k &&& (7 : Int32)) r0 r1 r2 r3 r4 r5 r6 r7) : (if b = r6 ∨ b = r7 then (1 : Int32) else (0 : Int32)) = (if (k &&& (7 : Int32)) < (6 : Int32) then (0 : Int32) else (1 : Int32)) := by
  have e : (k &&& (7 : Int32)).toInt = k.toInt % 2 ^ 3 := Jvm.Kit.i32_mask k 7 (k := 3) (by decide) (by decide)
  generalize k &&& (7 : Int32) = i at *
  have cs : i = 0 ∨ i = 1 ∨ i = 2 ∨ i = 3 ∨ i = 4 ∨ i = 5 ∨ i = 6 ∨ i = 7 := by
    have : i.toInt = (0 : Int32).toInt ∨ i.toInt = (1 : Int32).toInt ∨ i.toInt = (2 : Int32).toInt ∨ i.toInt = (3 : Int32).toInt ∨ i.toInt = (4 : Int32).toInt ∨ i.toInt = (5 : Int32).toInt ∨ i.toInt = (6 : Int32).toInt ∨ i.toInt = (7 : Int32).toInt := by
      show i.toInt = 0 ∨ i.toInt = 1 ∨ i.toInt = 2 ∨ i.toInt = 3 ∨ i.toInt = 4 ∨ i.toInt = 5 ∨ i.toInt = 6 ∨ i.toInt = 7
      omega
    simpa only [Int32.toInt_inj] using this
  have ne : ∀ {x y : Addr} {m n : Int32}, o x = some (.int m) → o y = some (.int n) → m ≠ n → x ≠ y := by
    intro x y m n hx hy hn q
    subst q
    rw [hx] at hy
    exact hn (Value.int.inj (Option.some.inj hy))
  have no : ∀ {x : Addr} {m : Int32}, o x = some (.int m) → m ≠ 6 → m ≠ 7 → ¬ (x = r6 ∨ x = r7) := fun hx n6 n7 q => q.elim (ne hx h6 n6) (ne hx h7 n7)
  rcases cs with rfl | rfl | rfl | rfl | rfl | rfl | rfl | rfl
  · have q : b = r0 := hb
    rw [q, if_neg (no h0 (by decide) (by decide)), if_pos (by decide)]
  · have q : b = r1 := hb
    rw [q, if_neg (no h1 (by decide) (by decide)), if_pos (by decide)]
  · have q : b = r2 := hb
    rw [q, if_neg (no h2 (by decide) (by decide)), if_pos (by decide)]
  · have q : b = r3 := hb
    rw [q, if_neg (no h3 (by decide) (by decide)), if_pos (by decide)]
  · have q : b = r4 := hb
    rw [q, if_neg (no h4 (by decide) (by decide)), if_pos (by decide)]
  · have q : b = r5 := hb
    rw [q, if_neg (no h5 (by decide) (by decide)), if_pos (by decide)]
  · have q : b = r6 := hb
    rw [if_pos (Or.inl q), if_neg (by decide)]
  · have q : b = r7 := hb
    rw [if_pos (Or.inr q), if_neg (by decide)]
theorem own_ord {t : Term} {C n d : String} {k : Int32} {args : Array Value} {s : State} {r : Addr} (h : (Jvm.Cond.eq (.field t C n d) (.int k)).value args s none s [] = some true) (ev : t.eval args s none [] s = some (.ref r)) : s.fieldOf? r C n d = some (.int k) := by
  obtain ⟨x, y, hx, hy, k1, k2⟩ := cmp_v (Or.inl h)
  have hy' : y = .int k := (Option.some.inj (hy.symm.trans (Term.int_eval k)))
  subst hy'
  obtain ⟨z, rfl⟩ := k2
  have q : z = k := gotT (Cond.eq_ints hx (Term.int_eval k)) h
  rw [← fld_at ev, hx, q]
theorem pd_0 : parseMethodDescriptor "(I)Lcom/example/dossier_into_mets/dossierintomets/Policy$Action;" = some ⟨[.int], some (.object "com/example/dossier_into_mets/dossierintomets/Policy$Action")⟩ := by decide +kernel
theorem pd_1 : parseMethodDescriptor "()Z" = some ⟨[], some .boolean⟩ := by decide +kernel
theorem d0_0 : decode method_2_code 0 = .ok (.iload_n 0, 1) := by decide +kernel
theorem d0_1 : decode method_2_code 1 = .ok (.ifCond .ne 7, 3) := by decide +kernel
theorem d0_4 : decode method_2_code 4 = .ok (.getstatic 7, 3) := by decide +kernel
theorem d0_7 : decode method_2_code 7 = .ok (.areturn, 1) := by decide +kernel
theorem d0_8 : decode method_2_code 8 = .ok (.iload_n 0, 1) := by decide +kernel
theorem d0_9 : decode method_2_code 9 = .ok (.iconst 1, 1) := by decide +kernel
theorem d0_10 : decode method_2_code 10 = .ok (.if_icmp .ne 7, 3) := by decide +kernel
theorem d0_13 : decode method_2_code 13 = .ok (.getstatic 13, 3) := by decide +kernel
theorem d0_16 : decode method_2_code 16 = .ok (.areturn, 1) := by decide +kernel
theorem d0_17 : decode method_2_code 17 = .ok (.iload_n 0, 1) := by decide +kernel
theorem d0_18 : decode method_2_code 18 = .ok (.iconst 2, 1) := by decide +kernel
theorem d0_19 : decode method_2_code 19 = .ok (.if_icmp .ne 7, 3) := by decide +kernel
theorem d0_22 : decode method_2_code 22 = .ok (.getstatic 16, 3) := by decide +kernel
theorem d0_25 : decode method_2_code 25 = .ok (.areturn, 1) := by decide +kernel
theorem d0_26 : decode method_2_code 26 = .ok (.iload_n 0, 1) := by decide +kernel
theorem d0_27 : decode method_2_code 27 = .ok (.iconst 3, 1) := by decide +kernel
theorem d0_28 : decode method_2_code 28 = .ok (.if_icmp .ne 7, 3) := by decide +kernel
theorem d0_31 : decode method_2_code 31 = .ok (.getstatic 19, 3) := by decide +kernel
theorem d0_34 : decode method_2_code 34 = .ok (.areturn, 1) := by decide +kernel
theorem d0_35 : decode method_2_code 35 = .ok (.iload_n 0, 1) := by decide +kernel
theorem d0_36 : decode method_2_code 36 = .ok (.iconst 4, 1) := by decide +kernel
theorem d0_37 : decode method_2_code 37 = .ok (.if_icmp .ne 7, 3) := by decide +kernel
theorem d0_40 : decode method_2_code 40 = .ok (.getstatic 22, 3) := by decide +kernel
theorem d0_43 : decode method_2_code 43 = .ok (.areturn, 1) := by decide +kernel
theorem d0_44 : decode method_2_code 44 = .ok (.iload_n 0, 1) := by decide +kernel
theorem d0_45 : decode method_2_code 45 = .ok (.iconst 5, 1) := by decide +kernel
theorem d0_46 : decode method_2_code 46 = .ok (.if_icmp .ne 7, 3) := by decide +kernel
theorem d0_49 : decode method_2_code 49 = .ok (.getstatic 25, 3) := by decide +kernel
theorem d0_52 : decode method_2_code 52 = .ok (.areturn, 1) := by decide +kernel
theorem d0_53 : decode method_2_code 53 = .ok (.iload_n 0, 1) := by decide +kernel
theorem d0_54 : decode method_2_code 54 = .ok (.bipush 6, 2) := by decide +kernel
theorem d0_56 : decode method_2_code 56 = .ok (.if_icmp .ne 7, 3) := by decide +kernel
theorem d0_59 : decode method_2_code 59 = .ok (.getstatic 28, 3) := by decide +kernel
theorem d0_62 : decode method_2_code 62 = .ok (.areturn, 1) := by decide +kernel
theorem d0_63 : decode method_2_code 63 = .ok (.getstatic 31, 3) := by decide +kernel
theorem d0_66 : decode method_2_code 66 = .ok (.areturn, 1) := by decide +kernel
theorem pn_0 : plainFor (⟨"com/example/dossier_into_mets/dossierintomets/ActionIsDefaultReadPinLaw", "pick", "(I)Lcom/example/dossier_into_mets/dossierintomets/Policy$Action;"⟩ : MethodName) = true := by first | exact plainFor_of_name (by first | (simp [plainName, overriddenIn]; done) | decide +kernel) | decide +kernel
theorem ef_0 (m : MethodId) (x0 : Int32) : entryFrame m #[(.int x0)] 1 = mkF m 0 #[.val (.int x0)] [] := by first | (simp [entryFrame, mkF, argsToLocals, Value.category]; done) | rfl
def Q_0 (i : Int32) (r0 r1 r2 r3 r4 r5 r6 r7 : Addr) (h0 : Heap) (n0 : Nat) (v : Option Value) (h : Heap) (L : List Loc) : Prop := v = some (.ref (own_pick i r0 r1 r2 r3 r4 r5 r6 r7)) ∧ Fr n0 L ∧ h = h0
set_option maxRecDepth 65536 in
set_option maxHeartbeats 40000000 in
theorem rm_pick (l : Launch) (Z : State) (a0 : Array Value) (hw : ∀ d ∈ tables_1, d.before a0 Z = true) (ws : List Jvm.Cond) (i : Int32) (r0 r1 r2 r3 r4 r5 r6 r7 : Addr) (h0 : Heap) (n0 : Nat) (Z0 : n0 ≤ h0.size) (S0 : Sta Z h0 "com/example/dossier_into_mets/dossierintomets/Policy$Action" "READ" "Lcom/example/dossier_into_mets/dossierintomets/Policy$Action;" (.ref r0)) (S1 : Sta Z h0 "com/example/dossier_into_mets/dossierintomets/Policy$Action" "WRITE" "Lcom/example/dossier_into_mets/dossierintomets/Policy$Action;" (.ref r1)) (S2 : Sta Z h0 "com/example/dossier_into_mets/dossierintomets/Policy$Action" "ADD" "Lcom/example/dossier_into_mets/dossierintomets/Policy$Action;" (.ref r2)) (S3 : Sta Z h0 "com/example/dossier_into_mets/dossierintomets/Policy$Action" "DELETE" "Lcom/example/dossier_into_mets/dossierintomets/Policy$Action;" (.ref r3)) (S4 : Sta Z h0 "com/example/dossier_into_mets/dossierintomets/Policy$Action" "REMOVE" "Lcom/example/dossier_into_mets/dossierintomets/Policy$Action;" (.ref r4)) (S5 : Sta Z h0 "com/example/dossier_into_mets/dossierintomets/Policy$Action" "ADMIN" "Lcom/example/dossier_into_mets/dossierintomets/Policy$Action;" (.ref r5)) (S6 : Sta Z h0 "com/example/dossier_into_mets/dossierintomets/Policy$Action" "DEFAULT_ITEM_READ" "Lcom/example/dossier_into_mets/dossierintomets/Policy$Action;" (.ref r6)) (S7 : Sta Z h0 "com/example/dossier_into_mets/dossierintomets/Policy$Action" "DEFAULT_BITSTREAM_READ" "Lcom/example/dossier_into_mets/dossierintomets/Policy$Action;" (.ref r7)) :
    MetFree l (⟨"com/example/dossier_into_mets/dossierintomets/ActionIsDefaultReadPinLaw", "pick", "(I)Lcom/example/dossier_into_mets/dossierintomets/Policy$Action;"⟩ : MethodName) (head1 (Jvm.Cond.code (⟨"com/example/dossier_into_mets/dossierintomets/ActionIsDefaultReadPinLaw", "pick", "(I)Lcom/example/dossier_into_mets/dossierintomets/Policy$Action;"⟩ : MethodName) method_2_code 1 (some (.object "com/example/dossier_into_mets/dossierintomets/Policy$Action")) :: ws) ({ frames := 0, cells := 0, slots := 0, locals := 0 } : Room)) (fun as_ U => as_ = #[(.int i)] ∧ Z.Warmed39 U.vm ∧ U.heap = h0) (fun _ _ _ _ _ => True) (fun _ U o U' => ∃ v L, o = .returned v ∧ Q_0 i r0 r1 r2 r3 r4 r5 r6 r7 h0 n0 v U'.heap L ∧ FrameEnd U o U' L ({ frames := 0, cells := 0, slots := 0, locals := 0 } : Room).cells ({ frames := 0, cells := 0, slots := 0, locals := 0 } : Room).slots) := by
  refine MetFree.of_bodySF pn_0 hisR ?_
  intro p e s m args below meth c s₁ Bd hml0 hP hK
  obtain ⟨rfl, hZ, hh⟩ := hP
  have hx := Bd.exec
  have hby := Bd.bytes
  have hlk := BodyLoose.notSynchronized Bd
  have hml : c.maxLocals = 1 := hml0
  have hown : s.vm.findClass "com/example/dossier_into_mets/dossierintomets/ActionIsDefaultReadPinLaw" = some m.cls := findClass_of_methodNamed Bd.named
  have hnm := (name_of_methodNamed Bd.named Bd.method).1
  have X0 : Stand p l e ({ frames := 0, cells := 0, slots := 0, locals := 0 } : Room) s m #[(.int i)] below meth c s₁ [] 0 0 := Stand.of_body Bd
  have e0 : s₁.heap = h0 := by rw [← hh, Bd.state]; rfl
  have N0 := Fr.nil n0
  refine own_in (ef_0 m i) ?_
  show own_Fin p e below s (Q_0 i r0 r1 r2 r3 r4 r5 r6 r7 h0 n0) 0 0 s₁ (mkF m 0 #[.val (.int i)] [])
  refine own_step (T' := s₁) (g' := (mkF m 1 #[.val (.int i)] [(.int i)])) (fun t_ k_ => XS.iloadN X0.here hx rfl (hb hby d0_0) rfl k_) ?_
  by_cases hb1 : i = 0
  · refine own_step (T' := s₁) (g' := (mkF m 4 #[.val (.int i)] [])) (fun t_ k_ => XS.ifNo X0.here hx rfl (hb hby d0_1) rfl (XT.i0_ne_f hb1) k_) ?_
    obtain ⟨T2, X3, e4, st5⟩ := getS2 (host := "") X0 hx hZ hown (Or.inl (hw _ (List.mem_of_getElem? (i := 4) rfl))) Via.refl e0 S0 (g := (mkF m 4 #[.val (.int i)] [])) rfl (hb hby d0_4)
    refine own_step (T' := T2) (g' := (mkF m 7 #[.val (.int i)] [(.ref r0)])) st5 ?_
    exact own_retA X3 hx hlk Bd.returns rfl rfl (hb hby d0_7) (by rw [e4]; exact ⟨by unfold own_pick; rw [if_pos hb1], N0, rfl⟩) (by decide) (by decide)
  · refine own_step (T' := s₁) (g' := (mkF m 8 #[.val (.int i)] [])) (fun t_ k_ => XS.ifYes X0.here hx rfl (pc0 := 1) (pc' := 8) rfl (hb hby d0_1) rfl (XT.i0_ne_t hb1) (by decide) (by decide) k_) ?_
    refine own_step (T' := s₁) (g' := (mkF m 9 #[.val (.int i)] [(.int i)])) (fun t_ k_ => XS.iloadN X0.here hx rfl (hb hby d0_8) rfl k_) ?_
    refine own_step (T' := s₁) (g' := (mkF m 10 #[.val (.int i)] [(.int (1 : Int32)), (.int i)])) (fun t_ k_ => XT.iconstV X0.here hx rfl (1 : Int32) (hb hby d0_9) (by decide) k_) ?_
    by_cases hb6 : i = (1 : Int32)
    · refine own_step (T' := s₁) (g' := (mkF m 13 #[.val (.int i)] [])) (fun t_ k_ => XS.icmpNo X0.here hx rfl (hb hby d0_10) rfl (XT.ii_ne_f hb6) k_) ?_
      obtain ⟨T7, X8, e9, st10⟩ := getS2 (host := "") X0 hx hZ hown (Or.inl (hw _ (List.mem_of_getElem? (i := 22) rfl))) Via.refl e0 S1 (g := (mkF m 13 #[.val (.int i)] [])) rfl (hb hby d0_13)
      refine own_step (T' := T7) (g' := (mkF m 16 #[.val (.int i)] [(.ref r1)])) st10 ?_
      exact own_retA X8 hx hlk Bd.returns rfl rfl (hb hby d0_16) (by rw [e9]; exact ⟨by unfold own_pick; rw [if_neg hb1, if_pos hb6], N0, rfl⟩) (by decide) (by decide)
    · refine own_step (T' := s₁) (g' := (mkF m 17 #[.val (.int i)] [])) (fun t_ k_ => XS.icmpYes X0.here hx rfl (pc0 := 10) (pc' := 17) rfl (hb hby d0_10) rfl (XT.ii_ne_t hb6) (by decide) (by decide) k_) ?_
      refine own_step (T' := s₁) (g' := (mkF m 18 #[.val (.int i)] [(.int i)])) (fun t_ k_ => XS.iloadN X0.here hx rfl (hb hby d0_17) rfl k_) ?_
      refine own_step (T' := s₁) (g' := (mkF m 19 #[.val (.int i)] [(.int (2 : Int32)), (.int i)])) (fun t_ k_ => XT.iconstV X0.here hx rfl (2 : Int32) (hb hby d0_18) (by decide) k_) ?_
      by_cases hb11 : i = (2 : Int32)
      · refine own_step (T' := s₁) (g' := (mkF m 22 #[.val (.int i)] [])) (fun t_ k_ => XS.icmpNo X0.here hx rfl (hb hby d0_19) rfl (XT.ii_ne_f hb11) k_) ?_
        obtain ⟨T12, X13, e14, st15⟩ := getS2 (host := "") X0 hx hZ hown (Or.inl (hw _ (List.mem_of_getElem? (i := 20) rfl))) Via.refl e0 S2 (g := (mkF m 22 #[.val (.int i)] [])) rfl (hb hby d0_22)
        refine own_step (T' := T12) (g' := (mkF m 25 #[.val (.int i)] [(.ref r2)])) st15 ?_
        exact own_retA X13 hx hlk Bd.returns rfl rfl (hb hby d0_25) (by rw [e14]; exact ⟨by unfold own_pick; rw [if_neg hb1, if_neg hb6, if_pos hb11], N0, rfl⟩) (by decide) (by decide)
      · refine own_step (T' := s₁) (g' := (mkF m 26 #[.val (.int i)] [])) (fun t_ k_ => XS.icmpYes X0.here hx rfl (pc0 := 19) (pc' := 26) rfl (hb hby d0_19) rfl (XT.ii_ne_t hb11) (by decide) (by decide) k_) ?_
        refine own_step (T' := s₁) (g' := (mkF m 27 #[.val (.int i)] [(.int i)])) (fun t_ k_ => XS.iloadN X0.here hx rfl (hb hby d0_26) rfl k_) ?_
        refine own_step (T' := s₁) (g' := (mkF m 28 #[.val (.int i)] [(.int (3 : Int32)), (.int i)])) (fun t_ k_ => XT.iconstV X0.here hx rfl (3 : Int32) (hb hby d0_27) (by decide) k_) ?_
        by_cases hb16 : i = (3 : Int32)
        · refine own_step (T' := s₁) (g' := (mkF m 31 #[.val (.int i)] [])) (fun t_ k_ => XS.icmpNo X0.here hx rfl (hb hby d0_28) rfl (XT.ii_ne_f hb16) k_) ?_
          obtain ⟨T17, X18, e19, st20⟩ := getS2 (host := "") X0 hx hZ hown (Or.inl (hw _ (List.mem_of_getElem? (i := 16) rfl))) Via.refl e0 S3 (g := (mkF m 31 #[.val (.int i)] [])) rfl (hb hby d0_31)
          refine own_step (T' := T17) (g' := (mkF m 34 #[.val (.int i)] [(.ref r3)])) st20 ?_
          exact own_retA X18 hx hlk Bd.returns rfl rfl (hb hby d0_34) (by rw [e19]; exact ⟨by unfold own_pick; rw [if_neg hb1, if_neg hb6, if_neg hb11, if_pos hb16], N0, rfl⟩) (by decide) (by decide)
        · refine own_step (T' := s₁) (g' := (mkF m 35 #[.val (.int i)] [])) (fun t_ k_ => XS.icmpYes X0.here hx rfl (pc0 := 28) (pc' := 35) rfl (hb hby d0_28) rfl (XT.ii_ne_t hb16) (by decide) (by decide) k_) ?_
          refine own_step (T' := s₁) (g' := (mkF m 36 #[.val (.int i)] [(.int i)])) (fun t_ k_ => XS.iloadN X0.here hx rfl (hb hby d0_35) rfl k_) ?_
          refine own_step (T' := s₁) (g' := (mkF m 37 #[.val (.int i)] [(.int (4 : Int32)), (.int i)])) (fun t_ k_ => XT.iconstV X0.here hx rfl (4 : Int32) (hb hby d0_36) (by decide) k_) ?_
          by_cases hb21 : i = (4 : Int32)
          · refine own_step (T' := s₁) (g' := (mkF m 40 #[.val (.int i)] [])) (fun t_ k_ => XS.icmpNo X0.here hx rfl (hb hby d0_37) rfl (XT.ii_ne_f hb21) k_) ?_
            obtain ⟨T22, X23, e24, st25⟩ := getS2 (host := "") X0 hx hZ hown (Or.inl (hw _ (List.mem_of_getElem? (i := 24) rfl))) Via.refl e0 S4 (g := (mkF m 40 #[.val (.int i)] [])) rfl (hb hby d0_40)
            refine own_step (T' := T22) (g' := (mkF m 43 #[.val (.int i)] [(.ref r4)])) st25 ?_
            exact own_retA X23 hx hlk Bd.returns rfl rfl (hb hby d0_43) (by rw [e24]; exact ⟨by unfold own_pick; rw [if_neg hb1, if_neg hb6, if_neg hb11, if_neg hb16, if_pos hb21], N0, rfl⟩) (by decide) (by decide)
          · refine own_step (T' := s₁) (g' := (mkF m 44 #[.val (.int i)] [])) (fun t_ k_ => XS.icmpYes X0.here hx rfl (pc0 := 37) (pc' := 44) rfl (hb hby d0_37) rfl (XT.ii_ne_t hb21) (by decide) (by decide) k_) ?_
            refine own_step (T' := s₁) (g' := (mkF m 45 #[.val (.int i)] [(.int i)])) (fun t_ k_ => XS.iloadN X0.here hx rfl (hb hby d0_44) rfl k_) ?_
            refine own_step (T' := s₁) (g' := (mkF m 46 #[.val (.int i)] [(.int (5 : Int32)), (.int i)])) (fun t_ k_ => XT.iconstV X0.here hx rfl (5 : Int32) (hb hby d0_45) (by decide) k_) ?_
            by_cases hb26 : i = (5 : Int32)
            · refine own_step (T' := s₁) (g' := (mkF m 49 #[.val (.int i)] [])) (fun t_ k_ => XS.icmpNo X0.here hx rfl (hb hby d0_46) rfl (XT.ii_ne_f hb26) k_) ?_
              obtain ⟨T27, X28, e29, st30⟩ := getS2 (host := "") X0 hx hZ hown (Or.inl (hw _ (List.mem_of_getElem? (i := 26) rfl))) Via.refl e0 S5 (g := (mkF m 49 #[.val (.int i)] [])) rfl (hb hby d0_49)
              refine own_step (T' := T27) (g' := (mkF m 52 #[.val (.int i)] [(.ref r5)])) st30 ?_
              exact own_retA X28 hx hlk Bd.returns rfl rfl (hb hby d0_52) (by rw [e29]; exact ⟨by unfold own_pick; rw [if_neg hb1, if_neg hb6, if_neg hb11, if_neg hb16, if_neg hb21, if_pos hb26], N0, rfl⟩) (by decide) (by decide)
            · refine own_step (T' := s₁) (g' := (mkF m 53 #[.val (.int i)] [])) (fun t_ k_ => XS.icmpYes X0.here hx rfl (pc0 := 46) (pc' := 53) rfl (hb hby d0_46) rfl (XT.ii_ne_t hb26) (by decide) (by decide) k_) ?_
              refine own_step (T' := s₁) (g' := (mkF m 54 #[.val (.int i)] [(.int i)])) (fun t_ k_ => XS.iloadN X0.here hx rfl (hb hby d0_53) rfl k_) ?_
              refine own_step (T' := s₁) (g' := (mkF m 56 #[.val (.int i)] [(.int (6 : Int32)), (.int i)])) (fun t_ k_ => XT.bipushV X0.here hx rfl (6 : Int32) (hb hby d0_54) (by decide) k_) ?_
              by_cases hb31 : i = (6 : Int32)
              · refine own_step (T' := s₁) (g' := (mkF m 59 #[.val (.int i)] [])) (fun t_ k_ => XS.icmpNo X0.here hx rfl (hb hby d0_56) rfl (XT.ii_ne_f hb31) k_) ?_
                obtain ⟨T32, X33, e34, st35⟩ := getS2 (host := "") X0 hx hZ hown (Or.inl (hw _ (List.mem_of_getElem? (i := 18) rfl))) Via.refl e0 S6 (g := (mkF m 59 #[.val (.int i)] [])) rfl (hb hby d0_59)
                refine own_step (T' := T32) (g' := (mkF m 62 #[.val (.int i)] [(.ref r6)])) st35 ?_
                exact own_retA X33 hx hlk Bd.returns rfl rfl (hb hby d0_62) (by rw [e34]; exact ⟨by unfold own_pick; rw [if_neg hb1, if_neg hb6, if_neg hb11, if_neg hb16, if_neg hb21, if_neg hb26, if_pos hb31], N0, rfl⟩) (by decide) (by decide)
              · refine own_step (T' := s₁) (g' := (mkF m 63 #[.val (.int i)] [])) (fun t_ k_ => XS.icmpYes X0.here hx rfl (pc0 := 56) (pc' := 63) rfl (hb hby d0_56) rfl (XT.ii_ne_t hb31) (by decide) (by decide) k_) ?_
                obtain ⟨T36, X37, e38, st39⟩ := getS2 (host := "") X0 hx hZ hown (Or.inl (hw _ (List.mem_of_getElem? (i := 19) rfl))) Via.refl e0 S7 (g := (mkF m 63 #[.val (.int i)] [])) rfl (hb hby d0_63)
                refine own_step (T' := T36) (g' := (mkF m 66 #[.val (.int i)] [(.ref r7)])) st39 ?_
                exact own_retA X37 hx hlk Bd.returns rfl rfl (hb hby d0_66) (by rw [e38]; exact ⟨by unfold own_pick; rw [if_neg hb1, if_neg hb6, if_neg hb11, if_neg hb16, if_neg hb21, if_neg hb26, if_neg hb31], N0, rfl⟩) (by decide) (by decide)
theorem d1_0 : decode prog_75_method_4_code 0 = .ok (.aload_n 0, 1) := by decide +kernel
theorem d1_1 : decode prog_75_method_4_code 1 = .ok (.getstatic 22, 3) := by decide +kernel
theorem d1_4 : decode prog_75_method_4_code 4 = .ok (.if_acmp .eq 10, 3) := by decide +kernel
theorem d1_7 : decode prog_75_method_4_code 7 = .ok (.aload_n 0, 1) := by decide +kernel
theorem d1_8 : decode prog_75_method_4_code 8 = .ok (.getstatic 25, 3) := by decide +kernel
theorem d1_11 : decode prog_75_method_4_code 11 = .ok (.if_acmp .ne 7, 3) := by decide +kernel
theorem d1_14 : decode prog_75_method_4_code 14 = .ok (.iconst 1, 1) := by decide +kernel
theorem d1_15 : decode prog_75_method_4_code 15 = .ok (.goto 4, 3) := by decide +kernel
theorem d1_18 : decode prog_75_method_4_code 18 = .ok (.iconst 0, 1) := by decide +kernel
theorem d1_19 : decode prog_75_method_4_code 19 = .ok (.ireturn, 1) := by decide +kernel
theorem pn_1 : plainFor (⟨"com/example/dossier_into_mets/dossierintomets/Policy$Action", "isDefaultRead", "()Z"⟩ : MethodName) = true := by first | exact plainFor_of_name (by first | (simp [plainName, overriddenIn]; done) | decide +kernel) | decide +kernel
theorem ef_1 (m : MethodId) (x0 : Addr) : entryFrame m #[(.ref x0)] 1 = mkF m 0 #[.val (.ref x0)] [] := by first | (simp [entryFrame, mkF, argsToLocals, Value.category]; done) | rfl
def Q_1 (b r6 r7 : Addr) (h0 : Heap) (n0 : Nat) (v : Option Value) (h : Heap) (L : List Loc) : Prop := v = some (.int (if b = r6 ∨ b = r7 then (1 : Int32) else (0 : Int32))) ∧ Fr n0 L ∧ h = h0
set_option maxRecDepth 65536 in
set_option maxHeartbeats 40000000 in
theorem rm_def (l : Launch) (Z : State) (a0 : Array Value) (hw : ∀ d ∈ tables_1, d.before a0 Z = true) (ws : List Jvm.Cond) (b r6 r7 : Addr) (h0 : Heap) (n0 : Nat) (Z0 : n0 ≤ h0.size) (S6 : Sta Z h0 "com/example/dossier_into_mets/dossierintomets/Policy$Action" "DEFAULT_ITEM_READ" "Lcom/example/dossier_into_mets/dossierintomets/Policy$Action;" (.ref r6)) (S7 : Sta Z h0 "com/example/dossier_into_mets/dossierintomets/Policy$Action" "DEFAULT_BITSTREAM_READ" "Lcom/example/dossier_into_mets/dossierintomets/Policy$Action;" (.ref r7)) :
    MetFree l (⟨"com/example/dossier_into_mets/dossierintomets/Policy$Action", "isDefaultRead", "()Z"⟩ : MethodName) (head1 (Jvm.Cond.code (⟨"com/example/dossier_into_mets/dossierintomets/Policy$Action", "isDefaultRead", "()Z"⟩ : MethodName) prog_75_method_4_code 1 (some .boolean) :: ws) ({ frames := 0, cells := 0, slots := 0, locals := 0 } : Room)) (fun as_ U => as_ = #[(.ref b)] ∧ Z.Warmed39 U.vm ∧ U.heap = h0) (fun _ _ _ _ _ => True) (fun _ U o U' => ∃ v L, o = .returned v ∧ Q_1 b r6 r7 h0 n0 v U'.heap L ∧ FrameEnd U o U' L ({ frames := 0, cells := 0, slots := 0, locals := 0 } : Room).cells ({ frames := 0, cells := 0, slots := 0, locals := 0 } : Room).slots) := by
  refine MetFree.of_bodySF pn_1 hisR ?_
  intro p e s m args below meth c s₁ Bd hml0 hP hK
  obtain ⟨rfl, hZ, hh⟩ := hP
  have hx := Bd.exec
  have hby := Bd.bytes
  have hlk := BodyLoose.notSynchronized Bd
  have hml : c.maxLocals = 1 := hml0
  have hown : s.vm.findClass "com/example/dossier_into_mets/dossierintomets/Policy$Action" = some m.cls := findClass_of_methodNamed Bd.named
  have hnm := (name_of_methodNamed Bd.named Bd.method).1
  have X0 : Stand p l e ({ frames := 0, cells := 0, slots := 0, locals := 0 } : Room) s m #[(.ref b)] below meth c s₁ [] 0 0 := Stand.of_body Bd
  have e0 : s₁.heap = h0 := by rw [← hh, Bd.state]; rfl
  have N0 := Fr.nil n0
  refine own_in (ef_1 m b) ?_
  show own_Fin p e below s (Q_1 b r6 r7 h0 n0) 0 0 s₁ (mkF m 0 #[.val (.ref b)] [])
  refine own_step (T' := s₁) (g' := (mkF m 1 #[.val (.ref b)] [(.ref b)])) (fun t_ k_ => XS.aloadN X0.here hx rfl (hb hby d1_0) rfl rfl k_) ?_
  obtain ⟨T1, X2, e3, st4⟩ := getS2 (host := "") X0 hx hZ hown (Or.inl (hw _ (List.mem_of_getElem? (i := 12) rfl))) Via.refl e0 S6 (g := (mkF m 1 #[.val (.ref b)] [(.ref b)])) rfl (hb hby d1_1)
  refine own_step (T' := T1) (g' := (mkF m 4 #[.val (.ref b)] [(.ref r6), (.ref b)])) st4 ?_
  by_cases hb5 : ((.ref b) : Value) = (.ref r6)
  · refine own_step (T' := T1) (g' := (mkF m 14 #[.val (.ref b)] [])) (fun t_ k_ => XT.acmpYes X2.here hx rfl (pc0 := 4) (pc' := 14) rfl (hb hby d1_4) rfl rfl rfl (XT.aa_eq_t hb5) (by decide) (by decide) k_) ?_
    refine own_step (T' := T1) (g' := (mkF m 15 #[.val (.ref b)] [(.int (1 : Int32))])) (fun t_ k_ => XT.iconstV X2.here hx rfl (1 : Int32) (hb hby d1_14) (by decide) k_) ?_
    refine own_step (T' := T1) (g' := (mkF m 19 #[.val (.ref b)] [(.int (1 : Int32))])) (fun t_ k_ => XS.goto X2.here hx rfl (pc0 := 15) (pc' := 19) rfl (hb hby d1_15) (by decide) (by decide) k_) ?_
    exact own_retN X2 hx hlk (t := .boolean) Bd.returns (by simp) (hb hby d1_19) (by rw [e3]; exact ⟨by rw [if_pos (Or.inl (Value.ref.inj hb5))] <;> rfl, N0, rfl⟩) (by decide) (by decide)
  · refine own_step (T' := T1) (g' := (mkF m 7 #[.val (.ref b)] [])) (fun t_ k_ => XT.acmpNo X2.here hx rfl (hb hby d1_4) rfl rfl rfl (XT.aa_eq_f hb5) k_) ?_
    refine own_step (T' := T1) (g' := (mkF m 8 #[.val (.ref b)] [(.ref b)])) (fun t_ k_ => XS.aloadN X2.here hx rfl (hb hby d1_7) rfl rfl k_) ?_
    obtain ⟨T6, X7, e8, st9⟩ := getS2 (host := "") X2 hx hZ hown (Or.inl (hw _ (List.mem_of_getElem? (i := 14) rfl))) Via.refl e3 S7 (g := (mkF m 8 #[.val (.ref b)] [(.ref b)])) rfl (hb hby d1_8)
    refine own_step (T' := T6) (g' := (mkF m 11 #[.val (.ref b)] [(.ref r7), (.ref b)])) st9 ?_
    by_cases hb10 : ((.ref b) : Value) = (.ref r7)
    · refine own_step (T' := T6) (g' := (mkF m 14 #[.val (.ref b)] [])) (fun t_ k_ => XT.acmpNo X7.here hx rfl (hb hby d1_11) rfl rfl rfl (XT.aa_ne_f hb10) k_) ?_
      refine own_step (T' := T6) (g' := (mkF m 15 #[.val (.ref b)] [(.int (1 : Int32))])) (fun t_ k_ => XT.iconstV X7.here hx rfl (1 : Int32) (hb hby d1_14) (by decide) k_) ?_
      refine own_step (T' := T6) (g' := (mkF m 19 #[.val (.ref b)] [(.int (1 : Int32))])) (fun t_ k_ => XS.goto X7.here hx rfl (pc0 := 15) (pc' := 19) rfl (hb hby d1_15) (by decide) (by decide) k_) ?_
      exact own_retN X7 hx hlk (t := .boolean) Bd.returns (by simp) (hb hby d1_19) (by rw [e8]; exact ⟨by rw [if_pos (Or.inr (Value.ref.inj hb10))] <;> rfl, N0, rfl⟩) (by decide) (by decide)
    · refine own_step (T' := T6) (g' := (mkF m 18 #[.val (.ref b)] [])) (fun t_ k_ => XT.acmpYes X7.here hx rfl (pc0 := 11) (pc' := 18) rfl (hb hby d1_11) rfl rfl rfl (XT.aa_ne_t hb10) (by decide) (by decide) k_) ?_
      refine own_step (T' := T6) (g' := (mkF m 19 #[.val (.ref b)] [(.int (0 : Int32))])) (fun t_ k_ => XT.iconstV X7.here hx rfl (0 : Int32) (hb hby d1_18) (by decide) k_) ?_
      exact own_retN X7 hx hlk (t := .boolean) Bd.returns (by simp) (hb hby d1_19) (by rw [e8]; exact ⟨by rw [if_neg (fun q => q.elim (fun e => hb5 (congrArg Value.ref e)) (fun e => hb10 (congrArg Value.ref e)))] <;> rfl, N0, rfl⟩) (by decide) (by decide)
theorem pn_2 : plainFor x = true := by first | exact plainFor_of_name (by first | (simp [plainName, overriddenIn]; done) | decide +kernel) | decide +kernel
theorem ef_2 (m : MethodId) (x0 : Int32) : entryFrame m #[(.int x0)] maxLocals = mkF m 0 #[.val (.int x0), .unset, .unset, .unset] [] := by first | (simp [entryFrame, mkF, argsToLocals, Value.category, maxLocals]; done) | rfl
def Q_2 (h0 : Heap) (n0 : Nat) (v : Option Value) (h : Heap) (L : List Loc) : Prop := v = some (.int 1) ∧ Fr n0 L
set_option maxRecDepth 65536 in
set_option maxHeartbeats 40000000 in
theorem rm_law (l : Launch) (Z : State) (a0 : Array Value) (hw : ∀ d ∈ tables_1, d.before a0 Z = true) (ws : List Jvm.Cond) (k : Int32) (r0 r1 r2 r3 r4 r5 r6 r7 : Addr) (o : Addr → Option Value) (h0 : Heap) (n0 : Nat) (Z0 : n0 ≤ h0.size) (S0 : Sta Z h0 "com/example/dossier_into_mets/dossierintomets/Policy$Action" "READ" "Lcom/example/dossier_into_mets/dossierintomets/Policy$Action;" (.ref r0)) (E0 : Exa Z h0 r0 "com/example/dossier_into_mets/dossierintomets/Policy$Action") (S1 : Sta Z h0 "com/example/dossier_into_mets/dossierintomets/Policy$Action" "WRITE" "Lcom/example/dossier_into_mets/dossierintomets/Policy$Action;" (.ref r1)) (E1 : Exa Z h0 r1 "com/example/dossier_into_mets/dossierintomets/Policy$Action") (S2 : Sta Z h0 "com/example/dossier_into_mets/dossierintomets/Policy$Action" "ADD" "Lcom/example/dossier_into_mets/dossierintomets/Policy$Action;" (.ref r2)) (E2 : Exa Z h0 r2 "com/example/dossier_into_mets/dossierintomets/Policy$Action") (S3 : Sta Z h0 "com/example/dossier_into_mets/dossierintomets/Policy$Action" "DELETE" "Lcom/example/dossier_into_mets/dossierintomets/Policy$Action;" (.ref r3)) (E3 : Exa Z h0 r3 "com/example/dossier_into_mets/dossierintomets/Policy$Action") (S4 : Sta Z h0 "com/example/dossier_into_mets/dossierintomets/Policy$Action" "REMOVE" "Lcom/example/dossier_into_mets/dossierintomets/Policy$Action;" (.ref r4)) (E4 : Exa Z h0 r4 "com/example/dossier_into_mets/dossierintomets/Policy$Action") (S5 : Sta Z h0 "com/example/dossier_into_mets/dossierintomets/Policy$Action" "ADMIN" "Lcom/example/dossier_into_mets/dossierintomets/Policy$Action;" (.ref r5)) (E5 : Exa Z h0 r5 "com/example/dossier_into_mets/dossierintomets/Policy$Action") (S6 : Sta Z h0 "com/example/dossier_into_mets/dossierintomets/Policy$Action" "DEFAULT_ITEM_READ" "Lcom/example/dossier_into_mets/dossierintomets/Policy$Action;" (.ref r6)) (E6 : Exa Z h0 r6 "com/example/dossier_into_mets/dossierintomets/Policy$Action") (S7 : Sta Z h0 "com/example/dossier_into_mets/dossierintomets/Policy$Action" "DEFAULT_BITSTREAM_READ" "Lcom/example/dossier_into_mets/dossierintomets/Policy$Action;" (.ref r7)) (E7 : Exa Z h0 r7 "com/example/dossier_into_mets/dossierintomets/Policy$Action") (O0 : o r0 = some (.int 0)) (O1 : o r1 = some (.int 1)) (O2 : o r2 = some (.int 2)) (O3 : o r3 = some (.int 3)) (O4 : o r4 = some (.int 4)) (O5 : o r5 = some (.int 5)) (O6 : o r6 = some (.int 6)) (O7 : o r7 = some (.int 7)) :
    MetFree l x (head1 (Jvm.Cond.code x code maxLocals ret :: ws) room_1) (fun as_ U => as_ = #[(.int k)] ∧ Z.Warmed39 U.vm ∧ U.heap = h0) (fun _ _ _ _ _ => True) (fun _ U o U' => ∃ v L, o = .returned v ∧ Q_2 h0 n0 v U'.heap L ∧ FrameEnd U o U' L 0 0) := by
  refine MetFree.of_bodySF pn_2 hisR ?_
  intro p e s m args below meth c s₁ Bd hml0 hP hK
  obtain ⟨rfl, hZ, hh⟩ := hP
  have hx := Bd.exec
  have hby := Bd.bytes
  have hlk := BodyLoose.notSynchronized Bd
  have hml : c.maxLocals = 4 := hml0
  have hown : s.vm.findClass "com/example/dossier_into_mets/dossierintomets/ActionIsDefaultReadPinLaw" = some m.cls := findClass_of_methodNamed Bd.named
  have hnm := (name_of_methodNamed Bd.named Bd.method).1
  have X0 : Stand p l e room_1 s m #[(.int k)] below meth c s₁ [] 0 0 := Stand.of_body Bd
  have e0 : s₁.heap = h0 := by rw [← hh, Bd.state]; rfl
  have N0 := Fr.nil n0
  refine own_in (ef_2 m k) ?_
  show own_Fin p e below s (Q_2 h0 n0) 0 0 s₁ (mkF m 0 #[.val (.int k), .unset, .unset, .unset] [])
  refine own_step (T' := s₁) (g' := (mkF m 1 #[.val (.int k), .unset, .unset, .unset] [(.int k)])) (fun t_ k_ => XS.iloadN X0.here hx rfl (hb hby at_0) rfl k_) ?_
  refine own_step (T' := s₁) (g' := (mkF m 3 #[.val (.int k), .unset, .unset, .unset] [(.int (7 : Int32)), (.int k)])) (fun t_ k_ => XT.bipushV X0.here hx rfl (7 : Int32) (hb hby at_1) (by decide) k_) ?_
  refine own_step (T' := s₁) (g' := (mkF m 4 #[.val (.int k), .unset, .unset, .unset] [(.int (k &&& (7 : Int32)))])) (fun t_ k_ => XS.iand X0.here hx rfl (hb hby at_3) rfl k_) ?_
  refine own_step (T' := s₁) (g' := (mkF m 5 #[.val (.int k), .val (.int (k &&& (7 : Int32))), .unset, .unset] [])) (fun t_ k_ => XS.istoreN X0.here hx rfl (hb hby at_4) rfl (l' := #[.val (.int k), .val (.int (k &&& (7 : Int32))), .unset, .unset]) rfl k_) ?_
  refine own_step (T' := s₁) (g' := (mkF m 6 #[.val (.int k), .val (.int (k &&& (7 : Int32))), .unset, .unset] [(.int (k &&& (7 : Int32)))])) (fun t_ k_ => XS.iloadN X0.here hx rfl (hb hby at_5) rfl k_) ?_
  obtain ⟨_, _, ⟨Tc1, Lc1, kc1, nc1⟩, -, Xc1, ⟨Lcc1, hQc1, lc1, yc1, zc1⟩, stc1⟩ := Jvm.LawKit.callS X0 hx (y := (⟨"com/example/dossier_into_mets/dossierintomets/ActionIsDefaultReadPinLaw", "pick", "(I)Lcom/example/dossier_into_mets/dossierintomets/Policy$Action;"⟩ : MethodName)) hown (mvT hZ (hw _ (List.mem_of_getElem? (i := 0) rfl))) (mvT hZ (hw _ (List.mem_of_getElem? (i := 1) rfl))) (mvT hZ (hw _ (List.mem_of_getElem? (i := 2) rfl))) (mvT hZ (hw _ (List.mem_of_getElem? (i := 3) rfl))) (by decide) (backOf (W := 0) (rm_pick l Z a0 hw [] (k &&& (7 : Int32)) r0 r1 r2 r3 r4 r5 r6 r7 h0 n0 Z0 S0 S1 S2 S3 S4 S5 S6 S7) hZ (hw _ (List.mem_of_getElem? (i := 3) rfl)) (hw _ (List.mem_of_getElem? (i := 2) rfl)) (by decide) (by decide)) (g := (mkF m 6 #[.val (.int k), .val (.int (k &&& (7 : Int32))), .unset, .unset] [(.int (k &&& (7 : Int32)))])) rfl (by rw [hml]; rfl) (argsL := [(.int (k &&& (7 : Int32)))]) (rest := []) (lenOf pd_0 rfl) rfl (by show 2 * 0 + _ ≤ _; exact Nat.le_of_eq rfl) (hb hby at_6) (fun _ _ => ⟨rfl, e0, (by decide : 0 + 0 ≤ _), (by decide : 0 + 0 ≤ _)⟩)
  dsimp only [Pt.U, Pt.locs, Pt.cells, Pt.slots] at Xc1 lc1 yc1 zc1 stc1 hQc1
  subst lc1 yc1 zc1
  obtain ⟨hv4, N2, e3⟩ := hQc1
  obtain ⟨b, hbq⟩ : ∃ z : Addr, z = own_pick (k &&& (7 : Int32)) r0 r1 r2 r3 r4 r5 r6 r7 := ⟨_, rfl⟩
  rw [← hbq] at hv4
  subst hv4
  have N5 := Fr.app N0 N2
  have Eb : Exa Z h0 b "com/example/dossier_into_mets/dossierintomets/Policy$Action" := hbq ▸ own_pick_all (P := fun a => Exa Z h0 a "com/example/dossier_into_mets/dossierintomets/Policy$Action") _ E0 E1 E2 E3 E4 E5 E6 E7
  refine own_step (T' := Tc1) (g' := (mkF m 9 #[.val (.int k), .val (.int (k &&& (7 : Int32))), .unset, .unset] [(.ref b)])) stc1 ?_
  refine own_step (T' := Tc1) (g' := (mkF m 10 #[.val (.int k), .val (.int (k &&& (7 : Int32))), .val (.ref b), .unset] [])) (fun t_ k_ => XS.astoreN Xc1.here hx rfl (hb hby at_9) rfl rfl (l' := #[.val (.int k), .val (.int (k &&& (7 : Int32))), .val (.ref b), .unset]) rfl k_) ?_
  refine own_step (T' := Tc1) (g' := (mkF m 11 #[.val (.int k), .val (.int (k &&& (7 : Int32))), .val (.ref b), .unset] [(.int (k &&& (7 : Int32)))])) (fun t_ k_ => XS.iloadN Xc1.here hx rfl (hb hby at_10) rfl k_) ?_
  refine own_step (T' := Tc1) (g' := (mkF m 13 #[.val (.int k), .val (.int (k &&& (7 : Int32))), .val (.ref b), .unset] [(.int (6 : Int32)), (.int (k &&& (7 : Int32)))])) (fun t_ k_ => XT.bipushV Xc1.here hx rfl (6 : Int32) (hb hby at_11) (by decide) k_) ?_
  suffices k7 : ∀ v8 : Int32, v8 = (if (k &&& (7 : Int32)) < (6 : Int32) then (0 : Int32) else (1 : Int32)) → own_Fin p e below s (Q_2 h0 n0) 0 0 Tc1 (mkF m 21 #[.val (.int k), .val (.int (k &&& (7 : Int32))), .val (.ref b), .unset] [(.int v8)]) by
    by_cases hb6 : (k &&& (7 : Int32)) < (6 : Int32)
    · refine own_step (T' := Tc1) (g' := (mkF m 20 #[.val (.int k), .val (.int (k &&& (7 : Int32))), .val (.ref b), .unset] [])) (fun t_ k_ => XS.icmpYes Xc1.here hx rfl (pc0 := 13) (pc' := 20) rfl (hb hby at_13) rfl (XT.ii_lt_t hb6) (by decide) (by decide) k_) ?_
      refine own_step (T' := Tc1) (g' := (mkF m 21 #[.val (.int k), .val (.int (k &&& (7 : Int32))), .val (.ref b), .unset] [(.int (0 : Int32))])) (fun t_ k_ => XT.iconstV Xc1.here hx rfl (0 : Int32) (hb hby at_20) (by decide) k_) ?_
      exact k7 _ (if_pos hb6).symm
    · refine own_step (T' := Tc1) (g' := (mkF m 16 #[.val (.int k), .val (.int (k &&& (7 : Int32))), .val (.ref b), .unset] [])) (fun t_ k_ => XS.icmpNo Xc1.here hx rfl (hb hby at_13) rfl (XT.ii_lt_f hb6) k_) ?_
      refine own_step (T' := Tc1) (g' := (mkF m 17 #[.val (.int k), .val (.int (k &&& (7 : Int32))), .val (.ref b), .unset] [(.int (1 : Int32))])) (fun t_ k_ => XT.iconstV Xc1.here hx rfl (1 : Int32) (hb hby at_16) (by decide) k_) ?_
      refine own_step (T' := Tc1) (g' := (mkF m 21 #[.val (.int k), .val (.int (k &&& (7 : Int32))), .val (.ref b), .unset] [(.int (1 : Int32))])) (fun t_ k_ => XS.goto Xc1.here hx rfl (pc0 := 17) (pc' := 21) rfl (hb hby at_17) (by decide) (by decide) k_) ?_
      exact k7 _ (if_neg hb6).symm
  intro v8 hv8
  refine own_step (T' := Tc1) (g' := (mkF m 22 #[.val (.int k), .val (.int (k &&& (7 : Int32))), .val (.ref b), .val (.int v8)] [])) (fun t_ k_ => XS.istoreN Xc1.here hx rfl (hb hby at_21) rfl (l' := #[.val (.int k), .val (.int (k &&& (7 : Int32))), .val (.ref b), .val (.int v8)]) rfl k_) ?_
  refine own_step (T' := Tc1) (g' := (mkF m 23 #[.val (.int k), .val (.int (k &&& (7 : Int32))), .val (.ref b), .val (.int v8)] [(.ref b)])) (fun t_ k_ => XS.aloadN Xc1.here hx rfl (hb hby at_22) rfl rfl k_) ?_
  obtain ⟨cqc9, kqc9, qac9, qbc9, qcc9⟩ := isOf hZ e3 Eb
  obtain ⟨_, _, ⟨Tc9, Lc9, kc9, nc9⟩, -, Xc9, ⟨Lcc9, hQc9, lc9, yc9, zc9⟩, stc9⟩ := Xc1.virtualBack hx (y := (⟨"com/example/dossier_into_mets/dossierintomets/Policy$Action", "isDefaultRead", "()Z"⟩ : MethodName)) (z := (⟨"com/example/dossier_into_mets/dossierintomets/Policy$Action", "isDefaultRead", "()Z"⟩ : MethodName)) hown (mvT hZ (hw _ (List.mem_of_getElem? (i := 7) rfl))) (mvT hZ (hw _ (List.mem_of_getElem? (i := 8) rfl))) (notFace_of_selects (args := #[]) (mvT hZ (hw _ (List.mem_of_getElem? (i := 10) rfl)))) (mvT hZ (hw _ (List.mem_of_getElem? (i := 10) rfl))) (mvT hZ (hw _ (List.mem_of_getElem? (i := 9) rfl))) (by decide) (backOf (W := 0) (rm_def l Z a0 hw [] b r6 r7 h0 n0 Z0 S6 S7) hZ (hw _ (List.mem_of_getElem? (i := 11) rfl)) (hw _ (List.mem_of_getElem? (i := 5) rfl)) (by decide) (by decide)) qac9 qcc9 (g := (mkF m 23 #[.val (.int k), .val (.int (k &&& (7 : Int32))), .val (.ref b), .val (.int v8)] [(.ref b)])) rfl (by rw [hml]; rfl) (Steps.refl _) (argsL := []) (rest := []) (lenOf pd_1 rfl) rfl (by show 2 * 0 + _ ≤ _; exact Nat.le_of_eq rfl) (hb hby at_23) (fun _ _ => ⟨rfl, e3, (by decide : 0 + 0 ≤ _), (by decide : 0 + 0 ≤ _)⟩)
  dsimp only [Pt.U, Pt.locs, Pt.cells, Pt.slots] at Xc9 lc9 yc9 zc9 stc9 hQc9
  subst lc9 yc9 zc9
  obtain ⟨rfl, N10, e11⟩ := hQc9
  have N12 := Fr.app N5 N10
  refine own_step (T' := Tc9) (g' := (mkF m 26 #[.val (.int k), .val (.int (k &&& (7 : Int32))), .val (.ref b), .val (.int v8)] [(.int (if b = r6 ∨ b = r7 then (1 : Int32) else (0 : Int32)))])) (fun t_ k_ => stc9.trans k_) ?_
  refine own_step (T' := Tc9) (g' := (mkF m 27 #[.val (.int k), .val (.int (k &&& (7 : Int32))), .val (.ref b), .val (.int v8)] [(.int v8), (.int (if b = r6 ∨ b = r7 then (1 : Int32) else (0 : Int32)))])) (fun t_ k_ => XS.iloadN Xc9.here hx rfl (hb hby at_26) rfl k_) ?_
  have hk13 : (if b = r6 ∨ b = r7 then (1 : Int32) else (0 : Int32)) = v8 := (own_fin o O0 O1 O2 O3 O4 O5 O6 O7 hbq).trans hv8.symm
  refine own_step (T' := Tc9) (g' := (mkF m 30 #[.val (.int k), .val (.int (k &&& (7 : Int32))), .val (.ref b), .val (.int v8)] [])) (fun t_ k_ => XS.icmpNo Xc9.here hx rfl (hb hby at_27) rfl (XT.ii_ne_f hk13) k_) ?_
  refine own_step (T' := Tc9) (g' := (mkF m 31 #[.val (.int k), .val (.int (k &&& (7 : Int32))), .val (.ref b), .val (.int v8)] [(.int (1 : Int32))])) (fun t_ k_ => XT.iconstV Xc9.here hx rfl (1 : Int32) (hb hby at_30) (by decide) k_) ?_
  refine own_step (T' := Tc9) (g' := (mkF m 35 #[.val (.int k), .val (.int (k &&& (7 : Int32))), .val (.ref b), .val (.int v8)] [(.int (1 : Int32))])) (fun t_ k_ => XS.goto Xc9.here hx rfl (pc0 := 31) (pc' := 35) rfl (hb hby at_31) (by decide) (by decide) k_) ?_
  exact own_retN Xc9 hx hlk (t := .boolean) Bd.returns (by simp) (hb hby at_35) (by rw [e11]; exact ⟨rfl, N12⟩) (by decide) (by decide)
set_option maxRecDepth 65536 in
set_option maxHeartbeats 40000000 in
theorem comes_1 {Post : Tables → Env → Array Value → State → Outcome → State → Prop} (hpost : ∀ tb e args s v u, (limb_1_1.after args s (.returned v) u = true ∧ limb_1_2.after args s (.returned v) u = true ∧ True) → FrameEnd s (.returned v) u (Jvm.fieldLocs frame_1_writes args s ++ Jvm.arrayLocs frame_1_arrays args s ++ Jvm.staticLocs frame_1_statics s) 0 0 → Post tb e args s (.returned v) u) :
    ArmFor flags0 classFile x code maxLocals ret World_1 tables_1 room_1 Calls_1 rest_1 Pre_1 Post := by
  intro l hfl _ _ p e ha hc hk s m args below hf hA hF happ hP
  obtain ⟨hcalls, hrest, hpre⟩ := hP
  obtain ⟨-, -, -, hnamed, -, -, -, hat⟩ := (Spec.applies_iff hf).mp happ
  obtain ⟨hg, hn⟩ := and_e (Cond.before_iff.mp (show (Jvm.Cond.and given_1 narrow_1).before args s = true from hpre))
  obtain ⟨hcount, hg0⟩ := and_e hg
  obtain ⟨w0, rfl⟩ : ∃ w0 : Value, args = #[w0] := by
    have hs : args.size = 1 := by simpa [Cond.value, given_1] using hcount
    obtain ⟨L⟩ := args
    match L, hs with
    | [w0], _ => exact ⟨w0, rfl⟩
  have hw := fun d (hd : d ∈ tables_1) => atoms_spec (ws := Jvm.Cond.code x code maxLocals ret :: tables_1) hat d (List.mem_cons_of_mem _ hd)
  obtain ⟨i0, ei0⟩ := is_v hg0
  obtain rfl : w0 = (.int i0) := Option.some.inj ei0
  obtain ⟨me0, hn_0⟩ := and_e hn
  obtain ⟨me6, hn_1⟩ := and_e hn_0
  obtain ⟨mo0, hn_2⟩ := and_e hn_1
  obtain ⟨mo6, hn_3⟩ := and_e hn_2
  obtain ⟨me7, hn_4⟩ := and_e hn_3
  obtain ⟨mo7, hn_5⟩ := and_e hn_4
  obtain ⟨me3, hn_6⟩ := and_e hn_5
  obtain ⟨mo3, hn_7⟩ := and_e hn_6
  obtain ⟨me2, hn_8⟩ := and_e hn_7
  obtain ⟨mo2, hn_9⟩ := and_e hn_8
  obtain ⟨me1, hn_10⟩ := and_e hn_9
  obtain ⟨mo1, hn_11⟩ := and_e hn_10
  obtain ⟨me4, hn_12⟩ := and_e hn_11
  obtain ⟨mo4, hn_13⟩ := and_e hn_12
  obtain ⟨me5, hn_14⟩ := and_e hn_13
  have mo5 := hn_14
  obtain ⟨r0, ev0⟩ := exa_v me0
  have S0 : Sta s s.heap "com/example/dossier_into_mets/dossierintomets/Policy$Action" "READ" "Lcom/example/dossier_into_mets/dossierintomets/Policy$Action;" (.ref r0) := Sta.start ev0 (Or.inr ⟨(hw _ (List.mem_of_getElem? (i := 5) rfl)), (hw _ (List.mem_of_getElem? (i := 6) rfl))⟩)
  have E0 : Exa s s.heap r0 "com/example/dossier_into_mets/dossierintomets/Policy$Action" := Exa.start ev0 me0
  have O0 := own_ord mo0 ev0
  obtain ⟨r1, ev1⟩ := exa_v me1
  have S1 : Sta s s.heap "com/example/dossier_into_mets/dossierintomets/Policy$Action" "WRITE" "Lcom/example/dossier_into_mets/dossierintomets/Policy$Action;" (.ref r1) := Sta.start ev1 (Or.inr ⟨(hw _ (List.mem_of_getElem? (i := 5) rfl)), (hw _ (List.mem_of_getElem? (i := 23) rfl))⟩)
  have E1 : Exa s s.heap r1 "com/example/dossier_into_mets/dossierintomets/Policy$Action" := Exa.start ev1 me1
  have O1 := own_ord mo1 ev1
  obtain ⟨r2, ev2⟩ := exa_v me2
  have S2 : Sta s s.heap "com/example/dossier_into_mets/dossierintomets/Policy$Action" "ADD" "Lcom/example/dossier_into_mets/dossierintomets/Policy$Action;" (.ref r2) := Sta.start ev2 (Or.inr ⟨(hw _ (List.mem_of_getElem? (i := 5) rfl)), (hw _ (List.mem_of_getElem? (i := 21) rfl))⟩)
  have E2 : Exa s s.heap r2 "com/example/dossier_into_mets/dossierintomets/Policy$Action" := Exa.start ev2 me2
  have O2 := own_ord mo2 ev2
  obtain ⟨r3, ev3⟩ := exa_v me3
  have S3 : Sta s s.heap "com/example/dossier_into_mets/dossierintomets/Policy$Action" "DELETE" "Lcom/example/dossier_into_mets/dossierintomets/Policy$Action;" (.ref r3) := Sta.start ev3 (Or.inr ⟨(hw _ (List.mem_of_getElem? (i := 5) rfl)), (hw _ (List.mem_of_getElem? (i := 17) rfl))⟩)
  have E3 : Exa s s.heap r3 "com/example/dossier_into_mets/dossierintomets/Policy$Action" := Exa.start ev3 me3
  have O3 := own_ord mo3 ev3
  obtain ⟨r4, ev4⟩ := exa_v me4
  have S4 : Sta s s.heap "com/example/dossier_into_mets/dossierintomets/Policy$Action" "REMOVE" "Lcom/example/dossier_into_mets/dossierintomets/Policy$Action;" (.ref r4) := Sta.start ev4 (Or.inr ⟨(hw _ (List.mem_of_getElem? (i := 5) rfl)), (hw _ (List.mem_of_getElem? (i := 25) rfl))⟩)
  have E4 : Exa s s.heap r4 "com/example/dossier_into_mets/dossierintomets/Policy$Action" := Exa.start ev4 me4
  have O4 := own_ord mo4 ev4
  obtain ⟨r5, ev5⟩ := exa_v me5
  have S5 : Sta s s.heap "com/example/dossier_into_mets/dossierintomets/Policy$Action" "ADMIN" "Lcom/example/dossier_into_mets/dossierintomets/Policy$Action;" (.ref r5) := Sta.start ev5 (Or.inr ⟨(hw _ (List.mem_of_getElem? (i := 5) rfl)), (hw _ (List.mem_of_getElem? (i := 27) rfl))⟩)
  have E5 : Exa s s.heap r5 "com/example/dossier_into_mets/dossierintomets/Policy$Action" := Exa.start ev5 me5
  have O5 := own_ord mo5 ev5
  obtain ⟨r6, ev6⟩ := exa_v me6
  have S6 : Sta s s.heap "com/example/dossier_into_mets/dossierintomets/Policy$Action" "DEFAULT_ITEM_READ" "Lcom/example/dossier_into_mets/dossierintomets/Policy$Action;" (.ref r6) := Sta.start ev6 (Or.inr ⟨(hw _ (List.mem_of_getElem? (i := 5) rfl)), (hw _ (List.mem_of_getElem? (i := 13) rfl))⟩)
  have E6 : Exa s s.heap r6 "com/example/dossier_into_mets/dossierintomets/Policy$Action" := Exa.start ev6 me6
  have O6 := own_ord mo6 ev6
  obtain ⟨r7, ev7⟩ := exa_v me7
  have S7 : Sta s s.heap "com/example/dossier_into_mets/dossierintomets/Policy$Action" "DEFAULT_BITSTREAM_READ" "Lcom/example/dossier_into_mets/dossierintomets/Policy$Action;" (.ref r7) := Sta.start ev7 (Or.inr ⟨(hw _ (List.mem_of_getElem? (i := 5) rfl)), (hw _ (List.mem_of_getElem? (i := 15) rfl))⟩)
  have E7 : Exa s s.heap r7 "com/example/dossier_into_mets/dossierintomets/Policy$Action" := Exa.start ev7 me7
  have O7 := own_ord mo7 ev7
  obtain ⟨n, o, h1, h2, h3, _, L, rfl, ⟨rfl, N⟩, hq⟩ := rm_law l s _ hw tables_1 i0 r0 r1 r2 r3 r4 r5 r6 r7 (fun a => s.fieldOf? a "java/lang/Enum" "ordinal" "I") s.heap s.heap.size (Nat.le_refl _) S0 E0 S1 E1 S2 E2 S3 E3 S4 E4 S5 E5 S6 E6 S7 E7 O0 O1 O2 O3 O4 O5 O6 O7 p e ha hc hk s m _ below hf ((Spec.applies_iff_loose hf).mp happ).1 ⟨rfl, State.Warmed39.refl s, rfl⟩ trivial
  refine ⟨n, _, h1, h2, h3, hpost _ _ _ _ _ _ ⟨Cond.after_iff.mpr rfl, Cond.after_iff.mpr (eq_i res_at (Term.int_eval (1)) rfl), trivial⟩ ⟨hq.1, hq.2.1, (hq.2.2.sift fun y hy => Or.inr (N y hy)).mono (by decide) (by decide)⟩⟩
theorem main_1_1 : Claimed_1_1 := comes_1 fun _ _ _ _ _ _ h hF => ⟨h.1, hF⟩
theorem main_1_2 : Claimed_1_2 := comes_1 fun _ _ _ _ _ _ h hF => ⟨h.2.1, hF⟩
end Jvm.Pilot.@@N@@
namespace Jvm.Pilot.@@N@@
open Jvm Jvm.ClassFile Sem Op Lib Jvm.Free Jvm.Stand Jvm.Pilot.@@N@@.Jvm.D
/-! MADE BY PROGRAM (witnessworld.py) out of the Statement's table words and the real class files: 12 classes; the members and pool entries that the words name. The judged class is class 1, her method 2. -/
namespace start1
open Jvm.ClassFile
def u (s : String) : CpInfo := .utf8 (stringToUtf16 s)
/-- a pool by its gaps: so many unusable entries, then the entry; so many at the end -/
def gap : Nat → List CpInfo → List CpInfo
  | 0, r => r
  | n + 1, r => .unusable :: gap n r
def poolList (es : List (Nat × CpInfo)) (last : Nat) : List CpInfo := es.foldr (fun e r => gap e.1 (e.2 :: r)) (gap last [])
def pool (es : List (Nat × CpInfo)) (last : Nat) : Array CpInfo := ⟨poolList es last⟩
def fileOf (pool : Array CpInfo) (this : Nat) (attrs : Array Attribute := #[]) (ms : Array MethodInfo := #[]) (fl : Nat := 33) (sup : Nat := 0) (ifs : Array Nat := #[]) (fds : Array FieldInfo := #[]) : ClassFile where
  minorVersion := 0
  majorVersion := 65
  constantPool := pool
  accessFlags := fl
  thisClass := this
  superClass := sup
  interfaces := ifs
  fields := fds
  methods := ms
  attributes := attrs
def plain (name : String) (sup : Option ClassId) : Class where
  name := name
  kind := .ordinary
  loader := none
  accessFlags := 33
  super := sup
  interfaces := #[]
  cf := none
  fields := #[]
  methods := #[]
  instanceTypes := #[]
  staticTypes := #[]
  resolved := #[]
  callSites := []
  init := .initialized
  statics := none
  mirror := none

def pool0 : Array CpInfo := pool [(5, u "<init>"), (0, u "()V"), (1, .class_ 10), (1, u "java/lang/Object")] 113

def k0m0 : Method := { name := "<init>", desc := "()V", sig := { parameters := [], returnType := none }, accessFlags := 1, code := none }
/-- java/lang/Object -/
def k0 : Class := { plain "java/lang/Object" none with
  accessFlags := 33
  interfaces := #[]
  cf := some (fileOf pool0 8 #[] #[{ accessFlags := 1, nameIndex := 5, descriptorIndex := 6, attributes := #[] }] 33 0 #[] #[])
  fields := #[]
  methods := #[k0m0]
  instanceTypes := #[]
  staticTypes := #[]
  resolved := Array.replicate 124 none
  statics := none }

def pool1 : Array CpInfo := pool [(2, .class_ 4), (1, u "java/lang/Object"), (0, u "<init>"), (0, u "()V"), (0, .fieldref 8 9), (0, .class_ 10), (0, .nameAndType 11 12), (0, u "com/example/dossier_into_mets/dossierintomets/Policy$Action"), (0, u "READ"), (0, u "Lcom/example/dossier_into_mets/dossierintomets/Policy$Action;"), (0, .fieldref 8 14), (0, .nameAndType 15 12), (0, u "WRITE"), (0, .fieldref 8 17), (0, .nameAndType 18 12), (0, u "ADD"), (0, .fieldref 8 20), (0, .nameAndType 21 12), (0, u "DELETE"), (0, .fieldref 8 23), (0, .nameAndType 24 12), (0, u "REMOVE"), (0, .fieldref 8 26), (0, .nameAndType 27 12), (0, u "ADMIN"), (0, .fieldref 8 29), (0, .nameAndType 30 12), (0, u "DEFAULT_ITEM_READ"), (0, .fieldref 8 32), (0, .nameAndType 33 12), (0, u "DEFAULT_BITSTREAM_READ"), (0, .methodref 35 36), (0, .class_ 37), (0, .nameAndType 38 39), (0, u "com/example/dossier_into_mets/dossierintomets/ActionIsDefaultReadPinLaw"), (0, u "pick"), (0, u "(I)Lcom/example/dossier_into_mets/dossierintomets/Policy$Action;"), (0, .methodref 8 41), (0, .nameAndType 42 43), (0, u "isDefaultRead"), (0, u "()Z"), (3, u "law"), (0, u "(I)Z")] 6

def k1m0 : Method := { name := "<init>", desc := "()V", sig := { parameters := [], returnType := none }, accessFlags := 2, code := none }
def k1c1 : Code := { maxStack := 2, maxLocals := 1, code := method_2_code, exceptionTable := #[], attributes := #[] }
def k1m1 : Method := { name := "pick", desc := "(I)Lcom/example/dossier_into_mets/dossierintomets/Policy$Action;", sig := { parameters := [.int], returnType := some (.object "com/example/dossier_into_mets/dossierintomets/Policy$Action") }, accessFlags := 10, code := some k1c1 }
def k1c2 : Code := { maxStack := 2, maxLocals := 4, code := code, exceptionTable := #[], attributes := #[] }
def k1m2 : Method := { name := "law", desc := "(I)Z", sig := { parameters := [.int], returnType := some .boolean }, accessFlags := 9, code := some k1c2 }
/-- com/example/dossier_into_mets/dossierintomets/ActionIsDefaultReadPinLaw -/
def k1 : Class := { plain "com/example/dossier_into_mets/dossierintomets/ActionIsDefaultReadPinLaw" (some 0) with
  accessFlags := 49
  interfaces := #[]
  cf := some (fileOf pool1 35 #[] #[{ accessFlags := 2, nameIndex := 5, descriptorIndex := 6, attributes := #[] }, { accessFlags := 10, nameIndex := 38, descriptorIndex := 39, attributes := #[] }, { accessFlags := 9, nameIndex := 47, descriptorIndex := 48, attributes := #[] }] 49 2 #[] #[])
  fields := #[]
  methods := #[k1m0, k1m1, k1m2]
  instanceTypes := #[]
  staticTypes := #[]
  resolved := Array.replicate 55 none
  statics := none }

def pool2 : Array CpInfo := pool [(1, .class_ 2), (0, u "java/lang/constant/Constable"), (0, .class_ 4), (0, u "java/lang/Object")] 6

/-- java/lang/constant/Constable -/
def k2 : Class := { plain "java/lang/constant/Constable" (some 0) with
  accessFlags := 1537
  interfaces := #[]
  cf := some (fileOf pool2 1 #[] #[] 1537 3 #[] #[])
  fields := #[]
  methods := #[]
  instanceTypes := #[]
  staticTypes := #[]
  resolved := Array.replicate 11 none
  statics := none }

def pool3 : Array CpInfo := pool [(1, .class_ 2), (0, u "java/lang/Comparable"), (0, .class_ 4), (0, u "java/lang/Object")] 7

/-- java/lang/Comparable -/
def k3 : Class := { plain "java/lang/Comparable" (some 0) with
  accessFlags := 1537
  interfaces := #[]
  cf := some (fileOf pool3 1 #[] #[] 1537 3 #[] #[])
  fields := #[]
  methods := #[]
  instanceTypes := #[]
  staticTypes := #[]
  resolved := Array.replicate 12 none
  statics := none }

def pool4 : Array CpInfo := pool [(1, .class_ 2), (0, u "java/io/Serializable"), (0, .class_ 4), (0, u "java/lang/Object")] 2

/-- java/io/Serializable -/
def k4 : Class := { plain "java/io/Serializable" (some 0) with
  accessFlags := 1537
  interfaces := #[]
  cf := some (fileOf pool4 1 #[] #[] 1537 3 #[] #[])
  fields := #[]
  methods := #[]
  instanceTypes := #[]
  staticTypes := #[]
  resolved := Array.replicate 7 none
  statics := none }

def pool5 : Array CpInfo := pool [(2, .class_ 4), (1, u "java/lang/Enum"), (0, u "name"), (0, u "Ljava/lang/String;"), (2, u "ordinal"), (0, u "I"), (1, .class_ 14), (1, u "java/lang/Object"), (4, u "hash"), (86, .class_ 108), (1, u "java/lang/Enum$EnumDesc"), (2, .class_ 112), (0, u "java/lang/constant/Constable"), (0, .class_ 114), (0, u "java/lang/Comparable"), (0, .class_ 116), (0, u "java/io/Serializable")] 87

/-- java/lang/Enum -/
def k5 : Class := { plain "java/lang/Enum" (some 0) with
  accessFlags := 1057
  interfaces := #[2, 3, 4]
  cf := some (fileOf pool5 2 #[.nestMembers #[106]] #[] 1057 12 #[111, 113, 115] #[{ accessFlags := 18, nameIndex := 5, descriptorIndex := 6, attributes := #[] }, { accessFlags := 18, nameIndex := 9, descriptorIndex := 10, attributes := #[] }, { accessFlags := 2, nameIndex := 19, descriptorIndex := 10, attributes := #[] }])
  fields := #[{ name := "name", type := (.object "java/lang/String"), accessFlags := 18, slot := 0, constantValue := 0 }, { name := "ordinal", type := .int, accessFlags := 18, slot := 1, constantValue := 0 }, { name := "hash", type := .int, accessFlags := 2, slot := 2, constantValue := 0 }]
  methods := #[]
  instanceTypes := #[(.object "java/lang/String"), .int, .int]
  staticTypes := #[]
  resolved := Array.replicate 204 none
  statics := none }

def pool6 : Array CpInfo := pool [(1, .class_ 2), (0, u "com/example/dossier_into_mets/dossierintomets/Policy$Action"), (2, u "READ"), (0, u "Lcom/example/dossier_into_mets/dossierintomets/Policy$Action;"), (2, u "WRITE"), (2, u "ADD"), (2, u "DELETE"), (2, u "REMOVE"), (2, u "ADMIN"), (0, .fieldref 1 23), (0, .nameAndType 24 6), (0, u "DEFAULT_ITEM_READ"), (0, .fieldref 1 26), (0, .nameAndType 27 6), (0, u "DEFAULT_BITSTREAM_READ"), (2, u "$VALUES"), (0, u "[Lcom/example/dossier_into_mets/dossierintomets/Policy$Action;"), (6, .class_ 40), (1, u "java/lang/Enum"), (11, u "()Z"), (102, u "isDefaultRead"), (11, .class_ 168), (0, u "com/example/dossier_into_mets/dossierintomets/Policy")] 41

def k6c0 : Code := { maxStack := 2, maxLocals := 1, code := prog_75_method_4_code, exceptionTable := #[], attributes := #[] }
def k6m0 : Method := { name := "isDefaultRead", desc := "()Z", sig := { parameters := [], returnType := some .boolean }, accessFlags := 0, code := some k6c0 }
/-- com/example/dossier_into_mets/dossierintomets/Policy$Action -/
def k6 : Class := { plain "com/example/dossier_into_mets/dossierintomets/Policy$Action" (some 5) with
  accessFlags := 16432
  interfaces := #[]
  cf := some (fileOf pool6 1 #[.nestHost 167] #[{ accessFlags := 0, nameIndex := 155, descriptorIndex := 52, attributes := #[] }] 16432 38 #[] #[{ accessFlags := 16409, nameIndex := 5, descriptorIndex := 6, attributes := #[] }, { accessFlags := 16409, nameIndex := 9, descriptorIndex := 6, attributes := #[] }, { accessFlags := 16409, nameIndex := 12, descriptorIndex := 6, attributes := #[] }, { accessFlags := 16409, nameIndex := 15, descriptorIndex := 6, attributes := #[] }, { accessFlags := 16409, nameIndex := 18, descriptorIndex := 6, attributes := #[] }, { accessFlags := 16409, nameIndex := 21, descriptorIndex := 6, attributes := #[] }, { accessFlags := 16409, nameIndex := 24, descriptorIndex := 6, attributes := #[] }, { accessFlags := 16409, nameIndex := 27, descriptorIndex := 6, attributes := #[] }, { accessFlags := 4122, nameIndex := 30, descriptorIndex := 31, attributes := #[] }])
  fields := #[{ name := "READ", type := (.object "com/example/dossier_into_mets/dossierintomets/Policy$Action"), accessFlags := 16409, slot := 0, constantValue := 0 }, { name := "WRITE", type := (.object "com/example/dossier_into_mets/dossierintomets/Policy$Action"), accessFlags := 16409, slot := 1, constantValue := 0 }, { name := "ADD", type := (.object "com/example/dossier_into_mets/dossierintomets/Policy$Action"), accessFlags := 16409, slot := 2, constantValue := 0 }, { name := "DELETE", type := (.object "com/example/dossier_into_mets/dossierintomets/Policy$Action"), accessFlags := 16409, slot := 3, constantValue := 0 }, { name := "REMOVE", type := (.object "com/example/dossier_into_mets/dossierintomets/Policy$Action"), accessFlags := 16409, slot := 4, constantValue := 0 }, { name := "ADMIN", type := (.object "com/example/dossier_into_mets/dossierintomets/Policy$Action"), accessFlags := 16409, slot := 5, constantValue := 0 }, { name := "DEFAULT_ITEM_READ", type := (.object "com/example/dossier_into_mets/dossierintomets/Policy$Action"), accessFlags := 16409, slot := 6, constantValue := 0 }, { name := "DEFAULT_BITSTREAM_READ", type := (.object "com/example/dossier_into_mets/dossierintomets/Policy$Action"), accessFlags := 16409, slot := 7, constantValue := 0 }, { name := "$VALUES", type := (.array (.object "com/example/dossier_into_mets/dossierintomets/Policy$Action")), accessFlags := 4122, slot := 8, constantValue := 0 }]
  methods := #[k6m0]
  instanceTypes := #[(.object "java/lang/String"), .int, .int]
  staticTypes := #[(.object "com/example/dossier_into_mets/dossierintomets/Policy$Action"), (.object "com/example/dossier_into_mets/dossierintomets/Policy$Action"), (.object "com/example/dossier_into_mets/dossierintomets/Policy$Action"), (.object "com/example/dossier_into_mets/dossierintomets/Policy$Action"), (.object "com/example/dossier_into_mets/dossierintomets/Policy$Action"), (.object "com/example/dossier_into_mets/dossierintomets/Policy$Action"), (.object "com/example/dossier_into_mets/dossierintomets/Policy$Action"), (.object "com/example/dossier_into_mets/dossierintomets/Policy$Action"), (.array (.object "com/example/dossier_into_mets/dossierintomets/Policy$Action"))]
  resolved := Array.replicate 210 none
  statics := some 0 }

def pool7 : Array CpInfo := pool [(1, u "java/lang/Cloneable"), (0, .class_ 1), (0, u "java/lang/Object"), (0, .class_ 3)] 3

/-- java/lang/Cloneable -/
def k7 : Class := { plain "java/lang/Cloneable" (some 0) with
  accessFlags := 1537
  interfaces := #[]
  cf := some (fileOf pool7 2 #[] #[] 1537 4 #[] #[])
  fields := #[]
  methods := #[]
  instanceTypes := #[]
  staticTypes := #[]
  resolved := Array.replicate 8 none
  statics := none }

/-- the primitive byte -/
def k8 : Class := { plain "byte" none with kind := .primitive 'B', accessFlags := 0x411 }
/-- [B -/
def k9 : Class := { plain "[B" (some 0) with kind := .array 8 .byte, interfaces := #[7, 4], accessFlags := 1041 }

/-- the primitive int -/
def k10 : Class := { plain "int" none with kind := .primitive 'I', accessFlags := 0x411 }
/-- [I -/
def k11 : Class := { plain "[I" (some 0) with kind := .array 10 .int, interfaces := #[7, 4], accessFlags := 1041 }

def heap : Heap := #[{ cls := 6, slots := #[.ref 1, .ref 2, .ref 3, .ref 4, .ref 5, .ref 6, .ref 7, .ref 8, .null], vm := .statics 6 },
  { cls := 6, slots := #[.null, .int 0, .int 0], vm := .none },
  { cls := 6, slots := #[.null, .int 1, .int 0], vm := .none },
  { cls := 6, slots := #[.null, .int 2, .int 0], vm := .none },
  { cls := 6, slots := #[.null, .int 3, .int 0], vm := .none },
  { cls := 6, slots := #[.null, .int 4, .int 0], vm := .none },
  { cls := 6, slots := #[.null, .int 5, .int 0], vm := .none },
  { cls := 6, slots := #[.null, .int 6, .int 0], vm := .none },
  { cls := 6, slots := #[.null, .int 7, .int 0], vm := .none }]
def classes : Array Class := #[k0, k1, k2, k3, k4, k5, k6, k7, k8, k9, k10, k11]
def interned : List (Array UInt16 × Addr) := []
def slotsUsed : Nat := 33
def theMethod : MethodId := ⟨1, 2⟩
def args0 : Array Value := #[.int 5]
def aboutOver (below : List Frame) : State where
  vm := { classes := classes, interned := interned.toArray }
  heap := heap
  slotsUsed := slotsUsed
  threads := #[{ frames := .invoking theMethod args0 :: below }]
def below0 : List Frame := [.native { method := ⟨0, 0⟩, args := #[] }]
def about1 : State := aboutOver below0
def p0 : Program := .bare "" "" ""
def e0 : Env := launch0.env 0 0 0
theorem w_frames : about1.frames = Frame.invoking theMethod args0 :: below0 := rfl
set_option maxRecDepth 65536 in
theorem w_args : argsFit about1.vm theMethod args0 = true := by decide +kernel
set_option maxRecDepth 65536 in
theorem w_heap : heapFits about1 = true := by decide +kernel
set_option maxRecDepth 65536 in
theorem w_runnable : about1.curStatus? = some .runnable := by decide +kernel
set_option maxRecDepth 65536 in
theorem w_alone : about1.alone = true := by decide +kernel
set_option maxRecDepth 65536 in
theorem w_named : about1.methodNamed? x = some theMethod := by decide +kernel
set_option maxRecDepth 65536 in
theorem w_hears : about1.hears theMethod below0 = true := by decide +kernel
set_option maxRecDepth 65536 in
theorem w_ripe : about1.ripe theMethod args0 below0 = true := by decide +kernel
theorem w_running : about1.status = .running := rfl
set_option maxRecDepth 65536 in
theorem w_room : about1.hasRoom e0.platform room_1 = true :=
  launch0.hasRoom_least _ room_1 (by decide +kernel) (by decide +kernel) (by decide +kernel) (by decide +kernel) (by decide +kernel) (by decide +kernel)
theorem allAtoms_all (ts : List Jvm.Cond) (a : Array Jvm.Value) (st : Jvm.State) : (allAtoms ts).before a st = ts.all (fun c => c.before a st) := by
  induction ts with
  | nil => rfl
  | cons c t ih =>
    show (Jvm.Cond.and c (allAtoms t)).before a st = _
    rw [Jvm.Cond.before_and, ih, List.all_cons]
def words1 : List Jvm.Cond := Jvm.Cond.code x code maxLocals ret :: tables_1
/-- a 'code' word, met by the world's own term for the bytes: nothing is compared byte by byte -/
theorem code_word {y : MethodName} {bytes : ByteArray} {mx : Nat} {rt : Option FieldType} {a : Array Value} {s : State} {m : MethodId} {meth : Method} {c : Code} (h1 : s.methodNamed? y = some m) (h2 : s.vm.method? m = some meth) (h3 : meth.code = some c) (h4 : c.code = bytes)
    (h5 : (c.maxLocals == mx && c.exceptionTable.isEmpty && decide (c.maxStack ≤ mostOperands) && decide (meth.sig.returnType = rt) && !meth.locks && decide (parseMethodDescriptor y.desc = some meth.sig)) = true) : (Jvm.Cond.code y bytes mx rt).before a s = true := by
  simp only [Bool.and_eq_true, beq_iff_eq, Bool.not_eq_true', decide_eq_true_eq] at h5
  obtain ⟨⟨⟨⟨⟨g1, g2⟩, g3⟩, g4⟩, g5⟩, g6⟩ := h5
  simp [Cond.before, Cond.holds, Cond.value, h1, h2, h3, h4, g1, g2, g3, g4, g5, g6]
def isCode : Jvm.Cond → Bool
  | .code _ _ _ _ => true
  | _ => false
theorem all_split {L : List Jvm.Cond} {P : Jvm.Cond → Bool} (h1 : L.all (fun c => isCode c || P c) = true) (h2 : ∀ c ∈ L.filter isCode, P c = true) : L.all P = true := by
  refine List.all_eq_true.mpr fun c hc => ?_
  have h := List.all_eq_true.mp h1 c hc
  rcases Bool.eq_false_or_eq_true (isCode c) with hi | hi
  · exact h2 c (List.mem_filter.mpr ⟨hc, hi⟩)
  · simpa [hi] using h
set_option maxRecDepth 65536 in
theorem w_c0 : (Jvm.Cond.code x code maxLocals ret).before args0 about1 = true := code_word (m := ⟨1, 2⟩) (meth := k1m2) (c := k1c2) (by decide +kernel) rfl rfl rfl (by decide +kernel)
set_option maxRecDepth 65536 in
theorem w_c1 : (Jvm.Cond.code ({ cls := "com/example/dossier_into_mets/dossierintomets/ActionIsDefaultReadPinLaw", name := "pick", desc := "(I)Lcom/example/dossier_into_mets/dossierintomets/Policy$Action;" } : Jvm.MethodName) method_2_code (1 : Nat) (Option.some (Jvm.ClassFile.FieldType.object "com/example/dossier_into_mets/dossierintomets/Policy$Action"))).before args0 about1 = true := code_word (m := ⟨1, 1⟩) (meth := k1m1) (c := k1c1) (by decide +kernel) rfl rfl rfl (by decide +kernel)
set_option maxRecDepth 65536 in
theorem w_c2 : (Jvm.Cond.code ({ cls := "com/example/dossier_into_mets/dossierintomets/Policy$Action", name := "isDefaultRead", desc := "()Z" } : Jvm.MethodName) prog_75_method_4_code (1 : Nat) (Option.some Jvm.ClassFile.FieldType.boolean)).before args0 about1 = true := code_word (m := ⟨6, 0⟩) (meth := k6m0) (c := k6c0) (by decide +kernel) rfl rfl rfl (by decide +kernel)
def codes1 : List Jvm.Cond := [Jvm.Cond.code x code maxLocals ret, Jvm.Cond.code ({ cls := "com/example/dossier_into_mets/dossierintomets/ActionIsDefaultReadPinLaw", name := "pick", desc := "(I)Lcom/example/dossier_into_mets/dossierintomets/Policy$Action;" } : Jvm.MethodName) method_2_code (1 : Nat) (Option.some (Jvm.ClassFile.FieldType.object "com/example/dossier_into_mets/dossierintomets/Policy$Action")), Jvm.Cond.code ({ cls := "com/example/dossier_into_mets/dossierintomets/Policy$Action", name := "isDefaultRead", desc := "()Z" } : Jvm.MethodName) prog_75_method_4_code (1 : Nat) (Option.some Jvm.ClassFile.FieldType.boolean)]
set_option maxRecDepth 65536 in
theorem codes_eq : words1.filter isCode = codes1 := rfl
theorem w_codes : ∀ c ∈ words1.filter isCode, c.before args0 about1 = true := by
  rw [codes_eq]
  intro c hc
  simp only [codes1, List.mem_cons, List.not_mem_nil, or_false] at hc
  rcases hc with rfl | rfl | rfl
  · exact w_c0
  · exact w_c1
  · exact w_c2
set_option maxRecDepth 65536 in
theorem w_t1 : (words1.take 24).all (fun c => isCode c || c.before args0 about1) = true := by decide +kernel
set_option maxRecDepth 65536 in
theorem w_t2 : (words1.drop 24).all (fun c => isCode c || c.before args0 about1) = true := by decide +kernel
theorem w_tables : (allAtoms (Jvm.Cond.code x code maxLocals ret :: tables_1)).before args0 about1 = true := by
  rw [allAtoms_all]
  show words1.all (fun c => c.before args0 about1) = true
  refine all_split ?_ w_codes
  rw [← List.take_append_drop 24 words1, List.all_append, w_t1, w_t2]
  rfl
set_option maxRecDepth 65536 in
theorem w_case : (Jvm.Cond.and given_1 narrow_1).before args0 about1 = true := by decide +kernel
theorem w_applies : (headSpec (Jvm.Cond.code x code maxLocals ret :: tables_1) room_1).applies x e0.platform about1 = true :=
  (Spec.applies_iff w_frames).mpr ⟨w_running, w_runnable, w_alone, w_named, w_hears, w_ripe, w_room, w_tables⟩
theorem atStart : AtStart classFile x code maxLocals ret World_1 tables_1 room_1 Calls_1 rest_1 Pre_1 launch0 p0 e0 about1 theMethod args0 below0 :=
  ⟨lists_1, trivial, launch0.admits_env _ _ _, launch0.least_env, fairChoices_fair.cas, fairChoices_fair.clock, w_frames, w_args, w_heap, w_applies, trivial, trivial, w_case⟩
end start1
theorem witness_1 : WitnessClaimed_1 := ⟨start1.p0, start1.e0, start1.about1, start1.theMethod, start1.args0, start1.below0, start1.atStart⟩
end Jvm.Pilot.@@N@@
