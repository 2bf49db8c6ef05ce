import JvmDerived
import JvmDerived.Pilot.@@N@@Statement
import JvmDerived.Pilot.@@N@@Code
set_option linter.unusedVariables false
set_option linter.unusedSimpArgs false
@@BLOCK:NumsL.lean.txt@@
namespace Jvm.Pilot.@@N@@
open Jvm Jvm.ClassFile Sem Op Lib Jvm.Free Jvm.Stand Jvm.LawKit Jvm.RoadKit Bundle Jvm.Pilot.@@N@@.Jvm.D
section OwnKit
variable {p : Program} {l : Launch} {e : Env} {R : Room} {s : State} {m : MethodId} {args : Array Value} {below : List Frame} {meth : Method} {c : Code} {T : State} {locs : List Loc} {cells slots : Nat}
/-- from U the run comes to an end of which K speaks -/
def Go (p : Program) (e : Env) (below : List Frame) (K : Outcome → State → Prop) (U : State) : Prop := ∃ s₂ o, Steps p.tables e below U s₂ ∧ s₂.status = .running ∧ Ended s₂ below o ∧ K o s₂
theorem own_s {K : Outcome → State → Prop} {A B : State} (h : ∀ t, Steps p.tables e below B t → Steps p.tables e below A t) (g : Go p e below K B) : Go p e below K A := by
  obtain ⟨s₂, o, h1, h2⟩ := g
  exact ⟨s₂, o, h _ h1, h2⟩
def Kf (s : State) (Q : Option Value → Heap → List Loc → Prop) (C N : Nat) (o : Outcome) (U : State) : Prop := ∃ v L, o = .returned v ∧ Q v U.heap L ∧ FrameEnd s o U L C N
theorem own_ret (X : Stand p l e R s m args below meth c T locs cells slots) (hx : p.tables.exec = Jvm.exec) (hlk : meth.locks = false) {pc : Nat} {Ls : Array Slot} {w : Value} {t : FieldType} {i : Instr} {rest : List Value} (hret : meth.sig.returnType = some t) (hn : narrow t w = w)
    (hi : (i = .ireturn ∧ (t = .int ∨ t = .boolean ∨ t = .byte ∨ t = .char ∨ t = .short) ∧ ∃ z, w = .int z) ∨ (i = .lreturn ∧ t = .long ∧ ∃ z, w = .long z) ∨ (i = .dreturn ∧ t = .double ∧ ∃ z, w = .double z) ∨ (i = .freturn ∧ t = .float ∧ ∃ z, w = .float z) ∨ (i = .areturn ∧ t.isReference = true ∧ w.isRef = true))
    (hd : decode c.code pc = .ok (i, 1)) {Q : Option Value → Heap → List Loc → Prop} {C N : Nat} (hc : cells ≤ C) (hs : slots ≤ N) (hQ : Q (some w) T.heap locs) : Go p e below (Kf s Q C N) (T.setTop (mkF m pc Ls (w :: rest))) := by
  obtain ⟨fs, hr, hrun, hended, hW, hsame⟩ := X.leave (v := some w) (fun h => by rw [hret] at h; cases h) hlk
  exact ⟨_, _, retOut X hx hret hn hi hd hr, hrun, hended, _, _, rfl, hQ, ⟨_, rfl⟩, hW, hsame.mono hc hs⟩
theorem own_retI (X : Stand p l e R s m args below meth c T locs cells slots) (hx : p.tables.exec = Jvm.exec) (hlk : meth.locks = false) {pc : Nat} {Ls : Array Slot} {z : Int32} {rest : List Value} (hret : meth.sig.returnType = some .int)
    (hd : decode c.code pc = .ok (.ireturn, 1)) {Q : Option Value → Heap → List Loc → Prop} {C N : Nat} (hc : cells ≤ C) (hs : slots ≤ N) (hQ : Q (some (.int z)) T.heap locs) : Go p e below (Kf s Q C N) (T.setTop (mkF m pc Ls (.int z :: rest))) :=
  own_ret X hx hlk hret rfl (Or.inl ⟨rfl, Or.inl rfl, _, rfl⟩) hd hc hs hQ
theorem own_retJ (X : Stand p l e R s m args below meth c T locs cells slots) (hx : p.tables.exec = Jvm.exec) (hlk : meth.locks = false) {pc : Nat} {Ls : Array Slot} {z : Int64} {rest : List Value} (hret : meth.sig.returnType = some .long)
    (hd : decode c.code pc = .ok (.lreturn, 1)) {Q : Option Value → Heap → List Loc → Prop} {C N : Nat} (hc : cells ≤ C) (hs : slots ≤ N) (hQ : Q (some (.long z)) T.heap locs) : Go p e below (Kf s Q C N) (T.setTop (mkF m pc Ls (.long z :: rest))) :=
  own_ret X hx hlk hret rfl (Or.inr (Or.inl ⟨rfl, rfl, _, rfl⟩)) hd hc hs hQ
theorem own_retR (X : Stand p l e R s m args below meth c T locs cells slots) (hx : p.tables.exec = Jvm.exec) (hlk : meth.locks = false) {pc : Nat} {Ls : Array Slot} {w : Value} {t : FieldType} {rest : List Value} (hret : meth.sig.returnType = some t) (ht : t.isReference = true) (hw : w.isRef = true)
    (hd : decode c.code pc = .ok (.areturn, 1)) {Q : Option Value → Heap → List Loc → Prop} {C N : Nat} (hc : cells ≤ C) (hs : slots ≤ N) (hQ : Q (some w) T.heap locs) : Go p e below (Kf s Q C N) (T.setTop (mkF m pc Ls (w :: rest))) :=
  own_ret X hx hlk hret (by cases t <;> simp [FieldType.isReference] at ht <;> cases w <;> simp [Value.isRef] at hw <;> rfl) (Or.inr (Or.inr (Or.inr (Or.inr ⟨rfl, ht, hw⟩)))) hd hc hs hQ
theorem own_retB (X : Stand p l e R s m args below meth c T locs cells slots) (hx : p.tables.exec = Jvm.exec) (hlk : meth.locks = false) {pc : Nat} {Ls : Array Slot} {z : Int32} {t : FieldType} {rest : List Value} (hret : meth.sig.returnType = some t) (ht : t = .boolean ∨ t = .byte ∨ t = .char ∨ t = .short)
    (hd : decode c.code pc = .ok (.ireturn, 1)) {Q : Option Value → Heap → List Loc → Prop} {C N : Nat} (hc : cells ≤ C) (hs : slots ≤ N) (hQ : Q (some (.int (nar t z))) T.heap locs) : Go p e below (Kf s Q C N) (T.setTop (mkF m pc Ls (.int z :: rest))) := by
  obtain ⟨fs, hr, hrun, hended, hW, hsame⟩ := X.leave (v := some (.int (nar t z))) (fun h => by rw [hret] at h; cases h) hlk
  exact ⟨_, _, retN X hx hret ht hd hr, hrun, hended, _, _, rfl, hQ, ⟨_, rfl⟩, hW, hsame.mono hc hs⟩
theorem own_retV (X : Stand p l e R s m args below meth c T locs cells slots) (hx : p.tables.exec = Jvm.exec) (hlk : meth.locks = false) {pc : Nat} {Ls : Array Slot} (hret : meth.sig.returnType = none)
    (hd : decode c.code pc = .ok (.return_, 1)) {Q : Option Value → Heap → List Loc → Prop} {C N : Nat} (hc : cells ≤ C) (hs : slots ≤ N) (hQ : Q none T.heap locs) : Go p e below (Kf s Q C N) (T.setTop (mkF m pc Ls [])) := by
  obtain ⟨fs, hr, hrun, hended, hW, hsame⟩ := X.leave (v := none) (fun _ => rfl) hlk
  exact ⟨_, _, X.returnOut hx hret hd hr, hrun, hended, _, _, rfl, hQ, ⟨_, rfl⟩, hW, hsame.mono hc hs⟩
/-- a truth as Java's int -/
abbrev bz (P : Prop) [Decidable P] : Int32 := if P then 1 else 0
theorem own_t {P : Prop} [Decidable P] (h : P) : some (Value.int (nar .boolean (1 : Int32))) = some (Value.int (bz P)) := by rw [bz, if_pos h]; rfl
theorem own_f {P : Prop} [Decidable P] (h : ¬ P) : some (Value.int (nar .boolean (0 : Int32))) = some (Value.int (bz P)) := by rw [bz, if_neg h]; rfl
theorem own_i {a b : Int32} (h : a = b) : some (Value.int a) = some (Value.int b) := by rw [h]
theorem own_j {a b : Int64} (h : a = b) : some (Value.long a) = some (Value.long b) := by rw [h]
theorem own_r {a b : Addr} (h : a = b) : some (Value.ref a) = some (Value.ref b) := by rw [h]
theorem own_eqI {args : Array Value} {first s : State} {o : Option Outcome} {idx : List Nat} {t : Term} {k : Int32} (h : (Jvm.Cond.eq t (Term.int k)).value args first o s idx = some true) : t.eval args first o idx s = some (.int k) := by
  simp only [Cond.value, Term.eval] at h
  cases ht : t.eval args first o idx s with
  | none => simp [ht] at h
  | some x => cases x <;> simp [ht] at h ⊢; exact h
end OwnKit
def afterS (a b : Int64) : Int64 := if a + b < 0 then (9223372036854775807 : Int64) else a + b
theorem own_mask (a : Int64) : 0 ≤ (a &&& (9223372036854775807 : Int64)).toInt ∧ (a &&& (9223372036854775807 : Int64)).toInt < 2 ^ 63 := by
  have e1 : (a &&& (9223372036854775807 : Int64)).toInt = a.toInt % 2 ^ 63 := Jvm.Kit.i64_mask a _ (k := 63) (by decide) (by decide)
  omega
theorem own_p1 (a b : Int64) (h : (9223372036854775807 : Int64) - (a &&& (9223372036854775807 : Int64)) < (b &&& (9223372036854775807 : Int64))) : afterS (a &&& (9223372036854775807 : Int64)) (b &&& (9223372036854775807 : Int64)) = (9223372036854775807 : Int64) := by
  have ha := own_mask a
  have hb := own_mask b
  generalize (a &&& (9223372036854775807 : Int64)) = m at *
  generalize (b &&& (9223372036854775807 : Int64)) = n at *
  have hM : ((9223372036854775807 : Int64)).toInt = 2 ^ 63 - 1 := by decide
  have e1 : ((9223372036854775807 : Int64) - m).toInt = ((9223372036854775807 : Int64)).toInt - m.toInt := Jvm.Kit.i64_sub (by omega) (by omega)
  rw [Int64.lt_iff_toInt_lt, e1, hM] at h
  have e2 : (m + n).toInt = m.toInt + n.toInt - 2 ^ 64 := by
    rw [Int64.toInt_add]
    have q := Int.bmod_emod (x := m.toInt + n.toInt) (m := 2 ^ 64)
    have q1 := Int.bmod_lt (x := m.toInt + n.toInt) (m := 2 ^ 64) (by decide)
    have q2 := Int.le_bmod (x := m.toInt + n.toInt) (m := 2 ^ 64) (by decide)
    omega
  have e3 : m + n < 0 := by rw [Int64.lt_iff_toInt_lt, e2, Int64.toInt_zero]; omega
  simp [afterS, e3]
theorem own_p2 (a b : Int64) (h : ¬ ((9223372036854775807 : Int64) - (a &&& (9223372036854775807 : Int64)) < (b &&& (9223372036854775807 : Int64)))) : afterS (a &&& (9223372036854775807 : Int64)) (b &&& (9223372036854775807 : Int64)) = (a &&& (9223372036854775807 : Int64)) + (b &&& (9223372036854775807 : Int64)) := by
  have ha := own_mask a
  have hb := own_mask b
  generalize (a &&& (9223372036854775807 : Int64)) = m at *
  generalize (b &&& (9223372036854775807 : Int64)) = n at *
  have hM : ((9223372036854775807 : Int64)).toInt = 2 ^ 63 - 1 := by decide
  have e1 : ((9223372036854775807 : Int64) - m).toInt = ((9223372036854775807 : Int64)).toInt - m.toInt := Jvm.Kit.i64_sub (by omega) (by omega)
  rw [Int64.lt_iff_toInt_lt, e1, hM] at h
  have e2 : (m + n).toInt = m.toInt + n.toInt := Jvm.Kit.i64_add (by omega) (by omega)
  have e3 : ¬ m + n < 0 := by rw [Int64.lt_iff_toInt_lt, e2, Int64.toInt_zero]; omega
  simp [afterS, e3]
theorem d1_0 : decode prog_168_method_2_code 0 = .ok (.getstatic 9, 3) := by decide +kernel
theorem d1_3 : decode prog_168_method_2_code 3 = .ok (.ifCond .ne 30, 3) := by decide +kernel
theorem d1_33 : decode prog_168_method_2_code 33 = .ok (.lload_n 0, 1) := by decide +kernel
theorem d1_34 : decode prog_168_method_2_code 34 = .ok (.lload_n 2, 1) := by decide +kernel
theorem d1_35 : decode prog_168_method_2_code 35 = .ok (.ladd, 1) := by decide +kernel
theorem d1_36 : decode prog_168_method_2_code 36 = .ok (.lstore 4, 2) := by decide +kernel
theorem d1_38 : decode prog_168_method_2_code 38 = .ok (.lload 4, 2) := by decide +kernel
theorem d1_40 : decode prog_168_method_2_code 40 = .ok (.lconst 0, 1) := by decide +kernel
theorem d1_41 : decode prog_168_method_2_code 41 = .ok (.lcmp, 1) := by decide +kernel
theorem d1_42 : decode prog_168_method_2_code 42 = .ok (.ifCond .ge 9, 3) := by decide +kernel
theorem d1_45 : decode prog_168_method_2_code 45 = .ok (.ldc2_w 24, 3) := by decide +kernel
theorem d1_48 : decode prog_168_method_2_code 48 = .ok (.goto 5, 3) := by decide +kernel
theorem d1_51 : decode prog_168_method_2_code 51 = .ok (.lload 4, 2) := by decide +kernel
theorem d1_53 : decode prog_168_method_2_code 53 = .ok (.lreturn, 1) := by decide +kernel
theorem pn_0 : plainName "com/example/spillway/spillway/core/Moments" = true := by first | (simp [plainName, overriddenIn]; done) | decide +kernel
theorem ef_1 (m : MethodId) (x0 : Int64) (x1 : Int64) : entryFrame m #[(.long x0), (.long x1)] 6 = mkF m 0 #[.val (.long x0), .second, .val (.long x1), .second, .unset, .unset] [] := by first | (simp [entryFrame, mkF, argsToLocals, Value.category]; done) | rfl
def Q1 (Z : State) (q1 : Int64) (q2 : Int64) (h0 : Heap) (n0 : Nat) (v : Option Value) (h : Heap) (L : List Loc) : Prop := v = some (.long (afterS q1 q2)) ∧ Fr n0 L ∧ h = h0
set_option maxRecDepth 65536 in
set_option maxHeartbeats 40000000 in
theorem rm1 (l : Launch) (Z : State) (a0 : Array Value) (hw : ∀ d ∈ tables_1, d.before a0 Z = true) (ws : List Jvm.Cond) (q1 : Int64) (q2 : Int64) (h0 : Heap) (n0 : Nat) (Z0 : n0 ≤ h0.size) (S : Sta Z h0 "com/example/spillway/spillway/core/Moments" "$assertionsDisabled" "Z" (.int (1 : Int32))) :
    MetFree l (⟨"com/example/spillway/spillway/core/Moments", "after", "(JJ)J"⟩ : MethodName) (head1 (Jvm.Cond.code (⟨"com/example/spillway/spillway/core/Moments", "after", "(JJ)J"⟩ : MethodName) prog_168_method_2_code 6 (some .long) :: ws) ({ frames := 0, cells := 0, slots := 0, locals := 0 } : Room)) (fun a U => a = #[(.long q1), (.long q2)] ∧ Z.Warmed39 U.vm ∧ U.heap = h0) (fun _ _ _ _ _ => True) (fun _ U o U' => ∃ v L, o = .returned v ∧ Q1 Z q1 q2 h0 n0 v U'.heap L ∧ FrameEnd U o U' L ({ frames := 0, cells := 0, slots := 0, locals := 0 } : Room).cells ({ frames := 0, cells := 0, slots := 0, locals := 0 } : Room).slots) := by
  refine MetFree.of_bodySF (plainFor_of_name pn_0) hisR ?_
  intro p e s m args below meth c s₁ Bd hml0 hP hK
  obtain ⟨rfl, hZ, hh⟩ := hP
  have hx := Bd.exec
  have hby := Bd.bytes
  have hlk : meth.locks = false := BodyLoose.notSynchronized Bd
  have hml : c.maxLocals = 6 := hml0
  have hown : s.vm.findClass "com/example/spillway/spillway/core/Moments" = some m.cls := findClass_of_methodNamed Bd.named
  have hnm := (name_of_methodNamed Bd.named Bd.method).1
  have X0 : Stand p l e ({ frames := 0, cells := 0, slots := 0, locals := 0 } : Room) s m #[(.long q1), (.long q2)] below meth c s₁ [] 0 0 := Stand.of_body Bd
  have e0 : s₁.heap = h0 := by rw [← hh, Bd.state]; rfl
  have N0 := Fr.nil n0
  show Go p e below (Kf s (Q1 Z q1 q2 h0 n0) ({ frames := 0, cells := 0, slots := 0, locals := 0 } : Room).cells ({ frames := 0, cells := 0, slots := 0, locals := 0 } : Room).slots) (s₁.setTop (entryFrame m #[(.long q1), (.long q2)] 6))
  refine own_s (B := s₁.setTop (mkF m 0 #[.val (.long q1), .second, .val (.long q2), .second, .unset, .unset] [])) (fun t k => castTop (ef_1 m q1 q2) k) ?_
  obtain ⟨T1, X1, e1, st1⟩ := getS2 X0 hx hZ hown (host := "") (Or.inl (hw _ (List.mem_of_getElem? (i := 5) rfl))) Via.refl e0 S (g := (mkF m 0 #[.val (.long q1), .second, .val (.long q2), .second, .unset, .unset] [])) rfl (hb hby d1_0)
  refine own_s (B := T1.setTop (mkF m 3 #[.val (.long q1), .second, .val (.long q2), .second, .unset, .unset] [(.int (1 : Int32))])) st1 ?_
  refine own_s (B := T1.setTop (mkF m 33 #[.val (.long q1), .second, .val (.long q2), .second, .unset, .unset] [])) (fun t k => XS.ifYes X1.here hx rfl (pc0 := 3) (pc' := 33) rfl (hb hby d1_3) rfl ((if0 _ _).trans (feq (by decide)).2) (by decide) (by decide) k) ?_
  refine own_s (B := T1.setTop (mkF m 34 #[.val (.long q1), .second, .val (.long q2), .second, .unset, .unset] [(.long q1)])) (fun t k => XS.lloadN X1.here hx rfl (hb hby d1_33) rfl k) ?_
  refine own_s (B := T1.setTop (mkF m 35 #[.val (.long q1), .second, .val (.long q2), .second, .unset, .unset] [(.long q2), (.long q1)])) (fun t k => XS.lloadN X1.here hx rfl (hb hby d1_34) rfl k) ?_
  refine own_s (B := T1.setTop (mkF m 36 #[.val (.long q1), .second, .val (.long q2), .second, .unset, .unset] [(.long (q1 + q2))])) (fun t k => XS.ladd X1.here hx rfl (hb hby d1_35) rfl k) ?_
  refine own_s (B := T1.setTop (mkF m 38 #[.val (.long q1), .second, .val (.long q2), .second, .val (.long (q1 + q2)), .second] [])) (fun t k => XS.lstore X1.here hx rfl (hb hby d1_36) rfl (l' := #[.val (.long q1), .second, .val (.long q2), .second, .val (.long (q1 + q2)), .second]) rfl k) ?_
  refine own_s (B := T1.setTop (mkF m 40 #[.val (.long q1), .second, .val (.long q2), .second, .val (.long (q1 + q2)), .second] [(.long (q1 + q2))])) (fun t k => XS.lload X1.here hx rfl (hb hby d1_38) rfl k) ?_
  refine own_s (B := T1.setTop (mkF m 41 #[.val (.long q1), .second, .val (.long q2), .second, .val (.long (q1 + q2)), .second] [(.long (0 : Int64)), (.long (q1 + q2))])) (fun t k => XS.lconst X1.here hx rfl (hb hby d1_40) k) ?_
  refine own_s (B := T1.setTop (mkF m 42 #[.val (.long q1), .second, .val (.long q2), .second, .val (.long (q1 + q2)), .second] [(.int (lcmpW (q1 + q2) (0 : Int64)))])) (fun t k => XS.lcmp X1.here hx rfl (hb hby d1_41) rfl k) ?_
  by_cases hc42 : (q1 + q2) < (0 : Int64)
  · refine own_s (B := T1.setTop (mkF m 45 #[.val (.long q1), .second, .val (.long q2), .second, .val (.long (q1 + q2)), .second] [])) (fun t k => XS.ifNo X1.here hx rfl (hb hby d1_42) rfl ((if0 _ _).trans (tlt ((lw_lt (q1 + q2) (0 : Int64)).mpr hc42)).2.1) k) ?_
    refine own_s (B := T1.setTop (mkF m 48 #[.val (.long q1), .second, .val (.long q2), .second, .val (.long (q1 + q2)), .second] [(.long (9223372036854775807 : Int64))])) (fun t k => X1.ldc2Long hx hown (mvT hZ (hw _ (List.mem_of_getElem? (i := 7) rfl))) (g := (mkF m 45 #[.val (.long q1), .second, .val (.long q2), .second, .val (.long (q1 + q2)), .second] [])) rfl (hb hby d1_45) t k) ?_
    refine own_s (B := T1.setTop (mkF m 53 #[.val (.long q1), .second, .val (.long q2), .second, .val (.long (q1 + q2)), .second] [(.long (9223372036854775807 : Int64))])) (fun t k => XS.goto X1.here hx rfl (pc0 := 48) (pc' := 53) rfl (hb hby d1_48) (by decide) (by decide) k) ?_
    exact own_retJ X1 hx hlk Bd.returns (hb hby d1_53) (by decide) (by decide) ⟨own_j (by simp [afterS, hc42]), N0, e1⟩
  · refine own_s (B := T1.setTop (mkF m 51 #[.val (.long q1), .second, .val (.long q2), .second, .val (.long (q1 + q2)), .second] [])) (fun t k => XS.ifYes X1.here hx rfl (pc0 := 42) (pc' := 51) rfl (hb hby d1_42) rfl ((if0 _ _).trans (flt (fun q => hc42 ((lw_lt (q1 + q2) (0 : Int64)).mp q))).2.1) (by decide) (by decide) k) ?_
    refine own_s (B := T1.setTop (mkF m 53 #[.val (.long q1), .second, .val (.long q2), .second, .val (.long (q1 + q2)), .second] [(.long (q1 + q2))])) (fun t k => XS.lload X1.here hx rfl (hb hby d1_51) rfl k) ?_
    exact own_retJ X1 hx hlk Bd.returns (hb hby d1_53) (by decide) (by decide) ⟨own_j (by simp [afterS, hc42]), N0, e1⟩
theorem pd_0 : parseMethodDescriptor "(JJ)J" = some ⟨[.long, .long], some .long⟩ := by decide +kernel
theorem pn_1 : plainName "com/example/spillway/spillway/core/MomentsAfterPinLaw" = true := by first | (simp [plainName, overriddenIn]; done) | decide +kernel
theorem ef_0 (m : MethodId) (x0 : Int64) (x1 : Int64) : entryFrame m #[(.long x0), (.long x1)] maxLocals = mkF m 0 #[.val (.long x0), .second, .val (.long x1), .second, .unset, .unset, .unset, .unset, .unset, .unset, .unset, .unset] [] := by first | (simp [entryFrame, mkF, argsToLocals, Value.category, maxLocals]; done) | rfl
def Q0 (Z : State) (q1 : Int64) (q2 : Int64) (h0 : Heap) (n0 : Nat) (v : Option Value) (h : Heap) (L : List Loc) : Prop := v = some (.int 1) ∧ Fr n0 L
set_option maxRecDepth 65536 in
set_option maxHeartbeats 40000000 in
theorem rm0 (l : Launch) (Z : State) (a0 : Array Value) (hw : ∀ d ∈ tables_1, d.before a0 Z = true) (ws : List Jvm.Cond) (q1 : Int64) (q2 : Int64) (h0 : Heap) (n0 : Nat) (Z0 : n0 ≤ h0.size) (S : Sta Z h0 "com/example/spillway/spillway/core/Moments" "$assertionsDisabled" "Z" (.int (1 : Int32))) :
    MetFree l x (head1 (Jvm.Cond.code x code maxLocals ret :: ws) room_1) (fun a U => a = #[(.long q1), (.long q2)] ∧ Z.Warmed39 U.vm ∧ U.heap = h0) (fun _ _ _ _ _ => True) (fun _ U o U' => ∃ v L, o = .returned v ∧ Q0 Z q1 q2 h0 n0 v U'.heap L ∧ FrameEnd U o U' L room_1.cells room_1.slots) := by
  refine MetFree.of_bodySF (plainFor_of_name pn_1) hisR ?_
  intro p e s m args below meth c s₁ Bd hml0 hP hK
  obtain ⟨rfl, hZ, hh⟩ := hP
  have hx := Bd.exec
  have hby := Bd.bytes
  have hlk : meth.locks = false := BodyLoose.notSynchronized Bd
  have hml : c.maxLocals = 12 := hml0
  have hown : s.vm.findClass "com/example/spillway/spillway/core/MomentsAfterPinLaw" = some m.cls := findClass_of_methodNamed Bd.named
  have hnm := (name_of_methodNamed Bd.named Bd.method).1
  have X0 : Stand p l e room_1 s m #[(.long q1), (.long q2)] below meth c s₁ [] 0 0 := Stand.of_body Bd
  have e0 : s₁.heap = h0 := by rw [← hh, Bd.state]; rfl
  have N0 := Fr.nil n0
  show Go p e below (Kf s (Q0 Z q1 q2 h0 n0) room_1.cells room_1.slots) (s₁.setTop (entryFrame m #[(.long q1), (.long q2)] maxLocals))
  refine own_s (B := s₁.setTop (mkF m 0 #[.val (.long q1), .second, .val (.long q2), .second, .unset, .unset, .unset, .unset, .unset, .unset, .unset, .unset] [])) (fun t k => castTop (ef_0 m q1 q2) k) ?_
  refine own_s (B := s₁.setTop (mkF m 1 #[.val (.long q1), .second, .val (.long q2), .second, .unset, .unset, .unset, .unset, .unset, .unset, .unset, .unset] [(.long q1)])) (fun t k => XS.lloadN X0.here hx rfl (hb hby at_0) rfl k) ?_
  refine own_s (B := s₁.setTop (mkF m 4 #[.val (.long q1), .second, .val (.long q2), .second, .unset, .unset, .unset, .unset, .unset, .unset, .unset, .unset] [(.long (9223372036854775807 : Int64)), (.long q1)])) (fun t k => X0.ldc2Long hx hown (mvT hZ (hw _ (List.mem_of_getElem? (i := 0) rfl))) (g := (mkF m 1 #[.val (.long q1), .second, .val (.long q2), .second, .unset, .unset, .unset, .unset, .unset, .unset, .unset, .unset] [(.long q1)])) rfl (hb hby at_1) t k) ?_
  refine own_s (B := s₁.setTop (mkF m 5 #[.val (.long q1), .second, .val (.long q2), .second, .unset, .unset, .unset, .unset, .unset, .unset, .unset, .unset] [(.long (q1 &&& (9223372036854775807 : Int64)))])) (fun t k => XS.land X0.here hx rfl (hb hby at_4) rfl k) ?_
  refine own_s (B := s₁.setTop (mkF m 7 #[.val (.long q1), .second, .val (.long q2), .second, .val (.long (q1 &&& (9223372036854775807 : Int64))), .second, .unset, .unset, .unset, .unset, .unset, .unset] [])) (fun t k => XS.lstore X0.here hx rfl (hb hby at_5) rfl (l' := #[.val (.long q1), .second, .val (.long q2), .second, .val (.long (q1 &&& (9223372036854775807 : Int64))), .second, .unset, .unset, .unset, .unset, .unset, .unset]) rfl k) ?_
  refine own_s (B := s₁.setTop (mkF m 8 #[.val (.long q1), .second, .val (.long q2), .second, .val (.long (q1 &&& (9223372036854775807 : Int64))), .second, .unset, .unset, .unset, .unset, .unset, .unset] [(.long q2)])) (fun t k => XS.lloadN X0.here hx rfl (hb hby at_7) rfl k) ?_
  refine own_s (B := s₁.setTop (mkF m 11 #[.val (.long q1), .second, .val (.long q2), .second, .val (.long (q1 &&& (9223372036854775807 : Int64))), .second, .unset, .unset, .unset, .unset, .unset, .unset] [(.long (9223372036854775807 : Int64)), (.long q2)])) (fun t k => X0.ldc2Long hx hown (mvT hZ (hw _ (List.mem_of_getElem? (i := 0) rfl))) (g := (mkF m 8 #[.val (.long q1), .second, .val (.long q2), .second, .val (.long (q1 &&& (9223372036854775807 : Int64))), .second, .unset, .unset, .unset, .unset, .unset, .unset] [(.long q2)])) rfl (hb hby at_8) t k) ?_
  refine own_s (B := s₁.setTop (mkF m 12 #[.val (.long q1), .second, .val (.long q2), .second, .val (.long (q1 &&& (9223372036854775807 : Int64))), .second, .unset, .unset, .unset, .unset, .unset, .unset] [(.long (q2 &&& (9223372036854775807 : Int64)))])) (fun t k => XS.land X0.here hx rfl (hb hby at_11) rfl k) ?_
  refine own_s (B := s₁.setTop (mkF m 14 #[.val (.long q1), .second, .val (.long q2), .second, .val (.long (q1 &&& (9223372036854775807 : Int64))), .second, .val (.long (q2 &&& (9223372036854775807 : Int64))), .second, .unset, .unset, .unset, .unset] [])) (fun t k => XS.lstore X0.here hx rfl (hb hby at_12) rfl (l' := #[.val (.long q1), .second, .val (.long q2), .second, .val (.long (q1 &&& (9223372036854775807 : Int64))), .second, .val (.long (q2 &&& (9223372036854775807 : Int64))), .second, .unset, .unset, .unset, .unset]) rfl k) ?_
  refine own_s (B := s₁.setTop (mkF m 16 #[.val (.long q1), .second, .val (.long q2), .second, .val (.long (q1 &&& (9223372036854775807 : Int64))), .second, .val (.long (q2 &&& (9223372036854775807 : Int64))), .second, .unset, .unset, .unset, .unset] [(.long (q1 &&& (9223372036854775807 : Int64)))])) (fun t k => XS.lload X0.here hx rfl (hb hby at_14) rfl k) ?_
  refine own_s (B := s₁.setTop (mkF m 18 #[.val (.long q1), .second, .val (.long q2), .second, .val (.long (q1 &&& (9223372036854775807 : Int64))), .second, .val (.long (q2 &&& (9223372036854775807 : Int64))), .second, .unset, .unset, .unset, .unset] [(.long (q2 &&& (9223372036854775807 : Int64))), (.long (q1 &&& (9223372036854775807 : Int64)))])) (fun t k => XS.lload X0.here hx rfl (hb hby at_16) rfl k) ?_
  obtain ⟨_, _, ⟨T1, L1, k1, n1⟩, -, X1, ⟨Lc1, hQ1, l1, y1, z1⟩, st1⟩ := Jvm.LawKit.callS X0 hx (y := (⟨"com/example/spillway/spillway/core/Moments", "after", "(JJ)J"⟩ : MethodName)) hown (mvT hZ (hw _ (List.mem_of_getElem? (i := 1) rfl))) (mvT hZ (hw _ (List.mem_of_getElem? (i := 2) rfl))) (mvT hZ (hw _ (List.mem_of_getElem? (i := 3) rfl))) (mvT hZ (hw _ (List.mem_of_getElem? (i := 4) rfl))) (by decide) (backOf (W := 0) (rm1 l Z a0 hw [] (q1 &&& (9223372036854775807 : Int64)) (q2 &&& (9223372036854775807 : Int64))  h0 n0 Z0 S) hZ (hw _ (List.mem_of_getElem? (i := 4) rfl)) (hw _ (List.mem_of_getElem? (i := 3) rfl)) (by decide) (by decide)) (g := (mkF m 18 #[.val (.long q1), .second, .val (.long q2), .second, .val (.long (q1 &&& (9223372036854775807 : Int64))), .second, .val (.long (q2 &&& (9223372036854775807 : Int64))), .second, .unset, .unset, .unset, .unset] [(.long (q2 &&& (9223372036854775807 : Int64))), (.long (q1 &&& (9223372036854775807 : Int64)))])) rfl (by rw [hml]; rfl) (argsL := [(.long (q1 &&& (9223372036854775807 : Int64))), (.long (q2 &&& (9223372036854775807 : Int64)))]) (rest := []) (lenOf pd_0 rfl) rfl (by show 2 * 0 + _ ≤ _; exact Nat.le_of_eq rfl) (hb hby at_18) (fun _ _ => ⟨rfl, e0, (by decide : 0 + 0 ≤ _), (by decide : 0 + 0 ≤ _)⟩)
  dsimp only [Pt.U, Pt.locs, Pt.cells, Pt.slots] at X1 l1 y1 z1 st1 hQ1
  subst l1 y1 z1
  obtain ⟨rfl, N1q, e1⟩ := hQ1
  have N1 := Fr.app N0 N1q
  refine own_s (B := T1.setTop (mkF m 21 #[.val (.long q1), .second, .val (.long q2), .second, .val (.long (q1 &&& (9223372036854775807 : Int64))), .second, .val (.long (q2 &&& (9223372036854775807 : Int64))), .second, .unset, .unset, .unset, .unset] [(.long (afterS (q1 &&& (9223372036854775807 : Int64)) (q2 &&& (9223372036854775807 : Int64))))])) st1 ?_
  refine own_s (B := T1.setTop (mkF m 23 #[.val (.long q1), .second, .val (.long q2), .second, .val (.long (q1 &&& (9223372036854775807 : Int64))), .second, .val (.long (q2 &&& (9223372036854775807 : Int64))), .second, .val (.long (afterS (q1 &&& (9223372036854775807 : Int64)) (q2 &&& (9223372036854775807 : Int64)))), .second, .unset, .unset] [])) (fun t k => XS.lstore X1.here hx rfl (hb hby at_21) rfl (l' := #[.val (.long q1), .second, .val (.long q2), .second, .val (.long (q1 &&& (9223372036854775807 : Int64))), .second, .val (.long (q2 &&& (9223372036854775807 : Int64))), .second, .val (.long (afterS (q1 &&& (9223372036854775807 : Int64)) (q2 &&& (9223372036854775807 : Int64)))), .second, .unset, .unset]) rfl k) ?_
  refine own_s (B := T1.setTop (mkF m 25 #[.val (.long q1), .second, .val (.long q2), .second, .val (.long (q1 &&& (9223372036854775807 : Int64))), .second, .val (.long (q2 &&& (9223372036854775807 : Int64))), .second, .val (.long (afterS (q1 &&& (9223372036854775807 : Int64)) (q2 &&& (9223372036854775807 : Int64)))), .second, .unset, .unset] [(.long (q2 &&& (9223372036854775807 : Int64)))])) (fun t k => XS.lload X1.here hx rfl (hb hby at_23) rfl k) ?_
  refine own_s (B := T1.setTop (mkF m 28 #[.val (.long q1), .second, .val (.long q2), .second, .val (.long (q1 &&& (9223372036854775807 : Int64))), .second, .val (.long (q2 &&& (9223372036854775807 : Int64))), .second, .val (.long (afterS (q1 &&& (9223372036854775807 : Int64)) (q2 &&& (9223372036854775807 : Int64)))), .second, .unset, .unset] [(.long (9223372036854775807 : Int64)), (.long (q2 &&& (9223372036854775807 : Int64)))])) (fun t k => X1.ldc2Long hx hown (mvT hZ (hw _ (List.mem_of_getElem? (i := 0) rfl))) (g := (mkF m 25 #[.val (.long q1), .second, .val (.long q2), .second, .val (.long (q1 &&& (9223372036854775807 : Int64))), .second, .val (.long (q2 &&& (9223372036854775807 : Int64))), .second, .val (.long (afterS (q1 &&& (9223372036854775807 : Int64)) (q2 &&& (9223372036854775807 : Int64)))), .second, .unset, .unset] [(.long (q2 &&& (9223372036854775807 : Int64)))])) rfl (hb hby at_25) t k) ?_
  refine own_s (B := T1.setTop (mkF m 30 #[.val (.long q1), .second, .val (.long q2), .second, .val (.long (q1 &&& (9223372036854775807 : Int64))), .second, .val (.long (q2 &&& (9223372036854775807 : Int64))), .second, .val (.long (afterS (q1 &&& (9223372036854775807 : Int64)) (q2 &&& (9223372036854775807 : Int64)))), .second, .unset, .unset] [(.long (q1 &&& (9223372036854775807 : Int64))), (.long (9223372036854775807 : Int64)), (.long (q2 &&& (9223372036854775807 : Int64)))])) (fun t k => XS.lload X1.here hx rfl (hb hby at_28) rfl k) ?_
  refine own_s (B := T1.setTop (mkF m 31 #[.val (.long q1), .second, .val (.long q2), .second, .val (.long (q1 &&& (9223372036854775807 : Int64))), .second, .val (.long (q2 &&& (9223372036854775807 : Int64))), .second, .val (.long (afterS (q1 &&& (9223372036854775807 : Int64)) (q2 &&& (9223372036854775807 : Int64)))), .second, .unset, .unset] [(.long ((9223372036854775807 : Int64) - (q1 &&& (9223372036854775807 : Int64)))), (.long (q2 &&& (9223372036854775807 : Int64)))])) (fun t k => XS.lsub X1.here hx rfl (hb hby at_30) rfl k) ?_
  refine own_s (B := T1.setTop (mkF m 32 #[.val (.long q1), .second, .val (.long q2), .second, .val (.long (q1 &&& (9223372036854775807 : Int64))), .second, .val (.long (q2 &&& (9223372036854775807 : Int64))), .second, .val (.long (afterS (q1 &&& (9223372036854775807 : Int64)) (q2 &&& (9223372036854775807 : Int64)))), .second, .unset, .unset] [(.int (lcmpW (q2 &&& (9223372036854775807 : Int64)) ((9223372036854775807 : Int64) - (q1 &&& (9223372036854775807 : Int64)))))])) (fun t k => XS.lcmp X1.here hx rfl (hb hby at_31) rfl k) ?_
  by_cases hc32 : ((9223372036854775807 : Int64) - (q1 &&& (9223372036854775807 : Int64))) < (q2 &&& (9223372036854775807 : Int64))
  · refine own_s (B := T1.setTop (mkF m 35 #[.val (.long q1), .second, .val (.long q2), .second, .val (.long (q1 &&& (9223372036854775807 : Int64))), .second, .val (.long (q2 &&& (9223372036854775807 : Int64))), .second, .val (.long (afterS (q1 &&& (9223372036854775807 : Int64)) (q2 &&& (9223372036854775807 : Int64)))), .second, .unset, .unset] [])) (fun t k => XS.ifNo X1.here hx rfl (hb hby at_32) rfl ((if0 _ _).trans (tlt ((lw_gt (q2 &&& (9223372036854775807 : Int64)) ((9223372036854775807 : Int64) - (q1 &&& (9223372036854775807 : Int64)))).mpr hc32)).2.2.2) k) ?_
    refine own_s (B := T1.setTop (mkF m 38 #[.val (.long q1), .second, .val (.long q2), .second, .val (.long (q1 &&& (9223372036854775807 : Int64))), .second, .val (.long (q2 &&& (9223372036854775807 : Int64))), .second, .val (.long (afterS (q1 &&& (9223372036854775807 : Int64)) (q2 &&& (9223372036854775807 : Int64)))), .second, .unset, .unset] [(.long (9223372036854775807 : Int64))])) (fun t k => X1.ldc2Long hx hown (mvT hZ (hw _ (List.mem_of_getElem? (i := 0) rfl))) (g := (mkF m 35 #[.val (.long q1), .second, .val (.long q2), .second, .val (.long (q1 &&& (9223372036854775807 : Int64))), .second, .val (.long (q2 &&& (9223372036854775807 : Int64))), .second, .val (.long (afterS (q1 &&& (9223372036854775807 : Int64)) (q2 &&& (9223372036854775807 : Int64)))), .second, .unset, .unset] [])) rfl (hb hby at_35) t k) ?_
    refine own_s (B := T1.setTop (mkF m 40 #[.val (.long q1), .second, .val (.long q2), .second, .val (.long (q1 &&& (9223372036854775807 : Int64))), .second, .val (.long (q2 &&& (9223372036854775807 : Int64))), .second, .val (.long (afterS (q1 &&& (9223372036854775807 : Int64)) (q2 &&& (9223372036854775807 : Int64)))), .second, .val (.long (9223372036854775807 : Int64)), .second] [])) (fun t k => XS.lstore X1.here hx rfl (hb hby at_38) rfl (l' := #[.val (.long q1), .second, .val (.long q2), .second, .val (.long (q1 &&& (9223372036854775807 : Int64))), .second, .val (.long (q2 &&& (9223372036854775807 : Int64))), .second, .val (.long (afterS (q1 &&& (9223372036854775807 : Int64)) (q2 &&& (9223372036854775807 : Int64)))), .second, .val (.long (9223372036854775807 : Int64)), .second]) rfl k) ?_
    refine own_s (B := T1.setTop (mkF m 50 #[.val (.long q1), .second, .val (.long q2), .second, .val (.long (q1 &&& (9223372036854775807 : Int64))), .second, .val (.long (q2 &&& (9223372036854775807 : Int64))), .second, .val (.long (afterS (q1 &&& (9223372036854775807 : Int64)) (q2 &&& (9223372036854775807 : Int64)))), .second, .val (.long (9223372036854775807 : Int64)), .second] [])) (fun t k => XS.goto X1.here hx rfl (pc0 := 40) (pc' := 50) rfl (hb hby at_40) (by decide) (by decide) k) ?_
    refine own_s (B := T1.setTop (mkF m 52 #[.val (.long q1), .second, .val (.long q2), .second, .val (.long (q1 &&& (9223372036854775807 : Int64))), .second, .val (.long (q2 &&& (9223372036854775807 : Int64))), .second, .val (.long (afterS (q1 &&& (9223372036854775807 : Int64)) (q2 &&& (9223372036854775807 : Int64)))), .second, .val (.long (9223372036854775807 : Int64)), .second] [(.long (afterS (q1 &&& (9223372036854775807 : Int64)) (q2 &&& (9223372036854775807 : Int64))))])) (fun t k => XS.lload X1.here hx rfl (hb hby at_50) rfl k) ?_
    refine own_s (B := T1.setTop (mkF m 54 #[.val (.long q1), .second, .val (.long q2), .second, .val (.long (q1 &&& (9223372036854775807 : Int64))), .second, .val (.long (q2 &&& (9223372036854775807 : Int64))), .second, .val (.long (afterS (q1 &&& (9223372036854775807 : Int64)) (q2 &&& (9223372036854775807 : Int64)))), .second, .val (.long (9223372036854775807 : Int64)), .second] [(.long (9223372036854775807 : Int64)), (.long (afterS (q1 &&& (9223372036854775807 : Int64)) (q2 &&& (9223372036854775807 : Int64))))])) (fun t k => XS.lload X1.here hx rfl (hb hby at_52) rfl k) ?_
    refine own_s (B := T1.setTop (mkF m 55 #[.val (.long q1), .second, .val (.long q2), .second, .val (.long (q1 &&& (9223372036854775807 : Int64))), .second, .val (.long (q2 &&& (9223372036854775807 : Int64))), .second, .val (.long (afterS (q1 &&& (9223372036854775807 : Int64)) (q2 &&& (9223372036854775807 : Int64)))), .second, .val (.long (9223372036854775807 : Int64)), .second] [(.int (lcmpW (afterS (q1 &&& (9223372036854775807 : Int64)) (q2 &&& (9223372036854775807 : Int64))) (9223372036854775807 : Int64)))])) (fun t k => XS.lcmp X1.here hx rfl (hb hby at_54) rfl k) ?_
    refine own_s (B := T1.setTop (mkF m 58 #[.val (.long q1), .second, .val (.long q2), .second, .val (.long (q1 &&& (9223372036854775807 : Int64))), .second, .val (.long (q2 &&& (9223372036854775807 : Int64))), .second, .val (.long (afterS (q1 &&& (9223372036854775807 : Int64)) (q2 &&& (9223372036854775807 : Int64)))), .second, .val (.long (9223372036854775807 : Int64)), .second] [])) (fun t k => XS.ifNo X1.here hx rfl (hb hby at_55) rfl ((if0 _ _).trans (teq ((lw_eq (afterS (q1 &&& (9223372036854775807 : Int64)) (q2 &&& (9223372036854775807 : Int64))) (9223372036854775807 : Int64)).mpr (own_p1 q1 q2 hc32))).2) k) ?_
    refine own_s (B := T1.setTop (mkF m 59 #[.val (.long q1), .second, .val (.long q2), .second, .val (.long (q1 &&& (9223372036854775807 : Int64))), .second, .val (.long (q2 &&& (9223372036854775807 : Int64))), .second, .val (.long (afterS (q1 &&& (9223372036854775807 : Int64)) (q2 &&& (9223372036854775807 : Int64)))), .second, .val (.long (9223372036854775807 : Int64)), .second] [(.int (1 : Int32))])) (fun t k => XS.iconst X1.here hx rfl (hb hby at_58) k) ?_
    refine own_s (B := T1.setTop (mkF m 63 #[.val (.long q1), .second, .val (.long q2), .second, .val (.long (q1 &&& (9223372036854775807 : Int64))), .second, .val (.long (q2 &&& (9223372036854775807 : Int64))), .second, .val (.long (afterS (q1 &&& (9223372036854775807 : Int64)) (q2 &&& (9223372036854775807 : Int64)))), .second, .val (.long (9223372036854775807 : Int64)), .second] [(.int (1 : Int32))])) (fun t k => XS.goto X1.here hx rfl (pc0 := 59) (pc' := 63) rfl (hb hby at_59) (by decide) (by decide) k) ?_
    exact own_retB X1 hx hlk (t := .boolean) Bd.returns (by simp) (hb hby at_63) (by decide) (by decide) ⟨rfl, N1⟩
  · refine own_s (B := T1.setTop (mkF m 43 #[.val (.long q1), .second, .val (.long q2), .second, .val (.long (q1 &&& (9223372036854775807 : Int64))), .second, .val (.long (q2 &&& (9223372036854775807 : Int64))), .second, .val (.long (afterS (q1 &&& (9223372036854775807 : Int64)) (q2 &&& (9223372036854775807 : Int64)))), .second, .unset, .unset] [])) (fun t k => XS.ifYes X1.here hx rfl (pc0 := 32) (pc' := 43) rfl (hb hby at_32) rfl ((if0 _ _).trans (flt (fun q => hc32 ((lw_gt (q2 &&& (9223372036854775807 : Int64)) ((9223372036854775807 : Int64) - (q1 &&& (9223372036854775807 : Int64)))).mp q))).2.2.2) (by decide) (by decide) k) ?_
    refine own_s (B := T1.setTop (mkF m 45 #[.val (.long q1), .second, .val (.long q2), .second, .val (.long (q1 &&& (9223372036854775807 : Int64))), .second, .val (.long (q2 &&& (9223372036854775807 : Int64))), .second, .val (.long (afterS (q1 &&& (9223372036854775807 : Int64)) (q2 &&& (9223372036854775807 : Int64)))), .second, .unset, .unset] [(.long (q1 &&& (9223372036854775807 : Int64)))])) (fun t k => XS.lload X1.here hx rfl (hb hby at_43) rfl k) ?_
    refine own_s (B := T1.setTop (mkF m 47 #[.val (.long q1), .second, .val (.long q2), .second, .val (.long (q1 &&& (9223372036854775807 : Int64))), .second, .val (.long (q2 &&& (9223372036854775807 : Int64))), .second, .val (.long (afterS (q1 &&& (9223372036854775807 : Int64)) (q2 &&& (9223372036854775807 : Int64)))), .second, .unset, .unset] [(.long (q2 &&& (9223372036854775807 : Int64))), (.long (q1 &&& (9223372036854775807 : Int64)))])) (fun t k => XS.lload X1.here hx rfl (hb hby at_45) rfl k) ?_
    refine own_s (B := T1.setTop (mkF m 48 #[.val (.long q1), .second, .val (.long q2), .second, .val (.long (q1 &&& (9223372036854775807 : Int64))), .second, .val (.long (q2 &&& (9223372036854775807 : Int64))), .second, .val (.long (afterS (q1 &&& (9223372036854775807 : Int64)) (q2 &&& (9223372036854775807 : Int64)))), .second, .unset, .unset] [(.long ((q1 &&& (9223372036854775807 : Int64)) + (q2 &&& (9223372036854775807 : Int64))))])) (fun t k => XS.ladd X1.here hx rfl (hb hby at_47) rfl k) ?_
    refine own_s (B := T1.setTop (mkF m 50 #[.val (.long q1), .second, .val (.long q2), .second, .val (.long (q1 &&& (9223372036854775807 : Int64))), .second, .val (.long (q2 &&& (9223372036854775807 : Int64))), .second, .val (.long (afterS (q1 &&& (9223372036854775807 : Int64)) (q2 &&& (9223372036854775807 : Int64)))), .second, .val (.long ((q1 &&& (9223372036854775807 : Int64)) + (q2 &&& (9223372036854775807 : Int64)))), .second] [])) (fun t k => XS.lstore X1.here hx rfl (hb hby at_48) rfl (l' := #[.val (.long q1), .second, .val (.long q2), .second, .val (.long (q1 &&& (9223372036854775807 : Int64))), .second, .val (.long (q2 &&& (9223372036854775807 : Int64))), .second, .val (.long (afterS (q1 &&& (9223372036854775807 : Int64)) (q2 &&& (9223372036854775807 : Int64)))), .second, .val (.long ((q1 &&& (9223372036854775807 : Int64)) + (q2 &&& (9223372036854775807 : Int64)))), .second]) rfl k) ?_
    refine own_s (B := T1.setTop (mkF m 52 #[.val (.long q1), .second, .val (.long q2), .second, .val (.long (q1 &&& (9223372036854775807 : Int64))), .second, .val (.long (q2 &&& (9223372036854775807 : Int64))), .second, .val (.long (afterS (q1 &&& (9223372036854775807 : Int64)) (q2 &&& (9223372036854775807 : Int64)))), .second, .val (.long ((q1 &&& (9223372036854775807 : Int64)) + (q2 &&& (9223372036854775807 : Int64)))), .second] [(.long (afterS (q1 &&& (9223372036854775807 : Int64)) (q2 &&& (9223372036854775807 : Int64))))])) (fun t k => XS.lload X1.here hx rfl (hb hby at_50) rfl k) ?_
    refine own_s (B := T1.setTop (mkF m 54 #[.val (.long q1), .second, .val (.long q2), .second, .val (.long (q1 &&& (9223372036854775807 : Int64))), .second, .val (.long (q2 &&& (9223372036854775807 : Int64))), .second, .val (.long (afterS (q1 &&& (9223372036854775807 : Int64)) (q2 &&& (9223372036854775807 : Int64)))), .second, .val (.long ((q1 &&& (9223372036854775807 : Int64)) + (q2 &&& (9223372036854775807 : Int64)))), .second] [(.long ((q1 &&& (9223372036854775807 : Int64)) + (q2 &&& (9223372036854775807 : Int64)))), (.long (afterS (q1 &&& (9223372036854775807 : Int64)) (q2 &&& (9223372036854775807 : Int64))))])) (fun t k => XS.lload X1.here hx rfl (hb hby at_52) rfl k) ?_
    refine own_s (B := T1.setTop (mkF m 55 #[.val (.long q1), .second, .val (.long q2), .second, .val (.long (q1 &&& (9223372036854775807 : Int64))), .second, .val (.long (q2 &&& (9223372036854775807 : Int64))), .second, .val (.long (afterS (q1 &&& (9223372036854775807 : Int64)) (q2 &&& (9223372036854775807 : Int64)))), .second, .val (.long ((q1 &&& (9223372036854775807 : Int64)) + (q2 &&& (9223372036854775807 : Int64)))), .second] [(.int (lcmpW (afterS (q1 &&& (9223372036854775807 : Int64)) (q2 &&& (9223372036854775807 : Int64))) ((q1 &&& (9223372036854775807 : Int64)) + (q2 &&& (9223372036854775807 : Int64)))))])) (fun t k => XS.lcmp X1.here hx rfl (hb hby at_54) rfl k) ?_
    refine own_s (B := T1.setTop (mkF m 58 #[.val (.long q1), .second, .val (.long q2), .second, .val (.long (q1 &&& (9223372036854775807 : Int64))), .second, .val (.long (q2 &&& (9223372036854775807 : Int64))), .second, .val (.long (afterS (q1 &&& (9223372036854775807 : Int64)) (q2 &&& (9223372036854775807 : Int64)))), .second, .val (.long ((q1 &&& (9223372036854775807 : Int64)) + (q2 &&& (9223372036854775807 : Int64)))), .second] [])) (fun t k => XS.ifNo X1.here hx rfl (hb hby at_55) rfl ((if0 _ _).trans (teq ((lw_eq (afterS (q1 &&& (9223372036854775807 : Int64)) (q2 &&& (9223372036854775807 : Int64))) ((q1 &&& (9223372036854775807 : Int64)) + (q2 &&& (9223372036854775807 : Int64)))).mpr (own_p2 q1 q2 hc32))).2) k) ?_
    refine own_s (B := T1.setTop (mkF m 59 #[.val (.long q1), .second, .val (.long q2), .second, .val (.long (q1 &&& (9223372036854775807 : Int64))), .second, .val (.long (q2 &&& (9223372036854775807 : Int64))), .second, .val (.long (afterS (q1 &&& (9223372036854775807 : Int64)) (q2 &&& (9223372036854775807 : Int64)))), .second, .val (.long ((q1 &&& (9223372036854775807 : Int64)) + (q2 &&& (9223372036854775807 : Int64)))), .second] [(.int (1 : Int32))])) (fun t k => XS.iconst X1.here hx rfl (hb hby at_58) k) ?_
    refine own_s (B := T1.setTop (mkF m 63 #[.val (.long q1), .second, .val (.long q2), .second, .val (.long (q1 &&& (9223372036854775807 : Int64))), .second, .val (.long (q2 &&& (9223372036854775807 : Int64))), .second, .val (.long (afterS (q1 &&& (9223372036854775807 : Int64)) (q2 &&& (9223372036854775807 : Int64)))), .second, .val (.long ((q1 &&& (9223372036854775807 : Int64)) + (q2 &&& (9223372036854775807 : Int64)))), .second] [(.int (1 : Int32))])) (fun t k => XS.goto X1.here hx rfl (pc0 := 59) (pc' := 63) rfl (hb hby at_59) (by decide) (by decide) k) ?_
    exact own_retB X1 hx hlk (t := .boolean) Bd.returns (by simp) (hb hby at_63) (by decide) (by decide) ⟨rfl, N1⟩
set_option maxRecDepth 65536 in
set_option maxHeartbeats 40000000 in
theorem comes_1 {Post : Tables → Env → Array Value → State → Outcome → State → Prop} (hpost : ∀ tb e args s v u, (limb_1_1.after args s (.returned v) u = true ∧ limb_1_2.after args s (.returned v) u = true ∧ True) → FrameEnd s (.returned v) u (Jvm.fieldLocs frame_1_writes args s ++ Jvm.arrayLocs frame_1_arrays args s ++ Jvm.staticLocs frame_1_statics s) 0 0 → Post tb e args s (.returned v) u) :
    ArmFor flags0 classFile x code maxLocals ret World_1 tables_1 room_1 Calls_1 rest_1 Pre_1 Post := by
  intro l hfl _ _ p e ha hc hk s m args below hf hA hF happ hP
  obtain ⟨hcalls, hrest, hpre⟩ := hP
  obtain ⟨-, -, -, hnamed, -, -, -, hat⟩ := (Spec.applies_iff hf).mp happ
  obtain ⟨hg, hn⟩ := and_e (Cond.before_iff.mp (show (Jvm.Cond.and given_1 narrow_1).before args s = true from hpre))
  obtain ⟨g1a, g1b⟩ := and_e hg
  obtain ⟨g2a, g2b⟩ := and_e g1b
  obtain ⟨w0, w1, rfl⟩ : ∃ w0 w1 : Value, args = #[w0, w1] := by
    have hs : args.size = 2 := by simpa [Cond.value, given_1] using g1a
    obtain ⟨L⟩ := args
    match L, hs with
    | [w0, w1], _ => exact ⟨w0, w1, rfl⟩
  have hw := fun d (hd : d ∈ tables_1) => atoms_spec (ws := Jvm.Cond.code x code maxLocals ret :: tables_1) hat d (List.mem_cons_of_mem _ hd)
  have hfit : Fit s := fun {y c} hc i hi => by
    obtain ⟨ha, rfl⟩ := Array.getElem?_eq_some_iff.mp hc
    have q := List.all_eq_true.mp ((Array.all_eq_true_iff_forall_mem.mp hF) _ (Array.getElem_mem ha)) i (List.mem_range.mpr hi)
    simpa [Array.getElem?_eq_getElem hi] using q
  obtain ⟨i0, ei0⟩ := isL_v g2a
  obtain rfl : w0 = (.long i0) := Option.some.inj ei0
  obtain ⟨i1, ei1⟩ := isL_v g2b
  obtain rfl : w1 = (.long i1) := Option.some.inj ei1
  have S__assertionsDisabled := Sta.start (own_eqI hn) (Or.inr ⟨(hw _ (List.mem_of_getElem? (i := 3) rfl)), (hw _ (List.mem_of_getElem? (i := 6) rfl))⟩)
  obtain ⟨n, o, h1, h2, h3, _, L, rfl, ⟨rfl, N⟩, hq⟩ := rm0 l s _ hw tables_1 i0 i1  s.heap s.heap.size (Nat.le_refl _) S__assertionsDisabled p e ha hc hk s m _ below hf ((Spec.applies_iff_loose hf).mp happ).1 ⟨rfl, State.Warmed39.refl s, rfl⟩ trivial
  refine ⟨n, _, h1, h2, h3, hpost _ _ _ _ _ _ ⟨Cond.after_iff.mpr rfl, Cond.after_iff.mpr (eq_i res_at (Term.int_eval (1)) rfl), trivial⟩ ⟨hq.1, hq.2.1, (hq.2.2.sift fun y hy => Or.inr (N y hy)).mono (by decide) (by decide)⟩⟩
theorem main_1_1 : Claimed_1_1 := comes_1 fun _ _ _ _ _ _ h hF => ⟨h.1, hF⟩
theorem main_1_2 : Claimed_1_2 := comes_1 fun _ _ _ _ _ _ h hF => ⟨h.2.1, hF⟩
end Jvm.Pilot.@@N@@
namespace Jvm.Pilot.@@N@@
open Jvm Jvm.ClassFile Sem Op Lib Jvm.Free Jvm.Stand Jvm.Pilot.@@N@@.Jvm.D
/-! MADE BY PROGRAM (witnessworld.py) out of the Statement's table words and the real class files: 9 classes; the members and pool entries that the words name. The judged class is class 1, her method 1. -/
namespace start1
open Jvm.ClassFile
def u (s : String) : CpInfo := .utf8 (stringToUtf16 s)
/-- a pool by its gaps: so many unusable entries, then the entry; so many at the end -/
def gap : Nat → List CpInfo → List CpInfo
  | 0, r => r
  | n + 1, r => .unusable :: gap n r
def poolList (es : List (Nat × CpInfo)) (last : Nat) : List CpInfo := es.foldr (fun e r => gap e.1 (e.2 :: r)) (gap last [])
def pool (es : List (Nat × CpInfo)) (last : Nat) : Array CpInfo := ⟨poolList es last⟩
def fileOf (pool : Array CpInfo) (this : Nat) (attrs : Array Attribute := #[]) (ms : Array MethodInfo := #[]) (fl : Nat := 33) (sup : Nat := 0) (ifs : Array Nat := #[]) (fds : Array FieldInfo := #[]) : ClassFile where
  minorVersion := 0
  majorVersion := 65
  constantPool := pool
  accessFlags := fl
  thisClass := this
  superClass := sup
  interfaces := ifs
  fields := fds
  methods := ms
  attributes := attrs
def plain (name : String) (sup : Option ClassId) : Class where
  name := name
  kind := .ordinary
  loader := none
  accessFlags := 33
  super := sup
  interfaces := #[]
  cf := none
  fields := #[]
  methods := #[]
  instanceTypes := #[]
  staticTypes := #[]
  resolved := #[]
  callSites := []
  init := .initialized
  statics := none
  mirror := none

def pool0 : Array CpInfo := pool [(5, u "<init>"), (0, u "()V"), (1, .class_ 10), (1, u "java/lang/Object")] 113

def k0m0 : Method := { name := "<init>", desc := "()V", sig := { parameters := [], returnType := none }, accessFlags := 1, code := none }
/-- java/lang/Object -/
def k0 : Class := { plain "java/lang/Object" none with
  accessFlags := 33
  interfaces := #[]
  cf := some (fileOf pool0 8 #[] #[{ accessFlags := 1, nameIndex := 5, descriptorIndex := 6, attributes := #[] }] 33 0 #[] #[])
  fields := #[]
  methods := #[k0m0]
  instanceTypes := #[]
  staticTypes := #[]
  resolved := Array.replicate 124 none
  statics := none }

def pool1 : Array CpInfo := pool [(2, .class_ 4), (1, u "java/lang/Object"), (0, u "<init>"), (0, u "()V"), (2, .long 9223372036854775807), (1, .methodref 12 13), (0, .class_ 14), (0, .nameAndType 15 16), (0, u "com/example/spillway/spillway/core/Moments"), (0, u "after"), (0, u "(JJ)J"), (0, .class_ 18), (0, u "com/example/spillway/spillway/core/MomentsAfterPinLaw"), (2, u "law"), (0, u "(JJ)Z")] 3

def k1m0 : Method := { name := "<init>", desc := "()V", sig := { parameters := [], returnType := none }, accessFlags := 2, code := none }
def k1c1 : Code := { maxStack := 6, maxLocals := 12, code := code, exceptionTable := #[], attributes := #[] }
def k1m1 : Method := { name := "law", desc := "(JJ)Z", sig := { parameters := [.long, .long], returnType := some .boolean }, accessFlags := 9, code := some k1c1 }
/-- com/example/spillway/spillway/core/MomentsAfterPinLaw -/
def k1 : Class := { plain "com/example/spillway/spillway/core/MomentsAfterPinLaw" (some 0) with
  accessFlags := 49
  interfaces := #[]
  cf := some (fileOf pool1 17 #[] #[{ accessFlags := 2, nameIndex := 5, descriptorIndex := 6, attributes := #[] }, { accessFlags := 9, nameIndex := 21, descriptorIndex := 22, attributes := #[] }] 49 2 #[] #[])
  fields := #[]
  methods := #[k1m0, k1m1]
  instanceTypes := #[]
  staticTypes := #[]
  resolved := Array.replicate 26 none
  statics := none }

def pool2 : Array CpInfo := pool [(4, .class_ 6), (1, u "java/lang/Object"), (0, u "<init>"), (0, u "()V"), (0, .fieldref 10 11), (0, .class_ 12), (0, .nameAndType 13 14), (0, u "com/example/spillway/spillway/core/Moments"), (0, u "$assertionsDisabled"), (0, u "Z"), (9, .long 9223372036854775807), (25, u "END"), (0, u "J"), (3, u "after"), (0, u "(JJ)J")] 23

def k2m0 : Method := { name := "<init>", desc := "()V", sig := { parameters := [], returnType := none }, accessFlags := 2, code := none }
def k2c1 : Code := { maxStack := 6, maxLocals := 6, code := prog_168_method_2_code, exceptionTable := #[], attributes := #[] }
def k2m1 : Method := { name := "after", desc := "(JJ)J", sig := { parameters := [.long, .long], returnType := some .long }, accessFlags := 8, code := some k2c1 }
/-- com/example/spillway/spillway/core/Moments -/
def k2 : Class := { plain "com/example/spillway/spillway/core/Moments" (some 0) with
  accessFlags := 48
  interfaces := #[]
  cf := some (fileOf pool2 10 #[] #[{ accessFlags := 2, nameIndex := 7, descriptorIndex := 8, attributes := #[] }, { accessFlags := 8, nameIndex := 55, descriptorIndex := 56, attributes := #[] }] 48 4 #[] #[{ accessFlags := 24, nameIndex := 50, descriptorIndex := 51, attributes := #[] }, { accessFlags := 4120, nameIndex := 13, descriptorIndex := 14, attributes := #[] }])
  fields := #[{ name := "END", type := .long, accessFlags := 24, slot := 0, constantValue := 0 }, { name := "$assertionsDisabled", type := .boolean, accessFlags := 4120, slot := 1, constantValue := 0 }]
  methods := #[k2m0, k2m1]
  instanceTypes := #[]
  staticTypes := #[.long, .boolean]
  resolved := Array.replicate 80 none
  statics := some 0 }

def pool3 : Array CpInfo := pool [(1, u "java/lang/Cloneable"), (0, .class_ 1), (0, u "java/lang/Object"), (0, .class_ 3)] 3

/-- java/lang/Cloneable -/
def k3 : Class := { plain "java/lang/Cloneable" (some 0) with
  accessFlags := 1537
  interfaces := #[]
  cf := some (fileOf pool3 2 #[] #[] 1537 4 #[] #[])
  fields := #[]
  methods := #[]
  instanceTypes := #[]
  staticTypes := #[]
  resolved := Array.replicate 8 none
  statics := none }

def pool4 : Array CpInfo := pool [(1, u "java/io/Serializable"), (0, .class_ 1), (0, u "java/lang/Object"), (0, .class_ 3)] 3

/-- java/io/Serializable -/
def k4 : Class := { plain "java/io/Serializable" (some 0) with
  accessFlags := 1537
  interfaces := #[]
  cf := some (fileOf pool4 2 #[] #[] 1537 4 #[] #[])
  fields := #[]
  methods := #[]
  instanceTypes := #[]
  staticTypes := #[]
  resolved := Array.replicate 8 none
  statics := none }

/-- the primitive byte -/
def k5 : Class := { plain "byte" none with kind := .primitive 'B', accessFlags := 0x411 }
/-- [B -/
def k6 : Class := { plain "[B" (some 0) with kind := .array 5 .byte, interfaces := #[3, 4], accessFlags := 1041 }

/-- the primitive int -/
def k7 : Class := { plain "int" none with kind := .primitive 'I', accessFlags := 0x411 }
/-- [I -/
def k8 : Class := { plain "[I" (some 0) with kind := .array 7 .int, interfaces := #[3, 4], accessFlags := 1041 }

def heap : Heap := #[{ cls := 2, slots := #[.long 0, .int 1], vm := .statics 2 }]
def classes : Array Class := #[k0, k1, k2, k3, k4, k5, k6, k7, k8]
def interned : List (Array UInt16 × Addr) := []
def slotsUsed : Nat := 2
def theMethod : MethodId := ⟨1, 1⟩
def args0 : Array Value := #[.long 5, .long 5]
def aboutOver (below : List Frame) : State where
  vm := { classes := classes, interned := interned.toArray }
  heap := heap
  slotsUsed := slotsUsed
  threads := #[{ frames := .invoking theMethod args0 :: below }]
def below0 : List Frame := [.native { method := ⟨0, 0⟩, args := #[] }]
def about1 : State := aboutOver below0
def p0 : Program := .bare "" "" ""
def e0 : Env := launch0.env 0 0 0
theorem w_frames : about1.frames = Frame.invoking theMethod args0 :: below0 := rfl
set_option maxRecDepth 65536 in
theorem w_args : argsFit about1.vm theMethod args0 = true := by decide +kernel
set_option maxRecDepth 65536 in
theorem w_heap : heapFits about1 = true := by decide +kernel
set_option maxRecDepth 65536 in
theorem w_runnable : about1.curStatus? = some .runnable := by decide +kernel
set_option maxRecDepth 65536 in
theorem w_alone : about1.alone = true := by decide +kernel
set_option maxRecDepth 65536 in
theorem w_named : about1.methodNamed? x = some theMethod := by decide +kernel
set_option maxRecDepth 65536 in
theorem w_hears : about1.hears theMethod below0 = true := by decide +kernel
set_option maxRecDepth 65536 in
theorem w_ripe : about1.ripe theMethod args0 below0 = true := by decide +kernel
theorem w_running : about1.status = .running := rfl
set_option maxRecDepth 65536 in
theorem w_room : about1.hasRoom e0.platform room_1 = true :=
  launch0.hasRoom_least _ room_1 (by decide +kernel) (by decide +kernel) (by decide +kernel) (by decide +kernel) (by decide +kernel) (by decide +kernel)
theorem allAtoms_all (ts : List Jvm.Cond) (a : Array Jvm.Value) (st : Jvm.State) : (allAtoms ts).before a st = ts.all (fun c => c.before a st) := by
  induction ts with
  | nil => rfl
  | cons c t ih =>
    show (Jvm.Cond.and c (allAtoms t)).before a st = _
    rw [Jvm.Cond.before_and, ih, List.all_cons]
def words1 : List Jvm.Cond := Jvm.Cond.code x code maxLocals ret :: tables_1
/-- a 'code' word, met by the world's own term for the bytes: nothing is compared byte by byte -/
theorem code_word {y : MethodName} {bytes : ByteArray} {mx : Nat} {rt : Option FieldType} {a : Array Value} {s : State} {m : MethodId} {meth : Method} {c : Code} (h1 : s.methodNamed? y = some m) (h2 : s.vm.method? m = some meth) (h3 : meth.code = some c) (h4 : c.code = bytes)
    (h5 : (c.maxLocals == mx && c.exceptionTable.isEmpty && decide (c.maxStack ≤ mostOperands) && decide (meth.sig.returnType = rt) && !meth.locks && decide (parseMethodDescriptor y.desc = some meth.sig)) = true) : (Jvm.Cond.code y bytes mx rt).before a s = true := by
  simp only [Bool.and_eq_true, beq_iff_eq, Bool.not_eq_true', decide_eq_true_eq] at h5
  obtain ⟨⟨⟨⟨⟨g1, g2⟩, g3⟩, g4⟩, g5⟩, g6⟩ := h5
  simp [Cond.before, Cond.holds, Cond.value, h1, h2, h3, h4, g1, g2, g3, g4, g5, g6]
def isCode : Jvm.Cond → Bool
  | .code _ _ _ _ => true
  | _ => false
theorem all_split {L : List Jvm.Cond} {P : Jvm.Cond → Bool} (h1 : L.all (fun c => isCode c || P c) = true) (h2 : ∀ c ∈ L.filter isCode, P c = true) : L.all P = true := by
  refine List.all_eq_true.mpr fun c hc => ?_
  have h := List.all_eq_true.mp h1 c hc
  rcases Bool.eq_false_or_eq_true (isCode c) with hi | hi
  · exact h2 c (List.mem_filter.mpr ⟨hc, hi⟩)
  · simpa [hi] using h
set_option maxRecDepth 65536 in
theorem w_c0 : (Jvm.Cond.code x code maxLocals ret).before args0 about1 = true := code_word (m := ⟨1, 1⟩) (meth := k1m1) (c := k1c1) (by decide +kernel) rfl rfl rfl (by decide +kernel)
set_option maxRecDepth 65536 in
theorem w_c1 : (Jvm.Cond.code ({ cls := "com/example/spillway/spillway/core/Moments", name := "after", desc := "(JJ)J" } : Jvm.MethodName) prog_168_method_2_code (6 : Nat) (Option.some Jvm.ClassFile.FieldType.long)).before args0 about1 = true := code_word (m := ⟨2, 1⟩) (meth := k2m1) (c := k2c1) (by decide +kernel) rfl rfl rfl (by decide +kernel)
def codes1 : List Jvm.Cond := [Jvm.Cond.code x code maxLocals ret, Jvm.Cond.code ({ cls := "com/example/spillway/spillway/core/Moments", name := "after", desc := "(JJ)J" } : Jvm.MethodName) prog_168_method_2_code (6 : Nat) (Option.some Jvm.ClassFile.FieldType.long)]
set_option maxRecDepth 65536 in
theorem codes_eq : words1.filter isCode = codes1 := rfl
theorem w_codes : ∀ c ∈ words1.filter isCode, c.before args0 about1 = true := by
  rw [codes_eq]
  intro c hc
  simp only [codes1, List.mem_cons, List.not_mem_nil, or_false] at hc
  rcases hc with rfl | rfl
  · exact w_c0
  · exact w_c1
set_option maxRecDepth 65536 in
theorem w_t1 : words1.all (fun c => isCode c || c.before args0 about1) = true := by decide +kernel
theorem w_tables : (allAtoms (Jvm.Cond.code x code maxLocals ret :: tables_1)).before args0 about1 = true := by
  rw [allAtoms_all]
  show words1.all (fun c => c.before args0 about1) = true
  refine all_split ?_ w_codes
  rw [w_t1]
set_option maxRecDepth 65536 in
theorem w_case : (Jvm.Cond.and given_1 narrow_1).before args0 about1 = true := by decide +kernel
theorem w_applies : (headSpec (Jvm.Cond.code x code maxLocals ret :: tables_1) room_1).applies x e0.platform about1 = true :=
  (Spec.applies_iff w_frames).mpr ⟨w_running, w_runnable, w_alone, w_named, w_hears, w_ripe, w_room, w_tables⟩
theorem atStart : AtStart classFile x code maxLocals ret World_1 tables_1 room_1 Calls_1 rest_1 Pre_1 launch0 p0 e0 about1 theMethod args0 below0 :=
  ⟨lists_1, trivial, launch0.admits_env _ _ _, launch0.least_env, fairChoices_fair.cas, fairChoices_fair.clock, w_frames, w_args, w_heap, w_applies, trivial, trivial, w_case⟩
end start1
theorem witness_1 : WitnessClaimed_1 := ⟨start1.p0, start1.e0, start1.about1, start1.theMethod, start1.args0, start1.below0, start1.atStart⟩
end Jvm.Pilot.@@N@@
