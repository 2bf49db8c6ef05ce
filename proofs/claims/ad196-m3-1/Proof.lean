import JvmDerived
import JvmDerived.Pilot.@@N@@Statement
import JvmDerived.Pilot.@@N@@Code
set_option linter.unusedVariables false
set_option linter.unusedSimpArgs false
@@BLOCK:NumsL.lean.txt@@
namespace Jvm.Pilot.@@N@@
open Jvm Jvm.ClassFile Sem Op Lib Jvm.Free Jvm.Stand Jvm.LawKit Jvm.RoadKit Bundle Jvm.Pilot.@@N@@.Jvm.D
section OwnKit
variable {p : Program} {l : Launch} {e : Env} {R : Room} {s : State} {m : MethodId} {args : Array Value} {below : List Frame} {meth : Method} {c : Code} {T : State} {locs : List Loc} {cells slots : Nat}
/-- from U the run comes to an end of which K speaks -/
def Go (p : Program) (e : Env) (below : List Frame) (K : Outcome → State → Prop) (U : State) : Prop := ∃ s₂ o, Steps p.tables e below U s₂ ∧ s₂.status = .running ∧ Ended s₂ below o ∧ K o s₂
theorem own_s {K : Outcome → State → Prop} {A B : State} (h : ∀ t, Steps p.tables e below B t → Steps p.tables e below A t) (g : Go p e below K B) : Go p e below K A := by
  obtain ⟨s₂, o, h1, h2⟩ := g
  exact ⟨s₂, o, h _ h1, h2⟩
def Kf (s : State) (Q : Option Value → Heap → List Loc → Prop) (C N : Nat) (o : Outcome) (U : State) : Prop := ∃ v L, o = .returned v ∧ Q v U.heap L ∧ FrameEnd s o U L C N
theorem own_ret (X : Stand p l e R s m args below meth c T locs cells slots) (hx : p.tables.exec = Jvm.exec) (hlk : meth.locks = false) {pc : Nat} {Ls : Array Slot} {w : Value} {t : FieldType} {i : Instr} {rest : List Value} (hret : meth.sig.returnType = some t) (hn : narrow t w = w)
    (hi : (i = .ireturn ∧ (t = .int ∨ t = .boolean ∨ t = .byte ∨ t = .char ∨ t = .short) ∧ ∃ z, w = .int z) ∨ (i = .lreturn ∧ t = .long ∧ ∃ z, w = .long z) ∨ (i = .dreturn ∧ t = .double ∧ ∃ z, w = .double z) ∨ (i = .freturn ∧ t = .float ∧ ∃ z, w = .float z) ∨ (i = .areturn ∧ t.isReference = true ∧ w.isRef = true))
    (hd : decode c.code pc = .ok (i, 1)) {Q : Option Value → Heap → List Loc → Prop} {C N : Nat} (hc : cells ≤ C) (hs : slots ≤ N) (hQ : Q (some w) T.heap locs) : Go p e below (Kf s Q C N) (T.setTop (mkF m pc Ls (w :: rest))) := by
  obtain ⟨fs, hr, hrun, hended, hW, hsame⟩ := X.leave (v := some w) (fun h => by rw [hret] at h; cases h) hlk
  exact ⟨_, _, retOut X hx hret hn hi hd hr, hrun, hended, _, _, rfl, hQ, ⟨_, rfl⟩, hW, hsame.mono hc hs⟩
theorem own_retI (X : Stand p l e R s m args below meth c T locs cells slots) (hx : p.tables.exec = Jvm.exec) (hlk : meth.locks = false) {pc : Nat} {Ls : Array Slot} {z : Int32} {rest : List Value} (hret : meth.sig.returnType = some .int)
    (hd : decode c.code pc = .ok (.ireturn, 1)) {Q : Option Value → Heap → List Loc → Prop} {C N : Nat} (hc : cells ≤ C) (hs : slots ≤ N) (hQ : Q (some (.int z)) T.heap locs) : Go p e below (Kf s Q C N) (T.setTop (mkF m pc Ls (.int z :: rest))) :=
  own_ret X hx hlk hret rfl (Or.inl ⟨rfl, Or.inl rfl, _, rfl⟩) hd hc hs hQ
theorem own_retJ (X : Stand p l e R s m args below meth c T locs cells slots) (hx : p.tables.exec = Jvm.exec) (hlk : meth.locks = false) {pc : Nat} {Ls : Array Slot} {z : Int64} {rest : List Value} (hret : meth.sig.returnType = some .long)
    (hd : decode c.code pc = .ok (.lreturn, 1)) {Q : Option Value → Heap → List Loc → Prop} {C N : Nat} (hc : cells ≤ C) (hs : slots ≤ N) (hQ : Q (some (.long z)) T.heap locs) : Go p e below (Kf s Q C N) (T.setTop (mkF m pc Ls (.long z :: rest))) :=
  own_ret X hx hlk hret rfl (Or.inr (Or.inl ⟨rfl, rfl, _, rfl⟩)) hd hc hs hQ
theorem own_retR (X : Stand p l e R s m args below meth c T locs cells slots) (hx : p.tables.exec = Jvm.exec) (hlk : meth.locks = false) {pc : Nat} {Ls : Array Slot} {w : Value} {t : FieldType} {rest : List Value} (hret : meth.sig.returnType = some t) (ht : t.isReference = true) (hw : w.isRef = true)
    (hd : decode c.code pc = .ok (.areturn, 1)) {Q : Option Value → Heap → List Loc → Prop} {C N : Nat} (hc : cells ≤ C) (hs : slots ≤ N) (hQ : Q (some w) T.heap locs) : Go p e below (Kf s Q C N) (T.setTop (mkF m pc Ls (w :: rest))) :=
  own_ret X hx hlk hret (by cases t <;> simp [FieldType.isReference] at ht <;> cases w <;> simp [Value.isRef] at hw <;> rfl) (Or.inr (Or.inr (Or.inr (Or.inr ⟨rfl, ht, hw⟩)))) hd hc hs hQ
theorem own_retB (X : Stand p l e R s m args below meth c T locs cells slots) (hx : p.tables.exec = Jvm.exec) (hlk : meth.locks = false) {pc : Nat} {Ls : Array Slot} {z : Int32} {t : FieldType} {rest : List Value} (hret : meth.sig.returnType = some t) (ht : t = .boolean ∨ t = .byte ∨ t = .char ∨ t = .short)
    (hd : decode c.code pc = .ok (.ireturn, 1)) {Q : Option Value → Heap → List Loc → Prop} {C N : Nat} (hc : cells ≤ C) (hs : slots ≤ N) (hQ : Q (some (.int (nar t z))) T.heap locs) : Go p e below (Kf s Q C N) (T.setTop (mkF m pc Ls (.int z :: rest))) := by
  obtain ⟨fs, hr, hrun, hended, hW, hsame⟩ := X.leave (v := some (.int (nar t z))) (fun h => by rw [hret] at h; cases h) hlk
  exact ⟨_, _, retN X hx hret ht hd hr, hrun, hended, _, _, rfl, hQ, ⟨_, rfl⟩, hW, hsame.mono hc hs⟩
theorem own_retV (X : Stand p l e R s m args below meth c T locs cells slots) (hx : p.tables.exec = Jvm.exec) (hlk : meth.locks = false) {pc : Nat} {Ls : Array Slot} (hret : meth.sig.returnType = none)
    (hd : decode c.code pc = .ok (.return_, 1)) {Q : Option Value → Heap → List Loc → Prop} {C N : Nat} (hc : cells ≤ C) (hs : slots ≤ N) (hQ : Q none T.heap locs) : Go p e below (Kf s Q C N) (T.setTop (mkF m pc Ls [])) := by
  obtain ⟨fs, hr, hrun, hended, hW, hsame⟩ := X.leave (v := none) (fun _ => rfl) hlk
  exact ⟨_, _, X.returnOut hx hret hd hr, hrun, hended, _, _, rfl, hQ, ⟨_, rfl⟩, hW, hsame.mono hc hs⟩
/-- a truth as Java's int -/
abbrev bz (P : Prop) [Decidable P] : Int32 := if P then 1 else 0
theorem own_t {P : Prop} [Decidable P] (h : P) : some (Value.int (nar .boolean (1 : Int32))) = some (Value.int (bz P)) := by rw [bz, if_pos h]; rfl
theorem own_f {P : Prop} [Decidable P] (h : ¬ P) : some (Value.int (nar .boolean (0 : Int32))) = some (Value.int (bz P)) := by rw [bz, if_neg h]; rfl
theorem own_i {a b : Int32} (h : a = b) : some (Value.int a) = some (Value.int b) := by rw [h]
theorem own_j {a b : Int64} (h : a = b) : some (Value.long a) = some (Value.long b) := by rw [h]
theorem own_r {a b : Addr} (h : a = b) : some (Value.ref a) = some (Value.ref b) := by rw [h]
theorem own_eqI {args : Array Value} {first s : State} {o : Option Outcome} {idx : List Nat} {t : Term} {k : Int32} (h : (Jvm.Cond.eq t (Term.int k)).value args first o s idx = some true) : t.eval args first o idx s = some (.int k) := by
  simp only [Cond.value, Term.eval] at h
  cases ht : t.eval args first o idx s with
  | none => simp [ht] at h
  | some x => cases x <;> simp [ht] at h ⊢; exact h
end OwnKit
theorem own_bzc {P Q : Prop} [Decidable P] [Decidable Q] (h : P ↔ Q) : bz P = bz Q := by
  by_cases q : Q
  · rw [bz, bz, if_pos q, if_pos (h.mpr q)]
  · rw [bz, bz, if_neg q, if_neg (fun r => q (h.mp r))]
theorem own_b1 {P : Prop} [Decidable P] (h : P) : bz P = (1 : Int32) := if_pos h
theorem own_b0 {P : Prop} [Decidable P] (h : ¬ P) : bz P = (0 : Int32) := if_neg h
theorem own_bz0 {P : Prop} [Decidable P] {z : Int32} (e : z = bz P) (h : z = (0 : Int32)) : ¬ P := fun q => by rw [e, bz, if_pos q] at h; revert h; decide
theorem own_bz1 {P : Prop} [Decidable P] {z : Int32} (e : z = bz P) (h : ¬ z = (0 : Int32)) : P := by
  by_cases q : P
  · exact q
  · rw [e, bz, if_neg q] at h; exact absurd rfl h
theorem own_nb (P : Prop) [Decidable P] : nar .boolean (bz P) = bz P := by
  by_cases q : P
  · rw [bz, if_pos q]; rfl
  · rw [bz, if_neg q]; rfl
abbrev isU (n : Int32) : Prop := ¬ n < (65 : Int32) ∧ ¬ (90 : Int32) < n
abbrev isL (n : Int32) : Prop := ¬ n < (97 : Int32) ∧ ¬ (122 : Int32) < n
abbrev isD (n : Int32) : Prop := ¬ n < (48 : Int32) ∧ ¬ (57 : Int32) < n
abbrev inR (d f n : Int64) : Prop := ¬ (d - f) < (0 : Int64) ∧ (d - f) < n
theorem own_rr (n a b : Int32) (f c : Int64) (hf : f.toInt = a.toInt) (ha : -1000 < a.toInt ∧ a.toInt < 1000) (hc : c.toInt = b.toInt - a.toInt + 1) : (¬ n < a ∧ ¬ b < n) ↔ inR n.toInt64 f c := by
  have b1 := n.le_toInt
  have b2 := n.toInt_lt
  have e1 : n.toInt64.toInt = n.toInt := Jvm.Kit.i64_of_i32 n
  have e2 : (n.toInt64 - f).toInt = n.toInt64.toInt - f.toInt := Jvm.Kit.i64_sub (by omega) (by omega)
  unfold inR
  rw [Int32.lt_iff_toInt_lt, Int32.lt_iff_toInt_lt, Int64.lt_iff_toInt_lt, Int64.lt_iff_toInt_lt, e2, e1, hf, hc, Int64.toInt_zero]
  omega
theorem iU (n : Int32) : isU n ↔ inR n.toInt64 (65 : Int64) (26 : Int64) := own_rr n 65 90 65 26 (by decide) (by decide) (by decide)
theorem iL (n : Int32) : isL n ↔ inR n.toInt64 (97 : Int64) (26 : Int64) := own_rr n 97 122 97 26 (by decide) (by decide) (by decide)
theorem iD (n : Int32) : isD n ↔ inR n.toInt64 (48 : Int64) (10 : Int64) := own_rr n 48 57 48 10 (by decide) (by decide) (by decide)
def ctS (o n : Int32) : Int32 := if o = (0 : Int32) then bz (isU n) else if o = (1 : Int32) then bz (isL n) else if o = (2 : Int32) then bz (isU n ∨ isL n) else if o = (3 : Int32) then bz (isD n) else bz (¬ isU n ∧ ¬ isL n ∧ ¬ isD n)
theorem ct0 (n : Int32) : ctS (0 : Int32) n = bz (isU n) := rfl
theorem ct1 (n : Int32) : ctS (1 : Int32) n = bz (isL n) := rfl
theorem ct2 (n : Int32) : ctS (2 : Int32) n = bz (isU n ∨ isL n) := rfl
theorem ct3 (n : Int32) : ctS (3 : Int32) n = bz (isD n) := rfl
theorem ct4 (n : Int32) : ctS (4 : Int32) n = bz (¬ isU n ∧ ¬ isL n ∧ ¬ isD n) := rfl
theorem d1_0 : decode method_2_code 0 = .ok (.lload_n 0, 1) := by decide +kernel
theorem d1_1 : decode method_2_code 1 = .ok (.lload_n 2, 1) := by decide +kernel
theorem d1_2 : decode method_2_code 2 = .ok (.lsub, 1) := by decide +kernel
theorem d1_3 : decode method_2_code 3 = .ok (.lstore 6, 2) := by decide +kernel
theorem d1_5 : decode method_2_code 5 = .ok (.lload 6, 2) := by decide +kernel
theorem d1_7 : decode method_2_code 7 = .ok (.lconst 0, 1) := by decide +kernel
theorem d1_8 : decode method_2_code 8 = .ok (.lcmp, 1) := by decide +kernel
theorem d1_9 : decode method_2_code 9 = .ok (.ifCond .lt 15, 3) := by decide +kernel
theorem d1_12 : decode method_2_code 12 = .ok (.lload 6, 2) := by decide +kernel
theorem d1_14 : decode method_2_code 14 = .ok (.lload 4, 2) := by decide +kernel
theorem d1_16 : decode method_2_code 16 = .ok (.lcmp, 1) := by decide +kernel
theorem d1_17 : decode method_2_code 17 = .ok (.ifCond .ge 7, 3) := by decide +kernel
theorem d1_20 : decode method_2_code 20 = .ok (.iconst 1, 1) := by decide +kernel
theorem d1_21 : decode method_2_code 21 = .ok (.goto 4, 3) := by decide +kernel
theorem d1_24 : decode method_2_code 24 = .ok (.iconst 0, 1) := by decide +kernel
theorem d1_25 : decode method_2_code 25 = .ok (.ireturn, 1) := by decide +kernel
theorem pn_0 : plainName "com/example/rekey/rekey/CharacterClassContainsPinLaw" = true := by first | (simp [plainName, overriddenIn]; done) | decide +kernel
theorem ef_1 (m : MethodId) (x0 : Int64) (x1 : Int64) (x2 : Int64) : entryFrame m #[(.long x0), (.long x1), (.long x2)] 8 = mkF m 0 #[.val (.long x0), .second, .val (.long x1), .second, .val (.long x2), .second, .unset, .unset] [] := by first | (simp [entryFrame, mkF, argsToLocals, Value.category]; done) | rfl
def Q1 (Z : State) (q1 : Int64) (q2 : Int64) (q3 : Int64) (h0 : Heap) (n0 : Nat) (v : Option Value) (h : Heap) (L : List Loc) : Prop := v = some (.int (bz (inR q1 q2 q3))) ∧ Fr n0 L ∧ h = h0
set_option maxRecDepth 65536 in
set_option maxHeartbeats 40000000 in
theorem rm1 (l : Launch) (Z : State) (a0 : Array Value) (hw : ∀ d ∈ tables_1, d.before a0 Z = true) (ws : List Jvm.Cond) (q1 : Int64) (q2 : Int64) (q3 : Int64) (h0 : Heap) (n0 : Nat) (Z0 : n0 ≤ h0.size) :
    MetFree l (⟨"com/example/rekey/rekey/CharacterClassContainsPinLaw", "inRange", "(JJJ)Z"⟩ : MethodName) (head1 (Jvm.Cond.code (⟨"com/example/rekey/rekey/CharacterClassContainsPinLaw", "inRange", "(JJJ)Z"⟩ : MethodName) method_2_code 8 (some .boolean) :: ws) ({ frames := 0, cells := 0, slots := 0, locals := 0 } : Room)) (fun a U => a = #[(.long q1), (.long q2), (.long q3)] ∧ Z.Warmed39 U.vm ∧ U.heap = h0) (fun _ _ _ _ _ => True) (fun _ U o U' => ∃ v L, o = .returned v ∧ Q1 Z q1 q2 q3 h0 n0 v U'.heap L ∧ FrameEnd U o U' L ({ frames := 0, cells := 0, slots := 0, locals := 0 } : Room).cells ({ frames := 0, cells := 0, slots := 0, locals := 0 } : Room).slots) := by
  refine MetFree.of_bodySF (plainFor_of_name pn_0) hisR ?_
  intro p e s m args below meth c s₁ Bd hml0 hP hK
  obtain ⟨rfl, hZ, hh⟩ := hP
  have hx := Bd.exec
  have hby := Bd.bytes
  have hlk : meth.locks = false := BodyLoose.notSynchronized Bd
  have hml : c.maxLocals = 8 := hml0
  have hown : s.vm.findClass "com/example/rekey/rekey/CharacterClassContainsPinLaw" = some m.cls := findClass_of_methodNamed Bd.named
  have hnm := (name_of_methodNamed Bd.named Bd.method).1
  have X0 : Stand p l e ({ frames := 0, cells := 0, slots := 0, locals := 0 } : Room) s m #[(.long q1), (.long q2), (.long q3)] below meth c s₁ [] 0 0 := Stand.of_body Bd
  have e0 : s₁.heap = h0 := by rw [← hh, Bd.state]; rfl
  have N0 := Fr.nil n0
  show Go p e below (Kf s (Q1 Z q1 q2 q3 h0 n0) ({ frames := 0, cells := 0, slots := 0, locals := 0 } : Room).cells ({ frames := 0, cells := 0, slots := 0, locals := 0 } : Room).slots) (s₁.setTop (entryFrame m #[(.long q1), (.long q2), (.long q3)] 8))
  refine own_s (B := s₁.setTop (mkF m 0 #[.val (.long q1), .second, .val (.long q2), .second, .val (.long q3), .second, .unset, .unset] [])) (fun t k => castTop (ef_1 m q1 q2 q3) k) ?_
  refine own_s (B := s₁.setTop (mkF m 1 #[.val (.long q1), .second, .val (.long q2), .second, .val (.long q3), .second, .unset, .unset] [(.long q1)])) (fun t k => XS.lloadN X0.here hx rfl (hb hby d1_0) rfl k) ?_
  refine own_s (B := s₁.setTop (mkF m 2 #[.val (.long q1), .second, .val (.long q2), .second, .val (.long q3), .second, .unset, .unset] [(.long q2), (.long q1)])) (fun t k => XS.lloadN X0.here hx rfl (hb hby d1_1) rfl k) ?_
  refine own_s (B := s₁.setTop (mkF m 3 #[.val (.long q1), .second, .val (.long q2), .second, .val (.long q3), .second, .unset, .unset] [(.long (q1 - q2))])) (fun t k => XS.lsub X0.here hx rfl (hb hby d1_2) rfl k) ?_
  refine own_s (B := s₁.setTop (mkF m 5 #[.val (.long q1), .second, .val (.long q2), .second, .val (.long q3), .second, .val (.long (q1 - q2)), .second] [])) (fun t k => XS.lstore X0.here hx rfl (hb hby d1_3) rfl (l' := #[.val (.long q1), .second, .val (.long q2), .second, .val (.long q3), .second, .val (.long (q1 - q2)), .second]) rfl k) ?_
  refine own_s (B := s₁.setTop (mkF m 7 #[.val (.long q1), .second, .val (.long q2), .second, .val (.long q3), .second, .val (.long (q1 - q2)), .second] [(.long (q1 - q2))])) (fun t k => XS.lload X0.here hx rfl (hb hby d1_5) rfl k) ?_
  refine own_s (B := s₁.setTop (mkF m 8 #[.val (.long q1), .second, .val (.long q2), .second, .val (.long q3), .second, .val (.long (q1 - q2)), .second] [(.long (0 : Int64)), (.long (q1 - q2))])) (fun t k => XS.lconst X0.here hx rfl (hb hby d1_7) k) ?_
  refine own_s (B := s₁.setTop (mkF m 9 #[.val (.long q1), .second, .val (.long q2), .second, .val (.long q3), .second, .val (.long (q1 - q2)), .second] [(.int (lcmpW (q1 - q2) (0 : Int64)))])) (fun t k => XS.lcmp X0.here hx rfl (hb hby d1_8) rfl k) ?_
  by_cases hc9 : (q1 - q2) < (0 : Int64)
  · refine own_s (B := s₁.setTop (mkF m 24 #[.val (.long q1), .second, .val (.long q2), .second, .val (.long q3), .second, .val (.long (q1 - q2)), .second] [])) (fun t k => XS.ifYes X0.here hx rfl (pc0 := 9) (pc' := 24) rfl (hb hby d1_9) rfl ((if0 _ _).trans (tlt ((lw_lt (q1 - q2) (0 : Int64)).mpr hc9)).1) (by decide) (by decide) k) ?_
    refine own_s (B := s₁.setTop (mkF m 25 #[.val (.long q1), .second, .val (.long q2), .second, .val (.long q3), .second, .val (.long (q1 - q2)), .second] [(.int (0 : Int32))])) (fun t k => XS.iconst X0.here hx rfl (hb hby d1_24) k) ?_
    exact own_retB X0 hx hlk (t := .boolean) Bd.returns (by simp) (hb hby d1_25) (by decide) (by decide) ⟨own_f (fun q => q.1 hc9), N0, e0⟩
  · refine own_s (B := s₁.setTop (mkF m 12 #[.val (.long q1), .second, .val (.long q2), .second, .val (.long q3), .second, .val (.long (q1 - q2)), .second] [])) (fun t k => XS.ifNo X0.here hx rfl (hb hby d1_9) rfl ((if0 _ _).trans (flt (fun q => hc9 ((lw_lt (q1 - q2) (0 : Int64)).mp q))).1) k) ?_
    refine own_s (B := s₁.setTop (mkF m 14 #[.val (.long q1), .second, .val (.long q2), .second, .val (.long q3), .second, .val (.long (q1 - q2)), .second] [(.long (q1 - q2))])) (fun t k => XS.lload X0.here hx rfl (hb hby d1_12) rfl k) ?_
    refine own_s (B := s₁.setTop (mkF m 16 #[.val (.long q1), .second, .val (.long q2), .second, .val (.long q3), .second, .val (.long (q1 - q2)), .second] [(.long q3), (.long (q1 - q2))])) (fun t k => XS.lload X0.here hx rfl (hb hby d1_14) rfl k) ?_
    refine own_s (B := s₁.setTop (mkF m 17 #[.val (.long q1), .second, .val (.long q2), .second, .val (.long q3), .second, .val (.long (q1 - q2)), .second] [(.int (lcmpW (q1 - q2) q3))])) (fun t k => XS.lcmp X0.here hx rfl (hb hby d1_16) rfl k) ?_
    by_cases hc17 : (q1 - q2) < q3
    · refine own_s (B := s₁.setTop (mkF m 20 #[.val (.long q1), .second, .val (.long q2), .second, .val (.long q3), .second, .val (.long (q1 - q2)), .second] [])) (fun t k => XS.ifNo X0.here hx rfl (hb hby d1_17) rfl ((if0 _ _).trans (tlt ((lw_lt (q1 - q2) q3).mpr hc17)).2.1) k) ?_
      refine own_s (B := s₁.setTop (mkF m 21 #[.val (.long q1), .second, .val (.long q2), .second, .val (.long q3), .second, .val (.long (q1 - q2)), .second] [(.int (1 : Int32))])) (fun t k => XS.iconst X0.here hx rfl (hb hby d1_20) k) ?_
      refine own_s (B := s₁.setTop (mkF m 25 #[.val (.long q1), .second, .val (.long q2), .second, .val (.long q3), .second, .val (.long (q1 - q2)), .second] [(.int (1 : Int32))])) (fun t k => XS.goto X0.here hx rfl (pc0 := 21) (pc' := 25) rfl (hb hby d1_21) (by decide) (by decide) k) ?_
      exact own_retB X0 hx hlk (t := .boolean) Bd.returns (by simp) (hb hby d1_25) (by decide) (by decide) ⟨own_t ⟨hc9, hc17⟩, N0, e0⟩
    · refine own_s (B := s₁.setTop (mkF m 24 #[.val (.long q1), .second, .val (.long q2), .second, .val (.long q3), .second, .val (.long (q1 - q2)), .second] [])) (fun t k => XS.ifYes X0.here hx rfl (pc0 := 17) (pc' := 24) rfl (hb hby d1_17) rfl ((if0 _ _).trans (flt (fun q => hc17 ((lw_lt (q1 - q2) q3).mp q))).2.1) (by decide) (by decide) k) ?_
      refine own_s (B := s₁.setTop (mkF m 25 #[.val (.long q1), .second, .val (.long q2), .second, .val (.long q3), .second, .val (.long (q1 - q2)), .second] [(.int (0 : Int32))])) (fun t k => XS.iconst X0.here hx rfl (hb hby d1_24) k) ?_
      exact own_retB X0 hx hlk (t := .boolean) Bd.returns (by simp) (hb hby d1_25) (by decide) (by decide) ⟨own_f (fun q => hc17 q.2), N0, e0⟩
theorem d3_0 : decode jdk_37_method_2_code 0 = .ok (.aload_n 0, 1) := by decide +kernel
theorem d3_1 : decode jdk_37_method_2_code 1 = .ok (.getfield 7, 3) := by decide +kernel
theorem d3_4 : decode jdk_37_method_2_code 4 = .ok (.ireturn, 1) := by decide +kernel
theorem pn_1 : plainName "java/lang/Enum" = true := by first | (simp [plainName, overriddenIn]; done) | decide +kernel
theorem ef_3 (m : MethodId) (x0 : Addr) : entryFrame m #[(.ref x0)] 1 = mkF m 0 #[.val (.ref x0)] [] := by first | (simp [entryFrame, mkF, argsToLocals, Value.category]; done) | rfl
def Q3 (Z : State) (a1 : Addr) (od : Int32) (h0 : Heap) (n0 : Nat) (v : Option Value) (h : Heap) (L : List Loc) : Prop := v = some (.int od) ∧ Fr n0 L ∧ h = h0
set_option maxRecDepth 65536 in
set_option maxHeartbeats 40000000 in
theorem rm3 (l : Launch) (Z : State) (a0 : Array Value) (hw : ∀ d ∈ tables_1, d.before a0 Z = true) (ws : List Jvm.Cond) (a1 : Addr) (od : Int32) (h0 : Heap) (n0 : Nat) (Z0 : n0 ≤ h0.size) (FO : Fld Z h0 a1 "java/lang/Enum" "ordinal" "I" (.int od)) :
    MetFree l (⟨"java/lang/Enum", "ordinal", "()I"⟩ : MethodName) (head1 (Jvm.Cond.code (⟨"java/lang/Enum", "ordinal", "()I"⟩ : MethodName) jdk_37_method_2_code 1 (some .int) :: ws) ({ frames := 0, cells := 0, slots := 0, locals := 0 } : Room)) (fun a U => a = #[(.ref a1)] ∧ Z.Warmed39 U.vm ∧ U.heap = h0) (fun _ _ _ _ _ => True) (fun _ U o U' => ∃ v L, o = .returned v ∧ Q3 Z a1 od h0 n0 v U'.heap L ∧ FrameEnd U o U' L ({ frames := 0, cells := 0, slots := 0, locals := 0 } : Room).cells ({ frames := 0, cells := 0, slots := 0, locals := 0 } : Room).slots) := by
  refine MetFree.of_bodySF (plainFor_of_name pn_1) hisR ?_
  intro p e s m args below meth c s₁ Bd hml0 hP hK
  obtain ⟨rfl, hZ, hh⟩ := hP
  have hx := Bd.exec
  have hby := Bd.bytes
  have hlk : meth.locks = false := BodyLoose.notSynchronized Bd
  have hml : c.maxLocals = 1 := hml0
  have hown : s.vm.findClass "java/lang/Enum" = some m.cls := findClass_of_methodNamed Bd.named
  have hnm := (name_of_methodNamed Bd.named Bd.method).1
  have X0 : Stand p l e ({ frames := 0, cells := 0, slots := 0, locals := 0 } : Room) s m #[(.ref a1)] below meth c s₁ [] 0 0 := Stand.of_body Bd
  have e0 : s₁.heap = h0 := by rw [← hh, Bd.state]; rfl
  have N0 := Fr.nil n0
  show Go p e below (Kf s (Q3 Z a1 od h0 n0) ({ frames := 0, cells := 0, slots := 0, locals := 0 } : Room).cells ({ frames := 0, cells := 0, slots := 0, locals := 0 } : Room).slots) (s₁.setTop (entryFrame m #[(.ref a1)] 1))
  refine own_s (B := s₁.setTop (mkF m 0 #[.val (.ref a1)] [])) (fun t k => castTop (ef_3 m a1) k) ?_
  refine own_s (B := s₁.setTop (mkF m 1 #[.val (.ref a1)] [(.ref a1)])) (fun t k => XS.aloadN X0.here hx rfl (hb hby d3_0) rfl rfl k) ?_
  obtain ⟨T1, X1, e1, st1⟩ := getF X0 hx hZ hown (host := "") (Or.inl (hw _ (List.mem_of_getElem? (i := 24) rfl))) Via.refl e0 FO (g := (mkF m 1 #[.val (.ref a1)] [(.ref a1)])) rfl rfl (hb hby d3_1)
  refine own_s (B := T1.setTop (mkF m 4 #[.val (.ref a1)] [(.int od)])) st1 ?_
  exact own_retI X1 hx hlk Bd.returns (hb hby d3_4) (by decide) (by decide) ⟨rfl, N0, e1⟩
theorem pd_0 : parseMethodDescriptor "()I" = some ⟨[], some .int⟩ := by decide +kernel
theorem d2_0 : decode prog_16_method_4_code 0 = .ok (.iload_n 1, 1) := by decide +kernel
theorem d2_1 : decode prog_16_method_4_code 1 = .ok (.bipush 65, 2) := by decide +kernel
theorem d2_3 : decode prog_16_method_4_code 3 = .ok (.if_icmp .lt 13, 3) := by decide +kernel
theorem d2_6 : decode prog_16_method_4_code 6 = .ok (.iload_n 1, 1) := by decide +kernel
theorem d2_7 : decode prog_16_method_4_code 7 = .ok (.bipush 90, 2) := by decide +kernel
theorem d2_9 : decode prog_16_method_4_code 9 = .ok (.if_icmp .gt 7, 3) := by decide +kernel
theorem d2_12 : decode prog_16_method_4_code 12 = .ok (.iconst 1, 1) := by decide +kernel
theorem d2_13 : decode prog_16_method_4_code 13 = .ok (.goto 4, 3) := by decide +kernel
theorem d2_16 : decode prog_16_method_4_code 16 = .ok (.iconst 0, 1) := by decide +kernel
theorem d2_17 : decode prog_16_method_4_code 17 = .ok (.istore_n 2, 1) := by decide +kernel
theorem d2_18 : decode prog_16_method_4_code 18 = .ok (.iload_n 1, 1) := by decide +kernel
theorem d2_19 : decode prog_16_method_4_code 19 = .ok (.bipush 97, 2) := by decide +kernel
theorem d2_21 : decode prog_16_method_4_code 21 = .ok (.if_icmp .lt 13, 3) := by decide +kernel
theorem d2_24 : decode prog_16_method_4_code 24 = .ok (.iload_n 1, 1) := by decide +kernel
theorem d2_25 : decode prog_16_method_4_code 25 = .ok (.bipush 122, 2) := by decide +kernel
theorem d2_27 : decode prog_16_method_4_code 27 = .ok (.if_icmp .gt 7, 3) := by decide +kernel
theorem d2_30 : decode prog_16_method_4_code 30 = .ok (.iconst 1, 1) := by decide +kernel
theorem d2_31 : decode prog_16_method_4_code 31 = .ok (.goto 4, 3) := by decide +kernel
theorem d2_34 : decode prog_16_method_4_code 34 = .ok (.iconst 0, 1) := by decide +kernel
theorem d2_35 : decode prog_16_method_4_code 35 = .ok (.istore_n 3, 1) := by decide +kernel
theorem d2_36 : decode prog_16_method_4_code 36 = .ok (.iload_n 1, 1) := by decide +kernel
theorem d2_37 : decode prog_16_method_4_code 37 = .ok (.bipush 48, 2) := by decide +kernel
theorem d2_39 : decode prog_16_method_4_code 39 = .ok (.if_icmp .lt 13, 3) := by decide +kernel
theorem d2_42 : decode prog_16_method_4_code 42 = .ok (.iload_n 1, 1) := by decide +kernel
theorem d2_43 : decode prog_16_method_4_code 43 = .ok (.bipush 57, 2) := by decide +kernel
theorem d2_45 : decode prog_16_method_4_code 45 = .ok (.if_icmp .gt 7, 3) := by decide +kernel
theorem d2_48 : decode prog_16_method_4_code 48 = .ok (.iconst 1, 1) := by decide +kernel
theorem d2_49 : decode prog_16_method_4_code 49 = .ok (.goto 4, 3) := by decide +kernel
theorem d2_52 : decode prog_16_method_4_code 52 = .ok (.iconst 0, 1) := by decide +kernel
theorem d2_53 : decode prog_16_method_4_code 53 = .ok (.istore 4, 2) := by decide +kernel
theorem d2_55 : decode prog_16_method_4_code 55 = .ok (.aload_n 0, 1) := by decide +kernel
theorem d2_56 : decode prog_16_method_4_code 56 = .ok (.invokevirtual 38, 3) := by decide +kernel
theorem d2_59 : decode prog_16_method_4_code 59 = .ok (.tableswitch 33 0 4 #[43, 47, 51, 67, 72], 33) := by decide +kernel
theorem d2_102 : decode prog_16_method_4_code 102 = .ok (.iload_n 2, 1) := by decide +kernel
theorem d2_103 : decode prog_16_method_4_code 103 = .ok (.goto 46, 3) := by decide +kernel
theorem d2_106 : decode prog_16_method_4_code 106 = .ok (.iload_n 3, 1) := by decide +kernel
theorem d2_107 : decode prog_16_method_4_code 107 = .ok (.goto 42, 3) := by decide +kernel
theorem d2_110 : decode prog_16_method_4_code 110 = .ok (.iload_n 2, 1) := by decide +kernel
theorem d2_111 : decode prog_16_method_4_code 111 = .ok (.ifCond .ne 7, 3) := by decide +kernel
theorem d2_114 : decode prog_16_method_4_code 114 = .ok (.iload_n 3, 1) := by decide +kernel
theorem d2_115 : decode prog_16_method_4_code 115 = .ok (.ifCond .eq 7, 3) := by decide +kernel
theorem d2_118 : decode prog_16_method_4_code 118 = .ok (.iconst 1, 1) := by decide +kernel
theorem d2_119 : decode prog_16_method_4_code 119 = .ok (.goto 30, 3) := by decide +kernel
theorem d2_122 : decode prog_16_method_4_code 122 = .ok (.iconst 0, 1) := by decide +kernel
theorem d2_123 : decode prog_16_method_4_code 123 = .ok (.goto 26, 3) := by decide +kernel
theorem d2_126 : decode prog_16_method_4_code 126 = .ok (.iload 4, 2) := by decide +kernel
theorem d2_128 : decode prog_16_method_4_code 128 = .ok (.goto 21, 3) := by decide +kernel
theorem d2_131 : decode prog_16_method_4_code 131 = .ok (.iload_n 2, 1) := by decide +kernel
theorem d2_132 : decode prog_16_method_4_code 132 = .ok (.ifCond .ne 16, 3) := by decide +kernel
theorem d2_135 : decode prog_16_method_4_code 135 = .ok (.iload_n 3, 1) := by decide +kernel
theorem d2_136 : decode prog_16_method_4_code 136 = .ok (.ifCond .ne 12, 3) := by decide +kernel
theorem d2_139 : decode prog_16_method_4_code 139 = .ok (.iload 4, 2) := by decide +kernel
theorem d2_141 : decode prog_16_method_4_code 141 = .ok (.ifCond .ne 7, 3) := by decide +kernel
theorem d2_144 : decode prog_16_method_4_code 144 = .ok (.iconst 1, 1) := by decide +kernel
theorem d2_145 : decode prog_16_method_4_code 145 = .ok (.goto 4, 3) := by decide +kernel
theorem d2_148 : decode prog_16_method_4_code 148 = .ok (.iconst 0, 1) := by decide +kernel
theorem d2_149 : decode prog_16_method_4_code 149 = .ok (.ireturn, 1) := by decide +kernel
theorem pn_2 : plainName "com/example/rekey/rekey/PasswordPolicy$CharacterClass" = true := by first | (simp [plainName, overriddenIn]; done) | decide +kernel
theorem ef_2 (m : MethodId) (x0 : Addr) (x1 : Int32) : entryFrame m #[(.ref x0), (.int x1)] 5 = mkF m 0 #[.val (.ref x0), .val (.int x1), .unset, .unset, .unset] [] := by first | (simp [entryFrame, mkF, argsToLocals, Value.category]; done) | rfl
def Q2 (Z : State) (a1 : Addr) (p2 : Int32) (od : Int32) (h0 : Heap) (n0 : Nat) (v : Option Value) (h : Heap) (L : List Loc) : Prop := v = some (.int (ctS od p2)) ∧ Fr n0 L ∧ h = h0
set_option maxRecDepth 65536 in
set_option maxHeartbeats 40000000 in
theorem rm2 (l : Launch) (Z : State) (a0 : Array Value) (hw : ∀ d ∈ tables_1, d.before a0 Z = true) (ws : List Jvm.Cond) (a1 : Addr) (p2 : Int32) (od : Int32) (h0 : Heap) (n0 : Nat) (Z0 : n0 ≤ h0.size) (FO : Fld Z h0 a1 "java/lang/Enum" "ordinal" "I" (.int od)) (XA : Exa Z h0 a1 "com/example/rekey/rekey/PasswordPolicy$CharacterClass") (ho : od = (0 : Int32) ∨ od = (1 : Int32) ∨ od = (2 : Int32) ∨ od = (3 : Int32) ∨ od = (4 : Int32)) :
    MetFree l (⟨"com/example/rekey/rekey/PasswordPolicy$CharacterClass", "contains", "(I)Z"⟩ : MethodName) (head1 (Jvm.Cond.code (⟨"com/example/rekey/rekey/PasswordPolicy$CharacterClass", "contains", "(I)Z"⟩ : MethodName) prog_16_method_4_code 5 (some .boolean) :: ws) ({ frames := 1, cells := 0, slots := 0, locals := 12 } : Room)) (fun a U => a = #[(.ref a1), (.int p2)] ∧ Z.Warmed39 U.vm ∧ U.heap = h0) (fun _ _ _ _ _ => True) (fun _ U o U' => ∃ v L, o = .returned v ∧ Q2 Z a1 p2 od h0 n0 v U'.heap L ∧ FrameEnd U o U' L ({ frames := 1, cells := 0, slots := 0, locals := 12 } : Room).cells ({ frames := 1, cells := 0, slots := 0, locals := 12 } : Room).slots) := by
  refine MetFree.of_bodySF (plainFor_of_name pn_2) hisR ?_
  intro p e s m args below meth c s₁ Bd hml0 hP hK
  obtain ⟨rfl, hZ, hh⟩ := hP
  have hx := Bd.exec
  have hby := Bd.bytes
  have hlk : meth.locks = false := BodyLoose.notSynchronized Bd
  have hml : c.maxLocals = 5 := hml0
  have hown : s.vm.findClass "com/example/rekey/rekey/PasswordPolicy$CharacterClass" = some m.cls := findClass_of_methodNamed Bd.named
  have hnm := (name_of_methodNamed Bd.named Bd.method).1
  have X0 : Stand p l e ({ frames := 1, cells := 0, slots := 0, locals := 12 } : Room) s m #[(.ref a1), (.int p2)] below meth c s₁ [] 0 0 := Stand.of_body Bd
  have e0 : s₁.heap = h0 := by rw [← hh, Bd.state]; rfl
  have N0 := Fr.nil n0
  show Go p e below (Kf s (Q2 Z a1 p2 od h0 n0) ({ frames := 1, cells := 0, slots := 0, locals := 12 } : Room).cells ({ frames := 1, cells := 0, slots := 0, locals := 12 } : Room).slots) (s₁.setTop (entryFrame m #[(.ref a1), (.int p2)] 5))
  refine own_s (B := s₁.setTop (mkF m 0 #[.val (.ref a1), .val (.int p2), .unset, .unset, .unset] [])) (fun t k => castTop (ef_2 m a1 p2) k) ?_
  have J53 : ∀ (TJ : State) (lJ : List Loc) (XJ : Stand p l e ({ frames := 1, cells := 0, slots := 0, locals := 12 } : Room) s m #[(.ref a1), (.int p2)] below meth c TJ lJ 0 0) (eJ : TJ.heap = h0) (NJ : Fr n0 lJ) (u : Int32) (hu : u = bz (isU p2)) (l' : Int32) (hl : l' = bz (isL p2)) (z : Int32) (hz : z = bz (isD p2)), Go p e below (Kf s (Q2 Z a1 p2 od h0 n0) ({ frames := 1, cells := 0, slots := 0, locals := 12 } : Room).cells ({ frames := 1, cells := 0, slots := 0, locals := 12 } : Room).slots) (TJ.setTop (mkF m 53 #[.val (.ref a1), .val (.int p2), .val (.int u), .val (.int l'), .unset] [(.int z)])) := by
    intro TJ lJ XJ eJ NJ u hu l' hl z hz
    refine own_s (B := TJ.setTop (mkF m 55 #[.val (.ref a1), .val (.int p2), .val (.int u), .val (.int l'), .val (.int z)] [])) (fun t k => XS.istore XJ.here hx rfl (hb hby d2_53) rfl (l' := #[.val (.ref a1), .val (.int p2), .val (.int u), .val (.int l'), .val (.int z)]) rfl k) ?_
    refine own_s (B := TJ.setTop (mkF m 56 #[.val (.ref a1), .val (.int p2), .val (.int u), .val (.int l'), .val (.int z)] [(.ref a1)])) (fun t k => XS.aloadN XJ.here hx rfl (hb hby d2_55) rfl rfl k) ?_
    obtain ⟨cq1, kq1, q1a, q1b, q1c⟩ := isOf hZ eJ XA
    obtain ⟨_, _, ⟨T1, L1, k1, n1⟩, -, X1, ⟨Lc1, hQ1, l1, y1, z1⟩, st1⟩ := XJ.virtualBackUp hx (x := (⟨"com/example/rekey/rekey/PasswordPolicy$CharacterClass", "ordinal", "()I"⟩ : MethodName)) (y := (⟨"java/lang/Enum", "ordinal", "()I"⟩ : MethodName)) (owner := "java/lang/Enum") hown (mvT hZ (hw _ (List.mem_of_getElem? (i := 17) rfl))) (mvT hZ (hw _ (List.mem_of_getElem? (i := 18) rfl))) (mvT hZ (hw _ (List.mem_of_getElem? (i := 19) rfl))) (by decide) (mvT hZ (hw _ (List.mem_of_getElem? (i := 21) rfl))) (mvT hZ (hw _ (List.mem_of_getElem? (i := 20) rfl))) (backOf (W := 0) (rm3 l Z a0 hw [] a1 od h0 n0 Z0 FO) hZ (hw _ (List.mem_of_getElem? (i := 23) rfl)) (hw _ (List.mem_of_getElem? (i := 22) rfl)) (by decide) (by decide)) q1a q1c (g := (mkF m 56 #[.val (.ref a1), .val (.int p2), .val (.int u), .val (.int l'), .val (.int z)] [(.ref a1)])) rfl (by rw [hml]; rfl) (Steps.refl _) (argsL := []) (rest := []) (lenOf pd_0 rfl) rfl (by show 2 * 0 + _ ≤ _; exact Nat.le_of_eq rfl) (hb hby d2_56) (fun _ _ => ⟨rfl, eJ, (by decide : 0 + 0 ≤ _), (by decide : 0 + 0 ≤ _)⟩)
    dsimp only [Pt.U, Pt.locs, Pt.cells, Pt.slots] at X1 l1 y1 z1 st1 hQ1
    subst l1 y1 z1
    obtain ⟨rfl, N1q, e1⟩ := hQ1
    have N1 := Fr.app NJ N1q
    refine own_s (B := T1.setTop (mkF m 59 #[.val (.ref a1), .val (.int p2), .val (.int u), .val (.int l'), .val (.int z)] [(.int od)])) (fun t k => st1.trans k) ?_
    rcases ho with rfl | rfl | rfl | rfl | rfl
    · refine own_s (B := T1.setTop (mkF m 102 #[.val (.ref a1), .val (.int p2), .val (.int u), .val (.int l'), .val (.int z)] [])) (fun t k => XS.tswIn X1.here hx rfl (pc0 := 59) (pc' := 102) rfl (hb hby d2_59) rfl (by decide) (o := 43) rfl (by decide) (by decide) k) ?_
      refine own_s (B := T1.setTop (mkF m 103 #[.val (.ref a1), .val (.int p2), .val (.int u), .val (.int l'), .val (.int z)] [(.int u)])) (fun t k => XS.iloadN X1.here hx rfl (hb hby d2_102) rfl k) ?_
      refine own_s (B := T1.setTop (mkF m 149 #[.val (.ref a1), .val (.int p2), .val (.int u), .val (.int l'), .val (.int z)] [(.int u)])) (fun t k => XS.goto X1.here hx rfl (pc0 := 103) (pc' := 149) rfl (hb hby d2_103) (by decide) (by decide) k) ?_
      exact own_retB X1 hx hlk (t := .boolean) Bd.returns (by simp) (hb hby d2_149) (by decide) (by decide) ⟨by rw [ct0, hu]; exact own_i (own_nb _), N1, e1⟩
    · refine own_s (B := T1.setTop (mkF m 106 #[.val (.ref a1), .val (.int p2), .val (.int u), .val (.int l'), .val (.int z)] [])) (fun t k => XS.tswIn X1.here hx rfl (pc0 := 59) (pc' := 106) rfl (hb hby d2_59) rfl (by decide) (o := 47) rfl (by decide) (by decide) k) ?_
      refine own_s (B := T1.setTop (mkF m 107 #[.val (.ref a1), .val (.int p2), .val (.int u), .val (.int l'), .val (.int z)] [(.int l')])) (fun t k => XS.iloadN X1.here hx rfl (hb hby d2_106) rfl k) ?_
      refine own_s (B := T1.setTop (mkF m 149 #[.val (.ref a1), .val (.int p2), .val (.int u), .val (.int l'), .val (.int z)] [(.int l')])) (fun t k => XS.goto X1.here hx rfl (pc0 := 107) (pc' := 149) rfl (hb hby d2_107) (by decide) (by decide) k) ?_
      exact own_retB X1 hx hlk (t := .boolean) Bd.returns (by simp) (hb hby d2_149) (by decide) (by decide) ⟨by rw [ct1, hl]; exact own_i (own_nb _), N1, e1⟩
    · refine own_s (B := T1.setTop (mkF m 110 #[.val (.ref a1), .val (.int p2), .val (.int u), .val (.int l'), .val (.int z)] [])) (fun t k => XS.tswIn X1.here hx rfl (pc0 := 59) (pc' := 110) rfl (hb hby d2_59) rfl (by decide) (o := 51) rfl (by decide) (by decide) k) ?_
      refine own_s (B := T1.setTop (mkF m 111 #[.val (.ref a1), .val (.int p2), .val (.int u), .val (.int l'), .val (.int z)] [(.int u)])) (fun t k => XS.iloadN X1.here hx rfl (hb hby d2_110) rfl k) ?_
      by_cases hc111 : u = (0 : Int32)
      · refine own_s (B := T1.setTop (mkF m 114 #[.val (.ref a1), .val (.int p2), .val (.int u), .val (.int l'), .val (.int z)] [])) (fun t k => XS.ifNo X1.here hx rfl (hb hby d2_111) rfl ((if0 _ _).trans (teq hc111).2) k) ?_
        refine own_s (B := T1.setTop (mkF m 115 #[.val (.ref a1), .val (.int p2), .val (.int u), .val (.int l'), .val (.int z)] [(.int l')])) (fun t k => XS.iloadN X1.here hx rfl (hb hby d2_114) rfl k) ?_
        by_cases hc115 : l' = (0 : Int32)
        · refine own_s (B := T1.setTop (mkF m 122 #[.val (.ref a1), .val (.int p2), .val (.int u), .val (.int l'), .val (.int z)] [])) (fun t k => XS.ifYes X1.here hx rfl (pc0 := 115) (pc' := 122) rfl (hb hby d2_115) rfl ((if0 _ _).trans (teq hc115).1) (by decide) (by decide) k) ?_
          refine own_s (B := T1.setTop (mkF m 123 #[.val (.ref a1), .val (.int p2), .val (.int u), .val (.int l'), .val (.int z)] [(.int (0 : Int32))])) (fun t k => XS.iconst X1.here hx rfl (hb hby d2_122) k) ?_
          refine own_s (B := T1.setTop (mkF m 149 #[.val (.ref a1), .val (.int p2), .val (.int u), .val (.int l'), .val (.int z)] [(.int (0 : Int32))])) (fun t k => XS.goto X1.here hx rfl (pc0 := 123) (pc' := 149) rfl (hb hby d2_123) (by decide) (by decide) k) ?_
          exact own_retB X1 hx hlk (t := .boolean) Bd.returns (by simp) (hb hby d2_149) (by decide) (by decide) ⟨own_f (P := isU p2 ∨ isL p2) (fun q => q.elim (own_bz0 hu hc111) (own_bz0 hl hc115)), N1, e1⟩
        · refine own_s (B := T1.setTop (mkF m 118 #[.val (.ref a1), .val (.int p2), .val (.int u), .val (.int l'), .val (.int z)] [])) (fun t k => XS.ifNo X1.here hx rfl (hb hby d2_115) rfl ((if0 _ _).trans (feq hc115).1) k) ?_
          refine own_s (B := T1.setTop (mkF m 119 #[.val (.ref a1), .val (.int p2), .val (.int u), .val (.int l'), .val (.int z)] [(.int (1 : Int32))])) (fun t k => XS.iconst X1.here hx rfl (hb hby d2_118) k) ?_
          refine own_s (B := T1.setTop (mkF m 149 #[.val (.ref a1), .val (.int p2), .val (.int u), .val (.int l'), .val (.int z)] [(.int (1 : Int32))])) (fun t k => XS.goto X1.here hx rfl (pc0 := 119) (pc' := 149) rfl (hb hby d2_119) (by decide) (by decide) k) ?_
          exact own_retB X1 hx hlk (t := .boolean) Bd.returns (by simp) (hb hby d2_149) (by decide) (by decide) ⟨own_t (P := isU p2 ∨ isL p2) (Or.inr (own_bz1 hl hc115)), N1, e1⟩
      · refine own_s (B := T1.setTop (mkF m 118 #[.val (.ref a1), .val (.int p2), .val (.int u), .val (.int l'), .val (.int z)] [])) (fun t k => XS.ifYes X1.here hx rfl (pc0 := 111) (pc' := 118) rfl (hb hby d2_111) rfl ((if0 _ _).trans (feq hc111).2) (by decide) (by decide) k) ?_
        refine own_s (B := T1.setTop (mkF m 119 #[.val (.ref a1), .val (.int p2), .val (.int u), .val (.int l'), .val (.int z)] [(.int (1 : Int32))])) (fun t k => XS.iconst X1.here hx rfl (hb hby d2_118) k) ?_
        refine own_s (B := T1.setTop (mkF m 149 #[.val (.ref a1), .val (.int p2), .val (.int u), .val (.int l'), .val (.int z)] [(.int (1 : Int32))])) (fun t k => XS.goto X1.here hx rfl (pc0 := 119) (pc' := 149) rfl (hb hby d2_119) (by decide) (by decide) k) ?_
        exact own_retB X1 hx hlk (t := .boolean) Bd.returns (by simp) (hb hby d2_149) (by decide) (by decide) ⟨own_t (P := isU p2 ∨ isL p2) (Or.inl (own_bz1 hu hc111)), N1, e1⟩
    · refine own_s (B := T1.setTop (mkF m 126 #[.val (.ref a1), .val (.int p2), .val (.int u), .val (.int l'), .val (.int z)] [])) (fun t k => XS.tswIn X1.here hx rfl (pc0 := 59) (pc' := 126) rfl (hb hby d2_59) rfl (by decide) (o := 67) rfl (by decide) (by decide) k) ?_
      refine own_s (B := T1.setTop (mkF m 128 #[.val (.ref a1), .val (.int p2), .val (.int u), .val (.int l'), .val (.int z)] [(.int z)])) (fun t k => XS.iload X1.here hx rfl (hb hby d2_126) rfl k) ?_
      refine own_s (B := T1.setTop (mkF m 149 #[.val (.ref a1), .val (.int p2), .val (.int u), .val (.int l'), .val (.int z)] [(.int z)])) (fun t k => XS.goto X1.here hx rfl (pc0 := 128) (pc' := 149) rfl (hb hby d2_128) (by decide) (by decide) k) ?_
      exact own_retB X1 hx hlk (t := .boolean) Bd.returns (by simp) (hb hby d2_149) (by decide) (by decide) ⟨by rw [ct3, hz]; exact own_i (own_nb _), N1, e1⟩
    · refine own_s (B := T1.setTop (mkF m 131 #[.val (.ref a1), .val (.int p2), .val (.int u), .val (.int l'), .val (.int z)] [])) (fun t k => XS.tswIn X1.here hx rfl (pc0 := 59) (pc' := 131) rfl (hb hby d2_59) rfl (by decide) (o := 72) rfl (by decide) (by decide) k) ?_
      refine own_s (B := T1.setTop (mkF m 132 #[.val (.ref a1), .val (.int p2), .val (.int u), .val (.int l'), .val (.int z)] [(.int u)])) (fun t k => XS.iloadN X1.here hx rfl (hb hby d2_131) rfl k) ?_
      by_cases hc132 : u = (0 : Int32)
      · refine own_s (B := T1.setTop (mkF m 135 #[.val (.ref a1), .val (.int p2), .val (.int u), .val (.int l'), .val (.int z)] [])) (fun t k => XS.ifNo X1.here hx rfl (hb hby d2_132) rfl ((if0 _ _).trans (teq hc132).2) k) ?_
        refine own_s (B := T1.setTop (mkF m 136 #[.val (.ref a1), .val (.int p2), .val (.int u), .val (.int l'), .val (.int z)] [(.int l')])) (fun t k => XS.iloadN X1.here hx rfl (hb hby d2_135) rfl k) ?_
        by_cases hc136 : l' = (0 : Int32)
        · refine own_s (B := T1.setTop (mkF m 139 #[.val (.ref a1), .val (.int p2), .val (.int u), .val (.int l'), .val (.int z)] [])) (fun t k => XS.ifNo X1.here hx rfl (hb hby d2_136) rfl ((if0 _ _).trans (teq hc136).2) k) ?_
          refine own_s (B := T1.setTop (mkF m 141 #[.val (.ref a1), .val (.int p2), .val (.int u), .val (.int l'), .val (.int z)] [(.int z)])) (fun t k => XS.iload X1.here hx rfl (hb hby d2_139) rfl k) ?_
          by_cases hc141 : z = (0 : Int32)
          · refine own_s (B := T1.setTop (mkF m 144 #[.val (.ref a1), .val (.int p2), .val (.int u), .val (.int l'), .val (.int z)] [])) (fun t k => XS.ifNo X1.here hx rfl (hb hby d2_141) rfl ((if0 _ _).trans (teq hc141).2) k) ?_
            refine own_s (B := T1.setTop (mkF m 145 #[.val (.ref a1), .val (.int p2), .val (.int u), .val (.int l'), .val (.int z)] [(.int (1 : Int32))])) (fun t k => XS.iconst X1.here hx rfl (hb hby d2_144) k) ?_
            refine own_s (B := T1.setTop (mkF m 149 #[.val (.ref a1), .val (.int p2), .val (.int u), .val (.int l'), .val (.int z)] [(.int (1 : Int32))])) (fun t k => XS.goto X1.here hx rfl (pc0 := 145) (pc' := 149) rfl (hb hby d2_145) (by decide) (by decide) k) ?_
            exact own_retB X1 hx hlk (t := .boolean) Bd.returns (by simp) (hb hby d2_149) (by decide) (by decide) ⟨own_t (P := ¬ isU p2 ∧ ¬ isL p2 ∧ ¬ isD p2) ⟨own_bz0 hu hc132, own_bz0 hl hc136, own_bz0 hz hc141⟩, N1, e1⟩
          · refine own_s (B := T1.setTop (mkF m 148 #[.val (.ref a1), .val (.int p2), .val (.int u), .val (.int l'), .val (.int z)] [])) (fun t k => XS.ifYes X1.here hx rfl (pc0 := 141) (pc' := 148) rfl (hb hby d2_141) rfl ((if0 _ _).trans (feq hc141).2) (by decide) (by decide) k) ?_
            refine own_s (B := T1.setTop (mkF m 149 #[.val (.ref a1), .val (.int p2), .val (.int u), .val (.int l'), .val (.int z)] [(.int (0 : Int32))])) (fun t k => XS.iconst X1.here hx rfl (hb hby d2_148) k) ?_
            exact own_retB X1 hx hlk (t := .boolean) Bd.returns (by simp) (hb hby d2_149) (by decide) (by decide) ⟨own_f (P := ¬ isU p2 ∧ ¬ isL p2 ∧ ¬ isD p2) (fun q => q.2.2 (own_bz1 hz hc141)), N1, e1⟩
        · refine own_s (B := T1.setTop (mkF m 148 #[.val (.ref a1), .val (.int p2), .val (.int u), .val (.int l'), .val (.int z)] [])) (fun t k => XS.ifYes X1.here hx rfl (pc0 := 136) (pc' := 148) rfl (hb hby d2_136) rfl ((if0 _ _).trans (feq hc136).2) (by decide) (by decide) k) ?_
          refine own_s (B := T1.setTop (mkF m 149 #[.val (.ref a1), .val (.int p2), .val (.int u), .val (.int l'), .val (.int z)] [(.int (0 : Int32))])) (fun t k => XS.iconst X1.here hx rfl (hb hby d2_148) k) ?_
          exact own_retB X1 hx hlk (t := .boolean) Bd.returns (by simp) (hb hby d2_149) (by decide) (by decide) ⟨own_f (P := ¬ isU p2 ∧ ¬ isL p2 ∧ ¬ isD p2) (fun q => q.2.1 (own_bz1 hl hc136)), N1, e1⟩
      · refine own_s (B := T1.setTop (mkF m 148 #[.val (.ref a1), .val (.int p2), .val (.int u), .val (.int l'), .val (.int z)] [])) (fun t k => XS.ifYes X1.here hx rfl (pc0 := 132) (pc' := 148) rfl (hb hby d2_132) rfl ((if0 _ _).trans (feq hc132).2) (by decide) (by decide) k) ?_
        refine own_s (B := T1.setTop (mkF m 149 #[.val (.ref a1), .val (.int p2), .val (.int u), .val (.int l'), .val (.int z)] [(.int (0 : Int32))])) (fun t k => XS.iconst X1.here hx rfl (hb hby d2_148) k) ?_
        exact own_retB X1 hx hlk (t := .boolean) Bd.returns (by simp) (hb hby d2_149) (by decide) (by decide) ⟨own_f (P := ¬ isU p2 ∧ ¬ isL p2 ∧ ¬ isD p2) (fun q => q.1 (own_bz1 hu hc132)), N1, e1⟩
  have J35 : ∀ (TJ : State) (lJ : List Loc) (XJ : Stand p l e ({ frames := 1, cells := 0, slots := 0, locals := 12 } : Room) s m #[(.ref a1), (.int p2)] below meth c TJ lJ 0 0) (eJ : TJ.heap = h0) (NJ : Fr n0 lJ) (u : Int32) (hu : u = bz (isU p2)) (z : Int32) (hz : z = bz (isL p2)), Go p e below (Kf s (Q2 Z a1 p2 od h0 n0) ({ frames := 1, cells := 0, slots := 0, locals := 12 } : Room).cells ({ frames := 1, cells := 0, slots := 0, locals := 12 } : Room).slots) (TJ.setTop (mkF m 35 #[.val (.ref a1), .val (.int p2), .val (.int u), .unset, .unset] [(.int z)])) := by
    intro TJ lJ XJ eJ NJ u hu z hz
    refine own_s (B := TJ.setTop (mkF m 36 #[.val (.ref a1), .val (.int p2), .val (.int u), .val (.int z), .unset] [])) (fun t k => XS.istoreN XJ.here hx rfl (hb hby d2_35) rfl (l' := #[.val (.ref a1), .val (.int p2), .val (.int u), .val (.int z), .unset]) rfl k) ?_
    refine own_s (B := TJ.setTop (mkF m 37 #[.val (.ref a1), .val (.int p2), .val (.int u), .val (.int z), .unset] [(.int p2)])) (fun t k => XS.iloadN XJ.here hx rfl (hb hby d2_36) rfl k) ?_
    refine own_s (B := TJ.setTop (mkF m 39 #[.val (.ref a1), .val (.int p2), .val (.int u), .val (.int z), .unset] [(.int (48 : Int32)), (.int p2)])) (fun t k => XS.bipush XJ.here hx rfl (hb hby d2_37) k) ?_
    by_cases hc39 : p2 < (48 : Int32)
    · refine own_s (B := TJ.setTop (mkF m 52 #[.val (.ref a1), .val (.int p2), .val (.int u), .val (.int z), .unset] [])) (fun t k => XS.icmpYes XJ.here hx rfl (pc0 := 39) (pc' := 52) rfl (hb hby d2_39) rfl (tlt hc39).1 (by decide) (by decide) k) ?_
      refine own_s (B := TJ.setTop (mkF m 53 #[.val (.ref a1), .val (.int p2), .val (.int u), .val (.int z), .unset] [(.int (0 : Int32))])) (fun t k => XS.iconst XJ.here hx rfl (hb hby d2_52) k) ?_
      exact J53 TJ _ XJ eJ NJ u hu z hz (0 : Int32) ((own_b0 (fun q => q.1 hc39)).symm)
    · refine own_s (B := TJ.setTop (mkF m 42 #[.val (.ref a1), .val (.int p2), .val (.int u), .val (.int z), .unset] [])) (fun t k => XS.icmpNo XJ.here hx rfl (hb hby d2_39) rfl (flt hc39).1 k) ?_
      refine own_s (B := TJ.setTop (mkF m 43 #[.val (.ref a1), .val (.int p2), .val (.int u), .val (.int z), .unset] [(.int p2)])) (fun t k => XS.iloadN XJ.here hx rfl (hb hby d2_42) rfl k) ?_
      refine own_s (B := TJ.setTop (mkF m 45 #[.val (.ref a1), .val (.int p2), .val (.int u), .val (.int z), .unset] [(.int (57 : Int32)), (.int p2)])) (fun t k => XS.bipush XJ.here hx rfl (hb hby d2_43) k) ?_
      by_cases hc45 : (57 : Int32) < p2
      · refine own_s (B := TJ.setTop (mkF m 52 #[.val (.ref a1), .val (.int p2), .val (.int u), .val (.int z), .unset] [])) (fun t k => XS.icmpYes XJ.here hx rfl (pc0 := 45) (pc' := 52) rfl (hb hby d2_45) rfl (tlt hc45).2.2.1 (by decide) (by decide) k) ?_
        refine own_s (B := TJ.setTop (mkF m 53 #[.val (.ref a1), .val (.int p2), .val (.int u), .val (.int z), .unset] [(.int (0 : Int32))])) (fun t k => XS.iconst XJ.here hx rfl (hb hby d2_52) k) ?_
        exact J53 TJ _ XJ eJ NJ u hu z hz (0 : Int32) ((own_b0 (fun q => q.2 hc45)).symm)
      · refine own_s (B := TJ.setTop (mkF m 48 #[.val (.ref a1), .val (.int p2), .val (.int u), .val (.int z), .unset] [])) (fun t k => XS.icmpNo XJ.here hx rfl (hb hby d2_45) rfl (flt hc45).2.2.1 k) ?_
        refine own_s (B := TJ.setTop (mkF m 49 #[.val (.ref a1), .val (.int p2), .val (.int u), .val (.int z), .unset] [(.int (1 : Int32))])) (fun t k => XS.iconst XJ.here hx rfl (hb hby d2_48) k) ?_
        refine own_s (B := TJ.setTop (mkF m 53 #[.val (.ref a1), .val (.int p2), .val (.int u), .val (.int z), .unset] [(.int (1 : Int32))])) (fun t k => XS.goto XJ.here hx rfl (pc0 := 49) (pc' := 53) rfl (hb hby d2_49) (by decide) (by decide) k) ?_
        exact J53 TJ _ XJ eJ NJ u hu z hz (1 : Int32) ((own_b1 ⟨hc39, hc45⟩).symm)
  have J17 : ∀ (TJ : State) (lJ : List Loc) (XJ : Stand p l e ({ frames := 1, cells := 0, slots := 0, locals := 12 } : Room) s m #[(.ref a1), (.int p2)] below meth c TJ lJ 0 0) (eJ : TJ.heap = h0) (NJ : Fr n0 lJ) (z : Int32) (hz : z = bz (isU p2)), Go p e below (Kf s (Q2 Z a1 p2 od h0 n0) ({ frames := 1, cells := 0, slots := 0, locals := 12 } : Room).cells ({ frames := 1, cells := 0, slots := 0, locals := 12 } : Room).slots) (TJ.setTop (mkF m 17 #[.val (.ref a1), .val (.int p2), .unset, .unset, .unset] [(.int z)])) := by
    intro TJ lJ XJ eJ NJ z hz
    refine own_s (B := TJ.setTop (mkF m 18 #[.val (.ref a1), .val (.int p2), .val (.int z), .unset, .unset] [])) (fun t k => XS.istoreN XJ.here hx rfl (hb hby d2_17) rfl (l' := #[.val (.ref a1), .val (.int p2), .val (.int z), .unset, .unset]) rfl k) ?_
    refine own_s (B := TJ.setTop (mkF m 19 #[.val (.ref a1), .val (.int p2), .val (.int z), .unset, .unset] [(.int p2)])) (fun t k => XS.iloadN XJ.here hx rfl (hb hby d2_18) rfl k) ?_
    refine own_s (B := TJ.setTop (mkF m 21 #[.val (.ref a1), .val (.int p2), .val (.int z), .unset, .unset] [(.int (97 : Int32)), (.int p2)])) (fun t k => XS.bipush XJ.here hx rfl (hb hby d2_19) k) ?_
    by_cases hc21 : p2 < (97 : Int32)
    · refine own_s (B := TJ.setTop (mkF m 34 #[.val (.ref a1), .val (.int p2), .val (.int z), .unset, .unset] [])) (fun t k => XS.icmpYes XJ.here hx rfl (pc0 := 21) (pc' := 34) rfl (hb hby d2_21) rfl (tlt hc21).1 (by decide) (by decide) k) ?_
      refine own_s (B := TJ.setTop (mkF m 35 #[.val (.ref a1), .val (.int p2), .val (.int z), .unset, .unset] [(.int (0 : Int32))])) (fun t k => XS.iconst XJ.here hx rfl (hb hby d2_34) k) ?_
      exact J35 TJ _ XJ eJ NJ z hz (0 : Int32) ((own_b0 (fun q => q.1 hc21)).symm)
    · refine own_s (B := TJ.setTop (mkF m 24 #[.val (.ref a1), .val (.int p2), .val (.int z), .unset, .unset] [])) (fun t k => XS.icmpNo XJ.here hx rfl (hb hby d2_21) rfl (flt hc21).1 k) ?_
      refine own_s (B := TJ.setTop (mkF m 25 #[.val (.ref a1), .val (.int p2), .val (.int z), .unset, .unset] [(.int p2)])) (fun t k => XS.iloadN XJ.here hx rfl (hb hby d2_24) rfl k) ?_
      refine own_s (B := TJ.setTop (mkF m 27 #[.val (.ref a1), .val (.int p2), .val (.int z), .unset, .unset] [(.int (122 : Int32)), (.int p2)])) (fun t k => XS.bipush XJ.here hx rfl (hb hby d2_25) k) ?_
      by_cases hc27 : (122 : Int32) < p2
      · refine own_s (B := TJ.setTop (mkF m 34 #[.val (.ref a1), .val (.int p2), .val (.int z), .unset, .unset] [])) (fun t k => XS.icmpYes XJ.here hx rfl (pc0 := 27) (pc' := 34) rfl (hb hby d2_27) rfl (tlt hc27).2.2.1 (by decide) (by decide) k) ?_
        refine own_s (B := TJ.setTop (mkF m 35 #[.val (.ref a1), .val (.int p2), .val (.int z), .unset, .unset] [(.int (0 : Int32))])) (fun t k => XS.iconst XJ.here hx rfl (hb hby d2_34) k) ?_
        exact J35 TJ _ XJ eJ NJ z hz (0 : Int32) ((own_b0 (fun q => q.2 hc27)).symm)
      · refine own_s (B := TJ.setTop (mkF m 30 #[.val (.ref a1), .val (.int p2), .val (.int z), .unset, .unset] [])) (fun t k => XS.icmpNo XJ.here hx rfl (hb hby d2_27) rfl (flt hc27).2.2.1 k) ?_
        refine own_s (B := TJ.setTop (mkF m 31 #[.val (.ref a1), .val (.int p2), .val (.int z), .unset, .unset] [(.int (1 : Int32))])) (fun t k => XS.iconst XJ.here hx rfl (hb hby d2_30) k) ?_
        refine own_s (B := TJ.setTop (mkF m 35 #[.val (.ref a1), .val (.int p2), .val (.int z), .unset, .unset] [(.int (1 : Int32))])) (fun t k => XS.goto XJ.here hx rfl (pc0 := 31) (pc' := 35) rfl (hb hby d2_31) (by decide) (by decide) k) ?_
        exact J35 TJ _ XJ eJ NJ z hz (1 : Int32) ((own_b1 ⟨hc21, hc27⟩).symm)
  refine own_s (B := s₁.setTop (mkF m 1 #[.val (.ref a1), .val (.int p2), .unset, .unset, .unset] [(.int p2)])) (fun t k => XS.iloadN X0.here hx rfl (hb hby d2_0) rfl k) ?_
  refine own_s (B := s₁.setTop (mkF m 3 #[.val (.ref a1), .val (.int p2), .unset, .unset, .unset] [(.int (65 : Int32)), (.int p2)])) (fun t k => XS.bipush X0.here hx rfl (hb hby d2_1) k) ?_
  by_cases hc3 : p2 < (65 : Int32)
  · refine own_s (B := s₁.setTop (mkF m 16 #[.val (.ref a1), .val (.int p2), .unset, .unset, .unset] [])) (fun t k => XS.icmpYes X0.here hx rfl (pc0 := 3) (pc' := 16) rfl (hb hby d2_3) rfl (tlt hc3).1 (by decide) (by decide) k) ?_
    refine own_s (B := s₁.setTop (mkF m 17 #[.val (.ref a1), .val (.int p2), .unset, .unset, .unset] [(.int (0 : Int32))])) (fun t k => XS.iconst X0.here hx rfl (hb hby d2_16) k) ?_
    exact J17 s₁ _ X0 e0 N0 (0 : Int32) ((own_b0 (fun q => q.1 hc3)).symm)
  · refine own_s (B := s₁.setTop (mkF m 6 #[.val (.ref a1), .val (.int p2), .unset, .unset, .unset] [])) (fun t k => XS.icmpNo X0.here hx rfl (hb hby d2_3) rfl (flt hc3).1 k) ?_
    refine own_s (B := s₁.setTop (mkF m 7 #[.val (.ref a1), .val (.int p2), .unset, .unset, .unset] [(.int p2)])) (fun t k => XS.iloadN X0.here hx rfl (hb hby d2_6) rfl k) ?_
    refine own_s (B := s₁.setTop (mkF m 9 #[.val (.ref a1), .val (.int p2), .unset, .unset, .unset] [(.int (90 : Int32)), (.int p2)])) (fun t k => XS.bipush X0.here hx rfl (hb hby d2_7) k) ?_
    by_cases hc9 : (90 : Int32) < p2
    · refine own_s (B := s₁.setTop (mkF m 16 #[.val (.ref a1), .val (.int p2), .unset, .unset, .unset] [])) (fun t k => XS.icmpYes X0.here hx rfl (pc0 := 9) (pc' := 16) rfl (hb hby d2_9) rfl (tlt hc9).2.2.1 (by decide) (by decide) k) ?_
      refine own_s (B := s₁.setTop (mkF m 17 #[.val (.ref a1), .val (.int p2), .unset, .unset, .unset] [(.int (0 : Int32))])) (fun t k => XS.iconst X0.here hx rfl (hb hby d2_16) k) ?_
      exact J17 s₁ _ X0 e0 N0 (0 : Int32) ((own_b0 (fun q => q.2 hc9)).symm)
    · refine own_s (B := s₁.setTop (mkF m 12 #[.val (.ref a1), .val (.int p2), .unset, .unset, .unset] [])) (fun t k => XS.icmpNo X0.here hx rfl (hb hby d2_9) rfl (flt hc9).2.2.1 k) ?_
      refine own_s (B := s₁.setTop (mkF m 13 #[.val (.ref a1), .val (.int p2), .unset, .unset, .unset] [(.int (1 : Int32))])) (fun t k => XS.iconst X0.here hx rfl (hb hby d2_12) k) ?_
      refine own_s (B := s₁.setTop (mkF m 17 #[.val (.ref a1), .val (.int p2), .unset, .unset, .unset] [(.int (1 : Int32))])) (fun t k => XS.goto X0.here hx rfl (pc0 := 13) (pc' := 17) rfl (hb hby d2_13) (by decide) (by decide) k) ?_
      exact J17 s₁ _ X0 e0 N0 (1 : Int32) ((own_b1 ⟨hc3, hc9⟩).symm)
theorem pd_1 : parseMethodDescriptor "(JJJ)Z" = some ⟨[.long, .long, .long], some .boolean⟩ := by decide +kernel
theorem pd_2 : parseMethodDescriptor "(I)Z" = some ⟨[.int], some .boolean⟩ := by decide +kernel
theorem ef_0 (m : MethodId) (x0 : Int32) (x1 : Int32) : entryFrame m #[(.int x0), (.int x1)] maxLocals = mkF m 0 #[.val (.int x0), .val (.int x1), .unset, .unset, .unset, .unset, .unset, .unset, .unset, .unset, .unset, .unset, .unset] [] := by first | (simp [entryFrame, mkF, argsToLocals, Value.category, maxLocals]; done) | rfl
def Q0 (Z : State) (p1 : Int32) (p2 : Int32) (wUPPER : Addr) (wLOWER : Addr) (wLETTER : Addr) (wDIGIT : Addr) (wSPECIAL : Addr) (h0 : Heap) (n0 : Nat) (v : Option Value) (h : Heap) (L : List Loc) : Prop := v = some (.int 1) ∧ Fr n0 L
set_option maxRecDepth 65536 in
set_option maxHeartbeats 40000000 in
theorem rm0 (l : Launch) (Z : State) (a0 : Array Value) (hw : ∀ d ∈ tables_1, d.before a0 Z = true) (ws : List Jvm.Cond) (p1 : Int32) (p2 : Int32) (wUPPER : Addr) (wLOWER : Addr) (wLETTER : Addr) (wDIGIT : Addr) (wSPECIAL : Addr) (h0 : Heap) (n0 : Nat) (Z0 : n0 ≤ h0.size) (SUPPER : Sta Z h0 "com/example/rekey/rekey/PasswordPolicy$CharacterClass" "UPPER" "Lcom/example/rekey/rekey/PasswordPolicy$CharacterClass;" (.ref wUPPER)) (XUPPER : Exa Z h0 wUPPER "com/example/rekey/rekey/PasswordPolicy$CharacterClass") (FUPPER : Fld Z h0 wUPPER "java/lang/Enum" "ordinal" "I" (.int (0 : Int32))) (SLOWER : Sta Z h0 "com/example/rekey/rekey/PasswordPolicy$CharacterClass" "LOWER" "Lcom/example/rekey/rekey/PasswordPolicy$CharacterClass;" (.ref wLOWER)) (XLOWER : Exa Z h0 wLOWER "com/example/rekey/rekey/PasswordPolicy$CharacterClass") (FLOWER : Fld Z h0 wLOWER "java/lang/Enum" "ordinal" "I" (.int (1 : Int32))) (SLETTER : Sta Z h0 "com/example/rekey/rekey/PasswordPolicy$CharacterClass" "LETTER" "Lcom/example/rekey/rekey/PasswordPolicy$CharacterClass;" (.ref wLETTER)) (XLETTER : Exa Z h0 wLETTER "com/example/rekey/rekey/PasswordPolicy$CharacterClass") (FLETTER : Fld Z h0 wLETTER "java/lang/Enum" "ordinal" "I" (.int (2 : Int32))) (SDIGIT : Sta Z h0 "com/example/rekey/rekey/PasswordPolicy$CharacterClass" "DIGIT" "Lcom/example/rekey/rekey/PasswordPolicy$CharacterClass;" (.ref wDIGIT)) (XDIGIT : Exa Z h0 wDIGIT "com/example/rekey/rekey/PasswordPolicy$CharacterClass") (FDIGIT : Fld Z h0 wDIGIT "java/lang/Enum" "ordinal" "I" (.int (3 : Int32))) (SSPECIAL : Sta Z h0 "com/example/rekey/rekey/PasswordPolicy$CharacterClass" "SPECIAL" "Lcom/example/rekey/rekey/PasswordPolicy$CharacterClass;" (.ref wSPECIAL)) (XSPECIAL : Exa Z h0 wSPECIAL "com/example/rekey/rekey/PasswordPolicy$CharacterClass") (FSPECIAL : Fld Z h0 wSPECIAL "java/lang/Enum" "ordinal" "I" (.int (4 : Int32))) :
    MetFree l x (head1 (Jvm.Cond.code x code maxLocals ret :: ws) room_1) (fun a U => a = #[(.int p1), (.int p2)] ∧ Z.Warmed39 U.vm ∧ U.heap = h0) (fun _ _ _ _ _ => True) (fun _ U o U' => ∃ v L, o = .returned v ∧ Q0 Z p1 p2 wUPPER wLOWER wLETTER wDIGIT wSPECIAL h0 n0 v U'.heap L ∧ FrameEnd U o U' L room_1.cells room_1.slots) := by
  refine MetFree.of_bodySF (plainFor_of_name pn_0) hisR ?_
  intro p e s m args below meth c s₁ Bd hml0 hP hK
  obtain ⟨rfl, hZ, hh⟩ := hP
  have hx := Bd.exec
  have hby := Bd.bytes
  have hlk : meth.locks = false := BodyLoose.notSynchronized Bd
  have hml : c.maxLocals = 13 := hml0
  have hown : s.vm.findClass "com/example/rekey/rekey/CharacterClassContainsPinLaw" = some m.cls := findClass_of_methodNamed Bd.named
  have hnm := (name_of_methodNamed Bd.named Bd.method).1
  have X0 : Stand p l e room_1 s m #[(.int p1), (.int p2)] below meth c s₁ [] 0 0 := Stand.of_body Bd
  have e0 : s₁.heap = h0 := by rw [← hh, Bd.state]; rfl
  have N0 := Fr.nil n0
  show Go p e below (Kf s (Q0 Z p1 p2 wUPPER wLOWER wLETTER wDIGIT wSPECIAL h0 n0) room_1.cells room_1.slots) (s₁.setTop (entryFrame m #[(.int p1), (.int p2)] maxLocals))
  refine own_s (B := s₁.setTop (mkF m 0 #[.val (.int p1), .val (.int p2), .unset, .unset, .unset, .unset, .unset, .unset, .unset, .unset, .unset, .unset, .unset] [])) (fun t k => castTop (ef_0 m p1 p2) k) ?_
  have J134 : ∀ (TJ : State) (lJ : List Loc) (XJ : Stand p l e room_1 s m #[(.int p1), (.int p2)] below meth c TJ lJ 0 0) (eJ : TJ.heap = h0) (NJ : Fr n0 lJ) (cp : Int32), Go p e below (Kf s (Q0 Z p1 p2 wUPPER wLOWER wLETTER wDIGIT wSPECIAL h0 n0) room_1.cells room_1.slots) (TJ.setTop (mkF m 134 #[.val (.int p1), .val (.int p2), .val (.int cp), .val (.long (cp.toInt64)), .second, .val (.int (bz (inR (cp.toInt64) (65 : Int64) (26 : Int64)))), .val (.int (bz (inR (cp.toInt64) (97 : Int64) (26 : Int64)))), .val (.int (bz (inR (cp.toInt64) (48 : Int64) (10 : Int64)))), .val (.int (ctS (0 : Int32) cp)), .val (.int (ctS (1 : Int32) cp)), .val (.int (ctS (2 : Int32) cp)), .val (.int (ctS (3 : Int32) cp)), .val (.int (ctS (4 : Int32) cp))] [])) := by
    intro TJ lJ XJ eJ NJ cp
    refine own_s (B := TJ.setTop (mkF m 136 #[.val (.int p1), .val (.int p2), .val (.int cp), .val (.long (cp.toInt64)), .second, .val (.int (bz (inR (cp.toInt64) (65 : Int64) (26 : Int64)))), .val (.int (bz (inR (cp.toInt64) (97 : Int64) (26 : Int64)))), .val (.int (bz (inR (cp.toInt64) (48 : Int64) (10 : Int64)))), .val (.int (ctS (0 : Int32) cp)), .val (.int (ctS (1 : Int32) cp)), .val (.int (ctS (2 : Int32) cp)), .val (.int (ctS (3 : Int32) cp)), .val (.int (ctS (4 : Int32) cp))] [(.int (ctS (3 : Int32) cp))])) (fun t k => XS.iload XJ.here hx rfl (hb hby at_134) rfl k) ?_
    refine own_s (B := TJ.setTop (mkF m 138 #[.val (.int p1), .val (.int p2), .val (.int cp), .val (.long (cp.toInt64)), .second, .val (.int (bz (inR (cp.toInt64) (65 : Int64) (26 : Int64)))), .val (.int (bz (inR (cp.toInt64) (97 : Int64) (26 : Int64)))), .val (.int (bz (inR (cp.toInt64) (48 : Int64) (10 : Int64)))), .val (.int (ctS (0 : Int32) cp)), .val (.int (ctS (1 : Int32) cp)), .val (.int (ctS (2 : Int32) cp)), .val (.int (ctS (3 : Int32) cp)), .val (.int (ctS (4 : Int32) cp))] [(.int (bz (inR (cp.toInt64) (48 : Int64) (10 : Int64)))), (.int (ctS (3 : Int32) cp))])) (fun t k => XS.iload XJ.here hx rfl (hb hby at_136) rfl k) ?_
    refine own_s (B := TJ.setTop (mkF m 141 #[.val (.int p1), .val (.int p2), .val (.int cp), .val (.long (cp.toInt64)), .second, .val (.int (bz (inR (cp.toInt64) (65 : Int64) (26 : Int64)))), .val (.int (bz (inR (cp.toInt64) (97 : Int64) (26 : Int64)))), .val (.int (bz (inR (cp.toInt64) (48 : Int64) (10 : Int64)))), .val (.int (ctS (0 : Int32) cp)), .val (.int (ctS (1 : Int32) cp)), .val (.int (ctS (2 : Int32) cp)), .val (.int (ctS (3 : Int32) cp)), .val (.int (ctS (4 : Int32) cp))] [])) (fun t k => XS.icmpNo XJ.here hx rfl (hb hby at_138) rfl (teq ((ct3 cp).trans (own_bzc (iD cp)))).2 k) ?_
    refine own_s (B := TJ.setTop (mkF m 143 #[.val (.int p1), .val (.int p2), .val (.int cp), .val (.long (cp.toInt64)), .second, .val (.int (bz (inR (cp.toInt64) (65 : Int64) (26 : Int64)))), .val (.int (bz (inR (cp.toInt64) (97 : Int64) (26 : Int64)))), .val (.int (bz (inR (cp.toInt64) (48 : Int64) (10 : Int64)))), .val (.int (ctS (0 : Int32) cp)), .val (.int (ctS (1 : Int32) cp)), .val (.int (ctS (2 : Int32) cp)), .val (.int (ctS (3 : Int32) cp)), .val (.int (ctS (4 : Int32) cp))] [(.int (ctS (4 : Int32) cp))])) (fun t k => XS.iload XJ.here hx rfl (hb hby at_141) rfl k) ?_
    refine own_s (B := TJ.setTop (mkF m 145 #[.val (.int p1), .val (.int p2), .val (.int cp), .val (.long (cp.toInt64)), .second, .val (.int (bz (inR (cp.toInt64) (65 : Int64) (26 : Int64)))), .val (.int (bz (inR (cp.toInt64) (97 : Int64) (26 : Int64)))), .val (.int (bz (inR (cp.toInt64) (48 : Int64) (10 : Int64)))), .val (.int (ctS (0 : Int32) cp)), .val (.int (ctS (1 : Int32) cp)), .val (.int (ctS (2 : Int32) cp)), .val (.int (ctS (3 : Int32) cp)), .val (.int (ctS (4 : Int32) cp))] [(.int (bz (inR (cp.toInt64) (65 : Int64) (26 : Int64)))), (.int (ctS (4 : Int32) cp))])) (fun t k => XS.iload XJ.here hx rfl (hb hby at_143) rfl k) ?_
    by_cases hc145 : (bz (inR (cp.toInt64) (65 : Int64) (26 : Int64))) = (0 : Int32)
    · refine own_s (B := TJ.setTop (mkF m 148 #[.val (.int p1), .val (.int p2), .val (.int cp), .val (.long (cp.toInt64)), .second, .val (.int (bz (inR (cp.toInt64) (65 : Int64) (26 : Int64)))), .val (.int (bz (inR (cp.toInt64) (97 : Int64) (26 : Int64)))), .val (.int (bz (inR (cp.toInt64) (48 : Int64) (10 : Int64)))), .val (.int (ctS (0 : Int32) cp)), .val (.int (ctS (1 : Int32) cp)), .val (.int (ctS (2 : Int32) cp)), .val (.int (ctS (3 : Int32) cp)), .val (.int (ctS (4 : Int32) cp))] [(.int (ctS (4 : Int32) cp))])) (fun t k => XS.ifNo XJ.here hx rfl (hb hby at_145) rfl ((if0 _ _).trans (teq hc145).2) k) ?_
      refine own_s (B := TJ.setTop (mkF m 150 #[.val (.int p1), .val (.int p2), .val (.int cp), .val (.long (cp.toInt64)), .second, .val (.int (bz (inR (cp.toInt64) (65 : Int64) (26 : Int64)))), .val (.int (bz (inR (cp.toInt64) (97 : Int64) (26 : Int64)))), .val (.int (bz (inR (cp.toInt64) (48 : Int64) (10 : Int64)))), .val (.int (ctS (0 : Int32) cp)), .val (.int (ctS (1 : Int32) cp)), .val (.int (ctS (2 : Int32) cp)), .val (.int (ctS (3 : Int32) cp)), .val (.int (ctS (4 : Int32) cp))] [(.int (bz (inR (cp.toInt64) (97 : Int64) (26 : Int64)))), (.int (ctS (4 : Int32) cp))])) (fun t k => XS.iload XJ.here hx rfl (hb hby at_148) rfl k) ?_
      by_cases hc150 : (bz (inR (cp.toInt64) (97 : Int64) (26 : Int64))) = (0 : Int32)
      · refine own_s (B := TJ.setTop (mkF m 153 #[.val (.int p1), .val (.int p2), .val (.int cp), .val (.long (cp.toInt64)), .second, .val (.int (bz (inR (cp.toInt64) (65 : Int64) (26 : Int64)))), .val (.int (bz (inR (cp.toInt64) (97 : Int64) (26 : Int64)))), .val (.int (bz (inR (cp.toInt64) (48 : Int64) (10 : Int64)))), .val (.int (ctS (0 : Int32) cp)), .val (.int (ctS (1 : Int32) cp)), .val (.int (ctS (2 : Int32) cp)), .val (.int (ctS (3 : Int32) cp)), .val (.int (ctS (4 : Int32) cp))] [(.int (ctS (4 : Int32) cp))])) (fun t k => XS.ifNo XJ.here hx rfl (hb hby at_150) rfl ((if0 _ _).trans (teq hc150).2) k) ?_
        refine own_s (B := TJ.setTop (mkF m 155 #[.val (.int p1), .val (.int p2), .val (.int cp), .val (.long (cp.toInt64)), .second, .val (.int (bz (inR (cp.toInt64) (65 : Int64) (26 : Int64)))), .val (.int (bz (inR (cp.toInt64) (97 : Int64) (26 : Int64)))), .val (.int (bz (inR (cp.toInt64) (48 : Int64) (10 : Int64)))), .val (.int (ctS (0 : Int32) cp)), .val (.int (ctS (1 : Int32) cp)), .val (.int (ctS (2 : Int32) cp)), .val (.int (ctS (3 : Int32) cp)), .val (.int (ctS (4 : Int32) cp))] [(.int (bz (inR (cp.toInt64) (48 : Int64) (10 : Int64)))), (.int (ctS (4 : Int32) cp))])) (fun t k => XS.iload XJ.here hx rfl (hb hby at_153) rfl k) ?_
        by_cases hc155 : (bz (inR (cp.toInt64) (48 : Int64) (10 : Int64))) = (0 : Int32)
        · refine own_s (B := TJ.setTop (mkF m 158 #[.val (.int p1), .val (.int p2), .val (.int cp), .val (.long (cp.toInt64)), .second, .val (.int (bz (inR (cp.toInt64) (65 : Int64) (26 : Int64)))), .val (.int (bz (inR (cp.toInt64) (97 : Int64) (26 : Int64)))), .val (.int (bz (inR (cp.toInt64) (48 : Int64) (10 : Int64)))), .val (.int (ctS (0 : Int32) cp)), .val (.int (ctS (1 : Int32) cp)), .val (.int (ctS (2 : Int32) cp)), .val (.int (ctS (3 : Int32) cp)), .val (.int (ctS (4 : Int32) cp))] [(.int (ctS (4 : Int32) cp))])) (fun t k => XS.ifNo XJ.here hx rfl (hb hby at_155) rfl ((if0 _ _).trans (teq hc155).2) k) ?_
          refine own_s (B := TJ.setTop (mkF m 159 #[.val (.int p1), .val (.int p2), .val (.int cp), .val (.long (cp.toInt64)), .second, .val (.int (bz (inR (cp.toInt64) (65 : Int64) (26 : Int64)))), .val (.int (bz (inR (cp.toInt64) (97 : Int64) (26 : Int64)))), .val (.int (bz (inR (cp.toInt64) (48 : Int64) (10 : Int64)))), .val (.int (ctS (0 : Int32) cp)), .val (.int (ctS (1 : Int32) cp)), .val (.int (ctS (2 : Int32) cp)), .val (.int (ctS (3 : Int32) cp)), .val (.int (ctS (4 : Int32) cp))] [(.int (1 : Int32)), (.int (ctS (4 : Int32) cp))])) (fun t k => XS.iconst XJ.here hx rfl (hb hby at_158) k) ?_
          refine own_s (B := TJ.setTop (mkF m 163 #[.val (.int p1), .val (.int p2), .val (.int cp), .val (.long (cp.toInt64)), .second, .val (.int (bz (inR (cp.toInt64) (65 : Int64) (26 : Int64)))), .val (.int (bz (inR (cp.toInt64) (97 : Int64) (26 : Int64)))), .val (.int (bz (inR (cp.toInt64) (48 : Int64) (10 : Int64)))), .val (.int (ctS (0 : Int32) cp)), .val (.int (ctS (1 : Int32) cp)), .val (.int (ctS (2 : Int32) cp)), .val (.int (ctS (3 : Int32) cp)), .val (.int (ctS (4 : Int32) cp))] [(.int (1 : Int32)), (.int (ctS (4 : Int32) cp))])) (fun t k => XS.goto XJ.here hx rfl (pc0 := 159) (pc' := 163) rfl (hb hby at_159) (by decide) (by decide) k) ?_
          refine own_s (B := TJ.setTop (mkF m 166 #[.val (.int p1), .val (.int p2), .val (.int cp), .val (.long (cp.toInt64)), .second, .val (.int (bz (inR (cp.toInt64) (65 : Int64) (26 : Int64)))), .val (.int (bz (inR (cp.toInt64) (97 : Int64) (26 : Int64)))), .val (.int (bz (inR (cp.toInt64) (48 : Int64) (10 : Int64)))), .val (.int (ctS (0 : Int32) cp)), .val (.int (ctS (1 : Int32) cp)), .val (.int (ctS (2 : Int32) cp)), .val (.int (ctS (3 : Int32) cp)), .val (.int (ctS (4 : Int32) cp))] [])) (fun t k => XS.icmpNo XJ.here hx rfl (hb hby at_163) rfl (teq ((ct4 cp).trans (own_b1 ⟨(fun w => own_bz0 rfl hc145 ((iU cp).mp w)), (fun w => own_bz0 rfl hc150 ((iL cp).mp w)), (fun w => own_bz0 rfl hc155 ((iD cp).mp w))⟩))).2 k) ?_
          refine own_s (B := TJ.setTop (mkF m 167 #[.val (.int p1), .val (.int p2), .val (.int cp), .val (.long (cp.toInt64)), .second, .val (.int (bz (inR (cp.toInt64) (65 : Int64) (26 : Int64)))), .val (.int (bz (inR (cp.toInt64) (97 : Int64) (26 : Int64)))), .val (.int (bz (inR (cp.toInt64) (48 : Int64) (10 : Int64)))), .val (.int (ctS (0 : Int32) cp)), .val (.int (ctS (1 : Int32) cp)), .val (.int (ctS (2 : Int32) cp)), .val (.int (ctS (3 : Int32) cp)), .val (.int (ctS (4 : Int32) cp))] [(.int (1 : Int32))])) (fun t k => XS.iconst XJ.here hx rfl (hb hby at_166) k) ?_
          refine own_s (B := TJ.setTop (mkF m 171 #[.val (.int p1), .val (.int p2), .val (.int cp), .val (.long (cp.toInt64)), .second, .val (.int (bz (inR (cp.toInt64) (65 : Int64) (26 : Int64)))), .val (.int (bz (inR (cp.toInt64) (97 : Int64) (26 : Int64)))), .val (.int (bz (inR (cp.toInt64) (48 : Int64) (10 : Int64)))), .val (.int (ctS (0 : Int32) cp)), .val (.int (ctS (1 : Int32) cp)), .val (.int (ctS (2 : Int32) cp)), .val (.int (ctS (3 : Int32) cp)), .val (.int (ctS (4 : Int32) cp))] [(.int (1 : Int32))])) (fun t k => XS.goto XJ.here hx rfl (pc0 := 167) (pc' := 171) rfl (hb hby at_167) (by decide) (by decide) k) ?_
          exact own_retB XJ hx hlk (t := .boolean) Bd.returns (by simp) (hb hby at_171) (by decide) (by decide) ⟨rfl, NJ⟩
        · refine own_s (B := TJ.setTop (mkF m 162 #[.val (.int p1), .val (.int p2), .val (.int cp), .val (.long (cp.toInt64)), .second, .val (.int (bz (inR (cp.toInt64) (65 : Int64) (26 : Int64)))), .val (.int (bz (inR (cp.toInt64) (97 : Int64) (26 : Int64)))), .val (.int (bz (inR (cp.toInt64) (48 : Int64) (10 : Int64)))), .val (.int (ctS (0 : Int32) cp)), .val (.int (ctS (1 : Int32) cp)), .val (.int (ctS (2 : Int32) cp)), .val (.int (ctS (3 : Int32) cp)), .val (.int (ctS (4 : Int32) cp))] [(.int (ctS (4 : Int32) cp))])) (fun t k => XS.ifYes XJ.here hx rfl (pc0 := 155) (pc' := 162) rfl (hb hby at_155) rfl ((if0 _ _).trans (feq hc155).2) (by decide) (by decide) k) ?_
          refine own_s (B := TJ.setTop (mkF m 163 #[.val (.int p1), .val (.int p2), .val (.int cp), .val (.long (cp.toInt64)), .second, .val (.int (bz (inR (cp.toInt64) (65 : Int64) (26 : Int64)))), .val (.int (bz (inR (cp.toInt64) (97 : Int64) (26 : Int64)))), .val (.int (bz (inR (cp.toInt64) (48 : Int64) (10 : Int64)))), .val (.int (ctS (0 : Int32) cp)), .val (.int (ctS (1 : Int32) cp)), .val (.int (ctS (2 : Int32) cp)), .val (.int (ctS (3 : Int32) cp)), .val (.int (ctS (4 : Int32) cp))] [(.int (0 : Int32)), (.int (ctS (4 : Int32) cp))])) (fun t k => XS.iconst XJ.here hx rfl (hb hby at_162) k) ?_
          refine own_s (B := TJ.setTop (mkF m 166 #[.val (.int p1), .val (.int p2), .val (.int cp), .val (.long (cp.toInt64)), .second, .val (.int (bz (inR (cp.toInt64) (65 : Int64) (26 : Int64)))), .val (.int (bz (inR (cp.toInt64) (97 : Int64) (26 : Int64)))), .val (.int (bz (inR (cp.toInt64) (48 : Int64) (10 : Int64)))), .val (.int (ctS (0 : Int32) cp)), .val (.int (ctS (1 : Int32) cp)), .val (.int (ctS (2 : Int32) cp)), .val (.int (ctS (3 : Int32) cp)), .val (.int (ctS (4 : Int32) cp))] [])) (fun t k => XS.icmpNo XJ.here hx rfl (hb hby at_163) rfl (teq ((ct4 cp).trans (own_b0 (fun q => q.2.2 ((iD cp).mpr (own_bz1 rfl hc155)))))).2 k) ?_
          refine own_s (B := TJ.setTop (mkF m 167 #[.val (.int p1), .val (.int p2), .val (.int cp), .val (.long (cp.toInt64)), .second, .val (.int (bz (inR (cp.toInt64) (65 : Int64) (26 : Int64)))), .val (.int (bz (inR (cp.toInt64) (97 : Int64) (26 : Int64)))), .val (.int (bz (inR (cp.toInt64) (48 : Int64) (10 : Int64)))), .val (.int (ctS (0 : Int32) cp)), .val (.int (ctS (1 : Int32) cp)), .val (.int (ctS (2 : Int32) cp)), .val (.int (ctS (3 : Int32) cp)), .val (.int (ctS (4 : Int32) cp))] [(.int (1 : Int32))])) (fun t k => XS.iconst XJ.here hx rfl (hb hby at_166) k) ?_
          refine own_s (B := TJ.setTop (mkF m 171 #[.val (.int p1), .val (.int p2), .val (.int cp), .val (.long (cp.toInt64)), .second, .val (.int (bz (inR (cp.toInt64) (65 : Int64) (26 : Int64)))), .val (.int (bz (inR (cp.toInt64) (97 : Int64) (26 : Int64)))), .val (.int (bz (inR (cp.toInt64) (48 : Int64) (10 : Int64)))), .val (.int (ctS (0 : Int32) cp)), .val (.int (ctS (1 : Int32) cp)), .val (.int (ctS (2 : Int32) cp)), .val (.int (ctS (3 : Int32) cp)), .val (.int (ctS (4 : Int32) cp))] [(.int (1 : Int32))])) (fun t k => XS.goto XJ.here hx rfl (pc0 := 167) (pc' := 171) rfl (hb hby at_167) (by decide) (by decide) k) ?_
          exact own_retB XJ hx hlk (t := .boolean) Bd.returns (by simp) (hb hby at_171) (by decide) (by decide) ⟨rfl, NJ⟩
      · refine own_s (B := TJ.setTop (mkF m 162 #[.val (.int p1), .val (.int p2), .val (.int cp), .val (.long (cp.toInt64)), .second, .val (.int (bz (inR (cp.toInt64) (65 : Int64) (26 : Int64)))), .val (.int (bz (inR (cp.toInt64) (97 : Int64) (26 : Int64)))), .val (.int (bz (inR (cp.toInt64) (48 : Int64) (10 : Int64)))), .val (.int (ctS (0 : Int32) cp)), .val (.int (ctS (1 : Int32) cp)), .val (.int (ctS (2 : Int32) cp)), .val (.int (ctS (3 : Int32) cp)), .val (.int (ctS (4 : Int32) cp))] [(.int (ctS (4 : Int32) cp))])) (fun t k => XS.ifYes XJ.here hx rfl (pc0 := 150) (pc' := 162) rfl (hb hby at_150) rfl ((if0 _ _).trans (feq hc150).2) (by decide) (by decide) k) ?_
        refine own_s (B := TJ.setTop (mkF m 163 #[.val (.int p1), .val (.int p2), .val (.int cp), .val (.long (cp.toInt64)), .second, .val (.int (bz (inR (cp.toInt64) (65 : Int64) (26 : Int64)))), .val (.int (bz (inR (cp.toInt64) (97 : Int64) (26 : Int64)))), .val (.int (bz (inR (cp.toInt64) (48 : Int64) (10 : Int64)))), .val (.int (ctS (0 : Int32) cp)), .val (.int (ctS (1 : Int32) cp)), .val (.int (ctS (2 : Int32) cp)), .val (.int (ctS (3 : Int32) cp)), .val (.int (ctS (4 : Int32) cp))] [(.int (0 : Int32)), (.int (ctS (4 : Int32) cp))])) (fun t k => XS.iconst XJ.here hx rfl (hb hby at_162) k) ?_
        refine own_s (B := TJ.setTop (mkF m 166 #[.val (.int p1), .val (.int p2), .val (.int cp), .val (.long (cp.toInt64)), .second, .val (.int (bz (inR (cp.toInt64) (65 : Int64) (26 : Int64)))), .val (.int (bz (inR (cp.toInt64) (97 : Int64) (26 : Int64)))), .val (.int (bz (inR (cp.toInt64) (48 : Int64) (10 : Int64)))), .val (.int (ctS (0 : Int32) cp)), .val (.int (ctS (1 : Int32) cp)), .val (.int (ctS (2 : Int32) cp)), .val (.int (ctS (3 : Int32) cp)), .val (.int (ctS (4 : Int32) cp))] [])) (fun t k => XS.icmpNo XJ.here hx rfl (hb hby at_163) rfl (teq ((ct4 cp).trans (own_b0 (fun q => q.2.1 ((iL cp).mpr (own_bz1 rfl hc150)))))).2 k) ?_
        refine own_s (B := TJ.setTop (mkF m 167 #[.val (.int p1), .val (.int p2), .val (.int cp), .val (.long (cp.toInt64)), .second, .val (.int (bz (inR (cp.toInt64) (65 : Int64) (26 : Int64)))), .val (.int (bz (inR (cp.toInt64) (97 : Int64) (26 : Int64)))), .val (.int (bz (inR (cp.toInt64) (48 : Int64) (10 : Int64)))), .val (.int (ctS (0 : Int32) cp)), .val (.int (ctS (1 : Int32) cp)), .val (.int (ctS (2 : Int32) cp)), .val (.int (ctS (3 : Int32) cp)), .val (.int (ctS (4 : Int32) cp))] [(.int (1 : Int32))])) (fun t k => XS.iconst XJ.here hx rfl (hb hby at_166) k) ?_
        refine own_s (B := TJ.setTop (mkF m 171 #[.val (.int p1), .val (.int p2), .val (.int cp), .val (.long (cp.toInt64)), .second, .val (.int (bz (inR (cp.toInt64) (65 : Int64) (26 : Int64)))), .val (.int (bz (inR (cp.toInt64) (97 : Int64) (26 : Int64)))), .val (.int (bz (inR (cp.toInt64) (48 : Int64) (10 : Int64)))), .val (.int (ctS (0 : Int32) cp)), .val (.int (ctS (1 : Int32) cp)), .val (.int (ctS (2 : Int32) cp)), .val (.int (ctS (3 : Int32) cp)), .val (.int (ctS (4 : Int32) cp))] [(.int (1 : Int32))])) (fun t k => XS.goto XJ.here hx rfl (pc0 := 167) (pc' := 171) rfl (hb hby at_167) (by decide) (by decide) k) ?_
        exact own_retB XJ hx hlk (t := .boolean) Bd.returns (by simp) (hb hby at_171) (by decide) (by decide) ⟨rfl, NJ⟩
    · refine own_s (B := TJ.setTop (mkF m 162 #[.val (.int p1), .val (.int p2), .val (.int cp), .val (.long (cp.toInt64)), .second, .val (.int (bz (inR (cp.toInt64) (65 : Int64) (26 : Int64)))), .val (.int (bz (inR (cp.toInt64) (97 : Int64) (26 : Int64)))), .val (.int (bz (inR (cp.toInt64) (48 : Int64) (10 : Int64)))), .val (.int (ctS (0 : Int32) cp)), .val (.int (ctS (1 : Int32) cp)), .val (.int (ctS (2 : Int32) cp)), .val (.int (ctS (3 : Int32) cp)), .val (.int (ctS (4 : Int32) cp))] [(.int (ctS (4 : Int32) cp))])) (fun t k => XS.ifYes XJ.here hx rfl (pc0 := 145) (pc' := 162) rfl (hb hby at_145) rfl ((if0 _ _).trans (feq hc145).2) (by decide) (by decide) k) ?_
      refine own_s (B := TJ.setTop (mkF m 163 #[.val (.int p1), .val (.int p2), .val (.int cp), .val (.long (cp.toInt64)), .second, .val (.int (bz (inR (cp.toInt64) (65 : Int64) (26 : Int64)))), .val (.int (bz (inR (cp.toInt64) (97 : Int64) (26 : Int64)))), .val (.int (bz (inR (cp.toInt64) (48 : Int64) (10 : Int64)))), .val (.int (ctS (0 : Int32) cp)), .val (.int (ctS (1 : Int32) cp)), .val (.int (ctS (2 : Int32) cp)), .val (.int (ctS (3 : Int32) cp)), .val (.int (ctS (4 : Int32) cp))] [(.int (0 : Int32)), (.int (ctS (4 : Int32) cp))])) (fun t k => XS.iconst XJ.here hx rfl (hb hby at_162) k) ?_
      refine own_s (B := TJ.setTop (mkF m 166 #[.val (.int p1), .val (.int p2), .val (.int cp), .val (.long (cp.toInt64)), .second, .val (.int (bz (inR (cp.toInt64) (65 : Int64) (26 : Int64)))), .val (.int (bz (inR (cp.toInt64) (97 : Int64) (26 : Int64)))), .val (.int (bz (inR (cp.toInt64) (48 : Int64) (10 : Int64)))), .val (.int (ctS (0 : Int32) cp)), .val (.int (ctS (1 : Int32) cp)), .val (.int (ctS (2 : Int32) cp)), .val (.int (ctS (3 : Int32) cp)), .val (.int (ctS (4 : Int32) cp))] [])) (fun t k => XS.icmpNo XJ.here hx rfl (hb hby at_163) rfl (teq ((ct4 cp).trans (own_b0 (fun q => q.1 ((iU cp).mpr (own_bz1 rfl hc145)))))).2 k) ?_
      refine own_s (B := TJ.setTop (mkF m 167 #[.val (.int p1), .val (.int p2), .val (.int cp), .val (.long (cp.toInt64)), .second, .val (.int (bz (inR (cp.toInt64) (65 : Int64) (26 : Int64)))), .val (.int (bz (inR (cp.toInt64) (97 : Int64) (26 : Int64)))), .val (.int (bz (inR (cp.toInt64) (48 : Int64) (10 : Int64)))), .val (.int (ctS (0 : Int32) cp)), .val (.int (ctS (1 : Int32) cp)), .val (.int (ctS (2 : Int32) cp)), .val (.int (ctS (3 : Int32) cp)), .val (.int (ctS (4 : Int32) cp))] [(.int (1 : Int32))])) (fun t k => XS.iconst XJ.here hx rfl (hb hby at_166) k) ?_
      refine own_s (B := TJ.setTop (mkF m 171 #[.val (.int p1), .val (.int p2), .val (.int cp), .val (.long (cp.toInt64)), .second, .val (.int (bz (inR (cp.toInt64) (65 : Int64) (26 : Int64)))), .val (.int (bz (inR (cp.toInt64) (97 : Int64) (26 : Int64)))), .val (.int (bz (inR (cp.toInt64) (48 : Int64) (10 : Int64)))), .val (.int (ctS (0 : Int32) cp)), .val (.int (ctS (1 : Int32) cp)), .val (.int (ctS (2 : Int32) cp)), .val (.int (ctS (3 : Int32) cp)), .val (.int (ctS (4 : Int32) cp))] [(.int (1 : Int32))])) (fun t k => XS.goto XJ.here hx rfl (pc0 := 167) (pc' := 171) rfl (hb hby at_167) (by decide) (by decide) k) ?_
      exact own_retB XJ hx hlk (t := .boolean) Bd.returns (by simp) (hb hby at_171) (by decide) (by decide) ⟨rfl, NJ⟩
  have J15 : ∀ (TJ : State) (lJ : List Loc) (XJ : Stand p l e room_1 s m #[(.int p1), (.int p2)] below meth c TJ lJ 0 0) (eJ : TJ.heap = h0) (NJ : Fr n0 lJ) (cp : Int32), Go p e below (Kf s (Q0 Z p1 p2 wUPPER wLOWER wLETTER wDIGIT wSPECIAL h0 n0) room_1.cells room_1.slots) (TJ.setTop (mkF m 15 #[.val (.int p1), .val (.int p2), .unset, .unset, .unset, .unset, .unset, .unset, .unset, .unset, .unset, .unset, .unset] [(.int cp)])) := by
    intro TJ lJ XJ eJ NJ cp
    refine own_s (B := TJ.setTop (mkF m 16 #[.val (.int p1), .val (.int p2), .val (.int cp), .unset, .unset, .unset, .unset, .unset, .unset, .unset, .unset, .unset, .unset] [])) (fun t k => XS.istoreN XJ.here hx rfl (hb hby at_15) rfl (l' := #[.val (.int p1), .val (.int p2), .val (.int cp), .unset, .unset, .unset, .unset, .unset, .unset, .unset, .unset, .unset, .unset]) rfl k) ?_
    refine own_s (B := TJ.setTop (mkF m 17 #[.val (.int p1), .val (.int p2), .val (.int cp), .unset, .unset, .unset, .unset, .unset, .unset, .unset, .unset, .unset, .unset] [(.int cp)])) (fun t k => XS.iloadN XJ.here hx rfl (hb hby at_16) rfl k) ?_
    refine own_s (B := TJ.setTop (mkF m 18 #[.val (.int p1), .val (.int p2), .val (.int cp), .unset, .unset, .unset, .unset, .unset, .unset, .unset, .unset, .unset, .unset] [(.long (cp.toInt64))])) (fun t k => XS.i2l XJ.here hx rfl (hb hby at_17) rfl k) ?_
    refine own_s (B := TJ.setTop (mkF m 19 #[.val (.int p1), .val (.int p2), .val (.int cp), .val (.long (cp.toInt64)), .second, .unset, .unset, .unset, .unset, .unset, .unset, .unset, .unset] [])) (fun t k => XS.lstoreN XJ.here hx rfl (hb hby at_18) rfl (l' := #[.val (.int p1), .val (.int p2), .val (.int cp), .val (.long (cp.toInt64)), .second, .unset, .unset, .unset, .unset, .unset, .unset, .unset, .unset]) rfl k) ?_
    refine own_s (B := TJ.setTop (mkF m 20 #[.val (.int p1), .val (.int p2), .val (.int cp), .val (.long (cp.toInt64)), .second, .unset, .unset, .unset, .unset, .unset, .unset, .unset, .unset] [(.long (cp.toInt64))])) (fun t k => XS.lloadN XJ.here hx rfl (hb hby at_19) rfl k) ?_
    refine own_s (B := TJ.setTop (mkF m 23 #[.val (.int p1), .val (.int p2), .val (.int cp), .val (.long (cp.toInt64)), .second, .unset, .unset, .unset, .unset, .unset, .unset, .unset, .unset] [(.long (65 : Int64)), (.long (cp.toInt64))])) (fun t k => XJ.ldc2Long hx hown (mvT hZ (hw _ (List.mem_of_getElem? (i := 0) rfl))) (g := (mkF m 20 #[.val (.int p1), .val (.int p2), .val (.int cp), .val (.long (cp.toInt64)), .second, .unset, .unset, .unset, .unset, .unset, .unset, .unset, .unset] [(.long (cp.toInt64))])) rfl (hb hby at_20) t k) ?_
    refine own_s (B := TJ.setTop (mkF m 26 #[.val (.int p1), .val (.int p2), .val (.int cp), .val (.long (cp.toInt64)), .second, .unset, .unset, .unset, .unset, .unset, .unset, .unset, .unset] [(.long (26 : Int64)), (.long (65 : Int64)), (.long (cp.toInt64))])) (fun t k => XJ.ldc2Long hx hown (mvT hZ (hw _ (List.mem_of_getElem? (i := 1) rfl))) (g := (mkF m 23 #[.val (.int p1), .val (.int p2), .val (.int cp), .val (.long (cp.toInt64)), .second, .unset, .unset, .unset, .unset, .unset, .unset, .unset, .unset] [(.long (65 : Int64)), (.long (cp.toInt64))])) rfl (hb hby at_23) t k) ?_
    obtain ⟨_, _, ⟨T1, L1, k1, n1⟩, -, X1, ⟨Lc1, hQ1, l1, y1, z1⟩, st1⟩ := Jvm.LawKit.callS XJ hx (y := (⟨"com/example/rekey/rekey/CharacterClassContainsPinLaw", "inRange", "(JJJ)Z"⟩ : MethodName)) hown (mvT hZ (hw _ (List.mem_of_getElem? (i := 2) rfl))) (mvT hZ (hw _ (List.mem_of_getElem? (i := 3) rfl))) (mvT hZ (hw _ (List.mem_of_getElem? (i := 4) rfl))) (mvT hZ (hw _ (List.mem_of_getElem? (i := 5) rfl))) (by decide) (backOf (W := 0) (rm1 l Z a0 hw [] (cp.toInt64) (65 : Int64) (26 : Int64)  h0 n0 Z0 ) hZ (hw _ (List.mem_of_getElem? (i := 5) rfl)) (hw _ (List.mem_of_getElem? (i := 4) rfl)) (by decide) (by decide)) (g := (mkF m 26 #[.val (.int p1), .val (.int p2), .val (.int cp), .val (.long (cp.toInt64)), .second, .unset, .unset, .unset, .unset, .unset, .unset, .unset, .unset] [(.long (26 : Int64)), (.long (65 : Int64)), (.long (cp.toInt64))])) rfl (by rw [hml]; rfl) (argsL := [(.long (cp.toInt64)), (.long (65 : Int64)), (.long (26 : Int64))]) (rest := []) (lenOf pd_1 rfl) rfl (by show 2 * 0 + _ ≤ _; exact Nat.le_of_eq rfl) (hb hby at_26) (fun _ _ => ⟨rfl, eJ, (by decide : 0 + 0 ≤ _), (by decide : 0 + 0 ≤ _)⟩)
    dsimp only [Pt.U, Pt.locs, Pt.cells, Pt.slots] at X1 l1 y1 z1 st1 hQ1
    subst l1 y1 z1
    obtain ⟨rfl, N1q, e1⟩ := hQ1
    have N1 := Fr.app NJ N1q
    refine own_s (B := T1.setTop (mkF m 29 #[.val (.int p1), .val (.int p2), .val (.int cp), .val (.long (cp.toInt64)), .second, .unset, .unset, .unset, .unset, .unset, .unset, .unset, .unset] [(.int (bz (inR (cp.toInt64) (65 : Int64) (26 : Int64))))])) st1 ?_
    refine own_s (B := T1.setTop (mkF m 31 #[.val (.int p1), .val (.int p2), .val (.int cp), .val (.long (cp.toInt64)), .second, .val (.int (bz (inR (cp.toInt64) (65 : Int64) (26 : Int64)))), .unset, .unset, .unset, .unset, .unset, .unset, .unset] [])) (fun t k => XS.istore X1.here hx rfl (hb hby at_29) rfl (l' := #[.val (.int p1), .val (.int p2), .val (.int cp), .val (.long (cp.toInt64)), .second, .val (.int (bz (inR (cp.toInt64) (65 : Int64) (26 : Int64)))), .unset, .unset, .unset, .unset, .unset, .unset, .unset]) rfl k) ?_
    refine own_s (B := T1.setTop (mkF m 32 #[.val (.int p1), .val (.int p2), .val (.int cp), .val (.long (cp.toInt64)), .second, .val (.int (bz (inR (cp.toInt64) (65 : Int64) (26 : Int64)))), .unset, .unset, .unset, .unset, .unset, .unset, .unset] [(.long (cp.toInt64))])) (fun t k => XS.lloadN X1.here hx rfl (hb hby at_31) rfl k) ?_
    refine own_s (B := T1.setTop (mkF m 35 #[.val (.int p1), .val (.int p2), .val (.int cp), .val (.long (cp.toInt64)), .second, .val (.int (bz (inR (cp.toInt64) (65 : Int64) (26 : Int64)))), .unset, .unset, .unset, .unset, .unset, .unset, .unset] [(.long (97 : Int64)), (.long (cp.toInt64))])) (fun t k => X1.ldc2Long hx hown (mvT hZ (hw _ (List.mem_of_getElem? (i := 6) rfl))) (g := (mkF m 32 #[.val (.int p1), .val (.int p2), .val (.int cp), .val (.long (cp.toInt64)), .second, .val (.int (bz (inR (cp.toInt64) (65 : Int64) (26 : Int64)))), .unset, .unset, .unset, .unset, .unset, .unset, .unset] [(.long (cp.toInt64))])) rfl (hb hby at_32) t k) ?_
    refine own_s (B := T1.setTop (mkF m 38 #[.val (.int p1), .val (.int p2), .val (.int cp), .val (.long (cp.toInt64)), .second, .val (.int (bz (inR (cp.toInt64) (65 : Int64) (26 : Int64)))), .unset, .unset, .unset, .unset, .unset, .unset, .unset] [(.long (26 : Int64)), (.long (97 : Int64)), (.long (cp.toInt64))])) (fun t k => X1.ldc2Long hx hown (mvT hZ (hw _ (List.mem_of_getElem? (i := 1) rfl))) (g := (mkF m 35 #[.val (.int p1), .val (.int p2), .val (.int cp), .val (.long (cp.toInt64)), .second, .val (.int (bz (inR (cp.toInt64) (65 : Int64) (26 : Int64)))), .unset, .unset, .unset, .unset, .unset, .unset, .unset] [(.long (97 : Int64)), (.long (cp.toInt64))])) rfl (hb hby at_35) t k) ?_
    obtain ⟨_, _, ⟨T2, L2, k2, n2⟩, -, X2, ⟨Lc2, hQ2, l2, y2, z2⟩, st2⟩ := Jvm.LawKit.callS X1 hx (y := (⟨"com/example/rekey/rekey/CharacterClassContainsPinLaw", "inRange", "(JJJ)Z"⟩ : MethodName)) hown (mvT hZ (hw _ (List.mem_of_getElem? (i := 2) rfl))) (mvT hZ (hw _ (List.mem_of_getElem? (i := 3) rfl))) (mvT hZ (hw _ (List.mem_of_getElem? (i := 4) rfl))) (mvT hZ (hw _ (List.mem_of_getElem? (i := 5) rfl))) (by decide) (backOf (W := 0) (rm1 l Z a0 hw [] (cp.toInt64) (97 : Int64) (26 : Int64)  h0 n0 Z0 ) hZ (hw _ (List.mem_of_getElem? (i := 5) rfl)) (hw _ (List.mem_of_getElem? (i := 4) rfl)) (by decide) (by decide)) (g := (mkF m 38 #[.val (.int p1), .val (.int p2), .val (.int cp), .val (.long (cp.toInt64)), .second, .val (.int (bz (inR (cp.toInt64) (65 : Int64) (26 : Int64)))), .unset, .unset, .unset, .unset, .unset, .unset, .unset] [(.long (26 : Int64)), (.long (97 : Int64)), (.long (cp.toInt64))])) rfl (by rw [hml]; rfl) (argsL := [(.long (cp.toInt64)), (.long (97 : Int64)), (.long (26 : Int64))]) (rest := []) (lenOf pd_1 rfl) rfl (by show 2 * 0 + _ ≤ _; exact Nat.le_of_eq rfl) (hb hby at_38) (fun _ _ => ⟨rfl, e1, (by decide : 0 + 0 ≤ _), (by decide : 0 + 0 ≤ _)⟩)
    dsimp only [Pt.U, Pt.locs, Pt.cells, Pt.slots] at X2 l2 y2 z2 st2 hQ2
    subst l2 y2 z2
    obtain ⟨rfl, N2q, e2⟩ := hQ2
    have N2 := Fr.app N1 N2q
    refine own_s (B := T2.setTop (mkF m 41 #[.val (.int p1), .val (.int p2), .val (.int cp), .val (.long (cp.toInt64)), .second, .val (.int (bz (inR (cp.toInt64) (65 : Int64) (26 : Int64)))), .unset, .unset, .unset, .unset, .unset, .unset, .unset] [(.int (bz (inR (cp.toInt64) (97 : Int64) (26 : Int64))))])) st2 ?_
    refine own_s (B := T2.setTop (mkF m 43 #[.val (.int p1), .val (.int p2), .val (.int cp), .val (.long (cp.toInt64)), .second, .val (.int (bz (inR (cp.toInt64) (65 : Int64) (26 : Int64)))), .val (.int (bz (inR (cp.toInt64) (97 : Int64) (26 : Int64)))), .unset, .unset, .unset, .unset, .unset, .unset] [])) (fun t k => XS.istore X2.here hx rfl (hb hby at_41) rfl (l' := #[.val (.int p1), .val (.int p2), .val (.int cp), .val (.long (cp.toInt64)), .second, .val (.int (bz (inR (cp.toInt64) (65 : Int64) (26 : Int64)))), .val (.int (bz (inR (cp.toInt64) (97 : Int64) (26 : Int64)))), .unset, .unset, .unset, .unset, .unset, .unset]) rfl k) ?_
    refine own_s (B := T2.setTop (mkF m 44 #[.val (.int p1), .val (.int p2), .val (.int cp), .val (.long (cp.toInt64)), .second, .val (.int (bz (inR (cp.toInt64) (65 : Int64) (26 : Int64)))), .val (.int (bz (inR (cp.toInt64) (97 : Int64) (26 : Int64)))), .unset, .unset, .unset, .unset, .unset, .unset] [(.long (cp.toInt64))])) (fun t k => XS.lloadN X2.here hx rfl (hb hby at_43) rfl k) ?_
    refine own_s (B := T2.setTop (mkF m 47 #[.val (.int p1), .val (.int p2), .val (.int cp), .val (.long (cp.toInt64)), .second, .val (.int (bz (inR (cp.toInt64) (65 : Int64) (26 : Int64)))), .val (.int (bz (inR (cp.toInt64) (97 : Int64) (26 : Int64)))), .unset, .unset, .unset, .unset, .unset, .unset] [(.long (48 : Int64)), (.long (cp.toInt64))])) (fun t k => X2.ldc2Long hx hown (mvT hZ (hw _ (List.mem_of_getElem? (i := 7) rfl))) (g := (mkF m 44 #[.val (.int p1), .val (.int p2), .val (.int cp), .val (.long (cp.toInt64)), .second, .val (.int (bz (inR (cp.toInt64) (65 : Int64) (26 : Int64)))), .val (.int (bz (inR (cp.toInt64) (97 : Int64) (26 : Int64)))), .unset, .unset, .unset, .unset, .unset, .unset] [(.long (cp.toInt64))])) rfl (hb hby at_44) t k) ?_
    refine own_s (B := T2.setTop (mkF m 50 #[.val (.int p1), .val (.int p2), .val (.int cp), .val (.long (cp.toInt64)), .second, .val (.int (bz (inR (cp.toInt64) (65 : Int64) (26 : Int64)))), .val (.int (bz (inR (cp.toInt64) (97 : Int64) (26 : Int64)))), .unset, .unset, .unset, .unset, .unset, .unset] [(.long (10 : Int64)), (.long (48 : Int64)), (.long (cp.toInt64))])) (fun t k => X2.ldc2Long hx hown (mvT hZ (hw _ (List.mem_of_getElem? (i := 8) rfl))) (g := (mkF m 47 #[.val (.int p1), .val (.int p2), .val (.int cp), .val (.long (cp.toInt64)), .second, .val (.int (bz (inR (cp.toInt64) (65 : Int64) (26 : Int64)))), .val (.int (bz (inR (cp.toInt64) (97 : Int64) (26 : Int64)))), .unset, .unset, .unset, .unset, .unset, .unset] [(.long (48 : Int64)), (.long (cp.toInt64))])) rfl (hb hby at_47) t k) ?_
    obtain ⟨_, _, ⟨T3, L3, k3, n3⟩, -, X3, ⟨Lc3, hQ3, l3, y3, z3⟩, st3⟩ := Jvm.LawKit.callS X2 hx (y := (⟨"com/example/rekey/rekey/CharacterClassContainsPinLaw", "inRange", "(JJJ)Z"⟩ : MethodName)) hown (mvT hZ (hw _ (List.mem_of_getElem? (i := 2) rfl))) (mvT hZ (hw _ (List.mem_of_getElem? (i := 3) rfl))) (mvT hZ (hw _ (List.mem_of_getElem? (i := 4) rfl))) (mvT hZ (hw _ (List.mem_of_getElem? (i := 5) rfl))) (by decide) (backOf (W := 0) (rm1 l Z a0 hw [] (cp.toInt64) (48 : Int64) (10 : Int64)  h0 n0 Z0 ) hZ (hw _ (List.mem_of_getElem? (i := 5) rfl)) (hw _ (List.mem_of_getElem? (i := 4) rfl)) (by decide) (by decide)) (g := (mkF m 50 #[.val (.int p1), .val (.int p2), .val (.int cp), .val (.long (cp.toInt64)), .second, .val (.int (bz (inR (cp.toInt64) (65 : Int64) (26 : Int64)))), .val (.int (bz (inR (cp.toInt64) (97 : Int64) (26 : Int64)))), .unset, .unset, .unset, .unset, .unset, .unset] [(.long (10 : Int64)), (.long (48 : Int64)), (.long (cp.toInt64))])) rfl (by rw [hml]; rfl) (argsL := [(.long (cp.toInt64)), (.long (48 : Int64)), (.long (10 : Int64))]) (rest := []) (lenOf pd_1 rfl) rfl (by show 2 * 0 + _ ≤ _; exact Nat.le_of_eq rfl) (hb hby at_50) (fun _ _ => ⟨rfl, e2, (by decide : 0 + 0 ≤ _), (by decide : 0 + 0 ≤ _)⟩)
    dsimp only [Pt.U, Pt.locs, Pt.cells, Pt.slots] at X3 l3 y3 z3 st3 hQ3
    subst l3 y3 z3
    obtain ⟨rfl, N3q, e3⟩ := hQ3
    have N3 := Fr.app N2 N3q
    refine own_s (B := T3.setTop (mkF m 53 #[.val (.int p1), .val (.int p2), .val (.int cp), .val (.long (cp.toInt64)), .second, .val (.int (bz (inR (cp.toInt64) (65 : Int64) (26 : Int64)))), .val (.int (bz (inR (cp.toInt64) (97 : Int64) (26 : Int64)))), .unset, .unset, .unset, .unset, .unset, .unset] [(.int (bz (inR (cp.toInt64) (48 : Int64) (10 : Int64))))])) st3 ?_
    refine own_s (B := T3.setTop (mkF m 55 #[.val (.int p1), .val (.int p2), .val (.int cp), .val (.long (cp.toInt64)), .second, .val (.int (bz (inR (cp.toInt64) (65 : Int64) (26 : Int64)))), .val (.int (bz (inR (cp.toInt64) (97 : Int64) (26 : Int64)))), .val (.int (bz (inR (cp.toInt64) (48 : Int64) (10 : Int64)))), .unset, .unset, .unset, .unset, .unset] [])) (fun t k => XS.istore X3.here hx rfl (hb hby at_53) rfl (l' := #[.val (.int p1), .val (.int p2), .val (.int cp), .val (.long (cp.toInt64)), .second, .val (.int (bz (inR (cp.toInt64) (65 : Int64) (26 : Int64)))), .val (.int (bz (inR (cp.toInt64) (97 : Int64) (26 : Int64)))), .val (.int (bz (inR (cp.toInt64) (48 : Int64) (10 : Int64)))), .unset, .unset, .unset, .unset, .unset]) rfl k) ?_
    obtain ⟨T4, X4, e4, st4⟩ := getS2 X3 hx hZ hown (host := "") (Or.inl (hw _ (List.mem_of_getElem? (i := 9) rfl))) Via.refl e3 SUPPER (g := (mkF m 55 #[.val (.int p1), .val (.int p2), .val (.int cp), .val (.long (cp.toInt64)), .second, .val (.int (bz (inR (cp.toInt64) (65 : Int64) (26 : Int64)))), .val (.int (bz (inR (cp.toInt64) (97 : Int64) (26 : Int64)))), .val (.int (bz (inR (cp.toInt64) (48 : Int64) (10 : Int64)))), .unset, .unset, .unset, .unset, .unset] [])) rfl (hb hby at_55)
    refine own_s (B := T4.setTop (mkF m 58 #[.val (.int p1), .val (.int p2), .val (.int cp), .val (.long (cp.toInt64)), .second, .val (.int (bz (inR (cp.toInt64) (65 : Int64) (26 : Int64)))), .val (.int (bz (inR (cp.toInt64) (97 : Int64) (26 : Int64)))), .val (.int (bz (inR (cp.toInt64) (48 : Int64) (10 : Int64)))), .unset, .unset, .unset, .unset, .unset] [(.ref wUPPER)])) st4 ?_
    refine own_s (B := T4.setTop (mkF m 59 #[.val (.int p1), .val (.int p2), .val (.int cp), .val (.long (cp.toInt64)), .second, .val (.int (bz (inR (cp.toInt64) (65 : Int64) (26 : Int64)))), .val (.int (bz (inR (cp.toInt64) (97 : Int64) (26 : Int64)))), .val (.int (bz (inR (cp.toInt64) (48 : Int64) (10 : Int64)))), .unset, .unset, .unset, .unset, .unset] [(.int cp), (.ref wUPPER)])) (fun t k => XS.iloadN X4.here hx rfl (hb hby at_58) rfl k) ?_
    obtain ⟨cq5, kq5, q5a, q5b, q5c⟩ := isOf hZ e4 XUPPER
    obtain ⟨_, _, ⟨T5, L5, k5, n5⟩, -, X5, ⟨Lc5, hQ5, l5, y5, z5⟩, st5⟩ := X4.virtualBack hx (y := (⟨"com/example/rekey/rekey/PasswordPolicy$CharacterClass", "contains", "(I)Z"⟩ : MethodName)) (z := (⟨"com/example/rekey/rekey/PasswordPolicy$CharacterClass", "contains", "(I)Z"⟩ : MethodName)) hown (mvT hZ (hw _ (List.mem_of_getElem? (i := 12) rfl))) (mvT hZ (hw _ (List.mem_of_getElem? (i := 13) rfl))) (notFace_of_selects (args := #[]) (mvT hZ (hw _ (List.mem_of_getElem? (i := 15) rfl)))) (mvT hZ (hw _ (List.mem_of_getElem? (i := 15) rfl))) (mvT hZ (hw _ (List.mem_of_getElem? (i := 14) rfl))) (by decide) (backOf (W := 0) (rm2 l Z a0 hw [] wUPPER cp (0 : Int32) h0 n0 Z0 FUPPER XUPPER (by decide)) hZ (hw _ (List.mem_of_getElem? (i := 16) rfl)) (hw _ (List.mem_of_getElem? (i := 10) rfl)) (by decide) (by decide)) q5a q5c (g := (mkF m 59 #[.val (.int p1), .val (.int p2), .val (.int cp), .val (.long (cp.toInt64)), .second, .val (.int (bz (inR (cp.toInt64) (65 : Int64) (26 : Int64)))), .val (.int (bz (inR (cp.toInt64) (97 : Int64) (26 : Int64)))), .val (.int (bz (inR (cp.toInt64) (48 : Int64) (10 : Int64)))), .unset, .unset, .unset, .unset, .unset] [(.int cp), (.ref wUPPER)])) rfl (by rw [hml]; rfl) (Steps.refl _) (argsL := [(.int cp)]) (rest := []) (lenOf pd_2 rfl) rfl (by show 2 * 0 + _ ≤ _; exact Nat.le_of_eq rfl) (hb hby at_59) (fun _ _ => ⟨rfl, e4, (by decide : 0 + 0 ≤ _), (by decide : 0 + 0 ≤ _)⟩)
    dsimp only [Pt.U, Pt.locs, Pt.cells, Pt.slots] at X5 l5 y5 z5 st5 hQ5
    subst l5 y5 z5
    obtain ⟨rfl, N5q, e5⟩ := hQ5
    have N5 := Fr.app N3 N5q
    refine own_s (B := T5.setTop (mkF m 62 #[.val (.int p1), .val (.int p2), .val (.int cp), .val (.long (cp.toInt64)), .second, .val (.int (bz (inR (cp.toInt64) (65 : Int64) (26 : Int64)))), .val (.int (bz (inR (cp.toInt64) (97 : Int64) (26 : Int64)))), .val (.int (bz (inR (cp.toInt64) (48 : Int64) (10 : Int64)))), .unset, .unset, .unset, .unset, .unset] [(.int (ctS (0 : Int32) cp))])) (fun t k => st5.trans k) ?_
    refine own_s (B := T5.setTop (mkF m 64 #[.val (.int p1), .val (.int p2), .val (.int cp), .val (.long (cp.toInt64)), .second, .val (.int (bz (inR (cp.toInt64) (65 : Int64) (26 : Int64)))), .val (.int (bz (inR (cp.toInt64) (97 : Int64) (26 : Int64)))), .val (.int (bz (inR (cp.toInt64) (48 : Int64) (10 : Int64)))), .val (.int (ctS (0 : Int32) cp)), .unset, .unset, .unset, .unset] [])) (fun t k => XS.istore X5.here hx rfl (hb hby at_62) rfl (l' := #[.val (.int p1), .val (.int p2), .val (.int cp), .val (.long (cp.toInt64)), .second, .val (.int (bz (inR (cp.toInt64) (65 : Int64) (26 : Int64)))), .val (.int (bz (inR (cp.toInt64) (97 : Int64) (26 : Int64)))), .val (.int (bz (inR (cp.toInt64) (48 : Int64) (10 : Int64)))), .val (.int (ctS (0 : Int32) cp)), .unset, .unset, .unset, .unset]) rfl k) ?_
    obtain ⟨T6, X6, e6, st6⟩ := getS2 X5 hx hZ hown (host := "") (Or.inl (hw _ (List.mem_of_getElem? (i := 26) rfl))) Via.refl e5 SLOWER (g := (mkF m 64 #[.val (.int p1), .val (.int p2), .val (.int cp), .val (.long (cp.toInt64)), .second, .val (.int (bz (inR (cp.toInt64) (65 : Int64) (26 : Int64)))), .val (.int (bz (inR (cp.toInt64) (97 : Int64) (26 : Int64)))), .val (.int (bz (inR (cp.toInt64) (48 : Int64) (10 : Int64)))), .val (.int (ctS (0 : Int32) cp)), .unset, .unset, .unset, .unset] [])) rfl (hb hby at_64)
    refine own_s (B := T6.setTop (mkF m 67 #[.val (.int p1), .val (.int p2), .val (.int cp), .val (.long (cp.toInt64)), .second, .val (.int (bz (inR (cp.toInt64) (65 : Int64) (26 : Int64)))), .val (.int (bz (inR (cp.toInt64) (97 : Int64) (26 : Int64)))), .val (.int (bz (inR (cp.toInt64) (48 : Int64) (10 : Int64)))), .val (.int (ctS (0 : Int32) cp)), .unset, .unset, .unset, .unset] [(.ref wLOWER)])) st6 ?_
    refine own_s (B := T6.setTop (mkF m 68 #[.val (.int p1), .val (.int p2), .val (.int cp), .val (.long (cp.toInt64)), .second, .val (.int (bz (inR (cp.toInt64) (65 : Int64) (26 : Int64)))), .val (.int (bz (inR (cp.toInt64) (97 : Int64) (26 : Int64)))), .val (.int (bz (inR (cp.toInt64) (48 : Int64) (10 : Int64)))), .val (.int (ctS (0 : Int32) cp)), .unset, .unset, .unset, .unset] [(.int cp), (.ref wLOWER)])) (fun t k => XS.iloadN X6.here hx rfl (hb hby at_67) rfl k) ?_
    obtain ⟨cq7, kq7, q7a, q7b, q7c⟩ := isOf hZ e6 XLOWER
    obtain ⟨_, _, ⟨T7, L7, k7, n7⟩, -, X7, ⟨Lc7, hQ7, l7, y7, z7⟩, st7⟩ := X6.virtualBack hx (y := (⟨"com/example/rekey/rekey/PasswordPolicy$CharacterClass", "contains", "(I)Z"⟩ : MethodName)) (z := (⟨"com/example/rekey/rekey/PasswordPolicy$CharacterClass", "contains", "(I)Z"⟩ : MethodName)) hown (mvT hZ (hw _ (List.mem_of_getElem? (i := 12) rfl))) (mvT hZ (hw _ (List.mem_of_getElem? (i := 13) rfl))) (notFace_of_selects (args := #[]) (mvT hZ (hw _ (List.mem_of_getElem? (i := 15) rfl)))) (mvT hZ (hw _ (List.mem_of_getElem? (i := 15) rfl))) (mvT hZ (hw _ (List.mem_of_getElem? (i := 14) rfl))) (by decide) (backOf (W := 0) (rm2 l Z a0 hw [] wLOWER cp (1 : Int32) h0 n0 Z0 FLOWER XLOWER (by decide)) hZ (hw _ (List.mem_of_getElem? (i := 16) rfl)) (hw _ (List.mem_of_getElem? (i := 10) rfl)) (by decide) (by decide)) q7a q7c (g := (mkF m 68 #[.val (.int p1), .val (.int p2), .val (.int cp), .val (.long (cp.toInt64)), .second, .val (.int (bz (inR (cp.toInt64) (65 : Int64) (26 : Int64)))), .val (.int (bz (inR (cp.toInt64) (97 : Int64) (26 : Int64)))), .val (.int (bz (inR (cp.toInt64) (48 : Int64) (10 : Int64)))), .val (.int (ctS (0 : Int32) cp)), .unset, .unset, .unset, .unset] [(.int cp), (.ref wLOWER)])) rfl (by rw [hml]; rfl) (Steps.refl _) (argsL := [(.int cp)]) (rest := []) (lenOf pd_2 rfl) rfl (by show 2 * 0 + _ ≤ _; exact Nat.le_of_eq rfl) (hb hby at_68) (fun _ _ => ⟨rfl, e6, (by decide : 0 + 0 ≤ _), (by decide : 0 + 0 ≤ _)⟩)
    dsimp only [Pt.U, Pt.locs, Pt.cells, Pt.slots] at X7 l7 y7 z7 st7 hQ7
    subst l7 y7 z7
    obtain ⟨rfl, N7q, e7⟩ := hQ7
    have N7 := Fr.app N5 N7q
    refine own_s (B := T7.setTop (mkF m 71 #[.val (.int p1), .val (.int p2), .val (.int cp), .val (.long (cp.toInt64)), .second, .val (.int (bz (inR (cp.toInt64) (65 : Int64) (26 : Int64)))), .val (.int (bz (inR (cp.toInt64) (97 : Int64) (26 : Int64)))), .val (.int (bz (inR (cp.toInt64) (48 : Int64) (10 : Int64)))), .val (.int (ctS (0 : Int32) cp)), .unset, .unset, .unset, .unset] [(.int (ctS (1 : Int32) cp))])) (fun t k => st7.trans k) ?_
    refine own_s (B := T7.setTop (mkF m 73 #[.val (.int p1), .val (.int p2), .val (.int cp), .val (.long (cp.toInt64)), .second, .val (.int (bz (inR (cp.toInt64) (65 : Int64) (26 : Int64)))), .val (.int (bz (inR (cp.toInt64) (97 : Int64) (26 : Int64)))), .val (.int (bz (inR (cp.toInt64) (48 : Int64) (10 : Int64)))), .val (.int (ctS (0 : Int32) cp)), .val (.int (ctS (1 : Int32) cp)), .unset, .unset, .unset] [])) (fun t k => XS.istore X7.here hx rfl (hb hby at_71) rfl (l' := #[.val (.int p1), .val (.int p2), .val (.int cp), .val (.long (cp.toInt64)), .second, .val (.int (bz (inR (cp.toInt64) (65 : Int64) (26 : Int64)))), .val (.int (bz (inR (cp.toInt64) (97 : Int64) (26 : Int64)))), .val (.int (bz (inR (cp.toInt64) (48 : Int64) (10 : Int64)))), .val (.int (ctS (0 : Int32) cp)), .val (.int (ctS (1 : Int32) cp)), .unset, .unset, .unset]) rfl k) ?_
    obtain ⟨T8, X8, e8, st8⟩ := getS2 X7 hx hZ hown (host := "") (Or.inl (hw _ (List.mem_of_getElem? (i := 28) rfl))) Via.refl e7 SLETTER (g := (mkF m 73 #[.val (.int p1), .val (.int p2), .val (.int cp), .val (.long (cp.toInt64)), .second, .val (.int (bz (inR (cp.toInt64) (65 : Int64) (26 : Int64)))), .val (.int (bz (inR (cp.toInt64) (97 : Int64) (26 : Int64)))), .val (.int (bz (inR (cp.toInt64) (48 : Int64) (10 : Int64)))), .val (.int (ctS (0 : Int32) cp)), .val (.int (ctS (1 : Int32) cp)), .unset, .unset, .unset] [])) rfl (hb hby at_73)
    refine own_s (B := T8.setTop (mkF m 76 #[.val (.int p1), .val (.int p2), .val (.int cp), .val (.long (cp.toInt64)), .second, .val (.int (bz (inR (cp.toInt64) (65 : Int64) (26 : Int64)))), .val (.int (bz (inR (cp.toInt64) (97 : Int64) (26 : Int64)))), .val (.int (bz (inR (cp.toInt64) (48 : Int64) (10 : Int64)))), .val (.int (ctS (0 : Int32) cp)), .val (.int (ctS (1 : Int32) cp)), .unset, .unset, .unset] [(.ref wLETTER)])) st8 ?_
    refine own_s (B := T8.setTop (mkF m 77 #[.val (.int p1), .val (.int p2), .val (.int cp), .val (.long (cp.toInt64)), .second, .val (.int (bz (inR (cp.toInt64) (65 : Int64) (26 : Int64)))), .val (.int (bz (inR (cp.toInt64) (97 : Int64) (26 : Int64)))), .val (.int (bz (inR (cp.toInt64) (48 : Int64) (10 : Int64)))), .val (.int (ctS (0 : Int32) cp)), .val (.int (ctS (1 : Int32) cp)), .unset, .unset, .unset] [(.int cp), (.ref wLETTER)])) (fun t k => XS.iloadN X8.here hx rfl (hb hby at_76) rfl k) ?_
    obtain ⟨cq9, kq9, q9a, q9b, q9c⟩ := isOf hZ e8 XLETTER
    obtain ⟨_, _, ⟨T9, L9, k9, n9⟩, -, X9, ⟨Lc9, hQ9, l9, y9, z9⟩, st9⟩ := X8.virtualBack hx (y := (⟨"com/example/rekey/rekey/PasswordPolicy$CharacterClass", "contains", "(I)Z"⟩ : MethodName)) (z := (⟨"com/example/rekey/rekey/PasswordPolicy$CharacterClass", "contains", "(I)Z"⟩ : MethodName)) hown (mvT hZ (hw _ (List.mem_of_getElem? (i := 12) rfl))) (mvT hZ (hw _ (List.mem_of_getElem? (i := 13) rfl))) (notFace_of_selects (args := #[]) (mvT hZ (hw _ (List.mem_of_getElem? (i := 15) rfl)))) (mvT hZ (hw _ (List.mem_of_getElem? (i := 15) rfl))) (mvT hZ (hw _ (List.mem_of_getElem? (i := 14) rfl))) (by decide) (backOf (W := 0) (rm2 l Z a0 hw [] wLETTER cp (2 : Int32) h0 n0 Z0 FLETTER XLETTER (by decide)) hZ (hw _ (List.mem_of_getElem? (i := 16) rfl)) (hw _ (List.mem_of_getElem? (i := 10) rfl)) (by decide) (by decide)) q9a q9c (g := (mkF m 77 #[.val (.int p1), .val (.int p2), .val (.int cp), .val (.long (cp.toInt64)), .second, .val (.int (bz (inR (cp.toInt64) (65 : Int64) (26 : Int64)))), .val (.int (bz (inR (cp.toInt64) (97 : Int64) (26 : Int64)))), .val (.int (bz (inR (cp.toInt64) (48 : Int64) (10 : Int64)))), .val (.int (ctS (0 : Int32) cp)), .val (.int (ctS (1 : Int32) cp)), .unset, .unset, .unset] [(.int cp), (.ref wLETTER)])) rfl (by rw [hml]; rfl) (Steps.refl _) (argsL := [(.int cp)]) (rest := []) (lenOf pd_2 rfl) rfl (by show 2 * 0 + _ ≤ _; exact Nat.le_of_eq rfl) (hb hby at_77) (fun _ _ => ⟨rfl, e8, (by decide : 0 + 0 ≤ _), (by decide : 0 + 0 ≤ _)⟩)
    dsimp only [Pt.U, Pt.locs, Pt.cells, Pt.slots] at X9 l9 y9 z9 st9 hQ9
    subst l9 y9 z9
    obtain ⟨rfl, N9q, e9⟩ := hQ9
    have N9 := Fr.app N7 N9q
    refine own_s (B := T9.setTop (mkF m 80 #[.val (.int p1), .val (.int p2), .val (.int cp), .val (.long (cp.toInt64)), .second, .val (.int (bz (inR (cp.toInt64) (65 : Int64) (26 : Int64)))), .val (.int (bz (inR (cp.toInt64) (97 : Int64) (26 : Int64)))), .val (.int (bz (inR (cp.toInt64) (48 : Int64) (10 : Int64)))), .val (.int (ctS (0 : Int32) cp)), .val (.int (ctS (1 : Int32) cp)), .unset, .unset, .unset] [(.int (ctS (2 : Int32) cp))])) (fun t k => st9.trans k) ?_
    refine own_s (B := T9.setTop (mkF m 82 #[.val (.int p1), .val (.int p2), .val (.int cp), .val (.long (cp.toInt64)), .second, .val (.int (bz (inR (cp.toInt64) (65 : Int64) (26 : Int64)))), .val (.int (bz (inR (cp.toInt64) (97 : Int64) (26 : Int64)))), .val (.int (bz (inR (cp.toInt64) (48 : Int64) (10 : Int64)))), .val (.int (ctS (0 : Int32) cp)), .val (.int (ctS (1 : Int32) cp)), .val (.int (ctS (2 : Int32) cp)), .unset, .unset] [])) (fun t k => XS.istore X9.here hx rfl (hb hby at_80) rfl (l' := #[.val (.int p1), .val (.int p2), .val (.int cp), .val (.long (cp.toInt64)), .second, .val (.int (bz (inR (cp.toInt64) (65 : Int64) (26 : Int64)))), .val (.int (bz (inR (cp.toInt64) (97 : Int64) (26 : Int64)))), .val (.int (bz (inR (cp.toInt64) (48 : Int64) (10 : Int64)))), .val (.int (ctS (0 : Int32) cp)), .val (.int (ctS (1 : Int32) cp)), .val (.int (ctS (2 : Int32) cp)), .unset, .unset]) rfl k) ?_
    obtain ⟨T10, X10, e10, st10⟩ := getS2 X9 hx hZ hown (host := "") (Or.inl (hw _ (List.mem_of_getElem? (i := 30) rfl))) Via.refl e9 SDIGIT (g := (mkF m 82 #[.val (.int p1), .val (.int p2), .val (.int cp), .val (.long (cp.toInt64)), .second, .val (.int (bz (inR (cp.toInt64) (65 : Int64) (26 : Int64)))), .val (.int (bz (inR (cp.toInt64) (97 : Int64) (26 : Int64)))), .val (.int (bz (inR (cp.toInt64) (48 : Int64) (10 : Int64)))), .val (.int (ctS (0 : Int32) cp)), .val (.int (ctS (1 : Int32) cp)), .val (.int (ctS (2 : Int32) cp)), .unset, .unset] [])) rfl (hb hby at_82)
    refine own_s (B := T10.setTop (mkF m 85 #[.val (.int p1), .val (.int p2), .val (.int cp), .val (.long (cp.toInt64)), .second, .val (.int (bz (inR (cp.toInt64) (65 : Int64) (26 : Int64)))), .val (.int (bz (inR (cp.toInt64) (97 : Int64) (26 : Int64)))), .val (.int (bz (inR (cp.toInt64) (48 : Int64) (10 : Int64)))), .val (.int (ctS (0 : Int32) cp)), .val (.int (ctS (1 : Int32) cp)), .val (.int (ctS (2 : Int32) cp)), .unset, .unset] [(.ref wDIGIT)])) st10 ?_
    refine own_s (B := T10.setTop (mkF m 86 #[.val (.int p1), .val (.int p2), .val (.int cp), .val (.long (cp.toInt64)), .second, .val (.int (bz (inR (cp.toInt64) (65 : Int64) (26 : Int64)))), .val (.int (bz (inR (cp.toInt64) (97 : Int64) (26 : Int64)))), .val (.int (bz (inR (cp.toInt64) (48 : Int64) (10 : Int64)))), .val (.int (ctS (0 : Int32) cp)), .val (.int (ctS (1 : Int32) cp)), .val (.int (ctS (2 : Int32) cp)), .unset, .unset] [(.int cp), (.ref wDIGIT)])) (fun t k => XS.iloadN X10.here hx rfl (hb hby at_85) rfl k) ?_
    obtain ⟨cq11, kq11, q11a, q11b, q11c⟩ := isOf hZ e10 XDIGIT
    obtain ⟨_, _, ⟨T11, L11, k11, n11⟩, -, X11, ⟨Lc11, hQ11, l11, y11, z11⟩, st11⟩ := X10.virtualBack hx (y := (⟨"com/example/rekey/rekey/PasswordPolicy$CharacterClass", "contains", "(I)Z"⟩ : MethodName)) (z := (⟨"com/example/rekey/rekey/PasswordPolicy$CharacterClass", "contains", "(I)Z"⟩ : MethodName)) hown (mvT hZ (hw _ (List.mem_of_getElem? (i := 12) rfl))) (mvT hZ (hw _ (List.mem_of_getElem? (i := 13) rfl))) (notFace_of_selects (args := #[]) (mvT hZ (hw _ (List.mem_of_getElem? (i := 15) rfl)))) (mvT hZ (hw _ (List.mem_of_getElem? (i := 15) rfl))) (mvT hZ (hw _ (List.mem_of_getElem? (i := 14) rfl))) (by decide) (backOf (W := 0) (rm2 l Z a0 hw [] wDIGIT cp (3 : Int32) h0 n0 Z0 FDIGIT XDIGIT (by decide)) hZ (hw _ (List.mem_of_getElem? (i := 16) rfl)) (hw _ (List.mem_of_getElem? (i := 10) rfl)) (by decide) (by decide)) q11a q11c (g := (mkF m 86 #[.val (.int p1), .val (.int p2), .val (.int cp), .val (.long (cp.toInt64)), .second, .val (.int (bz (inR (cp.toInt64) (65 : Int64) (26 : Int64)))), .val (.int (bz (inR (cp.toInt64) (97 : Int64) (26 : Int64)))), .val (.int (bz (inR (cp.toInt64) (48 : Int64) (10 : Int64)))), .val (.int (ctS (0 : Int32) cp)), .val (.int (ctS (1 : Int32) cp)), .val (.int (ctS (2 : Int32) cp)), .unset, .unset] [(.int cp), (.ref wDIGIT)])) rfl (by rw [hml]; rfl) (Steps.refl _) (argsL := [(.int cp)]) (rest := []) (lenOf pd_2 rfl) rfl (by show 2 * 0 + _ ≤ _; exact Nat.le_of_eq rfl) (hb hby at_86) (fun _ _ => ⟨rfl, e10, (by decide : 0 + 0 ≤ _), (by decide : 0 + 0 ≤ _)⟩)
    dsimp only [Pt.U, Pt.locs, Pt.cells, Pt.slots] at X11 l11 y11 z11 st11 hQ11
    subst l11 y11 z11
    obtain ⟨rfl, N11q, e11⟩ := hQ11
    have N11 := Fr.app N9 N11q
    refine own_s (B := T11.setTop (mkF m 89 #[.val (.int p1), .val (.int p2), .val (.int cp), .val (.long (cp.toInt64)), .second, .val (.int (bz (inR (cp.toInt64) (65 : Int64) (26 : Int64)))), .val (.int (bz (inR (cp.toInt64) (97 : Int64) (26 : Int64)))), .val (.int (bz (inR (cp.toInt64) (48 : Int64) (10 : Int64)))), .val (.int (ctS (0 : Int32) cp)), .val (.int (ctS (1 : Int32) cp)), .val (.int (ctS (2 : Int32) cp)), .unset, .unset] [(.int (ctS (3 : Int32) cp))])) (fun t k => st11.trans k) ?_
    refine own_s (B := T11.setTop (mkF m 91 #[.val (.int p1), .val (.int p2), .val (.int cp), .val (.long (cp.toInt64)), .second, .val (.int (bz (inR (cp.toInt64) (65 : Int64) (26 : Int64)))), .val (.int (bz (inR (cp.toInt64) (97 : Int64) (26 : Int64)))), .val (.int (bz (inR (cp.toInt64) (48 : Int64) (10 : Int64)))), .val (.int (ctS (0 : Int32) cp)), .val (.int (ctS (1 : Int32) cp)), .val (.int (ctS (2 : Int32) cp)), .val (.int (ctS (3 : Int32) cp)), .unset] [])) (fun t k => XS.istore X11.here hx rfl (hb hby at_89) rfl (l' := #[.val (.int p1), .val (.int p2), .val (.int cp), .val (.long (cp.toInt64)), .second, .val (.int (bz (inR (cp.toInt64) (65 : Int64) (26 : Int64)))), .val (.int (bz (inR (cp.toInt64) (97 : Int64) (26 : Int64)))), .val (.int (bz (inR (cp.toInt64) (48 : Int64) (10 : Int64)))), .val (.int (ctS (0 : Int32) cp)), .val (.int (ctS (1 : Int32) cp)), .val (.int (ctS (2 : Int32) cp)), .val (.int (ctS (3 : Int32) cp)), .unset]) rfl k) ?_
    obtain ⟨T12, X12, e12, st12⟩ := getS2 X11 hx hZ hown (host := "") (Or.inl (hw _ (List.mem_of_getElem? (i := 32) rfl))) Via.refl e11 SSPECIAL (g := (mkF m 91 #[.val (.int p1), .val (.int p2), .val (.int cp), .val (.long (cp.toInt64)), .second, .val (.int (bz (inR (cp.toInt64) (65 : Int64) (26 : Int64)))), .val (.int (bz (inR (cp.toInt64) (97 : Int64) (26 : Int64)))), .val (.int (bz (inR (cp.toInt64) (48 : Int64) (10 : Int64)))), .val (.int (ctS (0 : Int32) cp)), .val (.int (ctS (1 : Int32) cp)), .val (.int (ctS (2 : Int32) cp)), .val (.int (ctS (3 : Int32) cp)), .unset] [])) rfl (hb hby at_91)
    refine own_s (B := T12.setTop (mkF m 94 #[.val (.int p1), .val (.int p2), .val (.int cp), .val (.long (cp.toInt64)), .second, .val (.int (bz (inR (cp.toInt64) (65 : Int64) (26 : Int64)))), .val (.int (bz (inR (cp.toInt64) (97 : Int64) (26 : Int64)))), .val (.int (bz (inR (cp.toInt64) (48 : Int64) (10 : Int64)))), .val (.int (ctS (0 : Int32) cp)), .val (.int (ctS (1 : Int32) cp)), .val (.int (ctS (2 : Int32) cp)), .val (.int (ctS (3 : Int32) cp)), .unset] [(.ref wSPECIAL)])) st12 ?_
    refine own_s (B := T12.setTop (mkF m 95 #[.val (.int p1), .val (.int p2), .val (.int cp), .val (.long (cp.toInt64)), .second, .val (.int (bz (inR (cp.toInt64) (65 : Int64) (26 : Int64)))), .val (.int (bz (inR (cp.toInt64) (97 : Int64) (26 : Int64)))), .val (.int (bz (inR (cp.toInt64) (48 : Int64) (10 : Int64)))), .val (.int (ctS (0 : Int32) cp)), .val (.int (ctS (1 : Int32) cp)), .val (.int (ctS (2 : Int32) cp)), .val (.int (ctS (3 : Int32) cp)), .unset] [(.int cp), (.ref wSPECIAL)])) (fun t k => XS.iloadN X12.here hx rfl (hb hby at_94) rfl k) ?_
    obtain ⟨cq13, kq13, q13a, q13b, q13c⟩ := isOf hZ e12 XSPECIAL
    obtain ⟨_, _, ⟨T13, L13, k13, n13⟩, -, X13, ⟨Lc13, hQ13, l13, y13, z13⟩, st13⟩ := X12.virtualBack hx (y := (⟨"com/example/rekey/rekey/PasswordPolicy$CharacterClass", "contains", "(I)Z"⟩ : MethodName)) (z := (⟨"com/example/rekey/rekey/PasswordPolicy$CharacterClass", "contains", "(I)Z"⟩ : MethodName)) hown (mvT hZ (hw _ (List.mem_of_getElem? (i := 12) rfl))) (mvT hZ (hw _ (List.mem_of_getElem? (i := 13) rfl))) (notFace_of_selects (args := #[]) (mvT hZ (hw _ (List.mem_of_getElem? (i := 15) rfl)))) (mvT hZ (hw _ (List.mem_of_getElem? (i := 15) rfl))) (mvT hZ (hw _ (List.mem_of_getElem? (i := 14) rfl))) (by decide) (backOf (W := 0) (rm2 l Z a0 hw [] wSPECIAL cp (4 : Int32) h0 n0 Z0 FSPECIAL XSPECIAL (by decide)) hZ (hw _ (List.mem_of_getElem? (i := 16) rfl)) (hw _ (List.mem_of_getElem? (i := 10) rfl)) (by decide) (by decide)) q13a q13c (g := (mkF m 95 #[.val (.int p1), .val (.int p2), .val (.int cp), .val (.long (cp.toInt64)), .second, .val (.int (bz (inR (cp.toInt64) (65 : Int64) (26 : Int64)))), .val (.int (bz (inR (cp.toInt64) (97 : Int64) (26 : Int64)))), .val (.int (bz (inR (cp.toInt64) (48 : Int64) (10 : Int64)))), .val (.int (ctS (0 : Int32) cp)), .val (.int (ctS (1 : Int32) cp)), .val (.int (ctS (2 : Int32) cp)), .val (.int (ctS (3 : Int32) cp)), .unset] [(.int cp), (.ref wSPECIAL)])) rfl (by rw [hml]; rfl) (Steps.refl _) (argsL := [(.int cp)]) (rest := []) (lenOf pd_2 rfl) rfl (by show 2 * 0 + _ ≤ _; exact Nat.le_of_eq rfl) (hb hby at_95) (fun _ _ => ⟨rfl, e12, (by decide : 0 + 0 ≤ _), (by decide : 0 + 0 ≤ _)⟩)
    dsimp only [Pt.U, Pt.locs, Pt.cells, Pt.slots] at X13 l13 y13 z13 st13 hQ13
    subst l13 y13 z13
    obtain ⟨rfl, N13q, e13⟩ := hQ13
    have N13 := Fr.app N11 N13q
    refine own_s (B := T13.setTop (mkF m 98 #[.val (.int p1), .val (.int p2), .val (.int cp), .val (.long (cp.toInt64)), .second, .val (.int (bz (inR (cp.toInt64) (65 : Int64) (26 : Int64)))), .val (.int (bz (inR (cp.toInt64) (97 : Int64) (26 : Int64)))), .val (.int (bz (inR (cp.toInt64) (48 : Int64) (10 : Int64)))), .val (.int (ctS (0 : Int32) cp)), .val (.int (ctS (1 : Int32) cp)), .val (.int (ctS (2 : Int32) cp)), .val (.int (ctS (3 : Int32) cp)), .unset] [(.int (ctS (4 : Int32) cp))])) (fun t k => st13.trans k) ?_
    refine own_s (B := T13.setTop (mkF m 100 #[.val (.int p1), .val (.int p2), .val (.int cp), .val (.long (cp.toInt64)), .second, .val (.int (bz (inR (cp.toInt64) (65 : Int64) (26 : Int64)))), .val (.int (bz (inR (cp.toInt64) (97 : Int64) (26 : Int64)))), .val (.int (bz (inR (cp.toInt64) (48 : Int64) (10 : Int64)))), .val (.int (ctS (0 : Int32) cp)), .val (.int (ctS (1 : Int32) cp)), .val (.int (ctS (2 : Int32) cp)), .val (.int (ctS (3 : Int32) cp)), .val (.int (ctS (4 : Int32) cp))] [])) (fun t k => XS.istore X13.here hx rfl (hb hby at_98) rfl (l' := #[.val (.int p1), .val (.int p2), .val (.int cp), .val (.long (cp.toInt64)), .second, .val (.int (bz (inR (cp.toInt64) (65 : Int64) (26 : Int64)))), .val (.int (bz (inR (cp.toInt64) (97 : Int64) (26 : Int64)))), .val (.int (bz (inR (cp.toInt64) (48 : Int64) (10 : Int64)))), .val (.int (ctS (0 : Int32) cp)), .val (.int (ctS (1 : Int32) cp)), .val (.int (ctS (2 : Int32) cp)), .val (.int (ctS (3 : Int32) cp)), .val (.int (ctS (4 : Int32) cp))]) rfl k) ?_
    refine own_s (B := T13.setTop (mkF m 102 #[.val (.int p1), .val (.int p2), .val (.int cp), .val (.long (cp.toInt64)), .second, .val (.int (bz (inR (cp.toInt64) (65 : Int64) (26 : Int64)))), .val (.int (bz (inR (cp.toInt64) (97 : Int64) (26 : Int64)))), .val (.int (bz (inR (cp.toInt64) (48 : Int64) (10 : Int64)))), .val (.int (ctS (0 : Int32) cp)), .val (.int (ctS (1 : Int32) cp)), .val (.int (ctS (2 : Int32) cp)), .val (.int (ctS (3 : Int32) cp)), .val (.int (ctS (4 : Int32) cp))] [(.int (ctS (0 : Int32) cp))])) (fun t k => XS.iload X13.here hx rfl (hb hby at_100) rfl k) ?_
    refine own_s (B := T13.setTop (mkF m 104 #[.val (.int p1), .val (.int p2), .val (.int cp), .val (.long (cp.toInt64)), .second, .val (.int (bz (inR (cp.toInt64) (65 : Int64) (26 : Int64)))), .val (.int (bz (inR (cp.toInt64) (97 : Int64) (26 : Int64)))), .val (.int (bz (inR (cp.toInt64) (48 : Int64) (10 : Int64)))), .val (.int (ctS (0 : Int32) cp)), .val (.int (ctS (1 : Int32) cp)), .val (.int (ctS (2 : Int32) cp)), .val (.int (ctS (3 : Int32) cp)), .val (.int (ctS (4 : Int32) cp))] [(.int (bz (inR (cp.toInt64) (65 : Int64) (26 : Int64)))), (.int (ctS (0 : Int32) cp))])) (fun t k => XS.iload X13.here hx rfl (hb hby at_102) rfl k) ?_
    refine own_s (B := T13.setTop (mkF m 107 #[.val (.int p1), .val (.int p2), .val (.int cp), .val (.long (cp.toInt64)), .second, .val (.int (bz (inR (cp.toInt64) (65 : Int64) (26 : Int64)))), .val (.int (bz (inR (cp.toInt64) (97 : Int64) (26 : Int64)))), .val (.int (bz (inR (cp.toInt64) (48 : Int64) (10 : Int64)))), .val (.int (ctS (0 : Int32) cp)), .val (.int (ctS (1 : Int32) cp)), .val (.int (ctS (2 : Int32) cp)), .val (.int (ctS (3 : Int32) cp)), .val (.int (ctS (4 : Int32) cp))] [])) (fun t k => XS.icmpNo X13.here hx rfl (hb hby at_104) rfl (teq ((ct0 cp).trans (own_bzc (iU cp)))).2 k) ?_
    refine own_s (B := T13.setTop (mkF m 109 #[.val (.int p1), .val (.int p2), .val (.int cp), .val (.long (cp.toInt64)), .second, .val (.int (bz (inR (cp.toInt64) (65 : Int64) (26 : Int64)))), .val (.int (bz (inR (cp.toInt64) (97 : Int64) (26 : Int64)))), .val (.int (bz (inR (cp.toInt64) (48 : Int64) (10 : Int64)))), .val (.int (ctS (0 : Int32) cp)), .val (.int (ctS (1 : Int32) cp)), .val (.int (ctS (2 : Int32) cp)), .val (.int (ctS (3 : Int32) cp)), .val (.int (ctS (4 : Int32) cp))] [(.int (ctS (1 : Int32) cp))])) (fun t k => XS.iload X13.here hx rfl (hb hby at_107) rfl k) ?_
    refine own_s (B := T13.setTop (mkF m 111 #[.val (.int p1), .val (.int p2), .val (.int cp), .val (.long (cp.toInt64)), .second, .val (.int (bz (inR (cp.toInt64) (65 : Int64) (26 : Int64)))), .val (.int (bz (inR (cp.toInt64) (97 : Int64) (26 : Int64)))), .val (.int (bz (inR (cp.toInt64) (48 : Int64) (10 : Int64)))), .val (.int (ctS (0 : Int32) cp)), .val (.int (ctS (1 : Int32) cp)), .val (.int (ctS (2 : Int32) cp)), .val (.int (ctS (3 : Int32) cp)), .val (.int (ctS (4 : Int32) cp))] [(.int (bz (inR (cp.toInt64) (97 : Int64) (26 : Int64)))), (.int (ctS (1 : Int32) cp))])) (fun t k => XS.iload X13.here hx rfl (hb hby at_109) rfl k) ?_
    refine own_s (B := T13.setTop (mkF m 114 #[.val (.int p1), .val (.int p2), .val (.int cp), .val (.long (cp.toInt64)), .second, .val (.int (bz (inR (cp.toInt64) (65 : Int64) (26 : Int64)))), .val (.int (bz (inR (cp.toInt64) (97 : Int64) (26 : Int64)))), .val (.int (bz (inR (cp.toInt64) (48 : Int64) (10 : Int64)))), .val (.int (ctS (0 : Int32) cp)), .val (.int (ctS (1 : Int32) cp)), .val (.int (ctS (2 : Int32) cp)), .val (.int (ctS (3 : Int32) cp)), .val (.int (ctS (4 : Int32) cp))] [])) (fun t k => XS.icmpNo X13.here hx rfl (hb hby at_111) rfl (teq ((ct1 cp).trans (own_bzc (iL cp)))).2 k) ?_
    refine own_s (B := T13.setTop (mkF m 116 #[.val (.int p1), .val (.int p2), .val (.int cp), .val (.long (cp.toInt64)), .second, .val (.int (bz (inR (cp.toInt64) (65 : Int64) (26 : Int64)))), .val (.int (bz (inR (cp.toInt64) (97 : Int64) (26 : Int64)))), .val (.int (bz (inR (cp.toInt64) (48 : Int64) (10 : Int64)))), .val (.int (ctS (0 : Int32) cp)), .val (.int (ctS (1 : Int32) cp)), .val (.int (ctS (2 : Int32) cp)), .val (.int (ctS (3 : Int32) cp)), .val (.int (ctS (4 : Int32) cp))] [(.int (ctS (2 : Int32) cp))])) (fun t k => XS.iload X13.here hx rfl (hb hby at_114) rfl k) ?_
    refine own_s (B := T13.setTop (mkF m 118 #[.val (.int p1), .val (.int p2), .val (.int cp), .val (.long (cp.toInt64)), .second, .val (.int (bz (inR (cp.toInt64) (65 : Int64) (26 : Int64)))), .val (.int (bz (inR (cp.toInt64) (97 : Int64) (26 : Int64)))), .val (.int (bz (inR (cp.toInt64) (48 : Int64) (10 : Int64)))), .val (.int (ctS (0 : Int32) cp)), .val (.int (ctS (1 : Int32) cp)), .val (.int (ctS (2 : Int32) cp)), .val (.int (ctS (3 : Int32) cp)), .val (.int (ctS (4 : Int32) cp))] [(.int (bz (inR (cp.toInt64) (65 : Int64) (26 : Int64)))), (.int (ctS (2 : Int32) cp))])) (fun t k => XS.iload X13.here hx rfl (hb hby at_116) rfl k) ?_
    by_cases hc118 : (bz (inR (cp.toInt64) (65 : Int64) (26 : Int64))) = (0 : Int32)
    · refine own_s (B := T13.setTop (mkF m 121 #[.val (.int p1), .val (.int p2), .val (.int cp), .val (.long (cp.toInt64)), .second, .val (.int (bz (inR (cp.toInt64) (65 : Int64) (26 : Int64)))), .val (.int (bz (inR (cp.toInt64) (97 : Int64) (26 : Int64)))), .val (.int (bz (inR (cp.toInt64) (48 : Int64) (10 : Int64)))), .val (.int (ctS (0 : Int32) cp)), .val (.int (ctS (1 : Int32) cp)), .val (.int (ctS (2 : Int32) cp)), .val (.int (ctS (3 : Int32) cp)), .val (.int (ctS (4 : Int32) cp))] [(.int (ctS (2 : Int32) cp))])) (fun t k => XS.ifNo X13.here hx rfl (hb hby at_118) rfl ((if0 _ _).trans (teq hc118).2) k) ?_
      refine own_s (B := T13.setTop (mkF m 123 #[.val (.int p1), .val (.int p2), .val (.int cp), .val (.long (cp.toInt64)), .second, .val (.int (bz (inR (cp.toInt64) (65 : Int64) (26 : Int64)))), .val (.int (bz (inR (cp.toInt64) (97 : Int64) (26 : Int64)))), .val (.int (bz (inR (cp.toInt64) (48 : Int64) (10 : Int64)))), .val (.int (ctS (0 : Int32) cp)), .val (.int (ctS (1 : Int32) cp)), .val (.int (ctS (2 : Int32) cp)), .val (.int (ctS (3 : Int32) cp)), .val (.int (ctS (4 : Int32) cp))] [(.int (bz (inR (cp.toInt64) (97 : Int64) (26 : Int64)))), (.int (ctS (2 : Int32) cp))])) (fun t k => XS.iload X13.here hx rfl (hb hby at_121) rfl k) ?_
      by_cases hc123 : (bz (inR (cp.toInt64) (97 : Int64) (26 : Int64))) = (0 : Int32)
      · refine own_s (B := T13.setTop (mkF m 130 #[.val (.int p1), .val (.int p2), .val (.int cp), .val (.long (cp.toInt64)), .second, .val (.int (bz (inR (cp.toInt64) (65 : Int64) (26 : Int64)))), .val (.int (bz (inR (cp.toInt64) (97 : Int64) (26 : Int64)))), .val (.int (bz (inR (cp.toInt64) (48 : Int64) (10 : Int64)))), .val (.int (ctS (0 : Int32) cp)), .val (.int (ctS (1 : Int32) cp)), .val (.int (ctS (2 : Int32) cp)), .val (.int (ctS (3 : Int32) cp)), .val (.int (ctS (4 : Int32) cp))] [(.int (ctS (2 : Int32) cp))])) (fun t k => XS.ifYes X13.here hx rfl (pc0 := 123) (pc' := 130) rfl (hb hby at_123) rfl ((if0 _ _).trans (teq hc123).1) (by decide) (by decide) k) ?_
        refine own_s (B := T13.setTop (mkF m 131 #[.val (.int p1), .val (.int p2), .val (.int cp), .val (.long (cp.toInt64)), .second, .val (.int (bz (inR (cp.toInt64) (65 : Int64) (26 : Int64)))), .val (.int (bz (inR (cp.toInt64) (97 : Int64) (26 : Int64)))), .val (.int (bz (inR (cp.toInt64) (48 : Int64) (10 : Int64)))), .val (.int (ctS (0 : Int32) cp)), .val (.int (ctS (1 : Int32) cp)), .val (.int (ctS (2 : Int32) cp)), .val (.int (ctS (3 : Int32) cp)), .val (.int (ctS (4 : Int32) cp))] [(.int (0 : Int32)), (.int (ctS (2 : Int32) cp))])) (fun t k => XS.iconst X13.here hx rfl (hb hby at_130) k) ?_
        refine own_s (B := T13.setTop (mkF m 134 #[.val (.int p1), .val (.int p2), .val (.int cp), .val (.long (cp.toInt64)), .second, .val (.int (bz (inR (cp.toInt64) (65 : Int64) (26 : Int64)))), .val (.int (bz (inR (cp.toInt64) (97 : Int64) (26 : Int64)))), .val (.int (bz (inR (cp.toInt64) (48 : Int64) (10 : Int64)))), .val (.int (ctS (0 : Int32) cp)), .val (.int (ctS (1 : Int32) cp)), .val (.int (ctS (2 : Int32) cp)), .val (.int (ctS (3 : Int32) cp)), .val (.int (ctS (4 : Int32) cp))] [])) (fun t k => XS.icmpNo X13.here hx rfl (hb hby at_131) rfl (teq ((ct2 cp).trans (own_b0 (fun q => q.elim (fun w => own_bz0 rfl hc118 ((iU cp).mp w)) (fun w => own_bz0 rfl hc123 ((iL cp).mp w)))))).2 k) ?_
        exact J134 T13 _ X13 e13 N13 cp
      · refine own_s (B := T13.setTop (mkF m 126 #[.val (.int p1), .val (.int p2), .val (.int cp), .val (.long (cp.toInt64)), .second, .val (.int (bz (inR (cp.toInt64) (65 : Int64) (26 : Int64)))), .val (.int (bz (inR (cp.toInt64) (97 : Int64) (26 : Int64)))), .val (.int (bz (inR (cp.toInt64) (48 : Int64) (10 : Int64)))), .val (.int (ctS (0 : Int32) cp)), .val (.int (ctS (1 : Int32) cp)), .val (.int (ctS (2 : Int32) cp)), .val (.int (ctS (3 : Int32) cp)), .val (.int (ctS (4 : Int32) cp))] [(.int (ctS (2 : Int32) cp))])) (fun t k => XS.ifNo X13.here hx rfl (hb hby at_123) rfl ((if0 _ _).trans (feq hc123).1) k) ?_
        refine own_s (B := T13.setTop (mkF m 127 #[.val (.int p1), .val (.int p2), .val (.int cp), .val (.long (cp.toInt64)), .second, .val (.int (bz (inR (cp.toInt64) (65 : Int64) (26 : Int64)))), .val (.int (bz (inR (cp.toInt64) (97 : Int64) (26 : Int64)))), .val (.int (bz (inR (cp.toInt64) (48 : Int64) (10 : Int64)))), .val (.int (ctS (0 : Int32) cp)), .val (.int (ctS (1 : Int32) cp)), .val (.int (ctS (2 : Int32) cp)), .val (.int (ctS (3 : Int32) cp)), .val (.int (ctS (4 : Int32) cp))] [(.int (1 : Int32)), (.int (ctS (2 : Int32) cp))])) (fun t k => XS.iconst X13.here hx rfl (hb hby at_126) k) ?_
        refine own_s (B := T13.setTop (mkF m 131 #[.val (.int p1), .val (.int p2), .val (.int cp), .val (.long (cp.toInt64)), .second, .val (.int (bz (inR (cp.toInt64) (65 : Int64) (26 : Int64)))), .val (.int (bz (inR (cp.toInt64) (97 : Int64) (26 : Int64)))), .val (.int (bz (inR (cp.toInt64) (48 : Int64) (10 : Int64)))), .val (.int (ctS (0 : Int32) cp)), .val (.int (ctS (1 : Int32) cp)), .val (.int (ctS (2 : Int32) cp)), .val (.int (ctS (3 : Int32) cp)), .val (.int (ctS (4 : Int32) cp))] [(.int (1 : Int32)), (.int (ctS (2 : Int32) cp))])) (fun t k => XS.goto X13.here hx rfl (pc0 := 127) (pc' := 131) rfl (hb hby at_127) (by decide) (by decide) k) ?_
        refine own_s (B := T13.setTop (mkF m 134 #[.val (.int p1), .val (.int p2), .val (.int cp), .val (.long (cp.toInt64)), .second, .val (.int (bz (inR (cp.toInt64) (65 : Int64) (26 : Int64)))), .val (.int (bz (inR (cp.toInt64) (97 : Int64) (26 : Int64)))), .val (.int (bz (inR (cp.toInt64) (48 : Int64) (10 : Int64)))), .val (.int (ctS (0 : Int32) cp)), .val (.int (ctS (1 : Int32) cp)), .val (.int (ctS (2 : Int32) cp)), .val (.int (ctS (3 : Int32) cp)), .val (.int (ctS (4 : Int32) cp))] [])) (fun t k => XS.icmpNo X13.here hx rfl (hb hby at_131) rfl (teq ((ct2 cp).trans (own_b1 (Or.inr ((iL cp).mpr (own_bz1 rfl hc123)))))).2 k) ?_
        exact J134 T13 _ X13 e13 N13 cp
    · refine own_s (B := T13.setTop (mkF m 126 #[.val (.int p1), .val (.int p2), .val (.int cp), .val (.long (cp.toInt64)), .second, .val (.int (bz (inR (cp.toInt64) (65 : Int64) (26 : Int64)))), .val (.int (bz (inR (cp.toInt64) (97 : Int64) (26 : Int64)))), .val (.int (bz (inR (cp.toInt64) (48 : Int64) (10 : Int64)))), .val (.int (ctS (0 : Int32) cp)), .val (.int (ctS (1 : Int32) cp)), .val (.int (ctS (2 : Int32) cp)), .val (.int (ctS (3 : Int32) cp)), .val (.int (ctS (4 : Int32) cp))] [(.int (ctS (2 : Int32) cp))])) (fun t k => XS.ifYes X13.here hx rfl (pc0 := 118) (pc' := 126) rfl (hb hby at_118) rfl ((if0 _ _).trans (feq hc118).2) (by decide) (by decide) k) ?_
      refine own_s (B := T13.setTop (mkF m 127 #[.val (.int p1), .val (.int p2), .val (.int cp), .val (.long (cp.toInt64)), .second, .val (.int (bz (inR (cp.toInt64) (65 : Int64) (26 : Int64)))), .val (.int (bz (inR (cp.toInt64) (97 : Int64) (26 : Int64)))), .val (.int (bz (inR (cp.toInt64) (48 : Int64) (10 : Int64)))), .val (.int (ctS (0 : Int32) cp)), .val (.int (ctS (1 : Int32) cp)), .val (.int (ctS (2 : Int32) cp)), .val (.int (ctS (3 : Int32) cp)), .val (.int (ctS (4 : Int32) cp))] [(.int (1 : Int32)), (.int (ctS (2 : Int32) cp))])) (fun t k => XS.iconst X13.here hx rfl (hb hby at_126) k) ?_
      refine own_s (B := T13.setTop (mkF m 131 #[.val (.int p1), .val (.int p2), .val (.int cp), .val (.long (cp.toInt64)), .second, .val (.int (bz (inR (cp.toInt64) (65 : Int64) (26 : Int64)))), .val (.int (bz (inR (cp.toInt64) (97 : Int64) (26 : Int64)))), .val (.int (bz (inR (cp.toInt64) (48 : Int64) (10 : Int64)))), .val (.int (ctS (0 : Int32) cp)), .val (.int (ctS (1 : Int32) cp)), .val (.int (ctS (2 : Int32) cp)), .val (.int (ctS (3 : Int32) cp)), .val (.int (ctS (4 : Int32) cp))] [(.int (1 : Int32)), (.int (ctS (2 : Int32) cp))])) (fun t k => XS.goto X13.here hx rfl (pc0 := 127) (pc' := 131) rfl (hb hby at_127) (by decide) (by decide) k) ?_
      refine own_s (B := T13.setTop (mkF m 134 #[.val (.int p1), .val (.int p2), .val (.int cp), .val (.long (cp.toInt64)), .second, .val (.int (bz (inR (cp.toInt64) (65 : Int64) (26 : Int64)))), .val (.int (bz (inR (cp.toInt64) (97 : Int64) (26 : Int64)))), .val (.int (bz (inR (cp.toInt64) (48 : Int64) (10 : Int64)))), .val (.int (ctS (0 : Int32) cp)), .val (.int (ctS (1 : Int32) cp)), .val (.int (ctS (2 : Int32) cp)), .val (.int (ctS (3 : Int32) cp)), .val (.int (ctS (4 : Int32) cp))] [])) (fun t k => XS.icmpNo X13.here hx rfl (hb hby at_131) rfl (teq ((ct2 cp).trans (own_b1 (Or.inl ((iU cp).mpr (own_bz1 rfl hc118)))))).2 k) ?_
      exact J134 T13 _ X13 e13 N13 cp
  refine own_s (B := s₁.setTop (mkF m 1 #[.val (.int p1), .val (.int p2), .unset, .unset, .unset, .unset, .unset, .unset, .unset, .unset, .unset, .unset, .unset] [(.int p2)])) (fun t k => XS.iloadN X0.here hx rfl (hb hby at_0) rfl k) ?_
  refine own_s (B := s₁.setTop (mkF m 2 #[.val (.int p1), .val (.int p2), .unset, .unset, .unset, .unset, .unset, .unset, .unset, .unset, .unset, .unset, .unset] [(.int (1 : Int32)), (.int p2)])) (fun t k => XS.iconst X0.here hx rfl (hb hby at_1) k) ?_
  refine own_s (B := s₁.setTop (mkF m 3 #[.val (.int p1), .val (.int p2), .unset, .unset, .unset, .unset, .unset, .unset, .unset, .unset, .unset, .unset, .unset] [(.int (p2 &&& (1 : Int32)))])) (fun t k => XS.iand X0.here hx rfl (hb hby at_2) rfl k) ?_
  by_cases hc3 : (p2 &&& (1 : Int32)) = (0 : Int32)
  · refine own_s (B := s₁.setTop (mkF m 10 #[.val (.int p1), .val (.int p2), .unset, .unset, .unset, .unset, .unset, .unset, .unset, .unset, .unset, .unset, .unset] [])) (fun t k => XS.ifYes X0.here hx rfl (pc0 := 3) (pc' := 10) rfl (hb hby at_3) rfl ((if0 _ _).trans (teq hc3).1) (by decide) (by decide) k) ?_
    refine own_s (B := s₁.setTop (mkF m 11 #[.val (.int p1), .val (.int p2), .unset, .unset, .unset, .unset, .unset, .unset, .unset, .unset, .unset, .unset, .unset] [(.int p1)])) (fun t k => XS.iloadN X0.here hx rfl (hb hby at_10) rfl k) ?_
    refine own_s (B := s₁.setTop (mkF m 14 #[.val (.int p1), .val (.int p2), .unset, .unset, .unset, .unset, .unset, .unset, .unset, .unset, .unset, .unset, .unset] [(.int (255 : Int32)), (.int p1)])) (fun t k => XS.sipush X0.here hx rfl (hb hby at_11) k) ?_
    refine own_s (B := s₁.setTop (mkF m 15 #[.val (.int p1), .val (.int p2), .unset, .unset, .unset, .unset, .unset, .unset, .unset, .unset, .unset, .unset, .unset] [(.int (p1 &&& (255 : Int32)))])) (fun t k => XS.iand X0.here hx rfl (hb hby at_14) rfl k) ?_
    exact J15 s₁ _ X0 e0 N0 (p1 &&& (255 : Int32))
  · refine own_s (B := s₁.setTop (mkF m 6 #[.val (.int p1), .val (.int p2), .unset, .unset, .unset, .unset, .unset, .unset, .unset, .unset, .unset, .unset, .unset] [])) (fun t k => XS.ifNo X0.here hx rfl (hb hby at_3) rfl ((if0 _ _).trans (feq hc3).1) k) ?_
    refine own_s (B := s₁.setTop (mkF m 7 #[.val (.int p1), .val (.int p2), .unset, .unset, .unset, .unset, .unset, .unset, .unset, .unset, .unset, .unset, .unset] [(.int p1)])) (fun t k => XS.iloadN X0.here hx rfl (hb hby at_6) rfl k) ?_
    refine own_s (B := s₁.setTop (mkF m 15 #[.val (.int p1), .val (.int p2), .unset, .unset, .unset, .unset, .unset, .unset, .unset, .unset, .unset, .unset, .unset] [(.int p1)])) (fun t k => XS.goto X0.here hx rfl (pc0 := 7) (pc' := 15) rfl (hb hby at_7) (by decide) (by decide) k) ?_
    exact J15 s₁ _ X0 e0 N0 p1
set_option maxRecDepth 65536 in
set_option maxHeartbeats 40000000 in
theorem comes_1 {Post : Tables → Env → Array Value → State → Outcome → State → Prop} (hpost : ∀ tb e args s v u, (limb_1_1.after args s (.returned v) u = true ∧ limb_1_2.after args s (.returned v) u = true ∧ True) → FrameEnd s (.returned v) u (Jvm.fieldLocs frame_1_writes args s ++ Jvm.arrayLocs frame_1_arrays args s ++ Jvm.staticLocs frame_1_statics s) 0 0 → Post tb e args s (.returned v) u) :
    ArmFor flags0 classFile x code maxLocals ret World_1 tables_1 room_1 Calls_1 rest_1 Pre_1 Post := by
  intro l hfl _ _ p e ha hc hk s m args below hf hA hF happ hP
  obtain ⟨hcalls, hrest, hpre⟩ := hP
  obtain ⟨-, -, -, hnamed, -, -, -, hat⟩ := (Spec.applies_iff hf).mp happ
  obtain ⟨hg, hn⟩ := and_e (Cond.before_iff.mp (show (Jvm.Cond.and given_1 narrow_1).before args s = true from hpre))
  obtain ⟨g1a, g1b⟩ := and_e hg
  obtain ⟨g2a, g2b⟩ := and_e g1b
  obtain ⟨w0, w1, rfl⟩ : ∃ w0 w1 : Value, args = #[w0, w1] := by
    have hs : args.size = 2 := by simpa [Cond.value, given_1] using g1a
    obtain ⟨L⟩ := args
    match L, hs with
    | [w0, w1], _ => exact ⟨w0, w1, rfl⟩
  have hw := fun d (hd : d ∈ tables_1) => atoms_spec (ws := Jvm.Cond.code x code maxLocals ret :: tables_1) hat d (List.mem_cons_of_mem _ hd)
  have hfit : Fit s := fun {y c} hc i hi => by
    obtain ⟨ha, rfl⟩ := Array.getElem?_eq_some_iff.mp hc
    have q := List.all_eq_true.mp ((Array.all_eq_true_iff_forall_mem.mp hF) _ (Array.getElem_mem ha)) i (List.mem_range.mpr hi)
    simpa [Array.getElem?_eq_getElem hi] using q
  obtain ⟨i0, ei0⟩ := is_v g2a
  obtain rfl : w0 = (.int i0) := Option.some.inj ei0
  obtain ⟨i1, ei1⟩ := is_v g2b
  obtain rfl : w1 = (.int i1) := Option.some.inj ei1
  obtain ⟨g3a, g3b⟩ := and_e hn
  obtain ⟨g4a, g4b⟩ := and_e g3b
  obtain ⟨g5a, g5b⟩ := and_e g4b
  obtain ⟨g6a, g6b⟩ := and_e g5b
  obtain ⟨g7a, g7b⟩ := and_e g6b
  obtain ⟨g8a, g8b⟩ := and_e g7b
  obtain ⟨g9a, g9b⟩ := and_e g8b
  obtain ⟨g10a, g10b⟩ := and_e g9b
  obtain ⟨g11a, g11b⟩ := and_e g10b
  obtain ⟨w_UPPER, ev_UPPER⟩ := exa_v g3a
  have S_UPPER := Sta.start ev_UPPER (Or.inr ⟨(hw _ (List.mem_of_getElem? (i := 10) rfl)), (hw _ (List.mem_of_getElem? (i := 11) rfl))⟩)
  have E_UPPER := Exa.start ev_UPPER g3a
  obtain ⟨w_LOWER, ev_LOWER⟩ := exa_v g5a
  have S_LOWER := Sta.start ev_LOWER (Or.inr ⟨(hw _ (List.mem_of_getElem? (i := 10) rfl)), (hw _ (List.mem_of_getElem? (i := 27) rfl))⟩)
  have E_LOWER := Exa.start ev_LOWER g5a
  obtain ⟨w_LETTER, ev_LETTER⟩ := exa_v g7a
  have S_LETTER := Sta.start ev_LETTER (Or.inr ⟨(hw _ (List.mem_of_getElem? (i := 10) rfl)), (hw _ (List.mem_of_getElem? (i := 29) rfl))⟩)
  have E_LETTER := Exa.start ev_LETTER g7a
  obtain ⟨w_DIGIT, ev_DIGIT⟩ := exa_v g9a
  have S_DIGIT := Sta.start ev_DIGIT (Or.inr ⟨(hw _ (List.mem_of_getElem? (i := 10) rfl)), (hw _ (List.mem_of_getElem? (i := 31) rfl))⟩)
  have E_DIGIT := Exa.start ev_DIGIT g9a
  obtain ⟨w_SPECIAL, ev_SPECIAL⟩ := exa_v g11a
  have S_SPECIAL := Sta.start ev_SPECIAL (Or.inr ⟨(hw _ (List.mem_of_getElem? (i := 10) rfl)), (hw _ (List.mem_of_getElem? (i := 33) rfl))⟩)
  have E_SPECIAL := Exa.start ev_SPECIAL g11a
  have F_UPPER_ordinal := Fld.start ((fld_at ev_UPPER).symm.trans (own_eqI g4a))
  have F_LOWER_ordinal := Fld.start ((fld_at ev_LOWER).symm.trans (own_eqI g6a))
  have F_LETTER_ordinal := Fld.start ((fld_at ev_LETTER).symm.trans (own_eqI g8a))
  have F_DIGIT_ordinal := Fld.start ((fld_at ev_DIGIT).symm.trans (own_eqI g10a))
  have F_SPECIAL_ordinal := Fld.start ((fld_at ev_SPECIAL).symm.trans (own_eqI g11b))
  obtain ⟨n, o, h1, h2, h3, _, L, rfl, ⟨rfl, N⟩, hq⟩ := rm0 l s _ hw tables_1 i0 i1 w_UPPER w_LOWER w_LETTER w_DIGIT w_SPECIAL s.heap s.heap.size (Nat.le_refl _) S_UPPER E_UPPER F_UPPER_ordinal S_LOWER E_LOWER F_LOWER_ordinal S_LETTER E_LETTER F_LETTER_ordinal S_DIGIT E_DIGIT F_DIGIT_ordinal S_SPECIAL E_SPECIAL F_SPECIAL_ordinal p e ha hc hk s m _ below hf ((Spec.applies_iff_loose hf).mp happ).1 ⟨rfl, State.Warmed39.refl s, rfl⟩ trivial
  refine ⟨n, _, h1, h2, h3, hpost _ _ _ _ _ _ ⟨Cond.after_iff.mpr rfl, Cond.after_iff.mpr (eq_i res_at (Term.int_eval (1)) rfl), trivial⟩ ⟨hq.1, hq.2.1, (hq.2.2.sift fun y hy => Or.inr (N y hy)).mono (by decide) (by decide)⟩⟩
theorem main_1_1 : Claimed_1_1 := comes_1 fun _ _ _ _ _ _ h hF => ⟨h.1, hF⟩
theorem main_1_2 : Claimed_1_2 := comes_1 fun _ _ _ _ _ _ h hF => ⟨h.2.1, hF⟩
end Jvm.Pilot.@@N@@
namespace Jvm.Pilot.@@N@@
open Jvm Jvm.ClassFile Sem Op Lib Jvm.Free Jvm.Stand Jvm.Pilot.@@N@@.Jvm.D
/-! MADE BY PROGRAM (witnessworld.py) out of the Statement's table words and the real class files: 12 classes; the members and pool entries that the words name. The judged class is class 1, her method 2. -/
namespace start1
open Jvm.ClassFile
def u (s : String) : CpInfo := .utf8 (stringToUtf16 s)
/-- a pool by its gaps: so many unusable entries, then the entry; so many at the end -/
def gap : Nat → List CpInfo → List CpInfo
  | 0, r => r
  | n + 1, r => .unusable :: gap n r
def poolList (es : List (Nat × CpInfo)) (last : Nat) : List CpInfo := es.foldr (fun e r => gap e.1 (e.2 :: r)) (gap last [])
def pool (es : List (Nat × CpInfo)) (last : Nat) : Array CpInfo := ⟨poolList es last⟩
def fileOf (pool : Array CpInfo) (this : Nat) (attrs : Array Attribute := #[]) (ms : Array MethodInfo := #[]) (fl : Nat := 33) (sup : Nat := 0) (ifs : Array Nat := #[]) (fds : Array FieldInfo := #[]) : ClassFile where
  minorVersion := 0
  majorVersion := 65
  constantPool := pool
  accessFlags := fl
  thisClass := this
  superClass := sup
  interfaces := ifs
  fields := fds
  methods := ms
  attributes := attrs
def plain (name : String) (sup : Option ClassId) : Class where
  name := name
  kind := .ordinary
  loader := none
  accessFlags := 33
  super := sup
  interfaces := #[]
  cf := none
  fields := #[]
  methods := #[]
  instanceTypes := #[]
  staticTypes := #[]
  resolved := #[]
  callSites := []
  init := .initialized
  statics := none
  mirror := none

def pool0 : Array CpInfo := pool [(5, u "<init>"), (0, u "()V"), (1, .class_ 10), (1, u "java/lang/Object")] 113

def k0m0 : Method := { name := "<init>", desc := "()V", sig := { parameters := [], returnType := none }, accessFlags := 1, code := none }
/-- java/lang/Object -/
def k0 : Class := { plain "java/lang/Object" none with
  accessFlags := 33
  interfaces := #[]
  cf := some (fileOf pool0 8 #[] #[{ accessFlags := 1, nameIndex := 5, descriptorIndex := 6, attributes := #[] }] 33 0 #[] #[])
  fields := #[]
  methods := #[k0m0]
  instanceTypes := #[]
  staticTypes := #[]
  resolved := Array.replicate 124 none
  statics := none }

def pool1 : Array CpInfo := pool [(2, .class_ 4), (1, u "java/lang/Object"), (0, u "<init>"), (0, u "()V"), (0, .long 65), (1, .long 26), (1, .methodref 12 13), (0, .class_ 14), (0, .nameAndType 15 16), (0, u "com/example/rekey/rekey/CharacterClassContainsPinLaw"), (0, u "inRange"), (0, u "(JJJ)Z"), (0, .long 97), (1, .long 48), (1, .long 10), (1, .fieldref 24 25), (0, .class_ 26), (0, .nameAndType 27 28), (0, u "com/example/rekey/rekey/PasswordPolicy$CharacterClass"), (0, u "UPPER"), (0, u "Lcom/example/rekey/rekey/PasswordPolicy$CharacterClass;"), (0, .methodref 24 30), (0, .nameAndType 31 32), (0, u "contains"), (0, u "(I)Z"), (0, .fieldref 24 34), (0, .nameAndType 35 28), (0, u "LOWER"), (0, .fieldref 24 37), (0, .nameAndType 38 28), (0, u "LETTER"), (0, .fieldref 24 40), (0, .nameAndType 41 28), (0, u "DIGIT"), (0, .fieldref 24 43), (0, .nameAndType 44 28), (0, u "SPECIAL"), (3, u "law"), (0, u "(II)Z")] 6

def k1m0 : Method := { name := "<init>", desc := "()V", sig := { parameters := [], returnType := none }, accessFlags := 2, code := none }
def k1c1 : Code := { maxStack := 4, maxLocals := 8, code := method_2_code, exceptionTable := #[], attributes := #[] }
def k1m1 : Method := { name := "inRange", desc := "(JJJ)Z", sig := { parameters := [.long, .long, .long], returnType := some .boolean }, accessFlags := 10, code := some k1c1 }
def k1c2 : Code := { maxStack := 6, maxLocals := 13, code := code, exceptionTable := #[], attributes := #[] }
def k1m2 : Method := { name := "law", desc := "(II)Z", sig := { parameters := [.int, .int], returnType := some .boolean }, accessFlags := 9, code := some k1c2 }
/-- com/example/rekey/rekey/CharacterClassContainsPinLaw -/
def k1 : Class := { plain "com/example/rekey/rekey/CharacterClassContainsPinLaw" (some 0) with
  accessFlags := 49
  interfaces := #[]
  cf := some (fileOf pool1 12 #[] #[{ accessFlags := 2, nameIndex := 5, descriptorIndex := 6, attributes := #[] }, { accessFlags := 10, nameIndex := 15, descriptorIndex := 16, attributes := #[] }, { accessFlags := 9, nameIndex := 48, descriptorIndex := 49, attributes := #[] }] 49 2 #[] #[])
  fields := #[]
  methods := #[k1m0, k1m1, k1m2]
  instanceTypes := #[]
  staticTypes := #[]
  resolved := Array.replicate 56 none
  statics := none }

def pool2 : Array CpInfo := pool [(1, .class_ 2), (0, u "java/lang/constant/Constable"), (0, .class_ 4), (0, u "java/lang/Object")] 6

/-- java/lang/constant/Constable -/
def k2 : Class := { plain "java/lang/constant/Constable" (some 0) with
  accessFlags := 1537
  interfaces := #[]
  cf := some (fileOf pool2 1 #[] #[] 1537 3 #[] #[])
  fields := #[]
  methods := #[]
  instanceTypes := #[]
  staticTypes := #[]
  resolved := Array.replicate 11 none
  statics := none }

def pool3 : Array CpInfo := pool [(1, .class_ 2), (0, u "java/lang/Comparable"), (0, .class_ 4), (0, u "java/lang/Object")] 7

/-- java/lang/Comparable -/
def k3 : Class := { plain "java/lang/Comparable" (some 0) with
  accessFlags := 1537
  interfaces := #[]
  cf := some (fileOf pool3 1 #[] #[] 1537 3 #[] #[])
  fields := #[]
  methods := #[]
  instanceTypes := #[]
  staticTypes := #[]
  resolved := Array.replicate 12 none
  statics := none }

def pool4 : Array CpInfo := pool [(1, .class_ 2), (0, u "java/io/Serializable"), (0, .class_ 4), (0, u "java/lang/Object")] 2

/-- java/io/Serializable -/
def k4 : Class := { plain "java/io/Serializable" (some 0) with
  accessFlags := 1537
  interfaces := #[]
  cf := some (fileOf pool4 1 #[] #[] 1537 3 #[] #[])
  fields := #[]
  methods := #[]
  instanceTypes := #[]
  staticTypes := #[]
  resolved := Array.replicate 7 none
  statics := none }

def pool5 : Array CpInfo := pool [(2, .class_ 4), (1, u "java/lang/Enum"), (0, u "name"), (0, u "Ljava/lang/String;"), (0, .fieldref 2 8), (0, .nameAndType 9 10), (0, u "ordinal"), (0, u "I"), (1, .class_ 14), (1, u "java/lang/Object"), (4, u "hash"), (86, .class_ 108), (1, u "java/lang/Enum$EnumDesc"), (2, .class_ 112), (0, u "java/lang/constant/Constable"), (0, .class_ 114), (0, u "java/lang/Comparable"), (0, .class_ 116), (0, u "java/io/Serializable"), (9, u "()I")] 77

def k5c0 : Code := { maxStack := 1, maxLocals := 1, code := jdk_37_method_2_code, exceptionTable := #[], attributes := #[] }
def k5m0 : Method := { name := "ordinal", desc := "()I", sig := { parameters := [], returnType := some .int }, accessFlags := 17, code := some k5c0 }
/-- java/lang/Enum -/
def k5 : Class := { plain "java/lang/Enum" (some 0) with
  accessFlags := 1057
  interfaces := #[2, 3, 4]
  cf := some (fileOf pool5 2 #[.nestMembers #[106]] #[{ accessFlags := 17, nameIndex := 9, descriptorIndex := 126, attributes := #[] }] 1057 12 #[111, 113, 115] #[{ accessFlags := 18, nameIndex := 5, descriptorIndex := 6, attributes := #[] }, { accessFlags := 18, nameIndex := 9, descriptorIndex := 10, attributes := #[] }, { accessFlags := 2, nameIndex := 19, descriptorIndex := 10, attributes := #[] }])
  fields := #[{ name := "name", type := (.object "java/lang/String"), accessFlags := 18, slot := 0, constantValue := 0 }, { name := "ordinal", type := .int, accessFlags := 18, slot := 1, constantValue := 0 }, { name := "hash", type := .int, accessFlags := 2, slot := 2, constantValue := 0 }]
  methods := #[k5m0]
  instanceTypes := #[(.object "java/lang/String"), .int, .int]
  staticTypes := #[]
  resolved := Array.replicate 204 none
  statics := none }

def pool6 : Array CpInfo := pool [(1, .class_ 2), (0, u "com/example/rekey/rekey/PasswordPolicy$CharacterClass"), (2, u "UPPER"), (0, u "Lcom/example/rekey/rekey/PasswordPolicy$CharacterClass;"), (2, u "LOWER"), (2, u "LETTER"), (2, u "DIGIT"), (2, u "SPECIAL"), (2, u "$VALUES"), (0, u "[Lcom/example/rekey/rekey/PasswordPolicy$CharacterClass;"), (6, .class_ 31), (1, u "java/lang/Enum"), (6, .methodref 1 39), (0, .nameAndType 40 41), (0, u "ordinal"), (0, u "()I"), (22, u "contains"), (0, u "(I)Z"), (6, .class_ 73), (0, u "com/example/rekey/rekey/PasswordPolicy")] 2

def k6c0 : Code := { maxStack := 4, maxLocals := 5, code := prog_16_method_4_code, exceptionTable := #[], attributes := #[] }
def k6m0 : Method := { name := "contains", desc := "(I)Z", sig := { parameters := [.int], returnType := some .boolean }, accessFlags := 0, code := some k6c0 }
/-- com/example/rekey/rekey/PasswordPolicy$CharacterClass -/
def k6 : Class := { plain "com/example/rekey/rekey/PasswordPolicy$CharacterClass" (some 5) with
  accessFlags := 16433
  interfaces := #[]
  cf := some (fileOf pool6 1 #[.nestHost 72] #[{ accessFlags := 0, nameIndex := 64, descriptorIndex := 65, attributes := #[] }] 16433 29 #[] #[{ accessFlags := 16409, nameIndex := 5, descriptorIndex := 6, attributes := #[] }, { accessFlags := 16409, nameIndex := 9, descriptorIndex := 6, attributes := #[] }, { accessFlags := 16409, nameIndex := 12, descriptorIndex := 6, attributes := #[] }, { accessFlags := 16409, nameIndex := 15, descriptorIndex := 6, attributes := #[] }, { accessFlags := 16409, nameIndex := 18, descriptorIndex := 6, attributes := #[] }, { accessFlags := 4122, nameIndex := 21, descriptorIndex := 22, attributes := #[] }])
  fields := #[{ name := "UPPER", type := (.object "com/example/rekey/rekey/PasswordPolicy$CharacterClass"), accessFlags := 16409, slot := 0, constantValue := 0 }, { name := "LOWER", type := (.object "com/example/rekey/rekey/PasswordPolicy$CharacterClass"), accessFlags := 16409, slot := 1, constantValue := 0 }, { name := "LETTER", type := (.object "com/example/rekey/rekey/PasswordPolicy$CharacterClass"), accessFlags := 16409, slot := 2, constantValue := 0 }, { name := "DIGIT", type := (.object "com/example/rekey/rekey/PasswordPolicy$CharacterClass"), accessFlags := 16409, slot := 3, constantValue := 0 }, { name := "SPECIAL", type := (.object "com/example/rekey/rekey/PasswordPolicy$CharacterClass"), accessFlags := 16409, slot := 4, constantValue := 0 }, { name := "$VALUES", type := (.array (.object "com/example/rekey/rekey/PasswordPolicy$CharacterClass")), accessFlags := 4122, slot := 5, constantValue := 0 }]
  methods := #[k6m0]
  instanceTypes := #[(.object "java/lang/String"), .int, .int]
  staticTypes := #[(.object "com/example/rekey/rekey/PasswordPolicy$CharacterClass"), (.object "com/example/rekey/rekey/PasswordPolicy$CharacterClass"), (.object "com/example/rekey/rekey/PasswordPolicy$CharacterClass"), (.object "com/example/rekey/rekey/PasswordPolicy$CharacterClass"), (.object "com/example/rekey/rekey/PasswordPolicy$CharacterClass"), (.array (.object "com/example/rekey/rekey/PasswordPolicy$CharacterClass"))]
  resolved := Array.replicate 76 none
  statics := some 0 }

def pool7 : Array CpInfo := pool [(1, u "java/lang/Cloneable"), (0, .class_ 1), (0, u "java/lang/Object"), (0, .class_ 3)] 3

/-- java/lang/Cloneable -/
def k7 : Class := { plain "java/lang/Cloneable" (some 0) with
  accessFlags := 1537
  interfaces := #[]
  cf := some (fileOf pool7 2 #[] #[] 1537 4 #[] #[])
  fields := #[]
  methods := #[]
  instanceTypes := #[]
  staticTypes := #[]
  resolved := Array.replicate 8 none
  statics := none }

/-- the primitive byte -/
def k8 : Class := { plain "byte" none with kind := .primitive 'B', accessFlags := 0x411 }
/-- [B -/
def k9 : Class := { plain "[B" (some 0) with kind := .array 8 .byte, interfaces := #[7, 4], accessFlags := 1041 }

/-- the primitive int -/
def k10 : Class := { plain "int" none with kind := .primitive 'I', accessFlags := 0x411 }
/-- [I -/
def k11 : Class := { plain "[I" (some 0) with kind := .array 10 .int, interfaces := #[7, 4], accessFlags := 1041 }

def heap : Heap := #[{ cls := 6, slots := #[.ref 1, .ref 2, .ref 3, .ref 4, .ref 5, .null], vm := .statics 6 },
  { cls := 6, slots := #[.null, .int 0, .int 0], vm := .none },
  { cls := 6, slots := #[.null, .int 1, .int 0], vm := .none },
  { cls := 6, slots := #[.null, .int 2, .int 0], vm := .none },
  { cls := 6, slots := #[.null, .int 3, .int 0], vm := .none },
  { cls := 6, slots := #[.null, .int 4, .int 0], vm := .none }]
def classes : Array Class := #[k0, k1, k2, k3, k4, k5, k6, k7, k8, k9, k10, k11]
def interned : List (Array UInt16 × Addr) := []
def slotsUsed : Nat := 21
def theMethod : MethodId := ⟨1, 2⟩
def args0 : Array Value := #[.int 5, .int 5]
def aboutOver (below : List Frame) : State where
  vm := { classes := classes, interned := interned.toArray }
  heap := heap
  slotsUsed := slotsUsed
  threads := #[{ frames := .invoking theMethod args0 :: below }]
def below0 : List Frame := [.native { method := ⟨0, 0⟩, args := #[] }]
def about1 : State := aboutOver below0
def p0 : Program := .bare "" "" ""
def e0 : Env := launch0.env 0 0 0
theorem w_frames : about1.frames = Frame.invoking theMethod args0 :: below0 := rfl
set_option maxRecDepth 65536 in
theorem w_args : argsFit about1.vm theMethod args0 = true := by decide +kernel
set_option maxRecDepth 65536 in
theorem w_heap : heapFits about1 = true := by decide +kernel
set_option maxRecDepth 65536 in
theorem w_runnable : about1.curStatus? = some .runnable := by decide +kernel
set_option maxRecDepth 65536 in
theorem w_alone : about1.alone = true := by decide +kernel
set_option maxRecDepth 65536 in
theorem w_named : about1.methodNamed? x = some theMethod := by decide +kernel
set_option maxRecDepth 65536 in
theorem w_hears : about1.hears theMethod below0 = true := by decide +kernel
set_option maxRecDepth 65536 in
theorem w_ripe : about1.ripe theMethod args0 below0 = true := by decide +kernel
theorem w_running : about1.status = .running := rfl
set_option maxRecDepth 65536 in
theorem w_room : about1.hasRoom e0.platform room_1 = true :=
  launch0.hasRoom_least _ room_1 (by decide +kernel) (by decide +kernel) (by decide +kernel) (by decide +kernel) (by decide +kernel) (by decide +kernel)
theorem allAtoms_all (ts : List Jvm.Cond) (a : Array Jvm.Value) (st : Jvm.State) : (allAtoms ts).before a st = ts.all (fun c => c.before a st) := by
  induction ts with
  | nil => rfl
  | cons c t ih =>
    show (Jvm.Cond.and c (allAtoms t)).before a st = _
    rw [Jvm.Cond.before_and, ih, List.all_cons]
def words1 : List Jvm.Cond := Jvm.Cond.code x code maxLocals ret :: tables_1
/-- a 'code' word, met by the world's own term for the bytes: nothing is compared byte by byte -/
theorem code_word {y : MethodName} {bytes : ByteArray} {mx : Nat} {rt : Option FieldType} {a : Array Value} {s : State} {m : MethodId} {meth : Method} {c : Code} (h1 : s.methodNamed? y = some m) (h2 : s.vm.method? m = some meth) (h3 : meth.code = some c) (h4 : c.code = bytes)
    (h5 : (c.maxLocals == mx && c.exceptionTable.isEmpty && decide (c.maxStack ≤ mostOperands) && decide (meth.sig.returnType = rt) && !meth.locks && decide (parseMethodDescriptor y.desc = some meth.sig)) = true) : (Jvm.Cond.code y bytes mx rt).before a s = true := by
  simp only [Bool.and_eq_true, beq_iff_eq, Bool.not_eq_true', decide_eq_true_eq] at h5
  obtain ⟨⟨⟨⟨⟨g1, g2⟩, g3⟩, g4⟩, g5⟩, g6⟩ := h5
  simp [Cond.before, Cond.holds, Cond.value, h1, h2, h3, h4, g1, g2, g3, g4, g5, g6]
def isCode : Jvm.Cond → Bool
  | .code _ _ _ _ => true
  | _ => false
theorem all_split {L : List Jvm.Cond} {P : Jvm.Cond → Bool} (h1 : L.all (fun c => isCode c || P c) = true) (h2 : ∀ c ∈ L.filter isCode, P c = true) : L.all P = true := by
  refine List.all_eq_true.mpr fun c hc => ?_
  have h := List.all_eq_true.mp h1 c hc
  rcases Bool.eq_false_or_eq_true (isCode c) with hi | hi
  · exact h2 c (List.mem_filter.mpr ⟨hc, hi⟩)
  · simpa [hi] using h
set_option maxRecDepth 65536 in
theorem w_c0 : (Jvm.Cond.code x code maxLocals ret).before args0 about1 = true := code_word (m := ⟨1, 2⟩) (meth := k1m2) (c := k1c2) (by decide +kernel) rfl rfl rfl (by decide +kernel)
set_option maxRecDepth 65536 in
theorem w_c1 : (Jvm.Cond.code ({ cls := "com/example/rekey/rekey/CharacterClassContainsPinLaw", name := "inRange", desc := "(JJJ)Z" } : Jvm.MethodName) method_2_code (8 : Nat) (Option.some Jvm.ClassFile.FieldType.boolean)).before args0 about1 = true := code_word (m := ⟨1, 1⟩) (meth := k1m1) (c := k1c1) (by decide +kernel) rfl rfl rfl (by decide +kernel)
set_option maxRecDepth 65536 in
theorem w_c2 : (Jvm.Cond.code ({ cls := "com/example/rekey/rekey/PasswordPolicy$CharacterClass", name := "contains", desc := "(I)Z" } : Jvm.MethodName) prog_16_method_4_code (5 : Nat) (Option.some Jvm.ClassFile.FieldType.boolean)).before args0 about1 = true := code_word (m := ⟨6, 0⟩) (meth := k6m0) (c := k6c0) (by decide +kernel) rfl rfl rfl (by decide +kernel)
set_option maxRecDepth 65536 in
theorem w_c3 : (Jvm.Cond.code ({ cls := "java/lang/Enum", name := "ordinal", desc := "()I" } : Jvm.MethodName) jdk_37_method_2_code (1 : Nat) (Option.some Jvm.ClassFile.FieldType.int)).before args0 about1 = true := code_word (m := ⟨5, 0⟩) (meth := k5m0) (c := k5c0) (by decide +kernel) rfl rfl rfl (by decide +kernel)
def codes1 : List Jvm.Cond := [Jvm.Cond.code x code maxLocals ret, Jvm.Cond.code ({ cls := "com/example/rekey/rekey/CharacterClassContainsPinLaw", name := "inRange", desc := "(JJJ)Z" } : Jvm.MethodName) method_2_code (8 : Nat) (Option.some Jvm.ClassFile.FieldType.boolean), Jvm.Cond.code ({ cls := "com/example/rekey/rekey/PasswordPolicy$CharacterClass", name := "contains", desc := "(I)Z" } : Jvm.MethodName) prog_16_method_4_code (5 : Nat) (Option.some Jvm.ClassFile.FieldType.boolean), Jvm.Cond.code ({ cls := "java/lang/Enum", name := "ordinal", desc := "()I" } : Jvm.MethodName) jdk_37_method_2_code (1 : Nat) (Option.some Jvm.ClassFile.FieldType.int)]
set_option maxRecDepth 65536 in
theorem codes_eq : words1.filter isCode = codes1 := rfl
theorem w_codes : ∀ c ∈ words1.filter isCode, c.before args0 about1 = true := by
  rw [codes_eq]
  intro c hc
  simp only [codes1, List.mem_cons, List.not_mem_nil, or_false] at hc
  rcases hc with rfl | rfl | rfl | rfl
  · exact w_c0
  · exact w_c1
  · exact w_c2
  · exact w_c3
set_option maxRecDepth 65536 in
theorem w_t1 : (words1.take 24).all (fun c => isCode c || c.before args0 about1) = true := by decide +kernel
set_option maxRecDepth 65536 in
theorem w_t2 : (words1.drop 24).all (fun c => isCode c || c.before args0 about1) = true := by decide +kernel
theorem w_tables : (allAtoms (Jvm.Cond.code x code maxLocals ret :: tables_1)).before args0 about1 = true := by
  rw [allAtoms_all]
  show words1.all (fun c => c.before args0 about1) = true
  refine all_split ?_ w_codes
  rw [← List.take_append_drop 24 words1, List.all_append, w_t1, w_t2]
  rfl
set_option maxRecDepth 65536 in
theorem w_case : (Jvm.Cond.and given_1 narrow_1).before args0 about1 = true := by decide +kernel
theorem w_applies : (headSpec (Jvm.Cond.code x code maxLocals ret :: tables_1) room_1).applies x e0.platform about1 = true :=
  (Spec.applies_iff w_frames).mpr ⟨w_running, w_runnable, w_alone, w_named, w_hears, w_ripe, w_room, w_tables⟩
theorem atStart : AtStart classFile x code maxLocals ret World_1 tables_1 room_1 Calls_1 rest_1 Pre_1 launch0 p0 e0 about1 theMethod args0 below0 :=
  ⟨lists_1, trivial, launch0.admits_env _ _ _, launch0.least_env, fairChoices_fair.cas, fairChoices_fair.clock, w_frames, w_args, w_heap, w_applies, trivial, trivial, w_case⟩
end start1
theorem witness_1 : WitnessClaimed_1 := ⟨start1.p0, start1.e0, start1.about1, start1.theMethod, start1.args0, start1.below0, start1.atStart⟩
end Jvm.Pilot.@@N@@
