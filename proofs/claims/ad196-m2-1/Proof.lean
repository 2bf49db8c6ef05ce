import JvmDerived
import JvmDerived.Pilot.@@N@@Statement
import JvmDerived.Pilot.@@N@@Code
set_option linter.unusedVariables false
set_option linter.unusedSimpArgs false
@@BLOCK:NumsL.lean.txt@@
namespace Jvm.Pilot.@@N@@
open Jvm Jvm.ClassFile Sem Op Lib Jvm.Free Jvm.Stand Jvm.LawKit Jvm.RoadKit Bundle Jvm.Pilot.@@N@@.Jvm.D
section OwnKit
variable {p : Program} {l : Launch} {e : Env} {R : Room} {s : State} {m : MethodId} {args : Array Value} {below : List Frame} {meth : Method} {c : Code} {T : State} {locs : List Loc} {cells slots : Nat}
/-- from U the run comes to an end of which K speaks -/
def Go (p : Program) (e : Env) (below : List Frame) (K : Outcome → State → Prop) (U : State) : Prop := ∃ s₂ o, Steps p.tables e below U s₂ ∧ s₂.status = .running ∧ Ended s₂ below o ∧ K o s₂
theorem own_s {K : Outcome → State → Prop} {A B : State} (h : ∀ t, Steps p.tables e below B t → Steps p.tables e below A t) (g : Go p e below K B) : Go p e below K A := by
  obtain ⟨s₂, o, h1, h2⟩ := g
  exact ⟨s₂, o, h _ h1, h2⟩
def Kf (s : State) (Q : Option Value → Heap → List Loc → Prop) (C N : Nat) (o : Outcome) (U : State) : Prop := ∃ v L, o = .returned v ∧ Q v U.heap L ∧ FrameEnd s o U L C N
theorem own_ret (X : Stand p l e R s m args below meth c T locs cells slots) (hx : p.tables.exec = Jvm.exec) (hlk : meth.locks = false) {pc : Nat} {Ls : Array Slot} {w : Value} {t : FieldType} {i : Instr} {rest : List Value} (hret : meth.sig.returnType = some t) (hn : narrow t w = w)
    (hi : (i = .ireturn ∧ (t = .int ∨ t = .boolean ∨ t = .byte ∨ t = .char ∨ t = .short) ∧ ∃ z, w = .int z) ∨ (i = .lreturn ∧ t = .long ∧ ∃ z, w = .long z) ∨ (i = .dreturn ∧ t = .double ∧ ∃ z, w = .double z) ∨ (i = .freturn ∧ t = .float ∧ ∃ z, w = .float z) ∨ (i = .areturn ∧ t.isReference = true ∧ w.isRef = true))
    (hd : decode c.code pc = .ok (i, 1)) {Q : Option Value → Heap → List Loc → Prop} {C N : Nat} (hc : cells ≤ C) (hs : slots ≤ N) (hQ : Q (some w) T.heap locs) : Go p e below (Kf s Q C N) (T.setTop (mkF m pc Ls (w :: rest))) := by
  obtain ⟨fs, hr, hrun, hended, hW, hsame⟩ := X.leave (v := some w) (fun h => by rw [hret] at h; cases h) hlk
  exact ⟨_, _, retOut X hx hret hn hi hd hr, hrun, hended, _, _, rfl, hQ, ⟨_, rfl⟩, hW, hsame.mono hc hs⟩
theorem own_retI (X : Stand p l e R s m args below meth c T locs cells slots) (hx : p.tables.exec = Jvm.exec) (hlk : meth.locks = false) {pc : Nat} {Ls : Array Slot} {z : Int32} {rest : List Value} (hret : meth.sig.returnType = some .int)
    (hd : decode c.code pc = .ok (.ireturn, 1)) {Q : Option Value → Heap → List Loc → Prop} {C N : Nat} (hc : cells ≤ C) (hs : slots ≤ N) (hQ : Q (some (.int z)) T.heap locs) : Go p e below (Kf s Q C N) (T.setTop (mkF m pc Ls (.int z :: rest))) :=
  own_ret X hx hlk hret rfl (Or.inl ⟨rfl, Or.inl rfl, _, rfl⟩) hd hc hs hQ
theorem own_retJ (X : Stand p l e R s m args below meth c T locs cells slots) (hx : p.tables.exec = Jvm.exec) (hlk : meth.locks = false) {pc : Nat} {Ls : Array Slot} {z : Int64} {rest : List Value} (hret : meth.sig.returnType = some .long)
    (hd : decode c.code pc = .ok (.lreturn, 1)) {Q : Option Value → Heap → List Loc → Prop} {C N : Nat} (hc : cells ≤ C) (hs : slots ≤ N) (hQ : Q (some (.long z)) T.heap locs) : Go p e below (Kf s Q C N) (T.setTop (mkF m pc Ls (.long z :: rest))) :=
  own_ret X hx hlk hret rfl (Or.inr (Or.inl ⟨rfl, rfl, _, rfl⟩)) hd hc hs hQ
theorem own_retR (X : Stand p l e R s m args below meth c T locs cells slots) (hx : p.tables.exec = Jvm.exec) (hlk : meth.locks = false) {pc : Nat} {Ls : Array Slot} {w : Value} {t : FieldType} {rest : List Value} (hret : meth.sig.returnType = some t) (ht : t.isReference = true) (hw : w.isRef = true)
    (hd : decode c.code pc = .ok (.areturn, 1)) {Q : Option Value → Heap → List Loc → Prop} {C N : Nat} (hc : cells ≤ C) (hs : slots ≤ N) (hQ : Q (some w) T.heap locs) : Go p e below (Kf s Q C N) (T.setTop (mkF m pc Ls (w :: rest))) :=
  own_ret X hx hlk hret (by cases t <;> simp [FieldType.isReference] at ht <;> cases w <;> simp [Value.isRef] at hw <;> rfl) (Or.inr (Or.inr (Or.inr (Or.inr ⟨rfl, ht, hw⟩)))) hd hc hs hQ
theorem own_retB (X : Stand p l e R s m args below meth c T locs cells slots) (hx : p.tables.exec = Jvm.exec) (hlk : meth.locks = false) {pc : Nat} {Ls : Array Slot} {z : Int32} {t : FieldType} {rest : List Value} (hret : meth.sig.returnType = some t) (ht : t = .boolean ∨ t = .byte ∨ t = .char ∨ t = .short)
    (hd : decode c.code pc = .ok (.ireturn, 1)) {Q : Option Value → Heap → List Loc → Prop} {C N : Nat} (hc : cells ≤ C) (hs : slots ≤ N) (hQ : Q (some (.int (nar t z))) T.heap locs) : Go p e below (Kf s Q C N) (T.setTop (mkF m pc Ls (.int z :: rest))) := by
  obtain ⟨fs, hr, hrun, hended, hW, hsame⟩ := X.leave (v := some (.int (nar t z))) (fun h => by rw [hret] at h; cases h) hlk
  exact ⟨_, _, retN X hx hret ht hd hr, hrun, hended, _, _, rfl, hQ, ⟨_, rfl⟩, hW, hsame.mono hc hs⟩
theorem own_retV (X : Stand p l e R s m args below meth c T locs cells slots) (hx : p.tables.exec = Jvm.exec) (hlk : meth.locks = false) {pc : Nat} {Ls : Array Slot} (hret : meth.sig.returnType = none)
    (hd : decode c.code pc = .ok (.return_, 1)) {Q : Option Value → Heap → List Loc → Prop} {C N : Nat} (hc : cells ≤ C) (hs : slots ≤ N) (hQ : Q none T.heap locs) : Go p e below (Kf s Q C N) (T.setTop (mkF m pc Ls [])) := by
  obtain ⟨fs, hr, hrun, hended, hW, hsame⟩ := X.leave (v := none) (fun _ => rfl) hlk
  exact ⟨_, _, X.returnOut hx hret hd hr, hrun, hended, _, _, rfl, hQ, ⟨_, rfl⟩, hW, hsame.mono hc hs⟩
/-- a truth as Java's int -/
abbrev bz (P : Prop) [Decidable P] : Int32 := if P then 1 else 0
theorem own_t {P : Prop} [Decidable P] (h : P) : some (Value.int (nar .boolean (1 : Int32))) = some (Value.int (bz P)) := by rw [bz, if_pos h]; rfl
theorem own_f {P : Prop} [Decidable P] (h : ¬ P) : some (Value.int (nar .boolean (0 : Int32))) = some (Value.int (bz P)) := by rw [bz, if_neg h]; rfl
theorem own_i {a b : Int32} (h : a = b) : some (Value.int a) = some (Value.int b) := by rw [h]
theorem own_j {a b : Int64} (h : a = b) : some (Value.long a) = some (Value.long b) := by rw [h]
theorem own_r {a b : Addr} (h : a = b) : some (Value.ref a) = some (Value.ref b) := by rw [h]
theorem own_eqI {args : Array Value} {first s : State} {o : Option Outcome} {idx : List Nat} {t : Term} {k : Int32} (h : (Jvm.Cond.eq t (Term.int k)).value args first o s idx = some true) : t.eval args first o idx s = some (.int k) := by
  simp only [Cond.value, Term.eval] at h
  cases ht : t.eval args first o idx s with
  | none => simp [ht] at h
  | some x => cases x <;> simp [ht] at h ⊢; exact h
end OwnKit
theorem own_uniq {Z : State} {h : Heap} {a : Addr} {C n d : String} {v w : Value} (F : Fld Z h a C n d v) (G : Fld Z h a C n d w) : v = w := by
  obtain ⟨cell, cf, k, i, f, h1, h2, -, -, -, -, h7⟩ := F
  obtain ⟨cell', cf', k', i', f', g1, g2, -, -, -, -, g7⟩ := G
  cases h1.symm.trans g1
  cases h2.symm.trans g2
  exact Option.some.inj (h7.symm.trans g7)
theorem own_bzc {P Q : Prop} [Decidable P] [Decidable Q] (h : P ↔ Q) : bz P = bz Q := by
  by_cases q : Q
  · rw [bz, bz, if_pos q, if_pos (h.mpr q)]
  · rw [bz, bz, if_neg q, if_neg (fun r => q (h.mp r))]
abbrev inS (n : Int32) : Prop := ¬ n < (33 : Int32) ∧ ¬ (126 : Int32) < n
abbrev inL (n : Int32) : Prop := ¬ ((n.toInt64) - (33 : Int64)) < (0 : Int64) ∧ ((n.toInt64) - (33 : Int64)) < (94 : Int64)
theorem own_in (n : Int32) : inS n ↔ inL n := by
  have b1 := n.le_toInt
  have b2 := n.toInt_lt
  have e1 : n.toInt64.toInt = n.toInt := Jvm.Kit.i64_of_i32 n
  have e33 : (33 : Int64).toInt = 33 := by decide
  have e2 : (n.toInt64 - (33 : Int64)).toInt = n.toInt64.toInt - (33 : Int64).toInt := Jvm.Kit.i64_sub (by omega) (by omega)
  unfold inS inL
  rw [Int32.lt_iff_toInt_lt, Int32.lt_iff_toInt_lt, Int64.lt_iff_toInt_lt, Int64.lt_iff_toInt_lt, e2, e1, e33, show (33 : Int32).toInt = 33 from by decide, show (126 : Int32).toInt = 126 from by decide, show (94 : Int64).toInt = 94 from by decide, Int64.toInt_zero]
  omega
theorem own_any {w : Addr} (n : Int32) : bz (w = w ∨ inS n) = bz (¬ (1 : Int32) = (0 : Int32) ∨ inL n) := own_bzc ⟨fun _ => Or.inl (by decide), fun _ => Or.inl rfl⟩
theorem own_not {v w : Addr} (h : ¬ v = w) (n : Int32) : bz (v = w ∨ inS n) = bz (¬ (0 : Int32) = (0 : Int32) ∨ inL n) := own_bzc ⟨fun q => Or.inr ((own_in n).mp (q.resolve_left h)), fun q => Or.inr ((own_in n).mpr (q.resolve_left (fun r => r rfl)))⟩
theorem d1_0 : decode prog_15_method_4_code 0 = .ok (.aload_n 0, 1) := by decide +kernel
theorem d1_1 : decode prog_15_method_4_code 1 = .ok (.getstatic 3, 3) := by decide +kernel
theorem d1_4 : decode prog_15_method_4_code 4 = .ok (.if_acmp .eq 15, 3) := by decide +kernel
theorem d1_7 : decode prog_15_method_4_code 7 = .ok (.iload_n 1, 1) := by decide +kernel
theorem d1_8 : decode prog_15_method_4_code 8 = .ok (.bipush 33, 2) := by decide +kernel
theorem d1_10 : decode prog_15_method_4_code 10 = .ok (.if_icmp .lt 13, 3) := by decide +kernel
theorem d1_13 : decode prog_15_method_4_code 13 = .ok (.iload_n 1, 1) := by decide +kernel
theorem d1_14 : decode prog_15_method_4_code 14 = .ok (.bipush 126, 2) := by decide +kernel
theorem d1_16 : decode prog_15_method_4_code 16 = .ok (.if_icmp .gt 7, 3) := by decide +kernel
theorem d1_19 : decode prog_15_method_4_code 19 = .ok (.iconst 1, 1) := by decide +kernel
theorem d1_20 : decode prog_15_method_4_code 20 = .ok (.goto 4, 3) := by decide +kernel
theorem d1_23 : decode prog_15_method_4_code 23 = .ok (.iconst 0, 1) := by decide +kernel
theorem d1_24 : decode prog_15_method_4_code 24 = .ok (.ireturn, 1) := by decide +kernel
theorem pn_0 : plainName "com/example/rekey/rekey/PasswordPolicy$Allowed" = true := by first | (simp [plainName, overriddenIn]; done) | decide +kernel
theorem ef_1 (m : MethodId) (x0 : Addr) (x1 : Int32) : entryFrame m #[(.ref x0), (.int x1)] 2 = mkF m 0 #[.val (.ref x0), .val (.int x1)] [] := by first | (simp [entryFrame, mkF, argsToLocals, Value.category]; done) | rfl
def Q1 (Z : State) (a1 : Addr) (p2 : Int32) (wA : Addr) (h0 : Heap) (n0 : Nat) (v : Option Value) (h : Heap) (L : List Loc) : Prop := v = some (.int (bz (a1 = wA ∨ inS p2))) ∧ Fr n0 L ∧ h = h0
set_option maxRecDepth 65536 in
set_option maxHeartbeats 40000000 in
theorem rm1 (l : Launch) (Z : State) (a0 : Array Value) (hw : ∀ d ∈ tables_1, d.before a0 Z = true) (ws : List Jvm.Cond) (a1 : Addr) (p2 : Int32) (wA : Addr) (h0 : Heap) (n0 : Nat) (Z0 : n0 ≤ h0.size) (SA : Sta Z h0 "com/example/rekey/rekey/PasswordPolicy$Allowed" "ANY" "Lcom/example/rekey/rekey/PasswordPolicy$Allowed;" (.ref wA)) :
    MetFree l (⟨"com/example/rekey/rekey/PasswordPolicy$Allowed", "admits", "(I)Z"⟩ : MethodName) (head1 (Jvm.Cond.code (⟨"com/example/rekey/rekey/PasswordPolicy$Allowed", "admits", "(I)Z"⟩ : MethodName) prog_15_method_4_code 2 (some .boolean) :: ws) ({ frames := 0, cells := 0, slots := 0, locals := 0 } : Room)) (fun a U => a = #[(.ref a1), (.int p2)] ∧ Z.Warmed39 U.vm ∧ U.heap = h0) (fun _ _ _ _ _ => True) (fun _ U o U' => ∃ v L, o = .returned v ∧ Q1 Z a1 p2 wA h0 n0 v U'.heap L ∧ FrameEnd U o U' L ({ frames := 0, cells := 0, slots := 0, locals := 0 } : Room).cells ({ frames := 0, cells := 0, slots := 0, locals := 0 } : Room).slots) := by
  refine MetFree.of_bodySF (plainFor_of_name pn_0) hisR ?_
  intro p e s m args below meth c s₁ Bd hml0 hP hK
  obtain ⟨rfl, hZ, hh⟩ := hP
  have hx := Bd.exec
  have hby := Bd.bytes
  have hlk : meth.locks = false := BodyLoose.notSynchronized Bd
  have hml : c.maxLocals = 2 := hml0
  have hown : s.vm.findClass "com/example/rekey/rekey/PasswordPolicy$Allowed" = some m.cls := findClass_of_methodNamed Bd.named
  have hnm := (name_of_methodNamed Bd.named Bd.method).1
  have X0 : Stand p l e ({ frames := 0, cells := 0, slots := 0, locals := 0 } : Room) s m #[(.ref a1), (.int p2)] below meth c s₁ [] 0 0 := Stand.of_body Bd
  have e0 : s₁.heap = h0 := by rw [← hh, Bd.state]; rfl
  have N0 := Fr.nil n0
  show Go p e below (Kf s (Q1 Z a1 p2 wA h0 n0) ({ frames := 0, cells := 0, slots := 0, locals := 0 } : Room).cells ({ frames := 0, cells := 0, slots := 0, locals := 0 } : Room).slots) (s₁.setTop (entryFrame m #[(.ref a1), (.int p2)] 2))
  refine own_s (B := s₁.setTop (mkF m 0 #[.val (.ref a1), .val (.int p2)] [])) (fun t k => castTop (ef_1 m a1 p2) k) ?_
  refine own_s (B := s₁.setTop (mkF m 1 #[.val (.ref a1), .val (.int p2)] [(.ref a1)])) (fun t k => XS.aloadN X0.here hx rfl (hb hby d1_0) rfl rfl k) ?_
  obtain ⟨T1, X1, e1, st1⟩ := getS2 X0 hx hZ hown (host := "") (Or.inl (hw _ (List.mem_of_getElem? (i := 8) rfl))) Via.refl e0 SA (g := (mkF m 1 #[.val (.ref a1), .val (.int p2)] [(.ref a1)])) rfl (hb hby d1_1)
  refine own_s (B := T1.setTop (mkF m 4 #[.val (.ref a1), .val (.int p2)] [(.ref wA), (.ref a1)])) st1 ?_
  by_cases ha4 : a1 = wA
  · refine own_s (B := T1.setTop (mkF m 19 #[.val (.ref a1), .val (.int p2)] [])) (fun t k => Jvm.RoadKit.acmp (g := (mkF m 4 #[.val (.ref a1), .val (.int p2)] [(.ref wA), (.ref a1)])) X1 hx rfl rfl rfl (pc0 := 4) (pc' := 19) (same := true) rfl (hb hby d1_4) rfl (decide_eq_true (congrArg Value.ref ha4)) (by decide) (by decide) k) ?_
    refine own_s (B := T1.setTop (mkF m 20 #[.val (.ref a1), .val (.int p2)] [(.int (1 : Int32))])) (fun t k => XS.iconst X1.here hx rfl (hb hby d1_19) k) ?_
    refine own_s (B := T1.setTop (mkF m 24 #[.val (.ref a1), .val (.int p2)] [(.int (1 : Int32))])) (fun t k => XS.goto X1.here hx rfl (pc0 := 20) (pc' := 24) rfl (hb hby d1_20) (by decide) (by decide) k) ?_
    exact own_retB X1 hx hlk (t := .boolean) Bd.returns (by simp) (hb hby d1_24) (by decide) (by decide) ⟨own_t (Or.inl ha4), N0, e1⟩
  · refine own_s (B := T1.setTop (mkF m 7 #[.val (.ref a1), .val (.int p2)] [])) (fun t k => Jvm.RoadKit.acmp (g := (mkF m 4 #[.val (.ref a1), .val (.int p2)] [(.ref wA), (.ref a1)])) X1 hx rfl rfl rfl (pc0 := 4) (pc' := 7) (same := false) rfl (hb hby d1_4) rfl (decide_eq_false fun q => ha4 (Value.ref.inj q)) (by decide) (by decide) k) ?_
    refine own_s (B := T1.setTop (mkF m 8 #[.val (.ref a1), .val (.int p2)] [(.int p2)])) (fun t k => XS.iloadN X1.here hx rfl (hb hby d1_7) rfl k) ?_
    refine own_s (B := T1.setTop (mkF m 10 #[.val (.ref a1), .val (.int p2)] [(.int (33 : Int32)), (.int p2)])) (fun t k => XS.bipush X1.here hx rfl (hb hby d1_8) k) ?_
    by_cases hc10 : p2 < (33 : Int32)
    · refine own_s (B := T1.setTop (mkF m 23 #[.val (.ref a1), .val (.int p2)] [])) (fun t k => XS.icmpYes X1.here hx rfl (pc0 := 10) (pc' := 23) rfl (hb hby d1_10) rfl (tlt hc10).1 (by decide) (by decide) k) ?_
      refine own_s (B := T1.setTop (mkF m 24 #[.val (.ref a1), .val (.int p2)] [(.int (0 : Int32))])) (fun t k => XS.iconst X1.here hx rfl (hb hby d1_23) k) ?_
      exact own_retB X1 hx hlk (t := .boolean) Bd.returns (by simp) (hb hby d1_24) (by decide) (by decide) ⟨own_f (fun q => q.elim ha4 (fun r => r.1 hc10)), N0, e1⟩
    · refine own_s (B := T1.setTop (mkF m 13 #[.val (.ref a1), .val (.int p2)] [])) (fun t k => XS.icmpNo X1.here hx rfl (hb hby d1_10) rfl (flt hc10).1 k) ?_
      refine own_s (B := T1.setTop (mkF m 14 #[.val (.ref a1), .val (.int p2)] [(.int p2)])) (fun t k => XS.iloadN X1.here hx rfl (hb hby d1_13) rfl k) ?_
      refine own_s (B := T1.setTop (mkF m 16 #[.val (.ref a1), .val (.int p2)] [(.int (126 : Int32)), (.int p2)])) (fun t k => XS.bipush X1.here hx rfl (hb hby d1_14) k) ?_
      by_cases hc16 : (126 : Int32) < p2
      · refine own_s (B := T1.setTop (mkF m 23 #[.val (.ref a1), .val (.int p2)] [])) (fun t k => XS.icmpYes X1.here hx rfl (pc0 := 16) (pc' := 23) rfl (hb hby d1_16) rfl (tlt hc16).2.2.1 (by decide) (by decide) k) ?_
        refine own_s (B := T1.setTop (mkF m 24 #[.val (.ref a1), .val (.int p2)] [(.int (0 : Int32))])) (fun t k => XS.iconst X1.here hx rfl (hb hby d1_23) k) ?_
        exact own_retB X1 hx hlk (t := .boolean) Bd.returns (by simp) (hb hby d1_24) (by decide) (by decide) ⟨own_f (fun q => q.elim ha4 (fun r => r.2 hc16)), N0, e1⟩
      · refine own_s (B := T1.setTop (mkF m 19 #[.val (.ref a1), .val (.int p2)] [])) (fun t k => XS.icmpNo X1.here hx rfl (hb hby d1_16) rfl (flt hc16).2.2.1 k) ?_
        refine own_s (B := T1.setTop (mkF m 20 #[.val (.ref a1), .val (.int p2)] [(.int (1 : Int32))])) (fun t k => XS.iconst X1.here hx rfl (hb hby d1_19) k) ?_
        refine own_s (B := T1.setTop (mkF m 24 #[.val (.ref a1), .val (.int p2)] [(.int (1 : Int32))])) (fun t k => XS.goto X1.here hx rfl (pc0 := 20) (pc' := 24) rfl (hb hby d1_20) (by decide) (by decide) k) ?_
        exact own_retB X1 hx hlk (t := .boolean) Bd.returns (by simp) (hb hby d1_24) (by decide) (by decide) ⟨own_t (Or.inr ⟨hc10, hc16⟩), N0, e1⟩
theorem d2_0 : decode method_2_code 0 = .ok (.iload_n 0, 1) := by decide +kernel
theorem d2_1 : decode method_2_code 1 = .ok (.ifCond .eq 5, 3) := by decide +kernel
theorem d2_4 : decode method_2_code 4 = .ok (.iconst 1, 1) := by decide +kernel
theorem d2_5 : decode method_2_code 5 = .ok (.ireturn, 1) := by decide +kernel
theorem d2_6 : decode method_2_code 6 = .ok (.iload_n 1, 1) := by decide +kernel
theorem d2_7 : decode method_2_code 7 = .ok (.i2l, 1) := by decide +kernel
theorem d2_8 : decode method_2_code 8 = .ok (.ldc2_w 7, 3) := by decide +kernel
theorem d2_11 : decode method_2_code 11 = .ok (.lsub, 1) := by decide +kernel
theorem d2_12 : decode method_2_code 12 = .ok (.lstore_n 2, 1) := by decide +kernel
theorem d2_13 : decode method_2_code 13 = .ok (.lload_n 2, 1) := by decide +kernel
theorem d2_14 : decode method_2_code 14 = .ok (.lconst 0, 1) := by decide +kernel
theorem d2_15 : decode method_2_code 15 = .ok (.lcmp, 1) := by decide +kernel
theorem d2_16 : decode method_2_code 16 = .ok (.ifCond .lt 15, 3) := by decide +kernel
theorem d2_19 : decode method_2_code 19 = .ok (.lload_n 2, 1) := by decide +kernel
theorem d2_20 : decode method_2_code 20 = .ok (.ldc2_w 9, 3) := by decide +kernel
theorem d2_23 : decode method_2_code 23 = .ok (.lcmp, 1) := by decide +kernel
theorem d2_24 : decode method_2_code 24 = .ok (.ifCond .ge 7, 3) := by decide +kernel
theorem d2_27 : decode method_2_code 27 = .ok (.iconst 1, 1) := by decide +kernel
theorem d2_28 : decode method_2_code 28 = .ok (.goto 4, 3) := by decide +kernel
theorem d2_31 : decode method_2_code 31 = .ok (.iconst 0, 1) := by decide +kernel
theorem d2_32 : decode method_2_code 32 = .ok (.ireturn, 1) := by decide +kernel
theorem pn_1 : plainName "com/example/rekey/rekey/AllowedAdmitsPinLaw" = true := by first | (simp [plainName, overriddenIn]; done) | decide +kernel
theorem ef_2 (m : MethodId) (x0 : Int32) (x1 : Int32) : entryFrame m #[(.int x0), (.int x1)] 4 = mkF m 0 #[.val (.int x0), .val (.int x1), .unset, .unset] [] := by first | (simp [entryFrame, mkF, argsToLocals, Value.category]; done) | rfl
def Q2 (Z : State) (p1 : Int32) (p2 : Int32) (h0 : Heap) (n0 : Nat) (v : Option Value) (h : Heap) (L : List Loc) : Prop := v = some (.int (bz (¬ p1 = (0 : Int32) ∨ inL p2))) ∧ Fr n0 L ∧ h = h0
set_option maxRecDepth 65536 in
set_option maxHeartbeats 40000000 in
theorem rm2 (l : Launch) (Z : State) (a0 : Array Value) (hw : ∀ d ∈ tables_1, d.before a0 Z = true) (ws : List Jvm.Cond) (p1 : Int32) (p2 : Int32) (h0 : Heap) (n0 : Nat) (Z0 : n0 ≤ h0.size) :
    MetFree l (⟨"com/example/rekey/rekey/AllowedAdmitsPinLaw", "expected", "(ZI)Z"⟩ : MethodName) (head1 (Jvm.Cond.code (⟨"com/example/rekey/rekey/AllowedAdmitsPinLaw", "expected", "(ZI)Z"⟩ : MethodName) method_2_code 4 (some .boolean) :: ws) ({ frames := 0, cells := 0, slots := 0, locals := 0 } : Room)) (fun a U => a = #[(.int p1), (.int p2)] ∧ Z.Warmed39 U.vm ∧ U.heap = h0) (fun _ _ _ _ _ => True) (fun _ U o U' => ∃ v L, o = .returned v ∧ Q2 Z p1 p2 h0 n0 v U'.heap L ∧ FrameEnd U o U' L ({ frames := 0, cells := 0, slots := 0, locals := 0 } : Room).cells ({ frames := 0, cells := 0, slots := 0, locals := 0 } : Room).slots) := by
  refine MetFree.of_bodySF (plainFor_of_name pn_1) hisR ?_
  intro p e s m args below meth c s₁ Bd hml0 hP hK
  obtain ⟨rfl, hZ, hh⟩ := hP
  have hx := Bd.exec
  have hby := Bd.bytes
  have hlk : meth.locks = false := BodyLoose.notSynchronized Bd
  have hml : c.maxLocals = 4 := hml0
  have hown : s.vm.findClass "com/example/rekey/rekey/AllowedAdmitsPinLaw" = some m.cls := findClass_of_methodNamed Bd.named
  have hnm := (name_of_methodNamed Bd.named Bd.method).1
  have X0 : Stand p l e ({ frames := 0, cells := 0, slots := 0, locals := 0 } : Room) s m #[(.int p1), (.int p2)] below meth c s₁ [] 0 0 := Stand.of_body Bd
  have e0 : s₁.heap = h0 := by rw [← hh, Bd.state]; rfl
  have N0 := Fr.nil n0
  show Go p e below (Kf s (Q2 Z p1 p2 h0 n0) ({ frames := 0, cells := 0, slots := 0, locals := 0 } : Room).cells ({ frames := 0, cells := 0, slots := 0, locals := 0 } : Room).slots) (s₁.setTop (entryFrame m #[(.int p1), (.int p2)] 4))
  refine own_s (B := s₁.setTop (mkF m 0 #[.val (.int p1), .val (.int p2), .unset, .unset] [])) (fun t k => castTop (ef_2 m p1 p2) k) ?_
  refine own_s (B := s₁.setTop (mkF m 1 #[.val (.int p1), .val (.int p2), .unset, .unset] [(.int p1)])) (fun t k => XS.iloadN X0.here hx rfl (hb hby d2_0) rfl k) ?_
  by_cases hc1 : p1 = (0 : Int32)
  · refine own_s (B := s₁.setTop (mkF m 6 #[.val (.int p1), .val (.int p2), .unset, .unset] [])) (fun t k => XS.ifYes X0.here hx rfl (pc0 := 1) (pc' := 6) rfl (hb hby d2_1) rfl ((if0 _ _).trans (teq hc1).1) (by decide) (by decide) k) ?_
    refine own_s (B := s₁.setTop (mkF m 7 #[.val (.int p1), .val (.int p2), .unset, .unset] [(.int p2)])) (fun t k => XS.iloadN X0.here hx rfl (hb hby d2_6) rfl k) ?_
    refine own_s (B := s₁.setTop (mkF m 8 #[.val (.int p1), .val (.int p2), .unset, .unset] [(.long (p2.toInt64))])) (fun t k => XS.i2l X0.here hx rfl (hb hby d2_7) rfl k) ?_
    refine own_s (B := s₁.setTop (mkF m 11 #[.val (.int p1), .val (.int p2), .unset, .unset] [(.long (33 : Int64)), (.long (p2.toInt64))])) (fun t k => X0.ldc2Long hx hown (mvT hZ (hw _ (List.mem_of_getElem? (i := 15) rfl))) (g := (mkF m 8 #[.val (.int p1), .val (.int p2), .unset, .unset] [(.long (p2.toInt64))])) rfl (hb hby d2_8) t k) ?_
    refine own_s (B := s₁.setTop (mkF m 12 #[.val (.int p1), .val (.int p2), .unset, .unset] [(.long ((p2.toInt64) - (33 : Int64)))])) (fun t k => XS.lsub X0.here hx rfl (hb hby d2_11) rfl k) ?_
    refine own_s (B := s₁.setTop (mkF m 13 #[.val (.int p1), .val (.int p2), .val (.long ((p2.toInt64) - (33 : Int64))), .second] [])) (fun t k => XS.lstoreN X0.here hx rfl (hb hby d2_12) rfl (l' := #[.val (.int p1), .val (.int p2), .val (.long ((p2.toInt64) - (33 : Int64))), .second]) rfl k) ?_
    refine own_s (B := s₁.setTop (mkF m 14 #[.val (.int p1), .val (.int p2), .val (.long ((p2.toInt64) - (33 : Int64))), .second] [(.long ((p2.toInt64) - (33 : Int64)))])) (fun t k => XS.lloadN X0.here hx rfl (hb hby d2_13) rfl k) ?_
    refine own_s (B := s₁.setTop (mkF m 15 #[.val (.int p1), .val (.int p2), .val (.long ((p2.toInt64) - (33 : Int64))), .second] [(.long (0 : Int64)), (.long ((p2.toInt64) - (33 : Int64)))])) (fun t k => XS.lconst X0.here hx rfl (hb hby d2_14) k) ?_
    refine own_s (B := s₁.setTop (mkF m 16 #[.val (.int p1), .val (.int p2), .val (.long ((p2.toInt64) - (33 : Int64))), .second] [(.int (lcmpW ((p2.toInt64) - (33 : Int64)) (0 : Int64)))])) (fun t k => XS.lcmp X0.here hx rfl (hb hby d2_15) rfl k) ?_
    by_cases hc16 : ((p2.toInt64) - (33 : Int64)) < (0 : Int64)
    · refine own_s (B := s₁.setTop (mkF m 31 #[.val (.int p1), .val (.int p2), .val (.long ((p2.toInt64) - (33 : Int64))), .second] [])) (fun t k => XS.ifYes X0.here hx rfl (pc0 := 16) (pc' := 31) rfl (hb hby d2_16) rfl ((if0 _ _).trans (tlt ((lw_lt ((p2.toInt64) - (33 : Int64)) (0 : Int64)).mpr hc16)).1) (by decide) (by decide) k) ?_
      refine own_s (B := s₁.setTop (mkF m 32 #[.val (.int p1), .val (.int p2), .val (.long ((p2.toInt64) - (33 : Int64))), .second] [(.int (0 : Int32))])) (fun t k => XS.iconst X0.here hx rfl (hb hby d2_31) k) ?_
      exact own_retB X0 hx hlk (t := .boolean) Bd.returns (by simp) (hb hby d2_32) (by decide) (by decide) ⟨own_f (fun q => q.elim (fun r => r hc1) (fun r => r.1 hc16)), N0, e0⟩
    · refine own_s (B := s₁.setTop (mkF m 19 #[.val (.int p1), .val (.int p2), .val (.long ((p2.toInt64) - (33 : Int64))), .second] [])) (fun t k => XS.ifNo X0.here hx rfl (hb hby d2_16) rfl ((if0 _ _).trans (flt (fun q => hc16 ((lw_lt ((p2.toInt64) - (33 : Int64)) (0 : Int64)).mp q))).1) k) ?_
      refine own_s (B := s₁.setTop (mkF m 20 #[.val (.int p1), .val (.int p2), .val (.long ((p2.toInt64) - (33 : Int64))), .second] [(.long ((p2.toInt64) - (33 : Int64)))])) (fun t k => XS.lloadN X0.here hx rfl (hb hby d2_19) rfl k) ?_
      refine own_s (B := s₁.setTop (mkF m 23 #[.val (.int p1), .val (.int p2), .val (.long ((p2.toInt64) - (33 : Int64))), .second] [(.long (94 : Int64)), (.long ((p2.toInt64) - (33 : Int64)))])) (fun t k => X0.ldc2Long hx hown (mvT hZ (hw _ (List.mem_of_getElem? (i := 16) rfl))) (g := (mkF m 20 #[.val (.int p1), .val (.int p2), .val (.long ((p2.toInt64) - (33 : Int64))), .second] [(.long ((p2.toInt64) - (33 : Int64)))])) rfl (hb hby d2_20) t k) ?_
      refine own_s (B := s₁.setTop (mkF m 24 #[.val (.int p1), .val (.int p2), .val (.long ((p2.toInt64) - (33 : Int64))), .second] [(.int (lcmpW ((p2.toInt64) - (33 : Int64)) (94 : Int64)))])) (fun t k => XS.lcmp X0.here hx rfl (hb hby d2_23) rfl k) ?_
      by_cases hc24 : ((p2.toInt64) - (33 : Int64)) < (94 : Int64)
      · refine own_s (B := s₁.setTop (mkF m 27 #[.val (.int p1), .val (.int p2), .val (.long ((p2.toInt64) - (33 : Int64))), .second] [])) (fun t k => XS.ifNo X0.here hx rfl (hb hby d2_24) rfl ((if0 _ _).trans (tlt ((lw_lt ((p2.toInt64) - (33 : Int64)) (94 : Int64)).mpr hc24)).2.1) k) ?_
        refine own_s (B := s₁.setTop (mkF m 28 #[.val (.int p1), .val (.int p2), .val (.long ((p2.toInt64) - (33 : Int64))), .second] [(.int (1 : Int32))])) (fun t k => XS.iconst X0.here hx rfl (hb hby d2_27) k) ?_
        refine own_s (B := s₁.setTop (mkF m 32 #[.val (.int p1), .val (.int p2), .val (.long ((p2.toInt64) - (33 : Int64))), .second] [(.int (1 : Int32))])) (fun t k => XS.goto X0.here hx rfl (pc0 := 28) (pc' := 32) rfl (hb hby d2_28) (by decide) (by decide) k) ?_
        exact own_retB X0 hx hlk (t := .boolean) Bd.returns (by simp) (hb hby d2_32) (by decide) (by decide) ⟨own_t (Or.inr ⟨hc16, hc24⟩), N0, e0⟩
      · refine own_s (B := s₁.setTop (mkF m 31 #[.val (.int p1), .val (.int p2), .val (.long ((p2.toInt64) - (33 : Int64))), .second] [])) (fun t k => XS.ifYes X0.here hx rfl (pc0 := 24) (pc' := 31) rfl (hb hby d2_24) rfl ((if0 _ _).trans (flt (fun q => hc24 ((lw_lt ((p2.toInt64) - (33 : Int64)) (94 : Int64)).mp q))).2.1) (by decide) (by decide) k) ?_
        refine own_s (B := s₁.setTop (mkF m 32 #[.val (.int p1), .val (.int p2), .val (.long ((p2.toInt64) - (33 : Int64))), .second] [(.int (0 : Int32))])) (fun t k => XS.iconst X0.here hx rfl (hb hby d2_31) k) ?_
        exact own_retB X0 hx hlk (t := .boolean) Bd.returns (by simp) (hb hby d2_32) (by decide) (by decide) ⟨own_f (fun q => q.elim (fun r => r hc1) (fun r => hc24 r.2)), N0, e0⟩
  · refine own_s (B := s₁.setTop (mkF m 4 #[.val (.int p1), .val (.int p2), .unset, .unset] [])) (fun t k => XS.ifNo X0.here hx rfl (hb hby d2_1) rfl ((if0 _ _).trans (feq hc1).1) k) ?_
    refine own_s (B := s₁.setTop (mkF m 5 #[.val (.int p1), .val (.int p2), .unset, .unset] [(.int (1 : Int32))])) (fun t k => XS.iconst X0.here hx rfl (hb hby d2_4) k) ?_
    exact own_retB X0 hx hlk (t := .boolean) Bd.returns (by simp) (hb hby d2_5) (by decide) (by decide) ⟨own_t (Or.inl hc1), N0, e0⟩
theorem pd_0 : parseMethodDescriptor "(I)Z" = some ⟨[.int], some .boolean⟩ := by decide +kernel
theorem pd_1 : parseMethodDescriptor "(ZI)Z" = some ⟨[.boolean, .int], some .boolean⟩ := by decide +kernel
theorem ef_0 (m : MethodId) (x0 : Int32) (x1 : Int32) (x2 : Int32) : entryFrame m #[(.int x0), (.int x1), (.int x2)] maxLocals = mkF m 0 #[.val (.int x0), .val (.int x1), .val (.int x2), .unset, .unset, .unset, .unset, .unset] [] := by first | (simp [entryFrame, mkF, argsToLocals, Value.category, maxLocals]; done) | rfl
def Q0 (Z : State) (p1 : Int32) (p2 : Int32) (p3 : Int32) (wA : Addr) (wV : Addr) (h0 : Heap) (n0 : Nat) (v : Option Value) (h : Heap) (L : List Loc) : Prop := v = some (.int 1) ∧ Fr n0 L
set_option maxRecDepth 65536 in
set_option maxHeartbeats 40000000 in
theorem rm0 (l : Launch) (Z : State) (a0 : Array Value) (hw : ∀ d ∈ tables_1, d.before a0 Z = true) (ws : List Jvm.Cond) (p1 : Int32) (p2 : Int32) (p3 : Int32) (wA : Addr) (wV : Addr) (h0 : Heap) (n0 : Nat) (Z0 : n0 ≤ h0.size) (SA : Sta Z h0 "com/example/rekey/rekey/PasswordPolicy$Allowed" "ANY" "Lcom/example/rekey/rekey/PasswordPolicy$Allowed;" (.ref wA)) (SV : Sta Z h0 "com/example/rekey/rekey/PasswordPolicy$Allowed" "ASCII_VISIBLE" "Lcom/example/rekey/rekey/PasswordPolicy$Allowed;" (.ref wV)) (XA : Exa Z h0 wA "com/example/rekey/rekey/PasswordPolicy$Allowed") (XV : Exa Z h0 wV "com/example/rekey/rekey/PasswordPolicy$Allowed") (hne : ¬ wV = wA) :
    MetFree l x (head1 (Jvm.Cond.code x code maxLocals ret :: ws) room_1) (fun a U => a = #[(.int p1), (.int p2), (.int p3)] ∧ Z.Warmed39 U.vm ∧ U.heap = h0) (fun _ _ _ _ _ => True) (fun _ U o U' => ∃ v L, o = .returned v ∧ Q0 Z p1 p2 p3 wA wV h0 n0 v U'.heap L ∧ FrameEnd U o U' L room_1.cells room_1.slots) := by
  refine MetFree.of_bodySF (plainFor_of_name pn_1) hisR ?_
  intro p e s m args below meth c s₁ Bd hml0 hP hK
  obtain ⟨rfl, hZ, hh⟩ := hP
  have hx := Bd.exec
  have hby := Bd.bytes
  have hlk : meth.locks = false := BodyLoose.notSynchronized Bd
  have hml : c.maxLocals = 8 := hml0
  have hown : s.vm.findClass "com/example/rekey/rekey/AllowedAdmitsPinLaw" = some m.cls := findClass_of_methodNamed Bd.named
  have hnm := (name_of_methodNamed Bd.named Bd.method).1
  have X0 : Stand p l e room_1 s m #[(.int p1), (.int p2), (.int p3)] below meth c s₁ [] 0 0 := Stand.of_body Bd
  have e0 : s₁.heap = h0 := by rw [← hh, Bd.state]; rfl
  have N0 := Fr.nil n0
  show Go p e below (Kf s (Q0 Z p1 p2 p3 wA wV h0 n0) room_1.cells room_1.slots) (s₁.setTop (entryFrame m #[(.int p1), (.int p2), (.int p3)] maxLocals))
  refine own_s (B := s₁.setTop (mkF m 0 #[.val (.int p1), .val (.int p2), .val (.int p3), .unset, .unset, .unset, .unset, .unset] [])) (fun t k => castTop (ef_0 m p1 p2 p3) k) ?_
  refine own_s (B := s₁.setTop (mkF m 1 #[.val (.int p1), .val (.int p2), .val (.int p3), .unset, .unset, .unset, .unset, .unset] [(.int p1)])) (fun t k => XS.iloadN X0.here hx rfl (hb hby at_0) rfl k) ?_
  refine own_s (B := s₁.setTop (mkF m 2 #[.val (.int p1), .val (.int p2), .val (.int p3), .unset, .unset, .unset, .unset, .unset] [(.int (1 : Int32)), (.int p1)])) (fun t k => XS.iconst X0.here hx rfl (hb hby at_1) k) ?_
  refine own_s (B := s₁.setTop (mkF m 3 #[.val (.int p1), .val (.int p2), .val (.int p3), .unset, .unset, .unset, .unset, .unset] [(.int (p1 &&& (1 : Int32)))])) (fun t k => XS.iand X0.here hx rfl (hb hby at_2) rfl k) ?_
  by_cases hc3 : (p1 &&& (1 : Int32)) = (0 : Int32)
  · refine own_s (B := s₁.setTop (mkF m 6 #[.val (.int p1), .val (.int p2), .val (.int p3), .unset, .unset, .unset, .unset, .unset] [])) (fun t k => XS.ifNo X0.here hx rfl (hb hby at_3) rfl ((if0 _ _).trans (teq hc3).2) k) ?_
    refine own_s (B := s₁.setTop (mkF m 7 #[.val (.int p1), .val (.int p2), .val (.int p3), .unset, .unset, .unset, .unset, .unset] [(.int (1 : Int32))])) (fun t k => XS.iconst X0.here hx rfl (hb hby at_6) k) ?_
    refine own_s (B := s₁.setTop (mkF m 11 #[.val (.int p1), .val (.int p2), .val (.int p3), .unset, .unset, .unset, .unset, .unset] [(.int (1 : Int32))])) (fun t k => XS.goto X0.here hx rfl (pc0 := 7) (pc' := 11) rfl (hb hby at_7) (by decide) (by decide) k) ?_
    refine own_s (B := s₁.setTop (mkF m 12 #[.val (.int p1), .val (.int p2), .val (.int p3), .val (.int (1 : Int32)), .unset, .unset, .unset, .unset] [])) (fun t k => XS.istoreN X0.here hx rfl (hb hby at_11) rfl (l' := #[.val (.int p1), .val (.int p2), .val (.int p3), .val (.int (1 : Int32)), .unset, .unset, .unset, .unset]) rfl k) ?_
    refine own_s (B := s₁.setTop (mkF m 13 #[.val (.int p1), .val (.int p2), .val (.int p3), .val (.int (1 : Int32)), .unset, .unset, .unset, .unset] [(.int (1 : Int32))])) (fun t k => XS.iloadN X0.here hx rfl (hb hby at_12) rfl k) ?_
    refine own_s (B := s₁.setTop (mkF m 16 #[.val (.int p1), .val (.int p2), .val (.int p3), .val (.int (1 : Int32)), .unset, .unset, .unset, .unset] [])) (fun t k => XS.ifNo X0.here hx rfl (hb hby at_13) rfl ((if0 _ _).trans (feq (by decide)).1) k) ?_
    obtain ⟨T1, X1, e1, st1⟩ := getS2 X0 hx hZ hown (host := "") (Or.inl (hw _ (List.mem_of_getElem? (i := 0) rfl))) Via.refl e0 SA (g := (mkF m 16 #[.val (.int p1), .val (.int p2), .val (.int p3), .val (.int (1 : Int32)), .unset, .unset, .unset, .unset] [])) rfl (hb hby at_16)
    refine own_s (B := T1.setTop (mkF m 19 #[.val (.int p1), .val (.int p2), .val (.int p3), .val (.int (1 : Int32)), .unset, .unset, .unset, .unset] [(.ref wA)])) st1 ?_
    refine own_s (B := T1.setTop (mkF m 25 #[.val (.int p1), .val (.int p2), .val (.int p3), .val (.int (1 : Int32)), .unset, .unset, .unset, .unset] [(.ref wA)])) (fun t k => XS.goto X1.here hx rfl (pc0 := 19) (pc' := 25) rfl (hb hby at_19) (by decide) (by decide) k) ?_
    refine own_s (B := T1.setTop (mkF m 27 #[.val (.int p1), .val (.int p2), .val (.int p3), .val (.int (1 : Int32)), .val (.ref wA), .unset, .unset, .unset] [])) (fun t k => XS.astore X1.here hx rfl (hb hby at_25) rfl rfl (l' := #[.val (.int p1), .val (.int p2), .val (.int p3), .val (.int (1 : Int32)), .val (.ref wA), .unset, .unset, .unset]) rfl k) ?_
    refine own_s (B := T1.setTop (mkF m 28 #[.val (.int p1), .val (.int p2), .val (.int p3), .val (.int (1 : Int32)), .val (.ref wA), .unset, .unset, .unset] [(.int p3)])) (fun t k => XS.iloadN X1.here hx rfl (hb hby at_27) rfl k) ?_
    refine own_s (B := T1.setTop (mkF m 31 #[.val (.int p1), .val (.int p2), .val (.int p3), .val (.int (1 : Int32)), .val (.ref wA), .unset, .unset, .unset] [(.int (255 : Int32)), (.int p3)])) (fun t k => XS.sipush X1.here hx rfl (hb hby at_28) k) ?_
    refine own_s (B := T1.setTop (mkF m 32 #[.val (.int p1), .val (.int p2), .val (.int p3), .val (.int (1 : Int32)), .val (.ref wA), .unset, .unset, .unset] [(.int (p3 &&& (255 : Int32)))])) (fun t k => XS.iand X1.here hx rfl (hb hby at_31) rfl k) ?_
    refine own_s (B := T1.setTop (mkF m 34 #[.val (.int p1), .val (.int p2), .val (.int p3), .val (.int (1 : Int32)), .val (.ref wA), .val (.int (p3 &&& (255 : Int32))), .unset, .unset] [])) (fun t k => XS.istore X1.here hx rfl (hb hby at_32) rfl (l' := #[.val (.int p1), .val (.int p2), .val (.int p3), .val (.int (1 : Int32)), .val (.ref wA), .val (.int (p3 &&& (255 : Int32))), .unset, .unset]) rfl k) ?_
    refine own_s (B := T1.setTop (mkF m 36 #[.val (.int p1), .val (.int p2), .val (.int p3), .val (.int (1 : Int32)), .val (.ref wA), .val (.int (p3 &&& (255 : Int32))), .unset, .unset] [(.ref wA)])) (fun t k => XS.aload X1.here hx rfl (hb hby at_34) rfl rfl k) ?_
    refine own_s (B := T1.setTop (mkF m 37 #[.val (.int p1), .val (.int p2), .val (.int p3), .val (.int (1 : Int32)), .val (.ref wA), .val (.int (p3 &&& (255 : Int32))), .unset, .unset] [(.int p2), (.ref wA)])) (fun t k => XS.iloadN X1.here hx rfl (hb hby at_36) rfl k) ?_
    obtain ⟨cq2, kq2, q2a, q2b, q2c⟩ := isOf hZ e1 XA
    obtain ⟨_, _, ⟨T2, L2, k2, n2⟩, -, X2, ⟨Lc2, hQ2, l2, y2, z2⟩, st2⟩ := X1.virtualBack hx (y := (⟨"com/example/rekey/rekey/PasswordPolicy$Allowed", "admits", "(I)Z"⟩ : MethodName)) (z := (⟨"com/example/rekey/rekey/PasswordPolicy$Allowed", "admits", "(I)Z"⟩ : MethodName)) hown (mvT hZ (hw _ (List.mem_of_getElem? (i := 3) rfl))) (mvT hZ (hw _ (List.mem_of_getElem? (i := 4) rfl))) (notFace_of_selects (args := #[]) (mvT hZ (hw _ (List.mem_of_getElem? (i := 6) rfl)))) (mvT hZ (hw _ (List.mem_of_getElem? (i := 6) rfl))) (mvT hZ (hw _ (List.mem_of_getElem? (i := 5) rfl))) (by decide) (backOf (W := 0) (rm1 l Z a0 hw [] wA p2 wA h0 n0 Z0 SA) hZ (hw _ (List.mem_of_getElem? (i := 7) rfl)) (hw _ (List.mem_of_getElem? (i := 1) rfl)) (by decide) (by decide)) q2a q2c (g := (mkF m 37 #[.val (.int p1), .val (.int p2), .val (.int p3), .val (.int (1 : Int32)), .val (.ref wA), .val (.int (p3 &&& (255 : Int32))), .unset, .unset] [(.int p2), (.ref wA)])) rfl (by rw [hml]; rfl) (Steps.refl _) (argsL := [(.int p2)]) (rest := []) (lenOf pd_0 rfl) rfl (by show 2 * 0 + _ ≤ _; exact Nat.le_of_eq rfl) (hb hby at_37) (fun _ _ => ⟨rfl, e1, (by decide : 0 + 0 ≤ _), (by decide : 0 + 0 ≤ _)⟩)
    dsimp only [Pt.U, Pt.locs, Pt.cells, Pt.slots] at X2 l2 y2 z2 st2 hQ2
    subst l2 y2 z2
    obtain ⟨rfl, N2q, e2⟩ := hQ2
    have N2 := Fr.app N0 N2q
    refine own_s (B := T2.setTop (mkF m 40 #[.val (.int p1), .val (.int p2), .val (.int p3), .val (.int (1 : Int32)), .val (.ref wA), .val (.int (p3 &&& (255 : Int32))), .unset, .unset] [(.int (bz (wA = wA ∨ inS p2)))])) (fun t k => st2.trans k) ?_
    refine own_s (B := T2.setTop (mkF m 41 #[.val (.int p1), .val (.int p2), .val (.int p3), .val (.int (1 : Int32)), .val (.ref wA), .val (.int (p3 &&& (255 : Int32))), .unset, .unset] [(.int (1 : Int32)), (.int (bz (wA = wA ∨ inS p2)))])) (fun t k => XS.iloadN X2.here hx rfl (hb hby at_40) rfl k) ?_
    refine own_s (B := T2.setTop (mkF m 42 #[.val (.int p1), .val (.int p2), .val (.int p3), .val (.int (1 : Int32)), .val (.ref wA), .val (.int (p3 &&& (255 : Int32))), .unset, .unset] [(.int p2), (.int (1 : Int32)), (.int (bz (wA = wA ∨ inS p2)))])) (fun t k => XS.iloadN X2.here hx rfl (hb hby at_41) rfl k) ?_
    obtain ⟨_, _, ⟨T3, L3, k3, n3⟩, -, X3, ⟨Lc3, hQ3, l3, y3, z3⟩, st3⟩ := Jvm.LawKit.callS X2 hx (y := (⟨"com/example/rekey/rekey/AllowedAdmitsPinLaw", "expected", "(ZI)Z"⟩ : MethodName)) hown (mvT hZ (hw _ (List.mem_of_getElem? (i := 9) rfl))) (mvT hZ (hw _ (List.mem_of_getElem? (i := 10) rfl))) (mvT hZ (hw _ (List.mem_of_getElem? (i := 11) rfl))) (mvT hZ (hw _ (List.mem_of_getElem? (i := 12) rfl))) (by decide) (backOf (W := 1) (rm2 l Z a0 hw [] (1 : Int32) p2  h0 n0 Z0 ) hZ (hw _ (List.mem_of_getElem? (i := 12) rfl)) (hw _ (List.mem_of_getElem? (i := 11) rfl)) (by decide) (by decide)) (g := (mkF m 42 #[.val (.int p1), .val (.int p2), .val (.int p3), .val (.int (1 : Int32)), .val (.ref wA), .val (.int (p3 &&& (255 : Int32))), .unset, .unset] [(.int p2), (.int (1 : Int32)), (.int (bz (wA = wA ∨ inS p2)))])) rfl (by rw [hml]; rfl) (argsL := [(.int (1 : Int32)), (.int p2)]) (rest := [(.int (bz (wA = wA ∨ inS p2)))]) (lenOf pd_1 rfl) rfl (by show 2 * 0 + _ ≤ _; exact Nat.le_of_eq rfl) (hb hby at_42) (fun _ _ => ⟨rfl, e2, (by decide : 0 + 0 ≤ _), (by decide : 0 + 0 ≤ _)⟩)
    dsimp only [Pt.U, Pt.locs, Pt.cells, Pt.slots] at X3 l3 y3 z3 st3 hQ3
    subst l3 y3 z3
    obtain ⟨rfl, N3q, e3⟩ := hQ3
    have N3 := Fr.app N2 N3q
    refine own_s (B := T3.setTop (mkF m 45 #[.val (.int p1), .val (.int p2), .val (.int p3), .val (.int (1 : Int32)), .val (.ref wA), .val (.int (p3 &&& (255 : Int32))), .unset, .unset] [(.int (bz (¬ (1 : Int32) = (0 : Int32) ∨ inL p2))), (.int (bz (wA = wA ∨ inS p2)))])) st3 ?_
    refine own_s (B := T3.setTop (mkF m 48 #[.val (.int p1), .val (.int p2), .val (.int p3), .val (.int (1 : Int32)), .val (.ref wA), .val (.int (p3 &&& (255 : Int32))), .unset, .unset] [])) (fun t k => XS.icmpNo X3.here hx rfl (hb hby at_45) rfl (teq (own_any _)).2 k) ?_
    refine own_s (B := T3.setTop (mkF m 49 #[.val (.int p1), .val (.int p2), .val (.int p3), .val (.int (1 : Int32)), .val (.ref wA), .val (.int (p3 &&& (255 : Int32))), .unset, .unset] [(.int (1 : Int32))])) (fun t k => XS.iconst X3.here hx rfl (hb hby at_48) k) ?_
    refine own_s (B := T3.setTop (mkF m 53 #[.val (.int p1), .val (.int p2), .val (.int p3), .val (.int (1 : Int32)), .val (.ref wA), .val (.int (p3 &&& (255 : Int32))), .unset, .unset] [(.int (1 : Int32))])) (fun t k => XS.goto X3.here hx rfl (pc0 := 49) (pc' := 53) rfl (hb hby at_49) (by decide) (by decide) k) ?_
    refine own_s (B := T3.setTop (mkF m 55 #[.val (.int p1), .val (.int p2), .val (.int p3), .val (.int (1 : Int32)), .val (.ref wA), .val (.int (p3 &&& (255 : Int32))), .val (.int (1 : Int32)), .unset] [])) (fun t k => XS.istore X3.here hx rfl (hb hby at_53) rfl (l' := #[.val (.int p1), .val (.int p2), .val (.int p3), .val (.int (1 : Int32)), .val (.ref wA), .val (.int (p3 &&& (255 : Int32))), .val (.int (1 : Int32)), .unset]) rfl k) ?_
    refine own_s (B := T3.setTop (mkF m 57 #[.val (.int p1), .val (.int p2), .val (.int p3), .val (.int (1 : Int32)), .val (.ref wA), .val (.int (p3 &&& (255 : Int32))), .val (.int (1 : Int32)), .unset] [(.ref wA)])) (fun t k => XS.aload X3.here hx rfl (hb hby at_55) rfl rfl k) ?_
    refine own_s (B := T3.setTop (mkF m 59 #[.val (.int p1), .val (.int p2), .val (.int p3), .val (.int (1 : Int32)), .val (.ref wA), .val (.int (p3 &&& (255 : Int32))), .val (.int (1 : Int32)), .unset] [(.int (p3 &&& (255 : Int32))), (.ref wA)])) (fun t k => XS.iload X3.here hx rfl (hb hby at_57) rfl k) ?_
    obtain ⟨cq4, kq4, q4a, q4b, q4c⟩ := isOf hZ e3 XA
    obtain ⟨_, _, ⟨T4, L4, k4, n4⟩, -, X4, ⟨Lc4, hQ4, l4, y4, z4⟩, st4⟩ := X3.virtualBack hx (y := (⟨"com/example/rekey/rekey/PasswordPolicy$Allowed", "admits", "(I)Z"⟩ : MethodName)) (z := (⟨"com/example/rekey/rekey/PasswordPolicy$Allowed", "admits", "(I)Z"⟩ : MethodName)) hown (mvT hZ (hw _ (List.mem_of_getElem? (i := 3) rfl))) (mvT hZ (hw _ (List.mem_of_getElem? (i := 4) rfl))) (notFace_of_selects (args := #[]) (mvT hZ (hw _ (List.mem_of_getElem? (i := 6) rfl)))) (mvT hZ (hw _ (List.mem_of_getElem? (i := 6) rfl))) (mvT hZ (hw _ (List.mem_of_getElem? (i := 5) rfl))) (by decide) (backOf (W := 0) (rm1 l Z a0 hw [] wA (p3 &&& (255 : Int32)) wA h0 n0 Z0 SA) hZ (hw _ (List.mem_of_getElem? (i := 7) rfl)) (hw _ (List.mem_of_getElem? (i := 1) rfl)) (by decide) (by decide)) q4a q4c (g := (mkF m 59 #[.val (.int p1), .val (.int p2), .val (.int p3), .val (.int (1 : Int32)), .val (.ref wA), .val (.int (p3 &&& (255 : Int32))), .val (.int (1 : Int32)), .unset] [(.int (p3 &&& (255 : Int32))), (.ref wA)])) rfl (by rw [hml]; rfl) (Steps.refl _) (argsL := [(.int (p3 &&& (255 : Int32)))]) (rest := []) (lenOf pd_0 rfl) rfl (by show 2 * 0 + _ ≤ _; exact Nat.le_of_eq rfl) (hb hby at_59) (fun _ _ => ⟨rfl, e3, (by decide : 0 + 0 ≤ _), (by decide : 0 + 0 ≤ _)⟩)
    dsimp only [Pt.U, Pt.locs, Pt.cells, Pt.slots] at X4 l4 y4 z4 st4 hQ4
    subst l4 y4 z4
    obtain ⟨rfl, N4q, e4⟩ := hQ4
    have N4 := Fr.app N3 N4q
    refine own_s (B := T4.setTop (mkF m 62 #[.val (.int p1), .val (.int p2), .val (.int p3), .val (.int (1 : Int32)), .val (.ref wA), .val (.int (p3 &&& (255 : Int32))), .val (.int (1 : Int32)), .unset] [(.int (bz (wA = wA ∨ inS (p3 &&& (255 : Int32)))))])) (fun t k => st4.trans k) ?_
    refine own_s (B := T4.setTop (mkF m 63 #[.val (.int p1), .val (.int p2), .val (.int p3), .val (.int (1 : Int32)), .val (.ref wA), .val (.int (p3 &&& (255 : Int32))), .val (.int (1 : Int32)), .unset] [(.int (1 : Int32)), (.int (bz (wA = wA ∨ inS (p3 &&& (255 : Int32)))))])) (fun t k => XS.iloadN X4.here hx rfl (hb hby at_62) rfl k) ?_
    refine own_s (B := T4.setTop (mkF m 65 #[.val (.int p1), .val (.int p2), .val (.int p3), .val (.int (1 : Int32)), .val (.ref wA), .val (.int (p3 &&& (255 : Int32))), .val (.int (1 : Int32)), .unset] [(.int (p3 &&& (255 : Int32))), (.int (1 : Int32)), (.int (bz (wA = wA ∨ inS (p3 &&& (255 : Int32)))))])) (fun t k => XS.iload X4.here hx rfl (hb hby at_63) rfl k) ?_
    obtain ⟨_, _, ⟨T5, L5, k5, n5⟩, -, X5, ⟨Lc5, hQ5, l5, y5, z5⟩, st5⟩ := Jvm.LawKit.callS X4 hx (y := (⟨"com/example/rekey/rekey/AllowedAdmitsPinLaw", "expected", "(ZI)Z"⟩ : MethodName)) hown (mvT hZ (hw _ (List.mem_of_getElem? (i := 9) rfl))) (mvT hZ (hw _ (List.mem_of_getElem? (i := 10) rfl))) (mvT hZ (hw _ (List.mem_of_getElem? (i := 11) rfl))) (mvT hZ (hw _ (List.mem_of_getElem? (i := 12) rfl))) (by decide) (backOf (W := 1) (rm2 l Z a0 hw [] (1 : Int32) (p3 &&& (255 : Int32))  h0 n0 Z0 ) hZ (hw _ (List.mem_of_getElem? (i := 12) rfl)) (hw _ (List.mem_of_getElem? (i := 11) rfl)) (by decide) (by decide)) (g := (mkF m 65 #[.val (.int p1), .val (.int p2), .val (.int p3), .val (.int (1 : Int32)), .val (.ref wA), .val (.int (p3 &&& (255 : Int32))), .val (.int (1 : Int32)), .unset] [(.int (p3 &&& (255 : Int32))), (.int (1 : Int32)), (.int (bz (wA = wA ∨ inS (p3 &&& (255 : Int32)))))])) rfl (by rw [hml]; rfl) (argsL := [(.int (1 : Int32)), (.int (p3 &&& (255 : Int32)))]) (rest := [(.int (bz (wA = wA ∨ inS (p3 &&& (255 : Int32)))))]) (lenOf pd_1 rfl) rfl (by show 2 * 0 + _ ≤ _; exact Nat.le_of_eq rfl) (hb hby at_65) (fun _ _ => ⟨rfl, e4, (by decide : 0 + 0 ≤ _), (by decide : 0 + 0 ≤ _)⟩)
    dsimp only [Pt.U, Pt.locs, Pt.cells, Pt.slots] at X5 l5 y5 z5 st5 hQ5
    subst l5 y5 z5
    obtain ⟨rfl, N5q, e5⟩ := hQ5
    have N5 := Fr.app N4 N5q
    refine own_s (B := T5.setTop (mkF m 68 #[.val (.int p1), .val (.int p2), .val (.int p3), .val (.int (1 : Int32)), .val (.ref wA), .val (.int (p3 &&& (255 : Int32))), .val (.int (1 : Int32)), .unset] [(.int (bz (¬ (1 : Int32) = (0 : Int32) ∨ inL (p3 &&& (255 : Int32))))), (.int (bz (wA = wA ∨ inS (p3 &&& (255 : Int32)))))])) st5 ?_
    refine own_s (B := T5.setTop (mkF m 71 #[.val (.int p1), .val (.int p2), .val (.int p3), .val (.int (1 : Int32)), .val (.ref wA), .val (.int (p3 &&& (255 : Int32))), .val (.int (1 : Int32)), .unset] [])) (fun t k => XS.icmpNo X5.here hx rfl (hb hby at_68) rfl (teq (own_any _)).2 k) ?_
    refine own_s (B := T5.setTop (mkF m 72 #[.val (.int p1), .val (.int p2), .val (.int p3), .val (.int (1 : Int32)), .val (.ref wA), .val (.int (p3 &&& (255 : Int32))), .val (.int (1 : Int32)), .unset] [(.int (1 : Int32))])) (fun t k => XS.iconst X5.here hx rfl (hb hby at_71) k) ?_
    refine own_s (B := T5.setTop (mkF m 76 #[.val (.int p1), .val (.int p2), .val (.int p3), .val (.int (1 : Int32)), .val (.ref wA), .val (.int (p3 &&& (255 : Int32))), .val (.int (1 : Int32)), .unset] [(.int (1 : Int32))])) (fun t k => XS.goto X5.here hx rfl (pc0 := 72) (pc' := 76) rfl (hb hby at_72) (by decide) (by decide) k) ?_
    refine own_s (B := T5.setTop (mkF m 78 #[.val (.int p1), .val (.int p2), .val (.int p3), .val (.int (1 : Int32)), .val (.ref wA), .val (.int (p3 &&& (255 : Int32))), .val (.int (1 : Int32)), .val (.int (1 : Int32))] [])) (fun t k => XS.istore X5.here hx rfl (hb hby at_76) rfl (l' := #[.val (.int p1), .val (.int p2), .val (.int p3), .val (.int (1 : Int32)), .val (.ref wA), .val (.int (p3 &&& (255 : Int32))), .val (.int (1 : Int32)), .val (.int (1 : Int32))]) rfl k) ?_
    refine own_s (B := T5.setTop (mkF m 80 #[.val (.int p1), .val (.int p2), .val (.int p3), .val (.int (1 : Int32)), .val (.ref wA), .val (.int (p3 &&& (255 : Int32))), .val (.int (1 : Int32)), .val (.int (1 : Int32))] [(.int (1 : Int32))])) (fun t k => XS.iload X5.here hx rfl (hb hby at_78) rfl k) ?_
    refine own_s (B := T5.setTop (mkF m 83 #[.val (.int p1), .val (.int p2), .val (.int p3), .val (.int (1 : Int32)), .val (.ref wA), .val (.int (p3 &&& (255 : Int32))), .val (.int (1 : Int32)), .val (.int (1 : Int32))] [])) (fun t k => XS.ifNo X5.here hx rfl (hb hby at_80) rfl ((if0 _ _).trans (feq (by decide)).1) k) ?_
    refine own_s (B := T5.setTop (mkF m 85 #[.val (.int p1), .val (.int p2), .val (.int p3), .val (.int (1 : Int32)), .val (.ref wA), .val (.int (p3 &&& (255 : Int32))), .val (.int (1 : Int32)), .val (.int (1 : Int32))] [(.int (1 : Int32))])) (fun t k => XS.iload X5.here hx rfl (hb hby at_83) rfl k) ?_
    refine own_s (B := T5.setTop (mkF m 88 #[.val (.int p1), .val (.int p2), .val (.int p3), .val (.int (1 : Int32)), .val (.ref wA), .val (.int (p3 &&& (255 : Int32))), .val (.int (1 : Int32)), .val (.int (1 : Int32))] [])) (fun t k => XS.ifNo X5.here hx rfl (hb hby at_85) rfl ((if0 _ _).trans (feq (by decide)).1) k) ?_
    refine own_s (B := T5.setTop (mkF m 89 #[.val (.int p1), .val (.int p2), .val (.int p3), .val (.int (1 : Int32)), .val (.ref wA), .val (.int (p3 &&& (255 : Int32))), .val (.int (1 : Int32)), .val (.int (1 : Int32))] [(.int (1 : Int32))])) (fun t k => XS.iconst X5.here hx rfl (hb hby at_88) k) ?_
    refine own_s (B := T5.setTop (mkF m 93 #[.val (.int p1), .val (.int p2), .val (.int p3), .val (.int (1 : Int32)), .val (.ref wA), .val (.int (p3 &&& (255 : Int32))), .val (.int (1 : Int32)), .val (.int (1 : Int32))] [(.int (1 : Int32))])) (fun t k => XS.goto X5.here hx rfl (pc0 := 89) (pc' := 93) rfl (hb hby at_89) (by decide) (by decide) k) ?_
    exact own_retB X5 hx hlk (t := .boolean) Bd.returns (by simp) (hb hby at_93) (by decide) (by decide) ⟨rfl, N5⟩
  · refine own_s (B := s₁.setTop (mkF m 10 #[.val (.int p1), .val (.int p2), .val (.int p3), .unset, .unset, .unset, .unset, .unset] [])) (fun t k => XS.ifYes X0.here hx rfl (pc0 := 3) (pc' := 10) rfl (hb hby at_3) rfl ((if0 _ _).trans (feq hc3).2) (by decide) (by decide) k) ?_
    refine own_s (B := s₁.setTop (mkF m 11 #[.val (.int p1), .val (.int p2), .val (.int p3), .unset, .unset, .unset, .unset, .unset] [(.int (0 : Int32))])) (fun t k => XS.iconst X0.here hx rfl (hb hby at_10) k) ?_
    refine own_s (B := s₁.setTop (mkF m 12 #[.val (.int p1), .val (.int p2), .val (.int p3), .val (.int (0 : Int32)), .unset, .unset, .unset, .unset] [])) (fun t k => XS.istoreN X0.here hx rfl (hb hby at_11) rfl (l' := #[.val (.int p1), .val (.int p2), .val (.int p3), .val (.int (0 : Int32)), .unset, .unset, .unset, .unset]) rfl k) ?_
    refine own_s (B := s₁.setTop (mkF m 13 #[.val (.int p1), .val (.int p2), .val (.int p3), .val (.int (0 : Int32)), .unset, .unset, .unset, .unset] [(.int (0 : Int32))])) (fun t k => XS.iloadN X0.here hx rfl (hb hby at_12) rfl k) ?_
    refine own_s (B := s₁.setTop (mkF m 22 #[.val (.int p1), .val (.int p2), .val (.int p3), .val (.int (0 : Int32)), .unset, .unset, .unset, .unset] [])) (fun t k => XS.ifYes X0.here hx rfl (pc0 := 13) (pc' := 22) rfl (hb hby at_13) rfl ((if0 _ _).trans (teq rfl).1) (by decide) (by decide) k) ?_
    obtain ⟨T6, X6, e6, st6⟩ := getS2 X0 hx hZ hown (host := "") (Or.inl (hw _ (List.mem_of_getElem? (i := 13) rfl))) Via.refl e0 SV (g := (mkF m 22 #[.val (.int p1), .val (.int p2), .val (.int p3), .val (.int (0 : Int32)), .unset, .unset, .unset, .unset] [])) rfl (hb hby at_22)
    refine own_s (B := T6.setTop (mkF m 25 #[.val (.int p1), .val (.int p2), .val (.int p3), .val (.int (0 : Int32)), .unset, .unset, .unset, .unset] [(.ref wV)])) st6 ?_
    refine own_s (B := T6.setTop (mkF m 27 #[.val (.int p1), .val (.int p2), .val (.int p3), .val (.int (0 : Int32)), .val (.ref wV), .unset, .unset, .unset] [])) (fun t k => XS.astore X6.here hx rfl (hb hby at_25) rfl rfl (l' := #[.val (.int p1), .val (.int p2), .val (.int p3), .val (.int (0 : Int32)), .val (.ref wV), .unset, .unset, .unset]) rfl k) ?_
    refine own_s (B := T6.setTop (mkF m 28 #[.val (.int p1), .val (.int p2), .val (.int p3), .val (.int (0 : Int32)), .val (.ref wV), .unset, .unset, .unset] [(.int p3)])) (fun t k => XS.iloadN X6.here hx rfl (hb hby at_27) rfl k) ?_
    refine own_s (B := T6.setTop (mkF m 31 #[.val (.int p1), .val (.int p2), .val (.int p3), .val (.int (0 : Int32)), .val (.ref wV), .unset, .unset, .unset] [(.int (255 : Int32)), (.int p3)])) (fun t k => XS.sipush X6.here hx rfl (hb hby at_28) k) ?_
    refine own_s (B := T6.setTop (mkF m 32 #[.val (.int p1), .val (.int p2), .val (.int p3), .val (.int (0 : Int32)), .val (.ref wV), .unset, .unset, .unset] [(.int (p3 &&& (255 : Int32)))])) (fun t k => XS.iand X6.here hx rfl (hb hby at_31) rfl k) ?_
    refine own_s (B := T6.setTop (mkF m 34 #[.val (.int p1), .val (.int p2), .val (.int p3), .val (.int (0 : Int32)), .val (.ref wV), .val (.int (p3 &&& (255 : Int32))), .unset, .unset] [])) (fun t k => XS.istore X6.here hx rfl (hb hby at_32) rfl (l' := #[.val (.int p1), .val (.int p2), .val (.int p3), .val (.int (0 : Int32)), .val (.ref wV), .val (.int (p3 &&& (255 : Int32))), .unset, .unset]) rfl k) ?_
    refine own_s (B := T6.setTop (mkF m 36 #[.val (.int p1), .val (.int p2), .val (.int p3), .val (.int (0 : Int32)), .val (.ref wV), .val (.int (p3 &&& (255 : Int32))), .unset, .unset] [(.ref wV)])) (fun t k => XS.aload X6.here hx rfl (hb hby at_34) rfl rfl k) ?_
    refine own_s (B := T6.setTop (mkF m 37 #[.val (.int p1), .val (.int p2), .val (.int p3), .val (.int (0 : Int32)), .val (.ref wV), .val (.int (p3 &&& (255 : Int32))), .unset, .unset] [(.int p2), (.ref wV)])) (fun t k => XS.iloadN X6.here hx rfl (hb hby at_36) rfl k) ?_
    obtain ⟨cq7, kq7, q7a, q7b, q7c⟩ := isOf hZ e6 XV
    obtain ⟨_, _, ⟨T7, L7, k7, n7⟩, -, X7, ⟨Lc7, hQ7, l7, y7, z7⟩, st7⟩ := X6.virtualBack hx (y := (⟨"com/example/rekey/rekey/PasswordPolicy$Allowed", "admits", "(I)Z"⟩ : MethodName)) (z := (⟨"com/example/rekey/rekey/PasswordPolicy$Allowed", "admits", "(I)Z"⟩ : MethodName)) hown (mvT hZ (hw _ (List.mem_of_getElem? (i := 3) rfl))) (mvT hZ (hw _ (List.mem_of_getElem? (i := 4) rfl))) (notFace_of_selects (args := #[]) (mvT hZ (hw _ (List.mem_of_getElem? (i := 6) rfl)))) (mvT hZ (hw _ (List.mem_of_getElem? (i := 6) rfl))) (mvT hZ (hw _ (List.mem_of_getElem? (i := 5) rfl))) (by decide) (backOf (W := 0) (rm1 l Z a0 hw [] wV p2 wA h0 n0 Z0 SA) hZ (hw _ (List.mem_of_getElem? (i := 7) rfl)) (hw _ (List.mem_of_getElem? (i := 1) rfl)) (by decide) (by decide)) q7a q7c (g := (mkF m 37 #[.val (.int p1), .val (.int p2), .val (.int p3), .val (.int (0 : Int32)), .val (.ref wV), .val (.int (p3 &&& (255 : Int32))), .unset, .unset] [(.int p2), (.ref wV)])) rfl (by rw [hml]; rfl) (Steps.refl _) (argsL := [(.int p2)]) (rest := []) (lenOf pd_0 rfl) rfl (by show 2 * 0 + _ ≤ _; exact Nat.le_of_eq rfl) (hb hby at_37) (fun _ _ => ⟨rfl, e6, (by decide : 0 + 0 ≤ _), (by decide : 0 + 0 ≤ _)⟩)
    dsimp only [Pt.U, Pt.locs, Pt.cells, Pt.slots] at X7 l7 y7 z7 st7 hQ7
    subst l7 y7 z7
    obtain ⟨rfl, N7q, e7⟩ := hQ7
    have N7 := Fr.app N0 N7q
    refine own_s (B := T7.setTop (mkF m 40 #[.val (.int p1), .val (.int p2), .val (.int p3), .val (.int (0 : Int32)), .val (.ref wV), .val (.int (p3 &&& (255 : Int32))), .unset, .unset] [(.int (bz (wV = wA ∨ inS p2)))])) (fun t k => st7.trans k) ?_
    refine own_s (B := T7.setTop (mkF m 41 #[.val (.int p1), .val (.int p2), .val (.int p3), .val (.int (0 : Int32)), .val (.ref wV), .val (.int (p3 &&& (255 : Int32))), .unset, .unset] [(.int (0 : Int32)), (.int (bz (wV = wA ∨ inS p2)))])) (fun t k => XS.iloadN X7.here hx rfl (hb hby at_40) rfl k) ?_
    refine own_s (B := T7.setTop (mkF m 42 #[.val (.int p1), .val (.int p2), .val (.int p3), .val (.int (0 : Int32)), .val (.ref wV), .val (.int (p3 &&& (255 : Int32))), .unset, .unset] [(.int p2), (.int (0 : Int32)), (.int (bz (wV = wA ∨ inS p2)))])) (fun t k => XS.iloadN X7.here hx rfl (hb hby at_41) rfl k) ?_
    obtain ⟨_, _, ⟨T8, L8, k8, n8⟩, -, X8, ⟨Lc8, hQ8, l8, y8, z8⟩, st8⟩ := Jvm.LawKit.callS X7 hx (y := (⟨"com/example/rekey/rekey/AllowedAdmitsPinLaw", "expected", "(ZI)Z"⟩ : MethodName)) hown (mvT hZ (hw _ (List.mem_of_getElem? (i := 9) rfl))) (mvT hZ (hw _ (List.mem_of_getElem? (i := 10) rfl))) (mvT hZ (hw _ (List.mem_of_getElem? (i := 11) rfl))) (mvT hZ (hw _ (List.mem_of_getElem? (i := 12) rfl))) (by decide) (backOf (W := 1) (rm2 l Z a0 hw [] (0 : Int32) p2  h0 n0 Z0 ) hZ (hw _ (List.mem_of_getElem? (i := 12) rfl)) (hw _ (List.mem_of_getElem? (i := 11) rfl)) (by decide) (by decide)) (g := (mkF m 42 #[.val (.int p1), .val (.int p2), .val (.int p3), .val (.int (0 : Int32)), .val (.ref wV), .val (.int (p3 &&& (255 : Int32))), .unset, .unset] [(.int p2), (.int (0 : Int32)), (.int (bz (wV = wA ∨ inS p2)))])) rfl (by rw [hml]; rfl) (argsL := [(.int (0 : Int32)), (.int p2)]) (rest := [(.int (bz (wV = wA ∨ inS p2)))]) (lenOf pd_1 rfl) rfl (by show 2 * 0 + _ ≤ _; exact Nat.le_of_eq rfl) (hb hby at_42) (fun _ _ => ⟨rfl, e7, (by decide : 0 + 0 ≤ _), (by decide : 0 + 0 ≤ _)⟩)
    dsimp only [Pt.U, Pt.locs, Pt.cells, Pt.slots] at X8 l8 y8 z8 st8 hQ8
    subst l8 y8 z8
    obtain ⟨rfl, N8q, e8⟩ := hQ8
    have N8 := Fr.app N7 N8q
    refine own_s (B := T8.setTop (mkF m 45 #[.val (.int p1), .val (.int p2), .val (.int p3), .val (.int (0 : Int32)), .val (.ref wV), .val (.int (p3 &&& (255 : Int32))), .unset, .unset] [(.int (bz (¬ (0 : Int32) = (0 : Int32) ∨ inL p2))), (.int (bz (wV = wA ∨ inS p2)))])) st8 ?_
    refine own_s (B := T8.setTop (mkF m 48 #[.val (.int p1), .val (.int p2), .val (.int p3), .val (.int (0 : Int32)), .val (.ref wV), .val (.int (p3 &&& (255 : Int32))), .unset, .unset] [])) (fun t k => XS.icmpNo X8.here hx rfl (hb hby at_45) rfl (teq (own_not hne _)).2 k) ?_
    refine own_s (B := T8.setTop (mkF m 49 #[.val (.int p1), .val (.int p2), .val (.int p3), .val (.int (0 : Int32)), .val (.ref wV), .val (.int (p3 &&& (255 : Int32))), .unset, .unset] [(.int (1 : Int32))])) (fun t k => XS.iconst X8.here hx rfl (hb hby at_48) k) ?_
    refine own_s (B := T8.setTop (mkF m 53 #[.val (.int p1), .val (.int p2), .val (.int p3), .val (.int (0 : Int32)), .val (.ref wV), .val (.int (p3 &&& (255 : Int32))), .unset, .unset] [(.int (1 : Int32))])) (fun t k => XS.goto X8.here hx rfl (pc0 := 49) (pc' := 53) rfl (hb hby at_49) (by decide) (by decide) k) ?_
    refine own_s (B := T8.setTop (mkF m 55 #[.val (.int p1), .val (.int p2), .val (.int p3), .val (.int (0 : Int32)), .val (.ref wV), .val (.int (p3 &&& (255 : Int32))), .val (.int (1 : Int32)), .unset] [])) (fun t k => XS.istore X8.here hx rfl (hb hby at_53) rfl (l' := #[.val (.int p1), .val (.int p2), .val (.int p3), .val (.int (0 : Int32)), .val (.ref wV), .val (.int (p3 &&& (255 : Int32))), .val (.int (1 : Int32)), .unset]) rfl k) ?_
    refine own_s (B := T8.setTop (mkF m 57 #[.val (.int p1), .val (.int p2), .val (.int p3), .val (.int (0 : Int32)), .val (.ref wV), .val (.int (p3 &&& (255 : Int32))), .val (.int (1 : Int32)), .unset] [(.ref wV)])) (fun t k => XS.aload X8.here hx rfl (hb hby at_55) rfl rfl k) ?_
    refine own_s (B := T8.setTop (mkF m 59 #[.val (.int p1), .val (.int p2), .val (.int p3), .val (.int (0 : Int32)), .val (.ref wV), .val (.int (p3 &&& (255 : Int32))), .val (.int (1 : Int32)), .unset] [(.int (p3 &&& (255 : Int32))), (.ref wV)])) (fun t k => XS.iload X8.here hx rfl (hb hby at_57) rfl k) ?_
    obtain ⟨cq9, kq9, q9a, q9b, q9c⟩ := isOf hZ e8 XV
    obtain ⟨_, _, ⟨T9, L9, k9, n9⟩, -, X9, ⟨Lc9, hQ9, l9, y9, z9⟩, st9⟩ := X8.virtualBack hx (y := (⟨"com/example/rekey/rekey/PasswordPolicy$Allowed", "admits", "(I)Z"⟩ : MethodName)) (z := (⟨"com/example/rekey/rekey/PasswordPolicy$Allowed", "admits", "(I)Z"⟩ : MethodName)) hown (mvT hZ (hw _ (List.mem_of_getElem? (i := 3) rfl))) (mvT hZ (hw _ (List.mem_of_getElem? (i := 4) rfl))) (notFace_of_selects (args := #[]) (mvT hZ (hw _ (List.mem_of_getElem? (i := 6) rfl)))) (mvT hZ (hw _ (List.mem_of_getElem? (i := 6) rfl))) (mvT hZ (hw _ (List.mem_of_getElem? (i := 5) rfl))) (by decide) (backOf (W := 0) (rm1 l Z a0 hw [] wV (p3 &&& (255 : Int32)) wA h0 n0 Z0 SA) hZ (hw _ (List.mem_of_getElem? (i := 7) rfl)) (hw _ (List.mem_of_getElem? (i := 1) rfl)) (by decide) (by decide)) q9a q9c (g := (mkF m 59 #[.val (.int p1), .val (.int p2), .val (.int p3), .val (.int (0 : Int32)), .val (.ref wV), .val (.int (p3 &&& (255 : Int32))), .val (.int (1 : Int32)), .unset] [(.int (p3 &&& (255 : Int32))), (.ref wV)])) rfl (by rw [hml]; rfl) (Steps.refl _) (argsL := [(.int (p3 &&& (255 : Int32)))]) (rest := []) (lenOf pd_0 rfl) rfl (by show 2 * 0 + _ ≤ _; exact Nat.le_of_eq rfl) (hb hby at_59) (fun _ _ => ⟨rfl, e8, (by decide : 0 + 0 ≤ _), (by decide : 0 + 0 ≤ _)⟩)
    dsimp only [Pt.U, Pt.locs, Pt.cells, Pt.slots] at X9 l9 y9 z9 st9 hQ9
    subst l9 y9 z9
    obtain ⟨rfl, N9q, e9⟩ := hQ9
    have N9 := Fr.app N8 N9q
    refine own_s (B := T9.setTop (mkF m 62 #[.val (.int p1), .val (.int p2), .val (.int p3), .val (.int (0 : Int32)), .val (.ref wV), .val (.int (p3 &&& (255 : Int32))), .val (.int (1 : Int32)), .unset] [(.int (bz (wV = wA ∨ inS (p3 &&& (255 : Int32)))))])) (fun t k => st9.trans k) ?_
    refine own_s (B := T9.setTop (mkF m 63 #[.val (.int p1), .val (.int p2), .val (.int p3), .val (.int (0 : Int32)), .val (.ref wV), .val (.int (p3 &&& (255 : Int32))), .val (.int (1 : Int32)), .unset] [(.int (0 : Int32)), (.int (bz (wV = wA ∨ inS (p3 &&& (255 : Int32)))))])) (fun t k => XS.iloadN X9.here hx rfl (hb hby at_62) rfl k) ?_
    refine own_s (B := T9.setTop (mkF m 65 #[.val (.int p1), .val (.int p2), .val (.int p3), .val (.int (0 : Int32)), .val (.ref wV), .val (.int (p3 &&& (255 : Int32))), .val (.int (1 : Int32)), .unset] [(.int (p3 &&& (255 : Int32))), (.int (0 : Int32)), (.int (bz (wV = wA ∨ inS (p3 &&& (255 : Int32)))))])) (fun t k => XS.iload X9.here hx rfl (hb hby at_63) rfl k) ?_
    obtain ⟨_, _, ⟨T10, L10, k10, n10⟩, -, X10, ⟨Lc10, hQ10, l10, y10, z10⟩, st10⟩ := Jvm.LawKit.callS X9 hx (y := (⟨"com/example/rekey/rekey/AllowedAdmitsPinLaw", "expected", "(ZI)Z"⟩ : MethodName)) hown (mvT hZ (hw _ (List.mem_of_getElem? (i := 9) rfl))) (mvT hZ (hw _ (List.mem_of_getElem? (i := 10) rfl))) (mvT hZ (hw _ (List.mem_of_getElem? (i := 11) rfl))) (mvT hZ (hw _ (List.mem_of_getElem? (i := 12) rfl))) (by decide) (backOf (W := 1) (rm2 l Z a0 hw [] (0 : Int32) (p3 &&& (255 : Int32))  h0 n0 Z0 ) hZ (hw _ (List.mem_of_getElem? (i := 12) rfl)) (hw _ (List.mem_of_getElem? (i := 11) rfl)) (by decide) (by decide)) (g := (mkF m 65 #[.val (.int p1), .val (.int p2), .val (.int p3), .val (.int (0 : Int32)), .val (.ref wV), .val (.int (p3 &&& (255 : Int32))), .val (.int (1 : Int32)), .unset] [(.int (p3 &&& (255 : Int32))), (.int (0 : Int32)), (.int (bz (wV = wA ∨ inS (p3 &&& (255 : Int32)))))])) rfl (by rw [hml]; rfl) (argsL := [(.int (0 : Int32)), (.int (p3 &&& (255 : Int32)))]) (rest := [(.int (bz (wV = wA ∨ inS (p3 &&& (255 : Int32)))))]) (lenOf pd_1 rfl) rfl (by show 2 * 0 + _ ≤ _; exact Nat.le_of_eq rfl) (hb hby at_65) (fun _ _ => ⟨rfl, e9, (by decide : 0 + 0 ≤ _), (by decide : 0 + 0 ≤ _)⟩)
    dsimp only [Pt.U, Pt.locs, Pt.cells, Pt.slots] at X10 l10 y10 z10 st10 hQ10
    subst l10 y10 z10
    obtain ⟨rfl, N10q, e10⟩ := hQ10
    have N10 := Fr.app N9 N10q
    refine own_s (B := T10.setTop (mkF m 68 #[.val (.int p1), .val (.int p2), .val (.int p3), .val (.int (0 : Int32)), .val (.ref wV), .val (.int (p3 &&& (255 : Int32))), .val (.int (1 : Int32)), .unset] [(.int (bz (¬ (0 : Int32) = (0 : Int32) ∨ inL (p3 &&& (255 : Int32))))), (.int (bz (wV = wA ∨ inS (p3 &&& (255 : Int32)))))])) st10 ?_
    refine own_s (B := T10.setTop (mkF m 71 #[.val (.int p1), .val (.int p2), .val (.int p3), .val (.int (0 : Int32)), .val (.ref wV), .val (.int (p3 &&& (255 : Int32))), .val (.int (1 : Int32)), .unset] [])) (fun t k => XS.icmpNo X10.here hx rfl (hb hby at_68) rfl (teq (own_not hne _)).2 k) ?_
    refine own_s (B := T10.setTop (mkF m 72 #[.val (.int p1), .val (.int p2), .val (.int p3), .val (.int (0 : Int32)), .val (.ref wV), .val (.int (p3 &&& (255 : Int32))), .val (.int (1 : Int32)), .unset] [(.int (1 : Int32))])) (fun t k => XS.iconst X10.here hx rfl (hb hby at_71) k) ?_
    refine own_s (B := T10.setTop (mkF m 76 #[.val (.int p1), .val (.int p2), .val (.int p3), .val (.int (0 : Int32)), .val (.ref wV), .val (.int (p3 &&& (255 : Int32))), .val (.int (1 : Int32)), .unset] [(.int (1 : Int32))])) (fun t k => XS.goto X10.here hx rfl (pc0 := 72) (pc' := 76) rfl (hb hby at_72) (by decide) (by decide) k) ?_
    refine own_s (B := T10.setTop (mkF m 78 #[.val (.int p1), .val (.int p2), .val (.int p3), .val (.int (0 : Int32)), .val (.ref wV), .val (.int (p3 &&& (255 : Int32))), .val (.int (1 : Int32)), .val (.int (1 : Int32))] [])) (fun t k => XS.istore X10.here hx rfl (hb hby at_76) rfl (l' := #[.val (.int p1), .val (.int p2), .val (.int p3), .val (.int (0 : Int32)), .val (.ref wV), .val (.int (p3 &&& (255 : Int32))), .val (.int (1 : Int32)), .val (.int (1 : Int32))]) rfl k) ?_
    refine own_s (B := T10.setTop (mkF m 80 #[.val (.int p1), .val (.int p2), .val (.int p3), .val (.int (0 : Int32)), .val (.ref wV), .val (.int (p3 &&& (255 : Int32))), .val (.int (1 : Int32)), .val (.int (1 : Int32))] [(.int (1 : Int32))])) (fun t k => XS.iload X10.here hx rfl (hb hby at_78) rfl k) ?_
    refine own_s (B := T10.setTop (mkF m 83 #[.val (.int p1), .val (.int p2), .val (.int p3), .val (.int (0 : Int32)), .val (.ref wV), .val (.int (p3 &&& (255 : Int32))), .val (.int (1 : Int32)), .val (.int (1 : Int32))] [])) (fun t k => XS.ifNo X10.here hx rfl (hb hby at_80) rfl ((if0 _ _).trans (feq (by decide)).1) k) ?_
    refine own_s (B := T10.setTop (mkF m 85 #[.val (.int p1), .val (.int p2), .val (.int p3), .val (.int (0 : Int32)), .val (.ref wV), .val (.int (p3 &&& (255 : Int32))), .val (.int (1 : Int32)), .val (.int (1 : Int32))] [(.int (1 : Int32))])) (fun t k => XS.iload X10.here hx rfl (hb hby at_83) rfl k) ?_
    refine own_s (B := T10.setTop (mkF m 88 #[.val (.int p1), .val (.int p2), .val (.int p3), .val (.int (0 : Int32)), .val (.ref wV), .val (.int (p3 &&& (255 : Int32))), .val (.int (1 : Int32)), .val (.int (1 : Int32))] [])) (fun t k => XS.ifNo X10.here hx rfl (hb hby at_85) rfl ((if0 _ _).trans (feq (by decide)).1) k) ?_
    refine own_s (B := T10.setTop (mkF m 89 #[.val (.int p1), .val (.int p2), .val (.int p3), .val (.int (0 : Int32)), .val (.ref wV), .val (.int (p3 &&& (255 : Int32))), .val (.int (1 : Int32)), .val (.int (1 : Int32))] [(.int (1 : Int32))])) (fun t k => XS.iconst X10.here hx rfl (hb hby at_88) k) ?_
    refine own_s (B := T10.setTop (mkF m 93 #[.val (.int p1), .val (.int p2), .val (.int p3), .val (.int (0 : Int32)), .val (.ref wV), .val (.int (p3 &&& (255 : Int32))), .val (.int (1 : Int32)), .val (.int (1 : Int32))] [(.int (1 : Int32))])) (fun t k => XS.goto X10.here hx rfl (pc0 := 89) (pc' := 93) rfl (hb hby at_89) (by decide) (by decide) k) ?_
    exact own_retB X10 hx hlk (t := .boolean) Bd.returns (by simp) (hb hby at_93) (by decide) (by decide) ⟨rfl, N10⟩
set_option maxRecDepth 65536 in
set_option maxHeartbeats 40000000 in
theorem comes_1 {Post : Tables → Env → Array Value → State → Outcome → State → Prop} (hpost : ∀ tb e args s v u, (limb_1_1.after args s (.returned v) u = true ∧ limb_1_2.after args s (.returned v) u = true ∧ True) → FrameEnd s (.returned v) u (Jvm.fieldLocs frame_1_writes args s ++ Jvm.arrayLocs frame_1_arrays args s ++ Jvm.staticLocs frame_1_statics s) 0 0 → Post tb e args s (.returned v) u) :
    ArmFor flags0 classFile x code maxLocals ret World_1 tables_1 room_1 Calls_1 rest_1 Pre_1 Post := by
  intro l hfl _ _ p e ha hc hk s m args below hf hA hF happ hP
  obtain ⟨hcalls, hrest, hpre⟩ := hP
  obtain ⟨-, -, -, hnamed, -, -, -, hat⟩ := (Spec.applies_iff hf).mp happ
  obtain ⟨hg, hn⟩ := and_e (Cond.before_iff.mp (show (Jvm.Cond.and given_1 narrow_1).before args s = true from hpre))
  obtain ⟨g1a, g1b⟩ := and_e hg
  obtain ⟨g2a, g2b⟩ := and_e g1b
  obtain ⟨g3a, g3b⟩ := and_e g2b
  obtain ⟨w0, w1, w2, rfl⟩ : ∃ w0 w1 w2 : Value, args = #[w0, w1, w2] := by
    have hs : args.size = 3 := by simpa [Cond.value, given_1] using g1a
    obtain ⟨L⟩ := args
    match L, hs with
    | [w0, w1, w2], _ => exact ⟨w0, w1, w2, rfl⟩
  have hw := fun d (hd : d ∈ tables_1) => atoms_spec (ws := Jvm.Cond.code x code maxLocals ret :: tables_1) hat d (List.mem_cons_of_mem _ hd)
  have hfit : Fit s := fun {y c} hc i hi => by
    obtain ⟨ha, rfl⟩ := Array.getElem?_eq_some_iff.mp hc
    have q := List.all_eq_true.mp ((Array.all_eq_true_iff_forall_mem.mp hF) _ (Array.getElem_mem ha)) i (List.mem_range.mpr hi)
    simpa [Array.getElem?_eq_getElem hi] using q
  obtain ⟨i0, ei0⟩ := is_v g2a
  obtain rfl : w0 = (.int i0) := Option.some.inj ei0
  obtain ⟨i1, ei1⟩ := is_v g3a
  obtain rfl : w1 = (.int i1) := Option.some.inj ei1
  obtain ⟨i2, ei2⟩ := is_v g3b
  obtain rfl : w2 = (.int i2) := Option.some.inj ei2
  obtain ⟨g4a, g4b⟩ := and_e hn
  obtain ⟨g5a, g5b⟩ := and_e g4b
  obtain ⟨g6a, g6b⟩ := and_e g5b
  obtain ⟨w_ANY, ev_ANY⟩ := exa_v g4a
  have S_ANY := Sta.start ev_ANY (Or.inr ⟨(hw _ (List.mem_of_getElem? (i := 1) rfl)), (hw _ (List.mem_of_getElem? (i := 2) rfl))⟩)
  have E_ANY := Exa.start ev_ANY g4a
  obtain ⟨w_ASCII_VISIBLE, ev_ASCII_VISIBLE⟩ := exa_v g5a
  have S_ASCII_VISIBLE := Sta.start ev_ASCII_VISIBLE (Or.inr ⟨(hw _ (List.mem_of_getElem? (i := 1) rfl)), (hw _ (List.mem_of_getElem? (i := 14) rfl))⟩)
  have E_ASCII_VISIBLE := Exa.start ev_ASCII_VISIBLE g5a
  have F_ASCII_VISIBLE_ordinal := Fld.start ((fld_at ev_ASCII_VISIBLE).symm.trans (own_eqI g6a))
  have F_ANY_ordinal := Fld.start ((fld_at ev_ANY).symm.trans (own_eqI g6b))
  obtain ⟨n, o, h1, h2, h3, _, L, rfl, ⟨rfl, N⟩, hq⟩ := rm0 l s _ hw tables_1 i0 i1 i2 w_ANY w_ASCII_VISIBLE s.heap s.heap.size (Nat.le_refl _) S_ANY S_ASCII_VISIBLE E_ANY E_ASCII_VISIBLE (fun q => by subst q; exact absurd (Value.int.inj (own_uniq F_ANY_ordinal F_ASCII_VISIBLE_ordinal)) (by decide)) p e ha hc hk s m _ below hf ((Spec.applies_iff_loose hf).mp happ).1 ⟨rfl, State.Warmed39.refl s, rfl⟩ trivial
  refine ⟨n, _, h1, h2, h3, hpost _ _ _ _ _ _ ⟨Cond.after_iff.mpr rfl, Cond.after_iff.mpr (eq_i res_at (Term.int_eval (1)) rfl), trivial⟩ ⟨hq.1, hq.2.1, (hq.2.2.sift fun y hy => Or.inr (N y hy)).mono (by decide) (by decide)⟩⟩
theorem main_1_1 : Claimed_1_1 := comes_1 fun _ _ _ _ _ _ h hF => ⟨h.1, hF⟩
theorem main_1_2 : Claimed_1_2 := comes_1 fun _ _ _ _ _ _ h hF => ⟨h.2.1, hF⟩
end Jvm.Pilot.@@N@@
namespace Jvm.Pilot.@@N@@
open Jvm Jvm.ClassFile Sem Op Lib Jvm.Free Jvm.Stand Jvm.Pilot.@@N@@.Jvm.D
/-! MADE BY PROGRAM (witnessworld.py) out of the Statement's table words and the real class files: 12 classes; the members and pool entries that the words name. The judged class is class 1, her method 2. -/
namespace start1
open Jvm.ClassFile
def u (s : String) : CpInfo := .utf8 (stringToUtf16 s)
/-- a pool by its gaps: so many unusable entries, then the entry; so many at the end -/
def gap : Nat → List CpInfo → List CpInfo
  | 0, r => r
  | n + 1, r => .unusable :: gap n r
def poolList (es : List (Nat × CpInfo)) (last : Nat) : List CpInfo := es.foldr (fun e r => gap e.1 (e.2 :: r)) (gap last [])
def pool (es : List (Nat × CpInfo)) (last : Nat) : Array CpInfo := ⟨poolList es last⟩
def fileOf (pool : Array CpInfo) (this : Nat) (attrs : Array Attribute := #[]) (ms : Array MethodInfo := #[]) (fl : Nat := 33) (sup : Nat := 0) (ifs : Array Nat := #[]) (fds : Array FieldInfo := #[]) : ClassFile where
  minorVersion := 0
  majorVersion := 65
  constantPool := pool
  accessFlags := fl
  thisClass := this
  superClass := sup
  interfaces := ifs
  fields := fds
  methods := ms
  attributes := attrs
def plain (name : String) (sup : Option ClassId) : Class where
  name := name
  kind := .ordinary
  loader := none
  accessFlags := 33
  super := sup
  interfaces := #[]
  cf := none
  fields := #[]
  methods := #[]
  instanceTypes := #[]
  staticTypes := #[]
  resolved := #[]
  callSites := []
  init := .initialized
  statics := none
  mirror := none

def pool0 : Array CpInfo := pool [(5, u "<init>"), (0, u "()V"), (1, .class_ 10), (1, u "java/lang/Object")] 113

def k0m0 : Method := { name := "<init>", desc := "()V", sig := { parameters := [], returnType := none }, accessFlags := 1, code := none }
/-- java/lang/Object -/
def k0 : Class := { plain "java/lang/Object" none with
  accessFlags := 33
  interfaces := #[]
  cf := some (fileOf pool0 8 #[] #[{ accessFlags := 1, nameIndex := 5, descriptorIndex := 6, attributes := #[] }] 33 0 #[] #[])
  fields := #[]
  methods := #[k0m0]
  instanceTypes := #[]
  staticTypes := #[]
  resolved := Array.replicate 124 none
  statics := none }

def pool1 : Array CpInfo := pool [(2, .class_ 4), (1, u "java/lang/Object"), (0, u "<init>"), (0, u "()V"), (0, .long 33), (1, .long 94), (1, .fieldref 12 13), (0, .class_ 14), (0, .nameAndType 15 16), (0, u "com/example/rekey/rekey/PasswordPolicy$Allowed"), (0, u "ANY"), (0, u "Lcom/example/rekey/rekey/PasswordPolicy$Allowed;"), (0, .fieldref 12 18), (0, .nameAndType 19 16), (0, u "ASCII_VISIBLE"), (0, .methodref 12 21), (0, .nameAndType 22 23), (0, u "admits"), (0, u "(I)Z"), (0, .methodref 25 26), (0, .class_ 27), (0, .nameAndType 28 29), (0, u "com/example/rekey/rekey/AllowedAdmitsPinLaw"), (0, u "expected"), (0, u "(ZI)Z"), (3, u "law"), (0, u "(III)Z")] 6

def k1m0 : Method := { name := "<init>", desc := "()V", sig := { parameters := [], returnType := none }, accessFlags := 2, code := none }
def k1c1 : Code := { maxStack := 4, maxLocals := 4, code := method_2_code, exceptionTable := #[], attributes := #[] }
def k1m1 : Method := { name := "expected", desc := "(ZI)Z", sig := { parameters := [.boolean, .int], returnType := some .boolean }, accessFlags := 10, code := some k1c1 }
def k1c2 : Code := { maxStack := 3, maxLocals := 8, code := code, exceptionTable := #[], attributes := #[] }
def k1m2 : Method := { name := "law", desc := "(III)Z", sig := { parameters := [.int, .int, .int], returnType := some .boolean }, accessFlags := 9, code := some k1c2 }
/-- com/example/rekey/rekey/AllowedAdmitsPinLaw -/
def k1 : Class := { plain "com/example/rekey/rekey/AllowedAdmitsPinLaw" (some 0) with
  accessFlags := 49
  interfaces := #[]
  cf := some (fileOf pool1 25 #[] #[{ accessFlags := 2, nameIndex := 5, descriptorIndex := 6, attributes := #[] }, { accessFlags := 10, nameIndex := 28, descriptorIndex := 29, attributes := #[] }, { accessFlags := 9, nameIndex := 33, descriptorIndex := 34, attributes := #[] }] 49 2 #[] #[])
  fields := #[]
  methods := #[k1m0, k1m1, k1m2]
  instanceTypes := #[]
  staticTypes := #[]
  resolved := Array.replicate 41 none
  statics := none }

def pool2 : Array CpInfo := pool [(1, .class_ 2), (0, u "java/lang/constant/Constable"), (0, .class_ 4), (0, u "java/lang/Object")] 6

/-- java/lang/constant/Constable -/
def k2 : Class := { plain "java/lang/constant/Constable" (some 0) with
  accessFlags := 1537
  interfaces := #[]
  cf := some (fileOf pool2 1 #[] #[] 1537 3 #[] #[])
  fields := #[]
  methods := #[]
  instanceTypes := #[]
  staticTypes := #[]
  resolved := Array.replicate 11 none
  statics := none }

def pool3 : Array CpInfo := pool [(1, .class_ 2), (0, u "java/lang/Comparable"), (0, .class_ 4), (0, u "java/lang/Object")] 7

/-- java/lang/Comparable -/
def k3 : Class := { plain "java/lang/Comparable" (some 0) with
  accessFlags := 1537
  interfaces := #[]
  cf := some (fileOf pool3 1 #[] #[] 1537 3 #[] #[])
  fields := #[]
  methods := #[]
  instanceTypes := #[]
  staticTypes := #[]
  resolved := Array.replicate 12 none
  statics := none }

def pool4 : Array CpInfo := pool [(1, .class_ 2), (0, u "java/io/Serializable"), (0, .class_ 4), (0, u "java/lang/Object")] 2

/-- java/io/Serializable -/
def k4 : Class := { plain "java/io/Serializable" (some 0) with
  accessFlags := 1537
  interfaces := #[]
  cf := some (fileOf pool4 1 #[] #[] 1537 3 #[] #[])
  fields := #[]
  methods := #[]
  instanceTypes := #[]
  staticTypes := #[]
  resolved := Array.replicate 7 none
  statics := none }

def pool5 : Array CpInfo := pool [(2, .class_ 4), (1, u "java/lang/Enum"), (0, u "name"), (0, u "Ljava/lang/String;"), (2, u "ordinal"), (0, u "I"), (1, .class_ 14), (1, u "java/lang/Object"), (4, u "hash"), (86, .class_ 108), (1, u "java/lang/Enum$EnumDesc"), (2, .class_ 112), (0, u "java/lang/constant/Constable"), (0, .class_ 114), (0, u "java/lang/Comparable"), (0, .class_ 116), (0, u "java/io/Serializable")] 87

/-- java/lang/Enum -/
def k5 : Class := { plain "java/lang/Enum" (some 0) with
  accessFlags := 1057
  interfaces := #[2, 3, 4]
  cf := some (fileOf pool5 2 #[.nestMembers #[106]] #[] 1057 12 #[111, 113, 115] #[{ accessFlags := 18, nameIndex := 5, descriptorIndex := 6, attributes := #[] }, { accessFlags := 18, nameIndex := 9, descriptorIndex := 10, attributes := #[] }, { accessFlags := 2, nameIndex := 19, descriptorIndex := 10, attributes := #[] }])
  fields := #[{ name := "name", type := (.object "java/lang/String"), accessFlags := 18, slot := 0, constantValue := 0 }, { name := "ordinal", type := .int, accessFlags := 18, slot := 1, constantValue := 0 }, { name := "hash", type := .int, accessFlags := 2, slot := 2, constantValue := 0 }]
  methods := #[]
  instanceTypes := #[(.object "java/lang/String"), .int, .int]
  staticTypes := #[]
  resolved := Array.replicate 204 none
  statics := none }

def pool6 : Array CpInfo := pool [(1, .class_ 2), (0, u "com/example/rekey/rekey/PasswordPolicy$Allowed"), (0, .fieldref 1 4), (0, .nameAndType 5 6), (0, u "ANY"), (0, u "Lcom/example/rekey/rekey/PasswordPolicy$Allowed;"), (2, u "ASCII_VISIBLE"), (2, u "$VALUES"), (0, u "[Lcom/example/rekey/rekey/PasswordPolicy$Allowed;"), (6, .class_ 22), (1, u "java/lang/Enum"), (20, u "admits"), (0, u "(I)Z"), (6, .class_ 52), (0, u "com/example/rekey/rekey/PasswordPolicy")] 2

def k6c0 : Code := { maxStack := 2, maxLocals := 2, code := prog_15_method_4_code, exceptionTable := #[], attributes := #[] }
def k6m0 : Method := { name := "admits", desc := "(I)Z", sig := { parameters := [.int], returnType := some .boolean }, accessFlags := 0, code := some k6c0 }
/-- com/example/rekey/rekey/PasswordPolicy$Allowed -/
def k6 : Class := { plain "com/example/rekey/rekey/PasswordPolicy$Allowed" (some 5) with
  accessFlags := 16433
  interfaces := #[]
  cf := some (fileOf pool6 1 #[.nestHost 51] #[{ accessFlags := 0, nameIndex := 43, descriptorIndex := 44, attributes := #[] }] 16433 20 #[] #[{ accessFlags := 16409, nameIndex := 5, descriptorIndex := 6, attributes := #[] }, { accessFlags := 16409, nameIndex := 9, descriptorIndex := 6, attributes := #[] }, { accessFlags := 4122, nameIndex := 12, descriptorIndex := 13, attributes := #[] }])
  fields := #[{ name := "ANY", type := (.object "com/example/rekey/rekey/PasswordPolicy$Allowed"), accessFlags := 16409, slot := 0, constantValue := 0 }, { name := "ASCII_VISIBLE", type := (.object "com/example/rekey/rekey/PasswordPolicy$Allowed"), accessFlags := 16409, slot := 1, constantValue := 0 }, { name := "$VALUES", type := (.array (.object "com/example/rekey/rekey/PasswordPolicy$Allowed")), accessFlags := 4122, slot := 2, constantValue := 0 }]
  methods := #[k6m0]
  instanceTypes := #[(.object "java/lang/String"), .int, .int]
  staticTypes := #[(.object "com/example/rekey/rekey/PasswordPolicy$Allowed"), (.object "com/example/rekey/rekey/PasswordPolicy$Allowed"), (.array (.object "com/example/rekey/rekey/PasswordPolicy$Allowed"))]
  resolved := Array.replicate 55 none
  statics := some 0 }

def pool7 : Array CpInfo := pool [(1, u "java/lang/Cloneable"), (0, .class_ 1), (0, u "java/lang/Object"), (0, .class_ 3)] 3

/-- java/lang/Cloneable -/
def k7 : Class := { plain "java/lang/Cloneable" (some 0) with
  accessFlags := 1537
  interfaces := #[]
  cf := some (fileOf pool7 2 #[] #[] 1537 4 #[] #[])
  fields := #[]
  methods := #[]
  instanceTypes := #[]
  staticTypes := #[]
  resolved := Array.replicate 8 none
  statics := none }

/-- the primitive byte -/
def k8 : Class := { plain "byte" none with kind := .primitive 'B', accessFlags := 0x411 }
/-- [B -/
def k9 : Class := { plain "[B" (some 0) with kind := .array 8 .byte, interfaces := #[7, 4], accessFlags := 1041 }

/-- the primitive int -/
def k10 : Class := { plain "int" none with kind := .primitive 'I', accessFlags := 0x411 }
/-- [I -/
def k11 : Class := { plain "[I" (some 0) with kind := .array 10 .int, interfaces := #[7, 4], accessFlags := 1041 }

def heap : Heap := #[{ cls := 6, slots := #[.ref 1, .ref 2, .null], vm := .statics 6 },
  { cls := 6, slots := #[.null, .int 0, .int 0], vm := .none },
  { cls := 6, slots := #[.null, .int 1, .int 0], vm := .none }]
def classes : Array Class := #[k0, k1, k2, k3, k4, k5, k6, k7, k8, k9, k10, k11]
def interned : List (Array UInt16 × Addr) := []
def slotsUsed : Nat := 9
def theMethod : MethodId := ⟨1, 2⟩
def args0 : Array Value := #[.int 5, .int 5, .int 5]
def aboutOver (below : List Frame) : State where
  vm := { classes := classes, interned := interned.toArray }
  heap := heap
  slotsUsed := slotsUsed
  threads := #[{ frames := .invoking theMethod args0 :: below }]
def below0 : List Frame := [.native { method := ⟨0, 0⟩, args := #[] }]
def about1 : State := aboutOver below0
def p0 : Program := .bare "" "" ""
def e0 : Env := launch0.env 0 0 0
theorem w_frames : about1.frames = Frame.invoking theMethod args0 :: below0 := rfl
set_option maxRecDepth 65536 in
theorem w_args : argsFit about1.vm theMethod args0 = true := by decide +kernel
set_option maxRecDepth 65536 in
theorem w_heap : heapFits about1 = true := by decide +kernel
set_option maxRecDepth 65536 in
theorem w_runnable : about1.curStatus? = some .runnable := by decide +kernel
set_option maxRecDepth 65536 in
theorem w_alone : about1.alone = true := by decide +kernel
set_option maxRecDepth 65536 in
theorem w_named : about1.methodNamed? x = some theMethod := by decide +kernel
set_option maxRecDepth 65536 in
theorem w_hears : about1.hears theMethod below0 = true := by decide +kernel
set_option maxRecDepth 65536 in
theorem w_ripe : about1.ripe theMethod args0 below0 = true := by decide +kernel
theorem w_running : about1.status = .running := rfl
set_option maxRecDepth 65536 in
theorem w_room : about1.hasRoom e0.platform room_1 = true :=
  launch0.hasRoom_least _ room_1 (by decide +kernel) (by decide +kernel) (by decide +kernel) (by decide +kernel) (by decide +kernel) (by decide +kernel)
theorem allAtoms_all (ts : List Jvm.Cond) (a : Array Jvm.Value) (st : Jvm.State) : (allAtoms ts).before a st = ts.all (fun c => c.before a st) := by
  induction ts with
  | nil => rfl
  | cons c t ih =>
    show (Jvm.Cond.and c (allAtoms t)).before a st = _
    rw [Jvm.Cond.before_and, ih, List.all_cons]
def words1 : List Jvm.Cond := Jvm.Cond.code x code maxLocals ret :: tables_1
/-- a 'code' word, met by the world's own term for the bytes: nothing is compared byte by byte -/
theorem code_word {y : MethodName} {bytes : ByteArray} {mx : Nat} {rt : Option FieldType} {a : Array Value} {s : State} {m : MethodId} {meth : Method} {c : Code} (h1 : s.methodNamed? y = some m) (h2 : s.vm.method? m = some meth) (h3 : meth.code = some c) (h4 : c.code = bytes)
    (h5 : (c.maxLocals == mx && c.exceptionTable.isEmpty && decide (c.maxStack ≤ mostOperands) && decide (meth.sig.returnType = rt) && !meth.locks && decide (parseMethodDescriptor y.desc = some meth.sig)) = true) : (Jvm.Cond.code y bytes mx rt).before a s = true := by
  simp only [Bool.and_eq_true, beq_iff_eq, Bool.not_eq_true', decide_eq_true_eq] at h5
  obtain ⟨⟨⟨⟨⟨g1, g2⟩, g3⟩, g4⟩, g5⟩, g6⟩ := h5
  simp [Cond.before, Cond.holds, Cond.value, h1, h2, h3, h4, g1, g2, g3, g4, g5, g6]
def isCode : Jvm.Cond → Bool
  | .code _ _ _ _ => true
  | _ => false
theorem all_split {L : List Jvm.Cond} {P : Jvm.Cond → Bool} (h1 : L.all (fun c => isCode c || P c) = true) (h2 : ∀ c ∈ L.filter isCode, P c = true) : L.all P = true := by
  refine List.all_eq_true.mpr fun c hc => ?_
  have h := List.all_eq_true.mp h1 c hc
  rcases Bool.eq_false_or_eq_true (isCode c) with hi | hi
  · exact h2 c (List.mem_filter.mpr ⟨hc, hi⟩)
  · simpa [hi] using h
set_option maxRecDepth 65536 in
theorem w_c0 : (Jvm.Cond.code x code maxLocals ret).before args0 about1 = true := code_word (m := ⟨1, 2⟩) (meth := k1m2) (c := k1c2) (by decide +kernel) rfl rfl rfl (by decide +kernel)
set_option maxRecDepth 65536 in
theorem w_c1 : (Jvm.Cond.code ({ cls := "com/example/rekey/rekey/PasswordPolicy$Allowed", name := "admits", desc := "(I)Z" } : Jvm.MethodName) prog_15_method_4_code (2 : Nat) (Option.some Jvm.ClassFile.FieldType.boolean)).before args0 about1 = true := code_word (m := ⟨6, 0⟩) (meth := k6m0) (c := k6c0) (by decide +kernel) rfl rfl rfl (by decide +kernel)
set_option maxRecDepth 65536 in
theorem w_c2 : (Jvm.Cond.code ({ cls := "com/example/rekey/rekey/AllowedAdmitsPinLaw", name := "expected", desc := "(ZI)Z" } : Jvm.MethodName) method_2_code (4 : Nat) (Option.some Jvm.ClassFile.FieldType.boolean)).before args0 about1 = true := code_word (m := ⟨1, 1⟩) (meth := k1m1) (c := k1c1) (by decide +kernel) rfl rfl rfl (by decide +kernel)
def codes1 : List Jvm.Cond := [Jvm.Cond.code x code maxLocals ret, Jvm.Cond.code ({ cls := "com/example/rekey/rekey/PasswordPolicy$Allowed", name := "admits", desc := "(I)Z" } : Jvm.MethodName) prog_15_method_4_code (2 : Nat) (Option.some Jvm.ClassFile.FieldType.boolean), Jvm.Cond.code ({ cls := "com/example/rekey/rekey/AllowedAdmitsPinLaw", name := "expected", desc := "(ZI)Z" } : Jvm.MethodName) method_2_code (4 : Nat) (Option.some Jvm.ClassFile.FieldType.boolean)]
set_option maxRecDepth 65536 in
theorem codes_eq : words1.filter isCode = codes1 := rfl
theorem w_codes : ∀ c ∈ words1.filter isCode, c.before args0 about1 = true := by
  rw [codes_eq]
  intro c hc
  simp only [codes1, List.mem_cons, List.not_mem_nil, or_false] at hc
  rcases hc with rfl | rfl | rfl
  · exact w_c0
  · exact w_c1
  · exact w_c2
set_option maxRecDepth 65536 in
theorem w_t1 : words1.all (fun c => isCode c || c.before args0 about1) = true := by decide +kernel
theorem w_tables : (allAtoms (Jvm.Cond.code x code maxLocals ret :: tables_1)).before args0 about1 = true := by
  rw [allAtoms_all]
  show words1.all (fun c => c.before args0 about1) = true
  refine all_split ?_ w_codes
  rw [w_t1]
set_option maxRecDepth 65536 in
theorem w_case : (Jvm.Cond.and given_1 narrow_1).before args0 about1 = true := by decide +kernel
theorem w_applies : (headSpec (Jvm.Cond.code x code maxLocals ret :: tables_1) room_1).applies x e0.platform about1 = true :=
  (Spec.applies_iff w_frames).mpr ⟨w_running, w_runnable, w_alone, w_named, w_hears, w_ripe, w_room, w_tables⟩
theorem atStart : AtStart classFile x code maxLocals ret World_1 tables_1 room_1 Calls_1 rest_1 Pre_1 launch0 p0 e0 about1 theMethod args0 below0 :=
  ⟨lists_1, trivial, launch0.admits_env _ _ _, launch0.least_env, fairChoices_fair.cas, fairChoices_fair.clock, w_frames, w_args, w_heap, w_applies, trivial, trivial, w_case⟩
end start1
theorem witness_1 : WitnessClaimed_1 := ⟨start1.p0, start1.e0, start1.about1, start1.theMethod, start1.args0, start1.below0, start1.atStart⟩
end Jvm.Pilot.@@N@@
