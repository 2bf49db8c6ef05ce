import JvmDerived
import JvmDerived.Pilot.@@N@@Statement
import JvmDerived.Pilot.@@N@@Code
set_option linter.unusedVariables false
set_option linter.unusedSimpArgs false
@@BLOCK:NumsL.lean.txt@@
namespace Jvm.Pilot.@@N@@
open Jvm Jvm.ClassFile Sem Op Lib Jvm.Free Jvm.Stand Jvm.LawKit Jvm.RoadKit Bundle Jvm.Pilot.@@N@@.Jvm.D
section OwnKit
variable {p : Program} {l : Launch} {e : Env} {R : Room} {s : State} {m : MethodId} {args : Array Value} {below : List Frame} {meth : Method} {c : Code} {T : State} {locs : List Loc} {cells slots : Nat}
/-- from U the run comes to an end of which K speaks -/
def Go (p : Program) (e : Env) (below : List Frame) (K : Outcome → State → Prop) (U : State) : Prop := ∃ s₂ o, Steps p.tables e below U s₂ ∧ s₂.status = .running ∧ Ended s₂ below o ∧ K o s₂
theorem own_s {K : Outcome → State → Prop} {A B : State} (h : ∀ t, Steps p.tables e below B t → Steps p.tables e below A t) (g : Go p e below K B) : Go p e below K A := by
  obtain ⟨s₂, o, h1, h2⟩ := g
  exact ⟨s₂, o, h _ h1, h2⟩
def Kf (s : State) (Q : Option Value → Heap → List Loc → Prop) (C N : Nat) (o : Outcome) (U : State) : Prop := ∃ v L, o = .returned v ∧ Q v U.heap L ∧ FrameEnd s o U L C N
theorem own_ret (X : Stand p l e R s m args below meth c T locs cells slots) (hx : p.tables.exec = Jvm.exec) (hlk : meth.locks = false) {pc : Nat} {Ls : Array Slot} {w : Value} {t : FieldType} {i : Instr} {rest : List Value} (hret : meth.sig.returnType = some t) (hn : narrow t w = w)
    (hi : (i = .ireturn ∧ (t = .int ∨ t = .boolean ∨ t = .byte ∨ t = .char ∨ t = .short) ∧ ∃ z, w = .int z) ∨ (i = .lreturn ∧ t = .long ∧ ∃ z, w = .long z) ∨ (i = .dreturn ∧ t = .double ∧ ∃ z, w = .double z) ∨ (i = .freturn ∧ t = .float ∧ ∃ z, w = .float z) ∨ (i = .areturn ∧ t.isReference = true ∧ w.isRef = true))
    (hd : decode c.code pc = .ok (i, 1)) {Q : Option Value → Heap → List Loc → Prop} {C N : Nat} (hc : cells ≤ C) (hs : slots ≤ N) (hQ : Q (some w) T.heap locs) : Go p e below (Kf s Q C N) (T.setTop (mkF m pc Ls (w :: rest))) := by
  obtain ⟨fs, hr, hrun, hended, hW, hsame⟩ := X.leave (v := some w) (fun h => by rw [hret] at h; cases h) hlk
  exact ⟨_, _, retOut X hx hret hn hi hd hr, hrun, hended, _, _, rfl, hQ, ⟨_, rfl⟩, hW, hsame.mono hc hs⟩
theorem own_retI (X : Stand p l e R s m args below meth c T locs cells slots) (hx : p.tables.exec = Jvm.exec) (hlk : meth.locks = false) {pc : Nat} {Ls : Array Slot} {z : Int32} {rest : List Value} (hret : meth.sig.returnType = some .int)
    (hd : decode c.code pc = .ok (.ireturn, 1)) {Q : Option Value → Heap → List Loc → Prop} {C N : Nat} (hc : cells ≤ C) (hs : slots ≤ N) (hQ : Q (some (.int z)) T.heap locs) : Go p e below (Kf s Q C N) (T.setTop (mkF m pc Ls (.int z :: rest))) :=
  own_ret X hx hlk hret rfl (Or.inl ⟨rfl, Or.inl rfl, _, rfl⟩) hd hc hs hQ
theorem own_retJ (X : Stand p l e R s m args below meth c T locs cells slots) (hx : p.tables.exec = Jvm.exec) (hlk : meth.locks = false) {pc : Nat} {Ls : Array Slot} {z : Int64} {rest : List Value} (hret : meth.sig.returnType = some .long)
    (hd : decode c.code pc = .ok (.lreturn, 1)) {Q : Option Value → Heap → List Loc → Prop} {C N : Nat} (hc : cells ≤ C) (hs : slots ≤ N) (hQ : Q (some (.long z)) T.heap locs) : Go p e below (Kf s Q C N) (T.setTop (mkF m pc Ls (.long z :: rest))) :=
  own_ret X hx hlk hret rfl (Or.inr (Or.inl ⟨rfl, rfl, _, rfl⟩)) hd hc hs hQ
theorem own_retR (X : Stand p l e R s m args below meth c T locs cells slots) (hx : p.tables.exec = Jvm.exec) (hlk : meth.locks = false) {pc : Nat} {Ls : Array Slot} {w : Value} {t : FieldType} {rest : List Value} (hret : meth.sig.returnType = some t) (ht : t.isReference = true) (hw : w.isRef = true)
    (hd : decode c.code pc = .ok (.areturn, 1)) {Q : Option Value → Heap → List Loc → Prop} {C N : Nat} (hc : cells ≤ C) (hs : slots ≤ N) (hQ : Q (some w) T.heap locs) : Go p e below (Kf s Q C N) (T.setTop (mkF m pc Ls (w :: rest))) :=
  own_ret X hx hlk hret (by cases t <;> simp [FieldType.isReference] at ht <;> cases w <;> simp [Value.isRef] at hw <;> rfl) (Or.inr (Or.inr (Or.inr (Or.inr ⟨rfl, ht, hw⟩)))) hd hc hs hQ
theorem own_retB (X : Stand p l e R s m args below meth c T locs cells slots) (hx : p.tables.exec = Jvm.exec) (hlk : meth.locks = false) {pc : Nat} {Ls : Array Slot} {z : Int32} {t : FieldType} {rest : List Value} (hret : meth.sig.returnType = some t) (ht : t = .boolean ∨ t = .byte ∨ t = .char ∨ t = .short)
    (hd : decode c.code pc = .ok (.ireturn, 1)) {Q : Option Value → Heap → List Loc → Prop} {C N : Nat} (hc : cells ≤ C) (hs : slots ≤ N) (hQ : Q (some (.int (nar t z))) T.heap locs) : Go p e below (Kf s Q C N) (T.setTop (mkF m pc Ls (.int z :: rest))) := by
  obtain ⟨fs, hr, hrun, hended, hW, hsame⟩ := X.leave (v := some (.int (nar t z))) (fun h => by rw [hret] at h; cases h) hlk
  exact ⟨_, _, retN X hx hret ht hd hr, hrun, hended, _, _, rfl, hQ, ⟨_, rfl⟩, hW, hsame.mono hc hs⟩
theorem own_retV (X : Stand p l e R s m args below meth c T locs cells slots) (hx : p.tables.exec = Jvm.exec) (hlk : meth.locks = false) {pc : Nat} {Ls : Array Slot} (hret : meth.sig.returnType = none)
    (hd : decode c.code pc = .ok (.return_, 1)) {Q : Option Value → Heap → List Loc → Prop} {C N : Nat} (hc : cells ≤ C) (hs : slots ≤ N) (hQ : Q none T.heap locs) : Go p e below (Kf s Q C N) (T.setTop (mkF m pc Ls [])) := by
  obtain ⟨fs, hr, hrun, hended, hW, hsame⟩ := X.leave (v := none) (fun _ => rfl) hlk
  exact ⟨_, _, X.returnOut hx hret hd hr, hrun, hended, _, _, rfl, hQ, ⟨_, rfl⟩, hW, hsame.mono hc hs⟩
/-- a truth as Java's int -/
abbrev bz (P : Prop) [Decidable P] : Int32 := if P then 1 else 0
theorem own_t {P : Prop} [Decidable P] (h : P) : some (Value.int (nar .boolean (1 : Int32))) = some (Value.int (bz P)) := by rw [bz, if_pos h]; rfl
theorem own_f {P : Prop} [Decidable P] (h : ¬ P) : some (Value.int (nar .boolean (0 : Int32))) = some (Value.int (bz P)) := by rw [bz, if_neg h]; rfl
theorem own_i {a b : Int32} (h : a = b) : some (Value.int a) = some (Value.int b) := by rw [h]
theorem own_j {a b : Int64} (h : a = b) : some (Value.long a) = some (Value.long b) := by rw [h]
theorem own_r {a b : Addr} (h : a = b) : some (Value.ref a) = some (Value.ref b) := by rw [h]
theorem own_eqI {args : Array Value} {first s : State} {o : Option Outcome} {idx : List Nat} {t : Term} {k : Int32} (h : (Jvm.Cond.eq t (Term.int k)).value args first o s idx = some true) : t.eval args first o idx s = some (.int k) := by
  simp only [Cond.value, Term.eval] at h
  cases ht : t.eval args first o idx s with
  | none => simp [ht] at h
  | some x => cases x <;> simp [ht] at h ⊢; exact h
end OwnKit
theorem own_lit {m : Int32} {k : Int} (h : m.toInt = k) : m = Int32.ofInt k := by rw [← h, Int32.ofInt_toInt]
theorem own_nc (j : Int32) : j.toNatClampNeg = j.toInt.toNat := rfl
theorem own_uniq {Z : State} {h : Heap} {a : Addr} {C n d : String} {v w : Value} (F : Fld Z h a C n d v) (G : Fld Z h a C n d w) : v = w := by
  obtain ⟨cell, cf, k, i, f, h1, h2, -, -, -, -, h7⟩ := F
  obtain ⟨cell', cf', k', i', f', g1, g2, -, -, -, -, g7⟩ := G
  cases h1.symm.trans g1
  cases h2.symm.trans g2
  exact Option.some.inj (h7.symm.trans g7)
def WS (Z : State) (h : Heap) (W : Int32 → Addr) : Prop := Sta Z h "com/example/tally/tally/XPathFunction" "POSITION" "Lcom/example/tally/tally/XPathFunction;" (.ref (W (0 : Int32))) ∧ Sta Z h "com/example/tally/tally/XPathFunction" "LAST" "Lcom/example/tally/tally/XPathFunction;" (.ref (W (1 : Int32))) ∧ Sta Z h "com/example/tally/tally/XPathFunction" "COUNT" "Lcom/example/tally/tally/XPathFunction;" (.ref (W (2 : Int32))) ∧ Sta Z h "com/example/tally/tally/XPathFunction" "NOT" "Lcom/example/tally/tally/XPathFunction;" (.ref (W (3 : Int32))) ∧ Sta Z h "com/example/tally/tally/XPathFunction" "BOOLEAN" "Lcom/example/tally/tally/XPathFunction;" (.ref (W (4 : Int32))) ∧ Sta Z h "com/example/tally/tally/XPathFunction" "TRUE" "Lcom/example/tally/tally/XPathFunction;" (.ref (W (5 : Int32))) ∧ Sta Z h "com/example/tally/tally/XPathFunction" "FALSE" "Lcom/example/tally/tally/XPathFunction;" (.ref (W (6 : Int32))) ∧ Sta Z h "com/example/tally/tally/XPathFunction" "EXISTS" "Lcom/example/tally/tally/XPathFunction;" (.ref (W (7 : Int32))) ∧ Sta Z h "com/example/tally/tally/XPathFunction" "EMPTY" "Lcom/example/tally/tally/XPathFunction;" (.ref (W (8 : Int32))) ∧ Sta Z h "com/example/tally/tally/XPathFunction" "STRING" "Lcom/example/tally/tally/XPathFunction;" (.ref (W (9 : Int32))) ∧ Sta Z h "com/example/tally/tally/XPathFunction" "STRING_LENGTH" "Lcom/example/tally/tally/XPathFunction;" (.ref (W (10 : Int32))) ∧ Sta Z h "com/example/tally/tally/XPathFunction" "NORMALIZE_SPACE" "Lcom/example/tally/tally/XPathFunction;" (.ref (W (11 : Int32))) ∧ Sta Z h "com/example/tally/tally/XPathFunction" "CONTAINS" "Lcom/example/tally/tally/XPathFunction;" (.ref (W (12 : Int32))) ∧ Sta Z h "com/example/tally/tally/XPathFunction" "STARTS_WITH" "Lcom/example/tally/tally/XPathFunction;" (.ref (W (13 : Int32))) ∧ Sta Z h "com/example/tally/tally/XPathFunction" "ENDS_WITH" "Lcom/example/tally/tally/XPathFunction;" (.ref (W (14 : Int32))) ∧ Sta Z h "com/example/tally/tally/XPathFunction" "NUMBER" "Lcom/example/tally/tally/XPathFunction;" (.ref (W (15 : Int32))) ∧ Sta Z h "com/example/tally/tally/XPathFunction" "NAME" "Lcom/example/tally/tally/XPathFunction;" (.ref (W (16 : Int32))) ∧ Sta Z h "com/example/tally/tally/XPathFunction" "LOCAL_NAME" "Lcom/example/tally/tally/XPathFunction;" (.ref (W (17 : Int32))) ∧ Sta Z h "com/example/tally/tally/XPathFunction" "NAMESPACE_URI" "Lcom/example/tally/tally/XPathFunction;" (.ref (W (18 : Int32)))
theorem WS.ext {Z : State} {h h' : Heap} {W : Int32 → Addr} (E : Ext h h') (F : WS Z h W) : WS Z h' W := ⟨F.1.ext E, F.2.1.ext E, F.2.2.1.ext E, F.2.2.2.1.ext E, F.2.2.2.2.1.ext E, F.2.2.2.2.2.1.ext E, F.2.2.2.2.2.2.1.ext E, F.2.2.2.2.2.2.2.1.ext E, F.2.2.2.2.2.2.2.2.1.ext E, F.2.2.2.2.2.2.2.2.2.1.ext E, F.2.2.2.2.2.2.2.2.2.2.1.ext E, F.2.2.2.2.2.2.2.2.2.2.2.1.ext E, F.2.2.2.2.2.2.2.2.2.2.2.2.1.ext E, F.2.2.2.2.2.2.2.2.2.2.2.2.2.1.ext E, F.2.2.2.2.2.2.2.2.2.2.2.2.2.2.1.ext E, F.2.2.2.2.2.2.2.2.2.2.2.2.2.2.2.1.ext E, F.2.2.2.2.2.2.2.2.2.2.2.2.2.2.2.2.1.ext E, F.2.2.2.2.2.2.2.2.2.2.2.2.2.2.2.2.2.1.ext E, F.2.2.2.2.2.2.2.2.2.2.2.2.2.2.2.2.2.2.ext E⟩
theorem own_rg_0_18 {m : Int32} (h1 : 0 ≤ m.toInt) (h2 : m.toInt ≤ 18) : m = (0 : Int32) ∨ m = (1 : Int32) ∨ m = (2 : Int32) ∨ m = (3 : Int32) ∨ m = (4 : Int32) ∨ m = (5 : Int32) ∨ m = (6 : Int32) ∨ m = (7 : Int32) ∨ m = (8 : Int32) ∨ m = (9 : Int32) ∨ m = (10 : Int32) ∨ m = (11 : Int32) ∨ m = (12 : Int32) ∨ m = (13 : Int32) ∨ m = (14 : Int32) ∨ m = (15 : Int32) ∨ m = (16 : Int32) ∨ m = (17 : Int32) ∨ m = (18 : Int32) := by
  have h : m.toInt = 0 ∨ m.toInt = 1 ∨ m.toInt = 2 ∨ m.toInt = 3 ∨ m.toInt = 4 ∨ m.toInt = 5 ∨ m.toInt = 6 ∨ m.toInt = 7 ∨ m.toInt = 8 ∨ m.toInt = 9 ∨ m.toInt = 10 ∨ m.toInt = 11 ∨ m.toInt = 12 ∨ m.toInt = 13 ∨ m.toInt = 14 ∨ m.toInt = 15 ∨ m.toInt = 16 ∨ m.toInt = 17 ∨ m.toInt = 18 := by omega
  rcases h with h | h | h | h | h | h | h | h | h | h | h | h | h | h | h | h | h | h | h
  · exact (Or.inl (own_lit h))
  · exact (Or.inr (Or.inl (own_lit h)))
  · exact (Or.inr (Or.inr (Or.inl (own_lit h))))
  · exact (Or.inr (Or.inr (Or.inr (Or.inl (own_lit h)))))
  · exact (Or.inr (Or.inr (Or.inr (Or.inr (Or.inl (own_lit h))))))
  · exact (Or.inr (Or.inr (Or.inr (Or.inr (Or.inr (Or.inl (own_lit h)))))))
  · exact (Or.inr (Or.inr (Or.inr (Or.inr (Or.inr (Or.inr (Or.inl (own_lit h))))))))
  · exact (Or.inr (Or.inr (Or.inr (Or.inr (Or.inr (Or.inr (Or.inr (Or.inl (own_lit h)))))))))
  · exact (Or.inr (Or.inr (Or.inr (Or.inr (Or.inr (Or.inr (Or.inr (Or.inr (Or.inl (own_lit h))))))))))
  · exact (Or.inr (Or.inr (Or.inr (Or.inr (Or.inr (Or.inr (Or.inr (Or.inr (Or.inr (Or.inl (own_lit h)))))))))))
  · exact (Or.inr (Or.inr (Or.inr (Or.inr (Or.inr (Or.inr (Or.inr (Or.inr (Or.inr (Or.inr (Or.inl (own_lit h))))))))))))
  · exact (Or.inr (Or.inr (Or.inr (Or.inr (Or.inr (Or.inr (Or.inr (Or.inr (Or.inr (Or.inr (Or.inr (Or.inl (own_lit h)))))))))))))
  · exact (Or.inr (Or.inr (Or.inr (Or.inr (Or.inr (Or.inr (Or.inr (Or.inr (Or.inr (Or.inr (Or.inr (Or.inr (Or.inl (own_lit h))))))))))))))
  · exact (Or.inr (Or.inr (Or.inr (Or.inr (Or.inr (Or.inr (Or.inr (Or.inr (Or.inr (Or.inr (Or.inr (Or.inr (Or.inr (Or.inl (own_lit h)))))))))))))))
  · exact (Or.inr (Or.inr (Or.inr (Or.inr (Or.inr (Or.inr (Or.inr (Or.inr (Or.inr (Or.inr (Or.inr (Or.inr (Or.inr (Or.inr (Or.inl (own_lit h))))))))))))))))
  · exact (Or.inr (Or.inr (Or.inr (Or.inr (Or.inr (Or.inr (Or.inr (Or.inr (Or.inr (Or.inr (Or.inr (Or.inr (Or.inr (Or.inr (Or.inr (Or.inl (own_lit h)))))))))))))))))
  · exact (Or.inr (Or.inr (Or.inr (Or.inr (Or.inr (Or.inr (Or.inr (Or.inr (Or.inr (Or.inr (Or.inr (Or.inr (Or.inr (Or.inr (Or.inr (Or.inr (Or.inl (own_lit h))))))))))))))))))
  · exact (Or.inr (Or.inr (Or.inr (Or.inr (Or.inr (Or.inr (Or.inr (Or.inr (Or.inr (Or.inr (Or.inr (Or.inr (Or.inr (Or.inr (Or.inr (Or.inr (Or.inr (Or.inl (own_lit h)))))))))))))))))))
  · exact (Or.inr (Or.inr (Or.inr (Or.inr (Or.inr (Or.inr (Or.inr (Or.inr (Or.inr (Or.inr (Or.inr (Or.inr (Or.inr (Or.inr (Or.inr (Or.inr (Or.inr (Or.inr (own_lit h)))))))))))))))))))
theorem own_m (x : Int32) : 0 ≤ ((x &&& (2147483647 : Int32)) % (19 : Int32)).toInt ∧ ((x &&& (2147483647 : Int32)) % (19 : Int32)).toInt ≤ 18 := by
  have e1 : (x &&& (2147483647 : Int32)).toInt = x.toInt % 2 ^ 31 := Jvm.Kit.i32_mask x _ (k := 31) (by decide) (by decide)
  have e2 := Jvm.Kit.i32_rem_nonneg (x := (x &&& (2147483647 : Int32))) (y := (19 : Int32)) (by omega)
  have e3 : (19 : Int32).toInt = 19 := by decide
  rw [e3] at e2
  omega
def ordW (i : Int32) : Int32 := i
theorem s_injW {i j : Int32} (h : ordW i = ordW j) : i = j := h
def loS (k : Int32) : Int32 := if k = (0 : Int32) then 0 else if k = (1 : Int32) then 0 else if k = (2 : Int32) then 1 else if k = (3 : Int32) then 1 else if k = (4 : Int32) then 1 else if k = (5 : Int32) then 0 else if k = (6 : Int32) then 0 else if k = (7 : Int32) then 1 else if k = (8 : Int32) then 1 else if k = (9 : Int32) then 0 else if k = (10 : Int32) then 0 else if k = (11 : Int32) then 0 else if k = (12 : Int32) then 2 else if k = (13 : Int32) then 2 else if k = (14 : Int32) then 2 else if k = (15 : Int32) then 0 else if k = (16 : Int32) then 0 else if k = (17 : Int32) then 0 else 0
def hiS (k : Int32) : Int32 := if k = (0 : Int32) then 0 else if k = (1 : Int32) then 0 else if k = (2 : Int32) then 1 else if k = (3 : Int32) then 1 else if k = (4 : Int32) then 1 else if k = (5 : Int32) then 0 else if k = (6 : Int32) then 0 else if k = (7 : Int32) then 1 else if k = (8 : Int32) then 1 else if k = (9 : Int32) then 1 else if k = (10 : Int32) then 1 else if k = (11 : Int32) then 1 else if k = (12 : Int32) then 2 else if k = (13 : Int32) then 2 else if k = (14 : Int32) then 2 else if k = (15 : Int32) then 1 else if k = (16 : Int32) then 1 else if k = (17 : Int32) then 1 else 1
theorem own_u {W : Int32 → Addr} (IW : ∀ i j : Int32, 0 ≤ i.toInt → i.toInt ≤ 18 → 0 ≤ j.toInt → j.toInt ≤ 18 → W i = W j → i = j) {k : Int32} (h1 : 0 ≤ k.toInt) (h2 : k.toInt ≤ 18) : (W k = W 0 ∨ W k = W 1) ↔ (k = (0 : Int32) ∨ k = (1 : Int32)) := by
  have q : ∀ j : Int32, 0 ≤ j.toInt → j.toInt ≤ 18 → (W k = W j ↔ k = j) := fun j h3 h4 => ⟨IW k j h1 h2 h3 h4, fun e => by rw [e]⟩
  rw [q 0 (by decide) (by decide), q 1 (by decide) (by decide)]
theorem own_b1 {P : Prop} [Decidable P] (h : P) : bz P = (1 : Int32) := if_pos h
theorem own_b0 {P : Prop} [Decidable P] (h : ¬ P) : bz P = (0 : Int32) := if_neg h
theorem own_n0 {P : Prop} [Decidable P] (h : P) : ¬ bz P = (0 : Int32) := by rw [bz, if_pos h]; decide
theorem d1_0 : decode method_2_code 0 = .ok (.iload_n 0, 1) := by decide +kernel
theorem d1_1 : decode method_2_code 1 = .ok (.ifCond .ne 7, 3) := by decide +kernel
theorem d1_4 : decode method_2_code 4 = .ok (.getstatic 7, 3) := by decide +kernel
theorem d1_7 : decode method_2_code 7 = .ok (.areturn, 1) := by decide +kernel
theorem d1_8 : decode method_2_code 8 = .ok (.iload_n 0, 1) := by decide +kernel
theorem d1_9 : decode method_2_code 9 = .ok (.iconst 1, 1) := by decide +kernel
theorem d1_10 : decode method_2_code 10 = .ok (.if_icmp .ne 7, 3) := by decide +kernel
theorem d1_13 : decode method_2_code 13 = .ok (.getstatic 13, 3) := by decide +kernel
theorem d1_16 : decode method_2_code 16 = .ok (.areturn, 1) := by decide +kernel
theorem d1_17 : decode method_2_code 17 = .ok (.iload_n 0, 1) := by decide +kernel
theorem d1_18 : decode method_2_code 18 = .ok (.iconst 2, 1) := by decide +kernel
theorem d1_19 : decode method_2_code 19 = .ok (.if_icmp .ne 7, 3) := by decide +kernel
theorem d1_22 : decode method_2_code 22 = .ok (.getstatic 16, 3) := by decide +kernel
theorem d1_25 : decode method_2_code 25 = .ok (.areturn, 1) := by decide +kernel
theorem d1_26 : decode method_2_code 26 = .ok (.iload_n 0, 1) := by decide +kernel
theorem d1_27 : decode method_2_code 27 = .ok (.iconst 3, 1) := by decide +kernel
theorem d1_28 : decode method_2_code 28 = .ok (.if_icmp .ne 7, 3) := by decide +kernel
theorem d1_31 : decode method_2_code 31 = .ok (.getstatic 19, 3) := by decide +kernel
theorem d1_34 : decode method_2_code 34 = .ok (.areturn, 1) := by decide +kernel
theorem d1_35 : decode method_2_code 35 = .ok (.iload_n 0, 1) := by decide +kernel
theorem d1_36 : decode method_2_code 36 = .ok (.iconst 4, 1) := by decide +kernel
theorem d1_37 : decode method_2_code 37 = .ok (.if_icmp .ne 7, 3) := by decide +kernel
theorem d1_40 : decode method_2_code 40 = .ok (.getstatic 22, 3) := by decide +kernel
theorem d1_43 : decode method_2_code 43 = .ok (.areturn, 1) := by decide +kernel
theorem d1_44 : decode method_2_code 44 = .ok (.iload_n 0, 1) := by decide +kernel
theorem d1_45 : decode method_2_code 45 = .ok (.iconst 5, 1) := by decide +kernel
theorem d1_46 : decode method_2_code 46 = .ok (.if_icmp .ne 7, 3) := by decide +kernel
theorem d1_49 : decode method_2_code 49 = .ok (.getstatic 25, 3) := by decide +kernel
theorem d1_52 : decode method_2_code 52 = .ok (.areturn, 1) := by decide +kernel
theorem d1_53 : decode method_2_code 53 = .ok (.iload_n 0, 1) := by decide +kernel
theorem d1_54 : decode method_2_code 54 = .ok (.bipush 6, 2) := by decide +kernel
theorem d1_56 : decode method_2_code 56 = .ok (.if_icmp .ne 7, 3) := by decide +kernel
theorem d1_59 : decode method_2_code 59 = .ok (.getstatic 28, 3) := by decide +kernel
theorem d1_62 : decode method_2_code 62 = .ok (.areturn, 1) := by decide +kernel
theorem d1_63 : decode method_2_code 63 = .ok (.iload_n 0, 1) := by decide +kernel
theorem d1_64 : decode method_2_code 64 = .ok (.bipush 7, 2) := by decide +kernel
theorem d1_66 : decode method_2_code 66 = .ok (.if_icmp .ne 7, 3) := by decide +kernel
theorem d1_69 : decode method_2_code 69 = .ok (.getstatic 31, 3) := by decide +kernel
theorem d1_72 : decode method_2_code 72 = .ok (.areturn, 1) := by decide +kernel
theorem d1_73 : decode method_2_code 73 = .ok (.iload_n 0, 1) := by decide +kernel
theorem d1_74 : decode method_2_code 74 = .ok (.bipush 8, 2) := by decide +kernel
theorem d1_76 : decode method_2_code 76 = .ok (.if_icmp .ne 7, 3) := by decide +kernel
theorem d1_79 : decode method_2_code 79 = .ok (.getstatic 34, 3) := by decide +kernel
theorem d1_82 : decode method_2_code 82 = .ok (.areturn, 1) := by decide +kernel
theorem d1_83 : decode method_2_code 83 = .ok (.iload_n 0, 1) := by decide +kernel
theorem d1_84 : decode method_2_code 84 = .ok (.bipush 9, 2) := by decide +kernel
theorem d1_86 : decode method_2_code 86 = .ok (.if_icmp .ne 7, 3) := by decide +kernel
theorem d1_89 : decode method_2_code 89 = .ok (.getstatic 37, 3) := by decide +kernel
theorem d1_92 : decode method_2_code 92 = .ok (.areturn, 1) := by decide +kernel
theorem d1_93 : decode method_2_code 93 = .ok (.iload_n 0, 1) := by decide +kernel
theorem d1_94 : decode method_2_code 94 = .ok (.bipush 10, 2) := by decide +kernel
theorem d1_96 : decode method_2_code 96 = .ok (.if_icmp .ne 7, 3) := by decide +kernel
theorem d1_99 : decode method_2_code 99 = .ok (.getstatic 40, 3) := by decide +kernel
theorem d1_102 : decode method_2_code 102 = .ok (.areturn, 1) := by decide +kernel
theorem d1_103 : decode method_2_code 103 = .ok (.iload_n 0, 1) := by decide +kernel
theorem d1_104 : decode method_2_code 104 = .ok (.bipush 11, 2) := by decide +kernel
theorem d1_106 : decode method_2_code 106 = .ok (.if_icmp .ne 7, 3) := by decide +kernel
theorem d1_109 : decode method_2_code 109 = .ok (.getstatic 43, 3) := by decide +kernel
theorem d1_112 : decode method_2_code 112 = .ok (.areturn, 1) := by decide +kernel
theorem d1_113 : decode method_2_code 113 = .ok (.iload_n 0, 1) := by decide +kernel
theorem d1_114 : decode method_2_code 114 = .ok (.bipush 12, 2) := by decide +kernel
theorem d1_116 : decode method_2_code 116 = .ok (.if_icmp .ne 7, 3) := by decide +kernel
theorem d1_119 : decode method_2_code 119 = .ok (.getstatic 46, 3) := by decide +kernel
theorem d1_122 : decode method_2_code 122 = .ok (.areturn, 1) := by decide +kernel
theorem d1_123 : decode method_2_code 123 = .ok (.iload_n 0, 1) := by decide +kernel
theorem d1_124 : decode method_2_code 124 = .ok (.bipush 13, 2) := by decide +kernel
theorem d1_126 : decode method_2_code 126 = .ok (.if_icmp .ne 7, 3) := by decide +kernel
theorem d1_129 : decode method_2_code 129 = .ok (.getstatic 49, 3) := by decide +kernel
theorem d1_132 : decode method_2_code 132 = .ok (.areturn, 1) := by decide +kernel
theorem d1_133 : decode method_2_code 133 = .ok (.iload_n 0, 1) := by decide +kernel
theorem d1_134 : decode method_2_code 134 = .ok (.bipush 14, 2) := by decide +kernel
theorem d1_136 : decode method_2_code 136 = .ok (.if_icmp .ne 7, 3) := by decide +kernel
theorem d1_139 : decode method_2_code 139 = .ok (.getstatic 52, 3) := by decide +kernel
theorem d1_142 : decode method_2_code 142 = .ok (.areturn, 1) := by decide +kernel
theorem d1_143 : decode method_2_code 143 = .ok (.iload_n 0, 1) := by decide +kernel
theorem d1_144 : decode method_2_code 144 = .ok (.bipush 15, 2) := by decide +kernel
theorem d1_146 : decode method_2_code 146 = .ok (.if_icmp .ne 7, 3) := by decide +kernel
theorem d1_149 : decode method_2_code 149 = .ok (.getstatic 55, 3) := by decide +kernel
theorem d1_152 : decode method_2_code 152 = .ok (.areturn, 1) := by decide +kernel
theorem d1_153 : decode method_2_code 153 = .ok (.iload_n 0, 1) := by decide +kernel
theorem d1_154 : decode method_2_code 154 = .ok (.bipush 16, 2) := by decide +kernel
theorem d1_156 : decode method_2_code 156 = .ok (.if_icmp .ne 7, 3) := by decide +kernel
theorem d1_159 : decode method_2_code 159 = .ok (.getstatic 58, 3) := by decide +kernel
theorem d1_162 : decode method_2_code 162 = .ok (.areturn, 1) := by decide +kernel
theorem d1_163 : decode method_2_code 163 = .ok (.iload_n 0, 1) := by decide +kernel
theorem d1_164 : decode method_2_code 164 = .ok (.bipush 17, 2) := by decide +kernel
theorem d1_166 : decode method_2_code 166 = .ok (.if_icmp .ne 7, 3) := by decide +kernel
theorem d1_169 : decode method_2_code 169 = .ok (.getstatic 61, 3) := by decide +kernel
theorem d1_172 : decode method_2_code 172 = .ok (.areturn, 1) := by decide +kernel
theorem d1_173 : decode method_2_code 173 = .ok (.getstatic 64, 3) := by decide +kernel
theorem d1_176 : decode method_2_code 176 = .ok (.areturn, 1) := by decide +kernel
theorem pn_0 : plainName "com/example/tally/tally/XPathFunctionUsesPositionPinLaw" = true := by first | (simp [plainName, overriddenIn]; done) | decide +kernel
theorem ef_1 (m : MethodId) (x0 : Int32) : entryFrame m #[(.int x0)] 1 = mkF m 0 #[.val (.int x0)] [] := by first | (simp [entryFrame, mkF, argsToLocals, Value.category]; done) | rfl
def Q1 (Z : State) (p1 : Int32) (W : Int32 → Addr) (h0 : Heap) (n0 : Nat) (v : Option Value) (h : Heap) (L : List Loc) : Prop := v = some (.ref (W p1)) ∧ Fr n0 L ∧ h = h0
set_option maxRecDepth 65536 in
set_option maxHeartbeats 40000000 in
theorem rm1 (l : Launch) (Z : State) (a0 : Array Value) (hw : ∀ d ∈ tables_1, d.before a0 Z = true) (ws : List Jvm.Cond) (p1 : Int32) (W : Int32 → Addr) (h0 : Heap) (n0 : Nat) (Z0 : n0 ≤ h0.size) (EW : WS Z h0 W) (hk1 : 0 ≤ p1.toInt) (hk2 : p1.toInt ≤ 18) :
    MetFree l (⟨"com/example/tally/tally/XPathFunctionUsesPositionPinLaw", "pick", "(I)Lcom/example/tally/tally/XPathFunction;"⟩ : MethodName) (head1 (Jvm.Cond.code (⟨"com/example/tally/tally/XPathFunctionUsesPositionPinLaw", "pick", "(I)Lcom/example/tally/tally/XPathFunction;"⟩ : MethodName) method_2_code 1 (some (.object "com/example/tally/tally/XPathFunction")) :: ws) ({ frames := 0, cells := 0, slots := 0, locals := 0 } : Room)) (fun a U => a = #[(.int p1)] ∧ Z.Warmed39 U.vm ∧ U.heap = h0) (fun _ _ _ _ _ => True) (fun _ U o U' => ∃ v L, o = .returned v ∧ Q1 Z p1 W h0 n0 v U'.heap L ∧ FrameEnd U o U' L ({ frames := 0, cells := 0, slots := 0, locals := 0 } : Room).cells ({ frames := 0, cells := 0, slots := 0, locals := 0 } : Room).slots) := by
  refine MetFree.of_bodySF (plainFor_of_name pn_0) hisR ?_
  intro p e s m args below meth c s₁ Bd hml0 hP hK
  obtain ⟨rfl, hZ, hh⟩ := hP
  have hx := Bd.exec
  have hby := Bd.bytes
  have hlk : meth.locks = false := BodyLoose.notSynchronized Bd
  have hml : c.maxLocals = 1 := hml0
  have hown : s.vm.findClass "com/example/tally/tally/XPathFunctionUsesPositionPinLaw" = some m.cls := findClass_of_methodNamed Bd.named
  have hnm := (name_of_methodNamed Bd.named Bd.method).1
  have X0 : Stand p l e ({ frames := 0, cells := 0, slots := 0, locals := 0 } : Room) s m #[(.int p1)] below meth c s₁ [] 0 0 := Stand.of_body Bd
  have e0 : s₁.heap = h0 := by rw [← hh, Bd.state]; rfl
  have N0 := Fr.nil n0
  show Go p e below (Kf s (Q1 Z p1 W h0 n0) ({ frames := 0, cells := 0, slots := 0, locals := 0 } : Room).cells ({ frames := 0, cells := 0, slots := 0, locals := 0 } : Room).slots) (s₁.setTop (entryFrame m #[(.int p1)] 1))
  refine own_s (B := s₁.setTop (mkF m 0 #[.val (.int p1)] [])) (fun t k => castTop (ef_1 m p1) k) ?_
  refine own_s (B := s₁.setTop (mkF m 1 #[.val (.int p1)] [(.int p1)])) (fun t k => XS.iloadN X0.here hx rfl (hb hby d1_0) rfl k) ?_
  by_cases hc1 : p1 = (0 : Int32)
  · refine own_s (B := s₁.setTop (mkF m 4 #[.val (.int p1)] [])) (fun t k => XS.ifNo X0.here hx rfl (hb hby d1_1) rfl ((if0 _ _).trans (teq hc1).2) k) ?_
    obtain ⟨T1, X1, e1, st1⟩ := getS2 X0 hx hZ hown (host := "") (Or.inl (hw _ (List.mem_of_getElem? (i := 5) rfl))) Via.refl e0 EW.1 (g := (mkF m 4 #[.val (.int p1)] [])) rfl (hb hby d1_4)
    refine own_s (B := T1.setTop (mkF m 7 #[.val (.int p1)] [(.ref (W (0 : Int32)))])) st1 ?_
    exact own_retR X1 hx hlk Bd.returns rfl rfl (hb hby d1_7) (by decide) (by decide) ⟨own_r (by rw [hc1]), N0, e1⟩
  · refine own_s (B := s₁.setTop (mkF m 8 #[.val (.int p1)] [])) (fun t k => XS.ifYes X0.here hx rfl (pc0 := 1) (pc' := 8) rfl (hb hby d1_1) rfl ((if0 _ _).trans (feq hc1).2) (by decide) (by decide) k) ?_
    refine own_s (B := s₁.setTop (mkF m 9 #[.val (.int p1)] [(.int p1)])) (fun t k => XS.iloadN X0.here hx rfl (hb hby d1_8) rfl k) ?_
    refine own_s (B := s₁.setTop (mkF m 10 #[.val (.int p1)] [(.int (1 : Int32)), (.int p1)])) (fun t k => XS.iconst X0.here hx rfl (hb hby d1_9) k) ?_
    by_cases hc10 : p1 = (1 : Int32)
    · refine own_s (B := s₁.setTop (mkF m 13 #[.val (.int p1)] [])) (fun t k => XS.icmpNo X0.here hx rfl (hb hby d1_10) rfl (teq hc10).2 k) ?_
      obtain ⟨T2, X2, e2, st2⟩ := getS2 X0 hx hZ hown (host := "") (Or.inl (hw _ (List.mem_of_getElem? (i := 48) rfl))) Via.refl e0 EW.2.1 (g := (mkF m 13 #[.val (.int p1)] [])) rfl (hb hby d1_13)
      refine own_s (B := T2.setTop (mkF m 16 #[.val (.int p1)] [(.ref (W (1 : Int32)))])) st2 ?_
      exact own_retR X2 hx hlk Bd.returns rfl rfl (hb hby d1_16) (by decide) (by decide) ⟨own_r (by rw [hc10]), N0, e2⟩
    · refine own_s (B := s₁.setTop (mkF m 17 #[.val (.int p1)] [])) (fun t k => XS.icmpYes X0.here hx rfl (pc0 := 10) (pc' := 17) rfl (hb hby d1_10) rfl (feq hc10).2 (by decide) (by decide) k) ?_
      refine own_s (B := s₁.setTop (mkF m 18 #[.val (.int p1)] [(.int p1)])) (fun t k => XS.iloadN X0.here hx rfl (hb hby d1_17) rfl k) ?_
      refine own_s (B := s₁.setTop (mkF m 19 #[.val (.int p1)] [(.int (2 : Int32)), (.int p1)])) (fun t k => XS.iconst X0.here hx rfl (hb hby d1_18) k) ?_
      by_cases hc19 : p1 = (2 : Int32)
      · refine own_s (B := s₁.setTop (mkF m 22 #[.val (.int p1)] [])) (fun t k => XS.icmpNo X0.here hx rfl (hb hby d1_19) rfl (teq hc19).2 k) ?_
        obtain ⟨T3, X3, e3, st3⟩ := getS2 X0 hx hZ hown (host := "") (Or.inl (hw _ (List.mem_of_getElem? (i := 40) rfl))) Via.refl e0 EW.2.2.1 (g := (mkF m 22 #[.val (.int p1)] [])) rfl (hb hby d1_22)
        refine own_s (B := T3.setTop (mkF m 25 #[.val (.int p1)] [(.ref (W (2 : Int32)))])) st3 ?_
        exact own_retR X3 hx hlk Bd.returns rfl rfl (hb hby d1_25) (by decide) (by decide) ⟨own_r (by rw [hc19]), N0, e3⟩
      · refine own_s (B := s₁.setTop (mkF m 26 #[.val (.int p1)] [])) (fun t k => XS.icmpYes X0.here hx rfl (pc0 := 19) (pc' := 26) rfl (hb hby d1_19) rfl (feq hc19).2 (by decide) (by decide) k) ?_
        refine own_s (B := s₁.setTop (mkF m 27 #[.val (.int p1)] [(.int p1)])) (fun t k => XS.iloadN X0.here hx rfl (hb hby d1_26) rfl k) ?_
        refine own_s (B := s₁.setTop (mkF m 28 #[.val (.int p1)] [(.int (3 : Int32)), (.int p1)])) (fun t k => XS.iconst X0.here hx rfl (hb hby d1_27) k) ?_
        by_cases hc28 : p1 = (3 : Int32)
        · refine own_s (B := s₁.setTop (mkF m 31 #[.val (.int p1)] [])) (fun t k => XS.icmpNo X0.here hx rfl (hb hby d1_28) rfl (teq hc28).2 k) ?_
          obtain ⟨T4, X4, e4, st4⟩ := getS2 X0 hx hZ hown (host := "") (Or.inl (hw _ (List.mem_of_getElem? (i := 28) rfl))) Via.refl e0 EW.2.2.2.1 (g := (mkF m 31 #[.val (.int p1)] [])) rfl (hb hby d1_31)
          refine own_s (B := T4.setTop (mkF m 34 #[.val (.int p1)] [(.ref (W (3 : Int32)))])) st4 ?_
          exact own_retR X4 hx hlk Bd.returns rfl rfl (hb hby d1_34) (by decide) (by decide) ⟨own_r (by rw [hc28]), N0, e4⟩
        · refine own_s (B := s₁.setTop (mkF m 35 #[.val (.int p1)] [])) (fun t k => XS.icmpYes X0.here hx rfl (pc0 := 28) (pc' := 35) rfl (hb hby d1_28) rfl (feq hc28).2 (by decide) (by decide) k) ?_
          refine own_s (B := s₁.setTop (mkF m 36 #[.val (.int p1)] [(.int p1)])) (fun t k => XS.iloadN X0.here hx rfl (hb hby d1_35) rfl k) ?_
          refine own_s (B := s₁.setTop (mkF m 37 #[.val (.int p1)] [(.int (4 : Int32)), (.int p1)])) (fun t k => XS.iconst X0.here hx rfl (hb hby d1_36) k) ?_
          by_cases hc37 : p1 = (4 : Int32)
          · refine own_s (B := s₁.setTop (mkF m 40 #[.val (.int p1)] [])) (fun t k => XS.icmpNo X0.here hx rfl (hb hby d1_37) rfl (teq hc37).2 k) ?_
            obtain ⟨T5, X5, e5, st5⟩ := getS2 X0 hx hZ hown (host := "") (Or.inl (hw _ (List.mem_of_getElem? (i := 57) rfl))) Via.refl e0 EW.2.2.2.2.1 (g := (mkF m 40 #[.val (.int p1)] [])) rfl (hb hby d1_40)
            refine own_s (B := T5.setTop (mkF m 43 #[.val (.int p1)] [(.ref (W (4 : Int32)))])) st5 ?_
            exact own_retR X5 hx hlk Bd.returns rfl rfl (hb hby d1_43) (by decide) (by decide) ⟨own_r (by rw [hc37]), N0, e5⟩
          · refine own_s (B := s₁.setTop (mkF m 44 #[.val (.int p1)] [])) (fun t k => XS.icmpYes X0.here hx rfl (pc0 := 37) (pc' := 44) rfl (hb hby d1_37) rfl (feq hc37).2 (by decide) (by decide) k) ?_
            refine own_s (B := s₁.setTop (mkF m 45 #[.val (.int p1)] [(.int p1)])) (fun t k => XS.iloadN X0.here hx rfl (hb hby d1_44) rfl k) ?_
            refine own_s (B := s₁.setTop (mkF m 46 #[.val (.int p1)] [(.int (5 : Int32)), (.int p1)])) (fun t k => XS.iconst X0.here hx rfl (hb hby d1_45) k) ?_
            by_cases hc46 : p1 = (5 : Int32)
            · refine own_s (B := s₁.setTop (mkF m 49 #[.val (.int p1)] [])) (fun t k => XS.icmpNo X0.here hx rfl (hb hby d1_46) rfl (teq hc46).2 k) ?_
              obtain ⟨T6, X6, e6, st6⟩ := getS2 X0 hx hZ hown (host := "") (Or.inl (hw _ (List.mem_of_getElem? (i := 34) rfl))) Via.refl e0 EW.2.2.2.2.2.1 (g := (mkF m 49 #[.val (.int p1)] [])) rfl (hb hby d1_49)
              refine own_s (B := T6.setTop (mkF m 52 #[.val (.int p1)] [(.ref (W (5 : Int32)))])) st6 ?_
              exact own_retR X6 hx hlk Bd.returns rfl rfl (hb hby d1_52) (by decide) (by decide) ⟨own_r (by rw [hc46]), N0, e6⟩
            · refine own_s (B := s₁.setTop (mkF m 53 #[.val (.int p1)] [])) (fun t k => XS.icmpYes X0.here hx rfl (pc0 := 46) (pc' := 53) rfl (hb hby d1_46) rfl (feq hc46).2 (by decide) (by decide) k) ?_
              refine own_s (B := s₁.setTop (mkF m 54 #[.val (.int p1)] [(.int p1)])) (fun t k => XS.iloadN X0.here hx rfl (hb hby d1_53) rfl k) ?_
              refine own_s (B := s₁.setTop (mkF m 56 #[.val (.int p1)] [(.int (6 : Int32)), (.int p1)])) (fun t k => XS.bipush X0.here hx rfl (hb hby d1_54) k) ?_
              by_cases hc56 : p1 = (6 : Int32)
              · refine own_s (B := s₁.setTop (mkF m 59 #[.val (.int p1)] [])) (fun t k => XS.icmpNo X0.here hx rfl (hb hby d1_56) rfl (teq hc56).2 k) ?_
                obtain ⟨T7, X7, e7, st7⟩ := getS2 X0 hx hZ hown (host := "") (Or.inl (hw _ (List.mem_of_getElem? (i := 53) rfl))) Via.refl e0 EW.2.2.2.2.2.2.1 (g := (mkF m 59 #[.val (.int p1)] [])) rfl (hb hby d1_59)
                refine own_s (B := T7.setTop (mkF m 62 #[.val (.int p1)] [(.ref (W (6 : Int32)))])) st7 ?_
                exact own_retR X7 hx hlk Bd.returns rfl rfl (hb hby d1_62) (by decide) (by decide) ⟨own_r (by rw [hc56]), N0, e7⟩
              · refine own_s (B := s₁.setTop (mkF m 63 #[.val (.int p1)] [])) (fun t k => XS.icmpYes X0.here hx rfl (pc0 := 56) (pc' := 63) rfl (hb hby d1_56) rfl (feq hc56).2 (by decide) (by decide) k) ?_
                refine own_s (B := s₁.setTop (mkF m 64 #[.val (.int p1)] [(.int p1)])) (fun t k => XS.iloadN X0.here hx rfl (hb hby d1_63) rfl k) ?_
                refine own_s (B := s₁.setTop (mkF m 66 #[.val (.int p1)] [(.int (7 : Int32)), (.int p1)])) (fun t k => XS.bipush X0.here hx rfl (hb hby d1_64) k) ?_
                by_cases hc66 : p1 = (7 : Int32)
                · refine own_s (B := s₁.setTop (mkF m 69 #[.val (.int p1)] [])) (fun t k => XS.icmpNo X0.here hx rfl (hb hby d1_66) rfl (teq hc66).2 k) ?_
                  obtain ⟨T8, X8, e8, st8⟩ := getS2 X0 hx hZ hown (host := "") (Or.inl (hw _ (List.mem_of_getElem? (i := 38) rfl))) Via.refl e0 EW.2.2.2.2.2.2.2.1 (g := (mkF m 69 #[.val (.int p1)] [])) rfl (hb hby d1_69)
                  refine own_s (B := T8.setTop (mkF m 72 #[.val (.int p1)] [(.ref (W (7 : Int32)))])) st8 ?_
                  exact own_retR X8 hx hlk Bd.returns rfl rfl (hb hby d1_72) (by decide) (by decide) ⟨own_r (by rw [hc66]), N0, e8⟩
                · refine own_s (B := s₁.setTop (mkF m 73 #[.val (.int p1)] [])) (fun t k => XS.icmpYes X0.here hx rfl (pc0 := 66) (pc' := 73) rfl (hb hby d1_66) rfl (feq hc66).2 (by decide) (by decide) k) ?_
                  refine own_s (B := s₁.setTop (mkF m 74 #[.val (.int p1)] [(.int p1)])) (fun t k => XS.iloadN X0.here hx rfl (hb hby d1_73) rfl k) ?_
                  refine own_s (B := s₁.setTop (mkF m 76 #[.val (.int p1)] [(.int (8 : Int32)), (.int p1)])) (fun t k => XS.bipush X0.here hx rfl (hb hby d1_74) k) ?_
                  by_cases hc76 : p1 = (8 : Int32)
                  · refine own_s (B := s₁.setTop (mkF m 79 #[.val (.int p1)] [])) (fun t k => XS.icmpNo X0.here hx rfl (hb hby d1_76) rfl (teq hc76).2 k) ?_
                    obtain ⟨T9, X9, e9, st9⟩ := getS2 X0 hx hZ hown (host := "") (Or.inl (hw _ (List.mem_of_getElem? (i := 46) rfl))) Via.refl e0 EW.2.2.2.2.2.2.2.2.1 (g := (mkF m 79 #[.val (.int p1)] [])) rfl (hb hby d1_79)
                    refine own_s (B := T9.setTop (mkF m 82 #[.val (.int p1)] [(.ref (W (8 : Int32)))])) st9 ?_
                    exact own_retR X9 hx hlk Bd.returns rfl rfl (hb hby d1_82) (by decide) (by decide) ⟨own_r (by rw [hc76]), N0, e9⟩
                  · refine own_s (B := s₁.setTop (mkF m 83 #[.val (.int p1)] [])) (fun t k => XS.icmpYes X0.here hx rfl (pc0 := 76) (pc' := 83) rfl (hb hby d1_76) rfl (feq hc76).2 (by decide) (by decide) k) ?_
                    refine own_s (B := s₁.setTop (mkF m 84 #[.val (.int p1)] [(.int p1)])) (fun t k => XS.iloadN X0.here hx rfl (hb hby d1_83) rfl k) ?_
                    refine own_s (B := s₁.setTop (mkF m 86 #[.val (.int p1)] [(.int (9 : Int32)), (.int p1)])) (fun t k => XS.bipush X0.here hx rfl (hb hby d1_84) k) ?_
                    by_cases hc86 : p1 = (9 : Int32)
                    · refine own_s (B := s₁.setTop (mkF m 89 #[.val (.int p1)] [])) (fun t k => XS.icmpNo X0.here hx rfl (hb hby d1_86) rfl (teq hc86).2 k) ?_
                      obtain ⟨T10, X10, e10, st10⟩ := getS2 X0 hx hZ hown (host := "") (Or.inl (hw _ (List.mem_of_getElem? (i := 59) rfl))) Via.refl e0 EW.2.2.2.2.2.2.2.2.2.1 (g := (mkF m 89 #[.val (.int p1)] [])) rfl (hb hby d1_89)
                      refine own_s (B := T10.setTop (mkF m 92 #[.val (.int p1)] [(.ref (W (9 : Int32)))])) st10 ?_
                      exact own_retR X10 hx hlk Bd.returns rfl rfl (hb hby d1_92) (by decide) (by decide) ⟨own_r (by rw [hc86]), N0, e10⟩
                    · refine own_s (B := s₁.setTop (mkF m 93 #[.val (.int p1)] [])) (fun t k => XS.icmpYes X0.here hx rfl (pc0 := 86) (pc' := 93) rfl (hb hby d1_86) rfl (feq hc86).2 (by decide) (by decide) k) ?_
                      refine own_s (B := s₁.setTop (mkF m 94 #[.val (.int p1)] [(.int p1)])) (fun t k => XS.iloadN X0.here hx rfl (hb hby d1_93) rfl k) ?_
                      refine own_s (B := s₁.setTop (mkF m 96 #[.val (.int p1)] [(.int (10 : Int32)), (.int p1)])) (fun t k => XS.bipush X0.here hx rfl (hb hby d1_94) k) ?_
                      by_cases hc96 : p1 = (10 : Int32)
                      · refine own_s (B := s₁.setTop (mkF m 99 #[.val (.int p1)] [])) (fun t k => XS.icmpNo X0.here hx rfl (hb hby d1_96) rfl (teq hc96).2 k) ?_
                        obtain ⟨T11, X11, e11, st11⟩ := getS2 X0 hx hZ hown (host := "") (Or.inl (hw _ (List.mem_of_getElem? (i := 44) rfl))) Via.refl e0 EW.2.2.2.2.2.2.2.2.2.2.1 (g := (mkF m 99 #[.val (.int p1)] [])) rfl (hb hby d1_99)
                        refine own_s (B := T11.setTop (mkF m 102 #[.val (.int p1)] [(.ref (W (10 : Int32)))])) st11 ?_
                        exact own_retR X11 hx hlk Bd.returns rfl rfl (hb hby d1_102) (by decide) (by decide) ⟨own_r (by rw [hc96]), N0, e11⟩
                      · refine own_s (B := s₁.setTop (mkF m 103 #[.val (.int p1)] [])) (fun t k => XS.icmpYes X0.here hx rfl (pc0 := 96) (pc' := 103) rfl (hb hby d1_96) rfl (feq hc96).2 (by decide) (by decide) k) ?_
                        refine own_s (B := s₁.setTop (mkF m 104 #[.val (.int p1)] [(.int p1)])) (fun t k => XS.iloadN X0.here hx rfl (hb hby d1_103) rfl k) ?_
                        refine own_s (B := s₁.setTop (mkF m 106 #[.val (.int p1)] [(.int (11 : Int32)), (.int p1)])) (fun t k => XS.bipush X0.here hx rfl (hb hby d1_104) k) ?_
                        by_cases hc106 : p1 = (11 : Int32)
                        · refine own_s (B := s₁.setTop (mkF m 109 #[.val (.int p1)] [])) (fun t k => XS.icmpNo X0.here hx rfl (hb hby d1_106) rfl (teq hc106).2 k) ?_
                          obtain ⟨T12, X12, e12, st12⟩ := getS2 X0 hx hZ hown (host := "") (Or.inl (hw _ (List.mem_of_getElem? (i := 42) rfl))) Via.refl e0 EW.2.2.2.2.2.2.2.2.2.2.2.1 (g := (mkF m 109 #[.val (.int p1)] [])) rfl (hb hby d1_109)
                          refine own_s (B := T12.setTop (mkF m 112 #[.val (.int p1)] [(.ref (W (11 : Int32)))])) st12 ?_
                          exact own_retR X12 hx hlk Bd.returns rfl rfl (hb hby d1_112) (by decide) (by decide) ⟨own_r (by rw [hc106]), N0, e12⟩
                        · refine own_s (B := s₁.setTop (mkF m 113 #[.val (.int p1)] [])) (fun t k => XS.icmpYes X0.here hx rfl (pc0 := 106) (pc' := 113) rfl (hb hby d1_106) rfl (feq hc106).2 (by decide) (by decide) k) ?_
                          refine own_s (B := s₁.setTop (mkF m 114 #[.val (.int p1)] [(.int p1)])) (fun t k => XS.iloadN X0.here hx rfl (hb hby d1_113) rfl k) ?_
                          refine own_s (B := s₁.setTop (mkF m 116 #[.val (.int p1)] [(.int (12 : Int32)), (.int p1)])) (fun t k => XS.bipush X0.here hx rfl (hb hby d1_114) k) ?_
                          by_cases hc116 : p1 = (12 : Int32)
                          · refine own_s (B := s₁.setTop (mkF m 119 #[.val (.int p1)] [])) (fun t k => XS.icmpNo X0.here hx rfl (hb hby d1_116) rfl (teq hc116).2 k) ?_
                            obtain ⟨T13, X13, e13, st13⟩ := getS2 X0 hx hZ hown (host := "") (Or.inl (hw _ (List.mem_of_getElem? (i := 61) rfl))) Via.refl e0 EW.2.2.2.2.2.2.2.2.2.2.2.2.1 (g := (mkF m 119 #[.val (.int p1)] [])) rfl (hb hby d1_119)
                            refine own_s (B := T13.setTop (mkF m 122 #[.val (.int p1)] [(.ref (W (12 : Int32)))])) st13 ?_
                            exact own_retR X13 hx hlk Bd.returns rfl rfl (hb hby d1_122) (by decide) (by decide) ⟨own_r (by rw [hc116]), N0, e13⟩
                          · refine own_s (B := s₁.setTop (mkF m 123 #[.val (.int p1)] [])) (fun t k => XS.icmpYes X0.here hx rfl (pc0 := 116) (pc' := 123) rfl (hb hby d1_116) rfl (feq hc116).2 (by decide) (by decide) k) ?_
                            refine own_s (B := s₁.setTop (mkF m 124 #[.val (.int p1)] [(.int p1)])) (fun t k => XS.iloadN X0.here hx rfl (hb hby d1_123) rfl k) ?_
                            refine own_s (B := s₁.setTop (mkF m 126 #[.val (.int p1)] [(.int (13 : Int32)), (.int p1)])) (fun t k => XS.bipush X0.here hx rfl (hb hby d1_124) k) ?_
                            by_cases hc126 : p1 = (13 : Int32)
                            · refine own_s (B := s₁.setTop (mkF m 129 #[.val (.int p1)] [])) (fun t k => XS.icmpNo X0.here hx rfl (hb hby d1_126) rfl (teq hc126).2 k) ?_
                              obtain ⟨T14, X14, e14, st14⟩ := getS2 X0 hx hZ hown (host := "") (Or.inl (hw _ (List.mem_of_getElem? (i := 63) rfl))) Via.refl e0 EW.2.2.2.2.2.2.2.2.2.2.2.2.2.1 (g := (mkF m 129 #[.val (.int p1)] [])) rfl (hb hby d1_129)
                              refine own_s (B := T14.setTop (mkF m 132 #[.val (.int p1)] [(.ref (W (13 : Int32)))])) st14 ?_
                              exact own_retR X14 hx hlk Bd.returns rfl rfl (hb hby d1_132) (by decide) (by decide) ⟨own_r (by rw [hc126]), N0, e14⟩
                            · refine own_s (B := s₁.setTop (mkF m 133 #[.val (.int p1)] [])) (fun t k => XS.icmpYes X0.here hx rfl (pc0 := 126) (pc' := 133) rfl (hb hby d1_126) rfl (feq hc126).2 (by decide) (by decide) k) ?_
                              refine own_s (B := s₁.setTop (mkF m 134 #[.val (.int p1)] [(.int p1)])) (fun t k => XS.iloadN X0.here hx rfl (hb hby d1_133) rfl k) ?_
                              refine own_s (B := s₁.setTop (mkF m 136 #[.val (.int p1)] [(.int (14 : Int32)), (.int p1)])) (fun t k => XS.bipush X0.here hx rfl (hb hby d1_134) k) ?_
                              by_cases hc136 : p1 = (14 : Int32)
                              · refine own_s (B := s₁.setTop (mkF m 139 #[.val (.int p1)] [])) (fun t k => XS.icmpNo X0.here hx rfl (hb hby d1_136) rfl (teq hc136).2 k) ?_
                                obtain ⟨T15, X15, e15, st15⟩ := getS2 X0 hx hZ hown (host := "") (Or.inl (hw _ (List.mem_of_getElem? (i := 49) rfl))) Via.refl e0 EW.2.2.2.2.2.2.2.2.2.2.2.2.2.2.1 (g := (mkF m 139 #[.val (.int p1)] [])) rfl (hb hby d1_139)
                                refine own_s (B := T15.setTop (mkF m 142 #[.val (.int p1)] [(.ref (W (14 : Int32)))])) st15 ?_
                                exact own_retR X15 hx hlk Bd.returns rfl rfl (hb hby d1_142) (by decide) (by decide) ⟨own_r (by rw [hc136]), N0, e15⟩
                              · refine own_s (B := s₁.setTop (mkF m 143 #[.val (.int p1)] [])) (fun t k => XS.icmpYes X0.here hx rfl (pc0 := 136) (pc' := 143) rfl (hb hby d1_136) rfl (feq hc136).2 (by decide) (by decide) k) ?_
                                refine own_s (B := s₁.setTop (mkF m 144 #[.val (.int p1)] [(.int p1)])) (fun t k => XS.iloadN X0.here hx rfl (hb hby d1_143) rfl k) ?_
                                refine own_s (B := s₁.setTop (mkF m 146 #[.val (.int p1)] [(.int (15 : Int32)), (.int p1)])) (fun t k => XS.bipush X0.here hx rfl (hb hby d1_144) k) ?_
                                by_cases hc146 : p1 = (15 : Int32)
                                · refine own_s (B := s₁.setTop (mkF m 149 #[.val (.int p1)] [])) (fun t k => XS.icmpNo X0.here hx rfl (hb hby d1_146) rfl (teq hc146).2 k) ?_
                                  obtain ⟨T16, X16, e16, st16⟩ := getS2 X0 hx hZ hown (host := "") (Or.inl (hw _ (List.mem_of_getElem? (i := 32) rfl))) Via.refl e0 EW.2.2.2.2.2.2.2.2.2.2.2.2.2.2.2.1 (g := (mkF m 149 #[.val (.int p1)] [])) rfl (hb hby d1_149)
                                  refine own_s (B := T16.setTop (mkF m 152 #[.val (.int p1)] [(.ref (W (15 : Int32)))])) st16 ?_
                                  exact own_retR X16 hx hlk Bd.returns rfl rfl (hb hby d1_152) (by decide) (by decide) ⟨own_r (by rw [hc146]), N0, e16⟩
                                · refine own_s (B := s₁.setTop (mkF m 153 #[.val (.int p1)] [])) (fun t k => XS.icmpYes X0.here hx rfl (pc0 := 146) (pc' := 153) rfl (hb hby d1_146) rfl (feq hc146).2 (by decide) (by decide) k) ?_
                                  refine own_s (B := s₁.setTop (mkF m 154 #[.val (.int p1)] [(.int p1)])) (fun t k => XS.iloadN X0.here hx rfl (hb hby d1_153) rfl k) ?_
                                  refine own_s (B := s₁.setTop (mkF m 156 #[.val (.int p1)] [(.int (16 : Int32)), (.int p1)])) (fun t k => XS.bipush X0.here hx rfl (hb hby d1_154) k) ?_
                                  by_cases hc156 : p1 = (16 : Int32)
                                  · refine own_s (B := s₁.setTop (mkF m 159 #[.val (.int p1)] [])) (fun t k => XS.icmpNo X0.here hx rfl (hb hby d1_156) rfl (teq hc156).2 k) ?_
                                    obtain ⟨T17, X17, e17, st17⟩ := getS2 X0 hx hZ hown (host := "") (Or.inl (hw _ (List.mem_of_getElem? (i := 55) rfl))) Via.refl e0 EW.2.2.2.2.2.2.2.2.2.2.2.2.2.2.2.2.1 (g := (mkF m 159 #[.val (.int p1)] [])) rfl (hb hby d1_159)
                                    refine own_s (B := T17.setTop (mkF m 162 #[.val (.int p1)] [(.ref (W (16 : Int32)))])) st17 ?_
                                    exact own_retR X17 hx hlk Bd.returns rfl rfl (hb hby d1_162) (by decide) (by decide) ⟨own_r (by rw [hc156]), N0, e17⟩
                                  · refine own_s (B := s₁.setTop (mkF m 163 #[.val (.int p1)] [])) (fun t k => XS.icmpYes X0.here hx rfl (pc0 := 156) (pc' := 163) rfl (hb hby d1_156) rfl (feq hc156).2 (by decide) (by decide) k) ?_
                                    refine own_s (B := s₁.setTop (mkF m 164 #[.val (.int p1)] [(.int p1)])) (fun t k => XS.iloadN X0.here hx rfl (hb hby d1_163) rfl k) ?_
                                    refine own_s (B := s₁.setTop (mkF m 166 #[.val (.int p1)] [(.int (17 : Int32)), (.int p1)])) (fun t k => XS.bipush X0.here hx rfl (hb hby d1_164) k) ?_
                                    by_cases hc166 : p1 = (17 : Int32)
                                    · refine own_s (B := s₁.setTop (mkF m 169 #[.val (.int p1)] [])) (fun t k => XS.icmpNo X0.here hx rfl (hb hby d1_166) rfl (teq hc166).2 k) ?_
                                      obtain ⟨T18, X18, e18, st18⟩ := getS2 X0 hx hZ hown (host := "") (Or.inl (hw _ (List.mem_of_getElem? (i := 36) rfl))) Via.refl e0 EW.2.2.2.2.2.2.2.2.2.2.2.2.2.2.2.2.2.1 (g := (mkF m 169 #[.val (.int p1)] [])) rfl (hb hby d1_169)
                                      refine own_s (B := T18.setTop (mkF m 172 #[.val (.int p1)] [(.ref (W (17 : Int32)))])) st18 ?_
                                      exact own_retR X18 hx hlk Bd.returns rfl rfl (hb hby d1_172) (by decide) (by decide) ⟨own_r (by rw [hc166]), N0, e18⟩
                                    · refine own_s (B := s₁.setTop (mkF m 173 #[.val (.int p1)] [])) (fun t k => XS.icmpYes X0.here hx rfl (pc0 := 166) (pc' := 173) rfl (hb hby d1_166) rfl (feq hc166).2 (by decide) (by decide) k) ?_
                                      obtain ⟨T19, X19, e19, st19⟩ := getS2 X0 hx hZ hown (host := "") (Or.inl (hw _ (List.mem_of_getElem? (i := 51) rfl))) Via.refl e0 EW.2.2.2.2.2.2.2.2.2.2.2.2.2.2.2.2.2.2 (g := (mkF m 173 #[.val (.int p1)] [])) rfl (hb hby d1_173)
                                      refine own_s (B := T19.setTop (mkF m 176 #[.val (.int p1)] [(.ref (W (18 : Int32)))])) st19 ?_
                                      exact own_retR X19 hx hlk Bd.returns rfl rfl (hb hby d1_176) (by decide) (by decide) ⟨own_r (by rcases own_rg_0_18 hk1 hk2 with q | q | q | q | q | q | q | q | q | q | q | q | q | q | q | q | q | q | q <;> first | exact absurd q hc1 | exact absurd q hc10 | exact absurd q hc19 | exact absurd q hc28 | exact absurd q hc37 | exact absurd q hc46 | exact absurd q hc56 | exact absurd q hc66 | exact absurd q hc76 | exact absurd q hc86 | exact absurd q hc96 | exact absurd q hc106 | exact absurd q hc116 | exact absurd q hc126 | exact absurd q hc136 | exact absurd q hc146 | exact absurd q hc156 | exact absurd q hc166 | rw [q]), N0, e19⟩
theorem d2_0 : decode prog_110_method_8_code 0 = .ok (.aload_n 0, 1) := by decide +kernel
theorem d2_1 : decode prog_110_method_8_code 1 = .ok (.getstatic 3, 3) := by decide +kernel
theorem d2_4 : decode prog_110_method_8_code 4 = .ok (.if_acmp .eq 10, 3) := by decide +kernel
theorem d2_7 : decode prog_110_method_8_code 7 = .ok (.aload_n 0, 1) := by decide +kernel
theorem d2_8 : decode prog_110_method_8_code 8 = .ok (.getstatic 7, 3) := by decide +kernel
theorem d2_11 : decode prog_110_method_8_code 11 = .ok (.if_acmp .ne 7, 3) := by decide +kernel
theorem d2_14 : decode prog_110_method_8_code 14 = .ok (.iconst 1, 1) := by decide +kernel
theorem d2_15 : decode prog_110_method_8_code 15 = .ok (.goto 4, 3) := by decide +kernel
theorem d2_18 : decode prog_110_method_8_code 18 = .ok (.iconst 0, 1) := by decide +kernel
theorem d2_19 : decode prog_110_method_8_code 19 = .ok (.ireturn, 1) := by decide +kernel
theorem pn_1 : plainName "com/example/tally/tally/XPathFunction" = true := by first | (simp [plainName, overriddenIn]; done) | decide +kernel
theorem ef_2 (m : MethodId) (x0 : Addr) : entryFrame m #[(.ref x0)] 1 = mkF m 0 #[.val (.ref x0)] [] := by first | (simp [entryFrame, mkF, argsToLocals, Value.category]; done) | rfl
def Q2 (Z : State) (a1 : Addr) (W : Int32 → Addr) (h0 : Heap) (n0 : Nat) (v : Option Value) (h : Heap) (L : List Loc) : Prop := v = some (.int (bz (a1 = W 0 ∨ a1 = W 1))) ∧ Fr n0 L ∧ h = h0
set_option maxRecDepth 65536 in
set_option maxHeartbeats 40000000 in
theorem rm2 (l : Launch) (Z : State) (a0 : Array Value) (hw : ∀ d ∈ tables_1, d.before a0 Z = true) (ws : List Jvm.Cond) (a1 : Addr) (W : Int32 → Addr) (h0 : Heap) (n0 : Nat) (Z0 : n0 ≤ h0.size) (EW : WS Z h0 W) :
    MetFree l (⟨"com/example/tally/tally/XPathFunction", "usesPosition", "()Z"⟩ : MethodName) (head1 (Jvm.Cond.code (⟨"com/example/tally/tally/XPathFunction", "usesPosition", "()Z"⟩ : MethodName) prog_110_method_8_code 1 (some .boolean) :: ws) ({ frames := 0, cells := 0, slots := 0, locals := 0 } : Room)) (fun a U => a = #[(.ref a1)] ∧ Z.Warmed39 U.vm ∧ U.heap = h0) (fun _ _ _ _ _ => True) (fun _ U o U' => ∃ v L, o = .returned v ∧ Q2 Z a1 W h0 n0 v U'.heap L ∧ FrameEnd U o U' L ({ frames := 0, cells := 0, slots := 0, locals := 0 } : Room).cells ({ frames := 0, cells := 0, slots := 0, locals := 0 } : Room).slots) := by
  refine MetFree.of_bodySF (plainFor_of_name pn_1) hisR ?_
  intro p e s m args below meth c s₁ Bd hml0 hP hK
  obtain ⟨rfl, hZ, hh⟩ := hP
  have hx := Bd.exec
  have hby := Bd.bytes
  have hlk : meth.locks = false := BodyLoose.notSynchronized Bd
  have hml : c.maxLocals = 1 := hml0
  have hown : s.vm.findClass "com/example/tally/tally/XPathFunction" = some m.cls := findClass_of_methodNamed Bd.named
  have hnm := (name_of_methodNamed Bd.named Bd.method).1
  have X0 : Stand p l e ({ frames := 0, cells := 0, slots := 0, locals := 0 } : Room) s m #[(.ref a1)] below meth c s₁ [] 0 0 := Stand.of_body Bd
  have e0 : s₁.heap = h0 := by rw [← hh, Bd.state]; rfl
  have N0 := Fr.nil n0
  show Go p e below (Kf s (Q2 Z a1 W h0 n0) ({ frames := 0, cells := 0, slots := 0, locals := 0 } : Room).cells ({ frames := 0, cells := 0, slots := 0, locals := 0 } : Room).slots) (s₁.setTop (entryFrame m #[(.ref a1)] 1))
  refine own_s (B := s₁.setTop (mkF m 0 #[.val (.ref a1)] [])) (fun t k => castTop (ef_2 m a1) k) ?_
  refine own_s (B := s₁.setTop (mkF m 1 #[.val (.ref a1)] [(.ref a1)])) (fun t k => XS.aloadN X0.here hx rfl (hb hby d2_0) rfl rfl k) ?_
  obtain ⟨T1, X1, e1, st1⟩ := getS2 X0 hx hZ hown (host := "") (Or.inl (hw _ (List.mem_of_getElem? (i := 13) rfl))) Via.refl e0 EW.1 (g := (mkF m 1 #[.val (.ref a1)] [(.ref a1)])) rfl (hb hby d2_1)
  refine own_s (B := T1.setTop (mkF m 4 #[.val (.ref a1)] [(.ref (W (0 : Int32))), (.ref a1)])) st1 ?_
  by_cases ha4 : a1 = (W (0 : Int32))
  · refine own_s (B := T1.setTop (mkF m 14 #[.val (.ref a1)] [])) (fun t k => Jvm.RoadKit.acmp (g := (mkF m 4 #[.val (.ref a1)] [(.ref (W (0 : Int32))), (.ref a1)])) X1 hx rfl rfl rfl (pc0 := 4) (pc' := 14) (same := true) rfl (hb hby d2_4) rfl (decide_eq_true (congrArg Value.ref ha4)) (by decide) (by decide) k) ?_
    refine own_s (B := T1.setTop (mkF m 15 #[.val (.ref a1)] [(.int (1 : Int32))])) (fun t k => XS.iconst X1.here hx rfl (hb hby d2_14) k) ?_
    refine own_s (B := T1.setTop (mkF m 19 #[.val (.ref a1)] [(.int (1 : Int32))])) (fun t k => XS.goto X1.here hx rfl (pc0 := 15) (pc' := 19) rfl (hb hby d2_15) (by decide) (by decide) k) ?_
    exact own_retB X1 hx hlk (t := .boolean) Bd.returns (by simp) (hb hby d2_19) (by decide) (by decide) ⟨own_t (Or.inl ha4), N0, e1⟩
  · refine own_s (B := T1.setTop (mkF m 7 #[.val (.ref a1)] [])) (fun t k => Jvm.RoadKit.acmp (g := (mkF m 4 #[.val (.ref a1)] [(.ref (W (0 : Int32))), (.ref a1)])) X1 hx rfl rfl rfl (pc0 := 4) (pc' := 7) (same := false) rfl (hb hby d2_4) rfl (decide_eq_false fun q => ha4 (Value.ref.inj q)) (by decide) (by decide) k) ?_
    refine own_s (B := T1.setTop (mkF m 8 #[.val (.ref a1)] [(.ref a1)])) (fun t k => XS.aloadN X1.here hx rfl (hb hby d2_7) rfl rfl k) ?_
    obtain ⟨T2, X2, e2, st2⟩ := getS2 X1 hx hZ hown (host := "") (Or.inl (hw _ (List.mem_of_getElem? (i := 30) rfl))) Via.refl e1 EW.2.1 (g := (mkF m 8 #[.val (.ref a1)] [(.ref a1)])) rfl (hb hby d2_8)
    refine own_s (B := T2.setTop (mkF m 11 #[.val (.ref a1)] [(.ref (W (1 : Int32))), (.ref a1)])) st2 ?_
    by_cases ha11 : a1 = (W (1 : Int32))
    · refine own_s (B := T2.setTop (mkF m 14 #[.val (.ref a1)] [])) (fun t k => Jvm.RoadKit.acmp (g := (mkF m 11 #[.val (.ref a1)] [(.ref (W (1 : Int32))), (.ref a1)])) X2 hx rfl rfl rfl (pc0 := 11) (pc' := 14) (same := true) rfl (hb hby d2_11) rfl (decide_eq_true (congrArg Value.ref ha11)) (by decide) (by decide) k) ?_
      refine own_s (B := T2.setTop (mkF m 15 #[.val (.ref a1)] [(.int (1 : Int32))])) (fun t k => XS.iconst X2.here hx rfl (hb hby d2_14) k) ?_
      refine own_s (B := T2.setTop (mkF m 19 #[.val (.ref a1)] [(.int (1 : Int32))])) (fun t k => XS.goto X2.here hx rfl (pc0 := 15) (pc' := 19) rfl (hb hby d2_15) (by decide) (by decide) k) ?_
      exact own_retB X2 hx hlk (t := .boolean) Bd.returns (by simp) (hb hby d2_19) (by decide) (by decide) ⟨own_t (Or.inr ha11), N0, e2⟩
    · refine own_s (B := T2.setTop (mkF m 18 #[.val (.ref a1)] [])) (fun t k => Jvm.RoadKit.acmp (g := (mkF m 11 #[.val (.ref a1)] [(.ref (W (1 : Int32))), (.ref a1)])) X2 hx rfl rfl rfl (pc0 := 11) (pc' := 18) (same := false) rfl (hb hby d2_11) rfl (decide_eq_false fun q => ha11 (Value.ref.inj q)) (by decide) (by decide) k) ?_
      refine own_s (B := T2.setTop (mkF m 19 #[.val (.ref a1)] [(.int (0 : Int32))])) (fun t k => XS.iconst X2.here hx rfl (hb hby d2_18) k) ?_
      exact own_retB X2 hx hlk (t := .boolean) Bd.returns (by simp) (hb hby d2_19) (by decide) (by decide) ⟨own_f (by simp only [ha4, ha11, or_false, not_false_eq_true]), N0, e2⟩
theorem d3_0 : decode prog_110_method_7_code 0 = .ok (.aload_n 0, 1) := by decide +kernel
theorem d3_1 : decode prog_110_method_7_code 1 = .ok (.getstatic 3, 3) := by decide +kernel
theorem d3_4 : decode prog_110_method_7_code 4 = .ok (.if_acmp .eq 31, 3) := by decide +kernel
theorem d3_7 : decode prog_110_method_7_code 7 = .ok (.aload_n 0, 1) := by decide +kernel
theorem d3_8 : decode prog_110_method_7_code 8 = .ok (.getstatic 7, 3) := by decide +kernel
theorem d3_11 : decode prog_110_method_7_code 11 = .ok (.if_acmp .eq 24, 3) := by decide +kernel
theorem d3_35 : decode prog_110_method_7_code 35 = .ok (.iconst 1, 1) := by decide +kernel
theorem d3_36 : decode prog_110_method_7_code 36 = .ok (.goto 4, 3) := by decide +kernel
theorem d3_40 : decode prog_110_method_7_code 40 = .ok (.ireturn, 1) := by decide +kernel
theorem ef_3 (m : MethodId) (x0 : Addr) : entryFrame m #[(.ref x0)] 1 = mkF m 0 #[.val (.ref x0)] [] := by first | (simp [entryFrame, mkF, argsToLocals, Value.category]; done) | rfl
def Q3 (Z : State) (a1 : Addr) (W : Int32 → Addr) (h0 : Heap) (n0 : Nat) (v : Option Value) (h : Heap) (L : List Loc) : Prop := v = some (.int (1 : Int32)) ∧ Fr n0 L ∧ h = h0
set_option maxRecDepth 65536 in
set_option maxHeartbeats 40000000 in
theorem rm3 (l : Launch) (Z : State) (a0 : Array Value) (hw : ∀ d ∈ tables_1, d.before a0 Z = true) (ws : List Jvm.Cond) (a1 : Addr) (W : Int32 → Addr) (h0 : Heap) (n0 : Nat) (Z0 : n0 ≤ h0.size) (EW : WS Z h0 W) (hor : a1 = W 0 ∨ a1 = W 1) :
    MetFree l (⟨"com/example/tally/tally/XPathFunction", "isNumeric", "()Z"⟩ : MethodName) (head1 (Jvm.Cond.code (⟨"com/example/tally/tally/XPathFunction", "isNumeric", "()Z"⟩ : MethodName) prog_110_method_7_code 1 (some .boolean) :: ws) ({ frames := 0, cells := 0, slots := 0, locals := 0 } : Room)) (fun a U => a = #[(.ref a1)] ∧ Z.Warmed39 U.vm ∧ U.heap = h0) (fun _ _ _ _ _ => True) (fun _ U o U' => ∃ v L, o = .returned v ∧ Q3 Z a1 W h0 n0 v U'.heap L ∧ FrameEnd U o U' L ({ frames := 0, cells := 0, slots := 0, locals := 0 } : Room).cells ({ frames := 0, cells := 0, slots := 0, locals := 0 } : Room).slots) := by
  refine MetFree.of_bodySF (plainFor_of_name pn_1) hisR ?_
  intro p e s m args below meth c s₁ Bd hml0 hP hK
  obtain ⟨rfl, hZ, hh⟩ := hP
  have hx := Bd.exec
  have hby := Bd.bytes
  have hlk : meth.locks = false := BodyLoose.notSynchronized Bd
  have hml : c.maxLocals = 1 := hml0
  have hown : s.vm.findClass "com/example/tally/tally/XPathFunction" = some m.cls := findClass_of_methodNamed Bd.named
  have hnm := (name_of_methodNamed Bd.named Bd.method).1
  have X0 : Stand p l e ({ frames := 0, cells := 0, slots := 0, locals := 0 } : Room) s m #[(.ref a1)] below meth c s₁ [] 0 0 := Stand.of_body Bd
  have e0 : s₁.heap = h0 := by rw [← hh, Bd.state]; rfl
  have N0 := Fr.nil n0
  show Go p e below (Kf s (Q3 Z a1 W h0 n0) ({ frames := 0, cells := 0, slots := 0, locals := 0 } : Room).cells ({ frames := 0, cells := 0, slots := 0, locals := 0 } : Room).slots) (s₁.setTop (entryFrame m #[(.ref a1)] 1))
  refine own_s (B := s₁.setTop (mkF m 0 #[.val (.ref a1)] [])) (fun t k => castTop (ef_3 m a1) k) ?_
  refine own_s (B := s₁.setTop (mkF m 1 #[.val (.ref a1)] [(.ref a1)])) (fun t k => XS.aloadN X0.here hx rfl (hb hby d3_0) rfl rfl k) ?_
  obtain ⟨T1, X1, e1, st1⟩ := getS2 X0 hx hZ hown (host := "") (Or.inl (hw _ (List.mem_of_getElem? (i := 13) rfl))) Via.refl e0 EW.1 (g := (mkF m 1 #[.val (.ref a1)] [(.ref a1)])) rfl (hb hby d3_1)
  refine own_s (B := T1.setTop (mkF m 4 #[.val (.ref a1)] [(.ref (W (0 : Int32))), (.ref a1)])) st1 ?_
  by_cases ha4 : a1 = (W (0 : Int32))
  · refine own_s (B := T1.setTop (mkF m 35 #[.val (.ref a1)] [])) (fun t k => Jvm.RoadKit.acmp (g := (mkF m 4 #[.val (.ref a1)] [(.ref (W (0 : Int32))), (.ref a1)])) X1 hx rfl rfl rfl (pc0 := 4) (pc' := 35) (same := true) rfl (hb hby d3_4) rfl (decide_eq_true (congrArg Value.ref ha4)) (by decide) (by decide) k) ?_
    refine own_s (B := T1.setTop (mkF m 36 #[.val (.ref a1)] [(.int (1 : Int32))])) (fun t k => XS.iconst X1.here hx rfl (hb hby d3_35) k) ?_
    refine own_s (B := T1.setTop (mkF m 40 #[.val (.ref a1)] [(.int (1 : Int32))])) (fun t k => XS.goto X1.here hx rfl (pc0 := 36) (pc' := 40) rfl (hb hby d3_36) (by decide) (by decide) k) ?_
    exact own_retB X1 hx hlk (t := .boolean) Bd.returns (by simp) (hb hby d3_40) (by decide) (by decide) ⟨rfl, N0, e1⟩
  · refine own_s (B := T1.setTop (mkF m 7 #[.val (.ref a1)] [])) (fun t k => Jvm.RoadKit.acmp (g := (mkF m 4 #[.val (.ref a1)] [(.ref (W (0 : Int32))), (.ref a1)])) X1 hx rfl rfl rfl (pc0 := 4) (pc' := 7) (same := false) rfl (hb hby d3_4) rfl (decide_eq_false fun q => ha4 (Value.ref.inj q)) (by decide) (by decide) k) ?_
    refine own_s (B := T1.setTop (mkF m 8 #[.val (.ref a1)] [(.ref a1)])) (fun t k => XS.aloadN X1.here hx rfl (hb hby d3_7) rfl rfl k) ?_
    obtain ⟨T2, X2, e2, st2⟩ := getS2 X1 hx hZ hown (host := "") (Or.inl (hw _ (List.mem_of_getElem? (i := 30) rfl))) Via.refl e1 EW.2.1 (g := (mkF m 8 #[.val (.ref a1)] [(.ref a1)])) rfl (hb hby d3_8)
    refine own_s (B := T2.setTop (mkF m 11 #[.val (.ref a1)] [(.ref (W (1 : Int32))), (.ref a1)])) st2 ?_
    refine own_s (B := T2.setTop (mkF m 35 #[.val (.ref a1)] [])) (fun t k => Jvm.RoadKit.acmp (g := (mkF m 11 #[.val (.ref a1)] [(.ref (W (1 : Int32))), (.ref a1)])) X2 hx rfl rfl rfl (pc0 := 11) (pc' := 35) (same := true) rfl (hb hby d3_11) rfl (decide_eq_true (congrArg Value.ref (hor.resolve_left ha4))) (by decide) (by decide) k) ?_
    refine own_s (B := T2.setTop (mkF m 36 #[.val (.ref a1)] [(.int (1 : Int32))])) (fun t k => XS.iconst X2.here hx rfl (hb hby d3_35) k) ?_
    refine own_s (B := T2.setTop (mkF m 40 #[.val (.ref a1)] [(.int (1 : Int32))])) (fun t k => XS.goto X2.here hx rfl (pc0 := 36) (pc' := 40) rfl (hb hby d3_36) (by decide) (by decide) k) ?_
    exact own_retB X2 hx hlk (t := .boolean) Bd.returns (by simp) (hb hby d3_40) (by decide) (by decide) ⟨rfl, N0, e2⟩
theorem d4_0 : decode prog_110_method_5_code 0 = .ok (.iload_n 1, 1) := by decide +kernel
theorem d4_1 : decode prog_110_method_5_code 1 = .ok (.aload_n 0, 1) := by decide +kernel
theorem d4_2 : decode prog_110_method_5_code 2 = .ok (.getfield 84, 3) := by decide +kernel
theorem d4_5 : decode prog_110_method_5_code 5 = .ok (.if_icmp .lt 15, 3) := by decide +kernel
theorem d4_8 : decode prog_110_method_5_code 8 = .ok (.iload_n 1, 1) := by decide +kernel
theorem d4_9 : decode prog_110_method_5_code 9 = .ok (.aload_n 0, 1) := by decide +kernel
theorem d4_10 : decode prog_110_method_5_code 10 = .ok (.getfield 88, 3) := by decide +kernel
theorem d4_13 : decode prog_110_method_5_code 13 = .ok (.if_icmp .gt 7, 3) := by decide +kernel
theorem d4_16 : decode prog_110_method_5_code 16 = .ok (.iconst 1, 1) := by decide +kernel
theorem d4_17 : decode prog_110_method_5_code 17 = .ok (.goto 4, 3) := by decide +kernel
theorem d4_20 : decode prog_110_method_5_code 20 = .ok (.iconst 0, 1) := by decide +kernel
theorem d4_21 : decode prog_110_method_5_code 21 = .ok (.ireturn, 1) := by decide +kernel
theorem ef_4 (m : MethodId) (x0 : Addr) (x1 : Int32) : entryFrame m #[(.ref x0), (.int x1)] 2 = mkF m 0 #[.val (.ref x0), .val (.int x1)] [] := by first | (simp [entryFrame, mkF, argsToLocals, Value.category]; done) | rfl
def Q4 (Z : State) (a1 : Addr) (p2 : Int32) (lo : Int32) (hi : Int32) (h0 : Heap) (n0 : Nat) (v : Option Value) (h : Heap) (L : List Loc) : Prop := v = some (.int (bz (¬ p2 < lo ∧ ¬ hi < p2))) ∧ Fr n0 L ∧ h = h0
set_option maxRecDepth 65536 in
set_option maxHeartbeats 40000000 in
theorem rm4 (l : Launch) (Z : State) (a0 : Array Value) (hw : ∀ d ∈ tables_1, d.before a0 Z = true) (ws : List Jvm.Cond) (a1 : Addr) (p2 : Int32) (lo : Int32) (hi : Int32) (h0 : Heap) (n0 : Nat) (Z0 : n0 ≤ h0.size) (F1 : Fld Z h0 a1 "com/example/tally/tally/XPathFunction" "leastArguments" "I" (.int lo)) (F2 : Fld Z h0 a1 "com/example/tally/tally/XPathFunction" "mostArguments" "I" (.int hi)) :
    MetFree l (⟨"com/example/tally/tally/XPathFunction", "reads", "(I)Z"⟩ : MethodName) (head1 (Jvm.Cond.code (⟨"com/example/tally/tally/XPathFunction", "reads", "(I)Z"⟩ : MethodName) prog_110_method_5_code 2 (some .boolean) :: ws) ({ frames := 0, cells := 0, slots := 0, locals := 0 } : Room)) (fun a U => a = #[(.ref a1), (.int p2)] ∧ Z.Warmed39 U.vm ∧ U.heap = h0) (fun _ _ _ _ _ => True) (fun _ U o U' => ∃ v L, o = .returned v ∧ Q4 Z a1 p2 lo hi h0 n0 v U'.heap L ∧ FrameEnd U o U' L ({ frames := 0, cells := 0, slots := 0, locals := 0 } : Room).cells ({ frames := 0, cells := 0, slots := 0, locals := 0 } : Room).slots) := by
  refine MetFree.of_bodySF (plainFor_of_name pn_1) hisR ?_
  intro p e s m args below meth c s₁ Bd hml0 hP hK
  obtain ⟨rfl, hZ, hh⟩ := hP
  have hx := Bd.exec
  have hby := Bd.bytes
  have hlk : meth.locks = false := BodyLoose.notSynchronized Bd
  have hml : c.maxLocals = 2 := hml0
  have hown : s.vm.findClass "com/example/tally/tally/XPathFunction" = some m.cls := findClass_of_methodNamed Bd.named
  have hnm := (name_of_methodNamed Bd.named Bd.method).1
  have X0 : Stand p l e ({ frames := 0, cells := 0, slots := 0, locals := 0 } : Room) s m #[(.ref a1), (.int p2)] below meth c s₁ [] 0 0 := Stand.of_body Bd
  have e0 : s₁.heap = h0 := by rw [← hh, Bd.state]; rfl
  have N0 := Fr.nil n0
  show Go p e below (Kf s (Q4 Z a1 p2 lo hi h0 n0) ({ frames := 0, cells := 0, slots := 0, locals := 0 } : Room).cells ({ frames := 0, cells := 0, slots := 0, locals := 0 } : Room).slots) (s₁.setTop (entryFrame m #[(.ref a1), (.int p2)] 2))
  refine own_s (B := s₁.setTop (mkF m 0 #[.val (.ref a1), .val (.int p2)] [])) (fun t k => castTop (ef_4 m a1 p2) k) ?_
  refine own_s (B := s₁.setTop (mkF m 1 #[.val (.ref a1), .val (.int p2)] [(.int p2)])) (fun t k => XS.iloadN X0.here hx rfl (hb hby d4_0) rfl k) ?_
  refine own_s (B := s₁.setTop (mkF m 2 #[.val (.ref a1), .val (.int p2)] [(.ref a1), (.int p2)])) (fun t k => XS.aloadN X0.here hx rfl (hb hby d4_1) rfl rfl k) ?_
  obtain ⟨T1, X1, e1, st1⟩ := getF X0 hx hZ hown (host := "") (Or.inl (hw _ (List.mem_of_getElem? (i := 24) rfl))) Via.refl e0 F1 (g := (mkF m 2 #[.val (.ref a1), .val (.int p2)] [(.ref a1), (.int p2)])) rfl rfl (hb hby d4_2)
  refine own_s (B := T1.setTop (mkF m 5 #[.val (.ref a1), .val (.int p2)] [(.int lo), (.int p2)])) st1 ?_
  by_cases hc5 : p2 < lo
  · refine own_s (B := T1.setTop (mkF m 20 #[.val (.ref a1), .val (.int p2)] [])) (fun t k => XS.icmpYes X1.here hx rfl (pc0 := 5) (pc' := 20) rfl (hb hby d4_5) rfl (tlt hc5).1 (by decide) (by decide) k) ?_
    refine own_s (B := T1.setTop (mkF m 21 #[.val (.ref a1), .val (.int p2)] [(.int (0 : Int32))])) (fun t k => XS.iconst X1.here hx rfl (hb hby d4_20) k) ?_
    exact own_retB X1 hx hlk (t := .boolean) Bd.returns (by simp) (hb hby d4_21) (by decide) (by decide) ⟨own_f (fun q => q.1 hc5), N0, e1⟩
  · refine own_s (B := T1.setTop (mkF m 8 #[.val (.ref a1), .val (.int p2)] [])) (fun t k => XS.icmpNo X1.here hx rfl (hb hby d4_5) rfl (flt hc5).1 k) ?_
    refine own_s (B := T1.setTop (mkF m 9 #[.val (.ref a1), .val (.int p2)] [(.int p2)])) (fun t k => XS.iloadN X1.here hx rfl (hb hby d4_8) rfl k) ?_
    refine own_s (B := T1.setTop (mkF m 10 #[.val (.ref a1), .val (.int p2)] [(.ref a1), (.int p2)])) (fun t k => XS.aloadN X1.here hx rfl (hb hby d4_9) rfl rfl k) ?_
    obtain ⟨T2, X2, e2, st2⟩ := getF X1 hx hZ hown (host := "") (Or.inl (hw _ (List.mem_of_getElem? (i := 26) rfl))) Via.refl e1 F2 (g := (mkF m 10 #[.val (.ref a1), .val (.int p2)] [(.ref a1), (.int p2)])) rfl rfl (hb hby d4_10)
    refine own_s (B := T2.setTop (mkF m 13 #[.val (.ref a1), .val (.int p2)] [(.int hi), (.int p2)])) st2 ?_
    by_cases hc13 : hi < p2
    · refine own_s (B := T2.setTop (mkF m 20 #[.val (.ref a1), .val (.int p2)] [])) (fun t k => XS.icmpYes X2.here hx rfl (pc0 := 13) (pc' := 20) rfl (hb hby d4_13) rfl (tlt hc13).2.2.1 (by decide) (by decide) k) ?_
      refine own_s (B := T2.setTop (mkF m 21 #[.val (.ref a1), .val (.int p2)] [(.int (0 : Int32))])) (fun t k => XS.iconst X2.here hx rfl (hb hby d4_20) k) ?_
      exact own_retB X2 hx hlk (t := .boolean) Bd.returns (by simp) (hb hby d4_21) (by decide) (by decide) ⟨own_f (fun q => q.2 hc13), N0, e2⟩
    · refine own_s (B := T2.setTop (mkF m 16 #[.val (.ref a1), .val (.int p2)] [])) (fun t k => XS.icmpNo X2.here hx rfl (hb hby d4_13) rfl (flt hc13).2.2.1 k) ?_
      refine own_s (B := T2.setTop (mkF m 17 #[.val (.ref a1), .val (.int p2)] [(.int (1 : Int32))])) (fun t k => XS.iconst X2.here hx rfl (hb hby d4_16) k) ?_
      refine own_s (B := T2.setTop (mkF m 21 #[.val (.ref a1), .val (.int p2)] [(.int (1 : Int32))])) (fun t k => XS.goto X2.here hx rfl (pc0 := 17) (pc' := 21) rfl (hb hby d4_17) (by decide) (by decide) k) ?_
      exact own_retB X2 hx hlk (t := .boolean) Bd.returns (by simp) (hb hby d4_21) (by decide) (by decide) ⟨own_t ⟨hc5, hc13⟩, N0, e2⟩
theorem pd_0 : parseMethodDescriptor "(I)Lcom/example/tally/tally/XPathFunction;" = some ⟨[.int], some (.object "com/example/tally/tally/XPathFunction")⟩ := by decide +kernel
theorem pd_1 : parseMethodDescriptor "()Z" = some ⟨[], some .boolean⟩ := by decide +kernel
theorem pd_2 : parseMethodDescriptor "(I)Z" = some ⟨[.int], some .boolean⟩ := by decide +kernel
theorem ef_0 (m : MethodId) (x0 : Int32) : entryFrame m #[(.int x0)] maxLocals = mkF m 0 #[.val (.int x0), .unset, .unset, .unset, .unset] [] := by first | (simp [entryFrame, mkF, argsToLocals, Value.category, maxLocals]; done) | rfl
def Q0 (Z : State) (p1 : Int32) (W : Int32 → Addr) (h0 : Heap) (n0 : Nat) (v : Option Value) (h : Heap) (L : List Loc) : Prop := v = some (.int 1) ∧ Fr n0 L
set_option maxRecDepth 65536 in
set_option maxHeartbeats 40000000 in
theorem rm0 (l : Launch) (Z : State) (a0 : Array Value) (hw : ∀ d ∈ tables_1, d.before a0 Z = true) (ws : List Jvm.Cond) (p1 : Int32) (W : Int32 → Addr) (h0 : Heap) (n0 : Nat) (Z0 : n0 ≤ h0.size) (EW : WS Z h0 W) (XW : ∀ i : Int32, 0 ≤ i.toInt → i.toInt ≤ 18 → Exa Z h0 (W i) "com/example/tally/tally/XPathFunction") (IW : ∀ i j : Int32, 0 ≤ i.toInt → i.toInt ≤ 18 → 0 ≤ j.toInt → j.toInt ≤ 18 → W i = W j → i = j) (FL : ∀ i : Int32, 0 ≤ i.toInt → i.toInt ≤ 18 → Fld Z h0 (W i) "com/example/tally/tally/XPathFunction" "leastArguments" "I" (.int (loS i))) (FM : ∀ i : Int32, 0 ≤ i.toInt → i.toInt ≤ 18 → Fld Z h0 (W i) "com/example/tally/tally/XPathFunction" "mostArguments" "I" (.int (hiS i))) :
    MetFree l x (head1 (Jvm.Cond.code x code maxLocals ret :: ws) room_1) (fun a U => a = #[(.int p1)] ∧ Z.Warmed39 U.vm ∧ U.heap = h0) (fun _ _ _ _ _ => True) (fun _ U o U' => ∃ v L, o = .returned v ∧ Q0 Z p1 W h0 n0 v U'.heap L ∧ FrameEnd U o U' L room_1.cells room_1.slots) := by
  refine MetFree.of_bodySF (plainFor_of_name pn_0) hisR ?_
  intro p e s m args below meth c s₁ Bd hml0 hP hK
  obtain ⟨rfl, hZ, hh⟩ := hP
  have hx := Bd.exec
  have hby := Bd.bytes
  have hlk : meth.locks = false := BodyLoose.notSynchronized Bd
  have hml : c.maxLocals = 5 := hml0
  have hown : s.vm.findClass "com/example/tally/tally/XPathFunctionUsesPositionPinLaw" = some m.cls := findClass_of_methodNamed Bd.named
  have hnm := (name_of_methodNamed Bd.named Bd.method).1
  have X0 : Stand p l e room_1 s m #[(.int p1)] below meth c s₁ [] 0 0 := Stand.of_body Bd
  have e0 : s₁.heap = h0 := by rw [← hh, Bd.state]; rfl
  have N0 := Fr.nil n0
  show Go p e below (Kf s (Q0 Z p1 W h0 n0) room_1.cells room_1.slots) (s₁.setTop (entryFrame m #[(.int p1)] maxLocals))
  refine own_s (B := s₁.setTop (mkF m 0 #[.val (.int p1), .unset, .unset, .unset, .unset] [])) (fun t k => castTop (ef_0 m p1) k) ?_
  refine own_s (B := s₁.setTop (mkF m 1 #[.val (.int p1), .unset, .unset, .unset, .unset] [(.int p1)])) (fun t k => XS.iloadN X0.here hx rfl (hb hby at_0) rfl k) ?_
  refine own_s (B := s₁.setTop (mkF m 3 #[.val (.int p1), .unset, .unset, .unset, .unset] [(.int (2147483647 : Int32)), (.int p1)])) (fun t k => X0.ldcInt hx hown (mvT hZ (hw _ (List.mem_of_getElem? (i := 0) rfl))) (g := (mkF m 1 #[.val (.int p1), .unset, .unset, .unset, .unset] [(.int p1)])) rfl (hb hby at_1) t k) ?_
  refine own_s (B := s₁.setTop (mkF m 4 #[.val (.int p1), .unset, .unset, .unset, .unset] [(.int (p1 &&& (2147483647 : Int32)))])) (fun t k => XS.iand X0.here hx rfl (hb hby at_3) rfl k) ?_
  refine own_s (B := s₁.setTop (mkF m 6 #[.val (.int p1), .unset, .unset, .unset, .unset] [(.int (19 : Int32)), (.int (p1 &&& (2147483647 : Int32)))])) (fun t k => XS.bipush X0.here hx rfl (hb hby at_4) k) ?_
  refine own_s (B := s₁.setTop (mkF m 7 #[.val (.int p1), .unset, .unset, .unset, .unset] [(.int ((p1 &&& (2147483647 : Int32)) % (19 : Int32)))])) (fun t k => iremM X0 hx rfl (hb hby at_6) rfl (by decide : (19 : Int32) ≠ 0) k) ?_
  refine own_s (B := s₁.setTop (mkF m 8 #[.val (.int p1), .val (.int ((p1 &&& (2147483647 : Int32)) % (19 : Int32))), .unset, .unset, .unset] [])) (fun t k => XS.istoreN X0.here hx rfl (hb hby at_7) rfl (l' := #[.val (.int p1), .val (.int ((p1 &&& (2147483647 : Int32)) % (19 : Int32))), .unset, .unset, .unset]) rfl k) ?_
  refine own_s (B := s₁.setTop (mkF m 9 #[.val (.int p1), .val (.int ((p1 &&& (2147483647 : Int32)) % (19 : Int32))), .unset, .unset, .unset] [(.int ((p1 &&& (2147483647 : Int32)) % (19 : Int32)))])) (fun t k => XS.iloadN X0.here hx rfl (hb hby at_8) rfl k) ?_
  obtain ⟨_, _, ⟨T1, L1, k1, n1⟩, -, X1, ⟨Lc1, hQ1, l1, y1, z1⟩, st1⟩ := Jvm.LawKit.callS X0 hx (y := (⟨"com/example/tally/tally/XPathFunctionUsesPositionPinLaw", "pick", "(I)Lcom/example/tally/tally/XPathFunction;"⟩ : MethodName)) hown (mvT hZ (hw _ (List.mem_of_getElem? (i := 1) rfl))) (mvT hZ (hw _ (List.mem_of_getElem? (i := 2) rfl))) (mvT hZ (hw _ (List.mem_of_getElem? (i := 3) rfl))) (mvT hZ (hw _ (List.mem_of_getElem? (i := 4) rfl))) (by decide) (backOf (W := 0) (rm1 l Z a0 hw [] ((p1 &&& (2147483647 : Int32)) % (19 : Int32)) W h0 n0 Z0 EW (own_m p1).1 (own_m p1).2) hZ (hw _ (List.mem_of_getElem? (i := 4) rfl)) (hw _ (List.mem_of_getElem? (i := 3) rfl)) (by decide) (by decide)) (g := (mkF m 9 #[.val (.int p1), .val (.int ((p1 &&& (2147483647 : Int32)) % (19 : Int32))), .unset, .unset, .unset] [(.int ((p1 &&& (2147483647 : Int32)) % (19 : Int32)))])) rfl (by rw [hml]; rfl) (argsL := [(.int ((p1 &&& (2147483647 : Int32)) % (19 : Int32)))]) (rest := []) (lenOf pd_0 rfl) rfl (by show 2 * 0 + _ ≤ _; exact Nat.le_of_eq rfl) (hb hby at_9) (fun _ _ => ⟨rfl, e0, (by decide : 0 + 0 ≤ _), (by decide : 0 + 0 ≤ _)⟩)
  dsimp only [Pt.U, Pt.locs, Pt.cells, Pt.slots] at X1 l1 y1 z1 st1 hQ1
  subst l1 y1 z1
  obtain ⟨rfl, N1q, e1⟩ := hQ1
  have N1 := Fr.app N0 N1q
  refine own_s (B := T1.setTop (mkF m 12 #[.val (.int p1), .val (.int ((p1 &&& (2147483647 : Int32)) % (19 : Int32))), .unset, .unset, .unset] [(.ref (W ((p1 &&& (2147483647 : Int32)) % (19 : Int32))))])) st1 ?_
  refine own_s (B := T1.setTop (mkF m 13 #[.val (.int p1), .val (.int ((p1 &&& (2147483647 : Int32)) % (19 : Int32))), .val (.ref (W ((p1 &&& (2147483647 : Int32)) % (19 : Int32)))), .unset, .unset] [])) (fun t k => XS.astoreN X1.here hx rfl (hb hby at_12) rfl rfl (l' := #[.val (.int p1), .val (.int ((p1 &&& (2147483647 : Int32)) % (19 : Int32))), .val (.ref (W ((p1 &&& (2147483647 : Int32)) % (19 : Int32)))), .unset, .unset]) rfl k) ?_
  refine own_s (B := T1.setTop (mkF m 14 #[.val (.int p1), .val (.int ((p1 &&& (2147483647 : Int32)) % (19 : Int32))), .val (.ref (W ((p1 &&& (2147483647 : Int32)) % (19 : Int32)))), .unset, .unset] [(.int ((p1 &&& (2147483647 : Int32)) % (19 : Int32)))])) (fun t k => XS.iloadN X1.here hx rfl (hb hby at_13) rfl k) ?_
  by_cases hc14 : ((p1 &&& (2147483647 : Int32)) % (19 : Int32)) = (0 : Int32)
  · refine own_s (B := T1.setTop (mkF m 22 #[.val (.int p1), .val (.int ((p1 &&& (2147483647 : Int32)) % (19 : Int32))), .val (.ref (W ((p1 &&& (2147483647 : Int32)) % (19 : Int32)))), .unset, .unset] [])) (fun t k => XS.ifYes X1.here hx rfl (pc0 := 14) (pc' := 22) rfl (hb hby at_14) rfl ((if0 _ _).trans (teq hc14).1) (by decide) (by decide) k) ?_
    refine own_s (B := T1.setTop (mkF m 23 #[.val (.int p1), .val (.int ((p1 &&& (2147483647 : Int32)) % (19 : Int32))), .val (.ref (W ((p1 &&& (2147483647 : Int32)) % (19 : Int32)))), .unset, .unset] [(.int (1 : Int32))])) (fun t k => XS.iconst X1.here hx rfl (hb hby at_22) k) ?_
    refine own_s (B := T1.setTop (mkF m 27 #[.val (.int p1), .val (.int ((p1 &&& (2147483647 : Int32)) % (19 : Int32))), .val (.ref (W ((p1 &&& (2147483647 : Int32)) % (19 : Int32)))), .unset, .unset] [(.int (1 : Int32))])) (fun t k => XS.goto X1.here hx rfl (pc0 := 23) (pc' := 27) rfl (hb hby at_23) (by decide) (by decide) k) ?_
    refine own_s (B := T1.setTop (mkF m 28 #[.val (.int p1), .val (.int ((p1 &&& (2147483647 : Int32)) % (19 : Int32))), .val (.ref (W ((p1 &&& (2147483647 : Int32)) % (19 : Int32)))), .val (.int (1 : Int32)), .unset] [])) (fun t k => XS.istoreN X1.here hx rfl (hb hby at_27) rfl (l' := #[.val (.int p1), .val (.int ((p1 &&& (2147483647 : Int32)) % (19 : Int32))), .val (.ref (W ((p1 &&& (2147483647 : Int32)) % (19 : Int32)))), .val (.int (1 : Int32)), .unset]) rfl k) ?_
    refine own_s (B := T1.setTop (mkF m 29 #[.val (.int p1), .val (.int ((p1 &&& (2147483647 : Int32)) % (19 : Int32))), .val (.ref (W ((p1 &&& (2147483647 : Int32)) % (19 : Int32)))), .val (.int (1 : Int32)), .unset] [(.ref (W ((p1 &&& (2147483647 : Int32)) % (19 : Int32))))])) (fun t k => XS.aloadN X1.here hx rfl (hb hby at_28) rfl rfl k) ?_
    obtain ⟨cq2, kq2, q2a, q2b, q2c⟩ := isOf hZ e1 (XW _ (own_m p1).1 (own_m p1).2)
    obtain ⟨_, _, ⟨T2, L2, k2, n2⟩, -, X2, ⟨Lc2, hQ2, l2, y2, z2⟩, st2⟩ := X1.virtualBack hx (y := (⟨"com/example/tally/tally/XPathFunction", "usesPosition", "()Z"⟩ : MethodName)) (z := (⟨"com/example/tally/tally/XPathFunction", "usesPosition", "()Z"⟩ : MethodName)) hown (mvT hZ (hw _ (List.mem_of_getElem? (i := 8) rfl))) (mvT hZ (hw _ (List.mem_of_getElem? (i := 9) rfl))) (notFace_of_selects (args := #[]) (mvT hZ (hw _ (List.mem_of_getElem? (i := 11) rfl)))) (mvT hZ (hw _ (List.mem_of_getElem? (i := 11) rfl))) (mvT hZ (hw _ (List.mem_of_getElem? (i := 10) rfl))) (by decide) (backOf (W := 0) (rm2 l Z a0 hw [] (W ((p1 &&& (2147483647 : Int32)) % (19 : Int32))) W h0 n0 Z0 EW) hZ (hw _ (List.mem_of_getElem? (i := 12) rfl)) (hw _ (List.mem_of_getElem? (i := 6) rfl)) (by decide) (by decide)) q2a q2c (g := (mkF m 29 #[.val (.int p1), .val (.int ((p1 &&& (2147483647 : Int32)) % (19 : Int32))), .val (.ref (W ((p1 &&& (2147483647 : Int32)) % (19 : Int32)))), .val (.int (1 : Int32)), .unset] [(.ref (W ((p1 &&& (2147483647 : Int32)) % (19 : Int32))))])) rfl (by rw [hml]; rfl) (Steps.refl _) (argsL := []) (rest := []) (lenOf pd_1 rfl) rfl (by show 2 * 0 + _ ≤ _; exact Nat.le_of_eq rfl) (hb hby at_29) (fun _ _ => ⟨rfl, e1, (by decide : 0 + 0 ≤ _), (by decide : 0 + 0 ≤ _)⟩)
    dsimp only [Pt.U, Pt.locs, Pt.cells, Pt.slots] at X2 l2 y2 z2 st2 hQ2
    subst l2 y2 z2
    obtain ⟨rfl, N2q, e2⟩ := hQ2
    have N2 := Fr.app N1 N2q
    refine own_s (B := T2.setTop (mkF m 32 #[.val (.int p1), .val (.int ((p1 &&& (2147483647 : Int32)) % (19 : Int32))), .val (.ref (W ((p1 &&& (2147483647 : Int32)) % (19 : Int32)))), .val (.int (1 : Int32)), .unset] [(.int (bz ((W ((p1 &&& (2147483647 : Int32)) % (19 : Int32))) = W 0 ∨ (W ((p1 &&& (2147483647 : Int32)) % (19 : Int32))) = W 1)))])) (fun t k => st2.trans k) ?_
    refine own_s (B := T2.setTop (mkF m 34 #[.val (.int p1), .val (.int ((p1 &&& (2147483647 : Int32)) % (19 : Int32))), .val (.ref (W ((p1 &&& (2147483647 : Int32)) % (19 : Int32)))), .val (.int (1 : Int32)), .val (.int (bz ((W ((p1 &&& (2147483647 : Int32)) % (19 : Int32))) = W 0 ∨ (W ((p1 &&& (2147483647 : Int32)) % (19 : Int32))) = W 1)))] [])) (fun t k => XS.istore X2.here hx rfl (hb hby at_32) rfl (l' := #[.val (.int p1), .val (.int ((p1 &&& (2147483647 : Int32)) % (19 : Int32))), .val (.ref (W ((p1 &&& (2147483647 : Int32)) % (19 : Int32)))), .val (.int (1 : Int32)), .val (.int (bz ((W ((p1 &&& (2147483647 : Int32)) % (19 : Int32))) = W 0 ∨ (W ((p1 &&& (2147483647 : Int32)) % (19 : Int32))) = W 1)))]) rfl k) ?_
    refine own_s (B := T2.setTop (mkF m 36 #[.val (.int p1), .val (.int ((p1 &&& (2147483647 : Int32)) % (19 : Int32))), .val (.ref (W ((p1 &&& (2147483647 : Int32)) % (19 : Int32)))), .val (.int (1 : Int32)), .val (.int (bz ((W ((p1 &&& (2147483647 : Int32)) % (19 : Int32))) = W 0 ∨ (W ((p1 &&& (2147483647 : Int32)) % (19 : Int32))) = W 1)))] [(.int (bz ((W ((p1 &&& (2147483647 : Int32)) % (19 : Int32))) = W 0 ∨ (W ((p1 &&& (2147483647 : Int32)) % (19 : Int32))) = W 1)))])) (fun t k => XS.iload X2.here hx rfl (hb hby at_34) rfl k) ?_
    refine own_s (B := T2.setTop (mkF m 37 #[.val (.int p1), .val (.int ((p1 &&& (2147483647 : Int32)) % (19 : Int32))), .val (.ref (W ((p1 &&& (2147483647 : Int32)) % (19 : Int32)))), .val (.int (1 : Int32)), .val (.int (bz ((W ((p1 &&& (2147483647 : Int32)) % (19 : Int32))) = W 0 ∨ (W ((p1 &&& (2147483647 : Int32)) % (19 : Int32))) = W 1)))] [(.int (1 : Int32)), (.int (bz ((W ((p1 &&& (2147483647 : Int32)) % (19 : Int32))) = W 0 ∨ (W ((p1 &&& (2147483647 : Int32)) % (19 : Int32))) = W 1)))])) (fun t k => XS.iloadN X2.here hx rfl (hb hby at_36) rfl k) ?_
    refine own_s (B := T2.setTop (mkF m 42 #[.val (.int p1), .val (.int ((p1 &&& (2147483647 : Int32)) % (19 : Int32))), .val (.ref (W ((p1 &&& (2147483647 : Int32)) % (19 : Int32)))), .val (.int (1 : Int32)), .val (.int (bz ((W ((p1 &&& (2147483647 : Int32)) % (19 : Int32))) = W 0 ∨ (W ((p1 &&& (2147483647 : Int32)) % (19 : Int32))) = W 1)))] [])) (fun t k => XS.icmpYes X2.here hx rfl (pc0 := 37) (pc' := 42) rfl (hb hby at_37) rfl (teq (own_b1 ((own_u IW (own_m p1).1 (own_m p1).2).mpr (Or.inl hc14)))).1 (by decide) (by decide) k) ?_
    refine own_s (B := T2.setTop (mkF m 44 #[.val (.int p1), .val (.int ((p1 &&& (2147483647 : Int32)) % (19 : Int32))), .val (.ref (W ((p1 &&& (2147483647 : Int32)) % (19 : Int32)))), .val (.int (1 : Int32)), .val (.int (bz ((W ((p1 &&& (2147483647 : Int32)) % (19 : Int32))) = W 0 ∨ (W ((p1 &&& (2147483647 : Int32)) % (19 : Int32))) = W 1)))] [(.int (bz ((W ((p1 &&& (2147483647 : Int32)) % (19 : Int32))) = W 0 ∨ (W ((p1 &&& (2147483647 : Int32)) % (19 : Int32))) = W 1)))])) (fun t k => XS.iload X2.here hx rfl (hb hby at_42) rfl k) ?_
    refine own_s (B := T2.setTop (mkF m 47 #[.val (.int p1), .val (.int ((p1 &&& (2147483647 : Int32)) % (19 : Int32))), .val (.ref (W ((p1 &&& (2147483647 : Int32)) % (19 : Int32)))), .val (.int (1 : Int32)), .val (.int (bz ((W ((p1 &&& (2147483647 : Int32)) % (19 : Int32))) = W 0 ∨ (W ((p1 &&& (2147483647 : Int32)) % (19 : Int32))) = W 1)))] [])) (fun t k => XS.ifNo X2.here hx rfl (hb hby at_44) rfl ((if0 _ _).trans (feq (own_n0 ((own_u IW (own_m p1).1 (own_m p1).2).mpr (Or.inl hc14)))).1) k) ?_
    refine own_s (B := T2.setTop (mkF m 48 #[.val (.int p1), .val (.int ((p1 &&& (2147483647 : Int32)) % (19 : Int32))), .val (.ref (W ((p1 &&& (2147483647 : Int32)) % (19 : Int32)))), .val (.int (1 : Int32)), .val (.int (bz ((W ((p1 &&& (2147483647 : Int32)) % (19 : Int32))) = W 0 ∨ (W ((p1 &&& (2147483647 : Int32)) % (19 : Int32))) = W 1)))] [(.ref (W ((p1 &&& (2147483647 : Int32)) % (19 : Int32))))])) (fun t k => XS.aloadN X2.here hx rfl (hb hby at_47) rfl rfl k) ?_
    obtain ⟨cq3, kq3, q3a, q3b, q3c⟩ := isOf hZ e2 (XW _ (own_m p1).1 (own_m p1).2)
    obtain ⟨_, _, ⟨T3, L3, k3, n3⟩, -, X3, ⟨Lc3, hQ3, l3, y3, z3⟩, st3⟩ := X2.virtualBack hx (y := (⟨"com/example/tally/tally/XPathFunction", "isNumeric", "()Z"⟩ : MethodName)) (z := (⟨"com/example/tally/tally/XPathFunction", "isNumeric", "()Z"⟩ : MethodName)) hown (mvT hZ (hw _ (List.mem_of_getElem? (i := 14) rfl))) (mvT hZ (hw _ (List.mem_of_getElem? (i := 15) rfl))) (notFace_of_selects (args := #[]) (mvT hZ (hw _ (List.mem_of_getElem? (i := 17) rfl)))) (mvT hZ (hw _ (List.mem_of_getElem? (i := 17) rfl))) (mvT hZ (hw _ (List.mem_of_getElem? (i := 16) rfl))) (by decide) (backOf (W := 0) (rm3 l Z a0 hw [] (W ((p1 &&& (2147483647 : Int32)) % (19 : Int32))) W h0 n0 Z0 EW ((own_u IW (own_m p1).1 (own_m p1).2).mpr (Or.inl hc14))) hZ (hw _ (List.mem_of_getElem? (i := 18) rfl)) (hw _ (List.mem_of_getElem? (i := 6) rfl)) (by decide) (by decide)) q3a q3c (g := (mkF m 48 #[.val (.int p1), .val (.int ((p1 &&& (2147483647 : Int32)) % (19 : Int32))), .val (.ref (W ((p1 &&& (2147483647 : Int32)) % (19 : Int32)))), .val (.int (1 : Int32)), .val (.int (bz ((W ((p1 &&& (2147483647 : Int32)) % (19 : Int32))) = W 0 ∨ (W ((p1 &&& (2147483647 : Int32)) % (19 : Int32))) = W 1)))] [(.ref (W ((p1 &&& (2147483647 : Int32)) % (19 : Int32))))])) rfl (by rw [hml]; rfl) (Steps.refl _) (argsL := []) (rest := []) (lenOf pd_1 rfl) rfl (by show 2 * 0 + _ ≤ _; exact Nat.le_of_eq rfl) (hb hby at_48) (fun _ _ => ⟨rfl, e2, (by decide : 0 + 0 ≤ _), (by decide : 0 + 0 ≤ _)⟩)
    dsimp only [Pt.U, Pt.locs, Pt.cells, Pt.slots] at X3 l3 y3 z3 st3 hQ3
    subst l3 y3 z3
    obtain ⟨rfl, N3q, e3⟩ := hQ3
    have N3 := Fr.app N2 N3q
    refine own_s (B := T3.setTop (mkF m 51 #[.val (.int p1), .val (.int ((p1 &&& (2147483647 : Int32)) % (19 : Int32))), .val (.ref (W ((p1 &&& (2147483647 : Int32)) % (19 : Int32)))), .val (.int (1 : Int32)), .val (.int (bz ((W ((p1 &&& (2147483647 : Int32)) % (19 : Int32))) = W 0 ∨ (W ((p1 &&& (2147483647 : Int32)) % (19 : Int32))) = W 1)))] [(.int (1 : Int32))])) (fun t k => st3.trans k) ?_
    refine own_s (B := T3.setTop (mkF m 54 #[.val (.int p1), .val (.int ((p1 &&& (2147483647 : Int32)) % (19 : Int32))), .val (.ref (W ((p1 &&& (2147483647 : Int32)) % (19 : Int32)))), .val (.int (1 : Int32)), .val (.int (bz ((W ((p1 &&& (2147483647 : Int32)) % (19 : Int32))) = W 0 ∨ (W ((p1 &&& (2147483647 : Int32)) % (19 : Int32))) = W 1)))] [])) (fun t k => XS.ifNo X3.here hx rfl (hb hby at_51) rfl ((if0 _ _).trans (feq (by decide)).1) k) ?_
    refine own_s (B := T3.setTop (mkF m 55 #[.val (.int p1), .val (.int ((p1 &&& (2147483647 : Int32)) % (19 : Int32))), .val (.ref (W ((p1 &&& (2147483647 : Int32)) % (19 : Int32)))), .val (.int (1 : Int32)), .val (.int (bz ((W ((p1 &&& (2147483647 : Int32)) % (19 : Int32))) = W 0 ∨ (W ((p1 &&& (2147483647 : Int32)) % (19 : Int32))) = W 1)))] [(.ref (W ((p1 &&& (2147483647 : Int32)) % (19 : Int32))))])) (fun t k => XS.aloadN X3.here hx rfl (hb hby at_54) rfl rfl k) ?_
    refine own_s (B := T3.setTop (mkF m 56 #[.val (.int p1), .val (.int ((p1 &&& (2147483647 : Int32)) % (19 : Int32))), .val (.ref (W ((p1 &&& (2147483647 : Int32)) % (19 : Int32)))), .val (.int (1 : Int32)), .val (.int (bz ((W ((p1 &&& (2147483647 : Int32)) % (19 : Int32))) = W 0 ∨ (W ((p1 &&& (2147483647 : Int32)) % (19 : Int32))) = W 1)))] [(.int (0 : Int32)), (.ref (W ((p1 &&& (2147483647 : Int32)) % (19 : Int32))))])) (fun t k => XS.iconst X3.here hx rfl (hb hby at_55) k) ?_
    obtain ⟨cq4, kq4, q4a, q4b, q4c⟩ := isOf hZ e3 (XW _ (own_m p1).1 (own_m p1).2)
    obtain ⟨_, _, ⟨T4, L4, k4, n4⟩, -, X4, ⟨Lc4, hQ4, l4, y4, z4⟩, st4⟩ := X3.virtualBack hx (y := (⟨"com/example/tally/tally/XPathFunction", "reads", "(I)Z"⟩ : MethodName)) (z := (⟨"com/example/tally/tally/XPathFunction", "reads", "(I)Z"⟩ : MethodName)) hown (mvT hZ (hw _ (List.mem_of_getElem? (i := 19) rfl))) (mvT hZ (hw _ (List.mem_of_getElem? (i := 20) rfl))) (notFace_of_selects (args := #[]) (mvT hZ (hw _ (List.mem_of_getElem? (i := 22) rfl)))) (mvT hZ (hw _ (List.mem_of_getElem? (i := 22) rfl))) (mvT hZ (hw _ (List.mem_of_getElem? (i := 21) rfl))) (by decide) (backOf (W := 0) (rm4 l Z a0 hw [] (W ((p1 &&& (2147483647 : Int32)) % (19 : Int32))) (0 : Int32) (loS ((p1 &&& (2147483647 : Int32)) % (19 : Int32))) (hiS ((p1 &&& (2147483647 : Int32)) % (19 : Int32))) h0 n0 Z0 (FL _ (own_m p1).1 (own_m p1).2) (FM _ (own_m p1).1 (own_m p1).2)) hZ (hw _ (List.mem_of_getElem? (i := 23) rfl)) (hw _ (List.mem_of_getElem? (i := 6) rfl)) (by decide) (by decide)) q4a q4c (g := (mkF m 56 #[.val (.int p1), .val (.int ((p1 &&& (2147483647 : Int32)) % (19 : Int32))), .val (.ref (W ((p1 &&& (2147483647 : Int32)) % (19 : Int32)))), .val (.int (1 : Int32)), .val (.int (bz ((W ((p1 &&& (2147483647 : Int32)) % (19 : Int32))) = W 0 ∨ (W ((p1 &&& (2147483647 : Int32)) % (19 : Int32))) = W 1)))] [(.int (0 : Int32)), (.ref (W ((p1 &&& (2147483647 : Int32)) % (19 : Int32))))])) rfl (by rw [hml]; rfl) (Steps.refl _) (argsL := [(.int (0 : Int32))]) (rest := []) (lenOf pd_2 rfl) rfl (by show 2 * 0 + _ ≤ _; exact Nat.le_of_eq rfl) (hb hby at_56) (fun _ _ => ⟨rfl, e3, (by decide : 0 + 0 ≤ _), (by decide : 0 + 0 ≤ _)⟩)
    dsimp only [Pt.U, Pt.locs, Pt.cells, Pt.slots] at X4 l4 y4 z4 st4 hQ4
    subst l4 y4 z4
    obtain ⟨rfl, N4q, e4⟩ := hQ4
    have N4 := Fr.app N3 N4q
    refine own_s (B := T4.setTop (mkF m 59 #[.val (.int p1), .val (.int ((p1 &&& (2147483647 : Int32)) % (19 : Int32))), .val (.ref (W ((p1 &&& (2147483647 : Int32)) % (19 : Int32)))), .val (.int (1 : Int32)), .val (.int (bz ((W ((p1 &&& (2147483647 : Int32)) % (19 : Int32))) = W 0 ∨ (W ((p1 &&& (2147483647 : Int32)) % (19 : Int32))) = W 1)))] [(.int (bz (¬ (0 : Int32) < loS ((p1 &&& (2147483647 : Int32)) % (19 : Int32)) ∧ ¬ hiS ((p1 &&& (2147483647 : Int32)) % (19 : Int32)) < (0 : Int32))))])) (fun t k => st4.trans k) ?_
    refine own_s (B := T4.setTop (mkF m 62 #[.val (.int p1), .val (.int ((p1 &&& (2147483647 : Int32)) % (19 : Int32))), .val (.ref (W ((p1 &&& (2147483647 : Int32)) % (19 : Int32)))), .val (.int (1 : Int32)), .val (.int (bz ((W ((p1 &&& (2147483647 : Int32)) % (19 : Int32))) = W 0 ∨ (W ((p1 &&& (2147483647 : Int32)) % (19 : Int32))) = W 1)))] [])) (fun t k => XS.ifNo X4.here hx rfl (hb hby at_59) rfl ((if0 _ _).trans (feq (by rw [hc14]; decide)).1) k) ?_
    refine own_s (B := T4.setTop (mkF m 63 #[.val (.int p1), .val (.int ((p1 &&& (2147483647 : Int32)) % (19 : Int32))), .val (.ref (W ((p1 &&& (2147483647 : Int32)) % (19 : Int32)))), .val (.int (1 : Int32)), .val (.int (bz ((W ((p1 &&& (2147483647 : Int32)) % (19 : Int32))) = W 0 ∨ (W ((p1 &&& (2147483647 : Int32)) % (19 : Int32))) = W 1)))] [(.ref (W ((p1 &&& (2147483647 : Int32)) % (19 : Int32))))])) (fun t k => XS.aloadN X4.here hx rfl (hb hby at_62) rfl rfl k) ?_
    refine own_s (B := T4.setTop (mkF m 64 #[.val (.int p1), .val (.int ((p1 &&& (2147483647 : Int32)) % (19 : Int32))), .val (.ref (W ((p1 &&& (2147483647 : Int32)) % (19 : Int32)))), .val (.int (1 : Int32)), .val (.int (bz ((W ((p1 &&& (2147483647 : Int32)) % (19 : Int32))) = W 0 ∨ (W ((p1 &&& (2147483647 : Int32)) % (19 : Int32))) = W 1)))] [(.int (1 : Int32)), (.ref (W ((p1 &&& (2147483647 : Int32)) % (19 : Int32))))])) (fun t k => XS.iconst X4.here hx rfl (hb hby at_63) k) ?_
    obtain ⟨cq5, kq5, q5a, q5b, q5c⟩ := isOf hZ e4 (XW _ (own_m p1).1 (own_m p1).2)
    obtain ⟨_, _, ⟨T5, L5, k5, n5⟩, -, X5, ⟨Lc5, hQ5, l5, y5, z5⟩, st5⟩ := X4.virtualBack hx (y := (⟨"com/example/tally/tally/XPathFunction", "reads", "(I)Z"⟩ : MethodName)) (z := (⟨"com/example/tally/tally/XPathFunction", "reads", "(I)Z"⟩ : MethodName)) hown (mvT hZ (hw _ (List.mem_of_getElem? (i := 19) rfl))) (mvT hZ (hw _ (List.mem_of_getElem? (i := 20) rfl))) (notFace_of_selects (args := #[]) (mvT hZ (hw _ (List.mem_of_getElem? (i := 22) rfl)))) (mvT hZ (hw _ (List.mem_of_getElem? (i := 22) rfl))) (mvT hZ (hw _ (List.mem_of_getElem? (i := 21) rfl))) (by decide) (backOf (W := 0) (rm4 l Z a0 hw [] (W ((p1 &&& (2147483647 : Int32)) % (19 : Int32))) (1 : Int32) (loS ((p1 &&& (2147483647 : Int32)) % (19 : Int32))) (hiS ((p1 &&& (2147483647 : Int32)) % (19 : Int32))) h0 n0 Z0 (FL _ (own_m p1).1 (own_m p1).2) (FM _ (own_m p1).1 (own_m p1).2)) hZ (hw _ (List.mem_of_getElem? (i := 23) rfl)) (hw _ (List.mem_of_getElem? (i := 6) rfl)) (by decide) (by decide)) q5a q5c (g := (mkF m 64 #[.val (.int p1), .val (.int ((p1 &&& (2147483647 : Int32)) % (19 : Int32))), .val (.ref (W ((p1 &&& (2147483647 : Int32)) % (19 : Int32)))), .val (.int (1 : Int32)), .val (.int (bz ((W ((p1 &&& (2147483647 : Int32)) % (19 : Int32))) = W 0 ∨ (W ((p1 &&& (2147483647 : Int32)) % (19 : Int32))) = W 1)))] [(.int (1 : Int32)), (.ref (W ((p1 &&& (2147483647 : Int32)) % (19 : Int32))))])) rfl (by rw [hml]; rfl) (Steps.refl _) (argsL := [(.int (1 : Int32))]) (rest := []) (lenOf pd_2 rfl) rfl (by show 2 * 0 + _ ≤ _; exact Nat.le_of_eq rfl) (hb hby at_64) (fun _ _ => ⟨rfl, e4, (by decide : 0 + 0 ≤ _), (by decide : 0 + 0 ≤ _)⟩)
    dsimp only [Pt.U, Pt.locs, Pt.cells, Pt.slots] at X5 l5 y5 z5 st5 hQ5
    subst l5 y5 z5
    obtain ⟨rfl, N5q, e5⟩ := hQ5
    have N5 := Fr.app N4 N5q
    refine own_s (B := T5.setTop (mkF m 67 #[.val (.int p1), .val (.int ((p1 &&& (2147483647 : Int32)) % (19 : Int32))), .val (.ref (W ((p1 &&& (2147483647 : Int32)) % (19 : Int32)))), .val (.int (1 : Int32)), .val (.int (bz ((W ((p1 &&& (2147483647 : Int32)) % (19 : Int32))) = W 0 ∨ (W ((p1 &&& (2147483647 : Int32)) % (19 : Int32))) = W 1)))] [(.int (bz (¬ (1 : Int32) < loS ((p1 &&& (2147483647 : Int32)) % (19 : Int32)) ∧ ¬ hiS ((p1 &&& (2147483647 : Int32)) % (19 : Int32)) < (1 : Int32))))])) (fun t k => st5.trans k) ?_
    refine own_s (B := T5.setTop (mkF m 70 #[.val (.int p1), .val (.int ((p1 &&& (2147483647 : Int32)) % (19 : Int32))), .val (.ref (W ((p1 &&& (2147483647 : Int32)) % (19 : Int32)))), .val (.int (1 : Int32)), .val (.int (bz ((W ((p1 &&& (2147483647 : Int32)) % (19 : Int32))) = W 0 ∨ (W ((p1 &&& (2147483647 : Int32)) % (19 : Int32))) = W 1)))] [])) (fun t k => XS.ifNo X5.here hx rfl (hb hby at_67) rfl ((if0 _ _).trans (teq (by rw [hc14]; decide)).2) k) ?_
    refine own_s (B := T5.setTop (mkF m 71 #[.val (.int p1), .val (.int ((p1 &&& (2147483647 : Int32)) % (19 : Int32))), .val (.ref (W ((p1 &&& (2147483647 : Int32)) % (19 : Int32)))), .val (.int (1 : Int32)), .val (.int (bz ((W ((p1 &&& (2147483647 : Int32)) % (19 : Int32))) = W 0 ∨ (W ((p1 &&& (2147483647 : Int32)) % (19 : Int32))) = W 1)))] [(.int (1 : Int32))])) (fun t k => XS.iconst X5.here hx rfl (hb hby at_70) k) ?_
    refine own_s (B := T5.setTop (mkF m 75 #[.val (.int p1), .val (.int ((p1 &&& (2147483647 : Int32)) % (19 : Int32))), .val (.ref (W ((p1 &&& (2147483647 : Int32)) % (19 : Int32)))), .val (.int (1 : Int32)), .val (.int (bz ((W ((p1 &&& (2147483647 : Int32)) % (19 : Int32))) = W 0 ∨ (W ((p1 &&& (2147483647 : Int32)) % (19 : Int32))) = W 1)))] [(.int (1 : Int32))])) (fun t k => XS.goto X5.here hx rfl (pc0 := 71) (pc' := 75) rfl (hb hby at_71) (by decide) (by decide) k) ?_
    exact own_retB X5 hx hlk (t := .boolean) Bd.returns (by simp) (hb hby at_75) (by decide) (by decide) ⟨rfl, N5⟩
  · refine own_s (B := T1.setTop (mkF m 17 #[.val (.int p1), .val (.int ((p1 &&& (2147483647 : Int32)) % (19 : Int32))), .val (.ref (W ((p1 &&& (2147483647 : Int32)) % (19 : Int32)))), .unset, .unset] [])) (fun t k => XS.ifNo X1.here hx rfl (hb hby at_14) rfl ((if0 _ _).trans (feq hc14).1) k) ?_
    refine own_s (B := T1.setTop (mkF m 18 #[.val (.int p1), .val (.int ((p1 &&& (2147483647 : Int32)) % (19 : Int32))), .val (.ref (W ((p1 &&& (2147483647 : Int32)) % (19 : Int32)))), .unset, .unset] [(.int ((p1 &&& (2147483647 : Int32)) % (19 : Int32)))])) (fun t k => XS.iloadN X1.here hx rfl (hb hby at_17) rfl k) ?_
    refine own_s (B := T1.setTop (mkF m 19 #[.val (.int p1), .val (.int ((p1 &&& (2147483647 : Int32)) % (19 : Int32))), .val (.ref (W ((p1 &&& (2147483647 : Int32)) % (19 : Int32)))), .unset, .unset] [(.int (1 : Int32)), (.int ((p1 &&& (2147483647 : Int32)) % (19 : Int32)))])) (fun t k => XS.iconst X1.here hx rfl (hb hby at_18) k) ?_
    by_cases hc19 : ((p1 &&& (2147483647 : Int32)) % (19 : Int32)) = (1 : Int32)
    · refine own_s (B := T1.setTop (mkF m 22 #[.val (.int p1), .val (.int ((p1 &&& (2147483647 : Int32)) % (19 : Int32))), .val (.ref (W ((p1 &&& (2147483647 : Int32)) % (19 : Int32)))), .unset, .unset] [])) (fun t k => XS.icmpNo X1.here hx rfl (hb hby at_19) rfl (teq hc19).2 k) ?_
      refine own_s (B := T1.setTop (mkF m 23 #[.val (.int p1), .val (.int ((p1 &&& (2147483647 : Int32)) % (19 : Int32))), .val (.ref (W ((p1 &&& (2147483647 : Int32)) % (19 : Int32)))), .unset, .unset] [(.int (1 : Int32))])) (fun t k => XS.iconst X1.here hx rfl (hb hby at_22) k) ?_
      refine own_s (B := T1.setTop (mkF m 27 #[.val (.int p1), .val (.int ((p1 &&& (2147483647 : Int32)) % (19 : Int32))), .val (.ref (W ((p1 &&& (2147483647 : Int32)) % (19 : Int32)))), .unset, .unset] [(.int (1 : Int32))])) (fun t k => XS.goto X1.here hx rfl (pc0 := 23) (pc' := 27) rfl (hb hby at_23) (by decide) (by decide) k) ?_
      refine own_s (B := T1.setTop (mkF m 28 #[.val (.int p1), .val (.int ((p1 &&& (2147483647 : Int32)) % (19 : Int32))), .val (.ref (W ((p1 &&& (2147483647 : Int32)) % (19 : Int32)))), .val (.int (1 : Int32)), .unset] [])) (fun t k => XS.istoreN X1.here hx rfl (hb hby at_27) rfl (l' := #[.val (.int p1), .val (.int ((p1 &&& (2147483647 : Int32)) % (19 : Int32))), .val (.ref (W ((p1 &&& (2147483647 : Int32)) % (19 : Int32)))), .val (.int (1 : Int32)), .unset]) rfl k) ?_
      refine own_s (B := T1.setTop (mkF m 29 #[.val (.int p1), .val (.int ((p1 &&& (2147483647 : Int32)) % (19 : Int32))), .val (.ref (W ((p1 &&& (2147483647 : Int32)) % (19 : Int32)))), .val (.int (1 : Int32)), .unset] [(.ref (W ((p1 &&& (2147483647 : Int32)) % (19 : Int32))))])) (fun t k => XS.aloadN X1.here hx rfl (hb hby at_28) rfl rfl k) ?_
      obtain ⟨cq6, kq6, q6a, q6b, q6c⟩ := isOf hZ e1 (XW _ (own_m p1).1 (own_m p1).2)
      obtain ⟨_, _, ⟨T6, L6, k6, n6⟩, -, X6, ⟨Lc6, hQ6, l6, y6, z6⟩, st6⟩ := X1.virtualBack hx (y := (⟨"com/example/tally/tally/XPathFunction", "usesPosition", "()Z"⟩ : MethodName)) (z := (⟨"com/example/tally/tally/XPathFunction", "usesPosition", "()Z"⟩ : MethodName)) hown (mvT hZ (hw _ (List.mem_of_getElem? (i := 8) rfl))) (mvT hZ (hw _ (List.mem_of_getElem? (i := 9) rfl))) (notFace_of_selects (args := #[]) (mvT hZ (hw _ (List.mem_of_getElem? (i := 11) rfl)))) (mvT hZ (hw _ (List.mem_of_getElem? (i := 11) rfl))) (mvT hZ (hw _ (List.mem_of_getElem? (i := 10) rfl))) (by decide) (backOf (W := 0) (rm2 l Z a0 hw [] (W ((p1 &&& (2147483647 : Int32)) % (19 : Int32))) W h0 n0 Z0 EW) hZ (hw _ (List.mem_of_getElem? (i := 12) rfl)) (hw _ (List.mem_of_getElem? (i := 6) rfl)) (by decide) (by decide)) q6a q6c (g := (mkF m 29 #[.val (.int p1), .val (.int ((p1 &&& (2147483647 : Int32)) % (19 : Int32))), .val (.ref (W ((p1 &&& (2147483647 : Int32)) % (19 : Int32)))), .val (.int (1 : Int32)), .unset] [(.ref (W ((p1 &&& (2147483647 : Int32)) % (19 : Int32))))])) rfl (by rw [hml]; rfl) (Steps.refl _) (argsL := []) (rest := []) (lenOf pd_1 rfl) rfl (by show 2 * 0 + _ ≤ _; exact Nat.le_of_eq rfl) (hb hby at_29) (fun _ _ => ⟨rfl, e1, (by decide : 0 + 0 ≤ _), (by decide : 0 + 0 ≤ _)⟩)
      dsimp only [Pt.U, Pt.locs, Pt.cells, Pt.slots] at X6 l6 y6 z6 st6 hQ6
      subst l6 y6 z6
      obtain ⟨rfl, N6q, e6⟩ := hQ6
      have N6 := Fr.app N1 N6q
      refine own_s (B := T6.setTop (mkF m 32 #[.val (.int p1), .val (.int ((p1 &&& (2147483647 : Int32)) % (19 : Int32))), .val (.ref (W ((p1 &&& (2147483647 : Int32)) % (19 : Int32)))), .val (.int (1 : Int32)), .unset] [(.int (bz ((W ((p1 &&& (2147483647 : Int32)) % (19 : Int32))) = W 0 ∨ (W ((p1 &&& (2147483647 : Int32)) % (19 : Int32))) = W 1)))])) (fun t k => st6.trans k) ?_
      refine own_s (B := T6.setTop (mkF m 34 #[.val (.int p1), .val (.int ((p1 &&& (2147483647 : Int32)) % (19 : Int32))), .val (.ref (W ((p1 &&& (2147483647 : Int32)) % (19 : Int32)))), .val (.int (1 : Int32)), .val (.int (bz ((W ((p1 &&& (2147483647 : Int32)) % (19 : Int32))) = W 0 ∨ (W ((p1 &&& (2147483647 : Int32)) % (19 : Int32))) = W 1)))] [])) (fun t k => XS.istore X6.here hx rfl (hb hby at_32) rfl (l' := #[.val (.int p1), .val (.int ((p1 &&& (2147483647 : Int32)) % (19 : Int32))), .val (.ref (W ((p1 &&& (2147483647 : Int32)) % (19 : Int32)))), .val (.int (1 : Int32)), .val (.int (bz ((W ((p1 &&& (2147483647 : Int32)) % (19 : Int32))) = W 0 ∨ (W ((p1 &&& (2147483647 : Int32)) % (19 : Int32))) = W 1)))]) rfl k) ?_
      refine own_s (B := T6.setTop (mkF m 36 #[.val (.int p1), .val (.int ((p1 &&& (2147483647 : Int32)) % (19 : Int32))), .val (.ref (W ((p1 &&& (2147483647 : Int32)) % (19 : Int32)))), .val (.int (1 : Int32)), .val (.int (bz ((W ((p1 &&& (2147483647 : Int32)) % (19 : Int32))) = W 0 ∨ (W ((p1 &&& (2147483647 : Int32)) % (19 : Int32))) = W 1)))] [(.int (bz ((W ((p1 &&& (2147483647 : Int32)) % (19 : Int32))) = W 0 ∨ (W ((p1 &&& (2147483647 : Int32)) % (19 : Int32))) = W 1)))])) (fun t k => XS.iload X6.here hx rfl (hb hby at_34) rfl k) ?_
      refine own_s (B := T6.setTop (mkF m 37 #[.val (.int p1), .val (.int ((p1 &&& (2147483647 : Int32)) % (19 : Int32))), .val (.ref (W ((p1 &&& (2147483647 : Int32)) % (19 : Int32)))), .val (.int (1 : Int32)), .val (.int (bz ((W ((p1 &&& (2147483647 : Int32)) % (19 : Int32))) = W 0 ∨ (W ((p1 &&& (2147483647 : Int32)) % (19 : Int32))) = W 1)))] [(.int (1 : Int32)), (.int (bz ((W ((p1 &&& (2147483647 : Int32)) % (19 : Int32))) = W 0 ∨ (W ((p1 &&& (2147483647 : Int32)) % (19 : Int32))) = W 1)))])) (fun t k => XS.iloadN X6.here hx rfl (hb hby at_36) rfl k) ?_
      refine own_s (B := T6.setTop (mkF m 42 #[.val (.int p1), .val (.int ((p1 &&& (2147483647 : Int32)) % (19 : Int32))), .val (.ref (W ((p1 &&& (2147483647 : Int32)) % (19 : Int32)))), .val (.int (1 : Int32)), .val (.int (bz ((W ((p1 &&& (2147483647 : Int32)) % (19 : Int32))) = W 0 ∨ (W ((p1 &&& (2147483647 : Int32)) % (19 : Int32))) = W 1)))] [])) (fun t k => XS.icmpYes X6.here hx rfl (pc0 := 37) (pc' := 42) rfl (hb hby at_37) rfl (teq (own_b1 ((own_u IW (own_m p1).1 (own_m p1).2).mpr (Or.inr hc19)))).1 (by decide) (by decide) k) ?_
      refine own_s (B := T6.setTop (mkF m 44 #[.val (.int p1), .val (.int ((p1 &&& (2147483647 : Int32)) % (19 : Int32))), .val (.ref (W ((p1 &&& (2147483647 : Int32)) % (19 : Int32)))), .val (.int (1 : Int32)), .val (.int (bz ((W ((p1 &&& (2147483647 : Int32)) % (19 : Int32))) = W 0 ∨ (W ((p1 &&& (2147483647 : Int32)) % (19 : Int32))) = W 1)))] [(.int (bz ((W ((p1 &&& (2147483647 : Int32)) % (19 : Int32))) = W 0 ∨ (W ((p1 &&& (2147483647 : Int32)) % (19 : Int32))) = W 1)))])) (fun t k => XS.iload X6.here hx rfl (hb hby at_42) rfl k) ?_
      refine own_s (B := T6.setTop (mkF m 47 #[.val (.int p1), .val (.int ((p1 &&& (2147483647 : Int32)) % (19 : Int32))), .val (.ref (W ((p1 &&& (2147483647 : Int32)) % (19 : Int32)))), .val (.int (1 : Int32)), .val (.int (bz ((W ((p1 &&& (2147483647 : Int32)) % (19 : Int32))) = W 0 ∨ (W ((p1 &&& (2147483647 : Int32)) % (19 : Int32))) = W 1)))] [])) (fun t k => XS.ifNo X6.here hx rfl (hb hby at_44) rfl ((if0 _ _).trans (feq (own_n0 ((own_u IW (own_m p1).1 (own_m p1).2).mpr (Or.inr hc19)))).1) k) ?_
      refine own_s (B := T6.setTop (mkF m 48 #[.val (.int p1), .val (.int ((p1 &&& (2147483647 : Int32)) % (19 : Int32))), .val (.ref (W ((p1 &&& (2147483647 : Int32)) % (19 : Int32)))), .val (.int (1 : Int32)), .val (.int (bz ((W ((p1 &&& (2147483647 : Int32)) % (19 : Int32))) = W 0 ∨ (W ((p1 &&& (2147483647 : Int32)) % (19 : Int32))) = W 1)))] [(.ref (W ((p1 &&& (2147483647 : Int32)) % (19 : Int32))))])) (fun t k => XS.aloadN X6.here hx rfl (hb hby at_47) rfl rfl k) ?_
      obtain ⟨cq7, kq7, q7a, q7b, q7c⟩ := isOf hZ e6 (XW _ (own_m p1).1 (own_m p1).2)
      obtain ⟨_, _, ⟨T7, L7, k7, n7⟩, -, X7, ⟨Lc7, hQ7, l7, y7, z7⟩, st7⟩ := X6.virtualBack hx (y := (⟨"com/example/tally/tally/XPathFunction", "isNumeric", "()Z"⟩ : MethodName)) (z := (⟨"com/example/tally/tally/XPathFunction", "isNumeric", "()Z"⟩ : MethodName)) hown (mvT hZ (hw _ (List.mem_of_getElem? (i := 14) rfl))) (mvT hZ (hw _ (List.mem_of_getElem? (i := 15) rfl))) (notFace_of_selects (args := #[]) (mvT hZ (hw _ (List.mem_of_getElem? (i := 17) rfl)))) (mvT hZ (hw _ (List.mem_of_getElem? (i := 17) rfl))) (mvT hZ (hw _ (List.mem_of_getElem? (i := 16) rfl))) (by decide) (backOf (W := 0) (rm3 l Z a0 hw [] (W ((p1 &&& (2147483647 : Int32)) % (19 : Int32))) W h0 n0 Z0 EW ((own_u IW (own_m p1).1 (own_m p1).2).mpr (Or.inr hc19))) hZ (hw _ (List.mem_of_getElem? (i := 18) rfl)) (hw _ (List.mem_of_getElem? (i := 6) rfl)) (by decide) (by decide)) q7a q7c (g := (mkF m 48 #[.val (.int p1), .val (.int ((p1 &&& (2147483647 : Int32)) % (19 : Int32))), .val (.ref (W ((p1 &&& (2147483647 : Int32)) % (19 : Int32)))), .val (.int (1 : Int32)), .val (.int (bz ((W ((p1 &&& (2147483647 : Int32)) % (19 : Int32))) = W 0 ∨ (W ((p1 &&& (2147483647 : Int32)) % (19 : Int32))) = W 1)))] [(.ref (W ((p1 &&& (2147483647 : Int32)) % (19 : Int32))))])) rfl (by rw [hml]; rfl) (Steps.refl _) (argsL := []) (rest := []) (lenOf pd_1 rfl) rfl (by show 2 * 0 + _ ≤ _; exact Nat.le_of_eq rfl) (hb hby at_48) (fun _ _ => ⟨rfl, e6, (by decide : 0 + 0 ≤ _), (by decide : 0 + 0 ≤ _)⟩)
      dsimp only [Pt.U, Pt.locs, Pt.cells, Pt.slots] at X7 l7 y7 z7 st7 hQ7
      subst l7 y7 z7
      obtain ⟨rfl, N7q, e7⟩ := hQ7
      have N7 := Fr.app N6 N7q
      refine own_s (B := T7.setTop (mkF m 51 #[.val (.int p1), .val (.int ((p1 &&& (2147483647 : Int32)) % (19 : Int32))), .val (.ref (W ((p1 &&& (2147483647 : Int32)) % (19 : Int32)))), .val (.int (1 : Int32)), .val (.int (bz ((W ((p1 &&& (2147483647 : Int32)) % (19 : Int32))) = W 0 ∨ (W ((p1 &&& (2147483647 : Int32)) % (19 : Int32))) = W 1)))] [(.int (1 : Int32))])) (fun t k => st7.trans k) ?_
      refine own_s (B := T7.setTop (mkF m 54 #[.val (.int p1), .val (.int ((p1 &&& (2147483647 : Int32)) % (19 : Int32))), .val (.ref (W ((p1 &&& (2147483647 : Int32)) % (19 : Int32)))), .val (.int (1 : Int32)), .val (.int (bz ((W ((p1 &&& (2147483647 : Int32)) % (19 : Int32))) = W 0 ∨ (W ((p1 &&& (2147483647 : Int32)) % (19 : Int32))) = W 1)))] [])) (fun t k => XS.ifNo X7.here hx rfl (hb hby at_51) rfl ((if0 _ _).trans (feq (by decide)).1) k) ?_
      refine own_s (B := T7.setTop (mkF m 55 #[.val (.int p1), .val (.int ((p1 &&& (2147483647 : Int32)) % (19 : Int32))), .val (.ref (W ((p1 &&& (2147483647 : Int32)) % (19 : Int32)))), .val (.int (1 : Int32)), .val (.int (bz ((W ((p1 &&& (2147483647 : Int32)) % (19 : Int32))) = W 0 ∨ (W ((p1 &&& (2147483647 : Int32)) % (19 : Int32))) = W 1)))] [(.ref (W ((p1 &&& (2147483647 : Int32)) % (19 : Int32))))])) (fun t k => XS.aloadN X7.here hx rfl (hb hby at_54) rfl rfl k) ?_
      refine own_s (B := T7.setTop (mkF m 56 #[.val (.int p1), .val (.int ((p1 &&& (2147483647 : Int32)) % (19 : Int32))), .val (.ref (W ((p1 &&& (2147483647 : Int32)) % (19 : Int32)))), .val (.int (1 : Int32)), .val (.int (bz ((W ((p1 &&& (2147483647 : Int32)) % (19 : Int32))) = W 0 ∨ (W ((p1 &&& (2147483647 : Int32)) % (19 : Int32))) = W 1)))] [(.int (0 : Int32)), (.ref (W ((p1 &&& (2147483647 : Int32)) % (19 : Int32))))])) (fun t k => XS.iconst X7.here hx rfl (hb hby at_55) k) ?_
      obtain ⟨cq8, kq8, q8a, q8b, q8c⟩ := isOf hZ e7 (XW _ (own_m p1).1 (own_m p1).2)
      obtain ⟨_, _, ⟨T8, L8, k8, n8⟩, -, X8, ⟨Lc8, hQ8, l8, y8, z8⟩, st8⟩ := X7.virtualBack hx (y := (⟨"com/example/tally/tally/XPathFunction", "reads", "(I)Z"⟩ : MethodName)) (z := (⟨"com/example/tally/tally/XPathFunction", "reads", "(I)Z"⟩ : MethodName)) hown (mvT hZ (hw _ (List.mem_of_getElem? (i := 19) rfl))) (mvT hZ (hw _ (List.mem_of_getElem? (i := 20) rfl))) (notFace_of_selects (args := #[]) (mvT hZ (hw _ (List.mem_of_getElem? (i := 22) rfl)))) (mvT hZ (hw _ (List.mem_of_getElem? (i := 22) rfl))) (mvT hZ (hw _ (List.mem_of_getElem? (i := 21) rfl))) (by decide) (backOf (W := 0) (rm4 l Z a0 hw [] (W ((p1 &&& (2147483647 : Int32)) % (19 : Int32))) (0 : Int32) (loS ((p1 &&& (2147483647 : Int32)) % (19 : Int32))) (hiS ((p1 &&& (2147483647 : Int32)) % (19 : Int32))) h0 n0 Z0 (FL _ (own_m p1).1 (own_m p1).2) (FM _ (own_m p1).1 (own_m p1).2)) hZ (hw _ (List.mem_of_getElem? (i := 23) rfl)) (hw _ (List.mem_of_getElem? (i := 6) rfl)) (by decide) (by decide)) q8a q8c (g := (mkF m 56 #[.val (.int p1), .val (.int ((p1 &&& (2147483647 : Int32)) % (19 : Int32))), .val (.ref (W ((p1 &&& (2147483647 : Int32)) % (19 : Int32)))), .val (.int (1 : Int32)), .val (.int (bz ((W ((p1 &&& (2147483647 : Int32)) % (19 : Int32))) = W 0 ∨ (W ((p1 &&& (2147483647 : Int32)) % (19 : Int32))) = W 1)))] [(.int (0 : Int32)), (.ref (W ((p1 &&& (2147483647 : Int32)) % (19 : Int32))))])) rfl (by rw [hml]; rfl) (Steps.refl _) (argsL := [(.int (0 : Int32))]) (rest := []) (lenOf pd_2 rfl) rfl (by show 2 * 0 + _ ≤ _; exact Nat.le_of_eq rfl) (hb hby at_56) (fun _ _ => ⟨rfl, e7, (by decide : 0 + 0 ≤ _), (by decide : 0 + 0 ≤ _)⟩)
      dsimp only [Pt.U, Pt.locs, Pt.cells, Pt.slots] at X8 l8 y8 z8 st8 hQ8
      subst l8 y8 z8
      obtain ⟨rfl, N8q, e8⟩ := hQ8
      have N8 := Fr.app N7 N8q
      refine own_s (B := T8.setTop (mkF m 59 #[.val (.int p1), .val (.int ((p1 &&& (2147483647 : Int32)) % (19 : Int32))), .val (.ref (W ((p1 &&& (2147483647 : Int32)) % (19 : Int32)))), .val (.int (1 : Int32)), .val (.int (bz ((W ((p1 &&& (2147483647 : Int32)) % (19 : Int32))) = W 0 ∨ (W ((p1 &&& (2147483647 : Int32)) % (19 : Int32))) = W 1)))] [(.int (bz (¬ (0 : Int32) < loS ((p1 &&& (2147483647 : Int32)) % (19 : Int32)) ∧ ¬ hiS ((p1 &&& (2147483647 : Int32)) % (19 : Int32)) < (0 : Int32))))])) (fun t k => st8.trans k) ?_
      refine own_s (B := T8.setTop (mkF m 62 #[.val (.int p1), .val (.int ((p1 &&& (2147483647 : Int32)) % (19 : Int32))), .val (.ref (W ((p1 &&& (2147483647 : Int32)) % (19 : Int32)))), .val (.int (1 : Int32)), .val (.int (bz ((W ((p1 &&& (2147483647 : Int32)) % (19 : Int32))) = W 0 ∨ (W ((p1 &&& (2147483647 : Int32)) % (19 : Int32))) = W 1)))] [])) (fun t k => XS.ifNo X8.here hx rfl (hb hby at_59) rfl ((if0 _ _).trans (feq (by rw [hc19]; decide)).1) k) ?_
      refine own_s (B := T8.setTop (mkF m 63 #[.val (.int p1), .val (.int ((p1 &&& (2147483647 : Int32)) % (19 : Int32))), .val (.ref (W ((p1 &&& (2147483647 : Int32)) % (19 : Int32)))), .val (.int (1 : Int32)), .val (.int (bz ((W ((p1 &&& (2147483647 : Int32)) % (19 : Int32))) = W 0 ∨ (W ((p1 &&& (2147483647 : Int32)) % (19 : Int32))) = W 1)))] [(.ref (W ((p1 &&& (2147483647 : Int32)) % (19 : Int32))))])) (fun t k => XS.aloadN X8.here hx rfl (hb hby at_62) rfl rfl k) ?_
      refine own_s (B := T8.setTop (mkF m 64 #[.val (.int p1), .val (.int ((p1 &&& (2147483647 : Int32)) % (19 : Int32))), .val (.ref (W ((p1 &&& (2147483647 : Int32)) % (19 : Int32)))), .val (.int (1 : Int32)), .val (.int (bz ((W ((p1 &&& (2147483647 : Int32)) % (19 : Int32))) = W 0 ∨ (W ((p1 &&& (2147483647 : Int32)) % (19 : Int32))) = W 1)))] [(.int (1 : Int32)), (.ref (W ((p1 &&& (2147483647 : Int32)) % (19 : Int32))))])) (fun t k => XS.iconst X8.here hx rfl (hb hby at_63) k) ?_
      obtain ⟨cq9, kq9, q9a, q9b, q9c⟩ := isOf hZ e8 (XW _ (own_m p1).1 (own_m p1).2)
      obtain ⟨_, _, ⟨T9, L9, k9, n9⟩, -, X9, ⟨Lc9, hQ9, l9, y9, z9⟩, st9⟩ := X8.virtualBack hx (y := (⟨"com/example/tally/tally/XPathFunction", "reads", "(I)Z"⟩ : MethodName)) (z := (⟨"com/example/tally/tally/XPathFunction", "reads", "(I)Z"⟩ : MethodName)) hown (mvT hZ (hw _ (List.mem_of_getElem? (i := 19) rfl))) (mvT hZ (hw _ (List.mem_of_getElem? (i := 20) rfl))) (notFace_of_selects (args := #[]) (mvT hZ (hw _ (List.mem_of_getElem? (i := 22) rfl)))) (mvT hZ (hw _ (List.mem_of_getElem? (i := 22) rfl))) (mvT hZ (hw _ (List.mem_of_getElem? (i := 21) rfl))) (by decide) (backOf (W := 0) (rm4 l Z a0 hw [] (W ((p1 &&& (2147483647 : Int32)) % (19 : Int32))) (1 : Int32) (loS ((p1 &&& (2147483647 : Int32)) % (19 : Int32))) (hiS ((p1 &&& (2147483647 : Int32)) % (19 : Int32))) h0 n0 Z0 (FL _ (own_m p1).1 (own_m p1).2) (FM _ (own_m p1).1 (own_m p1).2)) hZ (hw _ (List.mem_of_getElem? (i := 23) rfl)) (hw _ (List.mem_of_getElem? (i := 6) rfl)) (by decide) (by decide)) q9a q9c (g := (mkF m 64 #[.val (.int p1), .val (.int ((p1 &&& (2147483647 : Int32)) % (19 : Int32))), .val (.ref (W ((p1 &&& (2147483647 : Int32)) % (19 : Int32)))), .val (.int (1 : Int32)), .val (.int (bz ((W ((p1 &&& (2147483647 : Int32)) % (19 : Int32))) = W 0 ∨ (W ((p1 &&& (2147483647 : Int32)) % (19 : Int32))) = W 1)))] [(.int (1 : Int32)), (.ref (W ((p1 &&& (2147483647 : Int32)) % (19 : Int32))))])) rfl (by rw [hml]; rfl) (Steps.refl _) (argsL := [(.int (1 : Int32))]) (rest := []) (lenOf pd_2 rfl) rfl (by show 2 * 0 + _ ≤ _; exact Nat.le_of_eq rfl) (hb hby at_64) (fun _ _ => ⟨rfl, e8, (by decide : 0 + 0 ≤ _), (by decide : 0 + 0 ≤ _)⟩)
      dsimp only [Pt.U, Pt.locs, Pt.cells, Pt.slots] at X9 l9 y9 z9 st9 hQ9
      subst l9 y9 z9
      obtain ⟨rfl, N9q, e9⟩ := hQ9
      have N9 := Fr.app N8 N9q
      refine own_s (B := T9.setTop (mkF m 67 #[.val (.int p1), .val (.int ((p1 &&& (2147483647 : Int32)) % (19 : Int32))), .val (.ref (W ((p1 &&& (2147483647 : Int32)) % (19 : Int32)))), .val (.int (1 : Int32)), .val (.int (bz ((W ((p1 &&& (2147483647 : Int32)) % (19 : Int32))) = W 0 ∨ (W ((p1 &&& (2147483647 : Int32)) % (19 : Int32))) = W 1)))] [(.int (bz (¬ (1 : Int32) < loS ((p1 &&& (2147483647 : Int32)) % (19 : Int32)) ∧ ¬ hiS ((p1 &&& (2147483647 : Int32)) % (19 : Int32)) < (1 : Int32))))])) (fun t k => st9.trans k) ?_
      refine own_s (B := T9.setTop (mkF m 70 #[.val (.int p1), .val (.int ((p1 &&& (2147483647 : Int32)) % (19 : Int32))), .val (.ref (W ((p1 &&& (2147483647 : Int32)) % (19 : Int32)))), .val (.int (1 : Int32)), .val (.int (bz ((W ((p1 &&& (2147483647 : Int32)) % (19 : Int32))) = W 0 ∨ (W ((p1 &&& (2147483647 : Int32)) % (19 : Int32))) = W 1)))] [])) (fun t k => XS.ifNo X9.here hx rfl (hb hby at_67) rfl ((if0 _ _).trans (teq (by rw [hc19]; decide)).2) k) ?_
      refine own_s (B := T9.setTop (mkF m 71 #[.val (.int p1), .val (.int ((p1 &&& (2147483647 : Int32)) % (19 : Int32))), .val (.ref (W ((p1 &&& (2147483647 : Int32)) % (19 : Int32)))), .val (.int (1 : Int32)), .val (.int (bz ((W ((p1 &&& (2147483647 : Int32)) % (19 : Int32))) = W 0 ∨ (W ((p1 &&& (2147483647 : Int32)) % (19 : Int32))) = W 1)))] [(.int (1 : Int32))])) (fun t k => XS.iconst X9.here hx rfl (hb hby at_70) k) ?_
      refine own_s (B := T9.setTop (mkF m 75 #[.val (.int p1), .val (.int ((p1 &&& (2147483647 : Int32)) % (19 : Int32))), .val (.ref (W ((p1 &&& (2147483647 : Int32)) % (19 : Int32)))), .val (.int (1 : Int32)), .val (.int (bz ((W ((p1 &&& (2147483647 : Int32)) % (19 : Int32))) = W 0 ∨ (W ((p1 &&& (2147483647 : Int32)) % (19 : Int32))) = W 1)))] [(.int (1 : Int32))])) (fun t k => XS.goto X9.here hx rfl (pc0 := 71) (pc' := 75) rfl (hb hby at_71) (by decide) (by decide) k) ?_
      exact own_retB X9 hx hlk (t := .boolean) Bd.returns (by simp) (hb hby at_75) (by decide) (by decide) ⟨rfl, N9⟩
    · refine own_s (B := T1.setTop (mkF m 26 #[.val (.int p1), .val (.int ((p1 &&& (2147483647 : Int32)) % (19 : Int32))), .val (.ref (W ((p1 &&& (2147483647 : Int32)) % (19 : Int32)))), .unset, .unset] [])) (fun t k => XS.icmpYes X1.here hx rfl (pc0 := 19) (pc' := 26) rfl (hb hby at_19) rfl (feq hc19).2 (by decide) (by decide) k) ?_
      refine own_s (B := T1.setTop (mkF m 27 #[.val (.int p1), .val (.int ((p1 &&& (2147483647 : Int32)) % (19 : Int32))), .val (.ref (W ((p1 &&& (2147483647 : Int32)) % (19 : Int32)))), .unset, .unset] [(.int (0 : Int32))])) (fun t k => XS.iconst X1.here hx rfl (hb hby at_26) k) ?_
      refine own_s (B := T1.setTop (mkF m 28 #[.val (.int p1), .val (.int ((p1 &&& (2147483647 : Int32)) % (19 : Int32))), .val (.ref (W ((p1 &&& (2147483647 : Int32)) % (19 : Int32)))), .val (.int (0 : Int32)), .unset] [])) (fun t k => XS.istoreN X1.here hx rfl (hb hby at_27) rfl (l' := #[.val (.int p1), .val (.int ((p1 &&& (2147483647 : Int32)) % (19 : Int32))), .val (.ref (W ((p1 &&& (2147483647 : Int32)) % (19 : Int32)))), .val (.int (0 : Int32)), .unset]) rfl k) ?_
      refine own_s (B := T1.setTop (mkF m 29 #[.val (.int p1), .val (.int ((p1 &&& (2147483647 : Int32)) % (19 : Int32))), .val (.ref (W ((p1 &&& (2147483647 : Int32)) % (19 : Int32)))), .val (.int (0 : Int32)), .unset] [(.ref (W ((p1 &&& (2147483647 : Int32)) % (19 : Int32))))])) (fun t k => XS.aloadN X1.here hx rfl (hb hby at_28) rfl rfl k) ?_
      obtain ⟨cq10, kq10, q10a, q10b, q10c⟩ := isOf hZ e1 (XW _ (own_m p1).1 (own_m p1).2)
      obtain ⟨_, _, ⟨T10, L10, k10, n10⟩, -, X10, ⟨Lc10, hQ10, l10, y10, z10⟩, st10⟩ := X1.virtualBack hx (y := (⟨"com/example/tally/tally/XPathFunction", "usesPosition", "()Z"⟩ : MethodName)) (z := (⟨"com/example/tally/tally/XPathFunction", "usesPosition", "()Z"⟩ : MethodName)) hown (mvT hZ (hw _ (List.mem_of_getElem? (i := 8) rfl))) (mvT hZ (hw _ (List.mem_of_getElem? (i := 9) rfl))) (notFace_of_selects (args := #[]) (mvT hZ (hw _ (List.mem_of_getElem? (i := 11) rfl)))) (mvT hZ (hw _ (List.mem_of_getElem? (i := 11) rfl))) (mvT hZ (hw _ (List.mem_of_getElem? (i := 10) rfl))) (by decide) (backOf (W := 0) (rm2 l Z a0 hw [] (W ((p1 &&& (2147483647 : Int32)) % (19 : Int32))) W h0 n0 Z0 EW) hZ (hw _ (List.mem_of_getElem? (i := 12) rfl)) (hw _ (List.mem_of_getElem? (i := 6) rfl)) (by decide) (by decide)) q10a q10c (g := (mkF m 29 #[.val (.int p1), .val (.int ((p1 &&& (2147483647 : Int32)) % (19 : Int32))), .val (.ref (W ((p1 &&& (2147483647 : Int32)) % (19 : Int32)))), .val (.int (0 : Int32)), .unset] [(.ref (W ((p1 &&& (2147483647 : Int32)) % (19 : Int32))))])) rfl (by rw [hml]; rfl) (Steps.refl _) (argsL := []) (rest := []) (lenOf pd_1 rfl) rfl (by show 2 * 0 + _ ≤ _; exact Nat.le_of_eq rfl) (hb hby at_29) (fun _ _ => ⟨rfl, e1, (by decide : 0 + 0 ≤ _), (by decide : 0 + 0 ≤ _)⟩)
      dsimp only [Pt.U, Pt.locs, Pt.cells, Pt.slots] at X10 l10 y10 z10 st10 hQ10
      subst l10 y10 z10
      obtain ⟨rfl, N10q, e10⟩ := hQ10
      have N10 := Fr.app N1 N10q
      refine own_s (B := T10.setTop (mkF m 32 #[.val (.int p1), .val (.int ((p1 &&& (2147483647 : Int32)) % (19 : Int32))), .val (.ref (W ((p1 &&& (2147483647 : Int32)) % (19 : Int32)))), .val (.int (0 : Int32)), .unset] [(.int (bz ((W ((p1 &&& (2147483647 : Int32)) % (19 : Int32))) = W 0 ∨ (W ((p1 &&& (2147483647 : Int32)) % (19 : Int32))) = W 1)))])) (fun t k => st10.trans k) ?_
      refine own_s (B := T10.setTop (mkF m 34 #[.val (.int p1), .val (.int ((p1 &&& (2147483647 : Int32)) % (19 : Int32))), .val (.ref (W ((p1 &&& (2147483647 : Int32)) % (19 : Int32)))), .val (.int (0 : Int32)), .val (.int (bz ((W ((p1 &&& (2147483647 : Int32)) % (19 : Int32))) = W 0 ∨ (W ((p1 &&& (2147483647 : Int32)) % (19 : Int32))) = W 1)))] [])) (fun t k => XS.istore X10.here hx rfl (hb hby at_32) rfl (l' := #[.val (.int p1), .val (.int ((p1 &&& (2147483647 : Int32)) % (19 : Int32))), .val (.ref (W ((p1 &&& (2147483647 : Int32)) % (19 : Int32)))), .val (.int (0 : Int32)), .val (.int (bz ((W ((p1 &&& (2147483647 : Int32)) % (19 : Int32))) = W 0 ∨ (W ((p1 &&& (2147483647 : Int32)) % (19 : Int32))) = W 1)))]) rfl k) ?_
      refine own_s (B := T10.setTop (mkF m 36 #[.val (.int p1), .val (.int ((p1 &&& (2147483647 : Int32)) % (19 : Int32))), .val (.ref (W ((p1 &&& (2147483647 : Int32)) % (19 : Int32)))), .val (.int (0 : Int32)), .val (.int (bz ((W ((p1 &&& (2147483647 : Int32)) % (19 : Int32))) = W 0 ∨ (W ((p1 &&& (2147483647 : Int32)) % (19 : Int32))) = W 1)))] [(.int (bz ((W ((p1 &&& (2147483647 : Int32)) % (19 : Int32))) = W 0 ∨ (W ((p1 &&& (2147483647 : Int32)) % (19 : Int32))) = W 1)))])) (fun t k => XS.iload X10.here hx rfl (hb hby at_34) rfl k) ?_
      refine own_s (B := T10.setTop (mkF m 37 #[.val (.int p1), .val (.int ((p1 &&& (2147483647 : Int32)) % (19 : Int32))), .val (.ref (W ((p1 &&& (2147483647 : Int32)) % (19 : Int32)))), .val (.int (0 : Int32)), .val (.int (bz ((W ((p1 &&& (2147483647 : Int32)) % (19 : Int32))) = W 0 ∨ (W ((p1 &&& (2147483647 : Int32)) % (19 : Int32))) = W 1)))] [(.int (0 : Int32)), (.int (bz ((W ((p1 &&& (2147483647 : Int32)) % (19 : Int32))) = W 0 ∨ (W ((p1 &&& (2147483647 : Int32)) % (19 : Int32))) = W 1)))])) (fun t k => XS.iloadN X10.here hx rfl (hb hby at_36) rfl k) ?_
      refine own_s (B := T10.setTop (mkF m 42 #[.val (.int p1), .val (.int ((p1 &&& (2147483647 : Int32)) % (19 : Int32))), .val (.ref (W ((p1 &&& (2147483647 : Int32)) % (19 : Int32)))), .val (.int (0 : Int32)), .val (.int (bz ((W ((p1 &&& (2147483647 : Int32)) % (19 : Int32))) = W 0 ∨ (W ((p1 &&& (2147483647 : Int32)) % (19 : Int32))) = W 1)))] [])) (fun t k => XS.icmpYes X10.here hx rfl (pc0 := 37) (pc' := 42) rfl (hb hby at_37) rfl (teq (own_b0 (fun q => ((own_u IW (own_m p1).1 (own_m p1).2).mp q).elim hc14 hc19))).1 (by decide) (by decide) k) ?_
      refine own_s (B := T10.setTop (mkF m 44 #[.val (.int p1), .val (.int ((p1 &&& (2147483647 : Int32)) % (19 : Int32))), .val (.ref (W ((p1 &&& (2147483647 : Int32)) % (19 : Int32)))), .val (.int (0 : Int32)), .val (.int (bz ((W ((p1 &&& (2147483647 : Int32)) % (19 : Int32))) = W 0 ∨ (W ((p1 &&& (2147483647 : Int32)) % (19 : Int32))) = W 1)))] [(.int (bz ((W ((p1 &&& (2147483647 : Int32)) % (19 : Int32))) = W 0 ∨ (W ((p1 &&& (2147483647 : Int32)) % (19 : Int32))) = W 1)))])) (fun t k => XS.iload X10.here hx rfl (hb hby at_42) rfl k) ?_
      refine own_s (B := T10.setTop (mkF m 76 #[.val (.int p1), .val (.int ((p1 &&& (2147483647 : Int32)) % (19 : Int32))), .val (.ref (W ((p1 &&& (2147483647 : Int32)) % (19 : Int32)))), .val (.int (0 : Int32)), .val (.int (bz ((W ((p1 &&& (2147483647 : Int32)) % (19 : Int32))) = W 0 ∨ (W ((p1 &&& (2147483647 : Int32)) % (19 : Int32))) = W 1)))] [])) (fun t k => XS.ifYes X10.here hx rfl (pc0 := 44) (pc' := 76) rfl (hb hby at_44) rfl ((if0 _ _).trans (teq (own_b0 (fun q => ((own_u IW (own_m p1).1 (own_m p1).2).mp q).elim hc14 hc19))).1) (by decide) (by decide) k) ?_
      refine own_s (B := T10.setTop (mkF m 77 #[.val (.int p1), .val (.int ((p1 &&& (2147483647 : Int32)) % (19 : Int32))), .val (.ref (W ((p1 &&& (2147483647 : Int32)) % (19 : Int32)))), .val (.int (0 : Int32)), .val (.int (bz ((W ((p1 &&& (2147483647 : Int32)) % (19 : Int32))) = W 0 ∨ (W ((p1 &&& (2147483647 : Int32)) % (19 : Int32))) = W 1)))] [(.int (1 : Int32))])) (fun t k => XS.iconst X10.here hx rfl (hb hby at_76) k) ?_
      exact own_retB X10 hx hlk (t := .boolean) Bd.returns (by simp) (hb hby at_77) (by decide) (by decide) ⟨rfl, N10⟩
set_option maxRecDepth 65536 in
set_option maxHeartbeats 40000000 in
theorem comes_1 {Post : Tables → Env → Array Value → State → Outcome → State → Prop} (hpost : ∀ tb e args s v u, (limb_1_1.after args s (.returned v) u = true ∧ limb_1_2.after args s (.returned v) u = true ∧ True) → FrameEnd s (.returned v) u (Jvm.fieldLocs frame_1_writes args s ++ Jvm.arrayLocs frame_1_arrays args s ++ Jvm.staticLocs frame_1_statics s) 0 0 → Post tb e args s (.returned v) u) :
    ArmFor flags0 classFile x code maxLocals ret World_1 tables_1 room_1 Calls_1 rest_1 Pre_1 Post := by
  intro l hfl _ _ p e ha hc hk s m args below hf hA hF happ hP
  obtain ⟨hcalls, hrest, hpre⟩ := hP
  obtain ⟨-, -, -, hnamed, -, -, -, hat⟩ := (Spec.applies_iff hf).mp happ
  obtain ⟨hg, hn⟩ := and_e (Cond.before_iff.mp (show (Jvm.Cond.and given_1 narrow_1).before args s = true from hpre))
  obtain ⟨g1a, g1b⟩ := and_e hg
  obtain ⟨w0, rfl⟩ : ∃ w0 : Value, args = #[w0] := by
    have hs : args.size = 1 := by simpa [Cond.value, given_1] using g1a
    obtain ⟨L⟩ := args
    match L, hs with
    | [w0], _ => exact ⟨w0, rfl⟩
  have hw := fun d (hd : d ∈ tables_1) => atoms_spec (ws := Jvm.Cond.code x code maxLocals ret :: tables_1) hat d (List.mem_cons_of_mem _ hd)
  have hfit : Fit s := fun {y c} hc i hi => by
    obtain ⟨ha, rfl⟩ := Array.getElem?_eq_some_iff.mp hc
    have q := List.all_eq_true.mp ((Array.all_eq_true_iff_forall_mem.mp hF) _ (Array.getElem_mem ha)) i (List.mem_range.mpr hi)
    simpa [Array.getElem?_eq_getElem hi] using q
  obtain ⟨i0, ei0⟩ := is_v g1b
  obtain rfl : w0 = (.int i0) := Option.some.inj ei0
  obtain ⟨g2a, g2b⟩ := and_e hn
  obtain ⟨g3a, g3b⟩ := and_e g2b
  obtain ⟨g4a, g4b⟩ := and_e g3b
  obtain ⟨g5a, g5b⟩ := and_e g4b
  obtain ⟨g6a, g6b⟩ := and_e g5b
  obtain ⟨g7a, g7b⟩ := and_e g6b
  obtain ⟨g8a, g8b⟩ := and_e g7b
  obtain ⟨g9a, g9b⟩ := and_e g8b
  obtain ⟨g10a, g10b⟩ := and_e g9b
  obtain ⟨g11a, g11b⟩ := and_e g10b
  obtain ⟨g12a, g12b⟩ := and_e g11b
  obtain ⟨g13a, g13b⟩ := and_e g12b
  obtain ⟨g14a, g14b⟩ := and_e g13b
  obtain ⟨g15a, g15b⟩ := and_e g14b
  obtain ⟨g16a, g16b⟩ := and_e g15b
  obtain ⟨g17a, g17b⟩ := and_e g16b
  obtain ⟨g18a, g18b⟩ := and_e g17b
  obtain ⟨g19a, g19b⟩ := and_e g18b
  obtain ⟨g20a, g20b⟩ := and_e g19b
  obtain ⟨g21a, g21b⟩ := and_e g20b
  obtain ⟨g22a, g22b⟩ := and_e g21b
  obtain ⟨g23a, g23b⟩ := and_e g22b
  obtain ⟨g24a, g24b⟩ := and_e g23b
  obtain ⟨g25a, g25b⟩ := and_e g24b
  obtain ⟨g26a, g26b⟩ := and_e g25b
  obtain ⟨g27a, g27b⟩ := and_e g26b
  obtain ⟨g28a, g28b⟩ := and_e g27b
  obtain ⟨g29a, g29b⟩ := and_e g28b
  obtain ⟨g30a, g30b⟩ := and_e g29b
  obtain ⟨g31a, g31b⟩ := and_e g30b
  obtain ⟨g32a, g32b⟩ := and_e g31b
  obtain ⟨g33a, g33b⟩ := and_e g32b
  obtain ⟨g34a, g34b⟩ := and_e g33b
  obtain ⟨g35a, g35b⟩ := and_e g34b
  obtain ⟨g36a, g36b⟩ := and_e g35b
  obtain ⟨g37a, g37b⟩ := and_e g36b
  obtain ⟨g38a, g38b⟩ := and_e g37b
  obtain ⟨g39a, g39b⟩ := and_e g38b
  obtain ⟨g40a, g40b⟩ := and_e g39b
  obtain ⟨g41a, g41b⟩ := and_e g40b
  obtain ⟨g42a, g42b⟩ := and_e g41b
  obtain ⟨g43a, g43b⟩ := and_e g42b
  obtain ⟨g44a, g44b⟩ := and_e g43b
  obtain ⟨g45a, g45b⟩ := and_e g44b
  obtain ⟨g46a, g46b⟩ := and_e g45b
  obtain ⟨g47a, g47b⟩ := and_e g46b
  obtain ⟨g48a, g48b⟩ := and_e g47b
  obtain ⟨g49a, g49b⟩ := and_e g48b
  obtain ⟨g50a, g50b⟩ := and_e g49b
  obtain ⟨g51a, g51b⟩ := and_e g50b
  obtain ⟨g52a, g52b⟩ := and_e g51b
  obtain ⟨g53a, g53b⟩ := and_e g52b
  obtain ⟨g54a, g54b⟩ := and_e g53b
  obtain ⟨g55a, g55b⟩ := and_e g54b
  obtain ⟨g56a, g56b⟩ := and_e g55b
  obtain ⟨g57a, g57b⟩ := and_e g56b
  obtain ⟨g58a, g58b⟩ := and_e g57b
  obtain ⟨g59a, g59b⟩ := and_e g58b
  obtain ⟨g60a, g60b⟩ := and_e g59b
  obtain ⟨g61a, g61b⟩ := and_e g60b
  obtain ⟨g62a, g62b⟩ := and_e g61b
  obtain ⟨g63a, g63b⟩ := and_e g62b
  obtain ⟨g64a, g64b⟩ := and_e g63b
  obtain ⟨g65a, g65b⟩ := and_e g64b
  obtain ⟨g66a, g66b⟩ := and_e g65b
  obtain ⟨g67a, g67b⟩ := and_e g66b
  obtain ⟨g68a, g68b⟩ := and_e g67b
  obtain ⟨g69a, g69b⟩ := and_e g68b
  obtain ⟨g70a, g70b⟩ := and_e g69b
  obtain ⟨g71a, g71b⟩ := and_e g70b
  obtain ⟨g72a, g72b⟩ := and_e g71b
  obtain ⟨g73a, g73b⟩ := and_e g72b
  obtain ⟨g74a, g74b⟩ := and_e g73b
  obtain ⟨g75a, g75b⟩ := and_e g74b
  obtain ⟨g76a, g76b⟩ := and_e g75b
  obtain ⟨w_POSITION, ev_POSITION⟩ := exa_v g2a
  have S_POSITION := Sta.start ev_POSITION (Or.inr ⟨(hw _ (List.mem_of_getElem? (i := 6) rfl)), (hw _ (List.mem_of_getElem? (i := 7) rfl))⟩)
  have E_POSITION := Exa.start ev_POSITION g2a
  obtain ⟨w_NOT, ev_NOT⟩ := exa_v g5a
  have S_NOT := Sta.start ev_NOT (Or.inr ⟨(hw _ (List.mem_of_getElem? (i := 6) rfl)), (hw _ (List.mem_of_getElem? (i := 29) rfl))⟩)
  have E_NOT := Exa.start ev_NOT g5a
  obtain ⟨w_LAST, ev_LAST⟩ := exa_v g8a
  have S_LAST := Sta.start ev_LAST (Or.inr ⟨(hw _ (List.mem_of_getElem? (i := 6) rfl)), (hw _ (List.mem_of_getElem? (i := 31) rfl))⟩)
  have E_LAST := Exa.start ev_LAST g8a
  obtain ⟨w_NUMBER, ev_NUMBER⟩ := exa_v g10a
  have S_NUMBER := Sta.start ev_NUMBER (Or.inr ⟨(hw _ (List.mem_of_getElem? (i := 6) rfl)), (hw _ (List.mem_of_getElem? (i := 33) rfl))⟩)
  have E_NUMBER := Exa.start ev_NUMBER g10a
  obtain ⟨w_TRUE, ev_TRUE⟩ := exa_v g12a
  have S_TRUE := Sta.start ev_TRUE (Or.inr ⟨(hw _ (List.mem_of_getElem? (i := 6) rfl)), (hw _ (List.mem_of_getElem? (i := 35) rfl))⟩)
  have E_TRUE := Exa.start ev_TRUE g12a
  obtain ⟨w_LOCAL_NAME, ev_LOCAL_NAME⟩ := exa_v g14a
  have S_LOCAL_NAME := Sta.start ev_LOCAL_NAME (Or.inr ⟨(hw _ (List.mem_of_getElem? (i := 6) rfl)), (hw _ (List.mem_of_getElem? (i := 37) rfl))⟩)
  have E_LOCAL_NAME := Exa.start ev_LOCAL_NAME g14a
  obtain ⟨w_EXISTS, ev_EXISTS⟩ := exa_v g16a
  have S_EXISTS := Sta.start ev_EXISTS (Or.inr ⟨(hw _ (List.mem_of_getElem? (i := 6) rfl)), (hw _ (List.mem_of_getElem? (i := 39) rfl))⟩)
  have E_EXISTS := Exa.start ev_EXISTS g16a
  obtain ⟨w_COUNT, ev_COUNT⟩ := exa_v g18a
  have S_COUNT := Sta.start ev_COUNT (Or.inr ⟨(hw _ (List.mem_of_getElem? (i := 6) rfl)), (hw _ (List.mem_of_getElem? (i := 41) rfl))⟩)
  have E_COUNT := Exa.start ev_COUNT g18a
  obtain ⟨w_NORMALIZE_SPACE, ev_NORMALIZE_SPACE⟩ := exa_v g20a
  have S_NORMALIZE_SPACE := Sta.start ev_NORMALIZE_SPACE (Or.inr ⟨(hw _ (List.mem_of_getElem? (i := 6) rfl)), (hw _ (List.mem_of_getElem? (i := 43) rfl))⟩)
  have E_NORMALIZE_SPACE := Exa.start ev_NORMALIZE_SPACE g20a
  obtain ⟨w_STRING_LENGTH, ev_STRING_LENGTH⟩ := exa_v g22a
  have S_STRING_LENGTH := Sta.start ev_STRING_LENGTH (Or.inr ⟨(hw _ (List.mem_of_getElem? (i := 6) rfl)), (hw _ (List.mem_of_getElem? (i := 45) rfl))⟩)
  have E_STRING_LENGTH := Exa.start ev_STRING_LENGTH g22a
  obtain ⟨w_EMPTY, ev_EMPTY⟩ := exa_v g24a
  have S_EMPTY := Sta.start ev_EMPTY (Or.inr ⟨(hw _ (List.mem_of_getElem? (i := 6) rfl)), (hw _ (List.mem_of_getElem? (i := 47) rfl))⟩)
  have E_EMPTY := Exa.start ev_EMPTY g24a
  obtain ⟨w_ENDS_WITH, ev_ENDS_WITH⟩ := exa_v g28a
  have S_ENDS_WITH := Sta.start ev_ENDS_WITH (Or.inr ⟨(hw _ (List.mem_of_getElem? (i := 6) rfl)), (hw _ (List.mem_of_getElem? (i := 50) rfl))⟩)
  have E_ENDS_WITH := Exa.start ev_ENDS_WITH g28a
  obtain ⟨w_NAMESPACE_URI, ev_NAMESPACE_URI⟩ := exa_v g30a
  have S_NAMESPACE_URI := Sta.start ev_NAMESPACE_URI (Or.inr ⟨(hw _ (List.mem_of_getElem? (i := 6) rfl)), (hw _ (List.mem_of_getElem? (i := 52) rfl))⟩)
  have E_NAMESPACE_URI := Exa.start ev_NAMESPACE_URI g30a
  obtain ⟨w_FALSE, ev_FALSE⟩ := exa_v g32a
  have S_FALSE := Sta.start ev_FALSE (Or.inr ⟨(hw _ (List.mem_of_getElem? (i := 6) rfl)), (hw _ (List.mem_of_getElem? (i := 54) rfl))⟩)
  have E_FALSE := Exa.start ev_FALSE g32a
  obtain ⟨w_NAME, ev_NAME⟩ := exa_v g34a
  have S_NAME := Sta.start ev_NAME (Or.inr ⟨(hw _ (List.mem_of_getElem? (i := 6) rfl)), (hw _ (List.mem_of_getElem? (i := 56) rfl))⟩)
  have E_NAME := Exa.start ev_NAME g34a
  obtain ⟨w_BOOLEAN, ev_BOOLEAN⟩ := exa_v g36a
  have S_BOOLEAN := Sta.start ev_BOOLEAN (Or.inr ⟨(hw _ (List.mem_of_getElem? (i := 6) rfl)), (hw _ (List.mem_of_getElem? (i := 58) rfl))⟩)
  have E_BOOLEAN := Exa.start ev_BOOLEAN g36a
  obtain ⟨w_STRING, ev_STRING⟩ := exa_v g38a
  have S_STRING := Sta.start ev_STRING (Or.inr ⟨(hw _ (List.mem_of_getElem? (i := 6) rfl)), (hw _ (List.mem_of_getElem? (i := 60) rfl))⟩)
  have E_STRING := Exa.start ev_STRING g38a
  obtain ⟨w_CONTAINS, ev_CONTAINS⟩ := exa_v g40a
  have S_CONTAINS := Sta.start ev_CONTAINS (Or.inr ⟨(hw _ (List.mem_of_getElem? (i := 6) rfl)), (hw _ (List.mem_of_getElem? (i := 62) rfl))⟩)
  have E_CONTAINS := Exa.start ev_CONTAINS g40a
  obtain ⟨w_STARTS_WITH, ev_STARTS_WITH⟩ := exa_v g42a
  have S_STARTS_WITH := Sta.start ev_STARTS_WITH (Or.inr ⟨(hw _ (List.mem_of_getElem? (i := 6) rfl)), (hw _ (List.mem_of_getElem? (i := 64) rfl))⟩)
  have E_STARTS_WITH := Exa.start ev_STARTS_WITH g42a
  have F_POSITION_leastArguments := Fld.start ((fld_at ev_POSITION).symm.trans (own_eqI g3a))
  have F_POSITION_mostArguments := Fld.start ((fld_at ev_POSITION).symm.trans (own_eqI g4a))
  have F_NOT_ordinal := Fld.start ((fld_at ev_NOT).symm.trans (own_eqI g6a))
  have F_POSITION_ordinal := Fld.start ((fld_at ev_POSITION).symm.trans (own_eqI g7a))
  have F_LAST_ordinal := Fld.start ((fld_at ev_LAST).symm.trans (own_eqI g9a))
  have F_NUMBER_ordinal := Fld.start ((fld_at ev_NUMBER).symm.trans (own_eqI g11a))
  have F_TRUE_ordinal := Fld.start ((fld_at ev_TRUE).symm.trans (own_eqI g13a))
  have F_LOCAL_NAME_ordinal := Fld.start ((fld_at ev_LOCAL_NAME).symm.trans (own_eqI g15a))
  have F_EXISTS_ordinal := Fld.start ((fld_at ev_EXISTS).symm.trans (own_eqI g17a))
  have F_COUNT_ordinal := Fld.start ((fld_at ev_COUNT).symm.trans (own_eqI g19a))
  have F_NORMALIZE_SPACE_ordinal := Fld.start ((fld_at ev_NORMALIZE_SPACE).symm.trans (own_eqI g21a))
  have F_STRING_LENGTH_ordinal := Fld.start ((fld_at ev_STRING_LENGTH).symm.trans (own_eqI g23a))
  have F_EMPTY_ordinal := Fld.start ((fld_at ev_EMPTY).symm.trans (own_eqI g25a))
  have F_LAST_leastArguments := Fld.start ((fld_at ev_LAST).symm.trans (own_eqI g26a))
  have F_LAST_mostArguments := Fld.start ((fld_at ev_LAST).symm.trans (own_eqI g27a))
  have F_ENDS_WITH_ordinal := Fld.start ((fld_at ev_ENDS_WITH).symm.trans (own_eqI g29a))
  have F_NAMESPACE_URI_ordinal := Fld.start ((fld_at ev_NAMESPACE_URI).symm.trans (own_eqI g31a))
  have F_FALSE_ordinal := Fld.start ((fld_at ev_FALSE).symm.trans (own_eqI g33a))
  have F_NAME_ordinal := Fld.start ((fld_at ev_NAME).symm.trans (own_eqI g35a))
  have F_BOOLEAN_ordinal := Fld.start ((fld_at ev_BOOLEAN).symm.trans (own_eqI g37a))
  have F_STRING_ordinal := Fld.start ((fld_at ev_STRING).symm.trans (own_eqI g39a))
  have F_CONTAINS_ordinal := Fld.start ((fld_at ev_CONTAINS).symm.trans (own_eqI g41a))
  have F_STARTS_WITH_ordinal := Fld.start ((fld_at ev_STARTS_WITH).symm.trans (own_eqI g43a))
  have F_NOT_leastArguments := Fld.start ((fld_at ev_NOT).symm.trans (own_eqI g44a))
  have F_NOT_mostArguments := Fld.start ((fld_at ev_NOT).symm.trans (own_eqI g45a))
  have F_NUMBER_leastArguments := Fld.start ((fld_at ev_NUMBER).symm.trans (own_eqI g46a))
  have F_NUMBER_mostArguments := Fld.start ((fld_at ev_NUMBER).symm.trans (own_eqI g47a))
  have F_TRUE_leastArguments := Fld.start ((fld_at ev_TRUE).symm.trans (own_eqI g48a))
  have F_TRUE_mostArguments := Fld.start ((fld_at ev_TRUE).symm.trans (own_eqI g49a))
  have F_LOCAL_NAME_leastArguments := Fld.start ((fld_at ev_LOCAL_NAME).symm.trans (own_eqI g50a))
  have F_LOCAL_NAME_mostArguments := Fld.start ((fld_at ev_LOCAL_NAME).symm.trans (own_eqI g51a))
  have F_EXISTS_leastArguments := Fld.start ((fld_at ev_EXISTS).symm.trans (own_eqI g52a))
  have F_EXISTS_mostArguments := Fld.start ((fld_at ev_EXISTS).symm.trans (own_eqI g53a))
  have F_COUNT_leastArguments := Fld.start ((fld_at ev_COUNT).symm.trans (own_eqI g54a))
  have F_COUNT_mostArguments := Fld.start ((fld_at ev_COUNT).symm.trans (own_eqI g55a))
  have F_NORMALIZE_SPACE_leastArguments := Fld.start ((fld_at ev_NORMALIZE_SPACE).symm.trans (own_eqI g56a))
  have F_NORMALIZE_SPACE_mostArguments := Fld.start ((fld_at ev_NORMALIZE_SPACE).symm.trans (own_eqI g57a))
  have F_STRING_LENGTH_leastArguments := Fld.start ((fld_at ev_STRING_LENGTH).symm.trans (own_eqI g58a))
  have F_STRING_LENGTH_mostArguments := Fld.start ((fld_at ev_STRING_LENGTH).symm.trans (own_eqI g59a))
  have F_EMPTY_leastArguments := Fld.start ((fld_at ev_EMPTY).symm.trans (own_eqI g60a))
  have F_EMPTY_mostArguments := Fld.start ((fld_at ev_EMPTY).symm.trans (own_eqI g61a))
  have F_ENDS_WITH_leastArguments := Fld.start ((fld_at ev_ENDS_WITH).symm.trans (own_eqI g62a))
  have F_ENDS_WITH_mostArguments := Fld.start ((fld_at ev_ENDS_WITH).symm.trans (own_eqI g63a))
  have F_NAMESPACE_URI_leastArguments := Fld.start ((fld_at ev_NAMESPACE_URI).symm.trans (own_eqI g64a))
  have F_NAMESPACE_URI_mostArguments := Fld.start ((fld_at ev_NAMESPACE_URI).symm.trans (own_eqI g65a))
  have F_FALSE_leastArguments := Fld.start ((fld_at ev_FALSE).symm.trans (own_eqI g66a))
  have F_FALSE_mostArguments := Fld.start ((fld_at ev_FALSE).symm.trans (own_eqI g67a))
  have F_NAME_leastArguments := Fld.start ((fld_at ev_NAME).symm.trans (own_eqI g68a))
  have F_NAME_mostArguments := Fld.start ((fld_at ev_NAME).symm.trans (own_eqI g69a))
  have F_BOOLEAN_leastArguments := Fld.start ((fld_at ev_BOOLEAN).symm.trans (own_eqI g70a))
  have F_BOOLEAN_mostArguments := Fld.start ((fld_at ev_BOOLEAN).symm.trans (own_eqI g71a))
  have F_STRING_leastArguments := Fld.start ((fld_at ev_STRING).symm.trans (own_eqI g72a))
  have F_STRING_mostArguments := Fld.start ((fld_at ev_STRING).symm.trans (own_eqI g73a))
  have F_CONTAINS_leastArguments := Fld.start ((fld_at ev_CONTAINS).symm.trans (own_eqI g74a))
  have F_CONTAINS_mostArguments := Fld.start ((fld_at ev_CONTAINS).symm.trans (own_eqI g75a))
  have F_STARTS_WITH_leastArguments := Fld.start ((fld_at ev_STARTS_WITH).symm.trans (own_eqI g76a))
  have F_STARTS_WITH_mostArguments := Fld.start ((fld_at ev_STARTS_WITH).symm.trans (own_eqI g76b))
  obtain ⟨W, eW0, eW1, eW2, eW3, eW4, eW5, eW6, eW7, eW8, eW9, eW10, eW11, eW12, eW13, eW14, eW15, eW16, eW17, eW18⟩ : ∃ W : Int32 → Addr, W (0 : Int32) = w_POSITION ∧ W (1 : Int32) = w_LAST ∧ W (2 : Int32) = w_COUNT ∧ W (3 : Int32) = w_NOT ∧ W (4 : Int32) = w_BOOLEAN ∧ W (5 : Int32) = w_TRUE ∧ W (6 : Int32) = w_FALSE ∧ W (7 : Int32) = w_EXISTS ∧ W (8 : Int32) = w_EMPTY ∧ W (9 : Int32) = w_STRING ∧ W (10 : Int32) = w_STRING_LENGTH ∧ W (11 : Int32) = w_NORMALIZE_SPACE ∧ W (12 : Int32) = w_CONTAINS ∧ W (13 : Int32) = w_STARTS_WITH ∧ W (14 : Int32) = w_ENDS_WITH ∧ W (15 : Int32) = w_NUMBER ∧ W (16 : Int32) = w_NAME ∧ W (17 : Int32) = w_LOCAL_NAME ∧ W (18 : Int32) = w_NAMESPACE_URI := ⟨fun k => if k = (0 : Int32) then w_POSITION else if k = (1 : Int32) then w_LAST else if k = (2 : Int32) then w_COUNT else if k = (3 : Int32) then w_NOT else if k = (4 : Int32) then w_BOOLEAN else if k = (5 : Int32) then w_TRUE else if k = (6 : Int32) then w_FALSE else if k = (7 : Int32) then w_EXISTS else if k = (8 : Int32) then w_EMPTY else if k = (9 : Int32) then w_STRING else if k = (10 : Int32) then w_STRING_LENGTH else if k = (11 : Int32) then w_NORMALIZE_SPACE else if k = (12 : Int32) then w_CONTAINS else if k = (13 : Int32) then w_STARTS_WITH else if k = (14 : Int32) then w_ENDS_WITH else if k = (15 : Int32) then w_NUMBER else if k = (16 : Int32) then w_NAME else if k = (17 : Int32) then w_LOCAL_NAME else w_NAMESPACE_URI, (by simp), (by simp), (by simp), (by simp), (by simp), (by simp), (by simp), (by simp), (by simp), (by simp), (by simp), (by simp), (by simp), (by simp), (by simp), (by simp), (by simp), (by simp), (by simp)⟩
  have EW : WS s s.heap W := by
    unfold WS
    rw [eW0, eW1, eW2, eW3, eW4, eW5, eW6, eW7, eW8, eW9, eW10, eW11, eW12, eW13, eW14, eW15, eW16, eW17, eW18]
    exact ⟨S_POSITION, S_LAST, S_COUNT, S_NOT, S_BOOLEAN, S_TRUE, S_FALSE, S_EXISTS, S_EMPTY, S_STRING, S_STRING_LENGTH, S_NORMALIZE_SPACE, S_CONTAINS, S_STARTS_WITH, S_ENDS_WITH, S_NUMBER, S_NAME, S_LOCAL_NAME, S_NAMESPACE_URI⟩
  have XW : ∀ i : Int32, 0 ≤ i.toInt → i.toInt ≤ 18 → Exa s s.heap (W i) "com/example/tally/tally/XPathFunction" := by
    intro i h1 h2
    rcases own_rg_0_18 h1 h2 with rfl | rfl | rfl | rfl | rfl | rfl | rfl | rfl | rfl | rfl | rfl | rfl | rfl | rfl | rfl | rfl | rfl | rfl | rfl
    · rw [eW0]; exact E_POSITION
    · rw [eW1]; exact E_LAST
    · rw [eW2]; exact E_COUNT
    · rw [eW3]; exact E_NOT
    · rw [eW4]; exact E_BOOLEAN
    · rw [eW5]; exact E_TRUE
    · rw [eW6]; exact E_FALSE
    · rw [eW7]; exact E_EXISTS
    · rw [eW8]; exact E_EMPTY
    · rw [eW9]; exact E_STRING
    · rw [eW10]; exact E_STRING_LENGTH
    · rw [eW11]; exact E_NORMALIZE_SPACE
    · rw [eW12]; exact E_CONTAINS
    · rw [eW13]; exact E_STARTS_WITH
    · rw [eW14]; exact E_ENDS_WITH
    · rw [eW15]; exact E_NUMBER
    · rw [eW16]; exact E_NAME
    · rw [eW17]; exact E_LOCAL_NAME
    · rw [eW18]; exact E_NAMESPACE_URI
  have OW : ∀ i : Int32, 0 ≤ i.toInt → i.toInt ≤ 18 → Fld s s.heap (W i) "java/lang/Enum" "ordinal" "I" (.int (ordW i)) := by
    intro i h1 h2
    rcases own_rg_0_18 h1 h2 with rfl | rfl | rfl | rfl | rfl | rfl | rfl | rfl | rfl | rfl | rfl | rfl | rfl | rfl | rfl | rfl | rfl | rfl | rfl
    · rw [eW0]; exact F_POSITION_ordinal
    · rw [eW1]; exact F_LAST_ordinal
    · rw [eW2]; exact F_COUNT_ordinal
    · rw [eW3]; exact F_NOT_ordinal
    · rw [eW4]; exact F_BOOLEAN_ordinal
    · rw [eW5]; exact F_TRUE_ordinal
    · rw [eW6]; exact F_FALSE_ordinal
    · rw [eW7]; exact F_EXISTS_ordinal
    · rw [eW8]; exact F_EMPTY_ordinal
    · rw [eW9]; exact F_STRING_ordinal
    · rw [eW10]; exact F_STRING_LENGTH_ordinal
    · rw [eW11]; exact F_NORMALIZE_SPACE_ordinal
    · rw [eW12]; exact F_CONTAINS_ordinal
    · rw [eW13]; exact F_STARTS_WITH_ordinal
    · rw [eW14]; exact F_ENDS_WITH_ordinal
    · rw [eW15]; exact F_NUMBER_ordinal
    · rw [eW16]; exact F_NAME_ordinal
    · rw [eW17]; exact F_LOCAL_NAME_ordinal
    · rw [eW18]; exact F_NAMESPACE_URI_ordinal
  have IW : ∀ i j : Int32, 0 ≤ i.toInt → i.toInt ≤ 18 → 0 ≤ j.toInt → j.toInt ≤ 18 → W i = W j → i = j := by
    intro i j h1 h2 h3 h4 h5
    have q := OW i h1 h2
    rw [h5] at q
    exact s_injW (Value.int.inj (own_uniq q (OW j h3 h4)))
  have FL : ∀ i : Int32, 0 ≤ i.toInt → i.toInt ≤ 18 → Fld s s.heap (W i) "com/example/tally/tally/XPathFunction" "leastArguments" "I" (.int (loS i)) := by
    intro i h1 h2
    rcases own_rg_0_18 h1 h2 with rfl | rfl | rfl | rfl | rfl | rfl | rfl | rfl | rfl | rfl | rfl | rfl | rfl | rfl | rfl | rfl | rfl | rfl | rfl
    · rw [eW0]; exact F_POSITION_leastArguments
    · rw [eW1]; exact F_LAST_leastArguments
    · rw [eW2]; exact F_COUNT_leastArguments
    · rw [eW3]; exact F_NOT_leastArguments
    · rw [eW4]; exact F_BOOLEAN_leastArguments
    · rw [eW5]; exact F_TRUE_leastArguments
    · rw [eW6]; exact F_FALSE_leastArguments
    · rw [eW7]; exact F_EXISTS_leastArguments
    · rw [eW8]; exact F_EMPTY_leastArguments
    · rw [eW9]; exact F_STRING_leastArguments
    · rw [eW10]; exact F_STRING_LENGTH_leastArguments
    · rw [eW11]; exact F_NORMALIZE_SPACE_leastArguments
    · rw [eW12]; exact F_CONTAINS_leastArguments
    · rw [eW13]; exact F_STARTS_WITH_leastArguments
    · rw [eW14]; exact F_ENDS_WITH_leastArguments
    · rw [eW15]; exact F_NUMBER_leastArguments
    · rw [eW16]; exact F_NAME_leastArguments
    · rw [eW17]; exact F_LOCAL_NAME_leastArguments
    · rw [eW18]; exact F_NAMESPACE_URI_leastArguments
  have FM : ∀ i : Int32, 0 ≤ i.toInt → i.toInt ≤ 18 → Fld s s.heap (W i) "com/example/tally/tally/XPathFunction" "mostArguments" "I" (.int (hiS i)) := by
    intro i h1 h2
    rcases own_rg_0_18 h1 h2 with rfl | rfl | rfl | rfl | rfl | rfl | rfl | rfl | rfl | rfl | rfl | rfl | rfl | rfl | rfl | rfl | rfl | rfl | rfl
    · rw [eW0]; exact F_POSITION_mostArguments
    · rw [eW1]; exact F_LAST_mostArguments
    · rw [eW2]; exact F_COUNT_mostArguments
    · rw [eW3]; exact F_NOT_mostArguments
    · rw [eW4]; exact F_BOOLEAN_mostArguments
    · rw [eW5]; exact F_TRUE_mostArguments
    · rw [eW6]; exact F_FALSE_mostArguments
    · rw [eW7]; exact F_EXISTS_mostArguments
    · rw [eW8]; exact F_EMPTY_mostArguments
    · rw [eW9]; exact F_STRING_mostArguments
    · rw [eW10]; exact F_STRING_LENGTH_mostArguments
    · rw [eW11]; exact F_NORMALIZE_SPACE_mostArguments
    · rw [eW12]; exact F_CONTAINS_mostArguments
    · rw [eW13]; exact F_STARTS_WITH_mostArguments
    · rw [eW14]; exact F_ENDS_WITH_mostArguments
    · rw [eW15]; exact F_NUMBER_mostArguments
    · rw [eW16]; exact F_NAME_mostArguments
    · rw [eW17]; exact F_LOCAL_NAME_mostArguments
    · rw [eW18]; exact F_NAMESPACE_URI_mostArguments
  obtain ⟨n, o, h1, h2, h3, _, L, rfl, ⟨rfl, N⟩, hq⟩ := rm0 l s _ hw tables_1 i0 W s.heap s.heap.size (Nat.le_refl _) EW XW IW FL FM p e ha hc hk s m _ below hf ((Spec.applies_iff_loose hf).mp happ).1 ⟨rfl, State.Warmed39.refl s, rfl⟩ trivial
  refine ⟨n, _, h1, h2, h3, hpost _ _ _ _ _ _ ⟨Cond.after_iff.mpr rfl, Cond.after_iff.mpr (eq_i res_at (Term.int_eval (1)) rfl), trivial⟩ ⟨hq.1, hq.2.1, (hq.2.2.sift fun y hy => Or.inr (N y hy)).mono (by decide) (by decide)⟩⟩
theorem main_1_1 : Claimed_1_1 := comes_1 fun _ _ _ _ _ _ h hF => ⟨h.1, hF⟩
theorem main_1_2 : Claimed_1_2 := comes_1 fun _ _ _ _ _ _ h hF => ⟨h.2.1, hF⟩
end Jvm.Pilot.@@N@@
namespace Jvm.Pilot.@@N@@
open Jvm Jvm.ClassFile Sem Op Lib Jvm.Free Jvm.Stand Jvm.Pilot.@@N@@.Jvm.D
/-! MADE BY PROGRAM (witnessworld.py) out of the Statement's table words and the real class files: 12 classes; the members and pool entries that the words name. The judged class is class 1, her method 2. -/
namespace start1
open Jvm.ClassFile
def u (s : String) : CpInfo := .utf8 (stringToUtf16 s)
/-- a pool by its gaps: so many unusable entries, then the entry; so many at the end -/
def gap : Nat → List CpInfo → List CpInfo
  | 0, r => r
  | n + 1, r => .unusable :: gap n r
def poolList (es : List (Nat × CpInfo)) (last : Nat) : List CpInfo := es.foldr (fun e r => gap e.1 (e.2 :: r)) (gap last [])
def pool (es : List (Nat × CpInfo)) (last : Nat) : Array CpInfo := ⟨poolList es last⟩
def fileOf (pool : Array CpInfo) (this : Nat) (attrs : Array Attribute := #[]) (ms : Array MethodInfo := #[]) (fl : Nat := 33) (sup : Nat := 0) (ifs : Array Nat := #[]) (fds : Array FieldInfo := #[]) : ClassFile where
  minorVersion := 0
  majorVersion := 65
  constantPool := pool
  accessFlags := fl
  thisClass := this
  superClass := sup
  interfaces := ifs
  fields := fds
  methods := ms
  attributes := attrs
def plain (name : String) (sup : Option ClassId) : Class where
  name := name
  kind := .ordinary
  loader := none
  accessFlags := 33
  super := sup
  interfaces := #[]
  cf := none
  fields := #[]
  methods := #[]
  instanceTypes := #[]
  staticTypes := #[]
  resolved := #[]
  callSites := []
  init := .initialized
  statics := none
  mirror := none

def pool0 : Array CpInfo := pool [(5, u "<init>"), (0, u "()V"), (1, .class_ 10), (1, u "java/lang/Object")] 113

def k0m0 : Method := { name := "<init>", desc := "()V", sig := { parameters := [], returnType := none }, accessFlags := 1, code := none }
/-- java/lang/Object -/
def k0 : Class := { plain "java/lang/Object" none with
  accessFlags := 33
  interfaces := #[]
  cf := some (fileOf pool0 8 #[] #[{ accessFlags := 1, nameIndex := 5, descriptorIndex := 6, attributes := #[] }] 33 0 #[] #[])
  fields := #[]
  methods := #[k0m0]
  instanceTypes := #[]
  staticTypes := #[]
  resolved := Array.replicate 124 none
  statics := none }

def pool1 : Array CpInfo := pool [(2, .class_ 4), (1, u "java/lang/Object"), (0, u "<init>"), (0, u "()V"), (0, .fieldref 8 9), (0, .class_ 10), (0, .nameAndType 11 12), (0, u "com/example/tally/tally/XPathFunction"), (0, u "POSITION"), (0, u "Lcom/example/tally/tally/XPathFunction;"), (0, .fieldref 8 14), (0, .nameAndType 15 12), (0, u "LAST"), (0, .fieldref 8 17), (0, .nameAndType 18 12), (0, u "COUNT"), (0, .fieldref 8 20), (0, .nameAndType 21 12), (0, u "NOT"), (0, .fieldref 8 23), (0, .nameAndType 24 12), (0, u "BOOLEAN"), (0, .fieldref 8 26), (0, .nameAndType 27 12), (0, u "TRUE"), (0, .fieldref 8 29), (0, .nameAndType 30 12), (0, u "FALSE"), (0, .fieldref 8 32), (0, .nameAndType 33 12), (0, u "EXISTS"), (0, .fieldref 8 35), (0, .nameAndType 36 12), (0, u "EMPTY"), (0, .fieldref 8 38), (0, .nameAndType 39 12), (0, u "STRING"), (0, .fieldref 8 41), (0, .nameAndType 42 12), (0, u "STRING_LENGTH"), (0, .fieldref 8 44), (0, .nameAndType 45 12), (0, u "NORMALIZE_SPACE"), (0, .fieldref 8 47), (0, .nameAndType 48 12), (0, u "CONTAINS"), (0, .fieldref 8 50), (0, .nameAndType 51 12), (0, u "STARTS_WITH"), (0, .fieldref 8 53), (0, .nameAndType 54 12), (0, u "ENDS_WITH"), (0, .fieldref 8 56), (0, .nameAndType 57 12), (0, u "NUMBER"), (0, .fieldref 8 59), (0, .nameAndType 60 12), (0, u "NAME"), (0, .fieldref 8 62), (0, .nameAndType 63 12), (0, u "LOCAL_NAME"), (0, .fieldref 8 65), (0, .nameAndType 66 12), (0, u "NAMESPACE_URI"), (0, .integer 2147483647), (0, .methodref 69 70), (0, .class_ 71), (0, .nameAndType 72 73), (0, u "com/example/tally/tally/XPathFunctionUsesPositionPinLaw"), (0, u "pick"), (0, u "(I)Lcom/example/tally/tally/XPathFunction;"), (0, .methodref 8 75), (0, .nameAndType 76 77), (0, u "usesPosition"), (0, u "()Z"), (0, .methodref 8 79), (0, .nameAndType 80 77), (0, u "isNumeric"), (0, .methodref 8 82), (0, .nameAndType 83 84), (0, u "reads"), (0, u "(I)Z"), (3, u "law")] 2

def k1m0 : Method := { name := "<init>", desc := "()V", sig := { parameters := [], returnType := none }, accessFlags := 2, code := none }
def k1c1 : Code := { maxStack := 2, maxLocals := 1, code := method_2_code, exceptionTable := #[], attributes := #[] }
def k1m1 : Method := { name := "pick", desc := "(I)Lcom/example/tally/tally/XPathFunction;", sig := { parameters := [.int], returnType := some (.object "com/example/tally/tally/XPathFunction") }, accessFlags := 10, code := some k1c1 }
def k1c2 : Code := { maxStack := 2, maxLocals := 5, code := code, exceptionTable := #[], attributes := #[] }
def k1m2 : Method := { name := "law", desc := "(I)Z", sig := { parameters := [.int], returnType := some .boolean }, accessFlags := 9, code := some k1c2 }
/-- com/example/tally/tally/XPathFunctionUsesPositionPinLaw -/
def k1 : Class := { plain "com/example/tally/tally/XPathFunctionUsesPositionPinLaw" (some 0) with
  accessFlags := 49
  interfaces := #[]
  cf := some (fileOf pool1 69 #[] #[{ accessFlags := 2, nameIndex := 5, descriptorIndex := 6, attributes := #[] }, { accessFlags := 10, nameIndex := 72, descriptorIndex := 73, attributes := #[] }, { accessFlags := 9, nameIndex := 88, descriptorIndex := 84, attributes := #[] }] 49 2 #[] #[])
  fields := #[]
  methods := #[k1m0, k1m1, k1m2]
  instanceTypes := #[]
  staticTypes := #[]
  resolved := Array.replicate 91 none
  statics := none }

def pool2 : Array CpInfo := pool [(1, .class_ 2), (0, u "java/lang/constant/Constable"), (0, .class_ 4), (0, u "java/lang/Object")] 6

/-- java/lang/constant/Constable -/
def k2 : Class := { plain "java/lang/constant/Constable" (some 0) with
  accessFlags := 1537
  interfaces := #[]
  cf := some (fileOf pool2 1 #[] #[] 1537 3 #[] #[])
  fields := #[]
  methods := #[]
  instanceTypes := #[]
  staticTypes := #[]
  resolved := Array.replicate 11 none
  statics := none }

def pool3 : Array CpInfo := pool [(1, .class_ 2), (0, u "java/lang/Comparable"), (0, .class_ 4), (0, u "java/lang/Object")] 7

/-- java/lang/Comparable -/
def k3 : Class := { plain "java/lang/Comparable" (some 0) with
  accessFlags := 1537
  interfaces := #[]
  cf := some (fileOf pool3 1 #[] #[] 1537 3 #[] #[])
  fields := #[]
  methods := #[]
  instanceTypes := #[]
  staticTypes := #[]
  resolved := Array.replicate 12 none
  statics := none }

def pool4 : Array CpInfo := pool [(1, .class_ 2), (0, u "java/io/Serializable"), (0, .class_ 4), (0, u "java/lang/Object")] 2

/-- java/io/Serializable -/
def k4 : Class := { plain "java/io/Serializable" (some 0) with
  accessFlags := 1537
  interfaces := #[]
  cf := some (fileOf pool4 1 #[] #[] 1537 3 #[] #[])
  fields := #[]
  methods := #[]
  instanceTypes := #[]
  staticTypes := #[]
  resolved := Array.replicate 7 none
  statics := none }

def pool5 : Array CpInfo := pool [(2, .class_ 4), (1, u "java/lang/Enum"), (0, u "name"), (0, u "Ljava/lang/String;"), (2, u "ordinal"), (0, u "I"), (1, .class_ 14), (1, u "java/lang/Object"), (4, u "hash"), (86, .class_ 108), (1, u "java/lang/Enum$EnumDesc"), (2, .class_ 112), (0, u "java/lang/constant/Constable"), (0, .class_ 114), (0, u "java/lang/Comparable"), (0, .class_ 116), (0, u "java/io/Serializable")] 87

/-- java/lang/Enum -/
def k5 : Class := { plain "java/lang/Enum" (some 0) with
  accessFlags := 1057
  interfaces := #[2, 3, 4]
  cf := some (fileOf pool5 2 #[.nestMembers #[106]] #[] 1057 12 #[111, 113, 115] #[{ accessFlags := 18, nameIndex := 5, descriptorIndex := 6, attributes := #[] }, { accessFlags := 18, nameIndex := 9, descriptorIndex := 10, attributes := #[] }, { accessFlags := 2, nameIndex := 19, descriptorIndex := 10, attributes := #[] }])
  fields := #[{ name := "name", type := (.object "java/lang/String"), accessFlags := 18, slot := 0, constantValue := 0 }, { name := "ordinal", type := .int, accessFlags := 18, slot := 1, constantValue := 0 }, { name := "hash", type := .int, accessFlags := 2, slot := 2, constantValue := 0 }]
  methods := #[]
  instanceTypes := #[(.object "java/lang/String"), .int, .int]
  staticTypes := #[]
  resolved := Array.replicate 204 none
  statics := none }

def pool6 : Array CpInfo := pool [(1, .class_ 2), (0, u "com/example/tally/tally/XPathFunction"), (0, .fieldref 1 4), (0, .nameAndType 5 6), (0, u "POSITION"), (0, u "Lcom/example/tally/tally/XPathFunction;"), (0, .fieldref 1 8), (0, .nameAndType 9 6), (0, u "LAST"), (2, u "COUNT"), (2, u "NOT"), (2, u "BOOLEAN"), (2, u "TRUE"), (2, u "FALSE"), (2, u "EXISTS"), (2, u "EMPTY"), (2, u "STRING"), (2, u "STRING_LENGTH"), (2, u "NORMALIZE_SPACE"), (2, u "CONTAINS"), (2, u "STARTS_WITH"), (2, u "ENDS_WITH"), (2, u "NUMBER"), (2, u "NAME"), (2, u "LOCAL_NAME"), (2, u "NAMESPACE_URI"), (2, u "$VALUES"), (0, u "[Lcom/example/tally/tally/XPathFunction;"), (6, .class_ 73), (1, u "java/lang/Enum"), (8, u "name"), (0, u "Ljava/lang/String;"), (0, .fieldref 1 85), (0, .nameAndType 86 87), (0, u "leastArguments"), (0, u "I"), (0, .fieldref 1 89), (0, .nameAndType 90 87), (0, u "mostArguments"), (2, u "body"), (0, u "Ljava/util/function/BiFunction;"), (2, u "BY_NAME"), (0, u "Ljava/util/Map;"), (8, u "reads"), (0, u "(I)Z"), (11, u "()Z"), (74, u "isNumeric"), (212, u "NAMESPACE"), (14, u "usesPosition")] 123

def k6c0 : Code := { maxStack := 2, maxLocals := 2, code := prog_110_method_5_code, exceptionTable := #[], attributes := #[] }
def k6m0 : Method := { name := "reads", desc := "(I)Z", sig := { parameters := [.int], returnType := some .boolean }, accessFlags := 0, code := some k6c0 }
def k6c1 : Code := { maxStack := 2, maxLocals := 1, code := prog_110_method_7_code, exceptionTable := #[], attributes := #[] }
def k6m1 : Method := { name := "isNumeric", desc := "()Z", sig := { parameters := [], returnType := some .boolean }, accessFlags := 0, code := some k6c1 }
def k6c2 : Code := { maxStack := 2, maxLocals := 1, code := prog_110_method_8_code, exceptionTable := #[], attributes := #[] }
def k6m2 : Method := { name := "usesPosition", desc := "()Z", sig := { parameters := [], returnType := some .boolean }, accessFlags := 0, code := some k6c2 }
/-- com/example/tally/tally/XPathFunction -/
def k6 : Class := { plain "com/example/tally/tally/XPathFunction" (some 5) with
  accessFlags := 16432
  interfaces := #[]
  cf := some (fileOf pool6 1 #[] #[{ accessFlags := 0, nameIndex := 107, descriptorIndex := 108, attributes := #[] }, { accessFlags := 0, nameIndex := 195, descriptorIndex := 120, attributes := #[] }, { accessFlags := 0, nameIndex := 423, descriptorIndex := 120, attributes := #[] }] 16432 71 #[] #[{ accessFlags := 16409, nameIndex := 5, descriptorIndex := 6, attributes := #[] }, { accessFlags := 16409, nameIndex := 9, descriptorIndex := 6, attributes := #[] }, { accessFlags := 16409, nameIndex := 12, descriptorIndex := 6, attributes := #[] }, { accessFlags := 16409, nameIndex := 15, descriptorIndex := 6, attributes := #[] }, { accessFlags := 16409, nameIndex := 18, descriptorIndex := 6, attributes := #[] }, { accessFlags := 16409, nameIndex := 21, descriptorIndex := 6, attributes := #[] }, { accessFlags := 16409, nameIndex := 24, descriptorIndex := 6, attributes := #[] }, { accessFlags := 16409, nameIndex := 27, descriptorIndex := 6, attributes := #[] }, { accessFlags := 16409, nameIndex := 30, descriptorIndex := 6, attributes := #[] }, { accessFlags := 16409, nameIndex := 33, descriptorIndex := 6, attributes := #[] }, { accessFlags := 16409, nameIndex := 36, descriptorIndex := 6, attributes := #[] }, { accessFlags := 16409, nameIndex := 39, descriptorIndex := 6, attributes := #[] }, { accessFlags := 16409, nameIndex := 42, descriptorIndex := 6, attributes := #[] }, { accessFlags := 16409, nameIndex := 45, descriptorIndex := 6, attributes := #[] }, { accessFlags := 16409, nameIndex := 48, descriptorIndex := 6, attributes := #[] }, { accessFlags := 16409, nameIndex := 51, descriptorIndex := 6, attributes := #[] }, { accessFlags := 16409, nameIndex := 54, descriptorIndex := 6, attributes := #[] }, { accessFlags := 16409, nameIndex := 57, descriptorIndex := 6, attributes := #[] }, { accessFlags := 16409, nameIndex := 60, descriptorIndex := 6, attributes := #[] }, { accessFlags := 24, nameIndex := 408, descriptorIndex := 83, attributes := #[] }, { accessFlags := 26, nameIndex := 97, descriptorIndex := 98, attributes := #[] }, { accessFlags := 18, nameIndex := 82, descriptorIndex := 83, attributes := #[] }, { accessFlags := 18, nameIndex := 86, descriptorIndex := 87, attributes := #[] }, { accessFlags := 18, nameIndex := 90, descriptorIndex := 87, attributes := #[] }, { accessFlags := 18, nameIndex := 93, descriptorIndex := 94, attributes := #[] }, { accessFlags := 4122, nameIndex := 63, descriptorIndex := 64, attributes := #[] }])
  fields := #[{ name := "POSITION", type := (.object "com/example/tally/tally/XPathFunction"), accessFlags := 16409, slot := 0, constantValue := 0 }, { name := "LAST", type := (.object "com/example/tally/tally/XPathFunction"), accessFlags := 16409, slot := 1, constantValue := 0 }, { name := "COUNT", type := (.object "com/example/tally/tally/XPathFunction"), accessFlags := 16409, slot := 2, constantValue := 0 }, { name := "NOT", type := (.object "com/example/tally/tally/XPathFunction"), accessFlags := 16409, slot := 3, constantValue := 0 }, { name := "BOOLEAN", type := (.object "com/example/tally/tally/XPathFunction"), accessFlags := 16409, slot := 4, constantValue := 0 }, { name := "TRUE", type := (.object "com/example/tally/tally/XPathFunction"), accessFlags := 16409, slot := 5, constantValue := 0 }, { name := "FALSE", type := (.object "com/example/tally/tally/XPathFunction"), accessFlags := 16409, slot := 6, constantValue := 0 }, { name := "EXISTS", type := (.object "com/example/tally/tally/XPathFunction"), accessFlags := 16409, slot := 7, constantValue := 0 }, { name := "EMPTY", type := (.object "com/example/tally/tally/XPathFunction"), accessFlags := 16409, slot := 8, constantValue := 0 }, { name := "STRING", type := (.object "com/example/tally/tally/XPathFunction"), accessFlags := 16409, slot := 9, constantValue := 0 }, { name := "STRING_LENGTH", type := (.object "com/example/tally/tally/XPathFunction"), accessFlags := 16409, slot := 10, constantValue := 0 }, { name := "NORMALIZE_SPACE", type := (.object "com/example/tally/tally/XPathFunction"), accessFlags := 16409, slot := 11, constantValue := 0 }, { name := "CONTAINS", type := (.object "com/example/tally/tally/XPathFunction"), accessFlags := 16409, slot := 12, constantValue := 0 }, { name := "STARTS_WITH", type := (.object "com/example/tally/tally/XPathFunction"), accessFlags := 16409, slot := 13, constantValue := 0 }, { name := "ENDS_WITH", type := (.object "com/example/tally/tally/XPathFunction"), accessFlags := 16409, slot := 14, constantValue := 0 }, { name := "NUMBER", type := (.object "com/example/tally/tally/XPathFunction"), accessFlags := 16409, slot := 15, constantValue := 0 }, { name := "NAME", type := (.object "com/example/tally/tally/XPathFunction"), accessFlags := 16409, slot := 16, constantValue := 0 }, { name := "LOCAL_NAME", type := (.object "com/example/tally/tally/XPathFunction"), accessFlags := 16409, slot := 17, constantValue := 0 }, { name := "NAMESPACE_URI", type := (.object "com/example/tally/tally/XPathFunction"), accessFlags := 16409, slot := 18, constantValue := 0 }, { name := "NAMESPACE", type := (.object "java/lang/String"), accessFlags := 24, slot := 19, constantValue := 0 }, { name := "BY_NAME", type := (.object "java/util/Map"), accessFlags := 26, slot := 20, constantValue := 0 }, { name := "name", type := (.object "java/lang/String"), accessFlags := 18, slot := 3, constantValue := 0 }, { name := "leastArguments", type := .int, accessFlags := 18, slot := 4, constantValue := 0 }, { name := "mostArguments", type := .int, accessFlags := 18, slot := 5, constantValue := 0 }, { name := "body", type := (.object "java/util/function/BiFunction"), accessFlags := 18, slot := 6, constantValue := 0 }, { name := "$VALUES", type := (.array (.object "com/example/tally/tally/XPathFunction")), accessFlags := 4122, slot := 21, constantValue := 0 }]
  methods := #[k6m0, k6m1, k6m2]
  instanceTypes := #[(.object "java/lang/String"), .int, .int, (.object "java/lang/String"), .int, .int, (.object "java/util/function/BiFunction")]
  staticTypes := #[(.object "com/example/tally/tally/XPathFunction"), (.object "com/example/tally/tally/XPathFunction"), (.object "com/example/tally/tally/XPathFunction"), (.object "com/example/tally/tally/XPathFunction"), (.object "com/example/tally/tally/XPathFunction"), (.object "com/example/tally/tally/XPathFunction"), (.object "com/example/tally/tally/XPathFunction"), (.object "com/example/tally/tally/XPathFunction"), (.object "com/example/tally/tally/XPathFunction"), (.object "com/example/tally/tally/XPathFunction"), (.object "com/example/tally/tally/XPathFunction"), (.object "com/example/tally/tally/XPathFunction"), (.object "com/example/tally/tally/XPathFunction"), (.object "com/example/tally/tally/XPathFunction"), (.object "com/example/tally/tally/XPathFunction"), (.object "com/example/tally/tally/XPathFunction"), (.object "com/example/tally/tally/XPathFunction"), (.object "com/example/tally/tally/XPathFunction"), (.object "com/example/tally/tally/XPathFunction"), (.object "java/lang/String"), (.object "java/util/Map"), (.array (.object "com/example/tally/tally/XPathFunction"))]
  resolved := Array.replicate 547 none
  statics := some 0 }

def pool7 : Array CpInfo := pool [(1, u "java/lang/Cloneable"), (0, .class_ 1), (0, u "java/lang/Object"), (0, .class_ 3)] 3

/-- java/lang/Cloneable -/
def k7 : Class := { plain "java/lang/Cloneable" (some 0) with
  accessFlags := 1537
  interfaces := #[]
  cf := some (fileOf pool7 2 #[] #[] 1537 4 #[] #[])
  fields := #[]
  methods := #[]
  instanceTypes := #[]
  staticTypes := #[]
  resolved := Array.replicate 8 none
  statics := none }

/-- the primitive byte -/
def k8 : Class := { plain "byte" none with kind := .primitive 'B', accessFlags := 0x411 }
/-- [B -/
def k9 : Class := { plain "[B" (some 0) with kind := .array 8 .byte, interfaces := #[7, 4], accessFlags := 1041 }

/-- the primitive int -/
def k10 : Class := { plain "int" none with kind := .primitive 'I', accessFlags := 0x411 }
/-- [I -/
def k11 : Class := { plain "[I" (some 0) with kind := .array 10 .int, interfaces := #[7, 4], accessFlags := 1041 }

def heap : Heap := #[{ cls := 6, slots := #[.ref 1, .ref 3, .ref 8, .ref 2, .ref 16, .ref 5, .ref 14, .ref 7, .ref 11, .ref 17, .ref 10, .ref 9, .ref 18, .ref 19, .ref 12, .ref 4, .ref 15, .ref 6, .ref 13, .null, .null, .null], vm := .statics 6 },
  { cls := 6, slots := #[.null, .int 0, .int 0, .null, .int 0, .int 0, .null], vm := .none },
  { cls := 6, slots := #[.null, .int 3, .int 0, .null, .int 1, .int 1, .null], vm := .none },
  { cls := 6, slots := #[.null, .int 1, .int 0, .null, .int 0, .int 0, .null], vm := .none },
  { cls := 6, slots := #[.null, .int 15, .int 0, .null, .int 0, .int 1, .null], vm := .none },
  { cls := 6, slots := #[.null, .int 5, .int 0, .null, .int 0, .int 0, .null], vm := .none },
  { cls := 6, slots := #[.null, .int 17, .int 0, .null, .int 0, .int 1, .null], vm := .none },
  { cls := 6, slots := #[.null, .int 7, .int 0, .null, .int 1, .int 1, .null], vm := .none },
  { cls := 6, slots := #[.null, .int 2, .int 0, .null, .int 1, .int 1, .null], vm := .none },
  { cls := 6, slots := #[.null, .int 11, .int 0, .null, .int 0, .int 1, .null], vm := .none },
  { cls := 6, slots := #[.null, .int 10, .int 0, .null, .int 0, .int 1, .null], vm := .none },
  { cls := 6, slots := #[.null, .int 8, .int 0, .null, .int 1, .int 1, .null], vm := .none },
  { cls := 6, slots := #[.null, .int 14, .int 0, .null, .int 2, .int 2, .null], vm := .none },
  { cls := 6, slots := #[.null, .int 18, .int 0, .null, .int 0, .int 1, .null], vm := .none },
  { cls := 6, slots := #[.null, .int 6, .int 0, .null, .int 0, .int 0, .null], vm := .none },
  { cls := 6, slots := #[.null, .int 16, .int 0, .null, .int 0, .int 1, .null], vm := .none },
  { cls := 6, slots := #[.null, .int 4, .int 0, .null, .int 1, .int 1, .null], vm := .none },
  { cls := 6, slots := #[.null, .int 9, .int 0, .null, .int 0, .int 1, .null], vm := .none },
  { cls := 6, slots := #[.null, .int 12, .int 0, .null, .int 2, .int 2, .null], vm := .none },
  { cls := 6, slots := #[.null, .int 13, .int 0, .null, .int 2, .int 2, .null], vm := .none }]
def classes : Array Class := #[k0, k1, k2, k3, k4, k5, k6, k7, k8, k9, k10, k11]
def interned : List (Array UInt16 × Addr) := []
def slotsUsed : Nat := 155
def theMethod : MethodId := ⟨1, 2⟩
def args0 : Array Value := #[.int 5]
def aboutOver (below : List Frame) : State where
  vm := { classes := classes, interned := interned.toArray }
  heap := heap
  slotsUsed := slotsUsed
  threads := #[{ frames := .invoking theMethod args0 :: below }]
def below0 : List Frame := [.native { method := ⟨0, 0⟩, args := #[] }]
def about1 : State := aboutOver below0
def p0 : Program := .bare "" "" ""
def e0 : Env := launch0.env 0 0 0
theorem w_frames : about1.frames = Frame.invoking theMethod args0 :: below0 := rfl
set_option maxRecDepth 65536 in
theorem w_args : argsFit about1.vm theMethod args0 = true := by decide +kernel
set_option maxRecDepth 65536 in
theorem w_heap : heapFits about1 = true := by decide +kernel
set_option maxRecDepth 65536 in
theorem w_runnable : about1.curStatus? = some .runnable := by decide +kernel
set_option maxRecDepth 65536 in
theorem w_alone : about1.alone = true := by decide +kernel
set_option maxRecDepth 65536 in
theorem w_named : about1.methodNamed? x = some theMethod := by decide +kernel
set_option maxRecDepth 65536 in
theorem w_hears : about1.hears theMethod below0 = true := by decide +kernel
set_option maxRecDepth 65536 in
theorem w_ripe : about1.ripe theMethod args0 below0 = true := by decide +kernel
theorem w_running : about1.status = .running := rfl
set_option maxRecDepth 65536 in
theorem w_room : about1.hasRoom e0.platform room_1 = true :=
  launch0.hasRoom_least _ room_1 (by decide +kernel) (by decide +kernel) (by decide +kernel) (by decide +kernel) (by decide +kernel) (by decide +kernel)
theorem allAtoms_all (ts : List Jvm.Cond) (a : Array Jvm.Value) (st : Jvm.State) : (allAtoms ts).before a st = ts.all (fun c => c.before a st) := by
  induction ts with
  | nil => rfl
  | cons c t ih =>
    show (Jvm.Cond.and c (allAtoms t)).before a st = _
    rw [Jvm.Cond.before_and, ih, List.all_cons]
def words1 : List Jvm.Cond := Jvm.Cond.code x code maxLocals ret :: tables_1
/-- a 'code' word, met by the world's own term for the bytes: nothing is compared byte by byte -/
theorem code_word {y : MethodName} {bytes : ByteArray} {mx : Nat} {rt : Option FieldType} {a : Array Value} {s : State} {m : MethodId} {meth : Method} {c : Code} (h1 : s.methodNamed? y = some m) (h2 : s.vm.method? m = some meth) (h3 : meth.code = some c) (h4 : c.code = bytes)
    (h5 : (c.maxLocals == mx && c.exceptionTable.isEmpty && decide (c.maxStack ≤ mostOperands) && decide (meth.sig.returnType = rt) && !meth.locks && decide (parseMethodDescriptor y.desc = some meth.sig)) = true) : (Jvm.Cond.code y bytes mx rt).before a s = true := by
  simp only [Bool.and_eq_true, beq_iff_eq, Bool.not_eq_true', decide_eq_true_eq] at h5
  obtain ⟨⟨⟨⟨⟨g1, g2⟩, g3⟩, g4⟩, g5⟩, g6⟩ := h5
  simp [Cond.before, Cond.holds, Cond.value, h1, h2, h3, h4, g1, g2, g3, g4, g5, g6]
def isCode : Jvm.Cond → Bool
  | .code _ _ _ _ => true
  | _ => false
theorem all_split {L : List Jvm.Cond} {P : Jvm.Cond → Bool} (h1 : L.all (fun c => isCode c || P c) = true) (h2 : ∀ c ∈ L.filter isCode, P c = true) : L.all P = true := by
  refine List.all_eq_true.mpr fun c hc => ?_
  have h := List.all_eq_true.mp h1 c hc
  rcases Bool.eq_false_or_eq_true (isCode c) with hi | hi
  · exact h2 c (List.mem_filter.mpr ⟨hc, hi⟩)
  · simpa [hi] using h
set_option maxRecDepth 65536 in
theorem w_c0 : (Jvm.Cond.code x code maxLocals ret).before args0 about1 = true := code_word (m := ⟨1, 2⟩) (meth := k1m2) (c := k1c2) (by decide +kernel) rfl rfl rfl (by decide +kernel)
set_option maxRecDepth 65536 in
theorem w_c1 : (Jvm.Cond.code ({ cls := "com/example/tally/tally/XPathFunctionUsesPositionPinLaw", name := "pick", desc := "(I)Lcom/example/tally/tally/XPathFunction;" } : Jvm.MethodName) method_2_code (1 : Nat) (Option.some (Jvm.ClassFile.FieldType.object "com/example/tally/tally/XPathFunction"))).before args0 about1 = true := code_word (m := ⟨1, 1⟩) (meth := k1m1) (c := k1c1) (by decide +kernel) rfl rfl rfl (by decide +kernel)
set_option maxRecDepth 65536 in
theorem w_c2 : (Jvm.Cond.code ({ cls := "com/example/tally/tally/XPathFunction", name := "usesPosition", desc := "()Z" } : Jvm.MethodName) prog_110_method_8_code (1 : Nat) (Option.some Jvm.ClassFile.FieldType.boolean)).before args0 about1 = true := code_word (m := ⟨6, 2⟩) (meth := k6m2) (c := k6c2) (by decide +kernel) rfl rfl rfl (by decide +kernel)
set_option maxRecDepth 65536 in
theorem w_c3 : (Jvm.Cond.code ({ cls := "com/example/tally/tally/XPathFunction", name := "isNumeric", desc := "()Z" } : Jvm.MethodName) prog_110_method_7_code (1 : Nat) (Option.some Jvm.ClassFile.FieldType.boolean)).before args0 about1 = true := code_word (m := ⟨6, 1⟩) (meth := k6m1) (c := k6c1) (by decide +kernel) rfl rfl rfl (by decide +kernel)
set_option maxRecDepth 65536 in
theorem w_c4 : (Jvm.Cond.code ({ cls := "com/example/tally/tally/XPathFunction", name := "reads", desc := "(I)Z" } : Jvm.MethodName) prog_110_method_5_code (2 : Nat) (Option.some Jvm.ClassFile.FieldType.boolean)).before args0 about1 = true := code_word (m := ⟨6, 0⟩) (meth := k6m0) (c := k6c0) (by decide +kernel) rfl rfl rfl (by decide +kernel)
def codes1 : List Jvm.Cond := [Jvm.Cond.code x code maxLocals ret, Jvm.Cond.code ({ cls := "com/example/tally/tally/XPathFunctionUsesPositionPinLaw", name := "pick", desc := "(I)Lcom/example/tally/tally/XPathFunction;" } : Jvm.MethodName) method_2_code (1 : Nat) (Option.some (Jvm.ClassFile.FieldType.object "com/example/tally/tally/XPathFunction")), Jvm.Cond.code ({ cls := "com/example/tally/tally/XPathFunction", name := "usesPosition", desc := "()Z" } : Jvm.MethodName) prog_110_method_8_code (1 : Nat) (Option.some Jvm.ClassFile.FieldType.boolean), Jvm.Cond.code ({ cls := "com/example/tally/tally/XPathFunction", name := "isNumeric", desc := "()Z" } : Jvm.MethodName) prog_110_method_7_code (1 : Nat) (Option.some Jvm.ClassFile.FieldType.boolean), Jvm.Cond.code ({ cls := "com/example/tally/tally/XPathFunction", name := "reads", desc := "(I)Z" } : Jvm.MethodName) prog_110_method_5_code (2 : Nat) (Option.some Jvm.ClassFile.FieldType.boolean)]
set_option maxRecDepth 65536 in
theorem codes_eq : words1.filter isCode = codes1 := rfl
theorem w_codes : ∀ c ∈ words1.filter isCode, c.before args0 about1 = true := by
  rw [codes_eq]
  intro c hc
  simp only [codes1, List.mem_cons, List.not_mem_nil, or_false] at hc
  rcases hc with rfl | rfl | rfl | rfl | rfl
  · exact w_c0
  · exact w_c1
  · exact w_c2
  · exact w_c3
  · exact w_c4
set_option maxRecDepth 65536 in
theorem w_t1 : (words1.take 24).all (fun c => isCode c || c.before args0 about1) = true := by decide +kernel
set_option maxRecDepth 65536 in
theorem w_t2 : ((words1.drop 24).take 24).all (fun c => isCode c || c.before args0 about1) = true := by decide +kernel
set_option maxRecDepth 65536 in
theorem w_t3 : ((words1.drop 24).drop 24).all (fun c => isCode c || c.before args0 about1) = true := by decide +kernel
theorem w_tables : (allAtoms (Jvm.Cond.code x code maxLocals ret :: tables_1)).before args0 about1 = true := by
  rw [allAtoms_all]
  show words1.all (fun c => c.before args0 about1) = true
  refine all_split ?_ w_codes
  rw [← List.take_append_drop 24 words1, List.all_append, w_t1, ← List.take_append_drop 24 (words1.drop 24), List.all_append, w_t2, w_t3]
  rfl
set_option maxRecDepth 65536 in
theorem w_case : (Jvm.Cond.and given_1 narrow_1).before args0 about1 = true := by decide +kernel
theorem w_applies : (headSpec (Jvm.Cond.code x code maxLocals ret :: tables_1) room_1).applies x e0.platform about1 = true :=
  (Spec.applies_iff w_frames).mpr ⟨w_running, w_runnable, w_alone, w_named, w_hears, w_ripe, w_room, w_tables⟩
theorem atStart : AtStart classFile x code maxLocals ret World_1 tables_1 room_1 Calls_1 rest_1 Pre_1 launch0 p0 e0 about1 theMethod args0 below0 :=
  ⟨lists_1, trivial, launch0.admits_env _ _ _, launch0.least_env, fairChoices_fair.cas, fairChoices_fair.clock, w_frames, w_args, w_heap, w_applies, trivial, trivial, w_case⟩
end start1
theorem witness_1 : WitnessClaimed_1 := ⟨start1.p0, start1.e0, start1.about1, start1.theMethod, start1.args0, start1.below0, start1.atStart⟩
end Jvm.Pilot.@@N@@
