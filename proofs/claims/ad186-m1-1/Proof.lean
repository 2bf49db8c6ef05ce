import JvmDerived
import JvmDerived.Pilot.@@N@@Statement
import JvmDerived.Pilot.@@N@@Code
set_option linter.unusedVariables false
set_option linter.unusedSimpArgs false
@@BLOCK:NumsL.lean.txt@@
namespace Jvm.Pilot.@@N@@
open Jvm Jvm.ClassFile Sem Op Lib Jvm.Free Jvm.Stand Jvm.LawKit Jvm.RoadKit Bundle Jvm.Pilot.@@N@@.Jvm.D
section OwnKit
variable {p : Program} {l : Launch} {e : Env} {R : Room} {s : State} {m : MethodId} {args : Array Value} {below : List Frame} {meth : Method} {c : Code} {T : State} {locs : List Loc} {cells slots : Nat}
/-- from U the run comes to an end of which K speaks -/
def Go (p : Program) (e : Env) (below : List Frame) (K : Outcome → State → Prop) (U : State) : Prop := ∃ s₂ o, Steps p.tables e below U s₂ ∧ s₂.status = .running ∧ Ended s₂ below o ∧ K o s₂
theorem own_s {K : Outcome → State → Prop} {A B : State} (h : ∀ t, Steps p.tables e below B t → Steps p.tables e below A t) (g : Go p e below K B) : Go p e below K A := by
  obtain ⟨s₂, o, h1, h2⟩ := g
  exact ⟨s₂, o, h _ h1, h2⟩
def Kf (s : State) (Q : Option Value → Heap → List Loc → Prop) (C N : Nat) (o : Outcome) (U : State) : Prop := ∃ v L, o = .returned v ∧ Q v U.heap L ∧ FrameEnd s o U L C N
theorem own_ret (X : Stand p l e R s m args below meth c T locs cells slots) (hx : p.tables.exec = Jvm.exec) (hlk : meth.locks = false) {pc : Nat} {Ls : Array Slot} {w : Value} {t : FieldType} {i : Instr} {rest : List Value} (hret : meth.sig.returnType = some t) (hn : narrow t w = w)
    (hi : (i = .ireturn ∧ (t = .int ∨ t = .boolean ∨ t = .byte ∨ t = .char ∨ t = .short) ∧ ∃ z, w = .int z) ∨ (i = .lreturn ∧ t = .long ∧ ∃ z, w = .long z) ∨ (i = .dreturn ∧ t = .double ∧ ∃ z, w = .double z) ∨ (i = .freturn ∧ t = .float ∧ ∃ z, w = .float z) ∨ (i = .areturn ∧ t.isReference = true ∧ w.isRef = true))
    (hd : decode c.code pc = .ok (i, 1)) {Q : Option Value → Heap → List Loc → Prop} {C N : Nat} (hc : cells ≤ C) (hs : slots ≤ N) (hQ : Q (some w) T.heap locs) : Go p e below (Kf s Q C N) (T.setTop (mkF m pc Ls (w :: rest))) := by
  obtain ⟨fs, hr, hrun, hended, hW, hsame⟩ := X.leave (v := some w) (fun h => by rw [hret] at h; cases h) hlk
  exact ⟨_, _, retOut X hx hret hn hi hd hr, hrun, hended, _, _, rfl, hQ, ⟨_, rfl⟩, hW, hsame.mono hc hs⟩
theorem own_retI (X : Stand p l e R s m args below meth c T locs cells slots) (hx : p.tables.exec = Jvm.exec) (hlk : meth.locks = false) {pc : Nat} {Ls : Array Slot} {z : Int32} {rest : List Value} (hret : meth.sig.returnType = some .int)
    (hd : decode c.code pc = .ok (.ireturn, 1)) {Q : Option Value → Heap → List Loc → Prop} {C N : Nat} (hc : cells ≤ C) (hs : slots ≤ N) (hQ : Q (some (.int z)) T.heap locs) : Go p e below (Kf s Q C N) (T.setTop (mkF m pc Ls (.int z :: rest))) :=
  own_ret X hx hlk hret rfl (Or.inl ⟨rfl, Or.inl rfl, _, rfl⟩) hd hc hs hQ
theorem own_retJ (X : Stand p l e R s m args below meth c T locs cells slots) (hx : p.tables.exec = Jvm.exec) (hlk : meth.locks = false) {pc : Nat} {Ls : Array Slot} {z : Int64} {rest : List Value} (hret : meth.sig.returnType = some .long)
    (hd : decode c.code pc = .ok (.lreturn, 1)) {Q : Option Value → Heap → List Loc → Prop} {C N : Nat} (hc : cells ≤ C) (hs : slots ≤ N) (hQ : Q (some (.long z)) T.heap locs) : Go p e below (Kf s Q C N) (T.setTop (mkF m pc Ls (.long z :: rest))) :=
  own_ret X hx hlk hret rfl (Or.inr (Or.inl ⟨rfl, rfl, _, rfl⟩)) hd hc hs hQ
theorem own_retR (X : Stand p l e R s m args below meth c T locs cells slots) (hx : p.tables.exec = Jvm.exec) (hlk : meth.locks = false) {pc : Nat} {Ls : Array Slot} {w : Value} {t : FieldType} {rest : List Value} (hret : meth.sig.returnType = some t) (ht : t.isReference = true) (hw : w.isRef = true)
    (hd : decode c.code pc = .ok (.areturn, 1)) {Q : Option Value → Heap → List Loc → Prop} {C N : Nat} (hc : cells ≤ C) (hs : slots ≤ N) (hQ : Q (some w) T.heap locs) : Go p e below (Kf s Q C N) (T.setTop (mkF m pc Ls (w :: rest))) :=
  own_ret X hx hlk hret (by cases t <;> simp [FieldType.isReference] at ht <;> cases w <;> simp [Value.isRef] at hw <;> rfl) (Or.inr (Or.inr (Or.inr (Or.inr ⟨rfl, ht, hw⟩)))) hd hc hs hQ
theorem own_retB (X : Stand p l e R s m args below meth c T locs cells slots) (hx : p.tables.exec = Jvm.exec) (hlk : meth.locks = false) {pc : Nat} {Ls : Array Slot} {z : Int32} {t : FieldType} {rest : List Value} (hret : meth.sig.returnType = some t) (ht : t = .boolean ∨ t = .byte ∨ t = .char ∨ t = .short)
    (hd : decode c.code pc = .ok (.ireturn, 1)) {Q : Option Value → Heap → List Loc → Prop} {C N : Nat} (hc : cells ≤ C) (hs : slots ≤ N) (hQ : Q (some (.int (nar t z))) T.heap locs) : Go p e below (Kf s Q C N) (T.setTop (mkF m pc Ls (.int z :: rest))) := by
  obtain ⟨fs, hr, hrun, hended, hW, hsame⟩ := X.leave (v := some (.int (nar t z))) (fun h => by rw [hret] at h; cases h) hlk
  exact ⟨_, _, retN X hx hret ht hd hr, hrun, hended, _, _, rfl, hQ, ⟨_, rfl⟩, hW, hsame.mono hc hs⟩
theorem own_retV (X : Stand p l e R s m args below meth c T locs cells slots) (hx : p.tables.exec = Jvm.exec) (hlk : meth.locks = false) {pc : Nat} {Ls : Array Slot} (hret : meth.sig.returnType = none)
    (hd : decode c.code pc = .ok (.return_, 1)) {Q : Option Value → Heap → List Loc → Prop} {C N : Nat} (hc : cells ≤ C) (hs : slots ≤ N) (hQ : Q none T.heap locs) : Go p e below (Kf s Q C N) (T.setTop (mkF m pc Ls [])) := by
  obtain ⟨fs, hr, hrun, hended, hW, hsame⟩ := X.leave (v := none) (fun _ => rfl) hlk
  exact ⟨_, _, X.returnOut hx hret hd hr, hrun, hended, _, _, rfl, hQ, ⟨_, rfl⟩, hW, hsame.mono hc hs⟩
/-- a truth as Java's int -/
abbrev bz (P : Prop) [Decidable P] : Int32 := if P then 1 else 0
theorem own_t {P : Prop} [Decidable P] (h : P) : some (Value.int (nar .boolean (1 : Int32))) = some (Value.int (bz P)) := by rw [bz, if_pos h]; rfl
theorem own_f {P : Prop} [Decidable P] (h : ¬ P) : some (Value.int (nar .boolean (0 : Int32))) = some (Value.int (bz P)) := by rw [bz, if_neg h]; rfl
theorem own_i {a b : Int32} (h : a = b) : some (Value.int a) = some (Value.int b) := by rw [h]
theorem own_j {a b : Int64} (h : a = b) : some (Value.long a) = some (Value.long b) := by rw [h]
theorem own_r {a b : Addr} (h : a = b) : some (Value.ref a) = some (Value.ref b) := by rw [h]
theorem own_eqI {args : Array Value} {first s : State} {o : Option Outcome} {idx : List Nat} {t : Term} {k : Int32} (h : (Jvm.Cond.eq t (Term.int k)).value args first o s idx = some true) : t.eval args first o idx s = some (.int k) := by
  simp only [Cond.value, Term.eval] at h
  cases ht : t.eval args first o idx s with
  | none => simp [ht] at h
  | some x => cases x <;> simp [ht] at h ⊢; exact h
end OwnKit
theorem own_lit {m : Int32} {k : Int} (h : m.toInt = k) : m = Int32.ofInt k := by rw [← h, Int32.ofInt_toInt]
theorem own_nc (j : Int32) : j.toNatClampNeg = j.toInt.toNat := rfl
theorem own_uniq {Z : State} {h : Heap} {a : Addr} {C n d : String} {v w : Value} (F : Fld Z h a C n d v) (G : Fld Z h a C n d w) : v = w := by
  obtain ⟨cell, cf, k, i, f, h1, h2, -, -, -, -, h7⟩ := F
  obtain ⟨cell', cf', k', i', f', g1, g2, -, -, -, -, g7⟩ := G
  cases h1.symm.trans g1
  cases h2.symm.trans g2
  exact Option.some.inj (h7.symm.trans g7)
theorem own_b1 {P : Prop} [Decidable P] (h : P) : bz P = (1 : Int32) := if_pos h
theorem own_b0 {P : Prop} [Decidable P] (h : ¬ P) : bz P = (0 : Int32) := if_neg h
theorem own_extt {h h' h'' : Heap} (E : Ext h h') (F : Ext h' h'') : Ext h h'' := ⟨Nat.le_trans E.1 F.1, fun a c q => F.2 a c (E.2 a c q)⟩
theorem own_ext0 (h : Heap) : Ext h h := ⟨Nat.le_refl _, fun _ _ q => q⟩
theorem own_extw {h0 h h' : Heap} {a : Addr} {sl : Nat} {v : Value} (E : Ext h0 h) (W : Wr h h' a sl v) (q : h0.size ≤ a) : Ext h0 h' :=
  ⟨by rw [W.size]; exact E.1, fun x c hc => by
    obtain ⟨c', e1, -, -, -, e5, -⟩ := wr_at W (E.2 x c hc)
    have ne : x ≠ a := Nat.ne_of_lt (Nat.lt_of_lt_of_le (Array.getElem?_eq_some_iff.mp hc).1 q)
    rw [← e5 ne]; exact e1⟩
theorem own_extk {h0 h h' : Heap} {ws : List Addr} (E : Ext h0 h) (K : Keep h h' ws) (q : ∀ x ∈ ws, h0.size ≤ x) : Ext h0 h' :=
  ⟨Nat.le_trans E.1 K.1, fun x c hc => K.2.1 x c (E.2 x c hc) fun z => absurd (Array.getElem?_eq_some_iff.mp hc).1 (Nat.not_lt.mpr (q x z))⟩
theorem own_kx {h h' : Heap} (E : Ext h h') (ws : List Addr) : Keep h h' ws := (Keep.refl h ws).ext E
theorem own_ktr {h h' h'' : Heap} {ws ws' : List Addr} (K : Keep h h' ws) (K' : Keep h' h'' ws') (q : ∀ x ∈ ws', x ∈ ws ∨ h.size ≤ x) : Keep h h'' ws := K.trans K' q
theorem own_pack {p : Program} {l : Launch} {e : Env} {R : Room} {s : State} {m : MethodId} {args : Array Value} {below : List Frame} {meth : Method} {c : Code} {T : State} {locs : List Loc} {cells slots n0 : Nat} (X : Stand p l e R s m args below meth c T locs cells slots) (N : Fr n0 locs) : ∃ L, Stand p l e R s m args below meth c T L cells slots ∧ Fr n0 L := ⟨locs, X, N⟩
theorem own_selp {s : State} {args : Array Value} {y : MethodName} {n : Nat} (wi : (Cond.instantiable y.cls n).before args s = true) (hp : s.PrivateAt y) (hi : (Cond.instanceMethod y).before args s = true) (hy : y.cls ≠ "java/lang/invoke/MethodHandle" ∧ y.cls ≠ "java/lang/invoke/VarHandle") : (Cond.selects y.cls y y).before args s = true := by
  obtain ⟨c, k, h1, h2, -, h4, -⟩ := Cond.instantiable_spec wi
  have h5 : k.isInterface = false := by
    cases q : k.isInterface with
    | false => rfl
    | true => rw [q] at h4; cases h4
  exact selects_self_of_private h1 h2 h5 hp hi hy
def WS (Z : State) (h : Heap) (W : Int32 → Addr) : Prop := Sta Z h "com/example/tally/tally/XPathFunction" "POSITION" "Lcom/example/tally/tally/XPathFunction;" (.ref (W (0 : Int32))) ∧ Sta Z h "com/example/tally/tally/XPathFunction" "LAST" "Lcom/example/tally/tally/XPathFunction;" (.ref (W (1 : Int32))) ∧ Sta Z h "com/example/tally/tally/XPathFunction" "COUNT" "Lcom/example/tally/tally/XPathFunction;" (.ref (W (2 : Int32))) ∧ Sta Z h "com/example/tally/tally/XPathFunction" "NOT" "Lcom/example/tally/tally/XPathFunction;" (.ref (W (3 : Int32))) ∧ Sta Z h "com/example/tally/tally/XPathFunction" "BOOLEAN" "Lcom/example/tally/tally/XPathFunction;" (.ref (W (4 : Int32))) ∧ Sta Z h "com/example/tally/tally/XPathFunction" "TRUE" "Lcom/example/tally/tally/XPathFunction;" (.ref (W (5 : Int32))) ∧ Sta Z h "com/example/tally/tally/XPathFunction" "FALSE" "Lcom/example/tally/tally/XPathFunction;" (.ref (W (6 : Int32))) ∧ Sta Z h "com/example/tally/tally/XPathFunction" "EXISTS" "Lcom/example/tally/tally/XPathFunction;" (.ref (W (7 : Int32))) ∧ Sta Z h "com/example/tally/tally/XPathFunction" "EMPTY" "Lcom/example/tally/tally/XPathFunction;" (.ref (W (8 : Int32))) ∧ Sta Z h "com/example/tally/tally/XPathFunction" "STRING" "Lcom/example/tally/tally/XPathFunction;" (.ref (W (9 : Int32))) ∧ Sta Z h "com/example/tally/tally/XPathFunction" "STRING_LENGTH" "Lcom/example/tally/tally/XPathFunction;" (.ref (W (10 : Int32))) ∧ Sta Z h "com/example/tally/tally/XPathFunction" "NORMALIZE_SPACE" "Lcom/example/tally/tally/XPathFunction;" (.ref (W (11 : Int32))) ∧ Sta Z h "com/example/tally/tally/XPathFunction" "CONTAINS" "Lcom/example/tally/tally/XPathFunction;" (.ref (W (12 : Int32))) ∧ Sta Z h "com/example/tally/tally/XPathFunction" "STARTS_WITH" "Lcom/example/tally/tally/XPathFunction;" (.ref (W (13 : Int32))) ∧ Sta Z h "com/example/tally/tally/XPathFunction" "ENDS_WITH" "Lcom/example/tally/tally/XPathFunction;" (.ref (W (14 : Int32))) ∧ Sta Z h "com/example/tally/tally/XPathFunction" "NUMBER" "Lcom/example/tally/tally/XPathFunction;" (.ref (W (15 : Int32))) ∧ Sta Z h "com/example/tally/tally/XPathFunction" "NAME" "Lcom/example/tally/tally/XPathFunction;" (.ref (W (16 : Int32))) ∧ Sta Z h "com/example/tally/tally/XPathFunction" "LOCAL_NAME" "Lcom/example/tally/tally/XPathFunction;" (.ref (W (17 : Int32))) ∧ Sta Z h "com/example/tally/tally/XPathFunction" "NAMESPACE_URI" "Lcom/example/tally/tally/XPathFunction;" (.ref (W (18 : Int32)))
theorem WS.ext {Z : State} {h h' : Heap} {W : Int32 → Addr} (E : Ext h h') (F : WS Z h W) : WS Z h' W := ⟨F.1.ext E, F.2.1.ext E, F.2.2.1.ext E, F.2.2.2.1.ext E, F.2.2.2.2.1.ext E, F.2.2.2.2.2.1.ext E, F.2.2.2.2.2.2.1.ext E, F.2.2.2.2.2.2.2.1.ext E, F.2.2.2.2.2.2.2.2.1.ext E, F.2.2.2.2.2.2.2.2.2.1.ext E, F.2.2.2.2.2.2.2.2.2.2.1.ext E, F.2.2.2.2.2.2.2.2.2.2.2.1.ext E, F.2.2.2.2.2.2.2.2.2.2.2.2.1.ext E, F.2.2.2.2.2.2.2.2.2.2.2.2.2.1.ext E, F.2.2.2.2.2.2.2.2.2.2.2.2.2.2.1.ext E, F.2.2.2.2.2.2.2.2.2.2.2.2.2.2.2.1.ext E, F.2.2.2.2.2.2.2.2.2.2.2.2.2.2.2.2.1.ext E, F.2.2.2.2.2.2.2.2.2.2.2.2.2.2.2.2.2.1.ext E, F.2.2.2.2.2.2.2.2.2.2.2.2.2.2.2.2.2.2.ext E⟩
theorem own_rg_0_18 {m : Int32} (h1 : 0 ≤ m.toInt) (h2 : m.toInt ≤ 18) : m = (0 : Int32) ∨ m = (1 : Int32) ∨ m = (2 : Int32) ∨ m = (3 : Int32) ∨ m = (4 : Int32) ∨ m = (5 : Int32) ∨ m = (6 : Int32) ∨ m = (7 : Int32) ∨ m = (8 : Int32) ∨ m = (9 : Int32) ∨ m = (10 : Int32) ∨ m = (11 : Int32) ∨ m = (12 : Int32) ∨ m = (13 : Int32) ∨ m = (14 : Int32) ∨ m = (15 : Int32) ∨ m = (16 : Int32) ∨ m = (17 : Int32) ∨ m = (18 : Int32) := by
  have h : m.toInt = 0 ∨ m.toInt = 1 ∨ m.toInt = 2 ∨ m.toInt = 3 ∨ m.toInt = 4 ∨ m.toInt = 5 ∨ m.toInt = 6 ∨ m.toInt = 7 ∨ m.toInt = 8 ∨ m.toInt = 9 ∨ m.toInt = 10 ∨ m.toInt = 11 ∨ m.toInt = 12 ∨ m.toInt = 13 ∨ m.toInt = 14 ∨ m.toInt = 15 ∨ m.toInt = 16 ∨ m.toInt = 17 ∨ m.toInt = 18 := by omega
  rcases h with h | h | h | h | h | h | h | h | h | h | h | h | h | h | h | h | h | h | h
  · exact (Or.inl (own_lit h))
  · exact (Or.inr (Or.inl (own_lit h)))
  · exact (Or.inr (Or.inr (Or.inl (own_lit h))))
  · exact (Or.inr (Or.inr (Or.inr (Or.inl (own_lit h)))))
  · exact (Or.inr (Or.inr (Or.inr (Or.inr (Or.inl (own_lit h))))))
  · exact (Or.inr (Or.inr (Or.inr (Or.inr (Or.inr (Or.inl (own_lit h)))))))
  · exact (Or.inr (Or.inr (Or.inr (Or.inr (Or.inr (Or.inr (Or.inl (own_lit h))))))))
  · exact (Or.inr (Or.inr (Or.inr (Or.inr (Or.inr (Or.inr (Or.inr (Or.inl (own_lit h)))))))))
  · exact (Or.inr (Or.inr (Or.inr (Or.inr (Or.inr (Or.inr (Or.inr (Or.inr (Or.inl (own_lit h))))))))))
  · exact (Or.inr (Or.inr (Or.inr (Or.inr (Or.inr (Or.inr (Or.inr (Or.inr (Or.inr (Or.inl (own_lit h)))))))))))
  · exact (Or.inr (Or.inr (Or.inr (Or.inr (Or.inr (Or.inr (Or.inr (Or.inr (Or.inr (Or.inr (Or.inl (own_lit h))))))))))))
  · exact (Or.inr (Or.inr (Or.inr (Or.inr (Or.inr (Or.inr (Or.inr (Or.inr (Or.inr (Or.inr (Or.inr (Or.inl (own_lit h)))))))))))))
  · exact (Or.inr (Or.inr (Or.inr (Or.inr (Or.inr (Or.inr (Or.inr (Or.inr (Or.inr (Or.inr (Or.inr (Or.inr (Or.inl (own_lit h))))))))))))))
  · exact (Or.inr (Or.inr (Or.inr (Or.inr (Or.inr (Or.inr (Or.inr (Or.inr (Or.inr (Or.inr (Or.inr (Or.inr (Or.inr (Or.inl (own_lit h)))))))))))))))
  · exact (Or.inr (Or.inr (Or.inr (Or.inr (Or.inr (Or.inr (Or.inr (Or.inr (Or.inr (Or.inr (Or.inr (Or.inr (Or.inr (Or.inr (Or.inl (own_lit h))))))))))))))))
  · exact (Or.inr (Or.inr (Or.inr (Or.inr (Or.inr (Or.inr (Or.inr (Or.inr (Or.inr (Or.inr (Or.inr (Or.inr (Or.inr (Or.inr (Or.inr (Or.inl (own_lit h)))))))))))))))))
  · exact (Or.inr (Or.inr (Or.inr (Or.inr (Or.inr (Or.inr (Or.inr (Or.inr (Or.inr (Or.inr (Or.inr (Or.inr (Or.inr (Or.inr (Or.inr (Or.inr (Or.inl (own_lit h))))))))))))))))))
  · exact (Or.inr (Or.inr (Or.inr (Or.inr (Or.inr (Or.inr (Or.inr (Or.inr (Or.inr (Or.inr (Or.inr (Or.inr (Or.inr (Or.inr (Or.inr (Or.inr (Or.inr (Or.inl (own_lit h)))))))))))))))))))
  · exact (Or.inr (Or.inr (Or.inr (Or.inr (Or.inr (Or.inr (Or.inr (Or.inr (Or.inr (Or.inr (Or.inr (Or.inr (Or.inr (Or.inr (Or.inr (Or.inr (Or.inr (Or.inr (own_lit h)))))))))))))))))))
theorem own_m (x : Int32) : 0 ≤ ((x &&& (2147483647 : Int32)) % (19 : Int32)).toInt ∧ ((x &&& (2147483647 : Int32)) % (19 : Int32)).toInt ≤ 18 := by
  have e1 : (x &&& (2147483647 : Int32)).toInt = x.toInt % 2 ^ 31 := Jvm.Kit.i32_mask x _ (k := 31) (by decide) (by decide)
  have e2 := Jvm.Kit.i32_rem_nonneg (x := (x &&& (2147483647 : Int32))) (y := (19 : Int32)) (by omega)
  have e3 : (19 : Int32).toInt = 19 := by decide
  rw [e3] at e2
  omega
def ordW (i : Int32) : Int32 := i
theorem s_injW {i j : Int32} (h : ordW i = ordW j) : i = j := h
theorem own_ne {W : Int32 → Addr} (IW : ∀ i j : Int32, 0 ≤ i.toInt → i.toInt ≤ 18 → 0 ≤ j.toInt → j.toInt ≤ 18 → W i = W j → i = j) (i j : Int32) (h : 0 ≤ i.toInt ∧ i.toInt ≤ 18 ∧ 0 ≤ j.toInt ∧ j.toInt ≤ 18 ∧ i ≠ j) : ¬ W i = W j := fun q => h.2.2.2.2 (IW i j h.1 h.2.1 h.2.2.1 h.2.2.2.1 q)
theorem d1_0 : decode prog_110_method_7_code 0 = .ok (.aload_n 0, 1) := by decide +kernel
theorem d1_1 : decode prog_110_method_7_code 1 = .ok (.getstatic 3, 3) := by decide +kernel
theorem d1_4 : decode prog_110_method_7_code 4 = .ok (.if_acmp .eq 31, 3) := by decide +kernel
theorem d1_7 : decode prog_110_method_7_code 7 = .ok (.aload_n 0, 1) := by decide +kernel
theorem d1_8 : decode prog_110_method_7_code 8 = .ok (.getstatic 7, 3) := by decide +kernel
theorem d1_11 : decode prog_110_method_7_code 11 = .ok (.if_acmp .eq 24, 3) := by decide +kernel
theorem d1_14 : decode prog_110_method_7_code 14 = .ok (.aload_n 0, 1) := by decide +kernel
theorem d1_15 : decode prog_110_method_7_code 15 = .ok (.getstatic 10, 3) := by decide +kernel
theorem d1_18 : decode prog_110_method_7_code 18 = .ok (.if_acmp .eq 17, 3) := by decide +kernel
theorem d1_21 : decode prog_110_method_7_code 21 = .ok (.aload_n 0, 1) := by decide +kernel
theorem d1_22 : decode prog_110_method_7_code 22 = .ok (.getstatic 34, 3) := by decide +kernel
theorem d1_25 : decode prog_110_method_7_code 25 = .ok (.if_acmp .eq 10, 3) := by decide +kernel
theorem d1_28 : decode prog_110_method_7_code 28 = .ok (.aload_n 0, 1) := by decide +kernel
theorem d1_29 : decode prog_110_method_7_code 29 = .ok (.getstatic 49, 3) := by decide +kernel
theorem d1_32 : decode prog_110_method_7_code 32 = .ok (.if_acmp .ne 7, 3) := by decide +kernel
theorem d1_35 : decode prog_110_method_7_code 35 = .ok (.iconst 1, 1) := by decide +kernel
theorem d1_36 : decode prog_110_method_7_code 36 = .ok (.goto 4, 3) := by decide +kernel
theorem d1_39 : decode prog_110_method_7_code 39 = .ok (.iconst 0, 1) := by decide +kernel
theorem d1_40 : decode prog_110_method_7_code 40 = .ok (.ireturn, 1) := by decide +kernel
theorem pn_0 : plainName "com/example/tally/tally/XPathFunction" = true := by first | (simp [plainName, overriddenIn]; done) | decide +kernel
theorem ef_1 (m : MethodId) (x0 : Addr) : entryFrame m #[(.ref x0)] 1 = mkF m 0 #[.val (.ref x0)] [] := by first | (simp [entryFrame, mkF, argsToLocals, Value.category]; done) | rfl
def Q1 (Z : State) (a1 : Addr) (W : Int32 → Addr) (z : Int32) (h0 : Heap) (n0 : Nat) (v : Option Value) (h : Heap) (L : List Loc) : Prop := v = some (.int z) ∧ Fr n0 L ∧ h = h0
set_option maxRecDepth 65536 in
set_option maxHeartbeats 40000000 in
theorem rm1 (l : Launch) (Z : State) (a0 : Array Value) (hw : ∀ d ∈ tables_1, d.before a0 Z = true) (ws : List Jvm.Cond) (a1 : Addr) (W : Int32 → Addr) (z : Int32) (h0 : Heap) (n0 : Nat) (Z0 : n0 ≤ h0.size) (EW : WS Z h0 W) (hz : bz (a1 = W (0 : Int32) ∨ a1 = W (1 : Int32) ∨ a1 = W (2 : Int32) ∨ a1 = W (10 : Int32) ∨ a1 = W (15 : Int32)) = z) :
    MetFree l (⟨"com/example/tally/tally/XPathFunction", "isNumeric", "()Z"⟩ : MethodName) (head1 (Jvm.Cond.code (⟨"com/example/tally/tally/XPathFunction", "isNumeric", "()Z"⟩ : MethodName) prog_110_method_7_code 1 (some .boolean) :: ws) ({ frames := 0, cells := 0, slots := 0, locals := 0 } : Room)) (fun a U => a = #[(.ref a1)] ∧ Z.Warmed39 U.vm ∧ U.heap = h0) (fun _ _ _ _ _ => True) (fun _ U o U' => ∃ v L, o = .returned v ∧ Q1 Z a1 W z h0 n0 v U'.heap L ∧ FrameEnd U o U' L ({ frames := 0, cells := 0, slots := 0, locals := 0 } : Room).cells ({ frames := 0, cells := 0, slots := 0, locals := 0 } : Room).slots) := by
  refine MetFree.of_bodySF (plainFor_of_name pn_0) hisR ?_
  intro p e s m args below meth c s₁ Bd hml0 hP hK
  obtain ⟨rfl, hZ, hh⟩ := hP
  have hx := Bd.exec
  have hby := Bd.bytes
  have hlk : meth.locks = false := BodyLoose.notSynchronized Bd
  have hml : c.maxLocals = 1 := hml0
  have hown : s.vm.findClass "com/example/tally/tally/XPathFunction" = some m.cls := findClass_of_methodNamed Bd.named
  have hnm := (name_of_methodNamed Bd.named Bd.method).1
  have X0 : Stand p l e ({ frames := 0, cells := 0, slots := 0, locals := 0 } : Room) s m #[(.ref a1)] below meth c s₁ [] 0 0 := Stand.of_body Bd
  have e0 : s₁.heap = h0 := by rw [← hh, Bd.state]; rfl
  have N0 := Fr.nil n0
  show Go p e below (Kf s (Q1 Z a1 W z h0 n0) ({ frames := 0, cells := 0, slots := 0, locals := 0 } : Room).cells ({ frames := 0, cells := 0, slots := 0, locals := 0 } : Room).slots) (s₁.setTop (entryFrame m #[(.ref a1)] 1))
  refine own_s (B := s₁.setTop (mkF m 0 #[.val (.ref a1)] [])) (fun t k => castTop (ef_1 m a1) k) ?_
  refine own_s (B := s₁.setTop (mkF m 1 #[.val (.ref a1)] [(.ref a1)])) (fun t k => XS.aloadN X0.here hx rfl (hb hby d1_0) rfl rfl k) ?_
  obtain ⟨T1, X1, e1, st1⟩ := getS2 X0 hx hZ hown (host := "") (Or.inl (hw _ (List.mem_of_getElem? (i := 49) rfl))) Via.refl e0 EW.1 (g := (mkF m 1 #[.val (.ref a1)] [(.ref a1)])) rfl (hb hby d1_1)
  refine own_s (B := T1.setTop (mkF m 4 #[.val (.ref a1)] [(.ref (W (0 : Int32))), (.ref a1)])) st1 ?_
  by_cases ha4 : a1 = (W (0 : Int32))
  · refine own_s (B := T1.setTop (mkF m 35 #[.val (.ref a1)] [])) (fun t k => Jvm.RoadKit.acmp (g := (mkF m 4 #[.val (.ref a1)] [(.ref (W (0 : Int32))), (.ref a1)])) X1 hx rfl rfl rfl (pc0 := 4) (pc' := 35) (same := true) rfl (hb hby d1_4) rfl (decide_eq_true (congrArg Value.ref ha4)) (by decide) (by decide) k) ?_
    refine own_s (B := T1.setTop (mkF m 36 #[.val (.ref a1)] [(.int (1 : Int32))])) (fun t k => XS.iconst X1.here hx rfl (hb hby d1_35) k) ?_
    refine own_s (B := T1.setTop (mkF m 40 #[.val (.ref a1)] [(.int (1 : Int32))])) (fun t k => XS.goto X1.here hx rfl (pc0 := 36) (pc' := 40) rfl (hb hby d1_36) (by decide) (by decide) k) ?_
    exact own_retB X1 hx hlk (t := .boolean) Bd.returns (by simp) (hb hby d1_40) (by decide) (by decide) ⟨(own_t (Or.inl ha4)).trans (own_i hz), N0, e1⟩
  · refine own_s (B := T1.setTop (mkF m 7 #[.val (.ref a1)] [])) (fun t k => Jvm.RoadKit.acmp (g := (mkF m 4 #[.val (.ref a1)] [(.ref (W (0 : Int32))), (.ref a1)])) X1 hx rfl rfl rfl (pc0 := 4) (pc' := 7) (same := false) rfl (hb hby d1_4) rfl (decide_eq_false fun q => ha4 (Value.ref.inj q)) (by decide) (by decide) k) ?_
    refine own_s (B := T1.setTop (mkF m 8 #[.val (.ref a1)] [(.ref a1)])) (fun t k => XS.aloadN X1.here hx rfl (hb hby d1_7) rfl rfl k) ?_
    obtain ⟨T2, X2, e2, st2⟩ := getS2 X1 hx hZ hown (host := "") (Or.inl (hw _ (List.mem_of_getElem? (i := 50) rfl))) Via.refl e1 EW.2.1 (g := (mkF m 8 #[.val (.ref a1)] [(.ref a1)])) rfl (hb hby d1_8)
    refine own_s (B := T2.setTop (mkF m 11 #[.val (.ref a1)] [(.ref (W (1 : Int32))), (.ref a1)])) st2 ?_
    by_cases ha11 : a1 = (W (1 : Int32))
    · refine own_s (B := T2.setTop (mkF m 35 #[.val (.ref a1)] [])) (fun t k => Jvm.RoadKit.acmp (g := (mkF m 11 #[.val (.ref a1)] [(.ref (W (1 : Int32))), (.ref a1)])) X2 hx rfl rfl rfl (pc0 := 11) (pc' := 35) (same := true) rfl (hb hby d1_11) rfl (decide_eq_true (congrArg Value.ref ha11)) (by decide) (by decide) k) ?_
      refine own_s (B := T2.setTop (mkF m 36 #[.val (.ref a1)] [(.int (1 : Int32))])) (fun t k => XS.iconst X2.here hx rfl (hb hby d1_35) k) ?_
      refine own_s (B := T2.setTop (mkF m 40 #[.val (.ref a1)] [(.int (1 : Int32))])) (fun t k => XS.goto X2.here hx rfl (pc0 := 36) (pc' := 40) rfl (hb hby d1_36) (by decide) (by decide) k) ?_
      exact own_retB X2 hx hlk (t := .boolean) Bd.returns (by simp) (hb hby d1_40) (by decide) (by decide) ⟨(own_t (Or.inr (Or.inl ha11))).trans (own_i hz), N0, e2⟩
    · refine own_s (B := T2.setTop (mkF m 14 #[.val (.ref a1)] [])) (fun t k => Jvm.RoadKit.acmp (g := (mkF m 11 #[.val (.ref a1)] [(.ref (W (1 : Int32))), (.ref a1)])) X2 hx rfl rfl rfl (pc0 := 11) (pc' := 14) (same := false) rfl (hb hby d1_11) rfl (decide_eq_false fun q => ha11 (Value.ref.inj q)) (by decide) (by decide) k) ?_
      refine own_s (B := T2.setTop (mkF m 15 #[.val (.ref a1)] [(.ref a1)])) (fun t k => XS.aloadN X2.here hx rfl (hb hby d1_14) rfl rfl k) ?_
      obtain ⟨T3, X3, e3, st3⟩ := getS2 X2 hx hZ hown (host := "") (Or.inl (hw _ (List.mem_of_getElem? (i := 51) rfl))) Via.refl e2 EW.2.2.1 (g := (mkF m 15 #[.val (.ref a1)] [(.ref a1)])) rfl (hb hby d1_15)
      refine own_s (B := T3.setTop (mkF m 18 #[.val (.ref a1)] [(.ref (W (2 : Int32))), (.ref a1)])) st3 ?_
      by_cases ha18 : a1 = (W (2 : Int32))
      · refine own_s (B := T3.setTop (mkF m 35 #[.val (.ref a1)] [])) (fun t k => Jvm.RoadKit.acmp (g := (mkF m 18 #[.val (.ref a1)] [(.ref (W (2 : Int32))), (.ref a1)])) X3 hx rfl rfl rfl (pc0 := 18) (pc' := 35) (same := true) rfl (hb hby d1_18) rfl (decide_eq_true (congrArg Value.ref ha18)) (by decide) (by decide) k) ?_
        refine own_s (B := T3.setTop (mkF m 36 #[.val (.ref a1)] [(.int (1 : Int32))])) (fun t k => XS.iconst X3.here hx rfl (hb hby d1_35) k) ?_
        refine own_s (B := T3.setTop (mkF m 40 #[.val (.ref a1)] [(.int (1 : Int32))])) (fun t k => XS.goto X3.here hx rfl (pc0 := 36) (pc' := 40) rfl (hb hby d1_36) (by decide) (by decide) k) ?_
        exact own_retB X3 hx hlk (t := .boolean) Bd.returns (by simp) (hb hby d1_40) (by decide) (by decide) ⟨(own_t (Or.inr (Or.inr (Or.inl ha18)))).trans (own_i hz), N0, e3⟩
      · refine own_s (B := T3.setTop (mkF m 21 #[.val (.ref a1)] [])) (fun t k => Jvm.RoadKit.acmp (g := (mkF m 18 #[.val (.ref a1)] [(.ref (W (2 : Int32))), (.ref a1)])) X3 hx rfl rfl rfl (pc0 := 18) (pc' := 21) (same := false) rfl (hb hby d1_18) rfl (decide_eq_false fun q => ha18 (Value.ref.inj q)) (by decide) (by decide) k) ?_
        refine own_s (B := T3.setTop (mkF m 22 #[.val (.ref a1)] [(.ref a1)])) (fun t k => XS.aloadN X3.here hx rfl (hb hby d1_21) rfl rfl k) ?_
        obtain ⟨T4, X4, e4, st4⟩ := getS2 X3 hx hZ hown (host := "") (Or.inl (hw _ (List.mem_of_getElem? (i := 52) rfl))) Via.refl e3 EW.2.2.2.2.2.2.2.2.2.2.1 (g := (mkF m 22 #[.val (.ref a1)] [(.ref a1)])) rfl (hb hby d1_22)
        refine own_s (B := T4.setTop (mkF m 25 #[.val (.ref a1)] [(.ref (W (10 : Int32))), (.ref a1)])) st4 ?_
        by_cases ha25 : a1 = (W (10 : Int32))
        · refine own_s (B := T4.setTop (mkF m 35 #[.val (.ref a1)] [])) (fun t k => Jvm.RoadKit.acmp (g := (mkF m 25 #[.val (.ref a1)] [(.ref (W (10 : Int32))), (.ref a1)])) X4 hx rfl rfl rfl (pc0 := 25) (pc' := 35) (same := true) rfl (hb hby d1_25) rfl (decide_eq_true (congrArg Value.ref ha25)) (by decide) (by decide) k) ?_
          refine own_s (B := T4.setTop (mkF m 36 #[.val (.ref a1)] [(.int (1 : Int32))])) (fun t k => XS.iconst X4.here hx rfl (hb hby d1_35) k) ?_
          refine own_s (B := T4.setTop (mkF m 40 #[.val (.ref a1)] [(.int (1 : Int32))])) (fun t k => XS.goto X4.here hx rfl (pc0 := 36) (pc' := 40) rfl (hb hby d1_36) (by decide) (by decide) k) ?_
          exact own_retB X4 hx hlk (t := .boolean) Bd.returns (by simp) (hb hby d1_40) (by decide) (by decide) ⟨(own_t (Or.inr (Or.inr (Or.inr (Or.inl ha25))))).trans (own_i hz), N0, e4⟩
        · refine own_s (B := T4.setTop (mkF m 28 #[.val (.ref a1)] [])) (fun t k => Jvm.RoadKit.acmp (g := (mkF m 25 #[.val (.ref a1)] [(.ref (W (10 : Int32))), (.ref a1)])) X4 hx rfl rfl rfl (pc0 := 25) (pc' := 28) (same := false) rfl (hb hby d1_25) rfl (decide_eq_false fun q => ha25 (Value.ref.inj q)) (by decide) (by decide) k) ?_
          refine own_s (B := T4.setTop (mkF m 29 #[.val (.ref a1)] [(.ref a1)])) (fun t k => XS.aloadN X4.here hx rfl (hb hby d1_28) rfl rfl k) ?_
          obtain ⟨T5, X5, e5, st5⟩ := getS2 X4 hx hZ hown (host := "") (Or.inl (hw _ (List.mem_of_getElem? (i := 53) rfl))) Via.refl e4 EW.2.2.2.2.2.2.2.2.2.2.2.2.2.2.2.1 (g := (mkF m 29 #[.val (.ref a1)] [(.ref a1)])) rfl (hb hby d1_29)
          refine own_s (B := T5.setTop (mkF m 32 #[.val (.ref a1)] [(.ref (W (15 : Int32))), (.ref a1)])) st5 ?_
          by_cases ha32 : a1 = (W (15 : Int32))
          · refine own_s (B := T5.setTop (mkF m 35 #[.val (.ref a1)] [])) (fun t k => Jvm.RoadKit.acmp (g := (mkF m 32 #[.val (.ref a1)] [(.ref (W (15 : Int32))), (.ref a1)])) X5 hx rfl rfl rfl (pc0 := 32) (pc' := 35) (same := true) rfl (hb hby d1_32) rfl (decide_eq_true (congrArg Value.ref ha32)) (by decide) (by decide) k) ?_
            refine own_s (B := T5.setTop (mkF m 36 #[.val (.ref a1)] [(.int (1 : Int32))])) (fun t k => XS.iconst X5.here hx rfl (hb hby d1_35) k) ?_
            refine own_s (B := T5.setTop (mkF m 40 #[.val (.ref a1)] [(.int (1 : Int32))])) (fun t k => XS.goto X5.here hx rfl (pc0 := 36) (pc' := 40) rfl (hb hby d1_36) (by decide) (by decide) k) ?_
            exact own_retB X5 hx hlk (t := .boolean) Bd.returns (by simp) (hb hby d1_40) (by decide) (by decide) ⟨(own_t (Or.inr (Or.inr (Or.inr (Or.inr ha32))))).trans (own_i hz), N0, e5⟩
          · refine own_s (B := T5.setTop (mkF m 39 #[.val (.ref a1)] [])) (fun t k => Jvm.RoadKit.acmp (g := (mkF m 32 #[.val (.ref a1)] [(.ref (W (15 : Int32))), (.ref a1)])) X5 hx rfl rfl rfl (pc0 := 32) (pc' := 39) (same := false) rfl (hb hby d1_32) rfl (decide_eq_false fun q => ha32 (Value.ref.inj q)) (by decide) (by decide) k) ?_
            refine own_s (B := T5.setTop (mkF m 40 #[.val (.ref a1)] [(.int (0 : Int32))])) (fun t k => XS.iconst X5.here hx rfl (hb hby d1_39) k) ?_
            exact own_retB X5 hx hlk (t := .boolean) Bd.returns (by simp) (hb hby d1_40) (by decide) (by decide) ⟨(own_f (by simp only [ha4, ha11, ha18, ha25, ha32, or_false, not_false_eq_true])).trans (own_i hz), N0, e5⟩
theorem pd_0 : parseMethodDescriptor "()Z" = some ⟨[], some .boolean⟩ := by decide +kernel
theorem pn_1 : plainName "com/example/tally/tally/XPathFunctionIsNumericPinLaw" = true := by first | (simp [plainName, overriddenIn]; done) | decide +kernel
theorem ef_0 (m : MethodId) (x0 : Int32) : entryFrame m #[(.int x0)] maxLocals = mkF m 0 #[.val (.int x0), .unset, .unset, .unset] [] := by first | (simp [entryFrame, mkF, argsToLocals, Value.category, maxLocals]; done) | rfl
def Q0 (Z : State) (p1 : Int32) (W : Int32 → Addr) (h0 : Heap) (n0 : Nat) (v : Option Value) (h : Heap) (L : List Loc) : Prop := v = some (.int 1) ∧ Fr n0 L
set_option maxRecDepth 65536 in
set_option maxHeartbeats 40000000 in
theorem rm0 (l : Launch) (Z : State) (a0 : Array Value) (hw : ∀ d ∈ tables_1, d.before a0 Z = true) (ws : List Jvm.Cond) (p1 : Int32) (W : Int32 → Addr) (h0 : Heap) (n0 : Nat) (Z0 : n0 ≤ h0.size) (EW : WS Z h0 W) (XW : ∀ i : Int32, 0 ≤ i.toInt → i.toInt ≤ 18 → Exa Z h0 (W i) "com/example/tally/tally/XPathFunction") (IW : ∀ i j : Int32, 0 ≤ i.toInt → i.toInt ≤ 18 → 0 ≤ j.toInt → j.toInt ≤ 18 → W i = W j → i = j) :
    MetFree l x (head1 (Jvm.Cond.code x code maxLocals ret :: ws) room_1) (fun a U => a = #[(.int p1)] ∧ Z.Warmed39 U.vm ∧ U.heap = h0) (fun _ _ _ _ _ => True) (fun _ U o U' => ∃ v L, o = .returned v ∧ Q0 Z p1 W h0 n0 v U'.heap L ∧ FrameEnd U o U' L room_1.cells room_1.slots) := by
  refine MetFree.of_bodySF (plainFor_of_name pn_1) hisR ?_
  intro p e s m args below meth c s₁ Bd hml0 hP hK
  obtain ⟨rfl, hZ, hh⟩ := hP
  have hx := Bd.exec
  have hby := Bd.bytes
  have hlk : meth.locks = false := BodyLoose.notSynchronized Bd
  have hml : c.maxLocals = 4 := hml0
  have hown : s.vm.findClass "com/example/tally/tally/XPathFunctionIsNumericPinLaw" = some m.cls := findClass_of_methodNamed Bd.named
  have hnm := (name_of_methodNamed Bd.named Bd.method).1
  have X0 : Stand p l e room_1 s m #[(.int p1)] below meth c s₁ [] 0 0 := Stand.of_body Bd
  have e0 : s₁.heap = h0 := by rw [← hh, Bd.state]; rfl
  have N0 := Fr.nil n0
  show Go p e below (Kf s (Q0 Z p1 W h0 n0) room_1.cells room_1.slots) (s₁.setTop (entryFrame m #[(.int p1)] maxLocals))
  refine own_s (B := s₁.setTop (mkF m 0 #[.val (.int p1), .unset, .unset, .unset] [])) (fun t k => castTop (ef_0 m p1) k) ?_
  refine own_s (B := s₁.setTop (mkF m 2 #[.val (.int p1), .unset, .unset, .unset] [(.int (19 : Int32))])) (fun t k => XS.bipush X0.here hx rfl (hb hby at_0) k) ?_
  obtain ⟨T1, h1, k1, X1, e1, E1, A1, O1, st1⟩ := newR X0 hx hZ hown (hw _ (List.mem_of_getElem? (i := 0) rfl)) (hw _ (List.mem_of_getElem? (i := 1) rfl)) e0 (g := (mkF m 2 #[.val (.int p1), .unset, .unset, .unset] [(.int (19 : Int32))])) rfl (hb hby at_2) rfl (by decide) (cap := 19) (by decide) (by decide) (by decide) (by decide)
  obtain ⟨b1, g1⟩ : ∃ z, z = h0.size := ⟨_, rfl⟩
  rw [← g1] at A1 st1
  have sz_b1 : h0.size ≤ b1 := (Nat.le_trans (own_ext0 h0).1 (Nat.le_of_eq g1.symm))
  have g_b1 : n0 ≤ b1 := Nat.le_trans Z0 sz_b1
  have EX : Ext h0 h1 := own_extt (own_ext0 h0) E1
  have V_b1 : Arv Z h1 b1 k1 (.object "com/example/tally/tally/XPathFunction") (19 : Int32) [.null, .null, .null, .null, .null, .null, .null, .null, .null, .null, .null, .null, .null, .null, .null, .null, .null, .null, .null] .null := (Arv.new A1 (by decide)).pad (pad_rep [] .null 19)
  refine own_s (B := T1.setTop (mkF m 5 #[.val (.int p1), .unset, .unset, .unset] [(.ref b1)])) st1 ?_
  refine own_s (B := T1.setTop (mkF m 6 #[.val (.int p1), .unset, .unset, .unset] [(.ref b1), (.ref b1)])) (fun t k => XS.dup X1.here hx rfl (hb hby at_5) rfl rfl k) ?_
  refine own_s (B := T1.setTop (mkF m 7 #[.val (.int p1), .unset, .unset, .unset] [(.int (0 : Int32)), (.ref b1), (.ref b1)])) (fun t k => XS.iconst X1.here hx rfl (hb hby at_6) k) ?_
  obtain ⟨T2, X2, e2, st2⟩ := getS2 X1 hx hZ hown (host := "") (Or.inl (hw _ (List.mem_of_getElem? (i := 2) rfl))) Via.refl e1 (EW.1.ext EX) (g := (mkF m 7 #[.val (.int p1), .unset, .unset, .unset] [(.int (0 : Int32)), (.ref b1), (.ref b1)])) rfl (hb hby at_7)
  refine own_s (B := T2.setTop (mkF m 10 #[.val (.int p1), .unset, .unset, .unset] [(.ref (W (0 : Int32))), (.int (0 : Int32)), (.ref b1), (.ref b1)])) st2 ?_
  obtain ⟨cl3, Ar3, q3, Sz3, Nn3, Hs3, G3⟩ := id V_b1
  have hin3 : ¬ ((0 : Int32) < 0 ∨ cl3.slots.size ≤ ((0 : Int32)).toNatClampNeg) := inb_of Sz3 ⟨by decide, by decide⟩
  obtain ⟨T3, h3, X3, e3, W3, st3⟩ := stR X2 hx hZ e2 Ar3 (j := (0 : Int32)) hin3 rfl (Sto.ofV Ar3 q3 O1 (Ins.self ((XW (0 : Int32) (by decide) (by decide)).ext EX))) (g := (mkF m 10 #[.val (.int p1), .unset, .unset, .unset] [(.ref (W (0 : Int32))), (.int (0 : Int32)), (.ref b1), (.ref b1)])) rfl rfl (hb hby at_10)
  replace V_b1 : Arv Z h3 b1 k1 (.object "com/example/tally/tally/XPathFunction") (19 : Int32) [(.ref (W (0 : Int32))), .null, .null, .null, .null, .null, .null, .null, .null, .null, .null, .null, .null, .null, .null, .null, .null, .null, .null] .null := Arv.set Ar3 q3 Sz3 Nn3 Hs3 G3 rfl W3 0 rfl (Nat.le_of_ble_eq_true rfl)
  have EX : Ext h0 h3 := own_extw EX W3 sz_b1
  have N3 := Fr.snoc X3 N0 g_b1
  obtain ⟨lq4, X3, N3⟩ := own_pack (cells := 1) (slots := 19) X3 N3
  refine own_s (B := T3.setTop (mkF m 11 #[.val (.int p1), .unset, .unset, .unset] [(.ref b1)])) st3 ?_
  refine own_s (B := T3.setTop (mkF m 12 #[.val (.int p1), .unset, .unset, .unset] [(.ref b1), (.ref b1)])) (fun t k => XS.dup X3.here hx rfl (hb hby at_11) rfl rfl k) ?_
  refine own_s (B := T3.setTop (mkF m 13 #[.val (.int p1), .unset, .unset, .unset] [(.int (1 : Int32)), (.ref b1), (.ref b1)])) (fun t k => XS.iconst X3.here hx rfl (hb hby at_12) k) ?_
  obtain ⟨T5, X5, e5, st5⟩ := getS2 X3 hx hZ hown (host := "") (Or.inl (hw _ (List.mem_of_getElem? (i := 6) rfl))) Via.refl e3 (EW.2.1.ext EX) (g := (mkF m 13 #[.val (.int p1), .unset, .unset, .unset] [(.int (1 : Int32)), (.ref b1), (.ref b1)])) rfl (hb hby at_13)
  refine own_s (B := T5.setTop (mkF m 16 #[.val (.int p1), .unset, .unset, .unset] [(.ref (W (1 : Int32))), (.int (1 : Int32)), (.ref b1), (.ref b1)])) st5 ?_
  obtain ⟨cl6, Ar6, q6, Sz6, Nn6, Hs6, G6⟩ := id V_b1
  have hin6 : ¬ ((1 : Int32) < 0 ∨ cl6.slots.size ≤ ((1 : Int32)).toNatClampNeg) := inb_of Sz6 ⟨by decide, by decide⟩
  obtain ⟨T6, h6, X6, e6, W6, st6⟩ := stR X5 hx hZ e5 Ar6 (j := (1 : Int32)) hin6 rfl (Sto.ofV Ar6 q6 O1 (Ins.self ((XW (1 : Int32) (by decide) (by decide)).ext EX))) (g := (mkF m 16 #[.val (.int p1), .unset, .unset, .unset] [(.ref (W (1 : Int32))), (.int (1 : Int32)), (.ref b1), (.ref b1)])) rfl rfl (hb hby at_16)
  replace V_b1 : Arv Z h6 b1 k1 (.object "com/example/tally/tally/XPathFunction") (19 : Int32) [(.ref (W (0 : Int32))), (.ref (W (1 : Int32))), .null, .null, .null, .null, .null, .null, .null, .null, .null, .null, .null, .null, .null, .null, .null, .null, .null] .null := Arv.set Ar6 q6 Sz6 Nn6 Hs6 G6 rfl W6 1 rfl (Nat.le_of_ble_eq_true rfl)
  have EX : Ext h0 h6 := own_extw EX W6 sz_b1
  have N6 := Fr.snoc X6 N3 g_b1
  obtain ⟨lq7, X6, N6⟩ := own_pack (cells := 1) (slots := 19) X6 N6
  refine own_s (B := T6.setTop (mkF m 17 #[.val (.int p1), .unset, .unset, .unset] [(.ref b1)])) st6 ?_
  refine own_s (B := T6.setTop (mkF m 18 #[.val (.int p1), .unset, .unset, .unset] [(.ref b1), (.ref b1)])) (fun t k => XS.dup X6.here hx rfl (hb hby at_17) rfl rfl k) ?_
  refine own_s (B := T6.setTop (mkF m 19 #[.val (.int p1), .unset, .unset, .unset] [(.int (2 : Int32)), (.ref b1), (.ref b1)])) (fun t k => XS.iconst X6.here hx rfl (hb hby at_18) k) ?_
  obtain ⟨T8, X8, e8, st8⟩ := getS2 X6 hx hZ hown (host := "") (Or.inl (hw _ (List.mem_of_getElem? (i := 8) rfl))) Via.refl e6 (EW.2.2.1.ext EX) (g := (mkF m 19 #[.val (.int p1), .unset, .unset, .unset] [(.int (2 : Int32)), (.ref b1), (.ref b1)])) rfl (hb hby at_19)
  refine own_s (B := T8.setTop (mkF m 22 #[.val (.int p1), .unset, .unset, .unset] [(.ref (W (2 : Int32))), (.int (2 : Int32)), (.ref b1), (.ref b1)])) st8 ?_
  obtain ⟨cl9, Ar9, q9, Sz9, Nn9, Hs9, G9⟩ := id V_b1
  have hin9 : ¬ ((2 : Int32) < 0 ∨ cl9.slots.size ≤ ((2 : Int32)).toNatClampNeg) := inb_of Sz9 ⟨by decide, by decide⟩
  obtain ⟨T9, h9, X9, e9, W9, st9⟩ := stR X8 hx hZ e8 Ar9 (j := (2 : Int32)) hin9 rfl (Sto.ofV Ar9 q9 O1 (Ins.self ((XW (2 : Int32) (by decide) (by decide)).ext EX))) (g := (mkF m 22 #[.val (.int p1), .unset, .unset, .unset] [(.ref (W (2 : Int32))), (.int (2 : Int32)), (.ref b1), (.ref b1)])) rfl rfl (hb hby at_22)
  replace V_b1 : Arv Z h9 b1 k1 (.object "com/example/tally/tally/XPathFunction") (19 : Int32) [(.ref (W (0 : Int32))), (.ref (W (1 : Int32))), (.ref (W (2 : Int32))), .null, .null, .null, .null, .null, .null, .null, .null, .null, .null, .null, .null, .null, .null, .null, .null] .null := Arv.set Ar9 q9 Sz9 Nn9 Hs9 G9 rfl W9 2 rfl (Nat.le_of_ble_eq_true rfl)
  have EX : Ext h0 h9 := own_extw EX W9 sz_b1
  have N9 := Fr.snoc X9 N6 g_b1
  obtain ⟨lq10, X9, N9⟩ := own_pack (cells := 1) (slots := 19) X9 N9
  refine own_s (B := T9.setTop (mkF m 23 #[.val (.int p1), .unset, .unset, .unset] [(.ref b1)])) st9 ?_
  refine own_s (B := T9.setTop (mkF m 24 #[.val (.int p1), .unset, .unset, .unset] [(.ref b1), (.ref b1)])) (fun t k => XS.dup X9.here hx rfl (hb hby at_23) rfl rfl k) ?_
  refine own_s (B := T9.setTop (mkF m 25 #[.val (.int p1), .unset, .unset, .unset] [(.int (3 : Int32)), (.ref b1), (.ref b1)])) (fun t k => XS.iconst X9.here hx rfl (hb hby at_24) k) ?_
  obtain ⟨T11, X11, e11, st11⟩ := getS2 X9 hx hZ hown (host := "") (Or.inl (hw _ (List.mem_of_getElem? (i := 10) rfl))) Via.refl e9 (EW.2.2.2.1.ext EX) (g := (mkF m 25 #[.val (.int p1), .unset, .unset, .unset] [(.int (3 : Int32)), (.ref b1), (.ref b1)])) rfl (hb hby at_25)
  refine own_s (B := T11.setTop (mkF m 28 #[.val (.int p1), .unset, .unset, .unset] [(.ref (W (3 : Int32))), (.int (3 : Int32)), (.ref b1), (.ref b1)])) st11 ?_
  obtain ⟨cl12, Ar12, q12, Sz12, Nn12, Hs12, G12⟩ := id V_b1
  have hin12 : ¬ ((3 : Int32) < 0 ∨ cl12.slots.size ≤ ((3 : Int32)).toNatClampNeg) := inb_of Sz12 ⟨by decide, by decide⟩
  obtain ⟨T12, h12, X12, e12, W12, st12⟩ := stR X11 hx hZ e11 Ar12 (j := (3 : Int32)) hin12 rfl (Sto.ofV Ar12 q12 O1 (Ins.self ((XW (3 : Int32) (by decide) (by decide)).ext EX))) (g := (mkF m 28 #[.val (.int p1), .unset, .unset, .unset] [(.ref (W (3 : Int32))), (.int (3 : Int32)), (.ref b1), (.ref b1)])) rfl rfl (hb hby at_28)
  replace V_b1 : Arv Z h12 b1 k1 (.object "com/example/tally/tally/XPathFunction") (19 : Int32) [(.ref (W (0 : Int32))), (.ref (W (1 : Int32))), (.ref (W (2 : Int32))), (.ref (W (3 : Int32))), .null, .null, .null, .null, .null, .null, .null, .null, .null, .null, .null, .null, .null, .null, .null] .null := Arv.set Ar12 q12 Sz12 Nn12 Hs12 G12 rfl W12 3 rfl (Nat.le_of_ble_eq_true rfl)
  have EX : Ext h0 h12 := own_extw EX W12 sz_b1
  have N12 := Fr.snoc X12 N9 g_b1
  obtain ⟨lq13, X12, N12⟩ := own_pack (cells := 1) (slots := 19) X12 N12
  refine own_s (B := T12.setTop (mkF m 29 #[.val (.int p1), .unset, .unset, .unset] [(.ref b1)])) st12 ?_
  refine own_s (B := T12.setTop (mkF m 30 #[.val (.int p1), .unset, .unset, .unset] [(.ref b1), (.ref b1)])) (fun t k => XS.dup X12.here hx rfl (hb hby at_29) rfl rfl k) ?_
  refine own_s (B := T12.setTop (mkF m 31 #[.val (.int p1), .unset, .unset, .unset] [(.int (4 : Int32)), (.ref b1), (.ref b1)])) (fun t k => XS.iconst X12.here hx rfl (hb hby at_30) k) ?_
  obtain ⟨T14, X14, e14, st14⟩ := getS2 X12 hx hZ hown (host := "") (Or.inl (hw _ (List.mem_of_getElem? (i := 12) rfl))) Via.refl e12 (EW.2.2.2.2.1.ext EX) (g := (mkF m 31 #[.val (.int p1), .unset, .unset, .unset] [(.int (4 : Int32)), (.ref b1), (.ref b1)])) rfl (hb hby at_31)
  refine own_s (B := T14.setTop (mkF m 34 #[.val (.int p1), .unset, .unset, .unset] [(.ref (W (4 : Int32))), (.int (4 : Int32)), (.ref b1), (.ref b1)])) st14 ?_
  obtain ⟨cl15, Ar15, q15, Sz15, Nn15, Hs15, G15⟩ := id V_b1
  have hin15 : ¬ ((4 : Int32) < 0 ∨ cl15.slots.size ≤ ((4 : Int32)).toNatClampNeg) := inb_of Sz15 ⟨by decide, by decide⟩
  obtain ⟨T15, h15, X15, e15, W15, st15⟩ := stR X14 hx hZ e14 Ar15 (j := (4 : Int32)) hin15 rfl (Sto.ofV Ar15 q15 O1 (Ins.self ((XW (4 : Int32) (by decide) (by decide)).ext EX))) (g := (mkF m 34 #[.val (.int p1), .unset, .unset, .unset] [(.ref (W (4 : Int32))), (.int (4 : Int32)), (.ref b1), (.ref b1)])) rfl rfl (hb hby at_34)
  replace V_b1 : Arv Z h15 b1 k1 (.object "com/example/tally/tally/XPathFunction") (19 : Int32) [(.ref (W (0 : Int32))), (.ref (W (1 : Int32))), (.ref (W (2 : Int32))), (.ref (W (3 : Int32))), (.ref (W (4 : Int32))), .null, .null, .null, .null, .null, .null, .null, .null, .null, .null, .null, .null, .null, .null] .null := Arv.set Ar15 q15 Sz15 Nn15 Hs15 G15 rfl W15 4 rfl (Nat.le_of_ble_eq_true rfl)
  have EX : Ext h0 h15 := own_extw EX W15 sz_b1
  have N15 := Fr.snoc X15 N12 g_b1
  obtain ⟨lq16, X15, N15⟩ := own_pack (cells := 1) (slots := 19) X15 N15
  refine own_s (B := T15.setTop (mkF m 35 #[.val (.int p1), .unset, .unset, .unset] [(.ref b1)])) st15 ?_
  refine own_s (B := T15.setTop (mkF m 36 #[.val (.int p1), .unset, .unset, .unset] [(.ref b1), (.ref b1)])) (fun t k => XS.dup X15.here hx rfl (hb hby at_35) rfl rfl k) ?_
  refine own_s (B := T15.setTop (mkF m 37 #[.val (.int p1), .unset, .unset, .unset] [(.int (5 : Int32)), (.ref b1), (.ref b1)])) (fun t k => XS.iconst X15.here hx rfl (hb hby at_36) k) ?_
  obtain ⟨T17, X17, e17, st17⟩ := getS2 X15 hx hZ hown (host := "") (Or.inl (hw _ (List.mem_of_getElem? (i := 14) rfl))) Via.refl e15 (EW.2.2.2.2.2.1.ext EX) (g := (mkF m 37 #[.val (.int p1), .unset, .unset, .unset] [(.int (5 : Int32)), (.ref b1), (.ref b1)])) rfl (hb hby at_37)
  refine own_s (B := T17.setTop (mkF m 40 #[.val (.int p1), .unset, .unset, .unset] [(.ref (W (5 : Int32))), (.int (5 : Int32)), (.ref b1), (.ref b1)])) st17 ?_
  obtain ⟨cl18, Ar18, q18, Sz18, Nn18, Hs18, G18⟩ := id V_b1
  have hin18 : ¬ ((5 : Int32) < 0 ∨ cl18.slots.size ≤ ((5 : Int32)).toNatClampNeg) := inb_of Sz18 ⟨by decide, by decide⟩
  obtain ⟨T18, h18, X18, e18, W18, st18⟩ := stR X17 hx hZ e17 Ar18 (j := (5 : Int32)) hin18 rfl (Sto.ofV Ar18 q18 O1 (Ins.self ((XW (5 : Int32) (by decide) (by decide)).ext EX))) (g := (mkF m 40 #[.val (.int p1), .unset, .unset, .unset] [(.ref (W (5 : Int32))), (.int (5 : Int32)), (.ref b1), (.ref b1)])) rfl rfl (hb hby at_40)
  replace V_b1 : Arv Z h18 b1 k1 (.object "com/example/tally/tally/XPathFunction") (19 : Int32) [(.ref (W (0 : Int32))), (.ref (W (1 : Int32))), (.ref (W (2 : Int32))), (.ref (W (3 : Int32))), (.ref (W (4 : Int32))), (.ref (W (5 : Int32))), .null, .null, .null, .null, .null, .null, .null, .null, .null, .null, .null, .null, .null] .null := Arv.set Ar18 q18 Sz18 Nn18 Hs18 G18 rfl W18 5 rfl (Nat.le_of_ble_eq_true rfl)
  have EX : Ext h0 h18 := own_extw EX W18 sz_b1
  have N18 := Fr.snoc X18 N15 g_b1
  obtain ⟨lq19, X18, N18⟩ := own_pack (cells := 1) (slots := 19) X18 N18
  refine own_s (B := T18.setTop (mkF m 41 #[.val (.int p1), .unset, .unset, .unset] [(.ref b1)])) st18 ?_
  refine own_s (B := T18.setTop (mkF m 42 #[.val (.int p1), .unset, .unset, .unset] [(.ref b1), (.ref b1)])) (fun t k => XS.dup X18.here hx rfl (hb hby at_41) rfl rfl k) ?_
  refine own_s (B := T18.setTop (mkF m 44 #[.val (.int p1), .unset, .unset, .unset] [(.int (6 : Int32)), (.ref b1), (.ref b1)])) (fun t k => XS.bipush X18.here hx rfl (hb hby at_42) k) ?_
  obtain ⟨T20, X20, e20, st20⟩ := getS2 X18 hx hZ hown (host := "") (Or.inl (hw _ (List.mem_of_getElem? (i := 16) rfl))) Via.refl e18 (EW.2.2.2.2.2.2.1.ext EX) (g := (mkF m 44 #[.val (.int p1), .unset, .unset, .unset] [(.int (6 : Int32)), (.ref b1), (.ref b1)])) rfl (hb hby at_44)
  refine own_s (B := T20.setTop (mkF m 47 #[.val (.int p1), .unset, .unset, .unset] [(.ref (W (6 : Int32))), (.int (6 : Int32)), (.ref b1), (.ref b1)])) st20 ?_
  obtain ⟨cl21, Ar21, q21, Sz21, Nn21, Hs21, G21⟩ := id V_b1
  have hin21 : ¬ ((6 : Int32) < 0 ∨ cl21.slots.size ≤ ((6 : Int32)).toNatClampNeg) := inb_of Sz21 ⟨by decide, by decide⟩
  obtain ⟨T21, h21, X21, e21, W21, st21⟩ := stR X20 hx hZ e20 Ar21 (j := (6 : Int32)) hin21 rfl (Sto.ofV Ar21 q21 O1 (Ins.self ((XW (6 : Int32) (by decide) (by decide)).ext EX))) (g := (mkF m 47 #[.val (.int p1), .unset, .unset, .unset] [(.ref (W (6 : Int32))), (.int (6 : Int32)), (.ref b1), (.ref b1)])) rfl rfl (hb hby at_47)
  replace V_b1 : Arv Z h21 b1 k1 (.object "com/example/tally/tally/XPathFunction") (19 : Int32) [(.ref (W (0 : Int32))), (.ref (W (1 : Int32))), (.ref (W (2 : Int32))), (.ref (W (3 : Int32))), (.ref (W (4 : Int32))), (.ref (W (5 : Int32))), (.ref (W (6 : Int32))), .null, .null, .null, .null, .null, .null, .null, .null, .null, .null, .null, .null] .null := Arv.set Ar21 q21 Sz21 Nn21 Hs21 G21 rfl W21 6 rfl (Nat.le_of_ble_eq_true rfl)
  have EX : Ext h0 h21 := own_extw EX W21 sz_b1
  have N21 := Fr.snoc X21 N18 g_b1
  obtain ⟨lq22, X21, N21⟩ := own_pack (cells := 1) (slots := 19) X21 N21
  refine own_s (B := T21.setTop (mkF m 48 #[.val (.int p1), .unset, .unset, .unset] [(.ref b1)])) st21 ?_
  refine own_s (B := T21.setTop (mkF m 49 #[.val (.int p1), .unset, .unset, .unset] [(.ref b1), (.ref b1)])) (fun t k => XS.dup X21.here hx rfl (hb hby at_48) rfl rfl k) ?_
  refine own_s (B := T21.setTop (mkF m 51 #[.val (.int p1), .unset, .unset, .unset] [(.int (7 : Int32)), (.ref b1), (.ref b1)])) (fun t k => XS.bipush X21.here hx rfl (hb hby at_49) k) ?_
  obtain ⟨T23, X23, e23, st23⟩ := getS2 X21 hx hZ hown (host := "") (Or.inl (hw _ (List.mem_of_getElem? (i := 18) rfl))) Via.refl e21 (EW.2.2.2.2.2.2.2.1.ext EX) (g := (mkF m 51 #[.val (.int p1), .unset, .unset, .unset] [(.int (7 : Int32)), (.ref b1), (.ref b1)])) rfl (hb hby at_51)
  refine own_s (B := T23.setTop (mkF m 54 #[.val (.int p1), .unset, .unset, .unset] [(.ref (W (7 : Int32))), (.int (7 : Int32)), (.ref b1), (.ref b1)])) st23 ?_
  obtain ⟨cl24, Ar24, q24, Sz24, Nn24, Hs24, G24⟩ := id V_b1
  have hin24 : ¬ ((7 : Int32) < 0 ∨ cl24.slots.size ≤ ((7 : Int32)).toNatClampNeg) := inb_of Sz24 ⟨by decide, by decide⟩
  obtain ⟨T24, h24, X24, e24, W24, st24⟩ := stR X23 hx hZ e23 Ar24 (j := (7 : Int32)) hin24 rfl (Sto.ofV Ar24 q24 O1 (Ins.self ((XW (7 : Int32) (by decide) (by decide)).ext EX))) (g := (mkF m 54 #[.val (.int p1), .unset, .unset, .unset] [(.ref (W (7 : Int32))), (.int (7 : Int32)), (.ref b1), (.ref b1)])) rfl rfl (hb hby at_54)
  replace V_b1 : Arv Z h24 b1 k1 (.object "com/example/tally/tally/XPathFunction") (19 : Int32) [(.ref (W (0 : Int32))), (.ref (W (1 : Int32))), (.ref (W (2 : Int32))), (.ref (W (3 : Int32))), (.ref (W (4 : Int32))), (.ref (W (5 : Int32))), (.ref (W (6 : Int32))), (.ref (W (7 : Int32))), .null, .null, .null, .null, .null, .null, .null, .null, .null, .null, .null] .null := Arv.set Ar24 q24 Sz24 Nn24 Hs24 G24 rfl W24 7 rfl (Nat.le_of_ble_eq_true rfl)
  have EX : Ext h0 h24 := own_extw EX W24 sz_b1
  have N24 := Fr.snoc X24 N21 g_b1
  obtain ⟨lq25, X24, N24⟩ := own_pack (cells := 1) (slots := 19) X24 N24
  refine own_s (B := T24.setTop (mkF m 55 #[.val (.int p1), .unset, .unset, .unset] [(.ref b1)])) st24 ?_
  refine own_s (B := T24.setTop (mkF m 56 #[.val (.int p1), .unset, .unset, .unset] [(.ref b1), (.ref b1)])) (fun t k => XS.dup X24.here hx rfl (hb hby at_55) rfl rfl k) ?_
  refine own_s (B := T24.setTop (mkF m 58 #[.val (.int p1), .unset, .unset, .unset] [(.int (8 : Int32)), (.ref b1), (.ref b1)])) (fun t k => XS.bipush X24.here hx rfl (hb hby at_56) k) ?_
  obtain ⟨T26, X26, e26, st26⟩ := getS2 X24 hx hZ hown (host := "") (Or.inl (hw _ (List.mem_of_getElem? (i := 20) rfl))) Via.refl e24 (EW.2.2.2.2.2.2.2.2.1.ext EX) (g := (mkF m 58 #[.val (.int p1), .unset, .unset, .unset] [(.int (8 : Int32)), (.ref b1), (.ref b1)])) rfl (hb hby at_58)
  refine own_s (B := T26.setTop (mkF m 61 #[.val (.int p1), .unset, .unset, .unset] [(.ref (W (8 : Int32))), (.int (8 : Int32)), (.ref b1), (.ref b1)])) st26 ?_
  obtain ⟨cl27, Ar27, q27, Sz27, Nn27, Hs27, G27⟩ := id V_b1
  have hin27 : ¬ ((8 : Int32) < 0 ∨ cl27.slots.size ≤ ((8 : Int32)).toNatClampNeg) := inb_of Sz27 ⟨by decide, by decide⟩
  obtain ⟨T27, h27, X27, e27, W27, st27⟩ := stR X26 hx hZ e26 Ar27 (j := (8 : Int32)) hin27 rfl (Sto.ofV Ar27 q27 O1 (Ins.self ((XW (8 : Int32) (by decide) (by decide)).ext EX))) (g := (mkF m 61 #[.val (.int p1), .unset, .unset, .unset] [(.ref (W (8 : Int32))), (.int (8 : Int32)), (.ref b1), (.ref b1)])) rfl rfl (hb hby at_61)
  replace V_b1 : Arv Z h27 b1 k1 (.object "com/example/tally/tally/XPathFunction") (19 : Int32) [(.ref (W (0 : Int32))), (.ref (W (1 : Int32))), (.ref (W (2 : Int32))), (.ref (W (3 : Int32))), (.ref (W (4 : Int32))), (.ref (W (5 : Int32))), (.ref (W (6 : Int32))), (.ref (W (7 : Int32))), (.ref (W (8 : Int32))), .null, .null, .null, .null, .null, .null, .null, .null, .null, .null] .null := Arv.set Ar27 q27 Sz27 Nn27 Hs27 G27 rfl W27 8 rfl (Nat.le_of_ble_eq_true rfl)
  have EX : Ext h0 h27 := own_extw EX W27 sz_b1
  have N27 := Fr.snoc X27 N24 g_b1
  obtain ⟨lq28, X27, N27⟩ := own_pack (cells := 1) (slots := 19) X27 N27
  refine own_s (B := T27.setTop (mkF m 62 #[.val (.int p1), .unset, .unset, .unset] [(.ref b1)])) st27 ?_
  refine own_s (B := T27.setTop (mkF m 63 #[.val (.int p1), .unset, .unset, .unset] [(.ref b1), (.ref b1)])) (fun t k => XS.dup X27.here hx rfl (hb hby at_62) rfl rfl k) ?_
  refine own_s (B := T27.setTop (mkF m 65 #[.val (.int p1), .unset, .unset, .unset] [(.int (9 : Int32)), (.ref b1), (.ref b1)])) (fun t k => XS.bipush X27.here hx rfl (hb hby at_63) k) ?_
  obtain ⟨T29, X29, e29, st29⟩ := getS2 X27 hx hZ hown (host := "") (Or.inl (hw _ (List.mem_of_getElem? (i := 22) rfl))) Via.refl e27 (EW.2.2.2.2.2.2.2.2.2.1.ext EX) (g := (mkF m 65 #[.val (.int p1), .unset, .unset, .unset] [(.int (9 : Int32)), (.ref b1), (.ref b1)])) rfl (hb hby at_65)
  refine own_s (B := T29.setTop (mkF m 68 #[.val (.int p1), .unset, .unset, .unset] [(.ref (W (9 : Int32))), (.int (9 : Int32)), (.ref b1), (.ref b1)])) st29 ?_
  obtain ⟨cl30, Ar30, q30, Sz30, Nn30, Hs30, G30⟩ := id V_b1
  have hin30 : ¬ ((9 : Int32) < 0 ∨ cl30.slots.size ≤ ((9 : Int32)).toNatClampNeg) := inb_of Sz30 ⟨by decide, by decide⟩
  obtain ⟨T30, h30, X30, e30, W30, st30⟩ := stR X29 hx hZ e29 Ar30 (j := (9 : Int32)) hin30 rfl (Sto.ofV Ar30 q30 O1 (Ins.self ((XW (9 : Int32) (by decide) (by decide)).ext EX))) (g := (mkF m 68 #[.val (.int p1), .unset, .unset, .unset] [(.ref (W (9 : Int32))), (.int (9 : Int32)), (.ref b1), (.ref b1)])) rfl rfl (hb hby at_68)
  replace V_b1 : Arv Z h30 b1 k1 (.object "com/example/tally/tally/XPathFunction") (19 : Int32) [(.ref (W (0 : Int32))), (.ref (W (1 : Int32))), (.ref (W (2 : Int32))), (.ref (W (3 : Int32))), (.ref (W (4 : Int32))), (.ref (W (5 : Int32))), (.ref (W (6 : Int32))), (.ref (W (7 : Int32))), (.ref (W (8 : Int32))), (.ref (W (9 : Int32))), .null, .null, .null, .null, .null, .null, .null, .null, .null] .null := Arv.set Ar30 q30 Sz30 Nn30 Hs30 G30 rfl W30 9 rfl (Nat.le_of_ble_eq_true rfl)
  have EX : Ext h0 h30 := own_extw EX W30 sz_b1
  have N30 := Fr.snoc X30 N27 g_b1
  obtain ⟨lq31, X30, N30⟩ := own_pack (cells := 1) (slots := 19) X30 N30
  refine own_s (B := T30.setTop (mkF m 69 #[.val (.int p1), .unset, .unset, .unset] [(.ref b1)])) st30 ?_
  refine own_s (B := T30.setTop (mkF m 70 #[.val (.int p1), .unset, .unset, .unset] [(.ref b1), (.ref b1)])) (fun t k => XS.dup X30.here hx rfl (hb hby at_69) rfl rfl k) ?_
  refine own_s (B := T30.setTop (mkF m 72 #[.val (.int p1), .unset, .unset, .unset] [(.int (10 : Int32)), (.ref b1), (.ref b1)])) (fun t k => XS.bipush X30.here hx rfl (hb hby at_70) k) ?_
  obtain ⟨T32, X32, e32, st32⟩ := getS2 X30 hx hZ hown (host := "") (Or.inl (hw _ (List.mem_of_getElem? (i := 24) rfl))) Via.refl e30 (EW.2.2.2.2.2.2.2.2.2.2.1.ext EX) (g := (mkF m 72 #[.val (.int p1), .unset, .unset, .unset] [(.int (10 : Int32)), (.ref b1), (.ref b1)])) rfl (hb hby at_72)
  refine own_s (B := T32.setTop (mkF m 75 #[.val (.int p1), .unset, .unset, .unset] [(.ref (W (10 : Int32))), (.int (10 : Int32)), (.ref b1), (.ref b1)])) st32 ?_
  obtain ⟨cl33, Ar33, q33, Sz33, Nn33, Hs33, G33⟩ := id V_b1
  have hin33 : ¬ ((10 : Int32) < 0 ∨ cl33.slots.size ≤ ((10 : Int32)).toNatClampNeg) := inb_of Sz33 ⟨by decide, by decide⟩
  obtain ⟨T33, h33, X33, e33, W33, st33⟩ := stR X32 hx hZ e32 Ar33 (j := (10 : Int32)) hin33 rfl (Sto.ofV Ar33 q33 O1 (Ins.self ((XW (10 : Int32) (by decide) (by decide)).ext EX))) (g := (mkF m 75 #[.val (.int p1), .unset, .unset, .unset] [(.ref (W (10 : Int32))), (.int (10 : Int32)), (.ref b1), (.ref b1)])) rfl rfl (hb hby at_75)
  replace V_b1 : Arv Z h33 b1 k1 (.object "com/example/tally/tally/XPathFunction") (19 : Int32) [(.ref (W (0 : Int32))), (.ref (W (1 : Int32))), (.ref (W (2 : Int32))), (.ref (W (3 : Int32))), (.ref (W (4 : Int32))), (.ref (W (5 : Int32))), (.ref (W (6 : Int32))), (.ref (W (7 : Int32))), (.ref (W (8 : Int32))), (.ref (W (9 : Int32))), (.ref (W (10 : Int32))), .null, .null, .null, .null, .null, .null, .null, .null] .null := Arv.set Ar33 q33 Sz33 Nn33 Hs33 G33 rfl W33 10 rfl (Nat.le_of_ble_eq_true rfl)
  have EX : Ext h0 h33 := own_extw EX W33 sz_b1
  have N33 := Fr.snoc X33 N30 g_b1
  obtain ⟨lq34, X33, N33⟩ := own_pack (cells := 1) (slots := 19) X33 N33
  refine own_s (B := T33.setTop (mkF m 76 #[.val (.int p1), .unset, .unset, .unset] [(.ref b1)])) st33 ?_
  refine own_s (B := T33.setTop (mkF m 77 #[.val (.int p1), .unset, .unset, .unset] [(.ref b1), (.ref b1)])) (fun t k => XS.dup X33.here hx rfl (hb hby at_76) rfl rfl k) ?_
  refine own_s (B := T33.setTop (mkF m 79 #[.val (.int p1), .unset, .unset, .unset] [(.int (11 : Int32)), (.ref b1), (.ref b1)])) (fun t k => XS.bipush X33.here hx rfl (hb hby at_77) k) ?_
  obtain ⟨T35, X35, e35, st35⟩ := getS2 X33 hx hZ hown (host := "") (Or.inl (hw _ (List.mem_of_getElem? (i := 26) rfl))) Via.refl e33 (EW.2.2.2.2.2.2.2.2.2.2.2.1.ext EX) (g := (mkF m 79 #[.val (.int p1), .unset, .unset, .unset] [(.int (11 : Int32)), (.ref b1), (.ref b1)])) rfl (hb hby at_79)
  refine own_s (B := T35.setTop (mkF m 82 #[.val (.int p1), .unset, .unset, .unset] [(.ref (W (11 : Int32))), (.int (11 : Int32)), (.ref b1), (.ref b1)])) st35 ?_
  obtain ⟨cl36, Ar36, q36, Sz36, Nn36, Hs36, G36⟩ := id V_b1
  have hin36 : ¬ ((11 : Int32) < 0 ∨ cl36.slots.size ≤ ((11 : Int32)).toNatClampNeg) := inb_of Sz36 ⟨by decide, by decide⟩
  obtain ⟨T36, h36, X36, e36, W36, st36⟩ := stR X35 hx hZ e35 Ar36 (j := (11 : Int32)) hin36 rfl (Sto.ofV Ar36 q36 O1 (Ins.self ((XW (11 : Int32) (by decide) (by decide)).ext EX))) (g := (mkF m 82 #[.val (.int p1), .unset, .unset, .unset] [(.ref (W (11 : Int32))), (.int (11 : Int32)), (.ref b1), (.ref b1)])) rfl rfl (hb hby at_82)
  replace V_b1 : Arv Z h36 b1 k1 (.object "com/example/tally/tally/XPathFunction") (19 : Int32) [(.ref (W (0 : Int32))), (.ref (W (1 : Int32))), (.ref (W (2 : Int32))), (.ref (W (3 : Int32))), (.ref (W (4 : Int32))), (.ref (W (5 : Int32))), (.ref (W (6 : Int32))), (.ref (W (7 : Int32))), (.ref (W (8 : Int32))), (.ref (W (9 : Int32))), (.ref (W (10 : Int32))), (.ref (W (11 : Int32))), .null, .null, .null, .null, .null, .null, .null] .null := Arv.set Ar36 q36 Sz36 Nn36 Hs36 G36 rfl W36 11 rfl (Nat.le_of_ble_eq_true rfl)
  have EX : Ext h0 h36 := own_extw EX W36 sz_b1
  have N36 := Fr.snoc X36 N33 g_b1
  obtain ⟨lq37, X36, N36⟩ := own_pack (cells := 1) (slots := 19) X36 N36
  refine own_s (B := T36.setTop (mkF m 83 #[.val (.int p1), .unset, .unset, .unset] [(.ref b1)])) st36 ?_
  refine own_s (B := T36.setTop (mkF m 84 #[.val (.int p1), .unset, .unset, .unset] [(.ref b1), (.ref b1)])) (fun t k => XS.dup X36.here hx rfl (hb hby at_83) rfl rfl k) ?_
  refine own_s (B := T36.setTop (mkF m 86 #[.val (.int p1), .unset, .unset, .unset] [(.int (12 : Int32)), (.ref b1), (.ref b1)])) (fun t k => XS.bipush X36.here hx rfl (hb hby at_84) k) ?_
  obtain ⟨T38, X38, e38, st38⟩ := getS2 X36 hx hZ hown (host := "") (Or.inl (hw _ (List.mem_of_getElem? (i := 28) rfl))) Via.refl e36 (EW.2.2.2.2.2.2.2.2.2.2.2.2.1.ext EX) (g := (mkF m 86 #[.val (.int p1), .unset, .unset, .unset] [(.int (12 : Int32)), (.ref b1), (.ref b1)])) rfl (hb hby at_86)
  refine own_s (B := T38.setTop (mkF m 89 #[.val (.int p1), .unset, .unset, .unset] [(.ref (W (12 : Int32))), (.int (12 : Int32)), (.ref b1), (.ref b1)])) st38 ?_
  obtain ⟨cl39, Ar39, q39, Sz39, Nn39, Hs39, G39⟩ := id V_b1
  have hin39 : ¬ ((12 : Int32) < 0 ∨ cl39.slots.size ≤ ((12 : Int32)).toNatClampNeg) := inb_of Sz39 ⟨by decide, by decide⟩
  obtain ⟨T39, h39, X39, e39, W39, st39⟩ := stR X38 hx hZ e38 Ar39 (j := (12 : Int32)) hin39 rfl (Sto.ofV Ar39 q39 O1 (Ins.self ((XW (12 : Int32) (by decide) (by decide)).ext EX))) (g := (mkF m 89 #[.val (.int p1), .unset, .unset, .unset] [(.ref (W (12 : Int32))), (.int (12 : Int32)), (.ref b1), (.ref b1)])) rfl rfl (hb hby at_89)
  replace V_b1 : Arv Z h39 b1 k1 (.object "com/example/tally/tally/XPathFunction") (19 : Int32) [(.ref (W (0 : Int32))), (.ref (W (1 : Int32))), (.ref (W (2 : Int32))), (.ref (W (3 : Int32))), (.ref (W (4 : Int32))), (.ref (W (5 : Int32))), (.ref (W (6 : Int32))), (.ref (W (7 : Int32))), (.ref (W (8 : Int32))), (.ref (W (9 : Int32))), (.ref (W (10 : Int32))), (.ref (W (11 : Int32))), (.ref (W (12 : Int32))), .null, .null, .null, .null, .null, .null] .null := Arv.set Ar39 q39 Sz39 Nn39 Hs39 G39 rfl W39 12 rfl (Nat.le_of_ble_eq_true rfl)
  have EX : Ext h0 h39 := own_extw EX W39 sz_b1
  have N39 := Fr.snoc X39 N36 g_b1
  obtain ⟨lq40, X39, N39⟩ := own_pack (cells := 1) (slots := 19) X39 N39
  refine own_s (B := T39.setTop (mkF m 90 #[.val (.int p1), .unset, .unset, .unset] [(.ref b1)])) st39 ?_
  refine own_s (B := T39.setTop (mkF m 91 #[.val (.int p1), .unset, .unset, .unset] [(.ref b1), (.ref b1)])) (fun t k => XS.dup X39.here hx rfl (hb hby at_90) rfl rfl k) ?_
  refine own_s (B := T39.setTop (mkF m 93 #[.val (.int p1), .unset, .unset, .unset] [(.int (13 : Int32)), (.ref b1), (.ref b1)])) (fun t k => XS.bipush X39.here hx rfl (hb hby at_91) k) ?_
  obtain ⟨T41, X41, e41, st41⟩ := getS2 X39 hx hZ hown (host := "") (Or.inl (hw _ (List.mem_of_getElem? (i := 30) rfl))) Via.refl e39 (EW.2.2.2.2.2.2.2.2.2.2.2.2.2.1.ext EX) (g := (mkF m 93 #[.val (.int p1), .unset, .unset, .unset] [(.int (13 : Int32)), (.ref b1), (.ref b1)])) rfl (hb hby at_93)
  refine own_s (B := T41.setTop (mkF m 96 #[.val (.int p1), .unset, .unset, .unset] [(.ref (W (13 : Int32))), (.int (13 : Int32)), (.ref b1), (.ref b1)])) st41 ?_
  obtain ⟨cl42, Ar42, q42, Sz42, Nn42, Hs42, G42⟩ := id V_b1
  have hin42 : ¬ ((13 : Int32) < 0 ∨ cl42.slots.size ≤ ((13 : Int32)).toNatClampNeg) := inb_of Sz42 ⟨by decide, by decide⟩
  obtain ⟨T42, h42, X42, e42, W42, st42⟩ := stR X41 hx hZ e41 Ar42 (j := (13 : Int32)) hin42 rfl (Sto.ofV Ar42 q42 O1 (Ins.self ((XW (13 : Int32) (by decide) (by decide)).ext EX))) (g := (mkF m 96 #[.val (.int p1), .unset, .unset, .unset] [(.ref (W (13 : Int32))), (.int (13 : Int32)), (.ref b1), (.ref b1)])) rfl rfl (hb hby at_96)
  replace V_b1 : Arv Z h42 b1 k1 (.object "com/example/tally/tally/XPathFunction") (19 : Int32) [(.ref (W (0 : Int32))), (.ref (W (1 : Int32))), (.ref (W (2 : Int32))), (.ref (W (3 : Int32))), (.ref (W (4 : Int32))), (.ref (W (5 : Int32))), (.ref (W (6 : Int32))), (.ref (W (7 : Int32))), (.ref (W (8 : Int32))), (.ref (W (9 : Int32))), (.ref (W (10 : Int32))), (.ref (W (11 : Int32))), (.ref (W (12 : Int32))), (.ref (W (13 : Int32))), .null, .null, .null, .null, .null] .null := Arv.set Ar42 q42 Sz42 Nn42 Hs42 G42 rfl W42 13 rfl (Nat.le_of_ble_eq_true rfl)
  have EX : Ext h0 h42 := own_extw EX W42 sz_b1
  have N42 := Fr.snoc X42 N39 g_b1
  obtain ⟨lq43, X42, N42⟩ := own_pack (cells := 1) (slots := 19) X42 N42
  refine own_s (B := T42.setTop (mkF m 97 #[.val (.int p1), .unset, .unset, .unset] [(.ref b1)])) st42 ?_
  refine own_s (B := T42.setTop (mkF m 98 #[.val (.int p1), .unset, .unset, .unset] [(.ref b1), (.ref b1)])) (fun t k => XS.dup X42.here hx rfl (hb hby at_97) rfl rfl k) ?_
  refine own_s (B := T42.setTop (mkF m 100 #[.val (.int p1), .unset, .unset, .unset] [(.int (14 : Int32)), (.ref b1), (.ref b1)])) (fun t k => XS.bipush X42.here hx rfl (hb hby at_98) k) ?_
  obtain ⟨T44, X44, e44, st44⟩ := getS2 X42 hx hZ hown (host := "") (Or.inl (hw _ (List.mem_of_getElem? (i := 32) rfl))) Via.refl e42 (EW.2.2.2.2.2.2.2.2.2.2.2.2.2.2.1.ext EX) (g := (mkF m 100 #[.val (.int p1), .unset, .unset, .unset] [(.int (14 : Int32)), (.ref b1), (.ref b1)])) rfl (hb hby at_100)
  refine own_s (B := T44.setTop (mkF m 103 #[.val (.int p1), .unset, .unset, .unset] [(.ref (W (14 : Int32))), (.int (14 : Int32)), (.ref b1), (.ref b1)])) st44 ?_
  obtain ⟨cl45, Ar45, q45, Sz45, Nn45, Hs45, G45⟩ := id V_b1
  have hin45 : ¬ ((14 : Int32) < 0 ∨ cl45.slots.size ≤ ((14 : Int32)).toNatClampNeg) := inb_of Sz45 ⟨by decide, by decide⟩
  obtain ⟨T45, h45, X45, e45, W45, st45⟩ := stR X44 hx hZ e44 Ar45 (j := (14 : Int32)) hin45 rfl (Sto.ofV Ar45 q45 O1 (Ins.self ((XW (14 : Int32) (by decide) (by decide)).ext EX))) (g := (mkF m 103 #[.val (.int p1), .unset, .unset, .unset] [(.ref (W (14 : Int32))), (.int (14 : Int32)), (.ref b1), (.ref b1)])) rfl rfl (hb hby at_103)
  replace V_b1 : Arv Z h45 b1 k1 (.object "com/example/tally/tally/XPathFunction") (19 : Int32) [(.ref (W (0 : Int32))), (.ref (W (1 : Int32))), (.ref (W (2 : Int32))), (.ref (W (3 : Int32))), (.ref (W (4 : Int32))), (.ref (W (5 : Int32))), (.ref (W (6 : Int32))), (.ref (W (7 : Int32))), (.ref (W (8 : Int32))), (.ref (W (9 : Int32))), (.ref (W (10 : Int32))), (.ref (W (11 : Int32))), (.ref (W (12 : Int32))), (.ref (W (13 : Int32))), (.ref (W (14 : Int32))), .null, .null, .null, .null] .null := Arv.set Ar45 q45 Sz45 Nn45 Hs45 G45 rfl W45 14 rfl (Nat.le_of_ble_eq_true rfl)
  have EX : Ext h0 h45 := own_extw EX W45 sz_b1
  have N45 := Fr.snoc X45 N42 g_b1
  obtain ⟨lq46, X45, N45⟩ := own_pack (cells := 1) (slots := 19) X45 N45
  refine own_s (B := T45.setTop (mkF m 104 #[.val (.int p1), .unset, .unset, .unset] [(.ref b1)])) st45 ?_
  refine own_s (B := T45.setTop (mkF m 105 #[.val (.int p1), .unset, .unset, .unset] [(.ref b1), (.ref b1)])) (fun t k => XS.dup X45.here hx rfl (hb hby at_104) rfl rfl k) ?_
  refine own_s (B := T45.setTop (mkF m 107 #[.val (.int p1), .unset, .unset, .unset] [(.int (15 : Int32)), (.ref b1), (.ref b1)])) (fun t k => XS.bipush X45.here hx rfl (hb hby at_105) k) ?_
  obtain ⟨T47, X47, e47, st47⟩ := getS2 X45 hx hZ hown (host := "") (Or.inl (hw _ (List.mem_of_getElem? (i := 34) rfl))) Via.refl e45 (EW.2.2.2.2.2.2.2.2.2.2.2.2.2.2.2.1.ext EX) (g := (mkF m 107 #[.val (.int p1), .unset, .unset, .unset] [(.int (15 : Int32)), (.ref b1), (.ref b1)])) rfl (hb hby at_107)
  refine own_s (B := T47.setTop (mkF m 110 #[.val (.int p1), .unset, .unset, .unset] [(.ref (W (15 : Int32))), (.int (15 : Int32)), (.ref b1), (.ref b1)])) st47 ?_
  obtain ⟨cl48, Ar48, q48, Sz48, Nn48, Hs48, G48⟩ := id V_b1
  have hin48 : ¬ ((15 : Int32) < 0 ∨ cl48.slots.size ≤ ((15 : Int32)).toNatClampNeg) := inb_of Sz48 ⟨by decide, by decide⟩
  obtain ⟨T48, h48, X48, e48, W48, st48⟩ := stR X47 hx hZ e47 Ar48 (j := (15 : Int32)) hin48 rfl (Sto.ofV Ar48 q48 O1 (Ins.self ((XW (15 : Int32) (by decide) (by decide)).ext EX))) (g := (mkF m 110 #[.val (.int p1), .unset, .unset, .unset] [(.ref (W (15 : Int32))), (.int (15 : Int32)), (.ref b1), (.ref b1)])) rfl rfl (hb hby at_110)
  replace V_b1 : Arv Z h48 b1 k1 (.object "com/example/tally/tally/XPathFunction") (19 : Int32) [(.ref (W (0 : Int32))), (.ref (W (1 : Int32))), (.ref (W (2 : Int32))), (.ref (W (3 : Int32))), (.ref (W (4 : Int32))), (.ref (W (5 : Int32))), (.ref (W (6 : Int32))), (.ref (W (7 : Int32))), (.ref (W (8 : Int32))), (.ref (W (9 : Int32))), (.ref (W (10 : Int32))), (.ref (W (11 : Int32))), (.ref (W (12 : Int32))), (.ref (W (13 : Int32))), (.ref (W (14 : Int32))), (.ref (W (15 : Int32))), .null, .null, .null] .null := Arv.set Ar48 q48 Sz48 Nn48 Hs48 G48 rfl W48 15 rfl (Nat.le_of_ble_eq_true rfl)
  have EX : Ext h0 h48 := own_extw EX W48 sz_b1
  have N48 := Fr.snoc X48 N45 g_b1
  obtain ⟨lq49, X48, N48⟩ := own_pack (cells := 1) (slots := 19) X48 N48
  refine own_s (B := T48.setTop (mkF m 111 #[.val (.int p1), .unset, .unset, .unset] [(.ref b1)])) st48 ?_
  refine own_s (B := T48.setTop (mkF m 112 #[.val (.int p1), .unset, .unset, .unset] [(.ref b1), (.ref b1)])) (fun t k => XS.dup X48.here hx rfl (hb hby at_111) rfl rfl k) ?_
  refine own_s (B := T48.setTop (mkF m 114 #[.val (.int p1), .unset, .unset, .unset] [(.int (16 : Int32)), (.ref b1), (.ref b1)])) (fun t k => XS.bipush X48.here hx rfl (hb hby at_112) k) ?_
  obtain ⟨T50, X50, e50, st50⟩ := getS2 X48 hx hZ hown (host := "") (Or.inl (hw _ (List.mem_of_getElem? (i := 36) rfl))) Via.refl e48 (EW.2.2.2.2.2.2.2.2.2.2.2.2.2.2.2.2.1.ext EX) (g := (mkF m 114 #[.val (.int p1), .unset, .unset, .unset] [(.int (16 : Int32)), (.ref b1), (.ref b1)])) rfl (hb hby at_114)
  refine own_s (B := T50.setTop (mkF m 117 #[.val (.int p1), .unset, .unset, .unset] [(.ref (W (16 : Int32))), (.int (16 : Int32)), (.ref b1), (.ref b1)])) st50 ?_
  obtain ⟨cl51, Ar51, q51, Sz51, Nn51, Hs51, G51⟩ := id V_b1
  have hin51 : ¬ ((16 : Int32) < 0 ∨ cl51.slots.size ≤ ((16 : Int32)).toNatClampNeg) := inb_of Sz51 ⟨by decide, by decide⟩
  obtain ⟨T51, h51, X51, e51, W51, st51⟩ := stR X50 hx hZ e50 Ar51 (j := (16 : Int32)) hin51 rfl (Sto.ofV Ar51 q51 O1 (Ins.self ((XW (16 : Int32) (by decide) (by decide)).ext EX))) (g := (mkF m 117 #[.val (.int p1), .unset, .unset, .unset] [(.ref (W (16 : Int32))), (.int (16 : Int32)), (.ref b1), (.ref b1)])) rfl rfl (hb hby at_117)
  replace V_b1 : Arv Z h51 b1 k1 (.object "com/example/tally/tally/XPathFunction") (19 : Int32) [(.ref (W (0 : Int32))), (.ref (W (1 : Int32))), (.ref (W (2 : Int32))), (.ref (W (3 : Int32))), (.ref (W (4 : Int32))), (.ref (W (5 : Int32))), (.ref (W (6 : Int32))), (.ref (W (7 : Int32))), (.ref (W (8 : Int32))), (.ref (W (9 : Int32))), (.ref (W (10 : Int32))), (.ref (W (11 : Int32))), (.ref (W (12 : Int32))), (.ref (W (13 : Int32))), (.ref (W (14 : Int32))), (.ref (W (15 : Int32))), (.ref (W (16 : Int32))), .null, .null] .null := Arv.set Ar51 q51 Sz51 Nn51 Hs51 G51 rfl W51 16 rfl (Nat.le_of_ble_eq_true rfl)
  have EX : Ext h0 h51 := own_extw EX W51 sz_b1
  have N51 := Fr.snoc X51 N48 g_b1
  obtain ⟨lq52, X51, N51⟩ := own_pack (cells := 1) (slots := 19) X51 N51
  refine own_s (B := T51.setTop (mkF m 118 #[.val (.int p1), .unset, .unset, .unset] [(.ref b1)])) st51 ?_
  refine own_s (B := T51.setTop (mkF m 119 #[.val (.int p1), .unset, .unset, .unset] [(.ref b1), (.ref b1)])) (fun t k => XS.dup X51.here hx rfl (hb hby at_118) rfl rfl k) ?_
  refine own_s (B := T51.setTop (mkF m 121 #[.val (.int p1), .unset, .unset, .unset] [(.int (17 : Int32)), (.ref b1), (.ref b1)])) (fun t k => XS.bipush X51.here hx rfl (hb hby at_119) k) ?_
  obtain ⟨T53, X53, e53, st53⟩ := getS2 X51 hx hZ hown (host := "") (Or.inl (hw _ (List.mem_of_getElem? (i := 38) rfl))) Via.refl e51 (EW.2.2.2.2.2.2.2.2.2.2.2.2.2.2.2.2.2.1.ext EX) (g := (mkF m 121 #[.val (.int p1), .unset, .unset, .unset] [(.int (17 : Int32)), (.ref b1), (.ref b1)])) rfl (hb hby at_121)
  refine own_s (B := T53.setTop (mkF m 124 #[.val (.int p1), .unset, .unset, .unset] [(.ref (W (17 : Int32))), (.int (17 : Int32)), (.ref b1), (.ref b1)])) st53 ?_
  obtain ⟨cl54, Ar54, q54, Sz54, Nn54, Hs54, G54⟩ := id V_b1
  have hin54 : ¬ ((17 : Int32) < 0 ∨ cl54.slots.size ≤ ((17 : Int32)).toNatClampNeg) := inb_of Sz54 ⟨by decide, by decide⟩
  obtain ⟨T54, h54, X54, e54, W54, st54⟩ := stR X53 hx hZ e53 Ar54 (j := (17 : Int32)) hin54 rfl (Sto.ofV Ar54 q54 O1 (Ins.self ((XW (17 : Int32) (by decide) (by decide)).ext EX))) (g := (mkF m 124 #[.val (.int p1), .unset, .unset, .unset] [(.ref (W (17 : Int32))), (.int (17 : Int32)), (.ref b1), (.ref b1)])) rfl rfl (hb hby at_124)
  replace V_b1 : Arv Z h54 b1 k1 (.object "com/example/tally/tally/XPathFunction") (19 : Int32) [(.ref (W (0 : Int32))), (.ref (W (1 : Int32))), (.ref (W (2 : Int32))), (.ref (W (3 : Int32))), (.ref (W (4 : Int32))), (.ref (W (5 : Int32))), (.ref (W (6 : Int32))), (.ref (W (7 : Int32))), (.ref (W (8 : Int32))), (.ref (W (9 : Int32))), (.ref (W (10 : Int32))), (.ref (W (11 : Int32))), (.ref (W (12 : Int32))), (.ref (W (13 : Int32))), (.ref (W (14 : Int32))), (.ref (W (15 : Int32))), (.ref (W (16 : Int32))), (.ref (W (17 : Int32))), .null] .null := Arv.set Ar54 q54 Sz54 Nn54 Hs54 G54 rfl W54 17 rfl (Nat.le_of_ble_eq_true rfl)
  have EX : Ext h0 h54 := own_extw EX W54 sz_b1
  have N54 := Fr.snoc X54 N51 g_b1
  obtain ⟨lq55, X54, N54⟩ := own_pack (cells := 1) (slots := 19) X54 N54
  refine own_s (B := T54.setTop (mkF m 125 #[.val (.int p1), .unset, .unset, .unset] [(.ref b1)])) st54 ?_
  refine own_s (B := T54.setTop (mkF m 126 #[.val (.int p1), .unset, .unset, .unset] [(.ref b1), (.ref b1)])) (fun t k => XS.dup X54.here hx rfl (hb hby at_125) rfl rfl k) ?_
  refine own_s (B := T54.setTop (mkF m 128 #[.val (.int p1), .unset, .unset, .unset] [(.int (18 : Int32)), (.ref b1), (.ref b1)])) (fun t k => XS.bipush X54.here hx rfl (hb hby at_126) k) ?_
  obtain ⟨T56, X56, e56, st56⟩ := getS2 X54 hx hZ hown (host := "") (Or.inl (hw _ (List.mem_of_getElem? (i := 40) rfl))) Via.refl e54 (EW.2.2.2.2.2.2.2.2.2.2.2.2.2.2.2.2.2.2.ext EX) (g := (mkF m 128 #[.val (.int p1), .unset, .unset, .unset] [(.int (18 : Int32)), (.ref b1), (.ref b1)])) rfl (hb hby at_128)
  refine own_s (B := T56.setTop (mkF m 131 #[.val (.int p1), .unset, .unset, .unset] [(.ref (W (18 : Int32))), (.int (18 : Int32)), (.ref b1), (.ref b1)])) st56 ?_
  obtain ⟨cl57, Ar57, q57, Sz57, Nn57, Hs57, G57⟩ := id V_b1
  have hin57 : ¬ ((18 : Int32) < 0 ∨ cl57.slots.size ≤ ((18 : Int32)).toNatClampNeg) := inb_of Sz57 ⟨by decide, by decide⟩
  obtain ⟨T57, h57, X57, e57, W57, st57⟩ := stR X56 hx hZ e56 Ar57 (j := (18 : Int32)) hin57 rfl (Sto.ofV Ar57 q57 O1 (Ins.self ((XW (18 : Int32) (by decide) (by decide)).ext EX))) (g := (mkF m 131 #[.val (.int p1), .unset, .unset, .unset] [(.ref (W (18 : Int32))), (.int (18 : Int32)), (.ref b1), (.ref b1)])) rfl rfl (hb hby at_131)
  replace V_b1 : Arv Z h57 b1 k1 (.object "com/example/tally/tally/XPathFunction") (19 : Int32) [(.ref (W (0 : Int32))), (.ref (W (1 : Int32))), (.ref (W (2 : Int32))), (.ref (W (3 : Int32))), (.ref (W (4 : Int32))), (.ref (W (5 : Int32))), (.ref (W (6 : Int32))), (.ref (W (7 : Int32))), (.ref (W (8 : Int32))), (.ref (W (9 : Int32))), (.ref (W (10 : Int32))), (.ref (W (11 : Int32))), (.ref (W (12 : Int32))), (.ref (W (13 : Int32))), (.ref (W (14 : Int32))), (.ref (W (15 : Int32))), (.ref (W (16 : Int32))), (.ref (W (17 : Int32))), (.ref (W (18 : Int32)))] .null := Arv.set Ar57 q57 Sz57 Nn57 Hs57 G57 rfl W57 18 rfl (Nat.le_of_ble_eq_true rfl)
  have EX : Ext h0 h57 := own_extw EX W57 sz_b1
  have N57 := Fr.snoc X57 N54 g_b1
  obtain ⟨lq58, X57, N57⟩ := own_pack (cells := 1) (slots := 19) X57 N57
  refine own_s (B := T57.setTop (mkF m 132 #[.val (.int p1), .unset, .unset, .unset] [(.ref b1)])) st57 ?_
  refine own_s (B := T57.setTop (mkF m 133 #[.val (.int p1), .val (.ref b1), .unset, .unset] [])) (fun t k => XS.astoreN X57.here hx rfl (hb hby at_132) rfl rfl (l' := #[.val (.int p1), .val (.ref b1), .unset, .unset]) rfl k) ?_
  refine own_s (B := T57.setTop (mkF m 135 #[.val (.int p1), .val (.ref b1), .unset, .unset] [(.int (19 : Int32))])) (fun t k => XS.bipush X57.here hx rfl (hb hby at_133) k) ?_
  obtain ⟨T59, h59, k59, X59, e59, E59, A59, st59⟩ := newP X57 hx hZ (hw _ (List.mem_of_getElem? (i := 42) rfl)) e57 (g := (mkF m 135 #[.val (.int p1), .val (.ref b1), .unset, .unset] [(.int (19 : Int32))])) rfl (hb hby at_135) rfl (by decide) (cap := 19) (by decide) (by decide) (by decide) (by decide)
  obtain ⟨b59, g59⟩ : ∃ z, z = h57.size := ⟨_, rfl⟩
  rw [← g59] at A59 st59
  have ne_b1_b59 : b1 ≠ b59 := Nat.ne_of_lt (Nat.lt_of_lt_of_le V_b1.lt (Nat.le_of_eq g59.symm))
  have sz_b59 : h0.size ≤ b59 := (Nat.le_trans EX.1 (Nat.le_of_eq g59.symm))
  have g_b59 : n0 ≤ b59 := Nat.le_trans Z0 sz_b59
  replace V_b1 := V_b1.ext E59
  have EX : Ext h0 h59 := own_extt EX E59
  have V_b59 : Arv Z h59 b59 k59 .boolean (19 : Int32) [(.int (0 : Int32)), (.int (0 : Int32)), (.int (0 : Int32)), (.int (0 : Int32)), (.int (0 : Int32)), (.int (0 : Int32)), (.int (0 : Int32)), (.int (0 : Int32)), (.int (0 : Int32)), (.int (0 : Int32)), (.int (0 : Int32)), (.int (0 : Int32)), (.int (0 : Int32)), (.int (0 : Int32)), (.int (0 : Int32)), (.int (0 : Int32)), (.int (0 : Int32)), (.int (0 : Int32)), (.int (0 : Int32))] (.int (0 : Int32)) := (Arv.new A59 (by decide)).pad (pad_rep [] (.int (0 : Int32)) 19)
  refine own_s (B := T59.setTop (mkF m 137 #[.val (.int p1), .val (.ref b1), .unset, .unset] [(.ref b59)])) st59 ?_
  refine own_s (B := T59.setTop (mkF m 138 #[.val (.int p1), .val (.ref b1), .unset, .unset] [(.ref b59), (.ref b59)])) (fun t k => XS.dup X59.here hx rfl (hb hby at_137) rfl rfl k) ?_
  refine own_s (B := T59.setTop (mkF m 139 #[.val (.int p1), .val (.ref b1), .unset, .unset] [(.int (0 : Int32)), (.ref b59), (.ref b59)])) (fun t k => XS.iconst X59.here hx rfl (hb hby at_138) k) ?_
  refine own_s (B := T59.setTop (mkF m 140 #[.val (.int p1), .val (.ref b1), .unset, .unset] [(.int (1 : Int32)), (.int (0 : Int32)), (.ref b59), (.ref b59)])) (fun t k => XS.iconst X59.here hx rfl (hb hby at_139) k) ?_
  obtain ⟨cl60, Ar60, q60, Sz60, Nn60, Hs60, G60⟩ := id V_b59
  have hin60 : ¬ ((0 : Int32) < 0 ∨ cl60.slots.size ≤ ((0 : Int32)).toNatClampNeg) := inb_of Sz60 ⟨by decide, by decide⟩
  obtain ⟨T60, h60, X60, e60, W60, st60⟩ := stZ X59 hx hZ e59 Ar60 (j := (0 : Int32)) hin60 (g := (mkF m 140 #[.val (.int p1), .val (.ref b1), .unset, .unset] [(.int (1 : Int32)), (.int (0 : Int32)), (.ref b59), (.ref b59)])) rfl rfl (hb hby at_140)
  replace V_b59 : Arv Z h60 b59 k59 .boolean (19 : Int32) [(.int (1 : Int32)), (.int (0 : Int32)), (.int (0 : Int32)), (.int (0 : Int32)), (.int (0 : Int32)), (.int (0 : Int32)), (.int (0 : Int32)), (.int (0 : Int32)), (.int (0 : Int32)), (.int (0 : Int32)), (.int (0 : Int32)), (.int (0 : Int32)), (.int (0 : Int32)), (.int (0 : Int32)), (.int (0 : Int32)), (.int (0 : Int32)), (.int (0 : Int32)), (.int (0 : Int32)), (.int (0 : Int32))] (.int (0 : Int32)) := Arv.set Ar60 q60 Sz60 Nn60 Hs60 G60 rfl W60 0 rfl (Nat.le_of_ble_eq_true rfl)
  replace V_b1 := V_b1.other W60 ne_b1_b59
  have EX : Ext h0 h60 := own_extw EX W60 sz_b59
  have N60 := Fr.snoc X60 N57 g_b59
  obtain ⟨lq61, X60, N60⟩ := own_pack (cells := 2) (slots := 38) X60 N60
  refine own_s (B := T60.setTop (mkF m 141 #[.val (.int p1), .val (.ref b1), .unset, .unset] [(.ref b59)])) st60 ?_
  refine own_s (B := T60.setTop (mkF m 142 #[.val (.int p1), .val (.ref b1), .unset, .unset] [(.ref b59), (.ref b59)])) (fun t k => XS.dup X60.here hx rfl (hb hby at_141) rfl rfl k) ?_
  refine own_s (B := T60.setTop (mkF m 143 #[.val (.int p1), .val (.ref b1), .unset, .unset] [(.int (1 : Int32)), (.ref b59), (.ref b59)])) (fun t k => XS.iconst X60.here hx rfl (hb hby at_142) k) ?_
  refine own_s (B := T60.setTop (mkF m 144 #[.val (.int p1), .val (.ref b1), .unset, .unset] [(.int (1 : Int32)), (.int (1 : Int32)), (.ref b59), (.ref b59)])) (fun t k => XS.iconst X60.here hx rfl (hb hby at_143) k) ?_
  obtain ⟨cl62, Ar62, q62, Sz62, Nn62, Hs62, G62⟩ := id V_b59
  have hin62 : ¬ ((1 : Int32) < 0 ∨ cl62.slots.size ≤ ((1 : Int32)).toNatClampNeg) := inb_of Sz62 ⟨by decide, by decide⟩
  obtain ⟨T62, h62, X62, e62, W62, st62⟩ := stZ X60 hx hZ e60 Ar62 (j := (1 : Int32)) hin62 (g := (mkF m 144 #[.val (.int p1), .val (.ref b1), .unset, .unset] [(.int (1 : Int32)), (.int (1 : Int32)), (.ref b59), (.ref b59)])) rfl rfl (hb hby at_144)
  replace V_b59 : Arv Z h62 b59 k59 .boolean (19 : Int32) [(.int (1 : Int32)), (.int (1 : Int32)), (.int (0 : Int32)), (.int (0 : Int32)), (.int (0 : Int32)), (.int (0 : Int32)), (.int (0 : Int32)), (.int (0 : Int32)), (.int (0 : Int32)), (.int (0 : Int32)), (.int (0 : Int32)), (.int (0 : Int32)), (.int (0 : Int32)), (.int (0 : Int32)), (.int (0 : Int32)), (.int (0 : Int32)), (.int (0 : Int32)), (.int (0 : Int32)), (.int (0 : Int32))] (.int (0 : Int32)) := Arv.set Ar62 q62 Sz62 Nn62 Hs62 G62 rfl W62 1 rfl (Nat.le_of_ble_eq_true rfl)
  replace V_b1 := V_b1.other W62 ne_b1_b59
  have EX : Ext h0 h62 := own_extw EX W62 sz_b59
  have N62 := Fr.snoc X62 N60 g_b59
  obtain ⟨lq63, X62, N62⟩ := own_pack (cells := 2) (slots := 38) X62 N62
  refine own_s (B := T62.setTop (mkF m 145 #[.val (.int p1), .val (.ref b1), .unset, .unset] [(.ref b59)])) st62 ?_
  refine own_s (B := T62.setTop (mkF m 146 #[.val (.int p1), .val (.ref b1), .unset, .unset] [(.ref b59), (.ref b59)])) (fun t k => XS.dup X62.here hx rfl (hb hby at_145) rfl rfl k) ?_
  refine own_s (B := T62.setTop (mkF m 147 #[.val (.int p1), .val (.ref b1), .unset, .unset] [(.int (2 : Int32)), (.ref b59), (.ref b59)])) (fun t k => XS.iconst X62.here hx rfl (hb hby at_146) k) ?_
  refine own_s (B := T62.setTop (mkF m 148 #[.val (.int p1), .val (.ref b1), .unset, .unset] [(.int (1 : Int32)), (.int (2 : Int32)), (.ref b59), (.ref b59)])) (fun t k => XS.iconst X62.here hx rfl (hb hby at_147) k) ?_
  obtain ⟨cl64, Ar64, q64, Sz64, Nn64, Hs64, G64⟩ := id V_b59
  have hin64 : ¬ ((2 : Int32) < 0 ∨ cl64.slots.size ≤ ((2 : Int32)).toNatClampNeg) := inb_of Sz64 ⟨by decide, by decide⟩
  obtain ⟨T64, h64, X64, e64, W64, st64⟩ := stZ X62 hx hZ e62 Ar64 (j := (2 : Int32)) hin64 (g := (mkF m 148 #[.val (.int p1), .val (.ref b1), .unset, .unset] [(.int (1 : Int32)), (.int (2 : Int32)), (.ref b59), (.ref b59)])) rfl rfl (hb hby at_148)
  replace V_b59 : Arv Z h64 b59 k59 .boolean (19 : Int32) [(.int (1 : Int32)), (.int (1 : Int32)), (.int (1 : Int32)), (.int (0 : Int32)), (.int (0 : Int32)), (.int (0 : Int32)), (.int (0 : Int32)), (.int (0 : Int32)), (.int (0 : Int32)), (.int (0 : Int32)), (.int (0 : Int32)), (.int (0 : Int32)), (.int (0 : Int32)), (.int (0 : Int32)), (.int (0 : Int32)), (.int (0 : Int32)), (.int (0 : Int32)), (.int (0 : Int32)), (.int (0 : Int32))] (.int (0 : Int32)) := Arv.set Ar64 q64 Sz64 Nn64 Hs64 G64 rfl W64 2 rfl (Nat.le_of_ble_eq_true rfl)
  replace V_b1 := V_b1.other W64 ne_b1_b59
  have EX : Ext h0 h64 := own_extw EX W64 sz_b59
  have N64 := Fr.snoc X64 N62 g_b59
  obtain ⟨lq65, X64, N64⟩ := own_pack (cells := 2) (slots := 38) X64 N64
  refine own_s (B := T64.setTop (mkF m 149 #[.val (.int p1), .val (.ref b1), .unset, .unset] [(.ref b59)])) st64 ?_
  refine own_s (B := T64.setTop (mkF m 150 #[.val (.int p1), .val (.ref b1), .unset, .unset] [(.ref b59), (.ref b59)])) (fun t k => XS.dup X64.here hx rfl (hb hby at_149) rfl rfl k) ?_
  refine own_s (B := T64.setTop (mkF m 151 #[.val (.int p1), .val (.ref b1), .unset, .unset] [(.int (3 : Int32)), (.ref b59), (.ref b59)])) (fun t k => XS.iconst X64.here hx rfl (hb hby at_150) k) ?_
  refine own_s (B := T64.setTop (mkF m 152 #[.val (.int p1), .val (.ref b1), .unset, .unset] [(.int (0 : Int32)), (.int (3 : Int32)), (.ref b59), (.ref b59)])) (fun t k => XS.iconst X64.here hx rfl (hb hby at_151) k) ?_
  obtain ⟨cl66, Ar66, q66, Sz66, Nn66, Hs66, G66⟩ := id V_b59
  have hin66 : ¬ ((3 : Int32) < 0 ∨ cl66.slots.size ≤ ((3 : Int32)).toNatClampNeg) := inb_of Sz66 ⟨by decide, by decide⟩
  obtain ⟨T66, h66, X66, e66, W66, st66⟩ := stZ X64 hx hZ e64 Ar66 (j := (3 : Int32)) hin66 (g := (mkF m 152 #[.val (.int p1), .val (.ref b1), .unset, .unset] [(.int (0 : Int32)), (.int (3 : Int32)), (.ref b59), (.ref b59)])) rfl rfl (hb hby at_152)
  replace V_b59 : Arv Z h66 b59 k59 .boolean (19 : Int32) [(.int (1 : Int32)), (.int (1 : Int32)), (.int (1 : Int32)), (.int (0 : Int32)), (.int (0 : Int32)), (.int (0 : Int32)), (.int (0 : Int32)), (.int (0 : Int32)), (.int (0 : Int32)), (.int (0 : Int32)), (.int (0 : Int32)), (.int (0 : Int32)), (.int (0 : Int32)), (.int (0 : Int32)), (.int (0 : Int32)), (.int (0 : Int32)), (.int (0 : Int32)), (.int (0 : Int32)), (.int (0 : Int32))] (.int (0 : Int32)) := Arv.set Ar66 q66 Sz66 Nn66 Hs66 G66 rfl W66 3 rfl (Nat.le_of_ble_eq_true rfl)
  replace V_b1 := V_b1.other W66 ne_b1_b59
  have EX : Ext h0 h66 := own_extw EX W66 sz_b59
  have N66 := Fr.snoc X66 N64 g_b59
  obtain ⟨lq67, X66, N66⟩ := own_pack (cells := 2) (slots := 38) X66 N66
  refine own_s (B := T66.setTop (mkF m 153 #[.val (.int p1), .val (.ref b1), .unset, .unset] [(.ref b59)])) st66 ?_
  refine own_s (B := T66.setTop (mkF m 154 #[.val (.int p1), .val (.ref b1), .unset, .unset] [(.ref b59), (.ref b59)])) (fun t k => XS.dup X66.here hx rfl (hb hby at_153) rfl rfl k) ?_
  refine own_s (B := T66.setTop (mkF m 155 #[.val (.int p1), .val (.ref b1), .unset, .unset] [(.int (4 : Int32)), (.ref b59), (.ref b59)])) (fun t k => XS.iconst X66.here hx rfl (hb hby at_154) k) ?_
  refine own_s (B := T66.setTop (mkF m 156 #[.val (.int p1), .val (.ref b1), .unset, .unset] [(.int (0 : Int32)), (.int (4 : Int32)), (.ref b59), (.ref b59)])) (fun t k => XS.iconst X66.here hx rfl (hb hby at_155) k) ?_
  obtain ⟨cl68, Ar68, q68, Sz68, Nn68, Hs68, G68⟩ := id V_b59
  have hin68 : ¬ ((4 : Int32) < 0 ∨ cl68.slots.size ≤ ((4 : Int32)).toNatClampNeg) := inb_of Sz68 ⟨by decide, by decide⟩
  obtain ⟨T68, h68, X68, e68, W68, st68⟩ := stZ X66 hx hZ e66 Ar68 (j := (4 : Int32)) hin68 (g := (mkF m 156 #[.val (.int p1), .val (.ref b1), .unset, .unset] [(.int (0 : Int32)), (.int (4 : Int32)), (.ref b59), (.ref b59)])) rfl rfl (hb hby at_156)
  replace V_b59 : Arv Z h68 b59 k59 .boolean (19 : Int32) [(.int (1 : Int32)), (.int (1 : Int32)), (.int (1 : Int32)), (.int (0 : Int32)), (.int (0 : Int32)), (.int (0 : Int32)), (.int (0 : Int32)), (.int (0 : Int32)), (.int (0 : Int32)), (.int (0 : Int32)), (.int (0 : Int32)), (.int (0 : Int32)), (.int (0 : Int32)), (.int (0 : Int32)), (.int (0 : Int32)), (.int (0 : Int32)), (.int (0 : Int32)), (.int (0 : Int32)), (.int (0 : Int32))] (.int (0 : Int32)) := Arv.set Ar68 q68 Sz68 Nn68 Hs68 G68 rfl W68 4 rfl (Nat.le_of_ble_eq_true rfl)
  replace V_b1 := V_b1.other W68 ne_b1_b59
  have EX : Ext h0 h68 := own_extw EX W68 sz_b59
  have N68 := Fr.snoc X68 N66 g_b59
  obtain ⟨lq69, X68, N68⟩ := own_pack (cells := 2) (slots := 38) X68 N68
  refine own_s (B := T68.setTop (mkF m 157 #[.val (.int p1), .val (.ref b1), .unset, .unset] [(.ref b59)])) st68 ?_
  refine own_s (B := T68.setTop (mkF m 158 #[.val (.int p1), .val (.ref b1), .unset, .unset] [(.ref b59), (.ref b59)])) (fun t k => XS.dup X68.here hx rfl (hb hby at_157) rfl rfl k) ?_
  refine own_s (B := T68.setTop (mkF m 159 #[.val (.int p1), .val (.ref b1), .unset, .unset] [(.int (5 : Int32)), (.ref b59), (.ref b59)])) (fun t k => XS.iconst X68.here hx rfl (hb hby at_158) k) ?_
  refine own_s (B := T68.setTop (mkF m 160 #[.val (.int p1), .val (.ref b1), .unset, .unset] [(.int (0 : Int32)), (.int (5 : Int32)), (.ref b59), (.ref b59)])) (fun t k => XS.iconst X68.here hx rfl (hb hby at_159) k) ?_
  obtain ⟨cl70, Ar70, q70, Sz70, Nn70, Hs70, G70⟩ := id V_b59
  have hin70 : ¬ ((5 : Int32) < 0 ∨ cl70.slots.size ≤ ((5 : Int32)).toNatClampNeg) := inb_of Sz70 ⟨by decide, by decide⟩
  obtain ⟨T70, h70, X70, e70, W70, st70⟩ := stZ X68 hx hZ e68 Ar70 (j := (5 : Int32)) hin70 (g := (mkF m 160 #[.val (.int p1), .val (.ref b1), .unset, .unset] [(.int (0 : Int32)), (.int (5 : Int32)), (.ref b59), (.ref b59)])) rfl rfl (hb hby at_160)
  replace V_b59 : Arv Z h70 b59 k59 .boolean (19 : Int32) [(.int (1 : Int32)), (.int (1 : Int32)), (.int (1 : Int32)), (.int (0 : Int32)), (.int (0 : Int32)), (.int (0 : Int32)), (.int (0 : Int32)), (.int (0 : Int32)), (.int (0 : Int32)), (.int (0 : Int32)), (.int (0 : Int32)), (.int (0 : Int32)), (.int (0 : Int32)), (.int (0 : Int32)), (.int (0 : Int32)), (.int (0 : Int32)), (.int (0 : Int32)), (.int (0 : Int32)), (.int (0 : Int32))] (.int (0 : Int32)) := Arv.set Ar70 q70 Sz70 Nn70 Hs70 G70 rfl W70 5 rfl (Nat.le_of_ble_eq_true rfl)
  replace V_b1 := V_b1.other W70 ne_b1_b59
  have EX : Ext h0 h70 := own_extw EX W70 sz_b59
  have N70 := Fr.snoc X70 N68 g_b59
  obtain ⟨lq71, X70, N70⟩ := own_pack (cells := 2) (slots := 38) X70 N70
  refine own_s (B := T70.setTop (mkF m 161 #[.val (.int p1), .val (.ref b1), .unset, .unset] [(.ref b59)])) st70 ?_
  refine own_s (B := T70.setTop (mkF m 162 #[.val (.int p1), .val (.ref b1), .unset, .unset] [(.ref b59), (.ref b59)])) (fun t k => XS.dup X70.here hx rfl (hb hby at_161) rfl rfl k) ?_
  refine own_s (B := T70.setTop (mkF m 164 #[.val (.int p1), .val (.ref b1), .unset, .unset] [(.int (6 : Int32)), (.ref b59), (.ref b59)])) (fun t k => XS.bipush X70.here hx rfl (hb hby at_162) k) ?_
  refine own_s (B := T70.setTop (mkF m 165 #[.val (.int p1), .val (.ref b1), .unset, .unset] [(.int (0 : Int32)), (.int (6 : Int32)), (.ref b59), (.ref b59)])) (fun t k => XS.iconst X70.here hx rfl (hb hby at_164) k) ?_
  obtain ⟨cl72, Ar72, q72, Sz72, Nn72, Hs72, G72⟩ := id V_b59
  have hin72 : ¬ ((6 : Int32) < 0 ∨ cl72.slots.size ≤ ((6 : Int32)).toNatClampNeg) := inb_of Sz72 ⟨by decide, by decide⟩
  obtain ⟨T72, h72, X72, e72, W72, st72⟩ := stZ X70 hx hZ e70 Ar72 (j := (6 : Int32)) hin72 (g := (mkF m 165 #[.val (.int p1), .val (.ref b1), .unset, .unset] [(.int (0 : Int32)), (.int (6 : Int32)), (.ref b59), (.ref b59)])) rfl rfl (hb hby at_165)
  replace V_b59 : Arv Z h72 b59 k59 .boolean (19 : Int32) [(.int (1 : Int32)), (.int (1 : Int32)), (.int (1 : Int32)), (.int (0 : Int32)), (.int (0 : Int32)), (.int (0 : Int32)), (.int (0 : Int32)), (.int (0 : Int32)), (.int (0 : Int32)), (.int (0 : Int32)), (.int (0 : Int32)), (.int (0 : Int32)), (.int (0 : Int32)), (.int (0 : Int32)), (.int (0 : Int32)), (.int (0 : Int32)), (.int (0 : Int32)), (.int (0 : Int32)), (.int (0 : Int32))] (.int (0 : Int32)) := Arv.set Ar72 q72 Sz72 Nn72 Hs72 G72 rfl W72 6 rfl (Nat.le_of_ble_eq_true rfl)
  replace V_b1 := V_b1.other W72 ne_b1_b59
  have EX : Ext h0 h72 := own_extw EX W72 sz_b59
  have N72 := Fr.snoc X72 N70 g_b59
  obtain ⟨lq73, X72, N72⟩ := own_pack (cells := 2) (slots := 38) X72 N72
  refine own_s (B := T72.setTop (mkF m 166 #[.val (.int p1), .val (.ref b1), .unset, .unset] [(.ref b59)])) st72 ?_
  refine own_s (B := T72.setTop (mkF m 167 #[.val (.int p1), .val (.ref b1), .unset, .unset] [(.ref b59), (.ref b59)])) (fun t k => XS.dup X72.here hx rfl (hb hby at_166) rfl rfl k) ?_
  refine own_s (B := T72.setTop (mkF m 169 #[.val (.int p1), .val (.ref b1), .unset, .unset] [(.int (7 : Int32)), (.ref b59), (.ref b59)])) (fun t k => XS.bipush X72.here hx rfl (hb hby at_167) k) ?_
  refine own_s (B := T72.setTop (mkF m 170 #[.val (.int p1), .val (.ref b1), .unset, .unset] [(.int (0 : Int32)), (.int (7 : Int32)), (.ref b59), (.ref b59)])) (fun t k => XS.iconst X72.here hx rfl (hb hby at_169) k) ?_
  obtain ⟨cl74, Ar74, q74, Sz74, Nn74, Hs74, G74⟩ := id V_b59
  have hin74 : ¬ ((7 : Int32) < 0 ∨ cl74.slots.size ≤ ((7 : Int32)).toNatClampNeg) := inb_of Sz74 ⟨by decide, by decide⟩
  obtain ⟨T74, h74, X74, e74, W74, st74⟩ := stZ X72 hx hZ e72 Ar74 (j := (7 : Int32)) hin74 (g := (mkF m 170 #[.val (.int p1), .val (.ref b1), .unset, .unset] [(.int (0 : Int32)), (.int (7 : Int32)), (.ref b59), (.ref b59)])) rfl rfl (hb hby at_170)
  replace V_b59 : Arv Z h74 b59 k59 .boolean (19 : Int32) [(.int (1 : Int32)), (.int (1 : Int32)), (.int (1 : Int32)), (.int (0 : Int32)), (.int (0 : Int32)), (.int (0 : Int32)), (.int (0 : Int32)), (.int (0 : Int32)), (.int (0 : Int32)), (.int (0 : Int32)), (.int (0 : Int32)), (.int (0 : Int32)), (.int (0 : Int32)), (.int (0 : Int32)), (.int (0 : Int32)), (.int (0 : Int32)), (.int (0 : Int32)), (.int (0 : Int32)), (.int (0 : Int32))] (.int (0 : Int32)) := Arv.set Ar74 q74 Sz74 Nn74 Hs74 G74 rfl W74 7 rfl (Nat.le_of_ble_eq_true rfl)
  replace V_b1 := V_b1.other W74 ne_b1_b59
  have EX : Ext h0 h74 := own_extw EX W74 sz_b59
  have N74 := Fr.snoc X74 N72 g_b59
  obtain ⟨lq75, X74, N74⟩ := own_pack (cells := 2) (slots := 38) X74 N74
  refine own_s (B := T74.setTop (mkF m 171 #[.val (.int p1), .val (.ref b1), .unset, .unset] [(.ref b59)])) st74 ?_
  refine own_s (B := T74.setTop (mkF m 172 #[.val (.int p1), .val (.ref b1), .unset, .unset] [(.ref b59), (.ref b59)])) (fun t k => XS.dup X74.here hx rfl (hb hby at_171) rfl rfl k) ?_
  refine own_s (B := T74.setTop (mkF m 174 #[.val (.int p1), .val (.ref b1), .unset, .unset] [(.int (8 : Int32)), (.ref b59), (.ref b59)])) (fun t k => XS.bipush X74.here hx rfl (hb hby at_172) k) ?_
  refine own_s (B := T74.setTop (mkF m 175 #[.val (.int p1), .val (.ref b1), .unset, .unset] [(.int (0 : Int32)), (.int (8 : Int32)), (.ref b59), (.ref b59)])) (fun t k => XS.iconst X74.here hx rfl (hb hby at_174) k) ?_
  obtain ⟨cl76, Ar76, q76, Sz76, Nn76, Hs76, G76⟩ := id V_b59
  have hin76 : ¬ ((8 : Int32) < 0 ∨ cl76.slots.size ≤ ((8 : Int32)).toNatClampNeg) := inb_of Sz76 ⟨by decide, by decide⟩
  obtain ⟨T76, h76, X76, e76, W76, st76⟩ := stZ X74 hx hZ e74 Ar76 (j := (8 : Int32)) hin76 (g := (mkF m 175 #[.val (.int p1), .val (.ref b1), .unset, .unset] [(.int (0 : Int32)), (.int (8 : Int32)), (.ref b59), (.ref b59)])) rfl rfl (hb hby at_175)
  replace V_b59 : Arv Z h76 b59 k59 .boolean (19 : Int32) [(.int (1 : Int32)), (.int (1 : Int32)), (.int (1 : Int32)), (.int (0 : Int32)), (.int (0 : Int32)), (.int (0 : Int32)), (.int (0 : Int32)), (.int (0 : Int32)), (.int (0 : Int32)), (.int (0 : Int32)), (.int (0 : Int32)), (.int (0 : Int32)), (.int (0 : Int32)), (.int (0 : Int32)), (.int (0 : Int32)), (.int (0 : Int32)), (.int (0 : Int32)), (.int (0 : Int32)), (.int (0 : Int32))] (.int (0 : Int32)) := Arv.set Ar76 q76 Sz76 Nn76 Hs76 G76 rfl W76 8 rfl (Nat.le_of_ble_eq_true rfl)
  replace V_b1 := V_b1.other W76 ne_b1_b59
  have EX : Ext h0 h76 := own_extw EX W76 sz_b59
  have N76 := Fr.snoc X76 N74 g_b59
  obtain ⟨lq77, X76, N76⟩ := own_pack (cells := 2) (slots := 38) X76 N76
  refine own_s (B := T76.setTop (mkF m 176 #[.val (.int p1), .val (.ref b1), .unset, .unset] [(.ref b59)])) st76 ?_
  refine own_s (B := T76.setTop (mkF m 177 #[.val (.int p1), .val (.ref b1), .unset, .unset] [(.ref b59), (.ref b59)])) (fun t k => XS.dup X76.here hx rfl (hb hby at_176) rfl rfl k) ?_
  refine own_s (B := T76.setTop (mkF m 179 #[.val (.int p1), .val (.ref b1), .unset, .unset] [(.int (9 : Int32)), (.ref b59), (.ref b59)])) (fun t k => XS.bipush X76.here hx rfl (hb hby at_177) k) ?_
  refine own_s (B := T76.setTop (mkF m 180 #[.val (.int p1), .val (.ref b1), .unset, .unset] [(.int (0 : Int32)), (.int (9 : Int32)), (.ref b59), (.ref b59)])) (fun t k => XS.iconst X76.here hx rfl (hb hby at_179) k) ?_
  obtain ⟨cl78, Ar78, q78, Sz78, Nn78, Hs78, G78⟩ := id V_b59
  have hin78 : ¬ ((9 : Int32) < 0 ∨ cl78.slots.size ≤ ((9 : Int32)).toNatClampNeg) := inb_of Sz78 ⟨by decide, by decide⟩
  obtain ⟨T78, h78, X78, e78, W78, st78⟩ := stZ X76 hx hZ e76 Ar78 (j := (9 : Int32)) hin78 (g := (mkF m 180 #[.val (.int p1), .val (.ref b1), .unset, .unset] [(.int (0 : Int32)), (.int (9 : Int32)), (.ref b59), (.ref b59)])) rfl rfl (hb hby at_180)
  replace V_b59 : Arv Z h78 b59 k59 .boolean (19 : Int32) [(.int (1 : Int32)), (.int (1 : Int32)), (.int (1 : Int32)), (.int (0 : Int32)), (.int (0 : Int32)), (.int (0 : Int32)), (.int (0 : Int32)), (.int (0 : Int32)), (.int (0 : Int32)), (.int (0 : Int32)), (.int (0 : Int32)), (.int (0 : Int32)), (.int (0 : Int32)), (.int (0 : Int32)), (.int (0 : Int32)), (.int (0 : Int32)), (.int (0 : Int32)), (.int (0 : Int32)), (.int (0 : Int32))] (.int (0 : Int32)) := Arv.set Ar78 q78 Sz78 Nn78 Hs78 G78 rfl W78 9 rfl (Nat.le_of_ble_eq_true rfl)
  replace V_b1 := V_b1.other W78 ne_b1_b59
  have EX : Ext h0 h78 := own_extw EX W78 sz_b59
  have N78 := Fr.snoc X78 N76 g_b59
  obtain ⟨lq79, X78, N78⟩ := own_pack (cells := 2) (slots := 38) X78 N78
  refine own_s (B := T78.setTop (mkF m 181 #[.val (.int p1), .val (.ref b1), .unset, .unset] [(.ref b59)])) st78 ?_
  refine own_s (B := T78.setTop (mkF m 182 #[.val (.int p1), .val (.ref b1), .unset, .unset] [(.ref b59), (.ref b59)])) (fun t k => XS.dup X78.here hx rfl (hb hby at_181) rfl rfl k) ?_
  refine own_s (B := T78.setTop (mkF m 184 #[.val (.int p1), .val (.ref b1), .unset, .unset] [(.int (10 : Int32)), (.ref b59), (.ref b59)])) (fun t k => XS.bipush X78.here hx rfl (hb hby at_182) k) ?_
  refine own_s (B := T78.setTop (mkF m 185 #[.val (.int p1), .val (.ref b1), .unset, .unset] [(.int (1 : Int32)), (.int (10 : Int32)), (.ref b59), (.ref b59)])) (fun t k => XS.iconst X78.here hx rfl (hb hby at_184) k) ?_
  obtain ⟨cl80, Ar80, q80, Sz80, Nn80, Hs80, G80⟩ := id V_b59
  have hin80 : ¬ ((10 : Int32) < 0 ∨ cl80.slots.size ≤ ((10 : Int32)).toNatClampNeg) := inb_of Sz80 ⟨by decide, by decide⟩
  obtain ⟨T80, h80, X80, e80, W80, st80⟩ := stZ X78 hx hZ e78 Ar80 (j := (10 : Int32)) hin80 (g := (mkF m 185 #[.val (.int p1), .val (.ref b1), .unset, .unset] [(.int (1 : Int32)), (.int (10 : Int32)), (.ref b59), (.ref b59)])) rfl rfl (hb hby at_185)
  replace V_b59 : Arv Z h80 b59 k59 .boolean (19 : Int32) [(.int (1 : Int32)), (.int (1 : Int32)), (.int (1 : Int32)), (.int (0 : Int32)), (.int (0 : Int32)), (.int (0 : Int32)), (.int (0 : Int32)), (.int (0 : Int32)), (.int (0 : Int32)), (.int (0 : Int32)), (.int (1 : Int32)), (.int (0 : Int32)), (.int (0 : Int32)), (.int (0 : Int32)), (.int (0 : Int32)), (.int (0 : Int32)), (.int (0 : Int32)), (.int (0 : Int32)), (.int (0 : Int32))] (.int (0 : Int32)) := Arv.set Ar80 q80 Sz80 Nn80 Hs80 G80 rfl W80 10 rfl (Nat.le_of_ble_eq_true rfl)
  replace V_b1 := V_b1.other W80 ne_b1_b59
  have EX : Ext h0 h80 := own_extw EX W80 sz_b59
  have N80 := Fr.snoc X80 N78 g_b59
  obtain ⟨lq81, X80, N80⟩ := own_pack (cells := 2) (slots := 38) X80 N80
  refine own_s (B := T80.setTop (mkF m 186 #[.val (.int p1), .val (.ref b1), .unset, .unset] [(.ref b59)])) st80 ?_
  refine own_s (B := T80.setTop (mkF m 187 #[.val (.int p1), .val (.ref b1), .unset, .unset] [(.ref b59), (.ref b59)])) (fun t k => XS.dup X80.here hx rfl (hb hby at_186) rfl rfl k) ?_
  refine own_s (B := T80.setTop (mkF m 189 #[.val (.int p1), .val (.ref b1), .unset, .unset] [(.int (11 : Int32)), (.ref b59), (.ref b59)])) (fun t k => XS.bipush X80.here hx rfl (hb hby at_187) k) ?_
  refine own_s (B := T80.setTop (mkF m 190 #[.val (.int p1), .val (.ref b1), .unset, .unset] [(.int (0 : Int32)), (.int (11 : Int32)), (.ref b59), (.ref b59)])) (fun t k => XS.iconst X80.here hx rfl (hb hby at_189) k) ?_
  obtain ⟨cl82, Ar82, q82, Sz82, Nn82, Hs82, G82⟩ := id V_b59
  have hin82 : ¬ ((11 : Int32) < 0 ∨ cl82.slots.size ≤ ((11 : Int32)).toNatClampNeg) := inb_of Sz82 ⟨by decide, by decide⟩
  obtain ⟨T82, h82, X82, e82, W82, st82⟩ := stZ X80 hx hZ e80 Ar82 (j := (11 : Int32)) hin82 (g := (mkF m 190 #[.val (.int p1), .val (.ref b1), .unset, .unset] [(.int (0 : Int32)), (.int (11 : Int32)), (.ref b59), (.ref b59)])) rfl rfl (hb hby at_190)
  replace V_b59 : Arv Z h82 b59 k59 .boolean (19 : Int32) [(.int (1 : Int32)), (.int (1 : Int32)), (.int (1 : Int32)), (.int (0 : Int32)), (.int (0 : Int32)), (.int (0 : Int32)), (.int (0 : Int32)), (.int (0 : Int32)), (.int (0 : Int32)), (.int (0 : Int32)), (.int (1 : Int32)), (.int (0 : Int32)), (.int (0 : Int32)), (.int (0 : Int32)), (.int (0 : Int32)), (.int (0 : Int32)), (.int (0 : Int32)), (.int (0 : Int32)), (.int (0 : Int32))] (.int (0 : Int32)) := Arv.set Ar82 q82 Sz82 Nn82 Hs82 G82 rfl W82 11 rfl (Nat.le_of_ble_eq_true rfl)
  replace V_b1 := V_b1.other W82 ne_b1_b59
  have EX : Ext h0 h82 := own_extw EX W82 sz_b59
  have N82 := Fr.snoc X82 N80 g_b59
  obtain ⟨lq83, X82, N82⟩ := own_pack (cells := 2) (slots := 38) X82 N82
  refine own_s (B := T82.setTop (mkF m 191 #[.val (.int p1), .val (.ref b1), .unset, .unset] [(.ref b59)])) st82 ?_
  refine own_s (B := T82.setTop (mkF m 192 #[.val (.int p1), .val (.ref b1), .unset, .unset] [(.ref b59), (.ref b59)])) (fun t k => XS.dup X82.here hx rfl (hb hby at_191) rfl rfl k) ?_
  refine own_s (B := T82.setTop (mkF m 194 #[.val (.int p1), .val (.ref b1), .unset, .unset] [(.int (12 : Int32)), (.ref b59), (.ref b59)])) (fun t k => XS.bipush X82.here hx rfl (hb hby at_192) k) ?_
  refine own_s (B := T82.setTop (mkF m 195 #[.val (.int p1), .val (.ref b1), .unset, .unset] [(.int (0 : Int32)), (.int (12 : Int32)), (.ref b59), (.ref b59)])) (fun t k => XS.iconst X82.here hx rfl (hb hby at_194) k) ?_
  obtain ⟨cl84, Ar84, q84, Sz84, Nn84, Hs84, G84⟩ := id V_b59
  have hin84 : ¬ ((12 : Int32) < 0 ∨ cl84.slots.size ≤ ((12 : Int32)).toNatClampNeg) := inb_of Sz84 ⟨by decide, by decide⟩
  obtain ⟨T84, h84, X84, e84, W84, st84⟩ := stZ X82 hx hZ e82 Ar84 (j := (12 : Int32)) hin84 (g := (mkF m 195 #[.val (.int p1), .val (.ref b1), .unset, .unset] [(.int (0 : Int32)), (.int (12 : Int32)), (.ref b59), (.ref b59)])) rfl rfl (hb hby at_195)
  replace V_b59 : Arv Z h84 b59 k59 .boolean (19 : Int32) [(.int (1 : Int32)), (.int (1 : Int32)), (.int (1 : Int32)), (.int (0 : Int32)), (.int (0 : Int32)), (.int (0 : Int32)), (.int (0 : Int32)), (.int (0 : Int32)), (.int (0 : Int32)), (.int (0 : Int32)), (.int (1 : Int32)), (.int (0 : Int32)), (.int (0 : Int32)), (.int (0 : Int32)), (.int (0 : Int32)), (.int (0 : Int32)), (.int (0 : Int32)), (.int (0 : Int32)), (.int (0 : Int32))] (.int (0 : Int32)) := Arv.set Ar84 q84 Sz84 Nn84 Hs84 G84 rfl W84 12 rfl (Nat.le_of_ble_eq_true rfl)
  replace V_b1 := V_b1.other W84 ne_b1_b59
  have EX : Ext h0 h84 := own_extw EX W84 sz_b59
  have N84 := Fr.snoc X84 N82 g_b59
  obtain ⟨lq85, X84, N84⟩ := own_pack (cells := 2) (slots := 38) X84 N84
  refine own_s (B := T84.setTop (mkF m 196 #[.val (.int p1), .val (.ref b1), .unset, .unset] [(.ref b59)])) st84 ?_
  refine own_s (B := T84.setTop (mkF m 197 #[.val (.int p1), .val (.ref b1), .unset, .unset] [(.ref b59), (.ref b59)])) (fun t k => XS.dup X84.here hx rfl (hb hby at_196) rfl rfl k) ?_
  refine own_s (B := T84.setTop (mkF m 199 #[.val (.int p1), .val (.ref b1), .unset, .unset] [(.int (13 : Int32)), (.ref b59), (.ref b59)])) (fun t k => XS.bipush X84.here hx rfl (hb hby at_197) k) ?_
  refine own_s (B := T84.setTop (mkF m 200 #[.val (.int p1), .val (.ref b1), .unset, .unset] [(.int (0 : Int32)), (.int (13 : Int32)), (.ref b59), (.ref b59)])) (fun t k => XS.iconst X84.here hx rfl (hb hby at_199) k) ?_
  obtain ⟨cl86, Ar86, q86, Sz86, Nn86, Hs86, G86⟩ := id V_b59
  have hin86 : ¬ ((13 : Int32) < 0 ∨ cl86.slots.size ≤ ((13 : Int32)).toNatClampNeg) := inb_of Sz86 ⟨by decide, by decide⟩
  obtain ⟨T86, h86, X86, e86, W86, st86⟩ := stZ X84 hx hZ e84 Ar86 (j := (13 : Int32)) hin86 (g := (mkF m 200 #[.val (.int p1), .val (.ref b1), .unset, .unset] [(.int (0 : Int32)), (.int (13 : Int32)), (.ref b59), (.ref b59)])) rfl rfl (hb hby at_200)
  replace V_b59 : Arv Z h86 b59 k59 .boolean (19 : Int32) [(.int (1 : Int32)), (.int (1 : Int32)), (.int (1 : Int32)), (.int (0 : Int32)), (.int (0 : Int32)), (.int (0 : Int32)), (.int (0 : Int32)), (.int (0 : Int32)), (.int (0 : Int32)), (.int (0 : Int32)), (.int (1 : Int32)), (.int (0 : Int32)), (.int (0 : Int32)), (.int (0 : Int32)), (.int (0 : Int32)), (.int (0 : Int32)), (.int (0 : Int32)), (.int (0 : Int32)), (.int (0 : Int32))] (.int (0 : Int32)) := Arv.set Ar86 q86 Sz86 Nn86 Hs86 G86 rfl W86 13 rfl (Nat.le_of_ble_eq_true rfl)
  replace V_b1 := V_b1.other W86 ne_b1_b59
  have EX : Ext h0 h86 := own_extw EX W86 sz_b59
  have N86 := Fr.snoc X86 N84 g_b59
  obtain ⟨lq87, X86, N86⟩ := own_pack (cells := 2) (slots := 38) X86 N86
  refine own_s (B := T86.setTop (mkF m 201 #[.val (.int p1), .val (.ref b1), .unset, .unset] [(.ref b59)])) st86 ?_
  refine own_s (B := T86.setTop (mkF m 202 #[.val (.int p1), .val (.ref b1), .unset, .unset] [(.ref b59), (.ref b59)])) (fun t k => XS.dup X86.here hx rfl (hb hby at_201) rfl rfl k) ?_
  refine own_s (B := T86.setTop (mkF m 204 #[.val (.int p1), .val (.ref b1), .unset, .unset] [(.int (14 : Int32)), (.ref b59), (.ref b59)])) (fun t k => XS.bipush X86.here hx rfl (hb hby at_202) k) ?_
  refine own_s (B := T86.setTop (mkF m 205 #[.val (.int p1), .val (.ref b1), .unset, .unset] [(.int (0 : Int32)), (.int (14 : Int32)), (.ref b59), (.ref b59)])) (fun t k => XS.iconst X86.here hx rfl (hb hby at_204) k) ?_
  obtain ⟨cl88, Ar88, q88, Sz88, Nn88, Hs88, G88⟩ := id V_b59
  have hin88 : ¬ ((14 : Int32) < 0 ∨ cl88.slots.size ≤ ((14 : Int32)).toNatClampNeg) := inb_of Sz88 ⟨by decide, by decide⟩
  obtain ⟨T88, h88, X88, e88, W88, st88⟩ := stZ X86 hx hZ e86 Ar88 (j := (14 : Int32)) hin88 (g := (mkF m 205 #[.val (.int p1), .val (.ref b1), .unset, .unset] [(.int (0 : Int32)), (.int (14 : Int32)), (.ref b59), (.ref b59)])) rfl rfl (hb hby at_205)
  replace V_b59 : Arv Z h88 b59 k59 .boolean (19 : Int32) [(.int (1 : Int32)), (.int (1 : Int32)), (.int (1 : Int32)), (.int (0 : Int32)), (.int (0 : Int32)), (.int (0 : Int32)), (.int (0 : Int32)), (.int (0 : Int32)), (.int (0 : Int32)), (.int (0 : Int32)), (.int (1 : Int32)), (.int (0 : Int32)), (.int (0 : Int32)), (.int (0 : Int32)), (.int (0 : Int32)), (.int (0 : Int32)), (.int (0 : Int32)), (.int (0 : Int32)), (.int (0 : Int32))] (.int (0 : Int32)) := Arv.set Ar88 q88 Sz88 Nn88 Hs88 G88 rfl W88 14 rfl (Nat.le_of_ble_eq_true rfl)
  replace V_b1 := V_b1.other W88 ne_b1_b59
  have EX : Ext h0 h88 := own_extw EX W88 sz_b59
  have N88 := Fr.snoc X88 N86 g_b59
  obtain ⟨lq89, X88, N88⟩ := own_pack (cells := 2) (slots := 38) X88 N88
  refine own_s (B := T88.setTop (mkF m 206 #[.val (.int p1), .val (.ref b1), .unset, .unset] [(.ref b59)])) st88 ?_
  refine own_s (B := T88.setTop (mkF m 207 #[.val (.int p1), .val (.ref b1), .unset, .unset] [(.ref b59), (.ref b59)])) (fun t k => XS.dup X88.here hx rfl (hb hby at_206) rfl rfl k) ?_
  refine own_s (B := T88.setTop (mkF m 209 #[.val (.int p1), .val (.ref b1), .unset, .unset] [(.int (15 : Int32)), (.ref b59), (.ref b59)])) (fun t k => XS.bipush X88.here hx rfl (hb hby at_207) k) ?_
  refine own_s (B := T88.setTop (mkF m 210 #[.val (.int p1), .val (.ref b1), .unset, .unset] [(.int (1 : Int32)), (.int (15 : Int32)), (.ref b59), (.ref b59)])) (fun t k => XS.iconst X88.here hx rfl (hb hby at_209) k) ?_
  obtain ⟨cl90, Ar90, q90, Sz90, Nn90, Hs90, G90⟩ := id V_b59
  have hin90 : ¬ ((15 : Int32) < 0 ∨ cl90.slots.size ≤ ((15 : Int32)).toNatClampNeg) := inb_of Sz90 ⟨by decide, by decide⟩
  obtain ⟨T90, h90, X90, e90, W90, st90⟩ := stZ X88 hx hZ e88 Ar90 (j := (15 : Int32)) hin90 (g := (mkF m 210 #[.val (.int p1), .val (.ref b1), .unset, .unset] [(.int (1 : Int32)), (.int (15 : Int32)), (.ref b59), (.ref b59)])) rfl rfl (hb hby at_210)
  replace V_b59 : Arv Z h90 b59 k59 .boolean (19 : Int32) [(.int (1 : Int32)), (.int (1 : Int32)), (.int (1 : Int32)), (.int (0 : Int32)), (.int (0 : Int32)), (.int (0 : Int32)), (.int (0 : Int32)), (.int (0 : Int32)), (.int (0 : Int32)), (.int (0 : Int32)), (.int (1 : Int32)), (.int (0 : Int32)), (.int (0 : Int32)), (.int (0 : Int32)), (.int (0 : Int32)), (.int (1 : Int32)), (.int (0 : Int32)), (.int (0 : Int32)), (.int (0 : Int32))] (.int (0 : Int32)) := Arv.set Ar90 q90 Sz90 Nn90 Hs90 G90 rfl W90 15 rfl (Nat.le_of_ble_eq_true rfl)
  replace V_b1 := V_b1.other W90 ne_b1_b59
  have EX : Ext h0 h90 := own_extw EX W90 sz_b59
  have N90 := Fr.snoc X90 N88 g_b59
  obtain ⟨lq91, X90, N90⟩ := own_pack (cells := 2) (slots := 38) X90 N90
  refine own_s (B := T90.setTop (mkF m 211 #[.val (.int p1), .val (.ref b1), .unset, .unset] [(.ref b59)])) st90 ?_
  refine own_s (B := T90.setTop (mkF m 212 #[.val (.int p1), .val (.ref b1), .unset, .unset] [(.ref b59), (.ref b59)])) (fun t k => XS.dup X90.here hx rfl (hb hby at_211) rfl rfl k) ?_
  refine own_s (B := T90.setTop (mkF m 214 #[.val (.int p1), .val (.ref b1), .unset, .unset] [(.int (16 : Int32)), (.ref b59), (.ref b59)])) (fun t k => XS.bipush X90.here hx rfl (hb hby at_212) k) ?_
  refine own_s (B := T90.setTop (mkF m 215 #[.val (.int p1), .val (.ref b1), .unset, .unset] [(.int (0 : Int32)), (.int (16 : Int32)), (.ref b59), (.ref b59)])) (fun t k => XS.iconst X90.here hx rfl (hb hby at_214) k) ?_
  obtain ⟨cl92, Ar92, q92, Sz92, Nn92, Hs92, G92⟩ := id V_b59
  have hin92 : ¬ ((16 : Int32) < 0 ∨ cl92.slots.size ≤ ((16 : Int32)).toNatClampNeg) := inb_of Sz92 ⟨by decide, by decide⟩
  obtain ⟨T92, h92, X92, e92, W92, st92⟩ := stZ X90 hx hZ e90 Ar92 (j := (16 : Int32)) hin92 (g := (mkF m 215 #[.val (.int p1), .val (.ref b1), .unset, .unset] [(.int (0 : Int32)), (.int (16 : Int32)), (.ref b59), (.ref b59)])) rfl rfl (hb hby at_215)
  replace V_b59 : Arv Z h92 b59 k59 .boolean (19 : Int32) [(.int (1 : Int32)), (.int (1 : Int32)), (.int (1 : Int32)), (.int (0 : Int32)), (.int (0 : Int32)), (.int (0 : Int32)), (.int (0 : Int32)), (.int (0 : Int32)), (.int (0 : Int32)), (.int (0 : Int32)), (.int (1 : Int32)), (.int (0 : Int32)), (.int (0 : Int32)), (.int (0 : Int32)), (.int (0 : Int32)), (.int (1 : Int32)), (.int (0 : Int32)), (.int (0 : Int32)), (.int (0 : Int32))] (.int (0 : Int32)) := Arv.set Ar92 q92 Sz92 Nn92 Hs92 G92 rfl W92 16 rfl (Nat.le_of_ble_eq_true rfl)
  replace V_b1 := V_b1.other W92 ne_b1_b59
  have EX : Ext h0 h92 := own_extw EX W92 sz_b59
  have N92 := Fr.snoc X92 N90 g_b59
  obtain ⟨lq93, X92, N92⟩ := own_pack (cells := 2) (slots := 38) X92 N92
  refine own_s (B := T92.setTop (mkF m 216 #[.val (.int p1), .val (.ref b1), .unset, .unset] [(.ref b59)])) st92 ?_
  refine own_s (B := T92.setTop (mkF m 217 #[.val (.int p1), .val (.ref b1), .unset, .unset] [(.ref b59), (.ref b59)])) (fun t k => XS.dup X92.here hx rfl (hb hby at_216) rfl rfl k) ?_
  refine own_s (B := T92.setTop (mkF m 219 #[.val (.int p1), .val (.ref b1), .unset, .unset] [(.int (17 : Int32)), (.ref b59), (.ref b59)])) (fun t k => XS.bipush X92.here hx rfl (hb hby at_217) k) ?_
  refine own_s (B := T92.setTop (mkF m 220 #[.val (.int p1), .val (.ref b1), .unset, .unset] [(.int (0 : Int32)), (.int (17 : Int32)), (.ref b59), (.ref b59)])) (fun t k => XS.iconst X92.here hx rfl (hb hby at_219) k) ?_
  obtain ⟨cl94, Ar94, q94, Sz94, Nn94, Hs94, G94⟩ := id V_b59
  have hin94 : ¬ ((17 : Int32) < 0 ∨ cl94.slots.size ≤ ((17 : Int32)).toNatClampNeg) := inb_of Sz94 ⟨by decide, by decide⟩
  obtain ⟨T94, h94, X94, e94, W94, st94⟩ := stZ X92 hx hZ e92 Ar94 (j := (17 : Int32)) hin94 (g := (mkF m 220 #[.val (.int p1), .val (.ref b1), .unset, .unset] [(.int (0 : Int32)), (.int (17 : Int32)), (.ref b59), (.ref b59)])) rfl rfl (hb hby at_220)
  replace V_b59 : Arv Z h94 b59 k59 .boolean (19 : Int32) [(.int (1 : Int32)), (.int (1 : Int32)), (.int (1 : Int32)), (.int (0 : Int32)), (.int (0 : Int32)), (.int (0 : Int32)), (.int (0 : Int32)), (.int (0 : Int32)), (.int (0 : Int32)), (.int (0 : Int32)), (.int (1 : Int32)), (.int (0 : Int32)), (.int (0 : Int32)), (.int (0 : Int32)), (.int (0 : Int32)), (.int (1 : Int32)), (.int (0 : Int32)), (.int (0 : Int32)), (.int (0 : Int32))] (.int (0 : Int32)) := Arv.set Ar94 q94 Sz94 Nn94 Hs94 G94 rfl W94 17 rfl (Nat.le_of_ble_eq_true rfl)
  replace V_b1 := V_b1.other W94 ne_b1_b59
  have EX : Ext h0 h94 := own_extw EX W94 sz_b59
  have N94 := Fr.snoc X94 N92 g_b59
  obtain ⟨lq95, X94, N94⟩ := own_pack (cells := 2) (slots := 38) X94 N94
  refine own_s (B := T94.setTop (mkF m 221 #[.val (.int p1), .val (.ref b1), .unset, .unset] [(.ref b59)])) st94 ?_
  refine own_s (B := T94.setTop (mkF m 222 #[.val (.int p1), .val (.ref b1), .unset, .unset] [(.ref b59), (.ref b59)])) (fun t k => XS.dup X94.here hx rfl (hb hby at_221) rfl rfl k) ?_
  refine own_s (B := T94.setTop (mkF m 224 #[.val (.int p1), .val (.ref b1), .unset, .unset] [(.int (18 : Int32)), (.ref b59), (.ref b59)])) (fun t k => XS.bipush X94.here hx rfl (hb hby at_222) k) ?_
  refine own_s (B := T94.setTop (mkF m 225 #[.val (.int p1), .val (.ref b1), .unset, .unset] [(.int (0 : Int32)), (.int (18 : Int32)), (.ref b59), (.ref b59)])) (fun t k => XS.iconst X94.here hx rfl (hb hby at_224) k) ?_
  obtain ⟨cl96, Ar96, q96, Sz96, Nn96, Hs96, G96⟩ := id V_b59
  have hin96 : ¬ ((18 : Int32) < 0 ∨ cl96.slots.size ≤ ((18 : Int32)).toNatClampNeg) := inb_of Sz96 ⟨by decide, by decide⟩
  obtain ⟨T96, h96, X96, e96, W96, st96⟩ := stZ X94 hx hZ e94 Ar96 (j := (18 : Int32)) hin96 (g := (mkF m 225 #[.val (.int p1), .val (.ref b1), .unset, .unset] [(.int (0 : Int32)), (.int (18 : Int32)), (.ref b59), (.ref b59)])) rfl rfl (hb hby at_225)
  replace V_b59 : Arv Z h96 b59 k59 .boolean (19 : Int32) [(.int (1 : Int32)), (.int (1 : Int32)), (.int (1 : Int32)), (.int (0 : Int32)), (.int (0 : Int32)), (.int (0 : Int32)), (.int (0 : Int32)), (.int (0 : Int32)), (.int (0 : Int32)), (.int (0 : Int32)), (.int (1 : Int32)), (.int (0 : Int32)), (.int (0 : Int32)), (.int (0 : Int32)), (.int (0 : Int32)), (.int (1 : Int32)), (.int (0 : Int32)), (.int (0 : Int32)), (.int (0 : Int32))] (.int (0 : Int32)) := Arv.set Ar96 q96 Sz96 Nn96 Hs96 G96 rfl W96 18 rfl (Nat.le_of_ble_eq_true rfl)
  replace V_b1 := V_b1.other W96 ne_b1_b59
  have EX : Ext h0 h96 := own_extw EX W96 sz_b59
  have N96 := Fr.snoc X96 N94 g_b59
  obtain ⟨lq97, X96, N96⟩ := own_pack (cells := 2) (slots := 38) X96 N96
  refine own_s (B := T96.setTop (mkF m 226 #[.val (.int p1), .val (.ref b1), .unset, .unset] [(.ref b59)])) st96 ?_
  refine own_s (B := T96.setTop (mkF m 227 #[.val (.int p1), .val (.ref b1), .val (.ref b59), .unset] [])) (fun t k => XS.astoreN X96.here hx rfl (hb hby at_226) rfl rfl (l' := #[.val (.int p1), .val (.ref b1), .val (.ref b59), .unset]) rfl k) ?_
  refine own_s (B := T96.setTop (mkF m 228 #[.val (.int p1), .val (.ref b1), .val (.ref b59), .unset] [(.int p1)])) (fun t k => XS.iloadN X96.here hx rfl (hb hby at_227) rfl k) ?_
  refine own_s (B := T96.setTop (mkF m 230 #[.val (.int p1), .val (.ref b1), .val (.ref b59), .unset] [(.int (2147483647 : Int32)), (.int p1)])) (fun t k => X96.ldcInt hx hown (mvT hZ (hw _ (List.mem_of_getElem? (i := 43) rfl))) (g := (mkF m 228 #[.val (.int p1), .val (.ref b1), .val (.ref b59), .unset] [(.int p1)])) rfl (hb hby at_228) t k) ?_
  refine own_s (B := T96.setTop (mkF m 231 #[.val (.int p1), .val (.ref b1), .val (.ref b59), .unset] [(.int (p1 &&& (2147483647 : Int32)))])) (fun t k => XS.iand X96.here hx rfl (hb hby at_230) rfl k) ?_
  refine own_s (B := T96.setTop (mkF m 233 #[.val (.int p1), .val (.ref b1), .val (.ref b59), .unset] [(.int (19 : Int32)), (.int (p1 &&& (2147483647 : Int32)))])) (fun t k => XS.bipush X96.here hx rfl (hb hby at_231) k) ?_
  refine own_s (B := T96.setTop (mkF m 234 #[.val (.int p1), .val (.ref b1), .val (.ref b59), .unset] [(.int ((p1 &&& (2147483647 : Int32)) % (19 : Int32)))])) (fun t k => iremM X96 hx rfl (hb hby at_233) rfl (by decide : (19 : Int32) ≠ 0) k) ?_
  have hkk := own_rg_0_18 (own_m p1).1 (own_m p1).2
  generalize ((p1 &&& (2147483647 : Int32)) % (19 : Int32)) = k at hkk ⊢
  rcases hkk with rfl | rfl | rfl | rfl | rfl | rfl | rfl | rfl | rfl | rfl | rfl | rfl | rfl | rfl | rfl | rfl | rfl | rfl | rfl
  · refine own_s (B := T96.setTop (mkF m 235 #[.val (.int p1), .val (.ref b1), .val (.ref b59), .val (.int (0 : Int32))] [])) (fun t k => XS.istoreN X96.here hx rfl (hb hby at_234) rfl (l' := #[.val (.int p1), .val (.ref b1), .val (.ref b59), .val (.int (0 : Int32))]) rfl k) ?_
    refine own_s (B := T96.setTop (mkF m 236 #[.val (.int p1), .val (.ref b1), .val (.ref b59), .val (.int (0 : Int32))] [(.ref b1)])) (fun t k => XS.aloadN X96.here hx rfl (hb hby at_235) rfl rfl k) ?_
    refine own_s (B := T96.setTop (mkF m 237 #[.val (.int p1), .val (.ref b1), .val (.ref b59), .val (.int (0 : Int32))] [(.int (0 : Int32)), (.ref b1)])) (fun t k => XS.iloadN X96.here hx rfl (hb hby at_236) rfl k) ?_
    obtain ⟨cl98, Ar98, q98, Sz98, Nn98, Hs98, G98⟩ := id V_b1
    have hin98 : ¬ ((0 : Int32) < 0 ∨ cl98.slots.size ≤ ((0 : Int32)).toNatClampNeg) := inb_of Sz98 ⟨by decide, by decide⟩
    refine own_s (B := T96.setTop (mkF m 238 #[.val (.int p1), .val (.ref b1), .val (.ref b59), .val (.int (0 : Int32))] [(.ref (W (0 : Int32)))])) (fun t k => X96.aaload hx (j := (0 : Int32)) (v := (.ref (W (0 : Int32)))) (by rw [e96]; exact Ar98.1) (State.isArrayOf_alike hZ.alike Ar98.2.1) rfl Ar98.2.2 hin98 (Hs98.at hin98 rfl) (g := (mkF m 237 #[.val (.int p1), .val (.ref b1), .val (.ref b59), .val (.int (0 : Int32))] [(.int (0 : Int32)), (.ref b1)])) rfl rfl (hb hby at_237) t k) ?_
    obtain ⟨cq99, kq99, q99a, q99b, q99c⟩ := isOf hZ e96 ((XW (0 : Int32) (by decide) (by decide)).ext EX)
    obtain ⟨_, _, ⟨T99, L99, k99, n99⟩, -, X99, ⟨Lc99, hQ99, l99, y99, z99⟩, st99⟩ := X96.virtualBack hx (y := (⟨"com/example/tally/tally/XPathFunction", "isNumeric", "()Z"⟩ : MethodName)) (z := (⟨"com/example/tally/tally/XPathFunction", "isNumeric", "()Z"⟩ : MethodName)) hown (mvT hZ (hw _ (List.mem_of_getElem? (i := 44) rfl))) (mvT hZ (hw _ (List.mem_of_getElem? (i := 45) rfl))) (notFace_of_selects (args := #[]) (mvT hZ (hw _ (List.mem_of_getElem? (i := 47) rfl)))) (mvT hZ (hw _ (List.mem_of_getElem? (i := 47) rfl))) (mvT hZ (hw _ (List.mem_of_getElem? (i := 46) rfl))) (by decide) (backOf (W := 0) (rm1 l Z a0 hw [] (W (0 : Int32)) W (1 : Int32) h96 n0 (Nat.le_trans Z0 EX.1) (WS.ext EX EW) (own_b1 (Or.inl rfl))) hZ (hw _ (List.mem_of_getElem? (i := 48) rfl)) (hw _ (List.mem_of_getElem? (i := 3) rfl)) (by decide) (by decide)) q99a q99c (g := (mkF m 238 #[.val (.int p1), .val (.ref b1), .val (.ref b59), .val (.int (0 : Int32))] [(.ref (W (0 : Int32)))])) rfl (by rw [hml]; rfl) (Steps.refl _) (argsL := []) (rest := []) (lenOf pd_0 rfl) rfl (by show 2 * 0 + _ ≤ _; exact Nat.le_of_eq rfl) (hb hby at_238) (fun _ _ => ⟨rfl, e96, (by decide : 2 + 0 ≤ _), (by decide : 38 + 0 ≤ _)⟩)
    dsimp only [Pt.U, Pt.locs, Pt.cells, Pt.slots] at X99 l99 y99 z99 st99 hQ99
    subst l99 y99 z99
    obtain ⟨rfl, N99q, e99⟩ := hQ99
    have N99 := Fr.app N96 N99q
    obtain ⟨lq100, X99, N99⟩ := own_pack (cells := 2) (slots := 38) X99 N99
    refine own_s (B := T99.setTop (mkF m 241 #[.val (.int p1), .val (.ref b1), .val (.ref b59), .val (.int (0 : Int32))] [(.int (1 : Int32))])) (fun t k => st99.trans k) ?_
    refine own_s (B := T99.setTop (mkF m 242 #[.val (.int p1), .val (.ref b1), .val (.ref b59), .val (.int (0 : Int32))] [(.ref b59), (.int (1 : Int32))])) (fun t k => XS.aloadN X99.here hx rfl (hb hby at_241) rfl rfl k) ?_
    refine own_s (B := T99.setTop (mkF m 243 #[.val (.int p1), .val (.ref b1), .val (.ref b59), .val (.int (0 : Int32))] [(.int (0 : Int32)), (.ref b59), (.int (1 : Int32))])) (fun t k => XS.iloadN X99.here hx rfl (hb hby at_242) rfl k) ?_
    obtain ⟨cl101, Ar101, q101, Sz101, Nn101, Hs101, G101⟩ := id V_b59
    have hin101 : ¬ ((0 : Int32) < 0 ∨ cl101.slots.size ≤ ((0 : Int32)).toNatClampNeg) := inb_of Sz101 ⟨by decide, by decide⟩
    refine own_s (B := T99.setTop (mkF m 244 #[.val (.int p1), .val (.ref b1), .val (.ref b59), .val (.int (0 : Int32))] [(.int (1 : Int32)), (.int (1 : Int32))])) (fun t k => X99.baloadBooleans hx (j := (0 : Int32)) (v := (.int (1 : Int32))) (by rw [e99]; exact Ar101.1) (State.isArrayOf_alike hZ.alike Ar101.2.1) Ar101.2.2 hin101 (Hs101.at hin101 rfl) (g := (mkF m 243 #[.val (.int p1), .val (.ref b1), .val (.ref b59), .val (.int (0 : Int32))] [(.int (0 : Int32)), (.ref b59), (.int (1 : Int32))])) rfl rfl (hb hby at_243) t k) ?_
    refine own_s (B := T99.setTop (mkF m 247 #[.val (.int p1), .val (.ref b1), .val (.ref b59), .val (.int (0 : Int32))] [])) (fun t k => XS.icmpNo X99.here hx rfl (hb hby at_244) rfl (teq rfl).2 k) ?_
    refine own_s (B := T99.setTop (mkF m 248 #[.val (.int p1), .val (.ref b1), .val (.ref b59), .val (.int (0 : Int32))] [(.int (1 : Int32))])) (fun t k => XS.iconst X99.here hx rfl (hb hby at_247) k) ?_
    refine own_s (B := T99.setTop (mkF m 252 #[.val (.int p1), .val (.ref b1), .val (.ref b59), .val (.int (0 : Int32))] [(.int (1 : Int32))])) (fun t k => XS.goto X99.here hx rfl (pc0 := 248) (pc' := 252) rfl (hb hby at_248) (by decide) (by decide) k) ?_
    exact own_retB X99 hx hlk (t := .boolean) Bd.returns (by simp) (hb hby at_252) (by decide) (by decide) ⟨rfl, N99⟩
  · refine own_s (B := T96.setTop (mkF m 235 #[.val (.int p1), .val (.ref b1), .val (.ref b59), .val (.int (1 : Int32))] [])) (fun t k => XS.istoreN X96.here hx rfl (hb hby at_234) rfl (l' := #[.val (.int p1), .val (.ref b1), .val (.ref b59), .val (.int (1 : Int32))]) rfl k) ?_
    refine own_s (B := T96.setTop (mkF m 236 #[.val (.int p1), .val (.ref b1), .val (.ref b59), .val (.int (1 : Int32))] [(.ref b1)])) (fun t k => XS.aloadN X96.here hx rfl (hb hby at_235) rfl rfl k) ?_
    refine own_s (B := T96.setTop (mkF m 237 #[.val (.int p1), .val (.ref b1), .val (.ref b59), .val (.int (1 : Int32))] [(.int (1 : Int32)), (.ref b1)])) (fun t k => XS.iloadN X96.here hx rfl (hb hby at_236) rfl k) ?_
    obtain ⟨cl102, Ar102, q102, Sz102, Nn102, Hs102, G102⟩ := id V_b1
    have hin102 : ¬ ((1 : Int32) < 0 ∨ cl102.slots.size ≤ ((1 : Int32)).toNatClampNeg) := inb_of Sz102 ⟨by decide, by decide⟩
    refine own_s (B := T96.setTop (mkF m 238 #[.val (.int p1), .val (.ref b1), .val (.ref b59), .val (.int (1 : Int32))] [(.ref (W (1 : Int32)))])) (fun t k => X96.aaload hx (j := (1 : Int32)) (v := (.ref (W (1 : Int32)))) (by rw [e96]; exact Ar102.1) (State.isArrayOf_alike hZ.alike Ar102.2.1) rfl Ar102.2.2 hin102 (Hs102.at hin102 rfl) (g := (mkF m 237 #[.val (.int p1), .val (.ref b1), .val (.ref b59), .val (.int (1 : Int32))] [(.int (1 : Int32)), (.ref b1)])) rfl rfl (hb hby at_237) t k) ?_
    obtain ⟨cq103, kq103, q103a, q103b, q103c⟩ := isOf hZ e96 ((XW (1 : Int32) (by decide) (by decide)).ext EX)
    obtain ⟨_, _, ⟨T103, L103, k103, n103⟩, -, X103, ⟨Lc103, hQ103, l103, y103, z103⟩, st103⟩ := X96.virtualBack hx (y := (⟨"com/example/tally/tally/XPathFunction", "isNumeric", "()Z"⟩ : MethodName)) (z := (⟨"com/example/tally/tally/XPathFunction", "isNumeric", "()Z"⟩ : MethodName)) hown (mvT hZ (hw _ (List.mem_of_getElem? (i := 44) rfl))) (mvT hZ (hw _ (List.mem_of_getElem? (i := 45) rfl))) (notFace_of_selects (args := #[]) (mvT hZ (hw _ (List.mem_of_getElem? (i := 47) rfl)))) (mvT hZ (hw _ (List.mem_of_getElem? (i := 47) rfl))) (mvT hZ (hw _ (List.mem_of_getElem? (i := 46) rfl))) (by decide) (backOf (W := 0) (rm1 l Z a0 hw [] (W (1 : Int32)) W (1 : Int32) h96 n0 (Nat.le_trans Z0 EX.1) (WS.ext EX EW) (own_b1 (Or.inr (Or.inl rfl)))) hZ (hw _ (List.mem_of_getElem? (i := 48) rfl)) (hw _ (List.mem_of_getElem? (i := 3) rfl)) (by decide) (by decide)) q103a q103c (g := (mkF m 238 #[.val (.int p1), .val (.ref b1), .val (.ref b59), .val (.int (1 : Int32))] [(.ref (W (1 : Int32)))])) rfl (by rw [hml]; rfl) (Steps.refl _) (argsL := []) (rest := []) (lenOf pd_0 rfl) rfl (by show 2 * 0 + _ ≤ _; exact Nat.le_of_eq rfl) (hb hby at_238) (fun _ _ => ⟨rfl, e96, (by decide : 2 + 0 ≤ _), (by decide : 38 + 0 ≤ _)⟩)
    dsimp only [Pt.U, Pt.locs, Pt.cells, Pt.slots] at X103 l103 y103 z103 st103 hQ103
    subst l103 y103 z103
    obtain ⟨rfl, N103q, e103⟩ := hQ103
    have N103 := Fr.app N96 N103q
    obtain ⟨lq104, X103, N103⟩ := own_pack (cells := 2) (slots := 38) X103 N103
    refine own_s (B := T103.setTop (mkF m 241 #[.val (.int p1), .val (.ref b1), .val (.ref b59), .val (.int (1 : Int32))] [(.int (1 : Int32))])) (fun t k => st103.trans k) ?_
    refine own_s (B := T103.setTop (mkF m 242 #[.val (.int p1), .val (.ref b1), .val (.ref b59), .val (.int (1 : Int32))] [(.ref b59), (.int (1 : Int32))])) (fun t k => XS.aloadN X103.here hx rfl (hb hby at_241) rfl rfl k) ?_
    refine own_s (B := T103.setTop (mkF m 243 #[.val (.int p1), .val (.ref b1), .val (.ref b59), .val (.int (1 : Int32))] [(.int (1 : Int32)), (.ref b59), (.int (1 : Int32))])) (fun t k => XS.iloadN X103.here hx rfl (hb hby at_242) rfl k) ?_
    obtain ⟨cl105, Ar105, q105, Sz105, Nn105, Hs105, G105⟩ := id V_b59
    have hin105 : ¬ ((1 : Int32) < 0 ∨ cl105.slots.size ≤ ((1 : Int32)).toNatClampNeg) := inb_of Sz105 ⟨by decide, by decide⟩
    refine own_s (B := T103.setTop (mkF m 244 #[.val (.int p1), .val (.ref b1), .val (.ref b59), .val (.int (1 : Int32))] [(.int (1 : Int32)), (.int (1 : Int32))])) (fun t k => X103.baloadBooleans hx (j := (1 : Int32)) (v := (.int (1 : Int32))) (by rw [e103]; exact Ar105.1) (State.isArrayOf_alike hZ.alike Ar105.2.1) Ar105.2.2 hin105 (Hs105.at hin105 rfl) (g := (mkF m 243 #[.val (.int p1), .val (.ref b1), .val (.ref b59), .val (.int (1 : Int32))] [(.int (1 : Int32)), (.ref b59), (.int (1 : Int32))])) rfl rfl (hb hby at_243) t k) ?_
    refine own_s (B := T103.setTop (mkF m 247 #[.val (.int p1), .val (.ref b1), .val (.ref b59), .val (.int (1 : Int32))] [])) (fun t k => XS.icmpNo X103.here hx rfl (hb hby at_244) rfl (teq rfl).2 k) ?_
    refine own_s (B := T103.setTop (mkF m 248 #[.val (.int p1), .val (.ref b1), .val (.ref b59), .val (.int (1 : Int32))] [(.int (1 : Int32))])) (fun t k => XS.iconst X103.here hx rfl (hb hby at_247) k) ?_
    refine own_s (B := T103.setTop (mkF m 252 #[.val (.int p1), .val (.ref b1), .val (.ref b59), .val (.int (1 : Int32))] [(.int (1 : Int32))])) (fun t k => XS.goto X103.here hx rfl (pc0 := 248) (pc' := 252) rfl (hb hby at_248) (by decide) (by decide) k) ?_
    exact own_retB X103 hx hlk (t := .boolean) Bd.returns (by simp) (hb hby at_252) (by decide) (by decide) ⟨rfl, N103⟩
  · refine own_s (B := T96.setTop (mkF m 235 #[.val (.int p1), .val (.ref b1), .val (.ref b59), .val (.int (2 : Int32))] [])) (fun t k => XS.istoreN X96.here hx rfl (hb hby at_234) rfl (l' := #[.val (.int p1), .val (.ref b1), .val (.ref b59), .val (.int (2 : Int32))]) rfl k) ?_
    refine own_s (B := T96.setTop (mkF m 236 #[.val (.int p1), .val (.ref b1), .val (.ref b59), .val (.int (2 : Int32))] [(.ref b1)])) (fun t k => XS.aloadN X96.here hx rfl (hb hby at_235) rfl rfl k) ?_
    refine own_s (B := T96.setTop (mkF m 237 #[.val (.int p1), .val (.ref b1), .val (.ref b59), .val (.int (2 : Int32))] [(.int (2 : Int32)), (.ref b1)])) (fun t k => XS.iloadN X96.here hx rfl (hb hby at_236) rfl k) ?_
    obtain ⟨cl106, Ar106, q106, Sz106, Nn106, Hs106, G106⟩ := id V_b1
    have hin106 : ¬ ((2 : Int32) < 0 ∨ cl106.slots.size ≤ ((2 : Int32)).toNatClampNeg) := inb_of Sz106 ⟨by decide, by decide⟩
    refine own_s (B := T96.setTop (mkF m 238 #[.val (.int p1), .val (.ref b1), .val (.ref b59), .val (.int (2 : Int32))] [(.ref (W (2 : Int32)))])) (fun t k => X96.aaload hx (j := (2 : Int32)) (v := (.ref (W (2 : Int32)))) (by rw [e96]; exact Ar106.1) (State.isArrayOf_alike hZ.alike Ar106.2.1) rfl Ar106.2.2 hin106 (Hs106.at hin106 rfl) (g := (mkF m 237 #[.val (.int p1), .val (.ref b1), .val (.ref b59), .val (.int (2 : Int32))] [(.int (2 : Int32)), (.ref b1)])) rfl rfl (hb hby at_237) t k) ?_
    obtain ⟨cq107, kq107, q107a, q107b, q107c⟩ := isOf hZ e96 ((XW (2 : Int32) (by decide) (by decide)).ext EX)
    obtain ⟨_, _, ⟨T107, L107, k107, n107⟩, -, X107, ⟨Lc107, hQ107, l107, y107, z107⟩, st107⟩ := X96.virtualBack hx (y := (⟨"com/example/tally/tally/XPathFunction", "isNumeric", "()Z"⟩ : MethodName)) (z := (⟨"com/example/tally/tally/XPathFunction", "isNumeric", "()Z"⟩ : MethodName)) hown (mvT hZ (hw _ (List.mem_of_getElem? (i := 44) rfl))) (mvT hZ (hw _ (List.mem_of_getElem? (i := 45) rfl))) (notFace_of_selects (args := #[]) (mvT hZ (hw _ (List.mem_of_getElem? (i := 47) rfl)))) (mvT hZ (hw _ (List.mem_of_getElem? (i := 47) rfl))) (mvT hZ (hw _ (List.mem_of_getElem? (i := 46) rfl))) (by decide) (backOf (W := 0) (rm1 l Z a0 hw [] (W (2 : Int32)) W (1 : Int32) h96 n0 (Nat.le_trans Z0 EX.1) (WS.ext EX EW) (own_b1 (Or.inr (Or.inr (Or.inl rfl))))) hZ (hw _ (List.mem_of_getElem? (i := 48) rfl)) (hw _ (List.mem_of_getElem? (i := 3) rfl)) (by decide) (by decide)) q107a q107c (g := (mkF m 238 #[.val (.int p1), .val (.ref b1), .val (.ref b59), .val (.int (2 : Int32))] [(.ref (W (2 : Int32)))])) rfl (by rw [hml]; rfl) (Steps.refl _) (argsL := []) (rest := []) (lenOf pd_0 rfl) rfl (by show 2 * 0 + _ ≤ _; exact Nat.le_of_eq rfl) (hb hby at_238) (fun _ _ => ⟨rfl, e96, (by decide : 2 + 0 ≤ _), (by decide : 38 + 0 ≤ _)⟩)
    dsimp only [Pt.U, Pt.locs, Pt.cells, Pt.slots] at X107 l107 y107 z107 st107 hQ107
    subst l107 y107 z107
    obtain ⟨rfl, N107q, e107⟩ := hQ107
    have N107 := Fr.app N96 N107q
    obtain ⟨lq108, X107, N107⟩ := own_pack (cells := 2) (slots := 38) X107 N107
    refine own_s (B := T107.setTop (mkF m 241 #[.val (.int p1), .val (.ref b1), .val (.ref b59), .val (.int (2 : Int32))] [(.int (1 : Int32))])) (fun t k => st107.trans k) ?_
    refine own_s (B := T107.setTop (mkF m 242 #[.val (.int p1), .val (.ref b1), .val (.ref b59), .val (.int (2 : Int32))] [(.ref b59), (.int (1 : Int32))])) (fun t k => XS.aloadN X107.here hx rfl (hb hby at_241) rfl rfl k) ?_
    refine own_s (B := T107.setTop (mkF m 243 #[.val (.int p1), .val (.ref b1), .val (.ref b59), .val (.int (2 : Int32))] [(.int (2 : Int32)), (.ref b59), (.int (1 : Int32))])) (fun t k => XS.iloadN X107.here hx rfl (hb hby at_242) rfl k) ?_
    obtain ⟨cl109, Ar109, q109, Sz109, Nn109, Hs109, G109⟩ := id V_b59
    have hin109 : ¬ ((2 : Int32) < 0 ∨ cl109.slots.size ≤ ((2 : Int32)).toNatClampNeg) := inb_of Sz109 ⟨by decide, by decide⟩
    refine own_s (B := T107.setTop (mkF m 244 #[.val (.int p1), .val (.ref b1), .val (.ref b59), .val (.int (2 : Int32))] [(.int (1 : Int32)), (.int (1 : Int32))])) (fun t k => X107.baloadBooleans hx (j := (2 : Int32)) (v := (.int (1 : Int32))) (by rw [e107]; exact Ar109.1) (State.isArrayOf_alike hZ.alike Ar109.2.1) Ar109.2.2 hin109 (Hs109.at hin109 rfl) (g := (mkF m 243 #[.val (.int p1), .val (.ref b1), .val (.ref b59), .val (.int (2 : Int32))] [(.int (2 : Int32)), (.ref b59), (.int (1 : Int32))])) rfl rfl (hb hby at_243) t k) ?_
    refine own_s (B := T107.setTop (mkF m 247 #[.val (.int p1), .val (.ref b1), .val (.ref b59), .val (.int (2 : Int32))] [])) (fun t k => XS.icmpNo X107.here hx rfl (hb hby at_244) rfl (teq rfl).2 k) ?_
    refine own_s (B := T107.setTop (mkF m 248 #[.val (.int p1), .val (.ref b1), .val (.ref b59), .val (.int (2 : Int32))] [(.int (1 : Int32))])) (fun t k => XS.iconst X107.here hx rfl (hb hby at_247) k) ?_
    refine own_s (B := T107.setTop (mkF m 252 #[.val (.int p1), .val (.ref b1), .val (.ref b59), .val (.int (2 : Int32))] [(.int (1 : Int32))])) (fun t k => XS.goto X107.here hx rfl (pc0 := 248) (pc' := 252) rfl (hb hby at_248) (by decide) (by decide) k) ?_
    exact own_retB X107 hx hlk (t := .boolean) Bd.returns (by simp) (hb hby at_252) (by decide) (by decide) ⟨rfl, N107⟩
  · refine own_s (B := T96.setTop (mkF m 235 #[.val (.int p1), .val (.ref b1), .val (.ref b59), .val (.int (3 : Int32))] [])) (fun t k => XS.istoreN X96.here hx rfl (hb hby at_234) rfl (l' := #[.val (.int p1), .val (.ref b1), .val (.ref b59), .val (.int (3 : Int32))]) rfl k) ?_
    refine own_s (B := T96.setTop (mkF m 236 #[.val (.int p1), .val (.ref b1), .val (.ref b59), .val (.int (3 : Int32))] [(.ref b1)])) (fun t k => XS.aloadN X96.here hx rfl (hb hby at_235) rfl rfl k) ?_
    refine own_s (B := T96.setTop (mkF m 237 #[.val (.int p1), .val (.ref b1), .val (.ref b59), .val (.int (3 : Int32))] [(.int (3 : Int32)), (.ref b1)])) (fun t k => XS.iloadN X96.here hx rfl (hb hby at_236) rfl k) ?_
    obtain ⟨cl110, Ar110, q110, Sz110, Nn110, Hs110, G110⟩ := id V_b1
    have hin110 : ¬ ((3 : Int32) < 0 ∨ cl110.slots.size ≤ ((3 : Int32)).toNatClampNeg) := inb_of Sz110 ⟨by decide, by decide⟩
    refine own_s (B := T96.setTop (mkF m 238 #[.val (.int p1), .val (.ref b1), .val (.ref b59), .val (.int (3 : Int32))] [(.ref (W (3 : Int32)))])) (fun t k => X96.aaload hx (j := (3 : Int32)) (v := (.ref (W (3 : Int32)))) (by rw [e96]; exact Ar110.1) (State.isArrayOf_alike hZ.alike Ar110.2.1) rfl Ar110.2.2 hin110 (Hs110.at hin110 rfl) (g := (mkF m 237 #[.val (.int p1), .val (.ref b1), .val (.ref b59), .val (.int (3 : Int32))] [(.int (3 : Int32)), (.ref b1)])) rfl rfl (hb hby at_237) t k) ?_
    obtain ⟨cq111, kq111, q111a, q111b, q111c⟩ := isOf hZ e96 ((XW (3 : Int32) (by decide) (by decide)).ext EX)
    obtain ⟨_, _, ⟨T111, L111, k111, n111⟩, -, X111, ⟨Lc111, hQ111, l111, y111, z111⟩, st111⟩ := X96.virtualBack hx (y := (⟨"com/example/tally/tally/XPathFunction", "isNumeric", "()Z"⟩ : MethodName)) (z := (⟨"com/example/tally/tally/XPathFunction", "isNumeric", "()Z"⟩ : MethodName)) hown (mvT hZ (hw _ (List.mem_of_getElem? (i := 44) rfl))) (mvT hZ (hw _ (List.mem_of_getElem? (i := 45) rfl))) (notFace_of_selects (args := #[]) (mvT hZ (hw _ (List.mem_of_getElem? (i := 47) rfl)))) (mvT hZ (hw _ (List.mem_of_getElem? (i := 47) rfl))) (mvT hZ (hw _ (List.mem_of_getElem? (i := 46) rfl))) (by decide) (backOf (W := 0) (rm1 l Z a0 hw [] (W (3 : Int32)) W (0 : Int32) h96 n0 (Nat.le_trans Z0 EX.1) (WS.ext EX EW) (own_b0 (fun q => q.elim (own_ne IW 3 0 (by decide)) (fun q => q.elim (own_ne IW 3 1 (by decide)) (fun q => q.elim (own_ne IW 3 2 (by decide)) (fun q => q.elim (own_ne IW 3 10 (by decide)) (own_ne IW 3 15 (by decide)))))))) hZ (hw _ (List.mem_of_getElem? (i := 48) rfl)) (hw _ (List.mem_of_getElem? (i := 3) rfl)) (by decide) (by decide)) q111a q111c (g := (mkF m 238 #[.val (.int p1), .val (.ref b1), .val (.ref b59), .val (.int (3 : Int32))] [(.ref (W (3 : Int32)))])) rfl (by rw [hml]; rfl) (Steps.refl _) (argsL := []) (rest := []) (lenOf pd_0 rfl) rfl (by show 2 * 0 + _ ≤ _; exact Nat.le_of_eq rfl) (hb hby at_238) (fun _ _ => ⟨rfl, e96, (by decide : 2 + 0 ≤ _), (by decide : 38 + 0 ≤ _)⟩)
    dsimp only [Pt.U, Pt.locs, Pt.cells, Pt.slots] at X111 l111 y111 z111 st111 hQ111
    subst l111 y111 z111
    obtain ⟨rfl, N111q, e111⟩ := hQ111
    have N111 := Fr.app N96 N111q
    obtain ⟨lq112, X111, N111⟩ := own_pack (cells := 2) (slots := 38) X111 N111
    refine own_s (B := T111.setTop (mkF m 241 #[.val (.int p1), .val (.ref b1), .val (.ref b59), .val (.int (3 : Int32))] [(.int (0 : Int32))])) (fun t k => st111.trans k) ?_
    refine own_s (B := T111.setTop (mkF m 242 #[.val (.int p1), .val (.ref b1), .val (.ref b59), .val (.int (3 : Int32))] [(.ref b59), (.int (0 : Int32))])) (fun t k => XS.aloadN X111.here hx rfl (hb hby at_241) rfl rfl k) ?_
    refine own_s (B := T111.setTop (mkF m 243 #[.val (.int p1), .val (.ref b1), .val (.ref b59), .val (.int (3 : Int32))] [(.int (3 : Int32)), (.ref b59), (.int (0 : Int32))])) (fun t k => XS.iloadN X111.here hx rfl (hb hby at_242) rfl k) ?_
    obtain ⟨cl113, Ar113, q113, Sz113, Nn113, Hs113, G113⟩ := id V_b59
    have hin113 : ¬ ((3 : Int32) < 0 ∨ cl113.slots.size ≤ ((3 : Int32)).toNatClampNeg) := inb_of Sz113 ⟨by decide, by decide⟩
    refine own_s (B := T111.setTop (mkF m 244 #[.val (.int p1), .val (.ref b1), .val (.ref b59), .val (.int (3 : Int32))] [(.int (0 : Int32)), (.int (0 : Int32))])) (fun t k => X111.baloadBooleans hx (j := (3 : Int32)) (v := (.int (0 : Int32))) (by rw [e111]; exact Ar113.1) (State.isArrayOf_alike hZ.alike Ar113.2.1) Ar113.2.2 hin113 (Hs113.at hin113 rfl) (g := (mkF m 243 #[.val (.int p1), .val (.ref b1), .val (.ref b59), .val (.int (3 : Int32))] [(.int (3 : Int32)), (.ref b59), (.int (0 : Int32))])) rfl rfl (hb hby at_243) t k) ?_
    refine own_s (B := T111.setTop (mkF m 247 #[.val (.int p1), .val (.ref b1), .val (.ref b59), .val (.int (3 : Int32))] [])) (fun t k => XS.icmpNo X111.here hx rfl (hb hby at_244) rfl (teq rfl).2 k) ?_
    refine own_s (B := T111.setTop (mkF m 248 #[.val (.int p1), .val (.ref b1), .val (.ref b59), .val (.int (3 : Int32))] [(.int (1 : Int32))])) (fun t k => XS.iconst X111.here hx rfl (hb hby at_247) k) ?_
    refine own_s (B := T111.setTop (mkF m 252 #[.val (.int p1), .val (.ref b1), .val (.ref b59), .val (.int (3 : Int32))] [(.int (1 : Int32))])) (fun t k => XS.goto X111.here hx rfl (pc0 := 248) (pc' := 252) rfl (hb hby at_248) (by decide) (by decide) k) ?_
    exact own_retB X111 hx hlk (t := .boolean) Bd.returns (by simp) (hb hby at_252) (by decide) (by decide) ⟨rfl, N111⟩
  · refine own_s (B := T96.setTop (mkF m 235 #[.val (.int p1), .val (.ref b1), .val (.ref b59), .val (.int (4 : Int32))] [])) (fun t k => XS.istoreN X96.here hx rfl (hb hby at_234) rfl (l' := #[.val (.int p1), .val (.ref b1), .val (.ref b59), .val (.int (4 : Int32))]) rfl k) ?_
    refine own_s (B := T96.setTop (mkF m 236 #[.val (.int p1), .val (.ref b1), .val (.ref b59), .val (.int (4 : Int32))] [(.ref b1)])) (fun t k => XS.aloadN X96.here hx rfl (hb hby at_235) rfl rfl k) ?_
    refine own_s (B := T96.setTop (mkF m 237 #[.val (.int p1), .val (.ref b1), .val (.ref b59), .val (.int (4 : Int32))] [(.int (4 : Int32)), (.ref b1)])) (fun t k => XS.iloadN X96.here hx rfl (hb hby at_236) rfl k) ?_
    obtain ⟨cl114, Ar114, q114, Sz114, Nn114, Hs114, G114⟩ := id V_b1
    have hin114 : ¬ ((4 : Int32) < 0 ∨ cl114.slots.size ≤ ((4 : Int32)).toNatClampNeg) := inb_of Sz114 ⟨by decide, by decide⟩
    refine own_s (B := T96.setTop (mkF m 238 #[.val (.int p1), .val (.ref b1), .val (.ref b59), .val (.int (4 : Int32))] [(.ref (W (4 : Int32)))])) (fun t k => X96.aaload hx (j := (4 : Int32)) (v := (.ref (W (4 : Int32)))) (by rw [e96]; exact Ar114.1) (State.isArrayOf_alike hZ.alike Ar114.2.1) rfl Ar114.2.2 hin114 (Hs114.at hin114 rfl) (g := (mkF m 237 #[.val (.int p1), .val (.ref b1), .val (.ref b59), .val (.int (4 : Int32))] [(.int (4 : Int32)), (.ref b1)])) rfl rfl (hb hby at_237) t k) ?_
    obtain ⟨cq115, kq115, q115a, q115b, q115c⟩ := isOf hZ e96 ((XW (4 : Int32) (by decide) (by decide)).ext EX)
    obtain ⟨_, _, ⟨T115, L115, k115, n115⟩, -, X115, ⟨Lc115, hQ115, l115, y115, z115⟩, st115⟩ := X96.virtualBack hx (y := (⟨"com/example/tally/tally/XPathFunction", "isNumeric", "()Z"⟩ : MethodName)) (z := (⟨"com/example/tally/tally/XPathFunction", "isNumeric", "()Z"⟩ : MethodName)) hown (mvT hZ (hw _ (List.mem_of_getElem? (i := 44) rfl))) (mvT hZ (hw _ (List.mem_of_getElem? (i := 45) rfl))) (notFace_of_selects (args := #[]) (mvT hZ (hw _ (List.mem_of_getElem? (i := 47) rfl)))) (mvT hZ (hw _ (List.mem_of_getElem? (i := 47) rfl))) (mvT hZ (hw _ (List.mem_of_getElem? (i := 46) rfl))) (by decide) (backOf (W := 0) (rm1 l Z a0 hw [] (W (4 : Int32)) W (0 : Int32) h96 n0 (Nat.le_trans Z0 EX.1) (WS.ext EX EW) (own_b0 (fun q => q.elim (own_ne IW 4 0 (by decide)) (fun q => q.elim (own_ne IW 4 1 (by decide)) (fun q => q.elim (own_ne IW 4 2 (by decide)) (fun q => q.elim (own_ne IW 4 10 (by decide)) (own_ne IW 4 15 (by decide)))))))) hZ (hw _ (List.mem_of_getElem? (i := 48) rfl)) (hw _ (List.mem_of_getElem? (i := 3) rfl)) (by decide) (by decide)) q115a q115c (g := (mkF m 238 #[.val (.int p1), .val (.ref b1), .val (.ref b59), .val (.int (4 : Int32))] [(.ref (W (4 : Int32)))])) rfl (by rw [hml]; rfl) (Steps.refl _) (argsL := []) (rest := []) (lenOf pd_0 rfl) rfl (by show 2 * 0 + _ ≤ _; exact Nat.le_of_eq rfl) (hb hby at_238) (fun _ _ => ⟨rfl, e96, (by decide : 2 + 0 ≤ _), (by decide : 38 + 0 ≤ _)⟩)
    dsimp only [Pt.U, Pt.locs, Pt.cells, Pt.slots] at X115 l115 y115 z115 st115 hQ115
    subst l115 y115 z115
    obtain ⟨rfl, N115q, e115⟩ := hQ115
    have N115 := Fr.app N96 N115q
    obtain ⟨lq116, X115, N115⟩ := own_pack (cells := 2) (slots := 38) X115 N115
    refine own_s (B := T115.setTop (mkF m 241 #[.val (.int p1), .val (.ref b1), .val (.ref b59), .val (.int (4 : Int32))] [(.int (0 : Int32))])) (fun t k => st115.trans k) ?_
    refine own_s (B := T115.setTop (mkF m 242 #[.val (.int p1), .val (.ref b1), .val (.ref b59), .val (.int (4 : Int32))] [(.ref b59), (.int (0 : Int32))])) (fun t k => XS.aloadN X115.here hx rfl (hb hby at_241) rfl rfl k) ?_
    refine own_s (B := T115.setTop (mkF m 243 #[.val (.int p1), .val (.ref b1), .val (.ref b59), .val (.int (4 : Int32))] [(.int (4 : Int32)), (.ref b59), (.int (0 : Int32))])) (fun t k => XS.iloadN X115.here hx rfl (hb hby at_242) rfl k) ?_
    obtain ⟨cl117, Ar117, q117, Sz117, Nn117, Hs117, G117⟩ := id V_b59
    have hin117 : ¬ ((4 : Int32) < 0 ∨ cl117.slots.size ≤ ((4 : Int32)).toNatClampNeg) := inb_of Sz117 ⟨by decide, by decide⟩
    refine own_s (B := T115.setTop (mkF m 244 #[.val (.int p1), .val (.ref b1), .val (.ref b59), .val (.int (4 : Int32))] [(.int (0 : Int32)), (.int (0 : Int32))])) (fun t k => X115.baloadBooleans hx (j := (4 : Int32)) (v := (.int (0 : Int32))) (by rw [e115]; exact Ar117.1) (State.isArrayOf_alike hZ.alike Ar117.2.1) Ar117.2.2 hin117 (Hs117.at hin117 rfl) (g := (mkF m 243 #[.val (.int p1), .val (.ref b1), .val (.ref b59), .val (.int (4 : Int32))] [(.int (4 : Int32)), (.ref b59), (.int (0 : Int32))])) rfl rfl (hb hby at_243) t k) ?_
    refine own_s (B := T115.setTop (mkF m 247 #[.val (.int p1), .val (.ref b1), .val (.ref b59), .val (.int (4 : Int32))] [])) (fun t k => XS.icmpNo X115.here hx rfl (hb hby at_244) rfl (teq rfl).2 k) ?_
    refine own_s (B := T115.setTop (mkF m 248 #[.val (.int p1), .val (.ref b1), .val (.ref b59), .val (.int (4 : Int32))] [(.int (1 : Int32))])) (fun t k => XS.iconst X115.here hx rfl (hb hby at_247) k) ?_
    refine own_s (B := T115.setTop (mkF m 252 #[.val (.int p1), .val (.ref b1), .val (.ref b59), .val (.int (4 : Int32))] [(.int (1 : Int32))])) (fun t k => XS.goto X115.here hx rfl (pc0 := 248) (pc' := 252) rfl (hb hby at_248) (by decide) (by decide) k) ?_
    exact own_retB X115 hx hlk (t := .boolean) Bd.returns (by simp) (hb hby at_252) (by decide) (by decide) ⟨rfl, N115⟩
  · refine own_s (B := T96.setTop (mkF m 235 #[.val (.int p1), .val (.ref b1), .val (.ref b59), .val (.int (5 : Int32))] [])) (fun t k => XS.istoreN X96.here hx rfl (hb hby at_234) rfl (l' := #[.val (.int p1), .val (.ref b1), .val (.ref b59), .val (.int (5 : Int32))]) rfl k) ?_
    refine own_s (B := T96.setTop (mkF m 236 #[.val (.int p1), .val (.ref b1), .val (.ref b59), .val (.int (5 : Int32))] [(.ref b1)])) (fun t k => XS.aloadN X96.here hx rfl (hb hby at_235) rfl rfl k) ?_
    refine own_s (B := T96.setTop (mkF m 237 #[.val (.int p1), .val (.ref b1), .val (.ref b59), .val (.int (5 : Int32))] [(.int (5 : Int32)), (.ref b1)])) (fun t k => XS.iloadN X96.here hx rfl (hb hby at_236) rfl k) ?_
    obtain ⟨cl118, Ar118, q118, Sz118, Nn118, Hs118, G118⟩ := id V_b1
    have hin118 : ¬ ((5 : Int32) < 0 ∨ cl118.slots.size ≤ ((5 : Int32)).toNatClampNeg) := inb_of Sz118 ⟨by decide, by decide⟩
    refine own_s (B := T96.setTop (mkF m 238 #[.val (.int p1), .val (.ref b1), .val (.ref b59), .val (.int (5 : Int32))] [(.ref (W (5 : Int32)))])) (fun t k => X96.aaload hx (j := (5 : Int32)) (v := (.ref (W (5 : Int32)))) (by rw [e96]; exact Ar118.1) (State.isArrayOf_alike hZ.alike Ar118.2.1) rfl Ar118.2.2 hin118 (Hs118.at hin118 rfl) (g := (mkF m 237 #[.val (.int p1), .val (.ref b1), .val (.ref b59), .val (.int (5 : Int32))] [(.int (5 : Int32)), (.ref b1)])) rfl rfl (hb hby at_237) t k) ?_
    obtain ⟨cq119, kq119, q119a, q119b, q119c⟩ := isOf hZ e96 ((XW (5 : Int32) (by decide) (by decide)).ext EX)
    obtain ⟨_, _, ⟨T119, L119, k119, n119⟩, -, X119, ⟨Lc119, hQ119, l119, y119, z119⟩, st119⟩ := X96.virtualBack hx (y := (⟨"com/example/tally/tally/XPathFunction", "isNumeric", "()Z"⟩ : MethodName)) (z := (⟨"com/example/tally/tally/XPathFunction", "isNumeric", "()Z"⟩ : MethodName)) hown (mvT hZ (hw _ (List.mem_of_getElem? (i := 44) rfl))) (mvT hZ (hw _ (List.mem_of_getElem? (i := 45) rfl))) (notFace_of_selects (args := #[]) (mvT hZ (hw _ (List.mem_of_getElem? (i := 47) rfl)))) (mvT hZ (hw _ (List.mem_of_getElem? (i := 47) rfl))) (mvT hZ (hw _ (List.mem_of_getElem? (i := 46) rfl))) (by decide) (backOf (W := 0) (rm1 l Z a0 hw [] (W (5 : Int32)) W (0 : Int32) h96 n0 (Nat.le_trans Z0 EX.1) (WS.ext EX EW) (own_b0 (fun q => q.elim (own_ne IW 5 0 (by decide)) (fun q => q.elim (own_ne IW 5 1 (by decide)) (fun q => q.elim (own_ne IW 5 2 (by decide)) (fun q => q.elim (own_ne IW 5 10 (by decide)) (own_ne IW 5 15 (by decide)))))))) hZ (hw _ (List.mem_of_getElem? (i := 48) rfl)) (hw _ (List.mem_of_getElem? (i := 3) rfl)) (by decide) (by decide)) q119a q119c (g := (mkF m 238 #[.val (.int p1), .val (.ref b1), .val (.ref b59), .val (.int (5 : Int32))] [(.ref (W (5 : Int32)))])) rfl (by rw [hml]; rfl) (Steps.refl _) (argsL := []) (rest := []) (lenOf pd_0 rfl) rfl (by show 2 * 0 + _ ≤ _; exact Nat.le_of_eq rfl) (hb hby at_238) (fun _ _ => ⟨rfl, e96, (by decide : 2 + 0 ≤ _), (by decide : 38 + 0 ≤ _)⟩)
    dsimp only [Pt.U, Pt.locs, Pt.cells, Pt.slots] at X119 l119 y119 z119 st119 hQ119
    subst l119 y119 z119
    obtain ⟨rfl, N119q, e119⟩ := hQ119
    have N119 := Fr.app N96 N119q
    obtain ⟨lq120, X119, N119⟩ := own_pack (cells := 2) (slots := 38) X119 N119
    refine own_s (B := T119.setTop (mkF m 241 #[.val (.int p1), .val (.ref b1), .val (.ref b59), .val (.int (5 : Int32))] [(.int (0 : Int32))])) (fun t k => st119.trans k) ?_
    refine own_s (B := T119.setTop (mkF m 242 #[.val (.int p1), .val (.ref b1), .val (.ref b59), .val (.int (5 : Int32))] [(.ref b59), (.int (0 : Int32))])) (fun t k => XS.aloadN X119.here hx rfl (hb hby at_241) rfl rfl k) ?_
    refine own_s (B := T119.setTop (mkF m 243 #[.val (.int p1), .val (.ref b1), .val (.ref b59), .val (.int (5 : Int32))] [(.int (5 : Int32)), (.ref b59), (.int (0 : Int32))])) (fun t k => XS.iloadN X119.here hx rfl (hb hby at_242) rfl k) ?_
    obtain ⟨cl121, Ar121, q121, Sz121, Nn121, Hs121, G121⟩ := id V_b59
    have hin121 : ¬ ((5 : Int32) < 0 ∨ cl121.slots.size ≤ ((5 : Int32)).toNatClampNeg) := inb_of Sz121 ⟨by decide, by decide⟩
    refine own_s (B := T119.setTop (mkF m 244 #[.val (.int p1), .val (.ref b1), .val (.ref b59), .val (.int (5 : Int32))] [(.int (0 : Int32)), (.int (0 : Int32))])) (fun t k => X119.baloadBooleans hx (j := (5 : Int32)) (v := (.int (0 : Int32))) (by rw [e119]; exact Ar121.1) (State.isArrayOf_alike hZ.alike Ar121.2.1) Ar121.2.2 hin121 (Hs121.at hin121 rfl) (g := (mkF m 243 #[.val (.int p1), .val (.ref b1), .val (.ref b59), .val (.int (5 : Int32))] [(.int (5 : Int32)), (.ref b59), (.int (0 : Int32))])) rfl rfl (hb hby at_243) t k) ?_
    refine own_s (B := T119.setTop (mkF m 247 #[.val (.int p1), .val (.ref b1), .val (.ref b59), .val (.int (5 : Int32))] [])) (fun t k => XS.icmpNo X119.here hx rfl (hb hby at_244) rfl (teq rfl).2 k) ?_
    refine own_s (B := T119.setTop (mkF m 248 #[.val (.int p1), .val (.ref b1), .val (.ref b59), .val (.int (5 : Int32))] [(.int (1 : Int32))])) (fun t k => XS.iconst X119.here hx rfl (hb hby at_247) k) ?_
    refine own_s (B := T119.setTop (mkF m 252 #[.val (.int p1), .val (.ref b1), .val (.ref b59), .val (.int (5 : Int32))] [(.int (1 : Int32))])) (fun t k => XS.goto X119.here hx rfl (pc0 := 248) (pc' := 252) rfl (hb hby at_248) (by decide) (by decide) k) ?_
    exact own_retB X119 hx hlk (t := .boolean) Bd.returns (by simp) (hb hby at_252) (by decide) (by decide) ⟨rfl, N119⟩
  · refine own_s (B := T96.setTop (mkF m 235 #[.val (.int p1), .val (.ref b1), .val (.ref b59), .val (.int (6 : Int32))] [])) (fun t k => XS.istoreN X96.here hx rfl (hb hby at_234) rfl (l' := #[.val (.int p1), .val (.ref b1), .val (.ref b59), .val (.int (6 : Int32))]) rfl k) ?_
    refine own_s (B := T96.setTop (mkF m 236 #[.val (.int p1), .val (.ref b1), .val (.ref b59), .val (.int (6 : Int32))] [(.ref b1)])) (fun t k => XS.aloadN X96.here hx rfl (hb hby at_235) rfl rfl k) ?_
    refine own_s (B := T96.setTop (mkF m 237 #[.val (.int p1), .val (.ref b1), .val (.ref b59), .val (.int (6 : Int32))] [(.int (6 : Int32)), (.ref b1)])) (fun t k => XS.iloadN X96.here hx rfl (hb hby at_236) rfl k) ?_
    obtain ⟨cl122, Ar122, q122, Sz122, Nn122, Hs122, G122⟩ := id V_b1
    have hin122 : ¬ ((6 : Int32) < 0 ∨ cl122.slots.size ≤ ((6 : Int32)).toNatClampNeg) := inb_of Sz122 ⟨by decide, by decide⟩
    refine own_s (B := T96.setTop (mkF m 238 #[.val (.int p1), .val (.ref b1), .val (.ref b59), .val (.int (6 : Int32))] [(.ref (W (6 : Int32)))])) (fun t k => X96.aaload hx (j := (6 : Int32)) (v := (.ref (W (6 : Int32)))) (by rw [e96]; exact Ar122.1) (State.isArrayOf_alike hZ.alike Ar122.2.1) rfl Ar122.2.2 hin122 (Hs122.at hin122 rfl) (g := (mkF m 237 #[.val (.int p1), .val (.ref b1), .val (.ref b59), .val (.int (6 : Int32))] [(.int (6 : Int32)), (.ref b1)])) rfl rfl (hb hby at_237) t k) ?_
    obtain ⟨cq123, kq123, q123a, q123b, q123c⟩ := isOf hZ e96 ((XW (6 : Int32) (by decide) (by decide)).ext EX)
    obtain ⟨_, _, ⟨T123, L123, k123, n123⟩, -, X123, ⟨Lc123, hQ123, l123, y123, z123⟩, st123⟩ := X96.virtualBack hx (y := (⟨"com/example/tally/tally/XPathFunction", "isNumeric", "()Z"⟩ : MethodName)) (z := (⟨"com/example/tally/tally/XPathFunction", "isNumeric", "()Z"⟩ : MethodName)) hown (mvT hZ (hw _ (List.mem_of_getElem? (i := 44) rfl))) (mvT hZ (hw _ (List.mem_of_getElem? (i := 45) rfl))) (notFace_of_selects (args := #[]) (mvT hZ (hw _ (List.mem_of_getElem? (i := 47) rfl)))) (mvT hZ (hw _ (List.mem_of_getElem? (i := 47) rfl))) (mvT hZ (hw _ (List.mem_of_getElem? (i := 46) rfl))) (by decide) (backOf (W := 0) (rm1 l Z a0 hw [] (W (6 : Int32)) W (0 : Int32) h96 n0 (Nat.le_trans Z0 EX.1) (WS.ext EX EW) (own_b0 (fun q => q.elim (own_ne IW 6 0 (by decide)) (fun q => q.elim (own_ne IW 6 1 (by decide)) (fun q => q.elim (own_ne IW 6 2 (by decide)) (fun q => q.elim (own_ne IW 6 10 (by decide)) (own_ne IW 6 15 (by decide)))))))) hZ (hw _ (List.mem_of_getElem? (i := 48) rfl)) (hw _ (List.mem_of_getElem? (i := 3) rfl)) (by decide) (by decide)) q123a q123c (g := (mkF m 238 #[.val (.int p1), .val (.ref b1), .val (.ref b59), .val (.int (6 : Int32))] [(.ref (W (6 : Int32)))])) rfl (by rw [hml]; rfl) (Steps.refl _) (argsL := []) (rest := []) (lenOf pd_0 rfl) rfl (by show 2 * 0 + _ ≤ _; exact Nat.le_of_eq rfl) (hb hby at_238) (fun _ _ => ⟨rfl, e96, (by decide : 2 + 0 ≤ _), (by decide : 38 + 0 ≤ _)⟩)
    dsimp only [Pt.U, Pt.locs, Pt.cells, Pt.slots] at X123 l123 y123 z123 st123 hQ123
    subst l123 y123 z123
    obtain ⟨rfl, N123q, e123⟩ := hQ123
    have N123 := Fr.app N96 N123q
    obtain ⟨lq124, X123, N123⟩ := own_pack (cells := 2) (slots := 38) X123 N123
    refine own_s (B := T123.setTop (mkF m 241 #[.val (.int p1), .val (.ref b1), .val (.ref b59), .val (.int (6 : Int32))] [(.int (0 : Int32))])) (fun t k => st123.trans k) ?_
    refine own_s (B := T123.setTop (mkF m 242 #[.val (.int p1), .val (.ref b1), .val (.ref b59), .val (.int (6 : Int32))] [(.ref b59), (.int (0 : Int32))])) (fun t k => XS.aloadN X123.here hx rfl (hb hby at_241) rfl rfl k) ?_
    refine own_s (B := T123.setTop (mkF m 243 #[.val (.int p1), .val (.ref b1), .val (.ref b59), .val (.int (6 : Int32))] [(.int (6 : Int32)), (.ref b59), (.int (0 : Int32))])) (fun t k => XS.iloadN X123.here hx rfl (hb hby at_242) rfl k) ?_
    obtain ⟨cl125, Ar125, q125, Sz125, Nn125, Hs125, G125⟩ := id V_b59
    have hin125 : ¬ ((6 : Int32) < 0 ∨ cl125.slots.size ≤ ((6 : Int32)).toNatClampNeg) := inb_of Sz125 ⟨by decide, by decide⟩
    refine own_s (B := T123.setTop (mkF m 244 #[.val (.int p1), .val (.ref b1), .val (.ref b59), .val (.int (6 : Int32))] [(.int (0 : Int32)), (.int (0 : Int32))])) (fun t k => X123.baloadBooleans hx (j := (6 : Int32)) (v := (.int (0 : Int32))) (by rw [e123]; exact Ar125.1) (State.isArrayOf_alike hZ.alike Ar125.2.1) Ar125.2.2 hin125 (Hs125.at hin125 rfl) (g := (mkF m 243 #[.val (.int p1), .val (.ref b1), .val (.ref b59), .val (.int (6 : Int32))] [(.int (6 : Int32)), (.ref b59), (.int (0 : Int32))])) rfl rfl (hb hby at_243) t k) ?_
    refine own_s (B := T123.setTop (mkF m 247 #[.val (.int p1), .val (.ref b1), .val (.ref b59), .val (.int (6 : Int32))] [])) (fun t k => XS.icmpNo X123.here hx rfl (hb hby at_244) rfl (teq rfl).2 k) ?_
    refine own_s (B := T123.setTop (mkF m 248 #[.val (.int p1), .val (.ref b1), .val (.ref b59), .val (.int (6 : Int32))] [(.int (1 : Int32))])) (fun t k => XS.iconst X123.here hx rfl (hb hby at_247) k) ?_
    refine own_s (B := T123.setTop (mkF m 252 #[.val (.int p1), .val (.ref b1), .val (.ref b59), .val (.int (6 : Int32))] [(.int (1 : Int32))])) (fun t k => XS.goto X123.here hx rfl (pc0 := 248) (pc' := 252) rfl (hb hby at_248) (by decide) (by decide) k) ?_
    exact own_retB X123 hx hlk (t := .boolean) Bd.returns (by simp) (hb hby at_252) (by decide) (by decide) ⟨rfl, N123⟩
  · refine own_s (B := T96.setTop (mkF m 235 #[.val (.int p1), .val (.ref b1), .val (.ref b59), .val (.int (7 : Int32))] [])) (fun t k => XS.istoreN X96.here hx rfl (hb hby at_234) rfl (l' := #[.val (.int p1), .val (.ref b1), .val (.ref b59), .val (.int (7 : Int32))]) rfl k) ?_
    refine own_s (B := T96.setTop (mkF m 236 #[.val (.int p1), .val (.ref b1), .val (.ref b59), .val (.int (7 : Int32))] [(.ref b1)])) (fun t k => XS.aloadN X96.here hx rfl (hb hby at_235) rfl rfl k) ?_
    refine own_s (B := T96.setTop (mkF m 237 #[.val (.int p1), .val (.ref b1), .val (.ref b59), .val (.int (7 : Int32))] [(.int (7 : Int32)), (.ref b1)])) (fun t k => XS.iloadN X96.here hx rfl (hb hby at_236) rfl k) ?_
    obtain ⟨cl126, Ar126, q126, Sz126, Nn126, Hs126, G126⟩ := id V_b1
    have hin126 : ¬ ((7 : Int32) < 0 ∨ cl126.slots.size ≤ ((7 : Int32)).toNatClampNeg) := inb_of Sz126 ⟨by decide, by decide⟩
    refine own_s (B := T96.setTop (mkF m 238 #[.val (.int p1), .val (.ref b1), .val (.ref b59), .val (.int (7 : Int32))] [(.ref (W (7 : Int32)))])) (fun t k => X96.aaload hx (j := (7 : Int32)) (v := (.ref (W (7 : Int32)))) (by rw [e96]; exact Ar126.1) (State.isArrayOf_alike hZ.alike Ar126.2.1) rfl Ar126.2.2 hin126 (Hs126.at hin126 rfl) (g := (mkF m 237 #[.val (.int p1), .val (.ref b1), .val (.ref b59), .val (.int (7 : Int32))] [(.int (7 : Int32)), (.ref b1)])) rfl rfl (hb hby at_237) t k) ?_
    obtain ⟨cq127, kq127, q127a, q127b, q127c⟩ := isOf hZ e96 ((XW (7 : Int32) (by decide) (by decide)).ext EX)
    obtain ⟨_, _, ⟨T127, L127, k127, n127⟩, -, X127, ⟨Lc127, hQ127, l127, y127, z127⟩, st127⟩ := X96.virtualBack hx (y := (⟨"com/example/tally/tally/XPathFunction", "isNumeric", "()Z"⟩ : MethodName)) (z := (⟨"com/example/tally/tally/XPathFunction", "isNumeric", "()Z"⟩ : MethodName)) hown (mvT hZ (hw _ (List.mem_of_getElem? (i := 44) rfl))) (mvT hZ (hw _ (List.mem_of_getElem? (i := 45) rfl))) (notFace_of_selects (args := #[]) (mvT hZ (hw _ (List.mem_of_getElem? (i := 47) rfl)))) (mvT hZ (hw _ (List.mem_of_getElem? (i := 47) rfl))) (mvT hZ (hw _ (List.mem_of_getElem? (i := 46) rfl))) (by decide) (backOf (W := 0) (rm1 l Z a0 hw [] (W (7 : Int32)) W (0 : Int32) h96 n0 (Nat.le_trans Z0 EX.1) (WS.ext EX EW) (own_b0 (fun q => q.elim (own_ne IW 7 0 (by decide)) (fun q => q.elim (own_ne IW 7 1 (by decide)) (fun q => q.elim (own_ne IW 7 2 (by decide)) (fun q => q.elim (own_ne IW 7 10 (by decide)) (own_ne IW 7 15 (by decide)))))))) hZ (hw _ (List.mem_of_getElem? (i := 48) rfl)) (hw _ (List.mem_of_getElem? (i := 3) rfl)) (by decide) (by decide)) q127a q127c (g := (mkF m 238 #[.val (.int p1), .val (.ref b1), .val (.ref b59), .val (.int (7 : Int32))] [(.ref (W (7 : Int32)))])) rfl (by rw [hml]; rfl) (Steps.refl _) (argsL := []) (rest := []) (lenOf pd_0 rfl) rfl (by show 2 * 0 + _ ≤ _; exact Nat.le_of_eq rfl) (hb hby at_238) (fun _ _ => ⟨rfl, e96, (by decide : 2 + 0 ≤ _), (by decide : 38 + 0 ≤ _)⟩)
    dsimp only [Pt.U, Pt.locs, Pt.cells, Pt.slots] at X127 l127 y127 z127 st127 hQ127
    subst l127 y127 z127
    obtain ⟨rfl, N127q, e127⟩ := hQ127
    have N127 := Fr.app N96 N127q
    obtain ⟨lq128, X127, N127⟩ := own_pack (cells := 2) (slots := 38) X127 N127
    refine own_s (B := T127.setTop (mkF m 241 #[.val (.int p1), .val (.ref b1), .val (.ref b59), .val (.int (7 : Int32))] [(.int (0 : Int32))])) (fun t k => st127.trans k) ?_
    refine own_s (B := T127.setTop (mkF m 242 #[.val (.int p1), .val (.ref b1), .val (.ref b59), .val (.int (7 : Int32))] [(.ref b59), (.int (0 : Int32))])) (fun t k => XS.aloadN X127.here hx rfl (hb hby at_241) rfl rfl k) ?_
    refine own_s (B := T127.setTop (mkF m 243 #[.val (.int p1), .val (.ref b1), .val (.ref b59), .val (.int (7 : Int32))] [(.int (7 : Int32)), (.ref b59), (.int (0 : Int32))])) (fun t k => XS.iloadN X127.here hx rfl (hb hby at_242) rfl k) ?_
    obtain ⟨cl129, Ar129, q129, Sz129, Nn129, Hs129, G129⟩ := id V_b59
    have hin129 : ¬ ((7 : Int32) < 0 ∨ cl129.slots.size ≤ ((7 : Int32)).toNatClampNeg) := inb_of Sz129 ⟨by decide, by decide⟩
    refine own_s (B := T127.setTop (mkF m 244 #[.val (.int p1), .val (.ref b1), .val (.ref b59), .val (.int (7 : Int32))] [(.int (0 : Int32)), (.int (0 : Int32))])) (fun t k => X127.baloadBooleans hx (j := (7 : Int32)) (v := (.int (0 : Int32))) (by rw [e127]; exact Ar129.1) (State.isArrayOf_alike hZ.alike Ar129.2.1) Ar129.2.2 hin129 (Hs129.at hin129 rfl) (g := (mkF m 243 #[.val (.int p1), .val (.ref b1), .val (.ref b59), .val (.int (7 : Int32))] [(.int (7 : Int32)), (.ref b59), (.int (0 : Int32))])) rfl rfl (hb hby at_243) t k) ?_
    refine own_s (B := T127.setTop (mkF m 247 #[.val (.int p1), .val (.ref b1), .val (.ref b59), .val (.int (7 : Int32))] [])) (fun t k => XS.icmpNo X127.here hx rfl (hb hby at_244) rfl (teq rfl).2 k) ?_
    refine own_s (B := T127.setTop (mkF m 248 #[.val (.int p1), .val (.ref b1), .val (.ref b59), .val (.int (7 : Int32))] [(.int (1 : Int32))])) (fun t k => XS.iconst X127.here hx rfl (hb hby at_247) k) ?_
    refine own_s (B := T127.setTop (mkF m 252 #[.val (.int p1), .val (.ref b1), .val (.ref b59), .val (.int (7 : Int32))] [(.int (1 : Int32))])) (fun t k => XS.goto X127.here hx rfl (pc0 := 248) (pc' := 252) rfl (hb hby at_248) (by decide) (by decide) k) ?_
    exact own_retB X127 hx hlk (t := .boolean) Bd.returns (by simp) (hb hby at_252) (by decide) (by decide) ⟨rfl, N127⟩
  · refine own_s (B := T96.setTop (mkF m 235 #[.val (.int p1), .val (.ref b1), .val (.ref b59), .val (.int (8 : Int32))] [])) (fun t k => XS.istoreN X96.here hx rfl (hb hby at_234) rfl (l' := #[.val (.int p1), .val (.ref b1), .val (.ref b59), .val (.int (8 : Int32))]) rfl k) ?_
    refine own_s (B := T96.setTop (mkF m 236 #[.val (.int p1), .val (.ref b1), .val (.ref b59), .val (.int (8 : Int32))] [(.ref b1)])) (fun t k => XS.aloadN X96.here hx rfl (hb hby at_235) rfl rfl k) ?_
    refine own_s (B := T96.setTop (mkF m 237 #[.val (.int p1), .val (.ref b1), .val (.ref b59), .val (.int (8 : Int32))] [(.int (8 : Int32)), (.ref b1)])) (fun t k => XS.iloadN X96.here hx rfl (hb hby at_236) rfl k) ?_
    obtain ⟨cl130, Ar130, q130, Sz130, Nn130, Hs130, G130⟩ := id V_b1
    have hin130 : ¬ ((8 : Int32) < 0 ∨ cl130.slots.size ≤ ((8 : Int32)).toNatClampNeg) := inb_of Sz130 ⟨by decide, by decide⟩
    refine own_s (B := T96.setTop (mkF m 238 #[.val (.int p1), .val (.ref b1), .val (.ref b59), .val (.int (8 : Int32))] [(.ref (W (8 : Int32)))])) (fun t k => X96.aaload hx (j := (8 : Int32)) (v := (.ref (W (8 : Int32)))) (by rw [e96]; exact Ar130.1) (State.isArrayOf_alike hZ.alike Ar130.2.1) rfl Ar130.2.2 hin130 (Hs130.at hin130 rfl) (g := (mkF m 237 #[.val (.int p1), .val (.ref b1), .val (.ref b59), .val (.int (8 : Int32))] [(.int (8 : Int32)), (.ref b1)])) rfl rfl (hb hby at_237) t k) ?_
    obtain ⟨cq131, kq131, q131a, q131b, q131c⟩ := isOf hZ e96 ((XW (8 : Int32) (by decide) (by decide)).ext EX)
    obtain ⟨_, _, ⟨T131, L131, k131, n131⟩, -, X131, ⟨Lc131, hQ131, l131, y131, z131⟩, st131⟩ := X96.virtualBack hx (y := (⟨"com/example/tally/tally/XPathFunction", "isNumeric", "()Z"⟩ : MethodName)) (z := (⟨"com/example/tally/tally/XPathFunction", "isNumeric", "()Z"⟩ : MethodName)) hown (mvT hZ (hw _ (List.mem_of_getElem? (i := 44) rfl))) (mvT hZ (hw _ (List.mem_of_getElem? (i := 45) rfl))) (notFace_of_selects (args := #[]) (mvT hZ (hw _ (List.mem_of_getElem? (i := 47) rfl)))) (mvT hZ (hw _ (List.mem_of_getElem? (i := 47) rfl))) (mvT hZ (hw _ (List.mem_of_getElem? (i := 46) rfl))) (by decide) (backOf (W := 0) (rm1 l Z a0 hw [] (W (8 : Int32)) W (0 : Int32) h96 n0 (Nat.le_trans Z0 EX.1) (WS.ext EX EW) (own_b0 (fun q => q.elim (own_ne IW 8 0 (by decide)) (fun q => q.elim (own_ne IW 8 1 (by decide)) (fun q => q.elim (own_ne IW 8 2 (by decide)) (fun q => q.elim (own_ne IW 8 10 (by decide)) (own_ne IW 8 15 (by decide)))))))) hZ (hw _ (List.mem_of_getElem? (i := 48) rfl)) (hw _ (List.mem_of_getElem? (i := 3) rfl)) (by decide) (by decide)) q131a q131c (g := (mkF m 238 #[.val (.int p1), .val (.ref b1), .val (.ref b59), .val (.int (8 : Int32))] [(.ref (W (8 : Int32)))])) rfl (by rw [hml]; rfl) (Steps.refl _) (argsL := []) (rest := []) (lenOf pd_0 rfl) rfl (by show 2 * 0 + _ ≤ _; exact Nat.le_of_eq rfl) (hb hby at_238) (fun _ _ => ⟨rfl, e96, (by decide : 2 + 0 ≤ _), (by decide : 38 + 0 ≤ _)⟩)
    dsimp only [Pt.U, Pt.locs, Pt.cells, Pt.slots] at X131 l131 y131 z131 st131 hQ131
    subst l131 y131 z131
    obtain ⟨rfl, N131q, e131⟩ := hQ131
    have N131 := Fr.app N96 N131q
    obtain ⟨lq132, X131, N131⟩ := own_pack (cells := 2) (slots := 38) X131 N131
    refine own_s (B := T131.setTop (mkF m 241 #[.val (.int p1), .val (.ref b1), .val (.ref b59), .val (.int (8 : Int32))] [(.int (0 : Int32))])) (fun t k => st131.trans k) ?_
    refine own_s (B := T131.setTop (mkF m 242 #[.val (.int p1), .val (.ref b1), .val (.ref b59), .val (.int (8 : Int32))] [(.ref b59), (.int (0 : Int32))])) (fun t k => XS.aloadN X131.here hx rfl (hb hby at_241) rfl rfl k) ?_
    refine own_s (B := T131.setTop (mkF m 243 #[.val (.int p1), .val (.ref b1), .val (.ref b59), .val (.int (8 : Int32))] [(.int (8 : Int32)), (.ref b59), (.int (0 : Int32))])) (fun t k => XS.iloadN X131.here hx rfl (hb hby at_242) rfl k) ?_
    obtain ⟨cl133, Ar133, q133, Sz133, Nn133, Hs133, G133⟩ := id V_b59
    have hin133 : ¬ ((8 : Int32) < 0 ∨ cl133.slots.size ≤ ((8 : Int32)).toNatClampNeg) := inb_of Sz133 ⟨by decide, by decide⟩
    refine own_s (B := T131.setTop (mkF m 244 #[.val (.int p1), .val (.ref b1), .val (.ref b59), .val (.int (8 : Int32))] [(.int (0 : Int32)), (.int (0 : Int32))])) (fun t k => X131.baloadBooleans hx (j := (8 : Int32)) (v := (.int (0 : Int32))) (by rw [e131]; exact Ar133.1) (State.isArrayOf_alike hZ.alike Ar133.2.1) Ar133.2.2 hin133 (Hs133.at hin133 rfl) (g := (mkF m 243 #[.val (.int p1), .val (.ref b1), .val (.ref b59), .val (.int (8 : Int32))] [(.int (8 : Int32)), (.ref b59), (.int (0 : Int32))])) rfl rfl (hb hby at_243) t k) ?_
    refine own_s (B := T131.setTop (mkF m 247 #[.val (.int p1), .val (.ref b1), .val (.ref b59), .val (.int (8 : Int32))] [])) (fun t k => XS.icmpNo X131.here hx rfl (hb hby at_244) rfl (teq rfl).2 k) ?_
    refine own_s (B := T131.setTop (mkF m 248 #[.val (.int p1), .val (.ref b1), .val (.ref b59), .val (.int (8 : Int32))] [(.int (1 : Int32))])) (fun t k => XS.iconst X131.here hx rfl (hb hby at_247) k) ?_
    refine own_s (B := T131.setTop (mkF m 252 #[.val (.int p1), .val (.ref b1), .val (.ref b59), .val (.int (8 : Int32))] [(.int (1 : Int32))])) (fun t k => XS.goto X131.here hx rfl (pc0 := 248) (pc' := 252) rfl (hb hby at_248) (by decide) (by decide) k) ?_
    exact own_retB X131 hx hlk (t := .boolean) Bd.returns (by simp) (hb hby at_252) (by decide) (by decide) ⟨rfl, N131⟩
  · refine own_s (B := T96.setTop (mkF m 235 #[.val (.int p1), .val (.ref b1), .val (.ref b59), .val (.int (9 : Int32))] [])) (fun t k => XS.istoreN X96.here hx rfl (hb hby at_234) rfl (l' := #[.val (.int p1), .val (.ref b1), .val (.ref b59), .val (.int (9 : Int32))]) rfl k) ?_
    refine own_s (B := T96.setTop (mkF m 236 #[.val (.int p1), .val (.ref b1), .val (.ref b59), .val (.int (9 : Int32))] [(.ref b1)])) (fun t k => XS.aloadN X96.here hx rfl (hb hby at_235) rfl rfl k) ?_
    refine own_s (B := T96.setTop (mkF m 237 #[.val (.int p1), .val (.ref b1), .val (.ref b59), .val (.int (9 : Int32))] [(.int (9 : Int32)), (.ref b1)])) (fun t k => XS.iloadN X96.here hx rfl (hb hby at_236) rfl k) ?_
    obtain ⟨cl134, Ar134, q134, Sz134, Nn134, Hs134, G134⟩ := id V_b1
    have hin134 : ¬ ((9 : Int32) < 0 ∨ cl134.slots.size ≤ ((9 : Int32)).toNatClampNeg) := inb_of Sz134 ⟨by decide, by decide⟩
    refine own_s (B := T96.setTop (mkF m 238 #[.val (.int p1), .val (.ref b1), .val (.ref b59), .val (.int (9 : Int32))] [(.ref (W (9 : Int32)))])) (fun t k => X96.aaload hx (j := (9 : Int32)) (v := (.ref (W (9 : Int32)))) (by rw [e96]; exact Ar134.1) (State.isArrayOf_alike hZ.alike Ar134.2.1) rfl Ar134.2.2 hin134 (Hs134.at hin134 rfl) (g := (mkF m 237 #[.val (.int p1), .val (.ref b1), .val (.ref b59), .val (.int (9 : Int32))] [(.int (9 : Int32)), (.ref b1)])) rfl rfl (hb hby at_237) t k) ?_
    obtain ⟨cq135, kq135, q135a, q135b, q135c⟩ := isOf hZ e96 ((XW (9 : Int32) (by decide) (by decide)).ext EX)
    obtain ⟨_, _, ⟨T135, L135, k135, n135⟩, -, X135, ⟨Lc135, hQ135, l135, y135, z135⟩, st135⟩ := X96.virtualBack hx (y := (⟨"com/example/tally/tally/XPathFunction", "isNumeric", "()Z"⟩ : MethodName)) (z := (⟨"com/example/tally/tally/XPathFunction", "isNumeric", "()Z"⟩ : MethodName)) hown (mvT hZ (hw _ (List.mem_of_getElem? (i := 44) rfl))) (mvT hZ (hw _ (List.mem_of_getElem? (i := 45) rfl))) (notFace_of_selects (args := #[]) (mvT hZ (hw _ (List.mem_of_getElem? (i := 47) rfl)))) (mvT hZ (hw _ (List.mem_of_getElem? (i := 47) rfl))) (mvT hZ (hw _ (List.mem_of_getElem? (i := 46) rfl))) (by decide) (backOf (W := 0) (rm1 l Z a0 hw [] (W (9 : Int32)) W (0 : Int32) h96 n0 (Nat.le_trans Z0 EX.1) (WS.ext EX EW) (own_b0 (fun q => q.elim (own_ne IW 9 0 (by decide)) (fun q => q.elim (own_ne IW 9 1 (by decide)) (fun q => q.elim (own_ne IW 9 2 (by decide)) (fun q => q.elim (own_ne IW 9 10 (by decide)) (own_ne IW 9 15 (by decide)))))))) hZ (hw _ (List.mem_of_getElem? (i := 48) rfl)) (hw _ (List.mem_of_getElem? (i := 3) rfl)) (by decide) (by decide)) q135a q135c (g := (mkF m 238 #[.val (.int p1), .val (.ref b1), .val (.ref b59), .val (.int (9 : Int32))] [(.ref (W (9 : Int32)))])) rfl (by rw [hml]; rfl) (Steps.refl _) (argsL := []) (rest := []) (lenOf pd_0 rfl) rfl (by show 2 * 0 + _ ≤ _; exact Nat.le_of_eq rfl) (hb hby at_238) (fun _ _ => ⟨rfl, e96, (by decide : 2 + 0 ≤ _), (by decide : 38 + 0 ≤ _)⟩)
    dsimp only [Pt.U, Pt.locs, Pt.cells, Pt.slots] at X135 l135 y135 z135 st135 hQ135
    subst l135 y135 z135
    obtain ⟨rfl, N135q, e135⟩ := hQ135
    have N135 := Fr.app N96 N135q
    obtain ⟨lq136, X135, N135⟩ := own_pack (cells := 2) (slots := 38) X135 N135
    refine own_s (B := T135.setTop (mkF m 241 #[.val (.int p1), .val (.ref b1), .val (.ref b59), .val (.int (9 : Int32))] [(.int (0 : Int32))])) (fun t k => st135.trans k) ?_
    refine own_s (B := T135.setTop (mkF m 242 #[.val (.int p1), .val (.ref b1), .val (.ref b59), .val (.int (9 : Int32))] [(.ref b59), (.int (0 : Int32))])) (fun t k => XS.aloadN X135.here hx rfl (hb hby at_241) rfl rfl k) ?_
    refine own_s (B := T135.setTop (mkF m 243 #[.val (.int p1), .val (.ref b1), .val (.ref b59), .val (.int (9 : Int32))] [(.int (9 : Int32)), (.ref b59), (.int (0 : Int32))])) (fun t k => XS.iloadN X135.here hx rfl (hb hby at_242) rfl k) ?_
    obtain ⟨cl137, Ar137, q137, Sz137, Nn137, Hs137, G137⟩ := id V_b59
    have hin137 : ¬ ((9 : Int32) < 0 ∨ cl137.slots.size ≤ ((9 : Int32)).toNatClampNeg) := inb_of Sz137 ⟨by decide, by decide⟩
    refine own_s (B := T135.setTop (mkF m 244 #[.val (.int p1), .val (.ref b1), .val (.ref b59), .val (.int (9 : Int32))] [(.int (0 : Int32)), (.int (0 : Int32))])) (fun t k => X135.baloadBooleans hx (j := (9 : Int32)) (v := (.int (0 : Int32))) (by rw [e135]; exact Ar137.1) (State.isArrayOf_alike hZ.alike Ar137.2.1) Ar137.2.2 hin137 (Hs137.at hin137 rfl) (g := (mkF m 243 #[.val (.int p1), .val (.ref b1), .val (.ref b59), .val (.int (9 : Int32))] [(.int (9 : Int32)), (.ref b59), (.int (0 : Int32))])) rfl rfl (hb hby at_243) t k) ?_
    refine own_s (B := T135.setTop (mkF m 247 #[.val (.int p1), .val (.ref b1), .val (.ref b59), .val (.int (9 : Int32))] [])) (fun t k => XS.icmpNo X135.here hx rfl (hb hby at_244) rfl (teq rfl).2 k) ?_
    refine own_s (B := T135.setTop (mkF m 248 #[.val (.int p1), .val (.ref b1), .val (.ref b59), .val (.int (9 : Int32))] [(.int (1 : Int32))])) (fun t k => XS.iconst X135.here hx rfl (hb hby at_247) k) ?_
    refine own_s (B := T135.setTop (mkF m 252 #[.val (.int p1), .val (.ref b1), .val (.ref b59), .val (.int (9 : Int32))] [(.int (1 : Int32))])) (fun t k => XS.goto X135.here hx rfl (pc0 := 248) (pc' := 252) rfl (hb hby at_248) (by decide) (by decide) k) ?_
    exact own_retB X135 hx hlk (t := .boolean) Bd.returns (by simp) (hb hby at_252) (by decide) (by decide) ⟨rfl, N135⟩
  · refine own_s (B := T96.setTop (mkF m 235 #[.val (.int p1), .val (.ref b1), .val (.ref b59), .val (.int (10 : Int32))] [])) (fun t k => XS.istoreN X96.here hx rfl (hb hby at_234) rfl (l' := #[.val (.int p1), .val (.ref b1), .val (.ref b59), .val (.int (10 : Int32))]) rfl k) ?_
    refine own_s (B := T96.setTop (mkF m 236 #[.val (.int p1), .val (.ref b1), .val (.ref b59), .val (.int (10 : Int32))] [(.ref b1)])) (fun t k => XS.aloadN X96.here hx rfl (hb hby at_235) rfl rfl k) ?_
    refine own_s (B := T96.setTop (mkF m 237 #[.val (.int p1), .val (.ref b1), .val (.ref b59), .val (.int (10 : Int32))] [(.int (10 : Int32)), (.ref b1)])) (fun t k => XS.iloadN X96.here hx rfl (hb hby at_236) rfl k) ?_
    obtain ⟨cl138, Ar138, q138, Sz138, Nn138, Hs138, G138⟩ := id V_b1
    have hin138 : ¬ ((10 : Int32) < 0 ∨ cl138.slots.size ≤ ((10 : Int32)).toNatClampNeg) := inb_of Sz138 ⟨by decide, by decide⟩
    refine own_s (B := T96.setTop (mkF m 238 #[.val (.int p1), .val (.ref b1), .val (.ref b59), .val (.int (10 : Int32))] [(.ref (W (10 : Int32)))])) (fun t k => X96.aaload hx (j := (10 : Int32)) (v := (.ref (W (10 : Int32)))) (by rw [e96]; exact Ar138.1) (State.isArrayOf_alike hZ.alike Ar138.2.1) rfl Ar138.2.2 hin138 (Hs138.at hin138 rfl) (g := (mkF m 237 #[.val (.int p1), .val (.ref b1), .val (.ref b59), .val (.int (10 : Int32))] [(.int (10 : Int32)), (.ref b1)])) rfl rfl (hb hby at_237) t k) ?_
    obtain ⟨cq139, kq139, q139a, q139b, q139c⟩ := isOf hZ e96 ((XW (10 : Int32) (by decide) (by decide)).ext EX)
    obtain ⟨_, _, ⟨T139, L139, k139, n139⟩, -, X139, ⟨Lc139, hQ139, l139, y139, z139⟩, st139⟩ := X96.virtualBack hx (y := (⟨"com/example/tally/tally/XPathFunction", "isNumeric", "()Z"⟩ : MethodName)) (z := (⟨"com/example/tally/tally/XPathFunction", "isNumeric", "()Z"⟩ : MethodName)) hown (mvT hZ (hw _ (List.mem_of_getElem? (i := 44) rfl))) (mvT hZ (hw _ (List.mem_of_getElem? (i := 45) rfl))) (notFace_of_selects (args := #[]) (mvT hZ (hw _ (List.mem_of_getElem? (i := 47) rfl)))) (mvT hZ (hw _ (List.mem_of_getElem? (i := 47) rfl))) (mvT hZ (hw _ (List.mem_of_getElem? (i := 46) rfl))) (by decide) (backOf (W := 0) (rm1 l Z a0 hw [] (W (10 : Int32)) W (1 : Int32) h96 n0 (Nat.le_trans Z0 EX.1) (WS.ext EX EW) (own_b1 (Or.inr (Or.inr (Or.inr (Or.inl rfl)))))) hZ (hw _ (List.mem_of_getElem? (i := 48) rfl)) (hw _ (List.mem_of_getElem? (i := 3) rfl)) (by decide) (by decide)) q139a q139c (g := (mkF m 238 #[.val (.int p1), .val (.ref b1), .val (.ref b59), .val (.int (10 : Int32))] [(.ref (W (10 : Int32)))])) rfl (by rw [hml]; rfl) (Steps.refl _) (argsL := []) (rest := []) (lenOf pd_0 rfl) rfl (by show 2 * 0 + _ ≤ _; exact Nat.le_of_eq rfl) (hb hby at_238) (fun _ _ => ⟨rfl, e96, (by decide : 2 + 0 ≤ _), (by decide : 38 + 0 ≤ _)⟩)
    dsimp only [Pt.U, Pt.locs, Pt.cells, Pt.slots] at X139 l139 y139 z139 st139 hQ139
    subst l139 y139 z139
    obtain ⟨rfl, N139q, e139⟩ := hQ139
    have N139 := Fr.app N96 N139q
    obtain ⟨lq140, X139, N139⟩ := own_pack (cells := 2) (slots := 38) X139 N139
    refine own_s (B := T139.setTop (mkF m 241 #[.val (.int p1), .val (.ref b1), .val (.ref b59), .val (.int (10 : Int32))] [(.int (1 : Int32))])) (fun t k => st139.trans k) ?_
    refine own_s (B := T139.setTop (mkF m 242 #[.val (.int p1), .val (.ref b1), .val (.ref b59), .val (.int (10 : Int32))] [(.ref b59), (.int (1 : Int32))])) (fun t k => XS.aloadN X139.here hx rfl (hb hby at_241) rfl rfl k) ?_
    refine own_s (B := T139.setTop (mkF m 243 #[.val (.int p1), .val (.ref b1), .val (.ref b59), .val (.int (10 : Int32))] [(.int (10 : Int32)), (.ref b59), (.int (1 : Int32))])) (fun t k => XS.iloadN X139.here hx rfl (hb hby at_242) rfl k) ?_
    obtain ⟨cl141, Ar141, q141, Sz141, Nn141, Hs141, G141⟩ := id V_b59
    have hin141 : ¬ ((10 : Int32) < 0 ∨ cl141.slots.size ≤ ((10 : Int32)).toNatClampNeg) := inb_of Sz141 ⟨by decide, by decide⟩
    refine own_s (B := T139.setTop (mkF m 244 #[.val (.int p1), .val (.ref b1), .val (.ref b59), .val (.int (10 : Int32))] [(.int (1 : Int32)), (.int (1 : Int32))])) (fun t k => X139.baloadBooleans hx (j := (10 : Int32)) (v := (.int (1 : Int32))) (by rw [e139]; exact Ar141.1) (State.isArrayOf_alike hZ.alike Ar141.2.1) Ar141.2.2 hin141 (Hs141.at hin141 rfl) (g := (mkF m 243 #[.val (.int p1), .val (.ref b1), .val (.ref b59), .val (.int (10 : Int32))] [(.int (10 : Int32)), (.ref b59), (.int (1 : Int32))])) rfl rfl (hb hby at_243) t k) ?_
    refine own_s (B := T139.setTop (mkF m 247 #[.val (.int p1), .val (.ref b1), .val (.ref b59), .val (.int (10 : Int32))] [])) (fun t k => XS.icmpNo X139.here hx rfl (hb hby at_244) rfl (teq rfl).2 k) ?_
    refine own_s (B := T139.setTop (mkF m 248 #[.val (.int p1), .val (.ref b1), .val (.ref b59), .val (.int (10 : Int32))] [(.int (1 : Int32))])) (fun t k => XS.iconst X139.here hx rfl (hb hby at_247) k) ?_
    refine own_s (B := T139.setTop (mkF m 252 #[.val (.int p1), .val (.ref b1), .val (.ref b59), .val (.int (10 : Int32))] [(.int (1 : Int32))])) (fun t k => XS.goto X139.here hx rfl (pc0 := 248) (pc' := 252) rfl (hb hby at_248) (by decide) (by decide) k) ?_
    exact own_retB X139 hx hlk (t := .boolean) Bd.returns (by simp) (hb hby at_252) (by decide) (by decide) ⟨rfl, N139⟩
  · refine own_s (B := T96.setTop (mkF m 235 #[.val (.int p1), .val (.ref b1), .val (.ref b59), .val (.int (11 : Int32))] [])) (fun t k => XS.istoreN X96.here hx rfl (hb hby at_234) rfl (l' := #[.val (.int p1), .val (.ref b1), .val (.ref b59), .val (.int (11 : Int32))]) rfl k) ?_
    refine own_s (B := T96.setTop (mkF m 236 #[.val (.int p1), .val (.ref b1), .val (.ref b59), .val (.int (11 : Int32))] [(.ref b1)])) (fun t k => XS.aloadN X96.here hx rfl (hb hby at_235) rfl rfl k) ?_
    refine own_s (B := T96.setTop (mkF m 237 #[.val (.int p1), .val (.ref b1), .val (.ref b59), .val (.int (11 : Int32))] [(.int (11 : Int32)), (.ref b1)])) (fun t k => XS.iloadN X96.here hx rfl (hb hby at_236) rfl k) ?_
    obtain ⟨cl142, Ar142, q142, Sz142, Nn142, Hs142, G142⟩ := id V_b1
    have hin142 : ¬ ((11 : Int32) < 0 ∨ cl142.slots.size ≤ ((11 : Int32)).toNatClampNeg) := inb_of Sz142 ⟨by decide, by decide⟩
    refine own_s (B := T96.setTop (mkF m 238 #[.val (.int p1), .val (.ref b1), .val (.ref b59), .val (.int (11 : Int32))] [(.ref (W (11 : Int32)))])) (fun t k => X96.aaload hx (j := (11 : Int32)) (v := (.ref (W (11 : Int32)))) (by rw [e96]; exact Ar142.1) (State.isArrayOf_alike hZ.alike Ar142.2.1) rfl Ar142.2.2 hin142 (Hs142.at hin142 rfl) (g := (mkF m 237 #[.val (.int p1), .val (.ref b1), .val (.ref b59), .val (.int (11 : Int32))] [(.int (11 : Int32)), (.ref b1)])) rfl rfl (hb hby at_237) t k) ?_
    obtain ⟨cq143, kq143, q143a, q143b, q143c⟩ := isOf hZ e96 ((XW (11 : Int32) (by decide) (by decide)).ext EX)
    obtain ⟨_, _, ⟨T143, L143, k143, n143⟩, -, X143, ⟨Lc143, hQ143, l143, y143, z143⟩, st143⟩ := X96.virtualBack hx (y := (⟨"com/example/tally/tally/XPathFunction", "isNumeric", "()Z"⟩ : MethodName)) (z := (⟨"com/example/tally/tally/XPathFunction", "isNumeric", "()Z"⟩ : MethodName)) hown (mvT hZ (hw _ (List.mem_of_getElem? (i := 44) rfl))) (mvT hZ (hw _ (List.mem_of_getElem? (i := 45) rfl))) (notFace_of_selects (args := #[]) (mvT hZ (hw _ (List.mem_of_getElem? (i := 47) rfl)))) (mvT hZ (hw _ (List.mem_of_getElem? (i := 47) rfl))) (mvT hZ (hw _ (List.mem_of_getElem? (i := 46) rfl))) (by decide) (backOf (W := 0) (rm1 l Z a0 hw [] (W (11 : Int32)) W (0 : Int32) h96 n0 (Nat.le_trans Z0 EX.1) (WS.ext EX EW) (own_b0 (fun q => q.elim (own_ne IW 11 0 (by decide)) (fun q => q.elim (own_ne IW 11 1 (by decide)) (fun q => q.elim (own_ne IW 11 2 (by decide)) (fun q => q.elim (own_ne IW 11 10 (by decide)) (own_ne IW 11 15 (by decide)))))))) hZ (hw _ (List.mem_of_getElem? (i := 48) rfl)) (hw _ (List.mem_of_getElem? (i := 3) rfl)) (by decide) (by decide)) q143a q143c (g := (mkF m 238 #[.val (.int p1), .val (.ref b1), .val (.ref b59), .val (.int (11 : Int32))] [(.ref (W (11 : Int32)))])) rfl (by rw [hml]; rfl) (Steps.refl _) (argsL := []) (rest := []) (lenOf pd_0 rfl) rfl (by show 2 * 0 + _ ≤ _; exact Nat.le_of_eq rfl) (hb hby at_238) (fun _ _ => ⟨rfl, e96, (by decide : 2 + 0 ≤ _), (by decide : 38 + 0 ≤ _)⟩)
    dsimp only [Pt.U, Pt.locs, Pt.cells, Pt.slots] at X143 l143 y143 z143 st143 hQ143
    subst l143 y143 z143
    obtain ⟨rfl, N143q, e143⟩ := hQ143
    have N143 := Fr.app N96 N143q
    obtain ⟨lq144, X143, N143⟩ := own_pack (cells := 2) (slots := 38) X143 N143
    refine own_s (B := T143.setTop (mkF m 241 #[.val (.int p1), .val (.ref b1), .val (.ref b59), .val (.int (11 : Int32))] [(.int (0 : Int32))])) (fun t k => st143.trans k) ?_
    refine own_s (B := T143.setTop (mkF m 242 #[.val (.int p1), .val (.ref b1), .val (.ref b59), .val (.int (11 : Int32))] [(.ref b59), (.int (0 : Int32))])) (fun t k => XS.aloadN X143.here hx rfl (hb hby at_241) rfl rfl k) ?_
    refine own_s (B := T143.setTop (mkF m 243 #[.val (.int p1), .val (.ref b1), .val (.ref b59), .val (.int (11 : Int32))] [(.int (11 : Int32)), (.ref b59), (.int (0 : Int32))])) (fun t k => XS.iloadN X143.here hx rfl (hb hby at_242) rfl k) ?_
    obtain ⟨cl145, Ar145, q145, Sz145, Nn145, Hs145, G145⟩ := id V_b59
    have hin145 : ¬ ((11 : Int32) < 0 ∨ cl145.slots.size ≤ ((11 : Int32)).toNatClampNeg) := inb_of Sz145 ⟨by decide, by decide⟩
    refine own_s (B := T143.setTop (mkF m 244 #[.val (.int p1), .val (.ref b1), .val (.ref b59), .val (.int (11 : Int32))] [(.int (0 : Int32)), (.int (0 : Int32))])) (fun t k => X143.baloadBooleans hx (j := (11 : Int32)) (v := (.int (0 : Int32))) (by rw [e143]; exact Ar145.1) (State.isArrayOf_alike hZ.alike Ar145.2.1) Ar145.2.2 hin145 (Hs145.at hin145 rfl) (g := (mkF m 243 #[.val (.int p1), .val (.ref b1), .val (.ref b59), .val (.int (11 : Int32))] [(.int (11 : Int32)), (.ref b59), (.int (0 : Int32))])) rfl rfl (hb hby at_243) t k) ?_
    refine own_s (B := T143.setTop (mkF m 247 #[.val (.int p1), .val (.ref b1), .val (.ref b59), .val (.int (11 : Int32))] [])) (fun t k => XS.icmpNo X143.here hx rfl (hb hby at_244) rfl (teq rfl).2 k) ?_
    refine own_s (B := T143.setTop (mkF m 248 #[.val (.int p1), .val (.ref b1), .val (.ref b59), .val (.int (11 : Int32))] [(.int (1 : Int32))])) (fun t k => XS.iconst X143.here hx rfl (hb hby at_247) k) ?_
    refine own_s (B := T143.setTop (mkF m 252 #[.val (.int p1), .val (.ref b1), .val (.ref b59), .val (.int (11 : Int32))] [(.int (1 : Int32))])) (fun t k => XS.goto X143.here hx rfl (pc0 := 248) (pc' := 252) rfl (hb hby at_248) (by decide) (by decide) k) ?_
    exact own_retB X143 hx hlk (t := .boolean) Bd.returns (by simp) (hb hby at_252) (by decide) (by decide) ⟨rfl, N143⟩
  · refine own_s (B := T96.setTop (mkF m 235 #[.val (.int p1), .val (.ref b1), .val (.ref b59), .val (.int (12 : Int32))] [])) (fun t k => XS.istoreN X96.here hx rfl (hb hby at_234) rfl (l' := #[.val (.int p1), .val (.ref b1), .val (.ref b59), .val (.int (12 : Int32))]) rfl k) ?_
    refine own_s (B := T96.setTop (mkF m 236 #[.val (.int p1), .val (.ref b1), .val (.ref b59), .val (.int (12 : Int32))] [(.ref b1)])) (fun t k => XS.aloadN X96.here hx rfl (hb hby at_235) rfl rfl k) ?_
    refine own_s (B := T96.setTop (mkF m 237 #[.val (.int p1), .val (.ref b1), .val (.ref b59), .val (.int (12 : Int32))] [(.int (12 : Int32)), (.ref b1)])) (fun t k => XS.iloadN X96.here hx rfl (hb hby at_236) rfl k) ?_
    obtain ⟨cl146, Ar146, q146, Sz146, Nn146, Hs146, G146⟩ := id V_b1
    have hin146 : ¬ ((12 : Int32) < 0 ∨ cl146.slots.size ≤ ((12 : Int32)).toNatClampNeg) := inb_of Sz146 ⟨by decide, by decide⟩
    refine own_s (B := T96.setTop (mkF m 238 #[.val (.int p1), .val (.ref b1), .val (.ref b59), .val (.int (12 : Int32))] [(.ref (W (12 : Int32)))])) (fun t k => X96.aaload hx (j := (12 : Int32)) (v := (.ref (W (12 : Int32)))) (by rw [e96]; exact Ar146.1) (State.isArrayOf_alike hZ.alike Ar146.2.1) rfl Ar146.2.2 hin146 (Hs146.at hin146 rfl) (g := (mkF m 237 #[.val (.int p1), .val (.ref b1), .val (.ref b59), .val (.int (12 : Int32))] [(.int (12 : Int32)), (.ref b1)])) rfl rfl (hb hby at_237) t k) ?_
    obtain ⟨cq147, kq147, q147a, q147b, q147c⟩ := isOf hZ e96 ((XW (12 : Int32) (by decide) (by decide)).ext EX)
    obtain ⟨_, _, ⟨T147, L147, k147, n147⟩, -, X147, ⟨Lc147, hQ147, l147, y147, z147⟩, st147⟩ := X96.virtualBack hx (y := (⟨"com/example/tally/tally/XPathFunction", "isNumeric", "()Z"⟩ : MethodName)) (z := (⟨"com/example/tally/tally/XPathFunction", "isNumeric", "()Z"⟩ : MethodName)) hown (mvT hZ (hw _ (List.mem_of_getElem? (i := 44) rfl))) (mvT hZ (hw _ (List.mem_of_getElem? (i := 45) rfl))) (notFace_of_selects (args := #[]) (mvT hZ (hw _ (List.mem_of_getElem? (i := 47) rfl)))) (mvT hZ (hw _ (List.mem_of_getElem? (i := 47) rfl))) (mvT hZ (hw _ (List.mem_of_getElem? (i := 46) rfl))) (by decide) (backOf (W := 0) (rm1 l Z a0 hw [] (W (12 : Int32)) W (0 : Int32) h96 n0 (Nat.le_trans Z0 EX.1) (WS.ext EX EW) (own_b0 (fun q => q.elim (own_ne IW 12 0 (by decide)) (fun q => q.elim (own_ne IW 12 1 (by decide)) (fun q => q.elim (own_ne IW 12 2 (by decide)) (fun q => q.elim (own_ne IW 12 10 (by decide)) (own_ne IW 12 15 (by decide)))))))) hZ (hw _ (List.mem_of_getElem? (i := 48) rfl)) (hw _ (List.mem_of_getElem? (i := 3) rfl)) (by decide) (by decide)) q147a q147c (g := (mkF m 238 #[.val (.int p1), .val (.ref b1), .val (.ref b59), .val (.int (12 : Int32))] [(.ref (W (12 : Int32)))])) rfl (by rw [hml]; rfl) (Steps.refl _) (argsL := []) (rest := []) (lenOf pd_0 rfl) rfl (by show 2 * 0 + _ ≤ _; exact Nat.le_of_eq rfl) (hb hby at_238) (fun _ _ => ⟨rfl, e96, (by decide : 2 + 0 ≤ _), (by decide : 38 + 0 ≤ _)⟩)
    dsimp only [Pt.U, Pt.locs, Pt.cells, Pt.slots] at X147 l147 y147 z147 st147 hQ147
    subst l147 y147 z147
    obtain ⟨rfl, N147q, e147⟩ := hQ147
    have N147 := Fr.app N96 N147q
    obtain ⟨lq148, X147, N147⟩ := own_pack (cells := 2) (slots := 38) X147 N147
    refine own_s (B := T147.setTop (mkF m 241 #[.val (.int p1), .val (.ref b1), .val (.ref b59), .val (.int (12 : Int32))] [(.int (0 : Int32))])) (fun t k => st147.trans k) ?_
    refine own_s (B := T147.setTop (mkF m 242 #[.val (.int p1), .val (.ref b1), .val (.ref b59), .val (.int (12 : Int32))] [(.ref b59), (.int (0 : Int32))])) (fun t k => XS.aloadN X147.here hx rfl (hb hby at_241) rfl rfl k) ?_
    refine own_s (B := T147.setTop (mkF m 243 #[.val (.int p1), .val (.ref b1), .val (.ref b59), .val (.int (12 : Int32))] [(.int (12 : Int32)), (.ref b59), (.int (0 : Int32))])) (fun t k => XS.iloadN X147.here hx rfl (hb hby at_242) rfl k) ?_
    obtain ⟨cl149, Ar149, q149, Sz149, Nn149, Hs149, G149⟩ := id V_b59
    have hin149 : ¬ ((12 : Int32) < 0 ∨ cl149.slots.size ≤ ((12 : Int32)).toNatClampNeg) := inb_of Sz149 ⟨by decide, by decide⟩
    refine own_s (B := T147.setTop (mkF m 244 #[.val (.int p1), .val (.ref b1), .val (.ref b59), .val (.int (12 : Int32))] [(.int (0 : Int32)), (.int (0 : Int32))])) (fun t k => X147.baloadBooleans hx (j := (12 : Int32)) (v := (.int (0 : Int32))) (by rw [e147]; exact Ar149.1) (State.isArrayOf_alike hZ.alike Ar149.2.1) Ar149.2.2 hin149 (Hs149.at hin149 rfl) (g := (mkF m 243 #[.val (.int p1), .val (.ref b1), .val (.ref b59), .val (.int (12 : Int32))] [(.int (12 : Int32)), (.ref b59), (.int (0 : Int32))])) rfl rfl (hb hby at_243) t k) ?_
    refine own_s (B := T147.setTop (mkF m 247 #[.val (.int p1), .val (.ref b1), .val (.ref b59), .val (.int (12 : Int32))] [])) (fun t k => XS.icmpNo X147.here hx rfl (hb hby at_244) rfl (teq rfl).2 k) ?_
    refine own_s (B := T147.setTop (mkF m 248 #[.val (.int p1), .val (.ref b1), .val (.ref b59), .val (.int (12 : Int32))] [(.int (1 : Int32))])) (fun t k => XS.iconst X147.here hx rfl (hb hby at_247) k) ?_
    refine own_s (B := T147.setTop (mkF m 252 #[.val (.int p1), .val (.ref b1), .val (.ref b59), .val (.int (12 : Int32))] [(.int (1 : Int32))])) (fun t k => XS.goto X147.here hx rfl (pc0 := 248) (pc' := 252) rfl (hb hby at_248) (by decide) (by decide) k) ?_
    exact own_retB X147 hx hlk (t := .boolean) Bd.returns (by simp) (hb hby at_252) (by decide) (by decide) ⟨rfl, N147⟩
  · refine own_s (B := T96.setTop (mkF m 235 #[.val (.int p1), .val (.ref b1), .val (.ref b59), .val (.int (13 : Int32))] [])) (fun t k => XS.istoreN X96.here hx rfl (hb hby at_234) rfl (l' := #[.val (.int p1), .val (.ref b1), .val (.ref b59), .val (.int (13 : Int32))]) rfl k) ?_
    refine own_s (B := T96.setTop (mkF m 236 #[.val (.int p1), .val (.ref b1), .val (.ref b59), .val (.int (13 : Int32))] [(.ref b1)])) (fun t k => XS.aloadN X96.here hx rfl (hb hby at_235) rfl rfl k) ?_
    refine own_s (B := T96.setTop (mkF m 237 #[.val (.int p1), .val (.ref b1), .val (.ref b59), .val (.int (13 : Int32))] [(.int (13 : Int32)), (.ref b1)])) (fun t k => XS.iloadN X96.here hx rfl (hb hby at_236) rfl k) ?_
    obtain ⟨cl150, Ar150, q150, Sz150, Nn150, Hs150, G150⟩ := id V_b1
    have hin150 : ¬ ((13 : Int32) < 0 ∨ cl150.slots.size ≤ ((13 : Int32)).toNatClampNeg) := inb_of Sz150 ⟨by decide, by decide⟩
    refine own_s (B := T96.setTop (mkF m 238 #[.val (.int p1), .val (.ref b1), .val (.ref b59), .val (.int (13 : Int32))] [(.ref (W (13 : Int32)))])) (fun t k => X96.aaload hx (j := (13 : Int32)) (v := (.ref (W (13 : Int32)))) (by rw [e96]; exact Ar150.1) (State.isArrayOf_alike hZ.alike Ar150.2.1) rfl Ar150.2.2 hin150 (Hs150.at hin150 rfl) (g := (mkF m 237 #[.val (.int p1), .val (.ref b1), .val (.ref b59), .val (.int (13 : Int32))] [(.int (13 : Int32)), (.ref b1)])) rfl rfl (hb hby at_237) t k) ?_
    obtain ⟨cq151, kq151, q151a, q151b, q151c⟩ := isOf hZ e96 ((XW (13 : Int32) (by decide) (by decide)).ext EX)
    obtain ⟨_, _, ⟨T151, L151, k151, n151⟩, -, X151, ⟨Lc151, hQ151, l151, y151, z151⟩, st151⟩ := X96.virtualBack hx (y := (⟨"com/example/tally/tally/XPathFunction", "isNumeric", "()Z"⟩ : MethodName)) (z := (⟨"com/example/tally/tally/XPathFunction", "isNumeric", "()Z"⟩ : MethodName)) hown (mvT hZ (hw _ (List.mem_of_getElem? (i := 44) rfl))) (mvT hZ (hw _ (List.mem_of_getElem? (i := 45) rfl))) (notFace_of_selects (args := #[]) (mvT hZ (hw _ (List.mem_of_getElem? (i := 47) rfl)))) (mvT hZ (hw _ (List.mem_of_getElem? (i := 47) rfl))) (mvT hZ (hw _ (List.mem_of_getElem? (i := 46) rfl))) (by decide) (backOf (W := 0) (rm1 l Z a0 hw [] (W (13 : Int32)) W (0 : Int32) h96 n0 (Nat.le_trans Z0 EX.1) (WS.ext EX EW) (own_b0 (fun q => q.elim (own_ne IW 13 0 (by decide)) (fun q => q.elim (own_ne IW 13 1 (by decide)) (fun q => q.elim (own_ne IW 13 2 (by decide)) (fun q => q.elim (own_ne IW 13 10 (by decide)) (own_ne IW 13 15 (by decide)))))))) hZ (hw _ (List.mem_of_getElem? (i := 48) rfl)) (hw _ (List.mem_of_getElem? (i := 3) rfl)) (by decide) (by decide)) q151a q151c (g := (mkF m 238 #[.val (.int p1), .val (.ref b1), .val (.ref b59), .val (.int (13 : Int32))] [(.ref (W (13 : Int32)))])) rfl (by rw [hml]; rfl) (Steps.refl _) (argsL := []) (rest := []) (lenOf pd_0 rfl) rfl (by show 2 * 0 + _ ≤ _; exact Nat.le_of_eq rfl) (hb hby at_238) (fun _ _ => ⟨rfl, e96, (by decide : 2 + 0 ≤ _), (by decide : 38 + 0 ≤ _)⟩)
    dsimp only [Pt.U, Pt.locs, Pt.cells, Pt.slots] at X151 l151 y151 z151 st151 hQ151
    subst l151 y151 z151
    obtain ⟨rfl, N151q, e151⟩ := hQ151
    have N151 := Fr.app N96 N151q
    obtain ⟨lq152, X151, N151⟩ := own_pack (cells := 2) (slots := 38) X151 N151
    refine own_s (B := T151.setTop (mkF m 241 #[.val (.int p1), .val (.ref b1), .val (.ref b59), .val (.int (13 : Int32))] [(.int (0 : Int32))])) (fun t k => st151.trans k) ?_
    refine own_s (B := T151.setTop (mkF m 242 #[.val (.int p1), .val (.ref b1), .val (.ref b59), .val (.int (13 : Int32))] [(.ref b59), (.int (0 : Int32))])) (fun t k => XS.aloadN X151.here hx rfl (hb hby at_241) rfl rfl k) ?_
    refine own_s (B := T151.setTop (mkF m 243 #[.val (.int p1), .val (.ref b1), .val (.ref b59), .val (.int (13 : Int32))] [(.int (13 : Int32)), (.ref b59), (.int (0 : Int32))])) (fun t k => XS.iloadN X151.here hx rfl (hb hby at_242) rfl k) ?_
    obtain ⟨cl153, Ar153, q153, Sz153, Nn153, Hs153, G153⟩ := id V_b59
    have hin153 : ¬ ((13 : Int32) < 0 ∨ cl153.slots.size ≤ ((13 : Int32)).toNatClampNeg) := inb_of Sz153 ⟨by decide, by decide⟩
    refine own_s (B := T151.setTop (mkF m 244 #[.val (.int p1), .val (.ref b1), .val (.ref b59), .val (.int (13 : Int32))] [(.int (0 : Int32)), (.int (0 : Int32))])) (fun t k => X151.baloadBooleans hx (j := (13 : Int32)) (v := (.int (0 : Int32))) (by rw [e151]; exact Ar153.1) (State.isArrayOf_alike hZ.alike Ar153.2.1) Ar153.2.2 hin153 (Hs153.at hin153 rfl) (g := (mkF m 243 #[.val (.int p1), .val (.ref b1), .val (.ref b59), .val (.int (13 : Int32))] [(.int (13 : Int32)), (.ref b59), (.int (0 : Int32))])) rfl rfl (hb hby at_243) t k) ?_
    refine own_s (B := T151.setTop (mkF m 247 #[.val (.int p1), .val (.ref b1), .val (.ref b59), .val (.int (13 : Int32))] [])) (fun t k => XS.icmpNo X151.here hx rfl (hb hby at_244) rfl (teq rfl).2 k) ?_
    refine own_s (B := T151.setTop (mkF m 248 #[.val (.int p1), .val (.ref b1), .val (.ref b59), .val (.int (13 : Int32))] [(.int (1 : Int32))])) (fun t k => XS.iconst X151.here hx rfl (hb hby at_247) k) ?_
    refine own_s (B := T151.setTop (mkF m 252 #[.val (.int p1), .val (.ref b1), .val (.ref b59), .val (.int (13 : Int32))] [(.int (1 : Int32))])) (fun t k => XS.goto X151.here hx rfl (pc0 := 248) (pc' := 252) rfl (hb hby at_248) (by decide) (by decide) k) ?_
    exact own_retB X151 hx hlk (t := .boolean) Bd.returns (by simp) (hb hby at_252) (by decide) (by decide) ⟨rfl, N151⟩
  · refine own_s (B := T96.setTop (mkF m 235 #[.val (.int p1), .val (.ref b1), .val (.ref b59), .val (.int (14 : Int32))] [])) (fun t k => XS.istoreN X96.here hx rfl (hb hby at_234) rfl (l' := #[.val (.int p1), .val (.ref b1), .val (.ref b59), .val (.int (14 : Int32))]) rfl k) ?_
    refine own_s (B := T96.setTop (mkF m 236 #[.val (.int p1), .val (.ref b1), .val (.ref b59), .val (.int (14 : Int32))] [(.ref b1)])) (fun t k => XS.aloadN X96.here hx rfl (hb hby at_235) rfl rfl k) ?_
    refine own_s (B := T96.setTop (mkF m 237 #[.val (.int p1), .val (.ref b1), .val (.ref b59), .val (.int (14 : Int32))] [(.int (14 : Int32)), (.ref b1)])) (fun t k => XS.iloadN X96.here hx rfl (hb hby at_236) rfl k) ?_
    obtain ⟨cl154, Ar154, q154, Sz154, Nn154, Hs154, G154⟩ := id V_b1
    have hin154 : ¬ ((14 : Int32) < 0 ∨ cl154.slots.size ≤ ((14 : Int32)).toNatClampNeg) := inb_of Sz154 ⟨by decide, by decide⟩
    refine own_s (B := T96.setTop (mkF m 238 #[.val (.int p1), .val (.ref b1), .val (.ref b59), .val (.int (14 : Int32))] [(.ref (W (14 : Int32)))])) (fun t k => X96.aaload hx (j := (14 : Int32)) (v := (.ref (W (14 : Int32)))) (by rw [e96]; exact Ar154.1) (State.isArrayOf_alike hZ.alike Ar154.2.1) rfl Ar154.2.2 hin154 (Hs154.at hin154 rfl) (g := (mkF m 237 #[.val (.int p1), .val (.ref b1), .val (.ref b59), .val (.int (14 : Int32))] [(.int (14 : Int32)), (.ref b1)])) rfl rfl (hb hby at_237) t k) ?_
    obtain ⟨cq155, kq155, q155a, q155b, q155c⟩ := isOf hZ e96 ((XW (14 : Int32) (by decide) (by decide)).ext EX)
    obtain ⟨_, _, ⟨T155, L155, k155, n155⟩, -, X155, ⟨Lc155, hQ155, l155, y155, z155⟩, st155⟩ := X96.virtualBack hx (y := (⟨"com/example/tally/tally/XPathFunction", "isNumeric", "()Z"⟩ : MethodName)) (z := (⟨"com/example/tally/tally/XPathFunction", "isNumeric", "()Z"⟩ : MethodName)) hown (mvT hZ (hw _ (List.mem_of_getElem? (i := 44) rfl))) (mvT hZ (hw _ (List.mem_of_getElem? (i := 45) rfl))) (notFace_of_selects (args := #[]) (mvT hZ (hw _ (List.mem_of_getElem? (i := 47) rfl)))) (mvT hZ (hw _ (List.mem_of_getElem? (i := 47) rfl))) (mvT hZ (hw _ (List.mem_of_getElem? (i := 46) rfl))) (by decide) (backOf (W := 0) (rm1 l Z a0 hw [] (W (14 : Int32)) W (0 : Int32) h96 n0 (Nat.le_trans Z0 EX.1) (WS.ext EX EW) (own_b0 (fun q => q.elim (own_ne IW 14 0 (by decide)) (fun q => q.elim (own_ne IW 14 1 (by decide)) (fun q => q.elim (own_ne IW 14 2 (by decide)) (fun q => q.elim (own_ne IW 14 10 (by decide)) (own_ne IW 14 15 (by decide)))))))) hZ (hw _ (List.mem_of_getElem? (i := 48) rfl)) (hw _ (List.mem_of_getElem? (i := 3) rfl)) (by decide) (by decide)) q155a q155c (g := (mkF m 238 #[.val (.int p1), .val (.ref b1), .val (.ref b59), .val (.int (14 : Int32))] [(.ref (W (14 : Int32)))])) rfl (by rw [hml]; rfl) (Steps.refl _) (argsL := []) (rest := []) (lenOf pd_0 rfl) rfl (by show 2 * 0 + _ ≤ _; exact Nat.le_of_eq rfl) (hb hby at_238) (fun _ _ => ⟨rfl, e96, (by decide : 2 + 0 ≤ _), (by decide : 38 + 0 ≤ _)⟩)
    dsimp only [Pt.U, Pt.locs, Pt.cells, Pt.slots] at X155 l155 y155 z155 st155 hQ155
    subst l155 y155 z155
    obtain ⟨rfl, N155q, e155⟩ := hQ155
    have N155 := Fr.app N96 N155q
    obtain ⟨lq156, X155, N155⟩ := own_pack (cells := 2) (slots := 38) X155 N155
    refine own_s (B := T155.setTop (mkF m 241 #[.val (.int p1), .val (.ref b1), .val (.ref b59), .val (.int (14 : Int32))] [(.int (0 : Int32))])) (fun t k => st155.trans k) ?_
    refine own_s (B := T155.setTop (mkF m 242 #[.val (.int p1), .val (.ref b1), .val (.ref b59), .val (.int (14 : Int32))] [(.ref b59), (.int (0 : Int32))])) (fun t k => XS.aloadN X155.here hx rfl (hb hby at_241) rfl rfl k) ?_
    refine own_s (B := T155.setTop (mkF m 243 #[.val (.int p1), .val (.ref b1), .val (.ref b59), .val (.int (14 : Int32))] [(.int (14 : Int32)), (.ref b59), (.int (0 : Int32))])) (fun t k => XS.iloadN X155.here hx rfl (hb hby at_242) rfl k) ?_
    obtain ⟨cl157, Ar157, q157, Sz157, Nn157, Hs157, G157⟩ := id V_b59
    have hin157 : ¬ ((14 : Int32) < 0 ∨ cl157.slots.size ≤ ((14 : Int32)).toNatClampNeg) := inb_of Sz157 ⟨by decide, by decide⟩
    refine own_s (B := T155.setTop (mkF m 244 #[.val (.int p1), .val (.ref b1), .val (.ref b59), .val (.int (14 : Int32))] [(.int (0 : Int32)), (.int (0 : Int32))])) (fun t k => X155.baloadBooleans hx (j := (14 : Int32)) (v := (.int (0 : Int32))) (by rw [e155]; exact Ar157.1) (State.isArrayOf_alike hZ.alike Ar157.2.1) Ar157.2.2 hin157 (Hs157.at hin157 rfl) (g := (mkF m 243 #[.val (.int p1), .val (.ref b1), .val (.ref b59), .val (.int (14 : Int32))] [(.int (14 : Int32)), (.ref b59), (.int (0 : Int32))])) rfl rfl (hb hby at_243) t k) ?_
    refine own_s (B := T155.setTop (mkF m 247 #[.val (.int p1), .val (.ref b1), .val (.ref b59), .val (.int (14 : Int32))] [])) (fun t k => XS.icmpNo X155.here hx rfl (hb hby at_244) rfl (teq rfl).2 k) ?_
    refine own_s (B := T155.setTop (mkF m 248 #[.val (.int p1), .val (.ref b1), .val (.ref b59), .val (.int (14 : Int32))] [(.int (1 : Int32))])) (fun t k => XS.iconst X155.here hx rfl (hb hby at_247) k) ?_
    refine own_s (B := T155.setTop (mkF m 252 #[.val (.int p1), .val (.ref b1), .val (.ref b59), .val (.int (14 : Int32))] [(.int (1 : Int32))])) (fun t k => XS.goto X155.here hx rfl (pc0 := 248) (pc' := 252) rfl (hb hby at_248) (by decide) (by decide) k) ?_
    exact own_retB X155 hx hlk (t := .boolean) Bd.returns (by simp) (hb hby at_252) (by decide) (by decide) ⟨rfl, N155⟩
  · refine own_s (B := T96.setTop (mkF m 235 #[.val (.int p1), .val (.ref b1), .val (.ref b59), .val (.int (15 : Int32))] [])) (fun t k => XS.istoreN X96.here hx rfl (hb hby at_234) rfl (l' := #[.val (.int p1), .val (.ref b1), .val (.ref b59), .val (.int (15 : Int32))]) rfl k) ?_
    refine own_s (B := T96.setTop (mkF m 236 #[.val (.int p1), .val (.ref b1), .val (.ref b59), .val (.int (15 : Int32))] [(.ref b1)])) (fun t k => XS.aloadN X96.here hx rfl (hb hby at_235) rfl rfl k) ?_
    refine own_s (B := T96.setTop (mkF m 237 #[.val (.int p1), .val (.ref b1), .val (.ref b59), .val (.int (15 : Int32))] [(.int (15 : Int32)), (.ref b1)])) (fun t k => XS.iloadN X96.here hx rfl (hb hby at_236) rfl k) ?_
    obtain ⟨cl158, Ar158, q158, Sz158, Nn158, Hs158, G158⟩ := id V_b1
    have hin158 : ¬ ((15 : Int32) < 0 ∨ cl158.slots.size ≤ ((15 : Int32)).toNatClampNeg) := inb_of Sz158 ⟨by decide, by decide⟩
    refine own_s (B := T96.setTop (mkF m 238 #[.val (.int p1), .val (.ref b1), .val (.ref b59), .val (.int (15 : Int32))] [(.ref (W (15 : Int32)))])) (fun t k => X96.aaload hx (j := (15 : Int32)) (v := (.ref (W (15 : Int32)))) (by rw [e96]; exact Ar158.1) (State.isArrayOf_alike hZ.alike Ar158.2.1) rfl Ar158.2.2 hin158 (Hs158.at hin158 rfl) (g := (mkF m 237 #[.val (.int p1), .val (.ref b1), .val (.ref b59), .val (.int (15 : Int32))] [(.int (15 : Int32)), (.ref b1)])) rfl rfl (hb hby at_237) t k) ?_
    obtain ⟨cq159, kq159, q159a, q159b, q159c⟩ := isOf hZ e96 ((XW (15 : Int32) (by decide) (by decide)).ext EX)
    obtain ⟨_, _, ⟨T159, L159, k159, n159⟩, -, X159, ⟨Lc159, hQ159, l159, y159, z159⟩, st159⟩ := X96.virtualBack hx (y := (⟨"com/example/tally/tally/XPathFunction", "isNumeric", "()Z"⟩ : MethodName)) (z := (⟨"com/example/tally/tally/XPathFunction", "isNumeric", "()Z"⟩ : MethodName)) hown (mvT hZ (hw _ (List.mem_of_getElem? (i := 44) rfl))) (mvT hZ (hw _ (List.mem_of_getElem? (i := 45) rfl))) (notFace_of_selects (args := #[]) (mvT hZ (hw _ (List.mem_of_getElem? (i := 47) rfl)))) (mvT hZ (hw _ (List.mem_of_getElem? (i := 47) rfl))) (mvT hZ (hw _ (List.mem_of_getElem? (i := 46) rfl))) (by decide) (backOf (W := 0) (rm1 l Z a0 hw [] (W (15 : Int32)) W (1 : Int32) h96 n0 (Nat.le_trans Z0 EX.1) (WS.ext EX EW) (own_b1 (Or.inr (Or.inr (Or.inr (Or.inr rfl)))))) hZ (hw _ (List.mem_of_getElem? (i := 48) rfl)) (hw _ (List.mem_of_getElem? (i := 3) rfl)) (by decide) (by decide)) q159a q159c (g := (mkF m 238 #[.val (.int p1), .val (.ref b1), .val (.ref b59), .val (.int (15 : Int32))] [(.ref (W (15 : Int32)))])) rfl (by rw [hml]; rfl) (Steps.refl _) (argsL := []) (rest := []) (lenOf pd_0 rfl) rfl (by show 2 * 0 + _ ≤ _; exact Nat.le_of_eq rfl) (hb hby at_238) (fun _ _ => ⟨rfl, e96, (by decide : 2 + 0 ≤ _), (by decide : 38 + 0 ≤ _)⟩)
    dsimp only [Pt.U, Pt.locs, Pt.cells, Pt.slots] at X159 l159 y159 z159 st159 hQ159
    subst l159 y159 z159
    obtain ⟨rfl, N159q, e159⟩ := hQ159
    have N159 := Fr.app N96 N159q
    obtain ⟨lq160, X159, N159⟩ := own_pack (cells := 2) (slots := 38) X159 N159
    refine own_s (B := T159.setTop (mkF m 241 #[.val (.int p1), .val (.ref b1), .val (.ref b59), .val (.int (15 : Int32))] [(.int (1 : Int32))])) (fun t k => st159.trans k) ?_
    refine own_s (B := T159.setTop (mkF m 242 #[.val (.int p1), .val (.ref b1), .val (.ref b59), .val (.int (15 : Int32))] [(.ref b59), (.int (1 : Int32))])) (fun t k => XS.aloadN X159.here hx rfl (hb hby at_241) rfl rfl k) ?_
    refine own_s (B := T159.setTop (mkF m 243 #[.val (.int p1), .val (.ref b1), .val (.ref b59), .val (.int (15 : Int32))] [(.int (15 : Int32)), (.ref b59), (.int (1 : Int32))])) (fun t k => XS.iloadN X159.here hx rfl (hb hby at_242) rfl k) ?_
    obtain ⟨cl161, Ar161, q161, Sz161, Nn161, Hs161, G161⟩ := id V_b59
    have hin161 : ¬ ((15 : Int32) < 0 ∨ cl161.slots.size ≤ ((15 : Int32)).toNatClampNeg) := inb_of Sz161 ⟨by decide, by decide⟩
    refine own_s (B := T159.setTop (mkF m 244 #[.val (.int p1), .val (.ref b1), .val (.ref b59), .val (.int (15 : Int32))] [(.int (1 : Int32)), (.int (1 : Int32))])) (fun t k => X159.baloadBooleans hx (j := (15 : Int32)) (v := (.int (1 : Int32))) (by rw [e159]; exact Ar161.1) (State.isArrayOf_alike hZ.alike Ar161.2.1) Ar161.2.2 hin161 (Hs161.at hin161 rfl) (g := (mkF m 243 #[.val (.int p1), .val (.ref b1), .val (.ref b59), .val (.int (15 : Int32))] [(.int (15 : Int32)), (.ref b59), (.int (1 : Int32))])) rfl rfl (hb hby at_243) t k) ?_
    refine own_s (B := T159.setTop (mkF m 247 #[.val (.int p1), .val (.ref b1), .val (.ref b59), .val (.int (15 : Int32))] [])) (fun t k => XS.icmpNo X159.here hx rfl (hb hby at_244) rfl (teq rfl).2 k) ?_
    refine own_s (B := T159.setTop (mkF m 248 #[.val (.int p1), .val (.ref b1), .val (.ref b59), .val (.int (15 : Int32))] [(.int (1 : Int32))])) (fun t k => XS.iconst X159.here hx rfl (hb hby at_247) k) ?_
    refine own_s (B := T159.setTop (mkF m 252 #[.val (.int p1), .val (.ref b1), .val (.ref b59), .val (.int (15 : Int32))] [(.int (1 : Int32))])) (fun t k => XS.goto X159.here hx rfl (pc0 := 248) (pc' := 252) rfl (hb hby at_248) (by decide) (by decide) k) ?_
    exact own_retB X159 hx hlk (t := .boolean) Bd.returns (by simp) (hb hby at_252) (by decide) (by decide) ⟨rfl, N159⟩
  · refine own_s (B := T96.setTop (mkF m 235 #[.val (.int p1), .val (.ref b1), .val (.ref b59), .val (.int (16 : Int32))] [])) (fun t k => XS.istoreN X96.here hx rfl (hb hby at_234) rfl (l' := #[.val (.int p1), .val (.ref b1), .val (.ref b59), .val (.int (16 : Int32))]) rfl k) ?_
    refine own_s (B := T96.setTop (mkF m 236 #[.val (.int p1), .val (.ref b1), .val (.ref b59), .val (.int (16 : Int32))] [(.ref b1)])) (fun t k => XS.aloadN X96.here hx rfl (hb hby at_235) rfl rfl k) ?_
    refine own_s (B := T96.setTop (mkF m 237 #[.val (.int p1), .val (.ref b1), .val (.ref b59), .val (.int (16 : Int32))] [(.int (16 : Int32)), (.ref b1)])) (fun t k => XS.iloadN X96.here hx rfl (hb hby at_236) rfl k) ?_
    obtain ⟨cl162, Ar162, q162, Sz162, Nn162, Hs162, G162⟩ := id V_b1
    have hin162 : ¬ ((16 : Int32) < 0 ∨ cl162.slots.size ≤ ((16 : Int32)).toNatClampNeg) := inb_of Sz162 ⟨by decide, by decide⟩
    refine own_s (B := T96.setTop (mkF m 238 #[.val (.int p1), .val (.ref b1), .val (.ref b59), .val (.int (16 : Int32))] [(.ref (W (16 : Int32)))])) (fun t k => X96.aaload hx (j := (16 : Int32)) (v := (.ref (W (16 : Int32)))) (by rw [e96]; exact Ar162.1) (State.isArrayOf_alike hZ.alike Ar162.2.1) rfl Ar162.2.2 hin162 (Hs162.at hin162 rfl) (g := (mkF m 237 #[.val (.int p1), .val (.ref b1), .val (.ref b59), .val (.int (16 : Int32))] [(.int (16 : Int32)), (.ref b1)])) rfl rfl (hb hby at_237) t k) ?_
    obtain ⟨cq163, kq163, q163a, q163b, q163c⟩ := isOf hZ e96 ((XW (16 : Int32) (by decide) (by decide)).ext EX)
    obtain ⟨_, _, ⟨T163, L163, k163, n163⟩, -, X163, ⟨Lc163, hQ163, l163, y163, z163⟩, st163⟩ := X96.virtualBack hx (y := (⟨"com/example/tally/tally/XPathFunction", "isNumeric", "()Z"⟩ : MethodName)) (z := (⟨"com/example/tally/tally/XPathFunction", "isNumeric", "()Z"⟩ : MethodName)) hown (mvT hZ (hw _ (List.mem_of_getElem? (i := 44) rfl))) (mvT hZ (hw _ (List.mem_of_getElem? (i := 45) rfl))) (notFace_of_selects (args := #[]) (mvT hZ (hw _ (List.mem_of_getElem? (i := 47) rfl)))) (mvT hZ (hw _ (List.mem_of_getElem? (i := 47) rfl))) (mvT hZ (hw _ (List.mem_of_getElem? (i := 46) rfl))) (by decide) (backOf (W := 0) (rm1 l Z a0 hw [] (W (16 : Int32)) W (0 : Int32) h96 n0 (Nat.le_trans Z0 EX.1) (WS.ext EX EW) (own_b0 (fun q => q.elim (own_ne IW 16 0 (by decide)) (fun q => q.elim (own_ne IW 16 1 (by decide)) (fun q => q.elim (own_ne IW 16 2 (by decide)) (fun q => q.elim (own_ne IW 16 10 (by decide)) (own_ne IW 16 15 (by decide)))))))) hZ (hw _ (List.mem_of_getElem? (i := 48) rfl)) (hw _ (List.mem_of_getElem? (i := 3) rfl)) (by decide) (by decide)) q163a q163c (g := (mkF m 238 #[.val (.int p1), .val (.ref b1), .val (.ref b59), .val (.int (16 : Int32))] [(.ref (W (16 : Int32)))])) rfl (by rw [hml]; rfl) (Steps.refl _) (argsL := []) (rest := []) (lenOf pd_0 rfl) rfl (by show 2 * 0 + _ ≤ _; exact Nat.le_of_eq rfl) (hb hby at_238) (fun _ _ => ⟨rfl, e96, (by decide : 2 + 0 ≤ _), (by decide : 38 + 0 ≤ _)⟩)
    dsimp only [Pt.U, Pt.locs, Pt.cells, Pt.slots] at X163 l163 y163 z163 st163 hQ163
    subst l163 y163 z163
    obtain ⟨rfl, N163q, e163⟩ := hQ163
    have N163 := Fr.app N96 N163q
    obtain ⟨lq164, X163, N163⟩ := own_pack (cells := 2) (slots := 38) X163 N163
    refine own_s (B := T163.setTop (mkF m 241 #[.val (.int p1), .val (.ref b1), .val (.ref b59), .val (.int (16 : Int32))] [(.int (0 : Int32))])) (fun t k => st163.trans k) ?_
    refine own_s (B := T163.setTop (mkF m 242 #[.val (.int p1), .val (.ref b1), .val (.ref b59), .val (.int (16 : Int32))] [(.ref b59), (.int (0 : Int32))])) (fun t k => XS.aloadN X163.here hx rfl (hb hby at_241) rfl rfl k) ?_
    refine own_s (B := T163.setTop (mkF m 243 #[.val (.int p1), .val (.ref b1), .val (.ref b59), .val (.int (16 : Int32))] [(.int (16 : Int32)), (.ref b59), (.int (0 : Int32))])) (fun t k => XS.iloadN X163.here hx rfl (hb hby at_242) rfl k) ?_
    obtain ⟨cl165, Ar165, q165, Sz165, Nn165, Hs165, G165⟩ := id V_b59
    have hin165 : ¬ ((16 : Int32) < 0 ∨ cl165.slots.size ≤ ((16 : Int32)).toNatClampNeg) := inb_of Sz165 ⟨by decide, by decide⟩
    refine own_s (B := T163.setTop (mkF m 244 #[.val (.int p1), .val (.ref b1), .val (.ref b59), .val (.int (16 : Int32))] [(.int (0 : Int32)), (.int (0 : Int32))])) (fun t k => X163.baloadBooleans hx (j := (16 : Int32)) (v := (.int (0 : Int32))) (by rw [e163]; exact Ar165.1) (State.isArrayOf_alike hZ.alike Ar165.2.1) Ar165.2.2 hin165 (Hs165.at hin165 rfl) (g := (mkF m 243 #[.val (.int p1), .val (.ref b1), .val (.ref b59), .val (.int (16 : Int32))] [(.int (16 : Int32)), (.ref b59), (.int (0 : Int32))])) rfl rfl (hb hby at_243) t k) ?_
    refine own_s (B := T163.setTop (mkF m 247 #[.val (.int p1), .val (.ref b1), .val (.ref b59), .val (.int (16 : Int32))] [])) (fun t k => XS.icmpNo X163.here hx rfl (hb hby at_244) rfl (teq rfl).2 k) ?_
    refine own_s (B := T163.setTop (mkF m 248 #[.val (.int p1), .val (.ref b1), .val (.ref b59), .val (.int (16 : Int32))] [(.int (1 : Int32))])) (fun t k => XS.iconst X163.here hx rfl (hb hby at_247) k) ?_
    refine own_s (B := T163.setTop (mkF m 252 #[.val (.int p1), .val (.ref b1), .val (.ref b59), .val (.int (16 : Int32))] [(.int (1 : Int32))])) (fun t k => XS.goto X163.here hx rfl (pc0 := 248) (pc' := 252) rfl (hb hby at_248) (by decide) (by decide) k) ?_
    exact own_retB X163 hx hlk (t := .boolean) Bd.returns (by simp) (hb hby at_252) (by decide) (by decide) ⟨rfl, N163⟩
  · refine own_s (B := T96.setTop (mkF m 235 #[.val (.int p1), .val (.ref b1), .val (.ref b59), .val (.int (17 : Int32))] [])) (fun t k => XS.istoreN X96.here hx rfl (hb hby at_234) rfl (l' := #[.val (.int p1), .val (.ref b1), .val (.ref b59), .val (.int (17 : Int32))]) rfl k) ?_
    refine own_s (B := T96.setTop (mkF m 236 #[.val (.int p1), .val (.ref b1), .val (.ref b59), .val (.int (17 : Int32))] [(.ref b1)])) (fun t k => XS.aloadN X96.here hx rfl (hb hby at_235) rfl rfl k) ?_
    refine own_s (B := T96.setTop (mkF m 237 #[.val (.int p1), .val (.ref b1), .val (.ref b59), .val (.int (17 : Int32))] [(.int (17 : Int32)), (.ref b1)])) (fun t k => XS.iloadN X96.here hx rfl (hb hby at_236) rfl k) ?_
    obtain ⟨cl166, Ar166, q166, Sz166, Nn166, Hs166, G166⟩ := id V_b1
    have hin166 : ¬ ((17 : Int32) < 0 ∨ cl166.slots.size ≤ ((17 : Int32)).toNatClampNeg) := inb_of Sz166 ⟨by decide, by decide⟩
    refine own_s (B := T96.setTop (mkF m 238 #[.val (.int p1), .val (.ref b1), .val (.ref b59), .val (.int (17 : Int32))] [(.ref (W (17 : Int32)))])) (fun t k => X96.aaload hx (j := (17 : Int32)) (v := (.ref (W (17 : Int32)))) (by rw [e96]; exact Ar166.1) (State.isArrayOf_alike hZ.alike Ar166.2.1) rfl Ar166.2.2 hin166 (Hs166.at hin166 rfl) (g := (mkF m 237 #[.val (.int p1), .val (.ref b1), .val (.ref b59), .val (.int (17 : Int32))] [(.int (17 : Int32)), (.ref b1)])) rfl rfl (hb hby at_237) t k) ?_
    obtain ⟨cq167, kq167, q167a, q167b, q167c⟩ := isOf hZ e96 ((XW (17 : Int32) (by decide) (by decide)).ext EX)
    obtain ⟨_, _, ⟨T167, L167, k167, n167⟩, -, X167, ⟨Lc167, hQ167, l167, y167, z167⟩, st167⟩ := X96.virtualBack hx (y := (⟨"com/example/tally/tally/XPathFunction", "isNumeric", "()Z"⟩ : MethodName)) (z := (⟨"com/example/tally/tally/XPathFunction", "isNumeric", "()Z"⟩ : MethodName)) hown (mvT hZ (hw _ (List.mem_of_getElem? (i := 44) rfl))) (mvT hZ (hw _ (List.mem_of_getElem? (i := 45) rfl))) (notFace_of_selects (args := #[]) (mvT hZ (hw _ (List.mem_of_getElem? (i := 47) rfl)))) (mvT hZ (hw _ (List.mem_of_getElem? (i := 47) rfl))) (mvT hZ (hw _ (List.mem_of_getElem? (i := 46) rfl))) (by decide) (backOf (W := 0) (rm1 l Z a0 hw [] (W (17 : Int32)) W (0 : Int32) h96 n0 (Nat.le_trans Z0 EX.1) (WS.ext EX EW) (own_b0 (fun q => q.elim (own_ne IW 17 0 (by decide)) (fun q => q.elim (own_ne IW 17 1 (by decide)) (fun q => q.elim (own_ne IW 17 2 (by decide)) (fun q => q.elim (own_ne IW 17 10 (by decide)) (own_ne IW 17 15 (by decide)))))))) hZ (hw _ (List.mem_of_getElem? (i := 48) rfl)) (hw _ (List.mem_of_getElem? (i := 3) rfl)) (by decide) (by decide)) q167a q167c (g := (mkF m 238 #[.val (.int p1), .val (.ref b1), .val (.ref b59), .val (.int (17 : Int32))] [(.ref (W (17 : Int32)))])) rfl (by rw [hml]; rfl) (Steps.refl _) (argsL := []) (rest := []) (lenOf pd_0 rfl) rfl (by show 2 * 0 + _ ≤ _; exact Nat.le_of_eq rfl) (hb hby at_238) (fun _ _ => ⟨rfl, e96, (by decide : 2 + 0 ≤ _), (by decide : 38 + 0 ≤ _)⟩)
    dsimp only [Pt.U, Pt.locs, Pt.cells, Pt.slots] at X167 l167 y167 z167 st167 hQ167
    subst l167 y167 z167
    obtain ⟨rfl, N167q, e167⟩ := hQ167
    have N167 := Fr.app N96 N167q
    obtain ⟨lq168, X167, N167⟩ := own_pack (cells := 2) (slots := 38) X167 N167
    refine own_s (B := T167.setTop (mkF m 241 #[.val (.int p1), .val (.ref b1), .val (.ref b59), .val (.int (17 : Int32))] [(.int (0 : Int32))])) (fun t k => st167.trans k) ?_
    refine own_s (B := T167.setTop (mkF m 242 #[.val (.int p1), .val (.ref b1), .val (.ref b59), .val (.int (17 : Int32))] [(.ref b59), (.int (0 : Int32))])) (fun t k => XS.aloadN X167.here hx rfl (hb hby at_241) rfl rfl k) ?_
    refine own_s (B := T167.setTop (mkF m 243 #[.val (.int p1), .val (.ref b1), .val (.ref b59), .val (.int (17 : Int32))] [(.int (17 : Int32)), (.ref b59), (.int (0 : Int32))])) (fun t k => XS.iloadN X167.here hx rfl (hb hby at_242) rfl k) ?_
    obtain ⟨cl169, Ar169, q169, Sz169, Nn169, Hs169, G169⟩ := id V_b59
    have hin169 : ¬ ((17 : Int32) < 0 ∨ cl169.slots.size ≤ ((17 : Int32)).toNatClampNeg) := inb_of Sz169 ⟨by decide, by decide⟩
    refine own_s (B := T167.setTop (mkF m 244 #[.val (.int p1), .val (.ref b1), .val (.ref b59), .val (.int (17 : Int32))] [(.int (0 : Int32)), (.int (0 : Int32))])) (fun t k => X167.baloadBooleans hx (j := (17 : Int32)) (v := (.int (0 : Int32))) (by rw [e167]; exact Ar169.1) (State.isArrayOf_alike hZ.alike Ar169.2.1) Ar169.2.2 hin169 (Hs169.at hin169 rfl) (g := (mkF m 243 #[.val (.int p1), .val (.ref b1), .val (.ref b59), .val (.int (17 : Int32))] [(.int (17 : Int32)), (.ref b59), (.int (0 : Int32))])) rfl rfl (hb hby at_243) t k) ?_
    refine own_s (B := T167.setTop (mkF m 247 #[.val (.int p1), .val (.ref b1), .val (.ref b59), .val (.int (17 : Int32))] [])) (fun t k => XS.icmpNo X167.here hx rfl (hb hby at_244) rfl (teq rfl).2 k) ?_
    refine own_s (B := T167.setTop (mkF m 248 #[.val (.int p1), .val (.ref b1), .val (.ref b59), .val (.int (17 : Int32))] [(.int (1 : Int32))])) (fun t k => XS.iconst X167.here hx rfl (hb hby at_247) k) ?_
    refine own_s (B := T167.setTop (mkF m 252 #[.val (.int p1), .val (.ref b1), .val (.ref b59), .val (.int (17 : Int32))] [(.int (1 : Int32))])) (fun t k => XS.goto X167.here hx rfl (pc0 := 248) (pc' := 252) rfl (hb hby at_248) (by decide) (by decide) k) ?_
    exact own_retB X167 hx hlk (t := .boolean) Bd.returns (by simp) (hb hby at_252) (by decide) (by decide) ⟨rfl, N167⟩
  · refine own_s (B := T96.setTop (mkF m 235 #[.val (.int p1), .val (.ref b1), .val (.ref b59), .val (.int (18 : Int32))] [])) (fun t k => XS.istoreN X96.here hx rfl (hb hby at_234) rfl (l' := #[.val (.int p1), .val (.ref b1), .val (.ref b59), .val (.int (18 : Int32))]) rfl k) ?_
    refine own_s (B := T96.setTop (mkF m 236 #[.val (.int p1), .val (.ref b1), .val (.ref b59), .val (.int (18 : Int32))] [(.ref b1)])) (fun t k => XS.aloadN X96.here hx rfl (hb hby at_235) rfl rfl k) ?_
    refine own_s (B := T96.setTop (mkF m 237 #[.val (.int p1), .val (.ref b1), .val (.ref b59), .val (.int (18 : Int32))] [(.int (18 : Int32)), (.ref b1)])) (fun t k => XS.iloadN X96.here hx rfl (hb hby at_236) rfl k) ?_
    obtain ⟨cl170, Ar170, q170, Sz170, Nn170, Hs170, G170⟩ := id V_b1
    have hin170 : ¬ ((18 : Int32) < 0 ∨ cl170.slots.size ≤ ((18 : Int32)).toNatClampNeg) := inb_of Sz170 ⟨by decide, by decide⟩
    refine own_s (B := T96.setTop (mkF m 238 #[.val (.int p1), .val (.ref b1), .val (.ref b59), .val (.int (18 : Int32))] [(.ref (W (18 : Int32)))])) (fun t k => X96.aaload hx (j := (18 : Int32)) (v := (.ref (W (18 : Int32)))) (by rw [e96]; exact Ar170.1) (State.isArrayOf_alike hZ.alike Ar170.2.1) rfl Ar170.2.2 hin170 (Hs170.at hin170 rfl) (g := (mkF m 237 #[.val (.int p1), .val (.ref b1), .val (.ref b59), .val (.int (18 : Int32))] [(.int (18 : Int32)), (.ref b1)])) rfl rfl (hb hby at_237) t k) ?_
    obtain ⟨cq171, kq171, q171a, q171b, q171c⟩ := isOf hZ e96 ((XW (18 : Int32) (by decide) (by decide)).ext EX)
    obtain ⟨_, _, ⟨T171, L171, k171, n171⟩, -, X171, ⟨Lc171, hQ171, l171, y171, z171⟩, st171⟩ := X96.virtualBack hx (y := (⟨"com/example/tally/tally/XPathFunction", "isNumeric", "()Z"⟩ : MethodName)) (z := (⟨"com/example/tally/tally/XPathFunction", "isNumeric", "()Z"⟩ : MethodName)) hown (mvT hZ (hw _ (List.mem_of_getElem? (i := 44) rfl))) (mvT hZ (hw _ (List.mem_of_getElem? (i := 45) rfl))) (notFace_of_selects (args := #[]) (mvT hZ (hw _ (List.mem_of_getElem? (i := 47) rfl)))) (mvT hZ (hw _ (List.mem_of_getElem? (i := 47) rfl))) (mvT hZ (hw _ (List.mem_of_getElem? (i := 46) rfl))) (by decide) (backOf (W := 0) (rm1 l Z a0 hw [] (W (18 : Int32)) W (0 : Int32) h96 n0 (Nat.le_trans Z0 EX.1) (WS.ext EX EW) (own_b0 (fun q => q.elim (own_ne IW 18 0 (by decide)) (fun q => q.elim (own_ne IW 18 1 (by decide)) (fun q => q.elim (own_ne IW 18 2 (by decide)) (fun q => q.elim (own_ne IW 18 10 (by decide)) (own_ne IW 18 15 (by decide)))))))) hZ (hw _ (List.mem_of_getElem? (i := 48) rfl)) (hw _ (List.mem_of_getElem? (i := 3) rfl)) (by decide) (by decide)) q171a q171c (g := (mkF m 238 #[.val (.int p1), .val (.ref b1), .val (.ref b59), .val (.int (18 : Int32))] [(.ref (W (18 : Int32)))])) rfl (by rw [hml]; rfl) (Steps.refl _) (argsL := []) (rest := []) (lenOf pd_0 rfl) rfl (by show 2 * 0 + _ ≤ _; exact Nat.le_of_eq rfl) (hb hby at_238) (fun _ _ => ⟨rfl, e96, (by decide : 2 + 0 ≤ _), (by decide : 38 + 0 ≤ _)⟩)
    dsimp only [Pt.U, Pt.locs, Pt.cells, Pt.slots] at X171 l171 y171 z171 st171 hQ171
    subst l171 y171 z171
    obtain ⟨rfl, N171q, e171⟩ := hQ171
    have N171 := Fr.app N96 N171q
    obtain ⟨lq172, X171, N171⟩ := own_pack (cells := 2) (slots := 38) X171 N171
    refine own_s (B := T171.setTop (mkF m 241 #[.val (.int p1), .val (.ref b1), .val (.ref b59), .val (.int (18 : Int32))] [(.int (0 : Int32))])) (fun t k => st171.trans k) ?_
    refine own_s (B := T171.setTop (mkF m 242 #[.val (.int p1), .val (.ref b1), .val (.ref b59), .val (.int (18 : Int32))] [(.ref b59), (.int (0 : Int32))])) (fun t k => XS.aloadN X171.here hx rfl (hb hby at_241) rfl rfl k) ?_
    refine own_s (B := T171.setTop (mkF m 243 #[.val (.int p1), .val (.ref b1), .val (.ref b59), .val (.int (18 : Int32))] [(.int (18 : Int32)), (.ref b59), (.int (0 : Int32))])) (fun t k => XS.iloadN X171.here hx rfl (hb hby at_242) rfl k) ?_
    obtain ⟨cl173, Ar173, q173, Sz173, Nn173, Hs173, G173⟩ := id V_b59
    have hin173 : ¬ ((18 : Int32) < 0 ∨ cl173.slots.size ≤ ((18 : Int32)).toNatClampNeg) := inb_of Sz173 ⟨by decide, by decide⟩
    refine own_s (B := T171.setTop (mkF m 244 #[.val (.int p1), .val (.ref b1), .val (.ref b59), .val (.int (18 : Int32))] [(.int (0 : Int32)), (.int (0 : Int32))])) (fun t k => X171.baloadBooleans hx (j := (18 : Int32)) (v := (.int (0 : Int32))) (by rw [e171]; exact Ar173.1) (State.isArrayOf_alike hZ.alike Ar173.2.1) Ar173.2.2 hin173 (Hs173.at hin173 rfl) (g := (mkF m 243 #[.val (.int p1), .val (.ref b1), .val (.ref b59), .val (.int (18 : Int32))] [(.int (18 : Int32)), (.ref b59), (.int (0 : Int32))])) rfl rfl (hb hby at_243) t k) ?_
    refine own_s (B := T171.setTop (mkF m 247 #[.val (.int p1), .val (.ref b1), .val (.ref b59), .val (.int (18 : Int32))] [])) (fun t k => XS.icmpNo X171.here hx rfl (hb hby at_244) rfl (teq rfl).2 k) ?_
    refine own_s (B := T171.setTop (mkF m 248 #[.val (.int p1), .val (.ref b1), .val (.ref b59), .val (.int (18 : Int32))] [(.int (1 : Int32))])) (fun t k => XS.iconst X171.here hx rfl (hb hby at_247) k) ?_
    refine own_s (B := T171.setTop (mkF m 252 #[.val (.int p1), .val (.ref b1), .val (.ref b59), .val (.int (18 : Int32))] [(.int (1 : Int32))])) (fun t k => XS.goto X171.here hx rfl (pc0 := 248) (pc' := 252) rfl (hb hby at_248) (by decide) (by decide) k) ?_
    exact own_retB X171 hx hlk (t := .boolean) Bd.returns (by simp) (hb hby at_252) (by decide) (by decide) ⟨rfl, N171⟩
set_option maxRecDepth 65536 in
set_option maxHeartbeats 40000000 in
theorem comes_1 {Post : Tables → Env → Array Value → State → Outcome → State → Prop} (hpost : ∀ tb e args s v u, (limb_1_1.after args s (.returned v) u = true ∧ limb_1_2.after args s (.returned v) u = true ∧ True) → FrameEnd s (.returned v) u (Jvm.fieldLocs frame_1_writes args s ++ Jvm.arrayLocs frame_1_arrays args s ++ Jvm.staticLocs frame_1_statics s) 16 192 → Post tb e args s (.returned v) u) :
    ArmFor flags0 classFile x code maxLocals ret World_1 tables_1 room_1 Calls_1 rest_1 Pre_1 Post := by
  intro l hfl _ _ p e ha hc hk s m args below hf hA hF happ hP
  obtain ⟨hcalls, hrest, hpre⟩ := hP
  obtain ⟨-, -, -, hnamed, -, -, -, hat⟩ := (Spec.applies_iff hf).mp happ
  obtain ⟨hg, hn⟩ := and_e (Cond.before_iff.mp (show (Jvm.Cond.and given_1 narrow_1).before args s = true from hpre))
  obtain ⟨g1a, g1b⟩ := and_e hg
  obtain ⟨w0, rfl⟩ : ∃ w0 : Value, args = #[w0] := by
    have hs : args.size = 1 := by simpa [Cond.value, given_1] using g1a
    obtain ⟨L⟩ := args
    match L, hs with
    | [w0], _ => exact ⟨w0, rfl⟩
  have hw := fun d (hd : d ∈ tables_1) => atoms_spec (ws := Jvm.Cond.code x code maxLocals ret :: tables_1) hat d (List.mem_cons_of_mem _ hd)
  have hfit : Fit s := fun {y c} hc i hi => by
    obtain ⟨ha, rfl⟩ := Array.getElem?_eq_some_iff.mp hc
    have q := List.all_eq_true.mp ((Array.all_eq_true_iff_forall_mem.mp hF) _ (Array.getElem_mem ha)) i (List.mem_range.mpr hi)
    simpa [Array.getElem?_eq_getElem hi] using q
  obtain ⟨i0, ei0⟩ := is_v g1b
  obtain rfl : w0 = (.int i0) := Option.some.inj ei0
  obtain ⟨g2a, g2b⟩ := and_e hn
  obtain ⟨g3a, g3b⟩ := and_e g2b
  obtain ⟨g4a, g4b⟩ := and_e g3b
  obtain ⟨g5a, g5b⟩ := and_e g4b
  obtain ⟨g6a, g6b⟩ := and_e g5b
  obtain ⟨g7a, g7b⟩ := and_e g6b
  obtain ⟨g8a, g8b⟩ := and_e g7b
  obtain ⟨g9a, g9b⟩ := and_e g8b
  obtain ⟨g10a, g10b⟩ := and_e g9b
  obtain ⟨g11a, g11b⟩ := and_e g10b
  obtain ⟨g12a, g12b⟩ := and_e g11b
  obtain ⟨g13a, g13b⟩ := and_e g12b
  obtain ⟨g14a, g14b⟩ := and_e g13b
  obtain ⟨g15a, g15b⟩ := and_e g14b
  obtain ⟨g16a, g16b⟩ := and_e g15b
  obtain ⟨g17a, g17b⟩ := and_e g16b
  obtain ⟨g18a, g18b⟩ := and_e g17b
  obtain ⟨g19a, g19b⟩ := and_e g18b
  obtain ⟨g20a, g20b⟩ := and_e g19b
  obtain ⟨g21a, g21b⟩ := and_e g20b
  obtain ⟨g22a, g22b⟩ := and_e g21b
  obtain ⟨g23a, g23b⟩ := and_e g22b
  obtain ⟨g24a, g24b⟩ := and_e g23b
  obtain ⟨g25a, g25b⟩ := and_e g24b
  obtain ⟨g26a, g26b⟩ := and_e g25b
  obtain ⟨g27a, g27b⟩ := and_e g26b
  obtain ⟨g28a, g28b⟩ := and_e g27b
  obtain ⟨g29a, g29b⟩ := and_e g28b
  obtain ⟨g30a, g30b⟩ := and_e g29b
  obtain ⟨g31a, g31b⟩ := and_e g30b
  obtain ⟨g32a, g32b⟩ := and_e g31b
  obtain ⟨g33a, g33b⟩ := and_e g32b
  obtain ⟨g34a, g34b⟩ := and_e g33b
  obtain ⟨g35a, g35b⟩ := and_e g34b
  obtain ⟨g36a, g36b⟩ := and_e g35b
  obtain ⟨g37a, g37b⟩ := and_e g36b
  obtain ⟨g38a, g38b⟩ := and_e g37b
  obtain ⟨w_POSITION, ev_POSITION⟩ := exa_v g2a
  have S_POSITION := Sta.start ev_POSITION (Or.inr ⟨(hw _ (List.mem_of_getElem? (i := 3) rfl)), (hw _ (List.mem_of_getElem? (i := 4) rfl))⟩)
  have E_POSITION := Exa.start ev_POSITION g2a
  obtain ⟨w_LAST, ev_LAST⟩ := exa_v g3a
  have S_LAST := Sta.start ev_LAST (Or.inr ⟨(hw _ (List.mem_of_getElem? (i := 3) rfl)), (hw _ (List.mem_of_getElem? (i := 7) rfl))⟩)
  have E_LAST := Exa.start ev_LAST g3a
  obtain ⟨w_COUNT, ev_COUNT⟩ := exa_v g4a
  have S_COUNT := Sta.start ev_COUNT (Or.inr ⟨(hw _ (List.mem_of_getElem? (i := 3) rfl)), (hw _ (List.mem_of_getElem? (i := 9) rfl))⟩)
  have E_COUNT := Exa.start ev_COUNT g4a
  obtain ⟨w_NOT, ev_NOT⟩ := exa_v g5a
  have S_NOT := Sta.start ev_NOT (Or.inr ⟨(hw _ (List.mem_of_getElem? (i := 3) rfl)), (hw _ (List.mem_of_getElem? (i := 11) rfl))⟩)
  have E_NOT := Exa.start ev_NOT g5a
  obtain ⟨w_BOOLEAN, ev_BOOLEAN⟩ := exa_v g6a
  have S_BOOLEAN := Sta.start ev_BOOLEAN (Or.inr ⟨(hw _ (List.mem_of_getElem? (i := 3) rfl)), (hw _ (List.mem_of_getElem? (i := 13) rfl))⟩)
  have E_BOOLEAN := Exa.start ev_BOOLEAN g6a
  obtain ⟨w_TRUE, ev_TRUE⟩ := exa_v g7a
  have S_TRUE := Sta.start ev_TRUE (Or.inr ⟨(hw _ (List.mem_of_getElem? (i := 3) rfl)), (hw _ (List.mem_of_getElem? (i := 15) rfl))⟩)
  have E_TRUE := Exa.start ev_TRUE g7a
  obtain ⟨w_FALSE, ev_FALSE⟩ := exa_v g8a
  have S_FALSE := Sta.start ev_FALSE (Or.inr ⟨(hw _ (List.mem_of_getElem? (i := 3) rfl)), (hw _ (List.mem_of_getElem? (i := 17) rfl))⟩)
  have E_FALSE := Exa.start ev_FALSE g8a
  obtain ⟨w_EXISTS, ev_EXISTS⟩ := exa_v g9a
  have S_EXISTS := Sta.start ev_EXISTS (Or.inr ⟨(hw _ (List.mem_of_getElem? (i := 3) rfl)), (hw _ (List.mem_of_getElem? (i := 19) rfl))⟩)
  have E_EXISTS := Exa.start ev_EXISTS g9a
  obtain ⟨w_EMPTY, ev_EMPTY⟩ := exa_v g10a
  have S_EMPTY := Sta.start ev_EMPTY (Or.inr ⟨(hw _ (List.mem_of_getElem? (i := 3) rfl)), (hw _ (List.mem_of_getElem? (i := 21) rfl))⟩)
  have E_EMPTY := Exa.start ev_EMPTY g10a
  obtain ⟨w_STRING, ev_STRING⟩ := exa_v g11a
  have S_STRING := Sta.start ev_STRING (Or.inr ⟨(hw _ (List.mem_of_getElem? (i := 3) rfl)), (hw _ (List.mem_of_getElem? (i := 23) rfl))⟩)
  have E_STRING := Exa.start ev_STRING g11a
  obtain ⟨w_STRING_LENGTH, ev_STRING_LENGTH⟩ := exa_v g12a
  have S_STRING_LENGTH := Sta.start ev_STRING_LENGTH (Or.inr ⟨(hw _ (List.mem_of_getElem? (i := 3) rfl)), (hw _ (List.mem_of_getElem? (i := 25) rfl))⟩)
  have E_STRING_LENGTH := Exa.start ev_STRING_LENGTH g12a
  obtain ⟨w_NORMALIZE_SPACE, ev_NORMALIZE_SPACE⟩ := exa_v g13a
  have S_NORMALIZE_SPACE := Sta.start ev_NORMALIZE_SPACE (Or.inr ⟨(hw _ (List.mem_of_getElem? (i := 3) rfl)), (hw _ (List.mem_of_getElem? (i := 27) rfl))⟩)
  have E_NORMALIZE_SPACE := Exa.start ev_NORMALIZE_SPACE g13a
  obtain ⟨w_CONTAINS, ev_CONTAINS⟩ := exa_v g14a
  have S_CONTAINS := Sta.start ev_CONTAINS (Or.inr ⟨(hw _ (List.mem_of_getElem? (i := 3) rfl)), (hw _ (List.mem_of_getElem? (i := 29) rfl))⟩)
  have E_CONTAINS := Exa.start ev_CONTAINS g14a
  obtain ⟨w_STARTS_WITH, ev_STARTS_WITH⟩ := exa_v g15a
  have S_STARTS_WITH := Sta.start ev_STARTS_WITH (Or.inr ⟨(hw _ (List.mem_of_getElem? (i := 3) rfl)), (hw _ (List.mem_of_getElem? (i := 31) rfl))⟩)
  have E_STARTS_WITH := Exa.start ev_STARTS_WITH g15a
  obtain ⟨w_ENDS_WITH, ev_ENDS_WITH⟩ := exa_v g16a
  have S_ENDS_WITH := Sta.start ev_ENDS_WITH (Or.inr ⟨(hw _ (List.mem_of_getElem? (i := 3) rfl)), (hw _ (List.mem_of_getElem? (i := 33) rfl))⟩)
  have E_ENDS_WITH := Exa.start ev_ENDS_WITH g16a
  obtain ⟨w_NUMBER, ev_NUMBER⟩ := exa_v g17a
  have S_NUMBER := Sta.start ev_NUMBER (Or.inr ⟨(hw _ (List.mem_of_getElem? (i := 3) rfl)), (hw _ (List.mem_of_getElem? (i := 35) rfl))⟩)
  have E_NUMBER := Exa.start ev_NUMBER g17a
  obtain ⟨w_NAME, ev_NAME⟩ := exa_v g18a
  have S_NAME := Sta.start ev_NAME (Or.inr ⟨(hw _ (List.mem_of_getElem? (i := 3) rfl)), (hw _ (List.mem_of_getElem? (i := 37) rfl))⟩)
  have E_NAME := Exa.start ev_NAME g18a
  obtain ⟨w_LOCAL_NAME, ev_LOCAL_NAME⟩ := exa_v g19a
  have S_LOCAL_NAME := Sta.start ev_LOCAL_NAME (Or.inr ⟨(hw _ (List.mem_of_getElem? (i := 3) rfl)), (hw _ (List.mem_of_getElem? (i := 39) rfl))⟩)
  have E_LOCAL_NAME := Exa.start ev_LOCAL_NAME g19a
  obtain ⟨w_NAMESPACE_URI, ev_NAMESPACE_URI⟩ := exa_v g20a
  have S_NAMESPACE_URI := Sta.start ev_NAMESPACE_URI (Or.inr ⟨(hw _ (List.mem_of_getElem? (i := 3) rfl)), (hw _ (List.mem_of_getElem? (i := 41) rfl))⟩)
  have E_NAMESPACE_URI := Exa.start ev_NAMESPACE_URI g20a
  have F_NOT_ordinal := Fld.start ((fld_at ev_NOT).symm.trans (own_eqI g21a))
  have F_POSITION_ordinal := Fld.start ((fld_at ev_POSITION).symm.trans (own_eqI g22a))
  have F_LAST_ordinal := Fld.start ((fld_at ev_LAST).symm.trans (own_eqI g23a))
  have F_COUNT_ordinal := Fld.start ((fld_at ev_COUNT).symm.trans (own_eqI g24a))
  have F_STRING_LENGTH_ordinal := Fld.start ((fld_at ev_STRING_LENGTH).symm.trans (own_eqI g25a))
  have F_NUMBER_ordinal := Fld.start ((fld_at ev_NUMBER).symm.trans (own_eqI g26a))
  have F_TRUE_ordinal := Fld.start ((fld_at ev_TRUE).symm.trans (own_eqI g27a))
  have F_LOCAL_NAME_ordinal := Fld.start ((fld_at ev_LOCAL_NAME).symm.trans (own_eqI g28a))
  have F_EXISTS_ordinal := Fld.start ((fld_at ev_EXISTS).symm.trans (own_eqI g29a))
  have F_NORMALIZE_SPACE_ordinal := Fld.start ((fld_at ev_NORMALIZE_SPACE).symm.trans (own_eqI g30a))
  have F_EMPTY_ordinal := Fld.start ((fld_at ev_EMPTY).symm.trans (own_eqI g31a))
  have F_ENDS_WITH_ordinal := Fld.start ((fld_at ev_ENDS_WITH).symm.trans (own_eqI g32a))
  have F_NAMESPACE_URI_ordinal := Fld.start ((fld_at ev_NAMESPACE_URI).symm.trans (own_eqI g33a))
  have F_FALSE_ordinal := Fld.start ((fld_at ev_FALSE).symm.trans (own_eqI g34a))
  have F_NAME_ordinal := Fld.start ((fld_at ev_NAME).symm.trans (own_eqI g35a))
  have F_BOOLEAN_ordinal := Fld.start ((fld_at ev_BOOLEAN).symm.trans (own_eqI g36a))
  have F_STRING_ordinal := Fld.start ((fld_at ev_STRING).symm.trans (own_eqI g37a))
  have F_CONTAINS_ordinal := Fld.start ((fld_at ev_CONTAINS).symm.trans (own_eqI g38a))
  have F_STARTS_WITH_ordinal := Fld.start ((fld_at ev_STARTS_WITH).symm.trans (own_eqI g38b))
  obtain ⟨W, eW0, eW1, eW2, eW3, eW4, eW5, eW6, eW7, eW8, eW9, eW10, eW11, eW12, eW13, eW14, eW15, eW16, eW17, eW18⟩ : ∃ W : Int32 → Addr, W (0 : Int32) = w_POSITION ∧ W (1 : Int32) = w_LAST ∧ W (2 : Int32) = w_COUNT ∧ W (3 : Int32) = w_NOT ∧ W (4 : Int32) = w_BOOLEAN ∧ W (5 : Int32) = w_TRUE ∧ W (6 : Int32) = w_FALSE ∧ W (7 : Int32) = w_EXISTS ∧ W (8 : Int32) = w_EMPTY ∧ W (9 : Int32) = w_STRING ∧ W (10 : Int32) = w_STRING_LENGTH ∧ W (11 : Int32) = w_NORMALIZE_SPACE ∧ W (12 : Int32) = w_CONTAINS ∧ W (13 : Int32) = w_STARTS_WITH ∧ W (14 : Int32) = w_ENDS_WITH ∧ W (15 : Int32) = w_NUMBER ∧ W (16 : Int32) = w_NAME ∧ W (17 : Int32) = w_LOCAL_NAME ∧ W (18 : Int32) = w_NAMESPACE_URI := ⟨fun k => if k = (0 : Int32) then w_POSITION else if k = (1 : Int32) then w_LAST else if k = (2 : Int32) then w_COUNT else if k = (3 : Int32) then w_NOT else if k = (4 : Int32) then w_BOOLEAN else if k = (5 : Int32) then w_TRUE else if k = (6 : Int32) then w_FALSE else if k = (7 : Int32) then w_EXISTS else if k = (8 : Int32) then w_EMPTY else if k = (9 : Int32) then w_STRING else if k = (10 : Int32) then w_STRING_LENGTH else if k = (11 : Int32) then w_NORMALIZE_SPACE else if k = (12 : Int32) then w_CONTAINS else if k = (13 : Int32) then w_STARTS_WITH else if k = (14 : Int32) then w_ENDS_WITH else if k = (15 : Int32) then w_NUMBER else if k = (16 : Int32) then w_NAME else if k = (17 : Int32) then w_LOCAL_NAME else w_NAMESPACE_URI, (by simp), (by simp), (by simp), (by simp), (by simp), (by simp), (by simp), (by simp), (by simp), (by simp), (by simp), (by simp), (by simp), (by simp), (by simp), (by simp), (by simp), (by simp), (by simp)⟩
  have EW : WS s s.heap W := by
    unfold WS
    rw [eW0, eW1, eW2, eW3, eW4, eW5, eW6, eW7, eW8, eW9, eW10, eW11, eW12, eW13, eW14, eW15, eW16, eW17, eW18]
    exact ⟨S_POSITION, S_LAST, S_COUNT, S_NOT, S_BOOLEAN, S_TRUE, S_FALSE, S_EXISTS, S_EMPTY, S_STRING, S_STRING_LENGTH, S_NORMALIZE_SPACE, S_CONTAINS, S_STARTS_WITH, S_ENDS_WITH, S_NUMBER, S_NAME, S_LOCAL_NAME, S_NAMESPACE_URI⟩
  have XW : ∀ i : Int32, 0 ≤ i.toInt → i.toInt ≤ 18 → Exa s s.heap (W i) "com/example/tally/tally/XPathFunction" := by
    intro i h1 h2
    rcases own_rg_0_18 h1 h2 with rfl | rfl | rfl | rfl | rfl | rfl | rfl | rfl | rfl | rfl | rfl | rfl | rfl | rfl | rfl | rfl | rfl | rfl | rfl
    · rw [eW0]; exact E_POSITION
    · rw [eW1]; exact E_LAST
    · rw [eW2]; exact E_COUNT
    · rw [eW3]; exact E_NOT
    · rw [eW4]; exact E_BOOLEAN
    · rw [eW5]; exact E_TRUE
    · rw [eW6]; exact E_FALSE
    · rw [eW7]; exact E_EXISTS
    · rw [eW8]; exact E_EMPTY
    · rw [eW9]; exact E_STRING
    · rw [eW10]; exact E_STRING_LENGTH
    · rw [eW11]; exact E_NORMALIZE_SPACE
    · rw [eW12]; exact E_CONTAINS
    · rw [eW13]; exact E_STARTS_WITH
    · rw [eW14]; exact E_ENDS_WITH
    · rw [eW15]; exact E_NUMBER
    · rw [eW16]; exact E_NAME
    · rw [eW17]; exact E_LOCAL_NAME
    · rw [eW18]; exact E_NAMESPACE_URI
  have OW : ∀ i : Int32, 0 ≤ i.toInt → i.toInt ≤ 18 → Fld s s.heap (W i) "java/lang/Enum" "ordinal" "I" (.int (ordW i)) := by
    intro i h1 h2
    rcases own_rg_0_18 h1 h2 with rfl | rfl | rfl | rfl | rfl | rfl | rfl | rfl | rfl | rfl | rfl | rfl | rfl | rfl | rfl | rfl | rfl | rfl | rfl
    · rw [eW0]; exact F_POSITION_ordinal
    · rw [eW1]; exact F_LAST_ordinal
    · rw [eW2]; exact F_COUNT_ordinal
    · rw [eW3]; exact F_NOT_ordinal
    · rw [eW4]; exact F_BOOLEAN_ordinal
    · rw [eW5]; exact F_TRUE_ordinal
    · rw [eW6]; exact F_FALSE_ordinal
    · rw [eW7]; exact F_EXISTS_ordinal
    · rw [eW8]; exact F_EMPTY_ordinal
    · rw [eW9]; exact F_STRING_ordinal
    · rw [eW10]; exact F_STRING_LENGTH_ordinal
    · rw [eW11]; exact F_NORMALIZE_SPACE_ordinal
    · rw [eW12]; exact F_CONTAINS_ordinal
    · rw [eW13]; exact F_STARTS_WITH_ordinal
    · rw [eW14]; exact F_ENDS_WITH_ordinal
    · rw [eW15]; exact F_NUMBER_ordinal
    · rw [eW16]; exact F_NAME_ordinal
    · rw [eW17]; exact F_LOCAL_NAME_ordinal
    · rw [eW18]; exact F_NAMESPACE_URI_ordinal
  have IW : ∀ i j : Int32, 0 ≤ i.toInt → i.toInt ≤ 18 → 0 ≤ j.toInt → j.toInt ≤ 18 → W i = W j → i = j := by
    intro i j h1 h2 h3 h4 h5
    have q := OW i h1 h2
    rw [h5] at q
    exact s_injW (Value.int.inj (own_uniq q (OW j h3 h4)))
  obtain ⟨n, o, h1, h2, h3, _, L, rfl, ⟨rfl, N⟩, hq⟩ := rm0 l s _ hw tables_1 i0 W s.heap s.heap.size (Nat.le_refl _) EW XW IW p e ha hc hk s m _ below hf ((Spec.applies_iff_loose hf).mp happ).1 ⟨rfl, State.Warmed39.refl s, rfl⟩ trivial
  refine ⟨n, _, h1, h2, h3, hpost _ _ _ _ _ _ ⟨Cond.after_iff.mpr rfl, Cond.after_iff.mpr (eq_i res_at (Term.int_eval (1)) rfl), trivial⟩ ⟨hq.1, hq.2.1, (hq.2.2.sift fun y hy => Or.inr (N y hy)).mono (by decide) (by decide)⟩⟩
theorem main_1_1 : Claimed_1_1 := comes_1 fun _ _ _ _ _ _ h hF => ⟨h.1, hF⟩
theorem main_1_2 : Claimed_1_2 := comes_1 fun _ _ _ _ _ _ h hF => ⟨h.2.1, hF⟩
end Jvm.Pilot.@@N@@
namespace Jvm.Pilot.@@N@@
open Jvm Jvm.ClassFile Sem Op Lib Jvm.Free Jvm.Stand Jvm.Pilot.@@N@@.Jvm.D
/-! MADE BY PROGRAM (witnessworld.py) out of the Statement's table words and the real class files: 15 classes; the members and pool entries that the words name. The judged class is class 1, her method 1. -/
namespace start1
open Jvm.ClassFile
def u (s : String) : CpInfo := .utf8 (stringToUtf16 s)
/-- a pool by its gaps: so many unusable entries, then the entry; so many at the end -/
def gap : Nat → List CpInfo → List CpInfo
  | 0, r => r
  | n + 1, r => .unusable :: gap n r
def poolList (es : List (Nat × CpInfo)) (last : Nat) : List CpInfo := es.foldr (fun e r => gap e.1 (e.2 :: r)) (gap last [])
def pool (es : List (Nat × CpInfo)) (last : Nat) : Array CpInfo := ⟨poolList es last⟩
def fileOf (pool : Array CpInfo) (this : Nat) (attrs : Array Attribute := #[]) (ms : Array MethodInfo := #[]) (fl : Nat := 33) (sup : Nat := 0) (ifs : Array Nat := #[]) (fds : Array FieldInfo := #[]) : ClassFile where
  minorVersion := 0
  majorVersion := 65
  constantPool := pool
  accessFlags := fl
  thisClass := this
  superClass := sup
  interfaces := ifs
  fields := fds
  methods := ms
  attributes := attrs
def plain (name : String) (sup : Option ClassId) : Class where
  name := name
  kind := .ordinary
  loader := none
  accessFlags := 33
  super := sup
  interfaces := #[]
  cf := none
  fields := #[]
  methods := #[]
  instanceTypes := #[]
  staticTypes := #[]
  resolved := #[]
  callSites := []
  init := .initialized
  statics := none
  mirror := none

def pool0 : Array CpInfo := pool [(5, u "<init>"), (0, u "()V"), (1, .class_ 10), (1, u "java/lang/Object")] 113

def k0m0 : Method := { name := "<init>", desc := "()V", sig := { parameters := [], returnType := none }, accessFlags := 1, code := none }
/-- java/lang/Object -/
def k0 : Class := { plain "java/lang/Object" none with
  accessFlags := 33
  interfaces := #[]
  cf := some (fileOf pool0 8 #[] #[{ accessFlags := 1, nameIndex := 5, descriptorIndex := 6, attributes := #[] }] 33 0 #[] #[])
  fields := #[]
  methods := #[k0m0]
  instanceTypes := #[]
  staticTypes := #[]
  resolved := Array.replicate 124 none
  statics := none }

def pool1 : Array CpInfo := pool [(2, .class_ 4), (1, u "java/lang/Object"), (0, u "<init>"), (0, u "()V"), (0, .class_ 8), (0, u "com/example/tally/tally/XPathFunction"), (0, .fieldref 7 10), (0, .nameAndType 11 12), (0, u "POSITION"), (0, u "Lcom/example/tally/tally/XPathFunction;"), (0, .fieldref 7 14), (0, .nameAndType 15 12), (0, u "LAST"), (0, .fieldref 7 17), (0, .nameAndType 18 12), (0, u "COUNT"), (0, .fieldref 7 20), (0, .nameAndType 21 12), (0, u "NOT"), (0, .fieldref 7 23), (0, .nameAndType 24 12), (0, u "BOOLEAN"), (0, .fieldref 7 26), (0, .nameAndType 27 12), (0, u "TRUE"), (0, .fieldref 7 29), (0, .nameAndType 30 12), (0, u "FALSE"), (0, .fieldref 7 32), (0, .nameAndType 33 12), (0, u "EXISTS"), (0, .fieldref 7 35), (0, .nameAndType 36 12), (0, u "EMPTY"), (0, .fieldref 7 38), (0, .nameAndType 39 12), (0, u "STRING"), (0, .fieldref 7 41), (0, .nameAndType 42 12), (0, u "STRING_LENGTH"), (0, .fieldref 7 44), (0, .nameAndType 45 12), (0, u "NORMALIZE_SPACE"), (0, .fieldref 7 47), (0, .nameAndType 48 12), (0, u "CONTAINS"), (0, .fieldref 7 50), (0, .nameAndType 51 12), (0, u "STARTS_WITH"), (0, .fieldref 7 53), (0, .nameAndType 54 12), (0, u "ENDS_WITH"), (0, .fieldref 7 56), (0, .nameAndType 57 12), (0, u "NUMBER"), (0, .fieldref 7 59), (0, .nameAndType 60 12), (0, u "NAME"), (0, .fieldref 7 62), (0, .nameAndType 63 12), (0, u "LOCAL_NAME"), (0, .fieldref 7 65), (0, .nameAndType 66 12), (0, u "NAMESPACE_URI"), (0, .integer 2147483647), (0, .methodref 7 69), (0, .nameAndType 70 71), (0, u "isNumeric"), (0, u "()Z"), (0, .class_ 73), (0, u "com/example/tally/tally/XPathFunctionIsNumericPinLaw"), (2, u "law"), (0, u "(I)Z")] 7

def k1m0 : Method := { name := "<init>", desc := "()V", sig := { parameters := [], returnType := none }, accessFlags := 2, code := none }
def k1c1 : Code := { maxStack := 4, maxLocals := 4, code := code, exceptionTable := #[], attributes := #[] }
def k1m1 : Method := { name := "law", desc := "(I)Z", sig := { parameters := [.int], returnType := some .boolean }, accessFlags := 9, code := some k1c1 }
/-- com/example/tally/tally/XPathFunctionIsNumericPinLaw -/
def k1 : Class := { plain "com/example/tally/tally/XPathFunctionIsNumericPinLaw" (some 0) with
  accessFlags := 49
  interfaces := #[]
  cf := some (fileOf pool1 72 #[] #[{ accessFlags := 2, nameIndex := 5, descriptorIndex := 6, attributes := #[] }, { accessFlags := 9, nameIndex := 76, descriptorIndex := 77, attributes := #[] }] 49 2 #[] #[])
  fields := #[]
  methods := #[k1m0, k1m1]
  instanceTypes := #[]
  staticTypes := #[]
  resolved := Array.replicate 85 none
  statics := none }

def pool2 : Array CpInfo := pool [(1, .class_ 2), (0, u "java/lang/constant/Constable"), (0, .class_ 4), (0, u "java/lang/Object")] 6

/-- java/lang/constant/Constable -/
def k2 : Class := { plain "java/lang/constant/Constable" (some 0) with
  accessFlags := 1537
  interfaces := #[]
  cf := some (fileOf pool2 1 #[] #[] 1537 3 #[] #[])
  fields := #[]
  methods := #[]
  instanceTypes := #[]
  staticTypes := #[]
  resolved := Array.replicate 11 none
  statics := none }

def pool3 : Array CpInfo := pool [(1, .class_ 2), (0, u "java/lang/Comparable"), (0, .class_ 4), (0, u "java/lang/Object")] 7

/-- java/lang/Comparable -/
def k3 : Class := { plain "java/lang/Comparable" (some 0) with
  accessFlags := 1537
  interfaces := #[]
  cf := some (fileOf pool3 1 #[] #[] 1537 3 #[] #[])
  fields := #[]
  methods := #[]
  instanceTypes := #[]
  staticTypes := #[]
  resolved := Array.replicate 12 none
  statics := none }

def pool4 : Array CpInfo := pool [(1, .class_ 2), (0, u "java/io/Serializable"), (0, .class_ 4), (0, u "java/lang/Object")] 2

/-- java/io/Serializable -/
def k4 : Class := { plain "java/io/Serializable" (some 0) with
  accessFlags := 1537
  interfaces := #[]
  cf := some (fileOf pool4 1 #[] #[] 1537 3 #[] #[])
  fields := #[]
  methods := #[]
  instanceTypes := #[]
  staticTypes := #[]
  resolved := Array.replicate 7 none
  statics := none }

def pool5 : Array CpInfo := pool [(2, .class_ 4), (1, u "java/lang/Enum"), (0, u "name"), (0, u "Ljava/lang/String;"), (2, u "ordinal"), (0, u "I"), (1, .class_ 14), (1, u "java/lang/Object"), (4, u "hash"), (86, .class_ 108), (1, u "java/lang/Enum$EnumDesc"), (2, .class_ 112), (0, u "java/lang/constant/Constable"), (0, .class_ 114), (0, u "java/lang/Comparable"), (0, .class_ 116), (0, u "java/io/Serializable")] 87

/-- java/lang/Enum -/
def k5 : Class := { plain "java/lang/Enum" (some 0) with
  accessFlags := 1057
  interfaces := #[2, 3, 4]
  cf := some (fileOf pool5 2 #[.nestMembers #[106]] #[] 1057 12 #[111, 113, 115] #[{ accessFlags := 18, nameIndex := 5, descriptorIndex := 6, attributes := #[] }, { accessFlags := 18, nameIndex := 9, descriptorIndex := 10, attributes := #[] }, { accessFlags := 2, nameIndex := 19, descriptorIndex := 10, attributes := #[] }])
  fields := #[{ name := "name", type := (.object "java/lang/String"), accessFlags := 18, slot := 0, constantValue := 0 }, { name := "ordinal", type := .int, accessFlags := 18, slot := 1, constantValue := 0 }, { name := "hash", type := .int, accessFlags := 2, slot := 2, constantValue := 0 }]
  methods := #[]
  instanceTypes := #[(.object "java/lang/String"), .int, .int]
  staticTypes := #[]
  resolved := Array.replicate 204 none
  statics := none }

def pool6 : Array CpInfo := pool [(1, .class_ 2), (0, u "com/example/tally/tally/XPathFunction"), (0, .fieldref 1 4), (0, .nameAndType 5 6), (0, u "POSITION"), (0, u "Lcom/example/tally/tally/XPathFunction;"), (0, .fieldref 1 8), (0, .nameAndType 9 6), (0, u "LAST"), (0, .fieldref 1 11), (0, .nameAndType 12 6), (0, u "COUNT"), (2, u "NOT"), (2, u "BOOLEAN"), (2, u "TRUE"), (2, u "FALSE"), (2, u "EXISTS"), (2, u "EMPTY"), (2, u "STRING"), (0, .fieldref 1 35), (0, .nameAndType 36 6), (0, u "STRING_LENGTH"), (2, u "NORMALIZE_SPACE"), (2, u "CONTAINS"), (2, u "STARTS_WITH"), (2, u "ENDS_WITH"), (0, .fieldref 1 50), (0, .nameAndType 51 6), (0, u "NUMBER"), (2, u "NAME"), (2, u "LOCAL_NAME"), (2, u "NAMESPACE_URI"), (2, u "$VALUES"), (0, u "[Lcom/example/tally/tally/XPathFunction;"), (6, .class_ 73), (1, u "java/lang/Enum"), (8, u "name"), (0, u "Ljava/lang/String;"), (2, u "leastArguments"), (0, u "I"), (2, u "mostArguments"), (2, u "body"), (0, u "Ljava/util/function/BiFunction;"), (2, u "BY_NAME"), (0, u "Ljava/util/Map;"), (21, u "()Z"), (74, u "isNumeric"), (212, u "NAMESPACE")] 138

def k6c0 : Code := { maxStack := 2, maxLocals := 1, code := prog_110_method_7_code, exceptionTable := #[], attributes := #[] }
def k6m0 : Method := { name := "isNumeric", desc := "()Z", sig := { parameters := [], returnType := some .boolean }, accessFlags := 0, code := some k6c0 }
/-- com/example/tally/tally/XPathFunction -/
def k6 : Class := { plain "com/example/tally/tally/XPathFunction" (some 5) with
  accessFlags := 16432
  interfaces := #[]
  cf := some (fileOf pool6 1 #[] #[{ accessFlags := 0, nameIndex := 195, descriptorIndex := 120, attributes := #[] }] 16432 71 #[] #[{ accessFlags := 16409, nameIndex := 5, descriptorIndex := 6, attributes := #[] }, { accessFlags := 16409, nameIndex := 9, descriptorIndex := 6, attributes := #[] }, { accessFlags := 16409, nameIndex := 12, descriptorIndex := 6, attributes := #[] }, { accessFlags := 16409, nameIndex := 15, descriptorIndex := 6, attributes := #[] }, { accessFlags := 16409, nameIndex := 18, descriptorIndex := 6, attributes := #[] }, { accessFlags := 16409, nameIndex := 21, descriptorIndex := 6, attributes := #[] }, { accessFlags := 16409, nameIndex := 24, descriptorIndex := 6, attributes := #[] }, { accessFlags := 16409, nameIndex := 27, descriptorIndex := 6, attributes := #[] }, { accessFlags := 16409, nameIndex := 30, descriptorIndex := 6, attributes := #[] }, { accessFlags := 16409, nameIndex := 33, descriptorIndex := 6, attributes := #[] }, { accessFlags := 16409, nameIndex := 36, descriptorIndex := 6, attributes := #[] }, { accessFlags := 16409, nameIndex := 39, descriptorIndex := 6, attributes := #[] }, { accessFlags := 16409, nameIndex := 42, descriptorIndex := 6, attributes := #[] }, { accessFlags := 16409, nameIndex := 45, descriptorIndex := 6, attributes := #[] }, { accessFlags := 16409, nameIndex := 48, descriptorIndex := 6, attributes := #[] }, { accessFlags := 16409, nameIndex := 51, descriptorIndex := 6, attributes := #[] }, { accessFlags := 16409, nameIndex := 54, descriptorIndex := 6, attributes := #[] }, { accessFlags := 16409, nameIndex := 57, descriptorIndex := 6, attributes := #[] }, { accessFlags := 16409, nameIndex := 60, descriptorIndex := 6, attributes := #[] }, { accessFlags := 24, nameIndex := 408, descriptorIndex := 83, attributes := #[] }, { accessFlags := 26, nameIndex := 97, descriptorIndex := 98, attributes := #[] }, { accessFlags := 18, nameIndex := 82, descriptorIndex := 83, attributes := #[] }, { accessFlags := 18, nameIndex := 86, descriptorIndex := 87, attributes := #[] }, { accessFlags := 18, nameIndex := 90, descriptorIndex := 87, attributes := #[] }, { accessFlags := 18, nameIndex := 93, descriptorIndex := 94, attributes := #[] }, { accessFlags := 4122, nameIndex := 63, descriptorIndex := 64, attributes := #[] }])
  fields := #[{ name := "POSITION", type := (.object "com/example/tally/tally/XPathFunction"), accessFlags := 16409, slot := 0, constantValue := 0 }, { name := "LAST", type := (.object "com/example/tally/tally/XPathFunction"), accessFlags := 16409, slot := 1, constantValue := 0 }, { name := "COUNT", type := (.object "com/example/tally/tally/XPathFunction"), accessFlags := 16409, slot := 2, constantValue := 0 }, { name := "NOT", type := (.object "com/example/tally/tally/XPathFunction"), accessFlags := 16409, slot := 3, constantValue := 0 }, { name := "BOOLEAN", type := (.object "com/example/tally/tally/XPathFunction"), accessFlags := 16409, slot := 4, constantValue := 0 }, { name := "TRUE", type := (.object "com/example/tally/tally/XPathFunction"), accessFlags := 16409, slot := 5, constantValue := 0 }, { name := "FALSE", type := (.object "com/example/tally/tally/XPathFunction"), accessFlags := 16409, slot := 6, constantValue := 0 }, { name := "EXISTS", type := (.object "com/example/tally/tally/XPathFunction"), accessFlags := 16409, slot := 7, constantValue := 0 }, { name := "EMPTY", type := (.object "com/example/tally/tally/XPathFunction"), accessFlags := 16409, slot := 8, constantValue := 0 }, { name := "STRING", type := (.object "com/example/tally/tally/XPathFunction"), accessFlags := 16409, slot := 9, constantValue := 0 }, { name := "STRING_LENGTH", type := (.object "com/example/tally/tally/XPathFunction"), accessFlags := 16409, slot := 10, constantValue := 0 }, { name := "NORMALIZE_SPACE", type := (.object "com/example/tally/tally/XPathFunction"), accessFlags := 16409, slot := 11, constantValue := 0 }, { name := "CONTAINS", type := (.object "com/example/tally/tally/XPathFunction"), accessFlags := 16409, slot := 12, constantValue := 0 }, { name := "STARTS_WITH", type := (.object "com/example/tally/tally/XPathFunction"), accessFlags := 16409, slot := 13, constantValue := 0 }, { name := "ENDS_WITH", type := (.object "com/example/tally/tally/XPathFunction"), accessFlags := 16409, slot := 14, constantValue := 0 }, { name := "NUMBER", type := (.object "com/example/tally/tally/XPathFunction"), accessFlags := 16409, slot := 15, constantValue := 0 }, { name := "NAME", type := (.object "com/example/tally/tally/XPathFunction"), accessFlags := 16409, slot := 16, constantValue := 0 }, { name := "LOCAL_NAME", type := (.object "com/example/tally/tally/XPathFunction"), accessFlags := 16409, slot := 17, constantValue := 0 }, { name := "NAMESPACE_URI", type := (.object "com/example/tally/tally/XPathFunction"), accessFlags := 16409, slot := 18, constantValue := 0 }, { name := "NAMESPACE", type := (.object "java/lang/String"), accessFlags := 24, slot := 19, constantValue := 0 }, { name := "BY_NAME", type := (.object "java/util/Map"), accessFlags := 26, slot := 20, constantValue := 0 }, { name := "name", type := (.object "java/lang/String"), accessFlags := 18, slot := 3, constantValue := 0 }, { name := "leastArguments", type := .int, accessFlags := 18, slot := 4, constantValue := 0 }, { name := "mostArguments", type := .int, accessFlags := 18, slot := 5, constantValue := 0 }, { name := "body", type := (.object "java/util/function/BiFunction"), accessFlags := 18, slot := 6, constantValue := 0 }, { name := "$VALUES", type := (.array (.object "com/example/tally/tally/XPathFunction")), accessFlags := 4122, slot := 21, constantValue := 0 }]
  methods := #[k6m0]
  instanceTypes := #[(.object "java/lang/String"), .int, .int, (.object "java/lang/String"), .int, .int, (.object "java/util/function/BiFunction")]
  staticTypes := #[(.object "com/example/tally/tally/XPathFunction"), (.object "com/example/tally/tally/XPathFunction"), (.object "com/example/tally/tally/XPathFunction"), (.object "com/example/tally/tally/XPathFunction"), (.object "com/example/tally/tally/XPathFunction"), (.object "com/example/tally/tally/XPathFunction"), (.object "com/example/tally/tally/XPathFunction"), (.object "com/example/tally/tally/XPathFunction"), (.object "com/example/tally/tally/XPathFunction"), (.object "com/example/tally/tally/XPathFunction"), (.object "com/example/tally/tally/XPathFunction"), (.object "com/example/tally/tally/XPathFunction"), (.object "com/example/tally/tally/XPathFunction"), (.object "com/example/tally/tally/XPathFunction"), (.object "com/example/tally/tally/XPathFunction"), (.object "com/example/tally/tally/XPathFunction"), (.object "com/example/tally/tally/XPathFunction"), (.object "com/example/tally/tally/XPathFunction"), (.object "com/example/tally/tally/XPathFunction"), (.object "java/lang/String"), (.object "java/util/Map"), (.array (.object "com/example/tally/tally/XPathFunction"))]
  resolved := Array.replicate 547 none
  statics := some 0 }

def pool7 : Array CpInfo := pool [(1, u "java/lang/Cloneable"), (0, .class_ 1), (0, u "java/lang/Object"), (0, .class_ 3)] 3

/-- java/lang/Cloneable -/
def k7 : Class := { plain "java/lang/Cloneable" (some 0) with
  accessFlags := 1537
  interfaces := #[]
  cf := some (fileOf pool7 2 #[] #[] 1537 4 #[] #[])
  fields := #[]
  methods := #[]
  instanceTypes := #[]
  staticTypes := #[]
  resolved := Array.replicate 8 none
  statics := none }

/-- the primitive boolean -/
def k8 : Class := { plain "boolean" none with kind := .primitive 'Z', accessFlags := 0x411 }
/-- [Z -/
def k9 : Class := { plain "[Z" (some 0) with kind := .array 8 .boolean, interfaces := #[7, 4], accessFlags := 1041 }

/-- the primitive byte -/
def k10 : Class := { plain "byte" none with kind := .primitive 'B', accessFlags := 0x411 }
/-- [B -/
def k11 : Class := { plain "[B" (some 0) with kind := .array 10 .byte, interfaces := #[7, 4], accessFlags := 1041 }

/-- the primitive int -/
def k12 : Class := { plain "int" none with kind := .primitive 'I', accessFlags := 0x411 }
/-- [I -/
def k13 : Class := { plain "[I" (some 0) with kind := .array 12 .int, interfaces := #[7, 4], accessFlags := 1041 }

/-- [Lcom/example/tally/tally/XPathFunction; -/
def k14 : Class := { plain "[Lcom/example/tally/tally/XPathFunction;" (some 0) with kind := .array 6 (.object "com/example/tally/tally/XPathFunction"), interfaces := #[7, 4], accessFlags := 1041 }

def heap : Heap := #[{ cls := 6, slots := #[.ref 1, .ref 2, .ref 3, .ref 4, .ref 5, .ref 6, .ref 7, .ref 8, .ref 9, .ref 10, .ref 11, .ref 12, .ref 13, .ref 14, .ref 15, .ref 16, .ref 17, .ref 18, .ref 19, .null, .null, .null], vm := .statics 6 },
  { cls := 6, slots := #[.null, .int 0, .int 0, .null, .int 0, .int 0, .null], vm := .none },
  { cls := 6, slots := #[.null, .int 1, .int 0, .null, .int 0, .int 0, .null], vm := .none },
  { cls := 6, slots := #[.null, .int 2, .int 0, .null, .int 0, .int 0, .null], vm := .none },
  { cls := 6, slots := #[.null, .int 3, .int 0, .null, .int 0, .int 0, .null], vm := .none },
  { cls := 6, slots := #[.null, .int 4, .int 0, .null, .int 0, .int 0, .null], vm := .none },
  { cls := 6, slots := #[.null, .int 5, .int 0, .null, .int 0, .int 0, .null], vm := .none },
  { cls := 6, slots := #[.null, .int 6, .int 0, .null, .int 0, .int 0, .null], vm := .none },
  { cls := 6, slots := #[.null, .int 7, .int 0, .null, .int 0, .int 0, .null], vm := .none },
  { cls := 6, slots := #[.null, .int 8, .int 0, .null, .int 0, .int 0, .null], vm := .none },
  { cls := 6, slots := #[.null, .int 9, .int 0, .null, .int 0, .int 0, .null], vm := .none },
  { cls := 6, slots := #[.null, .int 10, .int 0, .null, .int 0, .int 0, .null], vm := .none },
  { cls := 6, slots := #[.null, .int 11, .int 0, .null, .int 0, .int 0, .null], vm := .none },
  { cls := 6, slots := #[.null, .int 12, .int 0, .null, .int 0, .int 0, .null], vm := .none },
  { cls := 6, slots := #[.null, .int 13, .int 0, .null, .int 0, .int 0, .null], vm := .none },
  { cls := 6, slots := #[.null, .int 14, .int 0, .null, .int 0, .int 0, .null], vm := .none },
  { cls := 6, slots := #[.null, .int 15, .int 0, .null, .int 0, .int 0, .null], vm := .none },
  { cls := 6, slots := #[.null, .int 16, .int 0, .null, .int 0, .int 0, .null], vm := .none },
  { cls := 6, slots := #[.null, .int 17, .int 0, .null, .int 0, .int 0, .null], vm := .none },
  { cls := 6, slots := #[.null, .int 18, .int 0, .null, .int 0, .int 0, .null], vm := .none }]
def classes : Array Class := #[k0, k1, k2, k3, k4, k5, k6, k7, k8, k9, k10, k11, k12, k13, k14]
def interned : List (Array UInt16 × Addr) := []
def slotsUsed : Nat := 155
def theMethod : MethodId := ⟨1, 1⟩
def args0 : Array Value := #[.int 5]
def aboutOver (below : List Frame) : State where
  vm := { classes := classes, interned := interned.toArray }
  heap := heap
  slotsUsed := slotsUsed
  threads := #[{ frames := .invoking theMethod args0 :: below }]
def below0 : List Frame := [.native { method := ⟨0, 0⟩, args := #[] }]
def about1 : State := aboutOver below0
def p0 : Program := .bare "" "" ""
def e0 : Env := launch0.env 0 0 0
theorem w_frames : about1.frames = Frame.invoking theMethod args0 :: below0 := rfl
set_option maxRecDepth 65536 in
theorem w_args : argsFit about1.vm theMethod args0 = true := by decide +kernel
set_option maxRecDepth 65536 in
theorem w_heap : heapFits about1 = true := by decide +kernel
set_option maxRecDepth 65536 in
theorem w_runnable : about1.curStatus? = some .runnable := by decide +kernel
set_option maxRecDepth 65536 in
theorem w_alone : about1.alone = true := by decide +kernel
set_option maxRecDepth 65536 in
theorem w_named : about1.methodNamed? x = some theMethod := by decide +kernel
set_option maxRecDepth 65536 in
theorem w_hears : about1.hears theMethod below0 = true := by decide +kernel
set_option maxRecDepth 65536 in
theorem w_ripe : about1.ripe theMethod args0 below0 = true := by decide +kernel
theorem w_running : about1.status = .running := rfl
set_option maxRecDepth 65536 in
theorem w_room : about1.hasRoom e0.platform room_1 = true :=
  launch0.hasRoom_least _ room_1 (by decide +kernel) (by decide +kernel) (by decide +kernel) (by decide +kernel) (by decide +kernel) (by decide +kernel)
theorem allAtoms_all (ts : List Jvm.Cond) (a : Array Jvm.Value) (st : Jvm.State) : (allAtoms ts).before a st = ts.all (fun c => c.before a st) := by
  induction ts with
  | nil => rfl
  | cons c t ih =>
    show (Jvm.Cond.and c (allAtoms t)).before a st = _
    rw [Jvm.Cond.before_and, ih, List.all_cons]
def words1 : List Jvm.Cond := Jvm.Cond.code x code maxLocals ret :: tables_1
/-- a 'code' word, met by the world's own term for the bytes: nothing is compared byte by byte -/
theorem code_word {y : MethodName} {bytes : ByteArray} {mx : Nat} {rt : Option FieldType} {a : Array Value} {s : State} {m : MethodId} {meth : Method} {c : Code} (h1 : s.methodNamed? y = some m) (h2 : s.vm.method? m = some meth) (h3 : meth.code = some c) (h4 : c.code = bytes)
    (h5 : (c.maxLocals == mx && c.exceptionTable.isEmpty && decide (c.maxStack ≤ mostOperands) && decide (meth.sig.returnType = rt) && !meth.locks && decide (parseMethodDescriptor y.desc = some meth.sig)) = true) : (Jvm.Cond.code y bytes mx rt).before a s = true := by
  simp only [Bool.and_eq_true, beq_iff_eq, Bool.not_eq_true', decide_eq_true_eq] at h5
  obtain ⟨⟨⟨⟨⟨g1, g2⟩, g3⟩, g4⟩, g5⟩, g6⟩ := h5
  simp [Cond.before, Cond.holds, Cond.value, h1, h2, h3, h4, g1, g2, g3, g4, g5, g6]
def isCode : Jvm.Cond → Bool
  | .code _ _ _ _ => true
  | _ => false
theorem all_split {L : List Jvm.Cond} {P : Jvm.Cond → Bool} (h1 : L.all (fun c => isCode c || P c) = true) (h2 : ∀ c ∈ L.filter isCode, P c = true) : L.all P = true := by
  refine List.all_eq_true.mpr fun c hc => ?_
  have h := List.all_eq_true.mp h1 c hc
  rcases Bool.eq_false_or_eq_true (isCode c) with hi | hi
  · exact h2 c (List.mem_filter.mpr ⟨hc, hi⟩)
  · simpa [hi] using h
set_option maxRecDepth 65536 in
theorem w_c0 : (Jvm.Cond.code x code maxLocals ret).before args0 about1 = true := code_word (m := ⟨1, 1⟩) (meth := k1m1) (c := k1c1) (by decide +kernel) rfl rfl rfl (by decide +kernel)
set_option maxRecDepth 65536 in
theorem w_c1 : (Jvm.Cond.code ({ cls := "com/example/tally/tally/XPathFunction", name := "isNumeric", desc := "()Z" } : Jvm.MethodName) prog_110_method_7_code (1 : Nat) (Option.some Jvm.ClassFile.FieldType.boolean)).before args0 about1 = true := code_word (m := ⟨6, 0⟩) (meth := k6m0) (c := k6c0) (by decide +kernel) rfl rfl rfl (by decide +kernel)
def codes1 : List Jvm.Cond := [Jvm.Cond.code x code maxLocals ret, Jvm.Cond.code ({ cls := "com/example/tally/tally/XPathFunction", name := "isNumeric", desc := "()Z" } : Jvm.MethodName) prog_110_method_7_code (1 : Nat) (Option.some Jvm.ClassFile.FieldType.boolean)]
set_option maxRecDepth 65536 in
theorem codes_eq : words1.filter isCode = codes1 := rfl
theorem w_codes : ∀ c ∈ words1.filter isCode, c.before args0 about1 = true := by
  rw [codes_eq]
  intro c hc
  simp only [codes1, List.mem_cons, List.not_mem_nil, or_false] at hc
  rcases hc with rfl | rfl
  · exact w_c0
  · exact w_c1
set_option maxRecDepth 65536 in
theorem w_t1 : (words1.take 24).all (fun c => isCode c || c.before args0 about1) = true := by decide +kernel
set_option maxRecDepth 65536 in
theorem w_t2 : ((words1.drop 24).take 24).all (fun c => isCode c || c.before args0 about1) = true := by decide +kernel
set_option maxRecDepth 65536 in
theorem w_t3 : ((words1.drop 24).drop 24).all (fun c => isCode c || c.before args0 about1) = true := by decide +kernel
theorem w_tables : (allAtoms (Jvm.Cond.code x code maxLocals ret :: tables_1)).before args0 about1 = true := by
  rw [allAtoms_all]
  show words1.all (fun c => c.before args0 about1) = true
  refine all_split ?_ w_codes
  rw [← List.take_append_drop 24 words1, List.all_append, w_t1, ← List.take_append_drop 24 (words1.drop 24), List.all_append, w_t2, w_t3]
  rfl
set_option maxRecDepth 65536 in
theorem w_case : (Jvm.Cond.and given_1 narrow_1).before args0 about1 = true := by decide +kernel
theorem w_applies : (headSpec (Jvm.Cond.code x code maxLocals ret :: tables_1) room_1).applies x e0.platform about1 = true :=
  (Spec.applies_iff w_frames).mpr ⟨w_running, w_runnable, w_alone, w_named, w_hears, w_ripe, w_room, w_tables⟩
theorem atStart : AtStart classFile x code maxLocals ret World_1 tables_1 room_1 Calls_1 rest_1 Pre_1 launch0 p0 e0 about1 theMethod args0 below0 :=
  ⟨lists_1, trivial, launch0.admits_env _ _ _, launch0.least_env, fairChoices_fair.cas, fairChoices_fair.clock, w_frames, w_args, w_heap, w_applies, trivial, trivial, w_case⟩
end start1
theorem witness_1 : WitnessClaimed_1 := ⟨start1.p0, start1.e0, start1.about1, start1.theMethod, start1.args0, start1.below0, start1.atStart⟩
end Jvm.Pilot.@@N@@
