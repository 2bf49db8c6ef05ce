import JvmDerived
import JvmDerived.Pilot.@@N@@Statement
import JvmDerived.Pilot.@@N@@Code
set_option linter.unusedVariables false
set_option linter.unusedSimpArgs false
@@BLOCK:NumsL.lean.txt@@
namespace Jvm.Pilot.@@N@@
open Jvm Jvm.ClassFile Sem Op Lib Jvm.Free Jvm.Stand Jvm.LawKit Jvm.RoadKit Bundle Jvm.Pilot.@@N@@.Jvm.D
section OwnKit
variable {p : Program} {l : Launch} {e : Env} {R : Room} {s : State} {m : MethodId} {args : Array Value} {below : List Frame} {meth : Method} {c : Code} {T : State} {locs : List Loc} {cells slots : Nat}
/-- from U the run comes to an end of which K speaks -/
def Go (p : Program) (e : Env) (below : List Frame) (K : Outcome → State → Prop) (U : State) : Prop := ∃ s₂ o, Steps p.tables e below U s₂ ∧ s₂.status = .running ∧ Ended s₂ below o ∧ K o s₂
theorem own_s {K : Outcome → State → Prop} {A B : State} (h : ∀ t, Steps p.tables e below B t → Steps p.tables e below A t) (g : Go p e below K B) : Go p e below K A := by
  obtain ⟨s₂, o, h1, h2⟩ := g
  exact ⟨s₂, o, h _ h1, h2⟩
def Kf (s : State) (Q : Option Value → Heap → List Loc → Prop) (C N : Nat) (o : Outcome) (U : State) : Prop := ∃ v L, o = .returned v ∧ Q v U.heap L ∧ FrameEnd s o U L C N
theorem own_ret (X : Stand p l e R s m args below meth c T locs cells slots) (hx : p.tables.exec = Jvm.exec) (hlk : meth.locks = false) {pc : Nat} {Ls : Array Slot} {w : Value} {t : FieldType} {i : Instr} {rest : List Value} (hret : meth.sig.returnType = some t) (hn : narrow t w = w)
    (hi : (i = .ireturn ∧ (t = .int ∨ t = .boolean ∨ t = .byte ∨ t = .char ∨ t = .short) ∧ ∃ z, w = .int z) ∨ (i = .lreturn ∧ t = .long ∧ ∃ z, w = .long z) ∨ (i = .dreturn ∧ t = .double ∧ ∃ z, w = .double z) ∨ (i = .freturn ∧ t = .float ∧ ∃ z, w = .float z) ∨ (i = .areturn ∧ t.isReference = true ∧ w.isRef = true))
    (hd : decode c.code pc = .ok (i, 1)) {Q : Option Value → Heap → List Loc → Prop} {C N : Nat} (hc : cells ≤ C) (hs : slots ≤ N) (hQ : Q (some w) T.heap locs) : Go p e below (Kf s Q C N) (T.setTop (mkF m pc Ls (w :: rest))) := by
  obtain ⟨fs, hr, hrun, hended, hW, hsame⟩ := X.leave (v := some w) (fun h => by rw [hret] at h; cases h) hlk
  exact ⟨_, _, retOut X hx hret hn hi hd hr, hrun, hended, _, _, rfl, hQ, ⟨_, rfl⟩, hW, hsame.mono hc hs⟩
theorem own_retI (X : Stand p l e R s m args below meth c T locs cells slots) (hx : p.tables.exec = Jvm.exec) (hlk : meth.locks = false) {pc : Nat} {Ls : Array Slot} {z : Int32} {rest : List Value} (hret : meth.sig.returnType = some .int)
    (hd : decode c.code pc = .ok (.ireturn, 1)) {Q : Option Value → Heap → List Loc → Prop} {C N : Nat} (hc : cells ≤ C) (hs : slots ≤ N) (hQ : Q (some (.int z)) T.heap locs) : Go p e below (Kf s Q C N) (T.setTop (mkF m pc Ls (.int z :: rest))) :=
  own_ret X hx hlk hret rfl (Or.inl ⟨rfl, Or.inl rfl, _, rfl⟩) hd hc hs hQ
theorem own_retJ (X : Stand p l e R s m args below meth c T locs cells slots) (hx : p.tables.exec = Jvm.exec) (hlk : meth.locks = false) {pc : Nat} {Ls : Array Slot} {z : Int64} {rest : List Value} (hret : meth.sig.returnType = some .long)
    (hd : decode c.code pc = .ok (.lreturn, 1)) {Q : Option Value → Heap → List Loc → Prop} {C N : Nat} (hc : cells ≤ C) (hs : slots ≤ N) (hQ : Q (some (.long z)) T.heap locs) : Go p e below (Kf s Q C N) (T.setTop (mkF m pc Ls (.long z :: rest))) :=
  own_ret X hx hlk hret rfl (Or.inr (Or.inl ⟨rfl, rfl, _, rfl⟩)) hd hc hs hQ
theorem own_retR (X : Stand p l e R s m args below meth c T locs cells slots) (hx : p.tables.exec = Jvm.exec) (hlk : meth.locks = false) {pc : Nat} {Ls : Array Slot} {w : Value} {t : FieldType} {rest : List Value} (hret : meth.sig.returnType = some t) (ht : t.isReference = true) (hw : w.isRef = true)
    (hd : decode c.code pc = .ok (.areturn, 1)) {Q : Option Value → Heap → List Loc → Prop} {C N : Nat} (hc : cells ≤ C) (hs : slots ≤ N) (hQ : Q (some w) T.heap locs) : Go p e below (Kf s Q C N) (T.setTop (mkF m pc Ls (w :: rest))) :=
  own_ret X hx hlk hret (by cases t <;> simp [FieldType.isReference] at ht <;> cases w <;> simp [Value.isRef] at hw <;> rfl) (Or.inr (Or.inr (Or.inr (Or.inr ⟨rfl, ht, hw⟩)))) hd hc hs hQ
theorem own_retB (X : Stand p l e R s m args below meth c T locs cells slots) (hx : p.tables.exec = Jvm.exec) (hlk : meth.locks = false) {pc : Nat} {Ls : Array Slot} {z : Int32} {t : FieldType} {rest : List Value} (hret : meth.sig.returnType = some t) (ht : t = .boolean ∨ t = .byte ∨ t = .char ∨ t = .short)
    (hd : decode c.code pc = .ok (.ireturn, 1)) {Q : Option Value → Heap → List Loc → Prop} {C N : Nat} (hc : cells ≤ C) (hs : slots ≤ N) (hQ : Q (some (.int (nar t z))) T.heap locs) : Go p e below (Kf s Q C N) (T.setTop (mkF m pc Ls (.int z :: rest))) := by
  obtain ⟨fs, hr, hrun, hended, hW, hsame⟩ := X.leave (v := some (.int (nar t z))) (fun h => by rw [hret] at h; cases h) hlk
  exact ⟨_, _, retN X hx hret ht hd hr, hrun, hended, _, _, rfl, hQ, ⟨_, rfl⟩, hW, hsame.mono hc hs⟩
theorem own_retV (X : Stand p l e R s m args below meth c T locs cells slots) (hx : p.tables.exec = Jvm.exec) (hlk : meth.locks = false) {pc : Nat} {Ls : Array Slot} (hret : meth.sig.returnType = none)
    (hd : decode c.code pc = .ok (.return_, 1)) {Q : Option Value → Heap → List Loc → Prop} {C N : Nat} (hc : cells ≤ C) (hs : slots ≤ N) (hQ : Q none T.heap locs) : Go p e below (Kf s Q C N) (T.setTop (mkF m pc Ls [])) := by
  obtain ⟨fs, hr, hrun, hended, hW, hsame⟩ := X.leave (v := none) (fun _ => rfl) hlk
  exact ⟨_, _, X.returnOut hx hret hd hr, hrun, hended, _, _, rfl, hQ, ⟨_, rfl⟩, hW, hsame.mono hc hs⟩
/-- a truth as Java's int -/
abbrev bz (P : Prop) [Decidable P] : Int32 := if P then 1 else 0
theorem own_t {P : Prop} [Decidable P] (h : P) : some (Value.int (nar .boolean (1 : Int32))) = some (Value.int (bz P)) := by rw [bz, if_pos h]; rfl
theorem own_f {P : Prop} [Decidable P] (h : ¬ P) : some (Value.int (nar .boolean (0 : Int32))) = some (Value.int (bz P)) := by rw [bz, if_neg h]; rfl
theorem own_i {a b : Int32} (h : a = b) : some (Value.int a) = some (Value.int b) := by rw [h]
theorem own_j {a b : Int64} (h : a = b) : some (Value.long a) = some (Value.long b) := by rw [h]
theorem own_r {a b : Addr} (h : a = b) : some (Value.ref a) = some (Value.ref b) := by rw [h]
theorem own_eqI {args : Array Value} {first s : State} {o : Option Outcome} {idx : List Nat} {t : Term} {k : Int32} (h : (Jvm.Cond.eq t (Term.int k)).value args first o s idx = some true) : t.eval args first o idx s = some (.int k) := by
  simp only [Cond.value, Term.eval] at h
  cases ht : t.eval args first o idx s with
  | none => simp [ht] at h
  | some x => cases x <;> simp [ht] at h ⊢; exact h
end OwnKit
theorem own_lit {m : Int32} {k : Int} (h : m.toInt = k) : m = Int32.ofInt k := by rw [← h, Int32.ofInt_toInt]
theorem own_nc (j : Int32) : j.toNatClampNeg = j.toInt.toNat := rfl
theorem own_len {args : Array Value} {Z : State} {t : Term} {a : Addr} {cl : Cell} {ty : FieldType} {k : Int32} (ev : t.eval args Z none [] Z = some (.ref a)) (Ar : Arr Z Z.heap a cl ty) (ln : (Term.length t).eval args Z none [] Z = some (.int k)) : cl.slots.size.toInt32 = k ∧ (cl.slots.size : Int) = k.toInt := by
  have hat : Z.arrayAt? a = some cl := Ar.fin (Vm.Alike.refl _)
  by_cases hs : cl.slots.size < 2 ^ 31
  · rw [len_f ev hat hs] at ln
    have e : cl.slots.size.toInt32 = k := Value.int.inj (Option.some.inj ln)
    exact ⟨e, by rw [← e, len_toInt hs]⟩
  · simp [Term.eval, ev, hat, hs] at ln
def letS (j : Int32) : Int32 := if j = (1 : Int32) then 65 else if j = (2 : Int32) then 67 else if j = (3 : Int32) then 77 else if j = (4 : Int32) then 71 else if j = (5 : Int32) then 82 else if j = (6 : Int32) then 83 else if j = (7 : Int32) then 86 else if j = (8 : Int32) then 84 else if j = (9 : Int32) then 87 else if j = (10 : Int32) then 89 else if j = (11 : Int32) then 72 else if j = (12 : Int32) then 75 else if j = (13 : Int32) then 68 else if j = (14 : Int32) then 66 else 78
def dsS (c : Int32) : Int32 := if c = (65 : Int32) then 1 else if c = (67 : Int32) then 2 else if c = (71 : Int32) then 4 else if c = (84 : Int32) then 8 else if c = (82 : Int32) then 5 else if c = (89 : Int32) then 10 else if c = (83 : Int32) then 6 else if c = (87 : Int32) then 9 else if c = (75 : Int32) then 12 else if c = (77 : Int32) then 3 else if c = (66 : Int32) then 14 else if c = (68 : Int32) then 13 else if c = (72 : Int32) then 11 else if c = (86 : Int32) then 7 else if c = (78 : Int32) then 15 else 0
theorem own_rg_1_15 {m : Int32} (h1 : 1 ≤ m.toInt) (h2 : m.toInt ≤ 15) : m = (1 : Int32) ∨ m = (2 : Int32) ∨ m = (3 : Int32) ∨ m = (4 : Int32) ∨ m = (5 : Int32) ∨ m = (6 : Int32) ∨ m = (7 : Int32) ∨ m = (8 : Int32) ∨ m = (9 : Int32) ∨ m = (10 : Int32) ∨ m = (11 : Int32) ∨ m = (12 : Int32) ∨ m = (13 : Int32) ∨ m = (14 : Int32) ∨ m = (15 : Int32) := by
  have h : m.toInt = 1 ∨ m.toInt = 2 ∨ m.toInt = 3 ∨ m.toInt = 4 ∨ m.toInt = 5 ∨ m.toInt = 6 ∨ m.toInt = 7 ∨ m.toInt = 8 ∨ m.toInt = 9 ∨ m.toInt = 10 ∨ m.toInt = 11 ∨ m.toInt = 12 ∨ m.toInt = 13 ∨ m.toInt = 14 ∨ m.toInt = 15 := by omega
  rcases h with h | h | h | h | h | h | h | h | h | h | h | h | h | h | h
  · exact (Or.inl (own_lit h))
  · exact (Or.inr (Or.inl (own_lit h)))
  · exact (Or.inr (Or.inr (Or.inl (own_lit h))))
  · exact (Or.inr (Or.inr (Or.inr (Or.inl (own_lit h)))))
  · exact (Or.inr (Or.inr (Or.inr (Or.inr (Or.inl (own_lit h))))))
  · exact (Or.inr (Or.inr (Or.inr (Or.inr (Or.inr (Or.inl (own_lit h)))))))
  · exact (Or.inr (Or.inr (Or.inr (Or.inr (Or.inr (Or.inr (Or.inl (own_lit h))))))))
  · exact (Or.inr (Or.inr (Or.inr (Or.inr (Or.inr (Or.inr (Or.inr (Or.inl (own_lit h)))))))))
  · exact (Or.inr (Or.inr (Or.inr (Or.inr (Or.inr (Or.inr (Or.inr (Or.inr (Or.inl (own_lit h))))))))))
  · exact (Or.inr (Or.inr (Or.inr (Or.inr (Or.inr (Or.inr (Or.inr (Or.inr (Or.inr (Or.inl (own_lit h)))))))))))
  · exact (Or.inr (Or.inr (Or.inr (Or.inr (Or.inr (Or.inr (Or.inr (Or.inr (Or.inr (Or.inr (Or.inl (own_lit h))))))))))))
  · exact (Or.inr (Or.inr (Or.inr (Or.inr (Or.inr (Or.inr (Or.inr (Or.inr (Or.inr (Or.inr (Or.inr (Or.inl (own_lit h)))))))))))))
  · exact (Or.inr (Or.inr (Or.inr (Or.inr (Or.inr (Or.inr (Or.inr (Or.inr (Or.inr (Or.inr (Or.inr (Or.inr (Or.inl (own_lit h))))))))))))))
  · exact (Or.inr (Or.inr (Or.inr (Or.inr (Or.inr (Or.inr (Or.inr (Or.inr (Or.inr (Or.inr (Or.inr (Or.inr (Or.inr (Or.inl (own_lit h)))))))))))))))
  · exact (Or.inr (Or.inr (Or.inr (Or.inr (Or.inr (Or.inr (Or.inr (Or.inr (Or.inr (Or.inr (Or.inr (Or.inr (Or.inr (Or.inr (own_lit h)))))))))))))))
theorem own_rm (x : Int32) : 0 ≤ ((x &&& (2147483647 : Int32)) % (15 : Int32)).toInt ∧ ((x &&& (2147483647 : Int32)) % (15 : Int32)).toInt ≤ 14 := by
  have e1 : (x &&& (2147483647 : Int32)).toInt = x.toInt % 2 ^ 31 := Jvm.Kit.i32_mask x _ (k := 31) (by decide) (by decide)
  have e2 := Jvm.Kit.i32_rem_nonneg (x := (x &&& (2147483647 : Int32))) (y := (15 : Int32)) (by omega)
  have e3 : (15 : Int32).toInt = 15 := by decide
  rw [e3] at e2
  omega
theorem own_mI (p1 : Int32) : 1 ≤ ((((p1 &&& (2147483647 : Int32)) % (15 : Int32)) + (1 : Int32))).toInt ∧ ((((p1 &&& (2147483647 : Int32)) % (15 : Int32)) + (1 : Int32))).toInt ≤ 15 := by
  have h := own_rm p1
  have e1 : (1 : Int32).toInt = 1 := by decide
  have e : ((((p1 &&& (2147483647 : Int32)) % (15 : Int32)) + (1 : Int32))).toInt = _ + (1 : Int32).toInt := Jvm.Kit.i32_add (by omega) (by omega)
  rw [e1] at e
  omega
theorem own_m (p1 : Int32) : (0 : Int32) < (((p1 &&& (2147483647 : Int32)) % (15 : Int32)) + (1 : Int32)) ∧ (((p1 &&& (2147483647 : Int32)) % (15 : Int32)) + (1 : Int32)) < (16 : Int32) := by
  have h := own_mI p1
  have e0 : (0 : Int32).toInt = 0 := by decide
  have e16 : (16 : Int32).toInt = 16 := by decide
  rw [Int32.lt_iff_toInt_lt, Int32.lt_iff_toInt_lt, e0, e16]
  omega
theorem own_law (p1 : Int32) : dsS (nar .char (letS (((p1 &&& (2147483647 : Int32)) % (15 : Int32)) + (1 : Int32)))) = (((p1 &&& (2147483647 : Int32)) % (15 : Int32)) + (1 : Int32)) := by
  have h := own_mI p1
  generalize (((p1 &&& (2147483647 : Int32)) % (15 : Int32)) + (1 : Int32)) = m at *
  rcases own_rg_1_15 h.1 h.2 with rfl | rfl | rfl | rfl | rfl | rfl | rfl | rfl | rfl | rfl | rfl | rfl | rfl | rfl | rfl <;> decide
theorem own_in {j : Int32} {n : Nat} (h : n = 16) (h1 : (0 : Int32) < j) (h2 : j < (16 : Int32)) : ¬ (j < 0 ∨ n ≤ j.toNatClampNeg) := by
  have e0 : (0 : Int32).toInt = 0 := by decide
  have e16 : (16 : Int32).toInt = 16 := by decide
  rw [Int32.lt_iff_toInt_lt, e0] at h1
  rw [Int32.lt_iff_toInt_lt, e16] at h2
  rw [Int32.lt_iff_toInt_lt, own_nc, e0]
  omega
theorem own_hat {cl : Cell} (h1 : cl.slots[(1 : Int32).toNatClampNeg]? = some (.int (65))) (h2 : cl.slots[(2 : Int32).toNatClampNeg]? = some (.int (67))) (h3 : cl.slots[(3 : Int32).toNatClampNeg]? = some (.int (77))) (h4 : cl.slots[(4 : Int32).toNatClampNeg]? = some (.int (71))) (h5 : cl.slots[(5 : Int32).toNatClampNeg]? = some (.int (82))) (h6 : cl.slots[(6 : Int32).toNatClampNeg]? = some (.int (83))) (h7 : cl.slots[(7 : Int32).toNatClampNeg]? = some (.int (86))) (h8 : cl.slots[(8 : Int32).toNatClampNeg]? = some (.int (84))) (h9 : cl.slots[(9 : Int32).toNatClampNeg]? = some (.int (87))) (h10 : cl.slots[(10 : Int32).toNatClampNeg]? = some (.int (89))) (h11 : cl.slots[(11 : Int32).toNatClampNeg]? = some (.int (72))) (h12 : cl.slots[(12 : Int32).toNatClampNeg]? = some (.int (75))) (h13 : cl.slots[(13 : Int32).toNatClampNeg]? = some (.int (68))) (h14 : cl.slots[(14 : Int32).toNatClampNeg]? = some (.int (66))) (h15 : cl.slots[(15 : Int32).toNatClampNeg]? = some (.int (78))) : ∀ j : Int32, (0 : Int32) < j → j < (16 : Int32) → cl.slots[j.toNatClampNeg]? = some (.int (letS j)) := by
  intro j k1 k2
  have e0 : (0 : Int32).toInt = 0 := by decide
  have e16 : (16 : Int32).toInt = 16 := by decide
  rw [Int32.lt_iff_toInt_lt, e0] at k1
  rw [Int32.lt_iff_toInt_lt, e16] at k2
  rcases own_rg_1_15 (m := j) (by omega) (by omega) with rfl | rfl | rfl | rfl | rfl | rfl | rfl | rfl | rfl | rfl | rfl | rfl | rfl | rfl | rfl
  · exact h1
  · exact h2
  · exact h3
  · exact h4
  · exact h5
  · exact h6
  · exact h7
  · exact h8
  · exact h9
  · exact h10
  · exact h11
  · exact h12
  · exact h13
  · exact h14
  · exact h15
theorem d1_0 : decode prog_2_method_4_code 0 = .ok (.iload_n 0, 1) := by decide +kernel
theorem d1_1 : decode prog_2_method_4_code 1 = .ok (.ifCond .le 11, 3) := by decide +kernel
theorem d1_4 : decode prog_2_method_4_code 4 = .ok (.iload_n 0, 1) := by decide +kernel
theorem d1_5 : decode prog_2_method_4_code 5 = .ok (.getstatic 13, 3) := by decide +kernel
theorem d1_8 : decode prog_2_method_4_code 8 = .ok (.arraylength, 1) := by decide +kernel
theorem d1_9 : decode prog_2_method_4_code 9 = .ok (.if_icmp .lt 17, 3) := by decide +kernel
theorem d1_26 : decode prog_2_method_4_code 26 = .ok (.getstatic 13, 3) := by decide +kernel
theorem d1_29 : decode prog_2_method_4_code 29 = .ok (.iload_n 0, 1) := by decide +kernel
theorem d1_30 : decode prog_2_method_4_code 30 = .ok (.caload, 1) := by decide +kernel
theorem d1_31 : decode prog_2_method_4_code 31 = .ok (.ireturn, 1) := by decide +kernel
theorem pn_0 : plainName "com/example/haploweave/haploweave/alignment/Calls" = true := by first | (simp [plainName, overriddenIn]; done) | decide +kernel
theorem ef_1 (m : MethodId) (x0 : Int32) : entryFrame m #[(.int x0)] 1 = mkF m 0 #[.val (.int x0)] [] := by first | (simp [entryFrame, mkF, argsToLocals, Value.category]; done) | rfl
def Q1 (Z : State) (p1 : Int32) (wL : Addr) (clL : Cell) (h0 : Heap) (n0 : Nat) (v : Option Value) (h : Heap) (L : List Loc) : Prop := v = some (.int (nar .char (letS p1))) ∧ Fr n0 L ∧ h = h0
set_option maxRecDepth 65536 in
set_option maxHeartbeats 40000000 in
theorem rm1 (l : Launch) (Z : State) (a0 : Array Value) (hw : ∀ d ∈ tables_1, d.before a0 Z = true) (ws : List Jvm.Cond) (p1 : Int32) (wL : Addr) (clL : Cell) (h0 : Heap) (n0 : Nat) (Z0 : n0 ≤ h0.size) (S : Sta Z h0 "com/example/haploweave/haploweave/alignment/Calls" "LETTER" "[C" (.ref wL)) (ArL : Arr Z h0 wL clL .char) (szL : clL.slots.size.toInt32 = (16 : Int32)) (szN : clL.slots.size = 16) (hatL : ∀ j : Int32, (0 : Int32) < j → j < (16 : Int32) → clL.slots[j.toNatClampNeg]? = some (.int (letS j))) (hp1 : (0 : Int32) < p1) (hp2 : p1 < (16 : Int32)) :
    MetFree l (⟨"com/example/haploweave/haploweave/alignment/Calls", "letter", "(I)C"⟩ : MethodName) (head1 (Jvm.Cond.code (⟨"com/example/haploweave/haploweave/alignment/Calls", "letter", "(I)C"⟩ : MethodName) prog_2_method_4_code 1 (some .char) :: ws) ({ frames := 0, cells := 0, slots := 0, locals := 0 } : Room)) (fun a U => a = #[(.int p1)] ∧ Z.Warmed39 U.vm ∧ U.heap = h0) (fun _ _ _ _ _ => True) (fun _ U o U' => ∃ v L, o = .returned v ∧ Q1 Z p1 wL clL h0 n0 v U'.heap L ∧ FrameEnd U o U' L ({ frames := 0, cells := 0, slots := 0, locals := 0 } : Room).cells ({ frames := 0, cells := 0, slots := 0, locals := 0 } : Room).slots) := by
  refine MetFree.of_bodySF (plainFor_of_name pn_0) hisR ?_
  intro p e s m args below meth c s₁ Bd hml0 hP hK
  obtain ⟨rfl, hZ, hh⟩ := hP
  have hx := Bd.exec
  have hby := Bd.bytes
  have hlk : meth.locks = false := BodyLoose.notSynchronized Bd
  have hml : c.maxLocals = 1 := hml0
  have hown : s.vm.findClass "com/example/haploweave/haploweave/alignment/Calls" = some m.cls := findClass_of_methodNamed Bd.named
  have hnm := (name_of_methodNamed Bd.named Bd.method).1
  have X0 : Stand p l e ({ frames := 0, cells := 0, slots := 0, locals := 0 } : Room) s m #[(.int p1)] below meth c s₁ [] 0 0 := Stand.of_body Bd
  have e0 : s₁.heap = h0 := by rw [← hh, Bd.state]; rfl
  have N0 := Fr.nil n0
  show Go p e below (Kf s (Q1 Z p1 wL clL h0 n0) ({ frames := 0, cells := 0, slots := 0, locals := 0 } : Room).cells ({ frames := 0, cells := 0, slots := 0, locals := 0 } : Room).slots) (s₁.setTop (entryFrame m #[(.int p1)] 1))
  refine own_s (B := s₁.setTop (mkF m 0 #[.val (.int p1)] [])) (fun t k => castTop (ef_1 m p1) k) ?_
  refine own_s (B := s₁.setTop (mkF m 1 #[.val (.int p1)] [(.int p1)])) (fun t k => XS.iloadN X0.here hx rfl (hb hby d1_0) rfl k) ?_
  refine own_s (B := s₁.setTop (mkF m 4 #[.val (.int p1)] [])) (fun t k => XS.ifNo X0.here hx rfl (hb hby d1_1) rfl ((if0 _ _).trans (tlt hp1).2.2.2) k) ?_
  refine own_s (B := s₁.setTop (mkF m 5 #[.val (.int p1)] [(.int p1)])) (fun t k => XS.iloadN X0.here hx rfl (hb hby d1_4) rfl k) ?_
  obtain ⟨T1, X1, e1, st1⟩ := getS2 X0 hx hZ hown (host := "") (Or.inl (hw _ (List.mem_of_getElem? (i := 5) rfl))) Via.refl e0 S (g := (mkF m 5 #[.val (.int p1)] [(.int p1)])) rfl (hb hby d1_5)
  refine own_s (B := T1.setTop (mkF m 8 #[.val (.int p1)] [(.ref wL), (.int p1)])) st1 ?_
  refine own_s (B := T1.setTop (mkF m 9 #[.val (.int p1)] [(.int (16 : Int32)), (.int p1)])) (fun t k => X1.arraylength hx (by rw [e1]; exact ArL.1) (State.isArrayOf_alike hZ.alike ArL.2.1) (g := (mkF m 8 #[.val (.int p1)] [(.ref wL), (.int p1)])) rfl rfl (hb hby d1_8) t (by rw [szL]; exact k)) ?_
  refine own_s (B := T1.setTop (mkF m 26 #[.val (.int p1)] [])) (fun t k => XS.icmpYes X1.here hx rfl (pc0 := 9) (pc' := 26) rfl (hb hby d1_9) rfl (tlt hp2).1 (by decide) (by decide) k) ?_
  obtain ⟨T2, X2, e2, st2⟩ := getS2 X1 hx hZ hown (host := "") (Or.inl (hw _ (List.mem_of_getElem? (i := 5) rfl))) Via.refl e1 S (g := (mkF m 26 #[.val (.int p1)] [])) rfl (hb hby d1_26)
  refine own_s (B := T2.setTop (mkF m 29 #[.val (.int p1)] [(.ref wL)])) st2 ?_
  refine own_s (B := T2.setTop (mkF m 30 #[.val (.int p1)] [(.int p1), (.ref wL)])) (fun t k => XS.iloadN X2.here hx rfl (hb hby d1_29) rfl k) ?_
  refine own_s (B := T2.setTop (mkF m 31 #[.val (.int p1)] [(.int (letS p1))])) (fun t k => X2.caload hx (j := p1) (v := (.int (letS p1))) (by rw [e2]; exact ArL.1) (State.isArrayOf_alike hZ.alike ArL.2.1) ArL.2.2 (own_in szN hp1 hp2) (hatL p1 hp1 hp2) (g := (mkF m 30 #[.val (.int p1)] [(.int p1), (.ref wL)])) rfl rfl (hb hby d1_30) t k) ?_
  exact own_retB X2 hx hlk (t := .char) Bd.returns (by simp) (hb hby d1_31) (by decide) (by decide) ⟨rfl, N0, e2⟩
theorem d2_0 : decode method_2_code 0 = .ok (.iconst 1, 1) := by decide +kernel
theorem d2_1 : decode method_2_code 1 = .ok (.istore_n 1, 1) := by decide +kernel
theorem d2_2 : decode method_2_code 2 = .ok (.iconst 2, 1) := by decide +kernel
theorem d2_3 : decode method_2_code 3 = .ok (.istore_n 2, 1) := by decide +kernel
theorem d2_4 : decode method_2_code 4 = .ok (.iconst 4, 1) := by decide +kernel
theorem d2_5 : decode method_2_code 5 = .ok (.istore_n 3, 1) := by decide +kernel
theorem d2_6 : decode method_2_code 6 = .ok (.bipush 8, 2) := by decide +kernel
theorem d2_8 : decode method_2_code 8 = .ok (.istore 4, 2) := by decide +kernel
theorem d2_10 : decode method_2_code 10 = .ok (.iload_n 0, 1) := by decide +kernel
theorem d2_11 : decode method_2_code 11 = .ok (.bipush 65, 2) := by decide +kernel
theorem d2_13 : decode method_2_code 13 = .ok (.if_icmp .ne 5, 3) := by decide +kernel
theorem d2_16 : decode method_2_code 16 = .ok (.iload_n 1, 1) := by decide +kernel
theorem d2_17 : decode method_2_code 17 = .ok (.ireturn, 1) := by decide +kernel
theorem d2_18 : decode method_2_code 18 = .ok (.iload_n 0, 1) := by decide +kernel
theorem d2_19 : decode method_2_code 19 = .ok (.bipush 67, 2) := by decide +kernel
theorem d2_21 : decode method_2_code 21 = .ok (.if_icmp .ne 5, 3) := by decide +kernel
theorem d2_24 : decode method_2_code 24 = .ok (.iload_n 2, 1) := by decide +kernel
theorem d2_25 : decode method_2_code 25 = .ok (.ireturn, 1) := by decide +kernel
theorem d2_26 : decode method_2_code 26 = .ok (.iload_n 0, 1) := by decide +kernel
theorem d2_27 : decode method_2_code 27 = .ok (.bipush 71, 2) := by decide +kernel
theorem d2_29 : decode method_2_code 29 = .ok (.if_icmp .ne 5, 3) := by decide +kernel
theorem d2_32 : decode method_2_code 32 = .ok (.iload_n 3, 1) := by decide +kernel
theorem d2_33 : decode method_2_code 33 = .ok (.ireturn, 1) := by decide +kernel
theorem d2_34 : decode method_2_code 34 = .ok (.iload_n 0, 1) := by decide +kernel
theorem d2_35 : decode method_2_code 35 = .ok (.bipush 84, 2) := by decide +kernel
theorem d2_37 : decode method_2_code 37 = .ok (.if_icmp .ne 6, 3) := by decide +kernel
theorem d2_40 : decode method_2_code 40 = .ok (.iload 4, 2) := by decide +kernel
theorem d2_42 : decode method_2_code 42 = .ok (.ireturn, 1) := by decide +kernel
theorem d2_43 : decode method_2_code 43 = .ok (.iload_n 0, 1) := by decide +kernel
theorem d2_44 : decode method_2_code 44 = .ok (.bipush 82, 2) := by decide +kernel
theorem d2_46 : decode method_2_code 46 = .ok (.if_icmp .ne 7, 3) := by decide +kernel
theorem d2_49 : decode method_2_code 49 = .ok (.iload_n 1, 1) := by decide +kernel
theorem d2_50 : decode method_2_code 50 = .ok (.iload_n 3, 1) := by decide +kernel
theorem d2_51 : decode method_2_code 51 = .ok (.ior, 1) := by decide +kernel
theorem d2_52 : decode method_2_code 52 = .ok (.ireturn, 1) := by decide +kernel
theorem d2_53 : decode method_2_code 53 = .ok (.iload_n 0, 1) := by decide +kernel
theorem d2_54 : decode method_2_code 54 = .ok (.bipush 89, 2) := by decide +kernel
theorem d2_56 : decode method_2_code 56 = .ok (.if_icmp .ne 8, 3) := by decide +kernel
theorem d2_59 : decode method_2_code 59 = .ok (.iload_n 2, 1) := by decide +kernel
theorem d2_60 : decode method_2_code 60 = .ok (.iload 4, 2) := by decide +kernel
theorem d2_62 : decode method_2_code 62 = .ok (.ior, 1) := by decide +kernel
theorem d2_63 : decode method_2_code 63 = .ok (.ireturn, 1) := by decide +kernel
theorem d2_64 : decode method_2_code 64 = .ok (.iload_n 0, 1) := by decide +kernel
theorem d2_65 : decode method_2_code 65 = .ok (.bipush 83, 2) := by decide +kernel
theorem d2_67 : decode method_2_code 67 = .ok (.if_icmp .ne 7, 3) := by decide +kernel
theorem d2_70 : decode method_2_code 70 = .ok (.iload_n 2, 1) := by decide +kernel
theorem d2_71 : decode method_2_code 71 = .ok (.iload_n 3, 1) := by decide +kernel
theorem d2_72 : decode method_2_code 72 = .ok (.ior, 1) := by decide +kernel
theorem d2_73 : decode method_2_code 73 = .ok (.ireturn, 1) := by decide +kernel
theorem d2_74 : decode method_2_code 74 = .ok (.iload_n 0, 1) := by decide +kernel
theorem d2_75 : decode method_2_code 75 = .ok (.bipush 87, 2) := by decide +kernel
theorem d2_77 : decode method_2_code 77 = .ok (.if_icmp .ne 8, 3) := by decide +kernel
theorem d2_80 : decode method_2_code 80 = .ok (.iload_n 1, 1) := by decide +kernel
theorem d2_81 : decode method_2_code 81 = .ok (.iload 4, 2) := by decide +kernel
theorem d2_83 : decode method_2_code 83 = .ok (.ior, 1) := by decide +kernel
theorem d2_84 : decode method_2_code 84 = .ok (.ireturn, 1) := by decide +kernel
theorem d2_85 : decode method_2_code 85 = .ok (.iload_n 0, 1) := by decide +kernel
theorem d2_86 : decode method_2_code 86 = .ok (.bipush 75, 2) := by decide +kernel
theorem d2_88 : decode method_2_code 88 = .ok (.if_icmp .ne 8, 3) := by decide +kernel
theorem d2_91 : decode method_2_code 91 = .ok (.iload_n 3, 1) := by decide +kernel
theorem d2_92 : decode method_2_code 92 = .ok (.iload 4, 2) := by decide +kernel
theorem d2_94 : decode method_2_code 94 = .ok (.ior, 1) := by decide +kernel
theorem d2_95 : decode method_2_code 95 = .ok (.ireturn, 1) := by decide +kernel
theorem d2_96 : decode method_2_code 96 = .ok (.iload_n 0, 1) := by decide +kernel
theorem d2_97 : decode method_2_code 97 = .ok (.bipush 77, 2) := by decide +kernel
theorem d2_99 : decode method_2_code 99 = .ok (.if_icmp .ne 7, 3) := by decide +kernel
theorem d2_102 : decode method_2_code 102 = .ok (.iload_n 1, 1) := by decide +kernel
theorem d2_103 : decode method_2_code 103 = .ok (.iload_n 2, 1) := by decide +kernel
theorem d2_104 : decode method_2_code 104 = .ok (.ior, 1) := by decide +kernel
theorem d2_105 : decode method_2_code 105 = .ok (.ireturn, 1) := by decide +kernel
theorem d2_106 : decode method_2_code 106 = .ok (.iload_n 0, 1) := by decide +kernel
theorem d2_107 : decode method_2_code 107 = .ok (.bipush 66, 2) := by decide +kernel
theorem d2_109 : decode method_2_code 109 = .ok (.if_icmp .ne 10, 3) := by decide +kernel
theorem d2_112 : decode method_2_code 112 = .ok (.iload_n 2, 1) := by decide +kernel
theorem d2_113 : decode method_2_code 113 = .ok (.iload_n 3, 1) := by decide +kernel
theorem d2_114 : decode method_2_code 114 = .ok (.ior, 1) := by decide +kernel
theorem d2_115 : decode method_2_code 115 = .ok (.iload 4, 2) := by decide +kernel
theorem d2_117 : decode method_2_code 117 = .ok (.ior, 1) := by decide +kernel
theorem d2_118 : decode method_2_code 118 = .ok (.ireturn, 1) := by decide +kernel
theorem d2_119 : decode method_2_code 119 = .ok (.iload_n 0, 1) := by decide +kernel
theorem d2_120 : decode method_2_code 120 = .ok (.bipush 68, 2) := by decide +kernel
theorem d2_122 : decode method_2_code 122 = .ok (.if_icmp .ne 10, 3) := by decide +kernel
theorem d2_125 : decode method_2_code 125 = .ok (.iload_n 1, 1) := by decide +kernel
theorem d2_126 : decode method_2_code 126 = .ok (.iload_n 3, 1) := by decide +kernel
theorem d2_127 : decode method_2_code 127 = .ok (.ior, 1) := by decide +kernel
theorem d2_128 : decode method_2_code 128 = .ok (.iload 4, 2) := by decide +kernel
theorem d2_130 : decode method_2_code 130 = .ok (.ior, 1) := by decide +kernel
theorem d2_131 : decode method_2_code 131 = .ok (.ireturn, 1) := by decide +kernel
theorem d2_132 : decode method_2_code 132 = .ok (.iload_n 0, 1) := by decide +kernel
theorem d2_133 : decode method_2_code 133 = .ok (.bipush 72, 2) := by decide +kernel
theorem d2_135 : decode method_2_code 135 = .ok (.if_icmp .ne 10, 3) := by decide +kernel
theorem d2_138 : decode method_2_code 138 = .ok (.iload_n 1, 1) := by decide +kernel
theorem d2_139 : decode method_2_code 139 = .ok (.iload_n 2, 1) := by decide +kernel
theorem d2_140 : decode method_2_code 140 = .ok (.ior, 1) := by decide +kernel
theorem d2_141 : decode method_2_code 141 = .ok (.iload 4, 2) := by decide +kernel
theorem d2_143 : decode method_2_code 143 = .ok (.ior, 1) := by decide +kernel
theorem d2_144 : decode method_2_code 144 = .ok (.ireturn, 1) := by decide +kernel
theorem d2_145 : decode method_2_code 145 = .ok (.iload_n 0, 1) := by decide +kernel
theorem d2_146 : decode method_2_code 146 = .ok (.bipush 86, 2) := by decide +kernel
theorem d2_148 : decode method_2_code 148 = .ok (.if_icmp .ne 9, 3) := by decide +kernel
theorem d2_151 : decode method_2_code 151 = .ok (.iload_n 1, 1) := by decide +kernel
theorem d2_152 : decode method_2_code 152 = .ok (.iload_n 2, 1) := by decide +kernel
theorem d2_153 : decode method_2_code 153 = .ok (.ior, 1) := by decide +kernel
theorem d2_154 : decode method_2_code 154 = .ok (.iload_n 3, 1) := by decide +kernel
theorem d2_155 : decode method_2_code 155 = .ok (.ior, 1) := by decide +kernel
theorem d2_156 : decode method_2_code 156 = .ok (.ireturn, 1) := by decide +kernel
theorem d2_157 : decode method_2_code 157 = .ok (.iload_n 0, 1) := by decide +kernel
theorem d2_158 : decode method_2_code 158 = .ok (.bipush 78, 2) := by decide +kernel
theorem d2_160 : decode method_2_code 160 = .ok (.if_icmp .ne 12, 3) := by decide +kernel
theorem d2_163 : decode method_2_code 163 = .ok (.iload_n 1, 1) := by decide +kernel
theorem d2_164 : decode method_2_code 164 = .ok (.iload_n 2, 1) := by decide +kernel
theorem d2_165 : decode method_2_code 165 = .ok (.ior, 1) := by decide +kernel
theorem d2_166 : decode method_2_code 166 = .ok (.iload_n 3, 1) := by decide +kernel
theorem d2_167 : decode method_2_code 167 = .ok (.ior, 1) := by decide +kernel
theorem d2_168 : decode method_2_code 168 = .ok (.iload 4, 2) := by decide +kernel
theorem d2_170 : decode method_2_code 170 = .ok (.ior, 1) := by decide +kernel
theorem d2_171 : decode method_2_code 171 = .ok (.ireturn, 1) := by decide +kernel
theorem d2_172 : decode method_2_code 172 = .ok (.iconst 0, 1) := by decide +kernel
theorem d2_173 : decode method_2_code 173 = .ok (.ireturn, 1) := by decide +kernel
theorem pn_1 : plainName "com/example/haploweave/haploweave/alignment/CallsLetterPinLaw" = true := by first | (simp [plainName, overriddenIn]; done) | decide +kernel
theorem ef_2 (m : MethodId) (x0 : Int32) : entryFrame m #[(.int x0)] 5 = mkF m 0 #[.val (.int x0), .unset, .unset, .unset, .unset] [] := by first | (simp [entryFrame, mkF, argsToLocals, Value.category]; done) | rfl
def Q2 (Z : State) (p1 : Int32) (h0 : Heap) (n0 : Nat) (v : Option Value) (h : Heap) (L : List Loc) : Prop := v = some (.int (dsS p1)) ∧ Fr n0 L ∧ h = h0
set_option maxRecDepth 65536 in
set_option maxHeartbeats 40000000 in
theorem rm2 (l : Launch) (Z : State) (a0 : Array Value) (hw : ∀ d ∈ tables_1, d.before a0 Z = true) (ws : List Jvm.Cond) (p1 : Int32) (h0 : Heap) (n0 : Nat) (Z0 : n0 ≤ h0.size) :
    MetFree l (⟨"com/example/haploweave/haploweave/alignment/CallsLetterPinLaw", "documentedSet", "(C)I"⟩ : MethodName) (head1 (Jvm.Cond.code (⟨"com/example/haploweave/haploweave/alignment/CallsLetterPinLaw", "documentedSet", "(C)I"⟩ : MethodName) method_2_code 5 (some .int) :: ws) ({ frames := 0, cells := 0, slots := 0, locals := 0 } : Room)) (fun a U => a = #[(.int p1)] ∧ Z.Warmed39 U.vm ∧ U.heap = h0) (fun _ _ _ _ _ => True) (fun _ U o U' => ∃ v L, o = .returned v ∧ Q2 Z p1 h0 n0 v U'.heap L ∧ FrameEnd U o U' L ({ frames := 0, cells := 0, slots := 0, locals := 0 } : Room).cells ({ frames := 0, cells := 0, slots := 0, locals := 0 } : Room).slots) := by
  refine MetFree.of_bodySF (plainFor_of_name pn_1) hisR ?_
  intro p e s m args below meth c s₁ Bd hml0 hP hK
  obtain ⟨rfl, hZ, hh⟩ := hP
  have hx := Bd.exec
  have hby := Bd.bytes
  have hlk : meth.locks = false := BodyLoose.notSynchronized Bd
  have hml : c.maxLocals = 5 := hml0
  have hown : s.vm.findClass "com/example/haploweave/haploweave/alignment/CallsLetterPinLaw" = some m.cls := findClass_of_methodNamed Bd.named
  have hnm := (name_of_methodNamed Bd.named Bd.method).1
  have X0 : Stand p l e ({ frames := 0, cells := 0, slots := 0, locals := 0 } : Room) s m #[(.int p1)] below meth c s₁ [] 0 0 := Stand.of_body Bd
  have e0 : s₁.heap = h0 := by rw [← hh, Bd.state]; rfl
  have N0 := Fr.nil n0
  show Go p e below (Kf s (Q2 Z p1 h0 n0) ({ frames := 0, cells := 0, slots := 0, locals := 0 } : Room).cells ({ frames := 0, cells := 0, slots := 0, locals := 0 } : Room).slots) (s₁.setTop (entryFrame m #[(.int p1)] 5))
  refine own_s (B := s₁.setTop (mkF m 0 #[.val (.int p1), .unset, .unset, .unset, .unset] [])) (fun t k => castTop (ef_2 m p1) k) ?_
  refine own_s (B := s₁.setTop (mkF m 1 #[.val (.int p1), .unset, .unset, .unset, .unset] [(.int (1 : Int32))])) (fun t k => XS.iconst X0.here hx rfl (hb hby d2_0) k) ?_
  refine own_s (B := s₁.setTop (mkF m 2 #[.val (.int p1), .val (.int (1 : Int32)), .unset, .unset, .unset] [])) (fun t k => XS.istoreN X0.here hx rfl (hb hby d2_1) rfl (l' := #[.val (.int p1), .val (.int (1 : Int32)), .unset, .unset, .unset]) rfl k) ?_
  refine own_s (B := s₁.setTop (mkF m 3 #[.val (.int p1), .val (.int (1 : Int32)), .unset, .unset, .unset] [(.int (2 : Int32))])) (fun t k => XS.iconst X0.here hx rfl (hb hby d2_2) k) ?_
  refine own_s (B := s₁.setTop (mkF m 4 #[.val (.int p1), .val (.int (1 : Int32)), .val (.int (2 : Int32)), .unset, .unset] [])) (fun t k => XS.istoreN X0.here hx rfl (hb hby d2_3) rfl (l' := #[.val (.int p1), .val (.int (1 : Int32)), .val (.int (2 : Int32)), .unset, .unset]) rfl k) ?_
  refine own_s (B := s₁.setTop (mkF m 5 #[.val (.int p1), .val (.int (1 : Int32)), .val (.int (2 : Int32)), .unset, .unset] [(.int (4 : Int32))])) (fun t k => XS.iconst X0.here hx rfl (hb hby d2_4) k) ?_
  refine own_s (B := s₁.setTop (mkF m 6 #[.val (.int p1), .val (.int (1 : Int32)), .val (.int (2 : Int32)), .val (.int (4 : Int32)), .unset] [])) (fun t k => XS.istoreN X0.here hx rfl (hb hby d2_5) rfl (l' := #[.val (.int p1), .val (.int (1 : Int32)), .val (.int (2 : Int32)), .val (.int (4 : Int32)), .unset]) rfl k) ?_
  refine own_s (B := s₁.setTop (mkF m 8 #[.val (.int p1), .val (.int (1 : Int32)), .val (.int (2 : Int32)), .val (.int (4 : Int32)), .unset] [(.int (8 : Int32))])) (fun t k => XS.bipush X0.here hx rfl (hb hby d2_6) k) ?_
  refine own_s (B := s₁.setTop (mkF m 10 #[.val (.int p1), .val (.int (1 : Int32)), .val (.int (2 : Int32)), .val (.int (4 : Int32)), .val (.int (8 : Int32))] [])) (fun t k => XS.istore X0.here hx rfl (hb hby d2_8) rfl (l' := #[.val (.int p1), .val (.int (1 : Int32)), .val (.int (2 : Int32)), .val (.int (4 : Int32)), .val (.int (8 : Int32))]) rfl k) ?_
  refine own_s (B := s₁.setTop (mkF m 11 #[.val (.int p1), .val (.int (1 : Int32)), .val (.int (2 : Int32)), .val (.int (4 : Int32)), .val (.int (8 : Int32))] [(.int p1)])) (fun t k => XS.iloadN X0.here hx rfl (hb hby d2_10) rfl k) ?_
  refine own_s (B := s₁.setTop (mkF m 13 #[.val (.int p1), .val (.int (1 : Int32)), .val (.int (2 : Int32)), .val (.int (4 : Int32)), .val (.int (8 : Int32))] [(.int (65 : Int32)), (.int p1)])) (fun t k => XS.bipush X0.here hx rfl (hb hby d2_11) k) ?_
  by_cases hc13 : p1 = (65 : Int32)
  · refine own_s (B := s₁.setTop (mkF m 16 #[.val (.int p1), .val (.int (1 : Int32)), .val (.int (2 : Int32)), .val (.int (4 : Int32)), .val (.int (8 : Int32))] [])) (fun t k => XS.icmpNo X0.here hx rfl (hb hby d2_13) rfl (teq hc13).2 k) ?_
    refine own_s (B := s₁.setTop (mkF m 17 #[.val (.int p1), .val (.int (1 : Int32)), .val (.int (2 : Int32)), .val (.int (4 : Int32)), .val (.int (8 : Int32))] [(.int (1 : Int32))])) (fun t k => XS.iloadN X0.here hx rfl (hb hby d2_16) rfl k) ?_
    exact own_retI X0 hx hlk Bd.returns (hb hby d2_17) (by decide) (by decide) ⟨own_i (by unfold dsS; rw [if_pos hc13]; try rfl), N0, e0⟩
  · refine own_s (B := s₁.setTop (mkF m 18 #[.val (.int p1), .val (.int (1 : Int32)), .val (.int (2 : Int32)), .val (.int (4 : Int32)), .val (.int (8 : Int32))] [])) (fun t k => XS.icmpYes X0.here hx rfl (pc0 := 13) (pc' := 18) rfl (hb hby d2_13) rfl (feq hc13).2 (by decide) (by decide) k) ?_
    refine own_s (B := s₁.setTop (mkF m 19 #[.val (.int p1), .val (.int (1 : Int32)), .val (.int (2 : Int32)), .val (.int (4 : Int32)), .val (.int (8 : Int32))] [(.int p1)])) (fun t k => XS.iloadN X0.here hx rfl (hb hby d2_18) rfl k) ?_
    refine own_s (B := s₁.setTop (mkF m 21 #[.val (.int p1), .val (.int (1 : Int32)), .val (.int (2 : Int32)), .val (.int (4 : Int32)), .val (.int (8 : Int32))] [(.int (67 : Int32)), (.int p1)])) (fun t k => XS.bipush X0.here hx rfl (hb hby d2_19) k) ?_
    by_cases hc21 : p1 = (67 : Int32)
    · refine own_s (B := s₁.setTop (mkF m 24 #[.val (.int p1), .val (.int (1 : Int32)), .val (.int (2 : Int32)), .val (.int (4 : Int32)), .val (.int (8 : Int32))] [])) (fun t k => XS.icmpNo X0.here hx rfl (hb hby d2_21) rfl (teq hc21).2 k) ?_
      refine own_s (B := s₁.setTop (mkF m 25 #[.val (.int p1), .val (.int (1 : Int32)), .val (.int (2 : Int32)), .val (.int (4 : Int32)), .val (.int (8 : Int32))] [(.int (2 : Int32))])) (fun t k => XS.iloadN X0.here hx rfl (hb hby d2_24) rfl k) ?_
      exact own_retI X0 hx hlk Bd.returns (hb hby d2_25) (by decide) (by decide) ⟨own_i (by unfold dsS; rw [if_neg hc13, if_pos hc21]; try rfl), N0, e0⟩
    · refine own_s (B := s₁.setTop (mkF m 26 #[.val (.int p1), .val (.int (1 : Int32)), .val (.int (2 : Int32)), .val (.int (4 : Int32)), .val (.int (8 : Int32))] [])) (fun t k => XS.icmpYes X0.here hx rfl (pc0 := 21) (pc' := 26) rfl (hb hby d2_21) rfl (feq hc21).2 (by decide) (by decide) k) ?_
      refine own_s (B := s₁.setTop (mkF m 27 #[.val (.int p1), .val (.int (1 : Int32)), .val (.int (2 : Int32)), .val (.int (4 : Int32)), .val (.int (8 : Int32))] [(.int p1)])) (fun t k => XS.iloadN X0.here hx rfl (hb hby d2_26) rfl k) ?_
      refine own_s (B := s₁.setTop (mkF m 29 #[.val (.int p1), .val (.int (1 : Int32)), .val (.int (2 : Int32)), .val (.int (4 : Int32)), .val (.int (8 : Int32))] [(.int (71 : Int32)), (.int p1)])) (fun t k => XS.bipush X0.here hx rfl (hb hby d2_27) k) ?_
      by_cases hc29 : p1 = (71 : Int32)
      · refine own_s (B := s₁.setTop (mkF m 32 #[.val (.int p1), .val (.int (1 : Int32)), .val (.int (2 : Int32)), .val (.int (4 : Int32)), .val (.int (8 : Int32))] [])) (fun t k => XS.icmpNo X0.here hx rfl (hb hby d2_29) rfl (teq hc29).2 k) ?_
        refine own_s (B := s₁.setTop (mkF m 33 #[.val (.int p1), .val (.int (1 : Int32)), .val (.int (2 : Int32)), .val (.int (4 : Int32)), .val (.int (8 : Int32))] [(.int (4 : Int32))])) (fun t k => XS.iloadN X0.here hx rfl (hb hby d2_32) rfl k) ?_
        exact own_retI X0 hx hlk Bd.returns (hb hby d2_33) (by decide) (by decide) ⟨own_i (by unfold dsS; rw [if_neg hc13, if_neg hc21, if_pos hc29]; try rfl), N0, e0⟩
      · refine own_s (B := s₁.setTop (mkF m 34 #[.val (.int p1), .val (.int (1 : Int32)), .val (.int (2 : Int32)), .val (.int (4 : Int32)), .val (.int (8 : Int32))] [])) (fun t k => XS.icmpYes X0.here hx rfl (pc0 := 29) (pc' := 34) rfl (hb hby d2_29) rfl (feq hc29).2 (by decide) (by decide) k) ?_
        refine own_s (B := s₁.setTop (mkF m 35 #[.val (.int p1), .val (.int (1 : Int32)), .val (.int (2 : Int32)), .val (.int (4 : Int32)), .val (.int (8 : Int32))] [(.int p1)])) (fun t k => XS.iloadN X0.here hx rfl (hb hby d2_34) rfl k) ?_
        refine own_s (B := s₁.setTop (mkF m 37 #[.val (.int p1), .val (.int (1 : Int32)), .val (.int (2 : Int32)), .val (.int (4 : Int32)), .val (.int (8 : Int32))] [(.int (84 : Int32)), (.int p1)])) (fun t k => XS.bipush X0.here hx rfl (hb hby d2_35) k) ?_
        by_cases hc37 : p1 = (84 : Int32)
        · refine own_s (B := s₁.setTop (mkF m 40 #[.val (.int p1), .val (.int (1 : Int32)), .val (.int (2 : Int32)), .val (.int (4 : Int32)), .val (.int (8 : Int32))] [])) (fun t k => XS.icmpNo X0.here hx rfl (hb hby d2_37) rfl (teq hc37).2 k) ?_
          refine own_s (B := s₁.setTop (mkF m 42 #[.val (.int p1), .val (.int (1 : Int32)), .val (.int (2 : Int32)), .val (.int (4 : Int32)), .val (.int (8 : Int32))] [(.int (8 : Int32))])) (fun t k => XS.iload X0.here hx rfl (hb hby d2_40) rfl k) ?_
          exact own_retI X0 hx hlk Bd.returns (hb hby d2_42) (by decide) (by decide) ⟨own_i (by unfold dsS; rw [if_neg hc13, if_neg hc21, if_neg hc29, if_pos hc37]; try rfl), N0, e0⟩
        · refine own_s (B := s₁.setTop (mkF m 43 #[.val (.int p1), .val (.int (1 : Int32)), .val (.int (2 : Int32)), .val (.int (4 : Int32)), .val (.int (8 : Int32))] [])) (fun t k => XS.icmpYes X0.here hx rfl (pc0 := 37) (pc' := 43) rfl (hb hby d2_37) rfl (feq hc37).2 (by decide) (by decide) k) ?_
          refine own_s (B := s₁.setTop (mkF m 44 #[.val (.int p1), .val (.int (1 : Int32)), .val (.int (2 : Int32)), .val (.int (4 : Int32)), .val (.int (8 : Int32))] [(.int p1)])) (fun t k => XS.iloadN X0.here hx rfl (hb hby d2_43) rfl k) ?_
          refine own_s (B := s₁.setTop (mkF m 46 #[.val (.int p1), .val (.int (1 : Int32)), .val (.int (2 : Int32)), .val (.int (4 : Int32)), .val (.int (8 : Int32))] [(.int (82 : Int32)), (.int p1)])) (fun t k => XS.bipush X0.here hx rfl (hb hby d2_44) k) ?_
          by_cases hc46 : p1 = (82 : Int32)
          · refine own_s (B := s₁.setTop (mkF m 49 #[.val (.int p1), .val (.int (1 : Int32)), .val (.int (2 : Int32)), .val (.int (4 : Int32)), .val (.int (8 : Int32))] [])) (fun t k => XS.icmpNo X0.here hx rfl (hb hby d2_46) rfl (teq hc46).2 k) ?_
            refine own_s (B := s₁.setTop (mkF m 50 #[.val (.int p1), .val (.int (1 : Int32)), .val (.int (2 : Int32)), .val (.int (4 : Int32)), .val (.int (8 : Int32))] [(.int (1 : Int32))])) (fun t k => XS.iloadN X0.here hx rfl (hb hby d2_49) rfl k) ?_
            refine own_s (B := s₁.setTop (mkF m 51 #[.val (.int p1), .val (.int (1 : Int32)), .val (.int (2 : Int32)), .val (.int (4 : Int32)), .val (.int (8 : Int32))] [(.int (4 : Int32)), (.int (1 : Int32))])) (fun t k => XS.iloadN X0.here hx rfl (hb hby d2_50) rfl k) ?_
            refine own_s (B := s₁.setTop (mkF m 52 #[.val (.int p1), .val (.int (1 : Int32)), .val (.int (2 : Int32)), .val (.int (4 : Int32)), .val (.int (8 : Int32))] [(.int (5 : Int32))])) (fun t k => XS.ior X0.here hx rfl (hb hby d2_51) rfl k) ?_
            exact own_retI X0 hx hlk Bd.returns (hb hby d2_52) (by decide) (by decide) ⟨own_i (by unfold dsS; rw [if_neg hc13, if_neg hc21, if_neg hc29, if_neg hc37, if_pos hc46]; try rfl), N0, e0⟩
          · refine own_s (B := s₁.setTop (mkF m 53 #[.val (.int p1), .val (.int (1 : Int32)), .val (.int (2 : Int32)), .val (.int (4 : Int32)), .val (.int (8 : Int32))] [])) (fun t k => XS.icmpYes X0.here hx rfl (pc0 := 46) (pc' := 53) rfl (hb hby d2_46) rfl (feq hc46).2 (by decide) (by decide) k) ?_
            refine own_s (B := s₁.setTop (mkF m 54 #[.val (.int p1), .val (.int (1 : Int32)), .val (.int (2 : Int32)), .val (.int (4 : Int32)), .val (.int (8 : Int32))] [(.int p1)])) (fun t k => XS.iloadN X0.here hx rfl (hb hby d2_53) rfl k) ?_
            refine own_s (B := s₁.setTop (mkF m 56 #[.val (.int p1), .val (.int (1 : Int32)), .val (.int (2 : Int32)), .val (.int (4 : Int32)), .val (.int (8 : Int32))] [(.int (89 : Int32)), (.int p1)])) (fun t k => XS.bipush X0.here hx rfl (hb hby d2_54) k) ?_
            by_cases hc56 : p1 = (89 : Int32)
            · refine own_s (B := s₁.setTop (mkF m 59 #[.val (.int p1), .val (.int (1 : Int32)), .val (.int (2 : Int32)), .val (.int (4 : Int32)), .val (.int (8 : Int32))] [])) (fun t k => XS.icmpNo X0.here hx rfl (hb hby d2_56) rfl (teq hc56).2 k) ?_
              refine own_s (B := s₁.setTop (mkF m 60 #[.val (.int p1), .val (.int (1 : Int32)), .val (.int (2 : Int32)), .val (.int (4 : Int32)), .val (.int (8 : Int32))] [(.int (2 : Int32))])) (fun t k => XS.iloadN X0.here hx rfl (hb hby d2_59) rfl k) ?_
              refine own_s (B := s₁.setTop (mkF m 62 #[.val (.int p1), .val (.int (1 : Int32)), .val (.int (2 : Int32)), .val (.int (4 : Int32)), .val (.int (8 : Int32))] [(.int (8 : Int32)), (.int (2 : Int32))])) (fun t k => XS.iload X0.here hx rfl (hb hby d2_60) rfl k) ?_
              refine own_s (B := s₁.setTop (mkF m 63 #[.val (.int p1), .val (.int (1 : Int32)), .val (.int (2 : Int32)), .val (.int (4 : Int32)), .val (.int (8 : Int32))] [(.int (10 : Int32))])) (fun t k => XS.ior X0.here hx rfl (hb hby d2_62) rfl k) ?_
              exact own_retI X0 hx hlk Bd.returns (hb hby d2_63) (by decide) (by decide) ⟨own_i (by unfold dsS; rw [if_neg hc13, if_neg hc21, if_neg hc29, if_neg hc37, if_neg hc46, if_pos hc56]; try rfl), N0, e0⟩
            · refine own_s (B := s₁.setTop (mkF m 64 #[.val (.int p1), .val (.int (1 : Int32)), .val (.int (2 : Int32)), .val (.int (4 : Int32)), .val (.int (8 : Int32))] [])) (fun t k => XS.icmpYes X0.here hx rfl (pc0 := 56) (pc' := 64) rfl (hb hby d2_56) rfl (feq hc56).2 (by decide) (by decide) k) ?_
              refine own_s (B := s₁.setTop (mkF m 65 #[.val (.int p1), .val (.int (1 : Int32)), .val (.int (2 : Int32)), .val (.int (4 : Int32)), .val (.int (8 : Int32))] [(.int p1)])) (fun t k => XS.iloadN X0.here hx rfl (hb hby d2_64) rfl k) ?_
              refine own_s (B := s₁.setTop (mkF m 67 #[.val (.int p1), .val (.int (1 : Int32)), .val (.int (2 : Int32)), .val (.int (4 : Int32)), .val (.int (8 : Int32))] [(.int (83 : Int32)), (.int p1)])) (fun t k => XS.bipush X0.here hx rfl (hb hby d2_65) k) ?_
              by_cases hc67 : p1 = (83 : Int32)
              · refine own_s (B := s₁.setTop (mkF m 70 #[.val (.int p1), .val (.int (1 : Int32)), .val (.int (2 : Int32)), .val (.int (4 : Int32)), .val (.int (8 : Int32))] [])) (fun t k => XS.icmpNo X0.here hx rfl (hb hby d2_67) rfl (teq hc67).2 k) ?_
                refine own_s (B := s₁.setTop (mkF m 71 #[.val (.int p1), .val (.int (1 : Int32)), .val (.int (2 : Int32)), .val (.int (4 : Int32)), .val (.int (8 : Int32))] [(.int (2 : Int32))])) (fun t k => XS.iloadN X0.here hx rfl (hb hby d2_70) rfl k) ?_
                refine own_s (B := s₁.setTop (mkF m 72 #[.val (.int p1), .val (.int (1 : Int32)), .val (.int (2 : Int32)), .val (.int (4 : Int32)), .val (.int (8 : Int32))] [(.int (4 : Int32)), (.int (2 : Int32))])) (fun t k => XS.iloadN X0.here hx rfl (hb hby d2_71) rfl k) ?_
                refine own_s (B := s₁.setTop (mkF m 73 #[.val (.int p1), .val (.int (1 : Int32)), .val (.int (2 : Int32)), .val (.int (4 : Int32)), .val (.int (8 : Int32))] [(.int (6 : Int32))])) (fun t k => XS.ior X0.here hx rfl (hb hby d2_72) rfl k) ?_
                exact own_retI X0 hx hlk Bd.returns (hb hby d2_73) (by decide) (by decide) ⟨own_i (by unfold dsS; rw [if_neg hc13, if_neg hc21, if_neg hc29, if_neg hc37, if_neg hc46, if_neg hc56, if_pos hc67]; try rfl), N0, e0⟩
              · refine own_s (B := s₁.setTop (mkF m 74 #[.val (.int p1), .val (.int (1 : Int32)), .val (.int (2 : Int32)), .val (.int (4 : Int32)), .val (.int (8 : Int32))] [])) (fun t k => XS.icmpYes X0.here hx rfl (pc0 := 67) (pc' := 74) rfl (hb hby d2_67) rfl (feq hc67).2 (by decide) (by decide) k) ?_
                refine own_s (B := s₁.setTop (mkF m 75 #[.val (.int p1), .val (.int (1 : Int32)), .val (.int (2 : Int32)), .val (.int (4 : Int32)), .val (.int (8 : Int32))] [(.int p1)])) (fun t k => XS.iloadN X0.here hx rfl (hb hby d2_74) rfl k) ?_
                refine own_s (B := s₁.setTop (mkF m 77 #[.val (.int p1), .val (.int (1 : Int32)), .val (.int (2 : Int32)), .val (.int (4 : Int32)), .val (.int (8 : Int32))] [(.int (87 : Int32)), (.int p1)])) (fun t k => XS.bipush X0.here hx rfl (hb hby d2_75) k) ?_
                by_cases hc77 : p1 = (87 : Int32)
                · refine own_s (B := s₁.setTop (mkF m 80 #[.val (.int p1), .val (.int (1 : Int32)), .val (.int (2 : Int32)), .val (.int (4 : Int32)), .val (.int (8 : Int32))] [])) (fun t k => XS.icmpNo X0.here hx rfl (hb hby d2_77) rfl (teq hc77).2 k) ?_
                  refine own_s (B := s₁.setTop (mkF m 81 #[.val (.int p1), .val (.int (1 : Int32)), .val (.int (2 : Int32)), .val (.int (4 : Int32)), .val (.int (8 : Int32))] [(.int (1 : Int32))])) (fun t k => XS.iloadN X0.here hx rfl (hb hby d2_80) rfl k) ?_
                  refine own_s (B := s₁.setTop (mkF m 83 #[.val (.int p1), .val (.int (1 : Int32)), .val (.int (2 : Int32)), .val (.int (4 : Int32)), .val (.int (8 : Int32))] [(.int (8 : Int32)), (.int (1 : Int32))])) (fun t k => XS.iload X0.here hx rfl (hb hby d2_81) rfl k) ?_
                  refine own_s (B := s₁.setTop (mkF m 84 #[.val (.int p1), .val (.int (1 : Int32)), .val (.int (2 : Int32)), .val (.int (4 : Int32)), .val (.int (8 : Int32))] [(.int (9 : Int32))])) (fun t k => XS.ior X0.here hx rfl (hb hby d2_83) rfl k) ?_
                  exact own_retI X0 hx hlk Bd.returns (hb hby d2_84) (by decide) (by decide) ⟨own_i (by unfold dsS; rw [if_neg hc13, if_neg hc21, if_neg hc29, if_neg hc37, if_neg hc46, if_neg hc56, if_neg hc67, if_pos hc77]; try rfl), N0, e0⟩
                · refine own_s (B := s₁.setTop (mkF m 85 #[.val (.int p1), .val (.int (1 : Int32)), .val (.int (2 : Int32)), .val (.int (4 : Int32)), .val (.int (8 : Int32))] [])) (fun t k => XS.icmpYes X0.here hx rfl (pc0 := 77) (pc' := 85) rfl (hb hby d2_77) rfl (feq hc77).2 (by decide) (by decide) k) ?_
                  refine own_s (B := s₁.setTop (mkF m 86 #[.val (.int p1), .val (.int (1 : Int32)), .val (.int (2 : Int32)), .val (.int (4 : Int32)), .val (.int (8 : Int32))] [(.int p1)])) (fun t k => XS.iloadN X0.here hx rfl (hb hby d2_85) rfl k) ?_
                  refine own_s (B := s₁.setTop (mkF m 88 #[.val (.int p1), .val (.int (1 : Int32)), .val (.int (2 : Int32)), .val (.int (4 : Int32)), .val (.int (8 : Int32))] [(.int (75 : Int32)), (.int p1)])) (fun t k => XS.bipush X0.here hx rfl (hb hby d2_86) k) ?_
                  by_cases hc88 : p1 = (75 : Int32)
                  · refine own_s (B := s₁.setTop (mkF m 91 #[.val (.int p1), .val (.int (1 : Int32)), .val (.int (2 : Int32)), .val (.int (4 : Int32)), .val (.int (8 : Int32))] [])) (fun t k => XS.icmpNo X0.here hx rfl (hb hby d2_88) rfl (teq hc88).2 k) ?_
                    refine own_s (B := s₁.setTop (mkF m 92 #[.val (.int p1), .val (.int (1 : Int32)), .val (.int (2 : Int32)), .val (.int (4 : Int32)), .val (.int (8 : Int32))] [(.int (4 : Int32))])) (fun t k => XS.iloadN X0.here hx rfl (hb hby d2_91) rfl k) ?_
                    refine own_s (B := s₁.setTop (mkF m 94 #[.val (.int p1), .val (.int (1 : Int32)), .val (.int (2 : Int32)), .val (.int (4 : Int32)), .val (.int (8 : Int32))] [(.int (8 : Int32)), (.int (4 : Int32))])) (fun t k => XS.iload X0.here hx rfl (hb hby d2_92) rfl k) ?_
                    refine own_s (B := s₁.setTop (mkF m 95 #[.val (.int p1), .val (.int (1 : Int32)), .val (.int (2 : Int32)), .val (.int (4 : Int32)), .val (.int (8 : Int32))] [(.int (12 : Int32))])) (fun t k => XS.ior X0.here hx rfl (hb hby d2_94) rfl k) ?_
                    exact own_retI X0 hx hlk Bd.returns (hb hby d2_95) (by decide) (by decide) ⟨own_i (by unfold dsS; rw [if_neg hc13, if_neg hc21, if_neg hc29, if_neg hc37, if_neg hc46, if_neg hc56, if_neg hc67, if_neg hc77, if_pos hc88]; try rfl), N0, e0⟩
                  · refine own_s (B := s₁.setTop (mkF m 96 #[.val (.int p1), .val (.int (1 : Int32)), .val (.int (2 : Int32)), .val (.int (4 : Int32)), .val (.int (8 : Int32))] [])) (fun t k => XS.icmpYes X0.here hx rfl (pc0 := 88) (pc' := 96) rfl (hb hby d2_88) rfl (feq hc88).2 (by decide) (by decide) k) ?_
                    refine own_s (B := s₁.setTop (mkF m 97 #[.val (.int p1), .val (.int (1 : Int32)), .val (.int (2 : Int32)), .val (.int (4 : Int32)), .val (.int (8 : Int32))] [(.int p1)])) (fun t k => XS.iloadN X0.here hx rfl (hb hby d2_96) rfl k) ?_
                    refine own_s (B := s₁.setTop (mkF m 99 #[.val (.int p1), .val (.int (1 : Int32)), .val (.int (2 : Int32)), .val (.int (4 : Int32)), .val (.int (8 : Int32))] [(.int (77 : Int32)), (.int p1)])) (fun t k => XS.bipush X0.here hx rfl (hb hby d2_97) k) ?_
                    by_cases hc99 : p1 = (77 : Int32)
                    · refine own_s (B := s₁.setTop (mkF m 102 #[.val (.int p1), .val (.int (1 : Int32)), .val (.int (2 : Int32)), .val (.int (4 : Int32)), .val (.int (8 : Int32))] [])) (fun t k => XS.icmpNo X0.here hx rfl (hb hby d2_99) rfl (teq hc99).2 k) ?_
                      refine own_s (B := s₁.setTop (mkF m 103 #[.val (.int p1), .val (.int (1 : Int32)), .val (.int (2 : Int32)), .val (.int (4 : Int32)), .val (.int (8 : Int32))] [(.int (1 : Int32))])) (fun t k => XS.iloadN X0.here hx rfl (hb hby d2_102) rfl k) ?_
                      refine own_s (B := s₁.setTop (mkF m 104 #[.val (.int p1), .val (.int (1 : Int32)), .val (.int (2 : Int32)), .val (.int (4 : Int32)), .val (.int (8 : Int32))] [(.int (2 : Int32)), (.int (1 : Int32))])) (fun t k => XS.iloadN X0.here hx rfl (hb hby d2_103) rfl k) ?_
                      refine own_s (B := s₁.setTop (mkF m 105 #[.val (.int p1), .val (.int (1 : Int32)), .val (.int (2 : Int32)), .val (.int (4 : Int32)), .val (.int (8 : Int32))] [(.int (3 : Int32))])) (fun t k => XS.ior X0.here hx rfl (hb hby d2_104) rfl k) ?_
                      exact own_retI X0 hx hlk Bd.returns (hb hby d2_105) (by decide) (by decide) ⟨own_i (by unfold dsS; rw [if_neg hc13, if_neg hc21, if_neg hc29, if_neg hc37, if_neg hc46, if_neg hc56, if_neg hc67, if_neg hc77, if_neg hc88, if_pos hc99]; try rfl), N0, e0⟩
                    · refine own_s (B := s₁.setTop (mkF m 106 #[.val (.int p1), .val (.int (1 : Int32)), .val (.int (2 : Int32)), .val (.int (4 : Int32)), .val (.int (8 : Int32))] [])) (fun t k => XS.icmpYes X0.here hx rfl (pc0 := 99) (pc' := 106) rfl (hb hby d2_99) rfl (feq hc99).2 (by decide) (by decide) k) ?_
                      refine own_s (B := s₁.setTop (mkF m 107 #[.val (.int p1), .val (.int (1 : Int32)), .val (.int (2 : Int32)), .val (.int (4 : Int32)), .val (.int (8 : Int32))] [(.int p1)])) (fun t k => XS.iloadN X0.here hx rfl (hb hby d2_106) rfl k) ?_
                      refine own_s (B := s₁.setTop (mkF m 109 #[.val (.int p1), .val (.int (1 : Int32)), .val (.int (2 : Int32)), .val (.int (4 : Int32)), .val (.int (8 : Int32))] [(.int (66 : Int32)), (.int p1)])) (fun t k => XS.bipush X0.here hx rfl (hb hby d2_107) k) ?_
                      by_cases hc109 : p1 = (66 : Int32)
                      · refine own_s (B := s₁.setTop (mkF m 112 #[.val (.int p1), .val (.int (1 : Int32)), .val (.int (2 : Int32)), .val (.int (4 : Int32)), .val (.int (8 : Int32))] [])) (fun t k => XS.icmpNo X0.here hx rfl (hb hby d2_109) rfl (teq hc109).2 k) ?_
                        refine own_s (B := s₁.setTop (mkF m 113 #[.val (.int p1), .val (.int (1 : Int32)), .val (.int (2 : Int32)), .val (.int (4 : Int32)), .val (.int (8 : Int32))] [(.int (2 : Int32))])) (fun t k => XS.iloadN X0.here hx rfl (hb hby d2_112) rfl k) ?_
                        refine own_s (B := s₁.setTop (mkF m 114 #[.val (.int p1), .val (.int (1 : Int32)), .val (.int (2 : Int32)), .val (.int (4 : Int32)), .val (.int (8 : Int32))] [(.int (4 : Int32)), (.int (2 : Int32))])) (fun t k => XS.iloadN X0.here hx rfl (hb hby d2_113) rfl k) ?_
                        refine own_s (B := s₁.setTop (mkF m 115 #[.val (.int p1), .val (.int (1 : Int32)), .val (.int (2 : Int32)), .val (.int (4 : Int32)), .val (.int (8 : Int32))] [(.int (6 : Int32))])) (fun t k => XS.ior X0.here hx rfl (hb hby d2_114) rfl k) ?_
                        refine own_s (B := s₁.setTop (mkF m 117 #[.val (.int p1), .val (.int (1 : Int32)), .val (.int (2 : Int32)), .val (.int (4 : Int32)), .val (.int (8 : Int32))] [(.int (8 : Int32)), (.int (6 : Int32))])) (fun t k => XS.iload X0.here hx rfl (hb hby d2_115) rfl k) ?_
                        refine own_s (B := s₁.setTop (mkF m 118 #[.val (.int p1), .val (.int (1 : Int32)), .val (.int (2 : Int32)), .val (.int (4 : Int32)), .val (.int (8 : Int32))] [(.int (14 : Int32))])) (fun t k => XS.ior X0.here hx rfl (hb hby d2_117) rfl k) ?_
                        exact own_retI X0 hx hlk Bd.returns (hb hby d2_118) (by decide) (by decide) ⟨own_i (by unfold dsS; rw [if_neg hc13, if_neg hc21, if_neg hc29, if_neg hc37, if_neg hc46, if_neg hc56, if_neg hc67, if_neg hc77, if_neg hc88, if_neg hc99, if_pos hc109]; try rfl), N0, e0⟩
                      · refine own_s (B := s₁.setTop (mkF m 119 #[.val (.int p1), .val (.int (1 : Int32)), .val (.int (2 : Int32)), .val (.int (4 : Int32)), .val (.int (8 : Int32))] [])) (fun t k => XS.icmpYes X0.here hx rfl (pc0 := 109) (pc' := 119) rfl (hb hby d2_109) rfl (feq hc109).2 (by decide) (by decide) k) ?_
                        refine own_s (B := s₁.setTop (mkF m 120 #[.val (.int p1), .val (.int (1 : Int32)), .val (.int (2 : Int32)), .val (.int (4 : Int32)), .val (.int (8 : Int32))] [(.int p1)])) (fun t k => XS.iloadN X0.here hx rfl (hb hby d2_119) rfl k) ?_
                        refine own_s (B := s₁.setTop (mkF m 122 #[.val (.int p1), .val (.int (1 : Int32)), .val (.int (2 : Int32)), .val (.int (4 : Int32)), .val (.int (8 : Int32))] [(.int (68 : Int32)), (.int p1)])) (fun t k => XS.bipush X0.here hx rfl (hb hby d2_120) k) ?_
                        by_cases hc122 : p1 = (68 : Int32)
                        · refine own_s (B := s₁.setTop (mkF m 125 #[.val (.int p1), .val (.int (1 : Int32)), .val (.int (2 : Int32)), .val (.int (4 : Int32)), .val (.int (8 : Int32))] [])) (fun t k => XS.icmpNo X0.here hx rfl (hb hby d2_122) rfl (teq hc122).2 k) ?_
                          refine own_s (B := s₁.setTop (mkF m 126 #[.val (.int p1), .val (.int (1 : Int32)), .val (.int (2 : Int32)), .val (.int (4 : Int32)), .val (.int (8 : Int32))] [(.int (1 : Int32))])) (fun t k => XS.iloadN X0.here hx rfl (hb hby d2_125) rfl k) ?_
                          refine own_s (B := s₁.setTop (mkF m 127 #[.val (.int p1), .val (.int (1 : Int32)), .val (.int (2 : Int32)), .val (.int (4 : Int32)), .val (.int (8 : Int32))] [(.int (4 : Int32)), (.int (1 : Int32))])) (fun t k => XS.iloadN X0.here hx rfl (hb hby d2_126) rfl k) ?_
                          refine own_s (B := s₁.setTop (mkF m 128 #[.val (.int p1), .val (.int (1 : Int32)), .val (.int (2 : Int32)), .val (.int (4 : Int32)), .val (.int (8 : Int32))] [(.int (5 : Int32))])) (fun t k => XS.ior X0.here hx rfl (hb hby d2_127) rfl k) ?_
                          refine own_s (B := s₁.setTop (mkF m 130 #[.val (.int p1), .val (.int (1 : Int32)), .val (.int (2 : Int32)), .val (.int (4 : Int32)), .val (.int (8 : Int32))] [(.int (8 : Int32)), (.int (5 : Int32))])) (fun t k => XS.iload X0.here hx rfl (hb hby d2_128) rfl k) ?_
                          refine own_s (B := s₁.setTop (mkF m 131 #[.val (.int p1), .val (.int (1 : Int32)), .val (.int (2 : Int32)), .val (.int (4 : Int32)), .val (.int (8 : Int32))] [(.int (13 : Int32))])) (fun t k => XS.ior X0.here hx rfl (hb hby d2_130) rfl k) ?_
                          exact own_retI X0 hx hlk Bd.returns (hb hby d2_131) (by decide) (by decide) ⟨own_i (by unfold dsS; rw [if_neg hc13, if_neg hc21, if_neg hc29, if_neg hc37, if_neg hc46, if_neg hc56, if_neg hc67, if_neg hc77, if_neg hc88, if_neg hc99, if_neg hc109, if_pos hc122]; try rfl), N0, e0⟩
                        · refine own_s (B := s₁.setTop (mkF m 132 #[.val (.int p1), .val (.int (1 : Int32)), .val (.int (2 : Int32)), .val (.int (4 : Int32)), .val (.int (8 : Int32))] [])) (fun t k => XS.icmpYes X0.here hx rfl (pc0 := 122) (pc' := 132) rfl (hb hby d2_122) rfl (feq hc122).2 (by decide) (by decide) k) ?_
                          refine own_s (B := s₁.setTop (mkF m 133 #[.val (.int p1), .val (.int (1 : Int32)), .val (.int (2 : Int32)), .val (.int (4 : Int32)), .val (.int (8 : Int32))] [(.int p1)])) (fun t k => XS.iloadN X0.here hx rfl (hb hby d2_132) rfl k) ?_
                          refine own_s (B := s₁.setTop (mkF m 135 #[.val (.int p1), .val (.int (1 : Int32)), .val (.int (2 : Int32)), .val (.int (4 : Int32)), .val (.int (8 : Int32))] [(.int (72 : Int32)), (.int p1)])) (fun t k => XS.bipush X0.here hx rfl (hb hby d2_133) k) ?_
                          by_cases hc135 : p1 = (72 : Int32)
                          · refine own_s (B := s₁.setTop (mkF m 138 #[.val (.int p1), .val (.int (1 : Int32)), .val (.int (2 : Int32)), .val (.int (4 : Int32)), .val (.int (8 : Int32))] [])) (fun t k => XS.icmpNo X0.here hx rfl (hb hby d2_135) rfl (teq hc135).2 k) ?_
                            refine own_s (B := s₁.setTop (mkF m 139 #[.val (.int p1), .val (.int (1 : Int32)), .val (.int (2 : Int32)), .val (.int (4 : Int32)), .val (.int (8 : Int32))] [(.int (1 : Int32))])) (fun t k => XS.iloadN X0.here hx rfl (hb hby d2_138) rfl k) ?_
                            refine own_s (B := s₁.setTop (mkF m 140 #[.val (.int p1), .val (.int (1 : Int32)), .val (.int (2 : Int32)), .val (.int (4 : Int32)), .val (.int (8 : Int32))] [(.int (2 : Int32)), (.int (1 : Int32))])) (fun t k => XS.iloadN X0.here hx rfl (hb hby d2_139) rfl k) ?_
                            refine own_s (B := s₁.setTop (mkF m 141 #[.val (.int p1), .val (.int (1 : Int32)), .val (.int (2 : Int32)), .val (.int (4 : Int32)), .val (.int (8 : Int32))] [(.int (3 : Int32))])) (fun t k => XS.ior X0.here hx rfl (hb hby d2_140) rfl k) ?_
                            refine own_s (B := s₁.setTop (mkF m 143 #[.val (.int p1), .val (.int (1 : Int32)), .val (.int (2 : Int32)), .val (.int (4 : Int32)), .val (.int (8 : Int32))] [(.int (8 : Int32)), (.int (3 : Int32))])) (fun t k => XS.iload X0.here hx rfl (hb hby d2_141) rfl k) ?_
                            refine own_s (B := s₁.setTop (mkF m 144 #[.val (.int p1), .val (.int (1 : Int32)), .val (.int (2 : Int32)), .val (.int (4 : Int32)), .val (.int (8 : Int32))] [(.int (11 : Int32))])) (fun t k => XS.ior X0.here hx rfl (hb hby d2_143) rfl k) ?_
                            exact own_retI X0 hx hlk Bd.returns (hb hby d2_144) (by decide) (by decide) ⟨own_i (by unfold dsS; rw [if_neg hc13, if_neg hc21, if_neg hc29, if_neg hc37, if_neg hc46, if_neg hc56, if_neg hc67, if_neg hc77, if_neg hc88, if_neg hc99, if_neg hc109, if_neg hc122, if_pos hc135]; try rfl), N0, e0⟩
                          · refine own_s (B := s₁.setTop (mkF m 145 #[.val (.int p1), .val (.int (1 : Int32)), .val (.int (2 : Int32)), .val (.int (4 : Int32)), .val (.int (8 : Int32))] [])) (fun t k => XS.icmpYes X0.here hx rfl (pc0 := 135) (pc' := 145) rfl (hb hby d2_135) rfl (feq hc135).2 (by decide) (by decide) k) ?_
                            refine own_s (B := s₁.setTop (mkF m 146 #[.val (.int p1), .val (.int (1 : Int32)), .val (.int (2 : Int32)), .val (.int (4 : Int32)), .val (.int (8 : Int32))] [(.int p1)])) (fun t k => XS.iloadN X0.here hx rfl (hb hby d2_145) rfl k) ?_
                            refine own_s (B := s₁.setTop (mkF m 148 #[.val (.int p1), .val (.int (1 : Int32)), .val (.int (2 : Int32)), .val (.int (4 : Int32)), .val (.int (8 : Int32))] [(.int (86 : Int32)), (.int p1)])) (fun t k => XS.bipush X0.here hx rfl (hb hby d2_146) k) ?_
                            by_cases hc148 : p1 = (86 : Int32)
                            · refine own_s (B := s₁.setTop (mkF m 151 #[.val (.int p1), .val (.int (1 : Int32)), .val (.int (2 : Int32)), .val (.int (4 : Int32)), .val (.int (8 : Int32))] [])) (fun t k => XS.icmpNo X0.here hx rfl (hb hby d2_148) rfl (teq hc148).2 k) ?_
                              refine own_s (B := s₁.setTop (mkF m 152 #[.val (.int p1), .val (.int (1 : Int32)), .val (.int (2 : Int32)), .val (.int (4 : Int32)), .val (.int (8 : Int32))] [(.int (1 : Int32))])) (fun t k => XS.iloadN X0.here hx rfl (hb hby d2_151) rfl k) ?_
                              refine own_s (B := s₁.setTop (mkF m 153 #[.val (.int p1), .val (.int (1 : Int32)), .val (.int (2 : Int32)), .val (.int (4 : Int32)), .val (.int (8 : Int32))] [(.int (2 : Int32)), (.int (1 : Int32))])) (fun t k => XS.iloadN X0.here hx rfl (hb hby d2_152) rfl k) ?_
                              refine own_s (B := s₁.setTop (mkF m 154 #[.val (.int p1), .val (.int (1 : Int32)), .val (.int (2 : Int32)), .val (.int (4 : Int32)), .val (.int (8 : Int32))] [(.int (3 : Int32))])) (fun t k => XS.ior X0.here hx rfl (hb hby d2_153) rfl k) ?_
                              refine own_s (B := s₁.setTop (mkF m 155 #[.val (.int p1), .val (.int (1 : Int32)), .val (.int (2 : Int32)), .val (.int (4 : Int32)), .val (.int (8 : Int32))] [(.int (4 : Int32)), (.int (3 : Int32))])) (fun t k => XS.iloadN X0.here hx rfl (hb hby d2_154) rfl k) ?_
                              refine own_s (B := s₁.setTop (mkF m 156 #[.val (.int p1), .val (.int (1 : Int32)), .val (.int (2 : Int32)), .val (.int (4 : Int32)), .val (.int (8 : Int32))] [(.int (7 : Int32))])) (fun t k => XS.ior X0.here hx rfl (hb hby d2_155) rfl k) ?_
                              exact own_retI X0 hx hlk Bd.returns (hb hby d2_156) (by decide) (by decide) ⟨own_i (by unfold dsS; rw [if_neg hc13, if_neg hc21, if_neg hc29, if_neg hc37, if_neg hc46, if_neg hc56, if_neg hc67, if_neg hc77, if_neg hc88, if_neg hc99, if_neg hc109, if_neg hc122, if_neg hc135, if_pos hc148]; try rfl), N0, e0⟩
                            · refine own_s (B := s₁.setTop (mkF m 157 #[.val (.int p1), .val (.int (1 : Int32)), .val (.int (2 : Int32)), .val (.int (4 : Int32)), .val (.int (8 : Int32))] [])) (fun t k => XS.icmpYes X0.here hx rfl (pc0 := 148) (pc' := 157) rfl (hb hby d2_148) rfl (feq hc148).2 (by decide) (by decide) k) ?_
                              refine own_s (B := s₁.setTop (mkF m 158 #[.val (.int p1), .val (.int (1 : Int32)), .val (.int (2 : Int32)), .val (.int (4 : Int32)), .val (.int (8 : Int32))] [(.int p1)])) (fun t k => XS.iloadN X0.here hx rfl (hb hby d2_157) rfl k) ?_
                              refine own_s (B := s₁.setTop (mkF m 160 #[.val (.int p1), .val (.int (1 : Int32)), .val (.int (2 : Int32)), .val (.int (4 : Int32)), .val (.int (8 : Int32))] [(.int (78 : Int32)), (.int p1)])) (fun t k => XS.bipush X0.here hx rfl (hb hby d2_158) k) ?_
                              by_cases hc160 : p1 = (78 : Int32)
                              · refine own_s (B := s₁.setTop (mkF m 163 #[.val (.int p1), .val (.int (1 : Int32)), .val (.int (2 : Int32)), .val (.int (4 : Int32)), .val (.int (8 : Int32))] [])) (fun t k => XS.icmpNo X0.here hx rfl (hb hby d2_160) rfl (teq hc160).2 k) ?_
                                refine own_s (B := s₁.setTop (mkF m 164 #[.val (.int p1), .val (.int (1 : Int32)), .val (.int (2 : Int32)), .val (.int (4 : Int32)), .val (.int (8 : Int32))] [(.int (1 : Int32))])) (fun t k => XS.iloadN X0.here hx rfl (hb hby d2_163) rfl k) ?_
                                refine own_s (B := s₁.setTop (mkF m 165 #[.val (.int p1), .val (.int (1 : Int32)), .val (.int (2 : Int32)), .val (.int (4 : Int32)), .val (.int (8 : Int32))] [(.int (2 : Int32)), (.int (1 : Int32))])) (fun t k => XS.iloadN X0.here hx rfl (hb hby d2_164) rfl k) ?_
                                refine own_s (B := s₁.setTop (mkF m 166 #[.val (.int p1), .val (.int (1 : Int32)), .val (.int (2 : Int32)), .val (.int (4 : Int32)), .val (.int (8 : Int32))] [(.int (3 : Int32))])) (fun t k => XS.ior X0.here hx rfl (hb hby d2_165) rfl k) ?_
                                refine own_s (B := s₁.setTop (mkF m 167 #[.val (.int p1), .val (.int (1 : Int32)), .val (.int (2 : Int32)), .val (.int (4 : Int32)), .val (.int (8 : Int32))] [(.int (4 : Int32)), (.int (3 : Int32))])) (fun t k => XS.iloadN X0.here hx rfl (hb hby d2_166) rfl k) ?_
                                refine own_s (B := s₁.setTop (mkF m 168 #[.val (.int p1), .val (.int (1 : Int32)), .val (.int (2 : Int32)), .val (.int (4 : Int32)), .val (.int (8 : Int32))] [(.int (7 : Int32))])) (fun t k => XS.ior X0.here hx rfl (hb hby d2_167) rfl k) ?_
                                refine own_s (B := s₁.setTop (mkF m 170 #[.val (.int p1), .val (.int (1 : Int32)), .val (.int (2 : Int32)), .val (.int (4 : Int32)), .val (.int (8 : Int32))] [(.int (8 : Int32)), (.int (7 : Int32))])) (fun t k => XS.iload X0.here hx rfl (hb hby d2_168) rfl k) ?_
                                refine own_s (B := s₁.setTop (mkF m 171 #[.val (.int p1), .val (.int (1 : Int32)), .val (.int (2 : Int32)), .val (.int (4 : Int32)), .val (.int (8 : Int32))] [(.int (15 : Int32))])) (fun t k => XS.ior X0.here hx rfl (hb hby d2_170) rfl k) ?_
                                exact own_retI X0 hx hlk Bd.returns (hb hby d2_171) (by decide) (by decide) ⟨own_i (by unfold dsS; rw [if_neg hc13, if_neg hc21, if_neg hc29, if_neg hc37, if_neg hc46, if_neg hc56, if_neg hc67, if_neg hc77, if_neg hc88, if_neg hc99, if_neg hc109, if_neg hc122, if_neg hc135, if_neg hc148, if_pos hc160]; try rfl), N0, e0⟩
                              · refine own_s (B := s₁.setTop (mkF m 172 #[.val (.int p1), .val (.int (1 : Int32)), .val (.int (2 : Int32)), .val (.int (4 : Int32)), .val (.int (8 : Int32))] [])) (fun t k => XS.icmpYes X0.here hx rfl (pc0 := 160) (pc' := 172) rfl (hb hby d2_160) rfl (feq hc160).2 (by decide) (by decide) k) ?_
                                refine own_s (B := s₁.setTop (mkF m 173 #[.val (.int p1), .val (.int (1 : Int32)), .val (.int (2 : Int32)), .val (.int (4 : Int32)), .val (.int (8 : Int32))] [(.int (0 : Int32))])) (fun t k => XS.iconst X0.here hx rfl (hb hby d2_172) k) ?_
                                exact own_retI X0 hx hlk Bd.returns (hb hby d2_173) (by decide) (by decide) ⟨own_i (by unfold dsS; rw [if_neg hc13, if_neg hc21, if_neg hc29, if_neg hc37, if_neg hc46, if_neg hc56, if_neg hc67, if_neg hc77, if_neg hc88, if_neg hc99, if_neg hc109, if_neg hc122, if_neg hc135, if_neg hc148, if_neg hc160]; try rfl), N0, e0⟩
theorem pd_0 : parseMethodDescriptor "(I)C" = some ⟨[.int], some .char⟩ := by decide +kernel
theorem pd_1 : parseMethodDescriptor "(C)I" = some ⟨[.char], some .int⟩ := by decide +kernel
theorem ef_0 (m : MethodId) (x0 : Int32) : entryFrame m #[(.int x0)] maxLocals = mkF m 0 #[.val (.int x0), .unset, .unset] [] := by first | (simp [entryFrame, mkF, argsToLocals, Value.category, maxLocals]; done) | rfl
def Q0 (Z : State) (p1 : Int32) (wL : Addr) (clL : Cell) (h0 : Heap) (n0 : Nat) (v : Option Value) (h : Heap) (L : List Loc) : Prop := v = some (.int 1) ∧ Fr n0 L
set_option maxRecDepth 65536 in
set_option maxHeartbeats 40000000 in
theorem rm0 (l : Launch) (Z : State) (a0 : Array Value) (hw : ∀ d ∈ tables_1, d.before a0 Z = true) (ws : List Jvm.Cond) (p1 : Int32) (wL : Addr) (clL : Cell) (h0 : Heap) (n0 : Nat) (Z0 : n0 ≤ h0.size) (S : Sta Z h0 "com/example/haploweave/haploweave/alignment/Calls" "LETTER" "[C" (.ref wL)) (ArL : Arr Z h0 wL clL .char) (szL : clL.slots.size.toInt32 = (16 : Int32)) (szN : clL.slots.size = 16) (hatL : ∀ j : Int32, (0 : Int32) < j → j < (16 : Int32) → clL.slots[j.toNatClampNeg]? = some (.int (letS j))) :
    MetFree l x (head1 (Jvm.Cond.code x code maxLocals ret :: ws) room_1) (fun a U => a = #[(.int p1)] ∧ Z.Warmed39 U.vm ∧ U.heap = h0) (fun _ _ _ _ _ => True) (fun _ U o U' => ∃ v L, o = .returned v ∧ Q0 Z p1 wL clL h0 n0 v U'.heap L ∧ FrameEnd U o U' L room_1.cells room_1.slots) := by
  refine MetFree.of_bodySF (plainFor_of_name pn_1) hisR ?_
  intro p e s m args below meth c s₁ Bd hml0 hP hK
  obtain ⟨rfl, hZ, hh⟩ := hP
  have hx := Bd.exec
  have hby := Bd.bytes
  have hlk : meth.locks = false := BodyLoose.notSynchronized Bd
  have hml : c.maxLocals = 3 := hml0
  have hown : s.vm.findClass "com/example/haploweave/haploweave/alignment/CallsLetterPinLaw" = some m.cls := findClass_of_methodNamed Bd.named
  have hnm := (name_of_methodNamed Bd.named Bd.method).1
  have X0 : Stand p l e room_1 s m #[(.int p1)] below meth c s₁ [] 0 0 := Stand.of_body Bd
  have e0 : s₁.heap = h0 := by rw [← hh, Bd.state]; rfl
  have N0 := Fr.nil n0
  show Go p e below (Kf s (Q0 Z p1 wL clL h0 n0) room_1.cells room_1.slots) (s₁.setTop (entryFrame m #[(.int p1)] maxLocals))
  refine own_s (B := s₁.setTop (mkF m 0 #[.val (.int p1), .unset, .unset] [])) (fun t k => castTop (ef_0 m p1) k) ?_
  refine own_s (B := s₁.setTop (mkF m 1 #[.val (.int p1), .unset, .unset] [(.int p1)])) (fun t k => XS.iloadN X0.here hx rfl (hb hby at_0) rfl k) ?_
  refine own_s (B := s₁.setTop (mkF m 3 #[.val (.int p1), .unset, .unset] [(.int (2147483647 : Int32)), (.int p1)])) (fun t k => X0.ldcInt hx hown (mvT hZ (hw _ (List.mem_of_getElem? (i := 0) rfl))) (g := (mkF m 1 #[.val (.int p1), .unset, .unset] [(.int p1)])) rfl (hb hby at_1) t k) ?_
  refine own_s (B := s₁.setTop (mkF m 4 #[.val (.int p1), .unset, .unset] [(.int (p1 &&& (2147483647 : Int32)))])) (fun t k => XS.iand X0.here hx rfl (hb hby at_3) rfl k) ?_
  refine own_s (B := s₁.setTop (mkF m 6 #[.val (.int p1), .unset, .unset] [(.int (15 : Int32)), (.int (p1 &&& (2147483647 : Int32)))])) (fun t k => XS.bipush X0.here hx rfl (hb hby at_4) k) ?_
  refine own_s (B := s₁.setTop (mkF m 7 #[.val (.int p1), .unset, .unset] [(.int ((p1 &&& (2147483647 : Int32)) % (15 : Int32)))])) (fun t k => iremM X0 hx rfl (hb hby at_6) rfl (by decide : (15 : Int32) ≠ 0) k) ?_
  refine own_s (B := s₁.setTop (mkF m 8 #[.val (.int p1), .unset, .unset] [(.int (1 : Int32)), (.int ((p1 &&& (2147483647 : Int32)) % (15 : Int32)))])) (fun t k => XS.iconst X0.here hx rfl (hb hby at_7) k) ?_
  refine own_s (B := s₁.setTop (mkF m 9 #[.val (.int p1), .unset, .unset] [(.int (((p1 &&& (2147483647 : Int32)) % (15 : Int32)) + (1 : Int32)))])) (fun t k => XS.iadd X0.here hx rfl (hb hby at_8) rfl k) ?_
  refine own_s (B := s₁.setTop (mkF m 10 #[.val (.int p1), .val (.int (((p1 &&& (2147483647 : Int32)) % (15 : Int32)) + (1 : Int32))), .unset] [])) (fun t k => XS.istoreN X0.here hx rfl (hb hby at_9) rfl (l' := #[.val (.int p1), .val (.int (((p1 &&& (2147483647 : Int32)) % (15 : Int32)) + (1 : Int32))), .unset]) rfl k) ?_
  refine own_s (B := s₁.setTop (mkF m 11 #[.val (.int p1), .val (.int (((p1 &&& (2147483647 : Int32)) % (15 : Int32)) + (1 : Int32))), .unset] [(.int (((p1 &&& (2147483647 : Int32)) % (15 : Int32)) + (1 : Int32)))])) (fun t k => XS.iloadN X0.here hx rfl (hb hby at_10) rfl k) ?_
  obtain ⟨_, _, ⟨T1, L1, k1, n1⟩, -, X1, ⟨Lc1, hQ1, l1, y1, z1⟩, st1⟩ := Jvm.LawKit.callS X0 hx (y := (⟨"com/example/haploweave/haploweave/alignment/Calls", "letter", "(I)C"⟩ : MethodName)) hown (mvT hZ (hw _ (List.mem_of_getElem? (i := 1) rfl))) (mvT hZ (hw _ (List.mem_of_getElem? (i := 2) rfl))) (mvT hZ (hw _ (List.mem_of_getElem? (i := 3) rfl))) (mvT hZ (hw _ (List.mem_of_getElem? (i := 4) rfl))) (by decide) (backOf (W := 0) (rm1 l Z a0 hw [] (((p1 &&& (2147483647 : Int32)) % (15 : Int32)) + (1 : Int32)) wL clL h0 n0 Z0 S ArL szL szN hatL (own_m p1).1 (own_m p1).2) hZ (hw _ (List.mem_of_getElem? (i := 4) rfl)) (hw _ (List.mem_of_getElem? (i := 3) rfl)) (by decide) (by decide)) (g := (mkF m 11 #[.val (.int p1), .val (.int (((p1 &&& (2147483647 : Int32)) % (15 : Int32)) + (1 : Int32))), .unset] [(.int (((p1 &&& (2147483647 : Int32)) % (15 : Int32)) + (1 : Int32)))])) rfl (by rw [hml]; rfl) (argsL := [(.int (((p1 &&& (2147483647 : Int32)) % (15 : Int32)) + (1 : Int32)))]) (rest := []) (lenOf pd_0 rfl) rfl (by show 2 * 0 + _ ≤ _; exact Nat.le_of_eq rfl) (hb hby at_11) (fun _ _ => ⟨rfl, e0, (by decide : 0 + 0 ≤ _), (by decide : 0 + 0 ≤ _)⟩)
  dsimp only [Pt.U, Pt.locs, Pt.cells, Pt.slots] at X1 l1 y1 z1 st1 hQ1
  subst l1 y1 z1
  obtain ⟨rfl, N1q, e1⟩ := hQ1
  have N1 := Fr.app N0 N1q
  refine own_s (B := T1.setTop (mkF m 14 #[.val (.int p1), .val (.int (((p1 &&& (2147483647 : Int32)) % (15 : Int32)) + (1 : Int32))), .unset] [(.int (nar .char (letS (((p1 &&& (2147483647 : Int32)) % (15 : Int32)) + (1 : Int32)))))])) st1 ?_
  refine own_s (B := T1.setTop (mkF m 15 #[.val (.int p1), .val (.int (((p1 &&& (2147483647 : Int32)) % (15 : Int32)) + (1 : Int32))), .val (.int (nar .char (letS (((p1 &&& (2147483647 : Int32)) % (15 : Int32)) + (1 : Int32)))))] [])) (fun t k => XS.istoreN X1.here hx rfl (hb hby at_14) rfl (l' := #[.val (.int p1), .val (.int (((p1 &&& (2147483647 : Int32)) % (15 : Int32)) + (1 : Int32))), .val (.int (nar .char (letS (((p1 &&& (2147483647 : Int32)) % (15 : Int32)) + (1 : Int32)))))]) rfl k) ?_
  refine own_s (B := T1.setTop (mkF m 16 #[.val (.int p1), .val (.int (((p1 &&& (2147483647 : Int32)) % (15 : Int32)) + (1 : Int32))), .val (.int (nar .char (letS (((p1 &&& (2147483647 : Int32)) % (15 : Int32)) + (1 : Int32)))))] [(.int (nar .char (letS (((p1 &&& (2147483647 : Int32)) % (15 : Int32)) + (1 : Int32)))))])) (fun t k => XS.iloadN X1.here hx rfl (hb hby at_15) rfl k) ?_
  obtain ⟨_, _, ⟨T2, L2, k2, n2⟩, -, X2, ⟨Lc2, hQ2, l2, y2, z2⟩, st2⟩ := Jvm.LawKit.callS X1 hx (y := (⟨"com/example/haploweave/haploweave/alignment/CallsLetterPinLaw", "documentedSet", "(C)I"⟩ : MethodName)) hown (mvT hZ (hw _ (List.mem_of_getElem? (i := 7) rfl))) (mvT hZ (hw _ (List.mem_of_getElem? (i := 8) rfl))) (mvT hZ (hw _ (List.mem_of_getElem? (i := 9) rfl))) (mvT hZ (hw _ (List.mem_of_getElem? (i := 10) rfl))) (by decide) (backOf (W := 0) (rm2 l Z a0 hw [] (nar .char (letS (((p1 &&& (2147483647 : Int32)) % (15 : Int32)) + (1 : Int32))))  h0 n0 Z0 ) hZ (hw _ (List.mem_of_getElem? (i := 10) rfl)) (hw _ (List.mem_of_getElem? (i := 9) rfl)) (by decide) (by decide)) (g := (mkF m 16 #[.val (.int p1), .val (.int (((p1 &&& (2147483647 : Int32)) % (15 : Int32)) + (1 : Int32))), .val (.int (nar .char (letS (((p1 &&& (2147483647 : Int32)) % (15 : Int32)) + (1 : Int32)))))] [(.int (nar .char (letS (((p1 &&& (2147483647 : Int32)) % (15 : Int32)) + (1 : Int32)))))])) rfl (by rw [hml]; rfl) (argsL := [(.int (nar .char (letS (((p1 &&& (2147483647 : Int32)) % (15 : Int32)) + (1 : Int32)))))]) (rest := []) (lenOf pd_1 rfl) rfl (by show 2 * 0 + _ ≤ _; exact Nat.le_of_eq rfl) (hb hby at_16) (fun _ _ => ⟨rfl, e1, (by decide : 0 + 0 ≤ _), (by decide : 0 + 0 ≤ _)⟩)
  dsimp only [Pt.U, Pt.locs, Pt.cells, Pt.slots] at X2 l2 y2 z2 st2 hQ2
  subst l2 y2 z2
  obtain ⟨rfl, N2q, e2⟩ := hQ2
  have N2 := Fr.app N1 N2q
  refine own_s (B := T2.setTop (mkF m 19 #[.val (.int p1), .val (.int (((p1 &&& (2147483647 : Int32)) % (15 : Int32)) + (1 : Int32))), .val (.int (nar .char (letS (((p1 &&& (2147483647 : Int32)) % (15 : Int32)) + (1 : Int32)))))] [(.int (dsS (nar .char (letS (((p1 &&& (2147483647 : Int32)) % (15 : Int32)) + (1 : Int32))))))])) st2 ?_
  refine own_s (B := T2.setTop (mkF m 20 #[.val (.int p1), .val (.int (((p1 &&& (2147483647 : Int32)) % (15 : Int32)) + (1 : Int32))), .val (.int (nar .char (letS (((p1 &&& (2147483647 : Int32)) % (15 : Int32)) + (1 : Int32)))))] [(.int (((p1 &&& (2147483647 : Int32)) % (15 : Int32)) + (1 : Int32))), (.int (dsS (nar .char (letS (((p1 &&& (2147483647 : Int32)) % (15 : Int32)) + (1 : Int32))))))])) (fun t k => XS.iloadN X2.here hx rfl (hb hby at_19) rfl k) ?_
  refine own_s (B := T2.setTop (mkF m 23 #[.val (.int p1), .val (.int (((p1 &&& (2147483647 : Int32)) % (15 : Int32)) + (1 : Int32))), .val (.int (nar .char (letS (((p1 &&& (2147483647 : Int32)) % (15 : Int32)) + (1 : Int32)))))] [])) (fun t k => XS.icmpNo X2.here hx rfl (hb hby at_20) rfl (teq (own_law p1)).2 k) ?_
  refine own_s (B := T2.setTop (mkF m 24 #[.val (.int p1), .val (.int (((p1 &&& (2147483647 : Int32)) % (15 : Int32)) + (1 : Int32))), .val (.int (nar .char (letS (((p1 &&& (2147483647 : Int32)) % (15 : Int32)) + (1 : Int32)))))] [(.int (1 : Int32))])) (fun t k => XS.iconst X2.here hx rfl (hb hby at_23) k) ?_
  refine own_s (B := T2.setTop (mkF m 28 #[.val (.int p1), .val (.int (((p1 &&& (2147483647 : Int32)) % (15 : Int32)) + (1 : Int32))), .val (.int (nar .char (letS (((p1 &&& (2147483647 : Int32)) % (15 : Int32)) + (1 : Int32)))))] [(.int (1 : Int32))])) (fun t k => XS.goto X2.here hx rfl (pc0 := 24) (pc' := 28) rfl (hb hby at_24) (by decide) (by decide) k) ?_
  exact own_retB X2 hx hlk (t := .boolean) Bd.returns (by simp) (hb hby at_28) (by decide) (by decide) ⟨rfl, N2⟩
set_option maxRecDepth 65536 in
set_option maxHeartbeats 40000000 in
theorem comes_1 {Post : Tables → Env → Array Value → State → Outcome → State → Prop} (hpost : ∀ tb e args s v u, (limb_1_1.after args s (.returned v) u = true ∧ limb_1_2.after args s (.returned v) u = true ∧ True) → FrameEnd s (.returned v) u (Jvm.fieldLocs frame_1_writes args s ++ Jvm.arrayLocs frame_1_arrays args s ++ Jvm.staticLocs frame_1_statics s) 0 0 → Post tb e args s (.returned v) u) :
    ArmFor flags0 classFile x code maxLocals ret World_1 tables_1 room_1 Calls_1 rest_1 Pre_1 Post := by
  intro l hfl _ _ p e ha hc hk s m args below hf hA hF happ hP
  obtain ⟨hcalls, hrest, hpre⟩ := hP
  obtain ⟨-, -, -, hnamed, -, -, -, hat⟩ := (Spec.applies_iff hf).mp happ
  obtain ⟨hg, hn⟩ := and_e (Cond.before_iff.mp (show (Jvm.Cond.and given_1 narrow_1).before args s = true from hpre))
  obtain ⟨g1a, g1b⟩ := and_e hg
  obtain ⟨w0, rfl⟩ : ∃ w0 : Value, args = #[w0] := by
    have hs : args.size = 1 := by simpa [Cond.value, given_1] using g1a
    obtain ⟨L⟩ := args
    match L, hs with
    | [w0], _ => exact ⟨w0, rfl⟩
  have hw := fun d (hd : d ∈ tables_1) => atoms_spec (ws := Jvm.Cond.code x code maxLocals ret :: tables_1) hat d (List.mem_cons_of_mem _ hd)
  have hfit : Fit s := fun {y c} hc i hi => by
    obtain ⟨ha, rfl⟩ := Array.getElem?_eq_some_iff.mp hc
    have q := List.all_eq_true.mp ((Array.all_eq_true_iff_forall_mem.mp hF) _ (Array.getElem_mem ha)) i (List.mem_range.mpr hi)
    simpa [Array.getElem?_eq_getElem hi] using q
  obtain ⟨i0, ei0⟩ := is_v g1b
  obtain rfl : w0 = (.int i0) := Option.some.inj ei0
  obtain ⟨g2a, g2b⟩ := and_e hn
  obtain ⟨g3a, g3b⟩ := and_e g2b
  obtain ⟨g4a, g4b⟩ := and_e g3b
  obtain ⟨g5a, g5b⟩ := and_e g4b
  obtain ⟨g6a, g6b⟩ := and_e g5b
  obtain ⟨g7a, g7b⟩ := and_e g6b
  obtain ⟨g8a, g8b⟩ := and_e g7b
  obtain ⟨g9a, g9b⟩ := and_e g8b
  obtain ⟨g10a, g10b⟩ := and_e g9b
  obtain ⟨g11a, g11b⟩ := and_e g10b
  obtain ⟨g12a, g12b⟩ := and_e g11b
  obtain ⟨g13a, g13b⟩ := and_e g12b
  obtain ⟨g14a, g14b⟩ := and_e g13b
  obtain ⟨g15a, g15b⟩ := and_e g14b
  obtain ⟨g16a, g16b⟩ := and_e g15b
  obtain ⟨g17a, g17b⟩ := and_e g16b
  obtain ⟨g18a, g18b⟩ := and_e g17b
  obtain ⟨w_LETTER, ev_LETTER⟩ := arr_v g2a
  have S_LETTER := Sta.start ev_LETTER (Or.inr ⟨(hw _ (List.mem_of_getElem? (i := 3) rfl)), (hw _ (List.mem_of_getElem? (i := 6) rfl))⟩)
  obtain ⟨cl_LETTER, Ar_LETTER⟩ := Arr.start ev_LETTER g2a
  have ln_LETTER := own_eqI g3a
  have el_LETTER_0 := elem_in (own_eqI g4a) ev_LETTER (Term.int_eval (0)) Ar_LETTER.1
  have el_LETTER_1 := elem_in (own_eqI g5a) ev_LETTER (Term.int_eval (1)) Ar_LETTER.1
  have el_LETTER_2 := elem_in (own_eqI g6a) ev_LETTER (Term.int_eval (2)) Ar_LETTER.1
  have el_LETTER_3 := elem_in (own_eqI g7a) ev_LETTER (Term.int_eval (3)) Ar_LETTER.1
  have el_LETTER_4 := elem_in (own_eqI g8a) ev_LETTER (Term.int_eval (4)) Ar_LETTER.1
  have el_LETTER_5 := elem_in (own_eqI g9a) ev_LETTER (Term.int_eval (5)) Ar_LETTER.1
  have el_LETTER_6 := elem_in (own_eqI g10a) ev_LETTER (Term.int_eval (6)) Ar_LETTER.1
  have el_LETTER_7 := elem_in (own_eqI g11a) ev_LETTER (Term.int_eval (7)) Ar_LETTER.1
  have el_LETTER_8 := elem_in (own_eqI g12a) ev_LETTER (Term.int_eval (8)) Ar_LETTER.1
  have el_LETTER_9 := elem_in (own_eqI g13a) ev_LETTER (Term.int_eval (9)) Ar_LETTER.1
  have el_LETTER_10 := elem_in (own_eqI g14a) ev_LETTER (Term.int_eval (10)) Ar_LETTER.1
  have el_LETTER_11 := elem_in (own_eqI g15a) ev_LETTER (Term.int_eval (11)) Ar_LETTER.1
  have el_LETTER_12 := elem_in (own_eqI g16a) ev_LETTER (Term.int_eval (12)) Ar_LETTER.1
  have el_LETTER_13 := elem_in (own_eqI g17a) ev_LETTER (Term.int_eval (13)) Ar_LETTER.1
  have el_LETTER_14 := elem_in (own_eqI g18a) ev_LETTER (Term.int_eval (14)) Ar_LETTER.1
  have el_LETTER_15 := elem_in (own_eqI g18b) ev_LETTER (Term.int_eval (15)) Ar_LETTER.1
  obtain ⟨n, o, h1, h2, h3, _, L, rfl, ⟨rfl, N⟩, hq⟩ := rm0 l s _ hw tables_1 i0 w_LETTER cl_LETTER s.heap s.heap.size (Nat.le_refl _) S_LETTER Ar_LETTER (own_len ev_LETTER Ar_LETTER ln_LETTER).1 (by have q := (own_len ev_LETTER Ar_LETTER ln_LETTER).2; have e : (16 : Int32).toInt = 16 := (by decide); omega) (own_hat el_LETTER_1.2 el_LETTER_2.2 el_LETTER_3.2 el_LETTER_4.2 el_LETTER_5.2 el_LETTER_6.2 el_LETTER_7.2 el_LETTER_8.2 el_LETTER_9.2 el_LETTER_10.2 el_LETTER_11.2 el_LETTER_12.2 el_LETTER_13.2 el_LETTER_14.2 el_LETTER_15.2) p e ha hc hk s m _ below hf ((Spec.applies_iff_loose hf).mp happ).1 ⟨rfl, State.Warmed39.refl s, rfl⟩ trivial
  refine ⟨n, _, h1, h2, h3, hpost _ _ _ _ _ _ ⟨Cond.after_iff.mpr rfl, Cond.after_iff.mpr (eq_i res_at (Term.int_eval (1)) rfl), trivial⟩ ⟨hq.1, hq.2.1, (hq.2.2.sift fun y hy => Or.inr (N y hy)).mono (by decide) (by decide)⟩⟩
theorem main_1_1 : Claimed_1_1 := comes_1 fun _ _ _ _ _ _ h hF => ⟨h.1, hF⟩
theorem main_1_2 : Claimed_1_2 := comes_1 fun _ _ _ _ _ _ h hF => ⟨h.2.1, hF⟩
end Jvm.Pilot.@@N@@
namespace Jvm.Pilot.@@N@@
open Jvm Jvm.ClassFile Sem Op Lib Jvm.Free Jvm.Stand Jvm.Pilot.@@N@@.Jvm.D
/-! MADE BY PROGRAM (witnessworld.py) out of the Statement's table words and the real class files: 11 classes; the members and pool entries that the words name. The judged class is class 1, her method 2. -/
namespace start1
open Jvm.ClassFile
def u (s : String) : CpInfo := .utf8 (stringToUtf16 s)
/-- a pool by its gaps: so many unusable entries, then the entry; so many at the end -/
def gap : Nat → List CpInfo → List CpInfo
  | 0, r => r
  | n + 1, r => .unusable :: gap n r
def poolList (es : List (Nat × CpInfo)) (last : Nat) : List CpInfo := es.foldr (fun e r => gap e.1 (e.2 :: r)) (gap last [])
def pool (es : List (Nat × CpInfo)) (last : Nat) : Array CpInfo := ⟨poolList es last⟩
def fileOf (pool : Array CpInfo) (this : Nat) (attrs : Array Attribute := #[]) (ms : Array MethodInfo := #[]) (fl : Nat := 33) (sup : Nat := 0) (ifs : Array Nat := #[]) (fds : Array FieldInfo := #[]) : ClassFile where
  minorVersion := 0
  majorVersion := 65
  constantPool := pool
  accessFlags := fl
  thisClass := this
  superClass := sup
  interfaces := ifs
  fields := fds
  methods := ms
  attributes := attrs
def plain (name : String) (sup : Option ClassId) : Class where
  name := name
  kind := .ordinary
  loader := none
  accessFlags := 33
  super := sup
  interfaces := #[]
  cf := none
  fields := #[]
  methods := #[]
  instanceTypes := #[]
  staticTypes := #[]
  resolved := #[]
  callSites := []
  init := .initialized
  statics := none
  mirror := none

def pool0 : Array CpInfo := pool [(5, u "<init>"), (0, u "()V"), (1, .class_ 10), (1, u "java/lang/Object")] 113

def k0m0 : Method := { name := "<init>", desc := "()V", sig := { parameters := [], returnType := none }, accessFlags := 1, code := none }
/-- java/lang/Object -/
def k0 : Class := { plain "java/lang/Object" none with
  accessFlags := 33
  interfaces := #[]
  cf := some (fileOf pool0 8 #[] #[{ accessFlags := 1, nameIndex := 5, descriptorIndex := 6, attributes := #[] }] 33 0 #[] #[])
  fields := #[]
  methods := #[k0m0]
  instanceTypes := #[]
  staticTypes := #[]
  resolved := Array.replicate 124 none
  statics := none }

def pool1 : Array CpInfo := pool [(2, .class_ 4), (1, u "java/lang/Object"), (0, u "<init>"), (0, u "()V"), (0, .integer 2147483647), (0, .methodref 9 10), (0, .class_ 11), (0, .nameAndType 12 13), (0, u "com/example/haploweave/haploweave/alignment/Calls"), (0, u "letter"), (0, u "(I)C"), (0, .methodref 15 16), (0, .class_ 17), (0, .nameAndType 18 19), (0, u "com/example/haploweave/haploweave/alignment/CallsLetterPinLaw"), (0, u "documentedSet"), (0, u "(C)I"), (3, u "law"), (0, u "(I)Z")] 2

def k1m0 : Method := { name := "<init>", desc := "()V", sig := { parameters := [], returnType := none }, accessFlags := 2, code := none }
def k1c1 : Code := { maxStack := 2, maxLocals := 5, code := method_2_code, exceptionTable := #[], attributes := #[] }
def k1m1 : Method := { name := "documentedSet", desc := "(C)I", sig := { parameters := [.char], returnType := some .int }, accessFlags := 10, code := some k1c1 }
def k1c2 : Code := { maxStack := 2, maxLocals := 3, code := code, exceptionTable := #[], attributes := #[] }
def k1m2 : Method := { name := "law", desc := "(I)Z", sig := { parameters := [.int], returnType := some .boolean }, accessFlags := 9, code := some k1c2 }
/-- com/example/haploweave/haploweave/alignment/CallsLetterPinLaw -/
def k1 : Class := { plain "com/example/haploweave/haploweave/alignment/CallsLetterPinLaw" (some 0) with
  accessFlags := 49
  interfaces := #[]
  cf := some (fileOf pool1 15 #[] #[{ accessFlags := 2, nameIndex := 5, descriptorIndex := 6, attributes := #[] }, { accessFlags := 10, nameIndex := 18, descriptorIndex := 19, attributes := #[] }, { accessFlags := 9, nameIndex := 23, descriptorIndex := 24, attributes := #[] }] 49 2 #[] #[])
  fields := #[]
  methods := #[k1m0, k1m1, k1m2]
  instanceTypes := #[]
  staticTypes := #[]
  resolved := Array.replicate 27 none
  statics := none }

def pool2 : Array CpInfo := pool [(2, .class_ 4), (1, u "java/lang/Object"), (0, u "<init>"), (0, u "()V"), (1, .class_ 10), (1, u "com/example/haploweave/haploweave/alignment/Calls"), (0, u "BASES"), (0, u "[B"), (0, .fieldref 8 14), (0, .nameAndType 15 16), (0, u "LETTER"), (0, u "[C"), (28, u "letter"), (0, u "(I)C")] 22

def k2m0 : Method := { name := "<init>", desc := "()V", sig := { parameters := [], returnType := none }, accessFlags := 2, code := none }
def k2c1 : Code := { maxStack := 3, maxLocals := 1, code := prog_2_method_4_code, exceptionTable := #[], attributes := #[] }
def k2m1 : Method := { name := "letter", desc := "(I)C", sig := { parameters := [.int], returnType := some .char }, accessFlags := 9, code := some k2c1 }
/-- com/example/haploweave/haploweave/alignment/Calls -/
def k2 : Class := { plain "com/example/haploweave/haploweave/alignment/Calls" (some 0) with
  accessFlags := 49
  interfaces := #[]
  cf := some (fileOf pool2 8 #[] #[{ accessFlags := 2, nameIndex := 5, descriptorIndex := 6, attributes := #[] }, { accessFlags := 9, nameIndex := 45, descriptorIndex := 46, attributes := #[] }] 49 2 #[] #[{ accessFlags := 26, nameIndex := 15, descriptorIndex := 16, attributes := #[] }, { accessFlags := 26, nameIndex := 11, descriptorIndex := 12, attributes := #[] }])
  fields := #[{ name := "LETTER", type := (.array .char), accessFlags := 26, slot := 0, constantValue := 0 }, { name := "BASES", type := (.array .byte), accessFlags := 26, slot := 1, constantValue := 0 }]
  methods := #[k2m0, k2m1]
  instanceTypes := #[]
  staticTypes := #[(.array .char), (.array .byte)]
  resolved := Array.replicate 69 none
  statics := some 0 }

def pool3 : Array CpInfo := pool [(1, u "java/lang/Cloneable"), (0, .class_ 1), (0, u "java/lang/Object"), (0, .class_ 3)] 3

/-- java/lang/Cloneable -/
def k3 : Class := { plain "java/lang/Cloneable" (some 0) with
  accessFlags := 1537
  interfaces := #[]
  cf := some (fileOf pool3 2 #[] #[] 1537 4 #[] #[])
  fields := #[]
  methods := #[]
  instanceTypes := #[]
  staticTypes := #[]
  resolved := Array.replicate 8 none
  statics := none }

def pool4 : Array CpInfo := pool [(1, u "java/io/Serializable"), (0, .class_ 1), (0, u "java/lang/Object"), (0, .class_ 3)] 3

/-- java/io/Serializable -/
def k4 : Class := { plain "java/io/Serializable" (some 0) with
  accessFlags := 1537
  interfaces := #[]
  cf := some (fileOf pool4 2 #[] #[] 1537 4 #[] #[])
  fields := #[]
  methods := #[]
  instanceTypes := #[]
  staticTypes := #[]
  resolved := Array.replicate 8 none
  statics := none }

/-- the primitive byte -/
def k5 : Class := { plain "byte" none with kind := .primitive 'B', accessFlags := 0x411 }
/-- [B -/
def k6 : Class := { plain "[B" (some 0) with kind := .array 5 .byte, interfaces := #[3, 4], accessFlags := 1041 }

/-- the primitive char -/
def k7 : Class := { plain "char" none with kind := .primitive 'C', accessFlags := 0x411 }
/-- [C -/
def k8 : Class := { plain "[C" (some 0) with kind := .array 7 .char, interfaces := #[3, 4], accessFlags := 1041 }

/-- the primitive int -/
def k9 : Class := { plain "int" none with kind := .primitive 'I', accessFlags := 0x411 }
/-- [I -/
def k10 : Class := { plain "[I" (some 0) with kind := .array 9 .int, interfaces := #[3, 4], accessFlags := 1041 }

def heap : Heap := #[{ cls := 2, slots := #[.ref 1, .null], vm := .statics 2 },
  { cls := 8, slots := #[.int 0, .int 65, .int 67, .int 77, .int 71, .int 82, .int 83, .int 86, .int 84, .int 87, .int 89, .int 72, .int 75, .int 68, .int 66, .int 78], vm := .none }]
def classes : Array Class := #[k0, k1, k2, k3, k4, k5, k6, k7, k8, k9, k10]
def interned : List (Array UInt16 × Addr) := []
def slotsUsed : Nat := 18
def theMethod : MethodId := ⟨1, 2⟩
def args0 : Array Value := #[.int 5]
def aboutOver (below : List Frame) : State where
  vm := { classes := classes, interned := interned.toArray }
  heap := heap
  slotsUsed := slotsUsed
  threads := #[{ frames := .invoking theMethod args0 :: below }]
def below0 : List Frame := [.native { method := ⟨0, 0⟩, args := #[] }]
def about1 : State := aboutOver below0
def p0 : Program := .bare "" "" ""
def e0 : Env := launch0.env 0 0 0
theorem w_frames : about1.frames = Frame.invoking theMethod args0 :: below0 := rfl
set_option maxRecDepth 65536 in
theorem w_args : argsFit about1.vm theMethod args0 = true := by decide +kernel
set_option maxRecDepth 65536 in
theorem w_heap : heapFits about1 = true := by decide +kernel
set_option maxRecDepth 65536 in
theorem w_runnable : about1.curStatus? = some .runnable := by decide +kernel
set_option maxRecDepth 65536 in
theorem w_alone : about1.alone = true := by decide +kernel
set_option maxRecDepth 65536 in
theorem w_named : about1.methodNamed? x = some theMethod := by decide +kernel
set_option maxRecDepth 65536 in
theorem w_hears : about1.hears theMethod below0 = true := by decide +kernel
set_option maxRecDepth 65536 in
theorem w_ripe : about1.ripe theMethod args0 below0 = true := by decide +kernel
theorem w_running : about1.status = .running := rfl
set_option maxRecDepth 65536 in
theorem w_room : about1.hasRoom e0.platform room_1 = true :=
  launch0.hasRoom_least _ room_1 (by decide +kernel) (by decide +kernel) (by decide +kernel) (by decide +kernel) (by decide +kernel) (by decide +kernel)
theorem allAtoms_all (ts : List Jvm.Cond) (a : Array Jvm.Value) (st : Jvm.State) : (allAtoms ts).before a st = ts.all (fun c => c.before a st) := by
  induction ts with
  | nil => rfl
  | cons c t ih =>
    show (Jvm.Cond.and c (allAtoms t)).before a st = _
    rw [Jvm.Cond.before_and, ih, List.all_cons]
def words1 : List Jvm.Cond := Jvm.Cond.code x code maxLocals ret :: tables_1
/-- a 'code' word, met by the world's own term for the bytes: nothing is compared byte by byte -/
theorem code_word {y : MethodName} {bytes : ByteArray} {mx : Nat} {rt : Option FieldType} {a : Array Value} {s : State} {m : MethodId} {meth : Method} {c : Code} (h1 : s.methodNamed? y = some m) (h2 : s.vm.method? m = some meth) (h3 : meth.code = some c) (h4 : c.code = bytes)
    (h5 : (c.maxLocals == mx && c.exceptionTable.isEmpty && decide (c.maxStack ≤ mostOperands) && decide (meth.sig.returnType = rt) && !meth.locks && decide (parseMethodDescriptor y.desc = some meth.sig)) = true) : (Jvm.Cond.code y bytes mx rt).before a s = true := by
  simp only [Bool.and_eq_true, beq_iff_eq, Bool.not_eq_true', decide_eq_true_eq] at h5
  obtain ⟨⟨⟨⟨⟨g1, g2⟩, g3⟩, g4⟩, g5⟩, g6⟩ := h5
  simp [Cond.before, Cond.holds, Cond.value, h1, h2, h3, h4, g1, g2, g3, g4, g5, g6]
def isCode : Jvm.Cond → Bool
  | .code _ _ _ _ => true
  | _ => false
theorem all_split {L : List Jvm.Cond} {P : Jvm.Cond → Bool} (h1 : L.all (fun c => isCode c || P c) = true) (h2 : ∀ c ∈ L.filter isCode, P c = true) : L.all P = true := by
  refine List.all_eq_true.mpr fun c hc => ?_
  have h := List.all_eq_true.mp h1 c hc
  rcases Bool.eq_false_or_eq_true (isCode c) with hi | hi
  · exact h2 c (List.mem_filter.mpr ⟨hc, hi⟩)
  · simpa [hi] using h
set_option maxRecDepth 65536 in
theorem w_c0 : (Jvm.Cond.code x code maxLocals ret).before args0 about1 = true := code_word (m := ⟨1, 2⟩) (meth := k1m2) (c := k1c2) (by decide +kernel) rfl rfl rfl (by decide +kernel)
set_option maxRecDepth 65536 in
theorem w_c1 : (Jvm.Cond.code ({ cls := "com/example/haploweave/haploweave/alignment/Calls", name := "letter", desc := "(I)C" } : Jvm.MethodName) prog_2_method_4_code (1 : Nat) (Option.some Jvm.ClassFile.FieldType.char)).before args0 about1 = true := code_word (m := ⟨2, 1⟩) (meth := k2m1) (c := k2c1) (by decide +kernel) rfl rfl rfl (by decide +kernel)
set_option maxRecDepth 65536 in
theorem w_c2 : (Jvm.Cond.code ({ cls := "com/example/haploweave/haploweave/alignment/CallsLetterPinLaw", name := "documentedSet", desc := "(C)I" } : Jvm.MethodName) method_2_code (5 : Nat) (Option.some Jvm.ClassFile.FieldType.int)).before args0 about1 = true := code_word (m := ⟨1, 1⟩) (meth := k1m1) (c := k1c1) (by decide +kernel) rfl rfl rfl (by decide +kernel)
def codes1 : List Jvm.Cond := [Jvm.Cond.code x code maxLocals ret, Jvm.Cond.code ({ cls := "com/example/haploweave/haploweave/alignment/Calls", name := "letter", desc := "(I)C" } : Jvm.MethodName) prog_2_method_4_code (1 : Nat) (Option.some Jvm.ClassFile.FieldType.char), Jvm.Cond.code ({ cls := "com/example/haploweave/haploweave/alignment/CallsLetterPinLaw", name := "documentedSet", desc := "(C)I" } : Jvm.MethodName) method_2_code (5 : Nat) (Option.some Jvm.ClassFile.FieldType.int)]
set_option maxRecDepth 65536 in
theorem codes_eq : words1.filter isCode = codes1 := rfl
theorem w_codes : ∀ c ∈ words1.filter isCode, c.before args0 about1 = true := by
  rw [codes_eq]
  intro c hc
  simp only [codes1, List.mem_cons, List.not_mem_nil, or_false] at hc
  rcases hc with rfl | rfl | rfl
  · exact w_c0
  · exact w_c1
  · exact w_c2
set_option maxRecDepth 65536 in
theorem w_t1 : words1.all (fun c => isCode c || c.before args0 about1) = true := by decide +kernel
theorem w_tables : (allAtoms (Jvm.Cond.code x code maxLocals ret :: tables_1)).before args0 about1 = true := by
  rw [allAtoms_all]
  show words1.all (fun c => c.before args0 about1) = true
  refine all_split ?_ w_codes
  rw [w_t1]
set_option maxRecDepth 65536 in
theorem w_case : (Jvm.Cond.and given_1 narrow_1).before args0 about1 = true := by decide +kernel
theorem w_applies : (headSpec (Jvm.Cond.code x code maxLocals ret :: tables_1) room_1).applies x e0.platform about1 = true :=
  (Spec.applies_iff w_frames).mpr ⟨w_running, w_runnable, w_alone, w_named, w_hears, w_ripe, w_room, w_tables⟩
theorem atStart : AtStart classFile x code maxLocals ret World_1 tables_1 room_1 Calls_1 rest_1 Pre_1 launch0 p0 e0 about1 theMethod args0 below0 :=
  ⟨lists_1, trivial, launch0.admits_env _ _ _, launch0.least_env, fairChoices_fair.cas, fairChoices_fair.clock, w_frames, w_args, w_heap, w_applies, trivial, trivial, w_case⟩
end start1
theorem witness_1 : WitnessClaimed_1 := ⟨start1.p0, start1.e0, start1.about1, start1.theMethod, start1.args0, start1.below0, start1.atStart⟩
end Jvm.Pilot.@@N@@
