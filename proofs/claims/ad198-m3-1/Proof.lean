import JvmDerived
import JvmDerived.Pilot.@@N@@Statement
import JvmDerived.Pilot.@@N@@Code
set_option linter.unusedVariables false
set_option linter.unusedSimpArgs false
@@BLOCK:NumsL.lean.txt@@
namespace Jvm.Pilot.@@N@@
open Jvm Jvm.ClassFile Sem Op Lib Jvm.Free Jvm.Stand Jvm.LawKit Jvm.RoadKit Bundle Jvm.Pilot.@@N@@.Jvm.D
section OwnKit
variable {p : Program} {l : Launch} {e : Env} {R : Room} {s : State} {m : MethodId} {args : Array Value} {below : List Frame} {meth : Method} {c : Code} {T : State} {locs : List Loc} {cells slots : Nat}
/-- from U the run comes to an end of which K speaks -/
def Go (p : Program) (e : Env) (below : List Frame) (K : Outcome → State → Prop) (U : State) : Prop := ∃ s₂ o, Steps p.tables e below U s₂ ∧ s₂.status = .running ∧ Ended s₂ below o ∧ K o s₂
theorem own_s {K : Outcome → State → Prop} {A B : State} (h : ∀ t, Steps p.tables e below B t → Steps p.tables e below A t) (g : Go p e below K B) : Go p e below K A := by
  obtain ⟨s₂, o, h1, h2⟩ := g
  exact ⟨s₂, o, h _ h1, h2⟩
def Kf (s : State) (Q : Option Value → Heap → List Loc → Prop) (C N : Nat) (o : Outcome) (U : State) : Prop := ∃ v L, o = .returned v ∧ Q v U.heap L ∧ FrameEnd s o U L C N
theorem own_ret (X : Stand p l e R s m args below meth c T locs cells slots) (hx : p.tables.exec = Jvm.exec) (hlk : meth.locks = false) {pc : Nat} {Ls : Array Slot} {w : Value} {t : FieldType} {i : Instr} {rest : List Value} (hret : meth.sig.returnType = some t) (hn : narrow t w = w)
    (hi : (i = .ireturn ∧ (t = .int ∨ t = .boolean ∨ t = .byte ∨ t = .char ∨ t = .short) ∧ ∃ z, w = .int z) ∨ (i = .lreturn ∧ t = .long ∧ ∃ z, w = .long z) ∨ (i = .dreturn ∧ t = .double ∧ ∃ z, w = .double z) ∨ (i = .freturn ∧ t = .float ∧ ∃ z, w = .float z) ∨ (i = .areturn ∧ t.isReference = true ∧ w.isRef = true))
    (hd : decode c.code pc = .ok (i, 1)) {Q : Option Value → Heap → List Loc → Prop} {C N : Nat} (hc : cells ≤ C) (hs : slots ≤ N) (hQ : Q (some w) T.heap locs) : Go p e below (Kf s Q C N) (T.setTop (mkF m pc Ls (w :: rest))) := by
  obtain ⟨fs, hr, hrun, hended, hW, hsame⟩ := X.leave (v := some w) (fun h => by rw [hret] at h; cases h) hlk
  exact ⟨_, _, retOut X hx hret hn hi hd hr, hrun, hended, _, _, rfl, hQ, ⟨_, rfl⟩, hW, hsame.mono hc hs⟩
theorem own_retI (X : Stand p l e R s m args below meth c T locs cells slots) (hx : p.tables.exec = Jvm.exec) (hlk : meth.locks = false) {pc : Nat} {Ls : Array Slot} {z : Int32} {rest : List Value} (hret : meth.sig.returnType = some .int)
    (hd : decode c.code pc = .ok (.ireturn, 1)) {Q : Option Value → Heap → List Loc → Prop} {C N : Nat} (hc : cells ≤ C) (hs : slots ≤ N) (hQ : Q (some (.int z)) T.heap locs) : Go p e below (Kf s Q C N) (T.setTop (mkF m pc Ls (.int z :: rest))) :=
  own_ret X hx hlk hret rfl (Or.inl ⟨rfl, Or.inl rfl, _, rfl⟩) hd hc hs hQ
theorem own_retJ (X : Stand p l e R s m args below meth c T locs cells slots) (hx : p.tables.exec = Jvm.exec) (hlk : meth.locks = false) {pc : Nat} {Ls : Array Slot} {z : Int64} {rest : List Value} (hret : meth.sig.returnType = some .long)
    (hd : decode c.code pc = .ok (.lreturn, 1)) {Q : Option Value → Heap → List Loc → Prop} {C N : Nat} (hc : cells ≤ C) (hs : slots ≤ N) (hQ : Q (some (.long z)) T.heap locs) : Go p e below (Kf s Q C N) (T.setTop (mkF m pc Ls (.long z :: rest))) :=
  own_ret X hx hlk hret rfl (Or.inr (Or.inl ⟨rfl, rfl, _, rfl⟩)) hd hc hs hQ
theorem own_retR (X : Stand p l e R s m args below meth c T locs cells slots) (hx : p.tables.exec = Jvm.exec) (hlk : meth.locks = false) {pc : Nat} {Ls : Array Slot} {w : Value} {t : FieldType} {rest : List Value} (hret : meth.sig.returnType = some t) (ht : t.isReference = true) (hw : w.isRef = true)
    (hd : decode c.code pc = .ok (.areturn, 1)) {Q : Option Value → Heap → List Loc → Prop} {C N : Nat} (hc : cells ≤ C) (hs : slots ≤ N) (hQ : Q (some w) T.heap locs) : Go p e below (Kf s Q C N) (T.setTop (mkF m pc Ls (w :: rest))) :=
  own_ret X hx hlk hret (by cases t <;> simp [FieldType.isReference] at ht <;> cases w <;> simp [Value.isRef] at hw <;> rfl) (Or.inr (Or.inr (Or.inr (Or.inr ⟨rfl, ht, hw⟩)))) hd hc hs hQ
theorem own_retB (X : Stand p l e R s m args below meth c T locs cells slots) (hx : p.tables.exec = Jvm.exec) (hlk : meth.locks = false) {pc : Nat} {Ls : Array Slot} {z : Int32} {t : FieldType} {rest : List Value} (hret : meth.sig.returnType = some t) (ht : t = .boolean ∨ t = .byte ∨ t = .char ∨ t = .short)
    (hd : decode c.code pc = .ok (.ireturn, 1)) {Q : Option Value → Heap → List Loc → Prop} {C N : Nat} (hc : cells ≤ C) (hs : slots ≤ N) (hQ : Q (some (.int (nar t z))) T.heap locs) : Go p e below (Kf s Q C N) (T.setTop (mkF m pc Ls (.int z :: rest))) := by
  obtain ⟨fs, hr, hrun, hended, hW, hsame⟩ := X.leave (v := some (.int (nar t z))) (fun h => by rw [hret] at h; cases h) hlk
  exact ⟨_, _, retN X hx hret ht hd hr, hrun, hended, _, _, rfl, hQ, ⟨_, rfl⟩, hW, hsame.mono hc hs⟩
theorem own_retV (X : Stand p l e R s m args below meth c T locs cells slots) (hx : p.tables.exec = Jvm.exec) (hlk : meth.locks = false) {pc : Nat} {Ls : Array Slot} (hret : meth.sig.returnType = none)
    (hd : decode c.code pc = .ok (.return_, 1)) {Q : Option Value → Heap → List Loc → Prop} {C N : Nat} (hc : cells ≤ C) (hs : slots ≤ N) (hQ : Q none T.heap locs) : Go p e below (Kf s Q C N) (T.setTop (mkF m pc Ls [])) := by
  obtain ⟨fs, hr, hrun, hended, hW, hsame⟩ := X.leave (v := none) (fun _ => rfl) hlk
  exact ⟨_, _, X.returnOut hx hret hd hr, hrun, hended, _, _, rfl, hQ, ⟨_, rfl⟩, hW, hsame.mono hc hs⟩
/-- a truth as Java's int -/
abbrev bz (P : Prop) [Decidable P] : Int32 := if P then 1 else 0
theorem own_t {P : Prop} [Decidable P] (h : P) : some (Value.int (nar .boolean (1 : Int32))) = some (Value.int (bz P)) := by rw [bz, if_pos h]; rfl
theorem own_f {P : Prop} [Decidable P] (h : ¬ P) : some (Value.int (nar .boolean (0 : Int32))) = some (Value.int (bz P)) := by rw [bz, if_neg h]; rfl
theorem own_i {a b : Int32} (h : a = b) : some (Value.int a) = some (Value.int b) := by rw [h]
theorem own_j {a b : Int64} (h : a = b) : some (Value.long a) = some (Value.long b) := by rw [h]
theorem own_r {a b : Addr} (h : a = b) : some (Value.ref a) = some (Value.ref b) := by rw [h]
theorem own_eqI {args : Array Value} {first s : State} {o : Option Outcome} {idx : List Nat} {t : Term} {k : Int32} (h : (Jvm.Cond.eq t (Term.int k)).value args first o s idx = some true) : t.eval args first o idx s = some (.int k) := by
  simp only [Cond.value, Term.eval] at h
  cases ht : t.eval args first o idx s with
  | none => simp [ht] at h
  | some x => cases x <;> simp [ht] at h ⊢; exact h
end OwnKit
theorem own_lit {m : Int32} {k : Int} (h : m.toInt = k) : m = Int32.ofInt k := by rw [← h, Int32.ofInt_toInt]
theorem own_nc (j : Int32) : j.toNatClampNeg = j.toInt.toNat := rfl
theorem own_uniq {Z : State} {h : Heap} {a : Addr} {C n d : String} {v w : Value} (F : Fld Z h a C n d v) (G : Fld Z h a C n d w) : v = w := by
  obtain ⟨cell, cf, k, i, f, h1, h2, -, -, -, -, h7⟩ := F
  obtain ⟨cell', cf', k', i', f', g1, g2, -, -, -, -, g7⟩ := G
  cases h1.symm.trans g1
  cases h2.symm.trans g2
  exact Option.some.inj (h7.symm.trans g7)
def WS (Z : State) (h : Heap) (W : Int32 → Addr) : Prop := Sta Z h "com/example/formal_courier/formalcourier/crs/CrsDocumentTypeControls$DocumentType" "OECD1" "Lcom/example/formal_courier/formalcourier/crs/CrsDocumentTypeControls$DocumentType;" (.ref (W (0 : Int32))) ∧ Sta Z h "com/example/formal_courier/formalcourier/crs/CrsDocumentTypeControls$DocumentType" "OECD2" "Lcom/example/formal_courier/formalcourier/crs/CrsDocumentTypeControls$DocumentType;" (.ref (W (1 : Int32))) ∧ Sta Z h "com/example/formal_courier/formalcourier/crs/CrsDocumentTypeControls$DocumentType" "OECD3" "Lcom/example/formal_courier/formalcourier/crs/CrsDocumentTypeControls$DocumentType;" (.ref (W (2 : Int32))) ∧ Sta Z h "com/example/formal_courier/formalcourier/crs/CrsDocumentTypeControls$DocumentType" "OECD11" "Lcom/example/formal_courier/formalcourier/crs/CrsDocumentTypeControls$DocumentType;" (.ref (W (3 : Int32))) ∧ Sta Z h "com/example/formal_courier/formalcourier/crs/CrsDocumentTypeControls$DocumentType" "OECD12" "Lcom/example/formal_courier/formalcourier/crs/CrsDocumentTypeControls$DocumentType;" (.ref (W (4 : Int32))) ∧ Sta Z h "com/example/formal_courier/formalcourier/crs/CrsDocumentTypeControls$DocumentType" "OECD13" "Lcom/example/formal_courier/formalcourier/crs/CrsDocumentTypeControls$DocumentType;" (.ref (W (5 : Int32))) ∧ Sta Z h "com/example/formal_courier/formalcourier/crs/CrsDocumentTypeControls$DocumentType" "OTHER" "Lcom/example/formal_courier/formalcourier/crs/CrsDocumentTypeControls$DocumentType;" (.ref (W (6 : Int32)))
theorem WS.ext {Z : State} {h h' : Heap} {W : Int32 → Addr} (E : Ext h h') (F : WS Z h W) : WS Z h' W := ⟨F.1.ext E, F.2.1.ext E, F.2.2.1.ext E, F.2.2.2.1.ext E, F.2.2.2.2.1.ext E, F.2.2.2.2.2.1.ext E, F.2.2.2.2.2.2.ext E⟩
theorem own_rg_0_6 {m : Int32} (h1 : 0 ≤ m.toInt) (h2 : m.toInt ≤ 6) : m = (0 : Int32) ∨ m = (1 : Int32) ∨ m = (2 : Int32) ∨ m = (3 : Int32) ∨ m = (4 : Int32) ∨ m = (5 : Int32) ∨ m = (6 : Int32) := by
  have h : m.toInt = 0 ∨ m.toInt = 1 ∨ m.toInt = 2 ∨ m.toInt = 3 ∨ m.toInt = 4 ∨ m.toInt = 5 ∨ m.toInt = 6 := by omega
  rcases h with h | h | h | h | h | h | h
  · exact (Or.inl (own_lit h))
  · exact (Or.inr (Or.inl (own_lit h)))
  · exact (Or.inr (Or.inr (Or.inl (own_lit h))))
  · exact (Or.inr (Or.inr (Or.inr (Or.inl (own_lit h)))))
  · exact (Or.inr (Or.inr (Or.inr (Or.inr (Or.inl (own_lit h))))))
  · exact (Or.inr (Or.inr (Or.inr (Or.inr (Or.inr (Or.inl (own_lit h)))))))
  · exact (Or.inr (Or.inr (Or.inr (Or.inr (Or.inr (Or.inr (own_lit h)))))))
theorem own_m (x : Int32) : 0 ≤ ((x &&& (2147483647 : Int32)) % (7 : Int32)).toInt ∧ ((x &&& (2147483647 : Int32)) % (7 : Int32)).toInt ≤ 6 := by
  have e1 : (x &&& (2147483647 : Int32)).toInt = x.toInt % 2 ^ 31 := Jvm.Kit.i32_mask x _ (k := 31) (by decide) (by decide)
  have e2 := Jvm.Kit.i32_rem_nonneg (x := (x &&& (2147483647 : Int32))) (y := (7 : Int32)) (by omega)
  have e3 : (7 : Int32).toInt = 7 := by decide
  rw [e3] at e2
  omega
def ordW (i : Int32) : Int32 := i
theorem s_injW {i j : Int32} (h : ordW i = ordW j) : i = j := h
theorem own_l {W : Int32 → Addr} (IW : ∀ i j : Int32, 0 ≤ i.toInt → i.toInt ≤ 6 → 0 ≤ j.toInt → j.toInt ≤ 6 → W i = W j → i = j) {k : Int32} (h1 : 0 ≤ k.toInt) (h2 : k.toInt ≤ 6) : bz (W k = W 0 ∨ W k = W 1 ∨ W k = W 2) = bz (k < (3 : Int32)) := by
  have q : ∀ j : Int32, 0 ≤ j.toInt → j.toInt ≤ 6 → (W k = W j ↔ k = j) := fun j h3 h4 => ⟨IW k j h1 h2 h3 h4, fun e => by rw [e]⟩
  simp only [bz, q 0 (by decide) (by decide), q 1 (by decide) (by decide), q 2 (by decide) (by decide)]
  rcases own_rg_0_6 h1 h2 with rfl | rfl | rfl | rfl | rfl | rfl | rfl <;> decide
theorem d1_0 : decode method_3_code 0 = .ok (.iload_n 0, 1) := by decide +kernel
theorem d1_1 : decode method_3_code 1 = .ok (.ifCond .ne 7, 3) := by decide +kernel
theorem d1_4 : decode method_3_code 4 = .ok (.getstatic 20, 3) := by decide +kernel
theorem d1_7 : decode method_3_code 7 = .ok (.areturn, 1) := by decide +kernel
theorem d1_8 : decode method_3_code 8 = .ok (.iload_n 0, 1) := by decide +kernel
theorem d1_9 : decode method_3_code 9 = .ok (.iconst 1, 1) := by decide +kernel
theorem d1_10 : decode method_3_code 10 = .ok (.if_icmp .ne 7, 3) := by decide +kernel
theorem d1_13 : decode method_3_code 13 = .ok (.getstatic 24, 3) := by decide +kernel
theorem d1_16 : decode method_3_code 16 = .ok (.areturn, 1) := by decide +kernel
theorem d1_17 : decode method_3_code 17 = .ok (.iload_n 0, 1) := by decide +kernel
theorem d1_18 : decode method_3_code 18 = .ok (.iconst 2, 1) := by decide +kernel
theorem d1_19 : decode method_3_code 19 = .ok (.if_icmp .ne 7, 3) := by decide +kernel
theorem d1_22 : decode method_3_code 22 = .ok (.getstatic 27, 3) := by decide +kernel
theorem d1_25 : decode method_3_code 25 = .ok (.areturn, 1) := by decide +kernel
theorem d1_26 : decode method_3_code 26 = .ok (.iload_n 0, 1) := by decide +kernel
theorem d1_27 : decode method_3_code 27 = .ok (.iconst 3, 1) := by decide +kernel
theorem d1_28 : decode method_3_code 28 = .ok (.if_icmp .ne 7, 3) := by decide +kernel
theorem d1_31 : decode method_3_code 31 = .ok (.getstatic 30, 3) := by decide +kernel
theorem d1_34 : decode method_3_code 34 = .ok (.areturn, 1) := by decide +kernel
theorem d1_35 : decode method_3_code 35 = .ok (.iload_n 0, 1) := by decide +kernel
theorem d1_36 : decode method_3_code 36 = .ok (.iconst 4, 1) := by decide +kernel
theorem d1_37 : decode method_3_code 37 = .ok (.if_icmp .ne 7, 3) := by decide +kernel
theorem d1_40 : decode method_3_code 40 = .ok (.getstatic 33, 3) := by decide +kernel
theorem d1_43 : decode method_3_code 43 = .ok (.areturn, 1) := by decide +kernel
theorem d1_44 : decode method_3_code 44 = .ok (.iload_n 0, 1) := by decide +kernel
theorem d1_45 : decode method_3_code 45 = .ok (.iconst 5, 1) := by decide +kernel
theorem d1_46 : decode method_3_code 46 = .ok (.if_icmp .ne 7, 3) := by decide +kernel
theorem d1_49 : decode method_3_code 49 = .ok (.getstatic 36, 3) := by decide +kernel
theorem d1_52 : decode method_3_code 52 = .ok (.areturn, 1) := by decide +kernel
theorem d1_53 : decode method_3_code 53 = .ok (.getstatic 39, 3) := by decide +kernel
theorem d1_56 : decode method_3_code 56 = .ok (.areturn, 1) := by decide +kernel
theorem pn_0 : plainName "com/example/formal_courier/formalcourier/crs/DocumentTypeIsProductionPinLaw" = true := by first | (simp [plainName, overriddenIn]; done) | decide +kernel
theorem ef_1 (m : MethodId) (x0 : Int32) : entryFrame m #[(.int x0)] 1 = mkF m 0 #[.val (.int x0)] [] := by first | (simp [entryFrame, mkF, argsToLocals, Value.category]; done) | rfl
def Q1 (Z : State) (p1 : Int32) (W : Int32 → Addr) (h0 : Heap) (n0 : Nat) (v : Option Value) (h : Heap) (L : List Loc) : Prop := v = some (.ref (W p1)) ∧ Fr n0 L ∧ h = h0
set_option maxRecDepth 65536 in
set_option maxHeartbeats 40000000 in
theorem rm1 (l : Launch) (Z : State) (a0 : Array Value) (hw : ∀ d ∈ tables_1, d.before a0 Z = true) (ws : List Jvm.Cond) (p1 : Int32) (W : Int32 → Addr) (h0 : Heap) (n0 : Nat) (Z0 : n0 ≤ h0.size) (EW : WS Z h0 W) (hk1 : 0 ≤ p1.toInt) (hk2 : p1.toInt ≤ 6) :
    MetFree l (⟨"com/example/formal_courier/formalcourier/crs/DocumentTypeIsProductionPinLaw", "pick", "(I)Lcom/example/formal_courier/formalcourier/crs/CrsDocumentTypeControls$DocumentType;"⟩ : MethodName) (head1 (Jvm.Cond.code (⟨"com/example/formal_courier/formalcourier/crs/DocumentTypeIsProductionPinLaw", "pick", "(I)Lcom/example/formal_courier/formalcourier/crs/CrsDocumentTypeControls$DocumentType;"⟩ : MethodName) method_3_code 1 (some (.object "com/example/formal_courier/formalcourier/crs/CrsDocumentTypeControls$DocumentType")) :: ws) ({ frames := 0, cells := 0, slots := 0, locals := 0 } : Room)) (fun a U => a = #[(.int p1)] ∧ Z.Warmed39 U.vm ∧ U.heap = h0) (fun _ _ _ _ _ => True) (fun _ U o U' => ∃ v L, o = .returned v ∧ Q1 Z p1 W h0 n0 v U'.heap L ∧ FrameEnd U o U' L ({ frames := 0, cells := 0, slots := 0, locals := 0 } : Room).cells ({ frames := 0, cells := 0, slots := 0, locals := 0 } : Room).slots) := by
  refine MetFree.of_bodySF (plainFor_of_name pn_0) hisR ?_
  intro p e s m args below meth c s₁ Bd hml0 hP hK
  obtain ⟨rfl, hZ, hh⟩ := hP
  have hx := Bd.exec
  have hby := Bd.bytes
  have hlk : meth.locks = false := BodyLoose.notSynchronized Bd
  have hml : c.maxLocals = 1 := hml0
  have hown : s.vm.findClass "com/example/formal_courier/formalcourier/crs/DocumentTypeIsProductionPinLaw" = some m.cls := findClass_of_methodNamed Bd.named
  have hnm := (name_of_methodNamed Bd.named Bd.method).1
  have X0 : Stand p l e ({ frames := 0, cells := 0, slots := 0, locals := 0 } : Room) s m #[(.int p1)] below meth c s₁ [] 0 0 := Stand.of_body Bd
  have e0 : s₁.heap = h0 := by rw [← hh, Bd.state]; rfl
  have N0 := Fr.nil n0
  show Go p e below (Kf s (Q1 Z p1 W h0 n0) ({ frames := 0, cells := 0, slots := 0, locals := 0 } : Room).cells ({ frames := 0, cells := 0, slots := 0, locals := 0 } : Room).slots) (s₁.setTop (entryFrame m #[(.int p1)] 1))
  refine own_s (B := s₁.setTop (mkF m 0 #[.val (.int p1)] [])) (fun t k => castTop (ef_1 m p1) k) ?_
  refine own_s (B := s₁.setTop (mkF m 1 #[.val (.int p1)] [(.int p1)])) (fun t k => XS.iloadN X0.here hx rfl (hb hby d1_0) rfl k) ?_
  by_cases hc1 : p1 = (0 : Int32)
  · refine own_s (B := s₁.setTop (mkF m 4 #[.val (.int p1)] [])) (fun t k => XS.ifNo X0.here hx rfl (hb hby d1_1) rfl ((if0 _ _).trans (teq hc1).2) k) ?_
    obtain ⟨T1, X1, e1, st1⟩ := getS2 X0 hx hZ hown (host := "") (Or.inl (hw _ (List.mem_of_getElem? (i := 5) rfl))) Via.refl e0 EW.1 (g := (mkF m 4 #[.val (.int p1)] [])) rfl (hb hby d1_4)
    refine own_s (B := T1.setTop (mkF m 7 #[.val (.int p1)] [(.ref (W (0 : Int32)))])) st1 ?_
    exact own_retR X1 hx hlk Bd.returns rfl rfl (hb hby d1_7) (by decide) (by decide) ⟨own_r (by rw [hc1]), N0, e1⟩
  · refine own_s (B := s₁.setTop (mkF m 8 #[.val (.int p1)] [])) (fun t k => XS.ifYes X0.here hx rfl (pc0 := 1) (pc' := 8) rfl (hb hby d1_1) rfl ((if0 _ _).trans (feq hc1).2) (by decide) (by decide) k) ?_
    refine own_s (B := s₁.setTop (mkF m 9 #[.val (.int p1)] [(.int p1)])) (fun t k => XS.iloadN X0.here hx rfl (hb hby d1_8) rfl k) ?_
    refine own_s (B := s₁.setTop (mkF m 10 #[.val (.int p1)] [(.int (1 : Int32)), (.int p1)])) (fun t k => XS.iconst X0.here hx rfl (hb hby d1_9) k) ?_
    by_cases hc10 : p1 = (1 : Int32)
    · refine own_s (B := s₁.setTop (mkF m 13 #[.val (.int p1)] [])) (fun t k => XS.icmpNo X0.here hx rfl (hb hby d1_10) rfl (teq hc10).2 k) ?_
      obtain ⟨T2, X2, e2, st2⟩ := getS2 X0 hx hZ hown (host := "") (Or.inl (hw _ (List.mem_of_getElem? (i := 27) rfl))) Via.refl e0 EW.2.1 (g := (mkF m 13 #[.val (.int p1)] [])) rfl (hb hby d1_13)
      refine own_s (B := T2.setTop (mkF m 16 #[.val (.int p1)] [(.ref (W (1 : Int32)))])) st2 ?_
      exact own_retR X2 hx hlk Bd.returns rfl rfl (hb hby d1_16) (by decide) (by decide) ⟨own_r (by rw [hc10]), N0, e2⟩
    · refine own_s (B := s₁.setTop (mkF m 17 #[.val (.int p1)] [])) (fun t k => XS.icmpYes X0.here hx rfl (pc0 := 10) (pc' := 17) rfl (hb hby d1_10) rfl (feq hc10).2 (by decide) (by decide) k) ?_
      refine own_s (B := s₁.setTop (mkF m 18 #[.val (.int p1)] [(.int p1)])) (fun t k => XS.iloadN X0.here hx rfl (hb hby d1_17) rfl k) ?_
      refine own_s (B := s₁.setTop (mkF m 19 #[.val (.int p1)] [(.int (2 : Int32)), (.int p1)])) (fun t k => XS.iconst X0.here hx rfl (hb hby d1_18) k) ?_
      by_cases hc19 : p1 = (2 : Int32)
      · refine own_s (B := s₁.setTop (mkF m 22 #[.val (.int p1)] [])) (fun t k => XS.icmpNo X0.here hx rfl (hb hby d1_19) rfl (teq hc19).2 k) ?_
        obtain ⟨T3, X3, e3, st3⟩ := getS2 X0 hx hZ hown (host := "") (Or.inl (hw _ (List.mem_of_getElem? (i := 26) rfl))) Via.refl e0 EW.2.2.1 (g := (mkF m 22 #[.val (.int p1)] [])) rfl (hb hby d1_22)
        refine own_s (B := T3.setTop (mkF m 25 #[.val (.int p1)] [(.ref (W (2 : Int32)))])) st3 ?_
        exact own_retR X3 hx hlk Bd.returns rfl rfl (hb hby d1_25) (by decide) (by decide) ⟨own_r (by rw [hc19]), N0, e3⟩
      · refine own_s (B := s₁.setTop (mkF m 26 #[.val (.int p1)] [])) (fun t k => XS.icmpYes X0.here hx rfl (pc0 := 19) (pc' := 26) rfl (hb hby d1_19) rfl (feq hc19).2 (by decide) (by decide) k) ?_
        refine own_s (B := s₁.setTop (mkF m 27 #[.val (.int p1)] [(.int p1)])) (fun t k => XS.iloadN X0.here hx rfl (hb hby d1_26) rfl k) ?_
        refine own_s (B := s₁.setTop (mkF m 28 #[.val (.int p1)] [(.int (3 : Int32)), (.int p1)])) (fun t k => XS.iconst X0.here hx rfl (hb hby d1_27) k) ?_
        by_cases hc28 : p1 = (3 : Int32)
        · refine own_s (B := s₁.setTop (mkF m 31 #[.val (.int p1)] [])) (fun t k => XS.icmpNo X0.here hx rfl (hb hby d1_28) rfl (teq hc28).2 k) ?_
          obtain ⟨T4, X4, e4, st4⟩ := getS2 X0 hx hZ hown (host := "") (Or.inl (hw _ (List.mem_of_getElem? (i := 14) rfl))) Via.refl e0 EW.2.2.2.1 (g := (mkF m 31 #[.val (.int p1)] [])) rfl (hb hby d1_31)
          refine own_s (B := T4.setTop (mkF m 34 #[.val (.int p1)] [(.ref (W (3 : Int32)))])) st4 ?_
          exact own_retR X4 hx hlk Bd.returns rfl rfl (hb hby d1_34) (by decide) (by decide) ⟨own_r (by rw [hc28]), N0, e4⟩
        · refine own_s (B := s₁.setTop (mkF m 35 #[.val (.int p1)] [])) (fun t k => XS.icmpYes X0.here hx rfl (pc0 := 28) (pc' := 35) rfl (hb hby d1_28) rfl (feq hc28).2 (by decide) (by decide) k) ?_
          refine own_s (B := s₁.setTop (mkF m 36 #[.val (.int p1)] [(.int p1)])) (fun t k => XS.iloadN X0.here hx rfl (hb hby d1_35) rfl k) ?_
          refine own_s (B := s₁.setTop (mkF m 37 #[.val (.int p1)] [(.int (4 : Int32)), (.int p1)])) (fun t k => XS.iconst X0.here hx rfl (hb hby d1_36) k) ?_
          by_cases hc37 : p1 = (4 : Int32)
          · refine own_s (B := s₁.setTop (mkF m 40 #[.val (.int p1)] [])) (fun t k => XS.icmpNo X0.here hx rfl (hb hby d1_37) rfl (teq hc37).2 k) ?_
            obtain ⟨T5, X5, e5, st5⟩ := getS2 X0 hx hZ hown (host := "") (Or.inl (hw _ (List.mem_of_getElem? (i := 24) rfl))) Via.refl e0 EW.2.2.2.2.1 (g := (mkF m 40 #[.val (.int p1)] [])) rfl (hb hby d1_40)
            refine own_s (B := T5.setTop (mkF m 43 #[.val (.int p1)] [(.ref (W (4 : Int32)))])) st5 ?_
            exact own_retR X5 hx hlk Bd.returns rfl rfl (hb hby d1_43) (by decide) (by decide) ⟨own_r (by rw [hc37]), N0, e5⟩
          · refine own_s (B := s₁.setTop (mkF m 44 #[.val (.int p1)] [])) (fun t k => XS.icmpYes X0.here hx rfl (pc0 := 37) (pc' := 44) rfl (hb hby d1_37) rfl (feq hc37).2 (by decide) (by decide) k) ?_
            refine own_s (B := s₁.setTop (mkF m 45 #[.val (.int p1)] [(.int p1)])) (fun t k => XS.iloadN X0.here hx rfl (hb hby d1_44) rfl k) ?_
            refine own_s (B := s₁.setTop (mkF m 46 #[.val (.int p1)] [(.int (5 : Int32)), (.int p1)])) (fun t k => XS.iconst X0.here hx rfl (hb hby d1_45) k) ?_
            by_cases hc46 : p1 = (5 : Int32)
            · refine own_s (B := s₁.setTop (mkF m 49 #[.val (.int p1)] [])) (fun t k => XS.icmpNo X0.here hx rfl (hb hby d1_46) rfl (teq hc46).2 k) ?_
              obtain ⟨T6, X6, e6, st6⟩ := getS2 X0 hx hZ hown (host := "") (Or.inl (hw _ (List.mem_of_getElem? (i := 20) rfl))) Via.refl e0 EW.2.2.2.2.2.1 (g := (mkF m 49 #[.val (.int p1)] [])) rfl (hb hby d1_49)
              refine own_s (B := T6.setTop (mkF m 52 #[.val (.int p1)] [(.ref (W (5 : Int32)))])) st6 ?_
              exact own_retR X6 hx hlk Bd.returns rfl rfl (hb hby d1_52) (by decide) (by decide) ⟨own_r (by rw [hc46]), N0, e6⟩
            · refine own_s (B := s₁.setTop (mkF m 53 #[.val (.int p1)] [])) (fun t k => XS.icmpYes X0.here hx rfl (pc0 := 46) (pc' := 53) rfl (hb hby d1_46) rfl (feq hc46).2 (by decide) (by decide) k) ?_
              obtain ⟨T7, X7, e7, st7⟩ := getS2 X0 hx hZ hown (host := "") (Or.inl (hw _ (List.mem_of_getElem? (i := 22) rfl))) Via.refl e0 EW.2.2.2.2.2.2 (g := (mkF m 53 #[.val (.int p1)] [])) rfl (hb hby d1_53)
              refine own_s (B := T7.setTop (mkF m 56 #[.val (.int p1)] [(.ref (W (6 : Int32)))])) st7 ?_
              exact own_retR X7 hx hlk Bd.returns rfl rfl (hb hby d1_56) (by decide) (by decide) ⟨own_r (by rcases own_rg_0_6 hk1 hk2 with q | q | q | q | q | q | q <;> first | exact absurd q hc1 | exact absurd q hc10 | exact absurd q hc19 | exact absurd q hc28 | exact absurd q hc37 | exact absurd q hc46 | rw [q]), N0, e7⟩
theorem d2_0 : decode prog_48_method_8_code 0 = .ok (.aload_n 0, 1) := by decide +kernel
theorem d2_1 : decode prog_48_method_8_code 1 = .ok (.getstatic 3, 3) := by decide +kernel
theorem d2_4 : decode prog_48_method_8_code 4 = .ok (.if_acmp .eq 17, 3) := by decide +kernel
theorem d2_7 : decode prog_48_method_8_code 7 = .ok (.aload_n 0, 1) := by decide +kernel
theorem d2_8 : decode prog_48_method_8_code 8 = .ok (.getstatic 7, 3) := by decide +kernel
theorem d2_11 : decode prog_48_method_8_code 11 = .ok (.if_acmp .eq 10, 3) := by decide +kernel
theorem d2_14 : decode prog_48_method_8_code 14 = .ok (.aload_n 0, 1) := by decide +kernel
theorem d2_15 : decode prog_48_method_8_code 15 = .ok (.getstatic 10, 3) := by decide +kernel
theorem d2_18 : decode prog_48_method_8_code 18 = .ok (.if_acmp .ne 7, 3) := by decide +kernel
theorem d2_21 : decode prog_48_method_8_code 21 = .ok (.iconst 1, 1) := by decide +kernel
theorem d2_22 : decode prog_48_method_8_code 22 = .ok (.goto 4, 3) := by decide +kernel
theorem d2_25 : decode prog_48_method_8_code 25 = .ok (.iconst 0, 1) := by decide +kernel
theorem d2_26 : decode prog_48_method_8_code 26 = .ok (.ireturn, 1) := by decide +kernel
theorem pn_1 : plainName "com/example/formal_courier/formalcourier/crs/CrsDocumentTypeControls$DocumentType" = true := by first | (simp [plainName, overriddenIn]; done) | decide +kernel
theorem ef_2 (m : MethodId) (x0 : Addr) : entryFrame m #[(.ref x0)] 1 = mkF m 0 #[.val (.ref x0)] [] := by first | (simp [entryFrame, mkF, argsToLocals, Value.category]; done) | rfl
def Q2 (Z : State) (a1 : Addr) (W : Int32 → Addr) (h0 : Heap) (n0 : Nat) (v : Option Value) (h : Heap) (L : List Loc) : Prop := v = some (.int (bz (a1 = W 0 ∨ a1 = W 1 ∨ a1 = W 2))) ∧ Fr n0 L ∧ h = h0
set_option maxRecDepth 65536 in
set_option maxHeartbeats 40000000 in
theorem rm2 (l : Launch) (Z : State) (a0 : Array Value) (hw : ∀ d ∈ tables_1, d.before a0 Z = true) (ws : List Jvm.Cond) (a1 : Addr) (W : Int32 → Addr) (h0 : Heap) (n0 : Nat) (Z0 : n0 ≤ h0.size) (EW : WS Z h0 W) :
    MetFree l (⟨"com/example/formal_courier/formalcourier/crs/CrsDocumentTypeControls$DocumentType", "isProduction", "()Z"⟩ : MethodName) (head1 (Jvm.Cond.code (⟨"com/example/formal_courier/formalcourier/crs/CrsDocumentTypeControls$DocumentType", "isProduction", "()Z"⟩ : MethodName) prog_48_method_8_code 1 (some .boolean) :: ws) ({ frames := 0, cells := 0, slots := 0, locals := 0 } : Room)) (fun a U => a = #[(.ref a1)] ∧ Z.Warmed39 U.vm ∧ U.heap = h0) (fun _ _ _ _ _ => True) (fun _ U o U' => ∃ v L, o = .returned v ∧ Q2 Z a1 W h0 n0 v U'.heap L ∧ FrameEnd U o U' L ({ frames := 0, cells := 0, slots := 0, locals := 0 } : Room).cells ({ frames := 0, cells := 0, slots := 0, locals := 0 } : Room).slots) := by
  refine MetFree.of_bodySF (plainFor_of_name pn_1) hisR ?_
  intro p e s m args below meth c s₁ Bd hml0 hP hK
  obtain ⟨rfl, hZ, hh⟩ := hP
  have hx := Bd.exec
  have hby := Bd.bytes
  have hlk : meth.locks = false := BodyLoose.notSynchronized Bd
  have hml : c.maxLocals = 1 := hml0
  have hown : s.vm.findClass "com/example/formal_courier/formalcourier/crs/CrsDocumentTypeControls$DocumentType" = some m.cls := findClass_of_methodNamed Bd.named
  have hnm := (name_of_methodNamed Bd.named Bd.method).1
  have X0 : Stand p l e ({ frames := 0, cells := 0, slots := 0, locals := 0 } : Room) s m #[(.ref a1)] below meth c s₁ [] 0 0 := Stand.of_body Bd
  have e0 : s₁.heap = h0 := by rw [← hh, Bd.state]; rfl
  have N0 := Fr.nil n0
  show Go p e below (Kf s (Q2 Z a1 W h0 n0) ({ frames := 0, cells := 0, slots := 0, locals := 0 } : Room).cells ({ frames := 0, cells := 0, slots := 0, locals := 0 } : Room).slots) (s₁.setTop (entryFrame m #[(.ref a1)] 1))
  refine own_s (B := s₁.setTop (mkF m 0 #[.val (.ref a1)] [])) (fun t k => castTop (ef_2 m a1) k) ?_
  refine own_s (B := s₁.setTop (mkF m 1 #[.val (.ref a1)] [(.ref a1)])) (fun t k => XS.aloadN X0.here hx rfl (hb hby d2_0) rfl rfl k) ?_
  obtain ⟨T1, X1, e1, st1⟩ := getS2 X0 hx hZ hown (host := "") (Or.inl (hw _ (List.mem_of_getElem? (i := 13) rfl))) Via.refl e0 EW.1 (g := (mkF m 1 #[.val (.ref a1)] [(.ref a1)])) rfl (hb hby d2_1)
  refine own_s (B := T1.setTop (mkF m 4 #[.val (.ref a1)] [(.ref (W (0 : Int32))), (.ref a1)])) st1 ?_
  by_cases ha4 : a1 = (W (0 : Int32))
  · refine own_s (B := T1.setTop (mkF m 21 #[.val (.ref a1)] [])) (fun t k => Jvm.RoadKit.acmp (g := (mkF m 4 #[.val (.ref a1)] [(.ref (W (0 : Int32))), (.ref a1)])) X1 hx rfl rfl rfl (pc0 := 4) (pc' := 21) (same := true) rfl (hb hby d2_4) rfl (decide_eq_true (congrArg Value.ref ha4)) (by decide) (by decide) k) ?_
    refine own_s (B := T1.setTop (mkF m 22 #[.val (.ref a1)] [(.int (1 : Int32))])) (fun t k => XS.iconst X1.here hx rfl (hb hby d2_21) k) ?_
    refine own_s (B := T1.setTop (mkF m 26 #[.val (.ref a1)] [(.int (1 : Int32))])) (fun t k => XS.goto X1.here hx rfl (pc0 := 22) (pc' := 26) rfl (hb hby d2_22) (by decide) (by decide) k) ?_
    exact own_retB X1 hx hlk (t := .boolean) Bd.returns (by simp) (hb hby d2_26) (by decide) (by decide) ⟨own_t (Or.inl ha4), N0, e1⟩
  · refine own_s (B := T1.setTop (mkF m 7 #[.val (.ref a1)] [])) (fun t k => Jvm.RoadKit.acmp (g := (mkF m 4 #[.val (.ref a1)] [(.ref (W (0 : Int32))), (.ref a1)])) X1 hx rfl rfl rfl (pc0 := 4) (pc' := 7) (same := false) rfl (hb hby d2_4) rfl (decide_eq_false fun q => ha4 (Value.ref.inj q)) (by decide) (by decide) k) ?_
    refine own_s (B := T1.setTop (mkF m 8 #[.val (.ref a1)] [(.ref a1)])) (fun t k => XS.aloadN X1.here hx rfl (hb hby d2_7) rfl rfl k) ?_
    obtain ⟨T2, X2, e2, st2⟩ := getS2 X1 hx hZ hown (host := "") (Or.inl (hw _ (List.mem_of_getElem? (i := 16) rfl))) Via.refl e1 EW.2.1 (g := (mkF m 8 #[.val (.ref a1)] [(.ref a1)])) rfl (hb hby d2_8)
    refine own_s (B := T2.setTop (mkF m 11 #[.val (.ref a1)] [(.ref (W (1 : Int32))), (.ref a1)])) st2 ?_
    by_cases ha11 : a1 = (W (1 : Int32))
    · refine own_s (B := T2.setTop (mkF m 21 #[.val (.ref a1)] [])) (fun t k => Jvm.RoadKit.acmp (g := (mkF m 11 #[.val (.ref a1)] [(.ref (W (1 : Int32))), (.ref a1)])) X2 hx rfl rfl rfl (pc0 := 11) (pc' := 21) (same := true) rfl (hb hby d2_11) rfl (decide_eq_true (congrArg Value.ref ha11)) (by decide) (by decide) k) ?_
      refine own_s (B := T2.setTop (mkF m 22 #[.val (.ref a1)] [(.int (1 : Int32))])) (fun t k => XS.iconst X2.here hx rfl (hb hby d2_21) k) ?_
      refine own_s (B := T2.setTop (mkF m 26 #[.val (.ref a1)] [(.int (1 : Int32))])) (fun t k => XS.goto X2.here hx rfl (pc0 := 22) (pc' := 26) rfl (hb hby d2_22) (by decide) (by decide) k) ?_
      exact own_retB X2 hx hlk (t := .boolean) Bd.returns (by simp) (hb hby d2_26) (by decide) (by decide) ⟨own_t (Or.inr (Or.inl ha11)), N0, e2⟩
    · refine own_s (B := T2.setTop (mkF m 14 #[.val (.ref a1)] [])) (fun t k => Jvm.RoadKit.acmp (g := (mkF m 11 #[.val (.ref a1)] [(.ref (W (1 : Int32))), (.ref a1)])) X2 hx rfl rfl rfl (pc0 := 11) (pc' := 14) (same := false) rfl (hb hby d2_11) rfl (decide_eq_false fun q => ha11 (Value.ref.inj q)) (by decide) (by decide) k) ?_
      refine own_s (B := T2.setTop (mkF m 15 #[.val (.ref a1)] [(.ref a1)])) (fun t k => XS.aloadN X2.here hx rfl (hb hby d2_14) rfl rfl k) ?_
      obtain ⟨T3, X3, e3, st3⟩ := getS2 X2 hx hZ hown (host := "") (Or.inl (hw _ (List.mem_of_getElem? (i := 18) rfl))) Via.refl e2 EW.2.2.1 (g := (mkF m 15 #[.val (.ref a1)] [(.ref a1)])) rfl (hb hby d2_15)
      refine own_s (B := T3.setTop (mkF m 18 #[.val (.ref a1)] [(.ref (W (2 : Int32))), (.ref a1)])) st3 ?_
      by_cases ha18 : a1 = (W (2 : Int32))
      · refine own_s (B := T3.setTop (mkF m 21 #[.val (.ref a1)] [])) (fun t k => Jvm.RoadKit.acmp (g := (mkF m 18 #[.val (.ref a1)] [(.ref (W (2 : Int32))), (.ref a1)])) X3 hx rfl rfl rfl (pc0 := 18) (pc' := 21) (same := true) rfl (hb hby d2_18) rfl (decide_eq_true (congrArg Value.ref ha18)) (by decide) (by decide) k) ?_
        refine own_s (B := T3.setTop (mkF m 22 #[.val (.ref a1)] [(.int (1 : Int32))])) (fun t k => XS.iconst X3.here hx rfl (hb hby d2_21) k) ?_
        refine own_s (B := T3.setTop (mkF m 26 #[.val (.ref a1)] [(.int (1 : Int32))])) (fun t k => XS.goto X3.here hx rfl (pc0 := 22) (pc' := 26) rfl (hb hby d2_22) (by decide) (by decide) k) ?_
        exact own_retB X3 hx hlk (t := .boolean) Bd.returns (by simp) (hb hby d2_26) (by decide) (by decide) ⟨own_t (Or.inr (Or.inr ha18)), N0, e3⟩
      · refine own_s (B := T3.setTop (mkF m 25 #[.val (.ref a1)] [])) (fun t k => Jvm.RoadKit.acmp (g := (mkF m 18 #[.val (.ref a1)] [(.ref (W (2 : Int32))), (.ref a1)])) X3 hx rfl rfl rfl (pc0 := 18) (pc' := 25) (same := false) rfl (hb hby d2_18) rfl (decide_eq_false fun q => ha18 (Value.ref.inj q)) (by decide) (by decide) k) ?_
        refine own_s (B := T3.setTop (mkF m 26 #[.val (.ref a1)] [(.int (0 : Int32))])) (fun t k => XS.iconst X3.here hx rfl (hb hby d2_25) k) ?_
        exact own_retB X3 hx hlk (t := .boolean) Bd.returns (by simp) (hb hby d2_26) (by decide) (by decide) ⟨own_f (by simp only [ha4, ha11, ha18, or_false, not_false_eq_true]), N0, e3⟩
theorem pd_0 : parseMethodDescriptor "(I)Lcom/example/formal_courier/formalcourier/crs/CrsDocumentTypeControls$DocumentType;" = some ⟨[.int], some (.object "com/example/formal_courier/formalcourier/crs/CrsDocumentTypeControls$DocumentType")⟩ := by decide +kernel
theorem pd_1 : parseMethodDescriptor "()Z" = some ⟨[], some .boolean⟩ := by decide +kernel
theorem ef_0 (m : MethodId) (x0 : Int32) : entryFrame m #[(.int x0)] maxLocals = mkF m 0 #[.val (.int x0), .unset, .unset, .unset] [] := by first | (simp [entryFrame, mkF, argsToLocals, Value.category, maxLocals]; done) | rfl
def Q0 (Z : State) (p1 : Int32) (W : Int32 → Addr) (h0 : Heap) (n0 : Nat) (v : Option Value) (h : Heap) (L : List Loc) : Prop := v = some (.int 1) ∧ Fr n0 L
set_option maxRecDepth 65536 in
set_option maxHeartbeats 40000000 in
theorem rm0 (l : Launch) (Z : State) (a0 : Array Value) (hw : ∀ d ∈ tables_1, d.before a0 Z = true) (ws : List Jvm.Cond) (p1 : Int32) (W : Int32 → Addr) (h0 : Heap) (n0 : Nat) (Z0 : n0 ≤ h0.size) (EW : WS Z h0 W) (XW : ∀ i : Int32, 0 ≤ i.toInt → i.toInt ≤ 6 → Exa Z h0 (W i) "com/example/formal_courier/formalcourier/crs/CrsDocumentTypeControls$DocumentType") (IW : ∀ i j : Int32, 0 ≤ i.toInt → i.toInt ≤ 6 → 0 ≤ j.toInt → j.toInt ≤ 6 → W i = W j → i = j) :
    MetFree l x (head1 (Jvm.Cond.code x code maxLocals ret :: ws) room_1) (fun a U => a = #[(.int p1)] ∧ Z.Warmed39 U.vm ∧ U.heap = h0) (fun _ _ _ _ _ => True) (fun _ U o U' => ∃ v L, o = .returned v ∧ Q0 Z p1 W h0 n0 v U'.heap L ∧ FrameEnd U o U' L room_1.cells room_1.slots) := by
  refine MetFree.of_bodySF (plainFor_of_name pn_0) hisR ?_
  intro p e s m args below meth c s₁ Bd hml0 hP hK
  obtain ⟨rfl, hZ, hh⟩ := hP
  have hx := Bd.exec
  have hby := Bd.bytes
  have hlk : meth.locks = false := BodyLoose.notSynchronized Bd
  have hml : c.maxLocals = 4 := hml0
  have hown : s.vm.findClass "com/example/formal_courier/formalcourier/crs/DocumentTypeIsProductionPinLaw" = some m.cls := findClass_of_methodNamed Bd.named
  have hnm := (name_of_methodNamed Bd.named Bd.method).1
  have X0 : Stand p l e room_1 s m #[(.int p1)] below meth c s₁ [] 0 0 := Stand.of_body Bd
  have e0 : s₁.heap = h0 := by rw [← hh, Bd.state]; rfl
  have N0 := Fr.nil n0
  show Go p e below (Kf s (Q0 Z p1 W h0 n0) room_1.cells room_1.slots) (s₁.setTop (entryFrame m #[(.int p1)] maxLocals))
  refine own_s (B := s₁.setTop (mkF m 0 #[.val (.int p1), .unset, .unset, .unset] [])) (fun t k => castTop (ef_0 m p1) k) ?_
  refine own_s (B := s₁.setTop (mkF m 1 #[.val (.int p1), .unset, .unset, .unset] [(.int p1)])) (fun t k => XS.iloadN X0.here hx rfl (hb hby at_0) rfl k) ?_
  refine own_s (B := s₁.setTop (mkF m 3 #[.val (.int p1), .unset, .unset, .unset] [(.int (2147483647 : Int32)), (.int p1)])) (fun t k => X0.ldcInt hx hown (mvT hZ (hw _ (List.mem_of_getElem? (i := 0) rfl))) (g := (mkF m 1 #[.val (.int p1), .unset, .unset, .unset] [(.int p1)])) rfl (hb hby at_1) t k) ?_
  refine own_s (B := s₁.setTop (mkF m 4 #[.val (.int p1), .unset, .unset, .unset] [(.int (p1 &&& (2147483647 : Int32)))])) (fun t k => XS.iand X0.here hx rfl (hb hby at_3) rfl k) ?_
  refine own_s (B := s₁.setTop (mkF m 6 #[.val (.int p1), .unset, .unset, .unset] [(.int (7 : Int32)), (.int (p1 &&& (2147483647 : Int32)))])) (fun t k => XS.bipush X0.here hx rfl (hb hby at_4) k) ?_
  refine own_s (B := s₁.setTop (mkF m 7 #[.val (.int p1), .unset, .unset, .unset] [(.int ((p1 &&& (2147483647 : Int32)) % (7 : Int32)))])) (fun t k => iremM X0 hx rfl (hb hby at_6) rfl (by decide : (7 : Int32) ≠ 0) k) ?_
  refine own_s (B := s₁.setTop (mkF m 8 #[.val (.int p1), .val (.int ((p1 &&& (2147483647 : Int32)) % (7 : Int32))), .unset, .unset] [])) (fun t k => XS.istoreN X0.here hx rfl (hb hby at_7) rfl (l' := #[.val (.int p1), .val (.int ((p1 &&& (2147483647 : Int32)) % (7 : Int32))), .unset, .unset]) rfl k) ?_
  refine own_s (B := s₁.setTop (mkF m 9 #[.val (.int p1), .val (.int ((p1 &&& (2147483647 : Int32)) % (7 : Int32))), .unset, .unset] [(.int ((p1 &&& (2147483647 : Int32)) % (7 : Int32)))])) (fun t k => XS.iloadN X0.here hx rfl (hb hby at_8) rfl k) ?_
  obtain ⟨_, _, ⟨T1, L1, k1, n1⟩, -, X1, ⟨Lc1, hQ1, l1, y1, z1⟩, st1⟩ := Jvm.LawKit.callS X0 hx (y := (⟨"com/example/formal_courier/formalcourier/crs/DocumentTypeIsProductionPinLaw", "pick", "(I)Lcom/example/formal_courier/formalcourier/crs/CrsDocumentTypeControls$DocumentType;"⟩ : MethodName)) hown (mvT hZ (hw _ (List.mem_of_getElem? (i := 1) rfl))) (mvT hZ (hw _ (List.mem_of_getElem? (i := 2) rfl))) (mvT hZ (hw _ (List.mem_of_getElem? (i := 3) rfl))) (mvT hZ (hw _ (List.mem_of_getElem? (i := 4) rfl))) (by decide) (backOf (W := 0) (rm1 l Z a0 hw [] ((p1 &&& (2147483647 : Int32)) % (7 : Int32)) W h0 n0 Z0 EW (own_m p1).1 (own_m p1).2) hZ (hw _ (List.mem_of_getElem? (i := 4) rfl)) (hw _ (List.mem_of_getElem? (i := 3) rfl)) (by decide) (by decide)) (g := (mkF m 9 #[.val (.int p1), .val (.int ((p1 &&& (2147483647 : Int32)) % (7 : Int32))), .unset, .unset] [(.int ((p1 &&& (2147483647 : Int32)) % (7 : Int32)))])) rfl (by rw [hml]; rfl) (argsL := [(.int ((p1 &&& (2147483647 : Int32)) % (7 : Int32)))]) (rest := []) (lenOf pd_0 rfl) rfl (by show 2 * 0 + _ ≤ _; exact Nat.le_of_eq rfl) (hb hby at_9) (fun _ _ => ⟨rfl, e0, (by decide : 0 + 0 ≤ _), (by decide : 0 + 0 ≤ _)⟩)
  dsimp only [Pt.U, Pt.locs, Pt.cells, Pt.slots] at X1 l1 y1 z1 st1 hQ1
  subst l1 y1 z1
  obtain ⟨rfl, N1q, e1⟩ := hQ1
  have N1 := Fr.app N0 N1q
  refine own_s (B := T1.setTop (mkF m 12 #[.val (.int p1), .val (.int ((p1 &&& (2147483647 : Int32)) % (7 : Int32))), .unset, .unset] [(.ref (W ((p1 &&& (2147483647 : Int32)) % (7 : Int32))))])) st1 ?_
  refine own_s (B := T1.setTop (mkF m 13 #[.val (.int p1), .val (.int ((p1 &&& (2147483647 : Int32)) % (7 : Int32))), .val (.ref (W ((p1 &&& (2147483647 : Int32)) % (7 : Int32)))), .unset] [])) (fun t k => XS.astoreN X1.here hx rfl (hb hby at_12) rfl rfl (l' := #[.val (.int p1), .val (.int ((p1 &&& (2147483647 : Int32)) % (7 : Int32))), .val (.ref (W ((p1 &&& (2147483647 : Int32)) % (7 : Int32)))), .unset]) rfl k) ?_
  refine own_s (B := T1.setTop (mkF m 14 #[.val (.int p1), .val (.int ((p1 &&& (2147483647 : Int32)) % (7 : Int32))), .val (.ref (W ((p1 &&& (2147483647 : Int32)) % (7 : Int32)))), .unset] [(.int ((p1 &&& (2147483647 : Int32)) % (7 : Int32)))])) (fun t k => XS.iloadN X1.here hx rfl (hb hby at_13) rfl k) ?_
  refine own_s (B := T1.setTop (mkF m 15 #[.val (.int p1), .val (.int ((p1 &&& (2147483647 : Int32)) % (7 : Int32))), .val (.ref (W ((p1 &&& (2147483647 : Int32)) % (7 : Int32)))), .unset] [(.int (3 : Int32)), (.int ((p1 &&& (2147483647 : Int32)) % (7 : Int32)))])) (fun t k => XS.iconst X1.here hx rfl (hb hby at_14) k) ?_
  by_cases hc15 : ((p1 &&& (2147483647 : Int32)) % (7 : Int32)) < (3 : Int32)
  · refine own_s (B := T1.setTop (mkF m 18 #[.val (.int p1), .val (.int ((p1 &&& (2147483647 : Int32)) % (7 : Int32))), .val (.ref (W ((p1 &&& (2147483647 : Int32)) % (7 : Int32)))), .unset] [])) (fun t k => XS.icmpNo X1.here hx rfl (hb hby at_15) rfl (tlt hc15).2.1 k) ?_
    refine own_s (B := T1.setTop (mkF m 19 #[.val (.int p1), .val (.int ((p1 &&& (2147483647 : Int32)) % (7 : Int32))), .val (.ref (W ((p1 &&& (2147483647 : Int32)) % (7 : Int32)))), .unset] [(.int (1 : Int32))])) (fun t k => XS.iconst X1.here hx rfl (hb hby at_18) k) ?_
    refine own_s (B := T1.setTop (mkF m 23 #[.val (.int p1), .val (.int ((p1 &&& (2147483647 : Int32)) % (7 : Int32))), .val (.ref (W ((p1 &&& (2147483647 : Int32)) % (7 : Int32)))), .unset] [(.int (1 : Int32))])) (fun t k => XS.goto X1.here hx rfl (pc0 := 19) (pc' := 23) rfl (hb hby at_19) (by decide) (by decide) k) ?_
    refine own_s (B := T1.setTop (mkF m 24 #[.val (.int p1), .val (.int ((p1 &&& (2147483647 : Int32)) % (7 : Int32))), .val (.ref (W ((p1 &&& (2147483647 : Int32)) % (7 : Int32)))), .val (.int (1 : Int32))] [])) (fun t k => XS.istoreN X1.here hx rfl (hb hby at_23) rfl (l' := #[.val (.int p1), .val (.int ((p1 &&& (2147483647 : Int32)) % (7 : Int32))), .val (.ref (W ((p1 &&& (2147483647 : Int32)) % (7 : Int32)))), .val (.int (1 : Int32))]) rfl k) ?_
    refine own_s (B := T1.setTop (mkF m 25 #[.val (.int p1), .val (.int ((p1 &&& (2147483647 : Int32)) % (7 : Int32))), .val (.ref (W ((p1 &&& (2147483647 : Int32)) % (7 : Int32)))), .val (.int (1 : Int32))] [(.ref (W ((p1 &&& (2147483647 : Int32)) % (7 : Int32))))])) (fun t k => XS.aloadN X1.here hx rfl (hb hby at_24) rfl rfl k) ?_
    obtain ⟨cq2, kq2, q2a, q2b, q2c⟩ := isOf hZ e1 (XW _ (own_m p1).1 (own_m p1).2)
    obtain ⟨_, _, ⟨T2, L2, k2, n2⟩, -, X2, ⟨Lc2, hQ2, l2, y2, z2⟩, st2⟩ := X1.virtualBack hx (y := (⟨"com/example/formal_courier/formalcourier/crs/CrsDocumentTypeControls$DocumentType", "isProduction", "()Z"⟩ : MethodName)) (z := (⟨"com/example/formal_courier/formalcourier/crs/CrsDocumentTypeControls$DocumentType", "isProduction", "()Z"⟩ : MethodName)) hown (mvT hZ (hw _ (List.mem_of_getElem? (i := 8) rfl))) (mvT hZ (hw _ (List.mem_of_getElem? (i := 9) rfl))) (notFace_of_selects (args := #[]) (mvT hZ (hw _ (List.mem_of_getElem? (i := 11) rfl)))) (mvT hZ (hw _ (List.mem_of_getElem? (i := 11) rfl))) (mvT hZ (hw _ (List.mem_of_getElem? (i := 10) rfl))) (by decide) (backOf (W := 0) (rm2 l Z a0 hw [] (W ((p1 &&& (2147483647 : Int32)) % (7 : Int32))) W h0 n0 Z0 EW) hZ (hw _ (List.mem_of_getElem? (i := 12) rfl)) (hw _ (List.mem_of_getElem? (i := 6) rfl)) (by decide) (by decide)) q2a q2c (g := (mkF m 25 #[.val (.int p1), .val (.int ((p1 &&& (2147483647 : Int32)) % (7 : Int32))), .val (.ref (W ((p1 &&& (2147483647 : Int32)) % (7 : Int32)))), .val (.int (1 : Int32))] [(.ref (W ((p1 &&& (2147483647 : Int32)) % (7 : Int32))))])) rfl (by rw [hml]; rfl) (Steps.refl _) (argsL := []) (rest := []) (lenOf pd_1 rfl) rfl (by show 2 * 0 + _ ≤ _; exact Nat.le_of_eq rfl) (hb hby at_25) (fun _ _ => ⟨rfl, e1, (by decide : 0 + 0 ≤ _), (by decide : 0 + 0 ≤ _)⟩)
    dsimp only [Pt.U, Pt.locs, Pt.cells, Pt.slots] at X2 l2 y2 z2 st2 hQ2
    subst l2 y2 z2
    obtain ⟨rfl, N2q, e2⟩ := hQ2
    have N2 := Fr.app N1 N2q
    refine own_s (B := T2.setTop (mkF m 28 #[.val (.int p1), .val (.int ((p1 &&& (2147483647 : Int32)) % (7 : Int32))), .val (.ref (W ((p1 &&& (2147483647 : Int32)) % (7 : Int32)))), .val (.int (1 : Int32))] [(.int (bz ((W ((p1 &&& (2147483647 : Int32)) % (7 : Int32))) = W 0 ∨ (W ((p1 &&& (2147483647 : Int32)) % (7 : Int32))) = W 1 ∨ (W ((p1 &&& (2147483647 : Int32)) % (7 : Int32))) = W 2)))])) (fun t k => st2.trans k) ?_
    refine own_s (B := T2.setTop (mkF m 29 #[.val (.int p1), .val (.int ((p1 &&& (2147483647 : Int32)) % (7 : Int32))), .val (.ref (W ((p1 &&& (2147483647 : Int32)) % (7 : Int32)))), .val (.int (1 : Int32))] [(.int (1 : Int32)), (.int (bz ((W ((p1 &&& (2147483647 : Int32)) % (7 : Int32))) = W 0 ∨ (W ((p1 &&& (2147483647 : Int32)) % (7 : Int32))) = W 1 ∨ (W ((p1 &&& (2147483647 : Int32)) % (7 : Int32))) = W 2)))])) (fun t k => XS.iloadN X2.here hx rfl (hb hby at_28) rfl k) ?_
    refine own_s (B := T2.setTop (mkF m 32 #[.val (.int p1), .val (.int ((p1 &&& (2147483647 : Int32)) % (7 : Int32))), .val (.ref (W ((p1 &&& (2147483647 : Int32)) % (7 : Int32)))), .val (.int (1 : Int32))] [])) (fun t k => XS.icmpNo X2.here hx rfl (hb hby at_29) rfl (teq ((own_l IW (own_m p1).1 (own_m p1).2).trans (if_pos hc15))).2 k) ?_
    refine own_s (B := T2.setTop (mkF m 33 #[.val (.int p1), .val (.int ((p1 &&& (2147483647 : Int32)) % (7 : Int32))), .val (.ref (W ((p1 &&& (2147483647 : Int32)) % (7 : Int32)))), .val (.int (1 : Int32))] [(.int (1 : Int32))])) (fun t k => XS.iconst X2.here hx rfl (hb hby at_32) k) ?_
    refine own_s (B := T2.setTop (mkF m 37 #[.val (.int p1), .val (.int ((p1 &&& (2147483647 : Int32)) % (7 : Int32))), .val (.ref (W ((p1 &&& (2147483647 : Int32)) % (7 : Int32)))), .val (.int (1 : Int32))] [(.int (1 : Int32))])) (fun t k => XS.goto X2.here hx rfl (pc0 := 33) (pc' := 37) rfl (hb hby at_33) (by decide) (by decide) k) ?_
    exact own_retB X2 hx hlk (t := .boolean) Bd.returns (by simp) (hb hby at_37) (by decide) (by decide) ⟨rfl, N2⟩
  · refine own_s (B := T1.setTop (mkF m 22 #[.val (.int p1), .val (.int ((p1 &&& (2147483647 : Int32)) % (7 : Int32))), .val (.ref (W ((p1 &&& (2147483647 : Int32)) % (7 : Int32)))), .unset] [])) (fun t k => XS.icmpYes X1.here hx rfl (pc0 := 15) (pc' := 22) rfl (hb hby at_15) rfl (flt hc15).2.1 (by decide) (by decide) k) ?_
    refine own_s (B := T1.setTop (mkF m 23 #[.val (.int p1), .val (.int ((p1 &&& (2147483647 : Int32)) % (7 : Int32))), .val (.ref (W ((p1 &&& (2147483647 : Int32)) % (7 : Int32)))), .unset] [(.int (0 : Int32))])) (fun t k => XS.iconst X1.here hx rfl (hb hby at_22) k) ?_
    refine own_s (B := T1.setTop (mkF m 24 #[.val (.int p1), .val (.int ((p1 &&& (2147483647 : Int32)) % (7 : Int32))), .val (.ref (W ((p1 &&& (2147483647 : Int32)) % (7 : Int32)))), .val (.int (0 : Int32))] [])) (fun t k => XS.istoreN X1.here hx rfl (hb hby at_23) rfl (l' := #[.val (.int p1), .val (.int ((p1 &&& (2147483647 : Int32)) % (7 : Int32))), .val (.ref (W ((p1 &&& (2147483647 : Int32)) % (7 : Int32)))), .val (.int (0 : Int32))]) rfl k) ?_
    refine own_s (B := T1.setTop (mkF m 25 #[.val (.int p1), .val (.int ((p1 &&& (2147483647 : Int32)) % (7 : Int32))), .val (.ref (W ((p1 &&& (2147483647 : Int32)) % (7 : Int32)))), .val (.int (0 : Int32))] [(.ref (W ((p1 &&& (2147483647 : Int32)) % (7 : Int32))))])) (fun t k => XS.aloadN X1.here hx rfl (hb hby at_24) rfl rfl k) ?_
    obtain ⟨cq3, kq3, q3a, q3b, q3c⟩ := isOf hZ e1 (XW _ (own_m p1).1 (own_m p1).2)
    obtain ⟨_, _, ⟨T3, L3, k3, n3⟩, -, X3, ⟨Lc3, hQ3, l3, y3, z3⟩, st3⟩ := X1.virtualBack hx (y := (⟨"com/example/formal_courier/formalcourier/crs/CrsDocumentTypeControls$DocumentType", "isProduction", "()Z"⟩ : MethodName)) (z := (⟨"com/example/formal_courier/formalcourier/crs/CrsDocumentTypeControls$DocumentType", "isProduction", "()Z"⟩ : MethodName)) hown (mvT hZ (hw _ (List.mem_of_getElem? (i := 8) rfl))) (mvT hZ (hw _ (List.mem_of_getElem? (i := 9) rfl))) (notFace_of_selects (args := #[]) (mvT hZ (hw _ (List.mem_of_getElem? (i := 11) rfl)))) (mvT hZ (hw _ (List.mem_of_getElem? (i := 11) rfl))) (mvT hZ (hw _ (List.mem_of_getElem? (i := 10) rfl))) (by decide) (backOf (W := 0) (rm2 l Z a0 hw [] (W ((p1 &&& (2147483647 : Int32)) % (7 : Int32))) W h0 n0 Z0 EW) hZ (hw _ (List.mem_of_getElem? (i := 12) rfl)) (hw _ (List.mem_of_getElem? (i := 6) rfl)) (by decide) (by decide)) q3a q3c (g := (mkF m 25 #[.val (.int p1), .val (.int ((p1 &&& (2147483647 : Int32)) % (7 : Int32))), .val (.ref (W ((p1 &&& (2147483647 : Int32)) % (7 : Int32)))), .val (.int (0 : Int32))] [(.ref (W ((p1 &&& (2147483647 : Int32)) % (7 : Int32))))])) rfl (by rw [hml]; rfl) (Steps.refl _) (argsL := []) (rest := []) (lenOf pd_1 rfl) rfl (by show 2 * 0 + _ ≤ _; exact Nat.le_of_eq rfl) (hb hby at_25) (fun _ _ => ⟨rfl, e1, (by decide : 0 + 0 ≤ _), (by decide : 0 + 0 ≤ _)⟩)
    dsimp only [Pt.U, Pt.locs, Pt.cells, Pt.slots] at X3 l3 y3 z3 st3 hQ3
    subst l3 y3 z3
    obtain ⟨rfl, N3q, e3⟩ := hQ3
    have N3 := Fr.app N1 N3q
    refine own_s (B := T3.setTop (mkF m 28 #[.val (.int p1), .val (.int ((p1 &&& (2147483647 : Int32)) % (7 : Int32))), .val (.ref (W ((p1 &&& (2147483647 : Int32)) % (7 : Int32)))), .val (.int (0 : Int32))] [(.int (bz ((W ((p1 &&& (2147483647 : Int32)) % (7 : Int32))) = W 0 ∨ (W ((p1 &&& (2147483647 : Int32)) % (7 : Int32))) = W 1 ∨ (W ((p1 &&& (2147483647 : Int32)) % (7 : Int32))) = W 2)))])) (fun t k => st3.trans k) ?_
    refine own_s (B := T3.setTop (mkF m 29 #[.val (.int p1), .val (.int ((p1 &&& (2147483647 : Int32)) % (7 : Int32))), .val (.ref (W ((p1 &&& (2147483647 : Int32)) % (7 : Int32)))), .val (.int (0 : Int32))] [(.int (0 : Int32)), (.int (bz ((W ((p1 &&& (2147483647 : Int32)) % (7 : Int32))) = W 0 ∨ (W ((p1 &&& (2147483647 : Int32)) % (7 : Int32))) = W 1 ∨ (W ((p1 &&& (2147483647 : Int32)) % (7 : Int32))) = W 2)))])) (fun t k => XS.iloadN X3.here hx rfl (hb hby at_28) rfl k) ?_
    refine own_s (B := T3.setTop (mkF m 32 #[.val (.int p1), .val (.int ((p1 &&& (2147483647 : Int32)) % (7 : Int32))), .val (.ref (W ((p1 &&& (2147483647 : Int32)) % (7 : Int32)))), .val (.int (0 : Int32))] [])) (fun t k => XS.icmpNo X3.here hx rfl (hb hby at_29) rfl (teq ((own_l IW (own_m p1).1 (own_m p1).2).trans (if_neg hc15))).2 k) ?_
    refine own_s (B := T3.setTop (mkF m 33 #[.val (.int p1), .val (.int ((p1 &&& (2147483647 : Int32)) % (7 : Int32))), .val (.ref (W ((p1 &&& (2147483647 : Int32)) % (7 : Int32)))), .val (.int (0 : Int32))] [(.int (1 : Int32))])) (fun t k => XS.iconst X3.here hx rfl (hb hby at_32) k) ?_
    refine own_s (B := T3.setTop (mkF m 37 #[.val (.int p1), .val (.int ((p1 &&& (2147483647 : Int32)) % (7 : Int32))), .val (.ref (W ((p1 &&& (2147483647 : Int32)) % (7 : Int32)))), .val (.int (0 : Int32))] [(.int (1 : Int32))])) (fun t k => XS.goto X3.here hx rfl (pc0 := 33) (pc' := 37) rfl (hb hby at_33) (by decide) (by decide) k) ?_
    exact own_retB X3 hx hlk (t := .boolean) Bd.returns (by simp) (hb hby at_37) (by decide) (by decide) ⟨rfl, N3⟩
set_option maxRecDepth 65536 in
set_option maxHeartbeats 40000000 in
theorem comes_1 {Post : Tables → Env → Array Value → State → Outcome → State → Prop} (hpost : ∀ tb e args s v u, (limb_1_1.after args s (.returned v) u = true ∧ limb_1_2.after args s (.returned v) u = true ∧ True) → FrameEnd s (.returned v) u (Jvm.fieldLocs frame_1_writes args s ++ Jvm.arrayLocs frame_1_arrays args s ++ Jvm.staticLocs frame_1_statics s) 0 0 → Post tb e args s (.returned v) u) :
    ArmFor flags0 classFile x code maxLocals ret World_1 tables_1 room_1 Calls_1 rest_1 Pre_1 Post := by
  intro l hfl _ _ p e ha hc hk s m args below hf hA hF happ hP
  obtain ⟨hcalls, hrest, hpre⟩ := hP
  obtain ⟨-, -, -, hnamed, -, -, -, hat⟩ := (Spec.applies_iff hf).mp happ
  obtain ⟨hg, hn⟩ := and_e (Cond.before_iff.mp (show (Jvm.Cond.and given_1 narrow_1).before args s = true from hpre))
  obtain ⟨g1a, g1b⟩ := and_e hg
  obtain ⟨w0, rfl⟩ : ∃ w0 : Value, args = #[w0] := by
    have hs : args.size = 1 := by simpa [Cond.value, given_1] using g1a
    obtain ⟨L⟩ := args
    match L, hs with
    | [w0], _ => exact ⟨w0, rfl⟩
  have hw := fun d (hd : d ∈ tables_1) => atoms_spec (ws := Jvm.Cond.code x code maxLocals ret :: tables_1) hat d (List.mem_cons_of_mem _ hd)
  have hfit : Fit s := fun {y c} hc i hi => by
    obtain ⟨ha, rfl⟩ := Array.getElem?_eq_some_iff.mp hc
    have q := List.all_eq_true.mp ((Array.all_eq_true_iff_forall_mem.mp hF) _ (Array.getElem_mem ha)) i (List.mem_range.mpr hi)
    simpa [Array.getElem?_eq_getElem hi] using q
  obtain ⟨i0, ei0⟩ := is_v g1b
  obtain rfl : w0 = (.int i0) := Option.some.inj ei0
  obtain ⟨g2a, g2b⟩ := and_e hn
  obtain ⟨g3a, g3b⟩ := and_e g2b
  obtain ⟨g4a, g4b⟩ := and_e g3b
  obtain ⟨g5a, g5b⟩ := and_e g4b
  obtain ⟨g6a, g6b⟩ := and_e g5b
  obtain ⟨g7a, g7b⟩ := and_e g6b
  obtain ⟨g8a, g8b⟩ := and_e g7b
  obtain ⟨g9a, g9b⟩ := and_e g8b
  obtain ⟨g10a, g10b⟩ := and_e g9b
  obtain ⟨g11a, g11b⟩ := and_e g10b
  obtain ⟨g12a, g12b⟩ := and_e g11b
  obtain ⟨g13a, g13b⟩ := and_e g12b
  obtain ⟨g14a, g14b⟩ := and_e g13b
  obtain ⟨w_OECD1, ev_OECD1⟩ := exa_v g2a
  have S_OECD1 := Sta.start ev_OECD1 (Or.inr ⟨(hw _ (List.mem_of_getElem? (i := 6) rfl)), (hw _ (List.mem_of_getElem? (i := 7) rfl))⟩)
  have E_OECD1 := Exa.start ev_OECD1 g2a
  obtain ⟨w_OECD11, ev_OECD11⟩ := exa_v g3a
  have S_OECD11 := Sta.start ev_OECD11 (Or.inr ⟨(hw _ (List.mem_of_getElem? (i := 6) rfl)), (hw _ (List.mem_of_getElem? (i := 15) rfl))⟩)
  have E_OECD11 := Exa.start ev_OECD11 g3a
  obtain ⟨w_OECD2, ev_OECD2⟩ := exa_v g6a
  have S_OECD2 := Sta.start ev_OECD2 (Or.inr ⟨(hw _ (List.mem_of_getElem? (i := 6) rfl)), (hw _ (List.mem_of_getElem? (i := 17) rfl))⟩)
  have E_OECD2 := Exa.start ev_OECD2 g6a
  obtain ⟨w_OECD3, ev_OECD3⟩ := exa_v g8a
  have S_OECD3 := Sta.start ev_OECD3 (Or.inr ⟨(hw _ (List.mem_of_getElem? (i := 6) rfl)), (hw _ (List.mem_of_getElem? (i := 19) rfl))⟩)
  have E_OECD3 := Exa.start ev_OECD3 g8a
  obtain ⟨w_OECD13, ev_OECD13⟩ := exa_v g10a
  have S_OECD13 := Sta.start ev_OECD13 (Or.inr ⟨(hw _ (List.mem_of_getElem? (i := 6) rfl)), (hw _ (List.mem_of_getElem? (i := 21) rfl))⟩)
  have E_OECD13 := Exa.start ev_OECD13 g10a
  obtain ⟨w_OTHER, ev_OTHER⟩ := exa_v g12a
  have S_OTHER := Sta.start ev_OTHER (Or.inr ⟨(hw _ (List.mem_of_getElem? (i := 6) rfl)), (hw _ (List.mem_of_getElem? (i := 23) rfl))⟩)
  have E_OTHER := Exa.start ev_OTHER g12a
  obtain ⟨w_OECD12, ev_OECD12⟩ := exa_v g14a
  have S_OECD12 := Sta.start ev_OECD12 (Or.inr ⟨(hw _ (List.mem_of_getElem? (i := 6) rfl)), (hw _ (List.mem_of_getElem? (i := 25) rfl))⟩)
  have E_OECD12 := Exa.start ev_OECD12 g14a
  have F_OECD11_ordinal := Fld.start ((fld_at ev_OECD11).symm.trans (own_eqI g4a))
  have F_OECD1_ordinal := Fld.start ((fld_at ev_OECD1).symm.trans (own_eqI g5a))
  have F_OECD2_ordinal := Fld.start ((fld_at ev_OECD2).symm.trans (own_eqI g7a))
  have F_OECD3_ordinal := Fld.start ((fld_at ev_OECD3).symm.trans (own_eqI g9a))
  have F_OECD13_ordinal := Fld.start ((fld_at ev_OECD13).symm.trans (own_eqI g11a))
  have F_OTHER_ordinal := Fld.start ((fld_at ev_OTHER).symm.trans (own_eqI g13a))
  have F_OECD12_ordinal := Fld.start ((fld_at ev_OECD12).symm.trans (own_eqI g14b))
  obtain ⟨W, eW0, eW1, eW2, eW3, eW4, eW5, eW6⟩ : ∃ W : Int32 → Addr, W (0 : Int32) = w_OECD1 ∧ W (1 : Int32) = w_OECD2 ∧ W (2 : Int32) = w_OECD3 ∧ W (3 : Int32) = w_OECD11 ∧ W (4 : Int32) = w_OECD12 ∧ W (5 : Int32) = w_OECD13 ∧ W (6 : Int32) = w_OTHER := ⟨fun k => if k = (0 : Int32) then w_OECD1 else if k = (1 : Int32) then w_OECD2 else if k = (2 : Int32) then w_OECD3 else if k = (3 : Int32) then w_OECD11 else if k = (4 : Int32) then w_OECD12 else if k = (5 : Int32) then w_OECD13 else w_OTHER, (by simp), (by simp), (by simp), (by simp), (by simp), (by simp), (by simp)⟩
  have EW : WS s s.heap W := by
    unfold WS
    rw [eW0, eW1, eW2, eW3, eW4, eW5, eW6]
    exact ⟨S_OECD1, S_OECD2, S_OECD3, S_OECD11, S_OECD12, S_OECD13, S_OTHER⟩
  have XW : ∀ i : Int32, 0 ≤ i.toInt → i.toInt ≤ 6 → Exa s s.heap (W i) "com/example/formal_courier/formalcourier/crs/CrsDocumentTypeControls$DocumentType" := by
    intro i h1 h2
    rcases own_rg_0_6 h1 h2 with rfl | rfl | rfl | rfl | rfl | rfl | rfl
    · rw [eW0]; exact E_OECD1
    · rw [eW1]; exact E_OECD2
    · rw [eW2]; exact E_OECD3
    · rw [eW3]; exact E_OECD11
    · rw [eW4]; exact E_OECD12
    · rw [eW5]; exact E_OECD13
    · rw [eW6]; exact E_OTHER
  have OW : ∀ i : Int32, 0 ≤ i.toInt → i.toInt ≤ 6 → Fld s s.heap (W i) "java/lang/Enum" "ordinal" "I" (.int (ordW i)) := by
    intro i h1 h2
    rcases own_rg_0_6 h1 h2 with rfl | rfl | rfl | rfl | rfl | rfl | rfl
    · rw [eW0]; exact F_OECD1_ordinal
    · rw [eW1]; exact F_OECD2_ordinal
    · rw [eW2]; exact F_OECD3_ordinal
    · rw [eW3]; exact F_OECD11_ordinal
    · rw [eW4]; exact F_OECD12_ordinal
    · rw [eW5]; exact F_OECD13_ordinal
    · rw [eW6]; exact F_OTHER_ordinal
  have IW : ∀ i j : Int32, 0 ≤ i.toInt → i.toInt ≤ 6 → 0 ≤ j.toInt → j.toInt ≤ 6 → W i = W j → i = j := by
    intro i j h1 h2 h3 h4 h5
    have q := OW i h1 h2
    rw [h5] at q
    exact s_injW (Value.int.inj (own_uniq q (OW j h3 h4)))
  obtain ⟨n, o, h1, h2, h3, _, L, rfl, ⟨rfl, N⟩, hq⟩ := rm0 l s _ hw tables_1 i0 W s.heap s.heap.size (Nat.le_refl _) EW XW IW p e ha hc hk s m _ below hf ((Spec.applies_iff_loose hf).mp happ).1 ⟨rfl, State.Warmed39.refl s, rfl⟩ trivial
  refine ⟨n, _, h1, h2, h3, hpost _ _ _ _ _ _ ⟨Cond.after_iff.mpr rfl, Cond.after_iff.mpr (eq_i res_at (Term.int_eval (1)) rfl), trivial⟩ ⟨hq.1, hq.2.1, (hq.2.2.sift fun y hy => Or.inr (N y hy)).mono (by decide) (by decide)⟩⟩
theorem main_1_1 : Claimed_1_1 := comes_1 fun _ _ _ _ _ _ h hF => ⟨h.1, hF⟩
theorem main_1_2 : Claimed_1_2 := comes_1 fun _ _ _ _ _ _ h hF => ⟨h.2.1, hF⟩
end Jvm.Pilot.@@N@@
namespace Jvm.Pilot.@@N@@
open Jvm Jvm.ClassFile Sem Op Lib Jvm.Free Jvm.Stand Jvm.Pilot.@@N@@.Jvm.D
/-! MADE BY PROGRAM (witnessworld.py) out of the Statement's table words and the real class files: 12 classes; the members and pool entries that the words name. The judged class is class 1, her method 1. -/
namespace start1
open Jvm.ClassFile
def u (s : String) : CpInfo := .utf8 (stringToUtf16 s)
/-- a pool by its gaps: so many unusable entries, then the entry; so many at the end -/
def gap : Nat → List CpInfo → List CpInfo
  | 0, r => r
  | n + 1, r => .unusable :: gap n r
def poolList (es : List (Nat × CpInfo)) (last : Nat) : List CpInfo := es.foldr (fun e r => gap e.1 (e.2 :: r)) (gap last [])
def pool (es : List (Nat × CpInfo)) (last : Nat) : Array CpInfo := ⟨poolList es last⟩
def fileOf (pool : Array CpInfo) (this : Nat) (attrs : Array Attribute := #[]) (ms : Array MethodInfo := #[]) (fl : Nat := 33) (sup : Nat := 0) (ifs : Array Nat := #[]) (fds : Array FieldInfo := #[]) : ClassFile where
  minorVersion := 0
  majorVersion := 65
  constantPool := pool
  accessFlags := fl
  thisClass := this
  superClass := sup
  interfaces := ifs
  fields := fds
  methods := ms
  attributes := attrs
def plain (name : String) (sup : Option ClassId) : Class where
  name := name
  kind := .ordinary
  loader := none
  accessFlags := 33
  super := sup
  interfaces := #[]
  cf := none
  fields := #[]
  methods := #[]
  instanceTypes := #[]
  staticTypes := #[]
  resolved := #[]
  callSites := []
  init := .initialized
  statics := none
  mirror := none

def pool0 : Array CpInfo := pool [(5, u "<init>"), (0, u "()V"), (1, .class_ 10), (1, u "java/lang/Object")] 113

def k0m0 : Method := { name := "<init>", desc := "()V", sig := { parameters := [], returnType := none }, accessFlags := 1, code := none }
/-- java/lang/Object -/
def k0 : Class := { plain "java/lang/Object" none with
  accessFlags := 33
  interfaces := #[]
  cf := some (fileOf pool0 8 #[] #[{ accessFlags := 1, nameIndex := 5, descriptorIndex := 6, attributes := #[] }] 33 0 #[] #[])
  fields := #[]
  methods := #[k0m0]
  instanceTypes := #[]
  staticTypes := #[]
  resolved := Array.replicate 124 none
  statics := none }

def pool1 : Array CpInfo := pool [(2, .class_ 4), (1, u "java/lang/Object"), (0, u "<init>"), (0, u "()V"), (0, .integer 2147483647), (0, .methodref 9 10), (0, .class_ 11), (0, .nameAndType 12 13), (0, u "com/example/formal_courier/formalcourier/crs/DocumentTypeIsProductionPinLaw"), (0, u "pick"), (0, u "(I)Lcom/example/formal_courier/formalcourier/crs/CrsDocumentTypeControls$DocumentType;"), (0, .methodref 15 16), (0, .class_ 17), (0, .nameAndType 18 19), (0, u "com/example/formal_courier/formalcourier/crs/CrsDocumentTypeControls$DocumentType"), (0, u "isProduction"), (0, u "()Z"), (0, .fieldref 15 21), (0, .nameAndType 22 23), (0, u "OECD1"), (0, u "Lcom/example/formal_courier/formalcourier/crs/CrsDocumentTypeControls$DocumentType;"), (0, .fieldref 15 25), (0, .nameAndType 26 23), (0, u "OECD2"), (0, .fieldref 15 28), (0, .nameAndType 29 23), (0, u "OECD3"), (0, .fieldref 15 31), (0, .nameAndType 32 23), (0, u "OECD11"), (0, .fieldref 15 34), (0, .nameAndType 35 23), (0, u "OECD12"), (0, .fieldref 15 37), (0, .nameAndType 38 23), (0, u "OECD13"), (0, .fieldref 15 40), (0, .nameAndType 41 23), (0, u "OTHER"), (2, u "law"), (0, u "(I)Z")] 7

def k1m0 : Method := { name := "<init>", desc := "()V", sig := { parameters := [], returnType := none }, accessFlags := 2, code := none }
def k1c1 : Code := { maxStack := 2, maxLocals := 4, code := code, exceptionTable := #[], attributes := #[] }
def k1m1 : Method := { name := "law", desc := "(I)Z", sig := { parameters := [.int], returnType := some .boolean }, accessFlags := 9, code := some k1c1 }
def k1c2 : Code := { maxStack := 2, maxLocals := 1, code := method_3_code, exceptionTable := #[], attributes := #[] }
def k1m2 : Method := { name := "pick", desc := "(I)Lcom/example/formal_courier/formalcourier/crs/CrsDocumentTypeControls$DocumentType;", sig := { parameters := [.int], returnType := some (.object "com/example/formal_courier/formalcourier/crs/CrsDocumentTypeControls$DocumentType") }, accessFlags := 10, code := some k1c2 }
/-- com/example/formal_courier/formalcourier/crs/DocumentTypeIsProductionPinLaw -/
def k1 : Class := { plain "com/example/formal_courier/formalcourier/crs/DocumentTypeIsProductionPinLaw" (some 0) with
  accessFlags := 49
  interfaces := #[]
  cf := some (fileOf pool1 9 #[] #[{ accessFlags := 2, nameIndex := 5, descriptorIndex := 6, attributes := #[] }, { accessFlags := 9, nameIndex := 44, descriptorIndex := 45, attributes := #[] }, { accessFlags := 10, nameIndex := 12, descriptorIndex := 13, attributes := #[] }] 49 2 #[] #[])
  fields := #[]
  methods := #[k1m0, k1m1, k1m2]
  instanceTypes := #[]
  staticTypes := #[]
  resolved := Array.replicate 53 none
  statics := none }

def pool2 : Array CpInfo := pool [(1, .class_ 2), (0, u "java/lang/constant/Constable"), (0, .class_ 4), (0, u "java/lang/Object")] 6

/-- java/lang/constant/Constable -/
def k2 : Class := { plain "java/lang/constant/Constable" (some 0) with
  accessFlags := 1537
  interfaces := #[]
  cf := some (fileOf pool2 1 #[] #[] 1537 3 #[] #[])
  fields := #[]
  methods := #[]
  instanceTypes := #[]
  staticTypes := #[]
  resolved := Array.replicate 11 none
  statics := none }

def pool3 : Array CpInfo := pool [(1, .class_ 2), (0, u "java/lang/Comparable"), (0, .class_ 4), (0, u "java/lang/Object")] 7

/-- java/lang/Comparable -/
def k3 : Class := { plain "java/lang/Comparable" (some 0) with
  accessFlags := 1537
  interfaces := #[]
  cf := some (fileOf pool3 1 #[] #[] 1537 3 #[] #[])
  fields := #[]
  methods := #[]
  instanceTypes := #[]
  staticTypes := #[]
  resolved := Array.replicate 12 none
  statics := none }

def pool4 : Array CpInfo := pool [(1, .class_ 2), (0, u "java/io/Serializable"), (0, .class_ 4), (0, u "java/lang/Object")] 2

/-- java/io/Serializable -/
def k4 : Class := { plain "java/io/Serializable" (some 0) with
  accessFlags := 1537
  interfaces := #[]
  cf := some (fileOf pool4 1 #[] #[] 1537 3 #[] #[])
  fields := #[]
  methods := #[]
  instanceTypes := #[]
  staticTypes := #[]
  resolved := Array.replicate 7 none
  statics := none }

def pool5 : Array CpInfo := pool [(2, .class_ 4), (1, u "java/lang/Enum"), (0, u "name"), (0, u "Ljava/lang/String;"), (2, u "ordinal"), (0, u "I"), (1, .class_ 14), (1, u "java/lang/Object"), (4, u "hash"), (86, .class_ 108), (1, u "java/lang/Enum$EnumDesc"), (2, .class_ 112), (0, u "java/lang/constant/Constable"), (0, .class_ 114), (0, u "java/lang/Comparable"), (0, .class_ 116), (0, u "java/io/Serializable")] 87

/-- java/lang/Enum -/
def k5 : Class := { plain "java/lang/Enum" (some 0) with
  accessFlags := 1057
  interfaces := #[2, 3, 4]
  cf := some (fileOf pool5 2 #[.nestMembers #[106]] #[] 1057 12 #[111, 113, 115] #[{ accessFlags := 18, nameIndex := 5, descriptorIndex := 6, attributes := #[] }, { accessFlags := 18, nameIndex := 9, descriptorIndex := 10, attributes := #[] }, { accessFlags := 2, nameIndex := 19, descriptorIndex := 10, attributes := #[] }])
  fields := #[{ name := "name", type := (.object "java/lang/String"), accessFlags := 18, slot := 0, constantValue := 0 }, { name := "ordinal", type := .int, accessFlags := 18, slot := 1, constantValue := 0 }, { name := "hash", type := .int, accessFlags := 2, slot := 2, constantValue := 0 }]
  methods := #[]
  instanceTypes := #[(.object "java/lang/String"), .int, .int]
  staticTypes := #[]
  resolved := Array.replicate 204 none
  statics := none }

def pool6 : Array CpInfo := pool [(1, .class_ 2), (0, u "com/example/formal_courier/formalcourier/crs/CrsDocumentTypeControls$DocumentType"), (0, .fieldref 1 4), (0, .nameAndType 5 6), (0, u "OECD1"), (0, u "Lcom/example/formal_courier/formalcourier/crs/CrsDocumentTypeControls$DocumentType;"), (0, .fieldref 1 8), (0, .nameAndType 9 6), (0, u "OECD2"), (0, .fieldref 1 11), (0, .nameAndType 12 6), (0, u "OECD3"), (2, u "OECD11"), (2, u "OECD12"), (2, u "OECD13"), (2, u "OTHER"), (2, u "$VALUES"), (0, u "[Lcom/example/formal_courier/formalcourier/crs/CrsDocumentTypeControls$DocumentType;"), (6, .class_ 37), (1, u "java/lang/Enum"), (8, u "WRITTEN"), (33, u "()Z"), (2, u "isProduction"), (6, .class_ 91), (0, u "com/example/formal_courier/formalcourier/crs/CrsDocumentTypeControls")] 2

def k6c0 : Code := { maxStack := 2, maxLocals := 1, code := prog_48_method_8_code, exceptionTable := #[], attributes := #[] }
def k6m0 : Method := { name := "isProduction", desc := "()Z", sig := { parameters := [], returnType := some .boolean }, accessFlags := 0, code := some k6c0 }
/-- com/example/formal_courier/formalcourier/crs/CrsDocumentTypeControls$DocumentType -/
def k6 : Class := { plain "com/example/formal_courier/formalcourier/crs/CrsDocumentTypeControls$DocumentType" (some 5) with
  accessFlags := 16432
  interfaces := #[]
  cf := some (fileOf pool6 1 #[.nestHost 90] #[{ accessFlags := 0, nameIndex := 83, descriptorIndex := 80, attributes := #[] }] 16432 35 #[] #[{ accessFlags := 16409, nameIndex := 5, descriptorIndex := 6, attributes := #[] }, { accessFlags := 16409, nameIndex := 9, descriptorIndex := 6, attributes := #[] }, { accessFlags := 16409, nameIndex := 12, descriptorIndex := 6, attributes := #[] }, { accessFlags := 16409, nameIndex := 15, descriptorIndex := 6, attributes := #[] }, { accessFlags := 16409, nameIndex := 18, descriptorIndex := 6, attributes := #[] }, { accessFlags := 16409, nameIndex := 21, descriptorIndex := 6, attributes := #[] }, { accessFlags := 16409, nameIndex := 24, descriptorIndex := 6, attributes := #[] }, { accessFlags := 26, nameIndex := 46, descriptorIndex := 28, attributes := #[] }, { accessFlags := 4122, nameIndex := 27, descriptorIndex := 28, attributes := #[] }])
  fields := #[{ name := "OECD1", type := (.object "com/example/formal_courier/formalcourier/crs/CrsDocumentTypeControls$DocumentType"), accessFlags := 16409, slot := 0, constantValue := 0 }, { name := "OECD2", type := (.object "com/example/formal_courier/formalcourier/crs/CrsDocumentTypeControls$DocumentType"), accessFlags := 16409, slot := 1, constantValue := 0 }, { name := "OECD3", type := (.object "com/example/formal_courier/formalcourier/crs/CrsDocumentTypeControls$DocumentType"), accessFlags := 16409, slot := 2, constantValue := 0 }, { name := "OECD11", type := (.object "com/example/formal_courier/formalcourier/crs/CrsDocumentTypeControls$DocumentType"), accessFlags := 16409, slot := 3, constantValue := 0 }, { name := "OECD12", type := (.object "com/example/formal_courier/formalcourier/crs/CrsDocumentTypeControls$DocumentType"), accessFlags := 16409, slot := 4, constantValue := 0 }, { name := "OECD13", type := (.object "com/example/formal_courier/formalcourier/crs/CrsDocumentTypeControls$DocumentType"), accessFlags := 16409, slot := 5, constantValue := 0 }, { name := "OTHER", type := (.object "com/example/formal_courier/formalcourier/crs/CrsDocumentTypeControls$DocumentType"), accessFlags := 16409, slot := 6, constantValue := 0 }, { name := "WRITTEN", type := (.array (.object "com/example/formal_courier/formalcourier/crs/CrsDocumentTypeControls$DocumentType")), accessFlags := 26, slot := 7, constantValue := 0 }, { name := "$VALUES", type := (.array (.object "com/example/formal_courier/formalcourier/crs/CrsDocumentTypeControls$DocumentType")), accessFlags := 4122, slot := 8, constantValue := 0 }]
  methods := #[k6m0]
  instanceTypes := #[(.object "java/lang/String"), .int, .int]
  staticTypes := #[(.object "com/example/formal_courier/formalcourier/crs/CrsDocumentTypeControls$DocumentType"), (.object "com/example/formal_courier/formalcourier/crs/CrsDocumentTypeControls$DocumentType"), (.object "com/example/formal_courier/formalcourier/crs/CrsDocumentTypeControls$DocumentType"), (.object "com/example/formal_courier/formalcourier/crs/CrsDocumentTypeControls$DocumentType"), (.object "com/example/formal_courier/formalcourier/crs/CrsDocumentTypeControls$DocumentType"), (.object "com/example/formal_courier/formalcourier/crs/CrsDocumentTypeControls$DocumentType"), (.object "com/example/formal_courier/formalcourier/crs/CrsDocumentTypeControls$DocumentType"), (.array (.object "com/example/formal_courier/formalcourier/crs/CrsDocumentTypeControls$DocumentType")), (.array (.object "com/example/formal_courier/formalcourier/crs/CrsDocumentTypeControls$DocumentType"))]
  resolved := Array.replicate 94 none
  statics := some 0 }

def pool7 : Array CpInfo := pool [(1, u "java/lang/Cloneable"), (0, .class_ 1), (0, u "java/lang/Object"), (0, .class_ 3)] 3

/-- java/lang/Cloneable -/
def k7 : Class := { plain "java/lang/Cloneable" (some 0) with
  accessFlags := 1537
  interfaces := #[]
  cf := some (fileOf pool7 2 #[] #[] 1537 4 #[] #[])
  fields := #[]
  methods := #[]
  instanceTypes := #[]
  staticTypes := #[]
  resolved := Array.replicate 8 none
  statics := none }

/-- the primitive byte -/
def k8 : Class := { plain "byte" none with kind := .primitive 'B', accessFlags := 0x411 }
/-- [B -/
def k9 : Class := { plain "[B" (some 0) with kind := .array 8 .byte, interfaces := #[7, 4], accessFlags := 1041 }

/-- the primitive int -/
def k10 : Class := { plain "int" none with kind := .primitive 'I', accessFlags := 0x411 }
/-- [I -/
def k11 : Class := { plain "[I" (some 0) with kind := .array 10 .int, interfaces := #[7, 4], accessFlags := 1041 }

def heap : Heap := #[{ cls := 6, slots := #[.ref 1, .ref 3, .ref 4, .ref 2, .ref 7, .ref 5, .ref 6, .null, .null], vm := .statics 6 },
  { cls := 6, slots := #[.null, .int 0, .int 0], vm := .none },
  { cls := 6, slots := #[.null, .int 3, .int 0], vm := .none },
  { cls := 6, slots := #[.null, .int 1, .int 0], vm := .none },
  { cls := 6, slots := #[.null, .int 2, .int 0], vm := .none },
  { cls := 6, slots := #[.null, .int 5, .int 0], vm := .none },
  { cls := 6, slots := #[.null, .int 6, .int 0], vm := .none },
  { cls := 6, slots := #[.null, .int 4, .int 0], vm := .none }]
def classes : Array Class := #[k0, k1, k2, k3, k4, k5, k6, k7, k8, k9, k10, k11]
def interned : List (Array UInt16 × Addr) := []
def slotsUsed : Nat := 30
def theMethod : MethodId := ⟨1, 1⟩
def args0 : Array Value := #[.int 5]
def aboutOver (below : List Frame) : State where
  vm := { classes := classes, interned := interned.toArray }
  heap := heap
  slotsUsed := slotsUsed
  threads := #[{ frames := .invoking theMethod args0 :: below }]
def below0 : List Frame := [.native { method := ⟨0, 0⟩, args := #[] }]
def about1 : State := aboutOver below0
def p0 : Program := .bare "" "" ""
def e0 : Env := launch0.env 0 0 0
theorem w_frames : about1.frames = Frame.invoking theMethod args0 :: below0 := rfl
set_option maxRecDepth 65536 in
theorem w_args : argsFit about1.vm theMethod args0 = true := by decide +kernel
set_option maxRecDepth 65536 in
theorem w_heap : heapFits about1 = true := by decide +kernel
set_option maxRecDepth 65536 in
theorem w_runnable : about1.curStatus? = some .runnable := by decide +kernel
set_option maxRecDepth 65536 in
theorem w_alone : about1.alone = true := by decide +kernel
set_option maxRecDepth 65536 in
theorem w_named : about1.methodNamed? x = some theMethod := by decide +kernel
set_option maxRecDepth 65536 in
theorem w_hears : about1.hears theMethod below0 = true := by decide +kernel
set_option maxRecDepth 65536 in
theorem w_ripe : about1.ripe theMethod args0 below0 = true := by decide +kernel
theorem w_running : about1.status = .running := rfl
set_option maxRecDepth 65536 in
theorem w_room : about1.hasRoom e0.platform room_1 = true :=
  launch0.hasRoom_least _ room_1 (by decide +kernel) (by decide +kernel) (by decide +kernel) (by decide +kernel) (by decide +kernel) (by decide +kernel)
theorem allAtoms_all (ts : List Jvm.Cond) (a : Array Jvm.Value) (st : Jvm.State) : (allAtoms ts).before a st = ts.all (fun c => c.before a st) := by
  induction ts with
  | nil => rfl
  | cons c t ih =>
    show (Jvm.Cond.and c (allAtoms t)).before a st = _
    rw [Jvm.Cond.before_and, ih, List.all_cons]
def words1 : List Jvm.Cond := Jvm.Cond.code x code maxLocals ret :: tables_1
/-- a 'code' word, met by the world's own term for the bytes: nothing is compared byte by byte -/
theorem code_word {y : MethodName} {bytes : ByteArray} {mx : Nat} {rt : Option FieldType} {a : Array Value} {s : State} {m : MethodId} {meth : Method} {c : Code} (h1 : s.methodNamed? y = some m) (h2 : s.vm.method? m = some meth) (h3 : meth.code = some c) (h4 : c.code = bytes)
    (h5 : (c.maxLocals == mx && c.exceptionTable.isEmpty && decide (c.maxStack ≤ mostOperands) && decide (meth.sig.returnType = rt) && !meth.locks && decide (parseMethodDescriptor y.desc = some meth.sig)) = true) : (Jvm.Cond.code y bytes mx rt).before a s = true := by
  simp only [Bool.and_eq_true, beq_iff_eq, Bool.not_eq_true', decide_eq_true_eq] at h5
  obtain ⟨⟨⟨⟨⟨g1, g2⟩, g3⟩, g4⟩, g5⟩, g6⟩ := h5
  simp [Cond.before, Cond.holds, Cond.value, h1, h2, h3, h4, g1, g2, g3, g4, g5, g6]
def isCode : Jvm.Cond → Bool
  | .code _ _ _ _ => true
  | _ => false
theorem all_split {L : List Jvm.Cond} {P : Jvm.Cond → Bool} (h1 : L.all (fun c => isCode c || P c) = true) (h2 : ∀ c ∈ L.filter isCode, P c = true) : L.all P = true := by
  refine List.all_eq_true.mpr fun c hc => ?_
  have h := List.all_eq_true.mp h1 c hc
  rcases Bool.eq_false_or_eq_true (isCode c) with hi | hi
  · exact h2 c (List.mem_filter.mpr ⟨hc, hi⟩)
  · simpa [hi] using h
set_option maxRecDepth 65536 in
theorem w_c0 : (Jvm.Cond.code x code maxLocals ret).before args0 about1 = true := code_word (m := ⟨1, 1⟩) (meth := k1m1) (c := k1c1) (by decide +kernel) rfl rfl rfl (by decide +kernel)
set_option maxRecDepth 65536 in
theorem w_c1 : (Jvm.Cond.code ({ cls := "com/example/formal_courier/formalcourier/crs/DocumentTypeIsProductionPinLaw", name := "pick", desc := "(I)Lcom/example/formal_courier/formalcourier/crs/CrsDocumentTypeControls$DocumentType;" } : Jvm.MethodName) method_3_code (1 : Nat) (Option.some (Jvm.ClassFile.FieldType.object "com/example/formal_courier/formalcourier/crs/CrsDocumentTypeControls$DocumentType"))).before args0 about1 = true := code_word (m := ⟨1, 2⟩) (meth := k1m2) (c := k1c2) (by decide +kernel) rfl rfl rfl (by decide +kernel)
set_option maxRecDepth 65536 in
theorem w_c2 : (Jvm.Cond.code ({ cls := "com/example/formal_courier/formalcourier/crs/CrsDocumentTypeControls$DocumentType", name := "isProduction", desc := "()Z" } : Jvm.MethodName) prog_48_method_8_code (1 : Nat) (Option.some Jvm.ClassFile.FieldType.boolean)).before args0 about1 = true := code_word (m := ⟨6, 0⟩) (meth := k6m0) (c := k6c0) (by decide +kernel) rfl rfl rfl (by decide +kernel)
def codes1 : List Jvm.Cond := [Jvm.Cond.code x code maxLocals ret, Jvm.Cond.code ({ cls := "com/example/formal_courier/formalcourier/crs/DocumentTypeIsProductionPinLaw", name := "pick", desc := "(I)Lcom/example/formal_courier/formalcourier/crs/CrsDocumentTypeControls$DocumentType;" } : Jvm.MethodName) method_3_code (1 : Nat) (Option.some (Jvm.ClassFile.FieldType.object "com/example/formal_courier/formalcourier/crs/CrsDocumentTypeControls$DocumentType")), Jvm.Cond.code ({ cls := "com/example/formal_courier/formalcourier/crs/CrsDocumentTypeControls$DocumentType", name := "isProduction", desc := "()Z" } : Jvm.MethodName) prog_48_method_8_code (1 : Nat) (Option.some Jvm.ClassFile.FieldType.boolean)]
set_option maxRecDepth 65536 in
theorem codes_eq : words1.filter isCode = codes1 := rfl
theorem w_codes : ∀ c ∈ words1.filter isCode, c.before args0 about1 = true := by
  rw [codes_eq]
  intro c hc
  simp only [codes1, List.mem_cons, List.not_mem_nil, or_false] at hc
  rcases hc with rfl | rfl | rfl
  · exact w_c0
  · exact w_c1
  · exact w_c2
set_option maxRecDepth 65536 in
theorem w_t1 : (words1.take 24).all (fun c => isCode c || c.before args0 about1) = true := by decide +kernel
set_option maxRecDepth 65536 in
theorem w_t2 : (words1.drop 24).all (fun c => isCode c || c.before args0 about1) = true := by decide +kernel
theorem w_tables : (allAtoms (Jvm.Cond.code x code maxLocals ret :: tables_1)).before args0 about1 = true := by
  rw [allAtoms_all]
  show words1.all (fun c => c.before args0 about1) = true
  refine all_split ?_ w_codes
  rw [← List.take_append_drop 24 words1, List.all_append, w_t1, w_t2]
  rfl
set_option maxRecDepth 65536 in
theorem w_case : (Jvm.Cond.and given_1 narrow_1).before args0 about1 = true := by decide +kernel
theorem w_applies : (headSpec (Jvm.Cond.code x code maxLocals ret :: tables_1) room_1).applies x e0.platform about1 = true :=
  (Spec.applies_iff w_frames).mpr ⟨w_running, w_runnable, w_alone, w_named, w_hears, w_ripe, w_room, w_tables⟩
theorem atStart : AtStart classFile x code maxLocals ret World_1 tables_1 room_1 Calls_1 rest_1 Pre_1 launch0 p0 e0 about1 theMethod args0 below0 :=
  ⟨lists_1, trivial, launch0.admits_env _ _ _, launch0.least_env, fairChoices_fair.cas, fairChoices_fair.clock, w_frames, w_args, w_heap, w_applies, trivial, trivial, w_case⟩
end start1
theorem witness_1 : WitnessClaimed_1 := ⟨start1.p0, start1.e0, start1.about1, start1.theMethod, start1.args0, start1.below0, start1.atStart⟩
end Jvm.Pilot.@@N@@
