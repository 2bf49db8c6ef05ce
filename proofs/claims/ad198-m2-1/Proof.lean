import JvmDerived
import JvmDerived.Pilot.@@N@@Statement
import JvmDerived.Pilot.@@N@@Code
set_option linter.unusedVariables false
set_option linter.unusedSimpArgs false
@@BLOCK:NumsL.lean.txt@@
namespace Jvm.Pilot.@@N@@
open Jvm Jvm.ClassFile Sem Op Lib Jvm.Free Jvm.Stand Jvm.LawKit Jvm.RoadKit Bundle Jvm.Pilot.@@N@@.Jvm.D
section OwnKit
variable {p : Program} {l : Launch} {e : Env} {R : Room} {s : State} {m : MethodId} {args : Array Value} {below : List Frame} {meth : Method} {c : Code} {T : State} {locs : List Loc} {cells slots : Nat}
/-- from U the run comes to an end of which K speaks -/
def Go (p : Program) (e : Env) (below : List Frame) (K : Outcome → State → Prop) (U : State) : Prop := ∃ s₂ o, Steps p.tables e below U s₂ ∧ s₂.status = .running ∧ Ended s₂ below o ∧ K o s₂
theorem own_s {K : Outcome → State → Prop} {A B : State} (h : ∀ t, Steps p.tables e below B t → Steps p.tables e below A t) (g : Go p e below K B) : Go p e below K A := by
  obtain ⟨s₂, o, h1, h2⟩ := g
  exact ⟨s₂, o, h _ h1, h2⟩
def Kf (s : State) (Q : Option Value → Heap → List Loc → Prop) (C N : Nat) (o : Outcome) (U : State) : Prop := ∃ v L, o = .returned v ∧ Q v U.heap L ∧ FrameEnd s o U L C N
theorem own_ret (X : Stand p l e R s m args below meth c T locs cells slots) (hx : p.tables.exec = Jvm.exec) (hlk : meth.locks = false) {pc : Nat} {Ls : Array Slot} {w : Value} {t : FieldType} {i : Instr} {rest : List Value} (hret : meth.sig.returnType = some t) (hn : narrow t w = w)
    (hi : (i = .ireturn ∧ (t = .int ∨ t = .boolean ∨ t = .byte ∨ t = .char ∨ t = .short) ∧ ∃ z, w = .int z) ∨ (i = .lreturn ∧ t = .long ∧ ∃ z, w = .long z) ∨ (i = .dreturn ∧ t = .double ∧ ∃ z, w = .double z) ∨ (i = .freturn ∧ t = .float ∧ ∃ z, w = .float z) ∨ (i = .areturn ∧ t.isReference = true ∧ w.isRef = true))
    (hd : decode c.code pc = .ok (i, 1)) {Q : Option Value → Heap → List Loc → Prop} {C N : Nat} (hc : cells ≤ C) (hs : slots ≤ N) (hQ : Q (some w) T.heap locs) : Go p e below (Kf s Q C N) (T.setTop (mkF m pc Ls (w :: rest))) := by
  obtain ⟨fs, hr, hrun, hended, hW, hsame⟩ := X.leave (v := some w) (fun h => by rw [hret] at h; cases h) hlk
  exact ⟨_, _, retOut X hx hret hn hi hd hr, hrun, hended, _, _, rfl, hQ, ⟨_, rfl⟩, hW, hsame.mono hc hs⟩
theorem own_retI (X : Stand p l e R s m args below meth c T locs cells slots) (hx : p.tables.exec = Jvm.exec) (hlk : meth.locks = false) {pc : Nat} {Ls : Array Slot} {z : Int32} {rest : List Value} (hret : meth.sig.returnType = some .int)
    (hd : decode c.code pc = .ok (.ireturn, 1)) {Q : Option Value → Heap → List Loc → Prop} {C N : Nat} (hc : cells ≤ C) (hs : slots ≤ N) (hQ : Q (some (.int z)) T.heap locs) : Go p e below (Kf s Q C N) (T.setTop (mkF m pc Ls (.int z :: rest))) :=
  own_ret X hx hlk hret rfl (Or.inl ⟨rfl, Or.inl rfl, _, rfl⟩) hd hc hs hQ
theorem own_retJ (X : Stand p l e R s m args below meth c T locs cells slots) (hx : p.tables.exec = Jvm.exec) (hlk : meth.locks = false) {pc : Nat} {Ls : Array Slot} {z : Int64} {rest : List Value} (hret : meth.sig.returnType = some .long)
    (hd : decode c.code pc = .ok (.lreturn, 1)) {Q : Option Value → Heap → List Loc → Prop} {C N : Nat} (hc : cells ≤ C) (hs : slots ≤ N) (hQ : Q (some (.long z)) T.heap locs) : Go p e below (Kf s Q C N) (T.setTop (mkF m pc Ls (.long z :: rest))) :=
  own_ret X hx hlk hret rfl (Or.inr (Or.inl ⟨rfl, rfl, _, rfl⟩)) hd hc hs hQ
theorem own_retR (X : Stand p l e R s m args below meth c T locs cells slots) (hx : p.tables.exec = Jvm.exec) (hlk : meth.locks = false) {pc : Nat} {Ls : Array Slot} {w : Value} {t : FieldType} {rest : List Value} (hret : meth.sig.returnType = some t) (ht : t.isReference = true) (hw : w.isRef = true)
    (hd : decode c.code pc = .ok (.areturn, 1)) {Q : Option Value → Heap → List Loc → Prop} {C N : Nat} (hc : cells ≤ C) (hs : slots ≤ N) (hQ : Q (some w) T.heap locs) : Go p e below (Kf s Q C N) (T.setTop (mkF m pc Ls (w :: rest))) :=
  own_ret X hx hlk hret (by cases t <;> simp [FieldType.isReference] at ht <;> cases w <;> simp [Value.isRef] at hw <;> rfl) (Or.inr (Or.inr (Or.inr (Or.inr ⟨rfl, ht, hw⟩)))) hd hc hs hQ
theorem own_retB (X : Stand p l e R s m args below meth c T locs cells slots) (hx : p.tables.exec = Jvm.exec) (hlk : meth.locks = false) {pc : Nat} {Ls : Array Slot} {z : Int32} {t : FieldType} {rest : List Value} (hret : meth.sig.returnType = some t) (ht : t = .boolean ∨ t = .byte ∨ t = .char ∨ t = .short)
    (hd : decode c.code pc = .ok (.ireturn, 1)) {Q : Option Value → Heap → List Loc → Prop} {C N : Nat} (hc : cells ≤ C) (hs : slots ≤ N) (hQ : Q (some (.int (nar t z))) T.heap locs) : Go p e below (Kf s Q C N) (T.setTop (mkF m pc Ls (.int z :: rest))) := by
  obtain ⟨fs, hr, hrun, hended, hW, hsame⟩ := X.leave (v := some (.int (nar t z))) (fun h => by rw [hret] at h; cases h) hlk
  exact ⟨_, _, retN X hx hret ht hd hr, hrun, hended, _, _, rfl, hQ, ⟨_, rfl⟩, hW, hsame.mono hc hs⟩
theorem own_retV (X : Stand p l e R s m args below meth c T locs cells slots) (hx : p.tables.exec = Jvm.exec) (hlk : meth.locks = false) {pc : Nat} {Ls : Array Slot} (hret : meth.sig.returnType = none)
    (hd : decode c.code pc = .ok (.return_, 1)) {Q : Option Value → Heap → List Loc → Prop} {C N : Nat} (hc : cells ≤ C) (hs : slots ≤ N) (hQ : Q none T.heap locs) : Go p e below (Kf s Q C N) (T.setTop (mkF m pc Ls [])) := by
  obtain ⟨fs, hr, hrun, hended, hW, hsame⟩ := X.leave (v := none) (fun _ => rfl) hlk
  exact ⟨_, _, X.returnOut hx hret hd hr, hrun, hended, _, _, rfl, hQ, ⟨_, rfl⟩, hW, hsame.mono hc hs⟩
/-- a truth as Java's int -/
abbrev bz (P : Prop) [Decidable P] : Int32 := if P then 1 else 0
theorem own_t {P : Prop} [Decidable P] (h : P) : some (Value.int (nar .boolean (1 : Int32))) = some (Value.int (bz P)) := by rw [bz, if_pos h]; rfl
theorem own_f {P : Prop} [Decidable P] (h : ¬ P) : some (Value.int (nar .boolean (0 : Int32))) = some (Value.int (bz P)) := by rw [bz, if_neg h]; rfl
theorem own_i {a b : Int32} (h : a = b) : some (Value.int a) = some (Value.int b) := by rw [h]
theorem own_j {a b : Int64} (h : a = b) : some (Value.long a) = some (Value.long b) := by rw [h]
theorem own_r {a b : Addr} (h : a = b) : some (Value.ref a) = some (Value.ref b) := by rw [h]
theorem own_eqI {args : Array Value} {first s : State} {o : Option Outcome} {idx : List Nat} {t : Term} {k : Int32} (h : (Jvm.Cond.eq t (Term.int k)).value args first o s idx = some true) : t.eval args first o idx s = some (.int k) := by
  simp only [Cond.value, Term.eval] at h
  cases ht : t.eval args first o idx s with
  | none => simp [ht] at h
  | some x => cases x <;> simp [ht] at h ⊢; exact h
end OwnKit
theorem own_lit {m : Int32} {k : Int} (h : m.toInt = k) : m = Int32.ofInt k := by rw [← h, Int32.ofInt_toInt]
theorem own_nc (j : Int32) : j.toNatClampNeg = j.toInt.toNat := rfl
theorem own_uniq {Z : State} {h : Heap} {a : Addr} {C n d : String} {v w : Value} (F : Fld Z h a C n d v) (G : Fld Z h a C n d w) : v = w := by
  obtain ⟨cell, cf, k, i, f, h1, h2, -, -, -, -, h7⟩ := F
  obtain ⟨cell', cf', k', i', f', g1, g2, -, -, -, -, g7⟩ := G
  cases h1.symm.trans g1
  cases h2.symm.trans g2
  exact Option.some.inj (h7.symm.trans g7)
theorem own_b1 {P : Prop} [Decidable P] (h : P) : bz P = (1 : Int32) := if_pos h
theorem own_b0 {P : Prop} [Decidable P] (h : ¬ P) : bz P = (0 : Int32) := if_neg h
theorem own_extt {h h' h'' : Heap} (E : Ext h h') (F : Ext h' h'') : Ext h h'' := ⟨Nat.le_trans E.1 F.1, fun a c q => F.2 a c (E.2 a c q)⟩
theorem own_ext0 (h : Heap) : Ext h h := ⟨Nat.le_refl _, fun _ _ q => q⟩
theorem own_extw {h0 h h' : Heap} {a : Addr} {sl : Nat} {v : Value} (E : Ext h0 h) (W : Wr h h' a sl v) (q : h0.size ≤ a) : Ext h0 h' :=
  ⟨by rw [W.size]; exact E.1, fun x c hc => by
    obtain ⟨c', e1, -, -, -, e5, -⟩ := wr_at W (E.2 x c hc)
    have ne : x ≠ a := Nat.ne_of_lt (Nat.lt_of_lt_of_le (Array.getElem?_eq_some_iff.mp hc).1 q)
    rw [← e5 ne]; exact e1⟩
theorem own_extk {h0 h h' : Heap} {ws : List Addr} (E : Ext h0 h) (K : Keep h h' ws) (q : ∀ x ∈ ws, h0.size ≤ x) : Ext h0 h' :=
  ⟨Nat.le_trans E.1 K.1, fun x c hc => K.2.1 x c (E.2 x c hc) fun z => absurd (Array.getElem?_eq_some_iff.mp hc).1 (Nat.not_lt.mpr (q x z))⟩
theorem own_kx {h h' : Heap} (E : Ext h h') (ws : List Addr) : Keep h h' ws := (Keep.refl h ws).ext E
theorem own_ktr {h h' h'' : Heap} {ws ws' : List Addr} (K : Keep h h' ws) (K' : Keep h' h'' ws') (q : ∀ x ∈ ws', x ∈ ws ∨ h.size ≤ x) : Keep h h'' ws := K.trans K' q
theorem own_selp {s : State} {args : Array Value} {y : MethodName} {n : Nat} (wi : (Cond.instantiable y.cls n).before args s = true) (hp : s.PrivateAt y) (hi : (Cond.instanceMethod y).before args s = true) (hy : y.cls ≠ "java/lang/invoke/MethodHandle" ∧ y.cls ≠ "java/lang/invoke/VarHandle") : (Cond.selects y.cls y y).before args s = true := by
  obtain ⟨c, k, h1, h2, -, h4, -⟩ := Cond.instantiable_spec wi
  have h5 : k.isInterface = false := by
    cases q : k.isInterface with
    | false => rfl
    | true => rw [q] at h4; cases h4
  exact selects_self_of_private h1 h2 h5 hp hi hy
def WS (Z : State) (h : Heap) (W : Int32 → Addr) : Prop := Sta Z h "com/example/formal_courier/formalcourier/crs/CrsDocumentTypeControls$DocumentType" "OECD1" "Lcom/example/formal_courier/formalcourier/crs/CrsDocumentTypeControls$DocumentType;" (.ref (W (0 : Int32))) ∧ Sta Z h "com/example/formal_courier/formalcourier/crs/CrsDocumentTypeControls$DocumentType" "OECD2" "Lcom/example/formal_courier/formalcourier/crs/CrsDocumentTypeControls$DocumentType;" (.ref (W (1 : Int32))) ∧ Sta Z h "com/example/formal_courier/formalcourier/crs/CrsDocumentTypeControls$DocumentType" "OECD3" "Lcom/example/formal_courier/formalcourier/crs/CrsDocumentTypeControls$DocumentType;" (.ref (W (2 : Int32))) ∧ Sta Z h "com/example/formal_courier/formalcourier/crs/CrsDocumentTypeControls$DocumentType" "OECD11" "Lcom/example/formal_courier/formalcourier/crs/CrsDocumentTypeControls$DocumentType;" (.ref (W (3 : Int32))) ∧ Sta Z h "com/example/formal_courier/formalcourier/crs/CrsDocumentTypeControls$DocumentType" "OECD12" "Lcom/example/formal_courier/formalcourier/crs/CrsDocumentTypeControls$DocumentType;" (.ref (W (4 : Int32))) ∧ Sta Z h "com/example/formal_courier/formalcourier/crs/CrsDocumentTypeControls$DocumentType" "OECD13" "Lcom/example/formal_courier/formalcourier/crs/CrsDocumentTypeControls$DocumentType;" (.ref (W (5 : Int32))) ∧ Sta Z h "com/example/formal_courier/formalcourier/crs/CrsDocumentTypeControls$DocumentType" "OTHER" "Lcom/example/formal_courier/formalcourier/crs/CrsDocumentTypeControls$DocumentType;" (.ref (W (6 : Int32)))
theorem WS.ext {Z : State} {h h' : Heap} {W : Int32 → Addr} (E : Ext h h') (F : WS Z h W) : WS Z h' W := ⟨F.1.ext E, F.2.1.ext E, F.2.2.1.ext E, F.2.2.2.1.ext E, F.2.2.2.2.1.ext E, F.2.2.2.2.2.1.ext E, F.2.2.2.2.2.2.ext E⟩
theorem own_rg_0_6 {m : Int32} (h1 : 0 ≤ m.toInt) (h2 : m.toInt ≤ 6) : m = (0 : Int32) ∨ m = (1 : Int32) ∨ m = (2 : Int32) ∨ m = (3 : Int32) ∨ m = (4 : Int32) ∨ m = (5 : Int32) ∨ m = (6 : Int32) := by
  have h : m.toInt = 0 ∨ m.toInt = 1 ∨ m.toInt = 2 ∨ m.toInt = 3 ∨ m.toInt = 4 ∨ m.toInt = 5 ∨ m.toInt = 6 := by omega
  rcases h with h | h | h | h | h | h | h
  · exact (Or.inl (own_lit h))
  · exact (Or.inr (Or.inl (own_lit h)))
  · exact (Or.inr (Or.inr (Or.inl (own_lit h))))
  · exact (Or.inr (Or.inr (Or.inr (Or.inl (own_lit h)))))
  · exact (Or.inr (Or.inr (Or.inr (Or.inr (Or.inl (own_lit h))))))
  · exact (Or.inr (Or.inr (Or.inr (Or.inr (Or.inr (Or.inl (own_lit h)))))))
  · exact (Or.inr (Or.inr (Or.inr (Or.inr (Or.inr (Or.inr (own_lit h)))))))
theorem own_m (x : Int32) : 0 ≤ ((x &&& (2147483647 : Int32)) % (7 : Int32)).toInt ∧ ((x &&& (2147483647 : Int32)) % (7 : Int32)).toInt ≤ 6 := by
  have e1 : (x &&& (2147483647 : Int32)).toInt = x.toInt % 2 ^ 31 := Jvm.Kit.i32_mask x _ (k := 31) (by decide) (by decide)
  have e2 := Jvm.Kit.i32_rem_nonneg (x := (x &&& (2147483647 : Int32))) (y := (7 : Int32)) (by omega)
  have e3 : (7 : Int32).toInt = 7 := by decide
  rw [e3] at e2
  omega
def ordW (i : Int32) : Int32 := i
theorem s_injW {i j : Int32} (h : ordW i = ordW j) : i = j := h
theorem own_ne {W : Int32 → Addr} (IW : ∀ i j : Int32, 0 ≤ i.toInt → i.toInt ≤ 6 → 0 ≤ j.toInt → j.toInt ≤ 6 → W i = W j → i = j) (i j : Int32) (h : 0 ≤ i.toInt ∧ i.toInt ≤ 6 ∧ 0 ≤ j.toInt ∧ j.toInt ≤ 6 ∧ i ≠ j) : ¬ W i = W j := fun q => h.2.2.2.2 (IW i j h.1 h.2.1 h.2.2.1 h.2.2.2.1 q)
theorem d1_0 : decode prog_48_method_6_code 0 = .ok (.aload_n 0, 1) := by decide +kernel
theorem d1_1 : decode prog_48_method_6_code 1 = .ok (.getstatic 7, 3) := by decide +kernel
theorem d1_4 : decode prog_48_method_6_code 4 = .ok (.if_acmp .eq 24, 3) := by decide +kernel
theorem d1_7 : decode prog_48_method_6_code 7 = .ok (.aload_n 0, 1) := by decide +kernel
theorem d1_8 : decode prog_48_method_6_code 8 = .ok (.getstatic 10, 3) := by decide +kernel
theorem d1_11 : decode prog_48_method_6_code 11 = .ok (.if_acmp .eq 17, 3) := by decide +kernel
theorem d1_14 : decode prog_48_method_6_code 14 = .ok (.aload_n 0, 1) := by decide +kernel
theorem d1_15 : decode prog_48_method_6_code 15 = .ok (.getstatic 16, 3) := by decide +kernel
theorem d1_18 : decode prog_48_method_6_code 18 = .ok (.if_acmp .eq 10, 3) := by decide +kernel
theorem d1_21 : decode prog_48_method_6_code 21 = .ok (.aload_n 0, 1) := by decide +kernel
theorem d1_22 : decode prog_48_method_6_code 22 = .ok (.getstatic 19, 3) := by decide +kernel
theorem d1_25 : decode prog_48_method_6_code 25 = .ok (.if_acmp .ne 7, 3) := by decide +kernel
theorem d1_28 : decode prog_48_method_6_code 28 = .ok (.iconst 1, 1) := by decide +kernel
theorem d1_29 : decode prog_48_method_6_code 29 = .ok (.goto 4, 3) := by decide +kernel
theorem d1_32 : decode prog_48_method_6_code 32 = .ok (.iconst 0, 1) := by decide +kernel
theorem d1_33 : decode prog_48_method_6_code 33 = .ok (.ireturn, 1) := by decide +kernel
theorem pn_0 : plainName "com/example/formal_courier/formalcourier/crs/CrsDocumentTypeControls$DocumentType" = true := by first | (simp [plainName, overriddenIn]; done) | decide +kernel
theorem ef_1 (m : MethodId) (x0 : Addr) : entryFrame m #[(.ref x0)] 1 = mkF m 0 #[.val (.ref x0)] [] := by first | (simp [entryFrame, mkF, argsToLocals, Value.category]; done) | rfl
def Q1 (Z : State) (a1 : Addr) (W : Int32 → Addr) (z : Int32) (h0 : Heap) (n0 : Nat) (v : Option Value) (h : Heap) (L : List Loc) : Prop := v = some (.int z) ∧ Fr n0 L ∧ h = h0
set_option maxRecDepth 65536 in
set_option maxHeartbeats 40000000 in
theorem rm1 (l : Launch) (Z : State) (a0 : Array Value) (hw : ∀ d ∈ tables_1, d.before a0 Z = true) (ws : List Jvm.Cond) (a1 : Addr) (W : Int32 → Addr) (z : Int32) (h0 : Heap) (n0 : Nat) (Z0 : n0 ≤ h0.size) (EW : WS Z h0 W) (hz : bz (a1 = W (1 : Int32) ∨ a1 = W (2 : Int32) ∨ a1 = W (4 : Int32) ∨ a1 = W (5 : Int32)) = z) :
    MetFree l (⟨"com/example/formal_courier/formalcourier/crs/CrsDocumentTypeControls$DocumentType", "isReplacement", "()Z"⟩ : MethodName) (head1 (Jvm.Cond.code (⟨"com/example/formal_courier/formalcourier/crs/CrsDocumentTypeControls$DocumentType", "isReplacement", "()Z"⟩ : MethodName) prog_48_method_6_code 1 (some .boolean) :: ws) ({ frames := 0, cells := 0, slots := 0, locals := 0 } : Room)) (fun a U => a = #[(.ref a1)] ∧ Z.Warmed39 U.vm ∧ U.heap = h0) (fun _ _ _ _ _ => True) (fun _ U o U' => ∃ v L, o = .returned v ∧ Q1 Z a1 W z h0 n0 v U'.heap L ∧ FrameEnd U o U' L ({ frames := 0, cells := 0, slots := 0, locals := 0 } : Room).cells ({ frames := 0, cells := 0, slots := 0, locals := 0 } : Room).slots) := by
  refine MetFree.of_bodySF (plainFor_of_name pn_0) hisR ?_
  intro p e s m args below meth c s₁ Bd hml0 hP hK
  obtain ⟨rfl, hZ, hh⟩ := hP
  have hx := Bd.exec
  have hby := Bd.bytes
  have hlk : meth.locks = false := BodyLoose.notSynchronized Bd
  have hml : c.maxLocals = 1 := hml0
  have hown : s.vm.findClass "com/example/formal_courier/formalcourier/crs/CrsDocumentTypeControls$DocumentType" = some m.cls := findClass_of_methodNamed Bd.named
  have hnm := (name_of_methodNamed Bd.named Bd.method).1
  have X0 : Stand p l e ({ frames := 0, cells := 0, slots := 0, locals := 0 } : Room) s m #[(.ref a1)] below meth c s₁ [] 0 0 := Stand.of_body Bd
  have e0 : s₁.heap = h0 := by rw [← hh, Bd.state]; rfl
  have N0 := Fr.nil n0
  show Go p e below (Kf s (Q1 Z a1 W z h0 n0) ({ frames := 0, cells := 0, slots := 0, locals := 0 } : Room).cells ({ frames := 0, cells := 0, slots := 0, locals := 0 } : Room).slots) (s₁.setTop (entryFrame m #[(.ref a1)] 1))
  refine own_s (B := s₁.setTop (mkF m 0 #[.val (.ref a1)] [])) (fun t k => castTop (ef_1 m a1) k) ?_
  refine own_s (B := s₁.setTop (mkF m 1 #[.val (.ref a1)] [(.ref a1)])) (fun t k => XS.aloadN X0.here hx rfl (hb hby d1_0) rfl rfl k) ?_
  obtain ⟨T1, X1, e1, st1⟩ := getS2 X0 hx hZ hown (host := "") (Or.inl (hw _ (List.mem_of_getElem? (i := 24) rfl))) Via.refl e0 EW.2.1 (g := (mkF m 1 #[.val (.ref a1)] [(.ref a1)])) rfl (hb hby d1_1)
  refine own_s (B := T1.setTop (mkF m 4 #[.val (.ref a1)] [(.ref (W (1 : Int32))), (.ref a1)])) st1 ?_
  by_cases ha4 : a1 = (W (1 : Int32))
  · refine own_s (B := T1.setTop (mkF m 28 #[.val (.ref a1)] [])) (fun t k => Jvm.RoadKit.acmp (g := (mkF m 4 #[.val (.ref a1)] [(.ref (W (1 : Int32))), (.ref a1)])) X1 hx rfl rfl rfl (pc0 := 4) (pc' := 28) (same := true) rfl (hb hby d1_4) rfl (decide_eq_true (congrArg Value.ref ha4)) (by decide) (by decide) k) ?_
    refine own_s (B := T1.setTop (mkF m 29 #[.val (.ref a1)] [(.int (1 : Int32))])) (fun t k => XS.iconst X1.here hx rfl (hb hby d1_28) k) ?_
    refine own_s (B := T1.setTop (mkF m 33 #[.val (.ref a1)] [(.int (1 : Int32))])) (fun t k => XS.goto X1.here hx rfl (pc0 := 29) (pc' := 33) rfl (hb hby d1_29) (by decide) (by decide) k) ?_
    exact own_retB X1 hx hlk (t := .boolean) Bd.returns (by simp) (hb hby d1_33) (by decide) (by decide) ⟨(own_t (Or.inl ha4)).trans (own_i hz), N0, e1⟩
  · refine own_s (B := T1.setTop (mkF m 7 #[.val (.ref a1)] [])) (fun t k => Jvm.RoadKit.acmp (g := (mkF m 4 #[.val (.ref a1)] [(.ref (W (1 : Int32))), (.ref a1)])) X1 hx rfl rfl rfl (pc0 := 4) (pc' := 7) (same := false) rfl (hb hby d1_4) rfl (decide_eq_false fun q => ha4 (Value.ref.inj q)) (by decide) (by decide) k) ?_
    refine own_s (B := T1.setTop (mkF m 8 #[.val (.ref a1)] [(.ref a1)])) (fun t k => XS.aloadN X1.here hx rfl (hb hby d1_7) rfl rfl k) ?_
    obtain ⟨T2, X2, e2, st2⟩ := getS2 X1 hx hZ hown (host := "") (Or.inl (hw _ (List.mem_of_getElem? (i := 25) rfl))) Via.refl e1 EW.2.2.1 (g := (mkF m 8 #[.val (.ref a1)] [(.ref a1)])) rfl (hb hby d1_8)
    refine own_s (B := T2.setTop (mkF m 11 #[.val (.ref a1)] [(.ref (W (2 : Int32))), (.ref a1)])) st2 ?_
    by_cases ha11 : a1 = (W (2 : Int32))
    · refine own_s (B := T2.setTop (mkF m 28 #[.val (.ref a1)] [])) (fun t k => Jvm.RoadKit.acmp (g := (mkF m 11 #[.val (.ref a1)] [(.ref (W (2 : Int32))), (.ref a1)])) X2 hx rfl rfl rfl (pc0 := 11) (pc' := 28) (same := true) rfl (hb hby d1_11) rfl (decide_eq_true (congrArg Value.ref ha11)) (by decide) (by decide) k) ?_
      refine own_s (B := T2.setTop (mkF m 29 #[.val (.ref a1)] [(.int (1 : Int32))])) (fun t k => XS.iconst X2.here hx rfl (hb hby d1_28) k) ?_
      refine own_s (B := T2.setTop (mkF m 33 #[.val (.ref a1)] [(.int (1 : Int32))])) (fun t k => XS.goto X2.here hx rfl (pc0 := 29) (pc' := 33) rfl (hb hby d1_29) (by decide) (by decide) k) ?_
      exact own_retB X2 hx hlk (t := .boolean) Bd.returns (by simp) (hb hby d1_33) (by decide) (by decide) ⟨(own_t (Or.inr (Or.inl ha11))).trans (own_i hz), N0, e2⟩
    · refine own_s (B := T2.setTop (mkF m 14 #[.val (.ref a1)] [])) (fun t k => Jvm.RoadKit.acmp (g := (mkF m 11 #[.val (.ref a1)] [(.ref (W (2 : Int32))), (.ref a1)])) X2 hx rfl rfl rfl (pc0 := 11) (pc' := 14) (same := false) rfl (hb hby d1_11) rfl (decide_eq_false fun q => ha11 (Value.ref.inj q)) (by decide) (by decide) k) ?_
      refine own_s (B := T2.setTop (mkF m 15 #[.val (.ref a1)] [(.ref a1)])) (fun t k => XS.aloadN X2.here hx rfl (hb hby d1_14) rfl rfl k) ?_
      obtain ⟨T3, X3, e3, st3⟩ := getS2 X2 hx hZ hown (host := "") (Or.inl (hw _ (List.mem_of_getElem? (i := 26) rfl))) Via.refl e2 EW.2.2.2.2.1 (g := (mkF m 15 #[.val (.ref a1)] [(.ref a1)])) rfl (hb hby d1_15)
      refine own_s (B := T3.setTop (mkF m 18 #[.val (.ref a1)] [(.ref (W (4 : Int32))), (.ref a1)])) st3 ?_
      by_cases ha18 : a1 = (W (4 : Int32))
      · refine own_s (B := T3.setTop (mkF m 28 #[.val (.ref a1)] [])) (fun t k => Jvm.RoadKit.acmp (g := (mkF m 18 #[.val (.ref a1)] [(.ref (W (4 : Int32))), (.ref a1)])) X3 hx rfl rfl rfl (pc0 := 18) (pc' := 28) (same := true) rfl (hb hby d1_18) rfl (decide_eq_true (congrArg Value.ref ha18)) (by decide) (by decide) k) ?_
        refine own_s (B := T3.setTop (mkF m 29 #[.val (.ref a1)] [(.int (1 : Int32))])) (fun t k => XS.iconst X3.here hx rfl (hb hby d1_28) k) ?_
        refine own_s (B := T3.setTop (mkF m 33 #[.val (.ref a1)] [(.int (1 : Int32))])) (fun t k => XS.goto X3.here hx rfl (pc0 := 29) (pc' := 33) rfl (hb hby d1_29) (by decide) (by decide) k) ?_
        exact own_retB X3 hx hlk (t := .boolean) Bd.returns (by simp) (hb hby d1_33) (by decide) (by decide) ⟨(own_t (Or.inr (Or.inr (Or.inl ha18)))).trans (own_i hz), N0, e3⟩
      · refine own_s (B := T3.setTop (mkF m 21 #[.val (.ref a1)] [])) (fun t k => Jvm.RoadKit.acmp (g := (mkF m 18 #[.val (.ref a1)] [(.ref (W (4 : Int32))), (.ref a1)])) X3 hx rfl rfl rfl (pc0 := 18) (pc' := 21) (same := false) rfl (hb hby d1_18) rfl (decide_eq_false fun q => ha18 (Value.ref.inj q)) (by decide) (by decide) k) ?_
        refine own_s (B := T3.setTop (mkF m 22 #[.val (.ref a1)] [(.ref a1)])) (fun t k => XS.aloadN X3.here hx rfl (hb hby d1_21) rfl rfl k) ?_
        obtain ⟨T4, X4, e4, st4⟩ := getS2 X3 hx hZ hown (host := "") (Or.inl (hw _ (List.mem_of_getElem? (i := 27) rfl))) Via.refl e3 EW.2.2.2.2.2.1 (g := (mkF m 22 #[.val (.ref a1)] [(.ref a1)])) rfl (hb hby d1_22)
        refine own_s (B := T4.setTop (mkF m 25 #[.val (.ref a1)] [(.ref (W (5 : Int32))), (.ref a1)])) st4 ?_
        by_cases ha25 : a1 = (W (5 : Int32))
        · refine own_s (B := T4.setTop (mkF m 28 #[.val (.ref a1)] [])) (fun t k => Jvm.RoadKit.acmp (g := (mkF m 25 #[.val (.ref a1)] [(.ref (W (5 : Int32))), (.ref a1)])) X4 hx rfl rfl rfl (pc0 := 25) (pc' := 28) (same := true) rfl (hb hby d1_25) rfl (decide_eq_true (congrArg Value.ref ha25)) (by decide) (by decide) k) ?_
          refine own_s (B := T4.setTop (mkF m 29 #[.val (.ref a1)] [(.int (1 : Int32))])) (fun t k => XS.iconst X4.here hx rfl (hb hby d1_28) k) ?_
          refine own_s (B := T4.setTop (mkF m 33 #[.val (.ref a1)] [(.int (1 : Int32))])) (fun t k => XS.goto X4.here hx rfl (pc0 := 29) (pc' := 33) rfl (hb hby d1_29) (by decide) (by decide) k) ?_
          exact own_retB X4 hx hlk (t := .boolean) Bd.returns (by simp) (hb hby d1_33) (by decide) (by decide) ⟨(own_t (Or.inr (Or.inr (Or.inr ha25)))).trans (own_i hz), N0, e4⟩
        · refine own_s (B := T4.setTop (mkF m 32 #[.val (.ref a1)] [])) (fun t k => Jvm.RoadKit.acmp (g := (mkF m 25 #[.val (.ref a1)] [(.ref (W (5 : Int32))), (.ref a1)])) X4 hx rfl rfl rfl (pc0 := 25) (pc' := 32) (same := false) rfl (hb hby d1_25) rfl (decide_eq_false fun q => ha25 (Value.ref.inj q)) (by decide) (by decide) k) ?_
          refine own_s (B := T4.setTop (mkF m 33 #[.val (.ref a1)] [(.int (0 : Int32))])) (fun t k => XS.iconst X4.here hx rfl (hb hby d1_32) k) ?_
          exact own_retB X4 hx hlk (t := .boolean) Bd.returns (by simp) (hb hby d1_33) (by decide) (by decide) ⟨(own_f (by simp only [ha4, ha11, ha18, ha25, or_false, not_false_eq_true])).trans (own_i hz), N0, e4⟩
theorem d2_0 : decode prog_48_method_8_code 0 = .ok (.aload_n 0, 1) := by decide +kernel
theorem d2_1 : decode prog_48_method_8_code 1 = .ok (.getstatic 3, 3) := by decide +kernel
theorem d2_4 : decode prog_48_method_8_code 4 = .ok (.if_acmp .eq 17, 3) := by decide +kernel
theorem d2_7 : decode prog_48_method_8_code 7 = .ok (.aload_n 0, 1) := by decide +kernel
theorem d2_8 : decode prog_48_method_8_code 8 = .ok (.getstatic 7, 3) := by decide +kernel
theorem d2_11 : decode prog_48_method_8_code 11 = .ok (.if_acmp .eq 10, 3) := by decide +kernel
theorem d2_14 : decode prog_48_method_8_code 14 = .ok (.aload_n 0, 1) := by decide +kernel
theorem d2_15 : decode prog_48_method_8_code 15 = .ok (.getstatic 10, 3) := by decide +kernel
theorem d2_18 : decode prog_48_method_8_code 18 = .ok (.if_acmp .ne 7, 3) := by decide +kernel
theorem d2_21 : decode prog_48_method_8_code 21 = .ok (.iconst 1, 1) := by decide +kernel
theorem d2_22 : decode prog_48_method_8_code 22 = .ok (.goto 4, 3) := by decide +kernel
theorem d2_25 : decode prog_48_method_8_code 25 = .ok (.iconst 0, 1) := by decide +kernel
theorem d2_26 : decode prog_48_method_8_code 26 = .ok (.ireturn, 1) := by decide +kernel
theorem ef_2 (m : MethodId) (x0 : Addr) : entryFrame m #[(.ref x0)] 1 = mkF m 0 #[.val (.ref x0)] [] := by first | (simp [entryFrame, mkF, argsToLocals, Value.category]; done) | rfl
def Q2 (Z : State) (a1 : Addr) (W : Int32 → Addr) (z : Int32) (h0 : Heap) (n0 : Nat) (v : Option Value) (h : Heap) (L : List Loc) : Prop := v = some (.int z) ∧ Fr n0 L ∧ h = h0
set_option maxRecDepth 65536 in
set_option maxHeartbeats 40000000 in
theorem rm2 (l : Launch) (Z : State) (a0 : Array Value) (hw : ∀ d ∈ tables_1, d.before a0 Z = true) (ws : List Jvm.Cond) (a1 : Addr) (W : Int32 → Addr) (z : Int32) (h0 : Heap) (n0 : Nat) (Z0 : n0 ≤ h0.size) (EW : WS Z h0 W) (hz : bz (a1 = W (0 : Int32) ∨ a1 = W (1 : Int32) ∨ a1 = W (2 : Int32)) = z) :
    MetFree l (⟨"com/example/formal_courier/formalcourier/crs/CrsDocumentTypeControls$DocumentType", "isProduction", "()Z"⟩ : MethodName) (head1 (Jvm.Cond.code (⟨"com/example/formal_courier/formalcourier/crs/CrsDocumentTypeControls$DocumentType", "isProduction", "()Z"⟩ : MethodName) prog_48_method_8_code 1 (some .boolean) :: ws) ({ frames := 0, cells := 0, slots := 0, locals := 0 } : Room)) (fun a U => a = #[(.ref a1)] ∧ Z.Warmed39 U.vm ∧ U.heap = h0) (fun _ _ _ _ _ => True) (fun _ U o U' => ∃ v L, o = .returned v ∧ Q2 Z a1 W z h0 n0 v U'.heap L ∧ FrameEnd U o U' L ({ frames := 0, cells := 0, slots := 0, locals := 0 } : Room).cells ({ frames := 0, cells := 0, slots := 0, locals := 0 } : Room).slots) := by
  refine MetFree.of_bodySF (plainFor_of_name pn_0) hisR ?_
  intro p e s m args below meth c s₁ Bd hml0 hP hK
  obtain ⟨rfl, hZ, hh⟩ := hP
  have hx := Bd.exec
  have hby := Bd.bytes
  have hlk : meth.locks = false := BodyLoose.notSynchronized Bd
  have hml : c.maxLocals = 1 := hml0
  have hown : s.vm.findClass "com/example/formal_courier/formalcourier/crs/CrsDocumentTypeControls$DocumentType" = some m.cls := findClass_of_methodNamed Bd.named
  have hnm := (name_of_methodNamed Bd.named Bd.method).1
  have X0 : Stand p l e ({ frames := 0, cells := 0, slots := 0, locals := 0 } : Room) s m #[(.ref a1)] below meth c s₁ [] 0 0 := Stand.of_body Bd
  have e0 : s₁.heap = h0 := by rw [← hh, Bd.state]; rfl
  have N0 := Fr.nil n0
  show Go p e below (Kf s (Q2 Z a1 W z h0 n0) ({ frames := 0, cells := 0, slots := 0, locals := 0 } : Room).cells ({ frames := 0, cells := 0, slots := 0, locals := 0 } : Room).slots) (s₁.setTop (entryFrame m #[(.ref a1)] 1))
  refine own_s (B := s₁.setTop (mkF m 0 #[.val (.ref a1)] [])) (fun t k => castTop (ef_2 m a1) k) ?_
  refine own_s (B := s₁.setTop (mkF m 1 #[.val (.ref a1)] [(.ref a1)])) (fun t k => XS.aloadN X0.here hx rfl (hb hby d2_0) rfl rfl k) ?_
  obtain ⟨T1, X1, e1, st1⟩ := getS2 X0 hx hZ hown (host := "") (Or.inl (hw _ (List.mem_of_getElem? (i := 33) rfl))) Via.refl e0 EW.1 (g := (mkF m 1 #[.val (.ref a1)] [(.ref a1)])) rfl (hb hby d2_1)
  refine own_s (B := T1.setTop (mkF m 4 #[.val (.ref a1)] [(.ref (W (0 : Int32))), (.ref a1)])) st1 ?_
  by_cases ha4 : a1 = (W (0 : Int32))
  · refine own_s (B := T1.setTop (mkF m 21 #[.val (.ref a1)] [])) (fun t k => Jvm.RoadKit.acmp (g := (mkF m 4 #[.val (.ref a1)] [(.ref (W (0 : Int32))), (.ref a1)])) X1 hx rfl rfl rfl (pc0 := 4) (pc' := 21) (same := true) rfl (hb hby d2_4) rfl (decide_eq_true (congrArg Value.ref ha4)) (by decide) (by decide) k) ?_
    refine own_s (B := T1.setTop (mkF m 22 #[.val (.ref a1)] [(.int (1 : Int32))])) (fun t k => XS.iconst X1.here hx rfl (hb hby d2_21) k) ?_
    refine own_s (B := T1.setTop (mkF m 26 #[.val (.ref a1)] [(.int (1 : Int32))])) (fun t k => XS.goto X1.here hx rfl (pc0 := 22) (pc' := 26) rfl (hb hby d2_22) (by decide) (by decide) k) ?_
    exact own_retB X1 hx hlk (t := .boolean) Bd.returns (by simp) (hb hby d2_26) (by decide) (by decide) ⟨(own_t (Or.inl ha4)).trans (own_i hz), N0, e1⟩
  · refine own_s (B := T1.setTop (mkF m 7 #[.val (.ref a1)] [])) (fun t k => Jvm.RoadKit.acmp (g := (mkF m 4 #[.val (.ref a1)] [(.ref (W (0 : Int32))), (.ref a1)])) X1 hx rfl rfl rfl (pc0 := 4) (pc' := 7) (same := false) rfl (hb hby d2_4) rfl (decide_eq_false fun q => ha4 (Value.ref.inj q)) (by decide) (by decide) k) ?_
    refine own_s (B := T1.setTop (mkF m 8 #[.val (.ref a1)] [(.ref a1)])) (fun t k => XS.aloadN X1.here hx rfl (hb hby d2_7) rfl rfl k) ?_
    obtain ⟨T2, X2, e2, st2⟩ := getS2 X1 hx hZ hown (host := "") (Or.inl (hw _ (List.mem_of_getElem? (i := 24) rfl))) Via.refl e1 EW.2.1 (g := (mkF m 8 #[.val (.ref a1)] [(.ref a1)])) rfl (hb hby d2_8)
    refine own_s (B := T2.setTop (mkF m 11 #[.val (.ref a1)] [(.ref (W (1 : Int32))), (.ref a1)])) st2 ?_
    by_cases ha11 : a1 = (W (1 : Int32))
    · refine own_s (B := T2.setTop (mkF m 21 #[.val (.ref a1)] [])) (fun t k => Jvm.RoadKit.acmp (g := (mkF m 11 #[.val (.ref a1)] [(.ref (W (1 : Int32))), (.ref a1)])) X2 hx rfl rfl rfl (pc0 := 11) (pc' := 21) (same := true) rfl (hb hby d2_11) rfl (decide_eq_true (congrArg Value.ref ha11)) (by decide) (by decide) k) ?_
      refine own_s (B := T2.setTop (mkF m 22 #[.val (.ref a1)] [(.int (1 : Int32))])) (fun t k => XS.iconst X2.here hx rfl (hb hby d2_21) k) ?_
      refine own_s (B := T2.setTop (mkF m 26 #[.val (.ref a1)] [(.int (1 : Int32))])) (fun t k => XS.goto X2.here hx rfl (pc0 := 22) (pc' := 26) rfl (hb hby d2_22) (by decide) (by decide) k) ?_
      exact own_retB X2 hx hlk (t := .boolean) Bd.returns (by simp) (hb hby d2_26) (by decide) (by decide) ⟨(own_t (Or.inr (Or.inl ha11))).trans (own_i hz), N0, e2⟩
    · refine own_s (B := T2.setTop (mkF m 14 #[.val (.ref a1)] [])) (fun t k => Jvm.RoadKit.acmp (g := (mkF m 11 #[.val (.ref a1)] [(.ref (W (1 : Int32))), (.ref a1)])) X2 hx rfl rfl rfl (pc0 := 11) (pc' := 14) (same := false) rfl (hb hby d2_11) rfl (decide_eq_false fun q => ha11 (Value.ref.inj q)) (by decide) (by decide) k) ?_
      refine own_s (B := T2.setTop (mkF m 15 #[.val (.ref a1)] [(.ref a1)])) (fun t k => XS.aloadN X2.here hx rfl (hb hby d2_14) rfl rfl k) ?_
      obtain ⟨T3, X3, e3, st3⟩ := getS2 X2 hx hZ hown (host := "") (Or.inl (hw _ (List.mem_of_getElem? (i := 25) rfl))) Via.refl e2 EW.2.2.1 (g := (mkF m 15 #[.val (.ref a1)] [(.ref a1)])) rfl (hb hby d2_15)
      refine own_s (B := T3.setTop (mkF m 18 #[.val (.ref a1)] [(.ref (W (2 : Int32))), (.ref a1)])) st3 ?_
      by_cases ha18 : a1 = (W (2 : Int32))
      · refine own_s (B := T3.setTop (mkF m 21 #[.val (.ref a1)] [])) (fun t k => Jvm.RoadKit.acmp (g := (mkF m 18 #[.val (.ref a1)] [(.ref (W (2 : Int32))), (.ref a1)])) X3 hx rfl rfl rfl (pc0 := 18) (pc' := 21) (same := true) rfl (hb hby d2_18) rfl (decide_eq_true (congrArg Value.ref ha18)) (by decide) (by decide) k) ?_
        refine own_s (B := T3.setTop (mkF m 22 #[.val (.ref a1)] [(.int (1 : Int32))])) (fun t k => XS.iconst X3.here hx rfl (hb hby d2_21) k) ?_
        refine own_s (B := T3.setTop (mkF m 26 #[.val (.ref a1)] [(.int (1 : Int32))])) (fun t k => XS.goto X3.here hx rfl (pc0 := 22) (pc' := 26) rfl (hb hby d2_22) (by decide) (by decide) k) ?_
        exact own_retB X3 hx hlk (t := .boolean) Bd.returns (by simp) (hb hby d2_26) (by decide) (by decide) ⟨(own_t (Or.inr (Or.inr ha18))).trans (own_i hz), N0, e3⟩
      · refine own_s (B := T3.setTop (mkF m 25 #[.val (.ref a1)] [])) (fun t k => Jvm.RoadKit.acmp (g := (mkF m 18 #[.val (.ref a1)] [(.ref (W (2 : Int32))), (.ref a1)])) X3 hx rfl rfl rfl (pc0 := 18) (pc' := 25) (same := false) rfl (hb hby d2_18) rfl (decide_eq_false fun q => ha18 (Value.ref.inj q)) (by decide) (by decide) k) ?_
        refine own_s (B := T3.setTop (mkF m 26 #[.val (.ref a1)] [(.int (0 : Int32))])) (fun t k => XS.iconst X3.here hx rfl (hb hby d2_25) k) ?_
        exact own_retB X3 hx hlk (t := .boolean) Bd.returns (by simp) (hb hby d2_26) (by decide) (by decide) ⟨(own_f (by simp only [ha4, ha11, ha18, or_false, not_false_eq_true])).trans (own_i hz), N0, e3⟩
theorem d3_0 : decode prog_48_method_5_code 0 = .ok (.aload_n 0, 1) := by decide +kernel
theorem d3_1 : decode prog_48_method_5_code 1 = .ok (.getstatic 3, 3) := by decide +kernel
theorem d3_4 : decode prog_48_method_5_code 4 = .ok (.if_acmp .eq 10, 3) := by decide +kernel
theorem d3_7 : decode prog_48_method_5_code 7 = .ok (.aload_n 0, 1) := by decide +kernel
theorem d3_8 : decode prog_48_method_5_code 8 = .ok (.getstatic 13, 3) := by decide +kernel
theorem d3_11 : decode prog_48_method_5_code 11 = .ok (.if_acmp .ne 7, 3) := by decide +kernel
theorem d3_14 : decode prog_48_method_5_code 14 = .ok (.iconst 1, 1) := by decide +kernel
theorem d3_15 : decode prog_48_method_5_code 15 = .ok (.goto 4, 3) := by decide +kernel
theorem d3_18 : decode prog_48_method_5_code 18 = .ok (.iconst 0, 1) := by decide +kernel
theorem d3_19 : decode prog_48_method_5_code 19 = .ok (.ireturn, 1) := by decide +kernel
theorem ef_3 (m : MethodId) (x0 : Addr) : entryFrame m #[(.ref x0)] 1 = mkF m 0 #[.val (.ref x0)] [] := by first | (simp [entryFrame, mkF, argsToLocals, Value.category]; done) | rfl
def Q3 (Z : State) (a1 : Addr) (W : Int32 → Addr) (z : Int32) (h0 : Heap) (n0 : Nat) (v : Option Value) (h : Heap) (L : List Loc) : Prop := v = some (.int z) ∧ Fr n0 L ∧ h = h0
set_option maxRecDepth 65536 in
set_option maxHeartbeats 40000000 in
theorem rm3 (l : Launch) (Z : State) (a0 : Array Value) (hw : ∀ d ∈ tables_1, d.before a0 Z = true) (ws : List Jvm.Cond) (a1 : Addr) (W : Int32 → Addr) (z : Int32) (h0 : Heap) (n0 : Nat) (Z0 : n0 ≤ h0.size) (EW : WS Z h0 W) (hz : bz (a1 = W (0 : Int32) ∨ a1 = W (3 : Int32)) = z) :
    MetFree l (⟨"com/example/formal_courier/formalcourier/crs/CrsDocumentTypeControls$DocumentType", "isNew", "()Z"⟩ : MethodName) (head1 (Jvm.Cond.code (⟨"com/example/formal_courier/formalcourier/crs/CrsDocumentTypeControls$DocumentType", "isNew", "()Z"⟩ : MethodName) prog_48_method_5_code 1 (some .boolean) :: ws) ({ frames := 0, cells := 0, slots := 0, locals := 0 } : Room)) (fun a U => a = #[(.ref a1)] ∧ Z.Warmed39 U.vm ∧ U.heap = h0) (fun _ _ _ _ _ => True) (fun _ U o U' => ∃ v L, o = .returned v ∧ Q3 Z a1 W z h0 n0 v U'.heap L ∧ FrameEnd U o U' L ({ frames := 0, cells := 0, slots := 0, locals := 0 } : Room).cells ({ frames := 0, cells := 0, slots := 0, locals := 0 } : Room).slots) := by
  refine MetFree.of_bodySF (plainFor_of_name pn_0) hisR ?_
  intro p e s m args below meth c s₁ Bd hml0 hP hK
  obtain ⟨rfl, hZ, hh⟩ := hP
  have hx := Bd.exec
  have hby := Bd.bytes
  have hlk : meth.locks = false := BodyLoose.notSynchronized Bd
  have hml : c.maxLocals = 1 := hml0
  have hown : s.vm.findClass "com/example/formal_courier/formalcourier/crs/CrsDocumentTypeControls$DocumentType" = some m.cls := findClass_of_methodNamed Bd.named
  have hnm := (name_of_methodNamed Bd.named Bd.method).1
  have X0 : Stand p l e ({ frames := 0, cells := 0, slots := 0, locals := 0 } : Room) s m #[(.ref a1)] below meth c s₁ [] 0 0 := Stand.of_body Bd
  have e0 : s₁.heap = h0 := by rw [← hh, Bd.state]; rfl
  have N0 := Fr.nil n0
  show Go p e below (Kf s (Q3 Z a1 W z h0 n0) ({ frames := 0, cells := 0, slots := 0, locals := 0 } : Room).cells ({ frames := 0, cells := 0, slots := 0, locals := 0 } : Room).slots) (s₁.setTop (entryFrame m #[(.ref a1)] 1))
  refine own_s (B := s₁.setTop (mkF m 0 #[.val (.ref a1)] [])) (fun t k => castTop (ef_3 m a1) k) ?_
  refine own_s (B := s₁.setTop (mkF m 1 #[.val (.ref a1)] [(.ref a1)])) (fun t k => XS.aloadN X0.here hx rfl (hb hby d3_0) rfl rfl k) ?_
  obtain ⟨T1, X1, e1, st1⟩ := getS2 X0 hx hZ hown (host := "") (Or.inl (hw _ (List.mem_of_getElem? (i := 33) rfl))) Via.refl e0 EW.1 (g := (mkF m 1 #[.val (.ref a1)] [(.ref a1)])) rfl (hb hby d3_1)
  refine own_s (B := T1.setTop (mkF m 4 #[.val (.ref a1)] [(.ref (W (0 : Int32))), (.ref a1)])) st1 ?_
  by_cases ha4 : a1 = (W (0 : Int32))
  · refine own_s (B := T1.setTop (mkF m 14 #[.val (.ref a1)] [])) (fun t k => Jvm.RoadKit.acmp (g := (mkF m 4 #[.val (.ref a1)] [(.ref (W (0 : Int32))), (.ref a1)])) X1 hx rfl rfl rfl (pc0 := 4) (pc' := 14) (same := true) rfl (hb hby d3_4) rfl (decide_eq_true (congrArg Value.ref ha4)) (by decide) (by decide) k) ?_
    refine own_s (B := T1.setTop (mkF m 15 #[.val (.ref a1)] [(.int (1 : Int32))])) (fun t k => XS.iconst X1.here hx rfl (hb hby d3_14) k) ?_
    refine own_s (B := T1.setTop (mkF m 19 #[.val (.ref a1)] [(.int (1 : Int32))])) (fun t k => XS.goto X1.here hx rfl (pc0 := 15) (pc' := 19) rfl (hb hby d3_15) (by decide) (by decide) k) ?_
    exact own_retB X1 hx hlk (t := .boolean) Bd.returns (by simp) (hb hby d3_19) (by decide) (by decide) ⟨(own_t (Or.inl ha4)).trans (own_i hz), N0, e1⟩
  · refine own_s (B := T1.setTop (mkF m 7 #[.val (.ref a1)] [])) (fun t k => Jvm.RoadKit.acmp (g := (mkF m 4 #[.val (.ref a1)] [(.ref (W (0 : Int32))), (.ref a1)])) X1 hx rfl rfl rfl (pc0 := 4) (pc' := 7) (same := false) rfl (hb hby d3_4) rfl (decide_eq_false fun q => ha4 (Value.ref.inj q)) (by decide) (by decide) k) ?_
    refine own_s (B := T1.setTop (mkF m 8 #[.val (.ref a1)] [(.ref a1)])) (fun t k => XS.aloadN X1.here hx rfl (hb hby d3_7) rfl rfl k) ?_
    obtain ⟨T2, X2, e2, st2⟩ := getS2 X1 hx hZ hown (host := "") (Or.inl (hw _ (List.mem_of_getElem? (i := 49) rfl))) Via.refl e1 EW.2.2.2.1 (g := (mkF m 8 #[.val (.ref a1)] [(.ref a1)])) rfl (hb hby d3_8)
    refine own_s (B := T2.setTop (mkF m 11 #[.val (.ref a1)] [(.ref (W (3 : Int32))), (.ref a1)])) st2 ?_
    by_cases ha11 : a1 = (W (3 : Int32))
    · refine own_s (B := T2.setTop (mkF m 14 #[.val (.ref a1)] [])) (fun t k => Jvm.RoadKit.acmp (g := (mkF m 11 #[.val (.ref a1)] [(.ref (W (3 : Int32))), (.ref a1)])) X2 hx rfl rfl rfl (pc0 := 11) (pc' := 14) (same := true) rfl (hb hby d3_11) rfl (decide_eq_true (congrArg Value.ref ha11)) (by decide) (by decide) k) ?_
      refine own_s (B := T2.setTop (mkF m 15 #[.val (.ref a1)] [(.int (1 : Int32))])) (fun t k => XS.iconst X2.here hx rfl (hb hby d3_14) k) ?_
      refine own_s (B := T2.setTop (mkF m 19 #[.val (.ref a1)] [(.int (1 : Int32))])) (fun t k => XS.goto X2.here hx rfl (pc0 := 15) (pc' := 19) rfl (hb hby d3_15) (by decide) (by decide) k) ?_
      exact own_retB X2 hx hlk (t := .boolean) Bd.returns (by simp) (hb hby d3_19) (by decide) (by decide) ⟨(own_t (Or.inr ha11)).trans (own_i hz), N0, e2⟩
    · refine own_s (B := T2.setTop (mkF m 18 #[.val (.ref a1)] [])) (fun t k => Jvm.RoadKit.acmp (g := (mkF m 11 #[.val (.ref a1)] [(.ref (W (3 : Int32))), (.ref a1)])) X2 hx rfl rfl rfl (pc0 := 11) (pc' := 18) (same := false) rfl (hb hby d3_11) rfl (decide_eq_false fun q => ha11 (Value.ref.inj q)) (by decide) (by decide) k) ?_
      refine own_s (B := T2.setTop (mkF m 19 #[.val (.ref a1)] [(.int (0 : Int32))])) (fun t k => XS.iconst X2.here hx rfl (hb hby d3_18) k) ?_
      exact own_retB X2 hx hlk (t := .boolean) Bd.returns (by simp) (hb hby d3_19) (by decide) (by decide) ⟨(own_f (by simp only [ha4, ha11, or_false, not_false_eq_true])).trans (own_i hz), N0, e2⟩
theorem d4_0 : decode prog_48_method_7_code 0 = .ok (.aload_n 0, 1) := by decide +kernel
theorem d4_1 : decode prog_48_method_7_code 1 = .ok (.getstatic 10, 3) := by decide +kernel
theorem d4_4 : decode prog_48_method_7_code 4 = .ok (.if_acmp .eq 10, 3) := by decide +kernel
theorem d4_7 : decode prog_48_method_7_code 7 = .ok (.aload_n 0, 1) := by decide +kernel
theorem d4_8 : decode prog_48_method_7_code 8 = .ok (.getstatic 19, 3) := by decide +kernel
theorem d4_11 : decode prog_48_method_7_code 11 = .ok (.if_acmp .ne 7, 3) := by decide +kernel
theorem d4_14 : decode prog_48_method_7_code 14 = .ok (.iconst 1, 1) := by decide +kernel
theorem d4_15 : decode prog_48_method_7_code 15 = .ok (.goto 4, 3) := by decide +kernel
theorem d4_18 : decode prog_48_method_7_code 18 = .ok (.iconst 0, 1) := by decide +kernel
theorem d4_19 : decode prog_48_method_7_code 19 = .ok (.ireturn, 1) := by decide +kernel
theorem ef_4 (m : MethodId) (x0 : Addr) : entryFrame m #[(.ref x0)] 1 = mkF m 0 #[.val (.ref x0)] [] := by first | (simp [entryFrame, mkF, argsToLocals, Value.category]; done) | rfl
def Q4 (Z : State) (a1 : Addr) (W : Int32 → Addr) (z : Int32) (h0 : Heap) (n0 : Nat) (v : Option Value) (h : Heap) (L : List Loc) : Prop := v = some (.int z) ∧ Fr n0 L ∧ h = h0
set_option maxRecDepth 65536 in
set_option maxHeartbeats 40000000 in
theorem rm4 (l : Launch) (Z : State) (a0 : Array Value) (hw : ∀ d ∈ tables_1, d.before a0 Z = true) (ws : List Jvm.Cond) (a1 : Addr) (W : Int32 → Addr) (z : Int32) (h0 : Heap) (n0 : Nat) (Z0 : n0 ≤ h0.size) (EW : WS Z h0 W) (hz : bz (a1 = W (2 : Int32) ∨ a1 = W (5 : Int32)) = z) :
    MetFree l (⟨"com/example/formal_courier/formalcourier/crs/CrsDocumentTypeControls$DocumentType", "isDeletion", "()Z"⟩ : MethodName) (head1 (Jvm.Cond.code (⟨"com/example/formal_courier/formalcourier/crs/CrsDocumentTypeControls$DocumentType", "isDeletion", "()Z"⟩ : MethodName) prog_48_method_7_code 1 (some .boolean) :: ws) ({ frames := 0, cells := 0, slots := 0, locals := 0 } : Room)) (fun a U => a = #[(.ref a1)] ∧ Z.Warmed39 U.vm ∧ U.heap = h0) (fun _ _ _ _ _ => True) (fun _ U o U' => ∃ v L, o = .returned v ∧ Q4 Z a1 W z h0 n0 v U'.heap L ∧ FrameEnd U o U' L ({ frames := 0, cells := 0, slots := 0, locals := 0 } : Room).cells ({ frames := 0, cells := 0, slots := 0, locals := 0 } : Room).slots) := by
  refine MetFree.of_bodySF (plainFor_of_name pn_0) hisR ?_
  intro p e s m args below meth c s₁ Bd hml0 hP hK
  obtain ⟨rfl, hZ, hh⟩ := hP
  have hx := Bd.exec
  have hby := Bd.bytes
  have hlk : meth.locks = false := BodyLoose.notSynchronized Bd
  have hml : c.maxLocals = 1 := hml0
  have hown : s.vm.findClass "com/example/formal_courier/formalcourier/crs/CrsDocumentTypeControls$DocumentType" = some m.cls := findClass_of_methodNamed Bd.named
  have hnm := (name_of_methodNamed Bd.named Bd.method).1
  have X0 : Stand p l e ({ frames := 0, cells := 0, slots := 0, locals := 0 } : Room) s m #[(.ref a1)] below meth c s₁ [] 0 0 := Stand.of_body Bd
  have e0 : s₁.heap = h0 := by rw [← hh, Bd.state]; rfl
  have N0 := Fr.nil n0
  show Go p e below (Kf s (Q4 Z a1 W z h0 n0) ({ frames := 0, cells := 0, slots := 0, locals := 0 } : Room).cells ({ frames := 0, cells := 0, slots := 0, locals := 0 } : Room).slots) (s₁.setTop (entryFrame m #[(.ref a1)] 1))
  refine own_s (B := s₁.setTop (mkF m 0 #[.val (.ref a1)] [])) (fun t k => castTop (ef_4 m a1) k) ?_
  refine own_s (B := s₁.setTop (mkF m 1 #[.val (.ref a1)] [(.ref a1)])) (fun t k => XS.aloadN X0.here hx rfl (hb hby d4_0) rfl rfl k) ?_
  obtain ⟨T1, X1, e1, st1⟩ := getS2 X0 hx hZ hown (host := "") (Or.inl (hw _ (List.mem_of_getElem? (i := 25) rfl))) Via.refl e0 EW.2.2.1 (g := (mkF m 1 #[.val (.ref a1)] [(.ref a1)])) rfl (hb hby d4_1)
  refine own_s (B := T1.setTop (mkF m 4 #[.val (.ref a1)] [(.ref (W (2 : Int32))), (.ref a1)])) st1 ?_
  by_cases ha4 : a1 = (W (2 : Int32))
  · refine own_s (B := T1.setTop (mkF m 14 #[.val (.ref a1)] [])) (fun t k => Jvm.RoadKit.acmp (g := (mkF m 4 #[.val (.ref a1)] [(.ref (W (2 : Int32))), (.ref a1)])) X1 hx rfl rfl rfl (pc0 := 4) (pc' := 14) (same := true) rfl (hb hby d4_4) rfl (decide_eq_true (congrArg Value.ref ha4)) (by decide) (by decide) k) ?_
    refine own_s (B := T1.setTop (mkF m 15 #[.val (.ref a1)] [(.int (1 : Int32))])) (fun t k => XS.iconst X1.here hx rfl (hb hby d4_14) k) ?_
    refine own_s (B := T1.setTop (mkF m 19 #[.val (.ref a1)] [(.int (1 : Int32))])) (fun t k => XS.goto X1.here hx rfl (pc0 := 15) (pc' := 19) rfl (hb hby d4_15) (by decide) (by decide) k) ?_
    exact own_retB X1 hx hlk (t := .boolean) Bd.returns (by simp) (hb hby d4_19) (by decide) (by decide) ⟨(own_t (Or.inl ha4)).trans (own_i hz), N0, e1⟩
  · refine own_s (B := T1.setTop (mkF m 7 #[.val (.ref a1)] [])) (fun t k => Jvm.RoadKit.acmp (g := (mkF m 4 #[.val (.ref a1)] [(.ref (W (2 : Int32))), (.ref a1)])) X1 hx rfl rfl rfl (pc0 := 4) (pc' := 7) (same := false) rfl (hb hby d4_4) rfl (decide_eq_false fun q => ha4 (Value.ref.inj q)) (by decide) (by decide) k) ?_
    refine own_s (B := T1.setTop (mkF m 8 #[.val (.ref a1)] [(.ref a1)])) (fun t k => XS.aloadN X1.here hx rfl (hb hby d4_7) rfl rfl k) ?_
    obtain ⟨T2, X2, e2, st2⟩ := getS2 X1 hx hZ hown (host := "") (Or.inl (hw _ (List.mem_of_getElem? (i := 27) rfl))) Via.refl e1 EW.2.2.2.2.2.1 (g := (mkF m 8 #[.val (.ref a1)] [(.ref a1)])) rfl (hb hby d4_8)
    refine own_s (B := T2.setTop (mkF m 11 #[.val (.ref a1)] [(.ref (W (5 : Int32))), (.ref a1)])) st2 ?_
    by_cases ha11 : a1 = (W (5 : Int32))
    · refine own_s (B := T2.setTop (mkF m 14 #[.val (.ref a1)] [])) (fun t k => Jvm.RoadKit.acmp (g := (mkF m 11 #[.val (.ref a1)] [(.ref (W (5 : Int32))), (.ref a1)])) X2 hx rfl rfl rfl (pc0 := 11) (pc' := 14) (same := true) rfl (hb hby d4_11) rfl (decide_eq_true (congrArg Value.ref ha11)) (by decide) (by decide) k) ?_
      refine own_s (B := T2.setTop (mkF m 15 #[.val (.ref a1)] [(.int (1 : Int32))])) (fun t k => XS.iconst X2.here hx rfl (hb hby d4_14) k) ?_
      refine own_s (B := T2.setTop (mkF m 19 #[.val (.ref a1)] [(.int (1 : Int32))])) (fun t k => XS.goto X2.here hx rfl (pc0 := 15) (pc' := 19) rfl (hb hby d4_15) (by decide) (by decide) k) ?_
      exact own_retB X2 hx hlk (t := .boolean) Bd.returns (by simp) (hb hby d4_19) (by decide) (by decide) ⟨(own_t (Or.inr ha11)).trans (own_i hz), N0, e2⟩
    · refine own_s (B := T2.setTop (mkF m 18 #[.val (.ref a1)] [])) (fun t k => Jvm.RoadKit.acmp (g := (mkF m 11 #[.val (.ref a1)] [(.ref (W (5 : Int32))), (.ref a1)])) X2 hx rfl rfl rfl (pc0 := 11) (pc' := 18) (same := false) rfl (hb hby d4_11) rfl (decide_eq_false fun q => ha11 (Value.ref.inj q)) (by decide) (by decide) k) ?_
      refine own_s (B := T2.setTop (mkF m 19 #[.val (.ref a1)] [(.int (0 : Int32))])) (fun t k => XS.iconst X2.here hx rfl (hb hby d4_18) k) ?_
      exact own_retB X2 hx hlk (t := .boolean) Bd.returns (by simp) (hb hby d4_19) (by decide) (by decide) ⟨(own_f (by simp only [ha4, ha11, or_false, not_false_eq_true])).trans (own_i hz), N0, e2⟩
theorem d5_0 : decode prog_48_method_9_code 0 = .ok (.aload_n 0, 1) := by decide +kernel
theorem d5_1 : decode prog_48_method_9_code 1 = .ok (.getstatic 13, 3) := by decide +kernel
theorem d5_4 : decode prog_48_method_9_code 4 = .ok (.if_acmp .eq 17, 3) := by decide +kernel
theorem d5_7 : decode prog_48_method_9_code 7 = .ok (.aload_n 0, 1) := by decide +kernel
theorem d5_8 : decode prog_48_method_9_code 8 = .ok (.getstatic 16, 3) := by decide +kernel
theorem d5_11 : decode prog_48_method_9_code 11 = .ok (.if_acmp .eq 10, 3) := by decide +kernel
theorem d5_14 : decode prog_48_method_9_code 14 = .ok (.aload_n 0, 1) := by decide +kernel
theorem d5_15 : decode prog_48_method_9_code 15 = .ok (.getstatic 19, 3) := by decide +kernel
theorem d5_18 : decode prog_48_method_9_code 18 = .ok (.if_acmp .ne 7, 3) := by decide +kernel
theorem d5_21 : decode prog_48_method_9_code 21 = .ok (.iconst 1, 1) := by decide +kernel
theorem d5_22 : decode prog_48_method_9_code 22 = .ok (.goto 4, 3) := by decide +kernel
theorem d5_25 : decode prog_48_method_9_code 25 = .ok (.iconst 0, 1) := by decide +kernel
theorem d5_26 : decode prog_48_method_9_code 26 = .ok (.ireturn, 1) := by decide +kernel
theorem ef_5 (m : MethodId) (x0 : Addr) : entryFrame m #[(.ref x0)] 1 = mkF m 0 #[.val (.ref x0)] [] := by first | (simp [entryFrame, mkF, argsToLocals, Value.category]; done) | rfl
def Q5 (Z : State) (a1 : Addr) (W : Int32 → Addr) (z : Int32) (h0 : Heap) (n0 : Nat) (v : Option Value) (h : Heap) (L : List Loc) : Prop := v = some (.int z) ∧ Fr n0 L ∧ h = h0
set_option maxRecDepth 65536 in
set_option maxHeartbeats 40000000 in
theorem rm5 (l : Launch) (Z : State) (a0 : Array Value) (hw : ∀ d ∈ tables_1, d.before a0 Z = true) (ws : List Jvm.Cond) (a1 : Addr) (W : Int32 → Addr) (z : Int32) (h0 : Heap) (n0 : Nat) (Z0 : n0 ≤ h0.size) (EW : WS Z h0 W) (hz : bz (a1 = W (3 : Int32) ∨ a1 = W (4 : Int32) ∨ a1 = W (5 : Int32)) = z) :
    MetFree l (⟨"com/example/formal_courier/formalcourier/crs/CrsDocumentTypeControls$DocumentType", "isTest", "()Z"⟩ : MethodName) (head1 (Jvm.Cond.code (⟨"com/example/formal_courier/formalcourier/crs/CrsDocumentTypeControls$DocumentType", "isTest", "()Z"⟩ : MethodName) prog_48_method_9_code 1 (some .boolean) :: ws) ({ frames := 0, cells := 0, slots := 0, locals := 0 } : Room)) (fun a U => a = #[(.ref a1)] ∧ Z.Warmed39 U.vm ∧ U.heap = h0) (fun _ _ _ _ _ => True) (fun _ U o U' => ∃ v L, o = .returned v ∧ Q5 Z a1 W z h0 n0 v U'.heap L ∧ FrameEnd U o U' L ({ frames := 0, cells := 0, slots := 0, locals := 0 } : Room).cells ({ frames := 0, cells := 0, slots := 0, locals := 0 } : Room).slots) := by
  refine MetFree.of_bodySF (plainFor_of_name pn_0) hisR ?_
  intro p e s m args below meth c s₁ Bd hml0 hP hK
  obtain ⟨rfl, hZ, hh⟩ := hP
  have hx := Bd.exec
  have hby := Bd.bytes
  have hlk : meth.locks = false := BodyLoose.notSynchronized Bd
  have hml : c.maxLocals = 1 := hml0
  have hown : s.vm.findClass "com/example/formal_courier/formalcourier/crs/CrsDocumentTypeControls$DocumentType" = some m.cls := findClass_of_methodNamed Bd.named
  have hnm := (name_of_methodNamed Bd.named Bd.method).1
  have X0 : Stand p l e ({ frames := 0, cells := 0, slots := 0, locals := 0 } : Room) s m #[(.ref a1)] below meth c s₁ [] 0 0 := Stand.of_body Bd
  have e0 : s₁.heap = h0 := by rw [← hh, Bd.state]; rfl
  have N0 := Fr.nil n0
  show Go p e below (Kf s (Q5 Z a1 W z h0 n0) ({ frames := 0, cells := 0, slots := 0, locals := 0 } : Room).cells ({ frames := 0, cells := 0, slots := 0, locals := 0 } : Room).slots) (s₁.setTop (entryFrame m #[(.ref a1)] 1))
  refine own_s (B := s₁.setTop (mkF m 0 #[.val (.ref a1)] [])) (fun t k => castTop (ef_5 m a1) k) ?_
  refine own_s (B := s₁.setTop (mkF m 1 #[.val (.ref a1)] [(.ref a1)])) (fun t k => XS.aloadN X0.here hx rfl (hb hby d5_0) rfl rfl k) ?_
  obtain ⟨T1, X1, e1, st1⟩ := getS2 X0 hx hZ hown (host := "") (Or.inl (hw _ (List.mem_of_getElem? (i := 49) rfl))) Via.refl e0 EW.2.2.2.1 (g := (mkF m 1 #[.val (.ref a1)] [(.ref a1)])) rfl (hb hby d5_1)
  refine own_s (B := T1.setTop (mkF m 4 #[.val (.ref a1)] [(.ref (W (3 : Int32))), (.ref a1)])) st1 ?_
  by_cases ha4 : a1 = (W (3 : Int32))
  · refine own_s (B := T1.setTop (mkF m 21 #[.val (.ref a1)] [])) (fun t k => Jvm.RoadKit.acmp (g := (mkF m 4 #[.val (.ref a1)] [(.ref (W (3 : Int32))), (.ref a1)])) X1 hx rfl rfl rfl (pc0 := 4) (pc' := 21) (same := true) rfl (hb hby d5_4) rfl (decide_eq_true (congrArg Value.ref ha4)) (by decide) (by decide) k) ?_
    refine own_s (B := T1.setTop (mkF m 22 #[.val (.ref a1)] [(.int (1 : Int32))])) (fun t k => XS.iconst X1.here hx rfl (hb hby d5_21) k) ?_
    refine own_s (B := T1.setTop (mkF m 26 #[.val (.ref a1)] [(.int (1 : Int32))])) (fun t k => XS.goto X1.here hx rfl (pc0 := 22) (pc' := 26) rfl (hb hby d5_22) (by decide) (by decide) k) ?_
    exact own_retB X1 hx hlk (t := .boolean) Bd.returns (by simp) (hb hby d5_26) (by decide) (by decide) ⟨(own_t (Or.inl ha4)).trans (own_i hz), N0, e1⟩
  · refine own_s (B := T1.setTop (mkF m 7 #[.val (.ref a1)] [])) (fun t k => Jvm.RoadKit.acmp (g := (mkF m 4 #[.val (.ref a1)] [(.ref (W (3 : Int32))), (.ref a1)])) X1 hx rfl rfl rfl (pc0 := 4) (pc' := 7) (same := false) rfl (hb hby d5_4) rfl (decide_eq_false fun q => ha4 (Value.ref.inj q)) (by decide) (by decide) k) ?_
    refine own_s (B := T1.setTop (mkF m 8 #[.val (.ref a1)] [(.ref a1)])) (fun t k => XS.aloadN X1.here hx rfl (hb hby d5_7) rfl rfl k) ?_
    obtain ⟨T2, X2, e2, st2⟩ := getS2 X1 hx hZ hown (host := "") (Or.inl (hw _ (List.mem_of_getElem? (i := 26) rfl))) Via.refl e1 EW.2.2.2.2.1 (g := (mkF m 8 #[.val (.ref a1)] [(.ref a1)])) rfl (hb hby d5_8)
    refine own_s (B := T2.setTop (mkF m 11 #[.val (.ref a1)] [(.ref (W (4 : Int32))), (.ref a1)])) st2 ?_
    by_cases ha11 : a1 = (W (4 : Int32))
    · refine own_s (B := T2.setTop (mkF m 21 #[.val (.ref a1)] [])) (fun t k => Jvm.RoadKit.acmp (g := (mkF m 11 #[.val (.ref a1)] [(.ref (W (4 : Int32))), (.ref a1)])) X2 hx rfl rfl rfl (pc0 := 11) (pc' := 21) (same := true) rfl (hb hby d5_11) rfl (decide_eq_true (congrArg Value.ref ha11)) (by decide) (by decide) k) ?_
      refine own_s (B := T2.setTop (mkF m 22 #[.val (.ref a1)] [(.int (1 : Int32))])) (fun t k => XS.iconst X2.here hx rfl (hb hby d5_21) k) ?_
      refine own_s (B := T2.setTop (mkF m 26 #[.val (.ref a1)] [(.int (1 : Int32))])) (fun t k => XS.goto X2.here hx rfl (pc0 := 22) (pc' := 26) rfl (hb hby d5_22) (by decide) (by decide) k) ?_
      exact own_retB X2 hx hlk (t := .boolean) Bd.returns (by simp) (hb hby d5_26) (by decide) (by decide) ⟨(own_t (Or.inr (Or.inl ha11))).trans (own_i hz), N0, e2⟩
    · refine own_s (B := T2.setTop (mkF m 14 #[.val (.ref a1)] [])) (fun t k => Jvm.RoadKit.acmp (g := (mkF m 11 #[.val (.ref a1)] [(.ref (W (4 : Int32))), (.ref a1)])) X2 hx rfl rfl rfl (pc0 := 11) (pc' := 14) (same := false) rfl (hb hby d5_11) rfl (decide_eq_false fun q => ha11 (Value.ref.inj q)) (by decide) (by decide) k) ?_
      refine own_s (B := T2.setTop (mkF m 15 #[.val (.ref a1)] [(.ref a1)])) (fun t k => XS.aloadN X2.here hx rfl (hb hby d5_14) rfl rfl k) ?_
      obtain ⟨T3, X3, e3, st3⟩ := getS2 X2 hx hZ hown (host := "") (Or.inl (hw _ (List.mem_of_getElem? (i := 27) rfl))) Via.refl e2 EW.2.2.2.2.2.1 (g := (mkF m 15 #[.val (.ref a1)] [(.ref a1)])) rfl (hb hby d5_15)
      refine own_s (B := T3.setTop (mkF m 18 #[.val (.ref a1)] [(.ref (W (5 : Int32))), (.ref a1)])) st3 ?_
      by_cases ha18 : a1 = (W (5 : Int32))
      · refine own_s (B := T3.setTop (mkF m 21 #[.val (.ref a1)] [])) (fun t k => Jvm.RoadKit.acmp (g := (mkF m 18 #[.val (.ref a1)] [(.ref (W (5 : Int32))), (.ref a1)])) X3 hx rfl rfl rfl (pc0 := 18) (pc' := 21) (same := true) rfl (hb hby d5_18) rfl (decide_eq_true (congrArg Value.ref ha18)) (by decide) (by decide) k) ?_
        refine own_s (B := T3.setTop (mkF m 22 #[.val (.ref a1)] [(.int (1 : Int32))])) (fun t k => XS.iconst X3.here hx rfl (hb hby d5_21) k) ?_
        refine own_s (B := T3.setTop (mkF m 26 #[.val (.ref a1)] [(.int (1 : Int32))])) (fun t k => XS.goto X3.here hx rfl (pc0 := 22) (pc' := 26) rfl (hb hby d5_22) (by decide) (by decide) k) ?_
        exact own_retB X3 hx hlk (t := .boolean) Bd.returns (by simp) (hb hby d5_26) (by decide) (by decide) ⟨(own_t (Or.inr (Or.inr ha18))).trans (own_i hz), N0, e3⟩
      · refine own_s (B := T3.setTop (mkF m 25 #[.val (.ref a1)] [])) (fun t k => Jvm.RoadKit.acmp (g := (mkF m 18 #[.val (.ref a1)] [(.ref (W (5 : Int32))), (.ref a1)])) X3 hx rfl rfl rfl (pc0 := 18) (pc' := 25) (same := false) rfl (hb hby d5_18) rfl (decide_eq_false fun q => ha18 (Value.ref.inj q)) (by decide) (by decide) k) ?_
        refine own_s (B := T3.setTop (mkF m 26 #[.val (.ref a1)] [(.int (0 : Int32))])) (fun t k => XS.iconst X3.here hx rfl (hb hby d5_25) k) ?_
        exact own_retB X3 hx hlk (t := .boolean) Bd.returns (by simp) (hb hby d5_26) (by decide) (by decide) ⟨(own_f (by simp only [ha4, ha11, ha18, or_false, not_false_eq_true])).trans (own_i hz), N0, e3⟩
theorem pd_0 : parseMethodDescriptor "()Z" = some ⟨[], some .boolean⟩ := by decide +kernel
theorem pn_1 : plainName "com/example/formal_courier/formalcourier/crs/DocumentTypeIsReplacementPinLaw" = true := by first | (simp [plainName, overriddenIn]; done) | decide +kernel
theorem ef_0 (m : MethodId) (x0 : Int32) : entryFrame m #[(.int x0)] maxLocals = mkF m 0 #[.val (.int x0), .unset, .unset, .unset, .unset, .unset, .unset, .unset] [] := by first | (simp [entryFrame, mkF, argsToLocals, Value.category, maxLocals]; done) | rfl
def Q0 (Z : State) (p1 : Int32) (W : Int32 → Addr) (h0 : Heap) (n0 : Nat) (v : Option Value) (h : Heap) (L : List Loc) : Prop := v = some (.int 1) ∧ Fr n0 L
set_option maxRecDepth 65536 in
set_option maxHeartbeats 40000000 in
theorem rm0 (l : Launch) (Z : State) (a0 : Array Value) (hw : ∀ d ∈ tables_1, d.before a0 Z = true) (ws : List Jvm.Cond) (p1 : Int32) (W : Int32 → Addr) (h0 : Heap) (n0 : Nat) (Z0 : n0 ≤ h0.size) (EW : WS Z h0 W) (XW : ∀ i : Int32, 0 ≤ i.toInt → i.toInt ≤ 6 → Exa Z h0 (W i) "com/example/formal_courier/formalcourier/crs/CrsDocumentTypeControls$DocumentType") (IW : ∀ i j : Int32, 0 ≤ i.toInt → i.toInt ≤ 6 → 0 ≤ j.toInt → j.toInt ≤ 6 → W i = W j → i = j) :
    MetFree l x (head1 (Jvm.Cond.code x code maxLocals ret :: ws) room_1) (fun a U => a = #[(.int p1)] ∧ Z.Warmed39 U.vm ∧ U.heap = h0) (fun _ _ _ _ _ => True) (fun _ U o U' => ∃ v L, o = .returned v ∧ Q0 Z p1 W h0 n0 v U'.heap L ∧ FrameEnd U o U' L room_1.cells room_1.slots) := by
  refine MetFree.of_bodySF (plainFor_of_name pn_1) hisR ?_
  intro p e s m args below meth c s₁ Bd hml0 hP hK
  obtain ⟨rfl, hZ, hh⟩ := hP
  have hx := Bd.exec
  have hby := Bd.bytes
  have hlk : meth.locks = false := BodyLoose.notSynchronized Bd
  have hml : c.maxLocals = 8 := hml0
  have hown : s.vm.findClass "com/example/formal_courier/formalcourier/crs/DocumentTypeIsReplacementPinLaw" = some m.cls := findClass_of_methodNamed Bd.named
  have hnm := (name_of_methodNamed Bd.named Bd.method).1
  have X0 : Stand p l e room_1 s m #[(.int p1)] below meth c s₁ [] 0 0 := Stand.of_body Bd
  have e0 : s₁.heap = h0 := by rw [← hh, Bd.state]; rfl
  have N0 := Fr.nil n0
  show Go p e below (Kf s (Q0 Z p1 W h0 n0) room_1.cells room_1.slots) (s₁.setTop (entryFrame m #[(.int p1)] maxLocals))
  refine own_s (B := s₁.setTop (mkF m 0 #[.val (.int p1), .unset, .unset, .unset, .unset, .unset, .unset, .unset] [])) (fun t k => castTop (ef_0 m p1) k) ?_
  refine own_s (B := s₁.setTop (mkF m 2 #[.val (.int p1), .unset, .unset, .unset, .unset, .unset, .unset, .unset] [(.int (7 : Int32))])) (fun t k => XS.bipush X0.here hx rfl (hb hby at_0) k) ?_
  obtain ⟨T1, h1, k1, X1, e1, E1, A1, O1, st1⟩ := newR X0 hx hZ hown (hw _ (List.mem_of_getElem? (i := 0) rfl)) (hw _ (List.mem_of_getElem? (i := 1) rfl)) e0 (g := (mkF m 2 #[.val (.int p1), .unset, .unset, .unset, .unset, .unset, .unset, .unset] [(.int (7 : Int32))])) rfl (hb hby at_2) rfl (by decide) (cap := 7) (by decide) (by decide) (by decide) (by decide)
  obtain ⟨b1, g1⟩ : ∃ z, z = h0.size := ⟨_, rfl⟩
  rw [← g1] at A1 st1
  have sz_b1 : h0.size ≤ b1 := (Nat.le_trans (own_ext0 h0).1 (Nat.le_of_eq g1.symm))
  have g_b1 : n0 ≤ b1 := Nat.le_trans Z0 sz_b1
  have EX : Ext h0 h1 := own_extt (own_ext0 h0) E1
  have V_b1 : Arv Z h1 b1 k1 (.object "com/example/formal_courier/formalcourier/crs/CrsDocumentTypeControls$DocumentType") (7 : Int32) [.null, .null, .null, .null, .null, .null, .null] .null := (Arv.new A1 (by decide)).pad (pad_rep [] .null 7)
  refine own_s (B := T1.setTop (mkF m 5 #[.val (.int p1), .unset, .unset, .unset, .unset, .unset, .unset, .unset] [(.ref b1)])) st1 ?_
  refine own_s (B := T1.setTop (mkF m 6 #[.val (.int p1), .unset, .unset, .unset, .unset, .unset, .unset, .unset] [(.ref b1), (.ref b1)])) (fun t k => XS.dup X1.here hx rfl (hb hby at_5) rfl rfl k) ?_
  refine own_s (B := T1.setTop (mkF m 7 #[.val (.int p1), .unset, .unset, .unset, .unset, .unset, .unset, .unset] [(.int (0 : Int32)), (.ref b1), (.ref b1)])) (fun t k => XS.iconst X1.here hx rfl (hb hby at_6) k) ?_
  obtain ⟨T2, X2, e2, st2⟩ := getS2 X1 hx hZ hown (host := "") (Or.inl (hw _ (List.mem_of_getElem? (i := 2) rfl))) Via.refl e1 (EW.1.ext EX) (g := (mkF m 7 #[.val (.int p1), .unset, .unset, .unset, .unset, .unset, .unset, .unset] [(.int (0 : Int32)), (.ref b1), (.ref b1)])) rfl (hb hby at_7)
  refine own_s (B := T2.setTop (mkF m 10 #[.val (.int p1), .unset, .unset, .unset, .unset, .unset, .unset, .unset] [(.ref (W (0 : Int32))), (.int (0 : Int32)), (.ref b1), (.ref b1)])) st2 ?_
  obtain ⟨cl3, Ar3, q3, Sz3, Nn3, Hs3, G3⟩ := id V_b1
  have hin3 : ¬ ((0 : Int32) < 0 ∨ cl3.slots.size ≤ ((0 : Int32)).toNatClampNeg) := inb_of Sz3 ⟨by decide, by decide⟩
  obtain ⟨T3, h3, X3, e3, W3, st3⟩ := stR X2 hx hZ e2 Ar3 (j := (0 : Int32)) hin3 rfl (Sto.ofV Ar3 q3 O1 (Ins.self ((XW (0 : Int32) (by decide) (by decide)).ext EX))) (g := (mkF m 10 #[.val (.int p1), .unset, .unset, .unset, .unset, .unset, .unset, .unset] [(.ref (W (0 : Int32))), (.int (0 : Int32)), (.ref b1), (.ref b1)])) rfl rfl (hb hby at_10)
  replace V_b1 : Arv Z h3 b1 k1 (.object "com/example/formal_courier/formalcourier/crs/CrsDocumentTypeControls$DocumentType") (7 : Int32) [(.ref (W (0 : Int32))), .null, .null, .null, .null, .null, .null] .null := Arv.set Ar3 q3 Sz3 Nn3 Hs3 G3 rfl W3 0 rfl (Nat.le_of_ble_eq_true rfl)
  have EX : Ext h0 h3 := own_extw EX W3 sz_b1
  have N3 := Fr.snoc X3 N0 g_b1
  refine own_s (B := T3.setTop (mkF m 11 #[.val (.int p1), .unset, .unset, .unset, .unset, .unset, .unset, .unset] [(.ref b1)])) st3 ?_
  refine own_s (B := T3.setTop (mkF m 12 #[.val (.int p1), .unset, .unset, .unset, .unset, .unset, .unset, .unset] [(.ref b1), (.ref b1)])) (fun t k => XS.dup X3.here hx rfl (hb hby at_11) rfl rfl k) ?_
  refine own_s (B := T3.setTop (mkF m 13 #[.val (.int p1), .unset, .unset, .unset, .unset, .unset, .unset, .unset] [(.int (1 : Int32)), (.ref b1), (.ref b1)])) (fun t k => XS.iconst X3.here hx rfl (hb hby at_12) k) ?_
  obtain ⟨T4, X4, e4, st4⟩ := getS2 X3 hx hZ hown (host := "") (Or.inl (hw _ (List.mem_of_getElem? (i := 6) rfl))) Via.refl e3 (EW.2.1.ext EX) (g := (mkF m 13 #[.val (.int p1), .unset, .unset, .unset, .unset, .unset, .unset, .unset] [(.int (1 : Int32)), (.ref b1), (.ref b1)])) rfl (hb hby at_13)
  refine own_s (B := T4.setTop (mkF m 16 #[.val (.int p1), .unset, .unset, .unset, .unset, .unset, .unset, .unset] [(.ref (W (1 : Int32))), (.int (1 : Int32)), (.ref b1), (.ref b1)])) st4 ?_
  obtain ⟨cl5, Ar5, q5, Sz5, Nn5, Hs5, G5⟩ := id V_b1
  have hin5 : ¬ ((1 : Int32) < 0 ∨ cl5.slots.size ≤ ((1 : Int32)).toNatClampNeg) := inb_of Sz5 ⟨by decide, by decide⟩
  obtain ⟨T5, h5, X5, e5, W5, st5⟩ := stR X4 hx hZ e4 Ar5 (j := (1 : Int32)) hin5 rfl (Sto.ofV Ar5 q5 O1 (Ins.self ((XW (1 : Int32) (by decide) (by decide)).ext EX))) (g := (mkF m 16 #[.val (.int p1), .unset, .unset, .unset, .unset, .unset, .unset, .unset] [(.ref (W (1 : Int32))), (.int (1 : Int32)), (.ref b1), (.ref b1)])) rfl rfl (hb hby at_16)
  replace V_b1 : Arv Z h5 b1 k1 (.object "com/example/formal_courier/formalcourier/crs/CrsDocumentTypeControls$DocumentType") (7 : Int32) [(.ref (W (0 : Int32))), (.ref (W (1 : Int32))), .null, .null, .null, .null, .null] .null := Arv.set Ar5 q5 Sz5 Nn5 Hs5 G5 rfl W5 1 rfl (Nat.le_of_ble_eq_true rfl)
  have EX : Ext h0 h5 := own_extw EX W5 sz_b1
  have N5 := Fr.snoc X5 N3 g_b1
  refine own_s (B := T5.setTop (mkF m 17 #[.val (.int p1), .unset, .unset, .unset, .unset, .unset, .unset, .unset] [(.ref b1)])) st5 ?_
  refine own_s (B := T5.setTop (mkF m 18 #[.val (.int p1), .unset, .unset, .unset, .unset, .unset, .unset, .unset] [(.ref b1), (.ref b1)])) (fun t k => XS.dup X5.here hx rfl (hb hby at_17) rfl rfl k) ?_
  refine own_s (B := T5.setTop (mkF m 19 #[.val (.int p1), .unset, .unset, .unset, .unset, .unset, .unset, .unset] [(.int (2 : Int32)), (.ref b1), (.ref b1)])) (fun t k => XS.iconst X5.here hx rfl (hb hby at_18) k) ?_
  obtain ⟨T6, X6, e6, st6⟩ := getS2 X5 hx hZ hown (host := "") (Or.inl (hw _ (List.mem_of_getElem? (i := 8) rfl))) Via.refl e5 (EW.2.2.1.ext EX) (g := (mkF m 19 #[.val (.int p1), .unset, .unset, .unset, .unset, .unset, .unset, .unset] [(.int (2 : Int32)), (.ref b1), (.ref b1)])) rfl (hb hby at_19)
  refine own_s (B := T6.setTop (mkF m 22 #[.val (.int p1), .unset, .unset, .unset, .unset, .unset, .unset, .unset] [(.ref (W (2 : Int32))), (.int (2 : Int32)), (.ref b1), (.ref b1)])) st6 ?_
  obtain ⟨cl7, Ar7, q7, Sz7, Nn7, Hs7, G7⟩ := id V_b1
  have hin7 : ¬ ((2 : Int32) < 0 ∨ cl7.slots.size ≤ ((2 : Int32)).toNatClampNeg) := inb_of Sz7 ⟨by decide, by decide⟩
  obtain ⟨T7, h7, X7, e7, W7, st7⟩ := stR X6 hx hZ e6 Ar7 (j := (2 : Int32)) hin7 rfl (Sto.ofV Ar7 q7 O1 (Ins.self ((XW (2 : Int32) (by decide) (by decide)).ext EX))) (g := (mkF m 22 #[.val (.int p1), .unset, .unset, .unset, .unset, .unset, .unset, .unset] [(.ref (W (2 : Int32))), (.int (2 : Int32)), (.ref b1), (.ref b1)])) rfl rfl (hb hby at_22)
  replace V_b1 : Arv Z h7 b1 k1 (.object "com/example/formal_courier/formalcourier/crs/CrsDocumentTypeControls$DocumentType") (7 : Int32) [(.ref (W (0 : Int32))), (.ref (W (1 : Int32))), (.ref (W (2 : Int32))), .null, .null, .null, .null] .null := Arv.set Ar7 q7 Sz7 Nn7 Hs7 G7 rfl W7 2 rfl (Nat.le_of_ble_eq_true rfl)
  have EX : Ext h0 h7 := own_extw EX W7 sz_b1
  have N7 := Fr.snoc X7 N5 g_b1
  refine own_s (B := T7.setTop (mkF m 23 #[.val (.int p1), .unset, .unset, .unset, .unset, .unset, .unset, .unset] [(.ref b1)])) st7 ?_
  refine own_s (B := T7.setTop (mkF m 24 #[.val (.int p1), .unset, .unset, .unset, .unset, .unset, .unset, .unset] [(.ref b1), (.ref b1)])) (fun t k => XS.dup X7.here hx rfl (hb hby at_23) rfl rfl k) ?_
  refine own_s (B := T7.setTop (mkF m 25 #[.val (.int p1), .unset, .unset, .unset, .unset, .unset, .unset, .unset] [(.int (3 : Int32)), (.ref b1), (.ref b1)])) (fun t k => XS.iconst X7.here hx rfl (hb hby at_24) k) ?_
  obtain ⟨T8, X8, e8, st8⟩ := getS2 X7 hx hZ hown (host := "") (Or.inl (hw _ (List.mem_of_getElem? (i := 10) rfl))) Via.refl e7 (EW.2.2.2.1.ext EX) (g := (mkF m 25 #[.val (.int p1), .unset, .unset, .unset, .unset, .unset, .unset, .unset] [(.int (3 : Int32)), (.ref b1), (.ref b1)])) rfl (hb hby at_25)
  refine own_s (B := T8.setTop (mkF m 28 #[.val (.int p1), .unset, .unset, .unset, .unset, .unset, .unset, .unset] [(.ref (W (3 : Int32))), (.int (3 : Int32)), (.ref b1), (.ref b1)])) st8 ?_
  obtain ⟨cl9, Ar9, q9, Sz9, Nn9, Hs9, G9⟩ := id V_b1
  have hin9 : ¬ ((3 : Int32) < 0 ∨ cl9.slots.size ≤ ((3 : Int32)).toNatClampNeg) := inb_of Sz9 ⟨by decide, by decide⟩
  obtain ⟨T9, h9, X9, e9, W9, st9⟩ := stR X8 hx hZ e8 Ar9 (j := (3 : Int32)) hin9 rfl (Sto.ofV Ar9 q9 O1 (Ins.self ((XW (3 : Int32) (by decide) (by decide)).ext EX))) (g := (mkF m 28 #[.val (.int p1), .unset, .unset, .unset, .unset, .unset, .unset, .unset] [(.ref (W (3 : Int32))), (.int (3 : Int32)), (.ref b1), (.ref b1)])) rfl rfl (hb hby at_28)
  replace V_b1 : Arv Z h9 b1 k1 (.object "com/example/formal_courier/formalcourier/crs/CrsDocumentTypeControls$DocumentType") (7 : Int32) [(.ref (W (0 : Int32))), (.ref (W (1 : Int32))), (.ref (W (2 : Int32))), (.ref (W (3 : Int32))), .null, .null, .null] .null := Arv.set Ar9 q9 Sz9 Nn9 Hs9 G9 rfl W9 3 rfl (Nat.le_of_ble_eq_true rfl)
  have EX : Ext h0 h9 := own_extw EX W9 sz_b1
  have N9 := Fr.snoc X9 N7 g_b1
  refine own_s (B := T9.setTop (mkF m 29 #[.val (.int p1), .unset, .unset, .unset, .unset, .unset, .unset, .unset] [(.ref b1)])) st9 ?_
  refine own_s (B := T9.setTop (mkF m 30 #[.val (.int p1), .unset, .unset, .unset, .unset, .unset, .unset, .unset] [(.ref b1), (.ref b1)])) (fun t k => XS.dup X9.here hx rfl (hb hby at_29) rfl rfl k) ?_
  refine own_s (B := T9.setTop (mkF m 31 #[.val (.int p1), .unset, .unset, .unset, .unset, .unset, .unset, .unset] [(.int (4 : Int32)), (.ref b1), (.ref b1)])) (fun t k => XS.iconst X9.here hx rfl (hb hby at_30) k) ?_
  obtain ⟨T10, X10, e10, st10⟩ := getS2 X9 hx hZ hown (host := "") (Or.inl (hw _ (List.mem_of_getElem? (i := 12) rfl))) Via.refl e9 (EW.2.2.2.2.1.ext EX) (g := (mkF m 31 #[.val (.int p1), .unset, .unset, .unset, .unset, .unset, .unset, .unset] [(.int (4 : Int32)), (.ref b1), (.ref b1)])) rfl (hb hby at_31)
  refine own_s (B := T10.setTop (mkF m 34 #[.val (.int p1), .unset, .unset, .unset, .unset, .unset, .unset, .unset] [(.ref (W (4 : Int32))), (.int (4 : Int32)), (.ref b1), (.ref b1)])) st10 ?_
  obtain ⟨cl11, Ar11, q11, Sz11, Nn11, Hs11, G11⟩ := id V_b1
  have hin11 : ¬ ((4 : Int32) < 0 ∨ cl11.slots.size ≤ ((4 : Int32)).toNatClampNeg) := inb_of Sz11 ⟨by decide, by decide⟩
  obtain ⟨T11, h11, X11, e11, W11, st11⟩ := stR X10 hx hZ e10 Ar11 (j := (4 : Int32)) hin11 rfl (Sto.ofV Ar11 q11 O1 (Ins.self ((XW (4 : Int32) (by decide) (by decide)).ext EX))) (g := (mkF m 34 #[.val (.int p1), .unset, .unset, .unset, .unset, .unset, .unset, .unset] [(.ref (W (4 : Int32))), (.int (4 : Int32)), (.ref b1), (.ref b1)])) rfl rfl (hb hby at_34)
  replace V_b1 : Arv Z h11 b1 k1 (.object "com/example/formal_courier/formalcourier/crs/CrsDocumentTypeControls$DocumentType") (7 : Int32) [(.ref (W (0 : Int32))), (.ref (W (1 : Int32))), (.ref (W (2 : Int32))), (.ref (W (3 : Int32))), (.ref (W (4 : Int32))), .null, .null] .null := Arv.set Ar11 q11 Sz11 Nn11 Hs11 G11 rfl W11 4 rfl (Nat.le_of_ble_eq_true rfl)
  have EX : Ext h0 h11 := own_extw EX W11 sz_b1
  have N11 := Fr.snoc X11 N9 g_b1
  refine own_s (B := T11.setTop (mkF m 35 #[.val (.int p1), .unset, .unset, .unset, .unset, .unset, .unset, .unset] [(.ref b1)])) st11 ?_
  refine own_s (B := T11.setTop (mkF m 36 #[.val (.int p1), .unset, .unset, .unset, .unset, .unset, .unset, .unset] [(.ref b1), (.ref b1)])) (fun t k => XS.dup X11.here hx rfl (hb hby at_35) rfl rfl k) ?_
  refine own_s (B := T11.setTop (mkF m 37 #[.val (.int p1), .unset, .unset, .unset, .unset, .unset, .unset, .unset] [(.int (5 : Int32)), (.ref b1), (.ref b1)])) (fun t k => XS.iconst X11.here hx rfl (hb hby at_36) k) ?_
  obtain ⟨T12, X12, e12, st12⟩ := getS2 X11 hx hZ hown (host := "") (Or.inl (hw _ (List.mem_of_getElem? (i := 14) rfl))) Via.refl e11 (EW.2.2.2.2.2.1.ext EX) (g := (mkF m 37 #[.val (.int p1), .unset, .unset, .unset, .unset, .unset, .unset, .unset] [(.int (5 : Int32)), (.ref b1), (.ref b1)])) rfl (hb hby at_37)
  refine own_s (B := T12.setTop (mkF m 40 #[.val (.int p1), .unset, .unset, .unset, .unset, .unset, .unset, .unset] [(.ref (W (5 : Int32))), (.int (5 : Int32)), (.ref b1), (.ref b1)])) st12 ?_
  obtain ⟨cl13, Ar13, q13, Sz13, Nn13, Hs13, G13⟩ := id V_b1
  have hin13 : ¬ ((5 : Int32) < 0 ∨ cl13.slots.size ≤ ((5 : Int32)).toNatClampNeg) := inb_of Sz13 ⟨by decide, by decide⟩
  obtain ⟨T13, h13, X13, e13, W13, st13⟩ := stR X12 hx hZ e12 Ar13 (j := (5 : Int32)) hin13 rfl (Sto.ofV Ar13 q13 O1 (Ins.self ((XW (5 : Int32) (by decide) (by decide)).ext EX))) (g := (mkF m 40 #[.val (.int p1), .unset, .unset, .unset, .unset, .unset, .unset, .unset] [(.ref (W (5 : Int32))), (.int (5 : Int32)), (.ref b1), (.ref b1)])) rfl rfl (hb hby at_40)
  replace V_b1 : Arv Z h13 b1 k1 (.object "com/example/formal_courier/formalcourier/crs/CrsDocumentTypeControls$DocumentType") (7 : Int32) [(.ref (W (0 : Int32))), (.ref (W (1 : Int32))), (.ref (W (2 : Int32))), (.ref (W (3 : Int32))), (.ref (W (4 : Int32))), (.ref (W (5 : Int32))), .null] .null := Arv.set Ar13 q13 Sz13 Nn13 Hs13 G13 rfl W13 5 rfl (Nat.le_of_ble_eq_true rfl)
  have EX : Ext h0 h13 := own_extw EX W13 sz_b1
  have N13 := Fr.snoc X13 N11 g_b1
  refine own_s (B := T13.setTop (mkF m 41 #[.val (.int p1), .unset, .unset, .unset, .unset, .unset, .unset, .unset] [(.ref b1)])) st13 ?_
  refine own_s (B := T13.setTop (mkF m 42 #[.val (.int p1), .unset, .unset, .unset, .unset, .unset, .unset, .unset] [(.ref b1), (.ref b1)])) (fun t k => XS.dup X13.here hx rfl (hb hby at_41) rfl rfl k) ?_
  refine own_s (B := T13.setTop (mkF m 44 #[.val (.int p1), .unset, .unset, .unset, .unset, .unset, .unset, .unset] [(.int (6 : Int32)), (.ref b1), (.ref b1)])) (fun t k => XS.bipush X13.here hx rfl (hb hby at_42) k) ?_
  obtain ⟨T14, X14, e14, st14⟩ := getS2 X13 hx hZ hown (host := "") (Or.inl (hw _ (List.mem_of_getElem? (i := 16) rfl))) Via.refl e13 (EW.2.2.2.2.2.2.ext EX) (g := (mkF m 44 #[.val (.int p1), .unset, .unset, .unset, .unset, .unset, .unset, .unset] [(.int (6 : Int32)), (.ref b1), (.ref b1)])) rfl (hb hby at_44)
  refine own_s (B := T14.setTop (mkF m 47 #[.val (.int p1), .unset, .unset, .unset, .unset, .unset, .unset, .unset] [(.ref (W (6 : Int32))), (.int (6 : Int32)), (.ref b1), (.ref b1)])) st14 ?_
  obtain ⟨cl15, Ar15, q15, Sz15, Nn15, Hs15, G15⟩ := id V_b1
  have hin15 : ¬ ((6 : Int32) < 0 ∨ cl15.slots.size ≤ ((6 : Int32)).toNatClampNeg) := inb_of Sz15 ⟨by decide, by decide⟩
  obtain ⟨T15, h15, X15, e15, W15, st15⟩ := stR X14 hx hZ e14 Ar15 (j := (6 : Int32)) hin15 rfl (Sto.ofV Ar15 q15 O1 (Ins.self ((XW (6 : Int32) (by decide) (by decide)).ext EX))) (g := (mkF m 47 #[.val (.int p1), .unset, .unset, .unset, .unset, .unset, .unset, .unset] [(.ref (W (6 : Int32))), (.int (6 : Int32)), (.ref b1), (.ref b1)])) rfl rfl (hb hby at_47)
  replace V_b1 : Arv Z h15 b1 k1 (.object "com/example/formal_courier/formalcourier/crs/CrsDocumentTypeControls$DocumentType") (7 : Int32) [(.ref (W (0 : Int32))), (.ref (W (1 : Int32))), (.ref (W (2 : Int32))), (.ref (W (3 : Int32))), (.ref (W (4 : Int32))), (.ref (W (5 : Int32))), (.ref (W (6 : Int32)))] .null := Arv.set Ar15 q15 Sz15 Nn15 Hs15 G15 rfl W15 6 rfl (Nat.le_of_ble_eq_true rfl)
  have EX : Ext h0 h15 := own_extw EX W15 sz_b1
  have N15 := Fr.snoc X15 N13 g_b1
  refine own_s (B := T15.setTop (mkF m 48 #[.val (.int p1), .unset, .unset, .unset, .unset, .unset, .unset, .unset] [(.ref b1)])) st15 ?_
  refine own_s (B := T15.setTop (mkF m 49 #[.val (.int p1), .val (.ref b1), .unset, .unset, .unset, .unset, .unset, .unset] [])) (fun t k => XS.astoreN X15.here hx rfl (hb hby at_48) rfl rfl (l' := #[.val (.int p1), .val (.ref b1), .unset, .unset, .unset, .unset, .unset, .unset]) rfl k) ?_
  refine own_s (B := T15.setTop (mkF m 50 #[.val (.int p1), .val (.ref b1), .unset, .unset, .unset, .unset, .unset, .unset] [(.int p1)])) (fun t k => XS.iloadN X15.here hx rfl (hb hby at_49) rfl k) ?_
  refine own_s (B := T15.setTop (mkF m 52 #[.val (.int p1), .val (.ref b1), .unset, .unset, .unset, .unset, .unset, .unset] [(.int (2147483647 : Int32)), (.int p1)])) (fun t k => X15.ldcInt hx hown (mvT hZ (hw _ (List.mem_of_getElem? (i := 18) rfl))) (g := (mkF m 50 #[.val (.int p1), .val (.ref b1), .unset, .unset, .unset, .unset, .unset, .unset] [(.int p1)])) rfl (hb hby at_50) t k) ?_
  refine own_s (B := T15.setTop (mkF m 53 #[.val (.int p1), .val (.ref b1), .unset, .unset, .unset, .unset, .unset, .unset] [(.int (p1 &&& (2147483647 : Int32)))])) (fun t k => XS.iand X15.here hx rfl (hb hby at_52) rfl k) ?_
  refine own_s (B := T15.setTop (mkF m 55 #[.val (.int p1), .val (.ref b1), .unset, .unset, .unset, .unset, .unset, .unset] [(.int (7 : Int32)), (.int (p1 &&& (2147483647 : Int32)))])) (fun t k => XS.bipush X15.here hx rfl (hb hby at_53) k) ?_
  refine own_s (B := T15.setTop (mkF m 56 #[.val (.int p1), .val (.ref b1), .unset, .unset, .unset, .unset, .unset, .unset] [(.int ((p1 &&& (2147483647 : Int32)) % (7 : Int32)))])) (fun t k => iremM X15 hx rfl (hb hby at_55) rfl (by decide : (7 : Int32) ≠ 0) k) ?_
  have hkk := own_rg_0_6 (own_m p1).1 (own_m p1).2
  generalize ((p1 &&& (2147483647 : Int32)) % (7 : Int32)) = k at hkk ⊢
  rcases hkk with rfl | rfl | rfl | rfl | rfl | rfl | rfl
  · refine own_s (B := T15.setTop (mkF m 57 #[.val (.int p1), .val (.ref b1), .val (.int (0 : Int32)), .unset, .unset, .unset, .unset, .unset] [])) (fun t k => XS.istoreN X15.here hx rfl (hb hby at_56) rfl (l' := #[.val (.int p1), .val (.ref b1), .val (.int (0 : Int32)), .unset, .unset, .unset, .unset, .unset]) rfl k) ?_
    refine own_s (B := T15.setTop (mkF m 58 #[.val (.int p1), .val (.ref b1), .val (.int (0 : Int32)), .unset, .unset, .unset, .unset, .unset] [(.ref b1)])) (fun t k => XS.aloadN X15.here hx rfl (hb hby at_57) rfl rfl k) ?_
    refine own_s (B := T15.setTop (mkF m 59 #[.val (.int p1), .val (.ref b1), .val (.int (0 : Int32)), .unset, .unset, .unset, .unset, .unset] [(.int (0 : Int32)), (.ref b1)])) (fun t k => XS.iloadN X15.here hx rfl (hb hby at_58) rfl k) ?_
    obtain ⟨cl16, Ar16, q16, Sz16, Nn16, Hs16, G16⟩ := id V_b1
    have hin16 : ¬ ((0 : Int32) < 0 ∨ cl16.slots.size ≤ ((0 : Int32)).toNatClampNeg) := inb_of Sz16 ⟨by decide, by decide⟩
    refine own_s (B := T15.setTop (mkF m 60 #[.val (.int p1), .val (.ref b1), .val (.int (0 : Int32)), .unset, .unset, .unset, .unset, .unset] [(.ref (W (0 : Int32)))])) (fun t k => X15.aaload hx (j := (0 : Int32)) (v := (.ref (W (0 : Int32)))) (by rw [e15]; exact Ar16.1) (State.isArrayOf_alike hZ.alike Ar16.2.1) rfl Ar16.2.2 hin16 (Hs16.at hin16 rfl) (g := (mkF m 59 #[.val (.int p1), .val (.ref b1), .val (.int (0 : Int32)), .unset, .unset, .unset, .unset, .unset] [(.int (0 : Int32)), (.ref b1)])) rfl rfl (hb hby at_59) t k) ?_
    refine own_s (B := T15.setTop (mkF m 61 #[.val (.int p1), .val (.ref b1), .val (.int (0 : Int32)), .val (.ref (W (0 : Int32))), .unset, .unset, .unset, .unset] [])) (fun t k => XS.astoreN X15.here hx rfl (hb hby at_60) rfl rfl (l' := #[.val (.int p1), .val (.ref b1), .val (.int (0 : Int32)), .val (.ref (W (0 : Int32))), .unset, .unset, .unset, .unset]) rfl k) ?_
    refine own_s (B := T15.setTop (mkF m 62 #[.val (.int p1), .val (.ref b1), .val (.int (0 : Int32)), .val (.ref (W (0 : Int32))), .unset, .unset, .unset, .unset] [(.int (0 : Int32))])) (fun t k => XS.iloadN X15.here hx rfl (hb hby at_61) rfl k) ?_
    refine own_s (B := T15.setTop (mkF m 63 #[.val (.int p1), .val (.ref b1), .val (.int (0 : Int32)), .val (.ref (W (0 : Int32))), .unset, .unset, .unset, .unset] [(.int (1 : Int32)), (.int (0 : Int32))])) (fun t k => XS.iconst X15.here hx rfl (hb hby at_62) k) ?_
    refine own_s (B := T15.setTop (mkF m 66 #[.val (.int p1), .val (.ref b1), .val (.int (0 : Int32)), .val (.ref (W (0 : Int32))), .unset, .unset, .unset, .unset] [])) (fun t k => XS.icmpNo X15.here hx rfl (hb hby at_63) rfl (feq (by decide)).1 k) ?_
    refine own_s (B := T15.setTop (mkF m 67 #[.val (.int p1), .val (.ref b1), .val (.int (0 : Int32)), .val (.ref (W (0 : Int32))), .unset, .unset, .unset, .unset] [(.int (0 : Int32))])) (fun t k => XS.iloadN X15.here hx rfl (hb hby at_66) rfl k) ?_
    refine own_s (B := T15.setTop (mkF m 68 #[.val (.int p1), .val (.ref b1), .val (.int (0 : Int32)), .val (.ref (W (0 : Int32))), .unset, .unset, .unset, .unset] [(.int (2 : Int32)), (.int (0 : Int32))])) (fun t k => XS.iconst X15.here hx rfl (hb hby at_67) k) ?_
    refine own_s (B := T15.setTop (mkF m 71 #[.val (.int p1), .val (.ref b1), .val (.int (0 : Int32)), .val (.ref (W (0 : Int32))), .unset, .unset, .unset, .unset] [])) (fun t k => XS.icmpNo X15.here hx rfl (hb hby at_68) rfl (feq (by decide)).1 k) ?_
    refine own_s (B := T15.setTop (mkF m 72 #[.val (.int p1), .val (.ref b1), .val (.int (0 : Int32)), .val (.ref (W (0 : Int32))), .unset, .unset, .unset, .unset] [(.int (0 : Int32))])) (fun t k => XS.iloadN X15.here hx rfl (hb hby at_71) rfl k) ?_
    refine own_s (B := T15.setTop (mkF m 73 #[.val (.int p1), .val (.ref b1), .val (.int (0 : Int32)), .val (.ref (W (0 : Int32))), .unset, .unset, .unset, .unset] [(.int (4 : Int32)), (.int (0 : Int32))])) (fun t k => XS.iconst X15.here hx rfl (hb hby at_72) k) ?_
    refine own_s (B := T15.setTop (mkF m 76 #[.val (.int p1), .val (.ref b1), .val (.int (0 : Int32)), .val (.ref (W (0 : Int32))), .unset, .unset, .unset, .unset] [])) (fun t k => XS.icmpNo X15.here hx rfl (hb hby at_73) rfl (feq (by decide)).1 k) ?_
    refine own_s (B := T15.setTop (mkF m 77 #[.val (.int p1), .val (.ref b1), .val (.int (0 : Int32)), .val (.ref (W (0 : Int32))), .unset, .unset, .unset, .unset] [(.int (0 : Int32))])) (fun t k => XS.iloadN X15.here hx rfl (hb hby at_76) rfl k) ?_
    refine own_s (B := T15.setTop (mkF m 78 #[.val (.int p1), .val (.ref b1), .val (.int (0 : Int32)), .val (.ref (W (0 : Int32))), .unset, .unset, .unset, .unset] [(.int (5 : Int32)), (.int (0 : Int32))])) (fun t k => XS.iconst X15.here hx rfl (hb hby at_77) k) ?_
    refine own_s (B := T15.setTop (mkF m 85 #[.val (.int p1), .val (.ref b1), .val (.int (0 : Int32)), .val (.ref (W (0 : Int32))), .unset, .unset, .unset, .unset] [])) (fun t k => XS.icmpYes X15.here hx rfl (pc0 := 78) (pc' := 85) rfl (hb hby at_78) rfl (feq (by decide)).2 (by decide) (by decide) k) ?_
    refine own_s (B := T15.setTop (mkF m 86 #[.val (.int p1), .val (.ref b1), .val (.int (0 : Int32)), .val (.ref (W (0 : Int32))), .unset, .unset, .unset, .unset] [(.int (0 : Int32))])) (fun t k => XS.iconst X15.here hx rfl (hb hby at_85) k) ?_
    refine own_s (B := T15.setTop (mkF m 88 #[.val (.int p1), .val (.ref b1), .val (.int (0 : Int32)), .val (.ref (W (0 : Int32))), .val (.int (0 : Int32)), .unset, .unset, .unset] [])) (fun t k => XS.istore X15.here hx rfl (hb hby at_86) rfl (l' := #[.val (.int p1), .val (.ref b1), .val (.int (0 : Int32)), .val (.ref (W (0 : Int32))), .val (.int (0 : Int32)), .unset, .unset, .unset]) rfl k) ?_
    refine own_s (B := T15.setTop (mkF m 89 #[.val (.int p1), .val (.ref b1), .val (.int (0 : Int32)), .val (.ref (W (0 : Int32))), .val (.int (0 : Int32)), .unset, .unset, .unset] [(.ref (W (0 : Int32)))])) (fun t k => XS.aloadN X15.here hx rfl (hb hby at_88) rfl rfl k) ?_
    obtain ⟨cq17, kq17, q17a, q17b, q17c⟩ := isOf hZ e15 ((XW (0 : Int32) (by decide) (by decide)).ext EX)
    obtain ⟨_, _, ⟨T17, L17, k17, n17⟩, -, X17, ⟨Lc17, hQ17, l17, y17, z17⟩, st17⟩ := X15.virtualBack hx (y := (⟨"com/example/formal_courier/formalcourier/crs/CrsDocumentTypeControls$DocumentType", "isReplacement", "()Z"⟩ : MethodName)) (z := (⟨"com/example/formal_courier/formalcourier/crs/CrsDocumentTypeControls$DocumentType", "isReplacement", "()Z"⟩ : MethodName)) hown (mvT hZ (hw _ (List.mem_of_getElem? (i := 19) rfl))) (mvT hZ (hw _ (List.mem_of_getElem? (i := 20) rfl))) (notFace_of_selects (args := #[]) (mvT hZ (hw _ (List.mem_of_getElem? (i := 22) rfl)))) (mvT hZ (hw _ (List.mem_of_getElem? (i := 22) rfl))) (mvT hZ (hw _ (List.mem_of_getElem? (i := 21) rfl))) (by decide) (backOf (W := 0) (rm1 l Z a0 hw [] (W (0 : Int32)) W (0 : Int32) h15 n0 (Nat.le_trans Z0 EX.1) (WS.ext EX EW) (own_b0 (fun q => q.elim (own_ne IW 0 1 (by decide)) (fun q => q.elim (own_ne IW 0 2 (by decide)) (fun q => q.elim (own_ne IW 0 4 (by decide)) (own_ne IW 0 5 (by decide))))))) hZ (hw _ (List.mem_of_getElem? (i := 23) rfl)) (hw _ (List.mem_of_getElem? (i := 3) rfl)) (by decide) (by decide)) q17a q17c (g := (mkF m 89 #[.val (.int p1), .val (.ref b1), .val (.int (0 : Int32)), .val (.ref (W (0 : Int32))), .val (.int (0 : Int32)), .unset, .unset, .unset] [(.ref (W (0 : Int32)))])) rfl (by rw [hml]; rfl) (Steps.refl _) (argsL := []) (rest := []) (lenOf pd_0 rfl) rfl (by show 2 * 0 + _ ≤ _; exact Nat.le_of_eq rfl) (hb hby at_89) (fun _ _ => ⟨rfl, e15, (by decide : 1 + 0 ≤ _), (by decide : 7 + 0 ≤ _)⟩)
    dsimp only [Pt.U, Pt.locs, Pt.cells, Pt.slots] at X17 l17 y17 z17 st17 hQ17
    subst l17 y17 z17
    obtain ⟨rfl, N17q, e17⟩ := hQ17
    have N17 := Fr.app N15 N17q
    refine own_s (B := T17.setTop (mkF m 92 #[.val (.int p1), .val (.ref b1), .val (.int (0 : Int32)), .val (.ref (W (0 : Int32))), .val (.int (0 : Int32)), .unset, .unset, .unset] [(.int (0 : Int32))])) (fun t k => st17.trans k) ?_
    refine own_s (B := T17.setTop (mkF m 94 #[.val (.int p1), .val (.ref b1), .val (.int (0 : Int32)), .val (.ref (W (0 : Int32))), .val (.int (0 : Int32)), .val (.int (0 : Int32)), .unset, .unset] [])) (fun t k => XS.istore X17.here hx rfl (hb hby at_92) rfl (l' := #[.val (.int p1), .val (.ref b1), .val (.int (0 : Int32)), .val (.ref (W (0 : Int32))), .val (.int (0 : Int32)), .val (.int (0 : Int32)), .unset, .unset]) rfl k) ?_
    refine own_s (B := T17.setTop (mkF m 96 #[.val (.int p1), .val (.ref b1), .val (.int (0 : Int32)), .val (.ref (W (0 : Int32))), .val (.int (0 : Int32)), .val (.int (0 : Int32)), .unset, .unset] [(.int (0 : Int32))])) (fun t k => XS.iload X17.here hx rfl (hb hby at_94) rfl k) ?_
    refine own_s (B := T17.setTop (mkF m 97 #[.val (.int p1), .val (.ref b1), .val (.int (0 : Int32)), .val (.ref (W (0 : Int32))), .val (.int (0 : Int32)), .val (.int (0 : Int32)), .unset, .unset] [(.ref (W (0 : Int32))), (.int (0 : Int32))])) (fun t k => XS.aloadN X17.here hx rfl (hb hby at_96) rfl rfl k) ?_
    obtain ⟨cq18, kq18, q18a, q18b, q18c⟩ := isOf hZ e17 ((XW (0 : Int32) (by decide) (by decide)).ext EX)
    obtain ⟨_, _, ⟨T18, L18, k18, n18⟩, -, X18, ⟨Lc18, hQ18, l18, y18, z18⟩, st18⟩ := X17.virtualBack hx (y := (⟨"com/example/formal_courier/formalcourier/crs/CrsDocumentTypeControls$DocumentType", "isProduction", "()Z"⟩ : MethodName)) (z := (⟨"com/example/formal_courier/formalcourier/crs/CrsDocumentTypeControls$DocumentType", "isProduction", "()Z"⟩ : MethodName)) hown (mvT hZ (hw _ (List.mem_of_getElem? (i := 28) rfl))) (mvT hZ (hw _ (List.mem_of_getElem? (i := 29) rfl))) (notFace_of_selects (args := #[]) (mvT hZ (hw _ (List.mem_of_getElem? (i := 31) rfl)))) (mvT hZ (hw _ (List.mem_of_getElem? (i := 31) rfl))) (mvT hZ (hw _ (List.mem_of_getElem? (i := 30) rfl))) (by decide) (backOf (W := 1) (rm2 l Z a0 hw [] (W (0 : Int32)) W (1 : Int32) h15 n0 (Nat.le_trans Z0 EX.1) (WS.ext EX EW) (own_b1 (Or.inl rfl))) hZ (hw _ (List.mem_of_getElem? (i := 32) rfl)) (hw _ (List.mem_of_getElem? (i := 3) rfl)) (by decide) (by decide)) q18a q18c (g := (mkF m 97 #[.val (.int p1), .val (.ref b1), .val (.int (0 : Int32)), .val (.ref (W (0 : Int32))), .val (.int (0 : Int32)), .val (.int (0 : Int32)), .unset, .unset] [(.ref (W (0 : Int32))), (.int (0 : Int32))])) rfl (by rw [hml]; rfl) (Steps.refl _) (argsL := []) (rest := [(.int (0 : Int32))]) (lenOf pd_0 rfl) rfl (by show 2 * 0 + _ ≤ _; exact Nat.le_of_eq rfl) (hb hby at_97) (fun _ _ => ⟨rfl, e17, (by decide : 1 + 0 ≤ _), (by decide : 7 + 0 ≤ _)⟩)
    dsimp only [Pt.U, Pt.locs, Pt.cells, Pt.slots] at X18 l18 y18 z18 st18 hQ18
    subst l18 y18 z18
    obtain ⟨rfl, N18q, e18⟩ := hQ18
    have N18 := Fr.app N17 N18q
    refine own_s (B := T18.setTop (mkF m 100 #[.val (.int p1), .val (.ref b1), .val (.int (0 : Int32)), .val (.ref (W (0 : Int32))), .val (.int (0 : Int32)), .val (.int (0 : Int32)), .unset, .unset] [(.int (1 : Int32)), (.int (0 : Int32))])) (fun t k => st18.trans k) ?_
    refine own_s (B := T18.setTop (mkF m 110 #[.val (.int p1), .val (.ref b1), .val (.int (0 : Int32)), .val (.ref (W (0 : Int32))), .val (.int (0 : Int32)), .val (.int (0 : Int32)), .unset, .unset] [(.int (0 : Int32))])) (fun t k => XS.ifYes X18.here hx rfl (pc0 := 100) (pc' := 110) rfl (hb hby at_100) rfl ((if0 _ _).trans (feq (by decide)).2) (by decide) (by decide) k) ?_
    refine own_s (B := T18.setTop (mkF m 111 #[.val (.int p1), .val (.ref b1), .val (.int (0 : Int32)), .val (.ref (W (0 : Int32))), .val (.int (0 : Int32)), .val (.int (0 : Int32)), .unset, .unset] [(.ref (W (0 : Int32))), (.int (0 : Int32))])) (fun t k => XS.aloadN X18.here hx rfl (hb hby at_110) rfl rfl k) ?_
    obtain ⟨cq19, kq19, q19a, q19b, q19c⟩ := isOf hZ e18 ((XW (0 : Int32) (by decide) (by decide)).ext EX)
    obtain ⟨_, _, ⟨T19, L19, k19, n19⟩, -, X19, ⟨Lc19, hQ19, l19, y19, z19⟩, st19⟩ := X18.virtualBack hx (y := (⟨"com/example/formal_courier/formalcourier/crs/CrsDocumentTypeControls$DocumentType", "isNew", "()Z"⟩ : MethodName)) (z := (⟨"com/example/formal_courier/formalcourier/crs/CrsDocumentTypeControls$DocumentType", "isNew", "()Z"⟩ : MethodName)) hown (mvT hZ (hw _ (List.mem_of_getElem? (i := 34) rfl))) (mvT hZ (hw _ (List.mem_of_getElem? (i := 35) rfl))) (notFace_of_selects (args := #[]) (mvT hZ (hw _ (List.mem_of_getElem? (i := 37) rfl)))) (mvT hZ (hw _ (List.mem_of_getElem? (i := 37) rfl))) (mvT hZ (hw _ (List.mem_of_getElem? (i := 36) rfl))) (by decide) (backOf (W := 1) (rm3 l Z a0 hw [] (W (0 : Int32)) W (1 : Int32) h15 n0 (Nat.le_trans Z0 EX.1) (WS.ext EX EW) (own_b1 (Or.inl rfl))) hZ (hw _ (List.mem_of_getElem? (i := 38) rfl)) (hw _ (List.mem_of_getElem? (i := 3) rfl)) (by decide) (by decide)) q19a q19c (g := (mkF m 111 #[.val (.int p1), .val (.ref b1), .val (.int (0 : Int32)), .val (.ref (W (0 : Int32))), .val (.int (0 : Int32)), .val (.int (0 : Int32)), .unset, .unset] [(.ref (W (0 : Int32))), (.int (0 : Int32))])) rfl (by rw [hml]; rfl) (Steps.refl _) (argsL := []) (rest := [(.int (0 : Int32))]) (lenOf pd_0 rfl) rfl (by show 2 * 0 + _ ≤ _; exact Nat.le_of_eq rfl) (hb hby at_111) (fun _ _ => ⟨rfl, e18, (by decide : 1 + 0 ≤ _), (by decide : 7 + 0 ≤ _)⟩)
    dsimp only [Pt.U, Pt.locs, Pt.cells, Pt.slots] at X19 l19 y19 z19 st19 hQ19
    subst l19 y19 z19
    obtain ⟨rfl, N19q, e19⟩ := hQ19
    have N19 := Fr.app N18 N19q
    refine own_s (B := T19.setTop (mkF m 114 #[.val (.int p1), .val (.ref b1), .val (.int (0 : Int32)), .val (.ref (W (0 : Int32))), .val (.int (0 : Int32)), .val (.int (0 : Int32)), .unset, .unset] [(.int (1 : Int32)), (.int (0 : Int32))])) (fun t k => st19.trans k) ?_
    refine own_s (B := T19.setTop (mkF m 121 #[.val (.int p1), .val (.ref b1), .val (.int (0 : Int32)), .val (.ref (W (0 : Int32))), .val (.int (0 : Int32)), .val (.int (0 : Int32)), .unset, .unset] [(.int (0 : Int32))])) (fun t k => XS.ifYes X19.here hx rfl (pc0 := 114) (pc' := 121) rfl (hb hby at_114) rfl ((if0 _ _).trans (feq (by decide)).2) (by decide) (by decide) k) ?_
    refine own_s (B := T19.setTop (mkF m 122 #[.val (.int p1), .val (.ref b1), .val (.int (0 : Int32)), .val (.ref (W (0 : Int32))), .val (.int (0 : Int32)), .val (.int (0 : Int32)), .unset, .unset] [(.int (0 : Int32)), (.int (0 : Int32))])) (fun t k => XS.iconst X19.here hx rfl (hb hby at_121) k) ?_
    refine own_s (B := T19.setTop (mkF m 125 #[.val (.int p1), .val (.ref b1), .val (.int (0 : Int32)), .val (.ref (W (0 : Int32))), .val (.int (0 : Int32)), .val (.int (0 : Int32)), .unset, .unset] [])) (fun t k => XS.icmpNo X19.here hx rfl (hb hby at_122) rfl (teq rfl).2 k) ?_
    refine own_s (B := T19.setTop (mkF m 126 #[.val (.int p1), .val (.ref b1), .val (.int (0 : Int32)), .val (.ref (W (0 : Int32))), .val (.int (0 : Int32)), .val (.int (0 : Int32)), .unset, .unset] [(.int (1 : Int32))])) (fun t k => XS.iconst X19.here hx rfl (hb hby at_125) k) ?_
    refine own_s (B := T19.setTop (mkF m 130 #[.val (.int p1), .val (.ref b1), .val (.int (0 : Int32)), .val (.ref (W (0 : Int32))), .val (.int (0 : Int32)), .val (.int (0 : Int32)), .unset, .unset] [(.int (1 : Int32))])) (fun t k => XS.goto X19.here hx rfl (pc0 := 126) (pc' := 130) rfl (hb hby at_126) (by decide) (by decide) k) ?_
    refine own_s (B := T19.setTop (mkF m 132 #[.val (.int p1), .val (.ref b1), .val (.int (0 : Int32)), .val (.ref (W (0 : Int32))), .val (.int (0 : Int32)), .val (.int (0 : Int32)), .val (.int (1 : Int32)), .unset] [])) (fun t k => XS.istore X19.here hx rfl (hb hby at_130) rfl (l' := #[.val (.int p1), .val (.ref b1), .val (.int (0 : Int32)), .val (.ref (W (0 : Int32))), .val (.int (0 : Int32)), .val (.int (0 : Int32)), .val (.int (1 : Int32)), .unset]) rfl k) ?_
    refine own_s (B := T19.setTop (mkF m 133 #[.val (.int p1), .val (.ref b1), .val (.int (0 : Int32)), .val (.ref (W (0 : Int32))), .val (.int (0 : Int32)), .val (.int (0 : Int32)), .val (.int (1 : Int32)), .unset] [(.ref (W (0 : Int32)))])) (fun t k => XS.aloadN X19.here hx rfl (hb hby at_132) rfl rfl k) ?_
    obtain ⟨cq20, kq20, q20a, q20b, q20c⟩ := isOf hZ e19 ((XW (0 : Int32) (by decide) (by decide)).ext EX)
    obtain ⟨_, _, ⟨T20, L20, k20, n20⟩, -, X20, ⟨Lc20, hQ20, l20, y20, z20⟩, st20⟩ := X19.virtualBack hx (y := (⟨"com/example/formal_courier/formalcourier/crs/CrsDocumentTypeControls$DocumentType", "isDeletion", "()Z"⟩ : MethodName)) (z := (⟨"com/example/formal_courier/formalcourier/crs/CrsDocumentTypeControls$DocumentType", "isDeletion", "()Z"⟩ : MethodName)) hown (mvT hZ (hw _ (List.mem_of_getElem? (i := 39) rfl))) (mvT hZ (hw _ (List.mem_of_getElem? (i := 40) rfl))) (notFace_of_selects (args := #[]) (mvT hZ (hw _ (List.mem_of_getElem? (i := 42) rfl)))) (mvT hZ (hw _ (List.mem_of_getElem? (i := 42) rfl))) (mvT hZ (hw _ (List.mem_of_getElem? (i := 41) rfl))) (by decide) (backOf (W := 0) (rm4 l Z a0 hw [] (W (0 : Int32)) W (0 : Int32) h15 n0 (Nat.le_trans Z0 EX.1) (WS.ext EX EW) (own_b0 (fun q => q.elim (own_ne IW 0 2 (by decide)) (own_ne IW 0 5 (by decide))))) hZ (hw _ (List.mem_of_getElem? (i := 43) rfl)) (hw _ (List.mem_of_getElem? (i := 3) rfl)) (by decide) (by decide)) q20a q20c (g := (mkF m 133 #[.val (.int p1), .val (.ref b1), .val (.int (0 : Int32)), .val (.ref (W (0 : Int32))), .val (.int (0 : Int32)), .val (.int (0 : Int32)), .val (.int (1 : Int32)), .unset] [(.ref (W (0 : Int32)))])) rfl (by rw [hml]; rfl) (Steps.refl _) (argsL := []) (rest := []) (lenOf pd_0 rfl) rfl (by show 2 * 0 + _ ≤ _; exact Nat.le_of_eq rfl) (hb hby at_133) (fun _ _ => ⟨rfl, e19, (by decide : 1 + 0 ≤ _), (by decide : 7 + 0 ≤ _)⟩)
    dsimp only [Pt.U, Pt.locs, Pt.cells, Pt.slots] at X20 l20 y20 z20 st20 hQ20
    subst l20 y20 z20
    obtain ⟨rfl, N20q, e20⟩ := hQ20
    have N20 := Fr.app N19 N20q
    refine own_s (B := T20.setTop (mkF m 136 #[.val (.int p1), .val (.ref b1), .val (.int (0 : Int32)), .val (.ref (W (0 : Int32))), .val (.int (0 : Int32)), .val (.int (0 : Int32)), .val (.int (1 : Int32)), .unset] [(.int (0 : Int32))])) (fun t k => st20.trans k) ?_
    refine own_s (B := T20.setTop (mkF m 144 #[.val (.int p1), .val (.ref b1), .val (.int (0 : Int32)), .val (.ref (W (0 : Int32))), .val (.int (0 : Int32)), .val (.int (0 : Int32)), .val (.int (1 : Int32)), .unset] [])) (fun t k => XS.ifYes X20.here hx rfl (pc0 := 136) (pc' := 144) rfl (hb hby at_136) rfl ((if0 _ _).trans (teq rfl).1) (by decide) (by decide) k) ?_
    refine own_s (B := T20.setTop (mkF m 145 #[.val (.int p1), .val (.ref b1), .val (.int (0 : Int32)), .val (.ref (W (0 : Int32))), .val (.int (0 : Int32)), .val (.int (0 : Int32)), .val (.int (1 : Int32)), .unset] [(.int (1 : Int32))])) (fun t k => XS.iconst X20.here hx rfl (hb hby at_144) k) ?_
    refine own_s (B := T20.setTop (mkF m 149 #[.val (.int p1), .val (.ref b1), .val (.int (0 : Int32)), .val (.ref (W (0 : Int32))), .val (.int (0 : Int32)), .val (.int (0 : Int32)), .val (.int (1 : Int32)), .unset] [(.int (1 : Int32))])) (fun t k => XS.goto X20.here hx rfl (pc0 := 145) (pc' := 149) rfl (hb hby at_145) (by decide) (by decide) k) ?_
    refine own_s (B := T20.setTop (mkF m 151 #[.val (.int p1), .val (.ref b1), .val (.int (0 : Int32)), .val (.ref (W (0 : Int32))), .val (.int (0 : Int32)), .val (.int (0 : Int32)), .val (.int (1 : Int32)), .val (.int (1 : Int32))] [])) (fun t k => XS.istore X20.here hx rfl (hb hby at_149) rfl (l' := #[.val (.int p1), .val (.ref b1), .val (.int (0 : Int32)), .val (.ref (W (0 : Int32))), .val (.int (0 : Int32)), .val (.int (0 : Int32)), .val (.int (1 : Int32)), .val (.int (1 : Int32))]) rfl k) ?_
    refine own_s (B := T20.setTop (mkF m 153 #[.val (.int p1), .val (.ref b1), .val (.int (0 : Int32)), .val (.ref (W (0 : Int32))), .val (.int (0 : Int32)), .val (.int (0 : Int32)), .val (.int (1 : Int32)), .val (.int (1 : Int32))] [(.int (0 : Int32))])) (fun t k => XS.iload X20.here hx rfl (hb hby at_151) rfl k) ?_
    refine own_s (B := T20.setTop (mkF m 155 #[.val (.int p1), .val (.ref b1), .val (.int (0 : Int32)), .val (.ref (W (0 : Int32))), .val (.int (0 : Int32)), .val (.int (0 : Int32)), .val (.int (1 : Int32)), .val (.int (1 : Int32))] [(.int (0 : Int32)), (.int (0 : Int32))])) (fun t k => XS.iload X20.here hx rfl (hb hby at_153) rfl k) ?_
    refine own_s (B := T20.setTop (mkF m 158 #[.val (.int p1), .val (.ref b1), .val (.int (0 : Int32)), .val (.ref (W (0 : Int32))), .val (.int (0 : Int32)), .val (.int (0 : Int32)), .val (.int (1 : Int32)), .val (.int (1 : Int32))] [])) (fun t k => XS.icmpNo X20.here hx rfl (hb hby at_155) rfl (teq rfl).2 k) ?_
    refine own_s (B := T20.setTop (mkF m 160 #[.val (.int p1), .val (.ref b1), .val (.int (0 : Int32)), .val (.ref (W (0 : Int32))), .val (.int (0 : Int32)), .val (.int (0 : Int32)), .val (.int (1 : Int32)), .val (.int (1 : Int32))] [(.int (1 : Int32))])) (fun t k => XS.iload X20.here hx rfl (hb hby at_158) rfl k) ?_
    refine own_s (B := T20.setTop (mkF m 163 #[.val (.int p1), .val (.ref b1), .val (.int (0 : Int32)), .val (.ref (W (0 : Int32))), .val (.int (0 : Int32)), .val (.int (0 : Int32)), .val (.int (1 : Int32)), .val (.int (1 : Int32))] [])) (fun t k => XS.ifNo X20.here hx rfl (hb hby at_160) rfl ((if0 _ _).trans (feq (by decide)).1) k) ?_
    refine own_s (B := T20.setTop (mkF m 165 #[.val (.int p1), .val (.ref b1), .val (.int (0 : Int32)), .val (.ref (W (0 : Int32))), .val (.int (0 : Int32)), .val (.int (0 : Int32)), .val (.int (1 : Int32)), .val (.int (1 : Int32))] [(.int (1 : Int32))])) (fun t k => XS.iload X20.here hx rfl (hb hby at_163) rfl k) ?_
    refine own_s (B := T20.setTop (mkF m 168 #[.val (.int p1), .val (.ref b1), .val (.int (0 : Int32)), .val (.ref (W (0 : Int32))), .val (.int (0 : Int32)), .val (.int (0 : Int32)), .val (.int (1 : Int32)), .val (.int (1 : Int32))] [])) (fun t k => XS.ifNo X20.here hx rfl (hb hby at_165) rfl ((if0 _ _).trans (feq (by decide)).1) k) ?_
    refine own_s (B := T20.setTop (mkF m 169 #[.val (.int p1), .val (.ref b1), .val (.int (0 : Int32)), .val (.ref (W (0 : Int32))), .val (.int (0 : Int32)), .val (.int (0 : Int32)), .val (.int (1 : Int32)), .val (.int (1 : Int32))] [(.int (1 : Int32))])) (fun t k => XS.iconst X20.here hx rfl (hb hby at_168) k) ?_
    refine own_s (B := T20.setTop (mkF m 173 #[.val (.int p1), .val (.ref b1), .val (.int (0 : Int32)), .val (.ref (W (0 : Int32))), .val (.int (0 : Int32)), .val (.int (0 : Int32)), .val (.int (1 : Int32)), .val (.int (1 : Int32))] [(.int (1 : Int32))])) (fun t k => XS.goto X20.here hx rfl (pc0 := 169) (pc' := 173) rfl (hb hby at_169) (by decide) (by decide) k) ?_
    exact own_retB X20 hx hlk (t := .boolean) Bd.returns (by simp) (hb hby at_173) (by decide) (by decide) ⟨rfl, N20⟩
  · refine own_s (B := T15.setTop (mkF m 57 #[.val (.int p1), .val (.ref b1), .val (.int (1 : Int32)), .unset, .unset, .unset, .unset, .unset] [])) (fun t k => XS.istoreN X15.here hx rfl (hb hby at_56) rfl (l' := #[.val (.int p1), .val (.ref b1), .val (.int (1 : Int32)), .unset, .unset, .unset, .unset, .unset]) rfl k) ?_
    refine own_s (B := T15.setTop (mkF m 58 #[.val (.int p1), .val (.ref b1), .val (.int (1 : Int32)), .unset, .unset, .unset, .unset, .unset] [(.ref b1)])) (fun t k => XS.aloadN X15.here hx rfl (hb hby at_57) rfl rfl k) ?_
    refine own_s (B := T15.setTop (mkF m 59 #[.val (.int p1), .val (.ref b1), .val (.int (1 : Int32)), .unset, .unset, .unset, .unset, .unset] [(.int (1 : Int32)), (.ref b1)])) (fun t k => XS.iloadN X15.here hx rfl (hb hby at_58) rfl k) ?_
    obtain ⟨cl21, Ar21, q21, Sz21, Nn21, Hs21, G21⟩ := id V_b1
    have hin21 : ¬ ((1 : Int32) < 0 ∨ cl21.slots.size ≤ ((1 : Int32)).toNatClampNeg) := inb_of Sz21 ⟨by decide, by decide⟩
    refine own_s (B := T15.setTop (mkF m 60 #[.val (.int p1), .val (.ref b1), .val (.int (1 : Int32)), .unset, .unset, .unset, .unset, .unset] [(.ref (W (1 : Int32)))])) (fun t k => X15.aaload hx (j := (1 : Int32)) (v := (.ref (W (1 : Int32)))) (by rw [e15]; exact Ar21.1) (State.isArrayOf_alike hZ.alike Ar21.2.1) rfl Ar21.2.2 hin21 (Hs21.at hin21 rfl) (g := (mkF m 59 #[.val (.int p1), .val (.ref b1), .val (.int (1 : Int32)), .unset, .unset, .unset, .unset, .unset] [(.int (1 : Int32)), (.ref b1)])) rfl rfl (hb hby at_59) t k) ?_
    refine own_s (B := T15.setTop (mkF m 61 #[.val (.int p1), .val (.ref b1), .val (.int (1 : Int32)), .val (.ref (W (1 : Int32))), .unset, .unset, .unset, .unset] [])) (fun t k => XS.astoreN X15.here hx rfl (hb hby at_60) rfl rfl (l' := #[.val (.int p1), .val (.ref b1), .val (.int (1 : Int32)), .val (.ref (W (1 : Int32))), .unset, .unset, .unset, .unset]) rfl k) ?_
    refine own_s (B := T15.setTop (mkF m 62 #[.val (.int p1), .val (.ref b1), .val (.int (1 : Int32)), .val (.ref (W (1 : Int32))), .unset, .unset, .unset, .unset] [(.int (1 : Int32))])) (fun t k => XS.iloadN X15.here hx rfl (hb hby at_61) rfl k) ?_
    refine own_s (B := T15.setTop (mkF m 63 #[.val (.int p1), .val (.ref b1), .val (.int (1 : Int32)), .val (.ref (W (1 : Int32))), .unset, .unset, .unset, .unset] [(.int (1 : Int32)), (.int (1 : Int32))])) (fun t k => XS.iconst X15.here hx rfl (hb hby at_62) k) ?_
    refine own_s (B := T15.setTop (mkF m 81 #[.val (.int p1), .val (.ref b1), .val (.int (1 : Int32)), .val (.ref (W (1 : Int32))), .unset, .unset, .unset, .unset] [])) (fun t k => XS.icmpYes X15.here hx rfl (pc0 := 63) (pc' := 81) rfl (hb hby at_63) rfl (teq rfl).1 (by decide) (by decide) k) ?_
    refine own_s (B := T15.setTop (mkF m 82 #[.val (.int p1), .val (.ref b1), .val (.int (1 : Int32)), .val (.ref (W (1 : Int32))), .unset, .unset, .unset, .unset] [(.int (1 : Int32))])) (fun t k => XS.iconst X15.here hx rfl (hb hby at_81) k) ?_
    refine own_s (B := T15.setTop (mkF m 86 #[.val (.int p1), .val (.ref b1), .val (.int (1 : Int32)), .val (.ref (W (1 : Int32))), .unset, .unset, .unset, .unset] [(.int (1 : Int32))])) (fun t k => XS.goto X15.here hx rfl (pc0 := 82) (pc' := 86) rfl (hb hby at_82) (by decide) (by decide) k) ?_
    refine own_s (B := T15.setTop (mkF m 88 #[.val (.int p1), .val (.ref b1), .val (.int (1 : Int32)), .val (.ref (W (1 : Int32))), .val (.int (1 : Int32)), .unset, .unset, .unset] [])) (fun t k => XS.istore X15.here hx rfl (hb hby at_86) rfl (l' := #[.val (.int p1), .val (.ref b1), .val (.int (1 : Int32)), .val (.ref (W (1 : Int32))), .val (.int (1 : Int32)), .unset, .unset, .unset]) rfl k) ?_
    refine own_s (B := T15.setTop (mkF m 89 #[.val (.int p1), .val (.ref b1), .val (.int (1 : Int32)), .val (.ref (W (1 : Int32))), .val (.int (1 : Int32)), .unset, .unset, .unset] [(.ref (W (1 : Int32)))])) (fun t k => XS.aloadN X15.here hx rfl (hb hby at_88) rfl rfl k) ?_
    obtain ⟨cq22, kq22, q22a, q22b, q22c⟩ := isOf hZ e15 ((XW (1 : Int32) (by decide) (by decide)).ext EX)
    obtain ⟨_, _, ⟨T22, L22, k22, n22⟩, -, X22, ⟨Lc22, hQ22, l22, y22, z22⟩, st22⟩ := X15.virtualBack hx (y := (⟨"com/example/formal_courier/formalcourier/crs/CrsDocumentTypeControls$DocumentType", "isReplacement", "()Z"⟩ : MethodName)) (z := (⟨"com/example/formal_courier/formalcourier/crs/CrsDocumentTypeControls$DocumentType", "isReplacement", "()Z"⟩ : MethodName)) hown (mvT hZ (hw _ (List.mem_of_getElem? (i := 19) rfl))) (mvT hZ (hw _ (List.mem_of_getElem? (i := 20) rfl))) (notFace_of_selects (args := #[]) (mvT hZ (hw _ (List.mem_of_getElem? (i := 22) rfl)))) (mvT hZ (hw _ (List.mem_of_getElem? (i := 22) rfl))) (mvT hZ (hw _ (List.mem_of_getElem? (i := 21) rfl))) (by decide) (backOf (W := 0) (rm1 l Z a0 hw [] (W (1 : Int32)) W (1 : Int32) h15 n0 (Nat.le_trans Z0 EX.1) (WS.ext EX EW) (own_b1 (Or.inl rfl))) hZ (hw _ (List.mem_of_getElem? (i := 23) rfl)) (hw _ (List.mem_of_getElem? (i := 3) rfl)) (by decide) (by decide)) q22a q22c (g := (mkF m 89 #[.val (.int p1), .val (.ref b1), .val (.int (1 : Int32)), .val (.ref (W (1 : Int32))), .val (.int (1 : Int32)), .unset, .unset, .unset] [(.ref (W (1 : Int32)))])) rfl (by rw [hml]; rfl) (Steps.refl _) (argsL := []) (rest := []) (lenOf pd_0 rfl) rfl (by show 2 * 0 + _ ≤ _; exact Nat.le_of_eq rfl) (hb hby at_89) (fun _ _ => ⟨rfl, e15, (by decide : 1 + 0 ≤ _), (by decide : 7 + 0 ≤ _)⟩)
    dsimp only [Pt.U, Pt.locs, Pt.cells, Pt.slots] at X22 l22 y22 z22 st22 hQ22
    subst l22 y22 z22
    obtain ⟨rfl, N22q, e22⟩ := hQ22
    have N22 := Fr.app N15 N22q
    refine own_s (B := T22.setTop (mkF m 92 #[.val (.int p1), .val (.ref b1), .val (.int (1 : Int32)), .val (.ref (W (1 : Int32))), .val (.int (1 : Int32)), .unset, .unset, .unset] [(.int (1 : Int32))])) (fun t k => st22.trans k) ?_
    refine own_s (B := T22.setTop (mkF m 94 #[.val (.int p1), .val (.ref b1), .val (.int (1 : Int32)), .val (.ref (W (1 : Int32))), .val (.int (1 : Int32)), .val (.int (1 : Int32)), .unset, .unset] [])) (fun t k => XS.istore X22.here hx rfl (hb hby at_92) rfl (l' := #[.val (.int p1), .val (.ref b1), .val (.int (1 : Int32)), .val (.ref (W (1 : Int32))), .val (.int (1 : Int32)), .val (.int (1 : Int32)), .unset, .unset]) rfl k) ?_
    refine own_s (B := T22.setTop (mkF m 96 #[.val (.int p1), .val (.ref b1), .val (.int (1 : Int32)), .val (.ref (W (1 : Int32))), .val (.int (1 : Int32)), .val (.int (1 : Int32)), .unset, .unset] [(.int (1 : Int32))])) (fun t k => XS.iload X22.here hx rfl (hb hby at_94) rfl k) ?_
    refine own_s (B := T22.setTop (mkF m 97 #[.val (.int p1), .val (.ref b1), .val (.int (1 : Int32)), .val (.ref (W (1 : Int32))), .val (.int (1 : Int32)), .val (.int (1 : Int32)), .unset, .unset] [(.ref (W (1 : Int32))), (.int (1 : Int32))])) (fun t k => XS.aloadN X22.here hx rfl (hb hby at_96) rfl rfl k) ?_
    obtain ⟨cq23, kq23, q23a, q23b, q23c⟩ := isOf hZ e22 ((XW (1 : Int32) (by decide) (by decide)).ext EX)
    obtain ⟨_, _, ⟨T23, L23, k23, n23⟩, -, X23, ⟨Lc23, hQ23, l23, y23, z23⟩, st23⟩ := X22.virtualBack hx (y := (⟨"com/example/formal_courier/formalcourier/crs/CrsDocumentTypeControls$DocumentType", "isProduction", "()Z"⟩ : MethodName)) (z := (⟨"com/example/formal_courier/formalcourier/crs/CrsDocumentTypeControls$DocumentType", "isProduction", "()Z"⟩ : MethodName)) hown (mvT hZ (hw _ (List.mem_of_getElem? (i := 28) rfl))) (mvT hZ (hw _ (List.mem_of_getElem? (i := 29) rfl))) (notFace_of_selects (args := #[]) (mvT hZ (hw _ (List.mem_of_getElem? (i := 31) rfl)))) (mvT hZ (hw _ (List.mem_of_getElem? (i := 31) rfl))) (mvT hZ (hw _ (List.mem_of_getElem? (i := 30) rfl))) (by decide) (backOf (W := 1) (rm2 l Z a0 hw [] (W (1 : Int32)) W (1 : Int32) h15 n0 (Nat.le_trans Z0 EX.1) (WS.ext EX EW) (own_b1 (Or.inr (Or.inl rfl)))) hZ (hw _ (List.mem_of_getElem? (i := 32) rfl)) (hw _ (List.mem_of_getElem? (i := 3) rfl)) (by decide) (by decide)) q23a q23c (g := (mkF m 97 #[.val (.int p1), .val (.ref b1), .val (.int (1 : Int32)), .val (.ref (W (1 : Int32))), .val (.int (1 : Int32)), .val (.int (1 : Int32)), .unset, .unset] [(.ref (W (1 : Int32))), (.int (1 : Int32))])) rfl (by rw [hml]; rfl) (Steps.refl _) (argsL := []) (rest := [(.int (1 : Int32))]) (lenOf pd_0 rfl) rfl (by show 2 * 0 + _ ≤ _; exact Nat.le_of_eq rfl) (hb hby at_97) (fun _ _ => ⟨rfl, e22, (by decide : 1 + 0 ≤ _), (by decide : 7 + 0 ≤ _)⟩)
    dsimp only [Pt.U, Pt.locs, Pt.cells, Pt.slots] at X23 l23 y23 z23 st23 hQ23
    subst l23 y23 z23
    obtain ⟨rfl, N23q, e23⟩ := hQ23
    have N23 := Fr.app N22 N23q
    refine own_s (B := T23.setTop (mkF m 100 #[.val (.int p1), .val (.ref b1), .val (.int (1 : Int32)), .val (.ref (W (1 : Int32))), .val (.int (1 : Int32)), .val (.int (1 : Int32)), .unset, .unset] [(.int (1 : Int32)), (.int (1 : Int32))])) (fun t k => st23.trans k) ?_
    refine own_s (B := T23.setTop (mkF m 110 #[.val (.int p1), .val (.ref b1), .val (.int (1 : Int32)), .val (.ref (W (1 : Int32))), .val (.int (1 : Int32)), .val (.int (1 : Int32)), .unset, .unset] [(.int (1 : Int32))])) (fun t k => XS.ifYes X23.here hx rfl (pc0 := 100) (pc' := 110) rfl (hb hby at_100) rfl ((if0 _ _).trans (feq (by decide)).2) (by decide) (by decide) k) ?_
    refine own_s (B := T23.setTop (mkF m 111 #[.val (.int p1), .val (.ref b1), .val (.int (1 : Int32)), .val (.ref (W (1 : Int32))), .val (.int (1 : Int32)), .val (.int (1 : Int32)), .unset, .unset] [(.ref (W (1 : Int32))), (.int (1 : Int32))])) (fun t k => XS.aloadN X23.here hx rfl (hb hby at_110) rfl rfl k) ?_
    obtain ⟨cq24, kq24, q24a, q24b, q24c⟩ := isOf hZ e23 ((XW (1 : Int32) (by decide) (by decide)).ext EX)
    obtain ⟨_, _, ⟨T24, L24, k24, n24⟩, -, X24, ⟨Lc24, hQ24, l24, y24, z24⟩, st24⟩ := X23.virtualBack hx (y := (⟨"com/example/formal_courier/formalcourier/crs/CrsDocumentTypeControls$DocumentType", "isNew", "()Z"⟩ : MethodName)) (z := (⟨"com/example/formal_courier/formalcourier/crs/CrsDocumentTypeControls$DocumentType", "isNew", "()Z"⟩ : MethodName)) hown (mvT hZ (hw _ (List.mem_of_getElem? (i := 34) rfl))) (mvT hZ (hw _ (List.mem_of_getElem? (i := 35) rfl))) (notFace_of_selects (args := #[]) (mvT hZ (hw _ (List.mem_of_getElem? (i := 37) rfl)))) (mvT hZ (hw _ (List.mem_of_getElem? (i := 37) rfl))) (mvT hZ (hw _ (List.mem_of_getElem? (i := 36) rfl))) (by decide) (backOf (W := 1) (rm3 l Z a0 hw [] (W (1 : Int32)) W (0 : Int32) h15 n0 (Nat.le_trans Z0 EX.1) (WS.ext EX EW) (own_b0 (fun q => q.elim (own_ne IW 1 0 (by decide)) (own_ne IW 1 3 (by decide))))) hZ (hw _ (List.mem_of_getElem? (i := 38) rfl)) (hw _ (List.mem_of_getElem? (i := 3) rfl)) (by decide) (by decide)) q24a q24c (g := (mkF m 111 #[.val (.int p1), .val (.ref b1), .val (.int (1 : Int32)), .val (.ref (W (1 : Int32))), .val (.int (1 : Int32)), .val (.int (1 : Int32)), .unset, .unset] [(.ref (W (1 : Int32))), (.int (1 : Int32))])) rfl (by rw [hml]; rfl) (Steps.refl _) (argsL := []) (rest := [(.int (1 : Int32))]) (lenOf pd_0 rfl) rfl (by show 2 * 0 + _ ≤ _; exact Nat.le_of_eq rfl) (hb hby at_111) (fun _ _ => ⟨rfl, e23, (by decide : 1 + 0 ≤ _), (by decide : 7 + 0 ≤ _)⟩)
    dsimp only [Pt.U, Pt.locs, Pt.cells, Pt.slots] at X24 l24 y24 z24 st24 hQ24
    subst l24 y24 z24
    obtain ⟨rfl, N24q, e24⟩ := hQ24
    have N24 := Fr.app N23 N24q
    refine own_s (B := T24.setTop (mkF m 114 #[.val (.int p1), .val (.ref b1), .val (.int (1 : Int32)), .val (.ref (W (1 : Int32))), .val (.int (1 : Int32)), .val (.int (1 : Int32)), .unset, .unset] [(.int (0 : Int32)), (.int (1 : Int32))])) (fun t k => st24.trans k) ?_
    refine own_s (B := T24.setTop (mkF m 117 #[.val (.int p1), .val (.ref b1), .val (.int (1 : Int32)), .val (.ref (W (1 : Int32))), .val (.int (1 : Int32)), .val (.int (1 : Int32)), .unset, .unset] [(.int (1 : Int32))])) (fun t k => XS.ifNo X24.here hx rfl (hb hby at_114) rfl ((if0 _ _).trans (teq rfl).2) k) ?_
    refine own_s (B := T24.setTop (mkF m 118 #[.val (.int p1), .val (.ref b1), .val (.int (1 : Int32)), .val (.ref (W (1 : Int32))), .val (.int (1 : Int32)), .val (.int (1 : Int32)), .unset, .unset] [(.int (1 : Int32)), (.int (1 : Int32))])) (fun t k => XS.iconst X24.here hx rfl (hb hby at_117) k) ?_
    refine own_s (B := T24.setTop (mkF m 122 #[.val (.int p1), .val (.ref b1), .val (.int (1 : Int32)), .val (.ref (W (1 : Int32))), .val (.int (1 : Int32)), .val (.int (1 : Int32)), .unset, .unset] [(.int (1 : Int32)), (.int (1 : Int32))])) (fun t k => XS.goto X24.here hx rfl (pc0 := 118) (pc' := 122) rfl (hb hby at_118) (by decide) (by decide) k) ?_
    refine own_s (B := T24.setTop (mkF m 125 #[.val (.int p1), .val (.ref b1), .val (.int (1 : Int32)), .val (.ref (W (1 : Int32))), .val (.int (1 : Int32)), .val (.int (1 : Int32)), .unset, .unset] [])) (fun t k => XS.icmpNo X24.here hx rfl (hb hby at_122) rfl (teq rfl).2 k) ?_
    refine own_s (B := T24.setTop (mkF m 126 #[.val (.int p1), .val (.ref b1), .val (.int (1 : Int32)), .val (.ref (W (1 : Int32))), .val (.int (1 : Int32)), .val (.int (1 : Int32)), .unset, .unset] [(.int (1 : Int32))])) (fun t k => XS.iconst X24.here hx rfl (hb hby at_125) k) ?_
    refine own_s (B := T24.setTop (mkF m 130 #[.val (.int p1), .val (.ref b1), .val (.int (1 : Int32)), .val (.ref (W (1 : Int32))), .val (.int (1 : Int32)), .val (.int (1 : Int32)), .unset, .unset] [(.int (1 : Int32))])) (fun t k => XS.goto X24.here hx rfl (pc0 := 126) (pc' := 130) rfl (hb hby at_126) (by decide) (by decide) k) ?_
    refine own_s (B := T24.setTop (mkF m 132 #[.val (.int p1), .val (.ref b1), .val (.int (1 : Int32)), .val (.ref (W (1 : Int32))), .val (.int (1 : Int32)), .val (.int (1 : Int32)), .val (.int (1 : Int32)), .unset] [])) (fun t k => XS.istore X24.here hx rfl (hb hby at_130) rfl (l' := #[.val (.int p1), .val (.ref b1), .val (.int (1 : Int32)), .val (.ref (W (1 : Int32))), .val (.int (1 : Int32)), .val (.int (1 : Int32)), .val (.int (1 : Int32)), .unset]) rfl k) ?_
    refine own_s (B := T24.setTop (mkF m 133 #[.val (.int p1), .val (.ref b1), .val (.int (1 : Int32)), .val (.ref (W (1 : Int32))), .val (.int (1 : Int32)), .val (.int (1 : Int32)), .val (.int (1 : Int32)), .unset] [(.ref (W (1 : Int32)))])) (fun t k => XS.aloadN X24.here hx rfl (hb hby at_132) rfl rfl k) ?_
    obtain ⟨cq25, kq25, q25a, q25b, q25c⟩ := isOf hZ e24 ((XW (1 : Int32) (by decide) (by decide)).ext EX)
    obtain ⟨_, _, ⟨T25, L25, k25, n25⟩, -, X25, ⟨Lc25, hQ25, l25, y25, z25⟩, st25⟩ := X24.virtualBack hx (y := (⟨"com/example/formal_courier/formalcourier/crs/CrsDocumentTypeControls$DocumentType", "isDeletion", "()Z"⟩ : MethodName)) (z := (⟨"com/example/formal_courier/formalcourier/crs/CrsDocumentTypeControls$DocumentType", "isDeletion", "()Z"⟩ : MethodName)) hown (mvT hZ (hw _ (List.mem_of_getElem? (i := 39) rfl))) (mvT hZ (hw _ (List.mem_of_getElem? (i := 40) rfl))) (notFace_of_selects (args := #[]) (mvT hZ (hw _ (List.mem_of_getElem? (i := 42) rfl)))) (mvT hZ (hw _ (List.mem_of_getElem? (i := 42) rfl))) (mvT hZ (hw _ (List.mem_of_getElem? (i := 41) rfl))) (by decide) (backOf (W := 0) (rm4 l Z a0 hw [] (W (1 : Int32)) W (0 : Int32) h15 n0 (Nat.le_trans Z0 EX.1) (WS.ext EX EW) (own_b0 (fun q => q.elim (own_ne IW 1 2 (by decide)) (own_ne IW 1 5 (by decide))))) hZ (hw _ (List.mem_of_getElem? (i := 43) rfl)) (hw _ (List.mem_of_getElem? (i := 3) rfl)) (by decide) (by decide)) q25a q25c (g := (mkF m 133 #[.val (.int p1), .val (.ref b1), .val (.int (1 : Int32)), .val (.ref (W (1 : Int32))), .val (.int (1 : Int32)), .val (.int (1 : Int32)), .val (.int (1 : Int32)), .unset] [(.ref (W (1 : Int32)))])) rfl (by rw [hml]; rfl) (Steps.refl _) (argsL := []) (rest := []) (lenOf pd_0 rfl) rfl (by show 2 * 0 + _ ≤ _; exact Nat.le_of_eq rfl) (hb hby at_133) (fun _ _ => ⟨rfl, e24, (by decide : 1 + 0 ≤ _), (by decide : 7 + 0 ≤ _)⟩)
    dsimp only [Pt.U, Pt.locs, Pt.cells, Pt.slots] at X25 l25 y25 z25 st25 hQ25
    subst l25 y25 z25
    obtain ⟨rfl, N25q, e25⟩ := hQ25
    have N25 := Fr.app N24 N25q
    refine own_s (B := T25.setTop (mkF m 136 #[.val (.int p1), .val (.ref b1), .val (.int (1 : Int32)), .val (.ref (W (1 : Int32))), .val (.int (1 : Int32)), .val (.int (1 : Int32)), .val (.int (1 : Int32)), .unset] [(.int (0 : Int32))])) (fun t k => st25.trans k) ?_
    refine own_s (B := T25.setTop (mkF m 144 #[.val (.int p1), .val (.ref b1), .val (.int (1 : Int32)), .val (.ref (W (1 : Int32))), .val (.int (1 : Int32)), .val (.int (1 : Int32)), .val (.int (1 : Int32)), .unset] [])) (fun t k => XS.ifYes X25.here hx rfl (pc0 := 136) (pc' := 144) rfl (hb hby at_136) rfl ((if0 _ _).trans (teq rfl).1) (by decide) (by decide) k) ?_
    refine own_s (B := T25.setTop (mkF m 145 #[.val (.int p1), .val (.ref b1), .val (.int (1 : Int32)), .val (.ref (W (1 : Int32))), .val (.int (1 : Int32)), .val (.int (1 : Int32)), .val (.int (1 : Int32)), .unset] [(.int (1 : Int32))])) (fun t k => XS.iconst X25.here hx rfl (hb hby at_144) k) ?_
    refine own_s (B := T25.setTop (mkF m 149 #[.val (.int p1), .val (.ref b1), .val (.int (1 : Int32)), .val (.ref (W (1 : Int32))), .val (.int (1 : Int32)), .val (.int (1 : Int32)), .val (.int (1 : Int32)), .unset] [(.int (1 : Int32))])) (fun t k => XS.goto X25.here hx rfl (pc0 := 145) (pc' := 149) rfl (hb hby at_145) (by decide) (by decide) k) ?_
    refine own_s (B := T25.setTop (mkF m 151 #[.val (.int p1), .val (.ref b1), .val (.int (1 : Int32)), .val (.ref (W (1 : Int32))), .val (.int (1 : Int32)), .val (.int (1 : Int32)), .val (.int (1 : Int32)), .val (.int (1 : Int32))] [])) (fun t k => XS.istore X25.here hx rfl (hb hby at_149) rfl (l' := #[.val (.int p1), .val (.ref b1), .val (.int (1 : Int32)), .val (.ref (W (1 : Int32))), .val (.int (1 : Int32)), .val (.int (1 : Int32)), .val (.int (1 : Int32)), .val (.int (1 : Int32))]) rfl k) ?_
    refine own_s (B := T25.setTop (mkF m 153 #[.val (.int p1), .val (.ref b1), .val (.int (1 : Int32)), .val (.ref (W (1 : Int32))), .val (.int (1 : Int32)), .val (.int (1 : Int32)), .val (.int (1 : Int32)), .val (.int (1 : Int32))] [(.int (1 : Int32))])) (fun t k => XS.iload X25.here hx rfl (hb hby at_151) rfl k) ?_
    refine own_s (B := T25.setTop (mkF m 155 #[.val (.int p1), .val (.ref b1), .val (.int (1 : Int32)), .val (.ref (W (1 : Int32))), .val (.int (1 : Int32)), .val (.int (1 : Int32)), .val (.int (1 : Int32)), .val (.int (1 : Int32))] [(.int (1 : Int32)), (.int (1 : Int32))])) (fun t k => XS.iload X25.here hx rfl (hb hby at_153) rfl k) ?_
    refine own_s (B := T25.setTop (mkF m 158 #[.val (.int p1), .val (.ref b1), .val (.int (1 : Int32)), .val (.ref (W (1 : Int32))), .val (.int (1 : Int32)), .val (.int (1 : Int32)), .val (.int (1 : Int32)), .val (.int (1 : Int32))] [])) (fun t k => XS.icmpNo X25.here hx rfl (hb hby at_155) rfl (teq rfl).2 k) ?_
    refine own_s (B := T25.setTop (mkF m 160 #[.val (.int p1), .val (.ref b1), .val (.int (1 : Int32)), .val (.ref (W (1 : Int32))), .val (.int (1 : Int32)), .val (.int (1 : Int32)), .val (.int (1 : Int32)), .val (.int (1 : Int32))] [(.int (1 : Int32))])) (fun t k => XS.iload X25.here hx rfl (hb hby at_158) rfl k) ?_
    refine own_s (B := T25.setTop (mkF m 163 #[.val (.int p1), .val (.ref b1), .val (.int (1 : Int32)), .val (.ref (W (1 : Int32))), .val (.int (1 : Int32)), .val (.int (1 : Int32)), .val (.int (1 : Int32)), .val (.int (1 : Int32))] [])) (fun t k => XS.ifNo X25.here hx rfl (hb hby at_160) rfl ((if0 _ _).trans (feq (by decide)).1) k) ?_
    refine own_s (B := T25.setTop (mkF m 165 #[.val (.int p1), .val (.ref b1), .val (.int (1 : Int32)), .val (.ref (W (1 : Int32))), .val (.int (1 : Int32)), .val (.int (1 : Int32)), .val (.int (1 : Int32)), .val (.int (1 : Int32))] [(.int (1 : Int32))])) (fun t k => XS.iload X25.here hx rfl (hb hby at_163) rfl k) ?_
    refine own_s (B := T25.setTop (mkF m 168 #[.val (.int p1), .val (.ref b1), .val (.int (1 : Int32)), .val (.ref (W (1 : Int32))), .val (.int (1 : Int32)), .val (.int (1 : Int32)), .val (.int (1 : Int32)), .val (.int (1 : Int32))] [])) (fun t k => XS.ifNo X25.here hx rfl (hb hby at_165) rfl ((if0 _ _).trans (feq (by decide)).1) k) ?_
    refine own_s (B := T25.setTop (mkF m 169 #[.val (.int p1), .val (.ref b1), .val (.int (1 : Int32)), .val (.ref (W (1 : Int32))), .val (.int (1 : Int32)), .val (.int (1 : Int32)), .val (.int (1 : Int32)), .val (.int (1 : Int32))] [(.int (1 : Int32))])) (fun t k => XS.iconst X25.here hx rfl (hb hby at_168) k) ?_
    refine own_s (B := T25.setTop (mkF m 173 #[.val (.int p1), .val (.ref b1), .val (.int (1 : Int32)), .val (.ref (W (1 : Int32))), .val (.int (1 : Int32)), .val (.int (1 : Int32)), .val (.int (1 : Int32)), .val (.int (1 : Int32))] [(.int (1 : Int32))])) (fun t k => XS.goto X25.here hx rfl (pc0 := 169) (pc' := 173) rfl (hb hby at_169) (by decide) (by decide) k) ?_
    exact own_retB X25 hx hlk (t := .boolean) Bd.returns (by simp) (hb hby at_173) (by decide) (by decide) ⟨rfl, N25⟩
  · refine own_s (B := T15.setTop (mkF m 57 #[.val (.int p1), .val (.ref b1), .val (.int (2 : Int32)), .unset, .unset, .unset, .unset, .unset] [])) (fun t k => XS.istoreN X15.here hx rfl (hb hby at_56) rfl (l' := #[.val (.int p1), .val (.ref b1), .val (.int (2 : Int32)), .unset, .unset, .unset, .unset, .unset]) rfl k) ?_
    refine own_s (B := T15.setTop (mkF m 58 #[.val (.int p1), .val (.ref b1), .val (.int (2 : Int32)), .unset, .unset, .unset, .unset, .unset] [(.ref b1)])) (fun t k => XS.aloadN X15.here hx rfl (hb hby at_57) rfl rfl k) ?_
    refine own_s (B := T15.setTop (mkF m 59 #[.val (.int p1), .val (.ref b1), .val (.int (2 : Int32)), .unset, .unset, .unset, .unset, .unset] [(.int (2 : Int32)), (.ref b1)])) (fun t k => XS.iloadN X15.here hx rfl (hb hby at_58) rfl k) ?_
    obtain ⟨cl26, Ar26, q26, Sz26, Nn26, Hs26, G26⟩ := id V_b1
    have hin26 : ¬ ((2 : Int32) < 0 ∨ cl26.slots.size ≤ ((2 : Int32)).toNatClampNeg) := inb_of Sz26 ⟨by decide, by decide⟩
    refine own_s (B := T15.setTop (mkF m 60 #[.val (.int p1), .val (.ref b1), .val (.int (2 : Int32)), .unset, .unset, .unset, .unset, .unset] [(.ref (W (2 : Int32)))])) (fun t k => X15.aaload hx (j := (2 : Int32)) (v := (.ref (W (2 : Int32)))) (by rw [e15]; exact Ar26.1) (State.isArrayOf_alike hZ.alike Ar26.2.1) rfl Ar26.2.2 hin26 (Hs26.at hin26 rfl) (g := (mkF m 59 #[.val (.int p1), .val (.ref b1), .val (.int (2 : Int32)), .unset, .unset, .unset, .unset, .unset] [(.int (2 : Int32)), (.ref b1)])) rfl rfl (hb hby at_59) t k) ?_
    refine own_s (B := T15.setTop (mkF m 61 #[.val (.int p1), .val (.ref b1), .val (.int (2 : Int32)), .val (.ref (W (2 : Int32))), .unset, .unset, .unset, .unset] [])) (fun t k => XS.astoreN X15.here hx rfl (hb hby at_60) rfl rfl (l' := #[.val (.int p1), .val (.ref b1), .val (.int (2 : Int32)), .val (.ref (W (2 : Int32))), .unset, .unset, .unset, .unset]) rfl k) ?_
    refine own_s (B := T15.setTop (mkF m 62 #[.val (.int p1), .val (.ref b1), .val (.int (2 : Int32)), .val (.ref (W (2 : Int32))), .unset, .unset, .unset, .unset] [(.int (2 : Int32))])) (fun t k => XS.iloadN X15.here hx rfl (hb hby at_61) rfl k) ?_
    refine own_s (B := T15.setTop (mkF m 63 #[.val (.int p1), .val (.ref b1), .val (.int (2 : Int32)), .val (.ref (W (2 : Int32))), .unset, .unset, .unset, .unset] [(.int (1 : Int32)), (.int (2 : Int32))])) (fun t k => XS.iconst X15.here hx rfl (hb hby at_62) k) ?_
    refine own_s (B := T15.setTop (mkF m 66 #[.val (.int p1), .val (.ref b1), .val (.int (2 : Int32)), .val (.ref (W (2 : Int32))), .unset, .unset, .unset, .unset] [])) (fun t k => XS.icmpNo X15.here hx rfl (hb hby at_63) rfl (feq (by decide)).1 k) ?_
    refine own_s (B := T15.setTop (mkF m 67 #[.val (.int p1), .val (.ref b1), .val (.int (2 : Int32)), .val (.ref (W (2 : Int32))), .unset, .unset, .unset, .unset] [(.int (2 : Int32))])) (fun t k => XS.iloadN X15.here hx rfl (hb hby at_66) rfl k) ?_
    refine own_s (B := T15.setTop (mkF m 68 #[.val (.int p1), .val (.ref b1), .val (.int (2 : Int32)), .val (.ref (W (2 : Int32))), .unset, .unset, .unset, .unset] [(.int (2 : Int32)), (.int (2 : Int32))])) (fun t k => XS.iconst X15.here hx rfl (hb hby at_67) k) ?_
    refine own_s (B := T15.setTop (mkF m 81 #[.val (.int p1), .val (.ref b1), .val (.int (2 : Int32)), .val (.ref (W (2 : Int32))), .unset, .unset, .unset, .unset] [])) (fun t k => XS.icmpYes X15.here hx rfl (pc0 := 68) (pc' := 81) rfl (hb hby at_68) rfl (teq rfl).1 (by decide) (by decide) k) ?_
    refine own_s (B := T15.setTop (mkF m 82 #[.val (.int p1), .val (.ref b1), .val (.int (2 : Int32)), .val (.ref (W (2 : Int32))), .unset, .unset, .unset, .unset] [(.int (1 : Int32))])) (fun t k => XS.iconst X15.here hx rfl (hb hby at_81) k) ?_
    refine own_s (B := T15.setTop (mkF m 86 #[.val (.int p1), .val (.ref b1), .val (.int (2 : Int32)), .val (.ref (W (2 : Int32))), .unset, .unset, .unset, .unset] [(.int (1 : Int32))])) (fun t k => XS.goto X15.here hx rfl (pc0 := 82) (pc' := 86) rfl (hb hby at_82) (by decide) (by decide) k) ?_
    refine own_s (B := T15.setTop (mkF m 88 #[.val (.int p1), .val (.ref b1), .val (.int (2 : Int32)), .val (.ref (W (2 : Int32))), .val (.int (1 : Int32)), .unset, .unset, .unset] [])) (fun t k => XS.istore X15.here hx rfl (hb hby at_86) rfl (l' := #[.val (.int p1), .val (.ref b1), .val (.int (2 : Int32)), .val (.ref (W (2 : Int32))), .val (.int (1 : Int32)), .unset, .unset, .unset]) rfl k) ?_
    refine own_s (B := T15.setTop (mkF m 89 #[.val (.int p1), .val (.ref b1), .val (.int (2 : Int32)), .val (.ref (W (2 : Int32))), .val (.int (1 : Int32)), .unset, .unset, .unset] [(.ref (W (2 : Int32)))])) (fun t k => XS.aloadN X15.here hx rfl (hb hby at_88) rfl rfl k) ?_
    obtain ⟨cq27, kq27, q27a, q27b, q27c⟩ := isOf hZ e15 ((XW (2 : Int32) (by decide) (by decide)).ext EX)
    obtain ⟨_, _, ⟨T27, L27, k27, n27⟩, -, X27, ⟨Lc27, hQ27, l27, y27, z27⟩, st27⟩ := X15.virtualBack hx (y := (⟨"com/example/formal_courier/formalcourier/crs/CrsDocumentTypeControls$DocumentType", "isReplacement", "()Z"⟩ : MethodName)) (z := (⟨"com/example/formal_courier/formalcourier/crs/CrsDocumentTypeControls$DocumentType", "isReplacement", "()Z"⟩ : MethodName)) hown (mvT hZ (hw _ (List.mem_of_getElem? (i := 19) rfl))) (mvT hZ (hw _ (List.mem_of_getElem? (i := 20) rfl))) (notFace_of_selects (args := #[]) (mvT hZ (hw _ (List.mem_of_getElem? (i := 22) rfl)))) (mvT hZ (hw _ (List.mem_of_getElem? (i := 22) rfl))) (mvT hZ (hw _ (List.mem_of_getElem? (i := 21) rfl))) (by decide) (backOf (W := 0) (rm1 l Z a0 hw [] (W (2 : Int32)) W (1 : Int32) h15 n0 (Nat.le_trans Z0 EX.1) (WS.ext EX EW) (own_b1 (Or.inr (Or.inl rfl)))) hZ (hw _ (List.mem_of_getElem? (i := 23) rfl)) (hw _ (List.mem_of_getElem? (i := 3) rfl)) (by decide) (by decide)) q27a q27c (g := (mkF m 89 #[.val (.int p1), .val (.ref b1), .val (.int (2 : Int32)), .val (.ref (W (2 : Int32))), .val (.int (1 : Int32)), .unset, .unset, .unset] [(.ref (W (2 : Int32)))])) rfl (by rw [hml]; rfl) (Steps.refl _) (argsL := []) (rest := []) (lenOf pd_0 rfl) rfl (by show 2 * 0 + _ ≤ _; exact Nat.le_of_eq rfl) (hb hby at_89) (fun _ _ => ⟨rfl, e15, (by decide : 1 + 0 ≤ _), (by decide : 7 + 0 ≤ _)⟩)
    dsimp only [Pt.U, Pt.locs, Pt.cells, Pt.slots] at X27 l27 y27 z27 st27 hQ27
    subst l27 y27 z27
    obtain ⟨rfl, N27q, e27⟩ := hQ27
    have N27 := Fr.app N15 N27q
    refine own_s (B := T27.setTop (mkF m 92 #[.val (.int p1), .val (.ref b1), .val (.int (2 : Int32)), .val (.ref (W (2 : Int32))), .val (.int (1 : Int32)), .unset, .unset, .unset] [(.int (1 : Int32))])) (fun t k => st27.trans k) ?_
    refine own_s (B := T27.setTop (mkF m 94 #[.val (.int p1), .val (.ref b1), .val (.int (2 : Int32)), .val (.ref (W (2 : Int32))), .val (.int (1 : Int32)), .val (.int (1 : Int32)), .unset, .unset] [])) (fun t k => XS.istore X27.here hx rfl (hb hby at_92) rfl (l' := #[.val (.int p1), .val (.ref b1), .val (.int (2 : Int32)), .val (.ref (W (2 : Int32))), .val (.int (1 : Int32)), .val (.int (1 : Int32)), .unset, .unset]) rfl k) ?_
    refine own_s (B := T27.setTop (mkF m 96 #[.val (.int p1), .val (.ref b1), .val (.int (2 : Int32)), .val (.ref (W (2 : Int32))), .val (.int (1 : Int32)), .val (.int (1 : Int32)), .unset, .unset] [(.int (1 : Int32))])) (fun t k => XS.iload X27.here hx rfl (hb hby at_94) rfl k) ?_
    refine own_s (B := T27.setTop (mkF m 97 #[.val (.int p1), .val (.ref b1), .val (.int (2 : Int32)), .val (.ref (W (2 : Int32))), .val (.int (1 : Int32)), .val (.int (1 : Int32)), .unset, .unset] [(.ref (W (2 : Int32))), (.int (1 : Int32))])) (fun t k => XS.aloadN X27.here hx rfl (hb hby at_96) rfl rfl k) ?_
    obtain ⟨cq28, kq28, q28a, q28b, q28c⟩ := isOf hZ e27 ((XW (2 : Int32) (by decide) (by decide)).ext EX)
    obtain ⟨_, _, ⟨T28, L28, k28, n28⟩, -, X28, ⟨Lc28, hQ28, l28, y28, z28⟩, st28⟩ := X27.virtualBack hx (y := (⟨"com/example/formal_courier/formalcourier/crs/CrsDocumentTypeControls$DocumentType", "isProduction", "()Z"⟩ : MethodName)) (z := (⟨"com/example/formal_courier/formalcourier/crs/CrsDocumentTypeControls$DocumentType", "isProduction", "()Z"⟩ : MethodName)) hown (mvT hZ (hw _ (List.mem_of_getElem? (i := 28) rfl))) (mvT hZ (hw _ (List.mem_of_getElem? (i := 29) rfl))) (notFace_of_selects (args := #[]) (mvT hZ (hw _ (List.mem_of_getElem? (i := 31) rfl)))) (mvT hZ (hw _ (List.mem_of_getElem? (i := 31) rfl))) (mvT hZ (hw _ (List.mem_of_getElem? (i := 30) rfl))) (by decide) (backOf (W := 1) (rm2 l Z a0 hw [] (W (2 : Int32)) W (1 : Int32) h15 n0 (Nat.le_trans Z0 EX.1) (WS.ext EX EW) (own_b1 (Or.inr (Or.inr rfl)))) hZ (hw _ (List.mem_of_getElem? (i := 32) rfl)) (hw _ (List.mem_of_getElem? (i := 3) rfl)) (by decide) (by decide)) q28a q28c (g := (mkF m 97 #[.val (.int p1), .val (.ref b1), .val (.int (2 : Int32)), .val (.ref (W (2 : Int32))), .val (.int (1 : Int32)), .val (.int (1 : Int32)), .unset, .unset] [(.ref (W (2 : Int32))), (.int (1 : Int32))])) rfl (by rw [hml]; rfl) (Steps.refl _) (argsL := []) (rest := [(.int (1 : Int32))]) (lenOf pd_0 rfl) rfl (by show 2 * 0 + _ ≤ _; exact Nat.le_of_eq rfl) (hb hby at_97) (fun _ _ => ⟨rfl, e27, (by decide : 1 + 0 ≤ _), (by decide : 7 + 0 ≤ _)⟩)
    dsimp only [Pt.U, Pt.locs, Pt.cells, Pt.slots] at X28 l28 y28 z28 st28 hQ28
    subst l28 y28 z28
    obtain ⟨rfl, N28q, e28⟩ := hQ28
    have N28 := Fr.app N27 N28q
    refine own_s (B := T28.setTop (mkF m 100 #[.val (.int p1), .val (.ref b1), .val (.int (2 : Int32)), .val (.ref (W (2 : Int32))), .val (.int (1 : Int32)), .val (.int (1 : Int32)), .unset, .unset] [(.int (1 : Int32)), (.int (1 : Int32))])) (fun t k => st28.trans k) ?_
    refine own_s (B := T28.setTop (mkF m 110 #[.val (.int p1), .val (.ref b1), .val (.int (2 : Int32)), .val (.ref (W (2 : Int32))), .val (.int (1 : Int32)), .val (.int (1 : Int32)), .unset, .unset] [(.int (1 : Int32))])) (fun t k => XS.ifYes X28.here hx rfl (pc0 := 100) (pc' := 110) rfl (hb hby at_100) rfl ((if0 _ _).trans (feq (by decide)).2) (by decide) (by decide) k) ?_
    refine own_s (B := T28.setTop (mkF m 111 #[.val (.int p1), .val (.ref b1), .val (.int (2 : Int32)), .val (.ref (W (2 : Int32))), .val (.int (1 : Int32)), .val (.int (1 : Int32)), .unset, .unset] [(.ref (W (2 : Int32))), (.int (1 : Int32))])) (fun t k => XS.aloadN X28.here hx rfl (hb hby at_110) rfl rfl k) ?_
    obtain ⟨cq29, kq29, q29a, q29b, q29c⟩ := isOf hZ e28 ((XW (2 : Int32) (by decide) (by decide)).ext EX)
    obtain ⟨_, _, ⟨T29, L29, k29, n29⟩, -, X29, ⟨Lc29, hQ29, l29, y29, z29⟩, st29⟩ := X28.virtualBack hx (y := (⟨"com/example/formal_courier/formalcourier/crs/CrsDocumentTypeControls$DocumentType", "isNew", "()Z"⟩ : MethodName)) (z := (⟨"com/example/formal_courier/formalcourier/crs/CrsDocumentTypeControls$DocumentType", "isNew", "()Z"⟩ : MethodName)) hown (mvT hZ (hw _ (List.mem_of_getElem? (i := 34) rfl))) (mvT hZ (hw _ (List.mem_of_getElem? (i := 35) rfl))) (notFace_of_selects (args := #[]) (mvT hZ (hw _ (List.mem_of_getElem? (i := 37) rfl)))) (mvT hZ (hw _ (List.mem_of_getElem? (i := 37) rfl))) (mvT hZ (hw _ (List.mem_of_getElem? (i := 36) rfl))) (by decide) (backOf (W := 1) (rm3 l Z a0 hw [] (W (2 : Int32)) W (0 : Int32) h15 n0 (Nat.le_trans Z0 EX.1) (WS.ext EX EW) (own_b0 (fun q => q.elim (own_ne IW 2 0 (by decide)) (own_ne IW 2 3 (by decide))))) hZ (hw _ (List.mem_of_getElem? (i := 38) rfl)) (hw _ (List.mem_of_getElem? (i := 3) rfl)) (by decide) (by decide)) q29a q29c (g := (mkF m 111 #[.val (.int p1), .val (.ref b1), .val (.int (2 : Int32)), .val (.ref (W (2 : Int32))), .val (.int (1 : Int32)), .val (.int (1 : Int32)), .unset, .unset] [(.ref (W (2 : Int32))), (.int (1 : Int32))])) rfl (by rw [hml]; rfl) (Steps.refl _) (argsL := []) (rest := [(.int (1 : Int32))]) (lenOf pd_0 rfl) rfl (by show 2 * 0 + _ ≤ _; exact Nat.le_of_eq rfl) (hb hby at_111) (fun _ _ => ⟨rfl, e28, (by decide : 1 + 0 ≤ _), (by decide : 7 + 0 ≤ _)⟩)
    dsimp only [Pt.U, Pt.locs, Pt.cells, Pt.slots] at X29 l29 y29 z29 st29 hQ29
    subst l29 y29 z29
    obtain ⟨rfl, N29q, e29⟩ := hQ29
    have N29 := Fr.app N28 N29q
    refine own_s (B := T29.setTop (mkF m 114 #[.val (.int p1), .val (.ref b1), .val (.int (2 : Int32)), .val (.ref (W (2 : Int32))), .val (.int (1 : Int32)), .val (.int (1 : Int32)), .unset, .unset] [(.int (0 : Int32)), (.int (1 : Int32))])) (fun t k => st29.trans k) ?_
    refine own_s (B := T29.setTop (mkF m 117 #[.val (.int p1), .val (.ref b1), .val (.int (2 : Int32)), .val (.ref (W (2 : Int32))), .val (.int (1 : Int32)), .val (.int (1 : Int32)), .unset, .unset] [(.int (1 : Int32))])) (fun t k => XS.ifNo X29.here hx rfl (hb hby at_114) rfl ((if0 _ _).trans (teq rfl).2) k) ?_
    refine own_s (B := T29.setTop (mkF m 118 #[.val (.int p1), .val (.ref b1), .val (.int (2 : Int32)), .val (.ref (W (2 : Int32))), .val (.int (1 : Int32)), .val (.int (1 : Int32)), .unset, .unset] [(.int (1 : Int32)), (.int (1 : Int32))])) (fun t k => XS.iconst X29.here hx rfl (hb hby at_117) k) ?_
    refine own_s (B := T29.setTop (mkF m 122 #[.val (.int p1), .val (.ref b1), .val (.int (2 : Int32)), .val (.ref (W (2 : Int32))), .val (.int (1 : Int32)), .val (.int (1 : Int32)), .unset, .unset] [(.int (1 : Int32)), (.int (1 : Int32))])) (fun t k => XS.goto X29.here hx rfl (pc0 := 118) (pc' := 122) rfl (hb hby at_118) (by decide) (by decide) k) ?_
    refine own_s (B := T29.setTop (mkF m 125 #[.val (.int p1), .val (.ref b1), .val (.int (2 : Int32)), .val (.ref (W (2 : Int32))), .val (.int (1 : Int32)), .val (.int (1 : Int32)), .unset, .unset] [])) (fun t k => XS.icmpNo X29.here hx rfl (hb hby at_122) rfl (teq rfl).2 k) ?_
    refine own_s (B := T29.setTop (mkF m 126 #[.val (.int p1), .val (.ref b1), .val (.int (2 : Int32)), .val (.ref (W (2 : Int32))), .val (.int (1 : Int32)), .val (.int (1 : Int32)), .unset, .unset] [(.int (1 : Int32))])) (fun t k => XS.iconst X29.here hx rfl (hb hby at_125) k) ?_
    refine own_s (B := T29.setTop (mkF m 130 #[.val (.int p1), .val (.ref b1), .val (.int (2 : Int32)), .val (.ref (W (2 : Int32))), .val (.int (1 : Int32)), .val (.int (1 : Int32)), .unset, .unset] [(.int (1 : Int32))])) (fun t k => XS.goto X29.here hx rfl (pc0 := 126) (pc' := 130) rfl (hb hby at_126) (by decide) (by decide) k) ?_
    refine own_s (B := T29.setTop (mkF m 132 #[.val (.int p1), .val (.ref b1), .val (.int (2 : Int32)), .val (.ref (W (2 : Int32))), .val (.int (1 : Int32)), .val (.int (1 : Int32)), .val (.int (1 : Int32)), .unset] [])) (fun t k => XS.istore X29.here hx rfl (hb hby at_130) rfl (l' := #[.val (.int p1), .val (.ref b1), .val (.int (2 : Int32)), .val (.ref (W (2 : Int32))), .val (.int (1 : Int32)), .val (.int (1 : Int32)), .val (.int (1 : Int32)), .unset]) rfl k) ?_
    refine own_s (B := T29.setTop (mkF m 133 #[.val (.int p1), .val (.ref b1), .val (.int (2 : Int32)), .val (.ref (W (2 : Int32))), .val (.int (1 : Int32)), .val (.int (1 : Int32)), .val (.int (1 : Int32)), .unset] [(.ref (W (2 : Int32)))])) (fun t k => XS.aloadN X29.here hx rfl (hb hby at_132) rfl rfl k) ?_
    obtain ⟨cq30, kq30, q30a, q30b, q30c⟩ := isOf hZ e29 ((XW (2 : Int32) (by decide) (by decide)).ext EX)
    obtain ⟨_, _, ⟨T30, L30, k30, n30⟩, -, X30, ⟨Lc30, hQ30, l30, y30, z30⟩, st30⟩ := X29.virtualBack hx (y := (⟨"com/example/formal_courier/formalcourier/crs/CrsDocumentTypeControls$DocumentType", "isDeletion", "()Z"⟩ : MethodName)) (z := (⟨"com/example/formal_courier/formalcourier/crs/CrsDocumentTypeControls$DocumentType", "isDeletion", "()Z"⟩ : MethodName)) hown (mvT hZ (hw _ (List.mem_of_getElem? (i := 39) rfl))) (mvT hZ (hw _ (List.mem_of_getElem? (i := 40) rfl))) (notFace_of_selects (args := #[]) (mvT hZ (hw _ (List.mem_of_getElem? (i := 42) rfl)))) (mvT hZ (hw _ (List.mem_of_getElem? (i := 42) rfl))) (mvT hZ (hw _ (List.mem_of_getElem? (i := 41) rfl))) (by decide) (backOf (W := 0) (rm4 l Z a0 hw [] (W (2 : Int32)) W (1 : Int32) h15 n0 (Nat.le_trans Z0 EX.1) (WS.ext EX EW) (own_b1 (Or.inl rfl))) hZ (hw _ (List.mem_of_getElem? (i := 43) rfl)) (hw _ (List.mem_of_getElem? (i := 3) rfl)) (by decide) (by decide)) q30a q30c (g := (mkF m 133 #[.val (.int p1), .val (.ref b1), .val (.int (2 : Int32)), .val (.ref (W (2 : Int32))), .val (.int (1 : Int32)), .val (.int (1 : Int32)), .val (.int (1 : Int32)), .unset] [(.ref (W (2 : Int32)))])) rfl (by rw [hml]; rfl) (Steps.refl _) (argsL := []) (rest := []) (lenOf pd_0 rfl) rfl (by show 2 * 0 + _ ≤ _; exact Nat.le_of_eq rfl) (hb hby at_133) (fun _ _ => ⟨rfl, e29, (by decide : 1 + 0 ≤ _), (by decide : 7 + 0 ≤ _)⟩)
    dsimp only [Pt.U, Pt.locs, Pt.cells, Pt.slots] at X30 l30 y30 z30 st30 hQ30
    subst l30 y30 z30
    obtain ⟨rfl, N30q, e30⟩ := hQ30
    have N30 := Fr.app N29 N30q
    refine own_s (B := T30.setTop (mkF m 136 #[.val (.int p1), .val (.ref b1), .val (.int (2 : Int32)), .val (.ref (W (2 : Int32))), .val (.int (1 : Int32)), .val (.int (1 : Int32)), .val (.int (1 : Int32)), .unset] [(.int (1 : Int32))])) (fun t k => st30.trans k) ?_
    refine own_s (B := T30.setTop (mkF m 139 #[.val (.int p1), .val (.ref b1), .val (.int (2 : Int32)), .val (.ref (W (2 : Int32))), .val (.int (1 : Int32)), .val (.int (1 : Int32)), .val (.int (1 : Int32)), .unset] [])) (fun t k => XS.ifNo X30.here hx rfl (hb hby at_136) rfl ((if0 _ _).trans (feq (by decide)).1) k) ?_
    refine own_s (B := T30.setTop (mkF m 141 #[.val (.int p1), .val (.ref b1), .val (.int (2 : Int32)), .val (.ref (W (2 : Int32))), .val (.int (1 : Int32)), .val (.int (1 : Int32)), .val (.int (1 : Int32)), .unset] [(.int (1 : Int32))])) (fun t k => XS.iload X30.here hx rfl (hb hby at_139) rfl k) ?_
    refine own_s (B := T30.setTop (mkF m 144 #[.val (.int p1), .val (.ref b1), .val (.int (2 : Int32)), .val (.ref (W (2 : Int32))), .val (.int (1 : Int32)), .val (.int (1 : Int32)), .val (.int (1 : Int32)), .unset] [])) (fun t k => XS.ifNo X30.here hx rfl (hb hby at_141) rfl ((if0 _ _).trans (feq (by decide)).1) k) ?_
    refine own_s (B := T30.setTop (mkF m 145 #[.val (.int p1), .val (.ref b1), .val (.int (2 : Int32)), .val (.ref (W (2 : Int32))), .val (.int (1 : Int32)), .val (.int (1 : Int32)), .val (.int (1 : Int32)), .unset] [(.int (1 : Int32))])) (fun t k => XS.iconst X30.here hx rfl (hb hby at_144) k) ?_
    refine own_s (B := T30.setTop (mkF m 149 #[.val (.int p1), .val (.ref b1), .val (.int (2 : Int32)), .val (.ref (W (2 : Int32))), .val (.int (1 : Int32)), .val (.int (1 : Int32)), .val (.int (1 : Int32)), .unset] [(.int (1 : Int32))])) (fun t k => XS.goto X30.here hx rfl (pc0 := 145) (pc' := 149) rfl (hb hby at_145) (by decide) (by decide) k) ?_
    refine own_s (B := T30.setTop (mkF m 151 #[.val (.int p1), .val (.ref b1), .val (.int (2 : Int32)), .val (.ref (W (2 : Int32))), .val (.int (1 : Int32)), .val (.int (1 : Int32)), .val (.int (1 : Int32)), .val (.int (1 : Int32))] [])) (fun t k => XS.istore X30.here hx rfl (hb hby at_149) rfl (l' := #[.val (.int p1), .val (.ref b1), .val (.int (2 : Int32)), .val (.ref (W (2 : Int32))), .val (.int (1 : Int32)), .val (.int (1 : Int32)), .val (.int (1 : Int32)), .val (.int (1 : Int32))]) rfl k) ?_
    refine own_s (B := T30.setTop (mkF m 153 #[.val (.int p1), .val (.ref b1), .val (.int (2 : Int32)), .val (.ref (W (2 : Int32))), .val (.int (1 : Int32)), .val (.int (1 : Int32)), .val (.int (1 : Int32)), .val (.int (1 : Int32))] [(.int (1 : Int32))])) (fun t k => XS.iload X30.here hx rfl (hb hby at_151) rfl k) ?_
    refine own_s (B := T30.setTop (mkF m 155 #[.val (.int p1), .val (.ref b1), .val (.int (2 : Int32)), .val (.ref (W (2 : Int32))), .val (.int (1 : Int32)), .val (.int (1 : Int32)), .val (.int (1 : Int32)), .val (.int (1 : Int32))] [(.int (1 : Int32)), (.int (1 : Int32))])) (fun t k => XS.iload X30.here hx rfl (hb hby at_153) rfl k) ?_
    refine own_s (B := T30.setTop (mkF m 158 #[.val (.int p1), .val (.ref b1), .val (.int (2 : Int32)), .val (.ref (W (2 : Int32))), .val (.int (1 : Int32)), .val (.int (1 : Int32)), .val (.int (1 : Int32)), .val (.int (1 : Int32))] [])) (fun t k => XS.icmpNo X30.here hx rfl (hb hby at_155) rfl (teq rfl).2 k) ?_
    refine own_s (B := T30.setTop (mkF m 160 #[.val (.int p1), .val (.ref b1), .val (.int (2 : Int32)), .val (.ref (W (2 : Int32))), .val (.int (1 : Int32)), .val (.int (1 : Int32)), .val (.int (1 : Int32)), .val (.int (1 : Int32))] [(.int (1 : Int32))])) (fun t k => XS.iload X30.here hx rfl (hb hby at_158) rfl k) ?_
    refine own_s (B := T30.setTop (mkF m 163 #[.val (.int p1), .val (.ref b1), .val (.int (2 : Int32)), .val (.ref (W (2 : Int32))), .val (.int (1 : Int32)), .val (.int (1 : Int32)), .val (.int (1 : Int32)), .val (.int (1 : Int32))] [])) (fun t k => XS.ifNo X30.here hx rfl (hb hby at_160) rfl ((if0 _ _).trans (feq (by decide)).1) k) ?_
    refine own_s (B := T30.setTop (mkF m 165 #[.val (.int p1), .val (.ref b1), .val (.int (2 : Int32)), .val (.ref (W (2 : Int32))), .val (.int (1 : Int32)), .val (.int (1 : Int32)), .val (.int (1 : Int32)), .val (.int (1 : Int32))] [(.int (1 : Int32))])) (fun t k => XS.iload X30.here hx rfl (hb hby at_163) rfl k) ?_
    refine own_s (B := T30.setTop (mkF m 168 #[.val (.int p1), .val (.ref b1), .val (.int (2 : Int32)), .val (.ref (W (2 : Int32))), .val (.int (1 : Int32)), .val (.int (1 : Int32)), .val (.int (1 : Int32)), .val (.int (1 : Int32))] [])) (fun t k => XS.ifNo X30.here hx rfl (hb hby at_165) rfl ((if0 _ _).trans (feq (by decide)).1) k) ?_
    refine own_s (B := T30.setTop (mkF m 169 #[.val (.int p1), .val (.ref b1), .val (.int (2 : Int32)), .val (.ref (W (2 : Int32))), .val (.int (1 : Int32)), .val (.int (1 : Int32)), .val (.int (1 : Int32)), .val (.int (1 : Int32))] [(.int (1 : Int32))])) (fun t k => XS.iconst X30.here hx rfl (hb hby at_168) k) ?_
    refine own_s (B := T30.setTop (mkF m 173 #[.val (.int p1), .val (.ref b1), .val (.int (2 : Int32)), .val (.ref (W (2 : Int32))), .val (.int (1 : Int32)), .val (.int (1 : Int32)), .val (.int (1 : Int32)), .val (.int (1 : Int32))] [(.int (1 : Int32))])) (fun t k => XS.goto X30.here hx rfl (pc0 := 169) (pc' := 173) rfl (hb hby at_169) (by decide) (by decide) k) ?_
    exact own_retB X30 hx hlk (t := .boolean) Bd.returns (by simp) (hb hby at_173) (by decide) (by decide) ⟨rfl, N30⟩
  · refine own_s (B := T15.setTop (mkF m 57 #[.val (.int p1), .val (.ref b1), .val (.int (3 : Int32)), .unset, .unset, .unset, .unset, .unset] [])) (fun t k => XS.istoreN X15.here hx rfl (hb hby at_56) rfl (l' := #[.val (.int p1), .val (.ref b1), .val (.int (3 : Int32)), .unset, .unset, .unset, .unset, .unset]) rfl k) ?_
    refine own_s (B := T15.setTop (mkF m 58 #[.val (.int p1), .val (.ref b1), .val (.int (3 : Int32)), .unset, .unset, .unset, .unset, .unset] [(.ref b1)])) (fun t k => XS.aloadN X15.here hx rfl (hb hby at_57) rfl rfl k) ?_
    refine own_s (B := T15.setTop (mkF m 59 #[.val (.int p1), .val (.ref b1), .val (.int (3 : Int32)), .unset, .unset, .unset, .unset, .unset] [(.int (3 : Int32)), (.ref b1)])) (fun t k => XS.iloadN X15.here hx rfl (hb hby at_58) rfl k) ?_
    obtain ⟨cl31, Ar31, q31, Sz31, Nn31, Hs31, G31⟩ := id V_b1
    have hin31 : ¬ ((3 : Int32) < 0 ∨ cl31.slots.size ≤ ((3 : Int32)).toNatClampNeg) := inb_of Sz31 ⟨by decide, by decide⟩
    refine own_s (B := T15.setTop (mkF m 60 #[.val (.int p1), .val (.ref b1), .val (.int (3 : Int32)), .unset, .unset, .unset, .unset, .unset] [(.ref (W (3 : Int32)))])) (fun t k => X15.aaload hx (j := (3 : Int32)) (v := (.ref (W (3 : Int32)))) (by rw [e15]; exact Ar31.1) (State.isArrayOf_alike hZ.alike Ar31.2.1) rfl Ar31.2.2 hin31 (Hs31.at hin31 rfl) (g := (mkF m 59 #[.val (.int p1), .val (.ref b1), .val (.int (3 : Int32)), .unset, .unset, .unset, .unset, .unset] [(.int (3 : Int32)), (.ref b1)])) rfl rfl (hb hby at_59) t k) ?_
    refine own_s (B := T15.setTop (mkF m 61 #[.val (.int p1), .val (.ref b1), .val (.int (3 : Int32)), .val (.ref (W (3 : Int32))), .unset, .unset, .unset, .unset] [])) (fun t k => XS.astoreN X15.here hx rfl (hb hby at_60) rfl rfl (l' := #[.val (.int p1), .val (.ref b1), .val (.int (3 : Int32)), .val (.ref (W (3 : Int32))), .unset, .unset, .unset, .unset]) rfl k) ?_
    refine own_s (B := T15.setTop (mkF m 62 #[.val (.int p1), .val (.ref b1), .val (.int (3 : Int32)), .val (.ref (W (3 : Int32))), .unset, .unset, .unset, .unset] [(.int (3 : Int32))])) (fun t k => XS.iloadN X15.here hx rfl (hb hby at_61) rfl k) ?_
    refine own_s (B := T15.setTop (mkF m 63 #[.val (.int p1), .val (.ref b1), .val (.int (3 : Int32)), .val (.ref (W (3 : Int32))), .unset, .unset, .unset, .unset] [(.int (1 : Int32)), (.int (3 : Int32))])) (fun t k => XS.iconst X15.here hx rfl (hb hby at_62) k) ?_
    refine own_s (B := T15.setTop (mkF m 66 #[.val (.int p1), .val (.ref b1), .val (.int (3 : Int32)), .val (.ref (W (3 : Int32))), .unset, .unset, .unset, .unset] [])) (fun t k => XS.icmpNo X15.here hx rfl (hb hby at_63) rfl (feq (by decide)).1 k) ?_
    refine own_s (B := T15.setTop (mkF m 67 #[.val (.int p1), .val (.ref b1), .val (.int (3 : Int32)), .val (.ref (W (3 : Int32))), .unset, .unset, .unset, .unset] [(.int (3 : Int32))])) (fun t k => XS.iloadN X15.here hx rfl (hb hby at_66) rfl k) ?_
    refine own_s (B := T15.setTop (mkF m 68 #[.val (.int p1), .val (.ref b1), .val (.int (3 : Int32)), .val (.ref (W (3 : Int32))), .unset, .unset, .unset, .unset] [(.int (2 : Int32)), (.int (3 : Int32))])) (fun t k => XS.iconst X15.here hx rfl (hb hby at_67) k) ?_
    refine own_s (B := T15.setTop (mkF m 71 #[.val (.int p1), .val (.ref b1), .val (.int (3 : Int32)), .val (.ref (W (3 : Int32))), .unset, .unset, .unset, .unset] [])) (fun t k => XS.icmpNo X15.here hx rfl (hb hby at_68) rfl (feq (by decide)).1 k) ?_
    refine own_s (B := T15.setTop (mkF m 72 #[.val (.int p1), .val (.ref b1), .val (.int (3 : Int32)), .val (.ref (W (3 : Int32))), .unset, .unset, .unset, .unset] [(.int (3 : Int32))])) (fun t k => XS.iloadN X15.here hx rfl (hb hby at_71) rfl k) ?_
    refine own_s (B := T15.setTop (mkF m 73 #[.val (.int p1), .val (.ref b1), .val (.int (3 : Int32)), .val (.ref (W (3 : Int32))), .unset, .unset, .unset, .unset] [(.int (4 : Int32)), (.int (3 : Int32))])) (fun t k => XS.iconst X15.here hx rfl (hb hby at_72) k) ?_
    refine own_s (B := T15.setTop (mkF m 76 #[.val (.int p1), .val (.ref b1), .val (.int (3 : Int32)), .val (.ref (W (3 : Int32))), .unset, .unset, .unset, .unset] [])) (fun t k => XS.icmpNo X15.here hx rfl (hb hby at_73) rfl (feq (by decide)).1 k) ?_
    refine own_s (B := T15.setTop (mkF m 77 #[.val (.int p1), .val (.ref b1), .val (.int (3 : Int32)), .val (.ref (W (3 : Int32))), .unset, .unset, .unset, .unset] [(.int (3 : Int32))])) (fun t k => XS.iloadN X15.here hx rfl (hb hby at_76) rfl k) ?_
    refine own_s (B := T15.setTop (mkF m 78 #[.val (.int p1), .val (.ref b1), .val (.int (3 : Int32)), .val (.ref (W (3 : Int32))), .unset, .unset, .unset, .unset] [(.int (5 : Int32)), (.int (3 : Int32))])) (fun t k => XS.iconst X15.here hx rfl (hb hby at_77) k) ?_
    refine own_s (B := T15.setTop (mkF m 85 #[.val (.int p1), .val (.ref b1), .val (.int (3 : Int32)), .val (.ref (W (3 : Int32))), .unset, .unset, .unset, .unset] [])) (fun t k => XS.icmpYes X15.here hx rfl (pc0 := 78) (pc' := 85) rfl (hb hby at_78) rfl (feq (by decide)).2 (by decide) (by decide) k) ?_
    refine own_s (B := T15.setTop (mkF m 86 #[.val (.int p1), .val (.ref b1), .val (.int (3 : Int32)), .val (.ref (W (3 : Int32))), .unset, .unset, .unset, .unset] [(.int (0 : Int32))])) (fun t k => XS.iconst X15.here hx rfl (hb hby at_85) k) ?_
    refine own_s (B := T15.setTop (mkF m 88 #[.val (.int p1), .val (.ref b1), .val (.int (3 : Int32)), .val (.ref (W (3 : Int32))), .val (.int (0 : Int32)), .unset, .unset, .unset] [])) (fun t k => XS.istore X15.here hx rfl (hb hby at_86) rfl (l' := #[.val (.int p1), .val (.ref b1), .val (.int (3 : Int32)), .val (.ref (W (3 : Int32))), .val (.int (0 : Int32)), .unset, .unset, .unset]) rfl k) ?_
    refine own_s (B := T15.setTop (mkF m 89 #[.val (.int p1), .val (.ref b1), .val (.int (3 : Int32)), .val (.ref (W (3 : Int32))), .val (.int (0 : Int32)), .unset, .unset, .unset] [(.ref (W (3 : Int32)))])) (fun t k => XS.aloadN X15.here hx rfl (hb hby at_88) rfl rfl k) ?_
    obtain ⟨cq32, kq32, q32a, q32b, q32c⟩ := isOf hZ e15 ((XW (3 : Int32) (by decide) (by decide)).ext EX)
    obtain ⟨_, _, ⟨T32, L32, k32, n32⟩, -, X32, ⟨Lc32, hQ32, l32, y32, z32⟩, st32⟩ := X15.virtualBack hx (y := (⟨"com/example/formal_courier/formalcourier/crs/CrsDocumentTypeControls$DocumentType", "isReplacement", "()Z"⟩ : MethodName)) (z := (⟨"com/example/formal_courier/formalcourier/crs/CrsDocumentTypeControls$DocumentType", "isReplacement", "()Z"⟩ : MethodName)) hown (mvT hZ (hw _ (List.mem_of_getElem? (i := 19) rfl))) (mvT hZ (hw _ (List.mem_of_getElem? (i := 20) rfl))) (notFace_of_selects (args := #[]) (mvT hZ (hw _ (List.mem_of_getElem? (i := 22) rfl)))) (mvT hZ (hw _ (List.mem_of_getElem? (i := 22) rfl))) (mvT hZ (hw _ (List.mem_of_getElem? (i := 21) rfl))) (by decide) (backOf (W := 0) (rm1 l Z a0 hw [] (W (3 : Int32)) W (0 : Int32) h15 n0 (Nat.le_trans Z0 EX.1) (WS.ext EX EW) (own_b0 (fun q => q.elim (own_ne IW 3 1 (by decide)) (fun q => q.elim (own_ne IW 3 2 (by decide)) (fun q => q.elim (own_ne IW 3 4 (by decide)) (own_ne IW 3 5 (by decide))))))) hZ (hw _ (List.mem_of_getElem? (i := 23) rfl)) (hw _ (List.mem_of_getElem? (i := 3) rfl)) (by decide) (by decide)) q32a q32c (g := (mkF m 89 #[.val (.int p1), .val (.ref b1), .val (.int (3 : Int32)), .val (.ref (W (3 : Int32))), .val (.int (0 : Int32)), .unset, .unset, .unset] [(.ref (W (3 : Int32)))])) rfl (by rw [hml]; rfl) (Steps.refl _) (argsL := []) (rest := []) (lenOf pd_0 rfl) rfl (by show 2 * 0 + _ ≤ _; exact Nat.le_of_eq rfl) (hb hby at_89) (fun _ _ => ⟨rfl, e15, (by decide : 1 + 0 ≤ _), (by decide : 7 + 0 ≤ _)⟩)
    dsimp only [Pt.U, Pt.locs, Pt.cells, Pt.slots] at X32 l32 y32 z32 st32 hQ32
    subst l32 y32 z32
    obtain ⟨rfl, N32q, e32⟩ := hQ32
    have N32 := Fr.app N15 N32q
    refine own_s (B := T32.setTop (mkF m 92 #[.val (.int p1), .val (.ref b1), .val (.int (3 : Int32)), .val (.ref (W (3 : Int32))), .val (.int (0 : Int32)), .unset, .unset, .unset] [(.int (0 : Int32))])) (fun t k => st32.trans k) ?_
    refine own_s (B := T32.setTop (mkF m 94 #[.val (.int p1), .val (.ref b1), .val (.int (3 : Int32)), .val (.ref (W (3 : Int32))), .val (.int (0 : Int32)), .val (.int (0 : Int32)), .unset, .unset] [])) (fun t k => XS.istore X32.here hx rfl (hb hby at_92) rfl (l' := #[.val (.int p1), .val (.ref b1), .val (.int (3 : Int32)), .val (.ref (W (3 : Int32))), .val (.int (0 : Int32)), .val (.int (0 : Int32)), .unset, .unset]) rfl k) ?_
    refine own_s (B := T32.setTop (mkF m 96 #[.val (.int p1), .val (.ref b1), .val (.int (3 : Int32)), .val (.ref (W (3 : Int32))), .val (.int (0 : Int32)), .val (.int (0 : Int32)), .unset, .unset] [(.int (0 : Int32))])) (fun t k => XS.iload X32.here hx rfl (hb hby at_94) rfl k) ?_
    refine own_s (B := T32.setTop (mkF m 97 #[.val (.int p1), .val (.ref b1), .val (.int (3 : Int32)), .val (.ref (W (3 : Int32))), .val (.int (0 : Int32)), .val (.int (0 : Int32)), .unset, .unset] [(.ref (W (3 : Int32))), (.int (0 : Int32))])) (fun t k => XS.aloadN X32.here hx rfl (hb hby at_96) rfl rfl k) ?_
    obtain ⟨cq33, kq33, q33a, q33b, q33c⟩ := isOf hZ e32 ((XW (3 : Int32) (by decide) (by decide)).ext EX)
    obtain ⟨_, _, ⟨T33, L33, k33, n33⟩, -, X33, ⟨Lc33, hQ33, l33, y33, z33⟩, st33⟩ := X32.virtualBack hx (y := (⟨"com/example/formal_courier/formalcourier/crs/CrsDocumentTypeControls$DocumentType", "isProduction", "()Z"⟩ : MethodName)) (z := (⟨"com/example/formal_courier/formalcourier/crs/CrsDocumentTypeControls$DocumentType", "isProduction", "()Z"⟩ : MethodName)) hown (mvT hZ (hw _ (List.mem_of_getElem? (i := 28) rfl))) (mvT hZ (hw _ (List.mem_of_getElem? (i := 29) rfl))) (notFace_of_selects (args := #[]) (mvT hZ (hw _ (List.mem_of_getElem? (i := 31) rfl)))) (mvT hZ (hw _ (List.mem_of_getElem? (i := 31) rfl))) (mvT hZ (hw _ (List.mem_of_getElem? (i := 30) rfl))) (by decide) (backOf (W := 1) (rm2 l Z a0 hw [] (W (3 : Int32)) W (0 : Int32) h15 n0 (Nat.le_trans Z0 EX.1) (WS.ext EX EW) (own_b0 (fun q => q.elim (own_ne IW 3 0 (by decide)) (fun q => q.elim (own_ne IW 3 1 (by decide)) (own_ne IW 3 2 (by decide)))))) hZ (hw _ (List.mem_of_getElem? (i := 32) rfl)) (hw _ (List.mem_of_getElem? (i := 3) rfl)) (by decide) (by decide)) q33a q33c (g := (mkF m 97 #[.val (.int p1), .val (.ref b1), .val (.int (3 : Int32)), .val (.ref (W (3 : Int32))), .val (.int (0 : Int32)), .val (.int (0 : Int32)), .unset, .unset] [(.ref (W (3 : Int32))), (.int (0 : Int32))])) rfl (by rw [hml]; rfl) (Steps.refl _) (argsL := []) (rest := [(.int (0 : Int32))]) (lenOf pd_0 rfl) rfl (by show 2 * 0 + _ ≤ _; exact Nat.le_of_eq rfl) (hb hby at_97) (fun _ _ => ⟨rfl, e32, (by decide : 1 + 0 ≤ _), (by decide : 7 + 0 ≤ _)⟩)
    dsimp only [Pt.U, Pt.locs, Pt.cells, Pt.slots] at X33 l33 y33 z33 st33 hQ33
    subst l33 y33 z33
    obtain ⟨rfl, N33q, e33⟩ := hQ33
    have N33 := Fr.app N32 N33q
    refine own_s (B := T33.setTop (mkF m 100 #[.val (.int p1), .val (.ref b1), .val (.int (3 : Int32)), .val (.ref (W (3 : Int32))), .val (.int (0 : Int32)), .val (.int (0 : Int32)), .unset, .unset] [(.int (0 : Int32)), (.int (0 : Int32))])) (fun t k => st33.trans k) ?_
    refine own_s (B := T33.setTop (mkF m 103 #[.val (.int p1), .val (.ref b1), .val (.int (3 : Int32)), .val (.ref (W (3 : Int32))), .val (.int (0 : Int32)), .val (.int (0 : Int32)), .unset, .unset] [(.int (0 : Int32))])) (fun t k => XS.ifNo X33.here hx rfl (hb hby at_100) rfl ((if0 _ _).trans (teq rfl).2) k) ?_
    refine own_s (B := T33.setTop (mkF m 104 #[.val (.int p1), .val (.ref b1), .val (.int (3 : Int32)), .val (.ref (W (3 : Int32))), .val (.int (0 : Int32)), .val (.int (0 : Int32)), .unset, .unset] [(.ref (W (3 : Int32))), (.int (0 : Int32))])) (fun t k => XS.aloadN X33.here hx rfl (hb hby at_103) rfl rfl k) ?_
    obtain ⟨cq34, kq34, q34a, q34b, q34c⟩ := isOf hZ e33 ((XW (3 : Int32) (by decide) (by decide)).ext EX)
    obtain ⟨_, _, ⟨T34, L34, k34, n34⟩, -, X34, ⟨Lc34, hQ34, l34, y34, z34⟩, st34⟩ := X33.virtualBack hx (y := (⟨"com/example/formal_courier/formalcourier/crs/CrsDocumentTypeControls$DocumentType", "isTest", "()Z"⟩ : MethodName)) (z := (⟨"com/example/formal_courier/formalcourier/crs/CrsDocumentTypeControls$DocumentType", "isTest", "()Z"⟩ : MethodName)) hown (mvT hZ (hw _ (List.mem_of_getElem? (i := 44) rfl))) (mvT hZ (hw _ (List.mem_of_getElem? (i := 45) rfl))) (notFace_of_selects (args := #[]) (mvT hZ (hw _ (List.mem_of_getElem? (i := 47) rfl)))) (mvT hZ (hw _ (List.mem_of_getElem? (i := 47) rfl))) (mvT hZ (hw _ (List.mem_of_getElem? (i := 46) rfl))) (by decide) (backOf (W := 1) (rm5 l Z a0 hw [] (W (3 : Int32)) W (1 : Int32) h15 n0 (Nat.le_trans Z0 EX.1) (WS.ext EX EW) (own_b1 (Or.inl rfl))) hZ (hw _ (List.mem_of_getElem? (i := 48) rfl)) (hw _ (List.mem_of_getElem? (i := 3) rfl)) (by decide) (by decide)) q34a q34c (g := (mkF m 104 #[.val (.int p1), .val (.ref b1), .val (.int (3 : Int32)), .val (.ref (W (3 : Int32))), .val (.int (0 : Int32)), .val (.int (0 : Int32)), .unset, .unset] [(.ref (W (3 : Int32))), (.int (0 : Int32))])) rfl (by rw [hml]; rfl) (Steps.refl _) (argsL := []) (rest := [(.int (0 : Int32))]) (lenOf pd_0 rfl) rfl (by show 2 * 0 + _ ≤ _; exact Nat.le_of_eq rfl) (hb hby at_104) (fun _ _ => ⟨rfl, e33, (by decide : 1 + 0 ≤ _), (by decide : 7 + 0 ≤ _)⟩)
    dsimp only [Pt.U, Pt.locs, Pt.cells, Pt.slots] at X34 l34 y34 z34 st34 hQ34
    subst l34 y34 z34
    obtain ⟨rfl, N34q, e34⟩ := hQ34
    have N34 := Fr.app N33 N34q
    refine own_s (B := T34.setTop (mkF m 107 #[.val (.int p1), .val (.ref b1), .val (.int (3 : Int32)), .val (.ref (W (3 : Int32))), .val (.int (0 : Int32)), .val (.int (0 : Int32)), .unset, .unset] [(.int (1 : Int32)), (.int (0 : Int32))])) (fun t k => st34.trans k) ?_
    refine own_s (B := T34.setTop (mkF m 110 #[.val (.int p1), .val (.ref b1), .val (.int (3 : Int32)), .val (.ref (W (3 : Int32))), .val (.int (0 : Int32)), .val (.int (0 : Int32)), .unset, .unset] [(.int (0 : Int32))])) (fun t k => XS.ifNo X34.here hx rfl (hb hby at_107) rfl ((if0 _ _).trans (feq (by decide)).1) k) ?_
    refine own_s (B := T34.setTop (mkF m 111 #[.val (.int p1), .val (.ref b1), .val (.int (3 : Int32)), .val (.ref (W (3 : Int32))), .val (.int (0 : Int32)), .val (.int (0 : Int32)), .unset, .unset] [(.ref (W (3 : Int32))), (.int (0 : Int32))])) (fun t k => XS.aloadN X34.here hx rfl (hb hby at_110) rfl rfl k) ?_
    obtain ⟨cq35, kq35, q35a, q35b, q35c⟩ := isOf hZ e34 ((XW (3 : Int32) (by decide) (by decide)).ext EX)
    obtain ⟨_, _, ⟨T35, L35, k35, n35⟩, -, X35, ⟨Lc35, hQ35, l35, y35, z35⟩, st35⟩ := X34.virtualBack hx (y := (⟨"com/example/formal_courier/formalcourier/crs/CrsDocumentTypeControls$DocumentType", "isNew", "()Z"⟩ : MethodName)) (z := (⟨"com/example/formal_courier/formalcourier/crs/CrsDocumentTypeControls$DocumentType", "isNew", "()Z"⟩ : MethodName)) hown (mvT hZ (hw _ (List.mem_of_getElem? (i := 34) rfl))) (mvT hZ (hw _ (List.mem_of_getElem? (i := 35) rfl))) (notFace_of_selects (args := #[]) (mvT hZ (hw _ (List.mem_of_getElem? (i := 37) rfl)))) (mvT hZ (hw _ (List.mem_of_getElem? (i := 37) rfl))) (mvT hZ (hw _ (List.mem_of_getElem? (i := 36) rfl))) (by decide) (backOf (W := 1) (rm3 l Z a0 hw [] (W (3 : Int32)) W (1 : Int32) h15 n0 (Nat.le_trans Z0 EX.1) (WS.ext EX EW) (own_b1 (Or.inr rfl))) hZ (hw _ (List.mem_of_getElem? (i := 38) rfl)) (hw _ (List.mem_of_getElem? (i := 3) rfl)) (by decide) (by decide)) q35a q35c (g := (mkF m 111 #[.val (.int p1), .val (.ref b1), .val (.int (3 : Int32)), .val (.ref (W (3 : Int32))), .val (.int (0 : Int32)), .val (.int (0 : Int32)), .unset, .unset] [(.ref (W (3 : Int32))), (.int (0 : Int32))])) rfl (by rw [hml]; rfl) (Steps.refl _) (argsL := []) (rest := [(.int (0 : Int32))]) (lenOf pd_0 rfl) rfl (by show 2 * 0 + _ ≤ _; exact Nat.le_of_eq rfl) (hb hby at_111) (fun _ _ => ⟨rfl, e34, (by decide : 1 + 0 ≤ _), (by decide : 7 + 0 ≤ _)⟩)
    dsimp only [Pt.U, Pt.locs, Pt.cells, Pt.slots] at X35 l35 y35 z35 st35 hQ35
    subst l35 y35 z35
    obtain ⟨rfl, N35q, e35⟩ := hQ35
    have N35 := Fr.app N34 N35q
    refine own_s (B := T35.setTop (mkF m 114 #[.val (.int p1), .val (.ref b1), .val (.int (3 : Int32)), .val (.ref (W (3 : Int32))), .val (.int (0 : Int32)), .val (.int (0 : Int32)), .unset, .unset] [(.int (1 : Int32)), (.int (0 : Int32))])) (fun t k => st35.trans k) ?_
    refine own_s (B := T35.setTop (mkF m 121 #[.val (.int p1), .val (.ref b1), .val (.int (3 : Int32)), .val (.ref (W (3 : Int32))), .val (.int (0 : Int32)), .val (.int (0 : Int32)), .unset, .unset] [(.int (0 : Int32))])) (fun t k => XS.ifYes X35.here hx rfl (pc0 := 114) (pc' := 121) rfl (hb hby at_114) rfl ((if0 _ _).trans (feq (by decide)).2) (by decide) (by decide) k) ?_
    refine own_s (B := T35.setTop (mkF m 122 #[.val (.int p1), .val (.ref b1), .val (.int (3 : Int32)), .val (.ref (W (3 : Int32))), .val (.int (0 : Int32)), .val (.int (0 : Int32)), .unset, .unset] [(.int (0 : Int32)), (.int (0 : Int32))])) (fun t k => XS.iconst X35.here hx rfl (hb hby at_121) k) ?_
    refine own_s (B := T35.setTop (mkF m 125 #[.val (.int p1), .val (.ref b1), .val (.int (3 : Int32)), .val (.ref (W (3 : Int32))), .val (.int (0 : Int32)), .val (.int (0 : Int32)), .unset, .unset] [])) (fun t k => XS.icmpNo X35.here hx rfl (hb hby at_122) rfl (teq rfl).2 k) ?_
    refine own_s (B := T35.setTop (mkF m 126 #[.val (.int p1), .val (.ref b1), .val (.int (3 : Int32)), .val (.ref (W (3 : Int32))), .val (.int (0 : Int32)), .val (.int (0 : Int32)), .unset, .unset] [(.int (1 : Int32))])) (fun t k => XS.iconst X35.here hx rfl (hb hby at_125) k) ?_
    refine own_s (B := T35.setTop (mkF m 130 #[.val (.int p1), .val (.ref b1), .val (.int (3 : Int32)), .val (.ref (W (3 : Int32))), .val (.int (0 : Int32)), .val (.int (0 : Int32)), .unset, .unset] [(.int (1 : Int32))])) (fun t k => XS.goto X35.here hx rfl (pc0 := 126) (pc' := 130) rfl (hb hby at_126) (by decide) (by decide) k) ?_
    refine own_s (B := T35.setTop (mkF m 132 #[.val (.int p1), .val (.ref b1), .val (.int (3 : Int32)), .val (.ref (W (3 : Int32))), .val (.int (0 : Int32)), .val (.int (0 : Int32)), .val (.int (1 : Int32)), .unset] [])) (fun t k => XS.istore X35.here hx rfl (hb hby at_130) rfl (l' := #[.val (.int p1), .val (.ref b1), .val (.int (3 : Int32)), .val (.ref (W (3 : Int32))), .val (.int (0 : Int32)), .val (.int (0 : Int32)), .val (.int (1 : Int32)), .unset]) rfl k) ?_
    refine own_s (B := T35.setTop (mkF m 133 #[.val (.int p1), .val (.ref b1), .val (.int (3 : Int32)), .val (.ref (W (3 : Int32))), .val (.int (0 : Int32)), .val (.int (0 : Int32)), .val (.int (1 : Int32)), .unset] [(.ref (W (3 : Int32)))])) (fun t k => XS.aloadN X35.here hx rfl (hb hby at_132) rfl rfl k) ?_
    obtain ⟨cq36, kq36, q36a, q36b, q36c⟩ := isOf hZ e35 ((XW (3 : Int32) (by decide) (by decide)).ext EX)
    obtain ⟨_, _, ⟨T36, L36, k36, n36⟩, -, X36, ⟨Lc36, hQ36, l36, y36, z36⟩, st36⟩ := X35.virtualBack hx (y := (⟨"com/example/formal_courier/formalcourier/crs/CrsDocumentTypeControls$DocumentType", "isDeletion", "()Z"⟩ : MethodName)) (z := (⟨"com/example/formal_courier/formalcourier/crs/CrsDocumentTypeControls$DocumentType", "isDeletion", "()Z"⟩ : MethodName)) hown (mvT hZ (hw _ (List.mem_of_getElem? (i := 39) rfl))) (mvT hZ (hw _ (List.mem_of_getElem? (i := 40) rfl))) (notFace_of_selects (args := #[]) (mvT hZ (hw _ (List.mem_of_getElem? (i := 42) rfl)))) (mvT hZ (hw _ (List.mem_of_getElem? (i := 42) rfl))) (mvT hZ (hw _ (List.mem_of_getElem? (i := 41) rfl))) (by decide) (backOf (W := 0) (rm4 l Z a0 hw [] (W (3 : Int32)) W (0 : Int32) h15 n0 (Nat.le_trans Z0 EX.1) (WS.ext EX EW) (own_b0 (fun q => q.elim (own_ne IW 3 2 (by decide)) (own_ne IW 3 5 (by decide))))) hZ (hw _ (List.mem_of_getElem? (i := 43) rfl)) (hw _ (List.mem_of_getElem? (i := 3) rfl)) (by decide) (by decide)) q36a q36c (g := (mkF m 133 #[.val (.int p1), .val (.ref b1), .val (.int (3 : Int32)), .val (.ref (W (3 : Int32))), .val (.int (0 : Int32)), .val (.int (0 : Int32)), .val (.int (1 : Int32)), .unset] [(.ref (W (3 : Int32)))])) rfl (by rw [hml]; rfl) (Steps.refl _) (argsL := []) (rest := []) (lenOf pd_0 rfl) rfl (by show 2 * 0 + _ ≤ _; exact Nat.le_of_eq rfl) (hb hby at_133) (fun _ _ => ⟨rfl, e35, (by decide : 1 + 0 ≤ _), (by decide : 7 + 0 ≤ _)⟩)
    dsimp only [Pt.U, Pt.locs, Pt.cells, Pt.slots] at X36 l36 y36 z36 st36 hQ36
    subst l36 y36 z36
    obtain ⟨rfl, N36q, e36⟩ := hQ36
    have N36 := Fr.app N35 N36q
    refine own_s (B := T36.setTop (mkF m 136 #[.val (.int p1), .val (.ref b1), .val (.int (3 : Int32)), .val (.ref (W (3 : Int32))), .val (.int (0 : Int32)), .val (.int (0 : Int32)), .val (.int (1 : Int32)), .unset] [(.int (0 : Int32))])) (fun t k => st36.trans k) ?_
    refine own_s (B := T36.setTop (mkF m 144 #[.val (.int p1), .val (.ref b1), .val (.int (3 : Int32)), .val (.ref (W (3 : Int32))), .val (.int (0 : Int32)), .val (.int (0 : Int32)), .val (.int (1 : Int32)), .unset] [])) (fun t k => XS.ifYes X36.here hx rfl (pc0 := 136) (pc' := 144) rfl (hb hby at_136) rfl ((if0 _ _).trans (teq rfl).1) (by decide) (by decide) k) ?_
    refine own_s (B := T36.setTop (mkF m 145 #[.val (.int p1), .val (.ref b1), .val (.int (3 : Int32)), .val (.ref (W (3 : Int32))), .val (.int (0 : Int32)), .val (.int (0 : Int32)), .val (.int (1 : Int32)), .unset] [(.int (1 : Int32))])) (fun t k => XS.iconst X36.here hx rfl (hb hby at_144) k) ?_
    refine own_s (B := T36.setTop (mkF m 149 #[.val (.int p1), .val (.ref b1), .val (.int (3 : Int32)), .val (.ref (W (3 : Int32))), .val (.int (0 : Int32)), .val (.int (0 : Int32)), .val (.int (1 : Int32)), .unset] [(.int (1 : Int32))])) (fun t k => XS.goto X36.here hx rfl (pc0 := 145) (pc' := 149) rfl (hb hby at_145) (by decide) (by decide) k) ?_
    refine own_s (B := T36.setTop (mkF m 151 #[.val (.int p1), .val (.ref b1), .val (.int (3 : Int32)), .val (.ref (W (3 : Int32))), .val (.int (0 : Int32)), .val (.int (0 : Int32)), .val (.int (1 : Int32)), .val (.int (1 : Int32))] [])) (fun t k => XS.istore X36.here hx rfl (hb hby at_149) rfl (l' := #[.val (.int p1), .val (.ref b1), .val (.int (3 : Int32)), .val (.ref (W (3 : Int32))), .val (.int (0 : Int32)), .val (.int (0 : Int32)), .val (.int (1 : Int32)), .val (.int (1 : Int32))]) rfl k) ?_
    refine own_s (B := T36.setTop (mkF m 153 #[.val (.int p1), .val (.ref b1), .val (.int (3 : Int32)), .val (.ref (W (3 : Int32))), .val (.int (0 : Int32)), .val (.int (0 : Int32)), .val (.int (1 : Int32)), .val (.int (1 : Int32))] [(.int (0 : Int32))])) (fun t k => XS.iload X36.here hx rfl (hb hby at_151) rfl k) ?_
    refine own_s (B := T36.setTop (mkF m 155 #[.val (.int p1), .val (.ref b1), .val (.int (3 : Int32)), .val (.ref (W (3 : Int32))), .val (.int (0 : Int32)), .val (.int (0 : Int32)), .val (.int (1 : Int32)), .val (.int (1 : Int32))] [(.int (0 : Int32)), (.int (0 : Int32))])) (fun t k => XS.iload X36.here hx rfl (hb hby at_153) rfl k) ?_
    refine own_s (B := T36.setTop (mkF m 158 #[.val (.int p1), .val (.ref b1), .val (.int (3 : Int32)), .val (.ref (W (3 : Int32))), .val (.int (0 : Int32)), .val (.int (0 : Int32)), .val (.int (1 : Int32)), .val (.int (1 : Int32))] [])) (fun t k => XS.icmpNo X36.here hx rfl (hb hby at_155) rfl (teq rfl).2 k) ?_
    refine own_s (B := T36.setTop (mkF m 160 #[.val (.int p1), .val (.ref b1), .val (.int (3 : Int32)), .val (.ref (W (3 : Int32))), .val (.int (0 : Int32)), .val (.int (0 : Int32)), .val (.int (1 : Int32)), .val (.int (1 : Int32))] [(.int (1 : Int32))])) (fun t k => XS.iload X36.here hx rfl (hb hby at_158) rfl k) ?_
    refine own_s (B := T36.setTop (mkF m 163 #[.val (.int p1), .val (.ref b1), .val (.int (3 : Int32)), .val (.ref (W (3 : Int32))), .val (.int (0 : Int32)), .val (.int (0 : Int32)), .val (.int (1 : Int32)), .val (.int (1 : Int32))] [])) (fun t k => XS.ifNo X36.here hx rfl (hb hby at_160) rfl ((if0 _ _).trans (feq (by decide)).1) k) ?_
    refine own_s (B := T36.setTop (mkF m 165 #[.val (.int p1), .val (.ref b1), .val (.int (3 : Int32)), .val (.ref (W (3 : Int32))), .val (.int (0 : Int32)), .val (.int (0 : Int32)), .val (.int (1 : Int32)), .val (.int (1 : Int32))] [(.int (1 : Int32))])) (fun t k => XS.iload X36.here hx rfl (hb hby at_163) rfl k) ?_
    refine own_s (B := T36.setTop (mkF m 168 #[.val (.int p1), .val (.ref b1), .val (.int (3 : Int32)), .val (.ref (W (3 : Int32))), .val (.int (0 : Int32)), .val (.int (0 : Int32)), .val (.int (1 : Int32)), .val (.int (1 : Int32))] [])) (fun t k => XS.ifNo X36.here hx rfl (hb hby at_165) rfl ((if0 _ _).trans (feq (by decide)).1) k) ?_
    refine own_s (B := T36.setTop (mkF m 169 #[.val (.int p1), .val (.ref b1), .val (.int (3 : Int32)), .val (.ref (W (3 : Int32))), .val (.int (0 : Int32)), .val (.int (0 : Int32)), .val (.int (1 : Int32)), .val (.int (1 : Int32))] [(.int (1 : Int32))])) (fun t k => XS.iconst X36.here hx rfl (hb hby at_168) k) ?_
    refine own_s (B := T36.setTop (mkF m 173 #[.val (.int p1), .val (.ref b1), .val (.int (3 : Int32)), .val (.ref (W (3 : Int32))), .val (.int (0 : Int32)), .val (.int (0 : Int32)), .val (.int (1 : Int32)), .val (.int (1 : Int32))] [(.int (1 : Int32))])) (fun t k => XS.goto X36.here hx rfl (pc0 := 169) (pc' := 173) rfl (hb hby at_169) (by decide) (by decide) k) ?_
    exact own_retB X36 hx hlk (t := .boolean) Bd.returns (by simp) (hb hby at_173) (by decide) (by decide) ⟨rfl, N36⟩
  · refine own_s (B := T15.setTop (mkF m 57 #[.val (.int p1), .val (.ref b1), .val (.int (4 : Int32)), .unset, .unset, .unset, .unset, .unset] [])) (fun t k => XS.istoreN X15.here hx rfl (hb hby at_56) rfl (l' := #[.val (.int p1), .val (.ref b1), .val (.int (4 : Int32)), .unset, .unset, .unset, .unset, .unset]) rfl k) ?_
    refine own_s (B := T15.setTop (mkF m 58 #[.val (.int p1), .val (.ref b1), .val (.int (4 : Int32)), .unset, .unset, .unset, .unset, .unset] [(.ref b1)])) (fun t k => XS.aloadN X15.here hx rfl (hb hby at_57) rfl rfl k) ?_
    refine own_s (B := T15.setTop (mkF m 59 #[.val (.int p1), .val (.ref b1), .val (.int (4 : Int32)), .unset, .unset, .unset, .unset, .unset] [(.int (4 : Int32)), (.ref b1)])) (fun t k => XS.iloadN X15.here hx rfl (hb hby at_58) rfl k) ?_
    obtain ⟨cl37, Ar37, q37, Sz37, Nn37, Hs37, G37⟩ := id V_b1
    have hin37 : ¬ ((4 : Int32) < 0 ∨ cl37.slots.size ≤ ((4 : Int32)).toNatClampNeg) := inb_of Sz37 ⟨by decide, by decide⟩
    refine own_s (B := T15.setTop (mkF m 60 #[.val (.int p1), .val (.ref b1), .val (.int (4 : Int32)), .unset, .unset, .unset, .unset, .unset] [(.ref (W (4 : Int32)))])) (fun t k => X15.aaload hx (j := (4 : Int32)) (v := (.ref (W (4 : Int32)))) (by rw [e15]; exact Ar37.1) (State.isArrayOf_alike hZ.alike Ar37.2.1) rfl Ar37.2.2 hin37 (Hs37.at hin37 rfl) (g := (mkF m 59 #[.val (.int p1), .val (.ref b1), .val (.int (4 : Int32)), .unset, .unset, .unset, .unset, .unset] [(.int (4 : Int32)), (.ref b1)])) rfl rfl (hb hby at_59) t k) ?_
    refine own_s (B := T15.setTop (mkF m 61 #[.val (.int p1), .val (.ref b1), .val (.int (4 : Int32)), .val (.ref (W (4 : Int32))), .unset, .unset, .unset, .unset] [])) (fun t k => XS.astoreN X15.here hx rfl (hb hby at_60) rfl rfl (l' := #[.val (.int p1), .val (.ref b1), .val (.int (4 : Int32)), .val (.ref (W (4 : Int32))), .unset, .unset, .unset, .unset]) rfl k) ?_
    refine own_s (B := T15.setTop (mkF m 62 #[.val (.int p1), .val (.ref b1), .val (.int (4 : Int32)), .val (.ref (W (4 : Int32))), .unset, .unset, .unset, .unset] [(.int (4 : Int32))])) (fun t k => XS.iloadN X15.here hx rfl (hb hby at_61) rfl k) ?_
    refine own_s (B := T15.setTop (mkF m 63 #[.val (.int p1), .val (.ref b1), .val (.int (4 : Int32)), .val (.ref (W (4 : Int32))), .unset, .unset, .unset, .unset] [(.int (1 : Int32)), (.int (4 : Int32))])) (fun t k => XS.iconst X15.here hx rfl (hb hby at_62) k) ?_
    refine own_s (B := T15.setTop (mkF m 66 #[.val (.int p1), .val (.ref b1), .val (.int (4 : Int32)), .val (.ref (W (4 : Int32))), .unset, .unset, .unset, .unset] [])) (fun t k => XS.icmpNo X15.here hx rfl (hb hby at_63) rfl (feq (by decide)).1 k) ?_
    refine own_s (B := T15.setTop (mkF m 67 #[.val (.int p1), .val (.ref b1), .val (.int (4 : Int32)), .val (.ref (W (4 : Int32))), .unset, .unset, .unset, .unset] [(.int (4 : Int32))])) (fun t k => XS.iloadN X15.here hx rfl (hb hby at_66) rfl k) ?_
    refine own_s (B := T15.setTop (mkF m 68 #[.val (.int p1), .val (.ref b1), .val (.int (4 : Int32)), .val (.ref (W (4 : Int32))), .unset, .unset, .unset, .unset] [(.int (2 : Int32)), (.int (4 : Int32))])) (fun t k => XS.iconst X15.here hx rfl (hb hby at_67) k) ?_
    refine own_s (B := T15.setTop (mkF m 71 #[.val (.int p1), .val (.ref b1), .val (.int (4 : Int32)), .val (.ref (W (4 : Int32))), .unset, .unset, .unset, .unset] [])) (fun t k => XS.icmpNo X15.here hx rfl (hb hby at_68) rfl (feq (by decide)).1 k) ?_
    refine own_s (B := T15.setTop (mkF m 72 #[.val (.int p1), .val (.ref b1), .val (.int (4 : Int32)), .val (.ref (W (4 : Int32))), .unset, .unset, .unset, .unset] [(.int (4 : Int32))])) (fun t k => XS.iloadN X15.here hx rfl (hb hby at_71) rfl k) ?_
    refine own_s (B := T15.setTop (mkF m 73 #[.val (.int p1), .val (.ref b1), .val (.int (4 : Int32)), .val (.ref (W (4 : Int32))), .unset, .unset, .unset, .unset] [(.int (4 : Int32)), (.int (4 : Int32))])) (fun t k => XS.iconst X15.here hx rfl (hb hby at_72) k) ?_
    refine own_s (B := T15.setTop (mkF m 81 #[.val (.int p1), .val (.ref b1), .val (.int (4 : Int32)), .val (.ref (W (4 : Int32))), .unset, .unset, .unset, .unset] [])) (fun t k => XS.icmpYes X15.here hx rfl (pc0 := 73) (pc' := 81) rfl (hb hby at_73) rfl (teq rfl).1 (by decide) (by decide) k) ?_
    refine own_s (B := T15.setTop (mkF m 82 #[.val (.int p1), .val (.ref b1), .val (.int (4 : Int32)), .val (.ref (W (4 : Int32))), .unset, .unset, .unset, .unset] [(.int (1 : Int32))])) (fun t k => XS.iconst X15.here hx rfl (hb hby at_81) k) ?_
    refine own_s (B := T15.setTop (mkF m 86 #[.val (.int p1), .val (.ref b1), .val (.int (4 : Int32)), .val (.ref (W (4 : Int32))), .unset, .unset, .unset, .unset] [(.int (1 : Int32))])) (fun t k => XS.goto X15.here hx rfl (pc0 := 82) (pc' := 86) rfl (hb hby at_82) (by decide) (by decide) k) ?_
    refine own_s (B := T15.setTop (mkF m 88 #[.val (.int p1), .val (.ref b1), .val (.int (4 : Int32)), .val (.ref (W (4 : Int32))), .val (.int (1 : Int32)), .unset, .unset, .unset] [])) (fun t k => XS.istore X15.here hx rfl (hb hby at_86) rfl (l' := #[.val (.int p1), .val (.ref b1), .val (.int (4 : Int32)), .val (.ref (W (4 : Int32))), .val (.int (1 : Int32)), .unset, .unset, .unset]) rfl k) ?_
    refine own_s (B := T15.setTop (mkF m 89 #[.val (.int p1), .val (.ref b1), .val (.int (4 : Int32)), .val (.ref (W (4 : Int32))), .val (.int (1 : Int32)), .unset, .unset, .unset] [(.ref (W (4 : Int32)))])) (fun t k => XS.aloadN X15.here hx rfl (hb hby at_88) rfl rfl k) ?_
    obtain ⟨cq38, kq38, q38a, q38b, q38c⟩ := isOf hZ e15 ((XW (4 : Int32) (by decide) (by decide)).ext EX)
    obtain ⟨_, _, ⟨T38, L38, k38, n38⟩, -, X38, ⟨Lc38, hQ38, l38, y38, z38⟩, st38⟩ := X15.virtualBack hx (y := (⟨"com/example/formal_courier/formalcourier/crs/CrsDocumentTypeControls$DocumentType", "isReplacement", "()Z"⟩ : MethodName)) (z := (⟨"com/example/formal_courier/formalcourier/crs/CrsDocumentTypeControls$DocumentType", "isReplacement", "()Z"⟩ : MethodName)) hown (mvT hZ (hw _ (List.mem_of_getElem? (i := 19) rfl))) (mvT hZ (hw _ (List.mem_of_getElem? (i := 20) rfl))) (notFace_of_selects (args := #[]) (mvT hZ (hw _ (List.mem_of_getElem? (i := 22) rfl)))) (mvT hZ (hw _ (List.mem_of_getElem? (i := 22) rfl))) (mvT hZ (hw _ (List.mem_of_getElem? (i := 21) rfl))) (by decide) (backOf (W := 0) (rm1 l Z a0 hw [] (W (4 : Int32)) W (1 : Int32) h15 n0 (Nat.le_trans Z0 EX.1) (WS.ext EX EW) (own_b1 (Or.inr (Or.inr (Or.inl rfl))))) hZ (hw _ (List.mem_of_getElem? (i := 23) rfl)) (hw _ (List.mem_of_getElem? (i := 3) rfl)) (by decide) (by decide)) q38a q38c (g := (mkF m 89 #[.val (.int p1), .val (.ref b1), .val (.int (4 : Int32)), .val (.ref (W (4 : Int32))), .val (.int (1 : Int32)), .unset, .unset, .unset] [(.ref (W (4 : Int32)))])) rfl (by rw [hml]; rfl) (Steps.refl _) (argsL := []) (rest := []) (lenOf pd_0 rfl) rfl (by show 2 * 0 + _ ≤ _; exact Nat.le_of_eq rfl) (hb hby at_89) (fun _ _ => ⟨rfl, e15, (by decide : 1 + 0 ≤ _), (by decide : 7 + 0 ≤ _)⟩)
    dsimp only [Pt.U, Pt.locs, Pt.cells, Pt.slots] at X38 l38 y38 z38 st38 hQ38
    subst l38 y38 z38
    obtain ⟨rfl, N38q, e38⟩ := hQ38
    have N38 := Fr.app N15 N38q
    refine own_s (B := T38.setTop (mkF m 92 #[.val (.int p1), .val (.ref b1), .val (.int (4 : Int32)), .val (.ref (W (4 : Int32))), .val (.int (1 : Int32)), .unset, .unset, .unset] [(.int (1 : Int32))])) (fun t k => st38.trans k) ?_
    refine own_s (B := T38.setTop (mkF m 94 #[.val (.int p1), .val (.ref b1), .val (.int (4 : Int32)), .val (.ref (W (4 : Int32))), .val (.int (1 : Int32)), .val (.int (1 : Int32)), .unset, .unset] [])) (fun t k => XS.istore X38.here hx rfl (hb hby at_92) rfl (l' := #[.val (.int p1), .val (.ref b1), .val (.int (4 : Int32)), .val (.ref (W (4 : Int32))), .val (.int (1 : Int32)), .val (.int (1 : Int32)), .unset, .unset]) rfl k) ?_
    refine own_s (B := T38.setTop (mkF m 96 #[.val (.int p1), .val (.ref b1), .val (.int (4 : Int32)), .val (.ref (W (4 : Int32))), .val (.int (1 : Int32)), .val (.int (1 : Int32)), .unset, .unset] [(.int (1 : Int32))])) (fun t k => XS.iload X38.here hx rfl (hb hby at_94) rfl k) ?_
    refine own_s (B := T38.setTop (mkF m 97 #[.val (.int p1), .val (.ref b1), .val (.int (4 : Int32)), .val (.ref (W (4 : Int32))), .val (.int (1 : Int32)), .val (.int (1 : Int32)), .unset, .unset] [(.ref (W (4 : Int32))), (.int (1 : Int32))])) (fun t k => XS.aloadN X38.here hx rfl (hb hby at_96) rfl rfl k) ?_
    obtain ⟨cq39, kq39, q39a, q39b, q39c⟩ := isOf hZ e38 ((XW (4 : Int32) (by decide) (by decide)).ext EX)
    obtain ⟨_, _, ⟨T39, L39, k39, n39⟩, -, X39, ⟨Lc39, hQ39, l39, y39, z39⟩, st39⟩ := X38.virtualBack hx (y := (⟨"com/example/formal_courier/formalcourier/crs/CrsDocumentTypeControls$DocumentType", "isProduction", "()Z"⟩ : MethodName)) (z := (⟨"com/example/formal_courier/formalcourier/crs/CrsDocumentTypeControls$DocumentType", "isProduction", "()Z"⟩ : MethodName)) hown (mvT hZ (hw _ (List.mem_of_getElem? (i := 28) rfl))) (mvT hZ (hw _ (List.mem_of_getElem? (i := 29) rfl))) (notFace_of_selects (args := #[]) (mvT hZ (hw _ (List.mem_of_getElem? (i := 31) rfl)))) (mvT hZ (hw _ (List.mem_of_getElem? (i := 31) rfl))) (mvT hZ (hw _ (List.mem_of_getElem? (i := 30) rfl))) (by decide) (backOf (W := 1) (rm2 l Z a0 hw [] (W (4 : Int32)) W (0 : Int32) h15 n0 (Nat.le_trans Z0 EX.1) (WS.ext EX EW) (own_b0 (fun q => q.elim (own_ne IW 4 0 (by decide)) (fun q => q.elim (own_ne IW 4 1 (by decide)) (own_ne IW 4 2 (by decide)))))) hZ (hw _ (List.mem_of_getElem? (i := 32) rfl)) (hw _ (List.mem_of_getElem? (i := 3) rfl)) (by decide) (by decide)) q39a q39c (g := (mkF m 97 #[.val (.int p1), .val (.ref b1), .val (.int (4 : Int32)), .val (.ref (W (4 : Int32))), .val (.int (1 : Int32)), .val (.int (1 : Int32)), .unset, .unset] [(.ref (W (4 : Int32))), (.int (1 : Int32))])) rfl (by rw [hml]; rfl) (Steps.refl _) (argsL := []) (rest := [(.int (1 : Int32))]) (lenOf pd_0 rfl) rfl (by show 2 * 0 + _ ≤ _; exact Nat.le_of_eq rfl) (hb hby at_97) (fun _ _ => ⟨rfl, e38, (by decide : 1 + 0 ≤ _), (by decide : 7 + 0 ≤ _)⟩)
    dsimp only [Pt.U, Pt.locs, Pt.cells, Pt.slots] at X39 l39 y39 z39 st39 hQ39
    subst l39 y39 z39
    obtain ⟨rfl, N39q, e39⟩ := hQ39
    have N39 := Fr.app N38 N39q
    refine own_s (B := T39.setTop (mkF m 100 #[.val (.int p1), .val (.ref b1), .val (.int (4 : Int32)), .val (.ref (W (4 : Int32))), .val (.int (1 : Int32)), .val (.int (1 : Int32)), .unset, .unset] [(.int (0 : Int32)), (.int (1 : Int32))])) (fun t k => st39.trans k) ?_
    refine own_s (B := T39.setTop (mkF m 103 #[.val (.int p1), .val (.ref b1), .val (.int (4 : Int32)), .val (.ref (W (4 : Int32))), .val (.int (1 : Int32)), .val (.int (1 : Int32)), .unset, .unset] [(.int (1 : Int32))])) (fun t k => XS.ifNo X39.here hx rfl (hb hby at_100) rfl ((if0 _ _).trans (teq rfl).2) k) ?_
    refine own_s (B := T39.setTop (mkF m 104 #[.val (.int p1), .val (.ref b1), .val (.int (4 : Int32)), .val (.ref (W (4 : Int32))), .val (.int (1 : Int32)), .val (.int (1 : Int32)), .unset, .unset] [(.ref (W (4 : Int32))), (.int (1 : Int32))])) (fun t k => XS.aloadN X39.here hx rfl (hb hby at_103) rfl rfl k) ?_
    obtain ⟨cq40, kq40, q40a, q40b, q40c⟩ := isOf hZ e39 ((XW (4 : Int32) (by decide) (by decide)).ext EX)
    obtain ⟨_, _, ⟨T40, L40, k40, n40⟩, -, X40, ⟨Lc40, hQ40, l40, y40, z40⟩, st40⟩ := X39.virtualBack hx (y := (⟨"com/example/formal_courier/formalcourier/crs/CrsDocumentTypeControls$DocumentType", "isTest", "()Z"⟩ : MethodName)) (z := (⟨"com/example/formal_courier/formalcourier/crs/CrsDocumentTypeControls$DocumentType", "isTest", "()Z"⟩ : MethodName)) hown (mvT hZ (hw _ (List.mem_of_getElem? (i := 44) rfl))) (mvT hZ (hw _ (List.mem_of_getElem? (i := 45) rfl))) (notFace_of_selects (args := #[]) (mvT hZ (hw _ (List.mem_of_getElem? (i := 47) rfl)))) (mvT hZ (hw _ (List.mem_of_getElem? (i := 47) rfl))) (mvT hZ (hw _ (List.mem_of_getElem? (i := 46) rfl))) (by decide) (backOf (W := 1) (rm5 l Z a0 hw [] (W (4 : Int32)) W (1 : Int32) h15 n0 (Nat.le_trans Z0 EX.1) (WS.ext EX EW) (own_b1 (Or.inr (Or.inl rfl)))) hZ (hw _ (List.mem_of_getElem? (i := 48) rfl)) (hw _ (List.mem_of_getElem? (i := 3) rfl)) (by decide) (by decide)) q40a q40c (g := (mkF m 104 #[.val (.int p1), .val (.ref b1), .val (.int (4 : Int32)), .val (.ref (W (4 : Int32))), .val (.int (1 : Int32)), .val (.int (1 : Int32)), .unset, .unset] [(.ref (W (4 : Int32))), (.int (1 : Int32))])) rfl (by rw [hml]; rfl) (Steps.refl _) (argsL := []) (rest := [(.int (1 : Int32))]) (lenOf pd_0 rfl) rfl (by show 2 * 0 + _ ≤ _; exact Nat.le_of_eq rfl) (hb hby at_104) (fun _ _ => ⟨rfl, e39, (by decide : 1 + 0 ≤ _), (by decide : 7 + 0 ≤ _)⟩)
    dsimp only [Pt.U, Pt.locs, Pt.cells, Pt.slots] at X40 l40 y40 z40 st40 hQ40
    subst l40 y40 z40
    obtain ⟨rfl, N40q, e40⟩ := hQ40
    have N40 := Fr.app N39 N40q
    refine own_s (B := T40.setTop (mkF m 107 #[.val (.int p1), .val (.ref b1), .val (.int (4 : Int32)), .val (.ref (W (4 : Int32))), .val (.int (1 : Int32)), .val (.int (1 : Int32)), .unset, .unset] [(.int (1 : Int32)), (.int (1 : Int32))])) (fun t k => st40.trans k) ?_
    refine own_s (B := T40.setTop (mkF m 110 #[.val (.int p1), .val (.ref b1), .val (.int (4 : Int32)), .val (.ref (W (4 : Int32))), .val (.int (1 : Int32)), .val (.int (1 : Int32)), .unset, .unset] [(.int (1 : Int32))])) (fun t k => XS.ifNo X40.here hx rfl (hb hby at_107) rfl ((if0 _ _).trans (feq (by decide)).1) k) ?_
    refine own_s (B := T40.setTop (mkF m 111 #[.val (.int p1), .val (.ref b1), .val (.int (4 : Int32)), .val (.ref (W (4 : Int32))), .val (.int (1 : Int32)), .val (.int (1 : Int32)), .unset, .unset] [(.ref (W (4 : Int32))), (.int (1 : Int32))])) (fun t k => XS.aloadN X40.here hx rfl (hb hby at_110) rfl rfl k) ?_
    obtain ⟨cq41, kq41, q41a, q41b, q41c⟩ := isOf hZ e40 ((XW (4 : Int32) (by decide) (by decide)).ext EX)
    obtain ⟨_, _, ⟨T41, L41, k41, n41⟩, -, X41, ⟨Lc41, hQ41, l41, y41, z41⟩, st41⟩ := X40.virtualBack hx (y := (⟨"com/example/formal_courier/formalcourier/crs/CrsDocumentTypeControls$DocumentType", "isNew", "()Z"⟩ : MethodName)) (z := (⟨"com/example/formal_courier/formalcourier/crs/CrsDocumentTypeControls$DocumentType", "isNew", "()Z"⟩ : MethodName)) hown (mvT hZ (hw _ (List.mem_of_getElem? (i := 34) rfl))) (mvT hZ (hw _ (List.mem_of_getElem? (i := 35) rfl))) (notFace_of_selects (args := #[]) (mvT hZ (hw _ (List.mem_of_getElem? (i := 37) rfl)))) (mvT hZ (hw _ (List.mem_of_getElem? (i := 37) rfl))) (mvT hZ (hw _ (List.mem_of_getElem? (i := 36) rfl))) (by decide) (backOf (W := 1) (rm3 l Z a0 hw [] (W (4 : Int32)) W (0 : Int32) h15 n0 (Nat.le_trans Z0 EX.1) (WS.ext EX EW) (own_b0 (fun q => q.elim (own_ne IW 4 0 (by decide)) (own_ne IW 4 3 (by decide))))) hZ (hw _ (List.mem_of_getElem? (i := 38) rfl)) (hw _ (List.mem_of_getElem? (i := 3) rfl)) (by decide) (by decide)) q41a q41c (g := (mkF m 111 #[.val (.int p1), .val (.ref b1), .val (.int (4 : Int32)), .val (.ref (W (4 : Int32))), .val (.int (1 : Int32)), .val (.int (1 : Int32)), .unset, .unset] [(.ref (W (4 : Int32))), (.int (1 : Int32))])) rfl (by rw [hml]; rfl) (Steps.refl _) (argsL := []) (rest := [(.int (1 : Int32))]) (lenOf pd_0 rfl) rfl (by show 2 * 0 + _ ≤ _; exact Nat.le_of_eq rfl) (hb hby at_111) (fun _ _ => ⟨rfl, e40, (by decide : 1 + 0 ≤ _), (by decide : 7 + 0 ≤ _)⟩)
    dsimp only [Pt.U, Pt.locs, Pt.cells, Pt.slots] at X41 l41 y41 z41 st41 hQ41
    subst l41 y41 z41
    obtain ⟨rfl, N41q, e41⟩ := hQ41
    have N41 := Fr.app N40 N41q
    refine own_s (B := T41.setTop (mkF m 114 #[.val (.int p1), .val (.ref b1), .val (.int (4 : Int32)), .val (.ref (W (4 : Int32))), .val (.int (1 : Int32)), .val (.int (1 : Int32)), .unset, .unset] [(.int (0 : Int32)), (.int (1 : Int32))])) (fun t k => st41.trans k) ?_
    refine own_s (B := T41.setTop (mkF m 117 #[.val (.int p1), .val (.ref b1), .val (.int (4 : Int32)), .val (.ref (W (4 : Int32))), .val (.int (1 : Int32)), .val (.int (1 : Int32)), .unset, .unset] [(.int (1 : Int32))])) (fun t k => XS.ifNo X41.here hx rfl (hb hby at_114) rfl ((if0 _ _).trans (teq rfl).2) k) ?_
    refine own_s (B := T41.setTop (mkF m 118 #[.val (.int p1), .val (.ref b1), .val (.int (4 : Int32)), .val (.ref (W (4 : Int32))), .val (.int (1 : Int32)), .val (.int (1 : Int32)), .unset, .unset] [(.int (1 : Int32)), (.int (1 : Int32))])) (fun t k => XS.iconst X41.here hx rfl (hb hby at_117) k) ?_
    refine own_s (B := T41.setTop (mkF m 122 #[.val (.int p1), .val (.ref b1), .val (.int (4 : Int32)), .val (.ref (W (4 : Int32))), .val (.int (1 : Int32)), .val (.int (1 : Int32)), .unset, .unset] [(.int (1 : Int32)), (.int (1 : Int32))])) (fun t k => XS.goto X41.here hx rfl (pc0 := 118) (pc' := 122) rfl (hb hby at_118) (by decide) (by decide) k) ?_
    refine own_s (B := T41.setTop (mkF m 125 #[.val (.int p1), .val (.ref b1), .val (.int (4 : Int32)), .val (.ref (W (4 : Int32))), .val (.int (1 : Int32)), .val (.int (1 : Int32)), .unset, .unset] [])) (fun t k => XS.icmpNo X41.here hx rfl (hb hby at_122) rfl (teq rfl).2 k) ?_
    refine own_s (B := T41.setTop (mkF m 126 #[.val (.int p1), .val (.ref b1), .val (.int (4 : Int32)), .val (.ref (W (4 : Int32))), .val (.int (1 : Int32)), .val (.int (1 : Int32)), .unset, .unset] [(.int (1 : Int32))])) (fun t k => XS.iconst X41.here hx rfl (hb hby at_125) k) ?_
    refine own_s (B := T41.setTop (mkF m 130 #[.val (.int p1), .val (.ref b1), .val (.int (4 : Int32)), .val (.ref (W (4 : Int32))), .val (.int (1 : Int32)), .val (.int (1 : Int32)), .unset, .unset] [(.int (1 : Int32))])) (fun t k => XS.goto X41.here hx rfl (pc0 := 126) (pc' := 130) rfl (hb hby at_126) (by decide) (by decide) k) ?_
    refine own_s (B := T41.setTop (mkF m 132 #[.val (.int p1), .val (.ref b1), .val (.int (4 : Int32)), .val (.ref (W (4 : Int32))), .val (.int (1 : Int32)), .val (.int (1 : Int32)), .val (.int (1 : Int32)), .unset] [])) (fun t k => XS.istore X41.here hx rfl (hb hby at_130) rfl (l' := #[.val (.int p1), .val (.ref b1), .val (.int (4 : Int32)), .val (.ref (W (4 : Int32))), .val (.int (1 : Int32)), .val (.int (1 : Int32)), .val (.int (1 : Int32)), .unset]) rfl k) ?_
    refine own_s (B := T41.setTop (mkF m 133 #[.val (.int p1), .val (.ref b1), .val (.int (4 : Int32)), .val (.ref (W (4 : Int32))), .val (.int (1 : Int32)), .val (.int (1 : Int32)), .val (.int (1 : Int32)), .unset] [(.ref (W (4 : Int32)))])) (fun t k => XS.aloadN X41.here hx rfl (hb hby at_132) rfl rfl k) ?_
    obtain ⟨cq42, kq42, q42a, q42b, q42c⟩ := isOf hZ e41 ((XW (4 : Int32) (by decide) (by decide)).ext EX)
    obtain ⟨_, _, ⟨T42, L42, k42, n42⟩, -, X42, ⟨Lc42, hQ42, l42, y42, z42⟩, st42⟩ := X41.virtualBack hx (y := (⟨"com/example/formal_courier/formalcourier/crs/CrsDocumentTypeControls$DocumentType", "isDeletion", "()Z"⟩ : MethodName)) (z := (⟨"com/example/formal_courier/formalcourier/crs/CrsDocumentTypeControls$DocumentType", "isDeletion", "()Z"⟩ : MethodName)) hown (mvT hZ (hw _ (List.mem_of_getElem? (i := 39) rfl))) (mvT hZ (hw _ (List.mem_of_getElem? (i := 40) rfl))) (notFace_of_selects (args := #[]) (mvT hZ (hw _ (List.mem_of_getElem? (i := 42) rfl)))) (mvT hZ (hw _ (List.mem_of_getElem? (i := 42) rfl))) (mvT hZ (hw _ (List.mem_of_getElem? (i := 41) rfl))) (by decide) (backOf (W := 0) (rm4 l Z a0 hw [] (W (4 : Int32)) W (0 : Int32) h15 n0 (Nat.le_trans Z0 EX.1) (WS.ext EX EW) (own_b0 (fun q => q.elim (own_ne IW 4 2 (by decide)) (own_ne IW 4 5 (by decide))))) hZ (hw _ (List.mem_of_getElem? (i := 43) rfl)) (hw _ (List.mem_of_getElem? (i := 3) rfl)) (by decide) (by decide)) q42a q42c (g := (mkF m 133 #[.val (.int p1), .val (.ref b1), .val (.int (4 : Int32)), .val (.ref (W (4 : Int32))), .val (.int (1 : Int32)), .val (.int (1 : Int32)), .val (.int (1 : Int32)), .unset] [(.ref (W (4 : Int32)))])) rfl (by rw [hml]; rfl) (Steps.refl _) (argsL := []) (rest := []) (lenOf pd_0 rfl) rfl (by show 2 * 0 + _ ≤ _; exact Nat.le_of_eq rfl) (hb hby at_133) (fun _ _ => ⟨rfl, e41, (by decide : 1 + 0 ≤ _), (by decide : 7 + 0 ≤ _)⟩)
    dsimp only [Pt.U, Pt.locs, Pt.cells, Pt.slots] at X42 l42 y42 z42 st42 hQ42
    subst l42 y42 z42
    obtain ⟨rfl, N42q, e42⟩ := hQ42
    have N42 := Fr.app N41 N42q
    refine own_s (B := T42.setTop (mkF m 136 #[.val (.int p1), .val (.ref b1), .val (.int (4 : Int32)), .val (.ref (W (4 : Int32))), .val (.int (1 : Int32)), .val (.int (1 : Int32)), .val (.int (1 : Int32)), .unset] [(.int (0 : Int32))])) (fun t k => st42.trans k) ?_
    refine own_s (B := T42.setTop (mkF m 144 #[.val (.int p1), .val (.ref b1), .val (.int (4 : Int32)), .val (.ref (W (4 : Int32))), .val (.int (1 : Int32)), .val (.int (1 : Int32)), .val (.int (1 : Int32)), .unset] [])) (fun t k => XS.ifYes X42.here hx rfl (pc0 := 136) (pc' := 144) rfl (hb hby at_136) rfl ((if0 _ _).trans (teq rfl).1) (by decide) (by decide) k) ?_
    refine own_s (B := T42.setTop (mkF m 145 #[.val (.int p1), .val (.ref b1), .val (.int (4 : Int32)), .val (.ref (W (4 : Int32))), .val (.int (1 : Int32)), .val (.int (1 : Int32)), .val (.int (1 : Int32)), .unset] [(.int (1 : Int32))])) (fun t k => XS.iconst X42.here hx rfl (hb hby at_144) k) ?_
    refine own_s (B := T42.setTop (mkF m 149 #[.val (.int p1), .val (.ref b1), .val (.int (4 : Int32)), .val (.ref (W (4 : Int32))), .val (.int (1 : Int32)), .val (.int (1 : Int32)), .val (.int (1 : Int32)), .unset] [(.int (1 : Int32))])) (fun t k => XS.goto X42.here hx rfl (pc0 := 145) (pc' := 149) rfl (hb hby at_145) (by decide) (by decide) k) ?_
    refine own_s (B := T42.setTop (mkF m 151 #[.val (.int p1), .val (.ref b1), .val (.int (4 : Int32)), .val (.ref (W (4 : Int32))), .val (.int (1 : Int32)), .val (.int (1 : Int32)), .val (.int (1 : Int32)), .val (.int (1 : Int32))] [])) (fun t k => XS.istore X42.here hx rfl (hb hby at_149) rfl (l' := #[.val (.int p1), .val (.ref b1), .val (.int (4 : Int32)), .val (.ref (W (4 : Int32))), .val (.int (1 : Int32)), .val (.int (1 : Int32)), .val (.int (1 : Int32)), .val (.int (1 : Int32))]) rfl k) ?_
    refine own_s (B := T42.setTop (mkF m 153 #[.val (.int p1), .val (.ref b1), .val (.int (4 : Int32)), .val (.ref (W (4 : Int32))), .val (.int (1 : Int32)), .val (.int (1 : Int32)), .val (.int (1 : Int32)), .val (.int (1 : Int32))] [(.int (1 : Int32))])) (fun t k => XS.iload X42.here hx rfl (hb hby at_151) rfl k) ?_
    refine own_s (B := T42.setTop (mkF m 155 #[.val (.int p1), .val (.ref b1), .val (.int (4 : Int32)), .val (.ref (W (4 : Int32))), .val (.int (1 : Int32)), .val (.int (1 : Int32)), .val (.int (1 : Int32)), .val (.int (1 : Int32))] [(.int (1 : Int32)), (.int (1 : Int32))])) (fun t k => XS.iload X42.here hx rfl (hb hby at_153) rfl k) ?_
    refine own_s (B := T42.setTop (mkF m 158 #[.val (.int p1), .val (.ref b1), .val (.int (4 : Int32)), .val (.ref (W (4 : Int32))), .val (.int (1 : Int32)), .val (.int (1 : Int32)), .val (.int (1 : Int32)), .val (.int (1 : Int32))] [])) (fun t k => XS.icmpNo X42.here hx rfl (hb hby at_155) rfl (teq rfl).2 k) ?_
    refine own_s (B := T42.setTop (mkF m 160 #[.val (.int p1), .val (.ref b1), .val (.int (4 : Int32)), .val (.ref (W (4 : Int32))), .val (.int (1 : Int32)), .val (.int (1 : Int32)), .val (.int (1 : Int32)), .val (.int (1 : Int32))] [(.int (1 : Int32))])) (fun t k => XS.iload X42.here hx rfl (hb hby at_158) rfl k) ?_
    refine own_s (B := T42.setTop (mkF m 163 #[.val (.int p1), .val (.ref b1), .val (.int (4 : Int32)), .val (.ref (W (4 : Int32))), .val (.int (1 : Int32)), .val (.int (1 : Int32)), .val (.int (1 : Int32)), .val (.int (1 : Int32))] [])) (fun t k => XS.ifNo X42.here hx rfl (hb hby at_160) rfl ((if0 _ _).trans (feq (by decide)).1) k) ?_
    refine own_s (B := T42.setTop (mkF m 165 #[.val (.int p1), .val (.ref b1), .val (.int (4 : Int32)), .val (.ref (W (4 : Int32))), .val (.int (1 : Int32)), .val (.int (1 : Int32)), .val (.int (1 : Int32)), .val (.int (1 : Int32))] [(.int (1 : Int32))])) (fun t k => XS.iload X42.here hx rfl (hb hby at_163) rfl k) ?_
    refine own_s (B := T42.setTop (mkF m 168 #[.val (.int p1), .val (.ref b1), .val (.int (4 : Int32)), .val (.ref (W (4 : Int32))), .val (.int (1 : Int32)), .val (.int (1 : Int32)), .val (.int (1 : Int32)), .val (.int (1 : Int32))] [])) (fun t k => XS.ifNo X42.here hx rfl (hb hby at_165) rfl ((if0 _ _).trans (feq (by decide)).1) k) ?_
    refine own_s (B := T42.setTop (mkF m 169 #[.val (.int p1), .val (.ref b1), .val (.int (4 : Int32)), .val (.ref (W (4 : Int32))), .val (.int (1 : Int32)), .val (.int (1 : Int32)), .val (.int (1 : Int32)), .val (.int (1 : Int32))] [(.int (1 : Int32))])) (fun t k => XS.iconst X42.here hx rfl (hb hby at_168) k) ?_
    refine own_s (B := T42.setTop (mkF m 173 #[.val (.int p1), .val (.ref b1), .val (.int (4 : Int32)), .val (.ref (W (4 : Int32))), .val (.int (1 : Int32)), .val (.int (1 : Int32)), .val (.int (1 : Int32)), .val (.int (1 : Int32))] [(.int (1 : Int32))])) (fun t k => XS.goto X42.here hx rfl (pc0 := 169) (pc' := 173) rfl (hb hby at_169) (by decide) (by decide) k) ?_
    exact own_retB X42 hx hlk (t := .boolean) Bd.returns (by simp) (hb hby at_173) (by decide) (by decide) ⟨rfl, N42⟩
  · refine own_s (B := T15.setTop (mkF m 57 #[.val (.int p1), .val (.ref b1), .val (.int (5 : Int32)), .unset, .unset, .unset, .unset, .unset] [])) (fun t k => XS.istoreN X15.here hx rfl (hb hby at_56) rfl (l' := #[.val (.int p1), .val (.ref b1), .val (.int (5 : Int32)), .unset, .unset, .unset, .unset, .unset]) rfl k) ?_
    refine own_s (B := T15.setTop (mkF m 58 #[.val (.int p1), .val (.ref b1), .val (.int (5 : Int32)), .unset, .unset, .unset, .unset, .unset] [(.ref b1)])) (fun t k => XS.aloadN X15.here hx rfl (hb hby at_57) rfl rfl k) ?_
    refine own_s (B := T15.setTop (mkF m 59 #[.val (.int p1), .val (.ref b1), .val (.int (5 : Int32)), .unset, .unset, .unset, .unset, .unset] [(.int (5 : Int32)), (.ref b1)])) (fun t k => XS.iloadN X15.here hx rfl (hb hby at_58) rfl k) ?_
    obtain ⟨cl43, Ar43, q43, Sz43, Nn43, Hs43, G43⟩ := id V_b1
    have hin43 : ¬ ((5 : Int32) < 0 ∨ cl43.slots.size ≤ ((5 : Int32)).toNatClampNeg) := inb_of Sz43 ⟨by decide, by decide⟩
    refine own_s (B := T15.setTop (mkF m 60 #[.val (.int p1), .val (.ref b1), .val (.int (5 : Int32)), .unset, .unset, .unset, .unset, .unset] [(.ref (W (5 : Int32)))])) (fun t k => X15.aaload hx (j := (5 : Int32)) (v := (.ref (W (5 : Int32)))) (by rw [e15]; exact Ar43.1) (State.isArrayOf_alike hZ.alike Ar43.2.1) rfl Ar43.2.2 hin43 (Hs43.at hin43 rfl) (g := (mkF m 59 #[.val (.int p1), .val (.ref b1), .val (.int (5 : Int32)), .unset, .unset, .unset, .unset, .unset] [(.int (5 : Int32)), (.ref b1)])) rfl rfl (hb hby at_59) t k) ?_
    refine own_s (B := T15.setTop (mkF m 61 #[.val (.int p1), .val (.ref b1), .val (.int (5 : Int32)), .val (.ref (W (5 : Int32))), .unset, .unset, .unset, .unset] [])) (fun t k => XS.astoreN X15.here hx rfl (hb hby at_60) rfl rfl (l' := #[.val (.int p1), .val (.ref b1), .val (.int (5 : Int32)), .val (.ref (W (5 : Int32))), .unset, .unset, .unset, .unset]) rfl k) ?_
    refine own_s (B := T15.setTop (mkF m 62 #[.val (.int p1), .val (.ref b1), .val (.int (5 : Int32)), .val (.ref (W (5 : Int32))), .unset, .unset, .unset, .unset] [(.int (5 : Int32))])) (fun t k => XS.iloadN X15.here hx rfl (hb hby at_61) rfl k) ?_
    refine own_s (B := T15.setTop (mkF m 63 #[.val (.int p1), .val (.ref b1), .val (.int (5 : Int32)), .val (.ref (W (5 : Int32))), .unset, .unset, .unset, .unset] [(.int (1 : Int32)), (.int (5 : Int32))])) (fun t k => XS.iconst X15.here hx rfl (hb hby at_62) k) ?_
    refine own_s (B := T15.setTop (mkF m 66 #[.val (.int p1), .val (.ref b1), .val (.int (5 : Int32)), .val (.ref (W (5 : Int32))), .unset, .unset, .unset, .unset] [])) (fun t k => XS.icmpNo X15.here hx rfl (hb hby at_63) rfl (feq (by decide)).1 k) ?_
    refine own_s (B := T15.setTop (mkF m 67 #[.val (.int p1), .val (.ref b1), .val (.int (5 : Int32)), .val (.ref (W (5 : Int32))), .unset, .unset, .unset, .unset] [(.int (5 : Int32))])) (fun t k => XS.iloadN X15.here hx rfl (hb hby at_66) rfl k) ?_
    refine own_s (B := T15.setTop (mkF m 68 #[.val (.int p1), .val (.ref b1), .val (.int (5 : Int32)), .val (.ref (W (5 : Int32))), .unset, .unset, .unset, .unset] [(.int (2 : Int32)), (.int (5 : Int32))])) (fun t k => XS.iconst X15.here hx rfl (hb hby at_67) k) ?_
    refine own_s (B := T15.setTop (mkF m 71 #[.val (.int p1), .val (.ref b1), .val (.int (5 : Int32)), .val (.ref (W (5 : Int32))), .unset, .unset, .unset, .unset] [])) (fun t k => XS.icmpNo X15.here hx rfl (hb hby at_68) rfl (feq (by decide)).1 k) ?_
    refine own_s (B := T15.setTop (mkF m 72 #[.val (.int p1), .val (.ref b1), .val (.int (5 : Int32)), .val (.ref (W (5 : Int32))), .unset, .unset, .unset, .unset] [(.int (5 : Int32))])) (fun t k => XS.iloadN X15.here hx rfl (hb hby at_71) rfl k) ?_
    refine own_s (B := T15.setTop (mkF m 73 #[.val (.int p1), .val (.ref b1), .val (.int (5 : Int32)), .val (.ref (W (5 : Int32))), .unset, .unset, .unset, .unset] [(.int (4 : Int32)), (.int (5 : Int32))])) (fun t k => XS.iconst X15.here hx rfl (hb hby at_72) k) ?_
    refine own_s (B := T15.setTop (mkF m 76 #[.val (.int p1), .val (.ref b1), .val (.int (5 : Int32)), .val (.ref (W (5 : Int32))), .unset, .unset, .unset, .unset] [])) (fun t k => XS.icmpNo X15.here hx rfl (hb hby at_73) rfl (feq (by decide)).1 k) ?_
    refine own_s (B := T15.setTop (mkF m 77 #[.val (.int p1), .val (.ref b1), .val (.int (5 : Int32)), .val (.ref (W (5 : Int32))), .unset, .unset, .unset, .unset] [(.int (5 : Int32))])) (fun t k => XS.iloadN X15.here hx rfl (hb hby at_76) rfl k) ?_
    refine own_s (B := T15.setTop (mkF m 78 #[.val (.int p1), .val (.ref b1), .val (.int (5 : Int32)), .val (.ref (W (5 : Int32))), .unset, .unset, .unset, .unset] [(.int (5 : Int32)), (.int (5 : Int32))])) (fun t k => XS.iconst X15.here hx rfl (hb hby at_77) k) ?_
    refine own_s (B := T15.setTop (mkF m 81 #[.val (.int p1), .val (.ref b1), .val (.int (5 : Int32)), .val (.ref (W (5 : Int32))), .unset, .unset, .unset, .unset] [])) (fun t k => XS.icmpNo X15.here hx rfl (hb hby at_78) rfl (teq rfl).2 k) ?_
    refine own_s (B := T15.setTop (mkF m 82 #[.val (.int p1), .val (.ref b1), .val (.int (5 : Int32)), .val (.ref (W (5 : Int32))), .unset, .unset, .unset, .unset] [(.int (1 : Int32))])) (fun t k => XS.iconst X15.here hx rfl (hb hby at_81) k) ?_
    refine own_s (B := T15.setTop (mkF m 86 #[.val (.int p1), .val (.ref b1), .val (.int (5 : Int32)), .val (.ref (W (5 : Int32))), .unset, .unset, .unset, .unset] [(.int (1 : Int32))])) (fun t k => XS.goto X15.here hx rfl (pc0 := 82) (pc' := 86) rfl (hb hby at_82) (by decide) (by decide) k) ?_
    refine own_s (B := T15.setTop (mkF m 88 #[.val (.int p1), .val (.ref b1), .val (.int (5 : Int32)), .val (.ref (W (5 : Int32))), .val (.int (1 : Int32)), .unset, .unset, .unset] [])) (fun t k => XS.istore X15.here hx rfl (hb hby at_86) rfl (l' := #[.val (.int p1), .val (.ref b1), .val (.int (5 : Int32)), .val (.ref (W (5 : Int32))), .val (.int (1 : Int32)), .unset, .unset, .unset]) rfl k) ?_
    refine own_s (B := T15.setTop (mkF m 89 #[.val (.int p1), .val (.ref b1), .val (.int (5 : Int32)), .val (.ref (W (5 : Int32))), .val (.int (1 : Int32)), .unset, .unset, .unset] [(.ref (W (5 : Int32)))])) (fun t k => XS.aloadN X15.here hx rfl (hb hby at_88) rfl rfl k) ?_
    obtain ⟨cq44, kq44, q44a, q44b, q44c⟩ := isOf hZ e15 ((XW (5 : Int32) (by decide) (by decide)).ext EX)
    obtain ⟨_, _, ⟨T44, L44, k44, n44⟩, -, X44, ⟨Lc44, hQ44, l44, y44, z44⟩, st44⟩ := X15.virtualBack hx (y := (⟨"com/example/formal_courier/formalcourier/crs/CrsDocumentTypeControls$DocumentType", "isReplacement", "()Z"⟩ : MethodName)) (z := (⟨"com/example/formal_courier/formalcourier/crs/CrsDocumentTypeControls$DocumentType", "isReplacement", "()Z"⟩ : MethodName)) hown (mvT hZ (hw _ (List.mem_of_getElem? (i := 19) rfl))) (mvT hZ (hw _ (List.mem_of_getElem? (i := 20) rfl))) (notFace_of_selects (args := #[]) (mvT hZ (hw _ (List.mem_of_getElem? (i := 22) rfl)))) (mvT hZ (hw _ (List.mem_of_getElem? (i := 22) rfl))) (mvT hZ (hw _ (List.mem_of_getElem? (i := 21) rfl))) (by decide) (backOf (W := 0) (rm1 l Z a0 hw [] (W (5 : Int32)) W (1 : Int32) h15 n0 (Nat.le_trans Z0 EX.1) (WS.ext EX EW) (own_b1 (Or.inr (Or.inr (Or.inr rfl))))) hZ (hw _ (List.mem_of_getElem? (i := 23) rfl)) (hw _ (List.mem_of_getElem? (i := 3) rfl)) (by decide) (by decide)) q44a q44c (g := (mkF m 89 #[.val (.int p1), .val (.ref b1), .val (.int (5 : Int32)), .val (.ref (W (5 : Int32))), .val (.int (1 : Int32)), .unset, .unset, .unset] [(.ref (W (5 : Int32)))])) rfl (by rw [hml]; rfl) (Steps.refl _) (argsL := []) (rest := []) (lenOf pd_0 rfl) rfl (by show 2 * 0 + _ ≤ _; exact Nat.le_of_eq rfl) (hb hby at_89) (fun _ _ => ⟨rfl, e15, (by decide : 1 + 0 ≤ _), (by decide : 7 + 0 ≤ _)⟩)
    dsimp only [Pt.U, Pt.locs, Pt.cells, Pt.slots] at X44 l44 y44 z44 st44 hQ44
    subst l44 y44 z44
    obtain ⟨rfl, N44q, e44⟩ := hQ44
    have N44 := Fr.app N15 N44q
    refine own_s (B := T44.setTop (mkF m 92 #[.val (.int p1), .val (.ref b1), .val (.int (5 : Int32)), .val (.ref (W (5 : Int32))), .val (.int (1 : Int32)), .unset, .unset, .unset] [(.int (1 : Int32))])) (fun t k => st44.trans k) ?_
    refine own_s (B := T44.setTop (mkF m 94 #[.val (.int p1), .val (.ref b1), .val (.int (5 : Int32)), .val (.ref (W (5 : Int32))), .val (.int (1 : Int32)), .val (.int (1 : Int32)), .unset, .unset] [])) (fun t k => XS.istore X44.here hx rfl (hb hby at_92) rfl (l' := #[.val (.int p1), .val (.ref b1), .val (.int (5 : Int32)), .val (.ref (W (5 : Int32))), .val (.int (1 : Int32)), .val (.int (1 : Int32)), .unset, .unset]) rfl k) ?_
    refine own_s (B := T44.setTop (mkF m 96 #[.val (.int p1), .val (.ref b1), .val (.int (5 : Int32)), .val (.ref (W (5 : Int32))), .val (.int (1 : Int32)), .val (.int (1 : Int32)), .unset, .unset] [(.int (1 : Int32))])) (fun t k => XS.iload X44.here hx rfl (hb hby at_94) rfl k) ?_
    refine own_s (B := T44.setTop (mkF m 97 #[.val (.int p1), .val (.ref b1), .val (.int (5 : Int32)), .val (.ref (W (5 : Int32))), .val (.int (1 : Int32)), .val (.int (1 : Int32)), .unset, .unset] [(.ref (W (5 : Int32))), (.int (1 : Int32))])) (fun t k => XS.aloadN X44.here hx rfl (hb hby at_96) rfl rfl k) ?_
    obtain ⟨cq45, kq45, q45a, q45b, q45c⟩ := isOf hZ e44 ((XW (5 : Int32) (by decide) (by decide)).ext EX)
    obtain ⟨_, _, ⟨T45, L45, k45, n45⟩, -, X45, ⟨Lc45, hQ45, l45, y45, z45⟩, st45⟩ := X44.virtualBack hx (y := (⟨"com/example/formal_courier/formalcourier/crs/CrsDocumentTypeControls$DocumentType", "isProduction", "()Z"⟩ : MethodName)) (z := (⟨"com/example/formal_courier/formalcourier/crs/CrsDocumentTypeControls$DocumentType", "isProduction", "()Z"⟩ : MethodName)) hown (mvT hZ (hw _ (List.mem_of_getElem? (i := 28) rfl))) (mvT hZ (hw _ (List.mem_of_getElem? (i := 29) rfl))) (notFace_of_selects (args := #[]) (mvT hZ (hw _ (List.mem_of_getElem? (i := 31) rfl)))) (mvT hZ (hw _ (List.mem_of_getElem? (i := 31) rfl))) (mvT hZ (hw _ (List.mem_of_getElem? (i := 30) rfl))) (by decide) (backOf (W := 1) (rm2 l Z a0 hw [] (W (5 : Int32)) W (0 : Int32) h15 n0 (Nat.le_trans Z0 EX.1) (WS.ext EX EW) (own_b0 (fun q => q.elim (own_ne IW 5 0 (by decide)) (fun q => q.elim (own_ne IW 5 1 (by decide)) (own_ne IW 5 2 (by decide)))))) hZ (hw _ (List.mem_of_getElem? (i := 32) rfl)) (hw _ (List.mem_of_getElem? (i := 3) rfl)) (by decide) (by decide)) q45a q45c (g := (mkF m 97 #[.val (.int p1), .val (.ref b1), .val (.int (5 : Int32)), .val (.ref (W (5 : Int32))), .val (.int (1 : Int32)), .val (.int (1 : Int32)), .unset, .unset] [(.ref (W (5 : Int32))), (.int (1 : Int32))])) rfl (by rw [hml]; rfl) (Steps.refl _) (argsL := []) (rest := [(.int (1 : Int32))]) (lenOf pd_0 rfl) rfl (by show 2 * 0 + _ ≤ _; exact Nat.le_of_eq rfl) (hb hby at_97) (fun _ _ => ⟨rfl, e44, (by decide : 1 + 0 ≤ _), (by decide : 7 + 0 ≤ _)⟩)
    dsimp only [Pt.U, Pt.locs, Pt.cells, Pt.slots] at X45 l45 y45 z45 st45 hQ45
    subst l45 y45 z45
    obtain ⟨rfl, N45q, e45⟩ := hQ45
    have N45 := Fr.app N44 N45q
    refine own_s (B := T45.setTop (mkF m 100 #[.val (.int p1), .val (.ref b1), .val (.int (5 : Int32)), .val (.ref (W (5 : Int32))), .val (.int (1 : Int32)), .val (.int (1 : Int32)), .unset, .unset] [(.int (0 : Int32)), (.int (1 : Int32))])) (fun t k => st45.trans k) ?_
    refine own_s (B := T45.setTop (mkF m 103 #[.val (.int p1), .val (.ref b1), .val (.int (5 : Int32)), .val (.ref (W (5 : Int32))), .val (.int (1 : Int32)), .val (.int (1 : Int32)), .unset, .unset] [(.int (1 : Int32))])) (fun t k => XS.ifNo X45.here hx rfl (hb hby at_100) rfl ((if0 _ _).trans (teq rfl).2) k) ?_
    refine own_s (B := T45.setTop (mkF m 104 #[.val (.int p1), .val (.ref b1), .val (.int (5 : Int32)), .val (.ref (W (5 : Int32))), .val (.int (1 : Int32)), .val (.int (1 : Int32)), .unset, .unset] [(.ref (W (5 : Int32))), (.int (1 : Int32))])) (fun t k => XS.aloadN X45.here hx rfl (hb hby at_103) rfl rfl k) ?_
    obtain ⟨cq46, kq46, q46a, q46b, q46c⟩ := isOf hZ e45 ((XW (5 : Int32) (by decide) (by decide)).ext EX)
    obtain ⟨_, _, ⟨T46, L46, k46, n46⟩, -, X46, ⟨Lc46, hQ46, l46, y46, z46⟩, st46⟩ := X45.virtualBack hx (y := (⟨"com/example/formal_courier/formalcourier/crs/CrsDocumentTypeControls$DocumentType", "isTest", "()Z"⟩ : MethodName)) (z := (⟨"com/example/formal_courier/formalcourier/crs/CrsDocumentTypeControls$DocumentType", "isTest", "()Z"⟩ : MethodName)) hown (mvT hZ (hw _ (List.mem_of_getElem? (i := 44) rfl))) (mvT hZ (hw _ (List.mem_of_getElem? (i := 45) rfl))) (notFace_of_selects (args := #[]) (mvT hZ (hw _ (List.mem_of_getElem? (i := 47) rfl)))) (mvT hZ (hw _ (List.mem_of_getElem? (i := 47) rfl))) (mvT hZ (hw _ (List.mem_of_getElem? (i := 46) rfl))) (by decide) (backOf (W := 1) (rm5 l Z a0 hw [] (W (5 : Int32)) W (1 : Int32) h15 n0 (Nat.le_trans Z0 EX.1) (WS.ext EX EW) (own_b1 (Or.inr (Or.inr rfl)))) hZ (hw _ (List.mem_of_getElem? (i := 48) rfl)) (hw _ (List.mem_of_getElem? (i := 3) rfl)) (by decide) (by decide)) q46a q46c (g := (mkF m 104 #[.val (.int p1), .val (.ref b1), .val (.int (5 : Int32)), .val (.ref (W (5 : Int32))), .val (.int (1 : Int32)), .val (.int (1 : Int32)), .unset, .unset] [(.ref (W (5 : Int32))), (.int (1 : Int32))])) rfl (by rw [hml]; rfl) (Steps.refl _) (argsL := []) (rest := [(.int (1 : Int32))]) (lenOf pd_0 rfl) rfl (by show 2 * 0 + _ ≤ _; exact Nat.le_of_eq rfl) (hb hby at_104) (fun _ _ => ⟨rfl, e45, (by decide : 1 + 0 ≤ _), (by decide : 7 + 0 ≤ _)⟩)
    dsimp only [Pt.U, Pt.locs, Pt.cells, Pt.slots] at X46 l46 y46 z46 st46 hQ46
    subst l46 y46 z46
    obtain ⟨rfl, N46q, e46⟩ := hQ46
    have N46 := Fr.app N45 N46q
    refine own_s (B := T46.setTop (mkF m 107 #[.val (.int p1), .val (.ref b1), .val (.int (5 : Int32)), .val (.ref (W (5 : Int32))), .val (.int (1 : Int32)), .val (.int (1 : Int32)), .unset, .unset] [(.int (1 : Int32)), (.int (1 : Int32))])) (fun t k => st46.trans k) ?_
    refine own_s (B := T46.setTop (mkF m 110 #[.val (.int p1), .val (.ref b1), .val (.int (5 : Int32)), .val (.ref (W (5 : Int32))), .val (.int (1 : Int32)), .val (.int (1 : Int32)), .unset, .unset] [(.int (1 : Int32))])) (fun t k => XS.ifNo X46.here hx rfl (hb hby at_107) rfl ((if0 _ _).trans (feq (by decide)).1) k) ?_
    refine own_s (B := T46.setTop (mkF m 111 #[.val (.int p1), .val (.ref b1), .val (.int (5 : Int32)), .val (.ref (W (5 : Int32))), .val (.int (1 : Int32)), .val (.int (1 : Int32)), .unset, .unset] [(.ref (W (5 : Int32))), (.int (1 : Int32))])) (fun t k => XS.aloadN X46.here hx rfl (hb hby at_110) rfl rfl k) ?_
    obtain ⟨cq47, kq47, q47a, q47b, q47c⟩ := isOf hZ e46 ((XW (5 : Int32) (by decide) (by decide)).ext EX)
    obtain ⟨_, _, ⟨T47, L47, k47, n47⟩, -, X47, ⟨Lc47, hQ47, l47, y47, z47⟩, st47⟩ := X46.virtualBack hx (y := (⟨"com/example/formal_courier/formalcourier/crs/CrsDocumentTypeControls$DocumentType", "isNew", "()Z"⟩ : MethodName)) (z := (⟨"com/example/formal_courier/formalcourier/crs/CrsDocumentTypeControls$DocumentType", "isNew", "()Z"⟩ : MethodName)) hown (mvT hZ (hw _ (List.mem_of_getElem? (i := 34) rfl))) (mvT hZ (hw _ (List.mem_of_getElem? (i := 35) rfl))) (notFace_of_selects (args := #[]) (mvT hZ (hw _ (List.mem_of_getElem? (i := 37) rfl)))) (mvT hZ (hw _ (List.mem_of_getElem? (i := 37) rfl))) (mvT hZ (hw _ (List.mem_of_getElem? (i := 36) rfl))) (by decide) (backOf (W := 1) (rm3 l Z a0 hw [] (W (5 : Int32)) W (0 : Int32) h15 n0 (Nat.le_trans Z0 EX.1) (WS.ext EX EW) (own_b0 (fun q => q.elim (own_ne IW 5 0 (by decide)) (own_ne IW 5 3 (by decide))))) hZ (hw _ (List.mem_of_getElem? (i := 38) rfl)) (hw _ (List.mem_of_getElem? (i := 3) rfl)) (by decide) (by decide)) q47a q47c (g := (mkF m 111 #[.val (.int p1), .val (.ref b1), .val (.int (5 : Int32)), .val (.ref (W (5 : Int32))), .val (.int (1 : Int32)), .val (.int (1 : Int32)), .unset, .unset] [(.ref (W (5 : Int32))), (.int (1 : Int32))])) rfl (by rw [hml]; rfl) (Steps.refl _) (argsL := []) (rest := [(.int (1 : Int32))]) (lenOf pd_0 rfl) rfl (by show 2 * 0 + _ ≤ _; exact Nat.le_of_eq rfl) (hb hby at_111) (fun _ _ => ⟨rfl, e46, (by decide : 1 + 0 ≤ _), (by decide : 7 + 0 ≤ _)⟩)
    dsimp only [Pt.U, Pt.locs, Pt.cells, Pt.slots] at X47 l47 y47 z47 st47 hQ47
    subst l47 y47 z47
    obtain ⟨rfl, N47q, e47⟩ := hQ47
    have N47 := Fr.app N46 N47q
    refine own_s (B := T47.setTop (mkF m 114 #[.val (.int p1), .val (.ref b1), .val (.int (5 : Int32)), .val (.ref (W (5 : Int32))), .val (.int (1 : Int32)), .val (.int (1 : Int32)), .unset, .unset] [(.int (0 : Int32)), (.int (1 : Int32))])) (fun t k => st47.trans k) ?_
    refine own_s (B := T47.setTop (mkF m 117 #[.val (.int p1), .val (.ref b1), .val (.int (5 : Int32)), .val (.ref (W (5 : Int32))), .val (.int (1 : Int32)), .val (.int (1 : Int32)), .unset, .unset] [(.int (1 : Int32))])) (fun t k => XS.ifNo X47.here hx rfl (hb hby at_114) rfl ((if0 _ _).trans (teq rfl).2) k) ?_
    refine own_s (B := T47.setTop (mkF m 118 #[.val (.int p1), .val (.ref b1), .val (.int (5 : Int32)), .val (.ref (W (5 : Int32))), .val (.int (1 : Int32)), .val (.int (1 : Int32)), .unset, .unset] [(.int (1 : Int32)), (.int (1 : Int32))])) (fun t k => XS.iconst X47.here hx rfl (hb hby at_117) k) ?_
    refine own_s (B := T47.setTop (mkF m 122 #[.val (.int p1), .val (.ref b1), .val (.int (5 : Int32)), .val (.ref (W (5 : Int32))), .val (.int (1 : Int32)), .val (.int (1 : Int32)), .unset, .unset] [(.int (1 : Int32)), (.int (1 : Int32))])) (fun t k => XS.goto X47.here hx rfl (pc0 := 118) (pc' := 122) rfl (hb hby at_118) (by decide) (by decide) k) ?_
    refine own_s (B := T47.setTop (mkF m 125 #[.val (.int p1), .val (.ref b1), .val (.int (5 : Int32)), .val (.ref (W (5 : Int32))), .val (.int (1 : Int32)), .val (.int (1 : Int32)), .unset, .unset] [])) (fun t k => XS.icmpNo X47.here hx rfl (hb hby at_122) rfl (teq rfl).2 k) ?_
    refine own_s (B := T47.setTop (mkF m 126 #[.val (.int p1), .val (.ref b1), .val (.int (5 : Int32)), .val (.ref (W (5 : Int32))), .val (.int (1 : Int32)), .val (.int (1 : Int32)), .unset, .unset] [(.int (1 : Int32))])) (fun t k => XS.iconst X47.here hx rfl (hb hby at_125) k) ?_
    refine own_s (B := T47.setTop (mkF m 130 #[.val (.int p1), .val (.ref b1), .val (.int (5 : Int32)), .val (.ref (W (5 : Int32))), .val (.int (1 : Int32)), .val (.int (1 : Int32)), .unset, .unset] [(.int (1 : Int32))])) (fun t k => XS.goto X47.here hx rfl (pc0 := 126) (pc' := 130) rfl (hb hby at_126) (by decide) (by decide) k) ?_
    refine own_s (B := T47.setTop (mkF m 132 #[.val (.int p1), .val (.ref b1), .val (.int (5 : Int32)), .val (.ref (W (5 : Int32))), .val (.int (1 : Int32)), .val (.int (1 : Int32)), .val (.int (1 : Int32)), .unset] [])) (fun t k => XS.istore X47.here hx rfl (hb hby at_130) rfl (l' := #[.val (.int p1), .val (.ref b1), .val (.int (5 : Int32)), .val (.ref (W (5 : Int32))), .val (.int (1 : Int32)), .val (.int (1 : Int32)), .val (.int (1 : Int32)), .unset]) rfl k) ?_
    refine own_s (B := T47.setTop (mkF m 133 #[.val (.int p1), .val (.ref b1), .val (.int (5 : Int32)), .val (.ref (W (5 : Int32))), .val (.int (1 : Int32)), .val (.int (1 : Int32)), .val (.int (1 : Int32)), .unset] [(.ref (W (5 : Int32)))])) (fun t k => XS.aloadN X47.here hx rfl (hb hby at_132) rfl rfl k) ?_
    obtain ⟨cq48, kq48, q48a, q48b, q48c⟩ := isOf hZ e47 ((XW (5 : Int32) (by decide) (by decide)).ext EX)
    obtain ⟨_, _, ⟨T48, L48, k48, n48⟩, -, X48, ⟨Lc48, hQ48, l48, y48, z48⟩, st48⟩ := X47.virtualBack hx (y := (⟨"com/example/formal_courier/formalcourier/crs/CrsDocumentTypeControls$DocumentType", "isDeletion", "()Z"⟩ : MethodName)) (z := (⟨"com/example/formal_courier/formalcourier/crs/CrsDocumentTypeControls$DocumentType", "isDeletion", "()Z"⟩ : MethodName)) hown (mvT hZ (hw _ (List.mem_of_getElem? (i := 39) rfl))) (mvT hZ (hw _ (List.mem_of_getElem? (i := 40) rfl))) (notFace_of_selects (args := #[]) (mvT hZ (hw _ (List.mem_of_getElem? (i := 42) rfl)))) (mvT hZ (hw _ (List.mem_of_getElem? (i := 42) rfl))) (mvT hZ (hw _ (List.mem_of_getElem? (i := 41) rfl))) (by decide) (backOf (W := 0) (rm4 l Z a0 hw [] (W (5 : Int32)) W (1 : Int32) h15 n0 (Nat.le_trans Z0 EX.1) (WS.ext EX EW) (own_b1 (Or.inr rfl))) hZ (hw _ (List.mem_of_getElem? (i := 43) rfl)) (hw _ (List.mem_of_getElem? (i := 3) rfl)) (by decide) (by decide)) q48a q48c (g := (mkF m 133 #[.val (.int p1), .val (.ref b1), .val (.int (5 : Int32)), .val (.ref (W (5 : Int32))), .val (.int (1 : Int32)), .val (.int (1 : Int32)), .val (.int (1 : Int32)), .unset] [(.ref (W (5 : Int32)))])) rfl (by rw [hml]; rfl) (Steps.refl _) (argsL := []) (rest := []) (lenOf pd_0 rfl) rfl (by show 2 * 0 + _ ≤ _; exact Nat.le_of_eq rfl) (hb hby at_133) (fun _ _ => ⟨rfl, e47, (by decide : 1 + 0 ≤ _), (by decide : 7 + 0 ≤ _)⟩)
    dsimp only [Pt.U, Pt.locs, Pt.cells, Pt.slots] at X48 l48 y48 z48 st48 hQ48
    subst l48 y48 z48
    obtain ⟨rfl, N48q, e48⟩ := hQ48
    have N48 := Fr.app N47 N48q
    refine own_s (B := T48.setTop (mkF m 136 #[.val (.int p1), .val (.ref b1), .val (.int (5 : Int32)), .val (.ref (W (5 : Int32))), .val (.int (1 : Int32)), .val (.int (1 : Int32)), .val (.int (1 : Int32)), .unset] [(.int (1 : Int32))])) (fun t k => st48.trans k) ?_
    refine own_s (B := T48.setTop (mkF m 139 #[.val (.int p1), .val (.ref b1), .val (.int (5 : Int32)), .val (.ref (W (5 : Int32))), .val (.int (1 : Int32)), .val (.int (1 : Int32)), .val (.int (1 : Int32)), .unset] [])) (fun t k => XS.ifNo X48.here hx rfl (hb hby at_136) rfl ((if0 _ _).trans (feq (by decide)).1) k) ?_
    refine own_s (B := T48.setTop (mkF m 141 #[.val (.int p1), .val (.ref b1), .val (.int (5 : Int32)), .val (.ref (W (5 : Int32))), .val (.int (1 : Int32)), .val (.int (1 : Int32)), .val (.int (1 : Int32)), .unset] [(.int (1 : Int32))])) (fun t k => XS.iload X48.here hx rfl (hb hby at_139) rfl k) ?_
    refine own_s (B := T48.setTop (mkF m 144 #[.val (.int p1), .val (.ref b1), .val (.int (5 : Int32)), .val (.ref (W (5 : Int32))), .val (.int (1 : Int32)), .val (.int (1 : Int32)), .val (.int (1 : Int32)), .unset] [])) (fun t k => XS.ifNo X48.here hx rfl (hb hby at_141) rfl ((if0 _ _).trans (feq (by decide)).1) k) ?_
    refine own_s (B := T48.setTop (mkF m 145 #[.val (.int p1), .val (.ref b1), .val (.int (5 : Int32)), .val (.ref (W (5 : Int32))), .val (.int (1 : Int32)), .val (.int (1 : Int32)), .val (.int (1 : Int32)), .unset] [(.int (1 : Int32))])) (fun t k => XS.iconst X48.here hx rfl (hb hby at_144) k) ?_
    refine own_s (B := T48.setTop (mkF m 149 #[.val (.int p1), .val (.ref b1), .val (.int (5 : Int32)), .val (.ref (W (5 : Int32))), .val (.int (1 : Int32)), .val (.int (1 : Int32)), .val (.int (1 : Int32)), .unset] [(.int (1 : Int32))])) (fun t k => XS.goto X48.here hx rfl (pc0 := 145) (pc' := 149) rfl (hb hby at_145) (by decide) (by decide) k) ?_
    refine own_s (B := T48.setTop (mkF m 151 #[.val (.int p1), .val (.ref b1), .val (.int (5 : Int32)), .val (.ref (W (5 : Int32))), .val (.int (1 : Int32)), .val (.int (1 : Int32)), .val (.int (1 : Int32)), .val (.int (1 : Int32))] [])) (fun t k => XS.istore X48.here hx rfl (hb hby at_149) rfl (l' := #[.val (.int p1), .val (.ref b1), .val (.int (5 : Int32)), .val (.ref (W (5 : Int32))), .val (.int (1 : Int32)), .val (.int (1 : Int32)), .val (.int (1 : Int32)), .val (.int (1 : Int32))]) rfl k) ?_
    refine own_s (B := T48.setTop (mkF m 153 #[.val (.int p1), .val (.ref b1), .val (.int (5 : Int32)), .val (.ref (W (5 : Int32))), .val (.int (1 : Int32)), .val (.int (1 : Int32)), .val (.int (1 : Int32)), .val (.int (1 : Int32))] [(.int (1 : Int32))])) (fun t k => XS.iload X48.here hx rfl (hb hby at_151) rfl k) ?_
    refine own_s (B := T48.setTop (mkF m 155 #[.val (.int p1), .val (.ref b1), .val (.int (5 : Int32)), .val (.ref (W (5 : Int32))), .val (.int (1 : Int32)), .val (.int (1 : Int32)), .val (.int (1 : Int32)), .val (.int (1 : Int32))] [(.int (1 : Int32)), (.int (1 : Int32))])) (fun t k => XS.iload X48.here hx rfl (hb hby at_153) rfl k) ?_
    refine own_s (B := T48.setTop (mkF m 158 #[.val (.int p1), .val (.ref b1), .val (.int (5 : Int32)), .val (.ref (W (5 : Int32))), .val (.int (1 : Int32)), .val (.int (1 : Int32)), .val (.int (1 : Int32)), .val (.int (1 : Int32))] [])) (fun t k => XS.icmpNo X48.here hx rfl (hb hby at_155) rfl (teq rfl).2 k) ?_
    refine own_s (B := T48.setTop (mkF m 160 #[.val (.int p1), .val (.ref b1), .val (.int (5 : Int32)), .val (.ref (W (5 : Int32))), .val (.int (1 : Int32)), .val (.int (1 : Int32)), .val (.int (1 : Int32)), .val (.int (1 : Int32))] [(.int (1 : Int32))])) (fun t k => XS.iload X48.here hx rfl (hb hby at_158) rfl k) ?_
    refine own_s (B := T48.setTop (mkF m 163 #[.val (.int p1), .val (.ref b1), .val (.int (5 : Int32)), .val (.ref (W (5 : Int32))), .val (.int (1 : Int32)), .val (.int (1 : Int32)), .val (.int (1 : Int32)), .val (.int (1 : Int32))] [])) (fun t k => XS.ifNo X48.here hx rfl (hb hby at_160) rfl ((if0 _ _).trans (feq (by decide)).1) k) ?_
    refine own_s (B := T48.setTop (mkF m 165 #[.val (.int p1), .val (.ref b1), .val (.int (5 : Int32)), .val (.ref (W (5 : Int32))), .val (.int (1 : Int32)), .val (.int (1 : Int32)), .val (.int (1 : Int32)), .val (.int (1 : Int32))] [(.int (1 : Int32))])) (fun t k => XS.iload X48.here hx rfl (hb hby at_163) rfl k) ?_
    refine own_s (B := T48.setTop (mkF m 168 #[.val (.int p1), .val (.ref b1), .val (.int (5 : Int32)), .val (.ref (W (5 : Int32))), .val (.int (1 : Int32)), .val (.int (1 : Int32)), .val (.int (1 : Int32)), .val (.int (1 : Int32))] [])) (fun t k => XS.ifNo X48.here hx rfl (hb hby at_165) rfl ((if0 _ _).trans (feq (by decide)).1) k) ?_
    refine own_s (B := T48.setTop (mkF m 169 #[.val (.int p1), .val (.ref b1), .val (.int (5 : Int32)), .val (.ref (W (5 : Int32))), .val (.int (1 : Int32)), .val (.int (1 : Int32)), .val (.int (1 : Int32)), .val (.int (1 : Int32))] [(.int (1 : Int32))])) (fun t k => XS.iconst X48.here hx rfl (hb hby at_168) k) ?_
    refine own_s (B := T48.setTop (mkF m 173 #[.val (.int p1), .val (.ref b1), .val (.int (5 : Int32)), .val (.ref (W (5 : Int32))), .val (.int (1 : Int32)), .val (.int (1 : Int32)), .val (.int (1 : Int32)), .val (.int (1 : Int32))] [(.int (1 : Int32))])) (fun t k => XS.goto X48.here hx rfl (pc0 := 169) (pc' := 173) rfl (hb hby at_169) (by decide) (by decide) k) ?_
    exact own_retB X48 hx hlk (t := .boolean) Bd.returns (by simp) (hb hby at_173) (by decide) (by decide) ⟨rfl, N48⟩
  · refine own_s (B := T15.setTop (mkF m 57 #[.val (.int p1), .val (.ref b1), .val (.int (6 : Int32)), .unset, .unset, .unset, .unset, .unset] [])) (fun t k => XS.istoreN X15.here hx rfl (hb hby at_56) rfl (l' := #[.val (.int p1), .val (.ref b1), .val (.int (6 : Int32)), .unset, .unset, .unset, .unset, .unset]) rfl k) ?_
    refine own_s (B := T15.setTop (mkF m 58 #[.val (.int p1), .val (.ref b1), .val (.int (6 : Int32)), .unset, .unset, .unset, .unset, .unset] [(.ref b1)])) (fun t k => XS.aloadN X15.here hx rfl (hb hby at_57) rfl rfl k) ?_
    refine own_s (B := T15.setTop (mkF m 59 #[.val (.int p1), .val (.ref b1), .val (.int (6 : Int32)), .unset, .unset, .unset, .unset, .unset] [(.int (6 : Int32)), (.ref b1)])) (fun t k => XS.iloadN X15.here hx rfl (hb hby at_58) rfl k) ?_
    obtain ⟨cl49, Ar49, q49, Sz49, Nn49, Hs49, G49⟩ := id V_b1
    have hin49 : ¬ ((6 : Int32) < 0 ∨ cl49.slots.size ≤ ((6 : Int32)).toNatClampNeg) := inb_of Sz49 ⟨by decide, by decide⟩
    refine own_s (B := T15.setTop (mkF m 60 #[.val (.int p1), .val (.ref b1), .val (.int (6 : Int32)), .unset, .unset, .unset, .unset, .unset] [(.ref (W (6 : Int32)))])) (fun t k => X15.aaload hx (j := (6 : Int32)) (v := (.ref (W (6 : Int32)))) (by rw [e15]; exact Ar49.1) (State.isArrayOf_alike hZ.alike Ar49.2.1) rfl Ar49.2.2 hin49 (Hs49.at hin49 rfl) (g := (mkF m 59 #[.val (.int p1), .val (.ref b1), .val (.int (6 : Int32)), .unset, .unset, .unset, .unset, .unset] [(.int (6 : Int32)), (.ref b1)])) rfl rfl (hb hby at_59) t k) ?_
    refine own_s (B := T15.setTop (mkF m 61 #[.val (.int p1), .val (.ref b1), .val (.int (6 : Int32)), .val (.ref (W (6 : Int32))), .unset, .unset, .unset, .unset] [])) (fun t k => XS.astoreN X15.here hx rfl (hb hby at_60) rfl rfl (l' := #[.val (.int p1), .val (.ref b1), .val (.int (6 : Int32)), .val (.ref (W (6 : Int32))), .unset, .unset, .unset, .unset]) rfl k) ?_
    refine own_s (B := T15.setTop (mkF m 62 #[.val (.int p1), .val (.ref b1), .val (.int (6 : Int32)), .val (.ref (W (6 : Int32))), .unset, .unset, .unset, .unset] [(.int (6 : Int32))])) (fun t k => XS.iloadN X15.here hx rfl (hb hby at_61) rfl k) ?_
    refine own_s (B := T15.setTop (mkF m 63 #[.val (.int p1), .val (.ref b1), .val (.int (6 : Int32)), .val (.ref (W (6 : Int32))), .unset, .unset, .unset, .unset] [(.int (1 : Int32)), (.int (6 : Int32))])) (fun t k => XS.iconst X15.here hx rfl (hb hby at_62) k) ?_
    refine own_s (B := T15.setTop (mkF m 66 #[.val (.int p1), .val (.ref b1), .val (.int (6 : Int32)), .val (.ref (W (6 : Int32))), .unset, .unset, .unset, .unset] [])) (fun t k => XS.icmpNo X15.here hx rfl (hb hby at_63) rfl (feq (by decide)).1 k) ?_
    refine own_s (B := T15.setTop (mkF m 67 #[.val (.int p1), .val (.ref b1), .val (.int (6 : Int32)), .val (.ref (W (6 : Int32))), .unset, .unset, .unset, .unset] [(.int (6 : Int32))])) (fun t k => XS.iloadN X15.here hx rfl (hb hby at_66) rfl k) ?_
    refine own_s (B := T15.setTop (mkF m 68 #[.val (.int p1), .val (.ref b1), .val (.int (6 : Int32)), .val (.ref (W (6 : Int32))), .unset, .unset, .unset, .unset] [(.int (2 : Int32)), (.int (6 : Int32))])) (fun t k => XS.iconst X15.here hx rfl (hb hby at_67) k) ?_
    refine own_s (B := T15.setTop (mkF m 71 #[.val (.int p1), .val (.ref b1), .val (.int (6 : Int32)), .val (.ref (W (6 : Int32))), .unset, .unset, .unset, .unset] [])) (fun t k => XS.icmpNo X15.here hx rfl (hb hby at_68) rfl (feq (by decide)).1 k) ?_
    refine own_s (B := T15.setTop (mkF m 72 #[.val (.int p1), .val (.ref b1), .val (.int (6 : Int32)), .val (.ref (W (6 : Int32))), .unset, .unset, .unset, .unset] [(.int (6 : Int32))])) (fun t k => XS.iloadN X15.here hx rfl (hb hby at_71) rfl k) ?_
    refine own_s (B := T15.setTop (mkF m 73 #[.val (.int p1), .val (.ref b1), .val (.int (6 : Int32)), .val (.ref (W (6 : Int32))), .unset, .unset, .unset, .unset] [(.int (4 : Int32)), (.int (6 : Int32))])) (fun t k => XS.iconst X15.here hx rfl (hb hby at_72) k) ?_
    refine own_s (B := T15.setTop (mkF m 76 #[.val (.int p1), .val (.ref b1), .val (.int (6 : Int32)), .val (.ref (W (6 : Int32))), .unset, .unset, .unset, .unset] [])) (fun t k => XS.icmpNo X15.here hx rfl (hb hby at_73) rfl (feq (by decide)).1 k) ?_
    refine own_s (B := T15.setTop (mkF m 77 #[.val (.int p1), .val (.ref b1), .val (.int (6 : Int32)), .val (.ref (W (6 : Int32))), .unset, .unset, .unset, .unset] [(.int (6 : Int32))])) (fun t k => XS.iloadN X15.here hx rfl (hb hby at_76) rfl k) ?_
    refine own_s (B := T15.setTop (mkF m 78 #[.val (.int p1), .val (.ref b1), .val (.int (6 : Int32)), .val (.ref (W (6 : Int32))), .unset, .unset, .unset, .unset] [(.int (5 : Int32)), (.int (6 : Int32))])) (fun t k => XS.iconst X15.here hx rfl (hb hby at_77) k) ?_
    refine own_s (B := T15.setTop (mkF m 85 #[.val (.int p1), .val (.ref b1), .val (.int (6 : Int32)), .val (.ref (W (6 : Int32))), .unset, .unset, .unset, .unset] [])) (fun t k => XS.icmpYes X15.here hx rfl (pc0 := 78) (pc' := 85) rfl (hb hby at_78) rfl (feq (by decide)).2 (by decide) (by decide) k) ?_
    refine own_s (B := T15.setTop (mkF m 86 #[.val (.int p1), .val (.ref b1), .val (.int (6 : Int32)), .val (.ref (W (6 : Int32))), .unset, .unset, .unset, .unset] [(.int (0 : Int32))])) (fun t k => XS.iconst X15.here hx rfl (hb hby at_85) k) ?_
    refine own_s (B := T15.setTop (mkF m 88 #[.val (.int p1), .val (.ref b1), .val (.int (6 : Int32)), .val (.ref (W (6 : Int32))), .val (.int (0 : Int32)), .unset, .unset, .unset] [])) (fun t k => XS.istore X15.here hx rfl (hb hby at_86) rfl (l' := #[.val (.int p1), .val (.ref b1), .val (.int (6 : Int32)), .val (.ref (W (6 : Int32))), .val (.int (0 : Int32)), .unset, .unset, .unset]) rfl k) ?_
    refine own_s (B := T15.setTop (mkF m 89 #[.val (.int p1), .val (.ref b1), .val (.int (6 : Int32)), .val (.ref (W (6 : Int32))), .val (.int (0 : Int32)), .unset, .unset, .unset] [(.ref (W (6 : Int32)))])) (fun t k => XS.aloadN X15.here hx rfl (hb hby at_88) rfl rfl k) ?_
    obtain ⟨cq50, kq50, q50a, q50b, q50c⟩ := isOf hZ e15 ((XW (6 : Int32) (by decide) (by decide)).ext EX)
    obtain ⟨_, _, ⟨T50, L50, k50, n50⟩, -, X50, ⟨Lc50, hQ50, l50, y50, z50⟩, st50⟩ := X15.virtualBack hx (y := (⟨"com/example/formal_courier/formalcourier/crs/CrsDocumentTypeControls$DocumentType", "isReplacement", "()Z"⟩ : MethodName)) (z := (⟨"com/example/formal_courier/formalcourier/crs/CrsDocumentTypeControls$DocumentType", "isReplacement", "()Z"⟩ : MethodName)) hown (mvT hZ (hw _ (List.mem_of_getElem? (i := 19) rfl))) (mvT hZ (hw _ (List.mem_of_getElem? (i := 20) rfl))) (notFace_of_selects (args := #[]) (mvT hZ (hw _ (List.mem_of_getElem? (i := 22) rfl)))) (mvT hZ (hw _ (List.mem_of_getElem? (i := 22) rfl))) (mvT hZ (hw _ (List.mem_of_getElem? (i := 21) rfl))) (by decide) (backOf (W := 0) (rm1 l Z a0 hw [] (W (6 : Int32)) W (0 : Int32) h15 n0 (Nat.le_trans Z0 EX.1) (WS.ext EX EW) (own_b0 (fun q => q.elim (own_ne IW 6 1 (by decide)) (fun q => q.elim (own_ne IW 6 2 (by decide)) (fun q => q.elim (own_ne IW 6 4 (by decide)) (own_ne IW 6 5 (by decide))))))) hZ (hw _ (List.mem_of_getElem? (i := 23) rfl)) (hw _ (List.mem_of_getElem? (i := 3) rfl)) (by decide) (by decide)) q50a q50c (g := (mkF m 89 #[.val (.int p1), .val (.ref b1), .val (.int (6 : Int32)), .val (.ref (W (6 : Int32))), .val (.int (0 : Int32)), .unset, .unset, .unset] [(.ref (W (6 : Int32)))])) rfl (by rw [hml]; rfl) (Steps.refl _) (argsL := []) (rest := []) (lenOf pd_0 rfl) rfl (by show 2 * 0 + _ ≤ _; exact Nat.le_of_eq rfl) (hb hby at_89) (fun _ _ => ⟨rfl, e15, (by decide : 1 + 0 ≤ _), (by decide : 7 + 0 ≤ _)⟩)
    dsimp only [Pt.U, Pt.locs, Pt.cells, Pt.slots] at X50 l50 y50 z50 st50 hQ50
    subst l50 y50 z50
    obtain ⟨rfl, N50q, e50⟩ := hQ50
    have N50 := Fr.app N15 N50q
    refine own_s (B := T50.setTop (mkF m 92 #[.val (.int p1), .val (.ref b1), .val (.int (6 : Int32)), .val (.ref (W (6 : Int32))), .val (.int (0 : Int32)), .unset, .unset, .unset] [(.int (0 : Int32))])) (fun t k => st50.trans k) ?_
    refine own_s (B := T50.setTop (mkF m 94 #[.val (.int p1), .val (.ref b1), .val (.int (6 : Int32)), .val (.ref (W (6 : Int32))), .val (.int (0 : Int32)), .val (.int (0 : Int32)), .unset, .unset] [])) (fun t k => XS.istore X50.here hx rfl (hb hby at_92) rfl (l' := #[.val (.int p1), .val (.ref b1), .val (.int (6 : Int32)), .val (.ref (W (6 : Int32))), .val (.int (0 : Int32)), .val (.int (0 : Int32)), .unset, .unset]) rfl k) ?_
    refine own_s (B := T50.setTop (mkF m 96 #[.val (.int p1), .val (.ref b1), .val (.int (6 : Int32)), .val (.ref (W (6 : Int32))), .val (.int (0 : Int32)), .val (.int (0 : Int32)), .unset, .unset] [(.int (0 : Int32))])) (fun t k => XS.iload X50.here hx rfl (hb hby at_94) rfl k) ?_
    refine own_s (B := T50.setTop (mkF m 97 #[.val (.int p1), .val (.ref b1), .val (.int (6 : Int32)), .val (.ref (W (6 : Int32))), .val (.int (0 : Int32)), .val (.int (0 : Int32)), .unset, .unset] [(.ref (W (6 : Int32))), (.int (0 : Int32))])) (fun t k => XS.aloadN X50.here hx rfl (hb hby at_96) rfl rfl k) ?_
    obtain ⟨cq51, kq51, q51a, q51b, q51c⟩ := isOf hZ e50 ((XW (6 : Int32) (by decide) (by decide)).ext EX)
    obtain ⟨_, _, ⟨T51, L51, k51, n51⟩, -, X51, ⟨Lc51, hQ51, l51, y51, z51⟩, st51⟩ := X50.virtualBack hx (y := (⟨"com/example/formal_courier/formalcourier/crs/CrsDocumentTypeControls$DocumentType", "isProduction", "()Z"⟩ : MethodName)) (z := (⟨"com/example/formal_courier/formalcourier/crs/CrsDocumentTypeControls$DocumentType", "isProduction", "()Z"⟩ : MethodName)) hown (mvT hZ (hw _ (List.mem_of_getElem? (i := 28) rfl))) (mvT hZ (hw _ (List.mem_of_getElem? (i := 29) rfl))) (notFace_of_selects (args := #[]) (mvT hZ (hw _ (List.mem_of_getElem? (i := 31) rfl)))) (mvT hZ (hw _ (List.mem_of_getElem? (i := 31) rfl))) (mvT hZ (hw _ (List.mem_of_getElem? (i := 30) rfl))) (by decide) (backOf (W := 1) (rm2 l Z a0 hw [] (W (6 : Int32)) W (0 : Int32) h15 n0 (Nat.le_trans Z0 EX.1) (WS.ext EX EW) (own_b0 (fun q => q.elim (own_ne IW 6 0 (by decide)) (fun q => q.elim (own_ne IW 6 1 (by decide)) (own_ne IW 6 2 (by decide)))))) hZ (hw _ (List.mem_of_getElem? (i := 32) rfl)) (hw _ (List.mem_of_getElem? (i := 3) rfl)) (by decide) (by decide)) q51a q51c (g := (mkF m 97 #[.val (.int p1), .val (.ref b1), .val (.int (6 : Int32)), .val (.ref (W (6 : Int32))), .val (.int (0 : Int32)), .val (.int (0 : Int32)), .unset, .unset] [(.ref (W (6 : Int32))), (.int (0 : Int32))])) rfl (by rw [hml]; rfl) (Steps.refl _) (argsL := []) (rest := [(.int (0 : Int32))]) (lenOf pd_0 rfl) rfl (by show 2 * 0 + _ ≤ _; exact Nat.le_of_eq rfl) (hb hby at_97) (fun _ _ => ⟨rfl, e50, (by decide : 1 + 0 ≤ _), (by decide : 7 + 0 ≤ _)⟩)
    dsimp only [Pt.U, Pt.locs, Pt.cells, Pt.slots] at X51 l51 y51 z51 st51 hQ51
    subst l51 y51 z51
    obtain ⟨rfl, N51q, e51⟩ := hQ51
    have N51 := Fr.app N50 N51q
    refine own_s (B := T51.setTop (mkF m 100 #[.val (.int p1), .val (.ref b1), .val (.int (6 : Int32)), .val (.ref (W (6 : Int32))), .val (.int (0 : Int32)), .val (.int (0 : Int32)), .unset, .unset] [(.int (0 : Int32)), (.int (0 : Int32))])) (fun t k => st51.trans k) ?_
    refine own_s (B := T51.setTop (mkF m 103 #[.val (.int p1), .val (.ref b1), .val (.int (6 : Int32)), .val (.ref (W (6 : Int32))), .val (.int (0 : Int32)), .val (.int (0 : Int32)), .unset, .unset] [(.int (0 : Int32))])) (fun t k => XS.ifNo X51.here hx rfl (hb hby at_100) rfl ((if0 _ _).trans (teq rfl).2) k) ?_
    refine own_s (B := T51.setTop (mkF m 104 #[.val (.int p1), .val (.ref b1), .val (.int (6 : Int32)), .val (.ref (W (6 : Int32))), .val (.int (0 : Int32)), .val (.int (0 : Int32)), .unset, .unset] [(.ref (W (6 : Int32))), (.int (0 : Int32))])) (fun t k => XS.aloadN X51.here hx rfl (hb hby at_103) rfl rfl k) ?_
    obtain ⟨cq52, kq52, q52a, q52b, q52c⟩ := isOf hZ e51 ((XW (6 : Int32) (by decide) (by decide)).ext EX)
    obtain ⟨_, _, ⟨T52, L52, k52, n52⟩, -, X52, ⟨Lc52, hQ52, l52, y52, z52⟩, st52⟩ := X51.virtualBack hx (y := (⟨"com/example/formal_courier/formalcourier/crs/CrsDocumentTypeControls$DocumentType", "isTest", "()Z"⟩ : MethodName)) (z := (⟨"com/example/formal_courier/formalcourier/crs/CrsDocumentTypeControls$DocumentType", "isTest", "()Z"⟩ : MethodName)) hown (mvT hZ (hw _ (List.mem_of_getElem? (i := 44) rfl))) (mvT hZ (hw _ (List.mem_of_getElem? (i := 45) rfl))) (notFace_of_selects (args := #[]) (mvT hZ (hw _ (List.mem_of_getElem? (i := 47) rfl)))) (mvT hZ (hw _ (List.mem_of_getElem? (i := 47) rfl))) (mvT hZ (hw _ (List.mem_of_getElem? (i := 46) rfl))) (by decide) (backOf (W := 1) (rm5 l Z a0 hw [] (W (6 : Int32)) W (0 : Int32) h15 n0 (Nat.le_trans Z0 EX.1) (WS.ext EX EW) (own_b0 (fun q => q.elim (own_ne IW 6 3 (by decide)) (fun q => q.elim (own_ne IW 6 4 (by decide)) (own_ne IW 6 5 (by decide)))))) hZ (hw _ (List.mem_of_getElem? (i := 48) rfl)) (hw _ (List.mem_of_getElem? (i := 3) rfl)) (by decide) (by decide)) q52a q52c (g := (mkF m 104 #[.val (.int p1), .val (.ref b1), .val (.int (6 : Int32)), .val (.ref (W (6 : Int32))), .val (.int (0 : Int32)), .val (.int (0 : Int32)), .unset, .unset] [(.ref (W (6 : Int32))), (.int (0 : Int32))])) rfl (by rw [hml]; rfl) (Steps.refl _) (argsL := []) (rest := [(.int (0 : Int32))]) (lenOf pd_0 rfl) rfl (by show 2 * 0 + _ ≤ _; exact Nat.le_of_eq rfl) (hb hby at_104) (fun _ _ => ⟨rfl, e51, (by decide : 1 + 0 ≤ _), (by decide : 7 + 0 ≤ _)⟩)
    dsimp only [Pt.U, Pt.locs, Pt.cells, Pt.slots] at X52 l52 y52 z52 st52 hQ52
    subst l52 y52 z52
    obtain ⟨rfl, N52q, e52⟩ := hQ52
    have N52 := Fr.app N51 N52q
    refine own_s (B := T52.setTop (mkF m 107 #[.val (.int p1), .val (.ref b1), .val (.int (6 : Int32)), .val (.ref (W (6 : Int32))), .val (.int (0 : Int32)), .val (.int (0 : Int32)), .unset, .unset] [(.int (0 : Int32)), (.int (0 : Int32))])) (fun t k => st52.trans k) ?_
    refine own_s (B := T52.setTop (mkF m 121 #[.val (.int p1), .val (.ref b1), .val (.int (6 : Int32)), .val (.ref (W (6 : Int32))), .val (.int (0 : Int32)), .val (.int (0 : Int32)), .unset, .unset] [(.int (0 : Int32))])) (fun t k => XS.ifYes X52.here hx rfl (pc0 := 107) (pc' := 121) rfl (hb hby at_107) rfl ((if0 _ _).trans (teq rfl).1) (by decide) (by decide) k) ?_
    refine own_s (B := T52.setTop (mkF m 122 #[.val (.int p1), .val (.ref b1), .val (.int (6 : Int32)), .val (.ref (W (6 : Int32))), .val (.int (0 : Int32)), .val (.int (0 : Int32)), .unset, .unset] [(.int (0 : Int32)), (.int (0 : Int32))])) (fun t k => XS.iconst X52.here hx rfl (hb hby at_121) k) ?_
    refine own_s (B := T52.setTop (mkF m 125 #[.val (.int p1), .val (.ref b1), .val (.int (6 : Int32)), .val (.ref (W (6 : Int32))), .val (.int (0 : Int32)), .val (.int (0 : Int32)), .unset, .unset] [])) (fun t k => XS.icmpNo X52.here hx rfl (hb hby at_122) rfl (teq rfl).2 k) ?_
    refine own_s (B := T52.setTop (mkF m 126 #[.val (.int p1), .val (.ref b1), .val (.int (6 : Int32)), .val (.ref (W (6 : Int32))), .val (.int (0 : Int32)), .val (.int (0 : Int32)), .unset, .unset] [(.int (1 : Int32))])) (fun t k => XS.iconst X52.here hx rfl (hb hby at_125) k) ?_
    refine own_s (B := T52.setTop (mkF m 130 #[.val (.int p1), .val (.ref b1), .val (.int (6 : Int32)), .val (.ref (W (6 : Int32))), .val (.int (0 : Int32)), .val (.int (0 : Int32)), .unset, .unset] [(.int (1 : Int32))])) (fun t k => XS.goto X52.here hx rfl (pc0 := 126) (pc' := 130) rfl (hb hby at_126) (by decide) (by decide) k) ?_
    refine own_s (B := T52.setTop (mkF m 132 #[.val (.int p1), .val (.ref b1), .val (.int (6 : Int32)), .val (.ref (W (6 : Int32))), .val (.int (0 : Int32)), .val (.int (0 : Int32)), .val (.int (1 : Int32)), .unset] [])) (fun t k => XS.istore X52.here hx rfl (hb hby at_130) rfl (l' := #[.val (.int p1), .val (.ref b1), .val (.int (6 : Int32)), .val (.ref (W (6 : Int32))), .val (.int (0 : Int32)), .val (.int (0 : Int32)), .val (.int (1 : Int32)), .unset]) rfl k) ?_
    refine own_s (B := T52.setTop (mkF m 133 #[.val (.int p1), .val (.ref b1), .val (.int (6 : Int32)), .val (.ref (W (6 : Int32))), .val (.int (0 : Int32)), .val (.int (0 : Int32)), .val (.int (1 : Int32)), .unset] [(.ref (W (6 : Int32)))])) (fun t k => XS.aloadN X52.here hx rfl (hb hby at_132) rfl rfl k) ?_
    obtain ⟨cq53, kq53, q53a, q53b, q53c⟩ := isOf hZ e52 ((XW (6 : Int32) (by decide) (by decide)).ext EX)
    obtain ⟨_, _, ⟨T53, L53, k53, n53⟩, -, X53, ⟨Lc53, hQ53, l53, y53, z53⟩, st53⟩ := X52.virtualBack hx (y := (⟨"com/example/formal_courier/formalcourier/crs/CrsDocumentTypeControls$DocumentType", "isDeletion", "()Z"⟩ : MethodName)) (z := (⟨"com/example/formal_courier/formalcourier/crs/CrsDocumentTypeControls$DocumentType", "isDeletion", "()Z"⟩ : MethodName)) hown (mvT hZ (hw _ (List.mem_of_getElem? (i := 39) rfl))) (mvT hZ (hw _ (List.mem_of_getElem? (i := 40) rfl))) (notFace_of_selects (args := #[]) (mvT hZ (hw _ (List.mem_of_getElem? (i := 42) rfl)))) (mvT hZ (hw _ (List.mem_of_getElem? (i := 42) rfl))) (mvT hZ (hw _ (List.mem_of_getElem? (i := 41) rfl))) (by decide) (backOf (W := 0) (rm4 l Z a0 hw [] (W (6 : Int32)) W (0 : Int32) h15 n0 (Nat.le_trans Z0 EX.1) (WS.ext EX EW) (own_b0 (fun q => q.elim (own_ne IW 6 2 (by decide)) (own_ne IW 6 5 (by decide))))) hZ (hw _ (List.mem_of_getElem? (i := 43) rfl)) (hw _ (List.mem_of_getElem? (i := 3) rfl)) (by decide) (by decide)) q53a q53c (g := (mkF m 133 #[.val (.int p1), .val (.ref b1), .val (.int (6 : Int32)), .val (.ref (W (6 : Int32))), .val (.int (0 : Int32)), .val (.int (0 : Int32)), .val (.int (1 : Int32)), .unset] [(.ref (W (6 : Int32)))])) rfl (by rw [hml]; rfl) (Steps.refl _) (argsL := []) (rest := []) (lenOf pd_0 rfl) rfl (by show 2 * 0 + _ ≤ _; exact Nat.le_of_eq rfl) (hb hby at_133) (fun _ _ => ⟨rfl, e52, (by decide : 1 + 0 ≤ _), (by decide : 7 + 0 ≤ _)⟩)
    dsimp only [Pt.U, Pt.locs, Pt.cells, Pt.slots] at X53 l53 y53 z53 st53 hQ53
    subst l53 y53 z53
    obtain ⟨rfl, N53q, e53⟩ := hQ53
    have N53 := Fr.app N52 N53q
    refine own_s (B := T53.setTop (mkF m 136 #[.val (.int p1), .val (.ref b1), .val (.int (6 : Int32)), .val (.ref (W (6 : Int32))), .val (.int (0 : Int32)), .val (.int (0 : Int32)), .val (.int (1 : Int32)), .unset] [(.int (0 : Int32))])) (fun t k => st53.trans k) ?_
    refine own_s (B := T53.setTop (mkF m 144 #[.val (.int p1), .val (.ref b1), .val (.int (6 : Int32)), .val (.ref (W (6 : Int32))), .val (.int (0 : Int32)), .val (.int (0 : Int32)), .val (.int (1 : Int32)), .unset] [])) (fun t k => XS.ifYes X53.here hx rfl (pc0 := 136) (pc' := 144) rfl (hb hby at_136) rfl ((if0 _ _).trans (teq rfl).1) (by decide) (by decide) k) ?_
    refine own_s (B := T53.setTop (mkF m 145 #[.val (.int p1), .val (.ref b1), .val (.int (6 : Int32)), .val (.ref (W (6 : Int32))), .val (.int (0 : Int32)), .val (.int (0 : Int32)), .val (.int (1 : Int32)), .unset] [(.int (1 : Int32))])) (fun t k => XS.iconst X53.here hx rfl (hb hby at_144) k) ?_
    refine own_s (B := T53.setTop (mkF m 149 #[.val (.int p1), .val (.ref b1), .val (.int (6 : Int32)), .val (.ref (W (6 : Int32))), .val (.int (0 : Int32)), .val (.int (0 : Int32)), .val (.int (1 : Int32)), .unset] [(.int (1 : Int32))])) (fun t k => XS.goto X53.here hx rfl (pc0 := 145) (pc' := 149) rfl (hb hby at_145) (by decide) (by decide) k) ?_
    refine own_s (B := T53.setTop (mkF m 151 #[.val (.int p1), .val (.ref b1), .val (.int (6 : Int32)), .val (.ref (W (6 : Int32))), .val (.int (0 : Int32)), .val (.int (0 : Int32)), .val (.int (1 : Int32)), .val (.int (1 : Int32))] [])) (fun t k => XS.istore X53.here hx rfl (hb hby at_149) rfl (l' := #[.val (.int p1), .val (.ref b1), .val (.int (6 : Int32)), .val (.ref (W (6 : Int32))), .val (.int (0 : Int32)), .val (.int (0 : Int32)), .val (.int (1 : Int32)), .val (.int (1 : Int32))]) rfl k) ?_
    refine own_s (B := T53.setTop (mkF m 153 #[.val (.int p1), .val (.ref b1), .val (.int (6 : Int32)), .val (.ref (W (6 : Int32))), .val (.int (0 : Int32)), .val (.int (0 : Int32)), .val (.int (1 : Int32)), .val (.int (1 : Int32))] [(.int (0 : Int32))])) (fun t k => XS.iload X53.here hx rfl (hb hby at_151) rfl k) ?_
    refine own_s (B := T53.setTop (mkF m 155 #[.val (.int p1), .val (.ref b1), .val (.int (6 : Int32)), .val (.ref (W (6 : Int32))), .val (.int (0 : Int32)), .val (.int (0 : Int32)), .val (.int (1 : Int32)), .val (.int (1 : Int32))] [(.int (0 : Int32)), (.int (0 : Int32))])) (fun t k => XS.iload X53.here hx rfl (hb hby at_153) rfl k) ?_
    refine own_s (B := T53.setTop (mkF m 158 #[.val (.int p1), .val (.ref b1), .val (.int (6 : Int32)), .val (.ref (W (6 : Int32))), .val (.int (0 : Int32)), .val (.int (0 : Int32)), .val (.int (1 : Int32)), .val (.int (1 : Int32))] [])) (fun t k => XS.icmpNo X53.here hx rfl (hb hby at_155) rfl (teq rfl).2 k) ?_
    refine own_s (B := T53.setTop (mkF m 160 #[.val (.int p1), .val (.ref b1), .val (.int (6 : Int32)), .val (.ref (W (6 : Int32))), .val (.int (0 : Int32)), .val (.int (0 : Int32)), .val (.int (1 : Int32)), .val (.int (1 : Int32))] [(.int (1 : Int32))])) (fun t k => XS.iload X53.here hx rfl (hb hby at_158) rfl k) ?_
    refine own_s (B := T53.setTop (mkF m 163 #[.val (.int p1), .val (.ref b1), .val (.int (6 : Int32)), .val (.ref (W (6 : Int32))), .val (.int (0 : Int32)), .val (.int (0 : Int32)), .val (.int (1 : Int32)), .val (.int (1 : Int32))] [])) (fun t k => XS.ifNo X53.here hx rfl (hb hby at_160) rfl ((if0 _ _).trans (feq (by decide)).1) k) ?_
    refine own_s (B := T53.setTop (mkF m 165 #[.val (.int p1), .val (.ref b1), .val (.int (6 : Int32)), .val (.ref (W (6 : Int32))), .val (.int (0 : Int32)), .val (.int (0 : Int32)), .val (.int (1 : Int32)), .val (.int (1 : Int32))] [(.int (1 : Int32))])) (fun t k => XS.iload X53.here hx rfl (hb hby at_163) rfl k) ?_
    refine own_s (B := T53.setTop (mkF m 168 #[.val (.int p1), .val (.ref b1), .val (.int (6 : Int32)), .val (.ref (W (6 : Int32))), .val (.int (0 : Int32)), .val (.int (0 : Int32)), .val (.int (1 : Int32)), .val (.int (1 : Int32))] [])) (fun t k => XS.ifNo X53.here hx rfl (hb hby at_165) rfl ((if0 _ _).trans (feq (by decide)).1) k) ?_
    refine own_s (B := T53.setTop (mkF m 169 #[.val (.int p1), .val (.ref b1), .val (.int (6 : Int32)), .val (.ref (W (6 : Int32))), .val (.int (0 : Int32)), .val (.int (0 : Int32)), .val (.int (1 : Int32)), .val (.int (1 : Int32))] [(.int (1 : Int32))])) (fun t k => XS.iconst X53.here hx rfl (hb hby at_168) k) ?_
    refine own_s (B := T53.setTop (mkF m 173 #[.val (.int p1), .val (.ref b1), .val (.int (6 : Int32)), .val (.ref (W (6 : Int32))), .val (.int (0 : Int32)), .val (.int (0 : Int32)), .val (.int (1 : Int32)), .val (.int (1 : Int32))] [(.int (1 : Int32))])) (fun t k => XS.goto X53.here hx rfl (pc0 := 169) (pc' := 173) rfl (hb hby at_169) (by decide) (by decide) k) ?_
    exact own_retB X53 hx hlk (t := .boolean) Bd.returns (by simp) (hb hby at_173) (by decide) (by decide) ⟨rfl, N53⟩
set_option maxRecDepth 65536 in
set_option maxHeartbeats 40000000 in
theorem comes_1 {Post : Tables → Env → Array Value → State → Outcome → State → Prop} (hpost : ∀ tb e args s v u, (limb_1_1.after args s (.returned v) u = true ∧ limb_1_2.after args s (.returned v) u = true ∧ True) → FrameEnd s (.returned v) u (Jvm.fieldLocs frame_1_writes args s ++ Jvm.arrayLocs frame_1_arrays args s ++ Jvm.staticLocs frame_1_statics s) 16 128 → Post tb e args s (.returned v) u) :
    ArmFor flags0 classFile x code maxLocals ret World_1 tables_1 room_1 Calls_1 rest_1 Pre_1 Post := by
  intro l hfl _ _ p e ha hc hk s m args below hf hA hF happ hP
  obtain ⟨hcalls, hrest, hpre⟩ := hP
  obtain ⟨-, -, -, hnamed, -, -, -, hat⟩ := (Spec.applies_iff hf).mp happ
  obtain ⟨hg, hn⟩ := and_e (Cond.before_iff.mp (show (Jvm.Cond.and given_1 narrow_1).before args s = true from hpre))
  obtain ⟨g1a, g1b⟩ := and_e hg
  obtain ⟨w0, rfl⟩ : ∃ w0 : Value, args = #[w0] := by
    have hs : args.size = 1 := by simpa [Cond.value, given_1] using g1a
    obtain ⟨L⟩ := args
    match L, hs with
    | [w0], _ => exact ⟨w0, rfl⟩
  have hw := fun d (hd : d ∈ tables_1) => atoms_spec (ws := Jvm.Cond.code x code maxLocals ret :: tables_1) hat d (List.mem_cons_of_mem _ hd)
  have hfit : Fit s := fun {y c} hc i hi => by
    obtain ⟨ha, rfl⟩ := Array.getElem?_eq_some_iff.mp hc
    have q := List.all_eq_true.mp ((Array.all_eq_true_iff_forall_mem.mp hF) _ (Array.getElem_mem ha)) i (List.mem_range.mpr hi)
    simpa [Array.getElem?_eq_getElem hi] using q
  obtain ⟨i0, ei0⟩ := is_v g1b
  obtain rfl : w0 = (.int i0) := Option.some.inj ei0
  obtain ⟨g2a, g2b⟩ := and_e hn
  obtain ⟨g3a, g3b⟩ := and_e g2b
  obtain ⟨g4a, g4b⟩ := and_e g3b
  obtain ⟨g5a, g5b⟩ := and_e g4b
  obtain ⟨g6a, g6b⟩ := and_e g5b
  obtain ⟨g7a, g7b⟩ := and_e g6b
  obtain ⟨g8a, g8b⟩ := and_e g7b
  obtain ⟨g9a, g9b⟩ := and_e g8b
  obtain ⟨g10a, g10b⟩ := and_e g9b
  obtain ⟨g11a, g11b⟩ := and_e g10b
  obtain ⟨g12a, g12b⟩ := and_e g11b
  obtain ⟨g13a, g13b⟩ := and_e g12b
  obtain ⟨g14a, g14b⟩ := and_e g13b
  obtain ⟨w_OECD1, ev_OECD1⟩ := exa_v g2a
  have S_OECD1 := Sta.start ev_OECD1 (Or.inr ⟨(hw _ (List.mem_of_getElem? (i := 3) rfl)), (hw _ (List.mem_of_getElem? (i := 4) rfl))⟩)
  have E_OECD1 := Exa.start ev_OECD1 g2a
  obtain ⟨w_OECD2, ev_OECD2⟩ := exa_v g3a
  have S_OECD2 := Sta.start ev_OECD2 (Or.inr ⟨(hw _ (List.mem_of_getElem? (i := 3) rfl)), (hw _ (List.mem_of_getElem? (i := 7) rfl))⟩)
  have E_OECD2 := Exa.start ev_OECD2 g3a
  obtain ⟨w_OECD3, ev_OECD3⟩ := exa_v g4a
  have S_OECD3 := Sta.start ev_OECD3 (Or.inr ⟨(hw _ (List.mem_of_getElem? (i := 3) rfl)), (hw _ (List.mem_of_getElem? (i := 9) rfl))⟩)
  have E_OECD3 := Exa.start ev_OECD3 g4a
  obtain ⟨w_OECD11, ev_OECD11⟩ := exa_v g5a
  have S_OECD11 := Sta.start ev_OECD11 (Or.inr ⟨(hw _ (List.mem_of_getElem? (i := 3) rfl)), (hw _ (List.mem_of_getElem? (i := 11) rfl))⟩)
  have E_OECD11 := Exa.start ev_OECD11 g5a
  obtain ⟨w_OECD12, ev_OECD12⟩ := exa_v g6a
  have S_OECD12 := Sta.start ev_OECD12 (Or.inr ⟨(hw _ (List.mem_of_getElem? (i := 3) rfl)), (hw _ (List.mem_of_getElem? (i := 13) rfl))⟩)
  have E_OECD12 := Exa.start ev_OECD12 g6a
  obtain ⟨w_OECD13, ev_OECD13⟩ := exa_v g7a
  have S_OECD13 := Sta.start ev_OECD13 (Or.inr ⟨(hw _ (List.mem_of_getElem? (i := 3) rfl)), (hw _ (List.mem_of_getElem? (i := 15) rfl))⟩)
  have E_OECD13 := Exa.start ev_OECD13 g7a
  obtain ⟨w_OTHER, ev_OTHER⟩ := exa_v g8a
  have S_OTHER := Sta.start ev_OTHER (Or.inr ⟨(hw _ (List.mem_of_getElem? (i := 3) rfl)), (hw _ (List.mem_of_getElem? (i := 17) rfl))⟩)
  have E_OTHER := Exa.start ev_OTHER g8a
  have F_OECD1_ordinal := Fld.start ((fld_at ev_OECD1).symm.trans (own_eqI g9a))
  have F_OECD2_ordinal := Fld.start ((fld_at ev_OECD2).symm.trans (own_eqI g10a))
  have F_OECD3_ordinal := Fld.start ((fld_at ev_OECD3).symm.trans (own_eqI g11a))
  have F_OECD12_ordinal := Fld.start ((fld_at ev_OECD12).symm.trans (own_eqI g12a))
  have F_OECD13_ordinal := Fld.start ((fld_at ev_OECD13).symm.trans (own_eqI g13a))
  have F_OECD11_ordinal := Fld.start ((fld_at ev_OECD11).symm.trans (own_eqI g14a))
  have F_OTHER_ordinal := Fld.start ((fld_at ev_OTHER).symm.trans (own_eqI g14b))
  obtain ⟨W, eW0, eW1, eW2, eW3, eW4, eW5, eW6⟩ : ∃ W : Int32 → Addr, W (0 : Int32) = w_OECD1 ∧ W (1 : Int32) = w_OECD2 ∧ W (2 : Int32) = w_OECD3 ∧ W (3 : Int32) = w_OECD11 ∧ W (4 : Int32) = w_OECD12 ∧ W (5 : Int32) = w_OECD13 ∧ W (6 : Int32) = w_OTHER := ⟨fun k => if k = (0 : Int32) then w_OECD1 else if k = (1 : Int32) then w_OECD2 else if k = (2 : Int32) then w_OECD3 else if k = (3 : Int32) then w_OECD11 else if k = (4 : Int32) then w_OECD12 else if k = (5 : Int32) then w_OECD13 else w_OTHER, (by simp), (by simp), (by simp), (by simp), (by simp), (by simp), (by simp)⟩
  have EW : WS s s.heap W := by
    unfold WS
    rw [eW0, eW1, eW2, eW3, eW4, eW5, eW6]
    exact ⟨S_OECD1, S_OECD2, S_OECD3, S_OECD11, S_OECD12, S_OECD13, S_OTHER⟩
  have XW : ∀ i : Int32, 0 ≤ i.toInt → i.toInt ≤ 6 → Exa s s.heap (W i) "com/example/formal_courier/formalcourier/crs/CrsDocumentTypeControls$DocumentType" := by
    intro i h1 h2
    rcases own_rg_0_6 h1 h2 with rfl | rfl | rfl | rfl | rfl | rfl | rfl
    · rw [eW0]; exact E_OECD1
    · rw [eW1]; exact E_OECD2
    · rw [eW2]; exact E_OECD3
    · rw [eW3]; exact E_OECD11
    · rw [eW4]; exact E_OECD12
    · rw [eW5]; exact E_OECD13
    · rw [eW6]; exact E_OTHER
  have OW : ∀ i : Int32, 0 ≤ i.toInt → i.toInt ≤ 6 → Fld s s.heap (W i) "java/lang/Enum" "ordinal" "I" (.int (ordW i)) := by
    intro i h1 h2
    rcases own_rg_0_6 h1 h2 with rfl | rfl | rfl | rfl | rfl | rfl | rfl
    · rw [eW0]; exact F_OECD1_ordinal
    · rw [eW1]; exact F_OECD2_ordinal
    · rw [eW2]; exact F_OECD3_ordinal
    · rw [eW3]; exact F_OECD11_ordinal
    · rw [eW4]; exact F_OECD12_ordinal
    · rw [eW5]; exact F_OECD13_ordinal
    · rw [eW6]; exact F_OTHER_ordinal
  have IW : ∀ i j : Int32, 0 ≤ i.toInt → i.toInt ≤ 6 → 0 ≤ j.toInt → j.toInt ≤ 6 → W i = W j → i = j := by
    intro i j h1 h2 h3 h4 h5
    have q := OW i h1 h2
    rw [h5] at q
    exact s_injW (Value.int.inj (own_uniq q (OW j h3 h4)))
  obtain ⟨n, o, h1, h2, h3, _, L, rfl, ⟨rfl, N⟩, hq⟩ := rm0 l s _ hw tables_1 i0 W s.heap s.heap.size (Nat.le_refl _) EW XW IW p e ha hc hk s m _ below hf ((Spec.applies_iff_loose hf).mp happ).1 ⟨rfl, State.Warmed39.refl s, rfl⟩ trivial
  refine ⟨n, _, h1, h2, h3, hpost _ _ _ _ _ _ ⟨Cond.after_iff.mpr rfl, Cond.after_iff.mpr (eq_i res_at (Term.int_eval (1)) rfl), trivial⟩ ⟨hq.1, hq.2.1, (hq.2.2.sift fun y hy => Or.inr (N y hy)).mono (by decide) (by decide)⟩⟩
theorem main_1_1 : Claimed_1_1 := comes_1 fun _ _ _ _ _ _ h hF => ⟨h.1, hF⟩
theorem main_1_2 : Claimed_1_2 := comes_1 fun _ _ _ _ _ _ h hF => ⟨h.2.1, hF⟩
end Jvm.Pilot.@@N@@
namespace Jvm.Pilot.@@N@@
open Jvm Jvm.ClassFile Sem Op Lib Jvm.Free Jvm.Stand Jvm.Pilot.@@N@@.Jvm.D
/-! MADE BY PROGRAM (witnessworld.py) out of the Statement's table words and the real class files: 13 classes; the members and pool entries that the words name. The judged class is class 1, her method 1. -/
namespace start1
open Jvm.ClassFile
def u (s : String) : CpInfo := .utf8 (stringToUtf16 s)
/-- a pool by its gaps: so many unusable entries, then the entry; so many at the end -/
def gap : Nat → List CpInfo → List CpInfo
  | 0, r => r
  | n + 1, r => .unusable :: gap n r
def poolList (es : List (Nat × CpInfo)) (last : Nat) : List CpInfo := es.foldr (fun e r => gap e.1 (e.2 :: r)) (gap last [])
def pool (es : List (Nat × CpInfo)) (last : Nat) : Array CpInfo := ⟨poolList es last⟩
def fileOf (pool : Array CpInfo) (this : Nat) (attrs : Array Attribute := #[]) (ms : Array MethodInfo := #[]) (fl : Nat := 33) (sup : Nat := 0) (ifs : Array Nat := #[]) (fds : Array FieldInfo := #[]) : ClassFile where
  minorVersion := 0
  majorVersion := 65
  constantPool := pool
  accessFlags := fl
  thisClass := this
  superClass := sup
  interfaces := ifs
  fields := fds
  methods := ms
  attributes := attrs
def plain (name : String) (sup : Option ClassId) : Class where
  name := name
  kind := .ordinary
  loader := none
  accessFlags := 33
  super := sup
  interfaces := #[]
  cf := none
  fields := #[]
  methods := #[]
  instanceTypes := #[]
  staticTypes := #[]
  resolved := #[]
  callSites := []
  init := .initialized
  statics := none
  mirror := none

def pool0 : Array CpInfo := pool [(5, u "<init>"), (0, u "()V"), (1, .class_ 10), (1, u "java/lang/Object")] 113

def k0m0 : Method := { name := "<init>", desc := "()V", sig := { parameters := [], returnType := none }, accessFlags := 1, code := none }
/-- java/lang/Object -/
def k0 : Class := { plain "java/lang/Object" none with
  accessFlags := 33
  interfaces := #[]
  cf := some (fileOf pool0 8 #[] #[{ accessFlags := 1, nameIndex := 5, descriptorIndex := 6, attributes := #[] }] 33 0 #[] #[])
  fields := #[]
  methods := #[k0m0]
  instanceTypes := #[]
  staticTypes := #[]
  resolved := Array.replicate 124 none
  statics := none }

def pool1 : Array CpInfo := pool [(2, .class_ 4), (1, u "java/lang/Object"), (0, u "<init>"), (0, u "()V"), (0, .class_ 8), (0, u "com/example/formal_courier/formalcourier/crs/CrsDocumentTypeControls$DocumentType"), (0, .fieldref 7 10), (0, .nameAndType 11 12), (0, u "OECD1"), (0, u "Lcom/example/formal_courier/formalcourier/crs/CrsDocumentTypeControls$DocumentType;"), (0, .fieldref 7 14), (0, .nameAndType 15 12), (0, u "OECD2"), (0, .fieldref 7 17), (0, .nameAndType 18 12), (0, u "OECD3"), (0, .fieldref 7 20), (0, .nameAndType 21 12), (0, u "OECD11"), (0, .fieldref 7 23), (0, .nameAndType 24 12), (0, u "OECD12"), (0, .fieldref 7 26), (0, .nameAndType 27 12), (0, u "OECD13"), (0, .fieldref 7 29), (0, .nameAndType 30 12), (0, u "OTHER"), (0, .integer 2147483647), (0, .methodref 7 33), (0, .nameAndType 34 35), (0, u "isReplacement"), (0, u "()Z"), (0, .methodref 7 37), (0, .nameAndType 38 35), (0, u "isProduction"), (0, .methodref 7 40), (0, .nameAndType 41 35), (0, u "isTest"), (0, .methodref 7 43), (0, .nameAndType 44 35), (0, u "isNew"), (0, .methodref 7 46), (0, .nameAndType 47 35), (0, u "isDeletion"), (0, .class_ 49), (0, u "com/example/formal_courier/formalcourier/crs/DocumentTypeIsReplacementPinLaw"), (2, u "law"), (0, u "(I)Z")] 9

def k1m0 : Method := { name := "<init>", desc := "()V", sig := { parameters := [], returnType := none }, accessFlags := 1, code := none }
def k1c1 : Code := { maxStack := 4, maxLocals := 8, code := code, exceptionTable := #[], attributes := #[] }
def k1m1 : Method := { name := "law", desc := "(I)Z", sig := { parameters := [.int], returnType := some .boolean }, accessFlags := 9, code := some k1c1 }
/-- com/example/formal_courier/formalcourier/crs/DocumentTypeIsReplacementPinLaw -/
def k1 : Class := { plain "com/example/formal_courier/formalcourier/crs/DocumentTypeIsReplacementPinLaw" (some 0) with
  accessFlags := 49
  interfaces := #[]
  cf := some (fileOf pool1 48 #[] #[{ accessFlags := 1, nameIndex := 5, descriptorIndex := 6, attributes := #[] }, { accessFlags := 9, nameIndex := 52, descriptorIndex := 53, attributes := #[] }] 49 2 #[] #[])
  fields := #[]
  methods := #[k1m0, k1m1]
  instanceTypes := #[]
  staticTypes := #[]
  resolved := Array.replicate 63 none
  statics := none }

def pool2 : Array CpInfo := pool [(1, .class_ 2), (0, u "java/lang/constant/Constable"), (0, .class_ 4), (0, u "java/lang/Object")] 6

/-- java/lang/constant/Constable -/
def k2 : Class := { plain "java/lang/constant/Constable" (some 0) with
  accessFlags := 1537
  interfaces := #[]
  cf := some (fileOf pool2 1 #[] #[] 1537 3 #[] #[])
  fields := #[]
  methods := #[]
  instanceTypes := #[]
  staticTypes := #[]
  resolved := Array.replicate 11 none
  statics := none }

def pool3 : Array CpInfo := pool [(1, .class_ 2), (0, u "java/lang/Comparable"), (0, .class_ 4), (0, u "java/lang/Object")] 7

/-- java/lang/Comparable -/
def k3 : Class := { plain "java/lang/Comparable" (some 0) with
  accessFlags := 1537
  interfaces := #[]
  cf := some (fileOf pool3 1 #[] #[] 1537 3 #[] #[])
  fields := #[]
  methods := #[]
  instanceTypes := #[]
  staticTypes := #[]
  resolved := Array.replicate 12 none
  statics := none }

def pool4 : Array CpInfo := pool [(1, .class_ 2), (0, u "java/io/Serializable"), (0, .class_ 4), (0, u "java/lang/Object")] 2

/-- java/io/Serializable -/
def k4 : Class := { plain "java/io/Serializable" (some 0) with
  accessFlags := 1537
  interfaces := #[]
  cf := some (fileOf pool4 1 #[] #[] 1537 3 #[] #[])
  fields := #[]
  methods := #[]
  instanceTypes := #[]
  staticTypes := #[]
  resolved := Array.replicate 7 none
  statics := none }

def pool5 : Array CpInfo := pool [(2, .class_ 4), (1, u "java/lang/Enum"), (0, u "name"), (0, u "Ljava/lang/String;"), (2, u "ordinal"), (0, u "I"), (1, .class_ 14), (1, u "java/lang/Object"), (4, u "hash"), (86, .class_ 108), (1, u "java/lang/Enum$EnumDesc"), (2, .class_ 112), (0, u "java/lang/constant/Constable"), (0, .class_ 114), (0, u "java/lang/Comparable"), (0, .class_ 116), (0, u "java/io/Serializable")] 87

/-- java/lang/Enum -/
def k5 : Class := { plain "java/lang/Enum" (some 0) with
  accessFlags := 1057
  interfaces := #[2, 3, 4]
  cf := some (fileOf pool5 2 #[.nestMembers #[106]] #[] 1057 12 #[111, 113, 115] #[{ accessFlags := 18, nameIndex := 5, descriptorIndex := 6, attributes := #[] }, { accessFlags := 18, nameIndex := 9, descriptorIndex := 10, attributes := #[] }, { accessFlags := 2, nameIndex := 19, descriptorIndex := 10, attributes := #[] }])
  fields := #[{ name := "name", type := (.object "java/lang/String"), accessFlags := 18, slot := 0, constantValue := 0 }, { name := "ordinal", type := .int, accessFlags := 18, slot := 1, constantValue := 0 }, { name := "hash", type := .int, accessFlags := 2, slot := 2, constantValue := 0 }]
  methods := #[]
  instanceTypes := #[(.object "java/lang/String"), .int, .int]
  staticTypes := #[]
  resolved := Array.replicate 204 none
  statics := none }

def pool6 : Array CpInfo := pool [(1, .class_ 2), (0, u "com/example/formal_courier/formalcourier/crs/CrsDocumentTypeControls$DocumentType"), (0, .fieldref 1 4), (0, .nameAndType 5 6), (0, u "OECD1"), (0, u "Lcom/example/formal_courier/formalcourier/crs/CrsDocumentTypeControls$DocumentType;"), (0, .fieldref 1 8), (0, .nameAndType 9 6), (0, u "OECD2"), (0, .fieldref 1 11), (0, .nameAndType 12 6), (0, u "OECD3"), (0, .fieldref 1 14), (0, .nameAndType 15 6), (0, u "OECD11"), (0, .fieldref 1 17), (0, .nameAndType 18 6), (0, u "OECD12"), (0, .fieldref 1 20), (0, .nameAndType 21 6), (0, u "OECD13"), (2, u "OTHER"), (2, u "$VALUES"), (0, u "[Lcom/example/formal_courier/formalcourier/crs/CrsDocumentTypeControls$DocumentType;"), (6, .class_ 37), (1, u "java/lang/Enum"), (8, u "WRITTEN"), (32, u "isNew"), (0, u "()Z"), (0, u "isReplacement"), (0, u "isDeletion"), (0, u "isProduction"), (0, u "isTest"), (5, .class_ 91), (0, u "com/example/formal_courier/formalcourier/crs/CrsDocumentTypeControls")] 2

def k6c0 : Code := { maxStack := 2, maxLocals := 1, code := prog_48_method_5_code, exceptionTable := #[], attributes := #[] }
def k6m0 : Method := { name := "isNew", desc := "()Z", sig := { parameters := [], returnType := some .boolean }, accessFlags := 0, code := some k6c0 }
def k6c1 : Code := { maxStack := 2, maxLocals := 1, code := prog_48_method_6_code, exceptionTable := #[], attributes := #[] }
def k6m1 : Method := { name := "isReplacement", desc := "()Z", sig := { parameters := [], returnType := some .boolean }, accessFlags := 0, code := some k6c1 }
def k6c2 : Code := { maxStack := 2, maxLocals := 1, code := prog_48_method_7_code, exceptionTable := #[], attributes := #[] }
def k6m2 : Method := { name := "isDeletion", desc := "()Z", sig := { parameters := [], returnType := some .boolean }, accessFlags := 0, code := some k6c2 }
def k6c3 : Code := { maxStack := 2, maxLocals := 1, code := prog_48_method_8_code, exceptionTable := #[], attributes := #[] }
def k6m3 : Method := { name := "isProduction", desc := "()Z", sig := { parameters := [], returnType := some .boolean }, accessFlags := 0, code := some k6c3 }
def k6c4 : Code := { maxStack := 2, maxLocals := 1, code := prog_48_method_9_code, exceptionTable := #[], attributes := #[] }
def k6m4 : Method := { name := "isTest", desc := "()Z", sig := { parameters := [], returnType := some .boolean }, accessFlags := 0, code := some k6c4 }
/-- com/example/formal_courier/formalcourier/crs/CrsDocumentTypeControls$DocumentType -/
def k6 : Class := { plain "com/example/formal_courier/formalcourier/crs/CrsDocumentTypeControls$DocumentType" (some 5) with
  accessFlags := 16432
  interfaces := #[]
  cf := some (fileOf pool6 1 #[.nestHost 90] #[{ accessFlags := 0, nameIndex := 79, descriptorIndex := 80, attributes := #[] }, { accessFlags := 0, nameIndex := 81, descriptorIndex := 80, attributes := #[] }, { accessFlags := 0, nameIndex := 82, descriptorIndex := 80, attributes := #[] }, { accessFlags := 0, nameIndex := 83, descriptorIndex := 80, attributes := #[] }, { accessFlags := 0, nameIndex := 84, descriptorIndex := 80, attributes := #[] }] 16432 35 #[] #[{ accessFlags := 16409, nameIndex := 5, descriptorIndex := 6, attributes := #[] }, { accessFlags := 16409, nameIndex := 9, descriptorIndex := 6, attributes := #[] }, { accessFlags := 16409, nameIndex := 12, descriptorIndex := 6, attributes := #[] }, { accessFlags := 16409, nameIndex := 15, descriptorIndex := 6, attributes := #[] }, { accessFlags := 16409, nameIndex := 18, descriptorIndex := 6, attributes := #[] }, { accessFlags := 16409, nameIndex := 21, descriptorIndex := 6, attributes := #[] }, { accessFlags := 16409, nameIndex := 24, descriptorIndex := 6, attributes := #[] }, { accessFlags := 26, nameIndex := 46, descriptorIndex := 28, attributes := #[] }, { accessFlags := 4122, nameIndex := 27, descriptorIndex := 28, attributes := #[] }])
  fields := #[{ name := "OECD1", type := (.object "com/example/formal_courier/formalcourier/crs/CrsDocumentTypeControls$DocumentType"), accessFlags := 16409, slot := 0, constantValue := 0 }, { name := "OECD2", type := (.object "com/example/formal_courier/formalcourier/crs/CrsDocumentTypeControls$DocumentType"), accessFlags := 16409, slot := 1, constantValue := 0 }, { name := "OECD3", type := (.object "com/example/formal_courier/formalcourier/crs/CrsDocumentTypeControls$DocumentType"), accessFlags := 16409, slot := 2, constantValue := 0 }, { name := "OECD11", type := (.object "com/example/formal_courier/formalcourier/crs/CrsDocumentTypeControls$DocumentType"), accessFlags := 16409, slot := 3, constantValue := 0 }, { name := "OECD12", type := (.object "com/example/formal_courier/formalcourier/crs/CrsDocumentTypeControls$DocumentType"), accessFlags := 16409, slot := 4, constantValue := 0 }, { name := "OECD13", type := (.object "com/example/formal_courier/formalcourier/crs/CrsDocumentTypeControls$DocumentType"), accessFlags := 16409, slot := 5, constantValue := 0 }, { name := "OTHER", type := (.object "com/example/formal_courier/formalcourier/crs/CrsDocumentTypeControls$DocumentType"), accessFlags := 16409, slot := 6, constantValue := 0 }, { name := "WRITTEN", type := (.array (.object "com/example/formal_courier/formalcourier/crs/CrsDocumentTypeControls$DocumentType")), accessFlags := 26, slot := 7, constantValue := 0 }, { name := "$VALUES", type := (.array (.object "com/example/formal_courier/formalcourier/crs/CrsDocumentTypeControls$DocumentType")), accessFlags := 4122, slot := 8, constantValue := 0 }]
  methods := #[k6m0, k6m1, k6m2, k6m3, k6m4]
  instanceTypes := #[(.object "java/lang/String"), .int, .int]
  staticTypes := #[(.object "com/example/formal_courier/formalcourier/crs/CrsDocumentTypeControls$DocumentType"), (.object "com/example/formal_courier/formalcourier/crs/CrsDocumentTypeControls$DocumentType"), (.object "com/example/formal_courier/formalcourier/crs/CrsDocumentTypeControls$DocumentType"), (.object "com/example/formal_courier/formalcourier/crs/CrsDocumentTypeControls$DocumentType"), (.object "com/example/formal_courier/formalcourier/crs/CrsDocumentTypeControls$DocumentType"), (.object "com/example/formal_courier/formalcourier/crs/CrsDocumentTypeControls$DocumentType"), (.object "com/example/formal_courier/formalcourier/crs/CrsDocumentTypeControls$DocumentType"), (.array (.object "com/example/formal_courier/formalcourier/crs/CrsDocumentTypeControls$DocumentType")), (.array (.object "com/example/formal_courier/formalcourier/crs/CrsDocumentTypeControls$DocumentType"))]
  resolved := Array.replicate 94 none
  statics := some 0 }

def pool7 : Array CpInfo := pool [(1, u "java/lang/Cloneable"), (0, .class_ 1), (0, u "java/lang/Object"), (0, .class_ 3)] 3

/-- java/lang/Cloneable -/
def k7 : Class := { plain "java/lang/Cloneable" (some 0) with
  accessFlags := 1537
  interfaces := #[]
  cf := some (fileOf pool7 2 #[] #[] 1537 4 #[] #[])
  fields := #[]
  methods := #[]
  instanceTypes := #[]
  staticTypes := #[]
  resolved := Array.replicate 8 none
  statics := none }

/-- the primitive byte -/
def k8 : Class := { plain "byte" none with kind := .primitive 'B', accessFlags := 0x411 }
/-- [B -/
def k9 : Class := { plain "[B" (some 0) with kind := .array 8 .byte, interfaces := #[7, 4], accessFlags := 1041 }

/-- the primitive int -/
def k10 : Class := { plain "int" none with kind := .primitive 'I', accessFlags := 0x411 }
/-- [I -/
def k11 : Class := { plain "[I" (some 0) with kind := .array 10 .int, interfaces := #[7, 4], accessFlags := 1041 }

/-- [Lcom/example/formal_courier/formalcourier/crs/CrsDocumentTypeControls$DocumentType; -/
def k12 : Class := { plain "[Lcom/example/formal_courier/formalcourier/crs/CrsDocumentTypeControls$DocumentType;" (some 0) with kind := .array 6 (.object "com/example/formal_courier/formalcourier/crs/CrsDocumentTypeControls$DocumentType"), interfaces := #[7, 4], accessFlags := 1041 }

def heap : Heap := #[{ cls := 6, slots := #[.ref 1, .ref 2, .ref 3, .ref 4, .ref 5, .ref 6, .ref 7, .null, .null], vm := .statics 6 },
  { cls := 6, slots := #[.null, .int 0, .int 0], vm := .none },
  { cls := 6, slots := #[.null, .int 1, .int 0], vm := .none },
  { cls := 6, slots := #[.null, .int 2, .int 0], vm := .none },
  { cls := 6, slots := #[.null, .int 3, .int 0], vm := .none },
  { cls := 6, slots := #[.null, .int 4, .int 0], vm := .none },
  { cls := 6, slots := #[.null, .int 5, .int 0], vm := .none },
  { cls := 6, slots := #[.null, .int 6, .int 0], vm := .none }]
def classes : Array Class := #[k0, k1, k2, k3, k4, k5, k6, k7, k8, k9, k10, k11, k12]
def interned : List (Array UInt16 × Addr) := []
def slotsUsed : Nat := 30
def theMethod : MethodId := ⟨1, 1⟩
def args0 : Array Value := #[.int 5]
def aboutOver (below : List Frame) : State where
  vm := { classes := classes, interned := interned.toArray }
  heap := heap
  slotsUsed := slotsUsed
  threads := #[{ frames := .invoking theMethod args0 :: below }]
def below0 : List Frame := [.native { method := ⟨0, 0⟩, args := #[] }]
def about1 : State := aboutOver below0
def p0 : Program := .bare "" "" ""
def e0 : Env := launch0.env 0 0 0
theorem w_frames : about1.frames = Frame.invoking theMethod args0 :: below0 := rfl
set_option maxRecDepth 65536 in
theorem w_args : argsFit about1.vm theMethod args0 = true := by decide +kernel
set_option maxRecDepth 65536 in
theorem w_heap : heapFits about1 = true := by decide +kernel
set_option maxRecDepth 65536 in
theorem w_runnable : about1.curStatus? = some .runnable := by decide +kernel
set_option maxRecDepth 65536 in
theorem w_alone : about1.alone = true := by decide +kernel
set_option maxRecDepth 65536 in
theorem w_named : about1.methodNamed? x = some theMethod := by decide +kernel
set_option maxRecDepth 65536 in
theorem w_hears : about1.hears theMethod below0 = true := by decide +kernel
set_option maxRecDepth 65536 in
theorem w_ripe : about1.ripe theMethod args0 below0 = true := by decide +kernel
theorem w_running : about1.status = .running := rfl
set_option maxRecDepth 65536 in
theorem w_room : about1.hasRoom e0.platform room_1 = true :=
  launch0.hasRoom_least _ room_1 (by decide +kernel) (by decide +kernel) (by decide +kernel) (by decide +kernel) (by decide +kernel) (by decide +kernel)
theorem allAtoms_all (ts : List Jvm.Cond) (a : Array Jvm.Value) (st : Jvm.State) : (allAtoms ts).before a st = ts.all (fun c => c.before a st) := by
  induction ts with
  | nil => rfl
  | cons c t ih =>
    show (Jvm.Cond.and c (allAtoms t)).before a st = _
    rw [Jvm.Cond.before_and, ih, List.all_cons]
def words1 : List Jvm.Cond := Jvm.Cond.code x code maxLocals ret :: tables_1
/-- a 'code' word, met by the world's own term for the bytes: nothing is compared byte by byte -/
theorem code_word {y : MethodName} {bytes : ByteArray} {mx : Nat} {rt : Option FieldType} {a : Array Value} {s : State} {m : MethodId} {meth : Method} {c : Code} (h1 : s.methodNamed? y = some m) (h2 : s.vm.method? m = some meth) (h3 : meth.code = some c) (h4 : c.code = bytes)
    (h5 : (c.maxLocals == mx && c.exceptionTable.isEmpty && decide (c.maxStack ≤ mostOperands) && decide (meth.sig.returnType = rt) && !meth.locks && decide (parseMethodDescriptor y.desc = some meth.sig)) = true) : (Jvm.Cond.code y bytes mx rt).before a s = true := by
  simp only [Bool.and_eq_true, beq_iff_eq, Bool.not_eq_true', decide_eq_true_eq] at h5
  obtain ⟨⟨⟨⟨⟨g1, g2⟩, g3⟩, g4⟩, g5⟩, g6⟩ := h5
  simp [Cond.before, Cond.holds, Cond.value, h1, h2, h3, h4, g1, g2, g3, g4, g5, g6]
def isCode : Jvm.Cond → Bool
  | .code _ _ _ _ => true
  | _ => false
theorem all_split {L : List Jvm.Cond} {P : Jvm.Cond → Bool} (h1 : L.all (fun c => isCode c || P c) = true) (h2 : ∀ c ∈ L.filter isCode, P c = true) : L.all P = true := by
  refine List.all_eq_true.mpr fun c hc => ?_
  have h := List.all_eq_true.mp h1 c hc
  rcases Bool.eq_false_or_eq_true (isCode c) with hi | hi
  · exact h2 c (List.mem_filter.mpr ⟨hc, hi⟩)
  · simpa [hi] using h
set_option maxRecDepth 65536 in
theorem w_c0 : (Jvm.Cond.code x code maxLocals ret).before args0 about1 = true := code_word (m := ⟨1, 1⟩) (meth := k1m1) (c := k1c1) (by decide +kernel) rfl rfl rfl (by decide +kernel)
set_option maxRecDepth 65536 in
theorem w_c1 : (Jvm.Cond.code ({ cls := "com/example/formal_courier/formalcourier/crs/CrsDocumentTypeControls$DocumentType", name := "isReplacement", desc := "()Z" } : Jvm.MethodName) prog_48_method_6_code (1 : Nat) (Option.some Jvm.ClassFile.FieldType.boolean)).before args0 about1 = true := code_word (m := ⟨6, 1⟩) (meth := k6m1) (c := k6c1) (by decide +kernel) rfl rfl rfl (by decide +kernel)
set_option maxRecDepth 65536 in
theorem w_c2 : (Jvm.Cond.code ({ cls := "com/example/formal_courier/formalcourier/crs/CrsDocumentTypeControls$DocumentType", name := "isProduction", desc := "()Z" } : Jvm.MethodName) prog_48_method_8_code (1 : Nat) (Option.some Jvm.ClassFile.FieldType.boolean)).before args0 about1 = true := code_word (m := ⟨6, 3⟩) (meth := k6m3) (c := k6c3) (by decide +kernel) rfl rfl rfl (by decide +kernel)
set_option maxRecDepth 65536 in
theorem w_c3 : (Jvm.Cond.code ({ cls := "com/example/formal_courier/formalcourier/crs/CrsDocumentTypeControls$DocumentType", name := "isNew", desc := "()Z" } : Jvm.MethodName) prog_48_method_5_code (1 : Nat) (Option.some Jvm.ClassFile.FieldType.boolean)).before args0 about1 = true := code_word (m := ⟨6, 0⟩) (meth := k6m0) (c := k6c0) (by decide +kernel) rfl rfl rfl (by decide +kernel)
set_option maxRecDepth 65536 in
theorem w_c4 : (Jvm.Cond.code ({ cls := "com/example/formal_courier/formalcourier/crs/CrsDocumentTypeControls$DocumentType", name := "isDeletion", desc := "()Z" } : Jvm.MethodName) prog_48_method_7_code (1 : Nat) (Option.some Jvm.ClassFile.FieldType.boolean)).before args0 about1 = true := code_word (m := ⟨6, 2⟩) (meth := k6m2) (c := k6c2) (by decide +kernel) rfl rfl rfl (by decide +kernel)
set_option maxRecDepth 65536 in
theorem w_c5 : (Jvm.Cond.code ({ cls := "com/example/formal_courier/formalcourier/crs/CrsDocumentTypeControls$DocumentType", name := "isTest", desc := "()Z" } : Jvm.MethodName) prog_48_method_9_code (1 : Nat) (Option.some Jvm.ClassFile.FieldType.boolean)).before args0 about1 = true := code_word (m := ⟨6, 4⟩) (meth := k6m4) (c := k6c4) (by decide +kernel) rfl rfl rfl (by decide +kernel)
def codes1 : List Jvm.Cond := [Jvm.Cond.code x code maxLocals ret, Jvm.Cond.code ({ cls := "com/example/formal_courier/formalcourier/crs/CrsDocumentTypeControls$DocumentType", name := "isReplacement", desc := "()Z" } : Jvm.MethodName) prog_48_method_6_code (1 : Nat) (Option.some Jvm.ClassFile.FieldType.boolean), Jvm.Cond.code ({ cls := "com/example/formal_courier/formalcourier/crs/CrsDocumentTypeControls$DocumentType", name := "isProduction", desc := "()Z" } : Jvm.MethodName) prog_48_method_8_code (1 : Nat) (Option.some Jvm.ClassFile.FieldType.boolean), Jvm.Cond.code ({ cls := "com/example/formal_courier/formalcourier/crs/CrsDocumentTypeControls$DocumentType", name := "isNew", desc := "()Z" } : Jvm.MethodName) prog_48_method_5_code (1 : Nat) (Option.some Jvm.ClassFile.FieldType.boolean), Jvm.Cond.code ({ cls := "com/example/formal_courier/formalcourier/crs/CrsDocumentTypeControls$DocumentType", name := "isDeletion", desc := "()Z" } : Jvm.MethodName) prog_48_method_7_code (1 : Nat) (Option.some Jvm.ClassFile.FieldType.boolean), Jvm.Cond.code ({ cls := "com/example/formal_courier/formalcourier/crs/CrsDocumentTypeControls$DocumentType", name := "isTest", desc := "()Z" } : Jvm.MethodName) prog_48_method_9_code (1 : Nat) (Option.some Jvm.ClassFile.FieldType.boolean)]
set_option maxRecDepth 65536 in
theorem codes_eq : words1.filter isCode = codes1 := rfl
theorem w_codes : ∀ c ∈ words1.filter isCode, c.before args0 about1 = true := by
  rw [codes_eq]
  intro c hc
  simp only [codes1, List.mem_cons, List.not_mem_nil, or_false] at hc
  rcases hc with rfl | rfl | rfl | rfl | rfl | rfl
  · exact w_c0
  · exact w_c1
  · exact w_c2
  · exact w_c3
  · exact w_c4
  · exact w_c5
set_option maxRecDepth 65536 in
theorem w_t1 : (words1.take 24).all (fun c => isCode c || c.before args0 about1) = true := by decide +kernel
set_option maxRecDepth 65536 in
theorem w_t2 : ((words1.drop 24).take 24).all (fun c => isCode c || c.before args0 about1) = true := by decide +kernel
set_option maxRecDepth 65536 in
theorem w_t3 : ((words1.drop 24).drop 24).all (fun c => isCode c || c.before args0 about1) = true := by decide +kernel
theorem w_tables : (allAtoms (Jvm.Cond.code x code maxLocals ret :: tables_1)).before args0 about1 = true := by
  rw [allAtoms_all]
  show words1.all (fun c => c.before args0 about1) = true
  refine all_split ?_ w_codes
  rw [← List.take_append_drop 24 words1, List.all_append, w_t1, ← List.take_append_drop 24 (words1.drop 24), List.all_append, w_t2, w_t3]
  rfl
set_option maxRecDepth 65536 in
theorem w_case : (Jvm.Cond.and given_1 narrow_1).before args0 about1 = true := by decide +kernel
theorem w_applies : (headSpec (Jvm.Cond.code x code maxLocals ret :: tables_1) room_1).applies x e0.platform about1 = true :=
  (Spec.applies_iff w_frames).mpr ⟨w_running, w_runnable, w_alone, w_named, w_hears, w_ripe, w_room, w_tables⟩
theorem atStart : AtStart classFile x code maxLocals ret World_1 tables_1 room_1 Calls_1 rest_1 Pre_1 launch0 p0 e0 about1 theMethod args0 below0 :=
  ⟨lists_1, trivial, launch0.admits_env _ _ _, launch0.least_env, fairChoices_fair.cas, fairChoices_fair.clock, w_frames, w_args, w_heap, w_applies, trivial, trivial, w_case⟩
end start1
theorem witness_1 : WitnessClaimed_1 := ⟨start1.p0, start1.e0, start1.about1, start1.theMethod, start1.args0, start1.below0, start1.atStart⟩
end Jvm.Pilot.@@N@@
