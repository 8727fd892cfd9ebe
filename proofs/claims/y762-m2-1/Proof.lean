import JvmDerived
import JvmDerived.Pilot.@@N@@Statement
import JvmDerived.Pilot.@@N@@Code
set_option linter.unusedVariables false
set_option linter.unusedSimpArgs false
namespace Jvm.Pilot.@@N@@
open Jvm Jvm.ClassFile Sem Op Lib Jvm.Free Jvm.Stand Jvm.LawKit Jvm.RoadKit Bundle Jvm.Pilot.@@N@@.Jvm.D
section OwnGo
variable {p : Program} {l : Launch} {e : Env} {R : Room} {s : State} {m : MethodId} {args : Array Value} {below : List Frame} {meth : Method} {c : Code} {T T' : State} {locs : List Loc} {cells slots : Nat} {Q : Option Value → Heap → List Loc → Prop} {C S : Nat} {g g' : JFrame} {F : Outcome → State → Prop}
/-- from this state and frame the body comes to an end of which F holds -/
def Go (p : Program) (e : Env) (below : List Frame) (F : Outcome → State → Prop) (T : State) (g : JFrame) : Prop :=
  ∃ s₂ o, Steps p.tables e below (T.setTop g) s₂ ∧ s₂.status = .running ∧ Ended s₂ below o ∧ F o s₂
/-- it returned, Q holds, and nothing else has moved than L and so many new cells and slots -/
abbrev EndN (s : State) (Q : Option Value → Heap → List Loc → Prop) (C S : Nat) (o : Outcome) (t : State) : Prop := ∃ v L, o = .returned v ∧ Q v t.heap L ∧ FrameEnd s o t L C S
theorem Go.enter (q : g = g') (k : Go p e below F T g') : ∃ s₂ o, Steps p.tables e below (T.setTop g) s₂ ∧ s₂.status = .running ∧ Ended s₂ below o ∧ F o s₂ := by
  subst q
  exact k
theorem Go.by (h : ∀ t, Steps p.tables e below (T'.setTop g') t → Steps p.tables e below (T.setTop g) t) (k : Go p e below F T' g') : Go p e below F T g := by
  obtain ⟨s₂, o, h1, h2⟩ := k
  exact ⟨s₂, o, h _ h1, h2⟩
theorem Go.to (h : Steps p.tables e below (T.setTop g) (T'.setTop g')) (k : Go p e below F T' g') : Go p e below F T g := by
  obtain ⟨s₂, o, h1, h2⟩ := k
  exact ⟨s₂, o, h.trans h1, h2⟩
abbrev own_retKind (i : Instr) (t : FieldType) (w : Value) : Prop := (i = .ireturn ∧ (t = .int ∨ t = .boolean ∨ t = .byte ∨ t = .char ∨ t = .short) ∧ ∃ z, w = .int z) ∨ (i = .lreturn ∧ t = .long ∧ ∃ z, w = .long z) ∨ (i = .dreturn ∧ t = .double ∧ ∃ z, w = .double z) ∨ (i = .freturn ∧ t = .float ∧ ∃ z, w = .float z) ∨ (i = .areturn ∧ t.isReference = true ∧ w.isRef = true)
theorem Go.ret (X : Stand p l e R s m args below meth c T locs cells slots) (hx : p.tables.exec = Jvm.exec) (hlocks : meth.locks = false) {pc : Nat} {Ls : Array Slot} {w : Value} {t : FieldType} {i : Instr} {rest : List Value} (hret : meth.sig.returnType = some t) (hn : narrow t w = w)
    (hi : own_retKind i t w) (hd : decode c.code pc = .ok (i, 1)) (hq : Q (some w) T.heap locs) (hc : cells ≤ C) (hs : slots ≤ S) : Go p e below (EndN s Q C S) T (mkF m pc Ls (w :: rest)) := by
  obtain ⟨fs, hr, hrun, hended, hW, hsame⟩ := X.leave (v := some w) (fun h => by rw [hret] at h; cases h) hlocks
  exact ⟨_, _, retOut X hx hret hn hi hd hr, hrun, hended, _, _, rfl, hq, ⟨_, rfl⟩, hW, hsame.mono hc hs⟩
theorem Go.retI (X : Stand p l e R s m args below meth c T locs cells slots) (hx : p.tables.exec = Jvm.exec) (hlocks : meth.locks = false) {pc : Nat} {Ls : Array Slot} {w : Int32} {t : FieldType} {rest : List Value} (hret : meth.sig.returnType = some t) (hn : narrow t (.int w) = .int w)
    (ht : t = .int ∨ t = .boolean ∨ t = .byte ∨ t = .char ∨ t = .short) (hd : decode c.code pc = .ok (.ireturn, 1)) (hq : Q (some (.int w)) T.heap locs) (hc : cells ≤ C) (hs : slots ≤ S) : Go p e below (EndN s Q C S) T (mkF m pc Ls (.int w :: rest)) :=
  Go.ret X hx hlocks hret hn (Or.inl ⟨rfl, ht, _, rfl⟩) hd hq hc hs
theorem Go.retJ (X : Stand p l e R s m args below meth c T locs cells slots) (hx : p.tables.exec = Jvm.exec) (hlocks : meth.locks = false) {pc : Nat} {Ls : Array Slot} {w : Int64} {rest : List Value} (hret : meth.sig.returnType = some .long)
    (hd : decode c.code pc = .ok (.lreturn, 1)) (hq : Q (some (.long w)) T.heap locs) (hc : cells ≤ C) (hs : slots ≤ S) : Go p e below (EndN s Q C S) T (mkF m pc Ls (.long w :: rest)) :=
  Go.ret X hx hlocks hret rfl (Or.inr (Or.inl ⟨rfl, rfl, _, rfl⟩)) hd hq hc hs
theorem own_narR (t : FieldType) {w : Value} (ht : t.isReference = true) (hw : w.isRef = true) : narrow t w = w := by
  cases t <;> first | (simp [FieldType.isReference] at ht; done) | (rcases ref_cases hw with rfl | ⟨_, rfl⟩ <;> rfl)
theorem own_fitR (t : FieldType) {w : Value} (ht : t.isReference = true) (hw : w.isRef = true) : fits t w = true := by
  cases t <;> first | (simp [FieldType.isReference] at ht; done) | (rcases ref_cases hw with rfl | ⟨_, rfl⟩ <;> rfl)
theorem Go.retA (X : Stand p l e R s m args below meth c T locs cells slots) (hx : p.tables.exec = Jvm.exec) (hlocks : meth.locks = false) {pc : Nat} {Ls : Array Slot} {w : Value} {t : FieldType} {rest : List Value} (hret : meth.sig.returnType = some t) (ht : t.isReference = true) (hw : w.isRef = true)
    (hd : decode c.code pc = .ok (.areturn, 1)) (hq : Q (some w) T.heap locs) (hc : cells ≤ C) (hs : slots ≤ S) : Go p e below (EndN s Q C S) T (mkF m pc Ls (w :: rest)) :=
  Go.ret X hx hlocks hret (own_narR t ht hw) (Or.inr (Or.inr (Or.inr (Or.inr ⟨rfl, ht, hw⟩)))) hd hq hc hs
theorem Go.retV (X : Stand p l e R s m args below meth c T locs cells slots) (hx : p.tables.exec = Jvm.exec) (hlocks : meth.locks = false) {pc : Nat} {Ls : Array Slot} (hret : meth.sig.returnType = none)
    (hd : decode c.code pc = .ok (.return_, 1)) (hq : Q none T.heap locs) (hc : cells ≤ C) (hs : slots ≤ S) : Go p e below (EndN s Q C S) T (mkF m pc Ls []) := by
  obtain ⟨fs, hr, hrun, hended, hW, hsame⟩ := X.leave (v := none) (fun _ => rfl) hlocks
  exact ⟨_, _, X.returnOut hx hret hd hr, hrun, hended, _, _, rfl, hq, ⟨_, rfl⟩, hW, hsame.mono hc hs⟩
end OwnGo
theorem own_masked (x : Int32) : ¬ (x &&& 2147483647) < 0 := by
  have h := (c_and x (2147483647 : Int32) (by decide)).1
  rw [XT.negI32]
  omega
theorem own_irem (x y : Int32) : x - x / y * y = x % y := irem_eq_mod x y
theorem own_rem {x d k : Int32} (n : Nat) (hx : ¬ x < 0) (hd : d.toInt = n) (hn : 0 < n) (hk : k = x - x / d * d) : ∃ j : Nat, j < n ∧ k = Int32.ofNat j := by
  rw [own_irem] at hk
  rw [XT.negI32] at hx
  have h1 := (c_irem x d n hd).1 (by omega)
  have h2 := Int.emod_nonneg x.toInt (b := (n : Int)) (by omega)
  have h3 := Int.emod_lt_of_pos x.toInt (b := (n : Int)) (by omega)
  refine ⟨k.toInt.toNat, by rw [hk, h1]; omega, ?_⟩
  apply Int32.toInt_inj.mp
  have h4 := rng32 k
  rw [← hk] at h1
  rw [Int32.toInt_ofNat_of_lt (by omega)]
  omega

theorem own_mod5 {x k : Int32} (h : k = (x &&& 2147483647) - (x &&& 2147483647) / 5 * 5) : k = 0 ∨ k = 1 ∨ k = 2 ∨ k = 3 ∨ k = 4 := by
  obtain ⟨j, hj, rfl⟩ := own_rem 5 (own_masked x) (d := 5) rfl (by decide) h
  rcases (by omega : j = 0 ∨ j = 1 ∨ j = 2 ∨ j = 3 ∨ j = 4) with rfl | rfl | rfl | rfl | rfl <;> simp
theorem own_ord {args : Array Value} {s : State} {t : Term} {a : Addr} {C n d : String} {k : Int32} (h : (Jvm.Cond.eq (Term.field t C n d) (Term.int k)).value args s none s [] = some true) (ev : t.eval args s none [] s = some (.ref a)) : s.fieldOf? a C n d = some (.int k) :=
  (fld_at ev).symm.trans (eqv_i (Term.int_eval k) h)
theorem own_eqR {args : Array Value} {s : State} {X Y : Term} {d : Addr} (h : (Jvm.Cond.eq X Y).value args s none s [] = some true) (hY : Y.eval args s none [] s = some (.ref d)) : X.eval args s none [] s = some (.ref d) := by
  obtain ⟨x, y, hx, hy, -, hk⟩ := cmp_v (Or.inl h)
  obtain rfl : (.ref d) = y := Option.some.inj (hY.symm.trans hy)
  have hr : x.isRef = true := hk.2
  rw [hx, gotT (eq_R hx hY hr rfl) h]

theorem own_len {args : Array Value} {s : State} {t : Term} {a : Addr} {c : Cell} {z : Int32} (ev : t.eval args s none [] s = some (.ref a)) (A : s.arrayAt? a = some c) (h : (Term.length t).eval args s none [] s = some (.int z)) : c.slots.size < 2 ^ 31 ∧ c.slots.size.toInt32 = z := by
  simp only [Term.eval, ev, A, Option.bind_eq_bind, Option.bind_some] at h
  by_cases q : c.slots.size < 2 ^ 31
  · refine ⟨q, ?_⟩
    simpa [q] using h
  · simp [q] at h
theorem own_static {args : Array Value} {s : State} {C n d : String} {v : Value} (h : (Term.static C n d).eval args s none [] s = some v) : ∀ idx, (Term.static C n d).eval args s none idx s = some v := fun idx => by
  simpa [Term.eval] using h
theorem own_valI {Z : State} {args : Array Value} (X : Term) (j : Int32) (hj : ¬ j < 0) (h : (Jvm.Cond.eq X (Term.sub (Term.index 0) (Term.int 128))).value args Z none Z [j.toNatClampNeg] = some true) : X.eval args Z none [j.toNatClampNeg] Z = some (.int (j - 128)) := by
  refine eqv_i ?_ h
  have h1 : (Term.index 0).eval args Z none [j.toNatClampNeg] Z = some (.int j) := idx_at hj
  simp only [Term.eval] at h1 ⊢
  rw [h1]
  rfl
theorem own_boxin {x : Int32} (h1 : ¬ x < -128) (h2 : ¬ (127 : Int32) < x) : ¬ (x + 128) < 0 ∧ (x + 128) < 256 := by
  rw [Int32.lt_iff_toInt_lt] at h1 h2 ⊢
  rw [Int32.lt_iff_toInt_lt]
  have h := c_iadd x 128
  have r := rng32 (x + 128)
  have r2 := rng32 x
  have l1 : (-128 : Int32).toInt = -128 := by decide
  have l2 : (127 : Int32).toInt = 127 := by decide
  have l3 : (128 : Int32).toInt = 128 := by decide
  have l4 : (256 : Int32).toInt = 256 := by decide
  have l5 : (0 : Int32).toInt = 0 := by decide
  omega
theorem own_valJ {Z : State} {args : Array Value} (X : Term) (j : Int32) (hj : ¬ j < 0) (h : (Jvm.Cond.eq X (Term.op1 .i2l (Term.sub (Term.index 0) (Term.int 128)))).value args Z none Z [j.toNatClampNeg] = some true) : X.eval args Z none [j.toNatClampNeg] Z = some (.long (j - 128).toInt64) := by
  refine eqv_l (i2l_at ?_) h
  have h1 : (Term.index 0).eval args Z none [j.toNatClampNeg] Z = some (.int j) := idx_at hj
  simp only [Term.eval] at h1 ⊢
  rw [h1]
  rfl
theorem own_boxinJ {x : Int64} (h1 : ¬ x < -128) (h2 : ¬ (127 : Int64) < x) : ¬ (x.toInt32 + 128) < 0 ∧ (x.toInt32 + 128) < 256 := by
  rw [Int64.lt_iff_toInt_lt] at h1 h2
  rw [Int32.lt_iff_toInt_lt, Int32.lt_iff_toInt_lt]
  have h := c_iadd x.toInt32 128
  have r := rng32 (x.toInt32 + 128)
  have r2 := rng32 x.toInt32
  have r3 := c_l2i x
  have l1 : (-128 : Int64).toInt = -128 := by decide
  have l2 : (127 : Int64).toInt = 127 := by decide
  have l3 : (128 : Int32).toInt = 128 := by decide
  have l4 : (256 : Int32).toInt = 256 := by decide
  have l5 : (0 : Int32).toInt = 0 := by decide
  omega

theorem pn_2 : plainName "com/example/diligent_tariff/diligenttariff/billing/Determinant" = true := by first | (simp [plainName, overriddenIn]; done) | decide +kernel
theorem ef_3 (m : MethodId)  : entryFrame m #[] 0 = mkF m 0 #[] [] := by (first | (simp [entryFrame, mkF, argsToLocals, Value.category]; done) | rfl)
theorem d2_0 : decode prog_6_method_1_code 0 = .ok (.getstatic 16, 3) := by decide +kernel
theorem d2_3 : decode prog_6_method_1_code 3 = .ok (.invokevirtual 20, 3) := by decide +kernel
theorem d2_6 : decode prog_6_method_1_code 6 = .ok (.checkcast 21, 3) := by decide +kernel
theorem d2_9 : decode prog_6_method_1_code 9 = .ok (.areturn, 1) := by decide +kernel
def Q_rmValues (Z : State) (u_MONTH : Addr) (u_BILL : Addr) (u_KWH : Addr) (u_KW : Addr) (u_KVA : Addr) (d_KW : Addr) (d_KVA : Addr) (d_PHASE : Addr) (d_INTERVALS : Addr) (va : Addr) (kv : ClassId) (em : Addr) (h0 : Heap) (n0 : Nat) (v : Option Value) (h : Heap) (L : List Loc) : Prop := ∃ b : Addr, v = some (.ref b) ∧ Fr n0 L ∧ Keep h0 h [] ∧ Arv Z h b kv (.object "com/example/diligent_tariff/diligenttariff/billing/Determinant") (4 : Int32) ([(.ref d_KW), (.ref d_KVA), (.ref d_PHASE), (.ref d_INTERVALS)]) .null ∧ Exa Z h b "[Lcom/example/diligent_tariff/diligenttariff/billing/Determinant;" ∧ h0.size ≤ b
set_option maxRecDepth 65536 in
set_option maxHeartbeats 40000000 in
theorem rmValues (l : Launch) (Z : State) (a0 : Array Value) (hw : ∀ d ∈ tables_1, d.before a0 Z = true) (ws : List Jvm.Cond) (u_MONTH : Addr) (u_BILL : Addr) (u_KWH : Addr) (u_KW : Addr) (u_KVA : Addr) (d_KW : Addr) (d_KVA : Addr) (d_PHASE : Addr) (d_INTERVALS : Addr) (va : Addr) (kv : ClassId) (em : Addr) (h0 : Heap) (n0 : Nat) (Z0 : n0 ≤ h0.size) (O0 : Old Z n0 h0) (S_u_MONTH : Sta Z Z.heap "com/example/diligent_tariff/diligenttariff/book/Unit" "MONTH" "Lcom/example/diligent_tariff/diligenttariff/book/Unit;" (.ref u_MONTH)) (E_u_MONTH : Exa Z Z.heap u_MONTH "com/example/diligent_tariff/diligenttariff/book/Unit") (O_u_MONTH : Fld Z Z.heap u_MONTH "java/lang/Enum" "ordinal" "I" (.int 0)) (S_u_BILL : Sta Z Z.heap "com/example/diligent_tariff/diligenttariff/book/Unit" "BILL" "Lcom/example/diligent_tariff/diligenttariff/book/Unit;" (.ref u_BILL)) (E_u_BILL : Exa Z Z.heap u_BILL "com/example/diligent_tariff/diligenttariff/book/Unit") (O_u_BILL : Fld Z Z.heap u_BILL "java/lang/Enum" "ordinal" "I" (.int 1)) (S_u_KWH : Sta Z Z.heap "com/example/diligent_tariff/diligenttariff/book/Unit" "KWH" "Lcom/example/diligent_tariff/diligenttariff/book/Unit;" (.ref u_KWH)) (E_u_KWH : Exa Z Z.heap u_KWH "com/example/diligent_tariff/diligenttariff/book/Unit") (O_u_KWH : Fld Z Z.heap u_KWH "java/lang/Enum" "ordinal" "I" (.int 2)) (S_u_KW : Sta Z Z.heap "com/example/diligent_tariff/diligenttariff/book/Unit" "KW" "Lcom/example/diligent_tariff/diligenttariff/book/Unit;" (.ref u_KW)) (E_u_KW : Exa Z Z.heap u_KW "com/example/diligent_tariff/diligenttariff/book/Unit") (O_u_KW : Fld Z Z.heap u_KW "java/lang/Enum" "ordinal" "I" (.int 3)) (S_u_KVA : Sta Z Z.heap "com/example/diligent_tariff/diligenttariff/book/Unit" "KVA" "Lcom/example/diligent_tariff/diligenttariff/book/Unit;" (.ref u_KVA)) (E_u_KVA : Exa Z Z.heap u_KVA "com/example/diligent_tariff/diligenttariff/book/Unit") (O_u_KVA : Fld Z Z.heap u_KVA "java/lang/Enum" "ordinal" "I" (.int 4)) (D0 : Sta Z Z.heap "com/example/diligent_tariff/diligenttariff/billing/Determinant" "KW" "Lcom/example/diligent_tariff/diligenttariff/billing/Determinant;" (.ref d_KW)) (D1 : Sta Z Z.heap "com/example/diligent_tariff/diligenttariff/billing/Determinant" "KVA" "Lcom/example/diligent_tariff/diligenttariff/billing/Determinant;" (.ref d_KVA)) (D2 : Sta Z Z.heap "com/example/diligent_tariff/diligenttariff/billing/Determinant" "$VALUES" "[Lcom/example/diligent_tariff/diligenttariff/billing/Determinant;" (.ref va)) (D3 : Sta Z Z.heap "java/util/Optional" "EMPTY" "Ljava/util/Optional;" (.ref em)) (D4 : Arv Z Z.heap va kv (.object "com/example/diligent_tariff/diligenttariff/billing/Determinant") (4 : Int32) ([(.ref d_KW), (.ref d_KVA), (.ref d_PHASE), (.ref d_INTERVALS)]) .null) (D5 : Exa Z Z.heap va "[Lcom/example/diligent_tariff/diligenttariff/billing/Determinant;") (D6 : Exa Z Z.heap em "java/util/Optional") (D7 : Fld Z Z.heap em "java/util/Optional" "value" "Ljava/lang/Object;" .null) (D8 : Exa Z Z.heap d_KW "com/example/diligent_tariff/diligenttariff/billing/Determinant") (D9 : Exa Z Z.heap d_KVA "com/example/diligent_tariff/diligenttariff/billing/Determinant") (D10 : Exa Z Z.heap d_PHASE "com/example/diligent_tariff/diligenttariff/billing/Determinant") (D11 : Exa Z Z.heap d_INTERVALS "com/example/diligent_tariff/diligenttariff/billing/Determinant") (D12 : Fld Z Z.heap d_KW "com/example/diligent_tariff/diligenttariff/billing/Determinant" "unit" "Lcom/example/diligent_tariff/diligenttariff/book/Unit;" (.ref u_KW)) (D13 : Fld Z Z.heap d_KVA "com/example/diligent_tariff/diligenttariff/billing/Determinant" "unit" "Lcom/example/diligent_tariff/diligenttariff/book/Unit;" (.ref u_KVA)) (D14 : Fld Z Z.heap d_PHASE "com/example/diligent_tariff/diligenttariff/billing/Determinant" "unit" "Lcom/example/diligent_tariff/diligenttariff/book/Unit;" .null) (D15 : Fld Z Z.heap d_INTERVALS "com/example/diligent_tariff/diligenttariff/billing/Determinant" "unit" "Lcom/example/diligent_tariff/diligenttariff/book/Unit;" .null) :
    MetFree l (⟨"com/example/diligent_tariff/diligenttariff/billing/Determinant", "values", "()[Lcom/example/diligent_tariff/diligenttariff/billing/Determinant;"⟩ : MethodName) (head1 (Jvm.Cond.code (⟨"com/example/diligent_tariff/diligenttariff/billing/Determinant", "values", "()[Lcom/example/diligent_tariff/diligenttariff/billing/Determinant;"⟩ : MethodName) prog_6_method_1_code 0 (some (.array (.object "com/example/diligent_tariff/diligenttariff/billing/Determinant"))) :: ws) ({ frames := 1, cells := 1, slots := 4, locals := 14 } : Room)) (fun as' U => as' = #[] ∧ Z.Warmed39 U.vm ∧ U.heap = h0) (fun _ _ _ _ _ => True) (fun _ U o U' => ∃ v L, o = .returned v ∧ Q_rmValues Z u_MONTH u_BILL u_KWH u_KW u_KVA d_KW d_KVA d_PHASE d_INTERVALS va kv em h0 n0 v U'.heap L ∧ FrameEnd U o U' L ({ frames := 1, cells := 1, slots := 4, locals := 14 } : Room).cells ({ frames := 1, cells := 1, slots := 4, locals := 14 } : Room).slots) := by
  refine MetFree.of_bodySF (plainFor_of_name pn_2) hisR ?_
  intro p e s m args below meth c s₁ Bd hml0 hP hK
  obtain ⟨rfl, hZ, hh⟩ := hP
  have hx := Bd.exec
  have hby := Bd.bytes
  have hml : c.maxLocals = 0 := hml0
  have hown : s.vm.findClass "com/example/diligent_tariff/diligenttariff/billing/Determinant" = some m.cls := findClass_of_methodNamed Bd.named
  have hnm := (name_of_methodNamed Bd.named Bd.method).1
  have X0 : Stand p l e ({ frames := 1, cells := 1, slots := 4, locals := 14 } : Room) s m #[] below meth c s₁ [] 0 0 := Stand.of_body Bd
  have e0 : s₁.heap = h0 := by rw [← hh, Bd.state]; rfl
  have N0 := Fr.nil n0
  refine Go.enter (F := EndN s (Q_rmValues Z u_MONTH u_BILL u_KWH u_KW u_KVA d_KW d_KVA d_PHASE d_INTERVALS va kv em h0 n0) ({ frames := 1, cells := 1, slots := 4, locals := 14 } : Room).cells ({ frames := 1, cells := 1, slots := 4, locals := 14 } : Room).slots) (ef_3 m ) ?_
  show Go _ _ _ _ s₁ (mkF m 0 #[] [])
  have F1 : Sta Z h0 "com/example/diligent_tariff/diligenttariff/billing/Determinant" "$VALUES" "[Lcom/example/diligent_tariff/diligenttariff/billing/Determinant;" (.ref va) := D2.ext O0.2
  obtain ⟨T2, X2, e2, st2⟩ := getS2 X0 hx hZ hown (host := "") (Or.inl (hw _ (List.mem_of_getElem? (i := 11) rfl))) Via.refl e0 F1 (g := (mkF m 0 #[] [])) rfl (hb hby d2_0)
  refine Go.by st2 ?_
  show Go _ _ _ _ T2 (mkF m 3 #[] [(.ref va)])
  have F3 : Arv Z h0 va kv (.object "com/example/diligent_tariff/diligenttariff/billing/Determinant") (4 : Int32) [(.ref d_KW), (.ref d_KVA), (.ref d_PHASE), (.ref d_INTERVALS)] .null := D4.ext O0.2
  have F4 : Exa Z h0 va "[Lcom/example/diligent_tariff/diligenttariff/billing/Determinant;" := D5.ext O0.2
  obtain ⟨b, g5⟩ : ∃ z, z = h0.size := ⟨_, rfl⟩
  have ge_b : n0 ≤ b := Nat.le_trans Z0 (Nat.le_of_eq g5.symm)
  have sz_b : h0.size ≤ b := Nat.le_trans (Keep.refl h0 []).1 (Nat.le_of_eq g5.symm)
  obtain ⟨T5, h5, X5, e5, E5, A5, Ea5, st5⟩ := cloneH X2 hx hZ hown (hw _ (List.mem_of_getElem? (i := 13) rfl)) (hw _ (List.mem_of_getElem? (i := 14) rfl)) (hw _ (List.mem_of_getElem? (i := 18) rfl)) (hw _ (List.mem_of_getElem? (i := 16) rfl)) (hw _ (List.mem_of_getElem? (i := 17) rfl)) (hw _ (List.mem_of_getElem? (i := 19) rfl)) e2 (Arv.arh F3) F4 (g := (mkF m 3 #[] [(.ref va)])) rfl (by rw [hml]; rfl) rfl (hb hby d2_3) (by decide) (W := 0) (cap := 4) (by show 2 * 0 + _ ≤ _; exact Nat.le_of_eq rfl) (by decide) (by decide) (by decide) (by decide)
  rw [← g5] at A5 Ea5 st5
  have V_b : Arv Z h5 b kv (.object "com/example/diligent_tariff/diligenttariff/billing/Determinant") (4 : Int32) [(.ref d_KW), (.ref d_KVA), (.ref d_PHASE), (.ref d_INTERVALS)] .null := A5
  refine Go.by st5 ?_
  show Go _ _ _ _ T5 (mkF m 6 #[] [(.ref b)])
  obtain ⟨T6, X6, e6, st6⟩ := castY X5 hx hZ hown (hw _ (List.mem_of_getElem? (i := 25) rfl)) e5 (Ins.self Ea5) (g := (mkF m 6 #[] [(.ref b)])) rfl rfl (hb hby d2_6)
  refine Go.by st6 ?_
  show Go _ _ _ _ T6 (mkF m 9 #[] [(.ref b)])
  have F7 : Keep h0 h5 [] := (Keep.refl h0 []).ext E5
  exact Go.retA X6 hx Bd.notSynchronized Bd.returns rfl rfl (hb hby d2_9) (by rw [e6]; exact ⟨b, rfl, N0, F7, V_b, Ea5, sz_b⟩) (by decide) (by decide)
theorem pn_8 : plainName "java/util/Optional" = true := by first | (simp [plainName, overriddenIn]; done) | decide +kernel
theorem ef_9 (m : MethodId)  : entryFrame m #[] 1 = mkF m 0 #[.unset] [] := by (first | (simp [entryFrame, mkF, argsToLocals, Value.category]; done) | rfl)
theorem d3_0 : decode jdk_32_method_1_code 0 = .ok (.getstatic 1, 3) := by decide +kernel
theorem d3_3 : decode jdk_32_method_1_code 3 = .ok (.astore_n 0, 1) := by decide +kernel
theorem d3_4 : decode jdk_32_method_1_code 4 = .ok (.aload_n 0, 1) := by decide +kernel
theorem d3_5 : decode jdk_32_method_1_code 5 = .ok (.areturn, 1) := by decide +kernel
def Q_rmEmpty (Z : State) (u_MONTH : Addr) (u_BILL : Addr) (u_KWH : Addr) (u_KW : Addr) (u_KVA : Addr) (d_KW : Addr) (d_KVA : Addr) (d_PHASE : Addr) (d_INTERVALS : Addr) (va : Addr) (kv : ClassId) (em : Addr) (h0 : Heap) (n0 : Nat) (v : Option Value) (h : Heap) (L : List Loc) : Prop := v = some (.ref em) ∧ Fr n0 L ∧ h = h0
set_option maxRecDepth 65536 in
set_option maxHeartbeats 40000000 in
theorem rmEmpty (l : Launch) (Z : State) (a0 : Array Value) (hw : ∀ d ∈ tables_1, d.before a0 Z = true) (ws : List Jvm.Cond) (u_MONTH : Addr) (u_BILL : Addr) (u_KWH : Addr) (u_KW : Addr) (u_KVA : Addr) (d_KW : Addr) (d_KVA : Addr) (d_PHASE : Addr) (d_INTERVALS : Addr) (va : Addr) (kv : ClassId) (em : Addr) (h0 : Heap) (n0 : Nat) (Z0 : n0 ≤ h0.size) (O0 : Old Z n0 h0) (S_u_MONTH : Sta Z Z.heap "com/example/diligent_tariff/diligenttariff/book/Unit" "MONTH" "Lcom/example/diligent_tariff/diligenttariff/book/Unit;" (.ref u_MONTH)) (E_u_MONTH : Exa Z Z.heap u_MONTH "com/example/diligent_tariff/diligenttariff/book/Unit") (O_u_MONTH : Fld Z Z.heap u_MONTH "java/lang/Enum" "ordinal" "I" (.int 0)) (S_u_BILL : Sta Z Z.heap "com/example/diligent_tariff/diligenttariff/book/Unit" "BILL" "Lcom/example/diligent_tariff/diligenttariff/book/Unit;" (.ref u_BILL)) (E_u_BILL : Exa Z Z.heap u_BILL "com/example/diligent_tariff/diligenttariff/book/Unit") (O_u_BILL : Fld Z Z.heap u_BILL "java/lang/Enum" "ordinal" "I" (.int 1)) (S_u_KWH : Sta Z Z.heap "com/example/diligent_tariff/diligenttariff/book/Unit" "KWH" "Lcom/example/diligent_tariff/diligenttariff/book/Unit;" (.ref u_KWH)) (E_u_KWH : Exa Z Z.heap u_KWH "com/example/diligent_tariff/diligenttariff/book/Unit") (O_u_KWH : Fld Z Z.heap u_KWH "java/lang/Enum" "ordinal" "I" (.int 2)) (S_u_KW : Sta Z Z.heap "com/example/diligent_tariff/diligenttariff/book/Unit" "KW" "Lcom/example/diligent_tariff/diligenttariff/book/Unit;" (.ref u_KW)) (E_u_KW : Exa Z Z.heap u_KW "com/example/diligent_tariff/diligenttariff/book/Unit") (O_u_KW : Fld Z Z.heap u_KW "java/lang/Enum" "ordinal" "I" (.int 3)) (S_u_KVA : Sta Z Z.heap "com/example/diligent_tariff/diligenttariff/book/Unit" "KVA" "Lcom/example/diligent_tariff/diligenttariff/book/Unit;" (.ref u_KVA)) (E_u_KVA : Exa Z Z.heap u_KVA "com/example/diligent_tariff/diligenttariff/book/Unit") (O_u_KVA : Fld Z Z.heap u_KVA "java/lang/Enum" "ordinal" "I" (.int 4)) (D0 : Sta Z Z.heap "com/example/diligent_tariff/diligenttariff/billing/Determinant" "KW" "Lcom/example/diligent_tariff/diligenttariff/billing/Determinant;" (.ref d_KW)) (D1 : Sta Z Z.heap "com/example/diligent_tariff/diligenttariff/billing/Determinant" "KVA" "Lcom/example/diligent_tariff/diligenttariff/billing/Determinant;" (.ref d_KVA)) (D2 : Sta Z Z.heap "com/example/diligent_tariff/diligenttariff/billing/Determinant" "$VALUES" "[Lcom/example/diligent_tariff/diligenttariff/billing/Determinant;" (.ref va)) (D3 : Sta Z Z.heap "java/util/Optional" "EMPTY" "Ljava/util/Optional;" (.ref em)) (D4 : Arv Z Z.heap va kv (.object "com/example/diligent_tariff/diligenttariff/billing/Determinant") (4 : Int32) ([(.ref d_KW), (.ref d_KVA), (.ref d_PHASE), (.ref d_INTERVALS)]) .null) (D5 : Exa Z Z.heap va "[Lcom/example/diligent_tariff/diligenttariff/billing/Determinant;") (D6 : Exa Z Z.heap em "java/util/Optional") (D7 : Fld Z Z.heap em "java/util/Optional" "value" "Ljava/lang/Object;" .null) (D8 : Exa Z Z.heap d_KW "com/example/diligent_tariff/diligenttariff/billing/Determinant") (D9 : Exa Z Z.heap d_KVA "com/example/diligent_tariff/diligenttariff/billing/Determinant") (D10 : Exa Z Z.heap d_PHASE "com/example/diligent_tariff/diligenttariff/billing/Determinant") (D11 : Exa Z Z.heap d_INTERVALS "com/example/diligent_tariff/diligenttariff/billing/Determinant") (D12 : Fld Z Z.heap d_KW "com/example/diligent_tariff/diligenttariff/billing/Determinant" "unit" "Lcom/example/diligent_tariff/diligenttariff/book/Unit;" (.ref u_KW)) (D13 : Fld Z Z.heap d_KVA "com/example/diligent_tariff/diligenttariff/billing/Determinant" "unit" "Lcom/example/diligent_tariff/diligenttariff/book/Unit;" (.ref u_KVA)) (D14 : Fld Z Z.heap d_PHASE "com/example/diligent_tariff/diligenttariff/billing/Determinant" "unit" "Lcom/example/diligent_tariff/diligenttariff/book/Unit;" .null) (D15 : Fld Z Z.heap d_INTERVALS "com/example/diligent_tariff/diligenttariff/billing/Determinant" "unit" "Lcom/example/diligent_tariff/diligenttariff/book/Unit;" .null) :
    MetFree l (⟨"java/util/Optional", "empty", "()Ljava/util/Optional;"⟩ : MethodName) (head1 (Jvm.Cond.code (⟨"java/util/Optional", "empty", "()Ljava/util/Optional;"⟩ : MethodName) jdk_32_method_1_code 1 (some (.object "java/util/Optional")) :: ws) ({ frames := 0, cells := 0, slots := 0, locals := 0 } : Room)) (fun as' U => as' = #[] ∧ Z.Warmed39 U.vm ∧ U.heap = h0) (fun _ _ _ _ _ => True) (fun _ U o U' => ∃ v L, o = .returned v ∧ Q_rmEmpty Z u_MONTH u_BILL u_KWH u_KW u_KVA d_KW d_KVA d_PHASE d_INTERVALS va kv em h0 n0 v U'.heap L ∧ FrameEnd U o U' L ({ frames := 0, cells := 0, slots := 0, locals := 0 } : Room).cells ({ frames := 0, cells := 0, slots := 0, locals := 0 } : Room).slots) := by
  refine MetFree.of_bodySF (plainFor_of_name pn_8) hisR ?_
  intro p e s m args below meth c s₁ Bd hml0 hP hK
  obtain ⟨rfl, hZ, hh⟩ := hP
  have hx := Bd.exec
  have hby := Bd.bytes
  have hml : c.maxLocals = 1 := hml0
  have hown : s.vm.findClass "java/util/Optional" = some m.cls := findClass_of_methodNamed Bd.named
  have hnm := (name_of_methodNamed Bd.named Bd.method).1
  have X0 : Stand p l e ({ frames := 0, cells := 0, slots := 0, locals := 0 } : Room) s m #[] below meth c s₁ [] 0 0 := Stand.of_body Bd
  have e0 : s₁.heap = h0 := by rw [← hh, Bd.state]; rfl
  have N0 := Fr.nil n0
  refine Go.enter (F := EndN s (Q_rmEmpty Z u_MONTH u_BILL u_KWH u_KW u_KVA d_KW d_KVA d_PHASE d_INTERVALS va kv em h0 n0) ({ frames := 0, cells := 0, slots := 0, locals := 0 } : Room).cells ({ frames := 0, cells := 0, slots := 0, locals := 0 } : Room).slots) (ef_9 m ) ?_
  show Go _ _ _ _ s₁ (mkF m 0 #[.unset] [])
  have F1 : Sta Z h0 "java/util/Optional" "EMPTY" "Ljava/util/Optional;" (.ref em) := D3.ext O0.2
  obtain ⟨T2, X2, e2, st2⟩ := getS2 X0 hx hZ hown (host := "") (Or.inl (hw _ (List.mem_of_getElem? (i := 35) rfl))) Via.refl e0 F1 (g := (mkF m 0 #[.unset] [])) rfl (hb hby d3_0)
  refine Go.by st2 ?_
  show Go _ _ _ _ T2 (mkF m 3 #[.unset] [(.ref em)])
  refine Go.by (fun _ gk => XS.astoreN X2.here hx rfl (hb hby d3_3) rfl rfl (l' := #[.val (.ref em)]) rfl gk) ?_
  show Go _ _ _ _ T2 (mkF m 4 #[.val (.ref em)] [])
  refine Go.by (fun _ gk => XS.aloadN X2.here hx rfl (hb hby d3_4) rfl rfl gk) ?_
  show Go _ _ _ _ T2 (mkF m 5 #[.val (.ref em)] [(.ref em)])
  exact Go.retA X2 hx Bd.notSynchronized Bd.returns rfl rfl (hb hby d3_5) (by rw [e2]; exact ⟨rfl, N0, rfl⟩) (by decide) (by decide)
theorem pn_14 : plainName "java/util/Objects" = true := by first | (simp [plainName, overriddenIn]; done) | decide +kernel
theorem ef_15 (m : MethodId) (x0 : Addr) : entryFrame m #[(.ref x0)] 1 = mkF m 0 #[.val (.ref x0)] [] := by (first | (simp [entryFrame, mkF, argsToLocals, Value.category]; done) | rfl)
theorem d6_0 : decode jdk_31_method_10_code 0 = .ok (.aload_n 0, 1) := by decide +kernel
theorem d6_1 : decode jdk_31_method_10_code 1 = .ok (.ifnonnull 11, 3) := by decide +kernel
theorem d6_12 : decode jdk_31_method_10_code 12 = .ok (.aload_n 0, 1) := by decide +kernel
theorem d6_13 : decode jdk_31_method_10_code 13 = .ok (.areturn, 1) := by decide +kernel
def Q_rmRnn (Z : State) (a : Addr) (h0 : Heap) (n0 : Nat) (v : Option Value) (h : Heap) (L : List Loc) : Prop := v = some (.ref a) ∧ Fr n0 L ∧ h = h0
set_option maxRecDepth 65536 in
set_option maxHeartbeats 40000000 in
theorem rmRnn (l : Launch) (Z : State) (a0 : Array Value) (hw : ∀ d ∈ tables_1, d.before a0 Z = true) (ws : List Jvm.Cond) (a : Addr) (h0 : Heap) (n0 : Nat) (Z0 : n0 ≤ h0.size)  :
    MetFree l (⟨"java/util/Objects", "requireNonNull", "(Ljava/lang/Object;)Ljava/lang/Object;"⟩ : MethodName) (head1 (Jvm.Cond.code (⟨"java/util/Objects", "requireNonNull", "(Ljava/lang/Object;)Ljava/lang/Object;"⟩ : MethodName) jdk_31_method_10_code 1 (some (.object "java/lang/Object")) :: ws) ({ frames := 0, cells := 0, slots := 0, locals := 0 } : Room)) (fun as' U => as' = #[(.ref a)] ∧ Z.Warmed39 U.vm ∧ U.heap = h0) (fun _ _ _ _ _ => True) (fun _ U o U' => ∃ v L, o = .returned v ∧ Q_rmRnn Z a h0 n0 v U'.heap L ∧ FrameEnd U o U' L ({ frames := 0, cells := 0, slots := 0, locals := 0 } : Room).cells ({ frames := 0, cells := 0, slots := 0, locals := 0 } : Room).slots) := by
  refine MetFree.of_bodySF (plainFor_of_name pn_14) hisR ?_
  intro p e s m args below meth c s₁ Bd hml0 hP hK
  obtain ⟨rfl, hZ, hh⟩ := hP
  have hx := Bd.exec
  have hby := Bd.bytes
  have hml : c.maxLocals = 1 := hml0
  have hown : s.vm.findClass "java/util/Objects" = some m.cls := findClass_of_methodNamed Bd.named
  have hnm := (name_of_methodNamed Bd.named Bd.method).1
  have X0 : Stand p l e ({ frames := 0, cells := 0, slots := 0, locals := 0 } : Room) s m #[(.ref a)] below meth c s₁ [] 0 0 := Stand.of_body Bd
  have e0 : s₁.heap = h0 := by rw [← hh, Bd.state]; rfl
  have N0 := Fr.nil n0
  refine Go.enter (F := EndN s (Q_rmRnn Z a h0 n0) ({ frames := 0, cells := 0, slots := 0, locals := 0 } : Room).cells ({ frames := 0, cells := 0, slots := 0, locals := 0 } : Room).slots) (ef_15 m a) ?_
  show Go _ _ _ _ s₁ (mkF m 0 #[.val (.ref a)] [])
  refine Go.by (fun _ gk => XS.aloadN X0.here hx rfl (hb hby d6_0) rfl rfl gk) ?_
  show Go _ _ _ _ s₁ (mkF m 1 #[.val (.ref a)] [(.ref a)])
  refine Go.by (fun _ gk => XT.nonnullYes X0.here hx rfl (pc0 := 1) (pc' := 12) rfl (hb hby d6_1) rfl rfl nofun (by decide) (by decide) gk) ?_
  show Go _ _ _ _ s₁ (mkF m 12 #[.val (.ref a)] [])
  refine Go.by (fun _ gk => XS.aloadN X0.here hx rfl (hb hby d6_12) rfl rfl gk) ?_
  show Go _ _ _ _ s₁ (mkF m 13 #[.val (.ref a)] [(.ref a)])
  exact Go.retA X0 hx Bd.notSynchronized Bd.returns rfl rfl (hb hby d6_13) (by rw [e0]; exact ⟨rfl, N0, rfl⟩) (by decide) (by decide)
theorem ef_20 (m : MethodId) (x0 : Addr) (x1 : Addr) : entryFrame m #[(.ref x0), (.ref x1)] 2 = mkF m 0 #[.val (.ref x0), .val (.ref x1)] [] := by (first | (simp [entryFrame, mkF, argsToLocals, Value.category]; done) | rfl)
theorem d7_0 : decode jdk_32_method_2_code 0 = .ok (.aload_n 0, 1) := by decide +kernel
theorem d7_1 : decode jdk_32_method_2_code 1 = .ok (.invokespecial 7, 3) := by decide +kernel
theorem d7_4 : decode jdk_32_method_2_code 4 = .ok (.aload_n 0, 1) := by decide +kernel
theorem d7_5 : decode jdk_32_method_2_code 5 = .ok (.aload_n 1, 1) := by decide +kernel
theorem d7_6 : decode jdk_32_method_2_code 6 = .ok (.putfield 13, 3) := by decide +kernel
theorem d7_9 : decode jdk_32_method_2_code 9 = .ok (.return_, 1) := by decide +kernel
def Q_rmOinit (Z : State) (a : Addr) (b : Addr) (h0 : Heap) (n0 : Nat) (v : Option Value) (h : Heap) (L : List Loc) : Prop := v = none ∧ Fr n0 L ∧ Keep h0 h [a] ∧ Exa Z h a "java/util/Optional" ∧ Fld Z h a "java/util/Optional" "value" "Ljava/lang/Object;" (.ref b)
set_option maxRecDepth 65536 in
set_option maxHeartbeats 40000000 in
theorem rmOinit (l : Launch) (Z : State) (a0 : Array Value) (hw : ∀ d ∈ tables_1, d.before a0 Z = true) (ws : List Jvm.Cond) (a : Addr) (b : Addr) (h0 : Heap) (n0 : Nat) (Z0 : n0 ≤ h0.size) (E_a : Exa Z h0 a "java/util/Optional") (F_a_value : Fld Z h0 a "java/util/Optional" "value" "Ljava/lang/Object;" .null) (g_a : n0 ≤ a) :
    MetFree l (⟨"java/util/Optional", "<init>", "(Ljava/lang/Object;)V"⟩ : MethodName) (head1 (Jvm.Cond.code (⟨"java/util/Optional", "<init>", "(Ljava/lang/Object;)V"⟩ : MethodName) jdk_32_method_2_code 2 none :: ws) ({ frames := 1, cells := 0, slots := 0, locals := 12 } : Room)) (fun as' U => as' = #[(.ref a), (.ref b)] ∧ Z.Warmed39 U.vm ∧ U.heap = h0) (fun _ _ _ _ _ => True) (fun _ U o U' => ∃ v L, o = .returned v ∧ Q_rmOinit Z a b h0 n0 v U'.heap L ∧ FrameEnd U o U' L ({ frames := 1, cells := 0, slots := 0, locals := 12 } : Room).cells ({ frames := 1, cells := 0, slots := 0, locals := 12 } : Room).slots) := by
  refine MetFree.of_bodySF (plainFor_of_name pn_8) hisR ?_
  intro p e s m args below meth c s₁ Bd hml0 hP hK
  obtain ⟨rfl, hZ, hh⟩ := hP
  have hx := Bd.exec
  have hby := Bd.bytes
  have hml : c.maxLocals = 2 := hml0
  have hown : s.vm.findClass "java/util/Optional" = some m.cls := findClass_of_methodNamed Bd.named
  have hnm := (name_of_methodNamed Bd.named Bd.method).1
  have X0 : Stand p l e ({ frames := 1, cells := 0, slots := 0, locals := 12 } : Room) s m #[(.ref a), (.ref b)] below meth c s₁ [] 0 0 := Stand.of_body Bd
  have e0 : s₁.heap = h0 := by rw [← hh, Bd.state]; rfl
  have N0 := Fr.nil n0
  refine Go.enter (F := EndN s (Q_rmOinit Z a b h0 n0) ({ frames := 1, cells := 0, slots := 0, locals := 12 } : Room).cells ({ frames := 1, cells := 0, slots := 0, locals := 12 } : Room).slots) (ef_20 m a b) ?_
  show Go _ _ _ _ s₁ (mkF m 0 #[.val (.ref a), .val (.ref b)] [])
  refine Go.by (fun _ gk => XS.aloadN X0.here hx rfl (hb hby d7_0) rfl rfl gk) ?_
  show Go _ _ _ _ s₁ (mkF m 1 #[.val (.ref a), .val (.ref b)] [(.ref a)])
  obtain ⟨T1, X1, e1, st1⟩ := initO X0 hx hZ hown (hw _ (List.mem_of_getElem? (i := 58) rfl)) (hw _ (List.mem_of_getElem? (i := 59) rfl)) (hw _ (List.mem_of_getElem? (i := 60) rfl)) e0 (g := (mkF m 1 #[.val (.ref a), .val (.ref b)] [(.ref a)])) rfl (by rw [hml]; rfl) rfl (hb hby d7_1) (by decide) (W := 0) (by show 2 * 0 + _ ≤ _; exact Nat.le_of_eq rfl) (by decide)
  refine Go.by st1 ?_
  show Go _ _ _ _ T1 (mkF m 4 #[.val (.ref a), .val (.ref b)] [])
  refine Go.by (fun _ gk => XS.aloadN X1.here hx rfl (hb hby d7_4) rfl rfl gk) ?_
  show Go _ _ _ _ T1 (mkF m 5 #[.val (.ref a), .val (.ref b)] [(.ref a)])
  refine Go.by (fun _ gk => XS.aloadN X1.here hx rfl (hb hby d7_5) rfl rfl gk) ?_
  show Go _ _ _ _ T1 (mkF m 6 #[.val (.ref a), .val (.ref b)] [(.ref b), (.ref a)])
  obtain ⟨T2, h2, X2, e2, W2, st2⟩ := putF X1 hx hZ hown (host := "") (Or.inl (hw _ (List.mem_of_getElem? (i := 41) rfl))) Via.refl e1 F_a_value E_a (Or.inr ⟨(hw _ (List.mem_of_getElem? (i := 42) rfl)), rfl, hnm⟩) (hw _ (List.mem_of_getElem? (i := 49) rfl)) (ty := (.object "java/lang/Object")) (by decide) rfl rfl (g := (mkF m 6 #[.val (.ref a), .val (.ref b)] [(.ref b), (.ref a)])) rfl rfl (hb hby d7_6)
  have N2 := Fr.snoc X2 N0 g_a
  have Fw2 : Fld Z h2 a "java/util/Optional" "value" "Ljava/lang/Object;" (.ref b) := F_a_value.same W2
  refine Go.by st2 ?_
  show Go _ _ _ _ T2 (mkF m 9 #[.val (.ref a), .val (.ref b)] [])
  have F3 : Keep h0 h2 [a] := (Keep.refl h0 [a]).wr W2 (Or.inl (List.mem_of_getElem? (i := 0) rfl))
  have F4 : Exa Z h2 a "java/util/Optional" := E_a.wr W2
  exact Go.retV X2 hx Bd.notSynchronized Bd.returns (hb hby d7_9) (by rw [e2]; exact ⟨rfl, N2, F3, F4, Fw2⟩) (by decide) (by decide)
theorem d5_0 : decode jdk_32_method_3_code 0 = .ok (.new 2, 3) := by decide +kernel
theorem d5_3 : decode jdk_32_method_3_code 3 = .ok (.dup, 1) := by decide +kernel
theorem d5_4 : decode jdk_32_method_3_code 4 = .ok (.aload_n 0, 1) := by decide +kernel
theorem pd_30 : parseMethodDescriptor "(Ljava/lang/Object;)Ljava/lang/Object;" = some ⟨[(.object "java/lang/Object")], some (.object "java/lang/Object")⟩ := by decide +kernel
theorem d5_5 : decode jdk_32_method_3_code 5 = .ok (.invokestatic 17, 3) := by decide +kernel
theorem pd_32 : parseMethodDescriptor "(Ljava/lang/Object;)V" = some ⟨[(.object "java/lang/Object")], none⟩ := by decide +kernel
theorem d5_8 : decode jdk_32_method_3_code 8 = .ok (.invokespecial 23, 3) := by decide +kernel
theorem d5_11 : decode jdk_32_method_3_code 11 = .ok (.areturn, 1) := by decide +kernel
def Q_rmOf (Z : State) (a : Addr) (h0 : Heap) (n0 : Nat) (v : Option Value) (h : Heap) (L : List Loc) : Prop := ∃ o : Addr, v = some (.ref o) ∧ Fr n0 L ∧ Keep h0 h [] ∧ Exa Z h o "java/util/Optional" ∧ Fld Z h o "java/util/Optional" "value" "Ljava/lang/Object;" (.ref a) ∧ h0.size ≤ o
set_option maxRecDepth 65536 in
set_option maxHeartbeats 40000000 in
theorem rmOf (l : Launch) (Z : State) (a0 : Array Value) (hw : ∀ d ∈ tables_1, d.before a0 Z = true) (ws : List Jvm.Cond) (a : Addr) (h0 : Heap) (n0 : Nat) (Z0 : n0 ≤ h0.size)  :
    MetFree l (⟨"java/util/Optional", "of", "(Ljava/lang/Object;)Ljava/util/Optional;"⟩ : MethodName) (head1 (Jvm.Cond.code (⟨"java/util/Optional", "of", "(Ljava/lang/Object;)Ljava/util/Optional;"⟩ : MethodName) jdk_32_method_3_code 1 (some (.object "java/util/Optional")) :: ws) ({ frames := 2, cells := 1, slots := 1, locals := 26 } : Room)) (fun as' U => as' = #[(.ref a)] ∧ Z.Warmed39 U.vm ∧ U.heap = h0) (fun _ _ _ _ _ => True) (fun _ U o U' => ∃ v L, o = .returned v ∧ Q_rmOf Z a h0 n0 v U'.heap L ∧ FrameEnd U o U' L ({ frames := 2, cells := 1, slots := 1, locals := 26 } : Room).cells ({ frames := 2, cells := 1, slots := 1, locals := 26 } : Room).slots) := by
  refine MetFree.of_bodySF (plainFor_of_name pn_8) hisR ?_
  intro p e s m args below meth c s₁ Bd hml0 hP hK
  obtain ⟨rfl, hZ, hh⟩ := hP
  have hx := Bd.exec
  have hby := Bd.bytes
  have hml : c.maxLocals = 1 := hml0
  have hown : s.vm.findClass "java/util/Optional" = some m.cls := findClass_of_methodNamed Bd.named
  have hnm := (name_of_methodNamed Bd.named Bd.method).1
  have X0 : Stand p l e ({ frames := 2, cells := 1, slots := 1, locals := 26 } : Room) s m #[(.ref a)] below meth c s₁ [] 0 0 := Stand.of_body Bd
  have e0 : s₁.heap = h0 := by rw [← hh, Bd.state]; rfl
  have N0 := Fr.nil n0
  refine Go.enter (F := EndN s (Q_rmOf Z a h0 n0) ({ frames := 2, cells := 1, slots := 1, locals := 26 } : Room).cells ({ frames := 2, cells := 1, slots := 1, locals := 26 } : Room).slots) (ef_15 m a) ?_
  show Go _ _ _ _ s₁ (mkF m 0 #[.val (.ref a)] [])
  obtain ⟨o, g1⟩ : ∃ z, z = h0.size := ⟨_, rfl⟩
  have ge_o : n0 ≤ o := Nat.le_trans Z0 (Nat.le_of_eq g1.symm)
  have sz_o : h0.size ≤ o := Nat.le_trans (Keep.refl h0 []).1 (Nat.le_of_eq g1.symm)
  obtain ⟨T1, h1, X1, e1, E1, A1, D1, -, st1⟩ := newO X0 hx hZ hown (hw _ (List.mem_of_getElem? (i := 48) rfl)) (hw _ (List.mem_of_getElem? (i := 49) rfl)) (hw _ (List.mem_of_getElem? (i := 33) rfl)) e0 (g := (mkF m 0 #[.val (.ref a)] [])) rfl (hb hby d5_0) (by decide) (by decide)
  rw [← g1] at A1 D1 st1
  have F_value_o : Fld Z h1 o "java/util/Optional" "value" "Ljava/lang/Object;" .null := D1 (Or.inr (hw _ (List.mem_of_getElem? (i := 42) rfl))) (ty := (.object "java/lang/Object")) (by decide)
  refine Go.by st1 ?_
  show Go _ _ _ _ T1 (mkF m 3 #[.val (.ref a)] [(.ref o)])
  refine Go.by (fun _ gk => XS.dup X1.here hx rfl (hb hby d5_3) rfl rfl gk) ?_
  show Go _ _ _ _ T1 (mkF m 4 #[.val (.ref a)] [(.ref o), (.ref o)])
  refine Go.by (fun _ gk => XS.aloadN X1.here hx rfl (hb hby d5_4) rfl rfl gk) ?_
  show Go _ _ _ _ T1 (mkF m 5 #[.val (.ref a)] [(.ref a), (.ref o), (.ref o)])
  have F2 : n0 ≤ h1.size := Nat.le_trans Z0 E1.1
  obtain ⟨_, _, ⟨T3, L3, k3, n3⟩, -, X3, ⟨Lc3, hQ3, l3, y3, z3⟩, st3⟩ := Jvm.LawKit.callS X1 hx (y := (⟨"java/util/Objects", "requireNonNull", "(Ljava/lang/Object;)Ljava/lang/Object;"⟩ : MethodName)) hown (mvT hZ (hw _ (List.mem_of_getElem? (i := 50) rfl))) (mvT hZ (hw _ (List.mem_of_getElem? (i := 51) rfl))) (mvT hZ (hw _ (List.mem_of_getElem? (i := 52) rfl))) (mvT hZ (hw _ (List.mem_of_getElem? (i := 53) rfl))) (by decide) (backOf (W := 2) (rmRnn l Z a0 hw [] a h1 n0 F2 ) hZ (hw _ (List.mem_of_getElem? (i := 53) rfl)) (hw _ (List.mem_of_getElem? (i := 52) rfl)) (by decide) (by decide)) (g := (mkF m 5 #[.val (.ref a)] [(.ref a), (.ref o), (.ref o)])) rfl (by rw [hml]; rfl) (argsL := [(.ref a)]) (rest := [(.ref o), (.ref o)]) (lenOf pd_30 rfl) rfl (by show 2 * 0 + _ ≤ _; exact Nat.le_of_eq rfl) (hb hby d5_5) (fun _ _ => ⟨rfl, e1, (by decide : 1 + 0 ≤ _), (by decide : 1 + 0 ≤ _)⟩)
  dsimp only [Pt.U, Pt.locs, Pt.cells, Pt.slots] at X3 l3 y3 z3 st3 hQ3
  subst l3 y3 z3
  obtain ⟨rfl, N3q, e3⟩ := hQ3
  have N3 := Fr.app N0 N3q
  refine Go.by st3 ?_
  show Go _ _ _ _ T3 (mkF m 8 #[.val (.ref a)] [(.ref a), (.ref o), (.ref o)])
  obtain ⟨_, _, ⟨T4, L4, k4, n4⟩, -, X4, ⟨Lc4, hQ4, l4, y4, z4⟩, st4⟩ := X3.specialBack hx (y := (⟨"java/util/Optional", "<init>", "(Ljava/lang/Object;)V"⟩ : MethodName)) rfl hown (mvT hZ (hw _ (List.mem_of_getElem? (i := 54) rfl))) (mvT hZ (hw _ (List.mem_of_getElem? (i := 55) rfl))) (mvT hZ (hw _ (List.mem_of_getElem? (i := 57) rfl))) (by decide) (backOf (W := 1) (rmOinit l Z a0 hw [] o a h1 n0 F2 A1 F_value_o ge_o) hZ (hw _ (List.mem_of_getElem? (i := 57) rfl)) (hw _ (List.mem_of_getElem? (i := 33) rfl)) (by decide) (by decide)) (g := (mkF m 8 #[.val (.ref a)] [(.ref a), (.ref o), (.ref o)])) rfl (by rw [hml]; rfl) (Steps.refl _) (a := o) (argsL := [(.ref a)]) (rest := [(.ref o)]) (lenOf pd_32 rfl) rfl (by show 2 * 0 + _ ≤ _; exact Nat.le_of_eq rfl) (hb hby d5_8) (fun _ _ => ⟨rfl, e3, (by decide : 1 + 0 ≤ _), (by decide : 1 + 0 ≤ _)⟩)
  dsimp only [Pt.U, Pt.locs, Pt.cells, Pt.slots] at X4 l4 y4 z4 st4 hQ4
  subst l4 y4 z4
  obtain ⟨rfl, N4q, K4, Q4_0, Q4_1⟩ := hQ4
  have N4 := Fr.app N3 N4q
  refine Go.to st4 ?_
  show Go _ _ _ _ T4 (mkF m 11 #[.val (.ref a)] [(.ref o)])
  have F5 : Keep h0 h1 [] := (Keep.refl h0 []).ext E1
  have F6 : Keep h0 T4.heap [] := F5.trans K4 (allS (Or.inr sz_o) all0)
  exact Go.retA X4 hx Bd.notSynchronized Bd.returns rfl rfl (hb hby d5_11) ⟨o, rfl, N4, F6, Q4_0, Q4_1, sz_o⟩ (by decide) (by decide)
theorem ef_35 (m : MethodId) (x0 : Addr) : entryFrame m #[(.ref x0), .null] 2 = mkF m 0 #[.val (.ref x0), .val .null] [] := by (first | (simp [entryFrame, mkF, argsToLocals, Value.category]; done) | rfl)
theorem d4_0 : decode jdk_32_method_15_code 0 = .ok (.aload_n 0, 1) := by decide +kernel
theorem d4_1 : decode jdk_32_method_15_code 1 = .ok (.getfield 13, 3) := by decide +kernel
theorem d4_4 : decode jdk_32_method_15_code 4 = .ok (.ifnull 10, 3) := by decide +kernel
theorem d4_7 : decode jdk_32_method_15_code 7 = .ok (.aload_n 0, 1) := by decide +kernel
theorem d4_8 : decode jdk_32_method_15_code 8 = .ok (.getfield 13, 3) := by decide +kernel
theorem d4_11 : decode jdk_32_method_15_code 11 = .ok (.goto 4, 3) := by decide +kernel
theorem d4_15 : decode jdk_32_method_15_code 15 = .ok (.areturn, 1) := by decide +kernel
def Q_rmOrElse (Z : State) (a : Addr) (b : Addr) (h0 : Heap) (n0 : Nat) (v : Option Value) (h : Heap) (L : List Loc) : Prop := v = some (.ref b) ∧ Fr n0 L ∧ h = h0
set_option maxRecDepth 65536 in
set_option maxHeartbeats 40000000 in
theorem rmOrElse (l : Launch) (Z : State) (a0 : Array Value) (hw : ∀ d ∈ tables_1, d.before a0 Z = true) (ws : List Jvm.Cond) (a : Addr) (b : Addr) (h0 : Heap) (n0 : Nat) (Z0 : n0 ≤ h0.size) (F_a_value : Fld Z h0 a "java/util/Optional" "value" "Ljava/lang/Object;" (.ref b)) :
    MetFree l (⟨"java/util/Optional", "orElse", "(Ljava/lang/Object;)Ljava/lang/Object;"⟩ : MethodName) (head1 (Jvm.Cond.code (⟨"java/util/Optional", "orElse", "(Ljava/lang/Object;)Ljava/lang/Object;"⟩ : MethodName) jdk_32_method_15_code 2 (some (.object "java/lang/Object")) :: ws) ({ frames := 0, cells := 0, slots := 0, locals := 0 } : Room)) (fun as' U => as' = #[(.ref a), .null] ∧ Z.Warmed39 U.vm ∧ U.heap = h0) (fun _ _ _ _ _ => True) (fun _ U o U' => ∃ v L, o = .returned v ∧ Q_rmOrElse Z a b h0 n0 v U'.heap L ∧ FrameEnd U o U' L ({ frames := 0, cells := 0, slots := 0, locals := 0 } : Room).cells ({ frames := 0, cells := 0, slots := 0, locals := 0 } : Room).slots) := by
  refine MetFree.of_bodySF (plainFor_of_name pn_8) hisR ?_
  intro p e s m args below meth c s₁ Bd hml0 hP hK
  obtain ⟨rfl, hZ, hh⟩ := hP
  have hx := Bd.exec
  have hby := Bd.bytes
  have hml : c.maxLocals = 2 := hml0
  have hown : s.vm.findClass "java/util/Optional" = some m.cls := findClass_of_methodNamed Bd.named
  have hnm := (name_of_methodNamed Bd.named Bd.method).1
  have X0 : Stand p l e ({ frames := 0, cells := 0, slots := 0, locals := 0 } : Room) s m #[(.ref a), .null] below meth c s₁ [] 0 0 := Stand.of_body Bd
  have e0 : s₁.heap = h0 := by rw [← hh, Bd.state]; rfl
  have N0 := Fr.nil n0
  refine Go.enter (F := EndN s (Q_rmOrElse Z a b h0 n0) ({ frames := 0, cells := 0, slots := 0, locals := 0 } : Room).cells ({ frames := 0, cells := 0, slots := 0, locals := 0 } : Room).slots) (ef_35 m a) ?_
  show Go _ _ _ _ s₁ (mkF m 0 #[.val (.ref a), .val .null] [])
  refine Go.by (fun _ gk => XS.aloadN X0.here hx rfl (hb hby d4_0) rfl rfl gk) ?_
  show Go _ _ _ _ s₁ (mkF m 1 #[.val (.ref a), .val .null] [(.ref a)])
  obtain ⟨T1, X1, e1, st1⟩ := getF X0 hx hZ hown (host := "") (Or.inl (hw _ (List.mem_of_getElem? (i := 41) rfl))) Via.refl e0 F_a_value (g := (mkF m 1 #[.val (.ref a), .val .null] [(.ref a)])) rfl rfl (hb hby d4_1)
  refine Go.by st1 ?_
  show Go _ _ _ _ T1 (mkF m 4 #[.val (.ref a), .val .null] [(.ref b)])
  refine Go.by (fun _ gk => XT.nullNo X1.here hx rfl (hb hby d4_4) rfl rfl nofun gk) ?_
  show Go _ _ _ _ T1 (mkF m 7 #[.val (.ref a), .val .null] [])
  refine Go.by (fun _ gk => XS.aloadN X1.here hx rfl (hb hby d4_7) rfl rfl gk) ?_
  show Go _ _ _ _ T1 (mkF m 8 #[.val (.ref a), .val .null] [(.ref a)])
  obtain ⟨T2, X2, e2, st2⟩ := getF X1 hx hZ hown (host := "") (Or.inl (hw _ (List.mem_of_getElem? (i := 41) rfl))) Via.refl e1 F_a_value (g := (mkF m 8 #[.val (.ref a), .val .null] [(.ref a)])) rfl rfl (hb hby d4_8)
  refine Go.by st2 ?_
  show Go _ _ _ _ T2 (mkF m 11 #[.val (.ref a), .val .null] [(.ref b)])
  refine Go.by (fun _ gk => XS.goto X2.here hx rfl (pc0 := 11) (pc' := 15) rfl (hb hby d4_11) (by decide) (by decide) gk) ?_
  show Go _ _ _ _ T2 (mkF m 15 #[.val (.ref a), .val .null] [(.ref b)])
  exact Go.retA X2 hx Bd.notSynchronized Bd.returns rfl rfl (hb hby d4_15) (by rw [e2]; exact ⟨rfl, N0, rfl⟩) (by decide) (by decide)
theorem d4_14 : decode jdk_32_method_15_code 14 = .ok (.aload_n 1, 1) := by decide +kernel
def Q_rmOrElseN (Z : State) (a : Addr) (h0 : Heap) (n0 : Nat) (v : Option Value) (h : Heap) (L : List Loc) : Prop := v = some .null ∧ Fr n0 L ∧ h = h0
set_option maxRecDepth 65536 in
set_option maxHeartbeats 40000000 in
theorem rmOrElseN (l : Launch) (Z : State) (a0 : Array Value) (hw : ∀ d ∈ tables_1, d.before a0 Z = true) (ws : List Jvm.Cond) (a : Addr) (h0 : Heap) (n0 : Nat) (Z0 : n0 ≤ h0.size) (F_a_value : Fld Z h0 a "java/util/Optional" "value" "Ljava/lang/Object;" .null) :
    MetFree l (⟨"java/util/Optional", "orElse", "(Ljava/lang/Object;)Ljava/lang/Object;"⟩ : MethodName) (head1 (Jvm.Cond.code (⟨"java/util/Optional", "orElse", "(Ljava/lang/Object;)Ljava/lang/Object;"⟩ : MethodName) jdk_32_method_15_code 2 (some (.object "java/lang/Object")) :: ws) ({ frames := 0, cells := 0, slots := 0, locals := 0 } : Room)) (fun as' U => as' = #[(.ref a), .null] ∧ Z.Warmed39 U.vm ∧ U.heap = h0) (fun _ _ _ _ _ => True) (fun _ U o U' => ∃ v L, o = .returned v ∧ Q_rmOrElseN Z a h0 n0 v U'.heap L ∧ FrameEnd U o U' L ({ frames := 0, cells := 0, slots := 0, locals := 0 } : Room).cells ({ frames := 0, cells := 0, slots := 0, locals := 0 } : Room).slots) := by
  refine MetFree.of_bodySF (plainFor_of_name pn_8) hisR ?_
  intro p e s m args below meth c s₁ Bd hml0 hP hK
  obtain ⟨rfl, hZ, hh⟩ := hP
  have hx := Bd.exec
  have hby := Bd.bytes
  have hml : c.maxLocals = 2 := hml0
  have hown : s.vm.findClass "java/util/Optional" = some m.cls := findClass_of_methodNamed Bd.named
  have hnm := (name_of_methodNamed Bd.named Bd.method).1
  have X0 : Stand p l e ({ frames := 0, cells := 0, slots := 0, locals := 0 } : Room) s m #[(.ref a), .null] below meth c s₁ [] 0 0 := Stand.of_body Bd
  have e0 : s₁.heap = h0 := by rw [← hh, Bd.state]; rfl
  have N0 := Fr.nil n0
  refine Go.enter (F := EndN s (Q_rmOrElseN Z a h0 n0) ({ frames := 0, cells := 0, slots := 0, locals := 0 } : Room).cells ({ frames := 0, cells := 0, slots := 0, locals := 0 } : Room).slots) (ef_35 m a) ?_
  show Go _ _ _ _ s₁ (mkF m 0 #[.val (.ref a), .val .null] [])
  refine Go.by (fun _ gk => XS.aloadN X0.here hx rfl (hb hby d4_0) rfl rfl gk) ?_
  show Go _ _ _ _ s₁ (mkF m 1 #[.val (.ref a), .val .null] [(.ref a)])
  obtain ⟨T1, X1, e1, st1⟩ := getF X0 hx hZ hown (host := "") (Or.inl (hw _ (List.mem_of_getElem? (i := 41) rfl))) Via.refl e0 F_a_value (g := (mkF m 1 #[.val (.ref a), .val .null] [(.ref a)])) rfl rfl (hb hby d4_1)
  refine Go.by st1 ?_
  show Go _ _ _ _ T1 (mkF m 4 #[.val (.ref a), .val .null] [.null])
  refine Go.by (fun _ gk => XT.nullYes X1.here hx rfl (pc0 := 4) (pc' := 14) rfl (hb hby d4_4) rfl rfl (by decide) (by decide) gk) ?_
  show Go _ _ _ _ T1 (mkF m 14 #[.val (.ref a), .val .null] [])
  refine Go.by (fun _ gk => XS.aloadN X1.here hx rfl (hb hby d4_14) rfl rfl gk) ?_
  show Go _ _ _ _ T1 (mkF m 15 #[.val (.ref a), .val .null] [.null])
  exact Go.retA X1 hx Bd.notSynchronized Bd.returns rfl rfl (hb hby d4_15) (by rw [e1]; exact ⟨rfl, N0, rfl⟩) (by decide) (by decide)
theorem ef_44 (m : MethodId) (x0 : Addr) : entryFrame m #[(.ref x0)] 5 = mkF m 0 #[.val (.ref x0), .unset, .unset, .unset, .unset] [] := by (first | (simp [entryFrame, mkF, argsToLocals, Value.category]; done) | rfl)
theorem pd_45 : parseMethodDescriptor "()[Lcom/example/diligent_tariff/diligenttariff/billing/Determinant;" = some ⟨[], some (.array (.object "com/example/diligent_tariff/diligenttariff/billing/Determinant"))⟩ := by decide +kernel
theorem d1_0 : decode prog_6_method_4_code 0 = .ok (.invokestatic 39, 3) := by decide +kernel
theorem d1_3 : decode prog_6_method_4_code 3 = .ok (.astore_n 1, 1) := by decide +kernel
theorem d1_4 : decode prog_6_method_4_code 4 = .ok (.aload_n 1, 1) := by decide +kernel
theorem d1_5 : decode prog_6_method_4_code 5 = .ok (.arraylength, 1) := by decide +kernel
theorem d1_6 : decode prog_6_method_4_code 6 = .ok (.istore_n 2, 1) := by decide +kernel
theorem d1_7 : decode prog_6_method_4_code 7 = .ok (.iconst 0, 1) := by decide +kernel
theorem d1_8 : decode prog_6_method_4_code 8 = .ok (.istore_n 3, 1) := by decide +kernel
theorem d1_9 : decode prog_6_method_4_code 9 = .ok (.iload_n 3, 1) := by decide +kernel
theorem d1_10 : decode prog_6_method_4_code 10 = .ok (.iload_n 2, 1) := by decide +kernel
theorem d1_11 : decode prog_6_method_4_code 11 = .ok (.if_icmp .ge 29, 3) := by decide +kernel
theorem d1_14 : decode prog_6_method_4_code 14 = .ok (.aload_n 1, 1) := by decide +kernel
theorem d1_15 : decode prog_6_method_4_code 15 = .ok (.iload_n 3, 1) := by decide +kernel
theorem d1_16 : decode prog_6_method_4_code 16 = .ok (.aaload, 1) := by decide +kernel
theorem d1_17 : decode prog_6_method_4_code 17 = .ok (.astore 4, 2) := by decide +kernel
theorem d1_19 : decode prog_6_method_4_code 19 = .ok (.aload 4, 2) := by decide +kernel
theorem d1_21 : decode prog_6_method_4_code 21 = .ok (.getfield 35, 3) := by decide +kernel
theorem d1_24 : decode prog_6_method_4_code 24 = .ok (.aload_n 0, 1) := by decide +kernel
theorem d1_25 : decode prog_6_method_4_code 25 = .ok (.if_acmp .ne 9, 3) := by decide +kernel
theorem d1_34 : decode prog_6_method_4_code 34 = .ok (.iinc 3 1, 3) := by decide +kernel
theorem d1_37 : decode prog_6_method_4_code 37 = .ok (.goto (-28), 3) := by decide +kernel
theorem pd_66 : parseMethodDescriptor "()Ljava/util/Optional;" = some ⟨[], some (.object "java/util/Optional")⟩ := by decide +kernel
theorem d1_40 : decode prog_6_method_4_code 40 = .ok (.invokestatic 49, 3) := by decide +kernel
theorem d1_43 : decode prog_6_method_4_code 43 = .ok (.areturn, 1) := by decide +kernel
def Q_rmGiving_MONTH (Z : State) (u_MONTH : Addr) (u_BILL : Addr) (u_KWH : Addr) (u_KW : Addr) (u_KVA : Addr) (d_KW : Addr) (d_KVA : Addr) (d_PHASE : Addr) (d_INTERVALS : Addr) (va : Addr) (kv : ClassId) (em : Addr) (h0 : Heap) (n0 : Nat) (v : Option Value) (h : Heap) (L : List Loc) : Prop := v = some (.ref em) ∧ Fr n0 L ∧ Keep h0 h []
set_option maxRecDepth 65536 in
set_option maxHeartbeats 40000000 in
theorem rmGiving_MONTH (l : Launch) (Z : State) (a0 : Array Value) (hw : ∀ d ∈ tables_1, d.before a0 Z = true) (ws : List Jvm.Cond) (u_MONTH : Addr) (u_BILL : Addr) (u_KWH : Addr) (u_KW : Addr) (u_KVA : Addr) (d_KW : Addr) (d_KVA : Addr) (d_PHASE : Addr) (d_INTERVALS : Addr) (va : Addr) (kv : ClassId) (em : Addr) (h0 : Heap) (n0 : Nat) (Z0 : n0 ≤ h0.size) (O0 : Old Z n0 h0) (S_u_MONTH : Sta Z Z.heap "com/example/diligent_tariff/diligenttariff/book/Unit" "MONTH" "Lcom/example/diligent_tariff/diligenttariff/book/Unit;" (.ref u_MONTH)) (E_u_MONTH : Exa Z Z.heap u_MONTH "com/example/diligent_tariff/diligenttariff/book/Unit") (O_u_MONTH : Fld Z Z.heap u_MONTH "java/lang/Enum" "ordinal" "I" (.int 0)) (S_u_BILL : Sta Z Z.heap "com/example/diligent_tariff/diligenttariff/book/Unit" "BILL" "Lcom/example/diligent_tariff/diligenttariff/book/Unit;" (.ref u_BILL)) (E_u_BILL : Exa Z Z.heap u_BILL "com/example/diligent_tariff/diligenttariff/book/Unit") (O_u_BILL : Fld Z Z.heap u_BILL "java/lang/Enum" "ordinal" "I" (.int 1)) (S_u_KWH : Sta Z Z.heap "com/example/diligent_tariff/diligenttariff/book/Unit" "KWH" "Lcom/example/diligent_tariff/diligenttariff/book/Unit;" (.ref u_KWH)) (E_u_KWH : Exa Z Z.heap u_KWH "com/example/diligent_tariff/diligenttariff/book/Unit") (O_u_KWH : Fld Z Z.heap u_KWH "java/lang/Enum" "ordinal" "I" (.int 2)) (S_u_KW : Sta Z Z.heap "com/example/diligent_tariff/diligenttariff/book/Unit" "KW" "Lcom/example/diligent_tariff/diligenttariff/book/Unit;" (.ref u_KW)) (E_u_KW : Exa Z Z.heap u_KW "com/example/diligent_tariff/diligenttariff/book/Unit") (O_u_KW : Fld Z Z.heap u_KW "java/lang/Enum" "ordinal" "I" (.int 3)) (S_u_KVA : Sta Z Z.heap "com/example/diligent_tariff/diligenttariff/book/Unit" "KVA" "Lcom/example/diligent_tariff/diligenttariff/book/Unit;" (.ref u_KVA)) (E_u_KVA : Exa Z Z.heap u_KVA "com/example/diligent_tariff/diligenttariff/book/Unit") (O_u_KVA : Fld Z Z.heap u_KVA "java/lang/Enum" "ordinal" "I" (.int 4)) (D0 : Sta Z Z.heap "com/example/diligent_tariff/diligenttariff/billing/Determinant" "KW" "Lcom/example/diligent_tariff/diligenttariff/billing/Determinant;" (.ref d_KW)) (D1 : Sta Z Z.heap "com/example/diligent_tariff/diligenttariff/billing/Determinant" "KVA" "Lcom/example/diligent_tariff/diligenttariff/billing/Determinant;" (.ref d_KVA)) (D2 : Sta Z Z.heap "com/example/diligent_tariff/diligenttariff/billing/Determinant" "$VALUES" "[Lcom/example/diligent_tariff/diligenttariff/billing/Determinant;" (.ref va)) (D3 : Sta Z Z.heap "java/util/Optional" "EMPTY" "Ljava/util/Optional;" (.ref em)) (D4 : Arv Z Z.heap va kv (.object "com/example/diligent_tariff/diligenttariff/billing/Determinant") (4 : Int32) ([(.ref d_KW), (.ref d_KVA), (.ref d_PHASE), (.ref d_INTERVALS)]) .null) (D5 : Exa Z Z.heap va "[Lcom/example/diligent_tariff/diligenttariff/billing/Determinant;") (D6 : Exa Z Z.heap em "java/util/Optional") (D7 : Fld Z Z.heap em "java/util/Optional" "value" "Ljava/lang/Object;" .null) (D8 : Exa Z Z.heap d_KW "com/example/diligent_tariff/diligenttariff/billing/Determinant") (D9 : Exa Z Z.heap d_KVA "com/example/diligent_tariff/diligenttariff/billing/Determinant") (D10 : Exa Z Z.heap d_PHASE "com/example/diligent_tariff/diligenttariff/billing/Determinant") (D11 : Exa Z Z.heap d_INTERVALS "com/example/diligent_tariff/diligenttariff/billing/Determinant") (D12 : Fld Z Z.heap d_KW "com/example/diligent_tariff/diligenttariff/billing/Determinant" "unit" "Lcom/example/diligent_tariff/diligenttariff/book/Unit;" (.ref u_KW)) (D13 : Fld Z Z.heap d_KVA "com/example/diligent_tariff/diligenttariff/billing/Determinant" "unit" "Lcom/example/diligent_tariff/diligenttariff/book/Unit;" (.ref u_KVA)) (D14 : Fld Z Z.heap d_PHASE "com/example/diligent_tariff/diligenttariff/billing/Determinant" "unit" "Lcom/example/diligent_tariff/diligenttariff/book/Unit;" .null) (D15 : Fld Z Z.heap d_INTERVALS "com/example/diligent_tariff/diligenttariff/billing/Determinant" "unit" "Lcom/example/diligent_tariff/diligenttariff/book/Unit;" .null) :
    MetFree l (⟨"com/example/diligent_tariff/diligenttariff/billing/Determinant", "giving", "(Lcom/example/diligent_tariff/diligenttariff/book/Unit;)Ljava/util/Optional;"⟩ : MethodName) (head1 (Jvm.Cond.code (⟨"com/example/diligent_tariff/diligenttariff/billing/Determinant", "giving", "(Lcom/example/diligent_tariff/diligenttariff/book/Unit;)Ljava/util/Optional;"⟩ : MethodName) prog_6_method_4_code 5 (some (.object "java/util/Optional")) :: ws) ({ frames := 2, cells := 1, slots := 4, locals := 25 } : Room)) (fun as' U => as' = #[(.ref u_MONTH)] ∧ Z.Warmed39 U.vm ∧ U.heap = h0) (fun _ _ _ _ _ => True) (fun _ U o U' => ∃ v L, o = .returned v ∧ Q_rmGiving_MONTH Z u_MONTH u_BILL u_KWH u_KW u_KVA d_KW d_KVA d_PHASE d_INTERVALS va kv em h0 n0 v U'.heap L ∧ FrameEnd U o U' L ({ frames := 2, cells := 1, slots := 4, locals := 25 } : Room).cells ({ frames := 2, cells := 1, slots := 4, locals := 25 } : Room).slots) := by
  refine MetFree.of_bodySF (plainFor_of_name pn_2) hisR ?_
  intro p e s m args below meth c s₁ Bd hml0 hP hK
  obtain ⟨rfl, hZ, hh⟩ := hP
  have hx := Bd.exec
  have hby := Bd.bytes
  have hml : c.maxLocals = 5 := hml0
  have hown : s.vm.findClass "com/example/diligent_tariff/diligenttariff/billing/Determinant" = some m.cls := findClass_of_methodNamed Bd.named
  have hnm := (name_of_methodNamed Bd.named Bd.method).1
  have X0 : Stand p l e ({ frames := 2, cells := 1, slots := 4, locals := 25 } : Room) s m #[(.ref u_MONTH)] below meth c s₁ [] 0 0 := Stand.of_body Bd
  have e0 : s₁.heap = h0 := by rw [← hh, Bd.state]; rfl
  have N0 := Fr.nil n0
  refine Go.enter (F := EndN s (Q_rmGiving_MONTH Z u_MONTH u_BILL u_KWH u_KW u_KVA d_KW d_KVA d_PHASE d_INTERVALS va kv em h0 n0) ({ frames := 2, cells := 1, slots := 4, locals := 25 } : Room).cells ({ frames := 2, cells := 1, slots := 4, locals := 25 } : Room).slots) (ef_44 m u_MONTH) ?_
  show Go _ _ _ _ s₁ (mkF m 0 #[.val (.ref u_MONTH), .unset, .unset, .unset, .unset] [])
  obtain ⟨_, _, ⟨T1, L1, k1, n1⟩, -, X1, ⟨Lc1, hQ1, l1, y1, z1⟩, st1⟩ := Jvm.LawKit.callS X0 hx (y := (⟨"com/example/diligent_tariff/diligenttariff/billing/Determinant", "values", "()[Lcom/example/diligent_tariff/diligenttariff/billing/Determinant;"⟩ : MethodName)) hown (mvT hZ (hw _ (List.mem_of_getElem? (i := 8) rfl))) (mvT hZ (hw _ (List.mem_of_getElem? (i := 9) rfl))) (mvT hZ (hw _ (List.mem_of_getElem? (i := 6) rfl))) (mvT hZ (hw _ (List.mem_of_getElem? (i := 10) rfl))) (by decide) (backOf (W := 0) (rmValues l Z a0 hw [] u_MONTH u_BILL u_KWH u_KW u_KVA d_KW d_KVA d_PHASE d_INTERVALS va kv em h0 n0 Z0 O0 S_u_MONTH E_u_MONTH O_u_MONTH S_u_BILL E_u_BILL O_u_BILL S_u_KWH E_u_KWH O_u_KWH S_u_KW E_u_KW O_u_KW S_u_KVA E_u_KVA O_u_KVA D0 D1 D2 D3 D4 D5 D6 D7 D8 D9 D10 D11 D12 D13 D14 D15) hZ (hw _ (List.mem_of_getElem? (i := 10) rfl)) (hw _ (List.mem_of_getElem? (i := 6) rfl)) (by decide) (by decide)) (g := (mkF m 0 #[.val (.ref u_MONTH), .unset, .unset, .unset, .unset] [])) rfl (by rw [hml]; rfl) (argsL := []) (rest := []) (lenOf pd_45 rfl) rfl (by show 2 * 0 + _ ≤ _; exact Nat.le_of_eq rfl) (hb hby d1_0) (fun _ _ => ⟨rfl, e0, (by decide : 0 + 1 ≤ _), (by decide : 0 + 4 ≤ _)⟩)
  dsimp only [Pt.U, Pt.locs, Pt.cells, Pt.slots] at X1 l1 y1 z1 st1 hQ1
  subst l1 y1 z1
  obtain ⟨vb, rfl, N1q, K1, Q1_0, Q1_1, Q1_2⟩ := hQ1
  have N1 := Fr.app N0 N1q
  refine Go.by st1 ?_
  show Go _ _ _ _ T1 (mkF m 3 #[.val (.ref u_MONTH), .unset, .unset, .unset, .unset] [(.ref vb)])
  have ge_vb : n0 ≤ vb := Nat.le_trans Z0 Q1_2
  have sz_vb : h0.size ≤ vb := Nat.le_trans (Keep.refl h0 []).1 Q1_2
  refine Go.by (fun _ gk => XS.astoreN X1.here hx rfl (hb hby d1_3) rfl rfl (l' := #[.val (.ref u_MONTH), .val (.ref vb), .unset, .unset, .unset]) rfl gk) ?_
  show Go _ _ _ _ T1 (mkF m 4 #[.val (.ref u_MONTH), .val (.ref vb), .unset, .unset, .unset] [])
  refine Go.by (fun _ gk => XS.aloadN X1.here hx rfl (hb hby d1_4) rfl rfl gk) ?_
  show Go _ _ _ _ T1 (mkF m 5 #[.val (.ref u_MONTH), .val (.ref vb), .unset, .unset, .unset] [(.ref vb)])
  obtain ⟨cl2, Ar2, -, S2, M2, -, -⟩ := id Q1_0
  refine Go.by (fun _ gk => X1.arraylength hx (by exact Ar2.1) (State.isArrayOf_alike hZ.alike Ar2.2.1) (g := (mkF m 5 #[.val (.ref u_MONTH), .val (.ref vb), .unset, .unset, .unset] [(.ref vb)])) rfl rfl (hb hby d1_5) _ gk) ?_
  rw [len_of S2 M2]
  show Go _ _ _ _ T1 (mkF m 6 #[.val (.ref u_MONTH), .val (.ref vb), .unset, .unset, .unset] [(.int (4 : Int32))])
  refine Go.by (fun _ gk => XS.istoreN X1.here hx rfl (hb hby d1_6) rfl (l' := #[.val (.ref u_MONTH), .val (.ref vb), .val (.int (4 : Int32)), .unset, .unset]) rfl gk) ?_
  show Go _ _ _ _ T1 (mkF m 7 #[.val (.ref u_MONTH), .val (.ref vb), .val (.int (4 : Int32)), .unset, .unset] [])
  refine Go.by (fun _ gk => XT.iconstV X1.here hx rfl (0 : Int32) (hb hby d1_7) (by decide) gk) ?_
  show Go _ _ _ _ T1 (mkF m 8 #[.val (.ref u_MONTH), .val (.ref vb), .val (.int (4 : Int32)), .unset, .unset] [(.int (0 : Int32))])
  refine Go.by (fun _ gk => XS.istoreN X1.here hx rfl (hb hby d1_8) rfl (l' := #[.val (.ref u_MONTH), .val (.ref vb), .val (.int (4 : Int32)), .val (.int (0 : Int32)), .unset]) rfl gk) ?_
  show Go _ _ _ _ T1 (mkF m 9 #[.val (.ref u_MONTH), .val (.ref vb), .val (.int (4 : Int32)), .val (.int (0 : Int32)), .unset] [])
  refine Go.by (fun _ gk => XS.iloadN X1.here hx rfl (hb hby d1_9) rfl gk) ?_
  show Go _ _ _ _ T1 (mkF m 10 #[.val (.ref u_MONTH), .val (.ref vb), .val (.int (4 : Int32)), .val (.int (0 : Int32)), .unset] [(.int (0 : Int32))])
  refine Go.by (fun _ gk => XS.iloadN X1.here hx rfl (hb hby d1_10) rfl gk) ?_
  show Go _ _ _ _ T1 (mkF m 11 #[.val (.ref u_MONTH), .val (.ref vb), .val (.int (4 : Int32)), .val (.int (0 : Int32)), .unset] [(.int (4 : Int32)), (.int (0 : Int32))])
  refine Go.by (fun _ gk => XS.icmpNo X1.here hx rfl (hb hby d1_11) rfl (XT.ii_ge_f (by decide)) gk) ?_
  show Go _ _ _ _ T1 (mkF m 14 #[.val (.ref u_MONTH), .val (.ref vb), .val (.int (4 : Int32)), .val (.int (0 : Int32)), .unset] [])
  refine Go.by (fun _ gk => XS.aloadN X1.here hx rfl (hb hby d1_14) rfl rfl gk) ?_
  show Go _ _ _ _ T1 (mkF m 15 #[.val (.ref u_MONTH), .val (.ref vb), .val (.int (4 : Int32)), .val (.int (0 : Int32)), .unset] [(.ref vb)])
  refine Go.by (fun _ gk => XS.iloadN X1.here hx rfl (hb hby d1_15) rfl gk) ?_
  show Go _ _ _ _ T1 (mkF m 16 #[.val (.ref u_MONTH), .val (.ref vb), .val (.int (4 : Int32)), .val (.int (0 : Int32)), .unset] [(.int (0 : Int32)), (.ref vb)])
  obtain ⟨cl3, Ar3, -, S3, M3, H3, -⟩ := id Q1_0
  have hin3 : ¬ ((0 : Int32) < 0 ∨ cl3.slots.size ≤ (0 : Int32).toNatClampNeg) := inb_of S3 ⟨by decide, by decide⟩
  refine Go.by (fun _ gk => X1.aaload hx (j := (0 : Int32)) (v := (.ref d_KW)) (by exact Ar3.1) (State.isArrayOf_alike hZ.alike Ar3.2.1) rfl Ar3.2.2 hin3 (Has.at H3 hin3 rfl) (g := (mkF m 16 #[.val (.ref u_MONTH), .val (.ref vb), .val (.int (4 : Int32)), .val (.int (0 : Int32)), .unset] [(.int (0 : Int32)), (.ref vb)])) rfl rfl (hb hby d1_16) _ gk) ?_
  show Go _ _ _ _ T1 (mkF m 17 #[.val (.ref u_MONTH), .val (.ref vb), .val (.int (4 : Int32)), .val (.int (0 : Int32)), .unset] [(.ref d_KW)])
  refine Go.by (fun _ gk => XS.astore X1.here hx rfl (hb hby d1_17) rfl rfl (l' := #[.val (.ref u_MONTH), .val (.ref vb), .val (.int (4 : Int32)), .val (.int (0 : Int32)), .val (.ref d_KW)]) rfl gk) ?_
  show Go _ _ _ _ T1 (mkF m 19 #[.val (.ref u_MONTH), .val (.ref vb), .val (.int (4 : Int32)), .val (.int (0 : Int32)), .val (.ref d_KW)] [])
  refine Go.by (fun _ gk => XS.aload X1.here hx rfl (hb hby d1_19) rfl rfl gk) ?_
  show Go _ _ _ _ T1 (mkF m 21 #[.val (.ref u_MONTH), .val (.ref vb), .val (.int (4 : Int32)), .val (.int (0 : Int32)), .val (.ref d_KW)] [(.ref d_KW)])
  have F4 : Old Z n0 T1.heap := O0.keep K1 all0
  have F5 : Fld Z T1.heap d_KW "com/example/diligent_tariff/diligenttariff/billing/Determinant" "unit" "Lcom/example/diligent_tariff/diligenttariff/book/Unit;" (.ref u_KW) := D12.ext F4.2
  obtain ⟨T6, X6, e6, st6⟩ := getF X1 hx hZ hown (host := "") (Or.inl (hw _ (List.mem_of_getElem? (i := 27) rfl))) Via.refl rfl F5 (g := (mkF m 21 #[.val (.ref u_MONTH), .val (.ref vb), .val (.int (4 : Int32)), .val (.int (0 : Int32)), .val (.ref d_KW)] [(.ref d_KW)])) rfl rfl (hb hby d1_21)
  refine Go.by st6 ?_
  show Go _ _ _ _ T6 (mkF m 24 #[.val (.ref u_MONTH), .val (.ref vb), .val (.int (4 : Int32)), .val (.int (0 : Int32)), .val (.ref d_KW)] [(.ref u_KW)])
  refine Go.by (fun _ gk => XS.aloadN X6.here hx rfl (hb hby d1_24) rfl rfl gk) ?_
  show Go _ _ _ _ T6 (mkF m 25 #[.val (.ref u_MONTH), .val (.ref vb), .val (.int (4 : Int32)), .val (.int (0 : Int32)), .val (.ref d_KW)] [(.ref u_MONTH), (.ref u_KW)])
  refine Go.by (fun _ gk => XT.acmpYes X6.here hx rfl (pc0 := 25) (pc' := 34) rfl (hb hby d1_25) rfl rfl rfl (XT.aa_ne_t (fun q => (Fld.ne O_u_KW O_u_MONTH (by decide)) (Value.ref.inj q))) (by decide) (by decide) gk) ?_
  show Go _ _ _ _ T6 (mkF m 34 #[.val (.ref u_MONTH), .val (.ref vb), .val (.int (4 : Int32)), .val (.int (0 : Int32)), .val (.ref d_KW)] [])
  refine Go.by (fun _ gk => XT.iincV X6.here hx rfl (1 : Int32) (hb hby d1_34) (by decide) rfl (l' := #[.val (.ref u_MONTH), .val (.ref vb), .val (.int (4 : Int32)), .val (.int (1 : Int32)), .val (.ref d_KW)]) rfl gk) ?_
  show Go _ _ _ _ T6 (mkF m 37 #[.val (.ref u_MONTH), .val (.ref vb), .val (.int (4 : Int32)), .val (.int (1 : Int32)), .val (.ref d_KW)] [])
  refine Go.by (fun _ gk => XS.goto X6.here hx rfl (pc0 := 37) (pc' := 9) rfl (hb hby d1_37) (by decide) (by decide) gk) ?_
  show Go _ _ _ _ T6 (mkF m 9 #[.val (.ref u_MONTH), .val (.ref vb), .val (.int (4 : Int32)), .val (.int (1 : Int32)), .val (.ref d_KW)] [])
  refine Go.by (fun _ gk => XS.iloadN X6.here hx rfl (hb hby d1_9) rfl gk) ?_
  show Go _ _ _ _ T6 (mkF m 10 #[.val (.ref u_MONTH), .val (.ref vb), .val (.int (4 : Int32)), .val (.int (1 : Int32)), .val (.ref d_KW)] [(.int (1 : Int32))])
  refine Go.by (fun _ gk => XS.iloadN X6.here hx rfl (hb hby d1_10) rfl gk) ?_
  show Go _ _ _ _ T6 (mkF m 11 #[.val (.ref u_MONTH), .val (.ref vb), .val (.int (4 : Int32)), .val (.int (1 : Int32)), .val (.ref d_KW)] [(.int (4 : Int32)), (.int (1 : Int32))])
  refine Go.by (fun _ gk => XS.icmpNo X6.here hx rfl (hb hby d1_11) rfl (XT.ii_ge_f (by decide)) gk) ?_
  show Go _ _ _ _ T6 (mkF m 14 #[.val (.ref u_MONTH), .val (.ref vb), .val (.int (4 : Int32)), .val (.int (1 : Int32)), .val (.ref d_KW)] [])
  refine Go.by (fun _ gk => XS.aloadN X6.here hx rfl (hb hby d1_14) rfl rfl gk) ?_
  show Go _ _ _ _ T6 (mkF m 15 #[.val (.ref u_MONTH), .val (.ref vb), .val (.int (4 : Int32)), .val (.int (1 : Int32)), .val (.ref d_KW)] [(.ref vb)])
  refine Go.by (fun _ gk => XS.iloadN X6.here hx rfl (hb hby d1_15) rfl gk) ?_
  show Go _ _ _ _ T6 (mkF m 16 #[.val (.ref u_MONTH), .val (.ref vb), .val (.int (4 : Int32)), .val (.int (1 : Int32)), .val (.ref d_KW)] [(.int (1 : Int32)), (.ref vb)])
  obtain ⟨cl7, Ar7, -, S7, M7, H7, -⟩ := id Q1_0
  have hin7 : ¬ ((1 : Int32) < 0 ∨ cl7.slots.size ≤ (1 : Int32).toNatClampNeg) := inb_of S7 ⟨by decide, by decide⟩
  refine Go.by (fun _ gk => X6.aaload hx (j := (1 : Int32)) (v := (.ref d_KVA)) (by rw [e6]; exact Ar7.1) (State.isArrayOf_alike hZ.alike Ar7.2.1) rfl Ar7.2.2 hin7 (Has.at H7 hin7 rfl) (g := (mkF m 16 #[.val (.ref u_MONTH), .val (.ref vb), .val (.int (4 : Int32)), .val (.int (1 : Int32)), .val (.ref d_KW)] [(.int (1 : Int32)), (.ref vb)])) rfl rfl (hb hby d1_16) _ gk) ?_
  show Go _ _ _ _ T6 (mkF m 17 #[.val (.ref u_MONTH), .val (.ref vb), .val (.int (4 : Int32)), .val (.int (1 : Int32)), .val (.ref d_KW)] [(.ref d_KVA)])
  refine Go.by (fun _ gk => XS.astore X6.here hx rfl (hb hby d1_17) rfl rfl (l' := #[.val (.ref u_MONTH), .val (.ref vb), .val (.int (4 : Int32)), .val (.int (1 : Int32)), .val (.ref d_KVA)]) rfl gk) ?_
  show Go _ _ _ _ T6 (mkF m 19 #[.val (.ref u_MONTH), .val (.ref vb), .val (.int (4 : Int32)), .val (.int (1 : Int32)), .val (.ref d_KVA)] [])
  refine Go.by (fun _ gk => XS.aload X6.here hx rfl (hb hby d1_19) rfl rfl gk) ?_
  show Go _ _ _ _ T6 (mkF m 21 #[.val (.ref u_MONTH), .val (.ref vb), .val (.int (4 : Int32)), .val (.int (1 : Int32)), .val (.ref d_KVA)] [(.ref d_KVA)])
  have F8 : Fld Z T1.heap d_KVA "com/example/diligent_tariff/diligenttariff/billing/Determinant" "unit" "Lcom/example/diligent_tariff/diligenttariff/book/Unit;" (.ref u_KVA) := D13.ext F4.2
  obtain ⟨T9, X9, e9, st9⟩ := getF X6 hx hZ hown (host := "") (Or.inl (hw _ (List.mem_of_getElem? (i := 27) rfl))) Via.refl e6 F8 (g := (mkF m 21 #[.val (.ref u_MONTH), .val (.ref vb), .val (.int (4 : Int32)), .val (.int (1 : Int32)), .val (.ref d_KVA)] [(.ref d_KVA)])) rfl rfl (hb hby d1_21)
  refine Go.by st9 ?_
  show Go _ _ _ _ T9 (mkF m 24 #[.val (.ref u_MONTH), .val (.ref vb), .val (.int (4 : Int32)), .val (.int (1 : Int32)), .val (.ref d_KVA)] [(.ref u_KVA)])
  refine Go.by (fun _ gk => XS.aloadN X9.here hx rfl (hb hby d1_24) rfl rfl gk) ?_
  show Go _ _ _ _ T9 (mkF m 25 #[.val (.ref u_MONTH), .val (.ref vb), .val (.int (4 : Int32)), .val (.int (1 : Int32)), .val (.ref d_KVA)] [(.ref u_MONTH), (.ref u_KVA)])
  refine Go.by (fun _ gk => XT.acmpYes X9.here hx rfl (pc0 := 25) (pc' := 34) rfl (hb hby d1_25) rfl rfl rfl (XT.aa_ne_t (fun q => (Fld.ne O_u_KVA O_u_MONTH (by decide)) (Value.ref.inj q))) (by decide) (by decide) gk) ?_
  show Go _ _ _ _ T9 (mkF m 34 #[.val (.ref u_MONTH), .val (.ref vb), .val (.int (4 : Int32)), .val (.int (1 : Int32)), .val (.ref d_KVA)] [])
  refine Go.by (fun _ gk => XT.iincV X9.here hx rfl (1 : Int32) (hb hby d1_34) (by decide) rfl (l' := #[.val (.ref u_MONTH), .val (.ref vb), .val (.int (4 : Int32)), .val (.int (2 : Int32)), .val (.ref d_KVA)]) rfl gk) ?_
  show Go _ _ _ _ T9 (mkF m 37 #[.val (.ref u_MONTH), .val (.ref vb), .val (.int (4 : Int32)), .val (.int (2 : Int32)), .val (.ref d_KVA)] [])
  refine Go.by (fun _ gk => XS.goto X9.here hx rfl (pc0 := 37) (pc' := 9) rfl (hb hby d1_37) (by decide) (by decide) gk) ?_
  show Go _ _ _ _ T9 (mkF m 9 #[.val (.ref u_MONTH), .val (.ref vb), .val (.int (4 : Int32)), .val (.int (2 : Int32)), .val (.ref d_KVA)] [])
  refine Go.by (fun _ gk => XS.iloadN X9.here hx rfl (hb hby d1_9) rfl gk) ?_
  show Go _ _ _ _ T9 (mkF m 10 #[.val (.ref u_MONTH), .val (.ref vb), .val (.int (4 : Int32)), .val (.int (2 : Int32)), .val (.ref d_KVA)] [(.int (2 : Int32))])
  refine Go.by (fun _ gk => XS.iloadN X9.here hx rfl (hb hby d1_10) rfl gk) ?_
  show Go _ _ _ _ T9 (mkF m 11 #[.val (.ref u_MONTH), .val (.ref vb), .val (.int (4 : Int32)), .val (.int (2 : Int32)), .val (.ref d_KVA)] [(.int (4 : Int32)), (.int (2 : Int32))])
  refine Go.by (fun _ gk => XS.icmpNo X9.here hx rfl (hb hby d1_11) rfl (XT.ii_ge_f (by decide)) gk) ?_
  show Go _ _ _ _ T9 (mkF m 14 #[.val (.ref u_MONTH), .val (.ref vb), .val (.int (4 : Int32)), .val (.int (2 : Int32)), .val (.ref d_KVA)] [])
  refine Go.by (fun _ gk => XS.aloadN X9.here hx rfl (hb hby d1_14) rfl rfl gk) ?_
  show Go _ _ _ _ T9 (mkF m 15 #[.val (.ref u_MONTH), .val (.ref vb), .val (.int (4 : Int32)), .val (.int (2 : Int32)), .val (.ref d_KVA)] [(.ref vb)])
  refine Go.by (fun _ gk => XS.iloadN X9.here hx rfl (hb hby d1_15) rfl gk) ?_
  show Go _ _ _ _ T9 (mkF m 16 #[.val (.ref u_MONTH), .val (.ref vb), .val (.int (4 : Int32)), .val (.int (2 : Int32)), .val (.ref d_KVA)] [(.int (2 : Int32)), (.ref vb)])
  obtain ⟨cl10, Ar10, -, S10, M10, H10, -⟩ := id Q1_0
  have hin10 : ¬ ((2 : Int32) < 0 ∨ cl10.slots.size ≤ (2 : Int32).toNatClampNeg) := inb_of S10 ⟨by decide, by decide⟩
  refine Go.by (fun _ gk => X9.aaload hx (j := (2 : Int32)) (v := (.ref d_PHASE)) (by rw [e9]; exact Ar10.1) (State.isArrayOf_alike hZ.alike Ar10.2.1) rfl Ar10.2.2 hin10 (Has.at H10 hin10 rfl) (g := (mkF m 16 #[.val (.ref u_MONTH), .val (.ref vb), .val (.int (4 : Int32)), .val (.int (2 : Int32)), .val (.ref d_KVA)] [(.int (2 : Int32)), (.ref vb)])) rfl rfl (hb hby d1_16) _ gk) ?_
  show Go _ _ _ _ T9 (mkF m 17 #[.val (.ref u_MONTH), .val (.ref vb), .val (.int (4 : Int32)), .val (.int (2 : Int32)), .val (.ref d_KVA)] [(.ref d_PHASE)])
  refine Go.by (fun _ gk => XS.astore X9.here hx rfl (hb hby d1_17) rfl rfl (l' := #[.val (.ref u_MONTH), .val (.ref vb), .val (.int (4 : Int32)), .val (.int (2 : Int32)), .val (.ref d_PHASE)]) rfl gk) ?_
  show Go _ _ _ _ T9 (mkF m 19 #[.val (.ref u_MONTH), .val (.ref vb), .val (.int (4 : Int32)), .val (.int (2 : Int32)), .val (.ref d_PHASE)] [])
  refine Go.by (fun _ gk => XS.aload X9.here hx rfl (hb hby d1_19) rfl rfl gk) ?_
  show Go _ _ _ _ T9 (mkF m 21 #[.val (.ref u_MONTH), .val (.ref vb), .val (.int (4 : Int32)), .val (.int (2 : Int32)), .val (.ref d_PHASE)] [(.ref d_PHASE)])
  have F11 : Fld Z T1.heap d_PHASE "com/example/diligent_tariff/diligenttariff/billing/Determinant" "unit" "Lcom/example/diligent_tariff/diligenttariff/book/Unit;" .null := D14.ext F4.2
  obtain ⟨T12, X12, e12, st12⟩ := getF X9 hx hZ hown (host := "") (Or.inl (hw _ (List.mem_of_getElem? (i := 27) rfl))) Via.refl e9 F11 (g := (mkF m 21 #[.val (.ref u_MONTH), .val (.ref vb), .val (.int (4 : Int32)), .val (.int (2 : Int32)), .val (.ref d_PHASE)] [(.ref d_PHASE)])) rfl rfl (hb hby d1_21)
  refine Go.by st12 ?_
  show Go _ _ _ _ T12 (mkF m 24 #[.val (.ref u_MONTH), .val (.ref vb), .val (.int (4 : Int32)), .val (.int (2 : Int32)), .val (.ref d_PHASE)] [.null])
  refine Go.by (fun _ gk => XS.aloadN X12.here hx rfl (hb hby d1_24) rfl rfl gk) ?_
  show Go _ _ _ _ T12 (mkF m 25 #[.val (.ref u_MONTH), .val (.ref vb), .val (.int (4 : Int32)), .val (.int (2 : Int32)), .val (.ref d_PHASE)] [(.ref u_MONTH), .null])
  refine Go.by (fun _ gk => XT.acmpYes X12.here hx rfl (pc0 := 25) (pc' := 34) rfl (hb hby d1_25) rfl rfl rfl (XT.aa_ne_t nofun) (by decide) (by decide) gk) ?_
  show Go _ _ _ _ T12 (mkF m 34 #[.val (.ref u_MONTH), .val (.ref vb), .val (.int (4 : Int32)), .val (.int (2 : Int32)), .val (.ref d_PHASE)] [])
  refine Go.by (fun _ gk => XT.iincV X12.here hx rfl (1 : Int32) (hb hby d1_34) (by decide) rfl (l' := #[.val (.ref u_MONTH), .val (.ref vb), .val (.int (4 : Int32)), .val (.int (3 : Int32)), .val (.ref d_PHASE)]) rfl gk) ?_
  show Go _ _ _ _ T12 (mkF m 37 #[.val (.ref u_MONTH), .val (.ref vb), .val (.int (4 : Int32)), .val (.int (3 : Int32)), .val (.ref d_PHASE)] [])
  refine Go.by (fun _ gk => XS.goto X12.here hx rfl (pc0 := 37) (pc' := 9) rfl (hb hby d1_37) (by decide) (by decide) gk) ?_
  show Go _ _ _ _ T12 (mkF m 9 #[.val (.ref u_MONTH), .val (.ref vb), .val (.int (4 : Int32)), .val (.int (3 : Int32)), .val (.ref d_PHASE)] [])
  refine Go.by (fun _ gk => XS.iloadN X12.here hx rfl (hb hby d1_9) rfl gk) ?_
  show Go _ _ _ _ T12 (mkF m 10 #[.val (.ref u_MONTH), .val (.ref vb), .val (.int (4 : Int32)), .val (.int (3 : Int32)), .val (.ref d_PHASE)] [(.int (3 : Int32))])
  refine Go.by (fun _ gk => XS.iloadN X12.here hx rfl (hb hby d1_10) rfl gk) ?_
  show Go _ _ _ _ T12 (mkF m 11 #[.val (.ref u_MONTH), .val (.ref vb), .val (.int (4 : Int32)), .val (.int (3 : Int32)), .val (.ref d_PHASE)] [(.int (4 : Int32)), (.int (3 : Int32))])
  refine Go.by (fun _ gk => XS.icmpNo X12.here hx rfl (hb hby d1_11) rfl (XT.ii_ge_f (by decide)) gk) ?_
  show Go _ _ _ _ T12 (mkF m 14 #[.val (.ref u_MONTH), .val (.ref vb), .val (.int (4 : Int32)), .val (.int (3 : Int32)), .val (.ref d_PHASE)] [])
  refine Go.by (fun _ gk => XS.aloadN X12.here hx rfl (hb hby d1_14) rfl rfl gk) ?_
  show Go _ _ _ _ T12 (mkF m 15 #[.val (.ref u_MONTH), .val (.ref vb), .val (.int (4 : Int32)), .val (.int (3 : Int32)), .val (.ref d_PHASE)] [(.ref vb)])
  refine Go.by (fun _ gk => XS.iloadN X12.here hx rfl (hb hby d1_15) rfl gk) ?_
  show Go _ _ _ _ T12 (mkF m 16 #[.val (.ref u_MONTH), .val (.ref vb), .val (.int (4 : Int32)), .val (.int (3 : Int32)), .val (.ref d_PHASE)] [(.int (3 : Int32)), (.ref vb)])
  obtain ⟨cl13, Ar13, -, S13, M13, H13, -⟩ := id Q1_0
  have hin13 : ¬ ((3 : Int32) < 0 ∨ cl13.slots.size ≤ (3 : Int32).toNatClampNeg) := inb_of S13 ⟨by decide, by decide⟩
  refine Go.by (fun _ gk => X12.aaload hx (j := (3 : Int32)) (v := (.ref d_INTERVALS)) (by rw [e12]; exact Ar13.1) (State.isArrayOf_alike hZ.alike Ar13.2.1) rfl Ar13.2.2 hin13 (Has.at H13 hin13 rfl) (g := (mkF m 16 #[.val (.ref u_MONTH), .val (.ref vb), .val (.int (4 : Int32)), .val (.int (3 : Int32)), .val (.ref d_PHASE)] [(.int (3 : Int32)), (.ref vb)])) rfl rfl (hb hby d1_16) _ gk) ?_
  show Go _ _ _ _ T12 (mkF m 17 #[.val (.ref u_MONTH), .val (.ref vb), .val (.int (4 : Int32)), .val (.int (3 : Int32)), .val (.ref d_PHASE)] [(.ref d_INTERVALS)])
  refine Go.by (fun _ gk => XS.astore X12.here hx rfl (hb hby d1_17) rfl rfl (l' := #[.val (.ref u_MONTH), .val (.ref vb), .val (.int (4 : Int32)), .val (.int (3 : Int32)), .val (.ref d_INTERVALS)]) rfl gk) ?_
  show Go _ _ _ _ T12 (mkF m 19 #[.val (.ref u_MONTH), .val (.ref vb), .val (.int (4 : Int32)), .val (.int (3 : Int32)), .val (.ref d_INTERVALS)] [])
  refine Go.by (fun _ gk => XS.aload X12.here hx rfl (hb hby d1_19) rfl rfl gk) ?_
  show Go _ _ _ _ T12 (mkF m 21 #[.val (.ref u_MONTH), .val (.ref vb), .val (.int (4 : Int32)), .val (.int (3 : Int32)), .val (.ref d_INTERVALS)] [(.ref d_INTERVALS)])
  have F14 : Fld Z T1.heap d_INTERVALS "com/example/diligent_tariff/diligenttariff/billing/Determinant" "unit" "Lcom/example/diligent_tariff/diligenttariff/book/Unit;" .null := D15.ext F4.2
  obtain ⟨T15, X15, e15, st15⟩ := getF X12 hx hZ hown (host := "") (Or.inl (hw _ (List.mem_of_getElem? (i := 27) rfl))) Via.refl e12 F14 (g := (mkF m 21 #[.val (.ref u_MONTH), .val (.ref vb), .val (.int (4 : Int32)), .val (.int (3 : Int32)), .val (.ref d_INTERVALS)] [(.ref d_INTERVALS)])) rfl rfl (hb hby d1_21)
  refine Go.by st15 ?_
  show Go _ _ _ _ T15 (mkF m 24 #[.val (.ref u_MONTH), .val (.ref vb), .val (.int (4 : Int32)), .val (.int (3 : Int32)), .val (.ref d_INTERVALS)] [.null])
  refine Go.by (fun _ gk => XS.aloadN X15.here hx rfl (hb hby d1_24) rfl rfl gk) ?_
  show Go _ _ _ _ T15 (mkF m 25 #[.val (.ref u_MONTH), .val (.ref vb), .val (.int (4 : Int32)), .val (.int (3 : Int32)), .val (.ref d_INTERVALS)] [(.ref u_MONTH), .null])
  refine Go.by (fun _ gk => XT.acmpYes X15.here hx rfl (pc0 := 25) (pc' := 34) rfl (hb hby d1_25) rfl rfl rfl (XT.aa_ne_t nofun) (by decide) (by decide) gk) ?_
  show Go _ _ _ _ T15 (mkF m 34 #[.val (.ref u_MONTH), .val (.ref vb), .val (.int (4 : Int32)), .val (.int (3 : Int32)), .val (.ref d_INTERVALS)] [])
  refine Go.by (fun _ gk => XT.iincV X15.here hx rfl (1 : Int32) (hb hby d1_34) (by decide) rfl (l' := #[.val (.ref u_MONTH), .val (.ref vb), .val (.int (4 : Int32)), .val (.int (4 : Int32)), .val (.ref d_INTERVALS)]) rfl gk) ?_
  show Go _ _ _ _ T15 (mkF m 37 #[.val (.ref u_MONTH), .val (.ref vb), .val (.int (4 : Int32)), .val (.int (4 : Int32)), .val (.ref d_INTERVALS)] [])
  refine Go.by (fun _ gk => XS.goto X15.here hx rfl (pc0 := 37) (pc' := 9) rfl (hb hby d1_37) (by decide) (by decide) gk) ?_
  show Go _ _ _ _ T15 (mkF m 9 #[.val (.ref u_MONTH), .val (.ref vb), .val (.int (4 : Int32)), .val (.int (4 : Int32)), .val (.ref d_INTERVALS)] [])
  refine Go.by (fun _ gk => XS.iloadN X15.here hx rfl (hb hby d1_9) rfl gk) ?_
  show Go _ _ _ _ T15 (mkF m 10 #[.val (.ref u_MONTH), .val (.ref vb), .val (.int (4 : Int32)), .val (.int (4 : Int32)), .val (.ref d_INTERVALS)] [(.int (4 : Int32))])
  refine Go.by (fun _ gk => XS.iloadN X15.here hx rfl (hb hby d1_10) rfl gk) ?_
  show Go _ _ _ _ T15 (mkF m 11 #[.val (.ref u_MONTH), .val (.ref vb), .val (.int (4 : Int32)), .val (.int (4 : Int32)), .val (.ref d_INTERVALS)] [(.int (4 : Int32)), (.int (4 : Int32))])
  refine Go.by (fun _ gk => XS.icmpYes X15.here hx rfl (pc0 := 11) (pc' := 40) rfl (hb hby d1_11) rfl (XT.ii_ge_t (by decide)) (by decide) (by decide) gk) ?_
  show Go _ _ _ _ T15 (mkF m 40 #[.val (.ref u_MONTH), .val (.ref vb), .val (.int (4 : Int32)), .val (.int (4 : Int32)), .val (.ref d_INTERVALS)] [])
  have F16 : n0 ≤ T1.heap.size := Nat.le_trans Z0 K1.1
  obtain ⟨_, _, ⟨T17, L17, k17, n17⟩, -, X17, ⟨Lc17, hQ17, l17, y17, z17⟩, st17⟩ := Jvm.LawKit.callS X15 hx (y := (⟨"java/util/Optional", "empty", "()Ljava/util/Optional;"⟩ : MethodName)) hown (mvT hZ (hw _ (List.mem_of_getElem? (i := 31) rfl))) (mvT hZ (hw _ (List.mem_of_getElem? (i := 32) rfl))) (mvT hZ (hw _ (List.mem_of_getElem? (i := 33) rfl))) (mvT hZ (hw _ (List.mem_of_getElem? (i := 34) rfl))) (by decide) (backOf (W := 0) (rmEmpty l Z a0 hw [] u_MONTH u_BILL u_KWH u_KW u_KVA d_KW d_KVA d_PHASE d_INTERVALS va kv em T1.heap n0 F16 F4 S_u_MONTH E_u_MONTH O_u_MONTH S_u_BILL E_u_BILL O_u_BILL S_u_KWH E_u_KWH O_u_KWH S_u_KW E_u_KW O_u_KW S_u_KVA E_u_KVA O_u_KVA D0 D1 D2 D3 D4 D5 D6 D7 D8 D9 D10 D11 D12 D13 D14 D15) hZ (hw _ (List.mem_of_getElem? (i := 34) rfl)) (hw _ (List.mem_of_getElem? (i := 33) rfl)) (by decide) (by decide)) (g := (mkF m 40 #[.val (.ref u_MONTH), .val (.ref vb), .val (.int (4 : Int32)), .val (.int (4 : Int32)), .val (.ref d_INTERVALS)] [])) rfl (by rw [hml]; rfl) (argsL := []) (rest := []) (lenOf pd_66 rfl) rfl (by show 2 * 0 + _ ≤ _; exact Nat.le_of_eq rfl) (hb hby d1_40) (fun _ _ => ⟨rfl, e15, (by decide : 1 + 0 ≤ _), (by decide : 4 + 0 ≤ _)⟩)
  dsimp only [Pt.U, Pt.locs, Pt.cells, Pt.slots] at X17 l17 y17 z17 st17 hQ17
  subst l17 y17 z17
  obtain ⟨rfl, N17q, e17⟩ := hQ17
  have N17 := Fr.app N1 N17q
  refine Go.by st17 ?_
  show Go _ _ _ _ T17 (mkF m 43 #[.val (.ref u_MONTH), .val (.ref vb), .val (.int (4 : Int32)), .val (.int (4 : Int32)), .val (.ref d_INTERVALS)] [(.ref em)])
  have F18 : Keep h0 T1.heap [] := (Keep.refl h0 []).trans K1 all0
  exact Go.retA X17 hx Bd.notSynchronized Bd.returns rfl rfl (hb hby d1_43) (by rw [e17]; exact ⟨rfl, N17, F18⟩) (by decide) (by decide)
def Q_rmGiving_BILL (Z : State) (u_MONTH : Addr) (u_BILL : Addr) (u_KWH : Addr) (u_KW : Addr) (u_KVA : Addr) (d_KW : Addr) (d_KVA : Addr) (d_PHASE : Addr) (d_INTERVALS : Addr) (va : Addr) (kv : ClassId) (em : Addr) (h0 : Heap) (n0 : Nat) (v : Option Value) (h : Heap) (L : List Loc) : Prop := v = some (.ref em) ∧ Fr n0 L ∧ Keep h0 h []
set_option maxRecDepth 65536 in
set_option maxHeartbeats 40000000 in
theorem rmGiving_BILL (l : Launch) (Z : State) (a0 : Array Value) (hw : ∀ d ∈ tables_1, d.before a0 Z = true) (ws : List Jvm.Cond) (u_MONTH : Addr) (u_BILL : Addr) (u_KWH : Addr) (u_KW : Addr) (u_KVA : Addr) (d_KW : Addr) (d_KVA : Addr) (d_PHASE : Addr) (d_INTERVALS : Addr) (va : Addr) (kv : ClassId) (em : Addr) (h0 : Heap) (n0 : Nat) (Z0 : n0 ≤ h0.size) (O0 : Old Z n0 h0) (S_u_MONTH : Sta Z Z.heap "com/example/diligent_tariff/diligenttariff/book/Unit" "MONTH" "Lcom/example/diligent_tariff/diligenttariff/book/Unit;" (.ref u_MONTH)) (E_u_MONTH : Exa Z Z.heap u_MONTH "com/example/diligent_tariff/diligenttariff/book/Unit") (O_u_MONTH : Fld Z Z.heap u_MONTH "java/lang/Enum" "ordinal" "I" (.int 0)) (S_u_BILL : Sta Z Z.heap "com/example/diligent_tariff/diligenttariff/book/Unit" "BILL" "Lcom/example/diligent_tariff/diligenttariff/book/Unit;" (.ref u_BILL)) (E_u_BILL : Exa Z Z.heap u_BILL "com/example/diligent_tariff/diligenttariff/book/Unit") (O_u_BILL : Fld Z Z.heap u_BILL "java/lang/Enum" "ordinal" "I" (.int 1)) (S_u_KWH : Sta Z Z.heap "com/example/diligent_tariff/diligenttariff/book/Unit" "KWH" "Lcom/example/diligent_tariff/diligenttariff/book/Unit;" (.ref u_KWH)) (E_u_KWH : Exa Z Z.heap u_KWH "com/example/diligent_tariff/diligenttariff/book/Unit") (O_u_KWH : Fld Z Z.heap u_KWH "java/lang/Enum" "ordinal" "I" (.int 2)) (S_u_KW : Sta Z Z.heap "com/example/diligent_tariff/diligenttariff/book/Unit" "KW" "Lcom/example/diligent_tariff/diligenttariff/book/Unit;" (.ref u_KW)) (E_u_KW : Exa Z Z.heap u_KW "com/example/diligent_tariff/diligenttariff/book/Unit") (O_u_KW : Fld Z Z.heap u_KW "java/lang/Enum" "ordinal" "I" (.int 3)) (S_u_KVA : Sta Z Z.heap "com/example/diligent_tariff/diligenttariff/book/Unit" "KVA" "Lcom/example/diligent_tariff/diligenttariff/book/Unit;" (.ref u_KVA)) (E_u_KVA : Exa Z Z.heap u_KVA "com/example/diligent_tariff/diligenttariff/book/Unit") (O_u_KVA : Fld Z Z.heap u_KVA "java/lang/Enum" "ordinal" "I" (.int 4)) (D0 : Sta Z Z.heap "com/example/diligent_tariff/diligenttariff/billing/Determinant" "KW" "Lcom/example/diligent_tariff/diligenttariff/billing/Determinant;" (.ref d_KW)) (D1 : Sta Z Z.heap "com/example/diligent_tariff/diligenttariff/billing/Determinant" "KVA" "Lcom/example/diligent_tariff/diligenttariff/billing/Determinant;" (.ref d_KVA)) (D2 : Sta Z Z.heap "com/example/diligent_tariff/diligenttariff/billing/Determinant" "$VALUES" "[Lcom/example/diligent_tariff/diligenttariff/billing/Determinant;" (.ref va)) (D3 : Sta Z Z.heap "java/util/Optional" "EMPTY" "Ljava/util/Optional;" (.ref em)) (D4 : Arv Z Z.heap va kv (.object "com/example/diligent_tariff/diligenttariff/billing/Determinant") (4 : Int32) ([(.ref d_KW), (.ref d_KVA), (.ref d_PHASE), (.ref d_INTERVALS)]) .null) (D5 : Exa Z Z.heap va "[Lcom/example/diligent_tariff/diligenttariff/billing/Determinant;") (D6 : Exa Z Z.heap em "java/util/Optional") (D7 : Fld Z Z.heap em "java/util/Optional" "value" "Ljava/lang/Object;" .null) (D8 : Exa Z Z.heap d_KW "com/example/diligent_tariff/diligenttariff/billing/Determinant") (D9 : Exa Z Z.heap d_KVA "com/example/diligent_tariff/diligenttariff/billing/Determinant") (D10 : Exa Z Z.heap d_PHASE "com/example/diligent_tariff/diligenttariff/billing/Determinant") (D11 : Exa Z Z.heap d_INTERVALS "com/example/diligent_tariff/diligenttariff/billing/Determinant") (D12 : Fld Z Z.heap d_KW "com/example/diligent_tariff/diligenttariff/billing/Determinant" "unit" "Lcom/example/diligent_tariff/diligenttariff/book/Unit;" (.ref u_KW)) (D13 : Fld Z Z.heap d_KVA "com/example/diligent_tariff/diligenttariff/billing/Determinant" "unit" "Lcom/example/diligent_tariff/diligenttariff/book/Unit;" (.ref u_KVA)) (D14 : Fld Z Z.heap d_PHASE "com/example/diligent_tariff/diligenttariff/billing/Determinant" "unit" "Lcom/example/diligent_tariff/diligenttariff/book/Unit;" .null) (D15 : Fld Z Z.heap d_INTERVALS "com/example/diligent_tariff/diligenttariff/billing/Determinant" "unit" "Lcom/example/diligent_tariff/diligenttariff/book/Unit;" .null) :
    MetFree l (⟨"com/example/diligent_tariff/diligenttariff/billing/Determinant", "giving", "(Lcom/example/diligent_tariff/diligenttariff/book/Unit;)Ljava/util/Optional;"⟩ : MethodName) (head1 (Jvm.Cond.code (⟨"com/example/diligent_tariff/diligenttariff/billing/Determinant", "giving", "(Lcom/example/diligent_tariff/diligenttariff/book/Unit;)Ljava/util/Optional;"⟩ : MethodName) prog_6_method_4_code 5 (some (.object "java/util/Optional")) :: ws) ({ frames := 2, cells := 1, slots := 4, locals := 25 } : Room)) (fun as' U => as' = #[(.ref u_BILL)] ∧ Z.Warmed39 U.vm ∧ U.heap = h0) (fun _ _ _ _ _ => True) (fun _ U o U' => ∃ v L, o = .returned v ∧ Q_rmGiving_BILL Z u_MONTH u_BILL u_KWH u_KW u_KVA d_KW d_KVA d_PHASE d_INTERVALS va kv em h0 n0 v U'.heap L ∧ FrameEnd U o U' L ({ frames := 2, cells := 1, slots := 4, locals := 25 } : Room).cells ({ frames := 2, cells := 1, slots := 4, locals := 25 } : Room).slots) := by
  refine MetFree.of_bodySF (plainFor_of_name pn_2) hisR ?_
  intro p e s m args below meth c s₁ Bd hml0 hP hK
  obtain ⟨rfl, hZ, hh⟩ := hP
  have hx := Bd.exec
  have hby := Bd.bytes
  have hml : c.maxLocals = 5 := hml0
  have hown : s.vm.findClass "com/example/diligent_tariff/diligenttariff/billing/Determinant" = some m.cls := findClass_of_methodNamed Bd.named
  have hnm := (name_of_methodNamed Bd.named Bd.method).1
  have X0 : Stand p l e ({ frames := 2, cells := 1, slots := 4, locals := 25 } : Room) s m #[(.ref u_BILL)] below meth c s₁ [] 0 0 := Stand.of_body Bd
  have e0 : s₁.heap = h0 := by rw [← hh, Bd.state]; rfl
  have N0 := Fr.nil n0
  refine Go.enter (F := EndN s (Q_rmGiving_BILL Z u_MONTH u_BILL u_KWH u_KW u_KVA d_KW d_KVA d_PHASE d_INTERVALS va kv em h0 n0) ({ frames := 2, cells := 1, slots := 4, locals := 25 } : Room).cells ({ frames := 2, cells := 1, slots := 4, locals := 25 } : Room).slots) (ef_44 m u_BILL) ?_
  show Go _ _ _ _ s₁ (mkF m 0 #[.val (.ref u_BILL), .unset, .unset, .unset, .unset] [])
  obtain ⟨_, _, ⟨T1, L1, k1, n1⟩, -, X1, ⟨Lc1, hQ1, l1, y1, z1⟩, st1⟩ := Jvm.LawKit.callS X0 hx (y := (⟨"com/example/diligent_tariff/diligenttariff/billing/Determinant", "values", "()[Lcom/example/diligent_tariff/diligenttariff/billing/Determinant;"⟩ : MethodName)) hown (mvT hZ (hw _ (List.mem_of_getElem? (i := 8) rfl))) (mvT hZ (hw _ (List.mem_of_getElem? (i := 9) rfl))) (mvT hZ (hw _ (List.mem_of_getElem? (i := 6) rfl))) (mvT hZ (hw _ (List.mem_of_getElem? (i := 10) rfl))) (by decide) (backOf (W := 0) (rmValues l Z a0 hw [] u_MONTH u_BILL u_KWH u_KW u_KVA d_KW d_KVA d_PHASE d_INTERVALS va kv em h0 n0 Z0 O0 S_u_MONTH E_u_MONTH O_u_MONTH S_u_BILL E_u_BILL O_u_BILL S_u_KWH E_u_KWH O_u_KWH S_u_KW E_u_KW O_u_KW S_u_KVA E_u_KVA O_u_KVA D0 D1 D2 D3 D4 D5 D6 D7 D8 D9 D10 D11 D12 D13 D14 D15) hZ (hw _ (List.mem_of_getElem? (i := 10) rfl)) (hw _ (List.mem_of_getElem? (i := 6) rfl)) (by decide) (by decide)) (g := (mkF m 0 #[.val (.ref u_BILL), .unset, .unset, .unset, .unset] [])) rfl (by rw [hml]; rfl) (argsL := []) (rest := []) (lenOf pd_45 rfl) rfl (by show 2 * 0 + _ ≤ _; exact Nat.le_of_eq rfl) (hb hby d1_0) (fun _ _ => ⟨rfl, e0, (by decide : 0 + 1 ≤ _), (by decide : 0 + 4 ≤ _)⟩)
  dsimp only [Pt.U, Pt.locs, Pt.cells, Pt.slots] at X1 l1 y1 z1 st1 hQ1
  subst l1 y1 z1
  obtain ⟨vb, rfl, N1q, K1, Q1_0, Q1_1, Q1_2⟩ := hQ1
  have N1 := Fr.app N0 N1q
  refine Go.by st1 ?_
  show Go _ _ _ _ T1 (mkF m 3 #[.val (.ref u_BILL), .unset, .unset, .unset, .unset] [(.ref vb)])
  have ge_vb : n0 ≤ vb := Nat.le_trans Z0 Q1_2
  have sz_vb : h0.size ≤ vb := Nat.le_trans (Keep.refl h0 []).1 Q1_2
  refine Go.by (fun _ gk => XS.astoreN X1.here hx rfl (hb hby d1_3) rfl rfl (l' := #[.val (.ref u_BILL), .val (.ref vb), .unset, .unset, .unset]) rfl gk) ?_
  show Go _ _ _ _ T1 (mkF m 4 #[.val (.ref u_BILL), .val (.ref vb), .unset, .unset, .unset] [])
  refine Go.by (fun _ gk => XS.aloadN X1.here hx rfl (hb hby d1_4) rfl rfl gk) ?_
  show Go _ _ _ _ T1 (mkF m 5 #[.val (.ref u_BILL), .val (.ref vb), .unset, .unset, .unset] [(.ref vb)])
  obtain ⟨cl2, Ar2, -, S2, M2, -, -⟩ := id Q1_0
  refine Go.by (fun _ gk => X1.arraylength hx (by exact Ar2.1) (State.isArrayOf_alike hZ.alike Ar2.2.1) (g := (mkF m 5 #[.val (.ref u_BILL), .val (.ref vb), .unset, .unset, .unset] [(.ref vb)])) rfl rfl (hb hby d1_5) _ gk) ?_
  rw [len_of S2 M2]
  show Go _ _ _ _ T1 (mkF m 6 #[.val (.ref u_BILL), .val (.ref vb), .unset, .unset, .unset] [(.int (4 : Int32))])
  refine Go.by (fun _ gk => XS.istoreN X1.here hx rfl (hb hby d1_6) rfl (l' := #[.val (.ref u_BILL), .val (.ref vb), .val (.int (4 : Int32)), .unset, .unset]) rfl gk) ?_
  show Go _ _ _ _ T1 (mkF m 7 #[.val (.ref u_BILL), .val (.ref vb), .val (.int (4 : Int32)), .unset, .unset] [])
  refine Go.by (fun _ gk => XT.iconstV X1.here hx rfl (0 : Int32) (hb hby d1_7) (by decide) gk) ?_
  show Go _ _ _ _ T1 (mkF m 8 #[.val (.ref u_BILL), .val (.ref vb), .val (.int (4 : Int32)), .unset, .unset] [(.int (0 : Int32))])
  refine Go.by (fun _ gk => XS.istoreN X1.here hx rfl (hb hby d1_8) rfl (l' := #[.val (.ref u_BILL), .val (.ref vb), .val (.int (4 : Int32)), .val (.int (0 : Int32)), .unset]) rfl gk) ?_
  show Go _ _ _ _ T1 (mkF m 9 #[.val (.ref u_BILL), .val (.ref vb), .val (.int (4 : Int32)), .val (.int (0 : Int32)), .unset] [])
  refine Go.by (fun _ gk => XS.iloadN X1.here hx rfl (hb hby d1_9) rfl gk) ?_
  show Go _ _ _ _ T1 (mkF m 10 #[.val (.ref u_BILL), .val (.ref vb), .val (.int (4 : Int32)), .val (.int (0 : Int32)), .unset] [(.int (0 : Int32))])
  refine Go.by (fun _ gk => XS.iloadN X1.here hx rfl (hb hby d1_10) rfl gk) ?_
  show Go _ _ _ _ T1 (mkF m 11 #[.val (.ref u_BILL), .val (.ref vb), .val (.int (4 : Int32)), .val (.int (0 : Int32)), .unset] [(.int (4 : Int32)), (.int (0 : Int32))])
  refine Go.by (fun _ gk => XS.icmpNo X1.here hx rfl (hb hby d1_11) rfl (XT.ii_ge_f (by decide)) gk) ?_
  show Go _ _ _ _ T1 (mkF m 14 #[.val (.ref u_BILL), .val (.ref vb), .val (.int (4 : Int32)), .val (.int (0 : Int32)), .unset] [])
  refine Go.by (fun _ gk => XS.aloadN X1.here hx rfl (hb hby d1_14) rfl rfl gk) ?_
  show Go _ _ _ _ T1 (mkF m 15 #[.val (.ref u_BILL), .val (.ref vb), .val (.int (4 : Int32)), .val (.int (0 : Int32)), .unset] [(.ref vb)])
  refine Go.by (fun _ gk => XS.iloadN X1.here hx rfl (hb hby d1_15) rfl gk) ?_
  show Go _ _ _ _ T1 (mkF m 16 #[.val (.ref u_BILL), .val (.ref vb), .val (.int (4 : Int32)), .val (.int (0 : Int32)), .unset] [(.int (0 : Int32)), (.ref vb)])
  obtain ⟨cl3, Ar3, -, S3, M3, H3, -⟩ := id Q1_0
  have hin3 : ¬ ((0 : Int32) < 0 ∨ cl3.slots.size ≤ (0 : Int32).toNatClampNeg) := inb_of S3 ⟨by decide, by decide⟩
  refine Go.by (fun _ gk => X1.aaload hx (j := (0 : Int32)) (v := (.ref d_KW)) (by exact Ar3.1) (State.isArrayOf_alike hZ.alike Ar3.2.1) rfl Ar3.2.2 hin3 (Has.at H3 hin3 rfl) (g := (mkF m 16 #[.val (.ref u_BILL), .val (.ref vb), .val (.int (4 : Int32)), .val (.int (0 : Int32)), .unset] [(.int (0 : Int32)), (.ref vb)])) rfl rfl (hb hby d1_16) _ gk) ?_
  show Go _ _ _ _ T1 (mkF m 17 #[.val (.ref u_BILL), .val (.ref vb), .val (.int (4 : Int32)), .val (.int (0 : Int32)), .unset] [(.ref d_KW)])
  refine Go.by (fun _ gk => XS.astore X1.here hx rfl (hb hby d1_17) rfl rfl (l' := #[.val (.ref u_BILL), .val (.ref vb), .val (.int (4 : Int32)), .val (.int (0 : Int32)), .val (.ref d_KW)]) rfl gk) ?_
  show Go _ _ _ _ T1 (mkF m 19 #[.val (.ref u_BILL), .val (.ref vb), .val (.int (4 : Int32)), .val (.int (0 : Int32)), .val (.ref d_KW)] [])
  refine Go.by (fun _ gk => XS.aload X1.here hx rfl (hb hby d1_19) rfl rfl gk) ?_
  show Go _ _ _ _ T1 (mkF m 21 #[.val (.ref u_BILL), .val (.ref vb), .val (.int (4 : Int32)), .val (.int (0 : Int32)), .val (.ref d_KW)] [(.ref d_KW)])
  have F4 : Old Z n0 T1.heap := O0.keep K1 all0
  have F5 : Fld Z T1.heap d_KW "com/example/diligent_tariff/diligenttariff/billing/Determinant" "unit" "Lcom/example/diligent_tariff/diligenttariff/book/Unit;" (.ref u_KW) := D12.ext F4.2
  obtain ⟨T6, X6, e6, st6⟩ := getF X1 hx hZ hown (host := "") (Or.inl (hw _ (List.mem_of_getElem? (i := 27) rfl))) Via.refl rfl F5 (g := (mkF m 21 #[.val (.ref u_BILL), .val (.ref vb), .val (.int (4 : Int32)), .val (.int (0 : Int32)), .val (.ref d_KW)] [(.ref d_KW)])) rfl rfl (hb hby d1_21)
  refine Go.by st6 ?_
  show Go _ _ _ _ T6 (mkF m 24 #[.val (.ref u_BILL), .val (.ref vb), .val (.int (4 : Int32)), .val (.int (0 : Int32)), .val (.ref d_KW)] [(.ref u_KW)])
  refine Go.by (fun _ gk => XS.aloadN X6.here hx rfl (hb hby d1_24) rfl rfl gk) ?_
  show Go _ _ _ _ T6 (mkF m 25 #[.val (.ref u_BILL), .val (.ref vb), .val (.int (4 : Int32)), .val (.int (0 : Int32)), .val (.ref d_KW)] [(.ref u_BILL), (.ref u_KW)])
  refine Go.by (fun _ gk => XT.acmpYes X6.here hx rfl (pc0 := 25) (pc' := 34) rfl (hb hby d1_25) rfl rfl rfl (XT.aa_ne_t (fun q => (Fld.ne O_u_KW O_u_BILL (by decide)) (Value.ref.inj q))) (by decide) (by decide) gk) ?_
  show Go _ _ _ _ T6 (mkF m 34 #[.val (.ref u_BILL), .val (.ref vb), .val (.int (4 : Int32)), .val (.int (0 : Int32)), .val (.ref d_KW)] [])
  refine Go.by (fun _ gk => XT.iincV X6.here hx rfl (1 : Int32) (hb hby d1_34) (by decide) rfl (l' := #[.val (.ref u_BILL), .val (.ref vb), .val (.int (4 : Int32)), .val (.int (1 : Int32)), .val (.ref d_KW)]) rfl gk) ?_
  show Go _ _ _ _ T6 (mkF m 37 #[.val (.ref u_BILL), .val (.ref vb), .val (.int (4 : Int32)), .val (.int (1 : Int32)), .val (.ref d_KW)] [])
  refine Go.by (fun _ gk => XS.goto X6.here hx rfl (pc0 := 37) (pc' := 9) rfl (hb hby d1_37) (by decide) (by decide) gk) ?_
  show Go _ _ _ _ T6 (mkF m 9 #[.val (.ref u_BILL), .val (.ref vb), .val (.int (4 : Int32)), .val (.int (1 : Int32)), .val (.ref d_KW)] [])
  refine Go.by (fun _ gk => XS.iloadN X6.here hx rfl (hb hby d1_9) rfl gk) ?_
  show Go _ _ _ _ T6 (mkF m 10 #[.val (.ref u_BILL), .val (.ref vb), .val (.int (4 : Int32)), .val (.int (1 : Int32)), .val (.ref d_KW)] [(.int (1 : Int32))])
  refine Go.by (fun _ gk => XS.iloadN X6.here hx rfl (hb hby d1_10) rfl gk) ?_
  show Go _ _ _ _ T6 (mkF m 11 #[.val (.ref u_BILL), .val (.ref vb), .val (.int (4 : Int32)), .val (.int (1 : Int32)), .val (.ref d_KW)] [(.int (4 : Int32)), (.int (1 : Int32))])
  refine Go.by (fun _ gk => XS.icmpNo X6.here hx rfl (hb hby d1_11) rfl (XT.ii_ge_f (by decide)) gk) ?_
  show Go _ _ _ _ T6 (mkF m 14 #[.val (.ref u_BILL), .val (.ref vb), .val (.int (4 : Int32)), .val (.int (1 : Int32)), .val (.ref d_KW)] [])
  refine Go.by (fun _ gk => XS.aloadN X6.here hx rfl (hb hby d1_14) rfl rfl gk) ?_
  show Go _ _ _ _ T6 (mkF m 15 #[.val (.ref u_BILL), .val (.ref vb), .val (.int (4 : Int32)), .val (.int (1 : Int32)), .val (.ref d_KW)] [(.ref vb)])
  refine Go.by (fun _ gk => XS.iloadN X6.here hx rfl (hb hby d1_15) rfl gk) ?_
  show Go _ _ _ _ T6 (mkF m 16 #[.val (.ref u_BILL), .val (.ref vb), .val (.int (4 : Int32)), .val (.int (1 : Int32)), .val (.ref d_KW)] [(.int (1 : Int32)), (.ref vb)])
  obtain ⟨cl7, Ar7, -, S7, M7, H7, -⟩ := id Q1_0
  have hin7 : ¬ ((1 : Int32) < 0 ∨ cl7.slots.size ≤ (1 : Int32).toNatClampNeg) := inb_of S7 ⟨by decide, by decide⟩
  refine Go.by (fun _ gk => X6.aaload hx (j := (1 : Int32)) (v := (.ref d_KVA)) (by rw [e6]; exact Ar7.1) (State.isArrayOf_alike hZ.alike Ar7.2.1) rfl Ar7.2.2 hin7 (Has.at H7 hin7 rfl) (g := (mkF m 16 #[.val (.ref u_BILL), .val (.ref vb), .val (.int (4 : Int32)), .val (.int (1 : Int32)), .val (.ref d_KW)] [(.int (1 : Int32)), (.ref vb)])) rfl rfl (hb hby d1_16) _ gk) ?_
  show Go _ _ _ _ T6 (mkF m 17 #[.val (.ref u_BILL), .val (.ref vb), .val (.int (4 : Int32)), .val (.int (1 : Int32)), .val (.ref d_KW)] [(.ref d_KVA)])
  refine Go.by (fun _ gk => XS.astore X6.here hx rfl (hb hby d1_17) rfl rfl (l' := #[.val (.ref u_BILL), .val (.ref vb), .val (.int (4 : Int32)), .val (.int (1 : Int32)), .val (.ref d_KVA)]) rfl gk) ?_
  show Go _ _ _ _ T6 (mkF m 19 #[.val (.ref u_BILL), .val (.ref vb), .val (.int (4 : Int32)), .val (.int (1 : Int32)), .val (.ref d_KVA)] [])
  refine Go.by (fun _ gk => XS.aload X6.here hx rfl (hb hby d1_19) rfl rfl gk) ?_
  show Go _ _ _ _ T6 (mkF m 21 #[.val (.ref u_BILL), .val (.ref vb), .val (.int (4 : Int32)), .val (.int (1 : Int32)), .val (.ref d_KVA)] [(.ref d_KVA)])
  have F8 : Fld Z T1.heap d_KVA "com/example/diligent_tariff/diligenttariff/billing/Determinant" "unit" "Lcom/example/diligent_tariff/diligenttariff/book/Unit;" (.ref u_KVA) := D13.ext F4.2
  obtain ⟨T9, X9, e9, st9⟩ := getF X6 hx hZ hown (host := "") (Or.inl (hw _ (List.mem_of_getElem? (i := 27) rfl))) Via.refl e6 F8 (g := (mkF m 21 #[.val (.ref u_BILL), .val (.ref vb), .val (.int (4 : Int32)), .val (.int (1 : Int32)), .val (.ref d_KVA)] [(.ref d_KVA)])) rfl rfl (hb hby d1_21)
  refine Go.by st9 ?_
  show Go _ _ _ _ T9 (mkF m 24 #[.val (.ref u_BILL), .val (.ref vb), .val (.int (4 : Int32)), .val (.int (1 : Int32)), .val (.ref d_KVA)] [(.ref u_KVA)])
  refine Go.by (fun _ gk => XS.aloadN X9.here hx rfl (hb hby d1_24) rfl rfl gk) ?_
  show Go _ _ _ _ T9 (mkF m 25 #[.val (.ref u_BILL), .val (.ref vb), .val (.int (4 : Int32)), .val (.int (1 : Int32)), .val (.ref d_KVA)] [(.ref u_BILL), (.ref u_KVA)])
  refine Go.by (fun _ gk => XT.acmpYes X9.here hx rfl (pc0 := 25) (pc' := 34) rfl (hb hby d1_25) rfl rfl rfl (XT.aa_ne_t (fun q => (Fld.ne O_u_KVA O_u_BILL (by decide)) (Value.ref.inj q))) (by decide) (by decide) gk) ?_
  show Go _ _ _ _ T9 (mkF m 34 #[.val (.ref u_BILL), .val (.ref vb), .val (.int (4 : Int32)), .val (.int (1 : Int32)), .val (.ref d_KVA)] [])
  refine Go.by (fun _ gk => XT.iincV X9.here hx rfl (1 : Int32) (hb hby d1_34) (by decide) rfl (l' := #[.val (.ref u_BILL), .val (.ref vb), .val (.int (4 : Int32)), .val (.int (2 : Int32)), .val (.ref d_KVA)]) rfl gk) ?_
  show Go _ _ _ _ T9 (mkF m 37 #[.val (.ref u_BILL), .val (.ref vb), .val (.int (4 : Int32)), .val (.int (2 : Int32)), .val (.ref d_KVA)] [])
  refine Go.by (fun _ gk => XS.goto X9.here hx rfl (pc0 := 37) (pc' := 9) rfl (hb hby d1_37) (by decide) (by decide) gk) ?_
  show Go _ _ _ _ T9 (mkF m 9 #[.val (.ref u_BILL), .val (.ref vb), .val (.int (4 : Int32)), .val (.int (2 : Int32)), .val (.ref d_KVA)] [])
  refine Go.by (fun _ gk => XS.iloadN X9.here hx rfl (hb hby d1_9) rfl gk) ?_
  show Go _ _ _ _ T9 (mkF m 10 #[.val (.ref u_BILL), .val (.ref vb), .val (.int (4 : Int32)), .val (.int (2 : Int32)), .val (.ref d_KVA)] [(.int (2 : Int32))])
  refine Go.by (fun _ gk => XS.iloadN X9.here hx rfl (hb hby d1_10) rfl gk) ?_
  show Go _ _ _ _ T9 (mkF m 11 #[.val (.ref u_BILL), .val (.ref vb), .val (.int (4 : Int32)), .val (.int (2 : Int32)), .val (.ref d_KVA)] [(.int (4 : Int32)), (.int (2 : Int32))])
  refine Go.by (fun _ gk => XS.icmpNo X9.here hx rfl (hb hby d1_11) rfl (XT.ii_ge_f (by decide)) gk) ?_
  show Go _ _ _ _ T9 (mkF m 14 #[.val (.ref u_BILL), .val (.ref vb), .val (.int (4 : Int32)), .val (.int (2 : Int32)), .val (.ref d_KVA)] [])
  refine Go.by (fun _ gk => XS.aloadN X9.here hx rfl (hb hby d1_14) rfl rfl gk) ?_
  show Go _ _ _ _ T9 (mkF m 15 #[.val (.ref u_BILL), .val (.ref vb), .val (.int (4 : Int32)), .val (.int (2 : Int32)), .val (.ref d_KVA)] [(.ref vb)])
  refine Go.by (fun _ gk => XS.iloadN X9.here hx rfl (hb hby d1_15) rfl gk) ?_
  show Go _ _ _ _ T9 (mkF m 16 #[.val (.ref u_BILL), .val (.ref vb), .val (.int (4 : Int32)), .val (.int (2 : Int32)), .val (.ref d_KVA)] [(.int (2 : Int32)), (.ref vb)])
  obtain ⟨cl10, Ar10, -, S10, M10, H10, -⟩ := id Q1_0
  have hin10 : ¬ ((2 : Int32) < 0 ∨ cl10.slots.size ≤ (2 : Int32).toNatClampNeg) := inb_of S10 ⟨by decide, by decide⟩
  refine Go.by (fun _ gk => X9.aaload hx (j := (2 : Int32)) (v := (.ref d_PHASE)) (by rw [e9]; exact Ar10.1) (State.isArrayOf_alike hZ.alike Ar10.2.1) rfl Ar10.2.2 hin10 (Has.at H10 hin10 rfl) (g := (mkF m 16 #[.val (.ref u_BILL), .val (.ref vb), .val (.int (4 : Int32)), .val (.int (2 : Int32)), .val (.ref d_KVA)] [(.int (2 : Int32)), (.ref vb)])) rfl rfl (hb hby d1_16) _ gk) ?_
  show Go _ _ _ _ T9 (mkF m 17 #[.val (.ref u_BILL), .val (.ref vb), .val (.int (4 : Int32)), .val (.int (2 : Int32)), .val (.ref d_KVA)] [(.ref d_PHASE)])
  refine Go.by (fun _ gk => XS.astore X9.here hx rfl (hb hby d1_17) rfl rfl (l' := #[.val (.ref u_BILL), .val (.ref vb), .val (.int (4 : Int32)), .val (.int (2 : Int32)), .val (.ref d_PHASE)]) rfl gk) ?_
  show Go _ _ _ _ T9 (mkF m 19 #[.val (.ref u_BILL), .val (.ref vb), .val (.int (4 : Int32)), .val (.int (2 : Int32)), .val (.ref d_PHASE)] [])
  refine Go.by (fun _ gk => XS.aload X9.here hx rfl (hb hby d1_19) rfl rfl gk) ?_
  show Go _ _ _ _ T9 (mkF m 21 #[.val (.ref u_BILL), .val (.ref vb), .val (.int (4 : Int32)), .val (.int (2 : Int32)), .val (.ref d_PHASE)] [(.ref d_PHASE)])
  have F11 : Fld Z T1.heap d_PHASE "com/example/diligent_tariff/diligenttariff/billing/Determinant" "unit" "Lcom/example/diligent_tariff/diligenttariff/book/Unit;" .null := D14.ext F4.2
  obtain ⟨T12, X12, e12, st12⟩ := getF X9 hx hZ hown (host := "") (Or.inl (hw _ (List.mem_of_getElem? (i := 27) rfl))) Via.refl e9 F11 (g := (mkF m 21 #[.val (.ref u_BILL), .val (.ref vb), .val (.int (4 : Int32)), .val (.int (2 : Int32)), .val (.ref d_PHASE)] [(.ref d_PHASE)])) rfl rfl (hb hby d1_21)
  refine Go.by st12 ?_
  show Go _ _ _ _ T12 (mkF m 24 #[.val (.ref u_BILL), .val (.ref vb), .val (.int (4 : Int32)), .val (.int (2 : Int32)), .val (.ref d_PHASE)] [.null])
  refine Go.by (fun _ gk => XS.aloadN X12.here hx rfl (hb hby d1_24) rfl rfl gk) ?_
  show Go _ _ _ _ T12 (mkF m 25 #[.val (.ref u_BILL), .val (.ref vb), .val (.int (4 : Int32)), .val (.int (2 : Int32)), .val (.ref d_PHASE)] [(.ref u_BILL), .null])
  refine Go.by (fun _ gk => XT.acmpYes X12.here hx rfl (pc0 := 25) (pc' := 34) rfl (hb hby d1_25) rfl rfl rfl (XT.aa_ne_t nofun) (by decide) (by decide) gk) ?_
  show Go _ _ _ _ T12 (mkF m 34 #[.val (.ref u_BILL), .val (.ref vb), .val (.int (4 : Int32)), .val (.int (2 : Int32)), .val (.ref d_PHASE)] [])
  refine Go.by (fun _ gk => XT.iincV X12.here hx rfl (1 : Int32) (hb hby d1_34) (by decide) rfl (l' := #[.val (.ref u_BILL), .val (.ref vb), .val (.int (4 : Int32)), .val (.int (3 : Int32)), .val (.ref d_PHASE)]) rfl gk) ?_
  show Go _ _ _ _ T12 (mkF m 37 #[.val (.ref u_BILL), .val (.ref vb), .val (.int (4 : Int32)), .val (.int (3 : Int32)), .val (.ref d_PHASE)] [])
  refine Go.by (fun _ gk => XS.goto X12.here hx rfl (pc0 := 37) (pc' := 9) rfl (hb hby d1_37) (by decide) (by decide) gk) ?_
  show Go _ _ _ _ T12 (mkF m 9 #[.val (.ref u_BILL), .val (.ref vb), .val (.int (4 : Int32)), .val (.int (3 : Int32)), .val (.ref d_PHASE)] [])
  refine Go.by (fun _ gk => XS.iloadN X12.here hx rfl (hb hby d1_9) rfl gk) ?_
  show Go _ _ _ _ T12 (mkF m 10 #[.val (.ref u_BILL), .val (.ref vb), .val (.int (4 : Int32)), .val (.int (3 : Int32)), .val (.ref d_PHASE)] [(.int (3 : Int32))])
  refine Go.by (fun _ gk => XS.iloadN X12.here hx rfl (hb hby d1_10) rfl gk) ?_
  show Go _ _ _ _ T12 (mkF m 11 #[.val (.ref u_BILL), .val (.ref vb), .val (.int (4 : Int32)), .val (.int (3 : Int32)), .val (.ref d_PHASE)] [(.int (4 : Int32)), (.int (3 : Int32))])
  refine Go.by (fun _ gk => XS.icmpNo X12.here hx rfl (hb hby d1_11) rfl (XT.ii_ge_f (by decide)) gk) ?_
  show Go _ _ _ _ T12 (mkF m 14 #[.val (.ref u_BILL), .val (.ref vb), .val (.int (4 : Int32)), .val (.int (3 : Int32)), .val (.ref d_PHASE)] [])
  refine Go.by (fun _ gk => XS.aloadN X12.here hx rfl (hb hby d1_14) rfl rfl gk) ?_
  show Go _ _ _ _ T12 (mkF m 15 #[.val (.ref u_BILL), .val (.ref vb), .val (.int (4 : Int32)), .val (.int (3 : Int32)), .val (.ref d_PHASE)] [(.ref vb)])
  refine Go.by (fun _ gk => XS.iloadN X12.here hx rfl (hb hby d1_15) rfl gk) ?_
  show Go _ _ _ _ T12 (mkF m 16 #[.val (.ref u_BILL), .val (.ref vb), .val (.int (4 : Int32)), .val (.int (3 : Int32)), .val (.ref d_PHASE)] [(.int (3 : Int32)), (.ref vb)])
  obtain ⟨cl13, Ar13, -, S13, M13, H13, -⟩ := id Q1_0
  have hin13 : ¬ ((3 : Int32) < 0 ∨ cl13.slots.size ≤ (3 : Int32).toNatClampNeg) := inb_of S13 ⟨by decide, by decide⟩
  refine Go.by (fun _ gk => X12.aaload hx (j := (3 : Int32)) (v := (.ref d_INTERVALS)) (by rw [e12]; exact Ar13.1) (State.isArrayOf_alike hZ.alike Ar13.2.1) rfl Ar13.2.2 hin13 (Has.at H13 hin13 rfl) (g := (mkF m 16 #[.val (.ref u_BILL), .val (.ref vb), .val (.int (4 : Int32)), .val (.int (3 : Int32)), .val (.ref d_PHASE)] [(.int (3 : Int32)), (.ref vb)])) rfl rfl (hb hby d1_16) _ gk) ?_
  show Go _ _ _ _ T12 (mkF m 17 #[.val (.ref u_BILL), .val (.ref vb), .val (.int (4 : Int32)), .val (.int (3 : Int32)), .val (.ref d_PHASE)] [(.ref d_INTERVALS)])
  refine Go.by (fun _ gk => XS.astore X12.here hx rfl (hb hby d1_17) rfl rfl (l' := #[.val (.ref u_BILL), .val (.ref vb), .val (.int (4 : Int32)), .val (.int (3 : Int32)), .val (.ref d_INTERVALS)]) rfl gk) ?_
  show Go _ _ _ _ T12 (mkF m 19 #[.val (.ref u_BILL), .val (.ref vb), .val (.int (4 : Int32)), .val (.int (3 : Int32)), .val (.ref d_INTERVALS)] [])
  refine Go.by (fun _ gk => XS.aload X12.here hx rfl (hb hby d1_19) rfl rfl gk) ?_
  show Go _ _ _ _ T12 (mkF m 21 #[.val (.ref u_BILL), .val (.ref vb), .val (.int (4 : Int32)), .val (.int (3 : Int32)), .val (.ref d_INTERVALS)] [(.ref d_INTERVALS)])
  have F14 : Fld Z T1.heap d_INTERVALS "com/example/diligent_tariff/diligenttariff/billing/Determinant" "unit" "Lcom/example/diligent_tariff/diligenttariff/book/Unit;" .null := D15.ext F4.2
  obtain ⟨T15, X15, e15, st15⟩ := getF X12 hx hZ hown (host := "") (Or.inl (hw _ (List.mem_of_getElem? (i := 27) rfl))) Via.refl e12 F14 (g := (mkF m 21 #[.val (.ref u_BILL), .val (.ref vb), .val (.int (4 : Int32)), .val (.int (3 : Int32)), .val (.ref d_INTERVALS)] [(.ref d_INTERVALS)])) rfl rfl (hb hby d1_21)
  refine Go.by st15 ?_
  show Go _ _ _ _ T15 (mkF m 24 #[.val (.ref u_BILL), .val (.ref vb), .val (.int (4 : Int32)), .val (.int (3 : Int32)), .val (.ref d_INTERVALS)] [.null])
  refine Go.by (fun _ gk => XS.aloadN X15.here hx rfl (hb hby d1_24) rfl rfl gk) ?_
  show Go _ _ _ _ T15 (mkF m 25 #[.val (.ref u_BILL), .val (.ref vb), .val (.int (4 : Int32)), .val (.int (3 : Int32)), .val (.ref d_INTERVALS)] [(.ref u_BILL), .null])
  refine Go.by (fun _ gk => XT.acmpYes X15.here hx rfl (pc0 := 25) (pc' := 34) rfl (hb hby d1_25) rfl rfl rfl (XT.aa_ne_t nofun) (by decide) (by decide) gk) ?_
  show Go _ _ _ _ T15 (mkF m 34 #[.val (.ref u_BILL), .val (.ref vb), .val (.int (4 : Int32)), .val (.int (3 : Int32)), .val (.ref d_INTERVALS)] [])
  refine Go.by (fun _ gk => XT.iincV X15.here hx rfl (1 : Int32) (hb hby d1_34) (by decide) rfl (l' := #[.val (.ref u_BILL), .val (.ref vb), .val (.int (4 : Int32)), .val (.int (4 : Int32)), .val (.ref d_INTERVALS)]) rfl gk) ?_
  show Go _ _ _ _ T15 (mkF m 37 #[.val (.ref u_BILL), .val (.ref vb), .val (.int (4 : Int32)), .val (.int (4 : Int32)), .val (.ref d_INTERVALS)] [])
  refine Go.by (fun _ gk => XS.goto X15.here hx rfl (pc0 := 37) (pc' := 9) rfl (hb hby d1_37) (by decide) (by decide) gk) ?_
  show Go _ _ _ _ T15 (mkF m 9 #[.val (.ref u_BILL), .val (.ref vb), .val (.int (4 : Int32)), .val (.int (4 : Int32)), .val (.ref d_INTERVALS)] [])
  refine Go.by (fun _ gk => XS.iloadN X15.here hx rfl (hb hby d1_9) rfl gk) ?_
  show Go _ _ _ _ T15 (mkF m 10 #[.val (.ref u_BILL), .val (.ref vb), .val (.int (4 : Int32)), .val (.int (4 : Int32)), .val (.ref d_INTERVALS)] [(.int (4 : Int32))])
  refine Go.by (fun _ gk => XS.iloadN X15.here hx rfl (hb hby d1_10) rfl gk) ?_
  show Go _ _ _ _ T15 (mkF m 11 #[.val (.ref u_BILL), .val (.ref vb), .val (.int (4 : Int32)), .val (.int (4 : Int32)), .val (.ref d_INTERVALS)] [(.int (4 : Int32)), (.int (4 : Int32))])
  refine Go.by (fun _ gk => XS.icmpYes X15.here hx rfl (pc0 := 11) (pc' := 40) rfl (hb hby d1_11) rfl (XT.ii_ge_t (by decide)) (by decide) (by decide) gk) ?_
  show Go _ _ _ _ T15 (mkF m 40 #[.val (.ref u_BILL), .val (.ref vb), .val (.int (4 : Int32)), .val (.int (4 : Int32)), .val (.ref d_INTERVALS)] [])
  have F16 : n0 ≤ T1.heap.size := Nat.le_trans Z0 K1.1
  obtain ⟨_, _, ⟨T17, L17, k17, n17⟩, -, X17, ⟨Lc17, hQ17, l17, y17, z17⟩, st17⟩ := Jvm.LawKit.callS X15 hx (y := (⟨"java/util/Optional", "empty", "()Ljava/util/Optional;"⟩ : MethodName)) hown (mvT hZ (hw _ (List.mem_of_getElem? (i := 31) rfl))) (mvT hZ (hw _ (List.mem_of_getElem? (i := 32) rfl))) (mvT hZ (hw _ (List.mem_of_getElem? (i := 33) rfl))) (mvT hZ (hw _ (List.mem_of_getElem? (i := 34) rfl))) (by decide) (backOf (W := 0) (rmEmpty l Z a0 hw [] u_MONTH u_BILL u_KWH u_KW u_KVA d_KW d_KVA d_PHASE d_INTERVALS va kv em T1.heap n0 F16 F4 S_u_MONTH E_u_MONTH O_u_MONTH S_u_BILL E_u_BILL O_u_BILL S_u_KWH E_u_KWH O_u_KWH S_u_KW E_u_KW O_u_KW S_u_KVA E_u_KVA O_u_KVA D0 D1 D2 D3 D4 D5 D6 D7 D8 D9 D10 D11 D12 D13 D14 D15) hZ (hw _ (List.mem_of_getElem? (i := 34) rfl)) (hw _ (List.mem_of_getElem? (i := 33) rfl)) (by decide) (by decide)) (g := (mkF m 40 #[.val (.ref u_BILL), .val (.ref vb), .val (.int (4 : Int32)), .val (.int (4 : Int32)), .val (.ref d_INTERVALS)] [])) rfl (by rw [hml]; rfl) (argsL := []) (rest := []) (lenOf pd_66 rfl) rfl (by show 2 * 0 + _ ≤ _; exact Nat.le_of_eq rfl) (hb hby d1_40) (fun _ _ => ⟨rfl, e15, (by decide : 1 + 0 ≤ _), (by decide : 4 + 0 ≤ _)⟩)
  dsimp only [Pt.U, Pt.locs, Pt.cells, Pt.slots] at X17 l17 y17 z17 st17 hQ17
  subst l17 y17 z17
  obtain ⟨rfl, N17q, e17⟩ := hQ17
  have N17 := Fr.app N1 N17q
  refine Go.by st17 ?_
  show Go _ _ _ _ T17 (mkF m 43 #[.val (.ref u_BILL), .val (.ref vb), .val (.int (4 : Int32)), .val (.int (4 : Int32)), .val (.ref d_INTERVALS)] [(.ref em)])
  have F18 : Keep h0 T1.heap [] := (Keep.refl h0 []).trans K1 all0
  exact Go.retA X17 hx Bd.notSynchronized Bd.returns rfl rfl (hb hby d1_43) (by rw [e17]; exact ⟨rfl, N17, F18⟩) (by decide) (by decide)
def Q_rmGiving_KWH (Z : State) (u_MONTH : Addr) (u_BILL : Addr) (u_KWH : Addr) (u_KW : Addr) (u_KVA : Addr) (d_KW : Addr) (d_KVA : Addr) (d_PHASE : Addr) (d_INTERVALS : Addr) (va : Addr) (kv : ClassId) (em : Addr) (h0 : Heap) (n0 : Nat) (v : Option Value) (h : Heap) (L : List Loc) : Prop := v = some (.ref em) ∧ Fr n0 L ∧ Keep h0 h []
set_option maxRecDepth 65536 in
set_option maxHeartbeats 40000000 in
theorem rmGiving_KWH (l : Launch) (Z : State) (a0 : Array Value) (hw : ∀ d ∈ tables_1, d.before a0 Z = true) (ws : List Jvm.Cond) (u_MONTH : Addr) (u_BILL : Addr) (u_KWH : Addr) (u_KW : Addr) (u_KVA : Addr) (d_KW : Addr) (d_KVA : Addr) (d_PHASE : Addr) (d_INTERVALS : Addr) (va : Addr) (kv : ClassId) (em : Addr) (h0 : Heap) (n0 : Nat) (Z0 : n0 ≤ h0.size) (O0 : Old Z n0 h0) (S_u_MONTH : Sta Z Z.heap "com/example/diligent_tariff/diligenttariff/book/Unit" "MONTH" "Lcom/example/diligent_tariff/diligenttariff/book/Unit;" (.ref u_MONTH)) (E_u_MONTH : Exa Z Z.heap u_MONTH "com/example/diligent_tariff/diligenttariff/book/Unit") (O_u_MONTH : Fld Z Z.heap u_MONTH "java/lang/Enum" "ordinal" "I" (.int 0)) (S_u_BILL : Sta Z Z.heap "com/example/diligent_tariff/diligenttariff/book/Unit" "BILL" "Lcom/example/diligent_tariff/diligenttariff/book/Unit;" (.ref u_BILL)) (E_u_BILL : Exa Z Z.heap u_BILL "com/example/diligent_tariff/diligenttariff/book/Unit") (O_u_BILL : Fld Z Z.heap u_BILL "java/lang/Enum" "ordinal" "I" (.int 1)) (S_u_KWH : Sta Z Z.heap "com/example/diligent_tariff/diligenttariff/book/Unit" "KWH" "Lcom/example/diligent_tariff/diligenttariff/book/Unit;" (.ref u_KWH)) (E_u_KWH : Exa Z Z.heap u_KWH "com/example/diligent_tariff/diligenttariff/book/Unit") (O_u_KWH : Fld Z Z.heap u_KWH "java/lang/Enum" "ordinal" "I" (.int 2)) (S_u_KW : Sta Z Z.heap "com/example/diligent_tariff/diligenttariff/book/Unit" "KW" "Lcom/example/diligent_tariff/diligenttariff/book/Unit;" (.ref u_KW)) (E_u_KW : Exa Z Z.heap u_KW "com/example/diligent_tariff/diligenttariff/book/Unit") (O_u_KW : Fld Z Z.heap u_KW "java/lang/Enum" "ordinal" "I" (.int 3)) (S_u_KVA : Sta Z Z.heap "com/example/diligent_tariff/diligenttariff/book/Unit" "KVA" "Lcom/example/diligent_tariff/diligenttariff/book/Unit;" (.ref u_KVA)) (E_u_KVA : Exa Z Z.heap u_KVA "com/example/diligent_tariff/diligenttariff/book/Unit") (O_u_KVA : Fld Z Z.heap u_KVA "java/lang/Enum" "ordinal" "I" (.int 4)) (D0 : Sta Z Z.heap "com/example/diligent_tariff/diligenttariff/billing/Determinant" "KW" "Lcom/example/diligent_tariff/diligenttariff/billing/Determinant;" (.ref d_KW)) (D1 : Sta Z Z.heap "com/example/diligent_tariff/diligenttariff/billing/Determinant" "KVA" "Lcom/example/diligent_tariff/diligenttariff/billing/Determinant;" (.ref d_KVA)) (D2 : Sta Z Z.heap "com/example/diligent_tariff/diligenttariff/billing/Determinant" "$VALUES" "[Lcom/example/diligent_tariff/diligenttariff/billing/Determinant;" (.ref va)) (D3 : Sta Z Z.heap "java/util/Optional" "EMPTY" "Ljava/util/Optional;" (.ref em)) (D4 : Arv Z Z.heap va kv (.object "com/example/diligent_tariff/diligenttariff/billing/Determinant") (4 : Int32) ([(.ref d_KW), (.ref d_KVA), (.ref d_PHASE), (.ref d_INTERVALS)]) .null) (D5 : Exa Z Z.heap va "[Lcom/example/diligent_tariff/diligenttariff/billing/Determinant;") (D6 : Exa Z Z.heap em "java/util/Optional") (D7 : Fld Z Z.heap em "java/util/Optional" "value" "Ljava/lang/Object;" .null) (D8 : Exa Z Z.heap d_KW "com/example/diligent_tariff/diligenttariff/billing/Determinant") (D9 : Exa Z Z.heap d_KVA "com/example/diligent_tariff/diligenttariff/billing/Determinant") (D10 : Exa Z Z.heap d_PHASE "com/example/diligent_tariff/diligenttariff/billing/Determinant") (D11 : Exa Z Z.heap d_INTERVALS "com/example/diligent_tariff/diligenttariff/billing/Determinant") (D12 : Fld Z Z.heap d_KW "com/example/diligent_tariff/diligenttariff/billing/Determinant" "unit" "Lcom/example/diligent_tariff/diligenttariff/book/Unit;" (.ref u_KW)) (D13 : Fld Z Z.heap d_KVA "com/example/diligent_tariff/diligenttariff/billing/Determinant" "unit" "Lcom/example/diligent_tariff/diligenttariff/book/Unit;" (.ref u_KVA)) (D14 : Fld Z Z.heap d_PHASE "com/example/diligent_tariff/diligenttariff/billing/Determinant" "unit" "Lcom/example/diligent_tariff/diligenttariff/book/Unit;" .null) (D15 : Fld Z Z.heap d_INTERVALS "com/example/diligent_tariff/diligenttariff/billing/Determinant" "unit" "Lcom/example/diligent_tariff/diligenttariff/book/Unit;" .null) :
    MetFree l (⟨"com/example/diligent_tariff/diligenttariff/billing/Determinant", "giving", "(Lcom/example/diligent_tariff/diligenttariff/book/Unit;)Ljava/util/Optional;"⟩ : MethodName) (head1 (Jvm.Cond.code (⟨"com/example/diligent_tariff/diligenttariff/billing/Determinant", "giving", "(Lcom/example/diligent_tariff/diligenttariff/book/Unit;)Ljava/util/Optional;"⟩ : MethodName) prog_6_method_4_code 5 (some (.object "java/util/Optional")) :: ws) ({ frames := 2, cells := 1, slots := 4, locals := 25 } : Room)) (fun as' U => as' = #[(.ref u_KWH)] ∧ Z.Warmed39 U.vm ∧ U.heap = h0) (fun _ _ _ _ _ => True) (fun _ U o U' => ∃ v L, o = .returned v ∧ Q_rmGiving_KWH Z u_MONTH u_BILL u_KWH u_KW u_KVA d_KW d_KVA d_PHASE d_INTERVALS va kv em h0 n0 v U'.heap L ∧ FrameEnd U o U' L ({ frames := 2, cells := 1, slots := 4, locals := 25 } : Room).cells ({ frames := 2, cells := 1, slots := 4, locals := 25 } : Room).slots) := by
  refine MetFree.of_bodySF (plainFor_of_name pn_2) hisR ?_
  intro p e s m args below meth c s₁ Bd hml0 hP hK
  obtain ⟨rfl, hZ, hh⟩ := hP
  have hx := Bd.exec
  have hby := Bd.bytes
  have hml : c.maxLocals = 5 := hml0
  have hown : s.vm.findClass "com/example/diligent_tariff/diligenttariff/billing/Determinant" = some m.cls := findClass_of_methodNamed Bd.named
  have hnm := (name_of_methodNamed Bd.named Bd.method).1
  have X0 : Stand p l e ({ frames := 2, cells := 1, slots := 4, locals := 25 } : Room) s m #[(.ref u_KWH)] below meth c s₁ [] 0 0 := Stand.of_body Bd
  have e0 : s₁.heap = h0 := by rw [← hh, Bd.state]; rfl
  have N0 := Fr.nil n0
  refine Go.enter (F := EndN s (Q_rmGiving_KWH Z u_MONTH u_BILL u_KWH u_KW u_KVA d_KW d_KVA d_PHASE d_INTERVALS va kv em h0 n0) ({ frames := 2, cells := 1, slots := 4, locals := 25 } : Room).cells ({ frames := 2, cells := 1, slots := 4, locals := 25 } : Room).slots) (ef_44 m u_KWH) ?_
  show Go _ _ _ _ s₁ (mkF m 0 #[.val (.ref u_KWH), .unset, .unset, .unset, .unset] [])
  obtain ⟨_, _, ⟨T1, L1, k1, n1⟩, -, X1, ⟨Lc1, hQ1, l1, y1, z1⟩, st1⟩ := Jvm.LawKit.callS X0 hx (y := (⟨"com/example/diligent_tariff/diligenttariff/billing/Determinant", "values", "()[Lcom/example/diligent_tariff/diligenttariff/billing/Determinant;"⟩ : MethodName)) hown (mvT hZ (hw _ (List.mem_of_getElem? (i := 8) rfl))) (mvT hZ (hw _ (List.mem_of_getElem? (i := 9) rfl))) (mvT hZ (hw _ (List.mem_of_getElem? (i := 6) rfl))) (mvT hZ (hw _ (List.mem_of_getElem? (i := 10) rfl))) (by decide) (backOf (W := 0) (rmValues l Z a0 hw [] u_MONTH u_BILL u_KWH u_KW u_KVA d_KW d_KVA d_PHASE d_INTERVALS va kv em h0 n0 Z0 O0 S_u_MONTH E_u_MONTH O_u_MONTH S_u_BILL E_u_BILL O_u_BILL S_u_KWH E_u_KWH O_u_KWH S_u_KW E_u_KW O_u_KW S_u_KVA E_u_KVA O_u_KVA D0 D1 D2 D3 D4 D5 D6 D7 D8 D9 D10 D11 D12 D13 D14 D15) hZ (hw _ (List.mem_of_getElem? (i := 10) rfl)) (hw _ (List.mem_of_getElem? (i := 6) rfl)) (by decide) (by decide)) (g := (mkF m 0 #[.val (.ref u_KWH), .unset, .unset, .unset, .unset] [])) rfl (by rw [hml]; rfl) (argsL := []) (rest := []) (lenOf pd_45 rfl) rfl (by show 2 * 0 + _ ≤ _; exact Nat.le_of_eq rfl) (hb hby d1_0) (fun _ _ => ⟨rfl, e0, (by decide : 0 + 1 ≤ _), (by decide : 0 + 4 ≤ _)⟩)
  dsimp only [Pt.U, Pt.locs, Pt.cells, Pt.slots] at X1 l1 y1 z1 st1 hQ1
  subst l1 y1 z1
  obtain ⟨vb, rfl, N1q, K1, Q1_0, Q1_1, Q1_2⟩ := hQ1
  have N1 := Fr.app N0 N1q
  refine Go.by st1 ?_
  show Go _ _ _ _ T1 (mkF m 3 #[.val (.ref u_KWH), .unset, .unset, .unset, .unset] [(.ref vb)])
  have ge_vb : n0 ≤ vb := Nat.le_trans Z0 Q1_2
  have sz_vb : h0.size ≤ vb := Nat.le_trans (Keep.refl h0 []).1 Q1_2
  refine Go.by (fun _ gk => XS.astoreN X1.here hx rfl (hb hby d1_3) rfl rfl (l' := #[.val (.ref u_KWH), .val (.ref vb), .unset, .unset, .unset]) rfl gk) ?_
  show Go _ _ _ _ T1 (mkF m 4 #[.val (.ref u_KWH), .val (.ref vb), .unset, .unset, .unset] [])
  refine Go.by (fun _ gk => XS.aloadN X1.here hx rfl (hb hby d1_4) rfl rfl gk) ?_
  show Go _ _ _ _ T1 (mkF m 5 #[.val (.ref u_KWH), .val (.ref vb), .unset, .unset, .unset] [(.ref vb)])
  obtain ⟨cl2, Ar2, -, S2, M2, -, -⟩ := id Q1_0
  refine Go.by (fun _ gk => X1.arraylength hx (by exact Ar2.1) (State.isArrayOf_alike hZ.alike Ar2.2.1) (g := (mkF m 5 #[.val (.ref u_KWH), .val (.ref vb), .unset, .unset, .unset] [(.ref vb)])) rfl rfl (hb hby d1_5) _ gk) ?_
  rw [len_of S2 M2]
  show Go _ _ _ _ T1 (mkF m 6 #[.val (.ref u_KWH), .val (.ref vb), .unset, .unset, .unset] [(.int (4 : Int32))])
  refine Go.by (fun _ gk => XS.istoreN X1.here hx rfl (hb hby d1_6) rfl (l' := #[.val (.ref u_KWH), .val (.ref vb), .val (.int (4 : Int32)), .unset, .unset]) rfl gk) ?_
  show Go _ _ _ _ T1 (mkF m 7 #[.val (.ref u_KWH), .val (.ref vb), .val (.int (4 : Int32)), .unset, .unset] [])
  refine Go.by (fun _ gk => XT.iconstV X1.here hx rfl (0 : Int32) (hb hby d1_7) (by decide) gk) ?_
  show Go _ _ _ _ T1 (mkF m 8 #[.val (.ref u_KWH), .val (.ref vb), .val (.int (4 : Int32)), .unset, .unset] [(.int (0 : Int32))])
  refine Go.by (fun _ gk => XS.istoreN X1.here hx rfl (hb hby d1_8) rfl (l' := #[.val (.ref u_KWH), .val (.ref vb), .val (.int (4 : Int32)), .val (.int (0 : Int32)), .unset]) rfl gk) ?_
  show Go _ _ _ _ T1 (mkF m 9 #[.val (.ref u_KWH), .val (.ref vb), .val (.int (4 : Int32)), .val (.int (0 : Int32)), .unset] [])
  refine Go.by (fun _ gk => XS.iloadN X1.here hx rfl (hb hby d1_9) rfl gk) ?_
  show Go _ _ _ _ T1 (mkF m 10 #[.val (.ref u_KWH), .val (.ref vb), .val (.int (4 : Int32)), .val (.int (0 : Int32)), .unset] [(.int (0 : Int32))])
  refine Go.by (fun _ gk => XS.iloadN X1.here hx rfl (hb hby d1_10) rfl gk) ?_
  show Go _ _ _ _ T1 (mkF m 11 #[.val (.ref u_KWH), .val (.ref vb), .val (.int (4 : Int32)), .val (.int (0 : Int32)), .unset] [(.int (4 : Int32)), (.int (0 : Int32))])
  refine Go.by (fun _ gk => XS.icmpNo X1.here hx rfl (hb hby d1_11) rfl (XT.ii_ge_f (by decide)) gk) ?_
  show Go _ _ _ _ T1 (mkF m 14 #[.val (.ref u_KWH), .val (.ref vb), .val (.int (4 : Int32)), .val (.int (0 : Int32)), .unset] [])
  refine Go.by (fun _ gk => XS.aloadN X1.here hx rfl (hb hby d1_14) rfl rfl gk) ?_
  show Go _ _ _ _ T1 (mkF m 15 #[.val (.ref u_KWH), .val (.ref vb), .val (.int (4 : Int32)), .val (.int (0 : Int32)), .unset] [(.ref vb)])
  refine Go.by (fun _ gk => XS.iloadN X1.here hx rfl (hb hby d1_15) rfl gk) ?_
  show Go _ _ _ _ T1 (mkF m 16 #[.val (.ref u_KWH), .val (.ref vb), .val (.int (4 : Int32)), .val (.int (0 : Int32)), .unset] [(.int (0 : Int32)), (.ref vb)])
  obtain ⟨cl3, Ar3, -, S3, M3, H3, -⟩ := id Q1_0
  have hin3 : ¬ ((0 : Int32) < 0 ∨ cl3.slots.size ≤ (0 : Int32).toNatClampNeg) := inb_of S3 ⟨by decide, by decide⟩
  refine Go.by (fun _ gk => X1.aaload hx (j := (0 : Int32)) (v := (.ref d_KW)) (by exact Ar3.1) (State.isArrayOf_alike hZ.alike Ar3.2.1) rfl Ar3.2.2 hin3 (Has.at H3 hin3 rfl) (g := (mkF m 16 #[.val (.ref u_KWH), .val (.ref vb), .val (.int (4 : Int32)), .val (.int (0 : Int32)), .unset] [(.int (0 : Int32)), (.ref vb)])) rfl rfl (hb hby d1_16) _ gk) ?_
  show Go _ _ _ _ T1 (mkF m 17 #[.val (.ref u_KWH), .val (.ref vb), .val (.int (4 : Int32)), .val (.int (0 : Int32)), .unset] [(.ref d_KW)])
  refine Go.by (fun _ gk => XS.astore X1.here hx rfl (hb hby d1_17) rfl rfl (l' := #[.val (.ref u_KWH), .val (.ref vb), .val (.int (4 : Int32)), .val (.int (0 : Int32)), .val (.ref d_KW)]) rfl gk) ?_
  show Go _ _ _ _ T1 (mkF m 19 #[.val (.ref u_KWH), .val (.ref vb), .val (.int (4 : Int32)), .val (.int (0 : Int32)), .val (.ref d_KW)] [])
  refine Go.by (fun _ gk => XS.aload X1.here hx rfl (hb hby d1_19) rfl rfl gk) ?_
  show Go _ _ _ _ T1 (mkF m 21 #[.val (.ref u_KWH), .val (.ref vb), .val (.int (4 : Int32)), .val (.int (0 : Int32)), .val (.ref d_KW)] [(.ref d_KW)])
  have F4 : Old Z n0 T1.heap := O0.keep K1 all0
  have F5 : Fld Z T1.heap d_KW "com/example/diligent_tariff/diligenttariff/billing/Determinant" "unit" "Lcom/example/diligent_tariff/diligenttariff/book/Unit;" (.ref u_KW) := D12.ext F4.2
  obtain ⟨T6, X6, e6, st6⟩ := getF X1 hx hZ hown (host := "") (Or.inl (hw _ (List.mem_of_getElem? (i := 27) rfl))) Via.refl rfl F5 (g := (mkF m 21 #[.val (.ref u_KWH), .val (.ref vb), .val (.int (4 : Int32)), .val (.int (0 : Int32)), .val (.ref d_KW)] [(.ref d_KW)])) rfl rfl (hb hby d1_21)
  refine Go.by st6 ?_
  show Go _ _ _ _ T6 (mkF m 24 #[.val (.ref u_KWH), .val (.ref vb), .val (.int (4 : Int32)), .val (.int (0 : Int32)), .val (.ref d_KW)] [(.ref u_KW)])
  refine Go.by (fun _ gk => XS.aloadN X6.here hx rfl (hb hby d1_24) rfl rfl gk) ?_
  show Go _ _ _ _ T6 (mkF m 25 #[.val (.ref u_KWH), .val (.ref vb), .val (.int (4 : Int32)), .val (.int (0 : Int32)), .val (.ref d_KW)] [(.ref u_KWH), (.ref u_KW)])
  refine Go.by (fun _ gk => XT.acmpYes X6.here hx rfl (pc0 := 25) (pc' := 34) rfl (hb hby d1_25) rfl rfl rfl (XT.aa_ne_t (fun q => (Fld.ne O_u_KW O_u_KWH (by decide)) (Value.ref.inj q))) (by decide) (by decide) gk) ?_
  show Go _ _ _ _ T6 (mkF m 34 #[.val (.ref u_KWH), .val (.ref vb), .val (.int (4 : Int32)), .val (.int (0 : Int32)), .val (.ref d_KW)] [])
  refine Go.by (fun _ gk => XT.iincV X6.here hx rfl (1 : Int32) (hb hby d1_34) (by decide) rfl (l' := #[.val (.ref u_KWH), .val (.ref vb), .val (.int (4 : Int32)), .val (.int (1 : Int32)), .val (.ref d_KW)]) rfl gk) ?_
  show Go _ _ _ _ T6 (mkF m 37 #[.val (.ref u_KWH), .val (.ref vb), .val (.int (4 : Int32)), .val (.int (1 : Int32)), .val (.ref d_KW)] [])
  refine Go.by (fun _ gk => XS.goto X6.here hx rfl (pc0 := 37) (pc' := 9) rfl (hb hby d1_37) (by decide) (by decide) gk) ?_
  show Go _ _ _ _ T6 (mkF m 9 #[.val (.ref u_KWH), .val (.ref vb), .val (.int (4 : Int32)), .val (.int (1 : Int32)), .val (.ref d_KW)] [])
  refine Go.by (fun _ gk => XS.iloadN X6.here hx rfl (hb hby d1_9) rfl gk) ?_
  show Go _ _ _ _ T6 (mkF m 10 #[.val (.ref u_KWH), .val (.ref vb), .val (.int (4 : Int32)), .val (.int (1 : Int32)), .val (.ref d_KW)] [(.int (1 : Int32))])
  refine Go.by (fun _ gk => XS.iloadN X6.here hx rfl (hb hby d1_10) rfl gk) ?_
  show Go _ _ _ _ T6 (mkF m 11 #[.val (.ref u_KWH), .val (.ref vb), .val (.int (4 : Int32)), .val (.int (1 : Int32)), .val (.ref d_KW)] [(.int (4 : Int32)), (.int (1 : Int32))])
  refine Go.by (fun _ gk => XS.icmpNo X6.here hx rfl (hb hby d1_11) rfl (XT.ii_ge_f (by decide)) gk) ?_
  show Go _ _ _ _ T6 (mkF m 14 #[.val (.ref u_KWH), .val (.ref vb), .val (.int (4 : Int32)), .val (.int (1 : Int32)), .val (.ref d_KW)] [])
  refine Go.by (fun _ gk => XS.aloadN X6.here hx rfl (hb hby d1_14) rfl rfl gk) ?_
  show Go _ _ _ _ T6 (mkF m 15 #[.val (.ref u_KWH), .val (.ref vb), .val (.int (4 : Int32)), .val (.int (1 : Int32)), .val (.ref d_KW)] [(.ref vb)])
  refine Go.by (fun _ gk => XS.iloadN X6.here hx rfl (hb hby d1_15) rfl gk) ?_
  show Go _ _ _ _ T6 (mkF m 16 #[.val (.ref u_KWH), .val (.ref vb), .val (.int (4 : Int32)), .val (.int (1 : Int32)), .val (.ref d_KW)] [(.int (1 : Int32)), (.ref vb)])
  obtain ⟨cl7, Ar7, -, S7, M7, H7, -⟩ := id Q1_0
  have hin7 : ¬ ((1 : Int32) < 0 ∨ cl7.slots.size ≤ (1 : Int32).toNatClampNeg) := inb_of S7 ⟨by decide, by decide⟩
  refine Go.by (fun _ gk => X6.aaload hx (j := (1 : Int32)) (v := (.ref d_KVA)) (by rw [e6]; exact Ar7.1) (State.isArrayOf_alike hZ.alike Ar7.2.1) rfl Ar7.2.2 hin7 (Has.at H7 hin7 rfl) (g := (mkF m 16 #[.val (.ref u_KWH), .val (.ref vb), .val (.int (4 : Int32)), .val (.int (1 : Int32)), .val (.ref d_KW)] [(.int (1 : Int32)), (.ref vb)])) rfl rfl (hb hby d1_16) _ gk) ?_
  show Go _ _ _ _ T6 (mkF m 17 #[.val (.ref u_KWH), .val (.ref vb), .val (.int (4 : Int32)), .val (.int (1 : Int32)), .val (.ref d_KW)] [(.ref d_KVA)])
  refine Go.by (fun _ gk => XS.astore X6.here hx rfl (hb hby d1_17) rfl rfl (l' := #[.val (.ref u_KWH), .val (.ref vb), .val (.int (4 : Int32)), .val (.int (1 : Int32)), .val (.ref d_KVA)]) rfl gk) ?_
  show Go _ _ _ _ T6 (mkF m 19 #[.val (.ref u_KWH), .val (.ref vb), .val (.int (4 : Int32)), .val (.int (1 : Int32)), .val (.ref d_KVA)] [])
  refine Go.by (fun _ gk => XS.aload X6.here hx rfl (hb hby d1_19) rfl rfl gk) ?_
  show Go _ _ _ _ T6 (mkF m 21 #[.val (.ref u_KWH), .val (.ref vb), .val (.int (4 : Int32)), .val (.int (1 : Int32)), .val (.ref d_KVA)] [(.ref d_KVA)])
  have F8 : Fld Z T1.heap d_KVA "com/example/diligent_tariff/diligenttariff/billing/Determinant" "unit" "Lcom/example/diligent_tariff/diligenttariff/book/Unit;" (.ref u_KVA) := D13.ext F4.2
  obtain ⟨T9, X9, e9, st9⟩ := getF X6 hx hZ hown (host := "") (Or.inl (hw _ (List.mem_of_getElem? (i := 27) rfl))) Via.refl e6 F8 (g := (mkF m 21 #[.val (.ref u_KWH), .val (.ref vb), .val (.int (4 : Int32)), .val (.int (1 : Int32)), .val (.ref d_KVA)] [(.ref d_KVA)])) rfl rfl (hb hby d1_21)
  refine Go.by st9 ?_
  show Go _ _ _ _ T9 (mkF m 24 #[.val (.ref u_KWH), .val (.ref vb), .val (.int (4 : Int32)), .val (.int (1 : Int32)), .val (.ref d_KVA)] [(.ref u_KVA)])
  refine Go.by (fun _ gk => XS.aloadN X9.here hx rfl (hb hby d1_24) rfl rfl gk) ?_
  show Go _ _ _ _ T9 (mkF m 25 #[.val (.ref u_KWH), .val (.ref vb), .val (.int (4 : Int32)), .val (.int (1 : Int32)), .val (.ref d_KVA)] [(.ref u_KWH), (.ref u_KVA)])
  refine Go.by (fun _ gk => XT.acmpYes X9.here hx rfl (pc0 := 25) (pc' := 34) rfl (hb hby d1_25) rfl rfl rfl (XT.aa_ne_t (fun q => (Fld.ne O_u_KVA O_u_KWH (by decide)) (Value.ref.inj q))) (by decide) (by decide) gk) ?_
  show Go _ _ _ _ T9 (mkF m 34 #[.val (.ref u_KWH), .val (.ref vb), .val (.int (4 : Int32)), .val (.int (1 : Int32)), .val (.ref d_KVA)] [])
  refine Go.by (fun _ gk => XT.iincV X9.here hx rfl (1 : Int32) (hb hby d1_34) (by decide) rfl (l' := #[.val (.ref u_KWH), .val (.ref vb), .val (.int (4 : Int32)), .val (.int (2 : Int32)), .val (.ref d_KVA)]) rfl gk) ?_
  show Go _ _ _ _ T9 (mkF m 37 #[.val (.ref u_KWH), .val (.ref vb), .val (.int (4 : Int32)), .val (.int (2 : Int32)), .val (.ref d_KVA)] [])
  refine Go.by (fun _ gk => XS.goto X9.here hx rfl (pc0 := 37) (pc' := 9) rfl (hb hby d1_37) (by decide) (by decide) gk) ?_
  show Go _ _ _ _ T9 (mkF m 9 #[.val (.ref u_KWH), .val (.ref vb), .val (.int (4 : Int32)), .val (.int (2 : Int32)), .val (.ref d_KVA)] [])
  refine Go.by (fun _ gk => XS.iloadN X9.here hx rfl (hb hby d1_9) rfl gk) ?_
  show Go _ _ _ _ T9 (mkF m 10 #[.val (.ref u_KWH), .val (.ref vb), .val (.int (4 : Int32)), .val (.int (2 : Int32)), .val (.ref d_KVA)] [(.int (2 : Int32))])
  refine Go.by (fun _ gk => XS.iloadN X9.here hx rfl (hb hby d1_10) rfl gk) ?_
  show Go _ _ _ _ T9 (mkF m 11 #[.val (.ref u_KWH), .val (.ref vb), .val (.int (4 : Int32)), .val (.int (2 : Int32)), .val (.ref d_KVA)] [(.int (4 : Int32)), (.int (2 : Int32))])
  refine Go.by (fun _ gk => XS.icmpNo X9.here hx rfl (hb hby d1_11) rfl (XT.ii_ge_f (by decide)) gk) ?_
  show Go _ _ _ _ T9 (mkF m 14 #[.val (.ref u_KWH), .val (.ref vb), .val (.int (4 : Int32)), .val (.int (2 : Int32)), .val (.ref d_KVA)] [])
  refine Go.by (fun _ gk => XS.aloadN X9.here hx rfl (hb hby d1_14) rfl rfl gk) ?_
  show Go _ _ _ _ T9 (mkF m 15 #[.val (.ref u_KWH), .val (.ref vb), .val (.int (4 : Int32)), .val (.int (2 : Int32)), .val (.ref d_KVA)] [(.ref vb)])
  refine Go.by (fun _ gk => XS.iloadN X9.here hx rfl (hb hby d1_15) rfl gk) ?_
  show Go _ _ _ _ T9 (mkF m 16 #[.val (.ref u_KWH), .val (.ref vb), .val (.int (4 : Int32)), .val (.int (2 : Int32)), .val (.ref d_KVA)] [(.int (2 : Int32)), (.ref vb)])
  obtain ⟨cl10, Ar10, -, S10, M10, H10, -⟩ := id Q1_0
  have hin10 : ¬ ((2 : Int32) < 0 ∨ cl10.slots.size ≤ (2 : Int32).toNatClampNeg) := inb_of S10 ⟨by decide, by decide⟩
  refine Go.by (fun _ gk => X9.aaload hx (j := (2 : Int32)) (v := (.ref d_PHASE)) (by rw [e9]; exact Ar10.1) (State.isArrayOf_alike hZ.alike Ar10.2.1) rfl Ar10.2.2 hin10 (Has.at H10 hin10 rfl) (g := (mkF m 16 #[.val (.ref u_KWH), .val (.ref vb), .val (.int (4 : Int32)), .val (.int (2 : Int32)), .val (.ref d_KVA)] [(.int (2 : Int32)), (.ref vb)])) rfl rfl (hb hby d1_16) _ gk) ?_
  show Go _ _ _ _ T9 (mkF m 17 #[.val (.ref u_KWH), .val (.ref vb), .val (.int (4 : Int32)), .val (.int (2 : Int32)), .val (.ref d_KVA)] [(.ref d_PHASE)])
  refine Go.by (fun _ gk => XS.astore X9.here hx rfl (hb hby d1_17) rfl rfl (l' := #[.val (.ref u_KWH), .val (.ref vb), .val (.int (4 : Int32)), .val (.int (2 : Int32)), .val (.ref d_PHASE)]) rfl gk) ?_
  show Go _ _ _ _ T9 (mkF m 19 #[.val (.ref u_KWH), .val (.ref vb), .val (.int (4 : Int32)), .val (.int (2 : Int32)), .val (.ref d_PHASE)] [])
  refine Go.by (fun _ gk => XS.aload X9.here hx rfl (hb hby d1_19) rfl rfl gk) ?_
  show Go _ _ _ _ T9 (mkF m 21 #[.val (.ref u_KWH), .val (.ref vb), .val (.int (4 : Int32)), .val (.int (2 : Int32)), .val (.ref d_PHASE)] [(.ref d_PHASE)])
  have F11 : Fld Z T1.heap d_PHASE "com/example/diligent_tariff/diligenttariff/billing/Determinant" "unit" "Lcom/example/diligent_tariff/diligenttariff/book/Unit;" .null := D14.ext F4.2
  obtain ⟨T12, X12, e12, st12⟩ := getF X9 hx hZ hown (host := "") (Or.inl (hw _ (List.mem_of_getElem? (i := 27) rfl))) Via.refl e9 F11 (g := (mkF m 21 #[.val (.ref u_KWH), .val (.ref vb), .val (.int (4 : Int32)), .val (.int (2 : Int32)), .val (.ref d_PHASE)] [(.ref d_PHASE)])) rfl rfl (hb hby d1_21)
  refine Go.by st12 ?_
  show Go _ _ _ _ T12 (mkF m 24 #[.val (.ref u_KWH), .val (.ref vb), .val (.int (4 : Int32)), .val (.int (2 : Int32)), .val (.ref d_PHASE)] [.null])
  refine Go.by (fun _ gk => XS.aloadN X12.here hx rfl (hb hby d1_24) rfl rfl gk) ?_
  show Go _ _ _ _ T12 (mkF m 25 #[.val (.ref u_KWH), .val (.ref vb), .val (.int (4 : Int32)), .val (.int (2 : Int32)), .val (.ref d_PHASE)] [(.ref u_KWH), .null])
  refine Go.by (fun _ gk => XT.acmpYes X12.here hx rfl (pc0 := 25) (pc' := 34) rfl (hb hby d1_25) rfl rfl rfl (XT.aa_ne_t nofun) (by decide) (by decide) gk) ?_
  show Go _ _ _ _ T12 (mkF m 34 #[.val (.ref u_KWH), .val (.ref vb), .val (.int (4 : Int32)), .val (.int (2 : Int32)), .val (.ref d_PHASE)] [])
  refine Go.by (fun _ gk => XT.iincV X12.here hx rfl (1 : Int32) (hb hby d1_34) (by decide) rfl (l' := #[.val (.ref u_KWH), .val (.ref vb), .val (.int (4 : Int32)), .val (.int (3 : Int32)), .val (.ref d_PHASE)]) rfl gk) ?_
  show Go _ _ _ _ T12 (mkF m 37 #[.val (.ref u_KWH), .val (.ref vb), .val (.int (4 : Int32)), .val (.int (3 : Int32)), .val (.ref d_PHASE)] [])
  refine Go.by (fun _ gk => XS.goto X12.here hx rfl (pc0 := 37) (pc' := 9) rfl (hb hby d1_37) (by decide) (by decide) gk) ?_
  show Go _ _ _ _ T12 (mkF m 9 #[.val (.ref u_KWH), .val (.ref vb), .val (.int (4 : Int32)), .val (.int (3 : Int32)), .val (.ref d_PHASE)] [])
  refine Go.by (fun _ gk => XS.iloadN X12.here hx rfl (hb hby d1_9) rfl gk) ?_
  show Go _ _ _ _ T12 (mkF m 10 #[.val (.ref u_KWH), .val (.ref vb), .val (.int (4 : Int32)), .val (.int (3 : Int32)), .val (.ref d_PHASE)] [(.int (3 : Int32))])
  refine Go.by (fun _ gk => XS.iloadN X12.here hx rfl (hb hby d1_10) rfl gk) ?_
  show Go _ _ _ _ T12 (mkF m 11 #[.val (.ref u_KWH), .val (.ref vb), .val (.int (4 : Int32)), .val (.int (3 : Int32)), .val (.ref d_PHASE)] [(.int (4 : Int32)), (.int (3 : Int32))])
  refine Go.by (fun _ gk => XS.icmpNo X12.here hx rfl (hb hby d1_11) rfl (XT.ii_ge_f (by decide)) gk) ?_
  show Go _ _ _ _ T12 (mkF m 14 #[.val (.ref u_KWH), .val (.ref vb), .val (.int (4 : Int32)), .val (.int (3 : Int32)), .val (.ref d_PHASE)] [])
  refine Go.by (fun _ gk => XS.aloadN X12.here hx rfl (hb hby d1_14) rfl rfl gk) ?_
  show Go _ _ _ _ T12 (mkF m 15 #[.val (.ref u_KWH), .val (.ref vb), .val (.int (4 : Int32)), .val (.int (3 : Int32)), .val (.ref d_PHASE)] [(.ref vb)])
  refine Go.by (fun _ gk => XS.iloadN X12.here hx rfl (hb hby d1_15) rfl gk) ?_
  show Go _ _ _ _ T12 (mkF m 16 #[.val (.ref u_KWH), .val (.ref vb), .val (.int (4 : Int32)), .val (.int (3 : Int32)), .val (.ref d_PHASE)] [(.int (3 : Int32)), (.ref vb)])
  obtain ⟨cl13, Ar13, -, S13, M13, H13, -⟩ := id Q1_0
  have hin13 : ¬ ((3 : Int32) < 0 ∨ cl13.slots.size ≤ (3 : Int32).toNatClampNeg) := inb_of S13 ⟨by decide, by decide⟩
  refine Go.by (fun _ gk => X12.aaload hx (j := (3 : Int32)) (v := (.ref d_INTERVALS)) (by rw [e12]; exact Ar13.1) (State.isArrayOf_alike hZ.alike Ar13.2.1) rfl Ar13.2.2 hin13 (Has.at H13 hin13 rfl) (g := (mkF m 16 #[.val (.ref u_KWH), .val (.ref vb), .val (.int (4 : Int32)), .val (.int (3 : Int32)), .val (.ref d_PHASE)] [(.int (3 : Int32)), (.ref vb)])) rfl rfl (hb hby d1_16) _ gk) ?_
  show Go _ _ _ _ T12 (mkF m 17 #[.val (.ref u_KWH), .val (.ref vb), .val (.int (4 : Int32)), .val (.int (3 : Int32)), .val (.ref d_PHASE)] [(.ref d_INTERVALS)])
  refine Go.by (fun _ gk => XS.astore X12.here hx rfl (hb hby d1_17) rfl rfl (l' := #[.val (.ref u_KWH), .val (.ref vb), .val (.int (4 : Int32)), .val (.int (3 : Int32)), .val (.ref d_INTERVALS)]) rfl gk) ?_
  show Go _ _ _ _ T12 (mkF m 19 #[.val (.ref u_KWH), .val (.ref vb), .val (.int (4 : Int32)), .val (.int (3 : Int32)), .val (.ref d_INTERVALS)] [])
  refine Go.by (fun _ gk => XS.aload X12.here hx rfl (hb hby d1_19) rfl rfl gk) ?_
  show Go _ _ _ _ T12 (mkF m 21 #[.val (.ref u_KWH), .val (.ref vb), .val (.int (4 : Int32)), .val (.int (3 : Int32)), .val (.ref d_INTERVALS)] [(.ref d_INTERVALS)])
  have F14 : Fld Z T1.heap d_INTERVALS "com/example/diligent_tariff/diligenttariff/billing/Determinant" "unit" "Lcom/example/diligent_tariff/diligenttariff/book/Unit;" .null := D15.ext F4.2
  obtain ⟨T15, X15, e15, st15⟩ := getF X12 hx hZ hown (host := "") (Or.inl (hw _ (List.mem_of_getElem? (i := 27) rfl))) Via.refl e12 F14 (g := (mkF m 21 #[.val (.ref u_KWH), .val (.ref vb), .val (.int (4 : Int32)), .val (.int (3 : Int32)), .val (.ref d_INTERVALS)] [(.ref d_INTERVALS)])) rfl rfl (hb hby d1_21)
  refine Go.by st15 ?_
  show Go _ _ _ _ T15 (mkF m 24 #[.val (.ref u_KWH), .val (.ref vb), .val (.int (4 : Int32)), .val (.int (3 : Int32)), .val (.ref d_INTERVALS)] [.null])
  refine Go.by (fun _ gk => XS.aloadN X15.here hx rfl (hb hby d1_24) rfl rfl gk) ?_
  show Go _ _ _ _ T15 (mkF m 25 #[.val (.ref u_KWH), .val (.ref vb), .val (.int (4 : Int32)), .val (.int (3 : Int32)), .val (.ref d_INTERVALS)] [(.ref u_KWH), .null])
  refine Go.by (fun _ gk => XT.acmpYes X15.here hx rfl (pc0 := 25) (pc' := 34) rfl (hb hby d1_25) rfl rfl rfl (XT.aa_ne_t nofun) (by decide) (by decide) gk) ?_
  show Go _ _ _ _ T15 (mkF m 34 #[.val (.ref u_KWH), .val (.ref vb), .val (.int (4 : Int32)), .val (.int (3 : Int32)), .val (.ref d_INTERVALS)] [])
  refine Go.by (fun _ gk => XT.iincV X15.here hx rfl (1 : Int32) (hb hby d1_34) (by decide) rfl (l' := #[.val (.ref u_KWH), .val (.ref vb), .val (.int (4 : Int32)), .val (.int (4 : Int32)), .val (.ref d_INTERVALS)]) rfl gk) ?_
  show Go _ _ _ _ T15 (mkF m 37 #[.val (.ref u_KWH), .val (.ref vb), .val (.int (4 : Int32)), .val (.int (4 : Int32)), .val (.ref d_INTERVALS)] [])
  refine Go.by (fun _ gk => XS.goto X15.here hx rfl (pc0 := 37) (pc' := 9) rfl (hb hby d1_37) (by decide) (by decide) gk) ?_
  show Go _ _ _ _ T15 (mkF m 9 #[.val (.ref u_KWH), .val (.ref vb), .val (.int (4 : Int32)), .val (.int (4 : Int32)), .val (.ref d_INTERVALS)] [])
  refine Go.by (fun _ gk => XS.iloadN X15.here hx rfl (hb hby d1_9) rfl gk) ?_
  show Go _ _ _ _ T15 (mkF m 10 #[.val (.ref u_KWH), .val (.ref vb), .val (.int (4 : Int32)), .val (.int (4 : Int32)), .val (.ref d_INTERVALS)] [(.int (4 : Int32))])
  refine Go.by (fun _ gk => XS.iloadN X15.here hx rfl (hb hby d1_10) rfl gk) ?_
  show Go _ _ _ _ T15 (mkF m 11 #[.val (.ref u_KWH), .val (.ref vb), .val (.int (4 : Int32)), .val (.int (4 : Int32)), .val (.ref d_INTERVALS)] [(.int (4 : Int32)), (.int (4 : Int32))])
  refine Go.by (fun _ gk => XS.icmpYes X15.here hx rfl (pc0 := 11) (pc' := 40) rfl (hb hby d1_11) rfl (XT.ii_ge_t (by decide)) (by decide) (by decide) gk) ?_
  show Go _ _ _ _ T15 (mkF m 40 #[.val (.ref u_KWH), .val (.ref vb), .val (.int (4 : Int32)), .val (.int (4 : Int32)), .val (.ref d_INTERVALS)] [])
  have F16 : n0 ≤ T1.heap.size := Nat.le_trans Z0 K1.1
  obtain ⟨_, _, ⟨T17, L17, k17, n17⟩, -, X17, ⟨Lc17, hQ17, l17, y17, z17⟩, st17⟩ := Jvm.LawKit.callS X15 hx (y := (⟨"java/util/Optional", "empty", "()Ljava/util/Optional;"⟩ : MethodName)) hown (mvT hZ (hw _ (List.mem_of_getElem? (i := 31) rfl))) (mvT hZ (hw _ (List.mem_of_getElem? (i := 32) rfl))) (mvT hZ (hw _ (List.mem_of_getElem? (i := 33) rfl))) (mvT hZ (hw _ (List.mem_of_getElem? (i := 34) rfl))) (by decide) (backOf (W := 0) (rmEmpty l Z a0 hw [] u_MONTH u_BILL u_KWH u_KW u_KVA d_KW d_KVA d_PHASE d_INTERVALS va kv em T1.heap n0 F16 F4 S_u_MONTH E_u_MONTH O_u_MONTH S_u_BILL E_u_BILL O_u_BILL S_u_KWH E_u_KWH O_u_KWH S_u_KW E_u_KW O_u_KW S_u_KVA E_u_KVA O_u_KVA D0 D1 D2 D3 D4 D5 D6 D7 D8 D9 D10 D11 D12 D13 D14 D15) hZ (hw _ (List.mem_of_getElem? (i := 34) rfl)) (hw _ (List.mem_of_getElem? (i := 33) rfl)) (by decide) (by decide)) (g := (mkF m 40 #[.val (.ref u_KWH), .val (.ref vb), .val (.int (4 : Int32)), .val (.int (4 : Int32)), .val (.ref d_INTERVALS)] [])) rfl (by rw [hml]; rfl) (argsL := []) (rest := []) (lenOf pd_66 rfl) rfl (by show 2 * 0 + _ ≤ _; exact Nat.le_of_eq rfl) (hb hby d1_40) (fun _ _ => ⟨rfl, e15, (by decide : 1 + 0 ≤ _), (by decide : 4 + 0 ≤ _)⟩)
  dsimp only [Pt.U, Pt.locs, Pt.cells, Pt.slots] at X17 l17 y17 z17 st17 hQ17
  subst l17 y17 z17
  obtain ⟨rfl, N17q, e17⟩ := hQ17
  have N17 := Fr.app N1 N17q
  refine Go.by st17 ?_
  show Go _ _ _ _ T17 (mkF m 43 #[.val (.ref u_KWH), .val (.ref vb), .val (.int (4 : Int32)), .val (.int (4 : Int32)), .val (.ref d_INTERVALS)] [(.ref em)])
  have F18 : Keep h0 T1.heap [] := (Keep.refl h0 []).trans K1 all0
  exact Go.retA X17 hx Bd.notSynchronized Bd.returns rfl rfl (hb hby d1_43) (by rw [e17]; exact ⟨rfl, N17, F18⟩) (by decide) (by decide)
theorem d1_28 : decode prog_6_method_4_code 28 = .ok (.aload 4, 2) := by decide +kernel
theorem pd_70 : parseMethodDescriptor "(Ljava/lang/Object;)Ljava/util/Optional;" = some ⟨[(.object "java/lang/Object")], some (.object "java/util/Optional")⟩ := by decide +kernel
theorem d1_30 : decode prog_6_method_4_code 30 = .ok (.invokestatic 43, 3) := by decide +kernel
theorem d1_33 : decode prog_6_method_4_code 33 = .ok (.areturn, 1) := by decide +kernel
def Q_rmGiving_KW (Z : State) (u_MONTH : Addr) (u_BILL : Addr) (u_KWH : Addr) (u_KW : Addr) (u_KVA : Addr) (d_KW : Addr) (d_KVA : Addr) (d_PHASE : Addr) (d_INTERVALS : Addr) (va : Addr) (kv : ClassId) (em : Addr) (h0 : Heap) (n0 : Nat) (v : Option Value) (h : Heap) (L : List Loc) : Prop := ∃ o : Addr, v = some (.ref o) ∧ Fr n0 L ∧ Keep h0 h [] ∧ Exa Z h o "java/util/Optional" ∧ Fld Z h o "java/util/Optional" "value" "Ljava/lang/Object;" (.ref d_KW) ∧ h0.size ≤ o
set_option maxRecDepth 65536 in
set_option maxHeartbeats 40000000 in
theorem rmGiving_KW (l : Launch) (Z : State) (a0 : Array Value) (hw : ∀ d ∈ tables_1, d.before a0 Z = true) (ws : List Jvm.Cond) (u_MONTH : Addr) (u_BILL : Addr) (u_KWH : Addr) (u_KW : Addr) (u_KVA : Addr) (d_KW : Addr) (d_KVA : Addr) (d_PHASE : Addr) (d_INTERVALS : Addr) (va : Addr) (kv : ClassId) (em : Addr) (h0 : Heap) (n0 : Nat) (Z0 : n0 ≤ h0.size) (O0 : Old Z n0 h0) (S_u_MONTH : Sta Z Z.heap "com/example/diligent_tariff/diligenttariff/book/Unit" "MONTH" "Lcom/example/diligent_tariff/diligenttariff/book/Unit;" (.ref u_MONTH)) (E_u_MONTH : Exa Z Z.heap u_MONTH "com/example/diligent_tariff/diligenttariff/book/Unit") (O_u_MONTH : Fld Z Z.heap u_MONTH "java/lang/Enum" "ordinal" "I" (.int 0)) (S_u_BILL : Sta Z Z.heap "com/example/diligent_tariff/diligenttariff/book/Unit" "BILL" "Lcom/example/diligent_tariff/diligenttariff/book/Unit;" (.ref u_BILL)) (E_u_BILL : Exa Z Z.heap u_BILL "com/example/diligent_tariff/diligenttariff/book/Unit") (O_u_BILL : Fld Z Z.heap u_BILL "java/lang/Enum" "ordinal" "I" (.int 1)) (S_u_KWH : Sta Z Z.heap "com/example/diligent_tariff/diligenttariff/book/Unit" "KWH" "Lcom/example/diligent_tariff/diligenttariff/book/Unit;" (.ref u_KWH)) (E_u_KWH : Exa Z Z.heap u_KWH "com/example/diligent_tariff/diligenttariff/book/Unit") (O_u_KWH : Fld Z Z.heap u_KWH "java/lang/Enum" "ordinal" "I" (.int 2)) (S_u_KW : Sta Z Z.heap "com/example/diligent_tariff/diligenttariff/book/Unit" "KW" "Lcom/example/diligent_tariff/diligenttariff/book/Unit;" (.ref u_KW)) (E_u_KW : Exa Z Z.heap u_KW "com/example/diligent_tariff/diligenttariff/book/Unit") (O_u_KW : Fld Z Z.heap u_KW "java/lang/Enum" "ordinal" "I" (.int 3)) (S_u_KVA : Sta Z Z.heap "com/example/diligent_tariff/diligenttariff/book/Unit" "KVA" "Lcom/example/diligent_tariff/diligenttariff/book/Unit;" (.ref u_KVA)) (E_u_KVA : Exa Z Z.heap u_KVA "com/example/diligent_tariff/diligenttariff/book/Unit") (O_u_KVA : Fld Z Z.heap u_KVA "java/lang/Enum" "ordinal" "I" (.int 4)) (D0 : Sta Z Z.heap "com/example/diligent_tariff/diligenttariff/billing/Determinant" "KW" "Lcom/example/diligent_tariff/diligenttariff/billing/Determinant;" (.ref d_KW)) (D1 : Sta Z Z.heap "com/example/diligent_tariff/diligenttariff/billing/Determinant" "KVA" "Lcom/example/diligent_tariff/diligenttariff/billing/Determinant;" (.ref d_KVA)) (D2 : Sta Z Z.heap "com/example/diligent_tariff/diligenttariff/billing/Determinant" "$VALUES" "[Lcom/example/diligent_tariff/diligenttariff/billing/Determinant;" (.ref va)) (D3 : Sta Z Z.heap "java/util/Optional" "EMPTY" "Ljava/util/Optional;" (.ref em)) (D4 : Arv Z Z.heap va kv (.object "com/example/diligent_tariff/diligenttariff/billing/Determinant") (4 : Int32) ([(.ref d_KW), (.ref d_KVA), (.ref d_PHASE), (.ref d_INTERVALS)]) .null) (D5 : Exa Z Z.heap va "[Lcom/example/diligent_tariff/diligenttariff/billing/Determinant;") (D6 : Exa Z Z.heap em "java/util/Optional") (D7 : Fld Z Z.heap em "java/util/Optional" "value" "Ljava/lang/Object;" .null) (D8 : Exa Z Z.heap d_KW "com/example/diligent_tariff/diligenttariff/billing/Determinant") (D9 : Exa Z Z.heap d_KVA "com/example/diligent_tariff/diligenttariff/billing/Determinant") (D10 : Exa Z Z.heap d_PHASE "com/example/diligent_tariff/diligenttariff/billing/Determinant") (D11 : Exa Z Z.heap d_INTERVALS "com/example/diligent_tariff/diligenttariff/billing/Determinant") (D12 : Fld Z Z.heap d_KW "com/example/diligent_tariff/diligenttariff/billing/Determinant" "unit" "Lcom/example/diligent_tariff/diligenttariff/book/Unit;" (.ref u_KW)) (D13 : Fld Z Z.heap d_KVA "com/example/diligent_tariff/diligenttariff/billing/Determinant" "unit" "Lcom/example/diligent_tariff/diligenttariff/book/Unit;" (.ref u_KVA)) (D14 : Fld Z Z.heap d_PHASE "com/example/diligent_tariff/diligenttariff/billing/Determinant" "unit" "Lcom/example/diligent_tariff/diligenttariff/book/Unit;" .null) (D15 : Fld Z Z.heap d_INTERVALS "com/example/diligent_tariff/diligenttariff/billing/Determinant" "unit" "Lcom/example/diligent_tariff/diligenttariff/book/Unit;" .null) :
    MetFree l (⟨"com/example/diligent_tariff/diligenttariff/billing/Determinant", "giving", "(Lcom/example/diligent_tariff/diligenttariff/book/Unit;)Ljava/util/Optional;"⟩ : MethodName) (head1 (Jvm.Cond.code (⟨"com/example/diligent_tariff/diligenttariff/billing/Determinant", "giving", "(Lcom/example/diligent_tariff/diligenttariff/book/Unit;)Ljava/util/Optional;"⟩ : MethodName) prog_6_method_4_code 5 (some (.object "java/util/Optional")) :: ws) ({ frames := 3, cells := 2, slots := 5, locals := 38 } : Room)) (fun as' U => as' = #[(.ref u_KW)] ∧ Z.Warmed39 U.vm ∧ U.heap = h0) (fun _ _ _ _ _ => True) (fun _ U o U' => ∃ v L, o = .returned v ∧ Q_rmGiving_KW Z u_MONTH u_BILL u_KWH u_KW u_KVA d_KW d_KVA d_PHASE d_INTERVALS va kv em h0 n0 v U'.heap L ∧ FrameEnd U o U' L ({ frames := 3, cells := 2, slots := 5, locals := 38 } : Room).cells ({ frames := 3, cells := 2, slots := 5, locals := 38 } : Room).slots) := by
  refine MetFree.of_bodySF (plainFor_of_name pn_2) hisR ?_
  intro p e s m args below meth c s₁ Bd hml0 hP hK
  obtain ⟨rfl, hZ, hh⟩ := hP
  have hx := Bd.exec
  have hby := Bd.bytes
  have hml : c.maxLocals = 5 := hml0
  have hown : s.vm.findClass "com/example/diligent_tariff/diligenttariff/billing/Determinant" = some m.cls := findClass_of_methodNamed Bd.named
  have hnm := (name_of_methodNamed Bd.named Bd.method).1
  have X0 : Stand p l e ({ frames := 3, cells := 2, slots := 5, locals := 38 } : Room) s m #[(.ref u_KW)] below meth c s₁ [] 0 0 := Stand.of_body Bd
  have e0 : s₁.heap = h0 := by rw [← hh, Bd.state]; rfl
  have N0 := Fr.nil n0
  refine Go.enter (F := EndN s (Q_rmGiving_KW Z u_MONTH u_BILL u_KWH u_KW u_KVA d_KW d_KVA d_PHASE d_INTERVALS va kv em h0 n0) ({ frames := 3, cells := 2, slots := 5, locals := 38 } : Room).cells ({ frames := 3, cells := 2, slots := 5, locals := 38 } : Room).slots) (ef_44 m u_KW) ?_
  show Go _ _ _ _ s₁ (mkF m 0 #[.val (.ref u_KW), .unset, .unset, .unset, .unset] [])
  obtain ⟨_, _, ⟨T1, L1, k1, n1⟩, -, X1, ⟨Lc1, hQ1, l1, y1, z1⟩, st1⟩ := Jvm.LawKit.callS X0 hx (y := (⟨"com/example/diligent_tariff/diligenttariff/billing/Determinant", "values", "()[Lcom/example/diligent_tariff/diligenttariff/billing/Determinant;"⟩ : MethodName)) hown (mvT hZ (hw _ (List.mem_of_getElem? (i := 8) rfl))) (mvT hZ (hw _ (List.mem_of_getElem? (i := 9) rfl))) (mvT hZ (hw _ (List.mem_of_getElem? (i := 6) rfl))) (mvT hZ (hw _ (List.mem_of_getElem? (i := 10) rfl))) (by decide) (backOf (W := 0) (rmValues l Z a0 hw [] u_MONTH u_BILL u_KWH u_KW u_KVA d_KW d_KVA d_PHASE d_INTERVALS va kv em h0 n0 Z0 O0 S_u_MONTH E_u_MONTH O_u_MONTH S_u_BILL E_u_BILL O_u_BILL S_u_KWH E_u_KWH O_u_KWH S_u_KW E_u_KW O_u_KW S_u_KVA E_u_KVA O_u_KVA D0 D1 D2 D3 D4 D5 D6 D7 D8 D9 D10 D11 D12 D13 D14 D15) hZ (hw _ (List.mem_of_getElem? (i := 10) rfl)) (hw _ (List.mem_of_getElem? (i := 6) rfl)) (by decide) (by decide)) (g := (mkF m 0 #[.val (.ref u_KW), .unset, .unset, .unset, .unset] [])) rfl (by rw [hml]; rfl) (argsL := []) (rest := []) (lenOf pd_45 rfl) rfl (by show 2 * 0 + _ ≤ _; exact Nat.le_of_eq rfl) (hb hby d1_0) (fun _ _ => ⟨rfl, e0, (by decide : 0 + 1 ≤ _), (by decide : 0 + 4 ≤ _)⟩)
  dsimp only [Pt.U, Pt.locs, Pt.cells, Pt.slots] at X1 l1 y1 z1 st1 hQ1
  subst l1 y1 z1
  obtain ⟨vb, rfl, N1q, K1, Q1_0, Q1_1, Q1_2⟩ := hQ1
  have N1 := Fr.app N0 N1q
  refine Go.by st1 ?_
  show Go _ _ _ _ T1 (mkF m 3 #[.val (.ref u_KW), .unset, .unset, .unset, .unset] [(.ref vb)])
  have ge_vb : n0 ≤ vb := Nat.le_trans Z0 Q1_2
  have sz_vb : h0.size ≤ vb := Nat.le_trans (Keep.refl h0 []).1 Q1_2
  refine Go.by (fun _ gk => XS.astoreN X1.here hx rfl (hb hby d1_3) rfl rfl (l' := #[.val (.ref u_KW), .val (.ref vb), .unset, .unset, .unset]) rfl gk) ?_
  show Go _ _ _ _ T1 (mkF m 4 #[.val (.ref u_KW), .val (.ref vb), .unset, .unset, .unset] [])
  refine Go.by (fun _ gk => XS.aloadN X1.here hx rfl (hb hby d1_4) rfl rfl gk) ?_
  show Go _ _ _ _ T1 (mkF m 5 #[.val (.ref u_KW), .val (.ref vb), .unset, .unset, .unset] [(.ref vb)])
  obtain ⟨cl2, Ar2, -, S2, M2, -, -⟩ := id Q1_0
  refine Go.by (fun _ gk => X1.arraylength hx (by exact Ar2.1) (State.isArrayOf_alike hZ.alike Ar2.2.1) (g := (mkF m 5 #[.val (.ref u_KW), .val (.ref vb), .unset, .unset, .unset] [(.ref vb)])) rfl rfl (hb hby d1_5) _ gk) ?_
  rw [len_of S2 M2]
  show Go _ _ _ _ T1 (mkF m 6 #[.val (.ref u_KW), .val (.ref vb), .unset, .unset, .unset] [(.int (4 : Int32))])
  refine Go.by (fun _ gk => XS.istoreN X1.here hx rfl (hb hby d1_6) rfl (l' := #[.val (.ref u_KW), .val (.ref vb), .val (.int (4 : Int32)), .unset, .unset]) rfl gk) ?_
  show Go _ _ _ _ T1 (mkF m 7 #[.val (.ref u_KW), .val (.ref vb), .val (.int (4 : Int32)), .unset, .unset] [])
  refine Go.by (fun _ gk => XT.iconstV X1.here hx rfl (0 : Int32) (hb hby d1_7) (by decide) gk) ?_
  show Go _ _ _ _ T1 (mkF m 8 #[.val (.ref u_KW), .val (.ref vb), .val (.int (4 : Int32)), .unset, .unset] [(.int (0 : Int32))])
  refine Go.by (fun _ gk => XS.istoreN X1.here hx rfl (hb hby d1_8) rfl (l' := #[.val (.ref u_KW), .val (.ref vb), .val (.int (4 : Int32)), .val (.int (0 : Int32)), .unset]) rfl gk) ?_
  show Go _ _ _ _ T1 (mkF m 9 #[.val (.ref u_KW), .val (.ref vb), .val (.int (4 : Int32)), .val (.int (0 : Int32)), .unset] [])
  refine Go.by (fun _ gk => XS.iloadN X1.here hx rfl (hb hby d1_9) rfl gk) ?_
  show Go _ _ _ _ T1 (mkF m 10 #[.val (.ref u_KW), .val (.ref vb), .val (.int (4 : Int32)), .val (.int (0 : Int32)), .unset] [(.int (0 : Int32))])
  refine Go.by (fun _ gk => XS.iloadN X1.here hx rfl (hb hby d1_10) rfl gk) ?_
  show Go _ _ _ _ T1 (mkF m 11 #[.val (.ref u_KW), .val (.ref vb), .val (.int (4 : Int32)), .val (.int (0 : Int32)), .unset] [(.int (4 : Int32)), (.int (0 : Int32))])
  refine Go.by (fun _ gk => XS.icmpNo X1.here hx rfl (hb hby d1_11) rfl (XT.ii_ge_f (by decide)) gk) ?_
  show Go _ _ _ _ T1 (mkF m 14 #[.val (.ref u_KW), .val (.ref vb), .val (.int (4 : Int32)), .val (.int (0 : Int32)), .unset] [])
  refine Go.by (fun _ gk => XS.aloadN X1.here hx rfl (hb hby d1_14) rfl rfl gk) ?_
  show Go _ _ _ _ T1 (mkF m 15 #[.val (.ref u_KW), .val (.ref vb), .val (.int (4 : Int32)), .val (.int (0 : Int32)), .unset] [(.ref vb)])
  refine Go.by (fun _ gk => XS.iloadN X1.here hx rfl (hb hby d1_15) rfl gk) ?_
  show Go _ _ _ _ T1 (mkF m 16 #[.val (.ref u_KW), .val (.ref vb), .val (.int (4 : Int32)), .val (.int (0 : Int32)), .unset] [(.int (0 : Int32)), (.ref vb)])
  obtain ⟨cl3, Ar3, -, S3, M3, H3, -⟩ := id Q1_0
  have hin3 : ¬ ((0 : Int32) < 0 ∨ cl3.slots.size ≤ (0 : Int32).toNatClampNeg) := inb_of S3 ⟨by decide, by decide⟩
  refine Go.by (fun _ gk => X1.aaload hx (j := (0 : Int32)) (v := (.ref d_KW)) (by exact Ar3.1) (State.isArrayOf_alike hZ.alike Ar3.2.1) rfl Ar3.2.2 hin3 (Has.at H3 hin3 rfl) (g := (mkF m 16 #[.val (.ref u_KW), .val (.ref vb), .val (.int (4 : Int32)), .val (.int (0 : Int32)), .unset] [(.int (0 : Int32)), (.ref vb)])) rfl rfl (hb hby d1_16) _ gk) ?_
  show Go _ _ _ _ T1 (mkF m 17 #[.val (.ref u_KW), .val (.ref vb), .val (.int (4 : Int32)), .val (.int (0 : Int32)), .unset] [(.ref d_KW)])
  refine Go.by (fun _ gk => XS.astore X1.here hx rfl (hb hby d1_17) rfl rfl (l' := #[.val (.ref u_KW), .val (.ref vb), .val (.int (4 : Int32)), .val (.int (0 : Int32)), .val (.ref d_KW)]) rfl gk) ?_
  show Go _ _ _ _ T1 (mkF m 19 #[.val (.ref u_KW), .val (.ref vb), .val (.int (4 : Int32)), .val (.int (0 : Int32)), .val (.ref d_KW)] [])
  refine Go.by (fun _ gk => XS.aload X1.here hx rfl (hb hby d1_19) rfl rfl gk) ?_
  show Go _ _ _ _ T1 (mkF m 21 #[.val (.ref u_KW), .val (.ref vb), .val (.int (4 : Int32)), .val (.int (0 : Int32)), .val (.ref d_KW)] [(.ref d_KW)])
  have F4 : Old Z n0 T1.heap := O0.keep K1 all0
  have F5 : Fld Z T1.heap d_KW "com/example/diligent_tariff/diligenttariff/billing/Determinant" "unit" "Lcom/example/diligent_tariff/diligenttariff/book/Unit;" (.ref u_KW) := D12.ext F4.2
  obtain ⟨T6, X6, e6, st6⟩ := getF X1 hx hZ hown (host := "") (Or.inl (hw _ (List.mem_of_getElem? (i := 27) rfl))) Via.refl rfl F5 (g := (mkF m 21 #[.val (.ref u_KW), .val (.ref vb), .val (.int (4 : Int32)), .val (.int (0 : Int32)), .val (.ref d_KW)] [(.ref d_KW)])) rfl rfl (hb hby d1_21)
  refine Go.by st6 ?_
  show Go _ _ _ _ T6 (mkF m 24 #[.val (.ref u_KW), .val (.ref vb), .val (.int (4 : Int32)), .val (.int (0 : Int32)), .val (.ref d_KW)] [(.ref u_KW)])
  refine Go.by (fun _ gk => XS.aloadN X6.here hx rfl (hb hby d1_24) rfl rfl gk) ?_
  show Go _ _ _ _ T6 (mkF m 25 #[.val (.ref u_KW), .val (.ref vb), .val (.int (4 : Int32)), .val (.int (0 : Int32)), .val (.ref d_KW)] [(.ref u_KW), (.ref u_KW)])
  refine Go.by (fun _ gk => XT.acmpNo X6.here hx rfl (hb hby d1_25) rfl rfl rfl (XT.aa_ne_f rfl) gk) ?_
  show Go _ _ _ _ T6 (mkF m 28 #[.val (.ref u_KW), .val (.ref vb), .val (.int (4 : Int32)), .val (.int (0 : Int32)), .val (.ref d_KW)] [])
  refine Go.by (fun _ gk => XS.aload X6.here hx rfl (hb hby d1_28) rfl rfl gk) ?_
  show Go _ _ _ _ T6 (mkF m 30 #[.val (.ref u_KW), .val (.ref vb), .val (.int (4 : Int32)), .val (.int (0 : Int32)), .val (.ref d_KW)] [(.ref d_KW)])
  have F7 : n0 ≤ T1.heap.size := Nat.le_trans Z0 K1.1
  have F8 : Keep h0 T1.heap [] := (Keep.refl h0 []).trans K1 all0
  obtain ⟨_, _, ⟨T9, L9, k9, n9⟩, -, X9, ⟨Lc9, hQ9, l9, y9, z9⟩, st9⟩ := Jvm.LawKit.callS X6 hx (y := (⟨"java/util/Optional", "of", "(Ljava/lang/Object;)Ljava/util/Optional;"⟩ : MethodName)) hown (mvT hZ (hw _ (List.mem_of_getElem? (i := 45) rfl))) (mvT hZ (hw _ (List.mem_of_getElem? (i := 46) rfl))) (mvT hZ (hw _ (List.mem_of_getElem? (i := 33) rfl))) (mvT hZ (hw _ (List.mem_of_getElem? (i := 47) rfl))) (by decide) (backOf (W := 0) (rmOf l Z a0 hw [] d_KW T1.heap n0 F7 ) hZ (hw _ (List.mem_of_getElem? (i := 47) rfl)) (hw _ (List.mem_of_getElem? (i := 33) rfl)) (by decide) (by decide)) (g := (mkF m 30 #[.val (.ref u_KW), .val (.ref vb), .val (.int (4 : Int32)), .val (.int (0 : Int32)), .val (.ref d_KW)] [(.ref d_KW)])) rfl (by rw [hml]; rfl) (argsL := [(.ref d_KW)]) (rest := []) (lenOf pd_70 rfl) rfl (by show 2 * 0 + _ ≤ _; exact Nat.le_of_eq rfl) (hb hby d1_30) (fun _ _ => ⟨rfl, e6, (by decide : 1 + 1 ≤ _), (by decide : 4 + 1 ≤ _)⟩)
  dsimp only [Pt.U, Pt.locs, Pt.cells, Pt.slots] at X9 l9 y9 z9 st9 hQ9
  subst l9 y9 z9
  obtain ⟨o, rfl, N9q, K9, Q9_0, Q9_1, Q9_2⟩ := hQ9
  have N9 := Fr.app N1 N9q
  refine Go.by st9 ?_
  show Go _ _ _ _ T9 (mkF m 33 #[.val (.ref u_KW), .val (.ref vb), .val (.int (4 : Int32)), .val (.int (0 : Int32)), .val (.ref d_KW)] [(.ref o)])
  have ge_o : n0 ≤ o := Nat.le_trans F7 Q9_2
  have sz_o : h0.size ≤ o := Nat.le_trans F8.1 Q9_2
  have ne_vb_o : vb ≠ o := Nat.ne_of_lt (Nat.lt_of_lt_of_le Q1_0.lt Q9_2)
  have F10 : Keep h0 T9.heap [] := F8.trans K9 all0
  exact Go.retA X9 hx Bd.notSynchronized Bd.returns rfl rfl (hb hby d1_33) ⟨o, rfl, N9, F10, Q9_0, Q9_1, sz_o⟩ (by decide) (by decide)
def Q_rmGiving_KVA (Z : State) (u_MONTH : Addr) (u_BILL : Addr) (u_KWH : Addr) (u_KW : Addr) (u_KVA : Addr) (d_KW : Addr) (d_KVA : Addr) (d_PHASE : Addr) (d_INTERVALS : Addr) (va : Addr) (kv : ClassId) (em : Addr) (h0 : Heap) (n0 : Nat) (v : Option Value) (h : Heap) (L : List Loc) : Prop := ∃ o : Addr, v = some (.ref o) ∧ Fr n0 L ∧ Keep h0 h [] ∧ Exa Z h o "java/util/Optional" ∧ Fld Z h o "java/util/Optional" "value" "Ljava/lang/Object;" (.ref d_KVA) ∧ h0.size ≤ o
set_option maxRecDepth 65536 in
set_option maxHeartbeats 40000000 in
theorem rmGiving_KVA (l : Launch) (Z : State) (a0 : Array Value) (hw : ∀ d ∈ tables_1, d.before a0 Z = true) (ws : List Jvm.Cond) (u_MONTH : Addr) (u_BILL : Addr) (u_KWH : Addr) (u_KW : Addr) (u_KVA : Addr) (d_KW : Addr) (d_KVA : Addr) (d_PHASE : Addr) (d_INTERVALS : Addr) (va : Addr) (kv : ClassId) (em : Addr) (h0 : Heap) (n0 : Nat) (Z0 : n0 ≤ h0.size) (O0 : Old Z n0 h0) (S_u_MONTH : Sta Z Z.heap "com/example/diligent_tariff/diligenttariff/book/Unit" "MONTH" "Lcom/example/diligent_tariff/diligenttariff/book/Unit;" (.ref u_MONTH)) (E_u_MONTH : Exa Z Z.heap u_MONTH "com/example/diligent_tariff/diligenttariff/book/Unit") (O_u_MONTH : Fld Z Z.heap u_MONTH "java/lang/Enum" "ordinal" "I" (.int 0)) (S_u_BILL : Sta Z Z.heap "com/example/diligent_tariff/diligenttariff/book/Unit" "BILL" "Lcom/example/diligent_tariff/diligenttariff/book/Unit;" (.ref u_BILL)) (E_u_BILL : Exa Z Z.heap u_BILL "com/example/diligent_tariff/diligenttariff/book/Unit") (O_u_BILL : Fld Z Z.heap u_BILL "java/lang/Enum" "ordinal" "I" (.int 1)) (S_u_KWH : Sta Z Z.heap "com/example/diligent_tariff/diligenttariff/book/Unit" "KWH" "Lcom/example/diligent_tariff/diligenttariff/book/Unit;" (.ref u_KWH)) (E_u_KWH : Exa Z Z.heap u_KWH "com/example/diligent_tariff/diligenttariff/book/Unit") (O_u_KWH : Fld Z Z.heap u_KWH "java/lang/Enum" "ordinal" "I" (.int 2)) (S_u_KW : Sta Z Z.heap "com/example/diligent_tariff/diligenttariff/book/Unit" "KW" "Lcom/example/diligent_tariff/diligenttariff/book/Unit;" (.ref u_KW)) (E_u_KW : Exa Z Z.heap u_KW "com/example/diligent_tariff/diligenttariff/book/Unit") (O_u_KW : Fld Z Z.heap u_KW "java/lang/Enum" "ordinal" "I" (.int 3)) (S_u_KVA : Sta Z Z.heap "com/example/diligent_tariff/diligenttariff/book/Unit" "KVA" "Lcom/example/diligent_tariff/diligenttariff/book/Unit;" (.ref u_KVA)) (E_u_KVA : Exa Z Z.heap u_KVA "com/example/diligent_tariff/diligenttariff/book/Unit") (O_u_KVA : Fld Z Z.heap u_KVA "java/lang/Enum" "ordinal" "I" (.int 4)) (D0 : Sta Z Z.heap "com/example/diligent_tariff/diligenttariff/billing/Determinant" "KW" "Lcom/example/diligent_tariff/diligenttariff/billing/Determinant;" (.ref d_KW)) (D1 : Sta Z Z.heap "com/example/diligent_tariff/diligenttariff/billing/Determinant" "KVA" "Lcom/example/diligent_tariff/diligenttariff/billing/Determinant;" (.ref d_KVA)) (D2 : Sta Z Z.heap "com/example/diligent_tariff/diligenttariff/billing/Determinant" "$VALUES" "[Lcom/example/diligent_tariff/diligenttariff/billing/Determinant;" (.ref va)) (D3 : Sta Z Z.heap "java/util/Optional" "EMPTY" "Ljava/util/Optional;" (.ref em)) (D4 : Arv Z Z.heap va kv (.object "com/example/diligent_tariff/diligenttariff/billing/Determinant") (4 : Int32) ([(.ref d_KW), (.ref d_KVA), (.ref d_PHASE), (.ref d_INTERVALS)]) .null) (D5 : Exa Z Z.heap va "[Lcom/example/diligent_tariff/diligenttariff/billing/Determinant;") (D6 : Exa Z Z.heap em "java/util/Optional") (D7 : Fld Z Z.heap em "java/util/Optional" "value" "Ljava/lang/Object;" .null) (D8 : Exa Z Z.heap d_KW "com/example/diligent_tariff/diligenttariff/billing/Determinant") (D9 : Exa Z Z.heap d_KVA "com/example/diligent_tariff/diligenttariff/billing/Determinant") (D10 : Exa Z Z.heap d_PHASE "com/example/diligent_tariff/diligenttariff/billing/Determinant") (D11 : Exa Z Z.heap d_INTERVALS "com/example/diligent_tariff/diligenttariff/billing/Determinant") (D12 : Fld Z Z.heap d_KW "com/example/diligent_tariff/diligenttariff/billing/Determinant" "unit" "Lcom/example/diligent_tariff/diligenttariff/book/Unit;" (.ref u_KW)) (D13 : Fld Z Z.heap d_KVA "com/example/diligent_tariff/diligenttariff/billing/Determinant" "unit" "Lcom/example/diligent_tariff/diligenttariff/book/Unit;" (.ref u_KVA)) (D14 : Fld Z Z.heap d_PHASE "com/example/diligent_tariff/diligenttariff/billing/Determinant" "unit" "Lcom/example/diligent_tariff/diligenttariff/book/Unit;" .null) (D15 : Fld Z Z.heap d_INTERVALS "com/example/diligent_tariff/diligenttariff/billing/Determinant" "unit" "Lcom/example/diligent_tariff/diligenttariff/book/Unit;" .null) :
    MetFree l (⟨"com/example/diligent_tariff/diligenttariff/billing/Determinant", "giving", "(Lcom/example/diligent_tariff/diligenttariff/book/Unit;)Ljava/util/Optional;"⟩ : MethodName) (head1 (Jvm.Cond.code (⟨"com/example/diligent_tariff/diligenttariff/billing/Determinant", "giving", "(Lcom/example/diligent_tariff/diligenttariff/book/Unit;)Ljava/util/Optional;"⟩ : MethodName) prog_6_method_4_code 5 (some (.object "java/util/Optional")) :: ws) ({ frames := 3, cells := 2, slots := 5, locals := 38 } : Room)) (fun as' U => as' = #[(.ref u_KVA)] ∧ Z.Warmed39 U.vm ∧ U.heap = h0) (fun _ _ _ _ _ => True) (fun _ U o U' => ∃ v L, o = .returned v ∧ Q_rmGiving_KVA Z u_MONTH u_BILL u_KWH u_KW u_KVA d_KW d_KVA d_PHASE d_INTERVALS va kv em h0 n0 v U'.heap L ∧ FrameEnd U o U' L ({ frames := 3, cells := 2, slots := 5, locals := 38 } : Room).cells ({ frames := 3, cells := 2, slots := 5, locals := 38 } : Room).slots) := by
  refine MetFree.of_bodySF (plainFor_of_name pn_2) hisR ?_
  intro p e s m args below meth c s₁ Bd hml0 hP hK
  obtain ⟨rfl, hZ, hh⟩ := hP
  have hx := Bd.exec
  have hby := Bd.bytes
  have hml : c.maxLocals = 5 := hml0
  have hown : s.vm.findClass "com/example/diligent_tariff/diligenttariff/billing/Determinant" = some m.cls := findClass_of_methodNamed Bd.named
  have hnm := (name_of_methodNamed Bd.named Bd.method).1
  have X0 : Stand p l e ({ frames := 3, cells := 2, slots := 5, locals := 38 } : Room) s m #[(.ref u_KVA)] below meth c s₁ [] 0 0 := Stand.of_body Bd
  have e0 : s₁.heap = h0 := by rw [← hh, Bd.state]; rfl
  have N0 := Fr.nil n0
  refine Go.enter (F := EndN s (Q_rmGiving_KVA Z u_MONTH u_BILL u_KWH u_KW u_KVA d_KW d_KVA d_PHASE d_INTERVALS va kv em h0 n0) ({ frames := 3, cells := 2, slots := 5, locals := 38 } : Room).cells ({ frames := 3, cells := 2, slots := 5, locals := 38 } : Room).slots) (ef_44 m u_KVA) ?_
  show Go _ _ _ _ s₁ (mkF m 0 #[.val (.ref u_KVA), .unset, .unset, .unset, .unset] [])
  obtain ⟨_, _, ⟨T1, L1, k1, n1⟩, -, X1, ⟨Lc1, hQ1, l1, y1, z1⟩, st1⟩ := Jvm.LawKit.callS X0 hx (y := (⟨"com/example/diligent_tariff/diligenttariff/billing/Determinant", "values", "()[Lcom/example/diligent_tariff/diligenttariff/billing/Determinant;"⟩ : MethodName)) hown (mvT hZ (hw _ (List.mem_of_getElem? (i := 8) rfl))) (mvT hZ (hw _ (List.mem_of_getElem? (i := 9) rfl))) (mvT hZ (hw _ (List.mem_of_getElem? (i := 6) rfl))) (mvT hZ (hw _ (List.mem_of_getElem? (i := 10) rfl))) (by decide) (backOf (W := 0) (rmValues l Z a0 hw [] u_MONTH u_BILL u_KWH u_KW u_KVA d_KW d_KVA d_PHASE d_INTERVALS va kv em h0 n0 Z0 O0 S_u_MONTH E_u_MONTH O_u_MONTH S_u_BILL E_u_BILL O_u_BILL S_u_KWH E_u_KWH O_u_KWH S_u_KW E_u_KW O_u_KW S_u_KVA E_u_KVA O_u_KVA D0 D1 D2 D3 D4 D5 D6 D7 D8 D9 D10 D11 D12 D13 D14 D15) hZ (hw _ (List.mem_of_getElem? (i := 10) rfl)) (hw _ (List.mem_of_getElem? (i := 6) rfl)) (by decide) (by decide)) (g := (mkF m 0 #[.val (.ref u_KVA), .unset, .unset, .unset, .unset] [])) rfl (by rw [hml]; rfl) (argsL := []) (rest := []) (lenOf pd_45 rfl) rfl (by show 2 * 0 + _ ≤ _; exact Nat.le_of_eq rfl) (hb hby d1_0) (fun _ _ => ⟨rfl, e0, (by decide : 0 + 1 ≤ _), (by decide : 0 + 4 ≤ _)⟩)
  dsimp only [Pt.U, Pt.locs, Pt.cells, Pt.slots] at X1 l1 y1 z1 st1 hQ1
  subst l1 y1 z1
  obtain ⟨vb, rfl, N1q, K1, Q1_0, Q1_1, Q1_2⟩ := hQ1
  have N1 := Fr.app N0 N1q
  refine Go.by st1 ?_
  show Go _ _ _ _ T1 (mkF m 3 #[.val (.ref u_KVA), .unset, .unset, .unset, .unset] [(.ref vb)])
  have ge_vb : n0 ≤ vb := Nat.le_trans Z0 Q1_2
  have sz_vb : h0.size ≤ vb := Nat.le_trans (Keep.refl h0 []).1 Q1_2
  refine Go.by (fun _ gk => XS.astoreN X1.here hx rfl (hb hby d1_3) rfl rfl (l' := #[.val (.ref u_KVA), .val (.ref vb), .unset, .unset, .unset]) rfl gk) ?_
  show Go _ _ _ _ T1 (mkF m 4 #[.val (.ref u_KVA), .val (.ref vb), .unset, .unset, .unset] [])
  refine Go.by (fun _ gk => XS.aloadN X1.here hx rfl (hb hby d1_4) rfl rfl gk) ?_
  show Go _ _ _ _ T1 (mkF m 5 #[.val (.ref u_KVA), .val (.ref vb), .unset, .unset, .unset] [(.ref vb)])
  obtain ⟨cl2, Ar2, -, S2, M2, -, -⟩ := id Q1_0
  refine Go.by (fun _ gk => X1.arraylength hx (by exact Ar2.1) (State.isArrayOf_alike hZ.alike Ar2.2.1) (g := (mkF m 5 #[.val (.ref u_KVA), .val (.ref vb), .unset, .unset, .unset] [(.ref vb)])) rfl rfl (hb hby d1_5) _ gk) ?_
  rw [len_of S2 M2]
  show Go _ _ _ _ T1 (mkF m 6 #[.val (.ref u_KVA), .val (.ref vb), .unset, .unset, .unset] [(.int (4 : Int32))])
  refine Go.by (fun _ gk => XS.istoreN X1.here hx rfl (hb hby d1_6) rfl (l' := #[.val (.ref u_KVA), .val (.ref vb), .val (.int (4 : Int32)), .unset, .unset]) rfl gk) ?_
  show Go _ _ _ _ T1 (mkF m 7 #[.val (.ref u_KVA), .val (.ref vb), .val (.int (4 : Int32)), .unset, .unset] [])
  refine Go.by (fun _ gk => XT.iconstV X1.here hx rfl (0 : Int32) (hb hby d1_7) (by decide) gk) ?_
  show Go _ _ _ _ T1 (mkF m 8 #[.val (.ref u_KVA), .val (.ref vb), .val (.int (4 : Int32)), .unset, .unset] [(.int (0 : Int32))])
  refine Go.by (fun _ gk => XS.istoreN X1.here hx rfl (hb hby d1_8) rfl (l' := #[.val (.ref u_KVA), .val (.ref vb), .val (.int (4 : Int32)), .val (.int (0 : Int32)), .unset]) rfl gk) ?_
  show Go _ _ _ _ T1 (mkF m 9 #[.val (.ref u_KVA), .val (.ref vb), .val (.int (4 : Int32)), .val (.int (0 : Int32)), .unset] [])
  refine Go.by (fun _ gk => XS.iloadN X1.here hx rfl (hb hby d1_9) rfl gk) ?_
  show Go _ _ _ _ T1 (mkF m 10 #[.val (.ref u_KVA), .val (.ref vb), .val (.int (4 : Int32)), .val (.int (0 : Int32)), .unset] [(.int (0 : Int32))])
  refine Go.by (fun _ gk => XS.iloadN X1.here hx rfl (hb hby d1_10) rfl gk) ?_
  show Go _ _ _ _ T1 (mkF m 11 #[.val (.ref u_KVA), .val (.ref vb), .val (.int (4 : Int32)), .val (.int (0 : Int32)), .unset] [(.int (4 : Int32)), (.int (0 : Int32))])
  refine Go.by (fun _ gk => XS.icmpNo X1.here hx rfl (hb hby d1_11) rfl (XT.ii_ge_f (by decide)) gk) ?_
  show Go _ _ _ _ T1 (mkF m 14 #[.val (.ref u_KVA), .val (.ref vb), .val (.int (4 : Int32)), .val (.int (0 : Int32)), .unset] [])
  refine Go.by (fun _ gk => XS.aloadN X1.here hx rfl (hb hby d1_14) rfl rfl gk) ?_
  show Go _ _ _ _ T1 (mkF m 15 #[.val (.ref u_KVA), .val (.ref vb), .val (.int (4 : Int32)), .val (.int (0 : Int32)), .unset] [(.ref vb)])
  refine Go.by (fun _ gk => XS.iloadN X1.here hx rfl (hb hby d1_15) rfl gk) ?_
  show Go _ _ _ _ T1 (mkF m 16 #[.val (.ref u_KVA), .val (.ref vb), .val (.int (4 : Int32)), .val (.int (0 : Int32)), .unset] [(.int (0 : Int32)), (.ref vb)])
  obtain ⟨cl3, Ar3, -, S3, M3, H3, -⟩ := id Q1_0
  have hin3 : ¬ ((0 : Int32) < 0 ∨ cl3.slots.size ≤ (0 : Int32).toNatClampNeg) := inb_of S3 ⟨by decide, by decide⟩
  refine Go.by (fun _ gk => X1.aaload hx (j := (0 : Int32)) (v := (.ref d_KW)) (by exact Ar3.1) (State.isArrayOf_alike hZ.alike Ar3.2.1) rfl Ar3.2.2 hin3 (Has.at H3 hin3 rfl) (g := (mkF m 16 #[.val (.ref u_KVA), .val (.ref vb), .val (.int (4 : Int32)), .val (.int (0 : Int32)), .unset] [(.int (0 : Int32)), (.ref vb)])) rfl rfl (hb hby d1_16) _ gk) ?_
  show Go _ _ _ _ T1 (mkF m 17 #[.val (.ref u_KVA), .val (.ref vb), .val (.int (4 : Int32)), .val (.int (0 : Int32)), .unset] [(.ref d_KW)])
  refine Go.by (fun _ gk => XS.astore X1.here hx rfl (hb hby d1_17) rfl rfl (l' := #[.val (.ref u_KVA), .val (.ref vb), .val (.int (4 : Int32)), .val (.int (0 : Int32)), .val (.ref d_KW)]) rfl gk) ?_
  show Go _ _ _ _ T1 (mkF m 19 #[.val (.ref u_KVA), .val (.ref vb), .val (.int (4 : Int32)), .val (.int (0 : Int32)), .val (.ref d_KW)] [])
  refine Go.by (fun _ gk => XS.aload X1.here hx rfl (hb hby d1_19) rfl rfl gk) ?_
  show Go _ _ _ _ T1 (mkF m 21 #[.val (.ref u_KVA), .val (.ref vb), .val (.int (4 : Int32)), .val (.int (0 : Int32)), .val (.ref d_KW)] [(.ref d_KW)])
  have F4 : Old Z n0 T1.heap := O0.keep K1 all0
  have F5 : Fld Z T1.heap d_KW "com/example/diligent_tariff/diligenttariff/billing/Determinant" "unit" "Lcom/example/diligent_tariff/diligenttariff/book/Unit;" (.ref u_KW) := D12.ext F4.2
  obtain ⟨T6, X6, e6, st6⟩ := getF X1 hx hZ hown (host := "") (Or.inl (hw _ (List.mem_of_getElem? (i := 27) rfl))) Via.refl rfl F5 (g := (mkF m 21 #[.val (.ref u_KVA), .val (.ref vb), .val (.int (4 : Int32)), .val (.int (0 : Int32)), .val (.ref d_KW)] [(.ref d_KW)])) rfl rfl (hb hby d1_21)
  refine Go.by st6 ?_
  show Go _ _ _ _ T6 (mkF m 24 #[.val (.ref u_KVA), .val (.ref vb), .val (.int (4 : Int32)), .val (.int (0 : Int32)), .val (.ref d_KW)] [(.ref u_KW)])
  refine Go.by (fun _ gk => XS.aloadN X6.here hx rfl (hb hby d1_24) rfl rfl gk) ?_
  show Go _ _ _ _ T6 (mkF m 25 #[.val (.ref u_KVA), .val (.ref vb), .val (.int (4 : Int32)), .val (.int (0 : Int32)), .val (.ref d_KW)] [(.ref u_KVA), (.ref u_KW)])
  refine Go.by (fun _ gk => XT.acmpYes X6.here hx rfl (pc0 := 25) (pc' := 34) rfl (hb hby d1_25) rfl rfl rfl (XT.aa_ne_t (fun q => (Fld.ne O_u_KW O_u_KVA (by decide)) (Value.ref.inj q))) (by decide) (by decide) gk) ?_
  show Go _ _ _ _ T6 (mkF m 34 #[.val (.ref u_KVA), .val (.ref vb), .val (.int (4 : Int32)), .val (.int (0 : Int32)), .val (.ref d_KW)] [])
  refine Go.by (fun _ gk => XT.iincV X6.here hx rfl (1 : Int32) (hb hby d1_34) (by decide) rfl (l' := #[.val (.ref u_KVA), .val (.ref vb), .val (.int (4 : Int32)), .val (.int (1 : Int32)), .val (.ref d_KW)]) rfl gk) ?_
  show Go _ _ _ _ T6 (mkF m 37 #[.val (.ref u_KVA), .val (.ref vb), .val (.int (4 : Int32)), .val (.int (1 : Int32)), .val (.ref d_KW)] [])
  refine Go.by (fun _ gk => XS.goto X6.here hx rfl (pc0 := 37) (pc' := 9) rfl (hb hby d1_37) (by decide) (by decide) gk) ?_
  show Go _ _ _ _ T6 (mkF m 9 #[.val (.ref u_KVA), .val (.ref vb), .val (.int (4 : Int32)), .val (.int (1 : Int32)), .val (.ref d_KW)] [])
  refine Go.by (fun _ gk => XS.iloadN X6.here hx rfl (hb hby d1_9) rfl gk) ?_
  show Go _ _ _ _ T6 (mkF m 10 #[.val (.ref u_KVA), .val (.ref vb), .val (.int (4 : Int32)), .val (.int (1 : Int32)), .val (.ref d_KW)] [(.int (1 : Int32))])
  refine Go.by (fun _ gk => XS.iloadN X6.here hx rfl (hb hby d1_10) rfl gk) ?_
  show Go _ _ _ _ T6 (mkF m 11 #[.val (.ref u_KVA), .val (.ref vb), .val (.int (4 : Int32)), .val (.int (1 : Int32)), .val (.ref d_KW)] [(.int (4 : Int32)), (.int (1 : Int32))])
  refine Go.by (fun _ gk => XS.icmpNo X6.here hx rfl (hb hby d1_11) rfl (XT.ii_ge_f (by decide)) gk) ?_
  show Go _ _ _ _ T6 (mkF m 14 #[.val (.ref u_KVA), .val (.ref vb), .val (.int (4 : Int32)), .val (.int (1 : Int32)), .val (.ref d_KW)] [])
  refine Go.by (fun _ gk => XS.aloadN X6.here hx rfl (hb hby d1_14) rfl rfl gk) ?_
  show Go _ _ _ _ T6 (mkF m 15 #[.val (.ref u_KVA), .val (.ref vb), .val (.int (4 : Int32)), .val (.int (1 : Int32)), .val (.ref d_KW)] [(.ref vb)])
  refine Go.by (fun _ gk => XS.iloadN X6.here hx rfl (hb hby d1_15) rfl gk) ?_
  show Go _ _ _ _ T6 (mkF m 16 #[.val (.ref u_KVA), .val (.ref vb), .val (.int (4 : Int32)), .val (.int (1 : Int32)), .val (.ref d_KW)] [(.int (1 : Int32)), (.ref vb)])
  obtain ⟨cl7, Ar7, -, S7, M7, H7, -⟩ := id Q1_0
  have hin7 : ¬ ((1 : Int32) < 0 ∨ cl7.slots.size ≤ (1 : Int32).toNatClampNeg) := inb_of S7 ⟨by decide, by decide⟩
  refine Go.by (fun _ gk => X6.aaload hx (j := (1 : Int32)) (v := (.ref d_KVA)) (by rw [e6]; exact Ar7.1) (State.isArrayOf_alike hZ.alike Ar7.2.1) rfl Ar7.2.2 hin7 (Has.at H7 hin7 rfl) (g := (mkF m 16 #[.val (.ref u_KVA), .val (.ref vb), .val (.int (4 : Int32)), .val (.int (1 : Int32)), .val (.ref d_KW)] [(.int (1 : Int32)), (.ref vb)])) rfl rfl (hb hby d1_16) _ gk) ?_
  show Go _ _ _ _ T6 (mkF m 17 #[.val (.ref u_KVA), .val (.ref vb), .val (.int (4 : Int32)), .val (.int (1 : Int32)), .val (.ref d_KW)] [(.ref d_KVA)])
  refine Go.by (fun _ gk => XS.astore X6.here hx rfl (hb hby d1_17) rfl rfl (l' := #[.val (.ref u_KVA), .val (.ref vb), .val (.int (4 : Int32)), .val (.int (1 : Int32)), .val (.ref d_KVA)]) rfl gk) ?_
  show Go _ _ _ _ T6 (mkF m 19 #[.val (.ref u_KVA), .val (.ref vb), .val (.int (4 : Int32)), .val (.int (1 : Int32)), .val (.ref d_KVA)] [])
  refine Go.by (fun _ gk => XS.aload X6.here hx rfl (hb hby d1_19) rfl rfl gk) ?_
  show Go _ _ _ _ T6 (mkF m 21 #[.val (.ref u_KVA), .val (.ref vb), .val (.int (4 : Int32)), .val (.int (1 : Int32)), .val (.ref d_KVA)] [(.ref d_KVA)])
  have F8 : Fld Z T1.heap d_KVA "com/example/diligent_tariff/diligenttariff/billing/Determinant" "unit" "Lcom/example/diligent_tariff/diligenttariff/book/Unit;" (.ref u_KVA) := D13.ext F4.2
  obtain ⟨T9, X9, e9, st9⟩ := getF X6 hx hZ hown (host := "") (Or.inl (hw _ (List.mem_of_getElem? (i := 27) rfl))) Via.refl e6 F8 (g := (mkF m 21 #[.val (.ref u_KVA), .val (.ref vb), .val (.int (4 : Int32)), .val (.int (1 : Int32)), .val (.ref d_KVA)] [(.ref d_KVA)])) rfl rfl (hb hby d1_21)
  refine Go.by st9 ?_
  show Go _ _ _ _ T9 (mkF m 24 #[.val (.ref u_KVA), .val (.ref vb), .val (.int (4 : Int32)), .val (.int (1 : Int32)), .val (.ref d_KVA)] [(.ref u_KVA)])
  refine Go.by (fun _ gk => XS.aloadN X9.here hx rfl (hb hby d1_24) rfl rfl gk) ?_
  show Go _ _ _ _ T9 (mkF m 25 #[.val (.ref u_KVA), .val (.ref vb), .val (.int (4 : Int32)), .val (.int (1 : Int32)), .val (.ref d_KVA)] [(.ref u_KVA), (.ref u_KVA)])
  refine Go.by (fun _ gk => XT.acmpNo X9.here hx rfl (hb hby d1_25) rfl rfl rfl (XT.aa_ne_f rfl) gk) ?_
  show Go _ _ _ _ T9 (mkF m 28 #[.val (.ref u_KVA), .val (.ref vb), .val (.int (4 : Int32)), .val (.int (1 : Int32)), .val (.ref d_KVA)] [])
  refine Go.by (fun _ gk => XS.aload X9.here hx rfl (hb hby d1_28) rfl rfl gk) ?_
  show Go _ _ _ _ T9 (mkF m 30 #[.val (.ref u_KVA), .val (.ref vb), .val (.int (4 : Int32)), .val (.int (1 : Int32)), .val (.ref d_KVA)] [(.ref d_KVA)])
  have F10 : n0 ≤ T1.heap.size := Nat.le_trans Z0 K1.1
  have F11 : Keep h0 T1.heap [] := (Keep.refl h0 []).trans K1 all0
  obtain ⟨_, _, ⟨T12, L12, k12, n12⟩, -, X12, ⟨Lc12, hQ12, l12, y12, z12⟩, st12⟩ := Jvm.LawKit.callS X9 hx (y := (⟨"java/util/Optional", "of", "(Ljava/lang/Object;)Ljava/util/Optional;"⟩ : MethodName)) hown (mvT hZ (hw _ (List.mem_of_getElem? (i := 45) rfl))) (mvT hZ (hw _ (List.mem_of_getElem? (i := 46) rfl))) (mvT hZ (hw _ (List.mem_of_getElem? (i := 33) rfl))) (mvT hZ (hw _ (List.mem_of_getElem? (i := 47) rfl))) (by decide) (backOf (W := 0) (rmOf l Z a0 hw [] d_KVA T1.heap n0 F10 ) hZ (hw _ (List.mem_of_getElem? (i := 47) rfl)) (hw _ (List.mem_of_getElem? (i := 33) rfl)) (by decide) (by decide)) (g := (mkF m 30 #[.val (.ref u_KVA), .val (.ref vb), .val (.int (4 : Int32)), .val (.int (1 : Int32)), .val (.ref d_KVA)] [(.ref d_KVA)])) rfl (by rw [hml]; rfl) (argsL := [(.ref d_KVA)]) (rest := []) (lenOf pd_70 rfl) rfl (by show 2 * 0 + _ ≤ _; exact Nat.le_of_eq rfl) (hb hby d1_30) (fun _ _ => ⟨rfl, e9, (by decide : 1 + 1 ≤ _), (by decide : 4 + 1 ≤ _)⟩)
  dsimp only [Pt.U, Pt.locs, Pt.cells, Pt.slots] at X12 l12 y12 z12 st12 hQ12
  subst l12 y12 z12
  obtain ⟨o, rfl, N12q, K12, Q12_0, Q12_1, Q12_2⟩ := hQ12
  have N12 := Fr.app N1 N12q
  refine Go.by st12 ?_
  show Go _ _ _ _ T12 (mkF m 33 #[.val (.ref u_KVA), .val (.ref vb), .val (.int (4 : Int32)), .val (.int (1 : Int32)), .val (.ref d_KVA)] [(.ref o)])
  have ge_o : n0 ≤ o := Nat.le_trans F10 Q12_2
  have sz_o : h0.size ≤ o := Nat.le_trans F11.1 Q12_2
  have ne_vb_o : vb ≠ o := Nat.ne_of_lt (Nat.lt_of_lt_of_le Q1_0.lt Q12_2)
  have F13 : Keep h0 T12.heap [] := F11.trans K12 all0
  exact Go.retA X12 hx Bd.notSynchronized Bd.returns rfl rfl (hb hby d1_33) ⟨o, rfl, N12, F13, Q12_0, Q12_1, sz_o⟩ (by decide) (by decide)
theorem pn_73 : plainName "com/example/diligent_tariff/diligenttariff/billing/DeterminantGivingPinLaw" = true := by first | (simp [plainName, overriddenIn]; done) | decide +kernel
theorem ef_74 (m : MethodId) (x0 : Int32) : entryFrame m #[(.int x0)] 5 = mkF m 0 #[.val (.int x0), .unset, .unset, .unset, .unset] [] := by (first | (simp [entryFrame, mkF, argsToLocals, Value.category]; done) | rfl)
theorem pd_75 : parseMethodDescriptor "(Lcom/example/diligent_tariff/diligenttariff/book/Unit;)Ljava/util/Optional;" = some ⟨[(.object "com/example/diligent_tariff/diligenttariff/book/Unit")], some (.object "java/util/Optional")⟩ := by decide +kernel
def Q_rm0 (Z : State) (p0 : Int32) (u_MONTH : Addr) (u_BILL : Addr) (u_KWH : Addr) (u_KW : Addr) (u_KVA : Addr) (d_KW : Addr) (d_KVA : Addr) (d_PHASE : Addr) (d_INTERVALS : Addr) (va : Addr) (kv : ClassId) (em : Addr) (h0 : Heap) (n0 : Nat) (v : Option Value) (h : Heap) (L : List Loc) : Prop := v = some (.int 1) ∧ Fr n0 L
set_option maxRecDepth 65536 in
set_option maxHeartbeats 40000000 in
theorem rm0 (l : Launch) (Z : State) (a0 : Array Value) (hw : ∀ d ∈ tables_1, d.before a0 Z = true) (ws : List Jvm.Cond) (p0 : Int32) (u_MONTH : Addr) (u_BILL : Addr) (u_KWH : Addr) (u_KW : Addr) (u_KVA : Addr) (d_KW : Addr) (d_KVA : Addr) (d_PHASE : Addr) (d_INTERVALS : Addr) (va : Addr) (kv : ClassId) (em : Addr) (h0 : Heap) (n0 : Nat) (Z0 : n0 ≤ h0.size) (O0 : Old Z n0 h0) (S_u_MONTH : Sta Z Z.heap "com/example/diligent_tariff/diligenttariff/book/Unit" "MONTH" "Lcom/example/diligent_tariff/diligenttariff/book/Unit;" (.ref u_MONTH)) (E_u_MONTH : Exa Z Z.heap u_MONTH "com/example/diligent_tariff/diligenttariff/book/Unit") (O_u_MONTH : Fld Z Z.heap u_MONTH "java/lang/Enum" "ordinal" "I" (.int 0)) (S_u_BILL : Sta Z Z.heap "com/example/diligent_tariff/diligenttariff/book/Unit" "BILL" "Lcom/example/diligent_tariff/diligenttariff/book/Unit;" (.ref u_BILL)) (E_u_BILL : Exa Z Z.heap u_BILL "com/example/diligent_tariff/diligenttariff/book/Unit") (O_u_BILL : Fld Z Z.heap u_BILL "java/lang/Enum" "ordinal" "I" (.int 1)) (S_u_KWH : Sta Z Z.heap "com/example/diligent_tariff/diligenttariff/book/Unit" "KWH" "Lcom/example/diligent_tariff/diligenttariff/book/Unit;" (.ref u_KWH)) (E_u_KWH : Exa Z Z.heap u_KWH "com/example/diligent_tariff/diligenttariff/book/Unit") (O_u_KWH : Fld Z Z.heap u_KWH "java/lang/Enum" "ordinal" "I" (.int 2)) (S_u_KW : Sta Z Z.heap "com/example/diligent_tariff/diligenttariff/book/Unit" "KW" "Lcom/example/diligent_tariff/diligenttariff/book/Unit;" (.ref u_KW)) (E_u_KW : Exa Z Z.heap u_KW "com/example/diligent_tariff/diligenttariff/book/Unit") (O_u_KW : Fld Z Z.heap u_KW "java/lang/Enum" "ordinal" "I" (.int 3)) (S_u_KVA : Sta Z Z.heap "com/example/diligent_tariff/diligenttariff/book/Unit" "KVA" "Lcom/example/diligent_tariff/diligenttariff/book/Unit;" (.ref u_KVA)) (E_u_KVA : Exa Z Z.heap u_KVA "com/example/diligent_tariff/diligenttariff/book/Unit") (O_u_KVA : Fld Z Z.heap u_KVA "java/lang/Enum" "ordinal" "I" (.int 4)) (D0 : Sta Z Z.heap "com/example/diligent_tariff/diligenttariff/billing/Determinant" "KW" "Lcom/example/diligent_tariff/diligenttariff/billing/Determinant;" (.ref d_KW)) (D1 : Sta Z Z.heap "com/example/diligent_tariff/diligenttariff/billing/Determinant" "KVA" "Lcom/example/diligent_tariff/diligenttariff/billing/Determinant;" (.ref d_KVA)) (D2 : Sta Z Z.heap "com/example/diligent_tariff/diligenttariff/billing/Determinant" "$VALUES" "[Lcom/example/diligent_tariff/diligenttariff/billing/Determinant;" (.ref va)) (D3 : Sta Z Z.heap "java/util/Optional" "EMPTY" "Ljava/util/Optional;" (.ref em)) (D4 : Arv Z Z.heap va kv (.object "com/example/diligent_tariff/diligenttariff/billing/Determinant") (4 : Int32) ([(.ref d_KW), (.ref d_KVA), (.ref d_PHASE), (.ref d_INTERVALS)]) .null) (D5 : Exa Z Z.heap va "[Lcom/example/diligent_tariff/diligenttariff/billing/Determinant;") (D6 : Exa Z Z.heap em "java/util/Optional") (D7 : Fld Z Z.heap em "java/util/Optional" "value" "Ljava/lang/Object;" .null) (D8 : Exa Z Z.heap d_KW "com/example/diligent_tariff/diligenttariff/billing/Determinant") (D9 : Exa Z Z.heap d_KVA "com/example/diligent_tariff/diligenttariff/billing/Determinant") (D10 : Exa Z Z.heap d_PHASE "com/example/diligent_tariff/diligenttariff/billing/Determinant") (D11 : Exa Z Z.heap d_INTERVALS "com/example/diligent_tariff/diligenttariff/billing/Determinant") (D12 : Fld Z Z.heap d_KW "com/example/diligent_tariff/diligenttariff/billing/Determinant" "unit" "Lcom/example/diligent_tariff/diligenttariff/book/Unit;" (.ref u_KW)) (D13 : Fld Z Z.heap d_KVA "com/example/diligent_tariff/diligenttariff/billing/Determinant" "unit" "Lcom/example/diligent_tariff/diligenttariff/book/Unit;" (.ref u_KVA)) (D14 : Fld Z Z.heap d_PHASE "com/example/diligent_tariff/diligenttariff/billing/Determinant" "unit" "Lcom/example/diligent_tariff/diligenttariff/book/Unit;" .null) (D15 : Fld Z Z.heap d_INTERVALS "com/example/diligent_tariff/diligenttariff/billing/Determinant" "unit" "Lcom/example/diligent_tariff/diligenttariff/book/Unit;" .null) :
    MetFree l x (head1 (Jvm.Cond.code x code maxLocals ret :: ws) room_1) (fun as' U => as' = #[(.int p0)] ∧ Z.Warmed39 U.vm ∧ U.heap = h0) (fun _ _ _ _ _ => True) (fun _ U o U' => ∃ v L, o = .returned v ∧ Q_rm0 Z p0 u_MONTH u_BILL u_KWH u_KW u_KVA d_KW d_KVA d_PHASE d_INTERVALS va kv em h0 n0 v U'.heap L ∧ FrameEnd U o U' L 2 5) := by
  refine MetFree.of_bodySF (plainFor_of_name pn_73) hisR ?_
  intro p e s m args below meth c s₁ Bd hml0 hP hK
  obtain ⟨rfl, hZ, hh⟩ := hP
  have hx := Bd.exec
  have hby := Bd.bytes
  have hml : c.maxLocals = 5 := hml0
  have hown : s.vm.findClass "com/example/diligent_tariff/diligenttariff/billing/DeterminantGivingPinLaw" = some m.cls := findClass_of_methodNamed Bd.named
  have hnm := (name_of_methodNamed Bd.named Bd.method).1
  have X0 : Stand p l e room_1 s m #[(.int p0)] below meth c s₁ [] 0 0 := Stand.of_body Bd
  have e0 : s₁.heap = h0 := by rw [← hh, Bd.state]; rfl
  have N0 := Fr.nil n0
  refine Go.enter (F := EndN s (Q_rm0 Z p0 u_MONTH u_BILL u_KWH u_KW u_KVA d_KW d_KVA d_PHASE d_INTERVALS va kv em h0 n0) 2 5) (ef_74 m p0) ?_
  show Go _ _ _ _ s₁ (mkF m 0 #[.val (.int p0), .unset, .unset, .unset, .unset] [])
  refine Go.by (fun _ gk => XS.iloadN X0.here hx rfl (hb hby at_0) rfl gk) ?_
  show Go _ _ _ _ s₁ (mkF m 1 #[.val (.int p0), .unset, .unset, .unset, .unset] [(.int p0)])
  refine Go.by (fun _ gk => X0.ldcI hx hown (mvT hZ (hw _ (List.mem_of_getElem? (i := 0) rfl))) (g := (mkF m 1 #[.val (.int p0), .unset, .unset, .unset, .unset] [(.int p0)])) rfl (hb hby at_1) gk) ?_
  show Go _ _ _ _ s₁ (mkF m 3 #[.val (.int p0), .unset, .unset, .unset, .unset] [(.int (2147483647 : Int32)), (.int p0)])
  refine Go.by (fun _ gk => XS.iand X0.here hx rfl (hb hby at_3) rfl gk) ?_
  show Go _ _ _ _ s₁ (mkF m 4 #[.val (.int p0), .unset, .unset, .unset, .unset] [(.int (p0 &&& (2147483647 : Int32)))])
  refine Go.by (fun _ gk => XT.iconstV X0.here hx rfl (5 : Int32) (hb hby at_4) (by decide) gk) ?_
  show Go _ _ _ _ s₁ (mkF m 5 #[.val (.int p0), .unset, .unset, .unset, .unset] [(.int (5 : Int32)), (.int (p0 &&& (2147483647 : Int32)))])
  refine Go.by (fun _ gk => XS.irem X0.here hx rfl (hb hby at_5) rfl (by decide) gk) ?_
  show Go _ _ _ _ s₁ (mkF m 6 #[.val (.int p0), .unset, .unset, .unset, .unset] [(.int ((p0 &&& (2147483647 : Int32)) - (p0 &&& (2147483647 : Int32)) / (5 : Int32) * (5 : Int32)))])
  refine Go.by (fun _ gk => XS.istoreN X0.here hx rfl (hb hby at_6) rfl (l' := #[.val (.int p0), .val (.int ((p0 &&& (2147483647 : Int32)) - (p0 &&& (2147483647 : Int32)) / (5 : Int32) * (5 : Int32))), .unset, .unset, .unset]) rfl gk) ?_
  show Go _ _ _ _ s₁ (mkF m 7 #[.val (.int p0), .val (.int ((p0 &&& (2147483647 : Int32)) - (p0 &&& (2147483647 : Int32)) / (5 : Int32) * (5 : Int32))), .unset, .unset, .unset] [])
  obtain ⟨k, h_k⟩ : ∃ z, z = ((p0 &&& (2147483647 : Int32)) - (p0 &&& (2147483647 : Int32)) / (5 : Int32) * (5 : Int32)) := ⟨_, rfl⟩
  rw [← h_k]
  show Go _ _ _ _ s₁ (mkF m 7 #[.val (.int p0), .val (.int k), .unset, .unset, .unset] [])
  rcases own_mod5 h_k with rfl | rfl | rfl | rfl | rfl
  · show Go _ _ _ _ s₁ (mkF m 7 #[.val (.int p0), .val (.int (0 : Int32)), .unset, .unset, .unset] [])
    refine Go.by (fun _ gk => XS.iloadN X0.here hx rfl (hb hby at_7) rfl gk) ?_
    show Go _ _ _ _ s₁ (mkF m 8 #[.val (.int p0), .val (.int (0 : Int32)), .unset, .unset, .unset] [(.int (0 : Int32))])
    refine Go.by (fun _ gk => XS.ifNo X0.here hx rfl (hb hby at_8) rfl (XT.i0_ne_f rfl) gk) ?_
    show Go _ _ _ _ s₁ (mkF m 11 #[.val (.int p0), .val (.int (0 : Int32)), .unset, .unset, .unset] [])
    have F1 : Sta Z h0 "com/example/diligent_tariff/diligenttariff/book/Unit" "MONTH" "Lcom/example/diligent_tariff/diligenttariff/book/Unit;" (.ref u_MONTH) := S_u_MONTH.ext O0.2
    obtain ⟨T2, X2, e2, st2⟩ := getS2 X0 hx hZ hown (host := "") (Or.inl (hw _ (List.mem_of_getElem? (i := 1) rfl))) Via.refl e0 F1 (g := (mkF m 11 #[.val (.int p0), .val (.int (0 : Int32)), .unset, .unset, .unset] [])) rfl (hb hby at_11)
    refine Go.by st2 ?_
    show Go _ _ _ _ T2 (mkF m 14 #[.val (.int p0), .val (.int (0 : Int32)), .unset, .unset, .unset] [(.ref u_MONTH)])
    refine Go.by (fun _ gk => XS.astoreN X2.here hx rfl (hb hby at_14) rfl rfl (l' := #[.val (.int p0), .val (.int (0 : Int32)), .val (.ref u_MONTH), .unset, .unset]) rfl gk) ?_
    show Go _ _ _ _ T2 (mkF m 15 #[.val (.int p0), .val (.int (0 : Int32)), .val (.ref u_MONTH), .unset, .unset] [])
    refine Go.by (fun _ gk => XS.aconstNull X2.here hx rfl (hb hby at_15) gk) ?_
    show Go _ _ _ _ T2 (mkF m 16 #[.val (.int p0), .val (.int (0 : Int32)), .val (.ref u_MONTH), .unset, .unset] [.null])
    refine Go.by (fun _ gk => XS.astoreN X2.here hx rfl (hb hby at_16) rfl rfl (l' := #[.val (.int p0), .val (.int (0 : Int32)), .val (.ref u_MONTH), .val .null, .unset]) rfl gk) ?_
    show Go _ _ _ _ T2 (mkF m 17 #[.val (.int p0), .val (.int (0 : Int32)), .val (.ref u_MONTH), .val .null, .unset] [])
    refine Go.by (fun _ gk => XS.goto X2.here hx rfl (pc0 := 17) (pc' := 72) rfl (hb hby at_17) (by decide) (by decide) gk) ?_
    show Go _ _ _ _ T2 (mkF m 72 #[.val (.int p0), .val (.int (0 : Int32)), .val (.ref u_MONTH), .val .null, .unset] [])
    refine Go.by (fun _ gk => XS.aloadN X2.here hx rfl (hb hby at_72) rfl rfl gk) ?_
    show Go _ _ _ _ T2 (mkF m 73 #[.val (.int p0), .val (.int (0 : Int32)), .val (.ref u_MONTH), .val .null, .unset] [(.ref u_MONTH)])
    obtain ⟨_, _, ⟨T3, L3, k3, n3⟩, -, X3, ⟨Lc3, hQ3, l3, y3, z3⟩, st3⟩ := Jvm.LawKit.callS X2 hx (y := (⟨"com/example/diligent_tariff/diligenttariff/billing/Determinant", "giving", "(Lcom/example/diligent_tariff/diligenttariff/book/Unit;)Ljava/util/Optional;"⟩ : MethodName)) hown (mvT hZ (hw _ (List.mem_of_getElem? (i := 4) rfl))) (mvT hZ (hw _ (List.mem_of_getElem? (i := 5) rfl))) (mvT hZ (hw _ (List.mem_of_getElem? (i := 6) rfl))) (mvT hZ (hw _ (List.mem_of_getElem? (i := 7) rfl))) (by decide) (backOf (W := 0) (rmGiving_MONTH l Z a0 hw [] u_MONTH u_BILL u_KWH u_KW u_KVA d_KW d_KVA d_PHASE d_INTERVALS va kv em h0 n0 Z0 O0 S_u_MONTH E_u_MONTH O_u_MONTH S_u_BILL E_u_BILL O_u_BILL S_u_KWH E_u_KWH O_u_KWH S_u_KW E_u_KW O_u_KW S_u_KVA E_u_KVA O_u_KVA D0 D1 D2 D3 D4 D5 D6 D7 D8 D9 D10 D11 D12 D13 D14 D15) hZ (hw _ (List.mem_of_getElem? (i := 7) rfl)) (hw _ (List.mem_of_getElem? (i := 6) rfl)) (by decide) (by decide)) (g := (mkF m 73 #[.val (.int p0), .val (.int (0 : Int32)), .val (.ref u_MONTH), .val .null, .unset] [(.ref u_MONTH)])) rfl (by rw [hml]; rfl) (argsL := [(.ref u_MONTH)]) (rest := []) (lenOf pd_75 rfl) rfl (by show 2 * 0 + _ ≤ _; exact Nat.le_of_eq rfl) (hb hby at_73) (fun _ _ => ⟨rfl, e2, (by decide : 0 + 1 ≤ _), (by decide : 0 + 4 ≤ _)⟩)
    dsimp only [Pt.U, Pt.locs, Pt.cells, Pt.slots] at X3 l3 y3 z3 st3 hQ3
    subst l3 y3 z3
    obtain ⟨rfl, N3q, K3⟩ := hQ3
    have N3 := Fr.app N0 N3q
    refine Go.by st3 ?_
    show Go _ _ _ _ T3 (mkF m 76 #[.val (.int p0), .val (.int (0 : Int32)), .val (.ref u_MONTH), .val .null, .unset] [(.ref em)])
    refine Go.by (fun _ gk => XS.aconstNull X3.here hx rfl (hb hby at_76) gk) ?_
    show Go _ _ _ _ T3 (mkF m 77 #[.val (.int p0), .val (.int (0 : Int32)), .val (.ref u_MONTH), .val .null, .unset] [.null, (.ref em)])
    have F4 : Old Z n0 T3.heap := O0.keep K3 all0
    have F5 : Fld Z T3.heap em "java/util/Optional" "value" "Ljava/lang/Object;" .null := D7.ext F4.2
    have F6 : n0 ≤ T3.heap.size := Nat.le_trans Z0 K3.1
    have F8 : Exa Z T3.heap em "java/util/Optional" := D6.ext F4.2
    obtain ⟨cq7, kq7, q7a, q7b, q7c⟩ := isOf hZ rfl F8
    obtain ⟨_, _, ⟨T7, L7, k7, n7⟩, -, X7, ⟨Lc7, hQ7, l7, y7, z7⟩, st7⟩ := X3.virtualBack hx (y := (⟨"java/util/Optional", "orElse", "(Ljava/lang/Object;)Ljava/lang/Object;"⟩ : MethodName)) (z := (⟨"java/util/Optional", "orElse", "(Ljava/lang/Object;)Ljava/lang/Object;"⟩ : MethodName)) hown (mvT hZ (hw _ (List.mem_of_getElem? (i := 36) rfl))) (mvT hZ (hw _ (List.mem_of_getElem? (i := 37) rfl))) (notFace_of_selects (args := #[]) (mvT hZ (hw _ (List.mem_of_getElem? (i := 39) rfl)))) (mvT hZ (hw _ (List.mem_of_getElem? (i := 39) rfl))) (mvT hZ (hw _ (List.mem_of_getElem? (i := 38) rfl))) (by decide) (backOf (W := 0) (rmOrElseN l Z a0 hw [] em T3.heap n0 F6 F5) hZ (hw _ (List.mem_of_getElem? (i := 40) rfl)) (hw _ (List.mem_of_getElem? (i := 33) rfl)) (by decide) (by decide)) q7a q7c (g := (mkF m 77 #[.val (.int p0), .val (.int (0 : Int32)), .val (.ref u_MONTH), .val .null, .unset] [.null, (.ref em)])) rfl (by rw [hml]; rfl) (Steps.refl _) (argsL := [.null]) (rest := []) (lenOf pd_30 rfl) rfl (by show 2 * 0 + _ ≤ _; exact Nat.le_of_eq rfl) (hb hby at_77) (fun _ _ => ⟨rfl, rfl, (by decide : 1 + 0 ≤ _), (by decide : 4 + 0 ≤ _)⟩)
    dsimp only [Pt.U, Pt.locs, Pt.cells, Pt.slots] at X7 l7 y7 z7 st7 hQ7
    subst l7 y7 z7
    obtain ⟨rfl, N7q, e7⟩ := hQ7
    have N7 := Fr.app N3 N7q
    refine Go.to st7 ?_
    show Go _ _ _ _ T7 (mkF m 80 #[.val (.int p0), .val (.int (0 : Int32)), .val (.ref u_MONTH), .val .null, .unset] [.null])
    refine Go.by (fun _ gk => X7.checkcastNull hx (g := (mkF m 80 #[.val (.int p0), .val (.int (0 : Int32)), .val (.ref u_MONTH), .val .null, .unset] [.null])) rfl rfl (hb hby at_80) _ gk) ?_
    show Go _ _ _ _ T7 (mkF m 83 #[.val (.int p0), .val (.int (0 : Int32)), .val (.ref u_MONTH), .val .null, .unset] [.null])
    refine Go.by (fun _ gk => XS.astore X7.here hx rfl (hb hby at_83) rfl rfl (l' := #[.val (.int p0), .val (.int (0 : Int32)), .val (.ref u_MONTH), .val .null, .val .null]) rfl gk) ?_
    show Go _ _ _ _ T7 (mkF m 85 #[.val (.int p0), .val (.int (0 : Int32)), .val (.ref u_MONTH), .val .null, .val .null] [])
    refine Go.by (fun _ gk => XS.aload X7.here hx rfl (hb hby at_85) rfl rfl gk) ?_
    show Go _ _ _ _ T7 (mkF m 87 #[.val (.int p0), .val (.int (0 : Int32)), .val (.ref u_MONTH), .val .null, .val .null] [.null])
    refine Go.by (fun _ gk => XS.aloadN X7.here hx rfl (hb hby at_87) rfl rfl gk) ?_
    show Go _ _ _ _ T7 (mkF m 88 #[.val (.int p0), .val (.int (0 : Int32)), .val (.ref u_MONTH), .val .null, .val .null] [.null, .null])
    refine Go.by (fun _ gk => XT.acmpNo X7.here hx rfl (hb hby at_88) rfl rfl rfl (XT.aa_ne_f rfl) gk) ?_
    show Go _ _ _ _ T7 (mkF m 91 #[.val (.int p0), .val (.int (0 : Int32)), .val (.ref u_MONTH), .val .null, .val .null] [])
    refine Go.by (fun _ gk => XT.iconstV X7.here hx rfl (1 : Int32) (hb hby at_91) (by decide) gk) ?_
    show Go _ _ _ _ T7 (mkF m 92 #[.val (.int p0), .val (.int (0 : Int32)), .val (.ref u_MONTH), .val .null, .val .null] [(.int (1 : Int32))])
    refine Go.by (fun _ gk => XS.goto X7.here hx rfl (pc0 := 92) (pc' := 96) rfl (hb hby at_92) (by decide) (by decide) gk) ?_
    show Go _ _ _ _ T7 (mkF m 96 #[.val (.int p0), .val (.int (0 : Int32)), .val (.ref u_MONTH), .val .null, .val .null] [(.int (1 : Int32))])
    exact Go.retI X7 hx Bd.notSynchronized Bd.returns rfl (by simp) (hb hby at_96) (by rw [e7]; exact ⟨rfl, N7⟩) (by decide) (by decide)
  · show Go _ _ _ _ s₁ (mkF m 7 #[.val (.int p0), .val (.int (1 : Int32)), .unset, .unset, .unset] [])
    refine Go.by (fun _ gk => XS.iloadN X0.here hx rfl (hb hby at_7) rfl gk) ?_
    show Go _ _ _ _ s₁ (mkF m 8 #[.val (.int p0), .val (.int (1 : Int32)), .unset, .unset, .unset] [(.int (1 : Int32))])
    refine Go.by (fun _ gk => XS.ifYes X0.here hx rfl (pc0 := 8) (pc' := 20) rfl (hb hby at_8) rfl (XT.i0_ne_t (by decide)) (by decide) (by decide) gk) ?_
    show Go _ _ _ _ s₁ (mkF m 20 #[.val (.int p0), .val (.int (1 : Int32)), .unset, .unset, .unset] [])
    refine Go.by (fun _ gk => XS.iloadN X0.here hx rfl (hb hby at_20) rfl gk) ?_
    show Go _ _ _ _ s₁ (mkF m 21 #[.val (.int p0), .val (.int (1 : Int32)), .unset, .unset, .unset] [(.int (1 : Int32))])
    refine Go.by (fun _ gk => XT.iconstV X0.here hx rfl (1 : Int32) (hb hby at_21) (by decide) gk) ?_
    show Go _ _ _ _ s₁ (mkF m 22 #[.val (.int p0), .val (.int (1 : Int32)), .unset, .unset, .unset] [(.int (1 : Int32)), (.int (1 : Int32))])
    refine Go.by (fun _ gk => XS.icmpNo X0.here hx rfl (hb hby at_22) rfl (XT.ii_ne_f rfl) gk) ?_
    show Go _ _ _ _ s₁ (mkF m 25 #[.val (.int p0), .val (.int (1 : Int32)), .unset, .unset, .unset] [])
    have F10 : Sta Z h0 "com/example/diligent_tariff/diligenttariff/book/Unit" "BILL" "Lcom/example/diligent_tariff/diligenttariff/book/Unit;" (.ref u_BILL) := S_u_BILL.ext O0.2
    obtain ⟨T11, X11, e11, st11⟩ := getS2 X0 hx hZ hown (host := "") (Or.inl (hw _ (List.mem_of_getElem? (i := 63) rfl))) Via.refl e0 F10 (g := (mkF m 25 #[.val (.int p0), .val (.int (1 : Int32)), .unset, .unset, .unset] [])) rfl (hb hby at_25)
    refine Go.by st11 ?_
    show Go _ _ _ _ T11 (mkF m 28 #[.val (.int p0), .val (.int (1 : Int32)), .unset, .unset, .unset] [(.ref u_BILL)])
    refine Go.by (fun _ gk => XS.astoreN X11.here hx rfl (hb hby at_28) rfl rfl (l' := #[.val (.int p0), .val (.int (1 : Int32)), .val (.ref u_BILL), .unset, .unset]) rfl gk) ?_
    show Go _ _ _ _ T11 (mkF m 29 #[.val (.int p0), .val (.int (1 : Int32)), .val (.ref u_BILL), .unset, .unset] [])
    refine Go.by (fun _ gk => XS.aconstNull X11.here hx rfl (hb hby at_29) gk) ?_
    show Go _ _ _ _ T11 (mkF m 30 #[.val (.int p0), .val (.int (1 : Int32)), .val (.ref u_BILL), .unset, .unset] [.null])
    refine Go.by (fun _ gk => XS.astoreN X11.here hx rfl (hb hby at_30) rfl rfl (l' := #[.val (.int p0), .val (.int (1 : Int32)), .val (.ref u_BILL), .val .null, .unset]) rfl gk) ?_
    show Go _ _ _ _ T11 (mkF m 31 #[.val (.int p0), .val (.int (1 : Int32)), .val (.ref u_BILL), .val .null, .unset] [])
    refine Go.by (fun _ gk => XS.goto X11.here hx rfl (pc0 := 31) (pc' := 72) rfl (hb hby at_31) (by decide) (by decide) gk) ?_
    show Go _ _ _ _ T11 (mkF m 72 #[.val (.int p0), .val (.int (1 : Int32)), .val (.ref u_BILL), .val .null, .unset] [])
    refine Go.by (fun _ gk => XS.aloadN X11.here hx rfl (hb hby at_72) rfl rfl gk) ?_
    show Go _ _ _ _ T11 (mkF m 73 #[.val (.int p0), .val (.int (1 : Int32)), .val (.ref u_BILL), .val .null, .unset] [(.ref u_BILL)])
    obtain ⟨_, _, ⟨T12, L12, k12, n12⟩, -, X12, ⟨Lc12, hQ12, l12, y12, z12⟩, st12⟩ := Jvm.LawKit.callS X11 hx (y := (⟨"com/example/diligent_tariff/diligenttariff/billing/Determinant", "giving", "(Lcom/example/diligent_tariff/diligenttariff/book/Unit;)Ljava/util/Optional;"⟩ : MethodName)) hown (mvT hZ (hw _ (List.mem_of_getElem? (i := 4) rfl))) (mvT hZ (hw _ (List.mem_of_getElem? (i := 5) rfl))) (mvT hZ (hw _ (List.mem_of_getElem? (i := 6) rfl))) (mvT hZ (hw _ (List.mem_of_getElem? (i := 7) rfl))) (by decide) (backOf (W := 0) (rmGiving_BILL l Z a0 hw [] u_MONTH u_BILL u_KWH u_KW u_KVA d_KW d_KVA d_PHASE d_INTERVALS va kv em h0 n0 Z0 O0 S_u_MONTH E_u_MONTH O_u_MONTH S_u_BILL E_u_BILL O_u_BILL S_u_KWH E_u_KWH O_u_KWH S_u_KW E_u_KW O_u_KW S_u_KVA E_u_KVA O_u_KVA D0 D1 D2 D3 D4 D5 D6 D7 D8 D9 D10 D11 D12 D13 D14 D15) hZ (hw _ (List.mem_of_getElem? (i := 7) rfl)) (hw _ (List.mem_of_getElem? (i := 6) rfl)) (by decide) (by decide)) (g := (mkF m 73 #[.val (.int p0), .val (.int (1 : Int32)), .val (.ref u_BILL), .val .null, .unset] [(.ref u_BILL)])) rfl (by rw [hml]; rfl) (argsL := [(.ref u_BILL)]) (rest := []) (lenOf pd_75 rfl) rfl (by show 2 * 0 + _ ≤ _; exact Nat.le_of_eq rfl) (hb hby at_73) (fun _ _ => ⟨rfl, e11, (by decide : 0 + 1 ≤ _), (by decide : 0 + 4 ≤ _)⟩)
    dsimp only [Pt.U, Pt.locs, Pt.cells, Pt.slots] at X12 l12 y12 z12 st12 hQ12
    subst l12 y12 z12
    obtain ⟨rfl, N12q, K12⟩ := hQ12
    have N12 := Fr.app N0 N12q
    refine Go.by st12 ?_
    show Go _ _ _ _ T12 (mkF m 76 #[.val (.int p0), .val (.int (1 : Int32)), .val (.ref u_BILL), .val .null, .unset] [(.ref em)])
    refine Go.by (fun _ gk => XS.aconstNull X12.here hx rfl (hb hby at_76) gk) ?_
    show Go _ _ _ _ T12 (mkF m 77 #[.val (.int p0), .val (.int (1 : Int32)), .val (.ref u_BILL), .val .null, .unset] [.null, (.ref em)])
    have F13 : Old Z n0 T12.heap := O0.keep K12 all0
    have F14 : Fld Z T12.heap em "java/util/Optional" "value" "Ljava/lang/Object;" .null := D7.ext F13.2
    have F15 : n0 ≤ T12.heap.size := Nat.le_trans Z0 K12.1
    have F17 : Exa Z T12.heap em "java/util/Optional" := D6.ext F13.2
    obtain ⟨cq16, kq16, q16a, q16b, q16c⟩ := isOf hZ rfl F17
    obtain ⟨_, _, ⟨T16, L16, k16, n16⟩, -, X16, ⟨Lc16, hQ16, l16, y16, z16⟩, st16⟩ := X12.virtualBack hx (y := (⟨"java/util/Optional", "orElse", "(Ljava/lang/Object;)Ljava/lang/Object;"⟩ : MethodName)) (z := (⟨"java/util/Optional", "orElse", "(Ljava/lang/Object;)Ljava/lang/Object;"⟩ : MethodName)) hown (mvT hZ (hw _ (List.mem_of_getElem? (i := 36) rfl))) (mvT hZ (hw _ (List.mem_of_getElem? (i := 37) rfl))) (notFace_of_selects (args := #[]) (mvT hZ (hw _ (List.mem_of_getElem? (i := 39) rfl)))) (mvT hZ (hw _ (List.mem_of_getElem? (i := 39) rfl))) (mvT hZ (hw _ (List.mem_of_getElem? (i := 38) rfl))) (by decide) (backOf (W := 0) (rmOrElseN l Z a0 hw [] em T12.heap n0 F15 F14) hZ (hw _ (List.mem_of_getElem? (i := 40) rfl)) (hw _ (List.mem_of_getElem? (i := 33) rfl)) (by decide) (by decide)) q16a q16c (g := (mkF m 77 #[.val (.int p0), .val (.int (1 : Int32)), .val (.ref u_BILL), .val .null, .unset] [.null, (.ref em)])) rfl (by rw [hml]; rfl) (Steps.refl _) (argsL := [.null]) (rest := []) (lenOf pd_30 rfl) rfl (by show 2 * 0 + _ ≤ _; exact Nat.le_of_eq rfl) (hb hby at_77) (fun _ _ => ⟨rfl, rfl, (by decide : 1 + 0 ≤ _), (by decide : 4 + 0 ≤ _)⟩)
    dsimp only [Pt.U, Pt.locs, Pt.cells, Pt.slots] at X16 l16 y16 z16 st16 hQ16
    subst l16 y16 z16
    obtain ⟨rfl, N16q, e16⟩ := hQ16
    have N16 := Fr.app N12 N16q
    refine Go.to st16 ?_
    show Go _ _ _ _ T16 (mkF m 80 #[.val (.int p0), .val (.int (1 : Int32)), .val (.ref u_BILL), .val .null, .unset] [.null])
    refine Go.by (fun _ gk => X16.checkcastNull hx (g := (mkF m 80 #[.val (.int p0), .val (.int (1 : Int32)), .val (.ref u_BILL), .val .null, .unset] [.null])) rfl rfl (hb hby at_80) _ gk) ?_
    show Go _ _ _ _ T16 (mkF m 83 #[.val (.int p0), .val (.int (1 : Int32)), .val (.ref u_BILL), .val .null, .unset] [.null])
    refine Go.by (fun _ gk => XS.astore X16.here hx rfl (hb hby at_83) rfl rfl (l' := #[.val (.int p0), .val (.int (1 : Int32)), .val (.ref u_BILL), .val .null, .val .null]) rfl gk) ?_
    show Go _ _ _ _ T16 (mkF m 85 #[.val (.int p0), .val (.int (1 : Int32)), .val (.ref u_BILL), .val .null, .val .null] [])
    refine Go.by (fun _ gk => XS.aload X16.here hx rfl (hb hby at_85) rfl rfl gk) ?_
    show Go _ _ _ _ T16 (mkF m 87 #[.val (.int p0), .val (.int (1 : Int32)), .val (.ref u_BILL), .val .null, .val .null] [.null])
    refine Go.by (fun _ gk => XS.aloadN X16.here hx rfl (hb hby at_87) rfl rfl gk) ?_
    show Go _ _ _ _ T16 (mkF m 88 #[.val (.int p0), .val (.int (1 : Int32)), .val (.ref u_BILL), .val .null, .val .null] [.null, .null])
    refine Go.by (fun _ gk => XT.acmpNo X16.here hx rfl (hb hby at_88) rfl rfl rfl (XT.aa_ne_f rfl) gk) ?_
    show Go _ _ _ _ T16 (mkF m 91 #[.val (.int p0), .val (.int (1 : Int32)), .val (.ref u_BILL), .val .null, .val .null] [])
    refine Go.by (fun _ gk => XT.iconstV X16.here hx rfl (1 : Int32) (hb hby at_91) (by decide) gk) ?_
    show Go _ _ _ _ T16 (mkF m 92 #[.val (.int p0), .val (.int (1 : Int32)), .val (.ref u_BILL), .val .null, .val .null] [(.int (1 : Int32))])
    refine Go.by (fun _ gk => XS.goto X16.here hx rfl (pc0 := 92) (pc' := 96) rfl (hb hby at_92) (by decide) (by decide) gk) ?_
    show Go _ _ _ _ T16 (mkF m 96 #[.val (.int p0), .val (.int (1 : Int32)), .val (.ref u_BILL), .val .null, .val .null] [(.int (1 : Int32))])
    exact Go.retI X16 hx Bd.notSynchronized Bd.returns rfl (by simp) (hb hby at_96) (by rw [e16]; exact ⟨rfl, N16⟩) (by decide) (by decide)
  · show Go _ _ _ _ s₁ (mkF m 7 #[.val (.int p0), .val (.int (2 : Int32)), .unset, .unset, .unset] [])
    refine Go.by (fun _ gk => XS.iloadN X0.here hx rfl (hb hby at_7) rfl gk) ?_
    show Go _ _ _ _ s₁ (mkF m 8 #[.val (.int p0), .val (.int (2 : Int32)), .unset, .unset, .unset] [(.int (2 : Int32))])
    refine Go.by (fun _ gk => XS.ifYes X0.here hx rfl (pc0 := 8) (pc' := 20) rfl (hb hby at_8) rfl (XT.i0_ne_t (by decide)) (by decide) (by decide) gk) ?_
    show Go _ _ _ _ s₁ (mkF m 20 #[.val (.int p0), .val (.int (2 : Int32)), .unset, .unset, .unset] [])
    refine Go.by (fun _ gk => XS.iloadN X0.here hx rfl (hb hby at_20) rfl gk) ?_
    show Go _ _ _ _ s₁ (mkF m 21 #[.val (.int p0), .val (.int (2 : Int32)), .unset, .unset, .unset] [(.int (2 : Int32))])
    refine Go.by (fun _ gk => XT.iconstV X0.here hx rfl (1 : Int32) (hb hby at_21) (by decide) gk) ?_
    show Go _ _ _ _ s₁ (mkF m 22 #[.val (.int p0), .val (.int (2 : Int32)), .unset, .unset, .unset] [(.int (1 : Int32)), (.int (2 : Int32))])
    refine Go.by (fun _ gk => XS.icmpYes X0.here hx rfl (pc0 := 22) (pc' := 34) rfl (hb hby at_22) rfl (XT.ii_ne_t (by decide)) (by decide) (by decide) gk) ?_
    show Go _ _ _ _ s₁ (mkF m 34 #[.val (.int p0), .val (.int (2 : Int32)), .unset, .unset, .unset] [])
    refine Go.by (fun _ gk => XS.iloadN X0.here hx rfl (hb hby at_34) rfl gk) ?_
    show Go _ _ _ _ s₁ (mkF m 35 #[.val (.int p0), .val (.int (2 : Int32)), .unset, .unset, .unset] [(.int (2 : Int32))])
    refine Go.by (fun _ gk => XT.iconstV X0.here hx rfl (2 : Int32) (hb hby at_35) (by decide) gk) ?_
    show Go _ _ _ _ s₁ (mkF m 36 #[.val (.int p0), .val (.int (2 : Int32)), .unset, .unset, .unset] [(.int (2 : Int32)), (.int (2 : Int32))])
    refine Go.by (fun _ gk => XS.icmpNo X0.here hx rfl (hb hby at_36) rfl (XT.ii_ne_f rfl) gk) ?_
    show Go _ _ _ _ s₁ (mkF m 39 #[.val (.int p0), .val (.int (2 : Int32)), .unset, .unset, .unset] [])
    have F19 : Sta Z h0 "com/example/diligent_tariff/diligenttariff/book/Unit" "KWH" "Lcom/example/diligent_tariff/diligenttariff/book/Unit;" (.ref u_KWH) := S_u_KWH.ext O0.2
    obtain ⟨T20, X20, e20, st20⟩ := getS2 X0 hx hZ hown (host := "") (Or.inl (hw _ (List.mem_of_getElem? (i := 67) rfl))) Via.refl e0 F19 (g := (mkF m 39 #[.val (.int p0), .val (.int (2 : Int32)), .unset, .unset, .unset] [])) rfl (hb hby at_39)
    refine Go.by st20 ?_
    show Go _ _ _ _ T20 (mkF m 42 #[.val (.int p0), .val (.int (2 : Int32)), .unset, .unset, .unset] [(.ref u_KWH)])
    refine Go.by (fun _ gk => XS.astoreN X20.here hx rfl (hb hby at_42) rfl rfl (l' := #[.val (.int p0), .val (.int (2 : Int32)), .val (.ref u_KWH), .unset, .unset]) rfl gk) ?_
    show Go _ _ _ _ T20 (mkF m 43 #[.val (.int p0), .val (.int (2 : Int32)), .val (.ref u_KWH), .unset, .unset] [])
    refine Go.by (fun _ gk => XS.aconstNull X20.here hx rfl (hb hby at_43) gk) ?_
    show Go _ _ _ _ T20 (mkF m 44 #[.val (.int p0), .val (.int (2 : Int32)), .val (.ref u_KWH), .unset, .unset] [.null])
    refine Go.by (fun _ gk => XS.astoreN X20.here hx rfl (hb hby at_44) rfl rfl (l' := #[.val (.int p0), .val (.int (2 : Int32)), .val (.ref u_KWH), .val .null, .unset]) rfl gk) ?_
    show Go _ _ _ _ T20 (mkF m 45 #[.val (.int p0), .val (.int (2 : Int32)), .val (.ref u_KWH), .val .null, .unset] [])
    refine Go.by (fun _ gk => XS.goto X20.here hx rfl (pc0 := 45) (pc' := 72) rfl (hb hby at_45) (by decide) (by decide) gk) ?_
    show Go _ _ _ _ T20 (mkF m 72 #[.val (.int p0), .val (.int (2 : Int32)), .val (.ref u_KWH), .val .null, .unset] [])
    refine Go.by (fun _ gk => XS.aloadN X20.here hx rfl (hb hby at_72) rfl rfl gk) ?_
    show Go _ _ _ _ T20 (mkF m 73 #[.val (.int p0), .val (.int (2 : Int32)), .val (.ref u_KWH), .val .null, .unset] [(.ref u_KWH)])
    obtain ⟨_, _, ⟨T21, L21, k21, n21⟩, -, X21, ⟨Lc21, hQ21, l21, y21, z21⟩, st21⟩ := Jvm.LawKit.callS X20 hx (y := (⟨"com/example/diligent_tariff/diligenttariff/billing/Determinant", "giving", "(Lcom/example/diligent_tariff/diligenttariff/book/Unit;)Ljava/util/Optional;"⟩ : MethodName)) hown (mvT hZ (hw _ (List.mem_of_getElem? (i := 4) rfl))) (mvT hZ (hw _ (List.mem_of_getElem? (i := 5) rfl))) (mvT hZ (hw _ (List.mem_of_getElem? (i := 6) rfl))) (mvT hZ (hw _ (List.mem_of_getElem? (i := 7) rfl))) (by decide) (backOf (W := 0) (rmGiving_KWH l Z a0 hw [] u_MONTH u_BILL u_KWH u_KW u_KVA d_KW d_KVA d_PHASE d_INTERVALS va kv em h0 n0 Z0 O0 S_u_MONTH E_u_MONTH O_u_MONTH S_u_BILL E_u_BILL O_u_BILL S_u_KWH E_u_KWH O_u_KWH S_u_KW E_u_KW O_u_KW S_u_KVA E_u_KVA O_u_KVA D0 D1 D2 D3 D4 D5 D6 D7 D8 D9 D10 D11 D12 D13 D14 D15) hZ (hw _ (List.mem_of_getElem? (i := 7) rfl)) (hw _ (List.mem_of_getElem? (i := 6) rfl)) (by decide) (by decide)) (g := (mkF m 73 #[.val (.int p0), .val (.int (2 : Int32)), .val (.ref u_KWH), .val .null, .unset] [(.ref u_KWH)])) rfl (by rw [hml]; rfl) (argsL := [(.ref u_KWH)]) (rest := []) (lenOf pd_75 rfl) rfl (by show 2 * 0 + _ ≤ _; exact Nat.le_of_eq rfl) (hb hby at_73) (fun _ _ => ⟨rfl, e20, (by decide : 0 + 1 ≤ _), (by decide : 0 + 4 ≤ _)⟩)
    dsimp only [Pt.U, Pt.locs, Pt.cells, Pt.slots] at X21 l21 y21 z21 st21 hQ21
    subst l21 y21 z21
    obtain ⟨rfl, N21q, K21⟩ := hQ21
    have N21 := Fr.app N0 N21q
    refine Go.by st21 ?_
    show Go _ _ _ _ T21 (mkF m 76 #[.val (.int p0), .val (.int (2 : Int32)), .val (.ref u_KWH), .val .null, .unset] [(.ref em)])
    refine Go.by (fun _ gk => XS.aconstNull X21.here hx rfl (hb hby at_76) gk) ?_
    show Go _ _ _ _ T21 (mkF m 77 #[.val (.int p0), .val (.int (2 : Int32)), .val (.ref u_KWH), .val .null, .unset] [.null, (.ref em)])
    have F22 : Old Z n0 T21.heap := O0.keep K21 all0
    have F23 : Fld Z T21.heap em "java/util/Optional" "value" "Ljava/lang/Object;" .null := D7.ext F22.2
    have F24 : n0 ≤ T21.heap.size := Nat.le_trans Z0 K21.1
    have F26 : Exa Z T21.heap em "java/util/Optional" := D6.ext F22.2
    obtain ⟨cq25, kq25, q25a, q25b, q25c⟩ := isOf hZ rfl F26
    obtain ⟨_, _, ⟨T25, L25, k25, n25⟩, -, X25, ⟨Lc25, hQ25, l25, y25, z25⟩, st25⟩ := X21.virtualBack hx (y := (⟨"java/util/Optional", "orElse", "(Ljava/lang/Object;)Ljava/lang/Object;"⟩ : MethodName)) (z := (⟨"java/util/Optional", "orElse", "(Ljava/lang/Object;)Ljava/lang/Object;"⟩ : MethodName)) hown (mvT hZ (hw _ (List.mem_of_getElem? (i := 36) rfl))) (mvT hZ (hw _ (List.mem_of_getElem? (i := 37) rfl))) (notFace_of_selects (args := #[]) (mvT hZ (hw _ (List.mem_of_getElem? (i := 39) rfl)))) (mvT hZ (hw _ (List.mem_of_getElem? (i := 39) rfl))) (mvT hZ (hw _ (List.mem_of_getElem? (i := 38) rfl))) (by decide) (backOf (W := 0) (rmOrElseN l Z a0 hw [] em T21.heap n0 F24 F23) hZ (hw _ (List.mem_of_getElem? (i := 40) rfl)) (hw _ (List.mem_of_getElem? (i := 33) rfl)) (by decide) (by decide)) q25a q25c (g := (mkF m 77 #[.val (.int p0), .val (.int (2 : Int32)), .val (.ref u_KWH), .val .null, .unset] [.null, (.ref em)])) rfl (by rw [hml]; rfl) (Steps.refl _) (argsL := [.null]) (rest := []) (lenOf pd_30 rfl) rfl (by show 2 * 0 + _ ≤ _; exact Nat.le_of_eq rfl) (hb hby at_77) (fun _ _ => ⟨rfl, rfl, (by decide : 1 + 0 ≤ _), (by decide : 4 + 0 ≤ _)⟩)
    dsimp only [Pt.U, Pt.locs, Pt.cells, Pt.slots] at X25 l25 y25 z25 st25 hQ25
    subst l25 y25 z25
    obtain ⟨rfl, N25q, e25⟩ := hQ25
    have N25 := Fr.app N21 N25q
    refine Go.to st25 ?_
    show Go _ _ _ _ T25 (mkF m 80 #[.val (.int p0), .val (.int (2 : Int32)), .val (.ref u_KWH), .val .null, .unset] [.null])
    refine Go.by (fun _ gk => X25.checkcastNull hx (g := (mkF m 80 #[.val (.int p0), .val (.int (2 : Int32)), .val (.ref u_KWH), .val .null, .unset] [.null])) rfl rfl (hb hby at_80) _ gk) ?_
    show Go _ _ _ _ T25 (mkF m 83 #[.val (.int p0), .val (.int (2 : Int32)), .val (.ref u_KWH), .val .null, .unset] [.null])
    refine Go.by (fun _ gk => XS.astore X25.here hx rfl (hb hby at_83) rfl rfl (l' := #[.val (.int p0), .val (.int (2 : Int32)), .val (.ref u_KWH), .val .null, .val .null]) rfl gk) ?_
    show Go _ _ _ _ T25 (mkF m 85 #[.val (.int p0), .val (.int (2 : Int32)), .val (.ref u_KWH), .val .null, .val .null] [])
    refine Go.by (fun _ gk => XS.aload X25.here hx rfl (hb hby at_85) rfl rfl gk) ?_
    show Go _ _ _ _ T25 (mkF m 87 #[.val (.int p0), .val (.int (2 : Int32)), .val (.ref u_KWH), .val .null, .val .null] [.null])
    refine Go.by (fun _ gk => XS.aloadN X25.here hx rfl (hb hby at_87) rfl rfl gk) ?_
    show Go _ _ _ _ T25 (mkF m 88 #[.val (.int p0), .val (.int (2 : Int32)), .val (.ref u_KWH), .val .null, .val .null] [.null, .null])
    refine Go.by (fun _ gk => XT.acmpNo X25.here hx rfl (hb hby at_88) rfl rfl rfl (XT.aa_ne_f rfl) gk) ?_
    show Go _ _ _ _ T25 (mkF m 91 #[.val (.int p0), .val (.int (2 : Int32)), .val (.ref u_KWH), .val .null, .val .null] [])
    refine Go.by (fun _ gk => XT.iconstV X25.here hx rfl (1 : Int32) (hb hby at_91) (by decide) gk) ?_
    show Go _ _ _ _ T25 (mkF m 92 #[.val (.int p0), .val (.int (2 : Int32)), .val (.ref u_KWH), .val .null, .val .null] [(.int (1 : Int32))])
    refine Go.by (fun _ gk => XS.goto X25.here hx rfl (pc0 := 92) (pc' := 96) rfl (hb hby at_92) (by decide) (by decide) gk) ?_
    show Go _ _ _ _ T25 (mkF m 96 #[.val (.int p0), .val (.int (2 : Int32)), .val (.ref u_KWH), .val .null, .val .null] [(.int (1 : Int32))])
    exact Go.retI X25 hx Bd.notSynchronized Bd.returns rfl (by simp) (hb hby at_96) (by rw [e25]; exact ⟨rfl, N25⟩) (by decide) (by decide)
  · show Go _ _ _ _ s₁ (mkF m 7 #[.val (.int p0), .val (.int (3 : Int32)), .unset, .unset, .unset] [])
    refine Go.by (fun _ gk => XS.iloadN X0.here hx rfl (hb hby at_7) rfl gk) ?_
    show Go _ _ _ _ s₁ (mkF m 8 #[.val (.int p0), .val (.int (3 : Int32)), .unset, .unset, .unset] [(.int (3 : Int32))])
    refine Go.by (fun _ gk => XS.ifYes X0.here hx rfl (pc0 := 8) (pc' := 20) rfl (hb hby at_8) rfl (XT.i0_ne_t (by decide)) (by decide) (by decide) gk) ?_
    show Go _ _ _ _ s₁ (mkF m 20 #[.val (.int p0), .val (.int (3 : Int32)), .unset, .unset, .unset] [])
    refine Go.by (fun _ gk => XS.iloadN X0.here hx rfl (hb hby at_20) rfl gk) ?_
    show Go _ _ _ _ s₁ (mkF m 21 #[.val (.int p0), .val (.int (3 : Int32)), .unset, .unset, .unset] [(.int (3 : Int32))])
    refine Go.by (fun _ gk => XT.iconstV X0.here hx rfl (1 : Int32) (hb hby at_21) (by decide) gk) ?_
    show Go _ _ _ _ s₁ (mkF m 22 #[.val (.int p0), .val (.int (3 : Int32)), .unset, .unset, .unset] [(.int (1 : Int32)), (.int (3 : Int32))])
    refine Go.by (fun _ gk => XS.icmpYes X0.here hx rfl (pc0 := 22) (pc' := 34) rfl (hb hby at_22) rfl (XT.ii_ne_t (by decide)) (by decide) (by decide) gk) ?_
    show Go _ _ _ _ s₁ (mkF m 34 #[.val (.int p0), .val (.int (3 : Int32)), .unset, .unset, .unset] [])
    refine Go.by (fun _ gk => XS.iloadN X0.here hx rfl (hb hby at_34) rfl gk) ?_
    show Go _ _ _ _ s₁ (mkF m 35 #[.val (.int p0), .val (.int (3 : Int32)), .unset, .unset, .unset] [(.int (3 : Int32))])
    refine Go.by (fun _ gk => XT.iconstV X0.here hx rfl (2 : Int32) (hb hby at_35) (by decide) gk) ?_
    show Go _ _ _ _ s₁ (mkF m 36 #[.val (.int p0), .val (.int (3 : Int32)), .unset, .unset, .unset] [(.int (2 : Int32)), (.int (3 : Int32))])
    refine Go.by (fun _ gk => XS.icmpYes X0.here hx rfl (pc0 := 36) (pc' := 48) rfl (hb hby at_36) rfl (XT.ii_ne_t (by decide)) (by decide) (by decide) gk) ?_
    show Go _ _ _ _ s₁ (mkF m 48 #[.val (.int p0), .val (.int (3 : Int32)), .unset, .unset, .unset] [])
    refine Go.by (fun _ gk => XS.iloadN X0.here hx rfl (hb hby at_48) rfl gk) ?_
    show Go _ _ _ _ s₁ (mkF m 49 #[.val (.int p0), .val (.int (3 : Int32)), .unset, .unset, .unset] [(.int (3 : Int32))])
    refine Go.by (fun _ gk => XT.iconstV X0.here hx rfl (3 : Int32) (hb hby at_49) (by decide) gk) ?_
    show Go _ _ _ _ s₁ (mkF m 50 #[.val (.int p0), .val (.int (3 : Int32)), .unset, .unset, .unset] [(.int (3 : Int32)), (.int (3 : Int32))])
    refine Go.by (fun _ gk => XS.icmpNo X0.here hx rfl (hb hby at_50) rfl (XT.ii_ne_f rfl) gk) ?_
    show Go _ _ _ _ s₁ (mkF m 53 #[.val (.int p0), .val (.int (3 : Int32)), .unset, .unset, .unset] [])
    have F28 : Sta Z h0 "com/example/diligent_tariff/diligenttariff/book/Unit" "KW" "Lcom/example/diligent_tariff/diligenttariff/book/Unit;" (.ref u_KW) := S_u_KW.ext O0.2
    obtain ⟨T29, X29, e29, st29⟩ := getS2 X0 hx hZ hown (host := "") (Or.inl (hw _ (List.mem_of_getElem? (i := 43) rfl))) Via.refl e0 F28 (g := (mkF m 53 #[.val (.int p0), .val (.int (3 : Int32)), .unset, .unset, .unset] [])) rfl (hb hby at_53)
    refine Go.by st29 ?_
    show Go _ _ _ _ T29 (mkF m 56 #[.val (.int p0), .val (.int (3 : Int32)), .unset, .unset, .unset] [(.ref u_KW)])
    refine Go.by (fun _ gk => XS.astoreN X29.here hx rfl (hb hby at_56) rfl rfl (l' := #[.val (.int p0), .val (.int (3 : Int32)), .val (.ref u_KW), .unset, .unset]) rfl gk) ?_
    show Go _ _ _ _ T29 (mkF m 57 #[.val (.int p0), .val (.int (3 : Int32)), .val (.ref u_KW), .unset, .unset] [])
    have F30 : Sta Z h0 "com/example/diligent_tariff/diligenttariff/billing/Determinant" "KW" "Lcom/example/diligent_tariff/diligenttariff/billing/Determinant;" (.ref d_KW) := D0.ext O0.2
    obtain ⟨T31, X31, e31, st31⟩ := getS2 X29 hx hZ hown (host := "") (Or.inl (hw _ (List.mem_of_getElem? (i := 44) rfl))) Via.refl e29 F30 (g := (mkF m 57 #[.val (.int p0), .val (.int (3 : Int32)), .val (.ref u_KW), .unset, .unset] [])) rfl (hb hby at_57)
    refine Go.by st31 ?_
    show Go _ _ _ _ T31 (mkF m 60 #[.val (.int p0), .val (.int (3 : Int32)), .val (.ref u_KW), .unset, .unset] [(.ref d_KW)])
    refine Go.by (fun _ gk => XS.astoreN X31.here hx rfl (hb hby at_60) rfl rfl (l' := #[.val (.int p0), .val (.int (3 : Int32)), .val (.ref u_KW), .val (.ref d_KW), .unset]) rfl gk) ?_
    show Go _ _ _ _ T31 (mkF m 61 #[.val (.int p0), .val (.int (3 : Int32)), .val (.ref u_KW), .val (.ref d_KW), .unset] [])
    refine Go.by (fun _ gk => XS.goto X31.here hx rfl (pc0 := 61) (pc' := 72) rfl (hb hby at_61) (by decide) (by decide) gk) ?_
    show Go _ _ _ _ T31 (mkF m 72 #[.val (.int p0), .val (.int (3 : Int32)), .val (.ref u_KW), .val (.ref d_KW), .unset] [])
    refine Go.by (fun _ gk => XS.aloadN X31.here hx rfl (hb hby at_72) rfl rfl gk) ?_
    show Go _ _ _ _ T31 (mkF m 73 #[.val (.int p0), .val (.int (3 : Int32)), .val (.ref u_KW), .val (.ref d_KW), .unset] [(.ref u_KW)])
    obtain ⟨_, _, ⟨T32, L32, k32, n32⟩, -, X32, ⟨Lc32, hQ32, l32, y32, z32⟩, st32⟩ := Jvm.LawKit.callS X31 hx (y := (⟨"com/example/diligent_tariff/diligenttariff/billing/Determinant", "giving", "(Lcom/example/diligent_tariff/diligenttariff/book/Unit;)Ljava/util/Optional;"⟩ : MethodName)) hown (mvT hZ (hw _ (List.mem_of_getElem? (i := 4) rfl))) (mvT hZ (hw _ (List.mem_of_getElem? (i := 5) rfl))) (mvT hZ (hw _ (List.mem_of_getElem? (i := 6) rfl))) (mvT hZ (hw _ (List.mem_of_getElem? (i := 7) rfl))) (by decide) (backOf (W := 0) (rmGiving_KW l Z a0 hw [] u_MONTH u_BILL u_KWH u_KW u_KVA d_KW d_KVA d_PHASE d_INTERVALS va kv em h0 n0 Z0 O0 S_u_MONTH E_u_MONTH O_u_MONTH S_u_BILL E_u_BILL O_u_BILL S_u_KWH E_u_KWH O_u_KWH S_u_KW E_u_KW O_u_KW S_u_KVA E_u_KVA O_u_KVA D0 D1 D2 D3 D4 D5 D6 D7 D8 D9 D10 D11 D12 D13 D14 D15) hZ (hw _ (List.mem_of_getElem? (i := 7) rfl)) (hw _ (List.mem_of_getElem? (i := 6) rfl)) (by decide) (by decide)) (g := (mkF m 73 #[.val (.int p0), .val (.int (3 : Int32)), .val (.ref u_KW), .val (.ref d_KW), .unset] [(.ref u_KW)])) rfl (by rw [hml]; rfl) (argsL := [(.ref u_KW)]) (rest := []) (lenOf pd_75 rfl) rfl (by show 2 * 0 + _ ≤ _; exact Nat.le_of_eq rfl) (hb hby at_73) (fun _ _ => ⟨rfl, e31, (by decide : 0 + 2 ≤ _), (by decide : 0 + 5 ≤ _)⟩)
    dsimp only [Pt.U, Pt.locs, Pt.cells, Pt.slots] at X32 l32 y32 z32 st32 hQ32
    subst l32 y32 z32
    obtain ⟨o, rfl, N32q, K32, Q32_0, Q32_1, Q32_2⟩ := hQ32
    have N32 := Fr.app N0 N32q
    refine Go.by st32 ?_
    show Go _ _ _ _ T32 (mkF m 76 #[.val (.int p0), .val (.int (3 : Int32)), .val (.ref u_KW), .val (.ref d_KW), .unset] [(.ref o)])
    have ge_o : n0 ≤ o := Nat.le_trans Z0 Q32_2
    have sz_o : h0.size ≤ o := Nat.le_trans (Keep.refl h0 []).1 Q32_2
    refine Go.by (fun _ gk => XS.aconstNull X32.here hx rfl (hb hby at_76) gk) ?_
    show Go _ _ _ _ T32 (mkF m 77 #[.val (.int p0), .val (.int (3 : Int32)), .val (.ref u_KW), .val (.ref d_KW), .unset] [.null, (.ref o)])
    have F33 : n0 ≤ T32.heap.size := Nat.le_trans Z0 K32.1
    obtain ⟨cq34, kq34, q34a, q34b, q34c⟩ := isOf hZ rfl Q32_0
    obtain ⟨_, _, ⟨T34, L34, k34, n34⟩, -, X34, ⟨Lc34, hQ34, l34, y34, z34⟩, st34⟩ := X32.virtualBack hx (y := (⟨"java/util/Optional", "orElse", "(Ljava/lang/Object;)Ljava/lang/Object;"⟩ : MethodName)) (z := (⟨"java/util/Optional", "orElse", "(Ljava/lang/Object;)Ljava/lang/Object;"⟩ : MethodName)) hown (mvT hZ (hw _ (List.mem_of_getElem? (i := 36) rfl))) (mvT hZ (hw _ (List.mem_of_getElem? (i := 37) rfl))) (notFace_of_selects (args := #[]) (mvT hZ (hw _ (List.mem_of_getElem? (i := 39) rfl)))) (mvT hZ (hw _ (List.mem_of_getElem? (i := 39) rfl))) (mvT hZ (hw _ (List.mem_of_getElem? (i := 38) rfl))) (by decide) (backOf (W := 0) (rmOrElse l Z a0 hw [] o d_KW T32.heap n0 F33 Q32_1) hZ (hw _ (List.mem_of_getElem? (i := 40) rfl)) (hw _ (List.mem_of_getElem? (i := 33) rfl)) (by decide) (by decide)) q34a q34c (g := (mkF m 77 #[.val (.int p0), .val (.int (3 : Int32)), .val (.ref u_KW), .val (.ref d_KW), .unset] [.null, (.ref o)])) rfl (by rw [hml]; rfl) (Steps.refl _) (argsL := [.null]) (rest := []) (lenOf pd_30 rfl) rfl (by show 2 * 0 + _ ≤ _; exact Nat.le_of_eq rfl) (hb hby at_77) (fun _ _ => ⟨rfl, rfl, (by decide : 2 + 0 ≤ _), (by decide : 5 + 0 ≤ _)⟩)
    dsimp only [Pt.U, Pt.locs, Pt.cells, Pt.slots] at X34 l34 y34 z34 st34 hQ34
    subst l34 y34 z34
    obtain ⟨rfl, N34q, e34⟩ := hQ34
    have N34 := Fr.app N32 N34q
    refine Go.to st34 ?_
    show Go _ _ _ _ T34 (mkF m 80 #[.val (.int p0), .val (.int (3 : Int32)), .val (.ref u_KW), .val (.ref d_KW), .unset] [(.ref d_KW)])
    have F36 : Old Z n0 T32.heap := O0.keep K32 all0
    have F37 : Exa Z T32.heap d_KW "com/example/diligent_tariff/diligenttariff/billing/Determinant" := D8.ext F36.2
    obtain ⟨T35, X35, e35, st35⟩ := castY X34 hx hZ hown (hw _ (List.mem_of_getElem? (i := 61) rfl)) e34 (Ins.self F37) (g := (mkF m 80 #[.val (.int p0), .val (.int (3 : Int32)), .val (.ref u_KW), .val (.ref d_KW), .unset] [(.ref d_KW)])) rfl rfl (hb hby at_80)
    refine Go.by st35 ?_
    show Go _ _ _ _ T35 (mkF m 83 #[.val (.int p0), .val (.int (3 : Int32)), .val (.ref u_KW), .val (.ref d_KW), .unset] [(.ref d_KW)])
    refine Go.by (fun _ gk => XS.astore X35.here hx rfl (hb hby at_83) rfl rfl (l' := #[.val (.int p0), .val (.int (3 : Int32)), .val (.ref u_KW), .val (.ref d_KW), .val (.ref d_KW)]) rfl gk) ?_
    show Go _ _ _ _ T35 (mkF m 85 #[.val (.int p0), .val (.int (3 : Int32)), .val (.ref u_KW), .val (.ref d_KW), .val (.ref d_KW)] [])
    refine Go.by (fun _ gk => XS.aload X35.here hx rfl (hb hby at_85) rfl rfl gk) ?_
    show Go _ _ _ _ T35 (mkF m 87 #[.val (.int p0), .val (.int (3 : Int32)), .val (.ref u_KW), .val (.ref d_KW), .val (.ref d_KW)] [(.ref d_KW)])
    refine Go.by (fun _ gk => XS.aloadN X35.here hx rfl (hb hby at_87) rfl rfl gk) ?_
    show Go _ _ _ _ T35 (mkF m 88 #[.val (.int p0), .val (.int (3 : Int32)), .val (.ref u_KW), .val (.ref d_KW), .val (.ref d_KW)] [(.ref d_KW), (.ref d_KW)])
    refine Go.by (fun _ gk => XT.acmpNo X35.here hx rfl (hb hby at_88) rfl rfl rfl (XT.aa_ne_f rfl) gk) ?_
    show Go _ _ _ _ T35 (mkF m 91 #[.val (.int p0), .val (.int (3 : Int32)), .val (.ref u_KW), .val (.ref d_KW), .val (.ref d_KW)] [])
    refine Go.by (fun _ gk => XT.iconstV X35.here hx rfl (1 : Int32) (hb hby at_91) (by decide) gk) ?_
    show Go _ _ _ _ T35 (mkF m 92 #[.val (.int p0), .val (.int (3 : Int32)), .val (.ref u_KW), .val (.ref d_KW), .val (.ref d_KW)] [(.int (1 : Int32))])
    refine Go.by (fun _ gk => XS.goto X35.here hx rfl (pc0 := 92) (pc' := 96) rfl (hb hby at_92) (by decide) (by decide) gk) ?_
    show Go _ _ _ _ T35 (mkF m 96 #[.val (.int p0), .val (.int (3 : Int32)), .val (.ref u_KW), .val (.ref d_KW), .val (.ref d_KW)] [(.int (1 : Int32))])
    exact Go.retI X35 hx Bd.notSynchronized Bd.returns rfl (by simp) (hb hby at_96) (by rw [e35]; exact ⟨rfl, N34⟩) (by decide) (by decide)
  · show Go _ _ _ _ s₁ (mkF m 7 #[.val (.int p0), .val (.int (4 : Int32)), .unset, .unset, .unset] [])
    refine Go.by (fun _ gk => XS.iloadN X0.here hx rfl (hb hby at_7) rfl gk) ?_
    show Go _ _ _ _ s₁ (mkF m 8 #[.val (.int p0), .val (.int (4 : Int32)), .unset, .unset, .unset] [(.int (4 : Int32))])
    refine Go.by (fun _ gk => XS.ifYes X0.here hx rfl (pc0 := 8) (pc' := 20) rfl (hb hby at_8) rfl (XT.i0_ne_t (by decide)) (by decide) (by decide) gk) ?_
    show Go _ _ _ _ s₁ (mkF m 20 #[.val (.int p0), .val (.int (4 : Int32)), .unset, .unset, .unset] [])
    refine Go.by (fun _ gk => XS.iloadN X0.here hx rfl (hb hby at_20) rfl gk) ?_
    show Go _ _ _ _ s₁ (mkF m 21 #[.val (.int p0), .val (.int (4 : Int32)), .unset, .unset, .unset] [(.int (4 : Int32))])
    refine Go.by (fun _ gk => XT.iconstV X0.here hx rfl (1 : Int32) (hb hby at_21) (by decide) gk) ?_
    show Go _ _ _ _ s₁ (mkF m 22 #[.val (.int p0), .val (.int (4 : Int32)), .unset, .unset, .unset] [(.int (1 : Int32)), (.int (4 : Int32))])
    refine Go.by (fun _ gk => XS.icmpYes X0.here hx rfl (pc0 := 22) (pc' := 34) rfl (hb hby at_22) rfl (XT.ii_ne_t (by decide)) (by decide) (by decide) gk) ?_
    show Go _ _ _ _ s₁ (mkF m 34 #[.val (.int p0), .val (.int (4 : Int32)), .unset, .unset, .unset] [])
    refine Go.by (fun _ gk => XS.iloadN X0.here hx rfl (hb hby at_34) rfl gk) ?_
    show Go _ _ _ _ s₁ (mkF m 35 #[.val (.int p0), .val (.int (4 : Int32)), .unset, .unset, .unset] [(.int (4 : Int32))])
    refine Go.by (fun _ gk => XT.iconstV X0.here hx rfl (2 : Int32) (hb hby at_35) (by decide) gk) ?_
    show Go _ _ _ _ s₁ (mkF m 36 #[.val (.int p0), .val (.int (4 : Int32)), .unset, .unset, .unset] [(.int (2 : Int32)), (.int (4 : Int32))])
    refine Go.by (fun _ gk => XS.icmpYes X0.here hx rfl (pc0 := 36) (pc' := 48) rfl (hb hby at_36) rfl (XT.ii_ne_t (by decide)) (by decide) (by decide) gk) ?_
    show Go _ _ _ _ s₁ (mkF m 48 #[.val (.int p0), .val (.int (4 : Int32)), .unset, .unset, .unset] [])
    refine Go.by (fun _ gk => XS.iloadN X0.here hx rfl (hb hby at_48) rfl gk) ?_
    show Go _ _ _ _ s₁ (mkF m 49 #[.val (.int p0), .val (.int (4 : Int32)), .unset, .unset, .unset] [(.int (4 : Int32))])
    refine Go.by (fun _ gk => XT.iconstV X0.here hx rfl (3 : Int32) (hb hby at_49) (by decide) gk) ?_
    show Go _ _ _ _ s₁ (mkF m 50 #[.val (.int p0), .val (.int (4 : Int32)), .unset, .unset, .unset] [(.int (3 : Int32)), (.int (4 : Int32))])
    refine Go.by (fun _ gk => XS.icmpYes X0.here hx rfl (pc0 := 50) (pc' := 64) rfl (hb hby at_50) rfl (XT.ii_ne_t (by decide)) (by decide) (by decide) gk) ?_
    show Go _ _ _ _ s₁ (mkF m 64 #[.val (.int p0), .val (.int (4 : Int32)), .unset, .unset, .unset] [])
    have F38 : Sta Z h0 "com/example/diligent_tariff/diligenttariff/book/Unit" "KVA" "Lcom/example/diligent_tariff/diligenttariff/book/Unit;" (.ref u_KVA) := S_u_KVA.ext O0.2
    obtain ⟨T39, X39, e39, st39⟩ := getS2 X0 hx hZ hown (host := "") (Or.inl (hw _ (List.mem_of_getElem? (i := 65) rfl))) Via.refl e0 F38 (g := (mkF m 64 #[.val (.int p0), .val (.int (4 : Int32)), .unset, .unset, .unset] [])) rfl (hb hby at_64)
    refine Go.by st39 ?_
    show Go _ _ _ _ T39 (mkF m 67 #[.val (.int p0), .val (.int (4 : Int32)), .unset, .unset, .unset] [(.ref u_KVA)])
    refine Go.by (fun _ gk => XS.astoreN X39.here hx rfl (hb hby at_67) rfl rfl (l' := #[.val (.int p0), .val (.int (4 : Int32)), .val (.ref u_KVA), .unset, .unset]) rfl gk) ?_
    show Go _ _ _ _ T39 (mkF m 68 #[.val (.int p0), .val (.int (4 : Int32)), .val (.ref u_KVA), .unset, .unset] [])
    have F40 : Sta Z h0 "com/example/diligent_tariff/diligenttariff/billing/Determinant" "KVA" "Lcom/example/diligent_tariff/diligenttariff/billing/Determinant;" (.ref d_KVA) := D1.ext O0.2
    obtain ⟨T41, X41, e41, st41⟩ := getS2 X39 hx hZ hown (host := "") (Or.inl (hw _ (List.mem_of_getElem? (i := 66) rfl))) Via.refl e39 F40 (g := (mkF m 68 #[.val (.int p0), .val (.int (4 : Int32)), .val (.ref u_KVA), .unset, .unset] [])) rfl (hb hby at_68)
    refine Go.by st41 ?_
    show Go _ _ _ _ T41 (mkF m 71 #[.val (.int p0), .val (.int (4 : Int32)), .val (.ref u_KVA), .unset, .unset] [(.ref d_KVA)])
    refine Go.by (fun _ gk => XS.astoreN X41.here hx rfl (hb hby at_71) rfl rfl (l' := #[.val (.int p0), .val (.int (4 : Int32)), .val (.ref u_KVA), .val (.ref d_KVA), .unset]) rfl gk) ?_
    show Go _ _ _ _ T41 (mkF m 72 #[.val (.int p0), .val (.int (4 : Int32)), .val (.ref u_KVA), .val (.ref d_KVA), .unset] [])
    refine Go.by (fun _ gk => XS.aloadN X41.here hx rfl (hb hby at_72) rfl rfl gk) ?_
    show Go _ _ _ _ T41 (mkF m 73 #[.val (.int p0), .val (.int (4 : Int32)), .val (.ref u_KVA), .val (.ref d_KVA), .unset] [(.ref u_KVA)])
    obtain ⟨_, _, ⟨T42, L42, k42, n42⟩, -, X42, ⟨Lc42, hQ42, l42, y42, z42⟩, st42⟩ := Jvm.LawKit.callS X41 hx (y := (⟨"com/example/diligent_tariff/diligenttariff/billing/Determinant", "giving", "(Lcom/example/diligent_tariff/diligenttariff/book/Unit;)Ljava/util/Optional;"⟩ : MethodName)) hown (mvT hZ (hw _ (List.mem_of_getElem? (i := 4) rfl))) (mvT hZ (hw _ (List.mem_of_getElem? (i := 5) rfl))) (mvT hZ (hw _ (List.mem_of_getElem? (i := 6) rfl))) (mvT hZ (hw _ (List.mem_of_getElem? (i := 7) rfl))) (by decide) (backOf (W := 0) (rmGiving_KVA l Z a0 hw [] u_MONTH u_BILL u_KWH u_KW u_KVA d_KW d_KVA d_PHASE d_INTERVALS va kv em h0 n0 Z0 O0 S_u_MONTH E_u_MONTH O_u_MONTH S_u_BILL E_u_BILL O_u_BILL S_u_KWH E_u_KWH O_u_KWH S_u_KW E_u_KW O_u_KW S_u_KVA E_u_KVA O_u_KVA D0 D1 D2 D3 D4 D5 D6 D7 D8 D9 D10 D11 D12 D13 D14 D15) hZ (hw _ (List.mem_of_getElem? (i := 7) rfl)) (hw _ (List.mem_of_getElem? (i := 6) rfl)) (by decide) (by decide)) (g := (mkF m 73 #[.val (.int p0), .val (.int (4 : Int32)), .val (.ref u_KVA), .val (.ref d_KVA), .unset] [(.ref u_KVA)])) rfl (by rw [hml]; rfl) (argsL := [(.ref u_KVA)]) (rest := []) (lenOf pd_75 rfl) rfl (by show 2 * 0 + _ ≤ _; exact Nat.le_of_eq rfl) (hb hby at_73) (fun _ _ => ⟨rfl, e41, (by decide : 0 + 2 ≤ _), (by decide : 0 + 5 ≤ _)⟩)
    dsimp only [Pt.U, Pt.locs, Pt.cells, Pt.slots] at X42 l42 y42 z42 st42 hQ42
    subst l42 y42 z42
    obtain ⟨o, rfl, N42q, K42, Q42_0, Q42_1, Q42_2⟩ := hQ42
    have N42 := Fr.app N0 N42q
    refine Go.by st42 ?_
    show Go _ _ _ _ T42 (mkF m 76 #[.val (.int p0), .val (.int (4 : Int32)), .val (.ref u_KVA), .val (.ref d_KVA), .unset] [(.ref o)])
    have ge_o : n0 ≤ o := Nat.le_trans Z0 Q42_2
    have sz_o : h0.size ≤ o := Nat.le_trans (Keep.refl h0 []).1 Q42_2
    refine Go.by (fun _ gk => XS.aconstNull X42.here hx rfl (hb hby at_76) gk) ?_
    show Go _ _ _ _ T42 (mkF m 77 #[.val (.int p0), .val (.int (4 : Int32)), .val (.ref u_KVA), .val (.ref d_KVA), .unset] [.null, (.ref o)])
    have F43 : n0 ≤ T42.heap.size := Nat.le_trans Z0 K42.1
    obtain ⟨cq44, kq44, q44a, q44b, q44c⟩ := isOf hZ rfl Q42_0
    obtain ⟨_, _, ⟨T44, L44, k44, n44⟩, -, X44, ⟨Lc44, hQ44, l44, y44, z44⟩, st44⟩ := X42.virtualBack hx (y := (⟨"java/util/Optional", "orElse", "(Ljava/lang/Object;)Ljava/lang/Object;"⟩ : MethodName)) (z := (⟨"java/util/Optional", "orElse", "(Ljava/lang/Object;)Ljava/lang/Object;"⟩ : MethodName)) hown (mvT hZ (hw _ (List.mem_of_getElem? (i := 36) rfl))) (mvT hZ (hw _ (List.mem_of_getElem? (i := 37) rfl))) (notFace_of_selects (args := #[]) (mvT hZ (hw _ (List.mem_of_getElem? (i := 39) rfl)))) (mvT hZ (hw _ (List.mem_of_getElem? (i := 39) rfl))) (mvT hZ (hw _ (List.mem_of_getElem? (i := 38) rfl))) (by decide) (backOf (W := 0) (rmOrElse l Z a0 hw [] o d_KVA T42.heap n0 F43 Q42_1) hZ (hw _ (List.mem_of_getElem? (i := 40) rfl)) (hw _ (List.mem_of_getElem? (i := 33) rfl)) (by decide) (by decide)) q44a q44c (g := (mkF m 77 #[.val (.int p0), .val (.int (4 : Int32)), .val (.ref u_KVA), .val (.ref d_KVA), .unset] [.null, (.ref o)])) rfl (by rw [hml]; rfl) (Steps.refl _) (argsL := [.null]) (rest := []) (lenOf pd_30 rfl) rfl (by show 2 * 0 + _ ≤ _; exact Nat.le_of_eq rfl) (hb hby at_77) (fun _ _ => ⟨rfl, rfl, (by decide : 2 + 0 ≤ _), (by decide : 5 + 0 ≤ _)⟩)
    dsimp only [Pt.U, Pt.locs, Pt.cells, Pt.slots] at X44 l44 y44 z44 st44 hQ44
    subst l44 y44 z44
    obtain ⟨rfl, N44q, e44⟩ := hQ44
    have N44 := Fr.app N42 N44q
    refine Go.to st44 ?_
    show Go _ _ _ _ T44 (mkF m 80 #[.val (.int p0), .val (.int (4 : Int32)), .val (.ref u_KVA), .val (.ref d_KVA), .unset] [(.ref d_KVA)])
    have F46 : Old Z n0 T42.heap := O0.keep K42 all0
    have F47 : Exa Z T42.heap d_KVA "com/example/diligent_tariff/diligenttariff/billing/Determinant" := D9.ext F46.2
    obtain ⟨T45, X45, e45, st45⟩ := castY X44 hx hZ hown (hw _ (List.mem_of_getElem? (i := 61) rfl)) e44 (Ins.self F47) (g := (mkF m 80 #[.val (.int p0), .val (.int (4 : Int32)), .val (.ref u_KVA), .val (.ref d_KVA), .unset] [(.ref d_KVA)])) rfl rfl (hb hby at_80)
    refine Go.by st45 ?_
    show Go _ _ _ _ T45 (mkF m 83 #[.val (.int p0), .val (.int (4 : Int32)), .val (.ref u_KVA), .val (.ref d_KVA), .unset] [(.ref d_KVA)])
    refine Go.by (fun _ gk => XS.astore X45.here hx rfl (hb hby at_83) rfl rfl (l' := #[.val (.int p0), .val (.int (4 : Int32)), .val (.ref u_KVA), .val (.ref d_KVA), .val (.ref d_KVA)]) rfl gk) ?_
    show Go _ _ _ _ T45 (mkF m 85 #[.val (.int p0), .val (.int (4 : Int32)), .val (.ref u_KVA), .val (.ref d_KVA), .val (.ref d_KVA)] [])
    refine Go.by (fun _ gk => XS.aload X45.here hx rfl (hb hby at_85) rfl rfl gk) ?_
    show Go _ _ _ _ T45 (mkF m 87 #[.val (.int p0), .val (.int (4 : Int32)), .val (.ref u_KVA), .val (.ref d_KVA), .val (.ref d_KVA)] [(.ref d_KVA)])
    refine Go.by (fun _ gk => XS.aloadN X45.here hx rfl (hb hby at_87) rfl rfl gk) ?_
    show Go _ _ _ _ T45 (mkF m 88 #[.val (.int p0), .val (.int (4 : Int32)), .val (.ref u_KVA), .val (.ref d_KVA), .val (.ref d_KVA)] [(.ref d_KVA), (.ref d_KVA)])
    refine Go.by (fun _ gk => XT.acmpNo X45.here hx rfl (hb hby at_88) rfl rfl rfl (XT.aa_ne_f rfl) gk) ?_
    show Go _ _ _ _ T45 (mkF m 91 #[.val (.int p0), .val (.int (4 : Int32)), .val (.ref u_KVA), .val (.ref d_KVA), .val (.ref d_KVA)] [])
    refine Go.by (fun _ gk => XT.iconstV X45.here hx rfl (1 : Int32) (hb hby at_91) (by decide) gk) ?_
    show Go _ _ _ _ T45 (mkF m 92 #[.val (.int p0), .val (.int (4 : Int32)), .val (.ref u_KVA), .val (.ref d_KVA), .val (.ref d_KVA)] [(.int (1 : Int32))])
    refine Go.by (fun _ gk => XS.goto X45.here hx rfl (pc0 := 92) (pc' := 96) rfl (hb hby at_92) (by decide) (by decide) gk) ?_
    show Go _ _ _ _ T45 (mkF m 96 #[.val (.int p0), .val (.int (4 : Int32)), .val (.ref u_KVA), .val (.ref d_KVA), .val (.ref d_KVA)] [(.int (1 : Int32))])
    exact Go.retI X45 hx Bd.notSynchronized Bd.returns rfl (by simp) (hb hby at_96) (by rw [e45]; exact ⟨rfl, N44⟩) (by decide) (by decide)
set_option maxRecDepth 65536 in
set_option maxHeartbeats 40000000 in
theorem comes_1 {Post : Tables → Env → Array Value → State → Outcome → State → Prop} (hpost : ∀ tb e args s v u, (limb_1_1.after args s (.returned v) u = true ∧ limb_1_2.after args s (.returned v) u = true ∧ True) → FrameEnd s (.returned v) u (Jvm.fieldLocs frame_1_writes args s ++ Jvm.arrayLocs frame_1_arrays args s ++ Jvm.staticLocs frame_1_statics s) 16 128 → Post tb e args s (.returned v) u) :
    ArmFor flags0 classFile x code maxLocals ret World_1 tables_1 room_1 Calls_1 rest_1 Pre_1 Post := by
  intro l hfl _ _ p e ha hc hk s m args below hf hA hF happ hP
  obtain ⟨hcalls, hrest, hpre⟩ := hP
  obtain ⟨-, -, -, hnamed, -, -, -, hat⟩ := (Spec.applies_iff hf).mp happ
  obtain ⟨hg, hn⟩ := and_e (Cond.before_iff.mp (show (Jvm.Cond.and given_1 narrow_1).before args s = true from hpre))
  obtain ⟨hcount, hg0⟩ := and_e hg
  have ha0 := hg0
  obtain ⟨w0, rfl⟩ : ∃ w0 : Value, args = #[w0] := by
    have hs : args.size = 1 := by simpa [Cond.value, given_1] using hcount
    obtain ⟨L⟩ := args
    match L, hs with
    | [w0], _ => exact ⟨w0, rfl⟩
  have hw := fun d (hd : d ∈ tables_1) => atoms_spec (ws := Jvm.Cond.code x code maxLocals ret :: tables_1) hat d (List.mem_cons_of_mem _ hd)
  obtain ⟨hsets, hown0⟩ := atoms_of _ (rest_1_c_eq ▸ (show rest_1_c.before _ s = true from hrest))
  have hr0 := Cond.before_iff.mp hown0
  have hfit : Fit s := fun {y c} hc i hi => by
    obtain ⟨ha, rfl⟩ := Array.getElem?_eq_some_iff.mp hc
    have q := List.all_eq_true.mp ((Array.all_eq_true_iff_forall_mem.mp hF) _ (Array.getElem_mem ha)) i (List.mem_range.mpr hi)
    simpa [Array.getElem?_eq_getElem hi] using q
  obtain ⟨i0, ei0⟩ := is_v ha0
  obtain rfl : w0 = (.int i0) := Option.some.inj ei0
  have hnr0 := hn
  obtain ⟨nr0, hnr1⟩ := and_e hnr0
  obtain ⟨nr1, hnr2⟩ := and_e hnr1
  obtain ⟨nr2, hnr3⟩ := and_e hnr2
  obtain ⟨nr3, hnr4⟩ := and_e hnr3
  obtain ⟨nr4, hnr5⟩ := and_e hnr4
  obtain ⟨nr5, hnr6⟩ := and_e hnr5
  obtain ⟨nr6, hnr7⟩ := and_e hnr6
  obtain ⟨nr7, hnr8⟩ := and_e hnr7
  obtain ⟨nr8, hnr9⟩ := and_e hnr8
  obtain ⟨nr9, hnr10⟩ := and_e hnr9
  obtain ⟨nr10, hnr11⟩ := and_e hnr10
  obtain ⟨nr11, hnr12⟩ := and_e hnr11
  obtain ⟨nr12, hnr13⟩ := and_e hnr12
  obtain ⟨nr13, hnr14⟩ := and_e hnr13
  obtain ⟨nr14, hnr15⟩ := and_e hnr14
  obtain ⟨nr15, hnr16⟩ := and_e hnr15
  obtain ⟨nr16, hnr17⟩ := and_e hnr16
  obtain ⟨nr17, hnr18⟩ := and_e hnr17
  obtain ⟨nr18, hnr19⟩ := and_e hnr18
  obtain ⟨nr19, hnr20⟩ := and_e hnr19
  obtain ⟨nr20, hnr21⟩ := and_e hnr20
  obtain ⟨nr21, hnr22⟩ := and_e hnr21
  obtain ⟨nr22, hnr23⟩ := and_e hnr22
  obtain ⟨nr23, hnr24⟩ := and_e hnr23
  have nr24 := hnr24
  obtain ⟨u_MONTH, ev_u_MONTH⟩ := exa_v nr0
  have S_u_MONTH : Sta s s.heap "com/example/diligent_tariff/diligenttariff/book/Unit" "MONTH" "Lcom/example/diligent_tariff/diligenttariff/book/Unit;" (.ref u_MONTH) := Sta.start ev_u_MONTH (Or.inr ⟨(hw _ (List.mem_of_getElem? (i := 2) rfl)), (hw _ (List.mem_of_getElem? (i := 3) rfl))⟩)
  have E_u_MONTH := Exa.start ev_u_MONTH nr0
  have O_u_MONTH := Fld.start (own_ord nr15 ev_u_MONTH)
  obtain ⟨u_BILL, ev_u_BILL⟩ := exa_v nr21
  have S_u_BILL : Sta s s.heap "com/example/diligent_tariff/diligenttariff/book/Unit" "BILL" "Lcom/example/diligent_tariff/diligenttariff/book/Unit;" (.ref u_BILL) := Sta.start ev_u_BILL (Or.inr ⟨(hw _ (List.mem_of_getElem? (i := 2) rfl)), (hw _ (List.mem_of_getElem? (i := 64) rfl))⟩)
  have E_u_BILL := Exa.start ev_u_BILL nr21
  have O_u_BILL := Fld.start (own_ord nr22 ev_u_BILL)
  obtain ⟨u_KWH, ev_u_KWH⟩ := exa_v nr23
  have S_u_KWH : Sta s s.heap "com/example/diligent_tariff/diligenttariff/book/Unit" "KWH" "Lcom/example/diligent_tariff/diligenttariff/book/Unit;" (.ref u_KWH) := Sta.start ev_u_KWH (Or.inr ⟨(hw _ (List.mem_of_getElem? (i := 2) rfl)), (hw _ (List.mem_of_getElem? (i := 68) rfl))⟩)
  have E_u_KWH := Exa.start ev_u_KWH nr23
  have O_u_KWH := Fld.start (own_ord nr24 ev_u_KWH)
  obtain ⟨u_KW, ev_u_KW⟩ := exa_v nr12
  have S_u_KW : Sta s s.heap "com/example/diligent_tariff/diligenttariff/book/Unit" "KW" "Lcom/example/diligent_tariff/diligenttariff/book/Unit;" (.ref u_KW) := Sta.start ev_u_KW (Or.inr ⟨(hw _ (List.mem_of_getElem? (i := 2) rfl)), (hw _ (List.mem_of_getElem? (i := 29) rfl))⟩)
  have E_u_KW := Exa.start ev_u_KW nr12
  have O_u_KW := Fld.start (own_ord nr14 ev_u_KW)
  obtain ⟨u_KVA, ev_u_KVA⟩ := exa_v nr16
  have S_u_KVA : Sta s s.heap "com/example/diligent_tariff/diligenttariff/book/Unit" "KVA" "Lcom/example/diligent_tariff/diligenttariff/book/Unit;" (.ref u_KVA) := Sta.start ev_u_KVA (Or.inr ⟨(hw _ (List.mem_of_getElem? (i := 2) rfl)), (hw _ (List.mem_of_getElem? (i := 30) rfl))⟩)
  have E_u_KVA := Exa.start ev_u_KVA nr16
  have O_u_KVA := Fld.start (own_ord nr18 ev_u_KVA)
  obtain ⟨va, ev_va⟩ := arr_v nr1
  obtain ⟨vc, A_v⟩ := Arr.start ev_va nr1
  have len_v := own_len ev_va (A_v.fin (Vm.Alike.refl _)) (eqv_i (Term.int_eval 4) nr3)
  obtain ⟨d_KW, ev_d_KW⟩ := exa_v nr4
  have el_KW := (elem_in (own_eqR nr5 ev_d_KW) ev_va (Term.int_eval 0) A_v.1).2
  have un_KW := (fld_at ev_d_KW).symm.trans (own_eqR nr13 ev_u_KW)
  obtain ⟨d_KVA, ev_d_KVA⟩ := exa_v nr6
  have el_KVA := (elem_in (own_eqR nr7 ev_d_KVA) ev_va (Term.int_eval 1) A_v.1).2
  have un_KVA := (fld_at ev_d_KVA).symm.trans (own_eqR nr17 ev_u_KVA)
  obtain ⟨d_PHASE, ev_d_PHASE⟩ := exa_v nr8
  have el_PHASE := (elem_in (own_eqR nr9 ev_d_PHASE) ev_va (Term.int_eval 2) A_v.1).2
  have un_PHASE := (fld_at ev_d_PHASE).symm.trans (null_v nr19)
  obtain ⟨d_INTERVALS, ev_d_INTERVALS⟩ := exa_v nr10
  have el_INTERVALS := (elem_in (own_eqR nr11 ev_d_INTERVALS) ev_va (Term.int_eval 3) A_v.1).2
  have un_INTERVALS := (fld_at ev_d_INTERVALS).symm.trans (null_v nr20)
  obtain ⟨em, ev_em⟩ := exa_v (Cond.before_iff.mp (hsets _ (List.mem_of_getElem? (i := 2) rfl)))
  obtain ⟨kv, hkv⟩ : ∃ z, z = vc.cls := ⟨_, rfl⟩
  have D0 : Sta s s.heap "com/example/diligent_tariff/diligenttariff/billing/Determinant" "KW" "Lcom/example/diligent_tariff/diligenttariff/billing/Determinant;" (.ref d_KW) := Sta.start ev_d_KW (Or.inr ⟨(hw _ (List.mem_of_getElem? (i := 6) rfl)), (hw _ (List.mem_of_getElem? (i := 20) rfl))⟩)
  have D1 : Sta s s.heap "com/example/diligent_tariff/diligenttariff/billing/Determinant" "KVA" "Lcom/example/diligent_tariff/diligenttariff/billing/Determinant;" (.ref d_KVA) := Sta.start ev_d_KVA (Or.inr ⟨(hw _ (List.mem_of_getElem? (i := 6) rfl)), (hw _ (List.mem_of_getElem? (i := 21) rfl))⟩)
  have D2 : Sta s s.heap "com/example/diligent_tariff/diligenttariff/billing/Determinant" "$VALUES" "[Lcom/example/diligent_tariff/diligenttariff/billing/Determinant;" (.ref va) := Sta.start ev_va (Or.inl (hw _ (List.mem_of_getElem? (i := 24) rfl)))
  have D3 : Sta s s.heap "java/util/Optional" "EMPTY" "Ljava/util/Optional;" (.ref em) := Sta.start ev_em (Or.inl (hsets _ (List.mem_of_getElem? (i := 1) rfl)))
  have D4 : Arv s s.heap va kv (.object "com/example/diligent_tariff/diligenttariff/billing/Determinant") (4 : Int32) ([(.ref d_KW), (.ref d_KVA), (.ref d_PHASE), (.ref d_INTERVALS)]) .null := by rw [hkv]; exact Arv.start hfit A_v len_v.1 len_v.2 (by decide) rfl ⟨el_KW, el_KVA, el_PHASE, el_INTERVALS, trivial⟩
  have D5 : Exa s s.heap va "[Lcom/example/diligent_tariff/diligenttariff/billing/Determinant;" := Exa.start ev_va nr2
  have D6 : Exa s s.heap em "java/util/Optional" := Exa.start ev_em (Cond.before_iff.mp (hsets _ (List.mem_of_getElem? (i := 2) rfl)))
  have D7 : Fld s s.heap em "java/util/Optional" "value" "Ljava/lang/Object;" .null := Fld.start ((fld_at ev_em).symm.trans (null_v (Cond.before_iff.mp (hsets _ (List.mem_of_getElem? (i := 3) rfl)))))
  have D8 : Exa s s.heap d_KW "com/example/diligent_tariff/diligenttariff/billing/Determinant" := Exa.start ev_d_KW nr4
  have D9 : Exa s s.heap d_KVA "com/example/diligent_tariff/diligenttariff/billing/Determinant" := Exa.start ev_d_KVA nr6
  have D10 : Exa s s.heap d_PHASE "com/example/diligent_tariff/diligenttariff/billing/Determinant" := Exa.start ev_d_PHASE nr8
  have D11 : Exa s s.heap d_INTERVALS "com/example/diligent_tariff/diligenttariff/billing/Determinant" := Exa.start ev_d_INTERVALS nr10
  have D12 : Fld s s.heap d_KW "com/example/diligent_tariff/diligenttariff/billing/Determinant" "unit" "Lcom/example/diligent_tariff/diligenttariff/book/Unit;" (.ref u_KW) := Fld.start un_KW
  have D13 : Fld s s.heap d_KVA "com/example/diligent_tariff/diligenttariff/billing/Determinant" "unit" "Lcom/example/diligent_tariff/diligenttariff/book/Unit;" (.ref u_KVA) := Fld.start un_KVA
  have D14 : Fld s s.heap d_PHASE "com/example/diligent_tariff/diligenttariff/billing/Determinant" "unit" "Lcom/example/diligent_tariff/diligenttariff/book/Unit;" .null := Fld.start un_PHASE
  have D15 : Fld s s.heap d_INTERVALS "com/example/diligent_tariff/diligenttariff/billing/Determinant" "unit" "Lcom/example/diligent_tariff/diligenttariff/book/Unit;" .null := Fld.start un_INTERVALS
  obtain ⟨n, o, h1, h2, h3, _, L, rfl, ⟨rfl, N⟩, hq⟩ := rm0 l s _ hw tables_1 i0 u_MONTH u_BILL u_KWH u_KW u_KVA d_KW d_KVA d_PHASE d_INTERVALS va kv em s.heap s.heap.size (Nat.le_refl _) (Old.start s) S_u_MONTH E_u_MONTH O_u_MONTH S_u_BILL E_u_BILL O_u_BILL S_u_KWH E_u_KWH O_u_KWH S_u_KW E_u_KW O_u_KW S_u_KVA E_u_KVA O_u_KVA D0 D1 D2 D3 D4 D5 D6 D7 D8 D9 D10 D11 D12 D13 D14 D15 p e ha hc hk s m _ below hf ((Spec.applies_iff_loose hf).mp happ).1 ⟨rfl, State.Warmed39.refl s, rfl⟩ trivial
  refine ⟨n, _, h1, h2, h3, hpost _ _ _ _ _ _ ⟨Cond.after_iff.mpr rfl, Cond.after_iff.mpr (eq_i res_at (Term.int_eval (1)) rfl), trivial⟩ ⟨hq.1, hq.2.1, (hq.2.2.sift fun y hy => Or.inr (N y hy)).mono (by decide) (by decide)⟩⟩
theorem main_1_1 : Claimed_1_1 := comes_1 fun _ _ _ _ _ _ h hF => ⟨h.1, hF⟩
theorem main_1_2 : Claimed_1_2 := comes_1 fun _ _ _ _ _ _ h hF => ⟨h.2.1, hF⟩
end Jvm.Pilot.@@N@@
namespace Jvm.Pilot.@@N@@
open Jvm Jvm.ClassFile Sem Op Lib Jvm.Free Jvm.Stand Jvm.Pilot.@@N@@.Jvm.D
/-! MADE BY PROGRAM (witnessworld.py) out of the Statement's table words and the real class files: 16 classes; the members and pool entries that the words name. The judged class is class 1, her method 1. -/
namespace start1
open Jvm.ClassFile
def u (s : String) : CpInfo := .utf8 (stringToUtf16 s)
/-- a pool by its gaps: so many unusable entries, then the entry; so many at the end -/
def gap : Nat → List CpInfo → List CpInfo
  | 0, r => r
  | n + 1, r => .unusable :: gap n r
def poolList (es : List (Nat × CpInfo)) (last : Nat) : List CpInfo := es.foldr (fun e r => gap e.1 (e.2 :: r)) (gap last [])
def pool (es : List (Nat × CpInfo)) (last : Nat) : Array CpInfo := ⟨poolList es last⟩
def fileOf (pool : Array CpInfo) (this : Nat) (attrs : Array Attribute := #[]) (ms : Array MethodInfo := #[]) (fl : Nat := 33) (sup : Nat := 0) (ifs : Array Nat := #[]) (fds : Array FieldInfo := #[]) : ClassFile where
  minorVersion := 0
  majorVersion := 65
  constantPool := pool
  accessFlags := fl
  thisClass := this
  superClass := sup
  interfaces := ifs
  fields := fds
  methods := ms
  attributes := attrs
def plain (name : String) (sup : Option ClassId) : Class where
  name := name
  kind := .ordinary
  loader := none
  accessFlags := 33
  super := sup
  interfaces := #[]
  cf := none
  fields := #[]
  methods := #[]
  instanceTypes := #[]
  staticTypes := #[]
  resolved := #[]
  callSites := []
  init := .initialized
  statics := none
  mirror := none

def pool0 : Array CpInfo := pool [(5, u "<init>"), (0, u "()V"), (1, .class_ 10), (1, u "java/lang/Object"), (85, u "clone"), (0, u "()Ljava/lang/Object;")] 26

def k0c0 : Code := { maxStack := 0, maxLocals := 1, code := object_method_1_code, exceptionTable := #[], attributes := #[] }
def k0m0 : Method := { name := "<init>", desc := "()V", sig := { parameters := [], returnType := none }, accessFlags := 1, code := some k0c0 }
def k0m1 : Method := { name := "clone", desc := "()Ljava/lang/Object;", sig := { parameters := [], returnType := some (.object "java/lang/Object") }, accessFlags := 260, code := none }
/-- java/lang/Object -/
def k0 : Class := { plain "java/lang/Object" none with
  accessFlags := 33
  interfaces := #[]
  cf := some (fileOf pool0 8 #[] #[{ accessFlags := 1, nameIndex := 5, descriptorIndex := 6, attributes := #[] }, { accessFlags := 260, nameIndex := 96, descriptorIndex := 97, attributes := #[] }] 33 0 #[] #[])
  fields := #[]
  methods := #[k0m0, k0m1]
  instanceTypes := #[]
  staticTypes := #[]
  resolved := Array.replicate 124 none
  statics := none }

def pool1 : Array CpInfo := pool [(2, .class_ 4), (1, u "java/lang/Object"), (0, u "<init>"), (0, u "()V"), (0, .integer 2147483647), (0, .fieldref 9 10), (0, .class_ 11), (0, .nameAndType 12 13), (0, u "com/example/diligent_tariff/diligenttariff/book/Unit"), (0, u "MONTH"), (0, u "Lcom/example/diligent_tariff/diligenttariff/book/Unit;"), (0, .fieldref 9 15), (0, .nameAndType 16 13), (0, u "BILL"), (0, .fieldref 9 18), (0, .nameAndType 19 13), (0, u "KWH"), (0, .fieldref 9 21), (0, .nameAndType 22 13), (0, u "KW"), (0, .fieldref 24 25), (0, .class_ 26), (0, .nameAndType 22 27), (0, u "com/example/diligent_tariff/diligenttariff/billing/Determinant"), (0, u "Lcom/example/diligent_tariff/diligenttariff/billing/Determinant;"), (0, .fieldref 9 29), (0, .nameAndType 30 13), (0, u "KVA"), (0, .fieldref 24 32), (0, .nameAndType 30 27), (0, .methodref 24 34), (0, .nameAndType 35 36), (0, u "giving"), (0, u "(Lcom/example/diligent_tariff/diligenttariff/book/Unit;)Ljava/util/Optional;"), (0, .methodref 38 39), (0, .class_ 40), (0, .nameAndType 41 42), (0, u "java/util/Optional"), (0, u "orElse"), (0, u "(Ljava/lang/Object;)Ljava/lang/Object;"), (0, .class_ 44), (0, u "com/example/diligent_tariff/diligenttariff/billing/DeterminantGivingPinLaw"), (2, u "law"), (0, u "(I)Z")] 3

def k1m0 : Method := { name := "<init>", desc := "()V", sig := { parameters := [], returnType := none }, accessFlags := 1, code := none }
def k1c1 : Code := { maxStack := 2, maxLocals := 5, code := code, exceptionTable := #[], attributes := #[] }
def k1m1 : Method := { name := "law", desc := "(I)Z", sig := { parameters := [.int], returnType := some .boolean }, accessFlags := 9, code := some k1c1 }
/-- com/example/diligent_tariff/diligenttariff/billing/DeterminantGivingPinLaw -/
def k1 : Class := { plain "com/example/diligent_tariff/diligenttariff/billing/DeterminantGivingPinLaw" (some 0) with
  accessFlags := 49
  interfaces := #[]
  cf := some (fileOf pool1 43 #[] #[{ accessFlags := 1, nameIndex := 5, descriptorIndex := 6, attributes := #[] }, { accessFlags := 9, nameIndex := 47, descriptorIndex := 48, attributes := #[] }] 49 2 #[] #[])
  fields := #[]
  methods := #[k1m0, k1m1]
  instanceTypes := #[]
  staticTypes := #[]
  resolved := Array.replicate 52 none
  statics := none }

def pool2 : Array CpInfo := pool [(1, .class_ 2), (0, u "java/lang/constant/Constable"), (0, .class_ 4), (0, u "java/lang/Object")] 6

/-- java/lang/constant/Constable -/
def k2 : Class := { plain "java/lang/constant/Constable" (some 0) with
  accessFlags := 1537
  interfaces := #[]
  cf := some (fileOf pool2 1 #[] #[] 1537 3 #[] #[])
  fields := #[]
  methods := #[]
  instanceTypes := #[]
  staticTypes := #[]
  resolved := Array.replicate 11 none
  statics := none }

def pool3 : Array CpInfo := pool [(1, .class_ 2), (0, u "java/lang/Comparable"), (0, .class_ 4), (0, u "java/lang/Object")] 7

/-- java/lang/Comparable -/
def k3 : Class := { plain "java/lang/Comparable" (some 0) with
  accessFlags := 1537
  interfaces := #[]
  cf := some (fileOf pool3 1 #[] #[] 1537 3 #[] #[])
  fields := #[]
  methods := #[]
  instanceTypes := #[]
  staticTypes := #[]
  resolved := Array.replicate 12 none
  statics := none }

def pool4 : Array CpInfo := pool [(1, .class_ 2), (0, u "java/io/Serializable"), (0, .class_ 4), (0, u "java/lang/Object")] 2

/-- java/io/Serializable -/
def k4 : Class := { plain "java/io/Serializable" (some 0) with
  accessFlags := 1537
  interfaces := #[]
  cf := some (fileOf pool4 1 #[] #[] 1537 3 #[] #[])
  fields := #[]
  methods := #[]
  instanceTypes := #[]
  staticTypes := #[]
  resolved := Array.replicate 7 none
  statics := none }

def pool5 : Array CpInfo := pool [(2, .class_ 4), (1, u "java/lang/Enum"), (0, u "name"), (0, u "Ljava/lang/String;"), (2, u "ordinal"), (0, u "I"), (1, .class_ 14), (1, u "java/lang/Object"), (4, u "hash"), (86, .class_ 108), (1, u "java/lang/Enum$EnumDesc"), (2, .class_ 112), (0, u "java/lang/constant/Constable"), (0, .class_ 114), (0, u "java/lang/Comparable"), (0, .class_ 116), (0, u "java/io/Serializable")] 87

/-- java/lang/Enum -/
def k5 : Class := { plain "java/lang/Enum" (some 0) with
  accessFlags := 1057
  interfaces := #[2, 3, 4]
  cf := some (fileOf pool5 2 #[.nestMembers #[106]] #[] 1057 12 #[111, 113, 115] #[{ accessFlags := 18, nameIndex := 5, descriptorIndex := 6, attributes := #[] }, { accessFlags := 18, nameIndex := 9, descriptorIndex := 10, attributes := #[] }, { accessFlags := 2, nameIndex := 19, descriptorIndex := 10, attributes := #[] }])
  fields := #[{ name := "name", type := (.object "java/lang/String"), accessFlags := 18, slot := 0, constantValue := 0 }, { name := "ordinal", type := .int, accessFlags := 18, slot := 1, constantValue := 0 }, { name := "hash", type := .int, accessFlags := 2, slot := 2, constantValue := 0 }]
  methods := #[]
  instanceTypes := #[(.object "java/lang/String"), .int, .int]
  staticTypes := #[]
  resolved := Array.replicate 204 none
  statics := none }

def pool6 : Array CpInfo := pool [(1, .class_ 2), (0, u "com/example/diligent_tariff/diligenttariff/book/Unit"), (2, u "MONTH"), (0, u "Lcom/example/diligent_tariff/diligenttariff/book/Unit;"), (2, u "BILL"), (2, u "KWH"), (2, u "KW"), (2, u "KVA"), (2, u "$VALUES"), (0, u "[Lcom/example/diligent_tariff/diligenttariff/book/Unit;"), (6, .class_ 31), (1, u "java/lang/Enum"), (8, u "symbol"), (0, u "Ljava/lang/String;"), (2, u "demand"), (0, u "Z")] 38

/-- com/example/diligent_tariff/diligenttariff/book/Unit -/
def k6 : Class := { plain "com/example/diligent_tariff/diligenttariff/book/Unit" (some 5) with
  accessFlags := 16433
  interfaces := #[]
  cf := some (fileOf pool6 1 #[] #[] 16433 29 #[] #[{ accessFlags := 16409, nameIndex := 5, descriptorIndex := 6, attributes := #[] }, { accessFlags := 16409, nameIndex := 9, descriptorIndex := 6, attributes := #[] }, { accessFlags := 16409, nameIndex := 12, descriptorIndex := 6, attributes := #[] }, { accessFlags := 16409, nameIndex := 15, descriptorIndex := 6, attributes := #[] }, { accessFlags := 16409, nameIndex := 18, descriptorIndex := 6, attributes := #[] }, { accessFlags := 18, nameIndex := 40, descriptorIndex := 41, attributes := #[] }, { accessFlags := 18, nameIndex := 44, descriptorIndex := 45, attributes := #[] }, { accessFlags := 4122, nameIndex := 21, descriptorIndex := 22, attributes := #[] }])
  fields := #[{ name := "MONTH", type := (.object "com/example/diligent_tariff/diligenttariff/book/Unit"), accessFlags := 16409, slot := 0, constantValue := 0 }, { name := "BILL", type := (.object "com/example/diligent_tariff/diligenttariff/book/Unit"), accessFlags := 16409, slot := 1, constantValue := 0 }, { name := "KWH", type := (.object "com/example/diligent_tariff/diligenttariff/book/Unit"), accessFlags := 16409, slot := 2, constantValue := 0 }, { name := "KW", type := (.object "com/example/diligent_tariff/diligenttariff/book/Unit"), accessFlags := 16409, slot := 3, constantValue := 0 }, { name := "KVA", type := (.object "com/example/diligent_tariff/diligenttariff/book/Unit"), accessFlags := 16409, slot := 4, constantValue := 0 }, { name := "symbol", type := (.object "java/lang/String"), accessFlags := 18, slot := 3, constantValue := 0 }, { name := "demand", type := .boolean, accessFlags := 18, slot := 4, constantValue := 0 }, { name := "$VALUES", type := (.array (.object "com/example/diligent_tariff/diligenttariff/book/Unit")), accessFlags := 4122, slot := 5, constantValue := 0 }]
  methods := #[]
  instanceTypes := #[(.object "java/lang/String"), .int, .int, (.object "java/lang/String"), .boolean]
  staticTypes := #[(.object "com/example/diligent_tariff/diligenttariff/book/Unit"), (.object "com/example/diligent_tariff/diligenttariff/book/Unit"), (.object "com/example/diligent_tariff/diligenttariff/book/Unit"), (.object "com/example/diligent_tariff/diligenttariff/book/Unit"), (.object "com/example/diligent_tariff/diligenttariff/book/Unit"), (.array (.object "com/example/diligent_tariff/diligenttariff/book/Unit"))]
  resolved := Array.replicate 84 none
  statics := some 0 }

def pool7 : Array CpInfo := pool [(1, .class_ 2), (0, u "com/example/diligent_tariff/diligenttariff/billing/Determinant"), (2, u "KW"), (0, u "Lcom/example/diligent_tariff/diligenttariff/billing/Determinant;"), (2, u "KVA"), (2, u "PHASE"), (2, u "INTERVALS"), (0, .fieldref 1 17), (0, .nameAndType 18 19), (0, u "$VALUES"), (0, u "[Lcom/example/diligent_tariff/diligenttariff/billing/Determinant;"), (0, .methodref 21 22), (0, .class_ 19), (0, .nameAndType 23 24), (0, u "clone"), (0, u "()Ljava/lang/Object;"), (1, .class_ 28), (1, u "java/lang/Enum"), (6, .fieldref 1 36), (0, .nameAndType 37 38), (0, u "unit"), (0, u "Lcom/example/diligent_tariff/diligenttariff/book/Unit;"), (0, .methodref 1 40), (0, .nameAndType 41 42), (0, u "values"), (0, u "()[Lcom/example/diligent_tariff/diligenttariff/billing/Determinant;"), (0, .methodref 44 45), (0, .class_ 46), (0, .nameAndType 47 48), (0, u "java/util/Optional"), (0, u "of"), (0, u "(Ljava/lang/Object;)Ljava/util/Optional;"), (0, .methodref 44 50), (0, .nameAndType 51 52), (0, u "empty"), (0, u "()Ljava/util/Optional;"), (22, u "giving"), (0, u "(Lcom/example/diligent_tariff/diligenttariff/book/Unit;)Ljava/util/Optional;")] 7

def k7c0 : Code := { maxStack := 1, maxLocals := 0, code := prog_6_method_1_code, exceptionTable := #[], attributes := #[] }
def k7m0 : Method := { name := "values", desc := "()[Lcom/example/diligent_tariff/diligenttariff/billing/Determinant;", sig := { parameters := [], returnType := some (.array (.object "com/example/diligent_tariff/diligenttariff/billing/Determinant")) }, accessFlags := 9, code := some k7c0 }
def k7c1 : Code := { maxStack := 2, maxLocals := 5, code := prog_6_method_4_code, exceptionTable := #[], attributes := #[] }
def k7m1 : Method := { name := "giving", desc := "(Lcom/example/diligent_tariff/diligenttariff/book/Unit;)Ljava/util/Optional;", sig := { parameters := [(.object "com/example/diligent_tariff/diligenttariff/book/Unit")], returnType := some (.object "java/util/Optional") }, accessFlags := 8, code := some k7c1 }
/-- com/example/diligent_tariff/diligenttariff/billing/Determinant -/
def k7 : Class := { plain "com/example/diligent_tariff/diligenttariff/billing/Determinant" (some 5) with
  accessFlags := 16433
  interfaces := #[]
  cf := some (fileOf pool7 1 #[] #[{ accessFlags := 9, nameIndex := 41, descriptorIndex := 42, attributes := #[] }, { accessFlags := 8, nameIndex := 75, descriptorIndex := 76, attributes := #[] }] 16433 26 #[] #[{ accessFlags := 16409, nameIndex := 5, descriptorIndex := 6, attributes := #[] }, { accessFlags := 16409, nameIndex := 9, descriptorIndex := 6, attributes := #[] }, { accessFlags := 16409, nameIndex := 12, descriptorIndex := 6, attributes := #[] }, { accessFlags := 16409, nameIndex := 15, descriptorIndex := 6, attributes := #[] }, { accessFlags := 18, nameIndex := 37, descriptorIndex := 38, attributes := #[] }, { accessFlags := 4122, nameIndex := 18, descriptorIndex := 19, attributes := #[] }])
  fields := #[{ name := "KW", type := (.object "com/example/diligent_tariff/diligenttariff/billing/Determinant"), accessFlags := 16409, slot := 0, constantValue := 0 }, { name := "KVA", type := (.object "com/example/diligent_tariff/diligenttariff/billing/Determinant"), accessFlags := 16409, slot := 1, constantValue := 0 }, { name := "PHASE", type := (.object "com/example/diligent_tariff/diligenttariff/billing/Determinant"), accessFlags := 16409, slot := 2, constantValue := 0 }, { name := "INTERVALS", type := (.object "com/example/diligent_tariff/diligenttariff/billing/Determinant"), accessFlags := 16409, slot := 3, constantValue := 0 }, { name := "unit", type := (.object "com/example/diligent_tariff/diligenttariff/book/Unit"), accessFlags := 18, slot := 3, constantValue := 0 }, { name := "$VALUES", type := (.array (.object "com/example/diligent_tariff/diligenttariff/billing/Determinant")), accessFlags := 4122, slot := 4, constantValue := 0 }]
  methods := #[k7m0, k7m1]
  instanceTypes := #[(.object "java/lang/String"), .int, .int, (.object "com/example/diligent_tariff/diligenttariff/book/Unit")]
  staticTypes := #[(.object "com/example/diligent_tariff/diligenttariff/billing/Determinant"), (.object "com/example/diligent_tariff/diligenttariff/billing/Determinant"), (.object "com/example/diligent_tariff/diligenttariff/billing/Determinant"), (.object "com/example/diligent_tariff/diligenttariff/billing/Determinant"), (.array (.object "com/example/diligent_tariff/diligenttariff/billing/Determinant"))]
  resolved := Array.replicate 84 none
  statics := some 1 }

def pool8 : Array CpInfo := pool [(1, .class_ 2), (0, u "java/lang/Cloneable"), (0, .class_ 4), (0, u "java/lang/Object")] 2

/-- java/lang/Cloneable -/
def k8 : Class := { plain "java/lang/Cloneable" (some 0) with
  accessFlags := 1537
  interfaces := #[]
  cf := some (fileOf pool8 1 #[] #[] 1537 3 #[] #[])
  fields := #[]
  methods := #[]
  instanceTypes := #[]
  staticTypes := #[]
  resolved := Array.replicate 7 none
  statics := none }

def pool9 : Array CpInfo := pool [(1, .fieldref 2 3), (0, .class_ 4), (0, .nameAndType 5 6), (0, u "java/util/Optional"), (0, u "EMPTY"), (0, u "Ljava/util/Optional;"), (0, .methodref 8 9), (0, .class_ 10), (0, .nameAndType 11 12), (0, u "java/lang/Object"), (0, u "<init>"), (0, u "()V"), (0, .fieldref 2 14), (0, .nameAndType 15 16), (0, u "value"), (0, u "Ljava/lang/Object;"), (0, .methodref 18 19), (0, .class_ 20), (0, .nameAndType 21 22), (0, u "java/util/Objects"), (0, u "requireNonNull"), (0, u "(Ljava/lang/Object;)Ljava/lang/Object;"), (0, .methodref 2 24), (0, .nameAndType 11 25), (0, u "(Ljava/lang/Object;)V"), (29, u "empty"), (0, u "()Ljava/util/Optional;"), (8, u "(Ljava/lang/Object;)Ljava/util/Optional;"), (16, u "of"), (82, u "orElse")] 21

def k9c0 : Code := { maxStack := 1, maxLocals := 1, code := jdk_32_method_1_code, exceptionTable := #[], attributes := #[] }
def k9m0 : Method := { name := "empty", desc := "()Ljava/util/Optional;", sig := { parameters := [], returnType := some (.object "java/util/Optional") }, accessFlags := 9, code := some k9c0 }
def k9c1 : Code := { maxStack := 2, maxLocals := 2, code := jdk_32_method_2_code, exceptionTable := #[], attributes := #[] }
def k9m1 : Method := { name := "<init>", desc := "(Ljava/lang/Object;)V", sig := { parameters := [(.object "java/lang/Object")], returnType := none }, accessFlags := 2, code := some k9c1 }
def k9c2 : Code := { maxStack := 3, maxLocals := 1, code := jdk_32_method_3_code, exceptionTable := #[], attributes := #[] }
def k9m2 : Method := { name := "of", desc := "(Ljava/lang/Object;)Ljava/util/Optional;", sig := { parameters := [(.object "java/lang/Object")], returnType := some (.object "java/util/Optional") }, accessFlags := 9, code := some k9c2 }
def k9c3 : Code := { maxStack := 1, maxLocals := 2, code := jdk_32_method_15_code, exceptionTable := #[], attributes := #[] }
def k9m3 : Method := { name := "orElse", desc := "(Ljava/lang/Object;)Ljava/lang/Object;", sig := { parameters := [(.object "java/lang/Object")], returnType := some (.object "java/lang/Object") }, accessFlags := 1, code := some k9c3 }
/-- java/util/Optional -/
def k9 : Class := { plain "java/util/Optional" (some 0) with
  accessFlags := 49
  interfaces := #[]
  cf := some (fileOf pool9 2 #[] #[{ accessFlags := 9, nameIndex := 55, descriptorIndex := 56, attributes := #[] }, { accessFlags := 2, nameIndex := 11, descriptorIndex := 25, attributes := #[] }, { accessFlags := 9, nameIndex := 82, descriptorIndex := 65, attributes := #[] }, { accessFlags := 1, nameIndex := 165, descriptorIndex := 22, attributes := #[] }] 49 8 #[] #[{ accessFlags := 26, nameIndex := 5, descriptorIndex := 6, attributes := #[] }, { accessFlags := 18, nameIndex := 15, descriptorIndex := 16, attributes := #[] }])
  fields := #[{ name := "EMPTY", type := (.object "java/util/Optional"), accessFlags := 26, slot := 0, constantValue := 0 }, { name := "value", type := (.object "java/lang/Object"), accessFlags := 18, slot := 0, constantValue := 0 }]
  methods := #[k9m0, k9m1, k9m2, k9m3]
  instanceTypes := #[(.object "java/lang/Object")]
  staticTypes := #[(.object "java/util/Optional")]
  resolved := Array.replicate 187 none
  statics := some 2 }

def pool10 : Array CpInfo := pool [(2, .class_ 4), (1, u "java/lang/Object"), (0, u "<init>"), (0, u "()V"), (35, .class_ 44), (1, u "java/util/Objects"), (0, u "requireNonNull"), (0, u "(Ljava/lang/Object;)Ljava/lang/Object;")] 137

def k10m0 : Method := { name := "<init>", desc := "()V", sig := { parameters := [], returnType := none }, accessFlags := 2, code := none }
def k10c1 : Code := { maxStack := 2, maxLocals := 1, code := jdk_31_method_10_code, exceptionTable := #[], attributes := #[] }
def k10m1 : Method := { name := "requireNonNull", desc := "(Ljava/lang/Object;)Ljava/lang/Object;", sig := { parameters := [(.object "java/lang/Object")], returnType := some (.object "java/lang/Object") }, accessFlags := 9, code := some k10c1 }
/-- java/util/Objects -/
def k10 : Class := { plain "java/util/Objects" (some 0) with
  accessFlags := 49
  interfaces := #[]
  cf := some (fileOf pool10 42 #[] #[{ accessFlags := 2, nameIndex := 5, descriptorIndex := 6, attributes := #[] }, { accessFlags := 9, nameIndex := 45, descriptorIndex := 46, attributes := #[] }] 49 2 #[] #[])
  fields := #[]
  methods := #[k10m0, k10m1]
  instanceTypes := #[]
  staticTypes := #[]
  resolved := Array.replicate 184 none
  statics := none }

/-- the primitive byte -/
def k11 : Class := { plain "byte" none with kind := .primitive 'B', accessFlags := 0x411 }
/-- [B -/
def k12 : Class := { plain "[B" (some 0) with kind := .array 11 .byte, interfaces := #[8, 4], accessFlags := 1041 }

/-- the primitive int -/
def k13 : Class := { plain "int" none with kind := .primitive 'I', accessFlags := 0x411 }
/-- [I -/
def k14 : Class := { plain "[I" (some 0) with kind := .array 13 .int, interfaces := #[8, 4], accessFlags := 1041 }

/-- [Lcom/example/diligent_tariff/diligenttariff/billing/Determinant; -/
def k15 : Class := { plain "[Lcom/example/diligent_tariff/diligenttariff/billing/Determinant;" (some 0) with kind := .array 7 (.object "com/example/diligent_tariff/diligenttariff/billing/Determinant"), interfaces := #[8, 4], accessFlags := 1041 }

def heap : Heap := #[{ cls := 6, slots := #[.ref 4, .ref 5, .ref 6, .ref 7, .ref 8, .null], vm := .statics 6 },
  { cls := 7, slots := #[.ref 9, .ref 10, .ref 11, .ref 12, .ref 3], vm := .statics 7 },
  { cls := 9, slots := #[.ref 13], vm := .statics 9 },
  { cls := 15, slots := #[.ref 9, .ref 10, .ref 11, .ref 12], vm := .none },
  { cls := 6, slots := #[.null, .int 0, .int 0, .null, .int 0], vm := .none },
  { cls := 6, slots := #[.null, .int 1, .int 0, .null, .int 0], vm := .none },
  { cls := 6, slots := #[.null, .int 2, .int 0, .null, .int 0], vm := .none },
  { cls := 6, slots := #[.null, .int 3, .int 0, .null, .int 0], vm := .none },
  { cls := 6, slots := #[.null, .int 4, .int 0, .null, .int 0], vm := .none },
  { cls := 7, slots := #[.null, .int 0, .int 0, .ref 7], vm := .none },
  { cls := 7, slots := #[.null, .int 1, .int 0, .ref 8], vm := .none },
  { cls := 7, slots := #[.null, .int 2, .int 0, .null], vm := .none },
  { cls := 7, slots := #[.null, .int 3, .int 0, .null], vm := .none },
  { cls := 9, slots := #[.null], vm := .none }]
def classes : Array Class := #[k0, k1, k2, k3, k4, k5, k6, k7, k8, k9, k10, k11, k12, k13, k14, k15]
def interned : List (Array UInt16 × Addr) := []
def slotsUsed : Nat := 58
def theMethod : MethodId := ⟨1, 1⟩
def args0 : Array Value := #[.int 3]
def aboutOver (below : List Frame) : State where
  vm := { classes := classes, interned := interned.toArray }
  heap := heap
  slotsUsed := slotsUsed
  threads := #[{ frames := .invoking theMethod args0 :: below }]
def below0 : List Frame := [.native { method := ⟨0, 0⟩, args := #[] }]
def about1 : State := aboutOver below0
def p0 : Program := .bare "" "" ""
def e0 : Env := launch0.env 0 0 0
theorem w_frames : about1.frames = Frame.invoking theMethod args0 :: below0 := rfl
set_option maxRecDepth 65536 in
theorem w_args : argsFit about1.vm theMethod args0 = true := by decide +kernel
set_option maxRecDepth 65536 in
theorem w_heap : heapFits about1 = true := by decide +kernel
set_option maxRecDepth 65536 in
theorem w_runnable : about1.curStatus? = some .runnable := by decide +kernel
set_option maxRecDepth 65536 in
theorem w_alone : about1.alone = true := by decide +kernel
set_option maxRecDepth 65536 in
theorem w_named : about1.methodNamed? x = some theMethod := by decide +kernel
set_option maxRecDepth 65536 in
theorem w_hears : about1.hears theMethod below0 = true := by decide +kernel
set_option maxRecDepth 65536 in
theorem w_ripe : about1.ripe theMethod args0 below0 = true := by decide +kernel
theorem w_running : about1.status = .running := rfl
set_option maxRecDepth 65536 in
theorem w_room : about1.hasRoom e0.platform room_1 = true :=
  launch0.hasRoom_least _ room_1 (by decide +kernel) (by decide +kernel) (by decide +kernel) (by decide +kernel) (by decide +kernel) (by decide +kernel)
theorem allAtoms_all (ts : List Jvm.Cond) (a : Array Jvm.Value) (st : Jvm.State) : (allAtoms ts).before a st = ts.all (fun c => c.before a st) := by
  induction ts with
  | nil => rfl
  | cons c t ih =>
    show (Jvm.Cond.and c (allAtoms t)).before a st = _
    rw [Jvm.Cond.before_and, ih, List.all_cons]
def words1 : List Jvm.Cond := Jvm.Cond.code x code maxLocals ret :: tables_1
/-- a 'code' word, met by the world's own term for the bytes: nothing is compared byte by byte -/
theorem code_word {y : MethodName} {bytes : ByteArray} {mx : Nat} {rt : Option FieldType} {a : Array Value} {s : State} {m : MethodId} {meth : Method} {c : Code} (h1 : s.methodNamed? y = some m) (h2 : s.vm.method? m = some meth) (h3 : meth.code = some c) (h4 : c.code = bytes)
    (h5 : (c.maxLocals == mx && c.exceptionTable.isEmpty && decide (c.maxStack ≤ mostOperands) && decide (meth.sig.returnType = rt) && !meth.locks && decide (parseMethodDescriptor y.desc = some meth.sig)) = true) : (Jvm.Cond.code y bytes mx rt).before a s = true := by
  simp only [Bool.and_eq_true, beq_iff_eq, Bool.not_eq_true', decide_eq_true_eq] at h5
  obtain ⟨⟨⟨⟨⟨g1, g2⟩, g3⟩, g4⟩, g5⟩, g6⟩ := h5
  simp [Cond.before, Cond.holds, Cond.value, h1, h2, h3, h4, g1, g2, g3, g4, g5, g6]
def isCode : Jvm.Cond → Bool
  | .code _ _ _ _ => true
  | _ => false
theorem all_split {L : List Jvm.Cond} {P : Jvm.Cond → Bool} (h1 : L.all (fun c => isCode c || P c) = true) (h2 : ∀ c ∈ L.filter isCode, P c = true) : L.all P = true := by
  refine List.all_eq_true.mpr fun c hc => ?_
  have h := List.all_eq_true.mp h1 c hc
  rcases Bool.eq_false_or_eq_true (isCode c) with hi | hi
  · exact h2 c (List.mem_filter.mpr ⟨hc, hi⟩)
  · simpa [hi] using h
set_option maxRecDepth 65536 in
theorem w_c0 : (Jvm.Cond.code x code maxLocals ret).before args0 about1 = true := code_word (m := ⟨1, 1⟩) (meth := k1m1) (c := k1c1) (by decide +kernel) rfl rfl rfl (by decide +kernel)
set_option maxRecDepth 65536 in
theorem w_c1 : (Jvm.Cond.code ({ cls := "com/example/diligent_tariff/diligenttariff/billing/Determinant", name := "giving", desc := "(Lcom/example/diligent_tariff/diligenttariff/book/Unit;)Ljava/util/Optional;" } : Jvm.MethodName) prog_6_method_4_code (5 : Nat) (Option.some (Jvm.ClassFile.FieldType.object "java/util/Optional"))).before args0 about1 = true := code_word (m := ⟨7, 1⟩) (meth := k7m1) (c := k7c1) (by decide +kernel) rfl rfl rfl (by decide +kernel)
set_option maxRecDepth 65536 in
theorem w_c2 : (Jvm.Cond.code ({ cls := "com/example/diligent_tariff/diligenttariff/billing/Determinant", name := "values", desc := "()[Lcom/example/diligent_tariff/diligenttariff/billing/Determinant;" } : Jvm.MethodName) prog_6_method_1_code (0 : Nat) (Option.some (Jvm.ClassFile.FieldType.array (Jvm.ClassFile.FieldType.object "com/example/diligent_tariff/diligenttariff/billing/Determinant")))).before args0 about1 = true := code_word (m := ⟨7, 0⟩) (meth := k7m0) (c := k7c0) (by decide +kernel) rfl rfl rfl (by decide +kernel)
set_option maxRecDepth 65536 in
theorem w_c3 : (Jvm.Cond.code ({ cls := "java/util/Optional", name := "empty", desc := "()Ljava/util/Optional;" } : Jvm.MethodName) jdk_32_method_1_code (1 : Nat) (Option.some (Jvm.ClassFile.FieldType.object "java/util/Optional"))).before args0 about1 = true := code_word (m := ⟨9, 0⟩) (meth := k9m0) (c := k9c0) (by decide +kernel) rfl rfl rfl (by decide +kernel)
set_option maxRecDepth 65536 in
theorem w_c4 : (Jvm.Cond.code ({ cls := "java/util/Optional", name := "orElse", desc := "(Ljava/lang/Object;)Ljava/lang/Object;" } : Jvm.MethodName) jdk_32_method_15_code (2 : Nat) (Option.some (Jvm.ClassFile.FieldType.object "java/lang/Object"))).before args0 about1 = true := code_word (m := ⟨9, 3⟩) (meth := k9m3) (c := k9c3) (by decide +kernel) rfl rfl rfl (by decide +kernel)
set_option maxRecDepth 65536 in
theorem w_c5 : (Jvm.Cond.code ({ cls := "java/util/Optional", name := "of", desc := "(Ljava/lang/Object;)Ljava/util/Optional;" } : Jvm.MethodName) jdk_32_method_3_code (1 : Nat) (Option.some (Jvm.ClassFile.FieldType.object "java/util/Optional"))).before args0 about1 = true := code_word (m := ⟨9, 2⟩) (meth := k9m2) (c := k9c2) (by decide +kernel) rfl rfl rfl (by decide +kernel)
set_option maxRecDepth 65536 in
theorem w_c6 : (Jvm.Cond.code ({ cls := "java/util/Objects", name := "requireNonNull", desc := "(Ljava/lang/Object;)Ljava/lang/Object;" } : Jvm.MethodName) jdk_31_method_10_code (1 : Nat) (Option.some (Jvm.ClassFile.FieldType.object "java/lang/Object"))).before args0 about1 = true := code_word (m := ⟨10, 1⟩) (meth := k10m1) (c := k10c1) (by decide +kernel) rfl rfl rfl (by decide +kernel)
set_option maxRecDepth 65536 in
theorem w_c7 : (Jvm.Cond.code ({ cls := "java/util/Optional", name := "<init>", desc := "(Ljava/lang/Object;)V" } : Jvm.MethodName) jdk_32_method_2_code (2 : Nat) (Option.none : Option Jvm.ClassFile.FieldType)).before args0 about1 = true := code_word (m := ⟨9, 1⟩) (meth := k9m1) (c := k9c1) (by decide +kernel) rfl rfl rfl (by decide +kernel)
set_option maxRecDepth 65536 in
theorem w_c8 : (Jvm.Cond.code ({ cls := "java/lang/Object", name := "<init>", desc := "()V" } : Jvm.MethodName) object_method_1_code (1 : Nat) (Option.none : Option Jvm.ClassFile.FieldType)).before args0 about1 = true := code_word (m := ⟨0, 0⟩) (meth := k0m0) (c := k0c0) (by decide +kernel) rfl rfl rfl (by decide +kernel)
def codes1 : List Jvm.Cond := [Jvm.Cond.code x code maxLocals ret, Jvm.Cond.code ({ cls := "com/example/diligent_tariff/diligenttariff/billing/Determinant", name := "giving", desc := "(Lcom/example/diligent_tariff/diligenttariff/book/Unit;)Ljava/util/Optional;" } : Jvm.MethodName) prog_6_method_4_code (5 : Nat) (Option.some (Jvm.ClassFile.FieldType.object "java/util/Optional")), Jvm.Cond.code ({ cls := "com/example/diligent_tariff/diligenttariff/billing/Determinant", name := "values", desc := "()[Lcom/example/diligent_tariff/diligenttariff/billing/Determinant;" } : Jvm.MethodName) prog_6_method_1_code (0 : Nat) (Option.some (Jvm.ClassFile.FieldType.array (Jvm.ClassFile.FieldType.object "com/example/diligent_tariff/diligenttariff/billing/Determinant"))), Jvm.Cond.code ({ cls := "java/util/Optional", name := "empty", desc := "()Ljava/util/Optional;" } : Jvm.MethodName) jdk_32_method_1_code (1 : Nat) (Option.some (Jvm.ClassFile.FieldType.object "java/util/Optional")), Jvm.Cond.code ({ cls := "java/util/Optional", name := "orElse", desc := "(Ljava/lang/Object;)Ljava/lang/Object;" } : Jvm.MethodName) jdk_32_method_15_code (2 : Nat) (Option.some (Jvm.ClassFile.FieldType.object "java/lang/Object")), Jvm.Cond.code ({ cls := "java/util/Optional", name := "of", desc := "(Ljava/lang/Object;)Ljava/util/Optional;" } : Jvm.MethodName) jdk_32_method_3_code (1 : Nat) (Option.some (Jvm.ClassFile.FieldType.object "java/util/Optional")), Jvm.Cond.code ({ cls := "java/util/Objects", name := "requireNonNull", desc := "(Ljava/lang/Object;)Ljava/lang/Object;" } : Jvm.MethodName) jdk_31_method_10_code (1 : Nat) (Option.some (Jvm.ClassFile.FieldType.object "java/lang/Object")), Jvm.Cond.code ({ cls := "java/util/Optional", name := "<init>", desc := "(Ljava/lang/Object;)V" } : Jvm.MethodName) jdk_32_method_2_code (2 : Nat) (Option.none : Option Jvm.ClassFile.FieldType), Jvm.Cond.code ({ cls := "java/lang/Object", name := "<init>", desc := "()V" } : Jvm.MethodName) object_method_1_code (1 : Nat) (Option.none : Option Jvm.ClassFile.FieldType)]
set_option maxRecDepth 65536 in
theorem codes_eq : words1.filter isCode = codes1 := rfl
theorem w_codes : ∀ c ∈ words1.filter isCode, c.before args0 about1 = true := by
  rw [codes_eq]
  intro c hc
  simp only [codes1, List.mem_cons, List.not_mem_nil, or_false] at hc
  rcases hc with rfl | rfl | rfl | rfl | rfl | rfl | rfl | rfl | rfl
  · exact w_c0
  · exact w_c1
  · exact w_c2
  · exact w_c3
  · exact w_c4
  · exact w_c5
  · exact w_c6
  · exact w_c7
  · exact w_c8
set_option maxRecDepth 65536 in
theorem w_t1 : (words1.take 24).all (fun c => isCode c || c.before args0 about1) = true := by decide +kernel
set_option maxRecDepth 65536 in
theorem w_t2 : ((words1.drop 24).take 24).all (fun c => isCode c || c.before args0 about1) = true := by decide +kernel
set_option maxRecDepth 65536 in
theorem w_t3 : ((words1.drop 24).drop 24).all (fun c => isCode c || c.before args0 about1) = true := by decide +kernel
theorem w_tables : (allAtoms (Jvm.Cond.code x code maxLocals ret :: tables_1)).before args0 about1 = true := by
  rw [allAtoms_all]
  show words1.all (fun c => c.before args0 about1) = true
  refine all_split ?_ w_codes
  rw [← List.take_append_drop 24 words1, List.all_append, w_t1, ← List.take_append_drop 24 (words1.drop 24), List.all_append, w_t2, w_t3]
  rfl
set_option maxRecDepth 65536 in
theorem w_rest : rest_1_c.before args0 about1 = true := by decide +kernel
set_option maxRecDepth 65536 in
theorem w_case : (Jvm.Cond.and given_1 narrow_1).before args0 about1 = true := by decide +kernel
theorem w_applies : (headSpec (Jvm.Cond.code x code maxLocals ret :: tables_1) room_1).applies x e0.platform about1 = true :=
  (Spec.applies_iff w_frames).mpr ⟨w_running, w_runnable, w_alone, w_named, w_hears, w_ripe, w_room, w_tables⟩
theorem atStart : AtStart classFile x code maxLocals ret World_1 tables_1 room_1 Calls_1 rest_1 Pre_1 launch0 p0 e0 about1 theMethod args0 below0 :=
  ⟨lists_1, trivial, launch0.admits_env _ _ _, launch0.least_env, fairChoices_fair.cas, fairChoices_fair.clock, w_frames, w_args, w_heap, w_applies, trivial, w_rest, w_case⟩
end start1
theorem witness_1 : WitnessClaimed_1 := ⟨start1.p0, start1.e0, start1.about1, start1.theMethod, start1.args0, start1.below0, start1.atStart⟩
end Jvm.Pilot.@@N@@
