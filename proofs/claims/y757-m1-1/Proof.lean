import JvmDerived
import JvmDerived.Pilot.@@N@@Statement
import JvmDerived.Pilot.@@N@@Code
set_option linter.unusedVariables false
set_option linter.unusedSimpArgs false
namespace Jvm.Pilot.@@N@@
open Jvm Jvm.ClassFile Sem Op Lib Jvm.Free Jvm.Stand Jvm.LawKit Jvm.RoadKit Bundle Jvm.Pilot.@@N@@.Jvm.D
section OwnGo
variable {p : Program} {l : Launch} {e : Env} {R : Room} {s : State} {m : MethodId} {args : Array Value} {below : List Frame} {meth : Method} {c : Code} {T T' : State} {locs : List Loc} {cells slots : Nat} {Q : Option Value → Heap → List Loc → Prop} {C S : Nat} {g g' : JFrame} {F : Outcome → State → Prop}
/-- from this state and frame the body comes to an end of which F holds -/
def Go (p : Program) (e : Env) (below : List Frame) (F : Outcome → State → Prop) (T : State) (g : JFrame) : Prop :=
  ∃ s₂ o, Steps p.tables e below (T.setTop g) s₂ ∧ s₂.status = .running ∧ Ended s₂ below o ∧ F o s₂
/-- it returned, Q holds, and nothing else has moved than L and so many new cells and slots -/
abbrev EndN (s : State) (Q : Option Value → Heap → List Loc → Prop) (C S : Nat) (o : Outcome) (t : State) : Prop := ∃ v L, o = .returned v ∧ Q v t.heap L ∧ FrameEnd s o t L C S
theorem Go.enter (q : g = g') (k : Go p e below F T g') : ∃ s₂ o, Steps p.tables e below (T.setTop g) s₂ ∧ s₂.status = .running ∧ Ended s₂ below o ∧ F o s₂ := by
  subst q
  exact k
theorem Go.by (h : ∀ t, Steps p.tables e below (T'.setTop g') t → Steps p.tables e below (T.setTop g) t) (k : Go p e below F T' g') : Go p e below F T g := by
  obtain ⟨s₂, o, h1, h2⟩ := k
  exact ⟨s₂, o, h _ h1, h2⟩
theorem Go.to (h : Steps p.tables e below (T.setTop g) (T'.setTop g')) (k : Go p e below F T' g') : Go p e below F T g := by
  obtain ⟨s₂, o, h1, h2⟩ := k
  exact ⟨s₂, o, h.trans h1, h2⟩
abbrev own_retKind (i : Instr) (t : FieldType) (w : Value) : Prop := (i = .ireturn ∧ (t = .int ∨ t = .boolean ∨ t = .byte ∨ t = .char ∨ t = .short) ∧ ∃ z, w = .int z) ∨ (i = .lreturn ∧ t = .long ∧ ∃ z, w = .long z) ∨ (i = .dreturn ∧ t = .double ∧ ∃ z, w = .double z) ∨ (i = .freturn ∧ t = .float ∧ ∃ z, w = .float z) ∨ (i = .areturn ∧ t.isReference = true ∧ w.isRef = true)
theorem Go.ret (X : Stand p l e R s m args below meth c T locs cells slots) (hx : p.tables.exec = Jvm.exec) (hlocks : meth.locks = false) {pc : Nat} {Ls : Array Slot} {w : Value} {t : FieldType} {i : Instr} {rest : List Value} (hret : meth.sig.returnType = some t) (hn : narrow t w = w)
    (hi : own_retKind i t w) (hd : decode c.code pc = .ok (i, 1)) (hq : Q (some w) T.heap locs) (hc : cells ≤ C) (hs : slots ≤ S) : Go p e below (EndN s Q C S) T (mkF m pc Ls (w :: rest)) := by
  obtain ⟨fs, hr, hrun, hended, hW, hsame⟩ := X.leave (v := some w) (fun h => by rw [hret] at h; cases h) hlocks
  exact ⟨_, _, retOut X hx hret hn hi hd hr, hrun, hended, _, _, rfl, hq, ⟨_, rfl⟩, hW, hsame.mono hc hs⟩
theorem Go.retI (X : Stand p l e R s m args below meth c T locs cells slots) (hx : p.tables.exec = Jvm.exec) (hlocks : meth.locks = false) {pc : Nat} {Ls : Array Slot} {w : Int32} {t : FieldType} {rest : List Value} (hret : meth.sig.returnType = some t) (hn : narrow t (.int w) = .int w)
    (ht : t = .int ∨ t = .boolean ∨ t = .byte ∨ t = .char ∨ t = .short) (hd : decode c.code pc = .ok (.ireturn, 1)) (hq : Q (some (.int w)) T.heap locs) (hc : cells ≤ C) (hs : slots ≤ S) : Go p e below (EndN s Q C S) T (mkF m pc Ls (.int w :: rest)) :=
  Go.ret X hx hlocks hret hn (Or.inl ⟨rfl, ht, _, rfl⟩) hd hq hc hs
theorem Go.retJ (X : Stand p l e R s m args below meth c T locs cells slots) (hx : p.tables.exec = Jvm.exec) (hlocks : meth.locks = false) {pc : Nat} {Ls : Array Slot} {w : Int64} {rest : List Value} (hret : meth.sig.returnType = some .long)
    (hd : decode c.code pc = .ok (.lreturn, 1)) (hq : Q (some (.long w)) T.heap locs) (hc : cells ≤ C) (hs : slots ≤ S) : Go p e below (EndN s Q C S) T (mkF m pc Ls (.long w :: rest)) :=
  Go.ret X hx hlocks hret rfl (Or.inr (Or.inl ⟨rfl, rfl, _, rfl⟩)) hd hq hc hs
theorem own_narR (t : FieldType) {w : Value} (ht : t.isReference = true) (hw : w.isRef = true) : narrow t w = w := by
  cases t <;> first | (simp [FieldType.isReference] at ht; done) | (rcases ref_cases hw with rfl | ⟨_, rfl⟩ <;> rfl)
theorem own_fitR (t : FieldType) {w : Value} (ht : t.isReference = true) (hw : w.isRef = true) : fits t w = true := by
  cases t <;> first | (simp [FieldType.isReference] at ht; done) | (rcases ref_cases hw with rfl | ⟨_, rfl⟩ <;> rfl)
theorem Go.retA (X : Stand p l e R s m args below meth c T locs cells slots) (hx : p.tables.exec = Jvm.exec) (hlocks : meth.locks = false) {pc : Nat} {Ls : Array Slot} {w : Value} {t : FieldType} {rest : List Value} (hret : meth.sig.returnType = some t) (ht : t.isReference = true) (hw : w.isRef = true)
    (hd : decode c.code pc = .ok (.areturn, 1)) (hq : Q (some w) T.heap locs) (hc : cells ≤ C) (hs : slots ≤ S) : Go p e below (EndN s Q C S) T (mkF m pc Ls (w :: rest)) :=
  Go.ret X hx hlocks hret (own_narR t ht hw) (Or.inr (Or.inr (Or.inr (Or.inr ⟨rfl, ht, hw⟩)))) hd hq hc hs
theorem Go.retV (X : Stand p l e R s m args below meth c T locs cells slots) (hx : p.tables.exec = Jvm.exec) (hlocks : meth.locks = false) {pc : Nat} {Ls : Array Slot} (hret : meth.sig.returnType = none)
    (hd : decode c.code pc = .ok (.return_, 1)) (hq : Q none T.heap locs) (hc : cells ≤ C) (hs : slots ≤ S) : Go p e below (EndN s Q C S) T (mkF m pc Ls []) := by
  obtain ⟨fs, hr, hrun, hended, hW, hsame⟩ := X.leave (v := none) (fun _ => rfl) hlocks
  exact ⟨_, _, X.returnOut hx hret hd hr, hrun, hended, _, _, rfl, hq, ⟨_, rfl⟩, hW, hsame.mono hc hs⟩
end OwnGo
theorem own_len {args : Array Value} {s : State} {t : Term} {a : Addr} {c : Cell} {z : Int32} (ev : t.eval args s none [] s = some (.ref a)) (A : s.arrayAt? a = some c) (h : (Term.length t).eval args s none [] s = some (.int z)) : c.slots.size < 2 ^ 31 ∧ c.slots.size.toInt32 = z := by
  simp only [Term.eval, ev, A, Option.bind_eq_bind, Option.bind_some] at h
  by_cases q : c.slots.size < 2 ^ 31
  · refine ⟨q, ?_⟩
    simpa [q] using h
  · simp [q] at h
theorem own_static {args : Array Value} {s : State} {C n d : String} {v : Value} (h : (Term.static C n d).eval args s none [] s = some v) : ∀ idx, (Term.static C n d).eval args s none idx s = some v := fun idx => by
  simpa [Term.eval] using h
theorem own_valI {Z : State} {args : Array Value} (X : Term) (j : Int32) (hj : ¬ j < 0) (h : (Jvm.Cond.eq X (Term.sub (Term.index 0) (Term.int 128))).value args Z none Z [j.toNatClampNeg] = some true) : X.eval args Z none [j.toNatClampNeg] Z = some (.int (j - 128)) := by
  refine eqv_i ?_ h
  have h1 : (Term.index 0).eval args Z none [j.toNatClampNeg] Z = some (.int j) := idx_at hj
  simp only [Term.eval] at h1 ⊢
  rw [h1]
  rfl
theorem own_boxin {x : Int32} (h1 : ¬ x < -128) (h2 : ¬ (127 : Int32) < x) : ¬ (x + 128) < 0 ∧ (x + 128) < 256 := by
  rw [Int32.lt_iff_toInt_lt] at h1 h2 ⊢
  rw [Int32.lt_iff_toInt_lt]
  have h := c_iadd x 128
  have r := rng32 (x + 128)
  have r2 := rng32 x
  have l1 : (-128 : Int32).toInt = -128 := by decide
  have l2 : (127 : Int32).toInt = 127 := by decide
  have l3 : (128 : Int32).toInt = 128 := by decide
  have l4 : (256 : Int32).toInt = 256 := by decide
  have l5 : (0 : Int32).toInt = 0 := by decide
  omega
theorem own_valJ {Z : State} {args : Array Value} (X : Term) (j : Int32) (hj : ¬ j < 0) (h : (Jvm.Cond.eq X (Term.op1 .i2l (Term.sub (Term.index 0) (Term.int 128)))).value args Z none Z [j.toNatClampNeg] = some true) : X.eval args Z none [j.toNatClampNeg] Z = some (.long (j - 128).toInt64) := by
  refine eqv_l (i2l_at ?_) h
  have h1 : (Term.index 0).eval args Z none [j.toNatClampNeg] Z = some (.int j) := idx_at hj
  simp only [Term.eval] at h1 ⊢
  rw [h1]
  rfl
theorem own_boxinJ {x : Int64} (h1 : ¬ x < -128) (h2 : ¬ (127 : Int64) < x) : ¬ (x.toInt32 + 128) < 0 ∧ (x.toInt32 + 128) < 256 := by
  rw [Int64.lt_iff_toInt_lt] at h1 h2
  rw [Int32.lt_iff_toInt_lt, Int32.lt_iff_toInt_lt]
  have h := c_iadd x.toInt32 128
  have r := rng32 (x.toInt32 + 128)
  have r2 := rng32 x.toInt32
  have r3 := c_l2i x
  have l1 : (-128 : Int64).toInt = -128 := by decide
  have l2 : (127 : Int64).toInt = 127 := by decide
  have l3 : (128 : Int32).toInt = 128 := by decide
  have l4 : (256 : Int32).toInt = 256 := by decide
  have l5 : (0 : Int32).toInt = 0 := by decide
  omega

theorem pn_1 : plainName "java/lang/Number" = true := by first | (simp [plainName, overriddenIn]; done) | decide +kernel
theorem ef_2 (m : MethodId) (x0 : Addr) : entryFrame m #[(.ref x0)] 1 = mkF m 0 #[.val (.ref x0)] [] := by (first | (simp [entryFrame, mkF, argsToLocals, Value.category]; done) | rfl)
theorem d8_0 : decode jdk_18_method_1_code 0 = .ok (.aload_n 0, 1) := by decide +kernel
theorem d8_1 : decode jdk_18_method_1_code 1 = .ok (.invokespecial 1, 3) := by decide +kernel
theorem d8_4 : decode jdk_18_method_1_code 4 = .ok (.return_, 1) := by decide +kernel
def Q_rmNumber (Z : State) (a : Addr) (h0 : Heap) (n0 : Nat) (v : Option Value) (h : Heap) (L : List Loc) : Prop := v = none ∧ Fr n0 L ∧ h = h0
set_option maxRecDepth 65536 in
set_option maxHeartbeats 40000000 in
theorem rmNumber (l : Launch) (Z : State) (a0 : Array Value) (hw : ∀ d ∈ tables_1, d.before a0 Z = true) (ws : List Jvm.Cond) (a : Addr) (h0 : Heap) (n0 : Nat) (Z0 : n0 ≤ h0.size)  :
    MetFree l (⟨"java/lang/Number", "<init>", "()V"⟩ : MethodName) (head1 (Jvm.Cond.code (⟨"java/lang/Number", "<init>", "()V"⟩ : MethodName) jdk_18_method_1_code 1 none :: ws) ({ frames := 1, cells := 0, slots := 0, locals := 12 } : Room)) (fun as' U => as' = #[(.ref a)] ∧ Z.Warmed39 U.vm ∧ U.heap = h0) (fun _ _ _ _ _ => True) (fun _ U o U' => ∃ v L, o = .returned v ∧ Q_rmNumber Z a h0 n0 v U'.heap L ∧ FrameEnd U o U' L ({ frames := 1, cells := 0, slots := 0, locals := 12 } : Room).cells ({ frames := 1, cells := 0, slots := 0, locals := 12 } : Room).slots) := by
  refine MetFree.of_bodySF (plainFor_of_name pn_1) hisR ?_
  intro p e s m args below meth c s₁ Bd hml0 hP hK
  obtain ⟨rfl, hZ, hh⟩ := hP
  have hx := Bd.exec
  have hby := Bd.bytes
  have hml : c.maxLocals = 1 := hml0
  have hown : s.vm.findClass "java/lang/Number" = some m.cls := findClass_of_methodNamed Bd.named
  have hnm := (name_of_methodNamed Bd.named Bd.method).1
  have X0 : Stand p l e ({ frames := 1, cells := 0, slots := 0, locals := 12 } : Room) s m #[(.ref a)] below meth c s₁ [] 0 0 := Stand.of_body Bd
  have e0 : s₁.heap = h0 := by rw [← hh, Bd.state]; rfl
  have N0 := Fr.nil n0
  refine Go.enter (F := EndN s (Q_rmNumber Z a h0 n0) ({ frames := 1, cells := 0, slots := 0, locals := 12 } : Room).cells ({ frames := 1, cells := 0, slots := 0, locals := 12 } : Room).slots) (ef_2 m a) ?_
  show Go _ _ _ _ s₁ (mkF m 0 #[.val (.ref a)] [])
  refine Go.by (fun _ gk => XS.aloadN X0.here hx rfl (hb hby d8_0) rfl rfl gk) ?_
  show Go _ _ _ _ s₁ (mkF m 1 #[.val (.ref a)] [(.ref a)])
  obtain ⟨T1, X1, e1, st1⟩ := initO X0 hx hZ hown (hw _ (List.mem_of_getElem? (i := 48) rfl)) (hw _ (List.mem_of_getElem? (i := 7) rfl)) (hw _ (List.mem_of_getElem? (i := 8) rfl)) e0 (g := (mkF m 1 #[.val (.ref a)] [(.ref a)])) rfl (by rw [hml]; rfl) rfl (hb hby d8_1) (by decide) (W := 0) (by show 2 * 0 + _ ≤ _; exact Nat.le_of_eq rfl) (by decide)
  refine Go.by st1 ?_
  show Go _ _ _ _ T1 (mkF m 4 #[.val (.ref a)] [])
  exact Go.retV X1 hx Bd.notSynchronized Bd.returns (hb hby d8_4) (by rw [e1]; exact ⟨rfl, N0, rfl⟩) (by decide) (by decide)
theorem pn_6 : plainName "java/lang/Integer" = true := by first | (simp [plainName, overriddenIn]; done) | decide +kernel
theorem ef_7 (m : MethodId) (x0 : Addr) (x1 : Int32) : entryFrame m #[(.ref x0), (.int x1)] 2 = mkF m 0 #[.val (.ref x0), .val (.int x1)] [] := by (first | (simp [entryFrame, mkF, argsToLocals, Value.category]; done) | rfl)
theorem d9_0 : decode jdk_33_method_23_code 0 = .ok (.aload_n 0, 1) := by decide +kernel
theorem pd_9 : parseMethodDescriptor "()V" = some ⟨[], none⟩ := by decide +kernel
theorem d9_1 : decode jdk_33_method_23_code 1 = .ok (.invokespecial 202, 3) := by decide +kernel
theorem d9_4 : decode jdk_33_method_23_code 4 = .ok (.aload_n 0, 1) := by decide +kernel
theorem d9_5 : decode jdk_33_method_23_code 5 = .ok (.iload_n 1, 1) := by decide +kernel
theorem d9_6 : decode jdk_33_method_23_code 6 = .ok (.putfield 205, 3) := by decide +kernel
theorem d9_9 : decode jdk_33_method_23_code 9 = .ok (.return_, 1) := by decide +kernel
def Q_rmBoxI (Z : State) (a : Addr) (pv : Int32) (u : Value) (h0 : Heap) (n0 : Nat) (v : Option Value) (h : Heap) (L : List Loc) : Prop := v = none ∧ Fr n0 L ∧ Keep h0 h [a] ∧ Exa Z h a "java/lang/Integer" ∧ Fld Z h a "java/lang/Integer" "value" "I" (.int pv)
set_option maxRecDepth 65536 in
set_option maxHeartbeats 40000000 in
theorem rmBoxI (l : Launch) (Z : State) (a0 : Array Value) (hw : ∀ d ∈ tables_1, d.before a0 Z = true) (ws : List Jvm.Cond) (a : Addr) (pv : Int32) (u : Value) (h0 : Heap) (n0 : Nat) (Z0 : n0 ≤ h0.size) (E_a : Exa Z h0 a "java/lang/Integer") (F_a_value : Fld Z h0 a "java/lang/Integer" "value" "I" u) (g_a : n0 ≤ a) :
    MetFree l (⟨"java/lang/Integer", "<init>", "(I)V"⟩ : MethodName) (head1 (Jvm.Cond.code (⟨"java/lang/Integer", "<init>", "(I)V"⟩ : MethodName) jdk_33_method_23_code 2 none :: ws) ({ frames := 2, cells := 0, slots := 0, locals := 24 } : Room)) (fun as' U => as' = #[(.ref a), (.int pv)] ∧ Z.Warmed39 U.vm ∧ U.heap = h0) (fun _ _ _ _ _ => True) (fun _ U o U' => ∃ v L, o = .returned v ∧ Q_rmBoxI Z a pv u h0 n0 v U'.heap L ∧ FrameEnd U o U' L ({ frames := 2, cells := 0, slots := 0, locals := 24 } : Room).cells ({ frames := 2, cells := 0, slots := 0, locals := 24 } : Room).slots) := by
  refine MetFree.of_bodySF (plainFor_of_name pn_6) hisR ?_
  intro p e s m args below meth c s₁ Bd hml0 hP hK
  obtain ⟨rfl, hZ, hh⟩ := hP
  have hx := Bd.exec
  have hby := Bd.bytes
  have hml : c.maxLocals = 2 := hml0
  have hown : s.vm.findClass "java/lang/Integer" = some m.cls := findClass_of_methodNamed Bd.named
  have hnm := (name_of_methodNamed Bd.named Bd.method).1
  have X0 : Stand p l e ({ frames := 2, cells := 0, slots := 0, locals := 24 } : Room) s m #[(.ref a), (.int pv)] below meth c s₁ [] 0 0 := Stand.of_body Bd
  have e0 : s₁.heap = h0 := by rw [← hh, Bd.state]; rfl
  have N0 := Fr.nil n0
  refine Go.enter (F := EndN s (Q_rmBoxI Z a pv u h0 n0) ({ frames := 2, cells := 0, slots := 0, locals := 24 } : Room).cells ({ frames := 2, cells := 0, slots := 0, locals := 24 } : Room).slots) (ef_7 m a pv) ?_
  show Go _ _ _ _ s₁ (mkF m 0 #[.val (.ref a), .val (.int pv)] [])
  refine Go.by (fun _ gk => XS.aloadN X0.here hx rfl (hb hby d9_0) rfl rfl gk) ?_
  show Go _ _ _ _ s₁ (mkF m 1 #[.val (.ref a), .val (.int pv)] [(.ref a)])
  obtain ⟨_, _, ⟨T1, L1, k1, n1⟩, -, X1, ⟨Lc1, hQ1, l1, y1, z1⟩, st1⟩ := X0.specialBack hx (y := (⟨"java/lang/Number", "<init>", "()V"⟩ : MethodName)) rfl hown (mvT hZ (hw _ (List.mem_of_getElem? (i := 57) rfl))) (mvT hZ (hw _ (List.mem_of_getElem? (i := 43) rfl))) (mvT hZ (hw _ (List.mem_of_getElem? (i := 47) rfl))) (by decide) (backOf (W := 0) (rmNumber l Z a0 hw [] a h0 n0 Z0 ) hZ (hw _ (List.mem_of_getElem? (i := 47) rfl)) (hw _ (List.mem_of_getElem? (i := 46) rfl)) (by decide) (by decide)) (g := (mkF m 1 #[.val (.ref a), .val (.int pv)] [(.ref a)])) rfl (by rw [hml]; rfl) (Steps.refl _) (a := a) (argsL := []) (rest := []) (lenOf pd_9 rfl) rfl (by show 2 * 0 + _ ≤ _; exact Nat.le_of_eq rfl) (hb hby d9_1) (fun _ _ => ⟨rfl, e0, (by decide : 0 + 0 ≤ _), (by decide : 0 + 0 ≤ _)⟩)
  dsimp only [Pt.U, Pt.locs, Pt.cells, Pt.slots] at X1 l1 y1 z1 st1 hQ1
  subst l1 y1 z1
  obtain ⟨rfl, N1q, e1⟩ := hQ1
  have N1 := Fr.app N0 N1q
  refine Go.to st1 ?_
  show Go _ _ _ _ T1 (mkF m 4 #[.val (.ref a), .val (.int pv)] [])
  refine Go.by (fun _ gk => XS.aloadN X1.here hx rfl (hb hby d9_4) rfl rfl gk) ?_
  show Go _ _ _ _ T1 (mkF m 5 #[.val (.ref a), .val (.int pv)] [(.ref a)])
  refine Go.by (fun _ gk => XS.iloadN X1.here hx rfl (hb hby d9_5) rfl gk) ?_
  show Go _ _ _ _ T1 (mkF m 6 #[.val (.ref a), .val (.int pv)] [(.int pv), (.ref a)])
  obtain ⟨T2, h2, X2, e2, W2, st2⟩ := putF X1 hx hZ hown (host := "") (Or.inl (hw _ (List.mem_of_getElem? (i := 59) rfl))) Via.refl e1 F_a_value E_a (Or.inr ⟨(hw _ (List.mem_of_getElem? (i := 60) rfl)), rfl, hnm⟩) (hw _ (List.mem_of_getElem? (i := 52) rfl)) (ty := .int) (by decide) rfl rfl (g := (mkF m 6 #[.val (.ref a), .val (.int pv)] [(.int pv), (.ref a)])) rfl rfl (hb hby d9_6)
  have N2 := Fr.snoc X2 N1 g_a
  have Fw2 : Fld Z h2 a "java/lang/Integer" "value" "I" (.int pv) := F_a_value.same W2
  refine Go.by st2 ?_
  show Go _ _ _ _ T2 (mkF m 9 #[.val (.ref a), .val (.int pv)] [])
  have F3 : Keep h0 h2 [a] := (Keep.refl h0 [a]).wr W2 (Or.inl (List.mem_of_getElem? (i := 0) rfl))
  have F4 : Exa Z h2 a "java/lang/Integer" := E_a.wr W2
  exact Go.retV X2 hx Bd.notSynchronized Bd.returns (hb hby d9_9) (by rw [e2]; exact ⟨rfl, N2, F3, F4, Fw2⟩) (by decide) (by decide)
theorem own_back (p : Int32) : p + 128 - 128 = p := by simp
theorem ef_15 (m : MethodId) (x0 : Int32) : entryFrame m #[(.int x0)] 1 = mkF m 0 #[.val (.int x0)] [] := by (first | (simp [entryFrame, mkF, argsToLocals, Value.category]; done) | rfl)
theorem d3_0 : decode jdk_33_method_22_code 0 = .ok (.iload_n 0, 1) := by decide +kernel
theorem d3_1 : decode jdk_33_method_22_code 1 = .ok (.bipush (-128), 2) := by decide +kernel
theorem d3_3 : decode jdk_33_method_22_code 3 = .ok (.if_icmp .lt 20, 3) := by decide +kernel
theorem d3_23 : decode jdk_33_method_22_code 23 = .ok (.new 1, 3) := by decide +kernel
theorem d3_26 : decode jdk_33_method_22_code 26 = .ok (.dup, 1) := by decide +kernel
theorem d3_27 : decode jdk_33_method_22_code 27 = .ok (.iload_n 0, 1) := by decide +kernel
theorem pd_22 : parseMethodDescriptor "(I)V" = some ⟨[.int], none⟩ := by decide +kernel
theorem d3_28 : decode jdk_33_method_22_code 28 = .ok (.invokespecial 199, 3) := by decide +kernel
theorem d3_31 : decode jdk_33_method_22_code 31 = .ok (.areturn, 1) := by decide +kernel
theorem d3_6 : decode jdk_33_method_22_code 6 = .ok (.iload_n 0, 1) := by decide +kernel
theorem d3_7 : decode jdk_33_method_22_code 7 = .ok (.getstatic 191, 3) := by decide +kernel
theorem d3_10 : decode jdk_33_method_22_code 10 = .ok (.if_icmp .gt 13, 3) := by decide +kernel
theorem d3_13 : decode jdk_33_method_22_code 13 = .ok (.getstatic 195, 3) := by decide +kernel
theorem d3_16 : decode jdk_33_method_22_code 16 = .ok (.iload_n 0, 1) := by decide +kernel
theorem d3_17 : decode jdk_33_method_22_code 17 = .ok (.sipush 128, 3) := by decide +kernel
theorem d3_20 : decode jdk_33_method_22_code 20 = .ok (.iadd, 1) := by decide +kernel
theorem d3_21 : decode jdk_33_method_22_code 21 = .ok (.aaload, 1) := by decide +kernel
theorem d3_22 : decode jdk_33_method_22_code 22 = .ok (.areturn, 1) := by decide +kernel
def Q_rmValueOfI (Z : State) (pv : Int32) (caI : Addr) (ccI : Cell) (h0 : Heap) (n0 : Nat) (v : Option Value) (h : Heap) (L : List Loc) : Prop := ∃ b : Addr, v = some (.ref b) ∧ Fr n0 L ∧ Keep h0 h [] ∧ Exa Z h b "java/lang/Integer" ∧ Fld Z h b "java/lang/Integer" "value" "I" (.int pv)
set_option maxRecDepth 65536 in
set_option maxHeartbeats 40000000 in
theorem rmValueOfI (l : Launch) (Z : State) (a0 : Array Value) (hw : ∀ d ∈ tables_1, d.before a0 Z = true) (ws : List Jvm.Cond) (pv : Int32) (caI : Addr) (ccI : Cell) (h0 : Heap) (n0 : Nat) (Z0 : n0 ≤ h0.size) (O0 : Old Z n0 h0) (S_cacheI : Sta Z Z.heap "java/lang/Integer$IntegerCache" "cache" "[Ljava/lang/Integer;" (.ref caI)) (B_I : Bxs Z caI ccI "java/lang/Integer" "I" 256 (fun j => .int (j - 128))) (S_high : Sta Z Z.heap "java/lang/Integer$IntegerCache" "high" "I" (.int 127)) :
    MetFree l (⟨"java/lang/Integer", "valueOf", "(I)Ljava/lang/Integer;"⟩ : MethodName) (head1 (Jvm.Cond.code (⟨"java/lang/Integer", "valueOf", "(I)Ljava/lang/Integer;"⟩ : MethodName) jdk_33_method_22_code 1 (some (.object "java/lang/Integer")) :: ws) ({ frames := 3, cells := 1, slots := 1, locals := 38 } : Room)) (fun as' U => as' = #[(.int pv)] ∧ Z.Warmed39 U.vm ∧ U.heap = h0) (fun _ _ _ _ _ => True) (fun _ U o U' => ∃ v L, o = .returned v ∧ Q_rmValueOfI Z pv caI ccI h0 n0 v U'.heap L ∧ FrameEnd U o U' L ({ frames := 3, cells := 1, slots := 1, locals := 38 } : Room).cells ({ frames := 3, cells := 1, slots := 1, locals := 38 } : Room).slots) := by
  refine MetFree.of_bodySF (plainFor_of_name pn_6) hisR ?_
  intro p e s m args below meth c s₁ Bd hml0 hP hK
  obtain ⟨rfl, hZ, hh⟩ := hP
  have hx := Bd.exec
  have hby := Bd.bytes
  have hml : c.maxLocals = 1 := hml0
  have hown : s.vm.findClass "java/lang/Integer" = some m.cls := findClass_of_methodNamed Bd.named
  have hnm := (name_of_methodNamed Bd.named Bd.method).1
  have X0 : Stand p l e ({ frames := 3, cells := 1, slots := 1, locals := 38 } : Room) s m #[(.int pv)] below meth c s₁ [] 0 0 := Stand.of_body Bd
  have e0 : s₁.heap = h0 := by rw [← hh, Bd.state]; rfl
  have N0 := Fr.nil n0
  refine Go.enter (F := EndN s (Q_rmValueOfI Z pv caI ccI h0 n0) ({ frames := 3, cells := 1, slots := 1, locals := 38 } : Room).cells ({ frames := 3, cells := 1, slots := 1, locals := 38 } : Room).slots) (ef_15 m pv) ?_
  show Go _ _ _ _ s₁ (mkF m 0 #[.val (.int pv)] [])
  refine Go.by (fun _ gk => XS.iloadN X0.here hx rfl (hb hby d3_0) rfl gk) ?_
  show Go _ _ _ _ s₁ (mkF m 1 #[.val (.int pv)] [(.int pv)])
  refine Go.by (fun _ gk => XT.bipushV X0.here hx rfl (-128 : Int32) (hb hby d3_1) (by decide) gk) ?_
  show Go _ _ _ _ s₁ (mkF m 3 #[.val (.int pv)] [(.int (-128 : Int32)), (.int pv)])
  by_cases hb1 : pv < (-128 : Int32)
  · refine Go.by (fun _ gk => XS.icmpYes X0.here hx rfl (pc0 := 3) (pc' := 23) rfl (hb hby d3_3) rfl (XT.ii_lt_t hb1) (by decide) (by decide) gk) ?_
    show Go _ _ _ _ s₁ (mkF m 23 #[.val (.int pv)] [])
    obtain ⟨b, g2⟩ : ∃ z, z = h0.size := ⟨_, rfl⟩
    have ge_b : n0 ≤ b := Nat.le_trans Z0 (Nat.le_of_eq g2.symm)
    have sz_b : h0.size ≤ b := Nat.le_trans (Keep.refl h0 []).1 (Nat.le_of_eq g2.symm)
    obtain ⟨T2, h2, X2, e2, E2, A2, D2, -, st2⟩ := newO X0 hx hZ hown (hw _ (List.mem_of_getElem? (i := 51) rfl)) (hw _ (List.mem_of_getElem? (i := 52) rfl)) (hw _ (List.mem_of_getElem? (i := 11) rfl)) e0 (g := (mkF m 23 #[.val (.int pv)] [])) rfl (hb hby d3_23) (by decide) (by decide)
    rw [← g2] at A2 D2 st2
    have F_value_b : Fld Z h2 b "java/lang/Integer" "value" "I" (.int (0 : Int32)) := D2 (Or.inr (hw _ (List.mem_of_getElem? (i := 60) rfl))) (ty := .int) (by decide)
    refine Go.by st2 ?_
    show Go _ _ _ _ T2 (mkF m 26 #[.val (.int pv)] [(.ref b)])
    refine Go.by (fun _ gk => XS.dup X2.here hx rfl (hb hby d3_26) rfl rfl gk) ?_
    show Go _ _ _ _ T2 (mkF m 27 #[.val (.int pv)] [(.ref b), (.ref b)])
    refine Go.by (fun _ gk => XS.iloadN X2.here hx rfl (hb hby d3_27) rfl gk) ?_
    show Go _ _ _ _ T2 (mkF m 28 #[.val (.int pv)] [(.int pv), (.ref b), (.ref b)])
    have F3 : n0 ≤ h2.size := Nat.le_trans Z0 E2.1
    obtain ⟨_, _, ⟨T4, L4, k4, n4⟩, -, X4, ⟨Lc4, hQ4, l4, y4, z4⟩, st4⟩ := X2.specialBack hx (y := (⟨"java/lang/Integer", "<init>", "(I)V"⟩ : MethodName)) rfl hown (mvT hZ (hw _ (List.mem_of_getElem? (i := 53) rfl))) (mvT hZ (hw _ (List.mem_of_getElem? (i := 54) rfl))) (mvT hZ (hw _ (List.mem_of_getElem? (i := 56) rfl))) (by decide) (backOf (W := 1) (rmBoxI l Z a0 hw [] b pv (.int (0 : Int32)) h2 n0 F3 A2 F_value_b ge_b) hZ (hw _ (List.mem_of_getElem? (i := 56) rfl)) (hw _ (List.mem_of_getElem? (i := 11) rfl)) (by decide) (by decide)) (g := (mkF m 28 #[.val (.int pv)] [(.int pv), (.ref b), (.ref b)])) rfl (by rw [hml]; rfl) (Steps.refl _) (a := b) (argsL := [(.int pv)]) (rest := [(.ref b)]) (lenOf pd_22 rfl) rfl (by show 2 * 0 + _ ≤ _; exact Nat.le_of_eq rfl) (hb hby d3_28) (fun _ _ => ⟨rfl, e2, (by decide : 1 + 0 ≤ _), (by decide : 1 + 0 ≤ _)⟩)
    dsimp only [Pt.U, Pt.locs, Pt.cells, Pt.slots] at X4 l4 y4 z4 st4 hQ4
    subst l4 y4 z4
    obtain ⟨rfl, N4q, K4, Q4_0, Q4_1⟩ := hQ4
    have N4 := Fr.app N0 N4q
    refine Go.to st4 ?_
    show Go _ _ _ _ T4 (mkF m 31 #[.val (.int pv)] [(.ref b)])
    have F5 : Keep h0 h2 [] := (Keep.refl h0 []).ext E2
    have F6 : Keep h0 T4.heap [] := F5.trans K4 (allS (Or.inr sz_b) all0)
    exact Go.retA X4 hx Bd.notSynchronized Bd.returns rfl rfl (hb hby d3_31) ⟨b, rfl, N4, F6, Q4_0, Q4_1⟩ (by decide) (by decide)
  · refine Go.by (fun _ gk => XS.icmpNo X0.here hx rfl (hb hby d3_3) rfl (XT.ii_lt_f hb1) gk) ?_
    show Go _ _ _ _ s₁ (mkF m 6 #[.val (.int pv)] [])
    refine Go.by (fun _ gk => XS.iloadN X0.here hx rfl (hb hby d3_6) rfl gk) ?_
    show Go _ _ _ _ s₁ (mkF m 7 #[.val (.int pv)] [(.int pv)])
    have F7 : Sta Z h0 "java/lang/Integer$IntegerCache" "high" "I" (.int (127 : Int32)) := S_high.ext O0.2
    obtain ⟨T8, X8, e8, st8⟩ := getS2 X0 hx hZ hown (host := "") (Or.inl (hw _ (List.mem_of_getElem? (i := 13) rfl))) Via.refl e0 F7 (g := (mkF m 7 #[.val (.int pv)] [(.int pv)])) rfl (hb hby d3_7)
    refine Go.by st8 ?_
    show Go _ _ _ _ T8 (mkF m 10 #[.val (.int pv)] [(.int (127 : Int32)), (.int pv)])
    by_cases hb9 : (127 : Int32) < pv
    · refine Go.by (fun _ gk => XS.icmpYes X8.here hx rfl (pc0 := 10) (pc' := 23) rfl (hb hby d3_10) rfl (XT.ii_gt_t hb9) (by decide) (by decide) gk) ?_
      show Go _ _ _ _ T8 (mkF m 23 #[.val (.int pv)] [])
      obtain ⟨b, g10⟩ : ∃ z, z = h0.size := ⟨_, rfl⟩
      have ge_b : n0 ≤ b := Nat.le_trans Z0 (Nat.le_of_eq g10.symm)
      have sz_b : h0.size ≤ b := Nat.le_trans (Keep.refl h0 []).1 (Nat.le_of_eq g10.symm)
      obtain ⟨T10, h10, X10, e10, E10, A10, D10, -, st10⟩ := newO X8 hx hZ hown (hw _ (List.mem_of_getElem? (i := 51) rfl)) (hw _ (List.mem_of_getElem? (i := 52) rfl)) (hw _ (List.mem_of_getElem? (i := 11) rfl)) e8 (g := (mkF m 23 #[.val (.int pv)] [])) rfl (hb hby d3_23) (by decide) (by decide)
      rw [← g10] at A10 D10 st10
      have F_value_b : Fld Z h10 b "java/lang/Integer" "value" "I" (.int (0 : Int32)) := D10 (Or.inr (hw _ (List.mem_of_getElem? (i := 60) rfl))) (ty := .int) (by decide)
      refine Go.by st10 ?_
      show Go _ _ _ _ T10 (mkF m 26 #[.val (.int pv)] [(.ref b)])
      refine Go.by (fun _ gk => XS.dup X10.here hx rfl (hb hby d3_26) rfl rfl gk) ?_
      show Go _ _ _ _ T10 (mkF m 27 #[.val (.int pv)] [(.ref b), (.ref b)])
      refine Go.by (fun _ gk => XS.iloadN X10.here hx rfl (hb hby d3_27) rfl gk) ?_
      show Go _ _ _ _ T10 (mkF m 28 #[.val (.int pv)] [(.int pv), (.ref b), (.ref b)])
      have F11 : n0 ≤ h10.size := Nat.le_trans Z0 E10.1
      obtain ⟨_, _, ⟨T12, L12, k12, n12⟩, -, X12, ⟨Lc12, hQ12, l12, y12, z12⟩, st12⟩ := X10.specialBack hx (y := (⟨"java/lang/Integer", "<init>", "(I)V"⟩ : MethodName)) rfl hown (mvT hZ (hw _ (List.mem_of_getElem? (i := 53) rfl))) (mvT hZ (hw _ (List.mem_of_getElem? (i := 54) rfl))) (mvT hZ (hw _ (List.mem_of_getElem? (i := 56) rfl))) (by decide) (backOf (W := 1) (rmBoxI l Z a0 hw [] b pv (.int (0 : Int32)) h10 n0 F11 A10 F_value_b ge_b) hZ (hw _ (List.mem_of_getElem? (i := 56) rfl)) (hw _ (List.mem_of_getElem? (i := 11) rfl)) (by decide) (by decide)) (g := (mkF m 28 #[.val (.int pv)] [(.int pv), (.ref b), (.ref b)])) rfl (by rw [hml]; rfl) (Steps.refl _) (a := b) (argsL := [(.int pv)]) (rest := [(.ref b)]) (lenOf pd_22 rfl) rfl (by show 2 * 0 + _ ≤ _; exact Nat.le_of_eq rfl) (hb hby d3_28) (fun _ _ => ⟨rfl, e10, (by decide : 1 + 0 ≤ _), (by decide : 1 + 0 ≤ _)⟩)
      dsimp only [Pt.U, Pt.locs, Pt.cells, Pt.slots] at X12 l12 y12 z12 st12 hQ12
      subst l12 y12 z12
      obtain ⟨rfl, N12q, K12, Q12_0, Q12_1⟩ := hQ12
      have N12 := Fr.app N0 N12q
      refine Go.to st12 ?_
      show Go _ _ _ _ T12 (mkF m 31 #[.val (.int pv)] [(.ref b)])
      have F13 : Keep h0 h10 [] := (Keep.refl h0 []).ext E10
      have F14 : Keep h0 T12.heap [] := F13.trans K12 (allS (Or.inr sz_b) all0)
      exact Go.retA X12 hx Bd.notSynchronized Bd.returns rfl rfl (hb hby d3_31) ⟨b, rfl, N12, F14, Q12_0, Q12_1⟩ (by decide) (by decide)
    · refine Go.by (fun _ gk => XS.icmpNo X8.here hx rfl (hb hby d3_10) rfl (XT.ii_gt_f hb9) gk) ?_
      show Go _ _ _ _ T8 (mkF m 13 #[.val (.int pv)] [])
      have F15 : Sta Z h0 "java/lang/Integer$IntegerCache" "cache" "[Ljava/lang/Integer;" (.ref caI) := S_cacheI.ext O0.2
      obtain ⟨T16, X16, e16, st16⟩ := getS2 X8 hx hZ hown (host := "") (Or.inl (hw _ (List.mem_of_getElem? (i := 15) rfl))) Via.refl e8 F15 (g := (mkF m 13 #[.val (.int pv)] [])) rfl (hb hby d3_13)
      refine Go.by st16 ?_
      show Go _ _ _ _ T16 (mkF m 16 #[.val (.int pv)] [(.ref caI)])
      refine Go.by (fun _ gk => XS.iloadN X16.here hx rfl (hb hby d3_16) rfl gk) ?_
      show Go _ _ _ _ T16 (mkF m 17 #[.val (.int pv)] [(.int pv), (.ref caI)])
      refine Go.by (fun _ gk => XT.sipushV X16.here hx rfl (128 : Int32) (hb hby d3_17) (by decide) gk) ?_
      show Go _ _ _ _ T16 (mkF m 20 #[.val (.int pv)] [(.int (128 : Int32)), (.int pv), (.ref caI)])
      refine Go.by (fun _ gk => XS.iadd X16.here hx rfl (hb hby d3_20) rfl gk) ?_
      show Go _ _ _ _ T16 (mkF m 21 #[.val (.int pv)] [(.int (pv + (128 : Int32))), (.ref caI)])
      have hj := own_boxin hb1 hb9
      obtain ⟨Ar, Sz, Nz⟩ := B_I.ext O0.2
      have hin := inb_of Sz hj
      obtain ⟨b, hat, Eb, Fb⟩ := B_I.2.2.2 _ hin
      refine Go.by (fun _ gk => X16.aaload hx (j := pv + (128 : Int32)) (v := .ref b) (by rw [e16]; exact Ar.1) (State.isArrayOf_alike hZ.alike Ar.2.1) rfl Ar.2.2 hin hat (g := (mkF m 21 #[.val (.int pv)] [(.int (pv + (128 : Int32))), (.ref caI)])) rfl rfl (hb hby d3_21) _ gk) ?_
      show Go _ _ _ _ T16 (mkF m 22 #[.val (.int pv)] [(.ref b)])
      have Fb' : Fld Z Z.heap b "java/lang/Integer" "value" "I" (.int pv) := own_back pv ▸ Fb
      have F17 : Exa Z h0 b "java/lang/Integer" := Eb.ext O0.2
      have F18 : Fld Z h0 b "java/lang/Integer" "value" "I" (.int pv) := Fb'.ext O0.2
      exact Go.retA X16 hx Bd.notSynchronized Bd.returns rfl rfl (hb hby d3_22) (by rw [e16]; exact ⟨b, rfl, N0, (Keep.refl h0 []), F17, F18⟩) (by decide) (by decide)
theorem pn_34 : plainName "java/lang/Long" = true := by first | (simp [plainName, overriddenIn]; done) | decide +kernel
theorem ef_35 (m : MethodId) (x0 : Addr) (x1 : Int64) : entryFrame m #[(.ref x0), (.long x1)] 3 = mkF m 0 #[.val (.ref x0), .val (.long x1), .second] [] := by (first | (simp [entryFrame, mkF, argsToLocals, Value.category]; done) | rfl)
theorem d7_0 : decode jdk_35_method_26_code 0 = .ok (.aload_n 0, 1) := by decide +kernel
theorem d7_1 : decode jdk_35_method_26_code 1 = .ok (.invokespecial 270, 3) := by decide +kernel
theorem d7_4 : decode jdk_35_method_26_code 4 = .ok (.aload_n 0, 1) := by decide +kernel
theorem d7_5 : decode jdk_35_method_26_code 5 = .ok (.lload_n 1, 1) := by decide +kernel
theorem d7_6 : decode jdk_35_method_26_code 6 = .ok (.putfield 273, 3) := by decide +kernel
theorem d7_9 : decode jdk_35_method_26_code 9 = .ok (.return_, 1) := by decide +kernel
def Q_rmBoxJ (Z : State) (a : Addr) (pv : Int64) (u : Value) (h0 : Heap) (n0 : Nat) (v : Option Value) (h : Heap) (L : List Loc) : Prop := v = none ∧ Fr n0 L ∧ Keep h0 h [a] ∧ Exa Z h a "java/lang/Long" ∧ Fld Z h a "java/lang/Long" "value" "J" (.long pv)
set_option maxRecDepth 65536 in
set_option maxHeartbeats 40000000 in
theorem rmBoxJ (l : Launch) (Z : State) (a0 : Array Value) (hw : ∀ d ∈ tables_1, d.before a0 Z = true) (ws : List Jvm.Cond) (a : Addr) (pv : Int64) (u : Value) (h0 : Heap) (n0 : Nat) (Z0 : n0 ≤ h0.size) (E_a : Exa Z h0 a "java/lang/Long") (F_a_value : Fld Z h0 a "java/lang/Long" "value" "J" u) (g_a : n0 ≤ a) :
    MetFree l (⟨"java/lang/Long", "<init>", "(J)V"⟩ : MethodName) (head1 (Jvm.Cond.code (⟨"java/lang/Long", "<init>", "(J)V"⟩ : MethodName) jdk_35_method_26_code 3 none :: ws) ({ frames := 2, cells := 0, slots := 0, locals := 24 } : Room)) (fun as' U => as' = #[(.ref a), (.long pv)] ∧ Z.Warmed39 U.vm ∧ U.heap = h0) (fun _ _ _ _ _ => True) (fun _ U o U' => ∃ v L, o = .returned v ∧ Q_rmBoxJ Z a pv u h0 n0 v U'.heap L ∧ FrameEnd U o U' L ({ frames := 2, cells := 0, slots := 0, locals := 24 } : Room).cells ({ frames := 2, cells := 0, slots := 0, locals := 24 } : Room).slots) := by
  refine MetFree.of_bodySF (plainFor_of_name pn_34) hisR ?_
  intro p e s m args below meth c s₁ Bd hml0 hP hK
  obtain ⟨rfl, hZ, hh⟩ := hP
  have hx := Bd.exec
  have hby := Bd.bytes
  have hml : c.maxLocals = 3 := hml0
  have hown : s.vm.findClass "java/lang/Long" = some m.cls := findClass_of_methodNamed Bd.named
  have hnm := (name_of_methodNamed Bd.named Bd.method).1
  have X0 : Stand p l e ({ frames := 2, cells := 0, slots := 0, locals := 24 } : Room) s m #[(.ref a), (.long pv)] below meth c s₁ [] 0 0 := Stand.of_body Bd
  have e0 : s₁.heap = h0 := by rw [← hh, Bd.state]; rfl
  have N0 := Fr.nil n0
  refine Go.enter (F := EndN s (Q_rmBoxJ Z a pv u h0 n0) ({ frames := 2, cells := 0, slots := 0, locals := 24 } : Room).cells ({ frames := 2, cells := 0, slots := 0, locals := 24 } : Room).slots) (ef_35 m a pv) ?_
  show Go _ _ _ _ s₁ (mkF m 0 #[.val (.ref a), .val (.long pv), .second] [])
  refine Go.by (fun _ gk => XS.aloadN X0.here hx rfl (hb hby d7_0) rfl rfl gk) ?_
  show Go _ _ _ _ s₁ (mkF m 1 #[.val (.ref a), .val (.long pv), .second] [(.ref a)])
  obtain ⟨_, _, ⟨T1, L1, k1, n1⟩, -, X1, ⟨Lc1, hQ1, l1, y1, z1⟩, st1⟩ := X0.specialBack hx (y := (⟨"java/lang/Number", "<init>", "()V"⟩ : MethodName)) rfl hown (mvT hZ (hw _ (List.mem_of_getElem? (i := 42) rfl))) (mvT hZ (hw _ (List.mem_of_getElem? (i := 43) rfl))) (mvT hZ (hw _ (List.mem_of_getElem? (i := 47) rfl))) (by decide) (backOf (W := 0) (rmNumber l Z a0 hw [] a h0 n0 Z0 ) hZ (hw _ (List.mem_of_getElem? (i := 47) rfl)) (hw _ (List.mem_of_getElem? (i := 46) rfl)) (by decide) (by decide)) (g := (mkF m 1 #[.val (.ref a), .val (.long pv), .second] [(.ref a)])) rfl (by rw [hml]; rfl) (Steps.refl _) (a := a) (argsL := []) (rest := []) (lenOf pd_9 rfl) rfl (by show 2 * 0 + _ ≤ _; exact Nat.le_of_eq rfl) (hb hby d7_1) (fun _ _ => ⟨rfl, e0, (by decide : 0 + 0 ≤ _), (by decide : 0 + 0 ≤ _)⟩)
  dsimp only [Pt.U, Pt.locs, Pt.cells, Pt.slots] at X1 l1 y1 z1 st1 hQ1
  subst l1 y1 z1
  obtain ⟨rfl, N1q, e1⟩ := hQ1
  have N1 := Fr.app N0 N1q
  refine Go.to st1 ?_
  show Go _ _ _ _ T1 (mkF m 4 #[.val (.ref a), .val (.long pv), .second] [])
  refine Go.by (fun _ gk => XS.aloadN X1.here hx rfl (hb hby d7_4) rfl rfl gk) ?_
  show Go _ _ _ _ T1 (mkF m 5 #[.val (.ref a), .val (.long pv), .second] [(.ref a)])
  refine Go.by (fun _ gk => XT.lloadN X1.here hx rfl (hb hby d7_5) rfl gk) ?_
  show Go _ _ _ _ T1 (mkF m 6 #[.val (.ref a), .val (.long pv), .second] [(.long pv), (.ref a)])
  obtain ⟨T2, h2, X2, e2, W2, st2⟩ := putF X1 hx hZ hown (host := "") (Or.inl (hw _ (List.mem_of_getElem? (i := 49) rfl))) Via.refl e1 F_a_value E_a (Or.inr ⟨(hw _ (List.mem_of_getElem? (i := 50) rfl)), rfl, hnm⟩) (hw _ (List.mem_of_getElem? (i := 37) rfl)) (ty := .long) (by decide) rfl rfl (g := (mkF m 6 #[.val (.ref a), .val (.long pv), .second] [(.long pv), (.ref a)])) rfl rfl (hb hby d7_6)
  have N2 := Fr.snoc X2 N1 g_a
  have Fw2 : Fld Z h2 a "java/lang/Long" "value" "J" (.long pv) := F_a_value.same W2
  refine Go.by st2 ?_
  show Go _ _ _ _ T2 (mkF m 9 #[.val (.ref a), .val (.long pv), .second] [])
  have F3 : Keep h0 h2 [a] := (Keep.refl h0 [a]).wr W2 (Or.inl (List.mem_of_getElem? (i := 0) rfl))
  have F4 : Exa Z h2 a "java/lang/Long" := E_a.wr W2
  exact Go.retV X2 hx Bd.notSynchronized Bd.returns (hb hby d7_9) (by rw [e2]; exact ⟨rfl, N2, F3, F4, Fw2⟩) (by decide) (by decide)
theorem ef_42 (m : MethodId) (x0 : Int64) : entryFrame m #[(.long x0)] 3 = mkF m 0 #[.val (.long x0), .second, .unset] [] := by (first | (simp [entryFrame, mkF, argsToLocals, Value.category]; done) | rfl)
theorem d4_0 : decode jdk_35_method_24_code 0 = .ok (.sipush 128, 3) := by decide +kernel
theorem d4_3 : decode jdk_35_method_24_code 3 = .ok (.istore_n 2, 1) := by decide +kernel
theorem d4_4 : decode jdk_35_method_24_code 4 = .ok (.lload_n 0, 1) := by decide +kernel
theorem d4_5 : decode jdk_35_method_24_code 5 = .ok (.ldc2_w 230, 3) := by decide +kernel
theorem d4_8 : decode jdk_35_method_24_code 8 = .ok (.lcmp, 1) := by decide +kernel
theorem d4_9 : decode jdk_35_method_24_code 9 = .ok (.ifCond .lt 22, 3) := by decide +kernel
theorem d4_31 : decode jdk_35_method_24_code 31 = .ok (.new 1, 3) := by decide +kernel
theorem d4_34 : decode jdk_35_method_24_code 34 = .ok (.dup, 1) := by decide +kernel
theorem d4_35 : decode jdk_35_method_24_code 35 = .ok (.lload_n 0, 1) := by decide +kernel
theorem pd_52 : parseMethodDescriptor "(J)V" = some ⟨[.long], none⟩ := by decide +kernel
theorem d4_36 : decode jdk_35_method_24_code 36 = .ok (.invokespecial 240, 3) := by decide +kernel
theorem d4_39 : decode jdk_35_method_24_code 39 = .ok (.areturn, 1) := by decide +kernel
theorem d4_12 : decode jdk_35_method_24_code 12 = .ok (.lload_n 0, 1) := by decide +kernel
theorem d4_13 : decode jdk_35_method_24_code 13 = .ok (.ldc2_w 232, 3) := by decide +kernel
theorem d4_16 : decode jdk_35_method_24_code 16 = .ok (.lcmp, 1) := by decide +kernel
theorem d4_17 : decode jdk_35_method_24_code 17 = .ok (.ifCond .gt 14, 3) := by decide +kernel
theorem d4_20 : decode jdk_35_method_24_code 20 = .ok (.getstatic 234, 3) := by decide +kernel
theorem d4_23 : decode jdk_35_method_24_code 23 = .ok (.lload_n 0, 1) := by decide +kernel
theorem d4_24 : decode jdk_35_method_24_code 24 = .ok (.l2i, 1) := by decide +kernel
theorem d4_25 : decode jdk_35_method_24_code 25 = .ok (.sipush 128, 3) := by decide +kernel
theorem d4_28 : decode jdk_35_method_24_code 28 = .ok (.iadd, 1) := by decide +kernel
theorem d4_29 : decode jdk_35_method_24_code 29 = .ok (.aaload, 1) := by decide +kernel
theorem d4_30 : decode jdk_35_method_24_code 30 = .ok (.areturn, 1) := by decide +kernel
def Q_rmValueOfJ (Z : State) (pv : Int64) (caJ : Addr) (ccJ : Cell) (h0 : Heap) (n0 : Nat) (v : Option Value) (h : Heap) (L : List Loc) : Prop := ∃ b : Addr, v = some (.ref b) ∧ Fr n0 L ∧ Keep h0 h [] ∧ Exa Z h b "java/lang/Long"
set_option maxRecDepth 65536 in
set_option maxHeartbeats 40000000 in
theorem rmValueOfJ (l : Launch) (Z : State) (a0 : Array Value) (hw : ∀ d ∈ tables_1, d.before a0 Z = true) (ws : List Jvm.Cond) (pv : Int64) (caJ : Addr) (ccJ : Cell) (h0 : Heap) (n0 : Nat) (Z0 : n0 ≤ h0.size) (O0 : Old Z n0 h0) (S_cacheJ : Sta Z Z.heap "java/lang/Long$LongCache" "cache" "[Ljava/lang/Long;" (.ref caJ)) (B_J : Bxs Z caJ ccJ "java/lang/Long" "J" 256 (fun j => .long (j - 128).toInt64)) :
    MetFree l (⟨"java/lang/Long", "valueOf", "(J)Ljava/lang/Long;"⟩ : MethodName) (head1 (Jvm.Cond.code (⟨"java/lang/Long", "valueOf", "(J)Ljava/lang/Long;"⟩ : MethodName) jdk_35_method_24_code 3 (some (.object "java/lang/Long")) :: ws) ({ frames := 3, cells := 1, slots := 1, locals := 39 } : Room)) (fun as' U => as' = #[(.long pv)] ∧ Z.Warmed39 U.vm ∧ U.heap = h0) (fun _ _ _ _ _ => True) (fun _ U o U' => ∃ v L, o = .returned v ∧ Q_rmValueOfJ Z pv caJ ccJ h0 n0 v U'.heap L ∧ FrameEnd U o U' L ({ frames := 3, cells := 1, slots := 1, locals := 39 } : Room).cells ({ frames := 3, cells := 1, slots := 1, locals := 39 } : Room).slots) := by
  refine MetFree.of_bodySF (plainFor_of_name pn_34) hisR ?_
  intro p e s m args below meth c s₁ Bd hml0 hP hK
  obtain ⟨rfl, hZ, hh⟩ := hP
  have hx := Bd.exec
  have hby := Bd.bytes
  have hml : c.maxLocals = 3 := hml0
  have hown : s.vm.findClass "java/lang/Long" = some m.cls := findClass_of_methodNamed Bd.named
  have hnm := (name_of_methodNamed Bd.named Bd.method).1
  have X0 : Stand p l e ({ frames := 3, cells := 1, slots := 1, locals := 39 } : Room) s m #[(.long pv)] below meth c s₁ [] 0 0 := Stand.of_body Bd
  have e0 : s₁.heap = h0 := by rw [← hh, Bd.state]; rfl
  have N0 := Fr.nil n0
  refine Go.enter (F := EndN s (Q_rmValueOfJ Z pv caJ ccJ h0 n0) ({ frames := 3, cells := 1, slots := 1, locals := 39 } : Room).cells ({ frames := 3, cells := 1, slots := 1, locals := 39 } : Room).slots) (ef_42 m pv) ?_
  show Go _ _ _ _ s₁ (mkF m 0 #[.val (.long pv), .second, .unset] [])
  refine Go.by (fun _ gk => XT.sipushV X0.here hx rfl (128 : Int32) (hb hby d4_0) (by decide) gk) ?_
  show Go _ _ _ _ s₁ (mkF m 3 #[.val (.long pv), .second, .unset] [(.int (128 : Int32))])
  refine Go.by (fun _ gk => XS.istoreN X0.here hx rfl (hb hby d4_3) rfl (l' := #[.val (.long pv), .second, .val (.int (128 : Int32))]) rfl gk) ?_
  show Go _ _ _ _ s₁ (mkF m 4 #[.val (.long pv), .second, .val (.int (128 : Int32))] [])
  refine Go.by (fun _ gk => XT.lloadN X0.here hx rfl (hb hby d4_4) rfl gk) ?_
  show Go _ _ _ _ s₁ (mkF m 5 #[.val (.long pv), .second, .val (.int (128 : Int32))] [(.long pv)])
  refine Go.by (fun _ gk => X0.ldc2J hx hown (mvT hZ (hw _ (List.mem_of_getElem? (i := 20) rfl))) (g := (mkF m 5 #[.val (.long pv), .second, .val (.int (128 : Int32))] [(.long pv)])) rfl (hb hby d4_5) gk) ?_
  show Go _ _ _ _ s₁ (mkF m 8 #[.val (.long pv), .second, .val (.int (128 : Int32))] [(.long (-128 : Int64)), (.long pv)])
  refine Go.by (fun _ gk => XT.lcmp X0.here hx rfl (hb hby d4_8) rfl gk) ?_
  show Go _ _ _ _ s₁ (mkF m 9 #[.val (.long pv), .second, .val (.int (128 : Int32))] [(.int (XT.cmpL pv (-128 : Int64)))])
  by_cases hb1 : pv < (-128 : Int64)
  · refine Go.by (fun _ gk => XS.ifYes X0.here hx rfl (pc0 := 9) (pc' := 31) rfl (hb hby d4_9) rfl (XT.ll_lt_t hb1) (by decide) (by decide) gk) ?_
    show Go _ _ _ _ s₁ (mkF m 31 #[.val (.long pv), .second, .val (.int (128 : Int32))] [])
    obtain ⟨b, g2⟩ : ∃ z, z = h0.size := ⟨_, rfl⟩
    have ge_b : n0 ≤ b := Nat.le_trans Z0 (Nat.le_of_eq g2.symm)
    have sz_b : h0.size ≤ b := Nat.le_trans (Keep.refl h0 []).1 (Nat.le_of_eq g2.symm)
    obtain ⟨T2, h2, X2, e2, E2, A2, D2, -, st2⟩ := newO X0 hx hZ hown (hw _ (List.mem_of_getElem? (i := 36) rfl)) (hw _ (List.mem_of_getElem? (i := 37) rfl)) (hw _ (List.mem_of_getElem? (i := 18) rfl)) e0 (g := (mkF m 31 #[.val (.long pv), .second, .val (.int (128 : Int32))] [])) rfl (hb hby d4_31) (by decide) (by decide)
    rw [← g2] at A2 D2 st2
    have F_value_b : Fld Z h2 b "java/lang/Long" "value" "J" (.long (0 : Int64)) := D2 (Or.inr (hw _ (List.mem_of_getElem? (i := 50) rfl))) (ty := .long) (by decide)
    refine Go.by st2 ?_
    show Go _ _ _ _ T2 (mkF m 34 #[.val (.long pv), .second, .val (.int (128 : Int32))] [(.ref b)])
    refine Go.by (fun _ gk => XS.dup X2.here hx rfl (hb hby d4_34) rfl rfl gk) ?_
    show Go _ _ _ _ T2 (mkF m 35 #[.val (.long pv), .second, .val (.int (128 : Int32))] [(.ref b), (.ref b)])
    refine Go.by (fun _ gk => XT.lloadN X2.here hx rfl (hb hby d4_35) rfl gk) ?_
    show Go _ _ _ _ T2 (mkF m 36 #[.val (.long pv), .second, .val (.int (128 : Int32))] [(.long pv), (.ref b), (.ref b)])
    have F3 : n0 ≤ h2.size := Nat.le_trans Z0 E2.1
    obtain ⟨_, _, ⟨T4, L4, k4, n4⟩, -, X4, ⟨Lc4, hQ4, l4, y4, z4⟩, st4⟩ := X2.specialBack hx (y := (⟨"java/lang/Long", "<init>", "(J)V"⟩ : MethodName)) rfl hown (mvT hZ (hw _ (List.mem_of_getElem? (i := 38) rfl))) (mvT hZ (hw _ (List.mem_of_getElem? (i := 39) rfl))) (mvT hZ (hw _ (List.mem_of_getElem? (i := 41) rfl))) (by decide) (backOf (W := 1) (rmBoxJ l Z a0 hw [] b pv (.long (0 : Int64)) h2 n0 F3 A2 F_value_b ge_b) hZ (hw _ (List.mem_of_getElem? (i := 41) rfl)) (hw _ (List.mem_of_getElem? (i := 18) rfl)) (by decide) (by decide)) (g := (mkF m 36 #[.val (.long pv), .second, .val (.int (128 : Int32))] [(.long pv), (.ref b), (.ref b)])) rfl (by rw [hml]; rfl) (Steps.refl _) (a := b) (argsL := [(.long pv)]) (rest := [(.ref b)]) (lenOf pd_52 rfl) rfl (by show 2 * 0 + _ ≤ _; exact Nat.le_of_eq rfl) (hb hby d4_36) (fun _ _ => ⟨rfl, e2, (by decide : 1 + 0 ≤ _), (by decide : 1 + 0 ≤ _)⟩)
    dsimp only [Pt.U, Pt.locs, Pt.cells, Pt.slots] at X4 l4 y4 z4 st4 hQ4
    subst l4 y4 z4
    obtain ⟨rfl, N4q, K4, Q4_0, Q4_1⟩ := hQ4
    have N4 := Fr.app N0 N4q
    refine Go.to st4 ?_
    show Go _ _ _ _ T4 (mkF m 39 #[.val (.long pv), .second, .val (.int (128 : Int32))] [(.ref b)])
    have F5 : Keep h0 h2 [] := (Keep.refl h0 []).ext E2
    have F6 : Keep h0 T4.heap [] := F5.trans K4 (allS (Or.inr sz_b) all0)
    exact Go.retA X4 hx Bd.notSynchronized Bd.returns rfl rfl (hb hby d4_39) ⟨b, rfl, N4, F6, Q4_0⟩ (by decide) (by decide)
  · refine Go.by (fun _ gk => XS.ifNo X0.here hx rfl (hb hby d4_9) rfl (XT.ll_lt_f hb1) gk) ?_
    show Go _ _ _ _ s₁ (mkF m 12 #[.val (.long pv), .second, .val (.int (128 : Int32))] [])
    refine Go.by (fun _ gk => XT.lloadN X0.here hx rfl (hb hby d4_12) rfl gk) ?_
    show Go _ _ _ _ s₁ (mkF m 13 #[.val (.long pv), .second, .val (.int (128 : Int32))] [(.long pv)])
    refine Go.by (fun _ gk => X0.ldc2J hx hown (mvT hZ (hw _ (List.mem_of_getElem? (i := 21) rfl))) (g := (mkF m 13 #[.val (.long pv), .second, .val (.int (128 : Int32))] [(.long pv)])) rfl (hb hby d4_13) gk) ?_
    show Go _ _ _ _ s₁ (mkF m 16 #[.val (.long pv), .second, .val (.int (128 : Int32))] [(.long (127 : Int64)), (.long pv)])
    refine Go.by (fun _ gk => XT.lcmp X0.here hx rfl (hb hby d4_16) rfl gk) ?_
    show Go _ _ _ _ s₁ (mkF m 17 #[.val (.long pv), .second, .val (.int (128 : Int32))] [(.int (XT.cmpL pv (127 : Int64)))])
    by_cases hb7 : (127 : Int64) < pv
    · refine Go.by (fun _ gk => XS.ifYes X0.here hx rfl (pc0 := 17) (pc' := 31) rfl (hb hby d4_17) rfl (XT.ll_gt_t hb7) (by decide) (by decide) gk) ?_
      show Go _ _ _ _ s₁ (mkF m 31 #[.val (.long pv), .second, .val (.int (128 : Int32))] [])
      obtain ⟨b, g8⟩ : ∃ z, z = h0.size := ⟨_, rfl⟩
      have ge_b : n0 ≤ b := Nat.le_trans Z0 (Nat.le_of_eq g8.symm)
      have sz_b : h0.size ≤ b := Nat.le_trans (Keep.refl h0 []).1 (Nat.le_of_eq g8.symm)
      obtain ⟨T8, h8, X8, e8, E8, A8, D8, -, st8⟩ := newO X0 hx hZ hown (hw _ (List.mem_of_getElem? (i := 36) rfl)) (hw _ (List.mem_of_getElem? (i := 37) rfl)) (hw _ (List.mem_of_getElem? (i := 18) rfl)) e0 (g := (mkF m 31 #[.val (.long pv), .second, .val (.int (128 : Int32))] [])) rfl (hb hby d4_31) (by decide) (by decide)
      rw [← g8] at A8 D8 st8
      have F_value_b : Fld Z h8 b "java/lang/Long" "value" "J" (.long (0 : Int64)) := D8 (Or.inr (hw _ (List.mem_of_getElem? (i := 50) rfl))) (ty := .long) (by decide)
      refine Go.by st8 ?_
      show Go _ _ _ _ T8 (mkF m 34 #[.val (.long pv), .second, .val (.int (128 : Int32))] [(.ref b)])
      refine Go.by (fun _ gk => XS.dup X8.here hx rfl (hb hby d4_34) rfl rfl gk) ?_
      show Go _ _ _ _ T8 (mkF m 35 #[.val (.long pv), .second, .val (.int (128 : Int32))] [(.ref b), (.ref b)])
      refine Go.by (fun _ gk => XT.lloadN X8.here hx rfl (hb hby d4_35) rfl gk) ?_
      show Go _ _ _ _ T8 (mkF m 36 #[.val (.long pv), .second, .val (.int (128 : Int32))] [(.long pv), (.ref b), (.ref b)])
      have F9 : n0 ≤ h8.size := Nat.le_trans Z0 E8.1
      obtain ⟨_, _, ⟨T10, L10, k10, n10⟩, -, X10, ⟨Lc10, hQ10, l10, y10, z10⟩, st10⟩ := X8.specialBack hx (y := (⟨"java/lang/Long", "<init>", "(J)V"⟩ : MethodName)) rfl hown (mvT hZ (hw _ (List.mem_of_getElem? (i := 38) rfl))) (mvT hZ (hw _ (List.mem_of_getElem? (i := 39) rfl))) (mvT hZ (hw _ (List.mem_of_getElem? (i := 41) rfl))) (by decide) (backOf (W := 1) (rmBoxJ l Z a0 hw [] b pv (.long (0 : Int64)) h8 n0 F9 A8 F_value_b ge_b) hZ (hw _ (List.mem_of_getElem? (i := 41) rfl)) (hw _ (List.mem_of_getElem? (i := 18) rfl)) (by decide) (by decide)) (g := (mkF m 36 #[.val (.long pv), .second, .val (.int (128 : Int32))] [(.long pv), (.ref b), (.ref b)])) rfl (by rw [hml]; rfl) (Steps.refl _) (a := b) (argsL := [(.long pv)]) (rest := [(.ref b)]) (lenOf pd_52 rfl) rfl (by show 2 * 0 + _ ≤ _; exact Nat.le_of_eq rfl) (hb hby d4_36) (fun _ _ => ⟨rfl, e8, (by decide : 1 + 0 ≤ _), (by decide : 1 + 0 ≤ _)⟩)
      dsimp only [Pt.U, Pt.locs, Pt.cells, Pt.slots] at X10 l10 y10 z10 st10 hQ10
      subst l10 y10 z10
      obtain ⟨rfl, N10q, K10, Q10_0, Q10_1⟩ := hQ10
      have N10 := Fr.app N0 N10q
      refine Go.to st10 ?_
      show Go _ _ _ _ T10 (mkF m 39 #[.val (.long pv), .second, .val (.int (128 : Int32))] [(.ref b)])
      have F11 : Keep h0 h8 [] := (Keep.refl h0 []).ext E8
      have F12 : Keep h0 T10.heap [] := F11.trans K10 (allS (Or.inr sz_b) all0)
      exact Go.retA X10 hx Bd.notSynchronized Bd.returns rfl rfl (hb hby d4_39) ⟨b, rfl, N10, F12, Q10_0⟩ (by decide) (by decide)
    · refine Go.by (fun _ gk => XS.ifNo X0.here hx rfl (hb hby d4_17) rfl (XT.ll_gt_f hb7) gk) ?_
      show Go _ _ _ _ s₁ (mkF m 20 #[.val (.long pv), .second, .val (.int (128 : Int32))] [])
      have F13 : Sta Z h0 "java/lang/Long$LongCache" "cache" "[Ljava/lang/Long;" (.ref caJ) := S_cacheJ.ext O0.2
      obtain ⟨T14, X14, e14, st14⟩ := getS2 X0 hx hZ hown (host := "") (Or.inl (hw _ (List.mem_of_getElem? (i := 22) rfl))) Via.refl e0 F13 (g := (mkF m 20 #[.val (.long pv), .second, .val (.int (128 : Int32))] [])) rfl (hb hby d4_20)
      refine Go.by st14 ?_
      show Go _ _ _ _ T14 (mkF m 23 #[.val (.long pv), .second, .val (.int (128 : Int32))] [(.ref caJ)])
      refine Go.by (fun _ gk => XT.lloadN X14.here hx rfl (hb hby d4_23) rfl gk) ?_
      show Go _ _ _ _ T14 (mkF m 24 #[.val (.long pv), .second, .val (.int (128 : Int32))] [(.long pv), (.ref caJ)])
      refine Go.by (fun _ gk => XT.l2i X14.here hx rfl (hb hby d4_24) rfl gk) ?_
      show Go _ _ _ _ T14 (mkF m 25 #[.val (.long pv), .second, .val (.int (128 : Int32))] [(.int (pv.toInt32)), (.ref caJ)])
      refine Go.by (fun _ gk => XT.sipushV X14.here hx rfl (128 : Int32) (hb hby d4_25) (by decide) gk) ?_
      show Go _ _ _ _ T14 (mkF m 28 #[.val (.long pv), .second, .val (.int (128 : Int32))] [(.int (128 : Int32)), (.int (pv.toInt32)), (.ref caJ)])
      refine Go.by (fun _ gk => XS.iadd X14.here hx rfl (hb hby d4_28) rfl gk) ?_
      show Go _ _ _ _ T14 (mkF m 29 #[.val (.long pv), .second, .val (.int (128 : Int32))] [(.int ((pv.toInt32) + (128 : Int32))), (.ref caJ)])
      have hj := own_boxinJ hb1 hb7
      obtain ⟨Ar, Sz, Nz⟩ := B_J.ext O0.2
      have hin := inb_of Sz hj
      obtain ⟨b, hat, Eb, Fb⟩ := B_J.2.2.2 _ hin
      refine Go.by (fun _ gk => X14.aaload hx (j := (pv.toInt32) + (128 : Int32)) (v := .ref b) (by rw [e14]; exact Ar.1) (State.isArrayOf_alike hZ.alike Ar.2.1) rfl Ar.2.2 hin hat (g := (mkF m 29 #[.val (.long pv), .second, .val (.int (128 : Int32))] [(.int ((pv.toInt32) + (128 : Int32))), (.ref caJ)])) rfl rfl (hb hby d4_29) _ gk) ?_
      show Go _ _ _ _ T14 (mkF m 30 #[.val (.long pv), .second, .val (.int (128 : Int32))] [(.ref b)])
      have F15 : Exa Z h0 b "java/lang/Long" := Eb.ext O0.2
      exact Go.retA X14 hx Bd.notSynchronized Bd.returns rfl rfl (hb hby d4_30) (by rw [e14]; exact ⟨b, rfl, N0, (Keep.refl h0 []), F15⟩) (by decide) (by decide)
theorem pn_66 : plainName "com/example/attache/attache/PendingKey" = true := by first | (simp [plainName, overriddenIn]; done) | decide +kernel
theorem d1_0 : decode prog_1_method_1_code 0 = .ok (.aload_n 0, 1) := by decide +kernel
theorem d1_1 : decode prog_1_method_1_code 1 = .ok (.invokespecial 1, 3) := by decide +kernel
theorem d1_4 : decode prog_1_method_1_code 4 = .ok (.return_, 1) := by decide +kernel
def Q_rmPinit (Z : State) (a : Addr) (h0 : Heap) (n0 : Nat) (v : Option Value) (h : Heap) (L : List Loc) : Prop := v = none ∧ Fr n0 L ∧ h = h0
set_option maxRecDepth 65536 in
set_option maxHeartbeats 40000000 in
theorem rmPinit (l : Launch) (Z : State) (a0 : Array Value) (hw : ∀ d ∈ tables_1, d.before a0 Z = true) (ws : List Jvm.Cond) (a : Addr) (h0 : Heap) (n0 : Nat) (Z0 : n0 ≤ h0.size)  :
    MetFree l (⟨"com/example/attache/attache/PendingKey", "<init>", "()V"⟩ : MethodName) (head1 (Jvm.Cond.code (⟨"com/example/attache/attache/PendingKey", "<init>", "()V"⟩ : MethodName) prog_1_method_1_code 1 none :: ws) ({ frames := 1, cells := 0, slots := 0, locals := 12 } : Room)) (fun as' U => as' = #[(.ref a)] ∧ Z.Warmed39 U.vm ∧ U.heap = h0) (fun _ _ _ _ _ => True) (fun _ U o U' => ∃ v L, o = .returned v ∧ Q_rmPinit Z a h0 n0 v U'.heap L ∧ FrameEnd U o U' L ({ frames := 1, cells := 0, slots := 0, locals := 12 } : Room).cells ({ frames := 1, cells := 0, slots := 0, locals := 12 } : Room).slots) := by
  refine MetFree.of_bodySF (plainFor_of_name pn_66) hisR ?_
  intro p e s m args below meth c s₁ Bd hml0 hP hK
  obtain ⟨rfl, hZ, hh⟩ := hP
  have hx := Bd.exec
  have hby := Bd.bytes
  have hml : c.maxLocals = 1 := hml0
  have hown : s.vm.findClass "com/example/attache/attache/PendingKey" = some m.cls := findClass_of_methodNamed Bd.named
  have hnm := (name_of_methodNamed Bd.named Bd.method).1
  have X0 : Stand p l e ({ frames := 1, cells := 0, slots := 0, locals := 12 } : Room) s m #[(.ref a)] below meth c s₁ [] 0 0 := Stand.of_body Bd
  have e0 : s₁.heap = h0 := by rw [← hh, Bd.state]; rfl
  have N0 := Fr.nil n0
  refine Go.enter (F := EndN s (Q_rmPinit Z a h0 n0) ({ frames := 1, cells := 0, slots := 0, locals := 12 } : Room).cells ({ frames := 1, cells := 0, slots := 0, locals := 12 } : Room).slots) (ef_2 m a) ?_
  show Go _ _ _ _ s₁ (mkF m 0 #[.val (.ref a)] [])
  refine Go.by (fun _ gk => XS.aloadN X0.here hx rfl (hb hby d1_0) rfl rfl gk) ?_
  show Go _ _ _ _ s₁ (mkF m 1 #[.val (.ref a)] [(.ref a)])
  obtain ⟨T1, X1, e1, st1⟩ := initO X0 hx hZ hown (hw _ (List.mem_of_getElem? (i := 6) rfl)) (hw _ (List.mem_of_getElem? (i := 7) rfl)) (hw _ (List.mem_of_getElem? (i := 8) rfl)) e0 (g := (mkF m 1 #[.val (.ref a)] [(.ref a)])) rfl (by rw [hml]; rfl) rfl (hb hby d1_1) (by decide) (W := 0) (by show 2 * 0 + _ ≤ _; exact Nat.le_of_eq rfl) (by decide)
  refine Go.by st1 ?_
  show Go _ _ _ _ T1 (mkF m 4 #[.val (.ref a)] [])
  exact Go.retV X1 hx Bd.notSynchronized Bd.returns (hb hby d1_4) (by rw [e1]; exact ⟨rfl, N0, rfl⟩) (by decide) (by decide)
theorem ef_70 (m : MethodId) (x0 : Addr) (x1 : Addr) : entryFrame m #[(.ref x0), (.ref x1)] 2 = mkF m 0 #[.val (.ref x0), .val (.ref x1)] [] := by (first | (simp [entryFrame, mkF, argsToLocals, Value.category]; done) | rfl)
theorem d5_0 : decode prog_1_method_3_code 0 = .ok (.aload_n 0, 1) := by decide +kernel
theorem d5_1 : decode prog_1_method_3_code 1 = .ok (.aload_n 1, 1) := by decide +kernel
theorem d5_2 : decode prog_1_method_3_code 2 = .ok (.putfield 7, 3) := by decide +kernel
theorem d5_5 : decode prog_1_method_3_code 5 = .ok (.return_, 1) := by decide +kernel
def Q_rmPut (Z : State) (a : Addr) (b : Addr) (u : Value) (h0 : Heap) (n0 : Nat) (v : Option Value) (h : Heap) (L : List Loc) : Prop := v = none ∧ Fr n0 L ∧ Keep h0 h [a] ∧ Exa Z h a "com/example/attache/attache/PendingKey" ∧ Fld Z h a "com/example/attache/attache/PendingKey" "generated" "Ljava/lang/Object;" (.ref b)
set_option maxRecDepth 65536 in
set_option maxHeartbeats 40000000 in
theorem rmPut (l : Launch) (Z : State) (a0 : Array Value) (hw : ∀ d ∈ tables_1, d.before a0 Z = true) (ws : List Jvm.Cond) (a : Addr) (b : Addr) (u : Value) (h0 : Heap) (n0 : Nat) (Z0 : n0 ≤ h0.size) (E_a : Exa Z h0 a "com/example/attache/attache/PendingKey") (F_a_generated : Fld Z h0 a "com/example/attache/attache/PendingKey" "generated" "Ljava/lang/Object;" u) (g_a : n0 ≤ a) :
    MetFree l (⟨"com/example/attache/attache/PendingKey", "generated", "(Ljava/lang/Object;)V"⟩ : MethodName) (head1 (Jvm.Cond.code (⟨"com/example/attache/attache/PendingKey", "generated", "(Ljava/lang/Object;)V"⟩ : MethodName) prog_1_method_3_code 2 none :: ws) ({ frames := 0, cells := 0, slots := 0, locals := 0 } : Room)) (fun as' U => as' = #[(.ref a), (.ref b)] ∧ Z.Warmed39 U.vm ∧ U.heap = h0) (fun _ _ _ _ _ => True) (fun _ U o U' => ∃ v L, o = .returned v ∧ Q_rmPut Z a b u h0 n0 v U'.heap L ∧ FrameEnd U o U' L ({ frames := 0, cells := 0, slots := 0, locals := 0 } : Room).cells ({ frames := 0, cells := 0, slots := 0, locals := 0 } : Room).slots) := by
  refine MetFree.of_bodySF (plainFor_of_name pn_66) hisR ?_
  intro p e s m args below meth c s₁ Bd hml0 hP hK
  obtain ⟨rfl, hZ, hh⟩ := hP
  have hx := Bd.exec
  have hby := Bd.bytes
  have hml : c.maxLocals = 2 := hml0
  have hown : s.vm.findClass "com/example/attache/attache/PendingKey" = some m.cls := findClass_of_methodNamed Bd.named
  have hnm := (name_of_methodNamed Bd.named Bd.method).1
  have X0 : Stand p l e ({ frames := 0, cells := 0, slots := 0, locals := 0 } : Room) s m #[(.ref a), (.ref b)] below meth c s₁ [] 0 0 := Stand.of_body Bd
  have e0 : s₁.heap = h0 := by rw [← hh, Bd.state]; rfl
  have N0 := Fr.nil n0
  refine Go.enter (F := EndN s (Q_rmPut Z a b u h0 n0) ({ frames := 0, cells := 0, slots := 0, locals := 0 } : Room).cells ({ frames := 0, cells := 0, slots := 0, locals := 0 } : Room).slots) (ef_70 m a b) ?_
  show Go _ _ _ _ s₁ (mkF m 0 #[.val (.ref a), .val (.ref b)] [])
  refine Go.by (fun _ gk => XS.aloadN X0.here hx rfl (hb hby d5_0) rfl rfl gk) ?_
  show Go _ _ _ _ s₁ (mkF m 1 #[.val (.ref a), .val (.ref b)] [(.ref a)])
  refine Go.by (fun _ gk => XS.aloadN X0.here hx rfl (hb hby d5_1) rfl rfl gk) ?_
  show Go _ _ _ _ s₁ (mkF m 2 #[.val (.ref a), .val (.ref b)] [(.ref b), (.ref a)])
  obtain ⟨T1, h1, X1, e1, W1, st1⟩ := putF X0 hx hZ hown (host := "") (Or.inl (hw _ (List.mem_of_getElem? (i := 29) rfl))) Via.refl e0 F_a_generated E_a (Or.inl (hw _ (List.mem_of_getElem? (i := 30) rfl))) (hw _ (List.mem_of_getElem? (i := 1) rfl)) (ty := (.object "java/lang/Object")) (by decide) rfl rfl (g := (mkF m 2 #[.val (.ref a), .val (.ref b)] [(.ref b), (.ref a)])) rfl rfl (hb hby d5_2)
  have N1 := Fr.snoc X1 N0 g_a
  have Fw1 : Fld Z h1 a "com/example/attache/attache/PendingKey" "generated" "Ljava/lang/Object;" (.ref b) := F_a_generated.same W1
  refine Go.by st1 ?_
  show Go _ _ _ _ T1 (mkF m 5 #[.val (.ref a), .val (.ref b)] [])
  have F2 : Keep h0 h1 [a] := (Keep.refl h0 [a]).wr W1 (Or.inl (List.mem_of_getElem? (i := 0) rfl))
  have F3 : Exa Z h1 a "com/example/attache/attache/PendingKey" := E_a.wr W1
  exact Go.retV X1 hx Bd.notSynchronized Bd.returns (hb hby d5_5) (by rw [e1]; exact ⟨rfl, N1, F2, F3, Fw1⟩) (by decide) (by decide)
theorem d6_0 : decode prog_1_method_2_code 0 = .ok (.aload_n 0, 1) := by decide +kernel
theorem d6_1 : decode prog_1_method_2_code 1 = .ok (.getfield 7, 3) := by decide +kernel
theorem d6_4 : decode prog_1_method_2_code 4 = .ok (.ifnonnull 13, 3) := by decide +kernel
theorem d6_17 : decode prog_1_method_2_code 17 = .ok (.aload_n 0, 1) := by decide +kernel
theorem d6_18 : decode prog_1_method_2_code 18 = .ok (.getfield 7, 3) := by decide +kernel
theorem d6_21 : decode prog_1_method_2_code 21 = .ok (.areturn, 1) := by decide +kernel
def Q_rmGet (Z : State) (a : Addr) (b : Addr) (h0 : Heap) (n0 : Nat) (v : Option Value) (h : Heap) (L : List Loc) : Prop := v = some (.ref b) ∧ Fr n0 L ∧ h = h0
set_option maxRecDepth 65536 in
set_option maxHeartbeats 40000000 in
theorem rmGet (l : Launch) (Z : State) (a0 : Array Value) (hw : ∀ d ∈ tables_1, d.before a0 Z = true) (ws : List Jvm.Cond) (a : Addr) (b : Addr) (h0 : Heap) (n0 : Nat) (Z0 : n0 ≤ h0.size) (F_a_generated : Fld Z h0 a "com/example/attache/attache/PendingKey" "generated" "Ljava/lang/Object;" (.ref b)) :
    MetFree l (⟨"com/example/attache/attache/PendingKey", "generated", "()Ljava/lang/Object;"⟩ : MethodName) (head1 (Jvm.Cond.code (⟨"com/example/attache/attache/PendingKey", "generated", "()Ljava/lang/Object;"⟩ : MethodName) prog_1_method_2_code 1 (some (.object "java/lang/Object")) :: ws) ({ frames := 0, cells := 0, slots := 0, locals := 0 } : Room)) (fun as' U => as' = #[(.ref a)] ∧ Z.Warmed39 U.vm ∧ U.heap = h0) (fun _ _ _ _ _ => True) (fun _ U o U' => ∃ v L, o = .returned v ∧ Q_rmGet Z a b h0 n0 v U'.heap L ∧ FrameEnd U o U' L ({ frames := 0, cells := 0, slots := 0, locals := 0 } : Room).cells ({ frames := 0, cells := 0, slots := 0, locals := 0 } : Room).slots) := by
  refine MetFree.of_bodySF (plainFor_of_name pn_66) hisR ?_
  intro p e s m args below meth c s₁ Bd hml0 hP hK
  obtain ⟨rfl, hZ, hh⟩ := hP
  have hx := Bd.exec
  have hby := Bd.bytes
  have hml : c.maxLocals = 1 := hml0
  have hown : s.vm.findClass "com/example/attache/attache/PendingKey" = some m.cls := findClass_of_methodNamed Bd.named
  have hnm := (name_of_methodNamed Bd.named Bd.method).1
  have X0 : Stand p l e ({ frames := 0, cells := 0, slots := 0, locals := 0 } : Room) s m #[(.ref a)] below meth c s₁ [] 0 0 := Stand.of_body Bd
  have e0 : s₁.heap = h0 := by rw [← hh, Bd.state]; rfl
  have N0 := Fr.nil n0
  refine Go.enter (F := EndN s (Q_rmGet Z a b h0 n0) ({ frames := 0, cells := 0, slots := 0, locals := 0 } : Room).cells ({ frames := 0, cells := 0, slots := 0, locals := 0 } : Room).slots) (ef_2 m a) ?_
  show Go _ _ _ _ s₁ (mkF m 0 #[.val (.ref a)] [])
  refine Go.by (fun _ gk => XS.aloadN X0.here hx rfl (hb hby d6_0) rfl rfl gk) ?_
  show Go _ _ _ _ s₁ (mkF m 1 #[.val (.ref a)] [(.ref a)])
  obtain ⟨T1, X1, e1, st1⟩ := getF X0 hx hZ hown (host := "") (Or.inl (hw _ (List.mem_of_getElem? (i := 29) rfl))) Via.refl e0 F_a_generated (g := (mkF m 1 #[.val (.ref a)] [(.ref a)])) rfl rfl (hb hby d6_1)
  refine Go.by st1 ?_
  show Go _ _ _ _ T1 (mkF m 4 #[.val (.ref a)] [(.ref b)])
  refine Go.by (fun _ gk => XT.nonnullYes X1.here hx rfl (pc0 := 4) (pc' := 17) rfl (hb hby d6_4) rfl rfl nofun (by decide) (by decide) gk) ?_
  show Go _ _ _ _ T1 (mkF m 17 #[.val (.ref a)] [])
  refine Go.by (fun _ gk => XS.aloadN X1.here hx rfl (hb hby d6_17) rfl rfl gk) ?_
  show Go _ _ _ _ T1 (mkF m 18 #[.val (.ref a)] [(.ref a)])
  obtain ⟨T2, X2, e2, st2⟩ := getF X1 hx hZ hown (host := "") (Or.inl (hw _ (List.mem_of_getElem? (i := 29) rfl))) Via.refl e1 F_a_generated (g := (mkF m 18 #[.val (.ref a)] [(.ref a)])) rfl rfl (hb hby d6_18)
  refine Go.by st2 ?_
  show Go _ _ _ _ T2 (mkF m 21 #[.val (.ref a)] [(.ref b)])
  exact Go.retA X2 hx Bd.notSynchronized Bd.returns rfl rfl (hb hby d6_21) (by rw [e2]; exact ⟨rfl, N0, rfl⟩) (by decide) (by decide)
theorem pn_81 : plainName "com/example/attache/attache/PendingKeyGeneratedPinLaw" = true := by first | (simp [plainName, overriddenIn]; done) | decide +kernel
theorem ef_82 (m : MethodId) (x0 : Int32) (x1 : Int64) (x2 : Int32) : entryFrame m #[(.int x0), (.long x1), (.int x2)] 11 = mkF m 0 #[.val (.int x0), .val (.long x1), .second, .val (.int x2), .unset, .unset, .unset, .unset, .unset, .unset, .unset] [] := by (first | (simp [entryFrame, mkF, argsToLocals, Value.category]; done) | rfl)
theorem pd_83 : parseMethodDescriptor "(I)Ljava/lang/Integer;" = some ⟨[.int], some (.object "java/lang/Integer")⟩ := by decide +kernel
theorem pd_84 : parseMethodDescriptor "(J)Ljava/lang/Long;" = some ⟨[.long], some (.object "java/lang/Long")⟩ := by decide +kernel
theorem pd_85 : parseMethodDescriptor "(Ljava/lang/Object;)V" = some ⟨[(.object "java/lang/Object")], none⟩ := by decide +kernel
theorem pd_86 : parseMethodDescriptor "()Ljava/lang/Object;" = some ⟨[], some (.object "java/lang/Object")⟩ := by decide +kernel
def Q_rm0 (Z : State) (p0 : Int32) (p1 : Int64) (p2 : Int32) (caI : Addr) (ccI : Cell) (caJ : Addr) (ccJ : Cell) (h0 : Heap) (n0 : Nat) (v : Option Value) (h : Heap) (L : List Loc) : Prop := v = some (.int 1) ∧ Fr n0 L
set_option maxRecDepth 65536 in
set_option maxHeartbeats 40000000 in
theorem rm0 (l : Launch) (Z : State) (a0 : Array Value) (hw : ∀ d ∈ tables_1, d.before a0 Z = true) (ws : List Jvm.Cond) (p0 : Int32) (p1 : Int64) (p2 : Int32) (caI : Addr) (ccI : Cell) (caJ : Addr) (ccJ : Cell) (h0 : Heap) (n0 : Nat) (Z0 : n0 ≤ h0.size) (O0 : Old Z n0 h0) (S_cacheI : Sta Z Z.heap "java/lang/Integer$IntegerCache" "cache" "[Ljava/lang/Integer;" (.ref caI)) (B_I : Bxs Z caI ccI "java/lang/Integer" "I" 256 (fun j => .int (j - 128))) (S_high : Sta Z Z.heap "java/lang/Integer$IntegerCache" "high" "I" (.int 127)) (S_cacheJ : Sta Z Z.heap "java/lang/Long$LongCache" "cache" "[Ljava/lang/Long;" (.ref caJ)) (B_J : Bxs Z caJ ccJ "java/lang/Long" "J" 256 (fun j => .long (j - 128).toInt64)) :
    MetFree l x (head1 (Jvm.Cond.code x code maxLocals ret :: ws) room_1) (fun as' U => as' = #[(.int p0), (.long p1), (.int p2)] ∧ Z.Warmed39 U.vm ∧ U.heap = h0) (fun _ _ _ _ _ => True) (fun _ U o U' => ∃ v L, o = .returned v ∧ Q_rm0 Z p0 p1 p2 caI ccI caJ ccJ h0 n0 v U'.heap L ∧ FrameEnd U o U' L 3 3) := by
  refine MetFree.of_bodySF (plainFor_of_name pn_81) hisR ?_
  intro p e s m args below meth c s₁ Bd hml0 hP hK
  obtain ⟨rfl, hZ, hh⟩ := hP
  have hx := Bd.exec
  have hby := Bd.bytes
  have hml : c.maxLocals = 11 := hml0
  have hown : s.vm.findClass "com/example/attache/attache/PendingKeyGeneratedPinLaw" = some m.cls := findClass_of_methodNamed Bd.named
  have hnm := (name_of_methodNamed Bd.named Bd.method).1
  have X0 : Stand p l e room_1 s m #[(.int p0), (.long p1), (.int p2)] below meth c s₁ [] 0 0 := Stand.of_body Bd
  have e0 : s₁.heap = h0 := by rw [← hh, Bd.state]; rfl
  have N0 := Fr.nil n0
  refine Go.enter (F := EndN s (Q_rm0 Z p0 p1 p2 caI ccI caJ ccJ h0 n0) 3 3) (ef_82 m p0 p1 p2) ?_
  show Go _ _ _ _ s₁ (mkF m 0 #[.val (.int p0), .val (.long p1), .second, .val (.int p2), .unset, .unset, .unset, .unset, .unset, .unset, .unset] [])
  obtain ⟨k, g1⟩ : ∃ z, z = h0.size := ⟨_, rfl⟩
  have ge_k : n0 ≤ k := Nat.le_trans Z0 (Nat.le_of_eq g1.symm)
  have sz_k : h0.size ≤ k := Nat.le_trans (Keep.refl h0 []).1 (Nat.le_of_eq g1.symm)
  obtain ⟨T1, h1, X1, e1, E1, A1, D1, -, st1⟩ := newO X0 hx hZ hown (hw _ (List.mem_of_getElem? (i := 0) rfl)) (hw _ (List.mem_of_getElem? (i := 1) rfl)) (hw _ (List.mem_of_getElem? (i := 2) rfl)) e0 (g := (mkF m 0 #[.val (.int p0), .val (.long p1), .second, .val (.int p2), .unset, .unset, .unset, .unset, .unset, .unset, .unset] [])) rfl (hb hby at_0) (by decide) (by decide)
  rw [← g1] at A1 D1 st1
  have F_generated_k : Fld Z h1 k "com/example/attache/attache/PendingKey" "generated" "Ljava/lang/Object;" .null := D1 (Or.inl (hw _ (List.mem_of_getElem? (i := 30) rfl))) (ty := (.object "java/lang/Object")) (by decide)
  refine Go.by st1 ?_
  show Go _ _ _ _ T1 (mkF m 3 #[.val (.int p0), .val (.long p1), .second, .val (.int p2), .unset, .unset, .unset, .unset, .unset, .unset, .unset] [(.ref k)])
  refine Go.by (fun _ gk => XS.dup X1.here hx rfl (hb hby at_3) rfl rfl gk) ?_
  show Go _ _ _ _ T1 (mkF m 4 #[.val (.int p0), .val (.long p1), .second, .val (.int p2), .unset, .unset, .unset, .unset, .unset, .unset, .unset] [(.ref k), (.ref k)])
  have F2 : n0 ≤ h1.size := Nat.le_trans Z0 E1.1
  obtain ⟨_, _, ⟨T3, L3, k3, n3⟩, -, X3, ⟨Lc3, hQ3, l3, y3, z3⟩, st3⟩ := X1.specialBack hx (y := (⟨"com/example/attache/attache/PendingKey", "<init>", "()V"⟩ : MethodName)) rfl hown (mvT hZ (hw _ (List.mem_of_getElem? (i := 3) rfl))) (mvT hZ (hw _ (List.mem_of_getElem? (i := 4) rfl))) (mvT hZ (hw _ (List.mem_of_getElem? (i := 5) rfl))) (by decide) (backOf (W := 1) (rmPinit l Z a0 hw [] k h1 n0 F2 ) hZ (hw _ (List.mem_of_getElem? (i := 5) rfl)) (hw _ (List.mem_of_getElem? (i := 2) rfl)) (by decide) (by decide)) (g := (mkF m 4 #[.val (.int p0), .val (.long p1), .second, .val (.int p2), .unset, .unset, .unset, .unset, .unset, .unset, .unset] [(.ref k), (.ref k)])) rfl (by rw [hml]; rfl) (Steps.refl _) (a := k) (argsL := []) (rest := [(.ref k)]) (lenOf pd_9 rfl) rfl (by show 2 * 0 + _ ≤ _; exact Nat.le_of_eq rfl) (hb hby at_4) (fun _ _ => ⟨rfl, e1, (by decide : 1 + 0 ≤ _), (by decide : 1 + 0 ≤ _)⟩)
  dsimp only [Pt.U, Pt.locs, Pt.cells, Pt.slots] at X3 l3 y3 z3 st3 hQ3
  subst l3 y3 z3
  obtain ⟨rfl, N3q, e3⟩ := hQ3
  have N3 := Fr.app N0 N3q
  refine Go.to st3 ?_
  show Go _ _ _ _ T3 (mkF m 7 #[.val (.int p0), .val (.long p1), .second, .val (.int p2), .unset, .unset, .unset, .unset, .unset, .unset, .unset] [(.ref k)])
  refine Go.by (fun _ gk => XS.astore X3.here hx rfl (hb hby at_7) rfl rfl (l' := #[.val (.int p0), .val (.long p1), .second, .val (.int p2), .val (.ref k), .unset, .unset, .unset, .unset, .unset, .unset]) rfl gk) ?_
  show Go _ _ _ _ T3 (mkF m 9 #[.val (.int p0), .val (.long p1), .second, .val (.int p2), .val (.ref k), .unset, .unset, .unset, .unset, .unset, .unset] [])
  refine Go.by (fun _ gk => XS.iloadN X3.here hx rfl (hb hby at_9) rfl gk) ?_
  show Go _ _ _ _ T3 (mkF m 10 #[.val (.int p0), .val (.long p1), .second, .val (.int p2), .val (.ref k), .unset, .unset, .unset, .unset, .unset, .unset] [(.int p0)])
  have F4 : Old Z n0 h1 := O0.ext E1
  obtain ⟨_, _, ⟨T5, L5, k5, n5⟩, -, X5, ⟨Lc5, hQ5, l5, y5, z5⟩, st5⟩ := Jvm.LawKit.callS X3 hx (y := (⟨"java/lang/Integer", "valueOf", "(I)Ljava/lang/Integer;"⟩ : MethodName)) hown (mvT hZ (hw _ (List.mem_of_getElem? (i := 9) rfl))) (mvT hZ (hw _ (List.mem_of_getElem? (i := 10) rfl))) (mvT hZ (hw _ (List.mem_of_getElem? (i := 11) rfl))) (mvT hZ (hw _ (List.mem_of_getElem? (i := 12) rfl))) (by decide) (backOf (W := 0) (rmValueOfI l Z a0 hw [] p0 caI ccI h1 n0 F2 F4 S_cacheI B_I S_high) hZ (hw _ (List.mem_of_getElem? (i := 12) rfl)) (hw _ (List.mem_of_getElem? (i := 11) rfl)) (by decide) (by decide)) (g := (mkF m 10 #[.val (.int p0), .val (.long p1), .second, .val (.int p2), .val (.ref k), .unset, .unset, .unset, .unset, .unset, .unset] [(.int p0)])) rfl (by rw [hml]; rfl) (argsL := [(.int p0)]) (rest := []) (lenOf pd_83 rfl) rfl (by show 2 * 0 + _ ≤ _; exact Nat.le_of_eq rfl) (hb hby at_10) (fun _ _ => ⟨rfl, e3, (by decide : 1 + 1 ≤ _), (by decide : 1 + 1 ≤ _)⟩)
  dsimp only [Pt.U, Pt.locs, Pt.cells, Pt.slots] at X5 l5 y5 z5 st5 hQ5
  subst l5 y5 z5
  obtain ⟨bI, rfl, N5q, K5, Q5_0, Q5_1⟩ := hQ5
  have N5 := Fr.app N3 N5q
  refine Go.by st5 ?_
  show Go _ _ _ _ T5 (mkF m 13 #[.val (.int p0), .val (.long p1), .second, .val (.int p2), .val (.ref k), .unset, .unset, .unset, .unset, .unset, .unset] [(.ref bI)])
  refine Go.by (fun _ gk => XS.astore X5.here hx rfl (hb hby at_13) rfl rfl (l' := #[.val (.int p0), .val (.long p1), .second, .val (.int p2), .val (.ref k), .val (.ref bI), .unset, .unset, .unset, .unset, .unset]) rfl gk) ?_
  show Go _ _ _ _ T5 (mkF m 15 #[.val (.int p0), .val (.long p1), .second, .val (.int p2), .val (.ref k), .val (.ref bI), .unset, .unset, .unset, .unset, .unset] [])
  refine Go.by (fun _ gk => XT.lloadN X5.here hx rfl (hb hby at_15) rfl gk) ?_
  show Go _ _ _ _ T5 (mkF m 16 #[.val (.int p0), .val (.long p1), .second, .val (.int p2), .val (.ref k), .val (.ref bI), .unset, .unset, .unset, .unset, .unset] [(.long p1)])
  have F6 : Old Z n0 T5.heap := F4.keep K5 all0
  have F7 : n0 ≤ T5.heap.size := Nat.le_trans F2 K5.1
  obtain ⟨_, _, ⟨T8, L8, k8, n8⟩, -, X8, ⟨Lc8, hQ8, l8, y8, z8⟩, st8⟩ := Jvm.LawKit.callS X5 hx (y := (⟨"java/lang/Long", "valueOf", "(J)Ljava/lang/Long;"⟩ : MethodName)) hown (mvT hZ (hw _ (List.mem_of_getElem? (i := 16) rfl))) (mvT hZ (hw _ (List.mem_of_getElem? (i := 17) rfl))) (mvT hZ (hw _ (List.mem_of_getElem? (i := 18) rfl))) (mvT hZ (hw _ (List.mem_of_getElem? (i := 19) rfl))) (by decide) (backOf (W := 0) (rmValueOfJ l Z a0 hw [] p1 caJ ccJ T5.heap n0 F7 F6 S_cacheJ B_J) hZ (hw _ (List.mem_of_getElem? (i := 19) rfl)) (hw _ (List.mem_of_getElem? (i := 18) rfl)) (by decide) (by decide)) (g := (mkF m 16 #[.val (.int p0), .val (.long p1), .second, .val (.int p2), .val (.ref k), .val (.ref bI), .unset, .unset, .unset, .unset, .unset] [(.long p1)])) rfl (by rw [hml]; rfl) (argsL := [(.long p1)]) (rest := []) (lenOf pd_84 rfl) rfl (by show 2 * 0 + _ ≤ _; exact Nat.le_of_eq rfl) (hb hby at_16) (fun _ _ => ⟨rfl, rfl, (by decide : 2 + 1 ≤ _), (by decide : 2 + 1 ≤ _)⟩)
  dsimp only [Pt.U, Pt.locs, Pt.cells, Pt.slots] at X8 l8 y8 z8 st8 hQ8
  subst l8 y8 z8
  obtain ⟨bJ, rfl, N8q, K8, Q8_0⟩ := hQ8
  have N8 := Fr.app N5 N8q
  refine Go.by st8 ?_
  show Go _ _ _ _ T8 (mkF m 19 #[.val (.int p0), .val (.long p1), .second, .val (.int p2), .val (.ref k), .val (.ref bI), .unset, .unset, .unset, .unset, .unset] [(.ref bJ)])
  refine Go.by (fun _ gk => XS.astore X8.here hx rfl (hb hby at_19) rfl rfl (l' := #[.val (.int p0), .val (.long p1), .second, .val (.int p2), .val (.ref k), .val (.ref bI), .val (.ref bJ), .unset, .unset, .unset, .unset]) rfl gk) ?_
  show Go _ _ _ _ T8 (mkF m 21 #[.val (.int p0), .val (.long p1), .second, .val (.int p2), .val (.ref k), .val (.ref bI), .val (.ref bJ), .unset, .unset, .unset, .unset] [])
  refine Go.by (fun _ gk => XS.aload X8.here hx rfl (hb hby at_21) rfl rfl gk) ?_
  show Go _ _ _ _ T8 (mkF m 23 #[.val (.int p0), .val (.long p1), .second, .val (.int p2), .val (.ref k), .val (.ref bI), .val (.ref bJ), .unset, .unset, .unset, .unset] [(.ref k)])
  refine Go.by (fun _ gk => XS.aload X8.here hx rfl (hb hby at_23) rfl rfl gk) ?_
  show Go _ _ _ _ T8 (mkF m 25 #[.val (.int p0), .val (.long p1), .second, .val (.int p2), .val (.ref k), .val (.ref bI), .val (.ref bJ), .unset, .unset, .unset, .unset] [(.ref bI), (.ref k)])
  have F9 : Exa Z T5.heap k "com/example/attache/attache/PendingKey" := A1.keep K5
  have F10 : Exa Z T8.heap k "com/example/attache/attache/PendingKey" := F9.keep K8
  have F11 : Fld Z T5.heap k "com/example/attache/attache/PendingKey" "generated" "Ljava/lang/Object;" .null := F_generated_k.keep K5 nin0
  have F12 : Fld Z T8.heap k "com/example/attache/attache/PendingKey" "generated" "Ljava/lang/Object;" .null := F11.keep K8 nin0
  have F13 : n0 ≤ T8.heap.size := Nat.le_trans F7 K8.1
  obtain ⟨cq14, kq14, q14a, q14b, q14c⟩ := isOf hZ rfl F10
  obtain ⟨_, _, ⟨T14, L14, k14, n14⟩, -, X14, ⟨Lc14, hQ14, l14, y14, z14⟩, st14⟩ := X8.virtualBack hx (y := (⟨"com/example/attache/attache/PendingKey", "generated", "(Ljava/lang/Object;)V"⟩ : MethodName)) (z := (⟨"com/example/attache/attache/PendingKey", "generated", "(Ljava/lang/Object;)V"⟩ : MethodName)) hown (mvT hZ (hw _ (List.mem_of_getElem? (i := 24) rfl))) (mvT hZ (hw _ (List.mem_of_getElem? (i := 25) rfl))) (notFace_of_selects (args := #[]) (mvT hZ (hw _ (List.mem_of_getElem? (i := 27) rfl)))) (mvT hZ (hw _ (List.mem_of_getElem? (i := 27) rfl))) (mvT hZ (hw _ (List.mem_of_getElem? (i := 26) rfl))) (by decide) (backOf (W := 0) (rmPut l Z a0 hw [] k bI .null T8.heap n0 F13 F10 F12 ge_k) hZ (hw _ (List.mem_of_getElem? (i := 28) rfl)) (hw _ (List.mem_of_getElem? (i := 2) rfl)) (by decide) (by decide)) q14a q14c (g := (mkF m 25 #[.val (.int p0), .val (.long p1), .second, .val (.int p2), .val (.ref k), .val (.ref bI), .val (.ref bJ), .unset, .unset, .unset, .unset] [(.ref bI), (.ref k)])) rfl (by rw [hml]; rfl) (Steps.refl _) (argsL := [(.ref bI)]) (rest := []) (lenOf pd_85 rfl) rfl (by show 2 * 0 + _ ≤ _; exact Nat.le_of_eq rfl) (hb hby at_25) (fun _ _ => ⟨rfl, rfl, (by decide : 3 + 0 ≤ _), (by decide : 3 + 0 ≤ _)⟩)
  dsimp only [Pt.U, Pt.locs, Pt.cells, Pt.slots] at X14 l14 y14 z14 st14 hQ14
  subst l14 y14 z14
  obtain ⟨rfl, N14q, K14, Q14_0, Q14_1⟩ := hQ14
  have N14 := Fr.app N8 N14q
  refine Go.to st14 ?_
  show Go _ _ _ _ T14 (mkF m 28 #[.val (.int p0), .val (.long p1), .second, .val (.int p2), .val (.ref k), .val (.ref bI), .val (.ref bJ), .unset, .unset, .unset, .unset] [])
  refine Go.by (fun _ gk => XS.aload X14.here hx rfl (hb hby at_28) rfl rfl gk) ?_
  show Go _ _ _ _ T14 (mkF m 30 #[.val (.int p0), .val (.long p1), .second, .val (.int p2), .val (.ref k), .val (.ref bI), .val (.ref bJ), .unset, .unset, .unset, .unset] [(.ref k)])
  have F15 : n0 ≤ T14.heap.size := Nat.le_trans F13 K14.1
  obtain ⟨cq16, kq16, q16a, q16b, q16c⟩ := isOf hZ rfl Q14_0
  obtain ⟨_, _, ⟨T16, L16, k16, n16⟩, -, X16, ⟨Lc16, hQ16, l16, y16, z16⟩, st16⟩ := X14.virtualBack hx (y := (⟨"com/example/attache/attache/PendingKey", "generated", "()Ljava/lang/Object;"⟩ : MethodName)) (z := (⟨"com/example/attache/attache/PendingKey", "generated", "()Ljava/lang/Object;"⟩ : MethodName)) hown (mvT hZ (hw _ (List.mem_of_getElem? (i := 31) rfl))) (mvT hZ (hw _ (List.mem_of_getElem? (i := 32) rfl))) (notFace_of_selects (args := #[]) (mvT hZ (hw _ (List.mem_of_getElem? (i := 34) rfl)))) (mvT hZ (hw _ (List.mem_of_getElem? (i := 34) rfl))) (mvT hZ (hw _ (List.mem_of_getElem? (i := 33) rfl))) (by decide) (backOf (W := 0) (rmGet l Z a0 hw [] k bI T14.heap n0 F15 Q14_1) hZ (hw _ (List.mem_of_getElem? (i := 35) rfl)) (hw _ (List.mem_of_getElem? (i := 2) rfl)) (by decide) (by decide)) q16a q16c (g := (mkF m 30 #[.val (.int p0), .val (.long p1), .second, .val (.int p2), .val (.ref k), .val (.ref bI), .val (.ref bJ), .unset, .unset, .unset, .unset] [(.ref k)])) rfl (by rw [hml]; rfl) (Steps.refl _) (argsL := []) (rest := []) (lenOf pd_86 rfl) rfl (by show 2 * 0 + _ ≤ _; exact Nat.le_of_eq rfl) (hb hby at_30) (fun _ _ => ⟨rfl, rfl, (by decide : 3 + 0 ≤ _), (by decide : 3 + 0 ≤ _)⟩)
  dsimp only [Pt.U, Pt.locs, Pt.cells, Pt.slots] at X16 l16 y16 z16 st16 hQ16
  subst l16 y16 z16
  obtain ⟨rfl, N16q, e16⟩ := hQ16
  have N16 := Fr.app N14 N16q
  refine Go.to st16 ?_
  show Go _ _ _ _ T16 (mkF m 33 #[.val (.int p0), .val (.long p1), .second, .val (.int p2), .val (.ref k), .val (.ref bI), .val (.ref bJ), .unset, .unset, .unset, .unset] [(.ref bI)])
  refine Go.by (fun _ gk => XS.astore X16.here hx rfl (hb hby at_33) rfl rfl (l' := #[.val (.int p0), .val (.long p1), .second, .val (.int p2), .val (.ref k), .val (.ref bI), .val (.ref bJ), .val (.ref bI), .unset, .unset, .unset]) rfl gk) ?_
  show Go _ _ _ _ T16 (mkF m 35 #[.val (.int p0), .val (.long p1), .second, .val (.int p2), .val (.ref k), .val (.ref bI), .val (.ref bJ), .val (.ref bI), .unset, .unset, .unset] [])
  refine Go.by (fun _ gk => XS.aload X16.here hx rfl (hb hby at_35) rfl rfl gk) ?_
  show Go _ _ _ _ T16 (mkF m 37 #[.val (.int p0), .val (.long p1), .second, .val (.int p2), .val (.ref k), .val (.ref bI), .val (.ref bJ), .val (.ref bI), .unset, .unset, .unset] [(.ref bI)])
  refine Go.by (fun _ gk => XS.aload X16.here hx rfl (hb hby at_37) rfl rfl gk) ?_
  show Go _ _ _ _ T16 (mkF m 39 #[.val (.int p0), .val (.long p1), .second, .val (.int p2), .val (.ref k), .val (.ref bI), .val (.ref bJ), .val (.ref bI), .unset, .unset, .unset] [(.ref bI), (.ref bI)])
  refine Go.by (fun _ gk => XT.acmpYes X16.here hx rfl (pc0 := 39) (pc' := 44) rfl (hb hby at_39) rfl rfl rfl (XT.aa_eq_t rfl) (by decide) (by decide) gk) ?_
  show Go _ _ _ _ T16 (mkF m 44 #[.val (.int p0), .val (.long p1), .second, .val (.int p2), .val (.ref k), .val (.ref bI), .val (.ref bJ), .val (.ref bI), .unset, .unset, .unset] [])
  refine Go.by (fun _ gk => XS.aload X16.here hx rfl (hb hby at_44) rfl rfl gk) ?_
  show Go _ _ _ _ T16 (mkF m 46 #[.val (.int p0), .val (.long p1), .second, .val (.int p2), .val (.ref k), .val (.ref bI), .val (.ref bJ), .val (.ref bI), .unset, .unset, .unset] [(.ref bI)])
  refine Go.by (fun _ gk => XS.astore X16.here hx rfl (hb hby at_46) rfl rfl (l' := #[.val (.int p0), .val (.long p1), .second, .val (.int p2), .val (.ref k), .val (.ref bI), .val (.ref bJ), .val (.ref bI), .val (.ref bI), .unset, .unset]) rfl gk) ?_
  show Go _ _ _ _ T16 (mkF m 48 #[.val (.int p0), .val (.long p1), .second, .val (.int p2), .val (.ref k), .val (.ref bI), .val (.ref bJ), .val (.ref bI), .val (.ref bI), .unset, .unset] [])
  refine Go.by (fun _ gk => XS.iloadN X16.here hx rfl (hb hby at_48) rfl gk) ?_
  show Go _ _ _ _ T16 (mkF m 49 #[.val (.int p0), .val (.long p1), .second, .val (.int p2), .val (.ref k), .val (.ref bI), .val (.ref bJ), .val (.ref bI), .val (.ref bI), .unset, .unset] [(.int p2)])
  refine Go.by (fun _ gk => XT.iconstV X16.here hx rfl (1 : Int32) (hb hby at_49) (by decide) gk) ?_
  show Go _ _ _ _ T16 (mkF m 50 #[.val (.int p0), .val (.long p1), .second, .val (.int p2), .val (.ref k), .val (.ref bI), .val (.ref bJ), .val (.ref bI), .val (.ref bI), .unset, .unset] [(.int (1 : Int32)), (.int p2)])
  refine Go.by (fun _ gk => XS.iand X16.here hx rfl (hb hby at_50) rfl gk) ?_
  show Go _ _ _ _ T16 (mkF m 51 #[.val (.int p0), .val (.long p1), .second, .val (.int p2), .val (.ref k), .val (.ref bI), .val (.ref bJ), .val (.ref bI), .val (.ref bI), .unset, .unset] [(.int (p2 &&& (1 : Int32)))])
  by_cases hb17 : (p2 &&& (1 : Int32)) = 0
  · refine Go.by (fun _ gk => XS.ifYes X16.here hx rfl (pc0 := 51) (pc' := 65) rfl (hb hby at_51) rfl (XT.i0_eq_t hb17) (by decide) (by decide) gk) ?_
    show Go _ _ _ _ T16 (mkF m 65 #[.val (.int p0), .val (.long p1), .second, .val (.int p2), .val (.ref k), .val (.ref bI), .val (.ref bJ), .val (.ref bI), .val (.ref bI), .unset, .unset] [])
    refine Go.by (fun _ gk => XS.aload X16.here hx rfl (hb hby at_65) rfl rfl gk) ?_
    show Go _ _ _ _ T16 (mkF m 67 #[.val (.int p0), .val (.long p1), .second, .val (.int p2), .val (.ref k), .val (.ref bI), .val (.ref bJ), .val (.ref bI), .val (.ref bI), .unset, .unset] [(.ref k)])
    obtain ⟨cq18, kq18, q18a, q18b, q18c⟩ := isOf hZ e16 Q14_0
    obtain ⟨_, _, ⟨T18, L18, k18, n18⟩, -, X18, ⟨Lc18, hQ18, l18, y18, z18⟩, st18⟩ := X16.virtualBack hx (y := (⟨"com/example/attache/attache/PendingKey", "generated", "()Ljava/lang/Object;"⟩ : MethodName)) (z := (⟨"com/example/attache/attache/PendingKey", "generated", "()Ljava/lang/Object;"⟩ : MethodName)) hown (mvT hZ (hw _ (List.mem_of_getElem? (i := 31) rfl))) (mvT hZ (hw _ (List.mem_of_getElem? (i := 32) rfl))) (notFace_of_selects (args := #[]) (mvT hZ (hw _ (List.mem_of_getElem? (i := 34) rfl)))) (mvT hZ (hw _ (List.mem_of_getElem? (i := 34) rfl))) (mvT hZ (hw _ (List.mem_of_getElem? (i := 33) rfl))) (by decide) (backOf (W := 0) (rmGet l Z a0 hw [] k bI T14.heap n0 F15 Q14_1) hZ (hw _ (List.mem_of_getElem? (i := 35) rfl)) (hw _ (List.mem_of_getElem? (i := 2) rfl)) (by decide) (by decide)) q18a q18c (g := (mkF m 67 #[.val (.int p0), .val (.long p1), .second, .val (.int p2), .val (.ref k), .val (.ref bI), .val (.ref bJ), .val (.ref bI), .val (.ref bI), .unset, .unset] [(.ref k)])) rfl (by rw [hml]; rfl) (Steps.refl _) (argsL := []) (rest := []) (lenOf pd_86 rfl) rfl (by show 2 * 0 + _ ≤ _; exact Nat.le_of_eq rfl) (hb hby at_67) (fun _ _ => ⟨rfl, e16, (by decide : 3 + 0 ≤ _), (by decide : 3 + 0 ≤ _)⟩)
    dsimp only [Pt.U, Pt.locs, Pt.cells, Pt.slots] at X18 l18 y18 z18 st18 hQ18
    subst l18 y18 z18
    obtain ⟨rfl, N18q, e18⟩ := hQ18
    have N18 := Fr.app N16 N18q
    refine Go.to st18 ?_
    show Go _ _ _ _ T18 (mkF m 70 #[.val (.int p0), .val (.long p1), .second, .val (.int p2), .val (.ref k), .val (.ref bI), .val (.ref bJ), .val (.ref bI), .val (.ref bI), .unset, .unset] [(.ref bI)])
    refine Go.by (fun _ gk => XS.astore X18.here hx rfl (hb hby at_70) rfl rfl (l' := #[.val (.int p0), .val (.long p1), .second, .val (.int p2), .val (.ref k), .val (.ref bI), .val (.ref bJ), .val (.ref bI), .val (.ref bI), .val (.ref bI), .unset]) rfl gk) ?_
    show Go _ _ _ _ T18 (mkF m 72 #[.val (.int p0), .val (.long p1), .second, .val (.int p2), .val (.ref k), .val (.ref bI), .val (.ref bJ), .val (.ref bI), .val (.ref bI), .val (.ref bI), .unset] [])
    refine Go.by (fun _ gk => XS.aload X18.here hx rfl (hb hby at_72) rfl rfl gk) ?_
    show Go _ _ _ _ T18 (mkF m 74 #[.val (.int p0), .val (.long p1), .second, .val (.int p2), .val (.ref k), .val (.ref bI), .val (.ref bJ), .val (.ref bI), .val (.ref bI), .val (.ref bI), .unset] [(.ref k)])
    obtain ⟨cq19, kq19, q19a, q19b, q19c⟩ := isOf hZ e18 Q14_0
    obtain ⟨_, _, ⟨T19, L19, k19, n19⟩, -, X19, ⟨Lc19, hQ19, l19, y19, z19⟩, st19⟩ := X18.virtualBack hx (y := (⟨"com/example/attache/attache/PendingKey", "generated", "()Ljava/lang/Object;"⟩ : MethodName)) (z := (⟨"com/example/attache/attache/PendingKey", "generated", "()Ljava/lang/Object;"⟩ : MethodName)) hown (mvT hZ (hw _ (List.mem_of_getElem? (i := 31) rfl))) (mvT hZ (hw _ (List.mem_of_getElem? (i := 32) rfl))) (notFace_of_selects (args := #[]) (mvT hZ (hw _ (List.mem_of_getElem? (i := 34) rfl)))) (mvT hZ (hw _ (List.mem_of_getElem? (i := 34) rfl))) (mvT hZ (hw _ (List.mem_of_getElem? (i := 33) rfl))) (by decide) (backOf (W := 0) (rmGet l Z a0 hw [] k bI T14.heap n0 F15 Q14_1) hZ (hw _ (List.mem_of_getElem? (i := 35) rfl)) (hw _ (List.mem_of_getElem? (i := 2) rfl)) (by decide) (by decide)) q19a q19c (g := (mkF m 74 #[.val (.int p0), .val (.long p1), .second, .val (.int p2), .val (.ref k), .val (.ref bI), .val (.ref bJ), .val (.ref bI), .val (.ref bI), .val (.ref bI), .unset] [(.ref k)])) rfl (by rw [hml]; rfl) (Steps.refl _) (argsL := []) (rest := []) (lenOf pd_86 rfl) rfl (by show 2 * 0 + _ ≤ _; exact Nat.le_of_eq rfl) (hb hby at_74) (fun _ _ => ⟨rfl, e18, (by decide : 3 + 0 ≤ _), (by decide : 3 + 0 ≤ _)⟩)
    dsimp only [Pt.U, Pt.locs, Pt.cells, Pt.slots] at X19 l19 y19 z19 st19 hQ19
    subst l19 y19 z19
    obtain ⟨rfl, N19q, e19⟩ := hQ19
    have N19 := Fr.app N18 N19q
    refine Go.to st19 ?_
    show Go _ _ _ _ T19 (mkF m 77 #[.val (.int p0), .val (.long p1), .second, .val (.int p2), .val (.ref k), .val (.ref bI), .val (.ref bJ), .val (.ref bI), .val (.ref bI), .val (.ref bI), .unset] [(.ref bI)])
    refine Go.by (fun _ gk => XS.astore X19.here hx rfl (hb hby at_77) rfl rfl (l' := #[.val (.int p0), .val (.long p1), .second, .val (.int p2), .val (.ref k), .val (.ref bI), .val (.ref bJ), .val (.ref bI), .val (.ref bI), .val (.ref bI), .val (.ref bI)]) rfl gk) ?_
    show Go _ _ _ _ T19 (mkF m 79 #[.val (.int p0), .val (.long p1), .second, .val (.int p2), .val (.ref k), .val (.ref bI), .val (.ref bJ), .val (.ref bI), .val (.ref bI), .val (.ref bI), .val (.ref bI)] [])
    refine Go.by (fun _ gk => XS.aload X19.here hx rfl (hb hby at_79) rfl rfl gk) ?_
    show Go _ _ _ _ T19 (mkF m 81 #[.val (.int p0), .val (.long p1), .second, .val (.int p2), .val (.ref k), .val (.ref bI), .val (.ref bJ), .val (.ref bI), .val (.ref bI), .val (.ref bI), .val (.ref bI)] [(.ref bI)])
    refine Go.by (fun _ gk => XS.aload X19.here hx rfl (hb hby at_81) rfl rfl gk) ?_
    show Go _ _ _ _ T19 (mkF m 83 #[.val (.int p0), .val (.long p1), .second, .val (.int p2), .val (.ref k), .val (.ref bI), .val (.ref bJ), .val (.ref bI), .val (.ref bI), .val (.ref bI), .val (.ref bI)] [(.ref bI), (.ref bI)])
    refine Go.by (fun _ gk => XT.acmpNo X19.here hx rfl (hb hby at_83) rfl rfl rfl (XT.aa_ne_f rfl) gk) ?_
    show Go _ _ _ _ T19 (mkF m 86 #[.val (.int p0), .val (.long p1), .second, .val (.int p2), .val (.ref k), .val (.ref bI), .val (.ref bJ), .val (.ref bI), .val (.ref bI), .val (.ref bI), .val (.ref bI)] [])
    refine Go.by (fun _ gk => XS.aload X19.here hx rfl (hb hby at_86) rfl rfl gk) ?_
    show Go _ _ _ _ T19 (mkF m 88 #[.val (.int p0), .val (.long p1), .second, .val (.int p2), .val (.ref k), .val (.ref bI), .val (.ref bJ), .val (.ref bI), .val (.ref bI), .val (.ref bI), .val (.ref bI)] [(.ref bI)])
    refine Go.by (fun _ gk => XS.aload X19.here hx rfl (hb hby at_88) rfl rfl gk) ?_
    show Go _ _ _ _ T19 (mkF m 90 #[.val (.int p0), .val (.long p1), .second, .val (.int p2), .val (.ref k), .val (.ref bI), .val (.ref bJ), .val (.ref bI), .val (.ref bI), .val (.ref bI), .val (.ref bI)] [(.ref bI), (.ref bI)])
    refine Go.by (fun _ gk => XT.acmpNo X19.here hx rfl (hb hby at_90) rfl rfl rfl (XT.aa_ne_f rfl) gk) ?_
    show Go _ _ _ _ T19 (mkF m 93 #[.val (.int p0), .val (.long p1), .second, .val (.int p2), .val (.ref k), .val (.ref bI), .val (.ref bJ), .val (.ref bI), .val (.ref bI), .val (.ref bI), .val (.ref bI)] [])
    refine Go.by (fun _ gk => XT.iconstV X19.here hx rfl (1 : Int32) (hb hby at_93) (by decide) gk) ?_
    show Go _ _ _ _ T19 (mkF m 94 #[.val (.int p0), .val (.long p1), .second, .val (.int p2), .val (.ref k), .val (.ref bI), .val (.ref bJ), .val (.ref bI), .val (.ref bI), .val (.ref bI), .val (.ref bI)] [(.int (1 : Int32))])
    refine Go.by (fun _ gk => XS.goto X19.here hx rfl (pc0 := 94) (pc' := 98) rfl (hb hby at_94) (by decide) (by decide) gk) ?_
    show Go _ _ _ _ T19 (mkF m 98 #[.val (.int p0), .val (.long p1), .second, .val (.int p2), .val (.ref k), .val (.ref bI), .val (.ref bJ), .val (.ref bI), .val (.ref bI), .val (.ref bI), .val (.ref bI)] [(.int (1 : Int32))])
    exact Go.retI X19 hx Bd.notSynchronized Bd.returns rfl (by simp) (hb hby at_98) (by rw [e19]; exact ⟨rfl, N19⟩) (by decide) (by decide)
  · refine Go.by (fun _ gk => XS.ifNo X16.here hx rfl (hb hby at_51) rfl (XT.i0_eq_f hb17) gk) ?_
    show Go _ _ _ _ T16 (mkF m 54 #[.val (.int p0), .val (.long p1), .second, .val (.int p2), .val (.ref k), .val (.ref bI), .val (.ref bJ), .val (.ref bI), .val (.ref bI), .unset, .unset] [])
    refine Go.by (fun _ gk => XS.aload X16.here hx rfl (hb hby at_54) rfl rfl gk) ?_
    show Go _ _ _ _ T16 (mkF m 56 #[.val (.int p0), .val (.long p1), .second, .val (.int p2), .val (.ref k), .val (.ref bI), .val (.ref bJ), .val (.ref bI), .val (.ref bI), .unset, .unset] [(.ref k)])
    refine Go.by (fun _ gk => XS.aload X16.here hx rfl (hb hby at_56) rfl rfl gk) ?_
    show Go _ _ _ _ T16 (mkF m 58 #[.val (.int p0), .val (.long p1), .second, .val (.int p2), .val (.ref k), .val (.ref bI), .val (.ref bJ), .val (.ref bI), .val (.ref bI), .unset, .unset] [(.ref bJ), (.ref k)])
    obtain ⟨cq20, kq20, q20a, q20b, q20c⟩ := isOf hZ e16 Q14_0
    obtain ⟨_, _, ⟨T20, L20, k20, n20⟩, -, X20, ⟨Lc20, hQ20, l20, y20, z20⟩, st20⟩ := X16.virtualBack hx (y := (⟨"com/example/attache/attache/PendingKey", "generated", "(Ljava/lang/Object;)V"⟩ : MethodName)) (z := (⟨"com/example/attache/attache/PendingKey", "generated", "(Ljava/lang/Object;)V"⟩ : MethodName)) hown (mvT hZ (hw _ (List.mem_of_getElem? (i := 24) rfl))) (mvT hZ (hw _ (List.mem_of_getElem? (i := 25) rfl))) (notFace_of_selects (args := #[]) (mvT hZ (hw _ (List.mem_of_getElem? (i := 27) rfl)))) (mvT hZ (hw _ (List.mem_of_getElem? (i := 27) rfl))) (mvT hZ (hw _ (List.mem_of_getElem? (i := 26) rfl))) (by decide) (backOf (W := 0) (rmPut l Z a0 hw [] k bJ (.ref bI) T14.heap n0 F15 Q14_0 Q14_1 ge_k) hZ (hw _ (List.mem_of_getElem? (i := 28) rfl)) (hw _ (List.mem_of_getElem? (i := 2) rfl)) (by decide) (by decide)) q20a q20c (g := (mkF m 58 #[.val (.int p0), .val (.long p1), .second, .val (.int p2), .val (.ref k), .val (.ref bI), .val (.ref bJ), .val (.ref bI), .val (.ref bI), .unset, .unset] [(.ref bJ), (.ref k)])) rfl (by rw [hml]; rfl) (Steps.refl _) (argsL := [(.ref bJ)]) (rest := []) (lenOf pd_85 rfl) rfl (by show 2 * 0 + _ ≤ _; exact Nat.le_of_eq rfl) (hb hby at_58) (fun _ _ => ⟨rfl, e16, (by decide : 3 + 0 ≤ _), (by decide : 3 + 0 ≤ _)⟩)
    dsimp only [Pt.U, Pt.locs, Pt.cells, Pt.slots] at X20 l20 y20 z20 st20 hQ20
    subst l20 y20 z20
    obtain ⟨rfl, N20q, K20, Q20_0, Q20_1⟩ := hQ20
    have N20 := Fr.app N16 N20q
    refine Go.to st20 ?_
    show Go _ _ _ _ T20 (mkF m 61 #[.val (.int p0), .val (.long p1), .second, .val (.int p2), .val (.ref k), .val (.ref bI), .val (.ref bJ), .val (.ref bI), .val (.ref bI), .unset, .unset] [])
    refine Go.by (fun _ gk => XS.aload X20.here hx rfl (hb hby at_61) rfl rfl gk) ?_
    show Go _ _ _ _ T20 (mkF m 63 #[.val (.int p0), .val (.long p1), .second, .val (.int p2), .val (.ref k), .val (.ref bI), .val (.ref bJ), .val (.ref bI), .val (.ref bI), .unset, .unset] [(.ref bJ)])
    refine Go.by (fun _ gk => XS.astore X20.here hx rfl (hb hby at_63) rfl rfl (l' := #[.val (.int p0), .val (.long p1), .second, .val (.int p2), .val (.ref k), .val (.ref bI), .val (.ref bJ), .val (.ref bI), .val (.ref bJ), .unset, .unset]) rfl gk) ?_
    show Go _ _ _ _ T20 (mkF m 65 #[.val (.int p0), .val (.long p1), .second, .val (.int p2), .val (.ref k), .val (.ref bI), .val (.ref bJ), .val (.ref bI), .val (.ref bJ), .unset, .unset] [])
    refine Go.by (fun _ gk => XS.aload X20.here hx rfl (hb hby at_65) rfl rfl gk) ?_
    show Go _ _ _ _ T20 (mkF m 67 #[.val (.int p0), .val (.long p1), .second, .val (.int p2), .val (.ref k), .val (.ref bI), .val (.ref bJ), .val (.ref bI), .val (.ref bJ), .unset, .unset] [(.ref k)])
    have F21 : n0 ≤ T20.heap.size := Nat.le_trans F15 K20.1
    obtain ⟨cq22, kq22, q22a, q22b, q22c⟩ := isOf hZ rfl Q20_0
    obtain ⟨_, _, ⟨T22, L22, k22, n22⟩, -, X22, ⟨Lc22, hQ22, l22, y22, z22⟩, st22⟩ := X20.virtualBack hx (y := (⟨"com/example/attache/attache/PendingKey", "generated", "()Ljava/lang/Object;"⟩ : MethodName)) (z := (⟨"com/example/attache/attache/PendingKey", "generated", "()Ljava/lang/Object;"⟩ : MethodName)) hown (mvT hZ (hw _ (List.mem_of_getElem? (i := 31) rfl))) (mvT hZ (hw _ (List.mem_of_getElem? (i := 32) rfl))) (notFace_of_selects (args := #[]) (mvT hZ (hw _ (List.mem_of_getElem? (i := 34) rfl)))) (mvT hZ (hw _ (List.mem_of_getElem? (i := 34) rfl))) (mvT hZ (hw _ (List.mem_of_getElem? (i := 33) rfl))) (by decide) (backOf (W := 0) (rmGet l Z a0 hw [] k bJ T20.heap n0 F21 Q20_1) hZ (hw _ (List.mem_of_getElem? (i := 35) rfl)) (hw _ (List.mem_of_getElem? (i := 2) rfl)) (by decide) (by decide)) q22a q22c (g := (mkF m 67 #[.val (.int p0), .val (.long p1), .second, .val (.int p2), .val (.ref k), .val (.ref bI), .val (.ref bJ), .val (.ref bI), .val (.ref bJ), .unset, .unset] [(.ref k)])) rfl (by rw [hml]; rfl) (Steps.refl _) (argsL := []) (rest := []) (lenOf pd_86 rfl) rfl (by show 2 * 0 + _ ≤ _; exact Nat.le_of_eq rfl) (hb hby at_67) (fun _ _ => ⟨rfl, rfl, (by decide : 3 + 0 ≤ _), (by decide : 3 + 0 ≤ _)⟩)
    dsimp only [Pt.U, Pt.locs, Pt.cells, Pt.slots] at X22 l22 y22 z22 st22 hQ22
    subst l22 y22 z22
    obtain ⟨rfl, N22q, e22⟩ := hQ22
    have N22 := Fr.app N20 N22q
    refine Go.to st22 ?_
    show Go _ _ _ _ T22 (mkF m 70 #[.val (.int p0), .val (.long p1), .second, .val (.int p2), .val (.ref k), .val (.ref bI), .val (.ref bJ), .val (.ref bI), .val (.ref bJ), .unset, .unset] [(.ref bJ)])
    refine Go.by (fun _ gk => XS.astore X22.here hx rfl (hb hby at_70) rfl rfl (l' := #[.val (.int p0), .val (.long p1), .second, .val (.int p2), .val (.ref k), .val (.ref bI), .val (.ref bJ), .val (.ref bI), .val (.ref bJ), .val (.ref bJ), .unset]) rfl gk) ?_
    show Go _ _ _ _ T22 (mkF m 72 #[.val (.int p0), .val (.long p1), .second, .val (.int p2), .val (.ref k), .val (.ref bI), .val (.ref bJ), .val (.ref bI), .val (.ref bJ), .val (.ref bJ), .unset] [])
    refine Go.by (fun _ gk => XS.aload X22.here hx rfl (hb hby at_72) rfl rfl gk) ?_
    show Go _ _ _ _ T22 (mkF m 74 #[.val (.int p0), .val (.long p1), .second, .val (.int p2), .val (.ref k), .val (.ref bI), .val (.ref bJ), .val (.ref bI), .val (.ref bJ), .val (.ref bJ), .unset] [(.ref k)])
    obtain ⟨cq23, kq23, q23a, q23b, q23c⟩ := isOf hZ e22 Q20_0
    obtain ⟨_, _, ⟨T23, L23, k23, n23⟩, -, X23, ⟨Lc23, hQ23, l23, y23, z23⟩, st23⟩ := X22.virtualBack hx (y := (⟨"com/example/attache/attache/PendingKey", "generated", "()Ljava/lang/Object;"⟩ : MethodName)) (z := (⟨"com/example/attache/attache/PendingKey", "generated", "()Ljava/lang/Object;"⟩ : MethodName)) hown (mvT hZ (hw _ (List.mem_of_getElem? (i := 31) rfl))) (mvT hZ (hw _ (List.mem_of_getElem? (i := 32) rfl))) (notFace_of_selects (args := #[]) (mvT hZ (hw _ (List.mem_of_getElem? (i := 34) rfl)))) (mvT hZ (hw _ (List.mem_of_getElem? (i := 34) rfl))) (mvT hZ (hw _ (List.mem_of_getElem? (i := 33) rfl))) (by decide) (backOf (W := 0) (rmGet l Z a0 hw [] k bJ T20.heap n0 F21 Q20_1) hZ (hw _ (List.mem_of_getElem? (i := 35) rfl)) (hw _ (List.mem_of_getElem? (i := 2) rfl)) (by decide) (by decide)) q23a q23c (g := (mkF m 74 #[.val (.int p0), .val (.long p1), .second, .val (.int p2), .val (.ref k), .val (.ref bI), .val (.ref bJ), .val (.ref bI), .val (.ref bJ), .val (.ref bJ), .unset] [(.ref k)])) rfl (by rw [hml]; rfl) (Steps.refl _) (argsL := []) (rest := []) (lenOf pd_86 rfl) rfl (by show 2 * 0 + _ ≤ _; exact Nat.le_of_eq rfl) (hb hby at_74) (fun _ _ => ⟨rfl, e22, (by decide : 3 + 0 ≤ _), (by decide : 3 + 0 ≤ _)⟩)
    dsimp only [Pt.U, Pt.locs, Pt.cells, Pt.slots] at X23 l23 y23 z23 st23 hQ23
    subst l23 y23 z23
    obtain ⟨rfl, N23q, e23⟩ := hQ23
    have N23 := Fr.app N22 N23q
    refine Go.to st23 ?_
    show Go _ _ _ _ T23 (mkF m 77 #[.val (.int p0), .val (.long p1), .second, .val (.int p2), .val (.ref k), .val (.ref bI), .val (.ref bJ), .val (.ref bI), .val (.ref bJ), .val (.ref bJ), .unset] [(.ref bJ)])
    refine Go.by (fun _ gk => XS.astore X23.here hx rfl (hb hby at_77) rfl rfl (l' := #[.val (.int p0), .val (.long p1), .second, .val (.int p2), .val (.ref k), .val (.ref bI), .val (.ref bJ), .val (.ref bI), .val (.ref bJ), .val (.ref bJ), .val (.ref bJ)]) rfl gk) ?_
    show Go _ _ _ _ T23 (mkF m 79 #[.val (.int p0), .val (.long p1), .second, .val (.int p2), .val (.ref k), .val (.ref bI), .val (.ref bJ), .val (.ref bI), .val (.ref bJ), .val (.ref bJ), .val (.ref bJ)] [])
    refine Go.by (fun _ gk => XS.aload X23.here hx rfl (hb hby at_79) rfl rfl gk) ?_
    show Go _ _ _ _ T23 (mkF m 81 #[.val (.int p0), .val (.long p1), .second, .val (.int p2), .val (.ref k), .val (.ref bI), .val (.ref bJ), .val (.ref bI), .val (.ref bJ), .val (.ref bJ), .val (.ref bJ)] [(.ref bJ)])
    refine Go.by (fun _ gk => XS.aload X23.here hx rfl (hb hby at_81) rfl rfl gk) ?_
    show Go _ _ _ _ T23 (mkF m 83 #[.val (.int p0), .val (.long p1), .second, .val (.int p2), .val (.ref k), .val (.ref bI), .val (.ref bJ), .val (.ref bI), .val (.ref bJ), .val (.ref bJ), .val (.ref bJ)] [(.ref bJ), (.ref bJ)])
    refine Go.by (fun _ gk => XT.acmpNo X23.here hx rfl (hb hby at_83) rfl rfl rfl (XT.aa_ne_f rfl) gk) ?_
    show Go _ _ _ _ T23 (mkF m 86 #[.val (.int p0), .val (.long p1), .second, .val (.int p2), .val (.ref k), .val (.ref bI), .val (.ref bJ), .val (.ref bI), .val (.ref bJ), .val (.ref bJ), .val (.ref bJ)] [])
    refine Go.by (fun _ gk => XS.aload X23.here hx rfl (hb hby at_86) rfl rfl gk) ?_
    show Go _ _ _ _ T23 (mkF m 88 #[.val (.int p0), .val (.long p1), .second, .val (.int p2), .val (.ref k), .val (.ref bI), .val (.ref bJ), .val (.ref bI), .val (.ref bJ), .val (.ref bJ), .val (.ref bJ)] [(.ref bJ)])
    refine Go.by (fun _ gk => XS.aload X23.here hx rfl (hb hby at_88) rfl rfl gk) ?_
    show Go _ _ _ _ T23 (mkF m 90 #[.val (.int p0), .val (.long p1), .second, .val (.int p2), .val (.ref k), .val (.ref bI), .val (.ref bJ), .val (.ref bI), .val (.ref bJ), .val (.ref bJ), .val (.ref bJ)] [(.ref bJ), (.ref bJ)])
    refine Go.by (fun _ gk => XT.acmpNo X23.here hx rfl (hb hby at_90) rfl rfl rfl (XT.aa_ne_f rfl) gk) ?_
    show Go _ _ _ _ T23 (mkF m 93 #[.val (.int p0), .val (.long p1), .second, .val (.int p2), .val (.ref k), .val (.ref bI), .val (.ref bJ), .val (.ref bI), .val (.ref bJ), .val (.ref bJ), .val (.ref bJ)] [])
    refine Go.by (fun _ gk => XT.iconstV X23.here hx rfl (1 : Int32) (hb hby at_93) (by decide) gk) ?_
    show Go _ _ _ _ T23 (mkF m 94 #[.val (.int p0), .val (.long p1), .second, .val (.int p2), .val (.ref k), .val (.ref bI), .val (.ref bJ), .val (.ref bI), .val (.ref bJ), .val (.ref bJ), .val (.ref bJ)] [(.int (1 : Int32))])
    refine Go.by (fun _ gk => XS.goto X23.here hx rfl (pc0 := 94) (pc' := 98) rfl (hb hby at_94) (by decide) (by decide) gk) ?_
    show Go _ _ _ _ T23 (mkF m 98 #[.val (.int p0), .val (.long p1), .second, .val (.int p2), .val (.ref k), .val (.ref bI), .val (.ref bJ), .val (.ref bI), .val (.ref bJ), .val (.ref bJ), .val (.ref bJ)] [(.int (1 : Int32))])
    exact Go.retI X23 hx Bd.notSynchronized Bd.returns rfl (by simp) (hb hby at_98) (by rw [e23]; exact ⟨rfl, N23⟩) (by decide) (by decide)
set_option maxRecDepth 65536 in
set_option maxHeartbeats 40000000 in
theorem comes_1 {Post : Tables → Env → Array Value → State → Outcome → State → Prop} (hpost : ∀ tb e args s v u, (limb_1_1.after args s (.returned v) u = true ∧ limb_1_2.after args s (.returned v) u = true ∧ True) → FrameEnd s (.returned v) u (Jvm.fieldLocs frame_1_writes args s ++ Jvm.arrayLocs frame_1_arrays args s ++ Jvm.staticLocs frame_1_statics s) 16 128 → Post tb e args s (.returned v) u) :
    ArmFor flags0 classFile x code maxLocals ret World_1 tables_1 room_1 Calls_1 rest_1 Pre_1 Post := by
  intro l hfl _ _ p e ha hc hk s m args below hf hA hF happ hP
  obtain ⟨hcalls, hrest, hpre⟩ := hP
  obtain ⟨-, -, -, hnamed, -, -, -, hat⟩ := (Spec.applies_iff hf).mp happ
  obtain ⟨hg, hn⟩ := and_e (Cond.before_iff.mp (show (Jvm.Cond.and given_1 narrow_1).before args s = true from hpre))
  obtain ⟨hcount, hg0⟩ := and_e hg
  obtain ⟨ha0, hg1⟩ := and_e hg0
  obtain ⟨ha1, hg2⟩ := and_e hg1
  have ha2 := hg2
  obtain ⟨w0, w1, w2, rfl⟩ : ∃ w0 w1 w2 : Value, args = #[w0, w1, w2] := by
    have hs : args.size = 3 := by simpa [Cond.value, given_1] using hcount
    obtain ⟨L⟩ := args
    match L, hs with
    | [w0, w1, w2], _ => exact ⟨w0, w1, w2, rfl⟩
  have hw := fun d (hd : d ∈ tables_1) => atoms_spec (ws := Jvm.Cond.code x code maxLocals ret :: tables_1) hat d (List.mem_cons_of_mem _ hd)
  obtain ⟨hsets, hown0⟩ := atoms_of _ (rest_1_c_eq ▸ (show rest_1_c.before _ s = true from hrest))
  have hr0 := Cond.before_iff.mp hown0
  have hfit : Fit s := fun {y c} hc i hi => by
    obtain ⟨ha, rfl⟩ := Array.getElem?_eq_some_iff.mp hc
    have q := List.all_eq_true.mp ((Array.all_eq_true_iff_forall_mem.mp hF) _ (Array.getElem_mem ha)) i (List.mem_range.mpr hi)
    simpa [Array.getElem?_eq_getElem hi] using q
  obtain ⟨i0, ei0⟩ := is_v ha0
  obtain rfl : w0 = (.int i0) := Option.some.inj ei0
  obtain ⟨i1, ei1⟩ := isL_v ha1
  obtain rfl : w1 = (.long i1) := Option.some.inj ei1
  obtain ⟨i2, ei2⟩ := is_v ha2
  obtain rfl : w2 = (.int i2) := Option.some.inj ei2
  have e_high := eqv_i (Term.int_eval 127) (Cond.before_iff.mp (hsets _ (List.mem_of_getElem? (i := 3) rfl)))
  have S_high := Sta.start e_high (Or.inl (hsets _ (List.mem_of_getElem? (i := 1) rfl)))
  obtain ⟨caI, ev_caI⟩ := arr_v (Cond.before_iff.mp (hsets _ (List.mem_of_getElem? (i := 4) rfl)))
  obtain ⟨ccI, A_I⟩ := Arr.start ev_caI (Cond.before_iff.mp (hsets _ (List.mem_of_getElem? (i := 4) rfl)))
  have S_cacheI := Sta.start ev_caI (Or.inr ⟨(hw _ (List.mem_of_getElem? (i := 14) rfl)), (hsets _ (List.mem_of_getElem? (i := 2) rfl))⟩)
  have len_I := own_len ev_caI (A_I.fin (Vm.Alike.refl _)) (eqv_i (Term.int_eval 256) (Cond.before_iff.mp (hsets _ (List.mem_of_getElem? (i := 6) rfl))))
  have B_I : Bxs s caI ccI "java/lang/Integer" "I" 256 (fun j => .int (j - 128)) := Bxs.start (own_static ev_caI) A_I len_I.1 len_I.2 (by decide) (Cond.before_iff.mp (hsets _ (List.mem_of_getElem? (i := 7) rfl))) own_valI
  obtain ⟨caJ, ev_caJ⟩ := arr_v (Cond.before_iff.mp (hsets _ (List.mem_of_getElem? (i := 10) rfl)))
  obtain ⟨ccJ, A_J⟩ := Arr.start ev_caJ (Cond.before_iff.mp (hsets _ (List.mem_of_getElem? (i := 10) rfl)))
  have S_cacheJ := Sta.start ev_caJ (Or.inl (hsets _ (List.mem_of_getElem? (i := 9) rfl)))
  have len_J := own_len ev_caJ (A_J.fin (Vm.Alike.refl _)) (eqv_i (Term.int_eval 256) (Cond.before_iff.mp (hsets _ (List.mem_of_getElem? (i := 12) rfl))))
  have B_J : Bxs s caJ ccJ "java/lang/Long" "J" 256 (fun j => .long (j - 128).toInt64) := Bxs.start (own_static ev_caJ) A_J len_J.1 len_J.2 (by decide) (Cond.before_iff.mp (hsets _ (List.mem_of_getElem? (i := 13) rfl))) own_valJ
  obtain ⟨n, o, h1, h2, h3, _, L, rfl, ⟨rfl, N⟩, hq⟩ := rm0 l s _ hw tables_1 i0 i1 i2 caI ccI caJ ccJ s.heap s.heap.size (Nat.le_refl _) (Old.start s) S_cacheI B_I S_high S_cacheJ B_J p e ha hc hk s m _ below hf ((Spec.applies_iff_loose hf).mp happ).1 ⟨rfl, State.Warmed39.refl s, rfl⟩ trivial
  refine ⟨n, _, h1, h2, h3, hpost _ _ _ _ _ _ ⟨Cond.after_iff.mpr rfl, Cond.after_iff.mpr (eq_i res_at (Term.int_eval (1)) rfl), trivial⟩ ⟨hq.1, hq.2.1, (hq.2.2.sift fun y hy => Or.inr (N y hy)).mono (by decide) (by decide)⟩⟩
theorem main_1_1 : Claimed_1_1 := comes_1 fun _ _ _ _ _ _ h hF => ⟨h.1, hF⟩
theorem main_1_2 : Claimed_1_2 := comes_1 fun _ _ _ _ _ _ h hF => ⟨h.2.1, hF⟩
end Jvm.Pilot.@@N@@
namespace Jvm.Pilot.@@N@@
open Jvm Jvm.ClassFile Sem Op Lib Jvm.Free Jvm.Stand Jvm.Pilot.@@N@@.Jvm.D
/-! MADE BY PROGRAM (witnessworld.py) out of the Statement's table words and the real class files: 19 classes; the members and pool entries that the words name. The judged class is class 1, her method 1. -/
namespace start1
open Jvm.ClassFile
def u (s : String) : CpInfo := .utf8 (stringToUtf16 s)
/-- a pool by its gaps: so many unusable entries, then the entry; so many at the end -/
def gap : Nat → List CpInfo → List CpInfo
  | 0, r => r
  | n + 1, r => .unusable :: gap n r
def poolList (es : List (Nat × CpInfo)) (last : Nat) : List CpInfo := es.foldr (fun e r => gap e.1 (e.2 :: r)) (gap last [])
def pool (es : List (Nat × CpInfo)) (last : Nat) : Array CpInfo := ⟨poolList es last⟩
def fileOf (pool : Array CpInfo) (this : Nat) (attrs : Array Attribute := #[]) (ms : Array MethodInfo := #[]) (fl : Nat := 33) (sup : Nat := 0) (ifs : Array Nat := #[]) (fds : Array FieldInfo := #[]) : ClassFile where
  minorVersion := 0
  majorVersion := 65
  constantPool := pool
  accessFlags := fl
  thisClass := this
  superClass := sup
  interfaces := ifs
  fields := fds
  methods := ms
  attributes := attrs
def plain (name : String) (sup : Option ClassId) : Class where
  name := name
  kind := .ordinary
  loader := none
  accessFlags := 33
  super := sup
  interfaces := #[]
  cf := none
  fields := #[]
  methods := #[]
  instanceTypes := #[]
  staticTypes := #[]
  resolved := #[]
  callSites := []
  init := .initialized
  statics := none
  mirror := none

def pool0 : Array CpInfo := pool [(5, u "<init>"), (0, u "()V"), (1, .class_ 10), (1, u "java/lang/Object")] 113

def k0c0 : Code := { maxStack := 0, maxLocals := 1, code := object_method_1_code, exceptionTable := #[], attributes := #[] }
def k0m0 : Method := { name := "<init>", desc := "()V", sig := { parameters := [], returnType := none }, accessFlags := 1, code := some k0c0 }
/-- java/lang/Object -/
def k0 : Class := { plain "java/lang/Object" none with
  accessFlags := 33
  interfaces := #[]
  cf := some (fileOf pool0 8 #[] #[{ accessFlags := 1, nameIndex := 5, descriptorIndex := 6, attributes := #[] }] 33 0 #[] #[])
  fields := #[]
  methods := #[k0m0]
  instanceTypes := #[]
  staticTypes := #[]
  resolved := Array.replicate 124 none
  statics := none }

def pool1 : Array CpInfo := pool [(2, .class_ 4), (0, .nameAndType 5 6), (0, u "java/lang/Object"), (0, u "<init>"), (0, u "()V"), (0, .class_ 8), (0, u "com/example/attache/attache/PendingKey"), (0, .methodref 7 3), (0, .methodref 11 12), (0, .class_ 13), (0, .nameAndType 14 15), (0, u "java/lang/Integer"), (0, u "valueOf"), (0, u "(I)Ljava/lang/Integer;"), (0, .methodref 17 18), (0, .class_ 19), (0, .nameAndType 14 20), (0, u "java/lang/Long"), (0, u "(J)Ljava/lang/Long;"), (0, .methodref 7 22), (0, .nameAndType 23 24), (0, u "generated"), (0, u "(Ljava/lang/Object;)V"), (0, .methodref 7 26), (0, .nameAndType 23 27), (0, u "()Ljava/lang/Object;"), (0, .class_ 29), (0, u "com/example/attache/attache/PendingKeyGeneratedPinLaw"), (2, u "law"), (0, u "(IJI)Z")] 3

def k1m0 : Method := { name := "<init>", desc := "()V", sig := { parameters := [], returnType := none }, accessFlags := 1, code := none }
def k1c1 : Code := { maxStack := 2, maxLocals := 11, code := code, exceptionTable := #[], attributes := #[] }
def k1m1 : Method := { name := "law", desc := "(IJI)Z", sig := { parameters := [.int, .long, .int], returnType := some .boolean }, accessFlags := 9, code := some k1c1 }
/-- com/example/attache/attache/PendingKeyGeneratedPinLaw -/
def k1 : Class := { plain "com/example/attache/attache/PendingKeyGeneratedPinLaw" (some 0) with
  accessFlags := 49
  interfaces := #[]
  cf := some (fileOf pool1 28 #[] #[{ accessFlags := 1, nameIndex := 5, descriptorIndex := 6, attributes := #[] }, { accessFlags := 9, nameIndex := 32, descriptorIndex := 33, attributes := #[] }] 49 2 #[] #[])
  fields := #[]
  methods := #[k1m0, k1m1]
  instanceTypes := #[]
  staticTypes := #[]
  resolved := Array.replicate 37 none
  statics := none }

def pool2 : Array CpInfo := pool [(1, .methodref 2 3), (0, .class_ 4), (0, .nameAndType 5 6), (0, u "java/lang/Object"), (0, u "<init>"), (0, u "()V"), (0, .fieldref 8 9), (0, .class_ 10), (0, .nameAndType 11 12), (0, u "com/example/attache/attache/PendingKey"), (0, u "generated"), (0, u "Ljava/lang/Object;"), (9, u "()Ljava/lang/Object;"), (12, u "(Ljava/lang/Object;)V")] 3

def k2c0 : Code := { maxStack := 1, maxLocals := 1, code := prog_1_method_1_code, exceptionTable := #[], attributes := #[] }
def k2m0 : Method := { name := "<init>", desc := "()V", sig := { parameters := [], returnType := none }, accessFlags := 0, code := some k2c0 }
def k2c1 : Code := { maxStack := 3, maxLocals := 1, code := prog_1_method_2_code, exceptionTable := #[], attributes := #[] }
def k2m1 : Method := { name := "generated", desc := "()Ljava/lang/Object;", sig := { parameters := [], returnType := some (.object "java/lang/Object") }, accessFlags := 0, code := some k2c1 }
def k2c2 : Code := { maxStack := 2, maxLocals := 2, code := prog_1_method_3_code, exceptionTable := #[], attributes := #[] }
def k2m2 : Method := { name := "generated", desc := "(Ljava/lang/Object;)V", sig := { parameters := [(.object "java/lang/Object")], returnType := none }, accessFlags := 0, code := some k2c2 }
/-- com/example/attache/attache/PendingKey -/
def k2 : Class := { plain "com/example/attache/attache/PendingKey" (some 0) with
  accessFlags := 32
  interfaces := #[]
  cf := some (fileOf pool2 8 #[] #[{ accessFlags := 0, nameIndex := 5, descriptorIndex := 6, attributes := #[] }, { accessFlags := 0, nameIndex := 11, descriptorIndex := 22, attributes := #[] }, { accessFlags := 0, nameIndex := 11, descriptorIndex := 35, attributes := #[] }] 32 2 #[] #[{ accessFlags := 2, nameIndex := 11, descriptorIndex := 12, attributes := #[] }])
  fields := #[{ name := "generated", type := (.object "java/lang/Object"), accessFlags := 2, slot := 0, constantValue := 0 }]
  methods := #[k2m0, k2m1, k2m2]
  instanceTypes := #[(.object "java/lang/Object")]
  staticTypes := #[]
  resolved := Array.replicate 39 none
  statics := none }

def pool3 : Array CpInfo := pool [(1, .class_ 2), (0, u "java/io/Serializable"), (0, .class_ 4), (0, u "java/lang/Object")] 2

/-- java/io/Serializable -/
def k3 : Class := { plain "java/io/Serializable" (some 0) with
  accessFlags := 1537
  interfaces := #[]
  cf := some (fileOf pool3 1 #[] #[] 1537 3 #[] #[])
  fields := #[]
  methods := #[]
  instanceTypes := #[]
  staticTypes := #[]
  resolved := Array.replicate 7 none
  statics := none }

def pool4 : Array CpInfo := pool [(1, .methodref 2 3), (0, .class_ 4), (0, .nameAndType 5 6), (0, u "java/lang/Object"), (0, u "<init>"), (0, u "()V"), (1, .class_ 10), (1, u "java/lang/Number"), (2, .class_ 14), (0, u "java/io/Serializable"), (0, u "serialVersionUID"), (0, u "J")] 20

def k4c0 : Code := { maxStack := 1, maxLocals := 1, code := jdk_18_method_1_code, exceptionTable := #[], attributes := #[] }
def k4m0 : Method := { name := "<init>", desc := "()V", sig := { parameters := [], returnType := none }, accessFlags := 1, code := some k4c0 }
/-- java/lang/Number -/
def k4 : Class := { plain "java/lang/Number" (some 0) with
  accessFlags := 1057
  interfaces := #[3]
  cf := some (fileOf pool4 8 #[] #[{ accessFlags := 1, nameIndex := 5, descriptorIndex := 6, attributes := #[] }] 1057 2 #[13] #[{ accessFlags := 26, nameIndex := 15, descriptorIndex := 16, attributes := #[] }])
  fields := #[{ name := "serialVersionUID", type := .long, accessFlags := 26, slot := 0, constantValue := 0 }]
  methods := #[k4m0]
  instanceTypes := #[]
  staticTypes := #[.long]
  resolved := Array.replicate 37 none
  statics := none }

def pool5 : Array CpInfo := pool [(1, .class_ 2), (0, u "java/lang/Comparable"), (0, .class_ 4), (0, u "java/lang/Object")] 7

/-- java/lang/Comparable -/
def k5 : Class := { plain "java/lang/Comparable" (some 0) with
  accessFlags := 1537
  interfaces := #[]
  cf := some (fileOf pool5 1 #[] #[] 1537 3 #[] #[])
  fields := #[]
  methods := #[]
  instanceTypes := #[]
  staticTypes := #[]
  resolved := Array.replicate 12 none
  statics := none }

def pool6 : Array CpInfo := pool [(1, .class_ 2), (0, u "java/lang/constant/Constable"), (0, .class_ 4), (0, u "java/lang/Object")] 6

/-- java/lang/constant/Constable -/
def k6 : Class := { plain "java/lang/constant/Constable" (some 0) with
  accessFlags := 1537
  interfaces := #[]
  cf := some (fileOf pool6 1 #[] #[] 1537 3 #[] #[])
  fields := #[]
  methods := #[]
  instanceTypes := #[]
  staticTypes := #[]
  resolved := Array.replicate 11 none
  statics := none }

def pool7 : Array CpInfo := pool [(1, .class_ 2), (0, u "java/lang/constant/ConstantDesc"), (0, .class_ 4), (0, u "java/lang/Object")] 32

/-- java/lang/constant/ConstantDesc -/
def k7 : Class := { plain "java/lang/constant/ConstantDesc" (some 0) with
  accessFlags := 1537
  interfaces := #[]
  cf := some (fileOf pool7 1 #[] #[] 1537 3 #[] #[])
  fields := #[]
  methods := #[]
  instanceTypes := #[]
  staticTypes := #[]
  resolved := Array.replicate 37 none
  statics := none }

def pool8 : Array CpInfo := pool [(1, .class_ 2), (0, u "java/lang/Integer"), (16, u "digits"), (0, u "[C"), (46, u "<init>"), (17, u "DigitOnes"), (0, u "[B"), (2, u "DigitTens"), (10, .nameAndType 67 101), (0, u "()V"), (85, u "valueOf"), (0, u "(I)Ljava/lang/Integer;"), (0, .class_ 190), (0, u "java/lang/Integer$IntegerCache"), (0, .fieldref 189 192), (0, .nameAndType 193 194), (0, u "high"), (0, u "I"), (0, .fieldref 189 196), (0, .nameAndType 197 198), (0, u "cache"), (0, u "[Ljava/lang/Integer;"), (0, .methodref 1 200), (0, .nameAndType 67 201), (0, u "(I)V"), (0, .methodref 203 100), (0, .class_ 204), (0, u "java/lang/Number"), (0, .fieldref 1 206), (0, .nameAndType 207 194), (0, u "value"), (94, u "TYPE"), (0, u "Ljava/lang/Class;"), (0, .class_ 305), (0, u "java/lang/Comparable"), (0, .class_ 307), (0, u "java/lang/constant/Constable"), (0, .class_ 309), (0, u "java/lang/constant/ConstantDesc"), (0, u "MIN_VALUE"), (1, u "MAX_VALUE"), (3, u "SIZE"), (1, u "BYTES"), (1, u "serialVersionUID"), (0, u "J")] 131

def k8c0 : Code := { maxStack := 3, maxLocals := 1, code := jdk_33_method_22_code, exceptionTable := #[], attributes := #[] }
def k8m0 : Method := { name := "valueOf", desc := "(I)Ljava/lang/Integer;", sig := { parameters := [.int], returnType := some (.object "java/lang/Integer") }, accessFlags := 9, code := some k8c0 }
def k8c1 : Code := { maxStack := 2, maxLocals := 2, code := jdk_33_method_23_code, exceptionTable := #[], attributes := #[] }
def k8m1 : Method := { name := "<init>", desc := "(I)V", sig := { parameters := [.int], returnType := none }, accessFlags := 1, code := some k8c1 }
/-- java/lang/Integer -/
def k8 : Class := { plain "java/lang/Integer" (some 4) with
  accessFlags := 49
  interfaces := #[5, 6, 7]
  cf := some (fileOf pool8 1 #[.nestMembers #[189]] #[{ accessFlags := 9, nameIndex := 187, descriptorIndex := 188, attributes := #[] }, { accessFlags := 1, nameIndex := 67, descriptorIndex := 201, attributes := #[] }] 49 203 #[304, 306, 308] #[{ accessFlags := 25, nameIndex := 310, descriptorIndex := 194, attributes := #[] }, { accessFlags := 25, nameIndex := 312, descriptorIndex := 194, attributes := #[] }, { accessFlags := 25, nameIndex := 302, descriptorIndex := 303, attributes := #[] }, { accessFlags := 24, nameIndex := 19, descriptorIndex := 20, attributes := #[] }, { accessFlags := 24, nameIndex := 89, descriptorIndex := 86, attributes := #[] }, { accessFlags := 24, nameIndex := 85, descriptorIndex := 86, attributes := #[] }, { accessFlags := 18, nameIndex := 207, descriptorIndex := 194, attributes := #[] }, { accessFlags := 25, nameIndex := 316, descriptorIndex := 194, attributes := #[] }, { accessFlags := 25, nameIndex := 318, descriptorIndex := 194, attributes := #[] }, { accessFlags := 26, nameIndex := 320, descriptorIndex := 321, attributes := #[] }])
  fields := #[{ name := "MIN_VALUE", type := .int, accessFlags := 25, slot := 0, constantValue := 0 }, { name := "MAX_VALUE", type := .int, accessFlags := 25, slot := 1, constantValue := 0 }, { name := "TYPE", type := (.object "java/lang/Class"), accessFlags := 25, slot := 2, constantValue := 0 }, { name := "digits", type := (.array .char), accessFlags := 24, slot := 3, constantValue := 0 }, { name := "DigitTens", type := (.array .byte), accessFlags := 24, slot := 4, constantValue := 0 }, { name := "DigitOnes", type := (.array .byte), accessFlags := 24, slot := 5, constantValue := 0 }, { name := "value", type := .int, accessFlags := 18, slot := 0, constantValue := 0 }, { name := "SIZE", type := .int, accessFlags := 25, slot := 6, constantValue := 0 }, { name := "BYTES", type := .int, accessFlags := 25, slot := 7, constantValue := 0 }, { name := "serialVersionUID", type := .long, accessFlags := 26, slot := 8, constantValue := 0 }]
  methods := #[k8m0, k8m1]
  instanceTypes := #[.int]
  staticTypes := #[.int, .int, (.object "java/lang/Class"), (.array .char), (.array .byte), (.array .byte), .int, .int, .long]
  resolved := Array.replicate 453 none
  statics := none }

def pool9 : Array CpInfo := pool [(2, .class_ 4), (1, u "java/lang/Object"), (0, u "<init>"), (0, u "()V"), (0, .class_ 8), (0, u "java/lang/Integer"), (7, .class_ 18), (1, u "java/lang/Integer$IntegerCache"), (0, u "$assertionsDisabled"), (0, u "Z"), (26, u "high"), (0, u "I"), (8, u "archivedCache"), (0, u "[Ljava/lang/Integer;"), (12, u "cache"), (0, u "low")] 27

def k9m0 : Method := { name := "<init>", desc := "()V", sig := { parameters := [], returnType := none }, accessFlags := 2, code := none }
/-- java/lang/Integer$IntegerCache -/
def k9 : Class := { plain "java/lang/Integer$IntegerCache" (some 0) with
  accessFlags := 48
  interfaces := #[]
  cf := some (fileOf pool9 16 #[.nestHost 7] #[{ accessFlags := 2, nameIndex := 5, descriptorIndex := 6, attributes := #[] }] 48 2 #[] #[{ accessFlags := 24, nameIndex := 72, descriptorIndex := 48, attributes := #[] }, { accessFlags := 24, nameIndex := 47, descriptorIndex := 48, attributes := #[] }, { accessFlags := 24, nameIndex := 71, descriptorIndex := 58, attributes := #[] }, { accessFlags := 8, nameIndex := 57, descriptorIndex := 58, attributes := #[] }, { accessFlags := 4120, nameIndex := 19, descriptorIndex := 20, attributes := #[] }])
  fields := #[{ name := "low", type := .int, accessFlags := 24, slot := 0, constantValue := 0 }, { name := "high", type := .int, accessFlags := 24, slot := 1, constantValue := 0 }, { name := "cache", type := (.array (.object "java/lang/Integer")), accessFlags := 24, slot := 2, constantValue := 0 }, { name := "archivedCache", type := (.array (.object "java/lang/Integer")), accessFlags := 8, slot := 3, constantValue := 0 }, { name := "$assertionsDisabled", type := .boolean, accessFlags := 4120, slot := 4, constantValue := 0 }]
  methods := #[k9m0]
  instanceTypes := #[]
  staticTypes := #[.int, .int, (.array (.object "java/lang/Integer")), (.array (.object "java/lang/Integer")), .boolean]
  resolved := Array.replicate 100 none
  statics := some 0 }

def pool10 : Array CpInfo := pool [(1, .class_ 2), (0, u "java/lang/Long"), (55, .nameAndType 59 60), (0, u "<init>"), (0, u "()V"), (24, u "valueOf"), (143, u "(J)Ljava/lang/Long;"), (0, .long 18446744073709551488), (1, .long 127), (1, .fieldref 235 236), (0, .class_ 237), (0, .nameAndType 238 239), (0, u "java/lang/Long$LongCache"), (0, u "cache"), (0, u "[Ljava/lang/Long;"), (0, .methodref 1 241), (0, .nameAndType 59 242), (0, u "(J)V"), (27, .methodref 271 58), (0, .class_ 272), (0, u "java/lang/Number"), (0, .fieldref 1 274), (0, .nameAndType 275 276), (0, u "value"), (0, u "J"), (84, u "TYPE"), (0, u "Ljava/lang/Class;"), (0, .class_ 364), (0, u "java/lang/Comparable"), (0, .class_ 366), (0, u "java/lang/constant/Constable"), (0, .class_ 368), (0, u "java/lang/constant/ConstantDesc"), (0, u "MIN_VALUE"), (1, u "MAX_VALUE"), (4, u "SIZE"), (0, u "I"), (1, u "BYTES"), (1, u "serialVersionUID")] 142

def k10c0 : Code := { maxStack := 4, maxLocals := 3, code := jdk_35_method_24_code, exceptionTable := #[], attributes := #[] }
def k10m0 : Method := { name := "valueOf", desc := "(J)Ljava/lang/Long;", sig := { parameters := [.long], returnType := some (.object "java/lang/Long") }, accessFlags := 9, code := some k10c0 }
def k10c1 : Code := { maxStack := 3, maxLocals := 3, code := jdk_35_method_26_code, exceptionTable := #[], attributes := #[] }
def k10m1 : Method := { name := "<init>", desc := "(J)V", sig := { parameters := [.long], returnType := none }, accessFlags := 1, code := some k10c1 }
/-- java/lang/Long -/
def k10 : Class := { plain "java/lang/Long" (some 4) with
  accessFlags := 49
  interfaces := #[5, 6, 7]
  cf := some (fileOf pool10 1 #[.nestMembers #[235]] #[{ accessFlags := 9, nameIndex := 85, descriptorIndex := 229, attributes := #[] }, { accessFlags := 1, nameIndex := 59, descriptorIndex := 242, attributes := #[] }] 49 271 #[363, 365, 367] #[{ accessFlags := 25, nameIndex := 369, descriptorIndex := 276, attributes := #[] }, { accessFlags := 25, nameIndex := 371, descriptorIndex := 276, attributes := #[] }, { accessFlags := 25, nameIndex := 361, descriptorIndex := 362, attributes := #[] }, { accessFlags := 18, nameIndex := 275, descriptorIndex := 276, attributes := #[] }, { accessFlags := 25, nameIndex := 376, descriptorIndex := 377, attributes := #[] }, { accessFlags := 25, nameIndex := 379, descriptorIndex := 377, attributes := #[] }, { accessFlags := 26, nameIndex := 381, descriptorIndex := 276, attributes := #[] }])
  fields := #[{ name := "MIN_VALUE", type := .long, accessFlags := 25, slot := 0, constantValue := 0 }, { name := "MAX_VALUE", type := .long, accessFlags := 25, slot := 1, constantValue := 0 }, { name := "TYPE", type := (.object "java/lang/Class"), accessFlags := 25, slot := 2, constantValue := 0 }, { name := "value", type := .long, accessFlags := 18, slot := 0, constantValue := 0 }, { name := "SIZE", type := .int, accessFlags := 25, slot := 3, constantValue := 0 }, { name := "BYTES", type := .int, accessFlags := 25, slot := 4, constantValue := 0 }, { name := "serialVersionUID", type := .long, accessFlags := 26, slot := 5, constantValue := 0 }]
  methods := #[k10m0, k10m1]
  instanceTypes := #[.long]
  staticTypes := #[.long, .long, (.object "java/lang/Class"), .int, .int, .long]
  resolved := Array.replicate 524 none
  statics := none }

def pool11 : Array CpInfo := pool [(2, .class_ 4), (1, u "java/lang/Object"), (0, u "<init>"), (0, u "()V"), (0, .class_ 8), (0, u "java/lang/Long"), (7, .class_ 18), (1, u "java/lang/Long$LongCache"), (0, u "$assertionsDisabled"), (0, u "Z"), (8, u "archivedCache"), (0, u "[Ljava/lang/Long;"), (7, u "cache")] 24

def k11m0 : Method := { name := "<init>", desc := "()V", sig := { parameters := [], returnType := none }, accessFlags := 2, code := none }
/-- java/lang/Long$LongCache -/
def k11 : Class := { plain "java/lang/Long$LongCache" (some 0) with
  accessFlags := 48
  interfaces := #[]
  cf := some (fileOf pool11 16 #[.nestHost 7] #[{ accessFlags := 2, nameIndex := 5, descriptorIndex := 6, attributes := #[] }] 48 2 #[] #[{ accessFlags := 24, nameIndex := 38, descriptorIndex := 30, attributes := #[] }, { accessFlags := 8, nameIndex := 29, descriptorIndex := 30, attributes := #[] }, { accessFlags := 4120, nameIndex := 19, descriptorIndex := 20, attributes := #[] }])
  fields := #[{ name := "cache", type := (.array (.object "java/lang/Long")), accessFlags := 24, slot := 0, constantValue := 0 }, { name := "archivedCache", type := (.array (.object "java/lang/Long")), accessFlags := 8, slot := 1, constantValue := 0 }, { name := "$assertionsDisabled", type := .boolean, accessFlags := 4120, slot := 2, constantValue := 0 }]
  methods := #[k11m0]
  instanceTypes := #[]
  staticTypes := #[(.array (.object "java/lang/Long")), (.array (.object "java/lang/Long")), .boolean]
  resolved := Array.replicate 63 none
  statics := some 1 }

def pool12 : Array CpInfo := pool [(1, u "java/lang/Cloneable"), (0, .class_ 1), (0, u "java/lang/Object"), (0, .class_ 3)] 3

/-- java/lang/Cloneable -/
def k12 : Class := { plain "java/lang/Cloneable" (some 0) with
  accessFlags := 1537
  interfaces := #[]
  cf := some (fileOf pool12 2 #[] #[] 1537 4 #[] #[])
  fields := #[]
  methods := #[]
  instanceTypes := #[]
  staticTypes := #[]
  resolved := Array.replicate 8 none
  statics := none }

/-- the primitive byte -/
def k13 : Class := { plain "byte" none with kind := .primitive 'B', accessFlags := 0x411 }
/-- [B -/
def k14 : Class := { plain "[B" (some 0) with kind := .array 13 .byte, interfaces := #[12, 3], accessFlags := 1041 }

/-- the primitive int -/
def k15 : Class := { plain "int" none with kind := .primitive 'I', accessFlags := 0x411 }
/-- [I -/
def k16 : Class := { plain "[I" (some 0) with kind := .array 15 .int, interfaces := #[12, 3], accessFlags := 1041 }

/-- [Ljava/lang/Integer; -/
def k17 : Class := { plain "[Ljava/lang/Integer;" (some 0) with kind := .array 8 (.object "java/lang/Integer"), interfaces := #[12, 3], accessFlags := 1041 }

/-- [Ljava/lang/Long; -/
def k18 : Class := { plain "[Ljava/lang/Long;" (some 0) with kind := .array 10 (.object "java/lang/Long"), interfaces := #[12, 3], accessFlags := 1041 }

def heap : Heap := #[{ cls := 9, slots := #[.int 0, .int 127, .ref 2, .null, .int 0], vm := .statics 9 },
  { cls := 11, slots := #[.ref 3, .null, .int 0], vm := .statics 11 },
  { cls := 17, slots := #[.ref 4, .ref 5, .ref 6, .ref 7, .ref 8, .ref 9, .ref 10, .ref 11, .ref 12, .ref 13, .ref 14, .ref 15, .ref 16, .ref 17, .ref 18, .ref 19, .ref 20, .ref 21, .ref 22, .ref 23, .ref 24, .ref 25, .ref 26, .ref 27, .ref 28, .ref 29, .ref 30, .ref 31, .ref 32, .ref 33, .ref 34, .ref 35, .ref 36, .ref 37, .ref 38, .ref 39, .ref 40, .ref 41, .ref 42, .ref 43, .ref 44, .ref 45, .ref 46, .ref 47, .ref 48, .ref 49, .ref 50, .ref 51, .ref 52, .ref 53, .ref 54, .ref 55, .ref 56, .ref 57, .ref 58, .ref 59, .ref 60, .ref 61, .ref 62, .ref 63, .ref 64, .ref 65, .ref 66, .ref 67, .ref 68, .ref 69, .ref 70, .ref 71, .ref 72, .ref 73, .ref 74, .ref 75, .ref 76, .ref 77, .ref 78, .ref 79, .ref 80, .ref 81, .ref 82, .ref 83, .ref 84, .ref 85, .ref 86, .ref 87, .ref 88, .ref 89, .ref 90, .ref 91, .ref 92, .ref 93, .ref 94, .ref 95, .ref 96, .ref 97, .ref 98, .ref 99, .ref 100, .ref 101, .ref 102, .ref 103, .ref 104, .ref 105, .ref 106, .ref 107, .ref 108, .ref 109, .ref 110, .ref 111, .ref 112, .ref 113, .ref 114, .ref 115, .ref 116, .ref 117, .ref 118, .ref 119, .ref 120, .ref 121, .ref 122, .ref 123, .ref 124, .ref 125, .ref 126, .ref 127, .ref 128, .ref 129, .ref 130, .ref 131, .ref 132, .ref 133, .ref 134, .ref 135, .ref 136, .ref 137, .ref 138, .ref 139, .ref 140, .ref 141, .ref 142, .ref 143, .ref 144, .ref 145, .ref 146, .ref 147, .ref 148, .ref 149, .ref 150, .ref 151, .ref 152, .ref 153, .ref 154, .ref 155, .ref 156, .ref 157, .ref 158, .ref 159, .ref 160, .ref 161, .ref 162, .ref 163, .ref 164, .ref 165, .ref 166, .ref 167, .ref 168, .ref 169, .ref 170, .ref 171, .ref 172, .ref 173, .ref 174, .ref 175, .ref 176, .ref 177, .ref 178, .ref 179, .ref 180, .ref 181, .ref 182, .ref 183, .ref 184, .ref 185, .ref 186, .ref 187, .ref 188, .ref 189, .ref 190, .ref 191, .ref 192, .ref 193, .ref 194, .ref 195, .ref 196, .ref 197, .ref 198, .ref 199, .ref 200, .ref 201, .ref 202, .ref 203, .ref 204, .ref 205, .ref 206, .ref 207, .ref 208, .ref 209, .ref 210, .ref 211, .ref 212, .ref 213, .ref 214, .ref 215, .ref 216, .ref 217, .ref 218, .ref 219, .ref 220, .ref 221, .ref 222, .ref 223, .ref 224, .ref 225, .ref 226, .ref 227, .ref 228, .ref 229, .ref 230, .ref 231, .ref 232, .ref 233, .ref 234, .ref 235, .ref 236, .ref 237, .ref 238, .ref 239, .ref 240, .ref 241, .ref 242, .ref 243, .ref 244, .ref 245, .ref 246, .ref 247, .ref 248, .ref 249, .ref 250, .ref 251, .ref 252, .ref 253, .ref 254, .ref 255, .ref 256, .ref 257, .ref 258, .ref 259], vm := .none },
  { cls := 18, slots := #[.ref 260, .ref 261, .ref 262, .ref 263, .ref 264, .ref 265, .ref 266, .ref 267, .ref 268, .ref 269, .ref 270, .ref 271, .ref 272, .ref 273, .ref 274, .ref 275, .ref 276, .ref 277, .ref 278, .ref 279, .ref 280, .ref 281, .ref 282, .ref 283, .ref 284, .ref 285, .ref 286, .ref 287, .ref 288, .ref 289, .ref 290, .ref 291, .ref 292, .ref 293, .ref 294, .ref 295, .ref 296, .ref 297, .ref 298, .ref 299, .ref 300, .ref 301, .ref 302, .ref 303, .ref 304, .ref 305, .ref 306, .ref 307, .ref 308, .ref 309, .ref 310, .ref 311, .ref 312, .ref 313, .ref 314, .ref 315, .ref 316, .ref 317, .ref 318, .ref 319, .ref 320, .ref 321, .ref 322, .ref 323, .ref 324, .ref 325, .ref 326, .ref 327, .ref 328, .ref 329, .ref 330, .ref 331, .ref 332, .ref 333, .ref 334, .ref 335, .ref 336, .ref 337, .ref 338, .ref 339, .ref 340, .ref 341, .ref 342, .ref 343, .ref 344, .ref 345, .ref 346, .ref 347, .ref 348, .ref 349, .ref 350, .ref 351, .ref 352, .ref 353, .ref 354, .ref 355, .ref 356, .ref 357, .ref 358, .ref 359, .ref 360, .ref 361, .ref 362, .ref 363, .ref 364, .ref 365, .ref 366, .ref 367, .ref 368, .ref 369, .ref 370, .ref 371, .ref 372, .ref 373, .ref 374, .ref 375, .ref 376, .ref 377, .ref 378, .ref 379, .ref 380, .ref 381, .ref 382, .ref 383, .ref 384, .ref 385, .ref 386, .ref 387, .ref 388, .ref 389, .ref 390, .ref 391, .ref 392, .ref 393, .ref 394, .ref 395, .ref 396, .ref 397, .ref 398, .ref 399, .ref 400, .ref 401, .ref 402, .ref 403, .ref 404, .ref 405, .ref 406, .ref 407, .ref 408, .ref 409, .ref 410, .ref 411, .ref 412, .ref 413, .ref 414, .ref 415, .ref 416, .ref 417, .ref 418, .ref 419, .ref 420, .ref 421, .ref 422, .ref 423, .ref 424, .ref 425, .ref 426, .ref 427, .ref 428, .ref 429, .ref 430, .ref 431, .ref 432, .ref 433, .ref 434, .ref 435, .ref 436, .ref 437, .ref 438, .ref 439, .ref 440, .ref 441, .ref 442, .ref 443, .ref 444, .ref 445, .ref 446, .ref 447, .ref 448, .ref 449, .ref 450, .ref 451, .ref 452, .ref 453, .ref 454, .ref 455, .ref 456, .ref 457, .ref 458, .ref 459, .ref 460, .ref 461, .ref 462, .ref 463, .ref 464, .ref 465, .ref 466, .ref 467, .ref 468, .ref 469, .ref 470, .ref 471, .ref 472, .ref 473, .ref 474, .ref 475, .ref 476, .ref 477, .ref 478, .ref 479, .ref 480, .ref 481, .ref 482, .ref 483, .ref 484, .ref 485, .ref 486, .ref 487, .ref 488, .ref 489, .ref 490, .ref 491, .ref 492, .ref 493, .ref 494, .ref 495, .ref 496, .ref 497, .ref 498, .ref 499, .ref 500, .ref 501, .ref 502, .ref 503, .ref 504, .ref 505, .ref 506, .ref 507, .ref 508, .ref 509, .ref 510, .ref 511, .ref 512, .ref 513, .ref 514, .ref 515], vm := .none },
  { cls := 8, slots := #[.int (-128)], vm := .none },
  { cls := 8, slots := #[.int (-127)], vm := .none },
  { cls := 8, slots := #[.int (-126)], vm := .none },
  { cls := 8, slots := #[.int (-125)], vm := .none },
  { cls := 8, slots := #[.int (-124)], vm := .none },
  { cls := 8, slots := #[.int (-123)], vm := .none },
  { cls := 8, slots := #[.int (-122)], vm := .none },
  { cls := 8, slots := #[.int (-121)], vm := .none },
  { cls := 8, slots := #[.int (-120)], vm := .none },
  { cls := 8, slots := #[.int (-119)], vm := .none },
  { cls := 8, slots := #[.int (-118)], vm := .none },
  { cls := 8, slots := #[.int (-117)], vm := .none },
  { cls := 8, slots := #[.int (-116)], vm := .none },
  { cls := 8, slots := #[.int (-115)], vm := .none },
  { cls := 8, slots := #[.int (-114)], vm := .none },
  { cls := 8, slots := #[.int (-113)], vm := .none },
  { cls := 8, slots := #[.int (-112)], vm := .none },
  { cls := 8, slots := #[.int (-111)], vm := .none },
  { cls := 8, slots := #[.int (-110)], vm := .none },
  { cls := 8, slots := #[.int (-109)], vm := .none },
  { cls := 8, slots := #[.int (-108)], vm := .none },
  { cls := 8, slots := #[.int (-107)], vm := .none },
  { cls := 8, slots := #[.int (-106)], vm := .none },
  { cls := 8, slots := #[.int (-105)], vm := .none },
  { cls := 8, slots := #[.int (-104)], vm := .none },
  { cls := 8, slots := #[.int (-103)], vm := .none },
  { cls := 8, slots := #[.int (-102)], vm := .none },
  { cls := 8, slots := #[.int (-101)], vm := .none },
  { cls := 8, slots := #[.int (-100)], vm := .none },
  { cls := 8, slots := #[.int (-99)], vm := .none },
  { cls := 8, slots := #[.int (-98)], vm := .none },
  { cls := 8, slots := #[.int (-97)], vm := .none },
  { cls := 8, slots := #[.int (-96)], vm := .none },
  { cls := 8, slots := #[.int (-95)], vm := .none },
  { cls := 8, slots := #[.int (-94)], vm := .none },
  { cls := 8, slots := #[.int (-93)], vm := .none },
  { cls := 8, slots := #[.int (-92)], vm := .none },
  { cls := 8, slots := #[.int (-91)], vm := .none },
  { cls := 8, slots := #[.int (-90)], vm := .none },
  { cls := 8, slots := #[.int (-89)], vm := .none },
  { cls := 8, slots := #[.int (-88)], vm := .none },
  { cls := 8, slots := #[.int (-87)], vm := .none },
  { cls := 8, slots := #[.int (-86)], vm := .none },
  { cls := 8, slots := #[.int (-85)], vm := .none },
  { cls := 8, slots := #[.int (-84)], vm := .none },
  { cls := 8, slots := #[.int (-83)], vm := .none },
  { cls := 8, slots := #[.int (-82)], vm := .none },
  { cls := 8, slots := #[.int (-81)], vm := .none },
  { cls := 8, slots := #[.int (-80)], vm := .none },
  { cls := 8, slots := #[.int (-79)], vm := .none },
  { cls := 8, slots := #[.int (-78)], vm := .none },
  { cls := 8, slots := #[.int (-77)], vm := .none },
  { cls := 8, slots := #[.int (-76)], vm := .none },
  { cls := 8, slots := #[.int (-75)], vm := .none },
  { cls := 8, slots := #[.int (-74)], vm := .none },
  { cls := 8, slots := #[.int (-73)], vm := .none },
  { cls := 8, slots := #[.int (-72)], vm := .none },
  { cls := 8, slots := #[.int (-71)], vm := .none },
  { cls := 8, slots := #[.int (-70)], vm := .none },
  { cls := 8, slots := #[.int (-69)], vm := .none },
  { cls := 8, slots := #[.int (-68)], vm := .none },
  { cls := 8, slots := #[.int (-67)], vm := .none },
  { cls := 8, slots := #[.int (-66)], vm := .none },
  { cls := 8, slots := #[.int (-65)], vm := .none },
  { cls := 8, slots := #[.int (-64)], vm := .none },
  { cls := 8, slots := #[.int (-63)], vm := .none },
  { cls := 8, slots := #[.int (-62)], vm := .none },
  { cls := 8, slots := #[.int (-61)], vm := .none },
  { cls := 8, slots := #[.int (-60)], vm := .none },
  { cls := 8, slots := #[.int (-59)], vm := .none },
  { cls := 8, slots := #[.int (-58)], vm := .none },
  { cls := 8, slots := #[.int (-57)], vm := .none },
  { cls := 8, slots := #[.int (-56)], vm := .none },
  { cls := 8, slots := #[.int (-55)], vm := .none },
  { cls := 8, slots := #[.int (-54)], vm := .none },
  { cls := 8, slots := #[.int (-53)], vm := .none },
  { cls := 8, slots := #[.int (-52)], vm := .none },
  { cls := 8, slots := #[.int (-51)], vm := .none },
  { cls := 8, slots := #[.int (-50)], vm := .none },
  { cls := 8, slots := #[.int (-49)], vm := .none },
  { cls := 8, slots := #[.int (-48)], vm := .none },
  { cls := 8, slots := #[.int (-47)], vm := .none },
  { cls := 8, slots := #[.int (-46)], vm := .none },
  { cls := 8, slots := #[.int (-45)], vm := .none },
  { cls := 8, slots := #[.int (-44)], vm := .none },
  { cls := 8, slots := #[.int (-43)], vm := .none },
  { cls := 8, slots := #[.int (-42)], vm := .none },
  { cls := 8, slots := #[.int (-41)], vm := .none },
  { cls := 8, slots := #[.int (-40)], vm := .none },
  { cls := 8, slots := #[.int (-39)], vm := .none },
  { cls := 8, slots := #[.int (-38)], vm := .none },
  { cls := 8, slots := #[.int (-37)], vm := .none },
  { cls := 8, slots := #[.int (-36)], vm := .none },
  { cls := 8, slots := #[.int (-35)], vm := .none },
  { cls := 8, slots := #[.int (-34)], vm := .none },
  { cls := 8, slots := #[.int (-33)], vm := .none },
  { cls := 8, slots := #[.int (-32)], vm := .none },
  { cls := 8, slots := #[.int (-31)], vm := .none },
  { cls := 8, slots := #[.int (-30)], vm := .none },
  { cls := 8, slots := #[.int (-29)], vm := .none },
  { cls := 8, slots := #[.int (-28)], vm := .none },
  { cls := 8, slots := #[.int (-27)], vm := .none },
  { cls := 8, slots := #[.int (-26)], vm := .none },
  { cls := 8, slots := #[.int (-25)], vm := .none },
  { cls := 8, slots := #[.int (-24)], vm := .none },
  { cls := 8, slots := #[.int (-23)], vm := .none },
  { cls := 8, slots := #[.int (-22)], vm := .none },
  { cls := 8, slots := #[.int (-21)], vm := .none },
  { cls := 8, slots := #[.int (-20)], vm := .none },
  { cls := 8, slots := #[.int (-19)], vm := .none },
  { cls := 8, slots := #[.int (-18)], vm := .none },
  { cls := 8, slots := #[.int (-17)], vm := .none },
  { cls := 8, slots := #[.int (-16)], vm := .none },
  { cls := 8, slots := #[.int (-15)], vm := .none },
  { cls := 8, slots := #[.int (-14)], vm := .none },
  { cls := 8, slots := #[.int (-13)], vm := .none },
  { cls := 8, slots := #[.int (-12)], vm := .none },
  { cls := 8, slots := #[.int (-11)], vm := .none },
  { cls := 8, slots := #[.int (-10)], vm := .none },
  { cls := 8, slots := #[.int (-9)], vm := .none },
  { cls := 8, slots := #[.int (-8)], vm := .none },
  { cls := 8, slots := #[.int (-7)], vm := .none },
  { cls := 8, slots := #[.int (-6)], vm := .none },
  { cls := 8, slots := #[.int (-5)], vm := .none },
  { cls := 8, slots := #[.int (-4)], vm := .none },
  { cls := 8, slots := #[.int (-3)], vm := .none },
  { cls := 8, slots := #[.int (-2)], vm := .none },
  { cls := 8, slots := #[.int (-1)], vm := .none },
  { cls := 8, slots := #[.int 0], vm := .none },
  { cls := 8, slots := #[.int 1], vm := .none },
  { cls := 8, slots := #[.int 2], vm := .none },
  { cls := 8, slots := #[.int 3], vm := .none },
  { cls := 8, slots := #[.int 4], vm := .none },
  { cls := 8, slots := #[.int 5], vm := .none },
  { cls := 8, slots := #[.int 6], vm := .none },
  { cls := 8, slots := #[.int 7], vm := .none },
  { cls := 8, slots := #[.int 8], vm := .none },
  { cls := 8, slots := #[.int 9], vm := .none },
  { cls := 8, slots := #[.int 10], vm := .none },
  { cls := 8, slots := #[.int 11], vm := .none },
  { cls := 8, slots := #[.int 12], vm := .none },
  { cls := 8, slots := #[.int 13], vm := .none },
  { cls := 8, slots := #[.int 14], vm := .none },
  { cls := 8, slots := #[.int 15], vm := .none },
  { cls := 8, slots := #[.int 16], vm := .none },
  { cls := 8, slots := #[.int 17], vm := .none },
  { cls := 8, slots := #[.int 18], vm := .none },
  { cls := 8, slots := #[.int 19], vm := .none },
  { cls := 8, slots := #[.int 20], vm := .none },
  { cls := 8, slots := #[.int 21], vm := .none },
  { cls := 8, slots := #[.int 22], vm := .none },
  { cls := 8, slots := #[.int 23], vm := .none },
  { cls := 8, slots := #[.int 24], vm := .none },
  { cls := 8, slots := #[.int 25], vm := .none },
  { cls := 8, slots := #[.int 26], vm := .none },
  { cls := 8, slots := #[.int 27], vm := .none },
  { cls := 8, slots := #[.int 28], vm := .none },
  { cls := 8, slots := #[.int 29], vm := .none },
  { cls := 8, slots := #[.int 30], vm := .none },
  { cls := 8, slots := #[.int 31], vm := .none },
  { cls := 8, slots := #[.int 32], vm := .none },
  { cls := 8, slots := #[.int 33], vm := .none },
  { cls := 8, slots := #[.int 34], vm := .none },
  { cls := 8, slots := #[.int 35], vm := .none },
  { cls := 8, slots := #[.int 36], vm := .none },
  { cls := 8, slots := #[.int 37], vm := .none },
  { cls := 8, slots := #[.int 38], vm := .none },
  { cls := 8, slots := #[.int 39], vm := .none },
  { cls := 8, slots := #[.int 40], vm := .none },
  { cls := 8, slots := #[.int 41], vm := .none },
  { cls := 8, slots := #[.int 42], vm := .none },
  { cls := 8, slots := #[.int 43], vm := .none },
  { cls := 8, slots := #[.int 44], vm := .none },
  { cls := 8, slots := #[.int 45], vm := .none },
  { cls := 8, slots := #[.int 46], vm := .none },
  { cls := 8, slots := #[.int 47], vm := .none },
  { cls := 8, slots := #[.int 48], vm := .none },
  { cls := 8, slots := #[.int 49], vm := .none },
  { cls := 8, slots := #[.int 50], vm := .none },
  { cls := 8, slots := #[.int 51], vm := .none },
  { cls := 8, slots := #[.int 52], vm := .none },
  { cls := 8, slots := #[.int 53], vm := .none },
  { cls := 8, slots := #[.int 54], vm := .none },
  { cls := 8, slots := #[.int 55], vm := .none },
  { cls := 8, slots := #[.int 56], vm := .none },
  { cls := 8, slots := #[.int 57], vm := .none },
  { cls := 8, slots := #[.int 58], vm := .none },
  { cls := 8, slots := #[.int 59], vm := .none },
  { cls := 8, slots := #[.int 60], vm := .none },
  { cls := 8, slots := #[.int 61], vm := .none },
  { cls := 8, slots := #[.int 62], vm := .none },
  { cls := 8, slots := #[.int 63], vm := .none },
  { cls := 8, slots := #[.int 64], vm := .none },
  { cls := 8, slots := #[.int 65], vm := .none },
  { cls := 8, slots := #[.int 66], vm := .none },
  { cls := 8, slots := #[.int 67], vm := .none },
  { cls := 8, slots := #[.int 68], vm := .none },
  { cls := 8, slots := #[.int 69], vm := .none },
  { cls := 8, slots := #[.int 70], vm := .none },
  { cls := 8, slots := #[.int 71], vm := .none },
  { cls := 8, slots := #[.int 72], vm := .none },
  { cls := 8, slots := #[.int 73], vm := .none },
  { cls := 8, slots := #[.int 74], vm := .none },
  { cls := 8, slots := #[.int 75], vm := .none },
  { cls := 8, slots := #[.int 76], vm := .none },
  { cls := 8, slots := #[.int 77], vm := .none },
  { cls := 8, slots := #[.int 78], vm := .none },
  { cls := 8, slots := #[.int 79], vm := .none },
  { cls := 8, slots := #[.int 80], vm := .none },
  { cls := 8, slots := #[.int 81], vm := .none },
  { cls := 8, slots := #[.int 82], vm := .none },
  { cls := 8, slots := #[.int 83], vm := .none },
  { cls := 8, slots := #[.int 84], vm := .none },
  { cls := 8, slots := #[.int 85], vm := .none },
  { cls := 8, slots := #[.int 86], vm := .none },
  { cls := 8, slots := #[.int 87], vm := .none },
  { cls := 8, slots := #[.int 88], vm := .none },
  { cls := 8, slots := #[.int 89], vm := .none },
  { cls := 8, slots := #[.int 90], vm := .none },
  { cls := 8, slots := #[.int 91], vm := .none },
  { cls := 8, slots := #[.int 92], vm := .none },
  { cls := 8, slots := #[.int 93], vm := .none },
  { cls := 8, slots := #[.int 94], vm := .none },
  { cls := 8, slots := #[.int 95], vm := .none },
  { cls := 8, slots := #[.int 96], vm := .none },
  { cls := 8, slots := #[.int 97], vm := .none },
  { cls := 8, slots := #[.int 98], vm := .none },
  { cls := 8, slots := #[.int 99], vm := .none },
  { cls := 8, slots := #[.int 100], vm := .none },
  { cls := 8, slots := #[.int 101], vm := .none },
  { cls := 8, slots := #[.int 102], vm := .none },
  { cls := 8, slots := #[.int 103], vm := .none },
  { cls := 8, slots := #[.int 104], vm := .none },
  { cls := 8, slots := #[.int 105], vm := .none },
  { cls := 8, slots := #[.int 106], vm := .none },
  { cls := 8, slots := #[.int 107], vm := .none },
  { cls := 8, slots := #[.int 108], vm := .none },
  { cls := 8, slots := #[.int 109], vm := .none },
  { cls := 8, slots := #[.int 110], vm := .none },
  { cls := 8, slots := #[.int 111], vm := .none },
  { cls := 8, slots := #[.int 112], vm := .none },
  { cls := 8, slots := #[.int 113], vm := .none },
  { cls := 8, slots := #[.int 114], vm := .none },
  { cls := 8, slots := #[.int 115], vm := .none },
  { cls := 8, slots := #[.int 116], vm := .none },
  { cls := 8, slots := #[.int 117], vm := .none },
  { cls := 8, slots := #[.int 118], vm := .none },
  { cls := 8, slots := #[.int 119], vm := .none },
  { cls := 8, slots := #[.int 120], vm := .none },
  { cls := 8, slots := #[.int 121], vm := .none },
  { cls := 8, slots := #[.int 122], vm := .none },
  { cls := 8, slots := #[.int 123], vm := .none },
  { cls := 8, slots := #[.int 124], vm := .none },
  { cls := 8, slots := #[.int 125], vm := .none },
  { cls := 8, slots := #[.int 126], vm := .none },
  { cls := 8, slots := #[.int 127], vm := .none },
  { cls := 10, slots := #[.long (-128)], vm := .none },
  { cls := 10, slots := #[.long (-127)], vm := .none },
  { cls := 10, slots := #[.long (-126)], vm := .none },
  { cls := 10, slots := #[.long (-125)], vm := .none },
  { cls := 10, slots := #[.long (-124)], vm := .none },
  { cls := 10, slots := #[.long (-123)], vm := .none },
  { cls := 10, slots := #[.long (-122)], vm := .none },
  { cls := 10, slots := #[.long (-121)], vm := .none },
  { cls := 10, slots := #[.long (-120)], vm := .none },
  { cls := 10, slots := #[.long (-119)], vm := .none },
  { cls := 10, slots := #[.long (-118)], vm := .none },
  { cls := 10, slots := #[.long (-117)], vm := .none },
  { cls := 10, slots := #[.long (-116)], vm := .none },
  { cls := 10, slots := #[.long (-115)], vm := .none },
  { cls := 10, slots := #[.long (-114)], vm := .none },
  { cls := 10, slots := #[.long (-113)], vm := .none },
  { cls := 10, slots := #[.long (-112)], vm := .none },
  { cls := 10, slots := #[.long (-111)], vm := .none },
  { cls := 10, slots := #[.long (-110)], vm := .none },
  { cls := 10, slots := #[.long (-109)], vm := .none },
  { cls := 10, slots := #[.long (-108)], vm := .none },
  { cls := 10, slots := #[.long (-107)], vm := .none },
  { cls := 10, slots := #[.long (-106)], vm := .none },
  { cls := 10, slots := #[.long (-105)], vm := .none },
  { cls := 10, slots := #[.long (-104)], vm := .none },
  { cls := 10, slots := #[.long (-103)], vm := .none },
  { cls := 10, slots := #[.long (-102)], vm := .none },
  { cls := 10, slots := #[.long (-101)], vm := .none },
  { cls := 10, slots := #[.long (-100)], vm := .none },
  { cls := 10, slots := #[.long (-99)], vm := .none },
  { cls := 10, slots := #[.long (-98)], vm := .none },
  { cls := 10, slots := #[.long (-97)], vm := .none },
  { cls := 10, slots := #[.long (-96)], vm := .none },
  { cls := 10, slots := #[.long (-95)], vm := .none },
  { cls := 10, slots := #[.long (-94)], vm := .none },
  { cls := 10, slots := #[.long (-93)], vm := .none },
  { cls := 10, slots := #[.long (-92)], vm := .none },
  { cls := 10, slots := #[.long (-91)], vm := .none },
  { cls := 10, slots := #[.long (-90)], vm := .none },
  { cls := 10, slots := #[.long (-89)], vm := .none },
  { cls := 10, slots := #[.long (-88)], vm := .none },
  { cls := 10, slots := #[.long (-87)], vm := .none },
  { cls := 10, slots := #[.long (-86)], vm := .none },
  { cls := 10, slots := #[.long (-85)], vm := .none },
  { cls := 10, slots := #[.long (-84)], vm := .none },
  { cls := 10, slots := #[.long (-83)], vm := .none },
  { cls := 10, slots := #[.long (-82)], vm := .none },
  { cls := 10, slots := #[.long (-81)], vm := .none },
  { cls := 10, slots := #[.long (-80)], vm := .none },
  { cls := 10, slots := #[.long (-79)], vm := .none },
  { cls := 10, slots := #[.long (-78)], vm := .none },
  { cls := 10, slots := #[.long (-77)], vm := .none },
  { cls := 10, slots := #[.long (-76)], vm := .none },
  { cls := 10, slots := #[.long (-75)], vm := .none },
  { cls := 10, slots := #[.long (-74)], vm := .none },
  { cls := 10, slots := #[.long (-73)], vm := .none },
  { cls := 10, slots := #[.long (-72)], vm := .none },
  { cls := 10, slots := #[.long (-71)], vm := .none },
  { cls := 10, slots := #[.long (-70)], vm := .none },
  { cls := 10, slots := #[.long (-69)], vm := .none },
  { cls := 10, slots := #[.long (-68)], vm := .none },
  { cls := 10, slots := #[.long (-67)], vm := .none },
  { cls := 10, slots := #[.long (-66)], vm := .none },
  { cls := 10, slots := #[.long (-65)], vm := .none },
  { cls := 10, slots := #[.long (-64)], vm := .none },
  { cls := 10, slots := #[.long (-63)], vm := .none },
  { cls := 10, slots := #[.long (-62)], vm := .none },
  { cls := 10, slots := #[.long (-61)], vm := .none },
  { cls := 10, slots := #[.long (-60)], vm := .none },
  { cls := 10, slots := #[.long (-59)], vm := .none },
  { cls := 10, slots := #[.long (-58)], vm := .none },
  { cls := 10, slots := #[.long (-57)], vm := .none },
  { cls := 10, slots := #[.long (-56)], vm := .none },
  { cls := 10, slots := #[.long (-55)], vm := .none },
  { cls := 10, slots := #[.long (-54)], vm := .none },
  { cls := 10, slots := #[.long (-53)], vm := .none },
  { cls := 10, slots := #[.long (-52)], vm := .none },
  { cls := 10, slots := #[.long (-51)], vm := .none },
  { cls := 10, slots := #[.long (-50)], vm := .none },
  { cls := 10, slots := #[.long (-49)], vm := .none },
  { cls := 10, slots := #[.long (-48)], vm := .none },
  { cls := 10, slots := #[.long (-47)], vm := .none },
  { cls := 10, slots := #[.long (-46)], vm := .none },
  { cls := 10, slots := #[.long (-45)], vm := .none },
  { cls := 10, slots := #[.long (-44)], vm := .none },
  { cls := 10, slots := #[.long (-43)], vm := .none },
  { cls := 10, slots := #[.long (-42)], vm := .none },
  { cls := 10, slots := #[.long (-41)], vm := .none },
  { cls := 10, slots := #[.long (-40)], vm := .none },
  { cls := 10, slots := #[.long (-39)], vm := .none },
  { cls := 10, slots := #[.long (-38)], vm := .none },
  { cls := 10, slots := #[.long (-37)], vm := .none },
  { cls := 10, slots := #[.long (-36)], vm := .none },
  { cls := 10, slots := #[.long (-35)], vm := .none },
  { cls := 10, slots := #[.long (-34)], vm := .none },
  { cls := 10, slots := #[.long (-33)], vm := .none },
  { cls := 10, slots := #[.long (-32)], vm := .none },
  { cls := 10, slots := #[.long (-31)], vm := .none },
  { cls := 10, slots := #[.long (-30)], vm := .none },
  { cls := 10, slots := #[.long (-29)], vm := .none },
  { cls := 10, slots := #[.long (-28)], vm := .none },
  { cls := 10, slots := #[.long (-27)], vm := .none },
  { cls := 10, slots := #[.long (-26)], vm := .none },
  { cls := 10, slots := #[.long (-25)], vm := .none },
  { cls := 10, slots := #[.long (-24)], vm := .none },
  { cls := 10, slots := #[.long (-23)], vm := .none },
  { cls := 10, slots := #[.long (-22)], vm := .none },
  { cls := 10, slots := #[.long (-21)], vm := .none },
  { cls := 10, slots := #[.long (-20)], vm := .none },
  { cls := 10, slots := #[.long (-19)], vm := .none },
  { cls := 10, slots := #[.long (-18)], vm := .none },
  { cls := 10, slots := #[.long (-17)], vm := .none },
  { cls := 10, slots := #[.long (-16)], vm := .none },
  { cls := 10, slots := #[.long (-15)], vm := .none },
  { cls := 10, slots := #[.long (-14)], vm := .none },
  { cls := 10, slots := #[.long (-13)], vm := .none },
  { cls := 10, slots := #[.long (-12)], vm := .none },
  { cls := 10, slots := #[.long (-11)], vm := .none },
  { cls := 10, slots := #[.long (-10)], vm := .none },
  { cls := 10, slots := #[.long (-9)], vm := .none },
  { cls := 10, slots := #[.long (-8)], vm := .none },
  { cls := 10, slots := #[.long (-7)], vm := .none },
  { cls := 10, slots := #[.long (-6)], vm := .none },
  { cls := 10, slots := #[.long (-5)], vm := .none },
  { cls := 10, slots := #[.long (-4)], vm := .none },
  { cls := 10, slots := #[.long (-3)], vm := .none },
  { cls := 10, slots := #[.long (-2)], vm := .none },
  { cls := 10, slots := #[.long (-1)], vm := .none },
  { cls := 10, slots := #[.long 0], vm := .none },
  { cls := 10, slots := #[.long 1], vm := .none },
  { cls := 10, slots := #[.long 2], vm := .none },
  { cls := 10, slots := #[.long 3], vm := .none },
  { cls := 10, slots := #[.long 4], vm := .none },
  { cls := 10, slots := #[.long 5], vm := .none },
  { cls := 10, slots := #[.long 6], vm := .none },
  { cls := 10, slots := #[.long 7], vm := .none },
  { cls := 10, slots := #[.long 8], vm := .none },
  { cls := 10, slots := #[.long 9], vm := .none },
  { cls := 10, slots := #[.long 10], vm := .none },
  { cls := 10, slots := #[.long 11], vm := .none },
  { cls := 10, slots := #[.long 12], vm := .none },
  { cls := 10, slots := #[.long 13], vm := .none },
  { cls := 10, slots := #[.long 14], vm := .none },
  { cls := 10, slots := #[.long 15], vm := .none },
  { cls := 10, slots := #[.long 16], vm := .none },
  { cls := 10, slots := #[.long 17], vm := .none },
  { cls := 10, slots := #[.long 18], vm := .none },
  { cls := 10, slots := #[.long 19], vm := .none },
  { cls := 10, slots := #[.long 20], vm := .none },
  { cls := 10, slots := #[.long 21], vm := .none },
  { cls := 10, slots := #[.long 22], vm := .none },
  { cls := 10, slots := #[.long 23], vm := .none },
  { cls := 10, slots := #[.long 24], vm := .none },
  { cls := 10, slots := #[.long 25], vm := .none },
  { cls := 10, slots := #[.long 26], vm := .none },
  { cls := 10, slots := #[.long 27], vm := .none },
  { cls := 10, slots := #[.long 28], vm := .none },
  { cls := 10, slots := #[.long 29], vm := .none },
  { cls := 10, slots := #[.long 30], vm := .none },
  { cls := 10, slots := #[.long 31], vm := .none },
  { cls := 10, slots := #[.long 32], vm := .none },
  { cls := 10, slots := #[.long 33], vm := .none },
  { cls := 10, slots := #[.long 34], vm := .none },
  { cls := 10, slots := #[.long 35], vm := .none },
  { cls := 10, slots := #[.long 36], vm := .none },
  { cls := 10, slots := #[.long 37], vm := .none },
  { cls := 10, slots := #[.long 38], vm := .none },
  { cls := 10, slots := #[.long 39], vm := .none },
  { cls := 10, slots := #[.long 40], vm := .none },
  { cls := 10, slots := #[.long 41], vm := .none },
  { cls := 10, slots := #[.long 42], vm := .none },
  { cls := 10, slots := #[.long 43], vm := .none },
  { cls := 10, slots := #[.long 44], vm := .none },
  { cls := 10, slots := #[.long 45], vm := .none },
  { cls := 10, slots := #[.long 46], vm := .none },
  { cls := 10, slots := #[.long 47], vm := .none },
  { cls := 10, slots := #[.long 48], vm := .none },
  { cls := 10, slots := #[.long 49], vm := .none },
  { cls := 10, slots := #[.long 50], vm := .none },
  { cls := 10, slots := #[.long 51], vm := .none },
  { cls := 10, slots := #[.long 52], vm := .none },
  { cls := 10, slots := #[.long 53], vm := .none },
  { cls := 10, slots := #[.long 54], vm := .none },
  { cls := 10, slots := #[.long 55], vm := .none },
  { cls := 10, slots := #[.long 56], vm := .none },
  { cls := 10, slots := #[.long 57], vm := .none },
  { cls := 10, slots := #[.long 58], vm := .none },
  { cls := 10, slots := #[.long 59], vm := .none },
  { cls := 10, slots := #[.long 60], vm := .none },
  { cls := 10, slots := #[.long 61], vm := .none },
  { cls := 10, slots := #[.long 62], vm := .none },
  { cls := 10, slots := #[.long 63], vm := .none },
  { cls := 10, slots := #[.long 64], vm := .none },
  { cls := 10, slots := #[.long 65], vm := .none },
  { cls := 10, slots := #[.long 66], vm := .none },
  { cls := 10, slots := #[.long 67], vm := .none },
  { cls := 10, slots := #[.long 68], vm := .none },
  { cls := 10, slots := #[.long 69], vm := .none },
  { cls := 10, slots := #[.long 70], vm := .none },
  { cls := 10, slots := #[.long 71], vm := .none },
  { cls := 10, slots := #[.long 72], vm := .none },
  { cls := 10, slots := #[.long 73], vm := .none },
  { cls := 10, slots := #[.long 74], vm := .none },
  { cls := 10, slots := #[.long 75], vm := .none },
  { cls := 10, slots := #[.long 76], vm := .none },
  { cls := 10, slots := #[.long 77], vm := .none },
  { cls := 10, slots := #[.long 78], vm := .none },
  { cls := 10, slots := #[.long 79], vm := .none },
  { cls := 10, slots := #[.long 80], vm := .none },
  { cls := 10, slots := #[.long 81], vm := .none },
  { cls := 10, slots := #[.long 82], vm := .none },
  { cls := 10, slots := #[.long 83], vm := .none },
  { cls := 10, slots := #[.long 84], vm := .none },
  { cls := 10, slots := #[.long 85], vm := .none },
  { cls := 10, slots := #[.long 86], vm := .none },
  { cls := 10, slots := #[.long 87], vm := .none },
  { cls := 10, slots := #[.long 88], vm := .none },
  { cls := 10, slots := #[.long 89], vm := .none },
  { cls := 10, slots := #[.long 90], vm := .none },
  { cls := 10, slots := #[.long 91], vm := .none },
  { cls := 10, slots := #[.long 92], vm := .none },
  { cls := 10, slots := #[.long 93], vm := .none },
  { cls := 10, slots := #[.long 94], vm := .none },
  { cls := 10, slots := #[.long 95], vm := .none },
  { cls := 10, slots := #[.long 96], vm := .none },
  { cls := 10, slots := #[.long 97], vm := .none },
  { cls := 10, slots := #[.long 98], vm := .none },
  { cls := 10, slots := #[.long 99], vm := .none },
  { cls := 10, slots := #[.long 100], vm := .none },
  { cls := 10, slots := #[.long 101], vm := .none },
  { cls := 10, slots := #[.long 102], vm := .none },
  { cls := 10, slots := #[.long 103], vm := .none },
  { cls := 10, slots := #[.long 104], vm := .none },
  { cls := 10, slots := #[.long 105], vm := .none },
  { cls := 10, slots := #[.long 106], vm := .none },
  { cls := 10, slots := #[.long 107], vm := .none },
  { cls := 10, slots := #[.long 108], vm := .none },
  { cls := 10, slots := #[.long 109], vm := .none },
  { cls := 10, slots := #[.long 110], vm := .none },
  { cls := 10, slots := #[.long 111], vm := .none },
  { cls := 10, slots := #[.long 112], vm := .none },
  { cls := 10, slots := #[.long 113], vm := .none },
  { cls := 10, slots := #[.long 114], vm := .none },
  { cls := 10, slots := #[.long 115], vm := .none },
  { cls := 10, slots := #[.long 116], vm := .none },
  { cls := 10, slots := #[.long 117], vm := .none },
  { cls := 10, slots := #[.long 118], vm := .none },
  { cls := 10, slots := #[.long 119], vm := .none },
  { cls := 10, slots := #[.long 120], vm := .none },
  { cls := 10, slots := #[.long 121], vm := .none },
  { cls := 10, slots := #[.long 122], vm := .none },
  { cls := 10, slots := #[.long 123], vm := .none },
  { cls := 10, slots := #[.long 124], vm := .none },
  { cls := 10, slots := #[.long 125], vm := .none },
  { cls := 10, slots := #[.long 126], vm := .none },
  { cls := 10, slots := #[.long 127], vm := .none }]
def classes : Array Class := #[k0, k1, k2, k3, k4, k5, k6, k7, k8, k9, k10, k11, k12, k13, k14, k15, k16, k17, k18]
def interned : List (Array UInt16 × Addr) := []
def slotsUsed : Nat := 1032
def theMethod : MethodId := ⟨1, 1⟩
def args0 : Array Value := #[.int 5, .long 7, .int 1]
def aboutOver (below : List Frame) : State where
  vm := { classes := classes, interned := interned.toArray }
  heap := heap
  slotsUsed := slotsUsed
  threads := #[{ frames := .invoking theMethod args0 :: below }]
def below0 : List Frame := [.native { method := ⟨0, 0⟩, args := #[] }]
def about1 : State := aboutOver below0
def p0 : Program := .bare "" "" ""
def e0 : Env := launch0.env 0 0 0
theorem w_frames : about1.frames = Frame.invoking theMethod args0 :: below0 := rfl
set_option maxRecDepth 65536 in
theorem w_args : argsFit about1.vm theMethod args0 = true := by decide +kernel
set_option maxRecDepth 65536 in
theorem w_heap : heapFits about1 = true := by decide +kernel
set_option maxRecDepth 65536 in
theorem w_runnable : about1.curStatus? = some .runnable := by decide +kernel
set_option maxRecDepth 65536 in
theorem w_alone : about1.alone = true := by decide +kernel
set_option maxRecDepth 65536 in
theorem w_named : about1.methodNamed? x = some theMethod := by decide +kernel
set_option maxRecDepth 65536 in
theorem w_hears : about1.hears theMethod below0 = true := by decide +kernel
set_option maxRecDepth 65536 in
theorem w_ripe : about1.ripe theMethod args0 below0 = true := by decide +kernel
theorem w_running : about1.status = .running := rfl
set_option maxRecDepth 65536 in
theorem w_room : about1.hasRoom e0.platform room_1 = true :=
  launch0.hasRoom_least _ room_1 (by decide +kernel) (by decide +kernel) (by decide +kernel) (by decide +kernel) (by decide +kernel) (by decide +kernel)
theorem allAtoms_all (ts : List Jvm.Cond) (a : Array Jvm.Value) (st : Jvm.State) : (allAtoms ts).before a st = ts.all (fun c => c.before a st) := by
  induction ts with
  | nil => rfl
  | cons c t ih =>
    show (Jvm.Cond.and c (allAtoms t)).before a st = _
    rw [Jvm.Cond.before_and, ih, List.all_cons]
def words1 : List Jvm.Cond := Jvm.Cond.code x code maxLocals ret :: tables_1
/-- a 'code' word, met by the world's own term for the bytes: nothing is compared byte by byte -/
theorem code_word {y : MethodName} {bytes : ByteArray} {mx : Nat} {rt : Option FieldType} {a : Array Value} {s : State} {m : MethodId} {meth : Method} {c : Code} (h1 : s.methodNamed? y = some m) (h2 : s.vm.method? m = some meth) (h3 : meth.code = some c) (h4 : c.code = bytes)
    (h5 : (c.maxLocals == mx && c.exceptionTable.isEmpty && decide (c.maxStack ≤ mostOperands) && decide (meth.sig.returnType = rt) && !meth.locks && decide (parseMethodDescriptor y.desc = some meth.sig)) = true) : (Jvm.Cond.code y bytes mx rt).before a s = true := by
  simp only [Bool.and_eq_true, beq_iff_eq, Bool.not_eq_true', decide_eq_true_eq] at h5
  obtain ⟨⟨⟨⟨⟨g1, g2⟩, g3⟩, g4⟩, g5⟩, g6⟩ := h5
  simp [Cond.before, Cond.holds, Cond.value, h1, h2, h3, h4, g1, g2, g3, g4, g5, g6]
def isCode : Jvm.Cond → Bool
  | .code _ _ _ _ => true
  | _ => false
theorem all_split {L : List Jvm.Cond} {P : Jvm.Cond → Bool} (h1 : L.all (fun c => isCode c || P c) = true) (h2 : ∀ c ∈ L.filter isCode, P c = true) : L.all P = true := by
  refine List.all_eq_true.mpr fun c hc => ?_
  have h := List.all_eq_true.mp h1 c hc
  rcases Bool.eq_false_or_eq_true (isCode c) with hi | hi
  · exact h2 c (List.mem_filter.mpr ⟨hc, hi⟩)
  · simpa [hi] using h
set_option maxRecDepth 65536 in
theorem w_c0 : (Jvm.Cond.code x code maxLocals ret).before args0 about1 = true := code_word (m := ⟨1, 1⟩) (meth := k1m1) (c := k1c1) (by decide +kernel) rfl rfl rfl (by decide +kernel)
set_option maxRecDepth 65536 in
theorem w_c1 : (Jvm.Cond.code ({ cls := "com/example/attache/attache/PendingKey", name := "<init>", desc := "()V" } : Jvm.MethodName) prog_1_method_1_code (1 : Nat) (Option.none : Option Jvm.ClassFile.FieldType)).before args0 about1 = true := code_word (m := ⟨2, 0⟩) (meth := k2m0) (c := k2c0) (by decide +kernel) rfl rfl rfl (by decide +kernel)
set_option maxRecDepth 65536 in
theorem w_c2 : (Jvm.Cond.code ({ cls := "java/lang/Object", name := "<init>", desc := "()V" } : Jvm.MethodName) object_method_1_code (1 : Nat) (Option.none : Option Jvm.ClassFile.FieldType)).before args0 about1 = true := code_word (m := ⟨0, 0⟩) (meth := k0m0) (c := k0c0) (by decide +kernel) rfl rfl rfl (by decide +kernel)
set_option maxRecDepth 65536 in
theorem w_c3 : (Jvm.Cond.code ({ cls := "java/lang/Integer", name := "valueOf", desc := "(I)Ljava/lang/Integer;" } : Jvm.MethodName) jdk_33_method_22_code (1 : Nat) (Option.some (Jvm.ClassFile.FieldType.object "java/lang/Integer"))).before args0 about1 = true := code_word (m := ⟨8, 0⟩) (meth := k8m0) (c := k8c0) (by decide +kernel) rfl rfl rfl (by decide +kernel)
set_option maxRecDepth 65536 in
theorem w_c4 : (Jvm.Cond.code ({ cls := "java/lang/Long", name := "valueOf", desc := "(J)Ljava/lang/Long;" } : Jvm.MethodName) jdk_35_method_24_code (3 : Nat) (Option.some (Jvm.ClassFile.FieldType.object "java/lang/Long"))).before args0 about1 = true := code_word (m := ⟨10, 0⟩) (meth := k10m0) (c := k10c0) (by decide +kernel) rfl rfl rfl (by decide +kernel)
set_option maxRecDepth 65536 in
theorem w_c5 : (Jvm.Cond.code ({ cls := "com/example/attache/attache/PendingKey", name := "generated", desc := "(Ljava/lang/Object;)V" } : Jvm.MethodName) prog_1_method_3_code (2 : Nat) (Option.none : Option Jvm.ClassFile.FieldType)).before args0 about1 = true := code_word (m := ⟨2, 2⟩) (meth := k2m2) (c := k2c2) (by decide +kernel) rfl rfl rfl (by decide +kernel)
set_option maxRecDepth 65536 in
theorem w_c6 : (Jvm.Cond.code ({ cls := "com/example/attache/attache/PendingKey", name := "generated", desc := "()Ljava/lang/Object;" } : Jvm.MethodName) prog_1_method_2_code (1 : Nat) (Option.some (Jvm.ClassFile.FieldType.object "java/lang/Object"))).before args0 about1 = true := code_word (m := ⟨2, 1⟩) (meth := k2m1) (c := k2c1) (by decide +kernel) rfl rfl rfl (by decide +kernel)
set_option maxRecDepth 65536 in
theorem w_c7 : (Jvm.Cond.code ({ cls := "java/lang/Long", name := "<init>", desc := "(J)V" } : Jvm.MethodName) jdk_35_method_26_code (3 : Nat) (Option.none : Option Jvm.ClassFile.FieldType)).before args0 about1 = true := code_word (m := ⟨10, 1⟩) (meth := k10m1) (c := k10c1) (by decide +kernel) rfl rfl rfl (by decide +kernel)
set_option maxRecDepth 65536 in
theorem w_c8 : (Jvm.Cond.code ({ cls := "java/lang/Number", name := "<init>", desc := "()V" } : Jvm.MethodName) jdk_18_method_1_code (1 : Nat) (Option.none : Option Jvm.ClassFile.FieldType)).before args0 about1 = true := code_word (m := ⟨4, 0⟩) (meth := k4m0) (c := k4c0) (by decide +kernel) rfl rfl rfl (by decide +kernel)
set_option maxRecDepth 65536 in
theorem w_c9 : (Jvm.Cond.code ({ cls := "java/lang/Integer", name := "<init>", desc := "(I)V" } : Jvm.MethodName) jdk_33_method_23_code (2 : Nat) (Option.none : Option Jvm.ClassFile.FieldType)).before args0 about1 = true := code_word (m := ⟨8, 1⟩) (meth := k8m1) (c := k8c1) (by decide +kernel) rfl rfl rfl (by decide +kernel)
def codes1 : List Jvm.Cond := [Jvm.Cond.code x code maxLocals ret, Jvm.Cond.code ({ cls := "com/example/attache/attache/PendingKey", name := "<init>", desc := "()V" } : Jvm.MethodName) prog_1_method_1_code (1 : Nat) (Option.none : Option Jvm.ClassFile.FieldType), Jvm.Cond.code ({ cls := "java/lang/Object", name := "<init>", desc := "()V" } : Jvm.MethodName) object_method_1_code (1 : Nat) (Option.none : Option Jvm.ClassFile.FieldType), Jvm.Cond.code ({ cls := "java/lang/Integer", name := "valueOf", desc := "(I)Ljava/lang/Integer;" } : Jvm.MethodName) jdk_33_method_22_code (1 : Nat) (Option.some (Jvm.ClassFile.FieldType.object "java/lang/Integer")), Jvm.Cond.code ({ cls := "java/lang/Long", name := "valueOf", desc := "(J)Ljava/lang/Long;" } : Jvm.MethodName) jdk_35_method_24_code (3 : Nat) (Option.some (Jvm.ClassFile.FieldType.object "java/lang/Long")), Jvm.Cond.code ({ cls := "com/example/attache/attache/PendingKey", name := "generated", desc := "(Ljava/lang/Object;)V" } : Jvm.MethodName) prog_1_method_3_code (2 : Nat) (Option.none : Option Jvm.ClassFile.FieldType), Jvm.Cond.code ({ cls := "com/example/attache/attache/PendingKey", name := "generated", desc := "()Ljava/lang/Object;" } : Jvm.MethodName) prog_1_method_2_code (1 : Nat) (Option.some (Jvm.ClassFile.FieldType.object "java/lang/Object")), Jvm.Cond.code ({ cls := "java/lang/Long", name := "<init>", desc := "(J)V" } : Jvm.MethodName) jdk_35_method_26_code (3 : Nat) (Option.none : Option Jvm.ClassFile.FieldType), Jvm.Cond.code ({ cls := "java/lang/Number", name := "<init>", desc := "()V" } : Jvm.MethodName) jdk_18_method_1_code (1 : Nat) (Option.none : Option Jvm.ClassFile.FieldType), Jvm.Cond.code ({ cls := "java/lang/Integer", name := "<init>", desc := "(I)V" } : Jvm.MethodName) jdk_33_method_23_code (2 : Nat) (Option.none : Option Jvm.ClassFile.FieldType)]
set_option maxRecDepth 65536 in
theorem codes_eq : words1.filter isCode = codes1 := rfl
theorem w_codes : ∀ c ∈ words1.filter isCode, c.before args0 about1 = true := by
  rw [codes_eq]
  intro c hc
  simp only [codes1, List.mem_cons, List.not_mem_nil, or_false] at hc
  rcases hc with rfl | rfl | rfl | rfl | rfl | rfl | rfl | rfl | rfl | rfl
  · exact w_c0
  · exact w_c1
  · exact w_c2
  · exact w_c3
  · exact w_c4
  · exact w_c5
  · exact w_c6
  · exact w_c7
  · exact w_c8
  · exact w_c9
set_option maxRecDepth 65536 in
theorem w_t1 : (words1.take 24).all (fun c => isCode c || c.before args0 about1) = true := by decide +kernel
set_option maxRecDepth 65536 in
theorem w_t2 : ((words1.drop 24).take 24).all (fun c => isCode c || c.before args0 about1) = true := by decide +kernel
set_option maxRecDepth 65536 in
theorem w_t3 : ((words1.drop 24).drop 24).all (fun c => isCode c || c.before args0 about1) = true := by decide +kernel
theorem w_tables : (allAtoms (Jvm.Cond.code x code maxLocals ret :: tables_1)).before args0 about1 = true := by
  rw [allAtoms_all]
  show words1.all (fun c => c.before args0 about1) = true
  refine all_split ?_ w_codes
  rw [← List.take_append_drop 24 words1, List.all_append, w_t1, ← List.take_append_drop 24 (words1.drop 24), List.all_append, w_t2, w_t3]
  rfl
set_option maxRecDepth 65536 in
theorem w_rest : rest_1_c.before args0 about1 = true := by decide +kernel
set_option maxRecDepth 65536 in
theorem w_case : (Jvm.Cond.and given_1 narrow_1).before args0 about1 = true := by decide +kernel
theorem w_applies : (headSpec (Jvm.Cond.code x code maxLocals ret :: tables_1) room_1).applies x e0.platform about1 = true :=
  (Spec.applies_iff w_frames).mpr ⟨w_running, w_runnable, w_alone, w_named, w_hears, w_ripe, w_room, w_tables⟩
theorem atStart : AtStart classFile x code maxLocals ret World_1 tables_1 room_1 Calls_1 rest_1 Pre_1 launch0 p0 e0 about1 theMethod args0 below0 :=
  ⟨lists_1, trivial, launch0.admits_env _ _ _, launch0.least_env, fairChoices_fair.cas, fairChoices_fair.clock, w_frames, w_args, w_heap, w_applies, trivial, w_rest, w_case⟩
end start1
theorem witness_1 : WitnessClaimed_1 := ⟨start1.p0, start1.e0, start1.about1, start1.theMethod, start1.args0, start1.below0, start1.atStart⟩
end Jvm.Pilot.@@N@@
