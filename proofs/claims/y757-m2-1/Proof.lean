import JvmDerived
import JvmDerived.Pilot.@@N@@Statement
import JvmDerived.Pilot.@@N@@Code
set_option linter.unusedVariables false
set_option linter.unusedSimpArgs false
namespace Jvm.Pilot.@@N@@
open Jvm Jvm.ClassFile Sem Op Lib Jvm.Free Jvm.Stand Jvm.LawKit Jvm.RoadKit Bundle Jvm.Pilot.@@N@@.Jvm.D
section OwnGo
variable {p : Program} {l : Launch} {e : Env} {R : Room} {s : State} {m : MethodId} {args : Array Value} {below : List Frame} {meth : Method} {c : Code} {T T' : State} {locs : List Loc} {cells slots : Nat} {Q : Option Value → Heap → List Loc → Prop} {C S : Nat} {g g' : JFrame} {F : Outcome → State → Prop}
/-- from this state and frame the body comes to an end of which F holds -/
def Go (p : Program) (e : Env) (below : List Frame) (F : Outcome → State → Prop) (T : State) (g : JFrame) : Prop :=
  ∃ s₂ o, Steps p.tables e below (T.setTop g) s₂ ∧ s₂.status = .running ∧ Ended s₂ below o ∧ F o s₂
/-- it returned, Q holds, and nothing else has moved than L and so many new cells and slots -/
abbrev EndN (s : State) (Q : Option Value → Heap → List Loc → Prop) (C S : Nat) (o : Outcome) (t : State) : Prop := ∃ v L, o = .returned v ∧ Q v t.heap L ∧ FrameEnd s o t L C S
theorem Go.enter (q : g = g') (k : Go p e below F T g') : ∃ s₂ o, Steps p.tables e below (T.setTop g) s₂ ∧ s₂.status = .running ∧ Ended s₂ below o ∧ F o s₂ := by
  subst q
  exact k
theorem Go.by (h : ∀ t, Steps p.tables e below (T'.setTop g') t → Steps p.tables e below (T.setTop g) t) (k : Go p e below F T' g') : Go p e below F T g := by
  obtain ⟨s₂, o, h1, h2⟩ := k
  exact ⟨s₂, o, h _ h1, h2⟩
theorem Go.to (h : Steps p.tables e below (T.setTop g) (T'.setTop g')) (k : Go p e below F T' g') : Go p e below F T g := by
  obtain ⟨s₂, o, h1, h2⟩ := k
  exact ⟨s₂, o, h.trans h1, h2⟩
abbrev own_retKind (i : Instr) (t : FieldType) (w : Value) : Prop := (i = .ireturn ∧ (t = .int ∨ t = .boolean ∨ t = .byte ∨ t = .char ∨ t = .short) ∧ ∃ z, w = .int z) ∨ (i = .lreturn ∧ t = .long ∧ ∃ z, w = .long z) ∨ (i = .dreturn ∧ t = .double ∧ ∃ z, w = .double z) ∨ (i = .freturn ∧ t = .float ∧ ∃ z, w = .float z) ∨ (i = .areturn ∧ t.isReference = true ∧ w.isRef = true)
theorem Go.ret (X : Stand p l e R s m args below meth c T locs cells slots) (hx : p.tables.exec = Jvm.exec) (hlocks : meth.locks = false) {pc : Nat} {Ls : Array Slot} {w : Value} {t : FieldType} {i : Instr} {rest : List Value} (hret : meth.sig.returnType = some t) (hn : narrow t w = w)
    (hi : own_retKind i t w) (hd : decode c.code pc = .ok (i, 1)) (hq : Q (some w) T.heap locs) (hc : cells ≤ C) (hs : slots ≤ S) : Go p e below (EndN s Q C S) T (mkF m pc Ls (w :: rest)) := by
  obtain ⟨fs, hr, hrun, hended, hW, hsame⟩ := X.leave (v := some w) (fun h => by rw [hret] at h; cases h) hlocks
  exact ⟨_, _, retOut X hx hret hn hi hd hr, hrun, hended, _, _, rfl, hq, ⟨_, rfl⟩, hW, hsame.mono hc hs⟩
theorem Go.retI (X : Stand p l e R s m args below meth c T locs cells slots) (hx : p.tables.exec = Jvm.exec) (hlocks : meth.locks = false) {pc : Nat} {Ls : Array Slot} {w : Int32} {t : FieldType} {rest : List Value} (hret : meth.sig.returnType = some t) (hn : narrow t (.int w) = .int w)
    (ht : t = .int ∨ t = .boolean ∨ t = .byte ∨ t = .char ∨ t = .short) (hd : decode c.code pc = .ok (.ireturn, 1)) (hq : Q (some (.int w)) T.heap locs) (hc : cells ≤ C) (hs : slots ≤ S) : Go p e below (EndN s Q C S) T (mkF m pc Ls (.int w :: rest)) :=
  Go.ret X hx hlocks hret hn (Or.inl ⟨rfl, ht, _, rfl⟩) hd hq hc hs
theorem Go.retJ (X : Stand p l e R s m args below meth c T locs cells slots) (hx : p.tables.exec = Jvm.exec) (hlocks : meth.locks = false) {pc : Nat} {Ls : Array Slot} {w : Int64} {rest : List Value} (hret : meth.sig.returnType = some .long)
    (hd : decode c.code pc = .ok (.lreturn, 1)) (hq : Q (some (.long w)) T.heap locs) (hc : cells ≤ C) (hs : slots ≤ S) : Go p e below (EndN s Q C S) T (mkF m pc Ls (.long w :: rest)) :=
  Go.ret X hx hlocks hret rfl (Or.inr (Or.inl ⟨rfl, rfl, _, rfl⟩)) hd hq hc hs
theorem own_narR (t : FieldType) {w : Value} (ht : t.isReference = true) (hw : w.isRef = true) : narrow t w = w := by
  cases t <;> first | (simp [FieldType.isReference] at ht; done) | (rcases ref_cases hw with rfl | ⟨_, rfl⟩ <;> rfl)
theorem own_fitR (t : FieldType) {w : Value} (ht : t.isReference = true) (hw : w.isRef = true) : fits t w = true := by
  cases t <;> first | (simp [FieldType.isReference] at ht; done) | (rcases ref_cases hw with rfl | ⟨_, rfl⟩ <;> rfl)
theorem Go.retA (X : Stand p l e R s m args below meth c T locs cells slots) (hx : p.tables.exec = Jvm.exec) (hlocks : meth.locks = false) {pc : Nat} {Ls : Array Slot} {w : Value} {t : FieldType} {rest : List Value} (hret : meth.sig.returnType = some t) (ht : t.isReference = true) (hw : w.isRef = true)
    (hd : decode c.code pc = .ok (.areturn, 1)) (hq : Q (some w) T.heap locs) (hc : cells ≤ C) (hs : slots ≤ S) : Go p e below (EndN s Q C S) T (mkF m pc Ls (w :: rest)) :=
  Go.ret X hx hlocks hret (own_narR t ht hw) (Or.inr (Or.inr (Or.inr (Or.inr ⟨rfl, ht, hw⟩)))) hd hq hc hs
theorem Go.retV (X : Stand p l e R s m args below meth c T locs cells slots) (hx : p.tables.exec = Jvm.exec) (hlocks : meth.locks = false) {pc : Nat} {Ls : Array Slot} (hret : meth.sig.returnType = none)
    (hd : decode c.code pc = .ok (.return_, 1)) (hq : Q none T.heap locs) (hc : cells ≤ C) (hs : slots ≤ S) : Go p e below (EndN s Q C S) T (mkF m pc Ls []) := by
  obtain ⟨fs, hr, hrun, hended, hW, hsame⟩ := X.leave (v := none) (fun _ => rfl) hlocks
  exact ⟨_, _, X.returnOut hx hret hd hr, hrun, hended, _, _, rfl, hq, ⟨_, rfl⟩, hW, hsame.mono hc hs⟩
end OwnGo
theorem own_ns_root {Z : State} {a0 : Array Value} {O K : String} {n : Nat} (w : (Cond.noSuperclass O).before a0 Z = true) (wi : (Cond.instantiable K n).before a0 Z = true) (hn : O ≠ K) : NS Z O K := by
  obtain ⟨c, k, h1, h2, h3, -, -⟩ := Cond.noSuperclass_spec w
  obtain ⟨t, k', g1, -⟩ := Cond.instantiable_spec wi
  refine ⟨c, t, h1, g1, fun fuel => ?_⟩
  have ne := ids_ne h1 g1 hn
  cases fuel with
  | zero => rfl
  | succ f => simp [Vm.isSubclassAux, ne, h2, h3]
theorem own_ns_no {Z : State} {a0 : Array Value} {C S K : String} {n : Nat} (w : (Cond.superclass C S).before a0 Z = true) (wi : (Cond.instantiable K n).before a0 Z = true) (ns : NS Z C K) (hn : C ≠ K) : ∃ c t, Z.vm.findClass C = some c ∧ Z.vm.findClass K = some t ∧ Z.vm.assignable c t = false := by
  obtain ⟨c, t, h0, g0, n3⟩ := ns
  obtain ⟨q, k, kp, -, h2, -, -, h5, -⟩ := Cond.superclass_spec h0 w
  obtain ⟨t', k', g1, g2, g3, g4, -⟩ := Cond.instantiable_spec wi
  cases g0.symm.trans g1
  have ne := ids_ne h0 g0 hn
  have g5 : k'.isInterface = false := by
    cases hq : k'.isInterface
    · rfl
    · simp [hq] at g4
  refine ⟨c, t, h0, g0, ?_⟩
  show Z.vm.assignableAux (255 + 1) c t = false
  simp [Vm.assignableAux, ne, h2, g2, h5, g3, g5, Vm.isSubclass, n3]

theorem own_len {args : Array Value} {s : State} {t : Term} {a : Addr} {c : Cell} {z : Int32} (ev : t.eval args s none [] s = some (.ref a)) (A : s.arrayAt? a = some c) (h : (Term.length t).eval args s none [] s = some (.int z)) : c.slots.size < 2 ^ 31 ∧ c.slots.size.toInt32 = z := by
  simp only [Term.eval, ev, A, Option.bind_eq_bind, Option.bind_some] at h
  by_cases q : c.slots.size < 2 ^ 31
  · refine ⟨q, ?_⟩
    simpa [q] using h
  · simp [q] at h
theorem own_static {args : Array Value} {s : State} {C n d : String} {v : Value} (h : (Term.static C n d).eval args s none [] s = some v) : ∀ idx, (Term.static C n d).eval args s none idx s = some v := fun idx => by
  simpa [Term.eval] using h
theorem own_valI {Z : State} {args : Array Value} (X : Term) (j : Int32) (hj : ¬ j < 0) (h : (Jvm.Cond.eq X (Term.sub (Term.index 0) (Term.int 128))).value args Z none Z [j.toNatClampNeg] = some true) : X.eval args Z none [j.toNatClampNeg] Z = some (.int (j - 128)) := by
  refine eqv_i ?_ h
  have h1 : (Term.index 0).eval args Z none [j.toNatClampNeg] Z = some (.int j) := idx_at hj
  simp only [Term.eval] at h1 ⊢
  rw [h1]
  rfl
theorem own_boxin {x : Int32} (h1 : ¬ x < -128) (h2 : ¬ (127 : Int32) < x) : ¬ (x + 128) < 0 ∧ (x + 128) < 256 := by
  rw [Int32.lt_iff_toInt_lt] at h1 h2 ⊢
  rw [Int32.lt_iff_toInt_lt]
  have h := c_iadd x 128
  have r := rng32 (x + 128)
  have r2 := rng32 x
  have l1 : (-128 : Int32).toInt = -128 := by decide
  have l2 : (127 : Int32).toInt = 127 := by decide
  have l3 : (128 : Int32).toInt = 128 := by decide
  have l4 : (256 : Int32).toInt = 256 := by decide
  have l5 : (0 : Int32).toInt = 0 := by decide
  omega
theorem own_valJ {Z : State} {args : Array Value} (X : Term) (j : Int32) (hj : ¬ j < 0) (h : (Jvm.Cond.eq X (Term.op1 .i2l (Term.sub (Term.index 0) (Term.int 128)))).value args Z none Z [j.toNatClampNeg] = some true) : X.eval args Z none [j.toNatClampNeg] Z = some (.long (j - 128).toInt64) := by
  refine eqv_l (i2l_at ?_) h
  have h1 : (Term.index 0).eval args Z none [j.toNatClampNeg] Z = some (.int j) := idx_at hj
  simp only [Term.eval] at h1 ⊢
  rw [h1]
  rfl
theorem own_boxinJ {x : Int64} (h1 : ¬ x < -128) (h2 : ¬ (127 : Int64) < x) : ¬ (x.toInt32 + 128) < 0 ∧ (x.toInt32 + 128) < 256 := by
  rw [Int64.lt_iff_toInt_lt] at h1 h2
  rw [Int32.lt_iff_toInt_lt, Int32.lt_iff_toInt_lt]
  have h := c_iadd x.toInt32 128
  have r := rng32 (x.toInt32 + 128)
  have r2 := rng32 x.toInt32
  have r3 := c_l2i x
  have l1 : (-128 : Int64).toInt = -128 := by decide
  have l2 : (127 : Int64).toInt = 127 := by decide
  have l3 : (128 : Int32).toInt = 128 := by decide
  have l4 : (256 : Int32).toInt = 256 := by decide
  have l5 : (0 : Int32).toInt = 0 := by decide
  omega

/-- a char's low byte, signed -/
def own_b (c : Int32) : Int32 := c.toInt8.toInt32
theorem own_bn (c : Int32) : nar .byte c.toInt8.toInt32 = own_b c := by
  show c.toInt8.toInt32.toInt8.toInt32 = c.toInt8.toInt32
  simp
theorem own_b_inj {c d : Int32} (h1 : ¬ c < 0) (h2 : ¬ (255 : Int32) < c) (h3 : ¬ d < 0) (h4 : ¬ (255 : Int32) < d) (h : own_b c = own_b d) : c = d := by
  have e1 := c_i2b c
  have e2 := c_i2b d
  have e3 : c.toInt8.toInt32.toInt = d.toInt8.toInt32.toInt := congrArg Int32.toInt h
  rw [Int32.lt_iff_toInt_lt] at h1 h2 h3 h4
  simp at h1 h2 h3 h4
  apply Int32.toInt_inj.mp
  omega
theorem own_nc (x : Int32) : nar .char (x &&& 255) = x &&& 255 := i2c_mask x
theorem own_255 (x : Int32) : ¬ (255 : Int32) < x &&& 255 := by
  have h := c_and x (255 : Int32) (by decide)
  rw [Int32.lt_iff_toInt_lt]
  have : (255 : Int32).toInt = 255 := by decide
  omega
theorem own_0 (x : Int32) : ¬ (x &&& 255) < 0 := by
  have h := c_and x (255 : Int32) (by decide)
  rw [XT.negI32]
  omega

theorem pn_2 : plainName "java/lang/Number" = true := by first | (simp [plainName, overriddenIn]; done) | decide +kernel
theorem ef_3 (m : MethodId) (x0 : Addr) : entryFrame m #[(.ref x0)] 1 = mkF m 0 #[.val (.ref x0)] [] := by (first | (simp [entryFrame, mkF, argsToLocals, Value.category]; done) | rfl)
theorem d14_0 : decode jdk_18_method_1_code 0 = .ok (.aload_n 0, 1) := by decide +kernel
theorem d14_1 : decode jdk_18_method_1_code 1 = .ok (.invokespecial 1, 3) := by decide +kernel
theorem d14_4 : decode jdk_18_method_1_code 4 = .ok (.return_, 1) := by decide +kernel
def Q_rmNumber (Z : State) (a : Addr) (h0 : Heap) (n0 : Nat) (v : Option Value) (h : Heap) (L : List Loc) : Prop := v = none ∧ Fr n0 L ∧ h = h0
set_option maxRecDepth 65536 in
set_option maxHeartbeats 40000000 in
theorem rmNumber (l : Launch) (Z : State) (a0 : Array Value) (hw : ∀ d ∈ tables_1, d.before a0 Z = true) (ws : List Jvm.Cond) (a : Addr) (h0 : Heap) (n0 : Nat) (Z0 : n0 ≤ h0.size)  :
    MetFree l (⟨"java/lang/Number", "<init>", "()V"⟩ : MethodName) (head1 (Jvm.Cond.code (⟨"java/lang/Number", "<init>", "()V"⟩ : MethodName) jdk_18_method_1_code 1 none :: ws) ({ frames := 1, cells := 0, slots := 0, locals := 12 } : Room)) (fun as' U => as' = #[(.ref a)] ∧ Z.Warmed39 U.vm ∧ U.heap = h0) (fun _ _ _ _ _ => True) (fun _ U o U' => ∃ v L, o = .returned v ∧ Q_rmNumber Z a h0 n0 v U'.heap L ∧ FrameEnd U o U' L ({ frames := 1, cells := 0, slots := 0, locals := 12 } : Room).cells ({ frames := 1, cells := 0, slots := 0, locals := 12 } : Room).slots) := by
  refine MetFree.of_bodySF (plainFor_of_name pn_2) hisR ?_
  intro p e s m args below meth c s₁ Bd hml0 hP hK
  obtain ⟨rfl, hZ, hh⟩ := hP
  have hx := Bd.exec
  have hby := Bd.bytes
  have hml : c.maxLocals = 1 := hml0
  have hown : s.vm.findClass "java/lang/Number" = some m.cls := findClass_of_methodNamed Bd.named
  have hnm := (name_of_methodNamed Bd.named Bd.method).1
  have X0 : Stand p l e ({ frames := 1, cells := 0, slots := 0, locals := 12 } : Room) s m #[(.ref a)] below meth c s₁ [] 0 0 := Stand.of_body Bd
  have e0 : s₁.heap = h0 := by rw [← hh, Bd.state]; rfl
  have N0 := Fr.nil n0
  refine Go.enter (F := EndN s (Q_rmNumber Z a h0 n0) ({ frames := 1, cells := 0, slots := 0, locals := 12 } : Room).cells ({ frames := 1, cells := 0, slots := 0, locals := 12 } : Room).slots) (ef_3 m a) ?_
  show Go _ _ _ _ s₁ (mkF m 0 #[.val (.ref a)] [])
  refine Go.by (fun _ gk => XS.aloadN X0.here hx rfl (hb hby d14_0) rfl rfl gk) ?_
  show Go _ _ _ _ s₁ (mkF m 1 #[.val (.ref a)] [(.ref a)])
  obtain ⟨T1, X1, e1, st1⟩ := initO X0 hx hZ hown (hw _ (List.mem_of_getElem? (i := 80) rfl)) (hw _ (List.mem_of_getElem? (i := 23) rfl)) (hw _ (List.mem_of_getElem? (i := 24) rfl)) e0 (g := (mkF m 1 #[.val (.ref a)] [(.ref a)])) rfl (by rw [hml]; rfl) rfl (hb hby d14_1) (by decide) (W := 0) (by show 2 * 0 + _ ≤ _; exact Nat.le_of_eq rfl) (by decide)
  refine Go.by st1 ?_
  show Go _ _ _ _ T1 (mkF m 4 #[.val (.ref a)] [])
  exact Go.retV X1 hx Bd.notSynchronized Bd.returns (hb hby d14_4) (by rw [e1]; exact ⟨rfl, N0, rfl⟩) (by decide) (by decide)
theorem pn_7 : plainName "java/lang/Integer" = true := by first | (simp [plainName, overriddenIn]; done) | decide +kernel
theorem ef_8 (m : MethodId) (x0 : Addr) (x1 : Int32) : entryFrame m #[(.ref x0), (.int x1)] 2 = mkF m 0 #[.val (.ref x0), .val (.int x1)] [] := by (first | (simp [entryFrame, mkF, argsToLocals, Value.category]; done) | rfl)
theorem d13_0 : decode jdk_33_method_23_code 0 = .ok (.aload_n 0, 1) := by decide +kernel
theorem pd_10 : parseMethodDescriptor "()V" = some ⟨[], none⟩ := by decide +kernel
theorem d13_1 : decode jdk_33_method_23_code 1 = .ok (.invokespecial 202, 3) := by decide +kernel
theorem d13_4 : decode jdk_33_method_23_code 4 = .ok (.aload_n 0, 1) := by decide +kernel
theorem d13_5 : decode jdk_33_method_23_code 5 = .ok (.iload_n 1, 1) := by decide +kernel
theorem d13_6 : decode jdk_33_method_23_code 6 = .ok (.putfield 205, 3) := by decide +kernel
theorem d13_9 : decode jdk_33_method_23_code 9 = .ok (.return_, 1) := by decide +kernel
def Q_rmBoxI (Z : State) (a : Addr) (pv : Int32) (u : Value) (h0 : Heap) (n0 : Nat) (v : Option Value) (h : Heap) (L : List Loc) : Prop := v = none ∧ Fr n0 L ∧ Keep h0 h [a] ∧ Exa Z h a "java/lang/Integer" ∧ Fld Z h a "java/lang/Integer" "value" "I" (.int pv)
set_option maxRecDepth 65536 in
set_option maxHeartbeats 40000000 in
theorem rmBoxI (l : Launch) (Z : State) (a0 : Array Value) (hw : ∀ d ∈ tables_1, d.before a0 Z = true) (ws : List Jvm.Cond) (a : Addr) (pv : Int32) (u : Value) (h0 : Heap) (n0 : Nat) (Z0 : n0 ≤ h0.size) (E_a : Exa Z h0 a "java/lang/Integer") (F_a_value : Fld Z h0 a "java/lang/Integer" "value" "I" u) (g_a : n0 ≤ a) :
    MetFree l (⟨"java/lang/Integer", "<init>", "(I)V"⟩ : MethodName) (head1 (Jvm.Cond.code (⟨"java/lang/Integer", "<init>", "(I)V"⟩ : MethodName) jdk_33_method_23_code 2 none :: ws) ({ frames := 2, cells := 0, slots := 0, locals := 24 } : Room)) (fun as' U => as' = #[(.ref a), (.int pv)] ∧ Z.Warmed39 U.vm ∧ U.heap = h0) (fun _ _ _ _ _ => True) (fun _ U o U' => ∃ v L, o = .returned v ∧ Q_rmBoxI Z a pv u h0 n0 v U'.heap L ∧ FrameEnd U o U' L ({ frames := 2, cells := 0, slots := 0, locals := 24 } : Room).cells ({ frames := 2, cells := 0, slots := 0, locals := 24 } : Room).slots) := by
  refine MetFree.of_bodySF (plainFor_of_name pn_7) hisR ?_
  intro p e s m args below meth c s₁ Bd hml0 hP hK
  obtain ⟨rfl, hZ, hh⟩ := hP
  have hx := Bd.exec
  have hby := Bd.bytes
  have hml : c.maxLocals = 2 := hml0
  have hown : s.vm.findClass "java/lang/Integer" = some m.cls := findClass_of_methodNamed Bd.named
  have hnm := (name_of_methodNamed Bd.named Bd.method).1
  have X0 : Stand p l e ({ frames := 2, cells := 0, slots := 0, locals := 24 } : Room) s m #[(.ref a), (.int pv)] below meth c s₁ [] 0 0 := Stand.of_body Bd
  have e0 : s₁.heap = h0 := by rw [← hh, Bd.state]; rfl
  have N0 := Fr.nil n0
  refine Go.enter (F := EndN s (Q_rmBoxI Z a pv u h0 n0) ({ frames := 2, cells := 0, slots := 0, locals := 24 } : Room).cells ({ frames := 2, cells := 0, slots := 0, locals := 24 } : Room).slots) (ef_8 m a pv) ?_
  show Go _ _ _ _ s₁ (mkF m 0 #[.val (.ref a), .val (.int pv)] [])
  refine Go.by (fun _ gk => XS.aloadN X0.here hx rfl (hb hby d13_0) rfl rfl gk) ?_
  show Go _ _ _ _ s₁ (mkF m 1 #[.val (.ref a), .val (.int pv)] [(.ref a)])
  obtain ⟨_, _, ⟨T1, L1, k1, n1⟩, -, X1, ⟨Lc1, hQ1, l1, y1, z1⟩, st1⟩ := X0.specialBack hx (y := (⟨"java/lang/Number", "<init>", "()V"⟩ : MethodName)) rfl hown (mvT hZ (hw _ (List.mem_of_getElem? (i := 74) rfl))) (mvT hZ (hw _ (List.mem_of_getElem? (i := 75) rfl))) (mvT hZ (hw _ (List.mem_of_getElem? (i := 79) rfl))) (by decide) (backOf (W := 0) (rmNumber l Z a0 hw [] a h0 n0 Z0 ) hZ (hw _ (List.mem_of_getElem? (i := 79) rfl)) (hw _ (List.mem_of_getElem? (i := 78) rfl)) (by decide) (by decide)) (g := (mkF m 1 #[.val (.ref a), .val (.int pv)] [(.ref a)])) rfl (by rw [hml]; rfl) (Steps.refl _) (a := a) (argsL := []) (rest := []) (lenOf pd_10 rfl) rfl (by show 2 * 0 + _ ≤ _; exact Nat.le_of_eq rfl) (hb hby d13_1) (fun _ _ => ⟨rfl, e0, (by decide : 0 + 0 ≤ _), (by decide : 0 + 0 ≤ _)⟩)
  dsimp only [Pt.U, Pt.locs, Pt.cells, Pt.slots] at X1 l1 y1 z1 st1 hQ1
  subst l1 y1 z1
  obtain ⟨rfl, N1q, e1⟩ := hQ1
  have N1 := Fr.app N0 N1q
  refine Go.to st1 ?_
  show Go _ _ _ _ T1 (mkF m 4 #[.val (.ref a), .val (.int pv)] [])
  refine Go.by (fun _ gk => XS.aloadN X1.here hx rfl (hb hby d13_4) rfl rfl gk) ?_
  show Go _ _ _ _ T1 (mkF m 5 #[.val (.ref a), .val (.int pv)] [(.ref a)])
  refine Go.by (fun _ gk => XS.iloadN X1.here hx rfl (hb hby d13_5) rfl gk) ?_
  show Go _ _ _ _ T1 (mkF m 6 #[.val (.ref a), .val (.int pv)] [(.int pv), (.ref a)])
  obtain ⟨T2, h2, X2, e2, W2, st2⟩ := putF X1 hx hZ hown (host := "") (Or.inl (hw _ (List.mem_of_getElem? (i := 81) rfl))) Via.refl e1 F_a_value E_a (Or.inr ⟨(hw _ (List.mem_of_getElem? (i := 82) rfl)), rfl, hnm⟩) (hw _ (List.mem_of_getElem? (i := 69) rfl)) (ty := .int) (by decide) rfl rfl (g := (mkF m 6 #[.val (.ref a), .val (.int pv)] [(.int pv), (.ref a)])) rfl rfl (hb hby d13_6)
  have N2 := Fr.snoc X2 N1 g_a
  have Fw2 : Fld Z h2 a "java/lang/Integer" "value" "I" (.int pv) := F_a_value.same W2
  refine Go.by st2 ?_
  show Go _ _ _ _ T2 (mkF m 9 #[.val (.ref a), .val (.int pv)] [])
  have F3 : Keep h0 h2 [a] := (Keep.refl h0 [a]).wr W2 (Or.inl (List.mem_of_getElem? (i := 0) rfl))
  have F4 : Exa Z h2 a "java/lang/Integer" := E_a.wr W2
  exact Go.retV X2 hx Bd.notSynchronized Bd.returns (hb hby d13_9) (by rw [e2]; exact ⟨rfl, N2, F3, F4, Fw2⟩) (by decide) (by decide)
theorem own_back (p : Int32) : p + 128 - 128 = p := by simp
theorem ef_16 (m : MethodId) (x0 : Int32) : entryFrame m #[(.int x0)] 1 = mkF m 0 #[.val (.int x0)] [] := by (first | (simp [entryFrame, mkF, argsToLocals, Value.category]; done) | rfl)
theorem d2_0 : decode jdk_33_method_22_code 0 = .ok (.iload_n 0, 1) := by decide +kernel
theorem d2_1 : decode jdk_33_method_22_code 1 = .ok (.bipush (-128), 2) := by decide +kernel
theorem d2_3 : decode jdk_33_method_22_code 3 = .ok (.if_icmp .lt 20, 3) := by decide +kernel
theorem d2_23 : decode jdk_33_method_22_code 23 = .ok (.new 1, 3) := by decide +kernel
theorem d2_26 : decode jdk_33_method_22_code 26 = .ok (.dup, 1) := by decide +kernel
theorem d2_27 : decode jdk_33_method_22_code 27 = .ok (.iload_n 0, 1) := by decide +kernel
theorem pd_23 : parseMethodDescriptor "(I)V" = some ⟨[.int], none⟩ := by decide +kernel
theorem d2_28 : decode jdk_33_method_22_code 28 = .ok (.invokespecial 199, 3) := by decide +kernel
theorem d2_31 : decode jdk_33_method_22_code 31 = .ok (.areturn, 1) := by decide +kernel
theorem d2_6 : decode jdk_33_method_22_code 6 = .ok (.iload_n 0, 1) := by decide +kernel
theorem d2_7 : decode jdk_33_method_22_code 7 = .ok (.getstatic 191, 3) := by decide +kernel
theorem d2_10 : decode jdk_33_method_22_code 10 = .ok (.if_icmp .gt 13, 3) := by decide +kernel
theorem d2_13 : decode jdk_33_method_22_code 13 = .ok (.getstatic 195, 3) := by decide +kernel
theorem d2_16 : decode jdk_33_method_22_code 16 = .ok (.iload_n 0, 1) := by decide +kernel
theorem d2_17 : decode jdk_33_method_22_code 17 = .ok (.sipush 128, 3) := by decide +kernel
theorem d2_20 : decode jdk_33_method_22_code 20 = .ok (.iadd, 1) := by decide +kernel
theorem d2_21 : decode jdk_33_method_22_code 21 = .ok (.aaload, 1) := by decide +kernel
theorem d2_22 : decode jdk_33_method_22_code 22 = .ok (.areturn, 1) := by decide +kernel
def Q_rmValueOfI (Z : State) (pv : Int32) (caI : Addr) (ccI : Cell) (h0 : Heap) (n0 : Nat) (v : Option Value) (h : Heap) (L : List Loc) : Prop := ∃ b : Addr, v = some (.ref b) ∧ Fr n0 L ∧ Keep h0 h [] ∧ Exa Z h b "java/lang/Integer" ∧ Fld Z h b "java/lang/Integer" "value" "I" (.int pv)
set_option maxRecDepth 65536 in
set_option maxHeartbeats 40000000 in
theorem rmValueOfI (l : Launch) (Z : State) (a0 : Array Value) (hw : ∀ d ∈ tables_1, d.before a0 Z = true) (ws : List Jvm.Cond) (pv : Int32) (caI : Addr) (ccI : Cell) (h0 : Heap) (n0 : Nat) (Z0 : n0 ≤ h0.size) (O0 : Old Z n0 h0) (S_cacheI : Sta Z Z.heap "java/lang/Integer$IntegerCache" "cache" "[Ljava/lang/Integer;" (.ref caI)) (B_I : Bxs Z caI ccI "java/lang/Integer" "I" 256 (fun j => .int (j - 128))) (S_high : Sta Z Z.heap "java/lang/Integer$IntegerCache" "high" "I" (.int 127)) :
    MetFree l (⟨"java/lang/Integer", "valueOf", "(I)Ljava/lang/Integer;"⟩ : MethodName) (head1 (Jvm.Cond.code (⟨"java/lang/Integer", "valueOf", "(I)Ljava/lang/Integer;"⟩ : MethodName) jdk_33_method_22_code 1 (some (.object "java/lang/Integer")) :: ws) ({ frames := 3, cells := 1, slots := 1, locals := 38 } : Room)) (fun as' U => as' = #[(.int pv)] ∧ Z.Warmed39 U.vm ∧ U.heap = h0) (fun _ _ _ _ _ => True) (fun _ U o U' => ∃ v L, o = .returned v ∧ Q_rmValueOfI Z pv caI ccI h0 n0 v U'.heap L ∧ FrameEnd U o U' L ({ frames := 3, cells := 1, slots := 1, locals := 38 } : Room).cells ({ frames := 3, cells := 1, slots := 1, locals := 38 } : Room).slots) := by
  refine MetFree.of_bodySF (plainFor_of_name pn_7) hisR ?_
  intro p e s m args below meth c s₁ Bd hml0 hP hK
  obtain ⟨rfl, hZ, hh⟩ := hP
  have hx := Bd.exec
  have hby := Bd.bytes
  have hml : c.maxLocals = 1 := hml0
  have hown : s.vm.findClass "java/lang/Integer" = some m.cls := findClass_of_methodNamed Bd.named
  have hnm := (name_of_methodNamed Bd.named Bd.method).1
  have X0 : Stand p l e ({ frames := 3, cells := 1, slots := 1, locals := 38 } : Room) s m #[(.int pv)] below meth c s₁ [] 0 0 := Stand.of_body Bd
  have e0 : s₁.heap = h0 := by rw [← hh, Bd.state]; rfl
  have N0 := Fr.nil n0
  refine Go.enter (F := EndN s (Q_rmValueOfI Z pv caI ccI h0 n0) ({ frames := 3, cells := 1, slots := 1, locals := 38 } : Room).cells ({ frames := 3, cells := 1, slots := 1, locals := 38 } : Room).slots) (ef_16 m pv) ?_
  show Go _ _ _ _ s₁ (mkF m 0 #[.val (.int pv)] [])
  refine Go.by (fun _ gk => XS.iloadN X0.here hx rfl (hb hby d2_0) rfl gk) ?_
  show Go _ _ _ _ s₁ (mkF m 1 #[.val (.int pv)] [(.int pv)])
  refine Go.by (fun _ gk => XT.bipushV X0.here hx rfl (-128 : Int32) (hb hby d2_1) (by decide) gk) ?_
  show Go _ _ _ _ s₁ (mkF m 3 #[.val (.int pv)] [(.int (-128 : Int32)), (.int pv)])
  by_cases hb1 : pv < (-128 : Int32)
  · refine Go.by (fun _ gk => XS.icmpYes X0.here hx rfl (pc0 := 3) (pc' := 23) rfl (hb hby d2_3) rfl (XT.ii_lt_t hb1) (by decide) (by decide) gk) ?_
    show Go _ _ _ _ s₁ (mkF m 23 #[.val (.int pv)] [])
    obtain ⟨b, g2⟩ : ∃ z, z = h0.size := ⟨_, rfl⟩
    have ge_b : n0 ≤ b := Nat.le_trans Z0 (Nat.le_of_eq g2.symm)
    have sz_b : h0.size ≤ b := Nat.le_trans (Keep.refl h0 []).1 (Nat.le_of_eq g2.symm)
    obtain ⟨T2, h2, X2, e2, E2, A2, D2, -, st2⟩ := newO X0 hx hZ hown (hw _ (List.mem_of_getElem? (i := 68) rfl)) (hw _ (List.mem_of_getElem? (i := 69) rfl)) (hw _ (List.mem_of_getElem? (i := 6) rfl)) e0 (g := (mkF m 23 #[.val (.int pv)] [])) rfl (hb hby d2_23) (by decide) (by decide)
    rw [← g2] at A2 D2 st2
    have F_value_b : Fld Z h2 b "java/lang/Integer" "value" "I" (.int (0 : Int32)) := D2 (Or.inr (hw _ (List.mem_of_getElem? (i := 82) rfl))) (ty := .int) (by decide)
    refine Go.by st2 ?_
    show Go _ _ _ _ T2 (mkF m 26 #[.val (.int pv)] [(.ref b)])
    refine Go.by (fun _ gk => XS.dup X2.here hx rfl (hb hby d2_26) rfl rfl gk) ?_
    show Go _ _ _ _ T2 (mkF m 27 #[.val (.int pv)] [(.ref b), (.ref b)])
    refine Go.by (fun _ gk => XS.iloadN X2.here hx rfl (hb hby d2_27) rfl gk) ?_
    show Go _ _ _ _ T2 (mkF m 28 #[.val (.int pv)] [(.int pv), (.ref b), (.ref b)])
    have F3 : n0 ≤ h2.size := Nat.le_trans Z0 E2.1
    obtain ⟨_, _, ⟨T4, L4, k4, n4⟩, -, X4, ⟨Lc4, hQ4, l4, y4, z4⟩, st4⟩ := X2.specialBack hx (y := (⟨"java/lang/Integer", "<init>", "(I)V"⟩ : MethodName)) rfl hown (mvT hZ (hw _ (List.mem_of_getElem? (i := 70) rfl))) (mvT hZ (hw _ (List.mem_of_getElem? (i := 71) rfl))) (mvT hZ (hw _ (List.mem_of_getElem? (i := 73) rfl))) (by decide) (backOf (W := 1) (rmBoxI l Z a0 hw [] b pv (.int (0 : Int32)) h2 n0 F3 A2 F_value_b ge_b) hZ (hw _ (List.mem_of_getElem? (i := 73) rfl)) (hw _ (List.mem_of_getElem? (i := 6) rfl)) (by decide) (by decide)) (g := (mkF m 28 #[.val (.int pv)] [(.int pv), (.ref b), (.ref b)])) rfl (by rw [hml]; rfl) (Steps.refl _) (a := b) (argsL := [(.int pv)]) (rest := [(.ref b)]) (lenOf pd_23 rfl) rfl (by show 2 * 0 + _ ≤ _; exact Nat.le_of_eq rfl) (hb hby d2_28) (fun _ _ => ⟨rfl, e2, (by decide : 1 + 0 ≤ _), (by decide : 1 + 0 ≤ _)⟩)
    dsimp only [Pt.U, Pt.locs, Pt.cells, Pt.slots] at X4 l4 y4 z4 st4 hQ4
    subst l4 y4 z4
    obtain ⟨rfl, N4q, K4, Q4_0, Q4_1⟩ := hQ4
    have N4 := Fr.app N0 N4q
    refine Go.to st4 ?_
    show Go _ _ _ _ T4 (mkF m 31 #[.val (.int pv)] [(.ref b)])
    have F5 : Keep h0 h2 [] := (Keep.refl h0 []).ext E2
    have F6 : Keep h0 T4.heap [] := F5.trans K4 (allS (Or.inr sz_b) all0)
    exact Go.retA X4 hx Bd.notSynchronized Bd.returns rfl rfl (hb hby d2_31) ⟨b, rfl, N4, F6, Q4_0, Q4_1⟩ (by decide) (by decide)
  · refine Go.by (fun _ gk => XS.icmpNo X0.here hx rfl (hb hby d2_3) rfl (XT.ii_lt_f hb1) gk) ?_
    show Go _ _ _ _ s₁ (mkF m 6 #[.val (.int pv)] [])
    refine Go.by (fun _ gk => XS.iloadN X0.here hx rfl (hb hby d2_6) rfl gk) ?_
    show Go _ _ _ _ s₁ (mkF m 7 #[.val (.int pv)] [(.int pv)])
    have F7 : Sta Z h0 "java/lang/Integer$IntegerCache" "high" "I" (.int (127 : Int32)) := S_high.ext O0.2
    obtain ⟨T8, X8, e8, st8⟩ := getS2 X0 hx hZ hown (host := "") (Or.inl (hw _ (List.mem_of_getElem? (i := 8) rfl))) Via.refl e0 F7 (g := (mkF m 7 #[.val (.int pv)] [(.int pv)])) rfl (hb hby d2_7)
    refine Go.by st8 ?_
    show Go _ _ _ _ T8 (mkF m 10 #[.val (.int pv)] [(.int (127 : Int32)), (.int pv)])
    by_cases hb9 : (127 : Int32) < pv
    · refine Go.by (fun _ gk => XS.icmpYes X8.here hx rfl (pc0 := 10) (pc' := 23) rfl (hb hby d2_10) rfl (XT.ii_gt_t hb9) (by decide) (by decide) gk) ?_
      show Go _ _ _ _ T8 (mkF m 23 #[.val (.int pv)] [])
      obtain ⟨b, g10⟩ : ∃ z, z = h0.size := ⟨_, rfl⟩
      have ge_b : n0 ≤ b := Nat.le_trans Z0 (Nat.le_of_eq g10.symm)
      have sz_b : h0.size ≤ b := Nat.le_trans (Keep.refl h0 []).1 (Nat.le_of_eq g10.symm)
      obtain ⟨T10, h10, X10, e10, E10, A10, D10, -, st10⟩ := newO X8 hx hZ hown (hw _ (List.mem_of_getElem? (i := 68) rfl)) (hw _ (List.mem_of_getElem? (i := 69) rfl)) (hw _ (List.mem_of_getElem? (i := 6) rfl)) e8 (g := (mkF m 23 #[.val (.int pv)] [])) rfl (hb hby d2_23) (by decide) (by decide)
      rw [← g10] at A10 D10 st10
      have F_value_b : Fld Z h10 b "java/lang/Integer" "value" "I" (.int (0 : Int32)) := D10 (Or.inr (hw _ (List.mem_of_getElem? (i := 82) rfl))) (ty := .int) (by decide)
      refine Go.by st10 ?_
      show Go _ _ _ _ T10 (mkF m 26 #[.val (.int pv)] [(.ref b)])
      refine Go.by (fun _ gk => XS.dup X10.here hx rfl (hb hby d2_26) rfl rfl gk) ?_
      show Go _ _ _ _ T10 (mkF m 27 #[.val (.int pv)] [(.ref b), (.ref b)])
      refine Go.by (fun _ gk => XS.iloadN X10.here hx rfl (hb hby d2_27) rfl gk) ?_
      show Go _ _ _ _ T10 (mkF m 28 #[.val (.int pv)] [(.int pv), (.ref b), (.ref b)])
      have F11 : n0 ≤ h10.size := Nat.le_trans Z0 E10.1
      obtain ⟨_, _, ⟨T12, L12, k12, n12⟩, -, X12, ⟨Lc12, hQ12, l12, y12, z12⟩, st12⟩ := X10.specialBack hx (y := (⟨"java/lang/Integer", "<init>", "(I)V"⟩ : MethodName)) rfl hown (mvT hZ (hw _ (List.mem_of_getElem? (i := 70) rfl))) (mvT hZ (hw _ (List.mem_of_getElem? (i := 71) rfl))) (mvT hZ (hw _ (List.mem_of_getElem? (i := 73) rfl))) (by decide) (backOf (W := 1) (rmBoxI l Z a0 hw [] b pv (.int (0 : Int32)) h10 n0 F11 A10 F_value_b ge_b) hZ (hw _ (List.mem_of_getElem? (i := 73) rfl)) (hw _ (List.mem_of_getElem? (i := 6) rfl)) (by decide) (by decide)) (g := (mkF m 28 #[.val (.int pv)] [(.int pv), (.ref b), (.ref b)])) rfl (by rw [hml]; rfl) (Steps.refl _) (a := b) (argsL := [(.int pv)]) (rest := [(.ref b)]) (lenOf pd_23 rfl) rfl (by show 2 * 0 + _ ≤ _; exact Nat.le_of_eq rfl) (hb hby d2_28) (fun _ _ => ⟨rfl, e10, (by decide : 1 + 0 ≤ _), (by decide : 1 + 0 ≤ _)⟩)
      dsimp only [Pt.U, Pt.locs, Pt.cells, Pt.slots] at X12 l12 y12 z12 st12 hQ12
      subst l12 y12 z12
      obtain ⟨rfl, N12q, K12, Q12_0, Q12_1⟩ := hQ12
      have N12 := Fr.app N0 N12q
      refine Go.to st12 ?_
      show Go _ _ _ _ T12 (mkF m 31 #[.val (.int pv)] [(.ref b)])
      have F13 : Keep h0 h10 [] := (Keep.refl h0 []).ext E10
      have F14 : Keep h0 T12.heap [] := F13.trans K12 (allS (Or.inr sz_b) all0)
      exact Go.retA X12 hx Bd.notSynchronized Bd.returns rfl rfl (hb hby d2_31) ⟨b, rfl, N12, F14, Q12_0, Q12_1⟩ (by decide) (by decide)
    · refine Go.by (fun _ gk => XS.icmpNo X8.here hx rfl (hb hby d2_10) rfl (XT.ii_gt_f hb9) gk) ?_
      show Go _ _ _ _ T8 (mkF m 13 #[.val (.int pv)] [])
      have F15 : Sta Z h0 "java/lang/Integer$IntegerCache" "cache" "[Ljava/lang/Integer;" (.ref caI) := S_cacheI.ext O0.2
      obtain ⟨T16, X16, e16, st16⟩ := getS2 X8 hx hZ hown (host := "") (Or.inl (hw _ (List.mem_of_getElem? (i := 10) rfl))) Via.refl e8 F15 (g := (mkF m 13 #[.val (.int pv)] [])) rfl (hb hby d2_13)
      refine Go.by st16 ?_
      show Go _ _ _ _ T16 (mkF m 16 #[.val (.int pv)] [(.ref caI)])
      refine Go.by (fun _ gk => XS.iloadN X16.here hx rfl (hb hby d2_16) rfl gk) ?_
      show Go _ _ _ _ T16 (mkF m 17 #[.val (.int pv)] [(.int pv), (.ref caI)])
      refine Go.by (fun _ gk => XT.sipushV X16.here hx rfl (128 : Int32) (hb hby d2_17) (by decide) gk) ?_
      show Go _ _ _ _ T16 (mkF m 20 #[.val (.int pv)] [(.int (128 : Int32)), (.int pv), (.ref caI)])
      refine Go.by (fun _ gk => XS.iadd X16.here hx rfl (hb hby d2_20) rfl gk) ?_
      show Go _ _ _ _ T16 (mkF m 21 #[.val (.int pv)] [(.int (pv + (128 : Int32))), (.ref caI)])
      have hj := own_boxin hb1 hb9
      obtain ⟨Ar, Sz, Nz⟩ := B_I.ext O0.2
      have hin := inb_of Sz hj
      obtain ⟨b, hat, Eb, Fb⟩ := B_I.2.2.2 _ hin
      refine Go.by (fun _ gk => X16.aaload hx (j := pv + (128 : Int32)) (v := .ref b) (by rw [e16]; exact Ar.1) (State.isArrayOf_alike hZ.alike Ar.2.1) rfl Ar.2.2 hin hat (g := (mkF m 21 #[.val (.int pv)] [(.int (pv + (128 : Int32))), (.ref caI)])) rfl rfl (hb hby d2_21) _ gk) ?_
      show Go _ _ _ _ T16 (mkF m 22 #[.val (.int pv)] [(.ref b)])
      have Fb' : Fld Z Z.heap b "java/lang/Integer" "value" "I" (.int pv) := own_back pv ▸ Fb
      have F17 : Exa Z h0 b "java/lang/Integer" := Eb.ext O0.2
      have F18 : Fld Z h0 b "java/lang/Integer" "value" "I" (.int pv) := Fb'.ext O0.2
      exact Go.retA X16 hx Bd.notSynchronized Bd.returns rfl rfl (hb hby d2_22) (by rw [e16]; exact ⟨b, rfl, N0, (Keep.refl h0 []), F17, F18⟩) (by decide) (by decide)
theorem pn_35 : plainName "java/lang/Long" = true := by first | (simp [plainName, overriddenIn]; done) | decide +kernel
theorem ef_36 (m : MethodId) (x0 : Addr) (x1 : Int64) : entryFrame m #[(.ref x0), (.long x1)] 3 = mkF m 0 #[.val (.ref x0), .val (.long x1), .second] [] := by (first | (simp [entryFrame, mkF, argsToLocals, Value.category]; done) | rfl)
theorem d16_0 : decode jdk_35_method_26_code 0 = .ok (.aload_n 0, 1) := by decide +kernel
theorem d16_1 : decode jdk_35_method_26_code 1 = .ok (.invokespecial 270, 3) := by decide +kernel
theorem d16_4 : decode jdk_35_method_26_code 4 = .ok (.aload_n 0, 1) := by decide +kernel
theorem d16_5 : decode jdk_35_method_26_code 5 = .ok (.lload_n 1, 1) := by decide +kernel
theorem d16_6 : decode jdk_35_method_26_code 6 = .ok (.putfield 273, 3) := by decide +kernel
theorem d16_9 : decode jdk_35_method_26_code 9 = .ok (.return_, 1) := by decide +kernel
def Q_rmBoxJ (Z : State) (a : Addr) (pv : Int64) (u : Value) (h0 : Heap) (n0 : Nat) (v : Option Value) (h : Heap) (L : List Loc) : Prop := v = none ∧ Fr n0 L ∧ Keep h0 h [a] ∧ Exa Z h a "java/lang/Long" ∧ Fld Z h a "java/lang/Long" "value" "J" (.long pv)
set_option maxRecDepth 65536 in
set_option maxHeartbeats 40000000 in
theorem rmBoxJ (l : Launch) (Z : State) (a0 : Array Value) (hw : ∀ d ∈ tables_1, d.before a0 Z = true) (ws : List Jvm.Cond) (a : Addr) (pv : Int64) (u : Value) (h0 : Heap) (n0 : Nat) (Z0 : n0 ≤ h0.size) (E_a : Exa Z h0 a "java/lang/Long") (F_a_value : Fld Z h0 a "java/lang/Long" "value" "J" u) (g_a : n0 ≤ a) :
    MetFree l (⟨"java/lang/Long", "<init>", "(J)V"⟩ : MethodName) (head1 (Jvm.Cond.code (⟨"java/lang/Long", "<init>", "(J)V"⟩ : MethodName) jdk_35_method_26_code 3 none :: ws) ({ frames := 2, cells := 0, slots := 0, locals := 24 } : Room)) (fun as' U => as' = #[(.ref a), (.long pv)] ∧ Z.Warmed39 U.vm ∧ U.heap = h0) (fun _ _ _ _ _ => True) (fun _ U o U' => ∃ v L, o = .returned v ∧ Q_rmBoxJ Z a pv u h0 n0 v U'.heap L ∧ FrameEnd U o U' L ({ frames := 2, cells := 0, slots := 0, locals := 24 } : Room).cells ({ frames := 2, cells := 0, slots := 0, locals := 24 } : Room).slots) := by
  refine MetFree.of_bodySF (plainFor_of_name pn_35) hisR ?_
  intro p e s m args below meth c s₁ Bd hml0 hP hK
  obtain ⟨rfl, hZ, hh⟩ := hP
  have hx := Bd.exec
  have hby := Bd.bytes
  have hml : c.maxLocals = 3 := hml0
  have hown : s.vm.findClass "java/lang/Long" = some m.cls := findClass_of_methodNamed Bd.named
  have hnm := (name_of_methodNamed Bd.named Bd.method).1
  have X0 : Stand p l e ({ frames := 2, cells := 0, slots := 0, locals := 24 } : Room) s m #[(.ref a), (.long pv)] below meth c s₁ [] 0 0 := Stand.of_body Bd
  have e0 : s₁.heap = h0 := by rw [← hh, Bd.state]; rfl
  have N0 := Fr.nil n0
  refine Go.enter (F := EndN s (Q_rmBoxJ Z a pv u h0 n0) ({ frames := 2, cells := 0, slots := 0, locals := 24 } : Room).cells ({ frames := 2, cells := 0, slots := 0, locals := 24 } : Room).slots) (ef_36 m a pv) ?_
  show Go _ _ _ _ s₁ (mkF m 0 #[.val (.ref a), .val (.long pv), .second] [])
  refine Go.by (fun _ gk => XS.aloadN X0.here hx rfl (hb hby d16_0) rfl rfl gk) ?_
  show Go _ _ _ _ s₁ (mkF m 1 #[.val (.ref a), .val (.long pv), .second] [(.ref a)])
  obtain ⟨_, _, ⟨T1, L1, k1, n1⟩, -, X1, ⟨Lc1, hQ1, l1, y1, z1⟩, st1⟩ := X0.specialBack hx (y := (⟨"java/lang/Number", "<init>", "()V"⟩ : MethodName)) rfl hown (mvT hZ (hw _ (List.mem_of_getElem? (i := 99) rfl))) (mvT hZ (hw _ (List.mem_of_getElem? (i := 75) rfl))) (mvT hZ (hw _ (List.mem_of_getElem? (i := 79) rfl))) (by decide) (backOf (W := 0) (rmNumber l Z a0 hw [] a h0 n0 Z0 ) hZ (hw _ (List.mem_of_getElem? (i := 79) rfl)) (hw _ (List.mem_of_getElem? (i := 78) rfl)) (by decide) (by decide)) (g := (mkF m 1 #[.val (.ref a), .val (.long pv), .second] [(.ref a)])) rfl (by rw [hml]; rfl) (Steps.refl _) (a := a) (argsL := []) (rest := []) (lenOf pd_10 rfl) rfl (by show 2 * 0 + _ ≤ _; exact Nat.le_of_eq rfl) (hb hby d16_1) (fun _ _ => ⟨rfl, e0, (by decide : 0 + 0 ≤ _), (by decide : 0 + 0 ≤ _)⟩)
  dsimp only [Pt.U, Pt.locs, Pt.cells, Pt.slots] at X1 l1 y1 z1 st1 hQ1
  subst l1 y1 z1
  obtain ⟨rfl, N1q, e1⟩ := hQ1
  have N1 := Fr.app N0 N1q
  refine Go.to st1 ?_
  show Go _ _ _ _ T1 (mkF m 4 #[.val (.ref a), .val (.long pv), .second] [])
  refine Go.by (fun _ gk => XS.aloadN X1.here hx rfl (hb hby d16_4) rfl rfl gk) ?_
  show Go _ _ _ _ T1 (mkF m 5 #[.val (.ref a), .val (.long pv), .second] [(.ref a)])
  refine Go.by (fun _ gk => XT.lloadN X1.here hx rfl (hb hby d16_5) rfl gk) ?_
  show Go _ _ _ _ T1 (mkF m 6 #[.val (.ref a), .val (.long pv), .second] [(.long pv), (.ref a)])
  obtain ⟨T2, h2, X2, e2, W2, st2⟩ := putF X1 hx hZ hown (host := "") (Or.inl (hw _ (List.mem_of_getElem? (i := 101) rfl))) Via.refl e1 F_a_value E_a (Or.inr ⟨(hw _ (List.mem_of_getElem? (i := 102) rfl)), rfl, hnm⟩) (hw _ (List.mem_of_getElem? (i := 94) rfl)) (ty := .long) (by decide) rfl rfl (g := (mkF m 6 #[.val (.ref a), .val (.long pv), .second] [(.long pv), (.ref a)])) rfl rfl (hb hby d16_6)
  have N2 := Fr.snoc X2 N1 g_a
  have Fw2 : Fld Z h2 a "java/lang/Long" "value" "J" (.long pv) := F_a_value.same W2
  refine Go.by st2 ?_
  show Go _ _ _ _ T2 (mkF m 9 #[.val (.ref a), .val (.long pv), .second] [])
  have F3 : Keep h0 h2 [a] := (Keep.refl h0 [a]).wr W2 (Or.inl (List.mem_of_getElem? (i := 0) rfl))
  have F4 : Exa Z h2 a "java/lang/Long" := E_a.wr W2
  exact Go.retV X2 hx Bd.notSynchronized Bd.returns (hb hby d16_9) (by rw [e2]; exact ⟨rfl, N2, F3, F4, Fw2⟩) (by decide) (by decide)
theorem ef_43 (m : MethodId) (x0 : Int64) : entryFrame m #[(.long x0)] 3 = mkF m 0 #[.val (.long x0), .second, .unset] [] := by (first | (simp [entryFrame, mkF, argsToLocals, Value.category]; done) | rfl)
theorem d15_0 : decode jdk_35_method_24_code 0 = .ok (.sipush 128, 3) := by decide +kernel
theorem d15_3 : decode jdk_35_method_24_code 3 = .ok (.istore_n 2, 1) := by decide +kernel
theorem d15_4 : decode jdk_35_method_24_code 4 = .ok (.lload_n 0, 1) := by decide +kernel
theorem d15_5 : decode jdk_35_method_24_code 5 = .ok (.ldc2_w 230, 3) := by decide +kernel
theorem d15_8 : decode jdk_35_method_24_code 8 = .ok (.lcmp, 1) := by decide +kernel
theorem d15_9 : decode jdk_35_method_24_code 9 = .ok (.ifCond .lt 22, 3) := by decide +kernel
theorem d15_31 : decode jdk_35_method_24_code 31 = .ok (.new 1, 3) := by decide +kernel
theorem d15_34 : decode jdk_35_method_24_code 34 = .ok (.dup, 1) := by decide +kernel
theorem d15_35 : decode jdk_35_method_24_code 35 = .ok (.lload_n 0, 1) := by decide +kernel
theorem pd_53 : parseMethodDescriptor "(J)V" = some ⟨[.long], none⟩ := by decide +kernel
theorem d15_36 : decode jdk_35_method_24_code 36 = .ok (.invokespecial 240, 3) := by decide +kernel
theorem d15_39 : decode jdk_35_method_24_code 39 = .ok (.areturn, 1) := by decide +kernel
theorem d15_12 : decode jdk_35_method_24_code 12 = .ok (.lload_n 0, 1) := by decide +kernel
theorem d15_13 : decode jdk_35_method_24_code 13 = .ok (.ldc2_w 232, 3) := by decide +kernel
theorem d15_16 : decode jdk_35_method_24_code 16 = .ok (.lcmp, 1) := by decide +kernel
theorem d15_17 : decode jdk_35_method_24_code 17 = .ok (.ifCond .gt 14, 3) := by decide +kernel
theorem d15_20 : decode jdk_35_method_24_code 20 = .ok (.getstatic 234, 3) := by decide +kernel
theorem d15_23 : decode jdk_35_method_24_code 23 = .ok (.lload_n 0, 1) := by decide +kernel
theorem d15_24 : decode jdk_35_method_24_code 24 = .ok (.l2i, 1) := by decide +kernel
theorem d15_25 : decode jdk_35_method_24_code 25 = .ok (.sipush 128, 3) := by decide +kernel
theorem d15_28 : decode jdk_35_method_24_code 28 = .ok (.iadd, 1) := by decide +kernel
theorem d15_29 : decode jdk_35_method_24_code 29 = .ok (.aaload, 1) := by decide +kernel
theorem d15_30 : decode jdk_35_method_24_code 30 = .ok (.areturn, 1) := by decide +kernel
def Q_rmValueOfJ (Z : State) (pv : Int64) (caJ : Addr) (ccJ : Cell) (h0 : Heap) (n0 : Nat) (v : Option Value) (h : Heap) (L : List Loc) : Prop := ∃ b : Addr, v = some (.ref b) ∧ Fr n0 L ∧ Keep h0 h [] ∧ Exa Z h b "java/lang/Long"
set_option maxRecDepth 65536 in
set_option maxHeartbeats 40000000 in
theorem rmValueOfJ (l : Launch) (Z : State) (a0 : Array Value) (hw : ∀ d ∈ tables_1, d.before a0 Z = true) (ws : List Jvm.Cond) (pv : Int64) (caJ : Addr) (ccJ : Cell) (h0 : Heap) (n0 : Nat) (Z0 : n0 ≤ h0.size) (O0 : Old Z n0 h0) (S_cacheJ : Sta Z Z.heap "java/lang/Long$LongCache" "cache" "[Ljava/lang/Long;" (.ref caJ)) (B_J : Bxs Z caJ ccJ "java/lang/Long" "J" 256 (fun j => .long (j - 128).toInt64)) :
    MetFree l (⟨"java/lang/Long", "valueOf", "(J)Ljava/lang/Long;"⟩ : MethodName) (head1 (Jvm.Cond.code (⟨"java/lang/Long", "valueOf", "(J)Ljava/lang/Long;"⟩ : MethodName) jdk_35_method_24_code 3 (some (.object "java/lang/Long")) :: ws) ({ frames := 3, cells := 1, slots := 1, locals := 39 } : Room)) (fun as' U => as' = #[(.long pv)] ∧ Z.Warmed39 U.vm ∧ U.heap = h0) (fun _ _ _ _ _ => True) (fun _ U o U' => ∃ v L, o = .returned v ∧ Q_rmValueOfJ Z pv caJ ccJ h0 n0 v U'.heap L ∧ FrameEnd U o U' L ({ frames := 3, cells := 1, slots := 1, locals := 39 } : Room).cells ({ frames := 3, cells := 1, slots := 1, locals := 39 } : Room).slots) := by
  refine MetFree.of_bodySF (plainFor_of_name pn_35) hisR ?_
  intro p e s m args below meth c s₁ Bd hml0 hP hK
  obtain ⟨rfl, hZ, hh⟩ := hP
  have hx := Bd.exec
  have hby := Bd.bytes
  have hml : c.maxLocals = 3 := hml0
  have hown : s.vm.findClass "java/lang/Long" = some m.cls := findClass_of_methodNamed Bd.named
  have hnm := (name_of_methodNamed Bd.named Bd.method).1
  have X0 : Stand p l e ({ frames := 3, cells := 1, slots := 1, locals := 39 } : Room) s m #[(.long pv)] below meth c s₁ [] 0 0 := Stand.of_body Bd
  have e0 : s₁.heap = h0 := by rw [← hh, Bd.state]; rfl
  have N0 := Fr.nil n0
  refine Go.enter (F := EndN s (Q_rmValueOfJ Z pv caJ ccJ h0 n0) ({ frames := 3, cells := 1, slots := 1, locals := 39 } : Room).cells ({ frames := 3, cells := 1, slots := 1, locals := 39 } : Room).slots) (ef_43 m pv) ?_
  show Go _ _ _ _ s₁ (mkF m 0 #[.val (.long pv), .second, .unset] [])
  refine Go.by (fun _ gk => XT.sipushV X0.here hx rfl (128 : Int32) (hb hby d15_0) (by decide) gk) ?_
  show Go _ _ _ _ s₁ (mkF m 3 #[.val (.long pv), .second, .unset] [(.int (128 : Int32))])
  refine Go.by (fun _ gk => XS.istoreN X0.here hx rfl (hb hby d15_3) rfl (l' := #[.val (.long pv), .second, .val (.int (128 : Int32))]) rfl gk) ?_
  show Go _ _ _ _ s₁ (mkF m 4 #[.val (.long pv), .second, .val (.int (128 : Int32))] [])
  refine Go.by (fun _ gk => XT.lloadN X0.here hx rfl (hb hby d15_4) rfl gk) ?_
  show Go _ _ _ _ s₁ (mkF m 5 #[.val (.long pv), .second, .val (.int (128 : Int32))] [(.long pv)])
  refine Go.by (fun _ gk => X0.ldc2J hx hown (mvT hZ (hw _ (List.mem_of_getElem? (i := 88) rfl))) (g := (mkF m 5 #[.val (.long pv), .second, .val (.int (128 : Int32))] [(.long pv)])) rfl (hb hby d15_5) gk) ?_
  show Go _ _ _ _ s₁ (mkF m 8 #[.val (.long pv), .second, .val (.int (128 : Int32))] [(.long (-128 : Int64)), (.long pv)])
  refine Go.by (fun _ gk => XT.lcmp X0.here hx rfl (hb hby d15_8) rfl gk) ?_
  show Go _ _ _ _ s₁ (mkF m 9 #[.val (.long pv), .second, .val (.int (128 : Int32))] [(.int (XT.cmpL pv (-128 : Int64)))])
  by_cases hb1 : pv < (-128 : Int64)
  · refine Go.by (fun _ gk => XS.ifYes X0.here hx rfl (pc0 := 9) (pc' := 31) rfl (hb hby d15_9) rfl (XT.ll_lt_t hb1) (by decide) (by decide) gk) ?_
    show Go _ _ _ _ s₁ (mkF m 31 #[.val (.long pv), .second, .val (.int (128 : Int32))] [])
    obtain ⟨b, g2⟩ : ∃ z, z = h0.size := ⟨_, rfl⟩
    have ge_b : n0 ≤ b := Nat.le_trans Z0 (Nat.le_of_eq g2.symm)
    have sz_b : h0.size ≤ b := Nat.le_trans (Keep.refl h0 []).1 (Nat.le_of_eq g2.symm)
    obtain ⟨T2, h2, X2, e2, E2, A2, D2, -, st2⟩ := newO X0 hx hZ hown (hw _ (List.mem_of_getElem? (i := 93) rfl)) (hw _ (List.mem_of_getElem? (i := 94) rfl)) (hw _ (List.mem_of_getElem? (i := 86) rfl)) e0 (g := (mkF m 31 #[.val (.long pv), .second, .val (.int (128 : Int32))] [])) rfl (hb hby d15_31) (by decide) (by decide)
    rw [← g2] at A2 D2 st2
    have F_value_b : Fld Z h2 b "java/lang/Long" "value" "J" (.long (0 : Int64)) := D2 (Or.inr (hw _ (List.mem_of_getElem? (i := 102) rfl))) (ty := .long) (by decide)
    refine Go.by st2 ?_
    show Go _ _ _ _ T2 (mkF m 34 #[.val (.long pv), .second, .val (.int (128 : Int32))] [(.ref b)])
    refine Go.by (fun _ gk => XS.dup X2.here hx rfl (hb hby d15_34) rfl rfl gk) ?_
    show Go _ _ _ _ T2 (mkF m 35 #[.val (.long pv), .second, .val (.int (128 : Int32))] [(.ref b), (.ref b)])
    refine Go.by (fun _ gk => XT.lloadN X2.here hx rfl (hb hby d15_35) rfl gk) ?_
    show Go _ _ _ _ T2 (mkF m 36 #[.val (.long pv), .second, .val (.int (128 : Int32))] [(.long pv), (.ref b), (.ref b)])
    have F3 : n0 ≤ h2.size := Nat.le_trans Z0 E2.1
    obtain ⟨_, _, ⟨T4, L4, k4, n4⟩, -, X4, ⟨Lc4, hQ4, l4, y4, z4⟩, st4⟩ := X2.specialBack hx (y := (⟨"java/lang/Long", "<init>", "(J)V"⟩ : MethodName)) rfl hown (mvT hZ (hw _ (List.mem_of_getElem? (i := 95) rfl))) (mvT hZ (hw _ (List.mem_of_getElem? (i := 96) rfl))) (mvT hZ (hw _ (List.mem_of_getElem? (i := 98) rfl))) (by decide) (backOf (W := 1) (rmBoxJ l Z a0 hw [] b pv (.long (0 : Int64)) h2 n0 F3 A2 F_value_b ge_b) hZ (hw _ (List.mem_of_getElem? (i := 98) rfl)) (hw _ (List.mem_of_getElem? (i := 86) rfl)) (by decide) (by decide)) (g := (mkF m 36 #[.val (.long pv), .second, .val (.int (128 : Int32))] [(.long pv), (.ref b), (.ref b)])) rfl (by rw [hml]; rfl) (Steps.refl _) (a := b) (argsL := [(.long pv)]) (rest := [(.ref b)]) (lenOf pd_53 rfl) rfl (by show 2 * 0 + _ ≤ _; exact Nat.le_of_eq rfl) (hb hby d15_36) (fun _ _ => ⟨rfl, e2, (by decide : 1 + 0 ≤ _), (by decide : 1 + 0 ≤ _)⟩)
    dsimp only [Pt.U, Pt.locs, Pt.cells, Pt.slots] at X4 l4 y4 z4 st4 hQ4
    subst l4 y4 z4
    obtain ⟨rfl, N4q, K4, Q4_0, Q4_1⟩ := hQ4
    have N4 := Fr.app N0 N4q
    refine Go.to st4 ?_
    show Go _ _ _ _ T4 (mkF m 39 #[.val (.long pv), .second, .val (.int (128 : Int32))] [(.ref b)])
    have F5 : Keep h0 h2 [] := (Keep.refl h0 []).ext E2
    have F6 : Keep h0 T4.heap [] := F5.trans K4 (allS (Or.inr sz_b) all0)
    exact Go.retA X4 hx Bd.notSynchronized Bd.returns rfl rfl (hb hby d15_39) ⟨b, rfl, N4, F6, Q4_0⟩ (by decide) (by decide)
  · refine Go.by (fun _ gk => XS.ifNo X0.here hx rfl (hb hby d15_9) rfl (XT.ll_lt_f hb1) gk) ?_
    show Go _ _ _ _ s₁ (mkF m 12 #[.val (.long pv), .second, .val (.int (128 : Int32))] [])
    refine Go.by (fun _ gk => XT.lloadN X0.here hx rfl (hb hby d15_12) rfl gk) ?_
    show Go _ _ _ _ s₁ (mkF m 13 #[.val (.long pv), .second, .val (.int (128 : Int32))] [(.long pv)])
    refine Go.by (fun _ gk => X0.ldc2J hx hown (mvT hZ (hw _ (List.mem_of_getElem? (i := 89) rfl))) (g := (mkF m 13 #[.val (.long pv), .second, .val (.int (128 : Int32))] [(.long pv)])) rfl (hb hby d15_13) gk) ?_
    show Go _ _ _ _ s₁ (mkF m 16 #[.val (.long pv), .second, .val (.int (128 : Int32))] [(.long (127 : Int64)), (.long pv)])
    refine Go.by (fun _ gk => XT.lcmp X0.here hx rfl (hb hby d15_16) rfl gk) ?_
    show Go _ _ _ _ s₁ (mkF m 17 #[.val (.long pv), .second, .val (.int (128 : Int32))] [(.int (XT.cmpL pv (127 : Int64)))])
    by_cases hb7 : (127 : Int64) < pv
    · refine Go.by (fun _ gk => XS.ifYes X0.here hx rfl (pc0 := 17) (pc' := 31) rfl (hb hby d15_17) rfl (XT.ll_gt_t hb7) (by decide) (by decide) gk) ?_
      show Go _ _ _ _ s₁ (mkF m 31 #[.val (.long pv), .second, .val (.int (128 : Int32))] [])
      obtain ⟨b, g8⟩ : ∃ z, z = h0.size := ⟨_, rfl⟩
      have ge_b : n0 ≤ b := Nat.le_trans Z0 (Nat.le_of_eq g8.symm)
      have sz_b : h0.size ≤ b := Nat.le_trans (Keep.refl h0 []).1 (Nat.le_of_eq g8.symm)
      obtain ⟨T8, h8, X8, e8, E8, A8, D8, -, st8⟩ := newO X0 hx hZ hown (hw _ (List.mem_of_getElem? (i := 93) rfl)) (hw _ (List.mem_of_getElem? (i := 94) rfl)) (hw _ (List.mem_of_getElem? (i := 86) rfl)) e0 (g := (mkF m 31 #[.val (.long pv), .second, .val (.int (128 : Int32))] [])) rfl (hb hby d15_31) (by decide) (by decide)
      rw [← g8] at A8 D8 st8
      have F_value_b : Fld Z h8 b "java/lang/Long" "value" "J" (.long (0 : Int64)) := D8 (Or.inr (hw _ (List.mem_of_getElem? (i := 102) rfl))) (ty := .long) (by decide)
      refine Go.by st8 ?_
      show Go _ _ _ _ T8 (mkF m 34 #[.val (.long pv), .second, .val (.int (128 : Int32))] [(.ref b)])
      refine Go.by (fun _ gk => XS.dup X8.here hx rfl (hb hby d15_34) rfl rfl gk) ?_
      show Go _ _ _ _ T8 (mkF m 35 #[.val (.long pv), .second, .val (.int (128 : Int32))] [(.ref b), (.ref b)])
      refine Go.by (fun _ gk => XT.lloadN X8.here hx rfl (hb hby d15_35) rfl gk) ?_
      show Go _ _ _ _ T8 (mkF m 36 #[.val (.long pv), .second, .val (.int (128 : Int32))] [(.long pv), (.ref b), (.ref b)])
      have F9 : n0 ≤ h8.size := Nat.le_trans Z0 E8.1
      obtain ⟨_, _, ⟨T10, L10, k10, n10⟩, -, X10, ⟨Lc10, hQ10, l10, y10, z10⟩, st10⟩ := X8.specialBack hx (y := (⟨"java/lang/Long", "<init>", "(J)V"⟩ : MethodName)) rfl hown (mvT hZ (hw _ (List.mem_of_getElem? (i := 95) rfl))) (mvT hZ (hw _ (List.mem_of_getElem? (i := 96) rfl))) (mvT hZ (hw _ (List.mem_of_getElem? (i := 98) rfl))) (by decide) (backOf (W := 1) (rmBoxJ l Z a0 hw [] b pv (.long (0 : Int64)) h8 n0 F9 A8 F_value_b ge_b) hZ (hw _ (List.mem_of_getElem? (i := 98) rfl)) (hw _ (List.mem_of_getElem? (i := 86) rfl)) (by decide) (by decide)) (g := (mkF m 36 #[.val (.long pv), .second, .val (.int (128 : Int32))] [(.long pv), (.ref b), (.ref b)])) rfl (by rw [hml]; rfl) (Steps.refl _) (a := b) (argsL := [(.long pv)]) (rest := [(.ref b)]) (lenOf pd_53 rfl) rfl (by show 2 * 0 + _ ≤ _; exact Nat.le_of_eq rfl) (hb hby d15_36) (fun _ _ => ⟨rfl, e8, (by decide : 1 + 0 ≤ _), (by decide : 1 + 0 ≤ _)⟩)
      dsimp only [Pt.U, Pt.locs, Pt.cells, Pt.slots] at X10 l10 y10 z10 st10 hQ10
      subst l10 y10 z10
      obtain ⟨rfl, N10q, K10, Q10_0, Q10_1⟩ := hQ10
      have N10 := Fr.app N0 N10q
      refine Go.to st10 ?_
      show Go _ _ _ _ T10 (mkF m 39 #[.val (.long pv), .second, .val (.int (128 : Int32))] [(.ref b)])
      have F11 : Keep h0 h8 [] := (Keep.refl h0 []).ext E8
      have F12 : Keep h0 T10.heap [] := F11.trans K10 (allS (Or.inr sz_b) all0)
      exact Go.retA X10 hx Bd.notSynchronized Bd.returns rfl rfl (hb hby d15_39) ⟨b, rfl, N10, F12, Q10_0⟩ (by decide) (by decide)
    · refine Go.by (fun _ gk => XS.ifNo X0.here hx rfl (hb hby d15_17) rfl (XT.ll_gt_f hb7) gk) ?_
      show Go _ _ _ _ s₁ (mkF m 20 #[.val (.long pv), .second, .val (.int (128 : Int32))] [])
      have F13 : Sta Z h0 "java/lang/Long$LongCache" "cache" "[Ljava/lang/Long;" (.ref caJ) := S_cacheJ.ext O0.2
      obtain ⟨T14, X14, e14, st14⟩ := getS2 X0 hx hZ hown (host := "") (Or.inl (hw _ (List.mem_of_getElem? (i := 90) rfl))) Via.refl e0 F13 (g := (mkF m 20 #[.val (.long pv), .second, .val (.int (128 : Int32))] [])) rfl (hb hby d15_20)
      refine Go.by st14 ?_
      show Go _ _ _ _ T14 (mkF m 23 #[.val (.long pv), .second, .val (.int (128 : Int32))] [(.ref caJ)])
      refine Go.by (fun _ gk => XT.lloadN X14.here hx rfl (hb hby d15_23) rfl gk) ?_
      show Go _ _ _ _ T14 (mkF m 24 #[.val (.long pv), .second, .val (.int (128 : Int32))] [(.long pv), (.ref caJ)])
      refine Go.by (fun _ gk => XT.l2i X14.here hx rfl (hb hby d15_24) rfl gk) ?_
      show Go _ _ _ _ T14 (mkF m 25 #[.val (.long pv), .second, .val (.int (128 : Int32))] [(.int (pv.toInt32)), (.ref caJ)])
      refine Go.by (fun _ gk => XT.sipushV X14.here hx rfl (128 : Int32) (hb hby d15_25) (by decide) gk) ?_
      show Go _ _ _ _ T14 (mkF m 28 #[.val (.long pv), .second, .val (.int (128 : Int32))] [(.int (128 : Int32)), (.int (pv.toInt32)), (.ref caJ)])
      refine Go.by (fun _ gk => XS.iadd X14.here hx rfl (hb hby d15_28) rfl gk) ?_
      show Go _ _ _ _ T14 (mkF m 29 #[.val (.long pv), .second, .val (.int (128 : Int32))] [(.int ((pv.toInt32) + (128 : Int32))), (.ref caJ)])
      have hj := own_boxinJ hb1 hb7
      obtain ⟨Ar, Sz, Nz⟩ := B_J.ext O0.2
      have hin := inb_of Sz hj
      obtain ⟨b, hat, Eb, Fb⟩ := B_J.2.2.2 _ hin
      refine Go.by (fun _ gk => X14.aaload hx (j := (pv.toInt32) + (128 : Int32)) (v := .ref b) (by rw [e14]; exact Ar.1) (State.isArrayOf_alike hZ.alike Ar.2.1) rfl Ar.2.2 hin hat (g := (mkF m 29 #[.val (.long pv), .second, .val (.int (128 : Int32))] [(.int ((pv.toInt32) + (128 : Int32))), (.ref caJ)])) rfl rfl (hb hby d15_29) _ gk) ?_
      show Go _ _ _ _ T14 (mkF m 30 #[.val (.long pv), .second, .val (.int (128 : Int32))] [(.ref b)])
      have F15 : Exa Z h0 b "java/lang/Long" := Eb.ext O0.2
      exact Go.retA X14 hx Bd.notSynchronized Bd.returns rfl rfl (hb hby d15_30) (by rw [e14]; exact ⟨b, rfl, N0, (Keep.refl h0 []), F15⟩) (by decide) (by decide)
theorem pn_67 : plainName "java/lang/StringUTF16" = true := by first | (simp [plainName, overriddenIn]; done) | decide +kernel
theorem ef_68 (m : MethodId) (x0 : Addr) (x1 : Int32) (x2 : Addr) (x3 : Int32) (x4 : Int32) : entryFrame m #[(.ref x0), (.int x1), (.ref x2), (.int x3), (.int x4)] 7 = mkF m 0 #[.val (.ref x0), .val (.int x1), .val (.ref x2), .val (.int x3), .val (.int x4), .unset, .unset] [] := by (first | (simp [entryFrame, mkF, argsToLocals, Value.category]; done) | rfl)
theorem d7_0 : decode jdk_52_method_21_code 0 = .ok (.iconst 0, 1) := by decide +kernel
theorem d7_1 : decode jdk_52_method_21_code 1 = .ok (.istore 5, 2) := by decide +kernel
theorem d7_3 : decode jdk_52_method_21_code 3 = .ok (.iload 5, 2) := by decide +kernel
theorem d7_5 : decode jdk_52_method_21_code 5 = .ok (.iload 4, 2) := by decide +kernel
theorem d7_7 : decode jdk_52_method_21_code 7 = .ok (.if_icmp .ge 37, 3) := by decide +kernel
theorem d7_10 : decode jdk_52_method_21_code 10 = .ok (.aload_n 0, 1) := by decide +kernel
theorem d7_11 : decode jdk_52_method_21_code 11 = .ok (.iload_n 1, 1) := by decide +kernel
theorem d7_12 : decode jdk_52_method_21_code 12 = .ok (.caload, 1) := by decide +kernel
theorem d7_13 : decode jdk_52_method_21_code 13 = .ok (.istore 6, 2) := by decide +kernel
theorem d7_15 : decode jdk_52_method_21_code 15 = .ok (.iload 6, 2) := by decide +kernel
theorem d7_17 : decode jdk_52_method_21_code 17 = .ok (.sipush 255, 3) := by decide +kernel
theorem d7_20 : decode jdk_52_method_21_code 20 = .ok (.if_icmp .le 6, 3) := by decide +kernel
theorem d7_26 : decode jdk_52_method_21_code 26 = .ok (.aload_n 2, 1) := by decide +kernel
theorem d7_27 : decode jdk_52_method_21_code 27 = .ok (.iload_n 3, 1) := by decide +kernel
theorem d7_28 : decode jdk_52_method_21_code 28 = .ok (.iload 6, 2) := by decide +kernel
theorem d7_30 : decode jdk_52_method_21_code 30 = .ok (.i2b, 1) := by decide +kernel
theorem d7_31 : decode jdk_52_method_21_code 31 = .ok (.bastore, 1) := by decide +kernel
theorem d7_32 : decode jdk_52_method_21_code 32 = .ok (.iinc 1 1, 3) := by decide +kernel
theorem d7_35 : decode jdk_52_method_21_code 35 = .ok (.iinc 3 1, 3) := by decide +kernel
theorem d7_38 : decode jdk_52_method_21_code 38 = .ok (.iinc 5 1, 3) := by decide +kernel
theorem d7_41 : decode jdk_52_method_21_code 41 = .ok (.goto (-38), 3) := by decide +kernel
theorem d7_44 : decode jdk_52_method_21_code 44 = .ok (.iload 4, 2) := by decide +kernel
theorem d7_46 : decode jdk_52_method_21_code 46 = .ok (.ireturn, 1) := by decide +kernel
def Q_rmC5_2 (Z : State) (va : Addr) (da : Addr) (kv : ClassId) (kd : ClassId) (c0 : Int32) (c1 : Int32) (h0 : Heap) (n0 : Nat) (v : Option Value) (h : Heap) (L : List Loc) : Prop := v = some (.int (2 : Int32)) ∧ Fr n0 L ∧ Keep h0 h [da] ∧ Arv Z h da kd .byte (2 : Int32) ([(.int (own_b c0)), (.int (own_b c1))]) (.int (0 : Int32))
set_option maxRecDepth 65536 in
set_option maxHeartbeats 40000000 in
theorem rmC5_2 (l : Launch) (Z : State) (a0 : Array Value) (hw : ∀ d ∈ tables_1, d.before a0 Z = true) (ws : List Jvm.Cond) (va : Addr) (da : Addr) (kv : ClassId) (kd : ClassId) (c0 : Int32) (c1 : Int32) (h0 : Heap) (n0 : Nat) (Z0 : n0 ≤ h0.size) (V_va : Arv Z h0 va kv .char (2 : Int32) ([(.int c0), (.int c1)]) (.int (0 : Int32))) (V_da : Arv Z h0 da kd .byte (2 : Int32) ([(.int (0 : Int32)), (.int (0 : Int32))]) (.int (0 : Int32))) (g_da : n0 ≤ da) (ne_va_da : va ≠ da) (hc0 : ¬ (255 : Int32) < c0) (hc1 : ¬ (255 : Int32) < c1) :
    MetFree l (⟨"java/lang/StringUTF16", "compress", "([CI[BII)I"⟩ : MethodName) (head1 (Jvm.Cond.code (⟨"java/lang/StringUTF16", "compress", "([CI[BII)I"⟩ : MethodName) jdk_52_method_21_code 7 (some .int) :: ws) ({ frames := 0, cells := 0, slots := 0, locals := 0 } : Room)) (fun as' U => as' = #[(.ref va), (.int (0 : Int32)), (.ref da), (.int (0 : Int32)), (.int (2 : Int32))] ∧ Z.Warmed39 U.vm ∧ U.heap = h0) (fun _ _ _ _ _ => True) (fun _ U o U' => ∃ v L, o = .returned v ∧ Q_rmC5_2 Z va da kv kd c0 c1 h0 n0 v U'.heap L ∧ FrameEnd U o U' L ({ frames := 0, cells := 0, slots := 0, locals := 0 } : Room).cells ({ frames := 0, cells := 0, slots := 0, locals := 0 } : Room).slots) := by
  refine MetFree.of_bodySF (plainFor_of_name pn_67) hisR ?_
  intro p e s m args below meth c s₁ Bd hml0 hP hK
  obtain ⟨rfl, hZ, hh⟩ := hP
  have hx := Bd.exec
  have hby := Bd.bytes
  have hml : c.maxLocals = 7 := hml0
  have hown : s.vm.findClass "java/lang/StringUTF16" = some m.cls := findClass_of_methodNamed Bd.named
  have hnm := (name_of_methodNamed Bd.named Bd.method).1
  have X0 : Stand p l e ({ frames := 0, cells := 0, slots := 0, locals := 0 } : Room) s m #[(.ref va), (.int (0 : Int32)), (.ref da), (.int (0 : Int32)), (.int (2 : Int32))] below meth c s₁ [] 0 0 := Stand.of_body Bd
  have e0 : s₁.heap = h0 := by rw [← hh, Bd.state]; rfl
  have N0 := Fr.nil n0
  refine Go.enter (F := EndN s (Q_rmC5_2 Z va da kv kd c0 c1 h0 n0) ({ frames := 0, cells := 0, slots := 0, locals := 0 } : Room).cells ({ frames := 0, cells := 0, slots := 0, locals := 0 } : Room).slots) (ef_68 m va (0 : Int32) da (0 : Int32) (2 : Int32)) ?_
  show Go _ _ _ _ s₁ (mkF m 0 #[.val (.ref va), .val (.int (0 : Int32)), .val (.ref da), .val (.int (0 : Int32)), .val (.int (2 : Int32)), .unset, .unset] [])
  refine Go.by (fun _ gk => XT.iconstV X0.here hx rfl (0 : Int32) (hb hby d7_0) (by decide) gk) ?_
  show Go _ _ _ _ s₁ (mkF m 1 #[.val (.ref va), .val (.int (0 : Int32)), .val (.ref da), .val (.int (0 : Int32)), .val (.int (2 : Int32)), .unset, .unset] [(.int (0 : Int32))])
  refine Go.by (fun _ gk => XS.istore X0.here hx rfl (hb hby d7_1) rfl (l' := #[.val (.ref va), .val (.int (0 : Int32)), .val (.ref da), .val (.int (0 : Int32)), .val (.int (2 : Int32)), .val (.int (0 : Int32)), .unset]) rfl gk) ?_
  show Go _ _ _ _ s₁ (mkF m 3 #[.val (.ref va), .val (.int (0 : Int32)), .val (.ref da), .val (.int (0 : Int32)), .val (.int (2 : Int32)), .val (.int (0 : Int32)), .unset] [])
  refine Go.by (fun _ gk => XS.iload X0.here hx rfl (hb hby d7_3) rfl gk) ?_
  show Go _ _ _ _ s₁ (mkF m 5 #[.val (.ref va), .val (.int (0 : Int32)), .val (.ref da), .val (.int (0 : Int32)), .val (.int (2 : Int32)), .val (.int (0 : Int32)), .unset] [(.int (0 : Int32))])
  refine Go.by (fun _ gk => XS.iload X0.here hx rfl (hb hby d7_5) rfl gk) ?_
  show Go _ _ _ _ s₁ (mkF m 7 #[.val (.ref va), .val (.int (0 : Int32)), .val (.ref da), .val (.int (0 : Int32)), .val (.int (2 : Int32)), .val (.int (0 : Int32)), .unset] [(.int (2 : Int32)), (.int (0 : Int32))])
  refine Go.by (fun _ gk => XS.icmpNo X0.here hx rfl (hb hby d7_7) rfl (XT.ii_ge_f (by decide)) gk) ?_
  show Go _ _ _ _ s₁ (mkF m 10 #[.val (.ref va), .val (.int (0 : Int32)), .val (.ref da), .val (.int (0 : Int32)), .val (.int (2 : Int32)), .val (.int (0 : Int32)), .unset] [])
  refine Go.by (fun _ gk => XS.aloadN X0.here hx rfl (hb hby d7_10) rfl rfl gk) ?_
  show Go _ _ _ _ s₁ (mkF m 11 #[.val (.ref va), .val (.int (0 : Int32)), .val (.ref da), .val (.int (0 : Int32)), .val (.int (2 : Int32)), .val (.int (0 : Int32)), .unset] [(.ref va)])
  refine Go.by (fun _ gk => XS.iloadN X0.here hx rfl (hb hby d7_11) rfl gk) ?_
  show Go _ _ _ _ s₁ (mkF m 12 #[.val (.ref va), .val (.int (0 : Int32)), .val (.ref da), .val (.int (0 : Int32)), .val (.int (2 : Int32)), .val (.int (0 : Int32)), .unset] [(.int (0 : Int32)), (.ref va)])
  obtain ⟨cl1, Ar1, -, S1, M1, H1, -⟩ := id V_va
  have hin1 : ¬ ((0 : Int32) < 0 ∨ cl1.slots.size ≤ (0 : Int32).toNatClampNeg) := inb_of S1 ⟨by decide, by decide⟩
  refine Go.by (fun _ gk => X0.caload hx (j := (0 : Int32)) (v := (.int c0)) (by rw [e0]; exact Ar1.1) (State.isArrayOf_alike hZ.alike Ar1.2.1) Ar1.2.2 hin1 (Has.at H1 hin1 rfl) (g := (mkF m 12 #[.val (.ref va), .val (.int (0 : Int32)), .val (.ref da), .val (.int (0 : Int32)), .val (.int (2 : Int32)), .val (.int (0 : Int32)), .unset] [(.int (0 : Int32)), (.ref va)])) rfl rfl (hb hby d7_12) _ gk) ?_
  show Go _ _ _ _ s₁ (mkF m 13 #[.val (.ref va), .val (.int (0 : Int32)), .val (.ref da), .val (.int (0 : Int32)), .val (.int (2 : Int32)), .val (.int (0 : Int32)), .unset] [(.int c0)])
  refine Go.by (fun _ gk => XS.istore X0.here hx rfl (hb hby d7_13) rfl (l' := #[.val (.ref va), .val (.int (0 : Int32)), .val (.ref da), .val (.int (0 : Int32)), .val (.int (2 : Int32)), .val (.int (0 : Int32)), .val (.int c0)]) rfl gk) ?_
  show Go _ _ _ _ s₁ (mkF m 15 #[.val (.ref va), .val (.int (0 : Int32)), .val (.ref da), .val (.int (0 : Int32)), .val (.int (2 : Int32)), .val (.int (0 : Int32)), .val (.int c0)] [])
  refine Go.by (fun _ gk => XS.iload X0.here hx rfl (hb hby d7_15) rfl gk) ?_
  show Go _ _ _ _ s₁ (mkF m 17 #[.val (.ref va), .val (.int (0 : Int32)), .val (.ref da), .val (.int (0 : Int32)), .val (.int (2 : Int32)), .val (.int (0 : Int32)), .val (.int c0)] [(.int c0)])
  refine Go.by (fun _ gk => XT.sipushV X0.here hx rfl (255 : Int32) (hb hby d7_17) (by decide) gk) ?_
  show Go _ _ _ _ s₁ (mkF m 20 #[.val (.ref va), .val (.int (0 : Int32)), .val (.ref da), .val (.int (0 : Int32)), .val (.int (2 : Int32)), .val (.int (0 : Int32)), .val (.int c0)] [(.int (255 : Int32)), (.int c0)])
  refine Go.by (fun _ gk => XS.icmpYes X0.here hx rfl (pc0 := 20) (pc' := 26) rfl (hb hby d7_20) rfl (XT.ii_le_t hc0) (by decide) (by decide) gk) ?_
  show Go _ _ _ _ s₁ (mkF m 26 #[.val (.ref va), .val (.int (0 : Int32)), .val (.ref da), .val (.int (0 : Int32)), .val (.int (2 : Int32)), .val (.int (0 : Int32)), .val (.int c0)] [])
  refine Go.by (fun _ gk => XS.aloadN X0.here hx rfl (hb hby d7_26) rfl rfl gk) ?_
  show Go _ _ _ _ s₁ (mkF m 27 #[.val (.ref va), .val (.int (0 : Int32)), .val (.ref da), .val (.int (0 : Int32)), .val (.int (2 : Int32)), .val (.int (0 : Int32)), .val (.int c0)] [(.ref da)])
  refine Go.by (fun _ gk => XS.iloadN X0.here hx rfl (hb hby d7_27) rfl gk) ?_
  show Go _ _ _ _ s₁ (mkF m 28 #[.val (.ref va), .val (.int (0 : Int32)), .val (.ref da), .val (.int (0 : Int32)), .val (.int (2 : Int32)), .val (.int (0 : Int32)), .val (.int c0)] [(.int (0 : Int32)), (.ref da)])
  refine Go.by (fun _ gk => XS.iload X0.here hx rfl (hb hby d7_28) rfl gk) ?_
  show Go _ _ _ _ s₁ (mkF m 30 #[.val (.ref va), .val (.int (0 : Int32)), .val (.ref da), .val (.int (0 : Int32)), .val (.int (2 : Int32)), .val (.int (0 : Int32)), .val (.int c0)] [(.int c0), (.int (0 : Int32)), (.ref da)])
  refine Go.by (fun _ gk => XT.i2b X0.here hx rfl (hb hby d7_30) rfl gk) ?_
  show Go _ _ _ _ s₁ (mkF m 31 #[.val (.ref va), .val (.int (0 : Int32)), .val (.ref da), .val (.int (0 : Int32)), .val (.int (2 : Int32)), .val (.int (0 : Int32)), .val (.int c0)] [(.int (c0.toInt8.toInt32)), (.int (0 : Int32)), (.ref da)])
  obtain ⟨cl2, Ar2, q2, S2, M2, H2, G2⟩ := id V_da
  have hin2 : ¬ ((0 : Int32) < 0 ∨ cl2.slots.size ≤ (0 : Int32).toNatClampNeg) := inb_of S2 ⟨by decide, by decide⟩
  obtain ⟨T2, h2, X2, e2, W2, st2⟩ := stB X0 hx hZ e0 Ar2 (j := (0 : Int32)) hin2 (g := (mkF m 31 #[.val (.ref va), .val (.int (0 : Int32)), .val (.ref da), .val (.int (0 : Int32)), .val (.int (2 : Int32)), .val (.int (0 : Int32)), .val (.int c0)] [(.int (c0.toInt8.toInt32)), (.int (0 : Int32)), (.ref da)])) rfl rfl (hb hby d7_31)
  have N2 := Fr.snoc X2 N0 g_da
  have V2 : Arv Z h2 da kd .byte (2 : Int32) [(.int (nar .byte (c0.toInt8.toInt32))), (.int (0 : Int32))] (.int (0 : Int32)) := Arv.set Ar2 q2 S2 M2 H2 G2 (fits_nar_byte _) W2 0 rfl (Nat.le_of_ble_eq_true rfl)
  refine Go.by st2 ?_
  show Go _ _ _ _ T2 (mkF m 32 #[.val (.ref va), .val (.int (0 : Int32)), .val (.ref da), .val (.int (0 : Int32)), .val (.int (2 : Int32)), .val (.int (0 : Int32)), .val (.int c0)] [])
  rw [own_bn] at V2
  refine Go.by (fun _ gk => XT.iincV X2.here hx rfl (1 : Int32) (hb hby d7_32) (by decide) rfl (l' := #[.val (.ref va), .val (.int (1 : Int32)), .val (.ref da), .val (.int (0 : Int32)), .val (.int (2 : Int32)), .val (.int (0 : Int32)), .val (.int c0)]) rfl gk) ?_
  show Go _ _ _ _ T2 (mkF m 35 #[.val (.ref va), .val (.int (1 : Int32)), .val (.ref da), .val (.int (0 : Int32)), .val (.int (2 : Int32)), .val (.int (0 : Int32)), .val (.int c0)] [])
  refine Go.by (fun _ gk => XT.iincV X2.here hx rfl (1 : Int32) (hb hby d7_35) (by decide) rfl (l' := #[.val (.ref va), .val (.int (1 : Int32)), .val (.ref da), .val (.int (1 : Int32)), .val (.int (2 : Int32)), .val (.int (0 : Int32)), .val (.int c0)]) rfl gk) ?_
  show Go _ _ _ _ T2 (mkF m 38 #[.val (.ref va), .val (.int (1 : Int32)), .val (.ref da), .val (.int (1 : Int32)), .val (.int (2 : Int32)), .val (.int (0 : Int32)), .val (.int c0)] [])
  refine Go.by (fun _ gk => XT.iincV X2.here hx rfl (1 : Int32) (hb hby d7_38) (by decide) rfl (l' := #[.val (.ref va), .val (.int (1 : Int32)), .val (.ref da), .val (.int (1 : Int32)), .val (.int (2 : Int32)), .val (.int (1 : Int32)), .val (.int c0)]) rfl gk) ?_
  show Go _ _ _ _ T2 (mkF m 41 #[.val (.ref va), .val (.int (1 : Int32)), .val (.ref da), .val (.int (1 : Int32)), .val (.int (2 : Int32)), .val (.int (1 : Int32)), .val (.int c0)] [])
  refine Go.by (fun _ gk => XS.goto X2.here hx rfl (pc0 := 41) (pc' := 3) rfl (hb hby d7_41) (by decide) (by decide) gk) ?_
  show Go _ _ _ _ T2 (mkF m 3 #[.val (.ref va), .val (.int (1 : Int32)), .val (.ref da), .val (.int (1 : Int32)), .val (.int (2 : Int32)), .val (.int (1 : Int32)), .val (.int c0)] [])
  refine Go.by (fun _ gk => XS.iload X2.here hx rfl (hb hby d7_3) rfl gk) ?_
  show Go _ _ _ _ T2 (mkF m 5 #[.val (.ref va), .val (.int (1 : Int32)), .val (.ref da), .val (.int (1 : Int32)), .val (.int (2 : Int32)), .val (.int (1 : Int32)), .val (.int c0)] [(.int (1 : Int32))])
  refine Go.by (fun _ gk => XS.iload X2.here hx rfl (hb hby d7_5) rfl gk) ?_
  show Go _ _ _ _ T2 (mkF m 7 #[.val (.ref va), .val (.int (1 : Int32)), .val (.ref da), .val (.int (1 : Int32)), .val (.int (2 : Int32)), .val (.int (1 : Int32)), .val (.int c0)] [(.int (2 : Int32)), (.int (1 : Int32))])
  refine Go.by (fun _ gk => XS.icmpNo X2.here hx rfl (hb hby d7_7) rfl (XT.ii_ge_f (by decide)) gk) ?_
  show Go _ _ _ _ T2 (mkF m 10 #[.val (.ref va), .val (.int (1 : Int32)), .val (.ref da), .val (.int (1 : Int32)), .val (.int (2 : Int32)), .val (.int (1 : Int32)), .val (.int c0)] [])
  refine Go.by (fun _ gk => XS.aloadN X2.here hx rfl (hb hby d7_10) rfl rfl gk) ?_
  show Go _ _ _ _ T2 (mkF m 11 #[.val (.ref va), .val (.int (1 : Int32)), .val (.ref da), .val (.int (1 : Int32)), .val (.int (2 : Int32)), .val (.int (1 : Int32)), .val (.int c0)] [(.ref va)])
  refine Go.by (fun _ gk => XS.iloadN X2.here hx rfl (hb hby d7_11) rfl gk) ?_
  show Go _ _ _ _ T2 (mkF m 12 #[.val (.ref va), .val (.int (1 : Int32)), .val (.ref da), .val (.int (1 : Int32)), .val (.int (2 : Int32)), .val (.int (1 : Int32)), .val (.int c0)] [(.int (1 : Int32)), (.ref va)])
  have F3 : Arv Z h2 va kv .char (2 : Int32) [(.int c0), (.int c1)] (.int (0 : Int32)) := V_va.other W2 ne_va_da
  obtain ⟨cl4, Ar4, -, S4, M4, H4, -⟩ := id F3
  have hin4 : ¬ ((1 : Int32) < 0 ∨ cl4.slots.size ≤ (1 : Int32).toNatClampNeg) := inb_of S4 ⟨by decide, by decide⟩
  refine Go.by (fun _ gk => X2.caload hx (j := (1 : Int32)) (v := (.int c1)) (by rw [e2]; exact Ar4.1) (State.isArrayOf_alike hZ.alike Ar4.2.1) Ar4.2.2 hin4 (Has.at H4 hin4 rfl) (g := (mkF m 12 #[.val (.ref va), .val (.int (1 : Int32)), .val (.ref da), .val (.int (1 : Int32)), .val (.int (2 : Int32)), .val (.int (1 : Int32)), .val (.int c0)] [(.int (1 : Int32)), (.ref va)])) rfl rfl (hb hby d7_12) _ gk) ?_
  show Go _ _ _ _ T2 (mkF m 13 #[.val (.ref va), .val (.int (1 : Int32)), .val (.ref da), .val (.int (1 : Int32)), .val (.int (2 : Int32)), .val (.int (1 : Int32)), .val (.int c0)] [(.int c1)])
  refine Go.by (fun _ gk => XS.istore X2.here hx rfl (hb hby d7_13) rfl (l' := #[.val (.ref va), .val (.int (1 : Int32)), .val (.ref da), .val (.int (1 : Int32)), .val (.int (2 : Int32)), .val (.int (1 : Int32)), .val (.int c1)]) rfl gk) ?_
  show Go _ _ _ _ T2 (mkF m 15 #[.val (.ref va), .val (.int (1 : Int32)), .val (.ref da), .val (.int (1 : Int32)), .val (.int (2 : Int32)), .val (.int (1 : Int32)), .val (.int c1)] [])
  refine Go.by (fun _ gk => XS.iload X2.here hx rfl (hb hby d7_15) rfl gk) ?_
  show Go _ _ _ _ T2 (mkF m 17 #[.val (.ref va), .val (.int (1 : Int32)), .val (.ref da), .val (.int (1 : Int32)), .val (.int (2 : Int32)), .val (.int (1 : Int32)), .val (.int c1)] [(.int c1)])
  refine Go.by (fun _ gk => XT.sipushV X2.here hx rfl (255 : Int32) (hb hby d7_17) (by decide) gk) ?_
  show Go _ _ _ _ T2 (mkF m 20 #[.val (.ref va), .val (.int (1 : Int32)), .val (.ref da), .val (.int (1 : Int32)), .val (.int (2 : Int32)), .val (.int (1 : Int32)), .val (.int c1)] [(.int (255 : Int32)), (.int c1)])
  refine Go.by (fun _ gk => XS.icmpYes X2.here hx rfl (pc0 := 20) (pc' := 26) rfl (hb hby d7_20) rfl (XT.ii_le_t hc1) (by decide) (by decide) gk) ?_
  show Go _ _ _ _ T2 (mkF m 26 #[.val (.ref va), .val (.int (1 : Int32)), .val (.ref da), .val (.int (1 : Int32)), .val (.int (2 : Int32)), .val (.int (1 : Int32)), .val (.int c1)] [])
  refine Go.by (fun _ gk => XS.aloadN X2.here hx rfl (hb hby d7_26) rfl rfl gk) ?_
  show Go _ _ _ _ T2 (mkF m 27 #[.val (.ref va), .val (.int (1 : Int32)), .val (.ref da), .val (.int (1 : Int32)), .val (.int (2 : Int32)), .val (.int (1 : Int32)), .val (.int c1)] [(.ref da)])
  refine Go.by (fun _ gk => XS.iloadN X2.here hx rfl (hb hby d7_27) rfl gk) ?_
  show Go _ _ _ _ T2 (mkF m 28 #[.val (.ref va), .val (.int (1 : Int32)), .val (.ref da), .val (.int (1 : Int32)), .val (.int (2 : Int32)), .val (.int (1 : Int32)), .val (.int c1)] [(.int (1 : Int32)), (.ref da)])
  refine Go.by (fun _ gk => XS.iload X2.here hx rfl (hb hby d7_28) rfl gk) ?_
  show Go _ _ _ _ T2 (mkF m 30 #[.val (.ref va), .val (.int (1 : Int32)), .val (.ref da), .val (.int (1 : Int32)), .val (.int (2 : Int32)), .val (.int (1 : Int32)), .val (.int c1)] [(.int c1), (.int (1 : Int32)), (.ref da)])
  refine Go.by (fun _ gk => XT.i2b X2.here hx rfl (hb hby d7_30) rfl gk) ?_
  show Go _ _ _ _ T2 (mkF m 31 #[.val (.ref va), .val (.int (1 : Int32)), .val (.ref da), .val (.int (1 : Int32)), .val (.int (2 : Int32)), .val (.int (1 : Int32)), .val (.int c1)] [(.int (c1.toInt8.toInt32)), (.int (1 : Int32)), (.ref da)])
  obtain ⟨cl5, Ar5, q5, S5, M5, H5, G5⟩ := id V2
  have hin5 : ¬ ((1 : Int32) < 0 ∨ cl5.slots.size ≤ (1 : Int32).toNatClampNeg) := inb_of S5 ⟨by decide, by decide⟩
  obtain ⟨T5, h5, X5, e5, W5, st5⟩ := stB X2 hx hZ e2 Ar5 (j := (1 : Int32)) hin5 (g := (mkF m 31 #[.val (.ref va), .val (.int (1 : Int32)), .val (.ref da), .val (.int (1 : Int32)), .val (.int (2 : Int32)), .val (.int (1 : Int32)), .val (.int c1)] [(.int (c1.toInt8.toInt32)), (.int (1 : Int32)), (.ref da)])) rfl rfl (hb hby d7_31)
  have N5 := Fr.snoc X5 N2 g_da
  have V5 : Arv Z h5 da kd .byte (2 : Int32) [(.int (own_b c0)), (.int (nar .byte (c1.toInt8.toInt32)))] (.int (0 : Int32)) := Arv.set Ar5 q5 S5 M5 H5 G5 (fits_nar_byte _) W5 1 rfl (Nat.le_of_ble_eq_true rfl)
  refine Go.by st5 ?_
  show Go _ _ _ _ T5 (mkF m 32 #[.val (.ref va), .val (.int (1 : Int32)), .val (.ref da), .val (.int (1 : Int32)), .val (.int (2 : Int32)), .val (.int (1 : Int32)), .val (.int c1)] [])
  rw [own_bn] at V5
  refine Go.by (fun _ gk => XT.iincV X5.here hx rfl (1 : Int32) (hb hby d7_32) (by decide) rfl (l' := #[.val (.ref va), .val (.int (2 : Int32)), .val (.ref da), .val (.int (1 : Int32)), .val (.int (2 : Int32)), .val (.int (1 : Int32)), .val (.int c1)]) rfl gk) ?_
  show Go _ _ _ _ T5 (mkF m 35 #[.val (.ref va), .val (.int (2 : Int32)), .val (.ref da), .val (.int (1 : Int32)), .val (.int (2 : Int32)), .val (.int (1 : Int32)), .val (.int c1)] [])
  refine Go.by (fun _ gk => XT.iincV X5.here hx rfl (1 : Int32) (hb hby d7_35) (by decide) rfl (l' := #[.val (.ref va), .val (.int (2 : Int32)), .val (.ref da), .val (.int (2 : Int32)), .val (.int (2 : Int32)), .val (.int (1 : Int32)), .val (.int c1)]) rfl gk) ?_
  show Go _ _ _ _ T5 (mkF m 38 #[.val (.ref va), .val (.int (2 : Int32)), .val (.ref da), .val (.int (2 : Int32)), .val (.int (2 : Int32)), .val (.int (1 : Int32)), .val (.int c1)] [])
  refine Go.by (fun _ gk => XT.iincV X5.here hx rfl (1 : Int32) (hb hby d7_38) (by decide) rfl (l' := #[.val (.ref va), .val (.int (2 : Int32)), .val (.ref da), .val (.int (2 : Int32)), .val (.int (2 : Int32)), .val (.int (2 : Int32)), .val (.int c1)]) rfl gk) ?_
  show Go _ _ _ _ T5 (mkF m 41 #[.val (.ref va), .val (.int (2 : Int32)), .val (.ref da), .val (.int (2 : Int32)), .val (.int (2 : Int32)), .val (.int (2 : Int32)), .val (.int c1)] [])
  refine Go.by (fun _ gk => XS.goto X5.here hx rfl (pc0 := 41) (pc' := 3) rfl (hb hby d7_41) (by decide) (by decide) gk) ?_
  show Go _ _ _ _ T5 (mkF m 3 #[.val (.ref va), .val (.int (2 : Int32)), .val (.ref da), .val (.int (2 : Int32)), .val (.int (2 : Int32)), .val (.int (2 : Int32)), .val (.int c1)] [])
  refine Go.by (fun _ gk => XS.iload X5.here hx rfl (hb hby d7_3) rfl gk) ?_
  show Go _ _ _ _ T5 (mkF m 5 #[.val (.ref va), .val (.int (2 : Int32)), .val (.ref da), .val (.int (2 : Int32)), .val (.int (2 : Int32)), .val (.int (2 : Int32)), .val (.int c1)] [(.int (2 : Int32))])
  refine Go.by (fun _ gk => XS.iload X5.here hx rfl (hb hby d7_5) rfl gk) ?_
  show Go _ _ _ _ T5 (mkF m 7 #[.val (.ref va), .val (.int (2 : Int32)), .val (.ref da), .val (.int (2 : Int32)), .val (.int (2 : Int32)), .val (.int (2 : Int32)), .val (.int c1)] [(.int (2 : Int32)), (.int (2 : Int32))])
  refine Go.by (fun _ gk => XS.icmpYes X5.here hx rfl (pc0 := 7) (pc' := 44) rfl (hb hby d7_7) rfl (XT.ii_ge_t (by decide)) (by decide) (by decide) gk) ?_
  show Go _ _ _ _ T5 (mkF m 44 #[.val (.ref va), .val (.int (2 : Int32)), .val (.ref da), .val (.int (2 : Int32)), .val (.int (2 : Int32)), .val (.int (2 : Int32)), .val (.int c1)] [])
  refine Go.by (fun _ gk => XS.iload X5.here hx rfl (hb hby d7_44) rfl gk) ?_
  show Go _ _ _ _ T5 (mkF m 46 #[.val (.ref va), .val (.int (2 : Int32)), .val (.ref da), .val (.int (2 : Int32)), .val (.int (2 : Int32)), .val (.int (2 : Int32)), .val (.int c1)] [(.int (2 : Int32))])
  have F6 : Keep h0 h2 [da] := (Keep.refl h0 [da]).wr W2 (Or.inl (List.mem_of_getElem? (i := 0) rfl))
  have F7 : Keep h0 h5 [da] := F6.wr W5 (Or.inl (List.mem_of_getElem? (i := 0) rfl))
  exact Go.retI X5 hx Bd.notSynchronized Bd.returns rfl (by simp) (hb hby d7_46) (by rw [e5]; exact ⟨rfl, N5, F7, V5⟩) (by decide) (by decide)
theorem ef_92 (m : MethodId) (x0 : Addr) (x1 : Int32) (x2 : Int32) : entryFrame m #[(.ref x0), (.int x1), (.int x2)] 6 = mkF m 0 #[.val (.ref x0), .val (.int x1), .val (.int x2), .unset, .unset, .unset] [] := by (first | (simp [entryFrame, mkF, argsToLocals, Value.category]; done) | rfl)
theorem d6_0 : decode jdk_52_method_16_code 0 = .ok (.iload_n 2, 1) := by decide +kernel
theorem d6_1 : decode jdk_52_method_16_code 1 = .ok (.newarray .byte, 2) := by decide +kernel
theorem d6_3 : decode jdk_52_method_16_code 3 = .ok (.astore_n 3, 1) := by decide +kernel
theorem d6_4 : decode jdk_52_method_16_code 4 = .ok (.aload_n 0, 1) := by decide +kernel
theorem d6_5 : decode jdk_52_method_16_code 5 = .ok (.iload_n 1, 1) := by decide +kernel
theorem d6_6 : decode jdk_52_method_16_code 6 = .ok (.aload_n 3, 1) := by decide +kernel
theorem d6_7 : decode jdk_52_method_16_code 7 = .ok (.iconst 0, 1) := by decide +kernel
theorem d6_8 : decode jdk_52_method_16_code 8 = .ok (.iload_n 2, 1) := by decide +kernel
theorem pd_101 : parseMethodDescriptor "([CI[BII)I" = some ⟨[(.array .char), .int, (.array .byte), .int, .int], some .int⟩ := by decide +kernel
theorem d6_9 : decode jdk_52_method_16_code 9 = .ok (.invokestatic 115, 3) := by decide +kernel
theorem d6_12 : decode jdk_52_method_16_code 12 = .ok (.istore 4, 2) := by decide +kernel
theorem d6_14 : decode jdk_52_method_16_code 14 = .ok (.iload 4, 2) := by decide +kernel
theorem d6_16 : decode jdk_52_method_16_code 16 = .ok (.iload_n 2, 1) := by decide +kernel
theorem d6_17 : decode jdk_52_method_16_code 17 = .ok (.if_icmp .eq 40, 3) := by decide +kernel
theorem d6_57 : decode jdk_52_method_16_code 57 = .ok (.aload_n 3, 1) := by decide +kernel
theorem d6_58 : decode jdk_52_method_16_code 58 = .ok (.areturn, 1) := by decide +kernel
def Q_rmC3_2 (Z : State) (va : Addr) (kv : ClassId) (c0 : Int32) (c1 : Int32) (h0 : Heap) (n0 : Nat) (v : Option Value) (h : Heap) (L : List Loc) : Prop := ∃ da : Addr, ∃ kd : ClassId, v = some (.ref da) ∧ Fr n0 L ∧ Keep h0 h [] ∧ Arv Z h da kd .byte (2 : Int32) ([(.int (own_b c0)), (.int (own_b c1))]) (.int (0 : Int32)) ∧ h0.size ≤ da
set_option maxRecDepth 65536 in
set_option maxHeartbeats 40000000 in
theorem rmC3_2 (l : Launch) (Z : State) (a0 : Array Value) (hw : ∀ d ∈ tables_1, d.before a0 Z = true) (ws : List Jvm.Cond) (va : Addr) (kv : ClassId) (c0 : Int32) (c1 : Int32) (h0 : Heap) (n0 : Nat) (Z0 : n0 ≤ h0.size) (V_va : Arv Z h0 va kv .char (2 : Int32) ([(.int c0), (.int c1)]) (.int (0 : Int32))) (hc0 : ¬ (255 : Int32) < c0) (hc1 : ¬ (255 : Int32) < c1) :
    MetFree l (⟨"java/lang/StringUTF16", "compress", "([CII)[B"⟩ : MethodName) (head1 (Jvm.Cond.code (⟨"java/lang/StringUTF16", "compress", "([CII)[B"⟩ : MethodName) jdk_52_method_16_code 6 (some (.array .byte)) :: ws) ({ frames := 1, cells := 1, slots := 2, locals := 18 } : Room)) (fun as' U => as' = #[(.ref va), (.int (0 : Int32)), (.int (2 : Int32))] ∧ Z.Warmed39 U.vm ∧ U.heap = h0) (fun _ _ _ _ _ => True) (fun _ U o U' => ∃ v L, o = .returned v ∧ Q_rmC3_2 Z va kv c0 c1 h0 n0 v U'.heap L ∧ FrameEnd U o U' L ({ frames := 1, cells := 1, slots := 2, locals := 18 } : Room).cells ({ frames := 1, cells := 1, slots := 2, locals := 18 } : Room).slots) := by
  refine MetFree.of_bodySF (plainFor_of_name pn_67) hisR ?_
  intro p e s m args below meth c s₁ Bd hml0 hP hK
  obtain ⟨rfl, hZ, hh⟩ := hP
  have hx := Bd.exec
  have hby := Bd.bytes
  have hml : c.maxLocals = 6 := hml0
  have hown : s.vm.findClass "java/lang/StringUTF16" = some m.cls := findClass_of_methodNamed Bd.named
  have hnm := (name_of_methodNamed Bd.named Bd.method).1
  have X0 : Stand p l e ({ frames := 1, cells := 1, slots := 2, locals := 18 } : Room) s m #[(.ref va), (.int (0 : Int32)), (.int (2 : Int32))] below meth c s₁ [] 0 0 := Stand.of_body Bd
  have e0 : s₁.heap = h0 := by rw [← hh, Bd.state]; rfl
  have N0 := Fr.nil n0
  refine Go.enter (F := EndN s (Q_rmC3_2 Z va kv c0 c1 h0 n0) ({ frames := 1, cells := 1, slots := 2, locals := 18 } : Room).cells ({ frames := 1, cells := 1, slots := 2, locals := 18 } : Room).slots) (ef_92 m va (0 : Int32) (2 : Int32)) ?_
  show Go _ _ _ _ s₁ (mkF m 0 #[.val (.ref va), .val (.int (0 : Int32)), .val (.int (2 : Int32)), .unset, .unset, .unset] [])
  refine Go.by (fun _ gk => XS.iloadN X0.here hx rfl (hb hby d6_0) rfl gk) ?_
  show Go _ _ _ _ s₁ (mkF m 1 #[.val (.ref va), .val (.int (0 : Int32)), .val (.int (2 : Int32)), .unset, .unset, .unset] [(.int (2 : Int32))])
  obtain ⟨da, g1⟩ : ∃ z, z = h0.size := ⟨_, rfl⟩
  have ge_da : n0 ≤ da := Nat.le_trans Z0 (Nat.le_of_eq g1.symm)
  have sz_da : h0.size ≤ da := Nat.le_trans (Keep.refl h0 []).1 (Nat.le_of_eq g1.symm)
  have ne_va_da : va ≠ da := Nat.ne_of_lt (Nat.lt_of_lt_of_le V_va.lt (Nat.le_of_eq g1.symm))
  obtain ⟨T1, h1, k1, X1, e1, E1, A1, Ea1, st1⟩ := newPE X0 hx hZ (hw _ (List.mem_of_getElem? (i := 30) rfl)) e0 (g := (mkF m 1 #[.val (.ref va), .val (.int (0 : Int32)), .val (.int (2 : Int32)), .unset, .unset, .unset] [(.int (2 : Int32))])) rfl (hb hby d6_1) rfl (by decide) (cap := 2) (by decide) (by decide) (by decide) (by decide) (ad := "[B") rfl
  rw [← g1] at A1 Ea1 st1
  have V_da : Arv Z h1 da k1 .byte (2 : Int32) [(.int (0 : Int32)), (.int (0 : Int32))] (.int (0 : Int32)) := (Arv.new A1 (by decide)).pad (pad_rep [] (.int (0 : Int32)) 2)
  refine Go.by st1 ?_
  show Go _ _ _ _ T1 (mkF m 3 #[.val (.ref va), .val (.int (0 : Int32)), .val (.int (2 : Int32)), .unset, .unset, .unset] [(.ref da)])
  refine Go.by (fun _ gk => XS.astoreN X1.here hx rfl (hb hby d6_3) rfl rfl (l' := #[.val (.ref va), .val (.int (0 : Int32)), .val (.int (2 : Int32)), .val (.ref da), .unset, .unset]) rfl gk) ?_
  show Go _ _ _ _ T1 (mkF m 4 #[.val (.ref va), .val (.int (0 : Int32)), .val (.int (2 : Int32)), .val (.ref da), .unset, .unset] [])
  refine Go.by (fun _ gk => XS.aloadN X1.here hx rfl (hb hby d6_4) rfl rfl gk) ?_
  show Go _ _ _ _ T1 (mkF m 5 #[.val (.ref va), .val (.int (0 : Int32)), .val (.int (2 : Int32)), .val (.ref da), .unset, .unset] [(.ref va)])
  refine Go.by (fun _ gk => XS.iloadN X1.here hx rfl (hb hby d6_5) rfl gk) ?_
  show Go _ _ _ _ T1 (mkF m 6 #[.val (.ref va), .val (.int (0 : Int32)), .val (.int (2 : Int32)), .val (.ref da), .unset, .unset] [(.int (0 : Int32)), (.ref va)])
  refine Go.by (fun _ gk => XS.aloadN X1.here hx rfl (hb hby d6_6) rfl rfl gk) ?_
  show Go _ _ _ _ T1 (mkF m 7 #[.val (.ref va), .val (.int (0 : Int32)), .val (.int (2 : Int32)), .val (.ref da), .unset, .unset] [(.ref da), (.int (0 : Int32)), (.ref va)])
  refine Go.by (fun _ gk => XT.iconstV X1.here hx rfl (0 : Int32) (hb hby d6_7) (by decide) gk) ?_
  show Go _ _ _ _ T1 (mkF m 8 #[.val (.ref va), .val (.int (0 : Int32)), .val (.int (2 : Int32)), .val (.ref da), .unset, .unset] [(.int (0 : Int32)), (.ref da), (.int (0 : Int32)), (.ref va)])
  refine Go.by (fun _ gk => XS.iloadN X1.here hx rfl (hb hby d6_8) rfl gk) ?_
  show Go _ _ _ _ T1 (mkF m 9 #[.val (.ref va), .val (.int (0 : Int32)), .val (.int (2 : Int32)), .val (.ref da), .unset, .unset] [(.int (2 : Int32)), (.int (0 : Int32)), (.ref da), (.int (0 : Int32)), (.ref va)])
  have F2 : Arv Z h1 va kv .char (2 : Int32) [(.int c0), (.int c1)] (.int (0 : Int32)) := V_va.ext E1
  have F3 : n0 ≤ h1.size := Nat.le_trans Z0 E1.1
  obtain ⟨_, _, ⟨T4, L4, k4, n4⟩, -, X4, ⟨Lc4, hQ4, l4, y4, z4⟩, st4⟩ := Jvm.LawKit.callS X1 hx (y := (⟨"java/lang/StringUTF16", "compress", "([CI[BII)I"⟩ : MethodName)) hown (mvT hZ (hw _ (List.mem_of_getElem? (i := 31) rfl))) (mvT hZ (hw _ (List.mem_of_getElem? (i := 32) rfl))) (mvT hZ (hw _ (List.mem_of_getElem? (i := 28) rfl))) (mvT hZ (hw _ (List.mem_of_getElem? (i := 33) rfl))) (by decide) (backOf (W := 0) (rmC5_2 l Z a0 hw [] va da kv k1 c0 c1 h1 n0 F3 F2 V_da ge_da ne_va_da hc0 hc1) hZ (hw _ (List.mem_of_getElem? (i := 33) rfl)) (hw _ (List.mem_of_getElem? (i := 28) rfl)) (by decide) (by decide)) (g := (mkF m 9 #[.val (.ref va), .val (.int (0 : Int32)), .val (.int (2 : Int32)), .val (.ref da), .unset, .unset] [(.int (2 : Int32)), (.int (0 : Int32)), (.ref da), (.int (0 : Int32)), (.ref va)])) rfl (by rw [hml]; rfl) (argsL := [(.ref va), (.int (0 : Int32)), (.ref da), (.int (0 : Int32)), (.int (2 : Int32))]) (rest := []) (lenOf pd_101 rfl) rfl (by show 2 * 0 + _ ≤ _; exact Nat.le_of_eq rfl) (hb hby d6_9) (fun _ _ => ⟨rfl, e1, (by decide : 1 + 0 ≤ _), (by decide : 2 + 0 ≤ _)⟩)
  dsimp only [Pt.U, Pt.locs, Pt.cells, Pt.slots] at X4 l4 y4 z4 st4 hQ4
  subst l4 y4 z4
  obtain ⟨rfl, N4q, K4, Q4_0⟩ := hQ4
  have N4 := Fr.app N0 N4q
  refine Go.by st4 ?_
  show Go _ _ _ _ T4 (mkF m 12 #[.val (.ref va), .val (.int (0 : Int32)), .val (.int (2 : Int32)), .val (.ref da), .unset, .unset] [(.int (2 : Int32))])
  refine Go.by (fun _ gk => XS.istore X4.here hx rfl (hb hby d6_12) rfl (l' := #[.val (.ref va), .val (.int (0 : Int32)), .val (.int (2 : Int32)), .val (.ref da), .val (.int (2 : Int32)), .unset]) rfl gk) ?_
  show Go _ _ _ _ T4 (mkF m 14 #[.val (.ref va), .val (.int (0 : Int32)), .val (.int (2 : Int32)), .val (.ref da), .val (.int (2 : Int32)), .unset] [])
  refine Go.by (fun _ gk => XS.iload X4.here hx rfl (hb hby d6_14) rfl gk) ?_
  show Go _ _ _ _ T4 (mkF m 16 #[.val (.ref va), .val (.int (0 : Int32)), .val (.int (2 : Int32)), .val (.ref da), .val (.int (2 : Int32)), .unset] [(.int (2 : Int32))])
  refine Go.by (fun _ gk => XS.iloadN X4.here hx rfl (hb hby d6_16) rfl gk) ?_
  show Go _ _ _ _ T4 (mkF m 17 #[.val (.ref va), .val (.int (0 : Int32)), .val (.int (2 : Int32)), .val (.ref da), .val (.int (2 : Int32)), .unset] [(.int (2 : Int32)), (.int (2 : Int32))])
  refine Go.by (fun _ gk => XS.icmpYes X4.here hx rfl (pc0 := 17) (pc' := 57) rfl (hb hby d6_17) rfl (XT.ii_eq_t rfl) (by decide) (by decide) gk) ?_
  show Go _ _ _ _ T4 (mkF m 57 #[.val (.ref va), .val (.int (0 : Int32)), .val (.int (2 : Int32)), .val (.ref da), .val (.int (2 : Int32)), .unset] [])
  refine Go.by (fun _ gk => XS.aloadN X4.here hx rfl (hb hby d6_57) rfl rfl gk) ?_
  show Go _ _ _ _ T4 (mkF m 58 #[.val (.ref va), .val (.int (0 : Int32)), .val (.int (2 : Int32)), .val (.ref da), .val (.int (2 : Int32)), .unset] [(.ref da)])
  have F5 : Keep h0 h1 [] := (Keep.refl h0 []).ext E1
  have F6 : Keep h0 T4.heap [] := F5.trans K4 (allS (Or.inr sz_da) all0)
  exact Go.retA X4 hx Bd.notSynchronized Bd.returns rfl rfl (hb hby d6_58) ⟨da, k1, rfl, N4, F6, Q4_0, sz_da⟩ (by decide) (by decide)
theorem d8_0 : decode jdk_52_method_15_code 0 = .ok (.iload_n 1, 1) := by decide +kernel
theorem d8_1 : decode jdk_52_method_15_code 1 = .ok (.aload_n 0, 1) := by decide +kernel
theorem d8_2 : decode jdk_52_method_15_code 2 = .ok (.arraylength, 1) := by decide +kernel
theorem d8_3 : decode jdk_52_method_15_code 3 = .ok (.isub, 1) := by decide +kernel
theorem d8_4 : decode jdk_52_method_15_code 4 = .ok (.bipush 31, 2) := by decide +kernel
theorem d8_6 : decode jdk_52_method_15_code 6 = .ok (.iushr, 1) := by decide +kernel
theorem d8_7 : decode jdk_52_method_15_code 7 = .ok (.i2b, 1) := by decide +kernel
theorem d8_8 : decode jdk_52_method_15_code 8 = .ok (.ireturn, 1) := by decide +kernel
def Q_rmCoder_2 (Z : State) (da : Addr) (kd : ClassId) (vs : List Value) (h0 : Heap) (n0 : Nat) (v : Option Value) (h : Heap) (L : List Loc) : Prop := v = some (.int (0 : Int32)) ∧ Fr n0 L ∧ h = h0
set_option maxRecDepth 65536 in
set_option maxHeartbeats 40000000 in
theorem rmCoder_2 (l : Launch) (Z : State) (a0 : Array Value) (hw : ∀ d ∈ tables_1, d.before a0 Z = true) (ws : List Jvm.Cond) (da : Addr) (kd : ClassId) (vs : List Value) (h0 : Heap) (n0 : Nat) (Z0 : n0 ≤ h0.size) (V_da : Arv Z h0 da kd .byte (2 : Int32) vs (.int (0 : Int32))) :
    MetFree l (⟨"java/lang/StringUTF16", "coderFromArrayLen", "([BI)B"⟩ : MethodName) (head1 (Jvm.Cond.code (⟨"java/lang/StringUTF16", "coderFromArrayLen", "([BI)B"⟩ : MethodName) jdk_52_method_15_code 2 (some .byte) :: ws) ({ frames := 0, cells := 0, slots := 0, locals := 0 } : Room)) (fun as' U => as' = #[(.ref da), (.int (2 : Int32))] ∧ Z.Warmed39 U.vm ∧ U.heap = h0) (fun _ _ _ _ _ => True) (fun _ U o U' => ∃ v L, o = .returned v ∧ Q_rmCoder_2 Z da kd vs h0 n0 v U'.heap L ∧ FrameEnd U o U' L ({ frames := 0, cells := 0, slots := 0, locals := 0 } : Room).cells ({ frames := 0, cells := 0, slots := 0, locals := 0 } : Room).slots) := by
  refine MetFree.of_bodySF (plainFor_of_name pn_67) hisR ?_
  intro p e s m args below meth c s₁ Bd hml0 hP hK
  obtain ⟨rfl, hZ, hh⟩ := hP
  have hx := Bd.exec
  have hby := Bd.bytes
  have hml : c.maxLocals = 2 := hml0
  have hown : s.vm.findClass "java/lang/StringUTF16" = some m.cls := findClass_of_methodNamed Bd.named
  have hnm := (name_of_methodNamed Bd.named Bd.method).1
  have X0 : Stand p l e ({ frames := 0, cells := 0, slots := 0, locals := 0 } : Room) s m #[(.ref da), (.int (2 : Int32))] below meth c s₁ [] 0 0 := Stand.of_body Bd
  have e0 : s₁.heap = h0 := by rw [← hh, Bd.state]; rfl
  have N0 := Fr.nil n0
  refine Go.enter (F := EndN s (Q_rmCoder_2 Z da kd vs h0 n0) ({ frames := 0, cells := 0, slots := 0, locals := 0 } : Room).cells ({ frames := 0, cells := 0, slots := 0, locals := 0 } : Room).slots) (ef_8 m da (2 : Int32)) ?_
  show Go _ _ _ _ s₁ (mkF m 0 #[.val (.ref da), .val (.int (2 : Int32))] [])
  refine Go.by (fun _ gk => XS.iloadN X0.here hx rfl (hb hby d8_0) rfl gk) ?_
  show Go _ _ _ _ s₁ (mkF m 1 #[.val (.ref da), .val (.int (2 : Int32))] [(.int (2 : Int32))])
  refine Go.by (fun _ gk => XS.aloadN X0.here hx rfl (hb hby d8_1) rfl rfl gk) ?_
  show Go _ _ _ _ s₁ (mkF m 2 #[.val (.ref da), .val (.int (2 : Int32))] [(.ref da), (.int (2 : Int32))])
  obtain ⟨cl1, Ar1, -, S1, M1, -, -⟩ := id V_da
  refine Go.by (fun _ gk => X0.arraylength hx (by rw [e0]; exact Ar1.1) (State.isArrayOf_alike hZ.alike Ar1.2.1) (g := (mkF m 2 #[.val (.ref da), .val (.int (2 : Int32))] [(.ref da), (.int (2 : Int32))])) rfl rfl (hb hby d8_2) _ gk) ?_
  rw [len_of S1 M1]
  show Go _ _ _ _ s₁ (mkF m 3 #[.val (.ref da), .val (.int (2 : Int32))] [(.int (2 : Int32)), (.int (2 : Int32))])
  refine Go.by (fun _ gk => XS.isub X0.here hx rfl (hb hby d8_3) rfl gk) ?_
  show Go _ _ _ _ s₁ (mkF m 4 #[.val (.ref da), .val (.int (2 : Int32))] [(.int ((2 : Int32) - (2 : Int32)))])
  rw [(by decide : ((2 : Int32) - (2 : Int32)) = (0 : Int32))]
  show Go _ _ _ _ s₁ (mkF m 4 #[.val (.ref da), .val (.int (2 : Int32))] [(.int (0 : Int32))])
  refine Go.by (fun _ gk => XT.bipushV X0.here hx rfl (31 : Int32) (hb hby d8_4) (by decide) gk) ?_
  show Go _ _ _ _ s₁ (mkF m 6 #[.val (.ref da), .val (.int (2 : Int32))] [(.int (31 : Int32)), (.int (0 : Int32))])
  refine Go.by (fun _ gk => XT.iushr X0.here hx rfl (hb hby d8_6) rfl gk) ?_
  show Go _ _ _ _ s₁ (mkF m 7 #[.val (.ref da), .val (.int (2 : Int32))] [(.int (XT.ushr (0 : Int32) (31 : Int32)))])
  rw [(by decide : (XT.ushr (0 : Int32) (31 : Int32)) = (0 : Int32))]
  show Go _ _ _ _ s₁ (mkF m 7 #[.val (.ref da), .val (.int (2 : Int32))] [(.int (0 : Int32))])
  refine Go.by (fun _ gk => XT.i2b X0.here hx rfl (hb hby d8_7) rfl gk) ?_
  show Go _ _ _ _ s₁ (mkF m 8 #[.val (.ref da), .val (.int (2 : Int32))] [(.int ((0 : Int32).toInt8.toInt32))])
  rw [(by decide : ((0 : Int32).toInt8.toInt32) = (0 : Int32))]
  show Go _ _ _ _ s₁ (mkF m 8 #[.val (.ref da), .val (.int (2 : Int32))] [(.int (0 : Int32))])
  exact Go.retI X0 hx Bd.notSynchronized Bd.returns rfl (by simp) (hb hby d8_8) (by rw [e0]; exact ⟨rfl, N0, rfl⟩) (by decide) (by decide)
theorem pn_117 : plainName "java/lang/String" = true := by first | (simp [plainName, overriddenIn]; done) | decide +kernel
theorem ef_118 (m : MethodId) (x0 : Addr) (x1 : Addr) (x2 : Int32) (x3 : Int32) : entryFrame m #[(.ref x0), (.ref x1), (.int x2), (.int x3), .null] 6 = mkF m 0 #[.val (.ref x0), .val (.ref x1), .val (.int x2), .val (.int x3), .val .null, .unset] [] := by (first | (simp [entryFrame, mkF, argsToLocals, Value.category]; done) | rfl)
theorem d4_0 : decode jdk_42_method_149_code 0 = .ok (.aload_n 0, 1) := by decide +kernel
theorem d4_1 : decode jdk_42_method_149_code 1 = .ok (.invokespecial 1, 3) := by decide +kernel
theorem d4_4 : decode jdk_42_method_149_code 4 = .ok (.iload_n 3, 1) := by decide +kernel
theorem d4_5 : decode jdk_42_method_149_code 5 = .ok (.ifCond .ne 22, 3) := by decide +kernel
theorem d4_27 : decode jdk_42_method_149_code 27 = .ok (.getstatic 38, 3) := by decide +kernel
theorem d4_30 : decode jdk_42_method_149_code 30 = .ok (.ifCond .eq 28, 3) := by decide +kernel
theorem d4_33 : decode jdk_42_method_149_code 33 = .ok (.aload_n 1, 1) := by decide +kernel
theorem d4_34 : decode jdk_42_method_149_code 34 = .ok (.iload_n 2, 1) := by decide +kernel
theorem d4_35 : decode jdk_42_method_149_code 35 = .ok (.iload_n 3, 1) := by decide +kernel
theorem pd_128 : parseMethodDescriptor "([CII)[B" = some ⟨[(.array .char), .int, .int], some (.array .byte)⟩ := by decide +kernel
theorem d4_36 : decode jdk_42_method_149_code 36 = .ok (.invokestatic 177, 3) := by decide +kernel
theorem d4_39 : decode jdk_42_method_149_code 39 = .ok (.astore 5, 2) := by decide +kernel
theorem d4_41 : decode jdk_42_method_149_code 41 = .ok (.aload_n 0, 1) := by decide +kernel
theorem d4_42 : decode jdk_42_method_149_code 42 = .ok (.aload 5, 2) := by decide +kernel
theorem d4_44 : decode jdk_42_method_149_code 44 = .ok (.iload_n 3, 1) := by decide +kernel
theorem pd_134 : parseMethodDescriptor "([BI)B" = some ⟨[(.array .byte), .int], some .byte⟩ := by decide +kernel
theorem d4_45 : decode jdk_42_method_149_code 45 = .ok (.invokestatic 47, 3) := by decide +kernel
theorem d4_48 : decode jdk_42_method_149_code 48 = .ok (.putfield 15, 3) := by decide +kernel
theorem d4_51 : decode jdk_42_method_149_code 51 = .ok (.aload_n 0, 1) := by decide +kernel
theorem d4_52 : decode jdk_42_method_149_code 52 = .ok (.aload 5, 2) := by decide +kernel
theorem d4_54 : decode jdk_42_method_149_code 54 = .ok (.putfield 9, 3) := by decide +kernel
theorem d4_57 : decode jdk_42_method_149_code 57 = .ok (.return_, 1) := by decide +kernel
def Q_rmS4_2 (Z : State) (a : Addr) (va : Addr) (kv : ClassId) (c0 : Int32) (c1 : Int32) (cs : Int32) (h0 : Heap) (n0 : Nat) (v : Option Value) (h : Heap) (L : List Loc) : Prop := ∃ b : Addr, ∃ kb : ClassId, v = none ∧ Fr n0 L ∧ Keep h0 h [a] ∧ Exa Z h a "java/lang/String" ∧ Fld Z h a "java/lang/String" "coder" "B" (.int (0 : Int32)) ∧ Fld Z h a "java/lang/String" "value" "[B" (.ref b) ∧ Arv Z h b kb .byte (2 : Int32) ([(.int (own_b c0)), (.int (own_b c1))]) (.int (0 : Int32)) ∧ h0.size ≤ b
set_option maxRecDepth 65536 in
set_option maxHeartbeats 40000000 in
theorem rmS4_2 (l : Launch) (Z : State) (a0 : Array Value) (hw : ∀ d ∈ tables_1, d.before a0 Z = true) (ws : List Jvm.Cond) (a : Addr) (va : Addr) (kv : ClassId) (c0 : Int32) (c1 : Int32) (cs : Int32) (h0 : Heap) (n0 : Nat) (Z0 : n0 ≤ h0.size) (O0 : Old Z n0 h0) (E_a : Exa Z h0 a "java/lang/String") (F_a_value : Fld Z h0 a "java/lang/String" "value" "[B" .null) (F_a_coder : Fld Z h0 a "java/lang/String" "coder" "B" (.int (0 : Int32))) (g_a : n0 ≤ a) (V_va : Arv Z h0 va kv .char (2 : Int32) ([(.int c0), (.int c1)]) (.int (0 : Int32))) (hc0 : ¬ (255 : Int32) < c0) (hc1 : ¬ (255 : Int32) < c1) (S_cs : Sta Z Z.heap "java/lang/String" "COMPACT_STRINGS" "Z" (.int cs)) (n_cs : ¬ cs = 0) :
    MetFree l (⟨"java/lang/String", "<init>", "([CIILjava/lang/Void;)V"⟩ : MethodName) (head1 (Jvm.Cond.code (⟨"java/lang/String", "<init>", "([CIILjava/lang/Void;)V"⟩ : MethodName) jdk_42_method_149_code 6 none :: ws) ({ frames := 2, cells := 1, slots := 2, locals := 35 } : Room)) (fun as' U => as' = #[(.ref a), (.ref va), (.int (0 : Int32)), (.int (2 : Int32)), .null] ∧ Z.Warmed39 U.vm ∧ U.heap = h0) (fun _ _ _ _ _ => True) (fun _ U o U' => ∃ v L, o = .returned v ∧ Q_rmS4_2 Z a va kv c0 c1 cs h0 n0 v U'.heap L ∧ FrameEnd U o U' L ({ frames := 2, cells := 1, slots := 2, locals := 35 } : Room).cells ({ frames := 2, cells := 1, slots := 2, locals := 35 } : Room).slots) := by
  refine MetFree.of_bodySF (plainFor_of_name pn_117) hisR ?_
  intro p e s m args below meth c s₁ Bd hml0 hP hK
  obtain ⟨rfl, hZ, hh⟩ := hP
  have hx := Bd.exec
  have hby := Bd.bytes
  have hml : c.maxLocals = 6 := hml0
  have hown : s.vm.findClass "java/lang/String" = some m.cls := findClass_of_methodNamed Bd.named
  have hnm := (name_of_methodNamed Bd.named Bd.method).1
  have X0 : Stand p l e ({ frames := 2, cells := 1, slots := 2, locals := 35 } : Room) s m #[(.ref a), (.ref va), (.int (0 : Int32)), (.int (2 : Int32)), .null] below meth c s₁ [] 0 0 := Stand.of_body Bd
  have e0 : s₁.heap = h0 := by rw [← hh, Bd.state]; rfl
  have N0 := Fr.nil n0
  refine Go.enter (F := EndN s (Q_rmS4_2 Z a va kv c0 c1 cs h0 n0) ({ frames := 2, cells := 1, slots := 2, locals := 35 } : Room).cells ({ frames := 2, cells := 1, slots := 2, locals := 35 } : Room).slots) (ef_118 m a va (0 : Int32) (2 : Int32)) ?_
  show Go _ _ _ _ s₁ (mkF m 0 #[.val (.ref a), .val (.ref va), .val (.int (0 : Int32)), .val (.int (2 : Int32)), .val .null, .unset] [])
  refine Go.by (fun _ gk => XS.aloadN X0.here hx rfl (hb hby d4_0) rfl rfl gk) ?_
  show Go _ _ _ _ s₁ (mkF m 1 #[.val (.ref a), .val (.ref va), .val (.int (0 : Int32)), .val (.int (2 : Int32)), .val .null, .unset] [(.ref a)])
  obtain ⟨T1, X1, e1, st1⟩ := initO X0 hx hZ hown (hw _ (List.mem_of_getElem? (i := 22) rfl)) (hw _ (List.mem_of_getElem? (i := 23) rfl)) (hw _ (List.mem_of_getElem? (i := 24) rfl)) e0 (g := (mkF m 1 #[.val (.ref a), .val (.ref va), .val (.int (0 : Int32)), .val (.int (2 : Int32)), .val .null, .unset] [(.ref a)])) rfl (by rw [hml]; rfl) rfl (hb hby d4_1) (by decide) (W := 0) (by show 2 * 0 + _ ≤ _; exact Nat.le_of_eq rfl) (by decide)
  refine Go.by st1 ?_
  show Go _ _ _ _ T1 (mkF m 4 #[.val (.ref a), .val (.ref va), .val (.int (0 : Int32)), .val (.int (2 : Int32)), .val .null, .unset] [])
  refine Go.by (fun _ gk => XS.iloadN X1.here hx rfl (hb hby d4_4) rfl gk) ?_
  show Go _ _ _ _ T1 (mkF m 5 #[.val (.ref a), .val (.ref va), .val (.int (0 : Int32)), .val (.int (2 : Int32)), .val .null, .unset] [(.int (2 : Int32))])
  refine Go.by (fun _ gk => XS.ifYes X1.here hx rfl (pc0 := 5) (pc' := 27) rfl (hb hby d4_5) rfl (XT.i0_ne_t (by decide)) (by decide) (by decide) gk) ?_
  show Go _ _ _ _ T1 (mkF m 27 #[.val (.ref a), .val (.ref va), .val (.int (0 : Int32)), .val (.int (2 : Int32)), .val .null, .unset] [])
  have F2 : Sta Z h0 "java/lang/String" "COMPACT_STRINGS" "Z" (.int cs) := S_cs.ext O0.2
  obtain ⟨T3, X3, e3, st3⟩ := getS2 X1 hx hZ hown (host := "") (Or.inl (hw _ (List.mem_of_getElem? (i := 25) rfl))) Via.refl e1 F2 (g := (mkF m 27 #[.val (.ref a), .val (.ref va), .val (.int (0 : Int32)), .val (.int (2 : Int32)), .val .null, .unset] [])) rfl (hb hby d4_27)
  refine Go.by st3 ?_
  show Go _ _ _ _ T3 (mkF m 30 #[.val (.ref a), .val (.ref va), .val (.int (0 : Int32)), .val (.int (2 : Int32)), .val .null, .unset] [(.int cs)])
  refine Go.by (fun _ gk => XS.ifNo X3.here hx rfl (hb hby d4_30) rfl (XT.i0_eq_f n_cs) gk) ?_
  show Go _ _ _ _ T3 (mkF m 33 #[.val (.ref a), .val (.ref va), .val (.int (0 : Int32)), .val (.int (2 : Int32)), .val .null, .unset] [])
  refine Go.by (fun _ gk => XS.aloadN X3.here hx rfl (hb hby d4_33) rfl rfl gk) ?_
  show Go _ _ _ _ T3 (mkF m 34 #[.val (.ref a), .val (.ref va), .val (.int (0 : Int32)), .val (.int (2 : Int32)), .val .null, .unset] [(.ref va)])
  refine Go.by (fun _ gk => XS.iloadN X3.here hx rfl (hb hby d4_34) rfl gk) ?_
  show Go _ _ _ _ T3 (mkF m 35 #[.val (.ref a), .val (.ref va), .val (.int (0 : Int32)), .val (.int (2 : Int32)), .val .null, .unset] [(.int (0 : Int32)), (.ref va)])
  refine Go.by (fun _ gk => XS.iloadN X3.here hx rfl (hb hby d4_35) rfl gk) ?_
  show Go _ _ _ _ T3 (mkF m 36 #[.val (.ref a), .val (.ref va), .val (.int (0 : Int32)), .val (.int (2 : Int32)), .val .null, .unset] [(.int (2 : Int32)), (.int (0 : Int32)), (.ref va)])
  obtain ⟨_, _, ⟨T4, L4, k4, n4⟩, -, X4, ⟨Lc4, hQ4, l4, y4, z4⟩, st4⟩ := Jvm.LawKit.callS X3 hx (y := (⟨"java/lang/StringUTF16", "compress", "([CII)[B"⟩ : MethodName)) hown (mvT hZ (hw _ (List.mem_of_getElem? (i := 26) rfl))) (mvT hZ (hw _ (List.mem_of_getElem? (i := 27) rfl))) (mvT hZ (hw _ (List.mem_of_getElem? (i := 28) rfl))) (mvT hZ (hw _ (List.mem_of_getElem? (i := 29) rfl))) (by decide) (backOf (W := 0) (rmC3_2 l Z a0 hw [] va kv c0 c1 h0 n0 Z0 V_va hc0 hc1) hZ (hw _ (List.mem_of_getElem? (i := 29) rfl)) (hw _ (List.mem_of_getElem? (i := 28) rfl)) (by decide) (by decide)) (g := (mkF m 36 #[.val (.ref a), .val (.ref va), .val (.int (0 : Int32)), .val (.int (2 : Int32)), .val .null, .unset] [(.int (2 : Int32)), (.int (0 : Int32)), (.ref va)])) rfl (by rw [hml]; rfl) (argsL := [(.ref va), (.int (0 : Int32)), (.int (2 : Int32))]) (rest := []) (lenOf pd_128 rfl) rfl (by show 2 * 0 + _ ≤ _; exact Nat.le_of_eq rfl) (hb hby d4_36) (fun _ _ => ⟨rfl, e3, (by decide : 0 + 1 ≤ _), (by decide : 0 + 2 ≤ _)⟩)
  dsimp only [Pt.U, Pt.locs, Pt.cells, Pt.slots] at X4 l4 y4 z4 st4 hQ4
  subst l4 y4 z4
  obtain ⟨b, kb, rfl, N4q, K4, Q4_0, Q4_1⟩ := hQ4
  have N4 := Fr.app N0 N4q
  refine Go.by st4 ?_
  show Go _ _ _ _ T4 (mkF m 39 #[.val (.ref a), .val (.ref va), .val (.int (0 : Int32)), .val (.int (2 : Int32)), .val .null, .unset] [(.ref b)])
  have ge_b : n0 ≤ b := Nat.le_trans Z0 Q4_1
  have sz_b : h0.size ≤ b := Nat.le_trans (Keep.refl h0 [a]).1 Q4_1
  have ne_a_b : a ≠ b := Nat.ne_of_lt (Nat.lt_of_lt_of_le E_a.lt Q4_1)
  have ne_va_b : va ≠ b := Nat.ne_of_lt (Nat.lt_of_lt_of_le V_va.lt Q4_1)
  refine Go.by (fun _ gk => XS.astore X4.here hx rfl (hb hby d4_39) rfl rfl (l' := #[.val (.ref a), .val (.ref va), .val (.int (0 : Int32)), .val (.int (2 : Int32)), .val .null, .val (.ref b)]) rfl gk) ?_
  show Go _ _ _ _ T4 (mkF m 41 #[.val (.ref a), .val (.ref va), .val (.int (0 : Int32)), .val (.int (2 : Int32)), .val .null, .val (.ref b)] [])
  refine Go.by (fun _ gk => XS.aloadN X4.here hx rfl (hb hby d4_41) rfl rfl gk) ?_
  show Go _ _ _ _ T4 (mkF m 42 #[.val (.ref a), .val (.ref va), .val (.int (0 : Int32)), .val (.int (2 : Int32)), .val .null, .val (.ref b)] [(.ref a)])
  refine Go.by (fun _ gk => XS.aload X4.here hx rfl (hb hby d4_42) rfl rfl gk) ?_
  show Go _ _ _ _ T4 (mkF m 44 #[.val (.ref a), .val (.ref va), .val (.int (0 : Int32)), .val (.int (2 : Int32)), .val .null, .val (.ref b)] [(.ref b), (.ref a)])
  refine Go.by (fun _ gk => XS.iloadN X4.here hx rfl (hb hby d4_44) rfl gk) ?_
  show Go _ _ _ _ T4 (mkF m 45 #[.val (.ref a), .val (.ref va), .val (.int (0 : Int32)), .val (.int (2 : Int32)), .val .null, .val (.ref b)] [(.int (2 : Int32)), (.ref b), (.ref a)])
  have F5 : n0 ≤ T4.heap.size := Nat.le_trans Z0 K4.1
  obtain ⟨_, _, ⟨T6, L6, k6, n6⟩, -, X6, ⟨Lc6, hQ6, l6, y6, z6⟩, st6⟩ := Jvm.LawKit.callS X4 hx (y := (⟨"java/lang/StringUTF16", "coderFromArrayLen", "([BI)B"⟩ : MethodName)) hown (mvT hZ (hw _ (List.mem_of_getElem? (i := 34) rfl))) (mvT hZ (hw _ (List.mem_of_getElem? (i := 35) rfl))) (mvT hZ (hw _ (List.mem_of_getElem? (i := 28) rfl))) (mvT hZ (hw _ (List.mem_of_getElem? (i := 36) rfl))) (by decide) (backOf (W := 1) (rmCoder_2 l Z a0 hw [] b kb ([(.int (own_b c0)), (.int (own_b c1))]) T4.heap n0 F5 Q4_0) hZ (hw _ (List.mem_of_getElem? (i := 36) rfl)) (hw _ (List.mem_of_getElem? (i := 28) rfl)) (by decide) (by decide)) (g := (mkF m 45 #[.val (.ref a), .val (.ref va), .val (.int (0 : Int32)), .val (.int (2 : Int32)), .val .null, .val (.ref b)] [(.int (2 : Int32)), (.ref b), (.ref a)])) rfl (by rw [hml]; rfl) (argsL := [(.ref b), (.int (2 : Int32))]) (rest := [(.ref a)]) (lenOf pd_134 rfl) rfl (by show 2 * 0 + _ ≤ _; exact Nat.le_of_eq rfl) (hb hby d4_45) (fun _ _ => ⟨rfl, rfl, (by decide : 1 + 0 ≤ _), (by decide : 2 + 0 ≤ _)⟩)
  dsimp only [Pt.U, Pt.locs, Pt.cells, Pt.slots] at X6 l6 y6 z6 st6 hQ6
  subst l6 y6 z6
  obtain ⟨rfl, N6q, e6⟩ := hQ6
  have N6 := Fr.app N4 N6q
  refine Go.by st6 ?_
  show Go _ _ _ _ T6 (mkF m 48 #[.val (.ref a), .val (.ref va), .val (.int (0 : Int32)), .val (.int (2 : Int32)), .val .null, .val (.ref b)] [(.int (0 : Int32)), (.ref a)])
  have F7 : Fld Z T4.heap a "java/lang/String" "coder" "B" (.int (0 : Int32)) := F_a_coder.keep K4 nin0
  have F8 : Exa Z T4.heap a "java/lang/String" := E_a.keep K4
  obtain ⟨T9, h9, X9, e9, W9, st9⟩ := putFN X6 hx hZ hown (hw _ (List.mem_of_getElem? (i := 37) rfl)) Via.refl e6 F7 F8 (Or.inr ⟨(hw _ (List.mem_of_getElem? (i := 38) rfl)), rfl, hnm⟩) (hw _ (List.mem_of_getElem? (i := 13) rfl)) (ty := .byte) (v' := (.int (0 : Int32))) (by decide) rfl rfl (g := (mkF m 48 #[.val (.ref a), .val (.ref va), .val (.int (0 : Int32)), .val (.int (2 : Int32)), .val .null, .val (.ref b)] [(.int (0 : Int32)), (.ref a)])) rfl rfl (hb hby d4_48)
  have N9 := Fr.snoc X9 N6 g_a
  have Fw9 : Fld Z h9 a "java/lang/String" "coder" "B" (.int (0 : Int32)) := F7.same W9
  refine Go.by st9 ?_
  show Go _ _ _ _ T9 (mkF m 51 #[.val (.ref a), .val (.ref va), .val (.int (0 : Int32)), .val (.int (2 : Int32)), .val .null, .val (.ref b)] [])
  refine Go.by (fun _ gk => XS.aloadN X9.here hx rfl (hb hby d4_51) rfl rfl gk) ?_
  show Go _ _ _ _ T9 (mkF m 52 #[.val (.ref a), .val (.ref va), .val (.int (0 : Int32)), .val (.int (2 : Int32)), .val .null, .val (.ref b)] [(.ref a)])
  refine Go.by (fun _ gk => XS.aload X9.here hx rfl (hb hby d4_52) rfl rfl gk) ?_
  show Go _ _ _ _ T9 (mkF m 54 #[.val (.ref a), .val (.ref va), .val (.int (0 : Int32)), .val (.int (2 : Int32)), .val .null, .val (.ref b)] [(.ref b), (.ref a)])
  have F10 : Fld Z T4.heap a "java/lang/String" "value" "[B" .null := F_a_value.keep K4 nin0
  have F11 : Fld Z h9 a "java/lang/String" "value" "[B" .null := F10.other W9 (Or.inr (slot_ne (Or.inr (hw _ (List.mem_of_getElem? (i := 40) rfl))) (Or.inr (hw _ (List.mem_of_getElem? (i := 38) rfl))) (by decide) (t := (.array .byte)) (t' := .byte) (by decide) (by decide)))
  have F12 : Exa Z h9 a "java/lang/String" := F8.wr W9
  obtain ⟨T13, h13, X13, e13, W13, st13⟩ := putF X9 hx hZ hown (host := "") (Or.inl (hw _ (List.mem_of_getElem? (i := 39) rfl))) Via.refl e9 F11 F12 (Or.inr ⟨(hw _ (List.mem_of_getElem? (i := 40) rfl)), rfl, hnm⟩) (hw _ (List.mem_of_getElem? (i := 13) rfl)) (ty := (.array .byte)) (by decide) rfl rfl (g := (mkF m 54 #[.val (.ref a), .val (.ref va), .val (.int (0 : Int32)), .val (.int (2 : Int32)), .val .null, .val (.ref b)] [(.ref b), (.ref a)])) rfl rfl (hb hby d4_54)
  have N13 := Fr.snoc X13 N9 g_a
  have Fw13 : Fld Z h13 a "java/lang/String" "value" "[B" (.ref b) := F11.same W13
  refine Go.by st13 ?_
  show Go _ _ _ _ T13 (mkF m 57 #[.val (.ref a), .val (.ref va), .val (.int (0 : Int32)), .val (.int (2 : Int32)), .val .null, .val (.ref b)] [])
  have F14 : Keep h0 T4.heap [a] := (Keep.refl h0 [a]).trans K4 all0
  have F15 : Keep h0 h9 [a] := F14.wr W9 (Or.inl (List.mem_of_getElem? (i := 0) rfl))
  have F16 : Keep h0 h13 [a] := F15.wr W13 (Or.inl (List.mem_of_getElem? (i := 0) rfl))
  have F17 : Exa Z h13 a "java/lang/String" := F12.wr W13
  have F18 : Fld Z h13 a "java/lang/String" "coder" "B" (.int (0 : Int32)) := Fw9.other W13 (Or.inr (slot_ne (Or.inr (hw _ (List.mem_of_getElem? (i := 38) rfl))) (Or.inr (hw _ (List.mem_of_getElem? (i := 40) rfl))) (by decide) (t := .byte) (t' := (.array .byte)) (by decide) (by decide)))
  have F19 : Arv Z h9 b kb .byte (2 : Int32) [(.int (own_b c0)), (.int (own_b c1))] (.int (0 : Int32)) := Q4_0.other W9 (Ne.symm ne_a_b)
  have F20 : Arv Z h13 b kb .byte (2 : Int32) [(.int (own_b c0)), (.int (own_b c1))] (.int (0 : Int32)) := F19.other W13 (Ne.symm ne_a_b)
  exact Go.retV X13 hx Bd.notSynchronized Bd.returns (hb hby d4_57) (by rw [e13]; exact ⟨b, kb, rfl, N13, F16, F17, F18, Fw13, F20, sz_b⟩) (by decide) (by decide)
theorem ef_141 (m : MethodId) (x0 : Addr) (x1 : Addr) : entryFrame m #[(.ref x0), (.ref x1)] 2 = mkF m 0 #[.val (.ref x0), .val (.ref x1)] [] := by (first | (simp [entryFrame, mkF, argsToLocals, Value.category]; done) | rfl)
theorem d3_0 : decode jdk_42_method_3_code 0 = .ok (.aload_n 0, 1) := by decide +kernel
theorem d3_1 : decode jdk_42_method_3_code 1 = .ok (.aload_n 1, 1) := by decide +kernel
theorem d3_2 : decode jdk_42_method_3_code 2 = .ok (.iconst 0, 1) := by decide +kernel
theorem d3_3 : decode jdk_42_method_3_code 3 = .ok (.aload_n 1, 1) := by decide +kernel
theorem d3_4 : decode jdk_42_method_3_code 4 = .ok (.arraylength, 1) := by decide +kernel
theorem d3_5 : decode jdk_42_method_3_code 5 = .ok (.aconst_null, 1) := by decide +kernel
theorem pd_148 : parseMethodDescriptor "([CIILjava/lang/Void;)V" = some ⟨[(.array .char), .int, .int, (.object "java/lang/Void")], none⟩ := by decide +kernel
theorem d3_6 : decode jdk_42_method_3_code 6 = .ok (.invokespecial 27, 3) := by decide +kernel
theorem d3_9 : decode jdk_42_method_3_code 9 = .ok (.return_, 1) := by decide +kernel
def Q_rmS1_2 (Z : State) (a : Addr) (va : Addr) (kv : ClassId) (c0 : Int32) (c1 : Int32) (cs : Int32) (h0 : Heap) (n0 : Nat) (v : Option Value) (h : Heap) (L : List Loc) : Prop := ∃ b : Addr, ∃ kb : ClassId, v = none ∧ Fr n0 L ∧ Keep h0 h [a] ∧ Exa Z h a "java/lang/String" ∧ Fld Z h a "java/lang/String" "coder" "B" (.int (0 : Int32)) ∧ Fld Z h a "java/lang/String" "value" "[B" (.ref b) ∧ Arv Z h b kb .byte (2 : Int32) ([(.int (own_b c0)), (.int (own_b c1))]) (.int (0 : Int32)) ∧ h0.size ≤ b
set_option maxRecDepth 65536 in
set_option maxHeartbeats 40000000 in
theorem rmS1_2 (l : Launch) (Z : State) (a0 : Array Value) (hw : ∀ d ∈ tables_1, d.before a0 Z = true) (ws : List Jvm.Cond) (a : Addr) (va : Addr) (kv : ClassId) (c0 : Int32) (c1 : Int32) (cs : Int32) (h0 : Heap) (n0 : Nat) (Z0 : n0 ≤ h0.size) (O0 : Old Z n0 h0) (E_a : Exa Z h0 a "java/lang/String") (F_a_value : Fld Z h0 a "java/lang/String" "value" "[B" .null) (F_a_coder : Fld Z h0 a "java/lang/String" "coder" "B" (.int (0 : Int32))) (g_a : n0 ≤ a) (V_va : Arv Z h0 va kv .char (2 : Int32) ([(.int c0), (.int c1)]) (.int (0 : Int32))) (hc0 : ¬ (255 : Int32) < c0) (hc1 : ¬ (255 : Int32) < c1) (S_cs : Sta Z Z.heap "java/lang/String" "COMPACT_STRINGS" "Z" (.int cs)) (n_cs : ¬ cs = 0) :
    MetFree l (⟨"java/lang/String", "<init>", "([C)V"⟩ : MethodName) (head1 (Jvm.Cond.code (⟨"java/lang/String", "<init>", "([C)V"⟩ : MethodName) jdk_42_method_3_code 2 none :: ws) ({ frames := 3, cells := 1, slots := 2, locals := 52 } : Room)) (fun as' U => as' = #[(.ref a), (.ref va)] ∧ Z.Warmed39 U.vm ∧ U.heap = h0) (fun _ _ _ _ _ => True) (fun _ U o U' => ∃ v L, o = .returned v ∧ Q_rmS1_2 Z a va kv c0 c1 cs h0 n0 v U'.heap L ∧ FrameEnd U o U' L ({ frames := 3, cells := 1, slots := 2, locals := 52 } : Room).cells ({ frames := 3, cells := 1, slots := 2, locals := 52 } : Room).slots) := by
  refine MetFree.of_bodySF (plainFor_of_name pn_117) hisR ?_
  intro p e s m args below meth c s₁ Bd hml0 hP hK
  obtain ⟨rfl, hZ, hh⟩ := hP
  have hx := Bd.exec
  have hby := Bd.bytes
  have hml : c.maxLocals = 2 := hml0
  have hown : s.vm.findClass "java/lang/String" = some m.cls := findClass_of_methodNamed Bd.named
  have hnm := (name_of_methodNamed Bd.named Bd.method).1
  have X0 : Stand p l e ({ frames := 3, cells := 1, slots := 2, locals := 52 } : Room) s m #[(.ref a), (.ref va)] below meth c s₁ [] 0 0 := Stand.of_body Bd
  have e0 : s₁.heap = h0 := by rw [← hh, Bd.state]; rfl
  have N0 := Fr.nil n0
  refine Go.enter (F := EndN s (Q_rmS1_2 Z a va kv c0 c1 cs h0 n0) ({ frames := 3, cells := 1, slots := 2, locals := 52 } : Room).cells ({ frames := 3, cells := 1, slots := 2, locals := 52 } : Room).slots) (ef_141 m a va) ?_
  show Go _ _ _ _ s₁ (mkF m 0 #[.val (.ref a), .val (.ref va)] [])
  refine Go.by (fun _ gk => XS.aloadN X0.here hx rfl (hb hby d3_0) rfl rfl gk) ?_
  show Go _ _ _ _ s₁ (mkF m 1 #[.val (.ref a), .val (.ref va)] [(.ref a)])
  refine Go.by (fun _ gk => XS.aloadN X0.here hx rfl (hb hby d3_1) rfl rfl gk) ?_
  show Go _ _ _ _ s₁ (mkF m 2 #[.val (.ref a), .val (.ref va)] [(.ref va), (.ref a)])
  refine Go.by (fun _ gk => XT.iconstV X0.here hx rfl (0 : Int32) (hb hby d3_2) (by decide) gk) ?_
  show Go _ _ _ _ s₁ (mkF m 3 #[.val (.ref a), .val (.ref va)] [(.int (0 : Int32)), (.ref va), (.ref a)])
  refine Go.by (fun _ gk => XS.aloadN X0.here hx rfl (hb hby d3_3) rfl rfl gk) ?_
  show Go _ _ _ _ s₁ (mkF m 4 #[.val (.ref a), .val (.ref va)] [(.ref va), (.int (0 : Int32)), (.ref va), (.ref a)])
  obtain ⟨cl1, Ar1, -, S1, M1, -, -⟩ := id V_va
  refine Go.by (fun _ gk => X0.arraylength hx (by rw [e0]; exact Ar1.1) (State.isArrayOf_alike hZ.alike Ar1.2.1) (g := (mkF m 4 #[.val (.ref a), .val (.ref va)] [(.ref va), (.int (0 : Int32)), (.ref va), (.ref a)])) rfl rfl (hb hby d3_4) _ gk) ?_
  rw [len_of S1 M1]
  show Go _ _ _ _ s₁ (mkF m 5 #[.val (.ref a), .val (.ref va)] [(.int (2 : Int32)), (.int (0 : Int32)), (.ref va), (.ref a)])
  refine Go.by (fun _ gk => XS.aconstNull X0.here hx rfl (hb hby d3_5) gk) ?_
  show Go _ _ _ _ s₁ (mkF m 6 #[.val (.ref a), .val (.ref va)] [.null, (.int (2 : Int32)), (.int (0 : Int32)), (.ref va), (.ref a)])
  obtain ⟨_, _, ⟨T2, L2, k2, n2⟩, -, X2, ⟨Lc2, hQ2, l2, y2, z2⟩, st2⟩ := X0.specialBack hx (y := (⟨"java/lang/String", "<init>", "([CIILjava/lang/Void;)V"⟩ : MethodName)) rfl hown (mvT hZ (hw _ (List.mem_of_getElem? (i := 18) rfl))) (mvT hZ (hw _ (List.mem_of_getElem? (i := 19) rfl))) (mvT hZ (hw _ (List.mem_of_getElem? (i := 21) rfl))) (by decide) (backOf (W := 0) (rmS4_2 l Z a0 hw [] a va kv c0 c1 cs h0 n0 Z0 O0 E_a F_a_value F_a_coder g_a V_va hc0 hc1 S_cs n_cs) hZ (hw _ (List.mem_of_getElem? (i := 21) rfl)) (hw _ (List.mem_of_getElem? (i := 14) rfl)) (by decide) (by decide)) (g := (mkF m 6 #[.val (.ref a), .val (.ref va)] [.null, (.int (2 : Int32)), (.int (0 : Int32)), (.ref va), (.ref a)])) rfl (by rw [hml]; rfl) (Steps.refl _) (a := a) (argsL := [(.ref va), (.int (0 : Int32)), (.int (2 : Int32)), .null]) (rest := []) (lenOf pd_148 rfl) rfl (by show 2 * 0 + _ ≤ _; exact Nat.le_of_eq rfl) (hb hby d3_6) (fun _ _ => ⟨rfl, e0, (by decide : 0 + 1 ≤ _), (by decide : 0 + 2 ≤ _)⟩)
  dsimp only [Pt.U, Pt.locs, Pt.cells, Pt.slots] at X2 l2 y2 z2 st2 hQ2
  subst l2 y2 z2
  obtain ⟨b, kb, rfl, N2q, K2, Q2_0, Q2_1, Q2_2, Q2_3, Q2_4⟩ := hQ2
  have N2 := Fr.app N0 N2q
  refine Go.to st2 ?_
  show Go _ _ _ _ T2 (mkF m 9 #[.val (.ref a), .val (.ref va)] [])
  have ge_b : n0 ≤ b := Nat.le_trans Z0 Q2_4
  have sz_b : h0.size ≤ b := Nat.le_trans (Keep.refl h0 [a]).1 Q2_4
  have ne_a_b : a ≠ b := Nat.ne_of_lt (Nat.lt_of_lt_of_le E_a.lt Q2_4)
  have ne_va_b : va ≠ b := Nat.ne_of_lt (Nat.lt_of_lt_of_le V_va.lt Q2_4)
  have F3 : Keep h0 T2.heap [a] := (Keep.refl h0 [a]).trans K2 (allS (Or.inl (List.mem_of_getElem? (i := 0) rfl)) all0)
  exact Go.retV X2 hx Bd.notSynchronized Bd.returns (hb hby d3_9) ⟨b, kb, rfl, N2, F3, Q2_0, Q2_1, Q2_2, Q2_3, sz_b⟩ (by decide) (by decide)
theorem own_and3 (x : Int32) : x &&& 3 = 0 ∨ x &&& 3 = 1 ∨ x &&& 3 = 2 ∨ x &&& 3 = 3 := by
  have h := c_and x (3 : Int32) (by decide)
  have h3 : (3 : Int32).toInt = 3 := by decide
  have e : ∀ k : Int32, (x &&& 3).toInt = k.toInt → x &&& 3 = k := fun k q => Int32.toInt_inj.mp q
  rcases (by omega : (x &&& 3).toInt = 0 ∨ (x &&& 3).toInt = 1 ∨ (x &&& 3).toInt = 2 ∨ (x &&& 3).toInt = 3) with q | q | q | q
  · exact Or.inl (e 0 q)
  · exact Or.inr (Or.inl (e 1 q))
  · exact Or.inr (Or.inr (Or.inl (e 2 q)))
  · exact Or.inr (Or.inr (Or.inr (e 3 q)))
theorem pn_151 : plainName "com/example/attache/attache/PendingKeyResolvedPinLaw" = true := by first | (simp [plainName, overriddenIn]; done) | decide +kernel
theorem ef_152 (m : MethodId) (x0 : Int32) (x1 : Int32) : entryFrame m #[(.int x0), (.int x1)] 4 = mkF m 0 #[.val (.int x0), .val (.int x1), .unset, .unset] [] := by (first | (simp [entryFrame, mkF, argsToLocals, Value.category]; done) | rfl)
theorem d1_0 : decode method_2_code 0 = .ok (.iload_n 0, 1) := by decide +kernel
theorem d1_1 : decode method_2_code 1 = .ok (.iconst 3, 1) := by decide +kernel
theorem d1_2 : decode method_2_code 2 = .ok (.iand, 1) := by decide +kernel
theorem d1_3 : decode method_2_code 3 = .ok (.istore_n 2, 1) := by decide +kernel
theorem d1_4 : decode method_2_code 4 = .ok (.iload_n 2, 1) := by decide +kernel
theorem d1_5 : decode method_2_code 5 = .ok (.ifCond .ne 8, 3) := by decide +kernel
theorem d1_8 : decode method_2_code 8 = .ok (.iload_n 1, 1) := by decide +kernel
theorem pd_160 : parseMethodDescriptor "(I)Ljava/lang/Integer;" = some ⟨[.int], some (.object "java/lang/Integer")⟩ := by decide +kernel
theorem d1_9 : decode method_2_code 9 = .ok (.invokestatic 7, 3) := by decide +kernel
theorem d1_12 : decode method_2_code 12 = .ok (.areturn, 1) := by decide +kernel
def Q_rmMake0 (Z : State) (p0 : Int32) (p1 : Int32) (caI : Addr) (ccI : Cell) (caJ : Addr) (ccJ : Cell) (cs : Int32) (h0 : Heap) (n0 : Nat) (v : Option Value) (h : Heap) (L : List Loc) : Prop := ∃ b : Addr, v = some (.ref b) ∧ Fr n0 L ∧ Keep h0 h [] ∧ Exa Z h b "java/lang/Integer"
set_option maxRecDepth 65536 in
set_option maxHeartbeats 40000000 in
theorem rmMake0 (l : Launch) (Z : State) (a0 : Array Value) (hw : ∀ d ∈ tables_1, d.before a0 Z = true) (ws : List Jvm.Cond) (p0 : Int32) (p1 : Int32) (caI : Addr) (ccI : Cell) (caJ : Addr) (ccJ : Cell) (cs : Int32) (h0 : Heap) (n0 : Nat) (Z0 : n0 ≤ h0.size) (O0 : Old Z n0 h0) (hk : p0 &&& 3 = (0 : Int32)) (S_cacheI : Sta Z Z.heap "java/lang/Integer$IntegerCache" "cache" "[Ljava/lang/Integer;" (.ref caI)) (B_I : Bxs Z caI ccI "java/lang/Integer" "I" 256 (fun j => .int (j - 128))) (S_high : Sta Z Z.heap "java/lang/Integer$IntegerCache" "high" "I" (.int 127)) (S_cacheJ : Sta Z Z.heap "java/lang/Long$LongCache" "cache" "[Ljava/lang/Long;" (.ref caJ)) (B_J : Bxs Z caJ ccJ "java/lang/Long" "J" 256 (fun j => .long (j - 128).toInt64)) (S_cs : Sta Z Z.heap "java/lang/String" "COMPACT_STRINGS" "Z" (.int cs)) (n_cs : ¬ cs = 0) :
    MetFree l (⟨"com/example/attache/attache/PendingKeyResolvedPinLaw", "make", "(II)Ljava/lang/Object;"⟩ : MethodName) (head1 (Jvm.Cond.code (⟨"com/example/attache/attache/PendingKeyResolvedPinLaw", "make", "(II)Ljava/lang/Object;"⟩ : MethodName) method_2_code 4 (some (.object "java/lang/Object")) :: ws) ({ frames := 4, cells := 1, slots := 1, locals := 50 } : Room)) (fun as' U => as' = #[(.int p0), (.int p1)] ∧ Z.Warmed39 U.vm ∧ U.heap = h0) (fun _ _ _ _ _ => True) (fun _ U o U' => ∃ v L, o = .returned v ∧ Q_rmMake0 Z p0 p1 caI ccI caJ ccJ cs h0 n0 v U'.heap L ∧ FrameEnd U o U' L ({ frames := 4, cells := 1, slots := 1, locals := 50 } : Room).cells ({ frames := 4, cells := 1, slots := 1, locals := 50 } : Room).slots) := by
  refine MetFree.of_bodySF (plainFor_of_name pn_151) hisR ?_
  intro p e s m args below meth c s₁ Bd hml0 hP hK
  obtain ⟨rfl, hZ, hh⟩ := hP
  have hx := Bd.exec
  have hby := Bd.bytes
  have hml : c.maxLocals = 4 := hml0
  have hown : s.vm.findClass "com/example/attache/attache/PendingKeyResolvedPinLaw" = some m.cls := findClass_of_methodNamed Bd.named
  have hnm := (name_of_methodNamed Bd.named Bd.method).1
  have X0 : Stand p l e ({ frames := 4, cells := 1, slots := 1, locals := 50 } : Room) s m #[(.int p0), (.int p1)] below meth c s₁ [] 0 0 := Stand.of_body Bd
  have e0 : s₁.heap = h0 := by rw [← hh, Bd.state]; rfl
  have N0 := Fr.nil n0
  refine Go.enter (F := EndN s (Q_rmMake0 Z p0 p1 caI ccI caJ ccJ cs h0 n0) ({ frames := 4, cells := 1, slots := 1, locals := 50 } : Room).cells ({ frames := 4, cells := 1, slots := 1, locals := 50 } : Room).slots) (ef_152 m p0 p1) ?_
  show Go _ _ _ _ s₁ (mkF m 0 #[.val (.int p0), .val (.int p1), .unset, .unset] [])
  refine Go.by (fun _ gk => XS.iloadN X0.here hx rfl (hb hby d1_0) rfl gk) ?_
  show Go _ _ _ _ s₁ (mkF m 1 #[.val (.int p0), .val (.int p1), .unset, .unset] [(.int p0)])
  refine Go.by (fun _ gk => XT.iconstV X0.here hx rfl (3 : Int32) (hb hby d1_1) (by decide) gk) ?_
  show Go _ _ _ _ s₁ (mkF m 2 #[.val (.int p0), .val (.int p1), .unset, .unset] [(.int (3 : Int32)), (.int p0)])
  refine Go.by (fun _ gk => XS.iand X0.here hx rfl (hb hby d1_2) rfl gk) ?_
  show Go _ _ _ _ s₁ (mkF m 3 #[.val (.int p0), .val (.int p1), .unset, .unset] [(.int (p0 &&& (3 : Int32)))])
  refine Go.by (fun _ gk => XS.istoreN X0.here hx rfl (hb hby d1_3) rfl (l' := #[.val (.int p0), .val (.int p1), .val (.int (p0 &&& (3 : Int32))), .unset]) rfl gk) ?_
  show Go _ _ _ _ s₁ (mkF m 4 #[.val (.int p0), .val (.int p1), .val (.int (p0 &&& (3 : Int32))), .unset] [])
  rw [hk]
  show Go _ _ _ _ s₁ (mkF m 4 #[.val (.int p0), .val (.int p1), .val (.int (0 : Int32)), .unset] [])
  refine Go.by (fun _ gk => XS.iloadN X0.here hx rfl (hb hby d1_4) rfl gk) ?_
  show Go _ _ _ _ s₁ (mkF m 5 #[.val (.int p0), .val (.int p1), .val (.int (0 : Int32)), .unset] [(.int (0 : Int32))])
  refine Go.by (fun _ gk => XS.ifNo X0.here hx rfl (hb hby d1_5) rfl (XT.i0_ne_f rfl) gk) ?_
  show Go _ _ _ _ s₁ (mkF m 8 #[.val (.int p0), .val (.int p1), .val (.int (0 : Int32)), .unset] [])
  refine Go.by (fun _ gk => XS.iloadN X0.here hx rfl (hb hby d1_8) rfl gk) ?_
  show Go _ _ _ _ s₁ (mkF m 9 #[.val (.int p0), .val (.int p1), .val (.int (0 : Int32)), .unset] [(.int p1)])
  obtain ⟨_, _, ⟨T1, L1, k1, n1⟩, -, X1, ⟨Lc1, hQ1, l1, y1, z1⟩, st1⟩ := Jvm.LawKit.callS X0 hx (y := (⟨"java/lang/Integer", "valueOf", "(I)Ljava/lang/Integer;"⟩ : MethodName)) hown (mvT hZ (hw _ (List.mem_of_getElem? (i := 4) rfl))) (mvT hZ (hw _ (List.mem_of_getElem? (i := 5) rfl))) (mvT hZ (hw _ (List.mem_of_getElem? (i := 6) rfl))) (mvT hZ (hw _ (List.mem_of_getElem? (i := 7) rfl))) (by decide) (backOf (W := 0) (rmValueOfI l Z a0 hw [] p1 caI ccI h0 n0 Z0 O0 S_cacheI B_I S_high) hZ (hw _ (List.mem_of_getElem? (i := 7) rfl)) (hw _ (List.mem_of_getElem? (i := 6) rfl)) (by decide) (by decide)) (g := (mkF m 9 #[.val (.int p0), .val (.int p1), .val (.int (0 : Int32)), .unset] [(.int p1)])) rfl (by rw [hml]; rfl) (argsL := [(.int p1)]) (rest := []) (lenOf pd_160 rfl) rfl (by show 2 * 0 + _ ≤ _; exact Nat.le_of_eq rfl) (hb hby d1_9) (fun _ _ => ⟨rfl, e0, (by decide : 0 + 1 ≤ _), (by decide : 0 + 1 ≤ _)⟩)
  dsimp only [Pt.U, Pt.locs, Pt.cells, Pt.slots] at X1 l1 y1 z1 st1 hQ1
  subst l1 y1 z1
  obtain ⟨b, rfl, N1q, K1, Q1_0, Q1_1⟩ := hQ1
  have N1 := Fr.app N0 N1q
  refine Go.by st1 ?_
  show Go _ _ _ _ T1 (mkF m 12 #[.val (.int p0), .val (.int p1), .val (.int (0 : Int32)), .unset] [(.ref b)])
  have F2 : Keep h0 T1.heap [] := (Keep.refl h0 []).trans K1 all0
  exact Go.retA X1 hx Bd.notSynchronized Bd.returns rfl rfl (hb hby d1_12) ⟨b, rfl, N1, F2, Q1_0⟩ (by decide) (by decide)
theorem d1_13 : decode method_2_code 13 = .ok (.iload_n 2, 1) := by decide +kernel
theorem d1_14 : decode method_2_code 14 = .ok (.iconst 1, 1) := by decide +kernel
theorem d1_15 : decode method_2_code 15 = .ok (.if_icmp .ne 9, 3) := by decide +kernel
theorem d1_18 : decode method_2_code 18 = .ok (.iload_n 1, 1) := by decide +kernel
theorem d1_19 : decode method_2_code 19 = .ok (.i2l, 1) := by decide +kernel
theorem pd_168 : parseMethodDescriptor "(J)Ljava/lang/Long;" = some ⟨[.long], some (.object "java/lang/Long")⟩ := by decide +kernel
theorem d1_20 : decode method_2_code 20 = .ok (.invokestatic 13, 3) := by decide +kernel
theorem d1_23 : decode method_2_code 23 = .ok (.areturn, 1) := by decide +kernel
def Q_rmMake1 (Z : State) (p0 : Int32) (p1 : Int32) (caI : Addr) (ccI : Cell) (caJ : Addr) (ccJ : Cell) (cs : Int32) (h0 : Heap) (n0 : Nat) (v : Option Value) (h : Heap) (L : List Loc) : Prop := ∃ b : Addr, v = some (.ref b) ∧ Fr n0 L ∧ Keep h0 h [] ∧ Exa Z h b "java/lang/Long"
set_option maxRecDepth 65536 in
set_option maxHeartbeats 40000000 in
theorem rmMake1 (l : Launch) (Z : State) (a0 : Array Value) (hw : ∀ d ∈ tables_1, d.before a0 Z = true) (ws : List Jvm.Cond) (p0 : Int32) (p1 : Int32) (caI : Addr) (ccI : Cell) (caJ : Addr) (ccJ : Cell) (cs : Int32) (h0 : Heap) (n0 : Nat) (Z0 : n0 ≤ h0.size) (O0 : Old Z n0 h0) (hk : p0 &&& 3 = (1 : Int32)) (S_cacheI : Sta Z Z.heap "java/lang/Integer$IntegerCache" "cache" "[Ljava/lang/Integer;" (.ref caI)) (B_I : Bxs Z caI ccI "java/lang/Integer" "I" 256 (fun j => .int (j - 128))) (S_high : Sta Z Z.heap "java/lang/Integer$IntegerCache" "high" "I" (.int 127)) (S_cacheJ : Sta Z Z.heap "java/lang/Long$LongCache" "cache" "[Ljava/lang/Long;" (.ref caJ)) (B_J : Bxs Z caJ ccJ "java/lang/Long" "J" 256 (fun j => .long (j - 128).toInt64)) (S_cs : Sta Z Z.heap "java/lang/String" "COMPACT_STRINGS" "Z" (.int cs)) (n_cs : ¬ cs = 0) :
    MetFree l (⟨"com/example/attache/attache/PendingKeyResolvedPinLaw", "make", "(II)Ljava/lang/Object;"⟩ : MethodName) (head1 (Jvm.Cond.code (⟨"com/example/attache/attache/PendingKeyResolvedPinLaw", "make", "(II)Ljava/lang/Object;"⟩ : MethodName) method_2_code 4 (some (.object "java/lang/Object")) :: ws) ({ frames := 4, cells := 1, slots := 1, locals := 53 } : Room)) (fun as' U => as' = #[(.int p0), (.int p1)] ∧ Z.Warmed39 U.vm ∧ U.heap = h0) (fun _ _ _ _ _ => True) (fun _ U o U' => ∃ v L, o = .returned v ∧ Q_rmMake1 Z p0 p1 caI ccI caJ ccJ cs h0 n0 v U'.heap L ∧ FrameEnd U o U' L ({ frames := 4, cells := 1, slots := 1, locals := 53 } : Room).cells ({ frames := 4, cells := 1, slots := 1, locals := 53 } : Room).slots) := by
  refine MetFree.of_bodySF (plainFor_of_name pn_151) hisR ?_
  intro p e s m args below meth c s₁ Bd hml0 hP hK
  obtain ⟨rfl, hZ, hh⟩ := hP
  have hx := Bd.exec
  have hby := Bd.bytes
  have hml : c.maxLocals = 4 := hml0
  have hown : s.vm.findClass "com/example/attache/attache/PendingKeyResolvedPinLaw" = some m.cls := findClass_of_methodNamed Bd.named
  have hnm := (name_of_methodNamed Bd.named Bd.method).1
  have X0 : Stand p l e ({ frames := 4, cells := 1, slots := 1, locals := 53 } : Room) s m #[(.int p0), (.int p1)] below meth c s₁ [] 0 0 := Stand.of_body Bd
  have e0 : s₁.heap = h0 := by rw [← hh, Bd.state]; rfl
  have N0 := Fr.nil n0
  refine Go.enter (F := EndN s (Q_rmMake1 Z p0 p1 caI ccI caJ ccJ cs h0 n0) ({ frames := 4, cells := 1, slots := 1, locals := 53 } : Room).cells ({ frames := 4, cells := 1, slots := 1, locals := 53 } : Room).slots) (ef_152 m p0 p1) ?_
  show Go _ _ _ _ s₁ (mkF m 0 #[.val (.int p0), .val (.int p1), .unset, .unset] [])
  refine Go.by (fun _ gk => XS.iloadN X0.here hx rfl (hb hby d1_0) rfl gk) ?_
  show Go _ _ _ _ s₁ (mkF m 1 #[.val (.int p0), .val (.int p1), .unset, .unset] [(.int p0)])
  refine Go.by (fun _ gk => XT.iconstV X0.here hx rfl (3 : Int32) (hb hby d1_1) (by decide) gk) ?_
  show Go _ _ _ _ s₁ (mkF m 2 #[.val (.int p0), .val (.int p1), .unset, .unset] [(.int (3 : Int32)), (.int p0)])
  refine Go.by (fun _ gk => XS.iand X0.here hx rfl (hb hby d1_2) rfl gk) ?_
  show Go _ _ _ _ s₁ (mkF m 3 #[.val (.int p0), .val (.int p1), .unset, .unset] [(.int (p0 &&& (3 : Int32)))])
  refine Go.by (fun _ gk => XS.istoreN X0.here hx rfl (hb hby d1_3) rfl (l' := #[.val (.int p0), .val (.int p1), .val (.int (p0 &&& (3 : Int32))), .unset]) rfl gk) ?_
  show Go _ _ _ _ s₁ (mkF m 4 #[.val (.int p0), .val (.int p1), .val (.int (p0 &&& (3 : Int32))), .unset] [])
  rw [hk]
  show Go _ _ _ _ s₁ (mkF m 4 #[.val (.int p0), .val (.int p1), .val (.int (1 : Int32)), .unset] [])
  refine Go.by (fun _ gk => XS.iloadN X0.here hx rfl (hb hby d1_4) rfl gk) ?_
  show Go _ _ _ _ s₁ (mkF m 5 #[.val (.int p0), .val (.int p1), .val (.int (1 : Int32)), .unset] [(.int (1 : Int32))])
  refine Go.by (fun _ gk => XS.ifYes X0.here hx rfl (pc0 := 5) (pc' := 13) rfl (hb hby d1_5) rfl (XT.i0_ne_t (by decide)) (by decide) (by decide) gk) ?_
  show Go _ _ _ _ s₁ (mkF m 13 #[.val (.int p0), .val (.int p1), .val (.int (1 : Int32)), .unset] [])
  refine Go.by (fun _ gk => XS.iloadN X0.here hx rfl (hb hby d1_13) rfl gk) ?_
  show Go _ _ _ _ s₁ (mkF m 14 #[.val (.int p0), .val (.int p1), .val (.int (1 : Int32)), .unset] [(.int (1 : Int32))])
  refine Go.by (fun _ gk => XT.iconstV X0.here hx rfl (1 : Int32) (hb hby d1_14) (by decide) gk) ?_
  show Go _ _ _ _ s₁ (mkF m 15 #[.val (.int p0), .val (.int p1), .val (.int (1 : Int32)), .unset] [(.int (1 : Int32)), (.int (1 : Int32))])
  refine Go.by (fun _ gk => XS.icmpNo X0.here hx rfl (hb hby d1_15) rfl (XT.ii_ne_f rfl) gk) ?_
  show Go _ _ _ _ s₁ (mkF m 18 #[.val (.int p0), .val (.int p1), .val (.int (1 : Int32)), .unset] [])
  refine Go.by (fun _ gk => XS.iloadN X0.here hx rfl (hb hby d1_18) rfl gk) ?_
  show Go _ _ _ _ s₁ (mkF m 19 #[.val (.int p0), .val (.int p1), .val (.int (1 : Int32)), .unset] [(.int p1)])
  refine Go.by (fun _ gk => XT.i2l X0.here hx rfl (hb hby d1_19) rfl gk) ?_
  show Go _ _ _ _ s₁ (mkF m 20 #[.val (.int p0), .val (.int p1), .val (.int (1 : Int32)), .unset] [(.long (p1.toInt64))])
  obtain ⟨_, _, ⟨T1, L1, k1, n1⟩, -, X1, ⟨Lc1, hQ1, l1, y1, z1⟩, st1⟩ := Jvm.LawKit.callS X0 hx (y := (⟨"java/lang/Long", "valueOf", "(J)Ljava/lang/Long;"⟩ : MethodName)) hown (mvT hZ (hw _ (List.mem_of_getElem? (i := 84) rfl))) (mvT hZ (hw _ (List.mem_of_getElem? (i := 85) rfl))) (mvT hZ (hw _ (List.mem_of_getElem? (i := 86) rfl))) (mvT hZ (hw _ (List.mem_of_getElem? (i := 87) rfl))) (by decide) (backOf (W := 0) (rmValueOfJ l Z a0 hw [] (p1.toInt64) caJ ccJ h0 n0 Z0 O0 S_cacheJ B_J) hZ (hw _ (List.mem_of_getElem? (i := 87) rfl)) (hw _ (List.mem_of_getElem? (i := 86) rfl)) (by decide) (by decide)) (g := (mkF m 20 #[.val (.int p0), .val (.int p1), .val (.int (1 : Int32)), .unset] [(.long (p1.toInt64))])) rfl (by rw [hml]; rfl) (argsL := [(.long (p1.toInt64))]) (rest := []) (lenOf pd_168 rfl) rfl (by show 2 * 0 + _ ≤ _; exact Nat.le_of_eq rfl) (hb hby d1_20) (fun _ _ => ⟨rfl, e0, (by decide : 0 + 1 ≤ _), (by decide : 0 + 1 ≤ _)⟩)
  dsimp only [Pt.U, Pt.locs, Pt.cells, Pt.slots] at X1 l1 y1 z1 st1 hQ1
  subst l1 y1 z1
  obtain ⟨b, rfl, N1q, K1, Q1_0⟩ := hQ1
  have N1 := Fr.app N0 N1q
  refine Go.by st1 ?_
  show Go _ _ _ _ T1 (mkF m 23 #[.val (.int p0), .val (.int p1), .val (.int (1 : Int32)), .unset] [(.ref b)])
  have F2 : Keep h0 T1.heap [] := (Keep.refl h0 []).trans K1 all0
  exact Go.retA X1 hx Bd.notSynchronized Bd.returns rfl rfl (hb hby d1_23) ⟨b, rfl, N1, F2, Q1_0⟩ (by decide) (by decide)
theorem d1_24 : decode method_2_code 24 = .ok (.iload_n 2, 1) := by decide +kernel
theorem d1_25 : decode method_2_code 25 = .ok (.iconst 2, 1) := by decide +kernel
theorem d1_26 : decode method_2_code 26 = .ok (.if_icmp .ne 37, 3) := by decide +kernel
theorem d1_29 : decode method_2_code 29 = .ok (.iconst 2, 1) := by decide +kernel
theorem d1_30 : decode method_2_code 30 = .ok (.newarray .char, 2) := by decide +kernel
theorem d1_32 : decode method_2_code 32 = .ok (.astore_n 3, 1) := by decide +kernel
theorem d1_33 : decode method_2_code 33 = .ok (.aload_n 3, 1) := by decide +kernel
theorem d1_34 : decode method_2_code 34 = .ok (.iconst 0, 1) := by decide +kernel
theorem d1_35 : decode method_2_code 35 = .ok (.iload_n 1, 1) := by decide +kernel
theorem d1_36 : decode method_2_code 36 = .ok (.sipush 255, 3) := by decide +kernel
theorem d1_39 : decode method_2_code 39 = .ok (.iand, 1) := by decide +kernel
theorem d1_40 : decode method_2_code 40 = .ok (.i2c, 1) := by decide +kernel
theorem d1_41 : decode method_2_code 41 = .ok (.castore, 1) := by decide +kernel
theorem d1_42 : decode method_2_code 42 = .ok (.aload_n 3, 1) := by decide +kernel
theorem d1_43 : decode method_2_code 43 = .ok (.iconst 1, 1) := by decide +kernel
theorem d1_44 : decode method_2_code 44 = .ok (.iload_n 1, 1) := by decide +kernel
theorem d1_45 : decode method_2_code 45 = .ok (.bipush 8, 2) := by decide +kernel
theorem d1_47 : decode method_2_code 47 = .ok (.iushr, 1) := by decide +kernel
theorem d1_48 : decode method_2_code 48 = .ok (.sipush 255, 3) := by decide +kernel
theorem d1_51 : decode method_2_code 51 = .ok (.iand, 1) := by decide +kernel
theorem d1_52 : decode method_2_code 52 = .ok (.i2c, 1) := by decide +kernel
theorem d1_53 : decode method_2_code 53 = .ok (.castore, 1) := by decide +kernel
theorem d1_54 : decode method_2_code 54 = .ok (.new 18, 3) := by decide +kernel
theorem d1_57 : decode method_2_code 57 = .ok (.dup, 1) := by decide +kernel
theorem d1_58 : decode method_2_code 58 = .ok (.aload_n 3, 1) := by decide +kernel
theorem pd_196 : parseMethodDescriptor "([C)V" = some ⟨[(.array .char)], none⟩ := by decide +kernel
theorem d1_59 : decode method_2_code 59 = .ok (.invokespecial 20, 3) := by decide +kernel
theorem d1_62 : decode method_2_code 62 = .ok (.areturn, 1) := by decide +kernel
def Q_rmMake2 (Z : State) (p0 : Int32) (p1 : Int32) (caI : Addr) (ccI : Cell) (caJ : Addr) (ccJ : Cell) (cs : Int32) (h0 : Heap) (n0 : Nat) (v : Option Value) (h : Heap) (L : List Loc) : Prop := ∃ b : Addr, v = some (.ref b) ∧ Fr n0 L ∧ Keep h0 h [] ∧ Exa Z h b "java/lang/String"
set_option maxRecDepth 65536 in
set_option maxHeartbeats 40000000 in
theorem rmMake2 (l : Launch) (Z : State) (a0 : Array Value) (hw : ∀ d ∈ tables_1, d.before a0 Z = true) (ws : List Jvm.Cond) (p0 : Int32) (p1 : Int32) (caI : Addr) (ccI : Cell) (caJ : Addr) (ccJ : Cell) (cs : Int32) (h0 : Heap) (n0 : Nat) (Z0 : n0 ≤ h0.size) (O0 : Old Z n0 h0) (hk : p0 &&& 3 = (2 : Int32)) (S_cacheI : Sta Z Z.heap "java/lang/Integer$IntegerCache" "cache" "[Ljava/lang/Integer;" (.ref caI)) (B_I : Bxs Z caI ccI "java/lang/Integer" "I" 256 (fun j => .int (j - 128))) (S_high : Sta Z Z.heap "java/lang/Integer$IntegerCache" "high" "I" (.int 127)) (S_cacheJ : Sta Z Z.heap "java/lang/Long$LongCache" "cache" "[Ljava/lang/Long;" (.ref caJ)) (B_J : Bxs Z caJ ccJ "java/lang/Long" "J" 256 (fun j => .long (j - 128).toInt64)) (S_cs : Sta Z Z.heap "java/lang/String" "COMPACT_STRINGS" "Z" (.int cs)) (n_cs : ¬ cs = 0) :
    MetFree l (⟨"com/example/attache/attache/PendingKeyResolvedPinLaw", "make", "(II)Ljava/lang/Object;"⟩ : MethodName) (head1 (Jvm.Cond.code (⟨"com/example/attache/attache/PendingKeyResolvedPinLaw", "make", "(II)Ljava/lang/Object;"⟩ : MethodName) method_2_code 4 (some (.object "java/lang/Object")) :: ws) ({ frames := 4, cells := 3, slots := 8, locals := 66 } : Room)) (fun as' U => as' = #[(.int p0), (.int p1)] ∧ Z.Warmed39 U.vm ∧ U.heap = h0) (fun _ _ _ _ _ => True) (fun _ U o U' => ∃ v L, o = .returned v ∧ Q_rmMake2 Z p0 p1 caI ccI caJ ccJ cs h0 n0 v U'.heap L ∧ FrameEnd U o U' L ({ frames := 4, cells := 3, slots := 8, locals := 66 } : Room).cells ({ frames := 4, cells := 3, slots := 8, locals := 66 } : Room).slots) := by
  refine MetFree.of_bodySF (plainFor_of_name pn_151) hisR ?_
  intro p e s m args below meth c s₁ Bd hml0 hP hK
  obtain ⟨rfl, hZ, hh⟩ := hP
  have hx := Bd.exec
  have hby := Bd.bytes
  have hml : c.maxLocals = 4 := hml0
  have hown : s.vm.findClass "com/example/attache/attache/PendingKeyResolvedPinLaw" = some m.cls := findClass_of_methodNamed Bd.named
  have hnm := (name_of_methodNamed Bd.named Bd.method).1
  have X0 : Stand p l e ({ frames := 4, cells := 3, slots := 8, locals := 66 } : Room) s m #[(.int p0), (.int p1)] below meth c s₁ [] 0 0 := Stand.of_body Bd
  have e0 : s₁.heap = h0 := by rw [← hh, Bd.state]; rfl
  have N0 := Fr.nil n0
  refine Go.enter (F := EndN s (Q_rmMake2 Z p0 p1 caI ccI caJ ccJ cs h0 n0) ({ frames := 4, cells := 3, slots := 8, locals := 66 } : Room).cells ({ frames := 4, cells := 3, slots := 8, locals := 66 } : Room).slots) (ef_152 m p0 p1) ?_
  show Go _ _ _ _ s₁ (mkF m 0 #[.val (.int p0), .val (.int p1), .unset, .unset] [])
  refine Go.by (fun _ gk => XS.iloadN X0.here hx rfl (hb hby d1_0) rfl gk) ?_
  show Go _ _ _ _ s₁ (mkF m 1 #[.val (.int p0), .val (.int p1), .unset, .unset] [(.int p0)])
  refine Go.by (fun _ gk => XT.iconstV X0.here hx rfl (3 : Int32) (hb hby d1_1) (by decide) gk) ?_
  show Go _ _ _ _ s₁ (mkF m 2 #[.val (.int p0), .val (.int p1), .unset, .unset] [(.int (3 : Int32)), (.int p0)])
  refine Go.by (fun _ gk => XS.iand X0.here hx rfl (hb hby d1_2) rfl gk) ?_
  show Go _ _ _ _ s₁ (mkF m 3 #[.val (.int p0), .val (.int p1), .unset, .unset] [(.int (p0 &&& (3 : Int32)))])
  refine Go.by (fun _ gk => XS.istoreN X0.here hx rfl (hb hby d1_3) rfl (l' := #[.val (.int p0), .val (.int p1), .val (.int (p0 &&& (3 : Int32))), .unset]) rfl gk) ?_
  show Go _ _ _ _ s₁ (mkF m 4 #[.val (.int p0), .val (.int p1), .val (.int (p0 &&& (3 : Int32))), .unset] [])
  rw [hk]
  show Go _ _ _ _ s₁ (mkF m 4 #[.val (.int p0), .val (.int p1), .val (.int (2 : Int32)), .unset] [])
  refine Go.by (fun _ gk => XS.iloadN X0.here hx rfl (hb hby d1_4) rfl gk) ?_
  show Go _ _ _ _ s₁ (mkF m 5 #[.val (.int p0), .val (.int p1), .val (.int (2 : Int32)), .unset] [(.int (2 : Int32))])
  refine Go.by (fun _ gk => XS.ifYes X0.here hx rfl (pc0 := 5) (pc' := 13) rfl (hb hby d1_5) rfl (XT.i0_ne_t (by decide)) (by decide) (by decide) gk) ?_
  show Go _ _ _ _ s₁ (mkF m 13 #[.val (.int p0), .val (.int p1), .val (.int (2 : Int32)), .unset] [])
  refine Go.by (fun _ gk => XS.iloadN X0.here hx rfl (hb hby d1_13) rfl gk) ?_
  show Go _ _ _ _ s₁ (mkF m 14 #[.val (.int p0), .val (.int p1), .val (.int (2 : Int32)), .unset] [(.int (2 : Int32))])
  refine Go.by (fun _ gk => XT.iconstV X0.here hx rfl (1 : Int32) (hb hby d1_14) (by decide) gk) ?_
  show Go _ _ _ _ s₁ (mkF m 15 #[.val (.int p0), .val (.int p1), .val (.int (2 : Int32)), .unset] [(.int (1 : Int32)), (.int (2 : Int32))])
  refine Go.by (fun _ gk => XS.icmpYes X0.here hx rfl (pc0 := 15) (pc' := 24) rfl (hb hby d1_15) rfl (XT.ii_ne_t (by decide)) (by decide) (by decide) gk) ?_
  show Go _ _ _ _ s₁ (mkF m 24 #[.val (.int p0), .val (.int p1), .val (.int (2 : Int32)), .unset] [])
  refine Go.by (fun _ gk => XS.iloadN X0.here hx rfl (hb hby d1_24) rfl gk) ?_
  show Go _ _ _ _ s₁ (mkF m 25 #[.val (.int p0), .val (.int p1), .val (.int (2 : Int32)), .unset] [(.int (2 : Int32))])
  refine Go.by (fun _ gk => XT.iconstV X0.here hx rfl (2 : Int32) (hb hby d1_25) (by decide) gk) ?_
  show Go _ _ _ _ s₁ (mkF m 26 #[.val (.int p0), .val (.int p1), .val (.int (2 : Int32)), .unset] [(.int (2 : Int32)), (.int (2 : Int32))])
  refine Go.by (fun _ gk => XS.icmpNo X0.here hx rfl (hb hby d1_26) rfl (XT.ii_ne_f rfl) gk) ?_
  show Go _ _ _ _ s₁ (mkF m 29 #[.val (.int p0), .val (.int p1), .val (.int (2 : Int32)), .unset] [])
  refine Go.by (fun _ gk => XT.iconstV X0.here hx rfl (2 : Int32) (hb hby d1_29) (by decide) gk) ?_
  show Go _ _ _ _ s₁ (mkF m 30 #[.val (.int p0), .val (.int p1), .val (.int (2 : Int32)), .unset] [(.int (2 : Int32))])
  obtain ⟨cs_, g1⟩ : ∃ z, z = h0.size := ⟨_, rfl⟩
  have ge_cs_ : n0 ≤ cs_ := Nat.le_trans Z0 (Nat.le_of_eq g1.symm)
  have sz_cs_ : h0.size ≤ cs_ := Nat.le_trans (Keep.refl h0 []).1 (Nat.le_of_eq g1.symm)
  obtain ⟨T1, h1, k1, X1, e1, E1, A1, Ea1, st1⟩ := newPE X0 hx hZ (hw _ (List.mem_of_getElem? (i := 11) rfl)) e0 (g := (mkF m 30 #[.val (.int p0), .val (.int p1), .val (.int (2 : Int32)), .unset] [(.int (2 : Int32))])) rfl (hb hby d1_30) rfl (by decide) (cap := 2) (by decide) (by decide) (by decide) (by decide) (ad := "[C") rfl
  rw [← g1] at A1 Ea1 st1
  have V_cs_ : Arv Z h1 cs_ k1 .char (2 : Int32) [(.int (0 : Int32)), (.int (0 : Int32))] (.int (0 : Int32)) := (Arv.new A1 (by decide)).pad (pad_rep [] (.int (0 : Int32)) 2)
  refine Go.by st1 ?_
  show Go _ _ _ _ T1 (mkF m 32 #[.val (.int p0), .val (.int p1), .val (.int (2 : Int32)), .unset] [(.ref cs_)])
  refine Go.by (fun _ gk => XS.astoreN X1.here hx rfl (hb hby d1_32) rfl rfl (l' := #[.val (.int p0), .val (.int p1), .val (.int (2 : Int32)), .val (.ref cs_)]) rfl gk) ?_
  show Go _ _ _ _ T1 (mkF m 33 #[.val (.int p0), .val (.int p1), .val (.int (2 : Int32)), .val (.ref cs_)] [])
  refine Go.by (fun _ gk => XS.aloadN X1.here hx rfl (hb hby d1_33) rfl rfl gk) ?_
  show Go _ _ _ _ T1 (mkF m 34 #[.val (.int p0), .val (.int p1), .val (.int (2 : Int32)), .val (.ref cs_)] [(.ref cs_)])
  refine Go.by (fun _ gk => XT.iconstV X1.here hx rfl (0 : Int32) (hb hby d1_34) (by decide) gk) ?_
  show Go _ _ _ _ T1 (mkF m 35 #[.val (.int p0), .val (.int p1), .val (.int (2 : Int32)), .val (.ref cs_)] [(.int (0 : Int32)), (.ref cs_)])
  refine Go.by (fun _ gk => XS.iloadN X1.here hx rfl (hb hby d1_35) rfl gk) ?_
  show Go _ _ _ _ T1 (mkF m 36 #[.val (.int p0), .val (.int p1), .val (.int (2 : Int32)), .val (.ref cs_)] [(.int p1), (.int (0 : Int32)), (.ref cs_)])
  refine Go.by (fun _ gk => XT.sipushV X1.here hx rfl (255 : Int32) (hb hby d1_36) (by decide) gk) ?_
  show Go _ _ _ _ T1 (mkF m 39 #[.val (.int p0), .val (.int p1), .val (.int (2 : Int32)), .val (.ref cs_)] [(.int (255 : Int32)), (.int p1), (.int (0 : Int32)), (.ref cs_)])
  refine Go.by (fun _ gk => XS.iand X1.here hx rfl (hb hby d1_39) rfl gk) ?_
  show Go _ _ _ _ T1 (mkF m 40 #[.val (.int p0), .val (.int p1), .val (.int (2 : Int32)), .val (.ref cs_)] [(.int (p1 &&& (255 : Int32))), (.int (0 : Int32)), (.ref cs_)])
  refine Go.by (fun _ gk => XT.i2c X1.here hx rfl (hb hby d1_40) rfl gk) ?_
  show Go _ _ _ _ T1 (mkF m 41 #[.val (.int p0), .val (.int p1), .val (.int (2 : Int32)), .val (.ref cs_)] [(.int ((p1 &&& (255 : Int32)).toUInt32.toUInt16.toUInt32.toInt32)), (.int (0 : Int32)), (.ref cs_)])
  rw [i2c_mask]
  show Go _ _ _ _ T1 (mkF m 41 #[.val (.int p0), .val (.int p1), .val (.int (2 : Int32)), .val (.ref cs_)] [(.int (p1 &&& (255 : Int32))), (.int (0 : Int32)), (.ref cs_)])
  obtain ⟨cl2, Ar2, q2, S2, M2, H2, G2⟩ := id V_cs_
  have hin2 : ¬ ((0 : Int32) < 0 ∨ cl2.slots.size ≤ (0 : Int32).toNatClampNeg) := inb_of S2 ⟨by decide, by decide⟩
  obtain ⟨T2, h2, X2, e2, W2, st2⟩ := stC X1 hx hZ e1 Ar2 (j := (0 : Int32)) hin2 (g := (mkF m 41 #[.val (.int p0), .val (.int p1), .val (.int (2 : Int32)), .val (.ref cs_)] [(.int (p1 &&& (255 : Int32))), (.int (0 : Int32)), (.ref cs_)])) rfl rfl (hb hby d1_41)
  have N2 := Fr.snoc X2 N0 ge_cs_
  have V2 : Arv Z h2 cs_ k1 .char (2 : Int32) [(.int (nar .char (p1 &&& (255 : Int32)))), (.int (0 : Int32))] (.int (0 : Int32)) := Arv.set Ar2 q2 S2 M2 H2 G2 (fits_nar_char _) W2 0 rfl (Nat.le_of_ble_eq_true rfl)
  refine Go.by st2 ?_
  show Go _ _ _ _ T2 (mkF m 42 #[.val (.int p0), .val (.int p1), .val (.int (2 : Int32)), .val (.ref cs_)] [])
  rw [own_nc] at V2
  refine Go.by (fun _ gk => XS.aloadN X2.here hx rfl (hb hby d1_42) rfl rfl gk) ?_
  show Go _ _ _ _ T2 (mkF m 43 #[.val (.int p0), .val (.int p1), .val (.int (2 : Int32)), .val (.ref cs_)] [(.ref cs_)])
  refine Go.by (fun _ gk => XT.iconstV X2.here hx rfl (1 : Int32) (hb hby d1_43) (by decide) gk) ?_
  show Go _ _ _ _ T2 (mkF m 44 #[.val (.int p0), .val (.int p1), .val (.int (2 : Int32)), .val (.ref cs_)] [(.int (1 : Int32)), (.ref cs_)])
  refine Go.by (fun _ gk => XS.iloadN X2.here hx rfl (hb hby d1_44) rfl gk) ?_
  show Go _ _ _ _ T2 (mkF m 45 #[.val (.int p0), .val (.int p1), .val (.int (2 : Int32)), .val (.ref cs_)] [(.int p1), (.int (1 : Int32)), (.ref cs_)])
  refine Go.by (fun _ gk => XT.bipushV X2.here hx rfl (8 : Int32) (hb hby d1_45) (by decide) gk) ?_
  show Go _ _ _ _ T2 (mkF m 47 #[.val (.int p0), .val (.int p1), .val (.int (2 : Int32)), .val (.ref cs_)] [(.int (8 : Int32)), (.int p1), (.int (1 : Int32)), (.ref cs_)])
  refine Go.by (fun _ gk => XT.iushr X2.here hx rfl (hb hby d1_47) rfl gk) ?_
  show Go _ _ _ _ T2 (mkF m 48 #[.val (.int p0), .val (.int p1), .val (.int (2 : Int32)), .val (.ref cs_)] [(.int (XT.ushr p1 (8 : Int32))), (.int (1 : Int32)), (.ref cs_)])
  refine Go.by (fun _ gk => XT.sipushV X2.here hx rfl (255 : Int32) (hb hby d1_48) (by decide) gk) ?_
  show Go _ _ _ _ T2 (mkF m 51 #[.val (.int p0), .val (.int p1), .val (.int (2 : Int32)), .val (.ref cs_)] [(.int (255 : Int32)), (.int (XT.ushr p1 (8 : Int32))), (.int (1 : Int32)), (.ref cs_)])
  refine Go.by (fun _ gk => XS.iand X2.here hx rfl (hb hby d1_51) rfl gk) ?_
  show Go _ _ _ _ T2 (mkF m 52 #[.val (.int p0), .val (.int p1), .val (.int (2 : Int32)), .val (.ref cs_)] [(.int ((XT.ushr p1 (8 : Int32)) &&& (255 : Int32))), (.int (1 : Int32)), (.ref cs_)])
  refine Go.by (fun _ gk => XT.i2c X2.here hx rfl (hb hby d1_52) rfl gk) ?_
  show Go _ _ _ _ T2 (mkF m 53 #[.val (.int p0), .val (.int p1), .val (.int (2 : Int32)), .val (.ref cs_)] [(.int (((XT.ushr p1 (8 : Int32)) &&& (255 : Int32)).toUInt32.toUInt16.toUInt32.toInt32)), (.int (1 : Int32)), (.ref cs_)])
  rw [i2c_mask]
  show Go _ _ _ _ T2 (mkF m 53 #[.val (.int p0), .val (.int p1), .val (.int (2 : Int32)), .val (.ref cs_)] [(.int ((XT.ushr p1 (8 : Int32)) &&& (255 : Int32))), (.int (1 : Int32)), (.ref cs_)])
  obtain ⟨cl3, Ar3, q3, S3, M3, H3, G3⟩ := id V2
  have hin3 : ¬ ((1 : Int32) < 0 ∨ cl3.slots.size ≤ (1 : Int32).toNatClampNeg) := inb_of S3 ⟨by decide, by decide⟩
  obtain ⟨T3, h3, X3, e3, W3, st3⟩ := stC X2 hx hZ e2 Ar3 (j := (1 : Int32)) hin3 (g := (mkF m 53 #[.val (.int p0), .val (.int p1), .val (.int (2 : Int32)), .val (.ref cs_)] [(.int ((XT.ushr p1 (8 : Int32)) &&& (255 : Int32))), (.int (1 : Int32)), (.ref cs_)])) rfl rfl (hb hby d1_53)
  have N3 := Fr.snoc X3 N2 ge_cs_
  have V3 : Arv Z h3 cs_ k1 .char (2 : Int32) [(.int (p1 &&& (255 : Int32))), (.int (nar .char ((XT.ushr p1 (8 : Int32)) &&& (255 : Int32))))] (.int (0 : Int32)) := Arv.set Ar3 q3 S3 M3 H3 G3 (fits_nar_char _) W3 1 rfl (Nat.le_of_ble_eq_true rfl)
  refine Go.by st3 ?_
  show Go _ _ _ _ T3 (mkF m 54 #[.val (.int p0), .val (.int p1), .val (.int (2 : Int32)), .val (.ref cs_)] [])
  rw [own_nc] at V3
  have F5 : n0 ≤ h1.size := Nat.le_trans Z0 E1.1
  have F6 : n0 ≤ h2.size := Nat.le_trans F5 (Nat.le_of_eq (Wr.size W2).symm)
  have F7 : n0 ≤ h3.size := Nat.le_trans F6 (Nat.le_of_eq (Wr.size W3).symm)
  obtain ⟨b, g4⟩ : ∃ z, z = h3.size := ⟨_, rfl⟩
  have ge_b : n0 ≤ b := Nat.le_trans F7 (Nat.le_of_eq g4.symm)
  have F8 : Keep h0 h1 [] := (Keep.refl h0 []).ext E1
  have F9 : Keep h0 h2 [] := F8.wr W2 (Or.inr sz_cs_)
  have F10 : Keep h0 h3 [] := F9.wr W3 (Or.inr sz_cs_)
  have sz_b : h0.size ≤ b := Nat.le_trans F10.1 (Nat.le_of_eq g4.symm)
  have F11 : Exa Z h2 cs_ "[C" := Ea1.wr W2
  have F12 : Exa Z h3 cs_ "[C" := F11.wr W3
  have ne_cs__b : cs_ ≠ b := Nat.ne_of_lt (Nat.lt_of_lt_of_le F12.lt (Nat.le_of_eq g4.symm))
  obtain ⟨T4, h4, X4, e4, E4, A4, D4, -, st4⟩ := newO X3 hx hZ hown (hw _ (List.mem_of_getElem? (i := 12) rfl)) (hw _ (List.mem_of_getElem? (i := 13) rfl)) (hw _ (List.mem_of_getElem? (i := 14) rfl)) e3 (g := (mkF m 54 #[.val (.int p0), .val (.int p1), .val (.int (2 : Int32)), .val (.ref cs_)] [])) rfl (hb hby d1_54) (by decide) (by decide)
  rw [← g4] at A4 D4 st4
  have F_coder_b : Fld Z h4 b "java/lang/String" "coder" "B" (.int (0 : Int32)) := D4 (Or.inr (hw _ (List.mem_of_getElem? (i := 38) rfl))) (ty := .byte) (by decide)
  have F_value_b : Fld Z h4 b "java/lang/String" "value" "[B" .null := D4 (Or.inr (hw _ (List.mem_of_getElem? (i := 40) rfl))) (ty := (.array .byte)) (by decide)
  refine Go.by st4 ?_
  show Go _ _ _ _ T4 (mkF m 57 #[.val (.int p0), .val (.int p1), .val (.int (2 : Int32)), .val (.ref cs_)] [(.ref b)])
  refine Go.by (fun _ gk => XS.dup X4.here hx rfl (hb hby d1_57) rfl rfl gk) ?_
  show Go _ _ _ _ T4 (mkF m 58 #[.val (.int p0), .val (.int p1), .val (.int (2 : Int32)), .val (.ref cs_)] [(.ref b), (.ref b)])
  refine Go.by (fun _ gk => XS.aloadN X4.here hx rfl (hb hby d1_58) rfl rfl gk) ?_
  show Go _ _ _ _ T4 (mkF m 59 #[.val (.int p0), .val (.int p1), .val (.int (2 : Int32)), .val (.ref cs_)] [(.ref cs_), (.ref b), (.ref b)])
  have F13 : Old Z n0 h1 := O0.ext E1
  have F14 : Old Z n0 h2 := F13.wr W2 ge_cs_
  have F15 : Old Z n0 h3 := F14.wr W3 ge_cs_
  have F16 : Old Z n0 h4 := F15.ext E4
  have F17 : Arv Z h4 cs_ k1 .char (2 : Int32) [(.int (p1 &&& (255 : Int32))), (.int ((XT.ushr p1 (8 : Int32)) &&& (255 : Int32)))] (.int (0 : Int32)) := V3.ext E4
  have F18 : n0 ≤ h4.size := Nat.le_trans F7 E4.1
  have F19 : Keep h0 h4 [] := F10.ext E4
  have F20 : Exa Z h4 cs_ "[C" := F12.ext E4
  obtain ⟨_, _, ⟨T21, L21, k21, n21⟩, -, X21, ⟨Lc21, hQ21, l21, y21, z21⟩, st21⟩ := X4.specialBack hx (y := (⟨"java/lang/String", "<init>", "([C)V"⟩ : MethodName)) rfl hown (mvT hZ (hw _ (List.mem_of_getElem? (i := 15) rfl))) (mvT hZ (hw _ (List.mem_of_getElem? (i := 16) rfl))) (mvT hZ (hw _ (List.mem_of_getElem? (i := 17) rfl))) (by decide) (backOf (W := 1) (rmS1_2 l Z a0 hw [] b cs_ k1 (p1 &&& (255 : Int32)) ((XT.ushr p1 (8 : Int32)) &&& (255 : Int32)) cs h4 n0 F18 F16 A4 F_value_b F_coder_b ge_b F17 (own_255 _) (own_255 _) S_cs n_cs) hZ (hw _ (List.mem_of_getElem? (i := 17) rfl)) (hw _ (List.mem_of_getElem? (i := 14) rfl)) (by decide) (by decide)) (g := (mkF m 59 #[.val (.int p0), .val (.int p1), .val (.int (2 : Int32)), .val (.ref cs_)] [(.ref cs_), (.ref b), (.ref b)])) rfl (by rw [hml]; rfl) (Steps.refl _) (a := b) (argsL := [(.ref cs_)]) (rest := [(.ref b)]) (lenOf pd_196 rfl) rfl (by show 2 * 0 + _ ≤ _; exact Nat.le_of_eq rfl) (hb hby d1_59) (fun _ _ => ⟨rfl, e4, (by decide : 2 + 1 ≤ _), (by decide : 6 + 2 ≤ _)⟩)
  dsimp only [Pt.U, Pt.locs, Pt.cells, Pt.slots] at X21 l21 y21 z21 st21 hQ21
  subst l21 y21 z21
  obtain ⟨b_21, kb_21, rfl, N21q, K21, Q21_0, Q21_1, Q21_2, Q21_3, Q21_4⟩ := hQ21
  have N21 := Fr.app N3 N21q
  refine Go.to st21 ?_
  show Go _ _ _ _ T21 (mkF m 62 #[.val (.int p0), .val (.int p1), .val (.int (2 : Int32)), .val (.ref cs_)] [(.ref b)])
  have ge_b_21 : n0 ≤ b_21 := Nat.le_trans F18 Q21_4
  have sz_b_21 : h0.size ≤ b_21 := Nat.le_trans F19.1 Q21_4
  have ne_b_b_21 : b ≠ b_21 := Nat.ne_of_lt (Nat.lt_of_lt_of_le A4.lt Q21_4)
  have ne_cs__b_21 : cs_ ≠ b_21 := Nat.ne_of_lt (Nat.lt_of_lt_of_le F17.lt Q21_4)
  have F22 : Keep h0 T21.heap [] := F19.trans K21 (allS (Or.inr sz_b) all0)
  exact Go.retA X21 hx Bd.notSynchronized Bd.returns rfl rfl (hb hby d1_62) ⟨b, rfl, N21, F22, Q21_0⟩ (by decide) (by decide)
theorem d1_63 : decode method_2_code 63 = .ok (.aconst_null, 1) := by decide +kernel
theorem d1_64 : decode method_2_code 64 = .ok (.areturn, 1) := by decide +kernel
def Q_rmMake3 (Z : State) (p0 : Int32) (p1 : Int32) (caI : Addr) (ccI : Cell) (caJ : Addr) (ccJ : Cell) (cs : Int32) (h0 : Heap) (n0 : Nat) (v : Option Value) (h : Heap) (L : List Loc) : Prop := v = some .null ∧ Fr n0 L ∧ Keep h0 h []
set_option maxRecDepth 65536 in
set_option maxHeartbeats 40000000 in
theorem rmMake3 (l : Launch) (Z : State) (a0 : Array Value) (hw : ∀ d ∈ tables_1, d.before a0 Z = true) (ws : List Jvm.Cond) (p0 : Int32) (p1 : Int32) (caI : Addr) (ccI : Cell) (caJ : Addr) (ccJ : Cell) (cs : Int32) (h0 : Heap) (n0 : Nat) (Z0 : n0 ≤ h0.size) (O0 : Old Z n0 h0) (hk : p0 &&& 3 = (3 : Int32)) (S_cacheI : Sta Z Z.heap "java/lang/Integer$IntegerCache" "cache" "[Ljava/lang/Integer;" (.ref caI)) (B_I : Bxs Z caI ccI "java/lang/Integer" "I" 256 (fun j => .int (j - 128))) (S_high : Sta Z Z.heap "java/lang/Integer$IntegerCache" "high" "I" (.int 127)) (S_cacheJ : Sta Z Z.heap "java/lang/Long$LongCache" "cache" "[Ljava/lang/Long;" (.ref caJ)) (B_J : Bxs Z caJ ccJ "java/lang/Long" "J" 256 (fun j => .long (j - 128).toInt64)) (S_cs : Sta Z Z.heap "java/lang/String" "COMPACT_STRINGS" "Z" (.int cs)) (n_cs : ¬ cs = 0) :
    MetFree l (⟨"com/example/attache/attache/PendingKeyResolvedPinLaw", "make", "(II)Ljava/lang/Object;"⟩ : MethodName) (head1 (Jvm.Cond.code (⟨"com/example/attache/attache/PendingKeyResolvedPinLaw", "make", "(II)Ljava/lang/Object;"⟩ : MethodName) method_2_code 4 (some (.object "java/lang/Object")) :: ws) ({ frames := 0, cells := 0, slots := 0, locals := 0 } : Room)) (fun as' U => as' = #[(.int p0), (.int p1)] ∧ Z.Warmed39 U.vm ∧ U.heap = h0) (fun _ _ _ _ _ => True) (fun _ U o U' => ∃ v L, o = .returned v ∧ Q_rmMake3 Z p0 p1 caI ccI caJ ccJ cs h0 n0 v U'.heap L ∧ FrameEnd U o U' L ({ frames := 0, cells := 0, slots := 0, locals := 0 } : Room).cells ({ frames := 0, cells := 0, slots := 0, locals := 0 } : Room).slots) := by
  refine MetFree.of_bodySF (plainFor_of_name pn_151) hisR ?_
  intro p e s m args below meth c s₁ Bd hml0 hP hK
  obtain ⟨rfl, hZ, hh⟩ := hP
  have hx := Bd.exec
  have hby := Bd.bytes
  have hml : c.maxLocals = 4 := hml0
  have hown : s.vm.findClass "com/example/attache/attache/PendingKeyResolvedPinLaw" = some m.cls := findClass_of_methodNamed Bd.named
  have hnm := (name_of_methodNamed Bd.named Bd.method).1
  have X0 : Stand p l e ({ frames := 0, cells := 0, slots := 0, locals := 0 } : Room) s m #[(.int p0), (.int p1)] below meth c s₁ [] 0 0 := Stand.of_body Bd
  have e0 : s₁.heap = h0 := by rw [← hh, Bd.state]; rfl
  have N0 := Fr.nil n0
  refine Go.enter (F := EndN s (Q_rmMake3 Z p0 p1 caI ccI caJ ccJ cs h0 n0) ({ frames := 0, cells := 0, slots := 0, locals := 0 } : Room).cells ({ frames := 0, cells := 0, slots := 0, locals := 0 } : Room).slots) (ef_152 m p0 p1) ?_
  show Go _ _ _ _ s₁ (mkF m 0 #[.val (.int p0), .val (.int p1), .unset, .unset] [])
  refine Go.by (fun _ gk => XS.iloadN X0.here hx rfl (hb hby d1_0) rfl gk) ?_
  show Go _ _ _ _ s₁ (mkF m 1 #[.val (.int p0), .val (.int p1), .unset, .unset] [(.int p0)])
  refine Go.by (fun _ gk => XT.iconstV X0.here hx rfl (3 : Int32) (hb hby d1_1) (by decide) gk) ?_
  show Go _ _ _ _ s₁ (mkF m 2 #[.val (.int p0), .val (.int p1), .unset, .unset] [(.int (3 : Int32)), (.int p0)])
  refine Go.by (fun _ gk => XS.iand X0.here hx rfl (hb hby d1_2) rfl gk) ?_
  show Go _ _ _ _ s₁ (mkF m 3 #[.val (.int p0), .val (.int p1), .unset, .unset] [(.int (p0 &&& (3 : Int32)))])
  refine Go.by (fun _ gk => XS.istoreN X0.here hx rfl (hb hby d1_3) rfl (l' := #[.val (.int p0), .val (.int p1), .val (.int (p0 &&& (3 : Int32))), .unset]) rfl gk) ?_
  show Go _ _ _ _ s₁ (mkF m 4 #[.val (.int p0), .val (.int p1), .val (.int (p0 &&& (3 : Int32))), .unset] [])
  rw [hk]
  show Go _ _ _ _ s₁ (mkF m 4 #[.val (.int p0), .val (.int p1), .val (.int (3 : Int32)), .unset] [])
  refine Go.by (fun _ gk => XS.iloadN X0.here hx rfl (hb hby d1_4) rfl gk) ?_
  show Go _ _ _ _ s₁ (mkF m 5 #[.val (.int p0), .val (.int p1), .val (.int (3 : Int32)), .unset] [(.int (3 : Int32))])
  refine Go.by (fun _ gk => XS.ifYes X0.here hx rfl (pc0 := 5) (pc' := 13) rfl (hb hby d1_5) rfl (XT.i0_ne_t (by decide)) (by decide) (by decide) gk) ?_
  show Go _ _ _ _ s₁ (mkF m 13 #[.val (.int p0), .val (.int p1), .val (.int (3 : Int32)), .unset] [])
  refine Go.by (fun _ gk => XS.iloadN X0.here hx rfl (hb hby d1_13) rfl gk) ?_
  show Go _ _ _ _ s₁ (mkF m 14 #[.val (.int p0), .val (.int p1), .val (.int (3 : Int32)), .unset] [(.int (3 : Int32))])
  refine Go.by (fun _ gk => XT.iconstV X0.here hx rfl (1 : Int32) (hb hby d1_14) (by decide) gk) ?_
  show Go _ _ _ _ s₁ (mkF m 15 #[.val (.int p0), .val (.int p1), .val (.int (3 : Int32)), .unset] [(.int (1 : Int32)), (.int (3 : Int32))])
  refine Go.by (fun _ gk => XS.icmpYes X0.here hx rfl (pc0 := 15) (pc' := 24) rfl (hb hby d1_15) rfl (XT.ii_ne_t (by decide)) (by decide) (by decide) gk) ?_
  show Go _ _ _ _ s₁ (mkF m 24 #[.val (.int p0), .val (.int p1), .val (.int (3 : Int32)), .unset] [])
  refine Go.by (fun _ gk => XS.iloadN X0.here hx rfl (hb hby d1_24) rfl gk) ?_
  show Go _ _ _ _ s₁ (mkF m 25 #[.val (.int p0), .val (.int p1), .val (.int (3 : Int32)), .unset] [(.int (3 : Int32))])
  refine Go.by (fun _ gk => XT.iconstV X0.here hx rfl (2 : Int32) (hb hby d1_25) (by decide) gk) ?_
  show Go _ _ _ _ s₁ (mkF m 26 #[.val (.int p0), .val (.int p1), .val (.int (3 : Int32)), .unset] [(.int (2 : Int32)), (.int (3 : Int32))])
  refine Go.by (fun _ gk => XS.icmpYes X0.here hx rfl (pc0 := 26) (pc' := 63) rfl (hb hby d1_26) rfl (XT.ii_ne_t (by decide)) (by decide) (by decide) gk) ?_
  show Go _ _ _ _ s₁ (mkF m 63 #[.val (.int p0), .val (.int p1), .val (.int (3 : Int32)), .unset] [])
  refine Go.by (fun _ gk => XS.aconstNull X0.here hx rfl (hb hby d1_63) gk) ?_
  show Go _ _ _ _ s₁ (mkF m 64 #[.val (.int p0), .val (.int p1), .val (.int (3 : Int32)), .unset] [.null])
  exact Go.retA X0 hx Bd.notSynchronized Bd.returns rfl rfl (hb hby d1_64) (by rw [e0]; exact ⟨rfl, N0, (Keep.refl h0 [])⟩) (by decide) (by decide)
theorem pn_201 : plainName "com/example/attache/attache/PendingKey" = true := by first | (simp [plainName, overriddenIn]; done) | decide +kernel
theorem d9_0 : decode prog_1_method_1_code 0 = .ok (.aload_n 0, 1) := by decide +kernel
theorem d9_1 : decode prog_1_method_1_code 1 = .ok (.invokespecial 1, 3) := by decide +kernel
theorem d9_4 : decode prog_1_method_1_code 4 = .ok (.return_, 1) := by decide +kernel
def Q_rmPinit (Z : State) (a : Addr) (h0 : Heap) (n0 : Nat) (v : Option Value) (h : Heap) (L : List Loc) : Prop := v = none ∧ Fr n0 L ∧ h = h0
set_option maxRecDepth 65536 in
set_option maxHeartbeats 40000000 in
theorem rmPinit (l : Launch) (Z : State) (a0 : Array Value) (hw : ∀ d ∈ tables_1, d.before a0 Z = true) (ws : List Jvm.Cond) (a : Addr) (h0 : Heap) (n0 : Nat) (Z0 : n0 ≤ h0.size)  :
    MetFree l (⟨"com/example/attache/attache/PendingKey", "<init>", "()V"⟩ : MethodName) (head1 (Jvm.Cond.code (⟨"com/example/attache/attache/PendingKey", "<init>", "()V"⟩ : MethodName) prog_1_method_1_code 1 none :: ws) ({ frames := 1, cells := 0, slots := 0, locals := 12 } : Room)) (fun as' U => as' = #[(.ref a)] ∧ Z.Warmed39 U.vm ∧ U.heap = h0) (fun _ _ _ _ _ => True) (fun _ U o U' => ∃ v L, o = .returned v ∧ Q_rmPinit Z a h0 n0 v U'.heap L ∧ FrameEnd U o U' L ({ frames := 1, cells := 0, slots := 0, locals := 12 } : Room).cells ({ frames := 1, cells := 0, slots := 0, locals := 12 } : Room).slots) := by
  refine MetFree.of_bodySF (plainFor_of_name pn_201) hisR ?_
  intro p e s m args below meth c s₁ Bd hml0 hP hK
  obtain ⟨rfl, hZ, hh⟩ := hP
  have hx := Bd.exec
  have hby := Bd.bytes
  have hml : c.maxLocals = 1 := hml0
  have hown : s.vm.findClass "com/example/attache/attache/PendingKey" = some m.cls := findClass_of_methodNamed Bd.named
  have hnm := (name_of_methodNamed Bd.named Bd.method).1
  have X0 : Stand p l e ({ frames := 1, cells := 0, slots := 0, locals := 12 } : Room) s m #[(.ref a)] below meth c s₁ [] 0 0 := Stand.of_body Bd
  have e0 : s₁.heap = h0 := by rw [← hh, Bd.state]; rfl
  have N0 := Fr.nil n0
  refine Go.enter (F := EndN s (Q_rmPinit Z a h0 n0) ({ frames := 1, cells := 0, slots := 0, locals := 12 } : Room).cells ({ frames := 1, cells := 0, slots := 0, locals := 12 } : Room).slots) (ef_3 m a) ?_
  show Go _ _ _ _ s₁ (mkF m 0 #[.val (.ref a)] [])
  refine Go.by (fun _ gk => XS.aloadN X0.here hx rfl (hb hby d9_0) rfl rfl gk) ?_
  show Go _ _ _ _ s₁ (mkF m 1 #[.val (.ref a)] [(.ref a)])
  obtain ⟨T1, X1, e1, st1⟩ := initO X0 hx hZ hown (hw _ (List.mem_of_getElem? (i := 47) rfl)) (hw _ (List.mem_of_getElem? (i := 23) rfl)) (hw _ (List.mem_of_getElem? (i := 24) rfl)) e0 (g := (mkF m 1 #[.val (.ref a)] [(.ref a)])) rfl (by rw [hml]; rfl) rfl (hb hby d9_1) (by decide) (W := 0) (by show 2 * 0 + _ ≤ _; exact Nat.le_of_eq rfl) (by decide)
  refine Go.by st1 ?_
  show Go _ _ _ _ T1 (mkF m 4 #[.val (.ref a)] [])
  exact Go.retV X1 hx Bd.notSynchronized Bd.returns (hb hby d9_4) (by rw [e1]; exact ⟨rfl, N0, rfl⟩) (by decide) (by decide)
theorem d10_0 : decode prog_1_method_3_code 0 = .ok (.aload_n 0, 1) := by decide +kernel
theorem d10_1 : decode prog_1_method_3_code 1 = .ok (.aload_n 1, 1) := by decide +kernel
theorem d10_2 : decode prog_1_method_3_code 2 = .ok (.putfield 7, 3) := by decide +kernel
theorem d10_5 : decode prog_1_method_3_code 5 = .ok (.return_, 1) := by decide +kernel
def Q_rmPut (Z : State) (a : Addr) (b : Addr) (u : Value) (h0 : Heap) (n0 : Nat) (v : Option Value) (h : Heap) (L : List Loc) : Prop := v = none ∧ Fr n0 L ∧ Keep h0 h [a] ∧ Exa Z h a "com/example/attache/attache/PendingKey" ∧ Fld Z h a "com/example/attache/attache/PendingKey" "generated" "Ljava/lang/Object;" (.ref b)
set_option maxRecDepth 65536 in
set_option maxHeartbeats 40000000 in
theorem rmPut (l : Launch) (Z : State) (a0 : Array Value) (hw : ∀ d ∈ tables_1, d.before a0 Z = true) (ws : List Jvm.Cond) (a : Addr) (b : Addr) (u : Value) (h0 : Heap) (n0 : Nat) (Z0 : n0 ≤ h0.size) (E_a : Exa Z h0 a "com/example/attache/attache/PendingKey") (F_a_generated : Fld Z h0 a "com/example/attache/attache/PendingKey" "generated" "Ljava/lang/Object;" u) (g_a : n0 ≤ a) :
    MetFree l (⟨"com/example/attache/attache/PendingKey", "generated", "(Ljava/lang/Object;)V"⟩ : MethodName) (head1 (Jvm.Cond.code (⟨"com/example/attache/attache/PendingKey", "generated", "(Ljava/lang/Object;)V"⟩ : MethodName) prog_1_method_3_code 2 none :: ws) ({ frames := 0, cells := 0, slots := 0, locals := 0 } : Room)) (fun as' U => as' = #[(.ref a), (.ref b)] ∧ Z.Warmed39 U.vm ∧ U.heap = h0) (fun _ _ _ _ _ => True) (fun _ U o U' => ∃ v L, o = .returned v ∧ Q_rmPut Z a b u h0 n0 v U'.heap L ∧ FrameEnd U o U' L ({ frames := 0, cells := 0, slots := 0, locals := 0 } : Room).cells ({ frames := 0, cells := 0, slots := 0, locals := 0 } : Room).slots) := by
  refine MetFree.of_bodySF (plainFor_of_name pn_201) hisR ?_
  intro p e s m args below meth c s₁ Bd hml0 hP hK
  obtain ⟨rfl, hZ, hh⟩ := hP
  have hx := Bd.exec
  have hby := Bd.bytes
  have hml : c.maxLocals = 2 := hml0
  have hown : s.vm.findClass "com/example/attache/attache/PendingKey" = some m.cls := findClass_of_methodNamed Bd.named
  have hnm := (name_of_methodNamed Bd.named Bd.method).1
  have X0 : Stand p l e ({ frames := 0, cells := 0, slots := 0, locals := 0 } : Room) s m #[(.ref a), (.ref b)] below meth c s₁ [] 0 0 := Stand.of_body Bd
  have e0 : s₁.heap = h0 := by rw [← hh, Bd.state]; rfl
  have N0 := Fr.nil n0
  refine Go.enter (F := EndN s (Q_rmPut Z a b u h0 n0) ({ frames := 0, cells := 0, slots := 0, locals := 0 } : Room).cells ({ frames := 0, cells := 0, slots := 0, locals := 0 } : Room).slots) (ef_141 m a b) ?_
  show Go _ _ _ _ s₁ (mkF m 0 #[.val (.ref a), .val (.ref b)] [])
  refine Go.by (fun _ gk => XS.aloadN X0.here hx rfl (hb hby d10_0) rfl rfl gk) ?_
  show Go _ _ _ _ s₁ (mkF m 1 #[.val (.ref a), .val (.ref b)] [(.ref a)])
  refine Go.by (fun _ gk => XS.aloadN X0.here hx rfl (hb hby d10_1) rfl rfl gk) ?_
  show Go _ _ _ _ s₁ (mkF m 2 #[.val (.ref a), .val (.ref b)] [(.ref b), (.ref a)])
  obtain ⟨T1, h1, X1, e1, W1, st1⟩ := putF X0 hx hZ hown (host := "") (Or.inl (hw _ (List.mem_of_getElem? (i := 53) rfl))) Via.refl e0 F_a_generated E_a (Or.inl (hw _ (List.mem_of_getElem? (i := 54) rfl))) (hw _ (List.mem_of_getElem? (i := 42) rfl)) (ty := (.object "java/lang/Object")) (by decide) rfl rfl (g := (mkF m 2 #[.val (.ref a), .val (.ref b)] [(.ref b), (.ref a)])) rfl rfl (hb hby d10_2)
  have N1 := Fr.snoc X1 N0 g_a
  have Fw1 : Fld Z h1 a "com/example/attache/attache/PendingKey" "generated" "Ljava/lang/Object;" (.ref b) := F_a_generated.same W1
  refine Go.by st1 ?_
  show Go _ _ _ _ T1 (mkF m 5 #[.val (.ref a), .val (.ref b)] [])
  have F2 : Keep h0 h1 [a] := (Keep.refl h0 [a]).wr W1 (Or.inl (List.mem_of_getElem? (i := 0) rfl))
  have F3 : Exa Z h1 a "com/example/attache/attache/PendingKey" := E_a.wr W1
  exact Go.retV X1 hx Bd.notSynchronized Bd.returns (hb hby d10_5) (by rw [e1]; exact ⟨rfl, N1, F2, F3, Fw1⟩) (by decide) (by decide)
theorem d12_0 : decode prog_1_method_2_code 0 = .ok (.aload_n 0, 1) := by decide +kernel
theorem d12_1 : decode prog_1_method_2_code 1 = .ok (.getfield 7, 3) := by decide +kernel
theorem d12_4 : decode prog_1_method_2_code 4 = .ok (.ifnonnull 13, 3) := by decide +kernel
theorem d12_17 : decode prog_1_method_2_code 17 = .ok (.aload_n 0, 1) := by decide +kernel
theorem d12_18 : decode prog_1_method_2_code 18 = .ok (.getfield 7, 3) := by decide +kernel
theorem d12_21 : decode prog_1_method_2_code 21 = .ok (.areturn, 1) := by decide +kernel
def Q_rmGet (Z : State) (a : Addr) (b : Addr) (h0 : Heap) (n0 : Nat) (v : Option Value) (h : Heap) (L : List Loc) : Prop := v = some (.ref b) ∧ Fr n0 L ∧ h = h0
set_option maxRecDepth 65536 in
set_option maxHeartbeats 40000000 in
theorem rmGet (l : Launch) (Z : State) (a0 : Array Value) (hw : ∀ d ∈ tables_1, d.before a0 Z = true) (ws : List Jvm.Cond) (a : Addr) (b : Addr) (h0 : Heap) (n0 : Nat) (Z0 : n0 ≤ h0.size) (F_a_generated : Fld Z h0 a "com/example/attache/attache/PendingKey" "generated" "Ljava/lang/Object;" (.ref b)) :
    MetFree l (⟨"com/example/attache/attache/PendingKey", "generated", "()Ljava/lang/Object;"⟩ : MethodName) (head1 (Jvm.Cond.code (⟨"com/example/attache/attache/PendingKey", "generated", "()Ljava/lang/Object;"⟩ : MethodName) prog_1_method_2_code 1 (some (.object "java/lang/Object")) :: ws) ({ frames := 0, cells := 0, slots := 0, locals := 0 } : Room)) (fun as' U => as' = #[(.ref a)] ∧ Z.Warmed39 U.vm ∧ U.heap = h0) (fun _ _ _ _ _ => True) (fun _ U o U' => ∃ v L, o = .returned v ∧ Q_rmGet Z a b h0 n0 v U'.heap L ∧ FrameEnd U o U' L ({ frames := 0, cells := 0, slots := 0, locals := 0 } : Room).cells ({ frames := 0, cells := 0, slots := 0, locals := 0 } : Room).slots) := by
  refine MetFree.of_bodySF (plainFor_of_name pn_201) hisR ?_
  intro p e s m args below meth c s₁ Bd hml0 hP hK
  obtain ⟨rfl, hZ, hh⟩ := hP
  have hx := Bd.exec
  have hby := Bd.bytes
  have hml : c.maxLocals = 1 := hml0
  have hown : s.vm.findClass "com/example/attache/attache/PendingKey" = some m.cls := findClass_of_methodNamed Bd.named
  have hnm := (name_of_methodNamed Bd.named Bd.method).1
  have X0 : Stand p l e ({ frames := 0, cells := 0, slots := 0, locals := 0 } : Room) s m #[(.ref a)] below meth c s₁ [] 0 0 := Stand.of_body Bd
  have e0 : s₁.heap = h0 := by rw [← hh, Bd.state]; rfl
  have N0 := Fr.nil n0
  refine Go.enter (F := EndN s (Q_rmGet Z a b h0 n0) ({ frames := 0, cells := 0, slots := 0, locals := 0 } : Room).cells ({ frames := 0, cells := 0, slots := 0, locals := 0 } : Room).slots) (ef_3 m a) ?_
  show Go _ _ _ _ s₁ (mkF m 0 #[.val (.ref a)] [])
  refine Go.by (fun _ gk => XS.aloadN X0.here hx rfl (hb hby d12_0) rfl rfl gk) ?_
  show Go _ _ _ _ s₁ (mkF m 1 #[.val (.ref a)] [(.ref a)])
  obtain ⟨T1, X1, e1, st1⟩ := getF X0 hx hZ hown (host := "") (Or.inl (hw _ (List.mem_of_getElem? (i := 53) rfl))) Via.refl e0 F_a_generated (g := (mkF m 1 #[.val (.ref a)] [(.ref a)])) rfl rfl (hb hby d12_1)
  refine Go.by st1 ?_
  show Go _ _ _ _ T1 (mkF m 4 #[.val (.ref a)] [(.ref b)])
  refine Go.by (fun _ gk => XT.nonnullYes X1.here hx rfl (pc0 := 4) (pc' := 17) rfl (hb hby d12_4) rfl rfl nofun (by decide) (by decide) gk) ?_
  show Go _ _ _ _ T1 (mkF m 17 #[.val (.ref a)] [])
  refine Go.by (fun _ gk => XS.aloadN X1.here hx rfl (hb hby d12_17) rfl rfl gk) ?_
  show Go _ _ _ _ T1 (mkF m 18 #[.val (.ref a)] [(.ref a)])
  obtain ⟨T2, X2, e2, st2⟩ := getF X1 hx hZ hown (host := "") (Or.inl (hw _ (List.mem_of_getElem? (i := 53) rfl))) Via.refl e1 F_a_generated (g := (mkF m 18 #[.val (.ref a)] [(.ref a)])) rfl rfl (hb hby d12_18)
  refine Go.by st2 ?_
  show Go _ _ _ _ T2 (mkF m 21 #[.val (.ref a)] [(.ref b)])
  exact Go.retA X2 hx Bd.notSynchronized Bd.returns rfl rfl (hb hby d12_21) (by rw [e2]; exact ⟨rfl, N0, rfl⟩) (by decide) (by decide)
theorem ef_215 (m : MethodId) (x0 : Addr) : entryFrame m #[(.ref x0)] 2 = mkF m 0 #[.val (.ref x0), .unset] [] := by (first | (simp [entryFrame, mkF, argsToLocals, Value.category]; done) | rfl)
theorem d11_0 : decode prog_1_method_4_code 0 = .ok (.aload_n 0, 1) := by decide +kernel
theorem d11_1 : decode prog_1_method_4_code 1 = .ok (.instanceof 8, 3) := by decide +kernel
theorem d11_4 : decode prog_1_method_4_code 4 = .ok (.ifCond .eq 15, 3) := by decide +kernel
theorem d11_19 : decode prog_1_method_4_code 19 = .ok (.aload_n 0, 1) := by decide +kernel
theorem d11_20 : decode prog_1_method_4_code 20 = .ok (.areturn, 1) := by decide +kernel
def Q_rmRes0 (Z : State) (a : Addr) (h0 : Heap) (n0 : Nat) (v : Option Value) (h : Heap) (L : List Loc) : Prop := v = some (.ref a) ∧ Fr n0 L ∧ h = h0
set_option maxRecDepth 65536 in
set_option maxHeartbeats 40000000 in
theorem rmRes0 (l : Launch) (Z : State) (a0 : Array Value) (hw : ∀ d ∈ tables_1, d.before a0 Z = true) (ws : List Jvm.Cond) (a : Addr) (h0 : Heap) (n0 : Nat) (Z0 : n0 ≤ h0.size) (E_a : Exa Z h0 a "java/lang/Integer") :
    MetFree l (⟨"com/example/attache/attache/PendingKey", "resolved", "(Ljava/lang/Object;)Ljava/lang/Object;"⟩ : MethodName) (head1 (Jvm.Cond.code (⟨"com/example/attache/attache/PendingKey", "resolved", "(Ljava/lang/Object;)Ljava/lang/Object;"⟩ : MethodName) prog_1_method_4_code 2 (some (.object "java/lang/Object")) :: ws) ({ frames := 0, cells := 0, slots := 0, locals := 0 } : Room)) (fun as' U => as' = #[(.ref a)] ∧ Z.Warmed39 U.vm ∧ U.heap = h0) (fun _ _ _ _ _ => True) (fun _ U o U' => ∃ v L, o = .returned v ∧ Q_rmRes0 Z a h0 n0 v U'.heap L ∧ FrameEnd U o U' L ({ frames := 0, cells := 0, slots := 0, locals := 0 } : Room).cells ({ frames := 0, cells := 0, slots := 0, locals := 0 } : Room).slots) := by
  refine MetFree.of_bodySF (plainFor_of_name pn_201) hisR ?_
  intro p e s m args below meth c s₁ Bd hml0 hP hK
  obtain ⟨rfl, hZ, hh⟩ := hP
  have hx := Bd.exec
  have hby := Bd.bytes
  have hml : c.maxLocals = 2 := hml0
  have hown : s.vm.findClass "com/example/attache/attache/PendingKey" = some m.cls := findClass_of_methodNamed Bd.named
  have hnm := (name_of_methodNamed Bd.named Bd.method).1
  have X0 : Stand p l e ({ frames := 0, cells := 0, slots := 0, locals := 0 } : Room) s m #[(.ref a)] below meth c s₁ [] 0 0 := Stand.of_body Bd
  have e0 : s₁.heap = h0 := by rw [← hh, Bd.state]; rfl
  have N0 := Fr.nil n0
  refine Go.enter (F := EndN s (Q_rmRes0 Z a h0 n0) ({ frames := 0, cells := 0, slots := 0, locals := 0 } : Room).cells ({ frames := 0, cells := 0, slots := 0, locals := 0 } : Room).slots) (ef_215 m a) ?_
  show Go _ _ _ _ s₁ (mkF m 0 #[.val (.ref a), .unset] [])
  refine Go.by (fun _ gk => XS.aloadN X0.here hx rfl (hb hby d11_0) rfl rfl gk) ?_
  show Go _ _ _ _ s₁ (mkF m 1 #[.val (.ref a), .unset] [(.ref a)])
  obtain ⟨T1, X1, e1, st1⟩ := instNo X0 hx hZ hown (hw _ (List.mem_of_getElem? (i := 58) rfl)) e0 E_a (own_ns_no (hw _ (List.mem_of_getElem? (i := 59) rfl)) (hw _ (List.mem_of_getElem? (i := 42) rfl)) (NS.step (hw _ (List.mem_of_getElem? (i := 59) rfl)) (NS.step (hw _ (List.mem_of_getElem? (i := 60) rfl)) (own_ns_root (hw _ (List.mem_of_getElem? (i := 61) rfl)) (hw _ (List.mem_of_getElem? (i := 42) rfl)) (by decide)) (by decide)) (by decide)) (by decide)) (g := (mkF m 1 #[.val (.ref a), .unset] [(.ref a)])) rfl rfl (hb hby d11_1)
  refine Go.by st1 ?_
  show Go _ _ _ _ T1 (mkF m 4 #[.val (.ref a), .unset] [(.int (0 : Int32))])
  refine Go.by (fun _ gk => XS.ifYes X1.here hx rfl (pc0 := 4) (pc' := 19) rfl (hb hby d11_4) rfl (XT.i0_eq_t rfl) (by decide) (by decide) gk) ?_
  show Go _ _ _ _ T1 (mkF m 19 #[.val (.ref a), .unset] [])
  refine Go.by (fun _ gk => XS.aloadN X1.here hx rfl (hb hby d11_19) rfl rfl gk) ?_
  show Go _ _ _ _ T1 (mkF m 20 #[.val (.ref a), .unset] [(.ref a)])
  exact Go.retA X1 hx Bd.notSynchronized Bd.returns rfl rfl (hb hby d11_20) (by rw [e1]; exact ⟨rfl, N0, rfl⟩) (by decide) (by decide)
def Q_rmRes1 (Z : State) (a : Addr) (h0 : Heap) (n0 : Nat) (v : Option Value) (h : Heap) (L : List Loc) : Prop := v = some (.ref a) ∧ Fr n0 L ∧ h = h0
set_option maxRecDepth 65536 in
set_option maxHeartbeats 40000000 in
theorem rmRes1 (l : Launch) (Z : State) (a0 : Array Value) (hw : ∀ d ∈ tables_1, d.before a0 Z = true) (ws : List Jvm.Cond) (a : Addr) (h0 : Heap) (n0 : Nat) (Z0 : n0 ≤ h0.size) (E_a : Exa Z h0 a "java/lang/Long") :
    MetFree l (⟨"com/example/attache/attache/PendingKey", "resolved", "(Ljava/lang/Object;)Ljava/lang/Object;"⟩ : MethodName) (head1 (Jvm.Cond.code (⟨"com/example/attache/attache/PendingKey", "resolved", "(Ljava/lang/Object;)Ljava/lang/Object;"⟩ : MethodName) prog_1_method_4_code 2 (some (.object "java/lang/Object")) :: ws) ({ frames := 0, cells := 0, slots := 0, locals := 0 } : Room)) (fun as' U => as' = #[(.ref a)] ∧ Z.Warmed39 U.vm ∧ U.heap = h0) (fun _ _ _ _ _ => True) (fun _ U o U' => ∃ v L, o = .returned v ∧ Q_rmRes1 Z a h0 n0 v U'.heap L ∧ FrameEnd U o U' L ({ frames := 0, cells := 0, slots := 0, locals := 0 } : Room).cells ({ frames := 0, cells := 0, slots := 0, locals := 0 } : Room).slots) := by
  refine MetFree.of_bodySF (plainFor_of_name pn_201) hisR ?_
  intro p e s m args below meth c s₁ Bd hml0 hP hK
  obtain ⟨rfl, hZ, hh⟩ := hP
  have hx := Bd.exec
  have hby := Bd.bytes
  have hml : c.maxLocals = 2 := hml0
  have hown : s.vm.findClass "com/example/attache/attache/PendingKey" = some m.cls := findClass_of_methodNamed Bd.named
  have hnm := (name_of_methodNamed Bd.named Bd.method).1
  have X0 : Stand p l e ({ frames := 0, cells := 0, slots := 0, locals := 0 } : Room) s m #[(.ref a)] below meth c s₁ [] 0 0 := Stand.of_body Bd
  have e0 : s₁.heap = h0 := by rw [← hh, Bd.state]; rfl
  have N0 := Fr.nil n0
  refine Go.enter (F := EndN s (Q_rmRes1 Z a h0 n0) ({ frames := 0, cells := 0, slots := 0, locals := 0 } : Room).cells ({ frames := 0, cells := 0, slots := 0, locals := 0 } : Room).slots) (ef_215 m a) ?_
  show Go _ _ _ _ s₁ (mkF m 0 #[.val (.ref a), .unset] [])
  refine Go.by (fun _ gk => XS.aloadN X0.here hx rfl (hb hby d11_0) rfl rfl gk) ?_
  show Go _ _ _ _ s₁ (mkF m 1 #[.val (.ref a), .unset] [(.ref a)])
  obtain ⟨T1, X1, e1, st1⟩ := instNo X0 hx hZ hown (hw _ (List.mem_of_getElem? (i := 58) rfl)) e0 E_a (own_ns_no (hw _ (List.mem_of_getElem? (i := 92) rfl)) (hw _ (List.mem_of_getElem? (i := 42) rfl)) (NS.step (hw _ (List.mem_of_getElem? (i := 92) rfl)) (NS.step (hw _ (List.mem_of_getElem? (i := 60) rfl)) (own_ns_root (hw _ (List.mem_of_getElem? (i := 61) rfl)) (hw _ (List.mem_of_getElem? (i := 42) rfl)) (by decide)) (by decide)) (by decide)) (by decide)) (g := (mkF m 1 #[.val (.ref a), .unset] [(.ref a)])) rfl rfl (hb hby d11_1)
  refine Go.by st1 ?_
  show Go _ _ _ _ T1 (mkF m 4 #[.val (.ref a), .unset] [(.int (0 : Int32))])
  refine Go.by (fun _ gk => XS.ifYes X1.here hx rfl (pc0 := 4) (pc' := 19) rfl (hb hby d11_4) rfl (XT.i0_eq_t rfl) (by decide) (by decide) gk) ?_
  show Go _ _ _ _ T1 (mkF m 19 #[.val (.ref a), .unset] [])
  refine Go.by (fun _ gk => XS.aloadN X1.here hx rfl (hb hby d11_19) rfl rfl gk) ?_
  show Go _ _ _ _ T1 (mkF m 20 #[.val (.ref a), .unset] [(.ref a)])
  exact Go.retA X1 hx Bd.notSynchronized Bd.returns rfl rfl (hb hby d11_20) (by rw [e1]; exact ⟨rfl, N0, rfl⟩) (by decide) (by decide)
def Q_rmRes2 (Z : State) (a : Addr) (h0 : Heap) (n0 : Nat) (v : Option Value) (h : Heap) (L : List Loc) : Prop := v = some (.ref a) ∧ Fr n0 L ∧ h = h0
set_option maxRecDepth 65536 in
set_option maxHeartbeats 40000000 in
theorem rmRes2 (l : Launch) (Z : State) (a0 : Array Value) (hw : ∀ d ∈ tables_1, d.before a0 Z = true) (ws : List Jvm.Cond) (a : Addr) (h0 : Heap) (n0 : Nat) (Z0 : n0 ≤ h0.size) (E_a : Exa Z h0 a "java/lang/String") :
    MetFree l (⟨"com/example/attache/attache/PendingKey", "resolved", "(Ljava/lang/Object;)Ljava/lang/Object;"⟩ : MethodName) (head1 (Jvm.Cond.code (⟨"com/example/attache/attache/PendingKey", "resolved", "(Ljava/lang/Object;)Ljava/lang/Object;"⟩ : MethodName) prog_1_method_4_code 2 (some (.object "java/lang/Object")) :: ws) ({ frames := 0, cells := 0, slots := 0, locals := 0 } : Room)) (fun as' U => as' = #[(.ref a)] ∧ Z.Warmed39 U.vm ∧ U.heap = h0) (fun _ _ _ _ _ => True) (fun _ U o U' => ∃ v L, o = .returned v ∧ Q_rmRes2 Z a h0 n0 v U'.heap L ∧ FrameEnd U o U' L ({ frames := 0, cells := 0, slots := 0, locals := 0 } : Room).cells ({ frames := 0, cells := 0, slots := 0, locals := 0 } : Room).slots) := by
  refine MetFree.of_bodySF (plainFor_of_name pn_201) hisR ?_
  intro p e s m args below meth c s₁ Bd hml0 hP hK
  obtain ⟨rfl, hZ, hh⟩ := hP
  have hx := Bd.exec
  have hby := Bd.bytes
  have hml : c.maxLocals = 2 := hml0
  have hown : s.vm.findClass "com/example/attache/attache/PendingKey" = some m.cls := findClass_of_methodNamed Bd.named
  have hnm := (name_of_methodNamed Bd.named Bd.method).1
  have X0 : Stand p l e ({ frames := 0, cells := 0, slots := 0, locals := 0 } : Room) s m #[(.ref a)] below meth c s₁ [] 0 0 := Stand.of_body Bd
  have e0 : s₁.heap = h0 := by rw [← hh, Bd.state]; rfl
  have N0 := Fr.nil n0
  refine Go.enter (F := EndN s (Q_rmRes2 Z a h0 n0) ({ frames := 0, cells := 0, slots := 0, locals := 0 } : Room).cells ({ frames := 0, cells := 0, slots := 0, locals := 0 } : Room).slots) (ef_215 m a) ?_
  show Go _ _ _ _ s₁ (mkF m 0 #[.val (.ref a), .unset] [])
  refine Go.by (fun _ gk => XS.aloadN X0.here hx rfl (hb hby d11_0) rfl rfl gk) ?_
  show Go _ _ _ _ s₁ (mkF m 1 #[.val (.ref a), .unset] [(.ref a)])
  obtain ⟨T1, X1, e1, st1⟩ := instNo X0 hx hZ hown (hw _ (List.mem_of_getElem? (i := 58) rfl)) e0 E_a (own_ns_no (hw _ (List.mem_of_getElem? (i := 83) rfl)) (hw _ (List.mem_of_getElem? (i := 42) rfl)) (NS.step (hw _ (List.mem_of_getElem? (i := 83) rfl)) (own_ns_root (hw _ (List.mem_of_getElem? (i := 61) rfl)) (hw _ (List.mem_of_getElem? (i := 42) rfl)) (by decide)) (by decide)) (by decide)) (g := (mkF m 1 #[.val (.ref a), .unset] [(.ref a)])) rfl rfl (hb hby d11_1)
  refine Go.by st1 ?_
  show Go _ _ _ _ T1 (mkF m 4 #[.val (.ref a), .unset] [(.int (0 : Int32))])
  refine Go.by (fun _ gk => XS.ifYes X1.here hx rfl (pc0 := 4) (pc' := 19) rfl (hb hby d11_4) rfl (XT.i0_eq_t rfl) (by decide) (by decide) gk) ?_
  show Go _ _ _ _ T1 (mkF m 19 #[.val (.ref a), .unset] [])
  refine Go.by (fun _ gk => XS.aloadN X1.here hx rfl (hb hby d11_19) rfl rfl gk) ?_
  show Go _ _ _ _ T1 (mkF m 20 #[.val (.ref a), .unset] [(.ref a)])
  exact Go.retA X1 hx Bd.notSynchronized Bd.returns rfl rfl (hb hby d11_20) (by rw [e1]; exact ⟨rfl, N0, rfl⟩) (by decide) (by decide)
theorem ef_221 (m : MethodId)  : entryFrame m #[.null] 2 = mkF m 0 #[.val .null, .unset] [] := by (first | (simp [entryFrame, mkF, argsToLocals, Value.category]; done) | rfl)
def Q_rmRes3 (Z : State)  (h0 : Heap) (n0 : Nat) (v : Option Value) (h : Heap) (L : List Loc) : Prop := v = some .null ∧ Fr n0 L ∧ h = h0
set_option maxRecDepth 65536 in
set_option maxHeartbeats 40000000 in
theorem rmRes3 (l : Launch) (Z : State) (a0 : Array Value) (hw : ∀ d ∈ tables_1, d.before a0 Z = true) (ws : List Jvm.Cond)  (h0 : Heap) (n0 : Nat) (Z0 : n0 ≤ h0.size)  :
    MetFree l (⟨"com/example/attache/attache/PendingKey", "resolved", "(Ljava/lang/Object;)Ljava/lang/Object;"⟩ : MethodName) (head1 (Jvm.Cond.code (⟨"com/example/attache/attache/PendingKey", "resolved", "(Ljava/lang/Object;)Ljava/lang/Object;"⟩ : MethodName) prog_1_method_4_code 2 (some (.object "java/lang/Object")) :: ws) ({ frames := 0, cells := 0, slots := 0, locals := 0 } : Room)) (fun as' U => as' = #[.null] ∧ Z.Warmed39 U.vm ∧ U.heap = h0) (fun _ _ _ _ _ => True) (fun _ U o U' => ∃ v L, o = .returned v ∧ Q_rmRes3 Z  h0 n0 v U'.heap L ∧ FrameEnd U o U' L ({ frames := 0, cells := 0, slots := 0, locals := 0 } : Room).cells ({ frames := 0, cells := 0, slots := 0, locals := 0 } : Room).slots) := by
  refine MetFree.of_bodySF (plainFor_of_name pn_201) hisR ?_
  intro p e s m args below meth c s₁ Bd hml0 hP hK
  obtain ⟨rfl, hZ, hh⟩ := hP
  have hx := Bd.exec
  have hby := Bd.bytes
  have hml : c.maxLocals = 2 := hml0
  have hown : s.vm.findClass "com/example/attache/attache/PendingKey" = some m.cls := findClass_of_methodNamed Bd.named
  have hnm := (name_of_methodNamed Bd.named Bd.method).1
  have X0 : Stand p l e ({ frames := 0, cells := 0, slots := 0, locals := 0 } : Room) s m #[.null] below meth c s₁ [] 0 0 := Stand.of_body Bd
  have e0 : s₁.heap = h0 := by rw [← hh, Bd.state]; rfl
  have N0 := Fr.nil n0
  refine Go.enter (F := EndN s (Q_rmRes3 Z  h0 n0) ({ frames := 0, cells := 0, slots := 0, locals := 0 } : Room).cells ({ frames := 0, cells := 0, slots := 0, locals := 0 } : Room).slots) (ef_221 m ) ?_
  show Go _ _ _ _ s₁ (mkF m 0 #[.val .null, .unset] [])
  refine Go.by (fun _ gk => XS.aloadN X0.here hx rfl (hb hby d11_0) rfl rfl gk) ?_
  show Go _ _ _ _ s₁ (mkF m 1 #[.val .null, .unset] [.null])
  refine Go.by (fun _ gk => X0.instanceofNull hx (g := (mkF m 1 #[.val .null, .unset] [.null])) rfl rfl (hb hby d11_1) _ gk) ?_
  show Go _ _ _ _ s₁ (mkF m 4 #[.val .null, .unset] [(.int (0 : Int32))])
  refine Go.by (fun _ gk => XS.ifYes X0.here hx rfl (pc0 := 4) (pc' := 19) rfl (hb hby d11_4) rfl (XT.i0_eq_t rfl) (by decide) (by decide) gk) ?_
  show Go _ _ _ _ s₁ (mkF m 19 #[.val .null, .unset] [])
  refine Go.by (fun _ gk => XS.aloadN X0.here hx rfl (hb hby d11_19) rfl rfl gk) ?_
  show Go _ _ _ _ s₁ (mkF m 20 #[.val .null, .unset] [.null])
  exact Go.retA X0 hx Bd.notSynchronized Bd.returns rfl rfl (hb hby d11_20) (by rw [e0]; exact ⟨rfl, N0, rfl⟩) (by decide) (by decide)
theorem d11_7 : decode prog_1_method_4_code 7 = .ok (.aload_n 0, 1) := by decide +kernel
theorem d11_8 : decode prog_1_method_4_code 8 = .ok (.checkcast 8, 3) := by decide +kernel
theorem d11_11 : decode prog_1_method_4_code 11 = .ok (.astore_n 1, 1) := by decide +kernel
theorem d11_12 : decode prog_1_method_4_code 12 = .ok (.aload_n 1, 1) := by decide +kernel
theorem pd_226 : parseMethodDescriptor "()Ljava/lang/Object;" = some ⟨[], some (.object "java/lang/Object")⟩ := by decide +kernel
theorem d11_13 : decode prog_1_method_4_code 13 = .ok (.invokevirtual 20, 3) := by decide +kernel
theorem d11_16 : decode prog_1_method_4_code 16 = .ok (.goto 4, 3) := by decide +kernel
def Q_rmResP (Z : State) (a : Addr) (b : Addr) (h0 : Heap) (n0 : Nat) (v : Option Value) (h : Heap) (L : List Loc) : Prop := v = some (.ref b) ∧ Fr n0 L ∧ h = h0
set_option maxRecDepth 65536 in
set_option maxHeartbeats 40000000 in
theorem rmResP (l : Launch) (Z : State) (a0 : Array Value) (hw : ∀ d ∈ tables_1, d.before a0 Z = true) (ws : List Jvm.Cond) (a : Addr) (b : Addr) (h0 : Heap) (n0 : Nat) (Z0 : n0 ≤ h0.size) (E_a : Exa Z h0 a "com/example/attache/attache/PendingKey") (F_a_generated : Fld Z h0 a "com/example/attache/attache/PendingKey" "generated" "Ljava/lang/Object;" (.ref b)) :
    MetFree l (⟨"com/example/attache/attache/PendingKey", "resolved", "(Ljava/lang/Object;)Ljava/lang/Object;"⟩ : MethodName) (head1 (Jvm.Cond.code (⟨"com/example/attache/attache/PendingKey", "resolved", "(Ljava/lang/Object;)Ljava/lang/Object;"⟩ : MethodName) prog_1_method_4_code 2 (some (.object "java/lang/Object")) :: ws) ({ frames := 1, cells := 0, slots := 0, locals := 12 } : Room)) (fun as' U => as' = #[(.ref a)] ∧ Z.Warmed39 U.vm ∧ U.heap = h0) (fun _ _ _ _ _ => True) (fun _ U o U' => ∃ v L, o = .returned v ∧ Q_rmResP Z a b h0 n0 v U'.heap L ∧ FrameEnd U o U' L ({ frames := 1, cells := 0, slots := 0, locals := 12 } : Room).cells ({ frames := 1, cells := 0, slots := 0, locals := 12 } : Room).slots) := by
  refine MetFree.of_bodySF (plainFor_of_name pn_201) hisR ?_
  intro p e s m args below meth c s₁ Bd hml0 hP hK
  obtain ⟨rfl, hZ, hh⟩ := hP
  have hx := Bd.exec
  have hby := Bd.bytes
  have hml : c.maxLocals = 2 := hml0
  have hown : s.vm.findClass "com/example/attache/attache/PendingKey" = some m.cls := findClass_of_methodNamed Bd.named
  have hnm := (name_of_methodNamed Bd.named Bd.method).1
  have X0 : Stand p l e ({ frames := 1, cells := 0, slots := 0, locals := 12 } : Room) s m #[(.ref a)] below meth c s₁ [] 0 0 := Stand.of_body Bd
  have e0 : s₁.heap = h0 := by rw [← hh, Bd.state]; rfl
  have N0 := Fr.nil n0
  refine Go.enter (F := EndN s (Q_rmResP Z a b h0 n0) ({ frames := 1, cells := 0, slots := 0, locals := 12 } : Room).cells ({ frames := 1, cells := 0, slots := 0, locals := 12 } : Room).slots) (ef_215 m a) ?_
  show Go _ _ _ _ s₁ (mkF m 0 #[.val (.ref a), .unset] [])
  refine Go.by (fun _ gk => XS.aloadN X0.here hx rfl (hb hby d11_0) rfl rfl gk) ?_
  show Go _ _ _ _ s₁ (mkF m 1 #[.val (.ref a), .unset] [(.ref a)])
  obtain ⟨T1, X1, e1, st1⟩ := instY X0 hx hZ hown (hw _ (List.mem_of_getElem? (i := 58) rfl)) e0 (Ins.self E_a) (g := (mkF m 1 #[.val (.ref a), .unset] [(.ref a)])) rfl rfl (hb hby d11_1)
  refine Go.by st1 ?_
  show Go _ _ _ _ T1 (mkF m 4 #[.val (.ref a), .unset] [(.int (1 : Int32))])
  refine Go.by (fun _ gk => XS.ifNo X1.here hx rfl (hb hby d11_4) rfl (XT.i0_eq_f (by decide)) gk) ?_
  show Go _ _ _ _ T1 (mkF m 7 #[.val (.ref a), .unset] [])
  refine Go.by (fun _ gk => XS.aloadN X1.here hx rfl (hb hby d11_7) rfl rfl gk) ?_
  show Go _ _ _ _ T1 (mkF m 8 #[.val (.ref a), .unset] [(.ref a)])
  obtain ⟨T2, X2, e2, st2⟩ := castY X1 hx hZ hown (hw _ (List.mem_of_getElem? (i := 58) rfl)) e1 (Ins.self E_a) (g := (mkF m 8 #[.val (.ref a), .unset] [(.ref a)])) rfl rfl (hb hby d11_8)
  refine Go.by st2 ?_
  show Go _ _ _ _ T2 (mkF m 11 #[.val (.ref a), .unset] [(.ref a)])
  refine Go.by (fun _ gk => XS.astoreN X2.here hx rfl (hb hby d11_11) rfl rfl (l' := #[.val (.ref a), .val (.ref a)]) rfl gk) ?_
  show Go _ _ _ _ T2 (mkF m 12 #[.val (.ref a), .val (.ref a)] [])
  refine Go.by (fun _ gk => XS.aloadN X2.here hx rfl (hb hby d11_12) rfl rfl gk) ?_
  show Go _ _ _ _ T2 (mkF m 13 #[.val (.ref a), .val (.ref a)] [(.ref a)])
  obtain ⟨cq3, kq3, q3a, q3b, q3c⟩ := isOf hZ e2 E_a
  obtain ⟨_, _, ⟨T3, L3, k3, n3⟩, -, X3, ⟨Lc3, hQ3, l3, y3, z3⟩, st3⟩ := X2.virtualBack hx (y := (⟨"com/example/attache/attache/PendingKey", "generated", "()Ljava/lang/Object;"⟩ : MethodName)) (z := (⟨"com/example/attache/attache/PendingKey", "generated", "()Ljava/lang/Object;"⟩ : MethodName)) hown (mvT hZ (hw _ (List.mem_of_getElem? (i := 63) rfl))) (mvT hZ (hw _ (List.mem_of_getElem? (i := 64) rfl))) (notFace_of_selects (args := #[]) (mvT hZ (hw _ (List.mem_of_getElem? (i := 66) rfl)))) (mvT hZ (hw _ (List.mem_of_getElem? (i := 66) rfl))) (mvT hZ (hw _ (List.mem_of_getElem? (i := 65) rfl))) (by decide) (backOf (W := 0) (rmGet l Z a0 hw [] a b h0 n0 Z0 F_a_generated) hZ (hw _ (List.mem_of_getElem? (i := 67) rfl)) (hw _ (List.mem_of_getElem? (i := 43) rfl)) (by decide) (by decide)) q3a q3c (g := (mkF m 13 #[.val (.ref a), .val (.ref a)] [(.ref a)])) rfl (by rw [hml]; rfl) (Steps.refl _) (argsL := []) (rest := []) (lenOf pd_226 rfl) rfl (by show 2 * 0 + _ ≤ _; exact Nat.le_of_eq rfl) (hb hby d11_13) (fun _ _ => ⟨rfl, e2, (by decide : 0 + 0 ≤ _), (by decide : 0 + 0 ≤ _)⟩)
  dsimp only [Pt.U, Pt.locs, Pt.cells, Pt.slots] at X3 l3 y3 z3 st3 hQ3
  subst l3 y3 z3
  obtain ⟨rfl, N3q, e3⟩ := hQ3
  have N3 := Fr.app N0 N3q
  refine Go.to st3 ?_
  show Go _ _ _ _ T3 (mkF m 16 #[.val (.ref a), .val (.ref a)] [(.ref b)])
  refine Go.by (fun _ gk => XS.goto X3.here hx rfl (pc0 := 16) (pc' := 20) rfl (hb hby d11_16) (by decide) (by decide) gk) ?_
  show Go _ _ _ _ T3 (mkF m 20 #[.val (.ref a), .val (.ref a)] [(.ref b)])
  exact Go.retA X3 hx Bd.notSynchronized Bd.returns rfl rfl (hb hby d11_20) (by rw [e3]; exact ⟨rfl, N3, rfl⟩) (by decide) (by decide)
theorem ef_229 (m : MethodId) (x0 : Int32) (x1 : Int32) (x2 : Int32) (x3 : Int32) : entryFrame m #[(.int x0), (.int x1), (.int x2), (.int x3)] 9 = mkF m 0 #[.val (.int x0), .val (.int x1), .val (.int x2), .val (.int x3), .unset, .unset, .unset, .unset, .unset] [] := by (first | (simp [entryFrame, mkF, argsToLocals, Value.category]; done) | rfl)
theorem pd_230 : parseMethodDescriptor "(II)Ljava/lang/Object;" = some ⟨[.int, .int], some (.object "java/lang/Object")⟩ := by decide +kernel
theorem pd_231 : parseMethodDescriptor "(Ljava/lang/Object;)V" = some ⟨[(.object "java/lang/Object")], none⟩ := by decide +kernel
theorem pd_232 : parseMethodDescriptor "(Ljava/lang/Object;)Ljava/lang/Object;" = some ⟨[(.object "java/lang/Object")], some (.object "java/lang/Object")⟩ := by decide +kernel
def Q_rm0 (Z : State) (p0 : Int32) (p1 : Int32) (p2 : Int32) (p3 : Int32) (caI : Addr) (ccI : Cell) (caJ : Addr) (ccJ : Cell) (cs : Int32) (h0 : Heap) (n0 : Nat) (v : Option Value) (h : Heap) (L : List Loc) : Prop := v = some (.int 1) ∧ Fr n0 L
set_option maxRecDepth 65536 in
set_option maxHeartbeats 40000000 in
theorem rm0 (l : Launch) (Z : State) (a0 : Array Value) (hw : ∀ d ∈ tables_1, d.before a0 Z = true) (ws : List Jvm.Cond) (p0 : Int32) (p1 : Int32) (p2 : Int32) (p3 : Int32) (caI : Addr) (ccI : Cell) (caJ : Addr) (ccJ : Cell) (cs : Int32) (h0 : Heap) (n0 : Nat) (Z0 : n0 ≤ h0.size) (O0 : Old Z n0 h0) (S_cacheI : Sta Z Z.heap "java/lang/Integer$IntegerCache" "cache" "[Ljava/lang/Integer;" (.ref caI)) (B_I : Bxs Z caI ccI "java/lang/Integer" "I" 256 (fun j => .int (j - 128))) (S_high : Sta Z Z.heap "java/lang/Integer$IntegerCache" "high" "I" (.int 127)) (S_cacheJ : Sta Z Z.heap "java/lang/Long$LongCache" "cache" "[Ljava/lang/Long;" (.ref caJ)) (B_J : Bxs Z caJ ccJ "java/lang/Long" "J" 256 (fun j => .long (j - 128).toInt64)) (S_cs : Sta Z Z.heap "java/lang/String" "COMPACT_STRINGS" "Z" (.int cs)) (n_cs : ¬ cs = 0) :
    MetFree l x (head1 (Jvm.Cond.code x code maxLocals ret :: ws) room_1) (fun as' U => as' = #[(.int p0), (.int p1), (.int p2), (.int p3)] ∧ Z.Warmed39 U.vm ∧ U.heap = h0) (fun _ _ _ _ _ => True) (fun _ U o U' => ∃ v L, o = .returned v ∧ Q_rm0 Z p0 p1 p2 p3 caI ccI caJ ccJ cs h0 n0 v U'.heap L ∧ FrameEnd U o U' L 7 17) := by
  refine MetFree.of_bodySF (plainFor_of_name pn_151) hisR ?_
  intro p e s m args below meth c s₁ Bd hml0 hP hK
  obtain ⟨rfl, hZ, hh⟩ := hP
  have hx := Bd.exec
  have hby := Bd.bytes
  have hml : c.maxLocals = 9 := hml0
  have hown : s.vm.findClass "com/example/attache/attache/PendingKeyResolvedPinLaw" = some m.cls := findClass_of_methodNamed Bd.named
  have hnm := (name_of_methodNamed Bd.named Bd.method).1
  have X0 : Stand p l e room_1 s m #[(.int p0), (.int p1), (.int p2), (.int p3)] below meth c s₁ [] 0 0 := Stand.of_body Bd
  have e0 : s₁.heap = h0 := by rw [← hh, Bd.state]; rfl
  have N0 := Fr.nil n0
  refine Go.enter (F := EndN s (Q_rm0 Z p0 p1 p2 p3 caI ccI caJ ccJ cs h0 n0) 7 17) (ef_229 m p0 p1 p2 p3) ?_
  show Go _ _ _ _ s₁ (mkF m 0 #[.val (.int p0), .val (.int p1), .val (.int p2), .val (.int p3), .unset, .unset, .unset, .unset, .unset] [])
  refine Go.by (fun _ gk => XS.iloadN X0.here hx rfl (hb hby at_0) rfl gk) ?_
  show Go _ _ _ _ s₁ (mkF m 1 #[.val (.int p0), .val (.int p1), .val (.int p2), .val (.int p3), .unset, .unset, .unset, .unset, .unset] [(.int p0)])
  refine Go.by (fun _ gk => XS.iloadN X0.here hx rfl (hb hby at_1) rfl gk) ?_
  show Go _ _ _ _ s₁ (mkF m 2 #[.val (.int p0), .val (.int p1), .val (.int p2), .val (.int p3), .unset, .unset, .unset, .unset, .unset] [(.int p1), (.int p0)])
  rcases own_and3 p0 with hi | hi | hi | hi
  · rcases own_and3 p2 with hj | hj | hj | hj
    · obtain ⟨_, _, ⟨T1, L1, k1, n1⟩, -, X1, ⟨Lc1, hQ1, l1, y1, z1⟩, st1⟩ := Jvm.LawKit.callS X0 hx (y := (⟨"com/example/attache/attache/PendingKeyResolvedPinLaw", "make", "(II)Ljava/lang/Object;"⟩ : MethodName)) hown (mvT hZ (hw _ (List.mem_of_getElem? (i := 0) rfl))) (mvT hZ (hw _ (List.mem_of_getElem? (i := 1) rfl))) (mvT hZ (hw _ (List.mem_of_getElem? (i := 2) rfl))) (mvT hZ (hw _ (List.mem_of_getElem? (i := 3) rfl))) (by decide) (backOf (W := 0) (rmMake0 l Z a0 hw [] p0 p1 caI ccI caJ ccJ cs h0 n0 Z0 O0 hi S_cacheI B_I S_high S_cacheJ B_J S_cs n_cs) hZ (hw _ (List.mem_of_getElem? (i := 3) rfl)) (hw _ (List.mem_of_getElem? (i := 2) rfl)) (by decide) (by decide)) (g := (mkF m 2 #[.val (.int p0), .val (.int p1), .val (.int p2), .val (.int p3), .unset, .unset, .unset, .unset, .unset] [(.int p1), (.int p0)])) rfl (by rw [hml]; rfl) (argsL := [(.int p0), (.int p1)]) (rest := []) (lenOf pd_230 rfl) rfl (by show 2 * 0 + _ ≤ _; exact Nat.le_of_eq rfl) (hb hby at_2) (fun _ _ => ⟨rfl, e0, (by decide : 0 + 1 ≤ _), (by decide : 0 + 1 ≤ _)⟩)
      dsimp only [Pt.U, Pt.locs, Pt.cells, Pt.slots] at X1 l1 y1 z1 st1 hQ1
      subst l1 y1 z1
      obtain ⟨bP, rfl, N1q, K1, Q1_0⟩ := hQ1
      have N1 := Fr.app N0 N1q
      refine Go.by st1 ?_
      show Go _ _ _ _ T1 (mkF m 5 #[.val (.int p0), .val (.int p1), .val (.int p2), .val (.int p3), .unset, .unset, .unset, .unset, .unset] [(.ref bP)])
      refine Go.by (fun _ gk => XS.astore X1.here hx rfl (hb hby at_5) rfl rfl (l' := #[.val (.int p0), .val (.int p1), .val (.int p2), .val (.int p3), .val (.ref bP), .unset, .unset, .unset, .unset]) rfl gk) ?_
      show Go _ _ _ _ T1 (mkF m 7 #[.val (.int p0), .val (.int p1), .val (.int p2), .val (.int p3), .val (.ref bP), .unset, .unset, .unset, .unset] [])
      refine Go.by (fun _ gk => XS.iloadN X1.here hx rfl (hb hby at_7) rfl gk) ?_
      show Go _ _ _ _ T1 (mkF m 8 #[.val (.int p0), .val (.int p1), .val (.int p2), .val (.int p3), .val (.ref bP), .unset, .unset, .unset, .unset] [(.int p2)])
      refine Go.by (fun _ gk => XS.iloadN X1.here hx rfl (hb hby at_8) rfl gk) ?_
      show Go _ _ _ _ T1 (mkF m 9 #[.val (.int p0), .val (.int p1), .val (.int p2), .val (.int p3), .val (.ref bP), .unset, .unset, .unset, .unset] [(.int p3), (.int p2)])
      have F2 : Old Z n0 T1.heap := O0.keep K1 all0
      have F3 : n0 ≤ T1.heap.size := Nat.le_trans Z0 K1.1
      obtain ⟨_, _, ⟨T4, L4, k4, n4⟩, -, X4, ⟨Lc4, hQ4, l4, y4, z4⟩, st4⟩ := Jvm.LawKit.callS X1 hx (y := (⟨"com/example/attache/attache/PendingKeyResolvedPinLaw", "make", "(II)Ljava/lang/Object;"⟩ : MethodName)) hown (mvT hZ (hw _ (List.mem_of_getElem? (i := 0) rfl))) (mvT hZ (hw _ (List.mem_of_getElem? (i := 1) rfl))) (mvT hZ (hw _ (List.mem_of_getElem? (i := 2) rfl))) (mvT hZ (hw _ (List.mem_of_getElem? (i := 3) rfl))) (by decide) (backOf (W := 0) (rmMake0 l Z a0 hw [] p2 p3 caI ccI caJ ccJ cs T1.heap n0 F3 F2 hj S_cacheI B_I S_high S_cacheJ B_J S_cs n_cs) hZ (hw _ (List.mem_of_getElem? (i := 3) rfl)) (hw _ (List.mem_of_getElem? (i := 2) rfl)) (by decide) (by decide)) (g := (mkF m 9 #[.val (.int p0), .val (.int p1), .val (.int p2), .val (.int p3), .val (.ref bP), .unset, .unset, .unset, .unset] [(.int p3), (.int p2)])) rfl (by rw [hml]; rfl) (argsL := [(.int p2), (.int p3)]) (rest := []) (lenOf pd_230 rfl) rfl (by show 2 * 0 + _ ≤ _; exact Nat.le_of_eq rfl) (hb hby at_9) (fun _ _ => ⟨rfl, rfl, (by decide : 1 + 1 ≤ _), (by decide : 1 + 1 ≤ _)⟩)
      dsimp only [Pt.U, Pt.locs, Pt.cells, Pt.slots] at X4 l4 y4 z4 st4 hQ4
      subst l4 y4 z4
      obtain ⟨bG, rfl, N4q, K4, Q4_0⟩ := hQ4
      have N4 := Fr.app N1 N4q
      refine Go.by st4 ?_
      show Go _ _ _ _ T4 (mkF m 12 #[.val (.int p0), .val (.int p1), .val (.int p2), .val (.int p3), .val (.ref bP), .unset, .unset, .unset, .unset] [(.ref bG)])
      refine Go.by (fun _ gk => XS.astore X4.here hx rfl (hb hby at_12) rfl rfl (l' := #[.val (.int p0), .val (.int p1), .val (.int p2), .val (.int p3), .val (.ref bP), .val (.ref bG), .unset, .unset, .unset]) rfl gk) ?_
      show Go _ _ _ _ T4 (mkF m 14 #[.val (.int p0), .val (.int p1), .val (.int p2), .val (.int p3), .val (.ref bP), .val (.ref bG), .unset, .unset, .unset] [])
      refine Go.by (fun _ gk => XS.aload X4.here hx rfl (hb hby at_14) rfl rfl gk) ?_
      show Go _ _ _ _ T4 (mkF m 16 #[.val (.int p0), .val (.int p1), .val (.int p2), .val (.int p3), .val (.ref bP), .val (.ref bG), .unset, .unset, .unset] [(.ref bG)])
      refine Go.by (fun _ gk => XT.nonnullYes X4.here hx rfl (pc0 := 16) (pc' := 25) rfl (hb hby at_16) rfl rfl nofun (by decide) (by decide) gk) ?_
      show Go _ _ _ _ T4 (mkF m 25 #[.val (.int p0), .val (.int p1), .val (.int p2), .val (.int p3), .val (.ref bP), .val (.ref bG), .unset, .unset, .unset] [])
      have F6 : n0 ≤ T4.heap.size := Nat.le_trans F3 K4.1
      obtain ⟨k, g5⟩ : ∃ z, z = T4.heap.size := ⟨_, rfl⟩
      have ge_k : n0 ≤ k := Nat.le_trans F6 (Nat.le_of_eq g5.symm)
      have F7 : Keep h0 T1.heap [] := (Keep.refl h0 []).trans K1 all0
      have F8 : Keep h0 T4.heap [] := F7.trans K4 all0
      have sz_k : h0.size ≤ k := Nat.le_trans F8.1 (Nat.le_of_eq g5.symm)
      have ne_bG_k : bG ≠ k := Nat.ne_of_lt (Nat.lt_of_lt_of_le Q4_0.lt (Nat.le_of_eq g5.symm))
      have F9 : Exa Z T4.heap bP "java/lang/Integer" := Q1_0.keep K4
      have ne_bP_k : bP ≠ k := Nat.ne_of_lt (Nat.lt_of_lt_of_le F9.lt (Nat.le_of_eq g5.symm))
      obtain ⟨T5, h5, X5, e5, E5, A5, D5, -, st5⟩ := newO X4 hx hZ hown (hw _ (List.mem_of_getElem? (i := 41) rfl)) (hw _ (List.mem_of_getElem? (i := 42) rfl)) (hw _ (List.mem_of_getElem? (i := 43) rfl)) rfl (g := (mkF m 25 #[.val (.int p0), .val (.int p1), .val (.int p2), .val (.int p3), .val (.ref bP), .val (.ref bG), .unset, .unset, .unset] [])) rfl (hb hby at_25) (by decide) (by decide)
      rw [← g5] at A5 D5 st5
      have F_generated_k : Fld Z h5 k "com/example/attache/attache/PendingKey" "generated" "Ljava/lang/Object;" .null := D5 (Or.inl (hw _ (List.mem_of_getElem? (i := 54) rfl))) (ty := (.object "java/lang/Object")) (by decide)
      refine Go.by st5 ?_
      show Go _ _ _ _ T5 (mkF m 28 #[.val (.int p0), .val (.int p1), .val (.int p2), .val (.int p3), .val (.ref bP), .val (.ref bG), .unset, .unset, .unset] [(.ref k)])
      refine Go.by (fun _ gk => XS.dup X5.here hx rfl (hb hby at_28) rfl rfl gk) ?_
      show Go _ _ _ _ T5 (mkF m 29 #[.val (.int p0), .val (.int p1), .val (.int p2), .val (.int p3), .val (.ref bP), .val (.ref bG), .unset, .unset, .unset] [(.ref k), (.ref k)])
      have F10 : n0 ≤ h5.size := Nat.le_trans F6 E5.1
      obtain ⟨_, _, ⟨T11, L11, k11, n11⟩, -, X11, ⟨Lc11, hQ11, l11, y11, z11⟩, st11⟩ := X5.specialBack hx (y := (⟨"com/example/attache/attache/PendingKey", "<init>", "()V"⟩ : MethodName)) rfl hown (mvT hZ (hw _ (List.mem_of_getElem? (i := 44) rfl))) (mvT hZ (hw _ (List.mem_of_getElem? (i := 45) rfl))) (mvT hZ (hw _ (List.mem_of_getElem? (i := 46) rfl))) (by decide) (backOf (W := 1) (rmPinit l Z a0 hw [] k h5 n0 F10 ) hZ (hw _ (List.mem_of_getElem? (i := 46) rfl)) (hw _ (List.mem_of_getElem? (i := 43) rfl)) (by decide) (by decide)) (g := (mkF m 29 #[.val (.int p0), .val (.int p1), .val (.int p2), .val (.int p3), .val (.ref bP), .val (.ref bG), .unset, .unset, .unset] [(.ref k), (.ref k)])) rfl (by rw [hml]; rfl) (Steps.refl _) (a := k) (argsL := []) (rest := [(.ref k)]) (lenOf pd_10 rfl) rfl (by show 2 * 0 + _ ≤ _; exact Nat.le_of_eq rfl) (hb hby at_29) (fun _ _ => ⟨rfl, e5, (by decide : 3 + 0 ≤ _), (by decide : 3 + 0 ≤ _)⟩)
      dsimp only [Pt.U, Pt.locs, Pt.cells, Pt.slots] at X11 l11 y11 z11 st11 hQ11
      subst l11 y11 z11
      obtain ⟨rfl, N11q, e11⟩ := hQ11
      have N11 := Fr.app N4 N11q
      refine Go.to st11 ?_
      show Go _ _ _ _ T11 (mkF m 32 #[.val (.int p0), .val (.int p1), .val (.int p2), .val (.int p3), .val (.ref bP), .val (.ref bG), .unset, .unset, .unset] [(.ref k)])
      refine Go.by (fun _ gk => XS.astore X11.here hx rfl (hb hby at_32) rfl rfl (l' := #[.val (.int p0), .val (.int p1), .val (.int p2), .val (.int p3), .val (.ref bP), .val (.ref bG), .val (.ref k), .unset, .unset]) rfl gk) ?_
      show Go _ _ _ _ T11 (mkF m 34 #[.val (.int p0), .val (.int p1), .val (.int p2), .val (.int p3), .val (.ref bP), .val (.ref bG), .val (.ref k), .unset, .unset] [])
      refine Go.by (fun _ gk => XS.aload X11.here hx rfl (hb hby at_34) rfl rfl gk) ?_
      show Go _ _ _ _ T11 (mkF m 36 #[.val (.int p0), .val (.int p1), .val (.int p2), .val (.int p3), .val (.ref bP), .val (.ref bG), .val (.ref k), .unset, .unset] [(.ref k)])
      refine Go.by (fun _ gk => XS.aload X11.here hx rfl (hb hby at_36) rfl rfl gk) ?_
      show Go _ _ _ _ T11 (mkF m 38 #[.val (.int p0), .val (.int p1), .val (.int p2), .val (.int p3), .val (.ref bP), .val (.ref bG), .val (.ref k), .unset, .unset] [(.ref bG), (.ref k)])
      obtain ⟨cq12, kq12, q12a, q12b, q12c⟩ := isOf hZ e11 A5
      obtain ⟨_, _, ⟨T12, L12, k12, n12⟩, -, X12, ⟨Lc12, hQ12, l12, y12, z12⟩, st12⟩ := X11.virtualBack hx (y := (⟨"com/example/attache/attache/PendingKey", "generated", "(Ljava/lang/Object;)V"⟩ : MethodName)) (z := (⟨"com/example/attache/attache/PendingKey", "generated", "(Ljava/lang/Object;)V"⟩ : MethodName)) hown (mvT hZ (hw _ (List.mem_of_getElem? (i := 48) rfl))) (mvT hZ (hw _ (List.mem_of_getElem? (i := 49) rfl))) (notFace_of_selects (args := #[]) (mvT hZ (hw _ (List.mem_of_getElem? (i := 51) rfl)))) (mvT hZ (hw _ (List.mem_of_getElem? (i := 51) rfl))) (mvT hZ (hw _ (List.mem_of_getElem? (i := 50) rfl))) (by decide) (backOf (W := 0) (rmPut l Z a0 hw [] k bG .null h5 n0 F10 A5 F_generated_k ge_k) hZ (hw _ (List.mem_of_getElem? (i := 52) rfl)) (hw _ (List.mem_of_getElem? (i := 43) rfl)) (by decide) (by decide)) q12a q12c (g := (mkF m 38 #[.val (.int p0), .val (.int p1), .val (.int p2), .val (.int p3), .val (.ref bP), .val (.ref bG), .val (.ref k), .unset, .unset] [(.ref bG), (.ref k)])) rfl (by rw [hml]; rfl) (Steps.refl _) (argsL := [(.ref bG)]) (rest := []) (lenOf pd_231 rfl) rfl (by show 2 * 0 + _ ≤ _; exact Nat.le_of_eq rfl) (hb hby at_38) (fun _ _ => ⟨rfl, e11, (by decide : 3 + 0 ≤ _), (by decide : 3 + 0 ≤ _)⟩)
      dsimp only [Pt.U, Pt.locs, Pt.cells, Pt.slots] at X12 l12 y12 z12 st12 hQ12
      subst l12 y12 z12
      obtain ⟨rfl, N12q, K12, Q12_0, Q12_1⟩ := hQ12
      have N12 := Fr.app N11 N12q
      refine Go.to st12 ?_
      show Go _ _ _ _ T12 (mkF m 41 #[.val (.int p0), .val (.int p1), .val (.int p2), .val (.int p3), .val (.ref bP), .val (.ref bG), .val (.ref k), .unset, .unset] [])
      refine Go.by (fun _ gk => XS.aload X12.here hx rfl (hb hby at_41) rfl rfl gk) ?_
      show Go _ _ _ _ T12 (mkF m 43 #[.val (.int p0), .val (.int p1), .val (.int p2), .val (.int p3), .val (.ref bP), .val (.ref bG), .val (.ref k), .unset, .unset] [(.ref bP)])
      have F13 : Exa Z h5 bP "java/lang/Integer" := F9.ext E5
      have F14 : Exa Z T12.heap bP "java/lang/Integer" := F13.keep K12
      have F15 : n0 ≤ T12.heap.size := Nat.le_trans F10 K12.1
      obtain ⟨_, _, ⟨T16, L16, k16, n16⟩, -, X16, ⟨Lc16, hQ16, l16, y16, z16⟩, st16⟩ := Jvm.LawKit.callS X12 hx (y := (⟨"com/example/attache/attache/PendingKey", "resolved", "(Ljava/lang/Object;)Ljava/lang/Object;"⟩ : MethodName)) hown (mvT hZ (hw _ (List.mem_of_getElem? (i := 55) rfl))) (mvT hZ (hw _ (List.mem_of_getElem? (i := 56) rfl))) (mvT hZ (hw _ (List.mem_of_getElem? (i := 43) rfl))) (mvT hZ (hw _ (List.mem_of_getElem? (i := 57) rfl))) (by decide) (backOf (W := 0) (rmRes0 l Z a0 hw [] bP T12.heap n0 F15 F14) hZ (hw _ (List.mem_of_getElem? (i := 57) rfl)) (hw _ (List.mem_of_getElem? (i := 43) rfl)) (by decide) (by decide)) (g := (mkF m 43 #[.val (.int p0), .val (.int p1), .val (.int p2), .val (.int p3), .val (.ref bP), .val (.ref bG), .val (.ref k), .unset, .unset] [(.ref bP)])) rfl (by rw [hml]; rfl) (argsL := [(.ref bP)]) (rest := []) (lenOf pd_232 rfl) rfl (by show 2 * 0 + _ ≤ _; exact Nat.le_of_eq rfl) (hb hby at_43) (fun _ _ => ⟨rfl, rfl, (by decide : 3 + 0 ≤ _), (by decide : 3 + 0 ≤ _)⟩)
      dsimp only [Pt.U, Pt.locs, Pt.cells, Pt.slots] at X16 l16 y16 z16 st16 hQ16
      subst l16 y16 z16
      obtain ⟨rfl, N16q, e16⟩ := hQ16
      have N16 := Fr.app N12 N16q
      refine Go.by st16 ?_
      show Go _ _ _ _ T16 (mkF m 46 #[.val (.int p0), .val (.int p1), .val (.int p2), .val (.int p3), .val (.ref bP), .val (.ref bG), .val (.ref k), .unset, .unset] [(.ref bP)])
      refine Go.by (fun _ gk => XS.astore X16.here hx rfl (hb hby at_46) rfl rfl (l' := #[.val (.int p0), .val (.int p1), .val (.int p2), .val (.int p3), .val (.ref bP), .val (.ref bG), .val (.ref k), .val (.ref bP), .unset]) rfl gk) ?_
      show Go _ _ _ _ T16 (mkF m 48 #[.val (.int p0), .val (.int p1), .val (.int p2), .val (.int p3), .val (.ref bP), .val (.ref bG), .val (.ref k), .val (.ref bP), .unset] [])
      refine Go.by (fun _ gk => XS.aload X16.here hx rfl (hb hby at_48) rfl rfl gk) ?_
      show Go _ _ _ _ T16 (mkF m 50 #[.val (.int p0), .val (.int p1), .val (.int p2), .val (.int p3), .val (.ref bP), .val (.ref bG), .val (.ref k), .val (.ref bP), .unset] [(.ref k)])
      obtain ⟨_, _, ⟨T17, L17, k17, n17⟩, -, X17, ⟨Lc17, hQ17, l17, y17, z17⟩, st17⟩ := Jvm.LawKit.callS X16 hx (y := (⟨"com/example/attache/attache/PendingKey", "resolved", "(Ljava/lang/Object;)Ljava/lang/Object;"⟩ : MethodName)) hown (mvT hZ (hw _ (List.mem_of_getElem? (i := 55) rfl))) (mvT hZ (hw _ (List.mem_of_getElem? (i := 56) rfl))) (mvT hZ (hw _ (List.mem_of_getElem? (i := 43) rfl))) (mvT hZ (hw _ (List.mem_of_getElem? (i := 57) rfl))) (by decide) (backOf (W := 0) (rmResP l Z a0 hw [] k bG T12.heap n0 F15 Q12_0 Q12_1) hZ (hw _ (List.mem_of_getElem? (i := 57) rfl)) (hw _ (List.mem_of_getElem? (i := 43) rfl)) (by decide) (by decide)) (g := (mkF m 50 #[.val (.int p0), .val (.int p1), .val (.int p2), .val (.int p3), .val (.ref bP), .val (.ref bG), .val (.ref k), .val (.ref bP), .unset] [(.ref k)])) rfl (by rw [hml]; rfl) (argsL := [(.ref k)]) (rest := []) (lenOf pd_232 rfl) rfl (by show 2 * 0 + _ ≤ _; exact Nat.le_of_eq rfl) (hb hby at_50) (fun _ _ => ⟨rfl, e16, (by decide : 3 + 0 ≤ _), (by decide : 3 + 0 ≤ _)⟩)
      dsimp only [Pt.U, Pt.locs, Pt.cells, Pt.slots] at X17 l17 y17 z17 st17 hQ17
      subst l17 y17 z17
      obtain ⟨rfl, N17q, e17⟩ := hQ17
      have N17 := Fr.app N16 N17q
      refine Go.by st17 ?_
      show Go _ _ _ _ T17 (mkF m 53 #[.val (.int p0), .val (.int p1), .val (.int p2), .val (.int p3), .val (.ref bP), .val (.ref bG), .val (.ref k), .val (.ref bP), .unset] [(.ref bG)])
      refine Go.by (fun _ gk => XS.astore X17.here hx rfl (hb hby at_53) rfl rfl (l' := #[.val (.int p0), .val (.int p1), .val (.int p2), .val (.int p3), .val (.ref bP), .val (.ref bG), .val (.ref k), .val (.ref bP), .val (.ref bG)]) rfl gk) ?_
      show Go _ _ _ _ T17 (mkF m 55 #[.val (.int p0), .val (.int p1), .val (.int p2), .val (.int p3), .val (.ref bP), .val (.ref bG), .val (.ref k), .val (.ref bP), .val (.ref bG)] [])
      refine Go.by (fun _ gk => XS.aload X17.here hx rfl (hb hby at_55) rfl rfl gk) ?_
      show Go _ _ _ _ T17 (mkF m 57 #[.val (.int p0), .val (.int p1), .val (.int p2), .val (.int p3), .val (.ref bP), .val (.ref bG), .val (.ref k), .val (.ref bP), .val (.ref bG)] [(.ref bP)])
      refine Go.by (fun _ gk => XS.aload X17.here hx rfl (hb hby at_57) rfl rfl gk) ?_
      show Go _ _ _ _ T17 (mkF m 59 #[.val (.int p0), .val (.int p1), .val (.int p2), .val (.int p3), .val (.ref bP), .val (.ref bG), .val (.ref k), .val (.ref bP), .val (.ref bG)] [(.ref bP), (.ref bP)])
      refine Go.by (fun _ gk => XT.acmpNo X17.here hx rfl (hb hby at_59) rfl rfl rfl (XT.aa_ne_f rfl) gk) ?_
      show Go _ _ _ _ T17 (mkF m 62 #[.val (.int p0), .val (.int p1), .val (.int p2), .val (.int p3), .val (.ref bP), .val (.ref bG), .val (.ref k), .val (.ref bP), .val (.ref bG)] [])
      refine Go.by (fun _ gk => XS.aload X17.here hx rfl (hb hby at_62) rfl rfl gk) ?_
      show Go _ _ _ _ T17 (mkF m 64 #[.val (.int p0), .val (.int p1), .val (.int p2), .val (.int p3), .val (.ref bP), .val (.ref bG), .val (.ref k), .val (.ref bP), .val (.ref bG)] [(.ref bG)])
      refine Go.by (fun _ gk => XS.aload X17.here hx rfl (hb hby at_64) rfl rfl gk) ?_
      show Go _ _ _ _ T17 (mkF m 66 #[.val (.int p0), .val (.int p1), .val (.int p2), .val (.int p3), .val (.ref bP), .val (.ref bG), .val (.ref k), .val (.ref bP), .val (.ref bG)] [(.ref bG), (.ref bG)])
      refine Go.by (fun _ gk => XT.acmpNo X17.here hx rfl (hb hby at_66) rfl rfl rfl (XT.aa_ne_f rfl) gk) ?_
      show Go _ _ _ _ T17 (mkF m 69 #[.val (.int p0), .val (.int p1), .val (.int p2), .val (.int p3), .val (.ref bP), .val (.ref bG), .val (.ref k), .val (.ref bP), .val (.ref bG)] [])
      refine Go.by (fun _ gk => XT.iconstV X17.here hx rfl (1 : Int32) (hb hby at_69) (by decide) gk) ?_
      show Go _ _ _ _ T17 (mkF m 70 #[.val (.int p0), .val (.int p1), .val (.int p2), .val (.int p3), .val (.ref bP), .val (.ref bG), .val (.ref k), .val (.ref bP), .val (.ref bG)] [(.int (1 : Int32))])
      refine Go.by (fun _ gk => XS.goto X17.here hx rfl (pc0 := 70) (pc' := 74) rfl (hb hby at_70) (by decide) (by decide) gk) ?_
      show Go _ _ _ _ T17 (mkF m 74 #[.val (.int p0), .val (.int p1), .val (.int p2), .val (.int p3), .val (.ref bP), .val (.ref bG), .val (.ref k), .val (.ref bP), .val (.ref bG)] [(.int (1 : Int32))])
      exact Go.retI X17 hx Bd.notSynchronized Bd.returns rfl (by simp) (hb hby at_74) (by rw [e17]; exact ⟨rfl, N17⟩) (by decide) (by decide)
    · obtain ⟨_, _, ⟨T18, L18, k18, n18⟩, -, X18, ⟨Lc18, hQ18, l18, y18, z18⟩, st18⟩ := Jvm.LawKit.callS X0 hx (y := (⟨"com/example/attache/attache/PendingKeyResolvedPinLaw", "make", "(II)Ljava/lang/Object;"⟩ : MethodName)) hown (mvT hZ (hw _ (List.mem_of_getElem? (i := 0) rfl))) (mvT hZ (hw _ (List.mem_of_getElem? (i := 1) rfl))) (mvT hZ (hw _ (List.mem_of_getElem? (i := 2) rfl))) (mvT hZ (hw _ (List.mem_of_getElem? (i := 3) rfl))) (by decide) (backOf (W := 0) (rmMake0 l Z a0 hw [] p0 p1 caI ccI caJ ccJ cs h0 n0 Z0 O0 hi S_cacheI B_I S_high S_cacheJ B_J S_cs n_cs) hZ (hw _ (List.mem_of_getElem? (i := 3) rfl)) (hw _ (List.mem_of_getElem? (i := 2) rfl)) (by decide) (by decide)) (g := (mkF m 2 #[.val (.int p0), .val (.int p1), .val (.int p2), .val (.int p3), .unset, .unset, .unset, .unset, .unset] [(.int p1), (.int p0)])) rfl (by rw [hml]; rfl) (argsL := [(.int p0), (.int p1)]) (rest := []) (lenOf pd_230 rfl) rfl (by show 2 * 0 + _ ≤ _; exact Nat.le_of_eq rfl) (hb hby at_2) (fun _ _ => ⟨rfl, e0, (by decide : 0 + 1 ≤ _), (by decide : 0 + 1 ≤ _)⟩)
      dsimp only [Pt.U, Pt.locs, Pt.cells, Pt.slots] at X18 l18 y18 z18 st18 hQ18
      subst l18 y18 z18
      obtain ⟨bP, rfl, N18q, K18, Q18_0⟩ := hQ18
      have N18 := Fr.app N0 N18q
      refine Go.by st18 ?_
      show Go _ _ _ _ T18 (mkF m 5 #[.val (.int p0), .val (.int p1), .val (.int p2), .val (.int p3), .unset, .unset, .unset, .unset, .unset] [(.ref bP)])
      refine Go.by (fun _ gk => XS.astore X18.here hx rfl (hb hby at_5) rfl rfl (l' := #[.val (.int p0), .val (.int p1), .val (.int p2), .val (.int p3), .val (.ref bP), .unset, .unset, .unset, .unset]) rfl gk) ?_
      show Go _ _ _ _ T18 (mkF m 7 #[.val (.int p0), .val (.int p1), .val (.int p2), .val (.int p3), .val (.ref bP), .unset, .unset, .unset, .unset] [])
      refine Go.by (fun _ gk => XS.iloadN X18.here hx rfl (hb hby at_7) rfl gk) ?_
      show Go _ _ _ _ T18 (mkF m 8 #[.val (.int p0), .val (.int p1), .val (.int p2), .val (.int p3), .val (.ref bP), .unset, .unset, .unset, .unset] [(.int p2)])
      refine Go.by (fun _ gk => XS.iloadN X18.here hx rfl (hb hby at_8) rfl gk) ?_
      show Go _ _ _ _ T18 (mkF m 9 #[.val (.int p0), .val (.int p1), .val (.int p2), .val (.int p3), .val (.ref bP), .unset, .unset, .unset, .unset] [(.int p3), (.int p2)])
      have F19 : Old Z n0 T18.heap := O0.keep K18 all0
      have F20 : n0 ≤ T18.heap.size := Nat.le_trans Z0 K18.1
      obtain ⟨_, _, ⟨T21, L21, k21, n21⟩, -, X21, ⟨Lc21, hQ21, l21, y21, z21⟩, st21⟩ := Jvm.LawKit.callS X18 hx (y := (⟨"com/example/attache/attache/PendingKeyResolvedPinLaw", "make", "(II)Ljava/lang/Object;"⟩ : MethodName)) hown (mvT hZ (hw _ (List.mem_of_getElem? (i := 0) rfl))) (mvT hZ (hw _ (List.mem_of_getElem? (i := 1) rfl))) (mvT hZ (hw _ (List.mem_of_getElem? (i := 2) rfl))) (mvT hZ (hw _ (List.mem_of_getElem? (i := 3) rfl))) (by decide) (backOf (W := 0) (rmMake1 l Z a0 hw [] p2 p3 caI ccI caJ ccJ cs T18.heap n0 F20 F19 hj S_cacheI B_I S_high S_cacheJ B_J S_cs n_cs) hZ (hw _ (List.mem_of_getElem? (i := 3) rfl)) (hw _ (List.mem_of_getElem? (i := 2) rfl)) (by decide) (by decide)) (g := (mkF m 9 #[.val (.int p0), .val (.int p1), .val (.int p2), .val (.int p3), .val (.ref bP), .unset, .unset, .unset, .unset] [(.int p3), (.int p2)])) rfl (by rw [hml]; rfl) (argsL := [(.int p2), (.int p3)]) (rest := []) (lenOf pd_230 rfl) rfl (by show 2 * 0 + _ ≤ _; exact Nat.le_of_eq rfl) (hb hby at_9) (fun _ _ => ⟨rfl, rfl, (by decide : 1 + 1 ≤ _), (by decide : 1 + 1 ≤ _)⟩)
      dsimp only [Pt.U, Pt.locs, Pt.cells, Pt.slots] at X21 l21 y21 z21 st21 hQ21
      subst l21 y21 z21
      obtain ⟨bG, rfl, N21q, K21, Q21_0⟩ := hQ21
      have N21 := Fr.app N18 N21q
      refine Go.by st21 ?_
      show Go _ _ _ _ T21 (mkF m 12 #[.val (.int p0), .val (.int p1), .val (.int p2), .val (.int p3), .val (.ref bP), .unset, .unset, .unset, .unset] [(.ref bG)])
      refine Go.by (fun _ gk => XS.astore X21.here hx rfl (hb hby at_12) rfl rfl (l' := #[.val (.int p0), .val (.int p1), .val (.int p2), .val (.int p3), .val (.ref bP), .val (.ref bG), .unset, .unset, .unset]) rfl gk) ?_
      show Go _ _ _ _ T21 (mkF m 14 #[.val (.int p0), .val (.int p1), .val (.int p2), .val (.int p3), .val (.ref bP), .val (.ref bG), .unset, .unset, .unset] [])
      refine Go.by (fun _ gk => XS.aload X21.here hx rfl (hb hby at_14) rfl rfl gk) ?_
      show Go _ _ _ _ T21 (mkF m 16 #[.val (.int p0), .val (.int p1), .val (.int p2), .val (.int p3), .val (.ref bP), .val (.ref bG), .unset, .unset, .unset] [(.ref bG)])
      refine Go.by (fun _ gk => XT.nonnullYes X21.here hx rfl (pc0 := 16) (pc' := 25) rfl (hb hby at_16) rfl rfl nofun (by decide) (by decide) gk) ?_
      show Go _ _ _ _ T21 (mkF m 25 #[.val (.int p0), .val (.int p1), .val (.int p2), .val (.int p3), .val (.ref bP), .val (.ref bG), .unset, .unset, .unset] [])
      have F23 : n0 ≤ T21.heap.size := Nat.le_trans F20 K21.1
      obtain ⟨k, g22⟩ : ∃ z, z = T21.heap.size := ⟨_, rfl⟩
      have ge_k : n0 ≤ k := Nat.le_trans F23 (Nat.le_of_eq g22.symm)
      have F24 : Keep h0 T18.heap [] := (Keep.refl h0 []).trans K18 all0
      have F25 : Keep h0 T21.heap [] := F24.trans K21 all0
      have sz_k : h0.size ≤ k := Nat.le_trans F25.1 (Nat.le_of_eq g22.symm)
      have ne_bG_k : bG ≠ k := Nat.ne_of_lt (Nat.lt_of_lt_of_le Q21_0.lt (Nat.le_of_eq g22.symm))
      have F26 : Exa Z T21.heap bP "java/lang/Integer" := Q18_0.keep K21
      have ne_bP_k : bP ≠ k := Nat.ne_of_lt (Nat.lt_of_lt_of_le F26.lt (Nat.le_of_eq g22.symm))
      obtain ⟨T22, h22, X22, e22, E22, A22, D22, -, st22⟩ := newO X21 hx hZ hown (hw _ (List.mem_of_getElem? (i := 41) rfl)) (hw _ (List.mem_of_getElem? (i := 42) rfl)) (hw _ (List.mem_of_getElem? (i := 43) rfl)) rfl (g := (mkF m 25 #[.val (.int p0), .val (.int p1), .val (.int p2), .val (.int p3), .val (.ref bP), .val (.ref bG), .unset, .unset, .unset] [])) rfl (hb hby at_25) (by decide) (by decide)
      rw [← g22] at A22 D22 st22
      have F_generated_k : Fld Z h22 k "com/example/attache/attache/PendingKey" "generated" "Ljava/lang/Object;" .null := D22 (Or.inl (hw _ (List.mem_of_getElem? (i := 54) rfl))) (ty := (.object "java/lang/Object")) (by decide)
      refine Go.by st22 ?_
      show Go _ _ _ _ T22 (mkF m 28 #[.val (.int p0), .val (.int p1), .val (.int p2), .val (.int p3), .val (.ref bP), .val (.ref bG), .unset, .unset, .unset] [(.ref k)])
      refine Go.by (fun _ gk => XS.dup X22.here hx rfl (hb hby at_28) rfl rfl gk) ?_
      show Go _ _ _ _ T22 (mkF m 29 #[.val (.int p0), .val (.int p1), .val (.int p2), .val (.int p3), .val (.ref bP), .val (.ref bG), .unset, .unset, .unset] [(.ref k), (.ref k)])
      have F27 : n0 ≤ h22.size := Nat.le_trans F23 E22.1
      obtain ⟨_, _, ⟨T28, L28, k28, n28⟩, -, X28, ⟨Lc28, hQ28, l28, y28, z28⟩, st28⟩ := X22.specialBack hx (y := (⟨"com/example/attache/attache/PendingKey", "<init>", "()V"⟩ : MethodName)) rfl hown (mvT hZ (hw _ (List.mem_of_getElem? (i := 44) rfl))) (mvT hZ (hw _ (List.mem_of_getElem? (i := 45) rfl))) (mvT hZ (hw _ (List.mem_of_getElem? (i := 46) rfl))) (by decide) (backOf (W := 1) (rmPinit l Z a0 hw [] k h22 n0 F27 ) hZ (hw _ (List.mem_of_getElem? (i := 46) rfl)) (hw _ (List.mem_of_getElem? (i := 43) rfl)) (by decide) (by decide)) (g := (mkF m 29 #[.val (.int p0), .val (.int p1), .val (.int p2), .val (.int p3), .val (.ref bP), .val (.ref bG), .unset, .unset, .unset] [(.ref k), (.ref k)])) rfl (by rw [hml]; rfl) (Steps.refl _) (a := k) (argsL := []) (rest := [(.ref k)]) (lenOf pd_10 rfl) rfl (by show 2 * 0 + _ ≤ _; exact Nat.le_of_eq rfl) (hb hby at_29) (fun _ _ => ⟨rfl, e22, (by decide : 3 + 0 ≤ _), (by decide : 3 + 0 ≤ _)⟩)
      dsimp only [Pt.U, Pt.locs, Pt.cells, Pt.slots] at X28 l28 y28 z28 st28 hQ28
      subst l28 y28 z28
      obtain ⟨rfl, N28q, e28⟩ := hQ28
      have N28 := Fr.app N21 N28q
      refine Go.to st28 ?_
      show Go _ _ _ _ T28 (mkF m 32 #[.val (.int p0), .val (.int p1), .val (.int p2), .val (.int p3), .val (.ref bP), .val (.ref bG), .unset, .unset, .unset] [(.ref k)])
      refine Go.by (fun _ gk => XS.astore X28.here hx rfl (hb hby at_32) rfl rfl (l' := #[.val (.int p0), .val (.int p1), .val (.int p2), .val (.int p3), .val (.ref bP), .val (.ref bG), .val (.ref k), .unset, .unset]) rfl gk) ?_
      show Go _ _ _ _ T28 (mkF m 34 #[.val (.int p0), .val (.int p1), .val (.int p2), .val (.int p3), .val (.ref bP), .val (.ref bG), .val (.ref k), .unset, .unset] [])
      refine Go.by (fun _ gk => XS.aload X28.here hx rfl (hb hby at_34) rfl rfl gk) ?_
      show Go _ _ _ _ T28 (mkF m 36 #[.val (.int p0), .val (.int p1), .val (.int p2), .val (.int p3), .val (.ref bP), .val (.ref bG), .val (.ref k), .unset, .unset] [(.ref k)])
      refine Go.by (fun _ gk => XS.aload X28.here hx rfl (hb hby at_36) rfl rfl gk) ?_
      show Go _ _ _ _ T28 (mkF m 38 #[.val (.int p0), .val (.int p1), .val (.int p2), .val (.int p3), .val (.ref bP), .val (.ref bG), .val (.ref k), .unset, .unset] [(.ref bG), (.ref k)])
      obtain ⟨cq29, kq29, q29a, q29b, q29c⟩ := isOf hZ e28 A22
      obtain ⟨_, _, ⟨T29, L29, k29, n29⟩, -, X29, ⟨Lc29, hQ29, l29, y29, z29⟩, st29⟩ := X28.virtualBack hx (y := (⟨"com/example/attache/attache/PendingKey", "generated", "(Ljava/lang/Object;)V"⟩ : MethodName)) (z := (⟨"com/example/attache/attache/PendingKey", "generated", "(Ljava/lang/Object;)V"⟩ : MethodName)) hown (mvT hZ (hw _ (List.mem_of_getElem? (i := 48) rfl))) (mvT hZ (hw _ (List.mem_of_getElem? (i := 49) rfl))) (notFace_of_selects (args := #[]) (mvT hZ (hw _ (List.mem_of_getElem? (i := 51) rfl)))) (mvT hZ (hw _ (List.mem_of_getElem? (i := 51) rfl))) (mvT hZ (hw _ (List.mem_of_getElem? (i := 50) rfl))) (by decide) (backOf (W := 0) (rmPut l Z a0 hw [] k bG .null h22 n0 F27 A22 F_generated_k ge_k) hZ (hw _ (List.mem_of_getElem? (i := 52) rfl)) (hw _ (List.mem_of_getElem? (i := 43) rfl)) (by decide) (by decide)) q29a q29c (g := (mkF m 38 #[.val (.int p0), .val (.int p1), .val (.int p2), .val (.int p3), .val (.ref bP), .val (.ref bG), .val (.ref k), .unset, .unset] [(.ref bG), (.ref k)])) rfl (by rw [hml]; rfl) (Steps.refl _) (argsL := [(.ref bG)]) (rest := []) (lenOf pd_231 rfl) rfl (by show 2 * 0 + _ ≤ _; exact Nat.le_of_eq rfl) (hb hby at_38) (fun _ _ => ⟨rfl, e28, (by decide : 3 + 0 ≤ _), (by decide : 3 + 0 ≤ _)⟩)
      dsimp only [Pt.U, Pt.locs, Pt.cells, Pt.slots] at X29 l29 y29 z29 st29 hQ29
      subst l29 y29 z29
      obtain ⟨rfl, N29q, K29, Q29_0, Q29_1⟩ := hQ29
      have N29 := Fr.app N28 N29q
      refine Go.to st29 ?_
      show Go _ _ _ _ T29 (mkF m 41 #[.val (.int p0), .val (.int p1), .val (.int p2), .val (.int p3), .val (.ref bP), .val (.ref bG), .val (.ref k), .unset, .unset] [])
      refine Go.by (fun _ gk => XS.aload X29.here hx rfl (hb hby at_41) rfl rfl gk) ?_
      show Go _ _ _ _ T29 (mkF m 43 #[.val (.int p0), .val (.int p1), .val (.int p2), .val (.int p3), .val (.ref bP), .val (.ref bG), .val (.ref k), .unset, .unset] [(.ref bP)])
      have F30 : Exa Z h22 bP "java/lang/Integer" := F26.ext E22
      have F31 : Exa Z T29.heap bP "java/lang/Integer" := F30.keep K29
      have F32 : n0 ≤ T29.heap.size := Nat.le_trans F27 K29.1
      obtain ⟨_, _, ⟨T33, L33, k33, n33⟩, -, X33, ⟨Lc33, hQ33, l33, y33, z33⟩, st33⟩ := Jvm.LawKit.callS X29 hx (y := (⟨"com/example/attache/attache/PendingKey", "resolved", "(Ljava/lang/Object;)Ljava/lang/Object;"⟩ : MethodName)) hown (mvT hZ (hw _ (List.mem_of_getElem? (i := 55) rfl))) (mvT hZ (hw _ (List.mem_of_getElem? (i := 56) rfl))) (mvT hZ (hw _ (List.mem_of_getElem? (i := 43) rfl))) (mvT hZ (hw _ (List.mem_of_getElem? (i := 57) rfl))) (by decide) (backOf (W := 0) (rmRes0 l Z a0 hw [] bP T29.heap n0 F32 F31) hZ (hw _ (List.mem_of_getElem? (i := 57) rfl)) (hw _ (List.mem_of_getElem? (i := 43) rfl)) (by decide) (by decide)) (g := (mkF m 43 #[.val (.int p0), .val (.int p1), .val (.int p2), .val (.int p3), .val (.ref bP), .val (.ref bG), .val (.ref k), .unset, .unset] [(.ref bP)])) rfl (by rw [hml]; rfl) (argsL := [(.ref bP)]) (rest := []) (lenOf pd_232 rfl) rfl (by show 2 * 0 + _ ≤ _; exact Nat.le_of_eq rfl) (hb hby at_43) (fun _ _ => ⟨rfl, rfl, (by decide : 3 + 0 ≤ _), (by decide : 3 + 0 ≤ _)⟩)
      dsimp only [Pt.U, Pt.locs, Pt.cells, Pt.slots] at X33 l33 y33 z33 st33 hQ33
      subst l33 y33 z33
      obtain ⟨rfl, N33q, e33⟩ := hQ33
      have N33 := Fr.app N29 N33q
      refine Go.by st33 ?_
      show Go _ _ _ _ T33 (mkF m 46 #[.val (.int p0), .val (.int p1), .val (.int p2), .val (.int p3), .val (.ref bP), .val (.ref bG), .val (.ref k), .unset, .unset] [(.ref bP)])
      refine Go.by (fun _ gk => XS.astore X33.here hx rfl (hb hby at_46) rfl rfl (l' := #[.val (.int p0), .val (.int p1), .val (.int p2), .val (.int p3), .val (.ref bP), .val (.ref bG), .val (.ref k), .val (.ref bP), .unset]) rfl gk) ?_
      show Go _ _ _ _ T33 (mkF m 48 #[.val (.int p0), .val (.int p1), .val (.int p2), .val (.int p3), .val (.ref bP), .val (.ref bG), .val (.ref k), .val (.ref bP), .unset] [])
      refine Go.by (fun _ gk => XS.aload X33.here hx rfl (hb hby at_48) rfl rfl gk) ?_
      show Go _ _ _ _ T33 (mkF m 50 #[.val (.int p0), .val (.int p1), .val (.int p2), .val (.int p3), .val (.ref bP), .val (.ref bG), .val (.ref k), .val (.ref bP), .unset] [(.ref k)])
      obtain ⟨_, _, ⟨T34, L34, k34, n34⟩, -, X34, ⟨Lc34, hQ34, l34, y34, z34⟩, st34⟩ := Jvm.LawKit.callS X33 hx (y := (⟨"com/example/attache/attache/PendingKey", "resolved", "(Ljava/lang/Object;)Ljava/lang/Object;"⟩ : MethodName)) hown (mvT hZ (hw _ (List.mem_of_getElem? (i := 55) rfl))) (mvT hZ (hw _ (List.mem_of_getElem? (i := 56) rfl))) (mvT hZ (hw _ (List.mem_of_getElem? (i := 43) rfl))) (mvT hZ (hw _ (List.mem_of_getElem? (i := 57) rfl))) (by decide) (backOf (W := 0) (rmResP l Z a0 hw [] k bG T29.heap n0 F32 Q29_0 Q29_1) hZ (hw _ (List.mem_of_getElem? (i := 57) rfl)) (hw _ (List.mem_of_getElem? (i := 43) rfl)) (by decide) (by decide)) (g := (mkF m 50 #[.val (.int p0), .val (.int p1), .val (.int p2), .val (.int p3), .val (.ref bP), .val (.ref bG), .val (.ref k), .val (.ref bP), .unset] [(.ref k)])) rfl (by rw [hml]; rfl) (argsL := [(.ref k)]) (rest := []) (lenOf pd_232 rfl) rfl (by show 2 * 0 + _ ≤ _; exact Nat.le_of_eq rfl) (hb hby at_50) (fun _ _ => ⟨rfl, e33, (by decide : 3 + 0 ≤ _), (by decide : 3 + 0 ≤ _)⟩)
      dsimp only [Pt.U, Pt.locs, Pt.cells, Pt.slots] at X34 l34 y34 z34 st34 hQ34
      subst l34 y34 z34
      obtain ⟨rfl, N34q, e34⟩ := hQ34
      have N34 := Fr.app N33 N34q
      refine Go.by st34 ?_
      show Go _ _ _ _ T34 (mkF m 53 #[.val (.int p0), .val (.int p1), .val (.int p2), .val (.int p3), .val (.ref bP), .val (.ref bG), .val (.ref k), .val (.ref bP), .unset] [(.ref bG)])
      refine Go.by (fun _ gk => XS.astore X34.here hx rfl (hb hby at_53) rfl rfl (l' := #[.val (.int p0), .val (.int p1), .val (.int p2), .val (.int p3), .val (.ref bP), .val (.ref bG), .val (.ref k), .val (.ref bP), .val (.ref bG)]) rfl gk) ?_
      show Go _ _ _ _ T34 (mkF m 55 #[.val (.int p0), .val (.int p1), .val (.int p2), .val (.int p3), .val (.ref bP), .val (.ref bG), .val (.ref k), .val (.ref bP), .val (.ref bG)] [])
      refine Go.by (fun _ gk => XS.aload X34.here hx rfl (hb hby at_55) rfl rfl gk) ?_
      show Go _ _ _ _ T34 (mkF m 57 #[.val (.int p0), .val (.int p1), .val (.int p2), .val (.int p3), .val (.ref bP), .val (.ref bG), .val (.ref k), .val (.ref bP), .val (.ref bG)] [(.ref bP)])
      refine Go.by (fun _ gk => XS.aload X34.here hx rfl (hb hby at_57) rfl rfl gk) ?_
      show Go _ _ _ _ T34 (mkF m 59 #[.val (.int p0), .val (.int p1), .val (.int p2), .val (.int p3), .val (.ref bP), .val (.ref bG), .val (.ref k), .val (.ref bP), .val (.ref bG)] [(.ref bP), (.ref bP)])
      refine Go.by (fun _ gk => XT.acmpNo X34.here hx rfl (hb hby at_59) rfl rfl rfl (XT.aa_ne_f rfl) gk) ?_
      show Go _ _ _ _ T34 (mkF m 62 #[.val (.int p0), .val (.int p1), .val (.int p2), .val (.int p3), .val (.ref bP), .val (.ref bG), .val (.ref k), .val (.ref bP), .val (.ref bG)] [])
      refine Go.by (fun _ gk => XS.aload X34.here hx rfl (hb hby at_62) rfl rfl gk) ?_
      show Go _ _ _ _ T34 (mkF m 64 #[.val (.int p0), .val (.int p1), .val (.int p2), .val (.int p3), .val (.ref bP), .val (.ref bG), .val (.ref k), .val (.ref bP), .val (.ref bG)] [(.ref bG)])
      refine Go.by (fun _ gk => XS.aload X34.here hx rfl (hb hby at_64) rfl rfl gk) ?_
      show Go _ _ _ _ T34 (mkF m 66 #[.val (.int p0), .val (.int p1), .val (.int p2), .val (.int p3), .val (.ref bP), .val (.ref bG), .val (.ref k), .val (.ref bP), .val (.ref bG)] [(.ref bG), (.ref bG)])
      refine Go.by (fun _ gk => XT.acmpNo X34.here hx rfl (hb hby at_66) rfl rfl rfl (XT.aa_ne_f rfl) gk) ?_
      show Go _ _ _ _ T34 (mkF m 69 #[.val (.int p0), .val (.int p1), .val (.int p2), .val (.int p3), .val (.ref bP), .val (.ref bG), .val (.ref k), .val (.ref bP), .val (.ref bG)] [])
      refine Go.by (fun _ gk => XT.iconstV X34.here hx rfl (1 : Int32) (hb hby at_69) (by decide) gk) ?_
      show Go _ _ _ _ T34 (mkF m 70 #[.val (.int p0), .val (.int p1), .val (.int p2), .val (.int p3), .val (.ref bP), .val (.ref bG), .val (.ref k), .val (.ref bP), .val (.ref bG)] [(.int (1 : Int32))])
      refine Go.by (fun _ gk => XS.goto X34.here hx rfl (pc0 := 70) (pc' := 74) rfl (hb hby at_70) (by decide) (by decide) gk) ?_
      show Go _ _ _ _ T34 (mkF m 74 #[.val (.int p0), .val (.int p1), .val (.int p2), .val (.int p3), .val (.ref bP), .val (.ref bG), .val (.ref k), .val (.ref bP), .val (.ref bG)] [(.int (1 : Int32))])
      exact Go.retI X34 hx Bd.notSynchronized Bd.returns rfl (by simp) (hb hby at_74) (by rw [e34]; exact ⟨rfl, N34⟩) (by decide) (by decide)
    · obtain ⟨_, _, ⟨T35, L35, k35, n35⟩, -, X35, ⟨Lc35, hQ35, l35, y35, z35⟩, st35⟩ := Jvm.LawKit.callS X0 hx (y := (⟨"com/example/attache/attache/PendingKeyResolvedPinLaw", "make", "(II)Ljava/lang/Object;"⟩ : MethodName)) hown (mvT hZ (hw _ (List.mem_of_getElem? (i := 0) rfl))) (mvT hZ (hw _ (List.mem_of_getElem? (i := 1) rfl))) (mvT hZ (hw _ (List.mem_of_getElem? (i := 2) rfl))) (mvT hZ (hw _ (List.mem_of_getElem? (i := 3) rfl))) (by decide) (backOf (W := 0) (rmMake0 l Z a0 hw [] p0 p1 caI ccI caJ ccJ cs h0 n0 Z0 O0 hi S_cacheI B_I S_high S_cacheJ B_J S_cs n_cs) hZ (hw _ (List.mem_of_getElem? (i := 3) rfl)) (hw _ (List.mem_of_getElem? (i := 2) rfl)) (by decide) (by decide)) (g := (mkF m 2 #[.val (.int p0), .val (.int p1), .val (.int p2), .val (.int p3), .unset, .unset, .unset, .unset, .unset] [(.int p1), (.int p0)])) rfl (by rw [hml]; rfl) (argsL := [(.int p0), (.int p1)]) (rest := []) (lenOf pd_230 rfl) rfl (by show 2 * 0 + _ ≤ _; exact Nat.le_of_eq rfl) (hb hby at_2) (fun _ _ => ⟨rfl, e0, (by decide : 0 + 1 ≤ _), (by decide : 0 + 1 ≤ _)⟩)
      dsimp only [Pt.U, Pt.locs, Pt.cells, Pt.slots] at X35 l35 y35 z35 st35 hQ35
      subst l35 y35 z35
      obtain ⟨bP, rfl, N35q, K35, Q35_0⟩ := hQ35
      have N35 := Fr.app N0 N35q
      refine Go.by st35 ?_
      show Go _ _ _ _ T35 (mkF m 5 #[.val (.int p0), .val (.int p1), .val (.int p2), .val (.int p3), .unset, .unset, .unset, .unset, .unset] [(.ref bP)])
      refine Go.by (fun _ gk => XS.astore X35.here hx rfl (hb hby at_5) rfl rfl (l' := #[.val (.int p0), .val (.int p1), .val (.int p2), .val (.int p3), .val (.ref bP), .unset, .unset, .unset, .unset]) rfl gk) ?_
      show Go _ _ _ _ T35 (mkF m 7 #[.val (.int p0), .val (.int p1), .val (.int p2), .val (.int p3), .val (.ref bP), .unset, .unset, .unset, .unset] [])
      refine Go.by (fun _ gk => XS.iloadN X35.here hx rfl (hb hby at_7) rfl gk) ?_
      show Go _ _ _ _ T35 (mkF m 8 #[.val (.int p0), .val (.int p1), .val (.int p2), .val (.int p3), .val (.ref bP), .unset, .unset, .unset, .unset] [(.int p2)])
      refine Go.by (fun _ gk => XS.iloadN X35.here hx rfl (hb hby at_8) rfl gk) ?_
      show Go _ _ _ _ T35 (mkF m 9 #[.val (.int p0), .val (.int p1), .val (.int p2), .val (.int p3), .val (.ref bP), .unset, .unset, .unset, .unset] [(.int p3), (.int p2)])
      have F36 : Old Z n0 T35.heap := O0.keep K35 all0
      have F37 : n0 ≤ T35.heap.size := Nat.le_trans Z0 K35.1
      obtain ⟨_, _, ⟨T38, L38, k38, n38⟩, -, X38, ⟨Lc38, hQ38, l38, y38, z38⟩, st38⟩ := Jvm.LawKit.callS X35 hx (y := (⟨"com/example/attache/attache/PendingKeyResolvedPinLaw", "make", "(II)Ljava/lang/Object;"⟩ : MethodName)) hown (mvT hZ (hw _ (List.mem_of_getElem? (i := 0) rfl))) (mvT hZ (hw _ (List.mem_of_getElem? (i := 1) rfl))) (mvT hZ (hw _ (List.mem_of_getElem? (i := 2) rfl))) (mvT hZ (hw _ (List.mem_of_getElem? (i := 3) rfl))) (by decide) (backOf (W := 0) (rmMake2 l Z a0 hw [] p2 p3 caI ccI caJ ccJ cs T35.heap n0 F37 F36 hj S_cacheI B_I S_high S_cacheJ B_J S_cs n_cs) hZ (hw _ (List.mem_of_getElem? (i := 3) rfl)) (hw _ (List.mem_of_getElem? (i := 2) rfl)) (by decide) (by decide)) (g := (mkF m 9 #[.val (.int p0), .val (.int p1), .val (.int p2), .val (.int p3), .val (.ref bP), .unset, .unset, .unset, .unset] [(.int p3), (.int p2)])) rfl (by rw [hml]; rfl) (argsL := [(.int p2), (.int p3)]) (rest := []) (lenOf pd_230 rfl) rfl (by show 2 * 0 + _ ≤ _; exact Nat.le_of_eq rfl) (hb hby at_9) (fun _ _ => ⟨rfl, rfl, (by decide : 1 + 3 ≤ _), (by decide : 1 + 8 ≤ _)⟩)
      dsimp only [Pt.U, Pt.locs, Pt.cells, Pt.slots] at X38 l38 y38 z38 st38 hQ38
      subst l38 y38 z38
      obtain ⟨bG, rfl, N38q, K38, Q38_0⟩ := hQ38
      have N38 := Fr.app N35 N38q
      refine Go.by st38 ?_
      show Go _ _ _ _ T38 (mkF m 12 #[.val (.int p0), .val (.int p1), .val (.int p2), .val (.int p3), .val (.ref bP), .unset, .unset, .unset, .unset] [(.ref bG)])
      refine Go.by (fun _ gk => XS.astore X38.here hx rfl (hb hby at_12) rfl rfl (l' := #[.val (.int p0), .val (.int p1), .val (.int p2), .val (.int p3), .val (.ref bP), .val (.ref bG), .unset, .unset, .unset]) rfl gk) ?_
      show Go _ _ _ _ T38 (mkF m 14 #[.val (.int p0), .val (.int p1), .val (.int p2), .val (.int p3), .val (.ref bP), .val (.ref bG), .unset, .unset, .unset] [])
      refine Go.by (fun _ gk => XS.aload X38.here hx rfl (hb hby at_14) rfl rfl gk) ?_
      show Go _ _ _ _ T38 (mkF m 16 #[.val (.int p0), .val (.int p1), .val (.int p2), .val (.int p3), .val (.ref bP), .val (.ref bG), .unset, .unset, .unset] [(.ref bG)])
      refine Go.by (fun _ gk => XT.nonnullYes X38.here hx rfl (pc0 := 16) (pc' := 25) rfl (hb hby at_16) rfl rfl nofun (by decide) (by decide) gk) ?_
      show Go _ _ _ _ T38 (mkF m 25 #[.val (.int p0), .val (.int p1), .val (.int p2), .val (.int p3), .val (.ref bP), .val (.ref bG), .unset, .unset, .unset] [])
      have F40 : n0 ≤ T38.heap.size := Nat.le_trans F37 K38.1
      obtain ⟨k, g39⟩ : ∃ z, z = T38.heap.size := ⟨_, rfl⟩
      have ge_k : n0 ≤ k := Nat.le_trans F40 (Nat.le_of_eq g39.symm)
      have F41 : Keep h0 T35.heap [] := (Keep.refl h0 []).trans K35 all0
      have F42 : Keep h0 T38.heap [] := F41.trans K38 all0
      have sz_k : h0.size ≤ k := Nat.le_trans F42.1 (Nat.le_of_eq g39.symm)
      have ne_bG_k : bG ≠ k := Nat.ne_of_lt (Nat.lt_of_lt_of_le Q38_0.lt (Nat.le_of_eq g39.symm))
      have F43 : Exa Z T38.heap bP "java/lang/Integer" := Q35_0.keep K38
      have ne_bP_k : bP ≠ k := Nat.ne_of_lt (Nat.lt_of_lt_of_le F43.lt (Nat.le_of_eq g39.symm))
      obtain ⟨T39, h39, X39, e39, E39, A39, D39, -, st39⟩ := newO X38 hx hZ hown (hw _ (List.mem_of_getElem? (i := 41) rfl)) (hw _ (List.mem_of_getElem? (i := 42) rfl)) (hw _ (List.mem_of_getElem? (i := 43) rfl)) rfl (g := (mkF m 25 #[.val (.int p0), .val (.int p1), .val (.int p2), .val (.int p3), .val (.ref bP), .val (.ref bG), .unset, .unset, .unset] [])) rfl (hb hby at_25) (by decide) (by decide)
      rw [← g39] at A39 D39 st39
      have F_generated_k : Fld Z h39 k "com/example/attache/attache/PendingKey" "generated" "Ljava/lang/Object;" .null := D39 (Or.inl (hw _ (List.mem_of_getElem? (i := 54) rfl))) (ty := (.object "java/lang/Object")) (by decide)
      refine Go.by st39 ?_
      show Go _ _ _ _ T39 (mkF m 28 #[.val (.int p0), .val (.int p1), .val (.int p2), .val (.int p3), .val (.ref bP), .val (.ref bG), .unset, .unset, .unset] [(.ref k)])
      refine Go.by (fun _ gk => XS.dup X39.here hx rfl (hb hby at_28) rfl rfl gk) ?_
      show Go _ _ _ _ T39 (mkF m 29 #[.val (.int p0), .val (.int p1), .val (.int p2), .val (.int p3), .val (.ref bP), .val (.ref bG), .unset, .unset, .unset] [(.ref k), (.ref k)])
      have F44 : n0 ≤ h39.size := Nat.le_trans F40 E39.1
      obtain ⟨_, _, ⟨T45, L45, k45, n45⟩, -, X45, ⟨Lc45, hQ45, l45, y45, z45⟩, st45⟩ := X39.specialBack hx (y := (⟨"com/example/attache/attache/PendingKey", "<init>", "()V"⟩ : MethodName)) rfl hown (mvT hZ (hw _ (List.mem_of_getElem? (i := 44) rfl))) (mvT hZ (hw _ (List.mem_of_getElem? (i := 45) rfl))) (mvT hZ (hw _ (List.mem_of_getElem? (i := 46) rfl))) (by decide) (backOf (W := 1) (rmPinit l Z a0 hw [] k h39 n0 F44 ) hZ (hw _ (List.mem_of_getElem? (i := 46) rfl)) (hw _ (List.mem_of_getElem? (i := 43) rfl)) (by decide) (by decide)) (g := (mkF m 29 #[.val (.int p0), .val (.int p1), .val (.int p2), .val (.int p3), .val (.ref bP), .val (.ref bG), .unset, .unset, .unset] [(.ref k), (.ref k)])) rfl (by rw [hml]; rfl) (Steps.refl _) (a := k) (argsL := []) (rest := [(.ref k)]) (lenOf pd_10 rfl) rfl (by show 2 * 0 + _ ≤ _; exact Nat.le_of_eq rfl) (hb hby at_29) (fun _ _ => ⟨rfl, e39, (by decide : 5 + 0 ≤ _), (by decide : 10 + 0 ≤ _)⟩)
      dsimp only [Pt.U, Pt.locs, Pt.cells, Pt.slots] at X45 l45 y45 z45 st45 hQ45
      subst l45 y45 z45
      obtain ⟨rfl, N45q, e45⟩ := hQ45
      have N45 := Fr.app N38 N45q
      refine Go.to st45 ?_
      show Go _ _ _ _ T45 (mkF m 32 #[.val (.int p0), .val (.int p1), .val (.int p2), .val (.int p3), .val (.ref bP), .val (.ref bG), .unset, .unset, .unset] [(.ref k)])
      refine Go.by (fun _ gk => XS.astore X45.here hx rfl (hb hby at_32) rfl rfl (l' := #[.val (.int p0), .val (.int p1), .val (.int p2), .val (.int p3), .val (.ref bP), .val (.ref bG), .val (.ref k), .unset, .unset]) rfl gk) ?_
      show Go _ _ _ _ T45 (mkF m 34 #[.val (.int p0), .val (.int p1), .val (.int p2), .val (.int p3), .val (.ref bP), .val (.ref bG), .val (.ref k), .unset, .unset] [])
      refine Go.by (fun _ gk => XS.aload X45.here hx rfl (hb hby at_34) rfl rfl gk) ?_
      show Go _ _ _ _ T45 (mkF m 36 #[.val (.int p0), .val (.int p1), .val (.int p2), .val (.int p3), .val (.ref bP), .val (.ref bG), .val (.ref k), .unset, .unset] [(.ref k)])
      refine Go.by (fun _ gk => XS.aload X45.here hx rfl (hb hby at_36) rfl rfl gk) ?_
      show Go _ _ _ _ T45 (mkF m 38 #[.val (.int p0), .val (.int p1), .val (.int p2), .val (.int p3), .val (.ref bP), .val (.ref bG), .val (.ref k), .unset, .unset] [(.ref bG), (.ref k)])
      obtain ⟨cq46, kq46, q46a, q46b, q46c⟩ := isOf hZ e45 A39
      obtain ⟨_, _, ⟨T46, L46, k46, n46⟩, -, X46, ⟨Lc46, hQ46, l46, y46, z46⟩, st46⟩ := X45.virtualBack hx (y := (⟨"com/example/attache/attache/PendingKey", "generated", "(Ljava/lang/Object;)V"⟩ : MethodName)) (z := (⟨"com/example/attache/attache/PendingKey", "generated", "(Ljava/lang/Object;)V"⟩ : MethodName)) hown (mvT hZ (hw _ (List.mem_of_getElem? (i := 48) rfl))) (mvT hZ (hw _ (List.mem_of_getElem? (i := 49) rfl))) (notFace_of_selects (args := #[]) (mvT hZ (hw _ (List.mem_of_getElem? (i := 51) rfl)))) (mvT hZ (hw _ (List.mem_of_getElem? (i := 51) rfl))) (mvT hZ (hw _ (List.mem_of_getElem? (i := 50) rfl))) (by decide) (backOf (W := 0) (rmPut l Z a0 hw [] k bG .null h39 n0 F44 A39 F_generated_k ge_k) hZ (hw _ (List.mem_of_getElem? (i := 52) rfl)) (hw _ (List.mem_of_getElem? (i := 43) rfl)) (by decide) (by decide)) q46a q46c (g := (mkF m 38 #[.val (.int p0), .val (.int p1), .val (.int p2), .val (.int p3), .val (.ref bP), .val (.ref bG), .val (.ref k), .unset, .unset] [(.ref bG), (.ref k)])) rfl (by rw [hml]; rfl) (Steps.refl _) (argsL := [(.ref bG)]) (rest := []) (lenOf pd_231 rfl) rfl (by show 2 * 0 + _ ≤ _; exact Nat.le_of_eq rfl) (hb hby at_38) (fun _ _ => ⟨rfl, e45, (by decide : 5 + 0 ≤ _), (by decide : 10 + 0 ≤ _)⟩)
      dsimp only [Pt.U, Pt.locs, Pt.cells, Pt.slots] at X46 l46 y46 z46 st46 hQ46
      subst l46 y46 z46
      obtain ⟨rfl, N46q, K46, Q46_0, Q46_1⟩ := hQ46
      have N46 := Fr.app N45 N46q
      refine Go.to st46 ?_
      show Go _ _ _ _ T46 (mkF m 41 #[.val (.int p0), .val (.int p1), .val (.int p2), .val (.int p3), .val (.ref bP), .val (.ref bG), .val (.ref k), .unset, .unset] [])
      refine Go.by (fun _ gk => XS.aload X46.here hx rfl (hb hby at_41) rfl rfl gk) ?_
      show Go _ _ _ _ T46 (mkF m 43 #[.val (.int p0), .val (.int p1), .val (.int p2), .val (.int p3), .val (.ref bP), .val (.ref bG), .val (.ref k), .unset, .unset] [(.ref bP)])
      have F47 : Exa Z h39 bP "java/lang/Integer" := F43.ext E39
      have F48 : Exa Z T46.heap bP "java/lang/Integer" := F47.keep K46
      have F49 : n0 ≤ T46.heap.size := Nat.le_trans F44 K46.1
      obtain ⟨_, _, ⟨T50, L50, k50, n50⟩, -, X50, ⟨Lc50, hQ50, l50, y50, z50⟩, st50⟩ := Jvm.LawKit.callS X46 hx (y := (⟨"com/example/attache/attache/PendingKey", "resolved", "(Ljava/lang/Object;)Ljava/lang/Object;"⟩ : MethodName)) hown (mvT hZ (hw _ (List.mem_of_getElem? (i := 55) rfl))) (mvT hZ (hw _ (List.mem_of_getElem? (i := 56) rfl))) (mvT hZ (hw _ (List.mem_of_getElem? (i := 43) rfl))) (mvT hZ (hw _ (List.mem_of_getElem? (i := 57) rfl))) (by decide) (backOf (W := 0) (rmRes0 l Z a0 hw [] bP T46.heap n0 F49 F48) hZ (hw _ (List.mem_of_getElem? (i := 57) rfl)) (hw _ (List.mem_of_getElem? (i := 43) rfl)) (by decide) (by decide)) (g := (mkF m 43 #[.val (.int p0), .val (.int p1), .val (.int p2), .val (.int p3), .val (.ref bP), .val (.ref bG), .val (.ref k), .unset, .unset] [(.ref bP)])) rfl (by rw [hml]; rfl) (argsL := [(.ref bP)]) (rest := []) (lenOf pd_232 rfl) rfl (by show 2 * 0 + _ ≤ _; exact Nat.le_of_eq rfl) (hb hby at_43) (fun _ _ => ⟨rfl, rfl, (by decide : 5 + 0 ≤ _), (by decide : 10 + 0 ≤ _)⟩)
      dsimp only [Pt.U, Pt.locs, Pt.cells, Pt.slots] at X50 l50 y50 z50 st50 hQ50
      subst l50 y50 z50
      obtain ⟨rfl, N50q, e50⟩ := hQ50
      have N50 := Fr.app N46 N50q
      refine Go.by st50 ?_
      show Go _ _ _ _ T50 (mkF m 46 #[.val (.int p0), .val (.int p1), .val (.int p2), .val (.int p3), .val (.ref bP), .val (.ref bG), .val (.ref k), .unset, .unset] [(.ref bP)])
      refine Go.by (fun _ gk => XS.astore X50.here hx rfl (hb hby at_46) rfl rfl (l' := #[.val (.int p0), .val (.int p1), .val (.int p2), .val (.int p3), .val (.ref bP), .val (.ref bG), .val (.ref k), .val (.ref bP), .unset]) rfl gk) ?_
      show Go _ _ _ _ T50 (mkF m 48 #[.val (.int p0), .val (.int p1), .val (.int p2), .val (.int p3), .val (.ref bP), .val (.ref bG), .val (.ref k), .val (.ref bP), .unset] [])
      refine Go.by (fun _ gk => XS.aload X50.here hx rfl (hb hby at_48) rfl rfl gk) ?_
      show Go _ _ _ _ T50 (mkF m 50 #[.val (.int p0), .val (.int p1), .val (.int p2), .val (.int p3), .val (.ref bP), .val (.ref bG), .val (.ref k), .val (.ref bP), .unset] [(.ref k)])
      obtain ⟨_, _, ⟨T51, L51, k51, n51⟩, -, X51, ⟨Lc51, hQ51, l51, y51, z51⟩, st51⟩ := Jvm.LawKit.callS X50 hx (y := (⟨"com/example/attache/attache/PendingKey", "resolved", "(Ljava/lang/Object;)Ljava/lang/Object;"⟩ : MethodName)) hown (mvT hZ (hw _ (List.mem_of_getElem? (i := 55) rfl))) (mvT hZ (hw _ (List.mem_of_getElem? (i := 56) rfl))) (mvT hZ (hw _ (List.mem_of_getElem? (i := 43) rfl))) (mvT hZ (hw _ (List.mem_of_getElem? (i := 57) rfl))) (by decide) (backOf (W := 0) (rmResP l Z a0 hw [] k bG T46.heap n0 F49 Q46_0 Q46_1) hZ (hw _ (List.mem_of_getElem? (i := 57) rfl)) (hw _ (List.mem_of_getElem? (i := 43) rfl)) (by decide) (by decide)) (g := (mkF m 50 #[.val (.int p0), .val (.int p1), .val (.int p2), .val (.int p3), .val (.ref bP), .val (.ref bG), .val (.ref k), .val (.ref bP), .unset] [(.ref k)])) rfl (by rw [hml]; rfl) (argsL := [(.ref k)]) (rest := []) (lenOf pd_232 rfl) rfl (by show 2 * 0 + _ ≤ _; exact Nat.le_of_eq rfl) (hb hby at_50) (fun _ _ => ⟨rfl, e50, (by decide : 5 + 0 ≤ _), (by decide : 10 + 0 ≤ _)⟩)
      dsimp only [Pt.U, Pt.locs, Pt.cells, Pt.slots] at X51 l51 y51 z51 st51 hQ51
      subst l51 y51 z51
      obtain ⟨rfl, N51q, e51⟩ := hQ51
      have N51 := Fr.app N50 N51q
      refine Go.by st51 ?_
      show Go _ _ _ _ T51 (mkF m 53 #[.val (.int p0), .val (.int p1), .val (.int p2), .val (.int p3), .val (.ref bP), .val (.ref bG), .val (.ref k), .val (.ref bP), .unset] [(.ref bG)])
      refine Go.by (fun _ gk => XS.astore X51.here hx rfl (hb hby at_53) rfl rfl (l' := #[.val (.int p0), .val (.int p1), .val (.int p2), .val (.int p3), .val (.ref bP), .val (.ref bG), .val (.ref k), .val (.ref bP), .val (.ref bG)]) rfl gk) ?_
      show Go _ _ _ _ T51 (mkF m 55 #[.val (.int p0), .val (.int p1), .val (.int p2), .val (.int p3), .val (.ref bP), .val (.ref bG), .val (.ref k), .val (.ref bP), .val (.ref bG)] [])
      refine Go.by (fun _ gk => XS.aload X51.here hx rfl (hb hby at_55) rfl rfl gk) ?_
      show Go _ _ _ _ T51 (mkF m 57 #[.val (.int p0), .val (.int p1), .val (.int p2), .val (.int p3), .val (.ref bP), .val (.ref bG), .val (.ref k), .val (.ref bP), .val (.ref bG)] [(.ref bP)])
      refine Go.by (fun _ gk => XS.aload X51.here hx rfl (hb hby at_57) rfl rfl gk) ?_
      show Go _ _ _ _ T51 (mkF m 59 #[.val (.int p0), .val (.int p1), .val (.int p2), .val (.int p3), .val (.ref bP), .val (.ref bG), .val (.ref k), .val (.ref bP), .val (.ref bG)] [(.ref bP), (.ref bP)])
      refine Go.by (fun _ gk => XT.acmpNo X51.here hx rfl (hb hby at_59) rfl rfl rfl (XT.aa_ne_f rfl) gk) ?_
      show Go _ _ _ _ T51 (mkF m 62 #[.val (.int p0), .val (.int p1), .val (.int p2), .val (.int p3), .val (.ref bP), .val (.ref bG), .val (.ref k), .val (.ref bP), .val (.ref bG)] [])
      refine Go.by (fun _ gk => XS.aload X51.here hx rfl (hb hby at_62) rfl rfl gk) ?_
      show Go _ _ _ _ T51 (mkF m 64 #[.val (.int p0), .val (.int p1), .val (.int p2), .val (.int p3), .val (.ref bP), .val (.ref bG), .val (.ref k), .val (.ref bP), .val (.ref bG)] [(.ref bG)])
      refine Go.by (fun _ gk => XS.aload X51.here hx rfl (hb hby at_64) rfl rfl gk) ?_
      show Go _ _ _ _ T51 (mkF m 66 #[.val (.int p0), .val (.int p1), .val (.int p2), .val (.int p3), .val (.ref bP), .val (.ref bG), .val (.ref k), .val (.ref bP), .val (.ref bG)] [(.ref bG), (.ref bG)])
      refine Go.by (fun _ gk => XT.acmpNo X51.here hx rfl (hb hby at_66) rfl rfl rfl (XT.aa_ne_f rfl) gk) ?_
      show Go _ _ _ _ T51 (mkF m 69 #[.val (.int p0), .val (.int p1), .val (.int p2), .val (.int p3), .val (.ref bP), .val (.ref bG), .val (.ref k), .val (.ref bP), .val (.ref bG)] [])
      refine Go.by (fun _ gk => XT.iconstV X51.here hx rfl (1 : Int32) (hb hby at_69) (by decide) gk) ?_
      show Go _ _ _ _ T51 (mkF m 70 #[.val (.int p0), .val (.int p1), .val (.int p2), .val (.int p3), .val (.ref bP), .val (.ref bG), .val (.ref k), .val (.ref bP), .val (.ref bG)] [(.int (1 : Int32))])
      refine Go.by (fun _ gk => XS.goto X51.here hx rfl (pc0 := 70) (pc' := 74) rfl (hb hby at_70) (by decide) (by decide) gk) ?_
      show Go _ _ _ _ T51 (mkF m 74 #[.val (.int p0), .val (.int p1), .val (.int p2), .val (.int p3), .val (.ref bP), .val (.ref bG), .val (.ref k), .val (.ref bP), .val (.ref bG)] [(.int (1 : Int32))])
      exact Go.retI X51 hx Bd.notSynchronized Bd.returns rfl (by simp) (hb hby at_74) (by rw [e51]; exact ⟨rfl, N51⟩) (by decide) (by decide)
    · obtain ⟨_, _, ⟨T52, L52, k52, n52⟩, -, X52, ⟨Lc52, hQ52, l52, y52, z52⟩, st52⟩ := Jvm.LawKit.callS X0 hx (y := (⟨"com/example/attache/attache/PendingKeyResolvedPinLaw", "make", "(II)Ljava/lang/Object;"⟩ : MethodName)) hown (mvT hZ (hw _ (List.mem_of_getElem? (i := 0) rfl))) (mvT hZ (hw _ (List.mem_of_getElem? (i := 1) rfl))) (mvT hZ (hw _ (List.mem_of_getElem? (i := 2) rfl))) (mvT hZ (hw _ (List.mem_of_getElem? (i := 3) rfl))) (by decide) (backOf (W := 0) (rmMake0 l Z a0 hw [] p0 p1 caI ccI caJ ccJ cs h0 n0 Z0 O0 hi S_cacheI B_I S_high S_cacheJ B_J S_cs n_cs) hZ (hw _ (List.mem_of_getElem? (i := 3) rfl)) (hw _ (List.mem_of_getElem? (i := 2) rfl)) (by decide) (by decide)) (g := (mkF m 2 #[.val (.int p0), .val (.int p1), .val (.int p2), .val (.int p3), .unset, .unset, .unset, .unset, .unset] [(.int p1), (.int p0)])) rfl (by rw [hml]; rfl) (argsL := [(.int p0), (.int p1)]) (rest := []) (lenOf pd_230 rfl) rfl (by show 2 * 0 + _ ≤ _; exact Nat.le_of_eq rfl) (hb hby at_2) (fun _ _ => ⟨rfl, e0, (by decide : 0 + 1 ≤ _), (by decide : 0 + 1 ≤ _)⟩)
      dsimp only [Pt.U, Pt.locs, Pt.cells, Pt.slots] at X52 l52 y52 z52 st52 hQ52
      subst l52 y52 z52
      obtain ⟨bP, rfl, N52q, K52, Q52_0⟩ := hQ52
      have N52 := Fr.app N0 N52q
      refine Go.by st52 ?_
      show Go _ _ _ _ T52 (mkF m 5 #[.val (.int p0), .val (.int p1), .val (.int p2), .val (.int p3), .unset, .unset, .unset, .unset, .unset] [(.ref bP)])
      refine Go.by (fun _ gk => XS.astore X52.here hx rfl (hb hby at_5) rfl rfl (l' := #[.val (.int p0), .val (.int p1), .val (.int p2), .val (.int p3), .val (.ref bP), .unset, .unset, .unset, .unset]) rfl gk) ?_
      show Go _ _ _ _ T52 (mkF m 7 #[.val (.int p0), .val (.int p1), .val (.int p2), .val (.int p3), .val (.ref bP), .unset, .unset, .unset, .unset] [])
      refine Go.by (fun _ gk => XS.iloadN X52.here hx rfl (hb hby at_7) rfl gk) ?_
      show Go _ _ _ _ T52 (mkF m 8 #[.val (.int p0), .val (.int p1), .val (.int p2), .val (.int p3), .val (.ref bP), .unset, .unset, .unset, .unset] [(.int p2)])
      refine Go.by (fun _ gk => XS.iloadN X52.here hx rfl (hb hby at_8) rfl gk) ?_
      show Go _ _ _ _ T52 (mkF m 9 #[.val (.int p0), .val (.int p1), .val (.int p2), .val (.int p3), .val (.ref bP), .unset, .unset, .unset, .unset] [(.int p3), (.int p2)])
      have F53 : Old Z n0 T52.heap := O0.keep K52 all0
      have F54 : n0 ≤ T52.heap.size := Nat.le_trans Z0 K52.1
      obtain ⟨_, _, ⟨T55, L55, k55, n55⟩, -, X55, ⟨Lc55, hQ55, l55, y55, z55⟩, st55⟩ := Jvm.LawKit.callS X52 hx (y := (⟨"com/example/attache/attache/PendingKeyResolvedPinLaw", "make", "(II)Ljava/lang/Object;"⟩ : MethodName)) hown (mvT hZ (hw _ (List.mem_of_getElem? (i := 0) rfl))) (mvT hZ (hw _ (List.mem_of_getElem? (i := 1) rfl))) (mvT hZ (hw _ (List.mem_of_getElem? (i := 2) rfl))) (mvT hZ (hw _ (List.mem_of_getElem? (i := 3) rfl))) (by decide) (backOf (W := 0) (rmMake3 l Z a0 hw [] p2 p3 caI ccI caJ ccJ cs T52.heap n0 F54 F53 hj S_cacheI B_I S_high S_cacheJ B_J S_cs n_cs) hZ (hw _ (List.mem_of_getElem? (i := 3) rfl)) (hw _ (List.mem_of_getElem? (i := 2) rfl)) (by decide) (by decide)) (g := (mkF m 9 #[.val (.int p0), .val (.int p1), .val (.int p2), .val (.int p3), .val (.ref bP), .unset, .unset, .unset, .unset] [(.int p3), (.int p2)])) rfl (by rw [hml]; rfl) (argsL := [(.int p2), (.int p3)]) (rest := []) (lenOf pd_230 rfl) rfl (by show 2 * 0 + _ ≤ _; exact Nat.le_of_eq rfl) (hb hby at_9) (fun _ _ => ⟨rfl, rfl, (by decide : 1 + 0 ≤ _), (by decide : 1 + 0 ≤ _)⟩)
      dsimp only [Pt.U, Pt.locs, Pt.cells, Pt.slots] at X55 l55 y55 z55 st55 hQ55
      subst l55 y55 z55
      obtain ⟨rfl, N55q, K55⟩ := hQ55
      have N55 := Fr.app N52 N55q
      refine Go.by st55 ?_
      show Go _ _ _ _ T55 (mkF m 12 #[.val (.int p0), .val (.int p1), .val (.int p2), .val (.int p3), .val (.ref bP), .unset, .unset, .unset, .unset] [.null])
      refine Go.by (fun _ gk => XS.astore X55.here hx rfl (hb hby at_12) rfl rfl (l' := #[.val (.int p0), .val (.int p1), .val (.int p2), .val (.int p3), .val (.ref bP), .val .null, .unset, .unset, .unset]) rfl gk) ?_
      show Go _ _ _ _ T55 (mkF m 14 #[.val (.int p0), .val (.int p1), .val (.int p2), .val (.int p3), .val (.ref bP), .val .null, .unset, .unset, .unset] [])
      refine Go.by (fun _ gk => XS.aload X55.here hx rfl (hb hby at_14) rfl rfl gk) ?_
      show Go _ _ _ _ T55 (mkF m 16 #[.val (.int p0), .val (.int p1), .val (.int p2), .val (.int p3), .val (.ref bP), .val .null, .unset, .unset, .unset] [.null])
      refine Go.by (fun _ gk => XT.nonnullNo X55.here hx rfl (hb hby at_16) rfl rfl gk) ?_
      show Go _ _ _ _ T55 (mkF m 19 #[.val (.int p0), .val (.int p1), .val (.int p2), .val (.int p3), .val (.ref bP), .val .null, .unset, .unset, .unset] [])
      refine Go.by (fun _ gk => XS.iloadN X55.here hx rfl (hb hby at_19) rfl gk) ?_
      show Go _ _ _ _ T55 (mkF m 20 #[.val (.int p0), .val (.int p1), .val (.int p2), .val (.int p3), .val (.ref bP), .val .null, .unset, .unset, .unset] [(.int p3)])
      have F56 : Old Z n0 T55.heap := F53.keep K55 all0
      have F57 : n0 ≤ T55.heap.size := Nat.le_trans F54 K55.1
      obtain ⟨_, _, ⟨T58, L58, k58, n58⟩, -, X58, ⟨Lc58, hQ58, l58, y58, z58⟩, st58⟩ := Jvm.LawKit.callS X55 hx (y := (⟨"java/lang/Integer", "valueOf", "(I)Ljava/lang/Integer;"⟩ : MethodName)) hown (mvT hZ (hw _ (List.mem_of_getElem? (i := 4) rfl))) (mvT hZ (hw _ (List.mem_of_getElem? (i := 5) rfl))) (mvT hZ (hw _ (List.mem_of_getElem? (i := 6) rfl))) (mvT hZ (hw _ (List.mem_of_getElem? (i := 7) rfl))) (by decide) (backOf (W := 0) (rmValueOfI l Z a0 hw [] p3 caI ccI T55.heap n0 F57 F56 S_cacheI B_I S_high) hZ (hw _ (List.mem_of_getElem? (i := 7) rfl)) (hw _ (List.mem_of_getElem? (i := 6) rfl)) (by decide) (by decide)) (g := (mkF m 20 #[.val (.int p0), .val (.int p1), .val (.int p2), .val (.int p3), .val (.ref bP), .val .null, .unset, .unset, .unset] [(.int p3)])) rfl (by rw [hml]; rfl) (argsL := [(.int p3)]) (rest := []) (lenOf pd_160 rfl) rfl (by show 2 * 0 + _ ≤ _; exact Nat.le_of_eq rfl) (hb hby at_20) (fun _ _ => ⟨rfl, rfl, (by decide : 1 + 1 ≤ _), (by decide : 1 + 1 ≤ _)⟩)
      dsimp only [Pt.U, Pt.locs, Pt.cells, Pt.slots] at X58 l58 y58 z58 st58 hQ58
      subst l58 y58 z58
      obtain ⟨bG, rfl, N58q, K58, Q58_0, Q58_1⟩ := hQ58
      have N58 := Fr.app N55 N58q
      refine Go.by st58 ?_
      show Go _ _ _ _ T58 (mkF m 23 #[.val (.int p0), .val (.int p1), .val (.int p2), .val (.int p3), .val (.ref bP), .val .null, .unset, .unset, .unset] [(.ref bG)])
      refine Go.by (fun _ gk => XS.astore X58.here hx rfl (hb hby at_23) rfl rfl (l' := #[.val (.int p0), .val (.int p1), .val (.int p2), .val (.int p3), .val (.ref bP), .val (.ref bG), .unset, .unset, .unset]) rfl gk) ?_
      show Go _ _ _ _ T58 (mkF m 25 #[.val (.int p0), .val (.int p1), .val (.int p2), .val (.int p3), .val (.ref bP), .val (.ref bG), .unset, .unset, .unset] [])
      have F60 : n0 ≤ T58.heap.size := Nat.le_trans F57 K58.1
      obtain ⟨k, g59⟩ : ∃ z, z = T58.heap.size := ⟨_, rfl⟩
      have ge_k : n0 ≤ k := Nat.le_trans F60 (Nat.le_of_eq g59.symm)
      have F61 : Keep h0 T52.heap [] := (Keep.refl h0 []).trans K52 all0
      have F62 : Keep h0 T55.heap [] := F61.trans K55 all0
      have F63 : Keep h0 T58.heap [] := F62.trans K58 all0
      have sz_k : h0.size ≤ k := Nat.le_trans F63.1 (Nat.le_of_eq g59.symm)
      have ne_bG_k : bG ≠ k := Nat.ne_of_lt (Nat.lt_of_lt_of_le Q58_0.lt (Nat.le_of_eq g59.symm))
      have F64 : Exa Z T55.heap bP "java/lang/Integer" := Q52_0.keep K55
      have F65 : Exa Z T58.heap bP "java/lang/Integer" := F64.keep K58
      have ne_bP_k : bP ≠ k := Nat.ne_of_lt (Nat.lt_of_lt_of_le F65.lt (Nat.le_of_eq g59.symm))
      obtain ⟨T59, h59, X59, e59, E59, A59, D59, -, st59⟩ := newO X58 hx hZ hown (hw _ (List.mem_of_getElem? (i := 41) rfl)) (hw _ (List.mem_of_getElem? (i := 42) rfl)) (hw _ (List.mem_of_getElem? (i := 43) rfl)) rfl (g := (mkF m 25 #[.val (.int p0), .val (.int p1), .val (.int p2), .val (.int p3), .val (.ref bP), .val (.ref bG), .unset, .unset, .unset] [])) rfl (hb hby at_25) (by decide) (by decide)
      rw [← g59] at A59 D59 st59
      have F_generated_k : Fld Z h59 k "com/example/attache/attache/PendingKey" "generated" "Ljava/lang/Object;" .null := D59 (Or.inl (hw _ (List.mem_of_getElem? (i := 54) rfl))) (ty := (.object "java/lang/Object")) (by decide)
      refine Go.by st59 ?_
      show Go _ _ _ _ T59 (mkF m 28 #[.val (.int p0), .val (.int p1), .val (.int p2), .val (.int p3), .val (.ref bP), .val (.ref bG), .unset, .unset, .unset] [(.ref k)])
      refine Go.by (fun _ gk => XS.dup X59.here hx rfl (hb hby at_28) rfl rfl gk) ?_
      show Go _ _ _ _ T59 (mkF m 29 #[.val (.int p0), .val (.int p1), .val (.int p2), .val (.int p3), .val (.ref bP), .val (.ref bG), .unset, .unset, .unset] [(.ref k), (.ref k)])
      have F66 : n0 ≤ h59.size := Nat.le_trans F60 E59.1
      obtain ⟨_, _, ⟨T67, L67, k67, n67⟩, -, X67, ⟨Lc67, hQ67, l67, y67, z67⟩, st67⟩ := X59.specialBack hx (y := (⟨"com/example/attache/attache/PendingKey", "<init>", "()V"⟩ : MethodName)) rfl hown (mvT hZ (hw _ (List.mem_of_getElem? (i := 44) rfl))) (mvT hZ (hw _ (List.mem_of_getElem? (i := 45) rfl))) (mvT hZ (hw _ (List.mem_of_getElem? (i := 46) rfl))) (by decide) (backOf (W := 1) (rmPinit l Z a0 hw [] k h59 n0 F66 ) hZ (hw _ (List.mem_of_getElem? (i := 46) rfl)) (hw _ (List.mem_of_getElem? (i := 43) rfl)) (by decide) (by decide)) (g := (mkF m 29 #[.val (.int p0), .val (.int p1), .val (.int p2), .val (.int p3), .val (.ref bP), .val (.ref bG), .unset, .unset, .unset] [(.ref k), (.ref k)])) rfl (by rw [hml]; rfl) (Steps.refl _) (a := k) (argsL := []) (rest := [(.ref k)]) (lenOf pd_10 rfl) rfl (by show 2 * 0 + _ ≤ _; exact Nat.le_of_eq rfl) (hb hby at_29) (fun _ _ => ⟨rfl, e59, (by decide : 3 + 0 ≤ _), (by decide : 3 + 0 ≤ _)⟩)
      dsimp only [Pt.U, Pt.locs, Pt.cells, Pt.slots] at X67 l67 y67 z67 st67 hQ67
      subst l67 y67 z67
      obtain ⟨rfl, N67q, e67⟩ := hQ67
      have N67 := Fr.app N58 N67q
      refine Go.to st67 ?_
      show Go _ _ _ _ T67 (mkF m 32 #[.val (.int p0), .val (.int p1), .val (.int p2), .val (.int p3), .val (.ref bP), .val (.ref bG), .unset, .unset, .unset] [(.ref k)])
      refine Go.by (fun _ gk => XS.astore X67.here hx rfl (hb hby at_32) rfl rfl (l' := #[.val (.int p0), .val (.int p1), .val (.int p2), .val (.int p3), .val (.ref bP), .val (.ref bG), .val (.ref k), .unset, .unset]) rfl gk) ?_
      show Go _ _ _ _ T67 (mkF m 34 #[.val (.int p0), .val (.int p1), .val (.int p2), .val (.int p3), .val (.ref bP), .val (.ref bG), .val (.ref k), .unset, .unset] [])
      refine Go.by (fun _ gk => XS.aload X67.here hx rfl (hb hby at_34) rfl rfl gk) ?_
      show Go _ _ _ _ T67 (mkF m 36 #[.val (.int p0), .val (.int p1), .val (.int p2), .val (.int p3), .val (.ref bP), .val (.ref bG), .val (.ref k), .unset, .unset] [(.ref k)])
      refine Go.by (fun _ gk => XS.aload X67.here hx rfl (hb hby at_36) rfl rfl gk) ?_
      show Go _ _ _ _ T67 (mkF m 38 #[.val (.int p0), .val (.int p1), .val (.int p2), .val (.int p3), .val (.ref bP), .val (.ref bG), .val (.ref k), .unset, .unset] [(.ref bG), (.ref k)])
      obtain ⟨cq68, kq68, q68a, q68b, q68c⟩ := isOf hZ e67 A59
      obtain ⟨_, _, ⟨T68, L68, k68, n68⟩, -, X68, ⟨Lc68, hQ68, l68, y68, z68⟩, st68⟩ := X67.virtualBack hx (y := (⟨"com/example/attache/attache/PendingKey", "generated", "(Ljava/lang/Object;)V"⟩ : MethodName)) (z := (⟨"com/example/attache/attache/PendingKey", "generated", "(Ljava/lang/Object;)V"⟩ : MethodName)) hown (mvT hZ (hw _ (List.mem_of_getElem? (i := 48) rfl))) (mvT hZ (hw _ (List.mem_of_getElem? (i := 49) rfl))) (notFace_of_selects (args := #[]) (mvT hZ (hw _ (List.mem_of_getElem? (i := 51) rfl)))) (mvT hZ (hw _ (List.mem_of_getElem? (i := 51) rfl))) (mvT hZ (hw _ (List.mem_of_getElem? (i := 50) rfl))) (by decide) (backOf (W := 0) (rmPut l Z a0 hw [] k bG .null h59 n0 F66 A59 F_generated_k ge_k) hZ (hw _ (List.mem_of_getElem? (i := 52) rfl)) (hw _ (List.mem_of_getElem? (i := 43) rfl)) (by decide) (by decide)) q68a q68c (g := (mkF m 38 #[.val (.int p0), .val (.int p1), .val (.int p2), .val (.int p3), .val (.ref bP), .val (.ref bG), .val (.ref k), .unset, .unset] [(.ref bG), (.ref k)])) rfl (by rw [hml]; rfl) (Steps.refl _) (argsL := [(.ref bG)]) (rest := []) (lenOf pd_231 rfl) rfl (by show 2 * 0 + _ ≤ _; exact Nat.le_of_eq rfl) (hb hby at_38) (fun _ _ => ⟨rfl, e67, (by decide : 3 + 0 ≤ _), (by decide : 3 + 0 ≤ _)⟩)
      dsimp only [Pt.U, Pt.locs, Pt.cells, Pt.slots] at X68 l68 y68 z68 st68 hQ68
      subst l68 y68 z68
      obtain ⟨rfl, N68q, K68, Q68_0, Q68_1⟩ := hQ68
      have N68 := Fr.app N67 N68q
      refine Go.to st68 ?_
      show Go _ _ _ _ T68 (mkF m 41 #[.val (.int p0), .val (.int p1), .val (.int p2), .val (.int p3), .val (.ref bP), .val (.ref bG), .val (.ref k), .unset, .unset] [])
      refine Go.by (fun _ gk => XS.aload X68.here hx rfl (hb hby at_41) rfl rfl gk) ?_
      show Go _ _ _ _ T68 (mkF m 43 #[.val (.int p0), .val (.int p1), .val (.int p2), .val (.int p3), .val (.ref bP), .val (.ref bG), .val (.ref k), .unset, .unset] [(.ref bP)])
      have F69 : Exa Z h59 bP "java/lang/Integer" := F65.ext E59
      have F70 : Exa Z T68.heap bP "java/lang/Integer" := F69.keep K68
      have F71 : n0 ≤ T68.heap.size := Nat.le_trans F66 K68.1
      obtain ⟨_, _, ⟨T72, L72, k72, n72⟩, -, X72, ⟨Lc72, hQ72, l72, y72, z72⟩, st72⟩ := Jvm.LawKit.callS X68 hx (y := (⟨"com/example/attache/attache/PendingKey", "resolved", "(Ljava/lang/Object;)Ljava/lang/Object;"⟩ : MethodName)) hown (mvT hZ (hw _ (List.mem_of_getElem? (i := 55) rfl))) (mvT hZ (hw _ (List.mem_of_getElem? (i := 56) rfl))) (mvT hZ (hw _ (List.mem_of_getElem? (i := 43) rfl))) (mvT hZ (hw _ (List.mem_of_getElem? (i := 57) rfl))) (by decide) (backOf (W := 0) (rmRes0 l Z a0 hw [] bP T68.heap n0 F71 F70) hZ (hw _ (List.mem_of_getElem? (i := 57) rfl)) (hw _ (List.mem_of_getElem? (i := 43) rfl)) (by decide) (by decide)) (g := (mkF m 43 #[.val (.int p0), .val (.int p1), .val (.int p2), .val (.int p3), .val (.ref bP), .val (.ref bG), .val (.ref k), .unset, .unset] [(.ref bP)])) rfl (by rw [hml]; rfl) (argsL := [(.ref bP)]) (rest := []) (lenOf pd_232 rfl) rfl (by show 2 * 0 + _ ≤ _; exact Nat.le_of_eq rfl) (hb hby at_43) (fun _ _ => ⟨rfl, rfl, (by decide : 3 + 0 ≤ _), (by decide : 3 + 0 ≤ _)⟩)
      dsimp only [Pt.U, Pt.locs, Pt.cells, Pt.slots] at X72 l72 y72 z72 st72 hQ72
      subst l72 y72 z72
      obtain ⟨rfl, N72q, e72⟩ := hQ72
      have N72 := Fr.app N68 N72q
      refine Go.by st72 ?_
      show Go _ _ _ _ T72 (mkF m 46 #[.val (.int p0), .val (.int p1), .val (.int p2), .val (.int p3), .val (.ref bP), .val (.ref bG), .val (.ref k), .unset, .unset] [(.ref bP)])
      refine Go.by (fun _ gk => XS.astore X72.here hx rfl (hb hby at_46) rfl rfl (l' := #[.val (.int p0), .val (.int p1), .val (.int p2), .val (.int p3), .val (.ref bP), .val (.ref bG), .val (.ref k), .val (.ref bP), .unset]) rfl gk) ?_
      show Go _ _ _ _ T72 (mkF m 48 #[.val (.int p0), .val (.int p1), .val (.int p2), .val (.int p3), .val (.ref bP), .val (.ref bG), .val (.ref k), .val (.ref bP), .unset] [])
      refine Go.by (fun _ gk => XS.aload X72.here hx rfl (hb hby at_48) rfl rfl gk) ?_
      show Go _ _ _ _ T72 (mkF m 50 #[.val (.int p0), .val (.int p1), .val (.int p2), .val (.int p3), .val (.ref bP), .val (.ref bG), .val (.ref k), .val (.ref bP), .unset] [(.ref k)])
      obtain ⟨_, _, ⟨T73, L73, k73, n73⟩, -, X73, ⟨Lc73, hQ73, l73, y73, z73⟩, st73⟩ := Jvm.LawKit.callS X72 hx (y := (⟨"com/example/attache/attache/PendingKey", "resolved", "(Ljava/lang/Object;)Ljava/lang/Object;"⟩ : MethodName)) hown (mvT hZ (hw _ (List.mem_of_getElem? (i := 55) rfl))) (mvT hZ (hw _ (List.mem_of_getElem? (i := 56) rfl))) (mvT hZ (hw _ (List.mem_of_getElem? (i := 43) rfl))) (mvT hZ (hw _ (List.mem_of_getElem? (i := 57) rfl))) (by decide) (backOf (W := 0) (rmResP l Z a0 hw [] k bG T68.heap n0 F71 Q68_0 Q68_1) hZ (hw _ (List.mem_of_getElem? (i := 57) rfl)) (hw _ (List.mem_of_getElem? (i := 43) rfl)) (by decide) (by decide)) (g := (mkF m 50 #[.val (.int p0), .val (.int p1), .val (.int p2), .val (.int p3), .val (.ref bP), .val (.ref bG), .val (.ref k), .val (.ref bP), .unset] [(.ref k)])) rfl (by rw [hml]; rfl) (argsL := [(.ref k)]) (rest := []) (lenOf pd_232 rfl) rfl (by show 2 * 0 + _ ≤ _; exact Nat.le_of_eq rfl) (hb hby at_50) (fun _ _ => ⟨rfl, e72, (by decide : 3 + 0 ≤ _), (by decide : 3 + 0 ≤ _)⟩)
      dsimp only [Pt.U, Pt.locs, Pt.cells, Pt.slots] at X73 l73 y73 z73 st73 hQ73
      subst l73 y73 z73
      obtain ⟨rfl, N73q, e73⟩ := hQ73
      have N73 := Fr.app N72 N73q
      refine Go.by st73 ?_
      show Go _ _ _ _ T73 (mkF m 53 #[.val (.int p0), .val (.int p1), .val (.int p2), .val (.int p3), .val (.ref bP), .val (.ref bG), .val (.ref k), .val (.ref bP), .unset] [(.ref bG)])
      refine Go.by (fun _ gk => XS.astore X73.here hx rfl (hb hby at_53) rfl rfl (l' := #[.val (.int p0), .val (.int p1), .val (.int p2), .val (.int p3), .val (.ref bP), .val (.ref bG), .val (.ref k), .val (.ref bP), .val (.ref bG)]) rfl gk) ?_
      show Go _ _ _ _ T73 (mkF m 55 #[.val (.int p0), .val (.int p1), .val (.int p2), .val (.int p3), .val (.ref bP), .val (.ref bG), .val (.ref k), .val (.ref bP), .val (.ref bG)] [])
      refine Go.by (fun _ gk => XS.aload X73.here hx rfl (hb hby at_55) rfl rfl gk) ?_
      show Go _ _ _ _ T73 (mkF m 57 #[.val (.int p0), .val (.int p1), .val (.int p2), .val (.int p3), .val (.ref bP), .val (.ref bG), .val (.ref k), .val (.ref bP), .val (.ref bG)] [(.ref bP)])
      refine Go.by (fun _ gk => XS.aload X73.here hx rfl (hb hby at_57) rfl rfl gk) ?_
      show Go _ _ _ _ T73 (mkF m 59 #[.val (.int p0), .val (.int p1), .val (.int p2), .val (.int p3), .val (.ref bP), .val (.ref bG), .val (.ref k), .val (.ref bP), .val (.ref bG)] [(.ref bP), (.ref bP)])
      refine Go.by (fun _ gk => XT.acmpNo X73.here hx rfl (hb hby at_59) rfl rfl rfl (XT.aa_ne_f rfl) gk) ?_
      show Go _ _ _ _ T73 (mkF m 62 #[.val (.int p0), .val (.int p1), .val (.int p2), .val (.int p3), .val (.ref bP), .val (.ref bG), .val (.ref k), .val (.ref bP), .val (.ref bG)] [])
      refine Go.by (fun _ gk => XS.aload X73.here hx rfl (hb hby at_62) rfl rfl gk) ?_
      show Go _ _ _ _ T73 (mkF m 64 #[.val (.int p0), .val (.int p1), .val (.int p2), .val (.int p3), .val (.ref bP), .val (.ref bG), .val (.ref k), .val (.ref bP), .val (.ref bG)] [(.ref bG)])
      refine Go.by (fun _ gk => XS.aload X73.here hx rfl (hb hby at_64) rfl rfl gk) ?_
      show Go _ _ _ _ T73 (mkF m 66 #[.val (.int p0), .val (.int p1), .val (.int p2), .val (.int p3), .val (.ref bP), .val (.ref bG), .val (.ref k), .val (.ref bP), .val (.ref bG)] [(.ref bG), (.ref bG)])
      refine Go.by (fun _ gk => XT.acmpNo X73.here hx rfl (hb hby at_66) rfl rfl rfl (XT.aa_ne_f rfl) gk) ?_
      show Go _ _ _ _ T73 (mkF m 69 #[.val (.int p0), .val (.int p1), .val (.int p2), .val (.int p3), .val (.ref bP), .val (.ref bG), .val (.ref k), .val (.ref bP), .val (.ref bG)] [])
      refine Go.by (fun _ gk => XT.iconstV X73.here hx rfl (1 : Int32) (hb hby at_69) (by decide) gk) ?_
      show Go _ _ _ _ T73 (mkF m 70 #[.val (.int p0), .val (.int p1), .val (.int p2), .val (.int p3), .val (.ref bP), .val (.ref bG), .val (.ref k), .val (.ref bP), .val (.ref bG)] [(.int (1 : Int32))])
      refine Go.by (fun _ gk => XS.goto X73.here hx rfl (pc0 := 70) (pc' := 74) rfl (hb hby at_70) (by decide) (by decide) gk) ?_
      show Go _ _ _ _ T73 (mkF m 74 #[.val (.int p0), .val (.int p1), .val (.int p2), .val (.int p3), .val (.ref bP), .val (.ref bG), .val (.ref k), .val (.ref bP), .val (.ref bG)] [(.int (1 : Int32))])
      exact Go.retI X73 hx Bd.notSynchronized Bd.returns rfl (by simp) (hb hby at_74) (by rw [e73]; exact ⟨rfl, N73⟩) (by decide) (by decide)
  · rcases own_and3 p2 with hj | hj | hj | hj
    · obtain ⟨_, _, ⟨T74, L74, k74, n74⟩, -, X74, ⟨Lc74, hQ74, l74, y74, z74⟩, st74⟩ := Jvm.LawKit.callS X0 hx (y := (⟨"com/example/attache/attache/PendingKeyResolvedPinLaw", "make", "(II)Ljava/lang/Object;"⟩ : MethodName)) hown (mvT hZ (hw _ (List.mem_of_getElem? (i := 0) rfl))) (mvT hZ (hw _ (List.mem_of_getElem? (i := 1) rfl))) (mvT hZ (hw _ (List.mem_of_getElem? (i := 2) rfl))) (mvT hZ (hw _ (List.mem_of_getElem? (i := 3) rfl))) (by decide) (backOf (W := 0) (rmMake1 l Z a0 hw [] p0 p1 caI ccI caJ ccJ cs h0 n0 Z0 O0 hi S_cacheI B_I S_high S_cacheJ B_J S_cs n_cs) hZ (hw _ (List.mem_of_getElem? (i := 3) rfl)) (hw _ (List.mem_of_getElem? (i := 2) rfl)) (by decide) (by decide)) (g := (mkF m 2 #[.val (.int p0), .val (.int p1), .val (.int p2), .val (.int p3), .unset, .unset, .unset, .unset, .unset] [(.int p1), (.int p0)])) rfl (by rw [hml]; rfl) (argsL := [(.int p0), (.int p1)]) (rest := []) (lenOf pd_230 rfl) rfl (by show 2 * 0 + _ ≤ _; exact Nat.le_of_eq rfl) (hb hby at_2) (fun _ _ => ⟨rfl, e0, (by decide : 0 + 1 ≤ _), (by decide : 0 + 1 ≤ _)⟩)
      dsimp only [Pt.U, Pt.locs, Pt.cells, Pt.slots] at X74 l74 y74 z74 st74 hQ74
      subst l74 y74 z74
      obtain ⟨bP, rfl, N74q, K74, Q74_0⟩ := hQ74
      have N74 := Fr.app N0 N74q
      refine Go.by st74 ?_
      show Go _ _ _ _ T74 (mkF m 5 #[.val (.int p0), .val (.int p1), .val (.int p2), .val (.int p3), .unset, .unset, .unset, .unset, .unset] [(.ref bP)])
      refine Go.by (fun _ gk => XS.astore X74.here hx rfl (hb hby at_5) rfl rfl (l' := #[.val (.int p0), .val (.int p1), .val (.int p2), .val (.int p3), .val (.ref bP), .unset, .unset, .unset, .unset]) rfl gk) ?_
      show Go _ _ _ _ T74 (mkF m 7 #[.val (.int p0), .val (.int p1), .val (.int p2), .val (.int p3), .val (.ref bP), .unset, .unset, .unset, .unset] [])
      refine Go.by (fun _ gk => XS.iloadN X74.here hx rfl (hb hby at_7) rfl gk) ?_
      show Go _ _ _ _ T74 (mkF m 8 #[.val (.int p0), .val (.int p1), .val (.int p2), .val (.int p3), .val (.ref bP), .unset, .unset, .unset, .unset] [(.int p2)])
      refine Go.by (fun _ gk => XS.iloadN X74.here hx rfl (hb hby at_8) rfl gk) ?_
      show Go _ _ _ _ T74 (mkF m 9 #[.val (.int p0), .val (.int p1), .val (.int p2), .val (.int p3), .val (.ref bP), .unset, .unset, .unset, .unset] [(.int p3), (.int p2)])
      have F75 : Old Z n0 T74.heap := O0.keep K74 all0
      have F76 : n0 ≤ T74.heap.size := Nat.le_trans Z0 K74.1
      obtain ⟨_, _, ⟨T77, L77, k77, n77⟩, -, X77, ⟨Lc77, hQ77, l77, y77, z77⟩, st77⟩ := Jvm.LawKit.callS X74 hx (y := (⟨"com/example/attache/attache/PendingKeyResolvedPinLaw", "make", "(II)Ljava/lang/Object;"⟩ : MethodName)) hown (mvT hZ (hw _ (List.mem_of_getElem? (i := 0) rfl))) (mvT hZ (hw _ (List.mem_of_getElem? (i := 1) rfl))) (mvT hZ (hw _ (List.mem_of_getElem? (i := 2) rfl))) (mvT hZ (hw _ (List.mem_of_getElem? (i := 3) rfl))) (by decide) (backOf (W := 0) (rmMake0 l Z a0 hw [] p2 p3 caI ccI caJ ccJ cs T74.heap n0 F76 F75 hj S_cacheI B_I S_high S_cacheJ B_J S_cs n_cs) hZ (hw _ (List.mem_of_getElem? (i := 3) rfl)) (hw _ (List.mem_of_getElem? (i := 2) rfl)) (by decide) (by decide)) (g := (mkF m 9 #[.val (.int p0), .val (.int p1), .val (.int p2), .val (.int p3), .val (.ref bP), .unset, .unset, .unset, .unset] [(.int p3), (.int p2)])) rfl (by rw [hml]; rfl) (argsL := [(.int p2), (.int p3)]) (rest := []) (lenOf pd_230 rfl) rfl (by show 2 * 0 + _ ≤ _; exact Nat.le_of_eq rfl) (hb hby at_9) (fun _ _ => ⟨rfl, rfl, (by decide : 1 + 1 ≤ _), (by decide : 1 + 1 ≤ _)⟩)
      dsimp only [Pt.U, Pt.locs, Pt.cells, Pt.slots] at X77 l77 y77 z77 st77 hQ77
      subst l77 y77 z77
      obtain ⟨bG, rfl, N77q, K77, Q77_0⟩ := hQ77
      have N77 := Fr.app N74 N77q
      refine Go.by st77 ?_
      show Go _ _ _ _ T77 (mkF m 12 #[.val (.int p0), .val (.int p1), .val (.int p2), .val (.int p3), .val (.ref bP), .unset, .unset, .unset, .unset] [(.ref bG)])
      refine Go.by (fun _ gk => XS.astore X77.here hx rfl (hb hby at_12) rfl rfl (l' := #[.val (.int p0), .val (.int p1), .val (.int p2), .val (.int p3), .val (.ref bP), .val (.ref bG), .unset, .unset, .unset]) rfl gk) ?_
      show Go _ _ _ _ T77 (mkF m 14 #[.val (.int p0), .val (.int p1), .val (.int p2), .val (.int p3), .val (.ref bP), .val (.ref bG), .unset, .unset, .unset] [])
      refine Go.by (fun _ gk => XS.aload X77.here hx rfl (hb hby at_14) rfl rfl gk) ?_
      show Go _ _ _ _ T77 (mkF m 16 #[.val (.int p0), .val (.int p1), .val (.int p2), .val (.int p3), .val (.ref bP), .val (.ref bG), .unset, .unset, .unset] [(.ref bG)])
      refine Go.by (fun _ gk => XT.nonnullYes X77.here hx rfl (pc0 := 16) (pc' := 25) rfl (hb hby at_16) rfl rfl nofun (by decide) (by decide) gk) ?_
      show Go _ _ _ _ T77 (mkF m 25 #[.val (.int p0), .val (.int p1), .val (.int p2), .val (.int p3), .val (.ref bP), .val (.ref bG), .unset, .unset, .unset] [])
      have F79 : n0 ≤ T77.heap.size := Nat.le_trans F76 K77.1
      obtain ⟨k, g78⟩ : ∃ z, z = T77.heap.size := ⟨_, rfl⟩
      have ge_k : n0 ≤ k := Nat.le_trans F79 (Nat.le_of_eq g78.symm)
      have F80 : Keep h0 T74.heap [] := (Keep.refl h0 []).trans K74 all0
      have F81 : Keep h0 T77.heap [] := F80.trans K77 all0
      have sz_k : h0.size ≤ k := Nat.le_trans F81.1 (Nat.le_of_eq g78.symm)
      have ne_bG_k : bG ≠ k := Nat.ne_of_lt (Nat.lt_of_lt_of_le Q77_0.lt (Nat.le_of_eq g78.symm))
      have F82 : Exa Z T77.heap bP "java/lang/Long" := Q74_0.keep K77
      have ne_bP_k : bP ≠ k := Nat.ne_of_lt (Nat.lt_of_lt_of_le F82.lt (Nat.le_of_eq g78.symm))
      obtain ⟨T78, h78, X78, e78, E78, A78, D78, -, st78⟩ := newO X77 hx hZ hown (hw _ (List.mem_of_getElem? (i := 41) rfl)) (hw _ (List.mem_of_getElem? (i := 42) rfl)) (hw _ (List.mem_of_getElem? (i := 43) rfl)) rfl (g := (mkF m 25 #[.val (.int p0), .val (.int p1), .val (.int p2), .val (.int p3), .val (.ref bP), .val (.ref bG), .unset, .unset, .unset] [])) rfl (hb hby at_25) (by decide) (by decide)
      rw [← g78] at A78 D78 st78
      have F_generated_k : Fld Z h78 k "com/example/attache/attache/PendingKey" "generated" "Ljava/lang/Object;" .null := D78 (Or.inl (hw _ (List.mem_of_getElem? (i := 54) rfl))) (ty := (.object "java/lang/Object")) (by decide)
      refine Go.by st78 ?_
      show Go _ _ _ _ T78 (mkF m 28 #[.val (.int p0), .val (.int p1), .val (.int p2), .val (.int p3), .val (.ref bP), .val (.ref bG), .unset, .unset, .unset] [(.ref k)])
      refine Go.by (fun _ gk => XS.dup X78.here hx rfl (hb hby at_28) rfl rfl gk) ?_
      show Go _ _ _ _ T78 (mkF m 29 #[.val (.int p0), .val (.int p1), .val (.int p2), .val (.int p3), .val (.ref bP), .val (.ref bG), .unset, .unset, .unset] [(.ref k), (.ref k)])
      have F83 : n0 ≤ h78.size := Nat.le_trans F79 E78.1
      obtain ⟨_, _, ⟨T84, L84, k84, n84⟩, -, X84, ⟨Lc84, hQ84, l84, y84, z84⟩, st84⟩ := X78.specialBack hx (y := (⟨"com/example/attache/attache/PendingKey", "<init>", "()V"⟩ : MethodName)) rfl hown (mvT hZ (hw _ (List.mem_of_getElem? (i := 44) rfl))) (mvT hZ (hw _ (List.mem_of_getElem? (i := 45) rfl))) (mvT hZ (hw _ (List.mem_of_getElem? (i := 46) rfl))) (by decide) (backOf (W := 1) (rmPinit l Z a0 hw [] k h78 n0 F83 ) hZ (hw _ (List.mem_of_getElem? (i := 46) rfl)) (hw _ (List.mem_of_getElem? (i := 43) rfl)) (by decide) (by decide)) (g := (mkF m 29 #[.val (.int p0), .val (.int p1), .val (.int p2), .val (.int p3), .val (.ref bP), .val (.ref bG), .unset, .unset, .unset] [(.ref k), (.ref k)])) rfl (by rw [hml]; rfl) (Steps.refl _) (a := k) (argsL := []) (rest := [(.ref k)]) (lenOf pd_10 rfl) rfl (by show 2 * 0 + _ ≤ _; exact Nat.le_of_eq rfl) (hb hby at_29) (fun _ _ => ⟨rfl, e78, (by decide : 3 + 0 ≤ _), (by decide : 3 + 0 ≤ _)⟩)
      dsimp only [Pt.U, Pt.locs, Pt.cells, Pt.slots] at X84 l84 y84 z84 st84 hQ84
      subst l84 y84 z84
      obtain ⟨rfl, N84q, e84⟩ := hQ84
      have N84 := Fr.app N77 N84q
      refine Go.to st84 ?_
      show Go _ _ _ _ T84 (mkF m 32 #[.val (.int p0), .val (.int p1), .val (.int p2), .val (.int p3), .val (.ref bP), .val (.ref bG), .unset, .unset, .unset] [(.ref k)])
      refine Go.by (fun _ gk => XS.astore X84.here hx rfl (hb hby at_32) rfl rfl (l' := #[.val (.int p0), .val (.int p1), .val (.int p2), .val (.int p3), .val (.ref bP), .val (.ref bG), .val (.ref k), .unset, .unset]) rfl gk) ?_
      show Go _ _ _ _ T84 (mkF m 34 #[.val (.int p0), .val (.int p1), .val (.int p2), .val (.int p3), .val (.ref bP), .val (.ref bG), .val (.ref k), .unset, .unset] [])
      refine Go.by (fun _ gk => XS.aload X84.here hx rfl (hb hby at_34) rfl rfl gk) ?_
      show Go _ _ _ _ T84 (mkF m 36 #[.val (.int p0), .val (.int p1), .val (.int p2), .val (.int p3), .val (.ref bP), .val (.ref bG), .val (.ref k), .unset, .unset] [(.ref k)])
      refine Go.by (fun _ gk => XS.aload X84.here hx rfl (hb hby at_36) rfl rfl gk) ?_
      show Go _ _ _ _ T84 (mkF m 38 #[.val (.int p0), .val (.int p1), .val (.int p2), .val (.int p3), .val (.ref bP), .val (.ref bG), .val (.ref k), .unset, .unset] [(.ref bG), (.ref k)])
      obtain ⟨cq85, kq85, q85a, q85b, q85c⟩ := isOf hZ e84 A78
      obtain ⟨_, _, ⟨T85, L85, k85, n85⟩, -, X85, ⟨Lc85, hQ85, l85, y85, z85⟩, st85⟩ := X84.virtualBack hx (y := (⟨"com/example/attache/attache/PendingKey", "generated", "(Ljava/lang/Object;)V"⟩ : MethodName)) (z := (⟨"com/example/attache/attache/PendingKey", "generated", "(Ljava/lang/Object;)V"⟩ : MethodName)) hown (mvT hZ (hw _ (List.mem_of_getElem? (i := 48) rfl))) (mvT hZ (hw _ (List.mem_of_getElem? (i := 49) rfl))) (notFace_of_selects (args := #[]) (mvT hZ (hw _ (List.mem_of_getElem? (i := 51) rfl)))) (mvT hZ (hw _ (List.mem_of_getElem? (i := 51) rfl))) (mvT hZ (hw _ (List.mem_of_getElem? (i := 50) rfl))) (by decide) (backOf (W := 0) (rmPut l Z a0 hw [] k bG .null h78 n0 F83 A78 F_generated_k ge_k) hZ (hw _ (List.mem_of_getElem? (i := 52) rfl)) (hw _ (List.mem_of_getElem? (i := 43) rfl)) (by decide) (by decide)) q85a q85c (g := (mkF m 38 #[.val (.int p0), .val (.int p1), .val (.int p2), .val (.int p3), .val (.ref bP), .val (.ref bG), .val (.ref k), .unset, .unset] [(.ref bG), (.ref k)])) rfl (by rw [hml]; rfl) (Steps.refl _) (argsL := [(.ref bG)]) (rest := []) (lenOf pd_231 rfl) rfl (by show 2 * 0 + _ ≤ _; exact Nat.le_of_eq rfl) (hb hby at_38) (fun _ _ => ⟨rfl, e84, (by decide : 3 + 0 ≤ _), (by decide : 3 + 0 ≤ _)⟩)
      dsimp only [Pt.U, Pt.locs, Pt.cells, Pt.slots] at X85 l85 y85 z85 st85 hQ85
      subst l85 y85 z85
      obtain ⟨rfl, N85q, K85, Q85_0, Q85_1⟩ := hQ85
      have N85 := Fr.app N84 N85q
      refine Go.to st85 ?_
      show Go _ _ _ _ T85 (mkF m 41 #[.val (.int p0), .val (.int p1), .val (.int p2), .val (.int p3), .val (.ref bP), .val (.ref bG), .val (.ref k), .unset, .unset] [])
      refine Go.by (fun _ gk => XS.aload X85.here hx rfl (hb hby at_41) rfl rfl gk) ?_
      show Go _ _ _ _ T85 (mkF m 43 #[.val (.int p0), .val (.int p1), .val (.int p2), .val (.int p3), .val (.ref bP), .val (.ref bG), .val (.ref k), .unset, .unset] [(.ref bP)])
      have F86 : Exa Z h78 bP "java/lang/Long" := F82.ext E78
      have F87 : Exa Z T85.heap bP "java/lang/Long" := F86.keep K85
      have F88 : n0 ≤ T85.heap.size := Nat.le_trans F83 K85.1
      obtain ⟨_, _, ⟨T89, L89, k89, n89⟩, -, X89, ⟨Lc89, hQ89, l89, y89, z89⟩, st89⟩ := Jvm.LawKit.callS X85 hx (y := (⟨"com/example/attache/attache/PendingKey", "resolved", "(Ljava/lang/Object;)Ljava/lang/Object;"⟩ : MethodName)) hown (mvT hZ (hw _ (List.mem_of_getElem? (i := 55) rfl))) (mvT hZ (hw _ (List.mem_of_getElem? (i := 56) rfl))) (mvT hZ (hw _ (List.mem_of_getElem? (i := 43) rfl))) (mvT hZ (hw _ (List.mem_of_getElem? (i := 57) rfl))) (by decide) (backOf (W := 0) (rmRes1 l Z a0 hw [] bP T85.heap n0 F88 F87) hZ (hw _ (List.mem_of_getElem? (i := 57) rfl)) (hw _ (List.mem_of_getElem? (i := 43) rfl)) (by decide) (by decide)) (g := (mkF m 43 #[.val (.int p0), .val (.int p1), .val (.int p2), .val (.int p3), .val (.ref bP), .val (.ref bG), .val (.ref k), .unset, .unset] [(.ref bP)])) rfl (by rw [hml]; rfl) (argsL := [(.ref bP)]) (rest := []) (lenOf pd_232 rfl) rfl (by show 2 * 0 + _ ≤ _; exact Nat.le_of_eq rfl) (hb hby at_43) (fun _ _ => ⟨rfl, rfl, (by decide : 3 + 0 ≤ _), (by decide : 3 + 0 ≤ _)⟩)
      dsimp only [Pt.U, Pt.locs, Pt.cells, Pt.slots] at X89 l89 y89 z89 st89 hQ89
      subst l89 y89 z89
      obtain ⟨rfl, N89q, e89⟩ := hQ89
      have N89 := Fr.app N85 N89q
      refine Go.by st89 ?_
      show Go _ _ _ _ T89 (mkF m 46 #[.val (.int p0), .val (.int p1), .val (.int p2), .val (.int p3), .val (.ref bP), .val (.ref bG), .val (.ref k), .unset, .unset] [(.ref bP)])
      refine Go.by (fun _ gk => XS.astore X89.here hx rfl (hb hby at_46) rfl rfl (l' := #[.val (.int p0), .val (.int p1), .val (.int p2), .val (.int p3), .val (.ref bP), .val (.ref bG), .val (.ref k), .val (.ref bP), .unset]) rfl gk) ?_
      show Go _ _ _ _ T89 (mkF m 48 #[.val (.int p0), .val (.int p1), .val (.int p2), .val (.int p3), .val (.ref bP), .val (.ref bG), .val (.ref k), .val (.ref bP), .unset] [])
      refine Go.by (fun _ gk => XS.aload X89.here hx rfl (hb hby at_48) rfl rfl gk) ?_
      show Go _ _ _ _ T89 (mkF m 50 #[.val (.int p0), .val (.int p1), .val (.int p2), .val (.int p3), .val (.ref bP), .val (.ref bG), .val (.ref k), .val (.ref bP), .unset] [(.ref k)])
      obtain ⟨_, _, ⟨T90, L90, k90, n90⟩, -, X90, ⟨Lc90, hQ90, l90, y90, z90⟩, st90⟩ := Jvm.LawKit.callS X89 hx (y := (⟨"com/example/attache/attache/PendingKey", "resolved", "(Ljava/lang/Object;)Ljava/lang/Object;"⟩ : MethodName)) hown (mvT hZ (hw _ (List.mem_of_getElem? (i := 55) rfl))) (mvT hZ (hw _ (List.mem_of_getElem? (i := 56) rfl))) (mvT hZ (hw _ (List.mem_of_getElem? (i := 43) rfl))) (mvT hZ (hw _ (List.mem_of_getElem? (i := 57) rfl))) (by decide) (backOf (W := 0) (rmResP l Z a0 hw [] k bG T85.heap n0 F88 Q85_0 Q85_1) hZ (hw _ (List.mem_of_getElem? (i := 57) rfl)) (hw _ (List.mem_of_getElem? (i := 43) rfl)) (by decide) (by decide)) (g := (mkF m 50 #[.val (.int p0), .val (.int p1), .val (.int p2), .val (.int p3), .val (.ref bP), .val (.ref bG), .val (.ref k), .val (.ref bP), .unset] [(.ref k)])) rfl (by rw [hml]; rfl) (argsL := [(.ref k)]) (rest := []) (lenOf pd_232 rfl) rfl (by show 2 * 0 + _ ≤ _; exact Nat.le_of_eq rfl) (hb hby at_50) (fun _ _ => ⟨rfl, e89, (by decide : 3 + 0 ≤ _), (by decide : 3 + 0 ≤ _)⟩)
      dsimp only [Pt.U, Pt.locs, Pt.cells, Pt.slots] at X90 l90 y90 z90 st90 hQ90
      subst l90 y90 z90
      obtain ⟨rfl, N90q, e90⟩ := hQ90
      have N90 := Fr.app N89 N90q
      refine Go.by st90 ?_
      show Go _ _ _ _ T90 (mkF m 53 #[.val (.int p0), .val (.int p1), .val (.int p2), .val (.int p3), .val (.ref bP), .val (.ref bG), .val (.ref k), .val (.ref bP), .unset] [(.ref bG)])
      refine Go.by (fun _ gk => XS.astore X90.here hx rfl (hb hby at_53) rfl rfl (l' := #[.val (.int p0), .val (.int p1), .val (.int p2), .val (.int p3), .val (.ref bP), .val (.ref bG), .val (.ref k), .val (.ref bP), .val (.ref bG)]) rfl gk) ?_
      show Go _ _ _ _ T90 (mkF m 55 #[.val (.int p0), .val (.int p1), .val (.int p2), .val (.int p3), .val (.ref bP), .val (.ref bG), .val (.ref k), .val (.ref bP), .val (.ref bG)] [])
      refine Go.by (fun _ gk => XS.aload X90.here hx rfl (hb hby at_55) rfl rfl gk) ?_
      show Go _ _ _ _ T90 (mkF m 57 #[.val (.int p0), .val (.int p1), .val (.int p2), .val (.int p3), .val (.ref bP), .val (.ref bG), .val (.ref k), .val (.ref bP), .val (.ref bG)] [(.ref bP)])
      refine Go.by (fun _ gk => XS.aload X90.here hx rfl (hb hby at_57) rfl rfl gk) ?_
      show Go _ _ _ _ T90 (mkF m 59 #[.val (.int p0), .val (.int p1), .val (.int p2), .val (.int p3), .val (.ref bP), .val (.ref bG), .val (.ref k), .val (.ref bP), .val (.ref bG)] [(.ref bP), (.ref bP)])
      refine Go.by (fun _ gk => XT.acmpNo X90.here hx rfl (hb hby at_59) rfl rfl rfl (XT.aa_ne_f rfl) gk) ?_
      show Go _ _ _ _ T90 (mkF m 62 #[.val (.int p0), .val (.int p1), .val (.int p2), .val (.int p3), .val (.ref bP), .val (.ref bG), .val (.ref k), .val (.ref bP), .val (.ref bG)] [])
      refine Go.by (fun _ gk => XS.aload X90.here hx rfl (hb hby at_62) rfl rfl gk) ?_
      show Go _ _ _ _ T90 (mkF m 64 #[.val (.int p0), .val (.int p1), .val (.int p2), .val (.int p3), .val (.ref bP), .val (.ref bG), .val (.ref k), .val (.ref bP), .val (.ref bG)] [(.ref bG)])
      refine Go.by (fun _ gk => XS.aload X90.here hx rfl (hb hby at_64) rfl rfl gk) ?_
      show Go _ _ _ _ T90 (mkF m 66 #[.val (.int p0), .val (.int p1), .val (.int p2), .val (.int p3), .val (.ref bP), .val (.ref bG), .val (.ref k), .val (.ref bP), .val (.ref bG)] [(.ref bG), (.ref bG)])
      refine Go.by (fun _ gk => XT.acmpNo X90.here hx rfl (hb hby at_66) rfl rfl rfl (XT.aa_ne_f rfl) gk) ?_
      show Go _ _ _ _ T90 (mkF m 69 #[.val (.int p0), .val (.int p1), .val (.int p2), .val (.int p3), .val (.ref bP), .val (.ref bG), .val (.ref k), .val (.ref bP), .val (.ref bG)] [])
      refine Go.by (fun _ gk => XT.iconstV X90.here hx rfl (1 : Int32) (hb hby at_69) (by decide) gk) ?_
      show Go _ _ _ _ T90 (mkF m 70 #[.val (.int p0), .val (.int p1), .val (.int p2), .val (.int p3), .val (.ref bP), .val (.ref bG), .val (.ref k), .val (.ref bP), .val (.ref bG)] [(.int (1 : Int32))])
      refine Go.by (fun _ gk => XS.goto X90.here hx rfl (pc0 := 70) (pc' := 74) rfl (hb hby at_70) (by decide) (by decide) gk) ?_
      show Go _ _ _ _ T90 (mkF m 74 #[.val (.int p0), .val (.int p1), .val (.int p2), .val (.int p3), .val (.ref bP), .val (.ref bG), .val (.ref k), .val (.ref bP), .val (.ref bG)] [(.int (1 : Int32))])
      exact Go.retI X90 hx Bd.notSynchronized Bd.returns rfl (by simp) (hb hby at_74) (by rw [e90]; exact ⟨rfl, N90⟩) (by decide) (by decide)
    · obtain ⟨_, _, ⟨T91, L91, k91, n91⟩, -, X91, ⟨Lc91, hQ91, l91, y91, z91⟩, st91⟩ := Jvm.LawKit.callS X0 hx (y := (⟨"com/example/attache/attache/PendingKeyResolvedPinLaw", "make", "(II)Ljava/lang/Object;"⟩ : MethodName)) hown (mvT hZ (hw _ (List.mem_of_getElem? (i := 0) rfl))) (mvT hZ (hw _ (List.mem_of_getElem? (i := 1) rfl))) (mvT hZ (hw _ (List.mem_of_getElem? (i := 2) rfl))) (mvT hZ (hw _ (List.mem_of_getElem? (i := 3) rfl))) (by decide) (backOf (W := 0) (rmMake1 l Z a0 hw [] p0 p1 caI ccI caJ ccJ cs h0 n0 Z0 O0 hi S_cacheI B_I S_high S_cacheJ B_J S_cs n_cs) hZ (hw _ (List.mem_of_getElem? (i := 3) rfl)) (hw _ (List.mem_of_getElem? (i := 2) rfl)) (by decide) (by decide)) (g := (mkF m 2 #[.val (.int p0), .val (.int p1), .val (.int p2), .val (.int p3), .unset, .unset, .unset, .unset, .unset] [(.int p1), (.int p0)])) rfl (by rw [hml]; rfl) (argsL := [(.int p0), (.int p1)]) (rest := []) (lenOf pd_230 rfl) rfl (by show 2 * 0 + _ ≤ _; exact Nat.le_of_eq rfl) (hb hby at_2) (fun _ _ => ⟨rfl, e0, (by decide : 0 + 1 ≤ _), (by decide : 0 + 1 ≤ _)⟩)
      dsimp only [Pt.U, Pt.locs, Pt.cells, Pt.slots] at X91 l91 y91 z91 st91 hQ91
      subst l91 y91 z91
      obtain ⟨bP, rfl, N91q, K91, Q91_0⟩ := hQ91
      have N91 := Fr.app N0 N91q
      refine Go.by st91 ?_
      show Go _ _ _ _ T91 (mkF m 5 #[.val (.int p0), .val (.int p1), .val (.int p2), .val (.int p3), .unset, .unset, .unset, .unset, .unset] [(.ref bP)])
      refine Go.by (fun _ gk => XS.astore X91.here hx rfl (hb hby at_5) rfl rfl (l' := #[.val (.int p0), .val (.int p1), .val (.int p2), .val (.int p3), .val (.ref bP), .unset, .unset, .unset, .unset]) rfl gk) ?_
      show Go _ _ _ _ T91 (mkF m 7 #[.val (.int p0), .val (.int p1), .val (.int p2), .val (.int p3), .val (.ref bP), .unset, .unset, .unset, .unset] [])
      refine Go.by (fun _ gk => XS.iloadN X91.here hx rfl (hb hby at_7) rfl gk) ?_
      show Go _ _ _ _ T91 (mkF m 8 #[.val (.int p0), .val (.int p1), .val (.int p2), .val (.int p3), .val (.ref bP), .unset, .unset, .unset, .unset] [(.int p2)])
      refine Go.by (fun _ gk => XS.iloadN X91.here hx rfl (hb hby at_8) rfl gk) ?_
      show Go _ _ _ _ T91 (mkF m 9 #[.val (.int p0), .val (.int p1), .val (.int p2), .val (.int p3), .val (.ref bP), .unset, .unset, .unset, .unset] [(.int p3), (.int p2)])
      have F92 : Old Z n0 T91.heap := O0.keep K91 all0
      have F93 : n0 ≤ T91.heap.size := Nat.le_trans Z0 K91.1
      obtain ⟨_, _, ⟨T94, L94, k94, n94⟩, -, X94, ⟨Lc94, hQ94, l94, y94, z94⟩, st94⟩ := Jvm.LawKit.callS X91 hx (y := (⟨"com/example/attache/attache/PendingKeyResolvedPinLaw", "make", "(II)Ljava/lang/Object;"⟩ : MethodName)) hown (mvT hZ (hw _ (List.mem_of_getElem? (i := 0) rfl))) (mvT hZ (hw _ (List.mem_of_getElem? (i := 1) rfl))) (mvT hZ (hw _ (List.mem_of_getElem? (i := 2) rfl))) (mvT hZ (hw _ (List.mem_of_getElem? (i := 3) rfl))) (by decide) (backOf (W := 0) (rmMake1 l Z a0 hw [] p2 p3 caI ccI caJ ccJ cs T91.heap n0 F93 F92 hj S_cacheI B_I S_high S_cacheJ B_J S_cs n_cs) hZ (hw _ (List.mem_of_getElem? (i := 3) rfl)) (hw _ (List.mem_of_getElem? (i := 2) rfl)) (by decide) (by decide)) (g := (mkF m 9 #[.val (.int p0), .val (.int p1), .val (.int p2), .val (.int p3), .val (.ref bP), .unset, .unset, .unset, .unset] [(.int p3), (.int p2)])) rfl (by rw [hml]; rfl) (argsL := [(.int p2), (.int p3)]) (rest := []) (lenOf pd_230 rfl) rfl (by show 2 * 0 + _ ≤ _; exact Nat.le_of_eq rfl) (hb hby at_9) (fun _ _ => ⟨rfl, rfl, (by decide : 1 + 1 ≤ _), (by decide : 1 + 1 ≤ _)⟩)
      dsimp only [Pt.U, Pt.locs, Pt.cells, Pt.slots] at X94 l94 y94 z94 st94 hQ94
      subst l94 y94 z94
      obtain ⟨bG, rfl, N94q, K94, Q94_0⟩ := hQ94
      have N94 := Fr.app N91 N94q
      refine Go.by st94 ?_
      show Go _ _ _ _ T94 (mkF m 12 #[.val (.int p0), .val (.int p1), .val (.int p2), .val (.int p3), .val (.ref bP), .unset, .unset, .unset, .unset] [(.ref bG)])
      refine Go.by (fun _ gk => XS.astore X94.here hx rfl (hb hby at_12) rfl rfl (l' := #[.val (.int p0), .val (.int p1), .val (.int p2), .val (.int p3), .val (.ref bP), .val (.ref bG), .unset, .unset, .unset]) rfl gk) ?_
      show Go _ _ _ _ T94 (mkF m 14 #[.val (.int p0), .val (.int p1), .val (.int p2), .val (.int p3), .val (.ref bP), .val (.ref bG), .unset, .unset, .unset] [])
      refine Go.by (fun _ gk => XS.aload X94.here hx rfl (hb hby at_14) rfl rfl gk) ?_
      show Go _ _ _ _ T94 (mkF m 16 #[.val (.int p0), .val (.int p1), .val (.int p2), .val (.int p3), .val (.ref bP), .val (.ref bG), .unset, .unset, .unset] [(.ref bG)])
      refine Go.by (fun _ gk => XT.nonnullYes X94.here hx rfl (pc0 := 16) (pc' := 25) rfl (hb hby at_16) rfl rfl nofun (by decide) (by decide) gk) ?_
      show Go _ _ _ _ T94 (mkF m 25 #[.val (.int p0), .val (.int p1), .val (.int p2), .val (.int p3), .val (.ref bP), .val (.ref bG), .unset, .unset, .unset] [])
      have F96 : n0 ≤ T94.heap.size := Nat.le_trans F93 K94.1
      obtain ⟨k, g95⟩ : ∃ z, z = T94.heap.size := ⟨_, rfl⟩
      have ge_k : n0 ≤ k := Nat.le_trans F96 (Nat.le_of_eq g95.symm)
      have F97 : Keep h0 T91.heap [] := (Keep.refl h0 []).trans K91 all0
      have F98 : Keep h0 T94.heap [] := F97.trans K94 all0
      have sz_k : h0.size ≤ k := Nat.le_trans F98.1 (Nat.le_of_eq g95.symm)
      have ne_bG_k : bG ≠ k := Nat.ne_of_lt (Nat.lt_of_lt_of_le Q94_0.lt (Nat.le_of_eq g95.symm))
      have F99 : Exa Z T94.heap bP "java/lang/Long" := Q91_0.keep K94
      have ne_bP_k : bP ≠ k := Nat.ne_of_lt (Nat.lt_of_lt_of_le F99.lt (Nat.le_of_eq g95.symm))
      obtain ⟨T95, h95, X95, e95, E95, A95, D95, -, st95⟩ := newO X94 hx hZ hown (hw _ (List.mem_of_getElem? (i := 41) rfl)) (hw _ (List.mem_of_getElem? (i := 42) rfl)) (hw _ (List.mem_of_getElem? (i := 43) rfl)) rfl (g := (mkF m 25 #[.val (.int p0), .val (.int p1), .val (.int p2), .val (.int p3), .val (.ref bP), .val (.ref bG), .unset, .unset, .unset] [])) rfl (hb hby at_25) (by decide) (by decide)
      rw [← g95] at A95 D95 st95
      have F_generated_k : Fld Z h95 k "com/example/attache/attache/PendingKey" "generated" "Ljava/lang/Object;" .null := D95 (Or.inl (hw _ (List.mem_of_getElem? (i := 54) rfl))) (ty := (.object "java/lang/Object")) (by decide)
      refine Go.by st95 ?_
      show Go _ _ _ _ T95 (mkF m 28 #[.val (.int p0), .val (.int p1), .val (.int p2), .val (.int p3), .val (.ref bP), .val (.ref bG), .unset, .unset, .unset] [(.ref k)])
      refine Go.by (fun _ gk => XS.dup X95.here hx rfl (hb hby at_28) rfl rfl gk) ?_
      show Go _ _ _ _ T95 (mkF m 29 #[.val (.int p0), .val (.int p1), .val (.int p2), .val (.int p3), .val (.ref bP), .val (.ref bG), .unset, .unset, .unset] [(.ref k), (.ref k)])
      have F100 : n0 ≤ h95.size := Nat.le_trans F96 E95.1
      obtain ⟨_, _, ⟨T101, L101, k101, n101⟩, -, X101, ⟨Lc101, hQ101, l101, y101, z101⟩, st101⟩ := X95.specialBack hx (y := (⟨"com/example/attache/attache/PendingKey", "<init>", "()V"⟩ : MethodName)) rfl hown (mvT hZ (hw _ (List.mem_of_getElem? (i := 44) rfl))) (mvT hZ (hw _ (List.mem_of_getElem? (i := 45) rfl))) (mvT hZ (hw _ (List.mem_of_getElem? (i := 46) rfl))) (by decide) (backOf (W := 1) (rmPinit l Z a0 hw [] k h95 n0 F100 ) hZ (hw _ (List.mem_of_getElem? (i := 46) rfl)) (hw _ (List.mem_of_getElem? (i := 43) rfl)) (by decide) (by decide)) (g := (mkF m 29 #[.val (.int p0), .val (.int p1), .val (.int p2), .val (.int p3), .val (.ref bP), .val (.ref bG), .unset, .unset, .unset] [(.ref k), (.ref k)])) rfl (by rw [hml]; rfl) (Steps.refl _) (a := k) (argsL := []) (rest := [(.ref k)]) (lenOf pd_10 rfl) rfl (by show 2 * 0 + _ ≤ _; exact Nat.le_of_eq rfl) (hb hby at_29) (fun _ _ => ⟨rfl, e95, (by decide : 3 + 0 ≤ _), (by decide : 3 + 0 ≤ _)⟩)
      dsimp only [Pt.U, Pt.locs, Pt.cells, Pt.slots] at X101 l101 y101 z101 st101 hQ101
      subst l101 y101 z101
      obtain ⟨rfl, N101q, e101⟩ := hQ101
      have N101 := Fr.app N94 N101q
      refine Go.to st101 ?_
      show Go _ _ _ _ T101 (mkF m 32 #[.val (.int p0), .val (.int p1), .val (.int p2), .val (.int p3), .val (.ref bP), .val (.ref bG), .unset, .unset, .unset] [(.ref k)])
      refine Go.by (fun _ gk => XS.astore X101.here hx rfl (hb hby at_32) rfl rfl (l' := #[.val (.int p0), .val (.int p1), .val (.int p2), .val (.int p3), .val (.ref bP), .val (.ref bG), .val (.ref k), .unset, .unset]) rfl gk) ?_
      show Go _ _ _ _ T101 (mkF m 34 #[.val (.int p0), .val (.int p1), .val (.int p2), .val (.int p3), .val (.ref bP), .val (.ref bG), .val (.ref k), .unset, .unset] [])
      refine Go.by (fun _ gk => XS.aload X101.here hx rfl (hb hby at_34) rfl rfl gk) ?_
      show Go _ _ _ _ T101 (mkF m 36 #[.val (.int p0), .val (.int p1), .val (.int p2), .val (.int p3), .val (.ref bP), .val (.ref bG), .val (.ref k), .unset, .unset] [(.ref k)])
      refine Go.by (fun _ gk => XS.aload X101.here hx rfl (hb hby at_36) rfl rfl gk) ?_
      show Go _ _ _ _ T101 (mkF m 38 #[.val (.int p0), .val (.int p1), .val (.int p2), .val (.int p3), .val (.ref bP), .val (.ref bG), .val (.ref k), .unset, .unset] [(.ref bG), (.ref k)])
      obtain ⟨cq102, kq102, q102a, q102b, q102c⟩ := isOf hZ e101 A95
      obtain ⟨_, _, ⟨T102, L102, k102, n102⟩, -, X102, ⟨Lc102, hQ102, l102, y102, z102⟩, st102⟩ := X101.virtualBack hx (y := (⟨"com/example/attache/attache/PendingKey", "generated", "(Ljava/lang/Object;)V"⟩ : MethodName)) (z := (⟨"com/example/attache/attache/PendingKey", "generated", "(Ljava/lang/Object;)V"⟩ : MethodName)) hown (mvT hZ (hw _ (List.mem_of_getElem? (i := 48) rfl))) (mvT hZ (hw _ (List.mem_of_getElem? (i := 49) rfl))) (notFace_of_selects (args := #[]) (mvT hZ (hw _ (List.mem_of_getElem? (i := 51) rfl)))) (mvT hZ (hw _ (List.mem_of_getElem? (i := 51) rfl))) (mvT hZ (hw _ (List.mem_of_getElem? (i := 50) rfl))) (by decide) (backOf (W := 0) (rmPut l Z a0 hw [] k bG .null h95 n0 F100 A95 F_generated_k ge_k) hZ (hw _ (List.mem_of_getElem? (i := 52) rfl)) (hw _ (List.mem_of_getElem? (i := 43) rfl)) (by decide) (by decide)) q102a q102c (g := (mkF m 38 #[.val (.int p0), .val (.int p1), .val (.int p2), .val (.int p3), .val (.ref bP), .val (.ref bG), .val (.ref k), .unset, .unset] [(.ref bG), (.ref k)])) rfl (by rw [hml]; rfl) (Steps.refl _) (argsL := [(.ref bG)]) (rest := []) (lenOf pd_231 rfl) rfl (by show 2 * 0 + _ ≤ _; exact Nat.le_of_eq rfl) (hb hby at_38) (fun _ _ => ⟨rfl, e101, (by decide : 3 + 0 ≤ _), (by decide : 3 + 0 ≤ _)⟩)
      dsimp only [Pt.U, Pt.locs, Pt.cells, Pt.slots] at X102 l102 y102 z102 st102 hQ102
      subst l102 y102 z102
      obtain ⟨rfl, N102q, K102, Q102_0, Q102_1⟩ := hQ102
      have N102 := Fr.app N101 N102q
      refine Go.to st102 ?_
      show Go _ _ _ _ T102 (mkF m 41 #[.val (.int p0), .val (.int p1), .val (.int p2), .val (.int p3), .val (.ref bP), .val (.ref bG), .val (.ref k), .unset, .unset] [])
      refine Go.by (fun _ gk => XS.aload X102.here hx rfl (hb hby at_41) rfl rfl gk) ?_
      show Go _ _ _ _ T102 (mkF m 43 #[.val (.int p0), .val (.int p1), .val (.int p2), .val (.int p3), .val (.ref bP), .val (.ref bG), .val (.ref k), .unset, .unset] [(.ref bP)])
      have F103 : Exa Z h95 bP "java/lang/Long" := F99.ext E95
      have F104 : Exa Z T102.heap bP "java/lang/Long" := F103.keep K102
      have F105 : n0 ≤ T102.heap.size := Nat.le_trans F100 K102.1
      obtain ⟨_, _, ⟨T106, L106, k106, n106⟩, -, X106, ⟨Lc106, hQ106, l106, y106, z106⟩, st106⟩ := Jvm.LawKit.callS X102 hx (y := (⟨"com/example/attache/attache/PendingKey", "resolved", "(Ljava/lang/Object;)Ljava/lang/Object;"⟩ : MethodName)) hown (mvT hZ (hw _ (List.mem_of_getElem? (i := 55) rfl))) (mvT hZ (hw _ (List.mem_of_getElem? (i := 56) rfl))) (mvT hZ (hw _ (List.mem_of_getElem? (i := 43) rfl))) (mvT hZ (hw _ (List.mem_of_getElem? (i := 57) rfl))) (by decide) (backOf (W := 0) (rmRes1 l Z a0 hw [] bP T102.heap n0 F105 F104) hZ (hw _ (List.mem_of_getElem? (i := 57) rfl)) (hw _ (List.mem_of_getElem? (i := 43) rfl)) (by decide) (by decide)) (g := (mkF m 43 #[.val (.int p0), .val (.int p1), .val (.int p2), .val (.int p3), .val (.ref bP), .val (.ref bG), .val (.ref k), .unset, .unset] [(.ref bP)])) rfl (by rw [hml]; rfl) (argsL := [(.ref bP)]) (rest := []) (lenOf pd_232 rfl) rfl (by show 2 * 0 + _ ≤ _; exact Nat.le_of_eq rfl) (hb hby at_43) (fun _ _ => ⟨rfl, rfl, (by decide : 3 + 0 ≤ _), (by decide : 3 + 0 ≤ _)⟩)
      dsimp only [Pt.U, Pt.locs, Pt.cells, Pt.slots] at X106 l106 y106 z106 st106 hQ106
      subst l106 y106 z106
      obtain ⟨rfl, N106q, e106⟩ := hQ106
      have N106 := Fr.app N102 N106q
      refine Go.by st106 ?_
      show Go _ _ _ _ T106 (mkF m 46 #[.val (.int p0), .val (.int p1), .val (.int p2), .val (.int p3), .val (.ref bP), .val (.ref bG), .val (.ref k), .unset, .unset] [(.ref bP)])
      refine Go.by (fun _ gk => XS.astore X106.here hx rfl (hb hby at_46) rfl rfl (l' := #[.val (.int p0), .val (.int p1), .val (.int p2), .val (.int p3), .val (.ref bP), .val (.ref bG), .val (.ref k), .val (.ref bP), .unset]) rfl gk) ?_
      show Go _ _ _ _ T106 (mkF m 48 #[.val (.int p0), .val (.int p1), .val (.int p2), .val (.int p3), .val (.ref bP), .val (.ref bG), .val (.ref k), .val (.ref bP), .unset] [])
      refine Go.by (fun _ gk => XS.aload X106.here hx rfl (hb hby at_48) rfl rfl gk) ?_
      show Go _ _ _ _ T106 (mkF m 50 #[.val (.int p0), .val (.int p1), .val (.int p2), .val (.int p3), .val (.ref bP), .val (.ref bG), .val (.ref k), .val (.ref bP), .unset] [(.ref k)])
      obtain ⟨_, _, ⟨T107, L107, k107, n107⟩, -, X107, ⟨Lc107, hQ107, l107, y107, z107⟩, st107⟩ := Jvm.LawKit.callS X106 hx (y := (⟨"com/example/attache/attache/PendingKey", "resolved", "(Ljava/lang/Object;)Ljava/lang/Object;"⟩ : MethodName)) hown (mvT hZ (hw _ (List.mem_of_getElem? (i := 55) rfl))) (mvT hZ (hw _ (List.mem_of_getElem? (i := 56) rfl))) (mvT hZ (hw _ (List.mem_of_getElem? (i := 43) rfl))) (mvT hZ (hw _ (List.mem_of_getElem? (i := 57) rfl))) (by decide) (backOf (W := 0) (rmResP l Z a0 hw [] k bG T102.heap n0 F105 Q102_0 Q102_1) hZ (hw _ (List.mem_of_getElem? (i := 57) rfl)) (hw _ (List.mem_of_getElem? (i := 43) rfl)) (by decide) (by decide)) (g := (mkF m 50 #[.val (.int p0), .val (.int p1), .val (.int p2), .val (.int p3), .val (.ref bP), .val (.ref bG), .val (.ref k), .val (.ref bP), .unset] [(.ref k)])) rfl (by rw [hml]; rfl) (argsL := [(.ref k)]) (rest := []) (lenOf pd_232 rfl) rfl (by show 2 * 0 + _ ≤ _; exact Nat.le_of_eq rfl) (hb hby at_50) (fun _ _ => ⟨rfl, e106, (by decide : 3 + 0 ≤ _), (by decide : 3 + 0 ≤ _)⟩)
      dsimp only [Pt.U, Pt.locs, Pt.cells, Pt.slots] at X107 l107 y107 z107 st107 hQ107
      subst l107 y107 z107
      obtain ⟨rfl, N107q, e107⟩ := hQ107
      have N107 := Fr.app N106 N107q
      refine Go.by st107 ?_
      show Go _ _ _ _ T107 (mkF m 53 #[.val (.int p0), .val (.int p1), .val (.int p2), .val (.int p3), .val (.ref bP), .val (.ref bG), .val (.ref k), .val (.ref bP), .unset] [(.ref bG)])
      refine Go.by (fun _ gk => XS.astore X107.here hx rfl (hb hby at_53) rfl rfl (l' := #[.val (.int p0), .val (.int p1), .val (.int p2), .val (.int p3), .val (.ref bP), .val (.ref bG), .val (.ref k), .val (.ref bP), .val (.ref bG)]) rfl gk) ?_
      show Go _ _ _ _ T107 (mkF m 55 #[.val (.int p0), .val (.int p1), .val (.int p2), .val (.int p3), .val (.ref bP), .val (.ref bG), .val (.ref k), .val (.ref bP), .val (.ref bG)] [])
      refine Go.by (fun _ gk => XS.aload X107.here hx rfl (hb hby at_55) rfl rfl gk) ?_
      show Go _ _ _ _ T107 (mkF m 57 #[.val (.int p0), .val (.int p1), .val (.int p2), .val (.int p3), .val (.ref bP), .val (.ref bG), .val (.ref k), .val (.ref bP), .val (.ref bG)] [(.ref bP)])
      refine Go.by (fun _ gk => XS.aload X107.here hx rfl (hb hby at_57) rfl rfl gk) ?_
      show Go _ _ _ _ T107 (mkF m 59 #[.val (.int p0), .val (.int p1), .val (.int p2), .val (.int p3), .val (.ref bP), .val (.ref bG), .val (.ref k), .val (.ref bP), .val (.ref bG)] [(.ref bP), (.ref bP)])
      refine Go.by (fun _ gk => XT.acmpNo X107.here hx rfl (hb hby at_59) rfl rfl rfl (XT.aa_ne_f rfl) gk) ?_
      show Go _ _ _ _ T107 (mkF m 62 #[.val (.int p0), .val (.int p1), .val (.int p2), .val (.int p3), .val (.ref bP), .val (.ref bG), .val (.ref k), .val (.ref bP), .val (.ref bG)] [])
      refine Go.by (fun _ gk => XS.aload X107.here hx rfl (hb hby at_62) rfl rfl gk) ?_
      show Go _ _ _ _ T107 (mkF m 64 #[.val (.int p0), .val (.int p1), .val (.int p2), .val (.int p3), .val (.ref bP), .val (.ref bG), .val (.ref k), .val (.ref bP), .val (.ref bG)] [(.ref bG)])
      refine Go.by (fun _ gk => XS.aload X107.here hx rfl (hb hby at_64) rfl rfl gk) ?_
      show Go _ _ _ _ T107 (mkF m 66 #[.val (.int p0), .val (.int p1), .val (.int p2), .val (.int p3), .val (.ref bP), .val (.ref bG), .val (.ref k), .val (.ref bP), .val (.ref bG)] [(.ref bG), (.ref bG)])
      refine Go.by (fun _ gk => XT.acmpNo X107.here hx rfl (hb hby at_66) rfl rfl rfl (XT.aa_ne_f rfl) gk) ?_
      show Go _ _ _ _ T107 (mkF m 69 #[.val (.int p0), .val (.int p1), .val (.int p2), .val (.int p3), .val (.ref bP), .val (.ref bG), .val (.ref k), .val (.ref bP), .val (.ref bG)] [])
      refine Go.by (fun _ gk => XT.iconstV X107.here hx rfl (1 : Int32) (hb hby at_69) (by decide) gk) ?_
      show Go _ _ _ _ T107 (mkF m 70 #[.val (.int p0), .val (.int p1), .val (.int p2), .val (.int p3), .val (.ref bP), .val (.ref bG), .val (.ref k), .val (.ref bP), .val (.ref bG)] [(.int (1 : Int32))])
      refine Go.by (fun _ gk => XS.goto X107.here hx rfl (pc0 := 70) (pc' := 74) rfl (hb hby at_70) (by decide) (by decide) gk) ?_
      show Go _ _ _ _ T107 (mkF m 74 #[.val (.int p0), .val (.int p1), .val (.int p2), .val (.int p3), .val (.ref bP), .val (.ref bG), .val (.ref k), .val (.ref bP), .val (.ref bG)] [(.int (1 : Int32))])
      exact Go.retI X107 hx Bd.notSynchronized Bd.returns rfl (by simp) (hb hby at_74) (by rw [e107]; exact ⟨rfl, N107⟩) (by decide) (by decide)
    · obtain ⟨_, _, ⟨T108, L108, k108, n108⟩, -, X108, ⟨Lc108, hQ108, l108, y108, z108⟩, st108⟩ := Jvm.LawKit.callS X0 hx (y := (⟨"com/example/attache/attache/PendingKeyResolvedPinLaw", "make", "(II)Ljava/lang/Object;"⟩ : MethodName)) hown (mvT hZ (hw _ (List.mem_of_getElem? (i := 0) rfl))) (mvT hZ (hw _ (List.mem_of_getElem? (i := 1) rfl))) (mvT hZ (hw _ (List.mem_of_getElem? (i := 2) rfl))) (mvT hZ (hw _ (List.mem_of_getElem? (i := 3) rfl))) (by decide) (backOf (W := 0) (rmMake1 l Z a0 hw [] p0 p1 caI ccI caJ ccJ cs h0 n0 Z0 O0 hi S_cacheI B_I S_high S_cacheJ B_J S_cs n_cs) hZ (hw _ (List.mem_of_getElem? (i := 3) rfl)) (hw _ (List.mem_of_getElem? (i := 2) rfl)) (by decide) (by decide)) (g := (mkF m 2 #[.val (.int p0), .val (.int p1), .val (.int p2), .val (.int p3), .unset, .unset, .unset, .unset, .unset] [(.int p1), (.int p0)])) rfl (by rw [hml]; rfl) (argsL := [(.int p0), (.int p1)]) (rest := []) (lenOf pd_230 rfl) rfl (by show 2 * 0 + _ ≤ _; exact Nat.le_of_eq rfl) (hb hby at_2) (fun _ _ => ⟨rfl, e0, (by decide : 0 + 1 ≤ _), (by decide : 0 + 1 ≤ _)⟩)
      dsimp only [Pt.U, Pt.locs, Pt.cells, Pt.slots] at X108 l108 y108 z108 st108 hQ108
      subst l108 y108 z108
      obtain ⟨bP, rfl, N108q, K108, Q108_0⟩ := hQ108
      have N108 := Fr.app N0 N108q
      refine Go.by st108 ?_
      show Go _ _ _ _ T108 (mkF m 5 #[.val (.int p0), .val (.int p1), .val (.int p2), .val (.int p3), .unset, .unset, .unset, .unset, .unset] [(.ref bP)])
      refine Go.by (fun _ gk => XS.astore X108.here hx rfl (hb hby at_5) rfl rfl (l' := #[.val (.int p0), .val (.int p1), .val (.int p2), .val (.int p3), .val (.ref bP), .unset, .unset, .unset, .unset]) rfl gk) ?_
      show Go _ _ _ _ T108 (mkF m 7 #[.val (.int p0), .val (.int p1), .val (.int p2), .val (.int p3), .val (.ref bP), .unset, .unset, .unset, .unset] [])
      refine Go.by (fun _ gk => XS.iloadN X108.here hx rfl (hb hby at_7) rfl gk) ?_
      show Go _ _ _ _ T108 (mkF m 8 #[.val (.int p0), .val (.int p1), .val (.int p2), .val (.int p3), .val (.ref bP), .unset, .unset, .unset, .unset] [(.int p2)])
      refine Go.by (fun _ gk => XS.iloadN X108.here hx rfl (hb hby at_8) rfl gk) ?_
      show Go _ _ _ _ T108 (mkF m 9 #[.val (.int p0), .val (.int p1), .val (.int p2), .val (.int p3), .val (.ref bP), .unset, .unset, .unset, .unset] [(.int p3), (.int p2)])
      have F109 : Old Z n0 T108.heap := O0.keep K108 all0
      have F110 : n0 ≤ T108.heap.size := Nat.le_trans Z0 K108.1
      obtain ⟨_, _, ⟨T111, L111, k111, n111⟩, -, X111, ⟨Lc111, hQ111, l111, y111, z111⟩, st111⟩ := Jvm.LawKit.callS X108 hx (y := (⟨"com/example/attache/attache/PendingKeyResolvedPinLaw", "make", "(II)Ljava/lang/Object;"⟩ : MethodName)) hown (mvT hZ (hw _ (List.mem_of_getElem? (i := 0) rfl))) (mvT hZ (hw _ (List.mem_of_getElem? (i := 1) rfl))) (mvT hZ (hw _ (List.mem_of_getElem? (i := 2) rfl))) (mvT hZ (hw _ (List.mem_of_getElem? (i := 3) rfl))) (by decide) (backOf (W := 0) (rmMake2 l Z a0 hw [] p2 p3 caI ccI caJ ccJ cs T108.heap n0 F110 F109 hj S_cacheI B_I S_high S_cacheJ B_J S_cs n_cs) hZ (hw _ (List.mem_of_getElem? (i := 3) rfl)) (hw _ (List.mem_of_getElem? (i := 2) rfl)) (by decide) (by decide)) (g := (mkF m 9 #[.val (.int p0), .val (.int p1), .val (.int p2), .val (.int p3), .val (.ref bP), .unset, .unset, .unset, .unset] [(.int p3), (.int p2)])) rfl (by rw [hml]; rfl) (argsL := [(.int p2), (.int p3)]) (rest := []) (lenOf pd_230 rfl) rfl (by show 2 * 0 + _ ≤ _; exact Nat.le_of_eq rfl) (hb hby at_9) (fun _ _ => ⟨rfl, rfl, (by decide : 1 + 3 ≤ _), (by decide : 1 + 8 ≤ _)⟩)
      dsimp only [Pt.U, Pt.locs, Pt.cells, Pt.slots] at X111 l111 y111 z111 st111 hQ111
      subst l111 y111 z111
      obtain ⟨bG, rfl, N111q, K111, Q111_0⟩ := hQ111
      have N111 := Fr.app N108 N111q
      refine Go.by st111 ?_
      show Go _ _ _ _ T111 (mkF m 12 #[.val (.int p0), .val (.int p1), .val (.int p2), .val (.int p3), .val (.ref bP), .unset, .unset, .unset, .unset] [(.ref bG)])
      refine Go.by (fun _ gk => XS.astore X111.here hx rfl (hb hby at_12) rfl rfl (l' := #[.val (.int p0), .val (.int p1), .val (.int p2), .val (.int p3), .val (.ref bP), .val (.ref bG), .unset, .unset, .unset]) rfl gk) ?_
      show Go _ _ _ _ T111 (mkF m 14 #[.val (.int p0), .val (.int p1), .val (.int p2), .val (.int p3), .val (.ref bP), .val (.ref bG), .unset, .unset, .unset] [])
      refine Go.by (fun _ gk => XS.aload X111.here hx rfl (hb hby at_14) rfl rfl gk) ?_
      show Go _ _ _ _ T111 (mkF m 16 #[.val (.int p0), .val (.int p1), .val (.int p2), .val (.int p3), .val (.ref bP), .val (.ref bG), .unset, .unset, .unset] [(.ref bG)])
      refine Go.by (fun _ gk => XT.nonnullYes X111.here hx rfl (pc0 := 16) (pc' := 25) rfl (hb hby at_16) rfl rfl nofun (by decide) (by decide) gk) ?_
      show Go _ _ _ _ T111 (mkF m 25 #[.val (.int p0), .val (.int p1), .val (.int p2), .val (.int p3), .val (.ref bP), .val (.ref bG), .unset, .unset, .unset] [])
      have F113 : n0 ≤ T111.heap.size := Nat.le_trans F110 K111.1
      obtain ⟨k, g112⟩ : ∃ z, z = T111.heap.size := ⟨_, rfl⟩
      have ge_k : n0 ≤ k := Nat.le_trans F113 (Nat.le_of_eq g112.symm)
      have F114 : Keep h0 T108.heap [] := (Keep.refl h0 []).trans K108 all0
      have F115 : Keep h0 T111.heap [] := F114.trans K111 all0
      have sz_k : h0.size ≤ k := Nat.le_trans F115.1 (Nat.le_of_eq g112.symm)
      have ne_bG_k : bG ≠ k := Nat.ne_of_lt (Nat.lt_of_lt_of_le Q111_0.lt (Nat.le_of_eq g112.symm))
      have F116 : Exa Z T111.heap bP "java/lang/Long" := Q108_0.keep K111
      have ne_bP_k : bP ≠ k := Nat.ne_of_lt (Nat.lt_of_lt_of_le F116.lt (Nat.le_of_eq g112.symm))
      obtain ⟨T112, h112, X112, e112, E112, A112, D112, -, st112⟩ := newO X111 hx hZ hown (hw _ (List.mem_of_getElem? (i := 41) rfl)) (hw _ (List.mem_of_getElem? (i := 42) rfl)) (hw _ (List.mem_of_getElem? (i := 43) rfl)) rfl (g := (mkF m 25 #[.val (.int p0), .val (.int p1), .val (.int p2), .val (.int p3), .val (.ref bP), .val (.ref bG), .unset, .unset, .unset] [])) rfl (hb hby at_25) (by decide) (by decide)
      rw [← g112] at A112 D112 st112
      have F_generated_k : Fld Z h112 k "com/example/attache/attache/PendingKey" "generated" "Ljava/lang/Object;" .null := D112 (Or.inl (hw _ (List.mem_of_getElem? (i := 54) rfl))) (ty := (.object "java/lang/Object")) (by decide)
      refine Go.by st112 ?_
      show Go _ _ _ _ T112 (mkF m 28 #[.val (.int p0), .val (.int p1), .val (.int p2), .val (.int p3), .val (.ref bP), .val (.ref bG), .unset, .unset, .unset] [(.ref k)])
      refine Go.by (fun _ gk => XS.dup X112.here hx rfl (hb hby at_28) rfl rfl gk) ?_
      show Go _ _ _ _ T112 (mkF m 29 #[.val (.int p0), .val (.int p1), .val (.int p2), .val (.int p3), .val (.ref bP), .val (.ref bG), .unset, .unset, .unset] [(.ref k), (.ref k)])
      have F117 : n0 ≤ h112.size := Nat.le_trans F113 E112.1
      obtain ⟨_, _, ⟨T118, L118, k118, n118⟩, -, X118, ⟨Lc118, hQ118, l118, y118, z118⟩, st118⟩ := X112.specialBack hx (y := (⟨"com/example/attache/attache/PendingKey", "<init>", "()V"⟩ : MethodName)) rfl hown (mvT hZ (hw _ (List.mem_of_getElem? (i := 44) rfl))) (mvT hZ (hw _ (List.mem_of_getElem? (i := 45) rfl))) (mvT hZ (hw _ (List.mem_of_getElem? (i := 46) rfl))) (by decide) (backOf (W := 1) (rmPinit l Z a0 hw [] k h112 n0 F117 ) hZ (hw _ (List.mem_of_getElem? (i := 46) rfl)) (hw _ (List.mem_of_getElem? (i := 43) rfl)) (by decide) (by decide)) (g := (mkF m 29 #[.val (.int p0), .val (.int p1), .val (.int p2), .val (.int p3), .val (.ref bP), .val (.ref bG), .unset, .unset, .unset] [(.ref k), (.ref k)])) rfl (by rw [hml]; rfl) (Steps.refl _) (a := k) (argsL := []) (rest := [(.ref k)]) (lenOf pd_10 rfl) rfl (by show 2 * 0 + _ ≤ _; exact Nat.le_of_eq rfl) (hb hby at_29) (fun _ _ => ⟨rfl, e112, (by decide : 5 + 0 ≤ _), (by decide : 10 + 0 ≤ _)⟩)
      dsimp only [Pt.U, Pt.locs, Pt.cells, Pt.slots] at X118 l118 y118 z118 st118 hQ118
      subst l118 y118 z118
      obtain ⟨rfl, N118q, e118⟩ := hQ118
      have N118 := Fr.app N111 N118q
      refine Go.to st118 ?_
      show Go _ _ _ _ T118 (mkF m 32 #[.val (.int p0), .val (.int p1), .val (.int p2), .val (.int p3), .val (.ref bP), .val (.ref bG), .unset, .unset, .unset] [(.ref k)])
      refine Go.by (fun _ gk => XS.astore X118.here hx rfl (hb hby at_32) rfl rfl (l' := #[.val (.int p0), .val (.int p1), .val (.int p2), .val (.int p3), .val (.ref bP), .val (.ref bG), .val (.ref k), .unset, .unset]) rfl gk) ?_
      show Go _ _ _ _ T118 (mkF m 34 #[.val (.int p0), .val (.int p1), .val (.int p2), .val (.int p3), .val (.ref bP), .val (.ref bG), .val (.ref k), .unset, .unset] [])
      refine Go.by (fun _ gk => XS.aload X118.here hx rfl (hb hby at_34) rfl rfl gk) ?_
      show Go _ _ _ _ T118 (mkF m 36 #[.val (.int p0), .val (.int p1), .val (.int p2), .val (.int p3), .val (.ref bP), .val (.ref bG), .val (.ref k), .unset, .unset] [(.ref k)])
      refine Go.by (fun _ gk => XS.aload X118.here hx rfl (hb hby at_36) rfl rfl gk) ?_
      show Go _ _ _ _ T118 (mkF m 38 #[.val (.int p0), .val (.int p1), .val (.int p2), .val (.int p3), .val (.ref bP), .val (.ref bG), .val (.ref k), .unset, .unset] [(.ref bG), (.ref k)])
      obtain ⟨cq119, kq119, q119a, q119b, q119c⟩ := isOf hZ e118 A112
      obtain ⟨_, _, ⟨T119, L119, k119, n119⟩, -, X119, ⟨Lc119, hQ119, l119, y119, z119⟩, st119⟩ := X118.virtualBack hx (y := (⟨"com/example/attache/attache/PendingKey", "generated", "(Ljava/lang/Object;)V"⟩ : MethodName)) (z := (⟨"com/example/attache/attache/PendingKey", "generated", "(Ljava/lang/Object;)V"⟩ : MethodName)) hown (mvT hZ (hw _ (List.mem_of_getElem? (i := 48) rfl))) (mvT hZ (hw _ (List.mem_of_getElem? (i := 49) rfl))) (notFace_of_selects (args := #[]) (mvT hZ (hw _ (List.mem_of_getElem? (i := 51) rfl)))) (mvT hZ (hw _ (List.mem_of_getElem? (i := 51) rfl))) (mvT hZ (hw _ (List.mem_of_getElem? (i := 50) rfl))) (by decide) (backOf (W := 0) (rmPut l Z a0 hw [] k bG .null h112 n0 F117 A112 F_generated_k ge_k) hZ (hw _ (List.mem_of_getElem? (i := 52) rfl)) (hw _ (List.mem_of_getElem? (i := 43) rfl)) (by decide) (by decide)) q119a q119c (g := (mkF m 38 #[.val (.int p0), .val (.int p1), .val (.int p2), .val (.int p3), .val (.ref bP), .val (.ref bG), .val (.ref k), .unset, .unset] [(.ref bG), (.ref k)])) rfl (by rw [hml]; rfl) (Steps.refl _) (argsL := [(.ref bG)]) (rest := []) (lenOf pd_231 rfl) rfl (by show 2 * 0 + _ ≤ _; exact Nat.le_of_eq rfl) (hb hby at_38) (fun _ _ => ⟨rfl, e118, (by decide : 5 + 0 ≤ _), (by decide : 10 + 0 ≤ _)⟩)
      dsimp only [Pt.U, Pt.locs, Pt.cells, Pt.slots] at X119 l119 y119 z119 st119 hQ119
      subst l119 y119 z119
      obtain ⟨rfl, N119q, K119, Q119_0, Q119_1⟩ := hQ119
      have N119 := Fr.app N118 N119q
      refine Go.to st119 ?_
      show Go _ _ _ _ T119 (mkF m 41 #[.val (.int p0), .val (.int p1), .val (.int p2), .val (.int p3), .val (.ref bP), .val (.ref bG), .val (.ref k), .unset, .unset] [])
      refine Go.by (fun _ gk => XS.aload X119.here hx rfl (hb hby at_41) rfl rfl gk) ?_
      show Go _ _ _ _ T119 (mkF m 43 #[.val (.int p0), .val (.int p1), .val (.int p2), .val (.int p3), .val (.ref bP), .val (.ref bG), .val (.ref k), .unset, .unset] [(.ref bP)])
      have F120 : Exa Z h112 bP "java/lang/Long" := F116.ext E112
      have F121 : Exa Z T119.heap bP "java/lang/Long" := F120.keep K119
      have F122 : n0 ≤ T119.heap.size := Nat.le_trans F117 K119.1
      obtain ⟨_, _, ⟨T123, L123, k123, n123⟩, -, X123, ⟨Lc123, hQ123, l123, y123, z123⟩, st123⟩ := Jvm.LawKit.callS X119 hx (y := (⟨"com/example/attache/attache/PendingKey", "resolved", "(Ljava/lang/Object;)Ljava/lang/Object;"⟩ : MethodName)) hown (mvT hZ (hw _ (List.mem_of_getElem? (i := 55) rfl))) (mvT hZ (hw _ (List.mem_of_getElem? (i := 56) rfl))) (mvT hZ (hw _ (List.mem_of_getElem? (i := 43) rfl))) (mvT hZ (hw _ (List.mem_of_getElem? (i := 57) rfl))) (by decide) (backOf (W := 0) (rmRes1 l Z a0 hw [] bP T119.heap n0 F122 F121) hZ (hw _ (List.mem_of_getElem? (i := 57) rfl)) (hw _ (List.mem_of_getElem? (i := 43) rfl)) (by decide) (by decide)) (g := (mkF m 43 #[.val (.int p0), .val (.int p1), .val (.int p2), .val (.int p3), .val (.ref bP), .val (.ref bG), .val (.ref k), .unset, .unset] [(.ref bP)])) rfl (by rw [hml]; rfl) (argsL := [(.ref bP)]) (rest := []) (lenOf pd_232 rfl) rfl (by show 2 * 0 + _ ≤ _; exact Nat.le_of_eq rfl) (hb hby at_43) (fun _ _ => ⟨rfl, rfl, (by decide : 5 + 0 ≤ _), (by decide : 10 + 0 ≤ _)⟩)
      dsimp only [Pt.U, Pt.locs, Pt.cells, Pt.slots] at X123 l123 y123 z123 st123 hQ123
      subst l123 y123 z123
      obtain ⟨rfl, N123q, e123⟩ := hQ123
      have N123 := Fr.app N119 N123q
      refine Go.by st123 ?_
      show Go _ _ _ _ T123 (mkF m 46 #[.val (.int p0), .val (.int p1), .val (.int p2), .val (.int p3), .val (.ref bP), .val (.ref bG), .val (.ref k), .unset, .unset] [(.ref bP)])
      refine Go.by (fun _ gk => XS.astore X123.here hx rfl (hb hby at_46) rfl rfl (l' := #[.val (.int p0), .val (.int p1), .val (.int p2), .val (.int p3), .val (.ref bP), .val (.ref bG), .val (.ref k), .val (.ref bP), .unset]) rfl gk) ?_
      show Go _ _ _ _ T123 (mkF m 48 #[.val (.int p0), .val (.int p1), .val (.int p2), .val (.int p3), .val (.ref bP), .val (.ref bG), .val (.ref k), .val (.ref bP), .unset] [])
      refine Go.by (fun _ gk => XS.aload X123.here hx rfl (hb hby at_48) rfl rfl gk) ?_
      show Go _ _ _ _ T123 (mkF m 50 #[.val (.int p0), .val (.int p1), .val (.int p2), .val (.int p3), .val (.ref bP), .val (.ref bG), .val (.ref k), .val (.ref bP), .unset] [(.ref k)])
      obtain ⟨_, _, ⟨T124, L124, k124, n124⟩, -, X124, ⟨Lc124, hQ124, l124, y124, z124⟩, st124⟩ := Jvm.LawKit.callS X123 hx (y := (⟨"com/example/attache/attache/PendingKey", "resolved", "(Ljava/lang/Object;)Ljava/lang/Object;"⟩ : MethodName)) hown (mvT hZ (hw _ (List.mem_of_getElem? (i := 55) rfl))) (mvT hZ (hw _ (List.mem_of_getElem? (i := 56) rfl))) (mvT hZ (hw _ (List.mem_of_getElem? (i := 43) rfl))) (mvT hZ (hw _ (List.mem_of_getElem? (i := 57) rfl))) (by decide) (backOf (W := 0) (rmResP l Z a0 hw [] k bG T119.heap n0 F122 Q119_0 Q119_1) hZ (hw _ (List.mem_of_getElem? (i := 57) rfl)) (hw _ (List.mem_of_getElem? (i := 43) rfl)) (by decide) (by decide)) (g := (mkF m 50 #[.val (.int p0), .val (.int p1), .val (.int p2), .val (.int p3), .val (.ref bP), .val (.ref bG), .val (.ref k), .val (.ref bP), .unset] [(.ref k)])) rfl (by rw [hml]; rfl) (argsL := [(.ref k)]) (rest := []) (lenOf pd_232 rfl) rfl (by show 2 * 0 + _ ≤ _; exact Nat.le_of_eq rfl) (hb hby at_50) (fun _ _ => ⟨rfl, e123, (by decide : 5 + 0 ≤ _), (by decide : 10 + 0 ≤ _)⟩)
      dsimp only [Pt.U, Pt.locs, Pt.cells, Pt.slots] at X124 l124 y124 z124 st124 hQ124
      subst l124 y124 z124
      obtain ⟨rfl, N124q, e124⟩ := hQ124
      have N124 := Fr.app N123 N124q
      refine Go.by st124 ?_
      show Go _ _ _ _ T124 (mkF m 53 #[.val (.int p0), .val (.int p1), .val (.int p2), .val (.int p3), .val (.ref bP), .val (.ref bG), .val (.ref k), .val (.ref bP), .unset] [(.ref bG)])
      refine Go.by (fun _ gk => XS.astore X124.here hx rfl (hb hby at_53) rfl rfl (l' := #[.val (.int p0), .val (.int p1), .val (.int p2), .val (.int p3), .val (.ref bP), .val (.ref bG), .val (.ref k), .val (.ref bP), .val (.ref bG)]) rfl gk) ?_
      show Go _ _ _ _ T124 (mkF m 55 #[.val (.int p0), .val (.int p1), .val (.int p2), .val (.int p3), .val (.ref bP), .val (.ref bG), .val (.ref k), .val (.ref bP), .val (.ref bG)] [])
      refine Go.by (fun _ gk => XS.aload X124.here hx rfl (hb hby at_55) rfl rfl gk) ?_
      show Go _ _ _ _ T124 (mkF m 57 #[.val (.int p0), .val (.int p1), .val (.int p2), .val (.int p3), .val (.ref bP), .val (.ref bG), .val (.ref k), .val (.ref bP), .val (.ref bG)] [(.ref bP)])
      refine Go.by (fun _ gk => XS.aload X124.here hx rfl (hb hby at_57) rfl rfl gk) ?_
      show Go _ _ _ _ T124 (mkF m 59 #[.val (.int p0), .val (.int p1), .val (.int p2), .val (.int p3), .val (.ref bP), .val (.ref bG), .val (.ref k), .val (.ref bP), .val (.ref bG)] [(.ref bP), (.ref bP)])
      refine Go.by (fun _ gk => XT.acmpNo X124.here hx rfl (hb hby at_59) rfl rfl rfl (XT.aa_ne_f rfl) gk) ?_
      show Go _ _ _ _ T124 (mkF m 62 #[.val (.int p0), .val (.int p1), .val (.int p2), .val (.int p3), .val (.ref bP), .val (.ref bG), .val (.ref k), .val (.ref bP), .val (.ref bG)] [])
      refine Go.by (fun _ gk => XS.aload X124.here hx rfl (hb hby at_62) rfl rfl gk) ?_
      show Go _ _ _ _ T124 (mkF m 64 #[.val (.int p0), .val (.int p1), .val (.int p2), .val (.int p3), .val (.ref bP), .val (.ref bG), .val (.ref k), .val (.ref bP), .val (.ref bG)] [(.ref bG)])
      refine Go.by (fun _ gk => XS.aload X124.here hx rfl (hb hby at_64) rfl rfl gk) ?_
      show Go _ _ _ _ T124 (mkF m 66 #[.val (.int p0), .val (.int p1), .val (.int p2), .val (.int p3), .val (.ref bP), .val (.ref bG), .val (.ref k), .val (.ref bP), .val (.ref bG)] [(.ref bG), (.ref bG)])
      refine Go.by (fun _ gk => XT.acmpNo X124.here hx rfl (hb hby at_66) rfl rfl rfl (XT.aa_ne_f rfl) gk) ?_
      show Go _ _ _ _ T124 (mkF m 69 #[.val (.int p0), .val (.int p1), .val (.int p2), .val (.int p3), .val (.ref bP), .val (.ref bG), .val (.ref k), .val (.ref bP), .val (.ref bG)] [])
      refine Go.by (fun _ gk => XT.iconstV X124.here hx rfl (1 : Int32) (hb hby at_69) (by decide) gk) ?_
      show Go _ _ _ _ T124 (mkF m 70 #[.val (.int p0), .val (.int p1), .val (.int p2), .val (.int p3), .val (.ref bP), .val (.ref bG), .val (.ref k), .val (.ref bP), .val (.ref bG)] [(.int (1 : Int32))])
      refine Go.by (fun _ gk => XS.goto X124.here hx rfl (pc0 := 70) (pc' := 74) rfl (hb hby at_70) (by decide) (by decide) gk) ?_
      show Go _ _ _ _ T124 (mkF m 74 #[.val (.int p0), .val (.int p1), .val (.int p2), .val (.int p3), .val (.ref bP), .val (.ref bG), .val (.ref k), .val (.ref bP), .val (.ref bG)] [(.int (1 : Int32))])
      exact Go.retI X124 hx Bd.notSynchronized Bd.returns rfl (by simp) (hb hby at_74) (by rw [e124]; exact ⟨rfl, N124⟩) (by decide) (by decide)
    · obtain ⟨_, _, ⟨T125, L125, k125, n125⟩, -, X125, ⟨Lc125, hQ125, l125, y125, z125⟩, st125⟩ := Jvm.LawKit.callS X0 hx (y := (⟨"com/example/attache/attache/PendingKeyResolvedPinLaw", "make", "(II)Ljava/lang/Object;"⟩ : MethodName)) hown (mvT hZ (hw _ (List.mem_of_getElem? (i := 0) rfl))) (mvT hZ (hw _ (List.mem_of_getElem? (i := 1) rfl))) (mvT hZ (hw _ (List.mem_of_getElem? (i := 2) rfl))) (mvT hZ (hw _ (List.mem_of_getElem? (i := 3) rfl))) (by decide) (backOf (W := 0) (rmMake1 l Z a0 hw [] p0 p1 caI ccI caJ ccJ cs h0 n0 Z0 O0 hi S_cacheI B_I S_high S_cacheJ B_J S_cs n_cs) hZ (hw _ (List.mem_of_getElem? (i := 3) rfl)) (hw _ (List.mem_of_getElem? (i := 2) rfl)) (by decide) (by decide)) (g := (mkF m 2 #[.val (.int p0), .val (.int p1), .val (.int p2), .val (.int p3), .unset, .unset, .unset, .unset, .unset] [(.int p1), (.int p0)])) rfl (by rw [hml]; rfl) (argsL := [(.int p0), (.int p1)]) (rest := []) (lenOf pd_230 rfl) rfl (by show 2 * 0 + _ ≤ _; exact Nat.le_of_eq rfl) (hb hby at_2) (fun _ _ => ⟨rfl, e0, (by decide : 0 + 1 ≤ _), (by decide : 0 + 1 ≤ _)⟩)
      dsimp only [Pt.U, Pt.locs, Pt.cells, Pt.slots] at X125 l125 y125 z125 st125 hQ125
      subst l125 y125 z125
      obtain ⟨bP, rfl, N125q, K125, Q125_0⟩ := hQ125
      have N125 := Fr.app N0 N125q
      refine Go.by st125 ?_
      show Go _ _ _ _ T125 (mkF m 5 #[.val (.int p0), .val (.int p1), .val (.int p2), .val (.int p3), .unset, .unset, .unset, .unset, .unset] [(.ref bP)])
      refine Go.by (fun _ gk => XS.astore X125.here hx rfl (hb hby at_5) rfl rfl (l' := #[.val (.int p0), .val (.int p1), .val (.int p2), .val (.int p3), .val (.ref bP), .unset, .unset, .unset, .unset]) rfl gk) ?_
      show Go _ _ _ _ T125 (mkF m 7 #[.val (.int p0), .val (.int p1), .val (.int p2), .val (.int p3), .val (.ref bP), .unset, .unset, .unset, .unset] [])
      refine Go.by (fun _ gk => XS.iloadN X125.here hx rfl (hb hby at_7) rfl gk) ?_
      show Go _ _ _ _ T125 (mkF m 8 #[.val (.int p0), .val (.int p1), .val (.int p2), .val (.int p3), .val (.ref bP), .unset, .unset, .unset, .unset] [(.int p2)])
      refine Go.by (fun _ gk => XS.iloadN X125.here hx rfl (hb hby at_8) rfl gk) ?_
      show Go _ _ _ _ T125 (mkF m 9 #[.val (.int p0), .val (.int p1), .val (.int p2), .val (.int p3), .val (.ref bP), .unset, .unset, .unset, .unset] [(.int p3), (.int p2)])
      have F126 : Old Z n0 T125.heap := O0.keep K125 all0
      have F127 : n0 ≤ T125.heap.size := Nat.le_trans Z0 K125.1
      obtain ⟨_, _, ⟨T128, L128, k128, n128⟩, -, X128, ⟨Lc128, hQ128, l128, y128, z128⟩, st128⟩ := Jvm.LawKit.callS X125 hx (y := (⟨"com/example/attache/attache/PendingKeyResolvedPinLaw", "make", "(II)Ljava/lang/Object;"⟩ : MethodName)) hown (mvT hZ (hw _ (List.mem_of_getElem? (i := 0) rfl))) (mvT hZ (hw _ (List.mem_of_getElem? (i := 1) rfl))) (mvT hZ (hw _ (List.mem_of_getElem? (i := 2) rfl))) (mvT hZ (hw _ (List.mem_of_getElem? (i := 3) rfl))) (by decide) (backOf (W := 0) (rmMake3 l Z a0 hw [] p2 p3 caI ccI caJ ccJ cs T125.heap n0 F127 F126 hj S_cacheI B_I S_high S_cacheJ B_J S_cs n_cs) hZ (hw _ (List.mem_of_getElem? (i := 3) rfl)) (hw _ (List.mem_of_getElem? (i := 2) rfl)) (by decide) (by decide)) (g := (mkF m 9 #[.val (.int p0), .val (.int p1), .val (.int p2), .val (.int p3), .val (.ref bP), .unset, .unset, .unset, .unset] [(.int p3), (.int p2)])) rfl (by rw [hml]; rfl) (argsL := [(.int p2), (.int p3)]) (rest := []) (lenOf pd_230 rfl) rfl (by show 2 * 0 + _ ≤ _; exact Nat.le_of_eq rfl) (hb hby at_9) (fun _ _ => ⟨rfl, rfl, (by decide : 1 + 0 ≤ _), (by decide : 1 + 0 ≤ _)⟩)
      dsimp only [Pt.U, Pt.locs, Pt.cells, Pt.slots] at X128 l128 y128 z128 st128 hQ128
      subst l128 y128 z128
      obtain ⟨rfl, N128q, K128⟩ := hQ128
      have N128 := Fr.app N125 N128q
      refine Go.by st128 ?_
      show Go _ _ _ _ T128 (mkF m 12 #[.val (.int p0), .val (.int p1), .val (.int p2), .val (.int p3), .val (.ref bP), .unset, .unset, .unset, .unset] [.null])
      refine Go.by (fun _ gk => XS.astore X128.here hx rfl (hb hby at_12) rfl rfl (l' := #[.val (.int p0), .val (.int p1), .val (.int p2), .val (.int p3), .val (.ref bP), .val .null, .unset, .unset, .unset]) rfl gk) ?_
      show Go _ _ _ _ T128 (mkF m 14 #[.val (.int p0), .val (.int p1), .val (.int p2), .val (.int p3), .val (.ref bP), .val .null, .unset, .unset, .unset] [])
      refine Go.by (fun _ gk => XS.aload X128.here hx rfl (hb hby at_14) rfl rfl gk) ?_
      show Go _ _ _ _ T128 (mkF m 16 #[.val (.int p0), .val (.int p1), .val (.int p2), .val (.int p3), .val (.ref bP), .val .null, .unset, .unset, .unset] [.null])
      refine Go.by (fun _ gk => XT.nonnullNo X128.here hx rfl (hb hby at_16) rfl rfl gk) ?_
      show Go _ _ _ _ T128 (mkF m 19 #[.val (.int p0), .val (.int p1), .val (.int p2), .val (.int p3), .val (.ref bP), .val .null, .unset, .unset, .unset] [])
      refine Go.by (fun _ gk => XS.iloadN X128.here hx rfl (hb hby at_19) rfl gk) ?_
      show Go _ _ _ _ T128 (mkF m 20 #[.val (.int p0), .val (.int p1), .val (.int p2), .val (.int p3), .val (.ref bP), .val .null, .unset, .unset, .unset] [(.int p3)])
      have F129 : Old Z n0 T128.heap := F126.keep K128 all0
      have F130 : n0 ≤ T128.heap.size := Nat.le_trans F127 K128.1
      obtain ⟨_, _, ⟨T131, L131, k131, n131⟩, -, X131, ⟨Lc131, hQ131, l131, y131, z131⟩, st131⟩ := Jvm.LawKit.callS X128 hx (y := (⟨"java/lang/Integer", "valueOf", "(I)Ljava/lang/Integer;"⟩ : MethodName)) hown (mvT hZ (hw _ (List.mem_of_getElem? (i := 4) rfl))) (mvT hZ (hw _ (List.mem_of_getElem? (i := 5) rfl))) (mvT hZ (hw _ (List.mem_of_getElem? (i := 6) rfl))) (mvT hZ (hw _ (List.mem_of_getElem? (i := 7) rfl))) (by decide) (backOf (W := 0) (rmValueOfI l Z a0 hw [] p3 caI ccI T128.heap n0 F130 F129 S_cacheI B_I S_high) hZ (hw _ (List.mem_of_getElem? (i := 7) rfl)) (hw _ (List.mem_of_getElem? (i := 6) rfl)) (by decide) (by decide)) (g := (mkF m 20 #[.val (.int p0), .val (.int p1), .val (.int p2), .val (.int p3), .val (.ref bP), .val .null, .unset, .unset, .unset] [(.int p3)])) rfl (by rw [hml]; rfl) (argsL := [(.int p3)]) (rest := []) (lenOf pd_160 rfl) rfl (by show 2 * 0 + _ ≤ _; exact Nat.le_of_eq rfl) (hb hby at_20) (fun _ _ => ⟨rfl, rfl, (by decide : 1 + 1 ≤ _), (by decide : 1 + 1 ≤ _)⟩)
      dsimp only [Pt.U, Pt.locs, Pt.cells, Pt.slots] at X131 l131 y131 z131 st131 hQ131
      subst l131 y131 z131
      obtain ⟨bG, rfl, N131q, K131, Q131_0, Q131_1⟩ := hQ131
      have N131 := Fr.app N128 N131q
      refine Go.by st131 ?_
      show Go _ _ _ _ T131 (mkF m 23 #[.val (.int p0), .val (.int p1), .val (.int p2), .val (.int p3), .val (.ref bP), .val .null, .unset, .unset, .unset] [(.ref bG)])
      refine Go.by (fun _ gk => XS.astore X131.here hx rfl (hb hby at_23) rfl rfl (l' := #[.val (.int p0), .val (.int p1), .val (.int p2), .val (.int p3), .val (.ref bP), .val (.ref bG), .unset, .unset, .unset]) rfl gk) ?_
      show Go _ _ _ _ T131 (mkF m 25 #[.val (.int p0), .val (.int p1), .val (.int p2), .val (.int p3), .val (.ref bP), .val (.ref bG), .unset, .unset, .unset] [])
      have F133 : n0 ≤ T131.heap.size := Nat.le_trans F130 K131.1
      obtain ⟨k, g132⟩ : ∃ z, z = T131.heap.size := ⟨_, rfl⟩
      have ge_k : n0 ≤ k := Nat.le_trans F133 (Nat.le_of_eq g132.symm)
      have F134 : Keep h0 T125.heap [] := (Keep.refl h0 []).trans K125 all0
      have F135 : Keep h0 T128.heap [] := F134.trans K128 all0
      have F136 : Keep h0 T131.heap [] := F135.trans K131 all0
      have sz_k : h0.size ≤ k := Nat.le_trans F136.1 (Nat.le_of_eq g132.symm)
      have ne_bG_k : bG ≠ k := Nat.ne_of_lt (Nat.lt_of_lt_of_le Q131_0.lt (Nat.le_of_eq g132.symm))
      have F137 : Exa Z T128.heap bP "java/lang/Long" := Q125_0.keep K128
      have F138 : Exa Z T131.heap bP "java/lang/Long" := F137.keep K131
      have ne_bP_k : bP ≠ k := Nat.ne_of_lt (Nat.lt_of_lt_of_le F138.lt (Nat.le_of_eq g132.symm))
      obtain ⟨T132, h132, X132, e132, E132, A132, D132, -, st132⟩ := newO X131 hx hZ hown (hw _ (List.mem_of_getElem? (i := 41) rfl)) (hw _ (List.mem_of_getElem? (i := 42) rfl)) (hw _ (List.mem_of_getElem? (i := 43) rfl)) rfl (g := (mkF m 25 #[.val (.int p0), .val (.int p1), .val (.int p2), .val (.int p3), .val (.ref bP), .val (.ref bG), .unset, .unset, .unset] [])) rfl (hb hby at_25) (by decide) (by decide)
      rw [← g132] at A132 D132 st132
      have F_generated_k : Fld Z h132 k "com/example/attache/attache/PendingKey" "generated" "Ljava/lang/Object;" .null := D132 (Or.inl (hw _ (List.mem_of_getElem? (i := 54) rfl))) (ty := (.object "java/lang/Object")) (by decide)
      refine Go.by st132 ?_
      show Go _ _ _ _ T132 (mkF m 28 #[.val (.int p0), .val (.int p1), .val (.int p2), .val (.int p3), .val (.ref bP), .val (.ref bG), .unset, .unset, .unset] [(.ref k)])
      refine Go.by (fun _ gk => XS.dup X132.here hx rfl (hb hby at_28) rfl rfl gk) ?_
      show Go _ _ _ _ T132 (mkF m 29 #[.val (.int p0), .val (.int p1), .val (.int p2), .val (.int p3), .val (.ref bP), .val (.ref bG), .unset, .unset, .unset] [(.ref k), (.ref k)])
      have F139 : n0 ≤ h132.size := Nat.le_trans F133 E132.1
      obtain ⟨_, _, ⟨T140, L140, k140, n140⟩, -, X140, ⟨Lc140, hQ140, l140, y140, z140⟩, st140⟩ := X132.specialBack hx (y := (⟨"com/example/attache/attache/PendingKey", "<init>", "()V"⟩ : MethodName)) rfl hown (mvT hZ (hw _ (List.mem_of_getElem? (i := 44) rfl))) (mvT hZ (hw _ (List.mem_of_getElem? (i := 45) rfl))) (mvT hZ (hw _ (List.mem_of_getElem? (i := 46) rfl))) (by decide) (backOf (W := 1) (rmPinit l Z a0 hw [] k h132 n0 F139 ) hZ (hw _ (List.mem_of_getElem? (i := 46) rfl)) (hw _ (List.mem_of_getElem? (i := 43) rfl)) (by decide) (by decide)) (g := (mkF m 29 #[.val (.int p0), .val (.int p1), .val (.int p2), .val (.int p3), .val (.ref bP), .val (.ref bG), .unset, .unset, .unset] [(.ref k), (.ref k)])) rfl (by rw [hml]; rfl) (Steps.refl _) (a := k) (argsL := []) (rest := [(.ref k)]) (lenOf pd_10 rfl) rfl (by show 2 * 0 + _ ≤ _; exact Nat.le_of_eq rfl) (hb hby at_29) (fun _ _ => ⟨rfl, e132, (by decide : 3 + 0 ≤ _), (by decide : 3 + 0 ≤ _)⟩)
      dsimp only [Pt.U, Pt.locs, Pt.cells, Pt.slots] at X140 l140 y140 z140 st140 hQ140
      subst l140 y140 z140
      obtain ⟨rfl, N140q, e140⟩ := hQ140
      have N140 := Fr.app N131 N140q
      refine Go.to st140 ?_
      show Go _ _ _ _ T140 (mkF m 32 #[.val (.int p0), .val (.int p1), .val (.int p2), .val (.int p3), .val (.ref bP), .val (.ref bG), .unset, .unset, .unset] [(.ref k)])
      refine Go.by (fun _ gk => XS.astore X140.here hx rfl (hb hby at_32) rfl rfl (l' := #[.val (.int p0), .val (.int p1), .val (.int p2), .val (.int p3), .val (.ref bP), .val (.ref bG), .val (.ref k), .unset, .unset]) rfl gk) ?_
      show Go _ _ _ _ T140 (mkF m 34 #[.val (.int p0), .val (.int p1), .val (.int p2), .val (.int p3), .val (.ref bP), .val (.ref bG), .val (.ref k), .unset, .unset] [])
      refine Go.by (fun _ gk => XS.aload X140.here hx rfl (hb hby at_34) rfl rfl gk) ?_
      show Go _ _ _ _ T140 (mkF m 36 #[.val (.int p0), .val (.int p1), .val (.int p2), .val (.int p3), .val (.ref bP), .val (.ref bG), .val (.ref k), .unset, .unset] [(.ref k)])
      refine Go.by (fun _ gk => XS.aload X140.here hx rfl (hb hby at_36) rfl rfl gk) ?_
      show Go _ _ _ _ T140 (mkF m 38 #[.val (.int p0), .val (.int p1), .val (.int p2), .val (.int p3), .val (.ref bP), .val (.ref bG), .val (.ref k), .unset, .unset] [(.ref bG), (.ref k)])
      obtain ⟨cq141, kq141, q141a, q141b, q141c⟩ := isOf hZ e140 A132
      obtain ⟨_, _, ⟨T141, L141, k141, n141⟩, -, X141, ⟨Lc141, hQ141, l141, y141, z141⟩, st141⟩ := X140.virtualBack hx (y := (⟨"com/example/attache/attache/PendingKey", "generated", "(Ljava/lang/Object;)V"⟩ : MethodName)) (z := (⟨"com/example/attache/attache/PendingKey", "generated", "(Ljava/lang/Object;)V"⟩ : MethodName)) hown (mvT hZ (hw _ (List.mem_of_getElem? (i := 48) rfl))) (mvT hZ (hw _ (List.mem_of_getElem? (i := 49) rfl))) (notFace_of_selects (args := #[]) (mvT hZ (hw _ (List.mem_of_getElem? (i := 51) rfl)))) (mvT hZ (hw _ (List.mem_of_getElem? (i := 51) rfl))) (mvT hZ (hw _ (List.mem_of_getElem? (i := 50) rfl))) (by decide) (backOf (W := 0) (rmPut l Z a0 hw [] k bG .null h132 n0 F139 A132 F_generated_k ge_k) hZ (hw _ (List.mem_of_getElem? (i := 52) rfl)) (hw _ (List.mem_of_getElem? (i := 43) rfl)) (by decide) (by decide)) q141a q141c (g := (mkF m 38 #[.val (.int p0), .val (.int p1), .val (.int p2), .val (.int p3), .val (.ref bP), .val (.ref bG), .val (.ref k), .unset, .unset] [(.ref bG), (.ref k)])) rfl (by rw [hml]; rfl) (Steps.refl _) (argsL := [(.ref bG)]) (rest := []) (lenOf pd_231 rfl) rfl (by show 2 * 0 + _ ≤ _; exact Nat.le_of_eq rfl) (hb hby at_38) (fun _ _ => ⟨rfl, e140, (by decide : 3 + 0 ≤ _), (by decide : 3 + 0 ≤ _)⟩)
      dsimp only [Pt.U, Pt.locs, Pt.cells, Pt.slots] at X141 l141 y141 z141 st141 hQ141
      subst l141 y141 z141
      obtain ⟨rfl, N141q, K141, Q141_0, Q141_1⟩ := hQ141
      have N141 := Fr.app N140 N141q
      refine Go.to st141 ?_
      show Go _ _ _ _ T141 (mkF m 41 #[.val (.int p0), .val (.int p1), .val (.int p2), .val (.int p3), .val (.ref bP), .val (.ref bG), .val (.ref k), .unset, .unset] [])
      refine Go.by (fun _ gk => XS.aload X141.here hx rfl (hb hby at_41) rfl rfl gk) ?_
      show Go _ _ _ _ T141 (mkF m 43 #[.val (.int p0), .val (.int p1), .val (.int p2), .val (.int p3), .val (.ref bP), .val (.ref bG), .val (.ref k), .unset, .unset] [(.ref bP)])
      have F142 : Exa Z h132 bP "java/lang/Long" := F138.ext E132
      have F143 : Exa Z T141.heap bP "java/lang/Long" := F142.keep K141
      have F144 : n0 ≤ T141.heap.size := Nat.le_trans F139 K141.1
      obtain ⟨_, _, ⟨T145, L145, k145, n145⟩, -, X145, ⟨Lc145, hQ145, l145, y145, z145⟩, st145⟩ := Jvm.LawKit.callS X141 hx (y := (⟨"com/example/attache/attache/PendingKey", "resolved", "(Ljava/lang/Object;)Ljava/lang/Object;"⟩ : MethodName)) hown (mvT hZ (hw _ (List.mem_of_getElem? (i := 55) rfl))) (mvT hZ (hw _ (List.mem_of_getElem? (i := 56) rfl))) (mvT hZ (hw _ (List.mem_of_getElem? (i := 43) rfl))) (mvT hZ (hw _ (List.mem_of_getElem? (i := 57) rfl))) (by decide) (backOf (W := 0) (rmRes1 l Z a0 hw [] bP T141.heap n0 F144 F143) hZ (hw _ (List.mem_of_getElem? (i := 57) rfl)) (hw _ (List.mem_of_getElem? (i := 43) rfl)) (by decide) (by decide)) (g := (mkF m 43 #[.val (.int p0), .val (.int p1), .val (.int p2), .val (.int p3), .val (.ref bP), .val (.ref bG), .val (.ref k), .unset, .unset] [(.ref bP)])) rfl (by rw [hml]; rfl) (argsL := [(.ref bP)]) (rest := []) (lenOf pd_232 rfl) rfl (by show 2 * 0 + _ ≤ _; exact Nat.le_of_eq rfl) (hb hby at_43) (fun _ _ => ⟨rfl, rfl, (by decide : 3 + 0 ≤ _), (by decide : 3 + 0 ≤ _)⟩)
      dsimp only [Pt.U, Pt.locs, Pt.cells, Pt.slots] at X145 l145 y145 z145 st145 hQ145
      subst l145 y145 z145
      obtain ⟨rfl, N145q, e145⟩ := hQ145
      have N145 := Fr.app N141 N145q
      refine Go.by st145 ?_
      show Go _ _ _ _ T145 (mkF m 46 #[.val (.int p0), .val (.int p1), .val (.int p2), .val (.int p3), .val (.ref bP), .val (.ref bG), .val (.ref k), .unset, .unset] [(.ref bP)])
      refine Go.by (fun _ gk => XS.astore X145.here hx rfl (hb hby at_46) rfl rfl (l' := #[.val (.int p0), .val (.int p1), .val (.int p2), .val (.int p3), .val (.ref bP), .val (.ref bG), .val (.ref k), .val (.ref bP), .unset]) rfl gk) ?_
      show Go _ _ _ _ T145 (mkF m 48 #[.val (.int p0), .val (.int p1), .val (.int p2), .val (.int p3), .val (.ref bP), .val (.ref bG), .val (.ref k), .val (.ref bP), .unset] [])
      refine Go.by (fun _ gk => XS.aload X145.here hx rfl (hb hby at_48) rfl rfl gk) ?_
      show Go _ _ _ _ T145 (mkF m 50 #[.val (.int p0), .val (.int p1), .val (.int p2), .val (.int p3), .val (.ref bP), .val (.ref bG), .val (.ref k), .val (.ref bP), .unset] [(.ref k)])
      obtain ⟨_, _, ⟨T146, L146, k146, n146⟩, -, X146, ⟨Lc146, hQ146, l146, y146, z146⟩, st146⟩ := Jvm.LawKit.callS X145 hx (y := (⟨"com/example/attache/attache/PendingKey", "resolved", "(Ljava/lang/Object;)Ljava/lang/Object;"⟩ : MethodName)) hown (mvT hZ (hw _ (List.mem_of_getElem? (i := 55) rfl))) (mvT hZ (hw _ (List.mem_of_getElem? (i := 56) rfl))) (mvT hZ (hw _ (List.mem_of_getElem? (i := 43) rfl))) (mvT hZ (hw _ (List.mem_of_getElem? (i := 57) rfl))) (by decide) (backOf (W := 0) (rmResP l Z a0 hw [] k bG T141.heap n0 F144 Q141_0 Q141_1) hZ (hw _ (List.mem_of_getElem? (i := 57) rfl)) (hw _ (List.mem_of_getElem? (i := 43) rfl)) (by decide) (by decide)) (g := (mkF m 50 #[.val (.int p0), .val (.int p1), .val (.int p2), .val (.int p3), .val (.ref bP), .val (.ref bG), .val (.ref k), .val (.ref bP), .unset] [(.ref k)])) rfl (by rw [hml]; rfl) (argsL := [(.ref k)]) (rest := []) (lenOf pd_232 rfl) rfl (by show 2 * 0 + _ ≤ _; exact Nat.le_of_eq rfl) (hb hby at_50) (fun _ _ => ⟨rfl, e145, (by decide : 3 + 0 ≤ _), (by decide : 3 + 0 ≤ _)⟩)
      dsimp only [Pt.U, Pt.locs, Pt.cells, Pt.slots] at X146 l146 y146 z146 st146 hQ146
      subst l146 y146 z146
      obtain ⟨rfl, N146q, e146⟩ := hQ146
      have N146 := Fr.app N145 N146q
      refine Go.by st146 ?_
      show Go _ _ _ _ T146 (mkF m 53 #[.val (.int p0), .val (.int p1), .val (.int p2), .val (.int p3), .val (.ref bP), .val (.ref bG), .val (.ref k), .val (.ref bP), .unset] [(.ref bG)])
      refine Go.by (fun _ gk => XS.astore X146.here hx rfl (hb hby at_53) rfl rfl (l' := #[.val (.int p0), .val (.int p1), .val (.int p2), .val (.int p3), .val (.ref bP), .val (.ref bG), .val (.ref k), .val (.ref bP), .val (.ref bG)]) rfl gk) ?_
      show Go _ _ _ _ T146 (mkF m 55 #[.val (.int p0), .val (.int p1), .val (.int p2), .val (.int p3), .val (.ref bP), .val (.ref bG), .val (.ref k), .val (.ref bP), .val (.ref bG)] [])
      refine Go.by (fun _ gk => XS.aload X146.here hx rfl (hb hby at_55) rfl rfl gk) ?_
      show Go _ _ _ _ T146 (mkF m 57 #[.val (.int p0), .val (.int p1), .val (.int p2), .val (.int p3), .val (.ref bP), .val (.ref bG), .val (.ref k), .val (.ref bP), .val (.ref bG)] [(.ref bP)])
      refine Go.by (fun _ gk => XS.aload X146.here hx rfl (hb hby at_57) rfl rfl gk) ?_
      show Go _ _ _ _ T146 (mkF m 59 #[.val (.int p0), .val (.int p1), .val (.int p2), .val (.int p3), .val (.ref bP), .val (.ref bG), .val (.ref k), .val (.ref bP), .val (.ref bG)] [(.ref bP), (.ref bP)])
      refine Go.by (fun _ gk => XT.acmpNo X146.here hx rfl (hb hby at_59) rfl rfl rfl (XT.aa_ne_f rfl) gk) ?_
      show Go _ _ _ _ T146 (mkF m 62 #[.val (.int p0), .val (.int p1), .val (.int p2), .val (.int p3), .val (.ref bP), .val (.ref bG), .val (.ref k), .val (.ref bP), .val (.ref bG)] [])
      refine Go.by (fun _ gk => XS.aload X146.here hx rfl (hb hby at_62) rfl rfl gk) ?_
      show Go _ _ _ _ T146 (mkF m 64 #[.val (.int p0), .val (.int p1), .val (.int p2), .val (.int p3), .val (.ref bP), .val (.ref bG), .val (.ref k), .val (.ref bP), .val (.ref bG)] [(.ref bG)])
      refine Go.by (fun _ gk => XS.aload X146.here hx rfl (hb hby at_64) rfl rfl gk) ?_
      show Go _ _ _ _ T146 (mkF m 66 #[.val (.int p0), .val (.int p1), .val (.int p2), .val (.int p3), .val (.ref bP), .val (.ref bG), .val (.ref k), .val (.ref bP), .val (.ref bG)] [(.ref bG), (.ref bG)])
      refine Go.by (fun _ gk => XT.acmpNo X146.here hx rfl (hb hby at_66) rfl rfl rfl (XT.aa_ne_f rfl) gk) ?_
      show Go _ _ _ _ T146 (mkF m 69 #[.val (.int p0), .val (.int p1), .val (.int p2), .val (.int p3), .val (.ref bP), .val (.ref bG), .val (.ref k), .val (.ref bP), .val (.ref bG)] [])
      refine Go.by (fun _ gk => XT.iconstV X146.here hx rfl (1 : Int32) (hb hby at_69) (by decide) gk) ?_
      show Go _ _ _ _ T146 (mkF m 70 #[.val (.int p0), .val (.int p1), .val (.int p2), .val (.int p3), .val (.ref bP), .val (.ref bG), .val (.ref k), .val (.ref bP), .val (.ref bG)] [(.int (1 : Int32))])
      refine Go.by (fun _ gk => XS.goto X146.here hx rfl (pc0 := 70) (pc' := 74) rfl (hb hby at_70) (by decide) (by decide) gk) ?_
      show Go _ _ _ _ T146 (mkF m 74 #[.val (.int p0), .val (.int p1), .val (.int p2), .val (.int p3), .val (.ref bP), .val (.ref bG), .val (.ref k), .val (.ref bP), .val (.ref bG)] [(.int (1 : Int32))])
      exact Go.retI X146 hx Bd.notSynchronized Bd.returns rfl (by simp) (hb hby at_74) (by rw [e146]; exact ⟨rfl, N146⟩) (by decide) (by decide)
  · rcases own_and3 p2 with hj | hj | hj | hj
    · obtain ⟨_, _, ⟨T147, L147, k147, n147⟩, -, X147, ⟨Lc147, hQ147, l147, y147, z147⟩, st147⟩ := Jvm.LawKit.callS X0 hx (y := (⟨"com/example/attache/attache/PendingKeyResolvedPinLaw", "make", "(II)Ljava/lang/Object;"⟩ : MethodName)) hown (mvT hZ (hw _ (List.mem_of_getElem? (i := 0) rfl))) (mvT hZ (hw _ (List.mem_of_getElem? (i := 1) rfl))) (mvT hZ (hw _ (List.mem_of_getElem? (i := 2) rfl))) (mvT hZ (hw _ (List.mem_of_getElem? (i := 3) rfl))) (by decide) (backOf (W := 0) (rmMake2 l Z a0 hw [] p0 p1 caI ccI caJ ccJ cs h0 n0 Z0 O0 hi S_cacheI B_I S_high S_cacheJ B_J S_cs n_cs) hZ (hw _ (List.mem_of_getElem? (i := 3) rfl)) (hw _ (List.mem_of_getElem? (i := 2) rfl)) (by decide) (by decide)) (g := (mkF m 2 #[.val (.int p0), .val (.int p1), .val (.int p2), .val (.int p3), .unset, .unset, .unset, .unset, .unset] [(.int p1), (.int p0)])) rfl (by rw [hml]; rfl) (argsL := [(.int p0), (.int p1)]) (rest := []) (lenOf pd_230 rfl) rfl (by show 2 * 0 + _ ≤ _; exact Nat.le_of_eq rfl) (hb hby at_2) (fun _ _ => ⟨rfl, e0, (by decide : 0 + 3 ≤ _), (by decide : 0 + 8 ≤ _)⟩)
      dsimp only [Pt.U, Pt.locs, Pt.cells, Pt.slots] at X147 l147 y147 z147 st147 hQ147
      subst l147 y147 z147
      obtain ⟨bP, rfl, N147q, K147, Q147_0⟩ := hQ147
      have N147 := Fr.app N0 N147q
      refine Go.by st147 ?_
      show Go _ _ _ _ T147 (mkF m 5 #[.val (.int p0), .val (.int p1), .val (.int p2), .val (.int p3), .unset, .unset, .unset, .unset, .unset] [(.ref bP)])
      refine Go.by (fun _ gk => XS.astore X147.here hx rfl (hb hby at_5) rfl rfl (l' := #[.val (.int p0), .val (.int p1), .val (.int p2), .val (.int p3), .val (.ref bP), .unset, .unset, .unset, .unset]) rfl gk) ?_
      show Go _ _ _ _ T147 (mkF m 7 #[.val (.int p0), .val (.int p1), .val (.int p2), .val (.int p3), .val (.ref bP), .unset, .unset, .unset, .unset] [])
      refine Go.by (fun _ gk => XS.iloadN X147.here hx rfl (hb hby at_7) rfl gk) ?_
      show Go _ _ _ _ T147 (mkF m 8 #[.val (.int p0), .val (.int p1), .val (.int p2), .val (.int p3), .val (.ref bP), .unset, .unset, .unset, .unset] [(.int p2)])
      refine Go.by (fun _ gk => XS.iloadN X147.here hx rfl (hb hby at_8) rfl gk) ?_
      show Go _ _ _ _ T147 (mkF m 9 #[.val (.int p0), .val (.int p1), .val (.int p2), .val (.int p3), .val (.ref bP), .unset, .unset, .unset, .unset] [(.int p3), (.int p2)])
      have F148 : Old Z n0 T147.heap := O0.keep K147 all0
      have F149 : n0 ≤ T147.heap.size := Nat.le_trans Z0 K147.1
      obtain ⟨_, _, ⟨T150, L150, k150, n150⟩, -, X150, ⟨Lc150, hQ150, l150, y150, z150⟩, st150⟩ := Jvm.LawKit.callS X147 hx (y := (⟨"com/example/attache/attache/PendingKeyResolvedPinLaw", "make", "(II)Ljava/lang/Object;"⟩ : MethodName)) hown (mvT hZ (hw _ (List.mem_of_getElem? (i := 0) rfl))) (mvT hZ (hw _ (List.mem_of_getElem? (i := 1) rfl))) (mvT hZ (hw _ (List.mem_of_getElem? (i := 2) rfl))) (mvT hZ (hw _ (List.mem_of_getElem? (i := 3) rfl))) (by decide) (backOf (W := 0) (rmMake0 l Z a0 hw [] p2 p3 caI ccI caJ ccJ cs T147.heap n0 F149 F148 hj S_cacheI B_I S_high S_cacheJ B_J S_cs n_cs) hZ (hw _ (List.mem_of_getElem? (i := 3) rfl)) (hw _ (List.mem_of_getElem? (i := 2) rfl)) (by decide) (by decide)) (g := (mkF m 9 #[.val (.int p0), .val (.int p1), .val (.int p2), .val (.int p3), .val (.ref bP), .unset, .unset, .unset, .unset] [(.int p3), (.int p2)])) rfl (by rw [hml]; rfl) (argsL := [(.int p2), (.int p3)]) (rest := []) (lenOf pd_230 rfl) rfl (by show 2 * 0 + _ ≤ _; exact Nat.le_of_eq rfl) (hb hby at_9) (fun _ _ => ⟨rfl, rfl, (by decide : 3 + 1 ≤ _), (by decide : 8 + 1 ≤ _)⟩)
      dsimp only [Pt.U, Pt.locs, Pt.cells, Pt.slots] at X150 l150 y150 z150 st150 hQ150
      subst l150 y150 z150
      obtain ⟨bG, rfl, N150q, K150, Q150_0⟩ := hQ150
      have N150 := Fr.app N147 N150q
      refine Go.by st150 ?_
      show Go _ _ _ _ T150 (mkF m 12 #[.val (.int p0), .val (.int p1), .val (.int p2), .val (.int p3), .val (.ref bP), .unset, .unset, .unset, .unset] [(.ref bG)])
      refine Go.by (fun _ gk => XS.astore X150.here hx rfl (hb hby at_12) rfl rfl (l' := #[.val (.int p0), .val (.int p1), .val (.int p2), .val (.int p3), .val (.ref bP), .val (.ref bG), .unset, .unset, .unset]) rfl gk) ?_
      show Go _ _ _ _ T150 (mkF m 14 #[.val (.int p0), .val (.int p1), .val (.int p2), .val (.int p3), .val (.ref bP), .val (.ref bG), .unset, .unset, .unset] [])
      refine Go.by (fun _ gk => XS.aload X150.here hx rfl (hb hby at_14) rfl rfl gk) ?_
      show Go _ _ _ _ T150 (mkF m 16 #[.val (.int p0), .val (.int p1), .val (.int p2), .val (.int p3), .val (.ref bP), .val (.ref bG), .unset, .unset, .unset] [(.ref bG)])
      refine Go.by (fun _ gk => XT.nonnullYes X150.here hx rfl (pc0 := 16) (pc' := 25) rfl (hb hby at_16) rfl rfl nofun (by decide) (by decide) gk) ?_
      show Go _ _ _ _ T150 (mkF m 25 #[.val (.int p0), .val (.int p1), .val (.int p2), .val (.int p3), .val (.ref bP), .val (.ref bG), .unset, .unset, .unset] [])
      have F152 : n0 ≤ T150.heap.size := Nat.le_trans F149 K150.1
      obtain ⟨k, g151⟩ : ∃ z, z = T150.heap.size := ⟨_, rfl⟩
      have ge_k : n0 ≤ k := Nat.le_trans F152 (Nat.le_of_eq g151.symm)
      have F153 : Keep h0 T147.heap [] := (Keep.refl h0 []).trans K147 all0
      have F154 : Keep h0 T150.heap [] := F153.trans K150 all0
      have sz_k : h0.size ≤ k := Nat.le_trans F154.1 (Nat.le_of_eq g151.symm)
      have ne_bG_k : bG ≠ k := Nat.ne_of_lt (Nat.lt_of_lt_of_le Q150_0.lt (Nat.le_of_eq g151.symm))
      have F155 : Exa Z T150.heap bP "java/lang/String" := Q147_0.keep K150
      have ne_bP_k : bP ≠ k := Nat.ne_of_lt (Nat.lt_of_lt_of_le F155.lt (Nat.le_of_eq g151.symm))
      obtain ⟨T151, h151, X151, e151, E151, A151, D151, -, st151⟩ := newO X150 hx hZ hown (hw _ (List.mem_of_getElem? (i := 41) rfl)) (hw _ (List.mem_of_getElem? (i := 42) rfl)) (hw _ (List.mem_of_getElem? (i := 43) rfl)) rfl (g := (mkF m 25 #[.val (.int p0), .val (.int p1), .val (.int p2), .val (.int p3), .val (.ref bP), .val (.ref bG), .unset, .unset, .unset] [])) rfl (hb hby at_25) (by decide) (by decide)
      rw [← g151] at A151 D151 st151
      have F_generated_k : Fld Z h151 k "com/example/attache/attache/PendingKey" "generated" "Ljava/lang/Object;" .null := D151 (Or.inl (hw _ (List.mem_of_getElem? (i := 54) rfl))) (ty := (.object "java/lang/Object")) (by decide)
      refine Go.by st151 ?_
      show Go _ _ _ _ T151 (mkF m 28 #[.val (.int p0), .val (.int p1), .val (.int p2), .val (.int p3), .val (.ref bP), .val (.ref bG), .unset, .unset, .unset] [(.ref k)])
      refine Go.by (fun _ gk => XS.dup X151.here hx rfl (hb hby at_28) rfl rfl gk) ?_
      show Go _ _ _ _ T151 (mkF m 29 #[.val (.int p0), .val (.int p1), .val (.int p2), .val (.int p3), .val (.ref bP), .val (.ref bG), .unset, .unset, .unset] [(.ref k), (.ref k)])
      have F156 : n0 ≤ h151.size := Nat.le_trans F152 E151.1
      obtain ⟨_, _, ⟨T157, L157, k157, n157⟩, -, X157, ⟨Lc157, hQ157, l157, y157, z157⟩, st157⟩ := X151.specialBack hx (y := (⟨"com/example/attache/attache/PendingKey", "<init>", "()V"⟩ : MethodName)) rfl hown (mvT hZ (hw _ (List.mem_of_getElem? (i := 44) rfl))) (mvT hZ (hw _ (List.mem_of_getElem? (i := 45) rfl))) (mvT hZ (hw _ (List.mem_of_getElem? (i := 46) rfl))) (by decide) (backOf (W := 1) (rmPinit l Z a0 hw [] k h151 n0 F156 ) hZ (hw _ (List.mem_of_getElem? (i := 46) rfl)) (hw _ (List.mem_of_getElem? (i := 43) rfl)) (by decide) (by decide)) (g := (mkF m 29 #[.val (.int p0), .val (.int p1), .val (.int p2), .val (.int p3), .val (.ref bP), .val (.ref bG), .unset, .unset, .unset] [(.ref k), (.ref k)])) rfl (by rw [hml]; rfl) (Steps.refl _) (a := k) (argsL := []) (rest := [(.ref k)]) (lenOf pd_10 rfl) rfl (by show 2 * 0 + _ ≤ _; exact Nat.le_of_eq rfl) (hb hby at_29) (fun _ _ => ⟨rfl, e151, (by decide : 5 + 0 ≤ _), (by decide : 10 + 0 ≤ _)⟩)
      dsimp only [Pt.U, Pt.locs, Pt.cells, Pt.slots] at X157 l157 y157 z157 st157 hQ157
      subst l157 y157 z157
      obtain ⟨rfl, N157q, e157⟩ := hQ157
      have N157 := Fr.app N150 N157q
      refine Go.to st157 ?_
      show Go _ _ _ _ T157 (mkF m 32 #[.val (.int p0), .val (.int p1), .val (.int p2), .val (.int p3), .val (.ref bP), .val (.ref bG), .unset, .unset, .unset] [(.ref k)])
      refine Go.by (fun _ gk => XS.astore X157.here hx rfl (hb hby at_32) rfl rfl (l' := #[.val (.int p0), .val (.int p1), .val (.int p2), .val (.int p3), .val (.ref bP), .val (.ref bG), .val (.ref k), .unset, .unset]) rfl gk) ?_
      show Go _ _ _ _ T157 (mkF m 34 #[.val (.int p0), .val (.int p1), .val (.int p2), .val (.int p3), .val (.ref bP), .val (.ref bG), .val (.ref k), .unset, .unset] [])
      refine Go.by (fun _ gk => XS.aload X157.here hx rfl (hb hby at_34) rfl rfl gk) ?_
      show Go _ _ _ _ T157 (mkF m 36 #[.val (.int p0), .val (.int p1), .val (.int p2), .val (.int p3), .val (.ref bP), .val (.ref bG), .val (.ref k), .unset, .unset] [(.ref k)])
      refine Go.by (fun _ gk => XS.aload X157.here hx rfl (hb hby at_36) rfl rfl gk) ?_
      show Go _ _ _ _ T157 (mkF m 38 #[.val (.int p0), .val (.int p1), .val (.int p2), .val (.int p3), .val (.ref bP), .val (.ref bG), .val (.ref k), .unset, .unset] [(.ref bG), (.ref k)])
      obtain ⟨cq158, kq158, q158a, q158b, q158c⟩ := isOf hZ e157 A151
      obtain ⟨_, _, ⟨T158, L158, k158, n158⟩, -, X158, ⟨Lc158, hQ158, l158, y158, z158⟩, st158⟩ := X157.virtualBack hx (y := (⟨"com/example/attache/attache/PendingKey", "generated", "(Ljava/lang/Object;)V"⟩ : MethodName)) (z := (⟨"com/example/attache/attache/PendingKey", "generated", "(Ljava/lang/Object;)V"⟩ : MethodName)) hown (mvT hZ (hw _ (List.mem_of_getElem? (i := 48) rfl))) (mvT hZ (hw _ (List.mem_of_getElem? (i := 49) rfl))) (notFace_of_selects (args := #[]) (mvT hZ (hw _ (List.mem_of_getElem? (i := 51) rfl)))) (mvT hZ (hw _ (List.mem_of_getElem? (i := 51) rfl))) (mvT hZ (hw _ (List.mem_of_getElem? (i := 50) rfl))) (by decide) (backOf (W := 0) (rmPut l Z a0 hw [] k bG .null h151 n0 F156 A151 F_generated_k ge_k) hZ (hw _ (List.mem_of_getElem? (i := 52) rfl)) (hw _ (List.mem_of_getElem? (i := 43) rfl)) (by decide) (by decide)) q158a q158c (g := (mkF m 38 #[.val (.int p0), .val (.int p1), .val (.int p2), .val (.int p3), .val (.ref bP), .val (.ref bG), .val (.ref k), .unset, .unset] [(.ref bG), (.ref k)])) rfl (by rw [hml]; rfl) (Steps.refl _) (argsL := [(.ref bG)]) (rest := []) (lenOf pd_231 rfl) rfl (by show 2 * 0 + _ ≤ _; exact Nat.le_of_eq rfl) (hb hby at_38) (fun _ _ => ⟨rfl, e157, (by decide : 5 + 0 ≤ _), (by decide : 10 + 0 ≤ _)⟩)
      dsimp only [Pt.U, Pt.locs, Pt.cells, Pt.slots] at X158 l158 y158 z158 st158 hQ158
      subst l158 y158 z158
      obtain ⟨rfl, N158q, K158, Q158_0, Q158_1⟩ := hQ158
      have N158 := Fr.app N157 N158q
      refine Go.to st158 ?_
      show Go _ _ _ _ T158 (mkF m 41 #[.val (.int p0), .val (.int p1), .val (.int p2), .val (.int p3), .val (.ref bP), .val (.ref bG), .val (.ref k), .unset, .unset] [])
      refine Go.by (fun _ gk => XS.aload X158.here hx rfl (hb hby at_41) rfl rfl gk) ?_
      show Go _ _ _ _ T158 (mkF m 43 #[.val (.int p0), .val (.int p1), .val (.int p2), .val (.int p3), .val (.ref bP), .val (.ref bG), .val (.ref k), .unset, .unset] [(.ref bP)])
      have F159 : Exa Z h151 bP "java/lang/String" := F155.ext E151
      have F160 : Exa Z T158.heap bP "java/lang/String" := F159.keep K158
      have F161 : n0 ≤ T158.heap.size := Nat.le_trans F156 K158.1
      obtain ⟨_, _, ⟨T162, L162, k162, n162⟩, -, X162, ⟨Lc162, hQ162, l162, y162, z162⟩, st162⟩ := Jvm.LawKit.callS X158 hx (y := (⟨"com/example/attache/attache/PendingKey", "resolved", "(Ljava/lang/Object;)Ljava/lang/Object;"⟩ : MethodName)) hown (mvT hZ (hw _ (List.mem_of_getElem? (i := 55) rfl))) (mvT hZ (hw _ (List.mem_of_getElem? (i := 56) rfl))) (mvT hZ (hw _ (List.mem_of_getElem? (i := 43) rfl))) (mvT hZ (hw _ (List.mem_of_getElem? (i := 57) rfl))) (by decide) (backOf (W := 0) (rmRes2 l Z a0 hw [] bP T158.heap n0 F161 F160) hZ (hw _ (List.mem_of_getElem? (i := 57) rfl)) (hw _ (List.mem_of_getElem? (i := 43) rfl)) (by decide) (by decide)) (g := (mkF m 43 #[.val (.int p0), .val (.int p1), .val (.int p2), .val (.int p3), .val (.ref bP), .val (.ref bG), .val (.ref k), .unset, .unset] [(.ref bP)])) rfl (by rw [hml]; rfl) (argsL := [(.ref bP)]) (rest := []) (lenOf pd_232 rfl) rfl (by show 2 * 0 + _ ≤ _; exact Nat.le_of_eq rfl) (hb hby at_43) (fun _ _ => ⟨rfl, rfl, (by decide : 5 + 0 ≤ _), (by decide : 10 + 0 ≤ _)⟩)
      dsimp only [Pt.U, Pt.locs, Pt.cells, Pt.slots] at X162 l162 y162 z162 st162 hQ162
      subst l162 y162 z162
      obtain ⟨rfl, N162q, e162⟩ := hQ162
      have N162 := Fr.app N158 N162q
      refine Go.by st162 ?_
      show Go _ _ _ _ T162 (mkF m 46 #[.val (.int p0), .val (.int p1), .val (.int p2), .val (.int p3), .val (.ref bP), .val (.ref bG), .val (.ref k), .unset, .unset] [(.ref bP)])
      refine Go.by (fun _ gk => XS.astore X162.here hx rfl (hb hby at_46) rfl rfl (l' := #[.val (.int p0), .val (.int p1), .val (.int p2), .val (.int p3), .val (.ref bP), .val (.ref bG), .val (.ref k), .val (.ref bP), .unset]) rfl gk) ?_
      show Go _ _ _ _ T162 (mkF m 48 #[.val (.int p0), .val (.int p1), .val (.int p2), .val (.int p3), .val (.ref bP), .val (.ref bG), .val (.ref k), .val (.ref bP), .unset] [])
      refine Go.by (fun _ gk => XS.aload X162.here hx rfl (hb hby at_48) rfl rfl gk) ?_
      show Go _ _ _ _ T162 (mkF m 50 #[.val (.int p0), .val (.int p1), .val (.int p2), .val (.int p3), .val (.ref bP), .val (.ref bG), .val (.ref k), .val (.ref bP), .unset] [(.ref k)])
      obtain ⟨_, _, ⟨T163, L163, k163, n163⟩, -, X163, ⟨Lc163, hQ163, l163, y163, z163⟩, st163⟩ := Jvm.LawKit.callS X162 hx (y := (⟨"com/example/attache/attache/PendingKey", "resolved", "(Ljava/lang/Object;)Ljava/lang/Object;"⟩ : MethodName)) hown (mvT hZ (hw _ (List.mem_of_getElem? (i := 55) rfl))) (mvT hZ (hw _ (List.mem_of_getElem? (i := 56) rfl))) (mvT hZ (hw _ (List.mem_of_getElem? (i := 43) rfl))) (mvT hZ (hw _ (List.mem_of_getElem? (i := 57) rfl))) (by decide) (backOf (W := 0) (rmResP l Z a0 hw [] k bG T158.heap n0 F161 Q158_0 Q158_1) hZ (hw _ (List.mem_of_getElem? (i := 57) rfl)) (hw _ (List.mem_of_getElem? (i := 43) rfl)) (by decide) (by decide)) (g := (mkF m 50 #[.val (.int p0), .val (.int p1), .val (.int p2), .val (.int p3), .val (.ref bP), .val (.ref bG), .val (.ref k), .val (.ref bP), .unset] [(.ref k)])) rfl (by rw [hml]; rfl) (argsL := [(.ref k)]) (rest := []) (lenOf pd_232 rfl) rfl (by show 2 * 0 + _ ≤ _; exact Nat.le_of_eq rfl) (hb hby at_50) (fun _ _ => ⟨rfl, e162, (by decide : 5 + 0 ≤ _), (by decide : 10 + 0 ≤ _)⟩)
      dsimp only [Pt.U, Pt.locs, Pt.cells, Pt.slots] at X163 l163 y163 z163 st163 hQ163
      subst l163 y163 z163
      obtain ⟨rfl, N163q, e163⟩ := hQ163
      have N163 := Fr.app N162 N163q
      refine Go.by st163 ?_
      show Go _ _ _ _ T163 (mkF m 53 #[.val (.int p0), .val (.int p1), .val (.int p2), .val (.int p3), .val (.ref bP), .val (.ref bG), .val (.ref k), .val (.ref bP), .unset] [(.ref bG)])
      refine Go.by (fun _ gk => XS.astore X163.here hx rfl (hb hby at_53) rfl rfl (l' := #[.val (.int p0), .val (.int p1), .val (.int p2), .val (.int p3), .val (.ref bP), .val (.ref bG), .val (.ref k), .val (.ref bP), .val (.ref bG)]) rfl gk) ?_
      show Go _ _ _ _ T163 (mkF m 55 #[.val (.int p0), .val (.int p1), .val (.int p2), .val (.int p3), .val (.ref bP), .val (.ref bG), .val (.ref k), .val (.ref bP), .val (.ref bG)] [])
      refine Go.by (fun _ gk => XS.aload X163.here hx rfl (hb hby at_55) rfl rfl gk) ?_
      show Go _ _ _ _ T163 (mkF m 57 #[.val (.int p0), .val (.int p1), .val (.int p2), .val (.int p3), .val (.ref bP), .val (.ref bG), .val (.ref k), .val (.ref bP), .val (.ref bG)] [(.ref bP)])
      refine Go.by (fun _ gk => XS.aload X163.here hx rfl (hb hby at_57) rfl rfl gk) ?_
      show Go _ _ _ _ T163 (mkF m 59 #[.val (.int p0), .val (.int p1), .val (.int p2), .val (.int p3), .val (.ref bP), .val (.ref bG), .val (.ref k), .val (.ref bP), .val (.ref bG)] [(.ref bP), (.ref bP)])
      refine Go.by (fun _ gk => XT.acmpNo X163.here hx rfl (hb hby at_59) rfl rfl rfl (XT.aa_ne_f rfl) gk) ?_
      show Go _ _ _ _ T163 (mkF m 62 #[.val (.int p0), .val (.int p1), .val (.int p2), .val (.int p3), .val (.ref bP), .val (.ref bG), .val (.ref k), .val (.ref bP), .val (.ref bG)] [])
      refine Go.by (fun _ gk => XS.aload X163.here hx rfl (hb hby at_62) rfl rfl gk) ?_
      show Go _ _ _ _ T163 (mkF m 64 #[.val (.int p0), .val (.int p1), .val (.int p2), .val (.int p3), .val (.ref bP), .val (.ref bG), .val (.ref k), .val (.ref bP), .val (.ref bG)] [(.ref bG)])
      refine Go.by (fun _ gk => XS.aload X163.here hx rfl (hb hby at_64) rfl rfl gk) ?_
      show Go _ _ _ _ T163 (mkF m 66 #[.val (.int p0), .val (.int p1), .val (.int p2), .val (.int p3), .val (.ref bP), .val (.ref bG), .val (.ref k), .val (.ref bP), .val (.ref bG)] [(.ref bG), (.ref bG)])
      refine Go.by (fun _ gk => XT.acmpNo X163.here hx rfl (hb hby at_66) rfl rfl rfl (XT.aa_ne_f rfl) gk) ?_
      show Go _ _ _ _ T163 (mkF m 69 #[.val (.int p0), .val (.int p1), .val (.int p2), .val (.int p3), .val (.ref bP), .val (.ref bG), .val (.ref k), .val (.ref bP), .val (.ref bG)] [])
      refine Go.by (fun _ gk => XT.iconstV X163.here hx rfl (1 : Int32) (hb hby at_69) (by decide) gk) ?_
      show Go _ _ _ _ T163 (mkF m 70 #[.val (.int p0), .val (.int p1), .val (.int p2), .val (.int p3), .val (.ref bP), .val (.ref bG), .val (.ref k), .val (.ref bP), .val (.ref bG)] [(.int (1 : Int32))])
      refine Go.by (fun _ gk => XS.goto X163.here hx rfl (pc0 := 70) (pc' := 74) rfl (hb hby at_70) (by decide) (by decide) gk) ?_
      show Go _ _ _ _ T163 (mkF m 74 #[.val (.int p0), .val (.int p1), .val (.int p2), .val (.int p3), .val (.ref bP), .val (.ref bG), .val (.ref k), .val (.ref bP), .val (.ref bG)] [(.int (1 : Int32))])
      exact Go.retI X163 hx Bd.notSynchronized Bd.returns rfl (by simp) (hb hby at_74) (by rw [e163]; exact ⟨rfl, N163⟩) (by decide) (by decide)
    · obtain ⟨_, _, ⟨T164, L164, k164, n164⟩, -, X164, ⟨Lc164, hQ164, l164, y164, z164⟩, st164⟩ := Jvm.LawKit.callS X0 hx (y := (⟨"com/example/attache/attache/PendingKeyResolvedPinLaw", "make", "(II)Ljava/lang/Object;"⟩ : MethodName)) hown (mvT hZ (hw _ (List.mem_of_getElem? (i := 0) rfl))) (mvT hZ (hw _ (List.mem_of_getElem? (i := 1) rfl))) (mvT hZ (hw _ (List.mem_of_getElem? (i := 2) rfl))) (mvT hZ (hw _ (List.mem_of_getElem? (i := 3) rfl))) (by decide) (backOf (W := 0) (rmMake2 l Z a0 hw [] p0 p1 caI ccI caJ ccJ cs h0 n0 Z0 O0 hi S_cacheI B_I S_high S_cacheJ B_J S_cs n_cs) hZ (hw _ (List.mem_of_getElem? (i := 3) rfl)) (hw _ (List.mem_of_getElem? (i := 2) rfl)) (by decide) (by decide)) (g := (mkF m 2 #[.val (.int p0), .val (.int p1), .val (.int p2), .val (.int p3), .unset, .unset, .unset, .unset, .unset] [(.int p1), (.int p0)])) rfl (by rw [hml]; rfl) (argsL := [(.int p0), (.int p1)]) (rest := []) (lenOf pd_230 rfl) rfl (by show 2 * 0 + _ ≤ _; exact Nat.le_of_eq rfl) (hb hby at_2) (fun _ _ => ⟨rfl, e0, (by decide : 0 + 3 ≤ _), (by decide : 0 + 8 ≤ _)⟩)
      dsimp only [Pt.U, Pt.locs, Pt.cells, Pt.slots] at X164 l164 y164 z164 st164 hQ164
      subst l164 y164 z164
      obtain ⟨bP, rfl, N164q, K164, Q164_0⟩ := hQ164
      have N164 := Fr.app N0 N164q
      refine Go.by st164 ?_
      show Go _ _ _ _ T164 (mkF m 5 #[.val (.int p0), .val (.int p1), .val (.int p2), .val (.int p3), .unset, .unset, .unset, .unset, .unset] [(.ref bP)])
      refine Go.by (fun _ gk => XS.astore X164.here hx rfl (hb hby at_5) rfl rfl (l' := #[.val (.int p0), .val (.int p1), .val (.int p2), .val (.int p3), .val (.ref bP), .unset, .unset, .unset, .unset]) rfl gk) ?_
      show Go _ _ _ _ T164 (mkF m 7 #[.val (.int p0), .val (.int p1), .val (.int p2), .val (.int p3), .val (.ref bP), .unset, .unset, .unset, .unset] [])
      refine Go.by (fun _ gk => XS.iloadN X164.here hx rfl (hb hby at_7) rfl gk) ?_
      show Go _ _ _ _ T164 (mkF m 8 #[.val (.int p0), .val (.int p1), .val (.int p2), .val (.int p3), .val (.ref bP), .unset, .unset, .unset, .unset] [(.int p2)])
      refine Go.by (fun _ gk => XS.iloadN X164.here hx rfl (hb hby at_8) rfl gk) ?_
      show Go _ _ _ _ T164 (mkF m 9 #[.val (.int p0), .val (.int p1), .val (.int p2), .val (.int p3), .val (.ref bP), .unset, .unset, .unset, .unset] [(.int p3), (.int p2)])
      have F165 : Old Z n0 T164.heap := O0.keep K164 all0
      have F166 : n0 ≤ T164.heap.size := Nat.le_trans Z0 K164.1
      obtain ⟨_, _, ⟨T167, L167, k167, n167⟩, -, X167, ⟨Lc167, hQ167, l167, y167, z167⟩, st167⟩ := Jvm.LawKit.callS X164 hx (y := (⟨"com/example/attache/attache/PendingKeyResolvedPinLaw", "make", "(II)Ljava/lang/Object;"⟩ : MethodName)) hown (mvT hZ (hw _ (List.mem_of_getElem? (i := 0) rfl))) (mvT hZ (hw _ (List.mem_of_getElem? (i := 1) rfl))) (mvT hZ (hw _ (List.mem_of_getElem? (i := 2) rfl))) (mvT hZ (hw _ (List.mem_of_getElem? (i := 3) rfl))) (by decide) (backOf (W := 0) (rmMake1 l Z a0 hw [] p2 p3 caI ccI caJ ccJ cs T164.heap n0 F166 F165 hj S_cacheI B_I S_high S_cacheJ B_J S_cs n_cs) hZ (hw _ (List.mem_of_getElem? (i := 3) rfl)) (hw _ (List.mem_of_getElem? (i := 2) rfl)) (by decide) (by decide)) (g := (mkF m 9 #[.val (.int p0), .val (.int p1), .val (.int p2), .val (.int p3), .val (.ref bP), .unset, .unset, .unset, .unset] [(.int p3), (.int p2)])) rfl (by rw [hml]; rfl) (argsL := [(.int p2), (.int p3)]) (rest := []) (lenOf pd_230 rfl) rfl (by show 2 * 0 + _ ≤ _; exact Nat.le_of_eq rfl) (hb hby at_9) (fun _ _ => ⟨rfl, rfl, (by decide : 3 + 1 ≤ _), (by decide : 8 + 1 ≤ _)⟩)
      dsimp only [Pt.U, Pt.locs, Pt.cells, Pt.slots] at X167 l167 y167 z167 st167 hQ167
      subst l167 y167 z167
      obtain ⟨bG, rfl, N167q, K167, Q167_0⟩ := hQ167
      have N167 := Fr.app N164 N167q
      refine Go.by st167 ?_
      show Go _ _ _ _ T167 (mkF m 12 #[.val (.int p0), .val (.int p1), .val (.int p2), .val (.int p3), .val (.ref bP), .unset, .unset, .unset, .unset] [(.ref bG)])
      refine Go.by (fun _ gk => XS.astore X167.here hx rfl (hb hby at_12) rfl rfl (l' := #[.val (.int p0), .val (.int p1), .val (.int p2), .val (.int p3), .val (.ref bP), .val (.ref bG), .unset, .unset, .unset]) rfl gk) ?_
      show Go _ _ _ _ T167 (mkF m 14 #[.val (.int p0), .val (.int p1), .val (.int p2), .val (.int p3), .val (.ref bP), .val (.ref bG), .unset, .unset, .unset] [])
      refine Go.by (fun _ gk => XS.aload X167.here hx rfl (hb hby at_14) rfl rfl gk) ?_
      show Go _ _ _ _ T167 (mkF m 16 #[.val (.int p0), .val (.int p1), .val (.int p2), .val (.int p3), .val (.ref bP), .val (.ref bG), .unset, .unset, .unset] [(.ref bG)])
      refine Go.by (fun _ gk => XT.nonnullYes X167.here hx rfl (pc0 := 16) (pc' := 25) rfl (hb hby at_16) rfl rfl nofun (by decide) (by decide) gk) ?_
      show Go _ _ _ _ T167 (mkF m 25 #[.val (.int p0), .val (.int p1), .val (.int p2), .val (.int p3), .val (.ref bP), .val (.ref bG), .unset, .unset, .unset] [])
      have F169 : n0 ≤ T167.heap.size := Nat.le_trans F166 K167.1
      obtain ⟨k, g168⟩ : ∃ z, z = T167.heap.size := ⟨_, rfl⟩
      have ge_k : n0 ≤ k := Nat.le_trans F169 (Nat.le_of_eq g168.symm)
      have F170 : Keep h0 T164.heap [] := (Keep.refl h0 []).trans K164 all0
      have F171 : Keep h0 T167.heap [] := F170.trans K167 all0
      have sz_k : h0.size ≤ k := Nat.le_trans F171.1 (Nat.le_of_eq g168.symm)
      have ne_bG_k : bG ≠ k := Nat.ne_of_lt (Nat.lt_of_lt_of_le Q167_0.lt (Nat.le_of_eq g168.symm))
      have F172 : Exa Z T167.heap bP "java/lang/String" := Q164_0.keep K167
      have ne_bP_k : bP ≠ k := Nat.ne_of_lt (Nat.lt_of_lt_of_le F172.lt (Nat.le_of_eq g168.symm))
      obtain ⟨T168, h168, X168, e168, E168, A168, D168, -, st168⟩ := newO X167 hx hZ hown (hw _ (List.mem_of_getElem? (i := 41) rfl)) (hw _ (List.mem_of_getElem? (i := 42) rfl)) (hw _ (List.mem_of_getElem? (i := 43) rfl)) rfl (g := (mkF m 25 #[.val (.int p0), .val (.int p1), .val (.int p2), .val (.int p3), .val (.ref bP), .val (.ref bG), .unset, .unset, .unset] [])) rfl (hb hby at_25) (by decide) (by decide)
      rw [← g168] at A168 D168 st168
      have F_generated_k : Fld Z h168 k "com/example/attache/attache/PendingKey" "generated" "Ljava/lang/Object;" .null := D168 (Or.inl (hw _ (List.mem_of_getElem? (i := 54) rfl))) (ty := (.object "java/lang/Object")) (by decide)
      refine Go.by st168 ?_
      show Go _ _ _ _ T168 (mkF m 28 #[.val (.int p0), .val (.int p1), .val (.int p2), .val (.int p3), .val (.ref bP), .val (.ref bG), .unset, .unset, .unset] [(.ref k)])
      refine Go.by (fun _ gk => XS.dup X168.here hx rfl (hb hby at_28) rfl rfl gk) ?_
      show Go _ _ _ _ T168 (mkF m 29 #[.val (.int p0), .val (.int p1), .val (.int p2), .val (.int p3), .val (.ref bP), .val (.ref bG), .unset, .unset, .unset] [(.ref k), (.ref k)])
      have F173 : n0 ≤ h168.size := Nat.le_trans F169 E168.1
      obtain ⟨_, _, ⟨T174, L174, k174, n174⟩, -, X174, ⟨Lc174, hQ174, l174, y174, z174⟩, st174⟩ := X168.specialBack hx (y := (⟨"com/example/attache/attache/PendingKey", "<init>", "()V"⟩ : MethodName)) rfl hown (mvT hZ (hw _ (List.mem_of_getElem? (i := 44) rfl))) (mvT hZ (hw _ (List.mem_of_getElem? (i := 45) rfl))) (mvT hZ (hw _ (List.mem_of_getElem? (i := 46) rfl))) (by decide) (backOf (W := 1) (rmPinit l Z a0 hw [] k h168 n0 F173 ) hZ (hw _ (List.mem_of_getElem? (i := 46) rfl)) (hw _ (List.mem_of_getElem? (i := 43) rfl)) (by decide) (by decide)) (g := (mkF m 29 #[.val (.int p0), .val (.int p1), .val (.int p2), .val (.int p3), .val (.ref bP), .val (.ref bG), .unset, .unset, .unset] [(.ref k), (.ref k)])) rfl (by rw [hml]; rfl) (Steps.refl _) (a := k) (argsL := []) (rest := [(.ref k)]) (lenOf pd_10 rfl) rfl (by show 2 * 0 + _ ≤ _; exact Nat.le_of_eq rfl) (hb hby at_29) (fun _ _ => ⟨rfl, e168, (by decide : 5 + 0 ≤ _), (by decide : 10 + 0 ≤ _)⟩)
      dsimp only [Pt.U, Pt.locs, Pt.cells, Pt.slots] at X174 l174 y174 z174 st174 hQ174
      subst l174 y174 z174
      obtain ⟨rfl, N174q, e174⟩ := hQ174
      have N174 := Fr.app N167 N174q
      refine Go.to st174 ?_
      show Go _ _ _ _ T174 (mkF m 32 #[.val (.int p0), .val (.int p1), .val (.int p2), .val (.int p3), .val (.ref bP), .val (.ref bG), .unset, .unset, .unset] [(.ref k)])
      refine Go.by (fun _ gk => XS.astore X174.here hx rfl (hb hby at_32) rfl rfl (l' := #[.val (.int p0), .val (.int p1), .val (.int p2), .val (.int p3), .val (.ref bP), .val (.ref bG), .val (.ref k), .unset, .unset]) rfl gk) ?_
      show Go _ _ _ _ T174 (mkF m 34 #[.val (.int p0), .val (.int p1), .val (.int p2), .val (.int p3), .val (.ref bP), .val (.ref bG), .val (.ref k), .unset, .unset] [])
      refine Go.by (fun _ gk => XS.aload X174.here hx rfl (hb hby at_34) rfl rfl gk) ?_
      show Go _ _ _ _ T174 (mkF m 36 #[.val (.int p0), .val (.int p1), .val (.int p2), .val (.int p3), .val (.ref bP), .val (.ref bG), .val (.ref k), .unset, .unset] [(.ref k)])
      refine Go.by (fun _ gk => XS.aload X174.here hx rfl (hb hby at_36) rfl rfl gk) ?_
      show Go _ _ _ _ T174 (mkF m 38 #[.val (.int p0), .val (.int p1), .val (.int p2), .val (.int p3), .val (.ref bP), .val (.ref bG), .val (.ref k), .unset, .unset] [(.ref bG), (.ref k)])
      obtain ⟨cq175, kq175, q175a, q175b, q175c⟩ := isOf hZ e174 A168
      obtain ⟨_, _, ⟨T175, L175, k175, n175⟩, -, X175, ⟨Lc175, hQ175, l175, y175, z175⟩, st175⟩ := X174.virtualBack hx (y := (⟨"com/example/attache/attache/PendingKey", "generated", "(Ljava/lang/Object;)V"⟩ : MethodName)) (z := (⟨"com/example/attache/attache/PendingKey", "generated", "(Ljava/lang/Object;)V"⟩ : MethodName)) hown (mvT hZ (hw _ (List.mem_of_getElem? (i := 48) rfl))) (mvT hZ (hw _ (List.mem_of_getElem? (i := 49) rfl))) (notFace_of_selects (args := #[]) (mvT hZ (hw _ (List.mem_of_getElem? (i := 51) rfl)))) (mvT hZ (hw _ (List.mem_of_getElem? (i := 51) rfl))) (mvT hZ (hw _ (List.mem_of_getElem? (i := 50) rfl))) (by decide) (backOf (W := 0) (rmPut l Z a0 hw [] k bG .null h168 n0 F173 A168 F_generated_k ge_k) hZ (hw _ (List.mem_of_getElem? (i := 52) rfl)) (hw _ (List.mem_of_getElem? (i := 43) rfl)) (by decide) (by decide)) q175a q175c (g := (mkF m 38 #[.val (.int p0), .val (.int p1), .val (.int p2), .val (.int p3), .val (.ref bP), .val (.ref bG), .val (.ref k), .unset, .unset] [(.ref bG), (.ref k)])) rfl (by rw [hml]; rfl) (Steps.refl _) (argsL := [(.ref bG)]) (rest := []) (lenOf pd_231 rfl) rfl (by show 2 * 0 + _ ≤ _; exact Nat.le_of_eq rfl) (hb hby at_38) (fun _ _ => ⟨rfl, e174, (by decide : 5 + 0 ≤ _), (by decide : 10 + 0 ≤ _)⟩)
      dsimp only [Pt.U, Pt.locs, Pt.cells, Pt.slots] at X175 l175 y175 z175 st175 hQ175
      subst l175 y175 z175
      obtain ⟨rfl, N175q, K175, Q175_0, Q175_1⟩ := hQ175
      have N175 := Fr.app N174 N175q
      refine Go.to st175 ?_
      show Go _ _ _ _ T175 (mkF m 41 #[.val (.int p0), .val (.int p1), .val (.int p2), .val (.int p3), .val (.ref bP), .val (.ref bG), .val (.ref k), .unset, .unset] [])
      refine Go.by (fun _ gk => XS.aload X175.here hx rfl (hb hby at_41) rfl rfl gk) ?_
      show Go _ _ _ _ T175 (mkF m 43 #[.val (.int p0), .val (.int p1), .val (.int p2), .val (.int p3), .val (.ref bP), .val (.ref bG), .val (.ref k), .unset, .unset] [(.ref bP)])
      have F176 : Exa Z h168 bP "java/lang/String" := F172.ext E168
      have F177 : Exa Z T175.heap bP "java/lang/String" := F176.keep K175
      have F178 : n0 ≤ T175.heap.size := Nat.le_trans F173 K175.1
      obtain ⟨_, _, ⟨T179, L179, k179, n179⟩, -, X179, ⟨Lc179, hQ179, l179, y179, z179⟩, st179⟩ := Jvm.LawKit.callS X175 hx (y := (⟨"com/example/attache/attache/PendingKey", "resolved", "(Ljava/lang/Object;)Ljava/lang/Object;"⟩ : MethodName)) hown (mvT hZ (hw _ (List.mem_of_getElem? (i := 55) rfl))) (mvT hZ (hw _ (List.mem_of_getElem? (i := 56) rfl))) (mvT hZ (hw _ (List.mem_of_getElem? (i := 43) rfl))) (mvT hZ (hw _ (List.mem_of_getElem? (i := 57) rfl))) (by decide) (backOf (W := 0) (rmRes2 l Z a0 hw [] bP T175.heap n0 F178 F177) hZ (hw _ (List.mem_of_getElem? (i := 57) rfl)) (hw _ (List.mem_of_getElem? (i := 43) rfl)) (by decide) (by decide)) (g := (mkF m 43 #[.val (.int p0), .val (.int p1), .val (.int p2), .val (.int p3), .val (.ref bP), .val (.ref bG), .val (.ref k), .unset, .unset] [(.ref bP)])) rfl (by rw [hml]; rfl) (argsL := [(.ref bP)]) (rest := []) (lenOf pd_232 rfl) rfl (by show 2 * 0 + _ ≤ _; exact Nat.le_of_eq rfl) (hb hby at_43) (fun _ _ => ⟨rfl, rfl, (by decide : 5 + 0 ≤ _), (by decide : 10 + 0 ≤ _)⟩)
      dsimp only [Pt.U, Pt.locs, Pt.cells, Pt.slots] at X179 l179 y179 z179 st179 hQ179
      subst l179 y179 z179
      obtain ⟨rfl, N179q, e179⟩ := hQ179
      have N179 := Fr.app N175 N179q
      refine Go.by st179 ?_
      show Go _ _ _ _ T179 (mkF m 46 #[.val (.int p0), .val (.int p1), .val (.int p2), .val (.int p3), .val (.ref bP), .val (.ref bG), .val (.ref k), .unset, .unset] [(.ref bP)])
      refine Go.by (fun _ gk => XS.astore X179.here hx rfl (hb hby at_46) rfl rfl (l' := #[.val (.int p0), .val (.int p1), .val (.int p2), .val (.int p3), .val (.ref bP), .val (.ref bG), .val (.ref k), .val (.ref bP), .unset]) rfl gk) ?_
      show Go _ _ _ _ T179 (mkF m 48 #[.val (.int p0), .val (.int p1), .val (.int p2), .val (.int p3), .val (.ref bP), .val (.ref bG), .val (.ref k), .val (.ref bP), .unset] [])
      refine Go.by (fun _ gk => XS.aload X179.here hx rfl (hb hby at_48) rfl rfl gk) ?_
      show Go _ _ _ _ T179 (mkF m 50 #[.val (.int p0), .val (.int p1), .val (.int p2), .val (.int p3), .val (.ref bP), .val (.ref bG), .val (.ref k), .val (.ref bP), .unset] [(.ref k)])
      obtain ⟨_, _, ⟨T180, L180, k180, n180⟩, -, X180, ⟨Lc180, hQ180, l180, y180, z180⟩, st180⟩ := Jvm.LawKit.callS X179 hx (y := (⟨"com/example/attache/attache/PendingKey", "resolved", "(Ljava/lang/Object;)Ljava/lang/Object;"⟩ : MethodName)) hown (mvT hZ (hw _ (List.mem_of_getElem? (i := 55) rfl))) (mvT hZ (hw _ (List.mem_of_getElem? (i := 56) rfl))) (mvT hZ (hw _ (List.mem_of_getElem? (i := 43) rfl))) (mvT hZ (hw _ (List.mem_of_getElem? (i := 57) rfl))) (by decide) (backOf (W := 0) (rmResP l Z a0 hw [] k bG T175.heap n0 F178 Q175_0 Q175_1) hZ (hw _ (List.mem_of_getElem? (i := 57) rfl)) (hw _ (List.mem_of_getElem? (i := 43) rfl)) (by decide) (by decide)) (g := (mkF m 50 #[.val (.int p0), .val (.int p1), .val (.int p2), .val (.int p3), .val (.ref bP), .val (.ref bG), .val (.ref k), .val (.ref bP), .unset] [(.ref k)])) rfl (by rw [hml]; rfl) (argsL := [(.ref k)]) (rest := []) (lenOf pd_232 rfl) rfl (by show 2 * 0 + _ ≤ _; exact Nat.le_of_eq rfl) (hb hby at_50) (fun _ _ => ⟨rfl, e179, (by decide : 5 + 0 ≤ _), (by decide : 10 + 0 ≤ _)⟩)
      dsimp only [Pt.U, Pt.locs, Pt.cells, Pt.slots] at X180 l180 y180 z180 st180 hQ180
      subst l180 y180 z180
      obtain ⟨rfl, N180q, e180⟩ := hQ180
      have N180 := Fr.app N179 N180q
      refine Go.by st180 ?_
      show Go _ _ _ _ T180 (mkF m 53 #[.val (.int p0), .val (.int p1), .val (.int p2), .val (.int p3), .val (.ref bP), .val (.ref bG), .val (.ref k), .val (.ref bP), .unset] [(.ref bG)])
      refine Go.by (fun _ gk => XS.astore X180.here hx rfl (hb hby at_53) rfl rfl (l' := #[.val (.int p0), .val (.int p1), .val (.int p2), .val (.int p3), .val (.ref bP), .val (.ref bG), .val (.ref k), .val (.ref bP), .val (.ref bG)]) rfl gk) ?_
      show Go _ _ _ _ T180 (mkF m 55 #[.val (.int p0), .val (.int p1), .val (.int p2), .val (.int p3), .val (.ref bP), .val (.ref bG), .val (.ref k), .val (.ref bP), .val (.ref bG)] [])
      refine Go.by (fun _ gk => XS.aload X180.here hx rfl (hb hby at_55) rfl rfl gk) ?_
      show Go _ _ _ _ T180 (mkF m 57 #[.val (.int p0), .val (.int p1), .val (.int p2), .val (.int p3), .val (.ref bP), .val (.ref bG), .val (.ref k), .val (.ref bP), .val (.ref bG)] [(.ref bP)])
      refine Go.by (fun _ gk => XS.aload X180.here hx rfl (hb hby at_57) rfl rfl gk) ?_
      show Go _ _ _ _ T180 (mkF m 59 #[.val (.int p0), .val (.int p1), .val (.int p2), .val (.int p3), .val (.ref bP), .val (.ref bG), .val (.ref k), .val (.ref bP), .val (.ref bG)] [(.ref bP), (.ref bP)])
      refine Go.by (fun _ gk => XT.acmpNo X180.here hx rfl (hb hby at_59) rfl rfl rfl (XT.aa_ne_f rfl) gk) ?_
      show Go _ _ _ _ T180 (mkF m 62 #[.val (.int p0), .val (.int p1), .val (.int p2), .val (.int p3), .val (.ref bP), .val (.ref bG), .val (.ref k), .val (.ref bP), .val (.ref bG)] [])
      refine Go.by (fun _ gk => XS.aload X180.here hx rfl (hb hby at_62) rfl rfl gk) ?_
      show Go _ _ _ _ T180 (mkF m 64 #[.val (.int p0), .val (.int p1), .val (.int p2), .val (.int p3), .val (.ref bP), .val (.ref bG), .val (.ref k), .val (.ref bP), .val (.ref bG)] [(.ref bG)])
      refine Go.by (fun _ gk => XS.aload X180.here hx rfl (hb hby at_64) rfl rfl gk) ?_
      show Go _ _ _ _ T180 (mkF m 66 #[.val (.int p0), .val (.int p1), .val (.int p2), .val (.int p3), .val (.ref bP), .val (.ref bG), .val (.ref k), .val (.ref bP), .val (.ref bG)] [(.ref bG), (.ref bG)])
      refine Go.by (fun _ gk => XT.acmpNo X180.here hx rfl (hb hby at_66) rfl rfl rfl (XT.aa_ne_f rfl) gk) ?_
      show Go _ _ _ _ T180 (mkF m 69 #[.val (.int p0), .val (.int p1), .val (.int p2), .val (.int p3), .val (.ref bP), .val (.ref bG), .val (.ref k), .val (.ref bP), .val (.ref bG)] [])
      refine Go.by (fun _ gk => XT.iconstV X180.here hx rfl (1 : Int32) (hb hby at_69) (by decide) gk) ?_
      show Go _ _ _ _ T180 (mkF m 70 #[.val (.int p0), .val (.int p1), .val (.int p2), .val (.int p3), .val (.ref bP), .val (.ref bG), .val (.ref k), .val (.ref bP), .val (.ref bG)] [(.int (1 : Int32))])
      refine Go.by (fun _ gk => XS.goto X180.here hx rfl (pc0 := 70) (pc' := 74) rfl (hb hby at_70) (by decide) (by decide) gk) ?_
      show Go _ _ _ _ T180 (mkF m 74 #[.val (.int p0), .val (.int p1), .val (.int p2), .val (.int p3), .val (.ref bP), .val (.ref bG), .val (.ref k), .val (.ref bP), .val (.ref bG)] [(.int (1 : Int32))])
      exact Go.retI X180 hx Bd.notSynchronized Bd.returns rfl (by simp) (hb hby at_74) (by rw [e180]; exact ⟨rfl, N180⟩) (by decide) (by decide)
    · obtain ⟨_, _, ⟨T181, L181, k181, n181⟩, -, X181, ⟨Lc181, hQ181, l181, y181, z181⟩, st181⟩ := Jvm.LawKit.callS X0 hx (y := (⟨"com/example/attache/attache/PendingKeyResolvedPinLaw", "make", "(II)Ljava/lang/Object;"⟩ : MethodName)) hown (mvT hZ (hw _ (List.mem_of_getElem? (i := 0) rfl))) (mvT hZ (hw _ (List.mem_of_getElem? (i := 1) rfl))) (mvT hZ (hw _ (List.mem_of_getElem? (i := 2) rfl))) (mvT hZ (hw _ (List.mem_of_getElem? (i := 3) rfl))) (by decide) (backOf (W := 0) (rmMake2 l Z a0 hw [] p0 p1 caI ccI caJ ccJ cs h0 n0 Z0 O0 hi S_cacheI B_I S_high S_cacheJ B_J S_cs n_cs) hZ (hw _ (List.mem_of_getElem? (i := 3) rfl)) (hw _ (List.mem_of_getElem? (i := 2) rfl)) (by decide) (by decide)) (g := (mkF m 2 #[.val (.int p0), .val (.int p1), .val (.int p2), .val (.int p3), .unset, .unset, .unset, .unset, .unset] [(.int p1), (.int p0)])) rfl (by rw [hml]; rfl) (argsL := [(.int p0), (.int p1)]) (rest := []) (lenOf pd_230 rfl) rfl (by show 2 * 0 + _ ≤ _; exact Nat.le_of_eq rfl) (hb hby at_2) (fun _ _ => ⟨rfl, e0, (by decide : 0 + 3 ≤ _), (by decide : 0 + 8 ≤ _)⟩)
      dsimp only [Pt.U, Pt.locs, Pt.cells, Pt.slots] at X181 l181 y181 z181 st181 hQ181
      subst l181 y181 z181
      obtain ⟨bP, rfl, N181q, K181, Q181_0⟩ := hQ181
      have N181 := Fr.app N0 N181q
      refine Go.by st181 ?_
      show Go _ _ _ _ T181 (mkF m 5 #[.val (.int p0), .val (.int p1), .val (.int p2), .val (.int p3), .unset, .unset, .unset, .unset, .unset] [(.ref bP)])
      refine Go.by (fun _ gk => XS.astore X181.here hx rfl (hb hby at_5) rfl rfl (l' := #[.val (.int p0), .val (.int p1), .val (.int p2), .val (.int p3), .val (.ref bP), .unset, .unset, .unset, .unset]) rfl gk) ?_
      show Go _ _ _ _ T181 (mkF m 7 #[.val (.int p0), .val (.int p1), .val (.int p2), .val (.int p3), .val (.ref bP), .unset, .unset, .unset, .unset] [])
      refine Go.by (fun _ gk => XS.iloadN X181.here hx rfl (hb hby at_7) rfl gk) ?_
      show Go _ _ _ _ T181 (mkF m 8 #[.val (.int p0), .val (.int p1), .val (.int p2), .val (.int p3), .val (.ref bP), .unset, .unset, .unset, .unset] [(.int p2)])
      refine Go.by (fun _ gk => XS.iloadN X181.here hx rfl (hb hby at_8) rfl gk) ?_
      show Go _ _ _ _ T181 (mkF m 9 #[.val (.int p0), .val (.int p1), .val (.int p2), .val (.int p3), .val (.ref bP), .unset, .unset, .unset, .unset] [(.int p3), (.int p2)])
      have F182 : Old Z n0 T181.heap := O0.keep K181 all0
      have F183 : n0 ≤ T181.heap.size := Nat.le_trans Z0 K181.1
      obtain ⟨_, _, ⟨T184, L184, k184, n184⟩, -, X184, ⟨Lc184, hQ184, l184, y184, z184⟩, st184⟩ := Jvm.LawKit.callS X181 hx (y := (⟨"com/example/attache/attache/PendingKeyResolvedPinLaw", "make", "(II)Ljava/lang/Object;"⟩ : MethodName)) hown (mvT hZ (hw _ (List.mem_of_getElem? (i := 0) rfl))) (mvT hZ (hw _ (List.mem_of_getElem? (i := 1) rfl))) (mvT hZ (hw _ (List.mem_of_getElem? (i := 2) rfl))) (mvT hZ (hw _ (List.mem_of_getElem? (i := 3) rfl))) (by decide) (backOf (W := 0) (rmMake2 l Z a0 hw [] p2 p3 caI ccI caJ ccJ cs T181.heap n0 F183 F182 hj S_cacheI B_I S_high S_cacheJ B_J S_cs n_cs) hZ (hw _ (List.mem_of_getElem? (i := 3) rfl)) (hw _ (List.mem_of_getElem? (i := 2) rfl)) (by decide) (by decide)) (g := (mkF m 9 #[.val (.int p0), .val (.int p1), .val (.int p2), .val (.int p3), .val (.ref bP), .unset, .unset, .unset, .unset] [(.int p3), (.int p2)])) rfl (by rw [hml]; rfl) (argsL := [(.int p2), (.int p3)]) (rest := []) (lenOf pd_230 rfl) rfl (by show 2 * 0 + _ ≤ _; exact Nat.le_of_eq rfl) (hb hby at_9) (fun _ _ => ⟨rfl, rfl, (by decide : 3 + 3 ≤ _), (by decide : 8 + 8 ≤ _)⟩)
      dsimp only [Pt.U, Pt.locs, Pt.cells, Pt.slots] at X184 l184 y184 z184 st184 hQ184
      subst l184 y184 z184
      obtain ⟨bG, rfl, N184q, K184, Q184_0⟩ := hQ184
      have N184 := Fr.app N181 N184q
      refine Go.by st184 ?_
      show Go _ _ _ _ T184 (mkF m 12 #[.val (.int p0), .val (.int p1), .val (.int p2), .val (.int p3), .val (.ref bP), .unset, .unset, .unset, .unset] [(.ref bG)])
      refine Go.by (fun _ gk => XS.astore X184.here hx rfl (hb hby at_12) rfl rfl (l' := #[.val (.int p0), .val (.int p1), .val (.int p2), .val (.int p3), .val (.ref bP), .val (.ref bG), .unset, .unset, .unset]) rfl gk) ?_
      show Go _ _ _ _ T184 (mkF m 14 #[.val (.int p0), .val (.int p1), .val (.int p2), .val (.int p3), .val (.ref bP), .val (.ref bG), .unset, .unset, .unset] [])
      refine Go.by (fun _ gk => XS.aload X184.here hx rfl (hb hby at_14) rfl rfl gk) ?_
      show Go _ _ _ _ T184 (mkF m 16 #[.val (.int p0), .val (.int p1), .val (.int p2), .val (.int p3), .val (.ref bP), .val (.ref bG), .unset, .unset, .unset] [(.ref bG)])
      refine Go.by (fun _ gk => XT.nonnullYes X184.here hx rfl (pc0 := 16) (pc' := 25) rfl (hb hby at_16) rfl rfl nofun (by decide) (by decide) gk) ?_
      show Go _ _ _ _ T184 (mkF m 25 #[.val (.int p0), .val (.int p1), .val (.int p2), .val (.int p3), .val (.ref bP), .val (.ref bG), .unset, .unset, .unset] [])
      have F186 : n0 ≤ T184.heap.size := Nat.le_trans F183 K184.1
      obtain ⟨k, g185⟩ : ∃ z, z = T184.heap.size := ⟨_, rfl⟩
      have ge_k : n0 ≤ k := Nat.le_trans F186 (Nat.le_of_eq g185.symm)
      have F187 : Keep h0 T181.heap [] := (Keep.refl h0 []).trans K181 all0
      have F188 : Keep h0 T184.heap [] := F187.trans K184 all0
      have sz_k : h0.size ≤ k := Nat.le_trans F188.1 (Nat.le_of_eq g185.symm)
      have ne_bG_k : bG ≠ k := Nat.ne_of_lt (Nat.lt_of_lt_of_le Q184_0.lt (Nat.le_of_eq g185.symm))
      have F189 : Exa Z T184.heap bP "java/lang/String" := Q181_0.keep K184
      have ne_bP_k : bP ≠ k := Nat.ne_of_lt (Nat.lt_of_lt_of_le F189.lt (Nat.le_of_eq g185.symm))
      obtain ⟨T185, h185, X185, e185, E185, A185, D185, -, st185⟩ := newO X184 hx hZ hown (hw _ (List.mem_of_getElem? (i := 41) rfl)) (hw _ (List.mem_of_getElem? (i := 42) rfl)) (hw _ (List.mem_of_getElem? (i := 43) rfl)) rfl (g := (mkF m 25 #[.val (.int p0), .val (.int p1), .val (.int p2), .val (.int p3), .val (.ref bP), .val (.ref bG), .unset, .unset, .unset] [])) rfl (hb hby at_25) (by decide) (by decide)
      rw [← g185] at A185 D185 st185
      have F_generated_k : Fld Z h185 k "com/example/attache/attache/PendingKey" "generated" "Ljava/lang/Object;" .null := D185 (Or.inl (hw _ (List.mem_of_getElem? (i := 54) rfl))) (ty := (.object "java/lang/Object")) (by decide)
      refine Go.by st185 ?_
      show Go _ _ _ _ T185 (mkF m 28 #[.val (.int p0), .val (.int p1), .val (.int p2), .val (.int p3), .val (.ref bP), .val (.ref bG), .unset, .unset, .unset] [(.ref k)])
      refine Go.by (fun _ gk => XS.dup X185.here hx rfl (hb hby at_28) rfl rfl gk) ?_
      show Go _ _ _ _ T185 (mkF m 29 #[.val (.int p0), .val (.int p1), .val (.int p2), .val (.int p3), .val (.ref bP), .val (.ref bG), .unset, .unset, .unset] [(.ref k), (.ref k)])
      have F190 : n0 ≤ h185.size := Nat.le_trans F186 E185.1
      obtain ⟨_, _, ⟨T191, L191, k191, n191⟩, -, X191, ⟨Lc191, hQ191, l191, y191, z191⟩, st191⟩ := X185.specialBack hx (y := (⟨"com/example/attache/attache/PendingKey", "<init>", "()V"⟩ : MethodName)) rfl hown (mvT hZ (hw _ (List.mem_of_getElem? (i := 44) rfl))) (mvT hZ (hw _ (List.mem_of_getElem? (i := 45) rfl))) (mvT hZ (hw _ (List.mem_of_getElem? (i := 46) rfl))) (by decide) (backOf (W := 1) (rmPinit l Z a0 hw [] k h185 n0 F190 ) hZ (hw _ (List.mem_of_getElem? (i := 46) rfl)) (hw _ (List.mem_of_getElem? (i := 43) rfl)) (by decide) (by decide)) (g := (mkF m 29 #[.val (.int p0), .val (.int p1), .val (.int p2), .val (.int p3), .val (.ref bP), .val (.ref bG), .unset, .unset, .unset] [(.ref k), (.ref k)])) rfl (by rw [hml]; rfl) (Steps.refl _) (a := k) (argsL := []) (rest := [(.ref k)]) (lenOf pd_10 rfl) rfl (by show 2 * 0 + _ ≤ _; exact Nat.le_of_eq rfl) (hb hby at_29) (fun _ _ => ⟨rfl, e185, (by decide : 7 + 0 ≤ _), (by decide : 17 + 0 ≤ _)⟩)
      dsimp only [Pt.U, Pt.locs, Pt.cells, Pt.slots] at X191 l191 y191 z191 st191 hQ191
      subst l191 y191 z191
      obtain ⟨rfl, N191q, e191⟩ := hQ191
      have N191 := Fr.app N184 N191q
      refine Go.to st191 ?_
      show Go _ _ _ _ T191 (mkF m 32 #[.val (.int p0), .val (.int p1), .val (.int p2), .val (.int p3), .val (.ref bP), .val (.ref bG), .unset, .unset, .unset] [(.ref k)])
      refine Go.by (fun _ gk => XS.astore X191.here hx rfl (hb hby at_32) rfl rfl (l' := #[.val (.int p0), .val (.int p1), .val (.int p2), .val (.int p3), .val (.ref bP), .val (.ref bG), .val (.ref k), .unset, .unset]) rfl gk) ?_
      show Go _ _ _ _ T191 (mkF m 34 #[.val (.int p0), .val (.int p1), .val (.int p2), .val (.int p3), .val (.ref bP), .val (.ref bG), .val (.ref k), .unset, .unset] [])
      refine Go.by (fun _ gk => XS.aload X191.here hx rfl (hb hby at_34) rfl rfl gk) ?_
      show Go _ _ _ _ T191 (mkF m 36 #[.val (.int p0), .val (.int p1), .val (.int p2), .val (.int p3), .val (.ref bP), .val (.ref bG), .val (.ref k), .unset, .unset] [(.ref k)])
      refine Go.by (fun _ gk => XS.aload X191.here hx rfl (hb hby at_36) rfl rfl gk) ?_
      show Go _ _ _ _ T191 (mkF m 38 #[.val (.int p0), .val (.int p1), .val (.int p2), .val (.int p3), .val (.ref bP), .val (.ref bG), .val (.ref k), .unset, .unset] [(.ref bG), (.ref k)])
      obtain ⟨cq192, kq192, q192a, q192b, q192c⟩ := isOf hZ e191 A185
      obtain ⟨_, _, ⟨T192, L192, k192, n192⟩, -, X192, ⟨Lc192, hQ192, l192, y192, z192⟩, st192⟩ := X191.virtualBack hx (y := (⟨"com/example/attache/attache/PendingKey", "generated", "(Ljava/lang/Object;)V"⟩ : MethodName)) (z := (⟨"com/example/attache/attache/PendingKey", "generated", "(Ljava/lang/Object;)V"⟩ : MethodName)) hown (mvT hZ (hw _ (List.mem_of_getElem? (i := 48) rfl))) (mvT hZ (hw _ (List.mem_of_getElem? (i := 49) rfl))) (notFace_of_selects (args := #[]) (mvT hZ (hw _ (List.mem_of_getElem? (i := 51) rfl)))) (mvT hZ (hw _ (List.mem_of_getElem? (i := 51) rfl))) (mvT hZ (hw _ (List.mem_of_getElem? (i := 50) rfl))) (by decide) (backOf (W := 0) (rmPut l Z a0 hw [] k bG .null h185 n0 F190 A185 F_generated_k ge_k) hZ (hw _ (List.mem_of_getElem? (i := 52) rfl)) (hw _ (List.mem_of_getElem? (i := 43) rfl)) (by decide) (by decide)) q192a q192c (g := (mkF m 38 #[.val (.int p0), .val (.int p1), .val (.int p2), .val (.int p3), .val (.ref bP), .val (.ref bG), .val (.ref k), .unset, .unset] [(.ref bG), (.ref k)])) rfl (by rw [hml]; rfl) (Steps.refl _) (argsL := [(.ref bG)]) (rest := []) (lenOf pd_231 rfl) rfl (by show 2 * 0 + _ ≤ _; exact Nat.le_of_eq rfl) (hb hby at_38) (fun _ _ => ⟨rfl, e191, (by decide : 7 + 0 ≤ _), (by decide : 17 + 0 ≤ _)⟩)
      dsimp only [Pt.U, Pt.locs, Pt.cells, Pt.slots] at X192 l192 y192 z192 st192 hQ192
      subst l192 y192 z192
      obtain ⟨rfl, N192q, K192, Q192_0, Q192_1⟩ := hQ192
      have N192 := Fr.app N191 N192q
      refine Go.to st192 ?_
      show Go _ _ _ _ T192 (mkF m 41 #[.val (.int p0), .val (.int p1), .val (.int p2), .val (.int p3), .val (.ref bP), .val (.ref bG), .val (.ref k), .unset, .unset] [])
      refine Go.by (fun _ gk => XS.aload X192.here hx rfl (hb hby at_41) rfl rfl gk) ?_
      show Go _ _ _ _ T192 (mkF m 43 #[.val (.int p0), .val (.int p1), .val (.int p2), .val (.int p3), .val (.ref bP), .val (.ref bG), .val (.ref k), .unset, .unset] [(.ref bP)])
      have F193 : Exa Z h185 bP "java/lang/String" := F189.ext E185
      have F194 : Exa Z T192.heap bP "java/lang/String" := F193.keep K192
      have F195 : n0 ≤ T192.heap.size := Nat.le_trans F190 K192.1
      obtain ⟨_, _, ⟨T196, L196, k196, n196⟩, -, X196, ⟨Lc196, hQ196, l196, y196, z196⟩, st196⟩ := Jvm.LawKit.callS X192 hx (y := (⟨"com/example/attache/attache/PendingKey", "resolved", "(Ljava/lang/Object;)Ljava/lang/Object;"⟩ : MethodName)) hown (mvT hZ (hw _ (List.mem_of_getElem? (i := 55) rfl))) (mvT hZ (hw _ (List.mem_of_getElem? (i := 56) rfl))) (mvT hZ (hw _ (List.mem_of_getElem? (i := 43) rfl))) (mvT hZ (hw _ (List.mem_of_getElem? (i := 57) rfl))) (by decide) (backOf (W := 0) (rmRes2 l Z a0 hw [] bP T192.heap n0 F195 F194) hZ (hw _ (List.mem_of_getElem? (i := 57) rfl)) (hw _ (List.mem_of_getElem? (i := 43) rfl)) (by decide) (by decide)) (g := (mkF m 43 #[.val (.int p0), .val (.int p1), .val (.int p2), .val (.int p3), .val (.ref bP), .val (.ref bG), .val (.ref k), .unset, .unset] [(.ref bP)])) rfl (by rw [hml]; rfl) (argsL := [(.ref bP)]) (rest := []) (lenOf pd_232 rfl) rfl (by show 2 * 0 + _ ≤ _; exact Nat.le_of_eq rfl) (hb hby at_43) (fun _ _ => ⟨rfl, rfl, (by decide : 7 + 0 ≤ _), (by decide : 17 + 0 ≤ _)⟩)
      dsimp only [Pt.U, Pt.locs, Pt.cells, Pt.slots] at X196 l196 y196 z196 st196 hQ196
      subst l196 y196 z196
      obtain ⟨rfl, N196q, e196⟩ := hQ196
      have N196 := Fr.app N192 N196q
      refine Go.by st196 ?_
      show Go _ _ _ _ T196 (mkF m 46 #[.val (.int p0), .val (.int p1), .val (.int p2), .val (.int p3), .val (.ref bP), .val (.ref bG), .val (.ref k), .unset, .unset] [(.ref bP)])
      refine Go.by (fun _ gk => XS.astore X196.here hx rfl (hb hby at_46) rfl rfl (l' := #[.val (.int p0), .val (.int p1), .val (.int p2), .val (.int p3), .val (.ref bP), .val (.ref bG), .val (.ref k), .val (.ref bP), .unset]) rfl gk) ?_
      show Go _ _ _ _ T196 (mkF m 48 #[.val (.int p0), .val (.int p1), .val (.int p2), .val (.int p3), .val (.ref bP), .val (.ref bG), .val (.ref k), .val (.ref bP), .unset] [])
      refine Go.by (fun _ gk => XS.aload X196.here hx rfl (hb hby at_48) rfl rfl gk) ?_
      show Go _ _ _ _ T196 (mkF m 50 #[.val (.int p0), .val (.int p1), .val (.int p2), .val (.int p3), .val (.ref bP), .val (.ref bG), .val (.ref k), .val (.ref bP), .unset] [(.ref k)])
      obtain ⟨_, _, ⟨T197, L197, k197, n197⟩, -, X197, ⟨Lc197, hQ197, l197, y197, z197⟩, st197⟩ := Jvm.LawKit.callS X196 hx (y := (⟨"com/example/attache/attache/PendingKey", "resolved", "(Ljava/lang/Object;)Ljava/lang/Object;"⟩ : MethodName)) hown (mvT hZ (hw _ (List.mem_of_getElem? (i := 55) rfl))) (mvT hZ (hw _ (List.mem_of_getElem? (i := 56) rfl))) (mvT hZ (hw _ (List.mem_of_getElem? (i := 43) rfl))) (mvT hZ (hw _ (List.mem_of_getElem? (i := 57) rfl))) (by decide) (backOf (W := 0) (rmResP l Z a0 hw [] k bG T192.heap n0 F195 Q192_0 Q192_1) hZ (hw _ (List.mem_of_getElem? (i := 57) rfl)) (hw _ (List.mem_of_getElem? (i := 43) rfl)) (by decide) (by decide)) (g := (mkF m 50 #[.val (.int p0), .val (.int p1), .val (.int p2), .val (.int p3), .val (.ref bP), .val (.ref bG), .val (.ref k), .val (.ref bP), .unset] [(.ref k)])) rfl (by rw [hml]; rfl) (argsL := [(.ref k)]) (rest := []) (lenOf pd_232 rfl) rfl (by show 2 * 0 + _ ≤ _; exact Nat.le_of_eq rfl) (hb hby at_50) (fun _ _ => ⟨rfl, e196, (by decide : 7 + 0 ≤ _), (by decide : 17 + 0 ≤ _)⟩)
      dsimp only [Pt.U, Pt.locs, Pt.cells, Pt.slots] at X197 l197 y197 z197 st197 hQ197
      subst l197 y197 z197
      obtain ⟨rfl, N197q, e197⟩ := hQ197
      have N197 := Fr.app N196 N197q
      refine Go.by st197 ?_
      show Go _ _ _ _ T197 (mkF m 53 #[.val (.int p0), .val (.int p1), .val (.int p2), .val (.int p3), .val (.ref bP), .val (.ref bG), .val (.ref k), .val (.ref bP), .unset] [(.ref bG)])
      refine Go.by (fun _ gk => XS.astore X197.here hx rfl (hb hby at_53) rfl rfl (l' := #[.val (.int p0), .val (.int p1), .val (.int p2), .val (.int p3), .val (.ref bP), .val (.ref bG), .val (.ref k), .val (.ref bP), .val (.ref bG)]) rfl gk) ?_
      show Go _ _ _ _ T197 (mkF m 55 #[.val (.int p0), .val (.int p1), .val (.int p2), .val (.int p3), .val (.ref bP), .val (.ref bG), .val (.ref k), .val (.ref bP), .val (.ref bG)] [])
      refine Go.by (fun _ gk => XS.aload X197.here hx rfl (hb hby at_55) rfl rfl gk) ?_
      show Go _ _ _ _ T197 (mkF m 57 #[.val (.int p0), .val (.int p1), .val (.int p2), .val (.int p3), .val (.ref bP), .val (.ref bG), .val (.ref k), .val (.ref bP), .val (.ref bG)] [(.ref bP)])
      refine Go.by (fun _ gk => XS.aload X197.here hx rfl (hb hby at_57) rfl rfl gk) ?_
      show Go _ _ _ _ T197 (mkF m 59 #[.val (.int p0), .val (.int p1), .val (.int p2), .val (.int p3), .val (.ref bP), .val (.ref bG), .val (.ref k), .val (.ref bP), .val (.ref bG)] [(.ref bP), (.ref bP)])
      refine Go.by (fun _ gk => XT.acmpNo X197.here hx rfl (hb hby at_59) rfl rfl rfl (XT.aa_ne_f rfl) gk) ?_
      show Go _ _ _ _ T197 (mkF m 62 #[.val (.int p0), .val (.int p1), .val (.int p2), .val (.int p3), .val (.ref bP), .val (.ref bG), .val (.ref k), .val (.ref bP), .val (.ref bG)] [])
      refine Go.by (fun _ gk => XS.aload X197.here hx rfl (hb hby at_62) rfl rfl gk) ?_
      show Go _ _ _ _ T197 (mkF m 64 #[.val (.int p0), .val (.int p1), .val (.int p2), .val (.int p3), .val (.ref bP), .val (.ref bG), .val (.ref k), .val (.ref bP), .val (.ref bG)] [(.ref bG)])
      refine Go.by (fun _ gk => XS.aload X197.here hx rfl (hb hby at_64) rfl rfl gk) ?_
      show Go _ _ _ _ T197 (mkF m 66 #[.val (.int p0), .val (.int p1), .val (.int p2), .val (.int p3), .val (.ref bP), .val (.ref bG), .val (.ref k), .val (.ref bP), .val (.ref bG)] [(.ref bG), (.ref bG)])
      refine Go.by (fun _ gk => XT.acmpNo X197.here hx rfl (hb hby at_66) rfl rfl rfl (XT.aa_ne_f rfl) gk) ?_
      show Go _ _ _ _ T197 (mkF m 69 #[.val (.int p0), .val (.int p1), .val (.int p2), .val (.int p3), .val (.ref bP), .val (.ref bG), .val (.ref k), .val (.ref bP), .val (.ref bG)] [])
      refine Go.by (fun _ gk => XT.iconstV X197.here hx rfl (1 : Int32) (hb hby at_69) (by decide) gk) ?_
      show Go _ _ _ _ T197 (mkF m 70 #[.val (.int p0), .val (.int p1), .val (.int p2), .val (.int p3), .val (.ref bP), .val (.ref bG), .val (.ref k), .val (.ref bP), .val (.ref bG)] [(.int (1 : Int32))])
      refine Go.by (fun _ gk => XS.goto X197.here hx rfl (pc0 := 70) (pc' := 74) rfl (hb hby at_70) (by decide) (by decide) gk) ?_
      show Go _ _ _ _ T197 (mkF m 74 #[.val (.int p0), .val (.int p1), .val (.int p2), .val (.int p3), .val (.ref bP), .val (.ref bG), .val (.ref k), .val (.ref bP), .val (.ref bG)] [(.int (1 : Int32))])
      exact Go.retI X197 hx Bd.notSynchronized Bd.returns rfl (by simp) (hb hby at_74) (by rw [e197]; exact ⟨rfl, N197⟩) (by decide) (by decide)
    · obtain ⟨_, _, ⟨T198, L198, k198, n198⟩, -, X198, ⟨Lc198, hQ198, l198, y198, z198⟩, st198⟩ := Jvm.LawKit.callS X0 hx (y := (⟨"com/example/attache/attache/PendingKeyResolvedPinLaw", "make", "(II)Ljava/lang/Object;"⟩ : MethodName)) hown (mvT hZ (hw _ (List.mem_of_getElem? (i := 0) rfl))) (mvT hZ (hw _ (List.mem_of_getElem? (i := 1) rfl))) (mvT hZ (hw _ (List.mem_of_getElem? (i := 2) rfl))) (mvT hZ (hw _ (List.mem_of_getElem? (i := 3) rfl))) (by decide) (backOf (W := 0) (rmMake2 l Z a0 hw [] p0 p1 caI ccI caJ ccJ cs h0 n0 Z0 O0 hi S_cacheI B_I S_high S_cacheJ B_J S_cs n_cs) hZ (hw _ (List.mem_of_getElem? (i := 3) rfl)) (hw _ (List.mem_of_getElem? (i := 2) rfl)) (by decide) (by decide)) (g := (mkF m 2 #[.val (.int p0), .val (.int p1), .val (.int p2), .val (.int p3), .unset, .unset, .unset, .unset, .unset] [(.int p1), (.int p0)])) rfl (by rw [hml]; rfl) (argsL := [(.int p0), (.int p1)]) (rest := []) (lenOf pd_230 rfl) rfl (by show 2 * 0 + _ ≤ _; exact Nat.le_of_eq rfl) (hb hby at_2) (fun _ _ => ⟨rfl, e0, (by decide : 0 + 3 ≤ _), (by decide : 0 + 8 ≤ _)⟩)
      dsimp only [Pt.U, Pt.locs, Pt.cells, Pt.slots] at X198 l198 y198 z198 st198 hQ198
      subst l198 y198 z198
      obtain ⟨bP, rfl, N198q, K198, Q198_0⟩ := hQ198
      have N198 := Fr.app N0 N198q
      refine Go.by st198 ?_
      show Go _ _ _ _ T198 (mkF m 5 #[.val (.int p0), .val (.int p1), .val (.int p2), .val (.int p3), .unset, .unset, .unset, .unset, .unset] [(.ref bP)])
      refine Go.by (fun _ gk => XS.astore X198.here hx rfl (hb hby at_5) rfl rfl (l' := #[.val (.int p0), .val (.int p1), .val (.int p2), .val (.int p3), .val (.ref bP), .unset, .unset, .unset, .unset]) rfl gk) ?_
      show Go _ _ _ _ T198 (mkF m 7 #[.val (.int p0), .val (.int p1), .val (.int p2), .val (.int p3), .val (.ref bP), .unset, .unset, .unset, .unset] [])
      refine Go.by (fun _ gk => XS.iloadN X198.here hx rfl (hb hby at_7) rfl gk) ?_
      show Go _ _ _ _ T198 (mkF m 8 #[.val (.int p0), .val (.int p1), .val (.int p2), .val (.int p3), .val (.ref bP), .unset, .unset, .unset, .unset] [(.int p2)])
      refine Go.by (fun _ gk => XS.iloadN X198.here hx rfl (hb hby at_8) rfl gk) ?_
      show Go _ _ _ _ T198 (mkF m 9 #[.val (.int p0), .val (.int p1), .val (.int p2), .val (.int p3), .val (.ref bP), .unset, .unset, .unset, .unset] [(.int p3), (.int p2)])
      have F199 : Old Z n0 T198.heap := O0.keep K198 all0
      have F200 : n0 ≤ T198.heap.size := Nat.le_trans Z0 K198.1
      obtain ⟨_, _, ⟨T201, L201, k201, n201⟩, -, X201, ⟨Lc201, hQ201, l201, y201, z201⟩, st201⟩ := Jvm.LawKit.callS X198 hx (y := (⟨"com/example/attache/attache/PendingKeyResolvedPinLaw", "make", "(II)Ljava/lang/Object;"⟩ : MethodName)) hown (mvT hZ (hw _ (List.mem_of_getElem? (i := 0) rfl))) (mvT hZ (hw _ (List.mem_of_getElem? (i := 1) rfl))) (mvT hZ (hw _ (List.mem_of_getElem? (i := 2) rfl))) (mvT hZ (hw _ (List.mem_of_getElem? (i := 3) rfl))) (by decide) (backOf (W := 0) (rmMake3 l Z a0 hw [] p2 p3 caI ccI caJ ccJ cs T198.heap n0 F200 F199 hj S_cacheI B_I S_high S_cacheJ B_J S_cs n_cs) hZ (hw _ (List.mem_of_getElem? (i := 3) rfl)) (hw _ (List.mem_of_getElem? (i := 2) rfl)) (by decide) (by decide)) (g := (mkF m 9 #[.val (.int p0), .val (.int p1), .val (.int p2), .val (.int p3), .val (.ref bP), .unset, .unset, .unset, .unset] [(.int p3), (.int p2)])) rfl (by rw [hml]; rfl) (argsL := [(.int p2), (.int p3)]) (rest := []) (lenOf pd_230 rfl) rfl (by show 2 * 0 + _ ≤ _; exact Nat.le_of_eq rfl) (hb hby at_9) (fun _ _ => ⟨rfl, rfl, (by decide : 3 + 0 ≤ _), (by decide : 8 + 0 ≤ _)⟩)
      dsimp only [Pt.U, Pt.locs, Pt.cells, Pt.slots] at X201 l201 y201 z201 st201 hQ201
      subst l201 y201 z201
      obtain ⟨rfl, N201q, K201⟩ := hQ201
      have N201 := Fr.app N198 N201q
      refine Go.by st201 ?_
      show Go _ _ _ _ T201 (mkF m 12 #[.val (.int p0), .val (.int p1), .val (.int p2), .val (.int p3), .val (.ref bP), .unset, .unset, .unset, .unset] [.null])
      refine Go.by (fun _ gk => XS.astore X201.here hx rfl (hb hby at_12) rfl rfl (l' := #[.val (.int p0), .val (.int p1), .val (.int p2), .val (.int p3), .val (.ref bP), .val .null, .unset, .unset, .unset]) rfl gk) ?_
      show Go _ _ _ _ T201 (mkF m 14 #[.val (.int p0), .val (.int p1), .val (.int p2), .val (.int p3), .val (.ref bP), .val .null, .unset, .unset, .unset] [])
      refine Go.by (fun _ gk => XS.aload X201.here hx rfl (hb hby at_14) rfl rfl gk) ?_
      show Go _ _ _ _ T201 (mkF m 16 #[.val (.int p0), .val (.int p1), .val (.int p2), .val (.int p3), .val (.ref bP), .val .null, .unset, .unset, .unset] [.null])
      refine Go.by (fun _ gk => XT.nonnullNo X201.here hx rfl (hb hby at_16) rfl rfl gk) ?_
      show Go _ _ _ _ T201 (mkF m 19 #[.val (.int p0), .val (.int p1), .val (.int p2), .val (.int p3), .val (.ref bP), .val .null, .unset, .unset, .unset] [])
      refine Go.by (fun _ gk => XS.iloadN X201.here hx rfl (hb hby at_19) rfl gk) ?_
      show Go _ _ _ _ T201 (mkF m 20 #[.val (.int p0), .val (.int p1), .val (.int p2), .val (.int p3), .val (.ref bP), .val .null, .unset, .unset, .unset] [(.int p3)])
      have F202 : Old Z n0 T201.heap := F199.keep K201 all0
      have F203 : n0 ≤ T201.heap.size := Nat.le_trans F200 K201.1
      obtain ⟨_, _, ⟨T204, L204, k204, n204⟩, -, X204, ⟨Lc204, hQ204, l204, y204, z204⟩, st204⟩ := Jvm.LawKit.callS X201 hx (y := (⟨"java/lang/Integer", "valueOf", "(I)Ljava/lang/Integer;"⟩ : MethodName)) hown (mvT hZ (hw _ (List.mem_of_getElem? (i := 4) rfl))) (mvT hZ (hw _ (List.mem_of_getElem? (i := 5) rfl))) (mvT hZ (hw _ (List.mem_of_getElem? (i := 6) rfl))) (mvT hZ (hw _ (List.mem_of_getElem? (i := 7) rfl))) (by decide) (backOf (W := 0) (rmValueOfI l Z a0 hw [] p3 caI ccI T201.heap n0 F203 F202 S_cacheI B_I S_high) hZ (hw _ (List.mem_of_getElem? (i := 7) rfl)) (hw _ (List.mem_of_getElem? (i := 6) rfl)) (by decide) (by decide)) (g := (mkF m 20 #[.val (.int p0), .val (.int p1), .val (.int p2), .val (.int p3), .val (.ref bP), .val .null, .unset, .unset, .unset] [(.int p3)])) rfl (by rw [hml]; rfl) (argsL := [(.int p3)]) (rest := []) (lenOf pd_160 rfl) rfl (by show 2 * 0 + _ ≤ _; exact Nat.le_of_eq rfl) (hb hby at_20) (fun _ _ => ⟨rfl, rfl, (by decide : 3 + 1 ≤ _), (by decide : 8 + 1 ≤ _)⟩)
      dsimp only [Pt.U, Pt.locs, Pt.cells, Pt.slots] at X204 l204 y204 z204 st204 hQ204
      subst l204 y204 z204
      obtain ⟨bG, rfl, N204q, K204, Q204_0, Q204_1⟩ := hQ204
      have N204 := Fr.app N201 N204q
      refine Go.by st204 ?_
      show Go _ _ _ _ T204 (mkF m 23 #[.val (.int p0), .val (.int p1), .val (.int p2), .val (.int p3), .val (.ref bP), .val .null, .unset, .unset, .unset] [(.ref bG)])
      refine Go.by (fun _ gk => XS.astore X204.here hx rfl (hb hby at_23) rfl rfl (l' := #[.val (.int p0), .val (.int p1), .val (.int p2), .val (.int p3), .val (.ref bP), .val (.ref bG), .unset, .unset, .unset]) rfl gk) ?_
      show Go _ _ _ _ T204 (mkF m 25 #[.val (.int p0), .val (.int p1), .val (.int p2), .val (.int p3), .val (.ref bP), .val (.ref bG), .unset, .unset, .unset] [])
      have F206 : n0 ≤ T204.heap.size := Nat.le_trans F203 K204.1
      obtain ⟨k, g205⟩ : ∃ z, z = T204.heap.size := ⟨_, rfl⟩
      have ge_k : n0 ≤ k := Nat.le_trans F206 (Nat.le_of_eq g205.symm)
      have F207 : Keep h0 T198.heap [] := (Keep.refl h0 []).trans K198 all0
      have F208 : Keep h0 T201.heap [] := F207.trans K201 all0
      have F209 : Keep h0 T204.heap [] := F208.trans K204 all0
      have sz_k : h0.size ≤ k := Nat.le_trans F209.1 (Nat.le_of_eq g205.symm)
      have ne_bG_k : bG ≠ k := Nat.ne_of_lt (Nat.lt_of_lt_of_le Q204_0.lt (Nat.le_of_eq g205.symm))
      have F210 : Exa Z T201.heap bP "java/lang/String" := Q198_0.keep K201
      have F211 : Exa Z T204.heap bP "java/lang/String" := F210.keep K204
      have ne_bP_k : bP ≠ k := Nat.ne_of_lt (Nat.lt_of_lt_of_le F211.lt (Nat.le_of_eq g205.symm))
      obtain ⟨T205, h205, X205, e205, E205, A205, D205, -, st205⟩ := newO X204 hx hZ hown (hw _ (List.mem_of_getElem? (i := 41) rfl)) (hw _ (List.mem_of_getElem? (i := 42) rfl)) (hw _ (List.mem_of_getElem? (i := 43) rfl)) rfl (g := (mkF m 25 #[.val (.int p0), .val (.int p1), .val (.int p2), .val (.int p3), .val (.ref bP), .val (.ref bG), .unset, .unset, .unset] [])) rfl (hb hby at_25) (by decide) (by decide)
      rw [← g205] at A205 D205 st205
      have F_generated_k : Fld Z h205 k "com/example/attache/attache/PendingKey" "generated" "Ljava/lang/Object;" .null := D205 (Or.inl (hw _ (List.mem_of_getElem? (i := 54) rfl))) (ty := (.object "java/lang/Object")) (by decide)
      refine Go.by st205 ?_
      show Go _ _ _ _ T205 (mkF m 28 #[.val (.int p0), .val (.int p1), .val (.int p2), .val (.int p3), .val (.ref bP), .val (.ref bG), .unset, .unset, .unset] [(.ref k)])
      refine Go.by (fun _ gk => XS.dup X205.here hx rfl (hb hby at_28) rfl rfl gk) ?_
      show Go _ _ _ _ T205 (mkF m 29 #[.val (.int p0), .val (.int p1), .val (.int p2), .val (.int p3), .val (.ref bP), .val (.ref bG), .unset, .unset, .unset] [(.ref k), (.ref k)])
      have F212 : n0 ≤ h205.size := Nat.le_trans F206 E205.1
      obtain ⟨_, _, ⟨T213, L213, k213, n213⟩, -, X213, ⟨Lc213, hQ213, l213, y213, z213⟩, st213⟩ := X205.specialBack hx (y := (⟨"com/example/attache/attache/PendingKey", "<init>", "()V"⟩ : MethodName)) rfl hown (mvT hZ (hw _ (List.mem_of_getElem? (i := 44) rfl))) (mvT hZ (hw _ (List.mem_of_getElem? (i := 45) rfl))) (mvT hZ (hw _ (List.mem_of_getElem? (i := 46) rfl))) (by decide) (backOf (W := 1) (rmPinit l Z a0 hw [] k h205 n0 F212 ) hZ (hw _ (List.mem_of_getElem? (i := 46) rfl)) (hw _ (List.mem_of_getElem? (i := 43) rfl)) (by decide) (by decide)) (g := (mkF m 29 #[.val (.int p0), .val (.int p1), .val (.int p2), .val (.int p3), .val (.ref bP), .val (.ref bG), .unset, .unset, .unset] [(.ref k), (.ref k)])) rfl (by rw [hml]; rfl) (Steps.refl _) (a := k) (argsL := []) (rest := [(.ref k)]) (lenOf pd_10 rfl) rfl (by show 2 * 0 + _ ≤ _; exact Nat.le_of_eq rfl) (hb hby at_29) (fun _ _ => ⟨rfl, e205, (by decide : 5 + 0 ≤ _), (by decide : 10 + 0 ≤ _)⟩)
      dsimp only [Pt.U, Pt.locs, Pt.cells, Pt.slots] at X213 l213 y213 z213 st213 hQ213
      subst l213 y213 z213
      obtain ⟨rfl, N213q, e213⟩ := hQ213
      have N213 := Fr.app N204 N213q
      refine Go.to st213 ?_
      show Go _ _ _ _ T213 (mkF m 32 #[.val (.int p0), .val (.int p1), .val (.int p2), .val (.int p3), .val (.ref bP), .val (.ref bG), .unset, .unset, .unset] [(.ref k)])
      refine Go.by (fun _ gk => XS.astore X213.here hx rfl (hb hby at_32) rfl rfl (l' := #[.val (.int p0), .val (.int p1), .val (.int p2), .val (.int p3), .val (.ref bP), .val (.ref bG), .val (.ref k), .unset, .unset]) rfl gk) ?_
      show Go _ _ _ _ T213 (mkF m 34 #[.val (.int p0), .val (.int p1), .val (.int p2), .val (.int p3), .val (.ref bP), .val (.ref bG), .val (.ref k), .unset, .unset] [])
      refine Go.by (fun _ gk => XS.aload X213.here hx rfl (hb hby at_34) rfl rfl gk) ?_
      show Go _ _ _ _ T213 (mkF m 36 #[.val (.int p0), .val (.int p1), .val (.int p2), .val (.int p3), .val (.ref bP), .val (.ref bG), .val (.ref k), .unset, .unset] [(.ref k)])
      refine Go.by (fun _ gk => XS.aload X213.here hx rfl (hb hby at_36) rfl rfl gk) ?_
      show Go _ _ _ _ T213 (mkF m 38 #[.val (.int p0), .val (.int p1), .val (.int p2), .val (.int p3), .val (.ref bP), .val (.ref bG), .val (.ref k), .unset, .unset] [(.ref bG), (.ref k)])
      obtain ⟨cq214, kq214, q214a, q214b, q214c⟩ := isOf hZ e213 A205
      obtain ⟨_, _, ⟨T214, L214, k214, n214⟩, -, X214, ⟨Lc214, hQ214, l214, y214, z214⟩, st214⟩ := X213.virtualBack hx (y := (⟨"com/example/attache/attache/PendingKey", "generated", "(Ljava/lang/Object;)V"⟩ : MethodName)) (z := (⟨"com/example/attache/attache/PendingKey", "generated", "(Ljava/lang/Object;)V"⟩ : MethodName)) hown (mvT hZ (hw _ (List.mem_of_getElem? (i := 48) rfl))) (mvT hZ (hw _ (List.mem_of_getElem? (i := 49) rfl))) (notFace_of_selects (args := #[]) (mvT hZ (hw _ (List.mem_of_getElem? (i := 51) rfl)))) (mvT hZ (hw _ (List.mem_of_getElem? (i := 51) rfl))) (mvT hZ (hw _ (List.mem_of_getElem? (i := 50) rfl))) (by decide) (backOf (W := 0) (rmPut l Z a0 hw [] k bG .null h205 n0 F212 A205 F_generated_k ge_k) hZ (hw _ (List.mem_of_getElem? (i := 52) rfl)) (hw _ (List.mem_of_getElem? (i := 43) rfl)) (by decide) (by decide)) q214a q214c (g := (mkF m 38 #[.val (.int p0), .val (.int p1), .val (.int p2), .val (.int p3), .val (.ref bP), .val (.ref bG), .val (.ref k), .unset, .unset] [(.ref bG), (.ref k)])) rfl (by rw [hml]; rfl) (Steps.refl _) (argsL := [(.ref bG)]) (rest := []) (lenOf pd_231 rfl) rfl (by show 2 * 0 + _ ≤ _; exact Nat.le_of_eq rfl) (hb hby at_38) (fun _ _ => ⟨rfl, e213, (by decide : 5 + 0 ≤ _), (by decide : 10 + 0 ≤ _)⟩)
      dsimp only [Pt.U, Pt.locs, Pt.cells, Pt.slots] at X214 l214 y214 z214 st214 hQ214
      subst l214 y214 z214
      obtain ⟨rfl, N214q, K214, Q214_0, Q214_1⟩ := hQ214
      have N214 := Fr.app N213 N214q
      refine Go.to st214 ?_
      show Go _ _ _ _ T214 (mkF m 41 #[.val (.int p0), .val (.int p1), .val (.int p2), .val (.int p3), .val (.ref bP), .val (.ref bG), .val (.ref k), .unset, .unset] [])
      refine Go.by (fun _ gk => XS.aload X214.here hx rfl (hb hby at_41) rfl rfl gk) ?_
      show Go _ _ _ _ T214 (mkF m 43 #[.val (.int p0), .val (.int p1), .val (.int p2), .val (.int p3), .val (.ref bP), .val (.ref bG), .val (.ref k), .unset, .unset] [(.ref bP)])
      have F215 : Exa Z h205 bP "java/lang/String" := F211.ext E205
      have F216 : Exa Z T214.heap bP "java/lang/String" := F215.keep K214
      have F217 : n0 ≤ T214.heap.size := Nat.le_trans F212 K214.1
      obtain ⟨_, _, ⟨T218, L218, k218, n218⟩, -, X218, ⟨Lc218, hQ218, l218, y218, z218⟩, st218⟩ := Jvm.LawKit.callS X214 hx (y := (⟨"com/example/attache/attache/PendingKey", "resolved", "(Ljava/lang/Object;)Ljava/lang/Object;"⟩ : MethodName)) hown (mvT hZ (hw _ (List.mem_of_getElem? (i := 55) rfl))) (mvT hZ (hw _ (List.mem_of_getElem? (i := 56) rfl))) (mvT hZ (hw _ (List.mem_of_getElem? (i := 43) rfl))) (mvT hZ (hw _ (List.mem_of_getElem? (i := 57) rfl))) (by decide) (backOf (W := 0) (rmRes2 l Z a0 hw [] bP T214.heap n0 F217 F216) hZ (hw _ (List.mem_of_getElem? (i := 57) rfl)) (hw _ (List.mem_of_getElem? (i := 43) rfl)) (by decide) (by decide)) (g := (mkF m 43 #[.val (.int p0), .val (.int p1), .val (.int p2), .val (.int p3), .val (.ref bP), .val (.ref bG), .val (.ref k), .unset, .unset] [(.ref bP)])) rfl (by rw [hml]; rfl) (argsL := [(.ref bP)]) (rest := []) (lenOf pd_232 rfl) rfl (by show 2 * 0 + _ ≤ _; exact Nat.le_of_eq rfl) (hb hby at_43) (fun _ _ => ⟨rfl, rfl, (by decide : 5 + 0 ≤ _), (by decide : 10 + 0 ≤ _)⟩)
      dsimp only [Pt.U, Pt.locs, Pt.cells, Pt.slots] at X218 l218 y218 z218 st218 hQ218
      subst l218 y218 z218
      obtain ⟨rfl, N218q, e218⟩ := hQ218
      have N218 := Fr.app N214 N218q
      refine Go.by st218 ?_
      show Go _ _ _ _ T218 (mkF m 46 #[.val (.int p0), .val (.int p1), .val (.int p2), .val (.int p3), .val (.ref bP), .val (.ref bG), .val (.ref k), .unset, .unset] [(.ref bP)])
      refine Go.by (fun _ gk => XS.astore X218.here hx rfl (hb hby at_46) rfl rfl (l' := #[.val (.int p0), .val (.int p1), .val (.int p2), .val (.int p3), .val (.ref bP), .val (.ref bG), .val (.ref k), .val (.ref bP), .unset]) rfl gk) ?_
      show Go _ _ _ _ T218 (mkF m 48 #[.val (.int p0), .val (.int p1), .val (.int p2), .val (.int p3), .val (.ref bP), .val (.ref bG), .val (.ref k), .val (.ref bP), .unset] [])
      refine Go.by (fun _ gk => XS.aload X218.here hx rfl (hb hby at_48) rfl rfl gk) ?_
      show Go _ _ _ _ T218 (mkF m 50 #[.val (.int p0), .val (.int p1), .val (.int p2), .val (.int p3), .val (.ref bP), .val (.ref bG), .val (.ref k), .val (.ref bP), .unset] [(.ref k)])
      obtain ⟨_, _, ⟨T219, L219, k219, n219⟩, -, X219, ⟨Lc219, hQ219, l219, y219, z219⟩, st219⟩ := Jvm.LawKit.callS X218 hx (y := (⟨"com/example/attache/attache/PendingKey", "resolved", "(Ljava/lang/Object;)Ljava/lang/Object;"⟩ : MethodName)) hown (mvT hZ (hw _ (List.mem_of_getElem? (i := 55) rfl))) (mvT hZ (hw _ (List.mem_of_getElem? (i := 56) rfl))) (mvT hZ (hw _ (List.mem_of_getElem? (i := 43) rfl))) (mvT hZ (hw _ (List.mem_of_getElem? (i := 57) rfl))) (by decide) (backOf (W := 0) (rmResP l Z a0 hw [] k bG T214.heap n0 F217 Q214_0 Q214_1) hZ (hw _ (List.mem_of_getElem? (i := 57) rfl)) (hw _ (List.mem_of_getElem? (i := 43) rfl)) (by decide) (by decide)) (g := (mkF m 50 #[.val (.int p0), .val (.int p1), .val (.int p2), .val (.int p3), .val (.ref bP), .val (.ref bG), .val (.ref k), .val (.ref bP), .unset] [(.ref k)])) rfl (by rw [hml]; rfl) (argsL := [(.ref k)]) (rest := []) (lenOf pd_232 rfl) rfl (by show 2 * 0 + _ ≤ _; exact Nat.le_of_eq rfl) (hb hby at_50) (fun _ _ => ⟨rfl, e218, (by decide : 5 + 0 ≤ _), (by decide : 10 + 0 ≤ _)⟩)
      dsimp only [Pt.U, Pt.locs, Pt.cells, Pt.slots] at X219 l219 y219 z219 st219 hQ219
      subst l219 y219 z219
      obtain ⟨rfl, N219q, e219⟩ := hQ219
      have N219 := Fr.app N218 N219q
      refine Go.by st219 ?_
      show Go _ _ _ _ T219 (mkF m 53 #[.val (.int p0), .val (.int p1), .val (.int p2), .val (.int p3), .val (.ref bP), .val (.ref bG), .val (.ref k), .val (.ref bP), .unset] [(.ref bG)])
      refine Go.by (fun _ gk => XS.astore X219.here hx rfl (hb hby at_53) rfl rfl (l' := #[.val (.int p0), .val (.int p1), .val (.int p2), .val (.int p3), .val (.ref bP), .val (.ref bG), .val (.ref k), .val (.ref bP), .val (.ref bG)]) rfl gk) ?_
      show Go _ _ _ _ T219 (mkF m 55 #[.val (.int p0), .val (.int p1), .val (.int p2), .val (.int p3), .val (.ref bP), .val (.ref bG), .val (.ref k), .val (.ref bP), .val (.ref bG)] [])
      refine Go.by (fun _ gk => XS.aload X219.here hx rfl (hb hby at_55) rfl rfl gk) ?_
      show Go _ _ _ _ T219 (mkF m 57 #[.val (.int p0), .val (.int p1), .val (.int p2), .val (.int p3), .val (.ref bP), .val (.ref bG), .val (.ref k), .val (.ref bP), .val (.ref bG)] [(.ref bP)])
      refine Go.by (fun _ gk => XS.aload X219.here hx rfl (hb hby at_57) rfl rfl gk) ?_
      show Go _ _ _ _ T219 (mkF m 59 #[.val (.int p0), .val (.int p1), .val (.int p2), .val (.int p3), .val (.ref bP), .val (.ref bG), .val (.ref k), .val (.ref bP), .val (.ref bG)] [(.ref bP), (.ref bP)])
      refine Go.by (fun _ gk => XT.acmpNo X219.here hx rfl (hb hby at_59) rfl rfl rfl (XT.aa_ne_f rfl) gk) ?_
      show Go _ _ _ _ T219 (mkF m 62 #[.val (.int p0), .val (.int p1), .val (.int p2), .val (.int p3), .val (.ref bP), .val (.ref bG), .val (.ref k), .val (.ref bP), .val (.ref bG)] [])
      refine Go.by (fun _ gk => XS.aload X219.here hx rfl (hb hby at_62) rfl rfl gk) ?_
      show Go _ _ _ _ T219 (mkF m 64 #[.val (.int p0), .val (.int p1), .val (.int p2), .val (.int p3), .val (.ref bP), .val (.ref bG), .val (.ref k), .val (.ref bP), .val (.ref bG)] [(.ref bG)])
      refine Go.by (fun _ gk => XS.aload X219.here hx rfl (hb hby at_64) rfl rfl gk) ?_
      show Go _ _ _ _ T219 (mkF m 66 #[.val (.int p0), .val (.int p1), .val (.int p2), .val (.int p3), .val (.ref bP), .val (.ref bG), .val (.ref k), .val (.ref bP), .val (.ref bG)] [(.ref bG), (.ref bG)])
      refine Go.by (fun _ gk => XT.acmpNo X219.here hx rfl (hb hby at_66) rfl rfl rfl (XT.aa_ne_f rfl) gk) ?_
      show Go _ _ _ _ T219 (mkF m 69 #[.val (.int p0), .val (.int p1), .val (.int p2), .val (.int p3), .val (.ref bP), .val (.ref bG), .val (.ref k), .val (.ref bP), .val (.ref bG)] [])
      refine Go.by (fun _ gk => XT.iconstV X219.here hx rfl (1 : Int32) (hb hby at_69) (by decide) gk) ?_
      show Go _ _ _ _ T219 (mkF m 70 #[.val (.int p0), .val (.int p1), .val (.int p2), .val (.int p3), .val (.ref bP), .val (.ref bG), .val (.ref k), .val (.ref bP), .val (.ref bG)] [(.int (1 : Int32))])
      refine Go.by (fun _ gk => XS.goto X219.here hx rfl (pc0 := 70) (pc' := 74) rfl (hb hby at_70) (by decide) (by decide) gk) ?_
      show Go _ _ _ _ T219 (mkF m 74 #[.val (.int p0), .val (.int p1), .val (.int p2), .val (.int p3), .val (.ref bP), .val (.ref bG), .val (.ref k), .val (.ref bP), .val (.ref bG)] [(.int (1 : Int32))])
      exact Go.retI X219 hx Bd.notSynchronized Bd.returns rfl (by simp) (hb hby at_74) (by rw [e219]; exact ⟨rfl, N219⟩) (by decide) (by decide)
  · rcases own_and3 p2 with hj | hj | hj | hj
    · obtain ⟨_, _, ⟨T220, L220, k220, n220⟩, -, X220, ⟨Lc220, hQ220, l220, y220, z220⟩, st220⟩ := Jvm.LawKit.callS X0 hx (y := (⟨"com/example/attache/attache/PendingKeyResolvedPinLaw", "make", "(II)Ljava/lang/Object;"⟩ : MethodName)) hown (mvT hZ (hw _ (List.mem_of_getElem? (i := 0) rfl))) (mvT hZ (hw _ (List.mem_of_getElem? (i := 1) rfl))) (mvT hZ (hw _ (List.mem_of_getElem? (i := 2) rfl))) (mvT hZ (hw _ (List.mem_of_getElem? (i := 3) rfl))) (by decide) (backOf (W := 0) (rmMake3 l Z a0 hw [] p0 p1 caI ccI caJ ccJ cs h0 n0 Z0 O0 hi S_cacheI B_I S_high S_cacheJ B_J S_cs n_cs) hZ (hw _ (List.mem_of_getElem? (i := 3) rfl)) (hw _ (List.mem_of_getElem? (i := 2) rfl)) (by decide) (by decide)) (g := (mkF m 2 #[.val (.int p0), .val (.int p1), .val (.int p2), .val (.int p3), .unset, .unset, .unset, .unset, .unset] [(.int p1), (.int p0)])) rfl (by rw [hml]; rfl) (argsL := [(.int p0), (.int p1)]) (rest := []) (lenOf pd_230 rfl) rfl (by show 2 * 0 + _ ≤ _; exact Nat.le_of_eq rfl) (hb hby at_2) (fun _ _ => ⟨rfl, e0, (by decide : 0 + 0 ≤ _), (by decide : 0 + 0 ≤ _)⟩)
      dsimp only [Pt.U, Pt.locs, Pt.cells, Pt.slots] at X220 l220 y220 z220 st220 hQ220
      subst l220 y220 z220
      obtain ⟨rfl, N220q, K220⟩ := hQ220
      have N220 := Fr.app N0 N220q
      refine Go.by st220 ?_
      show Go _ _ _ _ T220 (mkF m 5 #[.val (.int p0), .val (.int p1), .val (.int p2), .val (.int p3), .unset, .unset, .unset, .unset, .unset] [.null])
      refine Go.by (fun _ gk => XS.astore X220.here hx rfl (hb hby at_5) rfl rfl (l' := #[.val (.int p0), .val (.int p1), .val (.int p2), .val (.int p3), .val .null, .unset, .unset, .unset, .unset]) rfl gk) ?_
      show Go _ _ _ _ T220 (mkF m 7 #[.val (.int p0), .val (.int p1), .val (.int p2), .val (.int p3), .val .null, .unset, .unset, .unset, .unset] [])
      refine Go.by (fun _ gk => XS.iloadN X220.here hx rfl (hb hby at_7) rfl gk) ?_
      show Go _ _ _ _ T220 (mkF m 8 #[.val (.int p0), .val (.int p1), .val (.int p2), .val (.int p3), .val .null, .unset, .unset, .unset, .unset] [(.int p2)])
      refine Go.by (fun _ gk => XS.iloadN X220.here hx rfl (hb hby at_8) rfl gk) ?_
      show Go _ _ _ _ T220 (mkF m 9 #[.val (.int p0), .val (.int p1), .val (.int p2), .val (.int p3), .val .null, .unset, .unset, .unset, .unset] [(.int p3), (.int p2)])
      have F221 : Old Z n0 T220.heap := O0.keep K220 all0
      have F222 : n0 ≤ T220.heap.size := Nat.le_trans Z0 K220.1
      obtain ⟨_, _, ⟨T223, L223, k223, n223⟩, -, X223, ⟨Lc223, hQ223, l223, y223, z223⟩, st223⟩ := Jvm.LawKit.callS X220 hx (y := (⟨"com/example/attache/attache/PendingKeyResolvedPinLaw", "make", "(II)Ljava/lang/Object;"⟩ : MethodName)) hown (mvT hZ (hw _ (List.mem_of_getElem? (i := 0) rfl))) (mvT hZ (hw _ (List.mem_of_getElem? (i := 1) rfl))) (mvT hZ (hw _ (List.mem_of_getElem? (i := 2) rfl))) (mvT hZ (hw _ (List.mem_of_getElem? (i := 3) rfl))) (by decide) (backOf (W := 0) (rmMake0 l Z a0 hw [] p2 p3 caI ccI caJ ccJ cs T220.heap n0 F222 F221 hj S_cacheI B_I S_high S_cacheJ B_J S_cs n_cs) hZ (hw _ (List.mem_of_getElem? (i := 3) rfl)) (hw _ (List.mem_of_getElem? (i := 2) rfl)) (by decide) (by decide)) (g := (mkF m 9 #[.val (.int p0), .val (.int p1), .val (.int p2), .val (.int p3), .val .null, .unset, .unset, .unset, .unset] [(.int p3), (.int p2)])) rfl (by rw [hml]; rfl) (argsL := [(.int p2), (.int p3)]) (rest := []) (lenOf pd_230 rfl) rfl (by show 2 * 0 + _ ≤ _; exact Nat.le_of_eq rfl) (hb hby at_9) (fun _ _ => ⟨rfl, rfl, (by decide : 0 + 1 ≤ _), (by decide : 0 + 1 ≤ _)⟩)
      dsimp only [Pt.U, Pt.locs, Pt.cells, Pt.slots] at X223 l223 y223 z223 st223 hQ223
      subst l223 y223 z223
      obtain ⟨bG, rfl, N223q, K223, Q223_0⟩ := hQ223
      have N223 := Fr.app N220 N223q
      refine Go.by st223 ?_
      show Go _ _ _ _ T223 (mkF m 12 #[.val (.int p0), .val (.int p1), .val (.int p2), .val (.int p3), .val .null, .unset, .unset, .unset, .unset] [(.ref bG)])
      refine Go.by (fun _ gk => XS.astore X223.here hx rfl (hb hby at_12) rfl rfl (l' := #[.val (.int p0), .val (.int p1), .val (.int p2), .val (.int p3), .val .null, .val (.ref bG), .unset, .unset, .unset]) rfl gk) ?_
      show Go _ _ _ _ T223 (mkF m 14 #[.val (.int p0), .val (.int p1), .val (.int p2), .val (.int p3), .val .null, .val (.ref bG), .unset, .unset, .unset] [])
      refine Go.by (fun _ gk => XS.aload X223.here hx rfl (hb hby at_14) rfl rfl gk) ?_
      show Go _ _ _ _ T223 (mkF m 16 #[.val (.int p0), .val (.int p1), .val (.int p2), .val (.int p3), .val .null, .val (.ref bG), .unset, .unset, .unset] [(.ref bG)])
      refine Go.by (fun _ gk => XT.nonnullYes X223.here hx rfl (pc0 := 16) (pc' := 25) rfl (hb hby at_16) rfl rfl nofun (by decide) (by decide) gk) ?_
      show Go _ _ _ _ T223 (mkF m 25 #[.val (.int p0), .val (.int p1), .val (.int p2), .val (.int p3), .val .null, .val (.ref bG), .unset, .unset, .unset] [])
      have F225 : n0 ≤ T223.heap.size := Nat.le_trans F222 K223.1
      obtain ⟨k, g224⟩ : ∃ z, z = T223.heap.size := ⟨_, rfl⟩
      have ge_k : n0 ≤ k := Nat.le_trans F225 (Nat.le_of_eq g224.symm)
      have F226 : Keep h0 T220.heap [] := (Keep.refl h0 []).trans K220 all0
      have F227 : Keep h0 T223.heap [] := F226.trans K223 all0
      have sz_k : h0.size ≤ k := Nat.le_trans F227.1 (Nat.le_of_eq g224.symm)
      have ne_bG_k : bG ≠ k := Nat.ne_of_lt (Nat.lt_of_lt_of_le Q223_0.lt (Nat.le_of_eq g224.symm))
      obtain ⟨T224, h224, X224, e224, E224, A224, D224, -, st224⟩ := newO X223 hx hZ hown (hw _ (List.mem_of_getElem? (i := 41) rfl)) (hw _ (List.mem_of_getElem? (i := 42) rfl)) (hw _ (List.mem_of_getElem? (i := 43) rfl)) rfl (g := (mkF m 25 #[.val (.int p0), .val (.int p1), .val (.int p2), .val (.int p3), .val .null, .val (.ref bG), .unset, .unset, .unset] [])) rfl (hb hby at_25) (by decide) (by decide)
      rw [← g224] at A224 D224 st224
      have F_generated_k : Fld Z h224 k "com/example/attache/attache/PendingKey" "generated" "Ljava/lang/Object;" .null := D224 (Or.inl (hw _ (List.mem_of_getElem? (i := 54) rfl))) (ty := (.object "java/lang/Object")) (by decide)
      refine Go.by st224 ?_
      show Go _ _ _ _ T224 (mkF m 28 #[.val (.int p0), .val (.int p1), .val (.int p2), .val (.int p3), .val .null, .val (.ref bG), .unset, .unset, .unset] [(.ref k)])
      refine Go.by (fun _ gk => XS.dup X224.here hx rfl (hb hby at_28) rfl rfl gk) ?_
      show Go _ _ _ _ T224 (mkF m 29 #[.val (.int p0), .val (.int p1), .val (.int p2), .val (.int p3), .val .null, .val (.ref bG), .unset, .unset, .unset] [(.ref k), (.ref k)])
      have F228 : n0 ≤ h224.size := Nat.le_trans F225 E224.1
      obtain ⟨_, _, ⟨T229, L229, k229, n229⟩, -, X229, ⟨Lc229, hQ229, l229, y229, z229⟩, st229⟩ := X224.specialBack hx (y := (⟨"com/example/attache/attache/PendingKey", "<init>", "()V"⟩ : MethodName)) rfl hown (mvT hZ (hw _ (List.mem_of_getElem? (i := 44) rfl))) (mvT hZ (hw _ (List.mem_of_getElem? (i := 45) rfl))) (mvT hZ (hw _ (List.mem_of_getElem? (i := 46) rfl))) (by decide) (backOf (W := 1) (rmPinit l Z a0 hw [] k h224 n0 F228 ) hZ (hw _ (List.mem_of_getElem? (i := 46) rfl)) (hw _ (List.mem_of_getElem? (i := 43) rfl)) (by decide) (by decide)) (g := (mkF m 29 #[.val (.int p0), .val (.int p1), .val (.int p2), .val (.int p3), .val .null, .val (.ref bG), .unset, .unset, .unset] [(.ref k), (.ref k)])) rfl (by rw [hml]; rfl) (Steps.refl _) (a := k) (argsL := []) (rest := [(.ref k)]) (lenOf pd_10 rfl) rfl (by show 2 * 0 + _ ≤ _; exact Nat.le_of_eq rfl) (hb hby at_29) (fun _ _ => ⟨rfl, e224, (by decide : 2 + 0 ≤ _), (by decide : 2 + 0 ≤ _)⟩)
      dsimp only [Pt.U, Pt.locs, Pt.cells, Pt.slots] at X229 l229 y229 z229 st229 hQ229
      subst l229 y229 z229
      obtain ⟨rfl, N229q, e229⟩ := hQ229
      have N229 := Fr.app N223 N229q
      refine Go.to st229 ?_
      show Go _ _ _ _ T229 (mkF m 32 #[.val (.int p0), .val (.int p1), .val (.int p2), .val (.int p3), .val .null, .val (.ref bG), .unset, .unset, .unset] [(.ref k)])
      refine Go.by (fun _ gk => XS.astore X229.here hx rfl (hb hby at_32) rfl rfl (l' := #[.val (.int p0), .val (.int p1), .val (.int p2), .val (.int p3), .val .null, .val (.ref bG), .val (.ref k), .unset, .unset]) rfl gk) ?_
      show Go _ _ _ _ T229 (mkF m 34 #[.val (.int p0), .val (.int p1), .val (.int p2), .val (.int p3), .val .null, .val (.ref bG), .val (.ref k), .unset, .unset] [])
      refine Go.by (fun _ gk => XS.aload X229.here hx rfl (hb hby at_34) rfl rfl gk) ?_
      show Go _ _ _ _ T229 (mkF m 36 #[.val (.int p0), .val (.int p1), .val (.int p2), .val (.int p3), .val .null, .val (.ref bG), .val (.ref k), .unset, .unset] [(.ref k)])
      refine Go.by (fun _ gk => XS.aload X229.here hx rfl (hb hby at_36) rfl rfl gk) ?_
      show Go _ _ _ _ T229 (mkF m 38 #[.val (.int p0), .val (.int p1), .val (.int p2), .val (.int p3), .val .null, .val (.ref bG), .val (.ref k), .unset, .unset] [(.ref bG), (.ref k)])
      obtain ⟨cq230, kq230, q230a, q230b, q230c⟩ := isOf hZ e229 A224
      obtain ⟨_, _, ⟨T230, L230, k230, n230⟩, -, X230, ⟨Lc230, hQ230, l230, y230, z230⟩, st230⟩ := X229.virtualBack hx (y := (⟨"com/example/attache/attache/PendingKey", "generated", "(Ljava/lang/Object;)V"⟩ : MethodName)) (z := (⟨"com/example/attache/attache/PendingKey", "generated", "(Ljava/lang/Object;)V"⟩ : MethodName)) hown (mvT hZ (hw _ (List.mem_of_getElem? (i := 48) rfl))) (mvT hZ (hw _ (List.mem_of_getElem? (i := 49) rfl))) (notFace_of_selects (args := #[]) (mvT hZ (hw _ (List.mem_of_getElem? (i := 51) rfl)))) (mvT hZ (hw _ (List.mem_of_getElem? (i := 51) rfl))) (mvT hZ (hw _ (List.mem_of_getElem? (i := 50) rfl))) (by decide) (backOf (W := 0) (rmPut l Z a0 hw [] k bG .null h224 n0 F228 A224 F_generated_k ge_k) hZ (hw _ (List.mem_of_getElem? (i := 52) rfl)) (hw _ (List.mem_of_getElem? (i := 43) rfl)) (by decide) (by decide)) q230a q230c (g := (mkF m 38 #[.val (.int p0), .val (.int p1), .val (.int p2), .val (.int p3), .val .null, .val (.ref bG), .val (.ref k), .unset, .unset] [(.ref bG), (.ref k)])) rfl (by rw [hml]; rfl) (Steps.refl _) (argsL := [(.ref bG)]) (rest := []) (lenOf pd_231 rfl) rfl (by show 2 * 0 + _ ≤ _; exact Nat.le_of_eq rfl) (hb hby at_38) (fun _ _ => ⟨rfl, e229, (by decide : 2 + 0 ≤ _), (by decide : 2 + 0 ≤ _)⟩)
      dsimp only [Pt.U, Pt.locs, Pt.cells, Pt.slots] at X230 l230 y230 z230 st230 hQ230
      subst l230 y230 z230
      obtain ⟨rfl, N230q, K230, Q230_0, Q230_1⟩ := hQ230
      have N230 := Fr.app N229 N230q
      refine Go.to st230 ?_
      show Go _ _ _ _ T230 (mkF m 41 #[.val (.int p0), .val (.int p1), .val (.int p2), .val (.int p3), .val .null, .val (.ref bG), .val (.ref k), .unset, .unset] [])
      refine Go.by (fun _ gk => XS.aload X230.here hx rfl (hb hby at_41) rfl rfl gk) ?_
      show Go _ _ _ _ T230 (mkF m 43 #[.val (.int p0), .val (.int p1), .val (.int p2), .val (.int p3), .val .null, .val (.ref bG), .val (.ref k), .unset, .unset] [.null])
      have F231 : n0 ≤ T230.heap.size := Nat.le_trans F228 K230.1
      obtain ⟨_, _, ⟨T232, L232, k232, n232⟩, -, X232, ⟨Lc232, hQ232, l232, y232, z232⟩, st232⟩ := Jvm.LawKit.callS X230 hx (y := (⟨"com/example/attache/attache/PendingKey", "resolved", "(Ljava/lang/Object;)Ljava/lang/Object;"⟩ : MethodName)) hown (mvT hZ (hw _ (List.mem_of_getElem? (i := 55) rfl))) (mvT hZ (hw _ (List.mem_of_getElem? (i := 56) rfl))) (mvT hZ (hw _ (List.mem_of_getElem? (i := 43) rfl))) (mvT hZ (hw _ (List.mem_of_getElem? (i := 57) rfl))) (by decide) (backOf (W := 0) (rmRes3 l Z a0 hw []  T230.heap n0 F231 ) hZ (hw _ (List.mem_of_getElem? (i := 57) rfl)) (hw _ (List.mem_of_getElem? (i := 43) rfl)) (by decide) (by decide)) (g := (mkF m 43 #[.val (.int p0), .val (.int p1), .val (.int p2), .val (.int p3), .val .null, .val (.ref bG), .val (.ref k), .unset, .unset] [.null])) rfl (by rw [hml]; rfl) (argsL := [.null]) (rest := []) (lenOf pd_232 rfl) rfl (by show 2 * 0 + _ ≤ _; exact Nat.le_of_eq rfl) (hb hby at_43) (fun _ _ => ⟨rfl, rfl, (by decide : 2 + 0 ≤ _), (by decide : 2 + 0 ≤ _)⟩)
      dsimp only [Pt.U, Pt.locs, Pt.cells, Pt.slots] at X232 l232 y232 z232 st232 hQ232
      subst l232 y232 z232
      obtain ⟨rfl, N232q, e232⟩ := hQ232
      have N232 := Fr.app N230 N232q
      refine Go.by st232 ?_
      show Go _ _ _ _ T232 (mkF m 46 #[.val (.int p0), .val (.int p1), .val (.int p2), .val (.int p3), .val .null, .val (.ref bG), .val (.ref k), .unset, .unset] [.null])
      refine Go.by (fun _ gk => XS.astore X232.here hx rfl (hb hby at_46) rfl rfl (l' := #[.val (.int p0), .val (.int p1), .val (.int p2), .val (.int p3), .val .null, .val (.ref bG), .val (.ref k), .val .null, .unset]) rfl gk) ?_
      show Go _ _ _ _ T232 (mkF m 48 #[.val (.int p0), .val (.int p1), .val (.int p2), .val (.int p3), .val .null, .val (.ref bG), .val (.ref k), .val .null, .unset] [])
      refine Go.by (fun _ gk => XS.aload X232.here hx rfl (hb hby at_48) rfl rfl gk) ?_
      show Go _ _ _ _ T232 (mkF m 50 #[.val (.int p0), .val (.int p1), .val (.int p2), .val (.int p3), .val .null, .val (.ref bG), .val (.ref k), .val .null, .unset] [(.ref k)])
      obtain ⟨_, _, ⟨T233, L233, k233, n233⟩, -, X233, ⟨Lc233, hQ233, l233, y233, z233⟩, st233⟩ := Jvm.LawKit.callS X232 hx (y := (⟨"com/example/attache/attache/PendingKey", "resolved", "(Ljava/lang/Object;)Ljava/lang/Object;"⟩ : MethodName)) hown (mvT hZ (hw _ (List.mem_of_getElem? (i := 55) rfl))) (mvT hZ (hw _ (List.mem_of_getElem? (i := 56) rfl))) (mvT hZ (hw _ (List.mem_of_getElem? (i := 43) rfl))) (mvT hZ (hw _ (List.mem_of_getElem? (i := 57) rfl))) (by decide) (backOf (W := 0) (rmResP l Z a0 hw [] k bG T230.heap n0 F231 Q230_0 Q230_1) hZ (hw _ (List.mem_of_getElem? (i := 57) rfl)) (hw _ (List.mem_of_getElem? (i := 43) rfl)) (by decide) (by decide)) (g := (mkF m 50 #[.val (.int p0), .val (.int p1), .val (.int p2), .val (.int p3), .val .null, .val (.ref bG), .val (.ref k), .val .null, .unset] [(.ref k)])) rfl (by rw [hml]; rfl) (argsL := [(.ref k)]) (rest := []) (lenOf pd_232 rfl) rfl (by show 2 * 0 + _ ≤ _; exact Nat.le_of_eq rfl) (hb hby at_50) (fun _ _ => ⟨rfl, e232, (by decide : 2 + 0 ≤ _), (by decide : 2 + 0 ≤ _)⟩)
      dsimp only [Pt.U, Pt.locs, Pt.cells, Pt.slots] at X233 l233 y233 z233 st233 hQ233
      subst l233 y233 z233
      obtain ⟨rfl, N233q, e233⟩ := hQ233
      have N233 := Fr.app N232 N233q
      refine Go.by st233 ?_
      show Go _ _ _ _ T233 (mkF m 53 #[.val (.int p0), .val (.int p1), .val (.int p2), .val (.int p3), .val .null, .val (.ref bG), .val (.ref k), .val .null, .unset] [(.ref bG)])
      refine Go.by (fun _ gk => XS.astore X233.here hx rfl (hb hby at_53) rfl rfl (l' := #[.val (.int p0), .val (.int p1), .val (.int p2), .val (.int p3), .val .null, .val (.ref bG), .val (.ref k), .val .null, .val (.ref bG)]) rfl gk) ?_
      show Go _ _ _ _ T233 (mkF m 55 #[.val (.int p0), .val (.int p1), .val (.int p2), .val (.int p3), .val .null, .val (.ref bG), .val (.ref k), .val .null, .val (.ref bG)] [])
      refine Go.by (fun _ gk => XS.aload X233.here hx rfl (hb hby at_55) rfl rfl gk) ?_
      show Go _ _ _ _ T233 (mkF m 57 #[.val (.int p0), .val (.int p1), .val (.int p2), .val (.int p3), .val .null, .val (.ref bG), .val (.ref k), .val .null, .val (.ref bG)] [.null])
      refine Go.by (fun _ gk => XS.aload X233.here hx rfl (hb hby at_57) rfl rfl gk) ?_
      show Go _ _ _ _ T233 (mkF m 59 #[.val (.int p0), .val (.int p1), .val (.int p2), .val (.int p3), .val .null, .val (.ref bG), .val (.ref k), .val .null, .val (.ref bG)] [.null, .null])
      refine Go.by (fun _ gk => XT.acmpNo X233.here hx rfl (hb hby at_59) rfl rfl rfl (XT.aa_ne_f rfl) gk) ?_
      show Go _ _ _ _ T233 (mkF m 62 #[.val (.int p0), .val (.int p1), .val (.int p2), .val (.int p3), .val .null, .val (.ref bG), .val (.ref k), .val .null, .val (.ref bG)] [])
      refine Go.by (fun _ gk => XS.aload X233.here hx rfl (hb hby at_62) rfl rfl gk) ?_
      show Go _ _ _ _ T233 (mkF m 64 #[.val (.int p0), .val (.int p1), .val (.int p2), .val (.int p3), .val .null, .val (.ref bG), .val (.ref k), .val .null, .val (.ref bG)] [(.ref bG)])
      refine Go.by (fun _ gk => XS.aload X233.here hx rfl (hb hby at_64) rfl rfl gk) ?_
      show Go _ _ _ _ T233 (mkF m 66 #[.val (.int p0), .val (.int p1), .val (.int p2), .val (.int p3), .val .null, .val (.ref bG), .val (.ref k), .val .null, .val (.ref bG)] [(.ref bG), (.ref bG)])
      refine Go.by (fun _ gk => XT.acmpNo X233.here hx rfl (hb hby at_66) rfl rfl rfl (XT.aa_ne_f rfl) gk) ?_
      show Go _ _ _ _ T233 (mkF m 69 #[.val (.int p0), .val (.int p1), .val (.int p2), .val (.int p3), .val .null, .val (.ref bG), .val (.ref k), .val .null, .val (.ref bG)] [])
      refine Go.by (fun _ gk => XT.iconstV X233.here hx rfl (1 : Int32) (hb hby at_69) (by decide) gk) ?_
      show Go _ _ _ _ T233 (mkF m 70 #[.val (.int p0), .val (.int p1), .val (.int p2), .val (.int p3), .val .null, .val (.ref bG), .val (.ref k), .val .null, .val (.ref bG)] [(.int (1 : Int32))])
      refine Go.by (fun _ gk => XS.goto X233.here hx rfl (pc0 := 70) (pc' := 74) rfl (hb hby at_70) (by decide) (by decide) gk) ?_
      show Go _ _ _ _ T233 (mkF m 74 #[.val (.int p0), .val (.int p1), .val (.int p2), .val (.int p3), .val .null, .val (.ref bG), .val (.ref k), .val .null, .val (.ref bG)] [(.int (1 : Int32))])
      exact Go.retI X233 hx Bd.notSynchronized Bd.returns rfl (by simp) (hb hby at_74) (by rw [e233]; exact ⟨rfl, N233⟩) (by decide) (by decide)
    · obtain ⟨_, _, ⟨T234, L234, k234, n234⟩, -, X234, ⟨Lc234, hQ234, l234, y234, z234⟩, st234⟩ := Jvm.LawKit.callS X0 hx (y := (⟨"com/example/attache/attache/PendingKeyResolvedPinLaw", "make", "(II)Ljava/lang/Object;"⟩ : MethodName)) hown (mvT hZ (hw _ (List.mem_of_getElem? (i := 0) rfl))) (mvT hZ (hw _ (List.mem_of_getElem? (i := 1) rfl))) (mvT hZ (hw _ (List.mem_of_getElem? (i := 2) rfl))) (mvT hZ (hw _ (List.mem_of_getElem? (i := 3) rfl))) (by decide) (backOf (W := 0) (rmMake3 l Z a0 hw [] p0 p1 caI ccI caJ ccJ cs h0 n0 Z0 O0 hi S_cacheI B_I S_high S_cacheJ B_J S_cs n_cs) hZ (hw _ (List.mem_of_getElem? (i := 3) rfl)) (hw _ (List.mem_of_getElem? (i := 2) rfl)) (by decide) (by decide)) (g := (mkF m 2 #[.val (.int p0), .val (.int p1), .val (.int p2), .val (.int p3), .unset, .unset, .unset, .unset, .unset] [(.int p1), (.int p0)])) rfl (by rw [hml]; rfl) (argsL := [(.int p0), (.int p1)]) (rest := []) (lenOf pd_230 rfl) rfl (by show 2 * 0 + _ ≤ _; exact Nat.le_of_eq rfl) (hb hby at_2) (fun _ _ => ⟨rfl, e0, (by decide : 0 + 0 ≤ _), (by decide : 0 + 0 ≤ _)⟩)
      dsimp only [Pt.U, Pt.locs, Pt.cells, Pt.slots] at X234 l234 y234 z234 st234 hQ234
      subst l234 y234 z234
      obtain ⟨rfl, N234q, K234⟩ := hQ234
      have N234 := Fr.app N0 N234q
      refine Go.by st234 ?_
      show Go _ _ _ _ T234 (mkF m 5 #[.val (.int p0), .val (.int p1), .val (.int p2), .val (.int p3), .unset, .unset, .unset, .unset, .unset] [.null])
      refine Go.by (fun _ gk => XS.astore X234.here hx rfl (hb hby at_5) rfl rfl (l' := #[.val (.int p0), .val (.int p1), .val (.int p2), .val (.int p3), .val .null, .unset, .unset, .unset, .unset]) rfl gk) ?_
      show Go _ _ _ _ T234 (mkF m 7 #[.val (.int p0), .val (.int p1), .val (.int p2), .val (.int p3), .val .null, .unset, .unset, .unset, .unset] [])
      refine Go.by (fun _ gk => XS.iloadN X234.here hx rfl (hb hby at_7) rfl gk) ?_
      show Go _ _ _ _ T234 (mkF m 8 #[.val (.int p0), .val (.int p1), .val (.int p2), .val (.int p3), .val .null, .unset, .unset, .unset, .unset] [(.int p2)])
      refine Go.by (fun _ gk => XS.iloadN X234.here hx rfl (hb hby at_8) rfl gk) ?_
      show Go _ _ _ _ T234 (mkF m 9 #[.val (.int p0), .val (.int p1), .val (.int p2), .val (.int p3), .val .null, .unset, .unset, .unset, .unset] [(.int p3), (.int p2)])
      have F235 : Old Z n0 T234.heap := O0.keep K234 all0
      have F236 : n0 ≤ T234.heap.size := Nat.le_trans Z0 K234.1
      obtain ⟨_, _, ⟨T237, L237, k237, n237⟩, -, X237, ⟨Lc237, hQ237, l237, y237, z237⟩, st237⟩ := Jvm.LawKit.callS X234 hx (y := (⟨"com/example/attache/attache/PendingKeyResolvedPinLaw", "make", "(II)Ljava/lang/Object;"⟩ : MethodName)) hown (mvT hZ (hw _ (List.mem_of_getElem? (i := 0) rfl))) (mvT hZ (hw _ (List.mem_of_getElem? (i := 1) rfl))) (mvT hZ (hw _ (List.mem_of_getElem? (i := 2) rfl))) (mvT hZ (hw _ (List.mem_of_getElem? (i := 3) rfl))) (by decide) (backOf (W := 0) (rmMake1 l Z a0 hw [] p2 p3 caI ccI caJ ccJ cs T234.heap n0 F236 F235 hj S_cacheI B_I S_high S_cacheJ B_J S_cs n_cs) hZ (hw _ (List.mem_of_getElem? (i := 3) rfl)) (hw _ (List.mem_of_getElem? (i := 2) rfl)) (by decide) (by decide)) (g := (mkF m 9 #[.val (.int p0), .val (.int p1), .val (.int p2), .val (.int p3), .val .null, .unset, .unset, .unset, .unset] [(.int p3), (.int p2)])) rfl (by rw [hml]; rfl) (argsL := [(.int p2), (.int p3)]) (rest := []) (lenOf pd_230 rfl) rfl (by show 2 * 0 + _ ≤ _; exact Nat.le_of_eq rfl) (hb hby at_9) (fun _ _ => ⟨rfl, rfl, (by decide : 0 + 1 ≤ _), (by decide : 0 + 1 ≤ _)⟩)
      dsimp only [Pt.U, Pt.locs, Pt.cells, Pt.slots] at X237 l237 y237 z237 st237 hQ237
      subst l237 y237 z237
      obtain ⟨bG, rfl, N237q, K237, Q237_0⟩ := hQ237
      have N237 := Fr.app N234 N237q
      refine Go.by st237 ?_
      show Go _ _ _ _ T237 (mkF m 12 #[.val (.int p0), .val (.int p1), .val (.int p2), .val (.int p3), .val .null, .unset, .unset, .unset, .unset] [(.ref bG)])
      refine Go.by (fun _ gk => XS.astore X237.here hx rfl (hb hby at_12) rfl rfl (l' := #[.val (.int p0), .val (.int p1), .val (.int p2), .val (.int p3), .val .null, .val (.ref bG), .unset, .unset, .unset]) rfl gk) ?_
      show Go _ _ _ _ T237 (mkF m 14 #[.val (.int p0), .val (.int p1), .val (.int p2), .val (.int p3), .val .null, .val (.ref bG), .unset, .unset, .unset] [])
      refine Go.by (fun _ gk => XS.aload X237.here hx rfl (hb hby at_14) rfl rfl gk) ?_
      show Go _ _ _ _ T237 (mkF m 16 #[.val (.int p0), .val (.int p1), .val (.int p2), .val (.int p3), .val .null, .val (.ref bG), .unset, .unset, .unset] [(.ref bG)])
      refine Go.by (fun _ gk => XT.nonnullYes X237.here hx rfl (pc0 := 16) (pc' := 25) rfl (hb hby at_16) rfl rfl nofun (by decide) (by decide) gk) ?_
      show Go _ _ _ _ T237 (mkF m 25 #[.val (.int p0), .val (.int p1), .val (.int p2), .val (.int p3), .val .null, .val (.ref bG), .unset, .unset, .unset] [])
      have F239 : n0 ≤ T237.heap.size := Nat.le_trans F236 K237.1
      obtain ⟨k, g238⟩ : ∃ z, z = T237.heap.size := ⟨_, rfl⟩
      have ge_k : n0 ≤ k := Nat.le_trans F239 (Nat.le_of_eq g238.symm)
      have F240 : Keep h0 T234.heap [] := (Keep.refl h0 []).trans K234 all0
      have F241 : Keep h0 T237.heap [] := F240.trans K237 all0
      have sz_k : h0.size ≤ k := Nat.le_trans F241.1 (Nat.le_of_eq g238.symm)
      have ne_bG_k : bG ≠ k := Nat.ne_of_lt (Nat.lt_of_lt_of_le Q237_0.lt (Nat.le_of_eq g238.symm))
      obtain ⟨T238, h238, X238, e238, E238, A238, D238, -, st238⟩ := newO X237 hx hZ hown (hw _ (List.mem_of_getElem? (i := 41) rfl)) (hw _ (List.mem_of_getElem? (i := 42) rfl)) (hw _ (List.mem_of_getElem? (i := 43) rfl)) rfl (g := (mkF m 25 #[.val (.int p0), .val (.int p1), .val (.int p2), .val (.int p3), .val .null, .val (.ref bG), .unset, .unset, .unset] [])) rfl (hb hby at_25) (by decide) (by decide)
      rw [← g238] at A238 D238 st238
      have F_generated_k : Fld Z h238 k "com/example/attache/attache/PendingKey" "generated" "Ljava/lang/Object;" .null := D238 (Or.inl (hw _ (List.mem_of_getElem? (i := 54) rfl))) (ty := (.object "java/lang/Object")) (by decide)
      refine Go.by st238 ?_
      show Go _ _ _ _ T238 (mkF m 28 #[.val (.int p0), .val (.int p1), .val (.int p2), .val (.int p3), .val .null, .val (.ref bG), .unset, .unset, .unset] [(.ref k)])
      refine Go.by (fun _ gk => XS.dup X238.here hx rfl (hb hby at_28) rfl rfl gk) ?_
      show Go _ _ _ _ T238 (mkF m 29 #[.val (.int p0), .val (.int p1), .val (.int p2), .val (.int p3), .val .null, .val (.ref bG), .unset, .unset, .unset] [(.ref k), (.ref k)])
      have F242 : n0 ≤ h238.size := Nat.le_trans F239 E238.1
      obtain ⟨_, _, ⟨T243, L243, k243, n243⟩, -, X243, ⟨Lc243, hQ243, l243, y243, z243⟩, st243⟩ := X238.specialBack hx (y := (⟨"com/example/attache/attache/PendingKey", "<init>", "()V"⟩ : MethodName)) rfl hown (mvT hZ (hw _ (List.mem_of_getElem? (i := 44) rfl))) (mvT hZ (hw _ (List.mem_of_getElem? (i := 45) rfl))) (mvT hZ (hw _ (List.mem_of_getElem? (i := 46) rfl))) (by decide) (backOf (W := 1) (rmPinit l Z a0 hw [] k h238 n0 F242 ) hZ (hw _ (List.mem_of_getElem? (i := 46) rfl)) (hw _ (List.mem_of_getElem? (i := 43) rfl)) (by decide) (by decide)) (g := (mkF m 29 #[.val (.int p0), .val (.int p1), .val (.int p2), .val (.int p3), .val .null, .val (.ref bG), .unset, .unset, .unset] [(.ref k), (.ref k)])) rfl (by rw [hml]; rfl) (Steps.refl _) (a := k) (argsL := []) (rest := [(.ref k)]) (lenOf pd_10 rfl) rfl (by show 2 * 0 + _ ≤ _; exact Nat.le_of_eq rfl) (hb hby at_29) (fun _ _ => ⟨rfl, e238, (by decide : 2 + 0 ≤ _), (by decide : 2 + 0 ≤ _)⟩)
      dsimp only [Pt.U, Pt.locs, Pt.cells, Pt.slots] at X243 l243 y243 z243 st243 hQ243
      subst l243 y243 z243
      obtain ⟨rfl, N243q, e243⟩ := hQ243
      have N243 := Fr.app N237 N243q
      refine Go.to st243 ?_
      show Go _ _ _ _ T243 (mkF m 32 #[.val (.int p0), .val (.int p1), .val (.int p2), .val (.int p3), .val .null, .val (.ref bG), .unset, .unset, .unset] [(.ref k)])
      refine Go.by (fun _ gk => XS.astore X243.here hx rfl (hb hby at_32) rfl rfl (l' := #[.val (.int p0), .val (.int p1), .val (.int p2), .val (.int p3), .val .null, .val (.ref bG), .val (.ref k), .unset, .unset]) rfl gk) ?_
      show Go _ _ _ _ T243 (mkF m 34 #[.val (.int p0), .val (.int p1), .val (.int p2), .val (.int p3), .val .null, .val (.ref bG), .val (.ref k), .unset, .unset] [])
      refine Go.by (fun _ gk => XS.aload X243.here hx rfl (hb hby at_34) rfl rfl gk) ?_
      show Go _ _ _ _ T243 (mkF m 36 #[.val (.int p0), .val (.int p1), .val (.int p2), .val (.int p3), .val .null, .val (.ref bG), .val (.ref k), .unset, .unset] [(.ref k)])
      refine Go.by (fun _ gk => XS.aload X243.here hx rfl (hb hby at_36) rfl rfl gk) ?_
      show Go _ _ _ _ T243 (mkF m 38 #[.val (.int p0), .val (.int p1), .val (.int p2), .val (.int p3), .val .null, .val (.ref bG), .val (.ref k), .unset, .unset] [(.ref bG), (.ref k)])
      obtain ⟨cq244, kq244, q244a, q244b, q244c⟩ := isOf hZ e243 A238
      obtain ⟨_, _, ⟨T244, L244, k244, n244⟩, -, X244, ⟨Lc244, hQ244, l244, y244, z244⟩, st244⟩ := X243.virtualBack hx (y := (⟨"com/example/attache/attache/PendingKey", "generated", "(Ljava/lang/Object;)V"⟩ : MethodName)) (z := (⟨"com/example/attache/attache/PendingKey", "generated", "(Ljava/lang/Object;)V"⟩ : MethodName)) hown (mvT hZ (hw _ (List.mem_of_getElem? (i := 48) rfl))) (mvT hZ (hw _ (List.mem_of_getElem? (i := 49) rfl))) (notFace_of_selects (args := #[]) (mvT hZ (hw _ (List.mem_of_getElem? (i := 51) rfl)))) (mvT hZ (hw _ (List.mem_of_getElem? (i := 51) rfl))) (mvT hZ (hw _ (List.mem_of_getElem? (i := 50) rfl))) (by decide) (backOf (W := 0) (rmPut l Z a0 hw [] k bG .null h238 n0 F242 A238 F_generated_k ge_k) hZ (hw _ (List.mem_of_getElem? (i := 52) rfl)) (hw _ (List.mem_of_getElem? (i := 43) rfl)) (by decide) (by decide)) q244a q244c (g := (mkF m 38 #[.val (.int p0), .val (.int p1), .val (.int p2), .val (.int p3), .val .null, .val (.ref bG), .val (.ref k), .unset, .unset] [(.ref bG), (.ref k)])) rfl (by rw [hml]; rfl) (Steps.refl _) (argsL := [(.ref bG)]) (rest := []) (lenOf pd_231 rfl) rfl (by show 2 * 0 + _ ≤ _; exact Nat.le_of_eq rfl) (hb hby at_38) (fun _ _ => ⟨rfl, e243, (by decide : 2 + 0 ≤ _), (by decide : 2 + 0 ≤ _)⟩)
      dsimp only [Pt.U, Pt.locs, Pt.cells, Pt.slots] at X244 l244 y244 z244 st244 hQ244
      subst l244 y244 z244
      obtain ⟨rfl, N244q, K244, Q244_0, Q244_1⟩ := hQ244
      have N244 := Fr.app N243 N244q
      refine Go.to st244 ?_
      show Go _ _ _ _ T244 (mkF m 41 #[.val (.int p0), .val (.int p1), .val (.int p2), .val (.int p3), .val .null, .val (.ref bG), .val (.ref k), .unset, .unset] [])
      refine Go.by (fun _ gk => XS.aload X244.here hx rfl (hb hby at_41) rfl rfl gk) ?_
      show Go _ _ _ _ T244 (mkF m 43 #[.val (.int p0), .val (.int p1), .val (.int p2), .val (.int p3), .val .null, .val (.ref bG), .val (.ref k), .unset, .unset] [.null])
      have F245 : n0 ≤ T244.heap.size := Nat.le_trans F242 K244.1
      obtain ⟨_, _, ⟨T246, L246, k246, n246⟩, -, X246, ⟨Lc246, hQ246, l246, y246, z246⟩, st246⟩ := Jvm.LawKit.callS X244 hx (y := (⟨"com/example/attache/attache/PendingKey", "resolved", "(Ljava/lang/Object;)Ljava/lang/Object;"⟩ : MethodName)) hown (mvT hZ (hw _ (List.mem_of_getElem? (i := 55) rfl))) (mvT hZ (hw _ (List.mem_of_getElem? (i := 56) rfl))) (mvT hZ (hw _ (List.mem_of_getElem? (i := 43) rfl))) (mvT hZ (hw _ (List.mem_of_getElem? (i := 57) rfl))) (by decide) (backOf (W := 0) (rmRes3 l Z a0 hw []  T244.heap n0 F245 ) hZ (hw _ (List.mem_of_getElem? (i := 57) rfl)) (hw _ (List.mem_of_getElem? (i := 43) rfl)) (by decide) (by decide)) (g := (mkF m 43 #[.val (.int p0), .val (.int p1), .val (.int p2), .val (.int p3), .val .null, .val (.ref bG), .val (.ref k), .unset, .unset] [.null])) rfl (by rw [hml]; rfl) (argsL := [.null]) (rest := []) (lenOf pd_232 rfl) rfl (by show 2 * 0 + _ ≤ _; exact Nat.le_of_eq rfl) (hb hby at_43) (fun _ _ => ⟨rfl, rfl, (by decide : 2 + 0 ≤ _), (by decide : 2 + 0 ≤ _)⟩)
      dsimp only [Pt.U, Pt.locs, Pt.cells, Pt.slots] at X246 l246 y246 z246 st246 hQ246
      subst l246 y246 z246
      obtain ⟨rfl, N246q, e246⟩ := hQ246
      have N246 := Fr.app N244 N246q
      refine Go.by st246 ?_
      show Go _ _ _ _ T246 (mkF m 46 #[.val (.int p0), .val (.int p1), .val (.int p2), .val (.int p3), .val .null, .val (.ref bG), .val (.ref k), .unset, .unset] [.null])
      refine Go.by (fun _ gk => XS.astore X246.here hx rfl (hb hby at_46) rfl rfl (l' := #[.val (.int p0), .val (.int p1), .val (.int p2), .val (.int p3), .val .null, .val (.ref bG), .val (.ref k), .val .null, .unset]) rfl gk) ?_
      show Go _ _ _ _ T246 (mkF m 48 #[.val (.int p0), .val (.int p1), .val (.int p2), .val (.int p3), .val .null, .val (.ref bG), .val (.ref k), .val .null, .unset] [])
      refine Go.by (fun _ gk => XS.aload X246.here hx rfl (hb hby at_48) rfl rfl gk) ?_
      show Go _ _ _ _ T246 (mkF m 50 #[.val (.int p0), .val (.int p1), .val (.int p2), .val (.int p3), .val .null, .val (.ref bG), .val (.ref k), .val .null, .unset] [(.ref k)])
      obtain ⟨_, _, ⟨T247, L247, k247, n247⟩, -, X247, ⟨Lc247, hQ247, l247, y247, z247⟩, st247⟩ := Jvm.LawKit.callS X246 hx (y := (⟨"com/example/attache/attache/PendingKey", "resolved", "(Ljava/lang/Object;)Ljava/lang/Object;"⟩ : MethodName)) hown (mvT hZ (hw _ (List.mem_of_getElem? (i := 55) rfl))) (mvT hZ (hw _ (List.mem_of_getElem? (i := 56) rfl))) (mvT hZ (hw _ (List.mem_of_getElem? (i := 43) rfl))) (mvT hZ (hw _ (List.mem_of_getElem? (i := 57) rfl))) (by decide) (backOf (W := 0) (rmResP l Z a0 hw [] k bG T244.heap n0 F245 Q244_0 Q244_1) hZ (hw _ (List.mem_of_getElem? (i := 57) rfl)) (hw _ (List.mem_of_getElem? (i := 43) rfl)) (by decide) (by decide)) (g := (mkF m 50 #[.val (.int p0), .val (.int p1), .val (.int p2), .val (.int p3), .val .null, .val (.ref bG), .val (.ref k), .val .null, .unset] [(.ref k)])) rfl (by rw [hml]; rfl) (argsL := [(.ref k)]) (rest := []) (lenOf pd_232 rfl) rfl (by show 2 * 0 + _ ≤ _; exact Nat.le_of_eq rfl) (hb hby at_50) (fun _ _ => ⟨rfl, e246, (by decide : 2 + 0 ≤ _), (by decide : 2 + 0 ≤ _)⟩)
      dsimp only [Pt.U, Pt.locs, Pt.cells, Pt.slots] at X247 l247 y247 z247 st247 hQ247
      subst l247 y247 z247
      obtain ⟨rfl, N247q, e247⟩ := hQ247
      have N247 := Fr.app N246 N247q
      refine Go.by st247 ?_
      show Go _ _ _ _ T247 (mkF m 53 #[.val (.int p0), .val (.int p1), .val (.int p2), .val (.int p3), .val .null, .val (.ref bG), .val (.ref k), .val .null, .unset] [(.ref bG)])
      refine Go.by (fun _ gk => XS.astore X247.here hx rfl (hb hby at_53) rfl rfl (l' := #[.val (.int p0), .val (.int p1), .val (.int p2), .val (.int p3), .val .null, .val (.ref bG), .val (.ref k), .val .null, .val (.ref bG)]) rfl gk) ?_
      show Go _ _ _ _ T247 (mkF m 55 #[.val (.int p0), .val (.int p1), .val (.int p2), .val (.int p3), .val .null, .val (.ref bG), .val (.ref k), .val .null, .val (.ref bG)] [])
      refine Go.by (fun _ gk => XS.aload X247.here hx rfl (hb hby at_55) rfl rfl gk) ?_
      show Go _ _ _ _ T247 (mkF m 57 #[.val (.int p0), .val (.int p1), .val (.int p2), .val (.int p3), .val .null, .val (.ref bG), .val (.ref k), .val .null, .val (.ref bG)] [.null])
      refine Go.by (fun _ gk => XS.aload X247.here hx rfl (hb hby at_57) rfl rfl gk) ?_
      show Go _ _ _ _ T247 (mkF m 59 #[.val (.int p0), .val (.int p1), .val (.int p2), .val (.int p3), .val .null, .val (.ref bG), .val (.ref k), .val .null, .val (.ref bG)] [.null, .null])
      refine Go.by (fun _ gk => XT.acmpNo X247.here hx rfl (hb hby at_59) rfl rfl rfl (XT.aa_ne_f rfl) gk) ?_
      show Go _ _ _ _ T247 (mkF m 62 #[.val (.int p0), .val (.int p1), .val (.int p2), .val (.int p3), .val .null, .val (.ref bG), .val (.ref k), .val .null, .val (.ref bG)] [])
      refine Go.by (fun _ gk => XS.aload X247.here hx rfl (hb hby at_62) rfl rfl gk) ?_
      show Go _ _ _ _ T247 (mkF m 64 #[.val (.int p0), .val (.int p1), .val (.int p2), .val (.int p3), .val .null, .val (.ref bG), .val (.ref k), .val .null, .val (.ref bG)] [(.ref bG)])
      refine Go.by (fun _ gk => XS.aload X247.here hx rfl (hb hby at_64) rfl rfl gk) ?_
      show Go _ _ _ _ T247 (mkF m 66 #[.val (.int p0), .val (.int p1), .val (.int p2), .val (.int p3), .val .null, .val (.ref bG), .val (.ref k), .val .null, .val (.ref bG)] [(.ref bG), (.ref bG)])
      refine Go.by (fun _ gk => XT.acmpNo X247.here hx rfl (hb hby at_66) rfl rfl rfl (XT.aa_ne_f rfl) gk) ?_
      show Go _ _ _ _ T247 (mkF m 69 #[.val (.int p0), .val (.int p1), .val (.int p2), .val (.int p3), .val .null, .val (.ref bG), .val (.ref k), .val .null, .val (.ref bG)] [])
      refine Go.by (fun _ gk => XT.iconstV X247.here hx rfl (1 : Int32) (hb hby at_69) (by decide) gk) ?_
      show Go _ _ _ _ T247 (mkF m 70 #[.val (.int p0), .val (.int p1), .val (.int p2), .val (.int p3), .val .null, .val (.ref bG), .val (.ref k), .val .null, .val (.ref bG)] [(.int (1 : Int32))])
      refine Go.by (fun _ gk => XS.goto X247.here hx rfl (pc0 := 70) (pc' := 74) rfl (hb hby at_70) (by decide) (by decide) gk) ?_
      show Go _ _ _ _ T247 (mkF m 74 #[.val (.int p0), .val (.int p1), .val (.int p2), .val (.int p3), .val .null, .val (.ref bG), .val (.ref k), .val .null, .val (.ref bG)] [(.int (1 : Int32))])
      exact Go.retI X247 hx Bd.notSynchronized Bd.returns rfl (by simp) (hb hby at_74) (by rw [e247]; exact ⟨rfl, N247⟩) (by decide) (by decide)
    · obtain ⟨_, _, ⟨T248, L248, k248, n248⟩, -, X248, ⟨Lc248, hQ248, l248, y248, z248⟩, st248⟩ := Jvm.LawKit.callS X0 hx (y := (⟨"com/example/attache/attache/PendingKeyResolvedPinLaw", "make", "(II)Ljava/lang/Object;"⟩ : MethodName)) hown (mvT hZ (hw _ (List.mem_of_getElem? (i := 0) rfl))) (mvT hZ (hw _ (List.mem_of_getElem? (i := 1) rfl))) (mvT hZ (hw _ (List.mem_of_getElem? (i := 2) rfl))) (mvT hZ (hw _ (List.mem_of_getElem? (i := 3) rfl))) (by decide) (backOf (W := 0) (rmMake3 l Z a0 hw [] p0 p1 caI ccI caJ ccJ cs h0 n0 Z0 O0 hi S_cacheI B_I S_high S_cacheJ B_J S_cs n_cs) hZ (hw _ (List.mem_of_getElem? (i := 3) rfl)) (hw _ (List.mem_of_getElem? (i := 2) rfl)) (by decide) (by decide)) (g := (mkF m 2 #[.val (.int p0), .val (.int p1), .val (.int p2), .val (.int p3), .unset, .unset, .unset, .unset, .unset] [(.int p1), (.int p0)])) rfl (by rw [hml]; rfl) (argsL := [(.int p0), (.int p1)]) (rest := []) (lenOf pd_230 rfl) rfl (by show 2 * 0 + _ ≤ _; exact Nat.le_of_eq rfl) (hb hby at_2) (fun _ _ => ⟨rfl, e0, (by decide : 0 + 0 ≤ _), (by decide : 0 + 0 ≤ _)⟩)
      dsimp only [Pt.U, Pt.locs, Pt.cells, Pt.slots] at X248 l248 y248 z248 st248 hQ248
      subst l248 y248 z248
      obtain ⟨rfl, N248q, K248⟩ := hQ248
      have N248 := Fr.app N0 N248q
      refine Go.by st248 ?_
      show Go _ _ _ _ T248 (mkF m 5 #[.val (.int p0), .val (.int p1), .val (.int p2), .val (.int p3), .unset, .unset, .unset, .unset, .unset] [.null])
      refine Go.by (fun _ gk => XS.astore X248.here hx rfl (hb hby at_5) rfl rfl (l' := #[.val (.int p0), .val (.int p1), .val (.int p2), .val (.int p3), .val .null, .unset, .unset, .unset, .unset]) rfl gk) ?_
      show Go _ _ _ _ T248 (mkF m 7 #[.val (.int p0), .val (.int p1), .val (.int p2), .val (.int p3), .val .null, .unset, .unset, .unset, .unset] [])
      refine Go.by (fun _ gk => XS.iloadN X248.here hx rfl (hb hby at_7) rfl gk) ?_
      show Go _ _ _ _ T248 (mkF m 8 #[.val (.int p0), .val (.int p1), .val (.int p2), .val (.int p3), .val .null, .unset, .unset, .unset, .unset] [(.int p2)])
      refine Go.by (fun _ gk => XS.iloadN X248.here hx rfl (hb hby at_8) rfl gk) ?_
      show Go _ _ _ _ T248 (mkF m 9 #[.val (.int p0), .val (.int p1), .val (.int p2), .val (.int p3), .val .null, .unset, .unset, .unset, .unset] [(.int p3), (.int p2)])
      have F249 : Old Z n0 T248.heap := O0.keep K248 all0
      have F250 : n0 ≤ T248.heap.size := Nat.le_trans Z0 K248.1
      obtain ⟨_, _, ⟨T251, L251, k251, n251⟩, -, X251, ⟨Lc251, hQ251, l251, y251, z251⟩, st251⟩ := Jvm.LawKit.callS X248 hx (y := (⟨"com/example/attache/attache/PendingKeyResolvedPinLaw", "make", "(II)Ljava/lang/Object;"⟩ : MethodName)) hown (mvT hZ (hw _ (List.mem_of_getElem? (i := 0) rfl))) (mvT hZ (hw _ (List.mem_of_getElem? (i := 1) rfl))) (mvT hZ (hw _ (List.mem_of_getElem? (i := 2) rfl))) (mvT hZ (hw _ (List.mem_of_getElem? (i := 3) rfl))) (by decide) (backOf (W := 0) (rmMake2 l Z a0 hw [] p2 p3 caI ccI caJ ccJ cs T248.heap n0 F250 F249 hj S_cacheI B_I S_high S_cacheJ B_J S_cs n_cs) hZ (hw _ (List.mem_of_getElem? (i := 3) rfl)) (hw _ (List.mem_of_getElem? (i := 2) rfl)) (by decide) (by decide)) (g := (mkF m 9 #[.val (.int p0), .val (.int p1), .val (.int p2), .val (.int p3), .val .null, .unset, .unset, .unset, .unset] [(.int p3), (.int p2)])) rfl (by rw [hml]; rfl) (argsL := [(.int p2), (.int p3)]) (rest := []) (lenOf pd_230 rfl) rfl (by show 2 * 0 + _ ≤ _; exact Nat.le_of_eq rfl) (hb hby at_9) (fun _ _ => ⟨rfl, rfl, (by decide : 0 + 3 ≤ _), (by decide : 0 + 8 ≤ _)⟩)
      dsimp only [Pt.U, Pt.locs, Pt.cells, Pt.slots] at X251 l251 y251 z251 st251 hQ251
      subst l251 y251 z251
      obtain ⟨bG, rfl, N251q, K251, Q251_0⟩ := hQ251
      have N251 := Fr.app N248 N251q
      refine Go.by st251 ?_
      show Go _ _ _ _ T251 (mkF m 12 #[.val (.int p0), .val (.int p1), .val (.int p2), .val (.int p3), .val .null, .unset, .unset, .unset, .unset] [(.ref bG)])
      refine Go.by (fun _ gk => XS.astore X251.here hx rfl (hb hby at_12) rfl rfl (l' := #[.val (.int p0), .val (.int p1), .val (.int p2), .val (.int p3), .val .null, .val (.ref bG), .unset, .unset, .unset]) rfl gk) ?_
      show Go _ _ _ _ T251 (mkF m 14 #[.val (.int p0), .val (.int p1), .val (.int p2), .val (.int p3), .val .null, .val (.ref bG), .unset, .unset, .unset] [])
      refine Go.by (fun _ gk => XS.aload X251.here hx rfl (hb hby at_14) rfl rfl gk) ?_
      show Go _ _ _ _ T251 (mkF m 16 #[.val (.int p0), .val (.int p1), .val (.int p2), .val (.int p3), .val .null, .val (.ref bG), .unset, .unset, .unset] [(.ref bG)])
      refine Go.by (fun _ gk => XT.nonnullYes X251.here hx rfl (pc0 := 16) (pc' := 25) rfl (hb hby at_16) rfl rfl nofun (by decide) (by decide) gk) ?_
      show Go _ _ _ _ T251 (mkF m 25 #[.val (.int p0), .val (.int p1), .val (.int p2), .val (.int p3), .val .null, .val (.ref bG), .unset, .unset, .unset] [])
      have F253 : n0 ≤ T251.heap.size := Nat.le_trans F250 K251.1
      obtain ⟨k, g252⟩ : ∃ z, z = T251.heap.size := ⟨_, rfl⟩
      have ge_k : n0 ≤ k := Nat.le_trans F253 (Nat.le_of_eq g252.symm)
      have F254 : Keep h0 T248.heap [] := (Keep.refl h0 []).trans K248 all0
      have F255 : Keep h0 T251.heap [] := F254.trans K251 all0
      have sz_k : h0.size ≤ k := Nat.le_trans F255.1 (Nat.le_of_eq g252.symm)
      have ne_bG_k : bG ≠ k := Nat.ne_of_lt (Nat.lt_of_lt_of_le Q251_0.lt (Nat.le_of_eq g252.symm))
      obtain ⟨T252, h252, X252, e252, E252, A252, D252, -, st252⟩ := newO X251 hx hZ hown (hw _ (List.mem_of_getElem? (i := 41) rfl)) (hw _ (List.mem_of_getElem? (i := 42) rfl)) (hw _ (List.mem_of_getElem? (i := 43) rfl)) rfl (g := (mkF m 25 #[.val (.int p0), .val (.int p1), .val (.int p2), .val (.int p3), .val .null, .val (.ref bG), .unset, .unset, .unset] [])) rfl (hb hby at_25) (by decide) (by decide)
      rw [← g252] at A252 D252 st252
      have F_generated_k : Fld Z h252 k "com/example/attache/attache/PendingKey" "generated" "Ljava/lang/Object;" .null := D252 (Or.inl (hw _ (List.mem_of_getElem? (i := 54) rfl))) (ty := (.object "java/lang/Object")) (by decide)
      refine Go.by st252 ?_
      show Go _ _ _ _ T252 (mkF m 28 #[.val (.int p0), .val (.int p1), .val (.int p2), .val (.int p3), .val .null, .val (.ref bG), .unset, .unset, .unset] [(.ref k)])
      refine Go.by (fun _ gk => XS.dup X252.here hx rfl (hb hby at_28) rfl rfl gk) ?_
      show Go _ _ _ _ T252 (mkF m 29 #[.val (.int p0), .val (.int p1), .val (.int p2), .val (.int p3), .val .null, .val (.ref bG), .unset, .unset, .unset] [(.ref k), (.ref k)])
      have F256 : n0 ≤ h252.size := Nat.le_trans F253 E252.1
      obtain ⟨_, _, ⟨T257, L257, k257, n257⟩, -, X257, ⟨Lc257, hQ257, l257, y257, z257⟩, st257⟩ := X252.specialBack hx (y := (⟨"com/example/attache/attache/PendingKey", "<init>", "()V"⟩ : MethodName)) rfl hown (mvT hZ (hw _ (List.mem_of_getElem? (i := 44) rfl))) (mvT hZ (hw _ (List.mem_of_getElem? (i := 45) rfl))) (mvT hZ (hw _ (List.mem_of_getElem? (i := 46) rfl))) (by decide) (backOf (W := 1) (rmPinit l Z a0 hw [] k h252 n0 F256 ) hZ (hw _ (List.mem_of_getElem? (i := 46) rfl)) (hw _ (List.mem_of_getElem? (i := 43) rfl)) (by decide) (by decide)) (g := (mkF m 29 #[.val (.int p0), .val (.int p1), .val (.int p2), .val (.int p3), .val .null, .val (.ref bG), .unset, .unset, .unset] [(.ref k), (.ref k)])) rfl (by rw [hml]; rfl) (Steps.refl _) (a := k) (argsL := []) (rest := [(.ref k)]) (lenOf pd_10 rfl) rfl (by show 2 * 0 + _ ≤ _; exact Nat.le_of_eq rfl) (hb hby at_29) (fun _ _ => ⟨rfl, e252, (by decide : 4 + 0 ≤ _), (by decide : 9 + 0 ≤ _)⟩)
      dsimp only [Pt.U, Pt.locs, Pt.cells, Pt.slots] at X257 l257 y257 z257 st257 hQ257
      subst l257 y257 z257
      obtain ⟨rfl, N257q, e257⟩ := hQ257
      have N257 := Fr.app N251 N257q
      refine Go.to st257 ?_
      show Go _ _ _ _ T257 (mkF m 32 #[.val (.int p0), .val (.int p1), .val (.int p2), .val (.int p3), .val .null, .val (.ref bG), .unset, .unset, .unset] [(.ref k)])
      refine Go.by (fun _ gk => XS.astore X257.here hx rfl (hb hby at_32) rfl rfl (l' := #[.val (.int p0), .val (.int p1), .val (.int p2), .val (.int p3), .val .null, .val (.ref bG), .val (.ref k), .unset, .unset]) rfl gk) ?_
      show Go _ _ _ _ T257 (mkF m 34 #[.val (.int p0), .val (.int p1), .val (.int p2), .val (.int p3), .val .null, .val (.ref bG), .val (.ref k), .unset, .unset] [])
      refine Go.by (fun _ gk => XS.aload X257.here hx rfl (hb hby at_34) rfl rfl gk) ?_
      show Go _ _ _ _ T257 (mkF m 36 #[.val (.int p0), .val (.int p1), .val (.int p2), .val (.int p3), .val .null, .val (.ref bG), .val (.ref k), .unset, .unset] [(.ref k)])
      refine Go.by (fun _ gk => XS.aload X257.here hx rfl (hb hby at_36) rfl rfl gk) ?_
      show Go _ _ _ _ T257 (mkF m 38 #[.val (.int p0), .val (.int p1), .val (.int p2), .val (.int p3), .val .null, .val (.ref bG), .val (.ref k), .unset, .unset] [(.ref bG), (.ref k)])
      obtain ⟨cq258, kq258, q258a, q258b, q258c⟩ := isOf hZ e257 A252
      obtain ⟨_, _, ⟨T258, L258, k258, n258⟩, -, X258, ⟨Lc258, hQ258, l258, y258, z258⟩, st258⟩ := X257.virtualBack hx (y := (⟨"com/example/attache/attache/PendingKey", "generated", "(Ljava/lang/Object;)V"⟩ : MethodName)) (z := (⟨"com/example/attache/attache/PendingKey", "generated", "(Ljava/lang/Object;)V"⟩ : MethodName)) hown (mvT hZ (hw _ (List.mem_of_getElem? (i := 48) rfl))) (mvT hZ (hw _ (List.mem_of_getElem? (i := 49) rfl))) (notFace_of_selects (args := #[]) (mvT hZ (hw _ (List.mem_of_getElem? (i := 51) rfl)))) (mvT hZ (hw _ (List.mem_of_getElem? (i := 51) rfl))) (mvT hZ (hw _ (List.mem_of_getElem? (i := 50) rfl))) (by decide) (backOf (W := 0) (rmPut l Z a0 hw [] k bG .null h252 n0 F256 A252 F_generated_k ge_k) hZ (hw _ (List.mem_of_getElem? (i := 52) rfl)) (hw _ (List.mem_of_getElem? (i := 43) rfl)) (by decide) (by decide)) q258a q258c (g := (mkF m 38 #[.val (.int p0), .val (.int p1), .val (.int p2), .val (.int p3), .val .null, .val (.ref bG), .val (.ref k), .unset, .unset] [(.ref bG), (.ref k)])) rfl (by rw [hml]; rfl) (Steps.refl _) (argsL := [(.ref bG)]) (rest := []) (lenOf pd_231 rfl) rfl (by show 2 * 0 + _ ≤ _; exact Nat.le_of_eq rfl) (hb hby at_38) (fun _ _ => ⟨rfl, e257, (by decide : 4 + 0 ≤ _), (by decide : 9 + 0 ≤ _)⟩)
      dsimp only [Pt.U, Pt.locs, Pt.cells, Pt.slots] at X258 l258 y258 z258 st258 hQ258
      subst l258 y258 z258
      obtain ⟨rfl, N258q, K258, Q258_0, Q258_1⟩ := hQ258
      have N258 := Fr.app N257 N258q
      refine Go.to st258 ?_
      show Go _ _ _ _ T258 (mkF m 41 #[.val (.int p0), .val (.int p1), .val (.int p2), .val (.int p3), .val .null, .val (.ref bG), .val (.ref k), .unset, .unset] [])
      refine Go.by (fun _ gk => XS.aload X258.here hx rfl (hb hby at_41) rfl rfl gk) ?_
      show Go _ _ _ _ T258 (mkF m 43 #[.val (.int p0), .val (.int p1), .val (.int p2), .val (.int p3), .val .null, .val (.ref bG), .val (.ref k), .unset, .unset] [.null])
      have F259 : n0 ≤ T258.heap.size := Nat.le_trans F256 K258.1
      obtain ⟨_, _, ⟨T260, L260, k260, n260⟩, -, X260, ⟨Lc260, hQ260, l260, y260, z260⟩, st260⟩ := Jvm.LawKit.callS X258 hx (y := (⟨"com/example/attache/attache/PendingKey", "resolved", "(Ljava/lang/Object;)Ljava/lang/Object;"⟩ : MethodName)) hown (mvT hZ (hw _ (List.mem_of_getElem? (i := 55) rfl))) (mvT hZ (hw _ (List.mem_of_getElem? (i := 56) rfl))) (mvT hZ (hw _ (List.mem_of_getElem? (i := 43) rfl))) (mvT hZ (hw _ (List.mem_of_getElem? (i := 57) rfl))) (by decide) (backOf (W := 0) (rmRes3 l Z a0 hw []  T258.heap n0 F259 ) hZ (hw _ (List.mem_of_getElem? (i := 57) rfl)) (hw _ (List.mem_of_getElem? (i := 43) rfl)) (by decide) (by decide)) (g := (mkF m 43 #[.val (.int p0), .val (.int p1), .val (.int p2), .val (.int p3), .val .null, .val (.ref bG), .val (.ref k), .unset, .unset] [.null])) rfl (by rw [hml]; rfl) (argsL := [.null]) (rest := []) (lenOf pd_232 rfl) rfl (by show 2 * 0 + _ ≤ _; exact Nat.le_of_eq rfl) (hb hby at_43) (fun _ _ => ⟨rfl, rfl, (by decide : 4 + 0 ≤ _), (by decide : 9 + 0 ≤ _)⟩)
      dsimp only [Pt.U, Pt.locs, Pt.cells, Pt.slots] at X260 l260 y260 z260 st260 hQ260
      subst l260 y260 z260
      obtain ⟨rfl, N260q, e260⟩ := hQ260
      have N260 := Fr.app N258 N260q
      refine Go.by st260 ?_
      show Go _ _ _ _ T260 (mkF m 46 #[.val (.int p0), .val (.int p1), .val (.int p2), .val (.int p3), .val .null, .val (.ref bG), .val (.ref k), .unset, .unset] [.null])
      refine Go.by (fun _ gk => XS.astore X260.here hx rfl (hb hby at_46) rfl rfl (l' := #[.val (.int p0), .val (.int p1), .val (.int p2), .val (.int p3), .val .null, .val (.ref bG), .val (.ref k), .val .null, .unset]) rfl gk) ?_
      show Go _ _ _ _ T260 (mkF m 48 #[.val (.int p0), .val (.int p1), .val (.int p2), .val (.int p3), .val .null, .val (.ref bG), .val (.ref k), .val .null, .unset] [])
      refine Go.by (fun _ gk => XS.aload X260.here hx rfl (hb hby at_48) rfl rfl gk) ?_
      show Go _ _ _ _ T260 (mkF m 50 #[.val (.int p0), .val (.int p1), .val (.int p2), .val (.int p3), .val .null, .val (.ref bG), .val (.ref k), .val .null, .unset] [(.ref k)])
      obtain ⟨_, _, ⟨T261, L261, k261, n261⟩, -, X261, ⟨Lc261, hQ261, l261, y261, z261⟩, st261⟩ := Jvm.LawKit.callS X260 hx (y := (⟨"com/example/attache/attache/PendingKey", "resolved", "(Ljava/lang/Object;)Ljava/lang/Object;"⟩ : MethodName)) hown (mvT hZ (hw _ (List.mem_of_getElem? (i := 55) rfl))) (mvT hZ (hw _ (List.mem_of_getElem? (i := 56) rfl))) (mvT hZ (hw _ (List.mem_of_getElem? (i := 43) rfl))) (mvT hZ (hw _ (List.mem_of_getElem? (i := 57) rfl))) (by decide) (backOf (W := 0) (rmResP l Z a0 hw [] k bG T258.heap n0 F259 Q258_0 Q258_1) hZ (hw _ (List.mem_of_getElem? (i := 57) rfl)) (hw _ (List.mem_of_getElem? (i := 43) rfl)) (by decide) (by decide)) (g := (mkF m 50 #[.val (.int p0), .val (.int p1), .val (.int p2), .val (.int p3), .val .null, .val (.ref bG), .val (.ref k), .val .null, .unset] [(.ref k)])) rfl (by rw [hml]; rfl) (argsL := [(.ref k)]) (rest := []) (lenOf pd_232 rfl) rfl (by show 2 * 0 + _ ≤ _; exact Nat.le_of_eq rfl) (hb hby at_50) (fun _ _ => ⟨rfl, e260, (by decide : 4 + 0 ≤ _), (by decide : 9 + 0 ≤ _)⟩)
      dsimp only [Pt.U, Pt.locs, Pt.cells, Pt.slots] at X261 l261 y261 z261 st261 hQ261
      subst l261 y261 z261
      obtain ⟨rfl, N261q, e261⟩ := hQ261
      have N261 := Fr.app N260 N261q
      refine Go.by st261 ?_
      show Go _ _ _ _ T261 (mkF m 53 #[.val (.int p0), .val (.int p1), .val (.int p2), .val (.int p3), .val .null, .val (.ref bG), .val (.ref k), .val .null, .unset] [(.ref bG)])
      refine Go.by (fun _ gk => XS.astore X261.here hx rfl (hb hby at_53) rfl rfl (l' := #[.val (.int p0), .val (.int p1), .val (.int p2), .val (.int p3), .val .null, .val (.ref bG), .val (.ref k), .val .null, .val (.ref bG)]) rfl gk) ?_
      show Go _ _ _ _ T261 (mkF m 55 #[.val (.int p0), .val (.int p1), .val (.int p2), .val (.int p3), .val .null, .val (.ref bG), .val (.ref k), .val .null, .val (.ref bG)] [])
      refine Go.by (fun _ gk => XS.aload X261.here hx rfl (hb hby at_55) rfl rfl gk) ?_
      show Go _ _ _ _ T261 (mkF m 57 #[.val (.int p0), .val (.int p1), .val (.int p2), .val (.int p3), .val .null, .val (.ref bG), .val (.ref k), .val .null, .val (.ref bG)] [.null])
      refine Go.by (fun _ gk => XS.aload X261.here hx rfl (hb hby at_57) rfl rfl gk) ?_
      show Go _ _ _ _ T261 (mkF m 59 #[.val (.int p0), .val (.int p1), .val (.int p2), .val (.int p3), .val .null, .val (.ref bG), .val (.ref k), .val .null, .val (.ref bG)] [.null, .null])
      refine Go.by (fun _ gk => XT.acmpNo X261.here hx rfl (hb hby at_59) rfl rfl rfl (XT.aa_ne_f rfl) gk) ?_
      show Go _ _ _ _ T261 (mkF m 62 #[.val (.int p0), .val (.int p1), .val (.int p2), .val (.int p3), .val .null, .val (.ref bG), .val (.ref k), .val .null, .val (.ref bG)] [])
      refine Go.by (fun _ gk => XS.aload X261.here hx rfl (hb hby at_62) rfl rfl gk) ?_
      show Go _ _ _ _ T261 (mkF m 64 #[.val (.int p0), .val (.int p1), .val (.int p2), .val (.int p3), .val .null, .val (.ref bG), .val (.ref k), .val .null, .val (.ref bG)] [(.ref bG)])
      refine Go.by (fun _ gk => XS.aload X261.here hx rfl (hb hby at_64) rfl rfl gk) ?_
      show Go _ _ _ _ T261 (mkF m 66 #[.val (.int p0), .val (.int p1), .val (.int p2), .val (.int p3), .val .null, .val (.ref bG), .val (.ref k), .val .null, .val (.ref bG)] [(.ref bG), (.ref bG)])
      refine Go.by (fun _ gk => XT.acmpNo X261.here hx rfl (hb hby at_66) rfl rfl rfl (XT.aa_ne_f rfl) gk) ?_
      show Go _ _ _ _ T261 (mkF m 69 #[.val (.int p0), .val (.int p1), .val (.int p2), .val (.int p3), .val .null, .val (.ref bG), .val (.ref k), .val .null, .val (.ref bG)] [])
      refine Go.by (fun _ gk => XT.iconstV X261.here hx rfl (1 : Int32) (hb hby at_69) (by decide) gk) ?_
      show Go _ _ _ _ T261 (mkF m 70 #[.val (.int p0), .val (.int p1), .val (.int p2), .val (.int p3), .val .null, .val (.ref bG), .val (.ref k), .val .null, .val (.ref bG)] [(.int (1 : Int32))])
      refine Go.by (fun _ gk => XS.goto X261.here hx rfl (pc0 := 70) (pc' := 74) rfl (hb hby at_70) (by decide) (by decide) gk) ?_
      show Go _ _ _ _ T261 (mkF m 74 #[.val (.int p0), .val (.int p1), .val (.int p2), .val (.int p3), .val .null, .val (.ref bG), .val (.ref k), .val .null, .val (.ref bG)] [(.int (1 : Int32))])
      exact Go.retI X261 hx Bd.notSynchronized Bd.returns rfl (by simp) (hb hby at_74) (by rw [e261]; exact ⟨rfl, N261⟩) (by decide) (by decide)
    · obtain ⟨_, _, ⟨T262, L262, k262, n262⟩, -, X262, ⟨Lc262, hQ262, l262, y262, z262⟩, st262⟩ := Jvm.LawKit.callS X0 hx (y := (⟨"com/example/attache/attache/PendingKeyResolvedPinLaw", "make", "(II)Ljava/lang/Object;"⟩ : MethodName)) hown (mvT hZ (hw _ (List.mem_of_getElem? (i := 0) rfl))) (mvT hZ (hw _ (List.mem_of_getElem? (i := 1) rfl))) (mvT hZ (hw _ (List.mem_of_getElem? (i := 2) rfl))) (mvT hZ (hw _ (List.mem_of_getElem? (i := 3) rfl))) (by decide) (backOf (W := 0) (rmMake3 l Z a0 hw [] p0 p1 caI ccI caJ ccJ cs h0 n0 Z0 O0 hi S_cacheI B_I S_high S_cacheJ B_J S_cs n_cs) hZ (hw _ (List.mem_of_getElem? (i := 3) rfl)) (hw _ (List.mem_of_getElem? (i := 2) rfl)) (by decide) (by decide)) (g := (mkF m 2 #[.val (.int p0), .val (.int p1), .val (.int p2), .val (.int p3), .unset, .unset, .unset, .unset, .unset] [(.int p1), (.int p0)])) rfl (by rw [hml]; rfl) (argsL := [(.int p0), (.int p1)]) (rest := []) (lenOf pd_230 rfl) rfl (by show 2 * 0 + _ ≤ _; exact Nat.le_of_eq rfl) (hb hby at_2) (fun _ _ => ⟨rfl, e0, (by decide : 0 + 0 ≤ _), (by decide : 0 + 0 ≤ _)⟩)
      dsimp only [Pt.U, Pt.locs, Pt.cells, Pt.slots] at X262 l262 y262 z262 st262 hQ262
      subst l262 y262 z262
      obtain ⟨rfl, N262q, K262⟩ := hQ262
      have N262 := Fr.app N0 N262q
      refine Go.by st262 ?_
      show Go _ _ _ _ T262 (mkF m 5 #[.val (.int p0), .val (.int p1), .val (.int p2), .val (.int p3), .unset, .unset, .unset, .unset, .unset] [.null])
      refine Go.by (fun _ gk => XS.astore X262.here hx rfl (hb hby at_5) rfl rfl (l' := #[.val (.int p0), .val (.int p1), .val (.int p2), .val (.int p3), .val .null, .unset, .unset, .unset, .unset]) rfl gk) ?_
      show Go _ _ _ _ T262 (mkF m 7 #[.val (.int p0), .val (.int p1), .val (.int p2), .val (.int p3), .val .null, .unset, .unset, .unset, .unset] [])
      refine Go.by (fun _ gk => XS.iloadN X262.here hx rfl (hb hby at_7) rfl gk) ?_
      show Go _ _ _ _ T262 (mkF m 8 #[.val (.int p0), .val (.int p1), .val (.int p2), .val (.int p3), .val .null, .unset, .unset, .unset, .unset] [(.int p2)])
      refine Go.by (fun _ gk => XS.iloadN X262.here hx rfl (hb hby at_8) rfl gk) ?_
      show Go _ _ _ _ T262 (mkF m 9 #[.val (.int p0), .val (.int p1), .val (.int p2), .val (.int p3), .val .null, .unset, .unset, .unset, .unset] [(.int p3), (.int p2)])
      have F263 : Old Z n0 T262.heap := O0.keep K262 all0
      have F264 : n0 ≤ T262.heap.size := Nat.le_trans Z0 K262.1
      obtain ⟨_, _, ⟨T265, L265, k265, n265⟩, -, X265, ⟨Lc265, hQ265, l265, y265, z265⟩, st265⟩ := Jvm.LawKit.callS X262 hx (y := (⟨"com/example/attache/attache/PendingKeyResolvedPinLaw", "make", "(II)Ljava/lang/Object;"⟩ : MethodName)) hown (mvT hZ (hw _ (List.mem_of_getElem? (i := 0) rfl))) (mvT hZ (hw _ (List.mem_of_getElem? (i := 1) rfl))) (mvT hZ (hw _ (List.mem_of_getElem? (i := 2) rfl))) (mvT hZ (hw _ (List.mem_of_getElem? (i := 3) rfl))) (by decide) (backOf (W := 0) (rmMake3 l Z a0 hw [] p2 p3 caI ccI caJ ccJ cs T262.heap n0 F264 F263 hj S_cacheI B_I S_high S_cacheJ B_J S_cs n_cs) hZ (hw _ (List.mem_of_getElem? (i := 3) rfl)) (hw _ (List.mem_of_getElem? (i := 2) rfl)) (by decide) (by decide)) (g := (mkF m 9 #[.val (.int p0), .val (.int p1), .val (.int p2), .val (.int p3), .val .null, .unset, .unset, .unset, .unset] [(.int p3), (.int p2)])) rfl (by rw [hml]; rfl) (argsL := [(.int p2), (.int p3)]) (rest := []) (lenOf pd_230 rfl) rfl (by show 2 * 0 + _ ≤ _; exact Nat.le_of_eq rfl) (hb hby at_9) (fun _ _ => ⟨rfl, rfl, (by decide : 0 + 0 ≤ _), (by decide : 0 + 0 ≤ _)⟩)
      dsimp only [Pt.U, Pt.locs, Pt.cells, Pt.slots] at X265 l265 y265 z265 st265 hQ265
      subst l265 y265 z265
      obtain ⟨rfl, N265q, K265⟩ := hQ265
      have N265 := Fr.app N262 N265q
      refine Go.by st265 ?_
      show Go _ _ _ _ T265 (mkF m 12 #[.val (.int p0), .val (.int p1), .val (.int p2), .val (.int p3), .val .null, .unset, .unset, .unset, .unset] [.null])
      refine Go.by (fun _ gk => XS.astore X265.here hx rfl (hb hby at_12) rfl rfl (l' := #[.val (.int p0), .val (.int p1), .val (.int p2), .val (.int p3), .val .null, .val .null, .unset, .unset, .unset]) rfl gk) ?_
      show Go _ _ _ _ T265 (mkF m 14 #[.val (.int p0), .val (.int p1), .val (.int p2), .val (.int p3), .val .null, .val .null, .unset, .unset, .unset] [])
      refine Go.by (fun _ gk => XS.aload X265.here hx rfl (hb hby at_14) rfl rfl gk) ?_
      show Go _ _ _ _ T265 (mkF m 16 #[.val (.int p0), .val (.int p1), .val (.int p2), .val (.int p3), .val .null, .val .null, .unset, .unset, .unset] [.null])
      refine Go.by (fun _ gk => XT.nonnullNo X265.here hx rfl (hb hby at_16) rfl rfl gk) ?_
      show Go _ _ _ _ T265 (mkF m 19 #[.val (.int p0), .val (.int p1), .val (.int p2), .val (.int p3), .val .null, .val .null, .unset, .unset, .unset] [])
      refine Go.by (fun _ gk => XS.iloadN X265.here hx rfl (hb hby at_19) rfl gk) ?_
      show Go _ _ _ _ T265 (mkF m 20 #[.val (.int p0), .val (.int p1), .val (.int p2), .val (.int p3), .val .null, .val .null, .unset, .unset, .unset] [(.int p3)])
      have F266 : Old Z n0 T265.heap := F263.keep K265 all0
      have F267 : n0 ≤ T265.heap.size := Nat.le_trans F264 K265.1
      obtain ⟨_, _, ⟨T268, L268, k268, n268⟩, -, X268, ⟨Lc268, hQ268, l268, y268, z268⟩, st268⟩ := Jvm.LawKit.callS X265 hx (y := (⟨"java/lang/Integer", "valueOf", "(I)Ljava/lang/Integer;"⟩ : MethodName)) hown (mvT hZ (hw _ (List.mem_of_getElem? (i := 4) rfl))) (mvT hZ (hw _ (List.mem_of_getElem? (i := 5) rfl))) (mvT hZ (hw _ (List.mem_of_getElem? (i := 6) rfl))) (mvT hZ (hw _ (List.mem_of_getElem? (i := 7) rfl))) (by decide) (backOf (W := 0) (rmValueOfI l Z a0 hw [] p3 caI ccI T265.heap n0 F267 F266 S_cacheI B_I S_high) hZ (hw _ (List.mem_of_getElem? (i := 7) rfl)) (hw _ (List.mem_of_getElem? (i := 6) rfl)) (by decide) (by decide)) (g := (mkF m 20 #[.val (.int p0), .val (.int p1), .val (.int p2), .val (.int p3), .val .null, .val .null, .unset, .unset, .unset] [(.int p3)])) rfl (by rw [hml]; rfl) (argsL := [(.int p3)]) (rest := []) (lenOf pd_160 rfl) rfl (by show 2 * 0 + _ ≤ _; exact Nat.le_of_eq rfl) (hb hby at_20) (fun _ _ => ⟨rfl, rfl, (by decide : 0 + 1 ≤ _), (by decide : 0 + 1 ≤ _)⟩)
      dsimp only [Pt.U, Pt.locs, Pt.cells, Pt.slots] at X268 l268 y268 z268 st268 hQ268
      subst l268 y268 z268
      obtain ⟨bG, rfl, N268q, K268, Q268_0, Q268_1⟩ := hQ268
      have N268 := Fr.app N265 N268q
      refine Go.by st268 ?_
      show Go _ _ _ _ T268 (mkF m 23 #[.val (.int p0), .val (.int p1), .val (.int p2), .val (.int p3), .val .null, .val .null, .unset, .unset, .unset] [(.ref bG)])
      refine Go.by (fun _ gk => XS.astore X268.here hx rfl (hb hby at_23) rfl rfl (l' := #[.val (.int p0), .val (.int p1), .val (.int p2), .val (.int p3), .val .null, .val (.ref bG), .unset, .unset, .unset]) rfl gk) ?_
      show Go _ _ _ _ T268 (mkF m 25 #[.val (.int p0), .val (.int p1), .val (.int p2), .val (.int p3), .val .null, .val (.ref bG), .unset, .unset, .unset] [])
      have F270 : n0 ≤ T268.heap.size := Nat.le_trans F267 K268.1
      obtain ⟨k, g269⟩ : ∃ z, z = T268.heap.size := ⟨_, rfl⟩
      have ge_k : n0 ≤ k := Nat.le_trans F270 (Nat.le_of_eq g269.symm)
      have F271 : Keep h0 T262.heap [] := (Keep.refl h0 []).trans K262 all0
      have F272 : Keep h0 T265.heap [] := F271.trans K265 all0
      have F273 : Keep h0 T268.heap [] := F272.trans K268 all0
      have sz_k : h0.size ≤ k := Nat.le_trans F273.1 (Nat.le_of_eq g269.symm)
      have ne_bG_k : bG ≠ k := Nat.ne_of_lt (Nat.lt_of_lt_of_le Q268_0.lt (Nat.le_of_eq g269.symm))
      obtain ⟨T269, h269, X269, e269, E269, A269, D269, -, st269⟩ := newO X268 hx hZ hown (hw _ (List.mem_of_getElem? (i := 41) rfl)) (hw _ (List.mem_of_getElem? (i := 42) rfl)) (hw _ (List.mem_of_getElem? (i := 43) rfl)) rfl (g := (mkF m 25 #[.val (.int p0), .val (.int p1), .val (.int p2), .val (.int p3), .val .null, .val (.ref bG), .unset, .unset, .unset] [])) rfl (hb hby at_25) (by decide) (by decide)
      rw [← g269] at A269 D269 st269
      have F_generated_k : Fld Z h269 k "com/example/attache/attache/PendingKey" "generated" "Ljava/lang/Object;" .null := D269 (Or.inl (hw _ (List.mem_of_getElem? (i := 54) rfl))) (ty := (.object "java/lang/Object")) (by decide)
      refine Go.by st269 ?_
      show Go _ _ _ _ T269 (mkF m 28 #[.val (.int p0), .val (.int p1), .val (.int p2), .val (.int p3), .val .null, .val (.ref bG), .unset, .unset, .unset] [(.ref k)])
      refine Go.by (fun _ gk => XS.dup X269.here hx rfl (hb hby at_28) rfl rfl gk) ?_
      show Go _ _ _ _ T269 (mkF m 29 #[.val (.int p0), .val (.int p1), .val (.int p2), .val (.int p3), .val .null, .val (.ref bG), .unset, .unset, .unset] [(.ref k), (.ref k)])
      have F274 : n0 ≤ h269.size := Nat.le_trans F270 E269.1
      obtain ⟨_, _, ⟨T275, L275, k275, n275⟩, -, X275, ⟨Lc275, hQ275, l275, y275, z275⟩, st275⟩ := X269.specialBack hx (y := (⟨"com/example/attache/attache/PendingKey", "<init>", "()V"⟩ : MethodName)) rfl hown (mvT hZ (hw _ (List.mem_of_getElem? (i := 44) rfl))) (mvT hZ (hw _ (List.mem_of_getElem? (i := 45) rfl))) (mvT hZ (hw _ (List.mem_of_getElem? (i := 46) rfl))) (by decide) (backOf (W := 1) (rmPinit l Z a0 hw [] k h269 n0 F274 ) hZ (hw _ (List.mem_of_getElem? (i := 46) rfl)) (hw _ (List.mem_of_getElem? (i := 43) rfl)) (by decide) (by decide)) (g := (mkF m 29 #[.val (.int p0), .val (.int p1), .val (.int p2), .val (.int p3), .val .null, .val (.ref bG), .unset, .unset, .unset] [(.ref k), (.ref k)])) rfl (by rw [hml]; rfl) (Steps.refl _) (a := k) (argsL := []) (rest := [(.ref k)]) (lenOf pd_10 rfl) rfl (by show 2 * 0 + _ ≤ _; exact Nat.le_of_eq rfl) (hb hby at_29) (fun _ _ => ⟨rfl, e269, (by decide : 2 + 0 ≤ _), (by decide : 2 + 0 ≤ _)⟩)
      dsimp only [Pt.U, Pt.locs, Pt.cells, Pt.slots] at X275 l275 y275 z275 st275 hQ275
      subst l275 y275 z275
      obtain ⟨rfl, N275q, e275⟩ := hQ275
      have N275 := Fr.app N268 N275q
      refine Go.to st275 ?_
      show Go _ _ _ _ T275 (mkF m 32 #[.val (.int p0), .val (.int p1), .val (.int p2), .val (.int p3), .val .null, .val (.ref bG), .unset, .unset, .unset] [(.ref k)])
      refine Go.by (fun _ gk => XS.astore X275.here hx rfl (hb hby at_32) rfl rfl (l' := #[.val (.int p0), .val (.int p1), .val (.int p2), .val (.int p3), .val .null, .val (.ref bG), .val (.ref k), .unset, .unset]) rfl gk) ?_
      show Go _ _ _ _ T275 (mkF m 34 #[.val (.int p0), .val (.int p1), .val (.int p2), .val (.int p3), .val .null, .val (.ref bG), .val (.ref k), .unset, .unset] [])
      refine Go.by (fun _ gk => XS.aload X275.here hx rfl (hb hby at_34) rfl rfl gk) ?_
      show Go _ _ _ _ T275 (mkF m 36 #[.val (.int p0), .val (.int p1), .val (.int p2), .val (.int p3), .val .null, .val (.ref bG), .val (.ref k), .unset, .unset] [(.ref k)])
      refine Go.by (fun _ gk => XS.aload X275.here hx rfl (hb hby at_36) rfl rfl gk) ?_
      show Go _ _ _ _ T275 (mkF m 38 #[.val (.int p0), .val (.int p1), .val (.int p2), .val (.int p3), .val .null, .val (.ref bG), .val (.ref k), .unset, .unset] [(.ref bG), (.ref k)])
      obtain ⟨cq276, kq276, q276a, q276b, q276c⟩ := isOf hZ e275 A269
      obtain ⟨_, _, ⟨T276, L276, k276, n276⟩, -, X276, ⟨Lc276, hQ276, l276, y276, z276⟩, st276⟩ := X275.virtualBack hx (y := (⟨"com/example/attache/attache/PendingKey", "generated", "(Ljava/lang/Object;)V"⟩ : MethodName)) (z := (⟨"com/example/attache/attache/PendingKey", "generated", "(Ljava/lang/Object;)V"⟩ : MethodName)) hown (mvT hZ (hw _ (List.mem_of_getElem? (i := 48) rfl))) (mvT hZ (hw _ (List.mem_of_getElem? (i := 49) rfl))) (notFace_of_selects (args := #[]) (mvT hZ (hw _ (List.mem_of_getElem? (i := 51) rfl)))) (mvT hZ (hw _ (List.mem_of_getElem? (i := 51) rfl))) (mvT hZ (hw _ (List.mem_of_getElem? (i := 50) rfl))) (by decide) (backOf (W := 0) (rmPut l Z a0 hw [] k bG .null h269 n0 F274 A269 F_generated_k ge_k) hZ (hw _ (List.mem_of_getElem? (i := 52) rfl)) (hw _ (List.mem_of_getElem? (i := 43) rfl)) (by decide) (by decide)) q276a q276c (g := (mkF m 38 #[.val (.int p0), .val (.int p1), .val (.int p2), .val (.int p3), .val .null, .val (.ref bG), .val (.ref k), .unset, .unset] [(.ref bG), (.ref k)])) rfl (by rw [hml]; rfl) (Steps.refl _) (argsL := [(.ref bG)]) (rest := []) (lenOf pd_231 rfl) rfl (by show 2 * 0 + _ ≤ _; exact Nat.le_of_eq rfl) (hb hby at_38) (fun _ _ => ⟨rfl, e275, (by decide : 2 + 0 ≤ _), (by decide : 2 + 0 ≤ _)⟩)
      dsimp only [Pt.U, Pt.locs, Pt.cells, Pt.slots] at X276 l276 y276 z276 st276 hQ276
      subst l276 y276 z276
      obtain ⟨rfl, N276q, K276, Q276_0, Q276_1⟩ := hQ276
      have N276 := Fr.app N275 N276q
      refine Go.to st276 ?_
      show Go _ _ _ _ T276 (mkF m 41 #[.val (.int p0), .val (.int p1), .val (.int p2), .val (.int p3), .val .null, .val (.ref bG), .val (.ref k), .unset, .unset] [])
      refine Go.by (fun _ gk => XS.aload X276.here hx rfl (hb hby at_41) rfl rfl gk) ?_
      show Go _ _ _ _ T276 (mkF m 43 #[.val (.int p0), .val (.int p1), .val (.int p2), .val (.int p3), .val .null, .val (.ref bG), .val (.ref k), .unset, .unset] [.null])
      have F277 : n0 ≤ T276.heap.size := Nat.le_trans F274 K276.1
      obtain ⟨_, _, ⟨T278, L278, k278, n278⟩, -, X278, ⟨Lc278, hQ278, l278, y278, z278⟩, st278⟩ := Jvm.LawKit.callS X276 hx (y := (⟨"com/example/attache/attache/PendingKey", "resolved", "(Ljava/lang/Object;)Ljava/lang/Object;"⟩ : MethodName)) hown (mvT hZ (hw _ (List.mem_of_getElem? (i := 55) rfl))) (mvT hZ (hw _ (List.mem_of_getElem? (i := 56) rfl))) (mvT hZ (hw _ (List.mem_of_getElem? (i := 43) rfl))) (mvT hZ (hw _ (List.mem_of_getElem? (i := 57) rfl))) (by decide) (backOf (W := 0) (rmRes3 l Z a0 hw []  T276.heap n0 F277 ) hZ (hw _ (List.mem_of_getElem? (i := 57) rfl)) (hw _ (List.mem_of_getElem? (i := 43) rfl)) (by decide) (by decide)) (g := (mkF m 43 #[.val (.int p0), .val (.int p1), .val (.int p2), .val (.int p3), .val .null, .val (.ref bG), .val (.ref k), .unset, .unset] [.null])) rfl (by rw [hml]; rfl) (argsL := [.null]) (rest := []) (lenOf pd_232 rfl) rfl (by show 2 * 0 + _ ≤ _; exact Nat.le_of_eq rfl) (hb hby at_43) (fun _ _ => ⟨rfl, rfl, (by decide : 2 + 0 ≤ _), (by decide : 2 + 0 ≤ _)⟩)
      dsimp only [Pt.U, Pt.locs, Pt.cells, Pt.slots] at X278 l278 y278 z278 st278 hQ278
      subst l278 y278 z278
      obtain ⟨rfl, N278q, e278⟩ := hQ278
      have N278 := Fr.app N276 N278q
      refine Go.by st278 ?_
      show Go _ _ _ _ T278 (mkF m 46 #[.val (.int p0), .val (.int p1), .val (.int p2), .val (.int p3), .val .null, .val (.ref bG), .val (.ref k), .unset, .unset] [.null])
      refine Go.by (fun _ gk => XS.astore X278.here hx rfl (hb hby at_46) rfl rfl (l' := #[.val (.int p0), .val (.int p1), .val (.int p2), .val (.int p3), .val .null, .val (.ref bG), .val (.ref k), .val .null, .unset]) rfl gk) ?_
      show Go _ _ _ _ T278 (mkF m 48 #[.val (.int p0), .val (.int p1), .val (.int p2), .val (.int p3), .val .null, .val (.ref bG), .val (.ref k), .val .null, .unset] [])
      refine Go.by (fun _ gk => XS.aload X278.here hx rfl (hb hby at_48) rfl rfl gk) ?_
      show Go _ _ _ _ T278 (mkF m 50 #[.val (.int p0), .val (.int p1), .val (.int p2), .val (.int p3), .val .null, .val (.ref bG), .val (.ref k), .val .null, .unset] [(.ref k)])
      obtain ⟨_, _, ⟨T279, L279, k279, n279⟩, -, X279, ⟨Lc279, hQ279, l279, y279, z279⟩, st279⟩ := Jvm.LawKit.callS X278 hx (y := (⟨"com/example/attache/attache/PendingKey", "resolved", "(Ljava/lang/Object;)Ljava/lang/Object;"⟩ : MethodName)) hown (mvT hZ (hw _ (List.mem_of_getElem? (i := 55) rfl))) (mvT hZ (hw _ (List.mem_of_getElem? (i := 56) rfl))) (mvT hZ (hw _ (List.mem_of_getElem? (i := 43) rfl))) (mvT hZ (hw _ (List.mem_of_getElem? (i := 57) rfl))) (by decide) (backOf (W := 0) (rmResP l Z a0 hw [] k bG T276.heap n0 F277 Q276_0 Q276_1) hZ (hw _ (List.mem_of_getElem? (i := 57) rfl)) (hw _ (List.mem_of_getElem? (i := 43) rfl)) (by decide) (by decide)) (g := (mkF m 50 #[.val (.int p0), .val (.int p1), .val (.int p2), .val (.int p3), .val .null, .val (.ref bG), .val (.ref k), .val .null, .unset] [(.ref k)])) rfl (by rw [hml]; rfl) (argsL := [(.ref k)]) (rest := []) (lenOf pd_232 rfl) rfl (by show 2 * 0 + _ ≤ _; exact Nat.le_of_eq rfl) (hb hby at_50) (fun _ _ => ⟨rfl, e278, (by decide : 2 + 0 ≤ _), (by decide : 2 + 0 ≤ _)⟩)
      dsimp only [Pt.U, Pt.locs, Pt.cells, Pt.slots] at X279 l279 y279 z279 st279 hQ279
      subst l279 y279 z279
      obtain ⟨rfl, N279q, e279⟩ := hQ279
      have N279 := Fr.app N278 N279q
      refine Go.by st279 ?_
      show Go _ _ _ _ T279 (mkF m 53 #[.val (.int p0), .val (.int p1), .val (.int p2), .val (.int p3), .val .null, .val (.ref bG), .val (.ref k), .val .null, .unset] [(.ref bG)])
      refine Go.by (fun _ gk => XS.astore X279.here hx rfl (hb hby at_53) rfl rfl (l' := #[.val (.int p0), .val (.int p1), .val (.int p2), .val (.int p3), .val .null, .val (.ref bG), .val (.ref k), .val .null, .val (.ref bG)]) rfl gk) ?_
      show Go _ _ _ _ T279 (mkF m 55 #[.val (.int p0), .val (.int p1), .val (.int p2), .val (.int p3), .val .null, .val (.ref bG), .val (.ref k), .val .null, .val (.ref bG)] [])
      refine Go.by (fun _ gk => XS.aload X279.here hx rfl (hb hby at_55) rfl rfl gk) ?_
      show Go _ _ _ _ T279 (mkF m 57 #[.val (.int p0), .val (.int p1), .val (.int p2), .val (.int p3), .val .null, .val (.ref bG), .val (.ref k), .val .null, .val (.ref bG)] [.null])
      refine Go.by (fun _ gk => XS.aload X279.here hx rfl (hb hby at_57) rfl rfl gk) ?_
      show Go _ _ _ _ T279 (mkF m 59 #[.val (.int p0), .val (.int p1), .val (.int p2), .val (.int p3), .val .null, .val (.ref bG), .val (.ref k), .val .null, .val (.ref bG)] [.null, .null])
      refine Go.by (fun _ gk => XT.acmpNo X279.here hx rfl (hb hby at_59) rfl rfl rfl (XT.aa_ne_f rfl) gk) ?_
      show Go _ _ _ _ T279 (mkF m 62 #[.val (.int p0), .val (.int p1), .val (.int p2), .val (.int p3), .val .null, .val (.ref bG), .val (.ref k), .val .null, .val (.ref bG)] [])
      refine Go.by (fun _ gk => XS.aload X279.here hx rfl (hb hby at_62) rfl rfl gk) ?_
      show Go _ _ _ _ T279 (mkF m 64 #[.val (.int p0), .val (.int p1), .val (.int p2), .val (.int p3), .val .null, .val (.ref bG), .val (.ref k), .val .null, .val (.ref bG)] [(.ref bG)])
      refine Go.by (fun _ gk => XS.aload X279.here hx rfl (hb hby at_64) rfl rfl gk) ?_
      show Go _ _ _ _ T279 (mkF m 66 #[.val (.int p0), .val (.int p1), .val (.int p2), .val (.int p3), .val .null, .val (.ref bG), .val (.ref k), .val .null, .val (.ref bG)] [(.ref bG), (.ref bG)])
      refine Go.by (fun _ gk => XT.acmpNo X279.here hx rfl (hb hby at_66) rfl rfl rfl (XT.aa_ne_f rfl) gk) ?_
      show Go _ _ _ _ T279 (mkF m 69 #[.val (.int p0), .val (.int p1), .val (.int p2), .val (.int p3), .val .null, .val (.ref bG), .val (.ref k), .val .null, .val (.ref bG)] [])
      refine Go.by (fun _ gk => XT.iconstV X279.here hx rfl (1 : Int32) (hb hby at_69) (by decide) gk) ?_
      show Go _ _ _ _ T279 (mkF m 70 #[.val (.int p0), .val (.int p1), .val (.int p2), .val (.int p3), .val .null, .val (.ref bG), .val (.ref k), .val .null, .val (.ref bG)] [(.int (1 : Int32))])
      refine Go.by (fun _ gk => XS.goto X279.here hx rfl (pc0 := 70) (pc' := 74) rfl (hb hby at_70) (by decide) (by decide) gk) ?_
      show Go _ _ _ _ T279 (mkF m 74 #[.val (.int p0), .val (.int p1), .val (.int p2), .val (.int p3), .val .null, .val (.ref bG), .val (.ref k), .val .null, .val (.ref bG)] [(.int (1 : Int32))])
      exact Go.retI X279 hx Bd.notSynchronized Bd.returns rfl (by simp) (hb hby at_74) (by rw [e279]; exact ⟨rfl, N279⟩) (by decide) (by decide)
set_option maxRecDepth 65536 in
set_option maxHeartbeats 40000000 in
theorem comes_1 {Post : Tables → Env → Array Value → State → Outcome → State → Prop} (hpost : ∀ tb e args s v u, (limb_1_1.after args s (.returned v) u = true ∧ limb_1_2.after args s (.returned v) u = true ∧ True) → FrameEnd s (.returned v) u (Jvm.fieldLocs frame_1_writes args s ++ Jvm.arrayLocs frame_1_arrays args s ++ Jvm.staticLocs frame_1_statics s) 24 128 → Post tb e args s (.returned v) u) :
    ArmFor flags0 classFile x code maxLocals ret World_1 tables_1 room_1 Calls_1 rest_1 Pre_1 Post := by
  intro l hfl _ _ p e ha hc hk s m args below hf hA hF happ hP
  obtain ⟨hcalls, hrest, hpre⟩ := hP
  obtain ⟨-, -, -, hnamed, -, -, -, hat⟩ := (Spec.applies_iff hf).mp happ
  obtain ⟨hg, hn⟩ := and_e (Cond.before_iff.mp (show (Jvm.Cond.and given_1 narrow_1).before args s = true from hpre))
  obtain ⟨hcount, hg0⟩ := and_e hg
  obtain ⟨ha0, hg1⟩ := and_e hg0
  obtain ⟨ha1, hg2⟩ := and_e hg1
  obtain ⟨ha2, hg3⟩ := and_e hg2
  have ha3 := hg3
  obtain ⟨w0, w1, w2, w3, rfl⟩ : ∃ w0 w1 w2 w3 : Value, args = #[w0, w1, w2, w3] := by
    have hs : args.size = 4 := by simpa [Cond.value, given_1] using hcount
    obtain ⟨L⟩ := args
    match L, hs with
    | [w0, w1, w2, w3], _ => exact ⟨w0, w1, w2, w3, rfl⟩
  have hw := fun d (hd : d ∈ tables_1) => atoms_spec (ws := Jvm.Cond.code x code maxLocals ret :: tables_1) hat d (List.mem_cons_of_mem _ hd)
  obtain ⟨hsets, hown0⟩ := atoms_of _ (rest_1_c_eq ▸ (show rest_1_c.before _ s = true from hrest))
  have hr0 := Cond.before_iff.mp hown0
  have hfit : Fit s := fun {y c} hc i hi => by
    obtain ⟨ha, rfl⟩ := Array.getElem?_eq_some_iff.mp hc
    have q := List.all_eq_true.mp ((Array.all_eq_true_iff_forall_mem.mp hF) _ (Array.getElem_mem ha)) i (List.mem_range.mpr hi)
    simpa [Array.getElem?_eq_getElem hi] using q
  obtain ⟨i0, ei0⟩ := is_v ha0
  obtain rfl : w0 = (.int i0) := Option.some.inj ei0
  obtain ⟨i1, ei1⟩ := is_v ha1
  obtain rfl : w1 = (.int i1) := Option.some.inj ei1
  obtain ⟨i2, ei2⟩ := is_v ha2
  obtain rfl : w2 = (.int i2) := Option.some.inj ei2
  obtain ⟨i3, ei3⟩ := is_v ha3
  obtain rfl : w3 = (.int i3) := Option.some.inj ei3
  have e_high := eqv_i (Term.int_eval 127) (Cond.before_iff.mp (hsets _ (List.mem_of_getElem? (i := 3) rfl)))
  have S_high := Sta.start e_high (Or.inl (hsets _ (List.mem_of_getElem? (i := 1) rfl)))
  obtain ⟨caI, ev_caI⟩ := arr_v (Cond.before_iff.mp (hsets _ (List.mem_of_getElem? (i := 4) rfl)))
  obtain ⟨ccI, A_I⟩ := Arr.start ev_caI (Cond.before_iff.mp (hsets _ (List.mem_of_getElem? (i := 4) rfl)))
  have S_cacheI := Sta.start ev_caI (Or.inr ⟨(hw _ (List.mem_of_getElem? (i := 9) rfl)), (hsets _ (List.mem_of_getElem? (i := 2) rfl))⟩)
  have len_I := own_len ev_caI (A_I.fin (Vm.Alike.refl _)) (eqv_i (Term.int_eval 256) (Cond.before_iff.mp (hsets _ (List.mem_of_getElem? (i := 6) rfl))))
  have B_I : Bxs s caI ccI "java/lang/Integer" "I" 256 (fun j => .int (j - 128)) := Bxs.start (own_static ev_caI) A_I len_I.1 len_I.2 (by decide) (Cond.before_iff.mp (hsets _ (List.mem_of_getElem? (i := 7) rfl))) own_valI
  obtain ⟨caJ, ev_caJ⟩ := arr_v (Cond.before_iff.mp (hsets _ (List.mem_of_getElem? (i := 19) rfl)))
  obtain ⟨ccJ, A_J⟩ := Arr.start ev_caJ (Cond.before_iff.mp (hsets _ (List.mem_of_getElem? (i := 19) rfl)))
  have S_cacheJ := Sta.start ev_caJ (Or.inl (hsets _ (List.mem_of_getElem? (i := 18) rfl)))
  have len_J := own_len ev_caJ (A_J.fin (Vm.Alike.refl _)) (eqv_i (Term.int_eval 256) (Cond.before_iff.mp (hsets _ (List.mem_of_getElem? (i := 21) rfl))))
  have B_J : Bxs s caJ ccJ "java/lang/Long" "J" 256 (fun j => .long (j - 128).toInt64) := Bxs.start (own_static ev_caJ) A_J len_J.1 len_J.2 (by decide) (Cond.before_iff.mp (hsets _ (List.mem_of_getElem? (i := 22) rfl))) own_valJ
  obtain ⟨cs, ev_cs⟩ := is_v (Cond.before_iff.mp (hsets _ (List.mem_of_getElem? (i := 9) rfl)))
  have S_cs := Sta.start ev_cs (Or.inl (hsets _ (List.mem_of_getElem? (i := 8) rfl)))
  have n_cs : ¬ (cs = (0 : Int32)) := gotF (Cond.eq_ints ev_cs (Term.int_eval (0))) (not_v (Cond.before_iff.mp (hsets _ (List.mem_of_getElem? (i := 10) rfl))))
  obtain ⟨n, o, h1, h2, h3, _, L, rfl, ⟨rfl, N⟩, hq⟩ := rm0 l s _ hw tables_1 i0 i1 i2 i3 caI ccI caJ ccJ cs s.heap s.heap.size (Nat.le_refl _) (Old.start s) S_cacheI B_I S_high S_cacheJ B_J S_cs n_cs p e ha hc hk s m _ below hf ((Spec.applies_iff_loose hf).mp happ).1 ⟨rfl, State.Warmed39.refl s, rfl⟩ trivial
  refine ⟨n, _, h1, h2, h3, hpost _ _ _ _ _ _ ⟨Cond.after_iff.mpr rfl, Cond.after_iff.mpr (eq_i res_at (Term.int_eval (1)) rfl), trivial⟩ ⟨hq.1, hq.2.1, (hq.2.2.sift fun y hy => Or.inr (N y hy)).mono (by decide) (by decide)⟩⟩
theorem main_1_1 : Claimed_1_1 := comes_1 fun _ _ _ _ _ _ h hF => ⟨h.1, hF⟩
theorem main_1_2 : Claimed_1_2 := comes_1 fun _ _ _ _ _ _ h hF => ⟨h.2.1, hF⟩
end Jvm.Pilot.@@N@@
namespace Jvm.Pilot.@@N@@
open Jvm Jvm.ClassFile Sem Op Lib Jvm.Free Jvm.Stand Jvm.Pilot.@@N@@.Jvm.D
/-! MADE BY PROGRAM (witnessworld.py) out of the Statement's table words and the real class files: 27 classes; the members and pool entries that the words name. The judged class is class 1, her method 2. -/
namespace start1
open Jvm.ClassFile
def u (s : String) : CpInfo := .utf8 (stringToUtf16 s)
/-- a pool by its gaps: so many unusable entries, then the entry; so many at the end -/
def gap : Nat → List CpInfo → List CpInfo
  | 0, r => r
  | n + 1, r => .unusable :: gap n r
def poolList (es : List (Nat × CpInfo)) (last : Nat) : List CpInfo := es.foldr (fun e r => gap e.1 (e.2 :: r)) (gap last [])
def pool (es : List (Nat × CpInfo)) (last : Nat) : Array CpInfo := ⟨poolList es last⟩
def fileOf (pool : Array CpInfo) (this : Nat) (attrs : Array Attribute := #[]) (ms : Array MethodInfo := #[]) (fl : Nat := 33) (sup : Nat := 0) (ifs : Array Nat := #[]) (fds : Array FieldInfo := #[]) : ClassFile where
  minorVersion := 0
  majorVersion := 65
  constantPool := pool
  accessFlags := fl
  thisClass := this
  superClass := sup
  interfaces := ifs
  fields := fds
  methods := ms
  attributes := attrs
def plain (name : String) (sup : Option ClassId) : Class where
  name := name
  kind := .ordinary
  loader := none
  accessFlags := 33
  super := sup
  interfaces := #[]
  cf := none
  fields := #[]
  methods := #[]
  instanceTypes := #[]
  staticTypes := #[]
  resolved := #[]
  callSites := []
  init := .initialized
  statics := none
  mirror := none

def pool0 : Array CpInfo := pool [(5, u "<init>"), (0, u "()V"), (1, .class_ 10), (1, u "java/lang/Object")] 113

def k0c0 : Code := { maxStack := 0, maxLocals := 1, code := object_method_1_code, exceptionTable := #[], attributes := #[] }
def k0m0 : Method := { name := "<init>", desc := "()V", sig := { parameters := [], returnType := none }, accessFlags := 1, code := some k0c0 }
/-- java/lang/Object -/
def k0 : Class := { plain "java/lang/Object" none with
  accessFlags := 33
  interfaces := #[]
  cf := some (fileOf pool0 8 #[] #[{ accessFlags := 1, nameIndex := 5, descriptorIndex := 6, attributes := #[] }] 33 0 #[] #[])
  fields := #[]
  methods := #[k0m0]
  instanceTypes := #[]
  staticTypes := #[]
  resolved := Array.replicate 124 none
  statics := none }

def pool1 : Array CpInfo := pool [(2, .class_ 4), (0, .nameAndType 5 6), (0, u "java/lang/Object"), (0, u "<init>"), (0, u "()V"), (0, .methodref 8 9), (0, .class_ 10), (0, .nameAndType 11 12), (0, u "java/lang/Integer"), (0, u "valueOf"), (0, u "(I)Ljava/lang/Integer;"), (0, .methodref 14 15), (0, .class_ 16), (0, .nameAndType 11 17), (0, u "java/lang/Long"), (0, u "(J)Ljava/lang/Long;"), (0, .class_ 19), (0, u "java/lang/String"), (0, .methodref 18 21), (0, .nameAndType 5 22), (0, u "([C)V"), (0, .methodref 24 25), (0, .class_ 26), (0, .nameAndType 27 28), (0, u "com/example/attache/attache/PendingKeyResolvedPinLaw"), (0, u "make"), (0, u "(II)Ljava/lang/Object;"), (0, .class_ 30), (0, u "com/example/attache/attache/PendingKey"), (0, .methodref 29 3), (0, .methodref 29 33), (0, .nameAndType 34 35), (0, u "generated"), (0, u "(Ljava/lang/Object;)V"), (0, .methodref 29 37), (0, .nameAndType 38 39), (0, u "resolved"), (0, u "(Ljava/lang/Object;)Ljava/lang/Object;"), (3, u "law"), (0, u "(IIII)Z")] 2

def k1m0 : Method := { name := "<init>", desc := "()V", sig := { parameters := [], returnType := none }, accessFlags := 1, code := none }
def k1c1 : Code := { maxStack := 4, maxLocals := 4, code := method_2_code, exceptionTable := #[], attributes := #[] }
def k1m1 : Method := { name := "make", desc := "(II)Ljava/lang/Object;", sig := { parameters := [.int, .int], returnType := some (.object "java/lang/Object") }, accessFlags := 10, code := some k1c1 }
def k1c2 : Code := { maxStack := 2, maxLocals := 9, code := code, exceptionTable := #[], attributes := #[] }
def k1m2 : Method := { name := "law", desc := "(IIII)Z", sig := { parameters := [.int, .int, .int, .int], returnType := some .boolean }, accessFlags := 9, code := some k1c2 }
/-- com/example/attache/attache/PendingKeyResolvedPinLaw -/
def k1 : Class := { plain "com/example/attache/attache/PendingKeyResolvedPinLaw" (some 0) with
  accessFlags := 49
  interfaces := #[]
  cf := some (fileOf pool1 24 #[] #[{ accessFlags := 1, nameIndex := 5, descriptorIndex := 6, attributes := #[] }, { accessFlags := 10, nameIndex := 27, descriptorIndex := 28, attributes := #[] }, { accessFlags := 9, nameIndex := 43, descriptorIndex := 44, attributes := #[] }] 49 2 #[] #[])
  fields := #[]
  methods := #[k1m0, k1m1, k1m2]
  instanceTypes := #[]
  staticTypes := #[]
  resolved := Array.replicate 47 none
  statics := none }

def pool2 : Array CpInfo := pool [(1, .class_ 2), (0, u "java/io/Serializable"), (0, .class_ 4), (0, u "java/lang/Object")] 2

/-- java/io/Serializable -/
def k2 : Class := { plain "java/io/Serializable" (some 0) with
  accessFlags := 1537
  interfaces := #[]
  cf := some (fileOf pool2 1 #[] #[] 1537 3 #[] #[])
  fields := #[]
  methods := #[]
  instanceTypes := #[]
  staticTypes := #[]
  resolved := Array.replicate 7 none
  statics := none }

def pool3 : Array CpInfo := pool [(1, .methodref 2 3), (0, .class_ 4), (0, .nameAndType 5 6), (0, u "java/lang/Object"), (0, u "<init>"), (0, u "()V"), (1, .class_ 10), (1, u "java/lang/Number"), (2, .class_ 14), (0, u "java/io/Serializable"), (0, u "serialVersionUID"), (0, u "J")] 20

def k3c0 : Code := { maxStack := 1, maxLocals := 1, code := jdk_18_method_1_code, exceptionTable := #[], attributes := #[] }
def k3m0 : Method := { name := "<init>", desc := "()V", sig := { parameters := [], returnType := none }, accessFlags := 1, code := some k3c0 }
/-- java/lang/Number -/
def k3 : Class := { plain "java/lang/Number" (some 0) with
  accessFlags := 1057
  interfaces := #[2]
  cf := some (fileOf pool3 8 #[] #[{ accessFlags := 1, nameIndex := 5, descriptorIndex := 6, attributes := #[] }] 1057 2 #[13] #[{ accessFlags := 26, nameIndex := 15, descriptorIndex := 16, attributes := #[] }])
  fields := #[{ name := "serialVersionUID", type := .long, accessFlags := 26, slot := 0, constantValue := 0 }]
  methods := #[k3m0]
  instanceTypes := #[]
  staticTypes := #[.long]
  resolved := Array.replicate 37 none
  statics := none }

def pool4 : Array CpInfo := pool [(1, .class_ 2), (0, u "java/lang/Comparable"), (0, .class_ 4), (0, u "java/lang/Object")] 7

/-- java/lang/Comparable -/
def k4 : Class := { plain "java/lang/Comparable" (some 0) with
  accessFlags := 1537
  interfaces := #[]
  cf := some (fileOf pool4 1 #[] #[] 1537 3 #[] #[])
  fields := #[]
  methods := #[]
  instanceTypes := #[]
  staticTypes := #[]
  resolved := Array.replicate 12 none
  statics := none }

def pool5 : Array CpInfo := pool [(1, .class_ 2), (0, u "java/lang/constant/Constable"), (0, .class_ 4), (0, u "java/lang/Object")] 6

/-- java/lang/constant/Constable -/
def k5 : Class := { plain "java/lang/constant/Constable" (some 0) with
  accessFlags := 1537
  interfaces := #[]
  cf := some (fileOf pool5 1 #[] #[] 1537 3 #[] #[])
  fields := #[]
  methods := #[]
  instanceTypes := #[]
  staticTypes := #[]
  resolved := Array.replicate 11 none
  statics := none }

def pool6 : Array CpInfo := pool [(1, .class_ 2), (0, u "java/lang/constant/ConstantDesc"), (0, .class_ 4), (0, u "java/lang/Object")] 32

/-- java/lang/constant/ConstantDesc -/
def k6 : Class := { plain "java/lang/constant/ConstantDesc" (some 0) with
  accessFlags := 1537
  interfaces := #[]
  cf := some (fileOf pool6 1 #[] #[] 1537 3 #[] #[])
  fields := #[]
  methods := #[]
  instanceTypes := #[]
  staticTypes := #[]
  resolved := Array.replicate 37 none
  statics := none }

def pool7 : Array CpInfo := pool [(1, .class_ 2), (0, u "java/lang/Integer"), (16, u "digits"), (0, u "[C"), (46, u "<init>"), (17, u "DigitOnes"), (0, u "[B"), (2, u "DigitTens"), (10, .nameAndType 67 101), (0, u "()V"), (85, u "valueOf"), (0, u "(I)Ljava/lang/Integer;"), (0, .class_ 190), (0, u "java/lang/Integer$IntegerCache"), (0, .fieldref 189 192), (0, .nameAndType 193 194), (0, u "high"), (0, u "I"), (0, .fieldref 189 196), (0, .nameAndType 197 198), (0, u "cache"), (0, u "[Ljava/lang/Integer;"), (0, .methodref 1 200), (0, .nameAndType 67 201), (0, u "(I)V"), (0, .methodref 203 100), (0, .class_ 204), (0, u "java/lang/Number"), (0, .fieldref 1 206), (0, .nameAndType 207 194), (0, u "value"), (94, u "TYPE"), (0, u "Ljava/lang/Class;"), (0, .class_ 305), (0, u "java/lang/Comparable"), (0, .class_ 307), (0, u "java/lang/constant/Constable"), (0, .class_ 309), (0, u "java/lang/constant/ConstantDesc"), (0, u "MIN_VALUE"), (1, u "MAX_VALUE"), (3, u "SIZE"), (1, u "BYTES"), (1, u "serialVersionUID"), (0, u "J")] 131

def k7c0 : Code := { maxStack := 3, maxLocals := 1, code := jdk_33_method_22_code, exceptionTable := #[], attributes := #[] }
def k7m0 : Method := { name := "valueOf", desc := "(I)Ljava/lang/Integer;", sig := { parameters := [.int], returnType := some (.object "java/lang/Integer") }, accessFlags := 9, code := some k7c0 }
def k7c1 : Code := { maxStack := 2, maxLocals := 2, code := jdk_33_method_23_code, exceptionTable := #[], attributes := #[] }
def k7m1 : Method := { name := "<init>", desc := "(I)V", sig := { parameters := [.int], returnType := none }, accessFlags := 1, code := some k7c1 }
/-- java/lang/Integer -/
def k7 : Class := { plain "java/lang/Integer" (some 3) with
  accessFlags := 49
  interfaces := #[4, 5, 6]
  cf := some (fileOf pool7 1 #[.nestMembers #[189]] #[{ accessFlags := 9, nameIndex := 187, descriptorIndex := 188, attributes := #[] }, { accessFlags := 1, nameIndex := 67, descriptorIndex := 201, attributes := #[] }] 49 203 #[304, 306, 308] #[{ accessFlags := 25, nameIndex := 310, descriptorIndex := 194, attributes := #[] }, { accessFlags := 25, nameIndex := 312, descriptorIndex := 194, attributes := #[] }, { accessFlags := 25, nameIndex := 302, descriptorIndex := 303, attributes := #[] }, { accessFlags := 24, nameIndex := 19, descriptorIndex := 20, attributes := #[] }, { accessFlags := 24, nameIndex := 89, descriptorIndex := 86, attributes := #[] }, { accessFlags := 24, nameIndex := 85, descriptorIndex := 86, attributes := #[] }, { accessFlags := 18, nameIndex := 207, descriptorIndex := 194, attributes := #[] }, { accessFlags := 25, nameIndex := 316, descriptorIndex := 194, attributes := #[] }, { accessFlags := 25, nameIndex := 318, descriptorIndex := 194, attributes := #[] }, { accessFlags := 26, nameIndex := 320, descriptorIndex := 321, attributes := #[] }])
  fields := #[{ name := "MIN_VALUE", type := .int, accessFlags := 25, slot := 0, constantValue := 0 }, { name := "MAX_VALUE", type := .int, accessFlags := 25, slot := 1, constantValue := 0 }, { name := "TYPE", type := (.object "java/lang/Class"), accessFlags := 25, slot := 2, constantValue := 0 }, { name := "digits", type := (.array .char), accessFlags := 24, slot := 3, constantValue := 0 }, { name := "DigitTens", type := (.array .byte), accessFlags := 24, slot := 4, constantValue := 0 }, { name := "DigitOnes", type := (.array .byte), accessFlags := 24, slot := 5, constantValue := 0 }, { name := "value", type := .int, accessFlags := 18, slot := 0, constantValue := 0 }, { name := "SIZE", type := .int, accessFlags := 25, slot := 6, constantValue := 0 }, { name := "BYTES", type := .int, accessFlags := 25, slot := 7, constantValue := 0 }, { name := "serialVersionUID", type := .long, accessFlags := 26, slot := 8, constantValue := 0 }]
  methods := #[k7m0, k7m1]
  instanceTypes := #[.int]
  staticTypes := #[.int, .int, (.object "java/lang/Class"), (.array .char), (.array .byte), (.array .byte), .int, .int, .long]
  resolved := Array.replicate 453 none
  statics := none }

def pool8 : Array CpInfo := pool [(2, .class_ 4), (1, u "java/lang/Object"), (0, u "<init>"), (0, u "()V"), (0, .class_ 8), (0, u "java/lang/Integer"), (7, .class_ 18), (1, u "java/lang/Integer$IntegerCache"), (0, u "$assertionsDisabled"), (0, u "Z"), (26, u "high"), (0, u "I"), (8, u "archivedCache"), (0, u "[Ljava/lang/Integer;"), (12, u "cache"), (0, u "low")] 27

def k8m0 : Method := { name := "<init>", desc := "()V", sig := { parameters := [], returnType := none }, accessFlags := 2, code := none }
/-- java/lang/Integer$IntegerCache -/
def k8 : Class := { plain "java/lang/Integer$IntegerCache" (some 0) with
  accessFlags := 48
  interfaces := #[]
  cf := some (fileOf pool8 16 #[.nestHost 7] #[{ accessFlags := 2, nameIndex := 5, descriptorIndex := 6, attributes := #[] }] 48 2 #[] #[{ accessFlags := 24, nameIndex := 72, descriptorIndex := 48, attributes := #[] }, { accessFlags := 24, nameIndex := 47, descriptorIndex := 48, attributes := #[] }, { accessFlags := 24, nameIndex := 71, descriptorIndex := 58, attributes := #[] }, { accessFlags := 8, nameIndex := 57, descriptorIndex := 58, attributes := #[] }, { accessFlags := 4120, nameIndex := 19, descriptorIndex := 20, attributes := #[] }])
  fields := #[{ name := "low", type := .int, accessFlags := 24, slot := 0, constantValue := 0 }, { name := "high", type := .int, accessFlags := 24, slot := 1, constantValue := 0 }, { name := "cache", type := (.array (.object "java/lang/Integer")), accessFlags := 24, slot := 2, constantValue := 0 }, { name := "archivedCache", type := (.array (.object "java/lang/Integer")), accessFlags := 8, slot := 3, constantValue := 0 }, { name := "$assertionsDisabled", type := .boolean, accessFlags := 4120, slot := 4, constantValue := 0 }]
  methods := #[k8m0]
  instanceTypes := #[]
  staticTypes := #[.int, .int, (.array (.object "java/lang/Integer")), (.array (.object "java/lang/Integer")), .boolean]
  resolved := Array.replicate 100 none
  statics := some 0 }

def pool9 : Array CpInfo := pool [(2, .class_ 4), (1, u "java/lang/CharSequence"), (42, .class_ 48), (0, u "java/lang/CharSequence$1CodePointIterator"), (10, .class_ 60), (0, u "java/lang/CharSequence$1CharIterator"), (5, .class_ 67), (0, u "java/lang/Object")] 63

/-- java/lang/CharSequence -/
def k9 : Class := { plain "java/lang/CharSequence" (some 0) with
  accessFlags := 1537
  interfaces := #[]
  cf := some (fileOf pool9 2 #[.nestMembers #[47, 59]] #[] 1537 66 #[] #[])
  fields := #[]
  methods := #[]
  instanceTypes := #[]
  staticTypes := #[]
  resolved := Array.replicate 131 none
  statics := none }

def pool10 : Array CpInfo := pool [(1, .methodref 2 3), (0, .class_ 4), (0, .nameAndType 5 6), (0, u "java/lang/Object"), (0, u "<init>"), (0, u "()V"), (2, .fieldref 10 11), (0, .class_ 12), (0, .nameAndType 13 14), (0, u "java/lang/String"), (0, u "value"), (0, u "[B"), (0, .fieldref 10 16), (0, .nameAndType 17 18), (0, u "coder"), (0, u "B"), (2, u "hash"), (0, u "I"), (2, u "hashIsZero"), (0, u "Z"), (0, .methodref 10 28), (0, .nameAndType 5 29), (0, u "([CIILjava/lang/Void;)V"), (8, .fieldref 10 39), (0, .nameAndType 40 26), (0, u "COMPACT_STRINGS"), (1, .class_ 44), (1, u "java/lang/StringUTF16"), (0, u "compress"), (1, .methodref 42 48), (0, .nameAndType 49 50), (0, u "coderFromArrayLen"), (0, u "([BI)B"), (126, .methodref 42 178), (0, .nameAndType 45 179), (0, u "([CII)[B"), (395, .class_ 576), (0, u "java/lang/CharSequence"), (22, u "CASE_INSENSITIVE_ORDER"), (0, u "Ljava/util/Comparator;"), (409, u "([C)V"), (90, u "serialPersistentFields"), (0, u "[Ljava/io/ObjectStreamField;"), (0, .class_ 1104), (0, u "java/lang/String$CaseInsensitiveComparator"), (1, .class_ 1107), (0, u "java/io/Serializable"), (0, .class_ 1109), (0, u "java/lang/Comparable"), (0, .class_ 1111), (0, u "java/lang/constant/Constable"), (0, .class_ 1113), (0, u "java/lang/constant/ConstantDesc"), (2, u "serialVersionUID"), (0, u "J"), (3, u "REPL"), (0, u "C"), (2, u "LATIN1"), (1, u "UTF16")] 323

def k10m0 : Method := { name := "<init>", desc := "()V", sig := { parameters := [], returnType := none }, accessFlags := 1, code := none }
def k10c1 : Code := { maxStack := 5, maxLocals := 2, code := jdk_42_method_3_code, exceptionTable := #[], attributes := #[] }
def k10m1 : Method := { name := "<init>", desc := "([C)V", sig := { parameters := [(.array .char)], returnType := none }, accessFlags := 1, code := some k10c1 }
def k10c2 : Code := { maxStack := 4, maxLocals := 6, code := jdk_42_method_149_code, exceptionTable := #[], attributes := #[] }
def k10m2 : Method := { name := "<init>", desc := "([CIILjava/lang/Void;)V", sig := { parameters := [(.array .char), .int, .int, (.object "java/lang/Void")], returnType := none }, accessFlags := 2, code := some k10c2 }
/-- java/lang/String -/
def k10 : Class := { plain "java/lang/String" (some 0) with
  accessFlags := 49
  interfaces := #[2, 4, 9, 5, 6]
  cf := some (fileOf pool10 10 #[.nestMembers #[1103]] #[{ accessFlags := 1, nameIndex := 5, descriptorIndex := 6, attributes := #[] }, { accessFlags := 1, nameIndex := 5, descriptorIndex := 1010, attributes := #[] }, { accessFlags := 2, nameIndex := 5, descriptorIndex := 29, attributes := #[] }] 49 2 #[1106, 1108, 575, 1110, 1112] #[{ accessFlags := 18, nameIndex := 13, descriptorIndex := 14, attributes := #[] }, { accessFlags := 18, nameIndex := 17, descriptorIndex := 18, attributes := #[] }, { accessFlags := 2, nameIndex := 21, descriptorIndex := 22, attributes := #[] }, { accessFlags := 2, nameIndex := 25, descriptorIndex := 26, attributes := #[] }, { accessFlags := 26, nameIndex := 1116, descriptorIndex := 1117, attributes := #[] }, { accessFlags := 24, nameIndex := 40, descriptorIndex := 26, attributes := #[] }, { accessFlags := 26, nameIndex := 1101, descriptorIndex := 1102, attributes := #[] }, { accessFlags := 26, nameIndex := 1121, descriptorIndex := 1122, attributes := #[] }, { accessFlags := 25, nameIndex := 599, descriptorIndex := 600, attributes := #[] }, { accessFlags := 24, nameIndex := 1125, descriptorIndex := 18, attributes := #[] }, { accessFlags := 24, nameIndex := 1127, descriptorIndex := 18, attributes := #[] }])
  fields := #[{ name := "value", type := (.array .byte), accessFlags := 18, slot := 0, constantValue := 0 }, { name := "coder", type := .byte, accessFlags := 18, slot := 1, constantValue := 0 }, { name := "hash", type := .int, accessFlags := 2, slot := 2, constantValue := 0 }, { name := "hashIsZero", type := .boolean, accessFlags := 2, slot := 3, constantValue := 0 }, { name := "serialVersionUID", type := .long, accessFlags := 26, slot := 0, constantValue := 0 }, { name := "COMPACT_STRINGS", type := .boolean, accessFlags := 24, slot := 1, constantValue := 0 }, { name := "serialPersistentFields", type := (.array (.object "java/io/ObjectStreamField")), accessFlags := 26, slot := 2, constantValue := 0 }, { name := "REPL", type := .char, accessFlags := 26, slot := 3, constantValue := 0 }, { name := "CASE_INSENSITIVE_ORDER", type := (.object "java/util/Comparator"), accessFlags := 25, slot := 4, constantValue := 0 }, { name := "LATIN1", type := .byte, accessFlags := 24, slot := 5, constantValue := 0 }, { name := "UTF16", type := .byte, accessFlags := 24, slot := 6, constantValue := 0 }]
  methods := #[k10m0, k10m1, k10m2]
  instanceTypes := #[(.array .byte), .byte, .int, .boolean]
  staticTypes := #[.long, .boolean, (.array (.object "java/io/ObjectStreamField")), .char, (.object "java/util/Comparator"), .byte, .byte]
  resolved := Array.replicate 1451 none
  statics := some 1 }

def pool11 : Array CpInfo := pool [(6, .class_ 8), (1, u "java/lang/Object"), (0, u "<init>"), (0, u "()V"), (1, .class_ 14), (1, u "java/lang/StringUTF16"), (31, u "$assertionsDisabled"), (0, u "Z"), (13, u "HI_BYTE_SHIFT"), (0, u "I"), (2, u "LO_BYTE_SHIFT"), (49, .methodref 12 116), (0, .nameAndType 117 118), (0, u "compress"), (0, u "([CI[BII)I"), (3, u "([CII)[B"), (138, u "coderFromArrayLen"), (0, u "([BI)B"), (106, .class_ 371), (1, u "java/lang/StringUTF16$LinesSpliterator"), (58, u "MAX_LENGTH"), (196, .class_ 628), (0, u "java/lang/StringUTF16$CodePointsSpliterator"), (0, .class_ 630), (0, u "java/lang/StringUTF16$CharsSpliterator")] 4

def k11m0 : Method := { name := "<init>", desc := "()V", sig := { parameters := [], returnType := none }, accessFlags := 0, code := none }
def k11c1 : Code := { maxStack := 2, maxLocals := 2, code := jdk_52_method_15_code, exceptionTable := #[], attributes := #[] }
def k11m1 : Method := { name := "coderFromArrayLen", desc := "([BI)B", sig := { parameters := [(.array .byte), .int], returnType := some .byte }, accessFlags := 8, code := some k11c1 }
def k11c2 : Code := { maxStack := 5, maxLocals := 6, code := jdk_52_method_16_code, exceptionTable := #[], attributes := #[] }
def k11m2 : Method := { name := "compress", desc := "([CII)[B", sig := { parameters := [(.array .char), .int, .int], returnType := some (.array .byte) }, accessFlags := 9, code := some k11c2 }
def k11c3 : Code := { maxStack := 3, maxLocals := 7, code := jdk_52_method_21_code, exceptionTable := #[], attributes := #[] }
def k11m3 : Method := { name := "compress", desc := "([CI[BII)I", sig := { parameters := [(.array .char), .int, (.array .byte), .int, .int], returnType := some .int }, accessFlags := 9, code := some k11c3 }
/-- java/lang/StringUTF16 -/
def k11 : Class := { plain "java/lang/StringUTF16" (some 0) with
  accessFlags := 48
  interfaces := #[]
  cf := some (fileOf pool11 12 #[.nestMembers #[627, 629, 369]] #[{ accessFlags := 0, nameIndex := 9, descriptorIndex := 10, attributes := #[] }, { accessFlags := 8, nameIndex := 261, descriptorIndex := 262, attributes := #[] }, { accessFlags := 9, nameIndex := 117, descriptorIndex := 122, attributes := #[] }, { accessFlags := 9, nameIndex := 117, descriptorIndex := 118, attributes := #[] }] 48 6 #[] #[{ accessFlags := 26, nameIndex := 61, descriptorIndex := 62, attributes := #[] }, { accessFlags := 26, nameIndex := 65, descriptorIndex := 62, attributes := #[] }, { accessFlags := 24, nameIndex := 430, descriptorIndex := 62, attributes := #[] }, { accessFlags := 4120, nameIndex := 46, descriptorIndex := 47, attributes := #[] }])
  fields := #[{ name := "HI_BYTE_SHIFT", type := .int, accessFlags := 26, slot := 0, constantValue := 0 }, { name := "LO_BYTE_SHIFT", type := .int, accessFlags := 26, slot := 1, constantValue := 0 }, { name := "MAX_LENGTH", type := .int, accessFlags := 24, slot := 2, constantValue := 0 }, { name := "$assertionsDisabled", type := .boolean, accessFlags := 4120, slot := 3, constantValue := 0 }]
  methods := #[k11m0, k11m1, k11m2, k11m3]
  instanceTypes := #[]
  staticTypes := #[.int, .int, .int, .boolean]
  resolved := Array.replicate 635 none
  statics := none }

def pool12 : Array CpInfo := pool [(1, .methodref 2 3), (0, .class_ 4), (0, .nameAndType 5 6), (0, u "java/lang/Object"), (0, u "<init>"), (0, u "()V"), (0, .fieldref 8 9), (0, .class_ 10), (0, .nameAndType 11 12), (0, u "com/example/attache/attache/PendingKey"), (0, u "generated"), (0, u "Ljava/lang/Object;"), (7, .methodref 8 21), (0, .nameAndType 11 22), (0, u "()Ljava/lang/Object;"), (7, u "resolved"), (0, u "(Ljava/lang/Object;)Ljava/lang/Object;"), (3, u "(Ljava/lang/Object;)V")] 3

def k12c0 : Code := { maxStack := 1, maxLocals := 1, code := prog_1_method_1_code, exceptionTable := #[], attributes := #[] }
def k12m0 : Method := { name := "<init>", desc := "()V", sig := { parameters := [], returnType := none }, accessFlags := 0, code := some k12c0 }
def k12c1 : Code := { maxStack := 3, maxLocals := 1, code := prog_1_method_2_code, exceptionTable := #[], attributes := #[] }
def k12m1 : Method := { name := "generated", desc := "()Ljava/lang/Object;", sig := { parameters := [], returnType := some (.object "java/lang/Object") }, accessFlags := 0, code := some k12c1 }
def k12c2 : Code := { maxStack := 2, maxLocals := 2, code := prog_1_method_3_code, exceptionTable := #[], attributes := #[] }
def k12m2 : Method := { name := "generated", desc := "(Ljava/lang/Object;)V", sig := { parameters := [(.object "java/lang/Object")], returnType := none }, accessFlags := 0, code := some k12c2 }
def k12c3 : Code := { maxStack := 1, maxLocals := 2, code := prog_1_method_4_code, exceptionTable := #[], attributes := #[] }
def k12m3 : Method := { name := "resolved", desc := "(Ljava/lang/Object;)Ljava/lang/Object;", sig := { parameters := [(.object "java/lang/Object")], returnType := some (.object "java/lang/Object") }, accessFlags := 8, code := some k12c3 }
/-- com/example/attache/attache/PendingKey -/
def k12 : Class := { plain "com/example/attache/attache/PendingKey" (some 0) with
  accessFlags := 32
  interfaces := #[]
  cf := some (fileOf pool12 8 #[] #[{ accessFlags := 0, nameIndex := 5, descriptorIndex := 6, attributes := #[] }, { accessFlags := 0, nameIndex := 11, descriptorIndex := 22, attributes := #[] }, { accessFlags := 0, nameIndex := 11, descriptorIndex := 35, attributes := #[] }, { accessFlags := 8, nameIndex := 30, descriptorIndex := 31, attributes := #[] }] 32 2 #[] #[{ accessFlags := 2, nameIndex := 11, descriptorIndex := 12, attributes := #[] }])
  fields := #[{ name := "generated", type := (.object "java/lang/Object"), accessFlags := 2, slot := 0, constantValue := 0 }]
  methods := #[k12m0, k12m1, k12m2, k12m3]
  instanceTypes := #[(.object "java/lang/Object")]
  staticTypes := #[]
  resolved := Array.replicate 39 none
  statics := none }

def pool13 : Array CpInfo := pool [(1, .class_ 2), (0, u "java/lang/Long"), (55, .nameAndType 59 60), (0, u "<init>"), (0, u "()V"), (24, u "valueOf"), (143, u "(J)Ljava/lang/Long;"), (0, .long 18446744073709551488), (1, .long 127), (1, .fieldref 235 236), (0, .class_ 237), (0, .nameAndType 238 239), (0, u "java/lang/Long$LongCache"), (0, u "cache"), (0, u "[Ljava/lang/Long;"), (0, .methodref 1 241), (0, .nameAndType 59 242), (0, u "(J)V"), (27, .methodref 271 58), (0, .class_ 272), (0, u "java/lang/Number"), (0, .fieldref 1 274), (0, .nameAndType 275 276), (0, u "value"), (0, u "J"), (84, u "TYPE"), (0, u "Ljava/lang/Class;"), (0, .class_ 364), (0, u "java/lang/Comparable"), (0, .class_ 366), (0, u "java/lang/constant/Constable"), (0, .class_ 368), (0, u "java/lang/constant/ConstantDesc"), (0, u "MIN_VALUE"), (1, u "MAX_VALUE"), (4, u "SIZE"), (0, u "I"), (1, u "BYTES"), (1, u "serialVersionUID")] 142

def k13c0 : Code := { maxStack := 4, maxLocals := 3, code := jdk_35_method_24_code, exceptionTable := #[], attributes := #[] }
def k13m0 : Method := { name := "valueOf", desc := "(J)Ljava/lang/Long;", sig := { parameters := [.long], returnType := some (.object "java/lang/Long") }, accessFlags := 9, code := some k13c0 }
def k13c1 : Code := { maxStack := 3, maxLocals := 3, code := jdk_35_method_26_code, exceptionTable := #[], attributes := #[] }
def k13m1 : Method := { name := "<init>", desc := "(J)V", sig := { parameters := [.long], returnType := none }, accessFlags := 1, code := some k13c1 }
/-- java/lang/Long -/
def k13 : Class := { plain "java/lang/Long" (some 3) with
  accessFlags := 49
  interfaces := #[4, 5, 6]
  cf := some (fileOf pool13 1 #[.nestMembers #[235]] #[{ accessFlags := 9, nameIndex := 85, descriptorIndex := 229, attributes := #[] }, { accessFlags := 1, nameIndex := 59, descriptorIndex := 242, attributes := #[] }] 49 271 #[363, 365, 367] #[{ accessFlags := 25, nameIndex := 369, descriptorIndex := 276, attributes := #[] }, { accessFlags := 25, nameIndex := 371, descriptorIndex := 276, attributes := #[] }, { accessFlags := 25, nameIndex := 361, descriptorIndex := 362, attributes := #[] }, { accessFlags := 18, nameIndex := 275, descriptorIndex := 276, attributes := #[] }, { accessFlags := 25, nameIndex := 376, descriptorIndex := 377, attributes := #[] }, { accessFlags := 25, nameIndex := 379, descriptorIndex := 377, attributes := #[] }, { accessFlags := 26, nameIndex := 381, descriptorIndex := 276, attributes := #[] }])
  fields := #[{ name := "MIN_VALUE", type := .long, accessFlags := 25, slot := 0, constantValue := 0 }, { name := "MAX_VALUE", type := .long, accessFlags := 25, slot := 1, constantValue := 0 }, { name := "TYPE", type := (.object "java/lang/Class"), accessFlags := 25, slot := 2, constantValue := 0 }, { name := "value", type := .long, accessFlags := 18, slot := 0, constantValue := 0 }, { name := "SIZE", type := .int, accessFlags := 25, slot := 3, constantValue := 0 }, { name := "BYTES", type := .int, accessFlags := 25, slot := 4, constantValue := 0 }, { name := "serialVersionUID", type := .long, accessFlags := 26, slot := 5, constantValue := 0 }]
  methods := #[k13m0, k13m1]
  instanceTypes := #[.long]
  staticTypes := #[.long, .long, (.object "java/lang/Class"), .int, .int, .long]
  resolved := Array.replicate 524 none
  statics := none }

def pool14 : Array CpInfo := pool [(2, .class_ 4), (1, u "java/lang/Object"), (0, u "<init>"), (0, u "()V"), (0, .class_ 8), (0, u "java/lang/Long"), (7, .class_ 18), (1, u "java/lang/Long$LongCache"), (0, u "$assertionsDisabled"), (0, u "Z"), (8, u "archivedCache"), (0, u "[Ljava/lang/Long;"), (7, u "cache")] 24

def k14m0 : Method := { name := "<init>", desc := "()V", sig := { parameters := [], returnType := none }, accessFlags := 2, code := none }
/-- java/lang/Long$LongCache -/
def k14 : Class := { plain "java/lang/Long$LongCache" (some 0) with
  accessFlags := 48
  interfaces := #[]
  cf := some (fileOf pool14 16 #[.nestHost 7] #[{ accessFlags := 2, nameIndex := 5, descriptorIndex := 6, attributes := #[] }] 48 2 #[] #[{ accessFlags := 24, nameIndex := 38, descriptorIndex := 30, attributes := #[] }, { accessFlags := 8, nameIndex := 29, descriptorIndex := 30, attributes := #[] }, { accessFlags := 4120, nameIndex := 19, descriptorIndex := 20, attributes := #[] }])
  fields := #[{ name := "cache", type := (.array (.object "java/lang/Long")), accessFlags := 24, slot := 0, constantValue := 0 }, { name := "archivedCache", type := (.array (.object "java/lang/Long")), accessFlags := 8, slot := 1, constantValue := 0 }, { name := "$assertionsDisabled", type := .boolean, accessFlags := 4120, slot := 2, constantValue := 0 }]
  methods := #[k14m0]
  instanceTypes := #[]
  staticTypes := #[(.array (.object "java/lang/Long")), (.array (.object "java/lang/Long")), .boolean]
  resolved := Array.replicate 63 none
  statics := some 2 }

def pool15 : Array CpInfo := pool [(4, .class_ 6), (1, u "java/lang/Object"), (0, u "<init>"), (0, u "()V"), (5, .class_ 16), (1, u "java/lang/StringLatin1"), (104, u "$assertionsDisabled"), (0, u "Z"), (98, .class_ 223), (1, u "java/lang/StringLatin1$LinesSpliterator"), (166, .class_ 391), (0, u "java/lang/StringLatin1$CharsSpliterator")] 3

def k15m0 : Method := { name := "<init>", desc := "()V", sig := { parameters := [], returnType := none }, accessFlags := 0, code := none }
/-- java/lang/StringLatin1 -/
def k15 : Class := { plain "java/lang/StringLatin1" (some 0) with
  accessFlags := 48
  interfaces := #[]
  cf := some (fileOf pool15 14 #[.nestMembers #[390, 221]] #[{ accessFlags := 0, nameIndex := 7, descriptorIndex := 8, attributes := #[] }] 48 4 #[] #[{ accessFlags := 4120, nameIndex := 121, descriptorIndex := 122, attributes := #[] }])
  fields := #[{ name := "$assertionsDisabled", type := .boolean, accessFlags := 4120, slot := 0, constantValue := 0 }]
  methods := #[k15m0]
  instanceTypes := #[]
  staticTypes := #[.boolean]
  resolved := Array.replicate 395 none
  statics := none }

def pool16 : Array CpInfo := pool [(2, .class_ 4), (1, u "java/lang/Object"), (0, u "<init>"), (0, u "()V"), (17, .class_ 26), (1, u "jdk/internal/util/Preconditions"), (28, .class_ 56), (0, u "jdk/internal/util/Preconditions$4"), (57, .class_ 115), (0, u "jdk/internal/util/Preconditions$1"), (7, u "SIOOBE_FORMATTER"), (0, u "Ljava/util/function/BiFunction;"), (0, .class_ 126), (0, u "jdk/internal/util/Preconditions$2"), (3, u "AIOOBE_FORMATTER"), (0, .class_ 132), (0, u "jdk/internal/util/Preconditions$3"), (3, u "IOOBE_FORMATTER")] 57

def k16m0 : Method := { name := "<init>", desc := "()V", sig := { parameters := [], returnType := none }, accessFlags := 1, code := none }
/-- jdk/internal/util/Preconditions -/
def k16 : Class := { plain "jdk/internal/util/Preconditions" (some 0) with
  accessFlags := 33
  interfaces := #[]
  cf := some (fileOf pool16 24 #[.nestMembers #[55, 131, 125, 114]] #[{ accessFlags := 1, nameIndex := 5, descriptorIndex := 6, attributes := #[] }] 33 2 #[] #[{ accessFlags := 25, nameIndex := 123, descriptorIndex := 124, attributes := #[] }, { accessFlags := 25, nameIndex := 130, descriptorIndex := 124, attributes := #[] }, { accessFlags := 25, nameIndex := 136, descriptorIndex := 124, attributes := #[] }])
  fields := #[{ name := "SIOOBE_FORMATTER", type := (.object "java/util/function/BiFunction"), accessFlags := 25, slot := 0, constantValue := 0 }, { name := "AIOOBE_FORMATTER", type := (.object "java/util/function/BiFunction"), accessFlags := 25, slot := 1, constantValue := 0 }, { name := "IOOBE_FORMATTER", type := (.object "java/util/function/BiFunction"), accessFlags := 25, slot := 2, constantValue := 0 }]
  methods := #[k16m0]
  instanceTypes := #[]
  staticTypes := #[(.object "java/util/function/BiFunction"), (.object "java/util/function/BiFunction"), (.object "java/util/function/BiFunction")]
  resolved := Array.replicate 194 none
  statics := some 3 }

def pool17 : Array CpInfo := pool [(9, u "<init>"), (6, .class_ 18), (1, u "java/lang/Object"), (0, u "()V"), (1, .class_ 23), (1, u "jdk/internal/util/ArraysSupport"), (0, u "LOG2_ARRAY_LONG_INDEX_SCALE"), (0, u "I"), (2, u "U"), (0, u "Ljdk/internal/misc/Unsafe;"), (8, u "BIG_ENDIAN"), (0, u "Z"), (8, u "LOG2_BYTE_BIT_SIZE"), (4, u "LOG2_ARRAY_INT_INDEX_SCALE"), (54, u "JLA"), (0, u "Ljdk/internal/access/JavaLangAccess;"), (11, u "LOG2_ARRAY_BOOLEAN_INDEX_SCALE"), (9, u "LOG2_ARRAY_BYTE_INDEX_SCALE"), (5, u "LOG2_ARRAY_CHAR_INDEX_SCALE"), (5, u "LOG2_ARRAY_SHORT_INDEX_SCALE"), (18, u "LOG2_ARRAY_FLOAT_INDEX_SCALE"), (24, u "LOG2_ARRAY_DOUBLE_INDEX_SCALE"), (89, u "T_BOOLEAN"), (2, u "T_CHAR"), (1, u "T_FLOAT"), (1, u "T_DOUBLE"), (1, u "T_BYTE"), (1, u "T_SHORT"), (1, u "T_INT"), (1, u "T_LONG"), (1, u "SOFT_MAX_ARRAY_LENGTH")] 83

def k17m0 : Method := { name := "<init>", desc := "()V", sig := { parameters := [], returnType := none }, accessFlags := 2, code := none }
/-- jdk/internal/util/ArraysSupport -/
def k17 : Class := { plain "jdk/internal/util/ArraysSupport" (some 0) with
  accessFlags := 33
  interfaces := #[]
  cf := some (fileOf pool17 21 #[] #[{ accessFlags := 2, nameIndex := 9, descriptorIndex := 19, attributes := #[] }] 33 16 #[] #[{ accessFlags := 24, nameIndex := 28, descriptorIndex := 29, attributes := #[] }, { accessFlags := 26, nameIndex := 38, descriptorIndex := 39, attributes := #[] }, { accessFlags := 25, nameIndex := 121, descriptorIndex := 25, attributes := #[] }, { accessFlags := 25, nameIndex := 131, descriptorIndex := 25, attributes := #[] }, { accessFlags := 25, nameIndex := 137, descriptorIndex := 25, attributes := #[] }, { accessFlags := 25, nameIndex := 143, descriptorIndex := 25, attributes := #[] }, { accessFlags := 25, nameIndex := 53, descriptorIndex := 25, attributes := #[] }, { accessFlags := 25, nameIndex := 24, descriptorIndex := 25, attributes := #[] }, { accessFlags := 25, nameIndex := 162, descriptorIndex := 25, attributes := #[] }, { accessFlags := 25, nameIndex := 187, descriptorIndex := 25, attributes := #[] }, { accessFlags := 26, nameIndex := 48, descriptorIndex := 25, attributes := #[] }, { accessFlags := 25, nameIndex := 277, descriptorIndex := 25, attributes := #[] }, { accessFlags := 25, nameIndex := 280, descriptorIndex := 25, attributes := #[] }, { accessFlags := 25, nameIndex := 282, descriptorIndex := 25, attributes := #[] }, { accessFlags := 25, nameIndex := 284, descriptorIndex := 25, attributes := #[] }, { accessFlags := 25, nameIndex := 286, descriptorIndex := 25, attributes := #[] }, { accessFlags := 25, nameIndex := 288, descriptorIndex := 25, attributes := #[] }, { accessFlags := 25, nameIndex := 290, descriptorIndex := 25, attributes := #[] }, { accessFlags := 25, nameIndex := 292, descriptorIndex := 25, attributes := #[] }, { accessFlags := 26, nameIndex := 108, descriptorIndex := 109, attributes := #[] }, { accessFlags := 25, nameIndex := 294, descriptorIndex := 25, attributes := #[] }])
  fields := #[{ name := "U", type := (.object "jdk/internal/misc/Unsafe"), accessFlags := 24, slot := 0, constantValue := 0 }, { name := "BIG_ENDIAN", type := .boolean, accessFlags := 26, slot := 1, constantValue := 0 }, { name := "LOG2_ARRAY_BOOLEAN_INDEX_SCALE", type := .int, accessFlags := 25, slot := 2, constantValue := 0 }, { name := "LOG2_ARRAY_BYTE_INDEX_SCALE", type := .int, accessFlags := 25, slot := 3, constantValue := 0 }, { name := "LOG2_ARRAY_CHAR_INDEX_SCALE", type := .int, accessFlags := 25, slot := 4, constantValue := 0 }, { name := "LOG2_ARRAY_SHORT_INDEX_SCALE", type := .int, accessFlags := 25, slot := 5, constantValue := 0 }, { name := "LOG2_ARRAY_INT_INDEX_SCALE", type := .int, accessFlags := 25, slot := 6, constantValue := 0 }, { name := "LOG2_ARRAY_LONG_INDEX_SCALE", type := .int, accessFlags := 25, slot := 7, constantValue := 0 }, { name := "LOG2_ARRAY_FLOAT_INDEX_SCALE", type := .int, accessFlags := 25, slot := 8, constantValue := 0 }, { name := "LOG2_ARRAY_DOUBLE_INDEX_SCALE", type := .int, accessFlags := 25, slot := 9, constantValue := 0 }, { name := "LOG2_BYTE_BIT_SIZE", type := .int, accessFlags := 26, slot := 10, constantValue := 0 }, { name := "T_BOOLEAN", type := .int, accessFlags := 25, slot := 11, constantValue := 0 }, { name := "T_CHAR", type := .int, accessFlags := 25, slot := 12, constantValue := 0 }, { name := "T_FLOAT", type := .int, accessFlags := 25, slot := 13, constantValue := 0 }, { name := "T_DOUBLE", type := .int, accessFlags := 25, slot := 14, constantValue := 0 }, { name := "T_BYTE", type := .int, accessFlags := 25, slot := 15, constantValue := 0 }, { name := "T_SHORT", type := .int, accessFlags := 25, slot := 16, constantValue := 0 }, { name := "T_INT", type := .int, accessFlags := 25, slot := 17, constantValue := 0 }, { name := "T_LONG", type := .int, accessFlags := 25, slot := 18, constantValue := 0 }, { name := "JLA", type := (.object "jdk/internal/access/JavaLangAccess"), accessFlags := 26, slot := 19, constantValue := 0 }, { name := "SOFT_MAX_ARRAY_LENGTH", type := .int, accessFlags := 25, slot := 20, constantValue := 0 }]
  methods := #[k17m0]
  instanceTypes := #[]
  staticTypes := #[(.object "jdk/internal/misc/Unsafe"), .boolean, .int, .int, .int, .int, .int, .int, .int, .int, .int, .int, .int, .int, .int, .int, .int, .int, .int, (.object "jdk/internal/access/JavaLangAccess"), .int]
  resolved := Array.replicate 378 none
  statics := none }

def pool18 : Array CpInfo := pool [(1, u "java/lang/Cloneable"), (0, .class_ 1), (0, u "java/lang/Object"), (0, .class_ 3)] 3

/-- java/lang/Cloneable -/
def k18 : Class := { plain "java/lang/Cloneable" (some 0) with
  accessFlags := 1537
  interfaces := #[]
  cf := some (fileOf pool18 2 #[] #[] 1537 4 #[] #[])
  fields := #[]
  methods := #[]
  instanceTypes := #[]
  staticTypes := #[]
  resolved := Array.replicate 8 none
  statics := none }

/-- the primitive byte -/
def k19 : Class := { plain "byte" none with kind := .primitive 'B', accessFlags := 0x411 }
/-- [B -/
def k20 : Class := { plain "[B" (some 0) with kind := .array 19 .byte, interfaces := #[18, 2], accessFlags := 1041 }

/-- the primitive char -/
def k21 : Class := { plain "char" none with kind := .primitive 'C', accessFlags := 0x411 }
/-- [C -/
def k22 : Class := { plain "[C" (some 0) with kind := .array 21 .char, interfaces := #[18, 2], accessFlags := 1041 }

/-- the primitive int -/
def k23 : Class := { plain "int" none with kind := .primitive 'I', accessFlags := 0x411 }
/-- [I -/
def k24 : Class := { plain "[I" (some 0) with kind := .array 23 .int, interfaces := #[18, 2], accessFlags := 1041 }

/-- [Ljava/lang/Integer; -/
def k25 : Class := { plain "[Ljava/lang/Integer;" (some 0) with kind := .array 7 (.object "java/lang/Integer"), interfaces := #[18, 2], accessFlags := 1041 }

/-- [Ljava/lang/Long; -/
def k26 : Class := { plain "[Ljava/lang/Long;" (some 0) with kind := .array 13 (.object "java/lang/Long"), interfaces := #[18, 2], accessFlags := 1041 }

def heap : Heap := #[{ cls := 8, slots := #[.int 0, .int 127, .ref 4, .null, .int 0], vm := .statics 8 },
  { cls := 10, slots := #[.long 0, .int 1, .null, .int 0, .null, .int 0, .int 0], vm := .statics 10 },
  { cls := 14, slots := #[.ref 5, .null, .int 0], vm := .statics 14 },
  { cls := 16, slots := #[.null, .null, .null], vm := .statics 16 },
  { cls := 25, slots := #[.ref 6, .ref 7, .ref 8, .ref 9, .ref 10, .ref 11, .ref 12, .ref 13, .ref 14, .ref 15, .ref 16, .ref 17, .ref 18, .ref 19, .ref 20, .ref 21, .ref 22, .ref 23, .ref 24, .ref 25, .ref 26, .ref 27, .ref 28, .ref 29, .ref 30, .ref 31, .ref 32, .ref 33, .ref 34, .ref 35, .ref 36, .ref 37, .ref 38, .ref 39, .ref 40, .ref 41, .ref 42, .ref 43, .ref 44, .ref 45, .ref 46, .ref 47, .ref 48, .ref 49, .ref 50, .ref 51, .ref 52, .ref 53, .ref 54, .ref 55, .ref 56, .ref 57, .ref 58, .ref 59, .ref 60, .ref 61, .ref 62, .ref 63, .ref 64, .ref 65, .ref 66, .ref 67, .ref 68, .ref 69, .ref 70, .ref 71, .ref 72, .ref 73, .ref 74, .ref 75, .ref 76, .ref 77, .ref 78, .ref 79, .ref 80, .ref 81, .ref 82, .ref 83, .ref 84, .ref 85, .ref 86, .ref 87, .ref 88, .ref 89, .ref 90, .ref 91, .ref 92, .ref 93, .ref 94, .ref 95, .ref 96, .ref 97, .ref 98, .ref 99, .ref 100, .ref 101, .ref 102, .ref 103, .ref 104, .ref 105, .ref 106, .ref 107, .ref 108, .ref 109, .ref 110, .ref 111, .ref 112, .ref 113, .ref 114, .ref 115, .ref 116, .ref 117, .ref 118, .ref 119, .ref 120, .ref 121, .ref 122, .ref 123, .ref 124, .ref 125, .ref 126, .ref 127, .ref 128, .ref 129, .ref 130, .ref 131, .ref 132, .ref 133, .ref 134, .ref 135, .ref 136, .ref 137, .ref 138, .ref 139, .ref 140, .ref 141, .ref 142, .ref 143, .ref 144, .ref 145, .ref 146, .ref 147, .ref 148, .ref 149, .ref 150, .ref 151, .ref 152, .ref 153, .ref 154, .ref 155, .ref 156, .ref 157, .ref 158, .ref 159, .ref 160, .ref 161, .ref 162, .ref 163, .ref 164, .ref 165, .ref 166, .ref 167, .ref 168, .ref 169, .ref 170, .ref 171, .ref 172, .ref 173, .ref 174, .ref 175, .ref 176, .ref 177, .ref 178, .ref 179, .ref 180, .ref 181, .ref 182, .ref 183, .ref 184, .ref 185, .ref 186, .ref 187, .ref 188, .ref 189, .ref 190, .ref 191, .ref 192, .ref 193, .ref 194, .ref 195, .ref 196, .ref 197, .ref 198, .ref 199, .ref 200, .ref 201, .ref 202, .ref 203, .ref 204, .ref 205, .ref 206, .ref 207, .ref 208, .ref 209, .ref 210, .ref 211, .ref 212, .ref 213, .ref 214, .ref 215, .ref 216, .ref 217, .ref 218, .ref 219, .ref 220, .ref 221, .ref 222, .ref 223, .ref 224, .ref 225, .ref 226, .ref 227, .ref 228, .ref 229, .ref 230, .ref 231, .ref 232, .ref 233, .ref 234, .ref 235, .ref 236, .ref 237, .ref 238, .ref 239, .ref 240, .ref 241, .ref 242, .ref 243, .ref 244, .ref 245, .ref 246, .ref 247, .ref 248, .ref 249, .ref 250, .ref 251, .ref 252, .ref 253, .ref 254, .ref 255, .ref 256, .ref 257, .ref 258, .ref 259, .ref 260, .ref 261], vm := .none },
  { cls := 26, slots := #[.ref 262, .ref 263, .ref 264, .ref 265, .ref 266, .ref 267, .ref 268, .ref 269, .ref 270, .ref 271, .ref 272, .ref 273, .ref 274, .ref 275, .ref 276, .ref 277, .ref 278, .ref 279, .ref 280, .ref 281, .ref 282, .ref 283, .ref 284, .ref 285, .ref 286, .ref 287, .ref 288, .ref 289, .ref 290, .ref 291, .ref 292, .ref 293, .ref 294, .ref 295, .ref 296, .ref 297, .ref 298, .ref 299, .ref 300, .ref 301, .ref 302, .ref 303, .ref 304, .ref 305, .ref 306, .ref 307, .ref 308, .ref 309, .ref 310, .ref 311, .ref 312, .ref 313, .ref 314, .ref 315, .ref 316, .ref 317, .ref 318, .ref 319, .ref 320, .ref 321, .ref 322, .ref 323, .ref 324, .ref 325, .ref 326, .ref 327, .ref 328, .ref 329, .ref 330, .ref 331, .ref 332, .ref 333, .ref 334, .ref 335, .ref 336, .ref 337, .ref 338, .ref 339, .ref 340, .ref 341, .ref 342, .ref 343, .ref 344, .ref 345, .ref 346, .ref 347, .ref 348, .ref 349, .ref 350, .ref 351, .ref 352, .ref 353, .ref 354, .ref 355, .ref 356, .ref 357, .ref 358, .ref 359, .ref 360, .ref 361, .ref 362, .ref 363, .ref 364, .ref 365, .ref 366, .ref 367, .ref 368, .ref 369, .ref 370, .ref 371, .ref 372, .ref 373, .ref 374, .ref 375, .ref 376, .ref 377, .ref 378, .ref 379, .ref 380, .ref 381, .ref 382, .ref 383, .ref 384, .ref 385, .ref 386, .ref 387, .ref 388, .ref 389, .ref 390, .ref 391, .ref 392, .ref 393, .ref 394, .ref 395, .ref 396, .ref 397, .ref 398, .ref 399, .ref 400, .ref 401, .ref 402, .ref 403, .ref 404, .ref 405, .ref 406, .ref 407, .ref 408, .ref 409, .ref 410, .ref 411, .ref 412, .ref 413, .ref 414, .ref 415, .ref 416, .ref 417, .ref 418, .ref 419, .ref 420, .ref 421, .ref 422, .ref 423, .ref 424, .ref 425, .ref 426, .ref 427, .ref 428, .ref 429, .ref 430, .ref 431, .ref 432, .ref 433, .ref 434, .ref 435, .ref 436, .ref 437, .ref 438, .ref 439, .ref 440, .ref 441, .ref 442, .ref 443, .ref 444, .ref 445, .ref 446, .ref 447, .ref 448, .ref 449, .ref 450, .ref 451, .ref 452, .ref 453, .ref 454, .ref 455, .ref 456, .ref 457, .ref 458, .ref 459, .ref 460, .ref 461, .ref 462, .ref 463, .ref 464, .ref 465, .ref 466, .ref 467, .ref 468, .ref 469, .ref 470, .ref 471, .ref 472, .ref 473, .ref 474, .ref 475, .ref 476, .ref 477, .ref 478, .ref 479, .ref 480, .ref 481, .ref 482, .ref 483, .ref 484, .ref 485, .ref 486, .ref 487, .ref 488, .ref 489, .ref 490, .ref 491, .ref 492, .ref 493, .ref 494, .ref 495, .ref 496, .ref 497, .ref 498, .ref 499, .ref 500, .ref 501, .ref 502, .ref 503, .ref 504, .ref 505, .ref 506, .ref 507, .ref 508, .ref 509, .ref 510, .ref 511, .ref 512, .ref 513, .ref 514, .ref 515, .ref 516, .ref 517], vm := .none },
  { cls := 7, slots := #[.int (-128)], vm := .none },
  { cls := 7, slots := #[.int (-127)], vm := .none },
  { cls := 7, slots := #[.int (-126)], vm := .none },
  { cls := 7, slots := #[.int (-125)], vm := .none },
  { cls := 7, slots := #[.int (-124)], vm := .none },
  { cls := 7, slots := #[.int (-123)], vm := .none },
  { cls := 7, slots := #[.int (-122)], vm := .none },
  { cls := 7, slots := #[.int (-121)], vm := .none },
  { cls := 7, slots := #[.int (-120)], vm := .none },
  { cls := 7, slots := #[.int (-119)], vm := .none },
  { cls := 7, slots := #[.int (-118)], vm := .none },
  { cls := 7, slots := #[.int (-117)], vm := .none },
  { cls := 7, slots := #[.int (-116)], vm := .none },
  { cls := 7, slots := #[.int (-115)], vm := .none },
  { cls := 7, slots := #[.int (-114)], vm := .none },
  { cls := 7, slots := #[.int (-113)], vm := .none },
  { cls := 7, slots := #[.int (-112)], vm := .none },
  { cls := 7, slots := #[.int (-111)], vm := .none },
  { cls := 7, slots := #[.int (-110)], vm := .none },
  { cls := 7, slots := #[.int (-109)], vm := .none },
  { cls := 7, slots := #[.int (-108)], vm := .none },
  { cls := 7, slots := #[.int (-107)], vm := .none },
  { cls := 7, slots := #[.int (-106)], vm := .none },
  { cls := 7, slots := #[.int (-105)], vm := .none },
  { cls := 7, slots := #[.int (-104)], vm := .none },
  { cls := 7, slots := #[.int (-103)], vm := .none },
  { cls := 7, slots := #[.int (-102)], vm := .none },
  { cls := 7, slots := #[.int (-101)], vm := .none },
  { cls := 7, slots := #[.int (-100)], vm := .none },
  { cls := 7, slots := #[.int (-99)], vm := .none },
  { cls := 7, slots := #[.int (-98)], vm := .none },
  { cls := 7, slots := #[.int (-97)], vm := .none },
  { cls := 7, slots := #[.int (-96)], vm := .none },
  { cls := 7, slots := #[.int (-95)], vm := .none },
  { cls := 7, slots := #[.int (-94)], vm := .none },
  { cls := 7, slots := #[.int (-93)], vm := .none },
  { cls := 7, slots := #[.int (-92)], vm := .none },
  { cls := 7, slots := #[.int (-91)], vm := .none },
  { cls := 7, slots := #[.int (-90)], vm := .none },
  { cls := 7, slots := #[.int (-89)], vm := .none },
  { cls := 7, slots := #[.int (-88)], vm := .none },
  { cls := 7, slots := #[.int (-87)], vm := .none },
  { cls := 7, slots := #[.int (-86)], vm := .none },
  { cls := 7, slots := #[.int (-85)], vm := .none },
  { cls := 7, slots := #[.int (-84)], vm := .none },
  { cls := 7, slots := #[.int (-83)], vm := .none },
  { cls := 7, slots := #[.int (-82)], vm := .none },
  { cls := 7, slots := #[.int (-81)], vm := .none },
  { cls := 7, slots := #[.int (-80)], vm := .none },
  { cls := 7, slots := #[.int (-79)], vm := .none },
  { cls := 7, slots := #[.int (-78)], vm := .none },
  { cls := 7, slots := #[.int (-77)], vm := .none },
  { cls := 7, slots := #[.int (-76)], vm := .none },
  { cls := 7, slots := #[.int (-75)], vm := .none },
  { cls := 7, slots := #[.int (-74)], vm := .none },
  { cls := 7, slots := #[.int (-73)], vm := .none },
  { cls := 7, slots := #[.int (-72)], vm := .none },
  { cls := 7, slots := #[.int (-71)], vm := .none },
  { cls := 7, slots := #[.int (-70)], vm := .none },
  { cls := 7, slots := #[.int (-69)], vm := .none },
  { cls := 7, slots := #[.int (-68)], vm := .none },
  { cls := 7, slots := #[.int (-67)], vm := .none },
  { cls := 7, slots := #[.int (-66)], vm := .none },
  { cls := 7, slots := #[.int (-65)], vm := .none },
  { cls := 7, slots := #[.int (-64)], vm := .none },
  { cls := 7, slots := #[.int (-63)], vm := .none },
  { cls := 7, slots := #[.int (-62)], vm := .none },
  { cls := 7, slots := #[.int (-61)], vm := .none },
  { cls := 7, slots := #[.int (-60)], vm := .none },
  { cls := 7, slots := #[.int (-59)], vm := .none },
  { cls := 7, slots := #[.int (-58)], vm := .none },
  { cls := 7, slots := #[.int (-57)], vm := .none },
  { cls := 7, slots := #[.int (-56)], vm := .none },
  { cls := 7, slots := #[.int (-55)], vm := .none },
  { cls := 7, slots := #[.int (-54)], vm := .none },
  { cls := 7, slots := #[.int (-53)], vm := .none },
  { cls := 7, slots := #[.int (-52)], vm := .none },
  { cls := 7, slots := #[.int (-51)], vm := .none },
  { cls := 7, slots := #[.int (-50)], vm := .none },
  { cls := 7, slots := #[.int (-49)], vm := .none },
  { cls := 7, slots := #[.int (-48)], vm := .none },
  { cls := 7, slots := #[.int (-47)], vm := .none },
  { cls := 7, slots := #[.int (-46)], vm := .none },
  { cls := 7, slots := #[.int (-45)], vm := .none },
  { cls := 7, slots := #[.int (-44)], vm := .none },
  { cls := 7, slots := #[.int (-43)], vm := .none },
  { cls := 7, slots := #[.int (-42)], vm := .none },
  { cls := 7, slots := #[.int (-41)], vm := .none },
  { cls := 7, slots := #[.int (-40)], vm := .none },
  { cls := 7, slots := #[.int (-39)], vm := .none },
  { cls := 7, slots := #[.int (-38)], vm := .none },
  { cls := 7, slots := #[.int (-37)], vm := .none },
  { cls := 7, slots := #[.int (-36)], vm := .none },
  { cls := 7, slots := #[.int (-35)], vm := .none },
  { cls := 7, slots := #[.int (-34)], vm := .none },
  { cls := 7, slots := #[.int (-33)], vm := .none },
  { cls := 7, slots := #[.int (-32)], vm := .none },
  { cls := 7, slots := #[.int (-31)], vm := .none },
  { cls := 7, slots := #[.int (-30)], vm := .none },
  { cls := 7, slots := #[.int (-29)], vm := .none },
  { cls := 7, slots := #[.int (-28)], vm := .none },
  { cls := 7, slots := #[.int (-27)], vm := .none },
  { cls := 7, slots := #[.int (-26)], vm := .none },
  { cls := 7, slots := #[.int (-25)], vm := .none },
  { cls := 7, slots := #[.int (-24)], vm := .none },
  { cls := 7, slots := #[.int (-23)], vm := .none },
  { cls := 7, slots := #[.int (-22)], vm := .none },
  { cls := 7, slots := #[.int (-21)], vm := .none },
  { cls := 7, slots := #[.int (-20)], vm := .none },
  { cls := 7, slots := #[.int (-19)], vm := .none },
  { cls := 7, slots := #[.int (-18)], vm := .none },
  { cls := 7, slots := #[.int (-17)], vm := .none },
  { cls := 7, slots := #[.int (-16)], vm := .none },
  { cls := 7, slots := #[.int (-15)], vm := .none },
  { cls := 7, slots := #[.int (-14)], vm := .none },
  { cls := 7, slots := #[.int (-13)], vm := .none },
  { cls := 7, slots := #[.int (-12)], vm := .none },
  { cls := 7, slots := #[.int (-11)], vm := .none },
  { cls := 7, slots := #[.int (-10)], vm := .none },
  { cls := 7, slots := #[.int (-9)], vm := .none },
  { cls := 7, slots := #[.int (-8)], vm := .none },
  { cls := 7, slots := #[.int (-7)], vm := .none },
  { cls := 7, slots := #[.int (-6)], vm := .none },
  { cls := 7, slots := #[.int (-5)], vm := .none },
  { cls := 7, slots := #[.int (-4)], vm := .none },
  { cls := 7, slots := #[.int (-3)], vm := .none },
  { cls := 7, slots := #[.int (-2)], vm := .none },
  { cls := 7, slots := #[.int (-1)], vm := .none },
  { cls := 7, slots := #[.int 0], vm := .none },
  { cls := 7, slots := #[.int 1], vm := .none },
  { cls := 7, slots := #[.int 2], vm := .none },
  { cls := 7, slots := #[.int 3], vm := .none },
  { cls := 7, slots := #[.int 4], vm := .none },
  { cls := 7, slots := #[.int 5], vm := .none },
  { cls := 7, slots := #[.int 6], vm := .none },
  { cls := 7, slots := #[.int 7], vm := .none },
  { cls := 7, slots := #[.int 8], vm := .none },
  { cls := 7, slots := #[.int 9], vm := .none },
  { cls := 7, slots := #[.int 10], vm := .none },
  { cls := 7, slots := #[.int 11], vm := .none },
  { cls := 7, slots := #[.int 12], vm := .none },
  { cls := 7, slots := #[.int 13], vm := .none },
  { cls := 7, slots := #[.int 14], vm := .none },
  { cls := 7, slots := #[.int 15], vm := .none },
  { cls := 7, slots := #[.int 16], vm := .none },
  { cls := 7, slots := #[.int 17], vm := .none },
  { cls := 7, slots := #[.int 18], vm := .none },
  { cls := 7, slots := #[.int 19], vm := .none },
  { cls := 7, slots := #[.int 20], vm := .none },
  { cls := 7, slots := #[.int 21], vm := .none },
  { cls := 7, slots := #[.int 22], vm := .none },
  { cls := 7, slots := #[.int 23], vm := .none },
  { cls := 7, slots := #[.int 24], vm := .none },
  { cls := 7, slots := #[.int 25], vm := .none },
  { cls := 7, slots := #[.int 26], vm := .none },
  { cls := 7, slots := #[.int 27], vm := .none },
  { cls := 7, slots := #[.int 28], vm := .none },
  { cls := 7, slots := #[.int 29], vm := .none },
  { cls := 7, slots := #[.int 30], vm := .none },
  { cls := 7, slots := #[.int 31], vm := .none },
  { cls := 7, slots := #[.int 32], vm := .none },
  { cls := 7, slots := #[.int 33], vm := .none },
  { cls := 7, slots := #[.int 34], vm := .none },
  { cls := 7, slots := #[.int 35], vm := .none },
  { cls := 7, slots := #[.int 36], vm := .none },
  { cls := 7, slots := #[.int 37], vm := .none },
  { cls := 7, slots := #[.int 38], vm := .none },
  { cls := 7, slots := #[.int 39], vm := .none },
  { cls := 7, slots := #[.int 40], vm := .none },
  { cls := 7, slots := #[.int 41], vm := .none },
  { cls := 7, slots := #[.int 42], vm := .none },
  { cls := 7, slots := #[.int 43], vm := .none },
  { cls := 7, slots := #[.int 44], vm := .none },
  { cls := 7, slots := #[.int 45], vm := .none },
  { cls := 7, slots := #[.int 46], vm := .none },
  { cls := 7, slots := #[.int 47], vm := .none },
  { cls := 7, slots := #[.int 48], vm := .none },
  { cls := 7, slots := #[.int 49], vm := .none },
  { cls := 7, slots := #[.int 50], vm := .none },
  { cls := 7, slots := #[.int 51], vm := .none },
  { cls := 7, slots := #[.int 52], vm := .none },
  { cls := 7, slots := #[.int 53], vm := .none },
  { cls := 7, slots := #[.int 54], vm := .none },
  { cls := 7, slots := #[.int 55], vm := .none },
  { cls := 7, slots := #[.int 56], vm := .none },
  { cls := 7, slots := #[.int 57], vm := .none },
  { cls := 7, slots := #[.int 58], vm := .none },
  { cls := 7, slots := #[.int 59], vm := .none },
  { cls := 7, slots := #[.int 60], vm := .none },
  { cls := 7, slots := #[.int 61], vm := .none },
  { cls := 7, slots := #[.int 62], vm := .none },
  { cls := 7, slots := #[.int 63], vm := .none },
  { cls := 7, slots := #[.int 64], vm := .none },
  { cls := 7, slots := #[.int 65], vm := .none },
  { cls := 7, slots := #[.int 66], vm := .none },
  { cls := 7, slots := #[.int 67], vm := .none },
  { cls := 7, slots := #[.int 68], vm := .none },
  { cls := 7, slots := #[.int 69], vm := .none },
  { cls := 7, slots := #[.int 70], vm := .none },
  { cls := 7, slots := #[.int 71], vm := .none },
  { cls := 7, slots := #[.int 72], vm := .none },
  { cls := 7, slots := #[.int 73], vm := .none },
  { cls := 7, slots := #[.int 74], vm := .none },
  { cls := 7, slots := #[.int 75], vm := .none },
  { cls := 7, slots := #[.int 76], vm := .none },
  { cls := 7, slots := #[.int 77], vm := .none },
  { cls := 7, slots := #[.int 78], vm := .none },
  { cls := 7, slots := #[.int 79], vm := .none },
  { cls := 7, slots := #[.int 80], vm := .none },
  { cls := 7, slots := #[.int 81], vm := .none },
  { cls := 7, slots := #[.int 82], vm := .none },
  { cls := 7, slots := #[.int 83], vm := .none },
  { cls := 7, slots := #[.int 84], vm := .none },
  { cls := 7, slots := #[.int 85], vm := .none },
  { cls := 7, slots := #[.int 86], vm := .none },
  { cls := 7, slots := #[.int 87], vm := .none },
  { cls := 7, slots := #[.int 88], vm := .none },
  { cls := 7, slots := #[.int 89], vm := .none },
  { cls := 7, slots := #[.int 90], vm := .none },
  { cls := 7, slots := #[.int 91], vm := .none },
  { cls := 7, slots := #[.int 92], vm := .none },
  { cls := 7, slots := #[.int 93], vm := .none },
  { cls := 7, slots := #[.int 94], vm := .none },
  { cls := 7, slots := #[.int 95], vm := .none },
  { cls := 7, slots := #[.int 96], vm := .none },
  { cls := 7, slots := #[.int 97], vm := .none },
  { cls := 7, slots := #[.int 98], vm := .none },
  { cls := 7, slots := #[.int 99], vm := .none },
  { cls := 7, slots := #[.int 100], vm := .none },
  { cls := 7, slots := #[.int 101], vm := .none },
  { cls := 7, slots := #[.int 102], vm := .none },
  { cls := 7, slots := #[.int 103], vm := .none },
  { cls := 7, slots := #[.int 104], vm := .none },
  { cls := 7, slots := #[.int 105], vm := .none },
  { cls := 7, slots := #[.int 106], vm := .none },
  { cls := 7, slots := #[.int 107], vm := .none },
  { cls := 7, slots := #[.int 108], vm := .none },
  { cls := 7, slots := #[.int 109], vm := .none },
  { cls := 7, slots := #[.int 110], vm := .none },
  { cls := 7, slots := #[.int 111], vm := .none },
  { cls := 7, slots := #[.int 112], vm := .none },
  { cls := 7, slots := #[.int 113], vm := .none },
  { cls := 7, slots := #[.int 114], vm := .none },
  { cls := 7, slots := #[.int 115], vm := .none },
  { cls := 7, slots := #[.int 116], vm := .none },
  { cls := 7, slots := #[.int 117], vm := .none },
  { cls := 7, slots := #[.int 118], vm := .none },
  { cls := 7, slots := #[.int 119], vm := .none },
  { cls := 7, slots := #[.int 120], vm := .none },
  { cls := 7, slots := #[.int 121], vm := .none },
  { cls := 7, slots := #[.int 122], vm := .none },
  { cls := 7, slots := #[.int 123], vm := .none },
  { cls := 7, slots := #[.int 124], vm := .none },
  { cls := 7, slots := #[.int 125], vm := .none },
  { cls := 7, slots := #[.int 126], vm := .none },
  { cls := 7, slots := #[.int 127], vm := .none },
  { cls := 13, slots := #[.long (-128)], vm := .none },
  { cls := 13, slots := #[.long (-127)], vm := .none },
  { cls := 13, slots := #[.long (-126)], vm := .none },
  { cls := 13, slots := #[.long (-125)], vm := .none },
  { cls := 13, slots := #[.long (-124)], vm := .none },
  { cls := 13, slots := #[.long (-123)], vm := .none },
  { cls := 13, slots := #[.long (-122)], vm := .none },
  { cls := 13, slots := #[.long (-121)], vm := .none },
  { cls := 13, slots := #[.long (-120)], vm := .none },
  { cls := 13, slots := #[.long (-119)], vm := .none },
  { cls := 13, slots := #[.long (-118)], vm := .none },
  { cls := 13, slots := #[.long (-117)], vm := .none },
  { cls := 13, slots := #[.long (-116)], vm := .none },
  { cls := 13, slots := #[.long (-115)], vm := .none },
  { cls := 13, slots := #[.long (-114)], vm := .none },
  { cls := 13, slots := #[.long (-113)], vm := .none },
  { cls := 13, slots := #[.long (-112)], vm := .none },
  { cls := 13, slots := #[.long (-111)], vm := .none },
  { cls := 13, slots := #[.long (-110)], vm := .none },
  { cls := 13, slots := #[.long (-109)], vm := .none },
  { cls := 13, slots := #[.long (-108)], vm := .none },
  { cls := 13, slots := #[.long (-107)], vm := .none },
  { cls := 13, slots := #[.long (-106)], vm := .none },
  { cls := 13, slots := #[.long (-105)], vm := .none },
  { cls := 13, slots := #[.long (-104)], vm := .none },
  { cls := 13, slots := #[.long (-103)], vm := .none },
  { cls := 13, slots := #[.long (-102)], vm := .none },
  { cls := 13, slots := #[.long (-101)], vm := .none },
  { cls := 13, slots := #[.long (-100)], vm := .none },
  { cls := 13, slots := #[.long (-99)], vm := .none },
  { cls := 13, slots := #[.long (-98)], vm := .none },
  { cls := 13, slots := #[.long (-97)], vm := .none },
  { cls := 13, slots := #[.long (-96)], vm := .none },
  { cls := 13, slots := #[.long (-95)], vm := .none },
  { cls := 13, slots := #[.long (-94)], vm := .none },
  { cls := 13, slots := #[.long (-93)], vm := .none },
  { cls := 13, slots := #[.long (-92)], vm := .none },
  { cls := 13, slots := #[.long (-91)], vm := .none },
  { cls := 13, slots := #[.long (-90)], vm := .none },
  { cls := 13, slots := #[.long (-89)], vm := .none },
  { cls := 13, slots := #[.long (-88)], vm := .none },
  { cls := 13, slots := #[.long (-87)], vm := .none },
  { cls := 13, slots := #[.long (-86)], vm := .none },
  { cls := 13, slots := #[.long (-85)], vm := .none },
  { cls := 13, slots := #[.long (-84)], vm := .none },
  { cls := 13, slots := #[.long (-83)], vm := .none },
  { cls := 13, slots := #[.long (-82)], vm := .none },
  { cls := 13, slots := #[.long (-81)], vm := .none },
  { cls := 13, slots := #[.long (-80)], vm := .none },
  { cls := 13, slots := #[.long (-79)], vm := .none },
  { cls := 13, slots := #[.long (-78)], vm := .none },
  { cls := 13, slots := #[.long (-77)], vm := .none },
  { cls := 13, slots := #[.long (-76)], vm := .none },
  { cls := 13, slots := #[.long (-75)], vm := .none },
  { cls := 13, slots := #[.long (-74)], vm := .none },
  { cls := 13, slots := #[.long (-73)], vm := .none },
  { cls := 13, slots := #[.long (-72)], vm := .none },
  { cls := 13, slots := #[.long (-71)], vm := .none },
  { cls := 13, slots := #[.long (-70)], vm := .none },
  { cls := 13, slots := #[.long (-69)], vm := .none },
  { cls := 13, slots := #[.long (-68)], vm := .none },
  { cls := 13, slots := #[.long (-67)], vm := .none },
  { cls := 13, slots := #[.long (-66)], vm := .none },
  { cls := 13, slots := #[.long (-65)], vm := .none },
  { cls := 13, slots := #[.long (-64)], vm := .none },
  { cls := 13, slots := #[.long (-63)], vm := .none },
  { cls := 13, slots := #[.long (-62)], vm := .none },
  { cls := 13, slots := #[.long (-61)], vm := .none },
  { cls := 13, slots := #[.long (-60)], vm := .none },
  { cls := 13, slots := #[.long (-59)], vm := .none },
  { cls := 13, slots := #[.long (-58)], vm := .none },
  { cls := 13, slots := #[.long (-57)], vm := .none },
  { cls := 13, slots := #[.long (-56)], vm := .none },
  { cls := 13, slots := #[.long (-55)], vm := .none },
  { cls := 13, slots := #[.long (-54)], vm := .none },
  { cls := 13, slots := #[.long (-53)], vm := .none },
  { cls := 13, slots := #[.long (-52)], vm := .none },
  { cls := 13, slots := #[.long (-51)], vm := .none },
  { cls := 13, slots := #[.long (-50)], vm := .none },
  { cls := 13, slots := #[.long (-49)], vm := .none },
  { cls := 13, slots := #[.long (-48)], vm := .none },
  { cls := 13, slots := #[.long (-47)], vm := .none },
  { cls := 13, slots := #[.long (-46)], vm := .none },
  { cls := 13, slots := #[.long (-45)], vm := .none },
  { cls := 13, slots := #[.long (-44)], vm := .none },
  { cls := 13, slots := #[.long (-43)], vm := .none },
  { cls := 13, slots := #[.long (-42)], vm := .none },
  { cls := 13, slots := #[.long (-41)], vm := .none },
  { cls := 13, slots := #[.long (-40)], vm := .none },
  { cls := 13, slots := #[.long (-39)], vm := .none },
  { cls := 13, slots := #[.long (-38)], vm := .none },
  { cls := 13, slots := #[.long (-37)], vm := .none },
  { cls := 13, slots := #[.long (-36)], vm := .none },
  { cls := 13, slots := #[.long (-35)], vm := .none },
  { cls := 13, slots := #[.long (-34)], vm := .none },
  { cls := 13, slots := #[.long (-33)], vm := .none },
  { cls := 13, slots := #[.long (-32)], vm := .none },
  { cls := 13, slots := #[.long (-31)], vm := .none },
  { cls := 13, slots := #[.long (-30)], vm := .none },
  { cls := 13, slots := #[.long (-29)], vm := .none },
  { cls := 13, slots := #[.long (-28)], vm := .none },
  { cls := 13, slots := #[.long (-27)], vm := .none },
  { cls := 13, slots := #[.long (-26)], vm := .none },
  { cls := 13, slots := #[.long (-25)], vm := .none },
  { cls := 13, slots := #[.long (-24)], vm := .none },
  { cls := 13, slots := #[.long (-23)], vm := .none },
  { cls := 13, slots := #[.long (-22)], vm := .none },
  { cls := 13, slots := #[.long (-21)], vm := .none },
  { cls := 13, slots := #[.long (-20)], vm := .none },
  { cls := 13, slots := #[.long (-19)], vm := .none },
  { cls := 13, slots := #[.long (-18)], vm := .none },
  { cls := 13, slots := #[.long (-17)], vm := .none },
  { cls := 13, slots := #[.long (-16)], vm := .none },
  { cls := 13, slots := #[.long (-15)], vm := .none },
  { cls := 13, slots := #[.long (-14)], vm := .none },
  { cls := 13, slots := #[.long (-13)], vm := .none },
  { cls := 13, slots := #[.long (-12)], vm := .none },
  { cls := 13, slots := #[.long (-11)], vm := .none },
  { cls := 13, slots := #[.long (-10)], vm := .none },
  { cls := 13, slots := #[.long (-9)], vm := .none },
  { cls := 13, slots := #[.long (-8)], vm := .none },
  { cls := 13, slots := #[.long (-7)], vm := .none },
  { cls := 13, slots := #[.long (-6)], vm := .none },
  { cls := 13, slots := #[.long (-5)], vm := .none },
  { cls := 13, slots := #[.long (-4)], vm := .none },
  { cls := 13, slots := #[.long (-3)], vm := .none },
  { cls := 13, slots := #[.long (-2)], vm := .none },
  { cls := 13, slots := #[.long (-1)], vm := .none },
  { cls := 13, slots := #[.long 0], vm := .none },
  { cls := 13, slots := #[.long 1], vm := .none },
  { cls := 13, slots := #[.long 2], vm := .none },
  { cls := 13, slots := #[.long 3], vm := .none },
  { cls := 13, slots := #[.long 4], vm := .none },
  { cls := 13, slots := #[.long 5], vm := .none },
  { cls := 13, slots := #[.long 6], vm := .none },
  { cls := 13, slots := #[.long 7], vm := .none },
  { cls := 13, slots := #[.long 8], vm := .none },
  { cls := 13, slots := #[.long 9], vm := .none },
  { cls := 13, slots := #[.long 10], vm := .none },
  { cls := 13, slots := #[.long 11], vm := .none },
  { cls := 13, slots := #[.long 12], vm := .none },
  { cls := 13, slots := #[.long 13], vm := .none },
  { cls := 13, slots := #[.long 14], vm := .none },
  { cls := 13, slots := #[.long 15], vm := .none },
  { cls := 13, slots := #[.long 16], vm := .none },
  { cls := 13, slots := #[.long 17], vm := .none },
  { cls := 13, slots := #[.long 18], vm := .none },
  { cls := 13, slots := #[.long 19], vm := .none },
  { cls := 13, slots := #[.long 20], vm := .none },
  { cls := 13, slots := #[.long 21], vm := .none },
  { cls := 13, slots := #[.long 22], vm := .none },
  { cls := 13, slots := #[.long 23], vm := .none },
  { cls := 13, slots := #[.long 24], vm := .none },
  { cls := 13, slots := #[.long 25], vm := .none },
  { cls := 13, slots := #[.long 26], vm := .none },
  { cls := 13, slots := #[.long 27], vm := .none },
  { cls := 13, slots := #[.long 28], vm := .none },
  { cls := 13, slots := #[.long 29], vm := .none },
  { cls := 13, slots := #[.long 30], vm := .none },
  { cls := 13, slots := #[.long 31], vm := .none },
  { cls := 13, slots := #[.long 32], vm := .none },
  { cls := 13, slots := #[.long 33], vm := .none },
  { cls := 13, slots := #[.long 34], vm := .none },
  { cls := 13, slots := #[.long 35], vm := .none },
  { cls := 13, slots := #[.long 36], vm := .none },
  { cls := 13, slots := #[.long 37], vm := .none },
  { cls := 13, slots := #[.long 38], vm := .none },
  { cls := 13, slots := #[.long 39], vm := .none },
  { cls := 13, slots := #[.long 40], vm := .none },
  { cls := 13, slots := #[.long 41], vm := .none },
  { cls := 13, slots := #[.long 42], vm := .none },
  { cls := 13, slots := #[.long 43], vm := .none },
  { cls := 13, slots := #[.long 44], vm := .none },
  { cls := 13, slots := #[.long 45], vm := .none },
  { cls := 13, slots := #[.long 46], vm := .none },
  { cls := 13, slots := #[.long 47], vm := .none },
  { cls := 13, slots := #[.long 48], vm := .none },
  { cls := 13, slots := #[.long 49], vm := .none },
  { cls := 13, slots := #[.long 50], vm := .none },
  { cls := 13, slots := #[.long 51], vm := .none },
  { cls := 13, slots := #[.long 52], vm := .none },
  { cls := 13, slots := #[.long 53], vm := .none },
  { cls := 13, slots := #[.long 54], vm := .none },
  { cls := 13, slots := #[.long 55], vm := .none },
  { cls := 13, slots := #[.long 56], vm := .none },
  { cls := 13, slots := #[.long 57], vm := .none },
  { cls := 13, slots := #[.long 58], vm := .none },
  { cls := 13, slots := #[.long 59], vm := .none },
  { cls := 13, slots := #[.long 60], vm := .none },
  { cls := 13, slots := #[.long 61], vm := .none },
  { cls := 13, slots := #[.long 62], vm := .none },
  { cls := 13, slots := #[.long 63], vm := .none },
  { cls := 13, slots := #[.long 64], vm := .none },
  { cls := 13, slots := #[.long 65], vm := .none },
  { cls := 13, slots := #[.long 66], vm := .none },
  { cls := 13, slots := #[.long 67], vm := .none },
  { cls := 13, slots := #[.long 68], vm := .none },
  { cls := 13, slots := #[.long 69], vm := .none },
  { cls := 13, slots := #[.long 70], vm := .none },
  { cls := 13, slots := #[.long 71], vm := .none },
  { cls := 13, slots := #[.long 72], vm := .none },
  { cls := 13, slots := #[.long 73], vm := .none },
  { cls := 13, slots := #[.long 74], vm := .none },
  { cls := 13, slots := #[.long 75], vm := .none },
  { cls := 13, slots := #[.long 76], vm := .none },
  { cls := 13, slots := #[.long 77], vm := .none },
  { cls := 13, slots := #[.long 78], vm := .none },
  { cls := 13, slots := #[.long 79], vm := .none },
  { cls := 13, slots := #[.long 80], vm := .none },
  { cls := 13, slots := #[.long 81], vm := .none },
  { cls := 13, slots := #[.long 82], vm := .none },
  { cls := 13, slots := #[.long 83], vm := .none },
  { cls := 13, slots := #[.long 84], vm := .none },
  { cls := 13, slots := #[.long 85], vm := .none },
  { cls := 13, slots := #[.long 86], vm := .none },
  { cls := 13, slots := #[.long 87], vm := .none },
  { cls := 13, slots := #[.long 88], vm := .none },
  { cls := 13, slots := #[.long 89], vm := .none },
  { cls := 13, slots := #[.long 90], vm := .none },
  { cls := 13, slots := #[.long 91], vm := .none },
  { cls := 13, slots := #[.long 92], vm := .none },
  { cls := 13, slots := #[.long 93], vm := .none },
  { cls := 13, slots := #[.long 94], vm := .none },
  { cls := 13, slots := #[.long 95], vm := .none },
  { cls := 13, slots := #[.long 96], vm := .none },
  { cls := 13, slots := #[.long 97], vm := .none },
  { cls := 13, slots := #[.long 98], vm := .none },
  { cls := 13, slots := #[.long 99], vm := .none },
  { cls := 13, slots := #[.long 100], vm := .none },
  { cls := 13, slots := #[.long 101], vm := .none },
  { cls := 13, slots := #[.long 102], vm := .none },
  { cls := 13, slots := #[.long 103], vm := .none },
  { cls := 13, slots := #[.long 104], vm := .none },
  { cls := 13, slots := #[.long 105], vm := .none },
  { cls := 13, slots := #[.long 106], vm := .none },
  { cls := 13, slots := #[.long 107], vm := .none },
  { cls := 13, slots := #[.long 108], vm := .none },
  { cls := 13, slots := #[.long 109], vm := .none },
  { cls := 13, slots := #[.long 110], vm := .none },
  { cls := 13, slots := #[.long 111], vm := .none },
  { cls := 13, slots := #[.long 112], vm := .none },
  { cls := 13, slots := #[.long 113], vm := .none },
  { cls := 13, slots := #[.long 114], vm := .none },
  { cls := 13, slots := #[.long 115], vm := .none },
  { cls := 13, slots := #[.long 116], vm := .none },
  { cls := 13, slots := #[.long 117], vm := .none },
  { cls := 13, slots := #[.long 118], vm := .none },
  { cls := 13, slots := #[.long 119], vm := .none },
  { cls := 13, slots := #[.long 120], vm := .none },
  { cls := 13, slots := #[.long 121], vm := .none },
  { cls := 13, slots := #[.long 122], vm := .none },
  { cls := 13, slots := #[.long 123], vm := .none },
  { cls := 13, slots := #[.long 124], vm := .none },
  { cls := 13, slots := #[.long 125], vm := .none },
  { cls := 13, slots := #[.long 126], vm := .none },
  { cls := 13, slots := #[.long 127], vm := .none }]
def classes : Array Class := #[k0, k1, k2, k3, k4, k5, k6, k7, k8, k9, k10, k11, k12, k13, k14, k15, k16, k17, k18, k19, k20, k21, k22, k23, k24, k25, k26]
def interned : List (Array UInt16 × Addr) := []
def slotsUsed : Nat := 1042
def theMethod : MethodId := ⟨1, 2⟩
def args0 : Array Value := #[.int 0, .int 7, .int 1, .int 3]
def aboutOver (below : List Frame) : State where
  vm := { classes := classes, interned := interned.toArray }
  heap := heap
  slotsUsed := slotsUsed
  threads := #[{ frames := .invoking theMethod args0 :: below }]
def below0 : List Frame := [.native { method := ⟨0, 0⟩, args := #[] }]
def about1 : State := aboutOver below0
def p0 : Program := .bare "" "" ""
def e0 : Env := launch0.env 0 0 0
theorem w_frames : about1.frames = Frame.invoking theMethod args0 :: below0 := rfl
set_option maxRecDepth 65536 in
theorem w_args : argsFit about1.vm theMethod args0 = true := by decide +kernel
set_option maxRecDepth 65536 in
theorem w_heap : heapFits about1 = true := by decide +kernel
set_option maxRecDepth 65536 in
theorem w_runnable : about1.curStatus? = some .runnable := by decide +kernel
set_option maxRecDepth 65536 in
theorem w_alone : about1.alone = true := by decide +kernel
set_option maxRecDepth 65536 in
theorem w_named : about1.methodNamed? x = some theMethod := by decide +kernel
set_option maxRecDepth 65536 in
theorem w_hears : about1.hears theMethod below0 = true := by decide +kernel
set_option maxRecDepth 65536 in
theorem w_ripe : about1.ripe theMethod args0 below0 = true := by decide +kernel
theorem w_running : about1.status = .running := rfl
set_option maxRecDepth 65536 in
theorem w_room : about1.hasRoom e0.platform room_1 = true :=
  launch0.hasRoom_least _ room_1 (by decide +kernel) (by decide +kernel) (by decide +kernel) (by decide +kernel) (by decide +kernel) (by decide +kernel)
theorem allAtoms_all (ts : List Jvm.Cond) (a : Array Jvm.Value) (st : Jvm.State) : (allAtoms ts).before a st = ts.all (fun c => c.before a st) := by
  induction ts with
  | nil => rfl
  | cons c t ih =>
    show (Jvm.Cond.and c (allAtoms t)).before a st = _
    rw [Jvm.Cond.before_and, ih, List.all_cons]
def words1 : List Jvm.Cond := Jvm.Cond.code x code maxLocals ret :: tables_1
/-- a 'code' word, met by the world's own term for the bytes: nothing is compared byte by byte -/
theorem code_word {y : MethodName} {bytes : ByteArray} {mx : Nat} {rt : Option FieldType} {a : Array Value} {s : State} {m : MethodId} {meth : Method} {c : Code} (h1 : s.methodNamed? y = some m) (h2 : s.vm.method? m = some meth) (h3 : meth.code = some c) (h4 : c.code = bytes)
    (h5 : (c.maxLocals == mx && c.exceptionTable.isEmpty && decide (c.maxStack ≤ mostOperands) && decide (meth.sig.returnType = rt) && !meth.locks && decide (parseMethodDescriptor y.desc = some meth.sig)) = true) : (Jvm.Cond.code y bytes mx rt).before a s = true := by
  simp only [Bool.and_eq_true, beq_iff_eq, Bool.not_eq_true', decide_eq_true_eq] at h5
  obtain ⟨⟨⟨⟨⟨g1, g2⟩, g3⟩, g4⟩, g5⟩, g6⟩ := h5
  simp [Cond.before, Cond.holds, Cond.value, h1, h2, h3, h4, g1, g2, g3, g4, g5, g6]
def isCode : Jvm.Cond → Bool
  | .code _ _ _ _ => true
  | _ => false
theorem all_split {L : List Jvm.Cond} {P : Jvm.Cond → Bool} (h1 : L.all (fun c => isCode c || P c) = true) (h2 : ∀ c ∈ L.filter isCode, P c = true) : L.all P = true := by
  refine List.all_eq_true.mpr fun c hc => ?_
  have h := List.all_eq_true.mp h1 c hc
  rcases Bool.eq_false_or_eq_true (isCode c) with hi | hi
  · exact h2 c (List.mem_filter.mpr ⟨hc, hi⟩)
  · simpa [hi] using h
set_option maxRecDepth 65536 in
theorem w_c0 : (Jvm.Cond.code x code maxLocals ret).before args0 about1 = true := code_word (m := ⟨1, 2⟩) (meth := k1m2) (c := k1c2) (by decide +kernel) rfl rfl rfl (by decide +kernel)
set_option maxRecDepth 65536 in
theorem w_c1 : (Jvm.Cond.code ({ cls := "com/example/attache/attache/PendingKeyResolvedPinLaw", name := "make", desc := "(II)Ljava/lang/Object;" } : Jvm.MethodName) method_2_code (4 : Nat) (Option.some (Jvm.ClassFile.FieldType.object "java/lang/Object"))).before args0 about1 = true := code_word (m := ⟨1, 1⟩) (meth := k1m1) (c := k1c1) (by decide +kernel) rfl rfl rfl (by decide +kernel)
set_option maxRecDepth 65536 in
theorem w_c2 : (Jvm.Cond.code ({ cls := "java/lang/Integer", name := "valueOf", desc := "(I)Ljava/lang/Integer;" } : Jvm.MethodName) jdk_33_method_22_code (1 : Nat) (Option.some (Jvm.ClassFile.FieldType.object "java/lang/Integer"))).before args0 about1 = true := code_word (m := ⟨7, 0⟩) (meth := k7m0) (c := k7c0) (by decide +kernel) rfl rfl rfl (by decide +kernel)
set_option maxRecDepth 65536 in
theorem w_c3 : (Jvm.Cond.code ({ cls := "java/lang/String", name := "<init>", desc := "([C)V" } : Jvm.MethodName) jdk_42_method_3_code (2 : Nat) (Option.none : Option Jvm.ClassFile.FieldType)).before args0 about1 = true := code_word (m := ⟨10, 1⟩) (meth := k10m1) (c := k10c1) (by decide +kernel) rfl rfl rfl (by decide +kernel)
set_option maxRecDepth 65536 in
theorem w_c4 : (Jvm.Cond.code ({ cls := "java/lang/String", name := "<init>", desc := "([CIILjava/lang/Void;)V" } : Jvm.MethodName) jdk_42_method_149_code (6 : Nat) (Option.none : Option Jvm.ClassFile.FieldType)).before args0 about1 = true := code_word (m := ⟨10, 2⟩) (meth := k10m2) (c := k10c2) (by decide +kernel) rfl rfl rfl (by decide +kernel)
set_option maxRecDepth 65536 in
theorem w_c5 : (Jvm.Cond.code ({ cls := "java/lang/Object", name := "<init>", desc := "()V" } : Jvm.MethodName) object_method_1_code (1 : Nat) (Option.none : Option Jvm.ClassFile.FieldType)).before args0 about1 = true := code_word (m := ⟨0, 0⟩) (meth := k0m0) (c := k0c0) (by decide +kernel) rfl rfl rfl (by decide +kernel)
set_option maxRecDepth 65536 in
theorem w_c6 : (Jvm.Cond.code ({ cls := "java/lang/StringUTF16", name := "compress", desc := "([CII)[B" } : Jvm.MethodName) jdk_52_method_16_code (6 : Nat) (Option.some (Jvm.ClassFile.FieldType.array Jvm.ClassFile.FieldType.byte))).before args0 about1 = true := code_word (m := ⟨11, 2⟩) (meth := k11m2) (c := k11c2) (by decide +kernel) rfl rfl rfl (by decide +kernel)
set_option maxRecDepth 65536 in
theorem w_c7 : (Jvm.Cond.code ({ cls := "java/lang/StringUTF16", name := "compress", desc := "([CI[BII)I" } : Jvm.MethodName) jdk_52_method_21_code (7 : Nat) (Option.some Jvm.ClassFile.FieldType.int)).before args0 about1 = true := code_word (m := ⟨11, 3⟩) (meth := k11m3) (c := k11c3) (by decide +kernel) rfl rfl rfl (by decide +kernel)
set_option maxRecDepth 65536 in
theorem w_c8 : (Jvm.Cond.code ({ cls := "java/lang/StringUTF16", name := "coderFromArrayLen", desc := "([BI)B" } : Jvm.MethodName) jdk_52_method_15_code (2 : Nat) (Option.some Jvm.ClassFile.FieldType.byte)).before args0 about1 = true := code_word (m := ⟨11, 1⟩) (meth := k11m1) (c := k11c1) (by decide +kernel) rfl rfl rfl (by decide +kernel)
set_option maxRecDepth 65536 in
theorem w_c9 : (Jvm.Cond.code ({ cls := "com/example/attache/attache/PendingKey", name := "<init>", desc := "()V" } : Jvm.MethodName) prog_1_method_1_code (1 : Nat) (Option.none : Option Jvm.ClassFile.FieldType)).before args0 about1 = true := code_word (m := ⟨12, 0⟩) (meth := k12m0) (c := k12c0) (by decide +kernel) rfl rfl rfl (by decide +kernel)
set_option maxRecDepth 65536 in
theorem w_c10 : (Jvm.Cond.code ({ cls := "com/example/attache/attache/PendingKey", name := "generated", desc := "(Ljava/lang/Object;)V" } : Jvm.MethodName) prog_1_method_3_code (2 : Nat) (Option.none : Option Jvm.ClassFile.FieldType)).before args0 about1 = true := code_word (m := ⟨12, 2⟩) (meth := k12m2) (c := k12c2) (by decide +kernel) rfl rfl rfl (by decide +kernel)
set_option maxRecDepth 65536 in
theorem w_c11 : (Jvm.Cond.code ({ cls := "com/example/attache/attache/PendingKey", name := "resolved", desc := "(Ljava/lang/Object;)Ljava/lang/Object;" } : Jvm.MethodName) prog_1_method_4_code (2 : Nat) (Option.some (Jvm.ClassFile.FieldType.object "java/lang/Object"))).before args0 about1 = true := code_word (m := ⟨12, 3⟩) (meth := k12m3) (c := k12c3) (by decide +kernel) rfl rfl rfl (by decide +kernel)
set_option maxRecDepth 65536 in
theorem w_c12 : (Jvm.Cond.code ({ cls := "com/example/attache/attache/PendingKey", name := "generated", desc := "()Ljava/lang/Object;" } : Jvm.MethodName) prog_1_method_2_code (1 : Nat) (Option.some (Jvm.ClassFile.FieldType.object "java/lang/Object"))).before args0 about1 = true := code_word (m := ⟨12, 1⟩) (meth := k12m1) (c := k12c1) (by decide +kernel) rfl rfl rfl (by decide +kernel)
set_option maxRecDepth 65536 in
theorem w_c13 : (Jvm.Cond.code ({ cls := "java/lang/Integer", name := "<init>", desc := "(I)V" } : Jvm.MethodName) jdk_33_method_23_code (2 : Nat) (Option.none : Option Jvm.ClassFile.FieldType)).before args0 about1 = true := code_word (m := ⟨7, 1⟩) (meth := k7m1) (c := k7c1) (by decide +kernel) rfl rfl rfl (by decide +kernel)
set_option maxRecDepth 65536 in
theorem w_c14 : (Jvm.Cond.code ({ cls := "java/lang/Number", name := "<init>", desc := "()V" } : Jvm.MethodName) jdk_18_method_1_code (1 : Nat) (Option.none : Option Jvm.ClassFile.FieldType)).before args0 about1 = true := code_word (m := ⟨3, 0⟩) (meth := k3m0) (c := k3c0) (by decide +kernel) rfl rfl rfl (by decide +kernel)
set_option maxRecDepth 65536 in
theorem w_c15 : (Jvm.Cond.code ({ cls := "java/lang/Long", name := "valueOf", desc := "(J)Ljava/lang/Long;" } : Jvm.MethodName) jdk_35_method_24_code (3 : Nat) (Option.some (Jvm.ClassFile.FieldType.object "java/lang/Long"))).before args0 about1 = true := code_word (m := ⟨13, 0⟩) (meth := k13m0) (c := k13c0) (by decide +kernel) rfl rfl rfl (by decide +kernel)
set_option maxRecDepth 65536 in
theorem w_c16 : (Jvm.Cond.code ({ cls := "java/lang/Long", name := "<init>", desc := "(J)V" } : Jvm.MethodName) jdk_35_method_26_code (3 : Nat) (Option.none : Option Jvm.ClassFile.FieldType)).before args0 about1 = true := code_word (m := ⟨13, 1⟩) (meth := k13m1) (c := k13c1) (by decide +kernel) rfl rfl rfl (by decide +kernel)
def codes1 : List Jvm.Cond := [Jvm.Cond.code x code maxLocals ret, Jvm.Cond.code ({ cls := "com/example/attache/attache/PendingKeyResolvedPinLaw", name := "make", desc := "(II)Ljava/lang/Object;" } : Jvm.MethodName) method_2_code (4 : Nat) (Option.some (Jvm.ClassFile.FieldType.object "java/lang/Object")), Jvm.Cond.code ({ cls := "java/lang/Integer", name := "valueOf", desc := "(I)Ljava/lang/Integer;" } : Jvm.MethodName) jdk_33_method_22_code (1 : Nat) (Option.some (Jvm.ClassFile.FieldType.object "java/lang/Integer")), Jvm.Cond.code ({ cls := "java/lang/String", name := "<init>", desc := "([C)V" } : Jvm.MethodName) jdk_42_method_3_code (2 : Nat) (Option.none : Option Jvm.ClassFile.FieldType), Jvm.Cond.code ({ cls := "java/lang/String", name := "<init>", desc := "([CIILjava/lang/Void;)V" } : Jvm.MethodName) jdk_42_method_149_code (6 : Nat) (Option.none : Option Jvm.ClassFile.FieldType), Jvm.Cond.code ({ cls := "java/lang/Object", name := "<init>", desc := "()V" } : Jvm.MethodName) object_method_1_code (1 : Nat) (Option.none : Option Jvm.ClassFile.FieldType), Jvm.Cond.code ({ cls := "java/lang/StringUTF16", name := "compress", desc := "([CII)[B" } : Jvm.MethodName) jdk_52_method_16_code (6 : Nat) (Option.some (Jvm.ClassFile.FieldType.array Jvm.ClassFile.FieldType.byte)), Jvm.Cond.code ({ cls := "java/lang/StringUTF16", name := "compress", desc := "([CI[BII)I" } : Jvm.MethodName) jdk_52_method_21_code (7 : Nat) (Option.some Jvm.ClassFile.FieldType.int), Jvm.Cond.code ({ cls := "java/lang/StringUTF16", name := "coderFromArrayLen", desc := "([BI)B" } : Jvm.MethodName) jdk_52_method_15_code (2 : Nat) (Option.some Jvm.ClassFile.FieldType.byte), Jvm.Cond.code ({ cls := "com/example/attache/attache/PendingKey", name := "<init>", desc := "()V" } : Jvm.MethodName) prog_1_method_1_code (1 : Nat) (Option.none : Option Jvm.ClassFile.FieldType), Jvm.Cond.code ({ cls := "com/example/attache/attache/PendingKey", name := "generated", desc := "(Ljava/lang/Object;)V" } : Jvm.MethodName) prog_1_method_3_code (2 : Nat) (Option.none : Option Jvm.ClassFile.FieldType), Jvm.Cond.code ({ cls := "com/example/attache/attache/PendingKey", name := "resolved", desc := "(Ljava/lang/Object;)Ljava/lang/Object;" } : Jvm.MethodName) prog_1_method_4_code (2 : Nat) (Option.some (Jvm.ClassFile.FieldType.object "java/lang/Object")), Jvm.Cond.code ({ cls := "com/example/attache/attache/PendingKey", name := "generated", desc := "()Ljava/lang/Object;" } : Jvm.MethodName) prog_1_method_2_code (1 : Nat) (Option.some (Jvm.ClassFile.FieldType.object "java/lang/Object")), Jvm.Cond.code ({ cls := "java/lang/Integer", name := "<init>", desc := "(I)V" } : Jvm.MethodName) jdk_33_method_23_code (2 : Nat) (Option.none : Option Jvm.ClassFile.FieldType), Jvm.Cond.code ({ cls := "java/lang/Number", name := "<init>", desc := "()V" } : Jvm.MethodName) jdk_18_method_1_code (1 : Nat) (Option.none : Option Jvm.ClassFile.FieldType), Jvm.Cond.code ({ cls := "java/lang/Long", name := "valueOf", desc := "(J)Ljava/lang/Long;" } : Jvm.MethodName) jdk_35_method_24_code (3 : Nat) (Option.some (Jvm.ClassFile.FieldType.object "java/lang/Long")), Jvm.Cond.code ({ cls := "java/lang/Long", name := "<init>", desc := "(J)V" } : Jvm.MethodName) jdk_35_method_26_code (3 : Nat) (Option.none : Option Jvm.ClassFile.FieldType)]
set_option maxRecDepth 65536 in
theorem codes_eq : words1.filter isCode = codes1 := rfl
theorem w_codes : ∀ c ∈ words1.filter isCode, c.before args0 about1 = true := by
  rw [codes_eq]
  intro c hc
  simp only [codes1, List.mem_cons, List.not_mem_nil, or_false] at hc
  rcases hc with rfl | rfl | rfl | rfl | rfl | rfl | rfl | rfl | rfl | rfl | rfl | rfl | rfl | rfl | rfl | rfl | rfl
  · exact w_c0
  · exact w_c1
  · exact w_c2
  · exact w_c3
  · exact w_c4
  · exact w_c5
  · exact w_c6
  · exact w_c7
  · exact w_c8
  · exact w_c9
  · exact w_c10
  · exact w_c11
  · exact w_c12
  · exact w_c13
  · exact w_c14
  · exact w_c15
  · exact w_c16
set_option maxRecDepth 65536 in
theorem w_t1 : (words1.take 24).all (fun c => isCode c || c.before args0 about1) = true := by decide +kernel
set_option maxRecDepth 65536 in
theorem w_t2 : ((words1.drop 24).take 24).all (fun c => isCode c || c.before args0 about1) = true := by decide +kernel
set_option maxRecDepth 65536 in
theorem w_t3 : (((words1.drop 24).drop 24).take 24).all (fun c => isCode c || c.before args0 about1) = true := by decide +kernel
set_option maxRecDepth 65536 in
theorem w_t4 : ((((words1.drop 24).drop 24).drop 24).take 24).all (fun c => isCode c || c.before args0 about1) = true := by decide +kernel
set_option maxRecDepth 65536 in
theorem w_t5 : ((((words1.drop 24).drop 24).drop 24).drop 24).all (fun c => isCode c || c.before args0 about1) = true := by decide +kernel
theorem w_tables : (allAtoms (Jvm.Cond.code x code maxLocals ret :: tables_1)).before args0 about1 = true := by
  rw [allAtoms_all]
  show words1.all (fun c => c.before args0 about1) = true
  refine all_split ?_ w_codes
  rw [← List.take_append_drop 24 words1, List.all_append, w_t1, ← List.take_append_drop 24 (words1.drop 24), List.all_append, w_t2, ← List.take_append_drop 24 ((words1.drop 24).drop 24), List.all_append, w_t3, ← List.take_append_drop 24 (((words1.drop 24).drop 24).drop 24), List.all_append, w_t4, w_t5]
  rfl
set_option maxRecDepth 65536 in
theorem w_rest : rest_1_c.before args0 about1 = true := by decide +kernel
set_option maxRecDepth 65536 in
theorem w_case : (Jvm.Cond.and given_1 narrow_1).before args0 about1 = true := by decide +kernel
theorem w_applies : (headSpec (Jvm.Cond.code x code maxLocals ret :: tables_1) room_1).applies x e0.platform about1 = true :=
  (Spec.applies_iff w_frames).mpr ⟨w_running, w_runnable, w_alone, w_named, w_hears, w_ripe, w_room, w_tables⟩
theorem atStart : AtStart classFile x code maxLocals ret World_1 tables_1 room_1 Calls_1 rest_1 Pre_1 launch0 p0 e0 about1 theMethod args0 below0 :=
  ⟨lists_1, trivial, launch0.admits_env _ _ _, launch0.least_env, fairChoices_fair.cas, fairChoices_fair.clock, w_frames, w_args, w_heap, w_applies, trivial, w_rest, w_case⟩
end start1
theorem witness_1 : WitnessClaimed_1 := ⟨start1.p0, start1.e0, start1.about1, start1.theMethod, start1.args0, start1.below0, start1.atStart⟩
end Jvm.Pilot.@@N@@
