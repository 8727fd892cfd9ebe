import JvmDerived
import JvmDerived.Pilot.@@N@@Statement
import JvmDerived.Pilot.@@N@@Code
set_option linter.unusedVariables false
set_option linter.unusedSimpArgs false
namespace Jvm.Pilot.@@N@@
open Jvm Jvm.ClassFile Sem Op Lib Jvm.Free Jvm.Stand Jvm.LawKit Jvm.RoadKit Bundle Jvm.Pilot.@@N@@.Jvm.D
section OwnGo
variable {p : Program} {l : Launch} {e : Env} {R : Room} {s : State} {m : MethodId} {args : Array Value} {below : List Frame} {meth : Method} {c : Code} {T T' : State} {locs : List Loc} {cells slots : Nat} {Q : Option Value → Heap → List Loc → Prop} {C S : Nat} {g g' : JFrame} {F : Outcome → State → Prop}
/-- from this state and frame the body comes to an end of which F holds -/
def Go (p : Program) (e : Env) (below : List Frame) (F : Outcome → State → Prop) (T : State) (g : JFrame) : Prop :=
  ∃ s₂ o, Steps p.tables e below (T.setTop g) s₂ ∧ s₂.status = .running ∧ Ended s₂ below o ∧ F o s₂
/-- it returned, Q holds, and nothing else has moved than L and so many new cells and slots -/
abbrev EndN (s : State) (Q : Option Value → Heap → List Loc → Prop) (C S : Nat) (o : Outcome) (t : State) : Prop := ∃ v L, o = .returned v ∧ Q v t.heap L ∧ FrameEnd s o t L C S
theorem Go.enter (q : g = g') (k : Go p e below F T g') : ∃ s₂ o, Steps p.tables e below (T.setTop g) s₂ ∧ s₂.status = .running ∧ Ended s₂ below o ∧ F o s₂ := by
  subst q
  exact k
theorem Go.by (h : ∀ t, Steps p.tables e below (T'.setTop g') t → Steps p.tables e below (T.setTop g) t) (k : Go p e below F T' g') : Go p e below F T g := by
  obtain ⟨s₂, o, h1, h2⟩ := k
  exact ⟨s₂, o, h _ h1, h2⟩
theorem Go.to (h : Steps p.tables e below (T.setTop g) (T'.setTop g')) (k : Go p e below F T' g') : Go p e below F T g := by
  obtain ⟨s₂, o, h1, h2⟩ := k
  exact ⟨s₂, o, h.trans h1, h2⟩
abbrev own_retKind (i : Instr) (t : FieldType) (w : Value) : Prop := (i = .ireturn ∧ (t = .int ∨ t = .boolean ∨ t = .byte ∨ t = .char ∨ t = .short) ∧ ∃ z, w = .int z) ∨ (i = .lreturn ∧ t = .long ∧ ∃ z, w = .long z) ∨ (i = .dreturn ∧ t = .double ∧ ∃ z, w = .double z) ∨ (i = .freturn ∧ t = .float ∧ ∃ z, w = .float z) ∨ (i = .areturn ∧ t.isReference = true ∧ w.isRef = true)
theorem Go.ret (X : Stand p l e R s m args below meth c T locs cells slots) (hx : p.tables.exec = Jvm.exec) (hlocks : meth.locks = false) {pc : Nat} {Ls : Array Slot} {w : Value} {t : FieldType} {i : Instr} {rest : List Value} (hret : meth.sig.returnType = some t) (hn : narrow t w = w)
    (hi : own_retKind i t w) (hd : decode c.code pc = .ok (i, 1)) (hq : Q (some w) T.heap locs) (hc : cells ≤ C) (hs : slots ≤ S) : Go p e below (EndN s Q C S) T (mkF m pc Ls (w :: rest)) := by
  obtain ⟨fs, hr, hrun, hended, hW, hsame⟩ := X.leave (v := some w) (fun h => by rw [hret] at h; cases h) hlocks
  exact ⟨_, _, retOut X hx hret hn hi hd hr, hrun, hended, _, _, rfl, hq, ⟨_, rfl⟩, hW, hsame.mono hc hs⟩
theorem Go.retI (X : Stand p l e R s m args below meth c T locs cells slots) (hx : p.tables.exec = Jvm.exec) (hlocks : meth.locks = false) {pc : Nat} {Ls : Array Slot} {w : Int32} {t : FieldType} {rest : List Value} (hret : meth.sig.returnType = some t) (hn : narrow t (.int w) = .int w)
    (ht : t = .int ∨ t = .boolean ∨ t = .byte ∨ t = .char ∨ t = .short) (hd : decode c.code pc = .ok (.ireturn, 1)) (hq : Q (some (.int w)) T.heap locs) (hc : cells ≤ C) (hs : slots ≤ S) : Go p e below (EndN s Q C S) T (mkF m pc Ls (.int w :: rest)) :=
  Go.ret X hx hlocks hret hn (Or.inl ⟨rfl, ht, _, rfl⟩) hd hq hc hs
theorem Go.retJ (X : Stand p l e R s m args below meth c T locs cells slots) (hx : p.tables.exec = Jvm.exec) (hlocks : meth.locks = false) {pc : Nat} {Ls : Array Slot} {w : Int64} {rest : List Value} (hret : meth.sig.returnType = some .long)
    (hd : decode c.code pc = .ok (.lreturn, 1)) (hq : Q (some (.long w)) T.heap locs) (hc : cells ≤ C) (hs : slots ≤ S) : Go p e below (EndN s Q C S) T (mkF m pc Ls (.long w :: rest)) :=
  Go.ret X hx hlocks hret rfl (Or.inr (Or.inl ⟨rfl, rfl, _, rfl⟩)) hd hq hc hs
theorem own_narR (t : FieldType) {w : Value} (ht : t.isReference = true) (hw : w.isRef = true) : narrow t w = w := by
  cases t <;> first | (simp [FieldType.isReference] at ht; done) | (rcases ref_cases hw with rfl | ⟨_, rfl⟩ <;> rfl)
theorem own_fitR (t : FieldType) {w : Value} (ht : t.isReference = true) (hw : w.isRef = true) : fits t w = true := by
  cases t <;> first | (simp [FieldType.isReference] at ht; done) | (rcases ref_cases hw with rfl | ⟨_, rfl⟩ <;> rfl)
theorem Go.retA (X : Stand p l e R s m args below meth c T locs cells slots) (hx : p.tables.exec = Jvm.exec) (hlocks : meth.locks = false) {pc : Nat} {Ls : Array Slot} {w : Value} {t : FieldType} {rest : List Value} (hret : meth.sig.returnType = some t) (ht : t.isReference = true) (hw : w.isRef = true)
    (hd : decode c.code pc = .ok (.areturn, 1)) (hq : Q (some w) T.heap locs) (hc : cells ≤ C) (hs : slots ≤ S) : Go p e below (EndN s Q C S) T (mkF m pc Ls (w :: rest)) :=
  Go.ret X hx hlocks hret (own_narR t ht hw) (Or.inr (Or.inr (Or.inr (Or.inr ⟨rfl, ht, hw⟩)))) hd hq hc hs
theorem Go.retV (X : Stand p l e R s m args below meth c T locs cells slots) (hx : p.tables.exec = Jvm.exec) (hlocks : meth.locks = false) {pc : Nat} {Ls : Array Slot} (hret : meth.sig.returnType = none)
    (hd : decode c.code pc = .ok (.return_, 1)) (hq : Q none T.heap locs) (hc : cells ≤ C) (hs : slots ≤ S) : Go p e below (EndN s Q C S) T (mkF m pc Ls []) := by
  obtain ⟨fs, hr, hrun, hended, hW, hsame⟩ := X.leave (v := none) (fun _ => rfl) hlocks
  exact ⟨_, _, X.returnOut hx hret hd hr, hrun, hended, _, _, rfl, hq, ⟨_, rfl⟩, hW, hsame.mono hc hs⟩
/-- two or more roads that meet: what comes behind is shown once, for every x that P allows -/
theorem Go.join {α : Type} {P : α → Prop} {fr : α → JFrame} (h : ∀ x, P x → Go p e below F T (fr x)) (k : (∀ x, P x → Go p e below F T (fr x)) → Go p e below F T g) : Go p e below F T g := k h
def own_at (X : Stand p l e R s m args below meth c T locs cells slots) (h : Heap) (T' : State) : Prop := Stand p l e R s m args below meth c T' locs cells slots ∧ T'.heap = h
theorem Go.joinT {α : Type} {St : State → Prop} {P : α → Prop} {fr : α → JFrame} (h : ∀ T', St T' → ∀ x, P x → Go p e below F T' (fr x)) (k : (∀ T', St T' → ∀ x, P x → Go p e below F T' (fr x)) → Go p e below F T g) : Go p e below F T g := k h
end OwnGo
theorem pn_0 : plainName "java/util/List" = true := by first | (simp [plainName, overriddenIn]; done) | decide +kernel
theorem ef_1 (m : MethodId)  : entryFrame m #[] 0 = mkF m 0 #[] [] := by (first | (simp [entryFrame, mkF, argsToLocals, Value.category]; done) | rfl)
theorem d5_0 : decode jdk_40_method_36_code 0 = .ok (.getstatic 90, 3) := by decide +kernel
theorem d5_3 : decode jdk_40_method_36_code 3 = .ok (.areturn, 1) := by decide +kernel
def Q_rmOf (Z : State) (el : Addr) (h0 : Heap) (n0 : Nat) (v : Option Value) (h : Heap) (L : List Loc) : Prop := v = some (.ref el) ∧ Fr n0 L ∧ h = h0
set_option maxRecDepth 65536 in
set_option maxHeartbeats 40000000 in
theorem rmOf (l : Launch) (Z : State) (a0 : Array Value) (hw : ∀ d ∈ tables_1, d.before a0 Z = true) (ws : List Jvm.Cond) (el : Addr) (h0 : Heap) (n0 : Nat) (Z0 : n0 ≤ h0.size) (O0 : Old Z n0 h0) (S_el : Sta Z Z.heap "java/util/ImmutableCollections" "EMPTY_LIST" "Ljava/util/ImmutableCollections$ListN;" (.ref el)) :
    MetFree l (⟨"java/util/List", "of", "()Ljava/util/List;"⟩ : MethodName) (head1 (Jvm.Cond.code (⟨"java/util/List", "of", "()Ljava/util/List;"⟩ : MethodName) jdk_40_method_36_code 0 (some (.object "java/util/List")) :: ws) ({ frames := 0, cells := 0, slots := 0, locals := 0 } : Room)) (fun as' U => as' = #[] ∧ Z.Warmed39 U.vm ∧ U.heap = h0) (fun _ _ _ _ _ => True) (fun _ U o U' => ∃ v L, o = .returned v ∧ Q_rmOf Z el h0 n0 v U'.heap L ∧ FrameEnd U o U' L ({ frames := 0, cells := 0, slots := 0, locals := 0 } : Room).cells ({ frames := 0, cells := 0, slots := 0, locals := 0 } : Room).slots) := by
  refine MetFree.of_bodySF (plainFor_of_name pn_0) hisR ?_
  intro p e s m args below meth c s₁ Bd hml0 hP hK
  obtain ⟨rfl, hZ, hh⟩ := hP
  have hx := Bd.exec
  have hby := Bd.bytes
  have hml : c.maxLocals = 0 := hml0
  have hown : s.vm.findClass "java/util/List" = some m.cls := findClass_of_methodNamed Bd.named
  have hnm := (name_of_methodNamed Bd.named Bd.method).1
  have X0 : Stand p l e ({ frames := 0, cells := 0, slots := 0, locals := 0 } : Room) s m #[] below meth c s₁ [] 0 0 := Stand.of_body Bd
  have e0 : s₁.heap = h0 := by rw [← hh, Bd.state]; rfl
  have N0 := Fr.nil n0
  refine Go.enter (F := EndN s (Q_rmOf Z el h0 n0) ({ frames := 0, cells := 0, slots := 0, locals := 0 } : Room).cells ({ frames := 0, cells := 0, slots := 0, locals := 0 } : Room).slots) (ef_1 m ) ?_
  show Go _ _ _ _ s₁ (mkF m 0 #[] [])
  have F1 : Sta Z h0 "java/util/ImmutableCollections" "EMPTY_LIST" "Ljava/util/ImmutableCollections$ListN;" (.ref el) := S_el.ext O0.2
  obtain ⟨T2, X2, e2, st2⟩ := getS2 X0 hx hZ hown (host := "") (Or.inl (hw _ (List.mem_of_getElem? (i := 49) rfl))) Via.refl e0 F1 (g := (mkF m 0 #[] [])) rfl (hb hby d5_0)
  refine Go.by st2 ?_
  show Go _ _ _ _ T2 (mkF m 3 #[] [(.ref el)])
  exact Go.retA X2 hx Bd.notSynchronized Bd.returns rfl rfl (hb hby d5_3) (by rw [e2]; exact ⟨rfl, N0, rfl⟩) (by decide) (by decide)
theorem pn_4 : plainName "com/example/sessionkeep/sessionkeep/codec/ObjectStreamShape$Puts" = true := by first | (simp [plainName, overriddenIn]; done) | decide +kernel
theorem ef_5 (m : MethodId) (x0 : Addr) : entryFrame m #[(.ref x0)] 1 = mkF m 0 #[.val (.ref x0)] [] := by (first | (simp [entryFrame, mkF, argsToLocals, Value.category]; done) | rfl)
theorem d1_0 : decode prog_13_method_1_code 0 = .ok (.aload_n 0, 1) := by decide +kernel
theorem d1_1 : decode prog_13_method_1_code 1 = .ok (.invokespecial 1, 3) := by decide +kernel
theorem d1_4 : decode prog_13_method_1_code 4 = .ok (.aload_n 0, 1) := by decide +kernel
theorem d1_5 : decode prog_13_method_1_code 5 = .ok (.bipush 16, 2) := by decide +kernel
theorem d1_7 : decode prog_13_method_1_code 7 = .ok (.newarray .int, 2) := by decide +kernel
theorem d1_9 : decode prog_13_method_1_code 9 = .ok (.putfield 7, 3) := by decide +kernel
theorem d1_12 : decode prog_13_method_1_code 12 = .ok (.aload_n 0, 1) := by decide +kernel
theorem d1_13 : decode prog_13_method_1_code 13 = .ok (.bipush 16, 2) := by decide +kernel
theorem d1_15 : decode prog_13_method_1_code 15 = .ok (.newarray .int, 2) := by decide +kernel
theorem d1_17 : decode prog_13_method_1_code 17 = .ok (.putfield 13, 3) := by decide +kernel
theorem d1_20 : decode prog_13_method_1_code 20 = .ok (.aload_n 0, 1) := by decide +kernel
theorem d1_21 : decode prog_13_method_1_code 21 = .ok (.bipush 16, 2) := by decide +kernel
theorem d1_23 : decode prog_13_method_1_code 23 = .ok (.newarray .long, 2) := by decide +kernel
theorem d1_25 : decode prog_13_method_1_code 25 = .ok (.putfield 16, 3) := by decide +kernel
theorem d1_28 : decode prog_13_method_1_code 28 = .ok (.aload_n 0, 1) := by decide +kernel
theorem d1_29 : decode prog_13_method_1_code 29 = .ok (.bipush 16, 2) := by decide +kernel
theorem d1_31 : decode prog_13_method_1_code 31 = .ok (.newarray .int, 2) := by decide +kernel
theorem d1_33 : decode prog_13_method_1_code 33 = .ok (.putfield 20, 3) := by decide +kernel
theorem d1_36 : decode prog_13_method_1_code 36 = .ok (.return_, 1) := by decide +kernel
def Q_rmPuts (Z : State) (a : Addr) (h0 : Heap) (n0 : Nat) (v : Option Value) (h : Heap) (L : List Loc) : Prop := ∃ tb : Addr, ∃ kb : Addr, ∃ wb : Addr, ∃ ab : Addr, ∃ kk1 : ClassId, ∃ kk2 : ClassId, ∃ kk3 : ClassId, ∃ kk4 : ClassId, v = none ∧ Fr n0 L ∧ Keep h0 h [a] ∧ Exa Z h a "com/example/sessionkeep/sessionkeep/codec/ObjectStreamShape$Puts" ∧ Fld Z h a "com/example/sessionkeep/sessionkeep/codec/ObjectStreamShape$Puts" "tables" "[I" (.ref tb) ∧ Fld Z h a "com/example/sessionkeep/sessionkeep/codec/ObjectStreamShape$Puts" "keys" "[I" (.ref kb) ∧ Fld Z h a "com/example/sessionkeep/sessionkeep/codec/ObjectStreamShape$Puts" "weights" "[J" (.ref wb) ∧ Fld Z h a "com/example/sessionkeep/sessionkeep/codec/ObjectStreamShape$Puts" "afters" "[I" (.ref ab) ∧ Fld Z h a "com/example/sessionkeep/sessionkeep/codec/ObjectStreamShape$Puts" "size" "I" (.int (0 : Int32)) ∧ Arv Z h tb kk1 .int (16 : Int32) ([(.int (0 : Int32)), (.int (0 : Int32)), (.int (0 : Int32)), (.int (0 : Int32)), (.int (0 : Int32)), (.int (0 : Int32)), (.int (0 : Int32)), (.int (0 : Int32)), (.int (0 : Int32)), (.int (0 : Int32)), (.int (0 : Int32)), (.int (0 : Int32)), (.int (0 : Int32)), (.int (0 : Int32)), (.int (0 : Int32)), (.int (0 : Int32))]) (.int (0 : Int32)) ∧ Arv Z h kb kk2 .int (16 : Int32) ([(.int (0 : Int32)), (.int (0 : Int32)), (.int (0 : Int32)), (.int (0 : Int32)), (.int (0 : Int32)), (.int (0 : Int32)), (.int (0 : Int32)), (.int (0 : Int32)), (.int (0 : Int32)), (.int (0 : Int32)), (.int (0 : Int32)), (.int (0 : Int32)), (.int (0 : Int32)), (.int (0 : Int32)), (.int (0 : Int32)), (.int (0 : Int32))]) (.int (0 : Int32)) ∧ Arv Z h wb kk3 .long (16 : Int32) ([(.long (0 : Int64)), (.long (0 : Int64)), (.long (0 : Int64)), (.long (0 : Int64)), (.long (0 : Int64)), (.long (0 : Int64)), (.long (0 : Int64)), (.long (0 : Int64)), (.long (0 : Int64)), (.long (0 : Int64)), (.long (0 : Int64)), (.long (0 : Int64)), (.long (0 : Int64)), (.long (0 : Int64)), (.long (0 : Int64)), (.long (0 : Int64))]) (.long (0 : Int64)) ∧ Arv Z h ab kk4 .int (16 : Int32) ([(.int (0 : Int32)), (.int (0 : Int32)), (.int (0 : Int32)), (.int (0 : Int32)), (.int (0 : Int32)), (.int (0 : Int32)), (.int (0 : Int32)), (.int (0 : Int32)), (.int (0 : Int32)), (.int (0 : Int32)), (.int (0 : Int32)), (.int (0 : Int32)), (.int (0 : Int32)), (.int (0 : Int32)), (.int (0 : Int32)), (.int (0 : Int32))]) (.int (0 : Int32)) ∧ h0.size ≤ tb ∧ h0.size ≤ kb ∧ h0.size ≤ wb ∧ h0.size ≤ ab ∧ tb ≠ kb ∧ tb ≠ wb ∧ tb ≠ ab ∧ kb ≠ wb ∧ kb ≠ ab ∧ wb ≠ ab
set_option maxRecDepth 65536 in
set_option maxHeartbeats 40000000 in
theorem rmPuts (l : Launch) (Z : State) (a0 : Array Value) (hw : ∀ d ∈ tables_1, d.before a0 Z = true) (ws : List Jvm.Cond) (a : Addr) (h0 : Heap) (n0 : Nat) (Z0 : n0 ≤ h0.size) (E_a : Exa Z h0 a "com/example/sessionkeep/sessionkeep/codec/ObjectStreamShape$Puts") (F_a_tables : Fld Z h0 a "com/example/sessionkeep/sessionkeep/codec/ObjectStreamShape$Puts" "tables" "[I" .null) (F_a_keys : Fld Z h0 a "com/example/sessionkeep/sessionkeep/codec/ObjectStreamShape$Puts" "keys" "[I" .null) (F_a_weights : Fld Z h0 a "com/example/sessionkeep/sessionkeep/codec/ObjectStreamShape$Puts" "weights" "[J" .null) (F_a_afters : Fld Z h0 a "com/example/sessionkeep/sessionkeep/codec/ObjectStreamShape$Puts" "afters" "[I" .null) (F_a_size : Fld Z h0 a "com/example/sessionkeep/sessionkeep/codec/ObjectStreamShape$Puts" "size" "I" (.int (0 : Int32))) (g_a : n0 ≤ a) :
    MetFree l (⟨"com/example/sessionkeep/sessionkeep/codec/ObjectStreamShape$Puts", "<init>", "()V"⟩ : MethodName) (head1 (Jvm.Cond.code (⟨"com/example/sessionkeep/sessionkeep/codec/ObjectStreamShape$Puts", "<init>", "()V"⟩ : MethodName) prog_13_method_1_code 1 none :: ws) ({ frames := 1, cells := 4, slots := 64, locals := 12 } : Room)) (fun as' U => as' = #[(.ref a)] ∧ Z.Warmed39 U.vm ∧ U.heap = h0) (fun _ _ _ _ _ => True) (fun _ U o U' => ∃ v L, o = .returned v ∧ Q_rmPuts Z a h0 n0 v U'.heap L ∧ FrameEnd U o U' L ({ frames := 1, cells := 4, slots := 64, locals := 12 } : Room).cells ({ frames := 1, cells := 4, slots := 64, locals := 12 } : Room).slots) := by
  refine MetFree.of_bodySF (plainFor_of_name pn_4) hisR ?_
  intro p e s m args below meth c s₁ Bd hml0 hP hK
  obtain ⟨rfl, hZ, hh⟩ := hP
  have hx := Bd.exec
  have hby := Bd.bytes
  have hml : c.maxLocals = 1 := hml0
  have hown : s.vm.findClass "com/example/sessionkeep/sessionkeep/codec/ObjectStreamShape$Puts" = some m.cls := findClass_of_methodNamed Bd.named
  have hnm := (name_of_methodNamed Bd.named Bd.method).1
  have X0 : Stand p l e ({ frames := 1, cells := 4, slots := 64, locals := 12 } : Room) s m #[(.ref a)] below meth c s₁ [] 0 0 := Stand.of_body Bd
  have e0 : s₁.heap = h0 := by rw [← hh, Bd.state]; rfl
  have N0 := Fr.nil n0
  refine Go.enter (F := EndN s (Q_rmPuts Z a h0 n0) ({ frames := 1, cells := 4, slots := 64, locals := 12 } : Room).cells ({ frames := 1, cells := 4, slots := 64, locals := 12 } : Room).slots) (ef_5 m a) ?_
  show Go _ _ _ _ s₁ (mkF m 0 #[.val (.ref a)] [])
  refine Go.by (fun _ gk => XS.aloadN X0.here hx rfl (hb hby d1_0) rfl rfl gk) ?_
  show Go _ _ _ _ s₁ (mkF m 1 #[.val (.ref a)] [(.ref a)])
  obtain ⟨T1, X1, e1, st1⟩ := initO X0 hx hZ hown (hw _ (List.mem_of_getElem? (i := 6) rfl)) (hw _ (List.mem_of_getElem? (i := 7) rfl)) (hw _ (List.mem_of_getElem? (i := 8) rfl)) e0 (g := (mkF m 1 #[.val (.ref a)] [(.ref a)])) rfl (by rw [hml]; rfl) rfl (hb hby d1_1) (by decide) (W := 0) (by show 2 * 0 + _ ≤ _; exact Nat.le_of_eq rfl) (by decide)
  refine Go.by st1 ?_
  show Go _ _ _ _ T1 (mkF m 4 #[.val (.ref a)] [])
  refine Go.by (fun _ gk => XS.aloadN X1.here hx rfl (hb hby d1_4) rfl rfl gk) ?_
  show Go _ _ _ _ T1 (mkF m 5 #[.val (.ref a)] [(.ref a)])
  refine Go.by (fun _ gk => XT.bipushV X1.here hx rfl (16 : Int32) (hb hby d1_5) (by decide) gk) ?_
  show Go _ _ _ _ T1 (mkF m 7 #[.val (.ref a)] [(.int (16 : Int32)), (.ref a)])
  obtain ⟨tb, g2⟩ : ∃ z, z = h0.size := ⟨_, rfl⟩
  have ge_tb : n0 ≤ tb := Nat.le_trans Z0 (Nat.le_of_eq g2.symm)
  have sz_tb : h0.size ≤ tb := Nat.le_trans (Keep.refl h0 [a]).1 (Nat.le_of_eq g2.symm)
  have ne_a_tb : a ≠ tb := Nat.ne_of_lt (Nat.lt_of_lt_of_le E_a.lt (Nat.le_of_eq g2.symm))
  obtain ⟨T2, h2, k2, X2, e2, E2, A2, Ea2, st2⟩ := newPE X1 hx hZ (hw _ (List.mem_of_getElem? (i := 9) rfl)) e1 (g := (mkF m 7 #[.val (.ref a)] [(.int (16 : Int32)), (.ref a)])) rfl (hb hby d1_7) rfl (by decide) (cap := 16) (by decide) (by decide) (by decide) (by decide) (ad := "[I") rfl
  rw [← g2] at A2 Ea2 st2
  have V_tb : Arv Z h2 tb k2 .int (16 : Int32) [(.int (0 : Int32)), (.int (0 : Int32)), (.int (0 : Int32)), (.int (0 : Int32)), (.int (0 : Int32)), (.int (0 : Int32)), (.int (0 : Int32)), (.int (0 : Int32)), (.int (0 : Int32)), (.int (0 : Int32)), (.int (0 : Int32)), (.int (0 : Int32)), (.int (0 : Int32)), (.int (0 : Int32)), (.int (0 : Int32)), (.int (0 : Int32))] (.int (0 : Int32)) := (Arv.new A2 (by decide)).pad (pad_rep [] (.int (0 : Int32)) 16)
  refine Go.by st2 ?_
  show Go _ _ _ _ T2 (mkF m 9 #[.val (.ref a)] [(.ref tb), (.ref a)])
  have F3 : Fld Z h2 a "com/example/sessionkeep/sessionkeep/codec/ObjectStreamShape$Puts" "tables" "[I" .null := F_a_tables.ext E2
  have F4 : Exa Z h2 a "com/example/sessionkeep/sessionkeep/codec/ObjectStreamShape$Puts" := E_a.ext E2
  obtain ⟨T5, h5, X5, e5, W5, st5⟩ := putF X2 hx hZ hown (host := "") (Or.inl (hw _ (List.mem_of_getElem? (i := 10) rfl))) Via.refl e2 F3 F4 (Or.inl (hw _ (List.mem_of_getElem? (i := 11) rfl))) (hw _ (List.mem_of_getElem? (i := 1) rfl)) (ty := (.array .int)) (by decide) rfl rfl (g := (mkF m 9 #[.val (.ref a)] [(.ref tb), (.ref a)])) rfl rfl (hb hby d1_9)
  have N5 := Fr.snoc X5 N0 g_a
  have Fw5 : Fld Z h5 a "com/example/sessionkeep/sessionkeep/codec/ObjectStreamShape$Puts" "tables" "[I" (.ref tb) := F3.same W5
  refine Go.by st5 ?_
  show Go _ _ _ _ T5 (mkF m 12 #[.val (.ref a)] [])
  refine Go.by (fun _ gk => XS.aloadN X5.here hx rfl (hb hby d1_12) rfl rfl gk) ?_
  show Go _ _ _ _ T5 (mkF m 13 #[.val (.ref a)] [(.ref a)])
  refine Go.by (fun _ gk => XT.bipushV X5.here hx rfl (16 : Int32) (hb hby d1_13) (by decide) gk) ?_
  show Go _ _ _ _ T5 (mkF m 15 #[.val (.ref a)] [(.int (16 : Int32)), (.ref a)])
  obtain ⟨kb, g6⟩ : ∃ z, z = h5.size := ⟨_, rfl⟩
  have F7 : n0 ≤ h2.size := Nat.le_trans Z0 E2.1
  have F8 : n0 ≤ h5.size := Nat.le_trans F7 (Nat.le_of_eq (Wr.size W5).symm)
  have ge_kb : n0 ≤ kb := Nat.le_trans F8 (Nat.le_of_eq g6.symm)
  have F9 : Keep h0 h2 [a] := (Keep.refl h0 [a]).ext E2
  have F10 : Keep h0 h5 [a] := F9.wr W5 (Or.inl (List.mem_of_getElem? (i := 0) rfl))
  have sz_kb : h0.size ≤ kb := Nat.le_trans F10.1 (Nat.le_of_eq g6.symm)
  have F11 : Exa Z h5 a "com/example/sessionkeep/sessionkeep/codec/ObjectStreamShape$Puts" := F4.wr W5
  have ne_a_kb : a ≠ kb := Nat.ne_of_lt (Nat.lt_of_lt_of_le F11.lt (Nat.le_of_eq g6.symm))
  have F12 : Exa Z h5 tb "[I" := Ea2.wr W5
  have ne_tb_kb : tb ≠ kb := Nat.ne_of_lt (Nat.lt_of_lt_of_le F12.lt (Nat.le_of_eq g6.symm))
  obtain ⟨T6, h6, k6, X6, e6, E6, A6, Ea6, st6⟩ := newPE X5 hx hZ (hw _ (List.mem_of_getElem? (i := 9) rfl)) e5 (g := (mkF m 15 #[.val (.ref a)] [(.int (16 : Int32)), (.ref a)])) rfl (hb hby d1_15) rfl (by decide) (cap := 16) (by decide) (by decide) (by decide) (by decide) (ad := "[I") rfl
  rw [← g6] at A6 Ea6 st6
  have V_kb : Arv Z h6 kb k6 .int (16 : Int32) [(.int (0 : Int32)), (.int (0 : Int32)), (.int (0 : Int32)), (.int (0 : Int32)), (.int (0 : Int32)), (.int (0 : Int32)), (.int (0 : Int32)), (.int (0 : Int32)), (.int (0 : Int32)), (.int (0 : Int32)), (.int (0 : Int32)), (.int (0 : Int32)), (.int (0 : Int32)), (.int (0 : Int32)), (.int (0 : Int32)), (.int (0 : Int32))] (.int (0 : Int32)) := (Arv.new A6 (by decide)).pad (pad_rep [] (.int (0 : Int32)) 16)
  refine Go.by st6 ?_
  show Go _ _ _ _ T6 (mkF m 17 #[.val (.ref a)] [(.ref kb), (.ref a)])
  have F13 : Fld Z h2 a "com/example/sessionkeep/sessionkeep/codec/ObjectStreamShape$Puts" "keys" "[I" .null := F_a_keys.ext E2
  have F14 : Fld Z h5 a "com/example/sessionkeep/sessionkeep/codec/ObjectStreamShape$Puts" "keys" "[I" .null := F13.other W5 (Or.inr (slot_ne (Or.inl (hw _ (List.mem_of_getElem? (i := 13) rfl))) (Or.inl (hw _ (List.mem_of_getElem? (i := 11) rfl))) (by decide) (t := (.array .int)) (t' := (.array .int)) (by decide) (by decide)))
  have F15 : Fld Z h6 a "com/example/sessionkeep/sessionkeep/codec/ObjectStreamShape$Puts" "keys" "[I" .null := F14.ext E6
  have F16 : Exa Z h6 a "com/example/sessionkeep/sessionkeep/codec/ObjectStreamShape$Puts" := F11.ext E6
  obtain ⟨T17, h17, X17, e17, W17, st17⟩ := putF X6 hx hZ hown (host := "") (Or.inl (hw _ (List.mem_of_getElem? (i := 12) rfl))) Via.refl e6 F15 F16 (Or.inl (hw _ (List.mem_of_getElem? (i := 13) rfl))) (hw _ (List.mem_of_getElem? (i := 1) rfl)) (ty := (.array .int)) (by decide) rfl rfl (g := (mkF m 17 #[.val (.ref a)] [(.ref kb), (.ref a)])) rfl rfl (hb hby d1_17)
  have N17 := Fr.snoc X17 N5 g_a
  have Fw17 : Fld Z h17 a "com/example/sessionkeep/sessionkeep/codec/ObjectStreamShape$Puts" "keys" "[I" (.ref kb) := F15.same W17
  refine Go.by st17 ?_
  show Go _ _ _ _ T17 (mkF m 20 #[.val (.ref a)] [])
  refine Go.by (fun _ gk => XS.aloadN X17.here hx rfl (hb hby d1_20) rfl rfl gk) ?_
  show Go _ _ _ _ T17 (mkF m 21 #[.val (.ref a)] [(.ref a)])
  refine Go.by (fun _ gk => XT.bipushV X17.here hx rfl (16 : Int32) (hb hby d1_21) (by decide) gk) ?_
  show Go _ _ _ _ T17 (mkF m 23 #[.val (.ref a)] [(.int (16 : Int32)), (.ref a)])
  obtain ⟨wb, g18⟩ : ∃ z, z = h17.size := ⟨_, rfl⟩
  have F19 : n0 ≤ h6.size := Nat.le_trans F8 E6.1
  have F20 : n0 ≤ h17.size := Nat.le_trans F19 (Nat.le_of_eq (Wr.size W17).symm)
  have ge_wb : n0 ≤ wb := Nat.le_trans F20 (Nat.le_of_eq g18.symm)
  have F21 : Keep h0 h6 [a] := F10.ext E6
  have F22 : Keep h0 h17 [a] := F21.wr W17 (Or.inl (List.mem_of_getElem? (i := 0) rfl))
  have sz_wb : h0.size ≤ wb := Nat.le_trans F22.1 (Nat.le_of_eq g18.symm)
  have F23 : Exa Z h17 a "com/example/sessionkeep/sessionkeep/codec/ObjectStreamShape$Puts" := F16.wr W17
  have ne_a_wb : a ≠ wb := Nat.ne_of_lt (Nat.lt_of_lt_of_le F23.lt (Nat.le_of_eq g18.symm))
  have F24 : Exa Z h17 kb "[I" := Ea6.wr W17
  have ne_kb_wb : kb ≠ wb := Nat.ne_of_lt (Nat.lt_of_lt_of_le F24.lt (Nat.le_of_eq g18.symm))
  have F25 : Exa Z h6 tb "[I" := F12.ext E6
  have F26 : Exa Z h17 tb "[I" := F25.wr W17
  have ne_tb_wb : tb ≠ wb := Nat.ne_of_lt (Nat.lt_of_lt_of_le F26.lt (Nat.le_of_eq g18.symm))
  obtain ⟨T18, h18, k18, X18, e18, E18, A18, Ea18, st18⟩ := newPE X17 hx hZ (hw _ (List.mem_of_getElem? (i := 14) rfl)) e17 (g := (mkF m 23 #[.val (.ref a)] [(.int (16 : Int32)), (.ref a)])) rfl (hb hby d1_23) rfl (by decide) (cap := 16) (by decide) (by decide) (by decide) (by decide) (ad := "[J") rfl
  rw [← g18] at A18 Ea18 st18
  have V_wb : Arv Z h18 wb k18 .long (16 : Int32) [(.long (0 : Int64)), (.long (0 : Int64)), (.long (0 : Int64)), (.long (0 : Int64)), (.long (0 : Int64)), (.long (0 : Int64)), (.long (0 : Int64)), (.long (0 : Int64)), (.long (0 : Int64)), (.long (0 : Int64)), (.long (0 : Int64)), (.long (0 : Int64)), (.long (0 : Int64)), (.long (0 : Int64)), (.long (0 : Int64)), (.long (0 : Int64))] (.long (0 : Int64)) := (Arv.new A18 (by decide)).pad (pad_rep [] (.long (0 : Int64)) 16)
  refine Go.by st18 ?_
  show Go _ _ _ _ T18 (mkF m 25 #[.val (.ref a)] [(.ref wb), (.ref a)])
  have F27 : Fld Z h2 a "com/example/sessionkeep/sessionkeep/codec/ObjectStreamShape$Puts" "weights" "[J" .null := F_a_weights.ext E2
  have F28 : Fld Z h5 a "com/example/sessionkeep/sessionkeep/codec/ObjectStreamShape$Puts" "weights" "[J" .null := F27.other W5 (Or.inr (slot_ne (Or.inl (hw _ (List.mem_of_getElem? (i := 16) rfl))) (Or.inl (hw _ (List.mem_of_getElem? (i := 11) rfl))) (by decide) (t := (.array .long)) (t' := (.array .int)) (by decide) (by decide)))
  have F29 : Fld Z h6 a "com/example/sessionkeep/sessionkeep/codec/ObjectStreamShape$Puts" "weights" "[J" .null := F28.ext E6
  have F30 : Fld Z h17 a "com/example/sessionkeep/sessionkeep/codec/ObjectStreamShape$Puts" "weights" "[J" .null := F29.other W17 (Or.inr (slot_ne (Or.inl (hw _ (List.mem_of_getElem? (i := 16) rfl))) (Or.inl (hw _ (List.mem_of_getElem? (i := 13) rfl))) (by decide) (t := (.array .long)) (t' := (.array .int)) (by decide) (by decide)))
  have F31 : Fld Z h18 a "com/example/sessionkeep/sessionkeep/codec/ObjectStreamShape$Puts" "weights" "[J" .null := F30.ext E18
  have F32 : Exa Z h18 a "com/example/sessionkeep/sessionkeep/codec/ObjectStreamShape$Puts" := F23.ext E18
  obtain ⟨T33, h33, X33, e33, W33, st33⟩ := putF X18 hx hZ hown (host := "") (Or.inl (hw _ (List.mem_of_getElem? (i := 15) rfl))) Via.refl e18 F31 F32 (Or.inl (hw _ (List.mem_of_getElem? (i := 16) rfl))) (hw _ (List.mem_of_getElem? (i := 1) rfl)) (ty := (.array .long)) (by decide) rfl rfl (g := (mkF m 25 #[.val (.ref a)] [(.ref wb), (.ref a)])) rfl rfl (hb hby d1_25)
  have N33 := Fr.snoc X33 N17 g_a
  have Fw33 : Fld Z h33 a "com/example/sessionkeep/sessionkeep/codec/ObjectStreamShape$Puts" "weights" "[J" (.ref wb) := F31.same W33
  refine Go.by st33 ?_
  show Go _ _ _ _ T33 (mkF m 28 #[.val (.ref a)] [])
  refine Go.by (fun _ gk => XS.aloadN X33.here hx rfl (hb hby d1_28) rfl rfl gk) ?_
  show Go _ _ _ _ T33 (mkF m 29 #[.val (.ref a)] [(.ref a)])
  refine Go.by (fun _ gk => XT.bipushV X33.here hx rfl (16 : Int32) (hb hby d1_29) (by decide) gk) ?_
  show Go _ _ _ _ T33 (mkF m 31 #[.val (.ref a)] [(.int (16 : Int32)), (.ref a)])
  obtain ⟨ab, g34⟩ : ∃ z, z = h33.size := ⟨_, rfl⟩
  have F35 : n0 ≤ h18.size := Nat.le_trans F20 E18.1
  have F36 : n0 ≤ h33.size := Nat.le_trans F35 (Nat.le_of_eq (Wr.size W33).symm)
  have ge_ab : n0 ≤ ab := Nat.le_trans F36 (Nat.le_of_eq g34.symm)
  have F37 : Keep h0 h18 [a] := F22.ext E18
  have F38 : Keep h0 h33 [a] := F37.wr W33 (Or.inl (List.mem_of_getElem? (i := 0) rfl))
  have sz_ab : h0.size ≤ ab := Nat.le_trans F38.1 (Nat.le_of_eq g34.symm)
  have F39 : Exa Z h33 a "com/example/sessionkeep/sessionkeep/codec/ObjectStreamShape$Puts" := F32.wr W33
  have ne_a_ab : a ≠ ab := Nat.ne_of_lt (Nat.lt_of_lt_of_le F39.lt (Nat.le_of_eq g34.symm))
  have F40 : Exa Z h18 kb "[I" := F24.ext E18
  have F41 : Exa Z h33 kb "[I" := F40.wr W33
  have ne_kb_ab : kb ≠ ab := Nat.ne_of_lt (Nat.lt_of_lt_of_le F41.lt (Nat.le_of_eq g34.symm))
  have F42 : Exa Z h18 tb "[I" := F26.ext E18
  have F43 : Exa Z h33 tb "[I" := F42.wr W33
  have ne_tb_ab : tb ≠ ab := Nat.ne_of_lt (Nat.lt_of_lt_of_le F43.lt (Nat.le_of_eq g34.symm))
  have F44 : Exa Z h33 wb "[J" := Ea18.wr W33
  have ne_wb_ab : wb ≠ ab := Nat.ne_of_lt (Nat.lt_of_lt_of_le F44.lt (Nat.le_of_eq g34.symm))
  obtain ⟨T34, h34, k34, X34, e34, E34, A34, Ea34, st34⟩ := newPE X33 hx hZ (hw _ (List.mem_of_getElem? (i := 9) rfl)) e33 (g := (mkF m 31 #[.val (.ref a)] [(.int (16 : Int32)), (.ref a)])) rfl (hb hby d1_31) rfl (by decide) (cap := 16) (by decide) (by decide) (by decide) (by decide) (ad := "[I") rfl
  rw [← g34] at A34 Ea34 st34
  have V_ab : Arv Z h34 ab k34 .int (16 : Int32) [(.int (0 : Int32)), (.int (0 : Int32)), (.int (0 : Int32)), (.int (0 : Int32)), (.int (0 : Int32)), (.int (0 : Int32)), (.int (0 : Int32)), (.int (0 : Int32)), (.int (0 : Int32)), (.int (0 : Int32)), (.int (0 : Int32)), (.int (0 : Int32)), (.int (0 : Int32)), (.int (0 : Int32)), (.int (0 : Int32)), (.int (0 : Int32))] (.int (0 : Int32)) := (Arv.new A34 (by decide)).pad (pad_rep [] (.int (0 : Int32)) 16)
  refine Go.by st34 ?_
  show Go _ _ _ _ T34 (mkF m 33 #[.val (.ref a)] [(.ref ab), (.ref a)])
  have F45 : Fld Z h2 a "com/example/sessionkeep/sessionkeep/codec/ObjectStreamShape$Puts" "afters" "[I" .null := F_a_afters.ext E2
  have F46 : Fld Z h5 a "com/example/sessionkeep/sessionkeep/codec/ObjectStreamShape$Puts" "afters" "[I" .null := F45.other W5 (Or.inr (slot_ne (Or.inl (hw _ (List.mem_of_getElem? (i := 18) rfl))) (Or.inl (hw _ (List.mem_of_getElem? (i := 11) rfl))) (by decide) (t := (.array .int)) (t' := (.array .int)) (by decide) (by decide)))
  have F47 : Fld Z h6 a "com/example/sessionkeep/sessionkeep/codec/ObjectStreamShape$Puts" "afters" "[I" .null := F46.ext E6
  have F48 : Fld Z h17 a "com/example/sessionkeep/sessionkeep/codec/ObjectStreamShape$Puts" "afters" "[I" .null := F47.other W17 (Or.inr (slot_ne (Or.inl (hw _ (List.mem_of_getElem? (i := 18) rfl))) (Or.inl (hw _ (List.mem_of_getElem? (i := 13) rfl))) (by decide) (t := (.array .int)) (t' := (.array .int)) (by decide) (by decide)))
  have F49 : Fld Z h18 a "com/example/sessionkeep/sessionkeep/codec/ObjectStreamShape$Puts" "afters" "[I" .null := F48.ext E18
  have F50 : Fld Z h33 a "com/example/sessionkeep/sessionkeep/codec/ObjectStreamShape$Puts" "afters" "[I" .null := F49.other W33 (Or.inr (slot_ne (Or.inl (hw _ (List.mem_of_getElem? (i := 18) rfl))) (Or.inl (hw _ (List.mem_of_getElem? (i := 16) rfl))) (by decide) (t := (.array .int)) (t' := (.array .long)) (by decide) (by decide)))
  have F51 : Fld Z h34 a "com/example/sessionkeep/sessionkeep/codec/ObjectStreamShape$Puts" "afters" "[I" .null := F50.ext E34
  have F52 : Exa Z h34 a "com/example/sessionkeep/sessionkeep/codec/ObjectStreamShape$Puts" := F39.ext E34
  obtain ⟨T53, h53, X53, e53, W53, st53⟩ := putF X34 hx hZ hown (host := "") (Or.inl (hw _ (List.mem_of_getElem? (i := 17) rfl))) Via.refl e34 F51 F52 (Or.inl (hw _ (List.mem_of_getElem? (i := 18) rfl))) (hw _ (List.mem_of_getElem? (i := 1) rfl)) (ty := (.array .int)) (by decide) rfl rfl (g := (mkF m 33 #[.val (.ref a)] [(.ref ab), (.ref a)])) rfl rfl (hb hby d1_33)
  have N53 := Fr.snoc X53 N33 g_a
  have Fw53 : Fld Z h53 a "com/example/sessionkeep/sessionkeep/codec/ObjectStreamShape$Puts" "afters" "[I" (.ref ab) := F51.same W53
  refine Go.by st53 ?_
  show Go _ _ _ _ T53 (mkF m 36 #[.val (.ref a)] [])
  have F54 : Keep h0 h34 [a] := F38.ext E34
  have F55 : Keep h0 h53 [a] := F54.wr W53 (Or.inl (List.mem_of_getElem? (i := 0) rfl))
  have F56 : Exa Z h53 a "com/example/sessionkeep/sessionkeep/codec/ObjectStreamShape$Puts" := F52.wr W53
  have F57 : Fld Z h6 a "com/example/sessionkeep/sessionkeep/codec/ObjectStreamShape$Puts" "tables" "[I" (.ref tb) := Fw5.ext E6
  have F58 : Fld Z h17 a "com/example/sessionkeep/sessionkeep/codec/ObjectStreamShape$Puts" "tables" "[I" (.ref tb) := F57.other W17 (Or.inr (slot_ne (Or.inl (hw _ (List.mem_of_getElem? (i := 11) rfl))) (Or.inl (hw _ (List.mem_of_getElem? (i := 13) rfl))) (by decide) (t := (.array .int)) (t' := (.array .int)) (by decide) (by decide)))
  have F59 : Fld Z h18 a "com/example/sessionkeep/sessionkeep/codec/ObjectStreamShape$Puts" "tables" "[I" (.ref tb) := F58.ext E18
  have F60 : Fld Z h33 a "com/example/sessionkeep/sessionkeep/codec/ObjectStreamShape$Puts" "tables" "[I" (.ref tb) := F59.other W33 (Or.inr (slot_ne (Or.inl (hw _ (List.mem_of_getElem? (i := 11) rfl))) (Or.inl (hw _ (List.mem_of_getElem? (i := 16) rfl))) (by decide) (t := (.array .int)) (t' := (.array .long)) (by decide) (by decide)))
  have F61 : Fld Z h34 a "com/example/sessionkeep/sessionkeep/codec/ObjectStreamShape$Puts" "tables" "[I" (.ref tb) := F60.ext E34
  have F62 : Fld Z h53 a "com/example/sessionkeep/sessionkeep/codec/ObjectStreamShape$Puts" "tables" "[I" (.ref tb) := F61.other W53 (Or.inr (slot_ne (Or.inl (hw _ (List.mem_of_getElem? (i := 11) rfl))) (Or.inl (hw _ (List.mem_of_getElem? (i := 18) rfl))) (by decide) (t := (.array .int)) (t' := (.array .int)) (by decide) (by decide)))
  have F63 : Fld Z h18 a "com/example/sessionkeep/sessionkeep/codec/ObjectStreamShape$Puts" "keys" "[I" (.ref kb) := Fw17.ext E18
  have F64 : Fld Z h33 a "com/example/sessionkeep/sessionkeep/codec/ObjectStreamShape$Puts" "keys" "[I" (.ref kb) := F63.other W33 (Or.inr (slot_ne (Or.inl (hw _ (List.mem_of_getElem? (i := 13) rfl))) (Or.inl (hw _ (List.mem_of_getElem? (i := 16) rfl))) (by decide) (t := (.array .int)) (t' := (.array .long)) (by decide) (by decide)))
  have F65 : Fld Z h34 a "com/example/sessionkeep/sessionkeep/codec/ObjectStreamShape$Puts" "keys" "[I" (.ref kb) := F64.ext E34
  have F66 : Fld Z h53 a "com/example/sessionkeep/sessionkeep/codec/ObjectStreamShape$Puts" "keys" "[I" (.ref kb) := F65.other W53 (Or.inr (slot_ne (Or.inl (hw _ (List.mem_of_getElem? (i := 13) rfl))) (Or.inl (hw _ (List.mem_of_getElem? (i := 18) rfl))) (by decide) (t := (.array .int)) (t' := (.array .int)) (by decide) (by decide)))
  have F67 : Fld Z h34 a "com/example/sessionkeep/sessionkeep/codec/ObjectStreamShape$Puts" "weights" "[J" (.ref wb) := Fw33.ext E34
  have F68 : Fld Z h53 a "com/example/sessionkeep/sessionkeep/codec/ObjectStreamShape$Puts" "weights" "[J" (.ref wb) := F67.other W53 (Or.inr (slot_ne (Or.inl (hw _ (List.mem_of_getElem? (i := 16) rfl))) (Or.inl (hw _ (List.mem_of_getElem? (i := 18) rfl))) (by decide) (t := (.array .long)) (t' := (.array .int)) (by decide) (by decide)))
  have F69 : Fld Z h2 a "com/example/sessionkeep/sessionkeep/codec/ObjectStreamShape$Puts" "size" "I" (.int (0 : Int32)) := F_a_size.ext E2
  have F70 : Fld Z h5 a "com/example/sessionkeep/sessionkeep/codec/ObjectStreamShape$Puts" "size" "I" (.int (0 : Int32)) := F69.other W5 (Or.inr (slot_ne (Or.inl (hw _ (List.mem_of_getElem? (i := 76) rfl))) (Or.inl (hw _ (List.mem_of_getElem? (i := 11) rfl))) (by decide) (t := .int) (t' := (.array .int)) (by decide) (by decide)))
  have F71 : Fld Z h6 a "com/example/sessionkeep/sessionkeep/codec/ObjectStreamShape$Puts" "size" "I" (.int (0 : Int32)) := F70.ext E6
  have F72 : Fld Z h17 a "com/example/sessionkeep/sessionkeep/codec/ObjectStreamShape$Puts" "size" "I" (.int (0 : Int32)) := F71.other W17 (Or.inr (slot_ne (Or.inl (hw _ (List.mem_of_getElem? (i := 76) rfl))) (Or.inl (hw _ (List.mem_of_getElem? (i := 13) rfl))) (by decide) (t := .int) (t' := (.array .int)) (by decide) (by decide)))
  have F73 : Fld Z h18 a "com/example/sessionkeep/sessionkeep/codec/ObjectStreamShape$Puts" "size" "I" (.int (0 : Int32)) := F72.ext E18
  have F74 : Fld Z h33 a "com/example/sessionkeep/sessionkeep/codec/ObjectStreamShape$Puts" "size" "I" (.int (0 : Int32)) := F73.other W33 (Or.inr (slot_ne (Or.inl (hw _ (List.mem_of_getElem? (i := 76) rfl))) (Or.inl (hw _ (List.mem_of_getElem? (i := 16) rfl))) (by decide) (t := .int) (t' := (.array .long)) (by decide) (by decide)))
  have F75 : Fld Z h34 a "com/example/sessionkeep/sessionkeep/codec/ObjectStreamShape$Puts" "size" "I" (.int (0 : Int32)) := F74.ext E34
  have F76 : Fld Z h53 a "com/example/sessionkeep/sessionkeep/codec/ObjectStreamShape$Puts" "size" "I" (.int (0 : Int32)) := F75.other W53 (Or.inr (slot_ne (Or.inl (hw _ (List.mem_of_getElem? (i := 76) rfl))) (Or.inl (hw _ (List.mem_of_getElem? (i := 18) rfl))) (by decide) (t := .int) (t' := (.array .int)) (by decide) (by decide)))
  have F77 : Arv Z h5 tb k2 .int (16 : Int32) [(.int (0 : Int32)), (.int (0 : Int32)), (.int (0 : Int32)), (.int (0 : Int32)), (.int (0 : Int32)), (.int (0 : Int32)), (.int (0 : Int32)), (.int (0 : Int32)), (.int (0 : Int32)), (.int (0 : Int32)), (.int (0 : Int32)), (.int (0 : Int32)), (.int (0 : Int32)), (.int (0 : Int32)), (.int (0 : Int32)), (.int (0 : Int32))] (.int (0 : Int32)) := V_tb.other W5 (Ne.symm ne_a_tb)
  have F78 : Arv Z h6 tb k2 .int (16 : Int32) [(.int (0 : Int32)), (.int (0 : Int32)), (.int (0 : Int32)), (.int (0 : Int32)), (.int (0 : Int32)), (.int (0 : Int32)), (.int (0 : Int32)), (.int (0 : Int32)), (.int (0 : Int32)), (.int (0 : Int32)), (.int (0 : Int32)), (.int (0 : Int32)), (.int (0 : Int32)), (.int (0 : Int32)), (.int (0 : Int32)), (.int (0 : Int32))] (.int (0 : Int32)) := F77.ext E6
  have F79 : Arv Z h17 tb k2 .int (16 : Int32) [(.int (0 : Int32)), (.int (0 : Int32)), (.int (0 : Int32)), (.int (0 : Int32)), (.int (0 : Int32)), (.int (0 : Int32)), (.int (0 : Int32)), (.int (0 : Int32)), (.int (0 : Int32)), (.int (0 : Int32)), (.int (0 : Int32)), (.int (0 : Int32)), (.int (0 : Int32)), (.int (0 : Int32)), (.int (0 : Int32)), (.int (0 : Int32))] (.int (0 : Int32)) := F78.other W17 (Ne.symm ne_a_tb)
  have F80 : Arv Z h18 tb k2 .int (16 : Int32) [(.int (0 : Int32)), (.int (0 : Int32)), (.int (0 : Int32)), (.int (0 : Int32)), (.int (0 : Int32)), (.int (0 : Int32)), (.int (0 : Int32)), (.int (0 : Int32)), (.int (0 : Int32)), (.int (0 : Int32)), (.int (0 : Int32)), (.int (0 : Int32)), (.int (0 : Int32)), (.int (0 : Int32)), (.int (0 : Int32)), (.int (0 : Int32))] (.int (0 : Int32)) := F79.ext E18
  have F81 : Arv Z h33 tb k2 .int (16 : Int32) [(.int (0 : Int32)), (.int (0 : Int32)), (.int (0 : Int32)), (.int (0 : Int32)), (.int (0 : Int32)), (.int (0 : Int32)), (.int (0 : Int32)), (.int (0 : Int32)), (.int (0 : Int32)), (.int (0 : Int32)), (.int (0 : Int32)), (.int (0 : Int32)), (.int (0 : Int32)), (.int (0 : Int32)), (.int (0 : Int32)), (.int (0 : Int32))] (.int (0 : Int32)) := F80.other W33 (Ne.symm ne_a_tb)
  have F82 : Arv Z h34 tb k2 .int (16 : Int32) [(.int (0 : Int32)), (.int (0 : Int32)), (.int (0 : Int32)), (.int (0 : Int32)), (.int (0 : Int32)), (.int (0 : Int32)), (.int (0 : Int32)), (.int (0 : Int32)), (.int (0 : Int32)), (.int (0 : Int32)), (.int (0 : Int32)), (.int (0 : Int32)), (.int (0 : Int32)), (.int (0 : Int32)), (.int (0 : Int32)), (.int (0 : Int32))] (.int (0 : Int32)) := F81.ext E34
  have F83 : Arv Z h53 tb k2 .int (16 : Int32) [(.int (0 : Int32)), (.int (0 : Int32)), (.int (0 : Int32)), (.int (0 : Int32)), (.int (0 : Int32)), (.int (0 : Int32)), (.int (0 : Int32)), (.int (0 : Int32)), (.int (0 : Int32)), (.int (0 : Int32)), (.int (0 : Int32)), (.int (0 : Int32)), (.int (0 : Int32)), (.int (0 : Int32)), (.int (0 : Int32)), (.int (0 : Int32))] (.int (0 : Int32)) := F82.other W53 (Ne.symm ne_a_tb)
  have F84 : Arv Z h17 kb k6 .int (16 : Int32) [(.int (0 : Int32)), (.int (0 : Int32)), (.int (0 : Int32)), (.int (0 : Int32)), (.int (0 : Int32)), (.int (0 : Int32)), (.int (0 : Int32)), (.int (0 : Int32)), (.int (0 : Int32)), (.int (0 : Int32)), (.int (0 : Int32)), (.int (0 : Int32)), (.int (0 : Int32)), (.int (0 : Int32)), (.int (0 : Int32)), (.int (0 : Int32))] (.int (0 : Int32)) := V_kb.other W17 (Ne.symm ne_a_kb)
  have F85 : Arv Z h18 kb k6 .int (16 : Int32) [(.int (0 : Int32)), (.int (0 : Int32)), (.int (0 : Int32)), (.int (0 : Int32)), (.int (0 : Int32)), (.int (0 : Int32)), (.int (0 : Int32)), (.int (0 : Int32)), (.int (0 : Int32)), (.int (0 : Int32)), (.int (0 : Int32)), (.int (0 : Int32)), (.int (0 : Int32)), (.int (0 : Int32)), (.int (0 : Int32)), (.int (0 : Int32))] (.int (0 : Int32)) := F84.ext E18
  have F86 : Arv Z h33 kb k6 .int (16 : Int32) [(.int (0 : Int32)), (.int (0 : Int32)), (.int (0 : Int32)), (.int (0 : Int32)), (.int (0 : Int32)), (.int (0 : Int32)), (.int (0 : Int32)), (.int (0 : Int32)), (.int (0 : Int32)), (.int (0 : Int32)), (.int (0 : Int32)), (.int (0 : Int32)), (.int (0 : Int32)), (.int (0 : Int32)), (.int (0 : Int32)), (.int (0 : Int32))] (.int (0 : Int32)) := F85.other W33 (Ne.symm ne_a_kb)
  have F87 : Arv Z h34 kb k6 .int (16 : Int32) [(.int (0 : Int32)), (.int (0 : Int32)), (.int (0 : Int32)), (.int (0 : Int32)), (.int (0 : Int32)), (.int (0 : Int32)), (.int (0 : Int32)), (.int (0 : Int32)), (.int (0 : Int32)), (.int (0 : Int32)), (.int (0 : Int32)), (.int (0 : Int32)), (.int (0 : Int32)), (.int (0 : Int32)), (.int (0 : Int32)), (.int (0 : Int32))] (.int (0 : Int32)) := F86.ext E34
  have F88 : Arv Z h53 kb k6 .int (16 : Int32) [(.int (0 : Int32)), (.int (0 : Int32)), (.int (0 : Int32)), (.int (0 : Int32)), (.int (0 : Int32)), (.int (0 : Int32)), (.int (0 : Int32)), (.int (0 : Int32)), (.int (0 : Int32)), (.int (0 : Int32)), (.int (0 : Int32)), (.int (0 : Int32)), (.int (0 : Int32)), (.int (0 : Int32)), (.int (0 : Int32)), (.int (0 : Int32))] (.int (0 : Int32)) := F87.other W53 (Ne.symm ne_a_kb)
  have F89 : Arv Z h33 wb k18 .long (16 : Int32) [(.long (0 : Int64)), (.long (0 : Int64)), (.long (0 : Int64)), (.long (0 : Int64)), (.long (0 : Int64)), (.long (0 : Int64)), (.long (0 : Int64)), (.long (0 : Int64)), (.long (0 : Int64)), (.long (0 : Int64)), (.long (0 : Int64)), (.long (0 : Int64)), (.long (0 : Int64)), (.long (0 : Int64)), (.long (0 : Int64)), (.long (0 : Int64))] (.long (0 : Int64)) := V_wb.other W33 (Ne.symm ne_a_wb)
  have F90 : Arv Z h34 wb k18 .long (16 : Int32) [(.long (0 : Int64)), (.long (0 : Int64)), (.long (0 : Int64)), (.long (0 : Int64)), (.long (0 : Int64)), (.long (0 : Int64)), (.long (0 : Int64)), (.long (0 : Int64)), (.long (0 : Int64)), (.long (0 : Int64)), (.long (0 : Int64)), (.long (0 : Int64)), (.long (0 : Int64)), (.long (0 : Int64)), (.long (0 : Int64)), (.long (0 : Int64))] (.long (0 : Int64)) := F89.ext E34
  have F91 : Arv Z h53 wb k18 .long (16 : Int32) [(.long (0 : Int64)), (.long (0 : Int64)), (.long (0 : Int64)), (.long (0 : Int64)), (.long (0 : Int64)), (.long (0 : Int64)), (.long (0 : Int64)), (.long (0 : Int64)), (.long (0 : Int64)), (.long (0 : Int64)), (.long (0 : Int64)), (.long (0 : Int64)), (.long (0 : Int64)), (.long (0 : Int64)), (.long (0 : Int64)), (.long (0 : Int64))] (.long (0 : Int64)) := F90.other W53 (Ne.symm ne_a_wb)
  have F92 : Arv Z h53 ab k34 .int (16 : Int32) [(.int (0 : Int32)), (.int (0 : Int32)), (.int (0 : Int32)), (.int (0 : Int32)), (.int (0 : Int32)), (.int (0 : Int32)), (.int (0 : Int32)), (.int (0 : Int32)), (.int (0 : Int32)), (.int (0 : Int32)), (.int (0 : Int32)), (.int (0 : Int32)), (.int (0 : Int32)), (.int (0 : Int32)), (.int (0 : Int32)), (.int (0 : Int32))] (.int (0 : Int32)) := V_ab.other W53 (Ne.symm ne_a_ab)
  exact Go.retV X53 hx Bd.notSynchronized Bd.returns (hb hby d1_36) (by rw [e53]; exact ⟨tb, kb, wb, ab, k2, k6, k18, k34, rfl, N53, F55, F56, F62, F66, F68, Fw53, F76, F83, F88, F91, F92, sz_tb, sz_kb, sz_wb, sz_ab, ne_tb_kb, ne_tb_wb, ne_tb_ab, ne_kb_wb, ne_kb_ab, ne_wb_ab⟩) (by decide) (by decide)
theorem pn_25 : plainName "com/example/sessionkeep/sessionkeep/codec/ObjectStreamShape$Table" = true := by first | (simp [plainName, overriddenIn]; done) | decide +kernel
theorem ef_26 (m : MethodId) (x0 : Addr) (x1 : Int32) (x4 : Int32) (x5 : Int32) (x6 : Int32) : entryFrame m #[(.ref x0), (.int x1), .null, .null, (.int x4), (.int x5), (.int x6)] 7 = mkF m 0 #[.val (.ref x0), .val (.int x1), .val .null, .val .null, .val (.int x4), .val (.int x5), .val (.int x6)] [] := by (first | (simp [entryFrame, mkF, argsToLocals, Value.category]; done) | rfl)
theorem d3_0 : decode prog_14_method_1_code 0 = .ok (.aload_n 0, 1) := by decide +kernel
theorem d3_1 : decode prog_14_method_1_code 1 = .ok (.invokespecial 1, 3) := by decide +kernel
theorem d3_4 : decode prog_14_method_1_code 4 = .ok (.aload_n 0, 1) := by decide +kernel
theorem d3_5 : decode prog_14_method_1_code 5 = .ok (.iload_n 1, 1) := by decide +kernel
theorem d3_6 : decode prog_14_method_1_code 6 = .ok (.putfield 7, 3) := by decide +kernel
theorem d3_9 : decode prog_14_method_1_code 9 = .ok (.aload_n 0, 1) := by decide +kernel
theorem d3_10 : decode prog_14_method_1_code 10 = .ok (.aload_n 2, 1) := by decide +kernel
theorem d3_11 : decode prog_14_method_1_code 11 = .ok (.putfield 13, 3) := by decide +kernel
theorem d3_14 : decode prog_14_method_1_code 14 = .ok (.aload_n 0, 1) := by decide +kernel
theorem d3_15 : decode prog_14_method_1_code 15 = .ok (.aload_n 3, 1) := by decide +kernel
theorem d3_16 : decode prog_14_method_1_code 16 = .ok (.putfield 17, 3) := by decide +kernel
theorem d3_19 : decode prog_14_method_1_code 19 = .ok (.aload_n 0, 1) := by decide +kernel
theorem d3_20 : decode prog_14_method_1_code 20 = .ok (.iload 4, 2) := by decide +kernel
theorem d3_22 : decode prog_14_method_1_code 22 = .ok (.putfield 21, 3) := by decide +kernel
theorem d3_25 : decode prog_14_method_1_code 25 = .ok (.aload_n 0, 1) := by decide +kernel
theorem d3_26 : decode prog_14_method_1_code 26 = .ok (.iload 5, 2) := by decide +kernel
theorem d3_28 : decode prog_14_method_1_code 28 = .ok (.putfield 25, 3) := by decide +kernel
theorem d3_31 : decode prog_14_method_1_code 31 = .ok (.aload_n 0, 1) := by decide +kernel
theorem d3_32 : decode prog_14_method_1_code 32 = .ok (.iload 6, 2) := by decide +kernel
theorem d3_34 : decode prog_14_method_1_code 34 = .ok (.putfield 28, 3) := by decide +kernel
theorem d3_37 : decode prog_14_method_1_code 37 = .ok (.return_, 1) := by decide +kernel
def Q_rmTable (Z : State) (a : Addr) (x : Int32) (b : Int32) (y : Int32) (z : Int32) (h0 : Heap) (n0 : Nat) (v : Option Value) (h : Heap) (L : List Loc) : Prop := v = none ∧ Fr n0 L ∧ Keep h0 h [a] ∧ Exa Z h a "com/example/sessionkeep/sessionkeep/codec/ObjectStreamShape$Table" ∧ Fld Z h a "com/example/sessionkeep/sessionkeep/codec/ObjectStreamShape$Table" "index" "I" (.int x)
set_option maxRecDepth 65536 in
set_option maxHeartbeats 40000000 in
theorem rmTable (l : Launch) (Z : State) (a0 : Array Value) (hw : ∀ d ∈ tables_1, d.before a0 Z = true) (ws : List Jvm.Cond) (a : Addr) (x : Int32) (b : Int32) (y : Int32) (z : Int32) (h0 : Heap) (n0 : Nat) (Z0 : n0 ≤ h0.size) (E_a : Exa Z h0 a "com/example/sessionkeep/sessionkeep/codec/ObjectStreamShape$Table") (F_a_index : Fld Z h0 a "com/example/sessionkeep/sessionkeep/codec/ObjectStreamShape$Table" "index" "I" (.int (0 : Int32))) (F_a_owner : Fld Z h0 a "com/example/sessionkeep/sessionkeep/codec/ObjectStreamShape$Table" "owner" "Lcom/example/sessionkeep/sessionkeep/codec/ObjectStreamShape$Node;" .null) (F_a_layout : Fld Z h0 a "com/example/sessionkeep/sessionkeep/codec/ObjectStreamShape$Table" "layout" "Lcom/example/sessionkeep/sessionkeep/codec/ObjectStreamShape$Layout;" .null) (F_a_pairs : Fld Z h0 a "com/example/sessionkeep/sessionkeep/codec/ObjectStreamShape$Table" "pairs" "Z" (.int (0 : Int32))) (F_a_depth : Fld Z h0 a "com/example/sessionkeep/sessionkeep/codec/ObjectStreamShape$Table" "depth" "I" (.int (0 : Int32))) (F_a_start : Fld Z h0 a "com/example/sessionkeep/sessionkeep/codec/ObjectStreamShape$Table" "start" "I" (.int (0 : Int32))) (g_a : n0 ≤ a) (hbo : (narrow .boolean (.int b) = .int b)) (fbo : (fits .boolean (.int b) = true)) :
    MetFree l (⟨"com/example/sessionkeep/sessionkeep/codec/ObjectStreamShape$Table", "<init>", "(ILcom/example/sessionkeep/sessionkeep/codec/ObjectStreamShape$Node;Lcom/example/sessionkeep/sessionkeep/codec/ObjectStreamShape$Layout;ZII)V"⟩ : MethodName) (head1 (Jvm.Cond.code (⟨"com/example/sessionkeep/sessionkeep/codec/ObjectStreamShape$Table", "<init>", "(ILcom/example/sessionkeep/sessionkeep/codec/ObjectStreamShape$Node;Lcom/example/sessionkeep/sessionkeep/codec/ObjectStreamShape$Layout;ZII)V"⟩ : MethodName) prog_14_method_1_code 7 none :: ws) ({ frames := 1, cells := 0, slots := 0, locals := 12 } : Room)) (fun as' U => as' = #[(.ref a), (.int x), .null, .null, (.int b), (.int y), (.int z)] ∧ Z.Warmed39 U.vm ∧ U.heap = h0) (fun _ _ _ _ _ => True) (fun _ U o U' => ∃ v L, o = .returned v ∧ Q_rmTable Z a x b y z h0 n0 v U'.heap L ∧ FrameEnd U o U' L ({ frames := 1, cells := 0, slots := 0, locals := 12 } : Room).cells ({ frames := 1, cells := 0, slots := 0, locals := 12 } : Room).slots) := by
  refine MetFree.of_bodySF (plainFor_of_name pn_25) hisR ?_
  intro p e s m args below meth c s₁ Bd hml0 hP hK
  obtain ⟨rfl, hZ, hh⟩ := hP
  have hx := Bd.exec
  have hby := Bd.bytes
  have hml : c.maxLocals = 7 := hml0
  have hown : s.vm.findClass "com/example/sessionkeep/sessionkeep/codec/ObjectStreamShape$Table" = some m.cls := findClass_of_methodNamed Bd.named
  have hnm := (name_of_methodNamed Bd.named Bd.method).1
  have X0 : Stand p l e ({ frames := 1, cells := 0, slots := 0, locals := 12 } : Room) s m #[(.ref a), (.int x), .null, .null, (.int b), (.int y), (.int z)] below meth c s₁ [] 0 0 := Stand.of_body Bd
  have e0 : s₁.heap = h0 := by rw [← hh, Bd.state]; rfl
  have N0 := Fr.nil n0
  refine Go.enter (F := EndN s (Q_rmTable Z a x b y z h0 n0) ({ frames := 1, cells := 0, slots := 0, locals := 12 } : Room).cells ({ frames := 1, cells := 0, slots := 0, locals := 12 } : Room).slots) (ef_26 m a x b y z) ?_
  show Go _ _ _ _ s₁ (mkF m 0 #[.val (.ref a), .val (.int x), .val .null, .val .null, .val (.int b), .val (.int y), .val (.int z)] [])
  refine Go.by (fun _ gk => XS.aloadN X0.here hx rfl (hb hby d3_0) rfl rfl gk) ?_
  show Go _ _ _ _ s₁ (mkF m 1 #[.val (.ref a), .val (.int x), .val .null, .val .null, .val (.int b), .val (.int y), .val (.int z)] [(.ref a)])
  obtain ⟨T1, X1, e1, st1⟩ := initO X0 hx hZ hown (hw _ (List.mem_of_getElem? (i := 25) rfl)) (hw _ (List.mem_of_getElem? (i := 7) rfl)) (hw _ (List.mem_of_getElem? (i := 8) rfl)) e0 (g := (mkF m 1 #[.val (.ref a), .val (.int x), .val .null, .val .null, .val (.int b), .val (.int y), .val (.int z)] [(.ref a)])) rfl (by rw [hml]; rfl) rfl (hb hby d3_1) (by decide) (W := 0) (by show 2 * 0 + _ ≤ _; exact Nat.le_of_eq rfl) (by decide)
  refine Go.by st1 ?_
  show Go _ _ _ _ T1 (mkF m 4 #[.val (.ref a), .val (.int x), .val .null, .val .null, .val (.int b), .val (.int y), .val (.int z)] [])
  refine Go.by (fun _ gk => XS.aloadN X1.here hx rfl (hb hby d3_4) rfl rfl gk) ?_
  show Go _ _ _ _ T1 (mkF m 5 #[.val (.ref a), .val (.int x), .val .null, .val .null, .val (.int b), .val (.int y), .val (.int z)] [(.ref a)])
  refine Go.by (fun _ gk => XS.iloadN X1.here hx rfl (hb hby d3_5) rfl gk) ?_
  show Go _ _ _ _ T1 (mkF m 6 #[.val (.ref a), .val (.int x), .val .null, .val .null, .val (.int b), .val (.int y), .val (.int z)] [(.int x), (.ref a)])
  obtain ⟨T2, h2, X2, e2, W2, st2⟩ := putF X1 hx hZ hown (host := "") (Or.inl (hw _ (List.mem_of_getElem? (i := 26) rfl))) Via.refl e1 F_a_index E_a (Or.inr ⟨(hw _ (List.mem_of_getElem? (i := 27) rfl)), rfl, hnm⟩) (hw _ (List.mem_of_getElem? (i := 20) rfl)) (ty := .int) (by decide) rfl rfl (g := (mkF m 6 #[.val (.ref a), .val (.int x), .val .null, .val .null, .val (.int b), .val (.int y), .val (.int z)] [(.int x), (.ref a)])) rfl rfl (hb hby d3_6)
  have N2 := Fr.snoc X2 N0 g_a
  have Fw2 : Fld Z h2 a "com/example/sessionkeep/sessionkeep/codec/ObjectStreamShape$Table" "index" "I" (.int x) := F_a_index.same W2
  refine Go.by st2 ?_
  show Go _ _ _ _ T2 (mkF m 9 #[.val (.ref a), .val (.int x), .val .null, .val .null, .val (.int b), .val (.int y), .val (.int z)] [])
  refine Go.by (fun _ gk => XS.aloadN X2.here hx rfl (hb hby d3_9) rfl rfl gk) ?_
  show Go _ _ _ _ T2 (mkF m 10 #[.val (.ref a), .val (.int x), .val .null, .val .null, .val (.int b), .val (.int y), .val (.int z)] [(.ref a)])
  refine Go.by (fun _ gk => XS.aloadN X2.here hx rfl (hb hby d3_10) rfl rfl gk) ?_
  show Go _ _ _ _ T2 (mkF m 11 #[.val (.ref a), .val (.int x), .val .null, .val .null, .val (.int b), .val (.int y), .val (.int z)] [.null, (.ref a)])
  have F3 : Fld Z h2 a "com/example/sessionkeep/sessionkeep/codec/ObjectStreamShape$Table" "owner" "Lcom/example/sessionkeep/sessionkeep/codec/ObjectStreamShape$Node;" .null := F_a_owner.other W2 (Or.inr (slot_ne (Or.inr (hw _ (List.mem_of_getElem? (i := 29) rfl))) (Or.inr (hw _ (List.mem_of_getElem? (i := 27) rfl))) (by decide) (t := (.object "com/example/sessionkeep/sessionkeep/codec/ObjectStreamShape$Node")) (t' := .int) (by decide) (by decide)))
  have F4 : Exa Z h2 a "com/example/sessionkeep/sessionkeep/codec/ObjectStreamShape$Table" := E_a.wr W2
  obtain ⟨T5, h5, X5, e5, W5, st5⟩ := putF X2 hx hZ hown (host := "") (Or.inl (hw _ (List.mem_of_getElem? (i := 28) rfl))) Via.refl e2 F3 F4 (Or.inr ⟨(hw _ (List.mem_of_getElem? (i := 29) rfl)), rfl, hnm⟩) (hw _ (List.mem_of_getElem? (i := 20) rfl)) (ty := (.object "com/example/sessionkeep/sessionkeep/codec/ObjectStreamShape$Node")) (by decide) rfl rfl (g := (mkF m 11 #[.val (.ref a), .val (.int x), .val .null, .val .null, .val (.int b), .val (.int y), .val (.int z)] [.null, (.ref a)])) rfl rfl (hb hby d3_11)
  have N5 := Fr.snoc X5 N2 g_a
  have Fw5 : Fld Z h5 a "com/example/sessionkeep/sessionkeep/codec/ObjectStreamShape$Table" "owner" "Lcom/example/sessionkeep/sessionkeep/codec/ObjectStreamShape$Node;" .null := F3.same W5
  refine Go.by st5 ?_
  show Go _ _ _ _ T5 (mkF m 14 #[.val (.ref a), .val (.int x), .val .null, .val .null, .val (.int b), .val (.int y), .val (.int z)] [])
  refine Go.by (fun _ gk => XS.aloadN X5.here hx rfl (hb hby d3_14) rfl rfl gk) ?_
  show Go _ _ _ _ T5 (mkF m 15 #[.val (.ref a), .val (.int x), .val .null, .val .null, .val (.int b), .val (.int y), .val (.int z)] [(.ref a)])
  refine Go.by (fun _ gk => XS.aloadN X5.here hx rfl (hb hby d3_15) rfl rfl gk) ?_
  show Go _ _ _ _ T5 (mkF m 16 #[.val (.ref a), .val (.int x), .val .null, .val .null, .val (.int b), .val (.int y), .val (.int z)] [.null, (.ref a)])
  have F6 : Fld Z h2 a "com/example/sessionkeep/sessionkeep/codec/ObjectStreamShape$Table" "layout" "Lcom/example/sessionkeep/sessionkeep/codec/ObjectStreamShape$Layout;" .null := F_a_layout.other W2 (Or.inr (slot_ne (Or.inr (hw _ (List.mem_of_getElem? (i := 31) rfl))) (Or.inr (hw _ (List.mem_of_getElem? (i := 27) rfl))) (by decide) (t := (.object "com/example/sessionkeep/sessionkeep/codec/ObjectStreamShape$Layout")) (t' := .int) (by decide) (by decide)))
  have F7 : Fld Z h5 a "com/example/sessionkeep/sessionkeep/codec/ObjectStreamShape$Table" "layout" "Lcom/example/sessionkeep/sessionkeep/codec/ObjectStreamShape$Layout;" .null := F6.other W5 (Or.inr (slot_ne (Or.inr (hw _ (List.mem_of_getElem? (i := 31) rfl))) (Or.inr (hw _ (List.mem_of_getElem? (i := 29) rfl))) (by decide) (t := (.object "com/example/sessionkeep/sessionkeep/codec/ObjectStreamShape$Layout")) (t' := (.object "com/example/sessionkeep/sessionkeep/codec/ObjectStreamShape$Node")) (by decide) (by decide)))
  have F8 : Exa Z h5 a "com/example/sessionkeep/sessionkeep/codec/ObjectStreamShape$Table" := F4.wr W5
  obtain ⟨T9, h9, X9, e9, W9, st9⟩ := putF X5 hx hZ hown (host := "") (Or.inl (hw _ (List.mem_of_getElem? (i := 30) rfl))) Via.refl e5 F7 F8 (Or.inr ⟨(hw _ (List.mem_of_getElem? (i := 31) rfl)), rfl, hnm⟩) (hw _ (List.mem_of_getElem? (i := 20) rfl)) (ty := (.object "com/example/sessionkeep/sessionkeep/codec/ObjectStreamShape$Layout")) (by decide) rfl rfl (g := (mkF m 16 #[.val (.ref a), .val (.int x), .val .null, .val .null, .val (.int b), .val (.int y), .val (.int z)] [.null, (.ref a)])) rfl rfl (hb hby d3_16)
  have N9 := Fr.snoc X9 N5 g_a
  have Fw9 : Fld Z h9 a "com/example/sessionkeep/sessionkeep/codec/ObjectStreamShape$Table" "layout" "Lcom/example/sessionkeep/sessionkeep/codec/ObjectStreamShape$Layout;" .null := F7.same W9
  refine Go.by st9 ?_
  show Go _ _ _ _ T9 (mkF m 19 #[.val (.ref a), .val (.int x), .val .null, .val .null, .val (.int b), .val (.int y), .val (.int z)] [])
  refine Go.by (fun _ gk => XS.aloadN X9.here hx rfl (hb hby d3_19) rfl rfl gk) ?_
  show Go _ _ _ _ T9 (mkF m 20 #[.val (.ref a), .val (.int x), .val .null, .val .null, .val (.int b), .val (.int y), .val (.int z)] [(.ref a)])
  refine Go.by (fun _ gk => XS.iload X9.here hx rfl (hb hby d3_20) rfl gk) ?_
  show Go _ _ _ _ T9 (mkF m 22 #[.val (.ref a), .val (.int x), .val .null, .val .null, .val (.int b), .val (.int y), .val (.int z)] [(.int b), (.ref a)])
  have F10 : Fld Z h2 a "com/example/sessionkeep/sessionkeep/codec/ObjectStreamShape$Table" "pairs" "Z" (.int (0 : Int32)) := F_a_pairs.other W2 (Or.inr (slot_ne (Or.inr (hw _ (List.mem_of_getElem? (i := 33) rfl))) (Or.inr (hw _ (List.mem_of_getElem? (i := 27) rfl))) (by decide) (t := .boolean) (t' := .int) (by decide) (by decide)))
  have F11 : Fld Z h5 a "com/example/sessionkeep/sessionkeep/codec/ObjectStreamShape$Table" "pairs" "Z" (.int (0 : Int32)) := F10.other W5 (Or.inr (slot_ne (Or.inr (hw _ (List.mem_of_getElem? (i := 33) rfl))) (Or.inr (hw _ (List.mem_of_getElem? (i := 29) rfl))) (by decide) (t := .boolean) (t' := (.object "com/example/sessionkeep/sessionkeep/codec/ObjectStreamShape$Node")) (by decide) (by decide)))
  have F12 : Fld Z h9 a "com/example/sessionkeep/sessionkeep/codec/ObjectStreamShape$Table" "pairs" "Z" (.int (0 : Int32)) := F11.other W9 (Or.inr (slot_ne (Or.inr (hw _ (List.mem_of_getElem? (i := 33) rfl))) (Or.inr (hw _ (List.mem_of_getElem? (i := 31) rfl))) (by decide) (t := .boolean) (t' := (.object "com/example/sessionkeep/sessionkeep/codec/ObjectStreamShape$Layout")) (by decide) (by decide)))
  have F13 : Exa Z h9 a "com/example/sessionkeep/sessionkeep/codec/ObjectStreamShape$Table" := F8.wr W9
  obtain ⟨T14, h14, X14, e14, W14, st14⟩ := putFN X9 hx hZ hown (hw _ (List.mem_of_getElem? (i := 32) rfl)) Via.refl e9 F12 F13 (Or.inr ⟨(hw _ (List.mem_of_getElem? (i := 33) rfl)), rfl, hnm⟩) (hw _ (List.mem_of_getElem? (i := 20) rfl)) (ty := .boolean) (v' := (.int b)) (by decide) hbo fbo (g := (mkF m 22 #[.val (.ref a), .val (.int x), .val .null, .val .null, .val (.int b), .val (.int y), .val (.int z)] [(.int b), (.ref a)])) rfl rfl (hb hby d3_22)
  have N14 := Fr.snoc X14 N9 g_a
  have Fw14 : Fld Z h14 a "com/example/sessionkeep/sessionkeep/codec/ObjectStreamShape$Table" "pairs" "Z" (.int b) := F12.same W14
  refine Go.by st14 ?_
  show Go _ _ _ _ T14 (mkF m 25 #[.val (.ref a), .val (.int x), .val .null, .val .null, .val (.int b), .val (.int y), .val (.int z)] [])
  refine Go.by (fun _ gk => XS.aloadN X14.here hx rfl (hb hby d3_25) rfl rfl gk) ?_
  show Go _ _ _ _ T14 (mkF m 26 #[.val (.ref a), .val (.int x), .val .null, .val .null, .val (.int b), .val (.int y), .val (.int z)] [(.ref a)])
  refine Go.by (fun _ gk => XS.iload X14.here hx rfl (hb hby d3_26) rfl gk) ?_
  show Go _ _ _ _ T14 (mkF m 28 #[.val (.ref a), .val (.int x), .val .null, .val .null, .val (.int b), .val (.int y), .val (.int z)] [(.int y), (.ref a)])
  have F15 : Fld Z h2 a "com/example/sessionkeep/sessionkeep/codec/ObjectStreamShape$Table" "depth" "I" (.int (0 : Int32)) := F_a_depth.other W2 (Or.inr (slot_ne (Or.inr (hw _ (List.mem_of_getElem? (i := 35) rfl))) (Or.inr (hw _ (List.mem_of_getElem? (i := 27) rfl))) (by decide) (t := .int) (t' := .int) (by decide) (by decide)))
  have F16 : Fld Z h5 a "com/example/sessionkeep/sessionkeep/codec/ObjectStreamShape$Table" "depth" "I" (.int (0 : Int32)) := F15.other W5 (Or.inr (slot_ne (Or.inr (hw _ (List.mem_of_getElem? (i := 35) rfl))) (Or.inr (hw _ (List.mem_of_getElem? (i := 29) rfl))) (by decide) (t := .int) (t' := (.object "com/example/sessionkeep/sessionkeep/codec/ObjectStreamShape$Node")) (by decide) (by decide)))
  have F17 : Fld Z h9 a "com/example/sessionkeep/sessionkeep/codec/ObjectStreamShape$Table" "depth" "I" (.int (0 : Int32)) := F16.other W9 (Or.inr (slot_ne (Or.inr (hw _ (List.mem_of_getElem? (i := 35) rfl))) (Or.inr (hw _ (List.mem_of_getElem? (i := 31) rfl))) (by decide) (t := .int) (t' := (.object "com/example/sessionkeep/sessionkeep/codec/ObjectStreamShape$Layout")) (by decide) (by decide)))
  have F18 : Fld Z h14 a "com/example/sessionkeep/sessionkeep/codec/ObjectStreamShape$Table" "depth" "I" (.int (0 : Int32)) := F17.other W14 (Or.inr (slot_ne (Or.inr (hw _ (List.mem_of_getElem? (i := 35) rfl))) (Or.inr (hw _ (List.mem_of_getElem? (i := 33) rfl))) (by decide) (t := .int) (t' := .boolean) (by decide) (by decide)))
  have F19 : Exa Z h14 a "com/example/sessionkeep/sessionkeep/codec/ObjectStreamShape$Table" := F13.wr W14
  obtain ⟨T20, h20, X20, e20, W20, st20⟩ := putF X14 hx hZ hown (host := "") (Or.inl (hw _ (List.mem_of_getElem? (i := 34) rfl))) Via.refl e14 F18 F19 (Or.inr ⟨(hw _ (List.mem_of_getElem? (i := 35) rfl)), rfl, hnm⟩) (hw _ (List.mem_of_getElem? (i := 20) rfl)) (ty := .int) (by decide) rfl rfl (g := (mkF m 28 #[.val (.ref a), .val (.int x), .val .null, .val .null, .val (.int b), .val (.int y), .val (.int z)] [(.int y), (.ref a)])) rfl rfl (hb hby d3_28)
  have N20 := Fr.snoc X20 N14 g_a
  have Fw20 : Fld Z h20 a "com/example/sessionkeep/sessionkeep/codec/ObjectStreamShape$Table" "depth" "I" (.int y) := F18.same W20
  refine Go.by st20 ?_
  show Go _ _ _ _ T20 (mkF m 31 #[.val (.ref a), .val (.int x), .val .null, .val .null, .val (.int b), .val (.int y), .val (.int z)] [])
  refine Go.by (fun _ gk => XS.aloadN X20.here hx rfl (hb hby d3_31) rfl rfl gk) ?_
  show Go _ _ _ _ T20 (mkF m 32 #[.val (.ref a), .val (.int x), .val .null, .val .null, .val (.int b), .val (.int y), .val (.int z)] [(.ref a)])
  refine Go.by (fun _ gk => XS.iload X20.here hx rfl (hb hby d3_32) rfl gk) ?_
  show Go _ _ _ _ T20 (mkF m 34 #[.val (.ref a), .val (.int x), .val .null, .val .null, .val (.int b), .val (.int y), .val (.int z)] [(.int z), (.ref a)])
  have F21 : Fld Z h2 a "com/example/sessionkeep/sessionkeep/codec/ObjectStreamShape$Table" "start" "I" (.int (0 : Int32)) := F_a_start.other W2 (Or.inr (slot_ne (Or.inr (hw _ (List.mem_of_getElem? (i := 37) rfl))) (Or.inr (hw _ (List.mem_of_getElem? (i := 27) rfl))) (by decide) (t := .int) (t' := .int) (by decide) (by decide)))
  have F22 : Fld Z h5 a "com/example/sessionkeep/sessionkeep/codec/ObjectStreamShape$Table" "start" "I" (.int (0 : Int32)) := F21.other W5 (Or.inr (slot_ne (Or.inr (hw _ (List.mem_of_getElem? (i := 37) rfl))) (Or.inr (hw _ (List.mem_of_getElem? (i := 29) rfl))) (by decide) (t := .int) (t' := (.object "com/example/sessionkeep/sessionkeep/codec/ObjectStreamShape$Node")) (by decide) (by decide)))
  have F23 : Fld Z h9 a "com/example/sessionkeep/sessionkeep/codec/ObjectStreamShape$Table" "start" "I" (.int (0 : Int32)) := F22.other W9 (Or.inr (slot_ne (Or.inr (hw _ (List.mem_of_getElem? (i := 37) rfl))) (Or.inr (hw _ (List.mem_of_getElem? (i := 31) rfl))) (by decide) (t := .int) (t' := (.object "com/example/sessionkeep/sessionkeep/codec/ObjectStreamShape$Layout")) (by decide) (by decide)))
  have F24 : Fld Z h14 a "com/example/sessionkeep/sessionkeep/codec/ObjectStreamShape$Table" "start" "I" (.int (0 : Int32)) := F23.other W14 (Or.inr (slot_ne (Or.inr (hw _ (List.mem_of_getElem? (i := 37) rfl))) (Or.inr (hw _ (List.mem_of_getElem? (i := 33) rfl))) (by decide) (t := .int) (t' := .boolean) (by decide) (by decide)))
  have F25 : Fld Z h20 a "com/example/sessionkeep/sessionkeep/codec/ObjectStreamShape$Table" "start" "I" (.int (0 : Int32)) := F24.other W20 (Or.inr (slot_ne (Or.inr (hw _ (List.mem_of_getElem? (i := 37) rfl))) (Or.inr (hw _ (List.mem_of_getElem? (i := 35) rfl))) (by decide) (t := .int) (t' := .int) (by decide) (by decide)))
  have F26 : Exa Z h20 a "com/example/sessionkeep/sessionkeep/codec/ObjectStreamShape$Table" := F19.wr W20
  obtain ⟨T27, h27, X27, e27, W27, st27⟩ := putF X20 hx hZ hown (host := "") (Or.inl (hw _ (List.mem_of_getElem? (i := 36) rfl))) Via.refl e20 F25 F26 (Or.inr ⟨(hw _ (List.mem_of_getElem? (i := 37) rfl)), rfl, hnm⟩) (hw _ (List.mem_of_getElem? (i := 20) rfl)) (ty := .int) (by decide) rfl rfl (g := (mkF m 34 #[.val (.ref a), .val (.int x), .val .null, .val .null, .val (.int b), .val (.int y), .val (.int z)] [(.int z), (.ref a)])) rfl rfl (hb hby d3_34)
  have N27 := Fr.snoc X27 N20 g_a
  have Fw27 : Fld Z h27 a "com/example/sessionkeep/sessionkeep/codec/ObjectStreamShape$Table" "start" "I" (.int z) := F25.same W27
  refine Go.by st27 ?_
  show Go _ _ _ _ T27 (mkF m 37 #[.val (.ref a), .val (.int x), .val .null, .val .null, .val (.int b), .val (.int y), .val (.int z)] [])
  have F28 : Keep h0 h2 [a] := (Keep.refl h0 [a]).wr W2 (Or.inl (List.mem_of_getElem? (i := 0) rfl))
  have F29 : Keep h0 h5 [a] := F28.wr W5 (Or.inl (List.mem_of_getElem? (i := 0) rfl))
  have F30 : Keep h0 h9 [a] := F29.wr W9 (Or.inl (List.mem_of_getElem? (i := 0) rfl))
  have F31 : Keep h0 h14 [a] := F30.wr W14 (Or.inl (List.mem_of_getElem? (i := 0) rfl))
  have F32 : Keep h0 h20 [a] := F31.wr W20 (Or.inl (List.mem_of_getElem? (i := 0) rfl))
  have F33 : Keep h0 h27 [a] := F32.wr W27 (Or.inl (List.mem_of_getElem? (i := 0) rfl))
  have F34 : Exa Z h27 a "com/example/sessionkeep/sessionkeep/codec/ObjectStreamShape$Table" := F26.wr W27
  have F35 : Fld Z h5 a "com/example/sessionkeep/sessionkeep/codec/ObjectStreamShape$Table" "index" "I" (.int x) := Fw2.other W5 (Or.inr (slot_ne (Or.inr (hw _ (List.mem_of_getElem? (i := 27) rfl))) (Or.inr (hw _ (List.mem_of_getElem? (i := 29) rfl))) (by decide) (t := .int) (t' := (.object "com/example/sessionkeep/sessionkeep/codec/ObjectStreamShape$Node")) (by decide) (by decide)))
  have F36 : Fld Z h9 a "com/example/sessionkeep/sessionkeep/codec/ObjectStreamShape$Table" "index" "I" (.int x) := F35.other W9 (Or.inr (slot_ne (Or.inr (hw _ (List.mem_of_getElem? (i := 27) rfl))) (Or.inr (hw _ (List.mem_of_getElem? (i := 31) rfl))) (by decide) (t := .int) (t' := (.object "com/example/sessionkeep/sessionkeep/codec/ObjectStreamShape$Layout")) (by decide) (by decide)))
  have F37 : Fld Z h14 a "com/example/sessionkeep/sessionkeep/codec/ObjectStreamShape$Table" "index" "I" (.int x) := F36.other W14 (Or.inr (slot_ne (Or.inr (hw _ (List.mem_of_getElem? (i := 27) rfl))) (Or.inr (hw _ (List.mem_of_getElem? (i := 33) rfl))) (by decide) (t := .int) (t' := .boolean) (by decide) (by decide)))
  have F38 : Fld Z h20 a "com/example/sessionkeep/sessionkeep/codec/ObjectStreamShape$Table" "index" "I" (.int x) := F37.other W20 (Or.inr (slot_ne (Or.inr (hw _ (List.mem_of_getElem? (i := 27) rfl))) (Or.inr (hw _ (List.mem_of_getElem? (i := 35) rfl))) (by decide) (t := .int) (t' := .int) (by decide) (by decide)))
  have F39 : Fld Z h27 a "com/example/sessionkeep/sessionkeep/codec/ObjectStreamShape$Table" "index" "I" (.int x) := F38.other W27 (Or.inr (slot_ne (Or.inr (hw _ (List.mem_of_getElem? (i := 27) rfl))) (Or.inr (hw _ (List.mem_of_getElem? (i := 37) rfl))) (by decide) (t := .int) (t' := .int) (by decide) (by decide)))
  exact Go.retV X27 hx Bd.notSynchronized Bd.returns (hb hby d3_37) (by rw [e27]; exact ⟨rfl, N27, F33, F34, F39⟩) (by decide) (by decide)
theorem pn_48 : plainName "com/example/sessionkeep/sessionkeep/codec/ObjectStreamShape$Node" = true := by first | (simp [plainName, overriddenIn]; done) | decide +kernel
theorem ef_49 (m : MethodId) (x0 : Addr) (x1 : Int32) (x2 : Int32) : entryFrame m #[(.ref x0), (.int x1), (.int x2)] 3 = mkF m 0 #[.val (.ref x0), .val (.int x1), .val (.int x2)] [] := by (first | (simp [entryFrame, mkF, argsToLocals, Value.category]; done) | rfl)
theorem d4_0 : decode prog_12_method_1_code 0 = .ok (.aload_n 0, 1) := by decide +kernel
theorem d4_1 : decode prog_12_method_1_code 1 = .ok (.invokespecial 1, 3) := by decide +kernel
theorem d4_4 : decode prog_12_method_1_code 4 = .ok (.aload_n 0, 1) := by decide +kernel
theorem pd_53 : parseMethodDescriptor "()Ljava/util/List;" = some ⟨[], some (.object "java/util/List")⟩ := by decide +kernel
theorem d4_5 : decode prog_12_method_1_code 5 = .ok (.invokestatic 7, 3) := by decide +kernel
theorem d4_8 : decode prog_12_method_1_code 8 = .ok (.putfield 13, 3) := by decide +kernel
theorem d4_11 : decode prog_12_method_1_code 11 = .ok (.aload_n 0, 1) := by decide +kernel
theorem d4_12 : decode prog_12_method_1_code 12 = .ok (.lconst 1, 1) := by decide +kernel
theorem d4_13 : decode prog_12_method_1_code 13 = .ok (.putfield 19, 3) := by decide +kernel
theorem d4_16 : decode prog_12_method_1_code 16 = .ok (.aload_n 0, 1) := by decide +kernel
theorem d4_17 : decode prog_12_method_1_code 17 = .ok (.lconst 1, 1) := by decide +kernel
theorem d4_18 : decode prog_12_method_1_code 18 = .ok (.putfield 23, 3) := by decide +kernel
theorem d4_21 : decode prog_12_method_1_code 21 = .ok (.aload_n 0, 1) := by decide +kernel
theorem d4_22 : decode prog_12_method_1_code 22 = .ok (.iconst (-1), 1) := by decide +kernel
theorem d4_23 : decode prog_12_method_1_code 23 = .ok (.putfield 26, 3) := by decide +kernel
theorem d4_26 : decode prog_12_method_1_code 26 = .ok (.aload_n 0, 1) := by decide +kernel
theorem d4_27 : decode prog_12_method_1_code 27 = .ok (.iconst 0, 1) := by decide +kernel
theorem d4_28 : decode prog_12_method_1_code 28 = .ok (.putfield 30, 3) := by decide +kernel
theorem d4_31 : decode prog_12_method_1_code 31 = .ok (.aload_n 0, 1) := by decide +kernel
theorem d4_32 : decode prog_12_method_1_code 32 = .ok (.iload_n 1, 1) := by decide +kernel
theorem d4_33 : decode prog_12_method_1_code 33 = .ok (.putfield 33, 3) := by decide +kernel
theorem d4_36 : decode prog_12_method_1_code 36 = .ok (.aload_n 0, 1) := by decide +kernel
theorem d4_37 : decode prog_12_method_1_code 37 = .ok (.iload_n 2, 1) := by decide +kernel
theorem d4_38 : decode prog_12_method_1_code 38 = .ok (.putfield 37, 3) := by decide +kernel
theorem d4_41 : decode prog_12_method_1_code 41 = .ok (.return_, 1) := by decide +kernel
def Q_rmNode (Z : State) (a : Addr) (b : Int32) (r : Int32) (el : Addr) (h0 : Heap) (n0 : Nat) (v : Option Value) (h : Heap) (L : List Loc) : Prop := v = none ∧ Fr n0 L ∧ Keep h0 h [a] ∧ Exa Z h a "com/example/sessionkeep/sessionkeep/codec/ObjectStreamShape$Node" ∧ Fld Z h a "com/example/sessionkeep/sessionkeep/codec/ObjectStreamShape$Node" "size" "J" (.long (1 : Int64)) ∧ Fld Z h a "com/example/sessionkeep/sessionkeep/codec/ObjectStreamShape$Node" "weight" "J" (.long (1 : Int64)) ∧ Fld Z h a "com/example/sessionkeep/sessionkeep/codec/ObjectStreamShape$Node" "ordinal" "I" (.int (-1 : Int32)) ∧ Fld Z h a "com/example/sessionkeep/sessionkeep/codec/ObjectStreamShape$Node" "jdk" "Z" (.int b) ∧ Fld Z h a "com/example/sessionkeep/sessionkeep/codec/ObjectStreamShape$Node" "array" "Z" (.int r)
set_option maxRecDepth 65536 in
set_option maxHeartbeats 40000000 in
theorem rmNode (l : Launch) (Z : State) (a0 : Array Value) (hw : ∀ d ∈ tables_1, d.before a0 Z = true) (ws : List Jvm.Cond) (a : Addr) (b : Int32) (r : Int32) (el : Addr) (h0 : Heap) (n0 : Nat) (Z0 : n0 ≤ h0.size) (O0 : Old Z n0 h0) (E_a : Exa Z h0 a "com/example/sessionkeep/sessionkeep/codec/ObjectStreamShape$Node") (F_a_held : Fld Z h0 a "com/example/sessionkeep/sessionkeep/codec/ObjectStreamShape$Node" "held" "Ljava/util/List;" .null) (F_a_size : Fld Z h0 a "com/example/sessionkeep/sessionkeep/codec/ObjectStreamShape$Node" "size" "J" (.long (0 : Int64))) (F_a_weight : Fld Z h0 a "com/example/sessionkeep/sessionkeep/codec/ObjectStreamShape$Node" "weight" "J" (.long (0 : Int64))) (F_a_ordinal : Fld Z h0 a "com/example/sessionkeep/sessionkeep/codec/ObjectStreamShape$Node" "ordinal" "I" (.int (0 : Int32))) (F_a_visit : Fld Z h0 a "com/example/sessionkeep/sessionkeep/codec/ObjectStreamShape$Node" "visit" "I" (.int (0 : Int32))) (F_a_jdk : Fld Z h0 a "com/example/sessionkeep/sessionkeep/codec/ObjectStreamShape$Node" "jdk" "Z" (.int (0 : Int32))) (F_a_array : Fld Z h0 a "com/example/sessionkeep/sessionkeep/codec/ObjectStreamShape$Node" "array" "Z" (.int (0 : Int32))) (g_a : n0 ≤ a) (hbo : (narrow .boolean (.int b) = .int b)) (fbo : (fits .boolean (.int b) = true)) (hro : (narrow .boolean (.int r) = .int r)) (fro : (fits .boolean (.int r) = true)) (S_el : Sta Z Z.heap "java/util/ImmutableCollections" "EMPTY_LIST" "Ljava/util/ImmutableCollections$ListN;" (.ref el)) :
    MetFree l (⟨"com/example/sessionkeep/sessionkeep/codec/ObjectStreamShape$Node", "<init>", "(ZZ)V"⟩ : MethodName) (head1 (Jvm.Cond.code (⟨"com/example/sessionkeep/sessionkeep/codec/ObjectStreamShape$Node", "<init>", "(ZZ)V"⟩ : MethodName) prog_12_method_1_code 3 none :: ws) ({ frames := 1, cells := 0, slots := 0, locals := 12 } : Room)) (fun as' U => as' = #[(.ref a), (.int b), (.int r)] ∧ Z.Warmed39 U.vm ∧ U.heap = h0) (fun _ _ _ _ _ => True) (fun _ U o U' => ∃ v L, o = .returned v ∧ Q_rmNode Z a b r el h0 n0 v U'.heap L ∧ FrameEnd U o U' L ({ frames := 1, cells := 0, slots := 0, locals := 12 } : Room).cells ({ frames := 1, cells := 0, slots := 0, locals := 12 } : Room).slots) := by
  refine MetFree.of_bodySF (plainFor_of_name pn_48) hisR ?_
  intro p e s m args below meth c s₁ Bd hml0 hP hK
  obtain ⟨rfl, hZ, hh⟩ := hP
  have hx := Bd.exec
  have hby := Bd.bytes
  have hml : c.maxLocals = 3 := hml0
  have hown : s.vm.findClass "com/example/sessionkeep/sessionkeep/codec/ObjectStreamShape$Node" = some m.cls := findClass_of_methodNamed Bd.named
  have hnm := (name_of_methodNamed Bd.named Bd.method).1
  have X0 : Stand p l e ({ frames := 1, cells := 0, slots := 0, locals := 12 } : Room) s m #[(.ref a), (.int b), (.int r)] below meth c s₁ [] 0 0 := Stand.of_body Bd
  have e0 : s₁.heap = h0 := by rw [← hh, Bd.state]; rfl
  have N0 := Fr.nil n0
  refine Go.enter (F := EndN s (Q_rmNode Z a b r el h0 n0) ({ frames := 1, cells := 0, slots := 0, locals := 12 } : Room).cells ({ frames := 1, cells := 0, slots := 0, locals := 12 } : Room).slots) (ef_49 m a b r) ?_
  show Go _ _ _ _ s₁ (mkF m 0 #[.val (.ref a), .val (.int b), .val (.int r)] [])
  refine Go.by (fun _ gk => XS.aloadN X0.here hx rfl (hb hby d4_0) rfl rfl gk) ?_
  show Go _ _ _ _ s₁ (mkF m 1 #[.val (.ref a), .val (.int b), .val (.int r)] [(.ref a)])
  obtain ⟨T1, X1, e1, st1⟩ := initO X0 hx hZ hown (hw _ (List.mem_of_getElem? (i := 44) rfl)) (hw _ (List.mem_of_getElem? (i := 7) rfl)) (hw _ (List.mem_of_getElem? (i := 8) rfl)) e0 (g := (mkF m 1 #[.val (.ref a), .val (.int b), .val (.int r)] [(.ref a)])) rfl (by rw [hml]; rfl) rfl (hb hby d4_1) (by decide) (W := 0) (by show 2 * 0 + _ ≤ _; exact Nat.le_of_eq rfl) (by decide)
  refine Go.by st1 ?_
  show Go _ _ _ _ T1 (mkF m 4 #[.val (.ref a), .val (.int b), .val (.int r)] [])
  refine Go.by (fun _ gk => XS.aloadN X1.here hx rfl (hb hby d4_4) rfl rfl gk) ?_
  show Go _ _ _ _ T1 (mkF m 5 #[.val (.ref a), .val (.int b), .val (.int r)] [(.ref a)])
  obtain ⟨_, _, ⟨T2, L2, k2, n2⟩, -, X2, ⟨Lc2, hQ2, l2, y2, z2⟩, st2⟩ := Jvm.LawKit.callS X1 hx (y := (⟨"java/util/List", "of", "()Ljava/util/List;"⟩ : MethodName)) hown (mvT hZ (hw _ (List.mem_of_getElem? (i := 45) rfl))) (mvT hZ (hw _ (List.mem_of_getElem? (i := 46) rfl))) (mvT hZ (hw _ (List.mem_of_getElem? (i := 47) rfl))) (mvT hZ (hw _ (List.mem_of_getElem? (i := 48) rfl))) (by decide) (backOf (W := 1) (rmOf l Z a0 hw [] el h0 n0 Z0 O0 S_el) hZ (hw _ (List.mem_of_getElem? (i := 48) rfl)) (hw _ (List.mem_of_getElem? (i := 47) rfl)) (by decide) (by decide)) (g := (mkF m 5 #[.val (.ref a), .val (.int b), .val (.int r)] [(.ref a)])) rfl (by rw [hml]; rfl) (argsL := []) (rest := [(.ref a)]) (lenOf pd_53 rfl) rfl (by show 2 * 0 + _ ≤ _; exact Nat.le_of_eq rfl) (hb hby d4_5) (fun _ _ => ⟨rfl, e1, (by decide : 0 + 0 ≤ _), (by decide : 0 + 0 ≤ _)⟩)
  dsimp only [Pt.U, Pt.locs, Pt.cells, Pt.slots] at X2 l2 y2 z2 st2 hQ2
  subst l2 y2 z2
  obtain ⟨rfl, N2q, e2⟩ := hQ2
  have N2 := Fr.app N0 N2q
  refine Go.by st2 ?_
  show Go _ _ _ _ T2 (mkF m 8 #[.val (.ref a), .val (.int b), .val (.int r)] [(.ref el), (.ref a)])
  obtain ⟨T3, h3, X3, e3, W3, st3⟩ := putF X2 hx hZ hown (host := "") (Or.inl (hw _ (List.mem_of_getElem? (i := 51) rfl))) Via.refl e2 F_a_held E_a (Or.inl (hw _ (List.mem_of_getElem? (i := 52) rfl))) (hw _ (List.mem_of_getElem? (i := 39) rfl)) (ty := (.object "java/util/List")) (by decide) rfl rfl (g := (mkF m 8 #[.val (.ref a), .val (.int b), .val (.int r)] [(.ref el), (.ref a)])) rfl rfl (hb hby d4_8)
  have N3 := Fr.snoc X3 N2 g_a
  have Fw3 : Fld Z h3 a "com/example/sessionkeep/sessionkeep/codec/ObjectStreamShape$Node" "held" "Ljava/util/List;" (.ref el) := F_a_held.same W3
  refine Go.by st3 ?_
  show Go _ _ _ _ T3 (mkF m 11 #[.val (.ref a), .val (.int b), .val (.int r)] [])
  refine Go.by (fun _ gk => XS.aloadN X3.here hx rfl (hb hby d4_11) rfl rfl gk) ?_
  show Go _ _ _ _ T3 (mkF m 12 #[.val (.ref a), .val (.int b), .val (.int r)] [(.ref a)])
  refine Go.by (fun _ gk => XT.lconstV X3.here hx rfl (1 : Int64) (hb hby d4_12) (by decide) gk) ?_
  show Go _ _ _ _ T3 (mkF m 13 #[.val (.ref a), .val (.int b), .val (.int r)] [(.long (1 : Int64)), (.ref a)])
  have F4 : Fld Z h3 a "com/example/sessionkeep/sessionkeep/codec/ObjectStreamShape$Node" "size" "J" (.long (0 : Int64)) := F_a_size.other W3 (Or.inr (slot_ne (Or.inl (hw _ (List.mem_of_getElem? (i := 54) rfl))) (Or.inl (hw _ (List.mem_of_getElem? (i := 52) rfl))) (by decide) (t := .long) (t' := (.object "java/util/List")) (by decide) (by decide)))
  have F5 : Exa Z h3 a "com/example/sessionkeep/sessionkeep/codec/ObjectStreamShape$Node" := E_a.wr W3
  obtain ⟨T6, h6, X6, e6, W6, st6⟩ := putF X3 hx hZ hown (host := "") (Or.inl (hw _ (List.mem_of_getElem? (i := 53) rfl))) Via.refl e3 F4 F5 (Or.inl (hw _ (List.mem_of_getElem? (i := 54) rfl))) (hw _ (List.mem_of_getElem? (i := 39) rfl)) (ty := .long) (by decide) rfl rfl (g := (mkF m 13 #[.val (.ref a), .val (.int b), .val (.int r)] [(.long (1 : Int64)), (.ref a)])) rfl rfl (hb hby d4_13)
  have N6 := Fr.snoc X6 N3 g_a
  have Fw6 : Fld Z h6 a "com/example/sessionkeep/sessionkeep/codec/ObjectStreamShape$Node" "size" "J" (.long (1 : Int64)) := F4.same W6
  refine Go.by st6 ?_
  show Go _ _ _ _ T6 (mkF m 16 #[.val (.ref a), .val (.int b), .val (.int r)] [])
  refine Go.by (fun _ gk => XS.aloadN X6.here hx rfl (hb hby d4_16) rfl rfl gk) ?_
  show Go _ _ _ _ T6 (mkF m 17 #[.val (.ref a), .val (.int b), .val (.int r)] [(.ref a)])
  refine Go.by (fun _ gk => XT.lconstV X6.here hx rfl (1 : Int64) (hb hby d4_17) (by decide) gk) ?_
  show Go _ _ _ _ T6 (mkF m 18 #[.val (.ref a), .val (.int b), .val (.int r)] [(.long (1 : Int64)), (.ref a)])
  have F7 : Fld Z h3 a "com/example/sessionkeep/sessionkeep/codec/ObjectStreamShape$Node" "weight" "J" (.long (0 : Int64)) := F_a_weight.other W3 (Or.inr (slot_ne (Or.inl (hw _ (List.mem_of_getElem? (i := 56) rfl))) (Or.inl (hw _ (List.mem_of_getElem? (i := 52) rfl))) (by decide) (t := .long) (t' := (.object "java/util/List")) (by decide) (by decide)))
  have F8 : Fld Z h6 a "com/example/sessionkeep/sessionkeep/codec/ObjectStreamShape$Node" "weight" "J" (.long (0 : Int64)) := F7.other W6 (Or.inr (slot_ne (Or.inl (hw _ (List.mem_of_getElem? (i := 56) rfl))) (Or.inl (hw _ (List.mem_of_getElem? (i := 54) rfl))) (by decide) (t := .long) (t' := .long) (by decide) (by decide)))
  have F9 : Exa Z h6 a "com/example/sessionkeep/sessionkeep/codec/ObjectStreamShape$Node" := F5.wr W6
  obtain ⟨T10, h10, X10, e10, W10, st10⟩ := putF X6 hx hZ hown (host := "") (Or.inl (hw _ (List.mem_of_getElem? (i := 55) rfl))) Via.refl e6 F8 F9 (Or.inl (hw _ (List.mem_of_getElem? (i := 56) rfl))) (hw _ (List.mem_of_getElem? (i := 39) rfl)) (ty := .long) (by decide) rfl rfl (g := (mkF m 18 #[.val (.ref a), .val (.int b), .val (.int r)] [(.long (1 : Int64)), (.ref a)])) rfl rfl (hb hby d4_18)
  have N10 := Fr.snoc X10 N6 g_a
  have Fw10 : Fld Z h10 a "com/example/sessionkeep/sessionkeep/codec/ObjectStreamShape$Node" "weight" "J" (.long (1 : Int64)) := F8.same W10
  refine Go.by st10 ?_
  show Go _ _ _ _ T10 (mkF m 21 #[.val (.ref a), .val (.int b), .val (.int r)] [])
  refine Go.by (fun _ gk => XS.aloadN X10.here hx rfl (hb hby d4_21) rfl rfl gk) ?_
  show Go _ _ _ _ T10 (mkF m 22 #[.val (.ref a), .val (.int b), .val (.int r)] [(.ref a)])
  refine Go.by (fun _ gk => XT.iconstV X10.here hx rfl (-1 : Int32) (hb hby d4_22) (by decide) gk) ?_
  show Go _ _ _ _ T10 (mkF m 23 #[.val (.ref a), .val (.int b), .val (.int r)] [(.int (-1 : Int32)), (.ref a)])
  have F11 : Fld Z h3 a "com/example/sessionkeep/sessionkeep/codec/ObjectStreamShape$Node" "ordinal" "I" (.int (0 : Int32)) := F_a_ordinal.other W3 (Or.inr (slot_ne (Or.inl (hw _ (List.mem_of_getElem? (i := 58) rfl))) (Or.inl (hw _ (List.mem_of_getElem? (i := 52) rfl))) (by decide) (t := .int) (t' := (.object "java/util/List")) (by decide) (by decide)))
  have F12 : Fld Z h6 a "com/example/sessionkeep/sessionkeep/codec/ObjectStreamShape$Node" "ordinal" "I" (.int (0 : Int32)) := F11.other W6 (Or.inr (slot_ne (Or.inl (hw _ (List.mem_of_getElem? (i := 58) rfl))) (Or.inl (hw _ (List.mem_of_getElem? (i := 54) rfl))) (by decide) (t := .int) (t' := .long) (by decide) (by decide)))
  have F13 : Fld Z h10 a "com/example/sessionkeep/sessionkeep/codec/ObjectStreamShape$Node" "ordinal" "I" (.int (0 : Int32)) := F12.other W10 (Or.inr (slot_ne (Or.inl (hw _ (List.mem_of_getElem? (i := 58) rfl))) (Or.inl (hw _ (List.mem_of_getElem? (i := 56) rfl))) (by decide) (t := .int) (t' := .long) (by decide) (by decide)))
  have F14 : Exa Z h10 a "com/example/sessionkeep/sessionkeep/codec/ObjectStreamShape$Node" := F9.wr W10
  obtain ⟨T15, h15, X15, e15, W15, st15⟩ := putF X10 hx hZ hown (host := "") (Or.inl (hw _ (List.mem_of_getElem? (i := 57) rfl))) Via.refl e10 F13 F14 (Or.inl (hw _ (List.mem_of_getElem? (i := 58) rfl))) (hw _ (List.mem_of_getElem? (i := 39) rfl)) (ty := .int) (by decide) rfl rfl (g := (mkF m 23 #[.val (.ref a), .val (.int b), .val (.int r)] [(.int (-1 : Int32)), (.ref a)])) rfl rfl (hb hby d4_23)
  have N15 := Fr.snoc X15 N10 g_a
  have Fw15 : Fld Z h15 a "com/example/sessionkeep/sessionkeep/codec/ObjectStreamShape$Node" "ordinal" "I" (.int (-1 : Int32)) := F13.same W15
  refine Go.by st15 ?_
  show Go _ _ _ _ T15 (mkF m 26 #[.val (.ref a), .val (.int b), .val (.int r)] [])
  refine Go.by (fun _ gk => XS.aloadN X15.here hx rfl (hb hby d4_26) rfl rfl gk) ?_
  show Go _ _ _ _ T15 (mkF m 27 #[.val (.ref a), .val (.int b), .val (.int r)] [(.ref a)])
  refine Go.by (fun _ gk => XT.iconstV X15.here hx rfl (0 : Int32) (hb hby d4_27) (by decide) gk) ?_
  show Go _ _ _ _ T15 (mkF m 28 #[.val (.ref a), .val (.int b), .val (.int r)] [(.int (0 : Int32)), (.ref a)])
  have F16 : Fld Z h3 a "com/example/sessionkeep/sessionkeep/codec/ObjectStreamShape$Node" "visit" "I" (.int (0 : Int32)) := F_a_visit.other W3 (Or.inr (slot_ne (Or.inl (hw _ (List.mem_of_getElem? (i := 60) rfl))) (Or.inl (hw _ (List.mem_of_getElem? (i := 52) rfl))) (by decide) (t := .int) (t' := (.object "java/util/List")) (by decide) (by decide)))
  have F17 : Fld Z h6 a "com/example/sessionkeep/sessionkeep/codec/ObjectStreamShape$Node" "visit" "I" (.int (0 : Int32)) := F16.other W6 (Or.inr (slot_ne (Or.inl (hw _ (List.mem_of_getElem? (i := 60) rfl))) (Or.inl (hw _ (List.mem_of_getElem? (i := 54) rfl))) (by decide) (t := .int) (t' := .long) (by decide) (by decide)))
  have F18 : Fld Z h10 a "com/example/sessionkeep/sessionkeep/codec/ObjectStreamShape$Node" "visit" "I" (.int (0 : Int32)) := F17.other W10 (Or.inr (slot_ne (Or.inl (hw _ (List.mem_of_getElem? (i := 60) rfl))) (Or.inl (hw _ (List.mem_of_getElem? (i := 56) rfl))) (by decide) (t := .int) (t' := .long) (by decide) (by decide)))
  have F19 : Fld Z h15 a "com/example/sessionkeep/sessionkeep/codec/ObjectStreamShape$Node" "visit" "I" (.int (0 : Int32)) := F18.other W15 (Or.inr (slot_ne (Or.inl (hw _ (List.mem_of_getElem? (i := 60) rfl))) (Or.inl (hw _ (List.mem_of_getElem? (i := 58) rfl))) (by decide) (t := .int) (t' := .int) (by decide) (by decide)))
  have F20 : Exa Z h15 a "com/example/sessionkeep/sessionkeep/codec/ObjectStreamShape$Node" := F14.wr W15
  obtain ⟨T21, h21, X21, e21, W21, st21⟩ := putF X15 hx hZ hown (host := "") (Or.inl (hw _ (List.mem_of_getElem? (i := 59) rfl))) Via.refl e15 F19 F20 (Or.inl (hw _ (List.mem_of_getElem? (i := 60) rfl))) (hw _ (List.mem_of_getElem? (i := 39) rfl)) (ty := .int) (by decide) rfl rfl (g := (mkF m 28 #[.val (.ref a), .val (.int b), .val (.int r)] [(.int (0 : Int32)), (.ref a)])) rfl rfl (hb hby d4_28)
  have N21 := Fr.snoc X21 N15 g_a
  have Fw21 : Fld Z h21 a "com/example/sessionkeep/sessionkeep/codec/ObjectStreamShape$Node" "visit" "I" (.int (0 : Int32)) := F19.same W21
  refine Go.by st21 ?_
  show Go _ _ _ _ T21 (mkF m 31 #[.val (.ref a), .val (.int b), .val (.int r)] [])
  refine Go.by (fun _ gk => XS.aloadN X21.here hx rfl (hb hby d4_31) rfl rfl gk) ?_
  show Go _ _ _ _ T21 (mkF m 32 #[.val (.ref a), .val (.int b), .val (.int r)] [(.ref a)])
  refine Go.by (fun _ gk => XS.iloadN X21.here hx rfl (hb hby d4_32) rfl gk) ?_
  show Go _ _ _ _ T21 (mkF m 33 #[.val (.ref a), .val (.int b), .val (.int r)] [(.int b), (.ref a)])
  have F22 : Fld Z h3 a "com/example/sessionkeep/sessionkeep/codec/ObjectStreamShape$Node" "jdk" "Z" (.int (0 : Int32)) := F_a_jdk.other W3 (Or.inr (slot_ne (Or.inr (hw _ (List.mem_of_getElem? (i := 62) rfl))) (Or.inl (hw _ (List.mem_of_getElem? (i := 52) rfl))) (by decide) (t := .boolean) (t' := (.object "java/util/List")) (by decide) (by decide)))
  have F23 : Fld Z h6 a "com/example/sessionkeep/sessionkeep/codec/ObjectStreamShape$Node" "jdk" "Z" (.int (0 : Int32)) := F22.other W6 (Or.inr (slot_ne (Or.inr (hw _ (List.mem_of_getElem? (i := 62) rfl))) (Or.inl (hw _ (List.mem_of_getElem? (i := 54) rfl))) (by decide) (t := .boolean) (t' := .long) (by decide) (by decide)))
  have F24 : Fld Z h10 a "com/example/sessionkeep/sessionkeep/codec/ObjectStreamShape$Node" "jdk" "Z" (.int (0 : Int32)) := F23.other W10 (Or.inr (slot_ne (Or.inr (hw _ (List.mem_of_getElem? (i := 62) rfl))) (Or.inl (hw _ (List.mem_of_getElem? (i := 56) rfl))) (by decide) (t := .boolean) (t' := .long) (by decide) (by decide)))
  have F25 : Fld Z h15 a "com/example/sessionkeep/sessionkeep/codec/ObjectStreamShape$Node" "jdk" "Z" (.int (0 : Int32)) := F24.other W15 (Or.inr (slot_ne (Or.inr (hw _ (List.mem_of_getElem? (i := 62) rfl))) (Or.inl (hw _ (List.mem_of_getElem? (i := 58) rfl))) (by decide) (t := .boolean) (t' := .int) (by decide) (by decide)))
  have F26 : Fld Z h21 a "com/example/sessionkeep/sessionkeep/codec/ObjectStreamShape$Node" "jdk" "Z" (.int (0 : Int32)) := F25.other W21 (Or.inr (slot_ne (Or.inr (hw _ (List.mem_of_getElem? (i := 62) rfl))) (Or.inl (hw _ (List.mem_of_getElem? (i := 60) rfl))) (by decide) (t := .boolean) (t' := .int) (by decide) (by decide)))
  have F27 : Exa Z h21 a "com/example/sessionkeep/sessionkeep/codec/ObjectStreamShape$Node" := F20.wr W21
  obtain ⟨T28, h28, X28, e28, W28, st28⟩ := putFN X21 hx hZ hown (hw _ (List.mem_of_getElem? (i := 61) rfl)) Via.refl e21 F26 F27 (Or.inr ⟨(hw _ (List.mem_of_getElem? (i := 62) rfl)), rfl, hnm⟩) (hw _ (List.mem_of_getElem? (i := 39) rfl)) (ty := .boolean) (v' := (.int b)) (by decide) hbo fbo (g := (mkF m 33 #[.val (.ref a), .val (.int b), .val (.int r)] [(.int b), (.ref a)])) rfl rfl (hb hby d4_33)
  have N28 := Fr.snoc X28 N21 g_a
  have Fw28 : Fld Z h28 a "com/example/sessionkeep/sessionkeep/codec/ObjectStreamShape$Node" "jdk" "Z" (.int b) := F26.same W28
  refine Go.by st28 ?_
  show Go _ _ _ _ T28 (mkF m 36 #[.val (.ref a), .val (.int b), .val (.int r)] [])
  refine Go.by (fun _ gk => XS.aloadN X28.here hx rfl (hb hby d4_36) rfl rfl gk) ?_
  show Go _ _ _ _ T28 (mkF m 37 #[.val (.ref a), .val (.int b), .val (.int r)] [(.ref a)])
  refine Go.by (fun _ gk => XS.iloadN X28.here hx rfl (hb hby d4_37) rfl gk) ?_
  show Go _ _ _ _ T28 (mkF m 38 #[.val (.ref a), .val (.int b), .val (.int r)] [(.int r), (.ref a)])
  have F29 : Fld Z h3 a "com/example/sessionkeep/sessionkeep/codec/ObjectStreamShape$Node" "array" "Z" (.int (0 : Int32)) := F_a_array.other W3 (Or.inr (slot_ne (Or.inr (hw _ (List.mem_of_getElem? (i := 64) rfl))) (Or.inl (hw _ (List.mem_of_getElem? (i := 52) rfl))) (by decide) (t := .boolean) (t' := (.object "java/util/List")) (by decide) (by decide)))
  have F30 : Fld Z h6 a "com/example/sessionkeep/sessionkeep/codec/ObjectStreamShape$Node" "array" "Z" (.int (0 : Int32)) := F29.other W6 (Or.inr (slot_ne (Or.inr (hw _ (List.mem_of_getElem? (i := 64) rfl))) (Or.inl (hw _ (List.mem_of_getElem? (i := 54) rfl))) (by decide) (t := .boolean) (t' := .long) (by decide) (by decide)))
  have F31 : Fld Z h10 a "com/example/sessionkeep/sessionkeep/codec/ObjectStreamShape$Node" "array" "Z" (.int (0 : Int32)) := F30.other W10 (Or.inr (slot_ne (Or.inr (hw _ (List.mem_of_getElem? (i := 64) rfl))) (Or.inl (hw _ (List.mem_of_getElem? (i := 56) rfl))) (by decide) (t := .boolean) (t' := .long) (by decide) (by decide)))
  have F32 : Fld Z h15 a "com/example/sessionkeep/sessionkeep/codec/ObjectStreamShape$Node" "array" "Z" (.int (0 : Int32)) := F31.other W15 (Or.inr (slot_ne (Or.inr (hw _ (List.mem_of_getElem? (i := 64) rfl))) (Or.inl (hw _ (List.mem_of_getElem? (i := 58) rfl))) (by decide) (t := .boolean) (t' := .int) (by decide) (by decide)))
  have F33 : Fld Z h21 a "com/example/sessionkeep/sessionkeep/codec/ObjectStreamShape$Node" "array" "Z" (.int (0 : Int32)) := F32.other W21 (Or.inr (slot_ne (Or.inr (hw _ (List.mem_of_getElem? (i := 64) rfl))) (Or.inl (hw _ (List.mem_of_getElem? (i := 60) rfl))) (by decide) (t := .boolean) (t' := .int) (by decide) (by decide)))
  have F34 : Fld Z h28 a "com/example/sessionkeep/sessionkeep/codec/ObjectStreamShape$Node" "array" "Z" (.int (0 : Int32)) := F33.other W28 (Or.inr (slot_ne (Or.inr (hw _ (List.mem_of_getElem? (i := 64) rfl))) (Or.inr (hw _ (List.mem_of_getElem? (i := 62) rfl))) (by decide) (t := .boolean) (t' := .boolean) (by decide) (by decide)))
  have F35 : Exa Z h28 a "com/example/sessionkeep/sessionkeep/codec/ObjectStreamShape$Node" := F27.wr W28
  obtain ⟨T36, h36, X36, e36, W36, st36⟩ := putFN X28 hx hZ hown (hw _ (List.mem_of_getElem? (i := 63) rfl)) Via.refl e28 F34 F35 (Or.inr ⟨(hw _ (List.mem_of_getElem? (i := 64) rfl)), rfl, hnm⟩) (hw _ (List.mem_of_getElem? (i := 39) rfl)) (ty := .boolean) (v' := (.int r)) (by decide) hro fro (g := (mkF m 38 #[.val (.ref a), .val (.int b), .val (.int r)] [(.int r), (.ref a)])) rfl rfl (hb hby d4_38)
  have N36 := Fr.snoc X36 N28 g_a
  have Fw36 : Fld Z h36 a "com/example/sessionkeep/sessionkeep/codec/ObjectStreamShape$Node" "array" "Z" (.int r) := F34.same W36
  refine Go.by st36 ?_
  show Go _ _ _ _ T36 (mkF m 41 #[.val (.ref a), .val (.int b), .val (.int r)] [])
  have F37 : Keep h0 h3 [a] := (Keep.refl h0 [a]).wr W3 (Or.inl (List.mem_of_getElem? (i := 0) rfl))
  have F38 : Keep h0 h6 [a] := F37.wr W6 (Or.inl (List.mem_of_getElem? (i := 0) rfl))
  have F39 : Keep h0 h10 [a] := F38.wr W10 (Or.inl (List.mem_of_getElem? (i := 0) rfl))
  have F40 : Keep h0 h15 [a] := F39.wr W15 (Or.inl (List.mem_of_getElem? (i := 0) rfl))
  have F41 : Keep h0 h21 [a] := F40.wr W21 (Or.inl (List.mem_of_getElem? (i := 0) rfl))
  have F42 : Keep h0 h28 [a] := F41.wr W28 (Or.inl (List.mem_of_getElem? (i := 0) rfl))
  have F43 : Keep h0 h36 [a] := F42.wr W36 (Or.inl (List.mem_of_getElem? (i := 0) rfl))
  have F44 : Exa Z h36 a "com/example/sessionkeep/sessionkeep/codec/ObjectStreamShape$Node" := F35.wr W36
  have F45 : Fld Z h10 a "com/example/sessionkeep/sessionkeep/codec/ObjectStreamShape$Node" "size" "J" (.long (1 : Int64)) := Fw6.other W10 (Or.inr (slot_ne (Or.inl (hw _ (List.mem_of_getElem? (i := 54) rfl))) (Or.inl (hw _ (List.mem_of_getElem? (i := 56) rfl))) (by decide) (t := .long) (t' := .long) (by decide) (by decide)))
  have F46 : Fld Z h15 a "com/example/sessionkeep/sessionkeep/codec/ObjectStreamShape$Node" "size" "J" (.long (1 : Int64)) := F45.other W15 (Or.inr (slot_ne (Or.inl (hw _ (List.mem_of_getElem? (i := 54) rfl))) (Or.inl (hw _ (List.mem_of_getElem? (i := 58) rfl))) (by decide) (t := .long) (t' := .int) (by decide) (by decide)))
  have F47 : Fld Z h21 a "com/example/sessionkeep/sessionkeep/codec/ObjectStreamShape$Node" "size" "J" (.long (1 : Int64)) := F46.other W21 (Or.inr (slot_ne (Or.inl (hw _ (List.mem_of_getElem? (i := 54) rfl))) (Or.inl (hw _ (List.mem_of_getElem? (i := 60) rfl))) (by decide) (t := .long) (t' := .int) (by decide) (by decide)))
  have F48 : Fld Z h28 a "com/example/sessionkeep/sessionkeep/codec/ObjectStreamShape$Node" "size" "J" (.long (1 : Int64)) := F47.other W28 (Or.inr (slot_ne (Or.inl (hw _ (List.mem_of_getElem? (i := 54) rfl))) (Or.inr (hw _ (List.mem_of_getElem? (i := 62) rfl))) (by decide) (t := .long) (t' := .boolean) (by decide) (by decide)))
  have F49 : Fld Z h36 a "com/example/sessionkeep/sessionkeep/codec/ObjectStreamShape$Node" "size" "J" (.long (1 : Int64)) := F48.other W36 (Or.inr (slot_ne (Or.inl (hw _ (List.mem_of_getElem? (i := 54) rfl))) (Or.inr (hw _ (List.mem_of_getElem? (i := 64) rfl))) (by decide) (t := .long) (t' := .boolean) (by decide) (by decide)))
  have F50 : Fld Z h15 a "com/example/sessionkeep/sessionkeep/codec/ObjectStreamShape$Node" "weight" "J" (.long (1 : Int64)) := Fw10.other W15 (Or.inr (slot_ne (Or.inl (hw _ (List.mem_of_getElem? (i := 56) rfl))) (Or.inl (hw _ (List.mem_of_getElem? (i := 58) rfl))) (by decide) (t := .long) (t' := .int) (by decide) (by decide)))
  have F51 : Fld Z h21 a "com/example/sessionkeep/sessionkeep/codec/ObjectStreamShape$Node" "weight" "J" (.long (1 : Int64)) := F50.other W21 (Or.inr (slot_ne (Or.inl (hw _ (List.mem_of_getElem? (i := 56) rfl))) (Or.inl (hw _ (List.mem_of_getElem? (i := 60) rfl))) (by decide) (t := .long) (t' := .int) (by decide) (by decide)))
  have F52 : Fld Z h28 a "com/example/sessionkeep/sessionkeep/codec/ObjectStreamShape$Node" "weight" "J" (.long (1 : Int64)) := F51.other W28 (Or.inr (slot_ne (Or.inl (hw _ (List.mem_of_getElem? (i := 56) rfl))) (Or.inr (hw _ (List.mem_of_getElem? (i := 62) rfl))) (by decide) (t := .long) (t' := .boolean) (by decide) (by decide)))
  have F53 : Fld Z h36 a "com/example/sessionkeep/sessionkeep/codec/ObjectStreamShape$Node" "weight" "J" (.long (1 : Int64)) := F52.other W36 (Or.inr (slot_ne (Or.inl (hw _ (List.mem_of_getElem? (i := 56) rfl))) (Or.inr (hw _ (List.mem_of_getElem? (i := 64) rfl))) (by decide) (t := .long) (t' := .boolean) (by decide) (by decide)))
  have F54 : Fld Z h21 a "com/example/sessionkeep/sessionkeep/codec/ObjectStreamShape$Node" "ordinal" "I" (.int (-1 : Int32)) := Fw15.other W21 (Or.inr (slot_ne (Or.inl (hw _ (List.mem_of_getElem? (i := 58) rfl))) (Or.inl (hw _ (List.mem_of_getElem? (i := 60) rfl))) (by decide) (t := .int) (t' := .int) (by decide) (by decide)))
  have F55 : Fld Z h28 a "com/example/sessionkeep/sessionkeep/codec/ObjectStreamShape$Node" "ordinal" "I" (.int (-1 : Int32)) := F54.other W28 (Or.inr (slot_ne (Or.inl (hw _ (List.mem_of_getElem? (i := 58) rfl))) (Or.inr (hw _ (List.mem_of_getElem? (i := 62) rfl))) (by decide) (t := .int) (t' := .boolean) (by decide) (by decide)))
  have F56 : Fld Z h36 a "com/example/sessionkeep/sessionkeep/codec/ObjectStreamShape$Node" "ordinal" "I" (.int (-1 : Int32)) := F55.other W36 (Or.inr (slot_ne (Or.inl (hw _ (List.mem_of_getElem? (i := 58) rfl))) (Or.inr (hw _ (List.mem_of_getElem? (i := 64) rfl))) (by decide) (t := .int) (t' := .boolean) (by decide) (by decide)))
  have F57 : Fld Z h36 a "com/example/sessionkeep/sessionkeep/codec/ObjectStreamShape$Node" "jdk" "Z" (.int b) := Fw28.other W36 (Or.inr (slot_ne (Or.inr (hw _ (List.mem_of_getElem? (i := 62) rfl))) (Or.inr (hw _ (List.mem_of_getElem? (i := 64) rfl))) (by decide) (t := .boolean) (t' := .boolean) (by decide) (by decide)))
  exact Go.retV X36 hx Bd.notSynchronized Bd.returns (hb hby d4_41) (by rw [e36]; exact ⟨rfl, N36, F43, F44, F49, F53, F56, F57, Fw36⟩) (by decide) (by decide)
theorem ef_75 (m : MethodId) (x0 : Addr) (x1 : Addr) (x2 : Int32) : entryFrame m #[(.ref x0), (.ref x1), (.int x2)] 4 = mkF m 0 #[.val (.ref x0), .val (.ref x1), .val (.int x2), .unset] [] := by (first | (simp [entryFrame, mkF, argsToLocals, Value.category]; done) | rfl)
theorem d6_0 : decode prog_12_method_2_code 0 = .ok (.aload_n 0, 1) := by decide +kernel
theorem d6_1 : decode prog_12_method_2_code 1 = .ok (.dup, 1) := by decide +kernel
theorem d6_2 : decode prog_12_method_2_code 2 = .ok (.getfield 19, 3) := by decide +kernel
theorem d6_5 : decode prog_12_method_2_code 5 = .ok (.aload_n 1, 1) := by decide +kernel
theorem d6_6 : decode prog_12_method_2_code 6 = .ok (.getfield 19, 3) := by decide +kernel
theorem d6_9 : decode prog_12_method_2_code 9 = .ok (.ladd, 1) := by decide +kernel
theorem d6_10 : decode prog_12_method_2_code 10 = .ok (.putfield 19, 3) := by decide +kernel
theorem d6_13 : decode prog_12_method_2_code 13 = .ok (.aload_n 0, 1) := by decide +kernel
theorem d6_14 : decode prog_12_method_2_code 14 = .ok (.dup, 1) := by decide +kernel
theorem d6_15 : decode prog_12_method_2_code 15 = .ok (.getfield 23, 3) := by decide +kernel
theorem d6_18 : decode prog_12_method_2_code 18 = .ok (.aload_n 1, 1) := by decide +kernel
theorem d6_19 : decode prog_12_method_2_code 19 = .ok (.getfield 23, 3) := by decide +kernel
theorem d6_22 : decode prog_12_method_2_code 22 = .ok (.ladd, 1) := by decide +kernel
theorem d6_23 : decode prog_12_method_2_code 23 = .ok (.putfield 23, 3) := by decide +kernel
theorem d6_26 : decode prog_12_method_2_code 26 = .ok (.aload_n 1, 1) := by decide +kernel
theorem d6_27 : decode prog_12_method_2_code 27 = .ok (.getfield 37, 3) := by decide +kernel
theorem d6_30 : decode prog_12_method_2_code 30 = .ok (.ifCond .eq 23, 3) := by decide +kernel
theorem d6_53 : decode prog_12_method_2_code 53 = .ok (.aload_n 1, 1) := by decide +kernel
theorem d6_54 : decode prog_12_method_2_code 54 = .ok (.getfield 33, 3) := by decide +kernel
theorem d6_57 : decode prog_12_method_2_code 57 = .ok (.ifCond .eq 21, 3) := by decide +kernel
theorem d6_78 : decode prog_12_method_2_code 78 = .ok (.iconst 0, 1) := by decide +kernel
theorem d6_79 : decode prog_12_method_2_code 79 = .ok (.istore_n 3, 1) := by decide +kernel
theorem d6_80 : decode prog_12_method_2_code 80 = .ok (.iload_n 3, 1) := by decide +kernel
theorem d6_81 : decode prog_12_method_2_code 81 = .ok (.ifCond .eq 37, 3) := by decide +kernel
theorem d6_118 : decode prog_12_method_2_code 118 = .ok (.return_, 1) := by decide +kernel
def Q_rmHold (Z : State) (a : Addr) (b : Addr) (f : Int32) (s1 : Int64) (t1 : Int64) (u1 : Int64) (w1 : Int64) (ov : Int32) (h0 : Heap) (n0 : Nat) (v : Option Value) (h : Heap) (L : List Loc) : Prop := v = none ∧ Fr n0 L ∧ Keep h0 h [a] ∧ Exa Z h a "com/example/sessionkeep/sessionkeep/codec/ObjectStreamShape$Node" ∧ Fld Z h a "com/example/sessionkeep/sessionkeep/codec/ObjectStreamShape$Node" "weight" "J" (.long (t1 + w1)) ∧ Fld Z h a "com/example/sessionkeep/sessionkeep/codec/ObjectStreamShape$Node" "ordinal" "I" (.int ov)
set_option maxRecDepth 65536 in
set_option maxHeartbeats 40000000 in
theorem rmHold (l : Launch) (Z : State) (a0 : Array Value) (hw : ∀ d ∈ tables_1, d.before a0 Z = true) (ws : List Jvm.Cond) (a : Addr) (b : Addr) (f : Int32) (s1 : Int64) (t1 : Int64) (u1 : Int64) (w1 : Int64) (ov : Int32) (h0 : Heap) (n0 : Nat) (Z0 : n0 ≤ h0.size) (E_a : Exa Z h0 a "com/example/sessionkeep/sessionkeep/codec/ObjectStreamShape$Node") (F_a_size : Fld Z h0 a "com/example/sessionkeep/sessionkeep/codec/ObjectStreamShape$Node" "size" "J" (.long s1)) (F_a_weight : Fld Z h0 a "com/example/sessionkeep/sessionkeep/codec/ObjectStreamShape$Node" "weight" "J" (.long t1)) (F_a_ordinal : Fld Z h0 a "com/example/sessionkeep/sessionkeep/codec/ObjectStreamShape$Node" "ordinal" "I" (.int ov)) (F_b_size : Fld Z h0 b "com/example/sessionkeep/sessionkeep/codec/ObjectStreamShape$Node" "size" "J" (.long u1)) (F_b_weight : Fld Z h0 b "com/example/sessionkeep/sessionkeep/codec/ObjectStreamShape$Node" "weight" "J" (.long w1)) (F_b_jdk : Fld Z h0 b "com/example/sessionkeep/sessionkeep/codec/ObjectStreamShape$Node" "jdk" "Z" (.int (0 : Int32))) (F_b_array : Fld Z h0 b "com/example/sessionkeep/sessionkeep/codec/ObjectStreamShape$Node" "array" "Z" (.int (0 : Int32))) (g_a : n0 ≤ a) (ne_b_a : b ≠ a) :
    MetFree l (⟨"com/example/sessionkeep/sessionkeep/codec/ObjectStreamShape$Node", "hold", "(Lcom/example/sessionkeep/sessionkeep/codec/ObjectStreamShape$Node;Z)V"⟩ : MethodName) (head1 (Jvm.Cond.code (⟨"com/example/sessionkeep/sessionkeep/codec/ObjectStreamShape$Node", "hold", "(Lcom/example/sessionkeep/sessionkeep/codec/ObjectStreamShape$Node;Z)V"⟩ : MethodName) prog_12_method_2_code 4 none :: ws) ({ frames := 0, cells := 0, slots := 0, locals := 0 } : Room)) (fun as' U => as' = #[(.ref a), (.ref b), (.int f)] ∧ Z.Warmed39 U.vm ∧ U.heap = h0) (fun _ _ _ _ _ => True) (fun _ U o U' => ∃ v L, o = .returned v ∧ Q_rmHold Z a b f s1 t1 u1 w1 ov h0 n0 v U'.heap L ∧ FrameEnd U o U' L ({ frames := 0, cells := 0, slots := 0, locals := 0 } : Room).cells ({ frames := 0, cells := 0, slots := 0, locals := 0 } : Room).slots) := by
  refine MetFree.of_bodySF (plainFor_of_name pn_48) hisR ?_
  intro p e s m args below meth c s₁ Bd hml0 hP hK
  obtain ⟨rfl, hZ, hh⟩ := hP
  have hx := Bd.exec
  have hby := Bd.bytes
  have hml : c.maxLocals = 4 := hml0
  have hown : s.vm.findClass "com/example/sessionkeep/sessionkeep/codec/ObjectStreamShape$Node" = some m.cls := findClass_of_methodNamed Bd.named
  have hnm := (name_of_methodNamed Bd.named Bd.method).1
  have X0 : Stand p l e ({ frames := 0, cells := 0, slots := 0, locals := 0 } : Room) s m #[(.ref a), (.ref b), (.int f)] below meth c s₁ [] 0 0 := Stand.of_body Bd
  have e0 : s₁.heap = h0 := by rw [← hh, Bd.state]; rfl
  have N0 := Fr.nil n0
  refine Go.enter (F := EndN s (Q_rmHold Z a b f s1 t1 u1 w1 ov h0 n0) ({ frames := 0, cells := 0, slots := 0, locals := 0 } : Room).cells ({ frames := 0, cells := 0, slots := 0, locals := 0 } : Room).slots) (ef_75 m a b f) ?_
  show Go _ _ _ _ s₁ (mkF m 0 #[.val (.ref a), .val (.ref b), .val (.int f), .unset] [])
  refine Go.by (fun _ gk => XS.aloadN X0.here hx rfl (hb hby d6_0) rfl rfl gk) ?_
  show Go _ _ _ _ s₁ (mkF m 1 #[.val (.ref a), .val (.ref b), .val (.int f), .unset] [(.ref a)])
  refine Go.by (fun _ gk => XS.dup X0.here hx rfl (hb hby d6_1) rfl rfl gk) ?_
  show Go _ _ _ _ s₁ (mkF m 2 #[.val (.ref a), .val (.ref b), .val (.int f), .unset] [(.ref a), (.ref a)])
  obtain ⟨T1, X1, e1, st1⟩ := getF X0 hx hZ hown (host := "") (Or.inl (hw _ (List.mem_of_getElem? (i := 53) rfl))) Via.refl e0 F_a_size (g := (mkF m 2 #[.val (.ref a), .val (.ref b), .val (.int f), .unset] [(.ref a), (.ref a)])) rfl rfl (hb hby d6_2)
  refine Go.by st1 ?_
  show Go _ _ _ _ T1 (mkF m 5 #[.val (.ref a), .val (.ref b), .val (.int f), .unset] [(.long s1), (.ref a)])
  refine Go.by (fun _ gk => XS.aloadN X1.here hx rfl (hb hby d6_5) rfl rfl gk) ?_
  show Go _ _ _ _ T1 (mkF m 6 #[.val (.ref a), .val (.ref b), .val (.int f), .unset] [(.ref b), (.long s1), (.ref a)])
  obtain ⟨T2, X2, e2, st2⟩ := getF X1 hx hZ hown (host := "") (Or.inl (hw _ (List.mem_of_getElem? (i := 53) rfl))) Via.refl e1 F_b_size (g := (mkF m 6 #[.val (.ref a), .val (.ref b), .val (.int f), .unset] [(.ref b), (.long s1), (.ref a)])) rfl rfl (hb hby d6_6)
  refine Go.by st2 ?_
  show Go _ _ _ _ T2 (mkF m 9 #[.val (.ref a), .val (.ref b), .val (.int f), .unset] [(.long u1), (.long s1), (.ref a)])
  refine Go.by (fun _ gk => XT.ladd X2.here hx rfl (hb hby d6_9) rfl gk) ?_
  show Go _ _ _ _ T2 (mkF m 10 #[.val (.ref a), .val (.ref b), .val (.int f), .unset] [(.long (s1 + u1)), (.ref a)])
  obtain ⟨T3, h3, X3, e3, W3, st3⟩ := putF X2 hx hZ hown (host := "") (Or.inl (hw _ (List.mem_of_getElem? (i := 53) rfl))) Via.refl e2 F_a_size E_a (Or.inl (hw _ (List.mem_of_getElem? (i := 54) rfl))) (hw _ (List.mem_of_getElem? (i := 39) rfl)) (ty := .long) (by decide) rfl rfl (g := (mkF m 10 #[.val (.ref a), .val (.ref b), .val (.int f), .unset] [(.long (s1 + u1)), (.ref a)])) rfl rfl (hb hby d6_10)
  have N3 := Fr.snoc X3 N0 g_a
  have Fw3 : Fld Z h3 a "com/example/sessionkeep/sessionkeep/codec/ObjectStreamShape$Node" "size" "J" (.long (s1 + u1)) := F_a_size.same W3
  refine Go.by st3 ?_
  show Go _ _ _ _ T3 (mkF m 13 #[.val (.ref a), .val (.ref b), .val (.int f), .unset] [])
  refine Go.by (fun _ gk => XS.aloadN X3.here hx rfl (hb hby d6_13) rfl rfl gk) ?_
  show Go _ _ _ _ T3 (mkF m 14 #[.val (.ref a), .val (.ref b), .val (.int f), .unset] [(.ref a)])
  refine Go.by (fun _ gk => XS.dup X3.here hx rfl (hb hby d6_14) rfl rfl gk) ?_
  show Go _ _ _ _ T3 (mkF m 15 #[.val (.ref a), .val (.ref b), .val (.int f), .unset] [(.ref a), (.ref a)])
  have F4 : Fld Z h3 a "com/example/sessionkeep/sessionkeep/codec/ObjectStreamShape$Node" "weight" "J" (.long t1) := F_a_weight.other W3 (Or.inr (slot_ne (Or.inl (hw _ (List.mem_of_getElem? (i := 56) rfl))) (Or.inl (hw _ (List.mem_of_getElem? (i := 54) rfl))) (by decide) (t := .long) (t' := .long) (by decide) (by decide)))
  obtain ⟨T5, X5, e5, st5⟩ := getF X3 hx hZ hown (host := "") (Or.inl (hw _ (List.mem_of_getElem? (i := 55) rfl))) Via.refl e3 F4 (g := (mkF m 15 #[.val (.ref a), .val (.ref b), .val (.int f), .unset] [(.ref a), (.ref a)])) rfl rfl (hb hby d6_15)
  refine Go.by st5 ?_
  show Go _ _ _ _ T5 (mkF m 18 #[.val (.ref a), .val (.ref b), .val (.int f), .unset] [(.long t1), (.ref a)])
  refine Go.by (fun _ gk => XS.aloadN X5.here hx rfl (hb hby d6_18) rfl rfl gk) ?_
  show Go _ _ _ _ T5 (mkF m 19 #[.val (.ref a), .val (.ref b), .val (.int f), .unset] [(.ref b), (.long t1), (.ref a)])
  have F6 : Fld Z h3 b "com/example/sessionkeep/sessionkeep/codec/ObjectStreamShape$Node" "weight" "J" (.long w1) := F_b_weight.other W3 (Or.inl ne_b_a)
  obtain ⟨T7, X7, e7, st7⟩ := getF X5 hx hZ hown (host := "") (Or.inl (hw _ (List.mem_of_getElem? (i := 55) rfl))) Via.refl e5 F6 (g := (mkF m 19 #[.val (.ref a), .val (.ref b), .val (.int f), .unset] [(.ref b), (.long t1), (.ref a)])) rfl rfl (hb hby d6_19)
  refine Go.by st7 ?_
  show Go _ _ _ _ T7 (mkF m 22 #[.val (.ref a), .val (.ref b), .val (.int f), .unset] [(.long w1), (.long t1), (.ref a)])
  refine Go.by (fun _ gk => XT.ladd X7.here hx rfl (hb hby d6_22) rfl gk) ?_
  show Go _ _ _ _ T7 (mkF m 23 #[.val (.ref a), .val (.ref b), .val (.int f), .unset] [(.long (t1 + w1)), (.ref a)])
  have F8 : Exa Z h3 a "com/example/sessionkeep/sessionkeep/codec/ObjectStreamShape$Node" := E_a.wr W3
  obtain ⟨T9, h9, X9, e9, W9, st9⟩ := putF X7 hx hZ hown (host := "") (Or.inl (hw _ (List.mem_of_getElem? (i := 55) rfl))) Via.refl e7 F4 F8 (Or.inl (hw _ (List.mem_of_getElem? (i := 56) rfl))) (hw _ (List.mem_of_getElem? (i := 39) rfl)) (ty := .long) (by decide) rfl rfl (g := (mkF m 23 #[.val (.ref a), .val (.ref b), .val (.int f), .unset] [(.long (t1 + w1)), (.ref a)])) rfl rfl (hb hby d6_23)
  have N9 := Fr.snoc X9 N3 g_a
  have Fw9 : Fld Z h9 a "com/example/sessionkeep/sessionkeep/codec/ObjectStreamShape$Node" "weight" "J" (.long (t1 + w1)) := F4.same W9
  refine Go.by st9 ?_
  show Go _ _ _ _ T9 (mkF m 26 #[.val (.ref a), .val (.ref b), .val (.int f), .unset] [])
  refine Go.by (fun _ gk => XS.aloadN X9.here hx rfl (hb hby d6_26) rfl rfl gk) ?_
  show Go _ _ _ _ T9 (mkF m 27 #[.val (.ref a), .val (.ref b), .val (.int f), .unset] [(.ref b)])
  have F10 : Fld Z h3 b "com/example/sessionkeep/sessionkeep/codec/ObjectStreamShape$Node" "array" "Z" (.int (0 : Int32)) := F_b_array.other W3 (Or.inl ne_b_a)
  have F11 : Fld Z h9 b "com/example/sessionkeep/sessionkeep/codec/ObjectStreamShape$Node" "array" "Z" (.int (0 : Int32)) := F10.other W9 (Or.inl ne_b_a)
  obtain ⟨T12, X12, e12, st12⟩ := getF X9 hx hZ hown (host := "") (Or.inl (hw _ (List.mem_of_getElem? (i := 63) rfl))) Via.refl e9 F11 (g := (mkF m 27 #[.val (.ref a), .val (.ref b), .val (.int f), .unset] [(.ref b)])) rfl rfl (hb hby d6_27)
  refine Go.by st12 ?_
  show Go _ _ _ _ T12 (mkF m 30 #[.val (.ref a), .val (.ref b), .val (.int f), .unset] [(.int (0 : Int32))])
  refine Go.by (fun _ gk => XS.ifYes X12.here hx rfl (pc0 := 30) (pc' := 53) rfl (hb hby d6_30) rfl (XT.i0_eq_t rfl) (by decide) (by decide) gk) ?_
  show Go _ _ _ _ T12 (mkF m 53 #[.val (.ref a), .val (.ref b), .val (.int f), .unset] [])
  refine Go.by (fun _ gk => XS.aloadN X12.here hx rfl (hb hby d6_53) rfl rfl gk) ?_
  show Go _ _ _ _ T12 (mkF m 54 #[.val (.ref a), .val (.ref b), .val (.int f), .unset] [(.ref b)])
  have F13 : Fld Z h3 b "com/example/sessionkeep/sessionkeep/codec/ObjectStreamShape$Node" "jdk" "Z" (.int (0 : Int32)) := F_b_jdk.other W3 (Or.inl ne_b_a)
  have F14 : Fld Z h9 b "com/example/sessionkeep/sessionkeep/codec/ObjectStreamShape$Node" "jdk" "Z" (.int (0 : Int32)) := F13.other W9 (Or.inl ne_b_a)
  obtain ⟨T15, X15, e15, st15⟩ := getF X12 hx hZ hown (host := "") (Or.inl (hw _ (List.mem_of_getElem? (i := 61) rfl))) Via.refl e12 F14 (g := (mkF m 54 #[.val (.ref a), .val (.ref b), .val (.int f), .unset] [(.ref b)])) rfl rfl (hb hby d6_54)
  refine Go.by st15 ?_
  show Go _ _ _ _ T15 (mkF m 57 #[.val (.ref a), .val (.ref b), .val (.int f), .unset] [(.int (0 : Int32))])
  refine Go.by (fun _ gk => XS.ifYes X15.here hx rfl (pc0 := 57) (pc' := 78) rfl (hb hby d6_57) rfl (XT.i0_eq_t rfl) (by decide) (by decide) gk) ?_
  show Go _ _ _ _ T15 (mkF m 78 #[.val (.ref a), .val (.ref b), .val (.int f), .unset] [])
  refine Go.by (fun _ gk => XT.iconstV X15.here hx rfl (0 : Int32) (hb hby d6_78) (by decide) gk) ?_
  show Go _ _ _ _ T15 (mkF m 79 #[.val (.ref a), .val (.ref b), .val (.int f), .unset] [(.int (0 : Int32))])
  refine Go.by (fun _ gk => XS.istoreN X15.here hx rfl (hb hby d6_79) rfl (l' := #[.val (.ref a), .val (.ref b), .val (.int f), .val (.int (0 : Int32))]) rfl gk) ?_
  show Go _ _ _ _ T15 (mkF m 80 #[.val (.ref a), .val (.ref b), .val (.int f), .val (.int (0 : Int32))] [])
  refine Go.by (fun _ gk => XS.iloadN X15.here hx rfl (hb hby d6_80) rfl gk) ?_
  show Go _ _ _ _ T15 (mkF m 81 #[.val (.ref a), .val (.ref b), .val (.int f), .val (.int (0 : Int32))] [(.int (0 : Int32))])
  refine Go.by (fun _ gk => XS.ifYes X15.here hx rfl (pc0 := 81) (pc' := 118) rfl (hb hby d6_81) rfl (XT.i0_eq_t rfl) (by decide) (by decide) gk) ?_
  show Go _ _ _ _ T15 (mkF m 118 #[.val (.ref a), .val (.ref b), .val (.int f), .val (.int (0 : Int32))] [])
  have F16 : Keep h0 h3 [a] := (Keep.refl h0 [a]).wr W3 (Or.inl (List.mem_of_getElem? (i := 0) rfl))
  have F17 : Keep h0 h9 [a] := F16.wr W9 (Or.inl (List.mem_of_getElem? (i := 0) rfl))
  have F18 : Exa Z h9 a "com/example/sessionkeep/sessionkeep/codec/ObjectStreamShape$Node" := F8.wr W9
  have F19 : Fld Z h3 a "com/example/sessionkeep/sessionkeep/codec/ObjectStreamShape$Node" "ordinal" "I" (.int ov) := F_a_ordinal.other W3 (Or.inr (slot_ne (Or.inl (hw _ (List.mem_of_getElem? (i := 58) rfl))) (Or.inl (hw _ (List.mem_of_getElem? (i := 54) rfl))) (by decide) (t := .int) (t' := .long) (by decide) (by decide)))
  have F20 : Fld Z h9 a "com/example/sessionkeep/sessionkeep/codec/ObjectStreamShape$Node" "ordinal" "I" (.int ov) := F19.other W9 (Or.inr (slot_ne (Or.inl (hw _ (List.mem_of_getElem? (i := 58) rfl))) (Or.inl (hw _ (List.mem_of_getElem? (i := 56) rfl))) (by decide) (t := .int) (t' := .long) (by decide) (by decide)))
  exact Go.retV X15 hx Bd.notSynchronized Bd.returns (hb hby d6_118) (by rw [e15]; exact ⟨rfl, N9, F17, F18, Fw9, F20⟩) (by decide) (by decide)
theorem d7_0 : decode prog_13_method_3_code 0 = .ok (.aload_n 0, 1) := by decide +kernel
theorem d7_1 : decode prog_13_method_3_code 1 = .ok (.getfield 23, 3) := by decide +kernel
theorem d7_4 : decode prog_13_method_3_code 4 = .ok (.ireturn, 1) := by decide +kernel
def Q_rmSize (Z : State) (a : Addr) (x : Int32) (h0 : Heap) (n0 : Nat) (v : Option Value) (h : Heap) (L : List Loc) : Prop := v = some (.int x) ∧ Fr n0 L ∧ h = h0
set_option maxRecDepth 65536 in
set_option maxHeartbeats 40000000 in
theorem rmSize (l : Launch) (Z : State) (a0 : Array Value) (hw : ∀ d ∈ tables_1, d.before a0 Z = true) (ws : List Jvm.Cond) (a : Addr) (x : Int32) (h0 : Heap) (n0 : Nat) (Z0 : n0 ≤ h0.size) (F_a_size : Fld Z h0 a "com/example/sessionkeep/sessionkeep/codec/ObjectStreamShape$Puts" "size" "I" (.int x)) :
    MetFree l (⟨"com/example/sessionkeep/sessionkeep/codec/ObjectStreamShape$Puts", "size", "()I"⟩ : MethodName) (head1 (Jvm.Cond.code (⟨"com/example/sessionkeep/sessionkeep/codec/ObjectStreamShape$Puts", "size", "()I"⟩ : MethodName) prog_13_method_3_code 1 (some .int) :: ws) ({ frames := 0, cells := 0, slots := 0, locals := 0 } : Room)) (fun as' U => as' = #[(.ref a)] ∧ Z.Warmed39 U.vm ∧ U.heap = h0) (fun _ _ _ _ _ => True) (fun _ U o U' => ∃ v L, o = .returned v ∧ Q_rmSize Z a x h0 n0 v U'.heap L ∧ FrameEnd U o U' L ({ frames := 0, cells := 0, slots := 0, locals := 0 } : Room).cells ({ frames := 0, cells := 0, slots := 0, locals := 0 } : Room).slots) := by
  refine MetFree.of_bodySF (plainFor_of_name pn_4) hisR ?_
  intro p e s m args below meth c s₁ Bd hml0 hP hK
  obtain ⟨rfl, hZ, hh⟩ := hP
  have hx := Bd.exec
  have hby := Bd.bytes
  have hml : c.maxLocals = 1 := hml0
  have hown : s.vm.findClass "com/example/sessionkeep/sessionkeep/codec/ObjectStreamShape$Puts" = some m.cls := findClass_of_methodNamed Bd.named
  have hnm := (name_of_methodNamed Bd.named Bd.method).1
  have X0 : Stand p l e ({ frames := 0, cells := 0, slots := 0, locals := 0 } : Room) s m #[(.ref a)] below meth c s₁ [] 0 0 := Stand.of_body Bd
  have e0 : s₁.heap = h0 := by rw [← hh, Bd.state]; rfl
  have N0 := Fr.nil n0
  refine Go.enter (F := EndN s (Q_rmSize Z a x h0 n0) ({ frames := 0, cells := 0, slots := 0, locals := 0 } : Room).cells ({ frames := 0, cells := 0, slots := 0, locals := 0 } : Room).slots) (ef_5 m a) ?_
  show Go _ _ _ _ s₁ (mkF m 0 #[.val (.ref a)] [])
  refine Go.by (fun _ gk => XS.aloadN X0.here hx rfl (hb hby d7_0) rfl rfl gk) ?_
  show Go _ _ _ _ s₁ (mkF m 1 #[.val (.ref a)] [(.ref a)])
  obtain ⟨T1, X1, e1, st1⟩ := getF X0 hx hZ hown (host := "") (Or.inl (hw _ (List.mem_of_getElem? (i := 75) rfl))) Via.refl e0 F_a_size (g := (mkF m 1 #[.val (.ref a)] [(.ref a)])) rfl rfl (hb hby d7_1)
  refine Go.by st1 ?_
  show Go _ _ _ _ T1 (mkF m 4 #[.val (.ref a)] [(.int x)])
  exact Go.retI X1 hx Bd.notSynchronized Bd.returns rfl (by simp) (hb hby d7_4) (by rw [e1]; exact ⟨rfl, N0, rfl⟩) (by decide) (by decide)
theorem d9_0 : decode prog_14_method_2_code 0 = .ok (.aload_n 0, 1) := by decide +kernel
theorem d9_1 : decode prog_14_method_2_code 1 = .ok (.getfield 7, 3) := by decide +kernel
theorem d9_4 : decode prog_14_method_2_code 4 = .ok (.ireturn, 1) := by decide +kernel
def Q_rmIndex (Z : State) (a : Addr) (x : Int32) (h0 : Heap) (n0 : Nat) (v : Option Value) (h : Heap) (L : List Loc) : Prop := v = some (.int x) ∧ Fr n0 L ∧ h = h0
set_option maxRecDepth 65536 in
set_option maxHeartbeats 40000000 in
theorem rmIndex (l : Launch) (Z : State) (a0 : Array Value) (hw : ∀ d ∈ tables_1, d.before a0 Z = true) (ws : List Jvm.Cond) (a : Addr) (x : Int32) (h0 : Heap) (n0 : Nat) (Z0 : n0 ≤ h0.size) (F_a_index : Fld Z h0 a "com/example/sessionkeep/sessionkeep/codec/ObjectStreamShape$Table" "index" "I" (.int x)) :
    MetFree l (⟨"com/example/sessionkeep/sessionkeep/codec/ObjectStreamShape$Table", "index", "()I"⟩ : MethodName) (head1 (Jvm.Cond.code (⟨"com/example/sessionkeep/sessionkeep/codec/ObjectStreamShape$Table", "index", "()I"⟩ : MethodName) prog_14_method_2_code 1 (some .int) :: ws) ({ frames := 0, cells := 0, slots := 0, locals := 0 } : Room)) (fun as' U => as' = #[(.ref a)] ∧ Z.Warmed39 U.vm ∧ U.heap = h0) (fun _ _ _ _ _ => True) (fun _ U o U' => ∃ v L, o = .returned v ∧ Q_rmIndex Z a x h0 n0 v U'.heap L ∧ FrameEnd U o U' L ({ frames := 0, cells := 0, slots := 0, locals := 0 } : Room).cells ({ frames := 0, cells := 0, slots := 0, locals := 0 } : Room).slots) := by
  refine MetFree.of_bodySF (plainFor_of_name pn_25) hisR ?_
  intro p e s m args below meth c s₁ Bd hml0 hP hK
  obtain ⟨rfl, hZ, hh⟩ := hP
  have hx := Bd.exec
  have hby := Bd.bytes
  have hml : c.maxLocals = 1 := hml0
  have hown : s.vm.findClass "com/example/sessionkeep/sessionkeep/codec/ObjectStreamShape$Table" = some m.cls := findClass_of_methodNamed Bd.named
  have hnm := (name_of_methodNamed Bd.named Bd.method).1
  have X0 : Stand p l e ({ frames := 0, cells := 0, slots := 0, locals := 0 } : Room) s m #[(.ref a)] below meth c s₁ [] 0 0 := Stand.of_body Bd
  have e0 : s₁.heap = h0 := by rw [← hh, Bd.state]; rfl
  have N0 := Fr.nil n0
  refine Go.enter (F := EndN s (Q_rmIndex Z a x h0 n0) ({ frames := 0, cells := 0, slots := 0, locals := 0 } : Room).cells ({ frames := 0, cells := 0, slots := 0, locals := 0 } : Room).slots) (ef_5 m a) ?_
  show Go _ _ _ _ s₁ (mkF m 0 #[.val (.ref a)] [])
  refine Go.by (fun _ gk => XS.aloadN X0.here hx rfl (hb hby d9_0) rfl rfl gk) ?_
  show Go _ _ _ _ s₁ (mkF m 1 #[.val (.ref a)] [(.ref a)])
  obtain ⟨T1, X1, e1, st1⟩ := getF X0 hx hZ hown (host := "") (Or.inl (hw _ (List.mem_of_getElem? (i := 26) rfl))) Via.refl e0 F_a_index (g := (mkF m 1 #[.val (.ref a)] [(.ref a)])) rfl rfl (hb hby d9_1)
  refine Go.by st1 ?_
  show Go _ _ _ _ T1 (mkF m 4 #[.val (.ref a)] [(.int x)])
  exact Go.retI X1 hx Bd.notSynchronized Bd.returns rfl (by simp) (hb hby d9_4) (by rw [e1]; exact ⟨rfl, N0, rfl⟩) (by decide) (by decide)
theorem ef_107 (m : MethodId) (x0 : Addr) (x1 : Int32) : entryFrame m #[(.ref x0), (.int x1)] 2 = mkF m 0 #[.val (.ref x0), .val (.int x1)] [] := by (first | (simp [entryFrame, mkF, argsToLocals, Value.category]; done) | rfl)
theorem d10_0 : decode prog_13_method_4_code 0 = .ok (.aload_n 0, 1) := by decide +kernel
theorem d10_1 : decode prog_13_method_4_code 1 = .ok (.getfield 7, 3) := by decide +kernel
theorem d10_4 : decode prog_13_method_4_code 4 = .ok (.iload_n 1, 1) := by decide +kernel
theorem d10_5 : decode prog_13_method_4_code 5 = .ok (.iaload, 1) := by decide +kernel
theorem d10_6 : decode prog_13_method_4_code 6 = .ok (.ireturn, 1) := by decide +kernel
def Q_rmGet_table (Z : State) (a : Addr) (i : Int32) (t : Addr) (k : ClassId) (vs : List Value) (r : Int32) (h0 : Heap) (n0 : Nat) (v : Option Value) (h : Heap) (L : List Loc) : Prop := v = some (.int r) ∧ Fr n0 L ∧ h = h0
set_option maxRecDepth 65536 in
set_option maxHeartbeats 40000000 in
theorem rmGet_table (l : Launch) (Z : State) (a0 : Array Value) (hw : ∀ d ∈ tables_1, d.before a0 Z = true) (ws : List Jvm.Cond) (a : Addr) (i : Int32) (t : Addr) (k : ClassId) (vs : List Value) (r : Int32) (h0 : Heap) (n0 : Nat) (Z0 : n0 ≤ h0.size) (F_a_tables : Fld Z h0 a "com/example/sessionkeep/sessionkeep/codec/ObjectStreamShape$Puts" "tables" "[I" (.ref t)) (V_t : Arv Z h0 t k .int (16 : Int32) vs (.int (0 : Int32))) (hin : (¬ i < 0 ∧ i < 16)) (hat : (vs.getD i.toNatClampNeg (.int (0 : Int32)) = (.int r))) :
    MetFree l (⟨"com/example/sessionkeep/sessionkeep/codec/ObjectStreamShape$Puts", "table", "(I)I"⟩ : MethodName) (head1 (Jvm.Cond.code (⟨"com/example/sessionkeep/sessionkeep/codec/ObjectStreamShape$Puts", "table", "(I)I"⟩ : MethodName) prog_13_method_4_code 2 (some .int) :: ws) ({ frames := 0, cells := 0, slots := 0, locals := 0 } : Room)) (fun as' U => as' = #[(.ref a), (.int i)] ∧ Z.Warmed39 U.vm ∧ U.heap = h0) (fun _ _ _ _ _ => True) (fun _ U o U' => ∃ v L, o = .returned v ∧ Q_rmGet_table Z a i t k vs r h0 n0 v U'.heap L ∧ FrameEnd U o U' L ({ frames := 0, cells := 0, slots := 0, locals := 0 } : Room).cells ({ frames := 0, cells := 0, slots := 0, locals := 0 } : Room).slots) := by
  refine MetFree.of_bodySF (plainFor_of_name pn_4) hisR ?_
  intro p e s m args below meth c s₁ Bd hml0 hP hK
  obtain ⟨rfl, hZ, hh⟩ := hP
  have hx := Bd.exec
  have hby := Bd.bytes
  have hml : c.maxLocals = 2 := hml0
  have hown : s.vm.findClass "com/example/sessionkeep/sessionkeep/codec/ObjectStreamShape$Puts" = some m.cls := findClass_of_methodNamed Bd.named
  have hnm := (name_of_methodNamed Bd.named Bd.method).1
  have X0 : Stand p l e ({ frames := 0, cells := 0, slots := 0, locals := 0 } : Room) s m #[(.ref a), (.int i)] below meth c s₁ [] 0 0 := Stand.of_body Bd
  have e0 : s₁.heap = h0 := by rw [← hh, Bd.state]; rfl
  have N0 := Fr.nil n0
  refine Go.enter (F := EndN s (Q_rmGet_table Z a i t k vs r h0 n0) ({ frames := 0, cells := 0, slots := 0, locals := 0 } : Room).cells ({ frames := 0, cells := 0, slots := 0, locals := 0 } : Room).slots) (ef_107 m a i) ?_
  show Go _ _ _ _ s₁ (mkF m 0 #[.val (.ref a), .val (.int i)] [])
  refine Go.by (fun _ gk => XS.aloadN X0.here hx rfl (hb hby d10_0) rfl rfl gk) ?_
  show Go _ _ _ _ s₁ (mkF m 1 #[.val (.ref a), .val (.int i)] [(.ref a)])
  obtain ⟨T1, X1, e1, st1⟩ := getF X0 hx hZ hown (host := "") (Or.inl (hw _ (List.mem_of_getElem? (i := 10) rfl))) Via.refl e0 F_a_tables (g := (mkF m 1 #[.val (.ref a), .val (.int i)] [(.ref a)])) rfl rfl (hb hby d10_1)
  refine Go.by st1 ?_
  show Go _ _ _ _ T1 (mkF m 4 #[.val (.ref a), .val (.int i)] [(.ref t)])
  refine Go.by (fun _ gk => XS.iloadN X1.here hx rfl (hb hby d10_4) rfl gk) ?_
  show Go _ _ _ _ T1 (mkF m 5 #[.val (.ref a), .val (.int i)] [(.int i), (.ref t)])
  obtain ⟨cl2, Ar2, -, S2, M2, H2, -⟩ := id V_t
  have hin2 : ¬ (i < 0 ∨ cl2.slots.size ≤ i.toNatClampNeg) := inb_of S2 hin
  refine Go.by (fun _ gk => X1.iaload hx (j := i) (v := (.int r)) (by rw [e1]; exact Ar2.1) (State.isArrayOf_alike hZ.alike Ar2.2.1) Ar2.2.2 hin2 (Has.at H2 hin2 hat) (g := (mkF m 5 #[.val (.ref a), .val (.int i)] [(.int i), (.ref t)])) rfl rfl (hb hby d10_5) _ gk) ?_
  show Go _ _ _ _ T1 (mkF m 6 #[.val (.ref a), .val (.int i)] [(.int r)])
  exact Go.retI X1 hx Bd.notSynchronized Bd.returns rfl (by simp) (hb hby d10_6) (by rw [e1]; exact ⟨rfl, N0, rfl⟩) (by decide) (by decide)
theorem d11_0 : decode prog_13_method_5_code 0 = .ok (.aload_n 0, 1) := by decide +kernel
theorem d11_1 : decode prog_13_method_5_code 1 = .ok (.getfield 13, 3) := by decide +kernel
theorem d11_4 : decode prog_13_method_5_code 4 = .ok (.iload_n 1, 1) := by decide +kernel
theorem d11_5 : decode prog_13_method_5_code 5 = .ok (.iaload, 1) := by decide +kernel
theorem d11_6 : decode prog_13_method_5_code 6 = .ok (.ireturn, 1) := by decide +kernel
def Q_rmGet_key (Z : State) (a : Addr) (i : Int32) (t : Addr) (k : ClassId) (vs : List Value) (r : Int32) (h0 : Heap) (n0 : Nat) (v : Option Value) (h : Heap) (L : List Loc) : Prop := v = some (.int r) ∧ Fr n0 L ∧ h = h0
set_option maxRecDepth 65536 in
set_option maxHeartbeats 40000000 in
theorem rmGet_key (l : Launch) (Z : State) (a0 : Array Value) (hw : ∀ d ∈ tables_1, d.before a0 Z = true) (ws : List Jvm.Cond) (a : Addr) (i : Int32) (t : Addr) (k : ClassId) (vs : List Value) (r : Int32) (h0 : Heap) (n0 : Nat) (Z0 : n0 ≤ h0.size) (F_a_keys : Fld Z h0 a "com/example/sessionkeep/sessionkeep/codec/ObjectStreamShape$Puts" "keys" "[I" (.ref t)) (V_t : Arv Z h0 t k .int (16 : Int32) vs (.int (0 : Int32))) (hin : (¬ i < 0 ∧ i < 16)) (hat : (vs.getD i.toNatClampNeg (.int (0 : Int32)) = (.int r))) :
    MetFree l (⟨"com/example/sessionkeep/sessionkeep/codec/ObjectStreamShape$Puts", "key", "(I)I"⟩ : MethodName) (head1 (Jvm.Cond.code (⟨"com/example/sessionkeep/sessionkeep/codec/ObjectStreamShape$Puts", "key", "(I)I"⟩ : MethodName) prog_13_method_5_code 2 (some .int) :: ws) ({ frames := 0, cells := 0, slots := 0, locals := 0 } : Room)) (fun as' U => as' = #[(.ref a), (.int i)] ∧ Z.Warmed39 U.vm ∧ U.heap = h0) (fun _ _ _ _ _ => True) (fun _ U o U' => ∃ v L, o = .returned v ∧ Q_rmGet_key Z a i t k vs r h0 n0 v U'.heap L ∧ FrameEnd U o U' L ({ frames := 0, cells := 0, slots := 0, locals := 0 } : Room).cells ({ frames := 0, cells := 0, slots := 0, locals := 0 } : Room).slots) := by
  refine MetFree.of_bodySF (plainFor_of_name pn_4) hisR ?_
  intro p e s m args below meth c s₁ Bd hml0 hP hK
  obtain ⟨rfl, hZ, hh⟩ := hP
  have hx := Bd.exec
  have hby := Bd.bytes
  have hml : c.maxLocals = 2 := hml0
  have hown : s.vm.findClass "com/example/sessionkeep/sessionkeep/codec/ObjectStreamShape$Puts" = some m.cls := findClass_of_methodNamed Bd.named
  have hnm := (name_of_methodNamed Bd.named Bd.method).1
  have X0 : Stand p l e ({ frames := 0, cells := 0, slots := 0, locals := 0 } : Room) s m #[(.ref a), (.int i)] below meth c s₁ [] 0 0 := Stand.of_body Bd
  have e0 : s₁.heap = h0 := by rw [← hh, Bd.state]; rfl
  have N0 := Fr.nil n0
  refine Go.enter (F := EndN s (Q_rmGet_key Z a i t k vs r h0 n0) ({ frames := 0, cells := 0, slots := 0, locals := 0 } : Room).cells ({ frames := 0, cells := 0, slots := 0, locals := 0 } : Room).slots) (ef_107 m a i) ?_
  show Go _ _ _ _ s₁ (mkF m 0 #[.val (.ref a), .val (.int i)] [])
  refine Go.by (fun _ gk => XS.aloadN X0.here hx rfl (hb hby d11_0) rfl rfl gk) ?_
  show Go _ _ _ _ s₁ (mkF m 1 #[.val (.ref a), .val (.int i)] [(.ref a)])
  obtain ⟨T1, X1, e1, st1⟩ := getF X0 hx hZ hown (host := "") (Or.inl (hw _ (List.mem_of_getElem? (i := 12) rfl))) Via.refl e0 F_a_keys (g := (mkF m 1 #[.val (.ref a), .val (.int i)] [(.ref a)])) rfl rfl (hb hby d11_1)
  refine Go.by st1 ?_
  show Go _ _ _ _ T1 (mkF m 4 #[.val (.ref a), .val (.int i)] [(.ref t)])
  refine Go.by (fun _ gk => XS.iloadN X1.here hx rfl (hb hby d11_4) rfl gk) ?_
  show Go _ _ _ _ T1 (mkF m 5 #[.val (.ref a), .val (.int i)] [(.int i), (.ref t)])
  obtain ⟨cl2, Ar2, -, S2, M2, H2, -⟩ := id V_t
  have hin2 : ¬ (i < 0 ∨ cl2.slots.size ≤ i.toNatClampNeg) := inb_of S2 hin
  refine Go.by (fun _ gk => X1.iaload hx (j := i) (v := (.int r)) (by rw [e1]; exact Ar2.1) (State.isArrayOf_alike hZ.alike Ar2.2.1) Ar2.2.2 hin2 (Has.at H2 hin2 hat) (g := (mkF m 5 #[.val (.ref a), .val (.int i)] [(.int i), (.ref t)])) rfl rfl (hb hby d11_5) _ gk) ?_
  show Go _ _ _ _ T1 (mkF m 6 #[.val (.ref a), .val (.int i)] [(.int r)])
  exact Go.retI X1 hx Bd.notSynchronized Bd.returns rfl (by simp) (hb hby d11_6) (by rw [e1]; exact ⟨rfl, N0, rfl⟩) (by decide) (by decide)
theorem d12_0 : decode prog_13_method_6_code 0 = .ok (.aload_n 0, 1) := by decide +kernel
theorem d12_1 : decode prog_13_method_6_code 1 = .ok (.getfield 16, 3) := by decide +kernel
theorem d12_4 : decode prog_13_method_6_code 4 = .ok (.iload_n 1, 1) := by decide +kernel
theorem d12_5 : decode prog_13_method_6_code 5 = .ok (.laload, 1) := by decide +kernel
theorem d12_6 : decode prog_13_method_6_code 6 = .ok (.lreturn, 1) := by decide +kernel
def Q_rmGet_weight (Z : State) (a : Addr) (i : Int32) (t : Addr) (k : ClassId) (vs : List Value) (r : Int64) (h0 : Heap) (n0 : Nat) (v : Option Value) (h : Heap) (L : List Loc) : Prop := v = some (.long r) ∧ Fr n0 L ∧ h = h0
set_option maxRecDepth 65536 in
set_option maxHeartbeats 40000000 in
theorem rmGet_weight (l : Launch) (Z : State) (a0 : Array Value) (hw : ∀ d ∈ tables_1, d.before a0 Z = true) (ws : List Jvm.Cond) (a : Addr) (i : Int32) (t : Addr) (k : ClassId) (vs : List Value) (r : Int64) (h0 : Heap) (n0 : Nat) (Z0 : n0 ≤ h0.size) (F_a_weights : Fld Z h0 a "com/example/sessionkeep/sessionkeep/codec/ObjectStreamShape$Puts" "weights" "[J" (.ref t)) (V_t : Arv Z h0 t k .long (16 : Int32) vs (.long (0 : Int64))) (hin : (¬ i < 0 ∧ i < 16)) (hat : (vs.getD i.toNatClampNeg (.long (0 : Int64)) = (.long r))) :
    MetFree l (⟨"com/example/sessionkeep/sessionkeep/codec/ObjectStreamShape$Puts", "weight", "(I)J"⟩ : MethodName) (head1 (Jvm.Cond.code (⟨"com/example/sessionkeep/sessionkeep/codec/ObjectStreamShape$Puts", "weight", "(I)J"⟩ : MethodName) prog_13_method_6_code 2 (some .long) :: ws) ({ frames := 0, cells := 0, slots := 0, locals := 0 } : Room)) (fun as' U => as' = #[(.ref a), (.int i)] ∧ Z.Warmed39 U.vm ∧ U.heap = h0) (fun _ _ _ _ _ => True) (fun _ U o U' => ∃ v L, o = .returned v ∧ Q_rmGet_weight Z a i t k vs r h0 n0 v U'.heap L ∧ FrameEnd U o U' L ({ frames := 0, cells := 0, slots := 0, locals := 0 } : Room).cells ({ frames := 0, cells := 0, slots := 0, locals := 0 } : Room).slots) := by
  refine MetFree.of_bodySF (plainFor_of_name pn_4) hisR ?_
  intro p e s m args below meth c s₁ Bd hml0 hP hK
  obtain ⟨rfl, hZ, hh⟩ := hP
  have hx := Bd.exec
  have hby := Bd.bytes
  have hml : c.maxLocals = 2 := hml0
  have hown : s.vm.findClass "com/example/sessionkeep/sessionkeep/codec/ObjectStreamShape$Puts" = some m.cls := findClass_of_methodNamed Bd.named
  have hnm := (name_of_methodNamed Bd.named Bd.method).1
  have X0 : Stand p l e ({ frames := 0, cells := 0, slots := 0, locals := 0 } : Room) s m #[(.ref a), (.int i)] below meth c s₁ [] 0 0 := Stand.of_body Bd
  have e0 : s₁.heap = h0 := by rw [← hh, Bd.state]; rfl
  have N0 := Fr.nil n0
  refine Go.enter (F := EndN s (Q_rmGet_weight Z a i t k vs r h0 n0) ({ frames := 0, cells := 0, slots := 0, locals := 0 } : Room).cells ({ frames := 0, cells := 0, slots := 0, locals := 0 } : Room).slots) (ef_107 m a i) ?_
  show Go _ _ _ _ s₁ (mkF m 0 #[.val (.ref a), .val (.int i)] [])
  refine Go.by (fun _ gk => XS.aloadN X0.here hx rfl (hb hby d12_0) rfl rfl gk) ?_
  show Go _ _ _ _ s₁ (mkF m 1 #[.val (.ref a), .val (.int i)] [(.ref a)])
  obtain ⟨T1, X1, e1, st1⟩ := getF X0 hx hZ hown (host := "") (Or.inl (hw _ (List.mem_of_getElem? (i := 15) rfl))) Via.refl e0 F_a_weights (g := (mkF m 1 #[.val (.ref a), .val (.int i)] [(.ref a)])) rfl rfl (hb hby d12_1)
  refine Go.by st1 ?_
  show Go _ _ _ _ T1 (mkF m 4 #[.val (.ref a), .val (.int i)] [(.ref t)])
  refine Go.by (fun _ gk => XS.iloadN X1.here hx rfl (hb hby d12_4) rfl gk) ?_
  show Go _ _ _ _ T1 (mkF m 5 #[.val (.ref a), .val (.int i)] [(.int i), (.ref t)])
  obtain ⟨cl2, Ar2, -, S2, M2, H2, -⟩ := id V_t
  have hin2 : ¬ (i < 0 ∨ cl2.slots.size ≤ i.toNatClampNeg) := inb_of S2 hin
  refine Go.by (fun _ gk => X1.laload hx (j := i) (v := (.long r)) (by rw [e1]; exact Ar2.1) (State.isArrayOf_alike hZ.alike Ar2.2.1) Ar2.2.2 hin2 (Has.at H2 hin2 hat) (g := (mkF m 5 #[.val (.ref a), .val (.int i)] [(.int i), (.ref t)])) rfl rfl (hb hby d12_5) _ gk) ?_
  show Go _ _ _ _ T1 (mkF m 6 #[.val (.ref a), .val (.int i)] [(.long r)])
  exact Go.retJ X1 hx Bd.notSynchronized Bd.returns (hb hby d12_6) (by rw [e1]; exact ⟨rfl, N0, rfl⟩) (by decide) (by decide)
theorem d13_0 : decode prog_13_method_7_code 0 = .ok (.aload_n 0, 1) := by decide +kernel
theorem d13_1 : decode prog_13_method_7_code 1 = .ok (.getfield 20, 3) := by decide +kernel
theorem d13_4 : decode prog_13_method_7_code 4 = .ok (.iload_n 1, 1) := by decide +kernel
theorem d13_5 : decode prog_13_method_7_code 5 = .ok (.iaload, 1) := by decide +kernel
theorem d13_6 : decode prog_13_method_7_code 6 = .ok (.ireturn, 1) := by decide +kernel
def Q_rmGet_after (Z : State) (a : Addr) (i : Int32) (t : Addr) (k : ClassId) (vs : List Value) (r : Int32) (h0 : Heap) (n0 : Nat) (v : Option Value) (h : Heap) (L : List Loc) : Prop := v = some (.int r) ∧ Fr n0 L ∧ h = h0
set_option maxRecDepth 65536 in
set_option maxHeartbeats 40000000 in
theorem rmGet_after (l : Launch) (Z : State) (a0 : Array Value) (hw : ∀ d ∈ tables_1, d.before a0 Z = true) (ws : List Jvm.Cond) (a : Addr) (i : Int32) (t : Addr) (k : ClassId) (vs : List Value) (r : Int32) (h0 : Heap) (n0 : Nat) (Z0 : n0 ≤ h0.size) (F_a_afters : Fld Z h0 a "com/example/sessionkeep/sessionkeep/codec/ObjectStreamShape$Puts" "afters" "[I" (.ref t)) (V_t : Arv Z h0 t k .int (16 : Int32) vs (.int (0 : Int32))) (hin : (¬ i < 0 ∧ i < 16)) (hat : (vs.getD i.toNatClampNeg (.int (0 : Int32)) = (.int r))) :
    MetFree l (⟨"com/example/sessionkeep/sessionkeep/codec/ObjectStreamShape$Puts", "after", "(I)I"⟩ : MethodName) (head1 (Jvm.Cond.code (⟨"com/example/sessionkeep/sessionkeep/codec/ObjectStreamShape$Puts", "after", "(I)I"⟩ : MethodName) prog_13_method_7_code 2 (some .int) :: ws) ({ frames := 0, cells := 0, slots := 0, locals := 0 } : Room)) (fun as' U => as' = #[(.ref a), (.int i)] ∧ Z.Warmed39 U.vm ∧ U.heap = h0) (fun _ _ _ _ _ => True) (fun _ U o U' => ∃ v L, o = .returned v ∧ Q_rmGet_after Z a i t k vs r h0 n0 v U'.heap L ∧ FrameEnd U o U' L ({ frames := 0, cells := 0, slots := 0, locals := 0 } : Room).cells ({ frames := 0, cells := 0, slots := 0, locals := 0 } : Room).slots) := by
  refine MetFree.of_bodySF (plainFor_of_name pn_4) hisR ?_
  intro p e s m args below meth c s₁ Bd hml0 hP hK
  obtain ⟨rfl, hZ, hh⟩ := hP
  have hx := Bd.exec
  have hby := Bd.bytes
  have hml : c.maxLocals = 2 := hml0
  have hown : s.vm.findClass "com/example/sessionkeep/sessionkeep/codec/ObjectStreamShape$Puts" = some m.cls := findClass_of_methodNamed Bd.named
  have hnm := (name_of_methodNamed Bd.named Bd.method).1
  have X0 : Stand p l e ({ frames := 0, cells := 0, slots := 0, locals := 0 } : Room) s m #[(.ref a), (.int i)] below meth c s₁ [] 0 0 := Stand.of_body Bd
  have e0 : s₁.heap = h0 := by rw [← hh, Bd.state]; rfl
  have N0 := Fr.nil n0
  refine Go.enter (F := EndN s (Q_rmGet_after Z a i t k vs r h0 n0) ({ frames := 0, cells := 0, slots := 0, locals := 0 } : Room).cells ({ frames := 0, cells := 0, slots := 0, locals := 0 } : Room).slots) (ef_107 m a i) ?_
  show Go _ _ _ _ s₁ (mkF m 0 #[.val (.ref a), .val (.int i)] [])
  refine Go.by (fun _ gk => XS.aloadN X0.here hx rfl (hb hby d13_0) rfl rfl gk) ?_
  show Go _ _ _ _ s₁ (mkF m 1 #[.val (.ref a), .val (.int i)] [(.ref a)])
  obtain ⟨T1, X1, e1, st1⟩ := getF X0 hx hZ hown (host := "") (Or.inl (hw _ (List.mem_of_getElem? (i := 17) rfl))) Via.refl e0 F_a_afters (g := (mkF m 1 #[.val (.ref a), .val (.int i)] [(.ref a)])) rfl rfl (hb hby d13_1)
  refine Go.by st1 ?_
  show Go _ _ _ _ T1 (mkF m 4 #[.val (.ref a), .val (.int i)] [(.ref t)])
  refine Go.by (fun _ gk => XS.iloadN X1.here hx rfl (hb hby d13_4) rfl gk) ?_
  show Go _ _ _ _ T1 (mkF m 5 #[.val (.ref a), .val (.int i)] [(.int i), (.ref t)])
  obtain ⟨cl2, Ar2, -, S2, M2, H2, -⟩ := id V_t
  have hin2 : ¬ (i < 0 ∨ cl2.slots.size ≤ i.toNatClampNeg) := inb_of S2 hin
  refine Go.by (fun _ gk => X1.iaload hx (j := i) (v := (.int r)) (by rw [e1]; exact Ar2.1) (State.isArrayOf_alike hZ.alike Ar2.2.1) Ar2.2.2 hin2 (Has.at H2 hin2 hat) (g := (mkF m 5 #[.val (.ref a), .val (.int i)] [(.int i), (.ref t)])) rfl rfl (hb hby d13_5) _ gk) ?_
  show Go _ _ _ _ T1 (mkF m 6 #[.val (.ref a), .val (.int i)] [(.int r)])
  exact Go.retI X1 hx Bd.notSynchronized Bd.returns rfl (by simp) (hb hby d13_6) (by rw [e1]; exact ⟨rfl, N0, rfl⟩) (by decide) (by decide)
theorem ef_128 (m : MethodId) (x0 : Addr) (x1 : Addr) (x2 : Addr) (x3 : Int32) : entryFrame m #[(.ref x0), (.ref x1), (.ref x2), (.int x3)] 5 = mkF m 0 #[.val (.ref x0), .val (.ref x1), .val (.ref x2), .val (.int x3), .unset] [] := by (first | (simp [entryFrame, mkF, argsToLocals, Value.category]; done) | rfl)
theorem d8_0 : decode prog_13_method_2_code 0 = .ok (.aload_n 0, 1) := by decide +kernel
theorem d8_1 : decode prog_13_method_2_code 1 = .ok (.getfield 23, 3) := by decide +kernel
theorem d8_4 : decode prog_13_method_2_code 4 = .ok (.aload_n 0, 1) := by decide +kernel
theorem d8_5 : decode prog_13_method_2_code 5 = .ok (.getfield 7, 3) := by decide +kernel
theorem d8_8 : decode prog_13_method_2_code 8 = .ok (.arraylength, 1) := by decide +kernel
theorem d8_9 : decode prog_13_method_2_code 9 = .ok (.if_icmp .ne 63, 3) := by decide +kernel
theorem d8_72 : decode prog_13_method_2_code 72 = .ok (.aload_n 0, 1) := by decide +kernel
theorem d8_73 : decode prog_13_method_2_code 73 = .ok (.getfield 7, 3) := by decide +kernel
theorem d8_76 : decode prog_13_method_2_code 76 = .ok (.aload_n 0, 1) := by decide +kernel
theorem d8_77 : decode prog_13_method_2_code 77 = .ok (.getfield 23, 3) := by decide +kernel
theorem d8_80 : decode prog_13_method_2_code 80 = .ok (.aload_n 1, 1) := by decide +kernel
theorem pd_140 : parseMethodDescriptor "()I" = some ⟨[], some .int⟩ := by decide +kernel
theorem d8_81 : decode prog_13_method_2_code 81 = .ok (.invokevirtual 36, 3) := by decide +kernel
theorem d8_84 : decode prog_13_method_2_code 84 = .ok (.iastore, 1) := by decide +kernel
theorem d8_85 : decode prog_13_method_2_code 85 = .ok (.aload_n 0, 1) := by decide +kernel
theorem d8_86 : decode prog_13_method_2_code 86 = .ok (.getfield 13, 3) := by decide +kernel
theorem d8_89 : decode prog_13_method_2_code 89 = .ok (.aload_n 0, 1) := by decide +kernel
theorem d8_90 : decode prog_13_method_2_code 90 = .ok (.getfield 23, 3) := by decide +kernel
theorem d8_93 : decode prog_13_method_2_code 93 = .ok (.aload_n 2, 1) := by decide +kernel
theorem d8_94 : decode prog_13_method_2_code 94 = .ok (.getfield 42, 3) := by decide +kernel
theorem d8_97 : decode prog_13_method_2_code 97 = .ok (.iastore, 1) := by decide +kernel
theorem d8_98 : decode prog_13_method_2_code 98 = .ok (.aload_n 0, 1) := by decide +kernel
theorem d8_99 : decode prog_13_method_2_code 99 = .ok (.getfield 16, 3) := by decide +kernel
theorem d8_102 : decode prog_13_method_2_code 102 = .ok (.aload_n 0, 1) := by decide +kernel
theorem d8_103 : decode prog_13_method_2_code 103 = .ok (.getfield 23, 3) := by decide +kernel
theorem d8_106 : decode prog_13_method_2_code 106 = .ok (.aload_n 2, 1) := by decide +kernel
theorem d8_107 : decode prog_13_method_2_code 107 = .ok (.getfield 47, 3) := by decide +kernel
theorem d8_110 : decode prog_13_method_2_code 110 = .ok (.lastore, 1) := by decide +kernel
theorem d8_111 : decode prog_13_method_2_code 111 = .ok (.aload_n 0, 1) := by decide +kernel
theorem d8_112 : decode prog_13_method_2_code 112 = .ok (.getfield 20, 3) := by decide +kernel
theorem d8_115 : decode prog_13_method_2_code 115 = .ok (.aload_n 0, 1) := by decide +kernel
theorem d8_116 : decode prog_13_method_2_code 116 = .ok (.getfield 23, 3) := by decide +kernel
theorem d8_119 : decode prog_13_method_2_code 119 = .ok (.iload_n 3, 1) := by decide +kernel
theorem d8_120 : decode prog_13_method_2_code 120 = .ok (.iastore, 1) := by decide +kernel
theorem d8_121 : decode prog_13_method_2_code 121 = .ok (.aload_n 0, 1) := by decide +kernel
theorem d8_122 : decode prog_13_method_2_code 122 = .ok (.dup, 1) := by decide +kernel
theorem d8_123 : decode prog_13_method_2_code 123 = .ok (.getfield 23, 3) := by decide +kernel
theorem d8_126 : decode prog_13_method_2_code 126 = .ok (.iconst 1, 1) := by decide +kernel
theorem d8_127 : decode prog_13_method_2_code 127 = .ok (.iadd, 1) := by decide +kernel
theorem d8_128 : decode prog_13_method_2_code 128 = .ok (.putfield 23, 3) := by decide +kernel
theorem d8_131 : decode prog_13_method_2_code 131 = .ok (.return_, 1) := by decide +kernel
def Q_rmAdd0 (Z : State) (a : Addr) (t : Addr) (n : Addr) (y : Int32) (x : Int32) (ov : Int32) (wt : Int64) (tb : Addr) (kb : Addr) (wb : Addr) (ab : Addr) (kk1 : ClassId) (kk2 : ClassId) (kk3 : ClassId) (kk4 : ClassId) (h0 : Heap) (n0 : Nat) (v : Option Value) (h : Heap) (L : List Loc) : Prop := v = none ∧ Fr n0 L ∧ Keep h0 h [a, tb, kb, wb, ab] ∧ Exa Z h a "com/example/sessionkeep/sessionkeep/codec/ObjectStreamShape$Puts" ∧ Fld Z h a "com/example/sessionkeep/sessionkeep/codec/ObjectStreamShape$Puts" "tables" "[I" (.ref tb) ∧ Fld Z h a "com/example/sessionkeep/sessionkeep/codec/ObjectStreamShape$Puts" "keys" "[I" (.ref kb) ∧ Fld Z h a "com/example/sessionkeep/sessionkeep/codec/ObjectStreamShape$Puts" "weights" "[J" (.ref wb) ∧ Fld Z h a "com/example/sessionkeep/sessionkeep/codec/ObjectStreamShape$Puts" "afters" "[I" (.ref ab) ∧ Fld Z h a "com/example/sessionkeep/sessionkeep/codec/ObjectStreamShape$Puts" "size" "I" (.int (1 : Int32)) ∧ Arv Z h tb kk1 .int (16 : Int32) ([(.int x), (.int (0 : Int32)), (.int (0 : Int32)), (.int (0 : Int32)), (.int (0 : Int32)), (.int (0 : Int32)), (.int (0 : Int32)), (.int (0 : Int32)), (.int (0 : Int32)), (.int (0 : Int32)), (.int (0 : Int32)), (.int (0 : Int32)), (.int (0 : Int32)), (.int (0 : Int32)), (.int (0 : Int32)), (.int (0 : Int32))]) (.int (0 : Int32)) ∧ Arv Z h kb kk2 .int (16 : Int32) ([(.int ov), (.int (0 : Int32)), (.int (0 : Int32)), (.int (0 : Int32)), (.int (0 : Int32)), (.int (0 : Int32)), (.int (0 : Int32)), (.int (0 : Int32)), (.int (0 : Int32)), (.int (0 : Int32)), (.int (0 : Int32)), (.int (0 : Int32)), (.int (0 : Int32)), (.int (0 : Int32)), (.int (0 : Int32)), (.int (0 : Int32))]) (.int (0 : Int32)) ∧ Arv Z h wb kk3 .long (16 : Int32) ([(.long wt), (.long (0 : Int64)), (.long (0 : Int64)), (.long (0 : Int64)), (.long (0 : Int64)), (.long (0 : Int64)), (.long (0 : Int64)), (.long (0 : Int64)), (.long (0 : Int64)), (.long (0 : Int64)), (.long (0 : Int64)), (.long (0 : Int64)), (.long (0 : Int64)), (.long (0 : Int64)), (.long (0 : Int64)), (.long (0 : Int64))]) (.long (0 : Int64)) ∧ Arv Z h ab kk4 .int (16 : Int32) ([(.int y), (.int (0 : Int32)), (.int (0 : Int32)), (.int (0 : Int32)), (.int (0 : Int32)), (.int (0 : Int32)), (.int (0 : Int32)), (.int (0 : Int32)), (.int (0 : Int32)), (.int (0 : Int32)), (.int (0 : Int32)), (.int (0 : Int32)), (.int (0 : Int32)), (.int (0 : Int32)), (.int (0 : Int32)), (.int (0 : Int32))]) (.int (0 : Int32))
set_option maxRecDepth 65536 in
set_option maxHeartbeats 40000000 in
theorem rmAdd0 (l : Launch) (Z : State) (a0 : Array Value) (hw : ∀ d ∈ tables_1, d.before a0 Z = true) (ws : List Jvm.Cond) (a : Addr) (t : Addr) (n : Addr) (y : Int32) (x : Int32) (ov : Int32) (wt : Int64) (tb : Addr) (kb : Addr) (wb : Addr) (ab : Addr) (kk1 : ClassId) (kk2 : ClassId) (kk3 : ClassId) (kk4 : ClassId) (h0 : Heap) (n0 : Nat) (Z0 : n0 ≤ h0.size) (E_a : Exa Z h0 a "com/example/sessionkeep/sessionkeep/codec/ObjectStreamShape$Puts") (F_a_tables : Fld Z h0 a "com/example/sessionkeep/sessionkeep/codec/ObjectStreamShape$Puts" "tables" "[I" (.ref tb)) (F_a_keys : Fld Z h0 a "com/example/sessionkeep/sessionkeep/codec/ObjectStreamShape$Puts" "keys" "[I" (.ref kb)) (F_a_weights : Fld Z h0 a "com/example/sessionkeep/sessionkeep/codec/ObjectStreamShape$Puts" "weights" "[J" (.ref wb)) (F_a_afters : Fld Z h0 a "com/example/sessionkeep/sessionkeep/codec/ObjectStreamShape$Puts" "afters" "[I" (.ref ab)) (F_a_size : Fld Z h0 a "com/example/sessionkeep/sessionkeep/codec/ObjectStreamShape$Puts" "size" "I" (.int (0 : Int32))) (V_tb : Arv Z h0 tb kk1 .int (16 : Int32) ([(.int (0 : Int32)), (.int (0 : Int32)), (.int (0 : Int32)), (.int (0 : Int32)), (.int (0 : Int32)), (.int (0 : Int32)), (.int (0 : Int32)), (.int (0 : Int32)), (.int (0 : Int32)), (.int (0 : Int32)), (.int (0 : Int32)), (.int (0 : Int32)), (.int (0 : Int32)), (.int (0 : Int32)), (.int (0 : Int32)), (.int (0 : Int32))]) (.int (0 : Int32))) (V_kb : Arv Z h0 kb kk2 .int (16 : Int32) ([(.int (0 : Int32)), (.int (0 : Int32)), (.int (0 : Int32)), (.int (0 : Int32)), (.int (0 : Int32)), (.int (0 : Int32)), (.int (0 : Int32)), (.int (0 : Int32)), (.int (0 : Int32)), (.int (0 : Int32)), (.int (0 : Int32)), (.int (0 : Int32)), (.int (0 : Int32)), (.int (0 : Int32)), (.int (0 : Int32)), (.int (0 : Int32))]) (.int (0 : Int32))) (V_wb : Arv Z h0 wb kk3 .long (16 : Int32) ([(.long (0 : Int64)), (.long (0 : Int64)), (.long (0 : Int64)), (.long (0 : Int64)), (.long (0 : Int64)), (.long (0 : Int64)), (.long (0 : Int64)), (.long (0 : Int64)), (.long (0 : Int64)), (.long (0 : Int64)), (.long (0 : Int64)), (.long (0 : Int64)), (.long (0 : Int64)), (.long (0 : Int64)), (.long (0 : Int64)), (.long (0 : Int64))]) (.long (0 : Int64))) (V_ab : Arv Z h0 ab kk4 .int (16 : Int32) ([(.int (0 : Int32)), (.int (0 : Int32)), (.int (0 : Int32)), (.int (0 : Int32)), (.int (0 : Int32)), (.int (0 : Int32)), (.int (0 : Int32)), (.int (0 : Int32)), (.int (0 : Int32)), (.int (0 : Int32)), (.int (0 : Int32)), (.int (0 : Int32)), (.int (0 : Int32)), (.int (0 : Int32)), (.int (0 : Int32)), (.int (0 : Int32))]) (.int (0 : Int32))) (g_a : n0 ≤ a) (g_tb : n0 ≤ tb) (g_kb : n0 ≤ kb) (g_wb : n0 ≤ wb) (g_ab : n0 ≤ ab) (ne_a_tb : a ≠ tb) (ne_a_kb : a ≠ kb) (ne_a_wb : a ≠ wb) (ne_a_ab : a ≠ ab) (ne_tb_kb : tb ≠ kb) (ne_tb_wb : tb ≠ wb) (ne_tb_ab : tb ≠ ab) (ne_kb_wb : kb ≠ wb) (ne_kb_ab : kb ≠ ab) (ne_wb_ab : wb ≠ ab) (E_t : Exa Z h0 t "com/example/sessionkeep/sessionkeep/codec/ObjectStreamShape$Table") (F_t_index : Fld Z h0 t "com/example/sessionkeep/sessionkeep/codec/ObjectStreamShape$Table" "index" "I" (.int x)) (F_n_ordinal : Fld Z h0 n "com/example/sessionkeep/sessionkeep/codec/ObjectStreamShape$Node" "ordinal" "I" (.int ov)) (F_n_weight : Fld Z h0 n "com/example/sessionkeep/sessionkeep/codec/ObjectStreamShape$Node" "weight" "J" (.long wt)) (ne_t_tb : t ≠ tb) (ne_t_kb : t ≠ kb) (ne_t_wb : t ≠ wb) (ne_t_ab : t ≠ ab) (ne_n_tb : n ≠ tb) (ne_n_kb : n ≠ kb) (ne_n_wb : n ≠ wb) (ne_n_ab : n ≠ ab) :
    MetFree l (⟨"com/example/sessionkeep/sessionkeep/codec/ObjectStreamShape$Puts", "add", "(Lcom/example/sessionkeep/sessionkeep/codec/ObjectStreamShape$Table;Lcom/example/sessionkeep/sessionkeep/codec/ObjectStreamShape$Node;I)V"⟩ : MethodName) (head1 (Jvm.Cond.code (⟨"com/example/sessionkeep/sessionkeep/codec/ObjectStreamShape$Puts", "add", "(Lcom/example/sessionkeep/sessionkeep/codec/ObjectStreamShape$Table;Lcom/example/sessionkeep/sessionkeep/codec/ObjectStreamShape$Node;I)V"⟩ : MethodName) prog_13_method_2_code 5 none :: ws) ({ frames := 1, cells := 0, slots := 0, locals := 14 } : Room)) (fun as' U => as' = #[(.ref a), (.ref t), (.ref n), (.int y)] ∧ Z.Warmed39 U.vm ∧ U.heap = h0) (fun _ _ _ _ _ => True) (fun _ U o U' => ∃ v L, o = .returned v ∧ Q_rmAdd0 Z a t n y x ov wt tb kb wb ab kk1 kk2 kk3 kk4 h0 n0 v U'.heap L ∧ FrameEnd U o U' L ({ frames := 1, cells := 0, slots := 0, locals := 14 } : Room).cells ({ frames := 1, cells := 0, slots := 0, locals := 14 } : Room).slots) := by
  refine MetFree.of_bodySF (plainFor_of_name pn_4) hisR ?_
  intro p e s m args below meth c s₁ Bd hml0 hP hK
  obtain ⟨rfl, hZ, hh⟩ := hP
  have hx := Bd.exec
  have hby := Bd.bytes
  have hml : c.maxLocals = 5 := hml0
  have hown : s.vm.findClass "com/example/sessionkeep/sessionkeep/codec/ObjectStreamShape$Puts" = some m.cls := findClass_of_methodNamed Bd.named
  have hnm := (name_of_methodNamed Bd.named Bd.method).1
  have X0 : Stand p l e ({ frames := 1, cells := 0, slots := 0, locals := 14 } : Room) s m #[(.ref a), (.ref t), (.ref n), (.int y)] below meth c s₁ [] 0 0 := Stand.of_body Bd
  have e0 : s₁.heap = h0 := by rw [← hh, Bd.state]; rfl
  have N0 := Fr.nil n0
  refine Go.enter (F := EndN s (Q_rmAdd0 Z a t n y x ov wt tb kb wb ab kk1 kk2 kk3 kk4 h0 n0) ({ frames := 1, cells := 0, slots := 0, locals := 14 } : Room).cells ({ frames := 1, cells := 0, slots := 0, locals := 14 } : Room).slots) (ef_128 m a t n y) ?_
  show Go _ _ _ _ s₁ (mkF m 0 #[.val (.ref a), .val (.ref t), .val (.ref n), .val (.int y), .unset] [])
  refine Go.by (fun _ gk => XS.aloadN X0.here hx rfl (hb hby d8_0) rfl rfl gk) ?_
  show Go _ _ _ _ s₁ (mkF m 1 #[.val (.ref a), .val (.ref t), .val (.ref n), .val (.int y), .unset] [(.ref a)])
  obtain ⟨T1, X1, e1, st1⟩ := getF X0 hx hZ hown (host := "") (Or.inl (hw _ (List.mem_of_getElem? (i := 75) rfl))) Via.refl e0 F_a_size (g := (mkF m 1 #[.val (.ref a), .val (.ref t), .val (.ref n), .val (.int y), .unset] [(.ref a)])) rfl rfl (hb hby d8_1)
  refine Go.by st1 ?_
  show Go _ _ _ _ T1 (mkF m 4 #[.val (.ref a), .val (.ref t), .val (.ref n), .val (.int y), .unset] [(.int (0 : Int32))])
  refine Go.by (fun _ gk => XS.aloadN X1.here hx rfl (hb hby d8_4) rfl rfl gk) ?_
  show Go _ _ _ _ T1 (mkF m 5 #[.val (.ref a), .val (.ref t), .val (.ref n), .val (.int y), .unset] [(.ref a), (.int (0 : Int32))])
  obtain ⟨T2, X2, e2, st2⟩ := getF X1 hx hZ hown (host := "") (Or.inl (hw _ (List.mem_of_getElem? (i := 10) rfl))) Via.refl e1 F_a_tables (g := (mkF m 5 #[.val (.ref a), .val (.ref t), .val (.ref n), .val (.int y), .unset] [(.ref a), (.int (0 : Int32))])) rfl rfl (hb hby d8_5)
  refine Go.by st2 ?_
  show Go _ _ _ _ T2 (mkF m 8 #[.val (.ref a), .val (.ref t), .val (.ref n), .val (.int y), .unset] [(.ref tb), (.int (0 : Int32))])
  obtain ⟨cl3, Ar3, -, S3, M3, -, -⟩ := id V_tb
  refine Go.by (fun _ gk => X2.arraylength hx (by rw [e2]; exact Ar3.1) (State.isArrayOf_alike hZ.alike Ar3.2.1) (g := (mkF m 8 #[.val (.ref a), .val (.ref t), .val (.ref n), .val (.int y), .unset] [(.ref tb), (.int (0 : Int32))])) rfl rfl (hb hby d8_8) _ gk) ?_
  rw [len_of S3 M3]
  show Go _ _ _ _ T2 (mkF m 9 #[.val (.ref a), .val (.ref t), .val (.ref n), .val (.int y), .unset] [(.int (16 : Int32)), (.int (0 : Int32))])
  refine Go.by (fun _ gk => XS.icmpYes X2.here hx rfl (pc0 := 9) (pc' := 72) rfl (hb hby d8_9) rfl (XT.ii_ne_t (by decide)) (by decide) (by decide) gk) ?_
  show Go _ _ _ _ T2 (mkF m 72 #[.val (.ref a), .val (.ref t), .val (.ref n), .val (.int y), .unset] [])
  refine Go.by (fun _ gk => XS.aloadN X2.here hx rfl (hb hby d8_72) rfl rfl gk) ?_
  show Go _ _ _ _ T2 (mkF m 73 #[.val (.ref a), .val (.ref t), .val (.ref n), .val (.int y), .unset] [(.ref a)])
  obtain ⟨T4, X4, e4, st4⟩ := getF X2 hx hZ hown (host := "") (Or.inl (hw _ (List.mem_of_getElem? (i := 10) rfl))) Via.refl e2 F_a_tables (g := (mkF m 73 #[.val (.ref a), .val (.ref t), .val (.ref n), .val (.int y), .unset] [(.ref a)])) rfl rfl (hb hby d8_73)
  refine Go.by st4 ?_
  show Go _ _ _ _ T4 (mkF m 76 #[.val (.ref a), .val (.ref t), .val (.ref n), .val (.int y), .unset] [(.ref tb)])
  refine Go.by (fun _ gk => XS.aloadN X4.here hx rfl (hb hby d8_76) rfl rfl gk) ?_
  show Go _ _ _ _ T4 (mkF m 77 #[.val (.ref a), .val (.ref t), .val (.ref n), .val (.int y), .unset] [(.ref a), (.ref tb)])
  obtain ⟨T5, X5, e5, st5⟩ := getF X4 hx hZ hown (host := "") (Or.inl (hw _ (List.mem_of_getElem? (i := 75) rfl))) Via.refl e4 F_a_size (g := (mkF m 77 #[.val (.ref a), .val (.ref t), .val (.ref n), .val (.int y), .unset] [(.ref a), (.ref tb)])) rfl rfl (hb hby d8_77)
  refine Go.by st5 ?_
  show Go _ _ _ _ T5 (mkF m 80 #[.val (.ref a), .val (.ref t), .val (.ref n), .val (.int y), .unset] [(.int (0 : Int32)), (.ref tb)])
  refine Go.by (fun _ gk => XS.aloadN X5.here hx rfl (hb hby d8_80) rfl rfl gk) ?_
  show Go _ _ _ _ T5 (mkF m 81 #[.val (.ref a), .val (.ref t), .val (.ref n), .val (.int y), .unset] [(.ref t), (.int (0 : Int32)), (.ref tb)])
  obtain ⟨cq6, kq6, q6a, q6b, q6c⟩ := isOf hZ e5 E_t
  obtain ⟨_, _, ⟨T6, L6, k6, n6⟩, -, X6, ⟨Lc6, hQ6, l6, y6, z6⟩, st6⟩ := X5.virtualBack hx (y := (⟨"com/example/sessionkeep/sessionkeep/codec/ObjectStreamShape$Table", "index", "()I"⟩ : MethodName)) (z := (⟨"com/example/sessionkeep/sessionkeep/codec/ObjectStreamShape$Table", "index", "()I"⟩ : MethodName)) hown (mvT hZ (hw _ (List.mem_of_getElem? (i := 82) rfl))) (mvT hZ (hw _ (List.mem_of_getElem? (i := 83) rfl))) (notFace_of_selects (args := #[]) (mvT hZ (hw _ (List.mem_of_getElem? (i := 85) rfl)))) (mvT hZ (hw _ (List.mem_of_getElem? (i := 85) rfl))) (mvT hZ (hw _ (List.mem_of_getElem? (i := 84) rfl))) (by decide) (backOf (W := 2) (rmIndex l Z a0 hw [] t x h0 n0 Z0 F_t_index) hZ (hw _ (List.mem_of_getElem? (i := 86) rfl)) (hw _ (List.mem_of_getElem? (i := 21) rfl)) (by decide) (by decide)) q6a q6c (g := (mkF m 81 #[.val (.ref a), .val (.ref t), .val (.ref n), .val (.int y), .unset] [(.ref t), (.int (0 : Int32)), (.ref tb)])) rfl (by rw [hml]; rfl) (Steps.refl _) (argsL := []) (rest := [(.int (0 : Int32)), (.ref tb)]) (lenOf pd_140 rfl) rfl (by show 2 * 0 + _ ≤ _; exact Nat.le_of_eq rfl) (hb hby d8_81) (fun _ _ => ⟨rfl, e5, (by decide : 0 + 0 ≤ _), (by decide : 0 + 0 ≤ _)⟩)
  dsimp only [Pt.U, Pt.locs, Pt.cells, Pt.slots] at X6 l6 y6 z6 st6 hQ6
  subst l6 y6 z6
  obtain ⟨rfl, N6q, e6⟩ := hQ6
  have N6 := Fr.app N0 N6q
  refine Go.to st6 ?_
  show Go _ _ _ _ T6 (mkF m 84 #[.val (.ref a), .val (.ref t), .val (.ref n), .val (.int y), .unset] [(.int x), (.int (0 : Int32)), (.ref tb)])
  obtain ⟨cl7, Ar7, q7, S7, M7, H7, G7⟩ := id V_tb
  have hin7 : ¬ ((0 : Int32) < 0 ∨ cl7.slots.size ≤ (0 : Int32).toNatClampNeg) := inb_of S7 ⟨by decide, by decide⟩
  obtain ⟨T7, h7, X7, e7, W7, st7⟩ := stI X6 hx hZ e6 Ar7 (j := (0 : Int32)) hin7 (g := (mkF m 84 #[.val (.ref a), .val (.ref t), .val (.ref n), .val (.int y), .unset] [(.int x), (.int (0 : Int32)), (.ref tb)])) rfl rfl (hb hby d8_84)
  have N7 := Fr.snoc X7 N6 g_tb
  have V7 : Arv Z h7 tb kk1 .int (16 : Int32) [(.int x), (.int (0 : Int32)), (.int (0 : Int32)), (.int (0 : Int32)), (.int (0 : Int32)), (.int (0 : Int32)), (.int (0 : Int32)), (.int (0 : Int32)), (.int (0 : Int32)), (.int (0 : Int32)), (.int (0 : Int32)), (.int (0 : Int32)), (.int (0 : Int32)), (.int (0 : Int32)), (.int (0 : Int32)), (.int (0 : Int32))] (.int (0 : Int32)) := Arv.set Ar7 q7 S7 M7 H7 G7 rfl W7 0 rfl (Nat.le_of_ble_eq_true rfl)
  refine Go.by st7 ?_
  show Go _ _ _ _ T7 (mkF m 85 #[.val (.ref a), .val (.ref t), .val (.ref n), .val (.int y), .unset] [])
  refine Go.by (fun _ gk => XS.aloadN X7.here hx rfl (hb hby d8_85) rfl rfl gk) ?_
  show Go _ _ _ _ T7 (mkF m 86 #[.val (.ref a), .val (.ref t), .val (.ref n), .val (.int y), .unset] [(.ref a)])
  have F8 : Fld Z h7 a "com/example/sessionkeep/sessionkeep/codec/ObjectStreamShape$Puts" "keys" "[I" (.ref kb) := F_a_keys.other W7 (Or.inl ne_a_tb)
  obtain ⟨T9, X9, e9, st9⟩ := getF X7 hx hZ hown (host := "") (Or.inl (hw _ (List.mem_of_getElem? (i := 12) rfl))) Via.refl e7 F8 (g := (mkF m 86 #[.val (.ref a), .val (.ref t), .val (.ref n), .val (.int y), .unset] [(.ref a)])) rfl rfl (hb hby d8_86)
  refine Go.by st9 ?_
  show Go _ _ _ _ T9 (mkF m 89 #[.val (.ref a), .val (.ref t), .val (.ref n), .val (.int y), .unset] [(.ref kb)])
  refine Go.by (fun _ gk => XS.aloadN X9.here hx rfl (hb hby d8_89) rfl rfl gk) ?_
  show Go _ _ _ _ T9 (mkF m 90 #[.val (.ref a), .val (.ref t), .val (.ref n), .val (.int y), .unset] [(.ref a), (.ref kb)])
  have F10 : Fld Z h7 a "com/example/sessionkeep/sessionkeep/codec/ObjectStreamShape$Puts" "size" "I" (.int (0 : Int32)) := F_a_size.other W7 (Or.inl ne_a_tb)
  obtain ⟨T11, X11, e11, st11⟩ := getF X9 hx hZ hown (host := "") (Or.inl (hw _ (List.mem_of_getElem? (i := 75) rfl))) Via.refl e9 F10 (g := (mkF m 90 #[.val (.ref a), .val (.ref t), .val (.ref n), .val (.int y), .unset] [(.ref a), (.ref kb)])) rfl rfl (hb hby d8_90)
  refine Go.by st11 ?_
  show Go _ _ _ _ T11 (mkF m 93 #[.val (.ref a), .val (.ref t), .val (.ref n), .val (.int y), .unset] [(.int (0 : Int32)), (.ref kb)])
  refine Go.by (fun _ gk => XS.aloadN X11.here hx rfl (hb hby d8_93) rfl rfl gk) ?_
  show Go _ _ _ _ T11 (mkF m 94 #[.val (.ref a), .val (.ref t), .val (.ref n), .val (.int y), .unset] [(.ref n), (.int (0 : Int32)), (.ref kb)])
  have F12 : Fld Z h7 n "com/example/sessionkeep/sessionkeep/codec/ObjectStreamShape$Node" "ordinal" "I" (.int ov) := F_n_ordinal.other W7 (Or.inl ne_n_tb)
  obtain ⟨T13, X13, e13, st13⟩ := getF X11 hx hZ hown (Or.inr (hw _ (List.mem_of_getElem? (i := 87) rfl))) Via.refl e11 F12 (g := (mkF m 94 #[.val (.ref a), .val (.ref t), .val (.ref n), .val (.int y), .unset] [(.ref n), (.int (0 : Int32)), (.ref kb)])) rfl rfl (hb hby d8_94)
  refine Go.by st13 ?_
  show Go _ _ _ _ T13 (mkF m 97 #[.val (.ref a), .val (.ref t), .val (.ref n), .val (.int y), .unset] [(.int ov), (.int (0 : Int32)), (.ref kb)])
  have F14 : Arv Z h7 kb kk2 .int (16 : Int32) [(.int (0 : Int32)), (.int (0 : Int32)), (.int (0 : Int32)), (.int (0 : Int32)), (.int (0 : Int32)), (.int (0 : Int32)), (.int (0 : Int32)), (.int (0 : Int32)), (.int (0 : Int32)), (.int (0 : Int32)), (.int (0 : Int32)), (.int (0 : Int32)), (.int (0 : Int32)), (.int (0 : Int32)), (.int (0 : Int32)), (.int (0 : Int32))] (.int (0 : Int32)) := V_kb.other W7 (Ne.symm ne_tb_kb)
  obtain ⟨cl15, Ar15, q15, S15, M15, H15, G15⟩ := id F14
  have hin15 : ¬ ((0 : Int32) < 0 ∨ cl15.slots.size ≤ (0 : Int32).toNatClampNeg) := inb_of S15 ⟨by decide, by decide⟩
  obtain ⟨T15, h15, X15, e15, W15, st15⟩ := stI X13 hx hZ e13 Ar15 (j := (0 : Int32)) hin15 (g := (mkF m 97 #[.val (.ref a), .val (.ref t), .val (.ref n), .val (.int y), .unset] [(.int ov), (.int (0 : Int32)), (.ref kb)])) rfl rfl (hb hby d8_97)
  have N15 := Fr.snoc X15 N7 g_kb
  have V15 : Arv Z h15 kb kk2 .int (16 : Int32) [(.int ov), (.int (0 : Int32)), (.int (0 : Int32)), (.int (0 : Int32)), (.int (0 : Int32)), (.int (0 : Int32)), (.int (0 : Int32)), (.int (0 : Int32)), (.int (0 : Int32)), (.int (0 : Int32)), (.int (0 : Int32)), (.int (0 : Int32)), (.int (0 : Int32)), (.int (0 : Int32)), (.int (0 : Int32)), (.int (0 : Int32))] (.int (0 : Int32)) := Arv.set Ar15 q15 S15 M15 H15 G15 rfl W15 0 rfl (Nat.le_of_ble_eq_true rfl)
  refine Go.by st15 ?_
  show Go _ _ _ _ T15 (mkF m 98 #[.val (.ref a), .val (.ref t), .val (.ref n), .val (.int y), .unset] [])
  refine Go.by (fun _ gk => XS.aloadN X15.here hx rfl (hb hby d8_98) rfl rfl gk) ?_
  show Go _ _ _ _ T15 (mkF m 99 #[.val (.ref a), .val (.ref t), .val (.ref n), .val (.int y), .unset] [(.ref a)])
  have F16 : Fld Z h7 a "com/example/sessionkeep/sessionkeep/codec/ObjectStreamShape$Puts" "weights" "[J" (.ref wb) := F_a_weights.other W7 (Or.inl ne_a_tb)
  have F17 : Fld Z h15 a "com/example/sessionkeep/sessionkeep/codec/ObjectStreamShape$Puts" "weights" "[J" (.ref wb) := F16.other W15 (Or.inl ne_a_kb)
  obtain ⟨T18, X18, e18, st18⟩ := getF X15 hx hZ hown (host := "") (Or.inl (hw _ (List.mem_of_getElem? (i := 15) rfl))) Via.refl e15 F17 (g := (mkF m 99 #[.val (.ref a), .val (.ref t), .val (.ref n), .val (.int y), .unset] [(.ref a)])) rfl rfl (hb hby d8_99)
  refine Go.by st18 ?_
  show Go _ _ _ _ T18 (mkF m 102 #[.val (.ref a), .val (.ref t), .val (.ref n), .val (.int y), .unset] [(.ref wb)])
  refine Go.by (fun _ gk => XS.aloadN X18.here hx rfl (hb hby d8_102) rfl rfl gk) ?_
  show Go _ _ _ _ T18 (mkF m 103 #[.val (.ref a), .val (.ref t), .val (.ref n), .val (.int y), .unset] [(.ref a), (.ref wb)])
  have F19 : Fld Z h15 a "com/example/sessionkeep/sessionkeep/codec/ObjectStreamShape$Puts" "size" "I" (.int (0 : Int32)) := F10.other W15 (Or.inl ne_a_kb)
  obtain ⟨T20, X20, e20, st20⟩ := getF X18 hx hZ hown (host := "") (Or.inl (hw _ (List.mem_of_getElem? (i := 75) rfl))) Via.refl e18 F19 (g := (mkF m 103 #[.val (.ref a), .val (.ref t), .val (.ref n), .val (.int y), .unset] [(.ref a), (.ref wb)])) rfl rfl (hb hby d8_103)
  refine Go.by st20 ?_
  show Go _ _ _ _ T20 (mkF m 106 #[.val (.ref a), .val (.ref t), .val (.ref n), .val (.int y), .unset] [(.int (0 : Int32)), (.ref wb)])
  refine Go.by (fun _ gk => XS.aloadN X20.here hx rfl (hb hby d8_106) rfl rfl gk) ?_
  show Go _ _ _ _ T20 (mkF m 107 #[.val (.ref a), .val (.ref t), .val (.ref n), .val (.int y), .unset] [(.ref n), (.int (0 : Int32)), (.ref wb)])
  have F21 : Fld Z h7 n "com/example/sessionkeep/sessionkeep/codec/ObjectStreamShape$Node" "weight" "J" (.long wt) := F_n_weight.other W7 (Or.inl ne_n_tb)
  have F22 : Fld Z h15 n "com/example/sessionkeep/sessionkeep/codec/ObjectStreamShape$Node" "weight" "J" (.long wt) := F21.other W15 (Or.inl ne_n_kb)
  obtain ⟨T23, X23, e23, st23⟩ := getF X20 hx hZ hown (Or.inr (hw _ (List.mem_of_getElem? (i := 88) rfl))) Via.refl e20 F22 (g := (mkF m 107 #[.val (.ref a), .val (.ref t), .val (.ref n), .val (.int y), .unset] [(.ref n), (.int (0 : Int32)), (.ref wb)])) rfl rfl (hb hby d8_107)
  refine Go.by st23 ?_
  show Go _ _ _ _ T23 (mkF m 110 #[.val (.ref a), .val (.ref t), .val (.ref n), .val (.int y), .unset] [(.long wt), (.int (0 : Int32)), (.ref wb)])
  have F24 : Arv Z h7 wb kk3 .long (16 : Int32) [(.long (0 : Int64)), (.long (0 : Int64)), (.long (0 : Int64)), (.long (0 : Int64)), (.long (0 : Int64)), (.long (0 : Int64)), (.long (0 : Int64)), (.long (0 : Int64)), (.long (0 : Int64)), (.long (0 : Int64)), (.long (0 : Int64)), (.long (0 : Int64)), (.long (0 : Int64)), (.long (0 : Int64)), (.long (0 : Int64)), (.long (0 : Int64))] (.long (0 : Int64)) := V_wb.other W7 (Ne.symm ne_tb_wb)
  have F25 : Arv Z h15 wb kk3 .long (16 : Int32) [(.long (0 : Int64)), (.long (0 : Int64)), (.long (0 : Int64)), (.long (0 : Int64)), (.long (0 : Int64)), (.long (0 : Int64)), (.long (0 : Int64)), (.long (0 : Int64)), (.long (0 : Int64)), (.long (0 : Int64)), (.long (0 : Int64)), (.long (0 : Int64)), (.long (0 : Int64)), (.long (0 : Int64)), (.long (0 : Int64)), (.long (0 : Int64))] (.long (0 : Int64)) := F24.other W15 (Ne.symm ne_kb_wb)
  obtain ⟨cl26, Ar26, q26, S26, M26, H26, G26⟩ := id F25
  have hin26 : ¬ ((0 : Int32) < 0 ∨ cl26.slots.size ≤ (0 : Int32).toNatClampNeg) := inb_of S26 ⟨by decide, by decide⟩
  obtain ⟨T26, h26, X26, e26, W26, st26⟩ := stJ X23 hx hZ e23 Ar26 (j := (0 : Int32)) hin26 (g := (mkF m 110 #[.val (.ref a), .val (.ref t), .val (.ref n), .val (.int y), .unset] [(.long wt), (.int (0 : Int32)), (.ref wb)])) rfl rfl (hb hby d8_110)
  have N26 := Fr.snoc X26 N15 g_wb
  have V26 : Arv Z h26 wb kk3 .long (16 : Int32) [(.long wt), (.long (0 : Int64)), (.long (0 : Int64)), (.long (0 : Int64)), (.long (0 : Int64)), (.long (0 : Int64)), (.long (0 : Int64)), (.long (0 : Int64)), (.long (0 : Int64)), (.long (0 : Int64)), (.long (0 : Int64)), (.long (0 : Int64)), (.long (0 : Int64)), (.long (0 : Int64)), (.long (0 : Int64)), (.long (0 : Int64))] (.long (0 : Int64)) := Arv.set Ar26 q26 S26 M26 H26 G26 rfl W26 0 rfl (Nat.le_of_ble_eq_true rfl)
  refine Go.by st26 ?_
  show Go _ _ _ _ T26 (mkF m 111 #[.val (.ref a), .val (.ref t), .val (.ref n), .val (.int y), .unset] [])
  refine Go.by (fun _ gk => XS.aloadN X26.here hx rfl (hb hby d8_111) rfl rfl gk) ?_
  show Go _ _ _ _ T26 (mkF m 112 #[.val (.ref a), .val (.ref t), .val (.ref n), .val (.int y), .unset] [(.ref a)])
  have F27 : Fld Z h7 a "com/example/sessionkeep/sessionkeep/codec/ObjectStreamShape$Puts" "afters" "[I" (.ref ab) := F_a_afters.other W7 (Or.inl ne_a_tb)
  have F28 : Fld Z h15 a "com/example/sessionkeep/sessionkeep/codec/ObjectStreamShape$Puts" "afters" "[I" (.ref ab) := F27.other W15 (Or.inl ne_a_kb)
  have F29 : Fld Z h26 a "com/example/sessionkeep/sessionkeep/codec/ObjectStreamShape$Puts" "afters" "[I" (.ref ab) := F28.other W26 (Or.inl ne_a_wb)
  obtain ⟨T30, X30, e30, st30⟩ := getF X26 hx hZ hown (host := "") (Or.inl (hw _ (List.mem_of_getElem? (i := 17) rfl))) Via.refl e26 F29 (g := (mkF m 112 #[.val (.ref a), .val (.ref t), .val (.ref n), .val (.int y), .unset] [(.ref a)])) rfl rfl (hb hby d8_112)
  refine Go.by st30 ?_
  show Go _ _ _ _ T30 (mkF m 115 #[.val (.ref a), .val (.ref t), .val (.ref n), .val (.int y), .unset] [(.ref ab)])
  refine Go.by (fun _ gk => XS.aloadN X30.here hx rfl (hb hby d8_115) rfl rfl gk) ?_
  show Go _ _ _ _ T30 (mkF m 116 #[.val (.ref a), .val (.ref t), .val (.ref n), .val (.int y), .unset] [(.ref a), (.ref ab)])
  have F31 : Fld Z h26 a "com/example/sessionkeep/sessionkeep/codec/ObjectStreamShape$Puts" "size" "I" (.int (0 : Int32)) := F19.other W26 (Or.inl ne_a_wb)
  obtain ⟨T32, X32, e32, st32⟩ := getF X30 hx hZ hown (host := "") (Or.inl (hw _ (List.mem_of_getElem? (i := 75) rfl))) Via.refl e30 F31 (g := (mkF m 116 #[.val (.ref a), .val (.ref t), .val (.ref n), .val (.int y), .unset] [(.ref a), (.ref ab)])) rfl rfl (hb hby d8_116)
  refine Go.by st32 ?_
  show Go _ _ _ _ T32 (mkF m 119 #[.val (.ref a), .val (.ref t), .val (.ref n), .val (.int y), .unset] [(.int (0 : Int32)), (.ref ab)])
  refine Go.by (fun _ gk => XS.iloadN X32.here hx rfl (hb hby d8_119) rfl gk) ?_
  show Go _ _ _ _ T32 (mkF m 120 #[.val (.ref a), .val (.ref t), .val (.ref n), .val (.int y), .unset] [(.int y), (.int (0 : Int32)), (.ref ab)])
  have F33 : Arv Z h7 ab kk4 .int (16 : Int32) [(.int (0 : Int32)), (.int (0 : Int32)), (.int (0 : Int32)), (.int (0 : Int32)), (.int (0 : Int32)), (.int (0 : Int32)), (.int (0 : Int32)), (.int (0 : Int32)), (.int (0 : Int32)), (.int (0 : Int32)), (.int (0 : Int32)), (.int (0 : Int32)), (.int (0 : Int32)), (.int (0 : Int32)), (.int (0 : Int32)), (.int (0 : Int32))] (.int (0 : Int32)) := V_ab.other W7 (Ne.symm ne_tb_ab)
  have F34 : Arv Z h15 ab kk4 .int (16 : Int32) [(.int (0 : Int32)), (.int (0 : Int32)), (.int (0 : Int32)), (.int (0 : Int32)), (.int (0 : Int32)), (.int (0 : Int32)), (.int (0 : Int32)), (.int (0 : Int32)), (.int (0 : Int32)), (.int (0 : Int32)), (.int (0 : Int32)), (.int (0 : Int32)), (.int (0 : Int32)), (.int (0 : Int32)), (.int (0 : Int32)), (.int (0 : Int32))] (.int (0 : Int32)) := F33.other W15 (Ne.symm ne_kb_ab)
  have F35 : Arv Z h26 ab kk4 .int (16 : Int32) [(.int (0 : Int32)), (.int (0 : Int32)), (.int (0 : Int32)), (.int (0 : Int32)), (.int (0 : Int32)), (.int (0 : Int32)), (.int (0 : Int32)), (.int (0 : Int32)), (.int (0 : Int32)), (.int (0 : Int32)), (.int (0 : Int32)), (.int (0 : Int32)), (.int (0 : Int32)), (.int (0 : Int32)), (.int (0 : Int32)), (.int (0 : Int32))] (.int (0 : Int32)) := F34.other W26 (Ne.symm ne_wb_ab)
  obtain ⟨cl36, Ar36, q36, S36, M36, H36, G36⟩ := id F35
  have hin36 : ¬ ((0 : Int32) < 0 ∨ cl36.slots.size ≤ (0 : Int32).toNatClampNeg) := inb_of S36 ⟨by decide, by decide⟩
  obtain ⟨T36, h36, X36, e36, W36, st36⟩ := stI X32 hx hZ e32 Ar36 (j := (0 : Int32)) hin36 (g := (mkF m 120 #[.val (.ref a), .val (.ref t), .val (.ref n), .val (.int y), .unset] [(.int y), (.int (0 : Int32)), (.ref ab)])) rfl rfl (hb hby d8_120)
  have N36 := Fr.snoc X36 N26 g_ab
  have V36 : Arv Z h36 ab kk4 .int (16 : Int32) [(.int y), (.int (0 : Int32)), (.int (0 : Int32)), (.int (0 : Int32)), (.int (0 : Int32)), (.int (0 : Int32)), (.int (0 : Int32)), (.int (0 : Int32)), (.int (0 : Int32)), (.int (0 : Int32)), (.int (0 : Int32)), (.int (0 : Int32)), (.int (0 : Int32)), (.int (0 : Int32)), (.int (0 : Int32)), (.int (0 : Int32))] (.int (0 : Int32)) := Arv.set Ar36 q36 S36 M36 H36 G36 rfl W36 0 rfl (Nat.le_of_ble_eq_true rfl)
  refine Go.by st36 ?_
  show Go _ _ _ _ T36 (mkF m 121 #[.val (.ref a), .val (.ref t), .val (.ref n), .val (.int y), .unset] [])
  refine Go.by (fun _ gk => XS.aloadN X36.here hx rfl (hb hby d8_121) rfl rfl gk) ?_
  show Go _ _ _ _ T36 (mkF m 122 #[.val (.ref a), .val (.ref t), .val (.ref n), .val (.int y), .unset] [(.ref a)])
  refine Go.by (fun _ gk => XS.dup X36.here hx rfl (hb hby d8_122) rfl rfl gk) ?_
  show Go _ _ _ _ T36 (mkF m 123 #[.val (.ref a), .val (.ref t), .val (.ref n), .val (.int y), .unset] [(.ref a), (.ref a)])
  have F37 : Fld Z h36 a "com/example/sessionkeep/sessionkeep/codec/ObjectStreamShape$Puts" "size" "I" (.int (0 : Int32)) := F31.other W36 (Or.inl ne_a_ab)
  obtain ⟨T38, X38, e38, st38⟩ := getF X36 hx hZ hown (host := "") (Or.inl (hw _ (List.mem_of_getElem? (i := 75) rfl))) Via.refl e36 F37 (g := (mkF m 123 #[.val (.ref a), .val (.ref t), .val (.ref n), .val (.int y), .unset] [(.ref a), (.ref a)])) rfl rfl (hb hby d8_123)
  refine Go.by st38 ?_
  show Go _ _ _ _ T38 (mkF m 126 #[.val (.ref a), .val (.ref t), .val (.ref n), .val (.int y), .unset] [(.int (0 : Int32)), (.ref a)])
  refine Go.by (fun _ gk => XT.iconstV X38.here hx rfl (1 : Int32) (hb hby d8_126) (by decide) gk) ?_
  show Go _ _ _ _ T38 (mkF m 127 #[.val (.ref a), .val (.ref t), .val (.ref n), .val (.int y), .unset] [(.int (1 : Int32)), (.int (0 : Int32)), (.ref a)])
  refine Go.by (fun _ gk => XS.iadd X38.here hx rfl (hb hby d8_127) rfl gk) ?_
  show Go _ _ _ _ T38 (mkF m 128 #[.val (.ref a), .val (.ref t), .val (.ref n), .val (.int y), .unset] [(.int ((0 : Int32) + (1 : Int32))), (.ref a)])
  rw [(by decide : ((0 : Int32) + (1 : Int32)) = (1 : Int32))]
  show Go _ _ _ _ T38 (mkF m 128 #[.val (.ref a), .val (.ref t), .val (.ref n), .val (.int y), .unset] [(.int (1 : Int32)), (.ref a)])
  have F39 : Exa Z h7 a "com/example/sessionkeep/sessionkeep/codec/ObjectStreamShape$Puts" := E_a.wr W7
  have F40 : Exa Z h15 a "com/example/sessionkeep/sessionkeep/codec/ObjectStreamShape$Puts" := F39.wr W15
  have F41 : Exa Z h26 a "com/example/sessionkeep/sessionkeep/codec/ObjectStreamShape$Puts" := F40.wr W26
  have F42 : Exa Z h36 a "com/example/sessionkeep/sessionkeep/codec/ObjectStreamShape$Puts" := F41.wr W36
  obtain ⟨T43, h43, X43, e43, W43, st43⟩ := putF X38 hx hZ hown (host := "") (Or.inl (hw _ (List.mem_of_getElem? (i := 75) rfl))) Via.refl e38 F37 F42 (Or.inl (hw _ (List.mem_of_getElem? (i := 76) rfl))) (hw _ (List.mem_of_getElem? (i := 1) rfl)) (ty := .int) (by decide) rfl rfl (g := (mkF m 128 #[.val (.ref a), .val (.ref t), .val (.ref n), .val (.int y), .unset] [(.int (1 : Int32)), (.ref a)])) rfl rfl (hb hby d8_128)
  have N43 := Fr.snoc X43 N36 g_a
  have Fw43 : Fld Z h43 a "com/example/sessionkeep/sessionkeep/codec/ObjectStreamShape$Puts" "size" "I" (.int (1 : Int32)) := F37.same W43
  refine Go.by st43 ?_
  show Go _ _ _ _ T43 (mkF m 131 #[.val (.ref a), .val (.ref t), .val (.ref n), .val (.int y), .unset] [])
  have F44 : Keep h0 h7 [a, tb, kb, wb, ab] := (Keep.refl h0 [a, tb, kb, wb, ab]).wr W7 (Or.inl (List.mem_of_getElem? (i := 1) rfl))
  have F45 : Keep h0 h15 [a, tb, kb, wb, ab] := F44.wr W15 (Or.inl (List.mem_of_getElem? (i := 2) rfl))
  have F46 : Keep h0 h26 [a, tb, kb, wb, ab] := F45.wr W26 (Or.inl (List.mem_of_getElem? (i := 3) rfl))
  have F47 : Keep h0 h36 [a, tb, kb, wb, ab] := F46.wr W36 (Or.inl (List.mem_of_getElem? (i := 4) rfl))
  have F48 : Keep h0 h43 [a, tb, kb, wb, ab] := F47.wr W43 (Or.inl (List.mem_of_getElem? (i := 0) rfl))
  have F49 : Exa Z h43 a "com/example/sessionkeep/sessionkeep/codec/ObjectStreamShape$Puts" := F42.wr W43
  have F50 : Fld Z h7 a "com/example/sessionkeep/sessionkeep/codec/ObjectStreamShape$Puts" "tables" "[I" (.ref tb) := F_a_tables.other W7 (Or.inl ne_a_tb)
  have F51 : Fld Z h15 a "com/example/sessionkeep/sessionkeep/codec/ObjectStreamShape$Puts" "tables" "[I" (.ref tb) := F50.other W15 (Or.inl ne_a_kb)
  have F52 : Fld Z h26 a "com/example/sessionkeep/sessionkeep/codec/ObjectStreamShape$Puts" "tables" "[I" (.ref tb) := F51.other W26 (Or.inl ne_a_wb)
  have F53 : Fld Z h36 a "com/example/sessionkeep/sessionkeep/codec/ObjectStreamShape$Puts" "tables" "[I" (.ref tb) := F52.other W36 (Or.inl ne_a_ab)
  have F54 : Fld Z h43 a "com/example/sessionkeep/sessionkeep/codec/ObjectStreamShape$Puts" "tables" "[I" (.ref tb) := F53.other W43 (Or.inr (slot_ne (Or.inl (hw _ (List.mem_of_getElem? (i := 11) rfl))) (Or.inl (hw _ (List.mem_of_getElem? (i := 76) rfl))) (by decide) (t := (.array .int)) (t' := .int) (by decide) (by decide)))
  have F55 : Fld Z h15 a "com/example/sessionkeep/sessionkeep/codec/ObjectStreamShape$Puts" "keys" "[I" (.ref kb) := F8.other W15 (Or.inl ne_a_kb)
  have F56 : Fld Z h26 a "com/example/sessionkeep/sessionkeep/codec/ObjectStreamShape$Puts" "keys" "[I" (.ref kb) := F55.other W26 (Or.inl ne_a_wb)
  have F57 : Fld Z h36 a "com/example/sessionkeep/sessionkeep/codec/ObjectStreamShape$Puts" "keys" "[I" (.ref kb) := F56.other W36 (Or.inl ne_a_ab)
  have F58 : Fld Z h43 a "com/example/sessionkeep/sessionkeep/codec/ObjectStreamShape$Puts" "keys" "[I" (.ref kb) := F57.other W43 (Or.inr (slot_ne (Or.inl (hw _ (List.mem_of_getElem? (i := 13) rfl))) (Or.inl (hw _ (List.mem_of_getElem? (i := 76) rfl))) (by decide) (t := (.array .int)) (t' := .int) (by decide) (by decide)))
  have F59 : Fld Z h26 a "com/example/sessionkeep/sessionkeep/codec/ObjectStreamShape$Puts" "weights" "[J" (.ref wb) := F17.other W26 (Or.inl ne_a_wb)
  have F60 : Fld Z h36 a "com/example/sessionkeep/sessionkeep/codec/ObjectStreamShape$Puts" "weights" "[J" (.ref wb) := F59.other W36 (Or.inl ne_a_ab)
  have F61 : Fld Z h43 a "com/example/sessionkeep/sessionkeep/codec/ObjectStreamShape$Puts" "weights" "[J" (.ref wb) := F60.other W43 (Or.inr (slot_ne (Or.inl (hw _ (List.mem_of_getElem? (i := 16) rfl))) (Or.inl (hw _ (List.mem_of_getElem? (i := 76) rfl))) (by decide) (t := (.array .long)) (t' := .int) (by decide) (by decide)))
  have F62 : Fld Z h36 a "com/example/sessionkeep/sessionkeep/codec/ObjectStreamShape$Puts" "afters" "[I" (.ref ab) := F29.other W36 (Or.inl ne_a_ab)
  have F63 : Fld Z h43 a "com/example/sessionkeep/sessionkeep/codec/ObjectStreamShape$Puts" "afters" "[I" (.ref ab) := F62.other W43 (Or.inr (slot_ne (Or.inl (hw _ (List.mem_of_getElem? (i := 18) rfl))) (Or.inl (hw _ (List.mem_of_getElem? (i := 76) rfl))) (by decide) (t := (.array .int)) (t' := .int) (by decide) (by decide)))
  have F64 : Arv Z h15 tb kk1 .int (16 : Int32) [(.int x), (.int (0 : Int32)), (.int (0 : Int32)), (.int (0 : Int32)), (.int (0 : Int32)), (.int (0 : Int32)), (.int (0 : Int32)), (.int (0 : Int32)), (.int (0 : Int32)), (.int (0 : Int32)), (.int (0 : Int32)), (.int (0 : Int32)), (.int (0 : Int32)), (.int (0 : Int32)), (.int (0 : Int32)), (.int (0 : Int32))] (.int (0 : Int32)) := V7.other W15 ne_tb_kb
  have F65 : Arv Z h26 tb kk1 .int (16 : Int32) [(.int x), (.int (0 : Int32)), (.int (0 : Int32)), (.int (0 : Int32)), (.int (0 : Int32)), (.int (0 : Int32)), (.int (0 : Int32)), (.int (0 : Int32)), (.int (0 : Int32)), (.int (0 : Int32)), (.int (0 : Int32)), (.int (0 : Int32)), (.int (0 : Int32)), (.int (0 : Int32)), (.int (0 : Int32)), (.int (0 : Int32))] (.int (0 : Int32)) := F64.other W26 ne_tb_wb
  have F66 : Arv Z h36 tb kk1 .int (16 : Int32) [(.int x), (.int (0 : Int32)), (.int (0 : Int32)), (.int (0 : Int32)), (.int (0 : Int32)), (.int (0 : Int32)), (.int (0 : Int32)), (.int (0 : Int32)), (.int (0 : Int32)), (.int (0 : Int32)), (.int (0 : Int32)), (.int (0 : Int32)), (.int (0 : Int32)), (.int (0 : Int32)), (.int (0 : Int32)), (.int (0 : Int32))] (.int (0 : Int32)) := F65.other W36 ne_tb_ab
  have F67 : Arv Z h43 tb kk1 .int (16 : Int32) [(.int x), (.int (0 : Int32)), (.int (0 : Int32)), (.int (0 : Int32)), (.int (0 : Int32)), (.int (0 : Int32)), (.int (0 : Int32)), (.int (0 : Int32)), (.int (0 : Int32)), (.int (0 : Int32)), (.int (0 : Int32)), (.int (0 : Int32)), (.int (0 : Int32)), (.int (0 : Int32)), (.int (0 : Int32)), (.int (0 : Int32))] (.int (0 : Int32)) := F66.other W43 (Ne.symm ne_a_tb)
  have F68 : Arv Z h26 kb kk2 .int (16 : Int32) [(.int ov), (.int (0 : Int32)), (.int (0 : Int32)), (.int (0 : Int32)), (.int (0 : Int32)), (.int (0 : Int32)), (.int (0 : Int32)), (.int (0 : Int32)), (.int (0 : Int32)), (.int (0 : Int32)), (.int (0 : Int32)), (.int (0 : Int32)), (.int (0 : Int32)), (.int (0 : Int32)), (.int (0 : Int32)), (.int (0 : Int32))] (.int (0 : Int32)) := V15.other W26 ne_kb_wb
  have F69 : Arv Z h36 kb kk2 .int (16 : Int32) [(.int ov), (.int (0 : Int32)), (.int (0 : Int32)), (.int (0 : Int32)), (.int (0 : Int32)), (.int (0 : Int32)), (.int (0 : Int32)), (.int (0 : Int32)), (.int (0 : Int32)), (.int (0 : Int32)), (.int (0 : Int32)), (.int (0 : Int32)), (.int (0 : Int32)), (.int (0 : Int32)), (.int (0 : Int32)), (.int (0 : Int32))] (.int (0 : Int32)) := F68.other W36 ne_kb_ab
  have F70 : Arv Z h43 kb kk2 .int (16 : Int32) [(.int ov), (.int (0 : Int32)), (.int (0 : Int32)), (.int (0 : Int32)), (.int (0 : Int32)), (.int (0 : Int32)), (.int (0 : Int32)), (.int (0 : Int32)), (.int (0 : Int32)), (.int (0 : Int32)), (.int (0 : Int32)), (.int (0 : Int32)), (.int (0 : Int32)), (.int (0 : Int32)), (.int (0 : Int32)), (.int (0 : Int32))] (.int (0 : Int32)) := F69.other W43 (Ne.symm ne_a_kb)
  have F71 : Arv Z h36 wb kk3 .long (16 : Int32) [(.long wt), (.long (0 : Int64)), (.long (0 : Int64)), (.long (0 : Int64)), (.long (0 : Int64)), (.long (0 : Int64)), (.long (0 : Int64)), (.long (0 : Int64)), (.long (0 : Int64)), (.long (0 : Int64)), (.long (0 : Int64)), (.long (0 : Int64)), (.long (0 : Int64)), (.long (0 : Int64)), (.long (0 : Int64)), (.long (0 : Int64))] (.long (0 : Int64)) := V26.other W36 ne_wb_ab
  have F72 : Arv Z h43 wb kk3 .long (16 : Int32) [(.long wt), (.long (0 : Int64)), (.long (0 : Int64)), (.long (0 : Int64)), (.long (0 : Int64)), (.long (0 : Int64)), (.long (0 : Int64)), (.long (0 : Int64)), (.long (0 : Int64)), (.long (0 : Int64)), (.long (0 : Int64)), (.long (0 : Int64)), (.long (0 : Int64)), (.long (0 : Int64)), (.long (0 : Int64)), (.long (0 : Int64))] (.long (0 : Int64)) := F71.other W43 (Ne.symm ne_a_wb)
  have F73 : Arv Z h43 ab kk4 .int (16 : Int32) [(.int y), (.int (0 : Int32)), (.int (0 : Int32)), (.int (0 : Int32)), (.int (0 : Int32)), (.int (0 : Int32)), (.int (0 : Int32)), (.int (0 : Int32)), (.int (0 : Int32)), (.int (0 : Int32)), (.int (0 : Int32)), (.int (0 : Int32)), (.int (0 : Int32)), (.int (0 : Int32)), (.int (0 : Int32)), (.int (0 : Int32))] (.int (0 : Int32)) := V36.other W43 (Ne.symm ne_a_ab)
  exact Go.retV X43 hx Bd.notSynchronized Bd.returns (hb hby d8_131) (by rw [e43]; exact ⟨rfl, N43, F48, F49, F54, F58, F61, F63, Fw43, F67, F70, F72, F73⟩) (by decide) (by decide)
def Q_rmAdd1 (Z : State) (a : Addr) (t : Addr) (n : Addr) (y : Int32) (x : Int32) (ov : Int32) (wt : Int64) (tb : Addr) (kb : Addr) (wb : Addr) (ab : Addr) (kk1 : ClassId) (kk2 : ClassId) (kk3 : ClassId) (kk4 : ClassId) (el1 : Int32) (el2 : Int32) (el3 : Int64) (el4 : Int32) (h0 : Heap) (n0 : Nat) (v : Option Value) (h : Heap) (L : List Loc) : Prop := v = none ∧ Fr n0 L ∧ Keep h0 h [a, tb, kb, wb, ab] ∧ Exa Z h a "com/example/sessionkeep/sessionkeep/codec/ObjectStreamShape$Puts" ∧ Fld Z h a "com/example/sessionkeep/sessionkeep/codec/ObjectStreamShape$Puts" "tables" "[I" (.ref tb) ∧ Fld Z h a "com/example/sessionkeep/sessionkeep/codec/ObjectStreamShape$Puts" "keys" "[I" (.ref kb) ∧ Fld Z h a "com/example/sessionkeep/sessionkeep/codec/ObjectStreamShape$Puts" "weights" "[J" (.ref wb) ∧ Fld Z h a "com/example/sessionkeep/sessionkeep/codec/ObjectStreamShape$Puts" "afters" "[I" (.ref ab) ∧ Fld Z h a "com/example/sessionkeep/sessionkeep/codec/ObjectStreamShape$Puts" "size" "I" (.int (2 : Int32)) ∧ Arv Z h tb kk1 .int (16 : Int32) ([(.int el1), (.int x), (.int (0 : Int32)), (.int (0 : Int32)), (.int (0 : Int32)), (.int (0 : Int32)), (.int (0 : Int32)), (.int (0 : Int32)), (.int (0 : Int32)), (.int (0 : Int32)), (.int (0 : Int32)), (.int (0 : Int32)), (.int (0 : Int32)), (.int (0 : Int32)), (.int (0 : Int32)), (.int (0 : Int32))]) (.int (0 : Int32)) ∧ Arv Z h kb kk2 .int (16 : Int32) ([(.int el2), (.int ov), (.int (0 : Int32)), (.int (0 : Int32)), (.int (0 : Int32)), (.int (0 : Int32)), (.int (0 : Int32)), (.int (0 : Int32)), (.int (0 : Int32)), (.int (0 : Int32)), (.int (0 : Int32)), (.int (0 : Int32)), (.int (0 : Int32)), (.int (0 : Int32)), (.int (0 : Int32)), (.int (0 : Int32))]) (.int (0 : Int32)) ∧ Arv Z h wb kk3 .long (16 : Int32) ([(.long el3), (.long wt), (.long (0 : Int64)), (.long (0 : Int64)), (.long (0 : Int64)), (.long (0 : Int64)), (.long (0 : Int64)), (.long (0 : Int64)), (.long (0 : Int64)), (.long (0 : Int64)), (.long (0 : Int64)), (.long (0 : Int64)), (.long (0 : Int64)), (.long (0 : Int64)), (.long (0 : Int64)), (.long (0 : Int64))]) (.long (0 : Int64)) ∧ Arv Z h ab kk4 .int (16 : Int32) ([(.int el4), (.int y), (.int (0 : Int32)), (.int (0 : Int32)), (.int (0 : Int32)), (.int (0 : Int32)), (.int (0 : Int32)), (.int (0 : Int32)), (.int (0 : Int32)), (.int (0 : Int32)), (.int (0 : Int32)), (.int (0 : Int32)), (.int (0 : Int32)), (.int (0 : Int32)), (.int (0 : Int32)), (.int (0 : Int32))]) (.int (0 : Int32))
set_option maxRecDepth 65536 in
set_option maxHeartbeats 40000000 in
theorem rmAdd1 (l : Launch) (Z : State) (a0 : Array Value) (hw : ∀ d ∈ tables_1, d.before a0 Z = true) (ws : List Jvm.Cond) (a : Addr) (t : Addr) (n : Addr) (y : Int32) (x : Int32) (ov : Int32) (wt : Int64) (tb : Addr) (kb : Addr) (wb : Addr) (ab : Addr) (kk1 : ClassId) (kk2 : ClassId) (kk3 : ClassId) (kk4 : ClassId) (el1 : Int32) (el2 : Int32) (el3 : Int64) (el4 : Int32) (h0 : Heap) (n0 : Nat) (Z0 : n0 ≤ h0.size) (E_a : Exa Z h0 a "com/example/sessionkeep/sessionkeep/codec/ObjectStreamShape$Puts") (F_a_tables : Fld Z h0 a "com/example/sessionkeep/sessionkeep/codec/ObjectStreamShape$Puts" "tables" "[I" (.ref tb)) (F_a_keys : Fld Z h0 a "com/example/sessionkeep/sessionkeep/codec/ObjectStreamShape$Puts" "keys" "[I" (.ref kb)) (F_a_weights : Fld Z h0 a "com/example/sessionkeep/sessionkeep/codec/ObjectStreamShape$Puts" "weights" "[J" (.ref wb)) (F_a_afters : Fld Z h0 a "com/example/sessionkeep/sessionkeep/codec/ObjectStreamShape$Puts" "afters" "[I" (.ref ab)) (F_a_size : Fld Z h0 a "com/example/sessionkeep/sessionkeep/codec/ObjectStreamShape$Puts" "size" "I" (.int (1 : Int32))) (V_tb : Arv Z h0 tb kk1 .int (16 : Int32) ([(.int el1), (.int (0 : Int32)), (.int (0 : Int32)), (.int (0 : Int32)), (.int (0 : Int32)), (.int (0 : Int32)), (.int (0 : Int32)), (.int (0 : Int32)), (.int (0 : Int32)), (.int (0 : Int32)), (.int (0 : Int32)), (.int (0 : Int32)), (.int (0 : Int32)), (.int (0 : Int32)), (.int (0 : Int32)), (.int (0 : Int32))]) (.int (0 : Int32))) (V_kb : Arv Z h0 kb kk2 .int (16 : Int32) ([(.int el2), (.int (0 : Int32)), (.int (0 : Int32)), (.int (0 : Int32)), (.int (0 : Int32)), (.int (0 : Int32)), (.int (0 : Int32)), (.int (0 : Int32)), (.int (0 : Int32)), (.int (0 : Int32)), (.int (0 : Int32)), (.int (0 : Int32)), (.int (0 : Int32)), (.int (0 : Int32)), (.int (0 : Int32)), (.int (0 : Int32))]) (.int (0 : Int32))) (V_wb : Arv Z h0 wb kk3 .long (16 : Int32) ([(.long el3), (.long (0 : Int64)), (.long (0 : Int64)), (.long (0 : Int64)), (.long (0 : Int64)), (.long (0 : Int64)), (.long (0 : Int64)), (.long (0 : Int64)), (.long (0 : Int64)), (.long (0 : Int64)), (.long (0 : Int64)), (.long (0 : Int64)), (.long (0 : Int64)), (.long (0 : Int64)), (.long (0 : Int64)), (.long (0 : Int64))]) (.long (0 : Int64))) (V_ab : Arv Z h0 ab kk4 .int (16 : Int32) ([(.int el4), (.int (0 : Int32)), (.int (0 : Int32)), (.int (0 : Int32)), (.int (0 : Int32)), (.int (0 : Int32)), (.int (0 : Int32)), (.int (0 : Int32)), (.int (0 : Int32)), (.int (0 : Int32)), (.int (0 : Int32)), (.int (0 : Int32)), (.int (0 : Int32)), (.int (0 : Int32)), (.int (0 : Int32)), (.int (0 : Int32))]) (.int (0 : Int32))) (g_a : n0 ≤ a) (g_tb : n0 ≤ tb) (g_kb : n0 ≤ kb) (g_wb : n0 ≤ wb) (g_ab : n0 ≤ ab) (ne_a_tb : a ≠ tb) (ne_a_kb : a ≠ kb) (ne_a_wb : a ≠ wb) (ne_a_ab : a ≠ ab) (ne_tb_kb : tb ≠ kb) (ne_tb_wb : tb ≠ wb) (ne_tb_ab : tb ≠ ab) (ne_kb_wb : kb ≠ wb) (ne_kb_ab : kb ≠ ab) (ne_wb_ab : wb ≠ ab) (E_t : Exa Z h0 t "com/example/sessionkeep/sessionkeep/codec/ObjectStreamShape$Table") (F_t_index : Fld Z h0 t "com/example/sessionkeep/sessionkeep/codec/ObjectStreamShape$Table" "index" "I" (.int x)) (F_n_ordinal : Fld Z h0 n "com/example/sessionkeep/sessionkeep/codec/ObjectStreamShape$Node" "ordinal" "I" (.int ov)) (F_n_weight : Fld Z h0 n "com/example/sessionkeep/sessionkeep/codec/ObjectStreamShape$Node" "weight" "J" (.long wt)) (ne_t_tb : t ≠ tb) (ne_t_kb : t ≠ kb) (ne_t_wb : t ≠ wb) (ne_t_ab : t ≠ ab) (ne_n_tb : n ≠ tb) (ne_n_kb : n ≠ kb) (ne_n_wb : n ≠ wb) (ne_n_ab : n ≠ ab) :
    MetFree l (⟨"com/example/sessionkeep/sessionkeep/codec/ObjectStreamShape$Puts", "add", "(Lcom/example/sessionkeep/sessionkeep/codec/ObjectStreamShape$Table;Lcom/example/sessionkeep/sessionkeep/codec/ObjectStreamShape$Node;I)V"⟩ : MethodName) (head1 (Jvm.Cond.code (⟨"com/example/sessionkeep/sessionkeep/codec/ObjectStreamShape$Puts", "add", "(Lcom/example/sessionkeep/sessionkeep/codec/ObjectStreamShape$Table;Lcom/example/sessionkeep/sessionkeep/codec/ObjectStreamShape$Node;I)V"⟩ : MethodName) prog_13_method_2_code 5 none :: ws) ({ frames := 1, cells := 0, slots := 0, locals := 14 } : Room)) (fun as' U => as' = #[(.ref a), (.ref t), (.ref n), (.int y)] ∧ Z.Warmed39 U.vm ∧ U.heap = h0) (fun _ _ _ _ _ => True) (fun _ U o U' => ∃ v L, o = .returned v ∧ Q_rmAdd1 Z a t n y x ov wt tb kb wb ab kk1 kk2 kk3 kk4 el1 el2 el3 el4 h0 n0 v U'.heap L ∧ FrameEnd U o U' L ({ frames := 1, cells := 0, slots := 0, locals := 14 } : Room).cells ({ frames := 1, cells := 0, slots := 0, locals := 14 } : Room).slots) := by
  refine MetFree.of_bodySF (plainFor_of_name pn_4) hisR ?_
  intro p e s m args below meth c s₁ Bd hml0 hP hK
  obtain ⟨rfl, hZ, hh⟩ := hP
  have hx := Bd.exec
  have hby := Bd.bytes
  have hml : c.maxLocals = 5 := hml0
  have hown : s.vm.findClass "com/example/sessionkeep/sessionkeep/codec/ObjectStreamShape$Puts" = some m.cls := findClass_of_methodNamed Bd.named
  have hnm := (name_of_methodNamed Bd.named Bd.method).1
  have X0 : Stand p l e ({ frames := 1, cells := 0, slots := 0, locals := 14 } : Room) s m #[(.ref a), (.ref t), (.ref n), (.int y)] below meth c s₁ [] 0 0 := Stand.of_body Bd
  have e0 : s₁.heap = h0 := by rw [← hh, Bd.state]; rfl
  have N0 := Fr.nil n0
  refine Go.enter (F := EndN s (Q_rmAdd1 Z a t n y x ov wt tb kb wb ab kk1 kk2 kk3 kk4 el1 el2 el3 el4 h0 n0) ({ frames := 1, cells := 0, slots := 0, locals := 14 } : Room).cells ({ frames := 1, cells := 0, slots := 0, locals := 14 } : Room).slots) (ef_128 m a t n y) ?_
  show Go _ _ _ _ s₁ (mkF m 0 #[.val (.ref a), .val (.ref t), .val (.ref n), .val (.int y), .unset] [])
  refine Go.by (fun _ gk => XS.aloadN X0.here hx rfl (hb hby d8_0) rfl rfl gk) ?_
  show Go _ _ _ _ s₁ (mkF m 1 #[.val (.ref a), .val (.ref t), .val (.ref n), .val (.int y), .unset] [(.ref a)])
  obtain ⟨T1, X1, e1, st1⟩ := getF X0 hx hZ hown (host := "") (Or.inl (hw _ (List.mem_of_getElem? (i := 75) rfl))) Via.refl e0 F_a_size (g := (mkF m 1 #[.val (.ref a), .val (.ref t), .val (.ref n), .val (.int y), .unset] [(.ref a)])) rfl rfl (hb hby d8_1)
  refine Go.by st1 ?_
  show Go _ _ _ _ T1 (mkF m 4 #[.val (.ref a), .val (.ref t), .val (.ref n), .val (.int y), .unset] [(.int (1 : Int32))])
  refine Go.by (fun _ gk => XS.aloadN X1.here hx rfl (hb hby d8_4) rfl rfl gk) ?_
  show Go _ _ _ _ T1 (mkF m 5 #[.val (.ref a), .val (.ref t), .val (.ref n), .val (.int y), .unset] [(.ref a), (.int (1 : Int32))])
  obtain ⟨T2, X2, e2, st2⟩ := getF X1 hx hZ hown (host := "") (Or.inl (hw _ (List.mem_of_getElem? (i := 10) rfl))) Via.refl e1 F_a_tables (g := (mkF m 5 #[.val (.ref a), .val (.ref t), .val (.ref n), .val (.int y), .unset] [(.ref a), (.int (1 : Int32))])) rfl rfl (hb hby d8_5)
  refine Go.by st2 ?_
  show Go _ _ _ _ T2 (mkF m 8 #[.val (.ref a), .val (.ref t), .val (.ref n), .val (.int y), .unset] [(.ref tb), (.int (1 : Int32))])
  obtain ⟨cl3, Ar3, -, S3, M3, -, -⟩ := id V_tb
  refine Go.by (fun _ gk => X2.arraylength hx (by rw [e2]; exact Ar3.1) (State.isArrayOf_alike hZ.alike Ar3.2.1) (g := (mkF m 8 #[.val (.ref a), .val (.ref t), .val (.ref n), .val (.int y), .unset] [(.ref tb), (.int (1 : Int32))])) rfl rfl (hb hby d8_8) _ gk) ?_
  rw [len_of S3 M3]
  show Go _ _ _ _ T2 (mkF m 9 #[.val (.ref a), .val (.ref t), .val (.ref n), .val (.int y), .unset] [(.int (16 : Int32)), (.int (1 : Int32))])
  refine Go.by (fun _ gk => XS.icmpYes X2.here hx rfl (pc0 := 9) (pc' := 72) rfl (hb hby d8_9) rfl (XT.ii_ne_t (by decide)) (by decide) (by decide) gk) ?_
  show Go _ _ _ _ T2 (mkF m 72 #[.val (.ref a), .val (.ref t), .val (.ref n), .val (.int y), .unset] [])
  refine Go.by (fun _ gk => XS.aloadN X2.here hx rfl (hb hby d8_72) rfl rfl gk) ?_
  show Go _ _ _ _ T2 (mkF m 73 #[.val (.ref a), .val (.ref t), .val (.ref n), .val (.int y), .unset] [(.ref a)])
  obtain ⟨T4, X4, e4, st4⟩ := getF X2 hx hZ hown (host := "") (Or.inl (hw _ (List.mem_of_getElem? (i := 10) rfl))) Via.refl e2 F_a_tables (g := (mkF m 73 #[.val (.ref a), .val (.ref t), .val (.ref n), .val (.int y), .unset] [(.ref a)])) rfl rfl (hb hby d8_73)
  refine Go.by st4 ?_
  show Go _ _ _ _ T4 (mkF m 76 #[.val (.ref a), .val (.ref t), .val (.ref n), .val (.int y), .unset] [(.ref tb)])
  refine Go.by (fun _ gk => XS.aloadN X4.here hx rfl (hb hby d8_76) rfl rfl gk) ?_
  show Go _ _ _ _ T4 (mkF m 77 #[.val (.ref a), .val (.ref t), .val (.ref n), .val (.int y), .unset] [(.ref a), (.ref tb)])
  obtain ⟨T5, X5, e5, st5⟩ := getF X4 hx hZ hown (host := "") (Or.inl (hw _ (List.mem_of_getElem? (i := 75) rfl))) Via.refl e4 F_a_size (g := (mkF m 77 #[.val (.ref a), .val (.ref t), .val (.ref n), .val (.int y), .unset] [(.ref a), (.ref tb)])) rfl rfl (hb hby d8_77)
  refine Go.by st5 ?_
  show Go _ _ _ _ T5 (mkF m 80 #[.val (.ref a), .val (.ref t), .val (.ref n), .val (.int y), .unset] [(.int (1 : Int32)), (.ref tb)])
  refine Go.by (fun _ gk => XS.aloadN X5.here hx rfl (hb hby d8_80) rfl rfl gk) ?_
  show Go _ _ _ _ T5 (mkF m 81 #[.val (.ref a), .val (.ref t), .val (.ref n), .val (.int y), .unset] [(.ref t), (.int (1 : Int32)), (.ref tb)])
  obtain ⟨cq6, kq6, q6a, q6b, q6c⟩ := isOf hZ e5 E_t
  obtain ⟨_, _, ⟨T6, L6, k6, n6⟩, -, X6, ⟨Lc6, hQ6, l6, y6, z6⟩, st6⟩ := X5.virtualBack hx (y := (⟨"com/example/sessionkeep/sessionkeep/codec/ObjectStreamShape$Table", "index", "()I"⟩ : MethodName)) (z := (⟨"com/example/sessionkeep/sessionkeep/codec/ObjectStreamShape$Table", "index", "()I"⟩ : MethodName)) hown (mvT hZ (hw _ (List.mem_of_getElem? (i := 82) rfl))) (mvT hZ (hw _ (List.mem_of_getElem? (i := 83) rfl))) (notFace_of_selects (args := #[]) (mvT hZ (hw _ (List.mem_of_getElem? (i := 85) rfl)))) (mvT hZ (hw _ (List.mem_of_getElem? (i := 85) rfl))) (mvT hZ (hw _ (List.mem_of_getElem? (i := 84) rfl))) (by decide) (backOf (W := 2) (rmIndex l Z a0 hw [] t x h0 n0 Z0 F_t_index) hZ (hw _ (List.mem_of_getElem? (i := 86) rfl)) (hw _ (List.mem_of_getElem? (i := 21) rfl)) (by decide) (by decide)) q6a q6c (g := (mkF m 81 #[.val (.ref a), .val (.ref t), .val (.ref n), .val (.int y), .unset] [(.ref t), (.int (1 : Int32)), (.ref tb)])) rfl (by rw [hml]; rfl) (Steps.refl _) (argsL := []) (rest := [(.int (1 : Int32)), (.ref tb)]) (lenOf pd_140 rfl) rfl (by show 2 * 0 + _ ≤ _; exact Nat.le_of_eq rfl) (hb hby d8_81) (fun _ _ => ⟨rfl, e5, (by decide : 0 + 0 ≤ _), (by decide : 0 + 0 ≤ _)⟩)
  dsimp only [Pt.U, Pt.locs, Pt.cells, Pt.slots] at X6 l6 y6 z6 st6 hQ6
  subst l6 y6 z6
  obtain ⟨rfl, N6q, e6⟩ := hQ6
  have N6 := Fr.app N0 N6q
  refine Go.to st6 ?_
  show Go _ _ _ _ T6 (mkF m 84 #[.val (.ref a), .val (.ref t), .val (.ref n), .val (.int y), .unset] [(.int x), (.int (1 : Int32)), (.ref tb)])
  obtain ⟨cl7, Ar7, q7, S7, M7, H7, G7⟩ := id V_tb
  have hin7 : ¬ ((1 : Int32) < 0 ∨ cl7.slots.size ≤ (1 : Int32).toNatClampNeg) := inb_of S7 ⟨by decide, by decide⟩
  obtain ⟨T7, h7, X7, e7, W7, st7⟩ := stI X6 hx hZ e6 Ar7 (j := (1 : Int32)) hin7 (g := (mkF m 84 #[.val (.ref a), .val (.ref t), .val (.ref n), .val (.int y), .unset] [(.int x), (.int (1 : Int32)), (.ref tb)])) rfl rfl (hb hby d8_84)
  have N7 := Fr.snoc X7 N6 g_tb
  have V7 : Arv Z h7 tb kk1 .int (16 : Int32) [(.int el1), (.int x), (.int (0 : Int32)), (.int (0 : Int32)), (.int (0 : Int32)), (.int (0 : Int32)), (.int (0 : Int32)), (.int (0 : Int32)), (.int (0 : Int32)), (.int (0 : Int32)), (.int (0 : Int32)), (.int (0 : Int32)), (.int (0 : Int32)), (.int (0 : Int32)), (.int (0 : Int32)), (.int (0 : Int32))] (.int (0 : Int32)) := Arv.set Ar7 q7 S7 M7 H7 G7 rfl W7 1 rfl (Nat.le_of_ble_eq_true rfl)
  refine Go.by st7 ?_
  show Go _ _ _ _ T7 (mkF m 85 #[.val (.ref a), .val (.ref t), .val (.ref n), .val (.int y), .unset] [])
  refine Go.by (fun _ gk => XS.aloadN X7.here hx rfl (hb hby d8_85) rfl rfl gk) ?_
  show Go _ _ _ _ T7 (mkF m 86 #[.val (.ref a), .val (.ref t), .val (.ref n), .val (.int y), .unset] [(.ref a)])
  have F8 : Fld Z h7 a "com/example/sessionkeep/sessionkeep/codec/ObjectStreamShape$Puts" "keys" "[I" (.ref kb) := F_a_keys.other W7 (Or.inl ne_a_tb)
  obtain ⟨T9, X9, e9, st9⟩ := getF X7 hx hZ hown (host := "") (Or.inl (hw _ (List.mem_of_getElem? (i := 12) rfl))) Via.refl e7 F8 (g := (mkF m 86 #[.val (.ref a), .val (.ref t), .val (.ref n), .val (.int y), .unset] [(.ref a)])) rfl rfl (hb hby d8_86)
  refine Go.by st9 ?_
  show Go _ _ _ _ T9 (mkF m 89 #[.val (.ref a), .val (.ref t), .val (.ref n), .val (.int y), .unset] [(.ref kb)])
  refine Go.by (fun _ gk => XS.aloadN X9.here hx rfl (hb hby d8_89) rfl rfl gk) ?_
  show Go _ _ _ _ T9 (mkF m 90 #[.val (.ref a), .val (.ref t), .val (.ref n), .val (.int y), .unset] [(.ref a), (.ref kb)])
  have F10 : Fld Z h7 a "com/example/sessionkeep/sessionkeep/codec/ObjectStreamShape$Puts" "size" "I" (.int (1 : Int32)) := F_a_size.other W7 (Or.inl ne_a_tb)
  obtain ⟨T11, X11, e11, st11⟩ := getF X9 hx hZ hown (host := "") (Or.inl (hw _ (List.mem_of_getElem? (i := 75) rfl))) Via.refl e9 F10 (g := (mkF m 90 #[.val (.ref a), .val (.ref t), .val (.ref n), .val (.int y), .unset] [(.ref a), (.ref kb)])) rfl rfl (hb hby d8_90)
  refine Go.by st11 ?_
  show Go _ _ _ _ T11 (mkF m 93 #[.val (.ref a), .val (.ref t), .val (.ref n), .val (.int y), .unset] [(.int (1 : Int32)), (.ref kb)])
  refine Go.by (fun _ gk => XS.aloadN X11.here hx rfl (hb hby d8_93) rfl rfl gk) ?_
  show Go _ _ _ _ T11 (mkF m 94 #[.val (.ref a), .val (.ref t), .val (.ref n), .val (.int y), .unset] [(.ref n), (.int (1 : Int32)), (.ref kb)])
  have F12 : Fld Z h7 n "com/example/sessionkeep/sessionkeep/codec/ObjectStreamShape$Node" "ordinal" "I" (.int ov) := F_n_ordinal.other W7 (Or.inl ne_n_tb)
  obtain ⟨T13, X13, e13, st13⟩ := getF X11 hx hZ hown (Or.inr (hw _ (List.mem_of_getElem? (i := 87) rfl))) Via.refl e11 F12 (g := (mkF m 94 #[.val (.ref a), .val (.ref t), .val (.ref n), .val (.int y), .unset] [(.ref n), (.int (1 : Int32)), (.ref kb)])) rfl rfl (hb hby d8_94)
  refine Go.by st13 ?_
  show Go _ _ _ _ T13 (mkF m 97 #[.val (.ref a), .val (.ref t), .val (.ref n), .val (.int y), .unset] [(.int ov), (.int (1 : Int32)), (.ref kb)])
  have F14 : Arv Z h7 kb kk2 .int (16 : Int32) [(.int el2), (.int (0 : Int32)), (.int (0 : Int32)), (.int (0 : Int32)), (.int (0 : Int32)), (.int (0 : Int32)), (.int (0 : Int32)), (.int (0 : Int32)), (.int (0 : Int32)), (.int (0 : Int32)), (.int (0 : Int32)), (.int (0 : Int32)), (.int (0 : Int32)), (.int (0 : Int32)), (.int (0 : Int32)), (.int (0 : Int32))] (.int (0 : Int32)) := V_kb.other W7 (Ne.symm ne_tb_kb)
  obtain ⟨cl15, Ar15, q15, S15, M15, H15, G15⟩ := id F14
  have hin15 : ¬ ((1 : Int32) < 0 ∨ cl15.slots.size ≤ (1 : Int32).toNatClampNeg) := inb_of S15 ⟨by decide, by decide⟩
  obtain ⟨T15, h15, X15, e15, W15, st15⟩ := stI X13 hx hZ e13 Ar15 (j := (1 : Int32)) hin15 (g := (mkF m 97 #[.val (.ref a), .val (.ref t), .val (.ref n), .val (.int y), .unset] [(.int ov), (.int (1 : Int32)), (.ref kb)])) rfl rfl (hb hby d8_97)
  have N15 := Fr.snoc X15 N7 g_kb
  have V15 : Arv Z h15 kb kk2 .int (16 : Int32) [(.int el2), (.int ov), (.int (0 : Int32)), (.int (0 : Int32)), (.int (0 : Int32)), (.int (0 : Int32)), (.int (0 : Int32)), (.int (0 : Int32)), (.int (0 : Int32)), (.int (0 : Int32)), (.int (0 : Int32)), (.int (0 : Int32)), (.int (0 : Int32)), (.int (0 : Int32)), (.int (0 : Int32)), (.int (0 : Int32))] (.int (0 : Int32)) := Arv.set Ar15 q15 S15 M15 H15 G15 rfl W15 1 rfl (Nat.le_of_ble_eq_true rfl)
  refine Go.by st15 ?_
  show Go _ _ _ _ T15 (mkF m 98 #[.val (.ref a), .val (.ref t), .val (.ref n), .val (.int y), .unset] [])
  refine Go.by (fun _ gk => XS.aloadN X15.here hx rfl (hb hby d8_98) rfl rfl gk) ?_
  show Go _ _ _ _ T15 (mkF m 99 #[.val (.ref a), .val (.ref t), .val (.ref n), .val (.int y), .unset] [(.ref a)])
  have F16 : Fld Z h7 a "com/example/sessionkeep/sessionkeep/codec/ObjectStreamShape$Puts" "weights" "[J" (.ref wb) := F_a_weights.other W7 (Or.inl ne_a_tb)
  have F17 : Fld Z h15 a "com/example/sessionkeep/sessionkeep/codec/ObjectStreamShape$Puts" "weights" "[J" (.ref wb) := F16.other W15 (Or.inl ne_a_kb)
  obtain ⟨T18, X18, e18, st18⟩ := getF X15 hx hZ hown (host := "") (Or.inl (hw _ (List.mem_of_getElem? (i := 15) rfl))) Via.refl e15 F17 (g := (mkF m 99 #[.val (.ref a), .val (.ref t), .val (.ref n), .val (.int y), .unset] [(.ref a)])) rfl rfl (hb hby d8_99)
  refine Go.by st18 ?_
  show Go _ _ _ _ T18 (mkF m 102 #[.val (.ref a), .val (.ref t), .val (.ref n), .val (.int y), .unset] [(.ref wb)])
  refine Go.by (fun _ gk => XS.aloadN X18.here hx rfl (hb hby d8_102) rfl rfl gk) ?_
  show Go _ _ _ _ T18 (mkF m 103 #[.val (.ref a), .val (.ref t), .val (.ref n), .val (.int y), .unset] [(.ref a), (.ref wb)])
  have F19 : Fld Z h15 a "com/example/sessionkeep/sessionkeep/codec/ObjectStreamShape$Puts" "size" "I" (.int (1 : Int32)) := F10.other W15 (Or.inl ne_a_kb)
  obtain ⟨T20, X20, e20, st20⟩ := getF X18 hx hZ hown (host := "") (Or.inl (hw _ (List.mem_of_getElem? (i := 75) rfl))) Via.refl e18 F19 (g := (mkF m 103 #[.val (.ref a), .val (.ref t), .val (.ref n), .val (.int y), .unset] [(.ref a), (.ref wb)])) rfl rfl (hb hby d8_103)
  refine Go.by st20 ?_
  show Go _ _ _ _ T20 (mkF m 106 #[.val (.ref a), .val (.ref t), .val (.ref n), .val (.int y), .unset] [(.int (1 : Int32)), (.ref wb)])
  refine Go.by (fun _ gk => XS.aloadN X20.here hx rfl (hb hby d8_106) rfl rfl gk) ?_
  show Go _ _ _ _ T20 (mkF m 107 #[.val (.ref a), .val (.ref t), .val (.ref n), .val (.int y), .unset] [(.ref n), (.int (1 : Int32)), (.ref wb)])
  have F21 : Fld Z h7 n "com/example/sessionkeep/sessionkeep/codec/ObjectStreamShape$Node" "weight" "J" (.long wt) := F_n_weight.other W7 (Or.inl ne_n_tb)
  have F22 : Fld Z h15 n "com/example/sessionkeep/sessionkeep/codec/ObjectStreamShape$Node" "weight" "J" (.long wt) := F21.other W15 (Or.inl ne_n_kb)
  obtain ⟨T23, X23, e23, st23⟩ := getF X20 hx hZ hown (Or.inr (hw _ (List.mem_of_getElem? (i := 88) rfl))) Via.refl e20 F22 (g := (mkF m 107 #[.val (.ref a), .val (.ref t), .val (.ref n), .val (.int y), .unset] [(.ref n), (.int (1 : Int32)), (.ref wb)])) rfl rfl (hb hby d8_107)
  refine Go.by st23 ?_
  show Go _ _ _ _ T23 (mkF m 110 #[.val (.ref a), .val (.ref t), .val (.ref n), .val (.int y), .unset] [(.long wt), (.int (1 : Int32)), (.ref wb)])
  have F24 : Arv Z h7 wb kk3 .long (16 : Int32) [(.long el3), (.long (0 : Int64)), (.long (0 : Int64)), (.long (0 : Int64)), (.long (0 : Int64)), (.long (0 : Int64)), (.long (0 : Int64)), (.long (0 : Int64)), (.long (0 : Int64)), (.long (0 : Int64)), (.long (0 : Int64)), (.long (0 : Int64)), (.long (0 : Int64)), (.long (0 : Int64)), (.long (0 : Int64)), (.long (0 : Int64))] (.long (0 : Int64)) := V_wb.other W7 (Ne.symm ne_tb_wb)
  have F25 : Arv Z h15 wb kk3 .long (16 : Int32) [(.long el3), (.long (0 : Int64)), (.long (0 : Int64)), (.long (0 : Int64)), (.long (0 : Int64)), (.long (0 : Int64)), (.long (0 : Int64)), (.long (0 : Int64)), (.long (0 : Int64)), (.long (0 : Int64)), (.long (0 : Int64)), (.long (0 : Int64)), (.long (0 : Int64)), (.long (0 : Int64)), (.long (0 : Int64)), (.long (0 : Int64))] (.long (0 : Int64)) := F24.other W15 (Ne.symm ne_kb_wb)
  obtain ⟨cl26, Ar26, q26, S26, M26, H26, G26⟩ := id F25
  have hin26 : ¬ ((1 : Int32) < 0 ∨ cl26.slots.size ≤ (1 : Int32).toNatClampNeg) := inb_of S26 ⟨by decide, by decide⟩
  obtain ⟨T26, h26, X26, e26, W26, st26⟩ := stJ X23 hx hZ e23 Ar26 (j := (1 : Int32)) hin26 (g := (mkF m 110 #[.val (.ref a), .val (.ref t), .val (.ref n), .val (.int y), .unset] [(.long wt), (.int (1 : Int32)), (.ref wb)])) rfl rfl (hb hby d8_110)
  have N26 := Fr.snoc X26 N15 g_wb
  have V26 : Arv Z h26 wb kk3 .long (16 : Int32) [(.long el3), (.long wt), (.long (0 : Int64)), (.long (0 : Int64)), (.long (0 : Int64)), (.long (0 : Int64)), (.long (0 : Int64)), (.long (0 : Int64)), (.long (0 : Int64)), (.long (0 : Int64)), (.long (0 : Int64)), (.long (0 : Int64)), (.long (0 : Int64)), (.long (0 : Int64)), (.long (0 : Int64)), (.long (0 : Int64))] (.long (0 : Int64)) := Arv.set Ar26 q26 S26 M26 H26 G26 rfl W26 1 rfl (Nat.le_of_ble_eq_true rfl)
  refine Go.by st26 ?_
  show Go _ _ _ _ T26 (mkF m 111 #[.val (.ref a), .val (.ref t), .val (.ref n), .val (.int y), .unset] [])
  refine Go.by (fun _ gk => XS.aloadN X26.here hx rfl (hb hby d8_111) rfl rfl gk) ?_
  show Go _ _ _ _ T26 (mkF m 112 #[.val (.ref a), .val (.ref t), .val (.ref n), .val (.int y), .unset] [(.ref a)])
  have F27 : Fld Z h7 a "com/example/sessionkeep/sessionkeep/codec/ObjectStreamShape$Puts" "afters" "[I" (.ref ab) := F_a_afters.other W7 (Or.inl ne_a_tb)
  have F28 : Fld Z h15 a "com/example/sessionkeep/sessionkeep/codec/ObjectStreamShape$Puts" "afters" "[I" (.ref ab) := F27.other W15 (Or.inl ne_a_kb)
  have F29 : Fld Z h26 a "com/example/sessionkeep/sessionkeep/codec/ObjectStreamShape$Puts" "afters" "[I" (.ref ab) := F28.other W26 (Or.inl ne_a_wb)
  obtain ⟨T30, X30, e30, st30⟩ := getF X26 hx hZ hown (host := "") (Or.inl (hw _ (List.mem_of_getElem? (i := 17) rfl))) Via.refl e26 F29 (g := (mkF m 112 #[.val (.ref a), .val (.ref t), .val (.ref n), .val (.int y), .unset] [(.ref a)])) rfl rfl (hb hby d8_112)
  refine Go.by st30 ?_
  show Go _ _ _ _ T30 (mkF m 115 #[.val (.ref a), .val (.ref t), .val (.ref n), .val (.int y), .unset] [(.ref ab)])
  refine Go.by (fun _ gk => XS.aloadN X30.here hx rfl (hb hby d8_115) rfl rfl gk) ?_
  show Go _ _ _ _ T30 (mkF m 116 #[.val (.ref a), .val (.ref t), .val (.ref n), .val (.int y), .unset] [(.ref a), (.ref ab)])
  have F31 : Fld Z h26 a "com/example/sessionkeep/sessionkeep/codec/ObjectStreamShape$Puts" "size" "I" (.int (1 : Int32)) := F19.other W26 (Or.inl ne_a_wb)
  obtain ⟨T32, X32, e32, st32⟩ := getF X30 hx hZ hown (host := "") (Or.inl (hw _ (List.mem_of_getElem? (i := 75) rfl))) Via.refl e30 F31 (g := (mkF m 116 #[.val (.ref a), .val (.ref t), .val (.ref n), .val (.int y), .unset] [(.ref a), (.ref ab)])) rfl rfl (hb hby d8_116)
  refine Go.by st32 ?_
  show Go _ _ _ _ T32 (mkF m 119 #[.val (.ref a), .val (.ref t), .val (.ref n), .val (.int y), .unset] [(.int (1 : Int32)), (.ref ab)])
  refine Go.by (fun _ gk => XS.iloadN X32.here hx rfl (hb hby d8_119) rfl gk) ?_
  show Go _ _ _ _ T32 (mkF m 120 #[.val (.ref a), .val (.ref t), .val (.ref n), .val (.int y), .unset] [(.int y), (.int (1 : Int32)), (.ref ab)])
  have F33 : Arv Z h7 ab kk4 .int (16 : Int32) [(.int el4), (.int (0 : Int32)), (.int (0 : Int32)), (.int (0 : Int32)), (.int (0 : Int32)), (.int (0 : Int32)), (.int (0 : Int32)), (.int (0 : Int32)), (.int (0 : Int32)), (.int (0 : Int32)), (.int (0 : Int32)), (.int (0 : Int32)), (.int (0 : Int32)), (.int (0 : Int32)), (.int (0 : Int32)), (.int (0 : Int32))] (.int (0 : Int32)) := V_ab.other W7 (Ne.symm ne_tb_ab)
  have F34 : Arv Z h15 ab kk4 .int (16 : Int32) [(.int el4), (.int (0 : Int32)), (.int (0 : Int32)), (.int (0 : Int32)), (.int (0 : Int32)), (.int (0 : Int32)), (.int (0 : Int32)), (.int (0 : Int32)), (.int (0 : Int32)), (.int (0 : Int32)), (.int (0 : Int32)), (.int (0 : Int32)), (.int (0 : Int32)), (.int (0 : Int32)), (.int (0 : Int32)), (.int (0 : Int32))] (.int (0 : Int32)) := F33.other W15 (Ne.symm ne_kb_ab)
  have F35 : Arv Z h26 ab kk4 .int (16 : Int32) [(.int el4), (.int (0 : Int32)), (.int (0 : Int32)), (.int (0 : Int32)), (.int (0 : Int32)), (.int (0 : Int32)), (.int (0 : Int32)), (.int (0 : Int32)), (.int (0 : Int32)), (.int (0 : Int32)), (.int (0 : Int32)), (.int (0 : Int32)), (.int (0 : Int32)), (.int (0 : Int32)), (.int (0 : Int32)), (.int (0 : Int32))] (.int (0 : Int32)) := F34.other W26 (Ne.symm ne_wb_ab)
  obtain ⟨cl36, Ar36, q36, S36, M36, H36, G36⟩ := id F35
  have hin36 : ¬ ((1 : Int32) < 0 ∨ cl36.slots.size ≤ (1 : Int32).toNatClampNeg) := inb_of S36 ⟨by decide, by decide⟩
  obtain ⟨T36, h36, X36, e36, W36, st36⟩ := stI X32 hx hZ e32 Ar36 (j := (1 : Int32)) hin36 (g := (mkF m 120 #[.val (.ref a), .val (.ref t), .val (.ref n), .val (.int y), .unset] [(.int y), (.int (1 : Int32)), (.ref ab)])) rfl rfl (hb hby d8_120)
  have N36 := Fr.snoc X36 N26 g_ab
  have V36 : Arv Z h36 ab kk4 .int (16 : Int32) [(.int el4), (.int y), (.int (0 : Int32)), (.int (0 : Int32)), (.int (0 : Int32)), (.int (0 : Int32)), (.int (0 : Int32)), (.int (0 : Int32)), (.int (0 : Int32)), (.int (0 : Int32)), (.int (0 : Int32)), (.int (0 : Int32)), (.int (0 : Int32)), (.int (0 : Int32)), (.int (0 : Int32)), (.int (0 : Int32))] (.int (0 : Int32)) := Arv.set Ar36 q36 S36 M36 H36 G36 rfl W36 1 rfl (Nat.le_of_ble_eq_true rfl)
  refine Go.by st36 ?_
  show Go _ _ _ _ T36 (mkF m 121 #[.val (.ref a), .val (.ref t), .val (.ref n), .val (.int y), .unset] [])
  refine Go.by (fun _ gk => XS.aloadN X36.here hx rfl (hb hby d8_121) rfl rfl gk) ?_
  show Go _ _ _ _ T36 (mkF m 122 #[.val (.ref a), .val (.ref t), .val (.ref n), .val (.int y), .unset] [(.ref a)])
  refine Go.by (fun _ gk => XS.dup X36.here hx rfl (hb hby d8_122) rfl rfl gk) ?_
  show Go _ _ _ _ T36 (mkF m 123 #[.val (.ref a), .val (.ref t), .val (.ref n), .val (.int y), .unset] [(.ref a), (.ref a)])
  have F37 : Fld Z h36 a "com/example/sessionkeep/sessionkeep/codec/ObjectStreamShape$Puts" "size" "I" (.int (1 : Int32)) := F31.other W36 (Or.inl ne_a_ab)
  obtain ⟨T38, X38, e38, st38⟩ := getF X36 hx hZ hown (host := "") (Or.inl (hw _ (List.mem_of_getElem? (i := 75) rfl))) Via.refl e36 F37 (g := (mkF m 123 #[.val (.ref a), .val (.ref t), .val (.ref n), .val (.int y), .unset] [(.ref a), (.ref a)])) rfl rfl (hb hby d8_123)
  refine Go.by st38 ?_
  show Go _ _ _ _ T38 (mkF m 126 #[.val (.ref a), .val (.ref t), .val (.ref n), .val (.int y), .unset] [(.int (1 : Int32)), (.ref a)])
  refine Go.by (fun _ gk => XT.iconstV X38.here hx rfl (1 : Int32) (hb hby d8_126) (by decide) gk) ?_
  show Go _ _ _ _ T38 (mkF m 127 #[.val (.ref a), .val (.ref t), .val (.ref n), .val (.int y), .unset] [(.int (1 : Int32)), (.int (1 : Int32)), (.ref a)])
  refine Go.by (fun _ gk => XS.iadd X38.here hx rfl (hb hby d8_127) rfl gk) ?_
  show Go _ _ _ _ T38 (mkF m 128 #[.val (.ref a), .val (.ref t), .val (.ref n), .val (.int y), .unset] [(.int ((1 : Int32) + (1 : Int32))), (.ref a)])
  rw [(by decide : ((1 : Int32) + (1 : Int32)) = (2 : Int32))]
  show Go _ _ _ _ T38 (mkF m 128 #[.val (.ref a), .val (.ref t), .val (.ref n), .val (.int y), .unset] [(.int (2 : Int32)), (.ref a)])
  have F39 : Exa Z h7 a "com/example/sessionkeep/sessionkeep/codec/ObjectStreamShape$Puts" := E_a.wr W7
  have F40 : Exa Z h15 a "com/example/sessionkeep/sessionkeep/codec/ObjectStreamShape$Puts" := F39.wr W15
  have F41 : Exa Z h26 a "com/example/sessionkeep/sessionkeep/codec/ObjectStreamShape$Puts" := F40.wr W26
  have F42 : Exa Z h36 a "com/example/sessionkeep/sessionkeep/codec/ObjectStreamShape$Puts" := F41.wr W36
  obtain ⟨T43, h43, X43, e43, W43, st43⟩ := putF X38 hx hZ hown (host := "") (Or.inl (hw _ (List.mem_of_getElem? (i := 75) rfl))) Via.refl e38 F37 F42 (Or.inl (hw _ (List.mem_of_getElem? (i := 76) rfl))) (hw _ (List.mem_of_getElem? (i := 1) rfl)) (ty := .int) (by decide) rfl rfl (g := (mkF m 128 #[.val (.ref a), .val (.ref t), .val (.ref n), .val (.int y), .unset] [(.int (2 : Int32)), (.ref a)])) rfl rfl (hb hby d8_128)
  have N43 := Fr.snoc X43 N36 g_a
  have Fw43 : Fld Z h43 a "com/example/sessionkeep/sessionkeep/codec/ObjectStreamShape$Puts" "size" "I" (.int (2 : Int32)) := F37.same W43
  refine Go.by st43 ?_
  show Go _ _ _ _ T43 (mkF m 131 #[.val (.ref a), .val (.ref t), .val (.ref n), .val (.int y), .unset] [])
  have F44 : Keep h0 h7 [a, tb, kb, wb, ab] := (Keep.refl h0 [a, tb, kb, wb, ab]).wr W7 (Or.inl (List.mem_of_getElem? (i := 1) rfl))
  have F45 : Keep h0 h15 [a, tb, kb, wb, ab] := F44.wr W15 (Or.inl (List.mem_of_getElem? (i := 2) rfl))
  have F46 : Keep h0 h26 [a, tb, kb, wb, ab] := F45.wr W26 (Or.inl (List.mem_of_getElem? (i := 3) rfl))
  have F47 : Keep h0 h36 [a, tb, kb, wb, ab] := F46.wr W36 (Or.inl (List.mem_of_getElem? (i := 4) rfl))
  have F48 : Keep h0 h43 [a, tb, kb, wb, ab] := F47.wr W43 (Or.inl (List.mem_of_getElem? (i := 0) rfl))
  have F49 : Exa Z h43 a "com/example/sessionkeep/sessionkeep/codec/ObjectStreamShape$Puts" := F42.wr W43
  have F50 : Fld Z h7 a "com/example/sessionkeep/sessionkeep/codec/ObjectStreamShape$Puts" "tables" "[I" (.ref tb) := F_a_tables.other W7 (Or.inl ne_a_tb)
  have F51 : Fld Z h15 a "com/example/sessionkeep/sessionkeep/codec/ObjectStreamShape$Puts" "tables" "[I" (.ref tb) := F50.other W15 (Or.inl ne_a_kb)
  have F52 : Fld Z h26 a "com/example/sessionkeep/sessionkeep/codec/ObjectStreamShape$Puts" "tables" "[I" (.ref tb) := F51.other W26 (Or.inl ne_a_wb)
  have F53 : Fld Z h36 a "com/example/sessionkeep/sessionkeep/codec/ObjectStreamShape$Puts" "tables" "[I" (.ref tb) := F52.other W36 (Or.inl ne_a_ab)
  have F54 : Fld Z h43 a "com/example/sessionkeep/sessionkeep/codec/ObjectStreamShape$Puts" "tables" "[I" (.ref tb) := F53.other W43 (Or.inr (slot_ne (Or.inl (hw _ (List.mem_of_getElem? (i := 11) rfl))) (Or.inl (hw _ (List.mem_of_getElem? (i := 76) rfl))) (by decide) (t := (.array .int)) (t' := .int) (by decide) (by decide)))
  have F55 : Fld Z h15 a "com/example/sessionkeep/sessionkeep/codec/ObjectStreamShape$Puts" "keys" "[I" (.ref kb) := F8.other W15 (Or.inl ne_a_kb)
  have F56 : Fld Z h26 a "com/example/sessionkeep/sessionkeep/codec/ObjectStreamShape$Puts" "keys" "[I" (.ref kb) := F55.other W26 (Or.inl ne_a_wb)
  have F57 : Fld Z h36 a "com/example/sessionkeep/sessionkeep/codec/ObjectStreamShape$Puts" "keys" "[I" (.ref kb) := F56.other W36 (Or.inl ne_a_ab)
  have F58 : Fld Z h43 a "com/example/sessionkeep/sessionkeep/codec/ObjectStreamShape$Puts" "keys" "[I" (.ref kb) := F57.other W43 (Or.inr (slot_ne (Or.inl (hw _ (List.mem_of_getElem? (i := 13) rfl))) (Or.inl (hw _ (List.mem_of_getElem? (i := 76) rfl))) (by decide) (t := (.array .int)) (t' := .int) (by decide) (by decide)))
  have F59 : Fld Z h26 a "com/example/sessionkeep/sessionkeep/codec/ObjectStreamShape$Puts" "weights" "[J" (.ref wb) := F17.other W26 (Or.inl ne_a_wb)
  have F60 : Fld Z h36 a "com/example/sessionkeep/sessionkeep/codec/ObjectStreamShape$Puts" "weights" "[J" (.ref wb) := F59.other W36 (Or.inl ne_a_ab)
  have F61 : Fld Z h43 a "com/example/sessionkeep/sessionkeep/codec/ObjectStreamShape$Puts" "weights" "[J" (.ref wb) := F60.other W43 (Or.inr (slot_ne (Or.inl (hw _ (List.mem_of_getElem? (i := 16) rfl))) (Or.inl (hw _ (List.mem_of_getElem? (i := 76) rfl))) (by decide) (t := (.array .long)) (t' := .int) (by decide) (by decide)))
  have F62 : Fld Z h36 a "com/example/sessionkeep/sessionkeep/codec/ObjectStreamShape$Puts" "afters" "[I" (.ref ab) := F29.other W36 (Or.inl ne_a_ab)
  have F63 : Fld Z h43 a "com/example/sessionkeep/sessionkeep/codec/ObjectStreamShape$Puts" "afters" "[I" (.ref ab) := F62.other W43 (Or.inr (slot_ne (Or.inl (hw _ (List.mem_of_getElem? (i := 18) rfl))) (Or.inl (hw _ (List.mem_of_getElem? (i := 76) rfl))) (by decide) (t := (.array .int)) (t' := .int) (by decide) (by decide)))
  have F64 : Arv Z h15 tb kk1 .int (16 : Int32) [(.int el1), (.int x), (.int (0 : Int32)), (.int (0 : Int32)), (.int (0 : Int32)), (.int (0 : Int32)), (.int (0 : Int32)), (.int (0 : Int32)), (.int (0 : Int32)), (.int (0 : Int32)), (.int (0 : Int32)), (.int (0 : Int32)), (.int (0 : Int32)), (.int (0 : Int32)), (.int (0 : Int32)), (.int (0 : Int32))] (.int (0 : Int32)) := V7.other W15 ne_tb_kb
  have F65 : Arv Z h26 tb kk1 .int (16 : Int32) [(.int el1), (.int x), (.int (0 : Int32)), (.int (0 : Int32)), (.int (0 : Int32)), (.int (0 : Int32)), (.int (0 : Int32)), (.int (0 : Int32)), (.int (0 : Int32)), (.int (0 : Int32)), (.int (0 : Int32)), (.int (0 : Int32)), (.int (0 : Int32)), (.int (0 : Int32)), (.int (0 : Int32)), (.int (0 : Int32))] (.int (0 : Int32)) := F64.other W26 ne_tb_wb
  have F66 : Arv Z h36 tb kk1 .int (16 : Int32) [(.int el1), (.int x), (.int (0 : Int32)), (.int (0 : Int32)), (.int (0 : Int32)), (.int (0 : Int32)), (.int (0 : Int32)), (.int (0 : Int32)), (.int (0 : Int32)), (.int (0 : Int32)), (.int (0 : Int32)), (.int (0 : Int32)), (.int (0 : Int32)), (.int (0 : Int32)), (.int (0 : Int32)), (.int (0 : Int32))] (.int (0 : Int32)) := F65.other W36 ne_tb_ab
  have F67 : Arv Z h43 tb kk1 .int (16 : Int32) [(.int el1), (.int x), (.int (0 : Int32)), (.int (0 : Int32)), (.int (0 : Int32)), (.int (0 : Int32)), (.int (0 : Int32)), (.int (0 : Int32)), (.int (0 : Int32)), (.int (0 : Int32)), (.int (0 : Int32)), (.int (0 : Int32)), (.int (0 : Int32)), (.int (0 : Int32)), (.int (0 : Int32)), (.int (0 : Int32))] (.int (0 : Int32)) := F66.other W43 (Ne.symm ne_a_tb)
  have F68 : Arv Z h26 kb kk2 .int (16 : Int32) [(.int el2), (.int ov), (.int (0 : Int32)), (.int (0 : Int32)), (.int (0 : Int32)), (.int (0 : Int32)), (.int (0 : Int32)), (.int (0 : Int32)), (.int (0 : Int32)), (.int (0 : Int32)), (.int (0 : Int32)), (.int (0 : Int32)), (.int (0 : Int32)), (.int (0 : Int32)), (.int (0 : Int32)), (.int (0 : Int32))] (.int (0 : Int32)) := V15.other W26 ne_kb_wb
  have F69 : Arv Z h36 kb kk2 .int (16 : Int32) [(.int el2), (.int ov), (.int (0 : Int32)), (.int (0 : Int32)), (.int (0 : Int32)), (.int (0 : Int32)), (.int (0 : Int32)), (.int (0 : Int32)), (.int (0 : Int32)), (.int (0 : Int32)), (.int (0 : Int32)), (.int (0 : Int32)), (.int (0 : Int32)), (.int (0 : Int32)), (.int (0 : Int32)), (.int (0 : Int32))] (.int (0 : Int32)) := F68.other W36 ne_kb_ab
  have F70 : Arv Z h43 kb kk2 .int (16 : Int32) [(.int el2), (.int ov), (.int (0 : Int32)), (.int (0 : Int32)), (.int (0 : Int32)), (.int (0 : Int32)), (.int (0 : Int32)), (.int (0 : Int32)), (.int (0 : Int32)), (.int (0 : Int32)), (.int (0 : Int32)), (.int (0 : Int32)), (.int (0 : Int32)), (.int (0 : Int32)), (.int (0 : Int32)), (.int (0 : Int32))] (.int (0 : Int32)) := F69.other W43 (Ne.symm ne_a_kb)
  have F71 : Arv Z h36 wb kk3 .long (16 : Int32) [(.long el3), (.long wt), (.long (0 : Int64)), (.long (0 : Int64)), (.long (0 : Int64)), (.long (0 : Int64)), (.long (0 : Int64)), (.long (0 : Int64)), (.long (0 : Int64)), (.long (0 : Int64)), (.long (0 : Int64)), (.long (0 : Int64)), (.long (0 : Int64)), (.long (0 : Int64)), (.long (0 : Int64)), (.long (0 : Int64))] (.long (0 : Int64)) := V26.other W36 ne_wb_ab
  have F72 : Arv Z h43 wb kk3 .long (16 : Int32) [(.long el3), (.long wt), (.long (0 : Int64)), (.long (0 : Int64)), (.long (0 : Int64)), (.long (0 : Int64)), (.long (0 : Int64)), (.long (0 : Int64)), (.long (0 : Int64)), (.long (0 : Int64)), (.long (0 : Int64)), (.long (0 : Int64)), (.long (0 : Int64)), (.long (0 : Int64)), (.long (0 : Int64)), (.long (0 : Int64))] (.long (0 : Int64)) := F71.other W43 (Ne.symm ne_a_wb)
  have F73 : Arv Z h43 ab kk4 .int (16 : Int32) [(.int el4), (.int y), (.int (0 : Int32)), (.int (0 : Int32)), (.int (0 : Int32)), (.int (0 : Int32)), (.int (0 : Int32)), (.int (0 : Int32)), (.int (0 : Int32)), (.int (0 : Int32)), (.int (0 : Int32)), (.int (0 : Int32)), (.int (0 : Int32)), (.int (0 : Int32)), (.int (0 : Int32)), (.int (0 : Int32))] (.int (0 : Int32)) := V36.other W43 (Ne.symm ne_a_ab)
  exact Go.retV X43 hx Bd.notSynchronized Bd.returns (hb hby d8_131) (by rw [e43]; exact ⟨rfl, N43, F48, F49, F54, F58, F61, F63, Fw43, F67, F70, F72, F73⟩) (by decide) (by decide)
theorem pn_170 : plainName "com/example/sessionkeep/sessionkeep/codec/PutsAddPinLaw" = true := by first | (simp [plainName, overriddenIn]; done) | decide +kernel
theorem ef_171 (m : MethodId) (x0 : Int32) (x1 : Int32) (x2 : Int32) (x3 : Int32) : entryFrame m #[(.int x0), (.int x1), (.int x2), (.int x3)] 11 = mkF m 0 #[.val (.int x0), .val (.int x1), .val (.int x2), .val (.int x3), .unset, .unset, .unset, .unset, .unset, .unset, .unset] [] := by (first | (simp [entryFrame, mkF, argsToLocals, Value.category]; done) | rfl)
theorem pd_172 : parseMethodDescriptor "()V" = some ⟨[], none⟩ := by decide +kernel
theorem pd_173 : parseMethodDescriptor "(ILcom/example/sessionkeep/sessionkeep/codec/ObjectStreamShape$Node;Lcom/example/sessionkeep/sessionkeep/codec/ObjectStreamShape$Layout;ZII)V" = some ⟨[.int, (.object "com/example/sessionkeep/sessionkeep/codec/ObjectStreamShape$Node"), (.object "com/example/sessionkeep/sessionkeep/codec/ObjectStreamShape$Layout"), .boolean, .int, .int], none⟩ := by decide +kernel
theorem pd_174 : parseMethodDescriptor "(ZZ)V" = some ⟨[.boolean, .boolean], none⟩ := by decide +kernel
theorem pd_175 : parseMethodDescriptor "(Lcom/example/sessionkeep/sessionkeep/codec/ObjectStreamShape$Node;Z)V" = some ⟨[(.object "com/example/sessionkeep/sessionkeep/codec/ObjectStreamShape$Node"), .boolean], none⟩ := by decide +kernel
theorem pd_176 : parseMethodDescriptor "(Lcom/example/sessionkeep/sessionkeep/codec/ObjectStreamShape$Table;Lcom/example/sessionkeep/sessionkeep/codec/ObjectStreamShape$Node;I)V" = some ⟨[(.object "com/example/sessionkeep/sessionkeep/codec/ObjectStreamShape$Table"), (.object "com/example/sessionkeep/sessionkeep/codec/ObjectStreamShape$Node"), .int], none⟩ := by decide +kernel
theorem pd_177 : parseMethodDescriptor "(I)I" = some ⟨[.int], some .int⟩ := by decide +kernel
theorem pd_178 : parseMethodDescriptor "(I)J" = some ⟨[.int], some .long⟩ := by decide +kernel
def Q_rm0 (Z : State) (q0 : Int32) (q1 : Int32) (q2 : Int32) (q3 : Int32) (el : Addr) (h0 : Heap) (n0 : Nat) (v : Option Value) (h : Heap) (L : List Loc) : Prop := v = some (.int 1) ∧ Fr n0 L
set_option maxRecDepth 65536 in
set_option maxHeartbeats 40000000 in
theorem rm0 (l : Launch) (Z : State) (a0 : Array Value) (hw : ∀ d ∈ tables_1, d.before a0 Z = true) (ws : List Jvm.Cond) (q0 : Int32) (q1 : Int32) (q2 : Int32) (q3 : Int32) (el : Addr) (h0 : Heap) (n0 : Nat) (Z0 : n0 ≤ h0.size) (O0 : Old Z n0 h0) (S_el : Sta Z Z.heap "java/util/ImmutableCollections" "EMPTY_LIST" "Ljava/util/ImmutableCollections$ListN;" (.ref el)) :
    MetFree l x (head1 (Jvm.Cond.code x code maxLocals ret :: ws) room_1) (fun as' U => as' = #[(.int q0), (.int q1), (.int q2), (.int q3)] ∧ Z.Warmed39 U.vm ∧ U.heap = h0) (fun _ _ _ _ _ => True) (fun _ U o U' => ∃ v L, o = .returned v ∧ Q_rm0 Z q0 q1 q2 q3 el h0 n0 v U'.heap L ∧ FrameEnd U o U' L 9 97) := by
  refine MetFree.of_bodySF (plainFor_of_name pn_170) hisR ?_
  intro p e s m args below meth c s₁ Bd hml0 hP hK
  obtain ⟨rfl, hZ, hh⟩ := hP
  have hx := Bd.exec
  have hby := Bd.bytes
  have hml : c.maxLocals = 11 := hml0
  have hown : s.vm.findClass "com/example/sessionkeep/sessionkeep/codec/PutsAddPinLaw" = some m.cls := findClass_of_methodNamed Bd.named
  have hnm := (name_of_methodNamed Bd.named Bd.method).1
  have X0 : Stand p l e room_1 s m #[(.int q0), (.int q1), (.int q2), (.int q3)] below meth c s₁ [] 0 0 := Stand.of_body Bd
  have e0 : s₁.heap = h0 := by rw [← hh, Bd.state]; rfl
  have N0 := Fr.nil n0
  refine Go.enter (F := EndN s (Q_rm0 Z q0 q1 q2 q3 el h0 n0) 9 97) (ef_171 m q0 q1 q2 q3) ?_
  show Go _ _ _ _ s₁ (mkF m 0 #[.val (.int q0), .val (.int q1), .val (.int q2), .val (.int q3), .unset, .unset, .unset, .unset, .unset, .unset, .unset] [])
  obtain ⟨p, g1⟩ : ∃ z, z = h0.size := ⟨_, rfl⟩
  have ge_p : n0 ≤ p := Nat.le_trans Z0 (Nat.le_of_eq g1.symm)
  have sz_p : h0.size ≤ p := Nat.le_trans (Keep.refl h0 []).1 (Nat.le_of_eq g1.symm)
  obtain ⟨T1, h1, X1, e1, E1, A1, D1, -, st1⟩ := newO X0 hx hZ hown (hw _ (List.mem_of_getElem? (i := 0) rfl)) (hw _ (List.mem_of_getElem? (i := 1) rfl)) (hw _ (List.mem_of_getElem? (i := 2) rfl)) e0 (g := (mkF m 0 #[.val (.int q0), .val (.int q1), .val (.int q2), .val (.int q3), .unset, .unset, .unset, .unset, .unset, .unset, .unset] [])) rfl (hb hby at_0) (by decide) (by decide)
  rw [← g1] at A1 D1 st1
  have F_tables_p : Fld Z h1 p "com/example/sessionkeep/sessionkeep/codec/ObjectStreamShape$Puts" "tables" "[I" .null := D1 (Or.inl (hw _ (List.mem_of_getElem? (i := 11) rfl))) (ty := (.array .int)) (by decide)
  have F_keys_p : Fld Z h1 p "com/example/sessionkeep/sessionkeep/codec/ObjectStreamShape$Puts" "keys" "[I" .null := D1 (Or.inl (hw _ (List.mem_of_getElem? (i := 13) rfl))) (ty := (.array .int)) (by decide)
  have F_weights_p : Fld Z h1 p "com/example/sessionkeep/sessionkeep/codec/ObjectStreamShape$Puts" "weights" "[J" .null := D1 (Or.inl (hw _ (List.mem_of_getElem? (i := 16) rfl))) (ty := (.array .long)) (by decide)
  have F_afters_p : Fld Z h1 p "com/example/sessionkeep/sessionkeep/codec/ObjectStreamShape$Puts" "afters" "[I" .null := D1 (Or.inl (hw _ (List.mem_of_getElem? (i := 18) rfl))) (ty := (.array .int)) (by decide)
  have F_size_p : Fld Z h1 p "com/example/sessionkeep/sessionkeep/codec/ObjectStreamShape$Puts" "size" "I" (.int (0 : Int32)) := D1 (Or.inl (hw _ (List.mem_of_getElem? (i := 76) rfl))) (ty := .int) (by decide)
  refine Go.by st1 ?_
  show Go _ _ _ _ T1 (mkF m 3 #[.val (.int q0), .val (.int q1), .val (.int q2), .val (.int q3), .unset, .unset, .unset, .unset, .unset, .unset, .unset] [(.ref p)])
  refine Go.by (fun _ gk => XS.dup X1.here hx rfl (hb hby at_3) rfl rfl gk) ?_
  show Go _ _ _ _ T1 (mkF m 4 #[.val (.int q0), .val (.int q1), .val (.int q2), .val (.int q3), .unset, .unset, .unset, .unset, .unset, .unset, .unset] [(.ref p), (.ref p)])
  have F2 : n0 ≤ h1.size := Nat.le_trans Z0 E1.1
  have F3 : Keep h0 h1 [] := (Keep.refl h0 []).ext E1
  obtain ⟨_, _, ⟨T4, L4, k4, n4⟩, -, X4, ⟨Lc4, hQ4, l4, y4, z4⟩, st4⟩ := X1.specialBack hx (y := (⟨"com/example/sessionkeep/sessionkeep/codec/ObjectStreamShape$Puts", "<init>", "()V"⟩ : MethodName)) rfl hown (mvT hZ (hw _ (List.mem_of_getElem? (i := 3) rfl))) (mvT hZ (hw _ (List.mem_of_getElem? (i := 4) rfl))) (mvT hZ (hw _ (List.mem_of_getElem? (i := 5) rfl))) (by decide) (backOf (W := 1) (rmPuts l Z a0 hw [] p h1 n0 F2 A1 F_tables_p F_keys_p F_weights_p F_afters_p F_size_p ge_p) hZ (hw _ (List.mem_of_getElem? (i := 5) rfl)) (hw _ (List.mem_of_getElem? (i := 2) rfl)) (by decide) (by decide)) (g := (mkF m 4 #[.val (.int q0), .val (.int q1), .val (.int q2), .val (.int q3), .unset, .unset, .unset, .unset, .unset, .unset, .unset] [(.ref p), (.ref p)])) rfl (by rw [hml]; rfl) (Steps.refl _) (a := p) (argsL := []) (rest := [(.ref p)]) (lenOf pd_172 rfl) rfl (by show 2 * 0 + _ ≤ _; exact Nat.le_of_eq rfl) (hb hby at_4) (fun _ _ => ⟨rfl, e1, (by decide : 1 + 4 ≤ _), (by decide : 5 + 64 ≤ _)⟩)
  dsimp only [Pt.U, Pt.locs, Pt.cells, Pt.slots] at X4 l4 y4 z4 st4 hQ4
  subst l4 y4 z4
  obtain ⟨tb, kb, wb, ab, kk1_4, kk2_4, kk3_4, kk4_4, rfl, N4q, K4, Q4_0, Q4_1, Q4_2, Q4_3, Q4_4, Q4_5, Q4_6, Q4_7, Q4_8, Q4_9, Q4_10, Q4_11, Q4_12, Q4_13, Q4_14, Q4_15, Q4_16, Q4_17, Q4_18, Q4_19⟩ := hQ4
  have N4 := Fr.app N0 N4q
  refine Go.to st4 ?_
  show Go _ _ _ _ T4 (mkF m 7 #[.val (.int q0), .val (.int q1), .val (.int q2), .val (.int q3), .unset, .unset, .unset, .unset, .unset, .unset, .unset] [(.ref p)])
  have ge_tb : n0 ≤ tb := Nat.le_trans F2 Q4_10
  have sz_tb : h0.size ≤ tb := Nat.le_trans F3.1 Q4_10
  have ne_p_tb : p ≠ tb := Nat.ne_of_lt (Nat.lt_of_lt_of_le A1.lt Q4_10)
  have ge_kb : n0 ≤ kb := Nat.le_trans F2 Q4_11
  have sz_kb : h0.size ≤ kb := Nat.le_trans F3.1 Q4_11
  have ne_p_kb : p ≠ kb := Nat.ne_of_lt (Nat.lt_of_lt_of_le A1.lt Q4_11)
  have ge_wb : n0 ≤ wb := Nat.le_trans F2 Q4_12
  have sz_wb : h0.size ≤ wb := Nat.le_trans F3.1 Q4_12
  have ne_p_wb : p ≠ wb := Nat.ne_of_lt (Nat.lt_of_lt_of_le A1.lt Q4_12)
  have ge_ab : n0 ≤ ab := Nat.le_trans F2 Q4_13
  have sz_ab : h0.size ≤ ab := Nat.le_trans F3.1 Q4_13
  have ne_p_ab : p ≠ ab := Nat.ne_of_lt (Nat.lt_of_lt_of_le A1.lt Q4_13)
  refine Go.by (fun _ gk => XS.astore X4.here hx rfl (hb hby at_7) rfl rfl (l' := #[.val (.int q0), .val (.int q1), .val (.int q2), .val (.int q3), .val (.ref p), .unset, .unset, .unset, .unset, .unset, .unset]) rfl gk) ?_
  show Go _ _ _ _ T4 (mkF m 9 #[.val (.int q0), .val (.int q1), .val (.int q2), .val (.int q3), .val (.ref p), .unset, .unset, .unset, .unset, .unset, .unset] [])
  have F6 : n0 ≤ T4.heap.size := Nat.le_trans F2 K4.1
  obtain ⟨t1, g5⟩ : ∃ z, z = T4.heap.size := ⟨_, rfl⟩
  have ge_t1 : n0 ≤ t1 := Nat.le_trans F6 (Nat.le_of_eq g5.symm)
  have F7 : Keep h0 T4.heap [] := F3.trans K4 (allS (Or.inr sz_p) all0)
  have sz_t1 : h0.size ≤ t1 := Nat.le_trans F7.1 (Nat.le_of_eq g5.symm)
  have ne_ab_t1 : ab ≠ t1 := Nat.ne_of_lt (Nat.lt_of_lt_of_le Q4_9.lt (Nat.le_of_eq g5.symm))
  have ne_kb_t1 : kb ≠ t1 := Nat.ne_of_lt (Nat.lt_of_lt_of_le Q4_7.lt (Nat.le_of_eq g5.symm))
  have ne_p_t1 : p ≠ t1 := Nat.ne_of_lt (Nat.lt_of_lt_of_le Q4_0.lt (Nat.le_of_eq g5.symm))
  have ne_tb_t1 : tb ≠ t1 := Nat.ne_of_lt (Nat.lt_of_lt_of_le Q4_6.lt (Nat.le_of_eq g5.symm))
  have ne_wb_t1 : wb ≠ t1 := Nat.ne_of_lt (Nat.lt_of_lt_of_le Q4_8.lt (Nat.le_of_eq g5.symm))
  obtain ⟨T5, h5, X5, e5, E5, A5, D5, -, st5⟩ := newO X4 hx hZ hown (hw _ (List.mem_of_getElem? (i := 19) rfl)) (hw _ (List.mem_of_getElem? (i := 20) rfl)) (hw _ (List.mem_of_getElem? (i := 21) rfl)) rfl (g := (mkF m 9 #[.val (.int q0), .val (.int q1), .val (.int q2), .val (.int q3), .val (.ref p), .unset, .unset, .unset, .unset, .unset, .unset] [])) rfl (hb hby at_9) (by decide) (by decide)
  rw [← g5] at A5 D5 st5
  have F_index_t1 : Fld Z h5 t1 "com/example/sessionkeep/sessionkeep/codec/ObjectStreamShape$Table" "index" "I" (.int (0 : Int32)) := D5 (Or.inr (hw _ (List.mem_of_getElem? (i := 27) rfl))) (ty := .int) (by decide)
  have F_owner_t1 : Fld Z h5 t1 "com/example/sessionkeep/sessionkeep/codec/ObjectStreamShape$Table" "owner" "Lcom/example/sessionkeep/sessionkeep/codec/ObjectStreamShape$Node;" .null := D5 (Or.inr (hw _ (List.mem_of_getElem? (i := 29) rfl))) (ty := (.object "com/example/sessionkeep/sessionkeep/codec/ObjectStreamShape$Node")) (by decide)
  have F_layout_t1 : Fld Z h5 t1 "com/example/sessionkeep/sessionkeep/codec/ObjectStreamShape$Table" "layout" "Lcom/example/sessionkeep/sessionkeep/codec/ObjectStreamShape$Layout;" .null := D5 (Or.inr (hw _ (List.mem_of_getElem? (i := 31) rfl))) (ty := (.object "com/example/sessionkeep/sessionkeep/codec/ObjectStreamShape$Layout")) (by decide)
  have F_pairs_t1 : Fld Z h5 t1 "com/example/sessionkeep/sessionkeep/codec/ObjectStreamShape$Table" "pairs" "Z" (.int (0 : Int32)) := D5 (Or.inr (hw _ (List.mem_of_getElem? (i := 33) rfl))) (ty := .boolean) (by decide)
  have F_depth_t1 : Fld Z h5 t1 "com/example/sessionkeep/sessionkeep/codec/ObjectStreamShape$Table" "depth" "I" (.int (0 : Int32)) := D5 (Or.inr (hw _ (List.mem_of_getElem? (i := 35) rfl))) (ty := .int) (by decide)
  have F_start_t1 : Fld Z h5 t1 "com/example/sessionkeep/sessionkeep/codec/ObjectStreamShape$Table" "start" "I" (.int (0 : Int32)) := D5 (Or.inr (hw _ (List.mem_of_getElem? (i := 37) rfl))) (ty := .int) (by decide)
  refine Go.by st5 ?_
  show Go _ _ _ _ T5 (mkF m 12 #[.val (.int q0), .val (.int q1), .val (.int q2), .val (.int q3), .val (.ref p), .unset, .unset, .unset, .unset, .unset, .unset] [(.ref t1)])
  refine Go.by (fun _ gk => XS.dup X5.here hx rfl (hb hby at_12) rfl rfl gk) ?_
  show Go _ _ _ _ T5 (mkF m 13 #[.val (.int q0), .val (.int q1), .val (.int q2), .val (.int q3), .val (.ref p), .unset, .unset, .unset, .unset, .unset, .unset] [(.ref t1), (.ref t1)])
  refine Go.by (fun _ gk => XS.iloadN X5.here hx rfl (hb hby at_13) rfl gk) ?_
  show Go _ _ _ _ T5 (mkF m 14 #[.val (.int q0), .val (.int q1), .val (.int q2), .val (.int q3), .val (.ref p), .unset, .unset, .unset, .unset, .unset, .unset] [(.int q0), (.ref t1), (.ref t1)])
  refine Go.by (fun _ gk => XS.aconstNull X5.here hx rfl (hb hby at_14) gk) ?_
  show Go _ _ _ _ T5 (mkF m 15 #[.val (.int q0), .val (.int q1), .val (.int q2), .val (.int q3), .val (.ref p), .unset, .unset, .unset, .unset, .unset, .unset] [.null, (.int q0), (.ref t1), (.ref t1)])
  refine Go.by (fun _ gk => XS.aconstNull X5.here hx rfl (hb hby at_15) gk) ?_
  show Go _ _ _ _ T5 (mkF m 16 #[.val (.int q0), .val (.int q1), .val (.int q2), .val (.int q3), .val (.ref p), .unset, .unset, .unset, .unset, .unset, .unset] [.null, .null, (.int q0), (.ref t1), (.ref t1)])
  refine Go.by (fun _ gk => XT.iconstV X5.here hx rfl (0 : Int32) (hb hby at_16) (by decide) gk) ?_
  show Go _ _ _ _ T5 (mkF m 17 #[.val (.int q0), .val (.int q1), .val (.int q2), .val (.int q3), .val (.ref p), .unset, .unset, .unset, .unset, .unset, .unset] [(.int (0 : Int32)), .null, .null, (.int q0), (.ref t1), (.ref t1)])
  refine Go.by (fun _ gk => XT.iconstV X5.here hx rfl (0 : Int32) (hb hby at_17) (by decide) gk) ?_
  show Go _ _ _ _ T5 (mkF m 18 #[.val (.int q0), .val (.int q1), .val (.int q2), .val (.int q3), .val (.ref p), .unset, .unset, .unset, .unset, .unset, .unset] [(.int (0 : Int32)), (.int (0 : Int32)), .null, .null, (.int q0), (.ref t1), (.ref t1)])
  refine Go.by (fun _ gk => XT.iconstV X5.here hx rfl (0 : Int32) (hb hby at_18) (by decide) gk) ?_
  show Go _ _ _ _ T5 (mkF m 19 #[.val (.int q0), .val (.int q1), .val (.int q2), .val (.int q3), .val (.ref p), .unset, .unset, .unset, .unset, .unset, .unset] [(.int (0 : Int32)), (.int (0 : Int32)), (.int (0 : Int32)), .null, .null, (.int q0), (.ref t1), (.ref t1)])
  have F8 : n0 ≤ h5.size := Nat.le_trans F6 E5.1
  obtain ⟨_, _, ⟨T9, L9, k9, n9⟩, -, X9, ⟨Lc9, hQ9, l9, y9, z9⟩, st9⟩ := X5.specialBack hx (y := (⟨"com/example/sessionkeep/sessionkeep/codec/ObjectStreamShape$Table", "<init>", "(ILcom/example/sessionkeep/sessionkeep/codec/ObjectStreamShape$Node;Lcom/example/sessionkeep/sessionkeep/codec/ObjectStreamShape$Layout;ZII)V"⟩ : MethodName)) rfl hown (mvT hZ (hw _ (List.mem_of_getElem? (i := 22) rfl))) (mvT hZ (hw _ (List.mem_of_getElem? (i := 23) rfl))) (mvT hZ (hw _ (List.mem_of_getElem? (i := 24) rfl))) (by decide) (backOf (W := 1) (rmTable l Z a0 hw [] t1 q0 (0 : Int32) (0 : Int32) (0 : Int32) h5 n0 F8 A5 F_index_t1 F_owner_t1 F_layout_t1 F_pairs_t1 F_depth_t1 F_start_t1 ge_t1 rfl rfl) hZ (hw _ (List.mem_of_getElem? (i := 24) rfl)) (hw _ (List.mem_of_getElem? (i := 21) rfl)) (by decide) (by decide)) (g := (mkF m 19 #[.val (.int q0), .val (.int q1), .val (.int q2), .val (.int q3), .val (.ref p), .unset, .unset, .unset, .unset, .unset, .unset] [(.int (0 : Int32)), (.int (0 : Int32)), (.int (0 : Int32)), .null, .null, (.int q0), (.ref t1), (.ref t1)])) rfl (by rw [hml]; rfl) (Steps.refl _) (a := t1) (argsL := [(.int q0), .null, .null, (.int (0 : Int32)), (.int (0 : Int32)), (.int (0 : Int32))]) (rest := [(.ref t1)]) (lenOf pd_173 rfl) rfl (by show 2 * 0 + _ ≤ _; exact Nat.le_of_eq rfl) (hb hby at_19) (fun _ _ => ⟨rfl, e5, (by decide : 6 + 0 ≤ _), (by decide : 75 + 0 ≤ _)⟩)
  dsimp only [Pt.U, Pt.locs, Pt.cells, Pt.slots] at X9 l9 y9 z9 st9 hQ9
  subst l9 y9 z9
  obtain ⟨rfl, N9q, K9, Q9_0, Q9_1⟩ := hQ9
  have N9 := Fr.app N4 N9q
  refine Go.to st9 ?_
  show Go _ _ _ _ T9 (mkF m 22 #[.val (.int q0), .val (.int q1), .val (.int q2), .val (.int q3), .val (.ref p), .unset, .unset, .unset, .unset, .unset, .unset] [(.ref t1)])
  refine Go.by (fun _ gk => XS.astore X9.here hx rfl (hb hby at_22) rfl rfl (l' := #[.val (.int q0), .val (.int q1), .val (.int q2), .val (.int q3), .val (.ref p), .val (.ref t1), .unset, .unset, .unset, .unset, .unset]) rfl gk) ?_
  show Go _ _ _ _ T9 (mkF m 24 #[.val (.int q0), .val (.int q1), .val (.int q2), .val (.int q3), .val (.ref p), .val (.ref t1), .unset, .unset, .unset, .unset, .unset] [])
  have F11 : n0 ≤ T9.heap.size := Nat.le_trans F8 K9.1
  obtain ⟨t2, g10⟩ : ∃ z, z = T9.heap.size := ⟨_, rfl⟩
  have ge_t2 : n0 ≤ t2 := Nat.le_trans F11 (Nat.le_of_eq g10.symm)
  have F12 : Keep h0 h5 [] := F7.ext E5
  have F13 : Keep h0 T9.heap [] := F12.trans K9 (allS (Or.inr sz_t1) all0)
  have sz_t2 : h0.size ≤ t2 := Nat.le_trans F13.1 (Nat.le_of_eq g10.symm)
  have F14 : Arv Z h5 ab kk4_4 .int (16 : Int32) [(.int (0 : Int32)), (.int (0 : Int32)), (.int (0 : Int32)), (.int (0 : Int32)), (.int (0 : Int32)), (.int (0 : Int32)), (.int (0 : Int32)), (.int (0 : Int32)), (.int (0 : Int32)), (.int (0 : Int32)), (.int (0 : Int32)), (.int (0 : Int32)), (.int (0 : Int32)), (.int (0 : Int32)), (.int (0 : Int32)), (.int (0 : Int32))] (.int (0 : Int32)) := Q4_9.ext E5
  have F15 : Arv Z T9.heap ab kk4_4 .int (16 : Int32) [(.int (0 : Int32)), (.int (0 : Int32)), (.int (0 : Int32)), (.int (0 : Int32)), (.int (0 : Int32)), (.int (0 : Int32)), (.int (0 : Int32)), (.int (0 : Int32)), (.int (0 : Int32)), (.int (0 : Int32)), (.int (0 : Int32)), (.int (0 : Int32)), (.int (0 : Int32)), (.int (0 : Int32)), (.int (0 : Int32)), (.int (0 : Int32))] (.int (0 : Int32)) := F14.keep K9 (ninS ne_ab_t1 nin0)
  have ne_ab_t2 : ab ≠ t2 := Nat.ne_of_lt (Nat.lt_of_lt_of_le F15.lt (Nat.le_of_eq g10.symm))
  have F16 : Arv Z h5 kb kk2_4 .int (16 : Int32) [(.int (0 : Int32)), (.int (0 : Int32)), (.int (0 : Int32)), (.int (0 : Int32)), (.int (0 : Int32)), (.int (0 : Int32)), (.int (0 : Int32)), (.int (0 : Int32)), (.int (0 : Int32)), (.int (0 : Int32)), (.int (0 : Int32)), (.int (0 : Int32)), (.int (0 : Int32)), (.int (0 : Int32)), (.int (0 : Int32)), (.int (0 : Int32))] (.int (0 : Int32)) := Q4_7.ext E5
  have F17 : Arv Z T9.heap kb kk2_4 .int (16 : Int32) [(.int (0 : Int32)), (.int (0 : Int32)), (.int (0 : Int32)), (.int (0 : Int32)), (.int (0 : Int32)), (.int (0 : Int32)), (.int (0 : Int32)), (.int (0 : Int32)), (.int (0 : Int32)), (.int (0 : Int32)), (.int (0 : Int32)), (.int (0 : Int32)), (.int (0 : Int32)), (.int (0 : Int32)), (.int (0 : Int32)), (.int (0 : Int32))] (.int (0 : Int32)) := F16.keep K9 (ninS ne_kb_t1 nin0)
  have ne_kb_t2 : kb ≠ t2 := Nat.ne_of_lt (Nat.lt_of_lt_of_le F17.lt (Nat.le_of_eq g10.symm))
  have F18 : Exa Z h5 p "com/example/sessionkeep/sessionkeep/codec/ObjectStreamShape$Puts" := Q4_0.ext E5
  have F19 : Exa Z T9.heap p "com/example/sessionkeep/sessionkeep/codec/ObjectStreamShape$Puts" := F18.keep K9
  have ne_p_t2 : p ≠ t2 := Nat.ne_of_lt (Nat.lt_of_lt_of_le F19.lt (Nat.le_of_eq g10.symm))
  have ne_t1_t2 : t1 ≠ t2 := Nat.ne_of_lt (Nat.lt_of_lt_of_le Q9_0.lt (Nat.le_of_eq g10.symm))
  have F20 : Arv Z h5 tb kk1_4 .int (16 : Int32) [(.int (0 : Int32)), (.int (0 : Int32)), (.int (0 : Int32)), (.int (0 : Int32)), (.int (0 : Int32)), (.int (0 : Int32)), (.int (0 : Int32)), (.int (0 : Int32)), (.int (0 : Int32)), (.int (0 : Int32)), (.int (0 : Int32)), (.int (0 : Int32)), (.int (0 : Int32)), (.int (0 : Int32)), (.int (0 : Int32)), (.int (0 : Int32))] (.int (0 : Int32)) := Q4_6.ext E5
  have F21 : Arv Z T9.heap tb kk1_4 .int (16 : Int32) [(.int (0 : Int32)), (.int (0 : Int32)), (.int (0 : Int32)), (.int (0 : Int32)), (.int (0 : Int32)), (.int (0 : Int32)), (.int (0 : Int32)), (.int (0 : Int32)), (.int (0 : Int32)), (.int (0 : Int32)), (.int (0 : Int32)), (.int (0 : Int32)), (.int (0 : Int32)), (.int (0 : Int32)), (.int (0 : Int32)), (.int (0 : Int32))] (.int (0 : Int32)) := F20.keep K9 (ninS ne_tb_t1 nin0)
  have ne_tb_t2 : tb ≠ t2 := Nat.ne_of_lt (Nat.lt_of_lt_of_le F21.lt (Nat.le_of_eq g10.symm))
  have F22 : Arv Z h5 wb kk3_4 .long (16 : Int32) [(.long (0 : Int64)), (.long (0 : Int64)), (.long (0 : Int64)), (.long (0 : Int64)), (.long (0 : Int64)), (.long (0 : Int64)), (.long (0 : Int64)), (.long (0 : Int64)), (.long (0 : Int64)), (.long (0 : Int64)), (.long (0 : Int64)), (.long (0 : Int64)), (.long (0 : Int64)), (.long (0 : Int64)), (.long (0 : Int64)), (.long (0 : Int64))] (.long (0 : Int64)) := Q4_8.ext E5
  have F23 : Arv Z T9.heap wb kk3_4 .long (16 : Int32) [(.long (0 : Int64)), (.long (0 : Int64)), (.long (0 : Int64)), (.long (0 : Int64)), (.long (0 : Int64)), (.long (0 : Int64)), (.long (0 : Int64)), (.long (0 : Int64)), (.long (0 : Int64)), (.long (0 : Int64)), (.long (0 : Int64)), (.long (0 : Int64)), (.long (0 : Int64)), (.long (0 : Int64)), (.long (0 : Int64)), (.long (0 : Int64))] (.long (0 : Int64)) := F22.keep K9 (ninS ne_wb_t1 nin0)
  have ne_wb_t2 : wb ≠ t2 := Nat.ne_of_lt (Nat.lt_of_lt_of_le F23.lt (Nat.le_of_eq g10.symm))
  obtain ⟨T10, h10, X10, e10, E10, A10, D10, -, st10⟩ := newO X9 hx hZ hown (hw _ (List.mem_of_getElem? (i := 19) rfl)) (hw _ (List.mem_of_getElem? (i := 20) rfl)) (hw _ (List.mem_of_getElem? (i := 21) rfl)) rfl (g := (mkF m 24 #[.val (.int q0), .val (.int q1), .val (.int q2), .val (.int q3), .val (.ref p), .val (.ref t1), .unset, .unset, .unset, .unset, .unset] [])) rfl (hb hby at_24) (by decide) (by decide)
  rw [← g10] at A10 D10 st10
  have F_index_t2 : Fld Z h10 t2 "com/example/sessionkeep/sessionkeep/codec/ObjectStreamShape$Table" "index" "I" (.int (0 : Int32)) := D10 (Or.inr (hw _ (List.mem_of_getElem? (i := 27) rfl))) (ty := .int) (by decide)
  have F_owner_t2 : Fld Z h10 t2 "com/example/sessionkeep/sessionkeep/codec/ObjectStreamShape$Table" "owner" "Lcom/example/sessionkeep/sessionkeep/codec/ObjectStreamShape$Node;" .null := D10 (Or.inr (hw _ (List.mem_of_getElem? (i := 29) rfl))) (ty := (.object "com/example/sessionkeep/sessionkeep/codec/ObjectStreamShape$Node")) (by decide)
  have F_layout_t2 : Fld Z h10 t2 "com/example/sessionkeep/sessionkeep/codec/ObjectStreamShape$Table" "layout" "Lcom/example/sessionkeep/sessionkeep/codec/ObjectStreamShape$Layout;" .null := D10 (Or.inr (hw _ (List.mem_of_getElem? (i := 31) rfl))) (ty := (.object "com/example/sessionkeep/sessionkeep/codec/ObjectStreamShape$Layout")) (by decide)
  have F_pairs_t2 : Fld Z h10 t2 "com/example/sessionkeep/sessionkeep/codec/ObjectStreamShape$Table" "pairs" "Z" (.int (0 : Int32)) := D10 (Or.inr (hw _ (List.mem_of_getElem? (i := 33) rfl))) (ty := .boolean) (by decide)
  have F_depth_t2 : Fld Z h10 t2 "com/example/sessionkeep/sessionkeep/codec/ObjectStreamShape$Table" "depth" "I" (.int (0 : Int32)) := D10 (Or.inr (hw _ (List.mem_of_getElem? (i := 35) rfl))) (ty := .int) (by decide)
  have F_start_t2 : Fld Z h10 t2 "com/example/sessionkeep/sessionkeep/codec/ObjectStreamShape$Table" "start" "I" (.int (0 : Int32)) := D10 (Or.inr (hw _ (List.mem_of_getElem? (i := 37) rfl))) (ty := .int) (by decide)
  refine Go.by st10 ?_
  show Go _ _ _ _ T10 (mkF m 27 #[.val (.int q0), .val (.int q1), .val (.int q2), .val (.int q3), .val (.ref p), .val (.ref t1), .unset, .unset, .unset, .unset, .unset] [(.ref t2)])
  refine Go.by (fun _ gk => XS.dup X10.here hx rfl (hb hby at_27) rfl rfl gk) ?_
  show Go _ _ _ _ T10 (mkF m 28 #[.val (.int q0), .val (.int q1), .val (.int q2), .val (.int q3), .val (.ref p), .val (.ref t1), .unset, .unset, .unset, .unset, .unset] [(.ref t2), (.ref t2)])
  refine Go.by (fun _ gk => XS.iloadN X10.here hx rfl (hb hby at_28) rfl gk) ?_
  show Go _ _ _ _ T10 (mkF m 29 #[.val (.int q0), .val (.int q1), .val (.int q2), .val (.int q3), .val (.ref p), .val (.ref t1), .unset, .unset, .unset, .unset, .unset] [(.int q1), (.ref t2), (.ref t2)])
  refine Go.by (fun _ gk => XS.aconstNull X10.here hx rfl (hb hby at_29) gk) ?_
  show Go _ _ _ _ T10 (mkF m 30 #[.val (.int q0), .val (.int q1), .val (.int q2), .val (.int q3), .val (.ref p), .val (.ref t1), .unset, .unset, .unset, .unset, .unset] [.null, (.int q1), (.ref t2), (.ref t2)])
  refine Go.by (fun _ gk => XS.aconstNull X10.here hx rfl (hb hby at_30) gk) ?_
  show Go _ _ _ _ T10 (mkF m 31 #[.val (.int q0), .val (.int q1), .val (.int q2), .val (.int q3), .val (.ref p), .val (.ref t1), .unset, .unset, .unset, .unset, .unset] [.null, .null, (.int q1), (.ref t2), (.ref t2)])
  refine Go.by (fun _ gk => XT.iconstV X10.here hx rfl (1 : Int32) (hb hby at_31) (by decide) gk) ?_
  show Go _ _ _ _ T10 (mkF m 32 #[.val (.int q0), .val (.int q1), .val (.int q2), .val (.int q3), .val (.ref p), .val (.ref t1), .unset, .unset, .unset, .unset, .unset] [(.int (1 : Int32)), .null, .null, (.int q1), (.ref t2), (.ref t2)])
  refine Go.by (fun _ gk => XT.iconstV X10.here hx rfl (1 : Int32) (hb hby at_32) (by decide) gk) ?_
  show Go _ _ _ _ T10 (mkF m 33 #[.val (.int q0), .val (.int q1), .val (.int q2), .val (.int q3), .val (.ref p), .val (.ref t1), .unset, .unset, .unset, .unset, .unset] [(.int (1 : Int32)), (.int (1 : Int32)), .null, .null, (.int q1), (.ref t2), (.ref t2)])
  refine Go.by (fun _ gk => XT.iconstV X10.here hx rfl (1 : Int32) (hb hby at_33) (by decide) gk) ?_
  show Go _ _ _ _ T10 (mkF m 34 #[.val (.int q0), .val (.int q1), .val (.int q2), .val (.int q3), .val (.ref p), .val (.ref t1), .unset, .unset, .unset, .unset, .unset] [(.int (1 : Int32)), (.int (1 : Int32)), (.int (1 : Int32)), .null, .null, (.int q1), (.ref t2), (.ref t2)])
  have F24 : n0 ≤ h10.size := Nat.le_trans F11 E10.1
  obtain ⟨_, _, ⟨T25, L25, k25, n25⟩, -, X25, ⟨Lc25, hQ25, l25, y25, z25⟩, st25⟩ := X10.specialBack hx (y := (⟨"com/example/sessionkeep/sessionkeep/codec/ObjectStreamShape$Table", "<init>", "(ILcom/example/sessionkeep/sessionkeep/codec/ObjectStreamShape$Node;Lcom/example/sessionkeep/sessionkeep/codec/ObjectStreamShape$Layout;ZII)V"⟩ : MethodName)) rfl hown (mvT hZ (hw _ (List.mem_of_getElem? (i := 22) rfl))) (mvT hZ (hw _ (List.mem_of_getElem? (i := 23) rfl))) (mvT hZ (hw _ (List.mem_of_getElem? (i := 24) rfl))) (by decide) (backOf (W := 1) (rmTable l Z a0 hw [] t2 q1 (1 : Int32) (1 : Int32) (1 : Int32) h10 n0 F24 A10 F_index_t2 F_owner_t2 F_layout_t2 F_pairs_t2 F_depth_t2 F_start_t2 ge_t2 rfl rfl) hZ (hw _ (List.mem_of_getElem? (i := 24) rfl)) (hw _ (List.mem_of_getElem? (i := 21) rfl)) (by decide) (by decide)) (g := (mkF m 34 #[.val (.int q0), .val (.int q1), .val (.int q2), .val (.int q3), .val (.ref p), .val (.ref t1), .unset, .unset, .unset, .unset, .unset] [(.int (1 : Int32)), (.int (1 : Int32)), (.int (1 : Int32)), .null, .null, (.int q1), (.ref t2), (.ref t2)])) rfl (by rw [hml]; rfl) (Steps.refl _) (a := t2) (argsL := [(.int q1), .null, .null, (.int (1 : Int32)), (.int (1 : Int32)), (.int (1 : Int32))]) (rest := [(.ref t2)]) (lenOf pd_173 rfl) rfl (by show 2 * 0 + _ ≤ _; exact Nat.le_of_eq rfl) (hb hby at_34) (fun _ _ => ⟨rfl, e10, (by decide : 7 + 0 ≤ _), (by decide : 81 + 0 ≤ _)⟩)
  dsimp only [Pt.U, Pt.locs, Pt.cells, Pt.slots] at X25 l25 y25 z25 st25 hQ25
  subst l25 y25 z25
  obtain ⟨rfl, N25q, K25, Q25_0, Q25_1⟩ := hQ25
  have N25 := Fr.app N9 N25q
  refine Go.to st25 ?_
  show Go _ _ _ _ T25 (mkF m 37 #[.val (.int q0), .val (.int q1), .val (.int q2), .val (.int q3), .val (.ref p), .val (.ref t1), .unset, .unset, .unset, .unset, .unset] [(.ref t2)])
  refine Go.by (fun _ gk => XS.astore X25.here hx rfl (hb hby at_37) rfl rfl (l' := #[.val (.int q0), .val (.int q1), .val (.int q2), .val (.int q3), .val (.ref p), .val (.ref t1), .val (.ref t2), .unset, .unset, .unset, .unset]) rfl gk) ?_
  show Go _ _ _ _ T25 (mkF m 39 #[.val (.int q0), .val (.int q1), .val (.int q2), .val (.int q3), .val (.ref p), .val (.ref t1), .val (.ref t2), .unset, .unset, .unset, .unset] [])
  have F27 : n0 ≤ T25.heap.size := Nat.le_trans F24 K25.1
  obtain ⟨n1, g26⟩ : ∃ z, z = T25.heap.size := ⟨_, rfl⟩
  have ge_n1 : n0 ≤ n1 := Nat.le_trans F27 (Nat.le_of_eq g26.symm)
  have F28 : Keep h0 h10 [] := F13.ext E10
  have F29 : Keep h0 T25.heap [] := F28.trans K25 (allS (Or.inr sz_t2) all0)
  have sz_n1 : h0.size ≤ n1 := Nat.le_trans F29.1 (Nat.le_of_eq g26.symm)
  have F30 : Arv Z h10 ab kk4_4 .int (16 : Int32) [(.int (0 : Int32)), (.int (0 : Int32)), (.int (0 : Int32)), (.int (0 : Int32)), (.int (0 : Int32)), (.int (0 : Int32)), (.int (0 : Int32)), (.int (0 : Int32)), (.int (0 : Int32)), (.int (0 : Int32)), (.int (0 : Int32)), (.int (0 : Int32)), (.int (0 : Int32)), (.int (0 : Int32)), (.int (0 : Int32)), (.int (0 : Int32))] (.int (0 : Int32)) := F15.ext E10
  have F31 : Arv Z T25.heap ab kk4_4 .int (16 : Int32) [(.int (0 : Int32)), (.int (0 : Int32)), (.int (0 : Int32)), (.int (0 : Int32)), (.int (0 : Int32)), (.int (0 : Int32)), (.int (0 : Int32)), (.int (0 : Int32)), (.int (0 : Int32)), (.int (0 : Int32)), (.int (0 : Int32)), (.int (0 : Int32)), (.int (0 : Int32)), (.int (0 : Int32)), (.int (0 : Int32)), (.int (0 : Int32))] (.int (0 : Int32)) := F30.keep K25 (ninS ne_ab_t2 nin0)
  have ne_ab_n1 : ab ≠ n1 := Nat.ne_of_lt (Nat.lt_of_lt_of_le F31.lt (Nat.le_of_eq g26.symm))
  have F32 : Arv Z h10 kb kk2_4 .int (16 : Int32) [(.int (0 : Int32)), (.int (0 : Int32)), (.int (0 : Int32)), (.int (0 : Int32)), (.int (0 : Int32)), (.int (0 : Int32)), (.int (0 : Int32)), (.int (0 : Int32)), (.int (0 : Int32)), (.int (0 : Int32)), (.int (0 : Int32)), (.int (0 : Int32)), (.int (0 : Int32)), (.int (0 : Int32)), (.int (0 : Int32)), (.int (0 : Int32))] (.int (0 : Int32)) := F17.ext E10
  have F33 : Arv Z T25.heap kb kk2_4 .int (16 : Int32) [(.int (0 : Int32)), (.int (0 : Int32)), (.int (0 : Int32)), (.int (0 : Int32)), (.int (0 : Int32)), (.int (0 : Int32)), (.int (0 : Int32)), (.int (0 : Int32)), (.int (0 : Int32)), (.int (0 : Int32)), (.int (0 : Int32)), (.int (0 : Int32)), (.int (0 : Int32)), (.int (0 : Int32)), (.int (0 : Int32)), (.int (0 : Int32))] (.int (0 : Int32)) := F32.keep K25 (ninS ne_kb_t2 nin0)
  have ne_kb_n1 : kb ≠ n1 := Nat.ne_of_lt (Nat.lt_of_lt_of_le F33.lt (Nat.le_of_eq g26.symm))
  have F34 : Exa Z h10 p "com/example/sessionkeep/sessionkeep/codec/ObjectStreamShape$Puts" := F19.ext E10
  have F35 : Exa Z T25.heap p "com/example/sessionkeep/sessionkeep/codec/ObjectStreamShape$Puts" := F34.keep K25
  have ne_p_n1 : p ≠ n1 := Nat.ne_of_lt (Nat.lt_of_lt_of_le F35.lt (Nat.le_of_eq g26.symm))
  have F36 : Exa Z h10 t1 "com/example/sessionkeep/sessionkeep/codec/ObjectStreamShape$Table" := Q9_0.ext E10
  have F37 : Exa Z T25.heap t1 "com/example/sessionkeep/sessionkeep/codec/ObjectStreamShape$Table" := F36.keep K25
  have ne_t1_n1 : t1 ≠ n1 := Nat.ne_of_lt (Nat.lt_of_lt_of_le F37.lt (Nat.le_of_eq g26.symm))
  have ne_t2_n1 : t2 ≠ n1 := Nat.ne_of_lt (Nat.lt_of_lt_of_le Q25_0.lt (Nat.le_of_eq g26.symm))
  have F38 : Arv Z h10 tb kk1_4 .int (16 : Int32) [(.int (0 : Int32)), (.int (0 : Int32)), (.int (0 : Int32)), (.int (0 : Int32)), (.int (0 : Int32)), (.int (0 : Int32)), (.int (0 : Int32)), (.int (0 : Int32)), (.int (0 : Int32)), (.int (0 : Int32)), (.int (0 : Int32)), (.int (0 : Int32)), (.int (0 : Int32)), (.int (0 : Int32)), (.int (0 : Int32)), (.int (0 : Int32))] (.int (0 : Int32)) := F21.ext E10
  have F39 : Arv Z T25.heap tb kk1_4 .int (16 : Int32) [(.int (0 : Int32)), (.int (0 : Int32)), (.int (0 : Int32)), (.int (0 : Int32)), (.int (0 : Int32)), (.int (0 : Int32)), (.int (0 : Int32)), (.int (0 : Int32)), (.int (0 : Int32)), (.int (0 : Int32)), (.int (0 : Int32)), (.int (0 : Int32)), (.int (0 : Int32)), (.int (0 : Int32)), (.int (0 : Int32)), (.int (0 : Int32))] (.int (0 : Int32)) := F38.keep K25 (ninS ne_tb_t2 nin0)
  have ne_tb_n1 : tb ≠ n1 := Nat.ne_of_lt (Nat.lt_of_lt_of_le F39.lt (Nat.le_of_eq g26.symm))
  have F40 : Arv Z h10 wb kk3_4 .long (16 : Int32) [(.long (0 : Int64)), (.long (0 : Int64)), (.long (0 : Int64)), (.long (0 : Int64)), (.long (0 : Int64)), (.long (0 : Int64)), (.long (0 : Int64)), (.long (0 : Int64)), (.long (0 : Int64)), (.long (0 : Int64)), (.long (0 : Int64)), (.long (0 : Int64)), (.long (0 : Int64)), (.long (0 : Int64)), (.long (0 : Int64)), (.long (0 : Int64))] (.long (0 : Int64)) := F23.ext E10
  have F41 : Arv Z T25.heap wb kk3_4 .long (16 : Int32) [(.long (0 : Int64)), (.long (0 : Int64)), (.long (0 : Int64)), (.long (0 : Int64)), (.long (0 : Int64)), (.long (0 : Int64)), (.long (0 : Int64)), (.long (0 : Int64)), (.long (0 : Int64)), (.long (0 : Int64)), (.long (0 : Int64)), (.long (0 : Int64)), (.long (0 : Int64)), (.long (0 : Int64)), (.long (0 : Int64)), (.long (0 : Int64))] (.long (0 : Int64)) := F40.keep K25 (ninS ne_wb_t2 nin0)
  have ne_wb_n1 : wb ≠ n1 := Nat.ne_of_lt (Nat.lt_of_lt_of_le F41.lt (Nat.le_of_eq g26.symm))
  obtain ⟨T26, h26, X26, e26, E26, A26, D26, -, st26⟩ := newO X25 hx hZ hown (hw _ (List.mem_of_getElem? (i := 38) rfl)) (hw _ (List.mem_of_getElem? (i := 39) rfl)) (hw _ (List.mem_of_getElem? (i := 40) rfl)) rfl (g := (mkF m 39 #[.val (.int q0), .val (.int q1), .val (.int q2), .val (.int q3), .val (.ref p), .val (.ref t1), .val (.ref t2), .unset, .unset, .unset, .unset] [])) rfl (hb hby at_39) (by decide) (by decide)
  rw [← g26] at A26 D26 st26
  have F_held_n1 : Fld Z h26 n1 "com/example/sessionkeep/sessionkeep/codec/ObjectStreamShape$Node" "held" "Ljava/util/List;" .null := D26 (Or.inl (hw _ (List.mem_of_getElem? (i := 52) rfl))) (ty := (.object "java/util/List")) (by decide)
  have F_size_n1 : Fld Z h26 n1 "com/example/sessionkeep/sessionkeep/codec/ObjectStreamShape$Node" "size" "J" (.long (0 : Int64)) := D26 (Or.inl (hw _ (List.mem_of_getElem? (i := 54) rfl))) (ty := .long) (by decide)
  have F_weight_n1 : Fld Z h26 n1 "com/example/sessionkeep/sessionkeep/codec/ObjectStreamShape$Node" "weight" "J" (.long (0 : Int64)) := D26 (Or.inl (hw _ (List.mem_of_getElem? (i := 56) rfl))) (ty := .long) (by decide)
  have F_ordinal_n1 : Fld Z h26 n1 "com/example/sessionkeep/sessionkeep/codec/ObjectStreamShape$Node" "ordinal" "I" (.int (0 : Int32)) := D26 (Or.inl (hw _ (List.mem_of_getElem? (i := 58) rfl))) (ty := .int) (by decide)
  have F_visit_n1 : Fld Z h26 n1 "com/example/sessionkeep/sessionkeep/codec/ObjectStreamShape$Node" "visit" "I" (.int (0 : Int32)) := D26 (Or.inl (hw _ (List.mem_of_getElem? (i := 60) rfl))) (ty := .int) (by decide)
  have F_jdk_n1 : Fld Z h26 n1 "com/example/sessionkeep/sessionkeep/codec/ObjectStreamShape$Node" "jdk" "Z" (.int (0 : Int32)) := D26 (Or.inr (hw _ (List.mem_of_getElem? (i := 62) rfl))) (ty := .boolean) (by decide)
  have F_array_n1 : Fld Z h26 n1 "com/example/sessionkeep/sessionkeep/codec/ObjectStreamShape$Node" "array" "Z" (.int (0 : Int32)) := D26 (Or.inr (hw _ (List.mem_of_getElem? (i := 64) rfl))) (ty := .boolean) (by decide)
  refine Go.by st26 ?_
  show Go _ _ _ _ T26 (mkF m 42 #[.val (.int q0), .val (.int q1), .val (.int q2), .val (.int q3), .val (.ref p), .val (.ref t1), .val (.ref t2), .unset, .unset, .unset, .unset] [(.ref n1)])
  refine Go.by (fun _ gk => XS.dup X26.here hx rfl (hb hby at_42) rfl rfl gk) ?_
  show Go _ _ _ _ T26 (mkF m 43 #[.val (.int q0), .val (.int q1), .val (.int q2), .val (.int q3), .val (.ref p), .val (.ref t1), .val (.ref t2), .unset, .unset, .unset, .unset] [(.ref n1), (.ref n1)])
  refine Go.by (fun _ gk => XT.iconstV X26.here hx rfl (0 : Int32) (hb hby at_43) (by decide) gk) ?_
  show Go _ _ _ _ T26 (mkF m 44 #[.val (.int q0), .val (.int q1), .val (.int q2), .val (.int q3), .val (.ref p), .val (.ref t1), .val (.ref t2), .unset, .unset, .unset, .unset] [(.int (0 : Int32)), (.ref n1), (.ref n1)])
  refine Go.by (fun _ gk => XT.iconstV X26.here hx rfl (0 : Int32) (hb hby at_44) (by decide) gk) ?_
  show Go _ _ _ _ T26 (mkF m 45 #[.val (.int q0), .val (.int q1), .val (.int q2), .val (.int q3), .val (.ref p), .val (.ref t1), .val (.ref t2), .unset, .unset, .unset, .unset] [(.int (0 : Int32)), (.int (0 : Int32)), (.ref n1), (.ref n1)])
  have F42 : Old Z n0 h1 := O0.ext E1
  have F43 : Old Z n0 T4.heap := F42.keep K4 (allS ge_p all0)
  have F44 : Old Z n0 h5 := F43.ext E5
  have F45 : Old Z n0 T9.heap := F44.keep K9 (allS ge_t1 all0)
  have F46 : Old Z n0 h10 := F45.ext E10
  have F47 : Old Z n0 T25.heap := F46.keep K25 (allS ge_t2 all0)
  have F48 : Old Z n0 h26 := F47.ext E26
  have F49 : n0 ≤ h26.size := Nat.le_trans F27 E26.1
  obtain ⟨_, _, ⟨T50, L50, k50, n50⟩, -, X50, ⟨Lc50, hQ50, l50, y50, z50⟩, st50⟩ := X26.specialBack hx (y := (⟨"com/example/sessionkeep/sessionkeep/codec/ObjectStreamShape$Node", "<init>", "(ZZ)V"⟩ : MethodName)) rfl hown (mvT hZ (hw _ (List.mem_of_getElem? (i := 41) rfl))) (mvT hZ (hw _ (List.mem_of_getElem? (i := 42) rfl))) (mvT hZ (hw _ (List.mem_of_getElem? (i := 43) rfl))) (by decide) (backOf (W := 1) (rmNode l Z a0 hw [] n1 (0 : Int32) (0 : Int32) el h26 n0 F49 F48 A26 F_held_n1 F_size_n1 F_weight_n1 F_ordinal_n1 F_visit_n1 F_jdk_n1 F_array_n1 ge_n1 rfl rfl rfl rfl S_el) hZ (hw _ (List.mem_of_getElem? (i := 43) rfl)) (hw _ (List.mem_of_getElem? (i := 40) rfl)) (by decide) (by decide)) (g := (mkF m 45 #[.val (.int q0), .val (.int q1), .val (.int q2), .val (.int q3), .val (.ref p), .val (.ref t1), .val (.ref t2), .unset, .unset, .unset, .unset] [(.int (0 : Int32)), (.int (0 : Int32)), (.ref n1), (.ref n1)])) rfl (by rw [hml]; rfl) (Steps.refl _) (a := n1) (argsL := [(.int (0 : Int32)), (.int (0 : Int32))]) (rest := [(.ref n1)]) (lenOf pd_174 rfl) rfl (by show 2 * 0 + _ ≤ _; exact Nat.le_of_eq rfl) (hb hby at_45) (fun _ _ => ⟨rfl, e26, (by decide : 8 + 0 ≤ _), (by decide : 89 + 0 ≤ _)⟩)
  dsimp only [Pt.U, Pt.locs, Pt.cells, Pt.slots] at X50 l50 y50 z50 st50 hQ50
  subst l50 y50 z50
  obtain ⟨rfl, N50q, K50, Q50_0, Q50_1, Q50_2, Q50_3, Q50_4, Q50_5⟩ := hQ50
  have N50 := Fr.app N25 N50q
  refine Go.to st50 ?_
  show Go _ _ _ _ T50 (mkF m 48 #[.val (.int q0), .val (.int q1), .val (.int q2), .val (.int q3), .val (.ref p), .val (.ref t1), .val (.ref t2), .unset, .unset, .unset, .unset] [(.ref n1)])
  refine Go.by (fun _ gk => XS.astore X50.here hx rfl (hb hby at_48) rfl rfl (l' := #[.val (.int q0), .val (.int q1), .val (.int q2), .val (.int q3), .val (.ref p), .val (.ref t1), .val (.ref t2), .val (.ref n1), .unset, .unset, .unset]) rfl gk) ?_
  show Go _ _ _ _ T50 (mkF m 50 #[.val (.int q0), .val (.int q1), .val (.int q2), .val (.int q3), .val (.ref p), .val (.ref t1), .val (.ref t2), .val (.ref n1), .unset, .unset, .unset] [])
  have F52 : n0 ≤ T50.heap.size := Nat.le_trans F49 K50.1
  obtain ⟨n2, g51⟩ : ∃ z, z = T50.heap.size := ⟨_, rfl⟩
  have ge_n2 : n0 ≤ n2 := Nat.le_trans F52 (Nat.le_of_eq g51.symm)
  have F53 : Keep h0 h26 [] := F29.ext E26
  have F54 : Keep h0 T50.heap [] := F53.trans K50 (allS (Or.inr sz_n1) all0)
  have sz_n2 : h0.size ≤ n2 := Nat.le_trans F54.1 (Nat.le_of_eq g51.symm)
  have F55 : Arv Z h26 ab kk4_4 .int (16 : Int32) [(.int (0 : Int32)), (.int (0 : Int32)), (.int (0 : Int32)), (.int (0 : Int32)), (.int (0 : Int32)), (.int (0 : Int32)), (.int (0 : Int32)), (.int (0 : Int32)), (.int (0 : Int32)), (.int (0 : Int32)), (.int (0 : Int32)), (.int (0 : Int32)), (.int (0 : Int32)), (.int (0 : Int32)), (.int (0 : Int32)), (.int (0 : Int32))] (.int (0 : Int32)) := F31.ext E26
  have F56 : Arv Z T50.heap ab kk4_4 .int (16 : Int32) [(.int (0 : Int32)), (.int (0 : Int32)), (.int (0 : Int32)), (.int (0 : Int32)), (.int (0 : Int32)), (.int (0 : Int32)), (.int (0 : Int32)), (.int (0 : Int32)), (.int (0 : Int32)), (.int (0 : Int32)), (.int (0 : Int32)), (.int (0 : Int32)), (.int (0 : Int32)), (.int (0 : Int32)), (.int (0 : Int32)), (.int (0 : Int32))] (.int (0 : Int32)) := F55.keep K50 (ninS ne_ab_n1 nin0)
  have ne_ab_n2 : ab ≠ n2 := Nat.ne_of_lt (Nat.lt_of_lt_of_le F56.lt (Nat.le_of_eq g51.symm))
  have F57 : Arv Z h26 kb kk2_4 .int (16 : Int32) [(.int (0 : Int32)), (.int (0 : Int32)), (.int (0 : Int32)), (.int (0 : Int32)), (.int (0 : Int32)), (.int (0 : Int32)), (.int (0 : Int32)), (.int (0 : Int32)), (.int (0 : Int32)), (.int (0 : Int32)), (.int (0 : Int32)), (.int (0 : Int32)), (.int (0 : Int32)), (.int (0 : Int32)), (.int (0 : Int32)), (.int (0 : Int32))] (.int (0 : Int32)) := F33.ext E26
  have F58 : Arv Z T50.heap kb kk2_4 .int (16 : Int32) [(.int (0 : Int32)), (.int (0 : Int32)), (.int (0 : Int32)), (.int (0 : Int32)), (.int (0 : Int32)), (.int (0 : Int32)), (.int (0 : Int32)), (.int (0 : Int32)), (.int (0 : Int32)), (.int (0 : Int32)), (.int (0 : Int32)), (.int (0 : Int32)), (.int (0 : Int32)), (.int (0 : Int32)), (.int (0 : Int32)), (.int (0 : Int32))] (.int (0 : Int32)) := F57.keep K50 (ninS ne_kb_n1 nin0)
  have ne_kb_n2 : kb ≠ n2 := Nat.ne_of_lt (Nat.lt_of_lt_of_le F58.lt (Nat.le_of_eq g51.symm))
  have ne_n1_n2 : n1 ≠ n2 := Nat.ne_of_lt (Nat.lt_of_lt_of_le Q50_0.lt (Nat.le_of_eq g51.symm))
  have F59 : Exa Z h26 p "com/example/sessionkeep/sessionkeep/codec/ObjectStreamShape$Puts" := F35.ext E26
  have F60 : Exa Z T50.heap p "com/example/sessionkeep/sessionkeep/codec/ObjectStreamShape$Puts" := F59.keep K50
  have ne_p_n2 : p ≠ n2 := Nat.ne_of_lt (Nat.lt_of_lt_of_le F60.lt (Nat.le_of_eq g51.symm))
  have F61 : Exa Z h26 t1 "com/example/sessionkeep/sessionkeep/codec/ObjectStreamShape$Table" := F37.ext E26
  have F62 : Exa Z T50.heap t1 "com/example/sessionkeep/sessionkeep/codec/ObjectStreamShape$Table" := F61.keep K50
  have ne_t1_n2 : t1 ≠ n2 := Nat.ne_of_lt (Nat.lt_of_lt_of_le F62.lt (Nat.le_of_eq g51.symm))
  have F63 : Exa Z h26 t2 "com/example/sessionkeep/sessionkeep/codec/ObjectStreamShape$Table" := Q25_0.ext E26
  have F64 : Exa Z T50.heap t2 "com/example/sessionkeep/sessionkeep/codec/ObjectStreamShape$Table" := F63.keep K50
  have ne_t2_n2 : t2 ≠ n2 := Nat.ne_of_lt (Nat.lt_of_lt_of_le F64.lt (Nat.le_of_eq g51.symm))
  have F65 : Arv Z h26 tb kk1_4 .int (16 : Int32) [(.int (0 : Int32)), (.int (0 : Int32)), (.int (0 : Int32)), (.int (0 : Int32)), (.int (0 : Int32)), (.int (0 : Int32)), (.int (0 : Int32)), (.int (0 : Int32)), (.int (0 : Int32)), (.int (0 : Int32)), (.int (0 : Int32)), (.int (0 : Int32)), (.int (0 : Int32)), (.int (0 : Int32)), (.int (0 : Int32)), (.int (0 : Int32))] (.int (0 : Int32)) := F39.ext E26
  have F66 : Arv Z T50.heap tb kk1_4 .int (16 : Int32) [(.int (0 : Int32)), (.int (0 : Int32)), (.int (0 : Int32)), (.int (0 : Int32)), (.int (0 : Int32)), (.int (0 : Int32)), (.int (0 : Int32)), (.int (0 : Int32)), (.int (0 : Int32)), (.int (0 : Int32)), (.int (0 : Int32)), (.int (0 : Int32)), (.int (0 : Int32)), (.int (0 : Int32)), (.int (0 : Int32)), (.int (0 : Int32))] (.int (0 : Int32)) := F65.keep K50 (ninS ne_tb_n1 nin0)
  have ne_tb_n2 : tb ≠ n2 := Nat.ne_of_lt (Nat.lt_of_lt_of_le F66.lt (Nat.le_of_eq g51.symm))
  have F67 : Arv Z h26 wb kk3_4 .long (16 : Int32) [(.long (0 : Int64)), (.long (0 : Int64)), (.long (0 : Int64)), (.long (0 : Int64)), (.long (0 : Int64)), (.long (0 : Int64)), (.long (0 : Int64)), (.long (0 : Int64)), (.long (0 : Int64)), (.long (0 : Int64)), (.long (0 : Int64)), (.long (0 : Int64)), (.long (0 : Int64)), (.long (0 : Int64)), (.long (0 : Int64)), (.long (0 : Int64))] (.long (0 : Int64)) := F41.ext E26
  have F68 : Arv Z T50.heap wb kk3_4 .long (16 : Int32) [(.long (0 : Int64)), (.long (0 : Int64)), (.long (0 : Int64)), (.long (0 : Int64)), (.long (0 : Int64)), (.long (0 : Int64)), (.long (0 : Int64)), (.long (0 : Int64)), (.long (0 : Int64)), (.long (0 : Int64)), (.long (0 : Int64)), (.long (0 : Int64)), (.long (0 : Int64)), (.long (0 : Int64)), (.long (0 : Int64)), (.long (0 : Int64))] (.long (0 : Int64)) := F67.keep K50 (ninS ne_wb_n1 nin0)
  have ne_wb_n2 : wb ≠ n2 := Nat.ne_of_lt (Nat.lt_of_lt_of_le F68.lt (Nat.le_of_eq g51.symm))
  obtain ⟨T51, h51, X51, e51, E51, A51, D51, -, st51⟩ := newO X50 hx hZ hown (hw _ (List.mem_of_getElem? (i := 38) rfl)) (hw _ (List.mem_of_getElem? (i := 39) rfl)) (hw _ (List.mem_of_getElem? (i := 40) rfl)) rfl (g := (mkF m 50 #[.val (.int q0), .val (.int q1), .val (.int q2), .val (.int q3), .val (.ref p), .val (.ref t1), .val (.ref t2), .val (.ref n1), .unset, .unset, .unset] [])) rfl (hb hby at_50) (by decide) (by decide)
  rw [← g51] at A51 D51 st51
  have F_held_n2 : Fld Z h51 n2 "com/example/sessionkeep/sessionkeep/codec/ObjectStreamShape$Node" "held" "Ljava/util/List;" .null := D51 (Or.inl (hw _ (List.mem_of_getElem? (i := 52) rfl))) (ty := (.object "java/util/List")) (by decide)
  have F_size_n2 : Fld Z h51 n2 "com/example/sessionkeep/sessionkeep/codec/ObjectStreamShape$Node" "size" "J" (.long (0 : Int64)) := D51 (Or.inl (hw _ (List.mem_of_getElem? (i := 54) rfl))) (ty := .long) (by decide)
  have F_weight_n2 : Fld Z h51 n2 "com/example/sessionkeep/sessionkeep/codec/ObjectStreamShape$Node" "weight" "J" (.long (0 : Int64)) := D51 (Or.inl (hw _ (List.mem_of_getElem? (i := 56) rfl))) (ty := .long) (by decide)
  have F_ordinal_n2 : Fld Z h51 n2 "com/example/sessionkeep/sessionkeep/codec/ObjectStreamShape$Node" "ordinal" "I" (.int (0 : Int32)) := D51 (Or.inl (hw _ (List.mem_of_getElem? (i := 58) rfl))) (ty := .int) (by decide)
  have F_visit_n2 : Fld Z h51 n2 "com/example/sessionkeep/sessionkeep/codec/ObjectStreamShape$Node" "visit" "I" (.int (0 : Int32)) := D51 (Or.inl (hw _ (List.mem_of_getElem? (i := 60) rfl))) (ty := .int) (by decide)
  have F_jdk_n2 : Fld Z h51 n2 "com/example/sessionkeep/sessionkeep/codec/ObjectStreamShape$Node" "jdk" "Z" (.int (0 : Int32)) := D51 (Or.inr (hw _ (List.mem_of_getElem? (i := 62) rfl))) (ty := .boolean) (by decide)
  have F_array_n2 : Fld Z h51 n2 "com/example/sessionkeep/sessionkeep/codec/ObjectStreamShape$Node" "array" "Z" (.int (0 : Int32)) := D51 (Or.inr (hw _ (List.mem_of_getElem? (i := 64) rfl))) (ty := .boolean) (by decide)
  refine Go.by st51 ?_
  show Go _ _ _ _ T51 (mkF m 53 #[.val (.int q0), .val (.int q1), .val (.int q2), .val (.int q3), .val (.ref p), .val (.ref t1), .val (.ref t2), .val (.ref n1), .unset, .unset, .unset] [(.ref n2)])
  refine Go.by (fun _ gk => XS.dup X51.here hx rfl (hb hby at_53) rfl rfl gk) ?_
  show Go _ _ _ _ T51 (mkF m 54 #[.val (.int q0), .val (.int q1), .val (.int q2), .val (.int q3), .val (.ref p), .val (.ref t1), .val (.ref t2), .val (.ref n1), .unset, .unset, .unset] [(.ref n2), (.ref n2)])
  refine Go.by (fun _ gk => XT.iconstV X51.here hx rfl (1 : Int32) (hb hby at_54) (by decide) gk) ?_
  show Go _ _ _ _ T51 (mkF m 55 #[.val (.int q0), .val (.int q1), .val (.int q2), .val (.int q3), .val (.ref p), .val (.ref t1), .val (.ref t2), .val (.ref n1), .unset, .unset, .unset] [(.int (1 : Int32)), (.ref n2), (.ref n2)])
  refine Go.by (fun _ gk => XT.iconstV X51.here hx rfl (0 : Int32) (hb hby at_55) (by decide) gk) ?_
  show Go _ _ _ _ T51 (mkF m 56 #[.val (.int q0), .val (.int q1), .val (.int q2), .val (.int q3), .val (.ref p), .val (.ref t1), .val (.ref t2), .val (.ref n1), .unset, .unset, .unset] [(.int (0 : Int32)), (.int (1 : Int32)), (.ref n2), (.ref n2)])
  have F69 : Old Z n0 T50.heap := F48.keep K50 (allS ge_n1 all0)
  have F70 : Old Z n0 h51 := F69.ext E51
  have F71 : n0 ≤ h51.size := Nat.le_trans F52 E51.1
  obtain ⟨_, _, ⟨T72, L72, k72, n72⟩, -, X72, ⟨Lc72, hQ72, l72, y72, z72⟩, st72⟩ := X51.specialBack hx (y := (⟨"com/example/sessionkeep/sessionkeep/codec/ObjectStreamShape$Node", "<init>", "(ZZ)V"⟩ : MethodName)) rfl hown (mvT hZ (hw _ (List.mem_of_getElem? (i := 41) rfl))) (mvT hZ (hw _ (List.mem_of_getElem? (i := 42) rfl))) (mvT hZ (hw _ (List.mem_of_getElem? (i := 43) rfl))) (by decide) (backOf (W := 1) (rmNode l Z a0 hw [] n2 (1 : Int32) (0 : Int32) el h51 n0 F71 F70 A51 F_held_n2 F_size_n2 F_weight_n2 F_ordinal_n2 F_visit_n2 F_jdk_n2 F_array_n2 ge_n2 rfl rfl rfl rfl S_el) hZ (hw _ (List.mem_of_getElem? (i := 43) rfl)) (hw _ (List.mem_of_getElem? (i := 40) rfl)) (by decide) (by decide)) (g := (mkF m 56 #[.val (.int q0), .val (.int q1), .val (.int q2), .val (.int q3), .val (.ref p), .val (.ref t1), .val (.ref t2), .val (.ref n1), .unset, .unset, .unset] [(.int (0 : Int32)), (.int (1 : Int32)), (.ref n2), (.ref n2)])) rfl (by rw [hml]; rfl) (Steps.refl _) (a := n2) (argsL := [(.int (1 : Int32)), (.int (0 : Int32))]) (rest := [(.ref n2)]) (lenOf pd_174 rfl) rfl (by show 2 * 0 + _ ≤ _; exact Nat.le_of_eq rfl) (hb hby at_56) (fun _ _ => ⟨rfl, e51, (by decide : 9 + 0 ≤ _), (by decide : 97 + 0 ≤ _)⟩)
  dsimp only [Pt.U, Pt.locs, Pt.cells, Pt.slots] at X72 l72 y72 z72 st72 hQ72
  subst l72 y72 z72
  obtain ⟨rfl, N72q, K72, Q72_0, Q72_1, Q72_2, Q72_3, Q72_4, Q72_5⟩ := hQ72
  have N72 := Fr.app N50 N72q
  refine Go.to st72 ?_
  show Go _ _ _ _ T72 (mkF m 59 #[.val (.int q0), .val (.int q1), .val (.int q2), .val (.int q3), .val (.ref p), .val (.ref t1), .val (.ref t2), .val (.ref n1), .unset, .unset, .unset] [(.ref n2)])
  refine Go.by (fun _ gk => XS.astore X72.here hx rfl (hb hby at_59) rfl rfl (l' := #[.val (.int q0), .val (.int q1), .val (.int q2), .val (.int q3), .val (.ref p), .val (.ref t1), .val (.ref t2), .val (.ref n1), .val (.ref n2), .unset, .unset]) rfl gk) ?_
  show Go _ _ _ _ T72 (mkF m 61 #[.val (.int q0), .val (.int q1), .val (.int q2), .val (.int q3), .val (.ref p), .val (.ref t1), .val (.ref t2), .val (.ref n1), .val (.ref n2), .unset, .unset] [])
  refine Go.by (fun _ gk => XS.aload X72.here hx rfl (hb hby at_61) rfl rfl gk) ?_
  show Go _ _ _ _ T72 (mkF m 63 #[.val (.int q0), .val (.int q1), .val (.int q2), .val (.int q3), .val (.ref p), .val (.ref t1), .val (.ref t2), .val (.ref n1), .val (.ref n2), .unset, .unset] [(.ref n2)])
  refine Go.by (fun _ gk => XS.aload X72.here hx rfl (hb hby at_63) rfl rfl gk) ?_
  show Go _ _ _ _ T72 (mkF m 65 #[.val (.int q0), .val (.int q1), .val (.int q2), .val (.int q3), .val (.ref p), .val (.ref t1), .val (.ref t2), .val (.ref n1), .val (.ref n2), .unset, .unset] [(.ref n1), (.ref n2)])
  refine Go.by (fun _ gk => XT.iconstV X72.here hx rfl (0 : Int32) (hb hby at_65) (by decide) gk) ?_
  show Go _ _ _ _ T72 (mkF m 66 #[.val (.int q0), .val (.int q1), .val (.int q2), .val (.int q3), .val (.ref p), .val (.ref t1), .val (.ref t2), .val (.ref n1), .val (.ref n2), .unset, .unset] [(.int (0 : Int32)), (.ref n1), (.ref n2)])
  have F73 : Fld Z h51 n1 "com/example/sessionkeep/sessionkeep/codec/ObjectStreamShape$Node" "size" "J" (.long (1 : Int64)) := Q50_1.ext E51
  have F74 : Fld Z T72.heap n1 "com/example/sessionkeep/sessionkeep/codec/ObjectStreamShape$Node" "size" "J" (.long (1 : Int64)) := F73.keep K72 (ninS ne_n1_n2 nin0)
  have F75 : Fld Z h51 n1 "com/example/sessionkeep/sessionkeep/codec/ObjectStreamShape$Node" "weight" "J" (.long (1 : Int64)) := Q50_2.ext E51
  have F76 : Fld Z T72.heap n1 "com/example/sessionkeep/sessionkeep/codec/ObjectStreamShape$Node" "weight" "J" (.long (1 : Int64)) := F75.keep K72 (ninS ne_n1_n2 nin0)
  have F77 : Fld Z h51 n1 "com/example/sessionkeep/sessionkeep/codec/ObjectStreamShape$Node" "jdk" "Z" (.int (0 : Int32)) := Q50_4.ext E51
  have F78 : Fld Z T72.heap n1 "com/example/sessionkeep/sessionkeep/codec/ObjectStreamShape$Node" "jdk" "Z" (.int (0 : Int32)) := F77.keep K72 (ninS ne_n1_n2 nin0)
  have F79 : Fld Z h51 n1 "com/example/sessionkeep/sessionkeep/codec/ObjectStreamShape$Node" "array" "Z" (.int (0 : Int32)) := Q50_5.ext E51
  have F80 : Fld Z T72.heap n1 "com/example/sessionkeep/sessionkeep/codec/ObjectStreamShape$Node" "array" "Z" (.int (0 : Int32)) := F79.keep K72 (ninS ne_n1_n2 nin0)
  have F81 : n0 ≤ T72.heap.size := Nat.le_trans F71 K72.1
  obtain ⟨cq82, kq82, q82a, q82b, q82c⟩ := isOf hZ rfl Q72_0
  obtain ⟨_, _, ⟨T82, L82, k82, n82⟩, -, X82, ⟨Lc82, hQ82, l82, y82, z82⟩, st82⟩ := X72.virtualBack hx (y := (⟨"com/example/sessionkeep/sessionkeep/codec/ObjectStreamShape$Node", "hold", "(Lcom/example/sessionkeep/sessionkeep/codec/ObjectStreamShape$Node;Z)V"⟩ : MethodName)) (z := (⟨"com/example/sessionkeep/sessionkeep/codec/ObjectStreamShape$Node", "hold", "(Lcom/example/sessionkeep/sessionkeep/codec/ObjectStreamShape$Node;Z)V"⟩ : MethodName)) hown (mvT hZ (hw _ (List.mem_of_getElem? (i := 65) rfl))) (mvT hZ (hw _ (List.mem_of_getElem? (i := 66) rfl))) (notFace_of_selects (args := #[]) (mvT hZ (hw _ (List.mem_of_getElem? (i := 68) rfl)))) (mvT hZ (hw _ (List.mem_of_getElem? (i := 68) rfl))) (mvT hZ (hw _ (List.mem_of_getElem? (i := 67) rfl))) (by decide) (backOf (W := 0) (rmHold l Z a0 hw [] n2 n1 (0 : Int32) (1 : Int64) (1 : Int64) (1 : Int64) (1 : Int64) (-1 : Int32) T72.heap n0 F81 Q72_0 Q72_1 Q72_2 Q72_3 F74 F76 F78 F80 ge_n2 ne_n1_n2) hZ (hw _ (List.mem_of_getElem? (i := 69) rfl)) (hw _ (List.mem_of_getElem? (i := 40) rfl)) (by decide) (by decide)) q82a q82c (g := (mkF m 66 #[.val (.int q0), .val (.int q1), .val (.int q2), .val (.int q3), .val (.ref p), .val (.ref t1), .val (.ref t2), .val (.ref n1), .val (.ref n2), .unset, .unset] [(.int (0 : Int32)), (.ref n1), (.ref n2)])) rfl (by rw [hml]; rfl) (Steps.refl _) (argsL := [(.ref n1), (.int (0 : Int32))]) (rest := []) (lenOf pd_175 rfl) rfl (by show 2 * 0 + _ ≤ _; exact Nat.le_of_eq rfl) (hb hby at_66) (fun _ _ => ⟨rfl, rfl, (by decide : 9 + 0 ≤ _), (by decide : 97 + 0 ≤ _)⟩)
  dsimp only [Pt.U, Pt.locs, Pt.cells, Pt.slots] at X82 l82 y82 z82 st82 hQ82
  subst l82 y82 z82
  obtain ⟨rfl, N82q, K82, Q82_0, Q82_1, Q82_2⟩ := hQ82
  have N82 := Fr.app N72 N82q
  refine Go.to st82 ?_
  show Go _ _ _ _ T82 (mkF m 69 #[.val (.int q0), .val (.int q1), .val (.int q2), .val (.int q3), .val (.ref p), .val (.ref t1), .val (.ref t2), .val (.ref n1), .val (.ref n2), .unset, .unset] [])
  refine Go.by (fun _ gk => XS.aload X82.here hx rfl (hb hby at_69) rfl rfl gk) ?_
  show Go _ _ _ _ T82 (mkF m 71 #[.val (.int q0), .val (.int q1), .val (.int q2), .val (.int q3), .val (.ref p), .val (.ref t1), .val (.ref t2), .val (.ref n1), .val (.ref n2), .unset, .unset] [(.ref p)])
  have F83 : Fld Z h5 p "com/example/sessionkeep/sessionkeep/codec/ObjectStreamShape$Puts" "size" "I" (.int (0 : Int32)) := Q4_5.ext E5
  have F84 : Fld Z T9.heap p "com/example/sessionkeep/sessionkeep/codec/ObjectStreamShape$Puts" "size" "I" (.int (0 : Int32)) := F83.keep K9 (ninS ne_p_t1 nin0)
  have F85 : Fld Z h10 p "com/example/sessionkeep/sessionkeep/codec/ObjectStreamShape$Puts" "size" "I" (.int (0 : Int32)) := F84.ext E10
  have F86 : Fld Z T25.heap p "com/example/sessionkeep/sessionkeep/codec/ObjectStreamShape$Puts" "size" "I" (.int (0 : Int32)) := F85.keep K25 (ninS ne_p_t2 nin0)
  have F87 : Fld Z h26 p "com/example/sessionkeep/sessionkeep/codec/ObjectStreamShape$Puts" "size" "I" (.int (0 : Int32)) := F86.ext E26
  have F88 : Fld Z T50.heap p "com/example/sessionkeep/sessionkeep/codec/ObjectStreamShape$Puts" "size" "I" (.int (0 : Int32)) := F87.keep K50 (ninS ne_p_n1 nin0)
  have F89 : Fld Z h51 p "com/example/sessionkeep/sessionkeep/codec/ObjectStreamShape$Puts" "size" "I" (.int (0 : Int32)) := F88.ext E51
  have F90 : Fld Z T72.heap p "com/example/sessionkeep/sessionkeep/codec/ObjectStreamShape$Puts" "size" "I" (.int (0 : Int32)) := F89.keep K72 (ninS ne_p_n2 nin0)
  have F91 : Fld Z T82.heap p "com/example/sessionkeep/sessionkeep/codec/ObjectStreamShape$Puts" "size" "I" (.int (0 : Int32)) := F90.keep K82 (ninS ne_p_n2 nin0)
  have F92 : n0 ≤ T82.heap.size := Nat.le_trans F81 K82.1
  have F94 : Exa Z h51 p "com/example/sessionkeep/sessionkeep/codec/ObjectStreamShape$Puts" := F60.ext E51
  have F95 : Exa Z T72.heap p "com/example/sessionkeep/sessionkeep/codec/ObjectStreamShape$Puts" := F94.keep K72
  have F96 : Exa Z T82.heap p "com/example/sessionkeep/sessionkeep/codec/ObjectStreamShape$Puts" := F95.keep K82
  obtain ⟨cq93, kq93, q93a, q93b, q93c⟩ := isOf hZ rfl F96
  obtain ⟨_, _, ⟨T93, L93, k93, n93⟩, -, X93, ⟨Lc93, hQ93, l93, y93, z93⟩, st93⟩ := X82.virtualBack hx (y := (⟨"com/example/sessionkeep/sessionkeep/codec/ObjectStreamShape$Puts", "size", "()I"⟩ : MethodName)) (z := (⟨"com/example/sessionkeep/sessionkeep/codec/ObjectStreamShape$Puts", "size", "()I"⟩ : MethodName)) hown (mvT hZ (hw _ (List.mem_of_getElem? (i := 70) rfl))) (mvT hZ (hw _ (List.mem_of_getElem? (i := 71) rfl))) (notFace_of_selects (args := #[]) (mvT hZ (hw _ (List.mem_of_getElem? (i := 73) rfl)))) (mvT hZ (hw _ (List.mem_of_getElem? (i := 73) rfl))) (mvT hZ (hw _ (List.mem_of_getElem? (i := 72) rfl))) (by decide) (backOf (W := 0) (rmSize l Z a0 hw [] p (0 : Int32) T82.heap n0 F92 F91) hZ (hw _ (List.mem_of_getElem? (i := 74) rfl)) (hw _ (List.mem_of_getElem? (i := 2) rfl)) (by decide) (by decide)) q93a q93c (g := (mkF m 71 #[.val (.int q0), .val (.int q1), .val (.int q2), .val (.int q3), .val (.ref p), .val (.ref t1), .val (.ref t2), .val (.ref n1), .val (.ref n2), .unset, .unset] [(.ref p)])) rfl (by rw [hml]; rfl) (Steps.refl _) (argsL := []) (rest := []) (lenOf pd_140 rfl) rfl (by show 2 * 0 + _ ≤ _; exact Nat.le_of_eq rfl) (hb hby at_71) (fun _ _ => ⟨rfl, rfl, (by decide : 9 + 0 ≤ _), (by decide : 97 + 0 ≤ _)⟩)
  dsimp only [Pt.U, Pt.locs, Pt.cells, Pt.slots] at X93 l93 y93 z93 st93 hQ93
  subst l93 y93 z93
  obtain ⟨rfl, N93q, e93⟩ := hQ93
  have N93 := Fr.app N82 N93q
  refine Go.to st93 ?_
  show Go _ _ _ _ T93 (mkF m 74 #[.val (.int q0), .val (.int q1), .val (.int q2), .val (.int q3), .val (.ref p), .val (.ref t1), .val (.ref t2), .val (.ref n1), .val (.ref n2), .unset, .unset] [(.int (0 : Int32))])
  refine Go.by (fun _ gk => XS.ifYes X93.here hx rfl (pc0 := 74) (pc' := 79) rfl (hb hby at_74) rfl (XT.i0_eq_t rfl) (by decide) (by decide) gk) ?_
  show Go _ _ _ _ T93 (mkF m 79 #[.val (.int q0), .val (.int q1), .val (.int q2), .val (.int q3), .val (.ref p), .val (.ref t1), .val (.ref t2), .val (.ref n1), .val (.ref n2), .unset, .unset] [])
  refine Go.by (fun _ gk => XS.aload X93.here hx rfl (hb hby at_79) rfl rfl gk) ?_
  show Go _ _ _ _ T93 (mkF m 81 #[.val (.int q0), .val (.int q1), .val (.int q2), .val (.int q3), .val (.ref p), .val (.ref t1), .val (.ref t2), .val (.ref n1), .val (.ref n2), .unset, .unset] [(.ref p)])
  refine Go.by (fun _ gk => XS.aload X93.here hx rfl (hb hby at_81) rfl rfl gk) ?_
  show Go _ _ _ _ T93 (mkF m 83 #[.val (.int q0), .val (.int q1), .val (.int q2), .val (.int q3), .val (.ref p), .val (.ref t1), .val (.ref t2), .val (.ref n1), .val (.ref n2), .unset, .unset] [(.ref t1), (.ref p)])
  refine Go.by (fun _ gk => XS.aload X93.here hx rfl (hb hby at_83) rfl rfl gk) ?_
  show Go _ _ _ _ T93 (mkF m 85 #[.val (.int q0), .val (.int q1), .val (.int q2), .val (.int q3), .val (.ref p), .val (.ref t1), .val (.ref t2), .val (.ref n1), .val (.ref n2), .unset, .unset] [(.ref n1), (.ref t1), (.ref p)])
  refine Go.by (fun _ gk => XS.iloadN X93.here hx rfl (hb hby at_85) rfl gk) ?_
  show Go _ _ _ _ T93 (mkF m 86 #[.val (.int q0), .val (.int q1), .val (.int q2), .val (.int q3), .val (.ref p), .val (.ref t1), .val (.ref t2), .val (.ref n1), .val (.ref n2), .unset, .unset] [(.int q2), (.ref n1), (.ref t1), (.ref p)])
  have F97 : Fld Z h5 p "com/example/sessionkeep/sessionkeep/codec/ObjectStreamShape$Puts" "tables" "[I" (.ref tb) := Q4_1.ext E5
  have F98 : Fld Z T9.heap p "com/example/sessionkeep/sessionkeep/codec/ObjectStreamShape$Puts" "tables" "[I" (.ref tb) := F97.keep K9 (ninS ne_p_t1 nin0)
  have F99 : Fld Z h10 p "com/example/sessionkeep/sessionkeep/codec/ObjectStreamShape$Puts" "tables" "[I" (.ref tb) := F98.ext E10
  have F100 : Fld Z T25.heap p "com/example/sessionkeep/sessionkeep/codec/ObjectStreamShape$Puts" "tables" "[I" (.ref tb) := F99.keep K25 (ninS ne_p_t2 nin0)
  have F101 : Fld Z h26 p "com/example/sessionkeep/sessionkeep/codec/ObjectStreamShape$Puts" "tables" "[I" (.ref tb) := F100.ext E26
  have F102 : Fld Z T50.heap p "com/example/sessionkeep/sessionkeep/codec/ObjectStreamShape$Puts" "tables" "[I" (.ref tb) := F101.keep K50 (ninS ne_p_n1 nin0)
  have F103 : Fld Z h51 p "com/example/sessionkeep/sessionkeep/codec/ObjectStreamShape$Puts" "tables" "[I" (.ref tb) := F102.ext E51
  have F104 : Fld Z T72.heap p "com/example/sessionkeep/sessionkeep/codec/ObjectStreamShape$Puts" "tables" "[I" (.ref tb) := F103.keep K72 (ninS ne_p_n2 nin0)
  have F105 : Fld Z T82.heap p "com/example/sessionkeep/sessionkeep/codec/ObjectStreamShape$Puts" "tables" "[I" (.ref tb) := F104.keep K82 (ninS ne_p_n2 nin0)
  have F106 : Fld Z h5 p "com/example/sessionkeep/sessionkeep/codec/ObjectStreamShape$Puts" "keys" "[I" (.ref kb) := Q4_2.ext E5
  have F107 : Fld Z T9.heap p "com/example/sessionkeep/sessionkeep/codec/ObjectStreamShape$Puts" "keys" "[I" (.ref kb) := F106.keep K9 (ninS ne_p_t1 nin0)
  have F108 : Fld Z h10 p "com/example/sessionkeep/sessionkeep/codec/ObjectStreamShape$Puts" "keys" "[I" (.ref kb) := F107.ext E10
  have F109 : Fld Z T25.heap p "com/example/sessionkeep/sessionkeep/codec/ObjectStreamShape$Puts" "keys" "[I" (.ref kb) := F108.keep K25 (ninS ne_p_t2 nin0)
  have F110 : Fld Z h26 p "com/example/sessionkeep/sessionkeep/codec/ObjectStreamShape$Puts" "keys" "[I" (.ref kb) := F109.ext E26
  have F111 : Fld Z T50.heap p "com/example/sessionkeep/sessionkeep/codec/ObjectStreamShape$Puts" "keys" "[I" (.ref kb) := F110.keep K50 (ninS ne_p_n1 nin0)
  have F112 : Fld Z h51 p "com/example/sessionkeep/sessionkeep/codec/ObjectStreamShape$Puts" "keys" "[I" (.ref kb) := F111.ext E51
  have F113 : Fld Z T72.heap p "com/example/sessionkeep/sessionkeep/codec/ObjectStreamShape$Puts" "keys" "[I" (.ref kb) := F112.keep K72 (ninS ne_p_n2 nin0)
  have F114 : Fld Z T82.heap p "com/example/sessionkeep/sessionkeep/codec/ObjectStreamShape$Puts" "keys" "[I" (.ref kb) := F113.keep K82 (ninS ne_p_n2 nin0)
  have F115 : Fld Z h5 p "com/example/sessionkeep/sessionkeep/codec/ObjectStreamShape$Puts" "weights" "[J" (.ref wb) := Q4_3.ext E5
  have F116 : Fld Z T9.heap p "com/example/sessionkeep/sessionkeep/codec/ObjectStreamShape$Puts" "weights" "[J" (.ref wb) := F115.keep K9 (ninS ne_p_t1 nin0)
  have F117 : Fld Z h10 p "com/example/sessionkeep/sessionkeep/codec/ObjectStreamShape$Puts" "weights" "[J" (.ref wb) := F116.ext E10
  have F118 : Fld Z T25.heap p "com/example/sessionkeep/sessionkeep/codec/ObjectStreamShape$Puts" "weights" "[J" (.ref wb) := F117.keep K25 (ninS ne_p_t2 nin0)
  have F119 : Fld Z h26 p "com/example/sessionkeep/sessionkeep/codec/ObjectStreamShape$Puts" "weights" "[J" (.ref wb) := F118.ext E26
  have F120 : Fld Z T50.heap p "com/example/sessionkeep/sessionkeep/codec/ObjectStreamShape$Puts" "weights" "[J" (.ref wb) := F119.keep K50 (ninS ne_p_n1 nin0)
  have F121 : Fld Z h51 p "com/example/sessionkeep/sessionkeep/codec/ObjectStreamShape$Puts" "weights" "[J" (.ref wb) := F120.ext E51
  have F122 : Fld Z T72.heap p "com/example/sessionkeep/sessionkeep/codec/ObjectStreamShape$Puts" "weights" "[J" (.ref wb) := F121.keep K72 (ninS ne_p_n2 nin0)
  have F123 : Fld Z T82.heap p "com/example/sessionkeep/sessionkeep/codec/ObjectStreamShape$Puts" "weights" "[J" (.ref wb) := F122.keep K82 (ninS ne_p_n2 nin0)
  have F124 : Fld Z h5 p "com/example/sessionkeep/sessionkeep/codec/ObjectStreamShape$Puts" "afters" "[I" (.ref ab) := Q4_4.ext E5
  have F125 : Fld Z T9.heap p "com/example/sessionkeep/sessionkeep/codec/ObjectStreamShape$Puts" "afters" "[I" (.ref ab) := F124.keep K9 (ninS ne_p_t1 nin0)
  have F126 : Fld Z h10 p "com/example/sessionkeep/sessionkeep/codec/ObjectStreamShape$Puts" "afters" "[I" (.ref ab) := F125.ext E10
  have F127 : Fld Z T25.heap p "com/example/sessionkeep/sessionkeep/codec/ObjectStreamShape$Puts" "afters" "[I" (.ref ab) := F126.keep K25 (ninS ne_p_t2 nin0)
  have F128 : Fld Z h26 p "com/example/sessionkeep/sessionkeep/codec/ObjectStreamShape$Puts" "afters" "[I" (.ref ab) := F127.ext E26
  have F129 : Fld Z T50.heap p "com/example/sessionkeep/sessionkeep/codec/ObjectStreamShape$Puts" "afters" "[I" (.ref ab) := F128.keep K50 (ninS ne_p_n1 nin0)
  have F130 : Fld Z h51 p "com/example/sessionkeep/sessionkeep/codec/ObjectStreamShape$Puts" "afters" "[I" (.ref ab) := F129.ext E51
  have F131 : Fld Z T72.heap p "com/example/sessionkeep/sessionkeep/codec/ObjectStreamShape$Puts" "afters" "[I" (.ref ab) := F130.keep K72 (ninS ne_p_n2 nin0)
  have F132 : Fld Z T82.heap p "com/example/sessionkeep/sessionkeep/codec/ObjectStreamShape$Puts" "afters" "[I" (.ref ab) := F131.keep K82 (ninS ne_p_n2 nin0)
  have F133 : Arv Z h51 tb kk1_4 .int (16 : Int32) [(.int (0 : Int32)), (.int (0 : Int32)), (.int (0 : Int32)), (.int (0 : Int32)), (.int (0 : Int32)), (.int (0 : Int32)), (.int (0 : Int32)), (.int (0 : Int32)), (.int (0 : Int32)), (.int (0 : Int32)), (.int (0 : Int32)), (.int (0 : Int32)), (.int (0 : Int32)), (.int (0 : Int32)), (.int (0 : Int32)), (.int (0 : Int32))] (.int (0 : Int32)) := F66.ext E51
  have F134 : Arv Z T72.heap tb kk1_4 .int (16 : Int32) [(.int (0 : Int32)), (.int (0 : Int32)), (.int (0 : Int32)), (.int (0 : Int32)), (.int (0 : Int32)), (.int (0 : Int32)), (.int (0 : Int32)), (.int (0 : Int32)), (.int (0 : Int32)), (.int (0 : Int32)), (.int (0 : Int32)), (.int (0 : Int32)), (.int (0 : Int32)), (.int (0 : Int32)), (.int (0 : Int32)), (.int (0 : Int32))] (.int (0 : Int32)) := F133.keep K72 (ninS ne_tb_n2 nin0)
  have F135 : Arv Z T82.heap tb kk1_4 .int (16 : Int32) [(.int (0 : Int32)), (.int (0 : Int32)), (.int (0 : Int32)), (.int (0 : Int32)), (.int (0 : Int32)), (.int (0 : Int32)), (.int (0 : Int32)), (.int (0 : Int32)), (.int (0 : Int32)), (.int (0 : Int32)), (.int (0 : Int32)), (.int (0 : Int32)), (.int (0 : Int32)), (.int (0 : Int32)), (.int (0 : Int32)), (.int (0 : Int32))] (.int (0 : Int32)) := F134.keep K82 (ninS ne_tb_n2 nin0)
  have F136 : Arv Z h51 kb kk2_4 .int (16 : Int32) [(.int (0 : Int32)), (.int (0 : Int32)), (.int (0 : Int32)), (.int (0 : Int32)), (.int (0 : Int32)), (.int (0 : Int32)), (.int (0 : Int32)), (.int (0 : Int32)), (.int (0 : Int32)), (.int (0 : Int32)), (.int (0 : Int32)), (.int (0 : Int32)), (.int (0 : Int32)), (.int (0 : Int32)), (.int (0 : Int32)), (.int (0 : Int32))] (.int (0 : Int32)) := F58.ext E51
  have F137 : Arv Z T72.heap kb kk2_4 .int (16 : Int32) [(.int (0 : Int32)), (.int (0 : Int32)), (.int (0 : Int32)), (.int (0 : Int32)), (.int (0 : Int32)), (.int (0 : Int32)), (.int (0 : Int32)), (.int (0 : Int32)), (.int (0 : Int32)), (.int (0 : Int32)), (.int (0 : Int32)), (.int (0 : Int32)), (.int (0 : Int32)), (.int (0 : Int32)), (.int (0 : Int32)), (.int (0 : Int32))] (.int (0 : Int32)) := F136.keep K72 (ninS ne_kb_n2 nin0)
  have F138 : Arv Z T82.heap kb kk2_4 .int (16 : Int32) [(.int (0 : Int32)), (.int (0 : Int32)), (.int (0 : Int32)), (.int (0 : Int32)), (.int (0 : Int32)), (.int (0 : Int32)), (.int (0 : Int32)), (.int (0 : Int32)), (.int (0 : Int32)), (.int (0 : Int32)), (.int (0 : Int32)), (.int (0 : Int32)), (.int (0 : Int32)), (.int (0 : Int32)), (.int (0 : Int32)), (.int (0 : Int32))] (.int (0 : Int32)) := F137.keep K82 (ninS ne_kb_n2 nin0)
  have F139 : Arv Z h51 wb kk3_4 .long (16 : Int32) [(.long (0 : Int64)), (.long (0 : Int64)), (.long (0 : Int64)), (.long (0 : Int64)), (.long (0 : Int64)), (.long (0 : Int64)), (.long (0 : Int64)), (.long (0 : Int64)), (.long (0 : Int64)), (.long (0 : Int64)), (.long (0 : Int64)), (.long (0 : Int64)), (.long (0 : Int64)), (.long (0 : Int64)), (.long (0 : Int64)), (.long (0 : Int64))] (.long (0 : Int64)) := F68.ext E51
  have F140 : Arv Z T72.heap wb kk3_4 .long (16 : Int32) [(.long (0 : Int64)), (.long (0 : Int64)), (.long (0 : Int64)), (.long (0 : Int64)), (.long (0 : Int64)), (.long (0 : Int64)), (.long (0 : Int64)), (.long (0 : Int64)), (.long (0 : Int64)), (.long (0 : Int64)), (.long (0 : Int64)), (.long (0 : Int64)), (.long (0 : Int64)), (.long (0 : Int64)), (.long (0 : Int64)), (.long (0 : Int64))] (.long (0 : Int64)) := F139.keep K72 (ninS ne_wb_n2 nin0)
  have F141 : Arv Z T82.heap wb kk3_4 .long (16 : Int32) [(.long (0 : Int64)), (.long (0 : Int64)), (.long (0 : Int64)), (.long (0 : Int64)), (.long (0 : Int64)), (.long (0 : Int64)), (.long (0 : Int64)), (.long (0 : Int64)), (.long (0 : Int64)), (.long (0 : Int64)), (.long (0 : Int64)), (.long (0 : Int64)), (.long (0 : Int64)), (.long (0 : Int64)), (.long (0 : Int64)), (.long (0 : Int64))] (.long (0 : Int64)) := F140.keep K82 (ninS ne_wb_n2 nin0)
  have F142 : Arv Z h51 ab kk4_4 .int (16 : Int32) [(.int (0 : Int32)), (.int (0 : Int32)), (.int (0 : Int32)), (.int (0 : Int32)), (.int (0 : Int32)), (.int (0 : Int32)), (.int (0 : Int32)), (.int (0 : Int32)), (.int (0 : Int32)), (.int (0 : Int32)), (.int (0 : Int32)), (.int (0 : Int32)), (.int (0 : Int32)), (.int (0 : Int32)), (.int (0 : Int32)), (.int (0 : Int32))] (.int (0 : Int32)) := F56.ext E51
  have F143 : Arv Z T72.heap ab kk4_4 .int (16 : Int32) [(.int (0 : Int32)), (.int (0 : Int32)), (.int (0 : Int32)), (.int (0 : Int32)), (.int (0 : Int32)), (.int (0 : Int32)), (.int (0 : Int32)), (.int (0 : Int32)), (.int (0 : Int32)), (.int (0 : Int32)), (.int (0 : Int32)), (.int (0 : Int32)), (.int (0 : Int32)), (.int (0 : Int32)), (.int (0 : Int32)), (.int (0 : Int32))] (.int (0 : Int32)) := F142.keep K72 (ninS ne_ab_n2 nin0)
  have F144 : Arv Z T82.heap ab kk4_4 .int (16 : Int32) [(.int (0 : Int32)), (.int (0 : Int32)), (.int (0 : Int32)), (.int (0 : Int32)), (.int (0 : Int32)), (.int (0 : Int32)), (.int (0 : Int32)), (.int (0 : Int32)), (.int (0 : Int32)), (.int (0 : Int32)), (.int (0 : Int32)), (.int (0 : Int32)), (.int (0 : Int32)), (.int (0 : Int32)), (.int (0 : Int32)), (.int (0 : Int32))] (.int (0 : Int32)) := F143.keep K82 (ninS ne_ab_n2 nin0)
  have F145 : Exa Z h51 t1 "com/example/sessionkeep/sessionkeep/codec/ObjectStreamShape$Table" := F62.ext E51
  have F146 : Exa Z T72.heap t1 "com/example/sessionkeep/sessionkeep/codec/ObjectStreamShape$Table" := F145.keep K72
  have F147 : Exa Z T82.heap t1 "com/example/sessionkeep/sessionkeep/codec/ObjectStreamShape$Table" := F146.keep K82
  have F148 : Fld Z h10 t1 "com/example/sessionkeep/sessionkeep/codec/ObjectStreamShape$Table" "index" "I" (.int q0) := Q9_1.ext E10
  have F149 : Fld Z T25.heap t1 "com/example/sessionkeep/sessionkeep/codec/ObjectStreamShape$Table" "index" "I" (.int q0) := F148.keep K25 (ninS ne_t1_t2 nin0)
  have F150 : Fld Z h26 t1 "com/example/sessionkeep/sessionkeep/codec/ObjectStreamShape$Table" "index" "I" (.int q0) := F149.ext E26
  have F151 : Fld Z T50.heap t1 "com/example/sessionkeep/sessionkeep/codec/ObjectStreamShape$Table" "index" "I" (.int q0) := F150.keep K50 (ninS ne_t1_n1 nin0)
  have F152 : Fld Z h51 t1 "com/example/sessionkeep/sessionkeep/codec/ObjectStreamShape$Table" "index" "I" (.int q0) := F151.ext E51
  have F153 : Fld Z T72.heap t1 "com/example/sessionkeep/sessionkeep/codec/ObjectStreamShape$Table" "index" "I" (.int q0) := F152.keep K72 (ninS ne_t1_n2 nin0)
  have F154 : Fld Z T82.heap t1 "com/example/sessionkeep/sessionkeep/codec/ObjectStreamShape$Table" "index" "I" (.int q0) := F153.keep K82 (ninS ne_t1_n2 nin0)
  have F155 : Fld Z h51 n1 "com/example/sessionkeep/sessionkeep/codec/ObjectStreamShape$Node" "ordinal" "I" (.int (-1 : Int32)) := Q50_3.ext E51
  have F156 : Fld Z T72.heap n1 "com/example/sessionkeep/sessionkeep/codec/ObjectStreamShape$Node" "ordinal" "I" (.int (-1 : Int32)) := F155.keep K72 (ninS ne_n1_n2 nin0)
  have F157 : Fld Z T82.heap n1 "com/example/sessionkeep/sessionkeep/codec/ObjectStreamShape$Node" "ordinal" "I" (.int (-1 : Int32)) := F156.keep K82 (ninS ne_n1_n2 nin0)
  have F158 : Fld Z T82.heap n1 "com/example/sessionkeep/sessionkeep/codec/ObjectStreamShape$Node" "weight" "J" (.long (1 : Int64)) := F76.keep K82 (ninS ne_n1_n2 nin0)
  obtain ⟨cq159, kq159, q159a, q159b, q159c⟩ := isOf hZ e93 F96
  obtain ⟨_, _, ⟨T159, L159, k159, n159⟩, -, X159, ⟨Lc159, hQ159, l159, y159, z159⟩, st159⟩ := X93.virtualBack hx (y := (⟨"com/example/sessionkeep/sessionkeep/codec/ObjectStreamShape$Puts", "add", "(Lcom/example/sessionkeep/sessionkeep/codec/ObjectStreamShape$Table;Lcom/example/sessionkeep/sessionkeep/codec/ObjectStreamShape$Node;I)V"⟩ : MethodName)) (z := (⟨"com/example/sessionkeep/sessionkeep/codec/ObjectStreamShape$Puts", "add", "(Lcom/example/sessionkeep/sessionkeep/codec/ObjectStreamShape$Table;Lcom/example/sessionkeep/sessionkeep/codec/ObjectStreamShape$Node;I)V"⟩ : MethodName)) hown (mvT hZ (hw _ (List.mem_of_getElem? (i := 77) rfl))) (mvT hZ (hw _ (List.mem_of_getElem? (i := 78) rfl))) (notFace_of_selects (args := #[]) (mvT hZ (hw _ (List.mem_of_getElem? (i := 80) rfl)))) (mvT hZ (hw _ (List.mem_of_getElem? (i := 80) rfl))) (mvT hZ (hw _ (List.mem_of_getElem? (i := 79) rfl))) (by decide) (backOf (W := 0) (rmAdd0 l Z a0 hw [] p t1 n1 q2 q0 (-1 : Int32) (1 : Int64) tb kb wb ab kk1_4 kk2_4 kk3_4 kk4_4 T82.heap n0 F92 F96 F105 F114 F123 F132 F91 F135 F138 F141 F144 ge_p ge_tb ge_kb ge_wb ge_ab ne_p_tb ne_p_kb ne_p_wb ne_p_ab Q4_14 Q4_15 Q4_16 Q4_17 Q4_18 Q4_19 F147 F154 F157 F158 (Ne.symm ne_tb_t1) (Ne.symm ne_kb_t1) (Ne.symm ne_wb_t1) (Ne.symm ne_ab_t1) (Ne.symm ne_tb_n1) (Ne.symm ne_kb_n1) (Ne.symm ne_wb_n1) (Ne.symm ne_ab_n1)) hZ (hw _ (List.mem_of_getElem? (i := 81) rfl)) (hw _ (List.mem_of_getElem? (i := 2) rfl)) (by decide) (by decide)) q159a q159c (g := (mkF m 86 #[.val (.int q0), .val (.int q1), .val (.int q2), .val (.int q3), .val (.ref p), .val (.ref t1), .val (.ref t2), .val (.ref n1), .val (.ref n2), .unset, .unset] [(.int q2), (.ref n1), (.ref t1), (.ref p)])) rfl (by rw [hml]; rfl) (Steps.refl _) (argsL := [(.ref t1), (.ref n1), (.int q2)]) (rest := []) (lenOf pd_176 rfl) rfl (by show 2 * 0 + _ ≤ _; exact Nat.le_of_eq rfl) (hb hby at_86) (fun _ _ => ⟨rfl, e93, (by decide : 9 + 0 ≤ _), (by decide : 97 + 0 ≤ _)⟩)
  dsimp only [Pt.U, Pt.locs, Pt.cells, Pt.slots] at X159 l159 y159 z159 st159 hQ159
  subst l159 y159 z159
  obtain ⟨rfl, N159q, K159, Q159_0, Q159_1, Q159_2, Q159_3, Q159_4, Q159_5, Q159_6, Q159_7, Q159_8, Q159_9⟩ := hQ159
  have N159 := Fr.app N93 N159q
  refine Go.to st159 ?_
  show Go _ _ _ _ T159 (mkF m 89 #[.val (.int q0), .val (.int q1), .val (.int q2), .val (.int q3), .val (.ref p), .val (.ref t1), .val (.ref t2), .val (.ref n1), .val (.ref n2), .unset, .unset] [])
  refine Go.by (fun _ gk => XS.aload X159.here hx rfl (hb hby at_89) rfl rfl gk) ?_
  show Go _ _ _ _ T159 (mkF m 91 #[.val (.int q0), .val (.int q1), .val (.int q2), .val (.int q3), .val (.ref p), .val (.ref t1), .val (.ref t2), .val (.ref n1), .val (.ref n2), .unset, .unset] [(.ref p)])
  have F160 : n0 ≤ T159.heap.size := Nat.le_trans F92 K159.1
  obtain ⟨cq161, kq161, q161a, q161b, q161c⟩ := isOf hZ rfl Q159_0
  obtain ⟨_, _, ⟨T161, L161, k161, n161⟩, -, X161, ⟨Lc161, hQ161, l161, y161, z161⟩, st161⟩ := X159.virtualBack hx (y := (⟨"com/example/sessionkeep/sessionkeep/codec/ObjectStreamShape$Puts", "size", "()I"⟩ : MethodName)) (z := (⟨"com/example/sessionkeep/sessionkeep/codec/ObjectStreamShape$Puts", "size", "()I"⟩ : MethodName)) hown (mvT hZ (hw _ (List.mem_of_getElem? (i := 70) rfl))) (mvT hZ (hw _ (List.mem_of_getElem? (i := 71) rfl))) (notFace_of_selects (args := #[]) (mvT hZ (hw _ (List.mem_of_getElem? (i := 73) rfl)))) (mvT hZ (hw _ (List.mem_of_getElem? (i := 73) rfl))) (mvT hZ (hw _ (List.mem_of_getElem? (i := 72) rfl))) (by decide) (backOf (W := 0) (rmSize l Z a0 hw [] p (1 : Int32) T159.heap n0 F160 Q159_5) hZ (hw _ (List.mem_of_getElem? (i := 74) rfl)) (hw _ (List.mem_of_getElem? (i := 2) rfl)) (by decide) (by decide)) q161a q161c (g := (mkF m 91 #[.val (.int q0), .val (.int q1), .val (.int q2), .val (.int q3), .val (.ref p), .val (.ref t1), .val (.ref t2), .val (.ref n1), .val (.ref n2), .unset, .unset] [(.ref p)])) rfl (by rw [hml]; rfl) (Steps.refl _) (argsL := []) (rest := []) (lenOf pd_140 rfl) rfl (by show 2 * 0 + _ ≤ _; exact Nat.le_of_eq rfl) (hb hby at_91) (fun _ _ => ⟨rfl, rfl, (by decide : 9 + 0 ≤ _), (by decide : 97 + 0 ≤ _)⟩)
  dsimp only [Pt.U, Pt.locs, Pt.cells, Pt.slots] at X161 l161 y161 z161 st161 hQ161
  subst l161 y161 z161
  obtain ⟨rfl, N161q, e161⟩ := hQ161
  have N161 := Fr.app N159 N161q
  refine Go.to st161 ?_
  show Go _ _ _ _ T161 (mkF m 94 #[.val (.int q0), .val (.int q1), .val (.int q2), .val (.int q3), .val (.ref p), .val (.ref t1), .val (.ref t2), .val (.ref n1), .val (.ref n2), .unset, .unset] [(.int (1 : Int32))])
  refine Go.by (fun _ gk => XT.iconstV X161.here hx rfl (1 : Int32) (hb hby at_94) (by decide) gk) ?_
  show Go _ _ _ _ T161 (mkF m 95 #[.val (.int q0), .val (.int q1), .val (.int q2), .val (.int q3), .val (.ref p), .val (.ref t1), .val (.ref t2), .val (.ref n1), .val (.ref n2), .unset, .unset] [(.int (1 : Int32)), (.int (1 : Int32))])
  refine Go.by (fun _ gk => XS.icmpNo X161.here hx rfl (hb hby at_95) rfl (XT.ii_ne_f rfl) gk) ?_
  show Go _ _ _ _ T161 (mkF m 98 #[.val (.int q0), .val (.int q1), .val (.int q2), .val (.int q3), .val (.ref p), .val (.ref t1), .val (.ref t2), .val (.ref n1), .val (.ref n2), .unset, .unset] [])
  refine Go.by (fun _ gk => XS.aload X161.here hx rfl (hb hby at_98) rfl rfl gk) ?_
  show Go _ _ _ _ T161 (mkF m 100 #[.val (.int q0), .val (.int q1), .val (.int q2), .val (.int q3), .val (.ref p), .val (.ref t1), .val (.ref t2), .val (.ref n1), .val (.ref n2), .unset, .unset] [(.ref p)])
  refine Go.by (fun _ gk => XT.iconstV X161.here hx rfl (0 : Int32) (hb hby at_100) (by decide) gk) ?_
  show Go _ _ _ _ T161 (mkF m 101 #[.val (.int q0), .val (.int q1), .val (.int q2), .val (.int q3), .val (.ref p), .val (.ref t1), .val (.ref t2), .val (.ref n1), .val (.ref n2), .unset, .unset] [(.int (0 : Int32)), (.ref p)])
  obtain ⟨cq162, kq162, q162a, q162b, q162c⟩ := isOf hZ e161 Q159_0
  obtain ⟨_, _, ⟨T162, L162, k162, n162⟩, -, X162, ⟨Lc162, hQ162, l162, y162, z162⟩, st162⟩ := X161.virtualBack hx (y := (⟨"com/example/sessionkeep/sessionkeep/codec/ObjectStreamShape$Puts", "table", "(I)I"⟩ : MethodName)) (z := (⟨"com/example/sessionkeep/sessionkeep/codec/ObjectStreamShape$Puts", "table", "(I)I"⟩ : MethodName)) hown (mvT hZ (hw _ (List.mem_of_getElem? (i := 89) rfl))) (mvT hZ (hw _ (List.mem_of_getElem? (i := 90) rfl))) (notFace_of_selects (args := #[]) (mvT hZ (hw _ (List.mem_of_getElem? (i := 92) rfl)))) (mvT hZ (hw _ (List.mem_of_getElem? (i := 92) rfl))) (mvT hZ (hw _ (List.mem_of_getElem? (i := 91) rfl))) (by decide) (backOf (W := 0) (rmGet_table l Z a0 hw [] p (0 : Int32) tb kk1_4 ([(.int q0), (.int (0 : Int32)), (.int (0 : Int32)), (.int (0 : Int32)), (.int (0 : Int32)), (.int (0 : Int32)), (.int (0 : Int32)), (.int (0 : Int32)), (.int (0 : Int32)), (.int (0 : Int32)), (.int (0 : Int32)), (.int (0 : Int32)), (.int (0 : Int32)), (.int (0 : Int32)), (.int (0 : Int32)), (.int (0 : Int32))]) q0 T159.heap n0 F160 Q159_1 Q159_6 (⟨by decide, by decide⟩) rfl) hZ (hw _ (List.mem_of_getElem? (i := 93) rfl)) (hw _ (List.mem_of_getElem? (i := 2) rfl)) (by decide) (by decide)) q162a q162c (g := (mkF m 101 #[.val (.int q0), .val (.int q1), .val (.int q2), .val (.int q3), .val (.ref p), .val (.ref t1), .val (.ref t2), .val (.ref n1), .val (.ref n2), .unset, .unset] [(.int (0 : Int32)), (.ref p)])) rfl (by rw [hml]; rfl) (Steps.refl _) (argsL := [(.int (0 : Int32))]) (rest := []) (lenOf pd_177 rfl) rfl (by show 2 * 0 + _ ≤ _; exact Nat.le_of_eq rfl) (hb hby at_101) (fun _ _ => ⟨rfl, e161, (by decide : 9 + 0 ≤ _), (by decide : 97 + 0 ≤ _)⟩)
  dsimp only [Pt.U, Pt.locs, Pt.cells, Pt.slots] at X162 l162 y162 z162 st162 hQ162
  subst l162 y162 z162
  obtain ⟨rfl, N162q, e162⟩ := hQ162
  have N162 := Fr.app N161 N162q
  refine Go.to st162 ?_
  show Go _ _ _ _ T162 (mkF m 104 #[.val (.int q0), .val (.int q1), .val (.int q2), .val (.int q3), .val (.ref p), .val (.ref t1), .val (.ref t2), .val (.ref n1), .val (.ref n2), .unset, .unset] [(.int q0)])
  refine Go.by (fun _ gk => XS.iloadN X162.here hx rfl (hb hby at_104) rfl gk) ?_
  show Go _ _ _ _ T162 (mkF m 105 #[.val (.int q0), .val (.int q1), .val (.int q2), .val (.int q3), .val (.ref p), .val (.ref t1), .val (.ref t2), .val (.ref n1), .val (.ref n2), .unset, .unset] [(.int q0), (.int q0)])
  refine Go.by (fun _ gk => XS.icmpNo X162.here hx rfl (hb hby at_105) rfl (XT.ii_ne_f rfl) gk) ?_
  show Go _ _ _ _ T162 (mkF m 108 #[.val (.int q0), .val (.int q1), .val (.int q2), .val (.int q3), .val (.ref p), .val (.ref t1), .val (.ref t2), .val (.ref n1), .val (.ref n2), .unset, .unset] [])
  refine Go.by (fun _ gk => XS.aload X162.here hx rfl (hb hby at_108) rfl rfl gk) ?_
  show Go _ _ _ _ T162 (mkF m 110 #[.val (.int q0), .val (.int q1), .val (.int q2), .val (.int q3), .val (.ref p), .val (.ref t1), .val (.ref t2), .val (.ref n1), .val (.ref n2), .unset, .unset] [(.ref p)])
  refine Go.by (fun _ gk => XT.iconstV X162.here hx rfl (0 : Int32) (hb hby at_110) (by decide) gk) ?_
  show Go _ _ _ _ T162 (mkF m 111 #[.val (.int q0), .val (.int q1), .val (.int q2), .val (.int q3), .val (.ref p), .val (.ref t1), .val (.ref t2), .val (.ref n1), .val (.ref n2), .unset, .unset] [(.int (0 : Int32)), (.ref p)])
  obtain ⟨cq163, kq163, q163a, q163b, q163c⟩ := isOf hZ e162 Q159_0
  obtain ⟨_, _, ⟨T163, L163, k163, n163⟩, -, X163, ⟨Lc163, hQ163, l163, y163, z163⟩, st163⟩ := X162.virtualBack hx (y := (⟨"com/example/sessionkeep/sessionkeep/codec/ObjectStreamShape$Puts", "key", "(I)I"⟩ : MethodName)) (z := (⟨"com/example/sessionkeep/sessionkeep/codec/ObjectStreamShape$Puts", "key", "(I)I"⟩ : MethodName)) hown (mvT hZ (hw _ (List.mem_of_getElem? (i := 94) rfl))) (mvT hZ (hw _ (List.mem_of_getElem? (i := 95) rfl))) (notFace_of_selects (args := #[]) (mvT hZ (hw _ (List.mem_of_getElem? (i := 97) rfl)))) (mvT hZ (hw _ (List.mem_of_getElem? (i := 97) rfl))) (mvT hZ (hw _ (List.mem_of_getElem? (i := 96) rfl))) (by decide) (backOf (W := 0) (rmGet_key l Z a0 hw [] p (0 : Int32) kb kk2_4 ([(.int (-1 : Int32)), (.int (0 : Int32)), (.int (0 : Int32)), (.int (0 : Int32)), (.int (0 : Int32)), (.int (0 : Int32)), (.int (0 : Int32)), (.int (0 : Int32)), (.int (0 : Int32)), (.int (0 : Int32)), (.int (0 : Int32)), (.int (0 : Int32)), (.int (0 : Int32)), (.int (0 : Int32)), (.int (0 : Int32)), (.int (0 : Int32))]) (-1 : Int32) T159.heap n0 F160 Q159_2 Q159_7 (⟨by decide, by decide⟩) rfl) hZ (hw _ (List.mem_of_getElem? (i := 98) rfl)) (hw _ (List.mem_of_getElem? (i := 2) rfl)) (by decide) (by decide)) q163a q163c (g := (mkF m 111 #[.val (.int q0), .val (.int q1), .val (.int q2), .val (.int q3), .val (.ref p), .val (.ref t1), .val (.ref t2), .val (.ref n1), .val (.ref n2), .unset, .unset] [(.int (0 : Int32)), (.ref p)])) rfl (by rw [hml]; rfl) (Steps.refl _) (argsL := [(.int (0 : Int32))]) (rest := []) (lenOf pd_177 rfl) rfl (by show 2 * 0 + _ ≤ _; exact Nat.le_of_eq rfl) (hb hby at_111) (fun _ _ => ⟨rfl, e162, (by decide : 9 + 0 ≤ _), (by decide : 97 + 0 ≤ _)⟩)
  dsimp only [Pt.U, Pt.locs, Pt.cells, Pt.slots] at X163 l163 y163 z163 st163 hQ163
  subst l163 y163 z163
  obtain ⟨rfl, N163q, e163⟩ := hQ163
  have N163 := Fr.app N162 N163q
  refine Go.to st163 ?_
  show Go _ _ _ _ T163 (mkF m 114 #[.val (.int q0), .val (.int q1), .val (.int q2), .val (.int q3), .val (.ref p), .val (.ref t1), .val (.ref t2), .val (.ref n1), .val (.ref n2), .unset, .unset] [(.int (-1 : Int32))])
  refine Go.by (fun _ gk => XT.iconstV X163.here hx rfl (-1 : Int32) (hb hby at_114) (by decide) gk) ?_
  show Go _ _ _ _ T163 (mkF m 115 #[.val (.int q0), .val (.int q1), .val (.int q2), .val (.int q3), .val (.ref p), .val (.ref t1), .val (.ref t2), .val (.ref n1), .val (.ref n2), .unset, .unset] [(.int (-1 : Int32)), (.int (-1 : Int32))])
  refine Go.by (fun _ gk => XS.icmpNo X163.here hx rfl (hb hby at_115) rfl (XT.ii_ne_f rfl) gk) ?_
  show Go _ _ _ _ T163 (mkF m 118 #[.val (.int q0), .val (.int q1), .val (.int q2), .val (.int q3), .val (.ref p), .val (.ref t1), .val (.ref t2), .val (.ref n1), .val (.ref n2), .unset, .unset] [])
  refine Go.by (fun _ gk => XS.aload X163.here hx rfl (hb hby at_118) rfl rfl gk) ?_
  show Go _ _ _ _ T163 (mkF m 120 #[.val (.int q0), .val (.int q1), .val (.int q2), .val (.int q3), .val (.ref p), .val (.ref t1), .val (.ref t2), .val (.ref n1), .val (.ref n2), .unset, .unset] [(.ref p)])
  refine Go.by (fun _ gk => XT.iconstV X163.here hx rfl (0 : Int32) (hb hby at_120) (by decide) gk) ?_
  show Go _ _ _ _ T163 (mkF m 121 #[.val (.int q0), .val (.int q1), .val (.int q2), .val (.int q3), .val (.ref p), .val (.ref t1), .val (.ref t2), .val (.ref n1), .val (.ref n2), .unset, .unset] [(.int (0 : Int32)), (.ref p)])
  obtain ⟨cq164, kq164, q164a, q164b, q164c⟩ := isOf hZ e163 Q159_0
  obtain ⟨_, _, ⟨T164, L164, k164, n164⟩, -, X164, ⟨Lc164, hQ164, l164, y164, z164⟩, st164⟩ := X163.virtualBack hx (y := (⟨"com/example/sessionkeep/sessionkeep/codec/ObjectStreamShape$Puts", "weight", "(I)J"⟩ : MethodName)) (z := (⟨"com/example/sessionkeep/sessionkeep/codec/ObjectStreamShape$Puts", "weight", "(I)J"⟩ : MethodName)) hown (mvT hZ (hw _ (List.mem_of_getElem? (i := 99) rfl))) (mvT hZ (hw _ (List.mem_of_getElem? (i := 100) rfl))) (notFace_of_selects (args := #[]) (mvT hZ (hw _ (List.mem_of_getElem? (i := 102) rfl)))) (mvT hZ (hw _ (List.mem_of_getElem? (i := 102) rfl))) (mvT hZ (hw _ (List.mem_of_getElem? (i := 101) rfl))) (by decide) (backOf (W := 0) (rmGet_weight l Z a0 hw [] p (0 : Int32) wb kk3_4 ([(.long (1 : Int64)), (.long (0 : Int64)), (.long (0 : Int64)), (.long (0 : Int64)), (.long (0 : Int64)), (.long (0 : Int64)), (.long (0 : Int64)), (.long (0 : Int64)), (.long (0 : Int64)), (.long (0 : Int64)), (.long (0 : Int64)), (.long (0 : Int64)), (.long (0 : Int64)), (.long (0 : Int64)), (.long (0 : Int64)), (.long (0 : Int64))]) (1 : Int64) T159.heap n0 F160 Q159_3 Q159_8 (⟨by decide, by decide⟩) rfl) hZ (hw _ (List.mem_of_getElem? (i := 103) rfl)) (hw _ (List.mem_of_getElem? (i := 2) rfl)) (by decide) (by decide)) q164a q164c (g := (mkF m 121 #[.val (.int q0), .val (.int q1), .val (.int q2), .val (.int q3), .val (.ref p), .val (.ref t1), .val (.ref t2), .val (.ref n1), .val (.ref n2), .unset, .unset] [(.int (0 : Int32)), (.ref p)])) rfl (by rw [hml]; rfl) (Steps.refl _) (argsL := [(.int (0 : Int32))]) (rest := []) (lenOf pd_178 rfl) rfl (by show 2 * 0 + _ ≤ _; exact Nat.le_of_eq rfl) (hb hby at_121) (fun _ _ => ⟨rfl, e163, (by decide : 9 + 0 ≤ _), (by decide : 97 + 0 ≤ _)⟩)
  dsimp only [Pt.U, Pt.locs, Pt.cells, Pt.slots] at X164 l164 y164 z164 st164 hQ164
  subst l164 y164 z164
  obtain ⟨rfl, N164q, e164⟩ := hQ164
  have N164 := Fr.app N163 N164q
  refine Go.to st164 ?_
  show Go _ _ _ _ T164 (mkF m 124 #[.val (.int q0), .val (.int q1), .val (.int q2), .val (.int q3), .val (.ref p), .val (.ref t1), .val (.ref t2), .val (.ref n1), .val (.ref n2), .unset, .unset] [(.long (1 : Int64))])
  refine Go.by (fun _ gk => XT.lconstV X164.here hx rfl (1 : Int64) (hb hby at_124) (by decide) gk) ?_
  show Go _ _ _ _ T164 (mkF m 125 #[.val (.int q0), .val (.int q1), .val (.int q2), .val (.int q3), .val (.ref p), .val (.ref t1), .val (.ref t2), .val (.ref n1), .val (.ref n2), .unset, .unset] [(.long (1 : Int64)), (.long (1 : Int64))])
  refine Go.by (fun _ gk => XT.lcmp X164.here hx rfl (hb hby at_125) rfl gk) ?_
  show Go _ _ _ _ T164 (mkF m 126 #[.val (.int q0), .val (.int q1), .val (.int q2), .val (.int q3), .val (.ref p), .val (.ref t1), .val (.ref t2), .val (.ref n1), .val (.ref n2), .unset, .unset] [(.int (XT.cmpL (1 : Int64) (1 : Int64)))])
  refine Go.by (fun _ gk => XS.ifNo X164.here hx rfl (hb hby at_126) rfl (XT.ll_ne_f (by decide : (1 : Int64) = (1 : Int64))) gk) ?_
  show Go _ _ _ _ T164 (mkF m 129 #[.val (.int q0), .val (.int q1), .val (.int q2), .val (.int q3), .val (.ref p), .val (.ref t1), .val (.ref t2), .val (.ref n1), .val (.ref n2), .unset, .unset] [])
  refine Go.by (fun _ gk => XS.aload X164.here hx rfl (hb hby at_129) rfl rfl gk) ?_
  show Go _ _ _ _ T164 (mkF m 131 #[.val (.int q0), .val (.int q1), .val (.int q2), .val (.int q3), .val (.ref p), .val (.ref t1), .val (.ref t2), .val (.ref n1), .val (.ref n2), .unset, .unset] [(.ref p)])
  refine Go.by (fun _ gk => XT.iconstV X164.here hx rfl (0 : Int32) (hb hby at_131) (by decide) gk) ?_
  show Go _ _ _ _ T164 (mkF m 132 #[.val (.int q0), .val (.int q1), .val (.int q2), .val (.int q3), .val (.ref p), .val (.ref t1), .val (.ref t2), .val (.ref n1), .val (.ref n2), .unset, .unset] [(.int (0 : Int32)), (.ref p)])
  obtain ⟨cq165, kq165, q165a, q165b, q165c⟩ := isOf hZ e164 Q159_0
  obtain ⟨_, _, ⟨T165, L165, k165, n165⟩, -, X165, ⟨Lc165, hQ165, l165, y165, z165⟩, st165⟩ := X164.virtualBack hx (y := (⟨"com/example/sessionkeep/sessionkeep/codec/ObjectStreamShape$Puts", "after", "(I)I"⟩ : MethodName)) (z := (⟨"com/example/sessionkeep/sessionkeep/codec/ObjectStreamShape$Puts", "after", "(I)I"⟩ : MethodName)) hown (mvT hZ (hw _ (List.mem_of_getElem? (i := 104) rfl))) (mvT hZ (hw _ (List.mem_of_getElem? (i := 105) rfl))) (notFace_of_selects (args := #[]) (mvT hZ (hw _ (List.mem_of_getElem? (i := 107) rfl)))) (mvT hZ (hw _ (List.mem_of_getElem? (i := 107) rfl))) (mvT hZ (hw _ (List.mem_of_getElem? (i := 106) rfl))) (by decide) (backOf (W := 0) (rmGet_after l Z a0 hw [] p (0 : Int32) ab kk4_4 ([(.int q2), (.int (0 : Int32)), (.int (0 : Int32)), (.int (0 : Int32)), (.int (0 : Int32)), (.int (0 : Int32)), (.int (0 : Int32)), (.int (0 : Int32)), (.int (0 : Int32)), (.int (0 : Int32)), (.int (0 : Int32)), (.int (0 : Int32)), (.int (0 : Int32)), (.int (0 : Int32)), (.int (0 : Int32)), (.int (0 : Int32))]) q2 T159.heap n0 F160 Q159_4 Q159_9 (⟨by decide, by decide⟩) rfl) hZ (hw _ (List.mem_of_getElem? (i := 108) rfl)) (hw _ (List.mem_of_getElem? (i := 2) rfl)) (by decide) (by decide)) q165a q165c (g := (mkF m 132 #[.val (.int q0), .val (.int q1), .val (.int q2), .val (.int q3), .val (.ref p), .val (.ref t1), .val (.ref t2), .val (.ref n1), .val (.ref n2), .unset, .unset] [(.int (0 : Int32)), (.ref p)])) rfl (by rw [hml]; rfl) (Steps.refl _) (argsL := [(.int (0 : Int32))]) (rest := []) (lenOf pd_177 rfl) rfl (by show 2 * 0 + _ ≤ _; exact Nat.le_of_eq rfl) (hb hby at_132) (fun _ _ => ⟨rfl, e164, (by decide : 9 + 0 ≤ _), (by decide : 97 + 0 ≤ _)⟩)
  dsimp only [Pt.U, Pt.locs, Pt.cells, Pt.slots] at X165 l165 y165 z165 st165 hQ165
  subst l165 y165 z165
  obtain ⟨rfl, N165q, e165⟩ := hQ165
  have N165 := Fr.app N164 N165q
  refine Go.to st165 ?_
  show Go _ _ _ _ T165 (mkF m 135 #[.val (.int q0), .val (.int q1), .val (.int q2), .val (.int q3), .val (.ref p), .val (.ref t1), .val (.ref t2), .val (.ref n1), .val (.ref n2), .unset, .unset] [(.int q2)])
  refine Go.by (fun _ gk => XS.iloadN X165.here hx rfl (hb hby at_135) rfl gk) ?_
  show Go _ _ _ _ T165 (mkF m 136 #[.val (.int q0), .val (.int q1), .val (.int q2), .val (.int q3), .val (.ref p), .val (.ref t1), .val (.ref t2), .val (.ref n1), .val (.ref n2), .unset, .unset] [(.int q2), (.int q2)])
  refine Go.by (fun _ gk => XS.icmpNo X165.here hx rfl (hb hby at_136) rfl (XT.ii_ne_f rfl) gk) ?_
  show Go _ _ _ _ T165 (mkF m 139 #[.val (.int q0), .val (.int q1), .val (.int q2), .val (.int q3), .val (.ref p), .val (.ref t1), .val (.ref t2), .val (.ref n1), .val (.ref n2), .unset, .unset] [])
  refine Go.by (fun _ gk => XT.iconstV X165.here hx rfl (1 : Int32) (hb hby at_139) (by decide) gk) ?_
  show Go _ _ _ _ T165 (mkF m 140 #[.val (.int q0), .val (.int q1), .val (.int q2), .val (.int q3), .val (.ref p), .val (.ref t1), .val (.ref t2), .val (.ref n1), .val (.ref n2), .unset, .unset] [(.int (1 : Int32))])
  refine Go.by (fun _ gk => XS.goto X165.here hx rfl (pc0 := 140) (pc' := 144) rfl (hb hby at_140) (by decide) (by decide) gk) ?_
  show Go _ _ _ _ T165 (mkF m 144 #[.val (.int q0), .val (.int q1), .val (.int q2), .val (.int q3), .val (.ref p), .val (.ref t1), .val (.ref t2), .val (.ref n1), .val (.ref n2), .unset, .unset] [(.int (1 : Int32))])
  refine Go.by (fun _ gk => XS.istore X165.here hx rfl (hb hby at_144) rfl (l' := #[.val (.int q0), .val (.int q1), .val (.int q2), .val (.int q3), .val (.ref p), .val (.ref t1), .val (.ref t2), .val (.ref n1), .val (.ref n2), .val (.int (1 : Int32)), .unset]) rfl gk) ?_
  show Go _ _ _ _ T165 (mkF m 146 #[.val (.int q0), .val (.int q1), .val (.int q2), .val (.int q3), .val (.ref p), .val (.ref t1), .val (.ref t2), .val (.ref n1), .val (.ref n2), .val (.int (1 : Int32)), .unset] [])
  refine Go.by (fun _ gk => XS.aload X165.here hx rfl (hb hby at_146) rfl rfl gk) ?_
  show Go _ _ _ _ T165 (mkF m 148 #[.val (.int q0), .val (.int q1), .val (.int q2), .val (.int q3), .val (.ref p), .val (.ref t1), .val (.ref t2), .val (.ref n1), .val (.ref n2), .val (.int (1 : Int32)), .unset] [(.ref p)])
  refine Go.by (fun _ gk => XS.aload X165.here hx rfl (hb hby at_148) rfl rfl gk) ?_
  show Go _ _ _ _ T165 (mkF m 150 #[.val (.int q0), .val (.int q1), .val (.int q2), .val (.int q3), .val (.ref p), .val (.ref t1), .val (.ref t2), .val (.ref n1), .val (.ref n2), .val (.int (1 : Int32)), .unset] [(.ref t2), (.ref p)])
  refine Go.by (fun _ gk => XS.aload X165.here hx rfl (hb hby at_150) rfl rfl gk) ?_
  show Go _ _ _ _ T165 (mkF m 152 #[.val (.int q0), .val (.int q1), .val (.int q2), .val (.int q3), .val (.ref p), .val (.ref t1), .val (.ref t2), .val (.ref n1), .val (.ref n2), .val (.int (1 : Int32)), .unset] [(.ref n2), (.ref t2), (.ref p)])
  refine Go.by (fun _ gk => XS.iloadN X165.here hx rfl (hb hby at_152) rfl gk) ?_
  show Go _ _ _ _ T165 (mkF m 153 #[.val (.int q0), .val (.int q1), .val (.int q2), .val (.int q3), .val (.ref p), .val (.ref t1), .val (.ref t2), .val (.ref n1), .val (.ref n2), .val (.int (1 : Int32)), .unset] [(.int q3), (.ref n2), (.ref t2), (.ref p)])
  have F166 : Exa Z h51 t2 "com/example/sessionkeep/sessionkeep/codec/ObjectStreamShape$Table" := F64.ext E51
  have F167 : Exa Z T72.heap t2 "com/example/sessionkeep/sessionkeep/codec/ObjectStreamShape$Table" := F166.keep K72
  have F168 : Exa Z T82.heap t2 "com/example/sessionkeep/sessionkeep/codec/ObjectStreamShape$Table" := F167.keep K82
  have F169 : Exa Z T159.heap t2 "com/example/sessionkeep/sessionkeep/codec/ObjectStreamShape$Table" := F168.keep K159
  have F170 : Fld Z h26 t2 "com/example/sessionkeep/sessionkeep/codec/ObjectStreamShape$Table" "index" "I" (.int q1) := Q25_1.ext E26
  have F171 : Fld Z T50.heap t2 "com/example/sessionkeep/sessionkeep/codec/ObjectStreamShape$Table" "index" "I" (.int q1) := F170.keep K50 (ninS ne_t2_n1 nin0)
  have F172 : Fld Z h51 t2 "com/example/sessionkeep/sessionkeep/codec/ObjectStreamShape$Table" "index" "I" (.int q1) := F171.ext E51
  have F173 : Fld Z T72.heap t2 "com/example/sessionkeep/sessionkeep/codec/ObjectStreamShape$Table" "index" "I" (.int q1) := F172.keep K72 (ninS ne_t2_n2 nin0)
  have F174 : Fld Z T82.heap t2 "com/example/sessionkeep/sessionkeep/codec/ObjectStreamShape$Table" "index" "I" (.int q1) := F173.keep K82 (ninS ne_t2_n2 nin0)
  have F175 : Fld Z T159.heap t2 "com/example/sessionkeep/sessionkeep/codec/ObjectStreamShape$Table" "index" "I" (.int q1) := F174.keep K159 (ninS (Ne.symm ne_p_t2) (ninS (Ne.symm ne_tb_t2) (ninS (Ne.symm ne_kb_t2) (ninS (Ne.symm ne_wb_t2) (ninS (Ne.symm ne_ab_t2) nin0)))))
  have F176 : Fld Z T159.heap n2 "com/example/sessionkeep/sessionkeep/codec/ObjectStreamShape$Node" "ordinal" "I" (.int (-1 : Int32)) := Q82_2.keep K159 (ninS (Ne.symm ne_p_n2) (ninS (Ne.symm ne_tb_n2) (ninS (Ne.symm ne_kb_n2) (ninS (Ne.symm ne_wb_n2) (ninS (Ne.symm ne_ab_n2) nin0)))))
  have F177 : Fld Z T159.heap n2 "com/example/sessionkeep/sessionkeep/codec/ObjectStreamShape$Node" "weight" "J" (.long ((1 : Int64) + (1 : Int64))) := Q82_1.keep K159 (ninS (Ne.symm ne_p_n2) (ninS (Ne.symm ne_tb_n2) (ninS (Ne.symm ne_kb_n2) (ninS (Ne.symm ne_wb_n2) (ninS (Ne.symm ne_ab_n2) nin0)))))
  obtain ⟨cq178, kq178, q178a, q178b, q178c⟩ := isOf hZ e165 Q159_0
  obtain ⟨_, _, ⟨T178, L178, k178, n178⟩, -, X178, ⟨Lc178, hQ178, l178, y178, z178⟩, st178⟩ := X165.virtualBack hx (y := (⟨"com/example/sessionkeep/sessionkeep/codec/ObjectStreamShape$Puts", "add", "(Lcom/example/sessionkeep/sessionkeep/codec/ObjectStreamShape$Table;Lcom/example/sessionkeep/sessionkeep/codec/ObjectStreamShape$Node;I)V"⟩ : MethodName)) (z := (⟨"com/example/sessionkeep/sessionkeep/codec/ObjectStreamShape$Puts", "add", "(Lcom/example/sessionkeep/sessionkeep/codec/ObjectStreamShape$Table;Lcom/example/sessionkeep/sessionkeep/codec/ObjectStreamShape$Node;I)V"⟩ : MethodName)) hown (mvT hZ (hw _ (List.mem_of_getElem? (i := 77) rfl))) (mvT hZ (hw _ (List.mem_of_getElem? (i := 78) rfl))) (notFace_of_selects (args := #[]) (mvT hZ (hw _ (List.mem_of_getElem? (i := 80) rfl)))) (mvT hZ (hw _ (List.mem_of_getElem? (i := 80) rfl))) (mvT hZ (hw _ (List.mem_of_getElem? (i := 79) rfl))) (by decide) (backOf (W := 0) (rmAdd1 l Z a0 hw [] p t2 n2 q3 q1 (-1 : Int32) ((1 : Int64) + (1 : Int64)) tb kb wb ab kk1_4 kk2_4 kk3_4 kk4_4 q0 (-1 : Int32) (1 : Int64) q2 T159.heap n0 F160 Q159_0 Q159_1 Q159_2 Q159_3 Q159_4 Q159_5 Q159_6 Q159_7 Q159_8 Q159_9 ge_p ge_tb ge_kb ge_wb ge_ab ne_p_tb ne_p_kb ne_p_wb ne_p_ab Q4_14 Q4_15 Q4_16 Q4_17 Q4_18 Q4_19 F169 F175 F176 F177 (Ne.symm ne_tb_t2) (Ne.symm ne_kb_t2) (Ne.symm ne_wb_t2) (Ne.symm ne_ab_t2) (Ne.symm ne_tb_n2) (Ne.symm ne_kb_n2) (Ne.symm ne_wb_n2) (Ne.symm ne_ab_n2)) hZ (hw _ (List.mem_of_getElem? (i := 81) rfl)) (hw _ (List.mem_of_getElem? (i := 2) rfl)) (by decide) (by decide)) q178a q178c (g := (mkF m 153 #[.val (.int q0), .val (.int q1), .val (.int q2), .val (.int q3), .val (.ref p), .val (.ref t1), .val (.ref t2), .val (.ref n1), .val (.ref n2), .val (.int (1 : Int32)), .unset] [(.int q3), (.ref n2), (.ref t2), (.ref p)])) rfl (by rw [hml]; rfl) (Steps.refl _) (argsL := [(.ref t2), (.ref n2), (.int q3)]) (rest := []) (lenOf pd_176 rfl) rfl (by show 2 * 0 + _ ≤ _; exact Nat.le_of_eq rfl) (hb hby at_153) (fun _ _ => ⟨rfl, e165, (by decide : 9 + 0 ≤ _), (by decide : 97 + 0 ≤ _)⟩)
  dsimp only [Pt.U, Pt.locs, Pt.cells, Pt.slots] at X178 l178 y178 z178 st178 hQ178
  subst l178 y178 z178
  obtain ⟨rfl, N178q, K178, Q178_0, Q178_1, Q178_2, Q178_3, Q178_4, Q178_5, Q178_6, Q178_7, Q178_8, Q178_9⟩ := hQ178
  have N178 := Fr.app N165 N178q
  refine Go.to st178 ?_
  show Go _ _ _ _ T178 (mkF m 156 #[.val (.int q0), .val (.int q1), .val (.int q2), .val (.int q3), .val (.ref p), .val (.ref t1), .val (.ref t2), .val (.ref n1), .val (.ref n2), .val (.int (1 : Int32)), .unset] [])
  refine Go.by (fun _ gk => XS.aload X178.here hx rfl (hb hby at_156) rfl rfl gk) ?_
  show Go _ _ _ _ T178 (mkF m 158 #[.val (.int q0), .val (.int q1), .val (.int q2), .val (.int q3), .val (.ref p), .val (.ref t1), .val (.ref t2), .val (.ref n1), .val (.ref n2), .val (.int (1 : Int32)), .unset] [(.ref p)])
  have F179 : n0 ≤ T178.heap.size := Nat.le_trans F160 K178.1
  obtain ⟨cq180, kq180, q180a, q180b, q180c⟩ := isOf hZ rfl Q178_0
  obtain ⟨_, _, ⟨T180, L180, k180, n180⟩, -, X180, ⟨Lc180, hQ180, l180, y180, z180⟩, st180⟩ := X178.virtualBack hx (y := (⟨"com/example/sessionkeep/sessionkeep/codec/ObjectStreamShape$Puts", "size", "()I"⟩ : MethodName)) (z := (⟨"com/example/sessionkeep/sessionkeep/codec/ObjectStreamShape$Puts", "size", "()I"⟩ : MethodName)) hown (mvT hZ (hw _ (List.mem_of_getElem? (i := 70) rfl))) (mvT hZ (hw _ (List.mem_of_getElem? (i := 71) rfl))) (notFace_of_selects (args := #[]) (mvT hZ (hw _ (List.mem_of_getElem? (i := 73) rfl)))) (mvT hZ (hw _ (List.mem_of_getElem? (i := 73) rfl))) (mvT hZ (hw _ (List.mem_of_getElem? (i := 72) rfl))) (by decide) (backOf (W := 0) (rmSize l Z a0 hw [] p (2 : Int32) T178.heap n0 F179 Q178_5) hZ (hw _ (List.mem_of_getElem? (i := 74) rfl)) (hw _ (List.mem_of_getElem? (i := 2) rfl)) (by decide) (by decide)) q180a q180c (g := (mkF m 158 #[.val (.int q0), .val (.int q1), .val (.int q2), .val (.int q3), .val (.ref p), .val (.ref t1), .val (.ref t2), .val (.ref n1), .val (.ref n2), .val (.int (1 : Int32)), .unset] [(.ref p)])) rfl (by rw [hml]; rfl) (Steps.refl _) (argsL := []) (rest := []) (lenOf pd_140 rfl) rfl (by show 2 * 0 + _ ≤ _; exact Nat.le_of_eq rfl) (hb hby at_158) (fun _ _ => ⟨rfl, rfl, (by decide : 9 + 0 ≤ _), (by decide : 97 + 0 ≤ _)⟩)
  dsimp only [Pt.U, Pt.locs, Pt.cells, Pt.slots] at X180 l180 y180 z180 st180 hQ180
  subst l180 y180 z180
  obtain ⟨rfl, N180q, e180⟩ := hQ180
  have N180 := Fr.app N178 N180q
  refine Go.to st180 ?_
  show Go _ _ _ _ T180 (mkF m 161 #[.val (.int q0), .val (.int q1), .val (.int q2), .val (.int q3), .val (.ref p), .val (.ref t1), .val (.ref t2), .val (.ref n1), .val (.ref n2), .val (.int (1 : Int32)), .unset] [(.int (2 : Int32))])
  refine Go.by (fun _ gk => XT.iconstV X180.here hx rfl (2 : Int32) (hb hby at_161) (by decide) gk) ?_
  show Go _ _ _ _ T180 (mkF m 162 #[.val (.int q0), .val (.int q1), .val (.int q2), .val (.int q3), .val (.ref p), .val (.ref t1), .val (.ref t2), .val (.ref n1), .val (.ref n2), .val (.int (1 : Int32)), .unset] [(.int (2 : Int32)), (.int (2 : Int32))])
  refine Go.by (fun _ gk => XS.icmpNo X180.here hx rfl (hb hby at_162) rfl (XT.ii_ne_f rfl) gk) ?_
  show Go _ _ _ _ T180 (mkF m 165 #[.val (.int q0), .val (.int q1), .val (.int q2), .val (.int q3), .val (.ref p), .val (.ref t1), .val (.ref t2), .val (.ref n1), .val (.ref n2), .val (.int (1 : Int32)), .unset] [])
  refine Go.by (fun _ gk => XS.aload X180.here hx rfl (hb hby at_165) rfl rfl gk) ?_
  show Go _ _ _ _ T180 (mkF m 167 #[.val (.int q0), .val (.int q1), .val (.int q2), .val (.int q3), .val (.ref p), .val (.ref t1), .val (.ref t2), .val (.ref n1), .val (.ref n2), .val (.int (1 : Int32)), .unset] [(.ref p)])
  refine Go.by (fun _ gk => XT.iconstV X180.here hx rfl (0 : Int32) (hb hby at_167) (by decide) gk) ?_
  show Go _ _ _ _ T180 (mkF m 168 #[.val (.int q0), .val (.int q1), .val (.int q2), .val (.int q3), .val (.ref p), .val (.ref t1), .val (.ref t2), .val (.ref n1), .val (.ref n2), .val (.int (1 : Int32)), .unset] [(.int (0 : Int32)), (.ref p)])
  obtain ⟨cq181, kq181, q181a, q181b, q181c⟩ := isOf hZ e180 Q178_0
  obtain ⟨_, _, ⟨T181, L181, k181, n181⟩, -, X181, ⟨Lc181, hQ181, l181, y181, z181⟩, st181⟩ := X180.virtualBack hx (y := (⟨"com/example/sessionkeep/sessionkeep/codec/ObjectStreamShape$Puts", "table", "(I)I"⟩ : MethodName)) (z := (⟨"com/example/sessionkeep/sessionkeep/codec/ObjectStreamShape$Puts", "table", "(I)I"⟩ : MethodName)) hown (mvT hZ (hw _ (List.mem_of_getElem? (i := 89) rfl))) (mvT hZ (hw _ (List.mem_of_getElem? (i := 90) rfl))) (notFace_of_selects (args := #[]) (mvT hZ (hw _ (List.mem_of_getElem? (i := 92) rfl)))) (mvT hZ (hw _ (List.mem_of_getElem? (i := 92) rfl))) (mvT hZ (hw _ (List.mem_of_getElem? (i := 91) rfl))) (by decide) (backOf (W := 0) (rmGet_table l Z a0 hw [] p (0 : Int32) tb kk1_4 ([(.int q0), (.int q1), (.int (0 : Int32)), (.int (0 : Int32)), (.int (0 : Int32)), (.int (0 : Int32)), (.int (0 : Int32)), (.int (0 : Int32)), (.int (0 : Int32)), (.int (0 : Int32)), (.int (0 : Int32)), (.int (0 : Int32)), (.int (0 : Int32)), (.int (0 : Int32)), (.int (0 : Int32)), (.int (0 : Int32))]) q0 T178.heap n0 F179 Q178_1 Q178_6 (⟨by decide, by decide⟩) rfl) hZ (hw _ (List.mem_of_getElem? (i := 93) rfl)) (hw _ (List.mem_of_getElem? (i := 2) rfl)) (by decide) (by decide)) q181a q181c (g := (mkF m 168 #[.val (.int q0), .val (.int q1), .val (.int q2), .val (.int q3), .val (.ref p), .val (.ref t1), .val (.ref t2), .val (.ref n1), .val (.ref n2), .val (.int (1 : Int32)), .unset] [(.int (0 : Int32)), (.ref p)])) rfl (by rw [hml]; rfl) (Steps.refl _) (argsL := [(.int (0 : Int32))]) (rest := []) (lenOf pd_177 rfl) rfl (by show 2 * 0 + _ ≤ _; exact Nat.le_of_eq rfl) (hb hby at_168) (fun _ _ => ⟨rfl, e180, (by decide : 9 + 0 ≤ _), (by decide : 97 + 0 ≤ _)⟩)
  dsimp only [Pt.U, Pt.locs, Pt.cells, Pt.slots] at X181 l181 y181 z181 st181 hQ181
  subst l181 y181 z181
  obtain ⟨rfl, N181q, e181⟩ := hQ181
  have N181 := Fr.app N180 N181q
  refine Go.to st181 ?_
  show Go _ _ _ _ T181 (mkF m 171 #[.val (.int q0), .val (.int q1), .val (.int q2), .val (.int q3), .val (.ref p), .val (.ref t1), .val (.ref t2), .val (.ref n1), .val (.ref n2), .val (.int (1 : Int32)), .unset] [(.int q0)])
  refine Go.by (fun _ gk => XS.iloadN X181.here hx rfl (hb hby at_171) rfl gk) ?_
  show Go _ _ _ _ T181 (mkF m 172 #[.val (.int q0), .val (.int q1), .val (.int q2), .val (.int q3), .val (.ref p), .val (.ref t1), .val (.ref t2), .val (.ref n1), .val (.ref n2), .val (.int (1 : Int32)), .unset] [(.int q0), (.int q0)])
  refine Go.by (fun _ gk => XS.icmpNo X181.here hx rfl (hb hby at_172) rfl (XT.ii_ne_f rfl) gk) ?_
  show Go _ _ _ _ T181 (mkF m 175 #[.val (.int q0), .val (.int q1), .val (.int q2), .val (.int q3), .val (.ref p), .val (.ref t1), .val (.ref t2), .val (.ref n1), .val (.ref n2), .val (.int (1 : Int32)), .unset] [])
  refine Go.by (fun _ gk => XS.aload X181.here hx rfl (hb hby at_175) rfl rfl gk) ?_
  show Go _ _ _ _ T181 (mkF m 177 #[.val (.int q0), .val (.int q1), .val (.int q2), .val (.int q3), .val (.ref p), .val (.ref t1), .val (.ref t2), .val (.ref n1), .val (.ref n2), .val (.int (1 : Int32)), .unset] [(.ref p)])
  refine Go.by (fun _ gk => XT.iconstV X181.here hx rfl (0 : Int32) (hb hby at_177) (by decide) gk) ?_
  show Go _ _ _ _ T181 (mkF m 178 #[.val (.int q0), .val (.int q1), .val (.int q2), .val (.int q3), .val (.ref p), .val (.ref t1), .val (.ref t2), .val (.ref n1), .val (.ref n2), .val (.int (1 : Int32)), .unset] [(.int (0 : Int32)), (.ref p)])
  obtain ⟨cq182, kq182, q182a, q182b, q182c⟩ := isOf hZ e181 Q178_0
  obtain ⟨_, _, ⟨T182, L182, k182, n182⟩, -, X182, ⟨Lc182, hQ182, l182, y182, z182⟩, st182⟩ := X181.virtualBack hx (y := (⟨"com/example/sessionkeep/sessionkeep/codec/ObjectStreamShape$Puts", "key", "(I)I"⟩ : MethodName)) (z := (⟨"com/example/sessionkeep/sessionkeep/codec/ObjectStreamShape$Puts", "key", "(I)I"⟩ : MethodName)) hown (mvT hZ (hw _ (List.mem_of_getElem? (i := 94) rfl))) (mvT hZ (hw _ (List.mem_of_getElem? (i := 95) rfl))) (notFace_of_selects (args := #[]) (mvT hZ (hw _ (List.mem_of_getElem? (i := 97) rfl)))) (mvT hZ (hw _ (List.mem_of_getElem? (i := 97) rfl))) (mvT hZ (hw _ (List.mem_of_getElem? (i := 96) rfl))) (by decide) (backOf (W := 0) (rmGet_key l Z a0 hw [] p (0 : Int32) kb kk2_4 ([(.int (-1 : Int32)), (.int (-1 : Int32)), (.int (0 : Int32)), (.int (0 : Int32)), (.int (0 : Int32)), (.int (0 : Int32)), (.int (0 : Int32)), (.int (0 : Int32)), (.int (0 : Int32)), (.int (0 : Int32)), (.int (0 : Int32)), (.int (0 : Int32)), (.int (0 : Int32)), (.int (0 : Int32)), (.int (0 : Int32)), (.int (0 : Int32))]) (-1 : Int32) T178.heap n0 F179 Q178_2 Q178_7 (⟨by decide, by decide⟩) rfl) hZ (hw _ (List.mem_of_getElem? (i := 98) rfl)) (hw _ (List.mem_of_getElem? (i := 2) rfl)) (by decide) (by decide)) q182a q182c (g := (mkF m 178 #[.val (.int q0), .val (.int q1), .val (.int q2), .val (.int q3), .val (.ref p), .val (.ref t1), .val (.ref t2), .val (.ref n1), .val (.ref n2), .val (.int (1 : Int32)), .unset] [(.int (0 : Int32)), (.ref p)])) rfl (by rw [hml]; rfl) (Steps.refl _) (argsL := [(.int (0 : Int32))]) (rest := []) (lenOf pd_177 rfl) rfl (by show 2 * 0 + _ ≤ _; exact Nat.le_of_eq rfl) (hb hby at_178) (fun _ _ => ⟨rfl, e181, (by decide : 9 + 0 ≤ _), (by decide : 97 + 0 ≤ _)⟩)
  dsimp only [Pt.U, Pt.locs, Pt.cells, Pt.slots] at X182 l182 y182 z182 st182 hQ182
  subst l182 y182 z182
  obtain ⟨rfl, N182q, e182⟩ := hQ182
  have N182 := Fr.app N181 N182q
  refine Go.to st182 ?_
  show Go _ _ _ _ T182 (mkF m 181 #[.val (.int q0), .val (.int q1), .val (.int q2), .val (.int q3), .val (.ref p), .val (.ref t1), .val (.ref t2), .val (.ref n1), .val (.ref n2), .val (.int (1 : Int32)), .unset] [(.int (-1 : Int32))])
  refine Go.by (fun _ gk => XT.iconstV X182.here hx rfl (-1 : Int32) (hb hby at_181) (by decide) gk) ?_
  show Go _ _ _ _ T182 (mkF m 182 #[.val (.int q0), .val (.int q1), .val (.int q2), .val (.int q3), .val (.ref p), .val (.ref t1), .val (.ref t2), .val (.ref n1), .val (.ref n2), .val (.int (1 : Int32)), .unset] [(.int (-1 : Int32)), (.int (-1 : Int32))])
  refine Go.by (fun _ gk => XS.icmpNo X182.here hx rfl (hb hby at_182) rfl (XT.ii_ne_f rfl) gk) ?_
  show Go _ _ _ _ T182 (mkF m 185 #[.val (.int q0), .val (.int q1), .val (.int q2), .val (.int q3), .val (.ref p), .val (.ref t1), .val (.ref t2), .val (.ref n1), .val (.ref n2), .val (.int (1 : Int32)), .unset] [])
  refine Go.by (fun _ gk => XS.aload X182.here hx rfl (hb hby at_185) rfl rfl gk) ?_
  show Go _ _ _ _ T182 (mkF m 187 #[.val (.int q0), .val (.int q1), .val (.int q2), .val (.int q3), .val (.ref p), .val (.ref t1), .val (.ref t2), .val (.ref n1), .val (.ref n2), .val (.int (1 : Int32)), .unset] [(.ref p)])
  refine Go.by (fun _ gk => XT.iconstV X182.here hx rfl (0 : Int32) (hb hby at_187) (by decide) gk) ?_
  show Go _ _ _ _ T182 (mkF m 188 #[.val (.int q0), .val (.int q1), .val (.int q2), .val (.int q3), .val (.ref p), .val (.ref t1), .val (.ref t2), .val (.ref n1), .val (.ref n2), .val (.int (1 : Int32)), .unset] [(.int (0 : Int32)), (.ref p)])
  obtain ⟨cq183, kq183, q183a, q183b, q183c⟩ := isOf hZ e182 Q178_0
  obtain ⟨_, _, ⟨T183, L183, k183, n183⟩, -, X183, ⟨Lc183, hQ183, l183, y183, z183⟩, st183⟩ := X182.virtualBack hx (y := (⟨"com/example/sessionkeep/sessionkeep/codec/ObjectStreamShape$Puts", "weight", "(I)J"⟩ : MethodName)) (z := (⟨"com/example/sessionkeep/sessionkeep/codec/ObjectStreamShape$Puts", "weight", "(I)J"⟩ : MethodName)) hown (mvT hZ (hw _ (List.mem_of_getElem? (i := 99) rfl))) (mvT hZ (hw _ (List.mem_of_getElem? (i := 100) rfl))) (notFace_of_selects (args := #[]) (mvT hZ (hw _ (List.mem_of_getElem? (i := 102) rfl)))) (mvT hZ (hw _ (List.mem_of_getElem? (i := 102) rfl))) (mvT hZ (hw _ (List.mem_of_getElem? (i := 101) rfl))) (by decide) (backOf (W := 0) (rmGet_weight l Z a0 hw [] p (0 : Int32) wb kk3_4 ([(.long (1 : Int64)), (.long ((1 : Int64) + (1 : Int64))), (.long (0 : Int64)), (.long (0 : Int64)), (.long (0 : Int64)), (.long (0 : Int64)), (.long (0 : Int64)), (.long (0 : Int64)), (.long (0 : Int64)), (.long (0 : Int64)), (.long (0 : Int64)), (.long (0 : Int64)), (.long (0 : Int64)), (.long (0 : Int64)), (.long (0 : Int64)), (.long (0 : Int64))]) (1 : Int64) T178.heap n0 F179 Q178_3 Q178_8 (⟨by decide, by decide⟩) rfl) hZ (hw _ (List.mem_of_getElem? (i := 103) rfl)) (hw _ (List.mem_of_getElem? (i := 2) rfl)) (by decide) (by decide)) q183a q183c (g := (mkF m 188 #[.val (.int q0), .val (.int q1), .val (.int q2), .val (.int q3), .val (.ref p), .val (.ref t1), .val (.ref t2), .val (.ref n1), .val (.ref n2), .val (.int (1 : Int32)), .unset] [(.int (0 : Int32)), (.ref p)])) rfl (by rw [hml]; rfl) (Steps.refl _) (argsL := [(.int (0 : Int32))]) (rest := []) (lenOf pd_178 rfl) rfl (by show 2 * 0 + _ ≤ _; exact Nat.le_of_eq rfl) (hb hby at_188) (fun _ _ => ⟨rfl, e182, (by decide : 9 + 0 ≤ _), (by decide : 97 + 0 ≤ _)⟩)
  dsimp only [Pt.U, Pt.locs, Pt.cells, Pt.slots] at X183 l183 y183 z183 st183 hQ183
  subst l183 y183 z183
  obtain ⟨rfl, N183q, e183⟩ := hQ183
  have N183 := Fr.app N182 N183q
  refine Go.to st183 ?_
  show Go _ _ _ _ T183 (mkF m 191 #[.val (.int q0), .val (.int q1), .val (.int q2), .val (.int q3), .val (.ref p), .val (.ref t1), .val (.ref t2), .val (.ref n1), .val (.ref n2), .val (.int (1 : Int32)), .unset] [(.long (1 : Int64))])
  refine Go.by (fun _ gk => XT.lconstV X183.here hx rfl (1 : Int64) (hb hby at_191) (by decide) gk) ?_
  show Go _ _ _ _ T183 (mkF m 192 #[.val (.int q0), .val (.int q1), .val (.int q2), .val (.int q3), .val (.ref p), .val (.ref t1), .val (.ref t2), .val (.ref n1), .val (.ref n2), .val (.int (1 : Int32)), .unset] [(.long (1 : Int64)), (.long (1 : Int64))])
  refine Go.by (fun _ gk => XT.lcmp X183.here hx rfl (hb hby at_192) rfl gk) ?_
  show Go _ _ _ _ T183 (mkF m 193 #[.val (.int q0), .val (.int q1), .val (.int q2), .val (.int q3), .val (.ref p), .val (.ref t1), .val (.ref t2), .val (.ref n1), .val (.ref n2), .val (.int (1 : Int32)), .unset] [(.int (XT.cmpL (1 : Int64) (1 : Int64)))])
  refine Go.by (fun _ gk => XS.ifNo X183.here hx rfl (hb hby at_193) rfl (XT.ll_ne_f (by decide : (1 : Int64) = (1 : Int64))) gk) ?_
  show Go _ _ _ _ T183 (mkF m 196 #[.val (.int q0), .val (.int q1), .val (.int q2), .val (.int q3), .val (.ref p), .val (.ref t1), .val (.ref t2), .val (.ref n1), .val (.ref n2), .val (.int (1 : Int32)), .unset] [])
  refine Go.by (fun _ gk => XS.aload X183.here hx rfl (hb hby at_196) rfl rfl gk) ?_
  show Go _ _ _ _ T183 (mkF m 198 #[.val (.int q0), .val (.int q1), .val (.int q2), .val (.int q3), .val (.ref p), .val (.ref t1), .val (.ref t2), .val (.ref n1), .val (.ref n2), .val (.int (1 : Int32)), .unset] [(.ref p)])
  refine Go.by (fun _ gk => XT.iconstV X183.here hx rfl (0 : Int32) (hb hby at_198) (by decide) gk) ?_
  show Go _ _ _ _ T183 (mkF m 199 #[.val (.int q0), .val (.int q1), .val (.int q2), .val (.int q3), .val (.ref p), .val (.ref t1), .val (.ref t2), .val (.ref n1), .val (.ref n2), .val (.int (1 : Int32)), .unset] [(.int (0 : Int32)), (.ref p)])
  obtain ⟨cq184, kq184, q184a, q184b, q184c⟩ := isOf hZ e183 Q178_0
  obtain ⟨_, _, ⟨T184, L184, k184, n184⟩, -, X184, ⟨Lc184, hQ184, l184, y184, z184⟩, st184⟩ := X183.virtualBack hx (y := (⟨"com/example/sessionkeep/sessionkeep/codec/ObjectStreamShape$Puts", "after", "(I)I"⟩ : MethodName)) (z := (⟨"com/example/sessionkeep/sessionkeep/codec/ObjectStreamShape$Puts", "after", "(I)I"⟩ : MethodName)) hown (mvT hZ (hw _ (List.mem_of_getElem? (i := 104) rfl))) (mvT hZ (hw _ (List.mem_of_getElem? (i := 105) rfl))) (notFace_of_selects (args := #[]) (mvT hZ (hw _ (List.mem_of_getElem? (i := 107) rfl)))) (mvT hZ (hw _ (List.mem_of_getElem? (i := 107) rfl))) (mvT hZ (hw _ (List.mem_of_getElem? (i := 106) rfl))) (by decide) (backOf (W := 0) (rmGet_after l Z a0 hw [] p (0 : Int32) ab kk4_4 ([(.int q2), (.int q3), (.int (0 : Int32)), (.int (0 : Int32)), (.int (0 : Int32)), (.int (0 : Int32)), (.int (0 : Int32)), (.int (0 : Int32)), (.int (0 : Int32)), (.int (0 : Int32)), (.int (0 : Int32)), (.int (0 : Int32)), (.int (0 : Int32)), (.int (0 : Int32)), (.int (0 : Int32)), (.int (0 : Int32))]) q2 T178.heap n0 F179 Q178_4 Q178_9 (⟨by decide, by decide⟩) rfl) hZ (hw _ (List.mem_of_getElem? (i := 108) rfl)) (hw _ (List.mem_of_getElem? (i := 2) rfl)) (by decide) (by decide)) q184a q184c (g := (mkF m 199 #[.val (.int q0), .val (.int q1), .val (.int q2), .val (.int q3), .val (.ref p), .val (.ref t1), .val (.ref t2), .val (.ref n1), .val (.ref n2), .val (.int (1 : Int32)), .unset] [(.int (0 : Int32)), (.ref p)])) rfl (by rw [hml]; rfl) (Steps.refl _) (argsL := [(.int (0 : Int32))]) (rest := []) (lenOf pd_177 rfl) rfl (by show 2 * 0 + _ ≤ _; exact Nat.le_of_eq rfl) (hb hby at_199) (fun _ _ => ⟨rfl, e183, (by decide : 9 + 0 ≤ _), (by decide : 97 + 0 ≤ _)⟩)
  dsimp only [Pt.U, Pt.locs, Pt.cells, Pt.slots] at X184 l184 y184 z184 st184 hQ184
  subst l184 y184 z184
  obtain ⟨rfl, N184q, e184⟩ := hQ184
  have N184 := Fr.app N183 N184q
  refine Go.to st184 ?_
  show Go _ _ _ _ T184 (mkF m 202 #[.val (.int q0), .val (.int q1), .val (.int q2), .val (.int q3), .val (.ref p), .val (.ref t1), .val (.ref t2), .val (.ref n1), .val (.ref n2), .val (.int (1 : Int32)), .unset] [(.int q2)])
  refine Go.by (fun _ gk => XS.iloadN X184.here hx rfl (hb hby at_202) rfl gk) ?_
  show Go _ _ _ _ T184 (mkF m 203 #[.val (.int q0), .val (.int q1), .val (.int q2), .val (.int q3), .val (.ref p), .val (.ref t1), .val (.ref t2), .val (.ref n1), .val (.ref n2), .val (.int (1 : Int32)), .unset] [(.int q2), (.int q2)])
  refine Go.by (fun _ gk => XS.icmpNo X184.here hx rfl (hb hby at_203) rfl (XT.ii_ne_f rfl) gk) ?_
  show Go _ _ _ _ T184 (mkF m 206 #[.val (.int q0), .val (.int q1), .val (.int q2), .val (.int q3), .val (.ref p), .val (.ref t1), .val (.ref t2), .val (.ref n1), .val (.ref n2), .val (.int (1 : Int32)), .unset] [])
  refine Go.by (fun _ gk => XS.aload X184.here hx rfl (hb hby at_206) rfl rfl gk) ?_
  show Go _ _ _ _ T184 (mkF m 208 #[.val (.int q0), .val (.int q1), .val (.int q2), .val (.int q3), .val (.ref p), .val (.ref t1), .val (.ref t2), .val (.ref n1), .val (.ref n2), .val (.int (1 : Int32)), .unset] [(.ref p)])
  refine Go.by (fun _ gk => XT.iconstV X184.here hx rfl (1 : Int32) (hb hby at_208) (by decide) gk) ?_
  show Go _ _ _ _ T184 (mkF m 209 #[.val (.int q0), .val (.int q1), .val (.int q2), .val (.int q3), .val (.ref p), .val (.ref t1), .val (.ref t2), .val (.ref n1), .val (.ref n2), .val (.int (1 : Int32)), .unset] [(.int (1 : Int32)), (.ref p)])
  obtain ⟨cq185, kq185, q185a, q185b, q185c⟩ := isOf hZ e184 Q178_0
  obtain ⟨_, _, ⟨T185, L185, k185, n185⟩, -, X185, ⟨Lc185, hQ185, l185, y185, z185⟩, st185⟩ := X184.virtualBack hx (y := (⟨"com/example/sessionkeep/sessionkeep/codec/ObjectStreamShape$Puts", "table", "(I)I"⟩ : MethodName)) (z := (⟨"com/example/sessionkeep/sessionkeep/codec/ObjectStreamShape$Puts", "table", "(I)I"⟩ : MethodName)) hown (mvT hZ (hw _ (List.mem_of_getElem? (i := 89) rfl))) (mvT hZ (hw _ (List.mem_of_getElem? (i := 90) rfl))) (notFace_of_selects (args := #[]) (mvT hZ (hw _ (List.mem_of_getElem? (i := 92) rfl)))) (mvT hZ (hw _ (List.mem_of_getElem? (i := 92) rfl))) (mvT hZ (hw _ (List.mem_of_getElem? (i := 91) rfl))) (by decide) (backOf (W := 0) (rmGet_table l Z a0 hw [] p (1 : Int32) tb kk1_4 ([(.int q0), (.int q1), (.int (0 : Int32)), (.int (0 : Int32)), (.int (0 : Int32)), (.int (0 : Int32)), (.int (0 : Int32)), (.int (0 : Int32)), (.int (0 : Int32)), (.int (0 : Int32)), (.int (0 : Int32)), (.int (0 : Int32)), (.int (0 : Int32)), (.int (0 : Int32)), (.int (0 : Int32)), (.int (0 : Int32))]) q1 T178.heap n0 F179 Q178_1 Q178_6 (⟨by decide, by decide⟩) rfl) hZ (hw _ (List.mem_of_getElem? (i := 93) rfl)) (hw _ (List.mem_of_getElem? (i := 2) rfl)) (by decide) (by decide)) q185a q185c (g := (mkF m 209 #[.val (.int q0), .val (.int q1), .val (.int q2), .val (.int q3), .val (.ref p), .val (.ref t1), .val (.ref t2), .val (.ref n1), .val (.ref n2), .val (.int (1 : Int32)), .unset] [(.int (1 : Int32)), (.ref p)])) rfl (by rw [hml]; rfl) (Steps.refl _) (argsL := [(.int (1 : Int32))]) (rest := []) (lenOf pd_177 rfl) rfl (by show 2 * 0 + _ ≤ _; exact Nat.le_of_eq rfl) (hb hby at_209) (fun _ _ => ⟨rfl, e184, (by decide : 9 + 0 ≤ _), (by decide : 97 + 0 ≤ _)⟩)
  dsimp only [Pt.U, Pt.locs, Pt.cells, Pt.slots] at X185 l185 y185 z185 st185 hQ185
  subst l185 y185 z185
  obtain ⟨rfl, N185q, e185⟩ := hQ185
  have N185 := Fr.app N184 N185q
  refine Go.to st185 ?_
  show Go _ _ _ _ T185 (mkF m 212 #[.val (.int q0), .val (.int q1), .val (.int q2), .val (.int q3), .val (.ref p), .val (.ref t1), .val (.ref t2), .val (.ref n1), .val (.ref n2), .val (.int (1 : Int32)), .unset] [(.int q1)])
  refine Go.by (fun _ gk => XS.iloadN X185.here hx rfl (hb hby at_212) rfl gk) ?_
  show Go _ _ _ _ T185 (mkF m 213 #[.val (.int q0), .val (.int q1), .val (.int q2), .val (.int q3), .val (.ref p), .val (.ref t1), .val (.ref t2), .val (.ref n1), .val (.ref n2), .val (.int (1 : Int32)), .unset] [(.int q1), (.int q1)])
  refine Go.by (fun _ gk => XS.icmpNo X185.here hx rfl (hb hby at_213) rfl (XT.ii_ne_f rfl) gk) ?_
  show Go _ _ _ _ T185 (mkF m 216 #[.val (.int q0), .val (.int q1), .val (.int q2), .val (.int q3), .val (.ref p), .val (.ref t1), .val (.ref t2), .val (.ref n1), .val (.ref n2), .val (.int (1 : Int32)), .unset] [])
  refine Go.by (fun _ gk => XS.aload X185.here hx rfl (hb hby at_216) rfl rfl gk) ?_
  show Go _ _ _ _ T185 (mkF m 218 #[.val (.int q0), .val (.int q1), .val (.int q2), .val (.int q3), .val (.ref p), .val (.ref t1), .val (.ref t2), .val (.ref n1), .val (.ref n2), .val (.int (1 : Int32)), .unset] [(.ref p)])
  refine Go.by (fun _ gk => XT.iconstV X185.here hx rfl (1 : Int32) (hb hby at_218) (by decide) gk) ?_
  show Go _ _ _ _ T185 (mkF m 219 #[.val (.int q0), .val (.int q1), .val (.int q2), .val (.int q3), .val (.ref p), .val (.ref t1), .val (.ref t2), .val (.ref n1), .val (.ref n2), .val (.int (1 : Int32)), .unset] [(.int (1 : Int32)), (.ref p)])
  obtain ⟨cq186, kq186, q186a, q186b, q186c⟩ := isOf hZ e185 Q178_0
  obtain ⟨_, _, ⟨T186, L186, k186, n186⟩, -, X186, ⟨Lc186, hQ186, l186, y186, z186⟩, st186⟩ := X185.virtualBack hx (y := (⟨"com/example/sessionkeep/sessionkeep/codec/ObjectStreamShape$Puts", "key", "(I)I"⟩ : MethodName)) (z := (⟨"com/example/sessionkeep/sessionkeep/codec/ObjectStreamShape$Puts", "key", "(I)I"⟩ : MethodName)) hown (mvT hZ (hw _ (List.mem_of_getElem? (i := 94) rfl))) (mvT hZ (hw _ (List.mem_of_getElem? (i := 95) rfl))) (notFace_of_selects (args := #[]) (mvT hZ (hw _ (List.mem_of_getElem? (i := 97) rfl)))) (mvT hZ (hw _ (List.mem_of_getElem? (i := 97) rfl))) (mvT hZ (hw _ (List.mem_of_getElem? (i := 96) rfl))) (by decide) (backOf (W := 0) (rmGet_key l Z a0 hw [] p (1 : Int32) kb kk2_4 ([(.int (-1 : Int32)), (.int (-1 : Int32)), (.int (0 : Int32)), (.int (0 : Int32)), (.int (0 : Int32)), (.int (0 : Int32)), (.int (0 : Int32)), (.int (0 : Int32)), (.int (0 : Int32)), (.int (0 : Int32)), (.int (0 : Int32)), (.int (0 : Int32)), (.int (0 : Int32)), (.int (0 : Int32)), (.int (0 : Int32)), (.int (0 : Int32))]) (-1 : Int32) T178.heap n0 F179 Q178_2 Q178_7 (⟨by decide, by decide⟩) rfl) hZ (hw _ (List.mem_of_getElem? (i := 98) rfl)) (hw _ (List.mem_of_getElem? (i := 2) rfl)) (by decide) (by decide)) q186a q186c (g := (mkF m 219 #[.val (.int q0), .val (.int q1), .val (.int q2), .val (.int q3), .val (.ref p), .val (.ref t1), .val (.ref t2), .val (.ref n1), .val (.ref n2), .val (.int (1 : Int32)), .unset] [(.int (1 : Int32)), (.ref p)])) rfl (by rw [hml]; rfl) (Steps.refl _) (argsL := [(.int (1 : Int32))]) (rest := []) (lenOf pd_177 rfl) rfl (by show 2 * 0 + _ ≤ _; exact Nat.le_of_eq rfl) (hb hby at_219) (fun _ _ => ⟨rfl, e185, (by decide : 9 + 0 ≤ _), (by decide : 97 + 0 ≤ _)⟩)
  dsimp only [Pt.U, Pt.locs, Pt.cells, Pt.slots] at X186 l186 y186 z186 st186 hQ186
  subst l186 y186 z186
  obtain ⟨rfl, N186q, e186⟩ := hQ186
  have N186 := Fr.app N185 N186q
  refine Go.to st186 ?_
  show Go _ _ _ _ T186 (mkF m 222 #[.val (.int q0), .val (.int q1), .val (.int q2), .val (.int q3), .val (.ref p), .val (.ref t1), .val (.ref t2), .val (.ref n1), .val (.ref n2), .val (.int (1 : Int32)), .unset] [(.int (-1 : Int32))])
  refine Go.by (fun _ gk => XT.iconstV X186.here hx rfl (-1 : Int32) (hb hby at_222) (by decide) gk) ?_
  show Go _ _ _ _ T186 (mkF m 223 #[.val (.int q0), .val (.int q1), .val (.int q2), .val (.int q3), .val (.ref p), .val (.ref t1), .val (.ref t2), .val (.ref n1), .val (.ref n2), .val (.int (1 : Int32)), .unset] [(.int (-1 : Int32)), (.int (-1 : Int32))])
  refine Go.by (fun _ gk => XS.icmpNo X186.here hx rfl (hb hby at_223) rfl (XT.ii_ne_f rfl) gk) ?_
  show Go _ _ _ _ T186 (mkF m 226 #[.val (.int q0), .val (.int q1), .val (.int q2), .val (.int q3), .val (.ref p), .val (.ref t1), .val (.ref t2), .val (.ref n1), .val (.ref n2), .val (.int (1 : Int32)), .unset] [])
  refine Go.by (fun _ gk => XS.aload X186.here hx rfl (hb hby at_226) rfl rfl gk) ?_
  show Go _ _ _ _ T186 (mkF m 228 #[.val (.int q0), .val (.int q1), .val (.int q2), .val (.int q3), .val (.ref p), .val (.ref t1), .val (.ref t2), .val (.ref n1), .val (.ref n2), .val (.int (1 : Int32)), .unset] [(.ref p)])
  refine Go.by (fun _ gk => XT.iconstV X186.here hx rfl (1 : Int32) (hb hby at_228) (by decide) gk) ?_
  show Go _ _ _ _ T186 (mkF m 229 #[.val (.int q0), .val (.int q1), .val (.int q2), .val (.int q3), .val (.ref p), .val (.ref t1), .val (.ref t2), .val (.ref n1), .val (.ref n2), .val (.int (1 : Int32)), .unset] [(.int (1 : Int32)), (.ref p)])
  obtain ⟨cq187, kq187, q187a, q187b, q187c⟩ := isOf hZ e186 Q178_0
  obtain ⟨_, _, ⟨T187, L187, k187, n187⟩, -, X187, ⟨Lc187, hQ187, l187, y187, z187⟩, st187⟩ := X186.virtualBack hx (y := (⟨"com/example/sessionkeep/sessionkeep/codec/ObjectStreamShape$Puts", "weight", "(I)J"⟩ : MethodName)) (z := (⟨"com/example/sessionkeep/sessionkeep/codec/ObjectStreamShape$Puts", "weight", "(I)J"⟩ : MethodName)) hown (mvT hZ (hw _ (List.mem_of_getElem? (i := 99) rfl))) (mvT hZ (hw _ (List.mem_of_getElem? (i := 100) rfl))) (notFace_of_selects (args := #[]) (mvT hZ (hw _ (List.mem_of_getElem? (i := 102) rfl)))) (mvT hZ (hw _ (List.mem_of_getElem? (i := 102) rfl))) (mvT hZ (hw _ (List.mem_of_getElem? (i := 101) rfl))) (by decide) (backOf (W := 0) (rmGet_weight l Z a0 hw [] p (1 : Int32) wb kk3_4 ([(.long (1 : Int64)), (.long ((1 : Int64) + (1 : Int64))), (.long (0 : Int64)), (.long (0 : Int64)), (.long (0 : Int64)), (.long (0 : Int64)), (.long (0 : Int64)), (.long (0 : Int64)), (.long (0 : Int64)), (.long (0 : Int64)), (.long (0 : Int64)), (.long (0 : Int64)), (.long (0 : Int64)), (.long (0 : Int64)), (.long (0 : Int64)), (.long (0 : Int64))]) ((1 : Int64) + (1 : Int64)) T178.heap n0 F179 Q178_3 Q178_8 (⟨by decide, by decide⟩) rfl) hZ (hw _ (List.mem_of_getElem? (i := 103) rfl)) (hw _ (List.mem_of_getElem? (i := 2) rfl)) (by decide) (by decide)) q187a q187c (g := (mkF m 229 #[.val (.int q0), .val (.int q1), .val (.int q2), .val (.int q3), .val (.ref p), .val (.ref t1), .val (.ref t2), .val (.ref n1), .val (.ref n2), .val (.int (1 : Int32)), .unset] [(.int (1 : Int32)), (.ref p)])) rfl (by rw [hml]; rfl) (Steps.refl _) (argsL := [(.int (1 : Int32))]) (rest := []) (lenOf pd_178 rfl) rfl (by show 2 * 0 + _ ≤ _; exact Nat.le_of_eq rfl) (hb hby at_229) (fun _ _ => ⟨rfl, e186, (by decide : 9 + 0 ≤ _), (by decide : 97 + 0 ≤ _)⟩)
  dsimp only [Pt.U, Pt.locs, Pt.cells, Pt.slots] at X187 l187 y187 z187 st187 hQ187
  subst l187 y187 z187
  obtain ⟨rfl, N187q, e187⟩ := hQ187
  have N187 := Fr.app N186 N187q
  refine Go.to st187 ?_
  show Go _ _ _ _ T187 (mkF m 232 #[.val (.int q0), .val (.int q1), .val (.int q2), .val (.int q3), .val (.ref p), .val (.ref t1), .val (.ref t2), .val (.ref n1), .val (.ref n2), .val (.int (1 : Int32)), .unset] [(.long ((1 : Int64) + (1 : Int64)))])
  refine Go.by (fun _ gk => X187.ldc2J hx hown (mvT hZ (hw _ (List.mem_of_getElem? (i := 109) rfl))) (g := (mkF m 232 #[.val (.int q0), .val (.int q1), .val (.int q2), .val (.int q3), .val (.ref p), .val (.ref t1), .val (.ref t2), .val (.ref n1), .val (.ref n2), .val (.int (1 : Int32)), .unset] [(.long ((1 : Int64) + (1 : Int64)))])) rfl (hb hby at_232) gk) ?_
  show Go _ _ _ _ T187 (mkF m 235 #[.val (.int q0), .val (.int q1), .val (.int q2), .val (.int q3), .val (.ref p), .val (.ref t1), .val (.ref t2), .val (.ref n1), .val (.ref n2), .val (.int (1 : Int32)), .unset] [(.long (2 : Int64)), (.long ((1 : Int64) + (1 : Int64)))])
  refine Go.by (fun _ gk => XT.lcmp X187.here hx rfl (hb hby at_235) rfl gk) ?_
  show Go _ _ _ _ T187 (mkF m 236 #[.val (.int q0), .val (.int q1), .val (.int q2), .val (.int q3), .val (.ref p), .val (.ref t1), .val (.ref t2), .val (.ref n1), .val (.ref n2), .val (.int (1 : Int32)), .unset] [(.int (XT.cmpL ((1 : Int64) + (1 : Int64)) (2 : Int64)))])
  refine Go.by (fun _ gk => XS.ifNo X187.here hx rfl (hb hby at_236) rfl (XT.ll_ne_f (by decide : ((1 : Int64) + (1 : Int64)) = (2 : Int64))) gk) ?_
  show Go _ _ _ _ T187 (mkF m 239 #[.val (.int q0), .val (.int q1), .val (.int q2), .val (.int q3), .val (.ref p), .val (.ref t1), .val (.ref t2), .val (.ref n1), .val (.ref n2), .val (.int (1 : Int32)), .unset] [])
  refine Go.by (fun _ gk => XS.aload X187.here hx rfl (hb hby at_239) rfl rfl gk) ?_
  show Go _ _ _ _ T187 (mkF m 241 #[.val (.int q0), .val (.int q1), .val (.int q2), .val (.int q3), .val (.ref p), .val (.ref t1), .val (.ref t2), .val (.ref n1), .val (.ref n2), .val (.int (1 : Int32)), .unset] [(.ref p)])
  refine Go.by (fun _ gk => XT.iconstV X187.here hx rfl (1 : Int32) (hb hby at_241) (by decide) gk) ?_
  show Go _ _ _ _ T187 (mkF m 242 #[.val (.int q0), .val (.int q1), .val (.int q2), .val (.int q3), .val (.ref p), .val (.ref t1), .val (.ref t2), .val (.ref n1), .val (.ref n2), .val (.int (1 : Int32)), .unset] [(.int (1 : Int32)), (.ref p)])
  obtain ⟨cq188, kq188, q188a, q188b, q188c⟩ := isOf hZ e187 Q178_0
  obtain ⟨_, _, ⟨T188, L188, k188, n188⟩, -, X188, ⟨Lc188, hQ188, l188, y188, z188⟩, st188⟩ := X187.virtualBack hx (y := (⟨"com/example/sessionkeep/sessionkeep/codec/ObjectStreamShape$Puts", "after", "(I)I"⟩ : MethodName)) (z := (⟨"com/example/sessionkeep/sessionkeep/codec/ObjectStreamShape$Puts", "after", "(I)I"⟩ : MethodName)) hown (mvT hZ (hw _ (List.mem_of_getElem? (i := 104) rfl))) (mvT hZ (hw _ (List.mem_of_getElem? (i := 105) rfl))) (notFace_of_selects (args := #[]) (mvT hZ (hw _ (List.mem_of_getElem? (i := 107) rfl)))) (mvT hZ (hw _ (List.mem_of_getElem? (i := 107) rfl))) (mvT hZ (hw _ (List.mem_of_getElem? (i := 106) rfl))) (by decide) (backOf (W := 0) (rmGet_after l Z a0 hw [] p (1 : Int32) ab kk4_4 ([(.int q2), (.int q3), (.int (0 : Int32)), (.int (0 : Int32)), (.int (0 : Int32)), (.int (0 : Int32)), (.int (0 : Int32)), (.int (0 : Int32)), (.int (0 : Int32)), (.int (0 : Int32)), (.int (0 : Int32)), (.int (0 : Int32)), (.int (0 : Int32)), (.int (0 : Int32)), (.int (0 : Int32)), (.int (0 : Int32))]) q3 T178.heap n0 F179 Q178_4 Q178_9 (⟨by decide, by decide⟩) rfl) hZ (hw _ (List.mem_of_getElem? (i := 108) rfl)) (hw _ (List.mem_of_getElem? (i := 2) rfl)) (by decide) (by decide)) q188a q188c (g := (mkF m 242 #[.val (.int q0), .val (.int q1), .val (.int q2), .val (.int q3), .val (.ref p), .val (.ref t1), .val (.ref t2), .val (.ref n1), .val (.ref n2), .val (.int (1 : Int32)), .unset] [(.int (1 : Int32)), (.ref p)])) rfl (by rw [hml]; rfl) (Steps.refl _) (argsL := [(.int (1 : Int32))]) (rest := []) (lenOf pd_177 rfl) rfl (by show 2 * 0 + _ ≤ _; exact Nat.le_of_eq rfl) (hb hby at_242) (fun _ _ => ⟨rfl, e187, (by decide : 9 + 0 ≤ _), (by decide : 97 + 0 ≤ _)⟩)
  dsimp only [Pt.U, Pt.locs, Pt.cells, Pt.slots] at X188 l188 y188 z188 st188 hQ188
  subst l188 y188 z188
  obtain ⟨rfl, N188q, e188⟩ := hQ188
  have N188 := Fr.app N187 N188q
  refine Go.to st188 ?_
  show Go _ _ _ _ T188 (mkF m 245 #[.val (.int q0), .val (.int q1), .val (.int q2), .val (.int q3), .val (.ref p), .val (.ref t1), .val (.ref t2), .val (.ref n1), .val (.ref n2), .val (.int (1 : Int32)), .unset] [(.int q3)])
  refine Go.by (fun _ gk => XS.iloadN X188.here hx rfl (hb hby at_245) rfl gk) ?_
  show Go _ _ _ _ T188 (mkF m 246 #[.val (.int q0), .val (.int q1), .val (.int q2), .val (.int q3), .val (.ref p), .val (.ref t1), .val (.ref t2), .val (.ref n1), .val (.ref n2), .val (.int (1 : Int32)), .unset] [(.int q3), (.int q3)])
  refine Go.by (fun _ gk => XS.icmpNo X188.here hx rfl (hb hby at_246) rfl (XT.ii_ne_f rfl) gk) ?_
  show Go _ _ _ _ T188 (mkF m 249 #[.val (.int q0), .val (.int q1), .val (.int q2), .val (.int q3), .val (.ref p), .val (.ref t1), .val (.ref t2), .val (.ref n1), .val (.ref n2), .val (.int (1 : Int32)), .unset] [])
  refine Go.by (fun _ gk => XT.iconstV X188.here hx rfl (1 : Int32) (hb hby at_249) (by decide) gk) ?_
  show Go _ _ _ _ T188 (mkF m 250 #[.val (.int q0), .val (.int q1), .val (.int q2), .val (.int q3), .val (.ref p), .val (.ref t1), .val (.ref t2), .val (.ref n1), .val (.ref n2), .val (.int (1 : Int32)), .unset] [(.int (1 : Int32))])
  refine Go.by (fun _ gk => XS.goto X188.here hx rfl (pc0 := 250) (pc' := 254) rfl (hb hby at_250) (by decide) (by decide) gk) ?_
  show Go _ _ _ _ T188 (mkF m 254 #[.val (.int q0), .val (.int q1), .val (.int q2), .val (.int q3), .val (.ref p), .val (.ref t1), .val (.ref t2), .val (.ref n1), .val (.ref n2), .val (.int (1 : Int32)), .unset] [(.int (1 : Int32))])
  refine Go.by (fun _ gk => XS.istore X188.here hx rfl (hb hby at_254) rfl (l' := #[.val (.int q0), .val (.int q1), .val (.int q2), .val (.int q3), .val (.ref p), .val (.ref t1), .val (.ref t2), .val (.ref n1), .val (.ref n2), .val (.int (1 : Int32)), .val (.int (1 : Int32))]) rfl gk) ?_
  show Go _ _ _ _ T188 (mkF m 256 #[.val (.int q0), .val (.int q1), .val (.int q2), .val (.int q3), .val (.ref p), .val (.ref t1), .val (.ref t2), .val (.ref n1), .val (.ref n2), .val (.int (1 : Int32)), .val (.int (1 : Int32))] [])
  refine Go.by (fun _ gk => XS.iload X188.here hx rfl (hb hby at_256) rfl gk) ?_
  show Go _ _ _ _ T188 (mkF m 258 #[.val (.int q0), .val (.int q1), .val (.int q2), .val (.int q3), .val (.ref p), .val (.ref t1), .val (.ref t2), .val (.ref n1), .val (.ref n2), .val (.int (1 : Int32)), .val (.int (1 : Int32))] [(.int (1 : Int32))])
  refine Go.by (fun _ gk => XS.ifNo X188.here hx rfl (hb hby at_258) rfl (XT.i0_eq_f (by decide)) gk) ?_
  show Go _ _ _ _ T188 (mkF m 261 #[.val (.int q0), .val (.int q1), .val (.int q2), .val (.int q3), .val (.ref p), .val (.ref t1), .val (.ref t2), .val (.ref n1), .val (.ref n2), .val (.int (1 : Int32)), .val (.int (1 : Int32))] [])
  refine Go.by (fun _ gk => XS.iload X188.here hx rfl (hb hby at_261) rfl gk) ?_
  show Go _ _ _ _ T188 (mkF m 263 #[.val (.int q0), .val (.int q1), .val (.int q2), .val (.int q3), .val (.ref p), .val (.ref t1), .val (.ref t2), .val (.ref n1), .val (.ref n2), .val (.int (1 : Int32)), .val (.int (1 : Int32))] [(.int (1 : Int32))])
  refine Go.by (fun _ gk => XS.ifNo X188.here hx rfl (hb hby at_263) rfl (XT.i0_eq_f (by decide)) gk) ?_
  show Go _ _ _ _ T188 (mkF m 266 #[.val (.int q0), .val (.int q1), .val (.int q2), .val (.int q3), .val (.ref p), .val (.ref t1), .val (.ref t2), .val (.ref n1), .val (.ref n2), .val (.int (1 : Int32)), .val (.int (1 : Int32))] [])
  refine Go.by (fun _ gk => XT.iconstV X188.here hx rfl (1 : Int32) (hb hby at_266) (by decide) gk) ?_
  show Go _ _ _ _ T188 (mkF m 267 #[.val (.int q0), .val (.int q1), .val (.int q2), .val (.int q3), .val (.ref p), .val (.ref t1), .val (.ref t2), .val (.ref n1), .val (.ref n2), .val (.int (1 : Int32)), .val (.int (1 : Int32))] [(.int (1 : Int32))])
  refine Go.by (fun _ gk => XS.goto X188.here hx rfl (pc0 := 267) (pc' := 271) rfl (hb hby at_267) (by decide) (by decide) gk) ?_
  show Go _ _ _ _ T188 (mkF m 271 #[.val (.int q0), .val (.int q1), .val (.int q2), .val (.int q3), .val (.ref p), .val (.ref t1), .val (.ref t2), .val (.ref n1), .val (.ref n2), .val (.int (1 : Int32)), .val (.int (1 : Int32))] [(.int (1 : Int32))])
  exact Go.retI X188 hx Bd.notSynchronized Bd.returns rfl (by simp) (hb hby at_271) (by rw [e188]; exact ⟨rfl, N188⟩) (by decide) (by decide)
set_option maxRecDepth 65536 in
set_option maxHeartbeats 40000000 in
theorem comes_1 {Post : Tables → Env → Array Value → State → Outcome → State → Prop} (hpost : ∀ tb e args s v u, (limb_1_1.after args s (.returned v) u = true ∧ limb_1_2.after args s (.returned v) u = true ∧ True) → FrameEnd s (.returned v) u (Jvm.fieldLocs frame_1_writes args s ++ Jvm.arrayLocs frame_1_arrays args s ++ Jvm.staticLocs frame_1_statics s) 32 320 → Post tb e args s (.returned v) u) :
    ArmFor flags0 classFile x code maxLocals ret World_1 tables_1 room_1 Calls_1 rest_1 Pre_1 Post := by
  intro l hfl _ _ p e ha hc hk s m args below hf hA hF happ hP
  obtain ⟨hcalls, hrest, hpre⟩ := hP
  obtain ⟨-, -, -, hnamed, -, -, -, hat⟩ := (Spec.applies_iff hf).mp happ
  obtain ⟨hg, hn⟩ := and_e (Cond.before_iff.mp (show (Jvm.Cond.and given_1 narrow_1).before args s = true from hpre))
  obtain ⟨hcount, hg0⟩ := and_e hg
  obtain ⟨ha0, hg1⟩ := and_e hg0
  obtain ⟨ha1, hg2⟩ := and_e hg1
  obtain ⟨ha2, hg3⟩ := and_e hg2
  have ha3 := hg3
  obtain ⟨w0, w1, w2, w3, rfl⟩ : ∃ w0 w1 w2 w3 : Value, args = #[w0, w1, w2, w3] := by
    have hs : args.size = 4 := by simpa [Cond.value, given_1] using hcount
    obtain ⟨L⟩ := args
    match L, hs with
    | [w0, w1, w2, w3], _ => exact ⟨w0, w1, w2, w3, rfl⟩
  have hw := fun d (hd : d ∈ tables_1) => atoms_spec (ws := Jvm.Cond.code x code maxLocals ret :: tables_1) hat d (List.mem_cons_of_mem _ hd)
  obtain ⟨hsets, hown0⟩ := atoms_of _ (rest_1_c_eq ▸ (show rest_1_c.before _ s = true from hrest))
  have hr0 := Cond.before_iff.mp hown0
  have hfit : Fit s := fun {y c} hc i hi => by
    obtain ⟨ha, rfl⟩ := Array.getElem?_eq_some_iff.mp hc
    have q := List.all_eq_true.mp ((Array.all_eq_true_iff_forall_mem.mp hF) _ (Array.getElem_mem ha)) i (List.mem_range.mpr hi)
    simpa [Array.getElem?_eq_getElem hi] using q
  obtain ⟨i0, ei0⟩ := is_v ha0
  obtain rfl : w0 = (.int i0) := Option.some.inj ei0
  obtain ⟨i1, ei1⟩ := is_v ha1
  obtain rfl : w1 = (.int i1) := Option.some.inj ei1
  obtain ⟨i2, ei2⟩ := is_v ha2
  obtain rfl : w2 = (.int i2) := Option.some.inj ei2
  obtain ⟨i3, ei3⟩ := is_v ha3
  obtain rfl : w3 = (.int i3) := Option.some.inj ei3
  obtain ⟨el, ev_el⟩ := exa_v (Cond.before_iff.mp (hsets _ (List.mem_of_getElem? (i := 2) rfl)))
  have S_el := Sta.start ev_el (Or.inl (hsets _ (List.mem_of_getElem? (i := 1) rfl)))
  obtain ⟨n, o, h1, h2, h3, _, L, rfl, ⟨rfl, N⟩, hq⟩ := rm0 l s _ hw tables_1 i0 i1 i2 i3 el s.heap s.heap.size (Nat.le_refl _) (Old.start s) S_el p e ha hc hk s m _ below hf ((Spec.applies_iff_loose hf).mp happ).1 ⟨rfl, State.Warmed39.refl s, rfl⟩ trivial
  refine ⟨n, _, h1, h2, h3, hpost _ _ _ _ _ _ ⟨Cond.after_iff.mpr rfl, Cond.after_iff.mpr (eq_i res_at (Term.int_eval (1)) rfl), trivial⟩ ⟨hq.1, hq.2.1, (hq.2.2.sift fun y hy => Or.inr (N y hy)).mono (by decide) (by decide)⟩⟩
theorem main_1_1 : Claimed_1_1 := comes_1 fun _ _ _ _ _ _ h hF => ⟨h.1, hF⟩
theorem main_1_2 : Claimed_1_2 := comes_1 fun _ _ _ _ _ _ h hF => ⟨h.2.1, hF⟩
end Jvm.Pilot.@@N@@
namespace Jvm.Pilot.@@N@@
open Jvm Jvm.ClassFile Sem Op Lib Jvm.Free Jvm.Stand Jvm.Pilot.@@N@@.Jvm.D
/-! MADE BY PROGRAM (witnessworld.py) out of the Statement's table words and the real class files: 25 classes; the members and pool entries that the words name. The judged class is class 1, her method 1. -/
namespace start1
open Jvm.ClassFile
def u (s : String) : CpInfo := .utf8 (stringToUtf16 s)
/-- a pool by its gaps: so many unusable entries, then the entry; so many at the end -/
def gap : Nat → List CpInfo → List CpInfo
  | 0, r => r
  | n + 1, r => .unusable :: gap n r
def poolList (es : List (Nat × CpInfo)) (last : Nat) : List CpInfo := es.foldr (fun e r => gap e.1 (e.2 :: r)) (gap last [])
def pool (es : List (Nat × CpInfo)) (last : Nat) : Array CpInfo := ⟨poolList es last⟩
def fileOf (pool : Array CpInfo) (this : Nat) (attrs : Array Attribute := #[]) (ms : Array MethodInfo := #[]) (fl : Nat := 33) (sup : Nat := 0) (ifs : Array Nat := #[]) (fds : Array FieldInfo := #[]) : ClassFile where
  minorVersion := 0
  majorVersion := 65
  constantPool := pool
  accessFlags := fl
  thisClass := this
  superClass := sup
  interfaces := ifs
  fields := fds
  methods := ms
  attributes := attrs
def plain (name : String) (sup : Option ClassId) : Class where
  name := name
  kind := .ordinary
  loader := none
  accessFlags := 33
  super := sup
  interfaces := #[]
  cf := none
  fields := #[]
  methods := #[]
  instanceTypes := #[]
  staticTypes := #[]
  resolved := #[]
  callSites := []
  init := .initialized
  statics := none
  mirror := none

def pool0 : Array CpInfo := pool [(5, u "<init>"), (0, u "()V"), (1, .class_ 10), (1, u "java/lang/Object")] 113

def k0c0 : Code := { maxStack := 0, maxLocals := 1, code := object_method_1_code, exceptionTable := #[], attributes := #[] }
def k0m0 : Method := { name := "<init>", desc := "()V", sig := { parameters := [], returnType := none }, accessFlags := 1, code := some k0c0 }
/-- java/lang/Object -/
def k0 : Class := { plain "java/lang/Object" none with
  accessFlags := 33
  interfaces := #[]
  cf := some (fileOf pool0 8 #[] #[{ accessFlags := 1, nameIndex := 5, descriptorIndex := 6, attributes := #[] }] 33 0 #[] #[])
  fields := #[]
  methods := #[k0m0]
  instanceTypes := #[]
  staticTypes := #[]
  resolved := Array.replicate 124 none
  statics := none }

def pool1 : Array CpInfo := pool [(2, .class_ 4), (0, .nameAndType 5 6), (0, u "java/lang/Object"), (0, u "<init>"), (0, u "()V"), (0, .class_ 8), (0, u "com/example/sessionkeep/sessionkeep/codec/ObjectStreamShape$Puts"), (0, .methodref 7 3), (0, .class_ 11), (0, u "com/example/sessionkeep/sessionkeep/codec/ObjectStreamShape$Table"), (0, .methodref 10 13), (0, .nameAndType 5 14), (0, u "(ILcom/example/sessionkeep/sessionkeep/codec/ObjectStreamShape$Node;Lcom/example/sessionkeep/sessionkeep/codec/ObjectStreamShape$Layout;ZII)V"), (0, .class_ 16), (0, u "com/example/sessionkeep/sessionkeep/codec/ObjectStreamShape$Node"), (0, .methodref 15 18), (0, .nameAndType 5 19), (0, u "(ZZ)V"), (0, .methodref 15 21), (0, .nameAndType 22 23), (0, u "hold"), (0, u "(Lcom/example/sessionkeep/sessionkeep/codec/ObjectStreamShape$Node;Z)V"), (0, .methodref 7 25), (0, .nameAndType 26 27), (0, u "size"), (0, u "()I"), (0, .methodref 7 29), (0, .nameAndType 30 31), (0, u "add"), (0, u "(Lcom/example/sessionkeep/sessionkeep/codec/ObjectStreamShape$Table;Lcom/example/sessionkeep/sessionkeep/codec/ObjectStreamShape$Node;I)V"), (0, .methodref 7 33), (0, .nameAndType 34 35), (0, u "table"), (0, u "(I)I"), (0, .methodref 7 37), (0, .nameAndType 38 35), (0, u "key"), (0, .methodref 7 40), (0, .nameAndType 41 42), (0, u "weight"), (0, u "(I)J"), (0, .methodref 7 44), (0, .nameAndType 45 35), (0, u "after"), (0, .long 2), (1, .class_ 49), (0, u "com/example/sessionkeep/sessionkeep/codec/PutsAddPinLaw"), (2, u "law"), (0, u "(IIII)Z")] 12

def k1m0 : Method := { name := "<init>", desc := "()V", sig := { parameters := [], returnType := none }, accessFlags := 1, code := none }
def k1c1 : Code := { maxStack := 8, maxLocals := 11, code := code, exceptionTable := #[], attributes := #[] }
def k1m1 : Method := { name := "law", desc := "(IIII)Z", sig := { parameters := [.int, .int, .int, .int], returnType := some .boolean }, accessFlags := 9, code := some k1c1 }
/-- com/example/sessionkeep/sessionkeep/codec/PutsAddPinLaw -/
def k1 : Class := { plain "com/example/sessionkeep/sessionkeep/codec/PutsAddPinLaw" (some 0) with
  accessFlags := 49
  interfaces := #[]
  cf := some (fileOf pool1 48 #[] #[{ accessFlags := 1, nameIndex := 5, descriptorIndex := 6, attributes := #[] }, { accessFlags := 9, nameIndex := 52, descriptorIndex := 53, attributes := #[] }] 49 2 #[] #[])
  fields := #[]
  methods := #[k1m0, k1m1]
  instanceTypes := #[]
  staticTypes := #[]
  resolved := Array.replicate 66 none
  statics := none }

def pool2 : Array CpInfo := pool [(1, .methodref 2 3), (0, .class_ 4), (0, .nameAndType 5 6), (0, u "java/lang/Object"), (0, u "<init>"), (0, u "()V"), (0, .fieldref 8 9), (0, .class_ 10), (0, .nameAndType 11 12), (0, u "com/example/sessionkeep/sessionkeep/codec/ObjectStreamShape$Puts"), (0, u "tables"), (0, u "[I"), (0, .fieldref 8 14), (0, .nameAndType 15 12), (0, u "keys"), (0, .fieldref 8 17), (0, .nameAndType 18 19), (0, u "weights"), (0, u "[J"), (0, .fieldref 8 21), (0, .nameAndType 22 12), (0, u "afters"), (0, .fieldref 8 24), (0, .nameAndType 25 26), (0, u "size"), (0, u "I"), (9, .methodref 37 38), (0, .class_ 39), (0, .nameAndType 40 41), (0, u "com/example/sessionkeep/sessionkeep/codec/ObjectStreamShape$Table"), (0, u "index"), (0, u "()I"), (0, .fieldref 43 44), (0, .class_ 45), (0, .nameAndType 46 26), (0, u "com/example/sessionkeep/sessionkeep/codec/ObjectStreamShape$Node"), (0, u "ordinal"), (0, .fieldref 43 48), (0, .nameAndType 49 50), (0, u "weight"), (0, u "J"), (2, u "add"), (0, u "(Lcom/example/sessionkeep/sessionkeep/codec/ObjectStreamShape$Table;Lcom/example/sessionkeep/sessionkeep/codec/ObjectStreamShape$Node;I)V"), (1, u "table"), (0, u "(I)I"), (0, u "key"), (0, u "(I)J"), (0, u "after"), (3, .class_ 65), (0, u "com/example/sessionkeep/sessionkeep/codec/ObjectStreamShape")] 4

def k2c0 : Code := { maxStack := 2, maxLocals := 1, code := prog_13_method_1_code, exceptionTable := #[], attributes := #[] }
def k2m0 : Method := { name := "<init>", desc := "()V", sig := { parameters := [], returnType := none }, accessFlags := 0, code := some k2c0 }
def k2c1 : Code := { maxStack := 4, maxLocals := 5, code := prog_13_method_2_code, exceptionTable := #[], attributes := #[] }
def k2m1 : Method := { name := "add", desc := "(Lcom/example/sessionkeep/sessionkeep/codec/ObjectStreamShape$Table;Lcom/example/sessionkeep/sessionkeep/codec/ObjectStreamShape$Node;I)V", sig := { parameters := [(.object "com/example/sessionkeep/sessionkeep/codec/ObjectStreamShape$Table"), (.object "com/example/sessionkeep/sessionkeep/codec/ObjectStreamShape$Node"), .int], returnType := none }, accessFlags := 0, code := some k2c1 }
def k2c2 : Code := { maxStack := 1, maxLocals := 1, code := prog_13_method_3_code, exceptionTable := #[], attributes := #[] }
def k2m2 : Method := { name := "size", desc := "()I", sig := { parameters := [], returnType := some .int }, accessFlags := 0, code := some k2c2 }
def k2c3 : Code := { maxStack := 2, maxLocals := 2, code := prog_13_method_4_code, exceptionTable := #[], attributes := #[] }
def k2m3 : Method := { name := "table", desc := "(I)I", sig := { parameters := [.int], returnType := some .int }, accessFlags := 0, code := some k2c3 }
def k2c4 : Code := { maxStack := 2, maxLocals := 2, code := prog_13_method_5_code, exceptionTable := #[], attributes := #[] }
def k2m4 : Method := { name := "key", desc := "(I)I", sig := { parameters := [.int], returnType := some .int }, accessFlags := 0, code := some k2c4 }
def k2c5 : Code := { maxStack := 2, maxLocals := 2, code := prog_13_method_6_code, exceptionTable := #[], attributes := #[] }
def k2m5 : Method := { name := "weight", desc := "(I)J", sig := { parameters := [.int], returnType := some .long }, accessFlags := 0, code := some k2c5 }
def k2c6 : Code := { maxStack := 2, maxLocals := 2, code := prog_13_method_7_code, exceptionTable := #[], attributes := #[] }
def k2m6 : Method := { name := "after", desc := "(I)I", sig := { parameters := [.int], returnType := some .int }, accessFlags := 0, code := some k2c6 }
/-- com/example/sessionkeep/sessionkeep/codec/ObjectStreamShape$Puts -/
def k2 : Class := { plain "com/example/sessionkeep/sessionkeep/codec/ObjectStreamShape$Puts" (some 0) with
  accessFlags := 32
  interfaces := #[]
  cf := some (fileOf pool2 8 #[.nestHost 64] #[{ accessFlags := 0, nameIndex := 5, descriptorIndex := 6, attributes := #[] }, { accessFlags := 0, nameIndex := 53, descriptorIndex := 54, attributes := #[] }, { accessFlags := 0, nameIndex := 25, descriptorIndex := 41, attributes := #[] }, { accessFlags := 0, nameIndex := 56, descriptorIndex := 57, attributes := #[] }, { accessFlags := 0, nameIndex := 58, descriptorIndex := 57, attributes := #[] }, { accessFlags := 0, nameIndex := 49, descriptorIndex := 59, attributes := #[] }, { accessFlags := 0, nameIndex := 60, descriptorIndex := 57, attributes := #[] }] 32 2 #[] #[{ accessFlags := 2, nameIndex := 25, descriptorIndex := 26, attributes := #[] }, { accessFlags := 2, nameIndex := 11, descriptorIndex := 12, attributes := #[] }, { accessFlags := 2, nameIndex := 15, descriptorIndex := 12, attributes := #[] }, { accessFlags := 2, nameIndex := 18, descriptorIndex := 19, attributes := #[] }, { accessFlags := 2, nameIndex := 22, descriptorIndex := 12, attributes := #[] }])
  fields := #[{ name := "size", type := .int, accessFlags := 2, slot := 0, constantValue := 0 }, { name := "tables", type := (.array .int), accessFlags := 2, slot := 1, constantValue := 0 }, { name := "keys", type := (.array .int), accessFlags := 2, slot := 2, constantValue := 0 }, { name := "weights", type := (.array .long), accessFlags := 2, slot := 3, constantValue := 0 }, { name := "afters", type := (.array .int), accessFlags := 2, slot := 4, constantValue := 0 }]
  methods := #[k2m0, k2m1, k2m2, k2m3, k2m4, k2m5, k2m6]
  instanceTypes := #[.int, (.array .int), (.array .int), (.array .long), (.array .int)]
  staticTypes := #[]
  resolved := Array.replicate 70 none
  statics := none }

def pool3 : Array CpInfo := pool [(1, .methodref 2 3), (0, .class_ 4), (0, .nameAndType 5 6), (0, u "java/lang/Object"), (0, u "<init>"), (0, u "()V"), (0, .fieldref 8 9), (0, .class_ 10), (0, .nameAndType 11 12), (0, u "com/example/sessionkeep/sessionkeep/codec/ObjectStreamShape$Table"), (0, u "index"), (0, u "I"), (0, .fieldref 8 14), (0, .nameAndType 15 16), (0, u "owner"), (0, u "Lcom/example/sessionkeep/sessionkeep/codec/ObjectStreamShape$Node;"), (0, .fieldref 8 18), (0, .nameAndType 19 20), (0, u "layout"), (0, u "Lcom/example/sessionkeep/sessionkeep/codec/ObjectStreamShape$Layout;"), (0, .fieldref 8 22), (0, .nameAndType 23 24), (0, u "pairs"), (0, u "Z"), (0, .fieldref 8 26), (0, .nameAndType 27 12), (0, u "depth"), (0, .fieldref 8 29), (0, .nameAndType 30 12), (0, u "start"), (0, u "(ILcom/example/sessionkeep/sessionkeep/codec/ObjectStreamShape$Node;Lcom/example/sessionkeep/sessionkeep/codec/ObjectStreamShape$Layout;ZII)V"), (2, u "()I"), (6, .class_ 42), (0, u "com/example/sessionkeep/sessionkeep/codec/ObjectStreamShape")] 8

def k3c0 : Code := { maxStack := 2, maxLocals := 7, code := prog_14_method_1_code, exceptionTable := #[], attributes := #[] }
def k3m0 : Method := { name := "<init>", desc := "(ILcom/example/sessionkeep/sessionkeep/codec/ObjectStreamShape$Node;Lcom/example/sessionkeep/sessionkeep/codec/ObjectStreamShape$Layout;ZII)V", sig := { parameters := [.int, (.object "com/example/sessionkeep/sessionkeep/codec/ObjectStreamShape$Node"), (.object "com/example/sessionkeep/sessionkeep/codec/ObjectStreamShape$Layout"), .boolean, .int, .int], returnType := none }, accessFlags := 0, code := some k3c0 }
def k3c1 : Code := { maxStack := 1, maxLocals := 1, code := prog_14_method_2_code, exceptionTable := #[], attributes := #[] }
def k3m1 : Method := { name := "index", desc := "()I", sig := { parameters := [], returnType := some .int }, accessFlags := 0, code := some k3c1 }
/-- com/example/sessionkeep/sessionkeep/codec/ObjectStreamShape$Table -/
def k3 : Class := { plain "com/example/sessionkeep/sessionkeep/codec/ObjectStreamShape$Table" (some 0) with
  accessFlags := 32
  interfaces := #[]
  cf := some (fileOf pool3 8 #[.nestHost 41] #[{ accessFlags := 0, nameIndex := 5, descriptorIndex := 31, attributes := #[] }, { accessFlags := 0, nameIndex := 11, descriptorIndex := 34, attributes := #[] }] 32 2 #[] #[{ accessFlags := 18, nameIndex := 11, descriptorIndex := 12, attributes := #[] }, { accessFlags := 18, nameIndex := 15, descriptorIndex := 16, attributes := #[] }, { accessFlags := 18, nameIndex := 19, descriptorIndex := 20, attributes := #[] }, { accessFlags := 18, nameIndex := 23, descriptorIndex := 24, attributes := #[] }, { accessFlags := 18, nameIndex := 27, descriptorIndex := 12, attributes := #[] }, { accessFlags := 18, nameIndex := 30, descriptorIndex := 12, attributes := #[] }])
  fields := #[{ name := "index", type := .int, accessFlags := 18, slot := 0, constantValue := 0 }, { name := "owner", type := (.object "com/example/sessionkeep/sessionkeep/codec/ObjectStreamShape$Node"), accessFlags := 18, slot := 1, constantValue := 0 }, { name := "layout", type := (.object "com/example/sessionkeep/sessionkeep/codec/ObjectStreamShape$Layout"), accessFlags := 18, slot := 2, constantValue := 0 }, { name := "pairs", type := .boolean, accessFlags := 18, slot := 3, constantValue := 0 }, { name := "depth", type := .int, accessFlags := 18, slot := 4, constantValue := 0 }, { name := "start", type := .int, accessFlags := 18, slot := 5, constantValue := 0 }]
  methods := #[k3m0, k3m1]
  instanceTypes := #[.int, (.object "com/example/sessionkeep/sessionkeep/codec/ObjectStreamShape$Node"), (.object "com/example/sessionkeep/sessionkeep/codec/ObjectStreamShape$Layout"), .boolean, .int, .int]
  staticTypes := #[]
  resolved := Array.replicate 51 none
  statics := none }

def pool4 : Array CpInfo := pool [(1, .methodref 2 3), (0, .class_ 4), (0, .nameAndType 5 6), (0, u "java/lang/Object"), (0, u "<init>"), (0, u "()V"), (0, .interfaceMethodref 8 9), (0, .class_ 10), (0, .nameAndType 11 12), (0, u "java/util/List"), (0, u "of"), (0, u "()Ljava/util/List;"), (0, .fieldref 14 15), (0, .class_ 16), (0, .nameAndType 17 18), (0, u "com/example/sessionkeep/sessionkeep/codec/ObjectStreamShape$Node"), (0, u "held"), (0, u "Ljava/util/List;"), (0, .fieldref 14 20), (0, .nameAndType 21 22), (0, u "size"), (0, u "J"), (0, .fieldref 14 24), (0, .nameAndType 25 22), (0, u "weight"), (0, .fieldref 14 27), (0, .nameAndType 28 29), (0, u "ordinal"), (0, u "I"), (0, .fieldref 14 31), (0, .nameAndType 32 29), (0, u "visit"), (0, .fieldref 14 34), (0, .nameAndType 35 36), (0, u "jdk"), (0, u "Z"), (0, .fieldref 14 38), (0, .nameAndType 39 36), (0, u "array"), (11, u "UNSEEN"), (2, u "ON_PATH"), (1, u "DONE"), (3, u "hashed"), (0, u "(ZZ)V"), (2, u "hold"), (0, u "(Lcom/example/sessionkeep/sessionkeep/codec/ObjectStreamShape$Node;Z)V"), (6, .class_ 73), (0, u "com/example/sessionkeep/sessionkeep/codec/ObjectStreamShape")] 2

def k4c0 : Code := { maxStack := 3, maxLocals := 3, code := prog_12_method_1_code, exceptionTable := #[], attributes := #[] }
def k4m0 : Method := { name := "<init>", desc := "(ZZ)V", sig := { parameters := [.boolean, .boolean], returnType := none }, accessFlags := 0, code := some k4c0 }
def k4c1 : Code := { maxStack := 5, maxLocals := 4, code := prog_12_method_2_code, exceptionTable := #[], attributes := #[] }
def k4m1 : Method := { name := "hold", desc := "(Lcom/example/sessionkeep/sessionkeep/codec/ObjectStreamShape$Node;Z)V", sig := { parameters := [(.object "com/example/sessionkeep/sessionkeep/codec/ObjectStreamShape$Node"), .boolean], returnType := none }, accessFlags := 0, code := some k4c1 }
/-- com/example/sessionkeep/sessionkeep/codec/ObjectStreamShape$Node -/
def k4 : Class := { plain "com/example/sessionkeep/sessionkeep/codec/ObjectStreamShape$Node" (some 0) with
  accessFlags := 32
  interfaces := #[]
  cf := some (fileOf pool4 14 #[.nestHost 72] #[{ accessFlags := 0, nameIndex := 5, descriptorIndex := 61, attributes := #[] }, { accessFlags := 0, nameIndex := 64, descriptorIndex := 65, attributes := #[] }] 32 2 #[] #[{ accessFlags := 26, nameIndex := 51, descriptorIndex := 29, attributes := #[] }, { accessFlags := 26, nameIndex := 54, descriptorIndex := 29, attributes := #[] }, { accessFlags := 26, nameIndex := 56, descriptorIndex := 29, attributes := #[] }, { accessFlags := 18, nameIndex := 35, descriptorIndex := 36, attributes := #[] }, { accessFlags := 18, nameIndex := 39, descriptorIndex := 36, attributes := #[] }, { accessFlags := 2, nameIndex := 17, descriptorIndex := 18, attributes := #[] }, { accessFlags := 2, nameIndex := 21, descriptorIndex := 22, attributes := #[] }, { accessFlags := 2, nameIndex := 25, descriptorIndex := 22, attributes := #[] }, { accessFlags := 2, nameIndex := 28, descriptorIndex := 29, attributes := #[] }, { accessFlags := 2, nameIndex := 60, descriptorIndex := 36, attributes := #[] }, { accessFlags := 2, nameIndex := 32, descriptorIndex := 29, attributes := #[] }])
  fields := #[{ name := "UNSEEN", type := .int, accessFlags := 26, slot := 0, constantValue := 0 }, { name := "ON_PATH", type := .int, accessFlags := 26, slot := 1, constantValue := 0 }, { name := "DONE", type := .int, accessFlags := 26, slot := 2, constantValue := 0 }, { name := "jdk", type := .boolean, accessFlags := 18, slot := 0, constantValue := 0 }, { name := "array", type := .boolean, accessFlags := 18, slot := 1, constantValue := 0 }, { name := "held", type := (.object "java/util/List"), accessFlags := 2, slot := 2, constantValue := 0 }, { name := "size", type := .long, accessFlags := 2, slot := 3, constantValue := 0 }, { name := "weight", type := .long, accessFlags := 2, slot := 4, constantValue := 0 }, { name := "ordinal", type := .int, accessFlags := 2, slot := 5, constantValue := 0 }, { name := "hashed", type := .boolean, accessFlags := 2, slot := 6, constantValue := 0 }, { name := "visit", type := .int, accessFlags := 2, slot := 7, constantValue := 0 }]
  methods := #[k4m0, k4m1]
  instanceTypes := #[.boolean, .boolean, (.object "java/util/List"), .long, .long, .int, .boolean, .int]
  staticTypes := #[.int, .int, .int]
  resolved := Array.replicate 76 none
  statics := none }

def pool5 : Array CpInfo := pool [(8, .class_ 10), (1, u "java/lang/Iterable"), (24, .class_ 36), (0, u "java/lang/Object")] 25

/-- java/lang/Iterable -/
def k5 : Class := { plain "java/lang/Iterable" (some 0) with
  accessFlags := 1537
  interfaces := #[]
  cf := some (fileOf pool5 8 #[] #[] 1537 35 #[] #[])
  fields := #[]
  methods := #[]
  instanceTypes := #[]
  staticTypes := #[]
  resolved := Array.replicate 62 none
  statics := none }

def pool6 : Array CpInfo := pool [(10, .class_ 12), (1, u "java/util/Collection"), (47, .class_ 61), (0, u "java/lang/Object"), (0, .class_ 63), (0, u "java/lang/Iterable")] 51

/-- java/util/Collection -/
def k6 : Class := { plain "java/util/Collection" (some 0) with
  accessFlags := 1537
  interfaces := #[5]
  cf := some (fileOf pool6 10 #[] #[] 1537 60 #[62] #[])
  fields := #[]
  methods := #[]
  instanceTypes := #[]
  staticTypes := #[]
  resolved := Array.replicate 115 none
  statics := none }

def pool7 : Array CpInfo := pool [(8, .class_ 10), (1, u "java/util/SequencedCollection"), (15, .class_ 27), (0, u "java/lang/Object"), (0, .class_ 29), (0, u "java/util/Collection")] 27

/-- java/util/SequencedCollection -/
def k7 : Class := { plain "java/util/SequencedCollection" (some 0) with
  accessFlags := 1537
  interfaces := #[6]
  cf := some (fileOf pool7 8 #[] #[] 1537 26 #[28] #[])
  fields := #[]
  methods := #[]
  instanceTypes := #[]
  staticTypes := #[]
  resolved := Array.replicate 57 none
  statics := none }

def pool8 : Array CpInfo := pool [(8, .class_ 10), (1, u "java/util/List"), (77, u "of"), (1, .fieldref 91 92), (0, .class_ 93), (0, .nameAndType 94 95), (0, u "java/util/ImmutableCollections"), (0, u "EMPTY_LIST"), (0, u "Ljava/util/ImmutableCollections$ListN;"), (7, .class_ 104), (0, u "java/lang/Object"), (14, u "()Ljava/util/List;"), (0, .class_ 121), (0, u "java/util/SequencedCollection")] 129

def k8c0 : Code := { maxStack := 1, maxLocals := 0, code := jdk_40_method_36_code, exceptionTable := #[], attributes := #[] }
def k8m0 : Method := { name := "of", desc := "()Ljava/util/List;", sig := { parameters := [], returnType := some (.object "java/util/List") }, accessFlags := 9, code := some k8c0 }
/-- java/util/List -/
def k8 : Class := { plain "java/util/List" (some 0) with
  accessFlags := 1537
  interfaces := #[7]
  cf := some (fileOf pool8 8 #[] #[{ accessFlags := 9, nameIndex := 88, descriptorIndex := 119, attributes := #[] }] 1537 103 #[120] #[])
  fields := #[]
  methods := #[k8m0]
  instanceTypes := #[]
  staticTypes := #[]
  resolved := Array.replicate 251 none
  statics := none }

def pool9 : Array CpInfo := pool [(2, .class_ 4), (1, u "java/lang/Object"), (0, u "<init>"), (0, u "()V"), (3, .class_ 11), (0, u "java/util/ImmutableCollections$List12"), (0, .class_ 13), (0, u "java/util/ImmutableCollections$ListN"), (3, u "Z"), (29, .class_ 49), (1, u "java/util/ImmutableCollections"), (0, u "$assertionsDisabled"), (5, u "[Ljava/lang/Object;"), (5, u "EMPTY_LIST"), (0, u "Ljava/util/ImmutableCollections$ListN;"), (8, u "EMPTY_LIST_NULLS"), (22, u "SALT32L"), (0, u "J"), (2, u "REVERSE"), (6, u "archivedObjects"), (2, u "EMPTY"), (0, u "Ljava/lang/Object;"), (0, .class_ 112), (0, u "java/util/ImmutableCollections$SetN"), (5, u "EMPTY_SET"), (0, u "Ljava/util/ImmutableCollections$SetN;"), (0, .class_ 121), (0, u "java/util/ImmutableCollections$MapN"), (3, u "EMPTY_MAP"), (0, u "Ljava/util/ImmutableCollections$MapN;"), (4, u "EXPAND_FACTOR"), (0, u "I"), (36, .class_ 170), (0, u "java/util/ImmutableCollections$MapN$MapNIterator"), (0, .class_ 172), (0, u "java/util/ImmutableCollections$MapN$1"), (0, .class_ 174), (0, u "java/util/ImmutableCollections$Map1"), (0, .class_ 176), (0, u "java/util/ImmutableCollections$AbstractImmutableMap"), (0, .class_ 178), (0, u "java/util/ImmutableCollections$SetN$SetNIterator"), (0, .class_ 180), (0, u "java/util/ImmutableCollections$Set12"), (0, .class_ 182), (0, u "java/util/ImmutableCollections$Set12$1"), (0, .class_ 184), (0, u "java/util/ImmutableCollections$AbstractImmutableSet"), (0, .class_ 186), (0, u "java/util/ImmutableCollections$SubList"), (0, .class_ 188), (0, u "java/util/ImmutableCollections$ListItr"), (0, .class_ 190), (0, u "java/util/ImmutableCollections$AbstractImmutableList"), (0, .class_ 192), (0, u "java/util/ImmutableCollections$AbstractImmutableCollection"), (0, .class_ 194), (0, u "java/util/ImmutableCollections$Access"), (0, .class_ 196), (0, u "java/util/ImmutableCollections$Access$1")] 16

def k9m0 : Method := { name := "<init>", desc := "()V", sig := { parameters := [], returnType := none }, accessFlags := 2, code := none }
/-- java/util/ImmutableCollections -/
def k9 : Class := { plain "java/util/ImmutableCollections" (some 0) with
  accessFlags := 32
  interfaces := #[]
  cf := some (fileOf pool9 47 #[.nestMembers #[120, 169, 171, 173, 175, 111, 177, 179, 181, 183, 12, 10, 185, 187, 189, 191, 193, 195]] #[{ accessFlags := 2, nameIndex := 5, descriptorIndex := 6, attributes := #[] }] 32 2 #[] #[{ accessFlags := 26, nameIndex := 95, descriptorIndex := 96, attributes := #[] }, { accessFlags := 26, nameIndex := 99, descriptorIndex := 17, attributes := #[] }, { accessFlags := 10, nameIndex := 106, descriptorIndex := 56, attributes := #[] }, { accessFlags := 26, nameIndex := 109, descriptorIndex := 110, attributes := #[] }, { accessFlags := 24, nameIndex := 62, descriptorIndex := 63, attributes := #[] }, { accessFlags := 24, nameIndex := 72, descriptorIndex := 63, attributes := #[] }, { accessFlags := 24, nameIndex := 118, descriptorIndex := 119, attributes := #[] }, { accessFlags := 24, nameIndex := 125, descriptorIndex := 126, attributes := #[] }, { accessFlags := 24, nameIndex := 131, descriptorIndex := 132, attributes := #[] }, { accessFlags := 4120, nameIndex := 50, descriptorIndex := 17, attributes := #[] }])
  fields := #[{ name := "SALT32L", type := .long, accessFlags := 26, slot := 0, constantValue := 0 }, { name := "REVERSE", type := .boolean, accessFlags := 26, slot := 1, constantValue := 0 }, { name := "archivedObjects", type := (.array (.object "java/lang/Object")), accessFlags := 10, slot := 2, constantValue := 0 }, { name := "EMPTY", type := (.object "java/lang/Object"), accessFlags := 26, slot := 3, constantValue := 0 }, { name := "EMPTY_LIST", type := (.object "java/util/ImmutableCollections$ListN"), accessFlags := 24, slot := 4, constantValue := 0 }, { name := "EMPTY_LIST_NULLS", type := (.object "java/util/ImmutableCollections$ListN"), accessFlags := 24, slot := 5, constantValue := 0 }, { name := "EMPTY_SET", type := (.object "java/util/ImmutableCollections$SetN"), accessFlags := 24, slot := 6, constantValue := 0 }, { name := "EMPTY_MAP", type := (.object "java/util/ImmutableCollections$MapN"), accessFlags := 24, slot := 7, constantValue := 0 }, { name := "EXPAND_FACTOR", type := .int, accessFlags := 24, slot := 8, constantValue := 0 }, { name := "$assertionsDisabled", type := .boolean, accessFlags := 4120, slot := 9, constantValue := 0 }]
  methods := #[k9m0]
  instanceTypes := #[]
  staticTypes := #[.long, .boolean, (.array (.object "java/lang/Object")), (.object "java/lang/Object"), (.object "java/util/ImmutableCollections$ListN"), (.object "java/util/ImmutableCollections$ListN"), (.object "java/util/ImmutableCollections$SetN"), (.object "java/util/ImmutableCollections$MapN"), .int, .boolean]
  resolved := Array.replicate 213 none
  statics := some 0 }

def pool10 : Array CpInfo := pool [(2, .class_ 4), (1, u "java/lang/Object"), (6, .class_ 13), (1, u "com/example/sessionkeep/sessionkeep/codec/ObjectStreamShape"), (0, u "handles"), (0, u "Ljava/util/List;"), (2, u "resolved"), (2, u "tables"), (0, .class_ 23), (0, u "com/example/sessionkeep/sessionkeep/codec/ObjectStreamShape$Puts"), (3, u "puts"), (0, u "Lcom/example/sessionkeep/sessionkeep/codec/ObjectStreamShape$Puts;"), (2, u "references"), (2, u "stream"), (0, u "[B"), (2, u "maxDepth"), (0, u "I"), (2, u "workPerByte"), (2, u "maxWork"), (0, u "J"), (22, u "at"), (2, u "start"), (30, u "LEAF"), (0, u "Lcom/example/sessionkeep/sessionkeep/codec/ObjectStreamShape$Node;"), (48, u "depth"), (1, .class_ 157), (1, u "com/example/sessionkeep/sessionkeep/codec/ObjectStreamShape$Node"), (78, .class_ 238), (1, u "com/example/sessionkeep/sessionkeep/codec/ObjectStreamShape$Descriptor"), (8, u "Ljava/lang/String;"), (44, .class_ 294), (1, u "com/example/sessionkeep/sessionkeep/codec/ObjectStreamShape$Hashed"), (11, .class_ 307), (0, u "com/example/sessionkeep/sessionkeep/codec/ObjectStreamShape$Table"), (20, u "HASHED_WHILE_READ"), (0, u "Ljava/util/Map;"), (73, u "work"), (81, u "UNHASHABLE"), (3, u "IMMUTABLE_FORM"), (0, u "TAG_FIELD"), (0, u "STRING_BYTES_PER_STEP"), (24, .class_ 517), (0, u "com/example/sessionkeep/sessionkeep/codec/ObjectStreamShape$Layout")] 27

/-- com/example/sessionkeep/sessionkeep/codec/ObjectStreamShape -/
def k10 : Class := { plain "com/example/sessionkeep/sessionkeep/codec/ObjectStreamShape" (some 0) with
  accessFlags := 32
  interfaces := #[]
  cf := some (fileOf pool10 11 #[.nestMembers #[236, 22, 306, 516, 292, 155]] #[] 32 2 #[] #[{ accessFlags := 26, nameIndex := 485, descriptorIndex := 247, attributes := #[] }, { accessFlags := 26, nameIndex := 328, descriptorIndex := 329, attributes := #[] }, { accessFlags := 26, nameIndex := 489, descriptorIndex := 247, attributes := #[] }, { accessFlags := 26, nameIndex := 490, descriptorIndex := 247, attributes := #[] }, { accessFlags := 26, nameIndex := 491, descriptorIndex := 39, attributes := #[] }, { accessFlags := 26, nameIndex := 103, descriptorIndex := 104, attributes := #[] }, { accessFlags := 18, nameIndex := 34, descriptorIndex := 35, attributes := #[] }, { accessFlags := 18, nameIndex := 38, descriptorIndex := 39, attributes := #[] }, { accessFlags := 18, nameIndex := 42, descriptorIndex := 39, attributes := #[] }, { accessFlags := 18, nameIndex := 45, descriptorIndex := 46, attributes := #[] }, { accessFlags := 18, nameIndex := 14, descriptorIndex := 15, attributes := #[] }, { accessFlags := 18, nameIndex := 18, descriptorIndex := 15, attributes := #[] }, { accessFlags := 18, nameIndex := 21, descriptorIndex := 15, attributes := #[] }, { accessFlags := 18, nameIndex := 27, descriptorIndex := 28, attributes := #[] }, { accessFlags := 18, nameIndex := 31, descriptorIndex := 15, attributes := #[] }, { accessFlags := 2, nameIndex := 72, descriptorIndex := 39, attributes := #[] }, { accessFlags := 2, nameIndex := 69, descriptorIndex := 39, attributes := #[] }, { accessFlags := 2, nameIndex := 153, descriptorIndex := 39, attributes := #[] }, { accessFlags := 2, nameIndex := 403, descriptorIndex := 46, attributes := #[] }])
  fields := #[{ name := "UNHASHABLE", type := (.object "java/lang/String"), accessFlags := 26, slot := 0, constantValue := 0 }, { name := "HASHED_WHILE_READ", type := (.object "java/util/Map"), accessFlags := 26, slot := 1, constantValue := 0 }, { name := "IMMUTABLE_FORM", type := (.object "java/lang/String"), accessFlags := 26, slot := 2, constantValue := 0 }, { name := "TAG_FIELD", type := (.object "java/lang/String"), accessFlags := 26, slot := 3, constantValue := 0 }, { name := "STRING_BYTES_PER_STEP", type := .int, accessFlags := 26, slot := 4, constantValue := 0 }, { name := "LEAF", type := (.object "com/example/sessionkeep/sessionkeep/codec/ObjectStreamShape$Node"), accessFlags := 26, slot := 5, constantValue := 0 }, { name := "stream", type := (.array .byte), accessFlags := 18, slot := 0, constantValue := 0 }, { name := "maxDepth", type := .int, accessFlags := 18, slot := 1, constantValue := 0 }, { name := "workPerByte", type := .int, accessFlags := 18, slot := 2, constantValue := 0 }, { name := "maxWork", type := .long, accessFlags := 18, slot := 3, constantValue := 0 }, { name := "handles", type := (.object "java/util/List"), accessFlags := 18, slot := 4, constantValue := 0 }, { name := "resolved", type := (.object "java/util/List"), accessFlags := 18, slot := 5, constantValue := 0 }, { name := "tables", type := (.object "java/util/List"), accessFlags := 18, slot := 6, constantValue := 0 }, { name := "puts", type := (.object "com/example/sessionkeep/sessionkeep/codec/ObjectStreamShape$Puts"), accessFlags := 18, slot := 7, constantValue := 0 }, { name := "references", type := (.object "java/util/List"), accessFlags := 18, slot := 8, constantValue := 0 }, { name := "start", type := .int, accessFlags := 2, slot := 9, constantValue := 0 }, { name := "at", type := .int, accessFlags := 2, slot := 10, constantValue := 0 }, { name := "depth", type := .int, accessFlags := 2, slot := 11, constantValue := 0 }, { name := "work", type := .long, accessFlags := 2, slot := 12, constantValue := 0 }]
  methods := #[]
  instanceTypes := #[(.array .byte), .int, .int, .long, (.object "java/util/List"), (.object "java/util/List"), (.object "java/util/List"), (.object "com/example/sessionkeep/sessionkeep/codec/ObjectStreamShape$Puts"), (.object "java/util/List"), .int, .int, .int, .long]
  staticTypes := #[(.object "java/lang/String"), (.object "java/util/Map"), (.object "java/lang/String"), (.object "java/lang/String"), .int, (.object "com/example/sessionkeep/sessionkeep/codec/ObjectStreamShape$Node")]
  resolved := Array.replicate 545 none
  statics := some 1 }

def pool11 : Array CpInfo := pool [(2, .class_ 4), (1, u "java/lang/Object"), (0, u "<init>"), (0, u "()V"), (1, .class_ 10), (1, u "java/util/AbstractCollection"), (66, .class_ 78), (0, u "java/util/Collection")] 81

def k11m0 : Method := { name := "<init>", desc := "()V", sig := { parameters := [], returnType := none }, accessFlags := 4, code := none }
/-- java/util/AbstractCollection -/
def k11 : Class := { plain "java/util/AbstractCollection" (some 0) with
  accessFlags := 1057
  interfaces := #[6]
  cf := some (fileOf pool11 8 #[] #[{ accessFlags := 4, nameIndex := 5, descriptorIndex := 6, attributes := #[] }] 1057 2 #[77] #[])
  fields := #[]
  methods := #[k11m0]
  instanceTypes := #[]
  staticTypes := #[]
  resolved := Array.replicate 160 none
  statics := none }

def pool12 : Array CpInfo := pool [(2, .class_ 4), (1, u "java/util/AbstractCollection"), (0, u "<init>"), (0, u "()V"), (1, .class_ 10), (1, u "java/util/ImmutableCollections"), (2, .class_ 14), (0, u "java/util/ImmutableCollections$AbstractImmutableCollection")] 41

def k12m0 : Method := { name := "<init>", desc := "()V", sig := { parameters := [], returnType := none }, accessFlags := 0, code := none }
/-- java/util/ImmutableCollections$AbstractImmutableCollection -/
def k12 : Class := { plain "java/util/ImmutableCollections$AbstractImmutableCollection" (some 11) with
  accessFlags := 1056
  interfaces := #[]
  cf := some (fileOf pool12 13 #[.nestHost 8] #[{ accessFlags := 0, nameIndex := 5, descriptorIndex := 6, attributes := #[] }] 1056 2 #[] #[])
  fields := #[]
  methods := #[k12m0]
  instanceTypes := #[]
  staticTypes := #[]
  resolved := Array.replicate 56 none
  statics := none }

def pool13 : Array CpInfo := pool [(1, .class_ 2), (0, u "java/util/RandomAccess"), (0, .class_ 4), (0, u "java/lang/Object")] 2

/-- java/util/RandomAccess -/
def k13 : Class := { plain "java/util/RandomAccess" (some 0) with
  accessFlags := 1537
  interfaces := #[]
  cf := some (fileOf pool13 1 #[] #[] 1537 3 #[] #[])
  fields := #[]
  methods := #[]
  instanceTypes := #[]
  staticTypes := #[]
  resolved := Array.replicate 7 none
  statics := none }

def pool14 : Array CpInfo := pool [(2, .class_ 4), (1, u "java/util/ImmutableCollections$AbstractImmutableCollection"), (0, u "<init>"), (0, u "()V"), (1, .class_ 10), (1, u "java/util/ImmutableCollections"), (3, .class_ 16), (1, u "java/util/ImmutableCollections$AbstractImmutableList"), (60, .class_ 78), (0, u "java/util/List"), (45, .class_ 125), (0, u "java/util/RandomAccess")] 70

def k14m0 : Method := { name := "<init>", desc := "()V", sig := { parameters := [], returnType := none }, accessFlags := 0, code := none }
/-- java/util/ImmutableCollections$AbstractImmutableList -/
def k14 : Class := { plain "java/util/ImmutableCollections$AbstractImmutableList" (some 12) with
  accessFlags := 1056
  interfaces := #[8, 13]
  cf := some (fileOf pool14 14 #[.nestHost 8] #[{ accessFlags := 0, nameIndex := 5, descriptorIndex := 6, attributes := #[] }] 1056 2 #[77, 124] #[])
  fields := #[]
  methods := #[k14m0]
  instanceTypes := #[]
  staticTypes := #[]
  resolved := Array.replicate 196 none
  statics := none }

def pool15 : Array CpInfo := pool [(1, .class_ 2), (0, u "java/io/Serializable"), (0, .class_ 4), (0, u "java/lang/Object")] 2

/-- java/io/Serializable -/
def k15 : Class := { plain "java/io/Serializable" (some 0) with
  accessFlags := 1537
  interfaces := #[]
  cf := some (fileOf pool15 1 #[] #[] 1537 3 #[] #[])
  fields := #[]
  methods := #[]
  instanceTypes := #[]
  staticTypes := #[]
  resolved := Array.replicate 7 none
  statics := none }

def pool16 : Array CpInfo := pool [(2, .class_ 4), (1, u "java/util/ImmutableCollections$AbstractImmutableList"), (3, .class_ 10), (1, u "java/util/ImmutableCollections$ListN"), (0, u "elements"), (0, u "[Ljava/lang/Object;"), (2, u "allowNulls"), (0, u "Z"), (42, .class_ 60), (0, u "java/io/Serializable"), (53, .class_ 115), (0, u "java/util/ImmutableCollections")] 3

/-- java/util/ImmutableCollections$ListN -/
def k16 : Class := { plain "java/util/ImmutableCollections$ListN" (some 14) with
  accessFlags := 48
  interfaces := #[15]
  cf := some (fileOf pool16 8 #[.nestHost 114] #[] 48 2 #[59] #[{ accessFlags := 18, nameIndex := 11, descriptorIndex := 12, attributes := #[] }, { accessFlags := 18, nameIndex := 15, descriptorIndex := 16, attributes := #[] }])
  fields := #[{ name := "elements", type := (.array (.object "java/lang/Object")), accessFlags := 18, slot := 0, constantValue := 0 }, { name := "allowNulls", type := .boolean, accessFlags := 18, slot := 1, constantValue := 0 }]
  methods := #[]
  instanceTypes := #[(.array (.object "java/lang/Object")), .boolean]
  staticTypes := #[]
  resolved := Array.replicate 119 none
  statics := none }

def pool17 : Array CpInfo := pool [(1, u "java/lang/Cloneable"), (0, .class_ 1), (0, u "java/lang/Object"), (0, .class_ 3)] 3

/-- java/lang/Cloneable -/
def k17 : Class := { plain "java/lang/Cloneable" (some 0) with
  accessFlags := 1537
  interfaces := #[]
  cf := some (fileOf pool17 2 #[] #[] 1537 4 #[] #[])
  fields := #[]
  methods := #[]
  instanceTypes := #[]
  staticTypes := #[]
  resolved := Array.replicate 8 none
  statics := none }

/-- the primitive byte -/
def k18 : Class := { plain "byte" none with kind := .primitive 'B', accessFlags := 0x411 }
/-- [B -/
def k19 : Class := { plain "[B" (some 0) with kind := .array 18 .byte, interfaces := #[17, 15], accessFlags := 1041 }

/-- the primitive int -/
def k20 : Class := { plain "int" none with kind := .primitive 'I', accessFlags := 0x411 }
/-- [I -/
def k21 : Class := { plain "[I" (some 0) with kind := .array 20 .int, interfaces := #[17, 15], accessFlags := 1041 }

/-- the primitive long -/
def k22 : Class := { plain "long" none with kind := .primitive 'J', accessFlags := 0x411 }
/-- [J -/
def k23 : Class := { plain "[J" (some 0) with kind := .array 22 .long, interfaces := #[17, 15], accessFlags := 1041 }

/-- [Ljava/lang/Object; -/
def k24 : Class := { plain "[Ljava/lang/Object;" (some 0) with kind := .array 0 (.object "java/lang/Object"), interfaces := #[17, 15], accessFlags := 1041 }

def heap : Heap := #[{ cls := 9, slots := #[.long 0, .int 0, .null, .null, .ref 3, .null, .null, .null, .int 0, .int 0], vm := .statics 9 },
  { cls := 10, slots := #[.null, .null, .null, .null, .int 8, .null], vm := .statics 10 },
  { cls := 24, slots := #[], vm := .none },
  { cls := 16, slots := #[.ref 2, .int 0], vm := .none }]
def classes : Array Class := #[k0, k1, k2, k3, k4, k5, k6, k7, k8, k9, k10, k11, k12, k13, k14, k15, k16, k17, k18, k19, k20, k21, k22, k23, k24]
def interned : List (Array UInt16 × Addr) := []
def slotsUsed : Nat := 18
def theMethod : MethodId := ⟨1, 1⟩
def args0 : Array Value := #[.int 5, .int 7, .int 9, .int 11]
def aboutOver (below : List Frame) : State where
  vm := { classes := classes, interned := interned.toArray }
  heap := heap
  slotsUsed := slotsUsed
  threads := #[{ frames := .invoking theMethod args0 :: below }]
def below0 : List Frame := [.native { method := ⟨0, 0⟩, args := #[] }]
def about1 : State := aboutOver below0
def p0 : Program := .bare "" "" ""
def e0 : Env := launch0.env 0 0 0
theorem w_frames : about1.frames = Frame.invoking theMethod args0 :: below0 := rfl
set_option maxRecDepth 65536 in
theorem w_args : argsFit about1.vm theMethod args0 = true := by decide +kernel
set_option maxRecDepth 65536 in
theorem w_heap : heapFits about1 = true := by decide +kernel
set_option maxRecDepth 65536 in
theorem w_runnable : about1.curStatus? = some .runnable := by decide +kernel
set_option maxRecDepth 65536 in
theorem w_alone : about1.alone = true := by decide +kernel
set_option maxRecDepth 65536 in
theorem w_named : about1.methodNamed? x = some theMethod := by decide +kernel
set_option maxRecDepth 65536 in
theorem w_hears : about1.hears theMethod below0 = true := by decide +kernel
set_option maxRecDepth 65536 in
theorem w_ripe : about1.ripe theMethod args0 below0 = true := by decide +kernel
theorem w_running : about1.status = .running := rfl
set_option maxRecDepth 65536 in
theorem w_room : about1.hasRoom e0.platform room_1 = true :=
  launch0.hasRoom_least _ room_1 (by decide +kernel) (by decide +kernel) (by decide +kernel) (by decide +kernel) (by decide +kernel) (by decide +kernel)
theorem allAtoms_all (ts : List Jvm.Cond) (a : Array Jvm.Value) (st : Jvm.State) : (allAtoms ts).before a st = ts.all (fun c => c.before a st) := by
  induction ts with
  | nil => rfl
  | cons c t ih =>
    show (Jvm.Cond.and c (allAtoms t)).before a st = _
    rw [Jvm.Cond.before_and, ih, List.all_cons]
def words1 : List Jvm.Cond := Jvm.Cond.code x code maxLocals ret :: tables_1
/-- a 'code' word, met by the world's own term for the bytes: nothing is compared byte by byte -/
theorem code_word {y : MethodName} {bytes : ByteArray} {mx : Nat} {rt : Option FieldType} {a : Array Value} {s : State} {m : MethodId} {meth : Method} {c : Code} (h1 : s.methodNamed? y = some m) (h2 : s.vm.method? m = some meth) (h3 : meth.code = some c) (h4 : c.code = bytes)
    (h5 : (c.maxLocals == mx && c.exceptionTable.isEmpty && decide (c.maxStack ≤ mostOperands) && decide (meth.sig.returnType = rt) && !meth.locks && decide (parseMethodDescriptor y.desc = some meth.sig)) = true) : (Jvm.Cond.code y bytes mx rt).before a s = true := by
  simp only [Bool.and_eq_true, beq_iff_eq, Bool.not_eq_true', decide_eq_true_eq] at h5
  obtain ⟨⟨⟨⟨⟨g1, g2⟩, g3⟩, g4⟩, g5⟩, g6⟩ := h5
  simp [Cond.before, Cond.holds, Cond.value, h1, h2, h3, h4, g1, g2, g3, g4, g5, g6]
def isCode : Jvm.Cond → Bool
  | .code _ _ _ _ => true
  | _ => false
theorem all_split {L : List Jvm.Cond} {P : Jvm.Cond → Bool} (h1 : L.all (fun c => isCode c || P c) = true) (h2 : ∀ c ∈ L.filter isCode, P c = true) : L.all P = true := by
  refine List.all_eq_true.mpr fun c hc => ?_
  have h := List.all_eq_true.mp h1 c hc
  rcases Bool.eq_false_or_eq_true (isCode c) with hi | hi
  · exact h2 c (List.mem_filter.mpr ⟨hc, hi⟩)
  · simpa [hi] using h
set_option maxRecDepth 65536 in
theorem w_c0 : (Jvm.Cond.code x code maxLocals ret).before args0 about1 = true := code_word (m := ⟨1, 1⟩) (meth := k1m1) (c := k1c1) (by decide +kernel) rfl rfl rfl (by decide +kernel)
set_option maxRecDepth 65536 in
theorem w_c1 : (Jvm.Cond.code ({ cls := "com/example/sessionkeep/sessionkeep/codec/ObjectStreamShape$Puts", name := "<init>", desc := "()V" } : Jvm.MethodName) prog_13_method_1_code (1 : Nat) (Option.none : Option Jvm.ClassFile.FieldType)).before args0 about1 = true := code_word (m := ⟨2, 0⟩) (meth := k2m0) (c := k2c0) (by decide +kernel) rfl rfl rfl (by decide +kernel)
set_option maxRecDepth 65536 in
theorem w_c2 : (Jvm.Cond.code ({ cls := "java/lang/Object", name := "<init>", desc := "()V" } : Jvm.MethodName) object_method_1_code (1 : Nat) (Option.none : Option Jvm.ClassFile.FieldType)).before args0 about1 = true := code_word (m := ⟨0, 0⟩) (meth := k0m0) (c := k0c0) (by decide +kernel) rfl rfl rfl (by decide +kernel)
set_option maxRecDepth 65536 in
theorem w_c3 : (Jvm.Cond.code ({ cls := "com/example/sessionkeep/sessionkeep/codec/ObjectStreamShape$Table", name := "<init>", desc := "(ILcom/example/sessionkeep/sessionkeep/codec/ObjectStreamShape$Node;Lcom/example/sessionkeep/sessionkeep/codec/ObjectStreamShape$Layout;ZII)V" } : Jvm.MethodName) prog_14_method_1_code (7 : Nat) (Option.none : Option Jvm.ClassFile.FieldType)).before args0 about1 = true := code_word (m := ⟨3, 0⟩) (meth := k3m0) (c := k3c0) (by decide +kernel) rfl rfl rfl (by decide +kernel)
set_option maxRecDepth 65536 in
theorem w_c4 : (Jvm.Cond.code ({ cls := "com/example/sessionkeep/sessionkeep/codec/ObjectStreamShape$Node", name := "<init>", desc := "(ZZ)V" } : Jvm.MethodName) prog_12_method_1_code (3 : Nat) (Option.none : Option Jvm.ClassFile.FieldType)).before args0 about1 = true := code_word (m := ⟨4, 0⟩) (meth := k4m0) (c := k4c0) (by decide +kernel) rfl rfl rfl (by decide +kernel)
set_option maxRecDepth 65536 in
theorem w_c5 : (Jvm.Cond.code ({ cls := "java/util/List", name := "of", desc := "()Ljava/util/List;" } : Jvm.MethodName) jdk_40_method_36_code (0 : Nat) (Option.some (Jvm.ClassFile.FieldType.object "java/util/List"))).before args0 about1 = true := code_word (m := ⟨8, 0⟩) (meth := k8m0) (c := k8c0) (by decide +kernel) rfl rfl rfl (by decide +kernel)
set_option maxRecDepth 65536 in
theorem w_c6 : (Jvm.Cond.code ({ cls := "com/example/sessionkeep/sessionkeep/codec/ObjectStreamShape$Node", name := "hold", desc := "(Lcom/example/sessionkeep/sessionkeep/codec/ObjectStreamShape$Node;Z)V" } : Jvm.MethodName) prog_12_method_2_code (4 : Nat) (Option.none : Option Jvm.ClassFile.FieldType)).before args0 about1 = true := code_word (m := ⟨4, 1⟩) (meth := k4m1) (c := k4c1) (by decide +kernel) rfl rfl rfl (by decide +kernel)
set_option maxRecDepth 65536 in
theorem w_c7 : (Jvm.Cond.code ({ cls := "com/example/sessionkeep/sessionkeep/codec/ObjectStreamShape$Puts", name := "size", desc := "()I" } : Jvm.MethodName) prog_13_method_3_code (1 : Nat) (Option.some Jvm.ClassFile.FieldType.int)).before args0 about1 = true := code_word (m := ⟨2, 2⟩) (meth := k2m2) (c := k2c2) (by decide +kernel) rfl rfl rfl (by decide +kernel)
set_option maxRecDepth 65536 in
theorem w_c8 : (Jvm.Cond.code ({ cls := "com/example/sessionkeep/sessionkeep/codec/ObjectStreamShape$Puts", name := "add", desc := "(Lcom/example/sessionkeep/sessionkeep/codec/ObjectStreamShape$Table;Lcom/example/sessionkeep/sessionkeep/codec/ObjectStreamShape$Node;I)V" } : Jvm.MethodName) prog_13_method_2_code (5 : Nat) (Option.none : Option Jvm.ClassFile.FieldType)).before args0 about1 = true := code_word (m := ⟨2, 1⟩) (meth := k2m1) (c := k2c1) (by decide +kernel) rfl rfl rfl (by decide +kernel)
set_option maxRecDepth 65536 in
theorem w_c9 : (Jvm.Cond.code ({ cls := "com/example/sessionkeep/sessionkeep/codec/ObjectStreamShape$Table", name := "index", desc := "()I" } : Jvm.MethodName) prog_14_method_2_code (1 : Nat) (Option.some Jvm.ClassFile.FieldType.int)).before args0 about1 = true := code_word (m := ⟨3, 1⟩) (meth := k3m1) (c := k3c1) (by decide +kernel) rfl rfl rfl (by decide +kernel)
set_option maxRecDepth 65536 in
theorem w_c10 : (Jvm.Cond.code ({ cls := "com/example/sessionkeep/sessionkeep/codec/ObjectStreamShape$Puts", name := "table", desc := "(I)I" } : Jvm.MethodName) prog_13_method_4_code (2 : Nat) (Option.some Jvm.ClassFile.FieldType.int)).before args0 about1 = true := code_word (m := ⟨2, 3⟩) (meth := k2m3) (c := k2c3) (by decide +kernel) rfl rfl rfl (by decide +kernel)
set_option maxRecDepth 65536 in
theorem w_c11 : (Jvm.Cond.code ({ cls := "com/example/sessionkeep/sessionkeep/codec/ObjectStreamShape$Puts", name := "key", desc := "(I)I" } : Jvm.MethodName) prog_13_method_5_code (2 : Nat) (Option.some Jvm.ClassFile.FieldType.int)).before args0 about1 = true := code_word (m := ⟨2, 4⟩) (meth := k2m4) (c := k2c4) (by decide +kernel) rfl rfl rfl (by decide +kernel)
set_option maxRecDepth 65536 in
theorem w_c12 : (Jvm.Cond.code ({ cls := "com/example/sessionkeep/sessionkeep/codec/ObjectStreamShape$Puts", name := "weight", desc := "(I)J" } : Jvm.MethodName) prog_13_method_6_code (2 : Nat) (Option.some Jvm.ClassFile.FieldType.long)).before args0 about1 = true := code_word (m := ⟨2, 5⟩) (meth := k2m5) (c := k2c5) (by decide +kernel) rfl rfl rfl (by decide +kernel)
set_option maxRecDepth 65536 in
theorem w_c13 : (Jvm.Cond.code ({ cls := "com/example/sessionkeep/sessionkeep/codec/ObjectStreamShape$Puts", name := "after", desc := "(I)I" } : Jvm.MethodName) prog_13_method_7_code (2 : Nat) (Option.some Jvm.ClassFile.FieldType.int)).before args0 about1 = true := code_word (m := ⟨2, 6⟩) (meth := k2m6) (c := k2c6) (by decide +kernel) rfl rfl rfl (by decide +kernel)
def codes1 : List Jvm.Cond := [Jvm.Cond.code x code maxLocals ret, Jvm.Cond.code ({ cls := "com/example/sessionkeep/sessionkeep/codec/ObjectStreamShape$Puts", name := "<init>", desc := "()V" } : Jvm.MethodName) prog_13_method_1_code (1 : Nat) (Option.none : Option Jvm.ClassFile.FieldType), Jvm.Cond.code ({ cls := "java/lang/Object", name := "<init>", desc := "()V" } : Jvm.MethodName) object_method_1_code (1 : Nat) (Option.none : Option Jvm.ClassFile.FieldType), Jvm.Cond.code ({ cls := "com/example/sessionkeep/sessionkeep/codec/ObjectStreamShape$Table", name := "<init>", desc := "(ILcom/example/sessionkeep/sessionkeep/codec/ObjectStreamShape$Node;Lcom/example/sessionkeep/sessionkeep/codec/ObjectStreamShape$Layout;ZII)V" } : Jvm.MethodName) prog_14_method_1_code (7 : Nat) (Option.none : Option Jvm.ClassFile.FieldType), Jvm.Cond.code ({ cls := "com/example/sessionkeep/sessionkeep/codec/ObjectStreamShape$Node", name := "<init>", desc := "(ZZ)V" } : Jvm.MethodName) prog_12_method_1_code (3 : Nat) (Option.none : Option Jvm.ClassFile.FieldType), Jvm.Cond.code ({ cls := "java/util/List", name := "of", desc := "()Ljava/util/List;" } : Jvm.MethodName) jdk_40_method_36_code (0 : Nat) (Option.some (Jvm.ClassFile.FieldType.object "java/util/List")), Jvm.Cond.code ({ cls := "com/example/sessionkeep/sessionkeep/codec/ObjectStreamShape$Node", name := "hold", desc := "(Lcom/example/sessionkeep/sessionkeep/codec/ObjectStreamShape$Node;Z)V" } : Jvm.MethodName) prog_12_method_2_code (4 : Nat) (Option.none : Option Jvm.ClassFile.FieldType), Jvm.Cond.code ({ cls := "com/example/sessionkeep/sessionkeep/codec/ObjectStreamShape$Puts", name := "size", desc := "()I" } : Jvm.MethodName) prog_13_method_3_code (1 : Nat) (Option.some Jvm.ClassFile.FieldType.int), Jvm.Cond.code ({ cls := "com/example/sessionkeep/sessionkeep/codec/ObjectStreamShape$Puts", name := "add", desc := "(Lcom/example/sessionkeep/sessionkeep/codec/ObjectStreamShape$Table;Lcom/example/sessionkeep/sessionkeep/codec/ObjectStreamShape$Node;I)V" } : Jvm.MethodName) prog_13_method_2_code (5 : Nat) (Option.none : Option Jvm.ClassFile.FieldType), Jvm.Cond.code ({ cls := "com/example/sessionkeep/sessionkeep/codec/ObjectStreamShape$Table", name := "index", desc := "()I" } : Jvm.MethodName) prog_14_method_2_code (1 : Nat) (Option.some Jvm.ClassFile.FieldType.int), Jvm.Cond.code ({ cls := "com/example/sessionkeep/sessionkeep/codec/ObjectStreamShape$Puts", name := "table", desc := "(I)I" } : Jvm.MethodName) prog_13_method_4_code (2 : Nat) (Option.some Jvm.ClassFile.FieldType.int), Jvm.Cond.code ({ cls := "com/example/sessionkeep/sessionkeep/codec/ObjectStreamShape$Puts", name := "key", desc := "(I)I" } : Jvm.MethodName) prog_13_method_5_code (2 : Nat) (Option.some Jvm.ClassFile.FieldType.int), Jvm.Cond.code ({ cls := "com/example/sessionkeep/sessionkeep/codec/ObjectStreamShape$Puts", name := "weight", desc := "(I)J" } : Jvm.MethodName) prog_13_method_6_code (2 : Nat) (Option.some Jvm.ClassFile.FieldType.long), Jvm.Cond.code ({ cls := "com/example/sessionkeep/sessionkeep/codec/ObjectStreamShape$Puts", name := "after", desc := "(I)I" } : Jvm.MethodName) prog_13_method_7_code (2 : Nat) (Option.some Jvm.ClassFile.FieldType.int)]
set_option maxRecDepth 65536 in
theorem codes_eq : words1.filter isCode = codes1 := rfl
theorem w_codes : ∀ c ∈ words1.filter isCode, c.before args0 about1 = true := by
  rw [codes_eq]
  intro c hc
  simp only [codes1, List.mem_cons, List.not_mem_nil, or_false] at hc
  rcases hc with rfl | rfl | rfl | rfl | rfl | rfl | rfl | rfl | rfl | rfl | rfl | rfl | rfl | rfl
  · exact w_c0
  · exact w_c1
  · exact w_c2
  · exact w_c3
  · exact w_c4
  · exact w_c5
  · exact w_c6
  · exact w_c7
  · exact w_c8
  · exact w_c9
  · exact w_c10
  · exact w_c11
  · exact w_c12
  · exact w_c13
set_option maxRecDepth 65536 in
theorem w_t1 : (words1.take 24).all (fun c => isCode c || c.before args0 about1) = true := by decide +kernel
set_option maxRecDepth 65536 in
theorem w_t2 : ((words1.drop 24).take 24).all (fun c => isCode c || c.before args0 about1) = true := by decide +kernel
set_option maxRecDepth 65536 in
theorem w_t3 : (((words1.drop 24).drop 24).take 24).all (fun c => isCode c || c.before args0 about1) = true := by decide +kernel
set_option maxRecDepth 65536 in
theorem w_t4 : ((((words1.drop 24).drop 24).drop 24).take 24).all (fun c => isCode c || c.before args0 about1) = true := by decide +kernel
set_option maxRecDepth 65536 in
theorem w_t5 : ((((words1.drop 24).drop 24).drop 24).drop 24).all (fun c => isCode c || c.before args0 about1) = true := by decide +kernel
theorem w_tables : (allAtoms (Jvm.Cond.code x code maxLocals ret :: tables_1)).before args0 about1 = true := by
  rw [allAtoms_all]
  show words1.all (fun c => c.before args0 about1) = true
  refine all_split ?_ w_codes
  rw [← List.take_append_drop 24 words1, List.all_append, w_t1, ← List.take_append_drop 24 (words1.drop 24), List.all_append, w_t2, ← List.take_append_drop 24 ((words1.drop 24).drop 24), List.all_append, w_t3, ← List.take_append_drop 24 (((words1.drop 24).drop 24).drop 24), List.all_append, w_t4, w_t5]
  rfl
set_option maxRecDepth 65536 in
theorem w_rest : rest_1_c.before args0 about1 = true := by decide +kernel
set_option maxRecDepth 65536 in
theorem w_case : (Jvm.Cond.and given_1 narrow_1).before args0 about1 = true := by decide +kernel
theorem w_applies : (headSpec (Jvm.Cond.code x code maxLocals ret :: tables_1) room_1).applies x e0.platform about1 = true :=
  (Spec.applies_iff w_frames).mpr ⟨w_running, w_runnable, w_alone, w_named, w_hears, w_ripe, w_room, w_tables⟩
theorem atStart : AtStart classFile x code maxLocals ret World_1 tables_1 room_1 Calls_1 rest_1 Pre_1 launch0 p0 e0 about1 theMethod args0 below0 :=
  ⟨lists_1, trivial, launch0.admits_env _ _ _, launch0.least_env, fairChoices_fair.cas, fairChoices_fair.clock, w_frames, w_args, w_heap, w_applies, trivial, w_rest, w_case⟩
end start1
theorem witness_1 : WitnessClaimed_1 := ⟨start1.p0, start1.e0, start1.about1, start1.theMethod, start1.args0, start1.below0, start1.atStart⟩
end Jvm.Pilot.@@N@@
