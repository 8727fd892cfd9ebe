import JvmDerived
import JvmDerived.Pilot.@@N@@Statement
import JvmDerived.Pilot.@@N@@Code
set_option linter.unusedVariables false
set_option linter.unusedSimpArgs false
namespace Jvm.Pilot.@@N@@
open Jvm Jvm.ClassFile Sem Op Lib Jvm.Free Jvm.Stand Jvm.LawKit Jvm.RoadKit Bundle Jvm.Pilot.@@N@@.Jvm.D
abbrev un : Slot := .unset
theorem ow {Z : State} {a0 : Array Value} {d : Jvm.Cond} (hw : ∀ d ∈ tables_1, d.before a0 Z = true) (i : Nat) (h : tables_1[i]? = some d) : d.before a0 Z = true := hw d (List.mem_of_getElem? h)
section OwnGo
variable {p : Program} {l : Launch} {e : Env} {R : Room} {s : State} {m : MethodId} {args : Array Value} {below : List Frame} {meth : Method} {c : Code} {T T' : State} {locs : List Loc} {cells slots : Nat} {Q : Option Value → Heap → List Loc → Prop} {C S : Nat} {g g' : JFrame} {F : Outcome → State → Prop}
/-- from this state and frame the body comes to an end of which F holds -/
def Go (p : Program) (e : Env) (below : List Frame) (F : Outcome → State → Prop) (T : State) (g : JFrame) : Prop :=
  ∃ s₂ o, Steps p.tables e below (T.setTop g) s₂ ∧ s₂.status = .running ∧ Ended s₂ below o ∧ F o s₂
/-- it returned, Q holds, and nothing else has moved than L and so many new cells and slots -/
abbrev EndN (s : State) (Q : Option Value → Heap → List Loc → Prop) (C S : Nat) (o : Outcome) (t : State) : Prop := ∃ v L, o = .returned v ∧ Q v t.heap L ∧ FrameEnd s o t L C S
theorem Go.enter (q : g = g') (k : Go p e below F T g') : ∃ s₂ o, Steps p.tables e below (T.setTop g) s₂ ∧ s₂.status = .running ∧ Ended s₂ below o ∧ F o s₂ := by
  subst q
  exact k
theorem Go.by (h : ∀ t, Steps p.tables e below (T'.setTop g') t → Steps p.tables e below (T.setTop g) t) (k : Go p e below F T' g') : Go p e below F T g := by
  obtain ⟨s₂, o, h1, h2⟩ := k
  exact ⟨s₂, o, h _ h1, h2⟩
theorem Go.to (h : Steps p.tables e below (T.setTop g) (T'.setTop g')) (k : Go p e below F T' g') : Go p e below F T g := by
  obtain ⟨s₂, o, h1, h2⟩ := k
  exact ⟨s₂, o, h.trans h1, h2⟩
abbrev own_retKind (i : Instr) (t : FieldType) (w : Value) : Prop := (i = .ireturn ∧ (t = .int ∨ t = .boolean ∨ t = .byte ∨ t = .char ∨ t = .short) ∧ ∃ z, w = .int z) ∨ (i = .lreturn ∧ t = .long ∧ ∃ z, w = .long z) ∨ (i = .dreturn ∧ t = .double ∧ ∃ z, w = .double z) ∨ (i = .freturn ∧ t = .float ∧ ∃ z, w = .float z) ∨ (i = .areturn ∧ t.isReference = true ∧ w.isRef = true)
theorem Go.ret (X : Stand p l e R s m args below meth c T locs cells slots) (hx : p.tables.exec = Jvm.exec) (hlocks : meth.locks = false) {pc : Nat} {Ls : Array Slot} {w : Value} {t : FieldType} {i : Instr} {rest : List Value} (hret : meth.sig.returnType = some t) (hn : narrow t w = w)
    (hi : own_retKind i t w) (hd : decode c.code pc = .ok (i, 1)) (hq : Q (some w) T.heap locs) (hc : cells ≤ C) (hs : slots ≤ S) : Go p e below (EndN s Q C S) T (mkF m pc Ls (w :: rest)) := by
  obtain ⟨fs, hr, hrun, hended, hW, hsame⟩ := X.leave (v := some w) (fun h => by rw [hret] at h; cases h) hlocks
  exact ⟨_, _, retOut X hx hret hn hi hd hr, hrun, hended, _, _, rfl, hq, ⟨_, rfl⟩, hW, hsame.mono hc hs⟩
theorem Go.retI (X : Stand p l e R s m args below meth c T locs cells slots) (hx : p.tables.exec = Jvm.exec) (hlocks : meth.locks = false) {pc : Nat} {Ls : Array Slot} {w : Int32} {t : FieldType} {rest : List Value} (hret : meth.sig.returnType = some t) (hn : narrow t (.int w) = .int w)
    (ht : t = .int ∨ t = .boolean ∨ t = .byte ∨ t = .char ∨ t = .short) (hd : decode c.code pc = .ok (.ireturn, 1)) (hq : Q (some (.int w)) T.heap locs) (hc : cells ≤ C) (hs : slots ≤ S) : Go p e below (EndN s Q C S) T (mkF m pc Ls (.int w :: rest)) :=
  Go.ret X hx hlocks hret hn (Or.inl ⟨rfl, ht, _, rfl⟩) hd hq hc hs
theorem Go.retJ (X : Stand p l e R s m args below meth c T locs cells slots) (hx : p.tables.exec = Jvm.exec) (hlocks : meth.locks = false) {pc : Nat} {Ls : Array Slot} {w : Int64} {rest : List Value} (hret : meth.sig.returnType = some .long)
    (hd : decode c.code pc = .ok (.lreturn, 1)) (hq : Q (some (.long w)) T.heap locs) (hc : cells ≤ C) (hs : slots ≤ S) : Go p e below (EndN s Q C S) T (mkF m pc Ls (.long w :: rest)) :=
  Go.ret X hx hlocks hret rfl (Or.inr (Or.inl ⟨rfl, rfl, _, rfl⟩)) hd hq hc hs
theorem own_narR (t : FieldType) {w : Value} (ht : t.isReference = true) (hw : w.isRef = true) : narrow t w = w := by
  cases t <;> first | (simp [FieldType.isReference] at ht; done) | (rcases ref_cases hw with rfl | ⟨_, rfl⟩ <;> rfl)
theorem own_fitR (t : FieldType) {w : Value} (ht : t.isReference = true) (hw : w.isRef = true) : fits t w = true := by
  cases t <;> first | (simp [FieldType.isReference] at ht; done) | (rcases ref_cases hw with rfl | ⟨_, rfl⟩ <;> rfl)
theorem Go.retA (X : Stand p l e R s m args below meth c T locs cells slots) (hx : p.tables.exec = Jvm.exec) (hlocks : meth.locks = false) {pc : Nat} {Ls : Array Slot} {w : Value} {t : FieldType} {rest : List Value} (hret : meth.sig.returnType = some t) (ht : t.isReference = true) (hw : w.isRef = true)
    (hd : decode c.code pc = .ok (.areturn, 1)) (hq : Q (some w) T.heap locs) (hc : cells ≤ C) (hs : slots ≤ S) : Go p e below (EndN s Q C S) T (mkF m pc Ls (w :: rest)) :=
  Go.ret X hx hlocks hret (own_narR t ht hw) (Or.inr (Or.inr (Or.inr (Or.inr ⟨rfl, ht, hw⟩)))) hd hq hc hs
theorem Go.retV (X : Stand p l e R s m args below meth c T locs cells slots) (hx : p.tables.exec = Jvm.exec) (hlocks : meth.locks = false) {pc : Nat} {Ls : Array Slot} (hret : meth.sig.returnType = none)
    (hd : decode c.code pc = .ok (.return_, 1)) (hq : Q none T.heap locs) (hc : cells ≤ C) (hs : slots ≤ S) : Go p e below (EndN s Q C S) T (mkF m pc Ls []) := by
  obtain ⟨fs, hr, hrun, hended, hW, hsame⟩ := X.leave (v := none) (fun _ => rfl) hlocks
  exact ⟨_, _, X.returnOut hx hret hd hr, hrun, hended, _, _, rfl, hq, ⟨_, rfl⟩, hW, hsame.mono hc hs⟩
/-- two or more roads that meet: what comes behind is shown once, for every x that P allows -/
theorem Go.join {α : Type} {P : α → Prop} {fr : α → JFrame} (h : ∀ x, P x → Go p e below F T (fr x)) (k : (∀ x, P x → Go p e below F T (fr x)) → Go p e below F T g) : Go p e below F T g := k h
def own_at (X : Stand p l e R s m args below meth c T locs cells slots) (h : Heap) (T' : State) : Prop := Stand p l e R s m args below meth c T' locs cells slots ∧ T'.heap = h
theorem Go.joinT {α : Type} {St : State → Prop} {P : α → Prop} {fr : α → JFrame} (h : ∀ T', St T' → ∀ x, P x → Go p e below F T' (fr x)) (k : (∀ T', St T' → ∀ x, P x → Go p e below F T' (fr x)) → Go p e below F T g) : Go p e below F T g := k h
end OwnGo
theorem own_pop2 {tb : Tables} [Ours tb] {e : Env} {below : List Frame} {T target : State} {m : MethodId} {c : Code} {g : JFrame} (h : At T m c below) (hx : tb.exec = Jvm.exec) (hg : g.method = m) {x : Int64} {rest : List Value} (hd : decode c.code g.pc = .ok (.pop2, 1)) (hs : g.stack = .long x :: rest)
    (hr : Steps tb e below (T.setTop { g with pc := g.pc + 1, stack := rest }) target) : Steps tb e below (T.setTop g) target := by
  subst hg
  jvm_step h [h.top, hx, hd, hs, Value.category]
  exact hr
section OwnSteps
variable {p : Program} {l : Launch} {e : Env} {R : Room} {s : State} {m : MethodId} {args : Array Value} {below : List Frame} {meth : Method} {c : Code} {T : State} {locs : List Loc} {cells slots : Nat} {F : Outcome → State → Prop}
theorem Go.iload1 (q : Nat) (X : Stand p l e R s m args below meth c T locs cells slots) (hx : p.tables.exec = Jvm.exec) {pc : Nat} {Ls : Array Slot} {k : Fin 4} {v : Int32} {St : List Value} (hd : decode c.code pc = .ok (.iload_n k, 1)) (hl : Ls[k.val]? = some (.val (.int v))) (hq : pc + 1 = q) (K : Go p e below F T (mkF m q Ls (.int v :: St))) : Go p e below F T (mkF m pc Ls St) := by
  subst hq
  exact Go.by (fun _ gk => XS.iloadN X.here hx rfl hd hl gk) K
theorem Go.iload2 (q : Nat) (X : Stand p l e R s m args below meth c T locs cells slots) (hx : p.tables.exec = Jvm.exec) {pc : Nat} {Ls : Array Slot} {k : Nat} {v : Int32} {St : List Value} (hd : decode c.code pc = .ok (.iload k, 2)) (hl : Ls[k]? = some (.val (.int v))) (hq : pc + 2 = q) (K : Go p e below F T (mkF m q Ls (.int v :: St))) : Go p e below F T (mkF m pc Ls St) := by
  subst hq
  exact Go.by (fun _ gk => XS.iload X.here hx rfl hd hl gk) K
theorem Go.istore1 (q : Nat) (X : Stand p l e R s m args below meth c T locs cells slots) (hx : p.tables.exec = Jvm.exec) {pc : Nat} {Ls : Array Slot} {k : Fin 4} {x : Int32} {St : List Value} {L' : Array Slot} (hd : decode c.code pc = .ok (.istore_n k, 1)) (hl : storeLocals Ls k.val (.int x) = some L') (hq : pc + 1 = q) (K : Go p e below F T (mkF m q L' St)) : Go p e below F T (mkF m pc Ls (.int x :: St)) := by
  subst hq
  exact Go.by (fun _ gk => XS.istoreN X.here hx rfl hd rfl hl gk) K
theorem Go.istore2 (q : Nat) (X : Stand p l e R s m args below meth c T locs cells slots) (hx : p.tables.exec = Jvm.exec) {pc : Nat} {Ls : Array Slot} {k : Nat} {x : Int32} {St : List Value} {L' : Array Slot} (hd : decode c.code pc = .ok (.istore k, 2)) (hl : storeLocals Ls k (.int x) = some L') (hq : pc + 2 = q) (K : Go p e below F T (mkF m q L' St)) : Go p e below F T (mkF m pc Ls (.int x :: St)) := by
  subst hq
  exact Go.by (fun _ gk => XS.istore X.here hx rfl hd rfl hl gk) K
theorem Go.lload1 (q : Nat) (X : Stand p l e R s m args below meth c T locs cells slots) (hx : p.tables.exec = Jvm.exec) {pc : Nat} {Ls : Array Slot} {k : Fin 4} {v : Int64} {St : List Value} (hd : decode c.code pc = .ok (.lload_n k, 1)) (hl : Ls[k.val]? = some (.val (.long v))) (hq : pc + 1 = q) (K : Go p e below F T (mkF m q Ls (.long v :: St))) : Go p e below F T (mkF m pc Ls St) := by
  subst hq
  exact Go.by (fun _ gk => XT.lloadN X.here hx rfl hd hl gk) K
theorem Go.lload2 (q : Nat) (X : Stand p l e R s m args below meth c T locs cells slots) (hx : p.tables.exec = Jvm.exec) {pc : Nat} {Ls : Array Slot} {k : Nat} {v : Int64} {St : List Value} (hd : decode c.code pc = .ok (.lload k, 2)) (hl : Ls[k]? = some (.val (.long v))) (hq : pc + 2 = q) (K : Go p e below F T (mkF m q Ls (.long v :: St))) : Go p e below F T (mkF m pc Ls St) := by
  subst hq
  exact Go.by (fun _ gk => XT.lload X.here hx rfl hd hl gk) K
theorem Go.lstore1 (q : Nat) (X : Stand p l e R s m args below meth c T locs cells slots) (hx : p.tables.exec = Jvm.exec) {pc : Nat} {Ls : Array Slot} {k : Fin 4} {x : Int64} {St : List Value} {L' : Array Slot} (hd : decode c.code pc = .ok (.lstore_n k, 1)) (hl : storeLocals Ls k.val (.long x) = some L') (hq : pc + 1 = q) (K : Go p e below F T (mkF m q L' St)) : Go p e below F T (mkF m pc Ls (.long x :: St)) := by
  subst hq
  exact Go.by (fun _ gk => XT.lstoreN X.here hx rfl hd rfl hl gk) K
theorem Go.lstore2 (q : Nat) (X : Stand p l e R s m args below meth c T locs cells slots) (hx : p.tables.exec = Jvm.exec) {pc : Nat} {Ls : Array Slot} {k : Nat} {x : Int64} {St : List Value} {L' : Array Slot} (hd : decode c.code pc = .ok (.lstore k, 2)) (hl : storeLocals Ls k (.long x) = some L') (hq : pc + 2 = q) (K : Go p e below F T (mkF m q L' St)) : Go p e below F T (mkF m pc Ls (.long x :: St)) := by
  subst hq
  exact Go.by (fun _ gk => XT.lstore X.here hx rfl hd rfl hl gk) K
theorem Go.aload1 (q : Nat) (X : Stand p l e R s m args below meth c T locs cells slots) (hx : p.tables.exec = Jvm.exec) {pc : Nat} {Ls : Array Slot} {k : Fin 4} {v : Value} {St : List Value} (hd : decode c.code pc = .ok (.aload_n k, 1)) (hl : Ls[k.val]? = some (.val v)) (hv : v.isRef = true) (hq : pc + 1 = q) (K : Go p e below F T (mkF m q Ls (v :: St))) : Go p e below F T (mkF m pc Ls St) := by
  subst hq
  exact Go.by (fun _ gk => XS.aloadN X.here hx rfl hd hl hv gk) K
theorem Go.aload2 (q : Nat) (X : Stand p l e R s m args below meth c T locs cells slots) (hx : p.tables.exec = Jvm.exec) {pc : Nat} {Ls : Array Slot} {k : Nat} {v : Value} {St : List Value} (hd : decode c.code pc = .ok (.aload k, 2)) (hl : Ls[k]? = some (.val v)) (hv : v.isRef = true) (hq : pc + 2 = q) (K : Go p e below F T (mkF m q Ls (v :: St))) : Go p e below F T (mkF m pc Ls St) := by
  subst hq
  exact Go.by (fun _ gk => XS.aload X.here hx rfl hd hl hv gk) K
theorem Go.astore1 (q : Nat) (X : Stand p l e R s m args below meth c T locs cells slots) (hx : p.tables.exec = Jvm.exec) {pc : Nat} {Ls : Array Slot} {k : Fin 4} {x : Value} {St : List Value} {L' : Array Slot} (hd : decode c.code pc = .ok (.astore_n k, 1)) (hv : x.isRef = true) (hl : storeLocals Ls k.val x = some L') (hq : pc + 1 = q) (K : Go p e below F T (mkF m q L' St)) : Go p e below F T (mkF m pc Ls (x :: St)) := by
  subst hq
  exact Go.by (fun _ gk => XS.astoreN X.here hx rfl hd rfl hv hl gk) K
theorem Go.astore2 (q : Nat) (X : Stand p l e R s m args below meth c T locs cells slots) (hx : p.tables.exec = Jvm.exec) {pc : Nat} {Ls : Array Slot} {k : Nat} {x : Value} {St : List Value} {L' : Array Slot} (hd : decode c.code pc = .ok (.astore k, 2)) (hv : x.isRef = true) (hl : storeLocals Ls k x = some L') (hq : pc + 2 = q) (K : Go p e below F T (mkF m q L' St)) : Go p e below F T (mkF m pc Ls (x :: St)) := by
  subst hq
  exact Go.by (fun _ gk => XS.astore X.here hx rfl hd rfl hv hl gk) K
theorem Go.iconst (q : Nat) (X : Stand p l e R s m args below meth c T locs cells slots) (hx : p.tables.exec = Jvm.exec) {pc : Nat} {Ls : Array Slot} {i : Int} (v : Int32) {St : List Value} (hd : decode c.code pc = .ok (.iconst i, 1)) (hv : Int32.ofInt i = v) (hq : pc + 1 = q) (K : Go p e below F T (mkF m q Ls (.int v :: St))) : Go p e below F T (mkF m pc Ls St) := by
  subst hq
  exact Go.by (fun _ gk => XT.iconstV X.here hx rfl v hd hv gk) K
theorem Go.bipush (q : Nat) (X : Stand p l e R s m args below meth c T locs cells slots) (hx : p.tables.exec = Jvm.exec) {pc : Nat} {Ls : Array Slot} {i : Int} (v : Int32) {St : List Value} (hd : decode c.code pc = .ok (.bipush i, 2)) (hv : (Int8.ofInt i).toInt32 = v) (hq : pc + 2 = q) (K : Go p e below F T (mkF m q Ls (.int v :: St))) : Go p e below F T (mkF m pc Ls St) := by
  subst hq
  exact Go.by (fun _ gk => XT.bipushV X.here hx rfl v hd hv gk) K
theorem Go.sipush (q : Nat) (X : Stand p l e R s m args below meth c T locs cells slots) (hx : p.tables.exec = Jvm.exec) {pc : Nat} {Ls : Array Slot} {i : Int} (v : Int32) {St : List Value} (hd : decode c.code pc = .ok (.sipush i, 3)) (hv : (Int16.ofInt i).toInt32 = v) (hq : pc + 3 = q) (K : Go p e below F T (mkF m q Ls (.int v :: St))) : Go p e below F T (mkF m pc Ls St) := by
  subst hq
  exact Go.by (fun _ gk => XT.sipushV X.here hx rfl v hd hv gk) K
theorem Go.lconst (q : Nat) (X : Stand p l e R s m args below meth c T locs cells slots) (hx : p.tables.exec = Jvm.exec) {pc : Nat} {Ls : Array Slot} {k : Fin 2} (v : Int64) {St : List Value} (hd : decode c.code pc = .ok (.lconst k, 1)) (hv : Int64.ofNat k = v) (hq : pc + 1 = q) (K : Go p e below F T (mkF m q Ls (.long v :: St))) : Go p e below F T (mkF m pc Ls St) := by
  subst hq
  exact Go.by (fun _ gk => XT.lconstV X.here hx rfl v hd hv gk) K
theorem Go.aconst_null (q : Nat) (X : Stand p l e R s m args below meth c T locs cells slots) (hx : p.tables.exec = Jvm.exec) {pc : Nat} {Ls : Array Slot} {St : List Value} (hd : decode c.code pc = .ok (.aconst_null, 1)) (hq : pc + 1 = q) (K : Go p e below F T (mkF m q Ls (.null :: St))) : Go p e below F T (mkF m pc Ls St) := by
  subst hq
  exact Go.by (fun _ gk => XS.aconstNull X.here hx rfl hd gk) K
theorem Go.iadd (q : Nat) (X : Stand p l e R s m args below meth c T locs cells slots) (hx : p.tables.exec = Jvm.exec) {pc : Nat} {Ls : Array Slot} {x y : Int32} {St : List Value} (hd : decode c.code pc = .ok (.iadd, 1)) (hq : pc + 1 = q) (K : Go p e below F T (mkF m q Ls (.int (x + y) :: St))) : Go p e below F T (mkF m pc Ls (.int y :: .int x :: St)) := by
  subst hq
  exact Go.by (fun _ gk => XS.iadd X.here hx rfl hd rfl gk) K
theorem Go.isub (q : Nat) (X : Stand p l e R s m args below meth c T locs cells slots) (hx : p.tables.exec = Jvm.exec) {pc : Nat} {Ls : Array Slot} {x y : Int32} {St : List Value} (hd : decode c.code pc = .ok (.isub, 1)) (hq : pc + 1 = q) (K : Go p e below F T (mkF m q Ls (.int (x - y) :: St))) : Go p e below F T (mkF m pc Ls (.int y :: .int x :: St)) := by
  subst hq
  exact Go.by (fun _ gk => XS.isub X.here hx rfl hd rfl gk) K
theorem Go.imul (q : Nat) (X : Stand p l e R s m args below meth c T locs cells slots) (hx : p.tables.exec = Jvm.exec) {pc : Nat} {Ls : Array Slot} {x y : Int32} {St : List Value} (hd : decode c.code pc = .ok (.imul, 1)) (hq : pc + 1 = q) (K : Go p e below F T (mkF m q Ls (.int (x * y) :: St))) : Go p e below F T (mkF m pc Ls (.int y :: .int x :: St)) := by
  subst hq
  exact Go.by (fun _ gk => XS.imul X.here hx rfl hd rfl gk) K
theorem Go.iand (q : Nat) (X : Stand p l e R s m args below meth c T locs cells slots) (hx : p.tables.exec = Jvm.exec) {pc : Nat} {Ls : Array Slot} {x y : Int32} {St : List Value} (hd : decode c.code pc = .ok (.iand, 1)) (hq : pc + 1 = q) (K : Go p e below F T (mkF m q Ls (.int (x &&& y) :: St))) : Go p e below F T (mkF m pc Ls (.int y :: .int x :: St)) := by
  subst hq
  exact Go.by (fun _ gk => XS.iand X.here hx rfl hd rfl gk) K
theorem Go.ior (q : Nat) (X : Stand p l e R s m args below meth c T locs cells slots) (hx : p.tables.exec = Jvm.exec) {pc : Nat} {Ls : Array Slot} {x y : Int32} {St : List Value} (hd : decode c.code pc = .ok (.ior, 1)) (hq : pc + 1 = q) (K : Go p e below F T (mkF m q Ls (.int (x ||| y) :: St))) : Go p e below F T (mkF m pc Ls (.int y :: .int x :: St)) := by
  subst hq
  exact Go.by (fun _ gk => XT.ior X.here hx rfl hd rfl gk) K
theorem Go.ixor (q : Nat) (X : Stand p l e R s m args below meth c T locs cells slots) (hx : p.tables.exec = Jvm.exec) {pc : Nat} {Ls : Array Slot} {x y : Int32} {St : List Value} (hd : decode c.code pc = .ok (.ixor, 1)) (hq : pc + 1 = q) (K : Go p e below F T (mkF m q Ls (.int (x ^^^ y) :: St))) : Go p e below F T (mkF m pc Ls (.int y :: .int x :: St)) := by
  subst hq
  exact Go.by (fun _ gk => XT.ixor X.here hx rfl hd rfl gk) K
theorem Go.ishl (q : Nat) (X : Stand p l e R s m args below meth c T locs cells slots) (hx : p.tables.exec = Jvm.exec) {pc : Nat} {Ls : Array Slot} {x y : Int32} {St : List Value} (hd : decode c.code pc = .ok (.ishl, 1)) (hq : pc + 1 = q) (K : Go p e below F T (mkF m q Ls (.int (x <<< (y &&& 31)) :: St))) : Go p e below F T (mkF m pc Ls (.int y :: .int x :: St)) := by
  subst hq
  exact Go.by (fun _ gk => XT.ishl X.here hx rfl hd rfl gk) K
theorem Go.ishr (q : Nat) (X : Stand p l e R s m args below meth c T locs cells slots) (hx : p.tables.exec = Jvm.exec) {pc : Nat} {Ls : Array Slot} {x y : Int32} {St : List Value} (hd : decode c.code pc = .ok (.ishr, 1)) (hq : pc + 1 = q) (K : Go p e below F T (mkF m q Ls (.int (x >>> (y &&& 31)) :: St))) : Go p e below F T (mkF m pc Ls (.int y :: .int x :: St)) := by
  subst hq
  exact Go.by (fun _ gk => XT.ishr X.here hx rfl hd rfl gk) K
theorem Go.iushr (q : Nat) (X : Stand p l e R s m args below meth c T locs cells slots) (hx : p.tables.exec = Jvm.exec) {pc : Nat} {Ls : Array Slot} {x y : Int32} {St : List Value} (hd : decode c.code pc = .ok (.iushr, 1)) (hq : pc + 1 = q) (K : Go p e below F T (mkF m q Ls (.int (XT.ushr x y) :: St))) : Go p e below F T (mkF m pc Ls (.int y :: .int x :: St)) := by
  subst hq
  exact Go.by (fun _ gk => XT.iushr X.here hx rfl hd rfl gk) K
theorem Go.ladd (q : Nat) (X : Stand p l e R s m args below meth c T locs cells slots) (hx : p.tables.exec = Jvm.exec) {pc : Nat} {Ls : Array Slot} {x y : Int64} {St : List Value} (hd : decode c.code pc = .ok (.ladd, 1)) (hq : pc + 1 = q) (K : Go p e below F T (mkF m q Ls (.long (x + y) :: St))) : Go p e below F T (mkF m pc Ls (.long y :: .long x :: St)) := by
  subst hq
  exact Go.by (fun _ gk => XT.ladd X.here hx rfl hd rfl gk) K
theorem Go.lsub (q : Nat) (X : Stand p l e R s m args below meth c T locs cells slots) (hx : p.tables.exec = Jvm.exec) {pc : Nat} {Ls : Array Slot} {x y : Int64} {St : List Value} (hd : decode c.code pc = .ok (.lsub, 1)) (hq : pc + 1 = q) (K : Go p e below F T (mkF m q Ls (.long (x - y) :: St))) : Go p e below F T (mkF m pc Ls (.long y :: .long x :: St)) := by
  subst hq
  exact Go.by (fun _ gk => XT.lsub X.here hx rfl hd rfl gk) K
theorem Go.lmul (q : Nat) (X : Stand p l e R s m args below meth c T locs cells slots) (hx : p.tables.exec = Jvm.exec) {pc : Nat} {Ls : Array Slot} {x y : Int64} {St : List Value} (hd : decode c.code pc = .ok (.lmul, 1)) (hq : pc + 1 = q) (K : Go p e below F T (mkF m q Ls (.long (x * y) :: St))) : Go p e below F T (mkF m pc Ls (.long y :: .long x :: St)) := by
  subst hq
  exact Go.by (fun _ gk => XT.lmul X.here hx rfl hd rfl gk) K
theorem Go.land (q : Nat) (X : Stand p l e R s m args below meth c T locs cells slots) (hx : p.tables.exec = Jvm.exec) {pc : Nat} {Ls : Array Slot} {x y : Int64} {St : List Value} (hd : decode c.code pc = .ok (.land, 1)) (hq : pc + 1 = q) (K : Go p e below F T (mkF m q Ls (.long (x &&& y) :: St))) : Go p e below F T (mkF m pc Ls (.long y :: .long x :: St)) := by
  subst hq
  exact Go.by (fun _ gk => XT.land X.here hx rfl hd rfl gk) K
theorem Go.lor (q : Nat) (X : Stand p l e R s m args below meth c T locs cells slots) (hx : p.tables.exec = Jvm.exec) {pc : Nat} {Ls : Array Slot} {x y : Int64} {St : List Value} (hd : decode c.code pc = .ok (.lor, 1)) (hq : pc + 1 = q) (K : Go p e below F T (mkF m q Ls (.long (x ||| y) :: St))) : Go p e below F T (mkF m pc Ls (.long y :: .long x :: St)) := by
  subst hq
  exact Go.by (fun _ gk => XT.lor X.here hx rfl hd rfl gk) K
theorem Go.lxor (q : Nat) (X : Stand p l e R s m args below meth c T locs cells slots) (hx : p.tables.exec = Jvm.exec) {pc : Nat} {Ls : Array Slot} {x y : Int64} {St : List Value} (hd : decode c.code pc = .ok (.lxor, 1)) (hq : pc + 1 = q) (K : Go p e below F T (mkF m q Ls (.long (x ^^^ y) :: St))) : Go p e below F T (mkF m pc Ls (.long y :: .long x :: St)) := by
  subst hq
  exact Go.by (fun _ gk => XT.lxor X.here hx rfl hd rfl gk) K
theorem Go.lshl (q : Nat) (X : Stand p l e R s m args below meth c T locs cells slots) (hx : p.tables.exec = Jvm.exec) {pc : Nat} {Ls : Array Slot} {x : Int64} {y : Int32} {St : List Value} (hd : decode c.code pc = .ok (.lshl, 1)) (hq : pc + 1 = q) (K : Go p e below F T (mkF m q Ls (.long (x <<< (y.toInt64 &&& 63)) :: St))) : Go p e below F T (mkF m pc Ls (.int y :: .long x :: St)) := by
  subst hq
  exact Go.by (fun _ gk => XT.lshl X.here hx rfl hd rfl gk) K
theorem Go.lshr (q : Nat) (X : Stand p l e R s m args below meth c T locs cells slots) (hx : p.tables.exec = Jvm.exec) {pc : Nat} {Ls : Array Slot} {x : Int64} {y : Int32} {St : List Value} (hd : decode c.code pc = .ok (.lshr, 1)) (hq : pc + 1 = q) (K : Go p e below F T (mkF m q Ls (.long (x >>> (y.toInt64 &&& 63)) :: St))) : Go p e below F T (mkF m pc Ls (.int y :: .long x :: St)) := by
  subst hq
  exact Go.by (fun _ gk => XT.lshr X.here hx rfl hd rfl gk) K
theorem Go.lushr (q : Nat) (X : Stand p l e R s m args below meth c T locs cells slots) (hx : p.tables.exec = Jvm.exec) {pc : Nat} {Ls : Array Slot} {x : Int64} {y : Int32} {St : List Value} (hd : decode c.code pc = .ok (.lushr, 1)) (hq : pc + 1 = q) (K : Go p e below F T (mkF m q Ls (.long (XT.ushrL x y) :: St))) : Go p e below F T (mkF m pc Ls (.int y :: .long x :: St)) := by
  subst hq
  exact Go.by (fun _ gk => XT.lushr X.here hx rfl hd rfl gk) K
theorem Go.idiv (q : Nat) (X : Stand p l e R s m args below meth c T locs cells slots) (hx : p.tables.exec = Jvm.exec) {pc : Nat} {Ls : Array Slot} {x y : Int32} {St : List Value} (hd : decode c.code pc = .ok (.idiv, 1)) (hy : y ≠ 0) (hq : pc + 1 = q) (K : Go p e below F T (mkF m q Ls (.int (x / y) :: St))) : Go p e below F T (mkF m pc Ls (.int y :: .int x :: St)) := by
  subst hq
  exact Go.by (fun _ gk => XS.idiv X.here hx rfl hd rfl hy gk) K
theorem Go.irem (q : Nat) (X : Stand p l e R s m args below meth c T locs cells slots) (hx : p.tables.exec = Jvm.exec) {pc : Nat} {Ls : Array Slot} {x y : Int32} {St : List Value} (hd : decode c.code pc = .ok (.irem, 1)) (hy : y ≠ 0) (hq : pc + 1 = q) (K : Go p e below F T (mkF m q Ls (.int (x - (x / y) * y) :: St))) : Go p e below F T (mkF m pc Ls (.int y :: .int x :: St)) := by
  subst hq
  exact Go.by (fun _ gk => XS.irem X.here hx rfl hd rfl hy gk) K
theorem Go.ldiv (q : Nat) (X : Stand p l e R s m args below meth c T locs cells slots) (hx : p.tables.exec = Jvm.exec) {pc : Nat} {Ls : Array Slot} {x y : Int64} {St : List Value} (hd : decode c.code pc = .ok (.ldiv, 1)) (hy : y ≠ 0) (hq : pc + 1 = q) (K : Go p e below F T (mkF m q Ls (.long (x / y) :: St))) : Go p e below F T (mkF m pc Ls (.long y :: .long x :: St)) := by
  subst hq
  exact Go.by (fun _ gk => XT.ldiv X.here hx rfl hd rfl hy gk) K
theorem Go.lrem (q : Nat) (X : Stand p l e R s m args below meth c T locs cells slots) (hx : p.tables.exec = Jvm.exec) {pc : Nat} {Ls : Array Slot} {x y : Int64} {St : List Value} (hd : decode c.code pc = .ok (.lrem, 1)) (hy : y ≠ 0) (hq : pc + 1 = q) (K : Go p e below F T (mkF m q Ls (.long (x - (x / y) * y) :: St))) : Go p e below F T (mkF m pc Ls (.long y :: .long x :: St)) := by
  subst hq
  exact Go.by (fun _ gk => XT.lrem X.here hx rfl hd rfl hy gk) K
theorem Go.ineg (q : Nat) (X : Stand p l e R s m args below meth c T locs cells slots) (hx : p.tables.exec = Jvm.exec) {pc : Nat} {Ls : Array Slot} {x : Int32} {St : List Value} (hd : decode c.code pc = .ok (.ineg, 1)) (hq : pc + 1 = q) (K : Go p e below F T (mkF m q Ls (.int (-x) :: St))) : Go p e below F T (mkF m pc Ls (.int x :: St)) := by
  subst hq
  exact Go.by (fun _ gk => XS.ineg X.here hx rfl hd rfl gk) K
theorem Go.lneg (q : Nat) (X : Stand p l e R s m args below meth c T locs cells slots) (hx : p.tables.exec = Jvm.exec) {pc : Nat} {Ls : Array Slot} {x : Int64} {St : List Value} (hd : decode c.code pc = .ok (.lneg, 1)) (hq : pc + 1 = q) (K : Go p e below F T (mkF m q Ls (.long (-x) :: St))) : Go p e below F T (mkF m pc Ls (.long x :: St)) := by
  subst hq
  exact Go.by (fun _ gk => XT.lneg X.here hx rfl hd rfl gk) K
theorem Go.i2l (q : Nat) (X : Stand p l e R s m args below meth c T locs cells slots) (hx : p.tables.exec = Jvm.exec) {pc : Nat} {Ls : Array Slot} {x : Int32} {St : List Value} (hd : decode c.code pc = .ok (.i2l, 1)) (hq : pc + 1 = q) (K : Go p e below F T (mkF m q Ls (.long (x.toInt64) :: St))) : Go p e below F T (mkF m pc Ls (.int x :: St)) := by
  subst hq
  exact Go.by (fun _ gk => XT.i2l X.here hx rfl hd rfl gk) K
theorem Go.l2i (q : Nat) (X : Stand p l e R s m args below meth c T locs cells slots) (hx : p.tables.exec = Jvm.exec) {pc : Nat} {Ls : Array Slot} {x : Int64} {St : List Value} (hd : decode c.code pc = .ok (.l2i, 1)) (hq : pc + 1 = q) (K : Go p e below F T (mkF m q Ls (.int (x.toInt32) :: St))) : Go p e below F T (mkF m pc Ls (.long x :: St)) := by
  subst hq
  exact Go.by (fun _ gk => XT.l2i X.here hx rfl hd rfl gk) K
theorem Go.i2b (q : Nat) (X : Stand p l e R s m args below meth c T locs cells slots) (hx : p.tables.exec = Jvm.exec) {pc : Nat} {Ls : Array Slot} {x : Int32} {St : List Value} (hd : decode c.code pc = .ok (.i2b, 1)) (hq : pc + 1 = q) (K : Go p e below F T (mkF m q Ls (.int (x.toInt8.toInt32) :: St))) : Go p e below F T (mkF m pc Ls (.int x :: St)) := by
  subst hq
  exact Go.by (fun _ gk => XT.i2b X.here hx rfl hd rfl gk) K
theorem Go.i2s (q : Nat) (X : Stand p l e R s m args below meth c T locs cells slots) (hx : p.tables.exec = Jvm.exec) {pc : Nat} {Ls : Array Slot} {x : Int32} {St : List Value} (hd : decode c.code pc = .ok (.i2s, 1)) (hq : pc + 1 = q) (K : Go p e below F T (mkF m q Ls (.int (x.toInt16.toInt32) :: St))) : Go p e below F T (mkF m pc Ls (.int x :: St)) := by
  subst hq
  exact Go.by (fun _ gk => XT.i2s X.here hx rfl hd rfl gk) K
theorem Go.i2c (q : Nat) (X : Stand p l e R s m args below meth c T locs cells slots) (hx : p.tables.exec = Jvm.exec) {pc : Nat} {Ls : Array Slot} {x : Int32} {St : List Value} (hd : decode c.code pc = .ok (.i2c, 1)) (hq : pc + 1 = q) (K : Go p e below F T (mkF m q Ls (.int (x.toUInt32.toUInt16.toUInt32.toInt32) :: St))) : Go p e below F T (mkF m pc Ls (.int x :: St)) := by
  subst hq
  exact Go.by (fun _ gk => XT.i2c X.here hx rfl hd rfl gk) K
theorem Go.lcmp (q : Nat) (X : Stand p l e R s m args below meth c T locs cells slots) (hx : p.tables.exec = Jvm.exec) {pc : Nat} {Ls : Array Slot} {x y : Int64} {St : List Value} (hd : decode c.code pc = .ok (.lcmp, 1)) (hq : pc + 1 = q) (K : Go p e below F T (mkF m q Ls (.int (XT.cmpL x y) :: St))) : Go p e below F T (mkF m pc Ls (.long y :: .long x :: St)) := by
  subst hq
  exact Go.by (fun _ gk => XT.lcmp X.here hx rfl hd rfl gk) K
theorem Go.dup (q : Nat) (X : Stand p l e R s m args below meth c T locs cells slots) (hx : p.tables.exec = Jvm.exec) {pc : Nat} {Ls : Array Slot} {x : Value} {St : List Value} (hd : decode c.code pc = .ok (.dup, 1)) (hc : x.category = 1) (hq : pc + 1 = q) (K : Go p e below F T (mkF m q Ls (x :: x :: St))) : Go p e below F T (mkF m pc Ls (x :: St)) := by
  subst hq
  exact Go.by (fun _ gk => XS.dup X.here hx rfl hd rfl hc gk) K
theorem Go.pop (q : Nat) (X : Stand p l e R s m args below meth c T locs cells slots) (hx : p.tables.exec = Jvm.exec) {pc : Nat} {Ls : Array Slot} {x : Value} {St : List Value} (hd : decode c.code pc = .ok (.pop, 1)) (hc : x.category = 1) (hq : pc + 1 = q) (K : Go p e below F T (mkF m q Ls St)) : Go p e below F T (mkF m pc Ls (x :: St)) := by
  subst hq
  exact Go.by (fun _ gk => XT.pop X.here hx rfl hd rfl hc gk) K
theorem Go.pop2L (q : Nat) (X : Stand p l e R s m args below meth c T locs cells slots) (hx : p.tables.exec = Jvm.exec) {pc : Nat} {Ls : Array Slot} {x : Int64} {St : List Value} (hd : decode c.code pc = .ok (.pop2, 1)) (hq : pc + 1 = q) (K : Go p e below F T (mkF m q Ls St)) : Go p e below F T (mkF m pc Ls (.long x :: St)) := by
  subst hq
  exact Go.by (fun _ gk => own_pop2 X.here hx rfl hd rfl gk) K
theorem Go.dup_x1 (q : Nat) (X : Stand p l e R s m args below meth c T locs cells slots) (hx : p.tables.exec = Jvm.exec) {pc : Nat} {Ls : Array Slot} {x y : Value} {St : List Value} (hd : decode c.code pc = .ok (.dup_x1, 1)) (hc : x.category = 1) (hc' : y.category = 1) (hq : pc + 1 = q) (K : Go p e below F T (mkF m q Ls (x :: y :: x :: St))) : Go p e below F T (mkF m pc Ls (x :: y :: St)) := by
  subst hq
  exact Go.by (fun _ gk => XT.dupX1 X.here hx rfl hd rfl hc hc' gk) K
theorem Go.dup2 (q : Nat) (X : Stand p l e R s m args below meth c T locs cells slots) (hx : p.tables.exec = Jvm.exec) {pc : Nat} {Ls : Array Slot} {x y : Value} {St : List Value} (hd : decode c.code pc = .ok (.dup2, 1)) (hc : x.category = 1) (hc' : y.category = 1) (hq : pc + 1 = q) (K : Go p e below F T (mkF m q Ls (x :: y :: x :: y :: St))) : Go p e below F T (mkF m pc Ls (x :: y :: St)) := by
  subst hq
  exact Go.by (fun _ gk => XT.dup2 X.here hx rfl hd rfl hc hc' gk) K
theorem Go.dup2L (q : Nat) (X : Stand p l e R s m args below meth c T locs cells slots) (hx : p.tables.exec = Jvm.exec) {pc : Nat} {Ls : Array Slot} {x : Int64} {St : List Value} (hd : decode c.code pc = .ok (.dup2, 1)) (hq : pc + 1 = q) (K : Go p e below F T (mkF m q Ls (.long x :: .long x :: St))) : Go p e below F T (mkF m pc Ls (.long x :: St)) := by
  subst hq
  exact Go.by (fun _ gk => XT.dup2L X.here hx rfl hd rfl gk) K
theorem Go.iinc (q : Nat) (X : Stand p l e R s m args below meth c T locs cells slots) (hx : p.tables.exec = Jvm.exec) {pc : Nat} {Ls : Array Slot} {k : Nat} {cst : Int} {x : Int32} (v : Int32) {St : List Value} {L' : Array Slot} (hd : decode c.code pc = .ok (.iinc k cst, 3)) (hv : Int32.ofInt cst = v) (hl : Ls[k]? = some (.val (.int x))) (hl' : storeLocals Ls k (.int (x + v)) = some L') (hq : pc + 3 = q) (K : Go p e below F T (mkF m q L' St)) : Go p e below F T (mkF m pc Ls St) := by
  subst hq
  exact Go.by (fun _ gk => XT.iincV X.here hx rfl v hd hv hl hl' gk) K
theorem Go.goto (q : Nat) (X : Stand p l e R s m args below meth c T locs cells slots) (hx : p.tables.exec = Jvm.exec) {pc : Nat} {Ls : Array Slot} {o : Int} {St : List Value} (hd : decode c.code pc = .ok (.goto o, 3)) (ho : 0 ≤ (pc : Int) + o) (hq : ((pc : Int) + o).toNat = q) (K : Go p e below F T (mkF m q Ls St)) : Go p e below F T (mkF m pc Ls St) :=
  Go.by (fun _ gk => XS.goto X.here hx rfl rfl hd ho hq gk) K
theorem Go.ifY (q : Nat) (X : Stand p l e R s m args below meth c T locs cells slots) (hx : p.tables.exec = Jvm.exec) {pc : Nat} {Ls : Array Slot} {cd : ClassFile.Cond} {x : Int32} {o : Int} {St : List Value} (hd : decode c.code pc = .ok (.ifCond cd o, 3)) (hc : ifCond.holds cd x = true) (ho : 0 ≤ (pc : Int) + o) (hq : ((pc : Int) + o).toNat = q) (K : Go p e below F T (mkF m q Ls St)) : Go p e below F T (mkF m pc Ls (.int x :: St)) :=
  Go.by (fun _ gk => XS.ifYes X.here hx rfl rfl hd rfl hc ho hq gk) K
theorem Go.ifN (q : Nat) (X : Stand p l e R s m args below meth c T locs cells slots) (hx : p.tables.exec = Jvm.exec) {pc : Nat} {Ls : Array Slot} {cd : ClassFile.Cond} {x : Int32} {o : Int} {St : List Value} (hd : decode c.code pc = .ok (.ifCond cd o, 3)) (hc : ifCond.holds cd x = false) (hq : pc + 3 = q) (K : Go p e below F T (mkF m q Ls St)) : Go p e below F T (mkF m pc Ls (.int x :: St)) := by
  subst hq
  exact Go.by (fun _ gk => XS.ifNo X.here hx rfl hd rfl hc gk) K
theorem Go.icmpY (q : Nat) (X : Stand p l e R s m args below meth c T locs cells slots) (hx : p.tables.exec = Jvm.exec) {pc : Nat} {Ls : Array Slot} {cd : ClassFile.Cond} {x y : Int32} {o : Int} {St : List Value} (hd : decode c.code pc = .ok (.if_icmp cd o, 3)) (hc : if_icmp.holds cd x y = true) (ho : 0 ≤ (pc : Int) + o) (hq : ((pc : Int) + o).toNat = q) (K : Go p e below F T (mkF m q Ls St)) : Go p e below F T (mkF m pc Ls (.int y :: .int x :: St)) :=
  Go.by (fun _ gk => XS.icmpYes X.here hx rfl rfl hd rfl hc ho hq gk) K
theorem Go.icmpN (q : Nat) (X : Stand p l e R s m args below meth c T locs cells slots) (hx : p.tables.exec = Jvm.exec) {pc : Nat} {Ls : Array Slot} {cd : ClassFile.Cond} {x y : Int32} {o : Int} {St : List Value} (hd : decode c.code pc = .ok (.if_icmp cd o, 3)) (hc : if_icmp.holds cd x y = false) (hq : pc + 3 = q) (K : Go p e below F T (mkF m q Ls St)) : Go p e below F T (mkF m pc Ls (.int y :: .int x :: St)) := by
  subst hq
  exact Go.by (fun _ gk => XS.icmpNo X.here hx rfl hd rfl hc gk) K
end OwnSteps
theorem own_len {args : Array Value} {s : State} {t : Term} {a : Addr} {c : Cell} {z : Int32} (ev : t.eval args s none [] s = some (.ref a)) (A : s.arrayAt? a = some c) (h : (Term.length t).eval args s none [] s = some (.int z)) : c.slots.size < 2 ^ 31 ∧ c.slots.size.toInt32 = z := by
  simp only [Term.eval, ev, A, Option.bind_eq_bind, Option.bind_some] at h
  by_cases q : c.slots.size < 2 ^ 31
  · refine ⟨q, ?_⟩
    simpa [q] using h
  · simp [q] at h
theorem own_static {args : Array Value} {s : State} {C n d : String} {v : Value} (h : (Term.static C n d).eval args s none [] s = some v) : ∀ idx, (Term.static C n d).eval args s none idx s = some v := fun idx => by
  simpa [Term.eval] using h
theorem own_valI {Z : State} {args : Array Value} (X : Term) (j : Int32) (hj : ¬ j < 0) (h : (Jvm.Cond.eq X (Term.sub (Term.index 0) (Term.int 128))).value args Z none Z [j.toNatClampNeg] = some true) : X.eval args Z none [j.toNatClampNeg] Z = some (.int (j - 128)) := by
  refine eqv_i ?_ h
  have h1 : (Term.index 0).eval args Z none [j.toNatClampNeg] Z = some (.int j) := idx_at hj
  simp only [Term.eval] at h1 ⊢
  rw [h1]
  rfl
theorem own_boxin {x : Int32} (h1 : ¬ x < -128) (h2 : ¬ (127 : Int32) < x) : ¬ (x + 128) < 0 ∧ (x + 128) < 256 := by
  rw [Int32.lt_iff_toInt_lt] at h1 h2 ⊢
  rw [Int32.lt_iff_toInt_lt]
  have h := c_iadd x 128
  have r := rng32 (x + 128)
  have r2 := rng32 x
  have l1 : (-128 : Int32).toInt = -128 := by decide
  have l2 : (127 : Int32).toInt = 127 := by decide
  have l3 : (128 : Int32).toInt = 128 := by decide
  have l4 : (256 : Int32).toInt = 256 := by decide
  have l5 : (0 : Int32).toInt = 0 := by decide
  omega
theorem own_valJ {Z : State} {args : Array Value} (X : Term) (j : Int32) (hj : ¬ j < 0) (h : (Jvm.Cond.eq X (Term.op1 .i2l (Term.sub (Term.index 0) (Term.int 128)))).value args Z none Z [j.toNatClampNeg] = some true) : X.eval args Z none [j.toNatClampNeg] Z = some (.long (j - 128).toInt64) := by
  refine eqv_l (i2l_at ?_) h
  have h1 : (Term.index 0).eval args Z none [j.toNatClampNeg] Z = some (.int j) := idx_at hj
  simp only [Term.eval] at h1 ⊢
  rw [h1]
  rfl
theorem own_boxinJ {x : Int64} (h1 : ¬ x < -128) (h2 : ¬ (127 : Int64) < x) : ¬ (x.toInt32 + 128) < 0 ∧ (x.toInt32 + 128) < 256 := by
  rw [Int64.lt_iff_toInt_lt] at h1 h2
  rw [Int32.lt_iff_toInt_lt, Int32.lt_iff_toInt_lt]
  have h := c_iadd x.toInt32 128
  have r := rng32 (x.toInt32 + 128)
  have r2 := rng32 x.toInt32
  have r3 := c_l2i x
  have l1 : (-128 : Int64).toInt = -128 := by decide
  have l2 : (127 : Int64).toInt = 127 := by decide
  have l3 : (128 : Int32).toInt = 128 := by decide
  have l4 : (256 : Int32).toInt = 256 := by decide
  have l5 : (0 : Int32).toInt = 0 := by decide
  omega

theorem own_masked (x : Int32) : ¬ (x &&& 2147483647) < 0 := by
  have h := (c_and x (2147483647 : Int32) (by decide)).1
  rw [XT.negI32]
  omega
theorem own_irem (x y : Int32) : x - x / y * y = x % y := irem_eq_mod x y
theorem own_rem {x d k : Int32} (n : Nat) (hx : ¬ x < 0) (hd : d.toInt = n) (hn : 0 < n) (hk : k = x - x / d * d) : ∃ j : Nat, j < n ∧ k = Int32.ofNat j := by
  rw [own_irem] at hk
  rw [XT.negI32] at hx
  have h1 := (c_irem x d n hd).1 (by omega)
  have h2 := Int.emod_nonneg x.toInt (b := (n : Int)) (by omega)
  have h3 := Int.emod_lt_of_pos x.toInt (b := (n : Int)) (by omega)
  refine ⟨k.toInt.toNat, by rw [hk, h1]; omega, ?_⟩
  apply Int32.toInt_inj.mp
  have h4 := rng32 k
  rw [← hk] at h1
  rw [Int32.toInt_ofNat_of_lt (by omega)]
  omega

theorem x_ladd {x y : Int64} (h1 : -9223372036854775808 ≤ x.toInt + y.toInt) (h2 : x.toInt + y.toInt ≤ 9223372036854775807) : (x + y).toInt = x.toInt + y.toInt := by
  have a := c_ladd x y
  have r := rng64 (x + y)
  omega
theorem x_lsub {x y : Int64} (h1 : -9223372036854775808 ≤ x.toInt - y.toInt) (h2 : x.toInt - y.toInt ≤ 9223372036854775807) : (x - y).toInt = x.toInt - y.toInt := by
  have a := c_lsub x y
  have r := rng64 (x - y)
  omega
theorem x_lneg {x : Int64} (h1 : -9223372036854775807 ≤ x.toInt) : (-x).toInt = -x.toInt := by
  have a := c_lneg x
  have r := rng64 (-x)
  have r2 := rng64 x
  omega
theorem x_lmulL {x y : Int64} (k : Int) (hk : x.toInt = k) (h1 : -9223372036854775808 ≤ k * y.toInt) (h2 : k * y.toInt ≤ 9223372036854775807) : (x * y).toInt = k * y.toInt := by
  have a := c_lmul x y
  rw [hk] at a
  have r := rng64 (x * y)
  generalize k * y.toInt = p at *
  omega
theorem x_lmulR {x y : Int64} (k : Int) (hk : y.toInt = k) (h1 : -9223372036854775808 ≤ x.toInt * k) (h2 : x.toInt * k ≤ 9223372036854775807) : (x * y).toInt = x.toInt * k := by
  have a := c_lmul x y
  rw [hk] at a
  have r := rng64 (x * y)
  generalize x.toInt * k = p at *
  omega
theorem x_iadd {x y : Int32} (h1 : -2147483648 ≤ x.toInt + y.toInt) (h2 : x.toInt + y.toInt ≤ 2147483647) : (x + y).toInt = x.toInt + y.toInt := by
  have a := c_iadd x y
  have r := rng32 (x + y)
  omega
theorem x_isub {x y : Int32} (h1 : -2147483648 ≤ x.toInt - y.toInt) (h2 : x.toInt - y.toInt ≤ 2147483647) : (x - y).toInt = x.toInt - y.toInt := by
  have a := c_isub x y
  have r := rng32 (x - y)
  omega
theorem x_imulL {x y : Int32} (k : Int) (hk : x.toInt = k) (h1 : -2147483648 ≤ k * y.toInt) (h2 : k * y.toInt ≤ 2147483647) : (x * y).toInt = k * y.toInt := by
  have a := c_imul x y
  rw [hk] at a
  have r := rng32 (x * y)
  generalize k * y.toInt = p at *
  omega
theorem x_imulR {x y : Int32} (k : Int) (hk : y.toInt = k) (h1 : -2147483648 ≤ x.toInt * k) (h2 : x.toInt * k ≤ 2147483647) : (x * y).toInt = x.toInt * k := by
  have a := c_imul x y
  rw [hk] at a
  have r := rng32 (x * y)
  generalize x.toInt * k = p at *
  omega
theorem x_idiv {x y : Int32} (k : Int) (hk : y.toInt = k) (hm : y ≠ -1) : (0 ≤ x.toInt → (x / y).toInt = x.toInt / k) ∧ (x.toInt < 0 → (x / y).toInt = -((-x.toInt) / k)) := c_idiv x y k hk hm
theorem x_irem {x y : Int32} (k : Int) (hk : y.toInt = k) : (0 ≤ x.toInt → (x - x / y * y).toInt = x.toInt % k) ∧ (x.toInt < 0 → (x - x / y * y).toInt = -((-x.toInt) % k)) := by
  rw [own_irem]
  exact c_irem x y k hk
theorem x_ldiv {x y : Int64} (k : Int) (hk : y.toInt = k) (hm : y ≠ -1) : (0 ≤ x.toInt → (x / y).toInt = x.toInt / k) ∧ (x.toInt < 0 → (x / y).toInt = -((-x.toInt) / k)) := c_ldiv x y k hk hm
theorem x_ldivN {x y : Int64} (k : Int) (h0 : 0 < k) (hk : y.toInt = -k) (hm : y ≠ -1) : (0 ≤ x.toInt → (x / y).toInt = -(x.toInt / k)) ∧ (x.toInt < 0 → (x / y).toInt = (-x.toInt) / k) := c_ldivN x y k h0 hk hm
theorem x_lrem {x y : Int64} (k : Int) (hk : y.toInt = k) : (0 ≤ x.toInt → (x - x / y * y).toInt = x.toInt % k) ∧ (x.toInt < 0 → (x - x / y * y).toInt = -((-x.toInt) % k)) := c_lrem x y k hk
theorem x_l2i {x : Int64} (h1 : -2147483648 ≤ x.toInt) (h2 : x.toInt ≤ 2147483647) : x.toInt32.toInt = x.toInt := by
  have a := c_l2i x
  have r := rng32 x.toInt32
  omega
theorem o_lt64 {x y : Int64} (h : x < y) : x.toInt < y.toInt := Int64.lt_iff_toInt_lt.mp h
theorem o_nlt64 {x y : Int64} (h : ¬ x < y) : ¬ x.toInt < y.toInt := fun q => h (Int64.lt_iff_toInt_lt.mpr q)
theorem o_eq64 {x y : Int64} (h : x = y) : x.toInt = y.toInt := congrArg _ h
theorem o_neq64 {x y : Int64} (h : ¬ x = y) : ¬ x.toInt = y.toInt := fun q => h (Int64.toInt_inj.mp q)
theorem o_lt32 {x y : Int32} (h : x < y) : x.toInt < y.toInt := Int32.lt_iff_toInt_lt.mp h
theorem o_nlt32 {x y : Int32} (h : ¬ x < y) : ¬ x.toInt < y.toInt := fun q => h (Int32.lt_iff_toInt_lt.mpr q)
theorem o_eq32 {x y : Int32} (h : x = y) : x.toInt = y.toInt := congrArg _ h
theorem o_neq32 {x y : Int32} (h : ¬ x = y) : ¬ x.toInt = y.toInt := fun q => h (Int32.toInt_inj.mp q)
theorem u_lt64 {x y : Int64} (h : x.toInt < y.toInt) : x < y := Int64.lt_iff_toInt_lt.mpr h
theorem u_nlt64 {x y : Int64} (h : ¬ x.toInt < y.toInt) : ¬ x < y := fun q => h (Int64.lt_iff_toInt_lt.mp q)
theorem u_eq64 {x y : Int64} (h : x.toInt = y.toInt) : x = y := Int64.toInt_inj.mp h
theorem u_neq64 {x y : Int64} (h : ¬ x.toInt = y.toInt) : ¬ x = y := fun q => h (congrArg _ q)
theorem u_lt32 {x y : Int32} (h : x.toInt < y.toInt) : x < y := Int32.lt_iff_toInt_lt.mpr h
theorem u_nlt32 {x y : Int32} (h : ¬ x.toInt < y.toInt) : ¬ x < y := fun q => h (Int32.lt_iff_toInt_lt.mp q)
theorem u_eq32 {x y : Int32} (h : x.toInt = y.toInt) : x = y := Int32.toInt_inj.mp h
theorem u_neq32 {x y : Int32} (h : ¬ x.toInt = y.toInt) : ¬ x = y := fun q => h (congrArg _ q)
theorem own_i2s {x : Int32} (h : 0 ≤ x.toInt ∧ x.toInt ≤ 127) : x.toInt16.toInt32 = x := by
  have a := c_i2s x
  apply Int32.toInt_inj.mp
  omega
theorem own_nars {x : Int32} (h : 0 ≤ x.toInt ∧ x.toInt ≤ 127) : narrow .short (.int x) = .int x := congrArg Value.int (own_i2s h)
theorem own_fits {x : Int32} (h : 0 ≤ x.toInt ∧ x.toInt ≤ 127) : fits .short (.int x) = true := by
  have q := fits_nar_short x
  rw [show nar .short x = x from own_i2s h] at q
  exact q
theorem x_ldivP {x y : Int64} (k : Int) (hk : y.toInt = k) (hm : y ≠ -1) (h : x.toInt ≤ 0) : (x / y).toInt = -((-x.toInt) / k) := by
  have a := c_ldiv x y k hk hm
  by_cases q : x.toInt < 0
  · exact a.2 q
  · have e : x.toInt = 0 := by omega
    rw [a.1 (by omega), e]
    simp

abbrev own_leap (y : Int) : Prop := y % 4 = 0 ∧ (¬ y % 100 = 0 ∨ y % 400 = 0)
def own_lp (y : Int) : Int := if own_leap y then 1 else 0
/-- the day's number, as toEpochDay counts -/
def own_ed (y m d : Int) : Int := 365 * y + (y + 3) / 4 - (y + 99) / 100 + (y + 399) / 400 + (367 * m - 362) / 12 + d - 1 - (if m ≤ 2 then 0 else 2 - own_lp y) - 719528
theorem own_lp_eq (y : Int) : own_lp y = 1 - ((y + 3) / 4 - (y + 99) / 100 + (y + 399) / 400 - (y / 4 - y / 100 + y / 400)) := by
  unfold own_lp
  by_cases h : own_leap y
  · rw [if_pos h]
    unfold own_leap at h
    omega
  · rw [if_neg h]
    unfold own_leap at h
    omega
theorem own_ed3 (y m d : Int) (h : 3 ≤ m) : own_ed y m d = 365 * y + y / 4 - y / 100 + y / 400 + (367 * m - 362) / 12 + d - 2 - 719528 := by
  unfold own_ed
  rw [if_neg (by omega), own_lp_eq]
  omega
theorem own_ed1 (y m d : Int) (h : m ≤ 2) : own_ed y m d = 365 * y + (y - 1) / 4 - (y - 1) / 100 + (y - 1) / 400 + (367 * m - 362) / 12 + d - 719528 := by
  unfold own_ed
  rw [if_pos h]
  omega
theorem own_of (z E y doy mm m d yy c : Int) (hz : E + 719468 = z + c * 146097) (h0 : 0 ≤ z)
   (hd : doy = z - (365 * y + y / 4 - y / 100 + y / 400)) (hlo : 0 ≤ doy) (hhi : doy ≤ 365) (hmm : mm = (doy * 5 + 2) / 153)
   (hdd : d = doy - (mm * 306 + 5) / 10 + 1) (hm : (mm ≤ 9 ∧ m = mm + 3) ∨ (9 < mm ∧ m = mm - 9)) (hy : (doy < 306 ∧ yy = y + 400 * c) ∨ (306 ≤ doy ∧ yy = y + 400 * c + 1)) :
   own_ed yy m d = E ∧ 1 ≤ m ∧ m ≤ 12 ∧ 1 ≤ d ∧ d ≤ 31 := by
  have b1 : 0 ≤ mm := by omega
  have b2 : mm ≤ 11 := by omega
  rcases hm with ⟨q, rfl⟩ | ⟨q, rfl⟩
  · rw [own_ed3 _ _ _ (by omega)]
    have : doy < 306 := by omega
    have : yy = y + 400 * c := by omega
    subst this
    refine ⟨?_, by omega, by omega, by omega, by omega⟩
    have e1 : (y + 400 * c) / 4 = y / 4 + 100 * c := by omega
    have e2 : (y + 400 * c) / 100 = y / 100 + 4 * c := by omega
    have e3 : (y + 400 * c) / 400 = y / 400 + c := by omega
    rw [e1, e2, e3]
    clear e1 e2 e3
    rcases (by omega : mm = 0 ∨ mm = 1 ∨ mm = 2 ∨ mm = 3 ∨ mm = 4 ∨ mm = 5 ∨ mm = 6 ∨ mm = 7 ∨ mm = 8 ∨ mm = 9) with rfl | rfl | rfl | rfl | rfl | rfl | rfl | rfl | rfl | rfl <;> omega
  · rw [own_ed1 _ _ _ (by omega)]
    have : 306 ≤ doy := by omega
    have : yy = y + 400 * c + 1 := by omega
    subst this
    refine ⟨?_, by omega, by omega, by omega, by omega⟩
    have e1 : (y + 400 * c + 1 - 1) / 4 = y / 4 + 100 * c := by omega
    have e2 : (y + 400 * c + 1 - 1) / 100 = y / 100 + 4 * c := by omega
    have e3 : (y + 400 * c + 1 - 1) / 400 = y / 400 + c := by omega
    rw [e1, e2, e3]
    clear e1 e2 e3
    rcases (by omega : mm = 10 ∨ mm = 11) with rfl | rfl <;> omega
theorem own_est (z y : Int) (h0 : 0 ≤ z) (hy : y = (400 * z + 591) / 146097) : z - (365 * y + y / 4 - y / 100 + y / 400) ≤ 365 ∧ -2 ≤ z - (365 * y + y / 4 - y / 100 + y / 400) := by
  omega
theorem own_est2 (z y : Int) (h : z - (365 * y + y / 4 - y / 100 + y / 400) < 0) (h2 : -2 ≤ z - (365 * y + y / 4 - y / 100 + y / 400)) : z - (365 * (y - 1) + (y - 1) / 4 - (y - 1) / 100 + (y - 1) / 400) ≤ 365 ∧ 0 ≤ z - (365 * (y - 1) + (y - 1) / 4 - (y - 1) / 100 + (y - 1) / 400) := by
  omega
theorem own_sun (y a b c d e f g h i k l m n : Int) (hy : 0 ≤ y) (ha : a = y % 19) (hb : b = y / 100) (hc : c = y % 100) (hd : d = b / 4) (he : e = b % 4) (hh : 0 ≤ h ∧ h < 30) (hi : i = c / 4) (hk : k = c % 4) (hl : l = (32 + 2 * e + 2 * i - h - k) % 7) (hm : m = (a + 11 * h + 22 * l) / 451) (hn : n = h + l - 7 * m + 114) :
   (n / 31 = 3 ∧ 22 ≤ n % 31 + 1 ∧ n % 31 + 1 ≤ 31 ∨ n / 31 = 4 ∧ 1 ≤ n % 31 + 1 ∧ n % 31 + 1 ≤ 25) ∧ (own_ed y (n / 31) (n % 31 + 1) - 3) % 7 = 0 := by
  have bl : 0 ≤ l ∧ l < 7 := by omega
  have ba : 0 ≤ a ∧ a < 19 := by omega
  have bn : 114 ≤ n ∧ n ≤ 148 := by omega
  have w : n / 31 = 3 ∧ 22 ≤ n % 31 + 1 ∧ n % 31 + 1 ≤ 31 ∨ n / 31 = 4 ∧ 1 ≤ n % 31 + 1 ∧ n % 31 + 1 ≤ 25 := by omega
  refine ⟨w, ?_⟩
  have q : own_ed y (n / 31) (n % 31 + 1) = 365 * y + y / 4 - y / 100 + y / 400 + 61 + (n - 114 + 22) - 2 - 719528 := by
    rw [own_ed3 _ _ _ (by omega)]
    rcases w with ⟨w, -⟩ | ⟨w, -⟩ <;> rw [w] <;> omega
  rw [q]
  have y4 : y / 4 = 25 * b + i := by omega
  have y400 : y / 400 = d := by omega
  have yy : y = 100 * b + c := by omega
  rw [y4, y400, ← hb]
  clear w q hm
  omega
theorem own_edH {y m d : Int} (h : 2 < m) (hl : own_leap y) : own_ed y m d = 365 * y + (y + 3) / 4 - (y + 99) / 100 + (y + 399) / 400 + (367 * m - 362) / 12 + d - 1 - 1 - 719528 := by
  unfold own_ed own_lp
  rw [if_neg (by omega), if_pos hl]
  omega
theorem own_edN {y m d : Int} (h : 2 < m) (hl : ¬ own_leap y) : own_ed y m d = 365 * y + (y + 3) / 4 - (y + 99) / 100 + (y + 399) / 400 + (367 * m - 362) / 12 + d - 1 - 2 - 719528 := by
  unfold own_ed own_lp
  rw [if_neg (by omega), if_neg hl]
  omega
theorem own_edL {y m d : Int} (h : m ≤ 2) : own_ed y m d = 365 * y + (y + 3) / 4 - (y + 99) / 100 + (y + 399) / 400 + (367 * m - 362) / 12 + d - 1 - 719528 := by
  unfold own_ed
  rw [if_pos h]
  omega
/-- n is Easter's number of the year y (the month times 31, the day less one) -/
def own_E (y n : Int) : Prop := ∃ a b c d e f g h i k l m : Int, a = y % 19 ∧ b = y / 100 ∧ c = y % 100 ∧ d = b / 4 ∧ e = b % 4 ∧ f = (b + 8) / 25 ∧ g = (b - f + 1) / 3 ∧ h = (19 * a + b - d - g + 15) % 30 ∧ i = c / 4 ∧ k = c % 4 ∧ l = (32 + 2 * e + 2 * i - h - k) % 7 ∧ m = (a + 11 * h + 22 * l) / 451 ∧ n = h + l - 7 * m + 114
theorem own_Eu {y n n' : Int} (h : own_E y n) (h' : own_E y n') : n = n' := by
  obtain ⟨a, b, c, d, e, f, g, h, i, k, l, m, rfl, rfl, rfl, rfl, rfl, rfl, rfl, rfl, rfl, rfl, rfl, rfl, rfl⟩ := h
  obtain ⟨a, b, c, d, e, f, g, h, i, k, l, m, rfl, rfl, rfl, rfl, rfl, rfl, rfl, rfl, rfl, rfl, rfl, rfl, rfl⟩ := h'
  rfl
theorem own_Es {y n : Int} (hy : 0 ≤ y) (E : own_E y n) : (n / 31 = 3 ∧ 22 ≤ n % 31 + 1 ∧ n % 31 + 1 ≤ 31 ∨ n / 31 = 4 ∧ 1 ≤ n % 31 + 1 ∧ n % 31 + 1 ≤ 25) ∧ (own_ed y (n / 31) (n % 31 + 1) - 3) % 7 = 0 := by
  obtain ⟨a, b, c, d, e, f, g, h, i, k, l, m, ha, hb, hc, hd, he, hf, hg, hh, hi, hk, hl, hm, hn⟩ := E
  exact own_sun y a b c d e f g h i k l m n hy ha hb hc hd he ⟨by omega, by omega⟩ hi hk hl hm hn

/-- a char's low byte, signed -/
def own_b (c : Int32) : Int32 := c.toInt8.toInt32
theorem own_bn (c : Int32) : nar .byte c.toInt8.toInt32 = own_b c := by
  show c.toInt8.toInt32.toInt8.toInt32 = c.toInt8.toInt32
  simp
theorem own_b_inj {c d : Int32} (h1 : ¬ c < 0) (h2 : ¬ (255 : Int32) < c) (h3 : ¬ d < 0) (h4 : ¬ (255 : Int32) < d) (h : own_b c = own_b d) : c = d := by
  have e1 := c_i2b c
  have e2 := c_i2b d
  have e3 : c.toInt8.toInt32.toInt = d.toInt8.toInt32.toInt := congrArg Int32.toInt h
  rw [Int32.lt_iff_toInt_lt] at h1 h2 h3 h4
  simp at h1 h2 h3 h4
  apply Int32.toInt_inj.mp
  omega
theorem own_nc (x : Int32) : nar .char (x &&& 255) = x &&& 255 := i2c_mask x
theorem own_255 (x : Int32) : ¬ (255 : Int32) < x &&& 255 := by
  have h := c_and x (255 : Int32) (by decide)
  rw [Int32.lt_iff_toInt_lt]
  have : (255 : Int32).toInt = 255 := by decide
  omega
theorem own_0 (x : Int32) : ¬ (x &&& 255) < 0 := by
  have h := c_and x (255 : Int32) (by decide)
  rw [XT.negI32]
  omega

theorem pn_3 : plainName "java/time/temporal/ValueRange" = true := by first | (simp [plainName, overriddenIn]; done) | decide +kernel
theorem ef_4 (m : MethodId) (x0 : Addr) : entryFrame m #[(.ref x0)] 1 = mkF m 0 #[rv x0] [] := by (first | (simp [entryFrame, mkF, argsToLocals, Value.category]; done) | rfl)
theorem d16_0 : decode jdk_2423_method_6_code 0 = .ok (.aload_n 0, 1) := by decide +kernel
theorem d16_1 : decode jdk_2423_method_6_code 1 = .ok (.getfield 33, 3) := by decide +kernel
theorem d16_4 : decode jdk_2423_method_6_code 4 = .ok (.lreturn, 1) := by decide +kernel
def Q_rmMin (Z : State) (a : Addr) (k0 : Int64) (h0 : Heap) (n0 : Nat) (v : Option Value) (h : Heap) (L : List Loc) : Prop := v = some (.long k0) ∧ Fr n0 L ∧ h = h0
set_option maxRecDepth 65536 in
set_option maxHeartbeats 40000000 in
theorem rmMin (l : Launch) (Z : State) (a0 : Array Value) (hw : ∀ d ∈ tables_1, d.before a0 Z = true) (ws : List Jvm.Cond) (a : Addr) (k0 : Int64) (h0 : Heap) (n0 : Nat) (Z0 : n0 ≤ h0.size) (F_a_minSmallest : Fld Z h0 a "java/time/temporal/ValueRange" "minSmallest" "J" (.long k0)) :
    MetFree l (⟨"java/time/temporal/ValueRange", "getMinimum", "()J"⟩ : MethodName) (head1 (Jvm.Cond.code (⟨"java/time/temporal/ValueRange", "getMinimum", "()J"⟩ : MethodName) jdk_2423_method_6_code 1 (some .long) :: ws) ({ frames := 0, cells := 0, slots := 0, locals := 0 } : Room)) (fun as' U => as' = #[(.ref a)] ∧ Z.Warmed39 U.vm ∧ U.heap = h0) (fun _ _ _ _ _ => True) (fun _ U o U' => ∃ v L, o = .returned v ∧ Q_rmMin Z a k0 h0 n0 v U'.heap L ∧ FrameEnd U o U' L ({ frames := 0, cells := 0, slots := 0, locals := 0 } : Room).cells ({ frames := 0, cells := 0, slots := 0, locals := 0 } : Room).slots) := by
  refine MetFree.of_bodySF (plainFor_of_name pn_3) hisR ?_
  intro p e s m args below meth c s₁ Bd hml0 hP hK
  obtain ⟨rfl, hZ, hh⟩ := hP
  have hx := Bd.exec
  have hby := Bd.bytes
  have hml : c.maxLocals = 1 := hml0
  have hown : s.vm.findClass "java/time/temporal/ValueRange" = some m.cls := findClass_of_methodNamed Bd.named
  have hnm := (name_of_methodNamed Bd.named Bd.method).1
  have X0 : Stand p l e ({ frames := 0, cells := 0, slots := 0, locals := 0 } : Room) s m #[(.ref a)] below meth c s₁ [] 0 0 := Stand.of_body Bd
  have e0 : s₁.heap = h0 := by rw [← hh, Bd.state]; rfl
  have N0 := Fr.nil n0
  refine Go.enter (F := EndN s (Q_rmMin Z a k0 h0 n0) ({ frames := 0, cells := 0, slots := 0, locals := 0 } : Room).cells ({ frames := 0, cells := 0, slots := 0, locals := 0 } : Room).slots) (ef_4 m a) ?_
  show Go _ _ _ _ s₁ (mkF m 0 #[rv a] [])
  refine Go.aload1 1 X0 hx (hb hby d16_0) rfl rfl rfl ?_
  obtain ⟨T1, X1, e1, st1⟩ := getF X0 hx hZ hown (host := "") (Or.inl (ow hw 95 rfl)) Via.refl e0 F_a_minSmallest (g := (mkF m 1 #[rv a] [(.ref a)])) rfl rfl (hb hby d16_1)
  refine Go.by st1 ?_
  show Go _ _ _ _ T1 (mkF m 4 #[rv a] [(.long k0)])
  exact Go.retJ X1 hx Bd.notSynchronized Bd.returns (hb hby d16_4) (by rw [e1]; exact ⟨rfl, N0, rfl⟩) (by decide) (by decide)
theorem d17_0 : decode jdk_2423_method_9_code 0 = .ok (.aload_n 0, 1) := by decide +kernel
theorem d17_1 : decode jdk_2423_method_9_code 1 = .ok (.getfield 43, 3) := by decide +kernel
theorem d17_4 : decode jdk_2423_method_9_code 4 = .ok (.lreturn, 1) := by decide +kernel
def Q_rmMax (Z : State) (a : Addr) (k0 : Int64) (h0 : Heap) (n0 : Nat) (v : Option Value) (h : Heap) (L : List Loc) : Prop := v = some (.long k0) ∧ Fr n0 L ∧ h = h0
set_option maxRecDepth 65536 in
set_option maxHeartbeats 40000000 in
theorem rmMax (l : Launch) (Z : State) (a0 : Array Value) (hw : ∀ d ∈ tables_1, d.before a0 Z = true) (ws : List Jvm.Cond) (a : Addr) (k0 : Int64) (h0 : Heap) (n0 : Nat) (Z0 : n0 ≤ h0.size) (F_a_maxLargest : Fld Z h0 a "java/time/temporal/ValueRange" "maxLargest" "J" (.long k0)) :
    MetFree l (⟨"java/time/temporal/ValueRange", "getMaximum", "()J"⟩ : MethodName) (head1 (Jvm.Cond.code (⟨"java/time/temporal/ValueRange", "getMaximum", "()J"⟩ : MethodName) jdk_2423_method_9_code 1 (some .long) :: ws) ({ frames := 0, cells := 0, slots := 0, locals := 0 } : Room)) (fun as' U => as' = #[(.ref a)] ∧ Z.Warmed39 U.vm ∧ U.heap = h0) (fun _ _ _ _ _ => True) (fun _ U o U' => ∃ v L, o = .returned v ∧ Q_rmMax Z a k0 h0 n0 v U'.heap L ∧ FrameEnd U o U' L ({ frames := 0, cells := 0, slots := 0, locals := 0 } : Room).cells ({ frames := 0, cells := 0, slots := 0, locals := 0 } : Room).slots) := by
  refine MetFree.of_bodySF (plainFor_of_name pn_3) hisR ?_
  intro p e s m args below meth c s₁ Bd hml0 hP hK
  obtain ⟨rfl, hZ, hh⟩ := hP
  have hx := Bd.exec
  have hby := Bd.bytes
  have hml : c.maxLocals = 1 := hml0
  have hown : s.vm.findClass "java/time/temporal/ValueRange" = some m.cls := findClass_of_methodNamed Bd.named
  have hnm := (name_of_methodNamed Bd.named Bd.method).1
  have X0 : Stand p l e ({ frames := 0, cells := 0, slots := 0, locals := 0 } : Room) s m #[(.ref a)] below meth c s₁ [] 0 0 := Stand.of_body Bd
  have e0 : s₁.heap = h0 := by rw [← hh, Bd.state]; rfl
  have N0 := Fr.nil n0
  refine Go.enter (F := EndN s (Q_rmMax Z a k0 h0 n0) ({ frames := 0, cells := 0, slots := 0, locals := 0 } : Room).cells ({ frames := 0, cells := 0, slots := 0, locals := 0 } : Room).slots) (ef_4 m a) ?_
  show Go _ _ _ _ s₁ (mkF m 0 #[rv a] [])
  refine Go.aload1 1 X0 hx (hb hby d17_0) rfl rfl rfl ?_
  obtain ⟨T1, X1, e1, st1⟩ := getF X0 hx hZ hown (host := "") (Or.inl (ow hw 102 rfl)) Via.refl e0 F_a_maxLargest (g := (mkF m 1 #[rv a] [(.ref a)])) rfl rfl (hb hby d17_1)
  refine Go.by st1 ?_
  show Go _ _ _ _ T1 (mkF m 4 #[rv a] [(.long k0)])
  exact Go.retJ X1 hx Bd.notSynchronized Bd.returns (hb hby d17_4) (by rw [e1]; exact ⟨rfl, N0, rfl⟩) (by decide) (by decide)
theorem ef_11 (m : MethodId) (x0 : Addr) (x1 : Int64) : entryFrame m #[(.ref x0), (.long x1)] 3 = mkF m 0 #[rv x0, .val (.long x1), .second] [] := by (first | (simp [entryFrame, mkF, argsToLocals, Value.category]; done) | rfl)
theorem d15_0 : decode jdk_2423_method_11_code 0 = .ok (.lload_n 1, 1) := by decide +kernel
theorem d15_1 : decode jdk_2423_method_11_code 1 = .ok (.aload_n 0, 1) := by decide +kernel
theorem pd_14 : parseMethodDescriptor "()J" = some ⟨[], some .long⟩ := by decide +kernel
theorem d15_2 : decode jdk_2423_method_11_code 2 = .ok (.invokevirtual 46, 3) := by decide +kernel
theorem d15_5 : decode jdk_2423_method_11_code 5 = .ok (.lcmp, 1) := by decide +kernel
theorem d15_6 : decode jdk_2423_method_11_code 6 = .ok (.ifCond .lt 16, 3) := by decide +kernel
theorem d15_9 : decode jdk_2423_method_11_code 9 = .ok (.lload_n 1, 1) := by decide +kernel
theorem d15_10 : decode jdk_2423_method_11_code 10 = .ok (.aload_n 0, 1) := by decide +kernel
theorem d15_11 : decode jdk_2423_method_11_code 11 = .ok (.invokevirtual 54, 3) := by decide +kernel
theorem d15_14 : decode jdk_2423_method_11_code 14 = .ok (.lcmp, 1) := by decide +kernel
theorem d15_15 : decode jdk_2423_method_11_code 15 = .ok (.ifCond .gt 7, 3) := by decide +kernel
theorem d15_18 : decode jdk_2423_method_11_code 18 = .ok (.iconst 1, 1) := by decide +kernel
theorem d15_19 : decode jdk_2423_method_11_code 19 = .ok (.goto 4, 3) := by decide +kernel
theorem d15_23 : decode jdk_2423_method_11_code 23 = .ok (.ireturn, 1) := by decide +kernel
def Q_rmIsv (Z : State) (a : Addr) (x : Int64) (k0 : Int64) (k2 : Int64) (h0 : Heap) (n0 : Nat) (v : Option Value) (h : Heap) (L : List Loc) : Prop := v = some (.int 1) ∧ Fr n0 L ∧ h = h0
set_option maxRecDepth 65536 in
set_option maxHeartbeats 40000000 in
theorem rmIsv (l : Launch) (Z : State) (a0 : Array Value) (hw : ∀ d ∈ tables_1, d.before a0 Z = true) (ws : List Jvm.Cond) (a : Addr) (x : Int64) (k0 : Int64) (k2 : Int64) (h0 : Heap) (n0 : Nat) (Z0 : n0 ≤ h0.size) (E_a : Exa Z h0 a "java/time/temporal/ValueRange") (F_a_minSmallest : Fld Z h0 a "java/time/temporal/ValueRange" "minSmallest" "J" (.long k0)) (F_a_maxLargest : Fld Z h0 a "java/time/temporal/ValueRange" "maxLargest" "J" (.long k2)) (hlo : (¬ x < k0)) (hhi : (¬ k2 < x)) :
    MetFree l (⟨"java/time/temporal/ValueRange", "isValidValue", "(J)Z"⟩ : MethodName) (head1 (Jvm.Cond.code (⟨"java/time/temporal/ValueRange", "isValidValue", "(J)Z"⟩ : MethodName) jdk_2423_method_11_code 3 (some .boolean) :: ws) ({ frames := 1, cells := 0, slots := 0, locals := 14 } : Room)) (fun as' U => as' = #[(.ref a), (.long x)] ∧ Z.Warmed39 U.vm ∧ U.heap = h0) (fun _ _ _ _ _ => True) (fun _ U o U' => ∃ v L, o = .returned v ∧ Q_rmIsv Z a x k0 k2 h0 n0 v U'.heap L ∧ FrameEnd U o U' L ({ frames := 1, cells := 0, slots := 0, locals := 14 } : Room).cells ({ frames := 1, cells := 0, slots := 0, locals := 14 } : Room).slots) := by
  refine MetFree.of_bodySF (plainFor_of_name pn_3) hisR ?_
  intro p e s m args below meth c s₁ Bd hml0 hP hK
  obtain ⟨rfl, hZ, hh⟩ := hP
  have hx := Bd.exec
  have hby := Bd.bytes
  have hml : c.maxLocals = 3 := hml0
  have hown : s.vm.findClass "java/time/temporal/ValueRange" = some m.cls := findClass_of_methodNamed Bd.named
  have hnm := (name_of_methodNamed Bd.named Bd.method).1
  have X0 : Stand p l e ({ frames := 1, cells := 0, slots := 0, locals := 14 } : Room) s m #[(.ref a), (.long x)] below meth c s₁ [] 0 0 := Stand.of_body Bd
  have e0 : s₁.heap = h0 := by rw [← hh, Bd.state]; rfl
  have N0 := Fr.nil n0
  refine Go.enter (F := EndN s (Q_rmIsv Z a x k0 k2 h0 n0) ({ frames := 1, cells := 0, slots := 0, locals := 14 } : Room).cells ({ frames := 1, cells := 0, slots := 0, locals := 14 } : Room).slots) (ef_11 m a x) ?_
  show Go _ _ _ _ s₁ (mkF m 0 #[rv a, .val (.long x), .second] [])
  refine Go.lload1 1 X0 hx (hb hby d15_0) rfl rfl ?_
  refine Go.aload1 2 X0 hx (hb hby d15_1) rfl rfl rfl ?_
  obtain ⟨cq1, kq1, q1a, q1b, q1c⟩ := isOf hZ e0 E_a
  obtain ⟨_, _, ⟨T1, L1, k1, n1⟩, -, X1, ⟨Lc1, hQ1, l1, y1, z1⟩, st1⟩ := X0.virtualBack hx (y := (⟨"java/time/temporal/ValueRange", "getMinimum", "()J"⟩ : MethodName)) (z := (⟨"java/time/temporal/ValueRange", "getMinimum", "()J"⟩ : MethodName)) hown (mvT hZ (ow hw 90 rfl)) (mvT hZ (ow hw 91 rfl)) (notFace_of_selects (args := #[]) (mvT hZ (ow hw 93 rfl))) (mvT hZ (ow hw 93 rfl)) (mvT hZ (ow hw 92 rfl)) (by decide) (backOf (W := 2) (rmMin l Z a0 hw [] a k0 h0 n0 Z0 F_a_minSmallest) hZ (ow hw 94 rfl) (ow hw 83 rfl) (by decide) (by decide)) q1a q1c (g := (mkF m 2 #[rv a, .val (.long x), .second] [(.ref a), (.long x)])) rfl (by rw [hml]; rfl) (Steps.refl _) (argsL := []) (rest := [(.long x)]) (lenOf pd_14 rfl) rfl (by show 2 * 0 + _ ≤ _; exact Nat.le_of_eq rfl) (hb hby d15_2) (fun _ _ => ⟨rfl, e0, (by decide : 0 + 0 ≤ _), (by decide : 0 + 0 ≤ _)⟩)
  dsimp only [Pt.U, Pt.locs, Pt.cells, Pt.slots] at X1 l1 y1 z1 st1 hQ1
  subst l1 y1 z1
  obtain ⟨rfl, N1q, e1⟩ := hQ1
  have N1 := Fr.app N0 N1q
  refine Go.to st1 ?_
  show Go _ _ _ _ T1 (mkF m 5 #[rv a, .val (.long x), .second] [(.long k0), (.long x)])
  refine Go.lcmp 6 X1 hx (hb hby d15_5) rfl ?_
  refine Go.ifN 9 X1 hx (hb hby d15_6) (XT.ll_lt_f hlo) rfl ?_
  refine Go.lload1 10 X1 hx (hb hby d15_9) rfl rfl ?_
  refine Go.aload1 11 X1 hx (hb hby d15_10) rfl rfl rfl ?_
  obtain ⟨cq2, kq2, q2a, q2b, q2c⟩ := isOf hZ e1 E_a
  obtain ⟨_, _, ⟨T2, L2, k2, n2⟩, -, X2, ⟨Lc2, hQ2, l2, y2, z2⟩, st2⟩ := X1.virtualBack hx (y := (⟨"java/time/temporal/ValueRange", "getMaximum", "()J"⟩ : MethodName)) (z := (⟨"java/time/temporal/ValueRange", "getMaximum", "()J"⟩ : MethodName)) hown (mvT hZ (ow hw 97 rfl)) (mvT hZ (ow hw 98 rfl)) (notFace_of_selects (args := #[]) (mvT hZ (ow hw 100 rfl))) (mvT hZ (ow hw 100 rfl)) (mvT hZ (ow hw 99 rfl)) (by decide) (backOf (W := 2) (rmMax l Z a0 hw [] a k2 h0 n0 Z0 F_a_maxLargest) hZ (ow hw 101 rfl) (ow hw 83 rfl) (by decide) (by decide)) q2a q2c (g := (mkF m 11 #[rv a, .val (.long x), .second] [(.ref a), (.long x)])) rfl (by rw [hml]; rfl) (Steps.refl _) (argsL := []) (rest := [(.long x)]) (lenOf pd_14 rfl) rfl (by show 2 * 0 + _ ≤ _; exact Nat.le_of_eq rfl) (hb hby d15_11) (fun _ _ => ⟨rfl, e1, (by decide : 0 + 0 ≤ _), (by decide : 0 + 0 ≤ _)⟩)
  dsimp only [Pt.U, Pt.locs, Pt.cells, Pt.slots] at X2 l2 y2 z2 st2 hQ2
  subst l2 y2 z2
  obtain ⟨rfl, N2q, e2⟩ := hQ2
  have N2 := Fr.app N1 N2q
  refine Go.to st2 ?_
  show Go _ _ _ _ T2 (mkF m 14 #[rv a, .val (.long x), .second] [(.long k2), (.long x)])
  refine Go.lcmp 15 X2 hx (hb hby d15_14) rfl ?_
  refine Go.ifN 18 X2 hx (hb hby d15_15) (XT.ll_gt_f hhi) rfl ?_
  refine Go.iconst 19 X2 hx (1 : Int32) (hb hby d15_18) (by decide) rfl ?_
  refine Go.goto 23 X2 hx (hb hby d15_19) (by decide) (by decide) ?_
  exact Go.retI X2 hx Bd.notSynchronized Bd.returns rfl (by simp) (hb hby d15_23) (by rw [e2]; exact ⟨rfl, N2, rfl⟩) (by decide) (by decide)
theorem ef_26 (m : MethodId) (x0 : Addr) (x1 : Int64) (x2 : Addr) : entryFrame m #[(.ref x0), (.long x1), (.ref x2)] 4 = mkF m 0 #[rv x0, .val (.long x1), .second, rv x2] [] := by (first | (simp [entryFrame, mkF, argsToLocals, Value.category]; done) | rfl)
theorem d14_0 : decode jdk_2423_method_13_code 0 = .ok (.aload_n 0, 1) := by decide +kernel
theorem d14_1 : decode jdk_2423_method_13_code 1 = .ok (.lload_n 1, 1) := by decide +kernel
theorem pd_29 : parseMethodDescriptor "(J)Z" = some ⟨[.long], some .boolean⟩ := by decide +kernel
theorem d14_2 : decode jdk_2423_method_13_code 2 = .ok (.invokevirtual 63, 3) := by decide +kernel
theorem d14_5 : decode jdk_2423_method_13_code 5 = .ok (.ifCond .ne 17, 3) := by decide +kernel
theorem d14_22 : decode jdk_2423_method_13_code 22 = .ok (.lload_n 1, 1) := by decide +kernel
theorem d14_23 : decode jdk_2423_method_13_code 23 = .ok (.lreturn, 1) := by decide +kernel
def Q_rmCvv (Z : State) (a : Addr) (x : Int64) (k0 : Int64) (k2 : Int64) (b : Addr) (h0 : Heap) (n0 : Nat) (v : Option Value) (h : Heap) (L : List Loc) : Prop := v = some (.long x) ∧ Fr n0 L ∧ h = h0
set_option maxRecDepth 65536 in
set_option maxHeartbeats 40000000 in
theorem rmCvv (l : Launch) (Z : State) (a0 : Array Value) (hw : ∀ d ∈ tables_1, d.before a0 Z = true) (ws : List Jvm.Cond) (a : Addr) (x : Int64) (k0 : Int64) (k2 : Int64) (b : Addr) (h0 : Heap) (n0 : Nat) (Z0 : n0 ≤ h0.size) (E_a : Exa Z h0 a "java/time/temporal/ValueRange") (F_a_minSmallest : Fld Z h0 a "java/time/temporal/ValueRange" "minSmallest" "J" (.long k0)) (F_a_maxLargest : Fld Z h0 a "java/time/temporal/ValueRange" "maxLargest" "J" (.long k2)) (hlo : (¬ x < k0)) (hhi : (¬ k2 < x)) :
    MetFree l (⟨"java/time/temporal/ValueRange", "checkValidValue", "(JLjava/time/temporal/TemporalField;)J"⟩ : MethodName) (head1 (Jvm.Cond.code (⟨"java/time/temporal/ValueRange", "checkValidValue", "(JLjava/time/temporal/TemporalField;)J"⟩ : MethodName) jdk_2423_method_13_code 4 (some .long) :: ws) ({ frames := 2, cells := 0, slots := 0, locals := 28 } : Room)) (fun as' U => as' = #[(.ref a), (.long x), (.ref b)] ∧ Z.Warmed39 U.vm ∧ U.heap = h0) (fun _ _ _ _ _ => True) (fun _ U o U' => ∃ v L, o = .returned v ∧ Q_rmCvv Z a x k0 k2 b h0 n0 v U'.heap L ∧ FrameEnd U o U' L ({ frames := 2, cells := 0, slots := 0, locals := 28 } : Room).cells ({ frames := 2, cells := 0, slots := 0, locals := 28 } : Room).slots) := by
  refine MetFree.of_bodySF (plainFor_of_name pn_3) hisR ?_
  intro p e s m args below meth c s₁ Bd hml0 hP hK
  obtain ⟨rfl, hZ, hh⟩ := hP
  have hx := Bd.exec
  have hby := Bd.bytes
  have hml : c.maxLocals = 4 := hml0
  have hown : s.vm.findClass "java/time/temporal/ValueRange" = some m.cls := findClass_of_methodNamed Bd.named
  have hnm := (name_of_methodNamed Bd.named Bd.method).1
  have X0 : Stand p l e ({ frames := 2, cells := 0, slots := 0, locals := 28 } : Room) s m #[(.ref a), (.long x), (.ref b)] below meth c s₁ [] 0 0 := Stand.of_body Bd
  have e0 : s₁.heap = h0 := by rw [← hh, Bd.state]; rfl
  have N0 := Fr.nil n0
  refine Go.enter (F := EndN s (Q_rmCvv Z a x k0 k2 b h0 n0) ({ frames := 2, cells := 0, slots := 0, locals := 28 } : Room).cells ({ frames := 2, cells := 0, slots := 0, locals := 28 } : Room).slots) (ef_26 m a x b) ?_
  show Go _ _ _ _ s₁ (mkF m 0 #[rv a, .val (.long x), .second, rv b] [])
  refine Go.aload1 1 X0 hx (hb hby d14_0) rfl rfl rfl ?_
  refine Go.lload1 2 X0 hx (hb hby d14_1) rfl rfl ?_
  obtain ⟨cq1, kq1, q1a, q1b, q1c⟩ := isOf hZ e0 E_a
  obtain ⟨_, _, ⟨T1, L1, k1, n1⟩, -, X1, ⟨Lc1, hQ1, l1, y1, z1⟩, st1⟩ := X0.virtualBack hx (y := (⟨"java/time/temporal/ValueRange", "isValidValue", "(J)Z"⟩ : MethodName)) (z := (⟨"java/time/temporal/ValueRange", "isValidValue", "(J)Z"⟩ : MethodName)) hown (mvT hZ (ow hw 85 rfl)) (mvT hZ (ow hw 86 rfl)) (notFace_of_selects (args := #[]) (mvT hZ (ow hw 88 rfl))) (mvT hZ (ow hw 88 rfl)) (mvT hZ (ow hw 87 rfl)) (by decide) (backOf (W := 0) (rmIsv l Z a0 hw [] a x k0 k2 h0 n0 Z0 E_a F_a_minSmallest F_a_maxLargest hlo hhi) hZ (ow hw 89 rfl) (ow hw 83 rfl) (by decide) (by decide)) q1a q1c (g := (mkF m 2 #[rv a, .val (.long x), .second, rv b] [(.long x), (.ref a)])) rfl (by rw [hml]; rfl) (Steps.refl _) (argsL := [(.long x)]) (rest := []) (lenOf pd_29 rfl) rfl (by show 2 * 0 + _ ≤ _; exact Nat.le_of_eq rfl) (hb hby d14_2) (fun _ _ => ⟨rfl, e0, (by decide : 0 + 0 ≤ _), (by decide : 0 + 0 ≤ _)⟩)
  dsimp only [Pt.U, Pt.locs, Pt.cells, Pt.slots] at X1 l1 y1 z1 st1 hQ1
  subst l1 y1 z1
  obtain ⟨rfl, N1q, e1⟩ := hQ1
  have N1 := Fr.app N0 N1q
  refine Go.to st1 ?_
  show Go _ _ _ _ T1 (mkF m 5 #[rv a, .val (.long x), .second, rv b] [(.int 1)])
  refine Go.ifY 22 X1 hx (hb hby d14_5) (XT.i0_ne_t (by decide)) (by decide) (by decide) ?_
  refine Go.lload1 23 X1 hx (hb hby d14_22) rfl rfl ?_
  exact Go.retJ X1 hx Bd.notSynchronized Bd.returns (hb hby d14_23) (by rw [e1]; exact ⟨rfl, N1, rfl⟩) (by decide) (by decide)
theorem pn_34 : plainName "java/time/temporal/ChronoField" = true := by first | (simp [plainName, overriddenIn]; done) | decide +kernel
theorem d13_0 : decode jdk_2395_method_8_code 0 = .ok (.aload_n 0, 1) := by decide +kernel
theorem d13_1 : decode jdk_2395_method_8_code 1 = .ok (.getfield 124, 3) := by decide +kernel
theorem d13_4 : decode jdk_2395_method_8_code 4 = .ok (.areturn, 1) := by decide +kernel
def Q_rmRange (Z : State) (b : Addr) (a : Addr) (h0 : Heap) (n0 : Nat) (v : Option Value) (h : Heap) (L : List Loc) : Prop := v = some (.ref a) ∧ Fr n0 L ∧ h = h0
set_option maxRecDepth 65536 in
set_option maxHeartbeats 40000000 in
theorem rmRange (l : Launch) (Z : State) (a0 : Array Value) (hw : ∀ d ∈ tables_1, d.before a0 Z = true) (ws : List Jvm.Cond) (b : Addr) (a : Addr) (h0 : Heap) (n0 : Nat) (Z0 : n0 ≤ h0.size) (F_b_range : Fld Z h0 b "java/time/temporal/ChronoField" "range" "Ljava/time/temporal/ValueRange;" (.ref a)) :
    MetFree l (⟨"java/time/temporal/ChronoField", "range", "()Ljava/time/temporal/ValueRange;"⟩ : MethodName) (head1 (Jvm.Cond.code (⟨"java/time/temporal/ChronoField", "range", "()Ljava/time/temporal/ValueRange;"⟩ : MethodName) jdk_2395_method_8_code 1 (some (.object "java/time/temporal/ValueRange")) :: ws) ({ frames := 0, cells := 0, slots := 0, locals := 0 } : Room)) (fun as' U => as' = #[(.ref b)] ∧ Z.Warmed39 U.vm ∧ U.heap = h0) (fun _ _ _ _ _ => True) (fun _ U o U' => ∃ v L, o = .returned v ∧ Q_rmRange Z b a h0 n0 v U'.heap L ∧ FrameEnd U o U' L ({ frames := 0, cells := 0, slots := 0, locals := 0 } : Room).cells ({ frames := 0, cells := 0, slots := 0, locals := 0 } : Room).slots) := by
  refine MetFree.of_bodySF (plainFor_of_name pn_34) hisR ?_
  intro p e s m args below meth c s₁ Bd hml0 hP hK
  obtain ⟨rfl, hZ, hh⟩ := hP
  have hx := Bd.exec
  have hby := Bd.bytes
  have hml : c.maxLocals = 1 := hml0
  have hown : s.vm.findClass "java/time/temporal/ChronoField" = some m.cls := findClass_of_methodNamed Bd.named
  have hnm := (name_of_methodNamed Bd.named Bd.method).1
  have X0 : Stand p l e ({ frames := 0, cells := 0, slots := 0, locals := 0 } : Room) s m #[(.ref b)] below meth c s₁ [] 0 0 := Stand.of_body Bd
  have e0 : s₁.heap = h0 := by rw [← hh, Bd.state]; rfl
  have N0 := Fr.nil n0
  refine Go.enter (F := EndN s (Q_rmRange Z b a h0 n0) ({ frames := 0, cells := 0, slots := 0, locals := 0 } : Room).cells ({ frames := 0, cells := 0, slots := 0, locals := 0 } : Room).slots) (ef_4 m b) ?_
  show Go _ _ _ _ s₁ (mkF m 0 #[rv b] [])
  refine Go.aload1 1 X0 hx (hb hby d13_0) rfl rfl rfl ?_
  obtain ⟨T1, X1, e1, st1⟩ := getF X0 hx hZ hown (host := "") (Or.inl (ow hw 77 rfl)) Via.refl e0 F_b_range (g := (mkF m 1 #[rv b] [(.ref b)])) rfl rfl (hb hby d13_1)
  refine Go.by st1 ?_
  show Go _ _ _ _ T1 (mkF m 4 #[rv b] [(.ref a)])
  exact Go.retA X1 hx Bd.notSynchronized Bd.returns rfl rfl (hb hby d13_4) (by rw [e1]; exact ⟨rfl, N0, rfl⟩) (by decide) (by decide)
theorem d12_0 : decode jdk_2395_method_11_code 0 = .ok (.aload_n 0, 1) := by decide +kernel
theorem pd_39 : parseMethodDescriptor "()Ljava/time/temporal/ValueRange;" = some ⟨[], some (.object "java/time/temporal/ValueRange")⟩ := by decide +kernel
theorem d12_1 : decode jdk_2395_method_11_code 1 = .ok (.invokevirtual 190, 3) := by decide +kernel
theorem d12_4 : decode jdk_2395_method_11_code 4 = .ok (.lload_n 1, 1) := by decide +kernel
theorem d12_5 : decode jdk_2395_method_11_code 5 = .ok (.aload_n 0, 1) := by decide +kernel
theorem pd_43 : parseMethodDescriptor "(JLjava/time/temporal/TemporalField;)J" = some ⟨[.long, (.object "java/time/temporal/TemporalField")], some .long⟩ := by decide +kernel
theorem d12_6 : decode jdk_2395_method_11_code 6 = .ok (.invokevirtual 193, 3) := by decide +kernel
theorem d12_9 : decode jdk_2395_method_11_code 9 = .ok (.lreturn, 1) := by decide +kernel
def Q_rmChk (Z : State) (b : Addr) (a : Addr) (x : Int64) (k0 : Int64) (k2 : Int64) (h0 : Heap) (n0 : Nat) (v : Option Value) (h : Heap) (L : List Loc) : Prop := v = some (.long x) ∧ Fr n0 L ∧ h = h0
set_option maxRecDepth 65536 in
set_option maxHeartbeats 40000000 in
theorem rmChk (l : Launch) (Z : State) (a0 : Array Value) (hw : ∀ d ∈ tables_1, d.before a0 Z = true) (ws : List Jvm.Cond) (b : Addr) (a : Addr) (x : Int64) (k0 : Int64) (k2 : Int64) (h0 : Heap) (n0 : Nat) (Z0 : n0 ≤ h0.size) (E_b : Exa Z h0 b "java/time/temporal/ChronoField") (F_b_range : Fld Z h0 b "java/time/temporal/ChronoField" "range" "Ljava/time/temporal/ValueRange;" (.ref a)) (E_a : Exa Z h0 a "java/time/temporal/ValueRange") (F_a_minSmallest : Fld Z h0 a "java/time/temporal/ValueRange" "minSmallest" "J" (.long k0)) (F_a_maxLargest : Fld Z h0 a "java/time/temporal/ValueRange" "maxLargest" "J" (.long k2)) (hlo : (¬ x < k0)) (hhi : (¬ k2 < x)) :
    MetFree l (⟨"java/time/temporal/ChronoField", "checkValidValue", "(J)J"⟩ : MethodName) (head1 (Jvm.Cond.code (⟨"java/time/temporal/ChronoField", "checkValidValue", "(J)J"⟩ : MethodName) jdk_2395_method_11_code 3 (some .long) :: ws) ({ frames := 3, cells := 0, slots := 0, locals := 43 } : Room)) (fun as' U => as' = #[(.ref b), (.long x)] ∧ Z.Warmed39 U.vm ∧ U.heap = h0) (fun _ _ _ _ _ => True) (fun _ U o U' => ∃ v L, o = .returned v ∧ Q_rmChk Z b a x k0 k2 h0 n0 v U'.heap L ∧ FrameEnd U o U' L ({ frames := 3, cells := 0, slots := 0, locals := 43 } : Room).cells ({ frames := 3, cells := 0, slots := 0, locals := 43 } : Room).slots) := by
  refine MetFree.of_bodySF (plainFor_of_name pn_34) hisR ?_
  intro p e s m args below meth c s₁ Bd hml0 hP hK
  obtain ⟨rfl, hZ, hh⟩ := hP
  have hx := Bd.exec
  have hby := Bd.bytes
  have hml : c.maxLocals = 3 := hml0
  have hown : s.vm.findClass "java/time/temporal/ChronoField" = some m.cls := findClass_of_methodNamed Bd.named
  have hnm := (name_of_methodNamed Bd.named Bd.method).1
  have X0 : Stand p l e ({ frames := 3, cells := 0, slots := 0, locals := 43 } : Room) s m #[(.ref b), (.long x)] below meth c s₁ [] 0 0 := Stand.of_body Bd
  have e0 : s₁.heap = h0 := by rw [← hh, Bd.state]; rfl
  have N0 := Fr.nil n0
  refine Go.enter (F := EndN s (Q_rmChk Z b a x k0 k2 h0 n0) ({ frames := 3, cells := 0, slots := 0, locals := 43 } : Room).cells ({ frames := 3, cells := 0, slots := 0, locals := 43 } : Room).slots) (ef_11 m b x) ?_
  show Go _ _ _ _ s₁ (mkF m 0 #[rv b, .val (.long x), .second] [])
  refine Go.aload1 1 X0 hx (hb hby d12_0) rfl rfl rfl ?_
  obtain ⟨cq1, kq1, q1a, q1b, q1c⟩ := isOf hZ e0 E_b
  obtain ⟨_, _, ⟨T1, L1, k1, n1⟩, -, X1, ⟨Lc1, hQ1, l1, y1, z1⟩, st1⟩ := X0.virtualBack hx (y := (⟨"java/time/temporal/ChronoField", "range", "()Ljava/time/temporal/ValueRange;"⟩ : MethodName)) (z := (⟨"java/time/temporal/ChronoField", "range", "()Ljava/time/temporal/ValueRange;"⟩ : MethodName)) hown (mvT hZ (ow hw 72 rfl)) (mvT hZ (ow hw 73 rfl)) (notFace_of_selects (args := #[]) (mvT hZ (ow hw 75 rfl))) (mvT hZ (ow hw 75 rfl)) (mvT hZ (ow hw 74 rfl)) (by decide) (backOf (W := 0) (rmRange l Z a0 hw [] b a h0 n0 Z0 F_b_range) hZ (ow hw 76 rfl) (ow hw 66 rfl) (by decide) (by decide)) q1a q1c (g := (mkF m 1 #[rv b, .val (.long x), .second] [(.ref b)])) rfl (by rw [hml]; rfl) (Steps.refl _) (argsL := []) (rest := []) (lenOf pd_39 rfl) rfl (by show 2 * 0 + _ ≤ _; exact Nat.le_of_eq rfl) (hb hby d12_1) (fun _ _ => ⟨rfl, e0, (by decide : 0 + 0 ≤ _), (by decide : 0 + 0 ≤ _)⟩)
  dsimp only [Pt.U, Pt.locs, Pt.cells, Pt.slots] at X1 l1 y1 z1 st1 hQ1
  subst l1 y1 z1
  obtain ⟨rfl, N1q, e1⟩ := hQ1
  have N1 := Fr.app N0 N1q
  refine Go.to st1 ?_
  show Go _ _ _ _ T1 (mkF m 4 #[rv b, .val (.long x), .second] [(.ref a)])
  refine Go.lload1 5 X1 hx (hb hby d12_4) rfl rfl ?_
  refine Go.aload1 6 X1 hx (hb hby d12_5) rfl rfl rfl ?_
  obtain ⟨cq2, kq2, q2a, q2b, q2c⟩ := isOf hZ e1 E_a
  obtain ⟨_, _, ⟨T2, L2, k2, n2⟩, -, X2, ⟨Lc2, hQ2, l2, y2, z2⟩, st2⟩ := X1.virtualBack hx (y := (⟨"java/time/temporal/ValueRange", "checkValidValue", "(JLjava/time/temporal/TemporalField;)J"⟩ : MethodName)) (z := (⟨"java/time/temporal/ValueRange", "checkValidValue", "(JLjava/time/temporal/TemporalField;)J"⟩ : MethodName)) hown (mvT hZ (ow hw 79 rfl)) (mvT hZ (ow hw 80 rfl)) (notFace_of_selects (args := #[]) (mvT hZ (ow hw 82 rfl))) (mvT hZ (ow hw 82 rfl)) (mvT hZ (ow hw 81 rfl)) (by decide) (backOf (W := 0) (rmCvv l Z a0 hw [] a x k0 k2 b h0 n0 Z0 E_a F_a_minSmallest F_a_maxLargest hlo hhi) hZ (ow hw 84 rfl) (ow hw 83 rfl) (by decide) (by decide)) q2a q2c (g := (mkF m 6 #[rv b, .val (.long x), .second] [(.ref b), (.long x), (.ref a)])) rfl (by rw [hml]; rfl) (Steps.refl _) (argsL := [(.long x), (.ref b)]) (rest := []) (lenOf pd_43 rfl) rfl (by show 2 * 0 + _ ≤ _; exact Nat.le_of_eq rfl) (hb hby d12_6) (fun _ _ => ⟨rfl, e1, (by decide : 0 + 0 ≤ _), (by decide : 0 + 0 ≤ _)⟩)
  dsimp only [Pt.U, Pt.locs, Pt.cells, Pt.slots] at X2 l2 y2 z2 st2 hQ2
  subst l2 y2 z2
  obtain ⟨rfl, N2q, e2⟩ := hQ2
  have N2 := Fr.app N1 N2q
  refine Go.to st2 ?_
  show Go _ _ _ _ T2 (mkF m 9 #[rv b, .val (.long x), .second] [(.long x)])
  exact Go.retJ X2 hx Bd.notSynchronized Bd.returns (hb hby d12_9) (by rw [e2]; exact ⟨rfl, N2, rfl⟩) (by decide) (by decide)
theorem pn_46 : plainName "java/time/LocalDate" = true := by first | (simp [plainName, overriddenIn]; done) | decide +kernel
theorem ef_47 (m : MethodId) (x0 : Addr) (x1 : Int32) (x2 : Int32) (x3 : Int32) : entryFrame m #[(.ref x0), (.int x1), (.int x2), (.int x3)] 4 = mkF m 0 #[rv x0, iv x1, iv x2, iv x3] [] := by (first | (simp [entryFrame, mkF, argsToLocals, Value.category]; done) | rfl)
theorem d19_0 : decode jdk_2323_method_14_code 0 = .ok (.aload_n 0, 1) := by decide +kernel
theorem d19_1 : decode jdk_2323_method_14_code 1 = .ok (.invokespecial 243, 3) := by decide +kernel
theorem d19_4 : decode jdk_2323_method_14_code 4 = .ok (.aload_n 0, 1) := by decide +kernel
theorem d19_5 : decode jdk_2323_method_14_code 5 = .ok (.iload_n 1, 1) := by decide +kernel
theorem d19_6 : decode jdk_2323_method_14_code 6 = .ok (.putfield 246, 3) := by decide +kernel
theorem d19_9 : decode jdk_2323_method_14_code 9 = .ok (.aload_n 0, 1) := by decide +kernel
theorem d19_10 : decode jdk_2323_method_14_code 10 = .ok (.iload_n 2, 1) := by decide +kernel
theorem d19_11 : decode jdk_2323_method_14_code 11 = .ok (.i2s, 1) := by decide +kernel
theorem d19_12 : decode jdk_2323_method_14_code 12 = .ok (.putfield 250, 3) := by decide +kernel
theorem d19_15 : decode jdk_2323_method_14_code 15 = .ok (.aload_n 0, 1) := by decide +kernel
theorem d19_16 : decode jdk_2323_method_14_code 16 = .ok (.iload_n 3, 1) := by decide +kernel
theorem d19_17 : decode jdk_2323_method_14_code 17 = .ok (.i2s, 1) := by decide +kernel
theorem d19_18 : decode jdk_2323_method_14_code 18 = .ok (.putfield 253, 3) := by decide +kernel
theorem d19_21 : decode jdk_2323_method_14_code 21 = .ok (.return_, 1) := by decide +kernel
def Q_rmLd (Z : State) (a : Addr) (y : Int32) (mo : Int32) (dy : Int32) (h0 : Heap) (n0 : Nat) (v : Option Value) (h : Heap) (L : List Loc) : Prop := v = none ∧ Fr n0 L ∧ Keep h0 h [a] ∧ Exa Z h a "java/time/LocalDate" ∧ Fld Z h a "java/time/LocalDate" "year" "I" (.int y) ∧ Fld Z h a "java/time/LocalDate" "month" "S" (.int mo) ∧ Fld Z h a "java/time/LocalDate" "day" "S" (.int dy)
set_option maxRecDepth 65536 in
set_option maxHeartbeats 40000000 in
theorem rmLd (l : Launch) (Z : State) (a0 : Array Value) (hw : ∀ d ∈ tables_1, d.before a0 Z = true) (ws : List Jvm.Cond) (a : Addr) (y : Int32) (mo : Int32) (dy : Int32) (h0 : Heap) (n0 : Nat) (Z0 : n0 ≤ h0.size) (E_a : Exa Z h0 a "java/time/LocalDate") (F_a_year : Fld Z h0 a "java/time/LocalDate" "year" "I" (.int 0)) (F_a_month : Fld Z h0 a "java/time/LocalDate" "month" "S" (.int 0)) (F_a_day : Fld Z h0 a "java/time/LocalDate" "day" "S" (.int 0)) (g_a : n0 ≤ a) (hmo : (0 ≤ mo.toInt ∧ mo.toInt ≤ 127)) (hdy : (0 ≤ dy.toInt ∧ dy.toInt ≤ 127)) :
    MetFree l (⟨"java/time/LocalDate", "<init>", "(III)V"⟩ : MethodName) (head1 (Jvm.Cond.code (⟨"java/time/LocalDate", "<init>", "(III)V"⟩ : MethodName) jdk_2323_method_14_code 4 none :: ws) ({ frames := 1, cells := 0, slots := 0, locals := 12 } : Room)) (fun as' U => as' = #[(.ref a), (.int y), (.int mo), (.int dy)] ∧ Z.Warmed39 U.vm ∧ U.heap = h0) (fun _ _ _ _ _ => True) (fun _ U o U' => ∃ v L, o = .returned v ∧ Q_rmLd Z a y mo dy h0 n0 v U'.heap L ∧ FrameEnd U o U' L ({ frames := 1, cells := 0, slots := 0, locals := 12 } : Room).cells ({ frames := 1, cells := 0, slots := 0, locals := 12 } : Room).slots) := by
  refine MetFree.of_bodySF (plainFor_of_name pn_46) hisR ?_
  intro p e s m args below meth c s₁ Bd hml0 hP hK
  obtain ⟨rfl, hZ, hh⟩ := hP
  have hx := Bd.exec
  have hby := Bd.bytes
  have hml : c.maxLocals = 4 := hml0
  have hown : s.vm.findClass "java/time/LocalDate" = some m.cls := findClass_of_methodNamed Bd.named
  have hnm := (name_of_methodNamed Bd.named Bd.method).1
  have X0 : Stand p l e ({ frames := 1, cells := 0, slots := 0, locals := 12 } : Room) s m #[(.ref a), (.int y), (.int mo), (.int dy)] below meth c s₁ [] 0 0 := Stand.of_body Bd
  have e0 : s₁.heap = h0 := by rw [← hh, Bd.state]; rfl
  have N0 := Fr.nil n0
  refine Go.enter (F := EndN s (Q_rmLd Z a y mo dy h0 n0) ({ frames := 1, cells := 0, slots := 0, locals := 12 } : Room).cells ({ frames := 1, cells := 0, slots := 0, locals := 12 } : Room).slots) (ef_47 m a y mo dy) ?_
  show Go _ _ _ _ s₁ (mkF m 0 #[rv a, iv y, iv mo, iv dy] [])
  refine Go.aload1 1 X0 hx (hb hby d19_0) rfl rfl rfl ?_
  obtain ⟨T1, X1, e1, st1⟩ := initO X0 hx hZ hown (ow hw 115 rfl) (ow hw 12 rfl) (ow hw 13 rfl) e0 (g := (mkF m 1 #[rv a, iv y, iv mo, iv dy] [(.ref a)])) rfl (by rw [hml]; rfl) rfl (hb hby d19_1) (by decide) (W := 0) (by show 2 * 0 + _ ≤ _; exact Nat.le_of_eq rfl) (by decide)
  refine Go.by st1 ?_
  show Go _ _ _ _ T1 (mkF m 4 #[rv a, iv y, iv mo, iv dy] [])
  refine Go.aload1 5 X1 hx (hb hby d19_4) rfl rfl rfl ?_
  refine Go.iload1 6 X1 hx (hb hby d19_5) rfl rfl ?_
  obtain ⟨T2, h2, X2, e2, W2, st2⟩ := putF X1 hx hZ hown (host := "") (Or.inl (ow hw 116 rfl)) Via.refl e1 F_a_year E_a (Or.inr ⟨(ow hw 117 rfl), rfl, hnm⟩) (ow hw 110 rfl) (ty := .int) (by decide) rfl rfl (g := (mkF m 6 #[rv a, iv y, iv mo, iv dy] [(.int y), (.ref a)])) rfl rfl (hb hby d19_6)
  have N2 := Fr.snoc X2 N0 g_a
  have Fw2 : Fld Z h2 a "java/time/LocalDate" "year" "I" (.int y) := F_a_year.same W2
  refine Go.by st2 ?_
  show Go _ _ _ _ T2 (mkF m 9 #[rv a, iv y, iv mo, iv dy] [])
  refine Go.aload1 10 X2 hx (hb hby d19_9) rfl rfl rfl ?_
  refine Go.iload1 11 X2 hx (hb hby d19_10) rfl rfl ?_
  refine Go.i2s 12 X2 hx (hb hby d19_11) rfl ?_
  rw [own_i2s hmo]
  show Go _ _ _ _ T2 (mkF m 12 #[rv a, iv y, iv mo, iv dy] [(.int mo), (.ref a)])
  have F3 : Fld Z h2 a "java/time/LocalDate" "month" "S" (.int 0) := F_a_month.other W2 (Or.inr (slot_ne (Or.inr (ow hw 119 rfl)) (Or.inr (ow hw 117 rfl)) (by decide) (t := .short) (t' := .int) (by decide) (by decide)))
  have F4 : Exa Z h2 a "java/time/LocalDate" := E_a.wr W2
  obtain ⟨T5, h5, X5, e5, W5, st5⟩ := putFN X2 hx hZ hown (ow hw 118 rfl) Via.refl e2 F3 F4 (Or.inr ⟨(ow hw 119 rfl), rfl, hnm⟩) (ow hw 110 rfl) (ty := .short) (v' := (.int mo)) (by decide) (own_nars hmo) (own_fits hmo) (g := (mkF m 12 #[rv a, iv y, iv mo, iv dy] [(.int mo), (.ref a)])) rfl rfl (hb hby d19_12)
  have N5 := Fr.snoc X5 N2 g_a
  have Fw5 : Fld Z h5 a "java/time/LocalDate" "month" "S" (.int mo) := F3.same W5
  refine Go.by st5 ?_
  show Go _ _ _ _ T5 (mkF m 15 #[rv a, iv y, iv mo, iv dy] [])
  refine Go.aload1 16 X5 hx (hb hby d19_15) rfl rfl rfl ?_
  refine Go.iload1 17 X5 hx (hb hby d19_16) rfl rfl ?_
  refine Go.i2s 18 X5 hx (hb hby d19_17) rfl ?_
  rw [own_i2s hdy]
  show Go _ _ _ _ T5 (mkF m 18 #[rv a, iv y, iv mo, iv dy] [(.int dy), (.ref a)])
  have F6 : Fld Z h2 a "java/time/LocalDate" "day" "S" (.int 0) := F_a_day.other W2 (Or.inr (slot_ne (Or.inr (ow hw 121 rfl)) (Or.inr (ow hw 117 rfl)) (by decide) (t := .short) (t' := .int) (by decide) (by decide)))
  have F7 : Fld Z h5 a "java/time/LocalDate" "day" "S" (.int 0) := F6.other W5 (Or.inr (slot_ne (Or.inr (ow hw 121 rfl)) (Or.inr (ow hw 119 rfl)) (by decide) (t := .short) (t' := .short) (by decide) (by decide)))
  have F8 : Exa Z h5 a "java/time/LocalDate" := F4.wr W5
  obtain ⟨T9, h9, X9, e9, W9, st9⟩ := putFN X5 hx hZ hown (ow hw 120 rfl) Via.refl e5 F7 F8 (Or.inr ⟨(ow hw 121 rfl), rfl, hnm⟩) (ow hw 110 rfl) (ty := .short) (v' := (.int dy)) (by decide) (own_nars hdy) (own_fits hdy) (g := (mkF m 18 #[rv a, iv y, iv mo, iv dy] [(.int dy), (.ref a)])) rfl rfl (hb hby d19_18)
  have N9 := Fr.snoc X9 N5 g_a
  have Fw9 : Fld Z h9 a "java/time/LocalDate" "day" "S" (.int dy) := F7.same W9
  refine Go.by st9 ?_
  show Go _ _ _ _ T9 (mkF m 21 #[rv a, iv y, iv mo, iv dy] [])
  have F10 : Keep h0 h2 [a] := (Keep.refl h0 [a]).wr W2 (Or.inl (List.mem_of_getElem? (i := 0) rfl))
  have F11 : Keep h0 h5 [a] := F10.wr W5 (Or.inl (List.mem_of_getElem? (i := 0) rfl))
  have F12 : Keep h0 h9 [a] := F11.wr W9 (Or.inl (List.mem_of_getElem? (i := 0) rfl))
  have F13 : Exa Z h9 a "java/time/LocalDate" := F8.wr W9
  have F14 : Fld Z h5 a "java/time/LocalDate" "year" "I" (.int y) := Fw2.other W5 (Or.inr (slot_ne (Or.inr (ow hw 117 rfl)) (Or.inr (ow hw 119 rfl)) (by decide) (t := .int) (t' := .short) (by decide) (by decide)))
  have F15 : Fld Z h9 a "java/time/LocalDate" "year" "I" (.int y) := F14.other W9 (Or.inr (slot_ne (Or.inr (ow hw 117 rfl)) (Or.inr (ow hw 121 rfl)) (by decide) (t := .int) (t' := .short) (by decide) (by decide)))
  have F16 : Fld Z h9 a "java/time/LocalDate" "month" "S" (.int mo) := Fw5.other W9 (Or.inr (slot_ne (Or.inr (ow hw 119 rfl)) (Or.inr (ow hw 121 rfl)) (by decide) (t := .short) (t' := .short) (by decide) (by decide)))
  exact Go.retV X9 hx Bd.notSynchronized Bd.returns (hb hby d19_21) (by rw [e9]; exact ⟨rfl, N9, F12, F13, F15, F16, Fw9⟩) (by decide) (by decide)
theorem d26_0 : decode jdk_2323_method_24_code 0 = .ok (.aload_n 0, 1) := by decide +kernel
theorem d26_1 : decode jdk_2323_method_24_code 1 = .ok (.getfield 246, 3) := by decide +kernel
theorem d26_4 : decode jdk_2323_method_24_code 4 = .ok (.ireturn, 1) := by decide +kernel
def Q_rm_getYear (Z : State) (a : Addr) (r : Int32) (h0 : Heap) (n0 : Nat) (v : Option Value) (h : Heap) (L : List Loc) : Prop := v = some (.int r) ∧ Fr n0 L ∧ h = h0
set_option maxRecDepth 65536 in
set_option maxHeartbeats 40000000 in
theorem rm_getYear (l : Launch) (Z : State) (a0 : Array Value) (hw : ∀ d ∈ tables_1, d.before a0 Z = true) (ws : List Jvm.Cond) (a : Addr) (r : Int32) (h0 : Heap) (n0 : Nat) (Z0 : n0 ≤ h0.size) (F_a_year : Fld Z h0 a "java/time/LocalDate" "year" "I" (.int r)) :
    MetFree l (⟨"java/time/LocalDate", "getYear", "()I"⟩ : MethodName) (head1 (Jvm.Cond.code (⟨"java/time/LocalDate", "getYear", "()I"⟩ : MethodName) jdk_2323_method_24_code 1 (some .int) :: ws) ({ frames := 0, cells := 0, slots := 0, locals := 0 } : Room)) (fun as' U => as' = #[(.ref a)] ∧ Z.Warmed39 U.vm ∧ U.heap = h0) (fun _ _ _ _ _ => True) (fun _ U o U' => ∃ v L, o = .returned v ∧ Q_rm_getYear Z a r h0 n0 v U'.heap L ∧ FrameEnd U o U' L ({ frames := 0, cells := 0, slots := 0, locals := 0 } : Room).cells ({ frames := 0, cells := 0, slots := 0, locals := 0 } : Room).slots) := by
  refine MetFree.of_bodySF (plainFor_of_name pn_46) hisR ?_
  intro p e s m args below meth c s₁ Bd hml0 hP hK
  obtain ⟨rfl, hZ, hh⟩ := hP
  have hx := Bd.exec
  have hby := Bd.bytes
  have hml : c.maxLocals = 1 := hml0
  have hown : s.vm.findClass "java/time/LocalDate" = some m.cls := findClass_of_methodNamed Bd.named
  have hnm := (name_of_methodNamed Bd.named Bd.method).1
  have X0 : Stand p l e ({ frames := 0, cells := 0, slots := 0, locals := 0 } : Room) s m #[(.ref a)] below meth c s₁ [] 0 0 := Stand.of_body Bd
  have e0 : s₁.heap = h0 := by rw [← hh, Bd.state]; rfl
  have N0 := Fr.nil n0
  refine Go.enter (F := EndN s (Q_rm_getYear Z a r h0 n0) ({ frames := 0, cells := 0, slots := 0, locals := 0 } : Room).cells ({ frames := 0, cells := 0, slots := 0, locals := 0 } : Room).slots) (ef_4 m a) ?_
  show Go _ _ _ _ s₁ (mkF m 0 #[rv a] [])
  refine Go.aload1 1 X0 hx (hb hby d26_0) rfl rfl rfl ?_
  obtain ⟨T1, X1, e1, st1⟩ := getF X0 hx hZ hown (host := "") (Or.inl (ow hw 116 rfl)) Via.refl e0 F_a_year (g := (mkF m 1 #[rv a] [(.ref a)])) rfl rfl (hb hby d26_1)
  refine Go.by st1 ?_
  show Go _ _ _ _ T1 (mkF m 4 #[rv a] [(.int r)])
  exact Go.retI X1 hx Bd.notSynchronized Bd.returns rfl (by simp) (hb hby d26_4) (by rw [e1]; exact ⟨rfl, N0, rfl⟩) (by decide) (by decide)
theorem d24_0 : decode jdk_2323_method_25_code 0 = .ok (.aload_n 0, 1) := by decide +kernel
theorem d24_1 : decode jdk_2323_method_25_code 1 = .ok (.getfield 250, 3) := by decide +kernel
theorem d24_4 : decode jdk_2323_method_25_code 4 = .ok (.ireturn, 1) := by decide +kernel
def Q_rm_getMonthValue (Z : State) (a : Addr) (r : Int32) (h0 : Heap) (n0 : Nat) (v : Option Value) (h : Heap) (L : List Loc) : Prop := v = some (.int r) ∧ Fr n0 L ∧ h = h0
set_option maxRecDepth 65536 in
set_option maxHeartbeats 40000000 in
theorem rm_getMonthValue (l : Launch) (Z : State) (a0 : Array Value) (hw : ∀ d ∈ tables_1, d.before a0 Z = true) (ws : List Jvm.Cond) (a : Addr) (r : Int32) (h0 : Heap) (n0 : Nat) (Z0 : n0 ≤ h0.size) (F_a_month : Fld Z h0 a "java/time/LocalDate" "month" "S" (.int r)) :
    MetFree l (⟨"java/time/LocalDate", "getMonthValue", "()I"⟩ : MethodName) (head1 (Jvm.Cond.code (⟨"java/time/LocalDate", "getMonthValue", "()I"⟩ : MethodName) jdk_2323_method_25_code 1 (some .int) :: ws) ({ frames := 0, cells := 0, slots := 0, locals := 0 } : Room)) (fun as' U => as' = #[(.ref a)] ∧ Z.Warmed39 U.vm ∧ U.heap = h0) (fun _ _ _ _ _ => True) (fun _ U o U' => ∃ v L, o = .returned v ∧ Q_rm_getMonthValue Z a r h0 n0 v U'.heap L ∧ FrameEnd U o U' L ({ frames := 0, cells := 0, slots := 0, locals := 0 } : Room).cells ({ frames := 0, cells := 0, slots := 0, locals := 0 } : Room).slots) := by
  refine MetFree.of_bodySF (plainFor_of_name pn_46) hisR ?_
  intro p e s m args below meth c s₁ Bd hml0 hP hK
  obtain ⟨rfl, hZ, hh⟩ := hP
  have hx := Bd.exec
  have hby := Bd.bytes
  have hml : c.maxLocals = 1 := hml0
  have hown : s.vm.findClass "java/time/LocalDate" = some m.cls := findClass_of_methodNamed Bd.named
  have hnm := (name_of_methodNamed Bd.named Bd.method).1
  have X0 : Stand p l e ({ frames := 0, cells := 0, slots := 0, locals := 0 } : Room) s m #[(.ref a)] below meth c s₁ [] 0 0 := Stand.of_body Bd
  have e0 : s₁.heap = h0 := by rw [← hh, Bd.state]; rfl
  have N0 := Fr.nil n0
  refine Go.enter (F := EndN s (Q_rm_getMonthValue Z a r h0 n0) ({ frames := 0, cells := 0, slots := 0, locals := 0 } : Room).cells ({ frames := 0, cells := 0, slots := 0, locals := 0 } : Room).slots) (ef_4 m a) ?_
  show Go _ _ _ _ s₁ (mkF m 0 #[rv a] [])
  refine Go.aload1 1 X0 hx (hb hby d24_0) rfl rfl rfl ?_
  obtain ⟨T1, X1, e1, st1⟩ := getF X0 hx hZ hown (host := "") (Or.inl (ow hw 118 rfl)) Via.refl e0 F_a_month (g := (mkF m 1 #[rv a] [(.ref a)])) rfl rfl (hb hby d24_1)
  refine Go.by st1 ?_
  show Go _ _ _ _ T1 (mkF m 4 #[rv a] [(.int r)])
  exact Go.retI X1 hx Bd.notSynchronized Bd.returns rfl (by simp) (hb hby d24_4) (by rw [e1]; exact ⟨rfl, N0, rfl⟩) (by decide) (by decide)
theorem d25_0 : decode jdk_2323_method_27_code 0 = .ok (.aload_n 0, 1) := by decide +kernel
theorem d25_1 : decode jdk_2323_method_27_code 1 = .ok (.getfield 253, 3) := by decide +kernel
theorem d25_4 : decode jdk_2323_method_27_code 4 = .ok (.ireturn, 1) := by decide +kernel
def Q_rm_getDayOfMonth (Z : State) (a : Addr) (r : Int32) (h0 : Heap) (n0 : Nat) (v : Option Value) (h : Heap) (L : List Loc) : Prop := v = some (.int r) ∧ Fr n0 L ∧ h = h0
set_option maxRecDepth 65536 in
set_option maxHeartbeats 40000000 in
theorem rm_getDayOfMonth (l : Launch) (Z : State) (a0 : Array Value) (hw : ∀ d ∈ tables_1, d.before a0 Z = true) (ws : List Jvm.Cond) (a : Addr) (r : Int32) (h0 : Heap) (n0 : Nat) (Z0 : n0 ≤ h0.size) (F_a_day : Fld Z h0 a "java/time/LocalDate" "day" "S" (.int r)) :
    MetFree l (⟨"java/time/LocalDate", "getDayOfMonth", "()I"⟩ : MethodName) (head1 (Jvm.Cond.code (⟨"java/time/LocalDate", "getDayOfMonth", "()I"⟩ : MethodName) jdk_2323_method_27_code 1 (some .int) :: ws) ({ frames := 0, cells := 0, slots := 0, locals := 0 } : Room)) (fun as' U => as' = #[(.ref a)] ∧ Z.Warmed39 U.vm ∧ U.heap = h0) (fun _ _ _ _ _ => True) (fun _ U o U' => ∃ v L, o = .returned v ∧ Q_rm_getDayOfMonth Z a r h0 n0 v U'.heap L ∧ FrameEnd U o U' L ({ frames := 0, cells := 0, slots := 0, locals := 0 } : Room).cells ({ frames := 0, cells := 0, slots := 0, locals := 0 } : Room).slots) := by
  refine MetFree.of_bodySF (plainFor_of_name pn_46) hisR ?_
  intro p e s m args below meth c s₁ Bd hml0 hP hK
  obtain ⟨rfl, hZ, hh⟩ := hP
  have hx := Bd.exec
  have hby := Bd.bytes
  have hml : c.maxLocals = 1 := hml0
  have hown : s.vm.findClass "java/time/LocalDate" = some m.cls := findClass_of_methodNamed Bd.named
  have hnm := (name_of_methodNamed Bd.named Bd.method).1
  have X0 : Stand p l e ({ frames := 0, cells := 0, slots := 0, locals := 0 } : Room) s m #[(.ref a)] below meth c s₁ [] 0 0 := Stand.of_body Bd
  have e0 : s₁.heap = h0 := by rw [← hh, Bd.state]; rfl
  have N0 := Fr.nil n0
  refine Go.enter (F := EndN s (Q_rm_getDayOfMonth Z a r h0 n0) ({ frames := 0, cells := 0, slots := 0, locals := 0 } : Room).cells ({ frames := 0, cells := 0, slots := 0, locals := 0 } : Room).slots) (ef_4 m a) ?_
  show Go _ _ _ _ s₁ (mkF m 0 #[rv a] [])
  refine Go.aload1 1 X0 hx (hb hby d25_0) rfl rfl rfl ?_
  obtain ⟨T1, X1, e1, st1⟩ := getF X0 hx hZ hown (host := "") (Or.inl (ow hw 120 rfl)) Via.refl e0 F_a_day (g := (mkF m 1 #[rv a] [(.ref a)])) rfl rfl (hb hby d25_1)
  refine Go.by st1 ?_
  show Go _ _ _ _ T1 (mkF m 4 #[rv a] [(.int r)])
  exact Go.retI X1 hx Bd.notSynchronized Bd.returns rfl (by simp) (hb hby d25_4) (by rw [e1]; exact ⟨rfl, N0, rfl⟩) (by decide) (by decide)
theorem own_lpY {x : Int} (h : x % 4 = 0 ∧ (¬ x % 100 = 0 ∨ x % 400 = 0)) : own_leap x := h
theorem own_lpN {x : Int} (h : ¬ (x % 4 = 0 ∧ (¬ x % 100 = 0 ∨ x % 400 = 0))) : ¬ own_leap x := h
theorem pn_71 : plainName "java/time/chrono/IsoChronology" = true := by first | (simp [plainName, overriddenIn]; done) | decide +kernel
theorem d23_0 : decode jdk_2369_method_18_code 0 = .ok (.lload_n 1, 1) := by decide +kernel
theorem d23_1 : decode jdk_2369_method_18_code 1 = .ok (.ldc2_w 117, 3) := by decide +kernel
theorem d23_4 : decode jdk_2369_method_18_code 4 = .ok (.land, 1) := by decide +kernel
theorem d23_5 : decode jdk_2369_method_18_code 5 = .ok (.lconst 0, 1) := by decide +kernel
theorem d23_6 : decode jdk_2369_method_18_code 6 = .ok (.lcmp, 1) := by decide +kernel
theorem d23_7 : decode jdk_2369_method_18_code 7 = .ok (.ifCond .ne 27, 3) := by decide +kernel
theorem d23_10 : decode jdk_2369_method_18_code 10 = .ok (.lload_n 1, 1) := by decide +kernel
theorem d23_11 : decode jdk_2369_method_18_code 11 = .ok (.ldc2_w 123, 3) := by decide +kernel
theorem d23_14 : decode jdk_2369_method_18_code 14 = .ok (.lrem, 1) := by decide +kernel
theorem d23_15 : decode jdk_2369_method_18_code 15 = .ok (.lconst 0, 1) := by decide +kernel
theorem d23_16 : decode jdk_2369_method_18_code 16 = .ok (.lcmp, 1) := by decide +kernel
theorem d23_17 : decode jdk_2369_method_18_code 17 = .ok (.ifCond .ne 13, 3) := by decide +kernel
theorem d23_20 : decode jdk_2369_method_18_code 20 = .ok (.lload_n 1, 1) := by decide +kernel
theorem d23_21 : decode jdk_2369_method_18_code 21 = .ok (.ldc2_w 127, 3) := by decide +kernel
theorem d23_24 : decode jdk_2369_method_18_code 24 = .ok (.lrem, 1) := by decide +kernel
theorem d23_25 : decode jdk_2369_method_18_code 25 = .ok (.lconst 0, 1) := by decide +kernel
theorem d23_26 : decode jdk_2369_method_18_code 26 = .ok (.lcmp, 1) := by decide +kernel
theorem d23_27 : decode jdk_2369_method_18_code 27 = .ok (.ifCond .ne 7, 3) := by decide +kernel
theorem d23_30 : decode jdk_2369_method_18_code 30 = .ok (.iconst 1, 1) := by decide +kernel
theorem d23_31 : decode jdk_2369_method_18_code 31 = .ok (.goto 4, 3) := by decide +kernel
theorem d23_35 : decode jdk_2369_method_18_code 35 = .ok (.ireturn, 1) := by decide +kernel
theorem d23_34 : decode jdk_2369_method_18_code 34 = .ok (.iconst 0, 1) := by decide +kernel
def Q_rmLeap (Z : State) (a : Addr) (x : Int64) (h0 : Heap) (n0 : Nat) (v : Option Value) (h : Heap) (L : List Loc) : Prop := ∃ r : Int32, v = some (.int r) ∧ Fr n0 L ∧ h = h0 ∧ ((r = 1 ∧ own_leap x.toInt) ∨ (r = 0 ∧ ¬ own_leap x.toInt))
set_option maxRecDepth 65536 in
set_option maxHeartbeats 40000000 in
theorem rmLeap (l : Launch) (Z : State) (a0 : Array Value) (hw : ∀ d ∈ tables_1, d.before a0 Z = true) (ws : List Jvm.Cond) (a : Addr) (x : Int64) (h0 : Heap) (n0 : Nat) (Z0 : n0 ≤ h0.size)  :
    MetFree l (⟨"java/time/chrono/IsoChronology", "isLeapYear", "(J)Z"⟩ : MethodName) (head1 (Jvm.Cond.code (⟨"java/time/chrono/IsoChronology", "isLeapYear", "(J)Z"⟩ : MethodName) jdk_2369_method_18_code 3 (some .boolean) :: ws) ({ frames := 0, cells := 0, slots := 0, locals := 0 } : Room)) (fun as' U => as' = #[(.ref a), (.long x)] ∧ Z.Warmed39 U.vm ∧ U.heap = h0) (fun _ _ _ _ _ => True) (fun _ U o U' => ∃ v L, o = .returned v ∧ Q_rmLeap Z a x h0 n0 v U'.heap L ∧ FrameEnd U o U' L ({ frames := 0, cells := 0, slots := 0, locals := 0 } : Room).cells ({ frames := 0, cells := 0, slots := 0, locals := 0 } : Room).slots) := by
  refine MetFree.of_bodySF (plainFor_of_name pn_71) hisR ?_
  intro p e s m args below meth c s₁ Bd hml0 hP hK
  obtain ⟨rfl, hZ, hh⟩ := hP
  have hx := Bd.exec
  have hby := Bd.bytes
  have hml : c.maxLocals = 3 := hml0
  have hown : s.vm.findClass "java/time/chrono/IsoChronology" = some m.cls := findClass_of_methodNamed Bd.named
  have hnm := (name_of_methodNamed Bd.named Bd.method).1
  have X0 : Stand p l e ({ frames := 0, cells := 0, slots := 0, locals := 0 } : Room) s m #[(.ref a), (.long x)] below meth c s₁ [] 0 0 := Stand.of_body Bd
  have e0 : s₁.heap = h0 := by rw [← hh, Bd.state]; rfl
  have N0 := Fr.nil n0
  refine Go.enter (F := EndN s (Q_rmLeap Z a x h0 n0) ({ frames := 0, cells := 0, slots := 0, locals := 0 } : Room).cells ({ frames := 0, cells := 0, slots := 0, locals := 0 } : Room).slots) (ef_11 m a x) ?_
  show Go _ _ _ _ s₁ (mkF m 0 #[rv a, .val (.long x), .second] [])
  refine Go.lload1 1 X0 hx (hb hby d23_0) rfl rfl ?_
  refine Go.by (fun _ gk => X0.ldc2J hx hown (mvT hZ (ow hw 156 rfl)) (g := (mkF m 1 #[rv a, .val (.long x), .second] [(.long x)])) rfl (hb hby d23_1) gk) ?_
  show Go _ _ _ _ s₁ (mkF m 4 #[rv a, .val (.long x), .second] [(.long (3 : Int64)), (.long x)])
  refine Go.land 5 X0 hx (hb hby d23_4) rfl ?_
  obtain ⟨x4, h_x4⟩ : ∃ z, z = (x &&& (3 : Int64)) := ⟨_, rfl⟩
  rw [← h_x4]
  show Go _ _ _ _ s₁ (mkF m 5 #[rv a, .val (.long x), .second] [(.long x4)])
  have e4 : x4.toInt = x.toInt % 4 := by rw [h_x4]; exact c_maskL x 3 2 (by decide) (by decide)
  refine Go.lconst 6 X0 hx (0 : Int64) (hb hby d23_5) (by decide) rfl ?_
  refine Go.lcmp 7 X0 hx (hb hby d23_6) rfl ?_
  have li1 : (0 : Int64).toInt = 0 := by decide
  by_cases hb2 : x4 = (0 : Int64)
  · refine Go.ifN 10 X0 hx (hb hby d23_7) (XT.ll_ne_f hb2) rfl ?_
    have i_hb2 := o_eq64 hb2
    refine Go.lload1 11 X0 hx (hb hby d23_10) rfl rfl ?_
    refine Go.by (fun _ gk => X0.ldc2J hx hown (mvT hZ (ow hw 206 rfl)) (g := (mkF m 11 #[rv a, .val (.long x), .second] [(.long x)])) rfl (hb hby d23_11) gk) ?_
    show Go _ _ _ _ s₁ (mkF m 14 #[rv a, .val (.long x), .second] [(.long (100 : Int64)), (.long x)])
    refine Go.lrem 15 X0 hx (hb hby d23_14) (by decide) rfl ?_
    have li3 : (100 : Int64).toInt = 100 := by decide
    obtain ⟨n4, h_n4⟩ : ∃ z, z = (x - x / (100 : Int64) * (100 : Int64)) := ⟨_, rfl⟩
    rw [← h_n4]
    show Go _ _ _ _ s₁ (mkF m 15 #[rv a, .val (.long x), .second] [(.long n4)])
    have e_n4 : (0 ≤ x.toInt → n4.toInt = x.toInt % 100) ∧ (x.toInt < 0 → n4.toInt = -((-x.toInt) % 100)) := by rw [h_n4]; exact x_lrem 100 (by decide)
    refine Go.lconst 16 X0 hx (0 : Int64) (hb hby d23_15) (by decide) rfl ?_
    refine Go.lcmp 17 X0 hx (hb hby d23_16) rfl ?_
    by_cases hb5 : n4 = (0 : Int64)
    · refine Go.ifN 20 X0 hx (hb hby d23_17) (XT.ll_ne_f hb5) rfl ?_
      have i_hb5 := o_eq64 hb5
      refine Go.lload1 21 X0 hx (hb hby d23_20) rfl rfl ?_
      refine Go.by (fun _ gk => X0.ldc2J hx hown (mvT hZ (ow hw 207 rfl)) (g := (mkF m 21 #[rv a, .val (.long x), .second] [(.long x)])) rfl (hb hby d23_21) gk) ?_
      show Go _ _ _ _ s₁ (mkF m 24 #[rv a, .val (.long x), .second] [(.long (400 : Int64)), (.long x)])
      refine Go.lrem 25 X0 hx (hb hby d23_24) (by decide) rfl ?_
      have li6 : (400 : Int64).toInt = 400 := by decide
      obtain ⟨n7, h_n7⟩ : ∃ z, z = (x - x / (400 : Int64) * (400 : Int64)) := ⟨_, rfl⟩
      rw [← h_n7]
      show Go _ _ _ _ s₁ (mkF m 25 #[rv a, .val (.long x), .second] [(.long n7)])
      have e_n7 : (0 ≤ x.toInt → n7.toInt = x.toInt % 400) ∧ (x.toInt < 0 → n7.toInt = -((-x.toInt) % 400)) := by rw [h_n7]; exact x_lrem 400 (by decide)
      refine Go.lconst 26 X0 hx (0 : Int64) (hb hby d23_25) (by decide) rfl ?_
      refine Go.lcmp 27 X0 hx (hb hby d23_26) rfl ?_
      by_cases hb8 : n7 = (0 : Int64)
      · refine Go.ifN 30 X0 hx (hb hby d23_27) (XT.ll_ne_f hb8) rfl ?_
        have i_hb8 := o_eq64 hb8
        refine Go.iconst 31 X0 hx (1 : Int32) (hb hby d23_30) (by decide) rfl ?_
        refine Go.goto 35 X0 hx (hb hby d23_31) (by decide) (by decide) ?_
        exact Go.retI X0 hx Bd.notSynchronized Bd.returns rfl (by simp) (hb hby d23_35) (by rw [e0]; exact ⟨(1 : Int32), rfl, N0, rfl, Or.inl ⟨rfl, own_lpY (by omega)⟩⟩) (by decide) (by decide)
      · refine Go.ifY 34 X0 hx (hb hby d23_27) (XT.ll_ne_t hb8) (by decide) (by decide) ?_
        have i_hb8 := o_neq64 hb8
        refine Go.iconst 35 X0 hx (0 : Int32) (hb hby d23_34) (by decide) rfl ?_
        exact Go.retI X0 hx Bd.notSynchronized Bd.returns rfl (by simp) (hb hby d23_35) (by rw [e0]; exact ⟨(0 : Int32), rfl, N0, rfl, Or.inr ⟨rfl, own_lpN (by omega)⟩⟩) (by decide) (by decide)
    · refine Go.ifY 30 X0 hx (hb hby d23_17) (XT.ll_ne_t hb5) (by decide) (by decide) ?_
      have i_hb5 := o_neq64 hb5
      refine Go.iconst 31 X0 hx (1 : Int32) (hb hby d23_30) (by decide) rfl ?_
      refine Go.goto 35 X0 hx (hb hby d23_31) (by decide) (by decide) ?_
      exact Go.retI X0 hx Bd.notSynchronized Bd.returns rfl (by simp) (hb hby d23_35) (by rw [e0]; exact ⟨(1 : Int32), rfl, N0, rfl, Or.inl ⟨rfl, own_lpY (by omega)⟩⟩) (by decide) (by decide)
  · refine Go.ifY 34 X0 hx (hb hby d23_7) (XT.ll_ne_t hb2) (by decide) (by decide) ?_
    have i_hb2 := o_neq64 hb2
    refine Go.iconst 35 X0 hx (0 : Int32) (hb hby d23_34) (by decide) rfl ?_
    exact Go.retI X0 hx Bd.notSynchronized Bd.returns rfl (by simp) (hb hby d23_35) (by rw [e0]; exact ⟨(0 : Int32), rfl, N0, rfl, Or.inr ⟨rfl, own_lpN (by omega)⟩⟩) (by decide) (by decide)
theorem d22_0 : decode jdk_2323_method_30_code 0 = .ok (.getstatic 70, 3) := by decide +kernel
theorem d22_3 : decode jdk_2323_method_30_code 3 = .ok (.aload_n 0, 1) := by decide +kernel
theorem d22_4 : decode jdk_2323_method_30_code 4 = .ok (.getfield 246, 3) := by decide +kernel
theorem d22_7 : decode jdk_2323_method_30_code 7 = .ok (.i2l, 1) := by decide +kernel
theorem d22_8 : decode jdk_2323_method_30_code 8 = .ok (.invokevirtual 76, 3) := by decide +kernel
theorem d22_11 : decode jdk_2323_method_30_code 11 = .ok (.ireturn, 1) := by decide +kernel
def Q_rmLdLeap (Z : State) (a : Addr) (y : Int32) (cY : Addr) (vY : Addr) (cM : Addr) (vM : Addr) (cD : Addr) (vD : Addr) (cE : Addr) (vE : Addr) (ic : Addr) (h0 : Heap) (n0 : Nat) (v : Option Value) (h : Heap) (L : List Loc) : Prop := ∃ r : Int32, v = some (.int r) ∧ Fr n0 L ∧ h = h0 ∧ ((r = 1 ∧ own_leap y.toInt) ∨ (r = 0 ∧ ¬ own_leap y.toInt))
set_option maxRecDepth 65536 in
set_option maxHeartbeats 40000000 in
theorem rmLdLeap (l : Launch) (Z : State) (a0 : Array Value) (hw : ∀ d ∈ tables_1, d.before a0 Z = true) (ws : List Jvm.Cond) (a : Addr) (y : Int32) (cY : Addr) (vY : Addr) (cM : Addr) (vM : Addr) (cD : Addr) (vD : Addr) (cE : Addr) (vE : Addr) (ic : Addr) (h0 : Heap) (n0 : Nat) (Z0 : n0 ≤ h0.size) (O0 : Old Z n0 h0) (E_a : Exa Z h0 a "java/time/LocalDate") (F_a_year : Fld Z h0 a "java/time/LocalDate" "year" "I" (.int y)) (Dc0 : Sta Z Z.heap "java/time/temporal/ChronoField" "YEAR" "Ljava/time/temporal/ChronoField;" (.ref cY)) (Dc1 : Exa Z Z.heap cY "java/time/temporal/ChronoField") (Dc2 : Fld Z Z.heap cY "java/time/temporal/ChronoField" "range" "Ljava/time/temporal/ValueRange;" (.ref vY)) (Dc3 : Exa Z Z.heap vY "java/time/temporal/ValueRange") (Dc4 : Fld Z Z.heap vY "java/time/temporal/ValueRange" "minSmallest" "J" (.long (-999999999 : Int64))) (Dc5 : Fld Z Z.heap vY "java/time/temporal/ValueRange" "maxLargest" "J" (.long (999999999 : Int64))) (Dc6 : Sta Z Z.heap "java/time/temporal/ChronoField" "MONTH_OF_YEAR" "Ljava/time/temporal/ChronoField;" (.ref cM)) (Dc7 : Exa Z Z.heap cM "java/time/temporal/ChronoField") (Dc8 : Fld Z Z.heap cM "java/time/temporal/ChronoField" "range" "Ljava/time/temporal/ValueRange;" (.ref vM)) (Dc9 : Exa Z Z.heap vM "java/time/temporal/ValueRange") (Dc10 : Fld Z Z.heap vM "java/time/temporal/ValueRange" "minSmallest" "J" (.long (1 : Int64))) (Dc11 : Fld Z Z.heap vM "java/time/temporal/ValueRange" "maxLargest" "J" (.long (12 : Int64))) (Dc12 : Sta Z Z.heap "java/time/temporal/ChronoField" "DAY_OF_MONTH" "Ljava/time/temporal/ChronoField;" (.ref cD)) (Dc13 : Exa Z Z.heap cD "java/time/temporal/ChronoField") (Dc14 : Fld Z Z.heap cD "java/time/temporal/ChronoField" "range" "Ljava/time/temporal/ValueRange;" (.ref vD)) (Dc15 : Exa Z Z.heap vD "java/time/temporal/ValueRange") (Dc16 : Fld Z Z.heap vD "java/time/temporal/ValueRange" "minSmallest" "J" (.long (1 : Int64))) (Dc17 : Fld Z Z.heap vD "java/time/temporal/ValueRange" "maxLargest" "J" (.long (31 : Int64))) (Dc18 : Sta Z Z.heap "java/time/temporal/ChronoField" "EPOCH_DAY" "Ljava/time/temporal/ChronoField;" (.ref cE)) (Dc19 : Exa Z Z.heap cE "java/time/temporal/ChronoField") (Dc20 : Fld Z Z.heap cE "java/time/temporal/ChronoField" "range" "Ljava/time/temporal/ValueRange;" (.ref vE)) (Dc21 : Exa Z Z.heap vE "java/time/temporal/ValueRange") (Dc22 : Fld Z Z.heap vE "java/time/temporal/ValueRange" "minSmallest" "J" (.long (-365243219162 : Int64))) (Dc23 : Fld Z Z.heap vE "java/time/temporal/ValueRange" "maxLargest" "J" (.long (365241780471 : Int64))) (Dc24 : Sta Z Z.heap "java/time/chrono/IsoChronology" "INSTANCE" "Ljava/time/chrono/IsoChronology;" (.ref ic)) (Dc25 : Exa Z Z.heap ic "java/time/chrono/IsoChronology") :
    MetFree l (⟨"java/time/LocalDate", "isLeapYear", "()Z"⟩ : MethodName) (head1 (Jvm.Cond.code (⟨"java/time/LocalDate", "isLeapYear", "()Z"⟩ : MethodName) jdk_2323_method_30_code 1 (some .boolean) :: ws) ({ frames := 1, cells := 0, slots := 0, locals := 14 } : Room)) (fun as' U => as' = #[(.ref a)] ∧ Z.Warmed39 U.vm ∧ U.heap = h0) (fun _ _ _ _ _ => True) (fun _ U o U' => ∃ v L, o = .returned v ∧ Q_rmLdLeap Z a y cY vY cM vM cD vD cE vE ic h0 n0 v U'.heap L ∧ FrameEnd U o U' L ({ frames := 1, cells := 0, slots := 0, locals := 14 } : Room).cells ({ frames := 1, cells := 0, slots := 0, locals := 14 } : Room).slots) := by
  refine MetFree.of_bodySF (plainFor_of_name pn_46) hisR ?_
  intro p e s m args below meth c s₁ Bd hml0 hP hK
  obtain ⟨rfl, hZ, hh⟩ := hP
  have hx := Bd.exec
  have hby := Bd.bytes
  have hml : c.maxLocals = 1 := hml0
  have hown : s.vm.findClass "java/time/LocalDate" = some m.cls := findClass_of_methodNamed Bd.named
  have hnm := (name_of_methodNamed Bd.named Bd.method).1
  have X0 : Stand p l e ({ frames := 1, cells := 0, slots := 0, locals := 14 } : Room) s m #[(.ref a)] below meth c s₁ [] 0 0 := Stand.of_body Bd
  have e0 : s₁.heap = h0 := by rw [← hh, Bd.state]; rfl
  have N0 := Fr.nil n0
  refine Go.enter (F := EndN s (Q_rmLdLeap Z a y cY vY cM vM cD vD cE vE ic h0 n0) ({ frames := 1, cells := 0, slots := 0, locals := 14 } : Room).cells ({ frames := 1, cells := 0, slots := 0, locals := 14 } : Room).slots) (ef_4 m a) ?_
  show Go _ _ _ _ s₁ (mkF m 0 #[rv a] [])
  have F1 : Sta Z h0 "java/time/chrono/IsoChronology" "INSTANCE" "Ljava/time/chrono/IsoChronology;" (.ref ic) := Dc24.ext O0.2
  obtain ⟨T2, X2, e2, st2⟩ := getS2 X0 hx hZ hown (host := "") (Or.inl (ow hw 149 rfl)) Via.refl e0 F1 (g := (mkF m 0 #[rv a] [])) rfl (hb hby d22_0)
  refine Go.by st2 ?_
  show Go _ _ _ _ T2 (mkF m 3 #[rv a] [(.ref ic)])
  refine Go.aload1 4 X2 hx (hb hby d22_3) rfl rfl rfl ?_
  obtain ⟨T3, X3, e3, st3⟩ := getF X2 hx hZ hown (host := "") (Or.inl (ow hw 116 rfl)) Via.refl e2 F_a_year (g := (mkF m 4 #[rv a] [(.ref a), (.ref ic)])) rfl rfl (hb hby d22_4)
  refine Go.by st3 ?_
  show Go _ _ _ _ T3 (mkF m 7 #[rv a] [(.int y), (.ref ic)])
  refine Go.i2l 8 X3 hx (hb hby d22_7) rfl ?_
  obtain ⟨n4, h_n4⟩ : ∃ z, z = (y.toInt64) := ⟨_, rfl⟩
  rw [← h_n4]
  show Go _ _ _ _ T3 (mkF m 8 #[rv a] [(.long n4), (.ref ic)])
  have e_n4 : n4.toInt = y.toInt := by rw [h_n4]; exact c_i2l _
  have F6 : Exa Z h0 ic "java/time/chrono/IsoChronology" := Dc25.ext O0.2
  obtain ⟨cq5, kq5, q5a, q5b, q5c⟩ := isOf hZ e3 F6
  obtain ⟨_, _, ⟨T5, L5, k5, n5⟩, -, X5, ⟨Lc5, hQ5, l5, y5, z5⟩, st5⟩ := X3.virtualBack hx (y := (⟨"java/time/chrono/IsoChronology", "isLeapYear", "(J)Z"⟩ : MethodName)) (z := (⟨"java/time/chrono/IsoChronology", "isLeapYear", "(J)Z"⟩ : MethodName)) hown (mvT hZ (ow hw 151 rfl)) (mvT hZ (ow hw 152 rfl)) (notFace_of_selects (args := #[]) (mvT hZ (ow hw 154 rfl))) (mvT hZ (ow hw 154 rfl)) (mvT hZ (ow hw 153 rfl)) (by decide) (backOf (W := 0) (rmLeap l Z a0 hw [] ic n4 h0 n0 Z0 ) hZ (ow hw 155 rfl) (ow hw 150 rfl) (by decide) (by decide)) q5a q5c (g := (mkF m 8 #[rv a] [(.long n4), (.ref ic)])) rfl (by rw [hml]; rfl) (Steps.refl _) (argsL := [(.long n4)]) (rest := []) (lenOf pd_29 rfl) rfl (by show 2 * 0 + _ ≤ _; exact Nat.le_of_eq rfl) (hb hby d22_8) (fun _ _ => ⟨rfl, e3, (by decide : 0 + 0 ≤ _), (by decide : 0 + 0 ≤ _)⟩)
  dsimp only [Pt.U, Pt.locs, Pt.cells, Pt.slots] at X5 l5 y5 z5 st5 hQ5
  subst l5 y5 z5
  obtain ⟨r, rfl, N5q, e5, Q5_0⟩ := hQ5
  have N5 := Fr.app N0 N5q
  refine Go.to st5 ?_
  show Go _ _ _ _ T5 (mkF m 11 #[rv a] [(.int r)])
  have hL : (r = 1 ∧ own_leap y.toInt) ∨ (r = 0 ∧ ¬ own_leap y.toInt) := by rw [← e_n4]; exact Q5_0
  rcases hL with ⟨rfl, hl⟩ | ⟨rfl, hl⟩
  · show Go _ _ _ _ T5 (mkF m 11 #[rv a] [(.int 1)])
    exact Go.retI X5 hx Bd.notSynchronized Bd.returns rfl (by simp) (hb hby d22_11) (by rw [e5]; exact ⟨(1 : Int32), rfl, N5, rfl, Or.inl ⟨rfl, hl⟩⟩) (by decide) (by decide)
  · show Go _ _ _ _ T5 (mkF m 11 #[rv a] [(.int 0)])
    exact Go.retI X5 hx Bd.notSynchronized Bd.returns rfl (by simp) (hb hby d22_11) (by rw [e5]; exact ⟨(0 : Int32), rfl, N5, rfl, Or.inr ⟨rfl, hl⟩⟩) (by decide) (by decide)
theorem ef_100 (m : MethodId) (x0 : Addr) : entryFrame m #[(.ref x0)] 7 = mkF m 0 #[rv x0, un, un, un, un, un, un] [] := by (first | (simp [entryFrame, mkF, argsToLocals, Value.category]; done) | rfl)
theorem d21_0 : decode jdk_2323_method_67_code 0 = .ok (.aload_n 0, 1) := by decide +kernel
theorem d21_1 : decode jdk_2323_method_67_code 1 = .ok (.getfield 246, 3) := by decide +kernel
theorem d21_4 : decode jdk_2323_method_67_code 4 = .ok (.i2l, 1) := by decide +kernel
theorem d21_5 : decode jdk_2323_method_67_code 5 = .ok (.lstore_n 1, 1) := by decide +kernel
theorem d21_6 : decode jdk_2323_method_67_code 6 = .ok (.aload_n 0, 1) := by decide +kernel
theorem d21_7 : decode jdk_2323_method_67_code 7 = .ok (.getfield 250, 3) := by decide +kernel
theorem d21_10 : decode jdk_2323_method_67_code 10 = .ok (.i2l, 1) := by decide +kernel
theorem d21_11 : decode jdk_2323_method_67_code 11 = .ok (.lstore_n 3, 1) := by decide +kernel
theorem d21_12 : decode jdk_2323_method_67_code 12 = .ok (.lconst 0, 1) := by decide +kernel
theorem d21_13 : decode jdk_2323_method_67_code 13 = .ok (.lstore 5, 2) := by decide +kernel
theorem d21_15 : decode jdk_2323_method_67_code 15 = .ok (.lload 5, 2) := by decide +kernel
theorem d21_17 : decode jdk_2323_method_67_code 17 = .ok (.ldc2_w 174, 3) := by decide +kernel
theorem d21_20 : decode jdk_2323_method_67_code 20 = .ok (.lload_n 1, 1) := by decide +kernel
theorem d21_21 : decode jdk_2323_method_67_code 21 = .ok (.lmul, 1) := by decide +kernel
theorem d21_22 : decode jdk_2323_method_67_code 22 = .ok (.ladd, 1) := by decide +kernel
theorem d21_23 : decode jdk_2323_method_67_code 23 = .ok (.lstore 5, 2) := by decide +kernel
theorem d21_25 : decode jdk_2323_method_67_code 25 = .ok (.lload_n 1, 1) := by decide +kernel
theorem d21_26 : decode jdk_2323_method_67_code 26 = .ok (.lconst 0, 1) := by decide +kernel
theorem d21_27 : decode jdk_2323_method_67_code 27 = .ok (.lcmp, 1) := by decide +kernel
theorem d21_28 : decode jdk_2323_method_67_code 28 = .ok (.ifCond .lt 40, 3) := by decide +kernel
theorem d21_68 : decode jdk_2323_method_67_code 68 = .ok (.lload 5, 2) := by decide +kernel
theorem d21_70 : decode jdk_2323_method_67_code 70 = .ok (.lload_n 1, 1) := by decide +kernel
theorem d21_71 : decode jdk_2323_method_67_code 71 = .ok (.ldc2_w 658, 3) := by decide +kernel
theorem d21_74 : decode jdk_2323_method_67_code 74 = .ok (.ldiv, 1) := by decide +kernel
theorem d21_75 : decode jdk_2323_method_67_code 75 = .ok (.lload_n 1, 1) := by decide +kernel
theorem d21_76 : decode jdk_2323_method_67_code 76 = .ok (.ldc2_w 660, 3) := by decide +kernel
theorem d21_79 : decode jdk_2323_method_67_code 79 = .ok (.ldiv, 1) := by decide +kernel
theorem d21_80 : decode jdk_2323_method_67_code 80 = .ok (.lsub, 1) := by decide +kernel
theorem d21_81 : decode jdk_2323_method_67_code 81 = .ok (.lload_n 1, 1) := by decide +kernel
theorem d21_82 : decode jdk_2323_method_67_code 82 = .ok (.ldc2_w 662, 3) := by decide +kernel
theorem d21_85 : decode jdk_2323_method_67_code 85 = .ok (.ldiv, 1) := by decide +kernel
theorem d21_86 : decode jdk_2323_method_67_code 86 = .ok (.ladd, 1) := by decide +kernel
theorem d21_87 : decode jdk_2323_method_67_code 87 = .ok (.lsub, 1) := by decide +kernel
theorem d21_88 : decode jdk_2323_method_67_code 88 = .ok (.lstore 5, 2) := by decide +kernel
theorem d21_90 : decode jdk_2323_method_67_code 90 = .ok (.lload 5, 2) := by decide +kernel
theorem d21_92 : decode jdk_2323_method_67_code 92 = .ok (.ldc2_w 664, 3) := by decide +kernel
theorem d21_95 : decode jdk_2323_method_67_code 95 = .ok (.lload_n 3, 1) := by decide +kernel
theorem d21_96 : decode jdk_2323_method_67_code 96 = .ok (.lmul, 1) := by decide +kernel
theorem d21_97 : decode jdk_2323_method_67_code 97 = .ok (.ldc2_w 666, 3) := by decide +kernel
theorem d21_100 : decode jdk_2323_method_67_code 100 = .ok (.lsub, 1) := by decide +kernel
theorem d21_101 : decode jdk_2323_method_67_code 101 = .ok (.ldc2_w 359, 3) := by decide +kernel
theorem d21_104 : decode jdk_2323_method_67_code 104 = .ok (.ldiv, 1) := by decide +kernel
theorem d21_105 : decode jdk_2323_method_67_code 105 = .ok (.ladd, 1) := by decide +kernel
theorem d21_106 : decode jdk_2323_method_67_code 106 = .ok (.lstore 5, 2) := by decide +kernel
theorem d21_108 : decode jdk_2323_method_67_code 108 = .ok (.lload 5, 2) := by decide +kernel
theorem d21_110 : decode jdk_2323_method_67_code 110 = .ok (.aload_n 0, 1) := by decide +kernel
theorem d21_111 : decode jdk_2323_method_67_code 111 = .ok (.getfield 253, 3) := by decide +kernel
theorem d21_114 : decode jdk_2323_method_67_code 114 = .ok (.iconst 1, 1) := by decide +kernel
theorem d21_115 : decode jdk_2323_method_67_code 115 = .ok (.isub, 1) := by decide +kernel
theorem d21_116 : decode jdk_2323_method_67_code 116 = .ok (.i2l, 1) := by decide +kernel
theorem d21_117 : decode jdk_2323_method_67_code 117 = .ok (.ladd, 1) := by decide +kernel
theorem d21_118 : decode jdk_2323_method_67_code 118 = .ok (.lstore 5, 2) := by decide +kernel
theorem d21_120 : decode jdk_2323_method_67_code 120 = .ok (.lload_n 3, 1) := by decide +kernel
theorem d21_121 : decode jdk_2323_method_67_code 121 = .ok (.ldc2_w 668, 3) := by decide +kernel
theorem d21_124 : decode jdk_2323_method_67_code 124 = .ok (.lcmp, 1) := by decide +kernel
theorem d21_125 : decode jdk_2323_method_67_code 125 = .ok (.ifCond .le 22, 3) := by decide +kernel
theorem d21_128 : decode jdk_2323_method_67_code 128 = .ok (.lload 5, 2) := by decide +kernel
theorem d21_130 : decode jdk_2323_method_67_code 130 = .ok (.lconst 1, 1) := by decide +kernel
theorem d21_131 : decode jdk_2323_method_67_code 131 = .ok (.lsub, 1) := by decide +kernel
theorem d21_132 : decode jdk_2323_method_67_code 132 = .ok (.lstore 5, 2) := by decide +kernel
theorem d21_134 : decode jdk_2323_method_67_code 134 = .ok (.aload_n 0, 1) := by decide +kernel
theorem pd_162 : parseMethodDescriptor "()Z" = some ⟨[], some .boolean⟩ := by decide +kernel
theorem d21_135 : decode jdk_2323_method_67_code 135 = .ok (.invokevirtual 297, 3) := by decide +kernel
theorem d21_138 : decode jdk_2323_method_67_code 138 = .ok (.ifCond .ne 9, 3) := by decide +kernel
theorem d21_147 : decode jdk_2323_method_67_code 147 = .ok (.lload 5, 2) := by decide +kernel
theorem d21_149 : decode jdk_2323_method_67_code 149 = .ok (.ldc2_w 164, 3) := by decide +kernel
theorem d21_152 : decode jdk_2323_method_67_code 152 = .ok (.lsub, 1) := by decide +kernel
theorem d21_153 : decode jdk_2323_method_67_code 153 = .ok (.lreturn, 1) := by decide +kernel
theorem d21_141 : decode jdk_2323_method_67_code 141 = .ok (.lload 5, 2) := by decide +kernel
theorem d21_143 : decode jdk_2323_method_67_code 143 = .ok (.lconst 1, 1) := by decide +kernel
theorem d21_144 : decode jdk_2323_method_67_code 144 = .ok (.lsub, 1) := by decide +kernel
theorem d21_145 : decode jdk_2323_method_67_code 145 = .ok (.lstore 5, 2) := by decide +kernel
theorem d21_31 : decode jdk_2323_method_67_code 31 = .ok (.lload 5, 2) := by decide +kernel
theorem d21_33 : decode jdk_2323_method_67_code 33 = .ok (.lload_n 1, 1) := by decide +kernel
theorem d21_34 : decode jdk_2323_method_67_code 34 = .ok (.ldc2_w 370, 3) := by decide +kernel
theorem d21_37 : decode jdk_2323_method_67_code 37 = .ok (.ladd, 1) := by decide +kernel
theorem d21_38 : decode jdk_2323_method_67_code 38 = .ok (.ldc2_w 176, 3) := by decide +kernel
theorem d21_41 : decode jdk_2323_method_67_code 41 = .ok (.ldiv, 1) := by decide +kernel
theorem d21_42 : decode jdk_2323_method_67_code 42 = .ok (.lload_n 1, 1) := by decide +kernel
theorem d21_43 : decode jdk_2323_method_67_code 43 = .ok (.ldc2_w 654, 3) := by decide +kernel
theorem d21_46 : decode jdk_2323_method_67_code 46 = .ok (.ladd, 1) := by decide +kernel
theorem d21_47 : decode jdk_2323_method_67_code 47 = .ok (.ldc2_w 178, 3) := by decide +kernel
theorem d21_50 : decode jdk_2323_method_67_code 50 = .ok (.ldiv, 1) := by decide +kernel
theorem d21_51 : decode jdk_2323_method_67_code 51 = .ok (.lsub, 1) := by decide +kernel
theorem d21_52 : decode jdk_2323_method_67_code 52 = .ok (.lload_n 1, 1) := by decide +kernel
theorem d21_53 : decode jdk_2323_method_67_code 53 = .ok (.ldc2_w 656, 3) := by decide +kernel
theorem d21_56 : decode jdk_2323_method_67_code 56 = .ok (.ladd, 1) := by decide +kernel
theorem d21_57 : decode jdk_2323_method_67_code 57 = .ok (.ldc2_w 170, 3) := by decide +kernel
theorem d21_60 : decode jdk_2323_method_67_code 60 = .ok (.ldiv, 1) := by decide +kernel
theorem d21_61 : decode jdk_2323_method_67_code 61 = .ok (.ladd, 1) := by decide +kernel
theorem d21_62 : decode jdk_2323_method_67_code 62 = .ok (.ladd, 1) := by decide +kernel
theorem d21_63 : decode jdk_2323_method_67_code 63 = .ok (.lstore 5, 2) := by decide +kernel
theorem d21_65 : decode jdk_2323_method_67_code 65 = .ok (.goto 25, 3) := by decide +kernel
def Q_rmTed (Z : State) (a : Addr) (y : Int32) (mo : Int32) (dy : Int32) (cY : Addr) (vY : Addr) (cM : Addr) (vM : Addr) (cD : Addr) (vD : Addr) (cE : Addr) (vE : Addr) (ic : Addr) (h0 : Heap) (n0 : Nat) (v : Option Value) (h : Heap) (L : List Loc) : Prop := ∃ r : Int64, v = some (.long r) ∧ Fr n0 L ∧ h = h0 ∧ (r.toInt = own_ed y.toInt mo.toInt dy.toInt)
set_option maxRecDepth 65536 in
set_option maxHeartbeats 40000000 in
theorem rmTed (l : Launch) (Z : State) (a0 : Array Value) (hw : ∀ d ∈ tables_1, d.before a0 Z = true) (ws : List Jvm.Cond) (a : Addr) (y : Int32) (mo : Int32) (dy : Int32) (cY : Addr) (vY : Addr) (cM : Addr) (vM : Addr) (cD : Addr) (vD : Addr) (cE : Addr) (vE : Addr) (ic : Addr) (h0 : Heap) (n0 : Nat) (Z0 : n0 ≤ h0.size) (O0 : Old Z n0 h0) (E_a : Exa Z h0 a "java/time/LocalDate") (F_a_year : Fld Z h0 a "java/time/LocalDate" "year" "I" (.int y)) (F_a_month : Fld Z h0 a "java/time/LocalDate" "month" "S" (.int mo)) (F_a_day : Fld Z h0 a "java/time/LocalDate" "day" "S" (.int dy)) (hy : (-100000000 ≤ y.toInt ∧ y.toInt ≤ 100000000)) (hmo : (1 ≤ mo.toInt ∧ mo.toInt ≤ 12)) (hdy : (1 ≤ dy.toInt ∧ dy.toInt ≤ 31)) (Dc0 : Sta Z Z.heap "java/time/temporal/ChronoField" "YEAR" "Ljava/time/temporal/ChronoField;" (.ref cY)) (Dc1 : Exa Z Z.heap cY "java/time/temporal/ChronoField") (Dc2 : Fld Z Z.heap cY "java/time/temporal/ChronoField" "range" "Ljava/time/temporal/ValueRange;" (.ref vY)) (Dc3 : Exa Z Z.heap vY "java/time/temporal/ValueRange") (Dc4 : Fld Z Z.heap vY "java/time/temporal/ValueRange" "minSmallest" "J" (.long (-999999999 : Int64))) (Dc5 : Fld Z Z.heap vY "java/time/temporal/ValueRange" "maxLargest" "J" (.long (999999999 : Int64))) (Dc6 : Sta Z Z.heap "java/time/temporal/ChronoField" "MONTH_OF_YEAR" "Ljava/time/temporal/ChronoField;" (.ref cM)) (Dc7 : Exa Z Z.heap cM "java/time/temporal/ChronoField") (Dc8 : Fld Z Z.heap cM "java/time/temporal/ChronoField" "range" "Ljava/time/temporal/ValueRange;" (.ref vM)) (Dc9 : Exa Z Z.heap vM "java/time/temporal/ValueRange") (Dc10 : Fld Z Z.heap vM "java/time/temporal/ValueRange" "minSmallest" "J" (.long (1 : Int64))) (Dc11 : Fld Z Z.heap vM "java/time/temporal/ValueRange" "maxLargest" "J" (.long (12 : Int64))) (Dc12 : Sta Z Z.heap "java/time/temporal/ChronoField" "DAY_OF_MONTH" "Ljava/time/temporal/ChronoField;" (.ref cD)) (Dc13 : Exa Z Z.heap cD "java/time/temporal/ChronoField") (Dc14 : Fld Z Z.heap cD "java/time/temporal/ChronoField" "range" "Ljava/time/temporal/ValueRange;" (.ref vD)) (Dc15 : Exa Z Z.heap vD "java/time/temporal/ValueRange") (Dc16 : Fld Z Z.heap vD "java/time/temporal/ValueRange" "minSmallest" "J" (.long (1 : Int64))) (Dc17 : Fld Z Z.heap vD "java/time/temporal/ValueRange" "maxLargest" "J" (.long (31 : Int64))) (Dc18 : Sta Z Z.heap "java/time/temporal/ChronoField" "EPOCH_DAY" "Ljava/time/temporal/ChronoField;" (.ref cE)) (Dc19 : Exa Z Z.heap cE "java/time/temporal/ChronoField") (Dc20 : Fld Z Z.heap cE "java/time/temporal/ChronoField" "range" "Ljava/time/temporal/ValueRange;" (.ref vE)) (Dc21 : Exa Z Z.heap vE "java/time/temporal/ValueRange") (Dc22 : Fld Z Z.heap vE "java/time/temporal/ValueRange" "minSmallest" "J" (.long (-365243219162 : Int64))) (Dc23 : Fld Z Z.heap vE "java/time/temporal/ValueRange" "maxLargest" "J" (.long (365241780471 : Int64))) (Dc24 : Sta Z Z.heap "java/time/chrono/IsoChronology" "INSTANCE" "Ljava/time/chrono/IsoChronology;" (.ref ic)) (Dc25 : Exa Z Z.heap ic "java/time/chrono/IsoChronology") :
    MetFree l (⟨"java/time/LocalDate", "toEpochDay", "()J"⟩ : MethodName) (head1 (Jvm.Cond.code (⟨"java/time/LocalDate", "toEpochDay", "()J"⟩ : MethodName) jdk_2323_method_67_code 7 (some .long) :: ws) ({ frames := 2, cells := 0, slots := 0, locals := 26 } : Room)) (fun as' U => as' = #[(.ref a)] ∧ Z.Warmed39 U.vm ∧ U.heap = h0) (fun _ _ _ _ _ => True) (fun _ U o U' => ∃ v L, o = .returned v ∧ Q_rmTed Z a y mo dy cY vY cM vM cD vD cE vE ic h0 n0 v U'.heap L ∧ FrameEnd U o U' L ({ frames := 2, cells := 0, slots := 0, locals := 26 } : Room).cells ({ frames := 2, cells := 0, slots := 0, locals := 26 } : Room).slots) := by
  refine MetFree.of_bodySF (plainFor_of_name pn_46) hisR ?_
  intro p e s m args below meth c s₁ Bd hml0 hP hK
  obtain ⟨rfl, hZ, hh⟩ := hP
  have hx := Bd.exec
  have hby := Bd.bytes
  have hml : c.maxLocals = 7 := hml0
  have hown : s.vm.findClass "java/time/LocalDate" = some m.cls := findClass_of_methodNamed Bd.named
  have hnm := (name_of_methodNamed Bd.named Bd.method).1
  have X0 : Stand p l e ({ frames := 2, cells := 0, slots := 0, locals := 26 } : Room) s m #[(.ref a)] below meth c s₁ [] 0 0 := Stand.of_body Bd
  have e0 : s₁.heap = h0 := by rw [← hh, Bd.state]; rfl
  have N0 := Fr.nil n0
  refine Go.enter (F := EndN s (Q_rmTed Z a y mo dy cY vY cM vM cD vD cE vE ic h0 n0) ({ frames := 2, cells := 0, slots := 0, locals := 26 } : Room).cells ({ frames := 2, cells := 0, slots := 0, locals := 26 } : Room).slots) (ef_100 m a) ?_
  show Go _ _ _ _ s₁ (mkF m 0 #[rv a, un, un, un, un, un, un] [])
  refine Go.aload1 1 X0 hx (hb hby d21_0) rfl rfl rfl ?_
  obtain ⟨T1, X1, e1, st1⟩ := getF X0 hx hZ hown (host := "") (Or.inl (ow hw 116 rfl)) Via.refl e0 F_a_year (g := (mkF m 1 #[rv a, un, un, un, un, un, un] [(.ref a)])) rfl rfl (hb hby d21_1)
  refine Go.by st1 ?_
  show Go _ _ _ _ T1 (mkF m 4 #[rv a, un, un, un, un, un, un] [(.int y)])
  refine Go.i2l 5 X1 hx (hb hby d21_4) rfl ?_
  obtain ⟨n2, h_n2⟩ : ∃ z, z = (y.toInt64) := ⟨_, rfl⟩
  rw [← h_n2]
  show Go _ _ _ _ T1 (mkF m 5 #[rv a, un, un, un, un, un, un] [(.long n2)])
  have e_n2 : n2.toInt = y.toInt := by rw [h_n2]; exact c_i2l _
  refine Go.lstore1 6 X1 hx (L' := #[rv a, .val (.long n2), .second, un, un, un, un]) (hb hby d21_5) rfl rfl ?_
  refine Go.aload1 7 X1 hx (hb hby d21_6) rfl rfl rfl ?_
  obtain ⟨T3, X3, e3, st3⟩ := getF X1 hx hZ hown (host := "") (Or.inl (ow hw 118 rfl)) Via.refl e1 F_a_month (g := (mkF m 7 #[rv a, .val (.long n2), .second, un, un, un, un] [(.ref a)])) rfl rfl (hb hby d21_7)
  refine Go.by st3 ?_
  show Go _ _ _ _ T3 (mkF m 10 #[rv a, .val (.long n2), .second, un, un, un, un] [(.int mo)])
  refine Go.i2l 11 X3 hx (hb hby d21_10) rfl ?_
  obtain ⟨n4, h_n4⟩ : ∃ z, z = (mo.toInt64) := ⟨_, rfl⟩
  rw [← h_n4]
  show Go _ _ _ _ T3 (mkF m 11 #[rv a, .val (.long n2), .second, un, un, un, un] [(.long n4)])
  have e_n4 : n4.toInt = mo.toInt := by rw [h_n4]; exact c_i2l _
  refine Go.lstore1 12 X3 hx (L' := #[rv a, .val (.long n2), .second, .val (.long n4), .second, un, un]) (hb hby d21_11) rfl rfl ?_
  refine Go.lconst 13 X3 hx (0 : Int64) (hb hby d21_12) (by decide) rfl ?_
  refine Go.lstore2 15 X3 hx (L' := #[rv a, .val (.long n2), .second, .val (.long n4), .second, .val (.long (0 : Int64)), .second]) (hb hby d21_13) rfl rfl ?_
  refine Go.lload2 17 X3 hx (hb hby d21_15) rfl rfl ?_
  refine Go.by (fun _ gk => X3.ldc2J hx hown (mvT hZ (ow hw 133 rfl)) (g := (mkF m 17 #[rv a, .val (.long n2), .second, .val (.long n4), .second, .val (.long (0 : Int64)), .second] [(.long (0 : Int64))])) rfl (hb hby d21_17) gk) ?_
  show Go _ _ _ _ T3 (mkF m 20 #[rv a, .val (.long n2), .second, .val (.long n4), .second, .val (.long (0 : Int64)), .second] [(.long (365 : Int64)), (.long (0 : Int64))])
  refine Go.lload1 21 X3 hx (hb hby d21_20) rfl rfl ?_
  refine Go.lmul 22 X3 hx (hb hby d21_21) rfl ?_
  have li5 : (365 : Int64).toInt = 365 := by decide
  obtain ⟨n6, h_n6⟩ : ∃ z, z = ((365 : Int64) * n2) := ⟨_, rfl⟩
  rw [← h_n6]
  show Go _ _ _ _ T3 (mkF m 22 #[rv a, .val (.long n2), .second, .val (.long n4), .second, .val (.long (0 : Int64)), .second] [(.long n6), (.long (0 : Int64))])
  have e_n6 : n6.toInt = 365 * n2.toInt := by rw [h_n6]; exact x_lmulL 365 (by decide) (by omega) (by omega)
  refine Go.ladd 23 X3 hx (hb hby d21_22) rfl ?_
  have li7 : (0 : Int64).toInt = 0 := by decide
  obtain ⟨n8, h_n8⟩ : ∃ z, z = ((0 : Int64) + n6) := ⟨_, rfl⟩
  rw [← h_n8]
  show Go _ _ _ _ T3 (mkF m 23 #[rv a, .val (.long n2), .second, .val (.long n4), .second, .val (.long (0 : Int64)), .second] [(.long n8)])
  have e_n8 : n8.toInt = (0 : Int64).toInt + n6.toInt := by rw [h_n8]; exact x_ladd (by omega) (by omega)
  refine Go.lstore2 25 X3 hx (L' := #[rv a, .val (.long n2), .second, .val (.long n4), .second, .val (.long n8), .second]) (hb hby d21_23) rfl rfl ?_
  refine Go.lload1 26 X3 hx (hb hby d21_25) rfl rfl ?_
  refine Go.lconst 27 X3 hx (0 : Int64) (hb hby d21_26) (by decide) rfl ?_
  refine Go.lcmp 28 X3 hx (hb hby d21_27) rfl ?_
  by_cases hb9 : n2 < (0 : Int64)
  · refine Go.ifY 68 X3 hx (hb hby d21_28) (XT.ll_lt_t hb9) (by decide) (by decide) ?_
    have i_hb9 := o_lt64 hb9
    refine Go.lload2 70 X3 hx (hb hby d21_68) rfl rfl ?_
    refine Go.lload1 71 X3 hx (hb hby d21_70) rfl rfl ?_
    refine Go.by (fun _ gk => X3.ldc2J hx hown (mvT hZ (ow hw 203 rfl)) (g := (mkF m 71 #[rv a, .val (.long n2), .second, .val (.long n4), .second, .val (.long n8), .second] [(.long n2), (.long n8)])) rfl (hb hby d21_71) gk) ?_
    show Go _ _ _ _ T3 (mkF m 74 #[rv a, .val (.long n2), .second, .val (.long n4), .second, .val (.long n8), .second] [(.long (-4 : Int64)), (.long n2), (.long n8)])
    refine Go.ldiv 75 X3 hx (hb hby d21_74) (by decide) rfl ?_
    have li10 : (-4 : Int64).toInt = -4 := by decide
    obtain ⟨n11, h_n11⟩ : ∃ z, z = (n2 / (-4 : Int64)) := ⟨_, rfl⟩
    rw [← h_n11]
    show Go _ _ _ _ T3 (mkF m 75 #[rv a, .val (.long n2), .second, .val (.long n4), .second, .val (.long n8), .second] [(.long n11), (.long n8)])
    have e_n11 : n11.toInt = (-n2.toInt) / 4 := by rw [h_n11]; exact (x_ldivN 4 (by decide) (by decide) (by decide)).2 (by omega)
    refine Go.lload1 76 X3 hx (hb hby d21_75) rfl rfl ?_
    refine Go.by (fun _ gk => X3.ldc2J hx hown (mvT hZ (ow hw 204 rfl)) (g := (mkF m 76 #[rv a, .val (.long n2), .second, .val (.long n4), .second, .val (.long n8), .second] [(.long n2), (.long n11), (.long n8)])) rfl (hb hby d21_76) gk) ?_
    show Go _ _ _ _ T3 (mkF m 79 #[rv a, .val (.long n2), .second, .val (.long n4), .second, .val (.long n8), .second] [(.long (-100 : Int64)), (.long n2), (.long n11), (.long n8)])
    refine Go.ldiv 80 X3 hx (hb hby d21_79) (by decide) rfl ?_
    have li12 : (-100 : Int64).toInt = -100 := by decide
    obtain ⟨n13, h_n13⟩ : ∃ z, z = (n2 / (-100 : Int64)) := ⟨_, rfl⟩
    rw [← h_n13]
    show Go _ _ _ _ T3 (mkF m 80 #[rv a, .val (.long n2), .second, .val (.long n4), .second, .val (.long n8), .second] [(.long n13), (.long n11), (.long n8)])
    have e_n13 : n13.toInt = (-n2.toInt) / 100 := by rw [h_n13]; exact (x_ldivN 100 (by decide) (by decide) (by decide)).2 (by omega)
    refine Go.lsub 81 X3 hx (hb hby d21_80) rfl ?_
    obtain ⟨n14, h_n14⟩ : ∃ z, z = (n11 - n13) := ⟨_, rfl⟩
    rw [← h_n14]
    show Go _ _ _ _ T3 (mkF m 81 #[rv a, .val (.long n2), .second, .val (.long n4), .second, .val (.long n8), .second] [(.long n14), (.long n8)])
    have e_n14 : n14.toInt = n11.toInt - n13.toInt := by rw [h_n14]; exact x_lsub (by omega) (by omega)
    refine Go.lload1 82 X3 hx (hb hby d21_81) rfl rfl ?_
    refine Go.by (fun _ gk => X3.ldc2J hx hown (mvT hZ (ow hw 205 rfl)) (g := (mkF m 82 #[rv a, .val (.long n2), .second, .val (.long n4), .second, .val (.long n8), .second] [(.long n2), (.long n14), (.long n8)])) rfl (hb hby d21_82) gk) ?_
    show Go _ _ _ _ T3 (mkF m 85 #[rv a, .val (.long n2), .second, .val (.long n4), .second, .val (.long n8), .second] [(.long (-400 : Int64)), (.long n2), (.long n14), (.long n8)])
    refine Go.ldiv 86 X3 hx (hb hby d21_85) (by decide) rfl ?_
    have li15 : (-400 : Int64).toInt = -400 := by decide
    obtain ⟨n16, h_n16⟩ : ∃ z, z = (n2 / (-400 : Int64)) := ⟨_, rfl⟩
    rw [← h_n16]
    show Go _ _ _ _ T3 (mkF m 86 #[rv a, .val (.long n2), .second, .val (.long n4), .second, .val (.long n8), .second] [(.long n16), (.long n14), (.long n8)])
    have e_n16 : n16.toInt = (-n2.toInt) / 400 := by rw [h_n16]; exact (x_ldivN 400 (by decide) (by decide) (by decide)).2 (by omega)
    refine Go.ladd 87 X3 hx (hb hby d21_86) rfl ?_
    obtain ⟨n17, h_n17⟩ : ∃ z, z = (n14 + n16) := ⟨_, rfl⟩
    rw [← h_n17]
    show Go _ _ _ _ T3 (mkF m 87 #[rv a, .val (.long n2), .second, .val (.long n4), .second, .val (.long n8), .second] [(.long n17), (.long n8)])
    have e_n17 : n17.toInt = n14.toInt + n16.toInt := by rw [h_n17]; exact x_ladd (by omega) (by omega)
    refine Go.lsub 88 X3 hx (hb hby d21_87) rfl ?_
    obtain ⟨n18, h_n18⟩ : ∃ z, z = (n8 - n17) := ⟨_, rfl⟩
    rw [← h_n18]
    show Go _ _ _ _ T3 (mkF m 88 #[rv a, .val (.long n2), .second, .val (.long n4), .second, .val (.long n8), .second] [(.long n18)])
    have e_n18 : n18.toInt = n8.toInt - n17.toInt := by rw [h_n18]; exact x_lsub (by omega) (by omega)
    refine Go.lstore2 90 X3 hx (L' := #[rv a, .val (.long n2), .second, .val (.long n4), .second, .val (.long n18), .second]) (hb hby d21_88) rfl rfl ?_
    refine Go.lload2 92 X3 hx (hb hby d21_90) rfl rfl ?_
    refine Go.by (fun _ gk => X3.ldc2J hx hown (mvT hZ (ow hw 140 rfl)) (g := (mkF m 92 #[rv a, .val (.long n2), .second, .val (.long n4), .second, .val (.long n18), .second] [(.long n18)])) rfl (hb hby d21_92) gk) ?_
    show Go _ _ _ _ T3 (mkF m 95 #[rv a, .val (.long n2), .second, .val (.long n4), .second, .val (.long n18), .second] [(.long (367 : Int64)), (.long n18)])
    refine Go.lload1 96 X3 hx (hb hby d21_95) rfl rfl ?_
    refine Go.lmul 97 X3 hx (hb hby d21_96) rfl ?_
    have li19 : (367 : Int64).toInt = 367 := by decide
    obtain ⟨n20, h_n20⟩ : ∃ z, z = ((367 : Int64) * n4) := ⟨_, rfl⟩
    rw [← h_n20]
    show Go _ _ _ _ T3 (mkF m 97 #[rv a, .val (.long n2), .second, .val (.long n4), .second, .val (.long n18), .second] [(.long n20), (.long n18)])
    have e_n20 : n20.toInt = 367 * n4.toInt := by rw [h_n20]; exact x_lmulL 367 (by decide) (by omega) (by omega)
    refine Go.by (fun _ gk => X3.ldc2J hx hown (mvT hZ (ow hw 141 rfl)) (g := (mkF m 97 #[rv a, .val (.long n2), .second, .val (.long n4), .second, .val (.long n18), .second] [(.long n20), (.long n18)])) rfl (hb hby d21_97) gk) ?_
    show Go _ _ _ _ T3 (mkF m 100 #[rv a, .val (.long n2), .second, .val (.long n4), .second, .val (.long n18), .second] [(.long (362 : Int64)), (.long n20), (.long n18)])
    refine Go.lsub 101 X3 hx (hb hby d21_100) rfl ?_
    have li21 : (362 : Int64).toInt = 362 := by decide
    obtain ⟨n22, h_n22⟩ : ∃ z, z = (n20 - (362 : Int64)) := ⟨_, rfl⟩
    rw [← h_n22]
    show Go _ _ _ _ T3 (mkF m 101 #[rv a, .val (.long n2), .second, .val (.long n4), .second, .val (.long n18), .second] [(.long n22), (.long n18)])
    have e_n22 : n22.toInt = n20.toInt - (362 : Int64).toInt := by rw [h_n22]; exact x_lsub (by omega) (by omega)
    refine Go.by (fun _ gk => X3.ldc2J hx hown (mvT hZ (ow hw 142 rfl)) (g := (mkF m 101 #[rv a, .val (.long n2), .second, .val (.long n4), .second, .val (.long n18), .second] [(.long n22), (.long n18)])) rfl (hb hby d21_101) gk) ?_
    show Go _ _ _ _ T3 (mkF m 104 #[rv a, .val (.long n2), .second, .val (.long n4), .second, .val (.long n18), .second] [(.long (12 : Int64)), (.long n22), (.long n18)])
    refine Go.ldiv 105 X3 hx (hb hby d21_104) (by decide) rfl ?_
    have li23 : (12 : Int64).toInt = 12 := by decide
    obtain ⟨n24, h_n24⟩ : ∃ z, z = (n22 / (12 : Int64)) := ⟨_, rfl⟩
    rw [← h_n24]
    show Go _ _ _ _ T3 (mkF m 105 #[rv a, .val (.long n2), .second, .val (.long n4), .second, .val (.long n18), .second] [(.long n24), (.long n18)])
    have e_n24 : n24.toInt = n22.toInt / 12 := by rw [h_n24]; exact (x_ldiv 12 (by decide) (by decide)).1 (by omega)
    refine Go.ladd 106 X3 hx (hb hby d21_105) rfl ?_
    obtain ⟨n25, h_n25⟩ : ∃ z, z = (n18 + n24) := ⟨_, rfl⟩
    rw [← h_n25]
    show Go _ _ _ _ T3 (mkF m 106 #[rv a, .val (.long n2), .second, .val (.long n4), .second, .val (.long n18), .second] [(.long n25)])
    have e_n25 : n25.toInt = n18.toInt + n24.toInt := by rw [h_n25]; exact x_ladd (by omega) (by omega)
    refine Go.lstore2 108 X3 hx (L' := #[rv a, .val (.long n2), .second, .val (.long n4), .second, .val (.long n25), .second]) (hb hby d21_106) rfl rfl ?_
    refine Go.lload2 110 X3 hx (hb hby d21_108) rfl rfl ?_
    refine Go.aload1 111 X3 hx (hb hby d21_110) rfl rfl rfl ?_
    obtain ⟨T26, X26, e26, st26⟩ := getF X3 hx hZ hown (host := "") (Or.inl (ow hw 120 rfl)) Via.refl e3 F_a_day (g := (mkF m 111 #[rv a, .val (.long n2), .second, .val (.long n4), .second, .val (.long n25), .second] [(.ref a), (.long n25)])) rfl rfl (hb hby d21_111)
    refine Go.by st26 ?_
    show Go _ _ _ _ T26 (mkF m 114 #[rv a, .val (.long n2), .second, .val (.long n4), .second, .val (.long n25), .second] [(.int dy), (.long n25)])
    refine Go.iconst 115 X26 hx (1 : Int32) (hb hby d21_114) (by decide) rfl ?_
    refine Go.isub 116 X26 hx (hb hby d21_115) rfl ?_
    have li27 : (1 : Int32).toInt = 1 := by decide
    obtain ⟨n28, h_n28⟩ : ∃ z, z = (dy - (1 : Int32)) := ⟨_, rfl⟩
    rw [← h_n28]
    show Go _ _ _ _ T26 (mkF m 116 #[rv a, .val (.long n2), .second, .val (.long n4), .second, .val (.long n25), .second] [(.int n28), (.long n25)])
    have e_n28 : n28.toInt = dy.toInt - (1 : Int32).toInt := by rw [h_n28]; exact x_isub (by omega) (by omega)
    refine Go.i2l 117 X26 hx (hb hby d21_116) rfl ?_
    obtain ⟨n29, h_n29⟩ : ∃ z, z = (n28.toInt64) := ⟨_, rfl⟩
    rw [← h_n29]
    show Go _ _ _ _ T26 (mkF m 117 #[rv a, .val (.long n2), .second, .val (.long n4), .second, .val (.long n25), .second] [(.long n29), (.long n25)])
    have e_n29 : n29.toInt = n28.toInt := by rw [h_n29]; exact c_i2l _
    refine Go.ladd 118 X26 hx (hb hby d21_117) rfl ?_
    obtain ⟨n30, h_n30⟩ : ∃ z, z = (n25 + n29) := ⟨_, rfl⟩
    rw [← h_n30]
    show Go _ _ _ _ T26 (mkF m 118 #[rv a, .val (.long n2), .second, .val (.long n4), .second, .val (.long n25), .second] [(.long n30)])
    have e_n30 : n30.toInt = n25.toInt + n29.toInt := by rw [h_n30]; exact x_ladd (by omega) (by omega)
    refine Go.lstore2 120 X26 hx (L' := #[rv a, .val (.long n2), .second, .val (.long n4), .second, .val (.long n30), .second]) (hb hby d21_118) rfl rfl ?_
    refine Go.lload1 121 X26 hx (hb hby d21_120) rfl rfl ?_
    refine Go.by (fun _ gk => X26.ldc2J hx hown (mvT hZ (ow hw 143 rfl)) (g := (mkF m 121 #[rv a, .val (.long n2), .second, .val (.long n4), .second, .val (.long n30), .second] [(.long n4)])) rfl (hb hby d21_121) gk) ?_
    show Go _ _ _ _ T26 (mkF m 124 #[rv a, .val (.long n2), .second, .val (.long n4), .second, .val (.long n30), .second] [(.long (2 : Int64)), (.long n4)])
    refine Go.lcmp 125 X26 hx (hb hby d21_124) rfl ?_
    have li31 : (2 : Int64).toInt = 2 := by decide
    by_cases hb32 : (2 : Int64) < n4
    · refine Go.ifN 128 X26 hx (hb hby d21_125) (XT.ll_le_f hb32) rfl ?_
      have i_hb32 := o_lt64 hb32
      refine Go.lload2 130 X26 hx (hb hby d21_128) rfl rfl ?_
      refine Go.lconst 131 X26 hx (1 : Int64) (hb hby d21_130) (by decide) rfl ?_
      refine Go.lsub 132 X26 hx (hb hby d21_131) rfl ?_
      have li33 : (1 : Int64).toInt = 1 := by decide
      obtain ⟨n34, h_n34⟩ : ∃ z, z = (n30 - (1 : Int64)) := ⟨_, rfl⟩
      rw [← h_n34]
      show Go _ _ _ _ T26 (mkF m 132 #[rv a, .val (.long n2), .second, .val (.long n4), .second, .val (.long n30), .second] [(.long n34)])
      have e_n34 : n34.toInt = n30.toInt - (1 : Int64).toInt := by rw [h_n34]; exact x_lsub (by omega) (by omega)
      refine Go.lstore2 134 X26 hx (L' := #[rv a, .val (.long n2), .second, .val (.long n4), .second, .val (.long n34), .second]) (hb hby d21_132) rfl rfl ?_
      refine Go.aload1 135 X26 hx (hb hby d21_134) rfl rfl rfl ?_
      obtain ⟨cq35, kq35, q35a, q35b, q35c⟩ := isOf hZ e26 E_a
      obtain ⟨_, _, ⟨T35, L35, k35, n35⟩, -, X35, ⟨Lc35, hQ35, l35, y35, z35⟩, st35⟩ := X26.virtualBack hx (y := (⟨"java/time/LocalDate", "isLeapYear", "()Z"⟩ : MethodName)) (z := (⟨"java/time/LocalDate", "isLeapYear", "()Z"⟩ : MethodName)) hown (mvT hZ (ow hw 144 rfl)) (mvT hZ (ow hw 145 rfl)) (notFace_of_selects (args := #[]) (mvT hZ (ow hw 147 rfl))) (mvT hZ (ow hw 147 rfl)) (mvT hZ (ow hw 146 rfl)) (by decide) (backOf (W := 0) (rmLdLeap l Z a0 hw [] a y cY vY cM vM cD vD cE vE ic h0 n0 Z0 O0 E_a F_a_year Dc0 Dc1 Dc2 Dc3 Dc4 Dc5 Dc6 Dc7 Dc8 Dc9 Dc10 Dc11 Dc12 Dc13 Dc14 Dc15 Dc16 Dc17 Dc18 Dc19 Dc20 Dc21 Dc22 Dc23 Dc24 Dc25) hZ (ow hw 148 rfl) (ow hw 63 rfl) (by decide) (by decide)) q35a q35c (g := (mkF m 135 #[rv a, .val (.long n2), .second, .val (.long n4), .second, .val (.long n34), .second] [(.ref a)])) rfl (by rw [hml]; rfl) (Steps.refl _) (argsL := []) (rest := []) (lenOf pd_162 rfl) rfl (by show 2 * 0 + _ ≤ _; exact Nat.le_of_eq rfl) (hb hby d21_135) (fun _ _ => ⟨rfl, e26, (by decide : 0 + 0 ≤ _), (by decide : 0 + 0 ≤ _)⟩)
      dsimp only [Pt.U, Pt.locs, Pt.cells, Pt.slots] at X35 l35 y35 z35 st35 hQ35
      subst l35 y35 z35
      obtain ⟨lp, rfl, N35q, e35, Q35_0⟩ := hQ35
      have N35 := Fr.app N0 N35q
      refine Go.to st35 ?_
      show Go _ _ _ _ T35 (mkF m 138 #[rv a, .val (.long n2), .second, .val (.long n4), .second, .val (.long n34), .second] [(.int lp)])
      rcases Q35_0 with ⟨rfl, hl⟩ | ⟨rfl, hl⟩
      · show Go _ _ _ _ T35 (mkF m 138 #[rv a, .val (.long n2), .second, .val (.long n4), .second, .val (.long n34), .second] [(.int 1)])
        refine Go.ifY 147 X35 hx (hb hby d21_138) (XT.i0_ne_t (by decide)) (by decide) (by decide) ?_
        refine Go.lload2 149 X35 hx (hb hby d21_147) rfl rfl ?_
        refine Go.by (fun _ gk => X35.ldc2J hx hown (mvT hZ (ow hw 157 rfl)) (g := (mkF m 149 #[rv a, .val (.long n2), .second, .val (.long n4), .second, .val (.long n34), .second] [(.long n34)])) rfl (hb hby d21_149) gk) ?_
        show Go _ _ _ _ T35 (mkF m 152 #[rv a, .val (.long n2), .second, .val (.long n4), .second, .val (.long n34), .second] [(.long (719528 : Int64)), (.long n34)])
        refine Go.lsub 153 X35 hx (hb hby d21_152) rfl ?_
        have li36 : (719528 : Int64).toInt = 719528 := by decide
        obtain ⟨n37, h_n37⟩ : ∃ z, z = (n34 - (719528 : Int64)) := ⟨_, rfl⟩
        rw [← h_n37]
        show Go _ _ _ _ T35 (mkF m 153 #[rv a, .val (.long n2), .second, .val (.long n4), .second, .val (.long n34), .second] [(.long n37)])
        have e_n37 : n37.toInt = n34.toInt - (719528 : Int64).toInt := by rw [h_n37]; exact x_lsub (by omega) (by omega)
        exact Go.retJ X35 hx Bd.notSynchronized Bd.returns (hb hby d21_153) (by rw [e35]; exact ⟨n37, rfl, N35, rfl, by rw [own_edH (by omega) hl]; exact (by omega)⟩) (by decide) (by decide)
      · show Go _ _ _ _ T35 (mkF m 138 #[rv a, .val (.long n2), .second, .val (.long n4), .second, .val (.long n34), .second] [(.int 0)])
        refine Go.ifN 141 X35 hx (hb hby d21_138) (XT.i0_ne_f rfl) rfl ?_
        refine Go.lload2 143 X35 hx (hb hby d21_141) rfl rfl ?_
        refine Go.lconst 144 X35 hx (1 : Int64) (hb hby d21_143) (by decide) rfl ?_
        refine Go.lsub 145 X35 hx (hb hby d21_144) rfl ?_
        obtain ⟨n38, h_n38⟩ : ∃ z, z = (n34 - (1 : Int64)) := ⟨_, rfl⟩
        rw [← h_n38]
        show Go _ _ _ _ T35 (mkF m 145 #[rv a, .val (.long n2), .second, .val (.long n4), .second, .val (.long n34), .second] [(.long n38)])
        have e_n38 : n38.toInt = n34.toInt - (1 : Int64).toInt := by rw [h_n38]; exact x_lsub (by omega) (by omega)
        refine Go.lstore2 147 X35 hx (L' := #[rv a, .val (.long n2), .second, .val (.long n4), .second, .val (.long n38), .second]) (hb hby d21_145) rfl rfl ?_
        refine Go.lload2 149 X35 hx (hb hby d21_147) rfl rfl ?_
        refine Go.by (fun _ gk => X35.ldc2J hx hown (mvT hZ (ow hw 157 rfl)) (g := (mkF m 149 #[rv a, .val (.long n2), .second, .val (.long n4), .second, .val (.long n38), .second] [(.long n38)])) rfl (hb hby d21_149) gk) ?_
        show Go _ _ _ _ T35 (mkF m 152 #[rv a, .val (.long n2), .second, .val (.long n4), .second, .val (.long n38), .second] [(.long (719528 : Int64)), (.long n38)])
        refine Go.lsub 153 X35 hx (hb hby d21_152) rfl ?_
        have li39 : (719528 : Int64).toInt = 719528 := by decide
        obtain ⟨n40, h_n40⟩ : ∃ z, z = (n38 - (719528 : Int64)) := ⟨_, rfl⟩
        rw [← h_n40]
        show Go _ _ _ _ T35 (mkF m 153 #[rv a, .val (.long n2), .second, .val (.long n4), .second, .val (.long n38), .second] [(.long n40)])
        have e_n40 : n40.toInt = n38.toInt - (719528 : Int64).toInt := by rw [h_n40]; exact x_lsub (by omega) (by omega)
        exact Go.retJ X35 hx Bd.notSynchronized Bd.returns (hb hby d21_153) (by rw [e35]; exact ⟨n40, rfl, N35, rfl, by rw [own_edN (by omega) hl]; exact (by omega)⟩) (by decide) (by decide)
    · refine Go.ifY 147 X26 hx (hb hby d21_125) (XT.ll_le_t hb32) (by decide) (by decide) ?_
      have i_hb32 := o_nlt64 hb32
      refine Go.lload2 149 X26 hx (hb hby d21_147) rfl rfl ?_
      refine Go.by (fun _ gk => X26.ldc2J hx hown (mvT hZ (ow hw 157 rfl)) (g := (mkF m 149 #[rv a, .val (.long n2), .second, .val (.long n4), .second, .val (.long n30), .second] [(.long n30)])) rfl (hb hby d21_149) gk) ?_
      show Go _ _ _ _ T26 (mkF m 152 #[rv a, .val (.long n2), .second, .val (.long n4), .second, .val (.long n30), .second] [(.long (719528 : Int64)), (.long n30)])
      refine Go.lsub 153 X26 hx (hb hby d21_152) rfl ?_
      have li41 : (719528 : Int64).toInt = 719528 := by decide
      obtain ⟨n42, h_n42⟩ : ∃ z, z = (n30 - (719528 : Int64)) := ⟨_, rfl⟩
      rw [← h_n42]
      show Go _ _ _ _ T26 (mkF m 153 #[rv a, .val (.long n2), .second, .val (.long n4), .second, .val (.long n30), .second] [(.long n42)])
      have e_n42 : n42.toInt = n30.toInt - (719528 : Int64).toInt := by rw [h_n42]; exact x_lsub (by omega) (by omega)
      exact Go.retJ X26 hx Bd.notSynchronized Bd.returns (hb hby d21_153) (by rw [e26]; exact ⟨n42, rfl, N0, rfl, by rw [own_edL (by omega)]; exact (by omega)⟩) (by decide) (by decide)
  · refine Go.ifN 31 X3 hx (hb hby d21_28) (XT.ll_lt_f hb9) rfl ?_
    have i_hb9 := o_nlt64 hb9
    refine Go.lload2 33 X3 hx (hb hby d21_31) rfl rfl ?_
    refine Go.lload1 34 X3 hx (hb hby d21_33) rfl rfl ?_
    refine Go.by (fun _ gk => X3.ldc2J hx hown (mvT hZ (ow hw 134 rfl)) (g := (mkF m 34 #[rv a, .val (.long n2), .second, .val (.long n4), .second, .val (.long n8), .second] [(.long n2), (.long n8)])) rfl (hb hby d21_34) gk) ?_
    show Go _ _ _ _ T3 (mkF m 37 #[rv a, .val (.long n2), .second, .val (.long n4), .second, .val (.long n8), .second] [(.long (3 : Int64)), (.long n2), (.long n8)])
    refine Go.ladd 38 X3 hx (hb hby d21_37) rfl ?_
    have li43 : (3 : Int64).toInt = 3 := by decide
    obtain ⟨n44, h_n44⟩ : ∃ z, z = (n2 + (3 : Int64)) := ⟨_, rfl⟩
    rw [← h_n44]
    show Go _ _ _ _ T3 (mkF m 38 #[rv a, .val (.long n2), .second, .val (.long n4), .second, .val (.long n8), .second] [(.long n44), (.long n8)])
    have e_n44 : n44.toInt = n2.toInt + (3 : Int64).toInt := by rw [h_n44]; exact x_ladd (by omega) (by omega)
    refine Go.by (fun _ gk => X3.ldc2J hx hown (mvT hZ (ow hw 135 rfl)) (g := (mkF m 38 #[rv a, .val (.long n2), .second, .val (.long n4), .second, .val (.long n8), .second] [(.long n44), (.long n8)])) rfl (hb hby d21_38) gk) ?_
    show Go _ _ _ _ T3 (mkF m 41 #[rv a, .val (.long n2), .second, .val (.long n4), .second, .val (.long n8), .second] [(.long (4 : Int64)), (.long n44), (.long n8)])
    refine Go.ldiv 42 X3 hx (hb hby d21_41) (by decide) rfl ?_
    have li45 : (4 : Int64).toInt = 4 := by decide
    obtain ⟨n46, h_n46⟩ : ∃ z, z = (n44 / (4 : Int64)) := ⟨_, rfl⟩
    rw [← h_n46]
    show Go _ _ _ _ T3 (mkF m 42 #[rv a, .val (.long n2), .second, .val (.long n4), .second, .val (.long n8), .second] [(.long n46), (.long n8)])
    have e_n46 : n46.toInt = n44.toInt / 4 := by rw [h_n46]; exact (x_ldiv 4 (by decide) (by decide)).1 (by omega)
    refine Go.lload1 43 X3 hx (hb hby d21_42) rfl rfl ?_
    refine Go.by (fun _ gk => X3.ldc2J hx hown (mvT hZ (ow hw 136 rfl)) (g := (mkF m 43 #[rv a, .val (.long n2), .second, .val (.long n4), .second, .val (.long n8), .second] [(.long n2), (.long n46), (.long n8)])) rfl (hb hby d21_43) gk) ?_
    show Go _ _ _ _ T3 (mkF m 46 #[rv a, .val (.long n2), .second, .val (.long n4), .second, .val (.long n8), .second] [(.long (99 : Int64)), (.long n2), (.long n46), (.long n8)])
    refine Go.ladd 47 X3 hx (hb hby d21_46) rfl ?_
    have li47 : (99 : Int64).toInt = 99 := by decide
    obtain ⟨n48, h_n48⟩ : ∃ z, z = (n2 + (99 : Int64)) := ⟨_, rfl⟩
    rw [← h_n48]
    show Go _ _ _ _ T3 (mkF m 47 #[rv a, .val (.long n2), .second, .val (.long n4), .second, .val (.long n8), .second] [(.long n48), (.long n46), (.long n8)])
    have e_n48 : n48.toInt = n2.toInt + (99 : Int64).toInt := by rw [h_n48]; exact x_ladd (by omega) (by omega)
    refine Go.by (fun _ gk => X3.ldc2J hx hown (mvT hZ (ow hw 137 rfl)) (g := (mkF m 47 #[rv a, .val (.long n2), .second, .val (.long n4), .second, .val (.long n8), .second] [(.long n48), (.long n46), (.long n8)])) rfl (hb hby d21_47) gk) ?_
    show Go _ _ _ _ T3 (mkF m 50 #[rv a, .val (.long n2), .second, .val (.long n4), .second, .val (.long n8), .second] [(.long (100 : Int64)), (.long n48), (.long n46), (.long n8)])
    refine Go.ldiv 51 X3 hx (hb hby d21_50) (by decide) rfl ?_
    have li49 : (100 : Int64).toInt = 100 := by decide
    obtain ⟨n50, h_n50⟩ : ∃ z, z = (n48 / (100 : Int64)) := ⟨_, rfl⟩
    rw [← h_n50]
    show Go _ _ _ _ T3 (mkF m 51 #[rv a, .val (.long n2), .second, .val (.long n4), .second, .val (.long n8), .second] [(.long n50), (.long n46), (.long n8)])
    have e_n50 : n50.toInt = n48.toInt / 100 := by rw [h_n50]; exact (x_ldiv 100 (by decide) (by decide)).1 (by omega)
    refine Go.lsub 52 X3 hx (hb hby d21_51) rfl ?_
    obtain ⟨n51, h_n51⟩ : ∃ z, z = (n46 - n50) := ⟨_, rfl⟩
    rw [← h_n51]
    show Go _ _ _ _ T3 (mkF m 52 #[rv a, .val (.long n2), .second, .val (.long n4), .second, .val (.long n8), .second] [(.long n51), (.long n8)])
    have e_n51 : n51.toInt = n46.toInt - n50.toInt := by rw [h_n51]; exact x_lsub (by omega) (by omega)
    refine Go.lload1 53 X3 hx (hb hby d21_52) rfl rfl ?_
    refine Go.by (fun _ gk => X3.ldc2J hx hown (mvT hZ (ow hw 138 rfl)) (g := (mkF m 53 #[rv a, .val (.long n2), .second, .val (.long n4), .second, .val (.long n8), .second] [(.long n2), (.long n51), (.long n8)])) rfl (hb hby d21_53) gk) ?_
    show Go _ _ _ _ T3 (mkF m 56 #[rv a, .val (.long n2), .second, .val (.long n4), .second, .val (.long n8), .second] [(.long (399 : Int64)), (.long n2), (.long n51), (.long n8)])
    refine Go.ladd 57 X3 hx (hb hby d21_56) rfl ?_
    have li52 : (399 : Int64).toInt = 399 := by decide
    obtain ⟨n53, h_n53⟩ : ∃ z, z = (n2 + (399 : Int64)) := ⟨_, rfl⟩
    rw [← h_n53]
    show Go _ _ _ _ T3 (mkF m 57 #[rv a, .val (.long n2), .second, .val (.long n4), .second, .val (.long n8), .second] [(.long n53), (.long n51), (.long n8)])
    have e_n53 : n53.toInt = n2.toInt + (399 : Int64).toInt := by rw [h_n53]; exact x_ladd (by omega) (by omega)
    refine Go.by (fun _ gk => X3.ldc2J hx hown (mvT hZ (ow hw 139 rfl)) (g := (mkF m 57 #[rv a, .val (.long n2), .second, .val (.long n4), .second, .val (.long n8), .second] [(.long n53), (.long n51), (.long n8)])) rfl (hb hby d21_57) gk) ?_
    show Go _ _ _ _ T3 (mkF m 60 #[rv a, .val (.long n2), .second, .val (.long n4), .second, .val (.long n8), .second] [(.long (400 : Int64)), (.long n53), (.long n51), (.long n8)])
    refine Go.ldiv 61 X3 hx (hb hby d21_60) (by decide) rfl ?_
    have li54 : (400 : Int64).toInt = 400 := by decide
    obtain ⟨n55, h_n55⟩ : ∃ z, z = (n53 / (400 : Int64)) := ⟨_, rfl⟩
    rw [← h_n55]
    show Go _ _ _ _ T3 (mkF m 61 #[rv a, .val (.long n2), .second, .val (.long n4), .second, .val (.long n8), .second] [(.long n55), (.long n51), (.long n8)])
    have e_n55 : n55.toInt = n53.toInt / 400 := by rw [h_n55]; exact (x_ldiv 400 (by decide) (by decide)).1 (by omega)
    refine Go.ladd 62 X3 hx (hb hby d21_61) rfl ?_
    obtain ⟨n56, h_n56⟩ : ∃ z, z = (n51 + n55) := ⟨_, rfl⟩
    rw [← h_n56]
    show Go _ _ _ _ T3 (mkF m 62 #[rv a, .val (.long n2), .second, .val (.long n4), .second, .val (.long n8), .second] [(.long n56), (.long n8)])
    have e_n56 : n56.toInt = n51.toInt + n55.toInt := by rw [h_n56]; exact x_ladd (by omega) (by omega)
    refine Go.ladd 63 X3 hx (hb hby d21_62) rfl ?_
    obtain ⟨n57, h_n57⟩ : ∃ z, z = (n8 + n56) := ⟨_, rfl⟩
    rw [← h_n57]
    show Go _ _ _ _ T3 (mkF m 63 #[rv a, .val (.long n2), .second, .val (.long n4), .second, .val (.long n8), .second] [(.long n57)])
    have e_n57 : n57.toInt = n8.toInt + n56.toInt := by rw [h_n57]; exact x_ladd (by omega) (by omega)
    refine Go.lstore2 65 X3 hx (L' := #[rv a, .val (.long n2), .second, .val (.long n4), .second, .val (.long n57), .second]) (hb hby d21_63) rfl rfl ?_
    refine Go.goto 90 X3 hx (hb hby d21_65) (by decide) (by decide) ?_
    refine Go.lload2 92 X3 hx (hb hby d21_90) rfl rfl ?_
    refine Go.by (fun _ gk => X3.ldc2J hx hown (mvT hZ (ow hw 140 rfl)) (g := (mkF m 92 #[rv a, .val (.long n2), .second, .val (.long n4), .second, .val (.long n57), .second] [(.long n57)])) rfl (hb hby d21_92) gk) ?_
    show Go _ _ _ _ T3 (mkF m 95 #[rv a, .val (.long n2), .second, .val (.long n4), .second, .val (.long n57), .second] [(.long (367 : Int64)), (.long n57)])
    refine Go.lload1 96 X3 hx (hb hby d21_95) rfl rfl ?_
    refine Go.lmul 97 X3 hx (hb hby d21_96) rfl ?_
    have li58 : (367 : Int64).toInt = 367 := by decide
    obtain ⟨n59, h_n59⟩ : ∃ z, z = ((367 : Int64) * n4) := ⟨_, rfl⟩
    rw [← h_n59]
    show Go _ _ _ _ T3 (mkF m 97 #[rv a, .val (.long n2), .second, .val (.long n4), .second, .val (.long n57), .second] [(.long n59), (.long n57)])
    have e_n59 : n59.toInt = 367 * n4.toInt := by rw [h_n59]; exact x_lmulL 367 (by decide) (by omega) (by omega)
    refine Go.by (fun _ gk => X3.ldc2J hx hown (mvT hZ (ow hw 141 rfl)) (g := (mkF m 97 #[rv a, .val (.long n2), .second, .val (.long n4), .second, .val (.long n57), .second] [(.long n59), (.long n57)])) rfl (hb hby d21_97) gk) ?_
    show Go _ _ _ _ T3 (mkF m 100 #[rv a, .val (.long n2), .second, .val (.long n4), .second, .val (.long n57), .second] [(.long (362 : Int64)), (.long n59), (.long n57)])
    refine Go.lsub 101 X3 hx (hb hby d21_100) rfl ?_
    have li60 : (362 : Int64).toInt = 362 := by decide
    obtain ⟨n61, h_n61⟩ : ∃ z, z = (n59 - (362 : Int64)) := ⟨_, rfl⟩
    rw [← h_n61]
    show Go _ _ _ _ T3 (mkF m 101 #[rv a, .val (.long n2), .second, .val (.long n4), .second, .val (.long n57), .second] [(.long n61), (.long n57)])
    have e_n61 : n61.toInt = n59.toInt - (362 : Int64).toInt := by rw [h_n61]; exact x_lsub (by omega) (by omega)
    refine Go.by (fun _ gk => X3.ldc2J hx hown (mvT hZ (ow hw 142 rfl)) (g := (mkF m 101 #[rv a, .val (.long n2), .second, .val (.long n4), .second, .val (.long n57), .second] [(.long n61), (.long n57)])) rfl (hb hby d21_101) gk) ?_
    show Go _ _ _ _ T3 (mkF m 104 #[rv a, .val (.long n2), .second, .val (.long n4), .second, .val (.long n57), .second] [(.long (12 : Int64)), (.long n61), (.long n57)])
    refine Go.ldiv 105 X3 hx (hb hby d21_104) (by decide) rfl ?_
    have li62 : (12 : Int64).toInt = 12 := by decide
    obtain ⟨n63, h_n63⟩ : ∃ z, z = (n61 / (12 : Int64)) := ⟨_, rfl⟩
    rw [← h_n63]
    show Go _ _ _ _ T3 (mkF m 105 #[rv a, .val (.long n2), .second, .val (.long n4), .second, .val (.long n57), .second] [(.long n63), (.long n57)])
    have e_n63 : n63.toInt = n61.toInt / 12 := by rw [h_n63]; exact (x_ldiv 12 (by decide) (by decide)).1 (by omega)
    refine Go.ladd 106 X3 hx (hb hby d21_105) rfl ?_
    obtain ⟨n64, h_n64⟩ : ∃ z, z = (n57 + n63) := ⟨_, rfl⟩
    rw [← h_n64]
    show Go _ _ _ _ T3 (mkF m 106 #[rv a, .val (.long n2), .second, .val (.long n4), .second, .val (.long n57), .second] [(.long n64)])
    have e_n64 : n64.toInt = n57.toInt + n63.toInt := by rw [h_n64]; exact x_ladd (by omega) (by omega)
    refine Go.lstore2 108 X3 hx (L' := #[rv a, .val (.long n2), .second, .val (.long n4), .second, .val (.long n64), .second]) (hb hby d21_106) rfl rfl ?_
    refine Go.lload2 110 X3 hx (hb hby d21_108) rfl rfl ?_
    refine Go.aload1 111 X3 hx (hb hby d21_110) rfl rfl rfl ?_
    obtain ⟨T65, X65, e65, st65⟩ := getF X3 hx hZ hown (host := "") (Or.inl (ow hw 120 rfl)) Via.refl e3 F_a_day (g := (mkF m 111 #[rv a, .val (.long n2), .second, .val (.long n4), .second, .val (.long n64), .second] [(.ref a), (.long n64)])) rfl rfl (hb hby d21_111)
    refine Go.by st65 ?_
    show Go _ _ _ _ T65 (mkF m 114 #[rv a, .val (.long n2), .second, .val (.long n4), .second, .val (.long n64), .second] [(.int dy), (.long n64)])
    refine Go.iconst 115 X65 hx (1 : Int32) (hb hby d21_114) (by decide) rfl ?_
    refine Go.isub 116 X65 hx (hb hby d21_115) rfl ?_
    have li66 : (1 : Int32).toInt = 1 := by decide
    obtain ⟨n67, h_n67⟩ : ∃ z, z = (dy - (1 : Int32)) := ⟨_, rfl⟩
    rw [← h_n67]
    show Go _ _ _ _ T65 (mkF m 116 #[rv a, .val (.long n2), .second, .val (.long n4), .second, .val (.long n64), .second] [(.int n67), (.long n64)])
    have e_n67 : n67.toInt = dy.toInt - (1 : Int32).toInt := by rw [h_n67]; exact x_isub (by omega) (by omega)
    refine Go.i2l 117 X65 hx (hb hby d21_116) rfl ?_
    obtain ⟨n68, h_n68⟩ : ∃ z, z = (n67.toInt64) := ⟨_, rfl⟩
    rw [← h_n68]
    show Go _ _ _ _ T65 (mkF m 117 #[rv a, .val (.long n2), .second, .val (.long n4), .second, .val (.long n64), .second] [(.long n68), (.long n64)])
    have e_n68 : n68.toInt = n67.toInt := by rw [h_n68]; exact c_i2l _
    refine Go.ladd 118 X65 hx (hb hby d21_117) rfl ?_
    obtain ⟨n69, h_n69⟩ : ∃ z, z = (n64 + n68) := ⟨_, rfl⟩
    rw [← h_n69]
    show Go _ _ _ _ T65 (mkF m 118 #[rv a, .val (.long n2), .second, .val (.long n4), .second, .val (.long n64), .second] [(.long n69)])
    have e_n69 : n69.toInt = n64.toInt + n68.toInt := by rw [h_n69]; exact x_ladd (by omega) (by omega)
    refine Go.lstore2 120 X65 hx (L' := #[rv a, .val (.long n2), .second, .val (.long n4), .second, .val (.long n69), .second]) (hb hby d21_118) rfl rfl ?_
    refine Go.lload1 121 X65 hx (hb hby d21_120) rfl rfl ?_
    refine Go.by (fun _ gk => X65.ldc2J hx hown (mvT hZ (ow hw 143 rfl)) (g := (mkF m 121 #[rv a, .val (.long n2), .second, .val (.long n4), .second, .val (.long n69), .second] [(.long n4)])) rfl (hb hby d21_121) gk) ?_
    show Go _ _ _ _ T65 (mkF m 124 #[rv a, .val (.long n2), .second, .val (.long n4), .second, .val (.long n69), .second] [(.long (2 : Int64)), (.long n4)])
    refine Go.lcmp 125 X65 hx (hb hby d21_124) rfl ?_
    have li70 : (2 : Int64).toInt = 2 := by decide
    by_cases hb71 : (2 : Int64) < n4
    · refine Go.ifN 128 X65 hx (hb hby d21_125) (XT.ll_le_f hb71) rfl ?_
      have i_hb71 := o_lt64 hb71
      refine Go.lload2 130 X65 hx (hb hby d21_128) rfl rfl ?_
      refine Go.lconst 131 X65 hx (1 : Int64) (hb hby d21_130) (by decide) rfl ?_
      refine Go.lsub 132 X65 hx (hb hby d21_131) rfl ?_
      have li72 : (1 : Int64).toInt = 1 := by decide
      obtain ⟨n73, h_n73⟩ : ∃ z, z = (n69 - (1 : Int64)) := ⟨_, rfl⟩
      rw [← h_n73]
      show Go _ _ _ _ T65 (mkF m 132 #[rv a, .val (.long n2), .second, .val (.long n4), .second, .val (.long n69), .second] [(.long n73)])
      have e_n73 : n73.toInt = n69.toInt - (1 : Int64).toInt := by rw [h_n73]; exact x_lsub (by omega) (by omega)
      refine Go.lstore2 134 X65 hx (L' := #[rv a, .val (.long n2), .second, .val (.long n4), .second, .val (.long n73), .second]) (hb hby d21_132) rfl rfl ?_
      refine Go.aload1 135 X65 hx (hb hby d21_134) rfl rfl rfl ?_
      obtain ⟨cq74, kq74, q74a, q74b, q74c⟩ := isOf hZ e65 E_a
      obtain ⟨_, _, ⟨T74, L74, k74, n74⟩, -, X74, ⟨Lc74, hQ74, l74, y74, z74⟩, st74⟩ := X65.virtualBack hx (y := (⟨"java/time/LocalDate", "isLeapYear", "()Z"⟩ : MethodName)) (z := (⟨"java/time/LocalDate", "isLeapYear", "()Z"⟩ : MethodName)) hown (mvT hZ (ow hw 144 rfl)) (mvT hZ (ow hw 145 rfl)) (notFace_of_selects (args := #[]) (mvT hZ (ow hw 147 rfl))) (mvT hZ (ow hw 147 rfl)) (mvT hZ (ow hw 146 rfl)) (by decide) (backOf (W := 0) (rmLdLeap l Z a0 hw [] a y cY vY cM vM cD vD cE vE ic h0 n0 Z0 O0 E_a F_a_year Dc0 Dc1 Dc2 Dc3 Dc4 Dc5 Dc6 Dc7 Dc8 Dc9 Dc10 Dc11 Dc12 Dc13 Dc14 Dc15 Dc16 Dc17 Dc18 Dc19 Dc20 Dc21 Dc22 Dc23 Dc24 Dc25) hZ (ow hw 148 rfl) (ow hw 63 rfl) (by decide) (by decide)) q74a q74c (g := (mkF m 135 #[rv a, .val (.long n2), .second, .val (.long n4), .second, .val (.long n73), .second] [(.ref a)])) rfl (by rw [hml]; rfl) (Steps.refl _) (argsL := []) (rest := []) (lenOf pd_162 rfl) rfl (by show 2 * 0 + _ ≤ _; exact Nat.le_of_eq rfl) (hb hby d21_135) (fun _ _ => ⟨rfl, e65, (by decide : 0 + 0 ≤ _), (by decide : 0 + 0 ≤ _)⟩)
      dsimp only [Pt.U, Pt.locs, Pt.cells, Pt.slots] at X74 l74 y74 z74 st74 hQ74
      subst l74 y74 z74
      obtain ⟨lp, rfl, N74q, e74, Q74_0⟩ := hQ74
      have N74 := Fr.app N0 N74q
      refine Go.to st74 ?_
      show Go _ _ _ _ T74 (mkF m 138 #[rv a, .val (.long n2), .second, .val (.long n4), .second, .val (.long n73), .second] [(.int lp)])
      rcases Q74_0 with ⟨rfl, hl⟩ | ⟨rfl, hl⟩
      · show Go _ _ _ _ T74 (mkF m 138 #[rv a, .val (.long n2), .second, .val (.long n4), .second, .val (.long n73), .second] [(.int 1)])
        refine Go.ifY 147 X74 hx (hb hby d21_138) (XT.i0_ne_t (by decide)) (by decide) (by decide) ?_
        refine Go.lload2 149 X74 hx (hb hby d21_147) rfl rfl ?_
        refine Go.by (fun _ gk => X74.ldc2J hx hown (mvT hZ (ow hw 157 rfl)) (g := (mkF m 149 #[rv a, .val (.long n2), .second, .val (.long n4), .second, .val (.long n73), .second] [(.long n73)])) rfl (hb hby d21_149) gk) ?_
        show Go _ _ _ _ T74 (mkF m 152 #[rv a, .val (.long n2), .second, .val (.long n4), .second, .val (.long n73), .second] [(.long (719528 : Int64)), (.long n73)])
        refine Go.lsub 153 X74 hx (hb hby d21_152) rfl ?_
        have li75 : (719528 : Int64).toInt = 719528 := by decide
        obtain ⟨n76, h_n76⟩ : ∃ z, z = (n73 - (719528 : Int64)) := ⟨_, rfl⟩
        rw [← h_n76]
        show Go _ _ _ _ T74 (mkF m 153 #[rv a, .val (.long n2), .second, .val (.long n4), .second, .val (.long n73), .second] [(.long n76)])
        have e_n76 : n76.toInt = n73.toInt - (719528 : Int64).toInt := by rw [h_n76]; exact x_lsub (by omega) (by omega)
        exact Go.retJ X74 hx Bd.notSynchronized Bd.returns (hb hby d21_153) (by rw [e74]; exact ⟨n76, rfl, N74, rfl, by rw [own_edH (by omega) hl]; exact (by omega)⟩) (by decide) (by decide)
      · show Go _ _ _ _ T74 (mkF m 138 #[rv a, .val (.long n2), .second, .val (.long n4), .second, .val (.long n73), .second] [(.int 0)])
        refine Go.ifN 141 X74 hx (hb hby d21_138) (XT.i0_ne_f rfl) rfl ?_
        refine Go.lload2 143 X74 hx (hb hby d21_141) rfl rfl ?_
        refine Go.lconst 144 X74 hx (1 : Int64) (hb hby d21_143) (by decide) rfl ?_
        refine Go.lsub 145 X74 hx (hb hby d21_144) rfl ?_
        obtain ⟨n77, h_n77⟩ : ∃ z, z = (n73 - (1 : Int64)) := ⟨_, rfl⟩
        rw [← h_n77]
        show Go _ _ _ _ T74 (mkF m 145 #[rv a, .val (.long n2), .second, .val (.long n4), .second, .val (.long n73), .second] [(.long n77)])
        have e_n77 : n77.toInt = n73.toInt - (1 : Int64).toInt := by rw [h_n77]; exact x_lsub (by omega) (by omega)
        refine Go.lstore2 147 X74 hx (L' := #[rv a, .val (.long n2), .second, .val (.long n4), .second, .val (.long n77), .second]) (hb hby d21_145) rfl rfl ?_
        refine Go.lload2 149 X74 hx (hb hby d21_147) rfl rfl ?_
        refine Go.by (fun _ gk => X74.ldc2J hx hown (mvT hZ (ow hw 157 rfl)) (g := (mkF m 149 #[rv a, .val (.long n2), .second, .val (.long n4), .second, .val (.long n77), .second] [(.long n77)])) rfl (hb hby d21_149) gk) ?_
        show Go _ _ _ _ T74 (mkF m 152 #[rv a, .val (.long n2), .second, .val (.long n4), .second, .val (.long n77), .second] [(.long (719528 : Int64)), (.long n77)])
        refine Go.lsub 153 X74 hx (hb hby d21_152) rfl ?_
        have li78 : (719528 : Int64).toInt = 719528 := by decide
        obtain ⟨n79, h_n79⟩ : ∃ z, z = (n77 - (719528 : Int64)) := ⟨_, rfl⟩
        rw [← h_n79]
        show Go _ _ _ _ T74 (mkF m 153 #[rv a, .val (.long n2), .second, .val (.long n4), .second, .val (.long n77), .second] [(.long n79)])
        have e_n79 : n79.toInt = n77.toInt - (719528 : Int64).toInt := by rw [h_n79]; exact x_lsub (by omega) (by omega)
        exact Go.retJ X74 hx Bd.notSynchronized Bd.returns (hb hby d21_153) (by rw [e74]; exact ⟨n79, rfl, N74, rfl, by rw [own_edN (by omega) hl]; exact (by omega)⟩) (by decide) (by decide)
    · refine Go.ifY 147 X65 hx (hb hby d21_125) (XT.ll_le_t hb71) (by decide) (by decide) ?_
      have i_hb71 := o_nlt64 hb71
      refine Go.lload2 149 X65 hx (hb hby d21_147) rfl rfl ?_
      refine Go.by (fun _ gk => X65.ldc2J hx hown (mvT hZ (ow hw 157 rfl)) (g := (mkF m 149 #[rv a, .val (.long n2), .second, .val (.long n4), .second, .val (.long n69), .second] [(.long n69)])) rfl (hb hby d21_149) gk) ?_
      show Go _ _ _ _ T65 (mkF m 152 #[rv a, .val (.long n2), .second, .val (.long n4), .second, .val (.long n69), .second] [(.long (719528 : Int64)), (.long n69)])
      refine Go.lsub 153 X65 hx (hb hby d21_152) rfl ?_
      have li80 : (719528 : Int64).toInt = 719528 := by decide
      obtain ⟨n81, h_n81⟩ : ∃ z, z = (n69 - (719528 : Int64)) := ⟨_, rfl⟩
      rw [← h_n81]
      show Go _ _ _ _ T65 (mkF m 153 #[rv a, .val (.long n2), .second, .val (.long n4), .second, .val (.long n69), .second] [(.long n81)])
      have e_n81 : n81.toInt = n69.toInt - (719528 : Int64).toInt := by rw [h_n81]; exact x_lsub (by omega) (by omega)
      exact Go.retJ X65 hx Bd.notSynchronized Bd.returns (hb hby d21_153) (by rw [e65]; exact ⟨n81, rfl, N0, rfl, by rw [own_edL (by omega)]; exact (by omega)⟩) (by decide) (by decide)
theorem ef_194 (m : MethodId) (x0 : Int64) : entryFrame m #[(.long x0)] 14 = mkF m 0 #[.val (.long x0), .second, un, un, un, un, un, un, un, un, un, un, un, un] [] := by (first | (simp [entryFrame, mkF, argsToLocals, Value.category]; done) | rfl)
theorem d31_0 : decode jdk_2323_method_8_code 0 = .ok (.getstatic 161, 3) := by decide +kernel
theorem d31_3 : decode jdk_2323_method_8_code 3 = .ok (.lload_n 0, 1) := by decide +kernel
theorem pd_197 : parseMethodDescriptor "(J)J" = some ⟨[.long], some .long⟩ := by decide +kernel
theorem d31_4 : decode jdk_2323_method_8_code 4 = .ok (.invokevirtual 45, 3) := by decide +kernel
theorem d31_7 : decode jdk_2323_method_8_code 7 = .ok (.pop2, 1) := by decide +kernel
theorem d31_8 : decode jdk_2323_method_8_code 8 = .ok (.lload_n 0, 1) := by decide +kernel
theorem d31_9 : decode jdk_2323_method_8_code 9 = .ok (.ldc2_w 164, 3) := by decide +kernel
theorem d31_12 : decode jdk_2323_method_8_code 12 = .ok (.ladd, 1) := by decide +kernel
theorem d31_13 : decode jdk_2323_method_8_code 13 = .ok (.lstore_n 2, 1) := by decide +kernel
theorem d31_14 : decode jdk_2323_method_8_code 14 = .ok (.lload_n 2, 1) := by decide +kernel
theorem d31_15 : decode jdk_2323_method_8_code 15 = .ok (.ldc2_w 166, 3) := by decide +kernel
theorem d31_18 : decode jdk_2323_method_8_code 18 = .ok (.lsub, 1) := by decide +kernel
theorem d31_19 : decode jdk_2323_method_8_code 19 = .ok (.lstore_n 2, 1) := by decide +kernel
theorem d31_20 : decode jdk_2323_method_8_code 20 = .ok (.lconst 0, 1) := by decide +kernel
theorem d31_21 : decode jdk_2323_method_8_code 21 = .ok (.lstore 4, 2) := by decide +kernel
theorem d31_23 : decode jdk_2323_method_8_code 23 = .ok (.lload_n 2, 1) := by decide +kernel
theorem d31_24 : decode jdk_2323_method_8_code 24 = .ok (.lconst 0, 1) := by decide +kernel
theorem d31_25 : decode jdk_2323_method_8_code 25 = .ok (.lcmp, 1) := by decide +kernel
theorem d31_26 : decode jdk_2323_method_8_code 26 = .ok (.ifCond .ge 32, 3) := by decide +kernel
theorem d31_29 : decode jdk_2323_method_8_code 29 = .ok (.lload_n 2, 1) := by decide +kernel
theorem d31_30 : decode jdk_2323_method_8_code 30 = .ok (.lconst 1, 1) := by decide +kernel
theorem d31_31 : decode jdk_2323_method_8_code 31 = .ok (.ladd, 1) := by decide +kernel
theorem d31_32 : decode jdk_2323_method_8_code 32 = .ok (.ldc2_w 168, 3) := by decide +kernel
theorem d31_35 : decode jdk_2323_method_8_code 35 = .ok (.ldiv, 1) := by decide +kernel
theorem d31_36 : decode jdk_2323_method_8_code 36 = .ok (.lconst 1, 1) := by decide +kernel
theorem d31_37 : decode jdk_2323_method_8_code 37 = .ok (.lsub, 1) := by decide +kernel
theorem d31_38 : decode jdk_2323_method_8_code 38 = .ok (.lstore 6, 2) := by decide +kernel
theorem d31_40 : decode jdk_2323_method_8_code 40 = .ok (.lload 6, 2) := by decide +kernel
theorem d31_42 : decode jdk_2323_method_8_code 42 = .ok (.ldc2_w 170, 3) := by decide +kernel
theorem d31_45 : decode jdk_2323_method_8_code 45 = .ok (.lmul, 1) := by decide +kernel
theorem d31_46 : decode jdk_2323_method_8_code 46 = .ok (.lstore 4, 2) := by decide +kernel
theorem d31_48 : decode jdk_2323_method_8_code 48 = .ok (.lload_n 2, 1) := by decide +kernel
theorem d31_49 : decode jdk_2323_method_8_code 49 = .ok (.lload 6, 2) := by decide +kernel
theorem d31_51 : decode jdk_2323_method_8_code 51 = .ok (.lneg, 1) := by decide +kernel
theorem d31_52 : decode jdk_2323_method_8_code 52 = .ok (.ldc2_w 168, 3) := by decide +kernel
theorem d31_55 : decode jdk_2323_method_8_code 55 = .ok (.lmul, 1) := by decide +kernel
theorem d31_56 : decode jdk_2323_method_8_code 56 = .ok (.ladd, 1) := by decide +kernel
theorem d31_57 : decode jdk_2323_method_8_code 57 = .ok (.lstore_n 2, 1) := by decide +kernel
theorem d31_58 : decode jdk_2323_method_8_code 58 = .ok (.ldc2_w 170, 3) := by decide +kernel
theorem d31_61 : decode jdk_2323_method_8_code 61 = .ok (.lload_n 2, 1) := by decide +kernel
theorem d31_62 : decode jdk_2323_method_8_code 62 = .ok (.lmul, 1) := by decide +kernel
theorem d31_63 : decode jdk_2323_method_8_code 63 = .ok (.ldc2_w 172, 3) := by decide +kernel
theorem d31_66 : decode jdk_2323_method_8_code 66 = .ok (.ladd, 1) := by decide +kernel
theorem d31_67 : decode jdk_2323_method_8_code 67 = .ok (.ldc2_w 168, 3) := by decide +kernel
theorem d31_70 : decode jdk_2323_method_8_code 70 = .ok (.ldiv, 1) := by decide +kernel
theorem d31_71 : decode jdk_2323_method_8_code 71 = .ok (.lstore 6, 2) := by decide +kernel
theorem d31_73 : decode jdk_2323_method_8_code 73 = .ok (.lload_n 2, 1) := by decide +kernel
theorem d31_74 : decode jdk_2323_method_8_code 74 = .ok (.ldc2_w 174, 3) := by decide +kernel
theorem d31_77 : decode jdk_2323_method_8_code 77 = .ok (.lload 6, 2) := by decide +kernel
theorem d31_79 : decode jdk_2323_method_8_code 79 = .ok (.lmul, 1) := by decide +kernel
theorem d31_80 : decode jdk_2323_method_8_code 80 = .ok (.lload 6, 2) := by decide +kernel
theorem d31_82 : decode jdk_2323_method_8_code 82 = .ok (.ldc2_w 176, 3) := by decide +kernel
theorem d31_85 : decode jdk_2323_method_8_code 85 = .ok (.ldiv, 1) := by decide +kernel
theorem d31_86 : decode jdk_2323_method_8_code 86 = .ok (.ladd, 1) := by decide +kernel
theorem d31_87 : decode jdk_2323_method_8_code 87 = .ok (.lload 6, 2) := by decide +kernel
theorem d31_89 : decode jdk_2323_method_8_code 89 = .ok (.ldc2_w 178, 3) := by decide +kernel
theorem d31_92 : decode jdk_2323_method_8_code 92 = .ok (.ldiv, 1) := by decide +kernel
theorem d31_93 : decode jdk_2323_method_8_code 93 = .ok (.lsub, 1) := by decide +kernel
theorem d31_94 : decode jdk_2323_method_8_code 94 = .ok (.lload 6, 2) := by decide +kernel
theorem d31_96 : decode jdk_2323_method_8_code 96 = .ok (.ldc2_w 170, 3) := by decide +kernel
theorem d31_99 : decode jdk_2323_method_8_code 99 = .ok (.ldiv, 1) := by decide +kernel
theorem d31_100 : decode jdk_2323_method_8_code 100 = .ok (.ladd, 1) := by decide +kernel
theorem d31_101 : decode jdk_2323_method_8_code 101 = .ok (.lsub, 1) := by decide +kernel
theorem d31_102 : decode jdk_2323_method_8_code 102 = .ok (.lstore 8, 2) := by decide +kernel
theorem d31_104 : decode jdk_2323_method_8_code 104 = .ok (.lload 8, 2) := by decide +kernel
theorem d31_106 : decode jdk_2323_method_8_code 106 = .ok (.lconst 0, 1) := by decide +kernel
theorem d31_107 : decode jdk_2323_method_8_code 107 = .ok (.lcmp, 1) := by decide +kernel
theorem d31_108 : decode jdk_2323_method_8_code 108 = .ok (.ifCond .ge 40, 3) := by decide +kernel
theorem d31_111 : decode jdk_2323_method_8_code 111 = .ok (.lload 6, 2) := by decide +kernel
theorem d31_113 : decode jdk_2323_method_8_code 113 = .ok (.lconst 1, 1) := by decide +kernel
theorem d31_114 : decode jdk_2323_method_8_code 114 = .ok (.lsub, 1) := by decide +kernel
theorem d31_115 : decode jdk_2323_method_8_code 115 = .ok (.lstore 6, 2) := by decide +kernel
theorem d31_117 : decode jdk_2323_method_8_code 117 = .ok (.lload_n 2, 1) := by decide +kernel
theorem d31_118 : decode jdk_2323_method_8_code 118 = .ok (.ldc2_w 174, 3) := by decide +kernel
theorem d31_121 : decode jdk_2323_method_8_code 121 = .ok (.lload 6, 2) := by decide +kernel
theorem d31_123 : decode jdk_2323_method_8_code 123 = .ok (.lmul, 1) := by decide +kernel
theorem d31_124 : decode jdk_2323_method_8_code 124 = .ok (.lload 6, 2) := by decide +kernel
theorem d31_126 : decode jdk_2323_method_8_code 126 = .ok (.ldc2_w 176, 3) := by decide +kernel
theorem d31_129 : decode jdk_2323_method_8_code 129 = .ok (.ldiv, 1) := by decide +kernel
theorem d31_130 : decode jdk_2323_method_8_code 130 = .ok (.ladd, 1) := by decide +kernel
theorem d31_131 : decode jdk_2323_method_8_code 131 = .ok (.lload 6, 2) := by decide +kernel
theorem d31_133 : decode jdk_2323_method_8_code 133 = .ok (.ldc2_w 178, 3) := by decide +kernel
theorem d31_136 : decode jdk_2323_method_8_code 136 = .ok (.ldiv, 1) := by decide +kernel
theorem d31_137 : decode jdk_2323_method_8_code 137 = .ok (.lsub, 1) := by decide +kernel
theorem d31_138 : decode jdk_2323_method_8_code 138 = .ok (.lload 6, 2) := by decide +kernel
theorem d31_140 : decode jdk_2323_method_8_code 140 = .ok (.ldc2_w 170, 3) := by decide +kernel
theorem d31_143 : decode jdk_2323_method_8_code 143 = .ok (.ldiv, 1) := by decide +kernel
theorem d31_144 : decode jdk_2323_method_8_code 144 = .ok (.ladd, 1) := by decide +kernel
theorem d31_145 : decode jdk_2323_method_8_code 145 = .ok (.lsub, 1) := by decide +kernel
theorem d31_146 : decode jdk_2323_method_8_code 146 = .ok (.lstore 8, 2) := by decide +kernel
theorem d31_148 : decode jdk_2323_method_8_code 148 = .ok (.lload 6, 2) := by decide +kernel
theorem d31_150 : decode jdk_2323_method_8_code 150 = .ok (.lload 4, 2) := by decide +kernel
theorem d31_152 : decode jdk_2323_method_8_code 152 = .ok (.ladd, 1) := by decide +kernel
theorem d31_153 : decode jdk_2323_method_8_code 153 = .ok (.lstore 6, 2) := by decide +kernel
theorem d31_155 : decode jdk_2323_method_8_code 155 = .ok (.lload 8, 2) := by decide +kernel
theorem d31_157 : decode jdk_2323_method_8_code 157 = .ok (.l2i, 1) := by decide +kernel
theorem d31_158 : decode jdk_2323_method_8_code 158 = .ok (.istore 10, 2) := by decide +kernel
theorem d31_160 : decode jdk_2323_method_8_code 160 = .ok (.iload 10, 2) := by decide +kernel
theorem d31_162 : decode jdk_2323_method_8_code 162 = .ok (.iconst 5, 1) := by decide +kernel
theorem d31_163 : decode jdk_2323_method_8_code 163 = .ok (.imul, 1) := by decide +kernel
theorem d31_164 : decode jdk_2323_method_8_code 164 = .ok (.iconst 2, 1) := by decide +kernel
theorem d31_165 : decode jdk_2323_method_8_code 165 = .ok (.iadd, 1) := by decide +kernel
theorem d31_166 : decode jdk_2323_method_8_code 166 = .ok (.sipush 153, 3) := by decide +kernel
theorem d31_169 : decode jdk_2323_method_8_code 169 = .ok (.idiv, 1) := by decide +kernel
theorem d31_170 : decode jdk_2323_method_8_code 170 = .ok (.istore 11, 2) := by decide +kernel
theorem d31_172 : decode jdk_2323_method_8_code 172 = .ok (.iload 11, 2) := by decide +kernel
theorem d31_174 : decode jdk_2323_method_8_code 174 = .ok (.iconst 3, 1) := by decide +kernel
theorem d31_175 : decode jdk_2323_method_8_code 175 = .ok (.iadd, 1) := by decide +kernel
theorem d31_176 : decode jdk_2323_method_8_code 176 = .ok (.istore 12, 2) := by decide +kernel
theorem d31_178 : decode jdk_2323_method_8_code 178 = .ok (.iload 12, 2) := by decide +kernel
theorem d31_180 : decode jdk_2323_method_8_code 180 = .ok (.bipush 12, 2) := by decide +kernel
theorem d31_182 : decode jdk_2323_method_8_code 182 = .ok (.if_icmp .le 6, 3) := by decide +kernel
theorem d31_185 : decode jdk_2323_method_8_code 185 = .ok (.iinc 12 (-12), 3) := by decide +kernel
theorem d31_188 : decode jdk_2323_method_8_code 188 = .ok (.iload 10, 2) := by decide +kernel
theorem d31_190 : decode jdk_2323_method_8_code 190 = .ok (.iload 11, 2) := by decide +kernel
theorem d31_192 : decode jdk_2323_method_8_code 192 = .ok (.sipush 306, 3) := by decide +kernel
theorem d31_195 : decode jdk_2323_method_8_code 195 = .ok (.imul, 1) := by decide +kernel
theorem d31_196 : decode jdk_2323_method_8_code 196 = .ok (.iconst 5, 1) := by decide +kernel
theorem d31_197 : decode jdk_2323_method_8_code 197 = .ok (.iadd, 1) := by decide +kernel
theorem d31_198 : decode jdk_2323_method_8_code 198 = .ok (.bipush 10, 2) := by decide +kernel
theorem d31_200 : decode jdk_2323_method_8_code 200 = .ok (.idiv, 1) := by decide +kernel
theorem d31_201 : decode jdk_2323_method_8_code 201 = .ok (.isub, 1) := by decide +kernel
theorem d31_202 : decode jdk_2323_method_8_code 202 = .ok (.iconst 1, 1) := by decide +kernel
theorem d31_203 : decode jdk_2323_method_8_code 203 = .ok (.iadd, 1) := by decide +kernel
theorem d31_204 : decode jdk_2323_method_8_code 204 = .ok (.istore 13, 2) := by decide +kernel
theorem d31_206 : decode jdk_2323_method_8_code 206 = .ok (.iload 10, 2) := by decide +kernel
theorem d31_208 : decode jdk_2323_method_8_code 208 = .ok (.sipush 306, 3) := by decide +kernel
theorem d31_211 : decode jdk_2323_method_8_code 211 = .ok (.if_icmp .lt 9, 3) := by decide +kernel
theorem d31_220 : decode jdk_2323_method_8_code 220 = .ok (.new 1, 3) := by decide +kernel
theorem d31_223 : decode jdk_2323_method_8_code 223 = .ok (.dup, 1) := by decide +kernel
theorem d31_224 : decode jdk_2323_method_8_code 224 = .ok (.lload 6, 2) := by decide +kernel
theorem d31_226 : decode jdk_2323_method_8_code 226 = .ok (.l2i, 1) := by decide +kernel
theorem d31_227 : decode jdk_2323_method_8_code 227 = .ok (.iload 12, 2) := by decide +kernel
theorem d31_229 : decode jdk_2323_method_8_code 229 = .ok (.iload 13, 2) := by decide +kernel
theorem pd_329 : parseMethodDescriptor "(III)V" = some ⟨[.int, .int, .int], none⟩ := by decide +kernel
theorem d31_231 : decode jdk_2323_method_8_code 231 = .ok (.invokespecial 121, 3) := by decide +kernel
theorem d31_234 : decode jdk_2323_method_8_code 234 = .ok (.areturn, 1) := by decide +kernel
theorem d31_214 : decode jdk_2323_method_8_code 214 = .ok (.lload 6, 2) := by decide +kernel
theorem d31_216 : decode jdk_2323_method_8_code 216 = .ok (.lconst 1, 1) := by decide +kernel
theorem d31_217 : decode jdk_2323_method_8_code 217 = .ok (.ladd, 1) := by decide +kernel
theorem d31_218 : decode jdk_2323_method_8_code 218 = .ok (.lstore 6, 2) := by decide +kernel
def Q_rmOf (Z : State) (x : Int64) (cY : Addr) (vY : Addr) (cM : Addr) (vM : Addr) (cD : Addr) (vD : Addr) (cE : Addr) (vE : Addr) (ic : Addr) (h0 : Heap) (n0 : Nat) (v : Option Value) (h : Heap) (L : List Loc) : Prop := ∃ b : Addr, ∃ y : Int32, ∃ mo : Int32, ∃ dy : Int32, v = some (.ref b) ∧ Fr n0 L ∧ Keep h0 h [] ∧ Exa Z h b "java/time/LocalDate" ∧ Fld Z h b "java/time/LocalDate" "year" "I" (.int y) ∧ Fld Z h b "java/time/LocalDate" "month" "S" (.int mo) ∧ Fld Z h b "java/time/LocalDate" "day" "S" (.int dy) ∧ (own_ed y.toInt mo.toInt dy.toInt = x.toInt) ∧ (-100000000 ≤ y.toInt ∧ y.toInt ≤ 100000000) ∧ (1 ≤ mo.toInt ∧ mo.toInt ≤ 12) ∧ (1 ≤ dy.toInt ∧ dy.toInt ≤ 31)
set_option maxRecDepth 65536 in
set_option maxHeartbeats 40000000 in
theorem rmOf (l : Launch) (Z : State) (a0 : Array Value) (hw : ∀ d ∈ tables_1, d.before a0 Z = true) (ws : List Jvm.Cond) (x : Int64) (cY : Addr) (vY : Addr) (cM : Addr) (vM : Addr) (cD : Addr) (vD : Addr) (cE : Addr) (vE : Addr) (ic : Addr) (h0 : Heap) (n0 : Nat) (Z0 : n0 ≤ h0.size) (O0 : Old Z n0 h0) (hx1 : (-30000000000 ≤ x.toInt ∧ x.toInt ≤ 30000000000)) (Dc0 : Sta Z Z.heap "java/time/temporal/ChronoField" "YEAR" "Ljava/time/temporal/ChronoField;" (.ref cY)) (Dc1 : Exa Z Z.heap cY "java/time/temporal/ChronoField") (Dc2 : Fld Z Z.heap cY "java/time/temporal/ChronoField" "range" "Ljava/time/temporal/ValueRange;" (.ref vY)) (Dc3 : Exa Z Z.heap vY "java/time/temporal/ValueRange") (Dc4 : Fld Z Z.heap vY "java/time/temporal/ValueRange" "minSmallest" "J" (.long (-999999999 : Int64))) (Dc5 : Fld Z Z.heap vY "java/time/temporal/ValueRange" "maxLargest" "J" (.long (999999999 : Int64))) (Dc6 : Sta Z Z.heap "java/time/temporal/ChronoField" "MONTH_OF_YEAR" "Ljava/time/temporal/ChronoField;" (.ref cM)) (Dc7 : Exa Z Z.heap cM "java/time/temporal/ChronoField") (Dc8 : Fld Z Z.heap cM "java/time/temporal/ChronoField" "range" "Ljava/time/temporal/ValueRange;" (.ref vM)) (Dc9 : Exa Z Z.heap vM "java/time/temporal/ValueRange") (Dc10 : Fld Z Z.heap vM "java/time/temporal/ValueRange" "minSmallest" "J" (.long (1 : Int64))) (Dc11 : Fld Z Z.heap vM "java/time/temporal/ValueRange" "maxLargest" "J" (.long (12 : Int64))) (Dc12 : Sta Z Z.heap "java/time/temporal/ChronoField" "DAY_OF_MONTH" "Ljava/time/temporal/ChronoField;" (.ref cD)) (Dc13 : Exa Z Z.heap cD "java/time/temporal/ChronoField") (Dc14 : Fld Z Z.heap cD "java/time/temporal/ChronoField" "range" "Ljava/time/temporal/ValueRange;" (.ref vD)) (Dc15 : Exa Z Z.heap vD "java/time/temporal/ValueRange") (Dc16 : Fld Z Z.heap vD "java/time/temporal/ValueRange" "minSmallest" "J" (.long (1 : Int64))) (Dc17 : Fld Z Z.heap vD "java/time/temporal/ValueRange" "maxLargest" "J" (.long (31 : Int64))) (Dc18 : Sta Z Z.heap "java/time/temporal/ChronoField" "EPOCH_DAY" "Ljava/time/temporal/ChronoField;" (.ref cE)) (Dc19 : Exa Z Z.heap cE "java/time/temporal/ChronoField") (Dc20 : Fld Z Z.heap cE "java/time/temporal/ChronoField" "range" "Ljava/time/temporal/ValueRange;" (.ref vE)) (Dc21 : Exa Z Z.heap vE "java/time/temporal/ValueRange") (Dc22 : Fld Z Z.heap vE "java/time/temporal/ValueRange" "minSmallest" "J" (.long (-365243219162 : Int64))) (Dc23 : Fld Z Z.heap vE "java/time/temporal/ValueRange" "maxLargest" "J" (.long (365241780471 : Int64))) (Dc24 : Sta Z Z.heap "java/time/chrono/IsoChronology" "INSTANCE" "Ljava/time/chrono/IsoChronology;" (.ref ic)) (Dc25 : Exa Z Z.heap ic "java/time/chrono/IsoChronology") :
    MetFree l (⟨"java/time/LocalDate", "ofEpochDay", "(J)Ljava/time/LocalDate;"⟩ : MethodName) (head1 (Jvm.Cond.code (⟨"java/time/LocalDate", "ofEpochDay", "(J)Ljava/time/LocalDate;"⟩ : MethodName) jdk_2323_method_8_code 14 (some (.object "java/time/LocalDate")) :: ws) ({ frames := 4, cells := 1, slots := 3, locals := 57 } : Room)) (fun as' U => as' = #[(.long x)] ∧ Z.Warmed39 U.vm ∧ U.heap = h0) (fun _ _ _ _ _ => True) (fun _ U o U' => ∃ v L, o = .returned v ∧ Q_rmOf Z x cY vY cM vM cD vD cE vE ic h0 n0 v U'.heap L ∧ FrameEnd U o U' L ({ frames := 4, cells := 1, slots := 3, locals := 57 } : Room).cells ({ frames := 4, cells := 1, slots := 3, locals := 57 } : Room).slots) := by
  refine MetFree.of_bodySF (plainFor_of_name pn_46) hisR ?_
  intro p e s m args below meth c s₁ Bd hml0 hP hK
  obtain ⟨rfl, hZ, hh⟩ := hP
  have hx := Bd.exec
  have hby := Bd.bytes
  have hml : c.maxLocals = 14 := hml0
  have hown : s.vm.findClass "java/time/LocalDate" = some m.cls := findClass_of_methodNamed Bd.named
  have hnm := (name_of_methodNamed Bd.named Bd.method).1
  have X0 : Stand p l e ({ frames := 4, cells := 1, slots := 3, locals := 57 } : Room) s m #[(.long x)] below meth c s₁ [] 0 0 := Stand.of_body Bd
  have e0 : s₁.heap = h0 := by rw [← hh, Bd.state]; rfl
  have N0 := Fr.nil n0
  refine Go.enter (F := EndN s (Q_rmOf Z x cY vY cM vM cD vD cE vE ic h0 n0) ({ frames := 4, cells := 1, slots := 3, locals := 57 } : Room).cells ({ frames := 4, cells := 1, slots := 3, locals := 57 } : Room).slots) (ef_194 m x) ?_
  show Go _ _ _ _ s₁ (mkF m 0 #[.val (.long x), .second, un, un, un, un, un, un, un, un, un, un, un, un] [])
  have F1 : Sta Z h0 "java/time/temporal/ChronoField" "EPOCH_DAY" "Ljava/time/temporal/ChronoField;" (.ref cE) := Dc18.ext O0.2
  obtain ⟨T2, X2, e2, st2⟩ := getS2 X0 hx hZ hown (host := "") (Or.inl (ow hw 199 rfl)) Via.refl e0 F1 (g := (mkF m 0 #[.val (.long x), .second, un, un, un, un, un, un, un, un, un, un, un, un] [])) rfl (hb hby d31_0)
  refine Go.by st2 ?_
  show Go _ _ _ _ T2 (mkF m 3 #[.val (.long x), .second, un, un, un, un, un, un, un, un, un, un, un, un] [(.ref cE)])
  refine Go.lload1 4 X2 hx (hb hby d31_3) rfl rfl ?_
  have li3 : (-365243219162 : Int64).toInt = -365243219162 := by decide
  have li4 : (365241780471 : Int64).toInt = 365241780471 := by decide
  have F5 : Exa Z h0 cE "java/time/temporal/ChronoField" := Dc19.ext O0.2
  have F6 : Fld Z h0 cE "java/time/temporal/ChronoField" "range" "Ljava/time/temporal/ValueRange;" (.ref vE) := Dc20.ext O0.2
  have F7 : Exa Z h0 vE "java/time/temporal/ValueRange" := Dc21.ext O0.2
  have F8 : Fld Z h0 vE "java/time/temporal/ValueRange" "minSmallest" "J" (.long (-365243219162 : Int64)) := Dc22.ext O0.2
  have F9 : Fld Z h0 vE "java/time/temporal/ValueRange" "maxLargest" "J" (.long (365241780471 : Int64)) := Dc23.ext O0.2
  obtain ⟨cq10, kq10, q10a, q10b, q10c⟩ := isOf hZ e2 F5
  obtain ⟨_, _, ⟨T10, L10, k10, n10⟩, -, X10, ⟨Lc10, hQ10, l10, y10, z10⟩, st10⟩ := X2.virtualBack hx (y := (⟨"java/time/temporal/ChronoField", "checkValidValue", "(J)J"⟩ : MethodName)) (z := (⟨"java/time/temporal/ChronoField", "checkValidValue", "(J)J"⟩ : MethodName)) hown (mvT hZ (ow hw 67 rfl)) (mvT hZ (ow hw 68 rfl)) (notFace_of_selects (args := #[]) (mvT hZ (ow hw 70 rfl))) (mvT hZ (ow hw 70 rfl)) (mvT hZ (ow hw 69 rfl)) (by decide) (backOf (W := 0) (rmChk l Z a0 hw [] cE vE x (-365243219162 : Int64) (365241780471 : Int64) h0 n0 Z0 F5 F6 F7 F8 F9 (u_nlt64 (by omega)) (u_nlt64 (by omega))) hZ (ow hw 71 rfl) (ow hw 66 rfl) (by decide) (by decide)) q10a q10c (g := (mkF m 4 #[.val (.long x), .second, un, un, un, un, un, un, un, un, un, un, un, un] [(.long x), (.ref cE)])) rfl (by rw [hml]; rfl) (Steps.refl _) (argsL := [(.long x)]) (rest := []) (lenOf pd_197 rfl) rfl (by show 2 * 0 + _ ≤ _; exact Nat.le_of_eq rfl) (hb hby d31_4) (fun _ _ => ⟨rfl, e2, (by decide : 0 + 0 ≤ _), (by decide : 0 + 0 ≤ _)⟩)
  dsimp only [Pt.U, Pt.locs, Pt.cells, Pt.slots] at X10 l10 y10 z10 st10 hQ10
  subst l10 y10 z10
  obtain ⟨rfl, N10q, e10⟩ := hQ10
  have N10 := Fr.app N0 N10q
  refine Go.to st10 ?_
  show Go _ _ _ _ T10 (mkF m 7 #[.val (.long x), .second, un, un, un, un, un, un, un, un, un, un, un, un] [(.long x)])
  refine Go.pop2L 8 X10 hx (hb hby d31_7) rfl ?_
  refine Go.lload1 9 X10 hx (hb hby d31_8) rfl rfl ?_
  refine Go.by (fun _ gk => X10.ldc2J hx hown (mvT hZ (ow hw 157 rfl)) (g := (mkF m 9 #[.val (.long x), .second, un, un, un, un, un, un, un, un, un, un, un, un] [(.long x)])) rfl (hb hby d31_9) gk) ?_
  show Go _ _ _ _ T10 (mkF m 12 #[.val (.long x), .second, un, un, un, un, un, un, un, un, un, un, un, un] [(.long (719528 : Int64)), (.long x)])
  refine Go.ladd 13 X10 hx (hb hby d31_12) rfl ?_
  have li11 : (719528 : Int64).toInt = 719528 := by decide
  obtain ⟨n12, h_n12⟩ : ∃ z, z = (x + (719528 : Int64)) := ⟨_, rfl⟩
  rw [← h_n12]
  show Go _ _ _ _ T10 (mkF m 13 #[.val (.long x), .second, un, un, un, un, un, un, un, un, un, un, un, un] [(.long n12)])
  have e_n12 : n12.toInt = x.toInt + (719528 : Int64).toInt := by rw [h_n12]; exact x_ladd (by omega) (by omega)
  refine Go.lstore1 14 X10 hx (L' := #[.val (.long x), .second, .val (.long n12), .second, un, un, un, un, un, un, un, un, un, un]) (hb hby d31_13) rfl rfl ?_
  refine Go.lload1 15 X10 hx (hb hby d31_14) rfl rfl ?_
  refine Go.by (fun _ gk => X10.ldc2J hx hown (mvT hZ (ow hw 200 rfl)) (g := (mkF m 15 #[.val (.long x), .second, .val (.long n12), .second, un, un, un, un, un, un, un, un, un, un] [(.long n12)])) rfl (hb hby d31_15) gk) ?_
  show Go _ _ _ _ T10 (mkF m 18 #[.val (.long x), .second, .val (.long n12), .second, un, un, un, un, un, un, un, un, un, un] [(.long (60 : Int64)), (.long n12)])
  refine Go.lsub 19 X10 hx (hb hby d31_18) rfl ?_
  have li13 : (60 : Int64).toInt = 60 := by decide
  obtain ⟨n14, h_n14⟩ : ∃ z, z = (n12 - (60 : Int64)) := ⟨_, rfl⟩
  rw [← h_n14]
  show Go _ _ _ _ T10 (mkF m 19 #[.val (.long x), .second, .val (.long n12), .second, un, un, un, un, un, un, un, un, un, un] [(.long n14)])
  have e_n14 : n14.toInt = n12.toInt - (60 : Int64).toInt := by rw [h_n14]; exact x_lsub (by omega) (by omega)
  refine Go.lstore1 20 X10 hx (L' := #[.val (.long x), .second, .val (.long n14), .second, un, un, un, un, un, un, un, un, un, un]) (hb hby d31_19) rfl rfl ?_
  refine Go.lconst 21 X10 hx (0 : Int64) (hb hby d31_20) (by decide) rfl ?_
  refine Go.lstore2 23 X10 hx (L' := #[.val (.long x), .second, .val (.long n14), .second, .val (.long (0 : Int64)), .second, un, un, un, un, un, un, un, un]) (hb hby d31_21) rfl rfl ?_
  refine Go.lload1 24 X10 hx (hb hby d31_23) rfl rfl ?_
  refine Go.lconst 25 X10 hx (0 : Int64) (hb hby d31_24) (by decide) rfl ?_
  refine Go.lcmp 26 X10 hx (hb hby d31_25) rfl ?_
  have li15 : (0 : Int64).toInt = 0 := by decide
  by_cases hb16 : n14 < (0 : Int64)
  · refine Go.ifN 29 X10 hx (hb hby d31_26) (XT.ll_ge_f hb16) rfl ?_
    have i_hb16 := o_lt64 hb16
    refine Go.lload1 30 X10 hx (hb hby d31_29) rfl rfl ?_
    refine Go.lconst 31 X10 hx (1 : Int64) (hb hby d31_30) (by decide) rfl ?_
    refine Go.ladd 32 X10 hx (hb hby d31_31) rfl ?_
    have li17 : (1 : Int64).toInt = 1 := by decide
    obtain ⟨n18, h_n18⟩ : ∃ z, z = (n14 + (1 : Int64)) := ⟨_, rfl⟩
    rw [← h_n18]
    show Go _ _ _ _ T10 (mkF m 32 #[.val (.long x), .second, .val (.long n14), .second, .val (.long (0 : Int64)), .second, un, un, un, un, un, un, un, un] [(.long n18)])
    have e_n18 : n18.toInt = n14.toInt + (1 : Int64).toInt := by rw [h_n18]; exact x_ladd (by omega) (by omega)
    refine Go.by (fun _ gk => X10.ldc2J hx hown (mvT hZ (ow hw 202 rfl)) (g := (mkF m 32 #[.val (.long x), .second, .val (.long n14), .second, .val (.long (0 : Int64)), .second, un, un, un, un, un, un, un, un] [(.long n18)])) rfl (hb hby d31_32) gk) ?_
    show Go _ _ _ _ T10 (mkF m 35 #[.val (.long x), .second, .val (.long n14), .second, .val (.long (0 : Int64)), .second, un, un, un, un, un, un, un, un] [(.long (146097 : Int64)), (.long n18)])
    refine Go.ldiv 36 X10 hx (hb hby d31_35) (by decide) rfl ?_
    have li19 : (146097 : Int64).toInt = 146097 := by decide
    obtain ⟨n20, h_n20⟩ : ∃ z, z = (n18 / (146097 : Int64)) := ⟨_, rfl⟩
    rw [← h_n20]
    show Go _ _ _ _ T10 (mkF m 36 #[.val (.long x), .second, .val (.long n14), .second, .val (.long (0 : Int64)), .second, un, un, un, un, un, un, un, un] [(.long n20)])
    have e_n20 : n20.toInt = -((-n18.toInt) / 146097) := by rw [h_n20]; exact x_ldivP 146097 (by decide) (by decide) (by omega)
    refine Go.lconst 37 X10 hx (1 : Int64) (hb hby d31_36) (by decide) rfl ?_
    refine Go.lsub 38 X10 hx (hb hby d31_37) rfl ?_
    obtain ⟨n21, h_n21⟩ : ∃ z, z = (n20 - (1 : Int64)) := ⟨_, rfl⟩
    rw [← h_n21]
    show Go _ _ _ _ T10 (mkF m 38 #[.val (.long x), .second, .val (.long n14), .second, .val (.long (0 : Int64)), .second, un, un, un, un, un, un, un, un] [(.long n21)])
    have e_n21 : n21.toInt = n20.toInt - (1 : Int64).toInt := by rw [h_n21]; exact x_lsub (by omega) (by omega)
    refine Go.lstore2 40 X10 hx (L' := #[.val (.long x), .second, .val (.long n14), .second, .val (.long (0 : Int64)), .second, .val (.long n21), .second, un, un, un, un, un, un]) (hb hby d31_38) rfl rfl ?_
    refine Go.lload2 42 X10 hx (hb hby d31_40) rfl rfl ?_
    refine Go.by (fun _ gk => X10.ldc2J hx hown (mvT hZ (ow hw 139 rfl)) (g := (mkF m 42 #[.val (.long x), .second, .val (.long n14), .second, .val (.long (0 : Int64)), .second, .val (.long n21), .second, un, un, un, un, un, un] [(.long n21)])) rfl (hb hby d31_42) gk) ?_
    show Go _ _ _ _ T10 (mkF m 45 #[.val (.long x), .second, .val (.long n14), .second, .val (.long (0 : Int64)), .second, .val (.long n21), .second, un, un, un, un, un, un] [(.long (400 : Int64)), (.long n21)])
    refine Go.lmul 46 X10 hx (hb hby d31_45) rfl ?_
    have li22 : (400 : Int64).toInt = 400 := by decide
    obtain ⟨n23, h_n23⟩ : ∃ z, z = (n21 * (400 : Int64)) := ⟨_, rfl⟩
    rw [← h_n23]
    show Go _ _ _ _ T10 (mkF m 46 #[.val (.long x), .second, .val (.long n14), .second, .val (.long (0 : Int64)), .second, .val (.long n21), .second, un, un, un, un, un, un] [(.long n23)])
    have e_n23 : n23.toInt = n21.toInt * 400 := by rw [h_n23]; exact x_lmulR 400 (by decide) (by omega) (by omega)
    refine Go.lstore2 48 X10 hx (L' := #[.val (.long x), .second, .val (.long n14), .second, .val (.long n23), .second, .val (.long n21), .second, un, un, un, un, un, un]) (hb hby d31_46) rfl rfl ?_
    refine Go.lload1 49 X10 hx (hb hby d31_48) rfl rfl ?_
    refine Go.lload2 51 X10 hx (hb hby d31_49) rfl rfl ?_
    refine Go.lneg 52 X10 hx (hb hby d31_51) rfl ?_
    obtain ⟨n24, h_n24⟩ : ∃ z, z = (-n21) := ⟨_, rfl⟩
    rw [← h_n24]
    show Go _ _ _ _ T10 (mkF m 52 #[.val (.long x), .second, .val (.long n14), .second, .val (.long n23), .second, .val (.long n21), .second, un, un, un, un, un, un] [(.long n24), (.long n14)])
    have e_n24 : n24.toInt = -n21.toInt := by rw [h_n24]; exact x_lneg (by omega)
    refine Go.by (fun _ gk => X10.ldc2J hx hown (mvT hZ (ow hw 202 rfl)) (g := (mkF m 52 #[.val (.long x), .second, .val (.long n14), .second, .val (.long n23), .second, .val (.long n21), .second, un, un, un, un, un, un] [(.long n24), (.long n14)])) rfl (hb hby d31_52) gk) ?_
    show Go _ _ _ _ T10 (mkF m 55 #[.val (.long x), .second, .val (.long n14), .second, .val (.long n23), .second, .val (.long n21), .second, un, un, un, un, un, un] [(.long (146097 : Int64)), (.long n24), (.long n14)])
    refine Go.lmul 56 X10 hx (hb hby d31_55) rfl ?_
    obtain ⟨n25, h_n25⟩ : ∃ z, z = (n24 * (146097 : Int64)) := ⟨_, rfl⟩
    rw [← h_n25]
    show Go _ _ _ _ T10 (mkF m 56 #[.val (.long x), .second, .val (.long n14), .second, .val (.long n23), .second, .val (.long n21), .second, un, un, un, un, un, un] [(.long n25), (.long n14)])
    have e_n25 : n25.toInt = n24.toInt * 146097 := by rw [h_n25]; exact x_lmulR 146097 (by decide) (by omega) (by omega)
    refine Go.ladd 57 X10 hx (hb hby d31_56) rfl ?_
    obtain ⟨n26, h_n26⟩ : ∃ z, z = (n14 + n25) := ⟨_, rfl⟩
    rw [← h_n26]
    show Go _ _ _ _ T10 (mkF m 57 #[.val (.long x), .second, .val (.long n14), .second, .val (.long n23), .second, .val (.long n21), .second, un, un, un, un, un, un] [(.long n26)])
    have e_n26 : n26.toInt = n14.toInt + n25.toInt := by rw [h_n26]; exact x_ladd (by omega) (by omega)
    refine Go.lstore1 58 X10 hx (L' := #[.val (.long x), .second, .val (.long n26), .second, .val (.long n23), .second, .val (.long n21), .second, un, un, un, un, un, un]) (hb hby d31_57) rfl rfl ?_
    have hz : x.toInt + 719468 = n26.toInt + (n21.toInt) * 146097 ∧ 0 ≤ n26.toInt ∧ n26.toInt ≤ 40000000000 ∧ -1000000 ≤ (n21.toInt) ∧ (n21.toInt) ≤ 0 := (by omega)
    have ha : n23.toInt = 400 * (n21.toInt) := (by omega)
    clear e_n12 e_n14 i_hb16 e_n18 e_n20 e_n21 e_n23 e_n24 e_n25 e_n26
    refine Go.by (fun _ gk => X10.ldc2J hx hown (mvT hZ (ow hw 139 rfl)) (g := (mkF m 58 #[.val (.long x), .second, .val (.long n26), .second, .val (.long n23), .second, .val (.long n21), .second, un, un, un, un, un, un] [])) rfl (hb hby d31_58) gk) ?_
    show Go _ _ _ _ T10 (mkF m 61 #[.val (.long x), .second, .val (.long n26), .second, .val (.long n23), .second, .val (.long n21), .second, un, un, un, un, un, un] [(.long (400 : Int64))])
    refine Go.lload1 62 X10 hx (hb hby d31_61) rfl rfl ?_
    refine Go.lmul 63 X10 hx (hb hby d31_62) rfl ?_
    obtain ⟨n27, h_n27⟩ : ∃ z, z = ((400 : Int64) * n26) := ⟨_, rfl⟩
    rw [← h_n27]
    show Go _ _ _ _ T10 (mkF m 63 #[.val (.long x), .second, .val (.long n26), .second, .val (.long n23), .second, .val (.long n21), .second, un, un, un, un, un, un] [(.long n27)])
    have e_n27 : n27.toInt = 400 * n26.toInt := by rw [h_n27]; exact x_lmulL 400 (by decide) (by omega) (by omega)
    refine Go.by (fun _ gk => X10.ldc2J hx hown (mvT hZ (ow hw 201 rfl)) (g := (mkF m 63 #[.val (.long x), .second, .val (.long n26), .second, .val (.long n23), .second, .val (.long n21), .second, un, un, un, un, un, un] [(.long n27)])) rfl (hb hby d31_63) gk) ?_
    show Go _ _ _ _ T10 (mkF m 66 #[.val (.long x), .second, .val (.long n26), .second, .val (.long n23), .second, .val (.long n21), .second, un, un, un, un, un, un] [(.long (591 : Int64)), (.long n27)])
    refine Go.ladd 67 X10 hx (hb hby d31_66) rfl ?_
    have li28 : (591 : Int64).toInt = 591 := by decide
    obtain ⟨n29, h_n29⟩ : ∃ z, z = (n27 + (591 : Int64)) := ⟨_, rfl⟩
    rw [← h_n29]
    show Go _ _ _ _ T10 (mkF m 67 #[.val (.long x), .second, .val (.long n26), .second, .val (.long n23), .second, .val (.long n21), .second, un, un, un, un, un, un] [(.long n29)])
    have e_n29 : n29.toInt = n27.toInt + (591 : Int64).toInt := by rw [h_n29]; exact x_ladd (by omega) (by omega)
    refine Go.by (fun _ gk => X10.ldc2J hx hown (mvT hZ (ow hw 202 rfl)) (g := (mkF m 67 #[.val (.long x), .second, .val (.long n26), .second, .val (.long n23), .second, .val (.long n21), .second, un, un, un, un, un, un] [(.long n29)])) rfl (hb hby d31_67) gk) ?_
    show Go _ _ _ _ T10 (mkF m 70 #[.val (.long x), .second, .val (.long n26), .second, .val (.long n23), .second, .val (.long n21), .second, un, un, un, un, un, un] [(.long (146097 : Int64)), (.long n29)])
    refine Go.ldiv 71 X10 hx (hb hby d31_70) (by decide) rfl ?_
    obtain ⟨n30, h_n30⟩ : ∃ z, z = (n29 / (146097 : Int64)) := ⟨_, rfl⟩
    rw [← h_n30]
    show Go _ _ _ _ T10 (mkF m 71 #[.val (.long x), .second, .val (.long n26), .second, .val (.long n23), .second, .val (.long n21), .second, un, un, un, un, un, un] [(.long n30)])
    have e_n30 : n30.toInt = n29.toInt / 146097 := by rw [h_n30]; exact (x_ldiv 146097 (by decide) (by decide)).1 (by omega)
    refine Go.lstore2 73 X10 hx (L' := #[.val (.long x), .second, .val (.long n26), .second, .val (.long n23), .second, .val (.long n30), .second, un, un, un, un, un, un]) (hb hby d31_71) rfl rfl ?_
    have hy1 : n30.toInt = (400 * n26.toInt + 591) / 146097 := (by omega)
    have hy1b : 0 ≤ n30.toInt ∧ n30.toInt ≤ 110000000 := (by omega)
    clear e_n27 e_n29 e_n30
    refine Go.lload1 74 X10 hx (hb hby d31_73) rfl rfl ?_
    refine Go.by (fun _ gk => X10.ldc2J hx hown (mvT hZ (ow hw 133 rfl)) (g := (mkF m 74 #[.val (.long x), .second, .val (.long n26), .second, .val (.long n23), .second, .val (.long n30), .second, un, un, un, un, un, un] [(.long n26)])) rfl (hb hby d31_74) gk) ?_
    show Go _ _ _ _ T10 (mkF m 77 #[.val (.long x), .second, .val (.long n26), .second, .val (.long n23), .second, .val (.long n30), .second, un, un, un, un, un, un] [(.long (365 : Int64)), (.long n26)])
    refine Go.lload2 79 X10 hx (hb hby d31_77) rfl rfl ?_
    refine Go.lmul 80 X10 hx (hb hby d31_79) rfl ?_
    have li31 : (365 : Int64).toInt = 365 := by decide
    obtain ⟨n32, h_n32⟩ : ∃ z, z = ((365 : Int64) * n30) := ⟨_, rfl⟩
    rw [← h_n32]
    show Go _ _ _ _ T10 (mkF m 80 #[.val (.long x), .second, .val (.long n26), .second, .val (.long n23), .second, .val (.long n30), .second, un, un, un, un, un, un] [(.long n32), (.long n26)])
    have e_n32 : n32.toInt = 365 * n30.toInt := by rw [h_n32]; exact x_lmulL 365 (by decide) (by omega) (by omega)
    refine Go.lload2 82 X10 hx (hb hby d31_80) rfl rfl ?_
    refine Go.by (fun _ gk => X10.ldc2J hx hown (mvT hZ (ow hw 135 rfl)) (g := (mkF m 82 #[.val (.long x), .second, .val (.long n26), .second, .val (.long n23), .second, .val (.long n30), .second, un, un, un, un, un, un] [(.long n30), (.long n32), (.long n26)])) rfl (hb hby d31_82) gk) ?_
    show Go _ _ _ _ T10 (mkF m 85 #[.val (.long x), .second, .val (.long n26), .second, .val (.long n23), .second, .val (.long n30), .second, un, un, un, un, un, un] [(.long (4 : Int64)), (.long n30), (.long n32), (.long n26)])
    refine Go.ldiv 86 X10 hx (hb hby d31_85) (by decide) rfl ?_
    have li33 : (4 : Int64).toInt = 4 := by decide
    obtain ⟨n34, h_n34⟩ : ∃ z, z = (n30 / (4 : Int64)) := ⟨_, rfl⟩
    rw [← h_n34]
    show Go _ _ _ _ T10 (mkF m 86 #[.val (.long x), .second, .val (.long n26), .second, .val (.long n23), .second, .val (.long n30), .second, un, un, un, un, un, un] [(.long n34), (.long n32), (.long n26)])
    have e_n34 : n34.toInt = n30.toInt / 4 := by rw [h_n34]; exact (x_ldiv 4 (by decide) (by decide)).1 (by omega)
    refine Go.ladd 87 X10 hx (hb hby d31_86) rfl ?_
    obtain ⟨n35, h_n35⟩ : ∃ z, z = (n32 + n34) := ⟨_, rfl⟩
    rw [← h_n35]
    show Go _ _ _ _ T10 (mkF m 87 #[.val (.long x), .second, .val (.long n26), .second, .val (.long n23), .second, .val (.long n30), .second, un, un, un, un, un, un] [(.long n35), (.long n26)])
    have e_n35 : n35.toInt = n32.toInt + n34.toInt := by rw [h_n35]; exact x_ladd (by omega) (by omega)
    refine Go.lload2 89 X10 hx (hb hby d31_87) rfl rfl ?_
    refine Go.by (fun _ gk => X10.ldc2J hx hown (mvT hZ (ow hw 137 rfl)) (g := (mkF m 89 #[.val (.long x), .second, .val (.long n26), .second, .val (.long n23), .second, .val (.long n30), .second, un, un, un, un, un, un] [(.long n30), (.long n35), (.long n26)])) rfl (hb hby d31_89) gk) ?_
    show Go _ _ _ _ T10 (mkF m 92 #[.val (.long x), .second, .val (.long n26), .second, .val (.long n23), .second, .val (.long n30), .second, un, un, un, un, un, un] [(.long (100 : Int64)), (.long n30), (.long n35), (.long n26)])
    refine Go.ldiv 93 X10 hx (hb hby d31_92) (by decide) rfl ?_
    have li36 : (100 : Int64).toInt = 100 := by decide
    obtain ⟨n37, h_n37⟩ : ∃ z, z = (n30 / (100 : Int64)) := ⟨_, rfl⟩
    rw [← h_n37]
    show Go _ _ _ _ T10 (mkF m 93 #[.val (.long x), .second, .val (.long n26), .second, .val (.long n23), .second, .val (.long n30), .second, un, un, un, un, un, un] [(.long n37), (.long n35), (.long n26)])
    have e_n37 : n37.toInt = n30.toInt / 100 := by rw [h_n37]; exact (x_ldiv 100 (by decide) (by decide)).1 (by omega)
    refine Go.lsub 94 X10 hx (hb hby d31_93) rfl ?_
    obtain ⟨n38, h_n38⟩ : ∃ z, z = (n35 - n37) := ⟨_, rfl⟩
    rw [← h_n38]
    show Go _ _ _ _ T10 (mkF m 94 #[.val (.long x), .second, .val (.long n26), .second, .val (.long n23), .second, .val (.long n30), .second, un, un, un, un, un, un] [(.long n38), (.long n26)])
    have e_n38 : n38.toInt = n35.toInt - n37.toInt := by rw [h_n38]; exact x_lsub (by omega) (by omega)
    refine Go.lload2 96 X10 hx (hb hby d31_94) rfl rfl ?_
    refine Go.by (fun _ gk => X10.ldc2J hx hown (mvT hZ (ow hw 139 rfl)) (g := (mkF m 96 #[.val (.long x), .second, .val (.long n26), .second, .val (.long n23), .second, .val (.long n30), .second, un, un, un, un, un, un] [(.long n30), (.long n38), (.long n26)])) rfl (hb hby d31_96) gk) ?_
    show Go _ _ _ _ T10 (mkF m 99 #[.val (.long x), .second, .val (.long n26), .second, .val (.long n23), .second, .val (.long n30), .second, un, un, un, un, un, un] [(.long (400 : Int64)), (.long n30), (.long n38), (.long n26)])
    refine Go.ldiv 100 X10 hx (hb hby d31_99) (by decide) rfl ?_
    obtain ⟨n39, h_n39⟩ : ∃ z, z = (n30 / (400 : Int64)) := ⟨_, rfl⟩
    rw [← h_n39]
    show Go _ _ _ _ T10 (mkF m 100 #[.val (.long x), .second, .val (.long n26), .second, .val (.long n23), .second, .val (.long n30), .second, un, un, un, un, un, un] [(.long n39), (.long n38), (.long n26)])
    have e_n39 : n39.toInt = n30.toInt / 400 := by rw [h_n39]; exact (x_ldiv 400 (by decide) (by decide)).1 (by omega)
    refine Go.ladd 101 X10 hx (hb hby d31_100) rfl ?_
    obtain ⟨n40, h_n40⟩ : ∃ z, z = (n38 + n39) := ⟨_, rfl⟩
    rw [← h_n40]
    show Go _ _ _ _ T10 (mkF m 101 #[.val (.long x), .second, .val (.long n26), .second, .val (.long n23), .second, .val (.long n30), .second, un, un, un, un, un, un] [(.long n40), (.long n26)])
    have e_n40 : n40.toInt = n38.toInt + n39.toInt := by rw [h_n40]; exact x_ladd (by omega) (by omega)
    refine Go.lsub 102 X10 hx (hb hby d31_101) rfl ?_
    obtain ⟨n41, h_n41⟩ : ∃ z, z = (n26 - n40) := ⟨_, rfl⟩
    rw [← h_n41]
    show Go _ _ _ _ T10 (mkF m 102 #[.val (.long x), .second, .val (.long n26), .second, .val (.long n23), .second, .val (.long n30), .second, un, un, un, un, un, un] [(.long n41)])
    have e_n41 : n41.toInt = n26.toInt - n40.toInt := by rw [h_n41]; exact x_lsub (by omega) (by omega)
    refine Go.lstore2 104 X10 hx (L' := #[.val (.long x), .second, .val (.long n26), .second, .val (.long n23), .second, .val (.long n30), .second, .val (.long n41), .second, un, un, un, un]) (hb hby d31_102) rfl rfl ?_
    refine Go.lload2 106 X10 hx (hb hby d31_104) rfl rfl ?_
    refine Go.lconst 107 X10 hx (0 : Int64) (hb hby d31_106) (by decide) rfl ?_
    refine Go.lcmp 108 X10 hx (hb hby d31_107) rfl ?_
    have est := own_est n26.toInt n30.toInt hz.2.1 hy1
    have hd1 : n41.toInt = n26.toInt - (365 * n30.toInt + n30.toInt / 4 - n30.toInt / 100 + n30.toInt / 400) := (by omega)
    rw [← hd1] at est
    clear e_n32 e_n34 e_n35 e_n37 e_n38 e_n39 e_n40 e_n41
    by_cases hb42 : n41 < (0 : Int64)
    · refine Go.ifN 111 X10 hx (hb hby d31_108) (XT.ll_ge_f hb42) rfl ?_
      have i_hb42 := o_lt64 hb42
      have h1 : n41.toInt < 0 := by omega
      have est2 := own_est2 n26.toInt n30.toInt (by rw [← hd1]; exact h1) (by rw [← hd1]; exact est.2)
      clear i_hb42
      refine Go.lload2 113 X10 hx (hb hby d31_111) rfl rfl ?_
      refine Go.lconst 114 X10 hx (1 : Int64) (hb hby d31_113) (by decide) rfl ?_
      refine Go.lsub 115 X10 hx (hb hby d31_114) rfl ?_
      obtain ⟨n43, h_n43⟩ : ∃ z, z = (n30 - (1 : Int64)) := ⟨_, rfl⟩
      rw [← h_n43]
      show Go _ _ _ _ T10 (mkF m 115 #[.val (.long x), .second, .val (.long n26), .second, .val (.long n23), .second, .val (.long n30), .second, .val (.long n41), .second, un, un, un, un] [(.long n43)])
      have e_n43 : n43.toInt = n30.toInt - (1 : Int64).toInt := by rw [h_n43]; exact x_lsub (by omega) (by omega)
      refine Go.lstore2 117 X10 hx (L' := #[.val (.long x), .second, .val (.long n26), .second, .val (.long n23), .second, .val (.long n43), .second, .val (.long n41), .second, un, un, un, un]) (hb hby d31_115) rfl rfl ?_
      refine Go.lload1 118 X10 hx (hb hby d31_117) rfl rfl ?_
      refine Go.by (fun _ gk => X10.ldc2J hx hown (mvT hZ (ow hw 133 rfl)) (g := (mkF m 118 #[.val (.long x), .second, .val (.long n26), .second, .val (.long n23), .second, .val (.long n43), .second, .val (.long n41), .second, un, un, un, un] [(.long n26)])) rfl (hb hby d31_118) gk) ?_
      show Go _ _ _ _ T10 (mkF m 121 #[.val (.long x), .second, .val (.long n26), .second, .val (.long n23), .second, .val (.long n43), .second, .val (.long n41), .second, un, un, un, un] [(.long (365 : Int64)), (.long n26)])
      refine Go.lload2 123 X10 hx (hb hby d31_121) rfl rfl ?_
      refine Go.lmul 124 X10 hx (hb hby d31_123) rfl ?_
      obtain ⟨n44, h_n44⟩ : ∃ z, z = ((365 : Int64) * n43) := ⟨_, rfl⟩
      rw [← h_n44]
      show Go _ _ _ _ T10 (mkF m 124 #[.val (.long x), .second, .val (.long n26), .second, .val (.long n23), .second, .val (.long n43), .second, .val (.long n41), .second, un, un, un, un] [(.long n44), (.long n26)])
      have e_n44 : n44.toInt = 365 * n43.toInt := by rw [h_n44]; exact x_lmulL 365 (by decide) (by omega) (by omega)
      refine Go.lload2 126 X10 hx (hb hby d31_124) rfl rfl ?_
      refine Go.by (fun _ gk => X10.ldc2J hx hown (mvT hZ (ow hw 135 rfl)) (g := (mkF m 126 #[.val (.long x), .second, .val (.long n26), .second, .val (.long n23), .second, .val (.long n43), .second, .val (.long n41), .second, un, un, un, un] [(.long n43), (.long n44), (.long n26)])) rfl (hb hby d31_126) gk) ?_
      show Go _ _ _ _ T10 (mkF m 129 #[.val (.long x), .second, .val (.long n26), .second, .val (.long n23), .second, .val (.long n43), .second, .val (.long n41), .second, un, un, un, un] [(.long (4 : Int64)), (.long n43), (.long n44), (.long n26)])
      refine Go.ldiv 130 X10 hx (hb hby d31_129) (by decide) rfl ?_
      obtain ⟨n45, h_n45⟩ : ∃ z, z = (n43 / (4 : Int64)) := ⟨_, rfl⟩
      rw [← h_n45]
      show Go _ _ _ _ T10 (mkF m 130 #[.val (.long x), .second, .val (.long n26), .second, .val (.long n23), .second, .val (.long n43), .second, .val (.long n41), .second, un, un, un, un] [(.long n45), (.long n44), (.long n26)])
      have e_n45 : n45.toInt = n43.toInt / 4 := by rw [h_n45]; exact (x_ldiv 4 (by decide) (by decide)).1 (by omega)
      refine Go.ladd 131 X10 hx (hb hby d31_130) rfl ?_
      obtain ⟨n46, h_n46⟩ : ∃ z, z = (n44 + n45) := ⟨_, rfl⟩
      rw [← h_n46]
      show Go _ _ _ _ T10 (mkF m 131 #[.val (.long x), .second, .val (.long n26), .second, .val (.long n23), .second, .val (.long n43), .second, .val (.long n41), .second, un, un, un, un] [(.long n46), (.long n26)])
      have e_n46 : n46.toInt = n44.toInt + n45.toInt := by rw [h_n46]; exact x_ladd (by omega) (by omega)
      refine Go.lload2 133 X10 hx (hb hby d31_131) rfl rfl ?_
      refine Go.by (fun _ gk => X10.ldc2J hx hown (mvT hZ (ow hw 137 rfl)) (g := (mkF m 133 #[.val (.long x), .second, .val (.long n26), .second, .val (.long n23), .second, .val (.long n43), .second, .val (.long n41), .second, un, un, un, un] [(.long n43), (.long n46), (.long n26)])) rfl (hb hby d31_133) gk) ?_
      show Go _ _ _ _ T10 (mkF m 136 #[.val (.long x), .second, .val (.long n26), .second, .val (.long n23), .second, .val (.long n43), .second, .val (.long n41), .second, un, un, un, un] [(.long (100 : Int64)), (.long n43), (.long n46), (.long n26)])
      refine Go.ldiv 137 X10 hx (hb hby d31_136) (by decide) rfl ?_
      obtain ⟨n47, h_n47⟩ : ∃ z, z = (n43 / (100 : Int64)) := ⟨_, rfl⟩
      rw [← h_n47]
      show Go _ _ _ _ T10 (mkF m 137 #[.val (.long x), .second, .val (.long n26), .second, .val (.long n23), .second, .val (.long n43), .second, .val (.long n41), .second, un, un, un, un] [(.long n47), (.long n46), (.long n26)])
      have e_n47 : n47.toInt = n43.toInt / 100 := by rw [h_n47]; exact (x_ldiv 100 (by decide) (by decide)).1 (by omega)
      refine Go.lsub 138 X10 hx (hb hby d31_137) rfl ?_
      obtain ⟨n48, h_n48⟩ : ∃ z, z = (n46 - n47) := ⟨_, rfl⟩
      rw [← h_n48]
      show Go _ _ _ _ T10 (mkF m 138 #[.val (.long x), .second, .val (.long n26), .second, .val (.long n23), .second, .val (.long n43), .second, .val (.long n41), .second, un, un, un, un] [(.long n48), (.long n26)])
      have e_n48 : n48.toInt = n46.toInt - n47.toInt := by rw [h_n48]; exact x_lsub (by omega) (by omega)
      refine Go.lload2 140 X10 hx (hb hby d31_138) rfl rfl ?_
      refine Go.by (fun _ gk => X10.ldc2J hx hown (mvT hZ (ow hw 139 rfl)) (g := (mkF m 140 #[.val (.long x), .second, .val (.long n26), .second, .val (.long n23), .second, .val (.long n43), .second, .val (.long n41), .second, un, un, un, un] [(.long n43), (.long n48), (.long n26)])) rfl (hb hby d31_140) gk) ?_
      show Go _ _ _ _ T10 (mkF m 143 #[.val (.long x), .second, .val (.long n26), .second, .val (.long n23), .second, .val (.long n43), .second, .val (.long n41), .second, un, un, un, un] [(.long (400 : Int64)), (.long n43), (.long n48), (.long n26)])
      refine Go.ldiv 144 X10 hx (hb hby d31_143) (by decide) rfl ?_
      obtain ⟨n49, h_n49⟩ : ∃ z, z = (n43 / (400 : Int64)) := ⟨_, rfl⟩
      rw [← h_n49]
      show Go _ _ _ _ T10 (mkF m 144 #[.val (.long x), .second, .val (.long n26), .second, .val (.long n23), .second, .val (.long n43), .second, .val (.long n41), .second, un, un, un, un] [(.long n49), (.long n48), (.long n26)])
      have e_n49 : n49.toInt = n43.toInt / 400 := by rw [h_n49]; exact (x_ldiv 400 (by decide) (by decide)).1 (by omega)
      refine Go.ladd 145 X10 hx (hb hby d31_144) rfl ?_
      obtain ⟨n50, h_n50⟩ : ∃ z, z = (n48 + n49) := ⟨_, rfl⟩
      rw [← h_n50]
      show Go _ _ _ _ T10 (mkF m 145 #[.val (.long x), .second, .val (.long n26), .second, .val (.long n23), .second, .val (.long n43), .second, .val (.long n41), .second, un, un, un, un] [(.long n50), (.long n26)])
      have e_n50 : n50.toInt = n48.toInt + n49.toInt := by rw [h_n50]; exact x_ladd (by omega) (by omega)
      refine Go.lsub 146 X10 hx (hb hby d31_145) rfl ?_
      obtain ⟨n51, h_n51⟩ : ∃ z, z = (n26 - n50) := ⟨_, rfl⟩
      rw [← h_n51]
      show Go _ _ _ _ T10 (mkF m 146 #[.val (.long x), .second, .val (.long n26), .second, .val (.long n23), .second, .val (.long n43), .second, .val (.long n41), .second, un, un, un, un] [(.long n51)])
      have e_n51 : n51.toInt = n26.toInt - n50.toInt := by rw [h_n51]; exact x_lsub (by omega) (by omega)
      refine Go.lstore2 148 X10 hx (L' := #[.val (.long x), .second, .val (.long n26), .second, .val (.long n23), .second, .val (.long n43), .second, .val (.long n51), .second, un, un, un, un]) (hb hby d31_146) rfl rfl ?_
      have hy2 : n43.toInt = n30.toInt - 1 := (by omega)
      rw [← hy2] at est2
      have hd2 : n51.toInt = n26.toInt - (365 * n43.toInt + n43.toInt / 4 - n43.toInt / 100 + n43.toInt / 400) := (by omega)
      rw [← hd2] at est2
      have hlo : 0 ≤ n51.toInt ∧ n51.toInt ≤ 365 := ⟨est2.2, est2.1⟩
      have hyb : -1 ≤ n43.toInt ∧ n43.toInt ≤ 110000000 := by omega
      clear e_n43 e_n44 e_n45 e_n46 e_n47 e_n48 e_n49 e_n50 e_n51
      refine Go.lload2 150 X10 hx (hb hby d31_148) rfl rfl ?_
      refine Go.lload2 152 X10 hx (hb hby d31_150) rfl rfl ?_
      refine Go.ladd 153 X10 hx (hb hby d31_152) rfl ?_
      obtain ⟨n52, h_n52⟩ : ∃ z, z = (n43 + n23) := ⟨_, rfl⟩
      rw [← h_n52]
      show Go _ _ _ _ T10 (mkF m 153 #[.val (.long x), .second, .val (.long n26), .second, .val (.long n23), .second, .val (.long n43), .second, .val (.long n51), .second, un, un, un, un] [(.long n52)])
      have e_n52 : n52.toInt = n43.toInt + n23.toInt := by rw [h_n52]; exact x_ladd (by omega) (by omega)
      refine Go.lstore2 155 X10 hx (L' := #[.val (.long x), .second, .val (.long n26), .second, .val (.long n23), .second, .val (.long n52), .second, .val (.long n51), .second, un, un, un, un]) (hb hby d31_153) rfl rfl ?_
      refine Go.lload2 157 X10 hx (hb hby d31_155) rfl rfl ?_
      refine Go.l2i 158 X10 hx (hb hby d31_157) rfl ?_
      obtain ⟨n53, h_n53⟩ : ∃ z, z = (n51.toInt32) := ⟨_, rfl⟩
      rw [← h_n53]
      show Go _ _ _ _ T10 (mkF m 158 #[.val (.long x), .second, .val (.long n26), .second, .val (.long n23), .second, .val (.long n52), .second, .val (.long n51), .second, un, un, un, un] [(.int n53)])
      have e_n53 : n53.toInt = n51.toInt := by rw [h_n53]; exact x_l2i (by omega) (by omega)
      refine Go.istore2 160 X10 hx (L' := #[.val (.long x), .second, .val (.long n26), .second, .val (.long n23), .second, .val (.long n52), .second, .val (.long n51), .second, iv n53, un, un, un]) (hb hby d31_158) rfl rfl ?_
      refine Go.iload2 162 X10 hx (hb hby d31_160) rfl rfl ?_
      refine Go.iconst 163 X10 hx (5 : Int32) (hb hby d31_162) (by decide) rfl ?_
      refine Go.imul 164 X10 hx (hb hby d31_163) rfl ?_
      have li54 : (5 : Int32).toInt = 5 := by decide
      obtain ⟨n55, h_n55⟩ : ∃ z, z = (n53 * (5 : Int32)) := ⟨_, rfl⟩
      rw [← h_n55]
      show Go _ _ _ _ T10 (mkF m 164 #[.val (.long x), .second, .val (.long n26), .second, .val (.long n23), .second, .val (.long n52), .second, .val (.long n51), .second, iv n53, un, un, un] [(.int n55)])
      have e_n55 : n55.toInt = n53.toInt * 5 := by rw [h_n55]; exact x_imulR 5 (by decide) (by omega) (by omega)
      refine Go.iconst 165 X10 hx (2 : Int32) (hb hby d31_164) (by decide) rfl ?_
      refine Go.iadd 166 X10 hx (hb hby d31_165) rfl ?_
      have li56 : (2 : Int32).toInt = 2 := by decide
      obtain ⟨n57, h_n57⟩ : ∃ z, z = (n55 + (2 : Int32)) := ⟨_, rfl⟩
      rw [← h_n57]
      show Go _ _ _ _ T10 (mkF m 166 #[.val (.long x), .second, .val (.long n26), .second, .val (.long n23), .second, .val (.long n52), .second, .val (.long n51), .second, iv n53, un, un, un] [(.int n57)])
      have e_n57 : n57.toInt = n55.toInt + (2 : Int32).toInt := by rw [h_n57]; exact x_iadd (by omega) (by omega)
      refine Go.sipush 169 X10 hx (153 : Int32) (hb hby d31_166) (by decide) rfl ?_
      refine Go.idiv 170 X10 hx (hb hby d31_169) (by decide) rfl ?_
      have li58 : (153 : Int32).toInt = 153 := by decide
      obtain ⟨n59, h_n59⟩ : ∃ z, z = (n57 / (153 : Int32)) := ⟨_, rfl⟩
      rw [← h_n59]
      show Go _ _ _ _ T10 (mkF m 170 #[.val (.long x), .second, .val (.long n26), .second, .val (.long n23), .second, .val (.long n52), .second, .val (.long n51), .second, iv n53, un, un, un] [(.int n59)])
      have e_n59 : n59.toInt = n57.toInt / 153 := by rw [h_n59]; exact (x_idiv 153 (by decide) (by decide)).1 (by omega)
      refine Go.istore2 172 X10 hx (L' := #[.val (.long x), .second, .val (.long n26), .second, .val (.long n23), .second, .val (.long n52), .second, .val (.long n51), .second, iv n53, iv n59, un, un]) (hb hby d31_170) rfl rfl ?_
      refine Go.iload2 174 X10 hx (hb hby d31_172) rfl rfl ?_
      refine Go.iconst 175 X10 hx (3 : Int32) (hb hby d31_174) (by decide) rfl ?_
      refine Go.iadd 176 X10 hx (hb hby d31_175) rfl ?_
      have li60 : (3 : Int32).toInt = 3 := by decide
      obtain ⟨n61, h_n61⟩ : ∃ z, z = (n59 + (3 : Int32)) := ⟨_, rfl⟩
      rw [← h_n61]
      show Go _ _ _ _ T10 (mkF m 176 #[.val (.long x), .second, .val (.long n26), .second, .val (.long n23), .second, .val (.long n52), .second, .val (.long n51), .second, iv n53, iv n59, un, un] [(.int n61)])
      have e_n61 : n61.toInt = n59.toInt + (3 : Int32).toInt := by rw [h_n61]; exact x_iadd (by omega) (by omega)
      refine Go.istore2 178 X10 hx (L' := #[.val (.long x), .second, .val (.long n26), .second, .val (.long n23), .second, .val (.long n52), .second, .val (.long n51), .second, iv n53, iv n59, iv n61, un]) (hb hby d31_176) rfl rfl ?_
      refine Go.iload2 180 X10 hx (hb hby d31_178) rfl rfl ?_
      refine Go.bipush 182 X10 hx (12 : Int32) (hb hby d31_180) (by decide) rfl ?_
      have hmm : n59.toInt = (n51.toInt * 5 + 2) / 153 := (by omega)
      have li62 : (12 : Int32).toInt = 12 := by decide
      by_cases hb63 : (12 : Int32) < n61
      · refine Go.icmpN 185 X10 hx (hb hby d31_182) (XT.ii_le_f hb63) rfl ?_
        have i_hb63 := o_lt32 hb63
        refine Go.iinc 188 X10 hx (-12 : Int32) (L' := #[.val (.long x), .second, .val (.long n26), .second, .val (.long n23), .second, .val (.long n52), .second, .val (.long n51), .second, iv n53, iv n59, iv (n61 + (-12 : Int32)), un]) (hb hby d31_185) (by decide) rfl rfl rfl ?_
        have li64 : (-12 : Int32).toInt = -12 := by decide
        obtain ⟨n65, h_n65⟩ : ∃ z, z = (n61 + (-12 : Int32)) := ⟨_, rfl⟩
        rw [← h_n65]
        show Go _ _ _ _ T10 (mkF m 188 #[.val (.long x), .second, .val (.long n26), .second, .val (.long n23), .second, .val (.long n52), .second, .val (.long n51), .second, iv n53, iv n59, iv n65, un] [])
        have e_n65 : n65.toInt = n61.toInt + (-12 : Int32).toInt := by rw [h_n65]; exact x_iadd (by omega) (by omega)
        refine Go.iload2 190 X10 hx (hb hby d31_188) rfl rfl ?_
        refine Go.iload2 192 X10 hx (hb hby d31_190) rfl rfl ?_
        refine Go.sipush 195 X10 hx (306 : Int32) (hb hby d31_192) (by decide) rfl ?_
        refine Go.imul 196 X10 hx (hb hby d31_195) rfl ?_
        have li66 : (306 : Int32).toInt = 306 := by decide
        obtain ⟨n67, h_n67⟩ : ∃ z, z = (n59 * (306 : Int32)) := ⟨_, rfl⟩
        rw [← h_n67]
        show Go _ _ _ _ T10 (mkF m 196 #[.val (.long x), .second, .val (.long n26), .second, .val (.long n23), .second, .val (.long n52), .second, .val (.long n51), .second, iv n53, iv n59, iv n65, un] [(.int n67), (.int n53)])
        have e_n67 : n67.toInt = n59.toInt * 306 := by rw [h_n67]; exact x_imulR 306 (by decide) (by omega) (by omega)
        refine Go.iconst 197 X10 hx (5 : Int32) (hb hby d31_196) (by decide) rfl ?_
        refine Go.iadd 198 X10 hx (hb hby d31_197) rfl ?_
        obtain ⟨n68, h_n68⟩ : ∃ z, z = (n67 + (5 : Int32)) := ⟨_, rfl⟩
        rw [← h_n68]
        show Go _ _ _ _ T10 (mkF m 198 #[.val (.long x), .second, .val (.long n26), .second, .val (.long n23), .second, .val (.long n52), .second, .val (.long n51), .second, iv n53, iv n59, iv n65, un] [(.int n68), (.int n53)])
        have e_n68 : n68.toInt = n67.toInt + (5 : Int32).toInt := by rw [h_n68]; exact x_iadd (by omega) (by omega)
        refine Go.bipush 200 X10 hx (10 : Int32) (hb hby d31_198) (by decide) rfl ?_
        refine Go.idiv 201 X10 hx (hb hby d31_200) (by decide) rfl ?_
        have li69 : (10 : Int32).toInt = 10 := by decide
        obtain ⟨n70, h_n70⟩ : ∃ z, z = (n68 / (10 : Int32)) := ⟨_, rfl⟩
        rw [← h_n70]
        show Go _ _ _ _ T10 (mkF m 201 #[.val (.long x), .second, .val (.long n26), .second, .val (.long n23), .second, .val (.long n52), .second, .val (.long n51), .second, iv n53, iv n59, iv n65, un] [(.int n70), (.int n53)])
        have e_n70 : n70.toInt = n68.toInt / 10 := by rw [h_n70]; exact (x_idiv 10 (by decide) (by decide)).1 (by omega)
        refine Go.isub 202 X10 hx (hb hby d31_201) rfl ?_
        obtain ⟨n71, h_n71⟩ : ∃ z, z = (n53 - n70) := ⟨_, rfl⟩
        rw [← h_n71]
        show Go _ _ _ _ T10 (mkF m 202 #[.val (.long x), .second, .val (.long n26), .second, .val (.long n23), .second, .val (.long n52), .second, .val (.long n51), .second, iv n53, iv n59, iv n65, un] [(.int n71)])
        have e_n71 : n71.toInt = n53.toInt - n70.toInt := by rw [h_n71]; exact x_isub (by omega) (by omega)
        refine Go.iconst 203 X10 hx (1 : Int32) (hb hby d31_202) (by decide) rfl ?_
        refine Go.iadd 204 X10 hx (hb hby d31_203) rfl ?_
        have li72 : (1 : Int32).toInt = 1 := by decide
        obtain ⟨n73, h_n73⟩ : ∃ z, z = (n71 + (1 : Int32)) := ⟨_, rfl⟩
        rw [← h_n73]
        show Go _ _ _ _ T10 (mkF m 204 #[.val (.long x), .second, .val (.long n26), .second, .val (.long n23), .second, .val (.long n52), .second, .val (.long n51), .second, iv n53, iv n59, iv n65, un] [(.int n73)])
        have e_n73 : n73.toInt = n71.toInt + (1 : Int32).toInt := by rw [h_n73]; exact x_iadd (by omega) (by omega)
        refine Go.istore2 206 X10 hx (L' := #[.val (.long x), .second, .val (.long n26), .second, .val (.long n23), .second, .val (.long n52), .second, .val (.long n51), .second, iv n53, iv n59, iv n65, iv n73]) (hb hby d31_204) rfl rfl ?_
        refine Go.iload2 208 X10 hx (hb hby d31_206) rfl rfl ?_
        refine Go.sipush 211 X10 hx (306 : Int32) (hb hby d31_208) (by decide) rfl ?_
        by_cases hb74 : n53 < (306 : Int32)
        · refine Go.icmpY 220 X10 hx (hb hby d31_211) (XT.ii_lt_t hb74) (by decide) (by decide) ?_
          have i_hb74 := o_lt32 hb74
          have hmq : (n59.toInt ≤ 9 ∧ n65.toInt = n59.toInt + 3) ∨ (9 < n59.toInt ∧ n65.toInt = n59.toInt - 9) := (by omega)
          have hyq : (n51.toInt < 306 ∧ n52.toInt = n43.toInt + 400 * (n21.toInt)) ∨ (306 ≤ n51.toInt ∧ n52.toInt = n43.toInt + 400 * (n21.toInt) + 1) := (by omega)
          have hdq : n73.toInt = n51.toInt - (n59.toInt * 306 + 5) / 10 + 1 := (by omega)
          have of := own_of n26.toInt x.toInt n43.toInt n51.toInt n59.toInt n65.toInt n73.toInt n52.toInt (n21.toInt) hz.1 hz.2.1 hd2 hlo.1 hlo.2 hmm hdq hmq hyq
          have hyr : -100000000 ≤ n52.toInt ∧ n52.toInt ≤ 100000000 := by omega
          clear e_n52 e_n53 e_n55 e_n57 e_n59 e_n61 i_hb63 e_n65 e_n67 e_n68 e_n70 e_n71 e_n73 i_hb74
          obtain ⟨b, g75⟩ : ∃ z, z = h0.size := ⟨_, rfl⟩
          have ge_b : n0 ≤ b := Nat.le_trans Z0 (Nat.le_of_eq g75.symm)
          have sz_b : h0.size ≤ b := Nat.le_trans (Keep.refl h0 []).1 (Nat.le_of_eq g75.symm)
          obtain ⟨T75, h75, X75, e75, E75, A75, D75, -, st75⟩ := newO X10 hx hZ hown (ow hw 109 rfl) (ow hw 110 rfl) (ow hw 63 rfl) e10 (g := (mkF m 220 #[.val (.long x), .second, .val (.long n26), .second, .val (.long n23), .second, .val (.long n52), .second, .val (.long n51), .second, iv n53, iv n59, iv n65, iv n73] [])) rfl (hb hby d31_220) (by decide) (by decide)
          rw [← g75] at A75 D75 st75
          have F_year_b : Fld Z h75 b "java/time/LocalDate" "year" "I" (.int 0) := D75 (Or.inr (ow hw 117 rfl)) (ty := .int) (by decide)
          have F_month_b : Fld Z h75 b "java/time/LocalDate" "month" "S" (.int 0) := D75 (Or.inr (ow hw 119 rfl)) (ty := .short) (by decide)
          have F_day_b : Fld Z h75 b "java/time/LocalDate" "day" "S" (.int 0) := D75 (Or.inr (ow hw 121 rfl)) (ty := .short) (by decide)
          refine Go.by st75 ?_
          show Go _ _ _ _ T75 (mkF m 223 #[.val (.long x), .second, .val (.long n26), .second, .val (.long n23), .second, .val (.long n52), .second, .val (.long n51), .second, iv n53, iv n59, iv n65, iv n73] [(.ref b)])
          refine Go.dup 224 X75 hx (hb hby d31_223) rfl rfl ?_
          refine Go.lload2 226 X75 hx (hb hby d31_224) rfl rfl ?_
          refine Go.l2i 227 X75 hx (hb hby d31_226) rfl ?_
          obtain ⟨n76, h_n76⟩ : ∃ z, z = (n52.toInt32) := ⟨_, rfl⟩
          rw [← h_n76]
          show Go _ _ _ _ T75 (mkF m 227 #[.val (.long x), .second, .val (.long n26), .second, .val (.long n23), .second, .val (.long n52), .second, .val (.long n51), .second, iv n53, iv n59, iv n65, iv n73] [(.int n76), (.ref b), (.ref b)])
          have e_n76 : n76.toInt = n52.toInt := by rw [h_n76]; exact x_l2i (by omega) (by omega)
          refine Go.iload2 229 X75 hx (hb hby d31_227) rfl rfl ?_
          refine Go.iload2 231 X75 hx (hb hby d31_229) rfl rfl ?_
          have F77 : n0 ≤ h75.size := Nat.le_trans Z0 E75.1
          obtain ⟨_, _, ⟨T78, L78, k78, n78⟩, -, X78, ⟨Lc78, hQ78, l78, y78, z78⟩, st78⟩ := X75.specialBack hx (y := (⟨"java/time/LocalDate", "<init>", "(III)V"⟩ : MethodName)) rfl hown (mvT hZ (ow hw 111 rfl)) (mvT hZ (ow hw 112 rfl)) (mvT hZ (ow hw 114 rfl)) (by decide) (backOf (W := 1) (rmLd l Z a0 hw [] b n76 n65 n73 h75 n0 F77 A75 F_year_b F_month_b F_day_b ge_b (by omega) (by omega)) hZ (ow hw 114 rfl) (ow hw 63 rfl) (by decide) (by decide)) (g := (mkF m 231 #[.val (.long x), .second, .val (.long n26), .second, .val (.long n23), .second, .val (.long n52), .second, .val (.long n51), .second, iv n53, iv n59, iv n65, iv n73] [(.int n73), (.int n65), (.int n76), (.ref b), (.ref b)])) rfl (by rw [hml]; rfl) (Steps.refl _) (a := b) (argsL := [(.int n76), (.int n65), (.int n73)]) (rest := [(.ref b)]) (lenOf pd_329 rfl) rfl (by show 2 * 0 + _ ≤ _; exact Nat.le_of_eq rfl) (hb hby d31_231) (fun _ _ => ⟨rfl, e75, (by decide : 1 + 0 ≤ _), (by decide : 3 + 0 ≤ _)⟩)
          dsimp only [Pt.U, Pt.locs, Pt.cells, Pt.slots] at X78 l78 y78 z78 st78 hQ78
          subst l78 y78 z78
          obtain ⟨rfl, N78q, K78, Q78_0, Q78_1, Q78_2, Q78_3⟩ := hQ78
          have N78 := Fr.app N10 N78q
          refine Go.to st78 ?_
          show Go _ _ _ _ T78 (mkF m 234 #[.val (.long x), .second, .val (.long n26), .second, .val (.long n23), .second, .val (.long n52), .second, .val (.long n51), .second, iv n53, iv n59, iv n65, iv n73] [(.ref b)])
          rw [← e_n76] at of hyr
          have F79 : Keep h0 h75 [] := (Keep.refl h0 []).ext E75
          have F80 : Keep h0 T78.heap [] := F79.trans K78 (allS (Or.inr sz_b) all0)
          exact Go.retA X78 hx Bd.notSynchronized Bd.returns rfl rfl (hb hby d31_234) ⟨b, n76, n65, n73, rfl, N78, F80, Q78_0, Q78_1, Q78_2, Q78_3, of.1, hyr, ⟨of.2.1, of.2.2.1⟩, of.2.2.2⟩ (by decide) (by decide)
        · refine Go.icmpN 214 X10 hx (hb hby d31_211) (XT.ii_lt_f hb74) rfl ?_
          have i_hb74 := o_nlt32 hb74
          refine Go.lload2 216 X10 hx (hb hby d31_214) rfl rfl ?_
          refine Go.lconst 217 X10 hx (1 : Int64) (hb hby d31_216) (by decide) rfl ?_
          refine Go.ladd 218 X10 hx (hb hby d31_217) rfl ?_
          obtain ⟨n81, h_n81⟩ : ∃ z, z = (n52 + (1 : Int64)) := ⟨_, rfl⟩
          rw [← h_n81]
          show Go _ _ _ _ T10 (mkF m 218 #[.val (.long x), .second, .val (.long n26), .second, .val (.long n23), .second, .val (.long n52), .second, .val (.long n51), .second, iv n53, iv n59, iv n65, iv n73] [(.long n81)])
          have e_n81 : n81.toInt = n52.toInt + (1 : Int64).toInt := by rw [h_n81]; exact x_ladd (by omega) (by omega)
          refine Go.lstore2 220 X10 hx (L' := #[.val (.long x), .second, .val (.long n26), .second, .val (.long n23), .second, .val (.long n81), .second, .val (.long n51), .second, iv n53, iv n59, iv n65, iv n73]) (hb hby d31_218) rfl rfl ?_
          have hmq : (n59.toInt ≤ 9 ∧ n65.toInt = n59.toInt + 3) ∨ (9 < n59.toInt ∧ n65.toInt = n59.toInt - 9) := (by omega)
          have hyq : (n51.toInt < 306 ∧ n81.toInt = n43.toInt + 400 * (n21.toInt)) ∨ (306 ≤ n51.toInt ∧ n81.toInt = n43.toInt + 400 * (n21.toInt) + 1) := (by omega)
          have hdq : n73.toInt = n51.toInt - (n59.toInt * 306 + 5) / 10 + 1 := (by omega)
          have of := own_of n26.toInt x.toInt n43.toInt n51.toInt n59.toInt n65.toInt n73.toInt n81.toInt (n21.toInt) hz.1 hz.2.1 hd2 hlo.1 hlo.2 hmm hdq hmq hyq
          have hyr : -100000000 ≤ n81.toInt ∧ n81.toInt ≤ 100000000 := by omega
          clear e_n52 e_n53 e_n55 e_n57 e_n59 e_n61 i_hb63 e_n65 e_n67 e_n68 e_n70 e_n71 e_n73 i_hb74 e_n81
          obtain ⟨b, g82⟩ : ∃ z, z = h0.size := ⟨_, rfl⟩
          have ge_b : n0 ≤ b := Nat.le_trans Z0 (Nat.le_of_eq g82.symm)
          have sz_b : h0.size ≤ b := Nat.le_trans (Keep.refl h0 []).1 (Nat.le_of_eq g82.symm)
          obtain ⟨T82, h82, X82, e82, E82, A82, D82, -, st82⟩ := newO X10 hx hZ hown (ow hw 109 rfl) (ow hw 110 rfl) (ow hw 63 rfl) e10 (g := (mkF m 220 #[.val (.long x), .second, .val (.long n26), .second, .val (.long n23), .second, .val (.long n81), .second, .val (.long n51), .second, iv n53, iv n59, iv n65, iv n73] [])) rfl (hb hby d31_220) (by decide) (by decide)
          rw [← g82] at A82 D82 st82
          have F_year_b : Fld Z h82 b "java/time/LocalDate" "year" "I" (.int 0) := D82 (Or.inr (ow hw 117 rfl)) (ty := .int) (by decide)
          have F_month_b : Fld Z h82 b "java/time/LocalDate" "month" "S" (.int 0) := D82 (Or.inr (ow hw 119 rfl)) (ty := .short) (by decide)
          have F_day_b : Fld Z h82 b "java/time/LocalDate" "day" "S" (.int 0) := D82 (Or.inr (ow hw 121 rfl)) (ty := .short) (by decide)
          refine Go.by st82 ?_
          show Go _ _ _ _ T82 (mkF m 223 #[.val (.long x), .second, .val (.long n26), .second, .val (.long n23), .second, .val (.long n81), .second, .val (.long n51), .second, iv n53, iv n59, iv n65, iv n73] [(.ref b)])
          refine Go.dup 224 X82 hx (hb hby d31_223) rfl rfl ?_
          refine Go.lload2 226 X82 hx (hb hby d31_224) rfl rfl ?_
          refine Go.l2i 227 X82 hx (hb hby d31_226) rfl ?_
          obtain ⟨n83, h_n83⟩ : ∃ z, z = (n81.toInt32) := ⟨_, rfl⟩
          rw [← h_n83]
          show Go _ _ _ _ T82 (mkF m 227 #[.val (.long x), .second, .val (.long n26), .second, .val (.long n23), .second, .val (.long n81), .second, .val (.long n51), .second, iv n53, iv n59, iv n65, iv n73] [(.int n83), (.ref b), (.ref b)])
          have e_n83 : n83.toInt = n81.toInt := by rw [h_n83]; exact x_l2i (by omega) (by omega)
          refine Go.iload2 229 X82 hx (hb hby d31_227) rfl rfl ?_
          refine Go.iload2 231 X82 hx (hb hby d31_229) rfl rfl ?_
          have F84 : n0 ≤ h82.size := Nat.le_trans Z0 E82.1
          obtain ⟨_, _, ⟨T85, L85, k85, n85⟩, -, X85, ⟨Lc85, hQ85, l85, y85, z85⟩, st85⟩ := X82.specialBack hx (y := (⟨"java/time/LocalDate", "<init>", "(III)V"⟩ : MethodName)) rfl hown (mvT hZ (ow hw 111 rfl)) (mvT hZ (ow hw 112 rfl)) (mvT hZ (ow hw 114 rfl)) (by decide) (backOf (W := 1) (rmLd l Z a0 hw [] b n83 n65 n73 h82 n0 F84 A82 F_year_b F_month_b F_day_b ge_b (by omega) (by omega)) hZ (ow hw 114 rfl) (ow hw 63 rfl) (by decide) (by decide)) (g := (mkF m 231 #[.val (.long x), .second, .val (.long n26), .second, .val (.long n23), .second, .val (.long n81), .second, .val (.long n51), .second, iv n53, iv n59, iv n65, iv n73] [(.int n73), (.int n65), (.int n83), (.ref b), (.ref b)])) rfl (by rw [hml]; rfl) (Steps.refl _) (a := b) (argsL := [(.int n83), (.int n65), (.int n73)]) (rest := [(.ref b)]) (lenOf pd_329 rfl) rfl (by show 2 * 0 + _ ≤ _; exact Nat.le_of_eq rfl) (hb hby d31_231) (fun _ _ => ⟨rfl, e82, (by decide : 1 + 0 ≤ _), (by decide : 3 + 0 ≤ _)⟩)
          dsimp only [Pt.U, Pt.locs, Pt.cells, Pt.slots] at X85 l85 y85 z85 st85 hQ85
          subst l85 y85 z85
          obtain ⟨rfl, N85q, K85, Q85_0, Q85_1, Q85_2, Q85_3⟩ := hQ85
          have N85 := Fr.app N10 N85q
          refine Go.to st85 ?_
          show Go _ _ _ _ T85 (mkF m 234 #[.val (.long x), .second, .val (.long n26), .second, .val (.long n23), .second, .val (.long n81), .second, .val (.long n51), .second, iv n53, iv n59, iv n65, iv n73] [(.ref b)])
          rw [← e_n83] at of hyr
          have F86 : Keep h0 h82 [] := (Keep.refl h0 []).ext E82
          have F87 : Keep h0 T85.heap [] := F86.trans K85 (allS (Or.inr sz_b) all0)
          exact Go.retA X85 hx Bd.notSynchronized Bd.returns rfl rfl (hb hby d31_234) ⟨b, n83, n65, n73, rfl, N85, F87, Q85_0, Q85_1, Q85_2, Q85_3, of.1, hyr, ⟨of.2.1, of.2.2.1⟩, of.2.2.2⟩ (by decide) (by decide)
      · refine Go.icmpY 188 X10 hx (hb hby d31_182) (XT.ii_le_t hb63) (by decide) (by decide) ?_
        have i_hb63 := o_nlt32 hb63
        refine Go.iload2 190 X10 hx (hb hby d31_188) rfl rfl ?_
        refine Go.iload2 192 X10 hx (hb hby d31_190) rfl rfl ?_
        refine Go.sipush 195 X10 hx (306 : Int32) (hb hby d31_192) (by decide) rfl ?_
        refine Go.imul 196 X10 hx (hb hby d31_195) rfl ?_
        have li88 : (306 : Int32).toInt = 306 := by decide
        obtain ⟨n89, h_n89⟩ : ∃ z, z = (n59 * (306 : Int32)) := ⟨_, rfl⟩
        rw [← h_n89]
        show Go _ _ _ _ T10 (mkF m 196 #[.val (.long x), .second, .val (.long n26), .second, .val (.long n23), .second, .val (.long n52), .second, .val (.long n51), .second, iv n53, iv n59, iv n61, un] [(.int n89), (.int n53)])
        have e_n89 : n89.toInt = n59.toInt * 306 := by rw [h_n89]; exact x_imulR 306 (by decide) (by omega) (by omega)
        refine Go.iconst 197 X10 hx (5 : Int32) (hb hby d31_196) (by decide) rfl ?_
        refine Go.iadd 198 X10 hx (hb hby d31_197) rfl ?_
        obtain ⟨n90, h_n90⟩ : ∃ z, z = (n89 + (5 : Int32)) := ⟨_, rfl⟩
        rw [← h_n90]
        show Go _ _ _ _ T10 (mkF m 198 #[.val (.long x), .second, .val (.long n26), .second, .val (.long n23), .second, .val (.long n52), .second, .val (.long n51), .second, iv n53, iv n59, iv n61, un] [(.int n90), (.int n53)])
        have e_n90 : n90.toInt = n89.toInt + (5 : Int32).toInt := by rw [h_n90]; exact x_iadd (by omega) (by omega)
        refine Go.bipush 200 X10 hx (10 : Int32) (hb hby d31_198) (by decide) rfl ?_
        refine Go.idiv 201 X10 hx (hb hby d31_200) (by decide) rfl ?_
        have li91 : (10 : Int32).toInt = 10 := by decide
        obtain ⟨n92, h_n92⟩ : ∃ z, z = (n90 / (10 : Int32)) := ⟨_, rfl⟩
        rw [← h_n92]
        show Go _ _ _ _ T10 (mkF m 201 #[.val (.long x), .second, .val (.long n26), .second, .val (.long n23), .second, .val (.long n52), .second, .val (.long n51), .second, iv n53, iv n59, iv n61, un] [(.int n92), (.int n53)])
        have e_n92 : n92.toInt = n90.toInt / 10 := by rw [h_n92]; exact (x_idiv 10 (by decide) (by decide)).1 (by omega)
        refine Go.isub 202 X10 hx (hb hby d31_201) rfl ?_
        obtain ⟨n93, h_n93⟩ : ∃ z, z = (n53 - n92) := ⟨_, rfl⟩
        rw [← h_n93]
        show Go _ _ _ _ T10 (mkF m 202 #[.val (.long x), .second, .val (.long n26), .second, .val (.long n23), .second, .val (.long n52), .second, .val (.long n51), .second, iv n53, iv n59, iv n61, un] [(.int n93)])
        have e_n93 : n93.toInt = n53.toInt - n92.toInt := by rw [h_n93]; exact x_isub (by omega) (by omega)
        refine Go.iconst 203 X10 hx (1 : Int32) (hb hby d31_202) (by decide) rfl ?_
        refine Go.iadd 204 X10 hx (hb hby d31_203) rfl ?_
        have li94 : (1 : Int32).toInt = 1 := by decide
        obtain ⟨n95, h_n95⟩ : ∃ z, z = (n93 + (1 : Int32)) := ⟨_, rfl⟩
        rw [← h_n95]
        show Go _ _ _ _ T10 (mkF m 204 #[.val (.long x), .second, .val (.long n26), .second, .val (.long n23), .second, .val (.long n52), .second, .val (.long n51), .second, iv n53, iv n59, iv n61, un] [(.int n95)])
        have e_n95 : n95.toInt = n93.toInt + (1 : Int32).toInt := by rw [h_n95]; exact x_iadd (by omega) (by omega)
        refine Go.istore2 206 X10 hx (L' := #[.val (.long x), .second, .val (.long n26), .second, .val (.long n23), .second, .val (.long n52), .second, .val (.long n51), .second, iv n53, iv n59, iv n61, iv n95]) (hb hby d31_204) rfl rfl ?_
        refine Go.iload2 208 X10 hx (hb hby d31_206) rfl rfl ?_
        refine Go.sipush 211 X10 hx (306 : Int32) (hb hby d31_208) (by decide) rfl ?_
        by_cases hb96 : n53 < (306 : Int32)
        · refine Go.icmpY 220 X10 hx (hb hby d31_211) (XT.ii_lt_t hb96) (by decide) (by decide) ?_
          have i_hb96 := o_lt32 hb96
          have hmq : (n59.toInt ≤ 9 ∧ n61.toInt = n59.toInt + 3) ∨ (9 < n59.toInt ∧ n61.toInt = n59.toInt - 9) := (by omega)
          have hyq : (n51.toInt < 306 ∧ n52.toInt = n43.toInt + 400 * (n21.toInt)) ∨ (306 ≤ n51.toInt ∧ n52.toInt = n43.toInt + 400 * (n21.toInt) + 1) := (by omega)
          have hdq : n95.toInt = n51.toInt - (n59.toInt * 306 + 5) / 10 + 1 := (by omega)
          have of := own_of n26.toInt x.toInt n43.toInt n51.toInt n59.toInt n61.toInt n95.toInt n52.toInt (n21.toInt) hz.1 hz.2.1 hd2 hlo.1 hlo.2 hmm hdq hmq hyq
          have hyr : -100000000 ≤ n52.toInt ∧ n52.toInt ≤ 100000000 := by omega
          clear e_n52 e_n53 e_n55 e_n57 e_n59 e_n61 i_hb63 e_n89 e_n90 e_n92 e_n93 e_n95 i_hb96
          obtain ⟨b, g97⟩ : ∃ z, z = h0.size := ⟨_, rfl⟩
          have ge_b : n0 ≤ b := Nat.le_trans Z0 (Nat.le_of_eq g97.symm)
          have sz_b : h0.size ≤ b := Nat.le_trans (Keep.refl h0 []).1 (Nat.le_of_eq g97.symm)
          obtain ⟨T97, h97, X97, e97, E97, A97, D97, -, st97⟩ := newO X10 hx hZ hown (ow hw 109 rfl) (ow hw 110 rfl) (ow hw 63 rfl) e10 (g := (mkF m 220 #[.val (.long x), .second, .val (.long n26), .second, .val (.long n23), .second, .val (.long n52), .second, .val (.long n51), .second, iv n53, iv n59, iv n61, iv n95] [])) rfl (hb hby d31_220) (by decide) (by decide)
          rw [← g97] at A97 D97 st97
          have F_year_b : Fld Z h97 b "java/time/LocalDate" "year" "I" (.int 0) := D97 (Or.inr (ow hw 117 rfl)) (ty := .int) (by decide)
          have F_month_b : Fld Z h97 b "java/time/LocalDate" "month" "S" (.int 0) := D97 (Or.inr (ow hw 119 rfl)) (ty := .short) (by decide)
          have F_day_b : Fld Z h97 b "java/time/LocalDate" "day" "S" (.int 0) := D97 (Or.inr (ow hw 121 rfl)) (ty := .short) (by decide)
          refine Go.by st97 ?_
          show Go _ _ _ _ T97 (mkF m 223 #[.val (.long x), .second, .val (.long n26), .second, .val (.long n23), .second, .val (.long n52), .second, .val (.long n51), .second, iv n53, iv n59, iv n61, iv n95] [(.ref b)])
          refine Go.dup 224 X97 hx (hb hby d31_223) rfl rfl ?_
          refine Go.lload2 226 X97 hx (hb hby d31_224) rfl rfl ?_
          refine Go.l2i 227 X97 hx (hb hby d31_226) rfl ?_
          obtain ⟨n98, h_n98⟩ : ∃ z, z = (n52.toInt32) := ⟨_, rfl⟩
          rw [← h_n98]
          show Go _ _ _ _ T97 (mkF m 227 #[.val (.long x), .second, .val (.long n26), .second, .val (.long n23), .second, .val (.long n52), .second, .val (.long n51), .second, iv n53, iv n59, iv n61, iv n95] [(.int n98), (.ref b), (.ref b)])
          have e_n98 : n98.toInt = n52.toInt := by rw [h_n98]; exact x_l2i (by omega) (by omega)
          refine Go.iload2 229 X97 hx (hb hby d31_227) rfl rfl ?_
          refine Go.iload2 231 X97 hx (hb hby d31_229) rfl rfl ?_
          have F99 : n0 ≤ h97.size := Nat.le_trans Z0 E97.1
          obtain ⟨_, _, ⟨T100, L100, k100, n100⟩, -, X100, ⟨Lc100, hQ100, l100, y100, z100⟩, st100⟩ := X97.specialBack hx (y := (⟨"java/time/LocalDate", "<init>", "(III)V"⟩ : MethodName)) rfl hown (mvT hZ (ow hw 111 rfl)) (mvT hZ (ow hw 112 rfl)) (mvT hZ (ow hw 114 rfl)) (by decide) (backOf (W := 1) (rmLd l Z a0 hw [] b n98 n61 n95 h97 n0 F99 A97 F_year_b F_month_b F_day_b ge_b (by omega) (by omega)) hZ (ow hw 114 rfl) (ow hw 63 rfl) (by decide) (by decide)) (g := (mkF m 231 #[.val (.long x), .second, .val (.long n26), .second, .val (.long n23), .second, .val (.long n52), .second, .val (.long n51), .second, iv n53, iv n59, iv n61, iv n95] [(.int n95), (.int n61), (.int n98), (.ref b), (.ref b)])) rfl (by rw [hml]; rfl) (Steps.refl _) (a := b) (argsL := [(.int n98), (.int n61), (.int n95)]) (rest := [(.ref b)]) (lenOf pd_329 rfl) rfl (by show 2 * 0 + _ ≤ _; exact Nat.le_of_eq rfl) (hb hby d31_231) (fun _ _ => ⟨rfl, e97, (by decide : 1 + 0 ≤ _), (by decide : 3 + 0 ≤ _)⟩)
          dsimp only [Pt.U, Pt.locs, Pt.cells, Pt.slots] at X100 l100 y100 z100 st100 hQ100
          subst l100 y100 z100
          obtain ⟨rfl, N100q, K100, Q100_0, Q100_1, Q100_2, Q100_3⟩ := hQ100
          have N100 := Fr.app N10 N100q
          refine Go.to st100 ?_
          show Go _ _ _ _ T100 (mkF m 234 #[.val (.long x), .second, .val (.long n26), .second, .val (.long n23), .second, .val (.long n52), .second, .val (.long n51), .second, iv n53, iv n59, iv n61, iv n95] [(.ref b)])
          rw [← e_n98] at of hyr
          have F101 : Keep h0 h97 [] := (Keep.refl h0 []).ext E97
          have F102 : Keep h0 T100.heap [] := F101.trans K100 (allS (Or.inr sz_b) all0)
          exact Go.retA X100 hx Bd.notSynchronized Bd.returns rfl rfl (hb hby d31_234) ⟨b, n98, n61, n95, rfl, N100, F102, Q100_0, Q100_1, Q100_2, Q100_3, of.1, hyr, ⟨of.2.1, of.2.2.1⟩, of.2.2.2⟩ (by decide) (by decide)
        · refine Go.icmpN 214 X10 hx (hb hby d31_211) (XT.ii_lt_f hb96) rfl ?_
          have i_hb96 := o_nlt32 hb96
          refine Go.lload2 216 X10 hx (hb hby d31_214) rfl rfl ?_
          refine Go.lconst 217 X10 hx (1 : Int64) (hb hby d31_216) (by decide) rfl ?_
          refine Go.ladd 218 X10 hx (hb hby d31_217) rfl ?_
          obtain ⟨n103, h_n103⟩ : ∃ z, z = (n52 + (1 : Int64)) := ⟨_, rfl⟩
          rw [← h_n103]
          show Go _ _ _ _ T10 (mkF m 218 #[.val (.long x), .second, .val (.long n26), .second, .val (.long n23), .second, .val (.long n52), .second, .val (.long n51), .second, iv n53, iv n59, iv n61, iv n95] [(.long n103)])
          have e_n103 : n103.toInt = n52.toInt + (1 : Int64).toInt := by rw [h_n103]; exact x_ladd (by omega) (by omega)
          refine Go.lstore2 220 X10 hx (L' := #[.val (.long x), .second, .val (.long n26), .second, .val (.long n23), .second, .val (.long n103), .second, .val (.long n51), .second, iv n53, iv n59, iv n61, iv n95]) (hb hby d31_218) rfl rfl ?_
          have hmq : (n59.toInt ≤ 9 ∧ n61.toInt = n59.toInt + 3) ∨ (9 < n59.toInt ∧ n61.toInt = n59.toInt - 9) := (by omega)
          have hyq : (n51.toInt < 306 ∧ n103.toInt = n43.toInt + 400 * (n21.toInt)) ∨ (306 ≤ n51.toInt ∧ n103.toInt = n43.toInt + 400 * (n21.toInt) + 1) := (by omega)
          have hdq : n95.toInt = n51.toInt - (n59.toInt * 306 + 5) / 10 + 1 := (by omega)
          have of := own_of n26.toInt x.toInt n43.toInt n51.toInt n59.toInt n61.toInt n95.toInt n103.toInt (n21.toInt) hz.1 hz.2.1 hd2 hlo.1 hlo.2 hmm hdq hmq hyq
          have hyr : -100000000 ≤ n103.toInt ∧ n103.toInt ≤ 100000000 := by omega
          clear e_n52 e_n53 e_n55 e_n57 e_n59 e_n61 i_hb63 e_n89 e_n90 e_n92 e_n93 e_n95 i_hb96 e_n103
          obtain ⟨b, g104⟩ : ∃ z, z = h0.size := ⟨_, rfl⟩
          have ge_b : n0 ≤ b := Nat.le_trans Z0 (Nat.le_of_eq g104.symm)
          have sz_b : h0.size ≤ b := Nat.le_trans (Keep.refl h0 []).1 (Nat.le_of_eq g104.symm)
          obtain ⟨T104, h104, X104, e104, E104, A104, D104, -, st104⟩ := newO X10 hx hZ hown (ow hw 109 rfl) (ow hw 110 rfl) (ow hw 63 rfl) e10 (g := (mkF m 220 #[.val (.long x), .second, .val (.long n26), .second, .val (.long n23), .second, .val (.long n103), .second, .val (.long n51), .second, iv n53, iv n59, iv n61, iv n95] [])) rfl (hb hby d31_220) (by decide) (by decide)
          rw [← g104] at A104 D104 st104
          have F_year_b : Fld Z h104 b "java/time/LocalDate" "year" "I" (.int 0) := D104 (Or.inr (ow hw 117 rfl)) (ty := .int) (by decide)
          have F_month_b : Fld Z h104 b "java/time/LocalDate" "month" "S" (.int 0) := D104 (Or.inr (ow hw 119 rfl)) (ty := .short) (by decide)
          have F_day_b : Fld Z h104 b "java/time/LocalDate" "day" "S" (.int 0) := D104 (Or.inr (ow hw 121 rfl)) (ty := .short) (by decide)
          refine Go.by st104 ?_
          show Go _ _ _ _ T104 (mkF m 223 #[.val (.long x), .second, .val (.long n26), .second, .val (.long n23), .second, .val (.long n103), .second, .val (.long n51), .second, iv n53, iv n59, iv n61, iv n95] [(.ref b)])
          refine Go.dup 224 X104 hx (hb hby d31_223) rfl rfl ?_
          refine Go.lload2 226 X104 hx (hb hby d31_224) rfl rfl ?_
          refine Go.l2i 227 X104 hx (hb hby d31_226) rfl ?_
          obtain ⟨n105, h_n105⟩ : ∃ z, z = (n103.toInt32) := ⟨_, rfl⟩
          rw [← h_n105]
          show Go _ _ _ _ T104 (mkF m 227 #[.val (.long x), .second, .val (.long n26), .second, .val (.long n23), .second, .val (.long n103), .second, .val (.long n51), .second, iv n53, iv n59, iv n61, iv n95] [(.int n105), (.ref b), (.ref b)])
          have e_n105 : n105.toInt = n103.toInt := by rw [h_n105]; exact x_l2i (by omega) (by omega)
          refine Go.iload2 229 X104 hx (hb hby d31_227) rfl rfl ?_
          refine Go.iload2 231 X104 hx (hb hby d31_229) rfl rfl ?_
          have F106 : n0 ≤ h104.size := Nat.le_trans Z0 E104.1
          obtain ⟨_, _, ⟨T107, L107, k107, n107⟩, -, X107, ⟨Lc107, hQ107, l107, y107, z107⟩, st107⟩ := X104.specialBack hx (y := (⟨"java/time/LocalDate", "<init>", "(III)V"⟩ : MethodName)) rfl hown (mvT hZ (ow hw 111 rfl)) (mvT hZ (ow hw 112 rfl)) (mvT hZ (ow hw 114 rfl)) (by decide) (backOf (W := 1) (rmLd l Z a0 hw [] b n105 n61 n95 h104 n0 F106 A104 F_year_b F_month_b F_day_b ge_b (by omega) (by omega)) hZ (ow hw 114 rfl) (ow hw 63 rfl) (by decide) (by decide)) (g := (mkF m 231 #[.val (.long x), .second, .val (.long n26), .second, .val (.long n23), .second, .val (.long n103), .second, .val (.long n51), .second, iv n53, iv n59, iv n61, iv n95] [(.int n95), (.int n61), (.int n105), (.ref b), (.ref b)])) rfl (by rw [hml]; rfl) (Steps.refl _) (a := b) (argsL := [(.int n105), (.int n61), (.int n95)]) (rest := [(.ref b)]) (lenOf pd_329 rfl) rfl (by show 2 * 0 + _ ≤ _; exact Nat.le_of_eq rfl) (hb hby d31_231) (fun _ _ => ⟨rfl, e104, (by decide : 1 + 0 ≤ _), (by decide : 3 + 0 ≤ _)⟩)
          dsimp only [Pt.U, Pt.locs, Pt.cells, Pt.slots] at X107 l107 y107 z107 st107 hQ107
          subst l107 y107 z107
          obtain ⟨rfl, N107q, K107, Q107_0, Q107_1, Q107_2, Q107_3⟩ := hQ107
          have N107 := Fr.app N10 N107q
          refine Go.to st107 ?_
          show Go _ _ _ _ T107 (mkF m 234 #[.val (.long x), .second, .val (.long n26), .second, .val (.long n23), .second, .val (.long n103), .second, .val (.long n51), .second, iv n53, iv n59, iv n61, iv n95] [(.ref b)])
          rw [← e_n105] at of hyr
          have F108 : Keep h0 h104 [] := (Keep.refl h0 []).ext E104
          have F109 : Keep h0 T107.heap [] := F108.trans K107 (allS (Or.inr sz_b) all0)
          exact Go.retA X107 hx Bd.notSynchronized Bd.returns rfl rfl (hb hby d31_234) ⟨b, n105, n61, n95, rfl, N107, F109, Q107_0, Q107_1, Q107_2, Q107_3, of.1, hyr, ⟨of.2.1, of.2.2.1⟩, of.2.2.2⟩ (by decide) (by decide)
    · refine Go.ifY 148 X10 hx (hb hby d31_108) (XT.ll_ge_t hb42) (by decide) (by decide) ?_
      have i_hb42 := o_nlt64 hb42
      have hlo : 0 ≤ n41.toInt ∧ n41.toInt ≤ 365 := by omega
      have hyb : -1 ≤ n30.toInt ∧ n30.toInt ≤ 110000000 := by omega
      clear i_hb42
      refine Go.lload2 150 X10 hx (hb hby d31_148) rfl rfl ?_
      refine Go.lload2 152 X10 hx (hb hby d31_150) rfl rfl ?_
      refine Go.ladd 153 X10 hx (hb hby d31_152) rfl ?_
      obtain ⟨n110, h_n110⟩ : ∃ z, z = (n30 + n23) := ⟨_, rfl⟩
      rw [← h_n110]
      show Go _ _ _ _ T10 (mkF m 153 #[.val (.long x), .second, .val (.long n26), .second, .val (.long n23), .second, .val (.long n30), .second, .val (.long n41), .second, un, un, un, un] [(.long n110)])
      have e_n110 : n110.toInt = n30.toInt + n23.toInt := by rw [h_n110]; exact x_ladd (by omega) (by omega)
      refine Go.lstore2 155 X10 hx (L' := #[.val (.long x), .second, .val (.long n26), .second, .val (.long n23), .second, .val (.long n110), .second, .val (.long n41), .second, un, un, un, un]) (hb hby d31_153) rfl rfl ?_
      refine Go.lload2 157 X10 hx (hb hby d31_155) rfl rfl ?_
      refine Go.l2i 158 X10 hx (hb hby d31_157) rfl ?_
      obtain ⟨n111, h_n111⟩ : ∃ z, z = (n41.toInt32) := ⟨_, rfl⟩
      rw [← h_n111]
      show Go _ _ _ _ T10 (mkF m 158 #[.val (.long x), .second, .val (.long n26), .second, .val (.long n23), .second, .val (.long n110), .second, .val (.long n41), .second, un, un, un, un] [(.int n111)])
      have e_n111 : n111.toInt = n41.toInt := by rw [h_n111]; exact x_l2i (by omega) (by omega)
      refine Go.istore2 160 X10 hx (L' := #[.val (.long x), .second, .val (.long n26), .second, .val (.long n23), .second, .val (.long n110), .second, .val (.long n41), .second, iv n111, un, un, un]) (hb hby d31_158) rfl rfl ?_
      refine Go.iload2 162 X10 hx (hb hby d31_160) rfl rfl ?_
      refine Go.iconst 163 X10 hx (5 : Int32) (hb hby d31_162) (by decide) rfl ?_
      refine Go.imul 164 X10 hx (hb hby d31_163) rfl ?_
      have li112 : (5 : Int32).toInt = 5 := by decide
      obtain ⟨n113, h_n113⟩ : ∃ z, z = (n111 * (5 : Int32)) := ⟨_, rfl⟩
      rw [← h_n113]
      show Go _ _ _ _ T10 (mkF m 164 #[.val (.long x), .second, .val (.long n26), .second, .val (.long n23), .second, .val (.long n110), .second, .val (.long n41), .second, iv n111, un, un, un] [(.int n113)])
      have e_n113 : n113.toInt = n111.toInt * 5 := by rw [h_n113]; exact x_imulR 5 (by decide) (by omega) (by omega)
      refine Go.iconst 165 X10 hx (2 : Int32) (hb hby d31_164) (by decide) rfl ?_
      refine Go.iadd 166 X10 hx (hb hby d31_165) rfl ?_
      have li114 : (2 : Int32).toInt = 2 := by decide
      obtain ⟨n115, h_n115⟩ : ∃ z, z = (n113 + (2 : Int32)) := ⟨_, rfl⟩
      rw [← h_n115]
      show Go _ _ _ _ T10 (mkF m 166 #[.val (.long x), .second, .val (.long n26), .second, .val (.long n23), .second, .val (.long n110), .second, .val (.long n41), .second, iv n111, un, un, un] [(.int n115)])
      have e_n115 : n115.toInt = n113.toInt + (2 : Int32).toInt := by rw [h_n115]; exact x_iadd (by omega) (by omega)
      refine Go.sipush 169 X10 hx (153 : Int32) (hb hby d31_166) (by decide) rfl ?_
      refine Go.idiv 170 X10 hx (hb hby d31_169) (by decide) rfl ?_
      have li116 : (153 : Int32).toInt = 153 := by decide
      obtain ⟨n117, h_n117⟩ : ∃ z, z = (n115 / (153 : Int32)) := ⟨_, rfl⟩
      rw [← h_n117]
      show Go _ _ _ _ T10 (mkF m 170 #[.val (.long x), .second, .val (.long n26), .second, .val (.long n23), .second, .val (.long n110), .second, .val (.long n41), .second, iv n111, un, un, un] [(.int n117)])
      have e_n117 : n117.toInt = n115.toInt / 153 := by rw [h_n117]; exact (x_idiv 153 (by decide) (by decide)).1 (by omega)
      refine Go.istore2 172 X10 hx (L' := #[.val (.long x), .second, .val (.long n26), .second, .val (.long n23), .second, .val (.long n110), .second, .val (.long n41), .second, iv n111, iv n117, un, un]) (hb hby d31_170) rfl rfl ?_
      refine Go.iload2 174 X10 hx (hb hby d31_172) rfl rfl ?_
      refine Go.iconst 175 X10 hx (3 : Int32) (hb hby d31_174) (by decide) rfl ?_
      refine Go.iadd 176 X10 hx (hb hby d31_175) rfl ?_
      have li118 : (3 : Int32).toInt = 3 := by decide
      obtain ⟨n119, h_n119⟩ : ∃ z, z = (n117 + (3 : Int32)) := ⟨_, rfl⟩
      rw [← h_n119]
      show Go _ _ _ _ T10 (mkF m 176 #[.val (.long x), .second, .val (.long n26), .second, .val (.long n23), .second, .val (.long n110), .second, .val (.long n41), .second, iv n111, iv n117, un, un] [(.int n119)])
      have e_n119 : n119.toInt = n117.toInt + (3 : Int32).toInt := by rw [h_n119]; exact x_iadd (by omega) (by omega)
      refine Go.istore2 178 X10 hx (L' := #[.val (.long x), .second, .val (.long n26), .second, .val (.long n23), .second, .val (.long n110), .second, .val (.long n41), .second, iv n111, iv n117, iv n119, un]) (hb hby d31_176) rfl rfl ?_
      refine Go.iload2 180 X10 hx (hb hby d31_178) rfl rfl ?_
      refine Go.bipush 182 X10 hx (12 : Int32) (hb hby d31_180) (by decide) rfl ?_
      have hmm : n117.toInt = (n41.toInt * 5 + 2) / 153 := (by omega)
      have li120 : (12 : Int32).toInt = 12 := by decide
      by_cases hb121 : (12 : Int32) < n119
      · refine Go.icmpN 185 X10 hx (hb hby d31_182) (XT.ii_le_f hb121) rfl ?_
        have i_hb121 := o_lt32 hb121
        refine Go.iinc 188 X10 hx (-12 : Int32) (L' := #[.val (.long x), .second, .val (.long n26), .second, .val (.long n23), .second, .val (.long n110), .second, .val (.long n41), .second, iv n111, iv n117, iv (n119 + (-12 : Int32)), un]) (hb hby d31_185) (by decide) rfl rfl rfl ?_
        have li122 : (-12 : Int32).toInt = -12 := by decide
        obtain ⟨n123, h_n123⟩ : ∃ z, z = (n119 + (-12 : Int32)) := ⟨_, rfl⟩
        rw [← h_n123]
        show Go _ _ _ _ T10 (mkF m 188 #[.val (.long x), .second, .val (.long n26), .second, .val (.long n23), .second, .val (.long n110), .second, .val (.long n41), .second, iv n111, iv n117, iv n123, un] [])
        have e_n123 : n123.toInt = n119.toInt + (-12 : Int32).toInt := by rw [h_n123]; exact x_iadd (by omega) (by omega)
        refine Go.iload2 190 X10 hx (hb hby d31_188) rfl rfl ?_
        refine Go.iload2 192 X10 hx (hb hby d31_190) rfl rfl ?_
        refine Go.sipush 195 X10 hx (306 : Int32) (hb hby d31_192) (by decide) rfl ?_
        refine Go.imul 196 X10 hx (hb hby d31_195) rfl ?_
        have li124 : (306 : Int32).toInt = 306 := by decide
        obtain ⟨n125, h_n125⟩ : ∃ z, z = (n117 * (306 : Int32)) := ⟨_, rfl⟩
        rw [← h_n125]
        show Go _ _ _ _ T10 (mkF m 196 #[.val (.long x), .second, .val (.long n26), .second, .val (.long n23), .second, .val (.long n110), .second, .val (.long n41), .second, iv n111, iv n117, iv n123, un] [(.int n125), (.int n111)])
        have e_n125 : n125.toInt = n117.toInt * 306 := by rw [h_n125]; exact x_imulR 306 (by decide) (by omega) (by omega)
        refine Go.iconst 197 X10 hx (5 : Int32) (hb hby d31_196) (by decide) rfl ?_
        refine Go.iadd 198 X10 hx (hb hby d31_197) rfl ?_
        obtain ⟨n126, h_n126⟩ : ∃ z, z = (n125 + (5 : Int32)) := ⟨_, rfl⟩
        rw [← h_n126]
        show Go _ _ _ _ T10 (mkF m 198 #[.val (.long x), .second, .val (.long n26), .second, .val (.long n23), .second, .val (.long n110), .second, .val (.long n41), .second, iv n111, iv n117, iv n123, un] [(.int n126), (.int n111)])
        have e_n126 : n126.toInt = n125.toInt + (5 : Int32).toInt := by rw [h_n126]; exact x_iadd (by omega) (by omega)
        refine Go.bipush 200 X10 hx (10 : Int32) (hb hby d31_198) (by decide) rfl ?_
        refine Go.idiv 201 X10 hx (hb hby d31_200) (by decide) rfl ?_
        have li127 : (10 : Int32).toInt = 10 := by decide
        obtain ⟨n128, h_n128⟩ : ∃ z, z = (n126 / (10 : Int32)) := ⟨_, rfl⟩
        rw [← h_n128]
        show Go _ _ _ _ T10 (mkF m 201 #[.val (.long x), .second, .val (.long n26), .second, .val (.long n23), .second, .val (.long n110), .second, .val (.long n41), .second, iv n111, iv n117, iv n123, un] [(.int n128), (.int n111)])
        have e_n128 : n128.toInt = n126.toInt / 10 := by rw [h_n128]; exact (x_idiv 10 (by decide) (by decide)).1 (by omega)
        refine Go.isub 202 X10 hx (hb hby d31_201) rfl ?_
        obtain ⟨n129, h_n129⟩ : ∃ z, z = (n111 - n128) := ⟨_, rfl⟩
        rw [← h_n129]
        show Go _ _ _ _ T10 (mkF m 202 #[.val (.long x), .second, .val (.long n26), .second, .val (.long n23), .second, .val (.long n110), .second, .val (.long n41), .second, iv n111, iv n117, iv n123, un] [(.int n129)])
        have e_n129 : n129.toInt = n111.toInt - n128.toInt := by rw [h_n129]; exact x_isub (by omega) (by omega)
        refine Go.iconst 203 X10 hx (1 : Int32) (hb hby d31_202) (by decide) rfl ?_
        refine Go.iadd 204 X10 hx (hb hby d31_203) rfl ?_
        have li130 : (1 : Int32).toInt = 1 := by decide
        obtain ⟨n131, h_n131⟩ : ∃ z, z = (n129 + (1 : Int32)) := ⟨_, rfl⟩
        rw [← h_n131]
        show Go _ _ _ _ T10 (mkF m 204 #[.val (.long x), .second, .val (.long n26), .second, .val (.long n23), .second, .val (.long n110), .second, .val (.long n41), .second, iv n111, iv n117, iv n123, un] [(.int n131)])
        have e_n131 : n131.toInt = n129.toInt + (1 : Int32).toInt := by rw [h_n131]; exact x_iadd (by omega) (by omega)
        refine Go.istore2 206 X10 hx (L' := #[.val (.long x), .second, .val (.long n26), .second, .val (.long n23), .second, .val (.long n110), .second, .val (.long n41), .second, iv n111, iv n117, iv n123, iv n131]) (hb hby d31_204) rfl rfl ?_
        refine Go.iload2 208 X10 hx (hb hby d31_206) rfl rfl ?_
        refine Go.sipush 211 X10 hx (306 : Int32) (hb hby d31_208) (by decide) rfl ?_
        by_cases hb132 : n111 < (306 : Int32)
        · refine Go.icmpY 220 X10 hx (hb hby d31_211) (XT.ii_lt_t hb132) (by decide) (by decide) ?_
          have i_hb132 := o_lt32 hb132
          have hmq : (n117.toInt ≤ 9 ∧ n123.toInt = n117.toInt + 3) ∨ (9 < n117.toInt ∧ n123.toInt = n117.toInt - 9) := (by omega)
          have hyq : (n41.toInt < 306 ∧ n110.toInt = n30.toInt + 400 * (n21.toInt)) ∨ (306 ≤ n41.toInt ∧ n110.toInt = n30.toInt + 400 * (n21.toInt) + 1) := (by omega)
          have hdq : n131.toInt = n41.toInt - (n117.toInt * 306 + 5) / 10 + 1 := (by omega)
          have of := own_of n26.toInt x.toInt n30.toInt n41.toInt n117.toInt n123.toInt n131.toInt n110.toInt (n21.toInt) hz.1 hz.2.1 hd1 hlo.1 hlo.2 hmm hdq hmq hyq
          have hyr : -100000000 ≤ n110.toInt ∧ n110.toInt ≤ 100000000 := by omega
          clear e_n110 e_n111 e_n113 e_n115 e_n117 e_n119 i_hb121 e_n123 e_n125 e_n126 e_n128 e_n129 e_n131 i_hb132
          obtain ⟨b, g133⟩ : ∃ z, z = h0.size := ⟨_, rfl⟩
          have ge_b : n0 ≤ b := Nat.le_trans Z0 (Nat.le_of_eq g133.symm)
          have sz_b : h0.size ≤ b := Nat.le_trans (Keep.refl h0 []).1 (Nat.le_of_eq g133.symm)
          obtain ⟨T133, h133, X133, e133, E133, A133, D133, -, st133⟩ := newO X10 hx hZ hown (ow hw 109 rfl) (ow hw 110 rfl) (ow hw 63 rfl) e10 (g := (mkF m 220 #[.val (.long x), .second, .val (.long n26), .second, .val (.long n23), .second, .val (.long n110), .second, .val (.long n41), .second, iv n111, iv n117, iv n123, iv n131] [])) rfl (hb hby d31_220) (by decide) (by decide)
          rw [← g133] at A133 D133 st133
          have F_year_b : Fld Z h133 b "java/time/LocalDate" "year" "I" (.int 0) := D133 (Or.inr (ow hw 117 rfl)) (ty := .int) (by decide)
          have F_month_b : Fld Z h133 b "java/time/LocalDate" "month" "S" (.int 0) := D133 (Or.inr (ow hw 119 rfl)) (ty := .short) (by decide)
          have F_day_b : Fld Z h133 b "java/time/LocalDate" "day" "S" (.int 0) := D133 (Or.inr (ow hw 121 rfl)) (ty := .short) (by decide)
          refine Go.by st133 ?_
          show Go _ _ _ _ T133 (mkF m 223 #[.val (.long x), .second, .val (.long n26), .second, .val (.long n23), .second, .val (.long n110), .second, .val (.long n41), .second, iv n111, iv n117, iv n123, iv n131] [(.ref b)])
          refine Go.dup 224 X133 hx (hb hby d31_223) rfl rfl ?_
          refine Go.lload2 226 X133 hx (hb hby d31_224) rfl rfl ?_
          refine Go.l2i 227 X133 hx (hb hby d31_226) rfl ?_
          obtain ⟨n134, h_n134⟩ : ∃ z, z = (n110.toInt32) := ⟨_, rfl⟩
          rw [← h_n134]
          show Go _ _ _ _ T133 (mkF m 227 #[.val (.long x), .second, .val (.long n26), .second, .val (.long n23), .second, .val (.long n110), .second, .val (.long n41), .second, iv n111, iv n117, iv n123, iv n131] [(.int n134), (.ref b), (.ref b)])
          have e_n134 : n134.toInt = n110.toInt := by rw [h_n134]; exact x_l2i (by omega) (by omega)
          refine Go.iload2 229 X133 hx (hb hby d31_227) rfl rfl ?_
          refine Go.iload2 231 X133 hx (hb hby d31_229) rfl rfl ?_
          have F135 : n0 ≤ h133.size := Nat.le_trans Z0 E133.1
          obtain ⟨_, _, ⟨T136, L136, k136, n136⟩, -, X136, ⟨Lc136, hQ136, l136, y136, z136⟩, st136⟩ := X133.specialBack hx (y := (⟨"java/time/LocalDate", "<init>", "(III)V"⟩ : MethodName)) rfl hown (mvT hZ (ow hw 111 rfl)) (mvT hZ (ow hw 112 rfl)) (mvT hZ (ow hw 114 rfl)) (by decide) (backOf (W := 1) (rmLd l Z a0 hw [] b n134 n123 n131 h133 n0 F135 A133 F_year_b F_month_b F_day_b ge_b (by omega) (by omega)) hZ (ow hw 114 rfl) (ow hw 63 rfl) (by decide) (by decide)) (g := (mkF m 231 #[.val (.long x), .second, .val (.long n26), .second, .val (.long n23), .second, .val (.long n110), .second, .val (.long n41), .second, iv n111, iv n117, iv n123, iv n131] [(.int n131), (.int n123), (.int n134), (.ref b), (.ref b)])) rfl (by rw [hml]; rfl) (Steps.refl _) (a := b) (argsL := [(.int n134), (.int n123), (.int n131)]) (rest := [(.ref b)]) (lenOf pd_329 rfl) rfl (by show 2 * 0 + _ ≤ _; exact Nat.le_of_eq rfl) (hb hby d31_231) (fun _ _ => ⟨rfl, e133, (by decide : 1 + 0 ≤ _), (by decide : 3 + 0 ≤ _)⟩)
          dsimp only [Pt.U, Pt.locs, Pt.cells, Pt.slots] at X136 l136 y136 z136 st136 hQ136
          subst l136 y136 z136
          obtain ⟨rfl, N136q, K136, Q136_0, Q136_1, Q136_2, Q136_3⟩ := hQ136
          have N136 := Fr.app N10 N136q
          refine Go.to st136 ?_
          show Go _ _ _ _ T136 (mkF m 234 #[.val (.long x), .second, .val (.long n26), .second, .val (.long n23), .second, .val (.long n110), .second, .val (.long n41), .second, iv n111, iv n117, iv n123, iv n131] [(.ref b)])
          rw [← e_n134] at of hyr
          have F137 : Keep h0 h133 [] := (Keep.refl h0 []).ext E133
          have F138 : Keep h0 T136.heap [] := F137.trans K136 (allS (Or.inr sz_b) all0)
          exact Go.retA X136 hx Bd.notSynchronized Bd.returns rfl rfl (hb hby d31_234) ⟨b, n134, n123, n131, rfl, N136, F138, Q136_0, Q136_1, Q136_2, Q136_3, of.1, hyr, ⟨of.2.1, of.2.2.1⟩, of.2.2.2⟩ (by decide) (by decide)
        · refine Go.icmpN 214 X10 hx (hb hby d31_211) (XT.ii_lt_f hb132) rfl ?_
          have i_hb132 := o_nlt32 hb132
          refine Go.lload2 216 X10 hx (hb hby d31_214) rfl rfl ?_
          refine Go.lconst 217 X10 hx (1 : Int64) (hb hby d31_216) (by decide) rfl ?_
          refine Go.ladd 218 X10 hx (hb hby d31_217) rfl ?_
          obtain ⟨n139, h_n139⟩ : ∃ z, z = (n110 + (1 : Int64)) := ⟨_, rfl⟩
          rw [← h_n139]
          show Go _ _ _ _ T10 (mkF m 218 #[.val (.long x), .second, .val (.long n26), .second, .val (.long n23), .second, .val (.long n110), .second, .val (.long n41), .second, iv n111, iv n117, iv n123, iv n131] [(.long n139)])
          have e_n139 : n139.toInt = n110.toInt + (1 : Int64).toInt := by rw [h_n139]; exact x_ladd (by omega) (by omega)
          refine Go.lstore2 220 X10 hx (L' := #[.val (.long x), .second, .val (.long n26), .second, .val (.long n23), .second, .val (.long n139), .second, .val (.long n41), .second, iv n111, iv n117, iv n123, iv n131]) (hb hby d31_218) rfl rfl ?_
          have hmq : (n117.toInt ≤ 9 ∧ n123.toInt = n117.toInt + 3) ∨ (9 < n117.toInt ∧ n123.toInt = n117.toInt - 9) := (by omega)
          have hyq : (n41.toInt < 306 ∧ n139.toInt = n30.toInt + 400 * (n21.toInt)) ∨ (306 ≤ n41.toInt ∧ n139.toInt = n30.toInt + 400 * (n21.toInt) + 1) := (by omega)
          have hdq : n131.toInt = n41.toInt - (n117.toInt * 306 + 5) / 10 + 1 := (by omega)
          have of := own_of n26.toInt x.toInt n30.toInt n41.toInt n117.toInt n123.toInt n131.toInt n139.toInt (n21.toInt) hz.1 hz.2.1 hd1 hlo.1 hlo.2 hmm hdq hmq hyq
          have hyr : -100000000 ≤ n139.toInt ∧ n139.toInt ≤ 100000000 := by omega
          clear e_n110 e_n111 e_n113 e_n115 e_n117 e_n119 i_hb121 e_n123 e_n125 e_n126 e_n128 e_n129 e_n131 i_hb132 e_n139
          obtain ⟨b, g140⟩ : ∃ z, z = h0.size := ⟨_, rfl⟩
          have ge_b : n0 ≤ b := Nat.le_trans Z0 (Nat.le_of_eq g140.symm)
          have sz_b : h0.size ≤ b := Nat.le_trans (Keep.refl h0 []).1 (Nat.le_of_eq g140.symm)
          obtain ⟨T140, h140, X140, e140, E140, A140, D140, -, st140⟩ := newO X10 hx hZ hown (ow hw 109 rfl) (ow hw 110 rfl) (ow hw 63 rfl) e10 (g := (mkF m 220 #[.val (.long x), .second, .val (.long n26), .second, .val (.long n23), .second, .val (.long n139), .second, .val (.long n41), .second, iv n111, iv n117, iv n123, iv n131] [])) rfl (hb hby d31_220) (by decide) (by decide)
          rw [← g140] at A140 D140 st140
          have F_year_b : Fld Z h140 b "java/time/LocalDate" "year" "I" (.int 0) := D140 (Or.inr (ow hw 117 rfl)) (ty := .int) (by decide)
          have F_month_b : Fld Z h140 b "java/time/LocalDate" "month" "S" (.int 0) := D140 (Or.inr (ow hw 119 rfl)) (ty := .short) (by decide)
          have F_day_b : Fld Z h140 b "java/time/LocalDate" "day" "S" (.int 0) := D140 (Or.inr (ow hw 121 rfl)) (ty := .short) (by decide)
          refine Go.by st140 ?_
          show Go _ _ _ _ T140 (mkF m 223 #[.val (.long x), .second, .val (.long n26), .second, .val (.long n23), .second, .val (.long n139), .second, .val (.long n41), .second, iv n111, iv n117, iv n123, iv n131] [(.ref b)])
          refine Go.dup 224 X140 hx (hb hby d31_223) rfl rfl ?_
          refine Go.lload2 226 X140 hx (hb hby d31_224) rfl rfl ?_
          refine Go.l2i 227 X140 hx (hb hby d31_226) rfl ?_
          obtain ⟨n141, h_n141⟩ : ∃ z, z = (n139.toInt32) := ⟨_, rfl⟩
          rw [← h_n141]
          show Go _ _ _ _ T140 (mkF m 227 #[.val (.long x), .second, .val (.long n26), .second, .val (.long n23), .second, .val (.long n139), .second, .val (.long n41), .second, iv n111, iv n117, iv n123, iv n131] [(.int n141), (.ref b), (.ref b)])
          have e_n141 : n141.toInt = n139.toInt := by rw [h_n141]; exact x_l2i (by omega) (by omega)
          refine Go.iload2 229 X140 hx (hb hby d31_227) rfl rfl ?_
          refine Go.iload2 231 X140 hx (hb hby d31_229) rfl rfl ?_
          have F142 : n0 ≤ h140.size := Nat.le_trans Z0 E140.1
          obtain ⟨_, _, ⟨T143, L143, k143, n143⟩, -, X143, ⟨Lc143, hQ143, l143, y143, z143⟩, st143⟩ := X140.specialBack hx (y := (⟨"java/time/LocalDate", "<init>", "(III)V"⟩ : MethodName)) rfl hown (mvT hZ (ow hw 111 rfl)) (mvT hZ (ow hw 112 rfl)) (mvT hZ (ow hw 114 rfl)) (by decide) (backOf (W := 1) (rmLd l Z a0 hw [] b n141 n123 n131 h140 n0 F142 A140 F_year_b F_month_b F_day_b ge_b (by omega) (by omega)) hZ (ow hw 114 rfl) (ow hw 63 rfl) (by decide) (by decide)) (g := (mkF m 231 #[.val (.long x), .second, .val (.long n26), .second, .val (.long n23), .second, .val (.long n139), .second, .val (.long n41), .second, iv n111, iv n117, iv n123, iv n131] [(.int n131), (.int n123), (.int n141), (.ref b), (.ref b)])) rfl (by rw [hml]; rfl) (Steps.refl _) (a := b) (argsL := [(.int n141), (.int n123), (.int n131)]) (rest := [(.ref b)]) (lenOf pd_329 rfl) rfl (by show 2 * 0 + _ ≤ _; exact Nat.le_of_eq rfl) (hb hby d31_231) (fun _ _ => ⟨rfl, e140, (by decide : 1 + 0 ≤ _), (by decide : 3 + 0 ≤ _)⟩)
          dsimp only [Pt.U, Pt.locs, Pt.cells, Pt.slots] at X143 l143 y143 z143 st143 hQ143
          subst l143 y143 z143
          obtain ⟨rfl, N143q, K143, Q143_0, Q143_1, Q143_2, Q143_3⟩ := hQ143
          have N143 := Fr.app N10 N143q
          refine Go.to st143 ?_
          show Go _ _ _ _ T143 (mkF m 234 #[.val (.long x), .second, .val (.long n26), .second, .val (.long n23), .second, .val (.long n139), .second, .val (.long n41), .second, iv n111, iv n117, iv n123, iv n131] [(.ref b)])
          rw [← e_n141] at of hyr
          have F144 : Keep h0 h140 [] := (Keep.refl h0 []).ext E140
          have F145 : Keep h0 T143.heap [] := F144.trans K143 (allS (Or.inr sz_b) all0)
          exact Go.retA X143 hx Bd.notSynchronized Bd.returns rfl rfl (hb hby d31_234) ⟨b, n141, n123, n131, rfl, N143, F145, Q143_0, Q143_1, Q143_2, Q143_3, of.1, hyr, ⟨of.2.1, of.2.2.1⟩, of.2.2.2⟩ (by decide) (by decide)
      · refine Go.icmpY 188 X10 hx (hb hby d31_182) (XT.ii_le_t hb121) (by decide) (by decide) ?_
        have i_hb121 := o_nlt32 hb121
        refine Go.iload2 190 X10 hx (hb hby d31_188) rfl rfl ?_
        refine Go.iload2 192 X10 hx (hb hby d31_190) rfl rfl ?_
        refine Go.sipush 195 X10 hx (306 : Int32) (hb hby d31_192) (by decide) rfl ?_
        refine Go.imul 196 X10 hx (hb hby d31_195) rfl ?_
        have li146 : (306 : Int32).toInt = 306 := by decide
        obtain ⟨n147, h_n147⟩ : ∃ z, z = (n117 * (306 : Int32)) := ⟨_, rfl⟩
        rw [← h_n147]
        show Go _ _ _ _ T10 (mkF m 196 #[.val (.long x), .second, .val (.long n26), .second, .val (.long n23), .second, .val (.long n110), .second, .val (.long n41), .second, iv n111, iv n117, iv n119, un] [(.int n147), (.int n111)])
        have e_n147 : n147.toInt = n117.toInt * 306 := by rw [h_n147]; exact x_imulR 306 (by decide) (by omega) (by omega)
        refine Go.iconst 197 X10 hx (5 : Int32) (hb hby d31_196) (by decide) rfl ?_
        refine Go.iadd 198 X10 hx (hb hby d31_197) rfl ?_
        obtain ⟨n148, h_n148⟩ : ∃ z, z = (n147 + (5 : Int32)) := ⟨_, rfl⟩
        rw [← h_n148]
        show Go _ _ _ _ T10 (mkF m 198 #[.val (.long x), .second, .val (.long n26), .second, .val (.long n23), .second, .val (.long n110), .second, .val (.long n41), .second, iv n111, iv n117, iv n119, un] [(.int n148), (.int n111)])
        have e_n148 : n148.toInt = n147.toInt + (5 : Int32).toInt := by rw [h_n148]; exact x_iadd (by omega) (by omega)
        refine Go.bipush 200 X10 hx (10 : Int32) (hb hby d31_198) (by decide) rfl ?_
        refine Go.idiv 201 X10 hx (hb hby d31_200) (by decide) rfl ?_
        have li149 : (10 : Int32).toInt = 10 := by decide
        obtain ⟨n150, h_n150⟩ : ∃ z, z = (n148 / (10 : Int32)) := ⟨_, rfl⟩
        rw [← h_n150]
        show Go _ _ _ _ T10 (mkF m 201 #[.val (.long x), .second, .val (.long n26), .second, .val (.long n23), .second, .val (.long n110), .second, .val (.long n41), .second, iv n111, iv n117, iv n119, un] [(.int n150), (.int n111)])
        have e_n150 : n150.toInt = n148.toInt / 10 := by rw [h_n150]; exact (x_idiv 10 (by decide) (by decide)).1 (by omega)
        refine Go.isub 202 X10 hx (hb hby d31_201) rfl ?_
        obtain ⟨n151, h_n151⟩ : ∃ z, z = (n111 - n150) := ⟨_, rfl⟩
        rw [← h_n151]
        show Go _ _ _ _ T10 (mkF m 202 #[.val (.long x), .second, .val (.long n26), .second, .val (.long n23), .second, .val (.long n110), .second, .val (.long n41), .second, iv n111, iv n117, iv n119, un] [(.int n151)])
        have e_n151 : n151.toInt = n111.toInt - n150.toInt := by rw [h_n151]; exact x_isub (by omega) (by omega)
        refine Go.iconst 203 X10 hx (1 : Int32) (hb hby d31_202) (by decide) rfl ?_
        refine Go.iadd 204 X10 hx (hb hby d31_203) rfl ?_
        have li152 : (1 : Int32).toInt = 1 := by decide
        obtain ⟨n153, h_n153⟩ : ∃ z, z = (n151 + (1 : Int32)) := ⟨_, rfl⟩
        rw [← h_n153]
        show Go _ _ _ _ T10 (mkF m 204 #[.val (.long x), .second, .val (.long n26), .second, .val (.long n23), .second, .val (.long n110), .second, .val (.long n41), .second, iv n111, iv n117, iv n119, un] [(.int n153)])
        have e_n153 : n153.toInt = n151.toInt + (1 : Int32).toInt := by rw [h_n153]; exact x_iadd (by omega) (by omega)
        refine Go.istore2 206 X10 hx (L' := #[.val (.long x), .second, .val (.long n26), .second, .val (.long n23), .second, .val (.long n110), .second, .val (.long n41), .second, iv n111, iv n117, iv n119, iv n153]) (hb hby d31_204) rfl rfl ?_
        refine Go.iload2 208 X10 hx (hb hby d31_206) rfl rfl ?_
        refine Go.sipush 211 X10 hx (306 : Int32) (hb hby d31_208) (by decide) rfl ?_
        by_cases hb154 : n111 < (306 : Int32)
        · refine Go.icmpY 220 X10 hx (hb hby d31_211) (XT.ii_lt_t hb154) (by decide) (by decide) ?_
          have i_hb154 := o_lt32 hb154
          have hmq : (n117.toInt ≤ 9 ∧ n119.toInt = n117.toInt + 3) ∨ (9 < n117.toInt ∧ n119.toInt = n117.toInt - 9) := (by omega)
          have hyq : (n41.toInt < 306 ∧ n110.toInt = n30.toInt + 400 * (n21.toInt)) ∨ (306 ≤ n41.toInt ∧ n110.toInt = n30.toInt + 400 * (n21.toInt) + 1) := (by omega)
          have hdq : n153.toInt = n41.toInt - (n117.toInt * 306 + 5) / 10 + 1 := (by omega)
          have of := own_of n26.toInt x.toInt n30.toInt n41.toInt n117.toInt n119.toInt n153.toInt n110.toInt (n21.toInt) hz.1 hz.2.1 hd1 hlo.1 hlo.2 hmm hdq hmq hyq
          have hyr : -100000000 ≤ n110.toInt ∧ n110.toInt ≤ 100000000 := by omega
          clear e_n110 e_n111 e_n113 e_n115 e_n117 e_n119 i_hb121 e_n147 e_n148 e_n150 e_n151 e_n153 i_hb154
          obtain ⟨b, g155⟩ : ∃ z, z = h0.size := ⟨_, rfl⟩
          have ge_b : n0 ≤ b := Nat.le_trans Z0 (Nat.le_of_eq g155.symm)
          have sz_b : h0.size ≤ b := Nat.le_trans (Keep.refl h0 []).1 (Nat.le_of_eq g155.symm)
          obtain ⟨T155, h155, X155, e155, E155, A155, D155, -, st155⟩ := newO X10 hx hZ hown (ow hw 109 rfl) (ow hw 110 rfl) (ow hw 63 rfl) e10 (g := (mkF m 220 #[.val (.long x), .second, .val (.long n26), .second, .val (.long n23), .second, .val (.long n110), .second, .val (.long n41), .second, iv n111, iv n117, iv n119, iv n153] [])) rfl (hb hby d31_220) (by decide) (by decide)
          rw [← g155] at A155 D155 st155
          have F_year_b : Fld Z h155 b "java/time/LocalDate" "year" "I" (.int 0) := D155 (Or.inr (ow hw 117 rfl)) (ty := .int) (by decide)
          have F_month_b : Fld Z h155 b "java/time/LocalDate" "month" "S" (.int 0) := D155 (Or.inr (ow hw 119 rfl)) (ty := .short) (by decide)
          have F_day_b : Fld Z h155 b "java/time/LocalDate" "day" "S" (.int 0) := D155 (Or.inr (ow hw 121 rfl)) (ty := .short) (by decide)
          refine Go.by st155 ?_
          show Go _ _ _ _ T155 (mkF m 223 #[.val (.long x), .second, .val (.long n26), .second, .val (.long n23), .second, .val (.long n110), .second, .val (.long n41), .second, iv n111, iv n117, iv n119, iv n153] [(.ref b)])
          refine Go.dup 224 X155 hx (hb hby d31_223) rfl rfl ?_
          refine Go.lload2 226 X155 hx (hb hby d31_224) rfl rfl ?_
          refine Go.l2i 227 X155 hx (hb hby d31_226) rfl ?_
          obtain ⟨n156, h_n156⟩ : ∃ z, z = (n110.toInt32) := ⟨_, rfl⟩
          rw [← h_n156]
          show Go _ _ _ _ T155 (mkF m 227 #[.val (.long x), .second, .val (.long n26), .second, .val (.long n23), .second, .val (.long n110), .second, .val (.long n41), .second, iv n111, iv n117, iv n119, iv n153] [(.int n156), (.ref b), (.ref b)])
          have e_n156 : n156.toInt = n110.toInt := by rw [h_n156]; exact x_l2i (by omega) (by omega)
          refine Go.iload2 229 X155 hx (hb hby d31_227) rfl rfl ?_
          refine Go.iload2 231 X155 hx (hb hby d31_229) rfl rfl ?_
          have F157 : n0 ≤ h155.size := Nat.le_trans Z0 E155.1
          obtain ⟨_, _, ⟨T158, L158, k158, n158⟩, -, X158, ⟨Lc158, hQ158, l158, y158, z158⟩, st158⟩ := X155.specialBack hx (y := (⟨"java/time/LocalDate", "<init>", "(III)V"⟩ : MethodName)) rfl hown (mvT hZ (ow hw 111 rfl)) (mvT hZ (ow hw 112 rfl)) (mvT hZ (ow hw 114 rfl)) (by decide) (backOf (W := 1) (rmLd l Z a0 hw [] b n156 n119 n153 h155 n0 F157 A155 F_year_b F_month_b F_day_b ge_b (by omega) (by omega)) hZ (ow hw 114 rfl) (ow hw 63 rfl) (by decide) (by decide)) (g := (mkF m 231 #[.val (.long x), .second, .val (.long n26), .second, .val (.long n23), .second, .val (.long n110), .second, .val (.long n41), .second, iv n111, iv n117, iv n119, iv n153] [(.int n153), (.int n119), (.int n156), (.ref b), (.ref b)])) rfl (by rw [hml]; rfl) (Steps.refl _) (a := b) (argsL := [(.int n156), (.int n119), (.int n153)]) (rest := [(.ref b)]) (lenOf pd_329 rfl) rfl (by show 2 * 0 + _ ≤ _; exact Nat.le_of_eq rfl) (hb hby d31_231) (fun _ _ => ⟨rfl, e155, (by decide : 1 + 0 ≤ _), (by decide : 3 + 0 ≤ _)⟩)
          dsimp only [Pt.U, Pt.locs, Pt.cells, Pt.slots] at X158 l158 y158 z158 st158 hQ158
          subst l158 y158 z158
          obtain ⟨rfl, N158q, K158, Q158_0, Q158_1, Q158_2, Q158_3⟩ := hQ158
          have N158 := Fr.app N10 N158q
          refine Go.to st158 ?_
          show Go _ _ _ _ T158 (mkF m 234 #[.val (.long x), .second, .val (.long n26), .second, .val (.long n23), .second, .val (.long n110), .second, .val (.long n41), .second, iv n111, iv n117, iv n119, iv n153] [(.ref b)])
          rw [← e_n156] at of hyr
          have F159 : Keep h0 h155 [] := (Keep.refl h0 []).ext E155
          have F160 : Keep h0 T158.heap [] := F159.trans K158 (allS (Or.inr sz_b) all0)
          exact Go.retA X158 hx Bd.notSynchronized Bd.returns rfl rfl (hb hby d31_234) ⟨b, n156, n119, n153, rfl, N158, F160, Q158_0, Q158_1, Q158_2, Q158_3, of.1, hyr, ⟨of.2.1, of.2.2.1⟩, of.2.2.2⟩ (by decide) (by decide)
        · refine Go.icmpN 214 X10 hx (hb hby d31_211) (XT.ii_lt_f hb154) rfl ?_
          have i_hb154 := o_nlt32 hb154
          refine Go.lload2 216 X10 hx (hb hby d31_214) rfl rfl ?_
          refine Go.lconst 217 X10 hx (1 : Int64) (hb hby d31_216) (by decide) rfl ?_
          refine Go.ladd 218 X10 hx (hb hby d31_217) rfl ?_
          obtain ⟨n161, h_n161⟩ : ∃ z, z = (n110 + (1 : Int64)) := ⟨_, rfl⟩
          rw [← h_n161]
          show Go _ _ _ _ T10 (mkF m 218 #[.val (.long x), .second, .val (.long n26), .second, .val (.long n23), .second, .val (.long n110), .second, .val (.long n41), .second, iv n111, iv n117, iv n119, iv n153] [(.long n161)])
          have e_n161 : n161.toInt = n110.toInt + (1 : Int64).toInt := by rw [h_n161]; exact x_ladd (by omega) (by omega)
          refine Go.lstore2 220 X10 hx (L' := #[.val (.long x), .second, .val (.long n26), .second, .val (.long n23), .second, .val (.long n161), .second, .val (.long n41), .second, iv n111, iv n117, iv n119, iv n153]) (hb hby d31_218) rfl rfl ?_
          have hmq : (n117.toInt ≤ 9 ∧ n119.toInt = n117.toInt + 3) ∨ (9 < n117.toInt ∧ n119.toInt = n117.toInt - 9) := (by omega)
          have hyq : (n41.toInt < 306 ∧ n161.toInt = n30.toInt + 400 * (n21.toInt)) ∨ (306 ≤ n41.toInt ∧ n161.toInt = n30.toInt + 400 * (n21.toInt) + 1) := (by omega)
          have hdq : n153.toInt = n41.toInt - (n117.toInt * 306 + 5) / 10 + 1 := (by omega)
          have of := own_of n26.toInt x.toInt n30.toInt n41.toInt n117.toInt n119.toInt n153.toInt n161.toInt (n21.toInt) hz.1 hz.2.1 hd1 hlo.1 hlo.2 hmm hdq hmq hyq
          have hyr : -100000000 ≤ n161.toInt ∧ n161.toInt ≤ 100000000 := by omega
          clear e_n110 e_n111 e_n113 e_n115 e_n117 e_n119 i_hb121 e_n147 e_n148 e_n150 e_n151 e_n153 i_hb154 e_n161
          obtain ⟨b, g162⟩ : ∃ z, z = h0.size := ⟨_, rfl⟩
          have ge_b : n0 ≤ b := Nat.le_trans Z0 (Nat.le_of_eq g162.symm)
          have sz_b : h0.size ≤ b := Nat.le_trans (Keep.refl h0 []).1 (Nat.le_of_eq g162.symm)
          obtain ⟨T162, h162, X162, e162, E162, A162, D162, -, st162⟩ := newO X10 hx hZ hown (ow hw 109 rfl) (ow hw 110 rfl) (ow hw 63 rfl) e10 (g := (mkF m 220 #[.val (.long x), .second, .val (.long n26), .second, .val (.long n23), .second, .val (.long n161), .second, .val (.long n41), .second, iv n111, iv n117, iv n119, iv n153] [])) rfl (hb hby d31_220) (by decide) (by decide)
          rw [← g162] at A162 D162 st162
          have F_year_b : Fld Z h162 b "java/time/LocalDate" "year" "I" (.int 0) := D162 (Or.inr (ow hw 117 rfl)) (ty := .int) (by decide)
          have F_month_b : Fld Z h162 b "java/time/LocalDate" "month" "S" (.int 0) := D162 (Or.inr (ow hw 119 rfl)) (ty := .short) (by decide)
          have F_day_b : Fld Z h162 b "java/time/LocalDate" "day" "S" (.int 0) := D162 (Or.inr (ow hw 121 rfl)) (ty := .short) (by decide)
          refine Go.by st162 ?_
          show Go _ _ _ _ T162 (mkF m 223 #[.val (.long x), .second, .val (.long n26), .second, .val (.long n23), .second, .val (.long n161), .second, .val (.long n41), .second, iv n111, iv n117, iv n119, iv n153] [(.ref b)])
          refine Go.dup 224 X162 hx (hb hby d31_223) rfl rfl ?_
          refine Go.lload2 226 X162 hx (hb hby d31_224) rfl rfl ?_
          refine Go.l2i 227 X162 hx (hb hby d31_226) rfl ?_
          obtain ⟨n163, h_n163⟩ : ∃ z, z = (n161.toInt32) := ⟨_, rfl⟩
          rw [← h_n163]
          show Go _ _ _ _ T162 (mkF m 227 #[.val (.long x), .second, .val (.long n26), .second, .val (.long n23), .second, .val (.long n161), .second, .val (.long n41), .second, iv n111, iv n117, iv n119, iv n153] [(.int n163), (.ref b), (.ref b)])
          have e_n163 : n163.toInt = n161.toInt := by rw [h_n163]; exact x_l2i (by omega) (by omega)
          refine Go.iload2 229 X162 hx (hb hby d31_227) rfl rfl ?_
          refine Go.iload2 231 X162 hx (hb hby d31_229) rfl rfl ?_
          have F164 : n0 ≤ h162.size := Nat.le_trans Z0 E162.1
          obtain ⟨_, _, ⟨T165, L165, k165, n165⟩, -, X165, ⟨Lc165, hQ165, l165, y165, z165⟩, st165⟩ := X162.specialBack hx (y := (⟨"java/time/LocalDate", "<init>", "(III)V"⟩ : MethodName)) rfl hown (mvT hZ (ow hw 111 rfl)) (mvT hZ (ow hw 112 rfl)) (mvT hZ (ow hw 114 rfl)) (by decide) (backOf (W := 1) (rmLd l Z a0 hw [] b n163 n119 n153 h162 n0 F164 A162 F_year_b F_month_b F_day_b ge_b (by omega) (by omega)) hZ (ow hw 114 rfl) (ow hw 63 rfl) (by decide) (by decide)) (g := (mkF m 231 #[.val (.long x), .second, .val (.long n26), .second, .val (.long n23), .second, .val (.long n161), .second, .val (.long n41), .second, iv n111, iv n117, iv n119, iv n153] [(.int n153), (.int n119), (.int n163), (.ref b), (.ref b)])) rfl (by rw [hml]; rfl) (Steps.refl _) (a := b) (argsL := [(.int n163), (.int n119), (.int n153)]) (rest := [(.ref b)]) (lenOf pd_329 rfl) rfl (by show 2 * 0 + _ ≤ _; exact Nat.le_of_eq rfl) (hb hby d31_231) (fun _ _ => ⟨rfl, e162, (by decide : 1 + 0 ≤ _), (by decide : 3 + 0 ≤ _)⟩)
          dsimp only [Pt.U, Pt.locs, Pt.cells, Pt.slots] at X165 l165 y165 z165 st165 hQ165
          subst l165 y165 z165
          obtain ⟨rfl, N165q, K165, Q165_0, Q165_1, Q165_2, Q165_3⟩ := hQ165
          have N165 := Fr.app N10 N165q
          refine Go.to st165 ?_
          show Go _ _ _ _ T165 (mkF m 234 #[.val (.long x), .second, .val (.long n26), .second, .val (.long n23), .second, .val (.long n161), .second, .val (.long n41), .second, iv n111, iv n117, iv n119, iv n153] [(.ref b)])
          rw [← e_n163] at of hyr
          have F166 : Keep h0 h162 [] := (Keep.refl h0 []).ext E162
          have F167 : Keep h0 T165.heap [] := F166.trans K165 (allS (Or.inr sz_b) all0)
          exact Go.retA X165 hx Bd.notSynchronized Bd.returns rfl rfl (hb hby d31_234) ⟨b, n163, n119, n153, rfl, N165, F167, Q165_0, Q165_1, Q165_2, Q165_3, of.1, hyr, ⟨of.2.1, of.2.2.1⟩, of.2.2.2⟩ (by decide) (by decide)
  · refine Go.ifY 58 X10 hx (hb hby d31_26) (XT.ll_ge_t hb16) (by decide) (by decide) ?_
    have i_hb16 := o_nlt64 hb16
    have hz : x.toInt + 719468 = n14.toInt + (0) * 146097 ∧ 0 ≤ n14.toInt ∧ n14.toInt ≤ 40000000000 ∧ -1000000 ≤ (0) ∧ (0) ≤ 0 := (by omega)
    have ha : (0 : Int64).toInt = 400 * 0 := by decide
    clear e_n12 e_n14 i_hb16
    refine Go.by (fun _ gk => X10.ldc2J hx hown (mvT hZ (ow hw 139 rfl)) (g := (mkF m 58 #[.val (.long x), .second, .val (.long n14), .second, .val (.long (0 : Int64)), .second, un, un, un, un, un, un, un, un] [])) rfl (hb hby d31_58) gk) ?_
    show Go _ _ _ _ T10 (mkF m 61 #[.val (.long x), .second, .val (.long n14), .second, .val (.long (0 : Int64)), .second, un, un, un, un, un, un, un, un] [(.long (400 : Int64))])
    refine Go.lload1 62 X10 hx (hb hby d31_61) rfl rfl ?_
    refine Go.lmul 63 X10 hx (hb hby d31_62) rfl ?_
    have li168 : (400 : Int64).toInt = 400 := by decide
    obtain ⟨n169, h_n169⟩ : ∃ z, z = ((400 : Int64) * n14) := ⟨_, rfl⟩
    rw [← h_n169]
    show Go _ _ _ _ T10 (mkF m 63 #[.val (.long x), .second, .val (.long n14), .second, .val (.long (0 : Int64)), .second, un, un, un, un, un, un, un, un] [(.long n169)])
    have e_n169 : n169.toInt = 400 * n14.toInt := by rw [h_n169]; exact x_lmulL 400 (by decide) (by omega) (by omega)
    refine Go.by (fun _ gk => X10.ldc2J hx hown (mvT hZ (ow hw 201 rfl)) (g := (mkF m 63 #[.val (.long x), .second, .val (.long n14), .second, .val (.long (0 : Int64)), .second, un, un, un, un, un, un, un, un] [(.long n169)])) rfl (hb hby d31_63) gk) ?_
    show Go _ _ _ _ T10 (mkF m 66 #[.val (.long x), .second, .val (.long n14), .second, .val (.long (0 : Int64)), .second, un, un, un, un, un, un, un, un] [(.long (591 : Int64)), (.long n169)])
    refine Go.ladd 67 X10 hx (hb hby d31_66) rfl ?_
    have li170 : (591 : Int64).toInt = 591 := by decide
    obtain ⟨n171, h_n171⟩ : ∃ z, z = (n169 + (591 : Int64)) := ⟨_, rfl⟩
    rw [← h_n171]
    show Go _ _ _ _ T10 (mkF m 67 #[.val (.long x), .second, .val (.long n14), .second, .val (.long (0 : Int64)), .second, un, un, un, un, un, un, un, un] [(.long n171)])
    have e_n171 : n171.toInt = n169.toInt + (591 : Int64).toInt := by rw [h_n171]; exact x_ladd (by omega) (by omega)
    refine Go.by (fun _ gk => X10.ldc2J hx hown (mvT hZ (ow hw 202 rfl)) (g := (mkF m 67 #[.val (.long x), .second, .val (.long n14), .second, .val (.long (0 : Int64)), .second, un, un, un, un, un, un, un, un] [(.long n171)])) rfl (hb hby d31_67) gk) ?_
    show Go _ _ _ _ T10 (mkF m 70 #[.val (.long x), .second, .val (.long n14), .second, .val (.long (0 : Int64)), .second, un, un, un, un, un, un, un, un] [(.long (146097 : Int64)), (.long n171)])
    refine Go.ldiv 71 X10 hx (hb hby d31_70) (by decide) rfl ?_
    have li172 : (146097 : Int64).toInt = 146097 := by decide
    obtain ⟨n173, h_n173⟩ : ∃ z, z = (n171 / (146097 : Int64)) := ⟨_, rfl⟩
    rw [← h_n173]
    show Go _ _ _ _ T10 (mkF m 71 #[.val (.long x), .second, .val (.long n14), .second, .val (.long (0 : Int64)), .second, un, un, un, un, un, un, un, un] [(.long n173)])
    have e_n173 : n173.toInt = n171.toInt / 146097 := by rw [h_n173]; exact (x_ldiv 146097 (by decide) (by decide)).1 (by omega)
    refine Go.lstore2 73 X10 hx (L' := #[.val (.long x), .second, .val (.long n14), .second, .val (.long (0 : Int64)), .second, .val (.long n173), .second, un, un, un, un, un, un]) (hb hby d31_71) rfl rfl ?_
    have hy1 : n173.toInt = (400 * n14.toInt + 591) / 146097 := (by omega)
    have hy1b : 0 ≤ n173.toInt ∧ n173.toInt ≤ 110000000 := (by omega)
    clear e_n169 e_n171 e_n173
    refine Go.lload1 74 X10 hx (hb hby d31_73) rfl rfl ?_
    refine Go.by (fun _ gk => X10.ldc2J hx hown (mvT hZ (ow hw 133 rfl)) (g := (mkF m 74 #[.val (.long x), .second, .val (.long n14), .second, .val (.long (0 : Int64)), .second, .val (.long n173), .second, un, un, un, un, un, un] [(.long n14)])) rfl (hb hby d31_74) gk) ?_
    show Go _ _ _ _ T10 (mkF m 77 #[.val (.long x), .second, .val (.long n14), .second, .val (.long (0 : Int64)), .second, .val (.long n173), .second, un, un, un, un, un, un] [(.long (365 : Int64)), (.long n14)])
    refine Go.lload2 79 X10 hx (hb hby d31_77) rfl rfl ?_
    refine Go.lmul 80 X10 hx (hb hby d31_79) rfl ?_
    have li174 : (365 : Int64).toInt = 365 := by decide
    obtain ⟨n175, h_n175⟩ : ∃ z, z = ((365 : Int64) * n173) := ⟨_, rfl⟩
    rw [← h_n175]
    show Go _ _ _ _ T10 (mkF m 80 #[.val (.long x), .second, .val (.long n14), .second, .val (.long (0 : Int64)), .second, .val (.long n173), .second, un, un, un, un, un, un] [(.long n175), (.long n14)])
    have e_n175 : n175.toInt = 365 * n173.toInt := by rw [h_n175]; exact x_lmulL 365 (by decide) (by omega) (by omega)
    refine Go.lload2 82 X10 hx (hb hby d31_80) rfl rfl ?_
    refine Go.by (fun _ gk => X10.ldc2J hx hown (mvT hZ (ow hw 135 rfl)) (g := (mkF m 82 #[.val (.long x), .second, .val (.long n14), .second, .val (.long (0 : Int64)), .second, .val (.long n173), .second, un, un, un, un, un, un] [(.long n173), (.long n175), (.long n14)])) rfl (hb hby d31_82) gk) ?_
    show Go _ _ _ _ T10 (mkF m 85 #[.val (.long x), .second, .val (.long n14), .second, .val (.long (0 : Int64)), .second, .val (.long n173), .second, un, un, un, un, un, un] [(.long (4 : Int64)), (.long n173), (.long n175), (.long n14)])
    refine Go.ldiv 86 X10 hx (hb hby d31_85) (by decide) rfl ?_
    have li176 : (4 : Int64).toInt = 4 := by decide
    obtain ⟨n177, h_n177⟩ : ∃ z, z = (n173 / (4 : Int64)) := ⟨_, rfl⟩
    rw [← h_n177]
    show Go _ _ _ _ T10 (mkF m 86 #[.val (.long x), .second, .val (.long n14), .second, .val (.long (0 : Int64)), .second, .val (.long n173), .second, un, un, un, un, un, un] [(.long n177), (.long n175), (.long n14)])
    have e_n177 : n177.toInt = n173.toInt / 4 := by rw [h_n177]; exact (x_ldiv 4 (by decide) (by decide)).1 (by omega)
    refine Go.ladd 87 X10 hx (hb hby d31_86) rfl ?_
    obtain ⟨n178, h_n178⟩ : ∃ z, z = (n175 + n177) := ⟨_, rfl⟩
    rw [← h_n178]
    show Go _ _ _ _ T10 (mkF m 87 #[.val (.long x), .second, .val (.long n14), .second, .val (.long (0 : Int64)), .second, .val (.long n173), .second, un, un, un, un, un, un] [(.long n178), (.long n14)])
    have e_n178 : n178.toInt = n175.toInt + n177.toInt := by rw [h_n178]; exact x_ladd (by omega) (by omega)
    refine Go.lload2 89 X10 hx (hb hby d31_87) rfl rfl ?_
    refine Go.by (fun _ gk => X10.ldc2J hx hown (mvT hZ (ow hw 137 rfl)) (g := (mkF m 89 #[.val (.long x), .second, .val (.long n14), .second, .val (.long (0 : Int64)), .second, .val (.long n173), .second, un, un, un, un, un, un] [(.long n173), (.long n178), (.long n14)])) rfl (hb hby d31_89) gk) ?_
    show Go _ _ _ _ T10 (mkF m 92 #[.val (.long x), .second, .val (.long n14), .second, .val (.long (0 : Int64)), .second, .val (.long n173), .second, un, un, un, un, un, un] [(.long (100 : Int64)), (.long n173), (.long n178), (.long n14)])
    refine Go.ldiv 93 X10 hx (hb hby d31_92) (by decide) rfl ?_
    have li179 : (100 : Int64).toInt = 100 := by decide
    obtain ⟨n180, h_n180⟩ : ∃ z, z = (n173 / (100 : Int64)) := ⟨_, rfl⟩
    rw [← h_n180]
    show Go _ _ _ _ T10 (mkF m 93 #[.val (.long x), .second, .val (.long n14), .second, .val (.long (0 : Int64)), .second, .val (.long n173), .second, un, un, un, un, un, un] [(.long n180), (.long n178), (.long n14)])
    have e_n180 : n180.toInt = n173.toInt / 100 := by rw [h_n180]; exact (x_ldiv 100 (by decide) (by decide)).1 (by omega)
    refine Go.lsub 94 X10 hx (hb hby d31_93) rfl ?_
    obtain ⟨n181, h_n181⟩ : ∃ z, z = (n178 - n180) := ⟨_, rfl⟩
    rw [← h_n181]
    show Go _ _ _ _ T10 (mkF m 94 #[.val (.long x), .second, .val (.long n14), .second, .val (.long (0 : Int64)), .second, .val (.long n173), .second, un, un, un, un, un, un] [(.long n181), (.long n14)])
    have e_n181 : n181.toInt = n178.toInt - n180.toInt := by rw [h_n181]; exact x_lsub (by omega) (by omega)
    refine Go.lload2 96 X10 hx (hb hby d31_94) rfl rfl ?_
    refine Go.by (fun _ gk => X10.ldc2J hx hown (mvT hZ (ow hw 139 rfl)) (g := (mkF m 96 #[.val (.long x), .second, .val (.long n14), .second, .val (.long (0 : Int64)), .second, .val (.long n173), .second, un, un, un, un, un, un] [(.long n173), (.long n181), (.long n14)])) rfl (hb hby d31_96) gk) ?_
    show Go _ _ _ _ T10 (mkF m 99 #[.val (.long x), .second, .val (.long n14), .second, .val (.long (0 : Int64)), .second, .val (.long n173), .second, un, un, un, un, un, un] [(.long (400 : Int64)), (.long n173), (.long n181), (.long n14)])
    refine Go.ldiv 100 X10 hx (hb hby d31_99) (by decide) rfl ?_
    obtain ⟨n182, h_n182⟩ : ∃ z, z = (n173 / (400 : Int64)) := ⟨_, rfl⟩
    rw [← h_n182]
    show Go _ _ _ _ T10 (mkF m 100 #[.val (.long x), .second, .val (.long n14), .second, .val (.long (0 : Int64)), .second, .val (.long n173), .second, un, un, un, un, un, un] [(.long n182), (.long n181), (.long n14)])
    have e_n182 : n182.toInt = n173.toInt / 400 := by rw [h_n182]; exact (x_ldiv 400 (by decide) (by decide)).1 (by omega)
    refine Go.ladd 101 X10 hx (hb hby d31_100) rfl ?_
    obtain ⟨n183, h_n183⟩ : ∃ z, z = (n181 + n182) := ⟨_, rfl⟩
    rw [← h_n183]
    show Go _ _ _ _ T10 (mkF m 101 #[.val (.long x), .second, .val (.long n14), .second, .val (.long (0 : Int64)), .second, .val (.long n173), .second, un, un, un, un, un, un] [(.long n183), (.long n14)])
    have e_n183 : n183.toInt = n181.toInt + n182.toInt := by rw [h_n183]; exact x_ladd (by omega) (by omega)
    refine Go.lsub 102 X10 hx (hb hby d31_101) rfl ?_
    obtain ⟨n184, h_n184⟩ : ∃ z, z = (n14 - n183) := ⟨_, rfl⟩
    rw [← h_n184]
    show Go _ _ _ _ T10 (mkF m 102 #[.val (.long x), .second, .val (.long n14), .second, .val (.long (0 : Int64)), .second, .val (.long n173), .second, un, un, un, un, un, un] [(.long n184)])
    have e_n184 : n184.toInt = n14.toInt - n183.toInt := by rw [h_n184]; exact x_lsub (by omega) (by omega)
    refine Go.lstore2 104 X10 hx (L' := #[.val (.long x), .second, .val (.long n14), .second, .val (.long (0 : Int64)), .second, .val (.long n173), .second, .val (.long n184), .second, un, un, un, un]) (hb hby d31_102) rfl rfl ?_
    refine Go.lload2 106 X10 hx (hb hby d31_104) rfl rfl ?_
    refine Go.lconst 107 X10 hx (0 : Int64) (hb hby d31_106) (by decide) rfl ?_
    refine Go.lcmp 108 X10 hx (hb hby d31_107) rfl ?_
    have est := own_est n14.toInt n173.toInt hz.2.1 hy1
    have hd1 : n184.toInt = n14.toInt - (365 * n173.toInt + n173.toInt / 4 - n173.toInt / 100 + n173.toInt / 400) := (by omega)
    rw [← hd1] at est
    clear e_n175 e_n177 e_n178 e_n180 e_n181 e_n182 e_n183 e_n184
    by_cases hb185 : n184 < (0 : Int64)
    · refine Go.ifN 111 X10 hx (hb hby d31_108) (XT.ll_ge_f hb185) rfl ?_
      have i_hb185 := o_lt64 hb185
      have h1 : n184.toInt < 0 := by omega
      have est2 := own_est2 n14.toInt n173.toInt (by rw [← hd1]; exact h1) (by rw [← hd1]; exact est.2)
      clear i_hb185
      refine Go.lload2 113 X10 hx (hb hby d31_111) rfl rfl ?_
      refine Go.lconst 114 X10 hx (1 : Int64) (hb hby d31_113) (by decide) rfl ?_
      refine Go.lsub 115 X10 hx (hb hby d31_114) rfl ?_
      have li186 : (1 : Int64).toInt = 1 := by decide
      obtain ⟨n187, h_n187⟩ : ∃ z, z = (n173 - (1 : Int64)) := ⟨_, rfl⟩
      rw [← h_n187]
      show Go _ _ _ _ T10 (mkF m 115 #[.val (.long x), .second, .val (.long n14), .second, .val (.long (0 : Int64)), .second, .val (.long n173), .second, .val (.long n184), .second, un, un, un, un] [(.long n187)])
      have e_n187 : n187.toInt = n173.toInt - (1 : Int64).toInt := by rw [h_n187]; exact x_lsub (by omega) (by omega)
      refine Go.lstore2 117 X10 hx (L' := #[.val (.long x), .second, .val (.long n14), .second, .val (.long (0 : Int64)), .second, .val (.long n187), .second, .val (.long n184), .second, un, un, un, un]) (hb hby d31_115) rfl rfl ?_
      refine Go.lload1 118 X10 hx (hb hby d31_117) rfl rfl ?_
      refine Go.by (fun _ gk => X10.ldc2J hx hown (mvT hZ (ow hw 133 rfl)) (g := (mkF m 118 #[.val (.long x), .second, .val (.long n14), .second, .val (.long (0 : Int64)), .second, .val (.long n187), .second, .val (.long n184), .second, un, un, un, un] [(.long n14)])) rfl (hb hby d31_118) gk) ?_
      show Go _ _ _ _ T10 (mkF m 121 #[.val (.long x), .second, .val (.long n14), .second, .val (.long (0 : Int64)), .second, .val (.long n187), .second, .val (.long n184), .second, un, un, un, un] [(.long (365 : Int64)), (.long n14)])
      refine Go.lload2 123 X10 hx (hb hby d31_121) rfl rfl ?_
      refine Go.lmul 124 X10 hx (hb hby d31_123) rfl ?_
      obtain ⟨n188, h_n188⟩ : ∃ z, z = ((365 : Int64) * n187) := ⟨_, rfl⟩
      rw [← h_n188]
      show Go _ _ _ _ T10 (mkF m 124 #[.val (.long x), .second, .val (.long n14), .second, .val (.long (0 : Int64)), .second, .val (.long n187), .second, .val (.long n184), .second, un, un, un, un] [(.long n188), (.long n14)])
      have e_n188 : n188.toInt = 365 * n187.toInt := by rw [h_n188]; exact x_lmulL 365 (by decide) (by omega) (by omega)
      refine Go.lload2 126 X10 hx (hb hby d31_124) rfl rfl ?_
      refine Go.by (fun _ gk => X10.ldc2J hx hown (mvT hZ (ow hw 135 rfl)) (g := (mkF m 126 #[.val (.long x), .second, .val (.long n14), .second, .val (.long (0 : Int64)), .second, .val (.long n187), .second, .val (.long n184), .second, un, un, un, un] [(.long n187), (.long n188), (.long n14)])) rfl (hb hby d31_126) gk) ?_
      show Go _ _ _ _ T10 (mkF m 129 #[.val (.long x), .second, .val (.long n14), .second, .val (.long (0 : Int64)), .second, .val (.long n187), .second, .val (.long n184), .second, un, un, un, un] [(.long (4 : Int64)), (.long n187), (.long n188), (.long n14)])
      refine Go.ldiv 130 X10 hx (hb hby d31_129) (by decide) rfl ?_
      obtain ⟨n189, h_n189⟩ : ∃ z, z = (n187 / (4 : Int64)) := ⟨_, rfl⟩
      rw [← h_n189]
      show Go _ _ _ _ T10 (mkF m 130 #[.val (.long x), .second, .val (.long n14), .second, .val (.long (0 : Int64)), .second, .val (.long n187), .second, .val (.long n184), .second, un, un, un, un] [(.long n189), (.long n188), (.long n14)])
      have e_n189 : n189.toInt = n187.toInt / 4 := by rw [h_n189]; exact (x_ldiv 4 (by decide) (by decide)).1 (by omega)
      refine Go.ladd 131 X10 hx (hb hby d31_130) rfl ?_
      obtain ⟨n190, h_n190⟩ : ∃ z, z = (n188 + n189) := ⟨_, rfl⟩
      rw [← h_n190]
      show Go _ _ _ _ T10 (mkF m 131 #[.val (.long x), .second, .val (.long n14), .second, .val (.long (0 : Int64)), .second, .val (.long n187), .second, .val (.long n184), .second, un, un, un, un] [(.long n190), (.long n14)])
      have e_n190 : n190.toInt = n188.toInt + n189.toInt := by rw [h_n190]; exact x_ladd (by omega) (by omega)
      refine Go.lload2 133 X10 hx (hb hby d31_131) rfl rfl ?_
      refine Go.by (fun _ gk => X10.ldc2J hx hown (mvT hZ (ow hw 137 rfl)) (g := (mkF m 133 #[.val (.long x), .second, .val (.long n14), .second, .val (.long (0 : Int64)), .second, .val (.long n187), .second, .val (.long n184), .second, un, un, un, un] [(.long n187), (.long n190), (.long n14)])) rfl (hb hby d31_133) gk) ?_
      show Go _ _ _ _ T10 (mkF m 136 #[.val (.long x), .second, .val (.long n14), .second, .val (.long (0 : Int64)), .second, .val (.long n187), .second, .val (.long n184), .second, un, un, un, un] [(.long (100 : Int64)), (.long n187), (.long n190), (.long n14)])
      refine Go.ldiv 137 X10 hx (hb hby d31_136) (by decide) rfl ?_
      obtain ⟨n191, h_n191⟩ : ∃ z, z = (n187 / (100 : Int64)) := ⟨_, rfl⟩
      rw [← h_n191]
      show Go _ _ _ _ T10 (mkF m 137 #[.val (.long x), .second, .val (.long n14), .second, .val (.long (0 : Int64)), .second, .val (.long n187), .second, .val (.long n184), .second, un, un, un, un] [(.long n191), (.long n190), (.long n14)])
      have e_n191 : n191.toInt = n187.toInt / 100 := by rw [h_n191]; exact (x_ldiv 100 (by decide) (by decide)).1 (by omega)
      refine Go.lsub 138 X10 hx (hb hby d31_137) rfl ?_
      obtain ⟨n192, h_n192⟩ : ∃ z, z = (n190 - n191) := ⟨_, rfl⟩
      rw [← h_n192]
      show Go _ _ _ _ T10 (mkF m 138 #[.val (.long x), .second, .val (.long n14), .second, .val (.long (0 : Int64)), .second, .val (.long n187), .second, .val (.long n184), .second, un, un, un, un] [(.long n192), (.long n14)])
      have e_n192 : n192.toInt = n190.toInt - n191.toInt := by rw [h_n192]; exact x_lsub (by omega) (by omega)
      refine Go.lload2 140 X10 hx (hb hby d31_138) rfl rfl ?_
      refine Go.by (fun _ gk => X10.ldc2J hx hown (mvT hZ (ow hw 139 rfl)) (g := (mkF m 140 #[.val (.long x), .second, .val (.long n14), .second, .val (.long (0 : Int64)), .second, .val (.long n187), .second, .val (.long n184), .second, un, un, un, un] [(.long n187), (.long n192), (.long n14)])) rfl (hb hby d31_140) gk) ?_
      show Go _ _ _ _ T10 (mkF m 143 #[.val (.long x), .second, .val (.long n14), .second, .val (.long (0 : Int64)), .second, .val (.long n187), .second, .val (.long n184), .second, un, un, un, un] [(.long (400 : Int64)), (.long n187), (.long n192), (.long n14)])
      refine Go.ldiv 144 X10 hx (hb hby d31_143) (by decide) rfl ?_
      obtain ⟨n193, h_n193⟩ : ∃ z, z = (n187 / (400 : Int64)) := ⟨_, rfl⟩
      rw [← h_n193]
      show Go _ _ _ _ T10 (mkF m 144 #[.val (.long x), .second, .val (.long n14), .second, .val (.long (0 : Int64)), .second, .val (.long n187), .second, .val (.long n184), .second, un, un, un, un] [(.long n193), (.long n192), (.long n14)])
      have e_n193 : n193.toInt = n187.toInt / 400 := by rw [h_n193]; exact (x_ldiv 400 (by decide) (by decide)).1 (by omega)
      refine Go.ladd 145 X10 hx (hb hby d31_144) rfl ?_
      obtain ⟨n194, h_n194⟩ : ∃ z, z = (n192 + n193) := ⟨_, rfl⟩
      rw [← h_n194]
      show Go _ _ _ _ T10 (mkF m 145 #[.val (.long x), .second, .val (.long n14), .second, .val (.long (0 : Int64)), .second, .val (.long n187), .second, .val (.long n184), .second, un, un, un, un] [(.long n194), (.long n14)])
      have e_n194 : n194.toInt = n192.toInt + n193.toInt := by rw [h_n194]; exact x_ladd (by omega) (by omega)
      refine Go.lsub 146 X10 hx (hb hby d31_145) rfl ?_
      obtain ⟨n195, h_n195⟩ : ∃ z, z = (n14 - n194) := ⟨_, rfl⟩
      rw [← h_n195]
      show Go _ _ _ _ T10 (mkF m 146 #[.val (.long x), .second, .val (.long n14), .second, .val (.long (0 : Int64)), .second, .val (.long n187), .second, .val (.long n184), .second, un, un, un, un] [(.long n195)])
      have e_n195 : n195.toInt = n14.toInt - n194.toInt := by rw [h_n195]; exact x_lsub (by omega) (by omega)
      refine Go.lstore2 148 X10 hx (L' := #[.val (.long x), .second, .val (.long n14), .second, .val (.long (0 : Int64)), .second, .val (.long n187), .second, .val (.long n195), .second, un, un, un, un]) (hb hby d31_146) rfl rfl ?_
      have hy2 : n187.toInt = n173.toInt - 1 := (by omega)
      rw [← hy2] at est2
      have hd2 : n195.toInt = n14.toInt - (365 * n187.toInt + n187.toInt / 4 - n187.toInt / 100 + n187.toInt / 400) := (by omega)
      rw [← hd2] at est2
      have hlo : 0 ≤ n195.toInt ∧ n195.toInt ≤ 365 := ⟨est2.2, est2.1⟩
      have hyb : -1 ≤ n187.toInt ∧ n187.toInt ≤ 110000000 := by omega
      clear e_n187 e_n188 e_n189 e_n190 e_n191 e_n192 e_n193 e_n194 e_n195
      refine Go.lload2 150 X10 hx (hb hby d31_148) rfl rfl ?_
      refine Go.lload2 152 X10 hx (hb hby d31_150) rfl rfl ?_
      refine Go.ladd 153 X10 hx (hb hby d31_152) rfl ?_
      obtain ⟨n196, h_n196⟩ : ∃ z, z = (n187 + (0 : Int64)) := ⟨_, rfl⟩
      rw [← h_n196]
      show Go _ _ _ _ T10 (mkF m 153 #[.val (.long x), .second, .val (.long n14), .second, .val (.long (0 : Int64)), .second, .val (.long n187), .second, .val (.long n195), .second, un, un, un, un] [(.long n196)])
      have e_n196 : n196.toInt = n187.toInt + (0 : Int64).toInt := by rw [h_n196]; exact x_ladd (by omega) (by omega)
      refine Go.lstore2 155 X10 hx (L' := #[.val (.long x), .second, .val (.long n14), .second, .val (.long (0 : Int64)), .second, .val (.long n196), .second, .val (.long n195), .second, un, un, un, un]) (hb hby d31_153) rfl rfl ?_
      refine Go.lload2 157 X10 hx (hb hby d31_155) rfl rfl ?_
      refine Go.l2i 158 X10 hx (hb hby d31_157) rfl ?_
      obtain ⟨n197, h_n197⟩ : ∃ z, z = (n195.toInt32) := ⟨_, rfl⟩
      rw [← h_n197]
      show Go _ _ _ _ T10 (mkF m 158 #[.val (.long x), .second, .val (.long n14), .second, .val (.long (0 : Int64)), .second, .val (.long n196), .second, .val (.long n195), .second, un, un, un, un] [(.int n197)])
      have e_n197 : n197.toInt = n195.toInt := by rw [h_n197]; exact x_l2i (by omega) (by omega)
      refine Go.istore2 160 X10 hx (L' := #[.val (.long x), .second, .val (.long n14), .second, .val (.long (0 : Int64)), .second, .val (.long n196), .second, .val (.long n195), .second, iv n197, un, un, un]) (hb hby d31_158) rfl rfl ?_
      refine Go.iload2 162 X10 hx (hb hby d31_160) rfl rfl ?_
      refine Go.iconst 163 X10 hx (5 : Int32) (hb hby d31_162) (by decide) rfl ?_
      refine Go.imul 164 X10 hx (hb hby d31_163) rfl ?_
      have li198 : (5 : Int32).toInt = 5 := by decide
      obtain ⟨n199, h_n199⟩ : ∃ z, z = (n197 * (5 : Int32)) := ⟨_, rfl⟩
      rw [← h_n199]
      show Go _ _ _ _ T10 (mkF m 164 #[.val (.long x), .second, .val (.long n14), .second, .val (.long (0 : Int64)), .second, .val (.long n196), .second, .val (.long n195), .second, iv n197, un, un, un] [(.int n199)])
      have e_n199 : n199.toInt = n197.toInt * 5 := by rw [h_n199]; exact x_imulR 5 (by decide) (by omega) (by omega)
      refine Go.iconst 165 X10 hx (2 : Int32) (hb hby d31_164) (by decide) rfl ?_
      refine Go.iadd 166 X10 hx (hb hby d31_165) rfl ?_
      have li200 : (2 : Int32).toInt = 2 := by decide
      obtain ⟨n201, h_n201⟩ : ∃ z, z = (n199 + (2 : Int32)) := ⟨_, rfl⟩
      rw [← h_n201]
      show Go _ _ _ _ T10 (mkF m 166 #[.val (.long x), .second, .val (.long n14), .second, .val (.long (0 : Int64)), .second, .val (.long n196), .second, .val (.long n195), .second, iv n197, un, un, un] [(.int n201)])
      have e_n201 : n201.toInt = n199.toInt + (2 : Int32).toInt := by rw [h_n201]; exact x_iadd (by omega) (by omega)
      refine Go.sipush 169 X10 hx (153 : Int32) (hb hby d31_166) (by decide) rfl ?_
      refine Go.idiv 170 X10 hx (hb hby d31_169) (by decide) rfl ?_
      have li202 : (153 : Int32).toInt = 153 := by decide
      obtain ⟨n203, h_n203⟩ : ∃ z, z = (n201 / (153 : Int32)) := ⟨_, rfl⟩
      rw [← h_n203]
      show Go _ _ _ _ T10 (mkF m 170 #[.val (.long x), .second, .val (.long n14), .second, .val (.long (0 : Int64)), .second, .val (.long n196), .second, .val (.long n195), .second, iv n197, un, un, un] [(.int n203)])
      have e_n203 : n203.toInt = n201.toInt / 153 := by rw [h_n203]; exact (x_idiv 153 (by decide) (by decide)).1 (by omega)
      refine Go.istore2 172 X10 hx (L' := #[.val (.long x), .second, .val (.long n14), .second, .val (.long (0 : Int64)), .second, .val (.long n196), .second, .val (.long n195), .second, iv n197, iv n203, un, un]) (hb hby d31_170) rfl rfl ?_
      refine Go.iload2 174 X10 hx (hb hby d31_172) rfl rfl ?_
      refine Go.iconst 175 X10 hx (3 : Int32) (hb hby d31_174) (by decide) rfl ?_
      refine Go.iadd 176 X10 hx (hb hby d31_175) rfl ?_
      have li204 : (3 : Int32).toInt = 3 := by decide
      obtain ⟨n205, h_n205⟩ : ∃ z, z = (n203 + (3 : Int32)) := ⟨_, rfl⟩
      rw [← h_n205]
      show Go _ _ _ _ T10 (mkF m 176 #[.val (.long x), .second, .val (.long n14), .second, .val (.long (0 : Int64)), .second, .val (.long n196), .second, .val (.long n195), .second, iv n197, iv n203, un, un] [(.int n205)])
      have e_n205 : n205.toInt = n203.toInt + (3 : Int32).toInt := by rw [h_n205]; exact x_iadd (by omega) (by omega)
      refine Go.istore2 178 X10 hx (L' := #[.val (.long x), .second, .val (.long n14), .second, .val (.long (0 : Int64)), .second, .val (.long n196), .second, .val (.long n195), .second, iv n197, iv n203, iv n205, un]) (hb hby d31_176) rfl rfl ?_
      refine Go.iload2 180 X10 hx (hb hby d31_178) rfl rfl ?_
      refine Go.bipush 182 X10 hx (12 : Int32) (hb hby d31_180) (by decide) rfl ?_
      have hmm : n203.toInt = (n195.toInt * 5 + 2) / 153 := (by omega)
      have li206 : (12 : Int32).toInt = 12 := by decide
      by_cases hb207 : (12 : Int32) < n205
      · refine Go.icmpN 185 X10 hx (hb hby d31_182) (XT.ii_le_f hb207) rfl ?_
        have i_hb207 := o_lt32 hb207
        refine Go.iinc 188 X10 hx (-12 : Int32) (L' := #[.val (.long x), .second, .val (.long n14), .second, .val (.long (0 : Int64)), .second, .val (.long n196), .second, .val (.long n195), .second, iv n197, iv n203, iv (n205 + (-12 : Int32)), un]) (hb hby d31_185) (by decide) rfl rfl rfl ?_
        have li208 : (-12 : Int32).toInt = -12 := by decide
        obtain ⟨n209, h_n209⟩ : ∃ z, z = (n205 + (-12 : Int32)) := ⟨_, rfl⟩
        rw [← h_n209]
        show Go _ _ _ _ T10 (mkF m 188 #[.val (.long x), .second, .val (.long n14), .second, .val (.long (0 : Int64)), .second, .val (.long n196), .second, .val (.long n195), .second, iv n197, iv n203, iv n209, un] [])
        have e_n209 : n209.toInt = n205.toInt + (-12 : Int32).toInt := by rw [h_n209]; exact x_iadd (by omega) (by omega)
        refine Go.iload2 190 X10 hx (hb hby d31_188) rfl rfl ?_
        refine Go.iload2 192 X10 hx (hb hby d31_190) rfl rfl ?_
        refine Go.sipush 195 X10 hx (306 : Int32) (hb hby d31_192) (by decide) rfl ?_
        refine Go.imul 196 X10 hx (hb hby d31_195) rfl ?_
        have li210 : (306 : Int32).toInt = 306 := by decide
        obtain ⟨n211, h_n211⟩ : ∃ z, z = (n203 * (306 : Int32)) := ⟨_, rfl⟩
        rw [← h_n211]
        show Go _ _ _ _ T10 (mkF m 196 #[.val (.long x), .second, .val (.long n14), .second, .val (.long (0 : Int64)), .second, .val (.long n196), .second, .val (.long n195), .second, iv n197, iv n203, iv n209, un] [(.int n211), (.int n197)])
        have e_n211 : n211.toInt = n203.toInt * 306 := by rw [h_n211]; exact x_imulR 306 (by decide) (by omega) (by omega)
        refine Go.iconst 197 X10 hx (5 : Int32) (hb hby d31_196) (by decide) rfl ?_
        refine Go.iadd 198 X10 hx (hb hby d31_197) rfl ?_
        obtain ⟨n212, h_n212⟩ : ∃ z, z = (n211 + (5 : Int32)) := ⟨_, rfl⟩
        rw [← h_n212]
        show Go _ _ _ _ T10 (mkF m 198 #[.val (.long x), .second, .val (.long n14), .second, .val (.long (0 : Int64)), .second, .val (.long n196), .second, .val (.long n195), .second, iv n197, iv n203, iv n209, un] [(.int n212), (.int n197)])
        have e_n212 : n212.toInt = n211.toInt + (5 : Int32).toInt := by rw [h_n212]; exact x_iadd (by omega) (by omega)
        refine Go.bipush 200 X10 hx (10 : Int32) (hb hby d31_198) (by decide) rfl ?_
        refine Go.idiv 201 X10 hx (hb hby d31_200) (by decide) rfl ?_
        have li213 : (10 : Int32).toInt = 10 := by decide
        obtain ⟨n214, h_n214⟩ : ∃ z, z = (n212 / (10 : Int32)) := ⟨_, rfl⟩
        rw [← h_n214]
        show Go _ _ _ _ T10 (mkF m 201 #[.val (.long x), .second, .val (.long n14), .second, .val (.long (0 : Int64)), .second, .val (.long n196), .second, .val (.long n195), .second, iv n197, iv n203, iv n209, un] [(.int n214), (.int n197)])
        have e_n214 : n214.toInt = n212.toInt / 10 := by rw [h_n214]; exact (x_idiv 10 (by decide) (by decide)).1 (by omega)
        refine Go.isub 202 X10 hx (hb hby d31_201) rfl ?_
        obtain ⟨n215, h_n215⟩ : ∃ z, z = (n197 - n214) := ⟨_, rfl⟩
        rw [← h_n215]
        show Go _ _ _ _ T10 (mkF m 202 #[.val (.long x), .second, .val (.long n14), .second, .val (.long (0 : Int64)), .second, .val (.long n196), .second, .val (.long n195), .second, iv n197, iv n203, iv n209, un] [(.int n215)])
        have e_n215 : n215.toInt = n197.toInt - n214.toInt := by rw [h_n215]; exact x_isub (by omega) (by omega)
        refine Go.iconst 203 X10 hx (1 : Int32) (hb hby d31_202) (by decide) rfl ?_
        refine Go.iadd 204 X10 hx (hb hby d31_203) rfl ?_
        have li216 : (1 : Int32).toInt = 1 := by decide
        obtain ⟨n217, h_n217⟩ : ∃ z, z = (n215 + (1 : Int32)) := ⟨_, rfl⟩
        rw [← h_n217]
        show Go _ _ _ _ T10 (mkF m 204 #[.val (.long x), .second, .val (.long n14), .second, .val (.long (0 : Int64)), .second, .val (.long n196), .second, .val (.long n195), .second, iv n197, iv n203, iv n209, un] [(.int n217)])
        have e_n217 : n217.toInt = n215.toInt + (1 : Int32).toInt := by rw [h_n217]; exact x_iadd (by omega) (by omega)
        refine Go.istore2 206 X10 hx (L' := #[.val (.long x), .second, .val (.long n14), .second, .val (.long (0 : Int64)), .second, .val (.long n196), .second, .val (.long n195), .second, iv n197, iv n203, iv n209, iv n217]) (hb hby d31_204) rfl rfl ?_
        refine Go.iload2 208 X10 hx (hb hby d31_206) rfl rfl ?_
        refine Go.sipush 211 X10 hx (306 : Int32) (hb hby d31_208) (by decide) rfl ?_
        by_cases hb218 : n197 < (306 : Int32)
        · refine Go.icmpY 220 X10 hx (hb hby d31_211) (XT.ii_lt_t hb218) (by decide) (by decide) ?_
          have i_hb218 := o_lt32 hb218
          have hmq : (n203.toInt ≤ 9 ∧ n209.toInt = n203.toInt + 3) ∨ (9 < n203.toInt ∧ n209.toInt = n203.toInt - 9) := (by omega)
          have hyq : (n195.toInt < 306 ∧ n196.toInt = n187.toInt + 400 * (0)) ∨ (306 ≤ n195.toInt ∧ n196.toInt = n187.toInt + 400 * (0) + 1) := (by omega)
          have hdq : n217.toInt = n195.toInt - (n203.toInt * 306 + 5) / 10 + 1 := (by omega)
          have of := own_of n14.toInt x.toInt n187.toInt n195.toInt n203.toInt n209.toInt n217.toInt n196.toInt (0) hz.1 hz.2.1 hd2 hlo.1 hlo.2 hmm hdq hmq hyq
          have hyr : -100000000 ≤ n196.toInt ∧ n196.toInt ≤ 100000000 := by omega
          clear e_n196 e_n197 e_n199 e_n201 e_n203 e_n205 i_hb207 e_n209 e_n211 e_n212 e_n214 e_n215 e_n217 i_hb218
          obtain ⟨b, g219⟩ : ∃ z, z = h0.size := ⟨_, rfl⟩
          have ge_b : n0 ≤ b := Nat.le_trans Z0 (Nat.le_of_eq g219.symm)
          have sz_b : h0.size ≤ b := Nat.le_trans (Keep.refl h0 []).1 (Nat.le_of_eq g219.symm)
          obtain ⟨T219, h219, X219, e219, E219, A219, D219, -, st219⟩ := newO X10 hx hZ hown (ow hw 109 rfl) (ow hw 110 rfl) (ow hw 63 rfl) e10 (g := (mkF m 220 #[.val (.long x), .second, .val (.long n14), .second, .val (.long (0 : Int64)), .second, .val (.long n196), .second, .val (.long n195), .second, iv n197, iv n203, iv n209, iv n217] [])) rfl (hb hby d31_220) (by decide) (by decide)
          rw [← g219] at A219 D219 st219
          have F_year_b : Fld Z h219 b "java/time/LocalDate" "year" "I" (.int 0) := D219 (Or.inr (ow hw 117 rfl)) (ty := .int) (by decide)
          have F_month_b : Fld Z h219 b "java/time/LocalDate" "month" "S" (.int 0) := D219 (Or.inr (ow hw 119 rfl)) (ty := .short) (by decide)
          have F_day_b : Fld Z h219 b "java/time/LocalDate" "day" "S" (.int 0) := D219 (Or.inr (ow hw 121 rfl)) (ty := .short) (by decide)
          refine Go.by st219 ?_
          show Go _ _ _ _ T219 (mkF m 223 #[.val (.long x), .second, .val (.long n14), .second, .val (.long (0 : Int64)), .second, .val (.long n196), .second, .val (.long n195), .second, iv n197, iv n203, iv n209, iv n217] [(.ref b)])
          refine Go.dup 224 X219 hx (hb hby d31_223) rfl rfl ?_
          refine Go.lload2 226 X219 hx (hb hby d31_224) rfl rfl ?_
          refine Go.l2i 227 X219 hx (hb hby d31_226) rfl ?_
          obtain ⟨n220, h_n220⟩ : ∃ z, z = (n196.toInt32) := ⟨_, rfl⟩
          rw [← h_n220]
          show Go _ _ _ _ T219 (mkF m 227 #[.val (.long x), .second, .val (.long n14), .second, .val (.long (0 : Int64)), .second, .val (.long n196), .second, .val (.long n195), .second, iv n197, iv n203, iv n209, iv n217] [(.int n220), (.ref b), (.ref b)])
          have e_n220 : n220.toInt = n196.toInt := by rw [h_n220]; exact x_l2i (by omega) (by omega)
          refine Go.iload2 229 X219 hx (hb hby d31_227) rfl rfl ?_
          refine Go.iload2 231 X219 hx (hb hby d31_229) rfl rfl ?_
          have F221 : n0 ≤ h219.size := Nat.le_trans Z0 E219.1
          obtain ⟨_, _, ⟨T222, L222, k222, n222⟩, -, X222, ⟨Lc222, hQ222, l222, y222, z222⟩, st222⟩ := X219.specialBack hx (y := (⟨"java/time/LocalDate", "<init>", "(III)V"⟩ : MethodName)) rfl hown (mvT hZ (ow hw 111 rfl)) (mvT hZ (ow hw 112 rfl)) (mvT hZ (ow hw 114 rfl)) (by decide) (backOf (W := 1) (rmLd l Z a0 hw [] b n220 n209 n217 h219 n0 F221 A219 F_year_b F_month_b F_day_b ge_b (by omega) (by omega)) hZ (ow hw 114 rfl) (ow hw 63 rfl) (by decide) (by decide)) (g := (mkF m 231 #[.val (.long x), .second, .val (.long n14), .second, .val (.long (0 : Int64)), .second, .val (.long n196), .second, .val (.long n195), .second, iv n197, iv n203, iv n209, iv n217] [(.int n217), (.int n209), (.int n220), (.ref b), (.ref b)])) rfl (by rw [hml]; rfl) (Steps.refl _) (a := b) (argsL := [(.int n220), (.int n209), (.int n217)]) (rest := [(.ref b)]) (lenOf pd_329 rfl) rfl (by show 2 * 0 + _ ≤ _; exact Nat.le_of_eq rfl) (hb hby d31_231) (fun _ _ => ⟨rfl, e219, (by decide : 1 + 0 ≤ _), (by decide : 3 + 0 ≤ _)⟩)
          dsimp only [Pt.U, Pt.locs, Pt.cells, Pt.slots] at X222 l222 y222 z222 st222 hQ222
          subst l222 y222 z222
          obtain ⟨rfl, N222q, K222, Q222_0, Q222_1, Q222_2, Q222_3⟩ := hQ222
          have N222 := Fr.app N10 N222q
          refine Go.to st222 ?_
          show Go _ _ _ _ T222 (mkF m 234 #[.val (.long x), .second, .val (.long n14), .second, .val (.long (0 : Int64)), .second, .val (.long n196), .second, .val (.long n195), .second, iv n197, iv n203, iv n209, iv n217] [(.ref b)])
          rw [← e_n220] at of hyr
          have F223 : Keep h0 h219 [] := (Keep.refl h0 []).ext E219
          have F224 : Keep h0 T222.heap [] := F223.trans K222 (allS (Or.inr sz_b) all0)
          exact Go.retA X222 hx Bd.notSynchronized Bd.returns rfl rfl (hb hby d31_234) ⟨b, n220, n209, n217, rfl, N222, F224, Q222_0, Q222_1, Q222_2, Q222_3, of.1, hyr, ⟨of.2.1, of.2.2.1⟩, of.2.2.2⟩ (by decide) (by decide)
        · refine Go.icmpN 214 X10 hx (hb hby d31_211) (XT.ii_lt_f hb218) rfl ?_
          have i_hb218 := o_nlt32 hb218
          refine Go.lload2 216 X10 hx (hb hby d31_214) rfl rfl ?_
          refine Go.lconst 217 X10 hx (1 : Int64) (hb hby d31_216) (by decide) rfl ?_
          refine Go.ladd 218 X10 hx (hb hby d31_217) rfl ?_
          obtain ⟨n225, h_n225⟩ : ∃ z, z = (n196 + (1 : Int64)) := ⟨_, rfl⟩
          rw [← h_n225]
          show Go _ _ _ _ T10 (mkF m 218 #[.val (.long x), .second, .val (.long n14), .second, .val (.long (0 : Int64)), .second, .val (.long n196), .second, .val (.long n195), .second, iv n197, iv n203, iv n209, iv n217] [(.long n225)])
          have e_n225 : n225.toInt = n196.toInt + (1 : Int64).toInt := by rw [h_n225]; exact x_ladd (by omega) (by omega)
          refine Go.lstore2 220 X10 hx (L' := #[.val (.long x), .second, .val (.long n14), .second, .val (.long (0 : Int64)), .second, .val (.long n225), .second, .val (.long n195), .second, iv n197, iv n203, iv n209, iv n217]) (hb hby d31_218) rfl rfl ?_
          have hmq : (n203.toInt ≤ 9 ∧ n209.toInt = n203.toInt + 3) ∨ (9 < n203.toInt ∧ n209.toInt = n203.toInt - 9) := (by omega)
          have hyq : (n195.toInt < 306 ∧ n225.toInt = n187.toInt + 400 * (0)) ∨ (306 ≤ n195.toInt ∧ n225.toInt = n187.toInt + 400 * (0) + 1) := (by omega)
          have hdq : n217.toInt = n195.toInt - (n203.toInt * 306 + 5) / 10 + 1 := (by omega)
          have of := own_of n14.toInt x.toInt n187.toInt n195.toInt n203.toInt n209.toInt n217.toInt n225.toInt (0) hz.1 hz.2.1 hd2 hlo.1 hlo.2 hmm hdq hmq hyq
          have hyr : -100000000 ≤ n225.toInt ∧ n225.toInt ≤ 100000000 := by omega
          clear e_n196 e_n197 e_n199 e_n201 e_n203 e_n205 i_hb207 e_n209 e_n211 e_n212 e_n214 e_n215 e_n217 i_hb218 e_n225
          obtain ⟨b, g226⟩ : ∃ z, z = h0.size := ⟨_, rfl⟩
          have ge_b : n0 ≤ b := Nat.le_trans Z0 (Nat.le_of_eq g226.symm)
          have sz_b : h0.size ≤ b := Nat.le_trans (Keep.refl h0 []).1 (Nat.le_of_eq g226.symm)
          obtain ⟨T226, h226, X226, e226, E226, A226, D226, -, st226⟩ := newO X10 hx hZ hown (ow hw 109 rfl) (ow hw 110 rfl) (ow hw 63 rfl) e10 (g := (mkF m 220 #[.val (.long x), .second, .val (.long n14), .second, .val (.long (0 : Int64)), .second, .val (.long n225), .second, .val (.long n195), .second, iv n197, iv n203, iv n209, iv n217] [])) rfl (hb hby d31_220) (by decide) (by decide)
          rw [← g226] at A226 D226 st226
          have F_year_b : Fld Z h226 b "java/time/LocalDate" "year" "I" (.int 0) := D226 (Or.inr (ow hw 117 rfl)) (ty := .int) (by decide)
          have F_month_b : Fld Z h226 b "java/time/LocalDate" "month" "S" (.int 0) := D226 (Or.inr (ow hw 119 rfl)) (ty := .short) (by decide)
          have F_day_b : Fld Z h226 b "java/time/LocalDate" "day" "S" (.int 0) := D226 (Or.inr (ow hw 121 rfl)) (ty := .short) (by decide)
          refine Go.by st226 ?_
          show Go _ _ _ _ T226 (mkF m 223 #[.val (.long x), .second, .val (.long n14), .second, .val (.long (0 : Int64)), .second, .val (.long n225), .second, .val (.long n195), .second, iv n197, iv n203, iv n209, iv n217] [(.ref b)])
          refine Go.dup 224 X226 hx (hb hby d31_223) rfl rfl ?_
          refine Go.lload2 226 X226 hx (hb hby d31_224) rfl rfl ?_
          refine Go.l2i 227 X226 hx (hb hby d31_226) rfl ?_
          obtain ⟨n227, h_n227⟩ : ∃ z, z = (n225.toInt32) := ⟨_, rfl⟩
          rw [← h_n227]
          show Go _ _ _ _ T226 (mkF m 227 #[.val (.long x), .second, .val (.long n14), .second, .val (.long (0 : Int64)), .second, .val (.long n225), .second, .val (.long n195), .second, iv n197, iv n203, iv n209, iv n217] [(.int n227), (.ref b), (.ref b)])
          have e_n227 : n227.toInt = n225.toInt := by rw [h_n227]; exact x_l2i (by omega) (by omega)
          refine Go.iload2 229 X226 hx (hb hby d31_227) rfl rfl ?_
          refine Go.iload2 231 X226 hx (hb hby d31_229) rfl rfl ?_
          have F228 : n0 ≤ h226.size := Nat.le_trans Z0 E226.1
          obtain ⟨_, _, ⟨T229, L229, k229, n229⟩, -, X229, ⟨Lc229, hQ229, l229, y229, z229⟩, st229⟩ := X226.specialBack hx (y := (⟨"java/time/LocalDate", "<init>", "(III)V"⟩ : MethodName)) rfl hown (mvT hZ (ow hw 111 rfl)) (mvT hZ (ow hw 112 rfl)) (mvT hZ (ow hw 114 rfl)) (by decide) (backOf (W := 1) (rmLd l Z a0 hw [] b n227 n209 n217 h226 n0 F228 A226 F_year_b F_month_b F_day_b ge_b (by omega) (by omega)) hZ (ow hw 114 rfl) (ow hw 63 rfl) (by decide) (by decide)) (g := (mkF m 231 #[.val (.long x), .second, .val (.long n14), .second, .val (.long (0 : Int64)), .second, .val (.long n225), .second, .val (.long n195), .second, iv n197, iv n203, iv n209, iv n217] [(.int n217), (.int n209), (.int n227), (.ref b), (.ref b)])) rfl (by rw [hml]; rfl) (Steps.refl _) (a := b) (argsL := [(.int n227), (.int n209), (.int n217)]) (rest := [(.ref b)]) (lenOf pd_329 rfl) rfl (by show 2 * 0 + _ ≤ _; exact Nat.le_of_eq rfl) (hb hby d31_231) (fun _ _ => ⟨rfl, e226, (by decide : 1 + 0 ≤ _), (by decide : 3 + 0 ≤ _)⟩)
          dsimp only [Pt.U, Pt.locs, Pt.cells, Pt.slots] at X229 l229 y229 z229 st229 hQ229
          subst l229 y229 z229
          obtain ⟨rfl, N229q, K229, Q229_0, Q229_1, Q229_2, Q229_3⟩ := hQ229
          have N229 := Fr.app N10 N229q
          refine Go.to st229 ?_
          show Go _ _ _ _ T229 (mkF m 234 #[.val (.long x), .second, .val (.long n14), .second, .val (.long (0 : Int64)), .second, .val (.long n225), .second, .val (.long n195), .second, iv n197, iv n203, iv n209, iv n217] [(.ref b)])
          rw [← e_n227] at of hyr
          have F230 : Keep h0 h226 [] := (Keep.refl h0 []).ext E226
          have F231 : Keep h0 T229.heap [] := F230.trans K229 (allS (Or.inr sz_b) all0)
          exact Go.retA X229 hx Bd.notSynchronized Bd.returns rfl rfl (hb hby d31_234) ⟨b, n227, n209, n217, rfl, N229, F231, Q229_0, Q229_1, Q229_2, Q229_3, of.1, hyr, ⟨of.2.1, of.2.2.1⟩, of.2.2.2⟩ (by decide) (by decide)
      · refine Go.icmpY 188 X10 hx (hb hby d31_182) (XT.ii_le_t hb207) (by decide) (by decide) ?_
        have i_hb207 := o_nlt32 hb207
        refine Go.iload2 190 X10 hx (hb hby d31_188) rfl rfl ?_
        refine Go.iload2 192 X10 hx (hb hby d31_190) rfl rfl ?_
        refine Go.sipush 195 X10 hx (306 : Int32) (hb hby d31_192) (by decide) rfl ?_
        refine Go.imul 196 X10 hx (hb hby d31_195) rfl ?_
        have li232 : (306 : Int32).toInt = 306 := by decide
        obtain ⟨n233, h_n233⟩ : ∃ z, z = (n203 * (306 : Int32)) := ⟨_, rfl⟩
        rw [← h_n233]
        show Go _ _ _ _ T10 (mkF m 196 #[.val (.long x), .second, .val (.long n14), .second, .val (.long (0 : Int64)), .second, .val (.long n196), .second, .val (.long n195), .second, iv n197, iv n203, iv n205, un] [(.int n233), (.int n197)])
        have e_n233 : n233.toInt = n203.toInt * 306 := by rw [h_n233]; exact x_imulR 306 (by decide) (by omega) (by omega)
        refine Go.iconst 197 X10 hx (5 : Int32) (hb hby d31_196) (by decide) rfl ?_
        refine Go.iadd 198 X10 hx (hb hby d31_197) rfl ?_
        obtain ⟨n234, h_n234⟩ : ∃ z, z = (n233 + (5 : Int32)) := ⟨_, rfl⟩
        rw [← h_n234]
        show Go _ _ _ _ T10 (mkF m 198 #[.val (.long x), .second, .val (.long n14), .second, .val (.long (0 : Int64)), .second, .val (.long n196), .second, .val (.long n195), .second, iv n197, iv n203, iv n205, un] [(.int n234), (.int n197)])
        have e_n234 : n234.toInt = n233.toInt + (5 : Int32).toInt := by rw [h_n234]; exact x_iadd (by omega) (by omega)
        refine Go.bipush 200 X10 hx (10 : Int32) (hb hby d31_198) (by decide) rfl ?_
        refine Go.idiv 201 X10 hx (hb hby d31_200) (by decide) rfl ?_
        have li235 : (10 : Int32).toInt = 10 := by decide
        obtain ⟨n236, h_n236⟩ : ∃ z, z = (n234 / (10 : Int32)) := ⟨_, rfl⟩
        rw [← h_n236]
        show Go _ _ _ _ T10 (mkF m 201 #[.val (.long x), .second, .val (.long n14), .second, .val (.long (0 : Int64)), .second, .val (.long n196), .second, .val (.long n195), .second, iv n197, iv n203, iv n205, un] [(.int n236), (.int n197)])
        have e_n236 : n236.toInt = n234.toInt / 10 := by rw [h_n236]; exact (x_idiv 10 (by decide) (by decide)).1 (by omega)
        refine Go.isub 202 X10 hx (hb hby d31_201) rfl ?_
        obtain ⟨n237, h_n237⟩ : ∃ z, z = (n197 - n236) := ⟨_, rfl⟩
        rw [← h_n237]
        show Go _ _ _ _ T10 (mkF m 202 #[.val (.long x), .second, .val (.long n14), .second, .val (.long (0 : Int64)), .second, .val (.long n196), .second, .val (.long n195), .second, iv n197, iv n203, iv n205, un] [(.int n237)])
        have e_n237 : n237.toInt = n197.toInt - n236.toInt := by rw [h_n237]; exact x_isub (by omega) (by omega)
        refine Go.iconst 203 X10 hx (1 : Int32) (hb hby d31_202) (by decide) rfl ?_
        refine Go.iadd 204 X10 hx (hb hby d31_203) rfl ?_
        have li238 : (1 : Int32).toInt = 1 := by decide
        obtain ⟨n239, h_n239⟩ : ∃ z, z = (n237 + (1 : Int32)) := ⟨_, rfl⟩
        rw [← h_n239]
        show Go _ _ _ _ T10 (mkF m 204 #[.val (.long x), .second, .val (.long n14), .second, .val (.long (0 : Int64)), .second, .val (.long n196), .second, .val (.long n195), .second, iv n197, iv n203, iv n205, un] [(.int n239)])
        have e_n239 : n239.toInt = n237.toInt + (1 : Int32).toInt := by rw [h_n239]; exact x_iadd (by omega) (by omega)
        refine Go.istore2 206 X10 hx (L' := #[.val (.long x), .second, .val (.long n14), .second, .val (.long (0 : Int64)), .second, .val (.long n196), .second, .val (.long n195), .second, iv n197, iv n203, iv n205, iv n239]) (hb hby d31_204) rfl rfl ?_
        refine Go.iload2 208 X10 hx (hb hby d31_206) rfl rfl ?_
        refine Go.sipush 211 X10 hx (306 : Int32) (hb hby d31_208) (by decide) rfl ?_
        by_cases hb240 : n197 < (306 : Int32)
        · refine Go.icmpY 220 X10 hx (hb hby d31_211) (XT.ii_lt_t hb240) (by decide) (by decide) ?_
          have i_hb240 := o_lt32 hb240
          have hmq : (n203.toInt ≤ 9 ∧ n205.toInt = n203.toInt + 3) ∨ (9 < n203.toInt ∧ n205.toInt = n203.toInt - 9) := (by omega)
          have hyq : (n195.toInt < 306 ∧ n196.toInt = n187.toInt + 400 * (0)) ∨ (306 ≤ n195.toInt ∧ n196.toInt = n187.toInt + 400 * (0) + 1) := (by omega)
          have hdq : n239.toInt = n195.toInt - (n203.toInt * 306 + 5) / 10 + 1 := (by omega)
          have of := own_of n14.toInt x.toInt n187.toInt n195.toInt n203.toInt n205.toInt n239.toInt n196.toInt (0) hz.1 hz.2.1 hd2 hlo.1 hlo.2 hmm hdq hmq hyq
          have hyr : -100000000 ≤ n196.toInt ∧ n196.toInt ≤ 100000000 := by omega
          clear e_n196 e_n197 e_n199 e_n201 e_n203 e_n205 i_hb207 e_n233 e_n234 e_n236 e_n237 e_n239 i_hb240
          obtain ⟨b, g241⟩ : ∃ z, z = h0.size := ⟨_, rfl⟩
          have ge_b : n0 ≤ b := Nat.le_trans Z0 (Nat.le_of_eq g241.symm)
          have sz_b : h0.size ≤ b := Nat.le_trans (Keep.refl h0 []).1 (Nat.le_of_eq g241.symm)
          obtain ⟨T241, h241, X241, e241, E241, A241, D241, -, st241⟩ := newO X10 hx hZ hown (ow hw 109 rfl) (ow hw 110 rfl) (ow hw 63 rfl) e10 (g := (mkF m 220 #[.val (.long x), .second, .val (.long n14), .second, .val (.long (0 : Int64)), .second, .val (.long n196), .second, .val (.long n195), .second, iv n197, iv n203, iv n205, iv n239] [])) rfl (hb hby d31_220) (by decide) (by decide)
          rw [← g241] at A241 D241 st241
          have F_year_b : Fld Z h241 b "java/time/LocalDate" "year" "I" (.int 0) := D241 (Or.inr (ow hw 117 rfl)) (ty := .int) (by decide)
          have F_month_b : Fld Z h241 b "java/time/LocalDate" "month" "S" (.int 0) := D241 (Or.inr (ow hw 119 rfl)) (ty := .short) (by decide)
          have F_day_b : Fld Z h241 b "java/time/LocalDate" "day" "S" (.int 0) := D241 (Or.inr (ow hw 121 rfl)) (ty := .short) (by decide)
          refine Go.by st241 ?_
          show Go _ _ _ _ T241 (mkF m 223 #[.val (.long x), .second, .val (.long n14), .second, .val (.long (0 : Int64)), .second, .val (.long n196), .second, .val (.long n195), .second, iv n197, iv n203, iv n205, iv n239] [(.ref b)])
          refine Go.dup 224 X241 hx (hb hby d31_223) rfl rfl ?_
          refine Go.lload2 226 X241 hx (hb hby d31_224) rfl rfl ?_
          refine Go.l2i 227 X241 hx (hb hby d31_226) rfl ?_
          obtain ⟨n242, h_n242⟩ : ∃ z, z = (n196.toInt32) := ⟨_, rfl⟩
          rw [← h_n242]
          show Go _ _ _ _ T241 (mkF m 227 #[.val (.long x), .second, .val (.long n14), .second, .val (.long (0 : Int64)), .second, .val (.long n196), .second, .val (.long n195), .second, iv n197, iv n203, iv n205, iv n239] [(.int n242), (.ref b), (.ref b)])
          have e_n242 : n242.toInt = n196.toInt := by rw [h_n242]; exact x_l2i (by omega) (by omega)
          refine Go.iload2 229 X241 hx (hb hby d31_227) rfl rfl ?_
          refine Go.iload2 231 X241 hx (hb hby d31_229) rfl rfl ?_
          have F243 : n0 ≤ h241.size := Nat.le_trans Z0 E241.1
          obtain ⟨_, _, ⟨T244, L244, k244, n244⟩, -, X244, ⟨Lc244, hQ244, l244, y244, z244⟩, st244⟩ := X241.specialBack hx (y := (⟨"java/time/LocalDate", "<init>", "(III)V"⟩ : MethodName)) rfl hown (mvT hZ (ow hw 111 rfl)) (mvT hZ (ow hw 112 rfl)) (mvT hZ (ow hw 114 rfl)) (by decide) (backOf (W := 1) (rmLd l Z a0 hw [] b n242 n205 n239 h241 n0 F243 A241 F_year_b F_month_b F_day_b ge_b (by omega) (by omega)) hZ (ow hw 114 rfl) (ow hw 63 rfl) (by decide) (by decide)) (g := (mkF m 231 #[.val (.long x), .second, .val (.long n14), .second, .val (.long (0 : Int64)), .second, .val (.long n196), .second, .val (.long n195), .second, iv n197, iv n203, iv n205, iv n239] [(.int n239), (.int n205), (.int n242), (.ref b), (.ref b)])) rfl (by rw [hml]; rfl) (Steps.refl _) (a := b) (argsL := [(.int n242), (.int n205), (.int n239)]) (rest := [(.ref b)]) (lenOf pd_329 rfl) rfl (by show 2 * 0 + _ ≤ _; exact Nat.le_of_eq rfl) (hb hby d31_231) (fun _ _ => ⟨rfl, e241, (by decide : 1 + 0 ≤ _), (by decide : 3 + 0 ≤ _)⟩)
          dsimp only [Pt.U, Pt.locs, Pt.cells, Pt.slots] at X244 l244 y244 z244 st244 hQ244
          subst l244 y244 z244
          obtain ⟨rfl, N244q, K244, Q244_0, Q244_1, Q244_2, Q244_3⟩ := hQ244
          have N244 := Fr.app N10 N244q
          refine Go.to st244 ?_
          show Go _ _ _ _ T244 (mkF m 234 #[.val (.long x), .second, .val (.long n14), .second, .val (.long (0 : Int64)), .second, .val (.long n196), .second, .val (.long n195), .second, iv n197, iv n203, iv n205, iv n239] [(.ref b)])
          rw [← e_n242] at of hyr
          have F245 : Keep h0 h241 [] := (Keep.refl h0 []).ext E241
          have F246 : Keep h0 T244.heap [] := F245.trans K244 (allS (Or.inr sz_b) all0)
          exact Go.retA X244 hx Bd.notSynchronized Bd.returns rfl rfl (hb hby d31_234) ⟨b, n242, n205, n239, rfl, N244, F246, Q244_0, Q244_1, Q244_2, Q244_3, of.1, hyr, ⟨of.2.1, of.2.2.1⟩, of.2.2.2⟩ (by decide) (by decide)
        · refine Go.icmpN 214 X10 hx (hb hby d31_211) (XT.ii_lt_f hb240) rfl ?_
          have i_hb240 := o_nlt32 hb240
          refine Go.lload2 216 X10 hx (hb hby d31_214) rfl rfl ?_
          refine Go.lconst 217 X10 hx (1 : Int64) (hb hby d31_216) (by decide) rfl ?_
          refine Go.ladd 218 X10 hx (hb hby d31_217) rfl ?_
          obtain ⟨n247, h_n247⟩ : ∃ z, z = (n196 + (1 : Int64)) := ⟨_, rfl⟩
          rw [← h_n247]
          show Go _ _ _ _ T10 (mkF m 218 #[.val (.long x), .second, .val (.long n14), .second, .val (.long (0 : Int64)), .second, .val (.long n196), .second, .val (.long n195), .second, iv n197, iv n203, iv n205, iv n239] [(.long n247)])
          have e_n247 : n247.toInt = n196.toInt + (1 : Int64).toInt := by rw [h_n247]; exact x_ladd (by omega) (by omega)
          refine Go.lstore2 220 X10 hx (L' := #[.val (.long x), .second, .val (.long n14), .second, .val (.long (0 : Int64)), .second, .val (.long n247), .second, .val (.long n195), .second, iv n197, iv n203, iv n205, iv n239]) (hb hby d31_218) rfl rfl ?_
          have hmq : (n203.toInt ≤ 9 ∧ n205.toInt = n203.toInt + 3) ∨ (9 < n203.toInt ∧ n205.toInt = n203.toInt - 9) := (by omega)
          have hyq : (n195.toInt < 306 ∧ n247.toInt = n187.toInt + 400 * (0)) ∨ (306 ≤ n195.toInt ∧ n247.toInt = n187.toInt + 400 * (0) + 1) := (by omega)
          have hdq : n239.toInt = n195.toInt - (n203.toInt * 306 + 5) / 10 + 1 := (by omega)
          have of := own_of n14.toInt x.toInt n187.toInt n195.toInt n203.toInt n205.toInt n239.toInt n247.toInt (0) hz.1 hz.2.1 hd2 hlo.1 hlo.2 hmm hdq hmq hyq
          have hyr : -100000000 ≤ n247.toInt ∧ n247.toInt ≤ 100000000 := by omega
          clear e_n196 e_n197 e_n199 e_n201 e_n203 e_n205 i_hb207 e_n233 e_n234 e_n236 e_n237 e_n239 i_hb240 e_n247
          obtain ⟨b, g248⟩ : ∃ z, z = h0.size := ⟨_, rfl⟩
          have ge_b : n0 ≤ b := Nat.le_trans Z0 (Nat.le_of_eq g248.symm)
          have sz_b : h0.size ≤ b := Nat.le_trans (Keep.refl h0 []).1 (Nat.le_of_eq g248.symm)
          obtain ⟨T248, h248, X248, e248, E248, A248, D248, -, st248⟩ := newO X10 hx hZ hown (ow hw 109 rfl) (ow hw 110 rfl) (ow hw 63 rfl) e10 (g := (mkF m 220 #[.val (.long x), .second, .val (.long n14), .second, .val (.long (0 : Int64)), .second, .val (.long n247), .second, .val (.long n195), .second, iv n197, iv n203, iv n205, iv n239] [])) rfl (hb hby d31_220) (by decide) (by decide)
          rw [← g248] at A248 D248 st248
          have F_year_b : Fld Z h248 b "java/time/LocalDate" "year" "I" (.int 0) := D248 (Or.inr (ow hw 117 rfl)) (ty := .int) (by decide)
          have F_month_b : Fld Z h248 b "java/time/LocalDate" "month" "S" (.int 0) := D248 (Or.inr (ow hw 119 rfl)) (ty := .short) (by decide)
          have F_day_b : Fld Z h248 b "java/time/LocalDate" "day" "S" (.int 0) := D248 (Or.inr (ow hw 121 rfl)) (ty := .short) (by decide)
          refine Go.by st248 ?_
          show Go _ _ _ _ T248 (mkF m 223 #[.val (.long x), .second, .val (.long n14), .second, .val (.long (0 : Int64)), .second, .val (.long n247), .second, .val (.long n195), .second, iv n197, iv n203, iv n205, iv n239] [(.ref b)])
          refine Go.dup 224 X248 hx (hb hby d31_223) rfl rfl ?_
          refine Go.lload2 226 X248 hx (hb hby d31_224) rfl rfl ?_
          refine Go.l2i 227 X248 hx (hb hby d31_226) rfl ?_
          obtain ⟨n249, h_n249⟩ : ∃ z, z = (n247.toInt32) := ⟨_, rfl⟩
          rw [← h_n249]
          show Go _ _ _ _ T248 (mkF m 227 #[.val (.long x), .second, .val (.long n14), .second, .val (.long (0 : Int64)), .second, .val (.long n247), .second, .val (.long n195), .second, iv n197, iv n203, iv n205, iv n239] [(.int n249), (.ref b), (.ref b)])
          have e_n249 : n249.toInt = n247.toInt := by rw [h_n249]; exact x_l2i (by omega) (by omega)
          refine Go.iload2 229 X248 hx (hb hby d31_227) rfl rfl ?_
          refine Go.iload2 231 X248 hx (hb hby d31_229) rfl rfl ?_
          have F250 : n0 ≤ h248.size := Nat.le_trans Z0 E248.1
          obtain ⟨_, _, ⟨T251, L251, k251, n251⟩, -, X251, ⟨Lc251, hQ251, l251, y251, z251⟩, st251⟩ := X248.specialBack hx (y := (⟨"java/time/LocalDate", "<init>", "(III)V"⟩ : MethodName)) rfl hown (mvT hZ (ow hw 111 rfl)) (mvT hZ (ow hw 112 rfl)) (mvT hZ (ow hw 114 rfl)) (by decide) (backOf (W := 1) (rmLd l Z a0 hw [] b n249 n205 n239 h248 n0 F250 A248 F_year_b F_month_b F_day_b ge_b (by omega) (by omega)) hZ (ow hw 114 rfl) (ow hw 63 rfl) (by decide) (by decide)) (g := (mkF m 231 #[.val (.long x), .second, .val (.long n14), .second, .val (.long (0 : Int64)), .second, .val (.long n247), .second, .val (.long n195), .second, iv n197, iv n203, iv n205, iv n239] [(.int n239), (.int n205), (.int n249), (.ref b), (.ref b)])) rfl (by rw [hml]; rfl) (Steps.refl _) (a := b) (argsL := [(.int n249), (.int n205), (.int n239)]) (rest := [(.ref b)]) (lenOf pd_329 rfl) rfl (by show 2 * 0 + _ ≤ _; exact Nat.le_of_eq rfl) (hb hby d31_231) (fun _ _ => ⟨rfl, e248, (by decide : 1 + 0 ≤ _), (by decide : 3 + 0 ≤ _)⟩)
          dsimp only [Pt.U, Pt.locs, Pt.cells, Pt.slots] at X251 l251 y251 z251 st251 hQ251
          subst l251 y251 z251
          obtain ⟨rfl, N251q, K251, Q251_0, Q251_1, Q251_2, Q251_3⟩ := hQ251
          have N251 := Fr.app N10 N251q
          refine Go.to st251 ?_
          show Go _ _ _ _ T251 (mkF m 234 #[.val (.long x), .second, .val (.long n14), .second, .val (.long (0 : Int64)), .second, .val (.long n247), .second, .val (.long n195), .second, iv n197, iv n203, iv n205, iv n239] [(.ref b)])
          rw [← e_n249] at of hyr
          have F252 : Keep h0 h248 [] := (Keep.refl h0 []).ext E248
          have F253 : Keep h0 T251.heap [] := F252.trans K251 (allS (Or.inr sz_b) all0)
          exact Go.retA X251 hx Bd.notSynchronized Bd.returns rfl rfl (hb hby d31_234) ⟨b, n249, n205, n239, rfl, N251, F253, Q251_0, Q251_1, Q251_2, Q251_3, of.1, hyr, ⟨of.2.1, of.2.2.1⟩, of.2.2.2⟩ (by decide) (by decide)
    · refine Go.ifY 148 X10 hx (hb hby d31_108) (XT.ll_ge_t hb185) (by decide) (by decide) ?_
      have i_hb185 := o_nlt64 hb185
      have hlo : 0 ≤ n184.toInt ∧ n184.toInt ≤ 365 := by omega
      have hyb : -1 ≤ n173.toInt ∧ n173.toInt ≤ 110000000 := by omega
      clear i_hb185
      refine Go.lload2 150 X10 hx (hb hby d31_148) rfl rfl ?_
      refine Go.lload2 152 X10 hx (hb hby d31_150) rfl rfl ?_
      refine Go.ladd 153 X10 hx (hb hby d31_152) rfl ?_
      obtain ⟨n254, h_n254⟩ : ∃ z, z = (n173 + (0 : Int64)) := ⟨_, rfl⟩
      rw [← h_n254]
      show Go _ _ _ _ T10 (mkF m 153 #[.val (.long x), .second, .val (.long n14), .second, .val (.long (0 : Int64)), .second, .val (.long n173), .second, .val (.long n184), .second, un, un, un, un] [(.long n254)])
      have e_n254 : n254.toInt = n173.toInt + (0 : Int64).toInt := by rw [h_n254]; exact x_ladd (by omega) (by omega)
      refine Go.lstore2 155 X10 hx (L' := #[.val (.long x), .second, .val (.long n14), .second, .val (.long (0 : Int64)), .second, .val (.long n254), .second, .val (.long n184), .second, un, un, un, un]) (hb hby d31_153) rfl rfl ?_
      refine Go.lload2 157 X10 hx (hb hby d31_155) rfl rfl ?_
      refine Go.l2i 158 X10 hx (hb hby d31_157) rfl ?_
      obtain ⟨n255, h_n255⟩ : ∃ z, z = (n184.toInt32) := ⟨_, rfl⟩
      rw [← h_n255]
      show Go _ _ _ _ T10 (mkF m 158 #[.val (.long x), .second, .val (.long n14), .second, .val (.long (0 : Int64)), .second, .val (.long n254), .second, .val (.long n184), .second, un, un, un, un] [(.int n255)])
      have e_n255 : n255.toInt = n184.toInt := by rw [h_n255]; exact x_l2i (by omega) (by omega)
      refine Go.istore2 160 X10 hx (L' := #[.val (.long x), .second, .val (.long n14), .second, .val (.long (0 : Int64)), .second, .val (.long n254), .second, .val (.long n184), .second, iv n255, un, un, un]) (hb hby d31_158) rfl rfl ?_
      refine Go.iload2 162 X10 hx (hb hby d31_160) rfl rfl ?_
      refine Go.iconst 163 X10 hx (5 : Int32) (hb hby d31_162) (by decide) rfl ?_
      refine Go.imul 164 X10 hx (hb hby d31_163) rfl ?_
      have li256 : (5 : Int32).toInt = 5 := by decide
      obtain ⟨n257, h_n257⟩ : ∃ z, z = (n255 * (5 : Int32)) := ⟨_, rfl⟩
      rw [← h_n257]
      show Go _ _ _ _ T10 (mkF m 164 #[.val (.long x), .second, .val (.long n14), .second, .val (.long (0 : Int64)), .second, .val (.long n254), .second, .val (.long n184), .second, iv n255, un, un, un] [(.int n257)])
      have e_n257 : n257.toInt = n255.toInt * 5 := by rw [h_n257]; exact x_imulR 5 (by decide) (by omega) (by omega)
      refine Go.iconst 165 X10 hx (2 : Int32) (hb hby d31_164) (by decide) rfl ?_
      refine Go.iadd 166 X10 hx (hb hby d31_165) rfl ?_
      have li258 : (2 : Int32).toInt = 2 := by decide
      obtain ⟨n259, h_n259⟩ : ∃ z, z = (n257 + (2 : Int32)) := ⟨_, rfl⟩
      rw [← h_n259]
      show Go _ _ _ _ T10 (mkF m 166 #[.val (.long x), .second, .val (.long n14), .second, .val (.long (0 : Int64)), .second, .val (.long n254), .second, .val (.long n184), .second, iv n255, un, un, un] [(.int n259)])
      have e_n259 : n259.toInt = n257.toInt + (2 : Int32).toInt := by rw [h_n259]; exact x_iadd (by omega) (by omega)
      refine Go.sipush 169 X10 hx (153 : Int32) (hb hby d31_166) (by decide) rfl ?_
      refine Go.idiv 170 X10 hx (hb hby d31_169) (by decide) rfl ?_
      have li260 : (153 : Int32).toInt = 153 := by decide
      obtain ⟨n261, h_n261⟩ : ∃ z, z = (n259 / (153 : Int32)) := ⟨_, rfl⟩
      rw [← h_n261]
      show Go _ _ _ _ T10 (mkF m 170 #[.val (.long x), .second, .val (.long n14), .second, .val (.long (0 : Int64)), .second, .val (.long n254), .second, .val (.long n184), .second, iv n255, un, un, un] [(.int n261)])
      have e_n261 : n261.toInt = n259.toInt / 153 := by rw [h_n261]; exact (x_idiv 153 (by decide) (by decide)).1 (by omega)
      refine Go.istore2 172 X10 hx (L' := #[.val (.long x), .second, .val (.long n14), .second, .val (.long (0 : Int64)), .second, .val (.long n254), .second, .val (.long n184), .second, iv n255, iv n261, un, un]) (hb hby d31_170) rfl rfl ?_
      refine Go.iload2 174 X10 hx (hb hby d31_172) rfl rfl ?_
      refine Go.iconst 175 X10 hx (3 : Int32) (hb hby d31_174) (by decide) rfl ?_
      refine Go.iadd 176 X10 hx (hb hby d31_175) rfl ?_
      have li262 : (3 : Int32).toInt = 3 := by decide
      obtain ⟨n263, h_n263⟩ : ∃ z, z = (n261 + (3 : Int32)) := ⟨_, rfl⟩
      rw [← h_n263]
      show Go _ _ _ _ T10 (mkF m 176 #[.val (.long x), .second, .val (.long n14), .second, .val (.long (0 : Int64)), .second, .val (.long n254), .second, .val (.long n184), .second, iv n255, iv n261, un, un] [(.int n263)])
      have e_n263 : n263.toInt = n261.toInt + (3 : Int32).toInt := by rw [h_n263]; exact x_iadd (by omega) (by omega)
      refine Go.istore2 178 X10 hx (L' := #[.val (.long x), .second, .val (.long n14), .second, .val (.long (0 : Int64)), .second, .val (.long n254), .second, .val (.long n184), .second, iv n255, iv n261, iv n263, un]) (hb hby d31_176) rfl rfl ?_
      refine Go.iload2 180 X10 hx (hb hby d31_178) rfl rfl ?_
      refine Go.bipush 182 X10 hx (12 : Int32) (hb hby d31_180) (by decide) rfl ?_
      have hmm : n261.toInt = (n184.toInt * 5 + 2) / 153 := (by omega)
      have li264 : (12 : Int32).toInt = 12 := by decide
      by_cases hb265 : (12 : Int32) < n263
      · refine Go.icmpN 185 X10 hx (hb hby d31_182) (XT.ii_le_f hb265) rfl ?_
        have i_hb265 := o_lt32 hb265
        refine Go.iinc 188 X10 hx (-12 : Int32) (L' := #[.val (.long x), .second, .val (.long n14), .second, .val (.long (0 : Int64)), .second, .val (.long n254), .second, .val (.long n184), .second, iv n255, iv n261, iv (n263 + (-12 : Int32)), un]) (hb hby d31_185) (by decide) rfl rfl rfl ?_
        have li266 : (-12 : Int32).toInt = -12 := by decide
        obtain ⟨n267, h_n267⟩ : ∃ z, z = (n263 + (-12 : Int32)) := ⟨_, rfl⟩
        rw [← h_n267]
        show Go _ _ _ _ T10 (mkF m 188 #[.val (.long x), .second, .val (.long n14), .second, .val (.long (0 : Int64)), .second, .val (.long n254), .second, .val (.long n184), .second, iv n255, iv n261, iv n267, un] [])
        have e_n267 : n267.toInt = n263.toInt + (-12 : Int32).toInt := by rw [h_n267]; exact x_iadd (by omega) (by omega)
        refine Go.iload2 190 X10 hx (hb hby d31_188) rfl rfl ?_
        refine Go.iload2 192 X10 hx (hb hby d31_190) rfl rfl ?_
        refine Go.sipush 195 X10 hx (306 : Int32) (hb hby d31_192) (by decide) rfl ?_
        refine Go.imul 196 X10 hx (hb hby d31_195) rfl ?_
        have li268 : (306 : Int32).toInt = 306 := by decide
        obtain ⟨n269, h_n269⟩ : ∃ z, z = (n261 * (306 : Int32)) := ⟨_, rfl⟩
        rw [← h_n269]
        show Go _ _ _ _ T10 (mkF m 196 #[.val (.long x), .second, .val (.long n14), .second, .val (.long (0 : Int64)), .second, .val (.long n254), .second, .val (.long n184), .second, iv n255, iv n261, iv n267, un] [(.int n269), (.int n255)])
        have e_n269 : n269.toInt = n261.toInt * 306 := by rw [h_n269]; exact x_imulR 306 (by decide) (by omega) (by omega)
        refine Go.iconst 197 X10 hx (5 : Int32) (hb hby d31_196) (by decide) rfl ?_
        refine Go.iadd 198 X10 hx (hb hby d31_197) rfl ?_
        obtain ⟨n270, h_n270⟩ : ∃ z, z = (n269 + (5 : Int32)) := ⟨_, rfl⟩
        rw [← h_n270]
        show Go _ _ _ _ T10 (mkF m 198 #[.val (.long x), .second, .val (.long n14), .second, .val (.long (0 : Int64)), .second, .val (.long n254), .second, .val (.long n184), .second, iv n255, iv n261, iv n267, un] [(.int n270), (.int n255)])
        have e_n270 : n270.toInt = n269.toInt + (5 : Int32).toInt := by rw [h_n270]; exact x_iadd (by omega) (by omega)
        refine Go.bipush 200 X10 hx (10 : Int32) (hb hby d31_198) (by decide) rfl ?_
        refine Go.idiv 201 X10 hx (hb hby d31_200) (by decide) rfl ?_
        have li271 : (10 : Int32).toInt = 10 := by decide
        obtain ⟨n272, h_n272⟩ : ∃ z, z = (n270 / (10 : Int32)) := ⟨_, rfl⟩
        rw [← h_n272]
        show Go _ _ _ _ T10 (mkF m 201 #[.val (.long x), .second, .val (.long n14), .second, .val (.long (0 : Int64)), .second, .val (.long n254), .second, .val (.long n184), .second, iv n255, iv n261, iv n267, un] [(.int n272), (.int n255)])
        have e_n272 : n272.toInt = n270.toInt / 10 := by rw [h_n272]; exact (x_idiv 10 (by decide) (by decide)).1 (by omega)
        refine Go.isub 202 X10 hx (hb hby d31_201) rfl ?_
        obtain ⟨n273, h_n273⟩ : ∃ z, z = (n255 - n272) := ⟨_, rfl⟩
        rw [← h_n273]
        show Go _ _ _ _ T10 (mkF m 202 #[.val (.long x), .second, .val (.long n14), .second, .val (.long (0 : Int64)), .second, .val (.long n254), .second, .val (.long n184), .second, iv n255, iv n261, iv n267, un] [(.int n273)])
        have e_n273 : n273.toInt = n255.toInt - n272.toInt := by rw [h_n273]; exact x_isub (by omega) (by omega)
        refine Go.iconst 203 X10 hx (1 : Int32) (hb hby d31_202) (by decide) rfl ?_
        refine Go.iadd 204 X10 hx (hb hby d31_203) rfl ?_
        have li274 : (1 : Int32).toInt = 1 := by decide
        obtain ⟨n275, h_n275⟩ : ∃ z, z = (n273 + (1 : Int32)) := ⟨_, rfl⟩
        rw [← h_n275]
        show Go _ _ _ _ T10 (mkF m 204 #[.val (.long x), .second, .val (.long n14), .second, .val (.long (0 : Int64)), .second, .val (.long n254), .second, .val (.long n184), .second, iv n255, iv n261, iv n267, un] [(.int n275)])
        have e_n275 : n275.toInt = n273.toInt + (1 : Int32).toInt := by rw [h_n275]; exact x_iadd (by omega) (by omega)
        refine Go.istore2 206 X10 hx (L' := #[.val (.long x), .second, .val (.long n14), .second, .val (.long (0 : Int64)), .second, .val (.long n254), .second, .val (.long n184), .second, iv n255, iv n261, iv n267, iv n275]) (hb hby d31_204) rfl rfl ?_
        refine Go.iload2 208 X10 hx (hb hby d31_206) rfl rfl ?_
        refine Go.sipush 211 X10 hx (306 : Int32) (hb hby d31_208) (by decide) rfl ?_
        by_cases hb276 : n255 < (306 : Int32)
        · refine Go.icmpY 220 X10 hx (hb hby d31_211) (XT.ii_lt_t hb276) (by decide) (by decide) ?_
          have i_hb276 := o_lt32 hb276
          have hmq : (n261.toInt ≤ 9 ∧ n267.toInt = n261.toInt + 3) ∨ (9 < n261.toInt ∧ n267.toInt = n261.toInt - 9) := (by omega)
          have hyq : (n184.toInt < 306 ∧ n254.toInt = n173.toInt + 400 * (0)) ∨ (306 ≤ n184.toInt ∧ n254.toInt = n173.toInt + 400 * (0) + 1) := (by omega)
          have hdq : n275.toInt = n184.toInt - (n261.toInt * 306 + 5) / 10 + 1 := (by omega)
          have of := own_of n14.toInt x.toInt n173.toInt n184.toInt n261.toInt n267.toInt n275.toInt n254.toInt (0) hz.1 hz.2.1 hd1 hlo.1 hlo.2 hmm hdq hmq hyq
          have hyr : -100000000 ≤ n254.toInt ∧ n254.toInt ≤ 100000000 := by omega
          clear e_n254 e_n255 e_n257 e_n259 e_n261 e_n263 i_hb265 e_n267 e_n269 e_n270 e_n272 e_n273 e_n275 i_hb276
          obtain ⟨b, g277⟩ : ∃ z, z = h0.size := ⟨_, rfl⟩
          have ge_b : n0 ≤ b := Nat.le_trans Z0 (Nat.le_of_eq g277.symm)
          have sz_b : h0.size ≤ b := Nat.le_trans (Keep.refl h0 []).1 (Nat.le_of_eq g277.symm)
          obtain ⟨T277, h277, X277, e277, E277, A277, D277, -, st277⟩ := newO X10 hx hZ hown (ow hw 109 rfl) (ow hw 110 rfl) (ow hw 63 rfl) e10 (g := (mkF m 220 #[.val (.long x), .second, .val (.long n14), .second, .val (.long (0 : Int64)), .second, .val (.long n254), .second, .val (.long n184), .second, iv n255, iv n261, iv n267, iv n275] [])) rfl (hb hby d31_220) (by decide) (by decide)
          rw [← g277] at A277 D277 st277
          have F_year_b : Fld Z h277 b "java/time/LocalDate" "year" "I" (.int 0) := D277 (Or.inr (ow hw 117 rfl)) (ty := .int) (by decide)
          have F_month_b : Fld Z h277 b "java/time/LocalDate" "month" "S" (.int 0) := D277 (Or.inr (ow hw 119 rfl)) (ty := .short) (by decide)
          have F_day_b : Fld Z h277 b "java/time/LocalDate" "day" "S" (.int 0) := D277 (Or.inr (ow hw 121 rfl)) (ty := .short) (by decide)
          refine Go.by st277 ?_
          show Go _ _ _ _ T277 (mkF m 223 #[.val (.long x), .second, .val (.long n14), .second, .val (.long (0 : Int64)), .second, .val (.long n254), .second, .val (.long n184), .second, iv n255, iv n261, iv n267, iv n275] [(.ref b)])
          refine Go.dup 224 X277 hx (hb hby d31_223) rfl rfl ?_
          refine Go.lload2 226 X277 hx (hb hby d31_224) rfl rfl ?_
          refine Go.l2i 227 X277 hx (hb hby d31_226) rfl ?_
          obtain ⟨n278, h_n278⟩ : ∃ z, z = (n254.toInt32) := ⟨_, rfl⟩
          rw [← h_n278]
          show Go _ _ _ _ T277 (mkF m 227 #[.val (.long x), .second, .val (.long n14), .second, .val (.long (0 : Int64)), .second, .val (.long n254), .second, .val (.long n184), .second, iv n255, iv n261, iv n267, iv n275] [(.int n278), (.ref b), (.ref b)])
          have e_n278 : n278.toInt = n254.toInt := by rw [h_n278]; exact x_l2i (by omega) (by omega)
          refine Go.iload2 229 X277 hx (hb hby d31_227) rfl rfl ?_
          refine Go.iload2 231 X277 hx (hb hby d31_229) rfl rfl ?_
          have F279 : n0 ≤ h277.size := Nat.le_trans Z0 E277.1
          obtain ⟨_, _, ⟨T280, L280, k280, n280⟩, -, X280, ⟨Lc280, hQ280, l280, y280, z280⟩, st280⟩ := X277.specialBack hx (y := (⟨"java/time/LocalDate", "<init>", "(III)V"⟩ : MethodName)) rfl hown (mvT hZ (ow hw 111 rfl)) (mvT hZ (ow hw 112 rfl)) (mvT hZ (ow hw 114 rfl)) (by decide) (backOf (W := 1) (rmLd l Z a0 hw [] b n278 n267 n275 h277 n0 F279 A277 F_year_b F_month_b F_day_b ge_b (by omega) (by omega)) hZ (ow hw 114 rfl) (ow hw 63 rfl) (by decide) (by decide)) (g := (mkF m 231 #[.val (.long x), .second, .val (.long n14), .second, .val (.long (0 : Int64)), .second, .val (.long n254), .second, .val (.long n184), .second, iv n255, iv n261, iv n267, iv n275] [(.int n275), (.int n267), (.int n278), (.ref b), (.ref b)])) rfl (by rw [hml]; rfl) (Steps.refl _) (a := b) (argsL := [(.int n278), (.int n267), (.int n275)]) (rest := [(.ref b)]) (lenOf pd_329 rfl) rfl (by show 2 * 0 + _ ≤ _; exact Nat.le_of_eq rfl) (hb hby d31_231) (fun _ _ => ⟨rfl, e277, (by decide : 1 + 0 ≤ _), (by decide : 3 + 0 ≤ _)⟩)
          dsimp only [Pt.U, Pt.locs, Pt.cells, Pt.slots] at X280 l280 y280 z280 st280 hQ280
          subst l280 y280 z280
          obtain ⟨rfl, N280q, K280, Q280_0, Q280_1, Q280_2, Q280_3⟩ := hQ280
          have N280 := Fr.app N10 N280q
          refine Go.to st280 ?_
          show Go _ _ _ _ T280 (mkF m 234 #[.val (.long x), .second, .val (.long n14), .second, .val (.long (0 : Int64)), .second, .val (.long n254), .second, .val (.long n184), .second, iv n255, iv n261, iv n267, iv n275] [(.ref b)])
          rw [← e_n278] at of hyr
          have F281 : Keep h0 h277 [] := (Keep.refl h0 []).ext E277
          have F282 : Keep h0 T280.heap [] := F281.trans K280 (allS (Or.inr sz_b) all0)
          exact Go.retA X280 hx Bd.notSynchronized Bd.returns rfl rfl (hb hby d31_234) ⟨b, n278, n267, n275, rfl, N280, F282, Q280_0, Q280_1, Q280_2, Q280_3, of.1, hyr, ⟨of.2.1, of.2.2.1⟩, of.2.2.2⟩ (by decide) (by decide)
        · refine Go.icmpN 214 X10 hx (hb hby d31_211) (XT.ii_lt_f hb276) rfl ?_
          have i_hb276 := o_nlt32 hb276
          refine Go.lload2 216 X10 hx (hb hby d31_214) rfl rfl ?_
          refine Go.lconst 217 X10 hx (1 : Int64) (hb hby d31_216) (by decide) rfl ?_
          refine Go.ladd 218 X10 hx (hb hby d31_217) rfl ?_
          have li283 : (1 : Int64).toInt = 1 := by decide
          obtain ⟨n284, h_n284⟩ : ∃ z, z = (n254 + (1 : Int64)) := ⟨_, rfl⟩
          rw [← h_n284]
          show Go _ _ _ _ T10 (mkF m 218 #[.val (.long x), .second, .val (.long n14), .second, .val (.long (0 : Int64)), .second, .val (.long n254), .second, .val (.long n184), .second, iv n255, iv n261, iv n267, iv n275] [(.long n284)])
          have e_n284 : n284.toInt = n254.toInt + (1 : Int64).toInt := by rw [h_n284]; exact x_ladd (by omega) (by omega)
          refine Go.lstore2 220 X10 hx (L' := #[.val (.long x), .second, .val (.long n14), .second, .val (.long (0 : Int64)), .second, .val (.long n284), .second, .val (.long n184), .second, iv n255, iv n261, iv n267, iv n275]) (hb hby d31_218) rfl rfl ?_
          have hmq : (n261.toInt ≤ 9 ∧ n267.toInt = n261.toInt + 3) ∨ (9 < n261.toInt ∧ n267.toInt = n261.toInt - 9) := (by omega)
          have hyq : (n184.toInt < 306 ∧ n284.toInt = n173.toInt + 400 * (0)) ∨ (306 ≤ n184.toInt ∧ n284.toInt = n173.toInt + 400 * (0) + 1) := (by omega)
          have hdq : n275.toInt = n184.toInt - (n261.toInt * 306 + 5) / 10 + 1 := (by omega)
          have of := own_of n14.toInt x.toInt n173.toInt n184.toInt n261.toInt n267.toInt n275.toInt n284.toInt (0) hz.1 hz.2.1 hd1 hlo.1 hlo.2 hmm hdq hmq hyq
          have hyr : -100000000 ≤ n284.toInt ∧ n284.toInt ≤ 100000000 := by omega
          clear e_n254 e_n255 e_n257 e_n259 e_n261 e_n263 i_hb265 e_n267 e_n269 e_n270 e_n272 e_n273 e_n275 i_hb276 e_n284
          obtain ⟨b, g285⟩ : ∃ z, z = h0.size := ⟨_, rfl⟩
          have ge_b : n0 ≤ b := Nat.le_trans Z0 (Nat.le_of_eq g285.symm)
          have sz_b : h0.size ≤ b := Nat.le_trans (Keep.refl h0 []).1 (Nat.le_of_eq g285.symm)
          obtain ⟨T285, h285, X285, e285, E285, A285, D285, -, st285⟩ := newO X10 hx hZ hown (ow hw 109 rfl) (ow hw 110 rfl) (ow hw 63 rfl) e10 (g := (mkF m 220 #[.val (.long x), .second, .val (.long n14), .second, .val (.long (0 : Int64)), .second, .val (.long n284), .second, .val (.long n184), .second, iv n255, iv n261, iv n267, iv n275] [])) rfl (hb hby d31_220) (by decide) (by decide)
          rw [← g285] at A285 D285 st285
          have F_year_b : Fld Z h285 b "java/time/LocalDate" "year" "I" (.int 0) := D285 (Or.inr (ow hw 117 rfl)) (ty := .int) (by decide)
          have F_month_b : Fld Z h285 b "java/time/LocalDate" "month" "S" (.int 0) := D285 (Or.inr (ow hw 119 rfl)) (ty := .short) (by decide)
          have F_day_b : Fld Z h285 b "java/time/LocalDate" "day" "S" (.int 0) := D285 (Or.inr (ow hw 121 rfl)) (ty := .short) (by decide)
          refine Go.by st285 ?_
          show Go _ _ _ _ T285 (mkF m 223 #[.val (.long x), .second, .val (.long n14), .second, .val (.long (0 : Int64)), .second, .val (.long n284), .second, .val (.long n184), .second, iv n255, iv n261, iv n267, iv n275] [(.ref b)])
          refine Go.dup 224 X285 hx (hb hby d31_223) rfl rfl ?_
          refine Go.lload2 226 X285 hx (hb hby d31_224) rfl rfl ?_
          refine Go.l2i 227 X285 hx (hb hby d31_226) rfl ?_
          obtain ⟨n286, h_n286⟩ : ∃ z, z = (n284.toInt32) := ⟨_, rfl⟩
          rw [← h_n286]
          show Go _ _ _ _ T285 (mkF m 227 #[.val (.long x), .second, .val (.long n14), .second, .val (.long (0 : Int64)), .second, .val (.long n284), .second, .val (.long n184), .second, iv n255, iv n261, iv n267, iv n275] [(.int n286), (.ref b), (.ref b)])
          have e_n286 : n286.toInt = n284.toInt := by rw [h_n286]; exact x_l2i (by omega) (by omega)
          refine Go.iload2 229 X285 hx (hb hby d31_227) rfl rfl ?_
          refine Go.iload2 231 X285 hx (hb hby d31_229) rfl rfl ?_
          have F287 : n0 ≤ h285.size := Nat.le_trans Z0 E285.1
          obtain ⟨_, _, ⟨T288, L288, k288, n288⟩, -, X288, ⟨Lc288, hQ288, l288, y288, z288⟩, st288⟩ := X285.specialBack hx (y := (⟨"java/time/LocalDate", "<init>", "(III)V"⟩ : MethodName)) rfl hown (mvT hZ (ow hw 111 rfl)) (mvT hZ (ow hw 112 rfl)) (mvT hZ (ow hw 114 rfl)) (by decide) (backOf (W := 1) (rmLd l Z a0 hw [] b n286 n267 n275 h285 n0 F287 A285 F_year_b F_month_b F_day_b ge_b (by omega) (by omega)) hZ (ow hw 114 rfl) (ow hw 63 rfl) (by decide) (by decide)) (g := (mkF m 231 #[.val (.long x), .second, .val (.long n14), .second, .val (.long (0 : Int64)), .second, .val (.long n284), .second, .val (.long n184), .second, iv n255, iv n261, iv n267, iv n275] [(.int n275), (.int n267), (.int n286), (.ref b), (.ref b)])) rfl (by rw [hml]; rfl) (Steps.refl _) (a := b) (argsL := [(.int n286), (.int n267), (.int n275)]) (rest := [(.ref b)]) (lenOf pd_329 rfl) rfl (by show 2 * 0 + _ ≤ _; exact Nat.le_of_eq rfl) (hb hby d31_231) (fun _ _ => ⟨rfl, e285, (by decide : 1 + 0 ≤ _), (by decide : 3 + 0 ≤ _)⟩)
          dsimp only [Pt.U, Pt.locs, Pt.cells, Pt.slots] at X288 l288 y288 z288 st288 hQ288
          subst l288 y288 z288
          obtain ⟨rfl, N288q, K288, Q288_0, Q288_1, Q288_2, Q288_3⟩ := hQ288
          have N288 := Fr.app N10 N288q
          refine Go.to st288 ?_
          show Go _ _ _ _ T288 (mkF m 234 #[.val (.long x), .second, .val (.long n14), .second, .val (.long (0 : Int64)), .second, .val (.long n284), .second, .val (.long n184), .second, iv n255, iv n261, iv n267, iv n275] [(.ref b)])
          rw [← e_n286] at of hyr
          have F289 : Keep h0 h285 [] := (Keep.refl h0 []).ext E285
          have F290 : Keep h0 T288.heap [] := F289.trans K288 (allS (Or.inr sz_b) all0)
          exact Go.retA X288 hx Bd.notSynchronized Bd.returns rfl rfl (hb hby d31_234) ⟨b, n286, n267, n275, rfl, N288, F290, Q288_0, Q288_1, Q288_2, Q288_3, of.1, hyr, ⟨of.2.1, of.2.2.1⟩, of.2.2.2⟩ (by decide) (by decide)
      · refine Go.icmpY 188 X10 hx (hb hby d31_182) (XT.ii_le_t hb265) (by decide) (by decide) ?_
        have i_hb265 := o_nlt32 hb265
        refine Go.iload2 190 X10 hx (hb hby d31_188) rfl rfl ?_
        refine Go.iload2 192 X10 hx (hb hby d31_190) rfl rfl ?_
        refine Go.sipush 195 X10 hx (306 : Int32) (hb hby d31_192) (by decide) rfl ?_
        refine Go.imul 196 X10 hx (hb hby d31_195) rfl ?_
        have li291 : (306 : Int32).toInt = 306 := by decide
        obtain ⟨n292, h_n292⟩ : ∃ z, z = (n261 * (306 : Int32)) := ⟨_, rfl⟩
        rw [← h_n292]
        show Go _ _ _ _ T10 (mkF m 196 #[.val (.long x), .second, .val (.long n14), .second, .val (.long (0 : Int64)), .second, .val (.long n254), .second, .val (.long n184), .second, iv n255, iv n261, iv n263, un] [(.int n292), (.int n255)])
        have e_n292 : n292.toInt = n261.toInt * 306 := by rw [h_n292]; exact x_imulR 306 (by decide) (by omega) (by omega)
        refine Go.iconst 197 X10 hx (5 : Int32) (hb hby d31_196) (by decide) rfl ?_
        refine Go.iadd 198 X10 hx (hb hby d31_197) rfl ?_
        obtain ⟨n293, h_n293⟩ : ∃ z, z = (n292 + (5 : Int32)) := ⟨_, rfl⟩
        rw [← h_n293]
        show Go _ _ _ _ T10 (mkF m 198 #[.val (.long x), .second, .val (.long n14), .second, .val (.long (0 : Int64)), .second, .val (.long n254), .second, .val (.long n184), .second, iv n255, iv n261, iv n263, un] [(.int n293), (.int n255)])
        have e_n293 : n293.toInt = n292.toInt + (5 : Int32).toInt := by rw [h_n293]; exact x_iadd (by omega) (by omega)
        refine Go.bipush 200 X10 hx (10 : Int32) (hb hby d31_198) (by decide) rfl ?_
        refine Go.idiv 201 X10 hx (hb hby d31_200) (by decide) rfl ?_
        have li294 : (10 : Int32).toInt = 10 := by decide
        obtain ⟨n295, h_n295⟩ : ∃ z, z = (n293 / (10 : Int32)) := ⟨_, rfl⟩
        rw [← h_n295]
        show Go _ _ _ _ T10 (mkF m 201 #[.val (.long x), .second, .val (.long n14), .second, .val (.long (0 : Int64)), .second, .val (.long n254), .second, .val (.long n184), .second, iv n255, iv n261, iv n263, un] [(.int n295), (.int n255)])
        have e_n295 : n295.toInt = n293.toInt / 10 := by rw [h_n295]; exact (x_idiv 10 (by decide) (by decide)).1 (by omega)
        refine Go.isub 202 X10 hx (hb hby d31_201) rfl ?_
        obtain ⟨n296, h_n296⟩ : ∃ z, z = (n255 - n295) := ⟨_, rfl⟩
        rw [← h_n296]
        show Go _ _ _ _ T10 (mkF m 202 #[.val (.long x), .second, .val (.long n14), .second, .val (.long (0 : Int64)), .second, .val (.long n254), .second, .val (.long n184), .second, iv n255, iv n261, iv n263, un] [(.int n296)])
        have e_n296 : n296.toInt = n255.toInt - n295.toInt := by rw [h_n296]; exact x_isub (by omega) (by omega)
        refine Go.iconst 203 X10 hx (1 : Int32) (hb hby d31_202) (by decide) rfl ?_
        refine Go.iadd 204 X10 hx (hb hby d31_203) rfl ?_
        have li297 : (1 : Int32).toInt = 1 := by decide
        obtain ⟨n298, h_n298⟩ : ∃ z, z = (n296 + (1 : Int32)) := ⟨_, rfl⟩
        rw [← h_n298]
        show Go _ _ _ _ T10 (mkF m 204 #[.val (.long x), .second, .val (.long n14), .second, .val (.long (0 : Int64)), .second, .val (.long n254), .second, .val (.long n184), .second, iv n255, iv n261, iv n263, un] [(.int n298)])
        have e_n298 : n298.toInt = n296.toInt + (1 : Int32).toInt := by rw [h_n298]; exact x_iadd (by omega) (by omega)
        refine Go.istore2 206 X10 hx (L' := #[.val (.long x), .second, .val (.long n14), .second, .val (.long (0 : Int64)), .second, .val (.long n254), .second, .val (.long n184), .second, iv n255, iv n261, iv n263, iv n298]) (hb hby d31_204) rfl rfl ?_
        refine Go.iload2 208 X10 hx (hb hby d31_206) rfl rfl ?_
        refine Go.sipush 211 X10 hx (306 : Int32) (hb hby d31_208) (by decide) rfl ?_
        by_cases hb299 : n255 < (306 : Int32)
        · refine Go.icmpY 220 X10 hx (hb hby d31_211) (XT.ii_lt_t hb299) (by decide) (by decide) ?_
          have i_hb299 := o_lt32 hb299
          have hmq : (n261.toInt ≤ 9 ∧ n263.toInt = n261.toInt + 3) ∨ (9 < n261.toInt ∧ n263.toInt = n261.toInt - 9) := (by omega)
          have hyq : (n184.toInt < 306 ∧ n254.toInt = n173.toInt + 400 * (0)) ∨ (306 ≤ n184.toInt ∧ n254.toInt = n173.toInt + 400 * (0) + 1) := (by omega)
          have hdq : n298.toInt = n184.toInt - (n261.toInt * 306 + 5) / 10 + 1 := (by omega)
          have of := own_of n14.toInt x.toInt n173.toInt n184.toInt n261.toInt n263.toInt n298.toInt n254.toInt (0) hz.1 hz.2.1 hd1 hlo.1 hlo.2 hmm hdq hmq hyq
          have hyr : -100000000 ≤ n254.toInt ∧ n254.toInt ≤ 100000000 := by omega
          clear e_n254 e_n255 e_n257 e_n259 e_n261 e_n263 i_hb265 e_n292 e_n293 e_n295 e_n296 e_n298 i_hb299
          obtain ⟨b, g300⟩ : ∃ z, z = h0.size := ⟨_, rfl⟩
          have ge_b : n0 ≤ b := Nat.le_trans Z0 (Nat.le_of_eq g300.symm)
          have sz_b : h0.size ≤ b := Nat.le_trans (Keep.refl h0 []).1 (Nat.le_of_eq g300.symm)
          obtain ⟨T300, h300, X300, e300, E300, A300, D300, -, st300⟩ := newO X10 hx hZ hown (ow hw 109 rfl) (ow hw 110 rfl) (ow hw 63 rfl) e10 (g := (mkF m 220 #[.val (.long x), .second, .val (.long n14), .second, .val (.long (0 : Int64)), .second, .val (.long n254), .second, .val (.long n184), .second, iv n255, iv n261, iv n263, iv n298] [])) rfl (hb hby d31_220) (by decide) (by decide)
          rw [← g300] at A300 D300 st300
          have F_year_b : Fld Z h300 b "java/time/LocalDate" "year" "I" (.int 0) := D300 (Or.inr (ow hw 117 rfl)) (ty := .int) (by decide)
          have F_month_b : Fld Z h300 b "java/time/LocalDate" "month" "S" (.int 0) := D300 (Or.inr (ow hw 119 rfl)) (ty := .short) (by decide)
          have F_day_b : Fld Z h300 b "java/time/LocalDate" "day" "S" (.int 0) := D300 (Or.inr (ow hw 121 rfl)) (ty := .short) (by decide)
          refine Go.by st300 ?_
          show Go _ _ _ _ T300 (mkF m 223 #[.val (.long x), .second, .val (.long n14), .second, .val (.long (0 : Int64)), .second, .val (.long n254), .second, .val (.long n184), .second, iv n255, iv n261, iv n263, iv n298] [(.ref b)])
          refine Go.dup 224 X300 hx (hb hby d31_223) rfl rfl ?_
          refine Go.lload2 226 X300 hx (hb hby d31_224) rfl rfl ?_
          refine Go.l2i 227 X300 hx (hb hby d31_226) rfl ?_
          obtain ⟨n301, h_n301⟩ : ∃ z, z = (n254.toInt32) := ⟨_, rfl⟩
          rw [← h_n301]
          show Go _ _ _ _ T300 (mkF m 227 #[.val (.long x), .second, .val (.long n14), .second, .val (.long (0 : Int64)), .second, .val (.long n254), .second, .val (.long n184), .second, iv n255, iv n261, iv n263, iv n298] [(.int n301), (.ref b), (.ref b)])
          have e_n301 : n301.toInt = n254.toInt := by rw [h_n301]; exact x_l2i (by omega) (by omega)
          refine Go.iload2 229 X300 hx (hb hby d31_227) rfl rfl ?_
          refine Go.iload2 231 X300 hx (hb hby d31_229) rfl rfl ?_
          have F302 : n0 ≤ h300.size := Nat.le_trans Z0 E300.1
          obtain ⟨_, _, ⟨T303, L303, k303, n303⟩, -, X303, ⟨Lc303, hQ303, l303, y303, z303⟩, st303⟩ := X300.specialBack hx (y := (⟨"java/time/LocalDate", "<init>", "(III)V"⟩ : MethodName)) rfl hown (mvT hZ (ow hw 111 rfl)) (mvT hZ (ow hw 112 rfl)) (mvT hZ (ow hw 114 rfl)) (by decide) (backOf (W := 1) (rmLd l Z a0 hw [] b n301 n263 n298 h300 n0 F302 A300 F_year_b F_month_b F_day_b ge_b (by omega) (by omega)) hZ (ow hw 114 rfl) (ow hw 63 rfl) (by decide) (by decide)) (g := (mkF m 231 #[.val (.long x), .second, .val (.long n14), .second, .val (.long (0 : Int64)), .second, .val (.long n254), .second, .val (.long n184), .second, iv n255, iv n261, iv n263, iv n298] [(.int n298), (.int n263), (.int n301), (.ref b), (.ref b)])) rfl (by rw [hml]; rfl) (Steps.refl _) (a := b) (argsL := [(.int n301), (.int n263), (.int n298)]) (rest := [(.ref b)]) (lenOf pd_329 rfl) rfl (by show 2 * 0 + _ ≤ _; exact Nat.le_of_eq rfl) (hb hby d31_231) (fun _ _ => ⟨rfl, e300, (by decide : 1 + 0 ≤ _), (by decide : 3 + 0 ≤ _)⟩)
          dsimp only [Pt.U, Pt.locs, Pt.cells, Pt.slots] at X303 l303 y303 z303 st303 hQ303
          subst l303 y303 z303
          obtain ⟨rfl, N303q, K303, Q303_0, Q303_1, Q303_2, Q303_3⟩ := hQ303
          have N303 := Fr.app N10 N303q
          refine Go.to st303 ?_
          show Go _ _ _ _ T303 (mkF m 234 #[.val (.long x), .second, .val (.long n14), .second, .val (.long (0 : Int64)), .second, .val (.long n254), .second, .val (.long n184), .second, iv n255, iv n261, iv n263, iv n298] [(.ref b)])
          rw [← e_n301] at of hyr
          have F304 : Keep h0 h300 [] := (Keep.refl h0 []).ext E300
          have F305 : Keep h0 T303.heap [] := F304.trans K303 (allS (Or.inr sz_b) all0)
          exact Go.retA X303 hx Bd.notSynchronized Bd.returns rfl rfl (hb hby d31_234) ⟨b, n301, n263, n298, rfl, N303, F305, Q303_0, Q303_1, Q303_2, Q303_3, of.1, hyr, ⟨of.2.1, of.2.2.1⟩, of.2.2.2⟩ (by decide) (by decide)
        · refine Go.icmpN 214 X10 hx (hb hby d31_211) (XT.ii_lt_f hb299) rfl ?_
          have i_hb299 := o_nlt32 hb299
          refine Go.lload2 216 X10 hx (hb hby d31_214) rfl rfl ?_
          refine Go.lconst 217 X10 hx (1 : Int64) (hb hby d31_216) (by decide) rfl ?_
          refine Go.ladd 218 X10 hx (hb hby d31_217) rfl ?_
          have li306 : (1 : Int64).toInt = 1 := by decide
          obtain ⟨n307, h_n307⟩ : ∃ z, z = (n254 + (1 : Int64)) := ⟨_, rfl⟩
          rw [← h_n307]
          show Go _ _ _ _ T10 (mkF m 218 #[.val (.long x), .second, .val (.long n14), .second, .val (.long (0 : Int64)), .second, .val (.long n254), .second, .val (.long n184), .second, iv n255, iv n261, iv n263, iv n298] [(.long n307)])
          have e_n307 : n307.toInt = n254.toInt + (1 : Int64).toInt := by rw [h_n307]; exact x_ladd (by omega) (by omega)
          refine Go.lstore2 220 X10 hx (L' := #[.val (.long x), .second, .val (.long n14), .second, .val (.long (0 : Int64)), .second, .val (.long n307), .second, .val (.long n184), .second, iv n255, iv n261, iv n263, iv n298]) (hb hby d31_218) rfl rfl ?_
          have hmq : (n261.toInt ≤ 9 ∧ n263.toInt = n261.toInt + 3) ∨ (9 < n261.toInt ∧ n263.toInt = n261.toInt - 9) := (by omega)
          have hyq : (n184.toInt < 306 ∧ n307.toInt = n173.toInt + 400 * (0)) ∨ (306 ≤ n184.toInt ∧ n307.toInt = n173.toInt + 400 * (0) + 1) := (by omega)
          have hdq : n298.toInt = n184.toInt - (n261.toInt * 306 + 5) / 10 + 1 := (by omega)
          have of := own_of n14.toInt x.toInt n173.toInt n184.toInt n261.toInt n263.toInt n298.toInt n307.toInt (0) hz.1 hz.2.1 hd1 hlo.1 hlo.2 hmm hdq hmq hyq
          have hyr : -100000000 ≤ n307.toInt ∧ n307.toInt ≤ 100000000 := by omega
          clear e_n254 e_n255 e_n257 e_n259 e_n261 e_n263 i_hb265 e_n292 e_n293 e_n295 e_n296 e_n298 i_hb299 e_n307
          obtain ⟨b, g308⟩ : ∃ z, z = h0.size := ⟨_, rfl⟩
          have ge_b : n0 ≤ b := Nat.le_trans Z0 (Nat.le_of_eq g308.symm)
          have sz_b : h0.size ≤ b := Nat.le_trans (Keep.refl h0 []).1 (Nat.le_of_eq g308.symm)
          obtain ⟨T308, h308, X308, e308, E308, A308, D308, -, st308⟩ := newO X10 hx hZ hown (ow hw 109 rfl) (ow hw 110 rfl) (ow hw 63 rfl) e10 (g := (mkF m 220 #[.val (.long x), .second, .val (.long n14), .second, .val (.long (0 : Int64)), .second, .val (.long n307), .second, .val (.long n184), .second, iv n255, iv n261, iv n263, iv n298] [])) rfl (hb hby d31_220) (by decide) (by decide)
          rw [← g308] at A308 D308 st308
          have F_year_b : Fld Z h308 b "java/time/LocalDate" "year" "I" (.int 0) := D308 (Or.inr (ow hw 117 rfl)) (ty := .int) (by decide)
          have F_month_b : Fld Z h308 b "java/time/LocalDate" "month" "S" (.int 0) := D308 (Or.inr (ow hw 119 rfl)) (ty := .short) (by decide)
          have F_day_b : Fld Z h308 b "java/time/LocalDate" "day" "S" (.int 0) := D308 (Or.inr (ow hw 121 rfl)) (ty := .short) (by decide)
          refine Go.by st308 ?_
          show Go _ _ _ _ T308 (mkF m 223 #[.val (.long x), .second, .val (.long n14), .second, .val (.long (0 : Int64)), .second, .val (.long n307), .second, .val (.long n184), .second, iv n255, iv n261, iv n263, iv n298] [(.ref b)])
          refine Go.dup 224 X308 hx (hb hby d31_223) rfl rfl ?_
          refine Go.lload2 226 X308 hx (hb hby d31_224) rfl rfl ?_
          refine Go.l2i 227 X308 hx (hb hby d31_226) rfl ?_
          obtain ⟨n309, h_n309⟩ : ∃ z, z = (n307.toInt32) := ⟨_, rfl⟩
          rw [← h_n309]
          show Go _ _ _ _ T308 (mkF m 227 #[.val (.long x), .second, .val (.long n14), .second, .val (.long (0 : Int64)), .second, .val (.long n307), .second, .val (.long n184), .second, iv n255, iv n261, iv n263, iv n298] [(.int n309), (.ref b), (.ref b)])
          have e_n309 : n309.toInt = n307.toInt := by rw [h_n309]; exact x_l2i (by omega) (by omega)
          refine Go.iload2 229 X308 hx (hb hby d31_227) rfl rfl ?_
          refine Go.iload2 231 X308 hx (hb hby d31_229) rfl rfl ?_
          have F310 : n0 ≤ h308.size := Nat.le_trans Z0 E308.1
          obtain ⟨_, _, ⟨T311, L311, k311, n311⟩, -, X311, ⟨Lc311, hQ311, l311, y311, z311⟩, st311⟩ := X308.specialBack hx (y := (⟨"java/time/LocalDate", "<init>", "(III)V"⟩ : MethodName)) rfl hown (mvT hZ (ow hw 111 rfl)) (mvT hZ (ow hw 112 rfl)) (mvT hZ (ow hw 114 rfl)) (by decide) (backOf (W := 1) (rmLd l Z a0 hw [] b n309 n263 n298 h308 n0 F310 A308 F_year_b F_month_b F_day_b ge_b (by omega) (by omega)) hZ (ow hw 114 rfl) (ow hw 63 rfl) (by decide) (by decide)) (g := (mkF m 231 #[.val (.long x), .second, .val (.long n14), .second, .val (.long (0 : Int64)), .second, .val (.long n307), .second, .val (.long n184), .second, iv n255, iv n261, iv n263, iv n298] [(.int n298), (.int n263), (.int n309), (.ref b), (.ref b)])) rfl (by rw [hml]; rfl) (Steps.refl _) (a := b) (argsL := [(.int n309), (.int n263), (.int n298)]) (rest := [(.ref b)]) (lenOf pd_329 rfl) rfl (by show 2 * 0 + _ ≤ _; exact Nat.le_of_eq rfl) (hb hby d31_231) (fun _ _ => ⟨rfl, e308, (by decide : 1 + 0 ≤ _), (by decide : 3 + 0 ≤ _)⟩)
          dsimp only [Pt.U, Pt.locs, Pt.cells, Pt.slots] at X311 l311 y311 z311 st311 hQ311
          subst l311 y311 z311
          obtain ⟨rfl, N311q, K311, Q311_0, Q311_1, Q311_2, Q311_3⟩ := hQ311
          have N311 := Fr.app N10 N311q
          refine Go.to st311 ?_
          show Go _ _ _ _ T311 (mkF m 234 #[.val (.long x), .second, .val (.long n14), .second, .val (.long (0 : Int64)), .second, .val (.long n307), .second, .val (.long n184), .second, iv n255, iv n261, iv n263, iv n298] [(.ref b)])
          rw [← e_n309] at of hyr
          have F312 : Keep h0 h308 [] := (Keep.refl h0 []).ext E308
          have F313 : Keep h0 T311.heap [] := F312.trans K311 (allS (Or.inr sz_b) all0)
          exact Go.retA X311 hx Bd.notSynchronized Bd.returns rfl rfl (hb hby d31_234) ⟨b, n309, n263, n298, rfl, N311, F313, Q311_0, Q311_1, Q311_2, Q311_3, of.1, hyr, ⟨of.2.1, of.2.2.1⟩, of.2.2.2⟩ (by decide) (by decide)
theorem own_win {n : Int} {mo dy : Int32} (h1 : mo.toInt = n / 31) (h2 : dy.toInt = n % 31 + 1) (h : n / 31 = 3 ∧ 22 ≤ n % 31 + 1 ∧ n % 31 + 1 ≤ 31 ∨ n / 31 = 4 ∧ 1 ≤ n % 31 + 1 ∧ n % 31 + 1 ≤ 25) : (mo = 3 ∧ 22 ≤ dy.toInt ∧ dy.toInt ≤ 31) ∨ (mo = 4 ∧ 1 ≤ dy.toInt ∧ dy.toInt ≤ 25) := by
  have l3 : (3 : Int32).toInt = 3 := by decide
  have l4 : (4 : Int32).toInt = 4 := by decide
  rcases h with ⟨q, q1, q2⟩ | ⟨q, q1, q2⟩
  · exact Or.inl ⟨u_eq32 (by omega), by omega, by omega⟩
  · exact Or.inr ⟨u_eq32 (by omega), by omega, by omega⟩
theorem own_winb {mo dy : Int32} (h : (mo = 3 ∧ 22 ≤ dy.toInt ∧ dy.toInt ≤ 31) ∨ (mo = 4 ∧ 1 ≤ dy.toInt ∧ dy.toInt ≤ 25)) : (3 ≤ mo.toInt ∧ mo.toInt ≤ 4) ∧ 1 ≤ dy.toInt ∧ dy.toInt ≤ 31 := by
  have l3 : (3 : Int32).toInt = 3 := by decide
  have l4 : (4 : Int32).toInt = 4 := by decide
  rcases h with ⟨rfl, q1, q2⟩ | ⟨rfl, q1, q2⟩ <;> omega
theorem own_nov3 {x y r : Int64} (h : r.toInt = x.toInt + y.toInt) : ¬ ((x ^^^ r) &&& (y ^^^ r)) < 0 := by
  have s1 := c_xorSL x r
  have s2 := c_xorSL y r
  have s3 := c_andSL (x ^^^ r) (y ^^^ r)
  have z : (0 : Int64).toInt = 0 := by decide
  rw [Int64.lt_iff_toInt_lt, z]
  omega
theorem own_edd (y m d d' : Int) : own_ed y m d' = own_ed y m d + (d' - d) := by
  unfold own_ed
  omega
theorem own_edR {y m d : Int} (hy : 0 ≤ y ∧ y ≤ 70000000) (hm : 3 ≤ m ∧ m ≤ 4) (hd : 1 ≤ d ∧ d ≤ 31) : -1000000 ≤ own_ed y m d ∧ own_ed y m d ≤ 27000000000 := by
  rw [own_ed3 _ _ _ hm.1]
  omega
theorem own_edM3 {y d d' x : Int} (h : d' = d + x - 31) : own_ed y 4 d' = own_ed y 3 d + x := by
  rw [own_ed3 _ _ _ (by decide), own_ed3 _ _ _ (by decide)]
  omega
theorem own_edM4 {y d d' x : Int} (h : d' = d + x - 30) : own_ed y 5 d' = own_ed y 4 d + x := by
  rw [own_ed3 _ _ _ (by decide), own_ed3 _ _ _ (by decide)]
  omega
theorem ef_336 (m : MethodId) (x0 : Int32) (x1 : Int32) (x2 : Int32) : entryFrame m #[(.int x0), (.int x1), (.int x2)] 4 = mkF m 0 #[iv x0, iv x1, iv x2, un] [] := by (first | (simp [entryFrame, mkF, argsToLocals, Value.category]; done) | rfl)
theorem d18_0 : decode jdk_2323_method_12_code 0 = .ok (.iload_n 2, 1) := by decide +kernel
theorem d18_1 : decode jdk_2323_method_12_code 1 = .ok (.bipush 28, 2) := by decide +kernel
theorem d18_3 : decode jdk_2323_method_12_code 3 = .ok (.if_icmp .le 176, 3) := by decide +kernel
theorem d18_6 : decode jdk_2323_method_12_code 6 = .ok (.iload_n 1, 1) := by decide +kernel
theorem d18_7 : decode jdk_2323_method_12_code 7 = .ok (.tableswitch 79 2 11 #[53, 79, 74, 79, 74, 79, 79, 74, 79, 74], 53) := by decide +kernel
theorem d18_86 : decode jdk_2323_method_12_code 86 = .ok (.bipush 31, 2) := by decide +kernel
theorem d18_88 : decode jdk_2323_method_12_code 88 = .ok (.istore_n 3, 1) := by decide +kernel
theorem d18_89 : decode jdk_2323_method_12_code 89 = .ok (.iload_n 2, 1) := by decide +kernel
theorem d18_90 : decode jdk_2323_method_12_code 90 = .ok (.iload_n 3, 1) := by decide +kernel
theorem d18_91 : decode jdk_2323_method_12_code 91 = .ok (.if_icmp .le 88, 3) := by decide +kernel
theorem d18_179 : decode jdk_2323_method_12_code 179 = .ok (.new 1, 3) := by decide +kernel
theorem d18_182 : decode jdk_2323_method_12_code 182 = .ok (.dup, 1) := by decide +kernel
theorem d18_183 : decode jdk_2323_method_12_code 183 = .ok (.iload_n 0, 1) := by decide +kernel
theorem d18_184 : decode jdk_2323_method_12_code 184 = .ok (.iload_n 1, 1) := by decide +kernel
theorem d18_185 : decode jdk_2323_method_12_code 185 = .ok (.iload_n 2, 1) := by decide +kernel
theorem d18_186 : decode jdk_2323_method_12_code 186 = .ok (.invokespecial 121, 3) := by decide +kernel
theorem d18_189 : decode jdk_2323_method_12_code 189 = .ok (.areturn, 1) := by decide +kernel
def Q_rmCreate (Z : State) (y : Int32) (mo : Int32) (dy : Int32) (h0 : Heap) (n0 : Nat) (v : Option Value) (h : Heap) (L : List Loc) : Prop := ∃ b : Addr, v = some (.ref b) ∧ Fr n0 L ∧ Keep h0 h [] ∧ Exa Z h b "java/time/LocalDate" ∧ Fld Z h b "java/time/LocalDate" "year" "I" (.int y) ∧ Fld Z h b "java/time/LocalDate" "month" "S" (.int mo) ∧ Fld Z h b "java/time/LocalDate" "day" "S" (.int dy)
set_option maxRecDepth 65536 in
set_option maxHeartbeats 40000000 in
theorem rmCreate (l : Launch) (Z : State) (a0 : Array Value) (hw : ∀ d ∈ tables_1, d.before a0 Z = true) (ws : List Jvm.Cond) (y : Int32) (mo : Int32) (dy : Int32) (h0 : Heap) (n0 : Nat) (Z0 : n0 ≤ h0.size) (hw1 : ((mo = 3 ∧ 22 ≤ dy.toInt ∧ dy.toInt ≤ 31) ∨ (mo = 4 ∧ 1 ≤ dy.toInt ∧ dy.toInt ≤ 25))) :
    MetFree l (⟨"java/time/LocalDate", "create", "(III)Ljava/time/LocalDate;"⟩ : MethodName) (head1 (Jvm.Cond.code (⟨"java/time/LocalDate", "create", "(III)Ljava/time/LocalDate;"⟩ : MethodName) jdk_2323_method_12_code 4 (some (.object "java/time/LocalDate")) :: ws) ({ frames := 2, cells := 1, slots := 3, locals := 28 } : Room)) (fun as' U => as' = #[(.int y), (.int mo), (.int dy)] ∧ Z.Warmed39 U.vm ∧ U.heap = h0) (fun _ _ _ _ _ => True) (fun _ U o U' => ∃ v L, o = .returned v ∧ Q_rmCreate Z y mo dy h0 n0 v U'.heap L ∧ FrameEnd U o U' L ({ frames := 2, cells := 1, slots := 3, locals := 28 } : Room).cells ({ frames := 2, cells := 1, slots := 3, locals := 28 } : Room).slots) := by
  refine MetFree.of_bodySF (plainFor_of_name pn_46) hisR ?_
  intro p e s m args below meth c s₁ Bd hml0 hP hK
  obtain ⟨rfl, hZ, hh⟩ := hP
  have hx := Bd.exec
  have hby := Bd.bytes
  have hml : c.maxLocals = 4 := hml0
  have hown : s.vm.findClass "java/time/LocalDate" = some m.cls := findClass_of_methodNamed Bd.named
  have hnm := (name_of_methodNamed Bd.named Bd.method).1
  have X0 : Stand p l e ({ frames := 2, cells := 1, slots := 3, locals := 28 } : Room) s m #[(.int y), (.int mo), (.int dy)] below meth c s₁ [] 0 0 := Stand.of_body Bd
  have e0 : s₁.heap = h0 := by rw [← hh, Bd.state]; rfl
  have N0 := Fr.nil n0
  refine Go.enter (F := EndN s (Q_rmCreate Z y mo dy h0 n0) ({ frames := 2, cells := 1, slots := 3, locals := 28 } : Room).cells ({ frames := 2, cells := 1, slots := 3, locals := 28 } : Room).slots) (ef_336 m y mo dy) ?_
  show Go _ _ _ _ s₁ (mkF m 0 #[iv y, iv mo, iv dy, un] [])
  rcases hw1 with ⟨rfl, hd⟩ | ⟨rfl, hd⟩
  · show Go _ _ _ _ s₁ (mkF m 0 #[iv y, iv 3, iv dy, un] [])
    refine Go.iload1 1 X0 hx (hb hby d18_0) rfl rfl ?_
    refine Go.bipush 3 X0 hx (28 : Int32) (hb hby d18_1) (by decide) rfl ?_
    obtain ⟨hd1, hd2⟩ := hd
    have li1 : (28 : Int32).toInt = 28 := by decide
    by_cases hb2 : (28 : Int32) < dy
    · refine Go.icmpN 6 X0 hx (hb hby d18_3) (XT.ii_le_f hb2) rfl ?_
      have i_hb2 := o_lt32 hb2
      refine Go.iload1 7 X0 hx (hb hby d18_6) rfl rfl ?_
      refine Go.by (fun _ gk => XS.tswIn X0.here hx rfl (pc0 := 7) (pc' := 86) rfl (hb hby d18_7) rfl (by decide) rfl (by decide) (by decide) gk) ?_
      show Go _ _ _ _ s₁ (mkF m 86 #[iv y, iv 3, iv dy, un] [])
      refine Go.bipush 88 X0 hx (31 : Int32) (hb hby d18_86) (by decide) rfl ?_
      refine Go.istore1 89 X0 hx (L' := #[iv y, iv 3, iv dy, iv 31]) (hb hby d18_88) rfl rfl ?_
      refine Go.iload1 90 X0 hx (hb hby d18_89) rfl rfl ?_
      refine Go.iload1 91 X0 hx (hb hby d18_90) rfl rfl ?_
      have li3 : (31 : Int32).toInt = 31 := by decide
      refine Go.icmpY 179 X0 hx (hb hby d18_91) (XT.ii_le_t (u_nlt32 (by omega))) (by decide) (by decide) ?_
      obtain ⟨b, g4⟩ : ∃ z, z = h0.size := ⟨_, rfl⟩
      have ge_b : n0 ≤ b := Nat.le_trans Z0 (Nat.le_of_eq g4.symm)
      have sz_b : h0.size ≤ b := Nat.le_trans (Keep.refl h0 []).1 (Nat.le_of_eq g4.symm)
      obtain ⟨T4, h4, X4, e4, E4, A4, D4, -, st4⟩ := newO X0 hx hZ hown (ow hw 109 rfl) (ow hw 110 rfl) (ow hw 63 rfl) e0 (g := (mkF m 179 #[iv y, iv 3, iv dy, iv 31] [])) rfl (hb hby d18_179) (by decide) (by decide)
      rw [← g4] at A4 D4 st4
      have F_year_b : Fld Z h4 b "java/time/LocalDate" "year" "I" (.int 0) := D4 (Or.inr (ow hw 117 rfl)) (ty := .int) (by decide)
      have F_month_b : Fld Z h4 b "java/time/LocalDate" "month" "S" (.int 0) := D4 (Or.inr (ow hw 119 rfl)) (ty := .short) (by decide)
      have F_day_b : Fld Z h4 b "java/time/LocalDate" "day" "S" (.int 0) := D4 (Or.inr (ow hw 121 rfl)) (ty := .short) (by decide)
      refine Go.by st4 ?_
      show Go _ _ _ _ T4 (mkF m 182 #[iv y, iv 3, iv dy, iv 31] [(.ref b)])
      refine Go.dup 183 X4 hx (hb hby d18_182) rfl rfl ?_
      refine Go.iload1 184 X4 hx (hb hby d18_183) rfl rfl ?_
      refine Go.iload1 185 X4 hx (hb hby d18_184) rfl rfl ?_
      refine Go.iload1 186 X4 hx (hb hby d18_185) rfl rfl ?_
      have F5 : n0 ≤ h4.size := Nat.le_trans Z0 E4.1
      obtain ⟨_, _, ⟨T6, L6, k6, n6⟩, -, X6, ⟨Lc6, hQ6, l6, y6, z6⟩, st6⟩ := X4.specialBack hx (y := (⟨"java/time/LocalDate", "<init>", "(III)V"⟩ : MethodName)) rfl hown (mvT hZ (ow hw 111 rfl)) (mvT hZ (ow hw 112 rfl)) (mvT hZ (ow hw 114 rfl)) (by decide) (backOf (W := 1) (rmLd l Z a0 hw [] b y (3 : Int32) dy h4 n0 F5 A4 F_year_b F_month_b F_day_b ge_b (by decide) (⟨by omega, by omega⟩)) hZ (ow hw 114 rfl) (ow hw 63 rfl) (by decide) (by decide)) (g := (mkF m 186 #[iv y, iv 3, iv dy, iv 31] [(.int dy), (.int 3), (.int y), (.ref b), (.ref b)])) rfl (by rw [hml]; rfl) (Steps.refl _) (a := b) (argsL := [(.int y), (.int 3), (.int dy)]) (rest := [(.ref b)]) (lenOf pd_329 rfl) rfl (by show 2 * 0 + _ ≤ _; exact Nat.le_of_eq rfl) (hb hby d18_186) (fun _ _ => ⟨rfl, e4, (by decide : 1 + 0 ≤ _), (by decide : 3 + 0 ≤ _)⟩)
      dsimp only [Pt.U, Pt.locs, Pt.cells, Pt.slots] at X6 l6 y6 z6 st6 hQ6
      subst l6 y6 z6
      obtain ⟨rfl, N6q, K6, Q6_0, Q6_1, Q6_2, Q6_3⟩ := hQ6
      have N6 := Fr.app N0 N6q
      refine Go.to st6 ?_
      show Go _ _ _ _ T6 (mkF m 189 #[iv y, iv 3, iv dy, iv 31] [(.ref b)])
      have F7 : Keep h0 h4 [] := (Keep.refl h0 []).ext E4
      have F8 : Keep h0 T6.heap [] := F7.trans K6 (allS (Or.inr sz_b) all0)
      exact Go.retA X6 hx Bd.notSynchronized Bd.returns rfl rfl (hb hby d18_189) ⟨b, rfl, N6, F8, Q6_0, Q6_1, Q6_2, Q6_3⟩ (by decide) (by decide)
    · refine Go.icmpY 179 X0 hx (hb hby d18_3) (XT.ii_le_t hb2) (by decide) (by decide) ?_
      have i_hb2 := o_nlt32 hb2
      obtain ⟨b, g9⟩ : ∃ z, z = h0.size := ⟨_, rfl⟩
      have ge_b : n0 ≤ b := Nat.le_trans Z0 (Nat.le_of_eq g9.symm)
      have sz_b : h0.size ≤ b := Nat.le_trans (Keep.refl h0 []).1 (Nat.le_of_eq g9.symm)
      obtain ⟨T9, h9, X9, e9, E9, A9, D9, -, st9⟩ := newO X0 hx hZ hown (ow hw 109 rfl) (ow hw 110 rfl) (ow hw 63 rfl) e0 (g := (mkF m 179 #[iv y, iv 3, iv dy, un] [])) rfl (hb hby d18_179) (by decide) (by decide)
      rw [← g9] at A9 D9 st9
      have F_year_b : Fld Z h9 b "java/time/LocalDate" "year" "I" (.int 0) := D9 (Or.inr (ow hw 117 rfl)) (ty := .int) (by decide)
      have F_month_b : Fld Z h9 b "java/time/LocalDate" "month" "S" (.int 0) := D9 (Or.inr (ow hw 119 rfl)) (ty := .short) (by decide)
      have F_day_b : Fld Z h9 b "java/time/LocalDate" "day" "S" (.int 0) := D9 (Or.inr (ow hw 121 rfl)) (ty := .short) (by decide)
      refine Go.by st9 ?_
      show Go _ _ _ _ T9 (mkF m 182 #[iv y, iv 3, iv dy, un] [(.ref b)])
      refine Go.dup 183 X9 hx (hb hby d18_182) rfl rfl ?_
      refine Go.iload1 184 X9 hx (hb hby d18_183) rfl rfl ?_
      refine Go.iload1 185 X9 hx (hb hby d18_184) rfl rfl ?_
      refine Go.iload1 186 X9 hx (hb hby d18_185) rfl rfl ?_
      have F10 : n0 ≤ h9.size := Nat.le_trans Z0 E9.1
      obtain ⟨_, _, ⟨T11, L11, k11, n11⟩, -, X11, ⟨Lc11, hQ11, l11, y11, z11⟩, st11⟩ := X9.specialBack hx (y := (⟨"java/time/LocalDate", "<init>", "(III)V"⟩ : MethodName)) rfl hown (mvT hZ (ow hw 111 rfl)) (mvT hZ (ow hw 112 rfl)) (mvT hZ (ow hw 114 rfl)) (by decide) (backOf (W := 1) (rmLd l Z a0 hw [] b y (3 : Int32) dy h9 n0 F10 A9 F_year_b F_month_b F_day_b ge_b (by decide) (⟨by omega, by omega⟩)) hZ (ow hw 114 rfl) (ow hw 63 rfl) (by decide) (by decide)) (g := (mkF m 186 #[iv y, iv 3, iv dy, un] [(.int dy), (.int 3), (.int y), (.ref b), (.ref b)])) rfl (by rw [hml]; rfl) (Steps.refl _) (a := b) (argsL := [(.int y), (.int 3), (.int dy)]) (rest := [(.ref b)]) (lenOf pd_329 rfl) rfl (by show 2 * 0 + _ ≤ _; exact Nat.le_of_eq rfl) (hb hby d18_186) (fun _ _ => ⟨rfl, e9, (by decide : 1 + 0 ≤ _), (by decide : 3 + 0 ≤ _)⟩)
      dsimp only [Pt.U, Pt.locs, Pt.cells, Pt.slots] at X11 l11 y11 z11 st11 hQ11
      subst l11 y11 z11
      obtain ⟨rfl, N11q, K11, Q11_0, Q11_1, Q11_2, Q11_3⟩ := hQ11
      have N11 := Fr.app N0 N11q
      refine Go.to st11 ?_
      show Go _ _ _ _ T11 (mkF m 189 #[iv y, iv 3, iv dy, un] [(.ref b)])
      have F12 : Keep h0 h9 [] := (Keep.refl h0 []).ext E9
      have F13 : Keep h0 T11.heap [] := F12.trans K11 (allS (Or.inr sz_b) all0)
      exact Go.retA X11 hx Bd.notSynchronized Bd.returns rfl rfl (hb hby d18_189) ⟨b, rfl, N11, F13, Q11_0, Q11_1, Q11_2, Q11_3⟩ (by decide) (by decide)
  · show Go _ _ _ _ s₁ (mkF m 0 #[iv y, iv 4, iv dy, un] [])
    refine Go.iload1 1 X0 hx (hb hby d18_0) rfl rfl ?_
    refine Go.bipush 3 X0 hx (28 : Int32) (hb hby d18_1) (by decide) rfl ?_
    obtain ⟨hd1, hd2⟩ := hd
    have li14 : (28 : Int32).toInt = 28 := by decide
    refine Go.icmpY 179 X0 hx (hb hby d18_3) (XT.ii_le_t (u_nlt32 (by omega))) (by decide) (by decide) ?_
    obtain ⟨b, g15⟩ : ∃ z, z = h0.size := ⟨_, rfl⟩
    have ge_b : n0 ≤ b := Nat.le_trans Z0 (Nat.le_of_eq g15.symm)
    have sz_b : h0.size ≤ b := Nat.le_trans (Keep.refl h0 []).1 (Nat.le_of_eq g15.symm)
    obtain ⟨T15, h15, X15, e15, E15, A15, D15, -, st15⟩ := newO X0 hx hZ hown (ow hw 109 rfl) (ow hw 110 rfl) (ow hw 63 rfl) e0 (g := (mkF m 179 #[iv y, iv 4, iv dy, un] [])) rfl (hb hby d18_179) (by decide) (by decide)
    rw [← g15] at A15 D15 st15
    have F_year_b : Fld Z h15 b "java/time/LocalDate" "year" "I" (.int 0) := D15 (Or.inr (ow hw 117 rfl)) (ty := .int) (by decide)
    have F_month_b : Fld Z h15 b "java/time/LocalDate" "month" "S" (.int 0) := D15 (Or.inr (ow hw 119 rfl)) (ty := .short) (by decide)
    have F_day_b : Fld Z h15 b "java/time/LocalDate" "day" "S" (.int 0) := D15 (Or.inr (ow hw 121 rfl)) (ty := .short) (by decide)
    refine Go.by st15 ?_
    show Go _ _ _ _ T15 (mkF m 182 #[iv y, iv 4, iv dy, un] [(.ref b)])
    refine Go.dup 183 X15 hx (hb hby d18_182) rfl rfl ?_
    refine Go.iload1 184 X15 hx (hb hby d18_183) rfl rfl ?_
    refine Go.iload1 185 X15 hx (hb hby d18_184) rfl rfl ?_
    refine Go.iload1 186 X15 hx (hb hby d18_185) rfl rfl ?_
    have F16 : n0 ≤ h15.size := Nat.le_trans Z0 E15.1
    obtain ⟨_, _, ⟨T17, L17, k17, n17⟩, -, X17, ⟨Lc17, hQ17, l17, y17, z17⟩, st17⟩ := X15.specialBack hx (y := (⟨"java/time/LocalDate", "<init>", "(III)V"⟩ : MethodName)) rfl hown (mvT hZ (ow hw 111 rfl)) (mvT hZ (ow hw 112 rfl)) (mvT hZ (ow hw 114 rfl)) (by decide) (backOf (W := 1) (rmLd l Z a0 hw [] b y (4 : Int32) dy h15 n0 F16 A15 F_year_b F_month_b F_day_b ge_b (by decide) (⟨by omega, by omega⟩)) hZ (ow hw 114 rfl) (ow hw 63 rfl) (by decide) (by decide)) (g := (mkF m 186 #[iv y, iv 4, iv dy, un] [(.int dy), (.int 4), (.int y), (.ref b), (.ref b)])) rfl (by rw [hml]; rfl) (Steps.refl _) (a := b) (argsL := [(.int y), (.int 4), (.int dy)]) (rest := [(.ref b)]) (lenOf pd_329 rfl) rfl (by show 2 * 0 + _ ≤ _; exact Nat.le_of_eq rfl) (hb hby d18_186) (fun _ _ => ⟨rfl, e15, (by decide : 1 + 0 ≤ _), (by decide : 3 + 0 ≤ _)⟩)
    dsimp only [Pt.U, Pt.locs, Pt.cells, Pt.slots] at X17 l17 y17 z17 st17 hQ17
    subst l17 y17 z17
    obtain ⟨rfl, N17q, K17, Q17_0, Q17_1, Q17_2, Q17_3⟩ := hQ17
    have N17 := Fr.app N0 N17q
    refine Go.to st17 ?_
    show Go _ _ _ _ T17 (mkF m 189 #[iv y, iv 4, iv dy, un] [(.ref b)])
    have F18 : Keep h0 h15 [] := (Keep.refl h0 []).ext E15
    have F19 : Keep h0 T17.heap [] := F18.trans K17 (allS (Or.inr sz_b) all0)
    exact Go.retA X17 hx Bd.notSynchronized Bd.returns rfl rfl (hb hby d18_189) ⟨b, rfl, N17, F19, Q17_0, Q17_1, Q17_2, Q17_3⟩ (by decide) (by decide)
theorem ef_354 (m : MethodId) (x0 : Int32) (x1 : Int32) (x2 : Int32) : entryFrame m #[(.int x0), (.int x1), (.int x2)] 3 = mkF m 0 #[iv x0, iv x1, iv x2] [] := by (first | (simp [entryFrame, mkF, argsToLocals, Value.category]; done) | rfl)
theorem d11_0 : decode jdk_2323_method_5_code 0 = .ok (.getstatic 39, 3) := by decide +kernel
theorem d11_3 : decode jdk_2323_method_5_code 3 = .ok (.iload_n 0, 1) := by decide +kernel
theorem d11_4 : decode jdk_2323_method_5_code 4 = .ok (.i2l, 1) := by decide +kernel
theorem d11_5 : decode jdk_2323_method_5_code 5 = .ok (.invokevirtual 45, 3) := by decide +kernel
theorem d11_8 : decode jdk_2323_method_5_code 8 = .ok (.pop2, 1) := by decide +kernel
theorem d11_9 : decode jdk_2323_method_5_code 9 = .ok (.getstatic 64, 3) := by decide +kernel
theorem d11_12 : decode jdk_2323_method_5_code 12 = .ok (.iload_n 1, 1) := by decide +kernel
theorem d11_13 : decode jdk_2323_method_5_code 13 = .ok (.i2l, 1) := by decide +kernel
theorem d11_14 : decode jdk_2323_method_5_code 14 = .ok (.invokevirtual 45, 3) := by decide +kernel
theorem d11_17 : decode jdk_2323_method_5_code 17 = .ok (.pop2, 1) := by decide +kernel
theorem d11_18 : decode jdk_2323_method_5_code 18 = .ok (.getstatic 51, 3) := by decide +kernel
theorem d11_21 : decode jdk_2323_method_5_code 21 = .ok (.iload_n 2, 1) := by decide +kernel
theorem d11_22 : decode jdk_2323_method_5_code 22 = .ok (.i2l, 1) := by decide +kernel
theorem d11_23 : decode jdk_2323_method_5_code 23 = .ok (.invokevirtual 45, 3) := by decide +kernel
theorem d11_26 : decode jdk_2323_method_5_code 26 = .ok (.pop2, 1) := by decide +kernel
theorem d11_27 : decode jdk_2323_method_5_code 27 = .ok (.iload_n 0, 1) := by decide +kernel
theorem d11_28 : decode jdk_2323_method_5_code 28 = .ok (.iload_n 1, 1) := by decide +kernel
theorem d11_29 : decode jdk_2323_method_5_code 29 = .ok (.iload_n 2, 1) := by decide +kernel
theorem pd_373 : parseMethodDescriptor "(III)Ljava/time/LocalDate;" = some ⟨[.int, .int, .int], some (.object "java/time/LocalDate")⟩ := by decide +kernel
theorem d11_30 : decode jdk_2323_method_5_code 30 = .ok (.invokestatic 60, 3) := by decide +kernel
theorem d11_33 : decode jdk_2323_method_5_code 33 = .ok (.areturn, 1) := by decide +kernel
def Q_rmLof (Z : State) (y : Int32) (mo : Int32) (dy : Int32) (cY : Addr) (vY : Addr) (cM : Addr) (vM : Addr) (cD : Addr) (vD : Addr) (cE : Addr) (vE : Addr) (ic : Addr) (h0 : Heap) (n0 : Nat) (v : Option Value) (h : Heap) (L : List Loc) : Prop := ∃ b : Addr, v = some (.ref b) ∧ Fr n0 L ∧ Keep h0 h [] ∧ Exa Z h b "java/time/LocalDate" ∧ Fld Z h b "java/time/LocalDate" "year" "I" (.int y) ∧ Fld Z h b "java/time/LocalDate" "month" "S" (.int mo) ∧ Fld Z h b "java/time/LocalDate" "day" "S" (.int dy)
set_option maxRecDepth 65536 in
set_option maxHeartbeats 40000000 in
theorem rmLof (l : Launch) (Z : State) (a0 : Array Value) (hw : ∀ d ∈ tables_1, d.before a0 Z = true) (ws : List Jvm.Cond) (y : Int32) (mo : Int32) (dy : Int32) (cY : Addr) (vY : Addr) (cM : Addr) (vM : Addr) (cD : Addr) (vD : Addr) (cE : Addr) (vE : Addr) (ic : Addr) (h0 : Heap) (n0 : Nat) (Z0 : n0 ≤ h0.size) (O0 : Old Z n0 h0) (hy : (0 ≤ y.toInt ∧ y.toInt ≤ 70000000)) (hw1 : ((mo = 3 ∧ 22 ≤ dy.toInt ∧ dy.toInt ≤ 31) ∨ (mo = 4 ∧ 1 ≤ dy.toInt ∧ dy.toInt ≤ 25))) (Dc0 : Sta Z Z.heap "java/time/temporal/ChronoField" "YEAR" "Ljava/time/temporal/ChronoField;" (.ref cY)) (Dc1 : Exa Z Z.heap cY "java/time/temporal/ChronoField") (Dc2 : Fld Z Z.heap cY "java/time/temporal/ChronoField" "range" "Ljava/time/temporal/ValueRange;" (.ref vY)) (Dc3 : Exa Z Z.heap vY "java/time/temporal/ValueRange") (Dc4 : Fld Z Z.heap vY "java/time/temporal/ValueRange" "minSmallest" "J" (.long (-999999999 : Int64))) (Dc5 : Fld Z Z.heap vY "java/time/temporal/ValueRange" "maxLargest" "J" (.long (999999999 : Int64))) (Dc6 : Sta Z Z.heap "java/time/temporal/ChronoField" "MONTH_OF_YEAR" "Ljava/time/temporal/ChronoField;" (.ref cM)) (Dc7 : Exa Z Z.heap cM "java/time/temporal/ChronoField") (Dc8 : Fld Z Z.heap cM "java/time/temporal/ChronoField" "range" "Ljava/time/temporal/ValueRange;" (.ref vM)) (Dc9 : Exa Z Z.heap vM "java/time/temporal/ValueRange") (Dc10 : Fld Z Z.heap vM "java/time/temporal/ValueRange" "minSmallest" "J" (.long (1 : Int64))) (Dc11 : Fld Z Z.heap vM "java/time/temporal/ValueRange" "maxLargest" "J" (.long (12 : Int64))) (Dc12 : Sta Z Z.heap "java/time/temporal/ChronoField" "DAY_OF_MONTH" "Ljava/time/temporal/ChronoField;" (.ref cD)) (Dc13 : Exa Z Z.heap cD "java/time/temporal/ChronoField") (Dc14 : Fld Z Z.heap cD "java/time/temporal/ChronoField" "range" "Ljava/time/temporal/ValueRange;" (.ref vD)) (Dc15 : Exa Z Z.heap vD "java/time/temporal/ValueRange") (Dc16 : Fld Z Z.heap vD "java/time/temporal/ValueRange" "minSmallest" "J" (.long (1 : Int64))) (Dc17 : Fld Z Z.heap vD "java/time/temporal/ValueRange" "maxLargest" "J" (.long (31 : Int64))) (Dc18 : Sta Z Z.heap "java/time/temporal/ChronoField" "EPOCH_DAY" "Ljava/time/temporal/ChronoField;" (.ref cE)) (Dc19 : Exa Z Z.heap cE "java/time/temporal/ChronoField") (Dc20 : Fld Z Z.heap cE "java/time/temporal/ChronoField" "range" "Ljava/time/temporal/ValueRange;" (.ref vE)) (Dc21 : Exa Z Z.heap vE "java/time/temporal/ValueRange") (Dc22 : Fld Z Z.heap vE "java/time/temporal/ValueRange" "minSmallest" "J" (.long (-365243219162 : Int64))) (Dc23 : Fld Z Z.heap vE "java/time/temporal/ValueRange" "maxLargest" "J" (.long (365241780471 : Int64))) (Dc24 : Sta Z Z.heap "java/time/chrono/IsoChronology" "INSTANCE" "Ljava/time/chrono/IsoChronology;" (.ref ic)) (Dc25 : Exa Z Z.heap ic "java/time/chrono/IsoChronology") :
    MetFree l (⟨"java/time/LocalDate", "of", "(III)Ljava/time/LocalDate;"⟩ : MethodName) (head1 (Jvm.Cond.code (⟨"java/time/LocalDate", "of", "(III)Ljava/time/LocalDate;"⟩ : MethodName) jdk_2323_method_5_code 3 (some (.object "java/time/LocalDate")) :: ws) ({ frames := 4, cells := 1, slots := 3, locals := 57 } : Room)) (fun as' U => as' = #[(.int y), (.int mo), (.int dy)] ∧ Z.Warmed39 U.vm ∧ U.heap = h0) (fun _ _ _ _ _ => True) (fun _ U o U' => ∃ v L, o = .returned v ∧ Q_rmLof Z y mo dy cY vY cM vM cD vD cE vE ic h0 n0 v U'.heap L ∧ FrameEnd U o U' L ({ frames := 4, cells := 1, slots := 3, locals := 57 } : Room).cells ({ frames := 4, cells := 1, slots := 3, locals := 57 } : Room).slots) := by
  refine MetFree.of_bodySF (plainFor_of_name pn_46) hisR ?_
  intro p e s m args below meth c s₁ Bd hml0 hP hK
  obtain ⟨rfl, hZ, hh⟩ := hP
  have hx := Bd.exec
  have hby := Bd.bytes
  have hml : c.maxLocals = 3 := hml0
  have hown : s.vm.findClass "java/time/LocalDate" = some m.cls := findClass_of_methodNamed Bd.named
  have hnm := (name_of_methodNamed Bd.named Bd.method).1
  have X0 : Stand p l e ({ frames := 4, cells := 1, slots := 3, locals := 57 } : Room) s m #[(.int y), (.int mo), (.int dy)] below meth c s₁ [] 0 0 := Stand.of_body Bd
  have e0 : s₁.heap = h0 := by rw [← hh, Bd.state]; rfl
  have N0 := Fr.nil n0
  refine Go.enter (F := EndN s (Q_rmLof Z y mo dy cY vY cM vM cD vD cE vE ic h0 n0) ({ frames := 4, cells := 1, slots := 3, locals := 57 } : Room).cells ({ frames := 4, cells := 1, slots := 3, locals := 57 } : Room).slots) (ef_354 m y mo dy) ?_
  show Go _ _ _ _ s₁ (mkF m 0 #[iv y, iv mo, iv dy] [])
  obtain ⟨hmb, hdb⟩ := own_winb hw1
  have F1 : Sta Z h0 "java/time/temporal/ChronoField" "YEAR" "Ljava/time/temporal/ChronoField;" (.ref cY) := Dc0.ext O0.2
  obtain ⟨T2, X2, e2, st2⟩ := getS2 X0 hx hZ hown (host := "") (Or.inl (ow hw 65 rfl)) Via.refl e0 F1 (g := (mkF m 0 #[iv y, iv mo, iv dy] [])) rfl (hb hby d11_0)
  refine Go.by st2 ?_
  show Go _ _ _ _ T2 (mkF m 3 #[iv y, iv mo, iv dy] [(.ref cY)])
  refine Go.iload1 4 X2 hx (hb hby d11_3) rfl rfl ?_
  refine Go.i2l 5 X2 hx (hb hby d11_4) rfl ?_
  obtain ⟨n3, h_n3⟩ : ∃ z, z = (y.toInt64) := ⟨_, rfl⟩
  rw [← h_n3]
  show Go _ _ _ _ T2 (mkF m 5 #[iv y, iv mo, iv dy] [(.long n3), (.ref cY)])
  have e_n3 : n3.toInt = y.toInt := by rw [h_n3]; exact c_i2l _
  have li4 : (-999999999 : Int64).toInt = -999999999 := by decide
  have li5 : (999999999 : Int64).toInt = 999999999 := by decide
  have F6 : Exa Z h0 cY "java/time/temporal/ChronoField" := Dc1.ext O0.2
  have F7 : Fld Z h0 cY "java/time/temporal/ChronoField" "range" "Ljava/time/temporal/ValueRange;" (.ref vY) := Dc2.ext O0.2
  have F8 : Exa Z h0 vY "java/time/temporal/ValueRange" := Dc3.ext O0.2
  have F9 : Fld Z h0 vY "java/time/temporal/ValueRange" "minSmallest" "J" (.long (-999999999 : Int64)) := Dc4.ext O0.2
  have F10 : Fld Z h0 vY "java/time/temporal/ValueRange" "maxLargest" "J" (.long (999999999 : Int64)) := Dc5.ext O0.2
  obtain ⟨cq11, kq11, q11a, q11b, q11c⟩ := isOf hZ e2 F6
  obtain ⟨_, _, ⟨T11, L11, k11, n11⟩, -, X11, ⟨Lc11, hQ11, l11, y11, z11⟩, st11⟩ := X2.virtualBack hx (y := (⟨"java/time/temporal/ChronoField", "checkValidValue", "(J)J"⟩ : MethodName)) (z := (⟨"java/time/temporal/ChronoField", "checkValidValue", "(J)J"⟩ : MethodName)) hown (mvT hZ (ow hw 67 rfl)) (mvT hZ (ow hw 68 rfl)) (notFace_of_selects (args := #[]) (mvT hZ (ow hw 70 rfl))) (mvT hZ (ow hw 70 rfl)) (mvT hZ (ow hw 69 rfl)) (by decide) (backOf (W := 0) (rmChk l Z a0 hw [] cY vY n3 (-999999999 : Int64) (999999999 : Int64) h0 n0 Z0 F6 F7 F8 F9 F10 (u_nlt64 (by omega)) (u_nlt64 (by omega))) hZ (ow hw 71 rfl) (ow hw 66 rfl) (by decide) (by decide)) q11a q11c (g := (mkF m 5 #[iv y, iv mo, iv dy] [(.long n3), (.ref cY)])) rfl (by rw [hml]; rfl) (Steps.refl _) (argsL := [(.long n3)]) (rest := []) (lenOf pd_197 rfl) rfl (by show 2 * 0 + _ ≤ _; exact Nat.le_of_eq rfl) (hb hby d11_5) (fun _ _ => ⟨rfl, e2, (by decide : 0 + 0 ≤ _), (by decide : 0 + 0 ≤ _)⟩)
  dsimp only [Pt.U, Pt.locs, Pt.cells, Pt.slots] at X11 l11 y11 z11 st11 hQ11
  subst l11 y11 z11
  obtain ⟨rfl, N11q, e11⟩ := hQ11
  have N11 := Fr.app N0 N11q
  refine Go.to st11 ?_
  show Go _ _ _ _ T11 (mkF m 8 #[iv y, iv mo, iv dy] [(.long n3)])
  refine Go.pop2L 9 X11 hx (hb hby d11_8) rfl ?_
  have F12 : Sta Z h0 "java/time/temporal/ChronoField" "MONTH_OF_YEAR" "Ljava/time/temporal/ChronoField;" (.ref cM) := Dc6.ext O0.2
  obtain ⟨T13, X13, e13, st13⟩ := getS2 X11 hx hZ hown (host := "") (Or.inl (ow hw 104 rfl)) Via.refl e11 F12 (g := (mkF m 9 #[iv y, iv mo, iv dy] [])) rfl (hb hby d11_9)
  refine Go.by st13 ?_
  show Go _ _ _ _ T13 (mkF m 12 #[iv y, iv mo, iv dy] [(.ref cM)])
  refine Go.iload1 13 X13 hx (hb hby d11_12) rfl rfl ?_
  refine Go.i2l 14 X13 hx (hb hby d11_13) rfl ?_
  obtain ⟨n14, h_n14⟩ : ∃ z, z = (mo.toInt64) := ⟨_, rfl⟩
  rw [← h_n14]
  show Go _ _ _ _ T13 (mkF m 14 #[iv y, iv mo, iv dy] [(.long n14), (.ref cM)])
  have e_n14 : n14.toInt = mo.toInt := by rw [h_n14]; exact c_i2l _
  have li15 : (1 : Int64).toInt = 1 := by decide
  have li16 : (12 : Int64).toInt = 12 := by decide
  have F17 : Exa Z h0 cM "java/time/temporal/ChronoField" := Dc7.ext O0.2
  have F18 : Fld Z h0 cM "java/time/temporal/ChronoField" "range" "Ljava/time/temporal/ValueRange;" (.ref vM) := Dc8.ext O0.2
  have F19 : Exa Z h0 vM "java/time/temporal/ValueRange" := Dc9.ext O0.2
  have F20 : Fld Z h0 vM "java/time/temporal/ValueRange" "minSmallest" "J" (.long (1 : Int64)) := Dc10.ext O0.2
  have F21 : Fld Z h0 vM "java/time/temporal/ValueRange" "maxLargest" "J" (.long (12 : Int64)) := Dc11.ext O0.2
  obtain ⟨cq22, kq22, q22a, q22b, q22c⟩ := isOf hZ e13 F17
  obtain ⟨_, _, ⟨T22, L22, k22, n22⟩, -, X22, ⟨Lc22, hQ22, l22, y22, z22⟩, st22⟩ := X13.virtualBack hx (y := (⟨"java/time/temporal/ChronoField", "checkValidValue", "(J)J"⟩ : MethodName)) (z := (⟨"java/time/temporal/ChronoField", "checkValidValue", "(J)J"⟩ : MethodName)) hown (mvT hZ (ow hw 67 rfl)) (mvT hZ (ow hw 68 rfl)) (notFace_of_selects (args := #[]) (mvT hZ (ow hw 70 rfl))) (mvT hZ (ow hw 70 rfl)) (mvT hZ (ow hw 69 rfl)) (by decide) (backOf (W := 0) (rmChk l Z a0 hw [] cM vM n14 (1 : Int64) (12 : Int64) h0 n0 Z0 F17 F18 F19 F20 F21 (u_nlt64 (by omega)) (u_nlt64 (by omega))) hZ (ow hw 71 rfl) (ow hw 66 rfl) (by decide) (by decide)) q22a q22c (g := (mkF m 14 #[iv y, iv mo, iv dy] [(.long n14), (.ref cM)])) rfl (by rw [hml]; rfl) (Steps.refl _) (argsL := [(.long n14)]) (rest := []) (lenOf pd_197 rfl) rfl (by show 2 * 0 + _ ≤ _; exact Nat.le_of_eq rfl) (hb hby d11_14) (fun _ _ => ⟨rfl, e13, (by decide : 0 + 0 ≤ _), (by decide : 0 + 0 ≤ _)⟩)
  dsimp only [Pt.U, Pt.locs, Pt.cells, Pt.slots] at X22 l22 y22 z22 st22 hQ22
  subst l22 y22 z22
  obtain ⟨rfl, N22q, e22⟩ := hQ22
  have N22 := Fr.app N11 N22q
  refine Go.to st22 ?_
  show Go _ _ _ _ T22 (mkF m 17 #[iv y, iv mo, iv dy] [(.long n14)])
  refine Go.pop2L 18 X22 hx (hb hby d11_17) rfl ?_
  have F23 : Sta Z h0 "java/time/temporal/ChronoField" "DAY_OF_MONTH" "Ljava/time/temporal/ChronoField;" (.ref cD) := Dc12.ext O0.2
  obtain ⟨T24, X24, e24, st24⟩ := getS2 X22 hx hZ hown (host := "") (Or.inl (ow hw 105 rfl)) Via.refl e22 F23 (g := (mkF m 18 #[iv y, iv mo, iv dy] [])) rfl (hb hby d11_18)
  refine Go.by st24 ?_
  show Go _ _ _ _ T24 (mkF m 21 #[iv y, iv mo, iv dy] [(.ref cD)])
  refine Go.iload1 22 X24 hx (hb hby d11_21) rfl rfl ?_
  refine Go.i2l 23 X24 hx (hb hby d11_22) rfl ?_
  obtain ⟨n25, h_n25⟩ : ∃ z, z = (dy.toInt64) := ⟨_, rfl⟩
  rw [← h_n25]
  show Go _ _ _ _ T24 (mkF m 23 #[iv y, iv mo, iv dy] [(.long n25), (.ref cD)])
  have e_n25 : n25.toInt = dy.toInt := by rw [h_n25]; exact c_i2l _
  have li26 : (31 : Int64).toInt = 31 := by decide
  have F27 : Exa Z h0 cD "java/time/temporal/ChronoField" := Dc13.ext O0.2
  have F28 : Fld Z h0 cD "java/time/temporal/ChronoField" "range" "Ljava/time/temporal/ValueRange;" (.ref vD) := Dc14.ext O0.2
  have F29 : Exa Z h0 vD "java/time/temporal/ValueRange" := Dc15.ext O0.2
  have F30 : Fld Z h0 vD "java/time/temporal/ValueRange" "minSmallest" "J" (.long (1 : Int64)) := Dc16.ext O0.2
  have F31 : Fld Z h0 vD "java/time/temporal/ValueRange" "maxLargest" "J" (.long (31 : Int64)) := Dc17.ext O0.2
  obtain ⟨cq32, kq32, q32a, q32b, q32c⟩ := isOf hZ e24 F27
  obtain ⟨_, _, ⟨T32, L32, k32, n32⟩, -, X32, ⟨Lc32, hQ32, l32, y32, z32⟩, st32⟩ := X24.virtualBack hx (y := (⟨"java/time/temporal/ChronoField", "checkValidValue", "(J)J"⟩ : MethodName)) (z := (⟨"java/time/temporal/ChronoField", "checkValidValue", "(J)J"⟩ : MethodName)) hown (mvT hZ (ow hw 67 rfl)) (mvT hZ (ow hw 68 rfl)) (notFace_of_selects (args := #[]) (mvT hZ (ow hw 70 rfl))) (mvT hZ (ow hw 70 rfl)) (mvT hZ (ow hw 69 rfl)) (by decide) (backOf (W := 0) (rmChk l Z a0 hw [] cD vD n25 (1 : Int64) (31 : Int64) h0 n0 Z0 F27 F28 F29 F30 F31 (u_nlt64 (by omega)) (u_nlt64 (by omega))) hZ (ow hw 71 rfl) (ow hw 66 rfl) (by decide) (by decide)) q32a q32c (g := (mkF m 23 #[iv y, iv mo, iv dy] [(.long n25), (.ref cD)])) rfl (by rw [hml]; rfl) (Steps.refl _) (argsL := [(.long n25)]) (rest := []) (lenOf pd_197 rfl) rfl (by show 2 * 0 + _ ≤ _; exact Nat.le_of_eq rfl) (hb hby d11_23) (fun _ _ => ⟨rfl, e24, (by decide : 0 + 0 ≤ _), (by decide : 0 + 0 ≤ _)⟩)
  dsimp only [Pt.U, Pt.locs, Pt.cells, Pt.slots] at X32 l32 y32 z32 st32 hQ32
  subst l32 y32 z32
  obtain ⟨rfl, N32q, e32⟩ := hQ32
  have N32 := Fr.app N22 N32q
  refine Go.to st32 ?_
  show Go _ _ _ _ T32 (mkF m 26 #[iv y, iv mo, iv dy] [(.long n25)])
  refine Go.pop2L 27 X32 hx (hb hby d11_26) rfl ?_
  refine Go.iload1 28 X32 hx (hb hby d11_27) rfl rfl ?_
  refine Go.iload1 29 X32 hx (hb hby d11_28) rfl rfl ?_
  refine Go.iload1 30 X32 hx (hb hby d11_29) rfl rfl ?_
  obtain ⟨_, _, ⟨T33, L33, k33, n33⟩, -, X33, ⟨Lc33, hQ33, l33, y33, z33⟩, st33⟩ := Jvm.LawKit.callS X32 hx (y := (⟨"java/time/LocalDate", "create", "(III)Ljava/time/LocalDate;"⟩ : MethodName)) hown (mvT hZ (ow hw 106 rfl)) (mvT hZ (ow hw 107 rfl)) (mvT hZ (ow hw 63 rfl)) (mvT hZ (ow hw 108 rfl)) (by decide) (backOf (W := 0) (rmCreate l Z a0 hw [] y mo dy h0 n0 Z0 hw1) hZ (ow hw 108 rfl) (ow hw 63 rfl) (by decide) (by decide)) (g := (mkF m 30 #[iv y, iv mo, iv dy] [(.int dy), (.int mo), (.int y)])) rfl (by rw [hml]; rfl) (argsL := [(.int y), (.int mo), (.int dy)]) (rest := []) (lenOf pd_373 rfl) rfl (by show 2 * 0 + _ ≤ _; exact Nat.le_of_eq rfl) (hb hby d11_30) (fun _ _ => ⟨rfl, e32, (by decide : 0 + 1 ≤ _), (by decide : 0 + 3 ≤ _)⟩)
  dsimp only [Pt.U, Pt.locs, Pt.cells, Pt.slots] at X33 l33 y33 z33 st33 hQ33
  subst l33 y33 z33
  obtain ⟨b, rfl, N33q, K33, Q33_0, Q33_1, Q33_2, Q33_3⟩ := hQ33
  have N33 := Fr.app N32 N33q
  refine Go.by st33 ?_
  show Go _ _ _ _ T33 (mkF m 33 #[iv y, iv mo, iv dy] [(.ref b)])
  have F34 : Keep h0 T33.heap [] := (Keep.refl h0 []).trans K33 all0
  exact Go.retA X33 hx Bd.notSynchronized Bd.returns rfl rfl (hb hby d11_33) ⟨b, rfl, N33, F34, Q33_0, Q33_1, Q33_2, Q33_3⟩ (by decide) (by decide)
theorem pn_376 : plainName "com/example/diligent_tariff/diligenttariff/book/Holiday" = true := by first | (simp [plainName, overriddenIn]; done) | decide +kernel
theorem ef_377 (m : MethodId) (x0 : Int32) : entryFrame m #[(.int x0)] 14 = mkF m 0 #[iv x0, un, un, un, un, un, un, un, un, un, un, un, un, un] [] := by (first | (simp [entryFrame, mkF, argsToLocals, Value.category]; done) | rfl)
theorem d10_0 : decode prog_25_method_7_code 0 = .ok (.iload_n 0, 1) := by decide +kernel
theorem d10_1 : decode prog_25_method_7_code 1 = .ok (.bipush 19, 2) := by decide +kernel
theorem d10_3 : decode prog_25_method_7_code 3 = .ok (.irem, 1) := by decide +kernel
theorem d10_4 : decode prog_25_method_7_code 4 = .ok (.istore_n 1, 1) := by decide +kernel
theorem d10_5 : decode prog_25_method_7_code 5 = .ok (.iload_n 0, 1) := by decide +kernel
theorem d10_6 : decode prog_25_method_7_code 6 = .ok (.bipush 100, 2) := by decide +kernel
theorem d10_8 : decode prog_25_method_7_code 8 = .ok (.idiv, 1) := by decide +kernel
theorem d10_9 : decode prog_25_method_7_code 9 = .ok (.istore_n 2, 1) := by decide +kernel
theorem d10_10 : decode prog_25_method_7_code 10 = .ok (.iload_n 0, 1) := by decide +kernel
theorem d10_11 : decode prog_25_method_7_code 11 = .ok (.bipush 100, 2) := by decide +kernel
theorem d10_13 : decode prog_25_method_7_code 13 = .ok (.irem, 1) := by decide +kernel
theorem d10_14 : decode prog_25_method_7_code 14 = .ok (.istore_n 3, 1) := by decide +kernel
theorem d10_15 : decode prog_25_method_7_code 15 = .ok (.iload_n 2, 1) := by decide +kernel
theorem d10_16 : decode prog_25_method_7_code 16 = .ok (.iconst 4, 1) := by decide +kernel
theorem d10_17 : decode prog_25_method_7_code 17 = .ok (.idiv, 1) := by decide +kernel
theorem d10_18 : decode prog_25_method_7_code 18 = .ok (.istore 4, 2) := by decide +kernel
theorem d10_20 : decode prog_25_method_7_code 20 = .ok (.iload_n 2, 1) := by decide +kernel
theorem d10_21 : decode prog_25_method_7_code 21 = .ok (.iconst 4, 1) := by decide +kernel
theorem d10_22 : decode prog_25_method_7_code 22 = .ok (.irem, 1) := by decide +kernel
theorem d10_23 : decode prog_25_method_7_code 23 = .ok (.istore 5, 2) := by decide +kernel
theorem d10_25 : decode prog_25_method_7_code 25 = .ok (.iload_n 2, 1) := by decide +kernel
theorem d10_26 : decode prog_25_method_7_code 26 = .ok (.bipush 8, 2) := by decide +kernel
theorem d10_28 : decode prog_25_method_7_code 28 = .ok (.iadd, 1) := by decide +kernel
theorem d10_29 : decode prog_25_method_7_code 29 = .ok (.bipush 25, 2) := by decide +kernel
theorem d10_31 : decode prog_25_method_7_code 31 = .ok (.idiv, 1) := by decide +kernel
theorem d10_32 : decode prog_25_method_7_code 32 = .ok (.istore 6, 2) := by decide +kernel
theorem d10_34 : decode prog_25_method_7_code 34 = .ok (.iload_n 2, 1) := by decide +kernel
theorem d10_35 : decode prog_25_method_7_code 35 = .ok (.iload 6, 2) := by decide +kernel
theorem d10_37 : decode prog_25_method_7_code 37 = .ok (.isub, 1) := by decide +kernel
theorem d10_38 : decode prog_25_method_7_code 38 = .ok (.iconst 1, 1) := by decide +kernel
theorem d10_39 : decode prog_25_method_7_code 39 = .ok (.iadd, 1) := by decide +kernel
theorem d10_40 : decode prog_25_method_7_code 40 = .ok (.iconst 3, 1) := by decide +kernel
theorem d10_41 : decode prog_25_method_7_code 41 = .ok (.idiv, 1) := by decide +kernel
theorem d10_42 : decode prog_25_method_7_code 42 = .ok (.istore 7, 2) := by decide +kernel
theorem d10_44 : decode prog_25_method_7_code 44 = .ok (.bipush 19, 2) := by decide +kernel
theorem d10_46 : decode prog_25_method_7_code 46 = .ok (.iload_n 1, 1) := by decide +kernel
theorem d10_47 : decode prog_25_method_7_code 47 = .ok (.imul, 1) := by decide +kernel
theorem d10_48 : decode prog_25_method_7_code 48 = .ok (.iload_n 2, 1) := by decide +kernel
theorem d10_49 : decode prog_25_method_7_code 49 = .ok (.iadd, 1) := by decide +kernel
theorem d10_50 : decode prog_25_method_7_code 50 = .ok (.iload 4, 2) := by decide +kernel
theorem d10_52 : decode prog_25_method_7_code 52 = .ok (.isub, 1) := by decide +kernel
theorem d10_53 : decode prog_25_method_7_code 53 = .ok (.iload 7, 2) := by decide +kernel
theorem d10_55 : decode prog_25_method_7_code 55 = .ok (.isub, 1) := by decide +kernel
theorem d10_56 : decode prog_25_method_7_code 56 = .ok (.bipush 15, 2) := by decide +kernel
theorem d10_58 : decode prog_25_method_7_code 58 = .ok (.iadd, 1) := by decide +kernel
theorem d10_59 : decode prog_25_method_7_code 59 = .ok (.bipush 30, 2) := by decide +kernel
theorem d10_61 : decode prog_25_method_7_code 61 = .ok (.irem, 1) := by decide +kernel
theorem d10_62 : decode prog_25_method_7_code 62 = .ok (.istore 8, 2) := by decide +kernel
theorem d10_64 : decode prog_25_method_7_code 64 = .ok (.iload_n 3, 1) := by decide +kernel
theorem d10_65 : decode prog_25_method_7_code 65 = .ok (.iconst 4, 1) := by decide +kernel
theorem d10_66 : decode prog_25_method_7_code 66 = .ok (.idiv, 1) := by decide +kernel
theorem d10_67 : decode prog_25_method_7_code 67 = .ok (.istore 9, 2) := by decide +kernel
theorem d10_69 : decode prog_25_method_7_code 69 = .ok (.iload_n 3, 1) := by decide +kernel
theorem d10_70 : decode prog_25_method_7_code 70 = .ok (.iconst 4, 1) := by decide +kernel
theorem d10_71 : decode prog_25_method_7_code 71 = .ok (.irem, 1) := by decide +kernel
theorem d10_72 : decode prog_25_method_7_code 72 = .ok (.istore 10, 2) := by decide +kernel
theorem d10_74 : decode prog_25_method_7_code 74 = .ok (.bipush 32, 2) := by decide +kernel
theorem d10_76 : decode prog_25_method_7_code 76 = .ok (.iconst 2, 1) := by decide +kernel
theorem d10_77 : decode prog_25_method_7_code 77 = .ok (.iload 5, 2) := by decide +kernel
theorem d10_79 : decode prog_25_method_7_code 79 = .ok (.imul, 1) := by decide +kernel
theorem d10_80 : decode prog_25_method_7_code 80 = .ok (.iadd, 1) := by decide +kernel
theorem d10_81 : decode prog_25_method_7_code 81 = .ok (.iconst 2, 1) := by decide +kernel
theorem d10_82 : decode prog_25_method_7_code 82 = .ok (.iload 9, 2) := by decide +kernel
theorem d10_84 : decode prog_25_method_7_code 84 = .ok (.imul, 1) := by decide +kernel
theorem d10_85 : decode prog_25_method_7_code 85 = .ok (.iadd, 1) := by decide +kernel
theorem d10_86 : decode prog_25_method_7_code 86 = .ok (.iload 8, 2) := by decide +kernel
theorem d10_88 : decode prog_25_method_7_code 88 = .ok (.isub, 1) := by decide +kernel
theorem d10_89 : decode prog_25_method_7_code 89 = .ok (.iload 10, 2) := by decide +kernel
theorem d10_91 : decode prog_25_method_7_code 91 = .ok (.isub, 1) := by decide +kernel
theorem d10_92 : decode prog_25_method_7_code 92 = .ok (.bipush 7, 2) := by decide +kernel
theorem d10_94 : decode prog_25_method_7_code 94 = .ok (.irem, 1) := by decide +kernel
theorem d10_95 : decode prog_25_method_7_code 95 = .ok (.istore 11, 2) := by decide +kernel
theorem d10_97 : decode prog_25_method_7_code 97 = .ok (.iload_n 1, 1) := by decide +kernel
theorem d10_98 : decode prog_25_method_7_code 98 = .ok (.bipush 11, 2) := by decide +kernel
theorem d10_100 : decode prog_25_method_7_code 100 = .ok (.iload 8, 2) := by decide +kernel
theorem d10_102 : decode prog_25_method_7_code 102 = .ok (.imul, 1) := by decide +kernel
theorem d10_103 : decode prog_25_method_7_code 103 = .ok (.iadd, 1) := by decide +kernel
theorem d10_104 : decode prog_25_method_7_code 104 = .ok (.bipush 22, 2) := by decide +kernel
theorem d10_106 : decode prog_25_method_7_code 106 = .ok (.iload 11, 2) := by decide +kernel
theorem d10_108 : decode prog_25_method_7_code 108 = .ok (.imul, 1) := by decide +kernel
theorem d10_109 : decode prog_25_method_7_code 109 = .ok (.iadd, 1) := by decide +kernel
theorem d10_110 : decode prog_25_method_7_code 110 = .ok (.sipush 451, 3) := by decide +kernel
theorem d10_113 : decode prog_25_method_7_code 113 = .ok (.idiv, 1) := by decide +kernel
theorem d10_114 : decode prog_25_method_7_code 114 = .ok (.istore 12, 2) := by decide +kernel
theorem d10_116 : decode prog_25_method_7_code 116 = .ok (.iload 8, 2) := by decide +kernel
theorem d10_118 : decode prog_25_method_7_code 118 = .ok (.iload 11, 2) := by decide +kernel
theorem d10_120 : decode prog_25_method_7_code 120 = .ok (.iadd, 1) := by decide +kernel
theorem d10_121 : decode prog_25_method_7_code 121 = .ok (.bipush 7, 2) := by decide +kernel
theorem d10_123 : decode prog_25_method_7_code 123 = .ok (.iload 12, 2) := by decide +kernel
theorem d10_125 : decode prog_25_method_7_code 125 = .ok (.imul, 1) := by decide +kernel
theorem d10_126 : decode prog_25_method_7_code 126 = .ok (.isub, 1) := by decide +kernel
theorem d10_127 : decode prog_25_method_7_code 127 = .ok (.bipush 114, 2) := by decide +kernel
theorem d10_129 : decode prog_25_method_7_code 129 = .ok (.iadd, 1) := by decide +kernel
theorem d10_130 : decode prog_25_method_7_code 130 = .ok (.istore 13, 2) := by decide +kernel
theorem d10_132 : decode prog_25_method_7_code 132 = .ok (.iload_n 0, 1) := by decide +kernel
theorem d10_133 : decode prog_25_method_7_code 133 = .ok (.iload 13, 2) := by decide +kernel
theorem d10_135 : decode prog_25_method_7_code 135 = .ok (.bipush 31, 2) := by decide +kernel
theorem d10_137 : decode prog_25_method_7_code 137 = .ok (.idiv, 1) := by decide +kernel
theorem d10_138 : decode prog_25_method_7_code 138 = .ok (.iload 13, 2) := by decide +kernel
theorem d10_140 : decode prog_25_method_7_code 140 = .ok (.bipush 31, 2) := by decide +kernel
theorem d10_142 : decode prog_25_method_7_code 142 = .ok (.irem, 1) := by decide +kernel
theorem d10_143 : decode prog_25_method_7_code 143 = .ok (.iconst 1, 1) := by decide +kernel
theorem d10_144 : decode prog_25_method_7_code 144 = .ok (.iadd, 1) := by decide +kernel
theorem d10_145 : decode prog_25_method_7_code 145 = .ok (.invokestatic 58, 3) := by decide +kernel
theorem d10_148 : decode prog_25_method_7_code 148 = .ok (.areturn, 1) := by decide +kernel
def Q_rmEaster (Z : State) (y : Int32) (cY : Addr) (vY : Addr) (cM : Addr) (vM : Addr) (cD : Addr) (vD : Addr) (cE : Addr) (vE : Addr) (ic : Addr) (h0 : Heap) (n0 : Nat) (v : Option Value) (h : Heap) (L : List Loc) : Prop := ∃ b : Addr, ∃ mo : Int32, ∃ dy : Int32, ∃ n : Int, v = some (.ref b) ∧ Fr n0 L ∧ Keep h0 h [] ∧ Exa Z h b "java/time/LocalDate" ∧ Fld Z h b "java/time/LocalDate" "year" "I" (.int y) ∧ Fld Z h b "java/time/LocalDate" "month" "S" (.int mo) ∧ Fld Z h b "java/time/LocalDate" "day" "S" (.int dy) ∧ (own_E y.toInt n) ∧ (mo.toInt = n / 31) ∧ (dy.toInt = n % 31 + 1)
set_option maxRecDepth 65536 in
set_option maxHeartbeats 40000000 in
theorem rmEaster (l : Launch) (Z : State) (a0 : Array Value) (hw : ∀ d ∈ tables_1, d.before a0 Z = true) (ws : List Jvm.Cond) (y : Int32) (cY : Addr) (vY : Addr) (cM : Addr) (vM : Addr) (cD : Addr) (vD : Addr) (cE : Addr) (vE : Addr) (ic : Addr) (h0 : Heap) (n0 : Nat) (Z0 : n0 ≤ h0.size) (O0 : Old Z n0 h0) (hy : (0 ≤ y.toInt ∧ y.toInt ≤ 70000000)) (Dc0 : Sta Z Z.heap "java/time/temporal/ChronoField" "YEAR" "Ljava/time/temporal/ChronoField;" (.ref cY)) (Dc1 : Exa Z Z.heap cY "java/time/temporal/ChronoField") (Dc2 : Fld Z Z.heap cY "java/time/temporal/ChronoField" "range" "Ljava/time/temporal/ValueRange;" (.ref vY)) (Dc3 : Exa Z Z.heap vY "java/time/temporal/ValueRange") (Dc4 : Fld Z Z.heap vY "java/time/temporal/ValueRange" "minSmallest" "J" (.long (-999999999 : Int64))) (Dc5 : Fld Z Z.heap vY "java/time/temporal/ValueRange" "maxLargest" "J" (.long (999999999 : Int64))) (Dc6 : Sta Z Z.heap "java/time/temporal/ChronoField" "MONTH_OF_YEAR" "Ljava/time/temporal/ChronoField;" (.ref cM)) (Dc7 : Exa Z Z.heap cM "java/time/temporal/ChronoField") (Dc8 : Fld Z Z.heap cM "java/time/temporal/ChronoField" "range" "Ljava/time/temporal/ValueRange;" (.ref vM)) (Dc9 : Exa Z Z.heap vM "java/time/temporal/ValueRange") (Dc10 : Fld Z Z.heap vM "java/time/temporal/ValueRange" "minSmallest" "J" (.long (1 : Int64))) (Dc11 : Fld Z Z.heap vM "java/time/temporal/ValueRange" "maxLargest" "J" (.long (12 : Int64))) (Dc12 : Sta Z Z.heap "java/time/temporal/ChronoField" "DAY_OF_MONTH" "Ljava/time/temporal/ChronoField;" (.ref cD)) (Dc13 : Exa Z Z.heap cD "java/time/temporal/ChronoField") (Dc14 : Fld Z Z.heap cD "java/time/temporal/ChronoField" "range" "Ljava/time/temporal/ValueRange;" (.ref vD)) (Dc15 : Exa Z Z.heap vD "java/time/temporal/ValueRange") (Dc16 : Fld Z Z.heap vD "java/time/temporal/ValueRange" "minSmallest" "J" (.long (1 : Int64))) (Dc17 : Fld Z Z.heap vD "java/time/temporal/ValueRange" "maxLargest" "J" (.long (31 : Int64))) (Dc18 : Sta Z Z.heap "java/time/temporal/ChronoField" "EPOCH_DAY" "Ljava/time/temporal/ChronoField;" (.ref cE)) (Dc19 : Exa Z Z.heap cE "java/time/temporal/ChronoField") (Dc20 : Fld Z Z.heap cE "java/time/temporal/ChronoField" "range" "Ljava/time/temporal/ValueRange;" (.ref vE)) (Dc21 : Exa Z Z.heap vE "java/time/temporal/ValueRange") (Dc22 : Fld Z Z.heap vE "java/time/temporal/ValueRange" "minSmallest" "J" (.long (-365243219162 : Int64))) (Dc23 : Fld Z Z.heap vE "java/time/temporal/ValueRange" "maxLargest" "J" (.long (365241780471 : Int64))) (Dc24 : Sta Z Z.heap "java/time/chrono/IsoChronology" "INSTANCE" "Ljava/time/chrono/IsoChronology;" (.ref ic)) (Dc25 : Exa Z Z.heap ic "java/time/chrono/IsoChronology") :
    MetFree l (⟨"com/example/diligent_tariff/diligenttariff/book/Holiday", "easter", "(I)Ljava/time/LocalDate;"⟩ : MethodName) (head1 (Jvm.Cond.code (⟨"com/example/diligent_tariff/diligenttariff/book/Holiday", "easter", "(I)Ljava/time/LocalDate;"⟩ : MethodName) prog_25_method_7_code 14 (some (.object "java/time/LocalDate")) :: ws) ({ frames := 5, cells := 1, slots := 3, locals := 71 } : Room)) (fun as' U => as' = #[(.int y)] ∧ Z.Warmed39 U.vm ∧ U.heap = h0) (fun _ _ _ _ _ => True) (fun _ U o U' => ∃ v L, o = .returned v ∧ Q_rmEaster Z y cY vY cM vM cD vD cE vE ic h0 n0 v U'.heap L ∧ FrameEnd U o U' L ({ frames := 5, cells := 1, slots := 3, locals := 71 } : Room).cells ({ frames := 5, cells := 1, slots := 3, locals := 71 } : Room).slots) := by
  refine MetFree.of_bodySF (plainFor_of_name pn_376) hisR ?_
  intro p e s m args below meth c s₁ Bd hml0 hP hK
  obtain ⟨rfl, hZ, hh⟩ := hP
  have hx := Bd.exec
  have hby := Bd.bytes
  have hml : c.maxLocals = 14 := hml0
  have hown : s.vm.findClass "com/example/diligent_tariff/diligenttariff/book/Holiday" = some m.cls := findClass_of_methodNamed Bd.named
  have hnm := (name_of_methodNamed Bd.named Bd.method).1
  have X0 : Stand p l e ({ frames := 5, cells := 1, slots := 3, locals := 71 } : Room) s m #[(.int y)] below meth c s₁ [] 0 0 := Stand.of_body Bd
  have e0 : s₁.heap = h0 := by rw [← hh, Bd.state]; rfl
  have N0 := Fr.nil n0
  refine Go.enter (F := EndN s (Q_rmEaster Z y cY vY cM vM cD vD cE vE ic h0 n0) ({ frames := 5, cells := 1, slots := 3, locals := 71 } : Room).cells ({ frames := 5, cells := 1, slots := 3, locals := 71 } : Room).slots) (ef_377 m y) ?_
  show Go _ _ _ _ s₁ (mkF m 0 #[iv y, un, un, un, un, un, un, un, un, un, un, un, un, un] [])
  refine Go.iload1 1 X0 hx (hb hby d10_0) rfl rfl ?_
  refine Go.bipush 3 X0 hx (19 : Int32) (hb hby d10_1) (by decide) rfl ?_
  refine Go.irem 4 X0 hx (hb hby d10_3) (by decide) rfl ?_
  have li1 : (19 : Int32).toInt = 19 := by decide
  obtain ⟨n2, h_n2⟩ : ∃ z, z = (y - y / (19 : Int32) * (19 : Int32)) := ⟨_, rfl⟩
  rw [← h_n2]
  show Go _ _ _ _ s₁ (mkF m 4 #[iv y, un, un, un, un, un, un, un, un, un, un, un, un, un] [(.int n2)])
  have e_n2 : n2.toInt = y.toInt % 19 := by rw [h_n2]; exact (x_irem 19 (by decide)).1 (by omega)
  refine Go.istore1 5 X0 hx (L' := #[iv y, iv n2, un, un, un, un, un, un, un, un, un, un, un, un]) (hb hby d10_4) rfl rfl ?_
  refine Go.iload1 6 X0 hx (hb hby d10_5) rfl rfl ?_
  refine Go.bipush 8 X0 hx (100 : Int32) (hb hby d10_6) (by decide) rfl ?_
  refine Go.idiv 9 X0 hx (hb hby d10_8) (by decide) rfl ?_
  have li3 : (100 : Int32).toInt = 100 := by decide
  obtain ⟨n4, h_n4⟩ : ∃ z, z = (y / (100 : Int32)) := ⟨_, rfl⟩
  rw [← h_n4]
  show Go _ _ _ _ s₁ (mkF m 9 #[iv y, iv n2, un, un, un, un, un, un, un, un, un, un, un, un] [(.int n4)])
  have e_n4 : n4.toInt = y.toInt / 100 := by rw [h_n4]; exact (x_idiv 100 (by decide) (by decide)).1 (by omega)
  refine Go.istore1 10 X0 hx (L' := #[iv y, iv n2, iv n4, un, un, un, un, un, un, un, un, un, un, un]) (hb hby d10_9) rfl rfl ?_
  refine Go.iload1 11 X0 hx (hb hby d10_10) rfl rfl ?_
  refine Go.bipush 13 X0 hx (100 : Int32) (hb hby d10_11) (by decide) rfl ?_
  refine Go.irem 14 X0 hx (hb hby d10_13) (by decide) rfl ?_
  obtain ⟨n5, h_n5⟩ : ∃ z, z = (y - y / (100 : Int32) * (100 : Int32)) := ⟨_, rfl⟩
  rw [← h_n5]
  show Go _ _ _ _ s₁ (mkF m 14 #[iv y, iv n2, iv n4, un, un, un, un, un, un, un, un, un, un, un] [(.int n5)])
  have e_n5 : n5.toInt = y.toInt % 100 := by rw [h_n5]; exact (x_irem 100 (by decide)).1 (by omega)
  refine Go.istore1 15 X0 hx (L' := #[iv y, iv n2, iv n4, iv n5, un, un, un, un, un, un, un, un, un, un]) (hb hby d10_14) rfl rfl ?_
  refine Go.iload1 16 X0 hx (hb hby d10_15) rfl rfl ?_
  refine Go.iconst 17 X0 hx (4 : Int32) (hb hby d10_16) (by decide) rfl ?_
  refine Go.idiv 18 X0 hx (hb hby d10_17) (by decide) rfl ?_
  have li6 : (4 : Int32).toInt = 4 := by decide
  obtain ⟨n7, h_n7⟩ : ∃ z, z = (n4 / (4 : Int32)) := ⟨_, rfl⟩
  rw [← h_n7]
  show Go _ _ _ _ s₁ (mkF m 18 #[iv y, iv n2, iv n4, iv n5, un, un, un, un, un, un, un, un, un, un] [(.int n7)])
  have e_n7 : n7.toInt = n4.toInt / 4 := by rw [h_n7]; exact (x_idiv 4 (by decide) (by decide)).1 (by omega)
  refine Go.istore2 20 X0 hx (L' := #[iv y, iv n2, iv n4, iv n5, iv n7, un, un, un, un, un, un, un, un, un]) (hb hby d10_18) rfl rfl ?_
  refine Go.iload1 21 X0 hx (hb hby d10_20) rfl rfl ?_
  refine Go.iconst 22 X0 hx (4 : Int32) (hb hby d10_21) (by decide) rfl ?_
  refine Go.irem 23 X0 hx (hb hby d10_22) (by decide) rfl ?_
  obtain ⟨n8, h_n8⟩ : ∃ z, z = (n4 - n4 / (4 : Int32) * (4 : Int32)) := ⟨_, rfl⟩
  rw [← h_n8]
  show Go _ _ _ _ s₁ (mkF m 23 #[iv y, iv n2, iv n4, iv n5, iv n7, un, un, un, un, un, un, un, un, un] [(.int n8)])
  have e_n8 : n8.toInt = n4.toInt % 4 := by rw [h_n8]; exact (x_irem 4 (by decide)).1 (by omega)
  refine Go.istore2 25 X0 hx (L' := #[iv y, iv n2, iv n4, iv n5, iv n7, iv n8, un, un, un, un, un, un, un, un]) (hb hby d10_23) rfl rfl ?_
  refine Go.iload1 26 X0 hx (hb hby d10_25) rfl rfl ?_
  refine Go.bipush 28 X0 hx (8 : Int32) (hb hby d10_26) (by decide) rfl ?_
  refine Go.iadd 29 X0 hx (hb hby d10_28) rfl ?_
  have li9 : (8 : Int32).toInt = 8 := by decide
  obtain ⟨n10, h_n10⟩ : ∃ z, z = (n4 + (8 : Int32)) := ⟨_, rfl⟩
  rw [← h_n10]
  show Go _ _ _ _ s₁ (mkF m 29 #[iv y, iv n2, iv n4, iv n5, iv n7, iv n8, un, un, un, un, un, un, un, un] [(.int n10)])
  have e_n10 : n10.toInt = n4.toInt + (8 : Int32).toInt := by rw [h_n10]; exact x_iadd (by omega) (by omega)
  refine Go.bipush 31 X0 hx (25 : Int32) (hb hby d10_29) (by decide) rfl ?_
  refine Go.idiv 32 X0 hx (hb hby d10_31) (by decide) rfl ?_
  have li11 : (25 : Int32).toInt = 25 := by decide
  obtain ⟨n12, h_n12⟩ : ∃ z, z = (n10 / (25 : Int32)) := ⟨_, rfl⟩
  rw [← h_n12]
  show Go _ _ _ _ s₁ (mkF m 32 #[iv y, iv n2, iv n4, iv n5, iv n7, iv n8, un, un, un, un, un, un, un, un] [(.int n12)])
  have e_n12 : n12.toInt = n10.toInt / 25 := by rw [h_n12]; exact (x_idiv 25 (by decide) (by decide)).1 (by omega)
  refine Go.istore2 34 X0 hx (L' := #[iv y, iv n2, iv n4, iv n5, iv n7, iv n8, iv n12, un, un, un, un, un, un, un]) (hb hby d10_32) rfl rfl ?_
  refine Go.iload1 35 X0 hx (hb hby d10_34) rfl rfl ?_
  refine Go.iload2 37 X0 hx (hb hby d10_35) rfl rfl ?_
  refine Go.isub 38 X0 hx (hb hby d10_37) rfl ?_
  obtain ⟨n13, h_n13⟩ : ∃ z, z = (n4 - n12) := ⟨_, rfl⟩
  rw [← h_n13]
  show Go _ _ _ _ s₁ (mkF m 38 #[iv y, iv n2, iv n4, iv n5, iv n7, iv n8, iv n12, un, un, un, un, un, un, un] [(.int n13)])
  have e_n13 : n13.toInt = n4.toInt - n12.toInt := by rw [h_n13]; exact x_isub (by omega) (by omega)
  refine Go.iconst 39 X0 hx (1 : Int32) (hb hby d10_38) (by decide) rfl ?_
  refine Go.iadd 40 X0 hx (hb hby d10_39) rfl ?_
  have li14 : (1 : Int32).toInt = 1 := by decide
  obtain ⟨n15, h_n15⟩ : ∃ z, z = (n13 + (1 : Int32)) := ⟨_, rfl⟩
  rw [← h_n15]
  show Go _ _ _ _ s₁ (mkF m 40 #[iv y, iv n2, iv n4, iv n5, iv n7, iv n8, iv n12, un, un, un, un, un, un, un] [(.int n15)])
  have e_n15 : n15.toInt = n13.toInt + (1 : Int32).toInt := by rw [h_n15]; exact x_iadd (by omega) (by omega)
  refine Go.iconst 41 X0 hx (3 : Int32) (hb hby d10_40) (by decide) rfl ?_
  refine Go.idiv 42 X0 hx (hb hby d10_41) (by decide) rfl ?_
  have li16 : (3 : Int32).toInt = 3 := by decide
  obtain ⟨n17, h_n17⟩ : ∃ z, z = (n15 / (3 : Int32)) := ⟨_, rfl⟩
  rw [← h_n17]
  show Go _ _ _ _ s₁ (mkF m 42 #[iv y, iv n2, iv n4, iv n5, iv n7, iv n8, iv n12, un, un, un, un, un, un, un] [(.int n17)])
  have e_n17 : n17.toInt = n15.toInt / 3 := by rw [h_n17]; exact (x_idiv 3 (by decide) (by decide)).1 (by omega)
  refine Go.istore2 44 X0 hx (L' := #[iv y, iv n2, iv n4, iv n5, iv n7, iv n8, iv n12, iv n17, un, un, un, un, un, un]) (hb hby d10_42) rfl rfl ?_
  refine Go.bipush 46 X0 hx (19 : Int32) (hb hby d10_44) (by decide) rfl ?_
  refine Go.iload1 47 X0 hx (hb hby d10_46) rfl rfl ?_
  refine Go.imul 48 X0 hx (hb hby d10_47) rfl ?_
  obtain ⟨n18, h_n18⟩ : ∃ z, z = ((19 : Int32) * n2) := ⟨_, rfl⟩
  rw [← h_n18]
  show Go _ _ _ _ s₁ (mkF m 48 #[iv y, iv n2, iv n4, iv n5, iv n7, iv n8, iv n12, iv n17, un, un, un, un, un, un] [(.int n18)])
  have e_n18 : n18.toInt = 19 * n2.toInt := by rw [h_n18]; exact x_imulL 19 (by decide) (by omega) (by omega)
  refine Go.iload1 49 X0 hx (hb hby d10_48) rfl rfl ?_
  refine Go.iadd 50 X0 hx (hb hby d10_49) rfl ?_
  obtain ⟨n19, h_n19⟩ : ∃ z, z = (n18 + n4) := ⟨_, rfl⟩
  rw [← h_n19]
  show Go _ _ _ _ s₁ (mkF m 50 #[iv y, iv n2, iv n4, iv n5, iv n7, iv n8, iv n12, iv n17, un, un, un, un, un, un] [(.int n19)])
  have e_n19 : n19.toInt = n18.toInt + n4.toInt := by rw [h_n19]; exact x_iadd (by omega) (by omega)
  refine Go.iload2 52 X0 hx (hb hby d10_50) rfl rfl ?_
  refine Go.isub 53 X0 hx (hb hby d10_52) rfl ?_
  obtain ⟨n20, h_n20⟩ : ∃ z, z = (n19 - n7) := ⟨_, rfl⟩
  rw [← h_n20]
  show Go _ _ _ _ s₁ (mkF m 53 #[iv y, iv n2, iv n4, iv n5, iv n7, iv n8, iv n12, iv n17, un, un, un, un, un, un] [(.int n20)])
  have e_n20 : n20.toInt = n19.toInt - n7.toInt := by rw [h_n20]; exact x_isub (by omega) (by omega)
  refine Go.iload2 55 X0 hx (hb hby d10_53) rfl rfl ?_
  refine Go.isub 56 X0 hx (hb hby d10_55) rfl ?_
  obtain ⟨n21, h_n21⟩ : ∃ z, z = (n20 - n17) := ⟨_, rfl⟩
  rw [← h_n21]
  show Go _ _ _ _ s₁ (mkF m 56 #[iv y, iv n2, iv n4, iv n5, iv n7, iv n8, iv n12, iv n17, un, un, un, un, un, un] [(.int n21)])
  have e_n21 : n21.toInt = n20.toInt - n17.toInt := by rw [h_n21]; exact x_isub (by omega) (by omega)
  refine Go.bipush 58 X0 hx (15 : Int32) (hb hby d10_56) (by decide) rfl ?_
  refine Go.iadd 59 X0 hx (hb hby d10_58) rfl ?_
  have li22 : (15 : Int32).toInt = 15 := by decide
  obtain ⟨n23, h_n23⟩ : ∃ z, z = (n21 + (15 : Int32)) := ⟨_, rfl⟩
  rw [← h_n23]
  show Go _ _ _ _ s₁ (mkF m 59 #[iv y, iv n2, iv n4, iv n5, iv n7, iv n8, iv n12, iv n17, un, un, un, un, un, un] [(.int n23)])
  have e_n23 : n23.toInt = n21.toInt + (15 : Int32).toInt := by rw [h_n23]; exact x_iadd (by omega) (by omega)
  refine Go.bipush 61 X0 hx (30 : Int32) (hb hby d10_59) (by decide) rfl ?_
  refine Go.irem 62 X0 hx (hb hby d10_61) (by decide) rfl ?_
  have li24 : (30 : Int32).toInt = 30 := by decide
  obtain ⟨n25, h_n25⟩ : ∃ z, z = (n23 - n23 / (30 : Int32) * (30 : Int32)) := ⟨_, rfl⟩
  rw [← h_n25]
  show Go _ _ _ _ s₁ (mkF m 62 #[iv y, iv n2, iv n4, iv n5, iv n7, iv n8, iv n12, iv n17, un, un, un, un, un, un] [(.int n25)])
  have e_n25 : n25.toInt = n23.toInt % 30 := by rw [h_n25]; exact (x_irem 30 (by decide)).1 (by omega)
  refine Go.istore2 64 X0 hx (L' := #[iv y, iv n2, iv n4, iv n5, iv n7, iv n8, iv n12, iv n17, iv n25, un, un, un, un, un]) (hb hby d10_62) rfl rfl ?_
  refine Go.iload1 65 X0 hx (hb hby d10_64) rfl rfl ?_
  refine Go.iconst 66 X0 hx (4 : Int32) (hb hby d10_65) (by decide) rfl ?_
  refine Go.idiv 67 X0 hx (hb hby d10_66) (by decide) rfl ?_
  obtain ⟨n26, h_n26⟩ : ∃ z, z = (n5 / (4 : Int32)) := ⟨_, rfl⟩
  rw [← h_n26]
  show Go _ _ _ _ s₁ (mkF m 67 #[iv y, iv n2, iv n4, iv n5, iv n7, iv n8, iv n12, iv n17, iv n25, un, un, un, un, un] [(.int n26)])
  have e_n26 : n26.toInt = n5.toInt / 4 := by rw [h_n26]; exact (x_idiv 4 (by decide) (by decide)).1 (by omega)
  refine Go.istore2 69 X0 hx (L' := #[iv y, iv n2, iv n4, iv n5, iv n7, iv n8, iv n12, iv n17, iv n25, iv n26, un, un, un, un]) (hb hby d10_67) rfl rfl ?_
  refine Go.iload1 70 X0 hx (hb hby d10_69) rfl rfl ?_
  refine Go.iconst 71 X0 hx (4 : Int32) (hb hby d10_70) (by decide) rfl ?_
  refine Go.irem 72 X0 hx (hb hby d10_71) (by decide) rfl ?_
  obtain ⟨n27, h_n27⟩ : ∃ z, z = (n5 - n5 / (4 : Int32) * (4 : Int32)) := ⟨_, rfl⟩
  rw [← h_n27]
  show Go _ _ _ _ s₁ (mkF m 72 #[iv y, iv n2, iv n4, iv n5, iv n7, iv n8, iv n12, iv n17, iv n25, iv n26, un, un, un, un] [(.int n27)])
  have e_n27 : n27.toInt = n5.toInt % 4 := by rw [h_n27]; exact (x_irem 4 (by decide)).1 (by omega)
  refine Go.istore2 74 X0 hx (L' := #[iv y, iv n2, iv n4, iv n5, iv n7, iv n8, iv n12, iv n17, iv n25, iv n26, iv n27, un, un, un]) (hb hby d10_72) rfl rfl ?_
  refine Go.bipush 76 X0 hx (32 : Int32) (hb hby d10_74) (by decide) rfl ?_
  refine Go.iconst 77 X0 hx (2 : Int32) (hb hby d10_76) (by decide) rfl ?_
  refine Go.iload2 79 X0 hx (hb hby d10_77) rfl rfl ?_
  refine Go.imul 80 X0 hx (hb hby d10_79) rfl ?_
  have li28 : (2 : Int32).toInt = 2 := by decide
  obtain ⟨n29, h_n29⟩ : ∃ z, z = ((2 : Int32) * n8) := ⟨_, rfl⟩
  rw [← h_n29]
  show Go _ _ _ _ s₁ (mkF m 80 #[iv y, iv n2, iv n4, iv n5, iv n7, iv n8, iv n12, iv n17, iv n25, iv n26, iv n27, un, un, un] [(.int n29), (.int 32)])
  have e_n29 : n29.toInt = 2 * n8.toInt := by rw [h_n29]; exact x_imulL 2 (by decide) (by omega) (by omega)
  refine Go.iadd 81 X0 hx (hb hby d10_80) rfl ?_
  have li30 : (32 : Int32).toInt = 32 := by decide
  obtain ⟨n31, h_n31⟩ : ∃ z, z = ((32 : Int32) + n29) := ⟨_, rfl⟩
  rw [← h_n31]
  show Go _ _ _ _ s₁ (mkF m 81 #[iv y, iv n2, iv n4, iv n5, iv n7, iv n8, iv n12, iv n17, iv n25, iv n26, iv n27, un, un, un] [(.int n31)])
  have e_n31 : n31.toInt = (32 : Int32).toInt + n29.toInt := by rw [h_n31]; exact x_iadd (by omega) (by omega)
  refine Go.iconst 82 X0 hx (2 : Int32) (hb hby d10_81) (by decide) rfl ?_
  refine Go.iload2 84 X0 hx (hb hby d10_82) rfl rfl ?_
  refine Go.imul 85 X0 hx (hb hby d10_84) rfl ?_
  obtain ⟨n32, h_n32⟩ : ∃ z, z = ((2 : Int32) * n26) := ⟨_, rfl⟩
  rw [← h_n32]
  show Go _ _ _ _ s₁ (mkF m 85 #[iv y, iv n2, iv n4, iv n5, iv n7, iv n8, iv n12, iv n17, iv n25, iv n26, iv n27, un, un, un] [(.int n32), (.int n31)])
  have e_n32 : n32.toInt = 2 * n26.toInt := by rw [h_n32]; exact x_imulL 2 (by decide) (by omega) (by omega)
  refine Go.iadd 86 X0 hx (hb hby d10_85) rfl ?_
  obtain ⟨n33, h_n33⟩ : ∃ z, z = (n31 + n32) := ⟨_, rfl⟩
  rw [← h_n33]
  show Go _ _ _ _ s₁ (mkF m 86 #[iv y, iv n2, iv n4, iv n5, iv n7, iv n8, iv n12, iv n17, iv n25, iv n26, iv n27, un, un, un] [(.int n33)])
  have e_n33 : n33.toInt = n31.toInt + n32.toInt := by rw [h_n33]; exact x_iadd (by omega) (by omega)
  refine Go.iload2 88 X0 hx (hb hby d10_86) rfl rfl ?_
  refine Go.isub 89 X0 hx (hb hby d10_88) rfl ?_
  obtain ⟨n34, h_n34⟩ : ∃ z, z = (n33 - n25) := ⟨_, rfl⟩
  rw [← h_n34]
  show Go _ _ _ _ s₁ (mkF m 89 #[iv y, iv n2, iv n4, iv n5, iv n7, iv n8, iv n12, iv n17, iv n25, iv n26, iv n27, un, un, un] [(.int n34)])
  have e_n34 : n34.toInt = n33.toInt - n25.toInt := by rw [h_n34]; exact x_isub (by omega) (by omega)
  refine Go.iload2 91 X0 hx (hb hby d10_89) rfl rfl ?_
  refine Go.isub 92 X0 hx (hb hby d10_91) rfl ?_
  obtain ⟨n35, h_n35⟩ : ∃ z, z = (n34 - n27) := ⟨_, rfl⟩
  rw [← h_n35]
  show Go _ _ _ _ s₁ (mkF m 92 #[iv y, iv n2, iv n4, iv n5, iv n7, iv n8, iv n12, iv n17, iv n25, iv n26, iv n27, un, un, un] [(.int n35)])
  have e_n35 : n35.toInt = n34.toInt - n27.toInt := by rw [h_n35]; exact x_isub (by omega) (by omega)
  refine Go.bipush 94 X0 hx (7 : Int32) (hb hby d10_92) (by decide) rfl ?_
  refine Go.irem 95 X0 hx (hb hby d10_94) (by decide) rfl ?_
  have li36 : (7 : Int32).toInt = 7 := by decide
  obtain ⟨n37, h_n37⟩ : ∃ z, z = (n35 - n35 / (7 : Int32) * (7 : Int32)) := ⟨_, rfl⟩
  rw [← h_n37]
  show Go _ _ _ _ s₁ (mkF m 95 #[iv y, iv n2, iv n4, iv n5, iv n7, iv n8, iv n12, iv n17, iv n25, iv n26, iv n27, un, un, un] [(.int n37)])
  have e_n37 : n37.toInt = n35.toInt % 7 := by rw [h_n37]; exact (x_irem 7 (by decide)).1 (by omega)
  refine Go.istore2 97 X0 hx (L' := #[iv y, iv n2, iv n4, iv n5, iv n7, iv n8, iv n12, iv n17, iv n25, iv n26, iv n27, iv n37, un, un]) (hb hby d10_95) rfl rfl ?_
  refine Go.iload1 98 X0 hx (hb hby d10_97) rfl rfl ?_
  refine Go.bipush 100 X0 hx (11 : Int32) (hb hby d10_98) (by decide) rfl ?_
  refine Go.iload2 102 X0 hx (hb hby d10_100) rfl rfl ?_
  refine Go.imul 103 X0 hx (hb hby d10_102) rfl ?_
  have li38 : (11 : Int32).toInt = 11 := by decide
  obtain ⟨n39, h_n39⟩ : ∃ z, z = ((11 : Int32) * n25) := ⟨_, rfl⟩
  rw [← h_n39]
  show Go _ _ _ _ s₁ (mkF m 103 #[iv y, iv n2, iv n4, iv n5, iv n7, iv n8, iv n12, iv n17, iv n25, iv n26, iv n27, iv n37, un, un] [(.int n39), (.int n2)])
  have e_n39 : n39.toInt = 11 * n25.toInt := by rw [h_n39]; exact x_imulL 11 (by decide) (by omega) (by omega)
  refine Go.iadd 104 X0 hx (hb hby d10_103) rfl ?_
  obtain ⟨n40, h_n40⟩ : ∃ z, z = (n2 + n39) := ⟨_, rfl⟩
  rw [← h_n40]
  show Go _ _ _ _ s₁ (mkF m 104 #[iv y, iv n2, iv n4, iv n5, iv n7, iv n8, iv n12, iv n17, iv n25, iv n26, iv n27, iv n37, un, un] [(.int n40)])
  have e_n40 : n40.toInt = n2.toInt + n39.toInt := by rw [h_n40]; exact x_iadd (by omega) (by omega)
  refine Go.bipush 106 X0 hx (22 : Int32) (hb hby d10_104) (by decide) rfl ?_
  refine Go.iload2 108 X0 hx (hb hby d10_106) rfl rfl ?_
  refine Go.imul 109 X0 hx (hb hby d10_108) rfl ?_
  have li41 : (22 : Int32).toInt = 22 := by decide
  obtain ⟨n42, h_n42⟩ : ∃ z, z = ((22 : Int32) * n37) := ⟨_, rfl⟩
  rw [← h_n42]
  show Go _ _ _ _ s₁ (mkF m 109 #[iv y, iv n2, iv n4, iv n5, iv n7, iv n8, iv n12, iv n17, iv n25, iv n26, iv n27, iv n37, un, un] [(.int n42), (.int n40)])
  have e_n42 : n42.toInt = 22 * n37.toInt := by rw [h_n42]; exact x_imulL 22 (by decide) (by omega) (by omega)
  refine Go.iadd 110 X0 hx (hb hby d10_109) rfl ?_
  obtain ⟨n43, h_n43⟩ : ∃ z, z = (n40 + n42) := ⟨_, rfl⟩
  rw [← h_n43]
  show Go _ _ _ _ s₁ (mkF m 110 #[iv y, iv n2, iv n4, iv n5, iv n7, iv n8, iv n12, iv n17, iv n25, iv n26, iv n27, iv n37, un, un] [(.int n43)])
  have e_n43 : n43.toInt = n40.toInt + n42.toInt := by rw [h_n43]; exact x_iadd (by omega) (by omega)
  refine Go.sipush 113 X0 hx (451 : Int32) (hb hby d10_110) (by decide) rfl ?_
  refine Go.idiv 114 X0 hx (hb hby d10_113) (by decide) rfl ?_
  have li44 : (451 : Int32).toInt = 451 := by decide
  obtain ⟨n45, h_n45⟩ : ∃ z, z = (n43 / (451 : Int32)) := ⟨_, rfl⟩
  rw [← h_n45]
  show Go _ _ _ _ s₁ (mkF m 114 #[iv y, iv n2, iv n4, iv n5, iv n7, iv n8, iv n12, iv n17, iv n25, iv n26, iv n27, iv n37, un, un] [(.int n45)])
  have e_n45 : n45.toInt = n43.toInt / 451 := by rw [h_n45]; exact (x_idiv 451 (by decide) (by decide)).1 (by omega)
  refine Go.istore2 116 X0 hx (L' := #[iv y, iv n2, iv n4, iv n5, iv n7, iv n8, iv n12, iv n17, iv n25, iv n26, iv n27, iv n37, iv n45, un]) (hb hby d10_114) rfl rfl ?_
  refine Go.iload2 118 X0 hx (hb hby d10_116) rfl rfl ?_
  refine Go.iload2 120 X0 hx (hb hby d10_118) rfl rfl ?_
  refine Go.iadd 121 X0 hx (hb hby d10_120) rfl ?_
  obtain ⟨n46, h_n46⟩ : ∃ z, z = (n25 + n37) := ⟨_, rfl⟩
  rw [← h_n46]
  show Go _ _ _ _ s₁ (mkF m 121 #[iv y, iv n2, iv n4, iv n5, iv n7, iv n8, iv n12, iv n17, iv n25, iv n26, iv n27, iv n37, iv n45, un] [(.int n46)])
  have e_n46 : n46.toInt = n25.toInt + n37.toInt := by rw [h_n46]; exact x_iadd (by omega) (by omega)
  refine Go.bipush 123 X0 hx (7 : Int32) (hb hby d10_121) (by decide) rfl ?_
  refine Go.iload2 125 X0 hx (hb hby d10_123) rfl rfl ?_
  refine Go.imul 126 X0 hx (hb hby d10_125) rfl ?_
  obtain ⟨n47, h_n47⟩ : ∃ z, z = ((7 : Int32) * n45) := ⟨_, rfl⟩
  rw [← h_n47]
  show Go _ _ _ _ s₁ (mkF m 126 #[iv y, iv n2, iv n4, iv n5, iv n7, iv n8, iv n12, iv n17, iv n25, iv n26, iv n27, iv n37, iv n45, un] [(.int n47), (.int n46)])
  have e_n47 : n47.toInt = 7 * n45.toInt := by rw [h_n47]; exact x_imulL 7 (by decide) (by omega) (by omega)
  refine Go.isub 127 X0 hx (hb hby d10_126) rfl ?_
  obtain ⟨n48, h_n48⟩ : ∃ z, z = (n46 - n47) := ⟨_, rfl⟩
  rw [← h_n48]
  show Go _ _ _ _ s₁ (mkF m 127 #[iv y, iv n2, iv n4, iv n5, iv n7, iv n8, iv n12, iv n17, iv n25, iv n26, iv n27, iv n37, iv n45, un] [(.int n48)])
  have e_n48 : n48.toInt = n46.toInt - n47.toInt := by rw [h_n48]; exact x_isub (by omega) (by omega)
  refine Go.bipush 129 X0 hx (114 : Int32) (hb hby d10_127) (by decide) rfl ?_
  refine Go.iadd 130 X0 hx (hb hby d10_129) rfl ?_
  have li49 : (114 : Int32).toInt = 114 := by decide
  obtain ⟨n50, h_n50⟩ : ∃ z, z = (n48 + (114 : Int32)) := ⟨_, rfl⟩
  rw [← h_n50]
  show Go _ _ _ _ s₁ (mkF m 130 #[iv y, iv n2, iv n4, iv n5, iv n7, iv n8, iv n12, iv n17, iv n25, iv n26, iv n27, iv n37, iv n45, un] [(.int n50)])
  have e_n50 : n50.toInt = n48.toInt + (114 : Int32).toInt := by rw [h_n50]; exact x_iadd (by omega) (by omega)
  refine Go.istore2 132 X0 hx (L' := #[iv y, iv n2, iv n4, iv n5, iv n7, iv n8, iv n12, iv n17, iv n25, iv n26, iv n27, iv n37, iv n45, iv n50]) (hb hby d10_130) rfl rfl ?_
  refine Go.iload1 133 X0 hx (hb hby d10_132) rfl rfl ?_
  refine Go.iload2 135 X0 hx (hb hby d10_133) rfl rfl ?_
  refine Go.bipush 137 X0 hx (31 : Int32) (hb hby d10_135) (by decide) rfl ?_
  refine Go.idiv 138 X0 hx (hb hby d10_137) (by decide) rfl ?_
  have li51 : (31 : Int32).toInt = 31 := by decide
  obtain ⟨n52, h_n52⟩ : ∃ z, z = (n50 / (31 : Int32)) := ⟨_, rfl⟩
  rw [← h_n52]
  show Go _ _ _ _ s₁ (mkF m 138 #[iv y, iv n2, iv n4, iv n5, iv n7, iv n8, iv n12, iv n17, iv n25, iv n26, iv n27, iv n37, iv n45, iv n50] [(.int n52), (.int y)])
  have e_n52 : n52.toInt = n50.toInt / 31 := by rw [h_n52]; exact (x_idiv 31 (by decide) (by decide)).1 (by omega)
  refine Go.iload2 140 X0 hx (hb hby d10_138) rfl rfl ?_
  refine Go.bipush 142 X0 hx (31 : Int32) (hb hby d10_140) (by decide) rfl ?_
  refine Go.irem 143 X0 hx (hb hby d10_142) (by decide) rfl ?_
  obtain ⟨n53, h_n53⟩ : ∃ z, z = (n50 - n50 / (31 : Int32) * (31 : Int32)) := ⟨_, rfl⟩
  rw [← h_n53]
  show Go _ _ _ _ s₁ (mkF m 143 #[iv y, iv n2, iv n4, iv n5, iv n7, iv n8, iv n12, iv n17, iv n25, iv n26, iv n27, iv n37, iv n45, iv n50] [(.int n53), (.int n52), (.int y)])
  have e_n53 : n53.toInt = n50.toInt % 31 := by rw [h_n53]; exact (x_irem 31 (by decide)).1 (by omega)
  refine Go.iconst 144 X0 hx (1 : Int32) (hb hby d10_143) (by decide) rfl ?_
  refine Go.iadd 145 X0 hx (hb hby d10_144) rfl ?_
  obtain ⟨n54, h_n54⟩ : ∃ z, z = (n53 + (1 : Int32)) := ⟨_, rfl⟩
  rw [← h_n54]
  show Go _ _ _ _ s₁ (mkF m 145 #[iv y, iv n2, iv n4, iv n5, iv n7, iv n8, iv n12, iv n17, iv n25, iv n26, iv n27, iv n37, iv n45, iv n50] [(.int n54), (.int n52), (.int y)])
  have e_n54 : n54.toInt = n53.toInt + (1 : Int32).toInt := by rw [h_n54]; exact x_iadd (by omega) (by omega)
  have hE : own_E y.toInt n50.toInt := ⟨n2.toInt, n4.toInt, n5.toInt, n7.toInt, n8.toInt, n12.toInt, n17.toInt, n25.toInt, n26.toInt, n27.toInt, n37.toInt, n45.toInt, by omega, by omega, by omega, by omega, by omega, by omega, by omega, by omega, by omega, by omega, by omega, by omega, by omega⟩
  have hs := own_Es hy.1 hE
  have hm2 : n52.toInt = n50.toInt / 31 := by omega
  have hd2 : n54.toInt = n50.toInt % 31 + 1 := by omega
  clear e_n2 e_n4 e_n5 e_n7 e_n8 e_n10 e_n12 e_n13 e_n15 e_n17 e_n18 e_n19 e_n20 e_n21 e_n23 e_n25 e_n26 e_n27 e_n29 e_n31 e_n32 e_n33 e_n34 e_n35 e_n37 e_n39 e_n40 e_n42 e_n43 e_n45 e_n46 e_n47 e_n48 e_n50 e_n52 e_n53 e_n54
  obtain ⟨_, _, ⟨T55, L55, k55, n55⟩, -, X55, ⟨Lc55, hQ55, l55, y55, z55⟩, st55⟩ := Jvm.LawKit.callS X0 hx (y := (⟨"java/time/LocalDate", "of", "(III)Ljava/time/LocalDate;"⟩ : MethodName)) hown (mvT hZ (ow hw 61 rfl)) (mvT hZ (ow hw 62 rfl)) (mvT hZ (ow hw 63 rfl)) (mvT hZ (ow hw 64 rfl)) (by decide) (backOf (W := 0) (rmLof l Z a0 hw [] y n52 n54 cY vY cM vM cD vD cE vE ic h0 n0 Z0 O0 hy (own_win hm2 hd2 hs.1) Dc0 Dc1 Dc2 Dc3 Dc4 Dc5 Dc6 Dc7 Dc8 Dc9 Dc10 Dc11 Dc12 Dc13 Dc14 Dc15 Dc16 Dc17 Dc18 Dc19 Dc20 Dc21 Dc22 Dc23 Dc24 Dc25) hZ (ow hw 64 rfl) (ow hw 63 rfl) (by decide) (by decide)) (g := (mkF m 145 #[iv y, iv n2, iv n4, iv n5, iv n7, iv n8, iv n12, iv n17, iv n25, iv n26, iv n27, iv n37, iv n45, iv n50] [(.int n54), (.int n52), (.int y)])) rfl (by rw [hml]; rfl) (argsL := [(.int y), (.int n52), (.int n54)]) (rest := []) (lenOf pd_373 rfl) rfl (by show 2 * 0 + _ ≤ _; exact Nat.le_of_eq rfl) (hb hby d10_145) (fun _ _ => ⟨rfl, e0, (by decide : 0 + 1 ≤ _), (by decide : 0 + 3 ≤ _)⟩)
  dsimp only [Pt.U, Pt.locs, Pt.cells, Pt.slots] at X55 l55 y55 z55 st55 hQ55
  subst l55 y55 z55
  obtain ⟨b, rfl, N55q, K55, Q55_0, Q55_1, Q55_2, Q55_3⟩ := hQ55
  have N55 := Fr.app N0 N55q
  refine Go.by st55 ?_
  show Go _ _ _ _ T55 (mkF m 148 #[iv y, iv n2, iv n4, iv n5, iv n7, iv n8, iv n12, iv n17, iv n25, iv n26, iv n27, iv n37, iv n45, iv n50] [(.ref b)])
  have F56 : Keep h0 T55.heap [] := (Keep.refl h0 []).trans K55 all0
  exact Go.retA X55 hx Bd.notSynchronized Bd.returns rfl rfl (hb hby d10_148) ⟨b, n52, n54, n50.toInt, rfl, N55, F56, Q55_0, Q55_1, Q55_2, Q55_3, hE, hm2, hd2⟩ (by decide) (by decide)
theorem d29_0 : decode jdk_2323_method_31_code 0 = .ok (.aload_n 0, 1) := by decide +kernel
theorem d29_1 : decode jdk_2323_method_31_code 1 = .ok (.getfield 250, 3) := by decide +kernel
theorem d29_4 : decode jdk_2323_method_31_code 4 = .ok (.tableswitch 78 2 11 #[56, 78, 73, 78, 73, 78, 78, 73, 78, 73], 56) := by decide +kernel
theorem d29_82 : decode jdk_2323_method_31_code 82 = .ok (.bipush 31, 2) := by decide +kernel
theorem d29_84 : decode jdk_2323_method_31_code 84 = .ok (.ireturn, 1) := by decide +kernel
def Q_rmLom3 (Z : State) (a : Addr) (h0 : Heap) (n0 : Nat) (v : Option Value) (h : Heap) (L : List Loc) : Prop := v = some (.int 31) ∧ Fr n0 L ∧ h = h0
set_option maxRecDepth 65536 in
set_option maxHeartbeats 40000000 in
theorem rmLom3 (l : Launch) (Z : State) (a0 : Array Value) (hw : ∀ d ∈ tables_1, d.before a0 Z = true) (ws : List Jvm.Cond) (a : Addr) (h0 : Heap) (n0 : Nat) (Z0 : n0 ≤ h0.size) (F_a_month : Fld Z h0 a "java/time/LocalDate" "month" "S" (.int 3)) :
    MetFree l (⟨"java/time/LocalDate", "lengthOfMonth", "()I"⟩ : MethodName) (head1 (Jvm.Cond.code (⟨"java/time/LocalDate", "lengthOfMonth", "()I"⟩ : MethodName) jdk_2323_method_31_code 1 (some .int) :: ws) ({ frames := 0, cells := 0, slots := 0, locals := 0 } : Room)) (fun as' U => as' = #[(.ref a)] ∧ Z.Warmed39 U.vm ∧ U.heap = h0) (fun _ _ _ _ _ => True) (fun _ U o U' => ∃ v L, o = .returned v ∧ Q_rmLom3 Z a h0 n0 v U'.heap L ∧ FrameEnd U o U' L ({ frames := 0, cells := 0, slots := 0, locals := 0 } : Room).cells ({ frames := 0, cells := 0, slots := 0, locals := 0 } : Room).slots) := by
  refine MetFree.of_bodySF (plainFor_of_name pn_46) hisR ?_
  intro p e s m args below meth c s₁ Bd hml0 hP hK
  obtain ⟨rfl, hZ, hh⟩ := hP
  have hx := Bd.exec
  have hby := Bd.bytes
  have hml : c.maxLocals = 1 := hml0
  have hown : s.vm.findClass "java/time/LocalDate" = some m.cls := findClass_of_methodNamed Bd.named
  have hnm := (name_of_methodNamed Bd.named Bd.method).1
  have X0 : Stand p l e ({ frames := 0, cells := 0, slots := 0, locals := 0 } : Room) s m #[(.ref a)] below meth c s₁ [] 0 0 := Stand.of_body Bd
  have e0 : s₁.heap = h0 := by rw [← hh, Bd.state]; rfl
  have N0 := Fr.nil n0
  refine Go.enter (F := EndN s (Q_rmLom3 Z a h0 n0) ({ frames := 0, cells := 0, slots := 0, locals := 0 } : Room).cells ({ frames := 0, cells := 0, slots := 0, locals := 0 } : Room).slots) (ef_4 m a) ?_
  show Go _ _ _ _ s₁ (mkF m 0 #[rv a] [])
  refine Go.aload1 1 X0 hx (hb hby d29_0) rfl rfl rfl ?_
  obtain ⟨T1, X1, e1, st1⟩ := getF X0 hx hZ hown (host := "") (Or.inl (ow hw 118 rfl)) Via.refl e0 F_a_month (g := (mkF m 1 #[rv a] [(.ref a)])) rfl rfl (hb hby d29_1)
  refine Go.by st1 ?_
  show Go _ _ _ _ T1 (mkF m 4 #[rv a] [(.int 3)])
  refine Go.by (fun _ gk => XS.tswIn X1.here hx rfl (pc0 := 4) (pc' := 82) rfl (hb hby d29_4) rfl (by decide) rfl (by decide) (by decide) gk) ?_
  show Go _ _ _ _ T1 (mkF m 82 #[rv a] [])
  refine Go.bipush 84 X1 hx (31 : Int32) (hb hby d29_82) (by decide) rfl ?_
  exact Go.retI X1 hx Bd.notSynchronized Bd.returns rfl (by simp) (hb hby d29_84) (by rw [e1]; exact ⟨rfl, N0, rfl⟩) (by decide) (by decide)
theorem d29_77 : decode jdk_2323_method_31_code 77 = .ok (.bipush 30, 2) := by decide +kernel
theorem d29_79 : decode jdk_2323_method_31_code 79 = .ok (.goto 5, 3) := by decide +kernel
def Q_rmLom4 (Z : State) (a : Addr) (h0 : Heap) (n0 : Nat) (v : Option Value) (h : Heap) (L : List Loc) : Prop := v = some (.int 30) ∧ Fr n0 L ∧ h = h0
set_option maxRecDepth 65536 in
set_option maxHeartbeats 40000000 in
theorem rmLom4 (l : Launch) (Z : State) (a0 : Array Value) (hw : ∀ d ∈ tables_1, d.before a0 Z = true) (ws : List Jvm.Cond) (a : Addr) (h0 : Heap) (n0 : Nat) (Z0 : n0 ≤ h0.size) (F_a_month : Fld Z h0 a "java/time/LocalDate" "month" "S" (.int 4)) :
    MetFree l (⟨"java/time/LocalDate", "lengthOfMonth", "()I"⟩ : MethodName) (head1 (Jvm.Cond.code (⟨"java/time/LocalDate", "lengthOfMonth", "()I"⟩ : MethodName) jdk_2323_method_31_code 1 (some .int) :: ws) ({ frames := 0, cells := 0, slots := 0, locals := 0 } : Room)) (fun as' U => as' = #[(.ref a)] ∧ Z.Warmed39 U.vm ∧ U.heap = h0) (fun _ _ _ _ _ => True) (fun _ U o U' => ∃ v L, o = .returned v ∧ Q_rmLom4 Z a h0 n0 v U'.heap L ∧ FrameEnd U o U' L ({ frames := 0, cells := 0, slots := 0, locals := 0 } : Room).cells ({ frames := 0, cells := 0, slots := 0, locals := 0 } : Room).slots) := by
  refine MetFree.of_bodySF (plainFor_of_name pn_46) hisR ?_
  intro p e s m args below meth c s₁ Bd hml0 hP hK
  obtain ⟨rfl, hZ, hh⟩ := hP
  have hx := Bd.exec
  have hby := Bd.bytes
  have hml : c.maxLocals = 1 := hml0
  have hown : s.vm.findClass "java/time/LocalDate" = some m.cls := findClass_of_methodNamed Bd.named
  have hnm := (name_of_methodNamed Bd.named Bd.method).1
  have X0 : Stand p l e ({ frames := 0, cells := 0, slots := 0, locals := 0 } : Room) s m #[(.ref a)] below meth c s₁ [] 0 0 := Stand.of_body Bd
  have e0 : s₁.heap = h0 := by rw [← hh, Bd.state]; rfl
  have N0 := Fr.nil n0
  refine Go.enter (F := EndN s (Q_rmLom4 Z a h0 n0) ({ frames := 0, cells := 0, slots := 0, locals := 0 } : Room).cells ({ frames := 0, cells := 0, slots := 0, locals := 0 } : Room).slots) (ef_4 m a) ?_
  show Go _ _ _ _ s₁ (mkF m 0 #[rv a] [])
  refine Go.aload1 1 X0 hx (hb hby d29_0) rfl rfl rfl ?_
  obtain ⟨T1, X1, e1, st1⟩ := getF X0 hx hZ hown (host := "") (Or.inl (ow hw 118 rfl)) Via.refl e0 F_a_month (g := (mkF m 1 #[rv a] [(.ref a)])) rfl rfl (hb hby d29_1)
  refine Go.by st1 ?_
  show Go _ _ _ _ T1 (mkF m 4 #[rv a] [(.int 4)])
  refine Go.by (fun _ gk => XS.tswIn X1.here hx rfl (pc0 := 4) (pc' := 77) rfl (hb hby d29_4) rfl (by decide) rfl (by decide) (by decide) gk) ?_
  show Go _ _ _ _ T1 (mkF m 77 #[rv a] [])
  refine Go.bipush 79 X1 hx (30 : Int32) (hb hby d29_77) (by decide) rfl ?_
  refine Go.goto 84 X1 hx (hb hby d29_79) (by decide) (by decide) ?_
  exact Go.retI X1 hx Bd.notSynchronized Bd.returns rfl (by simp) (hb hby d29_84) (by rw [e1]; exact ⟨rfl, N0, rfl⟩) (by decide) (by decide)
theorem pf_490 : plainFor (⟨"java/lang/Math", "addExact", "(JJ)J"⟩ : MethodName) = true := Jvm.Free.JP.mathPlain rfl (by decide +kernel)
theorem ef_491 (m : MethodId) (x0 : Int64) (x1 : Int64) : entryFrame m #[(.long x0), (.long x1)] 6 = mkF m 0 #[.val (.long x0), .second, .val (.long x1), .second, un, un] [] := by (first | (simp [entryFrame, mkF, argsToLocals, Value.category]; done) | rfl)
theorem d30_0 : decode jdk_29_method_25_code 0 = .ok (.lload_n 0, 1) := by decide +kernel
theorem d30_1 : decode jdk_29_method_25_code 1 = .ok (.lload_n 2, 1) := by decide +kernel
theorem d30_2 : decode jdk_29_method_25_code 2 = .ok (.ladd, 1) := by decide +kernel
theorem d30_3 : decode jdk_29_method_25_code 3 = .ok (.lstore 4, 2) := by decide +kernel
theorem d30_5 : decode jdk_29_method_25_code 5 = .ok (.lload_n 0, 1) := by decide +kernel
theorem d30_6 : decode jdk_29_method_25_code 6 = .ok (.lload 4, 2) := by decide +kernel
theorem d30_8 : decode jdk_29_method_25_code 8 = .ok (.lxor, 1) := by decide +kernel
theorem d30_9 : decode jdk_29_method_25_code 9 = .ok (.lload_n 2, 1) := by decide +kernel
theorem d30_10 : decode jdk_29_method_25_code 10 = .ok (.lload 4, 2) := by decide +kernel
theorem d30_12 : decode jdk_29_method_25_code 12 = .ok (.lxor, 1) := by decide +kernel
theorem d30_13 : decode jdk_29_method_25_code 13 = .ok (.land, 1) := by decide +kernel
theorem d30_14 : decode jdk_29_method_25_code 14 = .ok (.lconst 0, 1) := by decide +kernel
theorem d30_15 : decode jdk_29_method_25_code 15 = .ok (.lcmp, 1) := by decide +kernel
theorem d30_16 : decode jdk_29_method_25_code 16 = .ok (.ifCond .ge 13, 3) := by decide +kernel
theorem d30_29 : decode jdk_29_method_25_code 29 = .ok (.lload 4, 2) := by decide +kernel
theorem d30_31 : decode jdk_29_method_25_code 31 = .ok (.lreturn, 1) := by decide +kernel
def Q_rmAdx (Z : State) (x : Int64) (y : Int64) (h0 : Heap) (n0 : Nat) (v : Option Value) (h : Heap) (L : List Loc) : Prop := ∃ r : Int64, v = some (.long r) ∧ Fr n0 L ∧ h = h0 ∧ (r.toInt = x.toInt + y.toInt)
set_option maxRecDepth 65536 in
set_option maxHeartbeats 40000000 in
theorem rmAdx (l : Launch) (Z : State) (a0 : Array Value) (hw : ∀ d ∈ tables_1, d.before a0 Z = true) (ws : List Jvm.Cond) (x : Int64) (y : Int64) (h0 : Heap) (n0 : Nat) (Z0 : n0 ≤ h0.size) (hx1 : (-30000000000 ≤ x.toInt ∧ x.toInt ≤ 30000000000)) (hy1 : (-30000000000 ≤ y.toInt ∧ y.toInt ≤ 30000000000)) :
    MetFree l (⟨"java/lang/Math", "addExact", "(JJ)J"⟩ : MethodName) (head1 (Jvm.Cond.code (⟨"java/lang/Math", "addExact", "(JJ)J"⟩ : MethodName) jdk_29_method_25_code 6 (some .long) :: ws) ({ frames := 0, cells := 0, slots := 0, locals := 0 } : Room)) (fun as' U => as' = #[(.long x), (.long y)] ∧ Z.Warmed39 U.vm ∧ U.heap = h0) (fun _ _ _ _ _ => True) (fun _ U o U' => ∃ v L, o = .returned v ∧ Q_rmAdx Z x y h0 n0 v U'.heap L ∧ FrameEnd U o U' L ({ frames := 0, cells := 0, slots := 0, locals := 0 } : Room).cells ({ frames := 0, cells := 0, slots := 0, locals := 0 } : Room).slots) := by
  refine MetFree.of_bodySF pf_490 hisR ?_
  intro p e s m args below meth c s₁ Bd hml0 hP hK
  obtain ⟨rfl, hZ, hh⟩ := hP
  have hx := Bd.exec
  have hby := Bd.bytes
  have hml : c.maxLocals = 6 := hml0
  have hown : s.vm.findClass "java/lang/Math" = some m.cls := findClass_of_methodNamed Bd.named
  have hnm := (name_of_methodNamed Bd.named Bd.method).1
  have X0 : Stand p l e ({ frames := 0, cells := 0, slots := 0, locals := 0 } : Room) s m #[(.long x), (.long y)] below meth c s₁ [] 0 0 := Stand.of_body Bd
  have e0 : s₁.heap = h0 := by rw [← hh, Bd.state]; rfl
  have N0 := Fr.nil n0
  refine Go.enter (F := EndN s (Q_rmAdx Z x y h0 n0) ({ frames := 0, cells := 0, slots := 0, locals := 0 } : Room).cells ({ frames := 0, cells := 0, slots := 0, locals := 0 } : Room).slots) (ef_491 m x y) ?_
  show Go _ _ _ _ s₁ (mkF m 0 #[.val (.long x), .second, .val (.long y), .second, un, un] [])
  refine Go.lload1 1 X0 hx (hb hby d30_0) rfl rfl ?_
  refine Go.lload1 2 X0 hx (hb hby d30_1) rfl rfl ?_
  refine Go.ladd 3 X0 hx (hb hby d30_2) rfl ?_
  obtain ⟨n1, h_n1⟩ : ∃ z, z = (x + y) := ⟨_, rfl⟩
  rw [← h_n1]
  show Go _ _ _ _ s₁ (mkF m 3 #[.val (.long x), .second, .val (.long y), .second, un, un] [(.long n1)])
  have e_n1 : n1.toInt = x.toInt + y.toInt := by rw [h_n1]; exact x_ladd (by omega) (by omega)
  refine Go.lstore2 5 X0 hx (L' := #[.val (.long x), .second, .val (.long y), .second, .val (.long n1), .second]) (hb hby d30_3) rfl rfl ?_
  refine Go.lload1 6 X0 hx (hb hby d30_5) rfl rfl ?_
  refine Go.lload2 8 X0 hx (hb hby d30_6) rfl rfl ?_
  refine Go.lxor 9 X0 hx (hb hby d30_8) rfl ?_
  refine Go.lload1 10 X0 hx (hb hby d30_9) rfl rfl ?_
  refine Go.lload2 12 X0 hx (hb hby d30_10) rfl rfl ?_
  refine Go.lxor 13 X0 hx (hb hby d30_12) rfl ?_
  refine Go.land 14 X0 hx (hb hby d30_13) rfl ?_
  refine Go.lconst 15 X0 hx (0 : Int64) (hb hby d30_14) (by decide) rfl ?_
  refine Go.lcmp 16 X0 hx (hb hby d30_15) rfl ?_
  refine Go.ifY 29 X0 hx (hb hby d30_16) (XT.ll_ge_t (own_nov3 e_n1)) (by decide) (by decide) ?_
  refine Go.lload2 31 X0 hx (hb hby d30_29) rfl rfl ?_
  exact Go.retJ X0 hx Bd.notSynchronized Bd.returns (hb hby d30_31) (by rw [e0]; exact ⟨n1, rfl, N0, rfl, e_n1⟩) (by decide) (by decide)
theorem ef_508 (m : MethodId) (x0 : Addr) (x1 : Int64) : entryFrame m #[(.ref x0), (.long x1)] 7 = mkF m 0 #[rv x0, .val (.long x1), .second, un, un, un, un] [] := by (first | (simp [entryFrame, mkF, argsToLocals, Value.category]; done) | rfl)
theorem d20_0 : decode jdk_2323_method_44_code 0 = .ok (.lload_n 1, 1) := by decide +kernel
theorem d20_1 : decode jdk_2323_method_44_code 1 = .ok (.lconst 0, 1) := by decide +kernel
theorem d20_2 : decode jdk_2323_method_44_code 2 = .ok (.lcmp, 1) := by decide +kernel
theorem d20_3 : decode jdk_2323_method_44_code 3 = .ok (.ifCond .ne 5, 3) := by decide +kernel
theorem d20_6 : decode jdk_2323_method_44_code 6 = .ok (.aload_n 0, 1) := by decide +kernel
theorem d20_7 : decode jdk_2323_method_44_code 7 = .ok (.areturn, 1) := by decide +kernel
theorem d20_8 : decode jdk_2323_method_44_code 8 = .ok (.aload_n 0, 1) := by decide +kernel
theorem d20_9 : decode jdk_2323_method_44_code 9 = .ok (.getfield 253, 3) := by decide +kernel
theorem d20_12 : decode jdk_2323_method_44_code 12 = .ok (.i2l, 1) := by decide +kernel
theorem d20_13 : decode jdk_2323_method_44_code 13 = .ok (.lload_n 1, 1) := by decide +kernel
theorem d20_14 : decode jdk_2323_method_44_code 14 = .ok (.ladd, 1) := by decide +kernel
theorem d20_15 : decode jdk_2323_method_44_code 15 = .ok (.lstore_n 3, 1) := by decide +kernel
theorem d20_16 : decode jdk_2323_method_44_code 16 = .ok (.lload_n 3, 1) := by decide +kernel
theorem d20_17 : decode jdk_2323_method_44_code 17 = .ok (.lconst 0, 1) := by decide +kernel
theorem d20_18 : decode jdk_2323_method_44_code 18 = .ok (.lcmp, 1) := by decide +kernel
theorem d20_19 : decode jdk_2323_method_44_code 19 = .ok (.ifCond .le 135, 3) := by decide +kernel
theorem d20_22 : decode jdk_2323_method_44_code 22 = .ok (.lload_n 3, 1) := by decide +kernel
theorem d20_23 : decode jdk_2323_method_44_code 23 = .ok (.ldc2_w 483, 3) := by decide +kernel
theorem d20_26 : decode jdk_2323_method_44_code 26 = .ok (.lcmp, 1) := by decide +kernel
theorem d20_27 : decode jdk_2323_method_44_code 27 = .ok (.ifCond .gt 21, 3) := by decide +kernel
theorem d20_48 : decode jdk_2323_method_44_code 48 = .ok (.lload_n 3, 1) := by decide +kernel
theorem d20_49 : decode jdk_2323_method_44_code 49 = .ok (.ldc2_w 485, 3) := by decide +kernel
theorem d20_52 : decode jdk_2323_method_44_code 52 = .ok (.lcmp, 1) := by decide +kernel
theorem d20_53 : decode jdk_2323_method_44_code 53 = .ok (.ifCond .gt 101, 3) := by decide +kernel
theorem d20_154 : decode jdk_2323_method_44_code 154 = .ok (.aload_n 0, 1) := by decide +kernel
theorem d20_155 : decode jdk_2323_method_44_code 155 = .ok (.invokevirtual 332, 3) := by decide +kernel
theorem d20_158 : decode jdk_2323_method_44_code 158 = .ok (.lload_n 1, 1) := by decide +kernel
theorem pd_536 : parseMethodDescriptor "(JJ)J" = some ⟨[.long, .long], some .long⟩ := by decide +kernel
theorem d20_159 : decode jdk_2323_method_44_code 159 = .ok (.invokestatic 465, 3) := by decide +kernel
theorem d20_162 : decode jdk_2323_method_44_code 162 = .ok (.lstore 5, 2) := by decide +kernel
theorem d20_164 : decode jdk_2323_method_44_code 164 = .ok (.lload 5, 2) := by decide +kernel
theorem pd_540 : parseMethodDescriptor "(J)Ljava/time/LocalDate;" = some ⟨[.long], some (.object "java/time/LocalDate")⟩ := by decide +kernel
theorem d20_166 : decode jdk_2323_method_44_code 166 = .ok (.invokestatic 157, 3) := by decide +kernel
theorem d20_169 : decode jdk_2323_method_44_code 169 = .ok (.areturn, 1) := by decide +kernel
theorem d20_56 : decode jdk_2323_method_44_code 56 = .ok (.aload_n 0, 1) := by decide +kernel
theorem pd_544 : parseMethodDescriptor "()I" = some ⟨[], some .int⟩ := by decide +kernel
theorem d20_57 : decode jdk_2323_method_44_code 57 = .ok (.invokevirtual 278, 3) := by decide +kernel
theorem d20_60 : decode jdk_2323_method_44_code 60 = .ok (.i2l, 1) := by decide +kernel
theorem d20_61 : decode jdk_2323_method_44_code 61 = .ok (.lstore 5, 2) := by decide +kernel
theorem d20_63 : decode jdk_2323_method_44_code 63 = .ok (.lload_n 3, 1) := by decide +kernel
theorem d20_64 : decode jdk_2323_method_44_code 64 = .ok (.lload 5, 2) := by decide +kernel
theorem d20_66 : decode jdk_2323_method_44_code 66 = .ok (.lcmp, 1) := by decide +kernel
theorem d20_67 : decode jdk_2323_method_44_code 67 = .ok (.ifCond .gt 21, 3) := by decide +kernel
theorem d20_88 : decode jdk_2323_method_44_code 88 = .ok (.aload_n 0, 1) := by decide +kernel
theorem d20_89 : decode jdk_2323_method_44_code 89 = .ok (.getfield 250, 3) := by decide +kernel
theorem d20_92 : decode jdk_2323_method_44_code 92 = .ok (.bipush 12, 2) := by decide +kernel
theorem d20_94 : decode jdk_2323_method_44_code 94 = .ok (.if_icmp .ge 26, 3) := by decide +kernel
theorem d20_97 : decode jdk_2323_method_44_code 97 = .ok (.new 1, 3) := by decide +kernel
theorem d20_100 : decode jdk_2323_method_44_code 100 = .ok (.dup, 1) := by decide +kernel
theorem d20_101 : decode jdk_2323_method_44_code 101 = .ok (.aload_n 0, 1) := by decide +kernel
theorem d20_102 : decode jdk_2323_method_44_code 102 = .ok (.getfield 246, 3) := by decide +kernel
theorem d20_105 : decode jdk_2323_method_44_code 105 = .ok (.aload_n 0, 1) := by decide +kernel
theorem d20_106 : decode jdk_2323_method_44_code 106 = .ok (.getfield 250, 3) := by decide +kernel
theorem d20_109 : decode jdk_2323_method_44_code 109 = .ok (.iconst 1, 1) := by decide +kernel
theorem d20_110 : decode jdk_2323_method_44_code 110 = .ok (.iadd, 1) := by decide +kernel
theorem d20_111 : decode jdk_2323_method_44_code 111 = .ok (.lload_n 3, 1) := by decide +kernel
theorem d20_112 : decode jdk_2323_method_44_code 112 = .ok (.lload 5, 2) := by decide +kernel
theorem d20_114 : decode jdk_2323_method_44_code 114 = .ok (.lsub, 1) := by decide +kernel
theorem d20_115 : decode jdk_2323_method_44_code 115 = .ok (.l2i, 1) := by decide +kernel
theorem d20_116 : decode jdk_2323_method_44_code 116 = .ok (.invokespecial 121, 3) := by decide +kernel
theorem d20_119 : decode jdk_2323_method_44_code 119 = .ok (.areturn, 1) := by decide +kernel
theorem d20_70 : decode jdk_2323_method_44_code 70 = .ok (.new 1, 3) := by decide +kernel
theorem d20_73 : decode jdk_2323_method_44_code 73 = .ok (.dup, 1) := by decide +kernel
theorem d20_74 : decode jdk_2323_method_44_code 74 = .ok (.aload_n 0, 1) := by decide +kernel
theorem d20_75 : decode jdk_2323_method_44_code 75 = .ok (.getfield 246, 3) := by decide +kernel
theorem d20_78 : decode jdk_2323_method_44_code 78 = .ok (.aload_n 0, 1) := by decide +kernel
theorem d20_79 : decode jdk_2323_method_44_code 79 = .ok (.getfield 250, 3) := by decide +kernel
theorem d20_82 : decode jdk_2323_method_44_code 82 = .ok (.lload_n 3, 1) := by decide +kernel
theorem d20_83 : decode jdk_2323_method_44_code 83 = .ok (.l2i, 1) := by decide +kernel
theorem d20_84 : decode jdk_2323_method_44_code 84 = .ok (.invokespecial 121, 3) := by decide +kernel
theorem d20_87 : decode jdk_2323_method_44_code 87 = .ok (.areturn, 1) := by decide +kernel
theorem d20_30 : decode jdk_2323_method_44_code 30 = .ok (.new 1, 3) := by decide +kernel
theorem d20_33 : decode jdk_2323_method_44_code 33 = .ok (.dup, 1) := by decide +kernel
theorem d20_34 : decode jdk_2323_method_44_code 34 = .ok (.aload_n 0, 1) := by decide +kernel
theorem d20_35 : decode jdk_2323_method_44_code 35 = .ok (.getfield 246, 3) := by decide +kernel
theorem d20_38 : decode jdk_2323_method_44_code 38 = .ok (.aload_n 0, 1) := by decide +kernel
theorem d20_39 : decode jdk_2323_method_44_code 39 = .ok (.getfield 250, 3) := by decide +kernel
theorem d20_42 : decode jdk_2323_method_44_code 42 = .ok (.lload_n 3, 1) := by decide +kernel
theorem d20_43 : decode jdk_2323_method_44_code 43 = .ok (.l2i, 1) := by decide +kernel
theorem d20_44 : decode jdk_2323_method_44_code 44 = .ok (.invokespecial 121, 3) := by decide +kernel
theorem d20_47 : decode jdk_2323_method_44_code 47 = .ok (.areturn, 1) := by decide +kernel
def Q_rmPlus (Z : State) (a : Addr) (x : Int64) (y : Int32) (mo : Int32) (dy : Int32) (cY : Addr) (vY : Addr) (cM : Addr) (vM : Addr) (cD : Addr) (vD : Addr) (cE : Addr) (vE : Addr) (ic : Addr) (h0 : Heap) (n0 : Nat) (v : Option Value) (h : Heap) (L : List Loc) : Prop := ∃ b : Addr, ∃ y2 : Int32, ∃ m2 : Int32, ∃ d2 : Int32, v = some (.ref b) ∧ Fr n0 L ∧ Keep h0 h [] ∧ Exa Z h b "java/time/LocalDate" ∧ Fld Z h b "java/time/LocalDate" "year" "I" (.int y2) ∧ Fld Z h b "java/time/LocalDate" "month" "S" (.int m2) ∧ Fld Z h b "java/time/LocalDate" "day" "S" (.int d2) ∧ (own_ed y2.toInt m2.toInt d2.toInt = own_ed y.toInt mo.toInt dy.toInt + x.toInt) ∧ (-100000000 ≤ y2.toInt ∧ y2.toInt ≤ 100000000) ∧ (1 ≤ m2.toInt ∧ m2.toInt ≤ 12) ∧ (1 ≤ d2.toInt ∧ d2.toInt ≤ 31) ∧ (x.toInt = 0 → y2 = y ∧ m2 = mo ∧ d2 = dy)
set_option maxRecDepth 65536 in
set_option maxHeartbeats 40000000 in
theorem rmPlus (l : Launch) (Z : State) (a0 : Array Value) (hw : ∀ d ∈ tables_1, d.before a0 Z = true) (ws : List Jvm.Cond) (a : Addr) (x : Int64) (y : Int32) (mo : Int32) (dy : Int32) (cY : Addr) (vY : Addr) (cM : Addr) (vM : Addr) (cD : Addr) (vD : Addr) (cE : Addr) (vE : Addr) (ic : Addr) (h0 : Heap) (n0 : Nat) (Z0 : n0 ≤ h0.size) (O0 : Old Z n0 h0) (E_a : Exa Z h0 a "java/time/LocalDate") (F_a_year : Fld Z h0 a "java/time/LocalDate" "year" "I" (.int y)) (F_a_month : Fld Z h0 a "java/time/LocalDate" "month" "S" (.int mo)) (F_a_day : Fld Z h0 a "java/time/LocalDate" "day" "S" (.int dy)) (hy : (0 ≤ y.toInt ∧ y.toInt ≤ 70000000)) (hw1 : ((mo = 3 ∧ 22 ≤ dy.toInt ∧ dy.toInt ≤ 31) ∨ (mo = 4 ∧ 1 ≤ dy.toInt ∧ dy.toInt ≤ 25))) (hx1 : (-2147483648 ≤ x.toInt ∧ x.toInt ≤ 2147483647)) (Dc0 : Sta Z Z.heap "java/time/temporal/ChronoField" "YEAR" "Ljava/time/temporal/ChronoField;" (.ref cY)) (Dc1 : Exa Z Z.heap cY "java/time/temporal/ChronoField") (Dc2 : Fld Z Z.heap cY "java/time/temporal/ChronoField" "range" "Ljava/time/temporal/ValueRange;" (.ref vY)) (Dc3 : Exa Z Z.heap vY "java/time/temporal/ValueRange") (Dc4 : Fld Z Z.heap vY "java/time/temporal/ValueRange" "minSmallest" "J" (.long (-999999999 : Int64))) (Dc5 : Fld Z Z.heap vY "java/time/temporal/ValueRange" "maxLargest" "J" (.long (999999999 : Int64))) (Dc6 : Sta Z Z.heap "java/time/temporal/ChronoField" "MONTH_OF_YEAR" "Ljava/time/temporal/ChronoField;" (.ref cM)) (Dc7 : Exa Z Z.heap cM "java/time/temporal/ChronoField") (Dc8 : Fld Z Z.heap cM "java/time/temporal/ChronoField" "range" "Ljava/time/temporal/ValueRange;" (.ref vM)) (Dc9 : Exa Z Z.heap vM "java/time/temporal/ValueRange") (Dc10 : Fld Z Z.heap vM "java/time/temporal/ValueRange" "minSmallest" "J" (.long (1 : Int64))) (Dc11 : Fld Z Z.heap vM "java/time/temporal/ValueRange" "maxLargest" "J" (.long (12 : Int64))) (Dc12 : Sta Z Z.heap "java/time/temporal/ChronoField" "DAY_OF_MONTH" "Ljava/time/temporal/ChronoField;" (.ref cD)) (Dc13 : Exa Z Z.heap cD "java/time/temporal/ChronoField") (Dc14 : Fld Z Z.heap cD "java/time/temporal/ChronoField" "range" "Ljava/time/temporal/ValueRange;" (.ref vD)) (Dc15 : Exa Z Z.heap vD "java/time/temporal/ValueRange") (Dc16 : Fld Z Z.heap vD "java/time/temporal/ValueRange" "minSmallest" "J" (.long (1 : Int64))) (Dc17 : Fld Z Z.heap vD "java/time/temporal/ValueRange" "maxLargest" "J" (.long (31 : Int64))) (Dc18 : Sta Z Z.heap "java/time/temporal/ChronoField" "EPOCH_DAY" "Ljava/time/temporal/ChronoField;" (.ref cE)) (Dc19 : Exa Z Z.heap cE "java/time/temporal/ChronoField") (Dc20 : Fld Z Z.heap cE "java/time/temporal/ChronoField" "range" "Ljava/time/temporal/ValueRange;" (.ref vE)) (Dc21 : Exa Z Z.heap vE "java/time/temporal/ValueRange") (Dc22 : Fld Z Z.heap vE "java/time/temporal/ValueRange" "minSmallest" "J" (.long (-365243219162 : Int64))) (Dc23 : Fld Z Z.heap vE "java/time/temporal/ValueRange" "maxLargest" "J" (.long (365241780471 : Int64))) (Dc24 : Sta Z Z.heap "java/time/chrono/IsoChronology" "INSTANCE" "Ljava/time/chrono/IsoChronology;" (.ref ic)) (Dc25 : Exa Z Z.heap ic "java/time/chrono/IsoChronology") :
    MetFree l (⟨"java/time/LocalDate", "plusDays", "(J)Ljava/time/LocalDate;"⟩ : MethodName) (head1 (Jvm.Cond.code (⟨"java/time/LocalDate", "plusDays", "(J)Ljava/time/LocalDate;"⟩ : MethodName) jdk_2323_method_44_code 7 (some (.object "java/time/LocalDate")) :: ws) ({ frames := 5, cells := 1, slots := 3, locals := 82 } : Room)) (fun as' U => as' = #[(.ref a), (.long x)] ∧ Z.Warmed39 U.vm ∧ U.heap = h0) (fun _ _ _ _ _ => True) (fun _ U o U' => ∃ v L, o = .returned v ∧ Q_rmPlus Z a x y mo dy cY vY cM vM cD vD cE vE ic h0 n0 v U'.heap L ∧ FrameEnd U o U' L ({ frames := 5, cells := 1, slots := 3, locals := 82 } : Room).cells ({ frames := 5, cells := 1, slots := 3, locals := 82 } : Room).slots) := by
  refine MetFree.of_bodySF (plainFor_of_name pn_46) hisR ?_
  intro p e s m args below meth c s₁ Bd hml0 hP hK
  obtain ⟨rfl, hZ, hh⟩ := hP
  have hx := Bd.exec
  have hby := Bd.bytes
  have hml : c.maxLocals = 7 := hml0
  have hown : s.vm.findClass "java/time/LocalDate" = some m.cls := findClass_of_methodNamed Bd.named
  have hnm := (name_of_methodNamed Bd.named Bd.method).1
  have X0 : Stand p l e ({ frames := 5, cells := 1, slots := 3, locals := 82 } : Room) s m #[(.ref a), (.long x)] below meth c s₁ [] 0 0 := Stand.of_body Bd
  have e0 : s₁.heap = h0 := by rw [← hh, Bd.state]; rfl
  have N0 := Fr.nil n0
  refine Go.enter (F := EndN s (Q_rmPlus Z a x y mo dy cY vY cM vM cD vD cE vE ic h0 n0) ({ frames := 5, cells := 1, slots := 3, locals := 82 } : Room).cells ({ frames := 5, cells := 1, slots := 3, locals := 82 } : Room).slots) (ef_508 m a x) ?_
  show Go _ _ _ _ s₁ (mkF m 0 #[rv a, .val (.long x), .second, un, un, un, un] [])
  obtain ⟨hmb, hdb⟩ := own_winb hw1
  refine Go.lload1 1 X0 hx (hb hby d20_0) rfl rfl ?_
  refine Go.lconst 2 X0 hx (0 : Int64) (hb hby d20_1) (by decide) rfl ?_
  refine Go.lcmp 3 X0 hx (hb hby d20_2) rfl ?_
  have li1 : (0 : Int64).toInt = 0 := by decide
  by_cases hb2 : x = (0 : Int64)
  · refine Go.ifN 6 X0 hx (hb hby d20_3) (XT.ll_ne_f hb2) rfl ?_
    have i_hb2 := o_eq64 hb2
    refine Go.aload1 7 X0 hx (hb hby d20_6) rfl rfl rfl ?_
    exact Go.retA X0 hx Bd.notSynchronized Bd.returns rfl rfl (hb hby d20_7) (by rw [e0]; exact ⟨a, y, mo, dy, rfl, N0, (Keep.refl h0 []), E_a, F_a_year, F_a_month, F_a_day, by omega, ⟨by omega, by omega⟩, ⟨by omega, by omega⟩, ⟨by omega, by omega⟩, fun _ => ⟨rfl, rfl, rfl⟩⟩) (by decide) (by decide)
  · refine Go.ifY 8 X0 hx (hb hby d20_3) (XT.ll_ne_t hb2) (by decide) (by decide) ?_
    have i_hb2 := o_neq64 hb2
    have hx0 : ¬ x.toInt = 0 := by omega
    refine Go.aload1 9 X0 hx (hb hby d20_8) rfl rfl rfl ?_
    obtain ⟨T3, X3, e3, st3⟩ := getF X0 hx hZ hown (host := "") (Or.inl (ow hw 120 rfl)) Via.refl e0 F_a_day (g := (mkF m 9 #[rv a, .val (.long x), .second, un, un, un, un] [(.ref a)])) rfl rfl (hb hby d20_9)
    refine Go.by st3 ?_
    show Go _ _ _ _ T3 (mkF m 12 #[rv a, .val (.long x), .second, un, un, un, un] [(.int dy)])
    refine Go.i2l 13 X3 hx (hb hby d20_12) rfl ?_
    obtain ⟨n4, h_n4⟩ : ∃ z, z = (dy.toInt64) := ⟨_, rfl⟩
    rw [← h_n4]
    show Go _ _ _ _ T3 (mkF m 13 #[rv a, .val (.long x), .second, un, un, un, un] [(.long n4)])
    have e_n4 : n4.toInt = dy.toInt := by rw [h_n4]; exact c_i2l _
    refine Go.lload1 14 X3 hx (hb hby d20_13) rfl rfl ?_
    refine Go.ladd 15 X3 hx (hb hby d20_14) rfl ?_
    obtain ⟨n5, h_n5⟩ : ∃ z, z = (n4 + x) := ⟨_, rfl⟩
    rw [← h_n5]
    show Go _ _ _ _ T3 (mkF m 15 #[rv a, .val (.long x), .second, un, un, un, un] [(.long n5)])
    have e_n5 : n5.toInt = n4.toInt + x.toInt := by rw [h_n5]; exact x_ladd (by omega) (by omega)
    refine Go.lstore1 16 X3 hx (L' := #[rv a, .val (.long x), .second, .val (.long n5), .second, un, un]) (hb hby d20_15) rfl rfl ?_
    refine Go.lload1 17 X3 hx (hb hby d20_16) rfl rfl ?_
    refine Go.lconst 18 X3 hx (0 : Int64) (hb hby d20_17) (by decide) rfl ?_
    refine Go.lcmp 19 X3 hx (hb hby d20_18) rfl ?_
    by_cases hb6 : (0 : Int64) < n5
    · refine Go.ifN 22 X3 hx (hb hby d20_19) (XT.ll_le_f hb6) rfl ?_
      have i_hb6 := o_lt64 hb6
      refine Go.lload1 23 X3 hx (hb hby d20_22) rfl rfl ?_
      refine Go.by (fun _ gk => X3.ldc2J hx hown (mvT hZ (ow hw 127 rfl)) (g := (mkF m 23 #[rv a, .val (.long x), .second, .val (.long n5), .second, un, un] [(.long n5)])) rfl (hb hby d20_23) gk) ?_
      show Go _ _ _ _ T3 (mkF m 26 #[rv a, .val (.long x), .second, .val (.long n5), .second, un, un] [(.long (28 : Int64)), (.long n5)])
      refine Go.lcmp 27 X3 hx (hb hby d20_26) rfl ?_
      have li7 : (28 : Int64).toInt = 28 := by decide
      by_cases hb8 : (28 : Int64) < n5
      · refine Go.ifY 48 X3 hx (hb hby d20_27) (XT.ll_gt_t hb8) (by decide) (by decide) ?_
        have i_hb8 := o_lt64 hb8
        refine Go.lload1 49 X3 hx (hb hby d20_48) rfl rfl ?_
        refine Go.by (fun _ gk => X3.ldc2J hx hown (mvT hZ (ow hw 185 rfl)) (g := (mkF m 49 #[rv a, .val (.long x), .second, .val (.long n5), .second, un, un] [(.long n5)])) rfl (hb hby d20_49) gk) ?_
        show Go _ _ _ _ T3 (mkF m 52 #[rv a, .val (.long x), .second, .val (.long n5), .second, un, un] [(.long (59 : Int64)), (.long n5)])
        refine Go.lcmp 53 X3 hx (hb hby d20_52) rfl ?_
        have li9 : (59 : Int64).toInt = 59 := by decide
        by_cases hb10 : (59 : Int64) < n5
        · refine Go.ifY 154 X3 hx (hb hby d20_53) (XT.ll_gt_t hb10) (by decide) (by decide) ?_
          have i_hb10 := o_lt64 hb10
          have hr2 := own_edR hy hmb hdb
          clear i_hb2 e_n4 e_n5 i_hb6 i_hb8 i_hb10
          refine Go.aload1 155 X3 hx (hb hby d20_154) rfl rfl rfl ?_
          obtain ⟨cq11, kq11, q11a, q11b, q11c⟩ := isOf hZ e3 E_a
          obtain ⟨_, _, ⟨T11, L11, k11, n11⟩, -, X11, ⟨Lc11, hQ11, l11, y11, z11⟩, st11⟩ := X3.virtualBack hx (y := (⟨"java/time/LocalDate", "toEpochDay", "()J"⟩ : MethodName)) (z := (⟨"java/time/LocalDate", "toEpochDay", "()J"⟩ : MethodName)) hown (mvT hZ (ow hw 191 rfl)) (mvT hZ (ow hw 129 rfl)) (notFace_of_selects (args := #[]) (mvT hZ (ow hw 131 rfl))) (mvT hZ (ow hw 131 rfl)) (mvT hZ (ow hw 130 rfl)) (by decide) (backOf (W := 0) (rmTed l Z a0 hw [] a y mo dy cY vY cM vM cD vD cE vE ic h0 n0 Z0 O0 E_a F_a_year F_a_month F_a_day (⟨by omega, by omega⟩) (⟨by omega, by omega⟩) (⟨by omega, by omega⟩) Dc0 Dc1 Dc2 Dc3 Dc4 Dc5 Dc6 Dc7 Dc8 Dc9 Dc10 Dc11 Dc12 Dc13 Dc14 Dc15 Dc16 Dc17 Dc18 Dc19 Dc20 Dc21 Dc22 Dc23 Dc24 Dc25) hZ (ow hw 132 rfl) (ow hw 63 rfl) (by decide) (by decide)) q11a q11c (g := (mkF m 155 #[rv a, .val (.long x), .second, .val (.long n5), .second, un, un] [(.ref a)])) rfl (by rw [hml]; rfl) (Steps.refl _) (argsL := []) (rest := []) (lenOf pd_14 rfl) rfl (by show 2 * 0 + _ ≤ _; exact Nat.le_of_eq rfl) (hb hby d20_155) (fun _ _ => ⟨rfl, e3, (by decide : 0 + 0 ≤ _), (by decide : 0 + 0 ≤ _)⟩)
          dsimp only [Pt.U, Pt.locs, Pt.cells, Pt.slots] at X11 l11 y11 z11 st11 hQ11
          subst l11 y11 z11
          obtain ⟨r, rfl, N11q, e11, Q11_0⟩ := hQ11
          have N11 := Fr.app N0 N11q
          refine Go.to st11 ?_
          show Go _ _ _ _ T11 (mkF m 158 #[rv a, .val (.long x), .second, .val (.long n5), .second, un, un] [(.long r)])
          have hr := Q11_0
          refine Go.lload1 159 X11 hx (hb hby d20_158) rfl rfl ?_
          obtain ⟨_, _, ⟨T12, L12, k12, n12⟩, -, X12, ⟨Lc12, hQ12, l12, y12, z12⟩, st12⟩ := Jvm.LawKit.callS X11 hx (y := (⟨"java/lang/Math", "addExact", "(JJ)J"⟩ : MethodName)) hown (mvT hZ (ow hw 192 rfl)) (mvT hZ (ow hw 193 rfl)) (mvT hZ (ow hw 194 rfl)) (mvT hZ (ow hw 195 rfl)) (by decide) (backOf (W := 0) (rmAdx l Z a0 hw [] r x h0 n0 Z0 (⟨by omega, by omega⟩) (⟨by omega, by omega⟩)) hZ (ow hw 195 rfl) (ow hw 194 rfl) (by decide) (by decide)) (g := (mkF m 159 #[rv a, .val (.long x), .second, .val (.long n5), .second, un, un] [(.long x), (.long r)])) rfl (by rw [hml]; rfl) (argsL := [(.long r), (.long x)]) (rest := []) (lenOf pd_536 rfl) rfl (by show 2 * 0 + _ ≤ _; exact Nat.le_of_eq rfl) (hb hby d20_159) (fun _ _ => ⟨rfl, e11, (by decide : 0 + 0 ≤ _), (by decide : 0 + 0 ≤ _)⟩)
          dsimp only [Pt.U, Pt.locs, Pt.cells, Pt.slots] at X12 l12 y12 z12 st12 hQ12
          subst l12 y12 z12
          obtain ⟨sm, rfl, N12q, e12, Q12_0⟩ := hQ12
          have N12 := Fr.app N11 N12q
          refine Go.by st12 ?_
          show Go _ _ _ _ T12 (mkF m 162 #[rv a, .val (.long x), .second, .val (.long n5), .second, un, un] [(.long sm)])
          have hsm := Q12_0
          refine Go.lstore2 164 X12 hx (L' := #[rv a, .val (.long x), .second, .val (.long n5), .second, .val (.long sm), .second]) (hb hby d20_162) rfl rfl ?_
          refine Go.lload2 166 X12 hx (hb hby d20_164) rfl rfl ?_
          obtain ⟨_, _, ⟨T13, L13, k13, n13⟩, -, X13, ⟨Lc13, hQ13, l13, y13, z13⟩, st13⟩ := Jvm.LawKit.callS X12 hx (y := (⟨"java/time/LocalDate", "ofEpochDay", "(J)Ljava/time/LocalDate;"⟩ : MethodName)) hown (mvT hZ (ow hw 196 rfl)) (mvT hZ (ow hw 197 rfl)) (mvT hZ (ow hw 63 rfl)) (mvT hZ (ow hw 198 rfl)) (by decide) (backOf (W := 0) (rmOf l Z a0 hw [] sm cY vY cM vM cD vD cE vE ic h0 n0 Z0 O0 (⟨by omega, by omega⟩) Dc0 Dc1 Dc2 Dc3 Dc4 Dc5 Dc6 Dc7 Dc8 Dc9 Dc10 Dc11 Dc12 Dc13 Dc14 Dc15 Dc16 Dc17 Dc18 Dc19 Dc20 Dc21 Dc22 Dc23 Dc24 Dc25) hZ (ow hw 198 rfl) (ow hw 63 rfl) (by decide) (by decide)) (g := (mkF m 166 #[rv a, .val (.long x), .second, .val (.long n5), .second, .val (.long sm), .second] [(.long sm)])) rfl (by rw [hml]; rfl) (argsL := [(.long sm)]) (rest := []) (lenOf pd_540 rfl) rfl (by show 2 * 0 + _ ≤ _; exact Nat.le_of_eq rfl) (hb hby d20_166) (fun _ _ => ⟨rfl, e12, (by decide : 0 + 1 ≤ _), (by decide : 0 + 3 ≤ _)⟩)
          dsimp only [Pt.U, Pt.locs, Pt.cells, Pt.slots] at X13 l13 y13 z13 st13 hQ13
          subst l13 y13 z13
          obtain ⟨b, y2, m2, d2, rfl, N13q, K13, Q13_0, Q13_1, Q13_2, Q13_3, Q13_4, Q13_5, Q13_6, Q13_7⟩ := hQ13
          have N13 := Fr.app N12 N13q
          refine Go.by st13 ?_
          show Go _ _ _ _ T13 (mkF m 169 #[rv a, .val (.long x), .second, .val (.long n5), .second, .val (.long sm), .second] [(.ref b)])
          have F14 : Keep h0 T13.heap [] := (Keep.refl h0 []).trans K13 all0
          exact Go.retA X13 hx Bd.notSynchronized Bd.returns rfl rfl (hb hby d20_169) ⟨b, y2, m2, d2, rfl, N13, F14, Q13_0, Q13_1, Q13_2, Q13_3, by rw [Q13_4]; omega, Q13_5, Q13_6, Q13_7, fun q => absurd q hx0⟩ (by decide) (by decide)
        · refine Go.ifN 56 X3 hx (hb hby d20_53) (XT.ll_gt_f hb10) rfl ?_
          have i_hb10 := o_nlt64 hb10
          rcases hw1 with ⟨rfl, hd1⟩ | ⟨rfl, hd1⟩
          · show Go _ _ _ _ T3 (mkF m 56 #[rv a, .val (.long x), .second, .val (.long n5), .second, un, un] [])
            refine Go.aload1 57 X3 hx (hb hby d20_56) rfl rfl rfl ?_
            have li15 : (3 : Int32).toInt = 3 := by decide
            obtain ⟨cq16, kq16, q16a, q16b, q16c⟩ := isOf hZ e3 E_a
            obtain ⟨_, _, ⟨T16, L16, k16, n16⟩, -, X16, ⟨Lc16, hQ16, l16, y16, z16⟩, st16⟩ := X3.virtualBack hx (y := (⟨"java/time/LocalDate", "lengthOfMonth", "()I"⟩ : MethodName)) (z := (⟨"java/time/LocalDate", "lengthOfMonth", "()I"⟩ : MethodName)) hown (mvT hZ (ow hw 186 rfl)) (mvT hZ (ow hw 187 rfl)) (notFace_of_selects (args := #[]) (mvT hZ (ow hw 189 rfl))) (mvT hZ (ow hw 189 rfl)) (mvT hZ (ow hw 188 rfl)) (by decide) (backOf (W := 0) (rmLom3 l Z a0 hw [] a h0 n0 Z0 F_a_month) hZ (ow hw 190 rfl) (ow hw 63 rfl) (by decide) (by decide)) q16a q16c (g := (mkF m 57 #[rv a, .val (.long x), .second, .val (.long n5), .second, un, un] [(.ref a)])) rfl (by rw [hml]; rfl) (Steps.refl _) (argsL := []) (rest := []) (lenOf pd_544 rfl) rfl (by show 2 * 0 + _ ≤ _; exact Nat.le_of_eq rfl) (hb hby d20_57) (fun _ _ => ⟨rfl, e3, (by decide : 0 + 0 ≤ _), (by decide : 0 + 0 ≤ _)⟩)
            dsimp only [Pt.U, Pt.locs, Pt.cells, Pt.slots] at X16 l16 y16 z16 st16 hQ16
            subst l16 y16 z16
            obtain ⟨rfl, N16q, e16⟩ := hQ16
            have N16 := Fr.app N0 N16q
            refine Go.to st16 ?_
            show Go _ _ _ _ T16 (mkF m 60 #[rv a, .val (.long x), .second, .val (.long n5), .second, un, un] [(.int 31)])
            refine Go.i2l 61 X16 hx (hb hby d20_60) rfl ?_
            have li17 : (31 : Int32).toInt = 31 := by decide
            obtain ⟨n18, h_n18⟩ : ∃ z, z = ((31 : Int32).toInt64) := ⟨_, rfl⟩
            rw [← h_n18]
            show Go _ _ _ _ T16 (mkF m 61 #[rv a, .val (.long x), .second, .val (.long n5), .second, un, un] [(.long n18)])
            have e_n18 : n18.toInt = (31 : Int32).toInt := by rw [h_n18]; exact c_i2l _
            refine Go.lstore2 63 X16 hx (L' := #[rv a, .val (.long x), .second, .val (.long n5), .second, .val (.long n18), .second]) (hb hby d20_61) rfl rfl ?_
            refine Go.lload1 64 X16 hx (hb hby d20_63) rfl rfl ?_
            refine Go.lload2 66 X16 hx (hb hby d20_64) rfl rfl ?_
            refine Go.lcmp 67 X16 hx (hb hby d20_66) rfl ?_
            by_cases hb19 : n18 < n5
            · refine Go.ifY 88 X16 hx (hb hby d20_67) (XT.ll_gt_t hb19) (by decide) (by decide) ?_
              have i_hb19 := o_lt64 hb19
              refine Go.aload1 89 X16 hx (hb hby d20_88) rfl rfl rfl ?_
              obtain ⟨T20, X20, e20, st20⟩ := getF X16 hx hZ hown (host := "") (Or.inl (ow hw 118 rfl)) Via.refl e16 F_a_month (g := (mkF m 89 #[rv a, .val (.long x), .second, .val (.long n5), .second, .val (.long n18), .second] [(.ref a)])) rfl rfl (hb hby d20_89)
              refine Go.by st20 ?_
              show Go _ _ _ _ T20 (mkF m 92 #[rv a, .val (.long x), .second, .val (.long n5), .second, .val (.long n18), .second] [(.int 3)])
              refine Go.bipush 94 X20 hx (12 : Int32) (hb hby d20_92) (by decide) rfl ?_
              refine Go.icmpN 97 X20 hx (hb hby d20_94) (XT.ii_ge_f (by decide)) rfl ?_
              obtain ⟨b, g21⟩ : ∃ z, z = h0.size := ⟨_, rfl⟩
              have ge_b : n0 ≤ b := Nat.le_trans Z0 (Nat.le_of_eq g21.symm)
              have sz_b : h0.size ≤ b := Nat.le_trans (Keep.refl h0 []).1 (Nat.le_of_eq g21.symm)
              have ne_a_b : a ≠ b := Nat.ne_of_lt (Nat.lt_of_lt_of_le E_a.lt (Nat.le_of_eq g21.symm))
              obtain ⟨T21, h21, X21, e21, E21, A21, D21, -, st21⟩ := newO X20 hx hZ hown (ow hw 109 rfl) (ow hw 110 rfl) (ow hw 63 rfl) e20 (g := (mkF m 97 #[rv a, .val (.long x), .second, .val (.long n5), .second, .val (.long n18), .second] [])) rfl (hb hby d20_97) (by decide) (by decide)
              rw [← g21] at A21 D21 st21
              have F_year_b : Fld Z h21 b "java/time/LocalDate" "year" "I" (.int 0) := D21 (Or.inr (ow hw 117 rfl)) (ty := .int) (by decide)
              have F_month_b : Fld Z h21 b "java/time/LocalDate" "month" "S" (.int 0) := D21 (Or.inr (ow hw 119 rfl)) (ty := .short) (by decide)
              have F_day_b : Fld Z h21 b "java/time/LocalDate" "day" "S" (.int 0) := D21 (Or.inr (ow hw 121 rfl)) (ty := .short) (by decide)
              refine Go.by st21 ?_
              show Go _ _ _ _ T21 (mkF m 100 #[rv a, .val (.long x), .second, .val (.long n5), .second, .val (.long n18), .second] [(.ref b)])
              refine Go.dup 101 X21 hx (hb hby d20_100) rfl rfl ?_
              refine Go.aload1 102 X21 hx (hb hby d20_101) rfl rfl rfl ?_
              have F22 : Fld Z h21 a "java/time/LocalDate" "year" "I" (.int y) := F_a_year.ext E21
              obtain ⟨T23, X23, e23, st23⟩ := getF X21 hx hZ hown (host := "") (Or.inl (ow hw 116 rfl)) Via.refl e21 F22 (g := (mkF m 102 #[rv a, .val (.long x), .second, .val (.long n5), .second, .val (.long n18), .second] [(.ref a), (.ref b), (.ref b)])) rfl rfl (hb hby d20_102)
              refine Go.by st23 ?_
              show Go _ _ _ _ T23 (mkF m 105 #[rv a, .val (.long x), .second, .val (.long n5), .second, .val (.long n18), .second] [(.int y), (.ref b), (.ref b)])
              refine Go.aload1 106 X23 hx (hb hby d20_105) rfl rfl rfl ?_
              have F24 : Fld Z h21 a "java/time/LocalDate" "month" "S" (.int 3) := F_a_month.ext E21
              obtain ⟨T25, X25, e25, st25⟩ := getF X23 hx hZ hown (host := "") (Or.inl (ow hw 118 rfl)) Via.refl e23 F24 (g := (mkF m 106 #[rv a, .val (.long x), .second, .val (.long n5), .second, .val (.long n18), .second] [(.ref a), (.int y), (.ref b), (.ref b)])) rfl rfl (hb hby d20_106)
              refine Go.by st25 ?_
              show Go _ _ _ _ T25 (mkF m 109 #[rv a, .val (.long x), .second, .val (.long n5), .second, .val (.long n18), .second] [(.int 3), (.int y), (.ref b), (.ref b)])
              refine Go.iconst 110 X25 hx (1 : Int32) (hb hby d20_109) (by decide) rfl ?_
              refine Go.iadd 111 X25 hx (hb hby d20_110) rfl ?_
              rw [(by decide : ((3 : Int32) + (1 : Int32)) = (4 : Int32))]
              refine Go.lload1 112 X25 hx (hb hby d20_111) rfl rfl ?_
              refine Go.lload2 114 X25 hx (hb hby d20_112) rfl rfl ?_
              refine Go.lsub 115 X25 hx (hb hby d20_114) rfl ?_
              obtain ⟨n26, h_n26⟩ : ∃ z, z = (n5 - n18) := ⟨_, rfl⟩
              rw [← h_n26]
              show Go _ _ _ _ T25 (mkF m 115 #[rv a, .val (.long x), .second, .val (.long n5), .second, .val (.long n18), .second] [(.long n26), (.int 4), (.int y), (.ref b), (.ref b)])
              have e_n26 : n26.toInt = n5.toInt - n18.toInt := by rw [h_n26]; exact x_lsub (by omega) (by omega)
              refine Go.l2i 116 X25 hx (hb hby d20_115) rfl ?_
              obtain ⟨n27, h_n27⟩ : ∃ z, z = (n26.toInt32) := ⟨_, rfl⟩
              rw [← h_n27]
              show Go _ _ _ _ T25 (mkF m 116 #[rv a, .val (.long x), .second, .val (.long n5), .second, .val (.long n18), .second] [(.int n27), (.int 4), (.int y), (.ref b), (.ref b)])
              have e_n27 : n27.toInt = n26.toInt := by rw [h_n27]; exact x_l2i (by omega) (by omega)
              have li28 : (4 : Int32).toInt = 4 := by decide
              have F29 : n0 ≤ h21.size := Nat.le_trans Z0 E21.1
              obtain ⟨_, _, ⟨T30, L30, k30, n30⟩, -, X30, ⟨Lc30, hQ30, l30, y30, z30⟩, st30⟩ := X25.specialBack hx (y := (⟨"java/time/LocalDate", "<init>", "(III)V"⟩ : MethodName)) rfl hown (mvT hZ (ow hw 111 rfl)) (mvT hZ (ow hw 112 rfl)) (mvT hZ (ow hw 114 rfl)) (by decide) (backOf (W := 1) (rmLd l Z a0 hw [] b y (4 : Int32) n27 h21 n0 F29 A21 F_year_b F_month_b F_day_b ge_b (⟨by omega, by omega⟩) (⟨by omega, by omega⟩)) hZ (ow hw 114 rfl) (ow hw 63 rfl) (by decide) (by decide)) (g := (mkF m 116 #[rv a, .val (.long x), .second, .val (.long n5), .second, .val (.long n18), .second] [(.int n27), (.int 4), (.int y), (.ref b), (.ref b)])) rfl (by rw [hml]; rfl) (Steps.refl _) (a := b) (argsL := [(.int y), (.int 4), (.int n27)]) (rest := [(.ref b)]) (lenOf pd_329 rfl) rfl (by show 2 * 0 + _ ≤ _; exact Nat.le_of_eq rfl) (hb hby d20_116) (fun _ _ => ⟨rfl, e25, (by decide : 1 + 0 ≤ _), (by decide : 3 + 0 ≤ _)⟩)
              dsimp only [Pt.U, Pt.locs, Pt.cells, Pt.slots] at X30 l30 y30 z30 st30 hQ30
              subst l30 y30 z30
              obtain ⟨rfl, N30q, K30, Q30_0, Q30_1, Q30_2, Q30_3⟩ := hQ30
              have N30 := Fr.app N16 N30q
              refine Go.to st30 ?_
              show Go _ _ _ _ T30 (mkF m 119 #[rv a, .val (.long x), .second, .val (.long n5), .second, .val (.long n18), .second] [(.ref b)])
              have F31 : Keep h0 h21 [] := (Keep.refl h0 []).ext E21
              have F32 : Keep h0 T30.heap [] := F31.trans K30 (allS (Or.inr sz_b) all0)
              exact Go.retA X30 hx Bd.notSynchronized Bd.returns rfl rfl (hb hby d20_119) ⟨b, y, (4 : Int32), n27, rfl, N30, F32, Q30_0, Q30_1, Q30_2, Q30_3, own_edM3 (by omega), ⟨by omega, by omega⟩, ⟨by omega, by omega⟩, ⟨by omega, by omega⟩, fun q => absurd q hx0⟩ (by decide) (by decide)
            · refine Go.ifN 70 X16 hx (hb hby d20_67) (XT.ll_gt_f hb19) rfl ?_
              have i_hb19 := o_nlt64 hb19
              obtain ⟨b, g33⟩ : ∃ z, z = h0.size := ⟨_, rfl⟩
              have ge_b : n0 ≤ b := Nat.le_trans Z0 (Nat.le_of_eq g33.symm)
              have sz_b : h0.size ≤ b := Nat.le_trans (Keep.refl h0 []).1 (Nat.le_of_eq g33.symm)
              have ne_a_b : a ≠ b := Nat.ne_of_lt (Nat.lt_of_lt_of_le E_a.lt (Nat.le_of_eq g33.symm))
              obtain ⟨T33, h33, X33, e33, E33, A33, D33, -, st33⟩ := newO X16 hx hZ hown (ow hw 109 rfl) (ow hw 110 rfl) (ow hw 63 rfl) e16 (g := (mkF m 70 #[rv a, .val (.long x), .second, .val (.long n5), .second, .val (.long n18), .second] [])) rfl (hb hby d20_70) (by decide) (by decide)
              rw [← g33] at A33 D33 st33
              have F_year_b : Fld Z h33 b "java/time/LocalDate" "year" "I" (.int 0) := D33 (Or.inr (ow hw 117 rfl)) (ty := .int) (by decide)
              have F_month_b : Fld Z h33 b "java/time/LocalDate" "month" "S" (.int 0) := D33 (Or.inr (ow hw 119 rfl)) (ty := .short) (by decide)
              have F_day_b : Fld Z h33 b "java/time/LocalDate" "day" "S" (.int 0) := D33 (Or.inr (ow hw 121 rfl)) (ty := .short) (by decide)
              refine Go.by st33 ?_
              show Go _ _ _ _ T33 (mkF m 73 #[rv a, .val (.long x), .second, .val (.long n5), .second, .val (.long n18), .second] [(.ref b)])
              refine Go.dup 74 X33 hx (hb hby d20_73) rfl rfl ?_
              refine Go.aload1 75 X33 hx (hb hby d20_74) rfl rfl rfl ?_
              have F34 : Fld Z h33 a "java/time/LocalDate" "year" "I" (.int y) := F_a_year.ext E33
              obtain ⟨T35, X35, e35, st35⟩ := getF X33 hx hZ hown (host := "") (Or.inl (ow hw 116 rfl)) Via.refl e33 F34 (g := (mkF m 75 #[rv a, .val (.long x), .second, .val (.long n5), .second, .val (.long n18), .second] [(.ref a), (.ref b), (.ref b)])) rfl rfl (hb hby d20_75)
              refine Go.by st35 ?_
              show Go _ _ _ _ T35 (mkF m 78 #[rv a, .val (.long x), .second, .val (.long n5), .second, .val (.long n18), .second] [(.int y), (.ref b), (.ref b)])
              refine Go.aload1 79 X35 hx (hb hby d20_78) rfl rfl rfl ?_
              have F36 : Fld Z h33 a "java/time/LocalDate" "month" "S" (.int 3) := F_a_month.ext E33
              obtain ⟨T37, X37, e37, st37⟩ := getF X35 hx hZ hown (host := "") (Or.inl (ow hw 118 rfl)) Via.refl e35 F36 (g := (mkF m 79 #[rv a, .val (.long x), .second, .val (.long n5), .second, .val (.long n18), .second] [(.ref a), (.int y), (.ref b), (.ref b)])) rfl rfl (hb hby d20_79)
              refine Go.by st37 ?_
              show Go _ _ _ _ T37 (mkF m 82 #[rv a, .val (.long x), .second, .val (.long n5), .second, .val (.long n18), .second] [(.int 3), (.int y), (.ref b), (.ref b)])
              refine Go.lload1 83 X37 hx (hb hby d20_82) rfl rfl ?_
              refine Go.l2i 84 X37 hx (hb hby d20_83) rfl ?_
              obtain ⟨n38, h_n38⟩ : ∃ z, z = (n5.toInt32) := ⟨_, rfl⟩
              rw [← h_n38]
              show Go _ _ _ _ T37 (mkF m 84 #[rv a, .val (.long x), .second, .val (.long n5), .second, .val (.long n18), .second] [(.int n38), (.int 3), (.int y), (.ref b), (.ref b)])
              have e_n38 : n38.toInt = n5.toInt := by rw [h_n38]; exact x_l2i (by omega) (by omega)
              have F39 : n0 ≤ h33.size := Nat.le_trans Z0 E33.1
              obtain ⟨_, _, ⟨T40, L40, k40, n40⟩, -, X40, ⟨Lc40, hQ40, l40, y40, z40⟩, st40⟩ := X37.specialBack hx (y := (⟨"java/time/LocalDate", "<init>", "(III)V"⟩ : MethodName)) rfl hown (mvT hZ (ow hw 111 rfl)) (mvT hZ (ow hw 112 rfl)) (mvT hZ (ow hw 114 rfl)) (by decide) (backOf (W := 1) (rmLd l Z a0 hw [] b y (3 : Int32) n38 h33 n0 F39 A33 F_year_b F_month_b F_day_b ge_b (⟨by omega, by omega⟩) (⟨by omega, by omega⟩)) hZ (ow hw 114 rfl) (ow hw 63 rfl) (by decide) (by decide)) (g := (mkF m 84 #[rv a, .val (.long x), .second, .val (.long n5), .second, .val (.long n18), .second] [(.int n38), (.int 3), (.int y), (.ref b), (.ref b)])) rfl (by rw [hml]; rfl) (Steps.refl _) (a := b) (argsL := [(.int y), (.int 3), (.int n38)]) (rest := [(.ref b)]) (lenOf pd_329 rfl) rfl (by show 2 * 0 + _ ≤ _; exact Nat.le_of_eq rfl) (hb hby d20_84) (fun _ _ => ⟨rfl, e37, (by decide : 1 + 0 ≤ _), (by decide : 3 + 0 ≤ _)⟩)
              dsimp only [Pt.U, Pt.locs, Pt.cells, Pt.slots] at X40 l40 y40 z40 st40 hQ40
              subst l40 y40 z40
              obtain ⟨rfl, N40q, K40, Q40_0, Q40_1, Q40_2, Q40_3⟩ := hQ40
              have N40 := Fr.app N16 N40q
              refine Go.to st40 ?_
              show Go _ _ _ _ T40 (mkF m 87 #[rv a, .val (.long x), .second, .val (.long n5), .second, .val (.long n18), .second] [(.ref b)])
              have F41 : Keep h0 h33 [] := (Keep.refl h0 []).ext E33
              have F42 : Keep h0 T40.heap [] := F41.trans K40 (allS (Or.inr sz_b) all0)
              exact Go.retA X40 hx Bd.notSynchronized Bd.returns rfl rfl (hb hby d20_87) ⟨b, y, (3 : Int32), n38, rfl, N40, F42, Q40_0, Q40_1, Q40_2, Q40_3, by rw [own_edd _ _ dy.toInt]; omega, ⟨by omega, by omega⟩, ⟨by omega, by omega⟩, ⟨by omega, by omega⟩, fun q => absurd q hx0⟩ (by decide) (by decide)
          · show Go _ _ _ _ T3 (mkF m 56 #[rv a, .val (.long x), .second, .val (.long n5), .second, un, un] [])
            refine Go.aload1 57 X3 hx (hb hby d20_56) rfl rfl rfl ?_
            have li43 : (4 : Int32).toInt = 4 := by decide
            obtain ⟨cq44, kq44, q44a, q44b, q44c⟩ := isOf hZ e3 E_a
            obtain ⟨_, _, ⟨T44, L44, k44, n44⟩, -, X44, ⟨Lc44, hQ44, l44, y44, z44⟩, st44⟩ := X3.virtualBack hx (y := (⟨"java/time/LocalDate", "lengthOfMonth", "()I"⟩ : MethodName)) (z := (⟨"java/time/LocalDate", "lengthOfMonth", "()I"⟩ : MethodName)) hown (mvT hZ (ow hw 186 rfl)) (mvT hZ (ow hw 187 rfl)) (notFace_of_selects (args := #[]) (mvT hZ (ow hw 189 rfl))) (mvT hZ (ow hw 189 rfl)) (mvT hZ (ow hw 188 rfl)) (by decide) (backOf (W := 0) (rmLom4 l Z a0 hw [] a h0 n0 Z0 F_a_month) hZ (ow hw 190 rfl) (ow hw 63 rfl) (by decide) (by decide)) q44a q44c (g := (mkF m 57 #[rv a, .val (.long x), .second, .val (.long n5), .second, un, un] [(.ref a)])) rfl (by rw [hml]; rfl) (Steps.refl _) (argsL := []) (rest := []) (lenOf pd_544 rfl) rfl (by show 2 * 0 + _ ≤ _; exact Nat.le_of_eq rfl) (hb hby d20_57) (fun _ _ => ⟨rfl, e3, (by decide : 0 + 0 ≤ _), (by decide : 0 + 0 ≤ _)⟩)
            dsimp only [Pt.U, Pt.locs, Pt.cells, Pt.slots] at X44 l44 y44 z44 st44 hQ44
            subst l44 y44 z44
            obtain ⟨rfl, N44q, e44⟩ := hQ44
            have N44 := Fr.app N0 N44q
            refine Go.to st44 ?_
            show Go _ _ _ _ T44 (mkF m 60 #[rv a, .val (.long x), .second, .val (.long n5), .second, un, un] [(.int 30)])
            refine Go.i2l 61 X44 hx (hb hby d20_60) rfl ?_
            have li45 : (30 : Int32).toInt = 30 := by decide
            obtain ⟨n46, h_n46⟩ : ∃ z, z = ((30 : Int32).toInt64) := ⟨_, rfl⟩
            rw [← h_n46]
            show Go _ _ _ _ T44 (mkF m 61 #[rv a, .val (.long x), .second, .val (.long n5), .second, un, un] [(.long n46)])
            have e_n46 : n46.toInt = (30 : Int32).toInt := by rw [h_n46]; exact c_i2l _
            refine Go.lstore2 63 X44 hx (L' := #[rv a, .val (.long x), .second, .val (.long n5), .second, .val (.long n46), .second]) (hb hby d20_61) rfl rfl ?_
            refine Go.lload1 64 X44 hx (hb hby d20_63) rfl rfl ?_
            refine Go.lload2 66 X44 hx (hb hby d20_64) rfl rfl ?_
            refine Go.lcmp 67 X44 hx (hb hby d20_66) rfl ?_
            by_cases hb47 : n46 < n5
            · refine Go.ifY 88 X44 hx (hb hby d20_67) (XT.ll_gt_t hb47) (by decide) (by decide) ?_
              have i_hb47 := o_lt64 hb47
              refine Go.aload1 89 X44 hx (hb hby d20_88) rfl rfl rfl ?_
              obtain ⟨T48, X48, e48, st48⟩ := getF X44 hx hZ hown (host := "") (Or.inl (ow hw 118 rfl)) Via.refl e44 F_a_month (g := (mkF m 89 #[rv a, .val (.long x), .second, .val (.long n5), .second, .val (.long n46), .second] [(.ref a)])) rfl rfl (hb hby d20_89)
              refine Go.by st48 ?_
              show Go _ _ _ _ T48 (mkF m 92 #[rv a, .val (.long x), .second, .val (.long n5), .second, .val (.long n46), .second] [(.int 4)])
              refine Go.bipush 94 X48 hx (12 : Int32) (hb hby d20_92) (by decide) rfl ?_
              refine Go.icmpN 97 X48 hx (hb hby d20_94) (XT.ii_ge_f (by decide)) rfl ?_
              obtain ⟨b, g49⟩ : ∃ z, z = h0.size := ⟨_, rfl⟩
              have ge_b : n0 ≤ b := Nat.le_trans Z0 (Nat.le_of_eq g49.symm)
              have sz_b : h0.size ≤ b := Nat.le_trans (Keep.refl h0 []).1 (Nat.le_of_eq g49.symm)
              have ne_a_b : a ≠ b := Nat.ne_of_lt (Nat.lt_of_lt_of_le E_a.lt (Nat.le_of_eq g49.symm))
              obtain ⟨T49, h49, X49, e49, E49, A49, D49, -, st49⟩ := newO X48 hx hZ hown (ow hw 109 rfl) (ow hw 110 rfl) (ow hw 63 rfl) e48 (g := (mkF m 97 #[rv a, .val (.long x), .second, .val (.long n5), .second, .val (.long n46), .second] [])) rfl (hb hby d20_97) (by decide) (by decide)
              rw [← g49] at A49 D49 st49
              have F_year_b : Fld Z h49 b "java/time/LocalDate" "year" "I" (.int 0) := D49 (Or.inr (ow hw 117 rfl)) (ty := .int) (by decide)
              have F_month_b : Fld Z h49 b "java/time/LocalDate" "month" "S" (.int 0) := D49 (Or.inr (ow hw 119 rfl)) (ty := .short) (by decide)
              have F_day_b : Fld Z h49 b "java/time/LocalDate" "day" "S" (.int 0) := D49 (Or.inr (ow hw 121 rfl)) (ty := .short) (by decide)
              refine Go.by st49 ?_
              show Go _ _ _ _ T49 (mkF m 100 #[rv a, .val (.long x), .second, .val (.long n5), .second, .val (.long n46), .second] [(.ref b)])
              refine Go.dup 101 X49 hx (hb hby d20_100) rfl rfl ?_
              refine Go.aload1 102 X49 hx (hb hby d20_101) rfl rfl rfl ?_
              have F50 : Fld Z h49 a "java/time/LocalDate" "year" "I" (.int y) := F_a_year.ext E49
              obtain ⟨T51, X51, e51, st51⟩ := getF X49 hx hZ hown (host := "") (Or.inl (ow hw 116 rfl)) Via.refl e49 F50 (g := (mkF m 102 #[rv a, .val (.long x), .second, .val (.long n5), .second, .val (.long n46), .second] [(.ref a), (.ref b), (.ref b)])) rfl rfl (hb hby d20_102)
              refine Go.by st51 ?_
              show Go _ _ _ _ T51 (mkF m 105 #[rv a, .val (.long x), .second, .val (.long n5), .second, .val (.long n46), .second] [(.int y), (.ref b), (.ref b)])
              refine Go.aload1 106 X51 hx (hb hby d20_105) rfl rfl rfl ?_
              have F52 : Fld Z h49 a "java/time/LocalDate" "month" "S" (.int 4) := F_a_month.ext E49
              obtain ⟨T53, X53, e53, st53⟩ := getF X51 hx hZ hown (host := "") (Or.inl (ow hw 118 rfl)) Via.refl e51 F52 (g := (mkF m 106 #[rv a, .val (.long x), .second, .val (.long n5), .second, .val (.long n46), .second] [(.ref a), (.int y), (.ref b), (.ref b)])) rfl rfl (hb hby d20_106)
              refine Go.by st53 ?_
              show Go _ _ _ _ T53 (mkF m 109 #[rv a, .val (.long x), .second, .val (.long n5), .second, .val (.long n46), .second] [(.int 4), (.int y), (.ref b), (.ref b)])
              refine Go.iconst 110 X53 hx (1 : Int32) (hb hby d20_109) (by decide) rfl ?_
              refine Go.iadd 111 X53 hx (hb hby d20_110) rfl ?_
              rw [(by decide : ((4 : Int32) + (1 : Int32)) = (5 : Int32))]
              refine Go.lload1 112 X53 hx (hb hby d20_111) rfl rfl ?_
              refine Go.lload2 114 X53 hx (hb hby d20_112) rfl rfl ?_
              refine Go.lsub 115 X53 hx (hb hby d20_114) rfl ?_
              obtain ⟨n54, h_n54⟩ : ∃ z, z = (n5 - n46) := ⟨_, rfl⟩
              rw [← h_n54]
              show Go _ _ _ _ T53 (mkF m 115 #[rv a, .val (.long x), .second, .val (.long n5), .second, .val (.long n46), .second] [(.long n54), (.int 5), (.int y), (.ref b), (.ref b)])
              have e_n54 : n54.toInt = n5.toInt - n46.toInt := by rw [h_n54]; exact x_lsub (by omega) (by omega)
              refine Go.l2i 116 X53 hx (hb hby d20_115) rfl ?_
              obtain ⟨n55, h_n55⟩ : ∃ z, z = (n54.toInt32) := ⟨_, rfl⟩
              rw [← h_n55]
              show Go _ _ _ _ T53 (mkF m 116 #[rv a, .val (.long x), .second, .val (.long n5), .second, .val (.long n46), .second] [(.int n55), (.int 5), (.int y), (.ref b), (.ref b)])
              have e_n55 : n55.toInt = n54.toInt := by rw [h_n55]; exact x_l2i (by omega) (by omega)
              have li56 : (5 : Int32).toInt = 5 := by decide
              have F57 : n0 ≤ h49.size := Nat.le_trans Z0 E49.1
              obtain ⟨_, _, ⟨T58, L58, k58, n58⟩, -, X58, ⟨Lc58, hQ58, l58, y58, z58⟩, st58⟩ := X53.specialBack hx (y := (⟨"java/time/LocalDate", "<init>", "(III)V"⟩ : MethodName)) rfl hown (mvT hZ (ow hw 111 rfl)) (mvT hZ (ow hw 112 rfl)) (mvT hZ (ow hw 114 rfl)) (by decide) (backOf (W := 1) (rmLd l Z a0 hw [] b y (5 : Int32) n55 h49 n0 F57 A49 F_year_b F_month_b F_day_b ge_b (⟨by omega, by omega⟩) (⟨by omega, by omega⟩)) hZ (ow hw 114 rfl) (ow hw 63 rfl) (by decide) (by decide)) (g := (mkF m 116 #[rv a, .val (.long x), .second, .val (.long n5), .second, .val (.long n46), .second] [(.int n55), (.int 5), (.int y), (.ref b), (.ref b)])) rfl (by rw [hml]; rfl) (Steps.refl _) (a := b) (argsL := [(.int y), (.int 5), (.int n55)]) (rest := [(.ref b)]) (lenOf pd_329 rfl) rfl (by show 2 * 0 + _ ≤ _; exact Nat.le_of_eq rfl) (hb hby d20_116) (fun _ _ => ⟨rfl, e53, (by decide : 1 + 0 ≤ _), (by decide : 3 + 0 ≤ _)⟩)
              dsimp only [Pt.U, Pt.locs, Pt.cells, Pt.slots] at X58 l58 y58 z58 st58 hQ58
              subst l58 y58 z58
              obtain ⟨rfl, N58q, K58, Q58_0, Q58_1, Q58_2, Q58_3⟩ := hQ58
              have N58 := Fr.app N44 N58q
              refine Go.to st58 ?_
              show Go _ _ _ _ T58 (mkF m 119 #[rv a, .val (.long x), .second, .val (.long n5), .second, .val (.long n46), .second] [(.ref b)])
              have F59 : Keep h0 h49 [] := (Keep.refl h0 []).ext E49
              have F60 : Keep h0 T58.heap [] := F59.trans K58 (allS (Or.inr sz_b) all0)
              exact Go.retA X58 hx Bd.notSynchronized Bd.returns rfl rfl (hb hby d20_119) ⟨b, y, (5 : Int32), n55, rfl, N58, F60, Q58_0, Q58_1, Q58_2, Q58_3, own_edM4 (by omega), ⟨by omega, by omega⟩, ⟨by omega, by omega⟩, ⟨by omega, by omega⟩, fun q => absurd q hx0⟩ (by decide) (by decide)
            · refine Go.ifN 70 X44 hx (hb hby d20_67) (XT.ll_gt_f hb47) rfl ?_
              have i_hb47 := o_nlt64 hb47
              obtain ⟨b, g61⟩ : ∃ z, z = h0.size := ⟨_, rfl⟩
              have ge_b : n0 ≤ b := Nat.le_trans Z0 (Nat.le_of_eq g61.symm)
              have sz_b : h0.size ≤ b := Nat.le_trans (Keep.refl h0 []).1 (Nat.le_of_eq g61.symm)
              have ne_a_b : a ≠ b := Nat.ne_of_lt (Nat.lt_of_lt_of_le E_a.lt (Nat.le_of_eq g61.symm))
              obtain ⟨T61, h61, X61, e61, E61, A61, D61, -, st61⟩ := newO X44 hx hZ hown (ow hw 109 rfl) (ow hw 110 rfl) (ow hw 63 rfl) e44 (g := (mkF m 70 #[rv a, .val (.long x), .second, .val (.long n5), .second, .val (.long n46), .second] [])) rfl (hb hby d20_70) (by decide) (by decide)
              rw [← g61] at A61 D61 st61
              have F_year_b : Fld Z h61 b "java/time/LocalDate" "year" "I" (.int 0) := D61 (Or.inr (ow hw 117 rfl)) (ty := .int) (by decide)
              have F_month_b : Fld Z h61 b "java/time/LocalDate" "month" "S" (.int 0) := D61 (Or.inr (ow hw 119 rfl)) (ty := .short) (by decide)
              have F_day_b : Fld Z h61 b "java/time/LocalDate" "day" "S" (.int 0) := D61 (Or.inr (ow hw 121 rfl)) (ty := .short) (by decide)
              refine Go.by st61 ?_
              show Go _ _ _ _ T61 (mkF m 73 #[rv a, .val (.long x), .second, .val (.long n5), .second, .val (.long n46), .second] [(.ref b)])
              refine Go.dup 74 X61 hx (hb hby d20_73) rfl rfl ?_
              refine Go.aload1 75 X61 hx (hb hby d20_74) rfl rfl rfl ?_
              have F62 : Fld Z h61 a "java/time/LocalDate" "year" "I" (.int y) := F_a_year.ext E61
              obtain ⟨T63, X63, e63, st63⟩ := getF X61 hx hZ hown (host := "") (Or.inl (ow hw 116 rfl)) Via.refl e61 F62 (g := (mkF m 75 #[rv a, .val (.long x), .second, .val (.long n5), .second, .val (.long n46), .second] [(.ref a), (.ref b), (.ref b)])) rfl rfl (hb hby d20_75)
              refine Go.by st63 ?_
              show Go _ _ _ _ T63 (mkF m 78 #[rv a, .val (.long x), .second, .val (.long n5), .second, .val (.long n46), .second] [(.int y), (.ref b), (.ref b)])
              refine Go.aload1 79 X63 hx (hb hby d20_78) rfl rfl rfl ?_
              have F64 : Fld Z h61 a "java/time/LocalDate" "month" "S" (.int 4) := F_a_month.ext E61
              obtain ⟨T65, X65, e65, st65⟩ := getF X63 hx hZ hown (host := "") (Or.inl (ow hw 118 rfl)) Via.refl e63 F64 (g := (mkF m 79 #[rv a, .val (.long x), .second, .val (.long n5), .second, .val (.long n46), .second] [(.ref a), (.int y), (.ref b), (.ref b)])) rfl rfl (hb hby d20_79)
              refine Go.by st65 ?_
              show Go _ _ _ _ T65 (mkF m 82 #[rv a, .val (.long x), .second, .val (.long n5), .second, .val (.long n46), .second] [(.int 4), (.int y), (.ref b), (.ref b)])
              refine Go.lload1 83 X65 hx (hb hby d20_82) rfl rfl ?_
              refine Go.l2i 84 X65 hx (hb hby d20_83) rfl ?_
              obtain ⟨n66, h_n66⟩ : ∃ z, z = (n5.toInt32) := ⟨_, rfl⟩
              rw [← h_n66]
              show Go _ _ _ _ T65 (mkF m 84 #[rv a, .val (.long x), .second, .val (.long n5), .second, .val (.long n46), .second] [(.int n66), (.int 4), (.int y), (.ref b), (.ref b)])
              have e_n66 : n66.toInt = n5.toInt := by rw [h_n66]; exact x_l2i (by omega) (by omega)
              have F67 : n0 ≤ h61.size := Nat.le_trans Z0 E61.1
              obtain ⟨_, _, ⟨T68, L68, k68, n68⟩, -, X68, ⟨Lc68, hQ68, l68, y68, z68⟩, st68⟩ := X65.specialBack hx (y := (⟨"java/time/LocalDate", "<init>", "(III)V"⟩ : MethodName)) rfl hown (mvT hZ (ow hw 111 rfl)) (mvT hZ (ow hw 112 rfl)) (mvT hZ (ow hw 114 rfl)) (by decide) (backOf (W := 1) (rmLd l Z a0 hw [] b y (4 : Int32) n66 h61 n0 F67 A61 F_year_b F_month_b F_day_b ge_b (⟨by omega, by omega⟩) (⟨by omega, by omega⟩)) hZ (ow hw 114 rfl) (ow hw 63 rfl) (by decide) (by decide)) (g := (mkF m 84 #[rv a, .val (.long x), .second, .val (.long n5), .second, .val (.long n46), .second] [(.int n66), (.int 4), (.int y), (.ref b), (.ref b)])) rfl (by rw [hml]; rfl) (Steps.refl _) (a := b) (argsL := [(.int y), (.int 4), (.int n66)]) (rest := [(.ref b)]) (lenOf pd_329 rfl) rfl (by show 2 * 0 + _ ≤ _; exact Nat.le_of_eq rfl) (hb hby d20_84) (fun _ _ => ⟨rfl, e65, (by decide : 1 + 0 ≤ _), (by decide : 3 + 0 ≤ _)⟩)
              dsimp only [Pt.U, Pt.locs, Pt.cells, Pt.slots] at X68 l68 y68 z68 st68 hQ68
              subst l68 y68 z68
              obtain ⟨rfl, N68q, K68, Q68_0, Q68_1, Q68_2, Q68_3⟩ := hQ68
              have N68 := Fr.app N44 N68q
              refine Go.to st68 ?_
              show Go _ _ _ _ T68 (mkF m 87 #[rv a, .val (.long x), .second, .val (.long n5), .second, .val (.long n46), .second] [(.ref b)])
              have F69 : Keep h0 h61 [] := (Keep.refl h0 []).ext E61
              have F70 : Keep h0 T68.heap [] := F69.trans K68 (allS (Or.inr sz_b) all0)
              exact Go.retA X68 hx Bd.notSynchronized Bd.returns rfl rfl (hb hby d20_87) ⟨b, y, (4 : Int32), n66, rfl, N68, F70, Q68_0, Q68_1, Q68_2, Q68_3, by rw [own_edd _ _ dy.toInt]; omega, ⟨by omega, by omega⟩, ⟨by omega, by omega⟩, ⟨by omega, by omega⟩, fun q => absurd q hx0⟩ (by decide) (by decide)
      · refine Go.ifN 30 X3 hx (hb hby d20_27) (XT.ll_gt_f hb8) rfl ?_
        have i_hb8 := o_nlt64 hb8
        obtain ⟨b, g71⟩ : ∃ z, z = h0.size := ⟨_, rfl⟩
        have ge_b : n0 ≤ b := Nat.le_trans Z0 (Nat.le_of_eq g71.symm)
        have sz_b : h0.size ≤ b := Nat.le_trans (Keep.refl h0 []).1 (Nat.le_of_eq g71.symm)
        have ne_a_b : a ≠ b := Nat.ne_of_lt (Nat.lt_of_lt_of_le E_a.lt (Nat.le_of_eq g71.symm))
        obtain ⟨T71, h71, X71, e71, E71, A71, D71, -, st71⟩ := newO X3 hx hZ hown (ow hw 109 rfl) (ow hw 110 rfl) (ow hw 63 rfl) e3 (g := (mkF m 30 #[rv a, .val (.long x), .second, .val (.long n5), .second, un, un] [])) rfl (hb hby d20_30) (by decide) (by decide)
        rw [← g71] at A71 D71 st71
        have F_year_b : Fld Z h71 b "java/time/LocalDate" "year" "I" (.int 0) := D71 (Or.inr (ow hw 117 rfl)) (ty := .int) (by decide)
        have F_month_b : Fld Z h71 b "java/time/LocalDate" "month" "S" (.int 0) := D71 (Or.inr (ow hw 119 rfl)) (ty := .short) (by decide)
        have F_day_b : Fld Z h71 b "java/time/LocalDate" "day" "S" (.int 0) := D71 (Or.inr (ow hw 121 rfl)) (ty := .short) (by decide)
        refine Go.by st71 ?_
        show Go _ _ _ _ T71 (mkF m 33 #[rv a, .val (.long x), .second, .val (.long n5), .second, un, un] [(.ref b)])
        refine Go.dup 34 X71 hx (hb hby d20_33) rfl rfl ?_
        refine Go.aload1 35 X71 hx (hb hby d20_34) rfl rfl rfl ?_
        have F72 : Fld Z h71 a "java/time/LocalDate" "year" "I" (.int y) := F_a_year.ext E71
        obtain ⟨T73, X73, e73, st73⟩ := getF X71 hx hZ hown (host := "") (Or.inl (ow hw 116 rfl)) Via.refl e71 F72 (g := (mkF m 35 #[rv a, .val (.long x), .second, .val (.long n5), .second, un, un] [(.ref a), (.ref b), (.ref b)])) rfl rfl (hb hby d20_35)
        refine Go.by st73 ?_
        show Go _ _ _ _ T73 (mkF m 38 #[rv a, .val (.long x), .second, .val (.long n5), .second, un, un] [(.int y), (.ref b), (.ref b)])
        refine Go.aload1 39 X73 hx (hb hby d20_38) rfl rfl rfl ?_
        have F74 : Fld Z h71 a "java/time/LocalDate" "month" "S" (.int mo) := F_a_month.ext E71
        obtain ⟨T75, X75, e75, st75⟩ := getF X73 hx hZ hown (host := "") (Or.inl (ow hw 118 rfl)) Via.refl e73 F74 (g := (mkF m 39 #[rv a, .val (.long x), .second, .val (.long n5), .second, un, un] [(.ref a), (.int y), (.ref b), (.ref b)])) rfl rfl (hb hby d20_39)
        refine Go.by st75 ?_
        show Go _ _ _ _ T75 (mkF m 42 #[rv a, .val (.long x), .second, .val (.long n5), .second, un, un] [(.int mo), (.int y), (.ref b), (.ref b)])
        refine Go.lload1 43 X75 hx (hb hby d20_42) rfl rfl ?_
        refine Go.l2i 44 X75 hx (hb hby d20_43) rfl ?_
        obtain ⟨n76, h_n76⟩ : ∃ z, z = (n5.toInt32) := ⟨_, rfl⟩
        rw [← h_n76]
        show Go _ _ _ _ T75 (mkF m 44 #[rv a, .val (.long x), .second, .val (.long n5), .second, un, un] [(.int n76), (.int mo), (.int y), (.ref b), (.ref b)])
        have e_n76 : n76.toInt = n5.toInt := by rw [h_n76]; exact x_l2i (by omega) (by omega)
        have F77 : n0 ≤ h71.size := Nat.le_trans Z0 E71.1
        obtain ⟨_, _, ⟨T78, L78, k78, n78⟩, -, X78, ⟨Lc78, hQ78, l78, y78, z78⟩, st78⟩ := X75.specialBack hx (y := (⟨"java/time/LocalDate", "<init>", "(III)V"⟩ : MethodName)) rfl hown (mvT hZ (ow hw 111 rfl)) (mvT hZ (ow hw 112 rfl)) (mvT hZ (ow hw 114 rfl)) (by decide) (backOf (W := 1) (rmLd l Z a0 hw [] b y mo n76 h71 n0 F77 A71 F_year_b F_month_b F_day_b ge_b (⟨by omega, by omega⟩) (⟨by omega, by omega⟩)) hZ (ow hw 114 rfl) (ow hw 63 rfl) (by decide) (by decide)) (g := (mkF m 44 #[rv a, .val (.long x), .second, .val (.long n5), .second, un, un] [(.int n76), (.int mo), (.int y), (.ref b), (.ref b)])) rfl (by rw [hml]; rfl) (Steps.refl _) (a := b) (argsL := [(.int y), (.int mo), (.int n76)]) (rest := [(.ref b)]) (lenOf pd_329 rfl) rfl (by show 2 * 0 + _ ≤ _; exact Nat.le_of_eq rfl) (hb hby d20_44) (fun _ _ => ⟨rfl, e75, (by decide : 1 + 0 ≤ _), (by decide : 3 + 0 ≤ _)⟩)
        dsimp only [Pt.U, Pt.locs, Pt.cells, Pt.slots] at X78 l78 y78 z78 st78 hQ78
        subst l78 y78 z78
        obtain ⟨rfl, N78q, K78, Q78_0, Q78_1, Q78_2, Q78_3⟩ := hQ78
        have N78 := Fr.app N0 N78q
        refine Go.to st78 ?_
        show Go _ _ _ _ T78 (mkF m 47 #[rv a, .val (.long x), .second, .val (.long n5), .second, un, un] [(.ref b)])
        have F79 : Keep h0 h71 [] := (Keep.refl h0 []).ext E71
        have F80 : Keep h0 T78.heap [] := F79.trans K78 (allS (Or.inr sz_b) all0)
        exact Go.retA X78 hx Bd.notSynchronized Bd.returns rfl rfl (hb hby d20_47) ⟨b, y, mo, n76, rfl, N78, F80, Q78_0, Q78_1, Q78_2, Q78_3, by rw [own_edd _ _ dy.toInt]; omega, ⟨by omega, by omega⟩, ⟨by omega, by omega⟩, ⟨by omega, by omega⟩, fun q => absurd q hx0⟩ (by decide) (by decide)
    · refine Go.ifY 154 X3 hx (hb hby d20_19) (XT.ll_le_t hb6) (by decide) (by decide) ?_
      have i_hb6 := o_nlt64 hb6
      have hr2 := own_edR hy hmb hdb
      clear i_hb2 e_n4 e_n5 i_hb6
      refine Go.aload1 155 X3 hx (hb hby d20_154) rfl rfl rfl ?_
      obtain ⟨cq81, kq81, q81a, q81b, q81c⟩ := isOf hZ e3 E_a
      obtain ⟨_, _, ⟨T81, L81, k81, n81⟩, -, X81, ⟨Lc81, hQ81, l81, y81, z81⟩, st81⟩ := X3.virtualBack hx (y := (⟨"java/time/LocalDate", "toEpochDay", "()J"⟩ : MethodName)) (z := (⟨"java/time/LocalDate", "toEpochDay", "()J"⟩ : MethodName)) hown (mvT hZ (ow hw 191 rfl)) (mvT hZ (ow hw 129 rfl)) (notFace_of_selects (args := #[]) (mvT hZ (ow hw 131 rfl))) (mvT hZ (ow hw 131 rfl)) (mvT hZ (ow hw 130 rfl)) (by decide) (backOf (W := 0) (rmTed l Z a0 hw [] a y mo dy cY vY cM vM cD vD cE vE ic h0 n0 Z0 O0 E_a F_a_year F_a_month F_a_day (⟨by omega, by omega⟩) (⟨by omega, by omega⟩) (⟨by omega, by omega⟩) Dc0 Dc1 Dc2 Dc3 Dc4 Dc5 Dc6 Dc7 Dc8 Dc9 Dc10 Dc11 Dc12 Dc13 Dc14 Dc15 Dc16 Dc17 Dc18 Dc19 Dc20 Dc21 Dc22 Dc23 Dc24 Dc25) hZ (ow hw 132 rfl) (ow hw 63 rfl) (by decide) (by decide)) q81a q81c (g := (mkF m 155 #[rv a, .val (.long x), .second, .val (.long n5), .second, un, un] [(.ref a)])) rfl (by rw [hml]; rfl) (Steps.refl _) (argsL := []) (rest := []) (lenOf pd_14 rfl) rfl (by show 2 * 0 + _ ≤ _; exact Nat.le_of_eq rfl) (hb hby d20_155) (fun _ _ => ⟨rfl, e3, (by decide : 0 + 0 ≤ _), (by decide : 0 + 0 ≤ _)⟩)
      dsimp only [Pt.U, Pt.locs, Pt.cells, Pt.slots] at X81 l81 y81 z81 st81 hQ81
      subst l81 y81 z81
      obtain ⟨r, rfl, N81q, e81, Q81_0⟩ := hQ81
      have N81 := Fr.app N0 N81q
      refine Go.to st81 ?_
      show Go _ _ _ _ T81 (mkF m 158 #[rv a, .val (.long x), .second, .val (.long n5), .second, un, un] [(.long r)])
      have hr := Q81_0
      refine Go.lload1 159 X81 hx (hb hby d20_158) rfl rfl ?_
      obtain ⟨_, _, ⟨T82, L82, k82, n82⟩, -, X82, ⟨Lc82, hQ82, l82, y82, z82⟩, st82⟩ := Jvm.LawKit.callS X81 hx (y := (⟨"java/lang/Math", "addExact", "(JJ)J"⟩ : MethodName)) hown (mvT hZ (ow hw 192 rfl)) (mvT hZ (ow hw 193 rfl)) (mvT hZ (ow hw 194 rfl)) (mvT hZ (ow hw 195 rfl)) (by decide) (backOf (W := 0) (rmAdx l Z a0 hw [] r x h0 n0 Z0 (⟨by omega, by omega⟩) (⟨by omega, by omega⟩)) hZ (ow hw 195 rfl) (ow hw 194 rfl) (by decide) (by decide)) (g := (mkF m 159 #[rv a, .val (.long x), .second, .val (.long n5), .second, un, un] [(.long x), (.long r)])) rfl (by rw [hml]; rfl) (argsL := [(.long r), (.long x)]) (rest := []) (lenOf pd_536 rfl) rfl (by show 2 * 0 + _ ≤ _; exact Nat.le_of_eq rfl) (hb hby d20_159) (fun _ _ => ⟨rfl, e81, (by decide : 0 + 0 ≤ _), (by decide : 0 + 0 ≤ _)⟩)
      dsimp only [Pt.U, Pt.locs, Pt.cells, Pt.slots] at X82 l82 y82 z82 st82 hQ82
      subst l82 y82 z82
      obtain ⟨sm, rfl, N82q, e82, Q82_0⟩ := hQ82
      have N82 := Fr.app N81 N82q
      refine Go.by st82 ?_
      show Go _ _ _ _ T82 (mkF m 162 #[rv a, .val (.long x), .second, .val (.long n5), .second, un, un] [(.long sm)])
      have hsm := Q82_0
      refine Go.lstore2 164 X82 hx (L' := #[rv a, .val (.long x), .second, .val (.long n5), .second, .val (.long sm), .second]) (hb hby d20_162) rfl rfl ?_
      refine Go.lload2 166 X82 hx (hb hby d20_164) rfl rfl ?_
      obtain ⟨_, _, ⟨T83, L83, k83, n83⟩, -, X83, ⟨Lc83, hQ83, l83, y83, z83⟩, st83⟩ := Jvm.LawKit.callS X82 hx (y := (⟨"java/time/LocalDate", "ofEpochDay", "(J)Ljava/time/LocalDate;"⟩ : MethodName)) hown (mvT hZ (ow hw 196 rfl)) (mvT hZ (ow hw 197 rfl)) (mvT hZ (ow hw 63 rfl)) (mvT hZ (ow hw 198 rfl)) (by decide) (backOf (W := 0) (rmOf l Z a0 hw [] sm cY vY cM vM cD vD cE vE ic h0 n0 Z0 O0 (⟨by omega, by omega⟩) Dc0 Dc1 Dc2 Dc3 Dc4 Dc5 Dc6 Dc7 Dc8 Dc9 Dc10 Dc11 Dc12 Dc13 Dc14 Dc15 Dc16 Dc17 Dc18 Dc19 Dc20 Dc21 Dc22 Dc23 Dc24 Dc25) hZ (ow hw 198 rfl) (ow hw 63 rfl) (by decide) (by decide)) (g := (mkF m 166 #[rv a, .val (.long x), .second, .val (.long n5), .second, .val (.long sm), .second] [(.long sm)])) rfl (by rw [hml]; rfl) (argsL := [(.long sm)]) (rest := []) (lenOf pd_540 rfl) rfl (by show 2 * 0 + _ ≤ _; exact Nat.le_of_eq rfl) (hb hby d20_166) (fun _ _ => ⟨rfl, e82, (by decide : 0 + 1 ≤ _), (by decide : 0 + 3 ≤ _)⟩)
      dsimp only [Pt.U, Pt.locs, Pt.cells, Pt.slots] at X83 l83 y83 z83 st83 hQ83
      subst l83 y83 z83
      obtain ⟨b, y2, m2, d2, rfl, N83q, K83, Q83_0, Q83_1, Q83_2, Q83_3, Q83_4, Q83_5, Q83_6, Q83_7⟩ := hQ83
      have N83 := Fr.app N82 N83q
      refine Go.by st83 ?_
      show Go _ _ _ _ T83 (mkF m 169 #[rv a, .val (.long x), .second, .val (.long n5), .second, .val (.long sm), .second] [(.ref b)])
      have F84 : Keep h0 T83.heap [] := (Keep.refl h0 []).trans K83 all0
      exact Go.retA X83 hx Bd.notSynchronized Bd.returns rfl rfl (hb hby d20_169) ⟨b, y2, m2, d2, rfl, N83, F84, Q83_0, Q83_1, Q83_2, Q83_3, by rw [Q83_4]; omega, Q83_5, Q83_6, Q83_7, fun q => absurd q hx0⟩ (by decide) (by decide)
theorem ef_590 (m : MethodId) (x0 : Addr) (x1 : Addr) (x3 : Int32) (x5 : Int32) (x6 : Int32) : entryFrame m #[(.ref x0), (.ref x1), .null, (.int x3), .null, (.int x5), (.int x6)] 7 = mkF m 0 #[rv x0, rv x1, .val .null, iv x3, .val .null, iv x5, iv x6] [] := by (first | (simp [entryFrame, mkF, argsToLocals, Value.category]; done) | rfl)
theorem d8_0 : decode prog_25_method_1_code 0 = .ok (.aload_n 0, 1) := by decide +kernel
theorem d8_1 : decode prog_25_method_1_code 1 = .ok (.invokespecial 1, 3) := by decide +kernel
theorem d8_4 : decode prog_25_method_1_code 4 = .ok (.aload_n 0, 1) := by decide +kernel
theorem d8_5 : decode prog_25_method_1_code 5 = .ok (.aload_n 1, 1) := by decide +kernel
theorem d8_6 : decode prog_25_method_1_code 6 = .ok (.putfield 7, 3) := by decide +kernel
theorem d8_9 : decode prog_25_method_1_code 9 = .ok (.aload_n 0, 1) := by decide +kernel
theorem d8_10 : decode prog_25_method_1_code 10 = .ok (.aload_n 2, 1) := by decide +kernel
theorem d8_11 : decode prog_25_method_1_code 11 = .ok (.putfield 13, 3) := by decide +kernel
theorem d8_14 : decode prog_25_method_1_code 14 = .ok (.aload_n 0, 1) := by decide +kernel
theorem d8_15 : decode prog_25_method_1_code 15 = .ok (.iload_n 3, 1) := by decide +kernel
theorem d8_16 : decode prog_25_method_1_code 16 = .ok (.putfield 17, 3) := by decide +kernel
theorem d8_19 : decode prog_25_method_1_code 19 = .ok (.aload_n 0, 1) := by decide +kernel
theorem d8_20 : decode prog_25_method_1_code 20 = .ok (.aload 4, 2) := by decide +kernel
theorem d8_22 : decode prog_25_method_1_code 22 = .ok (.putfield 21, 3) := by decide +kernel
theorem d8_25 : decode prog_25_method_1_code 25 = .ok (.aload_n 0, 1) := by decide +kernel
theorem d8_26 : decode prog_25_method_1_code 26 = .ok (.iload 5, 2) := by decide +kernel
theorem d8_28 : decode prog_25_method_1_code 28 = .ok (.putfield 25, 3) := by decide +kernel
theorem d8_31 : decode prog_25_method_1_code 31 = .ok (.aload_n 0, 1) := by decide +kernel
theorem d8_32 : decode prog_25_method_1_code 32 = .ok (.iload 6, 2) := by decide +kernel
theorem d8_34 : decode prog_25_method_1_code 34 = .ok (.putfield 28, 3) := by decide +kernel
theorem d8_37 : decode prog_25_method_1_code 37 = .ok (.return_, 1) := by decide +kernel
def Q_rmHo (Z : State) (ho : Addr) (st : Addr) (dd : Int32) (h0 : Heap) (n0 : Nat) (v : Option Value) (h : Heap) (L : List Loc) : Prop := v = none ∧ Fr n0 L ∧ Keep h0 h [ho] ∧ Exa Z h ho "com/example/diligent_tariff/diligenttariff/book/Holiday" ∧ Fld Z h ho "com/example/diligent_tariff/diligenttariff/book/Holiday" "name" "Ljava/lang/String;" (.ref st) ∧ Fld Z h ho "com/example/diligent_tariff/diligenttariff/book/Holiday" "month" "Ljava/time/Month;" .null ∧ Fld Z h ho "com/example/diligent_tariff/diligenttariff/book/Holiday" "daysFromEaster" "I" (.int dd)
set_option maxRecDepth 65536 in
set_option maxHeartbeats 40000000 in
theorem rmHo (l : Launch) (Z : State) (a0 : Array Value) (hw : ∀ d ∈ tables_1, d.before a0 Z = true) (ws : List Jvm.Cond) (ho : Addr) (st : Addr) (dd : Int32) (h0 : Heap) (n0 : Nat) (Z0 : n0 ≤ h0.size) (E_ho : Exa Z h0 ho "com/example/diligent_tariff/diligenttariff/book/Holiday") (F_ho_name : Fld Z h0 ho "com/example/diligent_tariff/diligenttariff/book/Holiday" "name" "Ljava/lang/String;" .null) (F_ho_month : Fld Z h0 ho "com/example/diligent_tariff/diligenttariff/book/Holiday" "month" "Ljava/time/Month;" .null) (F_ho_daysFromEaster : Fld Z h0 ho "com/example/diligent_tariff/diligenttariff/book/Holiday" "daysFromEaster" "I" (.int 0)) (F_ho_day : Fld Z h0 ho "com/example/diligent_tariff/diligenttariff/book/Holiday" "day" "I" (.int 0)) (F_ho_weekday : Fld Z h0 ho "com/example/diligent_tariff/diligenttariff/book/Holiday" "weekday" "Ljava/time/DayOfWeek;" .null) (F_ho_week : Fld Z h0 ho "com/example/diligent_tariff/diligenttariff/book/Holiday" "week" "I" (.int 0)) (g_ho : n0 ≤ ho) :
    MetFree l (⟨"com/example/diligent_tariff/diligenttariff/book/Holiday", "<init>", "(Ljava/lang/String;Ljava/time/Month;ILjava/time/DayOfWeek;II)V"⟩ : MethodName) (head1 (Jvm.Cond.code (⟨"com/example/diligent_tariff/diligenttariff/book/Holiday", "<init>", "(Ljava/lang/String;Ljava/time/Month;ILjava/time/DayOfWeek;II)V"⟩ : MethodName) prog_25_method_1_code 7 none :: ws) ({ frames := 1, cells := 0, slots := 0, locals := 12 } : Room)) (fun as' U => as' = #[(.ref ho), (.ref st), .null, (.int 0), .null, (.int 0), (.int dd)] ∧ Z.Warmed39 U.vm ∧ U.heap = h0) (fun _ _ _ _ _ => True) (fun _ U o U' => ∃ v L, o = .returned v ∧ Q_rmHo Z ho st dd h0 n0 v U'.heap L ∧ FrameEnd U o U' L ({ frames := 1, cells := 0, slots := 0, locals := 12 } : Room).cells ({ frames := 1, cells := 0, slots := 0, locals := 12 } : Room).slots) := by
  refine MetFree.of_bodySF (plainFor_of_name pn_376) hisR ?_
  intro p e s m args below meth c s₁ Bd hml0 hP hK
  obtain ⟨rfl, hZ, hh⟩ := hP
  have hx := Bd.exec
  have hby := Bd.bytes
  have hml : c.maxLocals = 7 := hml0
  have hown : s.vm.findClass "com/example/diligent_tariff/diligenttariff/book/Holiday" = some m.cls := findClass_of_methodNamed Bd.named
  have hnm := (name_of_methodNamed Bd.named Bd.method).1
  have X0 : Stand p l e ({ frames := 1, cells := 0, slots := 0, locals := 12 } : Room) s m #[(.ref ho), (.ref st), .null, (.int 0), .null, (.int 0), (.int dd)] below meth c s₁ [] 0 0 := Stand.of_body Bd
  have e0 : s₁.heap = h0 := by rw [← hh, Bd.state]; rfl
  have N0 := Fr.nil n0
  refine Go.enter (F := EndN s (Q_rmHo Z ho st dd h0 n0) ({ frames := 1, cells := 0, slots := 0, locals := 12 } : Room).cells ({ frames := 1, cells := 0, slots := 0, locals := 12 } : Room).slots) (ef_590 m ho st (0 : Int32) (0 : Int32) dd) ?_
  show Go _ _ _ _ s₁ (mkF m 0 #[rv ho, rv st, .val .null, iv 0, .val .null, iv 0, iv dd] [])
  refine Go.aload1 1 X0 hx (hb hby d8_0) rfl rfl rfl ?_
  obtain ⟨T1, X1, e1, st1⟩ := initO X0 hx hZ hown (ow hw 40 rfl) (ow hw 12 rfl) (ow hw 13 rfl) e0 (g := (mkF m 1 #[rv ho, rv st, .val .null, iv 0, .val .null, iv 0, iv dd] [(.ref ho)])) rfl (by rw [hml]; rfl) rfl (hb hby d8_1) (by decide) (W := 0) (by show 2 * 0 + _ ≤ _; exact Nat.le_of_eq rfl) (by decide)
  refine Go.by st1 ?_
  show Go _ _ _ _ T1 (mkF m 4 #[rv ho, rv st, .val .null, iv 0, .val .null, iv 0, iv dd] [])
  refine Go.aload1 5 X1 hx (hb hby d8_4) rfl rfl rfl ?_
  refine Go.aload1 6 X1 hx (hb hby d8_5) rfl rfl rfl ?_
  obtain ⟨T2, h2, X2, e2, W2, st2⟩ := putF X1 hx hZ hown (host := "") (Or.inl (ow hw 41 rfl)) Via.refl e1 F_ho_name E_ho (Or.inr ⟨(ow hw 42 rfl), rfl, hnm⟩) (ow hw 36 rfl) (ty := (.object "java/lang/String")) (by decide) rfl rfl (g := (mkF m 6 #[rv ho, rv st, .val .null, iv 0, .val .null, iv 0, iv dd] [(.ref st), (.ref ho)])) rfl rfl (hb hby d8_6)
  have N2 := Fr.snoc X2 N0 g_ho
  have Fw2 : Fld Z h2 ho "com/example/diligent_tariff/diligenttariff/book/Holiday" "name" "Ljava/lang/String;" (.ref st) := F_ho_name.same W2
  refine Go.by st2 ?_
  show Go _ _ _ _ T2 (mkF m 9 #[rv ho, rv st, .val .null, iv 0, .val .null, iv 0, iv dd] [])
  refine Go.aload1 10 X2 hx (hb hby d8_9) rfl rfl rfl ?_
  refine Go.aload1 11 X2 hx (hb hby d8_10) rfl rfl rfl ?_
  have F3 : Fld Z h2 ho "com/example/diligent_tariff/diligenttariff/book/Holiday" "month" "Ljava/time/Month;" .null := F_ho_month.other W2 (Or.inr (slot_ne (Or.inr (ow hw 44 rfl)) (Or.inr (ow hw 42 rfl)) (by decide) (t := (.object "java/time/Month")) (t' := (.object "java/lang/String")) (by decide) (by decide)))
  have F4 : Exa Z h2 ho "com/example/diligent_tariff/diligenttariff/book/Holiday" := E_ho.wr W2
  obtain ⟨T5, h5, X5, e5, W5, st5⟩ := putF X2 hx hZ hown (host := "") (Or.inl (ow hw 43 rfl)) Via.refl e2 F3 F4 (Or.inr ⟨(ow hw 44 rfl), rfl, hnm⟩) (ow hw 36 rfl) (ty := (.object "java/time/Month")) (by decide) rfl rfl (g := (mkF m 11 #[rv ho, rv st, .val .null, iv 0, .val .null, iv 0, iv dd] [.null, (.ref ho)])) rfl rfl (hb hby d8_11)
  have N5 := Fr.snoc X5 N2 g_ho
  have Fw5 : Fld Z h5 ho "com/example/diligent_tariff/diligenttariff/book/Holiday" "month" "Ljava/time/Month;" .null := F3.same W5
  refine Go.by st5 ?_
  show Go _ _ _ _ T5 (mkF m 14 #[rv ho, rv st, .val .null, iv 0, .val .null, iv 0, iv dd] [])
  refine Go.aload1 15 X5 hx (hb hby d8_14) rfl rfl rfl ?_
  refine Go.iload1 16 X5 hx (hb hby d8_15) rfl rfl ?_
  have F6 : Fld Z h2 ho "com/example/diligent_tariff/diligenttariff/book/Holiday" "day" "I" (.int 0) := F_ho_day.other W2 (Or.inr (slot_ne (Or.inr (ow hw 46 rfl)) (Or.inr (ow hw 42 rfl)) (by decide) (t := .int) (t' := (.object "java/lang/String")) (by decide) (by decide)))
  have F7 : Fld Z h5 ho "com/example/diligent_tariff/diligenttariff/book/Holiday" "day" "I" (.int 0) := F6.other W5 (Or.inr (slot_ne (Or.inr (ow hw 46 rfl)) (Or.inr (ow hw 44 rfl)) (by decide) (t := .int) (t' := (.object "java/time/Month")) (by decide) (by decide)))
  have F8 : Exa Z h5 ho "com/example/diligent_tariff/diligenttariff/book/Holiday" := F4.wr W5
  obtain ⟨T9, h9, X9, e9, W9, st9⟩ := putF X5 hx hZ hown (host := "") (Or.inl (ow hw 45 rfl)) Via.refl e5 F7 F8 (Or.inr ⟨(ow hw 46 rfl), rfl, hnm⟩) (ow hw 36 rfl) (ty := .int) (by decide) rfl rfl (g := (mkF m 16 #[rv ho, rv st, .val .null, iv 0, .val .null, iv 0, iv dd] [(.int 0), (.ref ho)])) rfl rfl (hb hby d8_16)
  have N9 := Fr.snoc X9 N5 g_ho
  have Fw9 : Fld Z h9 ho "com/example/diligent_tariff/diligenttariff/book/Holiday" "day" "I" (.int 0) := F7.same W9
  refine Go.by st9 ?_
  show Go _ _ _ _ T9 (mkF m 19 #[rv ho, rv st, .val .null, iv 0, .val .null, iv 0, iv dd] [])
  refine Go.aload1 20 X9 hx (hb hby d8_19) rfl rfl rfl ?_
  refine Go.aload2 22 X9 hx (hb hby d8_20) rfl rfl rfl ?_
  have F10 : Fld Z h2 ho "com/example/diligent_tariff/diligenttariff/book/Holiday" "weekday" "Ljava/time/DayOfWeek;" .null := F_ho_weekday.other W2 (Or.inr (slot_ne (Or.inr (ow hw 48 rfl)) (Or.inr (ow hw 42 rfl)) (by decide) (t := (.object "java/time/DayOfWeek")) (t' := (.object "java/lang/String")) (by decide) (by decide)))
  have F11 : Fld Z h5 ho "com/example/diligent_tariff/diligenttariff/book/Holiday" "weekday" "Ljava/time/DayOfWeek;" .null := F10.other W5 (Or.inr (slot_ne (Or.inr (ow hw 48 rfl)) (Or.inr (ow hw 44 rfl)) (by decide) (t := (.object "java/time/DayOfWeek")) (t' := (.object "java/time/Month")) (by decide) (by decide)))
  have F12 : Fld Z h9 ho "com/example/diligent_tariff/diligenttariff/book/Holiday" "weekday" "Ljava/time/DayOfWeek;" .null := F11.other W9 (Or.inr (slot_ne (Or.inr (ow hw 48 rfl)) (Or.inr (ow hw 46 rfl)) (by decide) (t := (.object "java/time/DayOfWeek")) (t' := .int) (by decide) (by decide)))
  have F13 : Exa Z h9 ho "com/example/diligent_tariff/diligenttariff/book/Holiday" := F8.wr W9
  obtain ⟨T14, h14, X14, e14, W14, st14⟩ := putF X9 hx hZ hown (host := "") (Or.inl (ow hw 47 rfl)) Via.refl e9 F12 F13 (Or.inr ⟨(ow hw 48 rfl), rfl, hnm⟩) (ow hw 36 rfl) (ty := (.object "java/time/DayOfWeek")) (by decide) rfl rfl (g := (mkF m 22 #[rv ho, rv st, .val .null, iv 0, .val .null, iv 0, iv dd] [.null, (.ref ho)])) rfl rfl (hb hby d8_22)
  have N14 := Fr.snoc X14 N9 g_ho
  have Fw14 : Fld Z h14 ho "com/example/diligent_tariff/diligenttariff/book/Holiday" "weekday" "Ljava/time/DayOfWeek;" .null := F12.same W14
  refine Go.by st14 ?_
  show Go _ _ _ _ T14 (mkF m 25 #[rv ho, rv st, .val .null, iv 0, .val .null, iv 0, iv dd] [])
  refine Go.aload1 26 X14 hx (hb hby d8_25) rfl rfl rfl ?_
  refine Go.iload2 28 X14 hx (hb hby d8_26) rfl rfl ?_
  have F15 : Fld Z h2 ho "com/example/diligent_tariff/diligenttariff/book/Holiday" "week" "I" (.int 0) := F_ho_week.other W2 (Or.inr (slot_ne (Or.inr (ow hw 50 rfl)) (Or.inr (ow hw 42 rfl)) (by decide) (t := .int) (t' := (.object "java/lang/String")) (by decide) (by decide)))
  have F16 : Fld Z h5 ho "com/example/diligent_tariff/diligenttariff/book/Holiday" "week" "I" (.int 0) := F15.other W5 (Or.inr (slot_ne (Or.inr (ow hw 50 rfl)) (Or.inr (ow hw 44 rfl)) (by decide) (t := .int) (t' := (.object "java/time/Month")) (by decide) (by decide)))
  have F17 : Fld Z h9 ho "com/example/diligent_tariff/diligenttariff/book/Holiday" "week" "I" (.int 0) := F16.other W9 (Or.inr (slot_ne (Or.inr (ow hw 50 rfl)) (Or.inr (ow hw 46 rfl)) (by decide) (t := .int) (t' := .int) (by decide) (by decide)))
  have F18 : Fld Z h14 ho "com/example/diligent_tariff/diligenttariff/book/Holiday" "week" "I" (.int 0) := F17.other W14 (Or.inr (slot_ne (Or.inr (ow hw 50 rfl)) (Or.inr (ow hw 48 rfl)) (by decide) (t := .int) (t' := (.object "java/time/DayOfWeek")) (by decide) (by decide)))
  have F19 : Exa Z h14 ho "com/example/diligent_tariff/diligenttariff/book/Holiday" := F13.wr W14
  obtain ⟨T20, h20, X20, e20, W20, st20⟩ := putF X14 hx hZ hown (host := "") (Or.inl (ow hw 49 rfl)) Via.refl e14 F18 F19 (Or.inr ⟨(ow hw 50 rfl), rfl, hnm⟩) (ow hw 36 rfl) (ty := .int) (by decide) rfl rfl (g := (mkF m 28 #[rv ho, rv st, .val .null, iv 0, .val .null, iv 0, iv dd] [(.int 0), (.ref ho)])) rfl rfl (hb hby d8_28)
  have N20 := Fr.snoc X20 N14 g_ho
  have Fw20 : Fld Z h20 ho "com/example/diligent_tariff/diligenttariff/book/Holiday" "week" "I" (.int 0) := F18.same W20
  refine Go.by st20 ?_
  show Go _ _ _ _ T20 (mkF m 31 #[rv ho, rv st, .val .null, iv 0, .val .null, iv 0, iv dd] [])
  refine Go.aload1 32 X20 hx (hb hby d8_31) rfl rfl rfl ?_
  refine Go.iload2 34 X20 hx (hb hby d8_32) rfl rfl ?_
  have F21 : Fld Z h2 ho "com/example/diligent_tariff/diligenttariff/book/Holiday" "daysFromEaster" "I" (.int 0) := F_ho_daysFromEaster.other W2 (Or.inr (slot_ne (Or.inr (ow hw 52 rfl)) (Or.inr (ow hw 42 rfl)) (by decide) (t := .int) (t' := (.object "java/lang/String")) (by decide) (by decide)))
  have F22 : Fld Z h5 ho "com/example/diligent_tariff/diligenttariff/book/Holiday" "daysFromEaster" "I" (.int 0) := F21.other W5 (Or.inr (slot_ne (Or.inr (ow hw 52 rfl)) (Or.inr (ow hw 44 rfl)) (by decide) (t := .int) (t' := (.object "java/time/Month")) (by decide) (by decide)))
  have F23 : Fld Z h9 ho "com/example/diligent_tariff/diligenttariff/book/Holiday" "daysFromEaster" "I" (.int 0) := F22.other W9 (Or.inr (slot_ne (Or.inr (ow hw 52 rfl)) (Or.inr (ow hw 46 rfl)) (by decide) (t := .int) (t' := .int) (by decide) (by decide)))
  have F24 : Fld Z h14 ho "com/example/diligent_tariff/diligenttariff/book/Holiday" "daysFromEaster" "I" (.int 0) := F23.other W14 (Or.inr (slot_ne (Or.inr (ow hw 52 rfl)) (Or.inr (ow hw 48 rfl)) (by decide) (t := .int) (t' := (.object "java/time/DayOfWeek")) (by decide) (by decide)))
  have F25 : Fld Z h20 ho "com/example/diligent_tariff/diligenttariff/book/Holiday" "daysFromEaster" "I" (.int 0) := F24.other W20 (Or.inr (slot_ne (Or.inr (ow hw 52 rfl)) (Or.inr (ow hw 50 rfl)) (by decide) (t := .int) (t' := .int) (by decide) (by decide)))
  have F26 : Exa Z h20 ho "com/example/diligent_tariff/diligenttariff/book/Holiday" := F19.wr W20
  obtain ⟨T27, h27, X27, e27, W27, st27⟩ := putF X20 hx hZ hown (host := "") (Or.inl (ow hw 51 rfl)) Via.refl e20 F25 F26 (Or.inr ⟨(ow hw 52 rfl), rfl, hnm⟩) (ow hw 36 rfl) (ty := .int) (by decide) rfl rfl (g := (mkF m 34 #[rv ho, rv st, .val .null, iv 0, .val .null, iv 0, iv dd] [(.int dd), (.ref ho)])) rfl rfl (hb hby d8_34)
  have N27 := Fr.snoc X27 N20 g_ho
  have Fw27 : Fld Z h27 ho "com/example/diligent_tariff/diligenttariff/book/Holiday" "daysFromEaster" "I" (.int dd) := F25.same W27
  refine Go.by st27 ?_
  show Go _ _ _ _ T27 (mkF m 37 #[rv ho, rv st, .val .null, iv 0, .val .null, iv 0, iv dd] [])
  have F28 : Keep h0 h2 [ho] := (Keep.refl h0 [ho]).wr W2 (Or.inl (List.mem_of_getElem? (i := 0) rfl))
  have F29 : Keep h0 h5 [ho] := F28.wr W5 (Or.inl (List.mem_of_getElem? (i := 0) rfl))
  have F30 : Keep h0 h9 [ho] := F29.wr W9 (Or.inl (List.mem_of_getElem? (i := 0) rfl))
  have F31 : Keep h0 h14 [ho] := F30.wr W14 (Or.inl (List.mem_of_getElem? (i := 0) rfl))
  have F32 : Keep h0 h20 [ho] := F31.wr W20 (Or.inl (List.mem_of_getElem? (i := 0) rfl))
  have F33 : Keep h0 h27 [ho] := F32.wr W27 (Or.inl (List.mem_of_getElem? (i := 0) rfl))
  have F34 : Exa Z h27 ho "com/example/diligent_tariff/diligenttariff/book/Holiday" := F26.wr W27
  have F35 : Fld Z h5 ho "com/example/diligent_tariff/diligenttariff/book/Holiday" "name" "Ljava/lang/String;" (.ref st) := Fw2.other W5 (Or.inr (slot_ne (Or.inr (ow hw 42 rfl)) (Or.inr (ow hw 44 rfl)) (by decide) (t := (.object "java/lang/String")) (t' := (.object "java/time/Month")) (by decide) (by decide)))
  have F36 : Fld Z h9 ho "com/example/diligent_tariff/diligenttariff/book/Holiday" "name" "Ljava/lang/String;" (.ref st) := F35.other W9 (Or.inr (slot_ne (Or.inr (ow hw 42 rfl)) (Or.inr (ow hw 46 rfl)) (by decide) (t := (.object "java/lang/String")) (t' := .int) (by decide) (by decide)))
  have F37 : Fld Z h14 ho "com/example/diligent_tariff/diligenttariff/book/Holiday" "name" "Ljava/lang/String;" (.ref st) := F36.other W14 (Or.inr (slot_ne (Or.inr (ow hw 42 rfl)) (Or.inr (ow hw 48 rfl)) (by decide) (t := (.object "java/lang/String")) (t' := (.object "java/time/DayOfWeek")) (by decide) (by decide)))
  have F38 : Fld Z h20 ho "com/example/diligent_tariff/diligenttariff/book/Holiday" "name" "Ljava/lang/String;" (.ref st) := F37.other W20 (Or.inr (slot_ne (Or.inr (ow hw 42 rfl)) (Or.inr (ow hw 50 rfl)) (by decide) (t := (.object "java/lang/String")) (t' := .int) (by decide) (by decide)))
  have F39 : Fld Z h27 ho "com/example/diligent_tariff/diligenttariff/book/Holiday" "name" "Ljava/lang/String;" (.ref st) := F38.other W27 (Or.inr (slot_ne (Or.inr (ow hw 42 rfl)) (Or.inr (ow hw 52 rfl)) (by decide) (t := (.object "java/lang/String")) (t' := .int) (by decide) (by decide)))
  have F40 : Fld Z h9 ho "com/example/diligent_tariff/diligenttariff/book/Holiday" "month" "Ljava/time/Month;" .null := Fw5.other W9 (Or.inr (slot_ne (Or.inr (ow hw 44 rfl)) (Or.inr (ow hw 46 rfl)) (by decide) (t := (.object "java/time/Month")) (t' := .int) (by decide) (by decide)))
  have F41 : Fld Z h14 ho "com/example/diligent_tariff/diligenttariff/book/Holiday" "month" "Ljava/time/Month;" .null := F40.other W14 (Or.inr (slot_ne (Or.inr (ow hw 44 rfl)) (Or.inr (ow hw 48 rfl)) (by decide) (t := (.object "java/time/Month")) (t' := (.object "java/time/DayOfWeek")) (by decide) (by decide)))
  have F42 : Fld Z h20 ho "com/example/diligent_tariff/diligenttariff/book/Holiday" "month" "Ljava/time/Month;" .null := F41.other W20 (Or.inr (slot_ne (Or.inr (ow hw 44 rfl)) (Or.inr (ow hw 50 rfl)) (by decide) (t := (.object "java/time/Month")) (t' := .int) (by decide) (by decide)))
  have F43 : Fld Z h27 ho "com/example/diligent_tariff/diligenttariff/book/Holiday" "month" "Ljava/time/Month;" .null := F42.other W27 (Or.inr (slot_ne (Or.inr (ow hw 44 rfl)) (Or.inr (ow hw 52 rfl)) (by decide) (t := (.object "java/time/Month")) (t' := .int) (by decide) (by decide)))
  exact Go.retV X27 hx Bd.notSynchronized Bd.returns (hb hby d8_37) (by rw [e27]; exact ⟨rfl, N27, F33, F34, F39, F43, Fw27⟩) (by decide) (by decide)
theorem ef_612 (m : MethodId) (x0 : Addr) (x1 : Int32) : entryFrame m #[(.ref x0), (.int x1)] 2 = mkF m 0 #[rv x0, iv x1] [] := by (first | (simp [entryFrame, mkF, argsToLocals, Value.category]; done) | rfl)
theorem d7_0 : decode prog_25_method_4_code 0 = .ok (.new 8, 3) := by decide +kernel
theorem d7_3 : decode prog_25_method_4_code 3 = .ok (.dup, 1) := by decide +kernel
theorem d7_4 : decode prog_25_method_4_code 4 = .ok (.aload_n 0, 1) := by decide +kernel
theorem d7_5 : decode prog_25_method_4_code 5 = .ok (.aconst_null, 1) := by decide +kernel
theorem d7_6 : decode prog_25_method_4_code 6 = .ok (.iconst 0, 1) := by decide +kernel
theorem d7_7 : decode prog_25_method_4_code 7 = .ok (.aconst_null, 1) := by decide +kernel
theorem d7_8 : decode prog_25_method_4_code 8 = .ok (.iconst 0, 1) := by decide +kernel
theorem d7_9 : decode prog_25_method_4_code 9 = .ok (.iload_n 1, 1) := by decide +kernel
theorem pd_621 : parseMethodDescriptor "(Ljava/lang/String;Ljava/time/Month;ILjava/time/DayOfWeek;II)V" = some ⟨[(.object "java/lang/String"), (.object "java/time/Month"), .int, (.object "java/time/DayOfWeek"), .int, .int], none⟩ := by decide +kernel
theorem d7_10 : decode prog_25_method_4_code 10 = .ok (.invokespecial 31, 3) := by decide +kernel
theorem d7_13 : decode prog_25_method_4_code 13 = .ok (.areturn, 1) := by decide +kernel
def Q_rmFrom (Z : State) (st : Addr) (dd : Int32) (h0 : Heap) (n0 : Nat) (v : Option Value) (h : Heap) (L : List Loc) : Prop := ∃ ho : Addr, v = some (.ref ho) ∧ Fr n0 L ∧ Keep h0 h [] ∧ Exa Z h ho "com/example/diligent_tariff/diligenttariff/book/Holiday" ∧ Fld Z h ho "com/example/diligent_tariff/diligenttariff/book/Holiday" "name" "Ljava/lang/String;" (.ref st) ∧ Fld Z h ho "com/example/diligent_tariff/diligenttariff/book/Holiday" "month" "Ljava/time/Month;" .null ∧ Fld Z h ho "com/example/diligent_tariff/diligenttariff/book/Holiday" "daysFromEaster" "I" (.int dd) ∧ h0.size ≤ ho
set_option maxRecDepth 65536 in
set_option maxHeartbeats 40000000 in
theorem rmFrom (l : Launch) (Z : State) (a0 : Array Value) (hw : ∀ d ∈ tables_1, d.before a0 Z = true) (ws : List Jvm.Cond) (st : Addr) (dd : Int32) (h0 : Heap) (n0 : Nat) (Z0 : n0 ≤ h0.size)  :
    MetFree l (⟨"com/example/diligent_tariff/diligenttariff/book/Holiday", "fromEaster", "(Ljava/lang/String;I)Lcom/example/diligent_tariff/diligenttariff/book/Holiday;"⟩ : MethodName) (head1 (Jvm.Cond.code (⟨"com/example/diligent_tariff/diligenttariff/book/Holiday", "fromEaster", "(Ljava/lang/String;I)Lcom/example/diligent_tariff/diligenttariff/book/Holiday;"⟩ : MethodName) prog_25_method_4_code 2 (some (.object "com/example/diligent_tariff/diligenttariff/book/Holiday")) :: ws) ({ frames := 2, cells := 1, slots := 6, locals := 31 } : Room)) (fun as' U => as' = #[(.ref st), (.int dd)] ∧ Z.Warmed39 U.vm ∧ U.heap = h0) (fun _ _ _ _ _ => True) (fun _ U o U' => ∃ v L, o = .returned v ∧ Q_rmFrom Z st dd h0 n0 v U'.heap L ∧ FrameEnd U o U' L ({ frames := 2, cells := 1, slots := 6, locals := 31 } : Room).cells ({ frames := 2, cells := 1, slots := 6, locals := 31 } : Room).slots) := by
  refine MetFree.of_bodySF (plainFor_of_name pn_376) hisR ?_
  intro p e s m args below meth c s₁ Bd hml0 hP hK
  obtain ⟨rfl, hZ, hh⟩ := hP
  have hx := Bd.exec
  have hby := Bd.bytes
  have hml : c.maxLocals = 2 := hml0
  have hown : s.vm.findClass "com/example/diligent_tariff/diligenttariff/book/Holiday" = some m.cls := findClass_of_methodNamed Bd.named
  have hnm := (name_of_methodNamed Bd.named Bd.method).1
  have X0 : Stand p l e ({ frames := 2, cells := 1, slots := 6, locals := 31 } : Room) s m #[(.ref st), (.int dd)] below meth c s₁ [] 0 0 := Stand.of_body Bd
  have e0 : s₁.heap = h0 := by rw [← hh, Bd.state]; rfl
  have N0 := Fr.nil n0
  refine Go.enter (F := EndN s (Q_rmFrom Z st dd h0 n0) ({ frames := 2, cells := 1, slots := 6, locals := 31 } : Room).cells ({ frames := 2, cells := 1, slots := 6, locals := 31 } : Room).slots) (ef_612 m st dd) ?_
  show Go _ _ _ _ s₁ (mkF m 0 #[rv st, iv dd] [])
  obtain ⟨ho, g1⟩ : ∃ z, z = h0.size := ⟨_, rfl⟩
  have ge_ho : n0 ≤ ho := Nat.le_trans Z0 (Nat.le_of_eq g1.symm)
  have sz_ho : h0.size ≤ ho := Nat.le_trans (Keep.refl h0 []).1 (Nat.le_of_eq g1.symm)
  obtain ⟨T1, h1, X1, e1, E1, A1, D1, -, st1⟩ := newO X0 hx hZ hown (ow hw 35 rfl) (ow hw 36 rfl) (ow hw 33 rfl) e0 (g := (mkF m 0 #[rv st, iv dd] [])) rfl (hb hby d7_0) (by decide) (by decide)
  rw [← g1] at A1 D1 st1
  have F_name_ho : Fld Z h1 ho "com/example/diligent_tariff/diligenttariff/book/Holiday" "name" "Ljava/lang/String;" .null := D1 (Or.inr (ow hw 42 rfl)) (ty := (.object "java/lang/String")) (by decide)
  have F_month_ho : Fld Z h1 ho "com/example/diligent_tariff/diligenttariff/book/Holiday" "month" "Ljava/time/Month;" .null := D1 (Or.inr (ow hw 44 rfl)) (ty := (.object "java/time/Month")) (by decide)
  have F_day_ho : Fld Z h1 ho "com/example/diligent_tariff/diligenttariff/book/Holiday" "day" "I" (.int 0) := D1 (Or.inr (ow hw 46 rfl)) (ty := .int) (by decide)
  have F_weekday_ho : Fld Z h1 ho "com/example/diligent_tariff/diligenttariff/book/Holiday" "weekday" "Ljava/time/DayOfWeek;" .null := D1 (Or.inr (ow hw 48 rfl)) (ty := (.object "java/time/DayOfWeek")) (by decide)
  have F_week_ho : Fld Z h1 ho "com/example/diligent_tariff/diligenttariff/book/Holiday" "week" "I" (.int 0) := D1 (Or.inr (ow hw 50 rfl)) (ty := .int) (by decide)
  have F_daysFromEaster_ho : Fld Z h1 ho "com/example/diligent_tariff/diligenttariff/book/Holiday" "daysFromEaster" "I" (.int 0) := D1 (Or.inr (ow hw 52 rfl)) (ty := .int) (by decide)
  refine Go.by st1 ?_
  show Go _ _ _ _ T1 (mkF m 3 #[rv st, iv dd] [(.ref ho)])
  refine Go.dup 4 X1 hx (hb hby d7_3) rfl rfl ?_
  refine Go.aload1 5 X1 hx (hb hby d7_4) rfl rfl rfl ?_
  refine Go.aconst_null 6 X1 hx (hb hby d7_5) rfl ?_
  refine Go.iconst 7 X1 hx (0 : Int32) (hb hby d7_6) (by decide) rfl ?_
  refine Go.aconst_null 8 X1 hx (hb hby d7_7) rfl ?_
  refine Go.iconst 9 X1 hx (0 : Int32) (hb hby d7_8) (by decide) rfl ?_
  refine Go.iload1 10 X1 hx (hb hby d7_9) rfl rfl ?_
  have F2 : n0 ≤ h1.size := Nat.le_trans Z0 E1.1
  obtain ⟨_, _, ⟨T3, L3, k3, n3⟩, -, X3, ⟨Lc3, hQ3, l3, y3, z3⟩, st3⟩ := X1.specialBack hx (y := (⟨"com/example/diligent_tariff/diligenttariff/book/Holiday", "<init>", "(Ljava/lang/String;Ljava/time/Month;ILjava/time/DayOfWeek;II)V"⟩ : MethodName)) rfl hown (mvT hZ (ow hw 37 rfl)) (mvT hZ (ow hw 38 rfl)) (mvT hZ (ow hw 39 rfl)) (by decide) (backOf (W := 1) (rmHo l Z a0 hw [] ho st dd h1 n0 F2 A1 F_name_ho F_month_ho F_daysFromEaster_ho F_day_ho F_weekday_ho F_week_ho ge_ho) hZ (ow hw 39 rfl) (ow hw 33 rfl) (by decide) (by decide)) (g := (mkF m 10 #[rv st, iv dd] [(.int dd), (.int 0), .null, (.int 0), .null, (.ref st), (.ref ho), (.ref ho)])) rfl (by rw [hml]; rfl) (Steps.refl _) (a := ho) (argsL := [(.ref st), .null, (.int 0), .null, (.int 0), (.int dd)]) (rest := [(.ref ho)]) (lenOf pd_621 rfl) rfl (by show 2 * 0 + _ ≤ _; exact Nat.le_of_eq rfl) (hb hby d7_10) (fun _ _ => ⟨rfl, e1, (by decide : 1 + 0 ≤ _), (by decide : 6 + 0 ≤ _)⟩)
  dsimp only [Pt.U, Pt.locs, Pt.cells, Pt.slots] at X3 l3 y3 z3 st3 hQ3
  subst l3 y3 z3
  obtain ⟨rfl, N3q, K3, Q3_0, Q3_1, Q3_2, Q3_3⟩ := hQ3
  have N3 := Fr.app N0 N3q
  refine Go.to st3 ?_
  show Go _ _ _ _ T3 (mkF m 13 #[rv st, iv dd] [(.ref ho)])
  have F4 : Keep h0 h1 [] := (Keep.refl h0 []).ext E1
  have F5 : Keep h0 T3.heap [] := F4.trans K3 (allS (Or.inr sz_ho) all0)
  exact Go.retA X3 hx Bd.notSynchronized Bd.returns rfl rfl (hb hby d7_13) ⟨ho, rfl, N3, F5, Q3_0, Q3_1, Q3_2, Q3_3, sz_ho⟩ (by decide) (by decide)
theorem ef_624 (m : MethodId) (x0 : Addr) (x1 : Int32) : entryFrame m #[(.ref x0), (.int x1)] 3 = mkF m 0 #[rv x0, iv x1, un] [] := by (first | (simp [entryFrame, mkF, argsToLocals, Value.category]; done) | rfl)
theorem d9_0 : decode prog_25_method_6_code 0 = .ok (.aload_n 0, 1) := by decide +kernel
theorem d9_1 : decode prog_25_method_6_code 1 = .ok (.getfield 13, 3) := by decide +kernel
theorem d9_4 : decode prog_25_method_6_code 4 = .ok (.ifnonnull 19, 3) := by decide +kernel
theorem d9_7 : decode prog_25_method_6_code 7 = .ok (.iload_n 1, 1) := by decide +kernel
theorem pd_629 : parseMethodDescriptor "(I)Ljava/time/LocalDate;" = some ⟨[.int], some (.object "java/time/LocalDate")⟩ := by decide +kernel
theorem d9_8 : decode prog_25_method_6_code 8 = .ok (.invokestatic 34, 3) := by decide +kernel
theorem d9_11 : decode prog_25_method_6_code 11 = .ok (.aload_n 0, 1) := by decide +kernel
theorem d9_12 : decode prog_25_method_6_code 12 = .ok (.getfield 28, 3) := by decide +kernel
theorem d9_15 : decode prog_25_method_6_code 15 = .ok (.i2l, 1) := by decide +kernel
theorem d9_16 : decode prog_25_method_6_code 16 = .ok (.invokevirtual 38, 3) := by decide +kernel
theorem d9_19 : decode prog_25_method_6_code 19 = .ok (.astore_n 2, 1) := by decide +kernel
theorem d9_20 : decode prog_25_method_6_code 20 = .ok (.goto 50, 3) := by decide +kernel
theorem d9_70 : decode prog_25_method_6_code 70 = .ok (.aload_n 2, 1) := by decide +kernel
theorem d9_71 : decode prog_25_method_6_code 71 = .ok (.areturn, 1) := by decide +kernel
def Q_rmIn (Z : State) (ho : Addr) (y : Int32) (dd : Int32) (cY : Addr) (vY : Addr) (cM : Addr) (vM : Addr) (cD : Addr) (vD : Addr) (cE : Addr) (vE : Addr) (ic : Addr) (h0 : Heap) (n0 : Nat) (v : Option Value) (h : Heap) (L : List Loc) : Prop := ∃ b : Addr, ∃ y2 : Int32, ∃ m2 : Int32, ∃ d2 : Int32, ∃ n : Int, v = some (.ref b) ∧ Fr n0 L ∧ Keep h0 h [] ∧ Exa Z h b "java/time/LocalDate" ∧ Fld Z h b "java/time/LocalDate" "year" "I" (.int y2) ∧ Fld Z h b "java/time/LocalDate" "month" "S" (.int m2) ∧ Fld Z h b "java/time/LocalDate" "day" "S" (.int d2) ∧ (own_ed y2.toInt m2.toInt d2.toInt = own_ed y.toInt (n / 31) (n % 31 + 1) + dd.toInt) ∧ (-100000000 ≤ y2.toInt ∧ y2.toInt ≤ 100000000) ∧ (1 ≤ m2.toInt ∧ m2.toInt ≤ 12) ∧ (1 ≤ d2.toInt ∧ d2.toInt ≤ 31) ∧ (own_E y.toInt n) ∧ (dd.toInt = 0 → y2 = y ∧ m2.toInt = n / 31 ∧ d2.toInt = n % 31 + 1)
set_option maxRecDepth 65536 in
set_option maxHeartbeats 40000000 in
theorem rmIn (l : Launch) (Z : State) (a0 : Array Value) (hw : ∀ d ∈ tables_1, d.before a0 Z = true) (ws : List Jvm.Cond) (ho : Addr) (y : Int32) (dd : Int32) (cY : Addr) (vY : Addr) (cM : Addr) (vM : Addr) (cD : Addr) (vD : Addr) (cE : Addr) (vE : Addr) (ic : Addr) (h0 : Heap) (n0 : Nat) (Z0 : n0 ≤ h0.size) (O0 : Old Z n0 h0) (F_ho_month : Fld Z h0 ho "com/example/diligent_tariff/diligenttariff/book/Holiday" "month" "Ljava/time/Month;" .null) (F_ho_daysFromEaster : Fld Z h0 ho "com/example/diligent_tariff/diligenttariff/book/Holiday" "daysFromEaster" "I" (.int dd)) (hy : (0 ≤ y.toInt ∧ y.toInt ≤ 70000000)) (Dc0 : Sta Z Z.heap "java/time/temporal/ChronoField" "YEAR" "Ljava/time/temporal/ChronoField;" (.ref cY)) (Dc1 : Exa Z Z.heap cY "java/time/temporal/ChronoField") (Dc2 : Fld Z Z.heap cY "java/time/temporal/ChronoField" "range" "Ljava/time/temporal/ValueRange;" (.ref vY)) (Dc3 : Exa Z Z.heap vY "java/time/temporal/ValueRange") (Dc4 : Fld Z Z.heap vY "java/time/temporal/ValueRange" "minSmallest" "J" (.long (-999999999 : Int64))) (Dc5 : Fld Z Z.heap vY "java/time/temporal/ValueRange" "maxLargest" "J" (.long (999999999 : Int64))) (Dc6 : Sta Z Z.heap "java/time/temporal/ChronoField" "MONTH_OF_YEAR" "Ljava/time/temporal/ChronoField;" (.ref cM)) (Dc7 : Exa Z Z.heap cM "java/time/temporal/ChronoField") (Dc8 : Fld Z Z.heap cM "java/time/temporal/ChronoField" "range" "Ljava/time/temporal/ValueRange;" (.ref vM)) (Dc9 : Exa Z Z.heap vM "java/time/temporal/ValueRange") (Dc10 : Fld Z Z.heap vM "java/time/temporal/ValueRange" "minSmallest" "J" (.long (1 : Int64))) (Dc11 : Fld Z Z.heap vM "java/time/temporal/ValueRange" "maxLargest" "J" (.long (12 : Int64))) (Dc12 : Sta Z Z.heap "java/time/temporal/ChronoField" "DAY_OF_MONTH" "Ljava/time/temporal/ChronoField;" (.ref cD)) (Dc13 : Exa Z Z.heap cD "java/time/temporal/ChronoField") (Dc14 : Fld Z Z.heap cD "java/time/temporal/ChronoField" "range" "Ljava/time/temporal/ValueRange;" (.ref vD)) (Dc15 : Exa Z Z.heap vD "java/time/temporal/ValueRange") (Dc16 : Fld Z Z.heap vD "java/time/temporal/ValueRange" "minSmallest" "J" (.long (1 : Int64))) (Dc17 : Fld Z Z.heap vD "java/time/temporal/ValueRange" "maxLargest" "J" (.long (31 : Int64))) (Dc18 : Sta Z Z.heap "java/time/temporal/ChronoField" "EPOCH_DAY" "Ljava/time/temporal/ChronoField;" (.ref cE)) (Dc19 : Exa Z Z.heap cE "java/time/temporal/ChronoField") (Dc20 : Fld Z Z.heap cE "java/time/temporal/ChronoField" "range" "Ljava/time/temporal/ValueRange;" (.ref vE)) (Dc21 : Exa Z Z.heap vE "java/time/temporal/ValueRange") (Dc22 : Fld Z Z.heap vE "java/time/temporal/ValueRange" "minSmallest" "J" (.long (-365243219162 : Int64))) (Dc23 : Fld Z Z.heap vE "java/time/temporal/ValueRange" "maxLargest" "J" (.long (365241780471 : Int64))) (Dc24 : Sta Z Z.heap "java/time/chrono/IsoChronology" "INSTANCE" "Ljava/time/chrono/IsoChronology;" (.ref ic)) (Dc25 : Exa Z Z.heap ic "java/time/chrono/IsoChronology") :
    MetFree l (⟨"com/example/diligent_tariff/diligenttariff/book/Holiday", "in", "(I)Ljava/time/LocalDate;"⟩ : MethodName) (head1 (Jvm.Cond.code (⟨"com/example/diligent_tariff/diligenttariff/book/Holiday", "in", "(I)Ljava/time/LocalDate;"⟩ : MethodName) prog_25_method_6_code 3 (some (.object "java/time/LocalDate")) :: ws) ({ frames := 6, cells := 2, slots := 6, locals := 100 } : Room)) (fun as' U => as' = #[(.ref ho), (.int y)] ∧ Z.Warmed39 U.vm ∧ U.heap = h0) (fun _ _ _ _ _ => True) (fun _ U o U' => ∃ v L, o = .returned v ∧ Q_rmIn Z ho y dd cY vY cM vM cD vD cE vE ic h0 n0 v U'.heap L ∧ FrameEnd U o U' L ({ frames := 6, cells := 2, slots := 6, locals := 100 } : Room).cells ({ frames := 6, cells := 2, slots := 6, locals := 100 } : Room).slots) := by
  refine MetFree.of_bodySF (plainFor_of_name pn_376) hisR ?_
  intro p e s m args below meth c s₁ Bd hml0 hP hK
  obtain ⟨rfl, hZ, hh⟩ := hP
  have hx := Bd.exec
  have hby := Bd.bytes
  have hml : c.maxLocals = 3 := hml0
  have hown : s.vm.findClass "com/example/diligent_tariff/diligenttariff/book/Holiday" = some m.cls := findClass_of_methodNamed Bd.named
  have hnm := (name_of_methodNamed Bd.named Bd.method).1
  have X0 : Stand p l e ({ frames := 6, cells := 2, slots := 6, locals := 100 } : Room) s m #[(.ref ho), (.int y)] below meth c s₁ [] 0 0 := Stand.of_body Bd
  have e0 : s₁.heap = h0 := by rw [← hh, Bd.state]; rfl
  have N0 := Fr.nil n0
  refine Go.enter (F := EndN s (Q_rmIn Z ho y dd cY vY cM vM cD vD cE vE ic h0 n0) ({ frames := 6, cells := 2, slots := 6, locals := 100 } : Room).cells ({ frames := 6, cells := 2, slots := 6, locals := 100 } : Room).slots) (ef_624 m ho y) ?_
  show Go _ _ _ _ s₁ (mkF m 0 #[rv ho, iv y, un] [])
  refine Go.aload1 1 X0 hx (hb hby d9_0) rfl rfl rfl ?_
  obtain ⟨T1, X1, e1, st1⟩ := getF X0 hx hZ hown (host := "") (Or.inl (ow hw 43 rfl)) Via.refl e0 F_ho_month (g := (mkF m 1 #[rv ho, iv y, un] [(.ref ho)])) rfl rfl (hb hby d9_1)
  refine Go.by st1 ?_
  show Go _ _ _ _ T1 (mkF m 4 #[rv ho, iv y, un] [.null])
  refine Go.by (fun _ gk => XT.nonnullNo X1.here hx rfl (hb hby d9_4) rfl rfl gk) ?_
  show Go _ _ _ _ T1 (mkF m 7 #[rv ho, iv y, un] [])
  refine Go.iload1 8 X1 hx (hb hby d9_7) rfl rfl ?_
  obtain ⟨_, _, ⟨T2, L2, k2, n2⟩, -, X2, ⟨Lc2, hQ2, l2, y2, z2⟩, st2⟩ := Jvm.LawKit.callS X1 hx (y := (⟨"com/example/diligent_tariff/diligenttariff/book/Holiday", "easter", "(I)Ljava/time/LocalDate;"⟩ : MethodName)) hown (mvT hZ (ow hw 58 rfl)) (mvT hZ (ow hw 59 rfl)) (mvT hZ (ow hw 33 rfl)) (mvT hZ (ow hw 60 rfl)) (by decide) (backOf (W := 0) (rmEaster l Z a0 hw [] y cY vY cM vM cD vD cE vE ic h0 n0 Z0 O0 hy Dc0 Dc1 Dc2 Dc3 Dc4 Dc5 Dc6 Dc7 Dc8 Dc9 Dc10 Dc11 Dc12 Dc13 Dc14 Dc15 Dc16 Dc17 Dc18 Dc19 Dc20 Dc21 Dc22 Dc23 Dc24 Dc25) hZ (ow hw 60 rfl) (ow hw 33 rfl) (by decide) (by decide)) (g := (mkF m 8 #[rv ho, iv y, un] [(.int y)])) rfl (by rw [hml]; rfl) (argsL := [(.int y)]) (rest := []) (lenOf pd_629 rfl) rfl (by show 2 * 0 + _ ≤ _; exact Nat.le_of_eq rfl) (hb hby d9_8) (fun _ _ => ⟨rfl, e1, (by decide : 0 + 1 ≤ _), (by decide : 0 + 3 ≤ _)⟩)
  dsimp only [Pt.U, Pt.locs, Pt.cells, Pt.slots] at X2 l2 y2 z2 st2 hQ2
  subst l2 y2 z2
  obtain ⟨ea, m1, d1, n, rfl, N2q, K2, Q2_0, Q2_1, Q2_2, Q2_3, Q2_4, Q2_5, Q2_6⟩ := hQ2
  have N2 := Fr.app N0 N2q
  refine Go.by st2 ?_
  show Go _ _ _ _ T2 (mkF m 11 #[rv ho, iv y, un] [(.ref ea)])
  refine Go.aload1 12 X2 hx (hb hby d9_11) rfl rfl rfl ?_
  have F3 : Fld Z T2.heap ho "com/example/diligent_tariff/diligenttariff/book/Holiday" "daysFromEaster" "I" (.int dd) := F_ho_daysFromEaster.keep K2 nin0
  obtain ⟨T4, X4, e4, st4⟩ := getF X2 hx hZ hown (host := "") (Or.inl (ow hw 51 rfl)) Via.refl rfl F3 (g := (mkF m 12 #[rv ho, iv y, un] [(.ref ho), (.ref ea)])) rfl rfl (hb hby d9_12)
  refine Go.by st4 ?_
  show Go _ _ _ _ T4 (mkF m 15 #[rv ho, iv y, un] [(.int dd), (.ref ea)])
  refine Go.i2l 16 X4 hx (hb hby d9_15) rfl ?_
  obtain ⟨n5, h_n5⟩ : ∃ z, z = (dd.toInt64) := ⟨_, rfl⟩
  rw [← h_n5]
  show Go _ _ _ _ T4 (mkF m 16 #[rv ho, iv y, un] [(.long n5), (.ref ea)])
  have e_n5 : n5.toInt = dd.toInt := by rw [h_n5]; exact c_i2l _
  have hr := rng32 dd
  have F6 : Old Z n0 T2.heap := O0.keep K2 all0
  have F7 : n0 ≤ T2.heap.size := Nat.le_trans Z0 K2.1
  obtain ⟨cq8, kq8, q8a, q8b, q8c⟩ := isOf hZ e4 Q2_0
  obtain ⟨_, _, ⟨T8, L8, k8, n8⟩, -, X8, ⟨Lc8, hQ8, l8, y8, z8⟩, st8⟩ := X4.virtualBack hx (y := (⟨"java/time/LocalDate", "plusDays", "(J)Ljava/time/LocalDate;"⟩ : MethodName)) (z := (⟨"java/time/LocalDate", "plusDays", "(J)Ljava/time/LocalDate;"⟩ : MethodName)) hown (mvT hZ (ow hw 122 rfl)) (mvT hZ (ow hw 123 rfl)) (notFace_of_selects (args := #[]) (mvT hZ (ow hw 125 rfl))) (mvT hZ (ow hw 125 rfl)) (mvT hZ (ow hw 124 rfl)) (by decide) (backOf (W := 0) (rmPlus l Z a0 hw [] ea n5 y m1 d1 cY vY cM vM cD vD cE vE ic T2.heap n0 F7 F6 Q2_0 Q2_1 Q2_2 Q2_3 hy (own_win Q2_5 Q2_6 (own_Es hy.1 Q2_4).1) (⟨by omega, by omega⟩) Dc0 Dc1 Dc2 Dc3 Dc4 Dc5 Dc6 Dc7 Dc8 Dc9 Dc10 Dc11 Dc12 Dc13 Dc14 Dc15 Dc16 Dc17 Dc18 Dc19 Dc20 Dc21 Dc22 Dc23 Dc24 Dc25) hZ (ow hw 126 rfl) (ow hw 63 rfl) (by decide) (by decide)) q8a q8c (g := (mkF m 16 #[rv ho, iv y, un] [(.long n5), (.ref ea)])) rfl (by rw [hml]; rfl) (Steps.refl _) (argsL := [(.long n5)]) (rest := []) (lenOf pd_540 rfl) rfl (by show 2 * 0 + _ ≤ _; exact Nat.le_of_eq rfl) (hb hby d9_16) (fun _ _ => ⟨rfl, e4, (by decide : 1 + 1 ≤ _), (by decide : 3 + 3 ≤ _)⟩)
  dsimp only [Pt.U, Pt.locs, Pt.cells, Pt.slots] at X8 l8 y8 z8 st8 hQ8
  subst l8 y8 z8
  obtain ⟨b, y2, m2, d2, rfl, N8q, K8, Q8_0, Q8_1, Q8_2, Q8_3, Q8_4, Q8_5, Q8_6, Q8_7, Q8_8⟩ := hQ8
  have N8 := Fr.app N2 N8q
  refine Go.to st8 ?_
  show Go _ _ _ _ T8 (mkF m 19 #[rv ho, iv y, un] [(.ref b)])
  refine Go.astore1 20 X8 hx (L' := #[rv ho, iv y, rv b]) (hb hby d9_19) rfl rfl rfl ?_
  refine Go.goto 70 X8 hx (hb hby d9_20) (by decide) (by decide) ?_
  refine Go.aload1 71 X8 hx (hb hby d9_70) rfl rfl rfl ?_
  have F9 : Keep h0 T2.heap [] := (Keep.refl h0 []).trans K2 all0
  have F10 : Keep h0 T8.heap [] := F9.trans K8 all0
  exact Go.retA X8 hx Bd.notSynchronized Bd.returns rfl rfl (hb hby d9_71) ⟨b, y2, m2, d2, n, rfl, N8, F10, Q8_0, Q8_1, Q8_2, Q8_3, by rw [Q8_4, Q2_5, Q2_6, e_n5], Q8_5, Q8_6, Q8_7, Q2_4, fun z => by obtain ⟨z1, z2, z3⟩ := Q8_8 (by omega); rw [z1, z2, z3]; exact ⟨rfl, Q2_5, Q2_6⟩⟩ (by decide) (by decide)
theorem d27_0 : decode prog_25_method_5_code 0 = .ok (.aload_n 0, 1) := by decide +kernel
theorem d27_1 : decode prog_25_method_5_code 1 = .ok (.getfield 7, 3) := by decide +kernel
theorem d27_4 : decode prog_25_method_5_code 4 = .ok (.areturn, 1) := by decide +kernel
def Q_rmGn (Z : State) (ho : Addr) (st : Addr) (h0 : Heap) (n0 : Nat) (v : Option Value) (h : Heap) (L : List Loc) : Prop := v = some (.ref st) ∧ Fr n0 L ∧ h = h0
set_option maxRecDepth 65536 in
set_option maxHeartbeats 40000000 in
theorem rmGn (l : Launch) (Z : State) (a0 : Array Value) (hw : ∀ d ∈ tables_1, d.before a0 Z = true) (ws : List Jvm.Cond) (ho : Addr) (st : Addr) (h0 : Heap) (n0 : Nat) (Z0 : n0 ≤ h0.size) (F_ho_name : Fld Z h0 ho "com/example/diligent_tariff/diligenttariff/book/Holiday" "name" "Ljava/lang/String;" (.ref st)) :
    MetFree l (⟨"com/example/diligent_tariff/diligenttariff/book/Holiday", "getName", "()Ljava/lang/String;"⟩ : MethodName) (head1 (Jvm.Cond.code (⟨"com/example/diligent_tariff/diligenttariff/book/Holiday", "getName", "()Ljava/lang/String;"⟩ : MethodName) prog_25_method_5_code 1 (some (.object "java/lang/String")) :: ws) ({ frames := 0, cells := 0, slots := 0, locals := 0 } : Room)) (fun as' U => as' = #[(.ref ho)] ∧ Z.Warmed39 U.vm ∧ U.heap = h0) (fun _ _ _ _ _ => True) (fun _ U o U' => ∃ v L, o = .returned v ∧ Q_rmGn Z ho st h0 n0 v U'.heap L ∧ FrameEnd U o U' L ({ frames := 0, cells := 0, slots := 0, locals := 0 } : Room).cells ({ frames := 0, cells := 0, slots := 0, locals := 0 } : Room).slots) := by
  refine MetFree.of_bodySF (plainFor_of_name pn_376) hisR ?_
  intro p e s m args below meth c s₁ Bd hml0 hP hK
  obtain ⟨rfl, hZ, hh⟩ := hP
  have hx := Bd.exec
  have hby := Bd.bytes
  have hml : c.maxLocals = 1 := hml0
  have hown : s.vm.findClass "com/example/diligent_tariff/diligenttariff/book/Holiday" = some m.cls := findClass_of_methodNamed Bd.named
  have hnm := (name_of_methodNamed Bd.named Bd.method).1
  have X0 : Stand p l e ({ frames := 0, cells := 0, slots := 0, locals := 0 } : Room) s m #[(.ref ho)] below meth c s₁ [] 0 0 := Stand.of_body Bd
  have e0 : s₁.heap = h0 := by rw [← hh, Bd.state]; rfl
  have N0 := Fr.nil n0
  refine Go.enter (F := EndN s (Q_rmGn Z ho st h0 n0) ({ frames := 0, cells := 0, slots := 0, locals := 0 } : Room).cells ({ frames := 0, cells := 0, slots := 0, locals := 0 } : Room).slots) (ef_4 m ho) ?_
  show Go _ _ _ _ s₁ (mkF m 0 #[rv ho] [])
  refine Go.aload1 1 X0 hx (hb hby d27_0) rfl rfl rfl ?_
  obtain ⟨T1, X1, e1, st1⟩ := getF X0 hx hZ hown (host := "") (Or.inl (ow hw 41 rfl)) Via.refl e0 F_ho_name (g := (mkF m 1 #[rv ho] [(.ref ho)])) rfl rfl (hb hby d27_1)
  refine Go.by st1 ?_
  show Go _ _ _ _ T1 (mkF m 4 #[rv ho] [(.ref st)])
  exact Go.retA X1 hx Bd.notSynchronized Bd.returns rfl rfl (hb hby d27_4) (by rw [e1]; exact ⟨rfl, N0, rfl⟩) (by decide) (by decide)
theorem pn_642 : plainName "java/lang/String" = true := by first | (simp [plainName, overriddenIn]; done) | decide +kernel
theorem ef_643 (m : MethodId) (x0 : Addr) (x1 : Addr) : entryFrame m #[(.ref x0), (.ref x1)] 3 = mkF m 0 #[rv x0, rv x1, un] [] := by (first | (simp [entryFrame, mkF, argsToLocals, Value.category]; done) | rfl)
theorem d28_0 : decode jdk_42_method_66_code 0 = .ok (.aload_n 0, 1) := by decide +kernel
theorem d28_1 : decode jdk_42_method_66_code 1 = .ok (.aload_n 1, 1) := by decide +kernel
theorem d28_2 : decode jdk_42_method_66_code 2 = .ok (.if_acmp .ne 5, 3) := by decide +kernel
theorem d28_5 : decode jdk_42_method_66_code 5 = .ok (.iconst 1, 1) := by decide +kernel
theorem d28_6 : decode jdk_42_method_66_code 6 = .ok (.ireturn, 1) := by decide +kernel
def Q_rmSame (Z : State) (a : Addr) (h0 : Heap) (n0 : Nat) (v : Option Value) (h : Heap) (L : List Loc) : Prop := v = some (.int 1) ∧ Fr n0 L ∧ h = h0
set_option maxRecDepth 65536 in
set_option maxHeartbeats 40000000 in
theorem rmSame (l : Launch) (Z : State) (a0 : Array Value) (hw : ∀ d ∈ tables_1, d.before a0 Z = true) (ws : List Jvm.Cond) (a : Addr) (h0 : Heap) (n0 : Nat) (Z0 : n0 ≤ h0.size)  :
    MetFree l (⟨"java/lang/String", "equals", "(Ljava/lang/Object;)Z"⟩ : MethodName) (head1 (Jvm.Cond.code (⟨"java/lang/String", "equals", "(Ljava/lang/Object;)Z"⟩ : MethodName) jdk_42_method_66_code 3 (some .boolean) :: ws) ({ frames := 0, cells := 0, slots := 0, locals := 0 } : Room)) (fun as' U => as' = #[(.ref a), (.ref a)] ∧ Z.Warmed39 U.vm ∧ U.heap = h0) (fun _ _ _ _ _ => True) (fun _ U o U' => ∃ v L, o = .returned v ∧ Q_rmSame Z a h0 n0 v U'.heap L ∧ FrameEnd U o U' L ({ frames := 0, cells := 0, slots := 0, locals := 0 } : Room).cells ({ frames := 0, cells := 0, slots := 0, locals := 0 } : Room).slots) := by
  refine MetFree.of_bodySF (plainFor_of_name pn_642) hisR ?_
  intro p e s m args below meth c s₁ Bd hml0 hP hK
  obtain ⟨rfl, hZ, hh⟩ := hP
  have hx := Bd.exec
  have hby := Bd.bytes
  have hml : c.maxLocals = 3 := hml0
  have hown : s.vm.findClass "java/lang/String" = some m.cls := findClass_of_methodNamed Bd.named
  have hnm := (name_of_methodNamed Bd.named Bd.method).1
  have X0 : Stand p l e ({ frames := 0, cells := 0, slots := 0, locals := 0 } : Room) s m #[(.ref a), (.ref a)] below meth c s₁ [] 0 0 := Stand.of_body Bd
  have e0 : s₁.heap = h0 := by rw [← hh, Bd.state]; rfl
  have N0 := Fr.nil n0
  refine Go.enter (F := EndN s (Q_rmSame Z a h0 n0) ({ frames := 0, cells := 0, slots := 0, locals := 0 } : Room).cells ({ frames := 0, cells := 0, slots := 0, locals := 0 } : Room).slots) (ef_643 m a a) ?_
  show Go _ _ _ _ s₁ (mkF m 0 #[rv a, rv a, un] [])
  refine Go.aload1 1 X0 hx (hb hby d28_0) rfl rfl rfl ?_
  refine Go.aload1 2 X0 hx (hb hby d28_1) rfl rfl rfl ?_
  refine Go.by (fun _ gk => XT.acmpNo X0.here hx rfl (hb hby d28_2) rfl rfl rfl (XT.aa_ne_f rfl) gk) ?_
  show Go _ _ _ _ s₁ (mkF m 5 #[rv a, rv a, un] [])
  refine Go.iconst 6 X0 hx (1 : Int32) (hb hby d28_5) (by decide) rfl ?_
  exact Go.retI X0 hx Bd.notSynchronized Bd.returns rfl (by simp) (hb hby d28_6) (by rw [e0]; exact ⟨rfl, N0, rfl⟩) (by decide) (by decide)
theorem pn_649 : plainName "java/lang/StringUTF16" = true := by first | (simp [plainName, overriddenIn]; done) | decide +kernel
theorem ef_650 (m : MethodId) (x0 : Addr) (x1 : Int32) (x2 : Addr) (x3 : Int32) (x4 : Int32) : entryFrame m #[(.ref x0), (.int x1), (.ref x2), (.int x3), (.int x4)] 7 = mkF m 0 #[rv x0, iv x1, rv x2, iv x3, iv x4, un, un] [] := by (first | (simp [entryFrame, mkF, argsToLocals, Value.category]; done) | rfl)
theorem d5_0 : decode jdk_52_method_21_code 0 = .ok (.iconst 0, 1) := by decide +kernel
theorem d5_1 : decode jdk_52_method_21_code 1 = .ok (.istore 5, 2) := by decide +kernel
theorem d5_3 : decode jdk_52_method_21_code 3 = .ok (.iload 5, 2) := by decide +kernel
theorem d5_5 : decode jdk_52_method_21_code 5 = .ok (.iload 4, 2) := by decide +kernel
theorem d5_7 : decode jdk_52_method_21_code 7 = .ok (.if_icmp .ge 37, 3) := by decide +kernel
theorem d5_10 : decode jdk_52_method_21_code 10 = .ok (.aload_n 0, 1) := by decide +kernel
theorem d5_11 : decode jdk_52_method_21_code 11 = .ok (.iload_n 1, 1) := by decide +kernel
theorem d5_12 : decode jdk_52_method_21_code 12 = .ok (.caload, 1) := by decide +kernel
theorem d5_13 : decode jdk_52_method_21_code 13 = .ok (.istore 6, 2) := by decide +kernel
theorem d5_15 : decode jdk_52_method_21_code 15 = .ok (.iload 6, 2) := by decide +kernel
theorem d5_17 : decode jdk_52_method_21_code 17 = .ok (.sipush 255, 3) := by decide +kernel
theorem d5_20 : decode jdk_52_method_21_code 20 = .ok (.if_icmp .le 6, 3) := by decide +kernel
theorem d5_26 : decode jdk_52_method_21_code 26 = .ok (.aload_n 2, 1) := by decide +kernel
theorem d5_27 : decode jdk_52_method_21_code 27 = .ok (.iload_n 3, 1) := by decide +kernel
theorem d5_28 : decode jdk_52_method_21_code 28 = .ok (.iload 6, 2) := by decide +kernel
theorem d5_30 : decode jdk_52_method_21_code 30 = .ok (.i2b, 1) := by decide +kernel
theorem d5_31 : decode jdk_52_method_21_code 31 = .ok (.bastore, 1) := by decide +kernel
theorem d5_32 : decode jdk_52_method_21_code 32 = .ok (.iinc 1 1, 3) := by decide +kernel
theorem d5_35 : decode jdk_52_method_21_code 35 = .ok (.iinc 3 1, 3) := by decide +kernel
theorem d5_38 : decode jdk_52_method_21_code 38 = .ok (.iinc 5 1, 3) := by decide +kernel
theorem d5_41 : decode jdk_52_method_21_code 41 = .ok (.goto (-38), 3) := by decide +kernel
theorem d5_44 : decode jdk_52_method_21_code 44 = .ok (.iload 4, 2) := by decide +kernel
theorem d5_46 : decode jdk_52_method_21_code 46 = .ok (.ireturn, 1) := by decide +kernel
def Q_rmC5_2 (Z : State) (va : Addr) (da : Addr) (kv : ClassId) (kd : ClassId) (c0 : Int32) (c1 : Int32) (h0 : Heap) (n0 : Nat) (v : Option Value) (h : Heap) (L : List Loc) : Prop := v = some (.int 2) ∧ Fr n0 L ∧ Keep h0 h [da] ∧ Arv Z h da kd .byte (2 : Int32) ([(.int (own_b c0)), (.int (own_b c1))]) (.int 0)
set_option maxRecDepth 65536 in
set_option maxHeartbeats 40000000 in
theorem rmC5_2 (l : Launch) (Z : State) (a0 : Array Value) (hw : ∀ d ∈ tables_1, d.before a0 Z = true) (ws : List Jvm.Cond) (va : Addr) (da : Addr) (kv : ClassId) (kd : ClassId) (c0 : Int32) (c1 : Int32) (h0 : Heap) (n0 : Nat) (Z0 : n0 ≤ h0.size) (V_va : Arv Z h0 va kv .char (2 : Int32) ([(.int c0), (.int c1)]) (.int 0)) (V_da : Arv Z h0 da kd .byte (2 : Int32) ([(.int 0), (.int 0)]) (.int 0)) (g_da : n0 ≤ da) (ne_va_da : va ≠ da) (hc0 : (¬ (255 : Int32) < c0)) (hc1 : (¬ (255 : Int32) < c1)) :
    MetFree l (⟨"java/lang/StringUTF16", "compress", "([CI[BII)I"⟩ : MethodName) (head1 (Jvm.Cond.code (⟨"java/lang/StringUTF16", "compress", "([CI[BII)I"⟩ : MethodName) jdk_52_method_21_code 7 (some .int) :: ws) ({ frames := 0, cells := 0, slots := 0, locals := 0 } : Room)) (fun as' U => as' = #[(.ref va), (.int 0), (.ref da), (.int 0), (.int 2)] ∧ Z.Warmed39 U.vm ∧ U.heap = h0) (fun _ _ _ _ _ => True) (fun _ U o U' => ∃ v L, o = .returned v ∧ Q_rmC5_2 Z va da kv kd c0 c1 h0 n0 v U'.heap L ∧ FrameEnd U o U' L ({ frames := 0, cells := 0, slots := 0, locals := 0 } : Room).cells ({ frames := 0, cells := 0, slots := 0, locals := 0 } : Room).slots) := by
  refine MetFree.of_bodySF (plainFor_of_name pn_649) hisR ?_
  intro p e s m args below meth c s₁ Bd hml0 hP hK
  obtain ⟨rfl, hZ, hh⟩ := hP
  have hx := Bd.exec
  have hby := Bd.bytes
  have hml : c.maxLocals = 7 := hml0
  have hown : s.vm.findClass "java/lang/StringUTF16" = some m.cls := findClass_of_methodNamed Bd.named
  have hnm := (name_of_methodNamed Bd.named Bd.method).1
  have X0 : Stand p l e ({ frames := 0, cells := 0, slots := 0, locals := 0 } : Room) s m #[(.ref va), (.int 0), (.ref da), (.int 0), (.int 2)] below meth c s₁ [] 0 0 := Stand.of_body Bd
  have e0 : s₁.heap = h0 := by rw [← hh, Bd.state]; rfl
  have N0 := Fr.nil n0
  refine Go.enter (F := EndN s (Q_rmC5_2 Z va da kv kd c0 c1 h0 n0) ({ frames := 0, cells := 0, slots := 0, locals := 0 } : Room).cells ({ frames := 0, cells := 0, slots := 0, locals := 0 } : Room).slots) (ef_650 m va (0 : Int32) da (0 : Int32) (2 : Int32)) ?_
  show Go _ _ _ _ s₁ (mkF m 0 #[rv va, iv 0, rv da, iv 0, iv 2, un, un] [])
  refine Go.iconst 1 X0 hx (0 : Int32) (hb hby d5_0) (by decide) rfl ?_
  refine Go.istore2 3 X0 hx (L' := #[rv va, iv 0, rv da, iv 0, iv 2, iv 0, un]) (hb hby d5_1) rfl rfl ?_
  refine Go.iload2 5 X0 hx (hb hby d5_3) rfl rfl ?_
  refine Go.iload2 7 X0 hx (hb hby d5_5) rfl rfl ?_
  refine Go.icmpN 10 X0 hx (hb hby d5_7) (XT.ii_ge_f (by decide)) rfl ?_
  refine Go.aload1 11 X0 hx (hb hby d5_10) rfl rfl rfl ?_
  refine Go.iload1 12 X0 hx (hb hby d5_11) rfl rfl ?_
  obtain ⟨cl1, Ar1, -, S1, M1, H1, -⟩ := id V_va
  have hin1 : ¬ ((0 : Int32) < 0 ∨ cl1.slots.size ≤ (0 : Int32).toNatClampNeg) := inb_of S1 ⟨by decide, by decide⟩
  refine Go.by (fun _ gk => X0.caload hx (j := (0 : Int32)) (v := (.int c0)) (by rw [e0]; exact Ar1.1) (State.isArrayOf_alike hZ.alike Ar1.2.1) Ar1.2.2 hin1 (Has.at H1 hin1 rfl) (g := (mkF m 12 #[rv va, iv 0, rv da, iv 0, iv 2, iv 0, un] [(.int 0), (.ref va)])) rfl rfl (hb hby d5_12) _ gk) ?_
  show Go _ _ _ _ s₁ (mkF m 13 #[rv va, iv 0, rv da, iv 0, iv 2, iv 0, un] [(.int c0)])
  refine Go.istore2 15 X0 hx (L' := #[rv va, iv 0, rv da, iv 0, iv 2, iv 0, iv c0]) (hb hby d5_13) rfl rfl ?_
  refine Go.iload2 17 X0 hx (hb hby d5_15) rfl rfl ?_
  refine Go.sipush 20 X0 hx (255 : Int32) (hb hby d5_17) (by decide) rfl ?_
  refine Go.icmpY 26 X0 hx (hb hby d5_20) (XT.ii_le_t hc0) (by decide) (by decide) ?_
  refine Go.aload1 27 X0 hx (hb hby d5_26) rfl rfl rfl ?_
  refine Go.iload1 28 X0 hx (hb hby d5_27) rfl rfl ?_
  refine Go.iload2 30 X0 hx (hb hby d5_28) rfl rfl ?_
  refine Go.i2b 31 X0 hx (hb hby d5_30) rfl ?_
  obtain ⟨cl2, Ar2, q2, S2, M2, H2, G2⟩ := id V_da
  have hin2 : ¬ ((0 : Int32) < 0 ∨ cl2.slots.size ≤ (0 : Int32).toNatClampNeg) := inb_of S2 ⟨by decide, by decide⟩
  obtain ⟨T2, h2, X2, e2, W2, st2⟩ := stB X0 hx hZ e0 Ar2 (j := (0 : Int32)) hin2 (g := (mkF m 31 #[rv va, iv 0, rv da, iv 0, iv 2, iv 0, iv c0] [(.int (c0.toInt8.toInt32)), (.int 0), (.ref da)])) rfl rfl (hb hby d5_31)
  have N2 := Fr.snoc X2 N0 g_da
  have V2 : Arv Z h2 da kd .byte (2 : Int32) [(.int (nar .byte (c0.toInt8.toInt32))), (.int 0)] (.int 0) := Arv.set Ar2 q2 S2 M2 H2 G2 (fits_nar_byte _) W2 0 rfl (Nat.le_of_ble_eq_true rfl)
  refine Go.by st2 ?_
  show Go _ _ _ _ T2 (mkF m 32 #[rv va, iv 0, rv da, iv 0, iv 2, iv 0, iv c0] [])
  rw [own_bn] at V2
  refine Go.iinc 35 X2 hx (1 : Int32) (L' := #[rv va, iv 1, rv da, iv 0, iv 2, iv 0, iv c0]) (hb hby d5_32) (by decide) rfl rfl rfl ?_
  refine Go.iinc 38 X2 hx (1 : Int32) (L' := #[rv va, iv 1, rv da, iv 1, iv 2, iv 0, iv c0]) (hb hby d5_35) (by decide) rfl rfl rfl ?_
  refine Go.iinc 41 X2 hx (1 : Int32) (L' := #[rv va, iv 1, rv da, iv 1, iv 2, iv 1, iv c0]) (hb hby d5_38) (by decide) rfl rfl rfl ?_
  refine Go.goto 3 X2 hx (hb hby d5_41) (by decide) (by decide) ?_
  refine Go.iload2 5 X2 hx (hb hby d5_3) rfl rfl ?_
  refine Go.iload2 7 X2 hx (hb hby d5_5) rfl rfl ?_
  refine Go.icmpN 10 X2 hx (hb hby d5_7) (XT.ii_ge_f (by decide)) rfl ?_
  refine Go.aload1 11 X2 hx (hb hby d5_10) rfl rfl rfl ?_
  refine Go.iload1 12 X2 hx (hb hby d5_11) rfl rfl ?_
  have F3 : Arv Z h2 va kv .char (2 : Int32) [(.int c0), (.int c1)] (.int 0) := V_va.other W2 ne_va_da
  obtain ⟨cl4, Ar4, -, S4, M4, H4, -⟩ := id F3
  have hin4 : ¬ ((1 : Int32) < 0 ∨ cl4.slots.size ≤ (1 : Int32).toNatClampNeg) := inb_of S4 ⟨by decide, by decide⟩
  refine Go.by (fun _ gk => X2.caload hx (j := (1 : Int32)) (v := (.int c1)) (by rw [e2]; exact Ar4.1) (State.isArrayOf_alike hZ.alike Ar4.2.1) Ar4.2.2 hin4 (Has.at H4 hin4 rfl) (g := (mkF m 12 #[rv va, iv 1, rv da, iv 1, iv 2, iv 1, iv c0] [(.int 1), (.ref va)])) rfl rfl (hb hby d5_12) _ gk) ?_
  show Go _ _ _ _ T2 (mkF m 13 #[rv va, iv 1, rv da, iv 1, iv 2, iv 1, iv c0] [(.int c1)])
  refine Go.istore2 15 X2 hx (L' := #[rv va, iv 1, rv da, iv 1, iv 2, iv 1, iv c1]) (hb hby d5_13) rfl rfl ?_
  refine Go.iload2 17 X2 hx (hb hby d5_15) rfl rfl ?_
  refine Go.sipush 20 X2 hx (255 : Int32) (hb hby d5_17) (by decide) rfl ?_
  refine Go.icmpY 26 X2 hx (hb hby d5_20) (XT.ii_le_t hc1) (by decide) (by decide) ?_
  refine Go.aload1 27 X2 hx (hb hby d5_26) rfl rfl rfl ?_
  refine Go.iload1 28 X2 hx (hb hby d5_27) rfl rfl ?_
  refine Go.iload2 30 X2 hx (hb hby d5_28) rfl rfl ?_
  refine Go.i2b 31 X2 hx (hb hby d5_30) rfl ?_
  obtain ⟨cl5, Ar5, q5, S5, M5, H5, G5⟩ := id V2
  have hin5 : ¬ ((1 : Int32) < 0 ∨ cl5.slots.size ≤ (1 : Int32).toNatClampNeg) := inb_of S5 ⟨by decide, by decide⟩
  obtain ⟨T5, h5, X5, e5, W5, st5⟩ := stB X2 hx hZ e2 Ar5 (j := (1 : Int32)) hin5 (g := (mkF m 31 #[rv va, iv 1, rv da, iv 1, iv 2, iv 1, iv c1] [(.int (c1.toInt8.toInt32)), (.int 1), (.ref da)])) rfl rfl (hb hby d5_31)
  have N5 := Fr.snoc X5 N2 g_da
  have V5 : Arv Z h5 da kd .byte (2 : Int32) [(.int (own_b c0)), (.int (nar .byte (c1.toInt8.toInt32)))] (.int 0) := Arv.set Ar5 q5 S5 M5 H5 G5 (fits_nar_byte _) W5 1 rfl (Nat.le_of_ble_eq_true rfl)
  refine Go.by st5 ?_
  show Go _ _ _ _ T5 (mkF m 32 #[rv va, iv 1, rv da, iv 1, iv 2, iv 1, iv c1] [])
  rw [own_bn] at V5
  refine Go.iinc 35 X5 hx (1 : Int32) (L' := #[rv va, iv 2, rv da, iv 1, iv 2, iv 1, iv c1]) (hb hby d5_32) (by decide) rfl rfl rfl ?_
  refine Go.iinc 38 X5 hx (1 : Int32) (L' := #[rv va, iv 2, rv da, iv 2, iv 2, iv 1, iv c1]) (hb hby d5_35) (by decide) rfl rfl rfl ?_
  refine Go.iinc 41 X5 hx (1 : Int32) (L' := #[rv va, iv 2, rv da, iv 2, iv 2, iv 2, iv c1]) (hb hby d5_38) (by decide) rfl rfl rfl ?_
  refine Go.goto 3 X5 hx (hb hby d5_41) (by decide) (by decide) ?_
  refine Go.iload2 5 X5 hx (hb hby d5_3) rfl rfl ?_
  refine Go.iload2 7 X5 hx (hb hby d5_5) rfl rfl ?_
  refine Go.icmpY 44 X5 hx (hb hby d5_7) (XT.ii_ge_t (by decide)) (by decide) (by decide) ?_
  refine Go.iload2 46 X5 hx (hb hby d5_44) rfl rfl ?_
  have F6 : Keep h0 h2 [da] := (Keep.refl h0 [da]).wr W2 (Or.inl (List.mem_of_getElem? (i := 0) rfl))
  have F7 : Keep h0 h5 [da] := F6.wr W5 (Or.inl (List.mem_of_getElem? (i := 0) rfl))
  exact Go.retI X5 hx Bd.notSynchronized Bd.returns rfl (by simp) (hb hby d5_46) (by rw [e5]; exact ⟨rfl, N5, F7, V5⟩) (by decide) (by decide)
theorem ef_674 (m : MethodId) (x0 : Addr) (x1 : Int32) (x2 : Int32) : entryFrame m #[(.ref x0), (.int x1), (.int x2)] 6 = mkF m 0 #[rv x0, iv x1, iv x2, un, un, un] [] := by (first | (simp [entryFrame, mkF, argsToLocals, Value.category]; done) | rfl)
theorem d4_0 : decode jdk_52_method_16_code 0 = .ok (.iload_n 2, 1) := by decide +kernel
theorem d4_1 : decode jdk_52_method_16_code 1 = .ok (.newarray .byte, 2) := by decide +kernel
theorem d4_3 : decode jdk_52_method_16_code 3 = .ok (.astore_n 3, 1) := by decide +kernel
theorem d4_4 : decode jdk_52_method_16_code 4 = .ok (.aload_n 0, 1) := by decide +kernel
theorem d4_5 : decode jdk_52_method_16_code 5 = .ok (.iload_n 1, 1) := by decide +kernel
theorem d4_6 : decode jdk_52_method_16_code 6 = .ok (.aload_n 3, 1) := by decide +kernel
theorem d4_7 : decode jdk_52_method_16_code 7 = .ok (.iconst 0, 1) := by decide +kernel
theorem d4_8 : decode jdk_52_method_16_code 8 = .ok (.iload_n 2, 1) := by decide +kernel
theorem pd_683 : parseMethodDescriptor "([CI[BII)I" = some ⟨[(.array .char), .int, (.array .byte), .int, .int], some .int⟩ := by decide +kernel
theorem d4_9 : decode jdk_52_method_16_code 9 = .ok (.invokestatic 115, 3) := by decide +kernel
theorem d4_12 : decode jdk_52_method_16_code 12 = .ok (.istore 4, 2) := by decide +kernel
theorem d4_14 : decode jdk_52_method_16_code 14 = .ok (.iload 4, 2) := by decide +kernel
theorem d4_16 : decode jdk_52_method_16_code 16 = .ok (.iload_n 2, 1) := by decide +kernel
theorem d4_17 : decode jdk_52_method_16_code 17 = .ok (.if_icmp .eq 40, 3) := by decide +kernel
theorem d4_57 : decode jdk_52_method_16_code 57 = .ok (.aload_n 3, 1) := by decide +kernel
theorem d4_58 : decode jdk_52_method_16_code 58 = .ok (.areturn, 1) := by decide +kernel
def Q_rmC3_2 (Z : State) (va : Addr) (kv : ClassId) (c0 : Int32) (c1 : Int32) (h0 : Heap) (n0 : Nat) (v : Option Value) (h : Heap) (L : List Loc) : Prop := ∃ da : Addr, ∃ kd : ClassId, v = some (.ref da) ∧ Fr n0 L ∧ Keep h0 h [] ∧ Arv Z h da kd .byte (2 : Int32) ([(.int (own_b c0)), (.int (own_b c1))]) (.int 0) ∧ h0.size ≤ da
set_option maxRecDepth 65536 in
set_option maxHeartbeats 40000000 in
theorem rmC3_2 (l : Launch) (Z : State) (a0 : Array Value) (hw : ∀ d ∈ tables_1, d.before a0 Z = true) (ws : List Jvm.Cond) (va : Addr) (kv : ClassId) (c0 : Int32) (c1 : Int32) (h0 : Heap) (n0 : Nat) (Z0 : n0 ≤ h0.size) (V_va : Arv Z h0 va kv .char (2 : Int32) ([(.int c0), (.int c1)]) (.int 0)) (hc0 : (¬ (255 : Int32) < c0)) (hc1 : (¬ (255 : Int32) < c1)) :
    MetFree l (⟨"java/lang/StringUTF16", "compress", "([CII)[B"⟩ : MethodName) (head1 (Jvm.Cond.code (⟨"java/lang/StringUTF16", "compress", "([CII)[B"⟩ : MethodName) jdk_52_method_16_code 6 (some (.array .byte)) :: ws) ({ frames := 1, cells := 1, slots := 2, locals := 18 } : Room)) (fun as' U => as' = #[(.ref va), (.int 0), (.int 2)] ∧ Z.Warmed39 U.vm ∧ U.heap = h0) (fun _ _ _ _ _ => True) (fun _ U o U' => ∃ v L, o = .returned v ∧ Q_rmC3_2 Z va kv c0 c1 h0 n0 v U'.heap L ∧ FrameEnd U o U' L ({ frames := 1, cells := 1, slots := 2, locals := 18 } : Room).cells ({ frames := 1, cells := 1, slots := 2, locals := 18 } : Room).slots) := by
  refine MetFree.of_bodySF (plainFor_of_name pn_649) hisR ?_
  intro p e s m args below meth c s₁ Bd hml0 hP hK
  obtain ⟨rfl, hZ, hh⟩ := hP
  have hx := Bd.exec
  have hby := Bd.bytes
  have hml : c.maxLocals = 6 := hml0
  have hown : s.vm.findClass "java/lang/StringUTF16" = some m.cls := findClass_of_methodNamed Bd.named
  have hnm := (name_of_methodNamed Bd.named Bd.method).1
  have X0 : Stand p l e ({ frames := 1, cells := 1, slots := 2, locals := 18 } : Room) s m #[(.ref va), (.int 0), (.int 2)] below meth c s₁ [] 0 0 := Stand.of_body Bd
  have e0 : s₁.heap = h0 := by rw [← hh, Bd.state]; rfl
  have N0 := Fr.nil n0
  refine Go.enter (F := EndN s (Q_rmC3_2 Z va kv c0 c1 h0 n0) ({ frames := 1, cells := 1, slots := 2, locals := 18 } : Room).cells ({ frames := 1, cells := 1, slots := 2, locals := 18 } : Room).slots) (ef_674 m va (0 : Int32) (2 : Int32)) ?_
  show Go _ _ _ _ s₁ (mkF m 0 #[rv va, iv 0, iv 2, un, un, un] [])
  refine Go.iload1 1 X0 hx (hb hby d4_0) rfl rfl ?_
  obtain ⟨da, g1⟩ : ∃ z, z = h0.size := ⟨_, rfl⟩
  have ge_da : n0 ≤ da := Nat.le_trans Z0 (Nat.le_of_eq g1.symm)
  have sz_da : h0.size ≤ da := Nat.le_trans (Keep.refl h0 []).1 (Nat.le_of_eq g1.symm)
  have ne_va_da : va ≠ da := Nat.ne_of_lt (Nat.lt_of_lt_of_le V_va.lt (Nat.le_of_eq g1.symm))
  obtain ⟨T1, h1, k1, X1, e1, E1, A1, Ea1, st1⟩ := newPE X0 hx hZ (ow hw 19 rfl) e0 (g := (mkF m 1 #[rv va, iv 0, iv 2, un, un, un] [(.int 2)])) rfl (hb hby d4_1) rfl (by decide) (cap := 2) (by decide) (by decide) (by decide) (by decide) (ad := "[B") rfl
  rw [← g1] at A1 Ea1 st1
  have V_da : Arv Z h1 da k1 .byte (2 : Int32) [(.int 0), (.int 0)] (.int 0) := (Arv.new A1 (by decide)).pad (pad_rep [] (.int 0) 2)
  refine Go.by st1 ?_
  show Go _ _ _ _ T1 (mkF m 3 #[rv va, iv 0, iv 2, un, un, un] [(.ref da)])
  refine Go.astore1 4 X1 hx (L' := #[rv va, iv 0, iv 2, rv da, un, un]) (hb hby d4_3) rfl rfl rfl ?_
  refine Go.aload1 5 X1 hx (hb hby d4_4) rfl rfl rfl ?_
  refine Go.iload1 6 X1 hx (hb hby d4_5) rfl rfl ?_
  refine Go.aload1 7 X1 hx (hb hby d4_6) rfl rfl rfl ?_
  refine Go.iconst 8 X1 hx (0 : Int32) (hb hby d4_7) (by decide) rfl ?_
  refine Go.iload1 9 X1 hx (hb hby d4_8) rfl rfl ?_
  have F2 : Arv Z h1 va kv .char (2 : Int32) [(.int c0), (.int c1)] (.int 0) := V_va.ext E1
  have F3 : n0 ≤ h1.size := Nat.le_trans Z0 E1.1
  obtain ⟨_, _, ⟨T4, L4, k4, n4⟩, -, X4, ⟨Lc4, hQ4, l4, y4, z4⟩, st4⟩ := Jvm.LawKit.callS X1 hx (y := (⟨"java/lang/StringUTF16", "compress", "([CI[BII)I"⟩ : MethodName)) hown (mvT hZ (ow hw 20 rfl)) (mvT hZ (ow hw 21 rfl)) (mvT hZ (ow hw 17 rfl)) (mvT hZ (ow hw 22 rfl)) (by decide) (backOf (W := 0) (rmC5_2 l Z a0 hw [] va da kv k1 c0 c1 h1 n0 F3 F2 V_da ge_da ne_va_da hc0 hc1) hZ (ow hw 22 rfl) (ow hw 17 rfl) (by decide) (by decide)) (g := (mkF m 9 #[rv va, iv 0, iv 2, rv da, un, un] [(.int 2), (.int 0), (.ref da), (.int 0), (.ref va)])) rfl (by rw [hml]; rfl) (argsL := [(.ref va), (.int 0), (.ref da), (.int 0), (.int 2)]) (rest := []) (lenOf pd_683 rfl) rfl (by show 2 * 0 + _ ≤ _; exact Nat.le_of_eq rfl) (hb hby d4_9) (fun _ _ => ⟨rfl, e1, (by decide : 1 + 0 ≤ _), (by decide : 2 + 0 ≤ _)⟩)
  dsimp only [Pt.U, Pt.locs, Pt.cells, Pt.slots] at X4 l4 y4 z4 st4 hQ4
  subst l4 y4 z4
  obtain ⟨rfl, N4q, K4, Q4_0⟩ := hQ4
  have N4 := Fr.app N0 N4q
  refine Go.by st4 ?_
  show Go _ _ _ _ T4 (mkF m 12 #[rv va, iv 0, iv 2, rv da, un, un] [(.int 2)])
  refine Go.istore2 14 X4 hx (L' := #[rv va, iv 0, iv 2, rv da, iv 2, un]) (hb hby d4_12) rfl rfl ?_
  refine Go.iload2 16 X4 hx (hb hby d4_14) rfl rfl ?_
  refine Go.iload1 17 X4 hx (hb hby d4_16) rfl rfl ?_
  refine Go.icmpY 57 X4 hx (hb hby d4_17) (XT.ii_eq_t rfl) (by decide) (by decide) ?_
  refine Go.aload1 58 X4 hx (hb hby d4_57) rfl rfl rfl ?_
  have F5 : Keep h0 h1 [] := (Keep.refl h0 []).ext E1
  have F6 : Keep h0 T4.heap [] := F5.trans K4 (allS (Or.inr sz_da) all0)
  exact Go.retA X4 hx Bd.notSynchronized Bd.returns rfl rfl (hb hby d4_58) ⟨da, k1, rfl, N4, F6, Q4_0, sz_da⟩ (by decide) (by decide)
theorem d6_0 : decode jdk_52_method_15_code 0 = .ok (.iload_n 1, 1) := by decide +kernel
theorem d6_1 : decode jdk_52_method_15_code 1 = .ok (.aload_n 0, 1) := by decide +kernel
theorem d6_2 : decode jdk_52_method_15_code 2 = .ok (.arraylength, 1) := by decide +kernel
theorem d6_3 : decode jdk_52_method_15_code 3 = .ok (.isub, 1) := by decide +kernel
theorem d6_4 : decode jdk_52_method_15_code 4 = .ok (.bipush 31, 2) := by decide +kernel
theorem d6_6 : decode jdk_52_method_15_code 6 = .ok (.iushr, 1) := by decide +kernel
theorem d6_7 : decode jdk_52_method_15_code 7 = .ok (.i2b, 1) := by decide +kernel
theorem d6_8 : decode jdk_52_method_15_code 8 = .ok (.ireturn, 1) := by decide +kernel
def Q_rmCoder_2 (Z : State) (da : Addr) (kd : ClassId) (vs : List Value) (h0 : Heap) (n0 : Nat) (v : Option Value) (h : Heap) (L : List Loc) : Prop := v = some (.int 0) ∧ Fr n0 L ∧ h = h0
set_option maxRecDepth 65536 in
set_option maxHeartbeats 40000000 in
theorem rmCoder_2 (l : Launch) (Z : State) (a0 : Array Value) (hw : ∀ d ∈ tables_1, d.before a0 Z = true) (ws : List Jvm.Cond) (da : Addr) (kd : ClassId) (vs : List Value) (h0 : Heap) (n0 : Nat) (Z0 : n0 ≤ h0.size) (V_da : Arv Z h0 da kd .byte (2 : Int32) vs (.int 0)) :
    MetFree l (⟨"java/lang/StringUTF16", "coderFromArrayLen", "([BI)B"⟩ : MethodName) (head1 (Jvm.Cond.code (⟨"java/lang/StringUTF16", "coderFromArrayLen", "([BI)B"⟩ : MethodName) jdk_52_method_15_code 2 (some .byte) :: ws) ({ frames := 0, cells := 0, slots := 0, locals := 0 } : Room)) (fun as' U => as' = #[(.ref da), (.int 2)] ∧ Z.Warmed39 U.vm ∧ U.heap = h0) (fun _ _ _ _ _ => True) (fun _ U o U' => ∃ v L, o = .returned v ∧ Q_rmCoder_2 Z da kd vs h0 n0 v U'.heap L ∧ FrameEnd U o U' L ({ frames := 0, cells := 0, slots := 0, locals := 0 } : Room).cells ({ frames := 0, cells := 0, slots := 0, locals := 0 } : Room).slots) := by
  refine MetFree.of_bodySF (plainFor_of_name pn_649) hisR ?_
  intro p e s m args below meth c s₁ Bd hml0 hP hK
  obtain ⟨rfl, hZ, hh⟩ := hP
  have hx := Bd.exec
  have hby := Bd.bytes
  have hml : c.maxLocals = 2 := hml0
  have hown : s.vm.findClass "java/lang/StringUTF16" = some m.cls := findClass_of_methodNamed Bd.named
  have hnm := (name_of_methodNamed Bd.named Bd.method).1
  have X0 : Stand p l e ({ frames := 0, cells := 0, slots := 0, locals := 0 } : Room) s m #[(.ref da), (.int 2)] below meth c s₁ [] 0 0 := Stand.of_body Bd
  have e0 : s₁.heap = h0 := by rw [← hh, Bd.state]; rfl
  have N0 := Fr.nil n0
  refine Go.enter (F := EndN s (Q_rmCoder_2 Z da kd vs h0 n0) ({ frames := 0, cells := 0, slots := 0, locals := 0 } : Room).cells ({ frames := 0, cells := 0, slots := 0, locals := 0 } : Room).slots) (ef_612 m da (2 : Int32)) ?_
  show Go _ _ _ _ s₁ (mkF m 0 #[rv da, iv 2] [])
  refine Go.iload1 1 X0 hx (hb hby d6_0) rfl rfl ?_
  refine Go.aload1 2 X0 hx (hb hby d6_1) rfl rfl rfl ?_
  obtain ⟨cl1, Ar1, -, S1, M1, -, -⟩ := id V_da
  refine Go.by (fun _ gk => X0.arraylength hx (by rw [e0]; exact Ar1.1) (State.isArrayOf_alike hZ.alike Ar1.2.1) (g := (mkF m 2 #[rv da, iv 2] [(.ref da), (.int 2)])) rfl rfl (hb hby d6_2) _ gk) ?_
  rw [len_of S1 M1]
  show Go _ _ _ _ s₁ (mkF m 3 #[rv da, iv 2] [(.int 2), (.int 2)])
  refine Go.isub 4 X0 hx (hb hby d6_3) rfl ?_
  rw [(by decide : ((2 : Int32) - (2 : Int32)) = (0 : Int32))]
  refine Go.bipush 6 X0 hx (31 : Int32) (hb hby d6_4) (by decide) rfl ?_
  refine Go.iushr 7 X0 hx (hb hby d6_6) rfl ?_
  rw [(by decide : (XT.ushr (0 : Int32) (31 : Int32)) = (0 : Int32))]
  refine Go.i2b 8 X0 hx (hb hby d6_7) rfl ?_
  rw [(by decide : ((0 : Int32).toInt8.toInt32) = (0 : Int32))]
  exact Go.retI X0 hx Bd.notSynchronized Bd.returns rfl (by simp) (hb hby d6_8) (by rw [e0]; exact ⟨rfl, N0, rfl⟩) (by decide) (by decide)
theorem ef_699 (m : MethodId) (x0 : Addr) (x1 : Addr) (x2 : Int32) (x3 : Int32) : entryFrame m #[(.ref x0), (.ref x1), (.int x2), (.int x3), .null] 6 = mkF m 0 #[rv x0, rv x1, iv x2, iv x3, .val .null, un] [] := by (first | (simp [entryFrame, mkF, argsToLocals, Value.category]; done) | rfl)
theorem d2_0 : decode jdk_42_method_149_code 0 = .ok (.aload_n 0, 1) := by decide +kernel
theorem d2_1 : decode jdk_42_method_149_code 1 = .ok (.invokespecial 1, 3) := by decide +kernel
theorem d2_4 : decode jdk_42_method_149_code 4 = .ok (.iload_n 3, 1) := by decide +kernel
theorem d2_5 : decode jdk_42_method_149_code 5 = .ok (.ifCond .ne 22, 3) := by decide +kernel
theorem d2_27 : decode jdk_42_method_149_code 27 = .ok (.getstatic 38, 3) := by decide +kernel
theorem d2_30 : decode jdk_42_method_149_code 30 = .ok (.ifCond .eq 28, 3) := by decide +kernel
theorem d2_33 : decode jdk_42_method_149_code 33 = .ok (.aload_n 1, 1) := by decide +kernel
theorem d2_34 : decode jdk_42_method_149_code 34 = .ok (.iload_n 2, 1) := by decide +kernel
theorem d2_35 : decode jdk_42_method_149_code 35 = .ok (.iload_n 3, 1) := by decide +kernel
theorem pd_709 : parseMethodDescriptor "([CII)[B" = some ⟨[(.array .char), .int, .int], some (.array .byte)⟩ := by decide +kernel
theorem d2_36 : decode jdk_42_method_149_code 36 = .ok (.invokestatic 177, 3) := by decide +kernel
theorem d2_39 : decode jdk_42_method_149_code 39 = .ok (.astore 5, 2) := by decide +kernel
theorem d2_41 : decode jdk_42_method_149_code 41 = .ok (.aload_n 0, 1) := by decide +kernel
theorem d2_42 : decode jdk_42_method_149_code 42 = .ok (.aload 5, 2) := by decide +kernel
theorem d2_44 : decode jdk_42_method_149_code 44 = .ok (.iload_n 3, 1) := by decide +kernel
theorem pd_715 : parseMethodDescriptor "([BI)B" = some ⟨[(.array .byte), .int], some .byte⟩ := by decide +kernel
theorem d2_45 : decode jdk_42_method_149_code 45 = .ok (.invokestatic 47, 3) := by decide +kernel
theorem d2_48 : decode jdk_42_method_149_code 48 = .ok (.putfield 15, 3) := by decide +kernel
theorem d2_51 : decode jdk_42_method_149_code 51 = .ok (.aload_n 0, 1) := by decide +kernel
theorem d2_52 : decode jdk_42_method_149_code 52 = .ok (.aload 5, 2) := by decide +kernel
theorem d2_54 : decode jdk_42_method_149_code 54 = .ok (.putfield 9, 3) := by decide +kernel
theorem d2_57 : decode jdk_42_method_149_code 57 = .ok (.return_, 1) := by decide +kernel
def Q_rmS4_2 (Z : State) (a : Addr) (va : Addr) (kv : ClassId) (c0 : Int32) (c1 : Int32) (cs : Int32) (h0 : Heap) (n0 : Nat) (v : Option Value) (h : Heap) (L : List Loc) : Prop := ∃ b : Addr, ∃ kb : ClassId, v = none ∧ Fr n0 L ∧ Keep h0 h [a] ∧ Exa Z h a "java/lang/String" ∧ Fld Z h a "java/lang/String" "coder" "B" (.int 0) ∧ Fld Z h a "java/lang/String" "value" "[B" (.ref b) ∧ Arv Z h b kb .byte (2 : Int32) ([(.int (own_b c0)), (.int (own_b c1))]) (.int 0) ∧ h0.size ≤ b
set_option maxRecDepth 65536 in
set_option maxHeartbeats 40000000 in
theorem rmS4_2 (l : Launch) (Z : State) (a0 : Array Value) (hw : ∀ d ∈ tables_1, d.before a0 Z = true) (ws : List Jvm.Cond) (a : Addr) (va : Addr) (kv : ClassId) (c0 : Int32) (c1 : Int32) (cs : Int32) (h0 : Heap) (n0 : Nat) (Z0 : n0 ≤ h0.size) (O0 : Old Z n0 h0) (E_a : Exa Z h0 a "java/lang/String") (F_a_value : Fld Z h0 a "java/lang/String" "value" "[B" .null) (F_a_coder : Fld Z h0 a "java/lang/String" "coder" "B" (.int 0)) (g_a : n0 ≤ a) (V_va : Arv Z h0 va kv .char (2 : Int32) ([(.int c0), (.int c1)]) (.int 0)) (hc0 : (¬ (255 : Int32) < c0)) (hc1 : (¬ (255 : Int32) < c1)) (S_cs : Sta Z Z.heap "java/lang/String" "COMPACT_STRINGS" "Z" (.int cs)) (n_cs : ¬ cs = 0) :
    MetFree l (⟨"java/lang/String", "<init>", "([CIILjava/lang/Void;)V"⟩ : MethodName) (head1 (Jvm.Cond.code (⟨"java/lang/String", "<init>", "([CIILjava/lang/Void;)V"⟩ : MethodName) jdk_42_method_149_code 6 none :: ws) ({ frames := 2, cells := 1, slots := 2, locals := 35 } : Room)) (fun as' U => as' = #[(.ref a), (.ref va), (.int 0), (.int 2), .null] ∧ Z.Warmed39 U.vm ∧ U.heap = h0) (fun _ _ _ _ _ => True) (fun _ U o U' => ∃ v L, o = .returned v ∧ Q_rmS4_2 Z a va kv c0 c1 cs h0 n0 v U'.heap L ∧ FrameEnd U o U' L ({ frames := 2, cells := 1, slots := 2, locals := 35 } : Room).cells ({ frames := 2, cells := 1, slots := 2, locals := 35 } : Room).slots) := by
  refine MetFree.of_bodySF (plainFor_of_name pn_642) hisR ?_
  intro p e s m args below meth c s₁ Bd hml0 hP hK
  obtain ⟨rfl, hZ, hh⟩ := hP
  have hx := Bd.exec
  have hby := Bd.bytes
  have hml : c.maxLocals = 6 := hml0
  have hown : s.vm.findClass "java/lang/String" = some m.cls := findClass_of_methodNamed Bd.named
  have hnm := (name_of_methodNamed Bd.named Bd.method).1
  have X0 : Stand p l e ({ frames := 2, cells := 1, slots := 2, locals := 35 } : Room) s m #[(.ref a), (.ref va), (.int 0), (.int 2), .null] below meth c s₁ [] 0 0 := Stand.of_body Bd
  have e0 : s₁.heap = h0 := by rw [← hh, Bd.state]; rfl
  have N0 := Fr.nil n0
  refine Go.enter (F := EndN s (Q_rmS4_2 Z a va kv c0 c1 cs h0 n0) ({ frames := 2, cells := 1, slots := 2, locals := 35 } : Room).cells ({ frames := 2, cells := 1, slots := 2, locals := 35 } : Room).slots) (ef_699 m a va (0 : Int32) (2 : Int32)) ?_
  show Go _ _ _ _ s₁ (mkF m 0 #[rv a, rv va, iv 0, iv 2, .val .null, un] [])
  refine Go.aload1 1 X0 hx (hb hby d2_0) rfl rfl rfl ?_
  obtain ⟨T1, X1, e1, st1⟩ := initO X0 hx hZ hown (ow hw 11 rfl) (ow hw 12 rfl) (ow hw 13 rfl) e0 (g := (mkF m 1 #[rv a, rv va, iv 0, iv 2, .val .null, un] [(.ref a)])) rfl (by rw [hml]; rfl) rfl (hb hby d2_1) (by decide) (W := 0) (by show 2 * 0 + _ ≤ _; exact Nat.le_of_eq rfl) (by decide)
  refine Go.by st1 ?_
  show Go _ _ _ _ T1 (mkF m 4 #[rv a, rv va, iv 0, iv 2, .val .null, un] [])
  refine Go.iload1 5 X1 hx (hb hby d2_4) rfl rfl ?_
  refine Go.ifY 27 X1 hx (hb hby d2_5) (XT.i0_ne_t (by decide)) (by decide) (by decide) ?_
  have F2 : Sta Z h0 "java/lang/String" "COMPACT_STRINGS" "Z" (.int cs) := S_cs.ext O0.2
  obtain ⟨T3, X3, e3, st3⟩ := getS2 X1 hx hZ hown (host := "") (Or.inl (ow hw 14 rfl)) Via.refl e1 F2 (g := (mkF m 27 #[rv a, rv va, iv 0, iv 2, .val .null, un] [])) rfl (hb hby d2_27)
  refine Go.by st3 ?_
  show Go _ _ _ _ T3 (mkF m 30 #[rv a, rv va, iv 0, iv 2, .val .null, un] [(.int cs)])
  refine Go.ifN 33 X3 hx (hb hby d2_30) (XT.i0_eq_f n_cs) rfl ?_
  refine Go.aload1 34 X3 hx (hb hby d2_33) rfl rfl rfl ?_
  refine Go.iload1 35 X3 hx (hb hby d2_34) rfl rfl ?_
  refine Go.iload1 36 X3 hx (hb hby d2_35) rfl rfl ?_
  obtain ⟨_, _, ⟨T4, L4, k4, n4⟩, -, X4, ⟨Lc4, hQ4, l4, y4, z4⟩, st4⟩ := Jvm.LawKit.callS X3 hx (y := (⟨"java/lang/StringUTF16", "compress", "([CII)[B"⟩ : MethodName)) hown (mvT hZ (ow hw 15 rfl)) (mvT hZ (ow hw 16 rfl)) (mvT hZ (ow hw 17 rfl)) (mvT hZ (ow hw 18 rfl)) (by decide) (backOf (W := 0) (rmC3_2 l Z a0 hw [] va kv c0 c1 h0 n0 Z0 V_va hc0 hc1) hZ (ow hw 18 rfl) (ow hw 17 rfl) (by decide) (by decide)) (g := (mkF m 36 #[rv a, rv va, iv 0, iv 2, .val .null, un] [(.int 2), (.int 0), (.ref va)])) rfl (by rw [hml]; rfl) (argsL := [(.ref va), (.int 0), (.int 2)]) (rest := []) (lenOf pd_709 rfl) rfl (by show 2 * 0 + _ ≤ _; exact Nat.le_of_eq rfl) (hb hby d2_36) (fun _ _ => ⟨rfl, e3, (by decide : 0 + 1 ≤ _), (by decide : 0 + 2 ≤ _)⟩)
  dsimp only [Pt.U, Pt.locs, Pt.cells, Pt.slots] at X4 l4 y4 z4 st4 hQ4
  subst l4 y4 z4
  obtain ⟨b, kb, rfl, N4q, K4, Q4_0, Q4_1⟩ := hQ4
  have N4 := Fr.app N0 N4q
  refine Go.by st4 ?_
  show Go _ _ _ _ T4 (mkF m 39 #[rv a, rv va, iv 0, iv 2, .val .null, un] [(.ref b)])
  have ge_b : n0 ≤ b := Nat.le_trans Z0 Q4_1
  have sz_b : h0.size ≤ b := Nat.le_trans (Keep.refl h0 [a]).1 Q4_1
  have ne_a_b : a ≠ b := Nat.ne_of_lt (Nat.lt_of_lt_of_le E_a.lt Q4_1)
  have ne_va_b : va ≠ b := Nat.ne_of_lt (Nat.lt_of_lt_of_le V_va.lt Q4_1)
  refine Go.astore2 41 X4 hx (L' := #[rv a, rv va, iv 0, iv 2, .val .null, rv b]) (hb hby d2_39) rfl rfl rfl ?_
  refine Go.aload1 42 X4 hx (hb hby d2_41) rfl rfl rfl ?_
  refine Go.aload2 44 X4 hx (hb hby d2_42) rfl rfl rfl ?_
  refine Go.iload1 45 X4 hx (hb hby d2_44) rfl rfl ?_
  have F5 : n0 ≤ T4.heap.size := Nat.le_trans Z0 K4.1
  obtain ⟨_, _, ⟨T6, L6, k6, n6⟩, -, X6, ⟨Lc6, hQ6, l6, y6, z6⟩, st6⟩ := Jvm.LawKit.callS X4 hx (y := (⟨"java/lang/StringUTF16", "coderFromArrayLen", "([BI)B"⟩ : MethodName)) hown (mvT hZ (ow hw 23 rfl)) (mvT hZ (ow hw 24 rfl)) (mvT hZ (ow hw 17 rfl)) (mvT hZ (ow hw 25 rfl)) (by decide) (backOf (W := 1) (rmCoder_2 l Z a0 hw [] b kb ([(.int (own_b c0)), (.int (own_b c1))]) T4.heap n0 F5 Q4_0) hZ (ow hw 25 rfl) (ow hw 17 rfl) (by decide) (by decide)) (g := (mkF m 45 #[rv a, rv va, iv 0, iv 2, .val .null, rv b] [(.int 2), (.ref b), (.ref a)])) rfl (by rw [hml]; rfl) (argsL := [(.ref b), (.int 2)]) (rest := [(.ref a)]) (lenOf pd_715 rfl) rfl (by show 2 * 0 + _ ≤ _; exact Nat.le_of_eq rfl) (hb hby d2_45) (fun _ _ => ⟨rfl, rfl, (by decide : 1 + 0 ≤ _), (by decide : 2 + 0 ≤ _)⟩)
  dsimp only [Pt.U, Pt.locs, Pt.cells, Pt.slots] at X6 l6 y6 z6 st6 hQ6
  subst l6 y6 z6
  obtain ⟨rfl, N6q, e6⟩ := hQ6
  have N6 := Fr.app N4 N6q
  refine Go.by st6 ?_
  show Go _ _ _ _ T6 (mkF m 48 #[rv a, rv va, iv 0, iv 2, .val .null, rv b] [(.int 0), (.ref a)])
  have F7 : Fld Z T4.heap a "java/lang/String" "coder" "B" (.int 0) := F_a_coder.keep K4 nin0
  have F8 : Exa Z T4.heap a "java/lang/String" := E_a.keep K4
  obtain ⟨T9, h9, X9, e9, W9, st9⟩ := putFN X6 hx hZ hown (ow hw 26 rfl) Via.refl e6 F7 F8 (Or.inr ⟨(ow hw 27 rfl), rfl, hnm⟩) (ow hw 2 rfl) (ty := .byte) (v' := (.int 0)) (by decide) rfl rfl (g := (mkF m 48 #[rv a, rv va, iv 0, iv 2, .val .null, rv b] [(.int 0), (.ref a)])) rfl rfl (hb hby d2_48)
  have N9 := Fr.snoc X9 N6 g_a
  have Fw9 : Fld Z h9 a "java/lang/String" "coder" "B" (.int 0) := F7.same W9
  refine Go.by st9 ?_
  show Go _ _ _ _ T9 (mkF m 51 #[rv a, rv va, iv 0, iv 2, .val .null, rv b] [])
  refine Go.aload1 52 X9 hx (hb hby d2_51) rfl rfl rfl ?_
  refine Go.aload2 54 X9 hx (hb hby d2_52) rfl rfl rfl ?_
  have F10 : Fld Z T4.heap a "java/lang/String" "value" "[B" .null := F_a_value.keep K4 nin0
  have F11 : Fld Z h9 a "java/lang/String" "value" "[B" .null := F10.other W9 (Or.inr (slot_ne (Or.inr (ow hw 29 rfl)) (Or.inr (ow hw 27 rfl)) (by decide) (t := (.array .byte)) (t' := .byte) (by decide) (by decide)))
  have F12 : Exa Z h9 a "java/lang/String" := F8.wr W9
  obtain ⟨T13, h13, X13, e13, W13, st13⟩ := putF X9 hx hZ hown (host := "") (Or.inl (ow hw 28 rfl)) Via.refl e9 F11 F12 (Or.inr ⟨(ow hw 29 rfl), rfl, hnm⟩) (ow hw 2 rfl) (ty := (.array .byte)) (by decide) rfl rfl (g := (mkF m 54 #[rv a, rv va, iv 0, iv 2, .val .null, rv b] [(.ref b), (.ref a)])) rfl rfl (hb hby d2_54)
  have N13 := Fr.snoc X13 N9 g_a
  have Fw13 : Fld Z h13 a "java/lang/String" "value" "[B" (.ref b) := F11.same W13
  refine Go.by st13 ?_
  show Go _ _ _ _ T13 (mkF m 57 #[rv a, rv va, iv 0, iv 2, .val .null, rv b] [])
  have F14 : Keep h0 T4.heap [a] := (Keep.refl h0 [a]).trans K4 all0
  have F15 : Keep h0 h9 [a] := F14.wr W9 (Or.inl (List.mem_of_getElem? (i := 0) rfl))
  have F16 : Keep h0 h13 [a] := F15.wr W13 (Or.inl (List.mem_of_getElem? (i := 0) rfl))
  have F17 : Exa Z h13 a "java/lang/String" := F12.wr W13
  have F18 : Fld Z h13 a "java/lang/String" "coder" "B" (.int 0) := Fw9.other W13 (Or.inr (slot_ne (Or.inr (ow hw 27 rfl)) (Or.inr (ow hw 29 rfl)) (by decide) (t := .byte) (t' := (.array .byte)) (by decide) (by decide)))
  have F19 : Arv Z h9 b kb .byte (2 : Int32) [(.int (own_b c0)), (.int (own_b c1))] (.int 0) := Q4_0.other W9 (Ne.symm ne_a_b)
  have F20 : Arv Z h13 b kb .byte (2 : Int32) [(.int (own_b c0)), (.int (own_b c1))] (.int 0) := F19.other W13 (Ne.symm ne_a_b)
  exact Go.retV X13 hx Bd.notSynchronized Bd.returns (hb hby d2_57) (by rw [e13]; exact ⟨b, kb, rfl, N13, F16, F17, F18, Fw13, F20, sz_b⟩) (by decide) (by decide)
theorem ef_722 (m : MethodId) (x0 : Addr) (x1 : Addr) : entryFrame m #[(.ref x0), (.ref x1)] 2 = mkF m 0 #[rv x0, rv x1] [] := by (first | (simp [entryFrame, mkF, argsToLocals, Value.category]; done) | rfl)
theorem d1_0 : decode jdk_42_method_3_code 0 = .ok (.aload_n 0, 1) := by decide +kernel
theorem d1_1 : decode jdk_42_method_3_code 1 = .ok (.aload_n 1, 1) := by decide +kernel
theorem d1_2 : decode jdk_42_method_3_code 2 = .ok (.iconst 0, 1) := by decide +kernel
theorem d1_3 : decode jdk_42_method_3_code 3 = .ok (.aload_n 1, 1) := by decide +kernel
theorem d1_4 : decode jdk_42_method_3_code 4 = .ok (.arraylength, 1) := by decide +kernel
theorem d1_5 : decode jdk_42_method_3_code 5 = .ok (.aconst_null, 1) := by decide +kernel
theorem pd_729 : parseMethodDescriptor "([CIILjava/lang/Void;)V" = some ⟨[(.array .char), .int, .int, (.object "java/lang/Void")], none⟩ := by decide +kernel
theorem d1_6 : decode jdk_42_method_3_code 6 = .ok (.invokespecial 27, 3) := by decide +kernel
theorem d1_9 : decode jdk_42_method_3_code 9 = .ok (.return_, 1) := by decide +kernel
def Q_rmS1_2 (Z : State) (a : Addr) (va : Addr) (kv : ClassId) (c0 : Int32) (c1 : Int32) (cs : Int32) (h0 : Heap) (n0 : Nat) (v : Option Value) (h : Heap) (L : List Loc) : Prop := ∃ b : Addr, ∃ kb : ClassId, v = none ∧ Fr n0 L ∧ Keep h0 h [a] ∧ Exa Z h a "java/lang/String" ∧ Fld Z h a "java/lang/String" "coder" "B" (.int 0) ∧ Fld Z h a "java/lang/String" "value" "[B" (.ref b) ∧ Arv Z h b kb .byte (2 : Int32) ([(.int (own_b c0)), (.int (own_b c1))]) (.int 0) ∧ h0.size ≤ b
set_option maxRecDepth 65536 in
set_option maxHeartbeats 40000000 in
theorem rmS1_2 (l : Launch) (Z : State) (a0 : Array Value) (hw : ∀ d ∈ tables_1, d.before a0 Z = true) (ws : List Jvm.Cond) (a : Addr) (va : Addr) (kv : ClassId) (c0 : Int32) (c1 : Int32) (cs : Int32) (h0 : Heap) (n0 : Nat) (Z0 : n0 ≤ h0.size) (O0 : Old Z n0 h0) (E_a : Exa Z h0 a "java/lang/String") (F_a_value : Fld Z h0 a "java/lang/String" "value" "[B" .null) (F_a_coder : Fld Z h0 a "java/lang/String" "coder" "B" (.int 0)) (g_a : n0 ≤ a) (V_va : Arv Z h0 va kv .char (2 : Int32) ([(.int c0), (.int c1)]) (.int 0)) (hc0 : (¬ (255 : Int32) < c0)) (hc1 : (¬ (255 : Int32) < c1)) (S_cs : Sta Z Z.heap "java/lang/String" "COMPACT_STRINGS" "Z" (.int cs)) (n_cs : ¬ cs = 0) :
    MetFree l (⟨"java/lang/String", "<init>", "([C)V"⟩ : MethodName) (head1 (Jvm.Cond.code (⟨"java/lang/String", "<init>", "([C)V"⟩ : MethodName) jdk_42_method_3_code 2 none :: ws) ({ frames := 3, cells := 1, slots := 2, locals := 52 } : Room)) (fun as' U => as' = #[(.ref a), (.ref va)] ∧ Z.Warmed39 U.vm ∧ U.heap = h0) (fun _ _ _ _ _ => True) (fun _ U o U' => ∃ v L, o = .returned v ∧ Q_rmS1_2 Z a va kv c0 c1 cs h0 n0 v U'.heap L ∧ FrameEnd U o U' L ({ frames := 3, cells := 1, slots := 2, locals := 52 } : Room).cells ({ frames := 3, cells := 1, slots := 2, locals := 52 } : Room).slots) := by
  refine MetFree.of_bodySF (plainFor_of_name pn_642) hisR ?_
  intro p e s m args below meth c s₁ Bd hml0 hP hK
  obtain ⟨rfl, hZ, hh⟩ := hP
  have hx := Bd.exec
  have hby := Bd.bytes
  have hml : c.maxLocals = 2 := hml0
  have hown : s.vm.findClass "java/lang/String" = some m.cls := findClass_of_methodNamed Bd.named
  have hnm := (name_of_methodNamed Bd.named Bd.method).1
  have X0 : Stand p l e ({ frames := 3, cells := 1, slots := 2, locals := 52 } : Room) s m #[(.ref a), (.ref va)] below meth c s₁ [] 0 0 := Stand.of_body Bd
  have e0 : s₁.heap = h0 := by rw [← hh, Bd.state]; rfl
  have N0 := Fr.nil n0
  refine Go.enter (F := EndN s (Q_rmS1_2 Z a va kv c0 c1 cs h0 n0) ({ frames := 3, cells := 1, slots := 2, locals := 52 } : Room).cells ({ frames := 3, cells := 1, slots := 2, locals := 52 } : Room).slots) (ef_722 m a va) ?_
  show Go _ _ _ _ s₁ (mkF m 0 #[rv a, rv va] [])
  refine Go.aload1 1 X0 hx (hb hby d1_0) rfl rfl rfl ?_
  refine Go.aload1 2 X0 hx (hb hby d1_1) rfl rfl rfl ?_
  refine Go.iconst 3 X0 hx (0 : Int32) (hb hby d1_2) (by decide) rfl ?_
  refine Go.aload1 4 X0 hx (hb hby d1_3) rfl rfl rfl ?_
  obtain ⟨cl1, Ar1, -, S1, M1, -, -⟩ := id V_va
  refine Go.by (fun _ gk => X0.arraylength hx (by rw [e0]; exact Ar1.1) (State.isArrayOf_alike hZ.alike Ar1.2.1) (g := (mkF m 4 #[rv a, rv va] [(.ref va), (.int 0), (.ref va), (.ref a)])) rfl rfl (hb hby d1_4) _ gk) ?_
  rw [len_of S1 M1]
  show Go _ _ _ _ s₁ (mkF m 5 #[rv a, rv va] [(.int 2), (.int 0), (.ref va), (.ref a)])
  refine Go.aconst_null 6 X0 hx (hb hby d1_5) rfl ?_
  obtain ⟨_, _, ⟨T2, L2, k2, n2⟩, -, X2, ⟨Lc2, hQ2, l2, y2, z2⟩, st2⟩ := X0.specialBack hx (y := (⟨"java/lang/String", "<init>", "([CIILjava/lang/Void;)V"⟩ : MethodName)) rfl hown (mvT hZ (ow hw 7 rfl)) (mvT hZ (ow hw 8 rfl)) (mvT hZ (ow hw 10 rfl)) (by decide) (backOf (W := 0) (rmS4_2 l Z a0 hw [] a va kv c0 c1 cs h0 n0 Z0 O0 E_a F_a_value F_a_coder g_a V_va hc0 hc1 S_cs n_cs) hZ (ow hw 10 rfl) (ow hw 3 rfl) (by decide) (by decide)) (g := (mkF m 6 #[rv a, rv va] [.null, (.int 2), (.int 0), (.ref va), (.ref a)])) rfl (by rw [hml]; rfl) (Steps.refl _) (a := a) (argsL := [(.ref va), (.int 0), (.int 2), .null]) (rest := []) (lenOf pd_729 rfl) rfl (by show 2 * 0 + _ ≤ _; exact Nat.le_of_eq rfl) (hb hby d1_6) (fun _ _ => ⟨rfl, e0, (by decide : 0 + 1 ≤ _), (by decide : 0 + 2 ≤ _)⟩)
  dsimp only [Pt.U, Pt.locs, Pt.cells, Pt.slots] at X2 l2 y2 z2 st2 hQ2
  subst l2 y2 z2
  obtain ⟨b, kb, rfl, N2q, K2, Q2_0, Q2_1, Q2_2, Q2_3, Q2_4⟩ := hQ2
  have N2 := Fr.app N0 N2q
  refine Go.to st2 ?_
  show Go _ _ _ _ T2 (mkF m 9 #[rv a, rv va] [])
  have ge_b : n0 ≤ b := Nat.le_trans Z0 Q2_4
  have sz_b : h0.size ≤ b := Nat.le_trans (Keep.refl h0 [a]).1 Q2_4
  have ne_a_b : a ≠ b := Nat.ne_of_lt (Nat.lt_of_lt_of_le E_a.lt Q2_4)
  have ne_va_b : va ≠ b := Nat.ne_of_lt (Nat.lt_of_lt_of_le V_va.lt Q2_4)
  have F3 : Keep h0 T2.heap [a] := (Keep.refl h0 [a]).trans K2 (allS (Or.inl (List.mem_of_getElem? (i := 0) rfl)) all0)
  exact Go.retV X2 hx Bd.notSynchronized Bd.returns (hb hby d1_9) ⟨b, kb, rfl, N2, F3, Q2_0, Q2_1, Q2_2, Q2_3, sz_b⟩ (by decide) (by decide)
theorem pn_732 : plainName "com/example/diligent_tariff/diligenttariff/book/HolidayFromEasterPinLaw" = true := by first | (simp [plainName, overriddenIn]; done) | decide +kernel
theorem ef_733 (m : MethodId) (x0 : Int32) (x1 : Int32) (x2 : Int32) (x3 : Int32) : entryFrame m #[(.int x0), (.int x1), (.int x2), (.int x3)] 19 = mkF m 0 #[iv x0, iv x1, iv x2, iv x3, un, un, un, un, un, un, un, un, un, un, un, un, un, un, un] [] := by (first | (simp [entryFrame, mkF, argsToLocals, Value.category]; done) | rfl)
theorem pd_734 : parseMethodDescriptor "([C)V" = some ⟨[(.array .char)], none⟩ := by decide +kernel
theorem pd_735 : parseMethodDescriptor "(Ljava/lang/String;I)Lcom/example/diligent_tariff/diligenttariff/book/Holiday;" = some ⟨[(.object "java/lang/String"), .int], some (.object "com/example/diligent_tariff/diligenttariff/book/Holiday")⟩ := by decide +kernel
theorem pd_736 : parseMethodDescriptor "()Ljava/lang/String;" = some ⟨[], some (.object "java/lang/String")⟩ := by decide +kernel
theorem pd_737 : parseMethodDescriptor "(Ljava/lang/Object;)Z" = some ⟨[(.object "java/lang/Object")], some .boolean⟩ := by decide +kernel
def Q_rm0 (Z : State) (p0 : Int32) (p1 : Int32) (p2 : Int32) (p3 : Int32) (cs : Int32) (cY : Addr) (vY : Addr) (cM : Addr) (vM : Addr) (cD : Addr) (vD : Addr) (cE : Addr) (vE : Addr) (ic : Addr) (h0 : Heap) (n0 : Nat) (v : Option Value) (h : Heap) (L : List Loc) : Prop := v = some (.int 1) ∧ Fr n0 L
set_option maxRecDepth 65536 in
set_option maxHeartbeats 40000000 in
theorem rm0 (l : Launch) (Z : State) (a0 : Array Value) (hw : ∀ d ∈ tables_1, d.before a0 Z = true) (ws : List Jvm.Cond) (p0 : Int32) (p1 : Int32) (p2 : Int32) (p3 : Int32) (cs : Int32) (cY : Addr) (vY : Addr) (cM : Addr) (vM : Addr) (cD : Addr) (vD : Addr) (cE : Addr) (vE : Addr) (ic : Addr) (h0 : Heap) (n0 : Nat) (Z0 : n0 ≤ h0.size) (O0 : Old Z n0 h0) (S_cs : Sta Z Z.heap "java/lang/String" "COMPACT_STRINGS" "Z" (.int cs)) (n_cs : ¬ cs = 0) (Dc0 : Sta Z Z.heap "java/time/temporal/ChronoField" "YEAR" "Ljava/time/temporal/ChronoField;" (.ref cY)) (Dc1 : Exa Z Z.heap cY "java/time/temporal/ChronoField") (Dc2 : Fld Z Z.heap cY "java/time/temporal/ChronoField" "range" "Ljava/time/temporal/ValueRange;" (.ref vY)) (Dc3 : Exa Z Z.heap vY "java/time/temporal/ValueRange") (Dc4 : Fld Z Z.heap vY "java/time/temporal/ValueRange" "minSmallest" "J" (.long (-999999999 : Int64))) (Dc5 : Fld Z Z.heap vY "java/time/temporal/ValueRange" "maxLargest" "J" (.long (999999999 : Int64))) (Dc6 : Sta Z Z.heap "java/time/temporal/ChronoField" "MONTH_OF_YEAR" "Ljava/time/temporal/ChronoField;" (.ref cM)) (Dc7 : Exa Z Z.heap cM "java/time/temporal/ChronoField") (Dc8 : Fld Z Z.heap cM "java/time/temporal/ChronoField" "range" "Ljava/time/temporal/ValueRange;" (.ref vM)) (Dc9 : Exa Z Z.heap vM "java/time/temporal/ValueRange") (Dc10 : Fld Z Z.heap vM "java/time/temporal/ValueRange" "minSmallest" "J" (.long (1 : Int64))) (Dc11 : Fld Z Z.heap vM "java/time/temporal/ValueRange" "maxLargest" "J" (.long (12 : Int64))) (Dc12 : Sta Z Z.heap "java/time/temporal/ChronoField" "DAY_OF_MONTH" "Ljava/time/temporal/ChronoField;" (.ref cD)) (Dc13 : Exa Z Z.heap cD "java/time/temporal/ChronoField") (Dc14 : Fld Z Z.heap cD "java/time/temporal/ChronoField" "range" "Ljava/time/temporal/ValueRange;" (.ref vD)) (Dc15 : Exa Z Z.heap vD "java/time/temporal/ValueRange") (Dc16 : Fld Z Z.heap vD "java/time/temporal/ValueRange" "minSmallest" "J" (.long (1 : Int64))) (Dc17 : Fld Z Z.heap vD "java/time/temporal/ValueRange" "maxLargest" "J" (.long (31 : Int64))) (Dc18 : Sta Z Z.heap "java/time/temporal/ChronoField" "EPOCH_DAY" "Ljava/time/temporal/ChronoField;" (.ref cE)) (Dc19 : Exa Z Z.heap cE "java/time/temporal/ChronoField") (Dc20 : Fld Z Z.heap cE "java/time/temporal/ChronoField" "range" "Ljava/time/temporal/ValueRange;" (.ref vE)) (Dc21 : Exa Z Z.heap vE "java/time/temporal/ValueRange") (Dc22 : Fld Z Z.heap vE "java/time/temporal/ValueRange" "minSmallest" "J" (.long (-365243219162 : Int64))) (Dc23 : Fld Z Z.heap vE "java/time/temporal/ValueRange" "maxLargest" "J" (.long (365241780471 : Int64))) (Dc24 : Sta Z Z.heap "java/time/chrono/IsoChronology" "INSTANCE" "Ljava/time/chrono/IsoChronology;" (.ref ic)) (Dc25 : Exa Z Z.heap ic "java/time/chrono/IsoChronology") :
    MetFree l x (head1 (Jvm.Cond.code x code maxLocals ret :: ws) room_1) (fun as' U => as' = #[(.int p0), (.int p1), (.int p2), (.int p3)] ∧ Z.Warmed39 U.vm ∧ U.heap = h0) (fun _ _ _ _ _ => True) (fun _ U o U' => ∃ v L, o = .returned v ∧ Q_rm0 Z p0 p1 p2 p3 cs cY vY cM vM cD vD cE vE ic h0 n0 v U'.heap L ∧ FrameEnd U o U' L 9 32) := by
  refine MetFree.of_bodySF (plainFor_of_name pn_732) hisR ?_
  intro p e s m args below meth c s₁ Bd hml0 hP hK
  obtain ⟨rfl, hZ, hh⟩ := hP
  have hx := Bd.exec
  have hby := Bd.bytes
  have hml : c.maxLocals = 19 := hml0
  have hown : s.vm.findClass "com/example/diligent_tariff/diligenttariff/book/HolidayFromEasterPinLaw" = some m.cls := findClass_of_methodNamed Bd.named
  have hnm := (name_of_methodNamed Bd.named Bd.method).1
  have X0 : Stand p l e room_1 s m #[(.int p0), (.int p1), (.int p2), (.int p3)] below meth c s₁ [] 0 0 := Stand.of_body Bd
  have e0 : s₁.heap = h0 := by rw [← hh, Bd.state]; rfl
  have N0 := Fr.nil n0
  refine Go.enter (F := EndN s (Q_rm0 Z p0 p1 p2 p3 cs cY vY cM vM cD vD cE vE ic h0 n0) 9 32) (ef_733 m p0 p1 p2 p3) ?_
  show Go _ _ _ _ s₁ (mkF m 0 #[iv p0, iv p1, iv p2, iv p3, un, un, un, un, un, un, un, un, un, un, un, un, un, un, un] [])
  refine Go.iconst 1 X0 hx (2 : Int32) (hb hby at_0) (by decide) rfl ?_
  obtain ⟨ca, g1⟩ : ∃ z, z = h0.size := ⟨_, rfl⟩
  have ge_ca : n0 ≤ ca := Nat.le_trans Z0 (Nat.le_of_eq g1.symm)
  have sz_ca : h0.size ≤ ca := Nat.le_trans (Keep.refl h0 []).1 (Nat.le_of_eq g1.symm)
  obtain ⟨T1, h1, k1, X1, e1, E1, A1, Ea1, st1⟩ := newPE X0 hx hZ (ow hw 0 rfl) e0 (g := (mkF m 1 #[iv p0, iv p1, iv p2, iv p3, un, un, un, un, un, un, un, un, un, un, un, un, un, un, un] [(.int 2)])) rfl (hb hby at_1) rfl (by decide) (cap := 2) (by decide) (by decide) (by decide) (by decide) (ad := "[C") rfl
  rw [← g1] at A1 Ea1 st1
  have V_ca : Arv Z h1 ca k1 .char (2 : Int32) [(.int 0), (.int 0)] (.int 0) := (Arv.new A1 (by decide)).pad (pad_rep [] (.int 0) 2)
  refine Go.by st1 ?_
  show Go _ _ _ _ T1 (mkF m 3 #[iv p0, iv p1, iv p2, iv p3, un, un, un, un, un, un, un, un, un, un, un, un, un, un, un] [(.ref ca)])
  refine Go.astore2 5 X1 hx (L' := #[iv p0, iv p1, iv p2, iv p3, rv ca, un, un, un, un, un, un, un, un, un, un, un, un, un, un]) (hb hby at_3) rfl rfl rfl ?_
  refine Go.aload2 7 X1 hx (hb hby at_5) rfl rfl rfl ?_
  refine Go.iconst 8 X1 hx (0 : Int32) (hb hby at_7) (by decide) rfl ?_
  refine Go.iload1 9 X1 hx (hb hby at_8) rfl rfl ?_
  refine Go.sipush 12 X1 hx (255 : Int32) (hb hby at_9) (by decide) rfl ?_
  refine Go.iand 13 X1 hx (hb hby at_12) rfl ?_
  refine Go.i2c 14 X1 hx (hb hby at_13) rfl ?_
  rw [i2c_mask]
  show Go _ _ _ _ T1 (mkF m 14 #[iv p0, iv p1, iv p2, iv p3, rv ca, un, un, un, un, un, un, un, un, un, un, un, un, un, un] [(.int (p0 &&& (255 : Int32))), (.int 0), (.ref ca)])
  obtain ⟨cl2, Ar2, q2, S2, M2, H2, G2⟩ := id V_ca
  have hin2 : ¬ ((0 : Int32) < 0 ∨ cl2.slots.size ≤ (0 : Int32).toNatClampNeg) := inb_of S2 ⟨by decide, by decide⟩
  obtain ⟨T2, h2, X2, e2, W2, st2⟩ := stC X1 hx hZ e1 Ar2 (j := (0 : Int32)) hin2 (g := (mkF m 14 #[iv p0, iv p1, iv p2, iv p3, rv ca, un, un, un, un, un, un, un, un, un, un, un, un, un, un] [(.int (p0 &&& (255 : Int32))), (.int 0), (.ref ca)])) rfl rfl (hb hby at_14)
  have N2 := Fr.snoc X2 N0 ge_ca
  have V2 : Arv Z h2 ca k1 .char (2 : Int32) [(.int (nar .char (p0 &&& (255 : Int32)))), (.int 0)] (.int 0) := Arv.set Ar2 q2 S2 M2 H2 G2 (fits_nar_char _) W2 0 rfl (Nat.le_of_ble_eq_true rfl)
  refine Go.by st2 ?_
  show Go _ _ _ _ T2 (mkF m 15 #[iv p0, iv p1, iv p2, iv p3, rv ca, un, un, un, un, un, un, un, un, un, un, un, un, un, un] [])
  rw [own_nc] at V2
  refine Go.aload2 17 X2 hx (hb hby at_15) rfl rfl rfl ?_
  refine Go.iconst 18 X2 hx (1 : Int32) (hb hby at_17) (by decide) rfl ?_
  refine Go.iload1 19 X2 hx (hb hby at_18) rfl rfl ?_
  refine Go.sipush 22 X2 hx (255 : Int32) (hb hby at_19) (by decide) rfl ?_
  refine Go.iand 23 X2 hx (hb hby at_22) rfl ?_
  refine Go.i2c 24 X2 hx (hb hby at_23) rfl ?_
  rw [i2c_mask]
  show Go _ _ _ _ T2 (mkF m 24 #[iv p0, iv p1, iv p2, iv p3, rv ca, un, un, un, un, un, un, un, un, un, un, un, un, un, un] [(.int (p1 &&& (255 : Int32))), (.int 1), (.ref ca)])
  obtain ⟨cl3, Ar3, q3, S3, M3, H3, G3⟩ := id V2
  have hin3 : ¬ ((1 : Int32) < 0 ∨ cl3.slots.size ≤ (1 : Int32).toNatClampNeg) := inb_of S3 ⟨by decide, by decide⟩
  obtain ⟨T3, h3, X3, e3, W3, st3⟩ := stC X2 hx hZ e2 Ar3 (j := (1 : Int32)) hin3 (g := (mkF m 24 #[iv p0, iv p1, iv p2, iv p3, rv ca, un, un, un, un, un, un, un, un, un, un, un, un, un, un] [(.int (p1 &&& (255 : Int32))), (.int 1), (.ref ca)])) rfl rfl (hb hby at_24)
  have N3 := Fr.snoc X3 N2 ge_ca
  have V3 : Arv Z h3 ca k1 .char (2 : Int32) [(.int (p0 &&& (255 : Int32))), (.int (nar .char (p1 &&& (255 : Int32))))] (.int 0) := Arv.set Ar3 q3 S3 M3 H3 G3 (fits_nar_char _) W3 1 rfl (Nat.le_of_ble_eq_true rfl)
  refine Go.by st3 ?_
  show Go _ _ _ _ T3 (mkF m 25 #[iv p0, iv p1, iv p2, iv p3, rv ca, un, un, un, un, un, un, un, un, un, un, un, un, un, un] [])
  rw [own_nc] at V3
  have F5 : n0 ≤ h1.size := Nat.le_trans Z0 E1.1
  have F6 : n0 ≤ h2.size := Nat.le_trans F5 (Nat.le_of_eq (Wr.size W2).symm)
  have F7 : n0 ≤ h3.size := Nat.le_trans F6 (Nat.le_of_eq (Wr.size W3).symm)
  obtain ⟨st, g4⟩ : ∃ z, z = h3.size := ⟨_, rfl⟩
  have ge_st : n0 ≤ st := Nat.le_trans F7 (Nat.le_of_eq g4.symm)
  have F8 : Keep h0 h1 [] := (Keep.refl h0 []).ext E1
  have F9 : Keep h0 h2 [] := F8.wr W2 (Or.inr sz_ca)
  have F10 : Keep h0 h3 [] := F9.wr W3 (Or.inr sz_ca)
  have sz_st : h0.size ≤ st := Nat.le_trans F10.1 (Nat.le_of_eq g4.symm)
  have F11 : Exa Z h2 ca "[C" := Ea1.wr W2
  have F12 : Exa Z h3 ca "[C" := F11.wr W3
  have ne_ca_st : ca ≠ st := Nat.ne_of_lt (Nat.lt_of_lt_of_le F12.lt (Nat.le_of_eq g4.symm))
  obtain ⟨T4, h4, X4, e4, E4, A4, D4, -, st4⟩ := newO X3 hx hZ hown (ow hw 1 rfl) (ow hw 2 rfl) (ow hw 3 rfl) e3 (g := (mkF m 25 #[iv p0, iv p1, iv p2, iv p3, rv ca, un, un, un, un, un, un, un, un, un, un, un, un, un, un] [])) rfl (hb hby at_25) (by decide) (by decide)
  rw [← g4] at A4 D4 st4
  have F_coder_st : Fld Z h4 st "java/lang/String" "coder" "B" (.int 0) := D4 (Or.inr (ow hw 27 rfl)) (ty := .byte) (by decide)
  have F_value_st : Fld Z h4 st "java/lang/String" "value" "[B" .null := D4 (Or.inr (ow hw 29 rfl)) (ty := (.array .byte)) (by decide)
  refine Go.by st4 ?_
  show Go _ _ _ _ T4 (mkF m 28 #[iv p0, iv p1, iv p2, iv p3, rv ca, un, un, un, un, un, un, un, un, un, un, un, un, un, un] [(.ref st)])
  refine Go.dup 29 X4 hx (hb hby at_28) rfl rfl ?_
  refine Go.aload2 31 X4 hx (hb hby at_29) rfl rfl rfl ?_
  have F13 : Old Z n0 h1 := O0.ext E1
  have F14 : Old Z n0 h2 := F13.wr W2 ge_ca
  have F15 : Old Z n0 h3 := F14.wr W3 ge_ca
  have F16 : Old Z n0 h4 := F15.ext E4
  have F17 : Arv Z h4 ca k1 .char (2 : Int32) [(.int (p0 &&& (255 : Int32))), (.int (p1 &&& (255 : Int32)))] (.int 0) := V3.ext E4
  have F18 : n0 ≤ h4.size := Nat.le_trans F7 E4.1
  have F19 : Keep h0 h4 [] := F10.ext E4
  have F20 : Exa Z h4 ca "[C" := F12.ext E4
  obtain ⟨_, _, ⟨T21, L21, k21, n21⟩, -, X21, ⟨Lc21, hQ21, l21, y21, z21⟩, st21⟩ := X4.specialBack hx (y := (⟨"java/lang/String", "<init>", "([C)V"⟩ : MethodName)) rfl hown (mvT hZ (ow hw 4 rfl)) (mvT hZ (ow hw 5 rfl)) (mvT hZ (ow hw 6 rfl)) (by decide) (backOf (W := 1) (rmS1_2 l Z a0 hw [] st ca k1 (p0 &&& (255 : Int32)) (p1 &&& (255 : Int32)) cs h4 n0 F18 F16 A4 F_value_st F_coder_st ge_st F17 (own_255 _) (own_255 _) S_cs n_cs) hZ (ow hw 6 rfl) (ow hw 3 rfl) (by decide) (by decide)) (g := (mkF m 31 #[iv p0, iv p1, iv p2, iv p3, rv ca, un, un, un, un, un, un, un, un, un, un, un, un, un, un] [(.ref ca), (.ref st), (.ref st)])) rfl (by rw [hml]; rfl) (Steps.refl _) (a := st) (argsL := [(.ref ca)]) (rest := [(.ref st)]) (lenOf pd_734 rfl) rfl (by show 2 * 0 + _ ≤ _; exact Nat.le_of_eq rfl) (hb hby at_31) (fun _ _ => ⟨rfl, e4, (by decide : 2 + 1 ≤ _), (by decide : 6 + 2 ≤ _)⟩)
  dsimp only [Pt.U, Pt.locs, Pt.cells, Pt.slots] at X21 l21 y21 z21 st21 hQ21
  subst l21 y21 z21
  obtain ⟨sb, kb, rfl, N21q, K21, Q21_0, Q21_1, Q21_2, Q21_3, Q21_4⟩ := hQ21
  have N21 := Fr.app N3 N21q
  refine Go.to st21 ?_
  show Go _ _ _ _ T21 (mkF m 34 #[iv p0, iv p1, iv p2, iv p3, rv ca, un, un, un, un, un, un, un, un, un, un, un, un, un, un] [(.ref st)])
  have ge_sb : n0 ≤ sb := Nat.le_trans F18 Q21_4
  have sz_sb : h0.size ≤ sb := Nat.le_trans F19.1 Q21_4
  have ne_ca_sb : ca ≠ sb := Nat.ne_of_lt (Nat.lt_of_lt_of_le F17.lt Q21_4)
  have ne_st_sb : st ≠ sb := Nat.ne_of_lt (Nat.lt_of_lt_of_le A4.lt Q21_4)
  refine Go.astore2 36 X21 hx (L' := #[iv p0, iv p1, iv p2, iv p3, rv ca, rv st, un, un, un, un, un, un, un, un, un, un, un, un, un]) (hb hby at_34) rfl rfl rfl ?_
  refine Go.sipush 39 X21 hx (1583 : Int32) (hb hby at_36) (by decide) rfl ?_
  refine Go.iload1 40 X21 hx (hb hby at_39) rfl rfl ?_
  refine Go.by (fun _ gk => X21.ldcI hx hown (mvT hZ (ow hw 30 rfl)) (g := (mkF m 40 #[iv p0, iv p1, iv p2, iv p3, rv ca, rv st, un, un, un, un, un, un, un, un, un, un, un, un, un] [(.int p2), (.int 1583)])) rfl (hb hby at_40) gk) ?_
  show Go _ _ _ _ T21 (mkF m 42 #[iv p0, iv p1, iv p2, iv p3, rv ca, rv st, un, un, un, un, un, un, un, un, un, un, un, un, un] [(.int 67108863), (.int p2), (.int 1583)])
  refine Go.iand 43 X21 hx (hb hby at_42) rfl ?_
  have hand := c_and p2 (67108863 : Int32) (by decide)
  have hl0 : (67108863 : Int32).toInt = 67108863 := by decide
  obtain ⟨m0, h_m0⟩ : ∃ z, z = (p2 &&& (67108863 : Int32)) := ⟨_, rfl⟩
  rw [← h_m0]
  show Go _ _ _ _ T21 (mkF m 43 #[iv p0, iv p1, iv p2, iv p3, rv ca, rv st, un, un, un, un, un, un, un, un, un, un, un, un, un] [(.int m0), (.int 1583)])
  rw [← h_m0] at hand
  refine Go.iadd 44 X21 hx (hb hby at_43) rfl ?_
  have li22 : (1583 : Int32).toInt = 1583 := by decide
  obtain ⟨n23, h_n23⟩ : ∃ z, z = ((1583 : Int32) + m0) := ⟨_, rfl⟩
  rw [← h_n23]
  show Go _ _ _ _ T21 (mkF m 44 #[iv p0, iv p1, iv p2, iv p3, rv ca, rv st, un, un, un, un, un, un, un, un, un, un, un, un, un] [(.int n23)])
  have e_n23 : n23.toInt = (1583 : Int32).toInt + m0.toInt := by rw [h_n23]; exact x_iadd (by omega) (by omega)
  refine Go.istore2 46 X21 hx (L' := #[iv p0, iv p1, iv p2, iv p3, rv ca, rv st, iv n23, un, un, un, un, un, un, un, un, un, un, un, un]) (hb hby at_44) rfl rfl ?_
  have hyr : 1583 ≤ n23.toInt ∧ n23.toInt ≤ 67110446 := by omega
  have hyb : 0 ≤ n23.toInt ∧ n23.toInt ≤ 70000000 := by omega
  clear e_n23
  refine Go.aload2 48 X21 hx (hb hby at_46) rfl rfl rfl ?_
  refine Go.iload1 49 X21 hx (hb hby at_48) rfl rfl ?_
  have F24 : n0 ≤ T21.heap.size := Nat.le_trans F18 K21.1
  have F25 : Keep h0 T21.heap [] := F19.trans K21 (allS (Or.inr sz_st) all0)
  have F26 : Exa Z T21.heap ca "[C" := F20.keep K21
  obtain ⟨_, _, ⟨T27, L27, k27, n27⟩, -, X27, ⟨Lc27, hQ27, l27, y27, z27⟩, st27⟩ := Jvm.LawKit.callS X21 hx (y := (⟨"com/example/diligent_tariff/diligenttariff/book/Holiday", "fromEaster", "(Ljava/lang/String;I)Lcom/example/diligent_tariff/diligenttariff/book/Holiday;"⟩ : MethodName)) hown (mvT hZ (ow hw 31 rfl)) (mvT hZ (ow hw 32 rfl)) (mvT hZ (ow hw 33 rfl)) (mvT hZ (ow hw 34 rfl)) (by decide) (backOf (W := 0) (rmFrom l Z a0 hw [] st p3 T21.heap n0 F24 ) hZ (ow hw 34 rfl) (ow hw 33 rfl) (by decide) (by decide)) (g := (mkF m 49 #[iv p0, iv p1, iv p2, iv p3, rv ca, rv st, iv n23, un, un, un, un, un, un, un, un, un, un, un, un] [(.int p3), (.ref st)])) rfl (by rw [hml]; rfl) (argsL := [(.ref st), (.int p3)]) (rest := []) (lenOf pd_735 rfl) rfl (by show 2 * 0 + _ ≤ _; exact Nat.le_of_eq rfl) (hb hby at_49) (fun _ _ => ⟨rfl, rfl, (by decide : 3 + 1 ≤ _), (by decide : 8 + 6 ≤ _)⟩)
  dsimp only [Pt.U, Pt.locs, Pt.cells, Pt.slots] at X27 l27 y27 z27 st27 hQ27
  subst l27 y27 z27
  obtain ⟨ho1, rfl, N27q, K27, Q27_0, Q27_1, Q27_2, Q27_3, Q27_4⟩ := hQ27
  have N27 := Fr.app N21 N27q
  refine Go.by st27 ?_
  show Go _ _ _ _ T27 (mkF m 52 #[iv p0, iv p1, iv p2, iv p3, rv ca, rv st, iv n23, un, un, un, un, un, un, un, un, un, un, un, un] [(.ref ho1)])
  have ge_ho1 : n0 ≤ ho1 := Nat.le_trans F24 Q27_4
  have sz_ho1 : h0.size ≤ ho1 := Nat.le_trans F25.1 Q27_4
  have ne_ca_ho1 : ca ≠ ho1 := Nat.ne_of_lt (Nat.lt_of_lt_of_le F26.lt Q27_4)
  have ne_sb_ho1 : sb ≠ ho1 := Nat.ne_of_lt (Nat.lt_of_lt_of_le Q21_3.lt Q27_4)
  have ne_st_ho1 : st ≠ ho1 := Nat.ne_of_lt (Nat.lt_of_lt_of_le Q21_0.lt Q27_4)
  refine Go.astore2 54 X27 hx (L' := #[iv p0, iv p1, iv p2, iv p3, rv ca, rv st, iv n23, rv ho1, un, un, un, un, un, un, un, un, un, un, un]) (hb hby at_52) rfl rfl rfl ?_
  refine Go.aload2 56 X27 hx (hb hby at_54) rfl rfl rfl ?_
  refine Go.iconst 57 X27 hx (0 : Int32) (hb hby at_56) (by decide) rfl ?_
  have F28 : n0 ≤ T27.heap.size := Nat.le_trans F24 K27.1
  have F29 : Keep h0 T27.heap [] := F25.trans K27 all0
  have F30 : Exa Z T27.heap ca "[C" := F26.keep K27
  have F31 : Arv Z T27.heap sb kb .byte (2 : Int32) [(.int (own_b (p0 &&& (255 : Int32)))), (.int (own_b (p1 &&& (255 : Int32))))] (.int 0) := Q21_3.keep K27 nin0
  have F32 : Exa Z T27.heap st "java/lang/String" := Q21_0.keep K27
  obtain ⟨_, _, ⟨T33, L33, k33, n33⟩, -, X33, ⟨Lc33, hQ33, l33, y33, z33⟩, st33⟩ := Jvm.LawKit.callS X27 hx (y := (⟨"com/example/diligent_tariff/diligenttariff/book/Holiday", "fromEaster", "(Ljava/lang/String;I)Lcom/example/diligent_tariff/diligenttariff/book/Holiday;"⟩ : MethodName)) hown (mvT hZ (ow hw 31 rfl)) (mvT hZ (ow hw 32 rfl)) (mvT hZ (ow hw 33 rfl)) (mvT hZ (ow hw 34 rfl)) (by decide) (backOf (W := 0) (rmFrom l Z a0 hw [] st (0 : Int32) T27.heap n0 F28 ) hZ (ow hw 34 rfl) (ow hw 33 rfl) (by decide) (by decide)) (g := (mkF m 57 #[iv p0, iv p1, iv p2, iv p3, rv ca, rv st, iv n23, rv ho1, un, un, un, un, un, un, un, un, un, un, un] [(.int 0), (.ref st)])) rfl (by rw [hml]; rfl) (argsL := [(.ref st), (.int 0)]) (rest := []) (lenOf pd_735 rfl) rfl (by show 2 * 0 + _ ≤ _; exact Nat.le_of_eq rfl) (hb hby at_57) (fun _ _ => ⟨rfl, rfl, (by decide : 4 + 1 ≤ _), (by decide : 14 + 6 ≤ _)⟩)
  dsimp only [Pt.U, Pt.locs, Pt.cells, Pt.slots] at X33 l33 y33 z33 st33 hQ33
  subst l33 y33 z33
  obtain ⟨ho2, rfl, N33q, K33, Q33_0, Q33_1, Q33_2, Q33_3, Q33_4⟩ := hQ33
  have N33 := Fr.app N27 N33q
  refine Go.by st33 ?_
  show Go _ _ _ _ T33 (mkF m 60 #[iv p0, iv p1, iv p2, iv p3, rv ca, rv st, iv n23, rv ho1, un, un, un, un, un, un, un, un, un, un, un] [(.ref ho2)])
  have ge_ho2 : n0 ≤ ho2 := Nat.le_trans F28 Q33_4
  have sz_ho2 : h0.size ≤ ho2 := Nat.le_trans F29.1 Q33_4
  have ne_ca_ho2 : ca ≠ ho2 := Nat.ne_of_lt (Nat.lt_of_lt_of_le F30.lt Q33_4)
  have ne_ho1_ho2 : ho1 ≠ ho2 := Nat.ne_of_lt (Nat.lt_of_lt_of_le Q27_0.lt Q33_4)
  have ne_sb_ho2 : sb ≠ ho2 := Nat.ne_of_lt (Nat.lt_of_lt_of_le F31.lt Q33_4)
  have ne_st_ho2 : st ≠ ho2 := Nat.ne_of_lt (Nat.lt_of_lt_of_le F32.lt Q33_4)
  refine Go.astore2 62 X33 hx (L' := #[iv p0, iv p1, iv p2, iv p3, rv ca, rv st, iv n23, rv ho1, rv ho2, un, un, un, un, un, un, un, un, un, un]) (hb hby at_60) rfl rfl rfl ?_
  refine Go.aload2 64 X33 hx (hb hby at_62) rfl rfl rfl ?_
  refine Go.iload2 66 X33 hx (hb hby at_64) rfl rfl ?_
  have F34 : Old Z n0 T21.heap := F16.keep K21 (allS ge_st all0)
  have F35 : Old Z n0 T27.heap := F34.keep K27 all0
  have F36 : Old Z n0 T33.heap := F35.keep K33 all0
  have F37 : Fld Z T33.heap ho1 "com/example/diligent_tariff/diligenttariff/book/Holiday" "month" "Ljava/time/Month;" .null := Q27_2.keep K33 nin0
  have F38 : Fld Z T33.heap ho1 "com/example/diligent_tariff/diligenttariff/book/Holiday" "daysFromEaster" "I" (.int p3) := Q27_3.keep K33 nin0
  have F39 : n0 ≤ T33.heap.size := Nat.le_trans F28 K33.1
  have F41 : Exa Z T33.heap ho1 "com/example/diligent_tariff/diligenttariff/book/Holiday" := Q27_0.keep K33
  obtain ⟨cq40, kq40, q40a, q40b, q40c⟩ := isOf hZ rfl F41
  obtain ⟨_, _, ⟨T40, L40, k40, n40⟩, -, X40, ⟨Lc40, hQ40, l40, y40, z40⟩, st40⟩ := X33.virtualBack hx (y := (⟨"com/example/diligent_tariff/diligenttariff/book/Holiday", "in", "(I)Ljava/time/LocalDate;"⟩ : MethodName)) (z := (⟨"com/example/diligent_tariff/diligenttariff/book/Holiday", "in", "(I)Ljava/time/LocalDate;"⟩ : MethodName)) hown (mvT hZ (ow hw 53 rfl)) (mvT hZ (ow hw 54 rfl)) (notFace_of_selects (args := #[]) (mvT hZ (ow hw 56 rfl))) (mvT hZ (ow hw 56 rfl)) (mvT hZ (ow hw 55 rfl)) (by decide) (backOf (W := 0) (rmIn l Z a0 hw [] ho1 n23 p3 cY vY cM vM cD vD cE vE ic T33.heap n0 F39 F36 F37 F38 hyb Dc0 Dc1 Dc2 Dc3 Dc4 Dc5 Dc6 Dc7 Dc8 Dc9 Dc10 Dc11 Dc12 Dc13 Dc14 Dc15 Dc16 Dc17 Dc18 Dc19 Dc20 Dc21 Dc22 Dc23 Dc24 Dc25) hZ (ow hw 57 rfl) (ow hw 33 rfl) (by decide) (by decide)) q40a q40c (g := (mkF m 66 #[iv p0, iv p1, iv p2, iv p3, rv ca, rv st, iv n23, rv ho1, rv ho2, un, un, un, un, un, un, un, un, un, un] [(.int n23), (.ref ho1)])) rfl (by rw [hml]; rfl) (Steps.refl _) (argsL := [(.int n23)]) (rest := []) (lenOf pd_629 rfl) rfl (by show 2 * 0 + _ ≤ _; exact Nat.le_of_eq rfl) (hb hby at_66) (fun _ _ => ⟨rfl, rfl, (by decide : 5 + 2 ≤ _), (by decide : 20 + 6 ≤ _)⟩)
  dsimp only [Pt.U, Pt.locs, Pt.cells, Pt.slots] at X40 l40 y40 z40 st40 hQ40
  subst l40 y40 z40
  obtain ⟨b1, ya, ma, da, na, rfl, N40q, K40, Q40_0, Q40_1, Q40_2, Q40_3, Q40_4, Q40_5, Q40_6, Q40_7, Q40_8, Q40_9⟩ := hQ40
  have N40 := Fr.app N33 N40q
  refine Go.to st40 ?_
  show Go _ _ _ _ T40 (mkF m 69 #[iv p0, iv p1, iv p2, iv p3, rv ca, rv st, iv n23, rv ho1, rv ho2, un, un, un, un, un, un, un, un, un, un] [(.ref b1)])
  refine Go.astore2 71 X40 hx (L' := #[iv p0, iv p1, iv p2, iv p3, rv ca, rv st, iv n23, rv ho1, rv ho2, rv b1, un, un, un, un, un, un, un, un, un]) (hb hby at_69) rfl rfl rfl ?_
  refine Go.aload2 73 X40 hx (hb hby at_71) rfl rfl rfl ?_
  refine Go.iload2 75 X40 hx (hb hby at_73) rfl rfl ?_
  have F42 : Old Z n0 T40.heap := F36.keep K40 all0
  have F43 : Fld Z T40.heap ho2 "com/example/diligent_tariff/diligenttariff/book/Holiday" "month" "Ljava/time/Month;" .null := Q33_2.keep K40 nin0
  have F44 : Fld Z T40.heap ho2 "com/example/diligent_tariff/diligenttariff/book/Holiday" "daysFromEaster" "I" (.int 0) := Q33_3.keep K40 nin0
  have F45 : n0 ≤ T40.heap.size := Nat.le_trans F39 K40.1
  have F47 : Exa Z T40.heap ho2 "com/example/diligent_tariff/diligenttariff/book/Holiday" := Q33_0.keep K40
  obtain ⟨cq46, kq46, q46a, q46b, q46c⟩ := isOf hZ rfl F47
  obtain ⟨_, _, ⟨T46, L46, k46, n46⟩, -, X46, ⟨Lc46, hQ46, l46, y46, z46⟩, st46⟩ := X40.virtualBack hx (y := (⟨"com/example/diligent_tariff/diligenttariff/book/Holiday", "in", "(I)Ljava/time/LocalDate;"⟩ : MethodName)) (z := (⟨"com/example/diligent_tariff/diligenttariff/book/Holiday", "in", "(I)Ljava/time/LocalDate;"⟩ : MethodName)) hown (mvT hZ (ow hw 53 rfl)) (mvT hZ (ow hw 54 rfl)) (notFace_of_selects (args := #[]) (mvT hZ (ow hw 56 rfl))) (mvT hZ (ow hw 56 rfl)) (mvT hZ (ow hw 55 rfl)) (by decide) (backOf (W := 0) (rmIn l Z a0 hw [] ho2 n23 (0 : Int32) cY vY cM vM cD vD cE vE ic T40.heap n0 F45 F42 F43 F44 hyb Dc0 Dc1 Dc2 Dc3 Dc4 Dc5 Dc6 Dc7 Dc8 Dc9 Dc10 Dc11 Dc12 Dc13 Dc14 Dc15 Dc16 Dc17 Dc18 Dc19 Dc20 Dc21 Dc22 Dc23 Dc24 Dc25) hZ (ow hw 57 rfl) (ow hw 33 rfl) (by decide) (by decide)) q46a q46c (g := (mkF m 75 #[iv p0, iv p1, iv p2, iv p3, rv ca, rv st, iv n23, rv ho1, rv ho2, rv b1, un, un, un, un, un, un, un, un, un] [(.int n23), (.ref ho2)])) rfl (by rw [hml]; rfl) (Steps.refl _) (argsL := [(.int n23)]) (rest := []) (lenOf pd_629 rfl) rfl (by show 2 * 0 + _ ≤ _; exact Nat.le_of_eq rfl) (hb hby at_75) (fun _ _ => ⟨rfl, rfl, (by decide : 7 + 2 ≤ _), (by decide : 26 + 6 ≤ _)⟩)
  dsimp only [Pt.U, Pt.locs, Pt.cells, Pt.slots] at X46 l46 y46 z46 st46 hQ46
  subst l46 y46 z46
  obtain ⟨b2, yb, mb, db, nb, rfl, N46q, K46, Q46_0, Q46_1, Q46_2, Q46_3, Q46_4, Q46_5, Q46_6, Q46_7, Q46_8, Q46_9⟩ := hQ46
  have N46 := Fr.app N40 N46q
  refine Go.to st46 ?_
  show Go _ _ _ _ T46 (mkF m 78 #[iv p0, iv p1, iv p2, iv p3, rv ca, rv st, iv n23, rv ho1, rv ho2, rv b1, un, un, un, un, un, un, un, un, un] [(.ref b2)])
  obtain rfl : na = nb := own_Eu Q40_8 Q46_8
  obtain ⟨hz1, hz2, hz3⟩ := Q46_9 (by decide)
  have hes := own_Es (by omega) Q40_8
  have hzz : (0 : Int32).toInt = 0 := by decide
  have hEb := Q46_4
  have hEa := Q40_4
  rw [hzz] at hEb
  have hwin := own_win hz2 hz3 hes.1
  have hsun := hes.2
  refine Go.astore2 80 X46 hx (L' := #[iv p0, iv p1, iv p2, iv p3, rv ca, rv st, iv n23, rv ho1, rv ho2, rv b1, rv b2, un, un, un, un, un, un, un, un]) (hb hby at_78) rfl rfl rfl ?_
  refine Go.aload2 82 X46 hx (hb hby at_80) rfl rfl rfl ?_
  have F48 : Old Z n0 T46.heap := F42.keep K46 all0
  have F49 : n0 ≤ T46.heap.size := Nat.le_trans F45 K46.1
  obtain ⟨cq50, kq50, q50a, q50b, q50c⟩ := isOf hZ rfl Q46_0
  obtain ⟨_, _, ⟨T50, L50, k50, n50⟩, -, X50, ⟨Lc50, hQ50, l50, y50, z50⟩, st50⟩ := X46.virtualBack hx (y := (⟨"java/time/LocalDate", "toEpochDay", "()J"⟩ : MethodName)) (z := (⟨"java/time/LocalDate", "toEpochDay", "()J"⟩ : MethodName)) hown (mvT hZ (ow hw 128 rfl)) (mvT hZ (ow hw 129 rfl)) (notFace_of_selects (args := #[]) (mvT hZ (ow hw 131 rfl))) (mvT hZ (ow hw 131 rfl)) (mvT hZ (ow hw 130 rfl)) (by decide) (backOf (W := 0) (rmTed l Z a0 hw [] b2 yb mb db cY vY cM vM cD vD cE vE ic T46.heap n0 F49 F48 Q46_0 Q46_1 Q46_2 Q46_3 Q46_5 Q46_6 Q46_7 Dc0 Dc1 Dc2 Dc3 Dc4 Dc5 Dc6 Dc7 Dc8 Dc9 Dc10 Dc11 Dc12 Dc13 Dc14 Dc15 Dc16 Dc17 Dc18 Dc19 Dc20 Dc21 Dc22 Dc23 Dc24 Dc25) hZ (ow hw 132 rfl) (ow hw 63 rfl) (by decide) (by decide)) q50a q50c (g := (mkF m 82 #[iv p0, iv p1, iv p2, iv p3, rv ca, rv st, iv n23, rv ho1, rv ho2, rv b1, rv b2, un, un, un, un, un, un, un, un] [(.ref b2)])) rfl (by rw [hml]; rfl) (Steps.refl _) (argsL := []) (rest := []) (lenOf pd_14 rfl) rfl (by show 2 * 0 + _ ≤ _; exact Nat.le_of_eq rfl) (hb hby at_82) (fun _ _ => ⟨rfl, rfl, (by decide : 9 + 0 ≤ _), (by decide : 32 + 0 ≤ _)⟩)
  dsimp only [Pt.U, Pt.locs, Pt.cells, Pt.slots] at X50 l50 y50 z50 st50 hQ50
  subst l50 y50 z50
  obtain ⟨ed, rfl, N50q, e50, Q50_0⟩ := hQ50
  have N50 := Fr.app N46 N50q
  refine Go.to st50 ?_
  show Go _ _ _ _ T50 (mkF m 85 #[iv p0, iv p1, iv p2, iv p3, rv ca, rv st, iv n23, rv ho1, rv ho2, rv b1, rv b2, un, un, un, un, un, un, un, un] [(.long ed)])
  have hed := Q50_0
  have hedR := own_edR hyb (m := na / 31) (d := na % 31 + 1) (by omega) (by omega)
  rw [hEb] at hed
  refine Go.lstore2 87 X50 hx (L' := #[iv p0, iv p1, iv p2, iv p3, rv ca, rv st, iv n23, rv ho1, rv ho2, rv b1, rv b2, .val (.long ed), .second, un, un, un, un, un, un]) (hb hby at_85) rfl rfl ?_
  refine Go.lload2 89 X50 hx (hb hby at_87) rfl rfl ?_
  refine Go.by (fun _ gk => X50.ldc2J hx hown (mvT hZ (ow hw 158 rfl)) (g := (mkF m 89 #[iv p0, iv p1, iv p2, iv p3, rv ca, rv st, iv n23, rv ho1, rv ho2, rv b1, rv b2, .val (.long ed), .second, un, un, un, un, un, un] [(.long ed)])) rfl (hb hby at_89) gk) ?_
  show Go _ _ _ _ T50 (mkF m 92 #[iv p0, iv p1, iv p2, iv p3, rv ca, rv st, iv n23, rv ho1, rv ho2, rv b1, rv b2, .val (.long ed), .second, un, un, un, un, un, un] [(.long (3 : Int64)), (.long ed)])
  refine Go.lsub 93 X50 hx (hb hby at_92) rfl ?_
  have li51 : (3 : Int64).toInt = 3 := by decide
  obtain ⟨n52, h_n52⟩ : ∃ z, z = (ed - (3 : Int64)) := ⟨_, rfl⟩
  rw [← h_n52]
  show Go _ _ _ _ T50 (mkF m 93 #[iv p0, iv p1, iv p2, iv p3, rv ca, rv st, iv n23, rv ho1, rv ho2, rv b1, rv b2, .val (.long ed), .second, un, un, un, un, un, un] [(.long n52)])
  have e_n52 : n52.toInt = ed.toInt - (3 : Int64).toInt := by rw [h_n52]; exact x_lsub (by omega) (by omega)
  refine Go.by (fun _ gk => X50.ldc2J hx hown (mvT hZ (ow hw 159 rfl)) (g := (mkF m 93 #[iv p0, iv p1, iv p2, iv p3, rv ca, rv st, iv n23, rv ho1, rv ho2, rv b1, rv b2, .val (.long ed), .second, un, un, un, un, un, un] [(.long n52)])) rfl (hb hby at_93) gk) ?_
  show Go _ _ _ _ T50 (mkF m 96 #[iv p0, iv p1, iv p2, iv p3, rv ca, rv st, iv n23, rv ho1, rv ho2, rv b1, rv b2, .val (.long ed), .second, un, un, un, un, un, un] [(.long (7 : Int64)), (.long n52)])
  refine Go.lrem 97 X50 hx (hb hby at_96) (by decide) rfl ?_
  have li53 : (7 : Int64).toInt = 7 := by decide
  obtain ⟨n54, h_n54⟩ : ∃ z, z = (n52 - n52 / (7 : Int64) * (7 : Int64)) := ⟨_, rfl⟩
  rw [← h_n54]
  show Go _ _ _ _ T50 (mkF m 97 #[iv p0, iv p1, iv p2, iv p3, rv ca, rv st, iv n23, rv ho1, rv ho2, rv b1, rv b2, .val (.long ed), .second, un, un, un, un, un, un] [(.long n54)])
  have e_n54 : (0 ≤ n52.toInt → n54.toInt = n52.toInt % 7) ∧ (n52.toInt < 0 → n54.toInt = -((-n52.toInt) % 7)) := by rw [h_n54]; exact x_lrem 7 (by decide)
  refine Go.by (fun _ gk => X50.ldc2J hx hown (mvT hZ (ow hw 159 rfl)) (g := (mkF m 97 #[iv p0, iv p1, iv p2, iv p3, rv ca, rv st, iv n23, rv ho1, rv ho2, rv b1, rv b2, .val (.long ed), .second, un, un, un, un, un, un] [(.long n54)])) rfl (hb hby at_97) gk) ?_
  show Go _ _ _ _ T50 (mkF m 100 #[iv p0, iv p1, iv p2, iv p3, rv ca, rv st, iv n23, rv ho1, rv ho2, rv b1, rv b2, .val (.long ed), .second, un, un, un, un, un, un] [(.long (7 : Int64)), (.long n54)])
  refine Go.ladd 101 X50 hx (hb hby at_100) rfl ?_
  obtain ⟨n55, h_n55⟩ : ∃ z, z = (n54 + (7 : Int64)) := ⟨_, rfl⟩
  rw [← h_n55]
  show Go _ _ _ _ T50 (mkF m 101 #[iv p0, iv p1, iv p2, iv p3, rv ca, rv st, iv n23, rv ho1, rv ho2, rv b1, rv b2, .val (.long ed), .second, un, un, un, un, un, un] [(.long n55)])
  have e_n55 : n55.toInt = n54.toInt + (7 : Int64).toInt := by rw [h_n55]; exact x_ladd (by omega) (by omega)
  refine Go.by (fun _ gk => X50.ldc2J hx hown (mvT hZ (ow hw 159 rfl)) (g := (mkF m 101 #[iv p0, iv p1, iv p2, iv p3, rv ca, rv st, iv n23, rv ho1, rv ho2, rv b1, rv b2, .val (.long ed), .second, un, un, un, un, un, un] [(.long n55)])) rfl (hb hby at_101) gk) ?_
  show Go _ _ _ _ T50 (mkF m 104 #[iv p0, iv p1, iv p2, iv p3, rv ca, rv st, iv n23, rv ho1, rv ho2, rv b1, rv b2, .val (.long ed), .second, un, un, un, un, un, un] [(.long (7 : Int64)), (.long n55)])
  refine Go.lrem 105 X50 hx (hb hby at_104) (by decide) rfl ?_
  obtain ⟨n56, h_n56⟩ : ∃ z, z = (n55 - n55 / (7 : Int64) * (7 : Int64)) := ⟨_, rfl⟩
  rw [← h_n56]
  show Go _ _ _ _ T50 (mkF m 105 #[iv p0, iv p1, iv p2, iv p3, rv ca, rv st, iv n23, rv ho1, rv ho2, rv b1, rv b2, .val (.long ed), .second, un, un, un, un, un, un] [(.long n56)])
  have e_n56 : n56.toInt = n55.toInt % 7 := by rw [h_n56]; exact (x_lrem 7 (by decide)).1 (by omega)
  refine Go.lconst 106 X50 hx (0 : Int64) (hb hby at_105) (by decide) rfl ?_
  refine Go.lcmp 107 X50 hx (hb hby at_106) rfl ?_
  have li57 : (0 : Int64).toInt = 0 := by decide
  refine Go.ifN 110 X50 hx (hb hby at_107) (XT.ll_ne_f (u_eq64 (by omega))) rfl ?_
  clear e_n52 e_n55 e_n56
  refine Go.iconst 111 X50 hx (1 : Int32) (hb hby at_110) (by decide) rfl ?_
  refine Go.goto 115 X50 hx (hb hby at_111) (by decide) (by decide) ?_
  refine Go.istore2 117 X50 hx (L' := #[iv p0, iv p1, iv p2, iv p3, rv ca, rv st, iv n23, rv ho1, rv ho2, rv b1, rv b2, .val (.long ed), .second, iv 1, un, un, un, un, un]) (hb hby at_115) rfl rfl ?_
  refine Go.aload2 119 X50 hx (hb hby at_117) rfl rfl rfl ?_
  obtain ⟨cq58, kq58, q58a, q58b, q58c⟩ := isOf hZ e50 Q46_0
  obtain ⟨_, _, ⟨T58, L58, k58, n58⟩, -, X58, ⟨Lc58, hQ58, l58, y58, z58⟩, st58⟩ := X50.virtualBack hx (y := (⟨"java/time/LocalDate", "getMonthValue", "()I"⟩ : MethodName)) (z := (⟨"java/time/LocalDate", "getMonthValue", "()I"⟩ : MethodName)) hown (mvT hZ (ow hw 160 rfl)) (mvT hZ (ow hw 161 rfl)) (notFace_of_selects (args := #[]) (mvT hZ (ow hw 163 rfl))) (mvT hZ (ow hw 163 rfl)) (mvT hZ (ow hw 162 rfl)) (by decide) (backOf (W := 0) (rm_getMonthValue l Z a0 hw [] b2 mb T46.heap n0 F49 Q46_2) hZ (ow hw 164 rfl) (ow hw 63 rfl) (by decide) (by decide)) q58a q58c (g := (mkF m 119 #[iv p0, iv p1, iv p2, iv p3, rv ca, rv st, iv n23, rv ho1, rv ho2, rv b1, rv b2, .val (.long ed), .second, iv 1, un, un, un, un, un] [(.ref b2)])) rfl (by rw [hml]; rfl) (Steps.refl _) (argsL := []) (rest := []) (lenOf pd_544 rfl) rfl (by show 2 * 0 + _ ≤ _; exact Nat.le_of_eq rfl) (hb hby at_119) (fun _ _ => ⟨rfl, e50, (by decide : 9 + 0 ≤ _), (by decide : 32 + 0 ≤ _)⟩)
  dsimp only [Pt.U, Pt.locs, Pt.cells, Pt.slots] at X58 l58 y58 z58 st58 hQ58
  subst l58 y58 z58
  obtain ⟨rfl, N58q, e58⟩ := hQ58
  have N58 := Fr.app N50 N58q
  refine Go.to st58 ?_
  show Go _ _ _ _ T58 (mkF m 122 #[iv p0, iv p1, iv p2, iv p3, rv ca, rv st, iv n23, rv ho1, rv ho2, rv b1, rv b2, .val (.long ed), .second, iv 1, un, un, un, un, un] [(.int mb)])
  refine Go.istore2 124 X58 hx (L' := #[iv p0, iv p1, iv p2, iv p3, rv ca, rv st, iv n23, rv ho1, rv ho2, rv b1, rv b2, .val (.long ed), .second, iv 1, iv mb, un, un, un, un]) (hb hby at_122) rfl rfl ?_
  refine Go.aload2 126 X58 hx (hb hby at_124) rfl rfl rfl ?_
  obtain ⟨cq59, kq59, q59a, q59b, q59c⟩ := isOf hZ e58 Q46_0
  obtain ⟨_, _, ⟨T59, L59, k59, n59⟩, -, X59, ⟨Lc59, hQ59, l59, y59, z59⟩, st59⟩ := X58.virtualBack hx (y := (⟨"java/time/LocalDate", "getDayOfMonth", "()I"⟩ : MethodName)) (z := (⟨"java/time/LocalDate", "getDayOfMonth", "()I"⟩ : MethodName)) hown (mvT hZ (ow hw 165 rfl)) (mvT hZ (ow hw 166 rfl)) (notFace_of_selects (args := #[]) (mvT hZ (ow hw 168 rfl))) (mvT hZ (ow hw 168 rfl)) (mvT hZ (ow hw 167 rfl)) (by decide) (backOf (W := 0) (rm_getDayOfMonth l Z a0 hw [] b2 db T46.heap n0 F49 Q46_3) hZ (ow hw 169 rfl) (ow hw 63 rfl) (by decide) (by decide)) q59a q59c (g := (mkF m 126 #[iv p0, iv p1, iv p2, iv p3, rv ca, rv st, iv n23, rv ho1, rv ho2, rv b1, rv b2, .val (.long ed), .second, iv 1, iv mb, un, un, un, un] [(.ref b2)])) rfl (by rw [hml]; rfl) (Steps.refl _) (argsL := []) (rest := []) (lenOf pd_544 rfl) rfl (by show 2 * 0 + _ ≤ _; exact Nat.le_of_eq rfl) (hb hby at_126) (fun _ _ => ⟨rfl, e58, (by decide : 9 + 0 ≤ _), (by decide : 32 + 0 ≤ _)⟩)
  dsimp only [Pt.U, Pt.locs, Pt.cells, Pt.slots] at X59 l59 y59 z59 st59 hQ59
  subst l59 y59 z59
  obtain ⟨rfl, N59q, e59⟩ := hQ59
  have N59 := Fr.app N58 N59q
  refine Go.to st59 ?_
  show Go _ _ _ _ T59 (mkF m 129 #[iv p0, iv p1, iv p2, iv p3, rv ca, rv st, iv n23, rv ho1, rv ho2, rv b1, rv b2, .val (.long ed), .second, iv 1, iv mb, un, un, un, un] [(.int db)])
  refine Go.istore2 131 X59 hx (L' := #[iv p0, iv p1, iv p2, iv p3, rv ca, rv st, iv n23, rv ho1, rv ho2, rv b1, rv b2, .val (.long ed), .second, iv 1, iv mb, iv db, un, un, un]) (hb hby at_129) rfl rfl ?_
  refine Go.iload2 133 X59 hx (hb hby at_131) rfl rfl ?_
  refine Go.iconst 134 X59 hx (3 : Int32) (hb hby at_133) (by decide) rfl ?_
  have li60 : (3 : Int32).toInt = 3 := by decide
  by_cases hb61 : mb = (3 : Int32)
  · refine Go.icmpN 137 X59 hx (hb hby at_134) (XT.ii_ne_f hb61) rfl ?_
    have i_hb61 := o_eq32 hb61
    refine Go.iload2 139 X59 hx (hb hby at_137) rfl rfl ?_
    refine Go.bipush 141 X59 hx (22 : Int32) (hb hby at_139) (by decide) rfl ?_
    have li62 : (22 : Int32).toInt = 22 := by decide
    refine Go.icmpY 157 X59 hx (hb hby at_141) (XT.ii_ge_t (u_nlt32 (by omega))) (by decide) (by decide) ?_
    refine Go.iconst 158 X59 hx (1 : Int32) (hb hby at_157) (by decide) rfl ?_
    refine Go.goto 162 X59 hx (hb hby at_158) (by decide) (by decide) ?_
    refine Go.istore2 164 X59 hx (L' := #[iv p0, iv p1, iv p2, iv p3, rv ca, rv st, iv n23, rv ho1, rv ho2, rv b1, rv b2, .val (.long ed), .second, iv 1, iv mb, iv db, iv 1, un, un]) (hb hby at_162) rfl rfl ?_
    refine Go.aload2 166 X59 hx (hb hby at_164) rfl rfl rfl ?_
    obtain ⟨cq63, kq63, q63a, q63b, q63c⟩ := isOf hZ e59 Q46_0
    obtain ⟨_, _, ⟨T63, L63, k63, n63⟩, -, X63, ⟨Lc63, hQ63, l63, y63, z63⟩, st63⟩ := X59.virtualBack hx (y := (⟨"java/time/LocalDate", "getYear", "()I"⟩ : MethodName)) (z := (⟨"java/time/LocalDate", "getYear", "()I"⟩ : MethodName)) hown (mvT hZ (ow hw 170 rfl)) (mvT hZ (ow hw 171 rfl)) (notFace_of_selects (args := #[]) (mvT hZ (ow hw 173 rfl))) (mvT hZ (ow hw 173 rfl)) (mvT hZ (ow hw 172 rfl)) (by decide) (backOf (W := 0) (rm_getYear l Z a0 hw [] b2 yb T46.heap n0 F49 Q46_1) hZ (ow hw 174 rfl) (ow hw 63 rfl) (by decide) (by decide)) q63a q63c (g := (mkF m 166 #[iv p0, iv p1, iv p2, iv p3, rv ca, rv st, iv n23, rv ho1, rv ho2, rv b1, rv b2, .val (.long ed), .second, iv 1, iv mb, iv db, iv 1, un, un] [(.ref b2)])) rfl (by rw [hml]; rfl) (Steps.refl _) (argsL := []) (rest := []) (lenOf pd_544 rfl) rfl (by show 2 * 0 + _ ≤ _; exact Nat.le_of_eq rfl) (hb hby at_166) (fun _ _ => ⟨rfl, e59, (by decide : 9 + 0 ≤ _), (by decide : 32 + 0 ≤ _)⟩)
    dsimp only [Pt.U, Pt.locs, Pt.cells, Pt.slots] at X63 l63 y63 z63 st63 hQ63
    subst l63 y63 z63
    obtain ⟨rfl, N63q, e63⟩ := hQ63
    have N63 := Fr.app N59 N63q
    refine Go.to st63 ?_
    show Go _ _ _ _ T63 (mkF m 169 #[iv p0, iv p1, iv p2, iv p3, rv ca, rv st, iv n23, rv ho1, rv ho2, rv b1, rv b2, .val (.long ed), .second, iv 1, iv mb, iv db, iv 1, un, un] [(.int yb)])
    refine Go.iload2 171 X63 hx (hb hby at_169) rfl rfl ?_
    refine Go.icmpN 174 X63 hx (hb hby at_171) (XT.ii_ne_f hz1) rfl ?_
    refine Go.iconst 175 X63 hx (1 : Int32) (hb hby at_174) (by decide) rfl ?_
    refine Go.goto 179 X63 hx (hb hby at_175) (by decide) (by decide) ?_
    refine Go.istore2 181 X63 hx (L' := #[iv p0, iv p1, iv p2, iv p3, rv ca, rv st, iv n23, rv ho1, rv ho2, rv b1, rv b2, .val (.long ed), .second, iv 1, iv mb, iv db, iv 1, iv 1, un]) (hb hby at_179) rfl rfl ?_
    refine Go.aload2 183 X63 hx (hb hby at_181) rfl rfl rfl ?_
    have F64 : Exa Z T46.heap b1 "java/time/LocalDate" := Q40_0.keep K46
    have F65 : Fld Z T46.heap b1 "java/time/LocalDate" "year" "I" (.int ya) := Q40_1.keep K46 nin0
    have F66 : Fld Z T46.heap b1 "java/time/LocalDate" "month" "S" (.int ma) := Q40_2.keep K46 nin0
    have F67 : Fld Z T46.heap b1 "java/time/LocalDate" "day" "S" (.int da) := Q40_3.keep K46 nin0
    obtain ⟨cq68, kq68, q68a, q68b, q68c⟩ := isOf hZ e63 F64
    obtain ⟨_, _, ⟨T68, L68, k68, n68⟩, -, X68, ⟨Lc68, hQ68, l68, y68, z68⟩, st68⟩ := X63.virtualBack hx (y := (⟨"java/time/LocalDate", "toEpochDay", "()J"⟩ : MethodName)) (z := (⟨"java/time/LocalDate", "toEpochDay", "()J"⟩ : MethodName)) hown (mvT hZ (ow hw 128 rfl)) (mvT hZ (ow hw 129 rfl)) (notFace_of_selects (args := #[]) (mvT hZ (ow hw 131 rfl))) (mvT hZ (ow hw 131 rfl)) (mvT hZ (ow hw 130 rfl)) (by decide) (backOf (W := 0) (rmTed l Z a0 hw [] b1 ya ma da cY vY cM vM cD vD cE vE ic T46.heap n0 F49 F48 F64 F65 F66 F67 Q40_5 Q40_6 Q40_7 Dc0 Dc1 Dc2 Dc3 Dc4 Dc5 Dc6 Dc7 Dc8 Dc9 Dc10 Dc11 Dc12 Dc13 Dc14 Dc15 Dc16 Dc17 Dc18 Dc19 Dc20 Dc21 Dc22 Dc23 Dc24 Dc25) hZ (ow hw 132 rfl) (ow hw 63 rfl) (by decide) (by decide)) q68a q68c (g := (mkF m 183 #[iv p0, iv p1, iv p2, iv p3, rv ca, rv st, iv n23, rv ho1, rv ho2, rv b1, rv b2, .val (.long ed), .second, iv 1, iv mb, iv db, iv 1, iv 1, un] [(.ref b1)])) rfl (by rw [hml]; rfl) (Steps.refl _) (argsL := []) (rest := []) (lenOf pd_14 rfl) rfl (by show 2 * 0 + _ ≤ _; exact Nat.le_of_eq rfl) (hb hby at_183) (fun _ _ => ⟨rfl, e63, (by decide : 9 + 0 ≤ _), (by decide : 32 + 0 ≤ _)⟩)
    dsimp only [Pt.U, Pt.locs, Pt.cells, Pt.slots] at X68 l68 y68 z68 st68 hQ68
    subst l68 y68 z68
    obtain ⟨ee, rfl, N68q, e68, Q68_0⟩ := hQ68
    have N68 := Fr.app N63 N68q
    refine Go.to st68 ?_
    show Go _ _ _ _ T68 (mkF m 186 #[iv p0, iv p1, iv p2, iv p3, rv ca, rv st, iv n23, rv ho1, rv ho2, rv b1, rv b2, .val (.long ed), .second, iv 1, iv mb, iv db, iv 1, iv 1, un] [(.long ee)])
    have hee := Q68_0
    rw [hEa] at hee
    have hr3 := rng32 p3
    refine Go.lload2 188 X68 hx (hb hby at_186) rfl rfl ?_
    refine Go.lsub 189 X68 hx (hb hby at_188) rfl ?_
    obtain ⟨n69, h_n69⟩ : ∃ z, z = (ee - ed) := ⟨_, rfl⟩
    rw [← h_n69]
    show Go _ _ _ _ T68 (mkF m 189 #[iv p0, iv p1, iv p2, iv p3, rv ca, rv st, iv n23, rv ho1, rv ho2, rv b1, rv b2, .val (.long ed), .second, iv 1, iv mb, iv db, iv 1, iv 1, un] [(.long n69)])
    have e_n69 : n69.toInt = ee.toInt - ed.toInt := by rw [h_n69]; exact x_lsub (by omega) (by omega)
    refine Go.iload1 190 X68 hx (hb hby at_189) rfl rfl ?_
    refine Go.i2l 191 X68 hx (hb hby at_190) rfl ?_
    obtain ⟨n70, h_n70⟩ : ∃ z, z = (p3.toInt64) := ⟨_, rfl⟩
    rw [← h_n70]
    show Go _ _ _ _ T68 (mkF m 191 #[iv p0, iv p1, iv p2, iv p3, rv ca, rv st, iv n23, rv ho1, rv ho2, rv b1, rv b2, .val (.long ed), .second, iv 1, iv mb, iv db, iv 1, iv 1, un] [(.long n70), (.long n69)])
    have e_n70 : n70.toInt = p3.toInt := by rw [h_n70]; exact c_i2l _
    refine Go.lcmp 192 X68 hx (hb hby at_191) rfl ?_
    refine Go.ifN 195 X68 hx (hb hby at_192) (XT.ll_ne_f (u_eq64 (by omega))) rfl ?_
    refine Go.iconst 196 X68 hx (1 : Int32) (hb hby at_195) (by decide) rfl ?_
    refine Go.goto 200 X68 hx (hb hby at_196) (by decide) (by decide) ?_
    refine Go.istore2 202 X68 hx (L' := #[iv p0, iv p1, iv p2, iv p3, rv ca, rv st, iv n23, rv ho1, rv ho2, rv b1, rv b2, .val (.long ed), .second, iv 1, iv mb, iv db, iv 1, iv 1, iv 1]) (hb hby at_200) rfl rfl ?_
    refine Go.aload2 204 X68 hx (hb hby at_202) rfl rfl rfl ?_
    refine Go.aload2 206 X68 hx (hb hby at_204) rfl rfl rfl ?_
    have F71 : Fld Z T33.heap ho1 "com/example/diligent_tariff/diligenttariff/book/Holiday" "name" "Ljava/lang/String;" (.ref st) := Q27_1.keep K33 nin0
    have F72 : Fld Z T40.heap ho1 "com/example/diligent_tariff/diligenttariff/book/Holiday" "name" "Ljava/lang/String;" (.ref st) := F71.keep K40 nin0
    have F73 : Fld Z T46.heap ho1 "com/example/diligent_tariff/diligenttariff/book/Holiday" "name" "Ljava/lang/String;" (.ref st) := F72.keep K46 nin0
    have F75 : Exa Z T40.heap ho1 "com/example/diligent_tariff/diligenttariff/book/Holiday" := F41.keep K40
    have F76 : Exa Z T46.heap ho1 "com/example/diligent_tariff/diligenttariff/book/Holiday" := F75.keep K46
    obtain ⟨cq74, kq74, q74a, q74b, q74c⟩ := isOf hZ e68 F76
    obtain ⟨_, _, ⟨T74, L74, k74, n74⟩, -, X74, ⟨Lc74, hQ74, l74, y74, z74⟩, st74⟩ := X68.virtualBack hx (y := (⟨"com/example/diligent_tariff/diligenttariff/book/Holiday", "getName", "()Ljava/lang/String;"⟩ : MethodName)) (z := (⟨"com/example/diligent_tariff/diligenttariff/book/Holiday", "getName", "()Ljava/lang/String;"⟩ : MethodName)) hown (mvT hZ (ow hw 175 rfl)) (mvT hZ (ow hw 176 rfl)) (notFace_of_selects (args := #[]) (mvT hZ (ow hw 178 rfl))) (mvT hZ (ow hw 178 rfl)) (mvT hZ (ow hw 177 rfl)) (by decide) (backOf (W := 1) (rmGn l Z a0 hw [] ho1 st T46.heap n0 F49 F73) hZ (ow hw 179 rfl) (ow hw 33 rfl) (by decide) (by decide)) q74a q74c (g := (mkF m 206 #[iv p0, iv p1, iv p2, iv p3, rv ca, rv st, iv n23, rv ho1, rv ho2, rv b1, rv b2, .val (.long ed), .second, iv 1, iv mb, iv db, iv 1, iv 1, iv 1] [(.ref ho1), (.ref st)])) rfl (by rw [hml]; rfl) (Steps.refl _) (argsL := []) (rest := [(.ref st)]) (lenOf pd_736 rfl) rfl (by show 2 * 0 + _ ≤ _; exact Nat.le_of_eq rfl) (hb hby at_206) (fun _ _ => ⟨rfl, e68, (by decide : 9 + 0 ≤ _), (by decide : 32 + 0 ≤ _)⟩)
    dsimp only [Pt.U, Pt.locs, Pt.cells, Pt.slots] at X74 l74 y74 z74 st74 hQ74
    subst l74 y74 z74
    obtain ⟨rfl, N74q, e74⟩ := hQ74
    have N74 := Fr.app N68 N74q
    refine Go.to st74 ?_
    show Go _ _ _ _ T74 (mkF m 209 #[iv p0, iv p1, iv p2, iv p3, rv ca, rv st, iv n23, rv ho1, rv ho2, rv b1, rv b2, .val (.long ed), .second, iv 1, iv mb, iv db, iv 1, iv 1, iv 1] [(.ref st), (.ref st)])
    have F78 : Exa Z T33.heap st "java/lang/String" := F32.keep K33
    have F79 : Exa Z T40.heap st "java/lang/String" := F78.keep K40
    have F80 : Exa Z T46.heap st "java/lang/String" := F79.keep K46
    obtain ⟨cq77, kq77, q77a, q77b, q77c⟩ := isOf hZ e74 F80
    obtain ⟨_, _, ⟨T77, L77, k77, n77⟩, -, X77, ⟨Lc77, hQ77, l77, y77, z77⟩, st77⟩ := X74.virtualBack hx (y := (⟨"java/lang/String", "equals", "(Ljava/lang/Object;)Z"⟩ : MethodName)) (z := (⟨"java/lang/String", "equals", "(Ljava/lang/Object;)Z"⟩ : MethodName)) hown (mvT hZ (ow hw 180 rfl)) (mvT hZ (ow hw 181 rfl)) (notFace_of_selects (args := #[]) (mvT hZ (ow hw 183 rfl))) (mvT hZ (ow hw 183 rfl)) (mvT hZ (ow hw 182 rfl)) (by decide) (backOf (W := 0) (rmSame l Z a0 hw [] st T46.heap n0 F49 ) hZ (ow hw 184 rfl) (ow hw 3 rfl) (by decide) (by decide)) q77a q77c (g := (mkF m 209 #[iv p0, iv p1, iv p2, iv p3, rv ca, rv st, iv n23, rv ho1, rv ho2, rv b1, rv b2, .val (.long ed), .second, iv 1, iv mb, iv db, iv 1, iv 1, iv 1] [(.ref st), (.ref st)])) rfl (by rw [hml]; rfl) (Steps.refl _) (argsL := [(.ref st)]) (rest := []) (lenOf pd_737 rfl) rfl (by show 2 * 0 + _ ≤ _; exact Nat.le_of_eq rfl) (hb hby at_209) (fun _ _ => ⟨rfl, e74, (by decide : 9 + 0 ≤ _), (by decide : 32 + 0 ≤ _)⟩)
    dsimp only [Pt.U, Pt.locs, Pt.cells, Pt.slots] at X77 l77 y77 z77 st77 hQ77
    subst l77 y77 z77
    obtain ⟨rfl, N77q, e77⟩ := hQ77
    have N77 := Fr.app N74 N77q
    refine Go.to st77 ?_
    show Go _ _ _ _ T77 (mkF m 212 #[iv p0, iv p1, iv p2, iv p3, rv ca, rv st, iv n23, rv ho1, rv ho2, rv b1, rv b2, .val (.long ed), .second, iv 1, iv mb, iv db, iv 1, iv 1, iv 1] [(.int 1)])
    refine Go.ifN 215 X77 hx (hb hby at_212) (XT.i0_eq_f (by decide)) rfl ?_
    refine Go.iload2 217 X77 hx (hb hby at_215) rfl rfl ?_
    refine Go.ifN 220 X77 hx (hb hby at_217) (XT.i0_eq_f (by decide)) rfl ?_
    refine Go.iload2 222 X77 hx (hb hby at_220) rfl rfl ?_
    refine Go.ifN 225 X77 hx (hb hby at_222) (XT.i0_eq_f (by decide)) rfl ?_
    refine Go.iload2 227 X77 hx (hb hby at_225) rfl rfl ?_
    refine Go.ifN 230 X77 hx (hb hby at_227) (XT.i0_eq_f (by decide)) rfl ?_
    refine Go.iload2 232 X77 hx (hb hby at_230) rfl rfl ?_
    refine Go.ifN 235 X77 hx (hb hby at_232) (XT.i0_eq_f (by decide)) rfl ?_
    refine Go.iconst 236 X77 hx (1 : Int32) (hb hby at_235) (by decide) rfl ?_
    refine Go.goto 240 X77 hx (hb hby at_236) (by decide) (by decide) ?_
    exact Go.retI X77 hx Bd.notSynchronized Bd.returns rfl (by simp) (hb hby at_240) (by rw [e77]; exact ⟨rfl, N77⟩) (by decide) (by decide)
  · refine Go.icmpY 144 X59 hx (hb hby at_134) (XT.ii_ne_t hb61) (by decide) (by decide) ?_
    have i_hb61 := o_neq32 hb61
    refine Go.iload2 146 X59 hx (hb hby at_144) rfl rfl ?_
    refine Go.iconst 147 X59 hx (4 : Int32) (hb hby at_146) (by decide) rfl ?_
    have li81 : (4 : Int32).toInt = 4 := by decide
    refine Go.icmpN 150 X59 hx (hb hby at_147) (XT.ii_ne_f (u_eq32 (by omega))) rfl ?_
    refine Go.iload2 152 X59 hx (hb hby at_150) rfl rfl ?_
    refine Go.bipush 154 X59 hx (25 : Int32) (hb hby at_152) (by decide) rfl ?_
    have li82 : (25 : Int32).toInt = 25 := by decide
    refine Go.icmpN 157 X59 hx (hb hby at_154) (XT.ii_gt_f (u_nlt32 (by omega))) rfl ?_
    refine Go.iconst 158 X59 hx (1 : Int32) (hb hby at_157) (by decide) rfl ?_
    refine Go.goto 162 X59 hx (hb hby at_158) (by decide) (by decide) ?_
    refine Go.istore2 164 X59 hx (L' := #[iv p0, iv p1, iv p2, iv p3, rv ca, rv st, iv n23, rv ho1, rv ho2, rv b1, rv b2, .val (.long ed), .second, iv 1, iv mb, iv db, iv 1, un, un]) (hb hby at_162) rfl rfl ?_
    refine Go.aload2 166 X59 hx (hb hby at_164) rfl rfl rfl ?_
    obtain ⟨cq83, kq83, q83a, q83b, q83c⟩ := isOf hZ e59 Q46_0
    obtain ⟨_, _, ⟨T83, L83, k83, n83⟩, -, X83, ⟨Lc83, hQ83, l83, y83, z83⟩, st83⟩ := X59.virtualBack hx (y := (⟨"java/time/LocalDate", "getYear", "()I"⟩ : MethodName)) (z := (⟨"java/time/LocalDate", "getYear", "()I"⟩ : MethodName)) hown (mvT hZ (ow hw 170 rfl)) (mvT hZ (ow hw 171 rfl)) (notFace_of_selects (args := #[]) (mvT hZ (ow hw 173 rfl))) (mvT hZ (ow hw 173 rfl)) (mvT hZ (ow hw 172 rfl)) (by decide) (backOf (W := 0) (rm_getYear l Z a0 hw [] b2 yb T46.heap n0 F49 Q46_1) hZ (ow hw 174 rfl) (ow hw 63 rfl) (by decide) (by decide)) q83a q83c (g := (mkF m 166 #[iv p0, iv p1, iv p2, iv p3, rv ca, rv st, iv n23, rv ho1, rv ho2, rv b1, rv b2, .val (.long ed), .second, iv 1, iv mb, iv db, iv 1, un, un] [(.ref b2)])) rfl (by rw [hml]; rfl) (Steps.refl _) (argsL := []) (rest := []) (lenOf pd_544 rfl) rfl (by show 2 * 0 + _ ≤ _; exact Nat.le_of_eq rfl) (hb hby at_166) (fun _ _ => ⟨rfl, e59, (by decide : 9 + 0 ≤ _), (by decide : 32 + 0 ≤ _)⟩)
    dsimp only [Pt.U, Pt.locs, Pt.cells, Pt.slots] at X83 l83 y83 z83 st83 hQ83
    subst l83 y83 z83
    obtain ⟨rfl, N83q, e83⟩ := hQ83
    have N83 := Fr.app N59 N83q
    refine Go.to st83 ?_
    show Go _ _ _ _ T83 (mkF m 169 #[iv p0, iv p1, iv p2, iv p3, rv ca, rv st, iv n23, rv ho1, rv ho2, rv b1, rv b2, .val (.long ed), .second, iv 1, iv mb, iv db, iv 1, un, un] [(.int yb)])
    refine Go.iload2 171 X83 hx (hb hby at_169) rfl rfl ?_
    refine Go.icmpN 174 X83 hx (hb hby at_171) (XT.ii_ne_f hz1) rfl ?_
    refine Go.iconst 175 X83 hx (1 : Int32) (hb hby at_174) (by decide) rfl ?_
    refine Go.goto 179 X83 hx (hb hby at_175) (by decide) (by decide) ?_
    refine Go.istore2 181 X83 hx (L' := #[iv p0, iv p1, iv p2, iv p3, rv ca, rv st, iv n23, rv ho1, rv ho2, rv b1, rv b2, .val (.long ed), .second, iv 1, iv mb, iv db, iv 1, iv 1, un]) (hb hby at_179) rfl rfl ?_
    refine Go.aload2 183 X83 hx (hb hby at_181) rfl rfl rfl ?_
    have F84 : Exa Z T46.heap b1 "java/time/LocalDate" := Q40_0.keep K46
    have F85 : Fld Z T46.heap b1 "java/time/LocalDate" "year" "I" (.int ya) := Q40_1.keep K46 nin0
    have F86 : Fld Z T46.heap b1 "java/time/LocalDate" "month" "S" (.int ma) := Q40_2.keep K46 nin0
    have F87 : Fld Z T46.heap b1 "java/time/LocalDate" "day" "S" (.int da) := Q40_3.keep K46 nin0
    obtain ⟨cq88, kq88, q88a, q88b, q88c⟩ := isOf hZ e83 F84
    obtain ⟨_, _, ⟨T88, L88, k88, n88⟩, -, X88, ⟨Lc88, hQ88, l88, y88, z88⟩, st88⟩ := X83.virtualBack hx (y := (⟨"java/time/LocalDate", "toEpochDay", "()J"⟩ : MethodName)) (z := (⟨"java/time/LocalDate", "toEpochDay", "()J"⟩ : MethodName)) hown (mvT hZ (ow hw 128 rfl)) (mvT hZ (ow hw 129 rfl)) (notFace_of_selects (args := #[]) (mvT hZ (ow hw 131 rfl))) (mvT hZ (ow hw 131 rfl)) (mvT hZ (ow hw 130 rfl)) (by decide) (backOf (W := 0) (rmTed l Z a0 hw [] b1 ya ma da cY vY cM vM cD vD cE vE ic T46.heap n0 F49 F48 F84 F85 F86 F87 Q40_5 Q40_6 Q40_7 Dc0 Dc1 Dc2 Dc3 Dc4 Dc5 Dc6 Dc7 Dc8 Dc9 Dc10 Dc11 Dc12 Dc13 Dc14 Dc15 Dc16 Dc17 Dc18 Dc19 Dc20 Dc21 Dc22 Dc23 Dc24 Dc25) hZ (ow hw 132 rfl) (ow hw 63 rfl) (by decide) (by decide)) q88a q88c (g := (mkF m 183 #[iv p0, iv p1, iv p2, iv p3, rv ca, rv st, iv n23, rv ho1, rv ho2, rv b1, rv b2, .val (.long ed), .second, iv 1, iv mb, iv db, iv 1, iv 1, un] [(.ref b1)])) rfl (by rw [hml]; rfl) (Steps.refl _) (argsL := []) (rest := []) (lenOf pd_14 rfl) rfl (by show 2 * 0 + _ ≤ _; exact Nat.le_of_eq rfl) (hb hby at_183) (fun _ _ => ⟨rfl, e83, (by decide : 9 + 0 ≤ _), (by decide : 32 + 0 ≤ _)⟩)
    dsimp only [Pt.U, Pt.locs, Pt.cells, Pt.slots] at X88 l88 y88 z88 st88 hQ88
    subst l88 y88 z88
    obtain ⟨ee, rfl, N88q, e88, Q88_0⟩ := hQ88
    have N88 := Fr.app N83 N88q
    refine Go.to st88 ?_
    show Go _ _ _ _ T88 (mkF m 186 #[iv p0, iv p1, iv p2, iv p3, rv ca, rv st, iv n23, rv ho1, rv ho2, rv b1, rv b2, .val (.long ed), .second, iv 1, iv mb, iv db, iv 1, iv 1, un] [(.long ee)])
    have hee := Q88_0
    rw [hEa] at hee
    have hr3 := rng32 p3
    refine Go.lload2 188 X88 hx (hb hby at_186) rfl rfl ?_
    refine Go.lsub 189 X88 hx (hb hby at_188) rfl ?_
    obtain ⟨n89, h_n89⟩ : ∃ z, z = (ee - ed) := ⟨_, rfl⟩
    rw [← h_n89]
    show Go _ _ _ _ T88 (mkF m 189 #[iv p0, iv p1, iv p2, iv p3, rv ca, rv st, iv n23, rv ho1, rv ho2, rv b1, rv b2, .val (.long ed), .second, iv 1, iv mb, iv db, iv 1, iv 1, un] [(.long n89)])
    have e_n89 : n89.toInt = ee.toInt - ed.toInt := by rw [h_n89]; exact x_lsub (by omega) (by omega)
    refine Go.iload1 190 X88 hx (hb hby at_189) rfl rfl ?_
    refine Go.i2l 191 X88 hx (hb hby at_190) rfl ?_
    obtain ⟨n90, h_n90⟩ : ∃ z, z = (p3.toInt64) := ⟨_, rfl⟩
    rw [← h_n90]
    show Go _ _ _ _ T88 (mkF m 191 #[iv p0, iv p1, iv p2, iv p3, rv ca, rv st, iv n23, rv ho1, rv ho2, rv b1, rv b2, .val (.long ed), .second, iv 1, iv mb, iv db, iv 1, iv 1, un] [(.long n90), (.long n89)])
    have e_n90 : n90.toInt = p3.toInt := by rw [h_n90]; exact c_i2l _
    refine Go.lcmp 192 X88 hx (hb hby at_191) rfl ?_
    refine Go.ifN 195 X88 hx (hb hby at_192) (XT.ll_ne_f (u_eq64 (by omega))) rfl ?_
    refine Go.iconst 196 X88 hx (1 : Int32) (hb hby at_195) (by decide) rfl ?_
    refine Go.goto 200 X88 hx (hb hby at_196) (by decide) (by decide) ?_
    refine Go.istore2 202 X88 hx (L' := #[iv p0, iv p1, iv p2, iv p3, rv ca, rv st, iv n23, rv ho1, rv ho2, rv b1, rv b2, .val (.long ed), .second, iv 1, iv mb, iv db, iv 1, iv 1, iv 1]) (hb hby at_200) rfl rfl ?_
    refine Go.aload2 204 X88 hx (hb hby at_202) rfl rfl rfl ?_
    refine Go.aload2 206 X88 hx (hb hby at_204) rfl rfl rfl ?_
    have F91 : Fld Z T33.heap ho1 "com/example/diligent_tariff/diligenttariff/book/Holiday" "name" "Ljava/lang/String;" (.ref st) := Q27_1.keep K33 nin0
    have F92 : Fld Z T40.heap ho1 "com/example/diligent_tariff/diligenttariff/book/Holiday" "name" "Ljava/lang/String;" (.ref st) := F91.keep K40 nin0
    have F93 : Fld Z T46.heap ho1 "com/example/diligent_tariff/diligenttariff/book/Holiday" "name" "Ljava/lang/String;" (.ref st) := F92.keep K46 nin0
    have F95 : Exa Z T40.heap ho1 "com/example/diligent_tariff/diligenttariff/book/Holiday" := F41.keep K40
    have F96 : Exa Z T46.heap ho1 "com/example/diligent_tariff/diligenttariff/book/Holiday" := F95.keep K46
    obtain ⟨cq94, kq94, q94a, q94b, q94c⟩ := isOf hZ e88 F96
    obtain ⟨_, _, ⟨T94, L94, k94, n94⟩, -, X94, ⟨Lc94, hQ94, l94, y94, z94⟩, st94⟩ := X88.virtualBack hx (y := (⟨"com/example/diligent_tariff/diligenttariff/book/Holiday", "getName", "()Ljava/lang/String;"⟩ : MethodName)) (z := (⟨"com/example/diligent_tariff/diligenttariff/book/Holiday", "getName", "()Ljava/lang/String;"⟩ : MethodName)) hown (mvT hZ (ow hw 175 rfl)) (mvT hZ (ow hw 176 rfl)) (notFace_of_selects (args := #[]) (mvT hZ (ow hw 178 rfl))) (mvT hZ (ow hw 178 rfl)) (mvT hZ (ow hw 177 rfl)) (by decide) (backOf (W := 1) (rmGn l Z a0 hw [] ho1 st T46.heap n0 F49 F93) hZ (ow hw 179 rfl) (ow hw 33 rfl) (by decide) (by decide)) q94a q94c (g := (mkF m 206 #[iv p0, iv p1, iv p2, iv p3, rv ca, rv st, iv n23, rv ho1, rv ho2, rv b1, rv b2, .val (.long ed), .second, iv 1, iv mb, iv db, iv 1, iv 1, iv 1] [(.ref ho1), (.ref st)])) rfl (by rw [hml]; rfl) (Steps.refl _) (argsL := []) (rest := [(.ref st)]) (lenOf pd_736 rfl) rfl (by show 2 * 0 + _ ≤ _; exact Nat.le_of_eq rfl) (hb hby at_206) (fun _ _ => ⟨rfl, e88, (by decide : 9 + 0 ≤ _), (by decide : 32 + 0 ≤ _)⟩)
    dsimp only [Pt.U, Pt.locs, Pt.cells, Pt.slots] at X94 l94 y94 z94 st94 hQ94
    subst l94 y94 z94
    obtain ⟨rfl, N94q, e94⟩ := hQ94
    have N94 := Fr.app N88 N94q
    refine Go.to st94 ?_
    show Go _ _ _ _ T94 (mkF m 209 #[iv p0, iv p1, iv p2, iv p3, rv ca, rv st, iv n23, rv ho1, rv ho2, rv b1, rv b2, .val (.long ed), .second, iv 1, iv mb, iv db, iv 1, iv 1, iv 1] [(.ref st), (.ref st)])
    have F98 : Exa Z T33.heap st "java/lang/String" := F32.keep K33
    have F99 : Exa Z T40.heap st "java/lang/String" := F98.keep K40
    have F100 : Exa Z T46.heap st "java/lang/String" := F99.keep K46
    obtain ⟨cq97, kq97, q97a, q97b, q97c⟩ := isOf hZ e94 F100
    obtain ⟨_, _, ⟨T97, L97, k97, n97⟩, -, X97, ⟨Lc97, hQ97, l97, y97, z97⟩, st97⟩ := X94.virtualBack hx (y := (⟨"java/lang/String", "equals", "(Ljava/lang/Object;)Z"⟩ : MethodName)) (z := (⟨"java/lang/String", "equals", "(Ljava/lang/Object;)Z"⟩ : MethodName)) hown (mvT hZ (ow hw 180 rfl)) (mvT hZ (ow hw 181 rfl)) (notFace_of_selects (args := #[]) (mvT hZ (ow hw 183 rfl))) (mvT hZ (ow hw 183 rfl)) (mvT hZ (ow hw 182 rfl)) (by decide) (backOf (W := 0) (rmSame l Z a0 hw [] st T46.heap n0 F49 ) hZ (ow hw 184 rfl) (ow hw 3 rfl) (by decide) (by decide)) q97a q97c (g := (mkF m 209 #[iv p0, iv p1, iv p2, iv p3, rv ca, rv st, iv n23, rv ho1, rv ho2, rv b1, rv b2, .val (.long ed), .second, iv 1, iv mb, iv db, iv 1, iv 1, iv 1] [(.ref st), (.ref st)])) rfl (by rw [hml]; rfl) (Steps.refl _) (argsL := [(.ref st)]) (rest := []) (lenOf pd_737 rfl) rfl (by show 2 * 0 + _ ≤ _; exact Nat.le_of_eq rfl) (hb hby at_209) (fun _ _ => ⟨rfl, e94, (by decide : 9 + 0 ≤ _), (by decide : 32 + 0 ≤ _)⟩)
    dsimp only [Pt.U, Pt.locs, Pt.cells, Pt.slots] at X97 l97 y97 z97 st97 hQ97
    subst l97 y97 z97
    obtain ⟨rfl, N97q, e97⟩ := hQ97
    have N97 := Fr.app N94 N97q
    refine Go.to st97 ?_
    show Go _ _ _ _ T97 (mkF m 212 #[iv p0, iv p1, iv p2, iv p3, rv ca, rv st, iv n23, rv ho1, rv ho2, rv b1, rv b2, .val (.long ed), .second, iv 1, iv mb, iv db, iv 1, iv 1, iv 1] [(.int 1)])
    refine Go.ifN 215 X97 hx (hb hby at_212) (XT.i0_eq_f (by decide)) rfl ?_
    refine Go.iload2 217 X97 hx (hb hby at_215) rfl rfl ?_
    refine Go.ifN 220 X97 hx (hb hby at_217) (XT.i0_eq_f (by decide)) rfl ?_
    refine Go.iload2 222 X97 hx (hb hby at_220) rfl rfl ?_
    refine Go.ifN 225 X97 hx (hb hby at_222) (XT.i0_eq_f (by decide)) rfl ?_
    refine Go.iload2 227 X97 hx (hb hby at_225) rfl rfl ?_
    refine Go.ifN 230 X97 hx (hb hby at_227) (XT.i0_eq_f (by decide)) rfl ?_
    refine Go.iload2 232 X97 hx (hb hby at_230) rfl rfl ?_
    refine Go.ifN 235 X97 hx (hb hby at_232) (XT.i0_eq_f (by decide)) rfl ?_
    refine Go.iconst 236 X97 hx (1 : Int32) (hb hby at_235) (by decide) rfl ?_
    refine Go.goto 240 X97 hx (hb hby at_236) (by decide) (by decide) ?_
    exact Go.retI X97 hx Bd.notSynchronized Bd.returns rfl (by simp) (hb hby at_240) (by rw [e97]; exact ⟨rfl, N97⟩) (by decide) (by decide)
set_option maxRecDepth 65536 in
set_option maxHeartbeats 40000000 in
theorem comes_1 {Post : Tables → Env → Array Value → State → Outcome → State → Prop} (hpost : ∀ tb e args s v u, (limb_1_1.after args s (.returned v) u = true ∧ limb_1_2.after args s (.returned v) u = true ∧ True) → FrameEnd s (.returned v) u (Jvm.fieldLocs frame_1_writes args s ++ Jvm.arrayLocs frame_1_arrays args s ++ Jvm.staticLocs frame_1_statics s) 24 128 → Post tb e args s (.returned v) u) :
    ArmFor flags0 classFile x code maxLocals ret World_1 tables_1 room_1 Calls_1 rest_1 Pre_1 Post := by
  intro l hfl _ _ p e ha hc hk s m args below hf hA hF happ hP
  obtain ⟨hcalls, hrest, hpre⟩ := hP
  obtain ⟨-, -, -, hnamed, -, -, -, hat⟩ := (Spec.applies_iff hf).mp happ
  obtain ⟨hg, hn⟩ := and_e (Cond.before_iff.mp (show (Jvm.Cond.and given_1 narrow_1).before args s = true from hpre))
  obtain ⟨hcount, hg0⟩ := and_e hg
  obtain ⟨ha0, hg1⟩ := and_e hg0
  obtain ⟨ha1, hg2⟩ := and_e hg1
  obtain ⟨ha2, hg3⟩ := and_e hg2
  have ha3 := hg3
  obtain ⟨w0, w1, w2, w3, rfl⟩ : ∃ w0 w1 w2 w3 : Value, args = #[w0, w1, w2, w3] := by
    have hs : args.size = 4 := by simpa [Cond.value, given_1] using hcount
    obtain ⟨L⟩ := args
    match L, hs with
    | [w0, w1, w2, w3], _ => exact ⟨w0, w1, w2, w3, rfl⟩
  have hw := fun d (hd : d ∈ tables_1) => atoms_spec (ws := Jvm.Cond.code x code maxLocals ret :: tables_1) hat d (List.mem_cons_of_mem _ hd)
  obtain ⟨hsets, hown0⟩ := atoms_of _ (rest_1_c_eq ▸ (show rest_1_c.before _ s = true from hrest))
  have hr0 := Cond.before_iff.mp hown0
  have hfit : Fit s := fun {y c} hc i hi => by
    obtain ⟨ha, rfl⟩ := Array.getElem?_eq_some_iff.mp hc
    have q := List.all_eq_true.mp ((Array.all_eq_true_iff_forall_mem.mp hF) _ (Array.getElem_mem ha)) i (List.mem_range.mpr hi)
    simpa [Array.getElem?_eq_getElem hi] using q
  obtain ⟨i0, ei0⟩ := is_v ha0
  obtain rfl : w0 = (.int i0) := Option.some.inj ei0
  obtain ⟨i1, ei1⟩ := is_v ha1
  obtain rfl : w1 = (.int i1) := Option.some.inj ei1
  obtain ⟨i2, ei2⟩ := is_v ha2
  obtain rfl : w2 = (.int i2) := Option.some.inj ei2
  obtain ⟨i3, ei3⟩ := is_v ha3
  obtain rfl : w3 = (.int i3) := Option.some.inj ei3
  obtain ⟨cs, ev_cs⟩ := is_v (Cond.before_iff.mp (hsets _ (List.mem_of_getElem? (i := 1) rfl)))
  have S_cs := Sta.start ev_cs (Or.inl (hsets _ (List.mem_of_getElem? (i := 0) rfl)))
  have n_cs : ¬ (cs = (0 : Int32)) := gotF (Cond.eq_ints ev_cs (Term.int_eval (0))) (not_v (Cond.before_iff.mp (hsets _ (List.mem_of_getElem? (i := 2) rfl))))
  obtain ⟨cY, ev_cY⟩ := exa_v (Cond.before_iff.mp (hsets _ (List.mem_of_getElem? (i := 15) rfl)))
  obtain ⟨vY, ev_vY⟩ := exa_v (Cond.before_iff.mp (hsets _ (List.mem_of_getElem? (i := 31) rfl)))
  obtain ⟨cM, ev_cM⟩ := exa_v (Cond.before_iff.mp (hsets _ (List.mem_of_getElem? (i := 43) rfl)))
  obtain ⟨vM, ev_vM⟩ := exa_v (Cond.before_iff.mp (hsets _ (List.mem_of_getElem? (i := 59) rfl)))
  obtain ⟨cD, ev_cD⟩ := exa_v (Cond.before_iff.mp (hsets _ (List.mem_of_getElem? (i := 71) rfl)))
  obtain ⟨vD, ev_vD⟩ := exa_v (Cond.before_iff.mp (hsets _ (List.mem_of_getElem? (i := 87) rfl)))
  obtain ⟨cE, ev_cE⟩ := exa_v (Cond.before_iff.mp (hsets _ (List.mem_of_getElem? (i := 102) rfl)))
  obtain ⟨vE, ev_vE⟩ := exa_v (Cond.before_iff.mp (hsets _ (List.mem_of_getElem? (i := 118) rfl)))
  obtain ⟨ic, ev_ic⟩ := exa_v (Cond.before_iff.mp (hsets _ (List.mem_of_getElem? (i := 95) rfl)))
  have Dc0 : Sta s s.heap "java/time/temporal/ChronoField" "YEAR" "Ljava/time/temporal/ChronoField;" (.ref cY) := Sta.start ev_cY (Or.inl (hsets _ (List.mem_of_getElem? (i := 10) rfl)))
  have Dc1 : Exa s s.heap cY "java/time/temporal/ChronoField" := Exa.start ev_cY (Cond.before_iff.mp (hsets _ (List.mem_of_getElem? (i := 15) rfl)))
  have Dc2 : Fld s s.heap cY "java/time/temporal/ChronoField" "range" "Ljava/time/temporal/ValueRange;" (.ref vY) := Fld.start ((fld_at ev_cY).symm.trans ev_vY)
  have Dc3 : Exa s s.heap vY "java/time/temporal/ValueRange" := Exa.start ev_vY (Cond.before_iff.mp (hsets _ (List.mem_of_getElem? (i := 31) rfl)))
  have Dc4 : Fld s s.heap vY "java/time/temporal/ValueRange" "minSmallest" "J" (.long (-999999999 : Int64)) := Fld.start ((fld_at ev_vY).symm.trans (eqv_l (F := Term.long (-999999999)) rfl (Cond.before_iff.mp (hsets _ (List.mem_of_getElem? (i := 32) rfl)))))
  have Dc5 : Fld s s.heap vY "java/time/temporal/ValueRange" "maxLargest" "J" (.long (999999999 : Int64)) := Fld.start ((fld_at ev_vY).symm.trans (eqv_l (F := Term.long (999999999)) rfl (Cond.before_iff.mp (hsets _ (List.mem_of_getElem? (i := 35) rfl)))))
  have Dc6 : Sta s s.heap "java/time/temporal/ChronoField" "MONTH_OF_YEAR" "Ljava/time/temporal/ChronoField;" (.ref cM) := Sta.start ev_cM (Or.inl (hsets _ (List.mem_of_getElem? (i := 38) rfl)))
  have Dc7 : Exa s s.heap cM "java/time/temporal/ChronoField" := Exa.start ev_cM (Cond.before_iff.mp (hsets _ (List.mem_of_getElem? (i := 43) rfl)))
  have Dc8 : Fld s s.heap cM "java/time/temporal/ChronoField" "range" "Ljava/time/temporal/ValueRange;" (.ref vM) := Fld.start ((fld_at ev_cM).symm.trans ev_vM)
  have Dc9 : Exa s s.heap vM "java/time/temporal/ValueRange" := Exa.start ev_vM (Cond.before_iff.mp (hsets _ (List.mem_of_getElem? (i := 59) rfl)))
  have Dc10 : Fld s s.heap vM "java/time/temporal/ValueRange" "minSmallest" "J" (.long (1 : Int64)) := Fld.start ((fld_at ev_vM).symm.trans (eqv_l (F := Term.long (1)) rfl (Cond.before_iff.mp (hsets _ (List.mem_of_getElem? (i := 60) rfl)))))
  have Dc11 : Fld s s.heap vM "java/time/temporal/ValueRange" "maxLargest" "J" (.long (12 : Int64)) := Fld.start ((fld_at ev_vM).symm.trans (eqv_l (F := Term.long (12)) rfl (Cond.before_iff.mp (hsets _ (List.mem_of_getElem? (i := 63) rfl)))))
  have Dc12 : Sta s s.heap "java/time/temporal/ChronoField" "DAY_OF_MONTH" "Ljava/time/temporal/ChronoField;" (.ref cD) := Sta.start ev_cD (Or.inl (hsets _ (List.mem_of_getElem? (i := 66) rfl)))
  have Dc13 : Exa s s.heap cD "java/time/temporal/ChronoField" := Exa.start ev_cD (Cond.before_iff.mp (hsets _ (List.mem_of_getElem? (i := 71) rfl)))
  have Dc14 : Fld s s.heap cD "java/time/temporal/ChronoField" "range" "Ljava/time/temporal/ValueRange;" (.ref vD) := Fld.start ((fld_at ev_cD).symm.trans ev_vD)
  have Dc15 : Exa s s.heap vD "java/time/temporal/ValueRange" := Exa.start ev_vD (Cond.before_iff.mp (hsets _ (List.mem_of_getElem? (i := 87) rfl)))
  have Dc16 : Fld s s.heap vD "java/time/temporal/ValueRange" "minSmallest" "J" (.long (1 : Int64)) := Fld.start ((fld_at ev_vD).symm.trans (eqv_l (F := Term.long (1)) rfl (Cond.before_iff.mp (hsets _ (List.mem_of_getElem? (i := 88) rfl)))))
  have Dc17 : Fld s s.heap vD "java/time/temporal/ValueRange" "maxLargest" "J" (.long (31 : Int64)) := Fld.start ((fld_at ev_vD).symm.trans (eqv_l (F := Term.long (31)) rfl (Cond.before_iff.mp (hsets _ (List.mem_of_getElem? (i := 91) rfl)))))
  have Dc18 : Sta s s.heap "java/time/temporal/ChronoField" "EPOCH_DAY" "Ljava/time/temporal/ChronoField;" (.ref cE) := Sta.start ev_cE (Or.inl (hsets _ (List.mem_of_getElem? (i := 97) rfl)))
  have Dc19 : Exa s s.heap cE "java/time/temporal/ChronoField" := Exa.start ev_cE (Cond.before_iff.mp (hsets _ (List.mem_of_getElem? (i := 102) rfl)))
  have Dc20 : Fld s s.heap cE "java/time/temporal/ChronoField" "range" "Ljava/time/temporal/ValueRange;" (.ref vE) := Fld.start ((fld_at ev_cE).symm.trans ev_vE)
  have Dc21 : Exa s s.heap vE "java/time/temporal/ValueRange" := Exa.start ev_vE (Cond.before_iff.mp (hsets _ (List.mem_of_getElem? (i := 118) rfl)))
  have Dc22 : Fld s s.heap vE "java/time/temporal/ValueRange" "minSmallest" "J" (.long (-365243219162 : Int64)) := Fld.start ((fld_at ev_vE).symm.trans (eqv_l (F := Term.long (-365243219162)) rfl (Cond.before_iff.mp (hsets _ (List.mem_of_getElem? (i := 119) rfl)))))
  have Dc23 : Fld s s.heap vE "java/time/temporal/ValueRange" "maxLargest" "J" (.long (365241780471 : Int64)) := Fld.start ((fld_at ev_vE).symm.trans (eqv_l (F := Term.long (365241780471)) rfl (Cond.before_iff.mp (hsets _ (List.mem_of_getElem? (i := 122) rfl)))))
  have Dc24 : Sta s s.heap "java/time/chrono/IsoChronology" "INSTANCE" "Ljava/time/chrono/IsoChronology;" (.ref ic) := Sta.start ev_ic (Or.inl (hsets _ (List.mem_of_getElem? (i := 94) rfl)))
  have Dc25 : Exa s s.heap ic "java/time/chrono/IsoChronology" := Exa.start ev_ic (Cond.before_iff.mp (hsets _ (List.mem_of_getElem? (i := 95) rfl)))
  obtain ⟨n, o, h1, h2, h3, _, L, rfl, ⟨rfl, N⟩, hq⟩ := rm0 l s _ hw tables_1 i0 i1 i2 i3 cs cY vY cM vM cD vD cE vE ic s.heap s.heap.size (Nat.le_refl _) (Old.start s) S_cs n_cs Dc0 Dc1 Dc2 Dc3 Dc4 Dc5 Dc6 Dc7 Dc8 Dc9 Dc10 Dc11 Dc12 Dc13 Dc14 Dc15 Dc16 Dc17 Dc18 Dc19 Dc20 Dc21 Dc22 Dc23 Dc24 Dc25 p e ha hc hk s m _ below hf ((Spec.applies_iff_loose hf).mp happ).1 ⟨rfl, State.Warmed39.refl s, rfl⟩ trivial
  refine ⟨n, _, h1, h2, h3, hpost _ _ _ _ _ _ ⟨Cond.after_iff.mpr rfl, Cond.after_iff.mpr (eq_i res_at (Term.int_eval (1)) rfl), trivial⟩ ⟨hq.1, hq.2.1, (hq.2.2.sift fun y hy => Or.inr (N y hy)).mono (by decide) (by decide)⟩⟩
theorem main_1_1 : Claimed_1_1 := comes_1 fun _ _ _ _ _ _ h hF => ⟨h.1, hF⟩
theorem main_1_2 : Claimed_1_2 := comes_1 fun _ _ _ _ _ _ h hF => ⟨h.2.1, hF⟩
end Jvm.Pilot.@@N@@
namespace Jvm.Pilot.@@N@@
open Jvm Jvm.ClassFile Sem Op Lib Jvm.Free Jvm.Stand Jvm.Pilot.@@N@@.Jvm.D
/-! MADE BY PROGRAM (witnessworld.py) out of the Statement's table words and the real class files: 37 classes; the members and pool entries that the words name. The judged class is class 1, her method 1. -/
namespace start1
open Jvm.ClassFile
def u (s : String) : CpInfo := .utf8 (stringToUtf16 s)
/-- a pool by its gaps: so many unusable entries, then the entry; so many at the end -/
def gap : Nat → List CpInfo → List CpInfo
  | 0, r => r
  | n + 1, r => .unusable :: gap n r
def poolList (es : List (Nat × CpInfo)) (last : Nat) : List CpInfo := es.foldr (fun e r => gap e.1 (e.2 :: r)) (gap last [])
def pool (es : List (Nat × CpInfo)) (last : Nat) : Array CpInfo := ⟨poolList es last⟩
def fileOf (pool : Array CpInfo) (this : Nat) (attrs : Array Attribute := #[]) (ms : Array MethodInfo := #[]) (fl : Nat := 33) (sup : Nat := 0) (ifs : Array Nat := #[]) (fds : Array FieldInfo := #[]) : ClassFile where
  minorVersion := 0
  majorVersion := 65
  constantPool := pool
  accessFlags := fl
  thisClass := this
  superClass := sup
  interfaces := ifs
  fields := fds
  methods := ms
  attributes := attrs
def plain (name : String) (sup : Option ClassId) : Class where
  name := name
  kind := .ordinary
  loader := none
  accessFlags := 33
  super := sup
  interfaces := #[]
  cf := none
  fields := #[]
  methods := #[]
  instanceTypes := #[]
  staticTypes := #[]
  resolved := #[]
  callSites := []
  init := .initialized
  statics := none
  mirror := none

def pool0 : Array CpInfo := pool [(5, u "<init>"), (0, u "()V"), (1, .class_ 10), (1, u "java/lang/Object")] 113

def k0c0 : Code := { maxStack := 0, maxLocals := 1, code := object_method_1_code, exceptionTable := #[], attributes := #[] }
def k0m0 : Method := { name := "<init>", desc := "()V", sig := { parameters := [], returnType := none }, accessFlags := 1, code := some k0c0 }
/-- java/lang/Object -/
def k0 : Class := { plain "java/lang/Object" none with
  accessFlags := 33
  interfaces := #[]
  cf := some (fileOf pool0 8 #[] #[{ accessFlags := 1, nameIndex := 5, descriptorIndex := 6, attributes := #[] }] 33 0 #[] #[])
  fields := #[]
  methods := #[k0m0]
  instanceTypes := #[]
  staticTypes := #[]
  resolved := Array.replicate 124 none
  statics := none }

def pool1 : Array CpInfo := pool [(2, .class_ 4), (1, u "java/lang/Object"), (0, u "<init>"), (0, u "()V"), (0, .class_ 8), (0, u "java/lang/String"), (0, .methodref 7 10), (0, .nameAndType 5 11), (0, u "([C)V"), (0, .integer 67108863), (0, .methodref 14 15), (0, .class_ 16), (0, .nameAndType 17 18), (0, u "com/example/diligent_tariff/diligenttariff/book/Holiday"), (0, u "fromEaster"), (0, u "(Ljava/lang/String;I)Lcom/example/diligent_tariff/diligenttariff/book/Holiday;"), (0, .methodref 14 20), (0, .nameAndType 21 22), (0, u "in"), (0, u "(I)Ljava/time/LocalDate;"), (0, .methodref 24 25), (0, .class_ 26), (0, .nameAndType 27 28), (0, u "java/time/LocalDate"), (0, u "toEpochDay"), (0, u "()J"), (0, .long 3), (1, .long 7), (1, .methodref 24 34), (0, .nameAndType 35 36), (0, u "getMonthValue"), (0, u "()I"), (0, .methodref 24 38), (0, .nameAndType 39 36), (0, u "getDayOfMonth"), (0, .methodref 24 41), (0, .nameAndType 42 36), (0, u "getYear"), (0, .methodref 14 44), (0, .nameAndType 45 46), (0, u "getName"), (0, u "()Ljava/lang/String;"), (0, .methodref 7 48), (0, .nameAndType 49 50), (0, u "equals"), (0, u "(Ljava/lang/Object;)Z"), (0, .class_ 52), (0, u "com/example/diligent_tariff/diligenttariff/book/HolidayFromEasterPinLaw"), (2, u "law"), (0, u "(IIII)Z")] 5

def k1m0 : Method := { name := "<init>", desc := "()V", sig := { parameters := [], returnType := none }, accessFlags := 1, code := none }
def k1c1 : Code := { maxStack := 4, maxLocals := 19, code := code, exceptionTable := #[], attributes := #[] }
def k1m1 : Method := { name := "law", desc := "(IIII)Z", sig := { parameters := [.int, .int, .int, .int], returnType := some .boolean }, accessFlags := 9, code := some k1c1 }
/-- com/example/diligent_tariff/diligenttariff/book/HolidayFromEasterPinLaw -/
def k1 : Class := { plain "com/example/diligent_tariff/diligenttariff/book/HolidayFromEasterPinLaw" (some 0) with
  accessFlags := 49
  interfaces := #[]
  cf := some (fileOf pool1 51 #[] #[{ accessFlags := 1, nameIndex := 5, descriptorIndex := 6, attributes := #[] }, { accessFlags := 9, nameIndex := 55, descriptorIndex := 56, attributes := #[] }] 49 2 #[] #[])
  fields := #[]
  methods := #[k1m0, k1m1]
  instanceTypes := #[]
  staticTypes := #[]
  resolved := Array.replicate 62 none
  statics := none }

def pool2 : Array CpInfo := pool [(1, .class_ 2), (0, u "java/io/Serializable"), (0, .class_ 4), (0, u "java/lang/Object")] 2

/-- java/io/Serializable -/
def k2 : Class := { plain "java/io/Serializable" (some 0) with
  accessFlags := 1537
  interfaces := #[]
  cf := some (fileOf pool2 1 #[] #[] 1537 3 #[] #[])
  fields := #[]
  methods := #[]
  instanceTypes := #[]
  staticTypes := #[]
  resolved := Array.replicate 7 none
  statics := none }

def pool3 : Array CpInfo := pool [(1, .class_ 2), (0, u "java/lang/Comparable"), (0, .class_ 4), (0, u "java/lang/Object")] 7

/-- java/lang/Comparable -/
def k3 : Class := { plain "java/lang/Comparable" (some 0) with
  accessFlags := 1537
  interfaces := #[]
  cf := some (fileOf pool3 1 #[] #[] 1537 3 #[] #[])
  fields := #[]
  methods := #[]
  instanceTypes := #[]
  staticTypes := #[]
  resolved := Array.replicate 12 none
  statics := none }

def pool4 : Array CpInfo := pool [(2, .class_ 4), (1, u "java/lang/CharSequence"), (42, .class_ 48), (0, u "java/lang/CharSequence$1CodePointIterator"), (10, .class_ 60), (0, u "java/lang/CharSequence$1CharIterator"), (5, .class_ 67), (0, u "java/lang/Object")] 63

/-- java/lang/CharSequence -/
def k4 : Class := { plain "java/lang/CharSequence" (some 0) with
  accessFlags := 1537
  interfaces := #[]
  cf := some (fileOf pool4 2 #[.nestMembers #[47, 59]] #[] 1537 66 #[] #[])
  fields := #[]
  methods := #[]
  instanceTypes := #[]
  staticTypes := #[]
  resolved := Array.replicate 131 none
  statics := none }

def pool5 : Array CpInfo := pool [(1, .class_ 2), (0, u "java/lang/constant/Constable"), (0, .class_ 4), (0, u "java/lang/Object")] 6

/-- java/lang/constant/Constable -/
def k5 : Class := { plain "java/lang/constant/Constable" (some 0) with
  accessFlags := 1537
  interfaces := #[]
  cf := some (fileOf pool5 1 #[] #[] 1537 3 #[] #[])
  fields := #[]
  methods := #[]
  instanceTypes := #[]
  staticTypes := #[]
  resolved := Array.replicate 11 none
  statics := none }

def pool6 : Array CpInfo := pool [(1, .class_ 2), (0, u "java/lang/constant/ConstantDesc"), (0, .class_ 4), (0, u "java/lang/Object")] 32

/-- java/lang/constant/ConstantDesc -/
def k6 : Class := { plain "java/lang/constant/ConstantDesc" (some 0) with
  accessFlags := 1537
  interfaces := #[]
  cf := some (fileOf pool6 1 #[] #[] 1537 3 #[] #[])
  fields := #[]
  methods := #[]
  instanceTypes := #[]
  staticTypes := #[]
  resolved := Array.replicate 37 none
  statics := none }

def pool7 : Array CpInfo := pool [(1, .methodref 2 3), (0, .class_ 4), (0, .nameAndType 5 6), (0, u "java/lang/Object"), (0, u "<init>"), (0, u "()V"), (2, .fieldref 10 11), (0, .class_ 12), (0, .nameAndType 13 14), (0, u "java/lang/String"), (0, u "value"), (0, u "[B"), (0, .fieldref 10 16), (0, .nameAndType 17 18), (0, u "coder"), (0, u "B"), (2, u "hash"), (0, u "I"), (2, u "hashIsZero"), (0, u "Z"), (0, .methodref 10 28), (0, .nameAndType 5 29), (0, u "([CIILjava/lang/Void;)V"), (8, .fieldref 10 39), (0, .nameAndType 40 26), (0, u "COMPACT_STRINGS"), (1, .class_ 44), (1, u "java/lang/StringUTF16"), (0, u "compress"), (1, .methodref 42 48), (0, .nameAndType 49 50), (0, u "coderFromArrayLen"), (0, u "([BI)B"), (126, .methodref 42 178), (0, .nameAndType 45 179), (0, u "([CII)[B"), (363, u "equals"), (29, u "(Ljava/lang/Object;)Z"), (1, .class_ 576), (0, u "java/lang/CharSequence"), (22, u "CASE_INSENSITIVE_ORDER"), (0, u "Ljava/util/Comparator;"), (409, u "([C)V"), (90, u "serialPersistentFields"), (0, u "[Ljava/io/ObjectStreamField;"), (0, .class_ 1104), (0, u "java/lang/String$CaseInsensitiveComparator"), (1, .class_ 1107), (0, u "java/io/Serializable"), (0, .class_ 1109), (0, u "java/lang/Comparable"), (0, .class_ 1111), (0, u "java/lang/constant/Constable"), (0, .class_ 1113), (0, u "java/lang/constant/ConstantDesc"), (2, u "serialVersionUID"), (0, u "J"), (3, u "REPL"), (0, u "C"), (2, u "LATIN1"), (1, u "UTF16")] 323

def k7m0 : Method := { name := "<init>", desc := "()V", sig := { parameters := [], returnType := none }, accessFlags := 1, code := none }
def k7c1 : Code := { maxStack := 5, maxLocals := 2, code := jdk_42_method_3_code, exceptionTable := #[], attributes := #[] }
def k7m1 : Method := { name := "<init>", desc := "([C)V", sig := { parameters := [(.array .char)], returnType := none }, accessFlags := 1, code := some k7c1 }
def k7c2 : Code := { maxStack := 2, maxLocals := 3, code := jdk_42_method_66_code, exceptionTable := #[], attributes := #[] }
def k7m2 : Method := { name := "equals", desc := "(Ljava/lang/Object;)Z", sig := { parameters := [(.object "java/lang/Object")], returnType := some .boolean }, accessFlags := 1, code := some k7c2 }
def k7c3 : Code := { maxStack := 4, maxLocals := 6, code := jdk_42_method_149_code, exceptionTable := #[], attributes := #[] }
def k7m3 : Method := { name := "<init>", desc := "([CIILjava/lang/Void;)V", sig := { parameters := [(.array .char), .int, .int, (.object "java/lang/Void")], returnType := none }, accessFlags := 2, code := some k7c3 }
/-- java/lang/String -/
def k7 : Class := { plain "java/lang/String" (some 0) with
  accessFlags := 49
  interfaces := #[2, 3, 4, 5, 6]
  cf := some (fileOf pool7 10 #[.nestMembers #[1103]] #[{ accessFlags := 1, nameIndex := 5, descriptorIndex := 6, attributes := #[] }, { accessFlags := 1, nameIndex := 5, descriptorIndex := 1010, attributes := #[] }, { accessFlags := 1, nameIndex := 543, descriptorIndex := 573, attributes := #[] }, { accessFlags := 2, nameIndex := 5, descriptorIndex := 29, attributes := #[] }] 49 2 #[1106, 1108, 575, 1110, 1112] #[{ accessFlags := 18, nameIndex := 13, descriptorIndex := 14, attributes := #[] }, { accessFlags := 18, nameIndex := 17, descriptorIndex := 18, attributes := #[] }, { accessFlags := 2, nameIndex := 21, descriptorIndex := 22, attributes := #[] }, { accessFlags := 2, nameIndex := 25, descriptorIndex := 26, attributes := #[] }, { accessFlags := 26, nameIndex := 1116, descriptorIndex := 1117, attributes := #[] }, { accessFlags := 24, nameIndex := 40, descriptorIndex := 26, attributes := #[] }, { accessFlags := 26, nameIndex := 1101, descriptorIndex := 1102, attributes := #[] }, { accessFlags := 26, nameIndex := 1121, descriptorIndex := 1122, attributes := #[] }, { accessFlags := 25, nameIndex := 599, descriptorIndex := 600, attributes := #[] }, { accessFlags := 24, nameIndex := 1125, descriptorIndex := 18, attributes := #[] }, { accessFlags := 24, nameIndex := 1127, descriptorIndex := 18, attributes := #[] }])
  fields := #[{ name := "value", type := (.array .byte), accessFlags := 18, slot := 0, constantValue := 0 }, { name := "coder", type := .byte, accessFlags := 18, slot := 1, constantValue := 0 }, { name := "hash", type := .int, accessFlags := 2, slot := 2, constantValue := 0 }, { name := "hashIsZero", type := .boolean, accessFlags := 2, slot := 3, constantValue := 0 }, { name := "serialVersionUID", type := .long, accessFlags := 26, slot := 0, constantValue := 0 }, { name := "COMPACT_STRINGS", type := .boolean, accessFlags := 24, slot := 1, constantValue := 0 }, { name := "serialPersistentFields", type := (.array (.object "java/io/ObjectStreamField")), accessFlags := 26, slot := 2, constantValue := 0 }, { name := "REPL", type := .char, accessFlags := 26, slot := 3, constantValue := 0 }, { name := "CASE_INSENSITIVE_ORDER", type := (.object "java/util/Comparator"), accessFlags := 25, slot := 4, constantValue := 0 }, { name := "LATIN1", type := .byte, accessFlags := 24, slot := 5, constantValue := 0 }, { name := "UTF16", type := .byte, accessFlags := 24, slot := 6, constantValue := 0 }]
  methods := #[k7m0, k7m1, k7m2, k7m3]
  instanceTypes := #[(.array .byte), .byte, .int, .boolean]
  staticTypes := #[.long, .boolean, (.array (.object "java/io/ObjectStreamField")), .char, (.object "java/util/Comparator"), .byte, .byte]
  resolved := Array.replicate 1451 none
  statics := some 0 }

def pool8 : Array CpInfo := pool [(6, .class_ 8), (1, u "java/lang/Object"), (0, u "<init>"), (0, u "()V"), (1, .class_ 14), (1, u "java/lang/StringUTF16"), (31, u "$assertionsDisabled"), (0, u "Z"), (13, u "HI_BYTE_SHIFT"), (0, u "I"), (2, u "LO_BYTE_SHIFT"), (49, .methodref 12 116), (0, .nameAndType 117 118), (0, u "compress"), (0, u "([CI[BII)I"), (3, u "([CII)[B"), (138, u "coderFromArrayLen"), (0, u "([BI)B"), (106, .class_ 371), (1, u "java/lang/StringUTF16$LinesSpliterator"), (58, u "MAX_LENGTH"), (196, .class_ 628), (0, u "java/lang/StringUTF16$CodePointsSpliterator"), (0, .class_ 630), (0, u "java/lang/StringUTF16$CharsSpliterator")] 4

def k8m0 : Method := { name := "<init>", desc := "()V", sig := { parameters := [], returnType := none }, accessFlags := 0, code := none }
def k8c1 : Code := { maxStack := 2, maxLocals := 2, code := jdk_52_method_15_code, exceptionTable := #[], attributes := #[] }
def k8m1 : Method := { name := "coderFromArrayLen", desc := "([BI)B", sig := { parameters := [(.array .byte), .int], returnType := some .byte }, accessFlags := 8, code := some k8c1 }
def k8c2 : Code := { maxStack := 5, maxLocals := 6, code := jdk_52_method_16_code, exceptionTable := #[], attributes := #[] }
def k8m2 : Method := { name := "compress", desc := "([CII)[B", sig := { parameters := [(.array .char), .int, .int], returnType := some (.array .byte) }, accessFlags := 9, code := some k8c2 }
def k8c3 : Code := { maxStack := 3, maxLocals := 7, code := jdk_52_method_21_code, exceptionTable := #[], attributes := #[] }
def k8m3 : Method := { name := "compress", desc := "([CI[BII)I", sig := { parameters := [(.array .char), .int, (.array .byte), .int, .int], returnType := some .int }, accessFlags := 9, code := some k8c3 }
/-- java/lang/StringUTF16 -/
def k8 : Class := { plain "java/lang/StringUTF16" (some 0) with
  accessFlags := 48
  interfaces := #[]
  cf := some (fileOf pool8 12 #[.nestMembers #[627, 629, 369]] #[{ accessFlags := 0, nameIndex := 9, descriptorIndex := 10, attributes := #[] }, { accessFlags := 8, nameIndex := 261, descriptorIndex := 262, attributes := #[] }, { accessFlags := 9, nameIndex := 117, descriptorIndex := 122, attributes := #[] }, { accessFlags := 9, nameIndex := 117, descriptorIndex := 118, attributes := #[] }] 48 6 #[] #[{ accessFlags := 26, nameIndex := 61, descriptorIndex := 62, attributes := #[] }, { accessFlags := 26, nameIndex := 65, descriptorIndex := 62, attributes := #[] }, { accessFlags := 24, nameIndex := 430, descriptorIndex := 62, attributes := #[] }, { accessFlags := 4120, nameIndex := 46, descriptorIndex := 47, attributes := #[] }])
  fields := #[{ name := "HI_BYTE_SHIFT", type := .int, accessFlags := 26, slot := 0, constantValue := 0 }, { name := "LO_BYTE_SHIFT", type := .int, accessFlags := 26, slot := 1, constantValue := 0 }, { name := "MAX_LENGTH", type := .int, accessFlags := 24, slot := 2, constantValue := 0 }, { name := "$assertionsDisabled", type := .boolean, accessFlags := 4120, slot := 3, constantValue := 0 }]
  methods := #[k8m0, k8m1, k8m2, k8m3]
  instanceTypes := #[]
  staticTypes := #[.int, .int, .int, .boolean]
  resolved := Array.replicate 635 none
  statics := none }

def pool9 : Array CpInfo := pool [(1, .methodref 2 3), (0, .class_ 4), (0, .nameAndType 5 6), (0, u "java/lang/Object"), (0, u "<init>"), (0, u "()V"), (0, .fieldref 8 9), (0, .class_ 10), (0, .nameAndType 11 12), (0, u "com/example/diligent_tariff/diligenttariff/book/Holiday"), (0, u "name"), (0, u "Ljava/lang/String;"), (0, .fieldref 8 14), (0, .nameAndType 15 16), (0, u "month"), (0, u "Ljava/time/Month;"), (0, .fieldref 8 18), (0, .nameAndType 19 20), (0, u "day"), (0, u "I"), (0, .fieldref 8 22), (0, .nameAndType 23 24), (0, u "weekday"), (0, u "Ljava/time/DayOfWeek;"), (0, .fieldref 8 26), (0, .nameAndType 27 20), (0, u "week"), (0, .fieldref 8 29), (0, .nameAndType 30 20), (0, u "daysFromEaster"), (0, .methodref 8 32), (0, .nameAndType 5 33), (0, u "(Ljava/lang/String;Ljava/time/Month;ILjava/time/DayOfWeek;II)V"), (0, .methodref 8 35), (0, .nameAndType 36 37), (0, u "easter"), (0, u "(I)Ljava/time/LocalDate;"), (0, .methodref 39 40), (0, .class_ 41), (0, .nameAndType 42 43), (0, u "java/time/LocalDate"), (0, u "plusDays"), (0, u "(J)Ljava/time/LocalDate;"), (2, u "of"), (11, .methodref 39 59), (0, .nameAndType 46 60), (0, u "(III)Ljava/time/LocalDate;"), (0, u "LAST"), (8, u "fromEaster"), (0, u "(Ljava/lang/String;I)Lcom/example/diligent_tariff/diligenttariff/book/Holiday;"), (0, u "getName"), (0, u "()Ljava/lang/String;"), (0, u "in")] 3

def k9c0 : Code := { maxStack := 2, maxLocals := 7, code := prog_25_method_1_code, exceptionTable := #[], attributes := #[] }
def k9m0 : Method := { name := "<init>", desc := "(Ljava/lang/String;Ljava/time/Month;ILjava/time/DayOfWeek;II)V", sig := { parameters := [(.object "java/lang/String"), (.object "java/time/Month"), .int, (.object "java/time/DayOfWeek"), .int, .int], returnType := none }, accessFlags := 2, code := some k9c0 }
def k9c1 : Code := { maxStack := 8, maxLocals := 2, code := prog_25_method_4_code, exceptionTable := #[], attributes := #[] }
def k9m1 : Method := { name := "fromEaster", desc := "(Ljava/lang/String;I)Lcom/example/diligent_tariff/diligenttariff/book/Holiday;", sig := { parameters := [(.object "java/lang/String"), .int], returnType := some (.object "com/example/diligent_tariff/diligenttariff/book/Holiday") }, accessFlags := 8, code := some k9c1 }
def k9c2 : Code := { maxStack := 1, maxLocals := 1, code := prog_25_method_5_code, exceptionTable := #[], attributes := #[] }
def k9m2 : Method := { name := "getName", desc := "()Ljava/lang/String;", sig := { parameters := [], returnType := some (.object "java/lang/String") }, accessFlags := 0, code := some k9c2 }
def k9c3 : Code := { maxStack := 3, maxLocals := 3, code := prog_25_method_6_code, exceptionTable := #[], attributes := #[] }
def k9m3 : Method := { name := "in", desc := "(I)Ljava/time/LocalDate;", sig := { parameters := [.int], returnType := some (.object "java/time/LocalDate") }, accessFlags := 0, code := some k9c3 }
def k9c4 : Code := { maxStack := 4, maxLocals := 14, code := prog_25_method_7_code, exceptionTable := #[], attributes := #[] }
def k9m4 : Method := { name := "easter", desc := "(I)Ljava/time/LocalDate;", sig := { parameters := [.int], returnType := some (.object "java/time/LocalDate") }, accessFlags := 10, code := some k9c4 }
/-- com/example/diligent_tariff/diligenttariff/book/Holiday -/
def k9 : Class := { plain "com/example/diligent_tariff/diligenttariff/book/Holiday" (some 0) with
  accessFlags := 48
  interfaces := #[]
  cf := some (fileOf pool9 8 #[] #[{ accessFlags := 2, nameIndex := 5, descriptorIndex := 33, attributes := #[] }, { accessFlags := 8, nameIndex := 70, descriptorIndex := 71, attributes := #[] }, { accessFlags := 0, nameIndex := 72, descriptorIndex := 73, attributes := #[] }, { accessFlags := 0, nameIndex := 74, descriptorIndex := 37, attributes := #[] }, { accessFlags := 10, nameIndex := 36, descriptorIndex := 37, attributes := #[] }] 48 2 #[] #[{ accessFlags := 24, nameIndex := 61, descriptorIndex := 20, attributes := #[] }, { accessFlags := 18, nameIndex := 11, descriptorIndex := 12, attributes := #[] }, { accessFlags := 18, nameIndex := 15, descriptorIndex := 16, attributes := #[] }, { accessFlags := 18, nameIndex := 19, descriptorIndex := 20, attributes := #[] }, { accessFlags := 18, nameIndex := 23, descriptorIndex := 24, attributes := #[] }, { accessFlags := 18, nameIndex := 27, descriptorIndex := 20, attributes := #[] }, { accessFlags := 18, nameIndex := 30, descriptorIndex := 20, attributes := #[] }])
  fields := #[{ name := "LAST", type := .int, accessFlags := 24, slot := 0, constantValue := 0 }, { name := "name", type := (.object "java/lang/String"), accessFlags := 18, slot := 0, constantValue := 0 }, { name := "month", type := (.object "java/time/Month"), accessFlags := 18, slot := 1, constantValue := 0 }, { name := "day", type := .int, accessFlags := 18, slot := 2, constantValue := 0 }, { name := "weekday", type := (.object "java/time/DayOfWeek"), accessFlags := 18, slot := 3, constantValue := 0 }, { name := "week", type := .int, accessFlags := 18, slot := 4, constantValue := 0 }, { name := "daysFromEaster", type := .int, accessFlags := 18, slot := 5, constantValue := 0 }]
  methods := #[k9m0, k9m1, k9m2, k9m3, k9m4]
  instanceTypes := #[(.object "java/lang/String"), (.object "java/time/Month"), .int, (.object "java/time/DayOfWeek"), .int, .int]
  staticTypes := #[.int]
  resolved := Array.replicate 78 none
  statics := none }

def pool10 : Array CpInfo := pool [(4, .class_ 6), (1, u "java/time/temporal/TemporalAccessor"), (95, .class_ 103), (0, u "java/lang/Object")] 21

/-- java/time/temporal/TemporalAccessor -/
def k10 : Class := { plain "java/time/temporal/TemporalAccessor" (some 0) with
  accessFlags := 1537
  interfaces := #[]
  cf := some (fileOf pool10 4 #[] #[] 1537 102 #[] #[])
  fields := #[]
  methods := #[]
  instanceTypes := #[]
  staticTypes := #[]
  resolved := Array.replicate 125 none
  statics := none }

def pool11 : Array CpInfo := pool [(22, .class_ 24), (1, u "java/time/temporal/Temporal"), (2, .class_ 28), (0, u "java/lang/Object"), (0, .class_ 30), (0, u "java/time/temporal/TemporalAccessor")] 25

/-- java/time/temporal/Temporal -/
def k11 : Class := { plain "java/time/temporal/Temporal" (some 0) with
  accessFlags := 1537
  interfaces := #[10]
  cf := some (fileOf pool11 22 #[] #[] 1537 27 #[29] #[])
  fields := #[]
  methods := #[]
  instanceTypes := #[]
  staticTypes := #[]
  resolved := Array.replicate 56 none
  statics := none }

def pool12 : Array CpInfo := pool [(1, .class_ 2), (0, u "java/time/temporal/TemporalAdjuster"), (0, .class_ 4), (0, u "java/lang/Object")] 6

/-- java/time/temporal/TemporalAdjuster -/
def k12 : Class := { plain "java/time/temporal/TemporalAdjuster" (some 0) with
  accessFlags := 1537
  interfaces := #[]
  cf := some (fileOf pool12 1 #[] #[] 1537 3 #[] #[])
  fields := #[]
  methods := #[]
  instanceTypes := #[]
  staticTypes := #[]
  resolved := Array.replicate 11 none
  statics := none }

def pool13 : Array CpInfo := pool [(9, .class_ 10), (0, u "java/time/chrono/ChronoLocalDate"), (104, .class_ 117), (1, u "java/time/temporal/Temporal"), (134, .class_ 253), (0, u "java/lang/Object"), (23, .class_ 278), (0, u "java/time/temporal/TemporalAdjuster"), (0, .class_ 280), (0, u "java/lang/Comparable")] 86

/-- java/time/chrono/ChronoLocalDate -/
def k13 : Class := { plain "java/time/chrono/ChronoLocalDate" (some 0) with
  accessFlags := 1537
  interfaces := #[11, 12, 3]
  cf := some (fileOf pool13 9 #[] #[] 1537 252 #[115, 277, 279] #[])
  fields := #[]
  methods := #[]
  instanceTypes := #[]
  staticTypes := #[]
  resolved := Array.replicate 367 none
  statics := none }

def pool14 : Array CpInfo := pool [(1, .class_ 2), (0, u "java/time/LocalDate"), (36, .fieldref 40 41), (0, .class_ 42), (0, .nameAndType 43 44), (0, u "java/time/temporal/ChronoField"), (0, u "YEAR"), (0, u "Ljava/time/temporal/ChronoField;"), (0, .methodref 40 46), (0, .nameAndType 47 48), (0, u "checkValidValue"), (0, u "(J)J"), (1, u "month"), (0, .fieldref 40 52), (0, .nameAndType 53 44), (0, u "DAY_OF_MONTH"), (5, u "()I"), (0, .methodref 1 61), (0, .nameAndType 62 63), (0, u "create"), (0, u "(III)Ljava/time/LocalDate;"), (0, .fieldref 40 65), (0, .nameAndType 66 44), (0, u "MONTH_OF_YEAR"), (3, .fieldref 71 72), (0, .class_ 73), (0, .nameAndType 74 75), (0, u "java/time/chrono/IsoChronology"), (0, u "INSTANCE"), (0, u "Ljava/time/chrono/IsoChronology;"), (0, .methodref 71 77), (0, .nameAndType 78 79), (0, u "isLeapYear"), (0, u "(J)Z"), (5, .nameAndType 86 87), (0, u "<init>"), (0, u "()V"), (20, u "of"), (12, .methodref 1 122), (0, .nameAndType 86 123), (0, u "(III)V"), (20, u "()J"), (7, .class_ 154), (1, u "java/lang/Math"), (2, .methodref 1 158), (0, .nameAndType 159 160), (0, u "ofEpochDay"), (0, u "(J)Ljava/time/LocalDate;"), (0, .fieldref 40 162), (0, .nameAndType 163 44), (0, u "EPOCH_DAY"), (0, .long 719528), (1, .long 60), (1, .long 146097), (1, .long 400), (1, .long 591), (1, .long 365), (1, .long 4), (1, .long 100), (64, .methodref 244 85), (0, .class_ 245), (0, u "java/lang/Object"), (0, .fieldref 1 247), (0, .nameAndType 248 249), (0, u "year"), (0, u "I"), (0, .fieldref 1 251), (0, .nameAndType 50 252), (0, u "S"), (0, .fieldref 1 254), (0, .nameAndType 255 252), (0, u "day"), (1, .class_ 259), (1, u "java/time/chrono/ChronoLocalDate"), (8, u "()Z"), (1, .class_ 272), (1, u "java/time/LocalDate$1"), (5, .methodref 1 279), (0, .nameAndType 280 59), (0, u "lengthOfMonth"), (16, .methodref 1 298), (0, .nameAndType 78 268), (4, u "getYear"), (28, .methodref 1 333), (0, .nameAndType 334 144), (0, u "toEpochDay"), (24, .long 12), (10, .long 3), (9, .class_ 382), (1, u "java/time/temporal/TemporalAdjuster"), (4, u "plusDays"), (77, .methodref 152 466), (0, .nameAndType 467 468), (0, u "addExact"), (0, u "(JJ)J"), (14, .long 28), (1, .long 59), (50, u "getDayOfMonth"), (51, u "MAX"), (0, u "Ljava/time/LocalDate;"), (2, u "MIN"), (61, .long 99), (1, .long 399), (1, .long 18446744073709551612), (1, .long 18446744073709551516), (1, .long 18446744073709551216), (1, .long 367), (1, .long 362), (1, .long 2), (100, u "EPOCH"), (0, .class_ 771), (0, u "java/time/temporal/Temporal"), (0, .class_ 773), (0, u "java/io/Serializable"), (0, u "serialVersionUID"), (0, u "J"), (3, u "DAYS_PER_CYCLE"), (1, u "DAYS_0000_TO_1970"), (42, u "getMonthValue")] 163

def k14c0 : Code := { maxStack := 3, maxLocals := 3, code := jdk_2323_method_5_code, exceptionTable := #[], attributes := #[] }
def k14m0 : Method := { name := "of", desc := "(III)Ljava/time/LocalDate;", sig := { parameters := [.int, .int, .int], returnType := some (.object "java/time/LocalDate") }, accessFlags := 9, code := some k14c0 }
def k14c1 : Code := { maxStack := 8, maxLocals := 14, code := jdk_2323_method_8_code, exceptionTable := #[], attributes := #[] }
def k14m1 : Method := { name := "ofEpochDay", desc := "(J)Ljava/time/LocalDate;", sig := { parameters := [.long], returnType := some (.object "java/time/LocalDate") }, accessFlags := 9, code := some k14c1 }
def k14c2 : Code := { maxStack := 5, maxLocals := 4, code := jdk_2323_method_12_code, exceptionTable := #[], attributes := #[] }
def k14m2 : Method := { name := "create", desc := "(III)Ljava/time/LocalDate;", sig := { parameters := [.int, .int, .int], returnType := some (.object "java/time/LocalDate") }, accessFlags := 10, code := some k14c2 }
def k14c3 : Code := { maxStack := 2, maxLocals := 4, code := jdk_2323_method_14_code, exceptionTable := #[], attributes := #[] }
def k14m3 : Method := { name := "<init>", desc := "(III)V", sig := { parameters := [.int, .int, .int], returnType := none }, accessFlags := 2, code := some k14c3 }
def k14c4 : Code := { maxStack := 1, maxLocals := 1, code := jdk_2323_method_24_code, exceptionTable := #[], attributes := #[] }
def k14m4 : Method := { name := "getYear", desc := "()I", sig := { parameters := [], returnType := some .int }, accessFlags := 1, code := some k14c4 }
def k14c5 : Code := { maxStack := 1, maxLocals := 1, code := jdk_2323_method_25_code, exceptionTable := #[], attributes := #[] }
def k14m5 : Method := { name := "getMonthValue", desc := "()I", sig := { parameters := [], returnType := some .int }, accessFlags := 1, code := some k14c5 }
def k14c6 : Code := { maxStack := 1, maxLocals := 1, code := jdk_2323_method_27_code, exceptionTable := #[], attributes := #[] }
def k14m6 : Method := { name := "getDayOfMonth", desc := "()I", sig := { parameters := [], returnType := some .int }, accessFlags := 1, code := some k14c6 }
def k14c7 : Code := { maxStack := 3, maxLocals := 1, code := jdk_2323_method_30_code, exceptionTable := #[], attributes := #[] }
def k14m7 : Method := { name := "isLeapYear", desc := "()Z", sig := { parameters := [], returnType := some .boolean }, accessFlags := 1, code := some k14c7 }
def k14c8 : Code := { maxStack := 1, maxLocals := 1, code := jdk_2323_method_31_code, exceptionTable := #[], attributes := #[] }
def k14m8 : Method := { name := "lengthOfMonth", desc := "()I", sig := { parameters := [], returnType := some .int }, accessFlags := 1, code := some k14c8 }
def k14c9 : Code := { maxStack := 8, maxLocals := 7, code := jdk_2323_method_44_code, exceptionTable := #[], attributes := #[] }
def k14m9 : Method := { name := "plusDays", desc := "(J)Ljava/time/LocalDate;", sig := { parameters := [.long], returnType := some (.object "java/time/LocalDate") }, accessFlags := 1, code := some k14c9 }
def k14c10 : Code := { maxStack := 8, maxLocals := 7, code := jdk_2323_method_67_code, exceptionTable := #[], attributes := #[] }
def k14m10 : Method := { name := "toEpochDay", desc := "()J", sig := { parameters := [], returnType := some .long }, accessFlags := 1, code := some k14c10 }
/-- java/time/LocalDate -/
def k14 : Class := { plain "java/time/LocalDate" (some 0) with
  accessFlags := 49
  interfaces := #[11, 12, 13, 2]
  cf := some (fileOf pool14 1 #[.nestMembers #[270]] #[{ accessFlags := 9, nameIndex := 108, descriptorIndex := 63, attributes := #[] }, { accessFlags := 9, nameIndex := 159, descriptorIndex := 160, attributes := #[] }, { accessFlags := 10, nameIndex := 62, descriptorIndex := 63, attributes := #[] }, { accessFlags := 2, nameIndex := 86, descriptorIndex := 123, attributes := #[] }, { accessFlags := 1, nameIndex := 303, descriptorIndex := 59, attributes := #[] }, { accessFlags := 1, nameIndex := 824, descriptorIndex := 59, attributes := #[] }, { accessFlags := 1, nameIndex := 536, descriptorIndex := 59, attributes := #[] }, { accessFlags := 1, nameIndex := 78, descriptorIndex := 268, attributes := #[] }, { accessFlags := 1, nameIndex := 280, descriptorIndex := 59, attributes := #[] }, { accessFlags := 1, nameIndex := 387, descriptorIndex := 160, attributes := #[] }, { accessFlags := 1, nameIndex := 334, descriptorIndex := 144, attributes := #[] }] 49 244 #[770, 380, 257, 772] #[{ accessFlags := 25, nameIndex := 592, descriptorIndex := 589, attributes := #[] }, { accessFlags := 25, nameIndex := 588, descriptorIndex := 589, attributes := #[] }, { accessFlags := 25, nameIndex := 769, descriptorIndex := 589, attributes := #[] }, { accessFlags := 26, nameIndex := 774, descriptorIndex := 775, attributes := #[] }, { accessFlags := 26, nameIndex := 779, descriptorIndex := 249, attributes := #[] }, { accessFlags := 24, nameIndex := 781, descriptorIndex := 775, attributes := #[] }, { accessFlags := 18, nameIndex := 248, descriptorIndex := 249, attributes := #[] }, { accessFlags := 18, nameIndex := 50, descriptorIndex := 252, attributes := #[] }, { accessFlags := 18, nameIndex := 255, descriptorIndex := 252, attributes := #[] }])
  fields := #[{ name := "MIN", type := (.object "java/time/LocalDate"), accessFlags := 25, slot := 0, constantValue := 0 }, { name := "MAX", type := (.object "java/time/LocalDate"), accessFlags := 25, slot := 1, constantValue := 0 }, { name := "EPOCH", type := (.object "java/time/LocalDate"), accessFlags := 25, slot := 2, constantValue := 0 }, { name := "serialVersionUID", type := .long, accessFlags := 26, slot := 3, constantValue := 0 }, { name := "DAYS_PER_CYCLE", type := .int, accessFlags := 26, slot := 4, constantValue := 0 }, { name := "DAYS_0000_TO_1970", type := .long, accessFlags := 24, slot := 5, constantValue := 0 }, { name := "year", type := .int, accessFlags := 18, slot := 0, constantValue := 0 }, { name := "month", type := .short, accessFlags := 18, slot := 1, constantValue := 0 }, { name := "day", type := .short, accessFlags := 18, slot := 2, constantValue := 0 }]
  methods := #[k14m0, k14m1, k14m2, k14m3, k14m4, k14m5, k14m6, k14m7, k14m8, k14m9, k14m10]
  instanceTypes := #[.int, .short, .short]
  staticTypes := #[(.object "java/time/LocalDate"), (.object "java/time/LocalDate"), (.object "java/time/LocalDate"), .long, .int, .long]
  resolved := Array.replicate 988 none
  statics := none }

def pool15 : Array CpInfo := pool [(2, .class_ 4), (1, u "java/lang/Enum"), (0, u "name"), (0, u "Ljava/lang/String;"), (2, u "ordinal"), (0, u "I"), (1, .class_ 14), (1, u "java/lang/Object"), (4, u "hash"), (86, .class_ 108), (1, u "java/lang/Enum$EnumDesc"), (2, .class_ 112), (0, u "java/lang/constant/Constable"), (0, .class_ 114), (0, u "java/lang/Comparable"), (0, .class_ 116), (0, u "java/io/Serializable")] 87

/-- java/lang/Enum -/
def k15 : Class := { plain "java/lang/Enum" (some 0) with
  accessFlags := 1057
  interfaces := #[5, 3, 2]
  cf := some (fileOf pool15 2 #[.nestMembers #[106]] #[] 1057 12 #[111, 113, 115] #[{ accessFlags := 18, nameIndex := 5, descriptorIndex := 6, attributes := #[] }, { accessFlags := 18, nameIndex := 9, descriptorIndex := 10, attributes := #[] }, { accessFlags := 2, nameIndex := 19, descriptorIndex := 10, attributes := #[] }])
  fields := #[{ name := "name", type := (.object "java/lang/String"), accessFlags := 18, slot := 0, constantValue := 0 }, { name := "ordinal", type := .int, accessFlags := 18, slot := 1, constantValue := 0 }, { name := "hash", type := .int, accessFlags := 2, slot := 2, constantValue := 0 }]
  methods := #[]
  instanceTypes := #[(.object "java/lang/String"), .int, .int]
  staticTypes := #[]
  resolved := Array.replicate 204 none
  statics := none }

def pool16 : Array CpInfo := pool [(10, .class_ 12), (1, u "java/time/temporal/TemporalField"), (2, .class_ 16), (0, u "java/lang/Object")] 39

/-- java/time/temporal/TemporalField -/
def k16 : Class := { plain "java/time/temporal/TemporalField" (some 0) with
  accessFlags := 1537
  interfaces := #[]
  cf := some (fileOf pool16 10 #[] #[] 1537 15 #[] #[])
  fields := #[]
  methods := #[]
  instanceTypes := #[]
  staticTypes := #[]
  resolved := Array.replicate 56 none
  statics := none }

def pool17 : Array CpInfo := pool [(1, .class_ 2), (0, u "java/time/temporal/ChronoField"), (2, u "NANO_OF_SECOND"), (0, u "Ljava/time/temporal/ChronoField;"), (2, u "NANO_OF_DAY"), (2, u "MICRO_OF_SECOND"), (2, u "MICRO_OF_DAY"), (2, u "MILLI_OF_SECOND"), (2, u "MILLI_OF_DAY"), (2, u "SECOND_OF_MINUTE"), (2, u "SECOND_OF_DAY"), (2, u "MINUTE_OF_HOUR"), (2, u "MINUTE_OF_DAY"), (2, u "HOUR_OF_AMPM"), (2, u "CLOCK_HOUR_OF_AMPM"), (2, u "HOUR_OF_DAY"), (2, u "CLOCK_HOUR_OF_DAY"), (2, u "AMPM_OF_DAY"), (2, u "DAY_OF_WEEK"), (2, u "ALIGNED_DAY_OF_WEEK_IN_MONTH"), (2, u "ALIGNED_DAY_OF_WEEK_IN_YEAR"), (2, u "DAY_OF_MONTH"), (2, u "DAY_OF_YEAR"), (2, u "EPOCH_DAY"), (2, u "ALIGNED_WEEK_OF_MONTH"), (2, u "ALIGNED_WEEK_OF_YEAR"), (2, u "MONTH_OF_YEAR"), (2, u "PROLEPTIC_MONTH"), (2, u "YEAR_OF_ERA"), (2, u "YEAR"), (2, u "ERA"), (2, u "INSTANT_SECONDS"), (2, u "OFFSET_SECONDS"), (2, u "$VALUES"), (0, u "[Ljava/time/temporal/ChronoField;"), (6, .class_ 106), (1, u "java/lang/Enum"), (8, u "name"), (0, u "Ljava/lang/String;"), (2, u "baseUnit"), (0, u "Ljava/time/temporal/TemporalUnit;"), (2, u "rangeUnit"), (0, .fieldref 1 125), (0, .nameAndType 126 127), (0, u "range"), (0, u "Ljava/time/temporal/ValueRange;"), (2, u "displayNameKey"), (59, .methodref 1 191), (0, .nameAndType 126 192), (0, u "()Ljava/time/temporal/ValueRange;"), (0, .methodref 194 195), (0, .class_ 196), (0, .nameAndType 197 198), (0, u "java/time/temporal/ValueRange"), (0, u "checkValidValue"), (0, u "(JLjava/time/temporal/TemporalField;)J"), (256, .class_ 456), (0, u "java/time/temporal/TemporalField"), (27, u "(J)J")] 22

def k17c0 : Code := { maxStack := 1, maxLocals := 1, code := jdk_2395_method_8_code, exceptionTable := #[], attributes := #[] }
def k17m0 : Method := { name := "range", desc := "()Ljava/time/temporal/ValueRange;", sig := { parameters := [], returnType := some (.object "java/time/temporal/ValueRange") }, accessFlags := 1, code := some k17c0 }
def k17c1 : Code := { maxStack := 4, maxLocals := 3, code := jdk_2395_method_11_code, exceptionTable := #[], attributes := #[] }
def k17m1 : Method := { name := "checkValidValue", desc := "(J)J", sig := { parameters := [.long], returnType := some .long }, accessFlags := 1, code := some k17c1 }
/-- java/time/temporal/ChronoField -/
def k17 : Class := { plain "java/time/temporal/ChronoField" (some 15) with
  accessFlags := 16433
  interfaces := #[16]
  cf := some (fileOf pool17 1 #[] #[{ accessFlags := 1, nameIndex := 126, descriptorIndex := 192, attributes := #[] }, { accessFlags := 1, nameIndex := 197, descriptorIndex := 484, attributes := #[] }] 16433 104 #[455] #[{ accessFlags := 16409, nameIndex := 5, descriptorIndex := 6, attributes := #[] }, { accessFlags := 16409, nameIndex := 9, descriptorIndex := 6, attributes := #[] }, { accessFlags := 16409, nameIndex := 12, descriptorIndex := 6, attributes := #[] }, { accessFlags := 16409, nameIndex := 15, descriptorIndex := 6, attributes := #[] }, { accessFlags := 16409, nameIndex := 18, descriptorIndex := 6, attributes := #[] }, { accessFlags := 16409, nameIndex := 21, descriptorIndex := 6, attributes := #[] }, { accessFlags := 16409, nameIndex := 24, descriptorIndex := 6, attributes := #[] }, { accessFlags := 16409, nameIndex := 27, descriptorIndex := 6, attributes := #[] }, { accessFlags := 16409, nameIndex := 30, descriptorIndex := 6, attributes := #[] }, { accessFlags := 16409, nameIndex := 33, descriptorIndex := 6, attributes := #[] }, { accessFlags := 16409, nameIndex := 36, descriptorIndex := 6, attributes := #[] }, { accessFlags := 16409, nameIndex := 39, descriptorIndex := 6, attributes := #[] }, { accessFlags := 16409, nameIndex := 42, descriptorIndex := 6, attributes := #[] }, { accessFlags := 16409, nameIndex := 45, descriptorIndex := 6, attributes := #[] }, { accessFlags := 16409, nameIndex := 48, descriptorIndex := 6, attributes := #[] }, { accessFlags := 16409, nameIndex := 51, descriptorIndex := 6, attributes := #[] }, { accessFlags := 16409, nameIndex := 54, descriptorIndex := 6, attributes := #[] }, { accessFlags := 16409, nameIndex := 57, descriptorIndex := 6, attributes := #[] }, { accessFlags := 16409, nameIndex := 60, descriptorIndex := 6, attributes := #[] }, { accessFlags := 16409, nameIndex := 63, descriptorIndex := 6, attributes := #[] }, { accessFlags := 16409, nameIndex := 66, descriptorIndex := 6, attributes := #[] }, { accessFlags := 16409, nameIndex := 69, descriptorIndex := 6, attributes := #[] }, { accessFlags := 16409, nameIndex := 72, descriptorIndex := 6, attributes := #[] }, { accessFlags := 16409, nameIndex := 75, descriptorIndex := 6, attributes := #[] }, { accessFlags := 16409, nameIndex := 78, descriptorIndex := 6, attributes := #[] }, { accessFlags := 16409, nameIndex := 81, descriptorIndex := 6, attributes := #[] }, { accessFlags := 16409, nameIndex := 84, descriptorIndex := 6, attributes := #[] }, { accessFlags := 16409, nameIndex := 87, descriptorIndex := 6, attributes := #[] }, { accessFlags := 16409, nameIndex := 90, descriptorIndex := 6, attributes := #[] }, { accessFlags := 16409, nameIndex := 93, descriptorIndex := 6, attributes := #[] }, { accessFlags := 18, nameIndex := 115, descriptorIndex := 116, attributes := #[] }, { accessFlags := 18, nameIndex := 119, descriptorIndex := 120, attributes := #[] }, { accessFlags := 18, nameIndex := 123, descriptorIndex := 120, attributes := #[] }, { accessFlags := 18, nameIndex := 126, descriptorIndex := 127, attributes := #[] }, { accessFlags := 18, nameIndex := 130, descriptorIndex := 116, attributes := #[] }, { accessFlags := 4122, nameIndex := 96, descriptorIndex := 97, attributes := #[] }])
  fields := #[{ name := "NANO_OF_SECOND", type := (.object "java/time/temporal/ChronoField"), accessFlags := 16409, slot := 0, constantValue := 0 }, { name := "NANO_OF_DAY", type := (.object "java/time/temporal/ChronoField"), accessFlags := 16409, slot := 1, constantValue := 0 }, { name := "MICRO_OF_SECOND", type := (.object "java/time/temporal/ChronoField"), accessFlags := 16409, slot := 2, constantValue := 0 }, { name := "MICRO_OF_DAY", type := (.object "java/time/temporal/ChronoField"), accessFlags := 16409, slot := 3, constantValue := 0 }, { name := "MILLI_OF_SECOND", type := (.object "java/time/temporal/ChronoField"), accessFlags := 16409, slot := 4, constantValue := 0 }, { name := "MILLI_OF_DAY", type := (.object "java/time/temporal/ChronoField"), accessFlags := 16409, slot := 5, constantValue := 0 }, { name := "SECOND_OF_MINUTE", type := (.object "java/time/temporal/ChronoField"), accessFlags := 16409, slot := 6, constantValue := 0 }, { name := "SECOND_OF_DAY", type := (.object "java/time/temporal/ChronoField"), accessFlags := 16409, slot := 7, constantValue := 0 }, { name := "MINUTE_OF_HOUR", type := (.object "java/time/temporal/ChronoField"), accessFlags := 16409, slot := 8, constantValue := 0 }, { name := "MINUTE_OF_DAY", type := (.object "java/time/temporal/ChronoField"), accessFlags := 16409, slot := 9, constantValue := 0 }, { name := "HOUR_OF_AMPM", type := (.object "java/time/temporal/ChronoField"), accessFlags := 16409, slot := 10, constantValue := 0 }, { name := "CLOCK_HOUR_OF_AMPM", type := (.object "java/time/temporal/ChronoField"), accessFlags := 16409, slot := 11, constantValue := 0 }, { name := "HOUR_OF_DAY", type := (.object "java/time/temporal/ChronoField"), accessFlags := 16409, slot := 12, constantValue := 0 }, { name := "CLOCK_HOUR_OF_DAY", type := (.object "java/time/temporal/ChronoField"), accessFlags := 16409, slot := 13, constantValue := 0 }, { name := "AMPM_OF_DAY", type := (.object "java/time/temporal/ChronoField"), accessFlags := 16409, slot := 14, constantValue := 0 }, { name := "DAY_OF_WEEK", type := (.object "java/time/temporal/ChronoField"), accessFlags := 16409, slot := 15, constantValue := 0 }, { name := "ALIGNED_DAY_OF_WEEK_IN_MONTH", type := (.object "java/time/temporal/ChronoField"), accessFlags := 16409, slot := 16, constantValue := 0 }, { name := "ALIGNED_DAY_OF_WEEK_IN_YEAR", type := (.object "java/time/temporal/ChronoField"), accessFlags := 16409, slot := 17, constantValue := 0 }, { name := "DAY_OF_MONTH", type := (.object "java/time/temporal/ChronoField"), accessFlags := 16409, slot := 18, constantValue := 0 }, { name := "DAY_OF_YEAR", type := (.object "java/time/temporal/ChronoField"), accessFlags := 16409, slot := 19, constantValue := 0 }, { name := "EPOCH_DAY", type := (.object "java/time/temporal/ChronoField"), accessFlags := 16409, slot := 20, constantValue := 0 }, { name := "ALIGNED_WEEK_OF_MONTH", type := (.object "java/time/temporal/ChronoField"), accessFlags := 16409, slot := 21, constantValue := 0 }, { name := "ALIGNED_WEEK_OF_YEAR", type := (.object "java/time/temporal/ChronoField"), accessFlags := 16409, slot := 22, constantValue := 0 }, { name := "MONTH_OF_YEAR", type := (.object "java/time/temporal/ChronoField"), accessFlags := 16409, slot := 23, constantValue := 0 }, { name := "PROLEPTIC_MONTH", type := (.object "java/time/temporal/ChronoField"), accessFlags := 16409, slot := 24, constantValue := 0 }, { name := "YEAR_OF_ERA", type := (.object "java/time/temporal/ChronoField"), accessFlags := 16409, slot := 25, constantValue := 0 }, { name := "YEAR", type := (.object "java/time/temporal/ChronoField"), accessFlags := 16409, slot := 26, constantValue := 0 }, { name := "ERA", type := (.object "java/time/temporal/ChronoField"), accessFlags := 16409, slot := 27, constantValue := 0 }, { name := "INSTANT_SECONDS", type := (.object "java/time/temporal/ChronoField"), accessFlags := 16409, slot := 28, constantValue := 0 }, { name := "OFFSET_SECONDS", type := (.object "java/time/temporal/ChronoField"), accessFlags := 16409, slot := 29, constantValue := 0 }, { name := "name", type := (.object "java/lang/String"), accessFlags := 18, slot := 3, constantValue := 0 }, { name := "baseUnit", type := (.object "java/time/temporal/TemporalUnit"), accessFlags := 18, slot := 4, constantValue := 0 }, { name := "rangeUnit", type := (.object "java/time/temporal/TemporalUnit"), accessFlags := 18, slot := 5, constantValue := 0 }, { name := "range", type := (.object "java/time/temporal/ValueRange"), accessFlags := 18, slot := 6, constantValue := 0 }, { name := "displayNameKey", type := (.object "java/lang/String"), accessFlags := 18, slot := 7, constantValue := 0 }, { name := "$VALUES", type := (.array (.object "java/time/temporal/ChronoField")), accessFlags := 4122, slot := 30, constantValue := 0 }]
  methods := #[k17m0, k17m1]
  instanceTypes := #[(.object "java/lang/String"), .int, .int, (.object "java/lang/String"), (.object "java/time/temporal/TemporalUnit"), (.object "java/time/temporal/TemporalUnit"), (.object "java/time/temporal/ValueRange"), (.object "java/lang/String")]
  staticTypes := #[(.object "java/time/temporal/ChronoField"), (.object "java/time/temporal/ChronoField"), (.object "java/time/temporal/ChronoField"), (.object "java/time/temporal/ChronoField"), (.object "java/time/temporal/ChronoField"), (.object "java/time/temporal/ChronoField"), (.object "java/time/temporal/ChronoField"), (.object "java/time/temporal/ChronoField"), (.object "java/time/temporal/ChronoField"), (.object "java/time/temporal/ChronoField"), (.object "java/time/temporal/ChronoField"), (.object "java/time/temporal/ChronoField"), (.object "java/time/temporal/ChronoField"), (.object "java/time/temporal/ChronoField"), (.object "java/time/temporal/ChronoField"), (.object "java/time/temporal/ChronoField"), (.object "java/time/temporal/ChronoField"), (.object "java/time/temporal/ChronoField"), (.object "java/time/temporal/ChronoField"), (.object "java/time/temporal/ChronoField"), (.object "java/time/temporal/ChronoField"), (.object "java/time/temporal/ChronoField"), (.object "java/time/temporal/ChronoField"), (.object "java/time/temporal/ChronoField"), (.object "java/time/temporal/ChronoField"), (.object "java/time/temporal/ChronoField"), (.object "java/time/temporal/ChronoField"), (.object "java/time/temporal/ChronoField"), (.object "java/time/temporal/ChronoField"), (.object "java/time/temporal/ChronoField"), (.array (.object "java/time/temporal/ChronoField"))]
  resolved := Array.replicate 507 none
  statics := some 1 }

def pool18 : Array CpInfo := pool [(9, .class_ 10), (0, u "java/time/temporal/ValueRange"), (18, .class_ 31), (1, u "java/lang/Object"), (1, .fieldref 9 34), (0, .nameAndType 35 36), (0, u "minSmallest"), (0, u "J"), (2, u "minLargest"), (2, u "maxSmallest"), (0, .fieldref 9 44), (0, .nameAndType 45 36), (0, u "maxLargest"), (0, .methodref 9 47), (0, .nameAndType 48 49), (0, u "getMinimum"), (0, u "()J"), (4, .methodref 9 55), (0, .nameAndType 56 49), (0, u "getMaximum"), (6, .methodref 9 64), (0, .nameAndType 65 66), (0, u "isValidValue"), (0, u "(J)Z"), (54, .class_ 122), (0, u "java/io/Serializable"), (0, u "serialVersionUID"), (17, u "checkValidValue"), (0, u "(JLjava/time/temporal/TemporalField;)J")] 24

def k18c0 : Code := { maxStack := 2, maxLocals := 1, code := jdk_2423_method_6_code, exceptionTable := #[], attributes := #[] }
def k18m0 : Method := { name := "getMinimum", desc := "()J", sig := { parameters := [], returnType := some .long }, accessFlags := 1, code := some k18c0 }
def k18c1 : Code := { maxStack := 2, maxLocals := 1, code := jdk_2423_method_9_code, exceptionTable := #[], attributes := #[] }
def k18m1 : Method := { name := "getMaximum", desc := "()J", sig := { parameters := [], returnType := some .long }, accessFlags := 1, code := some k18c1 }
def k18c2 : Code := { maxStack := 4, maxLocals := 3, code := jdk_2423_method_11_code, exceptionTable := #[], attributes := #[] }
def k18m2 : Method := { name := "isValidValue", desc := "(J)Z", sig := { parameters := [.long], returnType := some .boolean }, accessFlags := 1, code := some k18c2 }
def k18c3 : Code := { maxStack := 6, maxLocals := 4, code := jdk_2423_method_13_code, exceptionTable := #[], attributes := #[] }
def k18m3 : Method := { name := "checkValidValue", desc := "(JLjava/time/temporal/TemporalField;)J", sig := { parameters := [.long, (.object "java/time/temporal/TemporalField")], returnType := some .long }, accessFlags := 1, code := some k18c3 }
/-- java/time/temporal/ValueRange -/
def k18 : Class := { plain "java/time/temporal/ValueRange" (some 0) with
  accessFlags := 49
  interfaces := #[2]
  cf := some (fileOf pool18 9 #[] #[{ accessFlags := 1, nameIndex := 48, descriptorIndex := 49, attributes := #[] }, { accessFlags := 1, nameIndex := 56, descriptorIndex := 49, attributes := #[] }, { accessFlags := 1, nameIndex := 65, descriptorIndex := 66, attributes := #[] }, { accessFlags := 1, nameIndex := 141, descriptorIndex := 142, attributes := #[] }] 49 29 #[121] #[{ accessFlags := 26, nameIndex := 123, descriptorIndex := 36, attributes := #[] }, { accessFlags := 18, nameIndex := 35, descriptorIndex := 36, attributes := #[] }, { accessFlags := 18, nameIndex := 39, descriptorIndex := 36, attributes := #[] }, { accessFlags := 18, nameIndex := 42, descriptorIndex := 36, attributes := #[] }, { accessFlags := 18, nameIndex := 45, descriptorIndex := 36, attributes := #[] }])
  fields := #[{ name := "serialVersionUID", type := .long, accessFlags := 26, slot := 0, constantValue := 0 }, { name := "minSmallest", type := .long, accessFlags := 18, slot := 0, constantValue := 0 }, { name := "minLargest", type := .long, accessFlags := 18, slot := 1, constantValue := 0 }, { name := "maxSmallest", type := .long, accessFlags := 18, slot := 2, constantValue := 0 }, { name := "maxLargest", type := .long, accessFlags := 18, slot := 3, constantValue := 0 }]
  methods := #[k18m0, k18m1, k18m2, k18m3]
  instanceTypes := #[.long, .long, .long, .long]
  staticTypes := #[.long]
  resolved := Array.replicate 167 none
  statics := none }

def pool19 : Array CpInfo := pool [(21, .class_ 22), (0, u "java/time/chrono/Chronology"), (138, .class_ 162), (0, u "java/time/chrono/Chronology$1"), (74, .class_ 238), (0, u "java/lang/Object"), (0, .class_ 240), (0, u "java/lang/Comparable")] 86

/-- java/time/chrono/Chronology -/
def k19 : Class := { plain "java/time/chrono/Chronology" (some 0) with
  accessFlags := 1537
  interfaces := #[3]
  cf := some (fileOf pool19 21 #[.nestMembers #[161]] #[] 1537 237 #[239] #[])
  fields := #[]
  methods := #[]
  instanceTypes := #[]
  staticTypes := #[]
  resolved := Array.replicate 327 none
  statics := none }

def pool20 : Array CpInfo := pool [(2, .class_ 4), (1, u "java/time/chrono/Chronology"), (3, .class_ 10), (1, u "java/time/chrono/AbstractChronology"), (4, u "CHRONOS_BY_ID"), (0, u "Ljava/util/concurrent/ConcurrentHashMap;"), (11, u "CHRONOS_BY_TYPE"), (69, u "<init>"), (0, u "()V"), (71, .class_ 172), (0, u "java/lang/Object")] 383

def k20m0 : Method := { name := "<init>", desc := "()V", sig := { parameters := [], returnType := none }, accessFlags := 4, code := none }
/-- java/time/chrono/AbstractChronology -/
def k20 : Class := { plain "java/time/chrono/AbstractChronology" (some 0) with
  accessFlags := 1057
  interfaces := #[19]
  cf := some (fileOf pool20 8 #[] #[{ accessFlags := 4, nameIndex := 98, descriptorIndex := 99, attributes := #[] }] 1057 171 #[2] #[{ accessFlags := 26, nameIndex := 15, descriptorIndex := 16, attributes := #[] }, { accessFlags := 26, nameIndex := 28, descriptorIndex := 16, attributes := #[] }])
  fields := #[{ name := "CHRONOS_BY_ID", type := (.object "java/util/concurrent/ConcurrentHashMap"), accessFlags := 26, slot := 0, constantValue := 0 }, { name := "CHRONOS_BY_TYPE", type := (.object "java/util/concurrent/ConcurrentHashMap"), accessFlags := 26, slot := 1, constantValue := 0 }]
  methods := #[k20m0]
  instanceTypes := #[]
  staticTypes := #[(.object "java/util/concurrent/ConcurrentHashMap"), (.object "java/util/concurrent/ConcurrentHashMap")]
  resolved := Array.replicate 556 none
  statics := none }

def pool21 : Array CpInfo := pool [(2, .class_ 4), (1, u "java/time/chrono/AbstractChronology"), (0, u "<init>"), (0, u "()V"), (5, .class_ 14), (1, u "java/time/chrono/IsoChronology"), (102, .long 3), (5, .long 100), (3, .long 400), (3, u "INSTANCE"), (0, u "Ljava/time/chrono/IsoChronology;"), (2, u "isLeapYear"), (0, u "(J)Z"), (228, .class_ 366), (0, u "java/io/Serializable"), (0, u "serialVersionUID"), (0, u "J"), (3, u "DAYS_0000_TO_1970")] 81

def k21m0 : Method := { name := "<init>", desc := "()V", sig := { parameters := [], returnType := none }, accessFlags := 2, code := none }
def k21c1 : Code := { maxStack := 4, maxLocals := 3, code := jdk_2369_method_18_code, exceptionTable := #[], attributes := #[] }
def k21m1 : Method := { name := "isLeapYear", desc := "(J)Z", sig := { parameters := [.long], returnType := some .boolean }, accessFlags := 1, code := some k21c1 }
/-- java/time/chrono/IsoChronology -/
def k21 : Class := { plain "java/time/chrono/IsoChronology" (some 20) with
  accessFlags := 49
  interfaces := #[2]
  cf := some (fileOf pool21 12 #[] #[{ accessFlags := 2, nameIndex := 5, descriptorIndex := 6, attributes := #[] }, { accessFlags := 1, nameIndex := 135, descriptorIndex := 136, attributes := #[] }] 49 2 #[365] #[{ accessFlags := 25, nameIndex := 131, descriptorIndex := 132, attributes := #[] }, { accessFlags := 26, nameIndex := 367, descriptorIndex := 368, attributes := #[] }, { accessFlags := 26, nameIndex := 372, descriptorIndex := 368, attributes := #[] }])
  fields := #[{ name := "INSTANCE", type := (.object "java/time/chrono/IsoChronology"), accessFlags := 25, slot := 0, constantValue := 0 }, { name := "serialVersionUID", type := .long, accessFlags := 26, slot := 1, constantValue := 0 }, { name := "DAYS_0000_TO_1970", type := .long, accessFlags := 26, slot := 2, constantValue := 0 }]
  methods := #[k21m0, k21m1]
  instanceTypes := #[]
  staticTypes := #[(.object "java/time/chrono/IsoChronology"), .long, .long]
  resolved := Array.replicate 454 none
  statics := some 2 }

def pool22 : Array CpInfo := pool [(1, .class_ 2), (0, u "java/lang/Math"), (1, .class_ 6), (1, u "java/lang/Object"), (0, u "<init>"), (0, u "()V"), (89, .class_ 100), (1, u "java/lang/Math$RandomNumberGeneratorHolder"), (20, u "(JJ)J"), (50, u "negativeZeroFloatBits"), (0, u "J"), (2, u "negativeZeroDoubleBits"), (68, u "$assertionsDisabled"), (0, u "Z"), (91, u "twoToTheDoubleScaleDown"), (0, u "D"), (4, u "twoToTheDoubleScaleUp"), (9, u "E"), (3, u "PI"), (2, u "TAU"), (2, u "DEGREES_TO_RADIANS"), (0, u "RADIANS_TO_DEGREES"), (27, u "addExact")] 66

def k22m0 : Method := { name := "<init>", desc := "()V", sig := { parameters := [], returnType := none }, accessFlags := 2, code := none }
def k22c1 : Code := { maxStack := 6, maxLocals := 6, code := jdk_29_method_25_code, exceptionTable := #[], attributes := #[] }
def k22m1 : Method := { name := "addExact", desc := "(JJ)J", sig := { parameters := [.long, .long], returnType := some .long }, accessFlags := 9, code := some k22c1 }
/-- java/lang/Math -/
def k22 : Class := { plain "java/lang/Math" (some 0) with
  accessFlags := 49
  interfaces := #[]
  cf := some (fileOf pool22 1 #[.nestMembers #[98]] #[{ accessFlags := 2, nameIndex := 7, descriptorIndex := 8, attributes := #[] }, { accessFlags := 9, nameIndex := 393, descriptorIndex := 121, attributes := #[] }] 49 4 #[] #[{ accessFlags := 25, nameIndex := 354, descriptorIndex := 339, attributes := #[] }, { accessFlags := 25, nameIndex := 358, descriptorIndex := 339, attributes := #[] }, { accessFlags := 25, nameIndex := 361, descriptorIndex := 339, attributes := #[] }, { accessFlags := 26, nameIndex := 364, descriptorIndex := 339, attributes := #[] }, { accessFlags := 26, nameIndex := 365, descriptorIndex := 339, attributes := #[] }, { accessFlags := 26, nameIndex := 172, descriptorIndex := 173, attributes := #[] }, { accessFlags := 26, nameIndex := 176, descriptorIndex := 173, attributes := #[] }, { accessFlags := 8, nameIndex := 344, descriptorIndex := 339, attributes := #[] }, { accessFlags := 8, nameIndex := 338, descriptorIndex := 339, attributes := #[] }, { accessFlags := 4120, nameIndex := 245, descriptorIndex := 246, attributes := #[] }])
  fields := #[{ name := "E", type := .double, accessFlags := 25, slot := 0, constantValue := 0 }, { name := "PI", type := .double, accessFlags := 25, slot := 1, constantValue := 0 }, { name := "TAU", type := .double, accessFlags := 25, slot := 2, constantValue := 0 }, { name := "DEGREES_TO_RADIANS", type := .double, accessFlags := 26, slot := 3, constantValue := 0 }, { name := "RADIANS_TO_DEGREES", type := .double, accessFlags := 26, slot := 4, constantValue := 0 }, { name := "negativeZeroFloatBits", type := .long, accessFlags := 26, slot := 5, constantValue := 0 }, { name := "negativeZeroDoubleBits", type := .long, accessFlags := 26, slot := 6, constantValue := 0 }, { name := "twoToTheDoubleScaleUp", type := .double, accessFlags := 8, slot := 7, constantValue := 0 }, { name := "twoToTheDoubleScaleDown", type := .double, accessFlags := 8, slot := 8, constantValue := 0 }, { name := "$assertionsDisabled", type := .boolean, accessFlags := 4120, slot := 9, constantValue := 0 }]
  methods := #[k22m0, k22m1]
  instanceTypes := #[]
  staticTypes := #[.double, .double, .double, .double, .double, .long, .long, .double, .double, .boolean]
  resolved := Array.replicate 460 none
  statics := none }

def pool23 : Array CpInfo := pool [(4, .class_ 6), (1, u "java/time/temporal/TemporalUnit"), (23, .class_ 31), (0, u "java/lang/Object")] 27

/-- java/time/temporal/TemporalUnit -/
def k23 : Class := { plain "java/time/temporal/TemporalUnit" (some 0) with
  accessFlags := 1537
  interfaces := #[]
  cf := some (fileOf pool23 4 #[] #[] 1537 30 #[] #[])
  fields := #[]
  methods := #[]
  instanceTypes := #[]
  staticTypes := #[]
  resolved := Array.replicate 59 none
  statics := none }

def pool24 : Array CpInfo := pool [(1, .class_ 2), (0, u "java/time/temporal/ChronoUnit"), (2, u "NANOS"), (0, u "Ljava/time/temporal/ChronoUnit;"), (2, u "MICROS"), (2, u "MILLIS"), (2, u "SECONDS"), (2, u "MINUTES"), (2, u "HOURS"), (2, u "HALF_DAYS"), (2, u "DAYS"), (2, u "WEEKS"), (2, u "MONTHS"), (2, u "YEARS"), (2, u "DECADES"), (2, u "CENTURIES"), (2, u "MILLENNIA"), (2, u "ERAS"), (2, u "FOREVER"), (2, u "$VALUES"), (0, u "[Ljava/time/temporal/ChronoUnit;"), (6, .class_ 64), (1, u "java/lang/Enum"), (8, u "name"), (0, u "Ljava/lang/String;"), (2, u "duration"), (0, u "Ljava/time/Duration;"), (117, .class_ 197), (0, u "java/time/temporal/TemporalUnit")] 39

/-- java/time/temporal/ChronoUnit -/
def k24 : Class := { plain "java/time/temporal/ChronoUnit" (some 15) with
  accessFlags := 16433
  interfaces := #[23]
  cf := some (fileOf pool24 1 #[] #[] 16433 62 #[196] #[{ accessFlags := 16409, nameIndex := 5, descriptorIndex := 6, attributes := #[] }, { accessFlags := 16409, nameIndex := 9, descriptorIndex := 6, attributes := #[] }, { accessFlags := 16409, nameIndex := 12, descriptorIndex := 6, attributes := #[] }, { accessFlags := 16409, nameIndex := 15, descriptorIndex := 6, attributes := #[] }, { accessFlags := 16409, nameIndex := 18, descriptorIndex := 6, attributes := #[] }, { accessFlags := 16409, nameIndex := 21, descriptorIndex := 6, attributes := #[] }, { accessFlags := 16409, nameIndex := 24, descriptorIndex := 6, attributes := #[] }, { accessFlags := 16409, nameIndex := 27, descriptorIndex := 6, attributes := #[] }, { accessFlags := 16409, nameIndex := 30, descriptorIndex := 6, attributes := #[] }, { accessFlags := 16409, nameIndex := 33, descriptorIndex := 6, attributes := #[] }, { accessFlags := 16409, nameIndex := 36, descriptorIndex := 6, attributes := #[] }, { accessFlags := 16409, nameIndex := 39, descriptorIndex := 6, attributes := #[] }, { accessFlags := 16409, nameIndex := 42, descriptorIndex := 6, attributes := #[] }, { accessFlags := 16409, nameIndex := 45, descriptorIndex := 6, attributes := #[] }, { accessFlags := 16409, nameIndex := 48, descriptorIndex := 6, attributes := #[] }, { accessFlags := 16409, nameIndex := 51, descriptorIndex := 6, attributes := #[] }, { accessFlags := 18, nameIndex := 73, descriptorIndex := 74, attributes := #[] }, { accessFlags := 18, nameIndex := 77, descriptorIndex := 78, attributes := #[] }, { accessFlags := 4122, nameIndex := 54, descriptorIndex := 55, attributes := #[] }])
  fields := #[{ name := "NANOS", type := (.object "java/time/temporal/ChronoUnit"), accessFlags := 16409, slot := 0, constantValue := 0 }, { name := "MICROS", type := (.object "java/time/temporal/ChronoUnit"), accessFlags := 16409, slot := 1, constantValue := 0 }, { name := "MILLIS", type := (.object "java/time/temporal/ChronoUnit"), accessFlags := 16409, slot := 2, constantValue := 0 }, { name := "SECONDS", type := (.object "java/time/temporal/ChronoUnit"), accessFlags := 16409, slot := 3, constantValue := 0 }, { name := "MINUTES", type := (.object "java/time/temporal/ChronoUnit"), accessFlags := 16409, slot := 4, constantValue := 0 }, { name := "HOURS", type := (.object "java/time/temporal/ChronoUnit"), accessFlags := 16409, slot := 5, constantValue := 0 }, { name := "HALF_DAYS", type := (.object "java/time/temporal/ChronoUnit"), accessFlags := 16409, slot := 6, constantValue := 0 }, { name := "DAYS", type := (.object "java/time/temporal/ChronoUnit"), accessFlags := 16409, slot := 7, constantValue := 0 }, { name := "WEEKS", type := (.object "java/time/temporal/ChronoUnit"), accessFlags := 16409, slot := 8, constantValue := 0 }, { name := "MONTHS", type := (.object "java/time/temporal/ChronoUnit"), accessFlags := 16409, slot := 9, constantValue := 0 }, { name := "YEARS", type := (.object "java/time/temporal/ChronoUnit"), accessFlags := 16409, slot := 10, constantValue := 0 }, { name := "DECADES", type := (.object "java/time/temporal/ChronoUnit"), accessFlags := 16409, slot := 11, constantValue := 0 }, { name := "CENTURIES", type := (.object "java/time/temporal/ChronoUnit"), accessFlags := 16409, slot := 12, constantValue := 0 }, { name := "MILLENNIA", type := (.object "java/time/temporal/ChronoUnit"), accessFlags := 16409, slot := 13, constantValue := 0 }, { name := "ERAS", type := (.object "java/time/temporal/ChronoUnit"), accessFlags := 16409, slot := 14, constantValue := 0 }, { name := "FOREVER", type := (.object "java/time/temporal/ChronoUnit"), accessFlags := 16409, slot := 15, constantValue := 0 }, { name := "name", type := (.object "java/lang/String"), accessFlags := 18, slot := 3, constantValue := 0 }, { name := "duration", type := (.object "java/time/Duration"), accessFlags := 18, slot := 4, constantValue := 0 }, { name := "$VALUES", type := (.array (.object "java/time/temporal/ChronoUnit")), accessFlags := 4122, slot := 16, constantValue := 0 }]
  methods := #[]
  instanceTypes := #[(.object "java/lang/String"), .int, .int, (.object "java/lang/String"), (.object "java/time/Duration")]
  staticTypes := #[(.object "java/time/temporal/ChronoUnit"), (.object "java/time/temporal/ChronoUnit"), (.object "java/time/temporal/ChronoUnit"), (.object "java/time/temporal/ChronoUnit"), (.object "java/time/temporal/ChronoUnit"), (.object "java/time/temporal/ChronoUnit"), (.object "java/time/temporal/ChronoUnit"), (.object "java/time/temporal/ChronoUnit"), (.object "java/time/temporal/ChronoUnit"), (.object "java/time/temporal/ChronoUnit"), (.object "java/time/temporal/ChronoUnit"), (.object "java/time/temporal/ChronoUnit"), (.object "java/time/temporal/ChronoUnit"), (.object "java/time/temporal/ChronoUnit"), (.object "java/time/temporal/ChronoUnit"), (.object "java/time/temporal/ChronoUnit"), (.array (.object "java/time/temporal/ChronoUnit"))]
  resolved := Array.replicate 237 none
  statics := some 3 }

def pool25 : Array CpInfo := pool [(2, .class_ 4), (1, u "java/lang/Object"), (0, u "<init>"), (0, u "()V"), (17, .class_ 26), (1, u "jdk/internal/util/Preconditions"), (28, .class_ 56), (0, u "jdk/internal/util/Preconditions$4"), (57, .class_ 115), (0, u "jdk/internal/util/Preconditions$1"), (7, u "SIOOBE_FORMATTER"), (0, u "Ljava/util/function/BiFunction;"), (0, .class_ 126), (0, u "jdk/internal/util/Preconditions$2"), (3, u "AIOOBE_FORMATTER"), (0, .class_ 132), (0, u "jdk/internal/util/Preconditions$3"), (3, u "IOOBE_FORMATTER")] 57

def k25m0 : Method := { name := "<init>", desc := "()V", sig := { parameters := [], returnType := none }, accessFlags := 1, code := none }
/-- jdk/internal/util/Preconditions -/
def k25 : Class := { plain "jdk/internal/util/Preconditions" (some 0) with
  accessFlags := 33
  interfaces := #[]
  cf := some (fileOf pool25 24 #[.nestMembers #[55, 131, 125, 114]] #[{ accessFlags := 1, nameIndex := 5, descriptorIndex := 6, attributes := #[] }] 33 2 #[] #[{ accessFlags := 25, nameIndex := 123, descriptorIndex := 124, attributes := #[] }, { accessFlags := 25, nameIndex := 130, descriptorIndex := 124, attributes := #[] }, { accessFlags := 25, nameIndex := 136, descriptorIndex := 124, attributes := #[] }])
  fields := #[{ name := "SIOOBE_FORMATTER", type := (.object "java/util/function/BiFunction"), accessFlags := 25, slot := 0, constantValue := 0 }, { name := "AIOOBE_FORMATTER", type := (.object "java/util/function/BiFunction"), accessFlags := 25, slot := 1, constantValue := 0 }, { name := "IOOBE_FORMATTER", type := (.object "java/util/function/BiFunction"), accessFlags := 25, slot := 2, constantValue := 0 }]
  methods := #[k25m0]
  instanceTypes := #[]
  staticTypes := #[(.object "java/util/function/BiFunction"), (.object "java/util/function/BiFunction"), (.object "java/util/function/BiFunction")]
  resolved := Array.replicate 194 none
  statics := some 4 }

def pool26 : Array CpInfo := pool [(1, .class_ 2), (0, u "java/time/temporal/TemporalAmount"), (0, .class_ 4), (0, u "java/lang/Object")] 11

/-- java/time/temporal/TemporalAmount -/
def k26 : Class := { plain "java/time/temporal/TemporalAmount" (some 0) with
  accessFlags := 1537
  interfaces := #[]
  cf := some (fileOf pool26 1 #[] #[] 1537 3 #[] #[])
  fields := #[]
  methods := #[]
  instanceTypes := #[]
  staticTypes := #[]
  resolved := Array.replicate 16 none
  statics := none }

def pool27 : Array CpInfo := pool [(11, .class_ 13), (1, u "java/time/Duration"), (20, u "ZERO"), (0, u "Ljava/time/Duration;"), (13, .class_ 51), (1, u "java/time/temporal/TemporalAmount"), (27, .class_ 81), (1, u "java/time/Duration$Lazy"), (35, u "seconds"), (101, .class_ 220), (0, u "java/lang/Object"), (2, u "J"), (2, u "nanos"), (0, u "I"), (11, .class_ 241), (1, u "java/time/Duration$DurationUnits"), (27, .class_ 271), (1, u "java/time/Duration$1"), (91, u "BI_NANOS_PER_SECOND"), (0, u "Ljava/math/BigInteger;"), (120, .class_ 486), (0, u "java/lang/Comparable"), (0, .class_ 488), (0, u "java/io/Serializable"), (0, u "serialVersionUID")] 166

/-- java/time/Duration -/
def k27 : Class := { plain "java/time/Duration" (some 0) with
  accessFlags := 49
  interfaces := #[26, 3, 2]
  cf := some (fileOf pool27 11 #[.nestMembers #[269, 239, 79]] #[] 49 219 #[49, 485, 487] #[{ accessFlags := 25, nameIndex := 34, descriptorIndex := 35, attributes := #[] }, { accessFlags := 26, nameIndex := 489, descriptorIndex := 223, attributes := #[] }, { accessFlags := 26, nameIndex := 363, descriptorIndex := 364, attributes := #[] }, { accessFlags := 18, nameIndex := 117, descriptorIndex := 223, attributes := #[] }, { accessFlags := 18, nameIndex := 226, descriptorIndex := 227, attributes := #[] }])
  fields := #[{ name := "ZERO", type := (.object "java/time/Duration"), accessFlags := 25, slot := 0, constantValue := 0 }, { name := "serialVersionUID", type := .long, accessFlags := 26, slot := 1, constantValue := 0 }, { name := "BI_NANOS_PER_SECOND", type := (.object "java/math/BigInteger"), accessFlags := 26, slot := 2, constantValue := 0 }, { name := "seconds", type := .long, accessFlags := 18, slot := 0, constantValue := 0 }, { name := "nanos", type := .int, accessFlags := 18, slot := 1, constantValue := 0 }]
  methods := #[]
  instanceTypes := #[.long, .int]
  staticTypes := #[(.object "java/time/Duration"), .long, (.object "java/math/BigInteger")]
  resolved := Array.replicate 656 none
  statics := none }

def pool28 : Array CpInfo := pool [(4, .class_ 6), (1, u "java/lang/Object"), (0, u "<init>"), (0, u "()V"), (5, .class_ 16), (1, u "java/lang/StringLatin1"), (104, u "$assertionsDisabled"), (0, u "Z"), (98, .class_ 223), (1, u "java/lang/StringLatin1$LinesSpliterator"), (166, .class_ 391), (0, u "java/lang/StringLatin1$CharsSpliterator")] 3

def k28m0 : Method := { name := "<init>", desc := "()V", sig := { parameters := [], returnType := none }, accessFlags := 0, code := none }
/-- java/lang/StringLatin1 -/
def k28 : Class := { plain "java/lang/StringLatin1" (some 0) with
  accessFlags := 48
  interfaces := #[]
  cf := some (fileOf pool28 14 #[.nestMembers #[390, 221]] #[{ accessFlags := 0, nameIndex := 7, descriptorIndex := 8, attributes := #[] }] 48 4 #[] #[{ accessFlags := 4120, nameIndex := 121, descriptorIndex := 122, attributes := #[] }])
  fields := #[{ name := "$assertionsDisabled", type := .boolean, accessFlags := 4120, slot := 0, constantValue := 0 }]
  methods := #[k28m0]
  instanceTypes := #[]
  staticTypes := #[.boolean]
  resolved := Array.replicate 395 none
  statics := none }

def pool29 : Array CpInfo := pool [(9, u "<init>"), (6, .class_ 18), (1, u "java/lang/Object"), (0, u "()V"), (1, .class_ 23), (1, u "jdk/internal/util/ArraysSupport"), (0, u "LOG2_ARRAY_LONG_INDEX_SCALE"), (0, u "I"), (2, u "U"), (0, u "Ljdk/internal/misc/Unsafe;"), (8, u "BIG_ENDIAN"), (0, u "Z"), (8, u "LOG2_BYTE_BIT_SIZE"), (4, u "LOG2_ARRAY_INT_INDEX_SCALE"), (54, u "JLA"), (0, u "Ljdk/internal/access/JavaLangAccess;"), (11, u "LOG2_ARRAY_BOOLEAN_INDEX_SCALE"), (9, u "LOG2_ARRAY_BYTE_INDEX_SCALE"), (5, u "LOG2_ARRAY_CHAR_INDEX_SCALE"), (5, u "LOG2_ARRAY_SHORT_INDEX_SCALE"), (18, u "LOG2_ARRAY_FLOAT_INDEX_SCALE"), (24, u "LOG2_ARRAY_DOUBLE_INDEX_SCALE"), (89, u "T_BOOLEAN"), (2, u "T_CHAR"), (1, u "T_FLOAT"), (1, u "T_DOUBLE"), (1, u "T_BYTE"), (1, u "T_SHORT"), (1, u "T_INT"), (1, u "T_LONG"), (1, u "SOFT_MAX_ARRAY_LENGTH")] 83

def k29m0 : Method := { name := "<init>", desc := "()V", sig := { parameters := [], returnType := none }, accessFlags := 2, code := none }
/-- jdk/internal/util/ArraysSupport -/
def k29 : Class := { plain "jdk/internal/util/ArraysSupport" (some 0) with
  accessFlags := 33
  interfaces := #[]
  cf := some (fileOf pool29 21 #[] #[{ accessFlags := 2, nameIndex := 9, descriptorIndex := 19, attributes := #[] }] 33 16 #[] #[{ accessFlags := 24, nameIndex := 28, descriptorIndex := 29, attributes := #[] }, { accessFlags := 26, nameIndex := 38, descriptorIndex := 39, attributes := #[] }, { accessFlags := 25, nameIndex := 121, descriptorIndex := 25, attributes := #[] }, { accessFlags := 25, nameIndex := 131, descriptorIndex := 25, attributes := #[] }, { accessFlags := 25, nameIndex := 137, descriptorIndex := 25, attributes := #[] }, { accessFlags := 25, nameIndex := 143, descriptorIndex := 25, attributes := #[] }, { accessFlags := 25, nameIndex := 53, descriptorIndex := 25, attributes := #[] }, { accessFlags := 25, nameIndex := 24, descriptorIndex := 25, attributes := #[] }, { accessFlags := 25, nameIndex := 162, descriptorIndex := 25, attributes := #[] }, { accessFlags := 25, nameIndex := 187, descriptorIndex := 25, attributes := #[] }, { accessFlags := 26, nameIndex := 48, descriptorIndex := 25, attributes := #[] }, { accessFlags := 25, nameIndex := 277, descriptorIndex := 25, attributes := #[] }, { accessFlags := 25, nameIndex := 280, descriptorIndex := 25, attributes := #[] }, { accessFlags := 25, nameIndex := 282, descriptorIndex := 25, attributes := #[] }, { accessFlags := 25, nameIndex := 284, descriptorIndex := 25, attributes := #[] }, { accessFlags := 25, nameIndex := 286, descriptorIndex := 25, attributes := #[] }, { accessFlags := 25, nameIndex := 288, descriptorIndex := 25, attributes := #[] }, { accessFlags := 25, nameIndex := 290, descriptorIndex := 25, attributes := #[] }, { accessFlags := 25, nameIndex := 292, descriptorIndex := 25, attributes := #[] }, { accessFlags := 26, nameIndex := 108, descriptorIndex := 109, attributes := #[] }, { accessFlags := 25, nameIndex := 294, descriptorIndex := 25, attributes := #[] }])
  fields := #[{ name := "U", type := (.object "jdk/internal/misc/Unsafe"), accessFlags := 24, slot := 0, constantValue := 0 }, { name := "BIG_ENDIAN", type := .boolean, accessFlags := 26, slot := 1, constantValue := 0 }, { name := "LOG2_ARRAY_BOOLEAN_INDEX_SCALE", type := .int, accessFlags := 25, slot := 2, constantValue := 0 }, { name := "LOG2_ARRAY_BYTE_INDEX_SCALE", type := .int, accessFlags := 25, slot := 3, constantValue := 0 }, { name := "LOG2_ARRAY_CHAR_INDEX_SCALE", type := .int, accessFlags := 25, slot := 4, constantValue := 0 }, { name := "LOG2_ARRAY_SHORT_INDEX_SCALE", type := .int, accessFlags := 25, slot := 5, constantValue := 0 }, { name := "LOG2_ARRAY_INT_INDEX_SCALE", type := .int, accessFlags := 25, slot := 6, constantValue := 0 }, { name := "LOG2_ARRAY_LONG_INDEX_SCALE", type := .int, accessFlags := 25, slot := 7, constantValue := 0 }, { name := "LOG2_ARRAY_FLOAT_INDEX_SCALE", type := .int, accessFlags := 25, slot := 8, constantValue := 0 }, { name := "LOG2_ARRAY_DOUBLE_INDEX_SCALE", type := .int, accessFlags := 25, slot := 9, constantValue := 0 }, { name := "LOG2_BYTE_BIT_SIZE", type := .int, accessFlags := 26, slot := 10, constantValue := 0 }, { name := "T_BOOLEAN", type := .int, accessFlags := 25, slot := 11, constantValue := 0 }, { name := "T_CHAR", type := .int, accessFlags := 25, slot := 12, constantValue := 0 }, { name := "T_FLOAT", type := .int, accessFlags := 25, slot := 13, constantValue := 0 }, { name := "T_DOUBLE", type := .int, accessFlags := 25, slot := 14, constantValue := 0 }, { name := "T_BYTE", type := .int, accessFlags := 25, slot := 15, constantValue := 0 }, { name := "T_SHORT", type := .int, accessFlags := 25, slot := 16, constantValue := 0 }, { name := "T_INT", type := .int, accessFlags := 25, slot := 17, constantValue := 0 }, { name := "T_LONG", type := .int, accessFlags := 25, slot := 18, constantValue := 0 }, { name := "JLA", type := (.object "jdk/internal/access/JavaLangAccess"), accessFlags := 26, slot := 19, constantValue := 0 }, { name := "SOFT_MAX_ARRAY_LENGTH", type := .int, accessFlags := 25, slot := 20, constantValue := 0 }]
  methods := #[k29m0]
  instanceTypes := #[]
  staticTypes := #[(.object "jdk/internal/misc/Unsafe"), .boolean, .int, .int, .int, .int, .int, .int, .int, .int, .int, .int, .int, .int, .int, .int, .int, .int, .int, (.object "jdk/internal/access/JavaLangAccess"), .int]
  resolved := Array.replicate 378 none
  statics := none }

def pool30 : Array CpInfo := pool [(1, u "java/lang/Cloneable"), (0, .class_ 1), (0, u "java/lang/Object"), (0, .class_ 3)] 3

/-- java/lang/Cloneable -/
def k30 : Class := { plain "java/lang/Cloneable" (some 0) with
  accessFlags := 1537
  interfaces := #[]
  cf := some (fileOf pool30 2 #[] #[] 1537 4 #[] #[])
  fields := #[]
  methods := #[]
  instanceTypes := #[]
  staticTypes := #[]
  resolved := Array.replicate 8 none
  statics := none }

/-- the primitive byte -/
def k31 : Class := { plain "byte" none with kind := .primitive 'B', accessFlags := 0x411 }
/-- [B -/
def k32 : Class := { plain "[B" (some 0) with kind := .array 31 .byte, interfaces := #[30, 2], accessFlags := 1041 }

/-- the primitive char -/
def k33 : Class := { plain "char" none with kind := .primitive 'C', accessFlags := 0x411 }
/-- [C -/
def k34 : Class := { plain "[C" (some 0) with kind := .array 33 .char, interfaces := #[30, 2], accessFlags := 1041 }

/-- the primitive int -/
def k35 : Class := { plain "int" none with kind := .primitive 'I', accessFlags := 0x411 }
/-- [I -/
def k36 : Class := { plain "[I" (some 0) with kind := .array 35 .int, interfaces := #[30, 2], accessFlags := 1041 }

def heap : Heap := #[{ cls := 7, slots := #[.long 0, .int 1, .null, .int 0, .null, .int 0, .int 0], vm := .statics 7 },
  { cls := 17, slots := #[.null, .null, .null, .null, .null, .null, .null, .null, .null, .null, .null, .null, .null, .null, .null, .null, .null, .null, .ref 17, .null, .ref 18, .null, .null, .ref 16, .null, .null, .ref 15, .null, .null, .null, .null], vm := .statics 17 },
  { cls := 21, slots := #[.ref 21, .long 0, .long 0], vm := .statics 21 },
  { cls := 24, slots := #[.null, .null, .null, .null, .null, .null, .null, .ref 10, .null, .ref 9, .ref 7, .null, .null, .null, .null, .ref 8, .null], vm := .statics 24 },
  { cls := 25, slots := #[.null, .null, .null], vm := .statics 25 },
  { cls := 7, slots := #[.null, .int 0, .int 0, .int 0], vm := .none },
  { cls := 27, slots := #[.long 0, .int 0], vm := .none },
  { cls := 24, slots := #[.ref 5, .int 10, .int 0, .ref 5, .ref 6], vm := .none },
  { cls := 24, slots := #[.ref 5, .int 15, .int 0, .ref 5, .ref 6], vm := .none },
  { cls := 24, slots := #[.ref 5, .int 9, .int 0, .ref 5, .ref 6], vm := .none },
  { cls := 24, slots := #[.ref 5, .int 7, .int 0, .ref 5, .ref 6], vm := .none },
  { cls := 18, slots := #[.long (-999999999), .long (-999999999), .long 999999999, .long 999999999], vm := .none },
  { cls := 18, slots := #[.long 1, .long 1, .long 12, .long 12], vm := .none },
  { cls := 18, slots := #[.long 1, .long 1, .long 28, .long 31], vm := .none },
  { cls := 18, slots := #[.long (-365243219162), .long (-365243219162), .long 365241780471, .long 365241780471], vm := .none },
  { cls := 17, slots := #[.ref 5, .int 26, .int 0, .ref 5, .ref 7, .ref 8, .ref 11, .ref 5], vm := .none },
  { cls := 17, slots := #[.ref 5, .int 23, .int 0, .ref 5, .ref 9, .ref 7, .ref 12, .ref 5], vm := .none },
  { cls := 17, slots := #[.ref 5, .int 18, .int 0, .ref 5, .ref 10, .ref 9, .ref 13, .ref 5], vm := .none },
  { cls := 17, slots := #[.ref 5, .int 20, .int 0, .ref 5, .ref 10, .ref 8, .ref 14, .null], vm := .none },
  { cls := 28, slots := #[], vm := .none },
  { cls := 29, slots := #[], vm := .none },
  { cls := 21, slots := #[], vm := .none }]
def classes : Array Class := #[k0, k1, k2, k3, k4, k5, k6, k7, k8, k9, k10, k11, k12, k13, k14, k15, k16, k17, k18, k19, k20, k21, k22, k23, k24, k25, k26, k27, k28, k29, k30, k31, k32, k33, k34, k35, k36]
def interned : List (Array UInt16 × Addr) := []
def slotsUsed : Nat := 135
def theMethod : MethodId := ⟨1, 1⟩
def args0 : Array Value := #[.int 37, .int 7, .int 1, .int 2]
def aboutOver (below : List Frame) : State where
  vm := { classes := classes, interned := interned.toArray }
  heap := heap
  slotsUsed := slotsUsed
  threads := #[{ frames := .invoking theMethod args0 :: below }]
def below0 : List Frame := [.native { method := ⟨0, 0⟩, args := #[] }]
def about1 : State := aboutOver below0
def p0 : Program := .bare "" "" ""
def e0 : Env := launch0.env 0 0 0
theorem w_frames : about1.frames = Frame.invoking theMethod args0 :: below0 := rfl
set_option maxRecDepth 65536 in
theorem w_args : argsFit about1.vm theMethod args0 = true := by decide +kernel
set_option maxRecDepth 65536 in
theorem w_heap : heapFits about1 = true := by decide +kernel
set_option maxRecDepth 65536 in
theorem w_runnable : about1.curStatus? = some .runnable := by decide +kernel
set_option maxRecDepth 65536 in
theorem w_alone : about1.alone = true := by decide +kernel
set_option maxRecDepth 65536 in
theorem w_named : about1.methodNamed? x = some theMethod := by decide +kernel
set_option maxRecDepth 65536 in
theorem w_hears : about1.hears theMethod below0 = true := by decide +kernel
set_option maxRecDepth 65536 in
theorem w_ripe : about1.ripe theMethod args0 below0 = true := by decide +kernel
theorem w_running : about1.status = .running := rfl
set_option maxRecDepth 65536 in
theorem w_room : about1.hasRoom e0.platform room_1 = true :=
  launch0.hasRoom_least _ room_1 (by decide +kernel) (by decide +kernel) (by decide +kernel) (by decide +kernel) (by decide +kernel) (by decide +kernel)
theorem allAtoms_all (ts : List Jvm.Cond) (a : Array Jvm.Value) (st : Jvm.State) : (allAtoms ts).before a st = ts.all (fun c => c.before a st) := by
  induction ts with
  | nil => rfl
  | cons c t ih =>
    show (Jvm.Cond.and c (allAtoms t)).before a st = _
    rw [Jvm.Cond.before_and, ih, List.all_cons]
def words1 : List Jvm.Cond := Jvm.Cond.code x code maxLocals ret :: tables_1
/-- a 'code' word, met by the world's own term for the bytes: nothing is compared byte by byte -/
theorem code_word {y : MethodName} {bytes : ByteArray} {mx : Nat} {rt : Option FieldType} {a : Array Value} {s : State} {m : MethodId} {meth : Method} {c : Code} (h1 : s.methodNamed? y = some m) (h2 : s.vm.method? m = some meth) (h3 : meth.code = some c) (h4 : c.code = bytes)
    (h5 : (c.maxLocals == mx && c.exceptionTable.isEmpty && decide (c.maxStack ≤ mostOperands) && decide (meth.sig.returnType = rt) && !meth.locks && decide (parseMethodDescriptor y.desc = some meth.sig)) = true) : (Jvm.Cond.code y bytes mx rt).before a s = true := by
  simp only [Bool.and_eq_true, beq_iff_eq, Bool.not_eq_true', decide_eq_true_eq] at h5
  obtain ⟨⟨⟨⟨⟨g1, g2⟩, g3⟩, g4⟩, g5⟩, g6⟩ := h5
  simp [Cond.before, Cond.holds, Cond.value, h1, h2, h3, h4, g1, g2, g3, g4, g5, g6]
def isCode : Jvm.Cond → Bool
  | .code _ _ _ _ => true
  | _ => false
theorem all_split {L : List Jvm.Cond} {P : Jvm.Cond → Bool} (h1 : L.all (fun c => isCode c || P c) = true) (h2 : ∀ c ∈ L.filter isCode, P c = true) : L.all P = true := by
  refine List.all_eq_true.mpr fun c hc => ?_
  have h := List.all_eq_true.mp h1 c hc
  rcases Bool.eq_false_or_eq_true (isCode c) with hi | hi
  · exact h2 c (List.mem_filter.mpr ⟨hc, hi⟩)
  · simpa [hi] using h
set_option maxRecDepth 65536 in
theorem w_c0 : (Jvm.Cond.code x code maxLocals ret).before args0 about1 = true := code_word (m := ⟨1, 1⟩) (meth := k1m1) (c := k1c1) (by decide +kernel) rfl rfl rfl (by decide +kernel)
set_option maxRecDepth 65536 in
theorem w_c1 : (Jvm.Cond.code ({ cls := "java/lang/String", name := "<init>", desc := "([C)V" } : Jvm.MethodName) jdk_42_method_3_code (2 : Nat) (Option.none : Option Jvm.ClassFile.FieldType)).before args0 about1 = true := code_word (m := ⟨7, 1⟩) (meth := k7m1) (c := k7c1) (by decide +kernel) rfl rfl rfl (by decide +kernel)
set_option maxRecDepth 65536 in
theorem w_c2 : (Jvm.Cond.code ({ cls := "java/lang/String", name := "<init>", desc := "([CIILjava/lang/Void;)V" } : Jvm.MethodName) jdk_42_method_149_code (6 : Nat) (Option.none : Option Jvm.ClassFile.FieldType)).before args0 about1 = true := code_word (m := ⟨7, 3⟩) (meth := k7m3) (c := k7c3) (by decide +kernel) rfl rfl rfl (by decide +kernel)
set_option maxRecDepth 65536 in
theorem w_c3 : (Jvm.Cond.code ({ cls := "java/lang/Object", name := "<init>", desc := "()V" } : Jvm.MethodName) object_method_1_code (1 : Nat) (Option.none : Option Jvm.ClassFile.FieldType)).before args0 about1 = true := code_word (m := ⟨0, 0⟩) (meth := k0m0) (c := k0c0) (by decide +kernel) rfl rfl rfl (by decide +kernel)
set_option maxRecDepth 65536 in
theorem w_c4 : (Jvm.Cond.code ({ cls := "java/lang/StringUTF16", name := "compress", desc := "([CII)[B" } : Jvm.MethodName) jdk_52_method_16_code (6 : Nat) (Option.some (Jvm.ClassFile.FieldType.array Jvm.ClassFile.FieldType.byte))).before args0 about1 = true := code_word (m := ⟨8, 2⟩) (meth := k8m2) (c := k8c2) (by decide +kernel) rfl rfl rfl (by decide +kernel)
set_option maxRecDepth 65536 in
theorem w_c5 : (Jvm.Cond.code ({ cls := "java/lang/StringUTF16", name := "compress", desc := "([CI[BII)I" } : Jvm.MethodName) jdk_52_method_21_code (7 : Nat) (Option.some Jvm.ClassFile.FieldType.int)).before args0 about1 = true := code_word (m := ⟨8, 3⟩) (meth := k8m3) (c := k8c3) (by decide +kernel) rfl rfl rfl (by decide +kernel)
set_option maxRecDepth 65536 in
theorem w_c6 : (Jvm.Cond.code ({ cls := "java/lang/StringUTF16", name := "coderFromArrayLen", desc := "([BI)B" } : Jvm.MethodName) jdk_52_method_15_code (2 : Nat) (Option.some Jvm.ClassFile.FieldType.byte)).before args0 about1 = true := code_word (m := ⟨8, 1⟩) (meth := k8m1) (c := k8c1) (by decide +kernel) rfl rfl rfl (by decide +kernel)
set_option maxRecDepth 65536 in
theorem w_c7 : (Jvm.Cond.code ({ cls := "com/example/diligent_tariff/diligenttariff/book/Holiday", name := "fromEaster", desc := "(Ljava/lang/String;I)Lcom/example/diligent_tariff/diligenttariff/book/Holiday;" } : Jvm.MethodName) prog_25_method_4_code (2 : Nat) (Option.some (Jvm.ClassFile.FieldType.object "com/example/diligent_tariff/diligenttariff/book/Holiday"))).before args0 about1 = true := code_word (m := ⟨9, 1⟩) (meth := k9m1) (c := k9c1) (by decide +kernel) rfl rfl rfl (by decide +kernel)
set_option maxRecDepth 65536 in
theorem w_c8 : (Jvm.Cond.code ({ cls := "com/example/diligent_tariff/diligenttariff/book/Holiday", name := "<init>", desc := "(Ljava/lang/String;Ljava/time/Month;ILjava/time/DayOfWeek;II)V" } : Jvm.MethodName) prog_25_method_1_code (7 : Nat) (Option.none : Option Jvm.ClassFile.FieldType)).before args0 about1 = true := code_word (m := ⟨9, 0⟩) (meth := k9m0) (c := k9c0) (by decide +kernel) rfl rfl rfl (by decide +kernel)
set_option maxRecDepth 65536 in
theorem w_c9 : (Jvm.Cond.code ({ cls := "com/example/diligent_tariff/diligenttariff/book/Holiday", name := "in", desc := "(I)Ljava/time/LocalDate;" } : Jvm.MethodName) prog_25_method_6_code (3 : Nat) (Option.some (Jvm.ClassFile.FieldType.object "java/time/LocalDate"))).before args0 about1 = true := code_word (m := ⟨9, 3⟩) (meth := k9m3) (c := k9c3) (by decide +kernel) rfl rfl rfl (by decide +kernel)
set_option maxRecDepth 65536 in
theorem w_c10 : (Jvm.Cond.code ({ cls := "com/example/diligent_tariff/diligenttariff/book/Holiday", name := "easter", desc := "(I)Ljava/time/LocalDate;" } : Jvm.MethodName) prog_25_method_7_code (14 : Nat) (Option.some (Jvm.ClassFile.FieldType.object "java/time/LocalDate"))).before args0 about1 = true := code_word (m := ⟨9, 4⟩) (meth := k9m4) (c := k9c4) (by decide +kernel) rfl rfl rfl (by decide +kernel)
set_option maxRecDepth 65536 in
theorem w_c11 : (Jvm.Cond.code ({ cls := "java/time/LocalDate", name := "of", desc := "(III)Ljava/time/LocalDate;" } : Jvm.MethodName) jdk_2323_method_5_code (3 : Nat) (Option.some (Jvm.ClassFile.FieldType.object "java/time/LocalDate"))).before args0 about1 = true := code_word (m := ⟨14, 0⟩) (meth := k14m0) (c := k14c0) (by decide +kernel) rfl rfl rfl (by decide +kernel)
set_option maxRecDepth 65536 in
theorem w_c12 : (Jvm.Cond.code ({ cls := "java/time/temporal/ChronoField", name := "checkValidValue", desc := "(J)J" } : Jvm.MethodName) jdk_2395_method_11_code (3 : Nat) (Option.some Jvm.ClassFile.FieldType.long)).before args0 about1 = true := code_word (m := ⟨17, 1⟩) (meth := k17m1) (c := k17c1) (by decide +kernel) rfl rfl rfl (by decide +kernel)
set_option maxRecDepth 65536 in
theorem w_c13 : (Jvm.Cond.code ({ cls := "java/time/temporal/ChronoField", name := "range", desc := "()Ljava/time/temporal/ValueRange;" } : Jvm.MethodName) jdk_2395_method_8_code (1 : Nat) (Option.some (Jvm.ClassFile.FieldType.object "java/time/temporal/ValueRange"))).before args0 about1 = true := code_word (m := ⟨17, 0⟩) (meth := k17m0) (c := k17c0) (by decide +kernel) rfl rfl rfl (by decide +kernel)
set_option maxRecDepth 65536 in
theorem w_c14 : (Jvm.Cond.code ({ cls := "java/time/temporal/ValueRange", name := "checkValidValue", desc := "(JLjava/time/temporal/TemporalField;)J" } : Jvm.MethodName) jdk_2423_method_13_code (4 : Nat) (Option.some Jvm.ClassFile.FieldType.long)).before args0 about1 = true := code_word (m := ⟨18, 3⟩) (meth := k18m3) (c := k18c3) (by decide +kernel) rfl rfl rfl (by decide +kernel)
set_option maxRecDepth 65536 in
theorem w_c15 : (Jvm.Cond.code ({ cls := "java/time/temporal/ValueRange", name := "isValidValue", desc := "(J)Z" } : Jvm.MethodName) jdk_2423_method_11_code (3 : Nat) (Option.some Jvm.ClassFile.FieldType.boolean)).before args0 about1 = true := code_word (m := ⟨18, 2⟩) (meth := k18m2) (c := k18c2) (by decide +kernel) rfl rfl rfl (by decide +kernel)
set_option maxRecDepth 65536 in
theorem w_c16 : (Jvm.Cond.code ({ cls := "java/time/temporal/ValueRange", name := "getMinimum", desc := "()J" } : Jvm.MethodName) jdk_2423_method_6_code (1 : Nat) (Option.some Jvm.ClassFile.FieldType.long)).before args0 about1 = true := code_word (m := ⟨18, 0⟩) (meth := k18m0) (c := k18c0) (by decide +kernel) rfl rfl rfl (by decide +kernel)
set_option maxRecDepth 65536 in
theorem w_c17 : (Jvm.Cond.code ({ cls := "java/time/temporal/ValueRange", name := "getMaximum", desc := "()J" } : Jvm.MethodName) jdk_2423_method_9_code (1 : Nat) (Option.some Jvm.ClassFile.FieldType.long)).before args0 about1 = true := code_word (m := ⟨18, 1⟩) (meth := k18m1) (c := k18c1) (by decide +kernel) rfl rfl rfl (by decide +kernel)
set_option maxRecDepth 65536 in
theorem w_c18 : (Jvm.Cond.code ({ cls := "java/time/LocalDate", name := "create", desc := "(III)Ljava/time/LocalDate;" } : Jvm.MethodName) jdk_2323_method_12_code (4 : Nat) (Option.some (Jvm.ClassFile.FieldType.object "java/time/LocalDate"))).before args0 about1 = true := code_word (m := ⟨14, 2⟩) (meth := k14m2) (c := k14c2) (by decide +kernel) rfl rfl rfl (by decide +kernel)
set_option maxRecDepth 65536 in
theorem w_c19 : (Jvm.Cond.code ({ cls := "java/time/LocalDate", name := "<init>", desc := "(III)V" } : Jvm.MethodName) jdk_2323_method_14_code (4 : Nat) (Option.none : Option Jvm.ClassFile.FieldType)).before args0 about1 = true := code_word (m := ⟨14, 3⟩) (meth := k14m3) (c := k14c3) (by decide +kernel) rfl rfl rfl (by decide +kernel)
set_option maxRecDepth 65536 in
theorem w_c20 : (Jvm.Cond.code ({ cls := "java/time/LocalDate", name := "plusDays", desc := "(J)Ljava/time/LocalDate;" } : Jvm.MethodName) jdk_2323_method_44_code (7 : Nat) (Option.some (Jvm.ClassFile.FieldType.object "java/time/LocalDate"))).before args0 about1 = true := code_word (m := ⟨14, 9⟩) (meth := k14m9) (c := k14c9) (by decide +kernel) rfl rfl rfl (by decide +kernel)
set_option maxRecDepth 65536 in
theorem w_c21 : (Jvm.Cond.code ({ cls := "java/time/LocalDate", name := "toEpochDay", desc := "()J" } : Jvm.MethodName) jdk_2323_method_67_code (7 : Nat) (Option.some Jvm.ClassFile.FieldType.long)).before args0 about1 = true := code_word (m := ⟨14, 10⟩) (meth := k14m10) (c := k14c10) (by decide +kernel) rfl rfl rfl (by decide +kernel)
set_option maxRecDepth 65536 in
theorem w_c22 : (Jvm.Cond.code ({ cls := "java/time/LocalDate", name := "isLeapYear", desc := "()Z" } : Jvm.MethodName) jdk_2323_method_30_code (1 : Nat) (Option.some Jvm.ClassFile.FieldType.boolean)).before args0 about1 = true := code_word (m := ⟨14, 7⟩) (meth := k14m7) (c := k14c7) (by decide +kernel) rfl rfl rfl (by decide +kernel)
set_option maxRecDepth 65536 in
theorem w_c23 : (Jvm.Cond.code ({ cls := "java/time/chrono/IsoChronology", name := "isLeapYear", desc := "(J)Z" } : Jvm.MethodName) jdk_2369_method_18_code (3 : Nat) (Option.some Jvm.ClassFile.FieldType.boolean)).before args0 about1 = true := code_word (m := ⟨21, 1⟩) (meth := k21m1) (c := k21c1) (by decide +kernel) rfl rfl rfl (by decide +kernel)
set_option maxRecDepth 65536 in
theorem w_c24 : (Jvm.Cond.code ({ cls := "java/time/LocalDate", name := "getMonthValue", desc := "()I" } : Jvm.MethodName) jdk_2323_method_25_code (1 : Nat) (Option.some Jvm.ClassFile.FieldType.int)).before args0 about1 = true := code_word (m := ⟨14, 5⟩) (meth := k14m5) (c := k14c5) (by decide +kernel) rfl rfl rfl (by decide +kernel)
set_option maxRecDepth 65536 in
theorem w_c25 : (Jvm.Cond.code ({ cls := "java/time/LocalDate", name := "getDayOfMonth", desc := "()I" } : Jvm.MethodName) jdk_2323_method_27_code (1 : Nat) (Option.some Jvm.ClassFile.FieldType.int)).before args0 about1 = true := code_word (m := ⟨14, 6⟩) (meth := k14m6) (c := k14c6) (by decide +kernel) rfl rfl rfl (by decide +kernel)
set_option maxRecDepth 65536 in
theorem w_c26 : (Jvm.Cond.code ({ cls := "java/time/LocalDate", name := "getYear", desc := "()I" } : Jvm.MethodName) jdk_2323_method_24_code (1 : Nat) (Option.some Jvm.ClassFile.FieldType.int)).before args0 about1 = true := code_word (m := ⟨14, 4⟩) (meth := k14m4) (c := k14c4) (by decide +kernel) rfl rfl rfl (by decide +kernel)
set_option maxRecDepth 65536 in
theorem w_c27 : (Jvm.Cond.code ({ cls := "com/example/diligent_tariff/diligenttariff/book/Holiday", name := "getName", desc := "()Ljava/lang/String;" } : Jvm.MethodName) prog_25_method_5_code (1 : Nat) (Option.some (Jvm.ClassFile.FieldType.object "java/lang/String"))).before args0 about1 = true := code_word (m := ⟨9, 2⟩) (meth := k9m2) (c := k9c2) (by decide +kernel) rfl rfl rfl (by decide +kernel)
set_option maxRecDepth 65536 in
theorem w_c28 : (Jvm.Cond.code ({ cls := "java/lang/String", name := "equals", desc := "(Ljava/lang/Object;)Z" } : Jvm.MethodName) jdk_42_method_66_code (3 : Nat) (Option.some Jvm.ClassFile.FieldType.boolean)).before args0 about1 = true := code_word (m := ⟨7, 2⟩) (meth := k7m2) (c := k7c2) (by decide +kernel) rfl rfl rfl (by decide +kernel)
set_option maxRecDepth 65536 in
theorem w_c29 : (Jvm.Cond.code ({ cls := "java/time/LocalDate", name := "lengthOfMonth", desc := "()I" } : Jvm.MethodName) jdk_2323_method_31_code (1 : Nat) (Option.some Jvm.ClassFile.FieldType.int)).before args0 about1 = true := code_word (m := ⟨14, 8⟩) (meth := k14m8) (c := k14c8) (by decide +kernel) rfl rfl rfl (by decide +kernel)
set_option maxRecDepth 65536 in
theorem w_c30 : (Jvm.Cond.code ({ cls := "java/lang/Math", name := "addExact", desc := "(JJ)J" } : Jvm.MethodName) jdk_29_method_25_code (6 : Nat) (Option.some Jvm.ClassFile.FieldType.long)).before args0 about1 = true := code_word (m := ⟨22, 1⟩) (meth := k22m1) (c := k22c1) (by decide +kernel) rfl rfl rfl (by decide +kernel)
set_option maxRecDepth 65536 in
theorem w_c31 : (Jvm.Cond.code ({ cls := "java/time/LocalDate", name := "ofEpochDay", desc := "(J)Ljava/time/LocalDate;" } : Jvm.MethodName) jdk_2323_method_8_code (14 : Nat) (Option.some (Jvm.ClassFile.FieldType.object "java/time/LocalDate"))).before args0 about1 = true := code_word (m := ⟨14, 1⟩) (meth := k14m1) (c := k14c1) (by decide +kernel) rfl rfl rfl (by decide +kernel)
def codes1 : List Jvm.Cond := [Jvm.Cond.code x code maxLocals ret, Jvm.Cond.code ({ cls := "java/lang/String", name := "<init>", desc := "([C)V" } : Jvm.MethodName) jdk_42_method_3_code (2 : Nat) (Option.none : Option Jvm.ClassFile.FieldType), Jvm.Cond.code ({ cls := "java/lang/String", name := "<init>", desc := "([CIILjava/lang/Void;)V" } : Jvm.MethodName) jdk_42_method_149_code (6 : Nat) (Option.none : Option Jvm.ClassFile.FieldType), Jvm.Cond.code ({ cls := "java/lang/Object", name := "<init>", desc := "()V" } : Jvm.MethodName) object_method_1_code (1 : Nat) (Option.none : Option Jvm.ClassFile.FieldType), Jvm.Cond.code ({ cls := "java/lang/StringUTF16", name := "compress", desc := "([CII)[B" } : Jvm.MethodName) jdk_52_method_16_code (6 : Nat) (Option.some (Jvm.ClassFile.FieldType.array Jvm.ClassFile.FieldType.byte)), Jvm.Cond.code ({ cls := "java/lang/StringUTF16", name := "compress", desc := "([CI[BII)I" } : Jvm.MethodName) jdk_52_method_21_code (7 : Nat) (Option.some Jvm.ClassFile.FieldType.int), Jvm.Cond.code ({ cls := "java/lang/StringUTF16", name := "coderFromArrayLen", desc := "([BI)B" } : Jvm.MethodName) jdk_52_method_15_code (2 : Nat) (Option.some Jvm.ClassFile.FieldType.byte), Jvm.Cond.code ({ cls := "com/example/diligent_tariff/diligenttariff/book/Holiday", name := "fromEaster", desc := "(Ljava/lang/String;I)Lcom/example/diligent_tariff/diligenttariff/book/Holiday;" } : Jvm.MethodName) prog_25_method_4_code (2 : Nat) (Option.some (Jvm.ClassFile.FieldType.object "com/example/diligent_tariff/diligenttariff/book/Holiday")), Jvm.Cond.code ({ cls := "com/example/diligent_tariff/diligenttariff/book/Holiday", name := "<init>", desc := "(Ljava/lang/String;Ljava/time/Month;ILjava/time/DayOfWeek;II)V" } : Jvm.MethodName) prog_25_method_1_code (7 : Nat) (Option.none : Option Jvm.ClassFile.FieldType), Jvm.Cond.code ({ cls := "com/example/diligent_tariff/diligenttariff/book/Holiday", name := "in", desc := "(I)Ljava/time/LocalDate;" } : Jvm.MethodName) prog_25_method_6_code (3 : Nat) (Option.some (Jvm.ClassFile.FieldType.object "java/time/LocalDate")), Jvm.Cond.code ({ cls := "com/example/diligent_tariff/diligenttariff/book/Holiday", name := "easter", desc := "(I)Ljava/time/LocalDate;" } : Jvm.MethodName) prog_25_method_7_code (14 : Nat) (Option.some (Jvm.ClassFile.FieldType.object "java/time/LocalDate")), Jvm.Cond.code ({ cls := "java/time/LocalDate", name := "of", desc := "(III)Ljava/time/LocalDate;" } : Jvm.MethodName) jdk_2323_method_5_code (3 : Nat) (Option.some (Jvm.ClassFile.FieldType.object "java/time/LocalDate")), Jvm.Cond.code ({ cls := "java/time/temporal/ChronoField", name := "checkValidValue", desc := "(J)J" } : Jvm.MethodName) jdk_2395_method_11_code (3 : Nat) (Option.some Jvm.ClassFile.FieldType.long), Jvm.Cond.code ({ cls := "java/time/temporal/ChronoField", name := "range", desc := "()Ljava/time/temporal/ValueRange;" } : Jvm.MethodName) jdk_2395_method_8_code (1 : Nat) (Option.some (Jvm.ClassFile.FieldType.object "java/time/temporal/ValueRange")), Jvm.Cond.code ({ cls := "java/time/temporal/ValueRange", name := "checkValidValue", desc := "(JLjava/time/temporal/TemporalField;)J" } : Jvm.MethodName) jdk_2423_method_13_code (4 : Nat) (Option.some Jvm.ClassFile.FieldType.long), Jvm.Cond.code ({ cls := "java/time/temporal/ValueRange", name := "isValidValue", desc := "(J)Z" } : Jvm.MethodName) jdk_2423_method_11_code (3 : Nat) (Option.some Jvm.ClassFile.FieldType.boolean), Jvm.Cond.code ({ cls := "java/time/temporal/ValueRange", name := "getMinimum", desc := "()J" } : Jvm.MethodName) jdk_2423_method_6_code (1 : Nat) (Option.some Jvm.ClassFile.FieldType.long), Jvm.Cond.code ({ cls := "java/time/temporal/ValueRange", name := "getMaximum", desc := "()J" } : Jvm.MethodName) jdk_2423_method_9_code (1 : Nat) (Option.some Jvm.ClassFile.FieldType.long), Jvm.Cond.code ({ cls := "java/time/LocalDate", name := "create", desc := "(III)Ljava/time/LocalDate;" } : Jvm.MethodName) jdk_2323_method_12_code (4 : Nat) (Option.some (Jvm.ClassFile.FieldType.object "java/time/LocalDate")), Jvm.Cond.code ({ cls := "java/time/LocalDate", name := "<init>", desc := "(III)V" } : Jvm.MethodName) jdk_2323_method_14_code (4 : Nat) (Option.none : Option Jvm.ClassFile.FieldType), Jvm.Cond.code ({ cls := "java/time/LocalDate", name := "plusDays", desc := "(J)Ljava/time/LocalDate;" } : Jvm.MethodName) jdk_2323_method_44_code (7 : Nat) (Option.some (Jvm.ClassFile.FieldType.object "java/time/LocalDate")), Jvm.Cond.code ({ cls := "java/time/LocalDate", name := "toEpochDay", desc := "()J" } : Jvm.MethodName) jdk_2323_method_67_code (7 : Nat) (Option.some Jvm.ClassFile.FieldType.long), Jvm.Cond.code ({ cls := "java/time/LocalDate", name := "isLeapYear", desc := "()Z" } : Jvm.MethodName) jdk_2323_method_30_code (1 : Nat) (Option.some Jvm.ClassFile.FieldType.boolean), Jvm.Cond.code ({ cls := "java/time/chrono/IsoChronology", name := "isLeapYear", desc := "(J)Z" } : Jvm.MethodName) jdk_2369_method_18_code (3 : Nat) (Option.some Jvm.ClassFile.FieldType.boolean), Jvm.Cond.code ({ cls := "java/time/LocalDate", name := "getMonthValue", desc := "()I" } : Jvm.MethodName) jdk_2323_method_25_code (1 : Nat) (Option.some Jvm.ClassFile.FieldType.int), Jvm.Cond.code ({ cls := "java/time/LocalDate", name := "getDayOfMonth", desc := "()I" } : Jvm.MethodName) jdk_2323_method_27_code (1 : Nat) (Option.some Jvm.ClassFile.FieldType.int), Jvm.Cond.code ({ cls := "java/time/LocalDate", name := "getYear", desc := "()I" } : Jvm.MethodName) jdk_2323_method_24_code (1 : Nat) (Option.some Jvm.ClassFile.FieldType.int), Jvm.Cond.code ({ cls := "com/example/diligent_tariff/diligenttariff/book/Holiday", name := "getName", desc := "()Ljava/lang/String;" } : Jvm.MethodName) prog_25_method_5_code (1 : Nat) (Option.some (Jvm.ClassFile.FieldType.object "java/lang/String")), Jvm.Cond.code ({ cls := "java/lang/String", name := "equals", desc := "(Ljava/lang/Object;)Z" } : Jvm.MethodName) jdk_42_method_66_code (3 : Nat) (Option.some Jvm.ClassFile.FieldType.boolean), Jvm.Cond.code ({ cls := "java/time/LocalDate", name := "lengthOfMonth", desc := "()I" } : Jvm.MethodName) jdk_2323_method_31_code (1 : Nat) (Option.some Jvm.ClassFile.FieldType.int), Jvm.Cond.code ({ cls := "java/lang/Math", name := "addExact", desc := "(JJ)J" } : Jvm.MethodName) jdk_29_method_25_code (6 : Nat) (Option.some Jvm.ClassFile.FieldType.long), Jvm.Cond.code ({ cls := "java/time/LocalDate", name := "ofEpochDay", desc := "(J)Ljava/time/LocalDate;" } : Jvm.MethodName) jdk_2323_method_8_code (14 : Nat) (Option.some (Jvm.ClassFile.FieldType.object "java/time/LocalDate"))]
set_option maxRecDepth 65536 in
theorem codes_eq : words1.filter isCode = codes1 := rfl
theorem w_codes : ∀ c ∈ words1.filter isCode, c.before args0 about1 = true := by
  rw [codes_eq]
  intro c hc
  simp only [codes1, List.mem_cons, List.not_mem_nil, or_false] at hc
  rcases hc with rfl | rfl | rfl | rfl | rfl | rfl | rfl | rfl | rfl | rfl | rfl | rfl | rfl | rfl | rfl | rfl | rfl | rfl | rfl | rfl | rfl | rfl | rfl | rfl | rfl | rfl | rfl | rfl | rfl | rfl | rfl | rfl
  · exact w_c0
  · exact w_c1
  · exact w_c2
  · exact w_c3
  · exact w_c4
  · exact w_c5
  · exact w_c6
  · exact w_c7
  · exact w_c8
  · exact w_c9
  · exact w_c10
  · exact w_c11
  · exact w_c12
  · exact w_c13
  · exact w_c14
  · exact w_c15
  · exact w_c16
  · exact w_c17
  · exact w_c18
  · exact w_c19
  · exact w_c20
  · exact w_c21
  · exact w_c22
  · exact w_c23
  · exact w_c24
  · exact w_c25
  · exact w_c26
  · exact w_c27
  · exact w_c28
  · exact w_c29
  · exact w_c30
  · exact w_c31
set_option maxRecDepth 65536 in
theorem w_t1 : (words1.take 24).all (fun c => isCode c || c.before args0 about1) = true := by decide +kernel
set_option maxRecDepth 65536 in
theorem w_t2 : ((words1.drop 24).take 24).all (fun c => isCode c || c.before args0 about1) = true := by decide +kernel
set_option maxRecDepth 65536 in
theorem w_t3 : (((words1.drop 24).drop 24).take 24).all (fun c => isCode c || c.before args0 about1) = true := by decide +kernel
set_option maxRecDepth 65536 in
theorem w_t4 : ((((words1.drop 24).drop 24).drop 24).take 24).all (fun c => isCode c || c.before args0 about1) = true := by decide +kernel
set_option maxRecDepth 65536 in
theorem w_t5 : (((((words1.drop 24).drop 24).drop 24).drop 24).take 24).all (fun c => isCode c || c.before args0 about1) = true := by decide +kernel
set_option maxRecDepth 65536 in
theorem w_t6 : ((((((words1.drop 24).drop 24).drop 24).drop 24).drop 24).take 24).all (fun c => isCode c || c.before args0 about1) = true := by decide +kernel
set_option maxRecDepth 65536 in
theorem w_t7 : (((((((words1.drop 24).drop 24).drop 24).drop 24).drop 24).drop 24).take 24).all (fun c => isCode c || c.before args0 about1) = true := by decide +kernel
set_option maxRecDepth 65536 in
theorem w_t8 : ((((((((words1.drop 24).drop 24).drop 24).drop 24).drop 24).drop 24).drop 24).take 24).all (fun c => isCode c || c.before args0 about1) = true := by decide +kernel
set_option maxRecDepth 65536 in
theorem w_t9 : ((((((((words1.drop 24).drop 24).drop 24).drop 24).drop 24).drop 24).drop 24).drop 24).all (fun c => isCode c || c.before args0 about1) = true := by decide +kernel
theorem w_tables : (allAtoms (Jvm.Cond.code x code maxLocals ret :: tables_1)).before args0 about1 = true := by
  rw [allAtoms_all]
  show words1.all (fun c => c.before args0 about1) = true
  refine all_split ?_ w_codes
  rw [← List.take_append_drop 24 words1, List.all_append, w_t1, ← List.take_append_drop 24 (words1.drop 24), List.all_append, w_t2, ← List.take_append_drop 24 ((words1.drop 24).drop 24), List.all_append, w_t3, ← List.take_append_drop 24 (((words1.drop 24).drop 24).drop 24), List.all_append, w_t4, ← List.take_append_drop 24 ((((words1.drop 24).drop 24).drop 24).drop 24), List.all_append, w_t5, ← List.take_append_drop 24 (((((words1.drop 24).drop 24).drop 24).drop 24).drop 24), List.all_append, w_t6, ← List.take_append_drop 24 ((((((words1.drop 24).drop 24).drop 24).drop 24).drop 24).drop 24), List.all_append, w_t7, ← List.take_append_drop 24 (((((((words1.drop 24).drop 24).drop 24).drop 24).drop 24).drop 24).drop 24), List.all_append, w_t8, w_t9]
  rfl
set_option maxRecDepth 65536 in
theorem w_rest : rest_1_c.before args0 about1 = true := by decide +kernel
set_option maxRecDepth 65536 in
theorem w_case : (Jvm.Cond.and given_1 narrow_1).before args0 about1 = true := by decide +kernel
theorem w_applies : (headSpec (Jvm.Cond.code x code maxLocals ret :: tables_1) room_1).applies x e0.platform about1 = true :=
  (Spec.applies_iff w_frames).mpr ⟨w_running, w_runnable, w_alone, w_named, w_hears, w_ripe, w_room, w_tables⟩
theorem atStart : AtStart classFile x code maxLocals ret World_1 tables_1 room_1 Calls_1 rest_1 Pre_1 launch0 p0 e0 about1 theMethod args0 below0 :=
  ⟨lists_1, trivial, launch0.admits_env _ _ _, launch0.least_env, fairChoices_fair.cas, fairChoices_fair.clock, w_frames, w_args, w_heap, w_applies, trivial, w_rest, w_case⟩
end start1
theorem witness_1 : WitnessClaimed_1 := ⟨start1.p0, start1.e0, start1.about1, start1.theMethod, start1.args0, start1.below0, start1.atStart⟩
end Jvm.Pilot.@@N@@
